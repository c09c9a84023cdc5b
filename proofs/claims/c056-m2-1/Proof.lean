import JvmDerived
import JvmDerived.Pilot.@@N@@Statement
import JvmDerived.Pilot.@@N@@Code
set_option linter.unusedVariables false
set_option linter.unusedSimpArgs false
namespace Jvm.RoadKit
open Sem ClassFile Op Lib Jvm.Stand Jvm.Free Jvm.LawKit
section New
variable {p : Program} {l : Launch} {e : Env} {R : Room} {s : State} {m : MethodId} {args : Array Value} {below : List Frame} {meth : Method} {c : Code} {T : State} {locs : List Loc} {cells slots : Nat}
theorem retI (X : Stand p l e R s m args below meth c T locs cells slots) (hx : p.tables.exec = Jvm.exec) {pc : Nat} {Ls : Array Slot} {z : Int32} {rest : List Value} (hret : meth.sig.returnType = some .int) (hd : decode c.code pc = .ok (.ireturn, 1)) {fs : List Frame}
    (hl : ∀ (f : JFrame) (acts : List Action), f.method = m → f.locked = none → f.entered = [] → (doReturn e (T.setTop f) acts (some (.int z))).1 = T.setFrames fs) : Steps p.tables e below (T.setTop (mkF m pc Ls (.int z :: rest))) (T.setFrames fs) := by
  have hm' : T.vm.method? m = some meth := X.method'
  have hn : narrow .int (.int z) = .int z := rfl
  show Steps p.tables e below (T.setTop { method := m, pc := pc, locals := Ls, stack := _ :: rest, locked := none }) _
  jvm_step X.here [X.here.top, hx, hd, hm', hret, hn]
  first | (intro acts; rw [hl _ acts rfl rfl rfl]) | rw [hl _ _ rfl rfl rfl]
  exact Steps.refl _
end New
end Jvm.RoadKit
namespace Jvm.Pilot.@@N@@
open Jvm Jvm.ClassFile Sem Op Lib Jvm.Free Jvm.Stand Jvm.LawKit Jvm.RoadKit Bundle Jvm.Pilot.@@N@@.Jvm.D
/-- what a call that writes nothing leaves -/
def PureQ (rv : Option Value) (h0 : Heap) (n0 : Nat) (v : Option Value) (h : Heap) (L : List Loc) : Prop := v = rv ∧ Fr n0 L ∧ h = h0
/-- what the law leaves -/
def LawQ (n0 : Nat) (v : Option Value) (h : Heap) (L : List Loc) : Prop := v = some (.int (1 : Int32)) ∧ Fr n0 L
theorem own_fld {Z : State} {args : Array Value} {a : Addr} {t u : Term} {C n d : String} {v : Value} (ev : t.eval args Z none [] Z = some (.ref a)) (h : (Jvm.Cond.eq (Term.field t C n d) u).value args Z none Z [] = some true) (eu : u.eval args Z none [] Z = some v) : Fld Z Z.heap a C n d v := by
  obtain ⟨x, y, h1, h2, -⟩ := cmp_v (Or.inl h)
  have e2 : y = v := Option.some.inj (h2.symm.trans eu)
  subst e2
  have e3 : x = y := by
    simp only [Jvm.Cond.value, h1, h2] at h
    cases x <;> cases y <;> simp_all
  subst e3
  exact Fld.start ((fld_at ev).symm.trans h1)
abbrev vI (x : Int32) : Slot := .val (.int x)
abbrev vJ (x : Int64) : Slot := .val (.long x)
abbrev vR (x : Addr) : Slot := .val (.ref x)
abbrev GG (p : Program) (e : Env) (b : List Frame) (T : State) (f : JFrame) (t : State) : Prop := Steps p.tables e b (T.setTop f) t
abbrev cRV : String := "com/example/chaseward/chaseward/engine/RowValues"
theorem own_nsroot {Z : State} {a0 : Array Value} {O K : String} {n : Nat} (w : (Jvm.Cond.noSuperclass O).before a0 Z = true) (wk : (Jvm.Cond.instantiable K n).before a0 Z = true) (hn : O ≠ K) : NS Z O K := by
  obtain ⟨c, k, h1, h2, h3, -, -⟩ := Cond.noSuperclass_spec w
  obtain ⟨t, kt, g1, -⟩ := Cond.instantiable_spec wk
  have ne := ids_ne h1 g1 hn
  refine ⟨c, t, h1, g1, fun fuel => ?_⟩
  cases fuel with
  | zero => rfl
  | succ f => simp [Vm.isSubclassAux, ne, h2, h3]
theorem own_nsno {Z : State} {a0 : Array Value} {C S K : String} {n : Nat} (w : (Jvm.Cond.superclass C S).before a0 Z = true) (wk : (Jvm.Cond.instantiable K n).before a0 Z = true) (N : NS Z C K) (hn : C ≠ K) : ∃ c t, Z.vm.findClass C = some c ∧ Z.vm.findClass K = some t ∧ Z.vm.assignable c t = false := by
  obtain ⟨c, t, h0, g0, n3⟩ := N
  obtain ⟨p, k, kp, h1, h2, h3, h4, h5, -, h7⟩ := Cond.superclass_spec h0 w
  obtain ⟨t', kt, g1, g2, g3, g4, -⟩ := Cond.instantiable_spec wk
  cases g0.symm.trans g1
  have ne := ids_ne h0 g0 hn
  have g5 : kt.isInterface = false := by
    cases hq : kt.isInterface <;> simp [hq] at g4 ⊢
  refine ⟨c, t, h0, g0, ?_⟩
  show Z.vm.assignableAux (255 + 1) c t = false
  simp [Vm.assignableAux, ne, h2, g2, h5, g3, g5, Vm.isSubclass, n3]
theorem own_z0 {Z : State} {n0 : Nat} {h : Heap} (O : Old Z n0 h) : n0 ≤ h.size := O.1 ▸ O.2.1

theorem own_sel {s : State} {args : Array Value} {y : MethodName} {n : Nat} (wi : (Jvm.Cond.instantiable y.cls n).before args s = true) (wm : (Jvm.Cond.instanceMethod y).before args s = true) (wp : (Jvm.Cond.privateMethod y).before args s = true) (hy : y.cls ≠ "java/lang/invoke/MethodHandle" ∧ y.cls ≠ "java/lang/invoke/VarHandle") : (Jvm.Cond.selects y.cls y y).before args s = true := by
  obtain ⟨mk, methM, hnamed, hmethM, -, -⟩ := Cond.instanceMethod_spec wm
  obtain ⟨c, k, i1, i2, i3, i4, -⟩ := Cond.instantiable_spec wi
  have hsel : ∀ c', selectMethod {} s.vm c' mk = .method mk := fun c' => selectMethod_private hmethM (Cond.privateMethod_at wp mk methM hnamed hmethM)
  have hf := State.methodFound?_of_named hnamed hy
  have hcl := findClass_of_methodNamed hnamed
  cases i1.symm.trans hcl
  have hi : k.isInterface = false := by
    cases hq : k.isInterface <;> simp [hq] at i4 ⊢
  simp [Jvm.Cond.before, Jvm.Cond.holds, Jvm.Cond.value, i1, hf, hnamed, hsel, i2, hi]

def ownIn (b v : Int32) : Prop := b.toInt ≤ v.toInt ∧ v.toInt < b.toInt + 65536
def ownBt (l u v : Int32) : Prop := l.toInt ≤ v.toInt ∧ v.toInt ≤ u.toInt
theorem own_nar (x : Int32) : ((nar .char x).toInt - x.toInt) % 65536 = 0 ∧ 0 ≤ (nar .char x).toInt ∧ (nar .char x).toInt < 65536 := c_i2c x
theorem own_get {b v : Int32} (h : ownIn b v) : (b + (nar .char (v - b))) = v := by
  apply Int32.toInt_inj.mp
  obtain ⟨h1, h2⟩ := h
  have e1 := own_nar (v - b)
  have e2 := c_isub v b
  have e3 := c_iadd b (nar .char (v - b))
  have r1 := rng32 (b + nar .char (v - b))
  have r2 := rng32 v
  omega
theorem own_ch (v b b' : Int32) : (nar .char (((nar .char (v - b)) + ((b - b').toUInt32.toUInt16.toUInt32.toInt32)).toUInt32.toUInt16.toUInt32.toInt32)) = (nar .char (v - b')) := by
  apply Int32.toInt_inj.mp
  have e1 := own_nar (v - b)
  have e2 := c_isub v b
  have e3 := c_i2c (b - b')
  have e4 := c_isub b b'
  have e5 := c_iadd (nar .char (v - b)) ((b - b').toUInt32.toUInt16.toUInt32.toInt32)
  have e6 := c_i2c ((nar .char (v - b)) + ((b - b').toUInt32.toUInt16.toUInt32.toInt32))
  have e7 := own_nar (((nar .char (v - b)) + ((b - b').toUInt32.toUInt16.toUInt32.toInt32)).toUInt32.toUInt16.toUInt32.toInt32)
  have e8 := own_nar (v - b')
  have e9 := c_isub v b'
  omega
theorem own_c1 (x : Int32) : (nar .char (x.toUInt32.toUInt16.toUInt32.toInt32)) = (nar .char x) := by
  apply Int32.toInt_inj.mp
  have e1 := own_nar x
  have e2 := c_i2c x
  have e3 := own_nar (x.toUInt32.toUInt16.toUInt32.toInt32)
  omega

theorem ef_maxI (m : MethodId) (x0 : Int32) (x1 : Int32) : entryFrame m #[(.int x0), (.int x1)] 2 = mkF m 0 #[vI x0, vI x1] [] := by first | (simp [entryFrame, mkF, argsToLocals, Value.category]; done) | rfl
theorem d11_0 : decode jdk_29_method_65_code 0 = .ok (.iload_n 0, 1) := by decide +kernel
theorem d11_1 : decode jdk_29_method_65_code 1 = .ok (.iload_n 1, 1) := by decide +kernel
theorem d11_2 : decode jdk_29_method_65_code 2 = .ok (.if_icmp .lt 7, 3) := by decide +kernel
theorem d11_9 : decode jdk_29_method_65_code 9 = .ok (.iload_n 1, 1) := by decide +kernel
theorem d11_10 : decode jdk_29_method_65_code 10 = .ok (.ireturn, 1) := by decide +kernel
theorem d11_5 : decode jdk_29_method_65_code 5 = .ok (.iload_n 0, 1) := by decide +kernel
theorem d11_6 : decode jdk_29_method_65_code 6 = .ok (.goto 4, 3) := by decide +kernel
theorem ef_minI (m : MethodId) (x0 : Int32) (x1 : Int32) : entryFrame m #[(.int x0), (.int x1)] 2 = mkF m 0 #[vI x0, vI x1] [] := by first | (simp [entryFrame, mkF, argsToLocals, Value.category]; done) | rfl
theorem d9_0 : decode jdk_29_method_69_code 0 = .ok (.iload_n 0, 1) := by decide +kernel
theorem d9_1 : decode jdk_29_method_69_code 1 = .ok (.iload_n 1, 1) := by decide +kernel
theorem d9_2 : decode jdk_29_method_69_code 2 = .ok (.if_icmp .gt 7, 3) := by decide +kernel
theorem d9_9 : decode jdk_29_method_69_code 9 = .ok (.iload_n 1, 1) := by decide +kernel
theorem d9_10 : decode jdk_29_method_69_code 10 = .ok (.ireturn, 1) := by decide +kernel
theorem d9_5 : decode jdk_29_method_69_code 5 = .ok (.iload_n 0, 1) := by decide +kernel
theorem d9_6 : decode jdk_29_method_69_code 6 = .ok (.goto 4, 3) := by decide +kernel
theorem ef_maxL (m : MethodId) (x0 : Int64) (x1 : Int64) : entryFrame m #[(.long x0), (.long x1)] 4 = mkF m 0 #[vJ x0, .second, vJ x1, .second] [] := by first | (simp [entryFrame, mkF, argsToLocals, Value.category]; done) | rfl
theorem d7_0 : decode jdk_29_method_66_code 0 = .ok (.lload_n 0, 1) := by decide +kernel
theorem d7_1 : decode jdk_29_method_66_code 1 = .ok (.lload_n 2, 1) := by decide +kernel
theorem d7_2 : decode jdk_29_method_66_code 2 = .ok (.lcmp, 1) := by decide +kernel
theorem d7_3 : decode jdk_29_method_66_code 3 = .ok (.ifCond .lt 7, 3) := by decide +kernel
theorem d7_10 : decode jdk_29_method_66_code 10 = .ok (.lload_n 2, 1) := by decide +kernel
theorem d7_11 : decode jdk_29_method_66_code 11 = .ok (.lreturn, 1) := by decide +kernel
theorem d7_6 : decode jdk_29_method_66_code 6 = .ok (.lload_n 0, 1) := by decide +kernel
theorem d7_7 : decode jdk_29_method_66_code 7 = .ok (.goto 4, 3) := by decide +kernel
theorem pn_RowValues : plainName "com/example/chaseward/chaseward/engine/RowValues" = true := by first | (simp [plainName, overriddenIn]; done) | decide +kernel
theorem ef_base (m : MethodId) (x0 : Int32) (x1 : Int32) : entryFrame m #[(.int x0), (.int x1)] 4 = mkF m 0 #[vI x0, vI x1, .unset, .unset] [] := by first | (simp [entryFrame, mkF, argsToLocals, Value.category]; done) | rfl
theorem d6_0 : decode prog_47_method_8_code 0 = .ok (.ldc2_w 89, 3) := by decide +kernel
theorem wd49 {Z : State} {a0 : Array Value} (hw : ∀ d ∈ tables_1, d.before a0 Z = true) : (Jvm.Cond.constantLong cRV (89 : Nat) (65535 : Int64)).before a0 Z = true := hw _ (List.mem_of_getElem? (i := 49) rfl)
theorem d6_3 : decode prog_47_method_8_code 3 = .ok (.iload_n 1, 1) := by decide +kernel
theorem d6_4 : decode prog_47_method_8_code 4 = .ok (.i2l, 1) := by decide +kernel
theorem d6_5 : decode prog_47_method_8_code 5 = .ok (.iload_n 0, 1) := by decide +kernel
theorem d6_6 : decode prog_47_method_8_code 6 = .ok (.i2l, 1) := by decide +kernel
theorem d6_7 : decode prog_47_method_8_code 7 = .ok (.lsub, 1) := by decide +kernel
theorem d6_8 : decode prog_47_method_8_code 8 = .ok (.lsub, 1) := by decide +kernel
theorem d6_9 : decode prog_47_method_8_code 9 = .ok (.lstore_n 2, 1) := by decide +kernel
theorem d6_10 : decode prog_47_method_8_code 10 = .ok (.ldc2_w 93, 3) := by decide +kernel
theorem wd50 {Z : State} {a0 : Array Value} (hw : ∀ d ∈ tables_1, d.before a0 Z = true) : (Jvm.Cond.constantLong cRV (93 : Nat) (-2147483648 : Int64)).before a0 Z = true := hw _ (List.mem_of_getElem? (i := 50) rfl)
theorem d6_13 : decode prog_47_method_8_code 13 = .ok (.iload_n 0, 1) := by decide +kernel
theorem d6_14 : decode prog_47_method_8_code 14 = .ok (.i2l, 1) := by decide +kernel
theorem d6_15 : decode prog_47_method_8_code 15 = .ok (.lload_n 2, 1) := by decide +kernel
theorem d6_16 : decode prog_47_method_8_code 16 = .ok (.ldc2_w 95, 3) := by decide +kernel
theorem wd51 {Z : State} {a0 : Array Value} (hw : ∀ d ∈ tables_1, d.before a0 Z = true) : (Jvm.Cond.constantLong cRV (95 : Nat) (2 : Int64)).before a0 Z = true := hw _ (List.mem_of_getElem? (i := 51) rfl)
theorem d6_19 : decode prog_47_method_8_code 19 = .ok (.ldiv, 1) := by decide +kernel
theorem d6_20 : decode prog_47_method_8_code 20 = .ok (.lsub, 1) := by decide +kernel
theorem d6_21 : decode prog_47_method_8_code 21 = .ok (.invokestatic 97, 3) := by decide +kernel
theorem wd52 {Z : State} {a0 : Array Value} (hw : ∀ d ∈ tables_1, d.before a0 Z = true) : (Jvm.Cond.methodLink cRV (97 : Nat) ({ cls := "java/lang/Math", name := "max", desc := "(JJ)J" } : Jvm.MethodName)).before a0 Z = true := hw _ (List.mem_of_getElem? (i := 52) rfl)
theorem wd55 {Z : State} {a0 : Array Value} (hw : ∀ d ∈ tables_1, d.before a0 Z = true) : (Jvm.Cond.code ({ cls := "java/lang/Math", name := "max", desc := "(JJ)J" } : Jvm.MethodName) jdk_29_method_66_code (4 : Nat) (Option.some Jvm.ClassFile.FieldType.long)).before a0 Z = true := hw _ (List.mem_of_getElem? (i := 55) rfl)
theorem wd54 {Z : State} {a0 : Array Value} (hw : ∀ d ∈ tables_1, d.before a0 Z = true) : (Jvm.Cond.initialized "java/lang/Math").before a0 Z = true := hw _ (List.mem_of_getElem? (i := 54) rfl)
theorem pd__JJ_J_5 : parseMethodDescriptor "(JJ)J" = some ⟨[.long, .long], some .long⟩ := by decide +kernel
theorem wd53 {Z : State} {a0 : Array Value} (hw : ∀ d ∈ tables_1, d.before a0 Z = true) : (Jvm.Cond.static ({ cls := "java/lang/Math", name := "max", desc := "(JJ)J" } : Jvm.MethodName)).before a0 Z = true := hw _ (List.mem_of_getElem? (i := 53) rfl)
theorem d6_24 : decode prog_47_method_8_code 24 = .ok (.l2i, 1) := by decide +kernel
theorem d6_25 : decode prog_47_method_8_code 25 = .ok (.ireturn, 1) := by decide +kernel
theorem pn_RowValuesGetPinLaw : plainName "com/example/chaseward/chaseward/engine/RowValuesGetPinLaw" = true := by first | (simp [plainName, overriddenIn]; done) | decide +kernel
theorem ef_draw (m : MethodId) (x0 : Int32) (x1 : Int64) : entryFrame m #[(.int x0), (.long x1)] 3 = mkF m 0 #[vI x0, vJ x1, .second] [] := by first | (simp [entryFrame, mkF, argsToLocals, Value.category]; done) | rfl
theorem d1_0 : decode method_3_code 0 = .ok (.lload_n 1, 1) := by decide +kernel
theorem d1_1 : decode method_3_code 1 = .ok (.lconst 1, 1) := by decide +kernel
theorem d1_2 : decode method_3_code 2 = .ok (.land, 1) := by decide +kernel
theorem d1_3 : decode method_3_code 3 = .ok (.lconst 0, 1) := by decide +kernel
theorem d1_4 : decode method_3_code 4 = .ok (.lcmp, 1) := by decide +kernel
theorem d1_5 : decode method_3_code 5 = .ok (.ifCond .ne 14, 3) := by decide +kernel
theorem d1_8 : decode method_3_code 8 = .ok (.iload_n 0, 1) := by decide +kernel
theorem d1_9 : decode method_3_code 9 = .ok (.lload_n 1, 1) := by decide +kernel
theorem d1_10 : decode method_3_code 10 = .ok (.iconst 1, 1) := by decide +kernel
theorem d1_11 : decode method_3_code 11 = .ok (.lshr, 1) := by decide +kernel
theorem d1_12 : decode method_3_code 12 = .ok (.ldc2_w 26, 3) := by decide +kernel
theorem wd4 {Z : State} {a0 : Array Value} (hw : ∀ d ∈ tables_1, d.before a0 Z = true) : (Jvm.Cond.constantLong "com/example/chaseward/chaseward/engine/RowValuesGetPinLaw" (26 : Nat) (98304 : Int64)).before a0 Z = true := hw _ (List.mem_of_getElem? (i := 4) rfl)
theorem d1_15 : decode method_3_code 15 = .ok (.lrem, 1) := by decide +kernel
theorem d1_16 : decode method_3_code 16 = .ok (.l2i, 1) := by decide +kernel
theorem d1_17 : decode method_3_code 17 = .ok (.iadd, 1) := by decide +kernel
theorem d1_18 : decode method_3_code 18 = .ok (.ireturn, 1) := by decide +kernel
theorem d1_19 : decode method_3_code 19 = .ok (.lload_n 1, 1) := by decide +kernel
theorem d1_20 : decode method_3_code 20 = .ok (.iconst 1, 1) := by decide +kernel
theorem d1_21 : decode method_3_code 21 = .ok (.lshr, 1) := by decide +kernel
theorem d1_22 : decode method_3_code 22 = .ok (.l2i, 1) := by decide +kernel
theorem d1_23 : decode method_3_code 23 = .ok (.ireturn, 1) := by decide +kernel
theorem ef_rvInit2 (m : MethodId) (x0 : Addr) : entryFrame m #[(.ref x0), (.int 2)] 2 = mkF m 0 #[vR x0, vI 2] [] := by first | (simp [entryFrame, mkF, argsToLocals, Value.category]; done) | rfl
theorem d2_0 : decode prog_47_method_1_code 0 = .ok (.aload_n 0, 1) := by decide +kernel
theorem d2_1 : decode prog_47_method_1_code 1 = .ok (.invokespecial 1, 3) := by decide +kernel
theorem wd12 {Z : State} {a0 : Array Value} (hw : ∀ d ∈ tables_1, d.before a0 Z = true) : (Jvm.Cond.methodLink cRV (1 : Nat) ({ cls := "java/lang/Object", name := "<init>", desc := "()V" } : Jvm.MethodName)).before a0 Z = true := hw _ (List.mem_of_getElem? (i := 12) rfl)
theorem wd13 {Z : State} {a0 : Array Value} (hw : ∀ d ∈ tables_1, d.before a0 Z = true) : (Jvm.Cond.instanceMethod ({ cls := "java/lang/Object", name := "<init>", desc := "()V" } : Jvm.MethodName)).before a0 Z = true := hw _ (List.mem_of_getElem? (i := 13) rfl)
theorem wd14 {Z : State} {a0 : Array Value} (hw : ∀ d ∈ tables_1, d.before a0 Z = true) : (Jvm.Cond.code ({ cls := "java/lang/Object", name := "<init>", desc := "()V" } : Jvm.MethodName) object_method_1_code (1 : Nat) (Option.none : Option Jvm.ClassFile.FieldType)).before a0 Z = true := hw _ (List.mem_of_getElem? (i := 14) rfl)
theorem d2_4 : decode prog_47_method_1_code 4 = .ok (.aload_n 0, 1) := by decide +kernel
theorem d2_5 : decode prog_47_method_1_code 5 = .ok (.iconst 1, 1) := by decide +kernel
theorem d2_6 : decode prog_47_method_1_code 6 = .ok (.anewarray 7, 3) := by decide +kernel
theorem wd15 {Z : State} {a0 : Array Value} (hw : ∀ d ∈ tables_1, d.before a0 Z = true) : (Jvm.Cond.classLink cRV (7 : Nat) "[I").before a0 Z = true := hw _ (List.mem_of_getElem? (i := 15) rfl)
theorem wd16 {Z : State} {a0 : Array Value} (hw : ∀ d ∈ tables_1, d.before a0 Z = true) : (Jvm.Cond.arrayOver (Jvm.ClassFile.FieldType.array Jvm.ClassFile.FieldType.int)).before a0 Z = true := hw _ (List.mem_of_getElem? (i := 16) rfl)
theorem d2_9 : decode prog_47_method_1_code 9 = .ok (.putfield 9, 3) := by decide +kernel
theorem wd17 {Z : State} {a0 : Array Value} (hw : ∀ d ∈ tables_1, d.before a0 Z = true) : (Jvm.Cond.fieldLink cRV (9 : Nat) cRV "wide" "[[I").before a0 Z = true := hw _ (List.mem_of_getElem? (i := 17) rfl)
theorem wd18 {Z : State} {a0 : Array Value} (hw : ∀ d ∈ tables_1, d.before a0 Z = true) : (Jvm.Cond.lays cRV cRV "wide" "[[I").before a0 Z = true := hw _ (List.mem_of_getElem? (i := 18) rfl)
theorem wd7 {Z : State} {a0 : Array Value} (hw : ∀ d ∈ tables_1, d.before a0 Z = true) : (Jvm.Cond.instantiable cRV (7 : Nat)).before a0 Z = true := hw _ (List.mem_of_getElem? (i := 7) rfl)
theorem d2_12 : decode prog_47_method_1_code 12 = .ok (.aload_n 0, 1) := by decide +kernel
theorem d2_13 : decode prog_47_method_1_code 13 = .ok (.iconst 1, 1) := by decide +kernel
theorem d2_14 : decode prog_47_method_1_code 14 = .ok (.anewarray 15, 3) := by decide +kernel
theorem wd19 {Z : State} {a0 : Array Value} (hw : ∀ d ∈ tables_1, d.before a0 Z = true) : (Jvm.Cond.classLink cRV (15 : Nat) "[C").before a0 Z = true := hw _ (List.mem_of_getElem? (i := 19) rfl)
theorem wd20 {Z : State} {a0 : Array Value} (hw : ∀ d ∈ tables_1, d.before a0 Z = true) : (Jvm.Cond.arrayOver (Jvm.ClassFile.FieldType.array Jvm.ClassFile.FieldType.char)).before a0 Z = true := hw _ (List.mem_of_getElem? (i := 20) rfl)
theorem d2_17 : decode prog_47_method_1_code 17 = .ok (.putfield 17, 3) := by decide +kernel
theorem wd21 {Z : State} {a0 : Array Value} (hw : ∀ d ∈ tables_1, d.before a0 Z = true) : (Jvm.Cond.fieldLink cRV (17 : Nat) cRV "narrow" "[[C").before a0 Z = true := hw _ (List.mem_of_getElem? (i := 21) rfl)
theorem wd22 {Z : State} {a0 : Array Value} (hw : ∀ d ∈ tables_1, d.before a0 Z = true) : (Jvm.Cond.lays cRV cRV "narrow" "[[C").before a0 Z = true := hw _ (List.mem_of_getElem? (i := 22) rfl)
theorem d2_20 : decode prog_47_method_1_code 20 = .ok (.aload_n 0, 1) := by decide +kernel
theorem d2_21 : decode prog_47_method_1_code 21 = .ok (.iload_n 1, 1) := by decide +kernel
theorem d2_22 : decode prog_47_method_1_code 22 = .ok (.putfield 21, 3) := by decide +kernel
theorem wd23 {Z : State} {a0 : Array Value} (hw : ∀ d ∈ tables_1, d.before a0 Z = true) : (Jvm.Cond.fieldLink cRV (21 : Nat) cRV "arity" "I").before a0 Z = true := hw _ (List.mem_of_getElem? (i := 23) rfl)
theorem wd24 {Z : State} {a0 : Array Value} (hw : ∀ d ∈ tables_1, d.before a0 Z = true) : (Jvm.Cond.laysFinal cRV cRV "arity" "I").before a0 Z = true := hw _ (List.mem_of_getElem? (i := 24) rfl)
theorem d2_25 : decode prog_47_method_1_code 25 = .ok (.aload_n 0, 1) := by decide +kernel
theorem d2_26 : decode prog_47_method_1_code 26 = .ok (.iload_n 1, 1) := by decide +kernel
theorem d2_27 : decode prog_47_method_1_code 27 = .ok (.newarray .int, 2) := by decide +kernel
theorem wd5 {Z : State} {a0 : Array Value} (hw : ∀ d ∈ tables_1, d.before a0 Z = true) : (Jvm.Cond.arrayClass Jvm.ClassFile.FieldType.int).before a0 Z = true := hw _ (List.mem_of_getElem? (i := 5) rfl)
theorem d2_29 : decode prog_47_method_1_code 29 = .ok (.putfield 25, 3) := by decide +kernel
theorem wd25 {Z : State} {a0 : Array Value} (hw : ∀ d ∈ tables_1, d.before a0 Z = true) : (Jvm.Cond.fieldLink cRV (25 : Nat) cRV "bases" "[I").before a0 Z = true := hw _ (List.mem_of_getElem? (i := 25) rfl)
theorem wd26 {Z : State} {a0 : Array Value} (hw : ∀ d ∈ tables_1, d.before a0 Z = true) : (Jvm.Cond.lays cRV cRV "bases" "[I").before a0 Z = true := hw _ (List.mem_of_getElem? (i := 26) rfl)
theorem d2_32 : decode prog_47_method_1_code 32 = .ok (.aload_n 0, 1) := by decide +kernel
theorem d2_33 : decode prog_47_method_1_code 33 = .ok (.iload_n 1, 1) := by decide +kernel
theorem d2_34 : decode prog_47_method_1_code 34 = .ok (.newarray .int, 2) := by decide +kernel
theorem d2_36 : decode prog_47_method_1_code 36 = .ok (.putfield 28, 3) := by decide +kernel
theorem wd27 {Z : State} {a0 : Array Value} (hw : ∀ d ∈ tables_1, d.before a0 Z = true) : (Jvm.Cond.fieldLink cRV (28 : Nat) cRV "lowest" "[I").before a0 Z = true := hw _ (List.mem_of_getElem? (i := 27) rfl)
theorem wd28 {Z : State} {a0 : Array Value} (hw : ∀ d ∈ tables_1, d.before a0 Z = true) : (Jvm.Cond.laysFinal cRV cRV "lowest" "[I").before a0 Z = true := hw _ (List.mem_of_getElem? (i := 28) rfl)
theorem d2_39 : decode prog_47_method_1_code 39 = .ok (.aload_n 0, 1) := by decide +kernel
theorem d2_40 : decode prog_47_method_1_code 40 = .ok (.iload_n 1, 1) := by decide +kernel
theorem d2_41 : decode prog_47_method_1_code 41 = .ok (.newarray .int, 2) := by decide +kernel
theorem d2_43 : decode prog_47_method_1_code 43 = .ok (.putfield 31, 3) := by decide +kernel
theorem wd29 {Z : State} {a0 : Array Value} (hw : ∀ d ∈ tables_1, d.before a0 Z = true) : (Jvm.Cond.fieldLink cRV (31 : Nat) cRV "highest" "[I").before a0 Z = true := hw _ (List.mem_of_getElem? (i := 29) rfl)
theorem wd30 {Z : State} {a0 : Array Value} (hw : ∀ d ∈ tables_1, d.before a0 Z = true) : (Jvm.Cond.laysFinal cRV cRV "highest" "[I").before a0 Z = true := hw _ (List.mem_of_getElem? (i := 30) rfl)
theorem d2_46 : decode prog_47_method_1_code 46 = .ok (.aload_n 0, 1) := by decide +kernel
theorem d2_47 : decode prog_47_method_1_code 47 = .ok (.getfield 17, 3) := by decide +kernel
theorem d2_50 : decode prog_47_method_1_code 50 = .ok (.iconst 0, 1) := by decide +kernel
theorem d2_51 : decode prog_47_method_1_code 51 = .ok (.bipush 8, 2) := by decide +kernel
theorem d2_53 : decode prog_47_method_1_code 53 = .ok (.iload_n 1, 1) := by decide +kernel
theorem d2_54 : decode prog_47_method_1_code 54 = .ok (.imul, 1) := by decide +kernel
theorem d2_55 : decode prog_47_method_1_code 55 = .ok (.newarray .char, 2) := by decide +kernel
theorem wd31 {Z : State} {a0 : Array Value} (hw : ∀ d ∈ tables_1, d.before a0 Z = true) : (Jvm.Cond.arrayClass Jvm.ClassFile.FieldType.char).before a0 Z = true := hw _ (List.mem_of_getElem? (i := 31) rfl)
theorem d2_57 : decode prog_47_method_1_code 57 = .ok (.aastore, 1) := by decide +kernel
theorem d2_58 : decode prog_47_method_1_code 58 = .ok (.return_, 1) := by decide +kernel
theorem wd39 {Z : State} {a0 : Array Value} (hw : ∀ d ∈ tables_1, d.before a0 Z = true) : (Jvm.Cond.lays cRV cRV "rows" "I").before a0 Z = true := hw _ (List.mem_of_getElem? (i := 39) rfl)
theorem ef_start2 (m : MethodId) (x0 : Addr) (x2 : Addr) : entryFrame m #[(.ref x0), (.int 0), (.ref x2)] 4 = mkF m 0 #[vR x0, vI 0, vR x2, .unset] [] := by first | (simp [entryFrame, mkF, argsToLocals, Value.category]; done) | rfl
theorem d5_0 : decode prog_47_method_5_code 0 = .ok (.iload_n 1, 1) := by decide +kernel
theorem d5_1 : decode prog_47_method_5_code 1 = .ok (.aload_n 0, 1) := by decide +kernel
theorem d5_2 : decode prog_47_method_5_code 2 = .ok (.getfield 9, 3) := by decide +kernel
theorem d5_5 : decode prog_47_method_5_code 5 = .ok (.arraylength, 1) := by decide +kernel
theorem d5_6 : decode prog_47_method_5_code 6 = .ok (.if_icmp .ne 56, 3) := by decide +kernel
theorem d5_62 : decode prog_47_method_5_code 62 = .ok (.iload_n 1, 1) := by decide +kernel
theorem d5_63 : decode prog_47_method_5_code 63 = .ok (.ifCond .le 19, 3) := by decide +kernel
theorem d5_82 : decode prog_47_method_5_code 82 = .ok (.iconst 0, 1) := by decide +kernel
theorem d5_83 : decode prog_47_method_5_code 83 = .ok (.istore_n 3, 1) := by decide +kernel
theorem d5_84 : decode prog_47_method_5_code 84 = .ok (.iload_n 3, 1) := by decide +kernel
theorem d5_85 : decode prog_47_method_5_code 85 = .ok (.aload_n 0, 1) := by decide +kernel
theorem d5_86 : decode prog_47_method_5_code 86 = .ok (.getfield 21, 3) := by decide +kernel
theorem d5_89 : decode prog_47_method_5_code 89 = .ok (.if_icmp .ge 31, 3) := by decide +kernel
theorem d5_92 : decode prog_47_method_5_code 92 = .ok (.aload_n 0, 1) := by decide +kernel
theorem d5_93 : decode prog_47_method_5_code 93 = .ok (.getfield 25, 3) := by decide +kernel
theorem d5_96 : decode prog_47_method_5_code 96 = .ok (.iload_n 1, 1) := by decide +kernel
theorem d5_97 : decode prog_47_method_5_code 97 = .ok (.aload_n 0, 1) := by decide +kernel
theorem d5_98 : decode prog_47_method_5_code 98 = .ok (.getfield 21, 3) := by decide +kernel
theorem d5_101 : decode prog_47_method_5_code 101 = .ok (.imul, 1) := by decide +kernel
theorem d5_102 : decode prog_47_method_5_code 102 = .ok (.iload_n 3, 1) := by decide +kernel
theorem d5_103 : decode prog_47_method_5_code 103 = .ok (.iadd, 1) := by decide +kernel
theorem d5_104 : decode prog_47_method_5_code 104 = .ok (.aload_n 2, 1) := by decide +kernel
theorem d5_105 : decode prog_47_method_5_code 105 = .ok (.iload_n 3, 1) := by decide +kernel
theorem d5_106 : decode prog_47_method_5_code 106 = .ok (.iaload, 1) := by decide +kernel
theorem d5_107 : decode prog_47_method_5_code 107 = .ok (.aload_n 2, 1) := by decide +kernel
theorem d5_108 : decode prog_47_method_5_code 108 = .ok (.iload_n 3, 1) := by decide +kernel
theorem d5_109 : decode prog_47_method_5_code 109 = .ok (.iaload, 1) := by decide +kernel
theorem d5_110 : decode prog_47_method_5_code 110 = .ok (.invokestatic 63, 3) := by decide +kernel
theorem wd46 {Z : State} {a0 : Array Value} (hw : ∀ d ∈ tables_1, d.before a0 Z = true) : (Jvm.Cond.methodLink cRV (63 : Nat) ({ cls := cRV, name := "base", desc := "(II)I" } : Jvm.MethodName)).before a0 Z = true := hw _ (List.mem_of_getElem? (i := 46) rfl)
theorem wd48 {Z : State} {a0 : Array Value} (hw : ∀ d ∈ tables_1, d.before a0 Z = true) : (Jvm.Cond.code ({ cls := cRV, name := "base", desc := "(II)I" } : Jvm.MethodName) prog_47_method_8_code (4 : Nat) (Option.some Jvm.ClassFile.FieldType.int)).before a0 Z = true := hw _ (List.mem_of_getElem? (i := 48) rfl)
theorem wd8 {Z : State} {a0 : Array Value} (hw : ∀ d ∈ tables_1, d.before a0 Z = true) : (Jvm.Cond.initialized cRV).before a0 Z = true := hw _ (List.mem_of_getElem? (i := 8) rfl)
theorem pd__II_I_5 : parseMethodDescriptor "(II)I" = some ⟨[.int, .int], some .int⟩ := by decide +kernel
theorem wd47 {Z : State} {a0 : Array Value} (hw : ∀ d ∈ tables_1, d.before a0 Z = true) : (Jvm.Cond.static ({ cls := cRV, name := "base", desc := "(II)I" } : Jvm.MethodName)).before a0 Z = true := hw _ (List.mem_of_getElem? (i := 47) rfl)
theorem d5_113 : decode prog_47_method_5_code 113 = .ok (.iastore, 1) := by decide +kernel
theorem d5_114 : decode prog_47_method_5_code 114 = .ok (.iinc 3 1, 3) := by decide +kernel
theorem d5_117 : decode prog_47_method_5_code 117 = .ok (.goto (-33), 3) := by decide +kernel
theorem d5_120 : decode prog_47_method_5_code 120 = .ok (.aload_n 2, 1) := by decide +kernel
theorem d5_121 : decode prog_47_method_5_code 121 = .ok (.iconst 0, 1) := by decide +kernel
theorem d5_122 : decode prog_47_method_5_code 122 = .ok (.aload_n 0, 1) := by decide +kernel
theorem d5_123 : decode prog_47_method_5_code 123 = .ok (.getfield 28, 3) := by decide +kernel
theorem d5_126 : decode prog_47_method_5_code 126 = .ok (.iconst 0, 1) := by decide +kernel
theorem d5_127 : decode prog_47_method_5_code 127 = .ok (.aload_n 0, 1) := by decide +kernel
theorem d5_128 : decode prog_47_method_5_code 128 = .ok (.getfield 21, 3) := by decide +kernel
theorem d5_131 : decode prog_47_method_5_code 131 = .ok (.invokestatic 67, 3) := by decide +kernel
theorem wd56 {Z : State} {a0 : Array Value} (hw : ∀ d ∈ tables_1, d.before a0 Z = true) : (Jvm.Cond.methodLink cRV (67 : Nat) ({ cls := "java/lang/System", name := "arraycopy", desc := "(Ljava/lang/Object;ILjava/lang/Object;II)V" } : Jvm.MethodName)).before a0 Z = true := hw _ (List.mem_of_getElem? (i := 56) rfl)
theorem wd59 {Z : State} {a0 : Array Value} (hw : ∀ d ∈ tables_1, d.before a0 Z = true) : (Jvm.Cond.native ({ cls := "java/lang/System", name := "arraycopy", desc := "(Ljava/lang/Object;ILjava/lang/Object;II)V" } : Jvm.MethodName)).before a0 Z = true := hw _ (List.mem_of_getElem? (i := 59) rfl)
theorem wd57 {Z : State} {a0 : Array Value} (hw : ∀ d ∈ tables_1, d.before a0 Z = true) : (Jvm.Cond.static ({ cls := "java/lang/System", name := "arraycopy", desc := "(Ljava/lang/Object;ILjava/lang/Object;II)V" } : Jvm.MethodName)).before a0 Z = true := hw _ (List.mem_of_getElem? (i := 57) rfl)
theorem wd58 {Z : State} {a0 : Array Value} (hw : ∀ d ∈ tables_1, d.before a0 Z = true) : (Jvm.Cond.initialized "java/lang/System").before a0 Z = true := hw _ (List.mem_of_getElem? (i := 58) rfl)
theorem d5_134 : decode prog_47_method_5_code 134 = .ok (.aload_n 2, 1) := by decide +kernel
theorem d5_135 : decode prog_47_method_5_code 135 = .ok (.iconst 0, 1) := by decide +kernel
theorem d5_136 : decode prog_47_method_5_code 136 = .ok (.aload_n 0, 1) := by decide +kernel
theorem d5_137 : decode prog_47_method_5_code 137 = .ok (.getfield 31, 3) := by decide +kernel
theorem d5_140 : decode prog_47_method_5_code 140 = .ok (.iconst 0, 1) := by decide +kernel
theorem d5_141 : decode prog_47_method_5_code 141 = .ok (.aload_n 0, 1) := by decide +kernel
theorem d5_142 : decode prog_47_method_5_code 142 = .ok (.getfield 21, 3) := by decide +kernel
theorem d5_145 : decode prog_47_method_5_code 145 = .ok (.invokestatic 67, 3) := by decide +kernel
theorem d5_148 : decode prog_47_method_5_code 148 = .ok (.return_, 1) := by decide +kernel
theorem ef_room2N0 (m : MethodId) (x0 : Addr) : entryFrame m #[(.ref x0), (.int 0), (.int 0)] 5 = mkF m 0 #[vR x0, vI 0, vI 0, .unset, .unset] [] := by first | (simp [entryFrame, mkF, argsToLocals, Value.category]; done) | rfl
theorem d8_0 : decode prog_47_method_6_code 0 = .ok (.iload_n 2, 1) := by decide +kernel
theorem d8_1 : decode prog_47_method_6_code 1 = .ok (.iconst 1, 1) := by decide +kernel
theorem d8_2 : decode prog_47_method_6_code 2 = .ok (.iadd, 1) := by decide +kernel
theorem d8_3 : decode prog_47_method_6_code 3 = .ok (.aload_n 0, 1) := by decide +kernel
theorem d8_4 : decode prog_47_method_6_code 4 = .ok (.getfield 21, 3) := by decide +kernel
theorem d8_7 : decode prog_47_method_6_code 7 = .ok (.imul, 1) := by decide +kernel
theorem d8_8 : decode prog_47_method_6_code 8 = .ok (.istore_n 3, 1) := by decide +kernel
theorem d8_9 : decode prog_47_method_6_code 9 = .ok (.iconst 2, 1) := by decide +kernel
theorem d8_10 : decode prog_47_method_6_code 10 = .ok (.iload_n 2, 1) := by decide +kernel
theorem d8_11 : decode prog_47_method_6_code 11 = .ok (.imul, 1) := by decide +kernel
theorem d8_12 : decode prog_47_method_6_code 12 = .ok (.sipush 4096, 3) := by decide +kernel
theorem d8_15 : decode prog_47_method_6_code 15 = .ok (.invokestatic 73, 3) := by decide +kernel
theorem wd64 {Z : State} {a0 : Array Value} (hw : ∀ d ∈ tables_1, d.before a0 Z = true) : (Jvm.Cond.methodLink cRV (73 : Nat) ({ cls := "java/lang/Math", name := "min", desc := "(II)I" } : Jvm.MethodName)).before a0 Z = true := hw _ (List.mem_of_getElem? (i := 64) rfl)
theorem wd66 {Z : State} {a0 : Array Value} (hw : ∀ d ∈ tables_1, d.before a0 Z = true) : (Jvm.Cond.code ({ cls := "java/lang/Math", name := "min", desc := "(II)I" } : Jvm.MethodName) jdk_29_method_69_code (2 : Nat) (Option.some Jvm.ClassFile.FieldType.int)).before a0 Z = true := hw _ (List.mem_of_getElem? (i := 66) rfl)
theorem wd65 {Z : State} {a0 : Array Value} (hw : ∀ d ∈ tables_1, d.before a0 Z = true) : (Jvm.Cond.static ({ cls := "java/lang/Math", name := "min", desc := "(II)I" } : Jvm.MethodName)).before a0 Z = true := hw _ (List.mem_of_getElem? (i := 65) rfl)
theorem d8_18 : decode prog_47_method_6_code 18 = .ok (.aload_n 0, 1) := by decide +kernel
theorem d8_19 : decode prog_47_method_6_code 19 = .ok (.getfield 21, 3) := by decide +kernel
theorem d8_22 : decode prog_47_method_6_code 22 = .ok (.imul, 1) := by decide +kernel
theorem d8_23 : decode prog_47_method_6_code 23 = .ok (.istore 4, 2) := by decide +kernel
theorem d8_25 : decode prog_47_method_6_code 25 = .ok (.aload_n 0, 1) := by decide +kernel
theorem d8_26 : decode prog_47_method_6_code 26 = .ok (.getfield 17, 3) := by decide +kernel
theorem d8_29 : decode prog_47_method_6_code 29 = .ok (.iload_n 1, 1) := by decide +kernel
theorem d8_30 : decode prog_47_method_6_code 30 = .ok (.aaload, 1) := by decide +kernel
theorem d8_31 : decode prog_47_method_6_code 31 = .ok (.ifnull 34, 3) := by decide +kernel
theorem d8_34 : decode prog_47_method_6_code 34 = .ok (.iload_n 3, 1) := by decide +kernel
theorem d8_35 : decode prog_47_method_6_code 35 = .ok (.aload_n 0, 1) := by decide +kernel
theorem d8_36 : decode prog_47_method_6_code 36 = .ok (.getfield 17, 3) := by decide +kernel
theorem d8_39 : decode prog_47_method_6_code 39 = .ok (.iload_n 1, 1) := by decide +kernel
theorem d8_40 : decode prog_47_method_6_code 40 = .ok (.aaload, 1) := by decide +kernel
theorem d8_41 : decode prog_47_method_6_code 41 = .ok (.arraylength, 1) := by decide +kernel
theorem d8_42 : decode prog_47_method_6_code 42 = .ok (.if_icmp .le 23, 3) := by decide +kernel
theorem d8_65 : decode prog_47_method_6_code 65 = .ok (.aload_n 0, 1) := by decide +kernel
theorem d8_66 : decode prog_47_method_6_code 66 = .ok (.getfield 9, 3) := by decide +kernel
theorem d8_69 : decode prog_47_method_6_code 69 = .ok (.iload_n 1, 1) := by decide +kernel
theorem d8_70 : decode prog_47_method_6_code 70 = .ok (.aaload, 1) := by decide +kernel
theorem d8_71 : decode prog_47_method_6_code 71 = .ok (.ifnull 31, 3) := by decide +kernel
theorem d8_102 : decode prog_47_method_6_code 102 = .ok (.return_, 1) := by decide +kernel
theorem ef_room2N1 (m : MethodId) (x0 : Addr) : entryFrame m #[(.ref x0), (.int 0), (.int 1)] 5 = mkF m 0 #[vR x0, vI 0, vI 1, .unset, .unset] [] := by first | (simp [entryFrame, mkF, argsToLocals, Value.category]; done) | rfl
theorem ef_room2N2 (m : MethodId) (x0 : Addr) : entryFrame m #[(.ref x0), (.int 0), (.int 2)] 5 = mkF m 0 #[vR x0, vI 0, vI 2, .unset, .unset] [] := by first | (simp [entryFrame, mkF, argsToLocals, Value.category]; done) | rfl
theorem ef_room2W2 (m : MethodId) (x0 : Addr) : entryFrame m #[(.ref x0), (.int 0), (.int 2)] 5 = mkF m 0 #[vR x0, vI 0, vI 2, .unset, .unset] [] := by first | (simp [entryFrame, mkF, argsToLocals, Value.category]; done) | rfl
theorem d8_74 : decode prog_47_method_6_code 74 = .ok (.iload_n 3, 1) := by decide +kernel
theorem d8_75 : decode prog_47_method_6_code 75 = .ok (.aload_n 0, 1) := by decide +kernel
theorem d8_76 : decode prog_47_method_6_code 76 = .ok (.getfield 9, 3) := by decide +kernel
theorem d8_79 : decode prog_47_method_6_code 79 = .ok (.iload_n 1, 1) := by decide +kernel
theorem d8_80 : decode prog_47_method_6_code 80 = .ok (.aaload, 1) := by decide +kernel
theorem d8_81 : decode prog_47_method_6_code 81 = .ok (.arraylength, 1) := by decide +kernel
theorem d8_82 : decode prog_47_method_6_code 82 = .ok (.if_icmp .le 20, 3) := by decide +kernel
theorem ef_fit2_0 (m : MethodId) (x0 : Addr) (x3 : Addr) : entryFrame m #[(.ref x0), (.int 0), (.int 0), (.ref x3)] 11 = mkF m 0 #[vR x0, vI 0, vI 0, vR x3, .unset, .unset, .unset, .unset, .unset, .unset, .unset] [] := by first | (simp [entryFrame, mkF, argsToLocals, Value.category]; done) | rfl
theorem d10_0 : decode prog_47_method_7_code 0 = .ok (.iconst 0, 1) := by decide +kernel
theorem d10_1 : decode prog_47_method_7_code 1 = .ok (.istore 4, 2) := by decide +kernel
theorem d10_3 : decode prog_47_method_7_code 3 = .ok (.iload 4, 2) := by decide +kernel
theorem d10_5 : decode prog_47_method_7_code 5 = .ok (.aload_n 0, 1) := by decide +kernel
theorem d10_6 : decode prog_47_method_7_code 6 = .ok (.getfield 21, 3) := by decide +kernel
theorem d10_9 : decode prog_47_method_7_code 9 = .ok (.if_icmp .ge 58, 3) := by decide +kernel
theorem d10_12 : decode prog_47_method_7_code 12 = .ok (.aload_n 3, 1) := by decide +kernel
theorem d10_13 : decode prog_47_method_7_code 13 = .ok (.iload 4, 2) := by decide +kernel
theorem d10_15 : decode prog_47_method_7_code 15 = .ok (.iaload, 1) := by decide +kernel
theorem d10_16 : decode prog_47_method_7_code 16 = .ok (.aload_n 0, 1) := by decide +kernel
theorem d10_17 : decode prog_47_method_7_code 17 = .ok (.getfield 31, 3) := by decide +kernel
theorem d10_20 : decode prog_47_method_7_code 20 = .ok (.iload 4, 2) := by decide +kernel
theorem d10_22 : decode prog_47_method_7_code 22 = .ok (.iaload, 1) := by decide +kernel
theorem d10_23 : decode prog_47_method_7_code 23 = .ok (.invokestatic 81, 3) := by decide +kernel
theorem wd71 {Z : State} {a0 : Array Value} (hw : ∀ d ∈ tables_1, d.before a0 Z = true) : (Jvm.Cond.methodLink cRV (81 : Nat) ({ cls := "java/lang/Math", name := "max", desc := "(II)I" } : Jvm.MethodName)).before a0 Z = true := hw _ (List.mem_of_getElem? (i := 71) rfl)
theorem wd73 {Z : State} {a0 : Array Value} (hw : ∀ d ∈ tables_1, d.before a0 Z = true) : (Jvm.Cond.code ({ cls := "java/lang/Math", name := "max", desc := "(II)I" } : Jvm.MethodName) jdk_29_method_65_code (2 : Nat) (Option.some Jvm.ClassFile.FieldType.int)).before a0 Z = true := hw _ (List.mem_of_getElem? (i := 73) rfl)
theorem wd72 {Z : State} {a0 : Array Value} (hw : ∀ d ∈ tables_1, d.before a0 Z = true) : (Jvm.Cond.static ({ cls := "java/lang/Math", name := "max", desc := "(II)I" } : Jvm.MethodName)).before a0 Z = true := hw _ (List.mem_of_getElem? (i := 72) rfl)
theorem d10_26 : decode prog_47_method_7_code 26 = .ok (.i2l, 1) := by decide +kernel
theorem d10_27 : decode prog_47_method_7_code 27 = .ok (.aload_n 3, 1) := by decide +kernel
theorem d10_28 : decode prog_47_method_7_code 28 = .ok (.iload 4, 2) := by decide +kernel
theorem d10_30 : decode prog_47_method_7_code 30 = .ok (.iaload, 1) := by decide +kernel
theorem d10_31 : decode prog_47_method_7_code 31 = .ok (.aload_n 0, 1) := by decide +kernel
theorem d10_32 : decode prog_47_method_7_code 32 = .ok (.getfield 28, 3) := by decide +kernel
theorem d10_35 : decode prog_47_method_7_code 35 = .ok (.iload 4, 2) := by decide +kernel
theorem d10_37 : decode prog_47_method_7_code 37 = .ok (.iaload, 1) := by decide +kernel
theorem d10_38 : decode prog_47_method_7_code 38 = .ok (.invokestatic 73, 3) := by decide +kernel
theorem d10_41 : decode prog_47_method_7_code 41 = .ok (.i2l, 1) := by decide +kernel
theorem d10_42 : decode prog_47_method_7_code 42 = .ok (.lsub, 1) := by decide +kernel
theorem d10_43 : decode prog_47_method_7_code 43 = .ok (.lstore 5, 2) := by decide +kernel
theorem d10_45 : decode prog_47_method_7_code 45 = .ok (.lload 5, 2) := by decide +kernel
theorem d10_47 : decode prog_47_method_7_code 47 = .ok (.ldc2_w 84, 3) := by decide +kernel
theorem wd74 {Z : State} {a0 : Array Value} (hw : ∀ d ∈ tables_1, d.before a0 Z = true) : (Jvm.Cond.constantLong cRV (84 : Nat) (65536 : Int64)).before a0 Z = true := hw _ (List.mem_of_getElem? (i := 74) rfl)
theorem d10_50 : decode prog_47_method_7_code 50 = .ok (.lcmp, 1) := by decide +kernel
theorem d10_51 : decode prog_47_method_7_code 51 = .ok (.ifCond .lt 10, 3) := by decide +kernel
theorem d10_61 : decode prog_47_method_7_code 61 = .ok (.iinc 4 1, 3) := by decide +kernel
theorem d10_64 : decode prog_47_method_7_code 64 = .ok (.goto (-61), 3) := by decide +kernel
theorem d10_67 : decode prog_47_method_7_code 67 = .ok (.iconst 0, 1) := by decide +kernel
theorem d10_68 : decode prog_47_method_7_code 68 = .ok (.istore 4, 2) := by decide +kernel
theorem d10_70 : decode prog_47_method_7_code 70 = .ok (.iload 4, 2) := by decide +kernel
theorem d10_72 : decode prog_47_method_7_code 72 = .ok (.aload_n 0, 1) := by decide +kernel
theorem d10_73 : decode prog_47_method_7_code 73 = .ok (.getfield 21, 3) := by decide +kernel
theorem d10_76 : decode prog_47_method_7_code 76 = .ok (.if_icmp .ge 179, 3) := by decide +kernel
theorem d10_79 : decode prog_47_method_7_code 79 = .ok (.aload_n 0, 1) := by decide +kernel
theorem d10_80 : decode prog_47_method_7_code 80 = .ok (.getfield 28, 3) := by decide +kernel
theorem d10_83 : decode prog_47_method_7_code 83 = .ok (.iload 4, 2) := by decide +kernel
theorem d10_85 : decode prog_47_method_7_code 85 = .ok (.aload_n 3, 1) := by decide +kernel
theorem d10_86 : decode prog_47_method_7_code 86 = .ok (.iload 4, 2) := by decide +kernel
theorem d10_88 : decode prog_47_method_7_code 88 = .ok (.iaload, 1) := by decide +kernel
theorem d10_89 : decode prog_47_method_7_code 89 = .ok (.aload_n 0, 1) := by decide +kernel
theorem d10_90 : decode prog_47_method_7_code 90 = .ok (.getfield 28, 3) := by decide +kernel
theorem d10_93 : decode prog_47_method_7_code 93 = .ok (.iload 4, 2) := by decide +kernel
theorem d10_95 : decode prog_47_method_7_code 95 = .ok (.iaload, 1) := by decide +kernel
theorem d10_96 : decode prog_47_method_7_code 96 = .ok (.invokestatic 73, 3) := by decide +kernel
theorem d10_99 : decode prog_47_method_7_code 99 = .ok (.iastore, 1) := by decide +kernel
theorem d10_100 : decode prog_47_method_7_code 100 = .ok (.aload_n 0, 1) := by decide +kernel
theorem d10_101 : decode prog_47_method_7_code 101 = .ok (.getfield 31, 3) := by decide +kernel
theorem d10_104 : decode prog_47_method_7_code 104 = .ok (.iload 4, 2) := by decide +kernel
theorem d10_106 : decode prog_47_method_7_code 106 = .ok (.aload_n 3, 1) := by decide +kernel
theorem d10_107 : decode prog_47_method_7_code 107 = .ok (.iload 4, 2) := by decide +kernel
theorem d10_109 : decode prog_47_method_7_code 109 = .ok (.iaload, 1) := by decide +kernel
theorem d10_110 : decode prog_47_method_7_code 110 = .ok (.aload_n 0, 1) := by decide +kernel
theorem d10_111 : decode prog_47_method_7_code 111 = .ok (.getfield 31, 3) := by decide +kernel
theorem d10_114 : decode prog_47_method_7_code 114 = .ok (.iload 4, 2) := by decide +kernel
theorem d10_116 : decode prog_47_method_7_code 116 = .ok (.iaload, 1) := by decide +kernel
theorem d10_117 : decode prog_47_method_7_code 117 = .ok (.invokestatic 81, 3) := by decide +kernel
theorem d10_120 : decode prog_47_method_7_code 120 = .ok (.iastore, 1) := by decide +kernel
theorem d10_121 : decode prog_47_method_7_code 121 = .ok (.aload_n 0, 1) := by decide +kernel
theorem d10_122 : decode prog_47_method_7_code 122 = .ok (.getfield 25, 3) := by decide +kernel
theorem d10_125 : decode prog_47_method_7_code 125 = .ok (.iload_n 1, 1) := by decide +kernel
theorem d10_126 : decode prog_47_method_7_code 126 = .ok (.aload_n 0, 1) := by decide +kernel
theorem d10_127 : decode prog_47_method_7_code 127 = .ok (.getfield 21, 3) := by decide +kernel
theorem d10_130 : decode prog_47_method_7_code 130 = .ok (.imul, 1) := by decide +kernel
theorem d10_131 : decode prog_47_method_7_code 131 = .ok (.iload 4, 2) := by decide +kernel
theorem d10_133 : decode prog_47_method_7_code 133 = .ok (.iadd, 1) := by decide +kernel
theorem d10_134 : decode prog_47_method_7_code 134 = .ok (.iaload, 1) := by decide +kernel
theorem d10_135 : decode prog_47_method_7_code 135 = .ok (.istore 5, 2) := by decide +kernel
theorem d10_137 : decode prog_47_method_7_code 137 = .ok (.aload_n 3, 1) := by decide +kernel
theorem d10_138 : decode prog_47_method_7_code 138 = .ok (.iload 4, 2) := by decide +kernel
theorem d10_140 : decode prog_47_method_7_code 140 = .ok (.iaload, 1) := by decide +kernel
theorem d10_141 : decode prog_47_method_7_code 141 = .ok (.i2l, 1) := by decide +kernel
theorem d10_142 : decode prog_47_method_7_code 142 = .ok (.iload 5, 2) := by decide +kernel
theorem d10_144 : decode prog_47_method_7_code 144 = .ok (.i2l, 1) := by decide +kernel
theorem d10_145 : decode prog_47_method_7_code 145 = .ok (.lsub, 1) := by decide +kernel
theorem d10_146 : decode prog_47_method_7_code 146 = .ok (.lstore 6, 2) := by decide +kernel
theorem d10_148 : decode prog_47_method_7_code 148 = .ok (.lload 6, 2) := by decide +kernel
theorem d10_150 : decode prog_47_method_7_code 150 = .ok (.lconst 0, 1) := by decide +kernel
theorem d10_151 : decode prog_47_method_7_code 151 = .ok (.lcmp, 1) := by decide +kernel
theorem d10_152 : decode prog_47_method_7_code 152 = .ok (.ifCond .lt 12, 3) := by decide +kernel
theorem d10_155 : decode prog_47_method_7_code 155 = .ok (.lload 6, 2) := by decide +kernel
theorem d10_157 : decode prog_47_method_7_code 157 = .ok (.ldc2_w 84, 3) := by decide +kernel
theorem d10_160 : decode prog_47_method_7_code 160 = .ok (.lcmp, 1) := by decide +kernel
theorem d10_161 : decode prog_47_method_7_code 161 = .ok (.ifCond .lt 88, 3) := by decide +kernel
theorem d10_249 : decode prog_47_method_7_code 249 = .ok (.iinc 4 1, 3) := by decide +kernel
theorem d10_252 : decode prog_47_method_7_code 252 = .ok (.goto (-182), 3) := by decide +kernel
theorem d10_255 : decode prog_47_method_7_code 255 = .ok (.return_, 1) := by decide +kernel
theorem ef_fit2_1 (m : MethodId) (x0 : Addr) (x3 : Addr) : entryFrame m #[(.ref x0), (.int 0), (.int 1), (.ref x3)] 11 = mkF m 0 #[vR x0, vI 0, vI 1, vR x3, .unset, .unset, .unset, .unset, .unset, .unset, .unset] [] := by first | (simp [entryFrame, mkF, argsToLocals, Value.category]; done) | rfl
theorem d10_164 : decode prog_47_method_7_code 164 = .ok (.aload_n 0, 1) := by decide +kernel
theorem d10_165 : decode prog_47_method_7_code 165 = .ok (.getfield 28, 3) := by decide +kernel
theorem d10_168 : decode prog_47_method_7_code 168 = .ok (.iload 4, 2) := by decide +kernel
theorem d10_170 : decode prog_47_method_7_code 170 = .ok (.iaload, 1) := by decide +kernel
theorem d10_171 : decode prog_47_method_7_code 171 = .ok (.aload_n 0, 1) := by decide +kernel
theorem d10_172 : decode prog_47_method_7_code 172 = .ok (.getfield 31, 3) := by decide +kernel
theorem d10_175 : decode prog_47_method_7_code 175 = .ok (.iload 4, 2) := by decide +kernel
theorem d10_177 : decode prog_47_method_7_code 177 = .ok (.iaload, 1) := by decide +kernel
theorem d10_178 : decode prog_47_method_7_code 178 = .ok (.invokestatic 63, 3) := by decide +kernel
theorem d10_181 : decode prog_47_method_7_code 181 = .ok (.istore 8, 2) := by decide +kernel
theorem d10_183 : decode prog_47_method_7_code 183 = .ok (.aload_n 0, 1) := by decide +kernel
theorem d10_184 : decode prog_47_method_7_code 184 = .ok (.getfield 17, 3) := by decide +kernel
theorem d10_187 : decode prog_47_method_7_code 187 = .ok (.iload_n 1, 1) := by decide +kernel
theorem d10_188 : decode prog_47_method_7_code 188 = .ok (.aaload, 1) := by decide +kernel
theorem d10_189 : decode prog_47_method_7_code 189 = .ok (.astore 9, 2) := by decide +kernel
theorem d10_191 : decode prog_47_method_7_code 191 = .ok (.iload 4, 2) := by decide +kernel
theorem d10_193 : decode prog_47_method_7_code 193 = .ok (.istore 10, 2) := by decide +kernel
theorem d10_195 : decode prog_47_method_7_code 195 = .ok (.iload 10, 2) := by decide +kernel
theorem d10_197 : decode prog_47_method_7_code 197 = .ok (.iload_n 2, 1) := by decide +kernel
theorem d10_198 : decode prog_47_method_7_code 198 = .ok (.aload_n 0, 1) := by decide +kernel
theorem d10_199 : decode prog_47_method_7_code 199 = .ok (.getfield 21, 3) := by decide +kernel
theorem d10_202 : decode prog_47_method_7_code 202 = .ok (.imul, 1) := by decide +kernel
theorem d10_203 : decode prog_47_method_7_code 203 = .ok (.if_icmp .ge 30, 3) := by decide +kernel
theorem d10_206 : decode prog_47_method_7_code 206 = .ok (.aload 9, 2) := by decide +kernel
theorem d10_208 : decode prog_47_method_7_code 208 = .ok (.iload 10, 2) := by decide +kernel
theorem d10_210 : decode prog_47_method_7_code 210 = .ok (.dup2, 1) := by decide +kernel
theorem d10_211 : decode prog_47_method_7_code 211 = .ok (.caload, 1) := by decide +kernel
theorem d10_212 : decode prog_47_method_7_code 212 = .ok (.iload 5, 2) := by decide +kernel
theorem d10_214 : decode prog_47_method_7_code 214 = .ok (.iload 8, 2) := by decide +kernel
theorem d10_216 : decode prog_47_method_7_code 216 = .ok (.isub, 1) := by decide +kernel
theorem d10_217 : decode prog_47_method_7_code 217 = .ok (.i2c, 1) := by decide +kernel
theorem d10_218 : decode prog_47_method_7_code 218 = .ok (.iadd, 1) := by decide +kernel
theorem d10_219 : decode prog_47_method_7_code 219 = .ok (.i2c, 1) := by decide +kernel
theorem d10_220 : decode prog_47_method_7_code 220 = .ok (.castore, 1) := by decide +kernel
theorem d10_221 : decode prog_47_method_7_code 221 = .ok (.iload 10, 2) := by decide +kernel
theorem d10_223 : decode prog_47_method_7_code 223 = .ok (.aload_n 0, 1) := by decide +kernel
theorem d10_224 : decode prog_47_method_7_code 224 = .ok (.getfield 21, 3) := by decide +kernel
theorem d10_227 : decode prog_47_method_7_code 227 = .ok (.iadd, 1) := by decide +kernel
theorem d10_228 : decode prog_47_method_7_code 228 = .ok (.istore 10, 2) := by decide +kernel
theorem d10_230 : decode prog_47_method_7_code 230 = .ok (.goto (-35), 3) := by decide +kernel
theorem d10_233 : decode prog_47_method_7_code 233 = .ok (.aload_n 0, 1) := by decide +kernel
theorem d10_234 : decode prog_47_method_7_code 234 = .ok (.getfield 25, 3) := by decide +kernel
theorem d10_237 : decode prog_47_method_7_code 237 = .ok (.iload_n 1, 1) := by decide +kernel
theorem d10_238 : decode prog_47_method_7_code 238 = .ok (.aload_n 0, 1) := by decide +kernel
theorem d10_239 : decode prog_47_method_7_code 239 = .ok (.getfield 21, 3) := by decide +kernel
theorem d10_242 : decode prog_47_method_7_code 242 = .ok (.imul, 1) := by decide +kernel
theorem d10_243 : decode prog_47_method_7_code 243 = .ok (.iload 4, 2) := by decide +kernel
theorem d10_245 : decode prog_47_method_7_code 245 = .ok (.iadd, 1) := by decide +kernel
theorem d10_246 : decode prog_47_method_7_code 246 = .ok (.iload 8, 2) := by decide +kernel
theorem d10_248 : decode prog_47_method_7_code 248 = .ok (.iastore, 1) := by decide +kernel
theorem ef_fit2_2 (m : MethodId) (x0 : Addr) (x3 : Addr) : entryFrame m #[(.ref x0), (.int 0), (.int 2), (.ref x3)] 11 = mkF m 0 #[vR x0, vI 0, vI 2, vR x3, .unset, .unset, .unset, .unset, .unset, .unset, .unset] [] := by first | (simp [entryFrame, mkF, argsToLocals, Value.category]; done) | rfl
theorem ef_get2N (m : MethodId) (x0 : Addr) (x1 : Int32) (x2 : Int32) : entryFrame m #[(.ref x0), (.int x1), (.int x2)] 6 = mkF m 0 #[vR x0, vI x1, vI x2, .unset, .unset, .unset] [] := by first | (simp [entryFrame, mkF, argsToLocals, Value.category]; done) | rfl
theorem d12_0 : decode prog_47_method_3_code 0 = .ok (.iload_n 1, 1) := by decide +kernel
theorem d12_1 : decode prog_47_method_3_code 1 = .ok (.getstatic 37, 3) := by decide +kernel
theorem wd40 {Z : State} {a0 : Array Value} (hw : ∀ d ∈ tables_1, d.before a0 Z = true) : (Jvm.Cond.fieldLink cRV (37 : Nat) cRV "CHUNK_SHIFT" "I").before a0 Z = true := hw _ (List.mem_of_getElem? (i := 40) rfl)
theorem d12_4 : decode prog_47_method_3_code 4 = .ok (.iushr, 1) := by decide +kernel
theorem d12_5 : decode prog_47_method_3_code 5 = .ok (.istore_n 3, 1) := by decide +kernel
theorem d12_6 : decode prog_47_method_3_code 6 = .ok (.iload_n 1, 1) := by decide +kernel
theorem d12_7 : decode prog_47_method_3_code 7 = .ok (.sipush 4095, 3) := by decide +kernel
theorem d12_10 : decode prog_47_method_3_code 10 = .ok (.iand, 1) := by decide +kernel
theorem d12_11 : decode prog_47_method_3_code 11 = .ok (.aload_n 0, 1) := by decide +kernel
theorem d12_12 : decode prog_47_method_3_code 12 = .ok (.getfield 21, 3) := by decide +kernel
theorem d12_15 : decode prog_47_method_3_code 15 = .ok (.imul, 1) := by decide +kernel
theorem d12_16 : decode prog_47_method_3_code 16 = .ok (.iload_n 2, 1) := by decide +kernel
theorem d12_17 : decode prog_47_method_3_code 17 = .ok (.iadd, 1) := by decide +kernel
theorem d12_18 : decode prog_47_method_3_code 18 = .ok (.istore 4, 2) := by decide +kernel
theorem d12_20 : decode prog_47_method_3_code 20 = .ok (.aload_n 0, 1) := by decide +kernel
theorem d12_21 : decode prog_47_method_3_code 21 = .ok (.getfield 17, 3) := by decide +kernel
theorem d12_24 : decode prog_47_method_3_code 24 = .ok (.iload_n 3, 1) := by decide +kernel
theorem d12_25 : decode prog_47_method_3_code 25 = .ok (.aaload, 1) := by decide +kernel
theorem d12_26 : decode prog_47_method_3_code 26 = .ok (.astore 5, 2) := by decide +kernel
theorem d12_28 : decode prog_47_method_3_code 28 = .ok (.aload 5, 2) := by decide +kernel
theorem d12_30 : decode prog_47_method_3_code 30 = .ok (.ifnull 25, 3) := by decide +kernel
theorem d12_33 : decode prog_47_method_3_code 33 = .ok (.aload_n 0, 1) := by decide +kernel
theorem d12_34 : decode prog_47_method_3_code 34 = .ok (.getfield 25, 3) := by decide +kernel
theorem d12_37 : decode prog_47_method_3_code 37 = .ok (.iload_n 3, 1) := by decide +kernel
theorem d12_38 : decode prog_47_method_3_code 38 = .ok (.aload_n 0, 1) := by decide +kernel
theorem d12_39 : decode prog_47_method_3_code 39 = .ok (.getfield 21, 3) := by decide +kernel
theorem d12_42 : decode prog_47_method_3_code 42 = .ok (.imul, 1) := by decide +kernel
theorem d12_43 : decode prog_47_method_3_code 43 = .ok (.iload_n 2, 1) := by decide +kernel
theorem d12_44 : decode prog_47_method_3_code 44 = .ok (.iadd, 1) := by decide +kernel
theorem d12_45 : decode prog_47_method_3_code 45 = .ok (.iaload, 1) := by decide +kernel
theorem d12_46 : decode prog_47_method_3_code 46 = .ok (.aload 5, 2) := by decide +kernel
theorem d12_48 : decode prog_47_method_3_code 48 = .ok (.iload 4, 2) := by decide +kernel
theorem d12_50 : decode prog_47_method_3_code 50 = .ok (.caload, 1) := by decide +kernel
theorem d12_51 : decode prog_47_method_3_code 51 = .ok (.iadd, 1) := by decide +kernel
theorem d12_52 : decode prog_47_method_3_code 52 = .ok (.goto 12, 3) := by decide +kernel
theorem d12_64 : decode prog_47_method_3_code 64 = .ok (.ireturn, 1) := by decide +kernel
theorem ef_get2W (m : MethodId) (x0 : Addr) (x1 : Int32) (x2 : Int32) : entryFrame m #[(.ref x0), (.int x1), (.int x2)] 6 = mkF m 0 #[vR x0, vI x1, vI x2, .unset, .unset, .unset] [] := by first | (simp [entryFrame, mkF, argsToLocals, Value.category]; done) | rfl
theorem d12_55 : decode prog_47_method_3_code 55 = .ok (.aload_n 0, 1) := by decide +kernel
theorem d12_56 : decode prog_47_method_3_code 56 = .ok (.getfield 9, 3) := by decide +kernel
theorem d12_59 : decode prog_47_method_3_code 59 = .ok (.iload_n 3, 1) := by decide +kernel
theorem d12_60 : decode prog_47_method_3_code 60 = .ok (.aaload, 1) := by decide +kernel
theorem d12_61 : decode prog_47_method_3_code 61 = .ok (.iload 4, 2) := by decide +kernel
theorem d12_63 : decode prog_47_method_3_code 63 = .ok (.iaload, 1) := by decide +kernel
theorem ef_widen2_1 (m : MethodId) (x0 : Addr) : entryFrame m #[(.ref x0), (.int 0), (.int 1)] 6 = mkF m 0 #[vR x0, vI 0, vI 1, .unset, .unset, .unset] [] := by first | (simp [entryFrame, mkF, argsToLocals, Value.category]; done) | rfl
theorem d13_0 : decode prog_47_method_9_code 0 = .ok (.aload_n 0, 1) := by decide +kernel
theorem d13_1 : decode prog_47_method_9_code 1 = .ok (.getfield 17, 3) := by decide +kernel
theorem d13_4 : decode prog_47_method_9_code 4 = .ok (.iload_n 1, 1) := by decide +kernel
theorem d13_5 : decode prog_47_method_9_code 5 = .ok (.aaload, 1) := by decide +kernel
theorem d13_6 : decode prog_47_method_9_code 6 = .ok (.arraylength, 1) := by decide +kernel
theorem d13_7 : decode prog_47_method_9_code 7 = .ok (.newarray .int, 2) := by decide +kernel
theorem d13_9 : decode prog_47_method_9_code 9 = .ok (.astore_n 3, 1) := by decide +kernel
theorem d13_10 : decode prog_47_method_9_code 10 = .ok (.iconst 0, 1) := by decide +kernel
theorem d13_11 : decode prog_47_method_9_code 11 = .ok (.istore 4, 2) := by decide +kernel
theorem d13_13 : decode prog_47_method_9_code 13 = .ok (.iload 4, 2) := by decide +kernel
theorem d13_15 : decode prog_47_method_9_code 15 = .ok (.iload_n 2, 1) := by decide +kernel
theorem d13_16 : decode prog_47_method_9_code 16 = .ok (.if_icmp .ge 53, 3) := by decide +kernel
theorem d13_19 : decode prog_47_method_9_code 19 = .ok (.iconst 0, 1) := by decide +kernel
theorem d13_20 : decode prog_47_method_9_code 20 = .ok (.istore 5, 2) := by decide +kernel
theorem d13_22 : decode prog_47_method_9_code 22 = .ok (.iload 5, 2) := by decide +kernel
theorem d13_24 : decode prog_47_method_9_code 24 = .ok (.aload_n 0, 1) := by decide +kernel
theorem d13_25 : decode prog_47_method_9_code 25 = .ok (.getfield 21, 3) := by decide +kernel
theorem d13_28 : decode prog_47_method_9_code 28 = .ok (.if_icmp .ge 35, 3) := by decide +kernel
theorem d13_31 : decode prog_47_method_9_code 31 = .ok (.aload_n 3, 1) := by decide +kernel
theorem d13_32 : decode prog_47_method_9_code 32 = .ok (.iload 4, 2) := by decide +kernel
theorem d13_34 : decode prog_47_method_9_code 34 = .ok (.aload_n 0, 1) := by decide +kernel
theorem d13_35 : decode prog_47_method_9_code 35 = .ok (.getfield 21, 3) := by decide +kernel
theorem d13_38 : decode prog_47_method_9_code 38 = .ok (.imul, 1) := by decide +kernel
theorem d13_39 : decode prog_47_method_9_code 39 = .ok (.iload 5, 2) := by decide +kernel
theorem d13_41 : decode prog_47_method_9_code 41 = .ok (.iadd, 1) := by decide +kernel
theorem d13_42 : decode prog_47_method_9_code 42 = .ok (.aload_n 0, 1) := by decide +kernel
theorem d13_43 : decode prog_47_method_9_code 43 = .ok (.iload_n 1, 1) := by decide +kernel
theorem d13_44 : decode prog_47_method_9_code 44 = .ok (.sipush 4096, 3) := by decide +kernel
theorem d13_47 : decode prog_47_method_9_code 47 = .ok (.imul, 1) := by decide +kernel
theorem d13_48 : decode prog_47_method_9_code 48 = .ok (.iload 4, 2) := by decide +kernel
theorem d13_50 : decode prog_47_method_9_code 50 = .ok (.iadd, 1) := by decide +kernel
theorem d13_51 : decode prog_47_method_9_code 51 = .ok (.iload 5, 2) := by decide +kernel
theorem d13_53 : decode prog_47_method_9_code 53 = .ok (.invokevirtual 100, 3) := by decide +kernel
theorem wd84 {Z : State} {a0 : Array Value} (hw : ∀ d ∈ tables_1, d.before a0 Z = true) : (Jvm.Cond.methodLink cRV (100 : Nat) ({ cls := cRV, name := "get", desc := "(II)I" } : Jvm.MethodName)).before a0 Z = true := hw _ (List.mem_of_getElem? (i := 84) rfl)
theorem wd79 {Z : State} {a0 : Array Value} (hw : ∀ d ∈ tables_1, d.before a0 Z = true) : (Jvm.Cond.code ({ cls := cRV, name := "get", desc := "(II)I" } : Jvm.MethodName) prog_47_method_3_code (6 : Nat) (Option.some Jvm.ClassFile.FieldType.int)).before a0 Z = true := hw _ (List.mem_of_getElem? (i := 79) rfl)
theorem wd78 {Z : State} {a0 : Array Value} (hw : ∀ d ∈ tables_1, d.before a0 Z = true) : (Jvm.Cond.selects cRV ({ cls := cRV, name := "get", desc := "(II)I" } : Jvm.MethodName) ({ cls := cRV, name := "get", desc := "(II)I" } : Jvm.MethodName)).before a0 Z = true := hw _ (List.mem_of_getElem? (i := 78) rfl)
theorem wd76 {Z : State} {a0 : Array Value} (hw : ∀ d ∈ tables_1, d.before a0 Z = true) : (Jvm.Cond.declares ({ cls := cRV, name := "get", desc := "(II)I" } : Jvm.MethodName)).before a0 Z = true := hw _ (List.mem_of_getElem? (i := 76) rfl)
theorem wd77 {Z : State} {a0 : Array Value} (hw : ∀ d ∈ tables_1, d.before a0 Z = true) : (Jvm.Cond.instanceMethod ({ cls := cRV, name := "get", desc := "(II)I" } : Jvm.MethodName)).before a0 Z = true := hw _ (List.mem_of_getElem? (i := 77) rfl)
theorem d13_56 : decode prog_47_method_9_code 56 = .ok (.iastore, 1) := by decide +kernel
theorem d13_57 : decode prog_47_method_9_code 57 = .ok (.iinc 5 1, 3) := by decide +kernel
theorem d13_60 : decode prog_47_method_9_code 60 = .ok (.goto (-38), 3) := by decide +kernel
theorem d13_63 : decode prog_47_method_9_code 63 = .ok (.iinc 4 1, 3) := by decide +kernel
theorem d13_66 : decode prog_47_method_9_code 66 = .ok (.goto (-53), 3) := by decide +kernel
theorem d13_69 : decode prog_47_method_9_code 69 = .ok (.aload_n 0, 1) := by decide +kernel
theorem d13_70 : decode prog_47_method_9_code 70 = .ok (.getfield 9, 3) := by decide +kernel
theorem d13_73 : decode prog_47_method_9_code 73 = .ok (.iload_n 1, 1) := by decide +kernel
theorem d13_74 : decode prog_47_method_9_code 74 = .ok (.aload_n 3, 1) := by decide +kernel
theorem d13_75 : decode prog_47_method_9_code 75 = .ok (.aastore, 1) := by decide +kernel
theorem d13_76 : decode prog_47_method_9_code 76 = .ok (.aload_n 0, 1) := by decide +kernel
theorem d13_77 : decode prog_47_method_9_code 77 = .ok (.getfield 17, 3) := by decide +kernel
theorem d13_80 : decode prog_47_method_9_code 80 = .ok (.iload_n 1, 1) := by decide +kernel
theorem d13_81 : decode prog_47_method_9_code 81 = .ok (.aconst_null, 1) := by decide +kernel
theorem d13_82 : decode prog_47_method_9_code 82 = .ok (.aastore, 1) := by decide +kernel
theorem d13_83 : decode prog_47_method_9_code 83 = .ok (.return_, 1) := by decide +kernel
theorem ef_fitW2_1 (m : MethodId) (x0 : Addr) (x3 : Addr) : entryFrame m #[(.ref x0), (.int 0), (.int 1), (.ref x3)] 11 = mkF m 0 #[vR x0, vI 0, vI 1, vR x3, .unset, .unset, .unset, .unset, .unset, .unset, .unset] [] := by first | (simp [entryFrame, mkF, argsToLocals, Value.category]; done) | rfl
theorem d10_54 : decode prog_47_method_7_code 54 = .ok (.aload_n 0, 1) := by decide +kernel
theorem d10_55 : decode prog_47_method_7_code 55 = .ok (.iload_n 1, 1) := by decide +kernel
theorem d10_56 : decode prog_47_method_7_code 56 = .ok (.iload_n 2, 1) := by decide +kernel
theorem d10_57 : decode prog_47_method_7_code 57 = .ok (.invokevirtual 86, 3) := by decide +kernel
theorem wd80 {Z : State} {a0 : Array Value} (hw : ∀ d ∈ tables_1, d.before a0 Z = true) : (Jvm.Cond.methodLink cRV (86 : Nat) ({ cls := cRV, name := "widen", desc := "(II)V" } : Jvm.MethodName)).before a0 Z = true := hw _ (List.mem_of_getElem? (i := 80) rfl)
theorem wd83 {Z : State} {a0 : Array Value} (hw : ∀ d ∈ tables_1, d.before a0 Z = true) : (Jvm.Cond.code ({ cls := cRV, name := "widen", desc := "(II)V" } : Jvm.MethodName) prog_47_method_9_code (6 : Nat) (Option.none : Option Jvm.ClassFile.FieldType)).before a0 Z = true := hw _ (List.mem_of_getElem? (i := 83) rfl)
theorem pd__II_V_5 : parseMethodDescriptor "(II)V" = some ⟨[.int, .int], none⟩ := by decide +kernel
theorem wd81 {Z : State} {a0 : Array Value} (hw : ∀ d ∈ tables_1, d.before a0 Z = true) : (Jvm.Cond.instanceMethod ({ cls := cRV, name := "widen", desc := "(II)V" } : Jvm.MethodName)).before a0 Z = true := hw _ (List.mem_of_getElem? (i := 81) rfl)
theorem wd82 {Z : State} {a0 : Array Value} (hw : ∀ d ∈ tables_1, d.before a0 Z = true) : (Jvm.Cond.privateMethod ({ cls := cRV, name := "widen", desc := "(II)V" } : Jvm.MethodName)).before a0 Z = true := hw _ (List.mem_of_getElem? (i := 82) rfl)
theorem d10_60 : decode prog_47_method_7_code 60 = .ok (.return_, 1) := by decide +kernel
theorem ef_widen2_2 (m : MethodId) (x0 : Addr) : entryFrame m #[(.ref x0), (.int 0), (.int 2)] 6 = mkF m 0 #[vR x0, vI 0, vI 2, .unset, .unset, .unset] [] := by first | (simp [entryFrame, mkF, argsToLocals, Value.category]; done) | rfl
theorem ef_fitW2_2 (m : MethodId) (x0 : Addr) (x3 : Addr) : entryFrame m #[(.ref x0), (.int 0), (.int 2), (.ref x3)] 11 = mkF m 0 #[vR x0, vI 0, vI 2, vR x3, .unset, .unset, .unset, .unset, .unset, .unset, .unset] [] := by first | (simp [entryFrame, mkF, argsToLocals, Value.category]; done) | rfl
theorem ef_add2N0 (m : MethodId) (x0 : Addr) (x1 : Addr) : entryFrame m #[(.ref x0), (.ref x1)] 7 = mkF m 0 #[vR x0, vR x1, .unset, .unset, .unset, .unset, .unset] [] := by first | (simp [entryFrame, mkF, argsToLocals, Value.category]; done) | rfl
theorem d4_0 : decode prog_47_method_4_code 0 = .ok (.aload_n 0, 1) := by decide +kernel
theorem d4_1 : decode prog_47_method_4_code 1 = .ok (.getfield 34, 3) := by decide +kernel
theorem wd38 {Z : State} {a0 : Array Value} (hw : ∀ d ∈ tables_1, d.before a0 Z = true) : (Jvm.Cond.fieldLink cRV (34 : Nat) cRV "rows" "I").before a0 Z = true := hw _ (List.mem_of_getElem? (i := 38) rfl)
theorem d4_4 : decode prog_47_method_4_code 4 = .ok (.getstatic 37, 3) := by decide +kernel
theorem d4_7 : decode prog_47_method_4_code 7 = .ok (.iushr, 1) := by decide +kernel
theorem d4_8 : decode prog_47_method_4_code 8 = .ok (.istore_n 2, 1) := by decide +kernel
theorem d4_9 : decode prog_47_method_4_code 9 = .ok (.aload_n 0, 1) := by decide +kernel
theorem d4_10 : decode prog_47_method_4_code 10 = .ok (.getfield 34, 3) := by decide +kernel
theorem d4_13 : decode prog_47_method_4_code 13 = .ok (.sipush 4095, 3) := by decide +kernel
theorem d4_16 : decode prog_47_method_4_code 16 = .ok (.iand, 1) := by decide +kernel
theorem d4_17 : decode prog_47_method_4_code 17 = .ok (.istore_n 3, 1) := by decide +kernel
theorem d4_18 : decode prog_47_method_4_code 18 = .ok (.iload_n 3, 1) := by decide +kernel
theorem d4_19 : decode prog_47_method_4_code 19 = .ok (.ifCond .ne 9, 3) := by decide +kernel
theorem d4_22 : decode prog_47_method_4_code 22 = .ok (.aload_n 0, 1) := by decide +kernel
theorem d4_23 : decode prog_47_method_4_code 23 = .ok (.iload_n 2, 1) := by decide +kernel
theorem d4_24 : decode prog_47_method_4_code 24 = .ok (.aload_n 1, 1) := by decide +kernel
theorem d4_25 : decode prog_47_method_4_code 25 = .ok (.invokevirtual 40, 3) := by decide +kernel
theorem wd42 {Z : State} {a0 : Array Value} (hw : ∀ d ∈ tables_1, d.before a0 Z = true) : (Jvm.Cond.methodLink cRV (40 : Nat) ({ cls := cRV, name := "start", desc := "(I[I)V" } : Jvm.MethodName)).before a0 Z = true := hw _ (List.mem_of_getElem? (i := 42) rfl)
theorem wd45 {Z : State} {a0 : Array Value} (hw : ∀ d ∈ tables_1, d.before a0 Z = true) : (Jvm.Cond.code ({ cls := cRV, name := "start", desc := "(I[I)V" } : Jvm.MethodName) prog_47_method_5_code (4 : Nat) (Option.none : Option Jvm.ClassFile.FieldType)).before a0 Z = true := hw _ (List.mem_of_getElem? (i := 45) rfl)
theorem pd__I_I_V_6 : parseMethodDescriptor "(I[I)V" = some ⟨[.int, (.array .int)], none⟩ := by decide +kernel
theorem wd43 {Z : State} {a0 : Array Value} (hw : ∀ d ∈ tables_1, d.before a0 Z = true) : (Jvm.Cond.instanceMethod ({ cls := cRV, name := "start", desc := "(I[I)V" } : Jvm.MethodName)).before a0 Z = true := hw _ (List.mem_of_getElem? (i := 43) rfl)
theorem wd44 {Z : State} {a0 : Array Value} (hw : ∀ d ∈ tables_1, d.before a0 Z = true) : (Jvm.Cond.privateMethod ({ cls := cRV, name := "start", desc := "(I[I)V" } : Jvm.MethodName)).before a0 Z = true := hw _ (List.mem_of_getElem? (i := 44) rfl)
theorem d4_28 : decode prog_47_method_4_code 28 = .ok (.aload_n 0, 1) := by decide +kernel
theorem d4_29 : decode prog_47_method_4_code 29 = .ok (.iload_n 2, 1) := by decide +kernel
theorem d4_30 : decode prog_47_method_4_code 30 = .ok (.iload_n 3, 1) := by decide +kernel
theorem d4_31 : decode prog_47_method_4_code 31 = .ok (.invokevirtual 44, 3) := by decide +kernel
theorem wd60 {Z : State} {a0 : Array Value} (hw : ∀ d ∈ tables_1, d.before a0 Z = true) : (Jvm.Cond.methodLink cRV (44 : Nat) ({ cls := cRV, name := "makeRoom", desc := "(II)V" } : Jvm.MethodName)).before a0 Z = true := hw _ (List.mem_of_getElem? (i := 60) rfl)
theorem wd63 {Z : State} {a0 : Array Value} (hw : ∀ d ∈ tables_1, d.before a0 Z = true) : (Jvm.Cond.code ({ cls := cRV, name := "makeRoom", desc := "(II)V" } : Jvm.MethodName) prog_47_method_6_code (5 : Nat) (Option.none : Option Jvm.ClassFile.FieldType)).before a0 Z = true := hw _ (List.mem_of_getElem? (i := 63) rfl)
theorem wd61 {Z : State} {a0 : Array Value} (hw : ∀ d ∈ tables_1, d.before a0 Z = true) : (Jvm.Cond.instanceMethod ({ cls := cRV, name := "makeRoom", desc := "(II)V" } : Jvm.MethodName)).before a0 Z = true := hw _ (List.mem_of_getElem? (i := 61) rfl)
theorem wd62 {Z : State} {a0 : Array Value} (hw : ∀ d ∈ tables_1, d.before a0 Z = true) : (Jvm.Cond.privateMethod ({ cls := cRV, name := "makeRoom", desc := "(II)V" } : Jvm.MethodName)).before a0 Z = true := hw _ (List.mem_of_getElem? (i := 62) rfl)
theorem d4_34 : decode prog_47_method_4_code 34 = .ok (.aload_n 0, 1) := by decide +kernel
theorem d4_35 : decode prog_47_method_4_code 35 = .ok (.getfield 17, 3) := by decide +kernel
theorem d4_38 : decode prog_47_method_4_code 38 = .ok (.iload_n 2, 1) := by decide +kernel
theorem d4_39 : decode prog_47_method_4_code 39 = .ok (.aaload, 1) := by decide +kernel
theorem d4_40 : decode prog_47_method_4_code 40 = .ok (.ifnull 10, 3) := by decide +kernel
theorem d4_43 : decode prog_47_method_4_code 43 = .ok (.aload_n 0, 1) := by decide +kernel
theorem d4_44 : decode prog_47_method_4_code 44 = .ok (.iload_n 2, 1) := by decide +kernel
theorem d4_45 : decode prog_47_method_4_code 45 = .ok (.iload_n 3, 1) := by decide +kernel
theorem d4_46 : decode prog_47_method_4_code 46 = .ok (.aload_n 1, 1) := by decide +kernel
theorem d4_47 : decode prog_47_method_4_code 47 = .ok (.invokevirtual 48, 3) := by decide +kernel
theorem wd67 {Z : State} {a0 : Array Value} (hw : ∀ d ∈ tables_1, d.before a0 Z = true) : (Jvm.Cond.methodLink cRV (48 : Nat) ({ cls := cRV, name := "fit", desc := "(II[I)V" } : Jvm.MethodName)).before a0 Z = true := hw _ (List.mem_of_getElem? (i := 67) rfl)
theorem wd70 {Z : State} {a0 : Array Value} (hw : ∀ d ∈ tables_1, d.before a0 Z = true) : (Jvm.Cond.code ({ cls := cRV, name := "fit", desc := "(II[I)V" } : Jvm.MethodName) prog_47_method_7_code (11 : Nat) (Option.none : Option Jvm.ClassFile.FieldType)).before a0 Z = true := hw _ (List.mem_of_getElem? (i := 70) rfl)
theorem pd__II_I_V_7 : parseMethodDescriptor "(II[I)V" = some ⟨[.int, .int, (.array .int)], none⟩ := by decide +kernel
theorem wd68 {Z : State} {a0 : Array Value} (hw : ∀ d ∈ tables_1, d.before a0 Z = true) : (Jvm.Cond.instanceMethod ({ cls := cRV, name := "fit", desc := "(II[I)V" } : Jvm.MethodName)).before a0 Z = true := hw _ (List.mem_of_getElem? (i := 68) rfl)
theorem wd69 {Z : State} {a0 : Array Value} (hw : ∀ d ∈ tables_1, d.before a0 Z = true) : (Jvm.Cond.privateMethod ({ cls := cRV, name := "fit", desc := "(II[I)V" } : Jvm.MethodName)).before a0 Z = true := hw _ (List.mem_of_getElem? (i := 69) rfl)
theorem d4_50 : decode prog_47_method_4_code 50 = .ok (.iload_n 3, 1) := by decide +kernel
theorem d4_51 : decode prog_47_method_4_code 51 = .ok (.aload_n 0, 1) := by decide +kernel
theorem d4_52 : decode prog_47_method_4_code 52 = .ok (.getfield 21, 3) := by decide +kernel
theorem d4_55 : decode prog_47_method_4_code 55 = .ok (.imul, 1) := by decide +kernel
theorem d4_56 : decode prog_47_method_4_code 56 = .ok (.istore 4, 2) := by decide +kernel
theorem d4_58 : decode prog_47_method_4_code 58 = .ok (.aload_n 0, 1) := by decide +kernel
theorem d4_59 : decode prog_47_method_4_code 59 = .ok (.getfield 17, 3) := by decide +kernel
theorem d4_62 : decode prog_47_method_4_code 62 = .ok (.iload_n 2, 1) := by decide +kernel
theorem d4_63 : decode prog_47_method_4_code 63 = .ok (.aaload, 1) := by decide +kernel
theorem d4_64 : decode prog_47_method_4_code 64 = .ok (.astore 5, 2) := by decide +kernel
theorem d4_66 : decode prog_47_method_4_code 66 = .ok (.iconst 0, 1) := by decide +kernel
theorem d4_67 : decode prog_47_method_4_code 67 = .ok (.istore 6, 2) := by decide +kernel
theorem d4_69 : decode prog_47_method_4_code 69 = .ok (.iload 6, 2) := by decide +kernel
theorem d4_71 : decode prog_47_method_4_code 71 = .ok (.aload_n 0, 1) := by decide +kernel
theorem d4_72 : decode prog_47_method_4_code 72 = .ok (.getfield 21, 3) := by decide +kernel
theorem d4_75 : decode prog_47_method_4_code 75 = .ok (.if_icmp .ge 61, 3) := by decide +kernel
theorem d4_78 : decode prog_47_method_4_code 78 = .ok (.aload 5, 2) := by decide +kernel
theorem d4_80 : decode prog_47_method_4_code 80 = .ok (.ifnull 34, 3) := by decide +kernel
theorem d4_83 : decode prog_47_method_4_code 83 = .ok (.aload 5, 2) := by decide +kernel
theorem d4_85 : decode prog_47_method_4_code 85 = .ok (.iload 4, 2) := by decide +kernel
theorem d4_87 : decode prog_47_method_4_code 87 = .ok (.iload 6, 2) := by decide +kernel
theorem d4_89 : decode prog_47_method_4_code 89 = .ok (.iadd, 1) := by decide +kernel
theorem d4_90 : decode prog_47_method_4_code 90 = .ok (.aload_n 1, 1) := by decide +kernel
theorem d4_91 : decode prog_47_method_4_code 91 = .ok (.iload 6, 2) := by decide +kernel
theorem d4_93 : decode prog_47_method_4_code 93 = .ok (.iaload, 1) := by decide +kernel
theorem d4_94 : decode prog_47_method_4_code 94 = .ok (.aload_n 0, 1) := by decide +kernel
theorem d4_95 : decode prog_47_method_4_code 95 = .ok (.getfield 25, 3) := by decide +kernel
theorem d4_98 : decode prog_47_method_4_code 98 = .ok (.iload_n 2, 1) := by decide +kernel
theorem d4_99 : decode prog_47_method_4_code 99 = .ok (.aload_n 0, 1) := by decide +kernel
theorem d4_100 : decode prog_47_method_4_code 100 = .ok (.getfield 21, 3) := by decide +kernel
theorem d4_103 : decode prog_47_method_4_code 103 = .ok (.imul, 1) := by decide +kernel
theorem d4_104 : decode prog_47_method_4_code 104 = .ok (.iload 6, 2) := by decide +kernel
theorem d4_106 : decode prog_47_method_4_code 106 = .ok (.iadd, 1) := by decide +kernel
theorem d4_107 : decode prog_47_method_4_code 107 = .ok (.iaload, 1) := by decide +kernel
theorem d4_108 : decode prog_47_method_4_code 108 = .ok (.isub, 1) := by decide +kernel
theorem d4_109 : decode prog_47_method_4_code 109 = .ok (.i2c, 1) := by decide +kernel
theorem d4_110 : decode prog_47_method_4_code 110 = .ok (.castore, 1) := by decide +kernel
theorem d4_111 : decode prog_47_method_4_code 111 = .ok (.goto 19, 3) := by decide +kernel
theorem d4_130 : decode prog_47_method_4_code 130 = .ok (.iinc 6 1, 3) := by decide +kernel
theorem d4_133 : decode prog_47_method_4_code 133 = .ok (.goto (-64), 3) := by decide +kernel
theorem d4_136 : decode prog_47_method_4_code 136 = .ok (.aload_n 0, 1) := by decide +kernel
theorem d4_137 : decode prog_47_method_4_code 137 = .ok (.dup, 1) := by decide +kernel
theorem d4_138 : decode prog_47_method_4_code 138 = .ok (.getfield 34, 3) := by decide +kernel
theorem d4_141 : decode prog_47_method_4_code 141 = .ok (.iconst 1, 1) := by decide +kernel
theorem d4_142 : decode prog_47_method_4_code 142 = .ok (.iadd, 1) := by decide +kernel
theorem d4_143 : decode prog_47_method_4_code 143 = .ok (.putfield 34, 3) := by decide +kernel
theorem d4_146 : decode prog_47_method_4_code 146 = .ok (.return_, 1) := by decide +kernel
theorem ef_add2N1 (m : MethodId) (x0 : Addr) (x1 : Addr) : entryFrame m #[(.ref x0), (.ref x1)] 7 = mkF m 0 #[vR x0, vR x1, .unset, .unset, .unset, .unset, .unset] [] := by first | (simp [entryFrame, mkF, argsToLocals, Value.category]; done) | rfl
theorem ef_add2N2 (m : MethodId) (x0 : Addr) (x1 : Addr) : entryFrame m #[(.ref x0), (.ref x1)] 7 = mkF m 0 #[vR x0, vR x1, .unset, .unset, .unset, .unset, .unset] [] := by first | (simp [entryFrame, mkF, argsToLocals, Value.category]; done) | rfl
theorem ef_add2W1 (m : MethodId) (x0 : Addr) (x1 : Addr) : entryFrame m #[(.ref x0), (.ref x1)] 7 = mkF m 0 #[vR x0, vR x1, .unset, .unset, .unset, .unset, .unset] [] := by first | (simp [entryFrame, mkF, argsToLocals, Value.category]; done) | rfl
theorem d4_114 : decode prog_47_method_4_code 114 = .ok (.aload_n 0, 1) := by decide +kernel
theorem d4_115 : decode prog_47_method_4_code 115 = .ok (.getfield 9, 3) := by decide +kernel
theorem d4_118 : decode prog_47_method_4_code 118 = .ok (.iload_n 2, 1) := by decide +kernel
theorem d4_119 : decode prog_47_method_4_code 119 = .ok (.aaload, 1) := by decide +kernel
theorem d4_120 : decode prog_47_method_4_code 120 = .ok (.iload 4, 2) := by decide +kernel
theorem d4_122 : decode prog_47_method_4_code 122 = .ok (.iload 6, 2) := by decide +kernel
theorem d4_124 : decode prog_47_method_4_code 124 = .ok (.iadd, 1) := by decide +kernel
theorem d4_125 : decode prog_47_method_4_code 125 = .ok (.aload_n 1, 1) := by decide +kernel
theorem d4_126 : decode prog_47_method_4_code 126 = .ok (.iload 6, 2) := by decide +kernel
theorem d4_128 : decode prog_47_method_4_code 128 = .ok (.iaload, 1) := by decide +kernel
theorem d4_129 : decode prog_47_method_4_code 129 = .ok (.iastore, 1) := by decide +kernel
theorem ef_add2W2 (m : MethodId) (x0 : Addr) (x1 : Addr) : entryFrame m #[(.ref x0), (.ref x1)] 7 = mkF m 0 #[vR x0, vR x1, .unset, .unset, .unset, .unset, .unset] [] := by first | (simp [entryFrame, mkF, argsToLocals, Value.category]; done) | rfl
theorem ef_add2WW2 (m : MethodId) (x0 : Addr) (x1 : Addr) : entryFrame m #[(.ref x0), (.ref x1)] 7 = mkF m 0 #[vR x0, vR x1, .unset, .unset, .unset, .unset, .unset] [] := by first | (simp [entryFrame, mkF, argsToLocals, Value.category]; done) | rfl
theorem ef_law (m : MethodId) (x0 : Int32) (x1 : Int32) (x2 : Int64) (x3 : Int64) (x4 : Int64) (x5 : Int64) : entryFrame m #[(.int x0), (.int x1), (.long x2), (.long x3), (.long x4), (.long x5)] maxLocals = mkF m 0 #[vI x0, vI x1, vJ x2, .second, vJ x3, .second, vJ x4, .second, vJ x5, .second, .unset, .unset, .unset, .unset, .unset, .unset, .unset, .unset] [] := by first | (simp [entryFrame, mkF, argsToLocals, Value.category, maxLocals]; done) | rfl
theorem wd0 {Z : State} {a0 : Array Value} (hw : ∀ d ∈ tables_1, d.before a0 Z = true) : (Jvm.Cond.methodLink "com/example/chaseward/chaseward/engine/RowValuesGetPinLaw" (7 : Nat) ({ cls := "com/example/chaseward/chaseward/engine/RowValuesGetPinLaw", name := "draw", desc := "(IJ)I" } : Jvm.MethodName)).before a0 Z = true := hw _ (List.mem_of_getElem? (i := 0) rfl)
theorem wd3 {Z : State} {a0 : Array Value} (hw : ∀ d ∈ tables_1, d.before a0 Z = true) : (Jvm.Cond.code ({ cls := "com/example/chaseward/chaseward/engine/RowValuesGetPinLaw", name := "draw", desc := "(IJ)I" } : Jvm.MethodName) method_3_code (3 : Nat) (Option.some Jvm.ClassFile.FieldType.int)).before a0 Z = true := hw _ (List.mem_of_getElem? (i := 3) rfl)
theorem wd2 {Z : State} {a0 : Array Value} (hw : ∀ d ∈ tables_1, d.before a0 Z = true) : (Jvm.Cond.initialized "com/example/chaseward/chaseward/engine/RowValuesGetPinLaw").before a0 Z = true := hw _ (List.mem_of_getElem? (i := 2) rfl)
theorem pd__IJ_I_5 : parseMethodDescriptor "(IJ)I" = some ⟨[.int, .long], some .int⟩ := by decide +kernel
theorem wd1 {Z : State} {a0 : Array Value} (hw : ∀ d ∈ tables_1, d.before a0 Z = true) : (Jvm.Cond.static ({ cls := "com/example/chaseward/chaseward/engine/RowValuesGetPinLaw", name := "draw", desc := "(IJ)I" } : Jvm.MethodName)).before a0 Z = true := hw _ (List.mem_of_getElem? (i := 1) rfl)
theorem wd6 {Z : State} {a0 : Array Value} (hw : ∀ d ∈ tables_1, d.before a0 Z = true) : (Jvm.Cond.classLink "com/example/chaseward/chaseward/engine/RowValuesGetPinLaw" (13 : Nat) cRV).before a0 Z = true := hw _ (List.mem_of_getElem? (i := 6) rfl)
theorem wd9 {Z : State} {a0 : Array Value} (hw : ∀ d ∈ tables_1, d.before a0 Z = true) : (Jvm.Cond.methodLink "com/example/chaseward/chaseward/engine/RowValuesGetPinLaw" (15 : Nat) ({ cls := cRV, name := "<init>", desc := "(I)V" } : Jvm.MethodName)).before a0 Z = true := hw _ (List.mem_of_getElem? (i := 9) rfl)
theorem wd11 {Z : State} {a0 : Array Value} (hw : ∀ d ∈ tables_1, d.before a0 Z = true) : (Jvm.Cond.code ({ cls := cRV, name := "<init>", desc := "(I)V" } : Jvm.MethodName) prog_47_method_1_code (2 : Nat) (Option.none : Option Jvm.ClassFile.FieldType)).before a0 Z = true := hw _ (List.mem_of_getElem? (i := 11) rfl)
theorem pd__I_V_4 : parseMethodDescriptor "(I)V" = some ⟨[.int], none⟩ := by decide +kernel
theorem wd10 {Z : State} {a0 : Array Value} (hw : ∀ d ∈ tables_1, d.before a0 Z = true) : (Jvm.Cond.instanceMethod ({ cls := cRV, name := "<init>", desc := "(I)V" } : Jvm.MethodName)).before a0 Z = true := hw _ (List.mem_of_getElem? (i := 10) rfl)
theorem wd33 {Z : State} {a0 : Array Value} (hw : ∀ d ∈ tables_1, d.before a0 Z = true) : (Jvm.Cond.methodLink "com/example/chaseward/chaseward/engine/RowValuesGetPinLaw" (18 : Nat) ({ cls := cRV, name := "add", desc := "([I)V" } : Jvm.MethodName)).before a0 Z = true := hw _ (List.mem_of_getElem? (i := 33) rfl)
theorem wd37 {Z : State} {a0 : Array Value} (hw : ∀ d ∈ tables_1, d.before a0 Z = true) : (Jvm.Cond.code ({ cls := cRV, name := "add", desc := "([I)V" } : Jvm.MethodName) prog_47_method_4_code (7 : Nat) (Option.none : Option Jvm.ClassFile.FieldType)).before a0 Z = true := hw _ (List.mem_of_getElem? (i := 37) rfl)
theorem pd___I_V_5 : parseMethodDescriptor "([I)V" = some ⟨[(.array .int)], none⟩ := by decide +kernel
theorem wd36 {Z : State} {a0 : Array Value} (hw : ∀ d ∈ tables_1, d.before a0 Z = true) : (Jvm.Cond.selects cRV ({ cls := cRV, name := "add", desc := "([I)V" } : Jvm.MethodName) ({ cls := cRV, name := "add", desc := "([I)V" } : Jvm.MethodName)).before a0 Z = true := hw _ (List.mem_of_getElem? (i := 36) rfl)
theorem wd34 {Z : State} {a0 : Array Value} (hw : ∀ d ∈ tables_1, d.before a0 Z = true) : (Jvm.Cond.declares ({ cls := cRV, name := "add", desc := "([I)V" } : Jvm.MethodName)).before a0 Z = true := hw _ (List.mem_of_getElem? (i := 34) rfl)
theorem wd35 {Z : State} {a0 : Array Value} (hw : ∀ d ∈ tables_1, d.before a0 Z = true) : (Jvm.Cond.instanceMethod ({ cls := cRV, name := "add", desc := "([I)V" } : Jvm.MethodName)).before a0 Z = true := hw _ (List.mem_of_getElem? (i := 35) rfl)
theorem wd75 {Z : State} {a0 : Array Value} (hw : ∀ d ∈ tables_1, d.before a0 Z = true) : (Jvm.Cond.methodLink "com/example/chaseward/chaseward/engine/RowValuesGetPinLaw" (22 : Nat) ({ cls := cRV, name := "get", desc := "(II)I" } : Jvm.MethodName)).before a0 Z = true := hw _ (List.mem_of_getElem? (i := 75) rfl)
theorem wd41 {Z : State} {a0 : Array Value} (hw : ∀ d ∈ tables_1, d.before a0 Z = true) : (Jvm.Cond.laysStatic cRV "CHUNK_SHIFT" "I").before a0 Z = true := hw _ (List.mem_of_getElem? (i := 41) rfl)
def f_maxI (p1 : Int32) (p2 : Int32) : Int32 := (if p1 < p2 then p2 else p1)
set_option maxRecDepth 65536 in
set_option maxHeartbeats 40000000 in
theorem rm_maxI (l : Launch) (Z : State) (a0 : Array Value) (hw : ∀ d ∈ tables_1, d.before a0 Z = true) (ws : List Jvm.Cond) (p1 p2 : Int32) (h0 : Heap) (n0 : Nat) (Z0 : n0 ≤ h0.size) (O0 : Old Z n0 h0) (S_CS : Sta Z Z.heap cRV "CHUNK_SHIFT" "I" (.int (12 : Int32))) :
    MetFree l (⟨"java/lang/Math", "max", "(II)I"⟩ : MethodName) (head1 (Jvm.Cond.code (⟨"java/lang/Math", "max", "(II)I"⟩ : MethodName) jdk_29_method_65_code 2 (some .int) :: ws) ({ frames := 0, cells := 0, slots := 0, locals := 0 } : Room)) (fun a U => a = #[(.int p1), (.int p2)] ∧ Z.Warmed39 U.vm ∧ U.heap = h0) (fun _ _ _ _ _ => True) (fun _ U o U' => ∃ v L, o = .returned v ∧ PureQ (some (.int (f_maxI p1 p2))) h0 n0 v U'.heap L ∧ FrameEnd U o U' L ({ frames := 0, cells := 0, slots := 0, locals := 0 } : Room).cells ({ frames := 0, cells := 0, slots := 0, locals := 0 } : Room).slots) := by
  refine MetFree.of_bodySF (Jvm.Free.JP.mathPlain rfl (by decide +kernel)) hisR ?_
  intro p e s m args below meth c s₁ Bd hml0 hP hK
  obtain ⟨rfl, hZ, hh⟩ := hP
  have hx := Bd.exec
  have hby := Bd.bytes
  have bb := fun {pc : Nat} {r : Except DecodeError (Instr × Nat)} (h : decode jdk_29_method_65_code pc = r) => hb hby h
  have hml : c.maxLocals = 2 := hml0
  have hown : s.vm.findClass "java/lang/Math" = some m.cls := findClass_of_methodNamed Bd.named
  have hnm := (name_of_methodNamed Bd.named Bd.method).1
  have X0 : Stand p l e ({ frames := 0, cells := 0, slots := 0, locals := 0 } : Room) s m #[(.int p1), (.int p2)] below meth c s₁ [] 0 0 := Stand.of_body Bd
  have e0 : s₁.heap = h0 := by rw [← hh, Bd.state]; rfl
  have N0 := Fr.nil n0
  have pre0 : ∀ t, Steps p.tables e below (s₁.setTop (mkF m 0 #[vI p1, vI p2] [])) t → Steps p.tables e below (s₁.setTop (entryFrame m #[(.int p1), (.int p2)] 2)) t := fun t k => castTop (ef_maxI m p1 p2) k
  have pre1 : ∀ t, GG p e below s₁ (mkF m 2 #[vI p1, vI p2] [(.int p2), (.int p1)]) t → GG p e below s₁ (entryFrame m #[(.int p1), (.int p2)] 2) t := fun t k => pre0 t (by
      show GG p e below s₁ (mkF m 0 #[vI p1, vI p2] []) _
      refine XS.iloadN X0.here hx rfl (bb d11_0) rfl ?_
      refine XS.iloadN X0.here hx rfl (bb d11_1) rfl ?_
      exact k)
  by_cases g2 : p1 < p2
  · skip
    obtain ⟨fs, hr, hrun, hended, hW, hsame⟩ := X0.leave (v := some (.int p2)) (fun h => by rw [Bd.returns] at h; cases h)
    refine ⟨_, _, pre1 _ ?_, hrun, hended, _, _, rfl, ?_, ⟨_, rfl⟩, hW, hsame.mono (by decide) (by decide)⟩
    · show GG p e below s₁ (mkF m 2 #[vI p1, vI p2] [(.int p2), (.int p1)]) _
      refine XS.icmpYes X0.here hx rfl (pc0 := 2) (pc' := 9) rfl (bb d11_2) rfl (tlt g2).1 (by decide) (by decide) ?_
      show GG p e below s₁ (mkF m 9 #[vI p1, vI p2] []) _
      refine XS.iloadN X0.here hx rfl (bb d11_9) rfl ?_
      exact retI X0 hx Bd.returns (bb d11_10) hr
    · exact ⟨by simp only [f_maxI, if_pos g2], N0, e0⟩
  · skip
    obtain ⟨fs, hr, hrun, hended, hW, hsame⟩ := X0.leave (v := some (.int p1)) (fun h => by rw [Bd.returns] at h; cases h)
    refine ⟨_, _, pre1 _ ?_, hrun, hended, _, _, rfl, ?_, ⟨_, rfl⟩, hW, hsame.mono (by decide) (by decide)⟩
    · show GG p e below s₁ (mkF m 2 #[vI p1, vI p2] [(.int p2), (.int p1)]) _
      refine XS.icmpNo X0.here hx rfl (bb d11_2) rfl (flt g2).1 ?_
      refine XS.iloadN X0.here hx rfl (bb d11_5) rfl ?_
      refine XS.goto X0.here hx rfl (pc0 := 6) (pc' := 10) rfl (bb d11_6) (by decide) (by decide) ?_
      exact retI X0 hx Bd.returns (bb d11_10) hr
    · exact ⟨by simp only [f_maxI, if_neg g2], N0, e0⟩
def f_minI (p1 : Int32) (p2 : Int32) : Int32 := (if p2 < p1 then p2 else p1)
set_option maxRecDepth 65536 in
set_option maxHeartbeats 40000000 in
theorem rm_minI (l : Launch) (Z : State) (a0 : Array Value) (hw : ∀ d ∈ tables_1, d.before a0 Z = true) (ws : List Jvm.Cond) (p1 p2 : Int32) (h0 : Heap) (n0 : Nat) (Z0 : n0 ≤ h0.size) (O0 : Old Z n0 h0) (S_CS : Sta Z Z.heap cRV "CHUNK_SHIFT" "I" (.int (12 : Int32))) :
    MetFree l (⟨"java/lang/Math", "min", "(II)I"⟩ : MethodName) (head1 (Jvm.Cond.code (⟨"java/lang/Math", "min", "(II)I"⟩ : MethodName) jdk_29_method_69_code 2 (some .int) :: ws) ({ frames := 0, cells := 0, slots := 0, locals := 0 } : Room)) (fun a U => a = #[(.int p1), (.int p2)] ∧ Z.Warmed39 U.vm ∧ U.heap = h0) (fun _ _ _ _ _ => True) (fun _ U o U' => ∃ v L, o = .returned v ∧ PureQ (some (.int (f_minI p1 p2))) h0 n0 v U'.heap L ∧ FrameEnd U o U' L ({ frames := 0, cells := 0, slots := 0, locals := 0 } : Room).cells ({ frames := 0, cells := 0, slots := 0, locals := 0 } : Room).slots) := by
  refine MetFree.of_bodySF (Jvm.Free.JP.mathPlain rfl (by decide +kernel)) hisR ?_
  intro p e s m args below meth c s₁ Bd hml0 hP hK
  obtain ⟨rfl, hZ, hh⟩ := hP
  have hx := Bd.exec
  have hby := Bd.bytes
  have bb := fun {pc : Nat} {r : Except DecodeError (Instr × Nat)} (h : decode jdk_29_method_69_code pc = r) => hb hby h
  have hml : c.maxLocals = 2 := hml0
  have hown : s.vm.findClass "java/lang/Math" = some m.cls := findClass_of_methodNamed Bd.named
  have hnm := (name_of_methodNamed Bd.named Bd.method).1
  have X0 : Stand p l e ({ frames := 0, cells := 0, slots := 0, locals := 0 } : Room) s m #[(.int p1), (.int p2)] below meth c s₁ [] 0 0 := Stand.of_body Bd
  have e0 : s₁.heap = h0 := by rw [← hh, Bd.state]; rfl
  have N0 := Fr.nil n0
  have pre0 : ∀ t, Steps p.tables e below (s₁.setTop (mkF m 0 #[vI p1, vI p2] [])) t → Steps p.tables e below (s₁.setTop (entryFrame m #[(.int p1), (.int p2)] 2)) t := fun t k => castTop (ef_minI m p1 p2) k
  have pre1 : ∀ t, GG p e below s₁ (mkF m 2 #[vI p1, vI p2] [(.int p2), (.int p1)]) t → GG p e below s₁ (entryFrame m #[(.int p1), (.int p2)] 2) t := fun t k => pre0 t (by
      show GG p e below s₁ (mkF m 0 #[vI p1, vI p2] []) _
      refine XS.iloadN X0.here hx rfl (bb d9_0) rfl ?_
      refine XS.iloadN X0.here hx rfl (bb d9_1) rfl ?_
      exact k)
  by_cases g2 : p2 < p1
  · skip
    obtain ⟨fs, hr, hrun, hended, hW, hsame⟩ := X0.leave (v := some (.int p2)) (fun h => by rw [Bd.returns] at h; cases h)
    refine ⟨_, _, pre1 _ ?_, hrun, hended, _, _, rfl, ?_, ⟨_, rfl⟩, hW, hsame.mono (by decide) (by decide)⟩
    · show GG p e below s₁ (mkF m 2 #[vI p1, vI p2] [(.int p2), (.int p1)]) _
      refine XS.icmpYes X0.here hx rfl (pc0 := 2) (pc' := 9) rfl (bb d9_2) rfl (tlt g2).2.2.1 (by decide) (by decide) ?_
      show GG p e below s₁ (mkF m 9 #[vI p1, vI p2] []) _
      refine XS.iloadN X0.here hx rfl (bb d9_9) rfl ?_
      exact retI X0 hx Bd.returns (bb d9_10) hr
    · exact ⟨by simp only [f_minI, if_pos g2], N0, e0⟩
  · skip
    obtain ⟨fs, hr, hrun, hended, hW, hsame⟩ := X0.leave (v := some (.int p1)) (fun h => by rw [Bd.returns] at h; cases h)
    refine ⟨_, _, pre1 _ ?_, hrun, hended, _, _, rfl, ?_, ⟨_, rfl⟩, hW, hsame.mono (by decide) (by decide)⟩
    · show GG p e below s₁ (mkF m 2 #[vI p1, vI p2] [(.int p2), (.int p1)]) _
      refine XS.icmpNo X0.here hx rfl (bb d9_2) rfl (flt g2).2.2.1 ?_
      refine XS.iloadN X0.here hx rfl (bb d9_5) rfl ?_
      refine XS.goto X0.here hx rfl (pc0 := 6) (pc' := 10) rfl (bb d9_6) (by decide) (by decide) ?_
      exact retI X0 hx Bd.returns (bb d9_10) hr
    · exact ⟨by simp only [f_minI, if_neg g2], N0, e0⟩
def f_maxL (p1 : Int64) (p2 : Int64) : Int64 := (if (lcmpW p1 p2) < (0 : Int32) then p2 else p1)
set_option maxRecDepth 65536 in
set_option maxHeartbeats 40000000 in
theorem rm_maxL (l : Launch) (Z : State) (a0 : Array Value) (hw : ∀ d ∈ tables_1, d.before a0 Z = true) (ws : List Jvm.Cond) (p1 p2 : Int64) (h0 : Heap) (n0 : Nat) (Z0 : n0 ≤ h0.size) (O0 : Old Z n0 h0) (S_CS : Sta Z Z.heap cRV "CHUNK_SHIFT" "I" (.int (12 : Int32))) :
    MetFree l (⟨"java/lang/Math", "max", "(JJ)J"⟩ : MethodName) (head1 (Jvm.Cond.code (⟨"java/lang/Math", "max", "(JJ)J"⟩ : MethodName) jdk_29_method_66_code 4 (some .long) :: ws) ({ frames := 0, cells := 0, slots := 0, locals := 0 } : Room)) (fun a U => a = #[(.long p1), (.long p2)] ∧ Z.Warmed39 U.vm ∧ U.heap = h0) (fun _ _ _ _ _ => True) (fun _ U o U' => ∃ v L, o = .returned v ∧ PureQ (some (.long (f_maxL p1 p2))) h0 n0 v U'.heap L ∧ FrameEnd U o U' L ({ frames := 0, cells := 0, slots := 0, locals := 0 } : Room).cells ({ frames := 0, cells := 0, slots := 0, locals := 0 } : Room).slots) := by
  refine MetFree.of_bodySF (Jvm.Free.JP.mathPlain rfl (by decide +kernel)) hisR ?_
  intro p e s m args below meth c s₁ Bd hml0 hP hK
  obtain ⟨rfl, hZ, hh⟩ := hP
  have hx := Bd.exec
  have hby := Bd.bytes
  have bb := fun {pc : Nat} {r : Except DecodeError (Instr × Nat)} (h : decode jdk_29_method_66_code pc = r) => hb hby h
  have hml : c.maxLocals = 4 := hml0
  have hown : s.vm.findClass "java/lang/Math" = some m.cls := findClass_of_methodNamed Bd.named
  have hnm := (name_of_methodNamed Bd.named Bd.method).1
  have X0 : Stand p l e ({ frames := 0, cells := 0, slots := 0, locals := 0 } : Room) s m #[(.long p1), (.long p2)] below meth c s₁ [] 0 0 := Stand.of_body Bd
  have e0 : s₁.heap = h0 := by rw [← hh, Bd.state]; rfl
  have N0 := Fr.nil n0
  have pre0 : ∀ t, Steps p.tables e below (s₁.setTop (mkF m 0 #[vJ p1, .second, vJ p2, .second] [])) t → Steps p.tables e below (s₁.setTop (entryFrame m #[(.long p1), (.long p2)] 4)) t := fun t k => castTop (ef_maxL m p1 p2) k
  have pre1 : ∀ t, GG p e below s₁ (mkF m 3 #[vJ p1, .second, vJ p2, .second] [(.int (lcmpW p1 p2))]) t → GG p e below s₁ (entryFrame m #[(.long p1), (.long p2)] 4) t := fun t k => pre0 t (by
      show GG p e below s₁ (mkF m 0 #[vJ p1, .second, vJ p2, .second] []) _
      refine XS.lloadN X0.here hx rfl (bb d7_0) rfl ?_
      refine XS.lloadN X0.here hx rfl (bb d7_1) rfl ?_
      refine XS.lcmp X0.here hx rfl (bb d7_2) rfl ?_
      exact k)
  by_cases g2 : (lcmpW p1 p2) < (0 : Int32)
  · skip
    obtain ⟨fs, hr, hrun, hended, hW, hsame⟩ := X0.leave (v := some (.long p2)) (fun h => by rw [Bd.returns] at h; cases h)
    refine ⟨_, _, pre1 _ ?_, hrun, hended, _, _, rfl, ?_, ⟨_, rfl⟩, hW, hsame.mono (by decide) (by decide)⟩
    · show GG p e below s₁ (mkF m 3 #[vJ p1, .second, vJ p2, .second] [(.int (lcmpW p1 p2))]) _
      refine XS.ifYes X0.here hx rfl (pc0 := 3) (pc' := 10) rfl (bb d7_3) rfl ((if0 _ _).trans (tlt g2).1) (by decide) (by decide) ?_
      show GG p e below s₁ (mkF m 10 #[vJ p1, .second, vJ p2, .second] []) _
      refine XS.lloadN X0.here hx rfl (bb d7_10) rfl ?_
      jvm_step X0.here [X0.here.top, hx, (bb d7_11), X0.method', Bd.returns, narrow]
      first | (intro acts; rw [hr _ acts rfl rfl rfl]) | rw [hr _ _ rfl rfl rfl]
      exact Steps.refl _
    · exact ⟨by simp only [f_maxL, if_pos g2], N0, e0⟩
  · skip
    obtain ⟨fs, hr, hrun, hended, hW, hsame⟩ := X0.leave (v := some (.long p1)) (fun h => by rw [Bd.returns] at h; cases h)
    refine ⟨_, _, pre1 _ ?_, hrun, hended, _, _, rfl, ?_, ⟨_, rfl⟩, hW, hsame.mono (by decide) (by decide)⟩
    · show GG p e below s₁ (mkF m 3 #[vJ p1, .second, vJ p2, .second] [(.int (lcmpW p1 p2))]) _
      refine XS.ifNo X0.here hx rfl (bb d7_3) rfl ((if0 _ _).trans (flt g2).1) ?_
      refine XS.lloadN X0.here hx rfl (bb d7_6) rfl ?_
      refine XS.goto X0.here hx rfl (pc0 := 7) (pc' := 11) rfl (bb d7_7) (by decide) (by decide) ?_
      jvm_step X0.here [X0.here.top, hx, (bb d7_11), X0.method', Bd.returns, narrow]
      first | (intro acts; rw [hr _ acts rfl rfl rfl]) | rw [hr _ _ rfl rfl rfl]
      exact Steps.refl _
    · exact ⟨by simp only [f_maxL, if_neg g2], N0, e0⟩
def f_base (p1 : Int32) (p2 : Int32) : Int32 := ((f_maxL (-2147483648 : Int64) ((p1.toInt64) - (((65535 : Int64) - ((p2.toInt64) - (p1.toInt64))) / (2 : Int64)))).toInt32)
set_option maxRecDepth 65536 in
set_option maxHeartbeats 40000000 in
theorem rm_base (l : Launch) (Z : State) (a0 : Array Value) (hw : ∀ d ∈ tables_1, d.before a0 Z = true) (ws : List Jvm.Cond) (p1 p2 : Int32) (h0 : Heap) (n0 : Nat) (Z0 : n0 ≤ h0.size) (O0 : Old Z n0 h0) (S_CS : Sta Z Z.heap cRV "CHUNK_SHIFT" "I" (.int (12 : Int32))) :
    MetFree l (⟨cRV, "base", "(II)I"⟩ : MethodName) (head1 (Jvm.Cond.code (⟨cRV, "base", "(II)I"⟩ : MethodName) prog_47_method_8_code 4 (some .int) :: ws) ({ frames := 1, cells := 0, slots := 0, locals := 15 } : Room)) (fun a U => a = #[(.int p1), (.int p2)] ∧ Z.Warmed39 U.vm ∧ U.heap = h0) (fun _ _ _ _ _ => True) (fun _ U o U' => ∃ v L, o = .returned v ∧ PureQ (some (.int (f_base p1 p2))) h0 n0 v U'.heap L ∧ FrameEnd U o U' L ({ frames := 1, cells := 0, slots := 0, locals := 15 } : Room).cells ({ frames := 1, cells := 0, slots := 0, locals := 15 } : Room).slots) := by
  refine MetFree.of_bodySF (plainFor_of_name pn_RowValues) hisR ?_
  intro p e s m args below meth c s₁ Bd hml0 hP hK
  obtain ⟨rfl, hZ, hh⟩ := hP
  have hx := Bd.exec
  have hby := Bd.bytes
  have bb := fun {pc : Nat} {r : Except DecodeError (Instr × Nat)} (h : decode prog_47_method_8_code pc = r) => hb hby h
  have hml : c.maxLocals = 4 := hml0
  have hown : s.vm.findClass cRV = some m.cls := findClass_of_methodNamed Bd.named
  have hnm := (name_of_methodNamed Bd.named Bd.method).1
  have X0 : Stand p l e ({ frames := 1, cells := 0, slots := 0, locals := 15 } : Room) s m #[(.int p1), (.int p2)] below meth c s₁ [] 0 0 := Stand.of_body Bd
  have e0 : s₁.heap = h0 := by rw [← hh, Bd.state]; rfl
  have N0 := Fr.nil n0
  have pre0 : ∀ t, Steps p.tables e below (s₁.setTop (mkF m 0 #[vI p1, vI p2, .unset, .unset] [])) t → Steps p.tables e below (s₁.setTop (entryFrame m #[(.int p1), (.int p2)] 4)) t := fun t k => castTop (ef_base m p1 p2) k
  obtain ⟨_, _, ⟨T1, L1, k1, n1⟩, -, X1, ⟨Lc1, hQ1, l1, y1, z1⟩, st1⟩ := Jvm.LawKit.callS X0 hx (y := (⟨"java/lang/Math", "max", "(JJ)J"⟩ : MethodName)) hown (mvT hZ (wd52 hw)) (mvT hZ (wd53 hw)) (mvT hZ (wd54 hw)) (mvT hZ (wd55 hw)) (by decide) (backOf (W := 0) (rm_maxL l Z a0 hw [] (-2147483648 : Int64) ((p1.toInt64) - (((65535 : Int64) - ((p2.toInt64) - (p1.toInt64))) / (2 : Int64))) h0 n0 (own_z0 O0) O0 S_CS) hZ (wd55 hw) (wd54 hw) (by decide) (by decide)) (g := (mkF m 21 #[vI p1, vI p2, vJ ((65535 : Int64) - ((p2.toInt64) - (p1.toInt64))), .second] [(.long ((p1.toInt64) - (((65535 : Int64) - ((p2.toInt64) - (p1.toInt64))) / (2 : Int64)))), (.long (-2147483648))])) rfl (by rw [hml]; rfl) (argsL := [(.long (-2147483648)), (.long ((p1.toInt64) - (((65535 : Int64) - ((p2.toInt64) - (p1.toInt64))) / (2 : Int64))))]) (rest := []) (lenOf pd__JJ_J_5 rfl) rfl (by show 2 * 0 + _ ≤ _; exact Nat.le_of_eq rfl) (bb d6_21) (fun _ _ => ⟨rfl, e0, (by decide : 0 + 0 ≤ _), (by decide : 0 + 0 ≤ _)⟩)
  dsimp only [Pt.U, Pt.locs, Pt.cells, Pt.slots] at X1 l1 y1 z1 st1 hQ1
  subst l1 y1 z1
  obtain ⟨rfl, N1q, e1⟩ := hQ1
  have N1 := Fr.app N0 N1q
  obtain ⟨fs, hr, hrun, hended, hW, hsame⟩ := X1.leave (v := some (.int ((f_maxL (-2147483648 : Int64) ((p1.toInt64) - (((65535 : Int64) - ((p2.toInt64) - (p1.toInt64))) / (2 : Int64)))).toInt32))) (fun h => by rw [Bd.returns] at h; cases h)
  refine ⟨_, _, pre0 _ ?_, hrun, hended, _, _, rfl, ?_, ⟨_, rfl⟩, hW, hsame.mono (by decide) (by decide)⟩
  · show GG p e below s₁ (mkF m 0 #[vI p1, vI p2, .unset, .unset] []) _
    refine X0.ldc2Long hx hown (mvT hZ (wd49 hw)) (g := (mkF m 0 #[vI p1, vI p2, .unset, .unset] [])) rfl (bb d6_0) _ ?_
    show GG p e below s₁ (mkF m 3 #[vI p1, vI p2, .unset, .unset] [(.long 65535)]) _
    refine XS.iloadN X0.here hx rfl (bb d6_3) rfl ?_
    refine XS.i2l X0.here hx rfl (bb d6_4) rfl ?_
    refine XS.iloadN X0.here hx rfl (bb d6_5) rfl ?_
    refine XS.i2l X0.here hx rfl (bb d6_6) rfl ?_
    show GG p e below s₁ (mkF m 7 #[vI p1, vI p2, .unset, .unset] [(.long (p1.toInt64)), (.long (p2.toInt64)), (.long 65535)]) _
    refine XS.lsub X0.here hx rfl (bb d6_7) rfl ?_
    show GG p e below s₁ (mkF m 8 #[vI p1, vI p2, .unset, .unset] [(.long ((p2.toInt64) - (p1.toInt64))), (.long 65535)]) _
    refine XS.lsub X0.here hx rfl (bb d6_8) rfl ?_
    show GG p e below s₁ (mkF m 9 #[vI p1, vI p2, .unset, .unset] [(.long ((65535 : Int64) - ((p2.toInt64) - (p1.toInt64))))]) _
    refine XS.lstoreN X0.here hx rfl (bb d6_9) rfl (l' := #[vI p1, vI p2, vJ ((65535 : Int64) - ((p2.toInt64) - (p1.toInt64))), .second]) rfl ?_
    show GG p e below s₁ (mkF m 10 #[vI p1, vI p2, vJ ((65535 : Int64) - ((p2.toInt64) - (p1.toInt64))), .second] []) _
    refine X0.ldc2Long hx hown (mvT hZ (wd50 hw)) (g := (mkF m 10 #[vI p1, vI p2, vJ ((65535 : Int64) - ((p2.toInt64) - (p1.toInt64))), .second] [])) rfl (bb d6_10) _ ?_
    show GG p e below s₁ (mkF m 13 #[vI p1, vI p2, vJ ((65535 : Int64) - ((p2.toInt64) - (p1.toInt64))), .second] [(.long (-2147483648))]) _
    refine XS.iloadN X0.here hx rfl (bb d6_13) rfl ?_
    refine XS.i2l X0.here hx rfl (bb d6_14) rfl ?_
    refine XS.lloadN X0.here hx rfl (bb d6_15) rfl ?_
    refine X0.ldc2Long hx hown (mvT hZ (wd51 hw)) (g := (mkF m 16 #[vI p1, vI p2, vJ ((65535 : Int64) - ((p2.toInt64) - (p1.toInt64))), .second] [(.long ((65535 : Int64) - ((p2.toInt64) - (p1.toInt64)))), (.long (p1.toInt64)), (.long (-2147483648))])) rfl (bb d6_16) _ ?_
    show GG p e below s₁ (mkF m 19 #[vI p1, vI p2, vJ ((65535 : Int64) - ((p2.toInt64) - (p1.toInt64))), .second] [(.long 2), (.long ((65535 : Int64) - ((p2.toInt64) - (p1.toInt64)))), (.long (p1.toInt64)), (.long (-2147483648))]) _
    refine XS.ldiv X0.here hx rfl (bb d6_19) rfl (by decide) ?_
    show GG p e below s₁ (mkF m 20 #[vI p1, vI p2, vJ ((65535 : Int64) - ((p2.toInt64) - (p1.toInt64))), .second] [(.long (((65535 : Int64) - ((p2.toInt64) - (p1.toInt64))) / (2 : Int64))), (.long (p1.toInt64)), (.long (-2147483648))]) _
    refine XS.lsub X0.here hx rfl (bb d6_20) rfl ?_
    show GG p e below s₁ (mkF m 21 #[vI p1, vI p2, vJ ((65535 : Int64) - ((p2.toInt64) - (p1.toInt64))), .second] [(.long ((p1.toInt64) - (((65535 : Int64) - ((p2.toInt64) - (p1.toInt64))) / (2 : Int64)))), (.long (-2147483648))]) _
    refine st1 _ ?_
    show GG p e below T1 (mkF m 24 #[vI p1, vI p2, vJ ((65535 : Int64) - ((p2.toInt64) - (p1.toInt64))), .second] [(.long (f_maxL (-2147483648 : Int64) ((p1.toInt64) - (((65535 : Int64) - ((p2.toInt64) - (p1.toInt64))) / (2 : Int64)))))]) _
    refine XS.l2i X1.here hx rfl (bb d6_24) rfl ?_
    show GG p e below T1 (mkF m 25 #[vI p1, vI p2, vJ ((65535 : Int64) - ((p2.toInt64) - (p1.toInt64))), .second] [(.int ((f_maxL (-2147483648 : Int64) ((p1.toInt64) - (((65535 : Int64) - ((p2.toInt64) - (p1.toInt64))) / (2 : Int64)))).toInt32))]) _
    exact retI X1 hx Bd.returns (bb d6_25) hr
  · exact ⟨by simp only [f_base], N1, e1⟩
theorem own_max (x y : Int32) : (f_maxI x y).toInt = max x.toInt y.toInt := by
  unfold f_maxI
  split
  · rename_i h; rw [Int32.lt_iff_toInt_lt] at h; omega
  · rename_i h; rw [Int32.lt_iff_toInt_lt] at h; omega
theorem own_min (x y : Int32) : (f_minI x y).toInt = min x.toInt y.toInt := by
  unfold f_minI
  split
  · rename_i h; rw [Int32.lt_iff_toInt_lt] at h; omega
  · rename_i h; rw [Int32.lt_iff_toInt_lt] at h; omega
theorem own_maxS (x : Int32) : f_maxI x x = x := by unfold f_maxI; split <;> rfl
theorem own_minS (x : Int32) : f_minI x x = x := by unfold f_minI; split <;> rfl
theorem own_base {l u : Int32} (h0 : l.toInt ≤ u.toInt) (h : u.toInt - l.toInt < 65536) : (f_base l u).toInt ≤ l.toInt ∧ u.toInt < (f_base l u).toInt + 65536 := by
  unfold f_base f_maxL
  have rl := rng32 l
  have ru := rng32 u
  have el := c_i2l l
  have eu := c_i2l u
  have k1 : (65535 : Int64).toInt = 65535 := rfl
  have k2 : (-2147483648 : Int64).toInt = -2147483648 := rfl
  have a1 := c_lsub u.toInt64 l.toInt64
  have r1 := rng64 (u.toInt64 - l.toInt64)
  have a2 := c_lsub (65535 : Int64) (u.toInt64 - l.toInt64)
  have r2 := rng64 ((65535 : Int64) - (u.toInt64 - l.toInt64))
  generalize hx : ((65535 : Int64) - (u.toInt64 - l.toInt64)) = x at *
  have a3 := (c_ldiv x (2 : Int64) 2 rfl (by decide)).1 (by omega)
  have a4 := c_lsub l.toInt64 (x / 2)
  have r4 := rng64 (l.toInt64 - x / 2)
  generalize hy : (l.toInt64 - x / 2) = y at *
  split
  · rename_i g
    rw [lw_lt, Int64.lt_iff_toInt_lt] at g
    have e := c_l2i y
    have r := rng32 y.toInt32
    omega
  · rename_i g
    rw [lw_lt, Int64.lt_iff_toInt_lt] at g
    have e := c_l2i (-2147483648 : Int64)
    have r := rng32 (-2147483648 : Int64).toInt32
    omega
theorem own_dif (x y : Int32) : ((x.toInt64) - (y.toInt64)).toInt = x.toInt - y.toInt := by
  have rx := rng32 x
  have ry := rng32 y
  have ex := c_i2l x
  have ey := c_i2l y
  have a1 := c_lsub x.toInt64 y.toInt64
  have r1 := rng64 (x.toInt64 - y.toInt64)
  omega
theorem own_lt (x : Int64) (k : Int64) (K : Int) (hk : k.toInt = K) : (lcmpW x k) < (0 : Int32) ↔ x.toInt < K := by rw [lw_lt, Int64.lt_iff_toInt_lt, hk]
def nbase (b l u t : Int32) : Int32 := (if ((lcmpW ((t.toInt64) - (b.toInt64)) (0 : Int64)) < (0 : Int32)) ∨ ¬ ((lcmpW ((t.toInt64) - (b.toInt64)) (65536 : Int64)) < (0 : Int32)) then (f_base (f_minI t l) (f_maxI t u)) else b)
theorem own_sp {t l u : Int32} (h : (lcmpW (((f_maxI t u).toInt64) - ((f_minI t l).toInt64)) (65536 : Int64)) < (0 : Int32)) : (f_maxI t u).toInt - (f_minI t l).toInt < 65536 := by
  rw [own_lt _ _ 65536 rfl, own_dif] at h; exact h
theorem own_inT {b l u t : Int32} (h : (lcmpW (((f_maxI t u).toInt64) - ((f_minI t l).toInt64)) (65536 : Int64)) < (0 : Int32)) : ownIn (nbase b l u t) t := by
  have hs := own_sp h
  have m1 := own_max t u
  have m2 := own_min t l
  have q := own_base (l := f_minI t l) (u := f_maxI t u) (by omega) hs
  unfold nbase ownIn
  split
  · omega
  · rename_i g1
    rw [own_lt _ _ 0 rfl, own_lt _ _ 65536 rfl, own_dif] at g1
    omega
theorem own_inN {b l u t v : Int32} (i : ownIn b v) (j : ownBt l u v) (h : (lcmpW (((f_maxI t u).toInt64) - ((f_minI t l).toInt64)) (65536 : Int64)) < (0 : Int32)) : ownIn (nbase b l u t) v := by
  have hs := own_sp h
  have m1 := own_max t u
  have m2 := own_min t l
  obtain ⟨j1, j2⟩ := j
  have q := own_base (l := f_minI t l) (u := f_maxI t u) (by omega) hs
  unfold nbase
  split
  · unfold ownIn; omega
  · exact i
theorem own_inS (t : Int32) : ownIn (f_base t t) t := own_base (Int.le_refl _) (by omega)
theorem own_btS (t : Int32) : ownBt t t t := ⟨Int.le_refl _, Int.le_refl _⟩
theorem own_btT {l u t : Int32} : ownBt (f_minI t l) (f_maxI t u) t := by
  have m1 := own_max t u
  have m2 := own_min t l
  unfold ownBt; omega
theorem own_btN {l u t v : Int32} (j : ownBt l u v) : ownBt (f_minI t l) (f_maxI t u) v := by
  have m1 := own_max t u
  have m2 := own_min t l
  unfold ownBt at *; omega
theorem own_s0 (t : Int32) : (lcmpW (((f_maxI t t).toInt64) - ((f_minI t t).toInt64)) (65536 : Int64)) < (0 : Int32) := by rw [own_lt _ _ 65536 rfl, own_dif, own_maxS, own_minS]; omega
theorem own_d0 (t : Int32) : ¬ ((lcmpW ((t.toInt64) - ((f_base t t).toInt64)) (0 : Int64)) < (0 : Int32)) := by
  have q := own_inS t
  rw [own_lt _ _ 0 rfl, own_dif]; unfold ownIn at q; omega
theorem own_e0 (t : Int32) : (lcmpW ((t.toInt64) - ((f_base t t).toInt64)) (65536 : Int64)) < (0 : Int32) := by
  have q := own_inS t
  rw [own_lt _ _ 65536 rfl, own_dif]; unfold ownIn at q; omega

def f_draw (p1 : Int32) (p2 : Int64) : Int32 := (if (lcmpW (p2 &&& (1 : Int64)) (0 : Int64)) = (0 : Int32) then (p1 + (((p2 >>> ((1 : Int32) &&& 0x3f).toInt64) - ((p2 >>> ((1 : Int32) &&& 0x3f).toInt64) / (98304 : Int64)) * (98304 : Int64)).toInt32)) else ((p2 >>> ((1 : Int32) &&& 0x3f).toInt64).toInt32))
set_option maxRecDepth 65536 in
set_option maxHeartbeats 40000000 in
theorem rm_draw (l : Launch) (Z : State) (a0 : Array Value) (hw : ∀ d ∈ tables_1, d.before a0 Z = true) (ws : List Jvm.Cond) (p1 : Int32) (p2 : Int64) (h0 : Heap) (n0 : Nat) (Z0 : n0 ≤ h0.size) (O0 : Old Z n0 h0) (S_CS : Sta Z Z.heap cRV "CHUNK_SHIFT" "I" (.int (12 : Int32))) :
    MetFree l (⟨"com/example/chaseward/chaseward/engine/RowValuesGetPinLaw", "draw", "(IJ)I"⟩ : MethodName) (head1 (Jvm.Cond.code (⟨"com/example/chaseward/chaseward/engine/RowValuesGetPinLaw", "draw", "(IJ)I"⟩ : MethodName) method_3_code 3 (some .int) :: ws) ({ frames := 0, cells := 0, slots := 0, locals := 0 } : Room)) (fun a U => a = #[(.int p1), (.long p2)] ∧ Z.Warmed39 U.vm ∧ U.heap = h0) (fun _ _ _ _ _ => True) (fun _ U o U' => ∃ v L, o = .returned v ∧ PureQ (some (.int (f_draw p1 p2))) h0 n0 v U'.heap L ∧ FrameEnd U o U' L ({ frames := 0, cells := 0, slots := 0, locals := 0 } : Room).cells ({ frames := 0, cells := 0, slots := 0, locals := 0 } : Room).slots) := by
  refine MetFree.of_bodySF (plainFor_of_name pn_RowValuesGetPinLaw) hisR ?_
  intro p e s m args below meth c s₁ Bd hml0 hP hK
  obtain ⟨rfl, hZ, hh⟩ := hP
  have hx := Bd.exec
  have hby := Bd.bytes
  have bb := fun {pc : Nat} {r : Except DecodeError (Instr × Nat)} (h : decode method_3_code pc = r) => hb hby h
  have hml : c.maxLocals = 3 := hml0
  have hown : s.vm.findClass "com/example/chaseward/chaseward/engine/RowValuesGetPinLaw" = some m.cls := findClass_of_methodNamed Bd.named
  have hnm := (name_of_methodNamed Bd.named Bd.method).1
  have X0 : Stand p l e ({ frames := 0, cells := 0, slots := 0, locals := 0 } : Room) s m #[(.int p1), (.long p2)] below meth c s₁ [] 0 0 := Stand.of_body Bd
  have e0 : s₁.heap = h0 := by rw [← hh, Bd.state]; rfl
  have N0 := Fr.nil n0
  have pre0 : ∀ t, Steps p.tables e below (s₁.setTop (mkF m 0 #[vI p1, vJ p2, .second] [])) t → Steps p.tables e below (s₁.setTop (entryFrame m #[(.int p1), (.long p2)] 3)) t := fun t k => castTop (ef_draw m p1 p2) k
  have pre1 : ∀ t, GG p e below s₁ (mkF m 5 #[vI p1, vJ p2, .second] [(.int (lcmpW (p2 &&& (1 : Int64)) (0 : Int64)))]) t → GG p e below s₁ (entryFrame m #[(.int p1), (.long p2)] 3) t := fun t k => pre0 t (by
      show GG p e below s₁ (mkF m 0 #[vI p1, vJ p2, .second] []) _
      refine XS.lloadN X0.here hx rfl (bb d1_0) rfl ?_
      refine XS.lconst X0.here hx rfl (bb d1_1) ?_
      refine XS.land X0.here hx rfl (bb d1_2) rfl ?_
      show GG p e below s₁ (mkF m 3 #[vI p1, vJ p2, .second] [(.long (p2 &&& (1 : Int64)))]) _
      refine XS.lconst X0.here hx rfl (bb d1_3) ?_
      refine XS.lcmp X0.here hx rfl (bb d1_4) rfl ?_
      exact k)
  by_cases g2 : (lcmpW (p2 &&& (1 : Int64)) (0 : Int64)) = (0 : Int32)
  · skip
    obtain ⟨fs, hr, hrun, hended, hW, hsame⟩ := X0.leave (v := some (.int (p1 + (((p2 >>> ((1 : Int32) &&& 0x3f).toInt64) - ((p2 >>> ((1 : Int32) &&& 0x3f).toInt64) / (98304 : Int64)) * (98304 : Int64)).toInt32)))) (fun h => by rw [Bd.returns] at h; cases h)
    refine ⟨_, _, pre1 _ ?_, hrun, hended, _, _, rfl, ?_, ⟨_, rfl⟩, hW, hsame.mono (by decide) (by decide)⟩
    · show GG p e below s₁ (mkF m 5 #[vI p1, vJ p2, .second] [(.int (lcmpW (p2 &&& (1 : Int64)) (0 : Int64)))]) _
      refine XS.ifNo X0.here hx rfl (bb d1_5) rfl ((if0 _ _).trans (teq g2).2) ?_
      refine XS.iloadN X0.here hx rfl (bb d1_8) rfl ?_
      refine XS.lloadN X0.here hx rfl (bb d1_9) rfl ?_
      refine XS.iconst X0.here hx rfl (bb d1_10) ?_
      show GG p e below s₁ (mkF m 11 #[vI p1, vJ p2, .second] [(.int 1), (.long p2), (.int p1)]) _
      refine XS.lshr X0.here hx rfl (bb d1_11) rfl ?_
      show GG p e below s₁ (mkF m 12 #[vI p1, vJ p2, .second] [(.long (p2 >>> ((1 : Int32) &&& 0x3f).toInt64)), (.int p1)]) _
      refine X0.ldc2Long hx hown (mvT hZ (wd4 hw)) (g := (mkF m 12 #[vI p1, vJ p2, .second] [(.long (p2 >>> ((1 : Int32) &&& 0x3f).toInt64)), (.int p1)])) rfl (bb d1_12) _ ?_
      show GG p e below s₁ (mkF m 15 #[vI p1, vJ p2, .second] [(.long 98304), (.long (p2 >>> ((1 : Int32) &&& 0x3f).toInt64)), (.int p1)]) _
      refine XS.lrem X0.here hx rfl (bb d1_15) rfl (by decide) ?_
      show GG p e below s₁ (mkF m 16 #[vI p1, vJ p2, .second] [(.long ((p2 >>> ((1 : Int32) &&& 0x3f).toInt64) - ((p2 >>> ((1 : Int32) &&& 0x3f).toInt64) / (98304 : Int64)) * (98304 : Int64))), (.int p1)]) _
      refine XS.l2i X0.here hx rfl (bb d1_16) rfl ?_
      show GG p e below s₁ (mkF m 17 #[vI p1, vJ p2, .second] [(.int (((p2 >>> ((1 : Int32) &&& 0x3f).toInt64) - ((p2 >>> ((1 : Int32) &&& 0x3f).toInt64) / (98304 : Int64)) * (98304 : Int64)).toInt32)), (.int p1)]) _
      refine XS.iadd X0.here hx rfl (bb d1_17) rfl ?_
      exact retI X0 hx Bd.returns (bb d1_18) hr
    · exact ⟨by simp only [f_draw, if_pos g2], N0, e0⟩
  · skip
    obtain ⟨fs, hr, hrun, hended, hW, hsame⟩ := X0.leave (v := some (.int ((p2 >>> ((1 : Int32) &&& 0x3f).toInt64).toInt32))) (fun h => by rw [Bd.returns] at h; cases h)
    refine ⟨_, _, pre1 _ ?_, hrun, hended, _, _, rfl, ?_, ⟨_, rfl⟩, hW, hsame.mono (by decide) (by decide)⟩
    · show GG p e below s₁ (mkF m 5 #[vI p1, vJ p2, .second] [(.int (lcmpW (p2 &&& (1 : Int64)) (0 : Int64)))]) _
      refine XS.ifYes X0.here hx rfl (pc0 := 5) (pc' := 19) rfl (bb d1_5) rfl ((if0 _ _).trans (feq g2).2) (by decide) (by decide) ?_
      show GG p e below s₁ (mkF m 19 #[vI p1, vJ p2, .second] []) _
      refine XS.lloadN X0.here hx rfl (bb d1_19) rfl ?_
      refine XS.iconst X0.here hx rfl (bb d1_20) ?_
      refine XS.lshr X0.here hx rfl (bb d1_21) rfl ?_
      show GG p e below s₁ (mkF m 22 #[vI p1, vJ p2, .second] [(.long (p2 >>> ((1 : Int32) &&& 0x3f).toInt64))]) _
      refine XS.l2i X0.here hx rfl (bb d1_22) rfl ?_
      show GG p e below s₁ (mkF m 23 #[vI p1, vJ p2, .second] [(.int ((p2 >>> ((1 : Int32) &&& 0x3f).toInt64).toInt32))]) _
      exact retI X0 hx Bd.returns (bb d1_23) hr
    · exact ⟨by simp only [f_draw, if_neg g2], N0, e0⟩
def Q_rvInit2 (Z : State) (a1 : Addr) (h0 : Heap) (n0 : Nat) (v : Option Value) (h : Heap) (L : List Loc) : Prop := ∃ (ow on ob ol oh ov : Addr) (kw_ kn_ kb_ kl_ kh_ kv_ : ClassId), v = none ∧ Fr n0 L ∧ Keep h0 h [a1] ∧ h0.size ≤ ow ∧ h0.size ≤ on ∧ h0.size ≤ ob ∧ h0.size ≤ ol ∧ h0.size ≤ oh ∧ h0.size ≤ ov ∧ ow ≠ on ∧ ow ≠ ob ∧ ow ≠ ol ∧ ow ≠ oh ∧ ow ≠ ov ∧ on ≠ ob ∧ on ≠ ol ∧ on ≠ oh ∧ on ≠ ov ∧ ob ≠ ol ∧ ob ≠ oh ∧ ob ≠ ov ∧ ol ≠ oh ∧ ol ≠ ov ∧ oh ≠ ov ∧ Exa Z h a1 cRV ∧ Fld Z h a1 cRV "arity" "I" (.int 2) ∧ Fld Z h a1 cRV "rows" "I" (.int 0) ∧ Fld Z h a1 cRV "wide" "[[I" (.ref ow) ∧ Fld Z h a1 cRV "narrow" "[[C" (.ref on) ∧ Fld Z h a1 cRV "bases" "[I" (.ref ob) ∧ Fld Z h a1 cRV "lowest" "[I" (.ref ol) ∧ Fld Z h a1 cRV "highest" "[I" (.ref oh) ∧ Arv Z h ow kw_ (.array .int) (1 : Int32) [.null] .null ∧ OvrA Z kw_ .int "[I" ∧ Arv Z h on kn_ (.array .char) (1 : Int32) [(.ref ov)] .null ∧ OvrA Z kn_ .char "[C" ∧ Arv Z h ob kb_ .int (2 : Int32) [(.int 0), (.int 0)] (.int 0) ∧ Arv Z h ol kl_ .int (2 : Int32) [(.int 0), (.int 0)] (.int 0) ∧ Arv Z h oh kh_ .int (2 : Int32) [(.int 0), (.int 0)] (.int 0) ∧ Arv Z h ov kv_ .char (16 : Int32) [(.int 0), (.int 0), (.int 0), (.int 0), (.int 0), (.int 0), (.int 0), (.int 0), (.int 0), (.int 0), (.int 0), (.int 0), (.int 0), (.int 0), (.int 0), (.int 0)] (.int 0)
set_option maxRecDepth 65536 in
set_option maxHeartbeats 40000000 in
theorem rm_rvInit2 (l : Launch) (Z : State) (a0 : Array Value) (hw : ∀ d ∈ tables_1, d.before a0 Z = true) (ws : List Jvm.Cond) (a1 : Addr) (h0 : Heap) (n0 : Nat) (Z0 : n0 ≤ h0.size) (O0 : Old Z n0 h0) (S_CS : Sta Z Z.heap cRV "CHUNK_SHIFT" "I" (.int (12 : Int32))) (r0 : Exa Z h0 a1 cRV) (r1 : Fld Z h0 a1 cRV "arity" "I" (.int 0)) (r2 : Fld Z h0 a1 cRV "rows" "I" (.int 0)) (r3 : Fld Z h0 a1 cRV "wide" "[[I" .null) (r4 : Fld Z h0 a1 cRV "narrow" "[[C" .null) (r5 : Fld Z h0 a1 cRV "bases" "[I" .null) (r6 : Fld Z h0 a1 cRV "lowest" "[I" .null) (r7 : Fld Z h0 a1 cRV "highest" "[I" .null) (g_a1 : n0 ≤ a1) :
    MetFree l (⟨cRV, "<init>", "(I)V"⟩ : MethodName) (head1 (Jvm.Cond.code (⟨cRV, "<init>", "(I)V"⟩ : MethodName) prog_47_method_1_code 2 none :: ws) ({ frames := 1, cells := 6, slots := 24, locals := 12 } : Room)) (fun a U => a = #[(.ref a1), (.int 2)] ∧ Z.Warmed39 U.vm ∧ U.heap = h0) (fun _ _ _ _ _ => True) (fun _ U o U' => ∃ v L, o = .returned v ∧ Q_rvInit2 Z a1 h0 n0 v U'.heap L ∧ FrameEnd U o U' L ({ frames := 1, cells := 6, slots := 24, locals := 12 } : Room).cells ({ frames := 1, cells := 6, slots := 24, locals := 12 } : Room).slots) := by
  refine MetFree.of_bodySF (plainFor_of_name pn_RowValues) hisR ?_
  intro p e s m args below meth c s₁ Bd hml0 hP hK
  obtain ⟨rfl, hZ, hh⟩ := hP
  have hx := Bd.exec
  have hby := Bd.bytes
  have bb := fun {pc : Nat} {r : Except DecodeError (Instr × Nat)} (h : decode prog_47_method_1_code pc = r) => hb hby h
  have hml : c.maxLocals = 2 := hml0
  have hown : s.vm.findClass cRV = some m.cls := findClass_of_methodNamed Bd.named
  have hnm := (name_of_methodNamed Bd.named Bd.method).1
  have X0 : Stand p l e ({ frames := 1, cells := 6, slots := 24, locals := 12 } : Room) s m #[(.ref a1), (.int 2)] below meth c s₁ [] 0 0 := Stand.of_body Bd
  have e0 : s₁.heap = h0 := by rw [← hh, Bd.state]; rfl
  have N0 := Fr.nil n0
  have pre0 : ∀ t, Steps p.tables e below (s₁.setTop (mkF m 0 #[vR a1, vI 2] [])) t → Steps p.tables e below (s₁.setTop (entryFrame m #[(.ref a1), (.int 2)] 2)) t := fun t k => castTop (ef_rvInit2 m a1) k
  obtain ⟨T1, X1, e1, st1⟩ := initO X0 hx hZ hown (wd12 hw) (wd13 hw) (wd14 hw) e0 (g := (mkF m 1 #[vR a1, vI 2] [(.ref a1)])) rfl (by rw [hml]; rfl) rfl (bb d2_1) (by decide) (W := 0) (by show 2 * 0 + _ ≤ _; exact Nat.le_of_eq rfl) (by decide)
  obtain ⟨T2, h2, k2, X2, e2, E2, A2, B2, R2, st2⟩ := newRA X1 hx hZ hown (C := "[I") (ty := .int) (by decide) (wd15 hw) (wd16 hw) e1 (g := (mkF m 6 #[vR a1, vI 2] [(.int 1), (.ref a1)])) rfl (bb d2_6) rfl (by decide) (cap := 1) (by decide) (by decide) (by decide) (by decide) (ad := "[[I") (by decide)
  obtain ⟨b2, q_b2⟩ : ∃ z, z = (h0).size := ⟨_, rfl⟩
  rw [← q_b2] at A2 B2 st2
  have g_b2 : n0 ≤ b2 := Nat.le_trans (own_z0 O0) (Nat.le_of_eq q_b2.symm)
  have sz_b2 : h0.size ≤ b2 := Nat.le_trans (Nat.le_refl _) (Nat.le_of_eq q_b2.symm)
  have ne_a1_b2 : a1 ≠ b2 := Nat.ne_of_lt (Nat.lt_of_lt_of_le r0.lt (Nat.le_of_eq q_b2.symm))
  have V_b2 : Arv Z h2 b2 k2 (.array .int) (1 : Int32) [.null] .null := (Arv.new A2 (by decide)).pad (pad_rep [] .null 1)
  have F4 := (r3.ext E2)
  have F5 := (r0.ext E2)
  obtain ⟨T3, h3, X3, e3, W3, st3⟩ := putF X2 hx hZ hown (host := "") (Or.inl (wd17 hw)) Via.refl e2 F4 F5 (Or.inl (wd18 hw)) (wd7 hw) (ty := (.array (.array .int))) (by decide) rfl rfl (g := (mkF m 9 #[vR a1, vI 2] [(.ref b2), (.ref a1)])) rfl rfl (bb d2_9)
  have Fw3 := F4.same W3
  have N3 := Fr.snoc X3 N0 g_a1
  have O7 := ((O0.ext E2).wr W3 g_a1)
  obtain ⟨T6, h6, k6, X6, e6, E6, A6, B6, R6, st6⟩ := newRA X3 hx hZ hown (C := "[C") (ty := .char) (by decide) (wd19 hw) (wd20 hw) e3 (g := (mkF m 14 #[vR a1, vI 2] [(.int 1), (.ref a1)])) rfl (bb d2_14) rfl (by decide) (cap := 1) (by decide) (by decide) (by decide) (by decide) (ad := "[[C") (by decide)
  obtain ⟨b6, q_b6⟩ : ∃ z, z = (h3).size := ⟨_, rfl⟩
  rw [← q_b6] at A6 B6 st6
  have g_b6 : n0 ≤ b6 := Nat.le_trans (own_z0 O7) (Nat.le_of_eq q_b6.symm)
  have sz_b6 : h0.size ≤ b6 := Nat.le_trans (Nat.le_trans (Nat.le_trans (Nat.le_refl _) E2.1) (Keep.of_wr W3).1) (Nat.le_of_eq q_b6.symm)
  have F8 := (F5.wr W3)
  have ne_a1_b6 : a1 ≠ b6 := Nat.ne_of_lt (Nat.lt_of_lt_of_le F8.lt (Nat.le_of_eq q_b6.symm))
  have F9 := (V_b2.other W3 (Ne.symm ne_a1_b2))
  have ne_b2_b6 : b2 ≠ b6 := Nat.ne_of_lt (Nat.lt_of_lt_of_le F9.lt (Nat.le_of_eq q_b6.symm))
  have V_b6 : Arv Z h6 b6 k6 (.array .char) (1 : Int32) [.null] .null := (Arv.new A6 (by decide)).pad (pad_rep [] .null 1)
  have F11 := (((r4.ext E2).other W3 (Or.inr (slot_ne (Or.inl (wd22 hw)) (Or.inl (wd18 hw)) (by decide) (t := (.array (.array .char))) (t' := (.array (.array .int))) (by decide) (by decide)))).ext E6)
  have F12 := (F8.ext E6)
  obtain ⟨T10, h10, X10, e10, W10, st10⟩ := putF X6 hx hZ hown (host := "") (Or.inl (wd21 hw)) Via.refl e6 F11 F12 (Or.inl (wd22 hw)) (wd7 hw) (ty := (.array (.array .char))) (by decide) rfl rfl (g := (mkF m 17 #[vR a1, vI 2] [(.ref b6), (.ref a1)])) rfl rfl (bb d2_17)
  have Fw10 := F11.same W10
  have N10 := Fr.snoc X10 N3 g_a1
  have F14 := ((((r1.ext E2).other W3 (Or.inr (slot_ne (Or.inr (wd24 hw)) (Or.inl (wd18 hw)) (by decide) (t := .int) (t' := (.array (.array .int))) (by decide) (by decide)))).ext E6).other W10 (Or.inr (slot_ne (Or.inr (wd24 hw)) (Or.inl (wd22 hw)) (by decide) (t := .int) (t' := (.array (.array .char))) (by decide) (by decide))))
  have F15 := (F12.wr W10)
  obtain ⟨T13, h13, X13, e13, W13, st13⟩ := putF X10 hx hZ hown (host := "") (Or.inl (wd23 hw)) Via.refl e10 F14 F15 (Or.inr ⟨(wd24 hw), rfl, hnm⟩) (wd7 hw) (ty := .int) (by decide) rfl rfl (g := (mkF m 22 #[vR a1, vI 2] [(.int 2), (.ref a1)])) rfl rfl (bb d2_22)
  have Fw13 := F14.same W13
  have N13 := Fr.snoc X13 N10 g_a1
  have O17 := (((O7.ext E6).wr W10 g_a1).wr W13 g_a1)
  obtain ⟨T16, h16, k16, X16, e16, E16, A16, B16, st16⟩ := newPE (aty := .int) X13 hx hZ (wd5 hw) e13 (g := (mkF m 27 #[vR a1, vI 2] [(.int 2), (.ref a1)])) rfl (bb d2_27) rfl (by decide) (cap := 2) (by decide) (by decide) (by decide) (by decide) (ad := "[I") (by decide)
  obtain ⟨b16, q_b16⟩ : ∃ z, z = (h13).size := ⟨_, rfl⟩
  rw [← q_b16] at A16 B16 st16
  have g_b16 : n0 ≤ b16 := Nat.le_trans (own_z0 O17) (Nat.le_of_eq q_b16.symm)
  have sz_b16 : h0.size ≤ b16 := Nat.le_trans (Nat.le_trans (Nat.le_trans (Nat.le_trans (Nat.le_trans (Nat.le_trans (Nat.le_refl _) E2.1) (Keep.of_wr W3).1) E6.1) (Keep.of_wr W10).1) (Keep.of_wr W13).1) (Nat.le_of_eq q_b16.symm)
  have F18 := (F15.wr W13)
  have ne_a1_b16 : a1 ≠ b16 := Nat.ne_of_lt (Nat.lt_of_lt_of_le F18.lt (Nat.le_of_eq q_b16.symm))
  have F19 := (((F9.ext E6).other W10 (Ne.symm ne_a1_b2)).other W13 (Ne.symm ne_a1_b2))
  have ne_b2_b16 : b2 ≠ b16 := Nat.ne_of_lt (Nat.lt_of_lt_of_le F19.lt (Nat.le_of_eq q_b16.symm))
  have F20 := ((V_b6.other W10 (Ne.symm ne_a1_b6)).other W13 (Ne.symm ne_a1_b6))
  have ne_b6_b16 : b6 ≠ b16 := Nat.ne_of_lt (Nat.lt_of_lt_of_le F20.lt (Nat.le_of_eq q_b16.symm))
  have V_b16 : Arv Z h16 b16 k16 .int (2 : Int32) [(.int 0), (.int 0)] (.int 0) := (Arv.new A16 (by decide)).pad (pad_rep [] (.int 0) 2)
  have F22 := ((((((r5.ext E2).other W3 (Or.inr (slot_ne (Or.inl (wd26 hw)) (Or.inl (wd18 hw)) (by decide) (t := (.array .int)) (t' := (.array (.array .int))) (by decide) (by decide)))).ext E6).other W10 (Or.inr (slot_ne (Or.inl (wd26 hw)) (Or.inl (wd22 hw)) (by decide) (t := (.array .int)) (t' := (.array (.array .char))) (by decide) (by decide)))).other W13 (Or.inr (slot_ne (Or.inl (wd26 hw)) (Or.inr (wd24 hw)) (by decide) (t := (.array .int)) (t' := .int) (by decide) (by decide)))).ext E16)
  have F23 := (F18.ext E16)
  obtain ⟨T21, h21, X21, e21, W21, st21⟩ := putF X16 hx hZ hown (host := "") (Or.inl (wd25 hw)) Via.refl e16 F22 F23 (Or.inl (wd26 hw)) (wd7 hw) (ty := (.array .int)) (by decide) rfl rfl (g := (mkF m 29 #[vR a1, vI 2] [(.ref b16), (.ref a1)])) rfl rfl (bb d2_29)
  have Fw21 := F22.same W21
  have N21 := Fr.snoc X21 N13 g_a1
  have O25 := ((O17.ext E16).wr W21 g_a1)
  obtain ⟨T24, h24, k24, X24, e24, E24, A24, B24, st24⟩ := newPE (aty := .int) X21 hx hZ (wd5 hw) e21 (g := (mkF m 34 #[vR a1, vI 2] [(.int 2), (.ref a1)])) rfl (bb d2_34) rfl (by decide) (cap := 2) (by decide) (by decide) (by decide) (by decide) (ad := "[I") (by decide)
  obtain ⟨b24, q_b24⟩ : ∃ z, z = (h21).size := ⟨_, rfl⟩
  rw [← q_b24] at A24 B24 st24
  have g_b24 : n0 ≤ b24 := Nat.le_trans (own_z0 O25) (Nat.le_of_eq q_b24.symm)
  have sz_b24 : h0.size ≤ b24 := Nat.le_trans (Nat.le_trans (Nat.le_trans (Nat.le_trans (Nat.le_trans (Nat.le_trans (Nat.le_trans (Nat.le_trans (Nat.le_refl _) E2.1) (Keep.of_wr W3).1) E6.1) (Keep.of_wr W10).1) (Keep.of_wr W13).1) E16.1) (Keep.of_wr W21).1) (Nat.le_of_eq q_b24.symm)
  have F26 := (F23.wr W21)
  have ne_a1_b24 : a1 ≠ b24 := Nat.ne_of_lt (Nat.lt_of_lt_of_le F26.lt (Nat.le_of_eq q_b24.symm))
  have F27 := ((F19.ext E16).other W21 (Ne.symm ne_a1_b2))
  have ne_b2_b24 : b2 ≠ b24 := Nat.ne_of_lt (Nat.lt_of_lt_of_le F27.lt (Nat.le_of_eq q_b24.symm))
  have F28 := ((F20.ext E16).other W21 (Ne.symm ne_a1_b6))
  have ne_b6_b24 : b6 ≠ b24 := Nat.ne_of_lt (Nat.lt_of_lt_of_le F28.lt (Nat.le_of_eq q_b24.symm))
  have F29 := (V_b16.other W21 (Ne.symm ne_a1_b16))
  have ne_b16_b24 : b16 ≠ b24 := Nat.ne_of_lt (Nat.lt_of_lt_of_le F29.lt (Nat.le_of_eq q_b24.symm))
  have V_b24 : Arv Z h24 b24 k24 .int (2 : Int32) [(.int 0), (.int 0)] (.int 0) := (Arv.new A24 (by decide)).pad (pad_rep [] (.int 0) 2)
  have F31 := ((((((((r6.ext E2).other W3 (Or.inr (slot_ne (Or.inr (wd28 hw)) (Or.inl (wd18 hw)) (by decide) (t := (.array .int)) (t' := (.array (.array .int))) (by decide) (by decide)))).ext E6).other W10 (Or.inr (slot_ne (Or.inr (wd28 hw)) (Or.inl (wd22 hw)) (by decide) (t := (.array .int)) (t' := (.array (.array .char))) (by decide) (by decide)))).other W13 (Or.inr (slot_ne (Or.inr (wd28 hw)) (Or.inr (wd24 hw)) (by decide) (t := (.array .int)) (t' := .int) (by decide) (by decide)))).ext E16).other W21 (Or.inr (slot_ne (Or.inr (wd28 hw)) (Or.inl (wd26 hw)) (by decide) (t := (.array .int)) (t' := (.array .int)) (by decide) (by decide)))).ext E24)
  have F32 := (F26.ext E24)
  obtain ⟨T30, h30, X30, e30, W30, st30⟩ := putF X24 hx hZ hown (host := "") (Or.inl (wd27 hw)) Via.refl e24 F31 F32 (Or.inr ⟨(wd28 hw), rfl, hnm⟩) (wd7 hw) (ty := (.array .int)) (by decide) rfl rfl (g := (mkF m 36 #[vR a1, vI 2] [(.ref b24), (.ref a1)])) rfl rfl (bb d2_36)
  have Fw30 := F31.same W30
  have N30 := Fr.snoc X30 N21 g_a1
  have O34 := ((O25.ext E24).wr W30 g_a1)
  obtain ⟨T33, h33, k33, X33, e33, E33, A33, B33, st33⟩ := newPE (aty := .int) X30 hx hZ (wd5 hw) e30 (g := (mkF m 41 #[vR a1, vI 2] [(.int 2), (.ref a1)])) rfl (bb d2_41) rfl (by decide) (cap := 2) (by decide) (by decide) (by decide) (by decide) (ad := "[I") (by decide)
  obtain ⟨b33, q_b33⟩ : ∃ z, z = (h30).size := ⟨_, rfl⟩
  rw [← q_b33] at A33 B33 st33
  have g_b33 : n0 ≤ b33 := Nat.le_trans (own_z0 O34) (Nat.le_of_eq q_b33.symm)
  have sz_b33 : h0.size ≤ b33 := Nat.le_trans (Nat.le_trans (Nat.le_trans (Nat.le_trans (Nat.le_trans (Nat.le_trans (Nat.le_trans (Nat.le_trans (Nat.le_trans (Nat.le_trans (Nat.le_refl _) E2.1) (Keep.of_wr W3).1) E6.1) (Keep.of_wr W10).1) (Keep.of_wr W13).1) E16.1) (Keep.of_wr W21).1) E24.1) (Keep.of_wr W30).1) (Nat.le_of_eq q_b33.symm)
  have F35 := (F32.wr W30)
  have ne_a1_b33 : a1 ≠ b33 := Nat.ne_of_lt (Nat.lt_of_lt_of_le F35.lt (Nat.le_of_eq q_b33.symm))
  have F36 := ((F27.ext E24).other W30 (Ne.symm ne_a1_b2))
  have ne_b2_b33 : b2 ≠ b33 := Nat.ne_of_lt (Nat.lt_of_lt_of_le F36.lt (Nat.le_of_eq q_b33.symm))
  have F37 := ((F28.ext E24).other W30 (Ne.symm ne_a1_b6))
  have ne_b6_b33 : b6 ≠ b33 := Nat.ne_of_lt (Nat.lt_of_lt_of_le F37.lt (Nat.le_of_eq q_b33.symm))
  have F38 := ((F29.ext E24).other W30 (Ne.symm ne_a1_b16))
  have ne_b16_b33 : b16 ≠ b33 := Nat.ne_of_lt (Nat.lt_of_lt_of_le F38.lt (Nat.le_of_eq q_b33.symm))
  have F39 := (V_b24.other W30 (Ne.symm ne_a1_b24))
  have ne_b24_b33 : b24 ≠ b33 := Nat.ne_of_lt (Nat.lt_of_lt_of_le F39.lt (Nat.le_of_eq q_b33.symm))
  have V_b33 : Arv Z h33 b33 k33 .int (2 : Int32) [(.int 0), (.int 0)] (.int 0) := (Arv.new A33 (by decide)).pad (pad_rep [] (.int 0) 2)
  have F41 := ((((((((((r7.ext E2).other W3 (Or.inr (slot_ne (Or.inr (wd30 hw)) (Or.inl (wd18 hw)) (by decide) (t := (.array .int)) (t' := (.array (.array .int))) (by decide) (by decide)))).ext E6).other W10 (Or.inr (slot_ne (Or.inr (wd30 hw)) (Or.inl (wd22 hw)) (by decide) (t := (.array .int)) (t' := (.array (.array .char))) (by decide) (by decide)))).other W13 (Or.inr (slot_ne (Or.inr (wd30 hw)) (Or.inr (wd24 hw)) (by decide) (t := (.array .int)) (t' := .int) (by decide) (by decide)))).ext E16).other W21 (Or.inr (slot_ne (Or.inr (wd30 hw)) (Or.inl (wd26 hw)) (by decide) (t := (.array .int)) (t' := (.array .int)) (by decide) (by decide)))).ext E24).other W30 (Or.inr (slot_ne (Or.inr (wd30 hw)) (Or.inr (wd28 hw)) (by decide) (t := (.array .int)) (t' := (.array .int)) (by decide) (by decide)))).ext E33)
  have F42 := (F35.ext E33)
  obtain ⟨T40, h40, X40, e40, W40, st40⟩ := putF X33 hx hZ hown (host := "") (Or.inl (wd29 hw)) Via.refl e33 F41 F42 (Or.inr ⟨(wd30 hw), rfl, hnm⟩) (wd7 hw) (ty := (.array .int)) (by decide) rfl rfl (g := (mkF m 43 #[vR a1, vI 2] [(.ref b33), (.ref a1)])) rfl rfl (bb d2_43)
  have Fw40 := F41.same W40
  have N40 := Fr.snoc X40 N30 g_a1
  have F44 := (((((((Fw10.other W13 (Or.inr (slot_ne (Or.inl (wd22 hw)) (Or.inr (wd24 hw)) (by decide) (t := (.array (.array .char))) (t' := .int) (by decide) (by decide)))).ext E16).other W21 (Or.inr (slot_ne (Or.inl (wd22 hw)) (Or.inl (wd26 hw)) (by decide) (t := (.array (.array .char))) (t' := (.array .int)) (by decide) (by decide)))).ext E24).other W30 (Or.inr (slot_ne (Or.inl (wd22 hw)) (Or.inr (wd28 hw)) (by decide) (t := (.array (.array .char))) (t' := (.array .int)) (by decide) (by decide)))).ext E33).other W40 (Or.inr (slot_ne (Or.inl (wd22 hw)) (Or.inr (wd30 hw)) (by decide) (t := (.array (.array .char))) (t' := (.array .int)) (by decide) (by decide))))
  obtain ⟨T43, X43, e43, st43⟩ := getF X40 hx hZ hown (host := "") (Or.inl (wd21 hw)) Via.refl e40 F44 (g := (mkF m 47 #[vR a1, vI 2] [(.ref a1)])) rfl rfl (bb d2_47)
  have O46 := ((O34.ext E33).wr W40 g_a1)
  obtain ⟨T45, h45, k45, X45, e45, E45, A45, B45, st45⟩ := newPE (aty := .char) X43 hx hZ (wd31 hw) e43 (g := (mkF m 55 #[vR a1, vI 2] [(.int 16), (.int 0), (.ref b6)])) rfl (bb d2_55) rfl (by decide) (cap := 16) (by decide) (by decide) (by decide) (by decide) (ad := "[C") (by decide)
  obtain ⟨b45, q_b45⟩ : ∃ z, z = (h40).size := ⟨_, rfl⟩
  rw [← q_b45] at A45 B45 st45
  have g_b45 : n0 ≤ b45 := Nat.le_trans (own_z0 O46) (Nat.le_of_eq q_b45.symm)
  have sz_b45 : h0.size ≤ b45 := Nat.le_trans (Nat.le_trans (Nat.le_trans (Nat.le_trans (Nat.le_trans (Nat.le_trans (Nat.le_trans (Nat.le_trans (Nat.le_trans (Nat.le_trans (Nat.le_trans (Nat.le_trans (Nat.le_refl _) E2.1) (Keep.of_wr W3).1) E6.1) (Keep.of_wr W10).1) (Keep.of_wr W13).1) E16.1) (Keep.of_wr W21).1) E24.1) (Keep.of_wr W30).1) E33.1) (Keep.of_wr W40).1) (Nat.le_of_eq q_b45.symm)
  have F47 := (F42.wr W40)
  have ne_a1_b45 : a1 ≠ b45 := Nat.ne_of_lt (Nat.lt_of_lt_of_le F47.lt (Nat.le_of_eq q_b45.symm))
  have F48 := ((F36.ext E33).other W40 (Ne.symm ne_a1_b2))
  have ne_b2_b45 : b2 ≠ b45 := Nat.ne_of_lt (Nat.lt_of_lt_of_le F48.lt (Nat.le_of_eq q_b45.symm))
  have F49 := ((F37.ext E33).other W40 (Ne.symm ne_a1_b6))
  have ne_b6_b45 : b6 ≠ b45 := Nat.ne_of_lt (Nat.lt_of_lt_of_le F49.lt (Nat.le_of_eq q_b45.symm))
  have F50 := ((F38.ext E33).other W40 (Ne.symm ne_a1_b16))
  have ne_b16_b45 : b16 ≠ b45 := Nat.ne_of_lt (Nat.lt_of_lt_of_le F50.lt (Nat.le_of_eq q_b45.symm))
  have F51 := ((F39.ext E33).other W40 (Ne.symm ne_a1_b24))
  have ne_b24_b45 : b24 ≠ b45 := Nat.ne_of_lt (Nat.lt_of_lt_of_le F51.lt (Nat.le_of_eq q_b45.symm))
  have F52 := (V_b33.other W40 (Ne.symm ne_a1_b33))
  have ne_b33_b45 : b33 ≠ b45 := Nat.ne_of_lt (Nat.lt_of_lt_of_le F52.lt (Nat.le_of_eq q_b45.symm))
  have V_b45 : Arv Z h45 b45 k45 .char (16 : Int32) [(.int 0), (.int 0), (.int 0), (.int 0), (.int 0), (.int 0), (.int 0), (.int 0), (.int 0), (.int 0), (.int 0), (.int 0), (.int 0), (.int 0), (.int 0), (.int 0)] (.int 0) := (Arv.new A45 (by decide)).pad (pad_rep [] (.int 0) 16)
  have F53 := (F49.ext E45)
  obtain ⟨cl54, Ar54, vq54, vS54, vN54, vH54, vG54⟩ := id F53
  have hin54 : ¬ (((0 : Int32) : Int32) < 0 ∨ cl54.slots.size ≤ ((0 : Int32) : Int32).toNatClampNeg) := inb_of vS54 ⟨by decide, by decide⟩
  obtain ⟨T54, h54, X54, e54, W54, st54⟩ := stR X45 hx hZ e45 Ar54 (j := (0 : Int32)) hin54 rfl (Sto.ofVA Ar54 vq54 R6 (Ins.self B45)) (g := (mkF m 57 #[vR a1, vI 2] [(.ref b45), (.int 0), (.ref b6)])) rfl rfl (bb d2_57)
  have V54 : Arv Z h54 b6 k6 (.array .char) (1 : Int32) [(.ref b45)] .null := Arv.set Ar54 vq54 vS54 vN54 vH54 vG54 rfl W54 0 rfl (Nat.le_of_ble_eq_true rfl)
  have N54 := Fr.snoc X54 N40 g_b6
  have F55 := ((F47.ext E45).wr W54)
  have F56 := ((((((((Fw13.ext E16).other W21 (Or.inr (slot_ne (Or.inr (wd24 hw)) (Or.inl (wd26 hw)) (by decide) (t := .int) (t' := (.array .int)) (by decide) (by decide)))).ext E24).other W30 (Or.inr (slot_ne (Or.inr (wd24 hw)) (Or.inr (wd28 hw)) (by decide) (t := .int) (t' := (.array .int)) (by decide) (by decide)))).ext E33).other W40 (Or.inr (slot_ne (Or.inr (wd24 hw)) (Or.inr (wd30 hw)) (by decide) (t := .int) (t' := (.array .int)) (by decide) (by decide)))).ext E45).other W54 (Or.inl ne_a1_b6))
  have F57 := (((((((((((((r2.ext E2).other W3 (Or.inr (slot_ne (Or.inl (wd39 hw)) (Or.inl (wd18 hw)) (by decide) (t := .int) (t' := (.array (.array .int))) (by decide) (by decide)))).ext E6).other W10 (Or.inr (slot_ne (Or.inl (wd39 hw)) (Or.inl (wd22 hw)) (by decide) (t := .int) (t' := (.array (.array .char))) (by decide) (by decide)))).other W13 (Or.inr (slot_ne (Or.inl (wd39 hw)) (Or.inr (wd24 hw)) (by decide) (t := .int) (t' := .int) (by decide) (by decide)))).ext E16).other W21 (Or.inr (slot_ne (Or.inl (wd39 hw)) (Or.inl (wd26 hw)) (by decide) (t := .int) (t' := (.array .int)) (by decide) (by decide)))).ext E24).other W30 (Or.inr (slot_ne (Or.inl (wd39 hw)) (Or.inr (wd28 hw)) (by decide) (t := .int) (t' := (.array .int)) (by decide) (by decide)))).ext E33).other W40 (Or.inr (slot_ne (Or.inl (wd39 hw)) (Or.inr (wd30 hw)) (by decide) (t := .int) (t' := (.array .int)) (by decide) (by decide)))).ext E45).other W54 (Or.inl ne_a1_b6))
  have F58 := (((((((((((Fw3.ext E6).other W10 (Or.inr (slot_ne (Or.inl (wd18 hw)) (Or.inl (wd22 hw)) (by decide) (t := (.array (.array .int))) (t' := (.array (.array .char))) (by decide) (by decide)))).other W13 (Or.inr (slot_ne (Or.inl (wd18 hw)) (Or.inr (wd24 hw)) (by decide) (t := (.array (.array .int))) (t' := .int) (by decide) (by decide)))).ext E16).other W21 (Or.inr (slot_ne (Or.inl (wd18 hw)) (Or.inl (wd26 hw)) (by decide) (t := (.array (.array .int))) (t' := (.array .int)) (by decide) (by decide)))).ext E24).other W30 (Or.inr (slot_ne (Or.inl (wd18 hw)) (Or.inr (wd28 hw)) (by decide) (t := (.array (.array .int))) (t' := (.array .int)) (by decide) (by decide)))).ext E33).other W40 (Or.inr (slot_ne (Or.inl (wd18 hw)) (Or.inr (wd30 hw)) (by decide) (t := (.array (.array .int))) (t' := (.array .int)) (by decide) (by decide)))).ext E45).other W54 (Or.inl ne_a1_b6))
  have F59 := ((F44.ext E45).other W54 (Or.inl ne_a1_b6))
  have F60 := ((((((Fw21.ext E24).other W30 (Or.inr (slot_ne (Or.inl (wd26 hw)) (Or.inr (wd28 hw)) (by decide) (t := (.array .int)) (t' := (.array .int)) (by decide) (by decide)))).ext E33).other W40 (Or.inr (slot_ne (Or.inl (wd26 hw)) (Or.inr (wd30 hw)) (by decide) (t := (.array .int)) (t' := (.array .int)) (by decide) (by decide)))).ext E45).other W54 (Or.inl ne_a1_b6))
  have F61 := ((((Fw30.ext E33).other W40 (Or.inr (slot_ne (Or.inr (wd28 hw)) (Or.inr (wd30 hw)) (by decide) (t := (.array .int)) (t' := (.array .int)) (by decide) (by decide)))).ext E45).other W54 (Or.inl ne_a1_b6))
  have F62 := ((Fw40.ext E45).other W54 (Or.inl ne_a1_b6))
  have F63 := ((F48.ext E45).other W54 ne_b2_b6)
  have F64 := ((F50.ext E45).other W54 (Ne.symm ne_b6_b16))
  have F65 := ((F51.ext E45).other W54 (Ne.symm ne_b6_b24))
  have F66 := ((F52.ext E45).other W54 (Ne.symm ne_b6_b33))
  have F67 := (V_b45.other W54 (Ne.symm ne_b6_b45))
  obtain ⟨fs, hr, hrun, hended, hW, hsame⟩ := X54.leave (v := none) (fun _ => rfl)
  refine ⟨_, _, pre0 _ ?_, hrun, hended, _, _, rfl, ?_, ⟨_, rfl⟩, hW, hsame.mono (by decide) (by decide)⟩
  · show GG p e below s₁ (mkF m 0 #[vR a1, vI 2] []) _
    refine XS.aloadN X0.here hx rfl (bb d2_0) rfl rfl ?_
    refine st1 _ ?_
    show GG p e below T1 (mkF m 4 #[vR a1, vI 2] []) _
    refine XS.aloadN X1.here hx rfl (bb d2_4) rfl rfl ?_
    refine XS.iconst X1.here hx rfl (bb d2_5) ?_
    refine st2 _ ?_
    show GG p e below T2 (mkF m 9 #[vR a1, vI 2] [(.ref b2), (.ref a1)]) _
    refine st3 _ ?_
    show GG p e below T3 (mkF m 12 #[vR a1, vI 2] []) _
    refine XS.aloadN X3.here hx rfl (bb d2_12) rfl rfl ?_
    refine XS.iconst X3.here hx rfl (bb d2_13) ?_
    refine st6 _ ?_
    show GG p e below T6 (mkF m 17 #[vR a1, vI 2] [(.ref b6), (.ref a1)]) _
    refine st10 _ ?_
    show GG p e below T10 (mkF m 20 #[vR a1, vI 2] []) _
    refine XS.aloadN X10.here hx rfl (bb d2_20) rfl rfl ?_
    refine XS.iloadN X10.here hx rfl (bb d2_21) rfl ?_
    refine st13 _ ?_
    show GG p e below T13 (mkF m 25 #[vR a1, vI 2] []) _
    refine XS.aloadN X13.here hx rfl (bb d2_25) rfl rfl ?_
    refine XS.iloadN X13.here hx rfl (bb d2_26) rfl ?_
    refine st16 _ ?_
    show GG p e below T16 (mkF m 29 #[vR a1, vI 2] [(.ref b16), (.ref a1)]) _
    refine st21 _ ?_
    show GG p e below T21 (mkF m 32 #[vR a1, vI 2] []) _
    refine XS.aloadN X21.here hx rfl (bb d2_32) rfl rfl ?_
    refine XS.iloadN X21.here hx rfl (bb d2_33) rfl ?_
    refine st24 _ ?_
    show GG p e below T24 (mkF m 36 #[vR a1, vI 2] [(.ref b24), (.ref a1)]) _
    refine st30 _ ?_
    show GG p e below T30 (mkF m 39 #[vR a1, vI 2] []) _
    refine XS.aloadN X30.here hx rfl (bb d2_39) rfl rfl ?_
    refine XS.iloadN X30.here hx rfl (bb d2_40) rfl ?_
    refine st33 _ ?_
    show GG p e below T33 (mkF m 43 #[vR a1, vI 2] [(.ref b33), (.ref a1)]) _
    refine st40 _ ?_
    show GG p e below T40 (mkF m 46 #[vR a1, vI 2] []) _
    refine XS.aloadN X40.here hx rfl (bb d2_46) rfl rfl ?_
    refine st43 _ ?_
    show GG p e below T43 (mkF m 50 #[vR a1, vI 2] [(.ref b6)]) _
    refine XS.iconst X43.here hx rfl (bb d2_50) ?_
    refine XS.bipush X43.here hx rfl (bb d2_51) ?_
    refine XS.iloadN X43.here hx rfl (bb d2_53) rfl ?_
    refine XS.imul X43.here hx rfl (bb d2_54) rfl ?_
    show GG p e below T43 (mkF m 55 #[vR a1, vI 2] [(.int 16), (.int 0), (.ref b6)]) _
    refine st45 _ ?_
    show GG p e below T45 (mkF m 57 #[vR a1, vI 2] [(.ref b45), (.int 0), (.ref b6)]) _
    refine st54 _ ?_
    show GG p e below T54 (mkF m 58 #[vR a1, vI 2] []) _
    exact X54.returnOut hx Bd.returns (bb d2_58) hr
  · show Q_rvInit2 Z a1 h0 n0 _ T54.heap _
    rw [e54]
    exact ⟨b2, b6, b16, b24, b33, b45, k2, k6, k16, k24, k33, k45, rfl, N54, ((((((((((((((Keep.refl h0 [a1]).ext E2).wr W3 (Or.inl (List.mem_of_getElem? (i := 0) rfl))).ext E6).wr W10 (Or.inl (List.mem_of_getElem? (i := 0) rfl))).wr W13 (Or.inl (List.mem_of_getElem? (i := 0) rfl))).ext E16).wr W21 (Or.inl (List.mem_of_getElem? (i := 0) rfl))).ext E24).wr W30 (Or.inl (List.mem_of_getElem? (i := 0) rfl))).ext E33).wr W40 (Or.inl (List.mem_of_getElem? (i := 0) rfl))).ext E45).wr W54 (Or.inr sz_b6)), sz_b2, sz_b6, sz_b16, sz_b24, sz_b33, sz_b45, ne_b2_b6, ne_b2_b16, ne_b2_b24, ne_b2_b33, ne_b2_b45, ne_b6_b16, ne_b6_b24, ne_b6_b33, ne_b6_b45, ne_b16_b24, ne_b16_b33, ne_b16_b45, ne_b24_b33, ne_b24_b45, ne_b33_b45, F55, F56, F57, F58, F59, F60, F61, F62, F63, R2, V54, R6, F64, F65, F66, F67⟩
def Q_start2 (Z : State) (a1 at_ ow on ob ol oh ov : Addr) (kw_ kn_ kb_ kl_ kh_ kv_ : ClassId) (eb0 eb1 el0 el1 eu0 eu1 ex0 ex1 ex2 ex3 ex4 ex5 ex6 ex7 ex8 ex9 ex10 ex11 ex12 ex13 ex14 ex15 : Int32) (kt_ : ClassId) (et0 et1 : Int32) (h0 : Heap) (n0 : Nat) (v : Option Value) (h : Heap) (L : List Loc) : Prop := v = none ∧ Fr n0 L ∧ Keep h0 h [ob, ol, oh] ∧ Arv Z h ob kb_ .int (2 : Int32) [(.int (f_base et0 et0)), (.int (f_base et1 et1))] (.int 0) ∧ Arv Z h ol kl_ .int (2 : Int32) [(.int et0), (.int et1)] (.int 0) ∧ Arv Z h oh kh_ .int (2 : Int32) [(.int et0), (.int et1)] (.int 0)
set_option maxRecDepth 65536 in
set_option maxHeartbeats 40000000 in
theorem rm_start2 (l : Launch) (Z : State) (a0 : Array Value) (hw : ∀ d ∈ tables_1, d.before a0 Z = true) (ws : List Jvm.Cond) (a1 at_ ow on ob ol oh ov : Addr) (kw_ kn_ kb_ kl_ kh_ kv_ : ClassId) (eb0 eb1 el0 el1 eu0 eu1 ex0 ex1 ex2 ex3 ex4 ex5 ex6 ex7 ex8 ex9 ex10 ex11 ex12 ex13 ex14 ex15 : Int32) (kt_ : ClassId) (et0 et1 : Int32) (h0 : Heap) (n0 : Nat) (Z0 : n0 ≤ h0.size) (O0 : Old Z n0 h0) (S_CS : Sta Z Z.heap cRV "CHUNK_SHIFT" "I" (.int (12 : Int32))) (r0 : Exa Z h0 a1 cRV) (r1 : Fld Z h0 a1 cRV "arity" "I" (.int 2)) (r2 : Fld Z h0 a1 cRV "rows" "I" (.int 0)) (r3 : Fld Z h0 a1 cRV "wide" "[[I" (.ref ow)) (r4 : Fld Z h0 a1 cRV "narrow" "[[C" (.ref on)) (r5 : Fld Z h0 a1 cRV "bases" "[I" (.ref ob)) (r6 : Fld Z h0 a1 cRV "lowest" "[I" (.ref ol)) (r7 : Fld Z h0 a1 cRV "highest" "[I" (.ref oh)) (r8 : Arv Z h0 ow kw_ (.array .int) (1 : Int32) [.null] .null) (r9 : OvrA Z kw_ .int "[I") (r10 : Arv Z h0 on kn_ (.array .char) (1 : Int32) [(.ref ov)] .null) (r11 : OvrA Z kn_ .char "[C") (r12 : Arv Z h0 ob kb_ .int (2 : Int32) [(.int eb0), (.int eb1)] (.int 0)) (r13 : Arv Z h0 ol kl_ .int (2 : Int32) [(.int el0), (.int el1)] (.int 0)) (r14 : Arv Z h0 oh kh_ .int (2 : Int32) [(.int eu0), (.int eu1)] (.int 0)) (r15 : Arv Z h0 ov kv_ .char (16 : Int32) [(.int ex0), (.int ex1), (.int ex2), (.int ex3), (.int ex4), (.int ex5), (.int ex6), (.int ex7), (.int ex8), (.int ex9), (.int ex10), (.int ex11), (.int ex12), (.int ex13), (.int ex14), (.int ex15)] (.int 0)) (r16 : Arv Z h0 at_ kt_ .int (2 : Int32) [(.int et0), (.int et1)] (.int 0)) (g_ob : n0 ≤ ob) (g_ol : n0 ≤ ol) (g_oh : n0 ≤ oh) (ne_a1_ow : a1 ≠ ow) (ne_a1_on : a1 ≠ on) (ne_a1_ob : a1 ≠ ob) (ne_a1_ol : a1 ≠ ol) (ne_a1_oh : a1 ≠ oh) (ne_a1_ov : a1 ≠ ov) (ne_ow_on : ow ≠ on) (ne_ow_ob : ow ≠ ob) (ne_ow_ol : ow ≠ ol) (ne_ow_oh : ow ≠ oh) (ne_ow_ov : ow ≠ ov) (ne_on_ob : on ≠ ob) (ne_on_ol : on ≠ ol) (ne_on_oh : on ≠ oh) (ne_on_ov : on ≠ ov) (ne_ob_ol : ob ≠ ol) (ne_ob_oh : ob ≠ oh) (ne_ob_ov : ob ≠ ov) (ne_ol_oh : ol ≠ oh) (ne_ol_ov : ol ≠ ov) (ne_oh_ov : oh ≠ ov) (ne_at__a1 : at_ ≠ a1) (ne_at__ow : at_ ≠ ow) (ne_at__on : at_ ≠ on) (ne_at__ob : at_ ≠ ob) (ne_at__ol : at_ ≠ ol) (ne_at__oh : at_ ≠ oh) (ne_at__ov : at_ ≠ ov) :
    MetFree l (⟨cRV, "start", "(I[I)V"⟩ : MethodName) (head1 (Jvm.Cond.code (⟨cRV, "start", "(I[I)V"⟩ : MethodName) prog_47_method_5_code 4 none :: ws) ({ frames := 2, cells := 0, slots := 0, locals := 32 } : Room)) (fun a U => a = #[(.ref a1), (.int 0), (.ref at_)] ∧ Z.Warmed39 U.vm ∧ U.heap = h0) (fun _ _ _ _ _ => True) (fun _ U o U' => ∃ v L, o = .returned v ∧ Q_start2 Z a1 at_ ow on ob ol oh ov kw_ kn_ kb_ kl_ kh_ kv_ eb0 eb1 el0 el1 eu0 eu1 ex0 ex1 ex2 ex3 ex4 ex5 ex6 ex7 ex8 ex9 ex10 ex11 ex12 ex13 ex14 ex15 kt_ et0 et1 h0 n0 v U'.heap L ∧ FrameEnd U o U' L ({ frames := 2, cells := 0, slots := 0, locals := 32 } : Room).cells ({ frames := 2, cells := 0, slots := 0, locals := 32 } : Room).slots) := by
  refine MetFree.of_bodySF (plainFor_of_name pn_RowValues) hisR ?_
  intro p e s m args below meth c s₁ Bd hml0 hP hK
  obtain ⟨rfl, hZ, hh⟩ := hP
  have hx := Bd.exec
  have hby := Bd.bytes
  have bb := fun {pc : Nat} {r : Except DecodeError (Instr × Nat)} (h : decode prog_47_method_5_code pc = r) => hb hby h
  have hml : c.maxLocals = 4 := hml0
  have hown : s.vm.findClass cRV = some m.cls := findClass_of_methodNamed Bd.named
  have hnm := (name_of_methodNamed Bd.named Bd.method).1
  have X0 : Stand p l e ({ frames := 2, cells := 0, slots := 0, locals := 32 } : Room) s m #[(.ref a1), (.int 0), (.ref at_)] below meth c s₁ [] 0 0 := Stand.of_body Bd
  have e0 : s₁.heap = h0 := by rw [← hh, Bd.state]; rfl
  have N0 := Fr.nil n0
  have pre0 : ∀ t, Steps p.tables e below (s₁.setTop (mkF m 0 #[vR a1, vI 0, vR at_, .unset] [])) t → Steps p.tables e below (s₁.setTop (entryFrame m #[(.ref a1), (.int 0), (.ref at_)] 4)) t := fun t k => castTop (ef_start2 m a1 at_) k
  obtain ⟨T1, X1, e1, st1⟩ := getF X0 hx hZ hown (host := "") (Or.inl (wd17 hw)) Via.refl e0 r3 (g := (mkF m 2 #[vR a1, vI 0, vR at_, .unset] [(.ref a1), (.int 0)])) rfl rfl (bb d5_2)
  obtain ⟨cl2, Ar2, vq2, vS2, vN2, vH2, vG2⟩ := id r8
  obtain ⟨T3, X3, e3, st3⟩ := getF X1 hx hZ hown (host := "") (Or.inl (wd23 hw)) Via.refl e1 r1 (g := (mkF m 86 #[vR a1, vI 0, vR at_, vI 0] [(.ref a1), (.int 0)])) rfl rfl (bb d5_86)
  obtain ⟨T4, X4, e4, st4⟩ := getF X3 hx hZ hown (host := "") (Or.inl (wd25 hw)) Via.refl e3 r5 (g := (mkF m 93 #[vR a1, vI 0, vR at_, vI 0] [(.ref a1)])) rfl rfl (bb d5_93)
  obtain ⟨T5, X5, e5, st5⟩ := getF X4 hx hZ hown (host := "") (Or.inl (wd23 hw)) Via.refl e4 r1 (g := (mkF m 98 #[vR a1, vI 0, vR at_, vI 0] [(.ref a1), (.int 0), (.ref ob)])) rfl rfl (bb d5_98)
  obtain ⟨cl6, Ar6, vq6, vS6, vN6, vH6, vG6⟩ := id r16
  have hin6 : ¬ (((0 : Int32) : Int32) < 0 ∨ cl6.slots.size ≤ ((0 : Int32) : Int32).toNatClampNeg) := inb_of vS6 ⟨by decide, by decide⟩
  obtain ⟨cl7, Ar7, vq7, vS7, vN7, vH7, vG7⟩ := id r16
  have hin7 : ¬ (((0 : Int32) : Int32) < 0 ∨ cl7.slots.size ≤ ((0 : Int32) : Int32).toNatClampNeg) := inb_of vS7 ⟨by decide, by decide⟩
  obtain ⟨_, _, ⟨T8, L8, k8, n8⟩, -, X8, ⟨Lc8, hQ8, l8, y8, z8⟩, st8⟩ := Jvm.LawKit.callS X5 hx (y := (⟨cRV, "base", "(II)I"⟩ : MethodName)) hown (mvT hZ (wd46 hw)) (mvT hZ (wd47 hw)) (mvT hZ (wd8 hw)) (mvT hZ (wd48 hw)) (by decide) (backOf (W := 2) (rm_base l Z a0 hw [] et0 et0 h0 n0 (own_z0 O0) O0 S_CS) hZ (wd48 hw) (wd8 hw) (by decide) (by decide)) (g := (mkF m 110 #[vR a1, vI 0, vR at_, vI 0] [(.int et0), (.int et0), (.int 0), (.ref ob)])) rfl (by rw [hml]; rfl) (argsL := [(.int et0), (.int et0)]) (rest := [(.int 0), (.ref ob)]) (lenOf pd__II_I_5 rfl) rfl (by show 2 * 0 + _ ≤ _; exact Nat.le_of_eq rfl) (bb d5_110) (fun _ _ => ⟨rfl, e5, (by decide : 0 + 0 ≤ _), (by decide : 0 + 0 ≤ _)⟩)
  dsimp only [Pt.U, Pt.locs, Pt.cells, Pt.slots] at X8 l8 y8 z8 st8 hQ8
  subst l8 y8 z8
  obtain ⟨rfl, N8q, e8⟩ := hQ8
  have N8 := Fr.app N0 N8q
  obtain ⟨cl9, Ar9, vq9, vS9, vN9, vH9, vG9⟩ := id r12
  have hin9 : ¬ (((0 : Int32) : Int32) < 0 ∨ cl9.slots.size ≤ ((0 : Int32) : Int32).toNatClampNeg) := inb_of vS9 ⟨by decide, by decide⟩
  obtain ⟨T9, h9, X9, e9, W9, st9⟩ := stI X8 hx hZ e8 Ar9 (j := (0 : Int32)) hin9 (g := (mkF m 113 #[vR a1, vI 0, vR at_, vI 0] [(.int (f_base et0 et0)), (.int 0), (.ref ob)])) rfl rfl (bb d5_113)
  have V9 : Arv Z h9 ob kb_ .int (2 : Int32) [(.int (f_base et0 et0)), (.int eb1)] (.int 0) := Arv.set Ar9 vq9 vS9 vN9 vH9 vG9 rfl W9 0 rfl (Nat.le_of_ble_eq_true rfl)
  have N9 := Fr.snoc X9 N8 g_ob
  have F11 := (r1.other W9 (Or.inl ne_a1_ob))
  obtain ⟨T10, X10, e10, st10⟩ := getF X9 hx hZ hown (host := "") (Or.inl (wd23 hw)) Via.refl e9 F11 (g := (mkF m 86 #[vR a1, vI 0, vR at_, vI 1] [(.ref a1), (.int 1)])) rfl rfl (bb d5_86)
  have F13 := (r5.other W9 (Or.inl ne_a1_ob))
  obtain ⟨T12, X12, e12, st12⟩ := getF X10 hx hZ hown (host := "") (Or.inl (wd25 hw)) Via.refl e10 F13 (g := (mkF m 93 #[vR a1, vI 0, vR at_, vI 1] [(.ref a1)])) rfl rfl (bb d5_93)
  obtain ⟨T14, X14, e14, st14⟩ := getF X12 hx hZ hown (host := "") (Or.inl (wd23 hw)) Via.refl e12 F11 (g := (mkF m 98 #[vR a1, vI 0, vR at_, vI 1] [(.ref a1), (.int 0), (.ref ob)])) rfl rfl (bb d5_98)
  have F15 := (r16.other W9 ne_at__ob)
  obtain ⟨cl16, Ar16, vq16, vS16, vN16, vH16, vG16⟩ := id F15
  have hin16 : ¬ (((1 : Int32) : Int32) < 0 ∨ cl16.slots.size ≤ ((1 : Int32) : Int32).toNatClampNeg) := inb_of vS16 ⟨by decide, by decide⟩
  obtain ⟨cl17, Ar17, vq17, vS17, vN17, vH17, vG17⟩ := id F15
  have hin17 : ¬ (((1 : Int32) : Int32) < 0 ∨ cl17.slots.size ≤ ((1 : Int32) : Int32).toNatClampNeg) := inb_of vS17 ⟨by decide, by decide⟩
  have O19 := (O0.wr W9 g_ob)
  obtain ⟨_, _, ⟨T18, L18, k18, n18⟩, -, X18, ⟨Lc18, hQ18, l18, y18, z18⟩, st18⟩ := Jvm.LawKit.callS X14 hx (y := (⟨cRV, "base", "(II)I"⟩ : MethodName)) hown (mvT hZ (wd46 hw)) (mvT hZ (wd47 hw)) (mvT hZ (wd8 hw)) (mvT hZ (wd48 hw)) (by decide) (backOf (W := 2) (rm_base l Z a0 hw [] et1 et1 h9 n0 (own_z0 O19) O19 S_CS) hZ (wd48 hw) (wd8 hw) (by decide) (by decide)) (g := (mkF m 110 #[vR a1, vI 0, vR at_, vI 1] [(.int et1), (.int et1), (.int 1), (.ref ob)])) rfl (by rw [hml]; rfl) (argsL := [(.int et1), (.int et1)]) (rest := [(.int 1), (.ref ob)]) (lenOf pd__II_I_5 rfl) rfl (by show 2 * 0 + _ ≤ _; exact Nat.le_of_eq rfl) (bb d5_110) (fun _ _ => ⟨rfl, e14, (by decide : 0 + 0 ≤ _), (by decide : 0 + 0 ≤ _)⟩)
  dsimp only [Pt.U, Pt.locs, Pt.cells, Pt.slots] at X18 l18 y18 z18 st18 hQ18
  subst l18 y18 z18
  obtain ⟨rfl, N18q, e18⟩ := hQ18
  have N18 := Fr.app N9 N18q
  obtain ⟨cl20, Ar20, vq20, vS20, vN20, vH20, vG20⟩ := id V9
  have hin20 : ¬ (((1 : Int32) : Int32) < 0 ∨ cl20.slots.size ≤ ((1 : Int32) : Int32).toNatClampNeg) := inb_of vS20 ⟨by decide, by decide⟩
  obtain ⟨T20, h20, X20, e20, W20, st20⟩ := stI X18 hx hZ e18 Ar20 (j := (1 : Int32)) hin20 (g := (mkF m 113 #[vR a1, vI 0, vR at_, vI 1] [(.int (f_base et1 et1)), (.int 1), (.ref ob)])) rfl rfl (bb d5_113)
  have V20 : Arv Z h20 ob kb_ .int (2 : Int32) [(.int (f_base et0 et0)), (.int (f_base et1 et1))] (.int 0) := Arv.set Ar20 vq20 vS20 vN20 vH20 vG20 rfl W20 1 rfl (Nat.le_of_ble_eq_true rfl)
  have N20 := Fr.snoc X20 N18 g_ob
  have F22 := (F11.other W20 (Or.inl ne_a1_ob))
  obtain ⟨T21, X21, e21, st21⟩ := getF X20 hx hZ hown (host := "") (Or.inl (wd23 hw)) Via.refl e20 F22 (g := (mkF m 86 #[vR a1, vI 0, vR at_, vI 2] [(.ref a1), (.int 2)])) rfl rfl (bb d5_86)
  have F24 := ((r6.other W9 (Or.inl ne_a1_ob)).other W20 (Or.inl ne_a1_ob))
  obtain ⟨T23, X23, e23, st23⟩ := getF X21 hx hZ hown (host := "") (Or.inl (wd27 hw)) Via.refl e21 F24 (g := (mkF m 123 #[vR a1, vI 0, vR at_, vI 2] [(.ref a1), (.int 0), (.ref at_)])) rfl rfl (bb d5_123)
  obtain ⟨T25, X25, e25, st25⟩ := getF X23 hx hZ hown (host := "") (Or.inl (wd23 hw)) Via.refl e23 F22 (g := (mkF m 128 #[vR a1, vI 0, vR at_, vI 2] [(.ref a1), (.int 0), (.ref ol), (.int 0), (.ref at_)])) rfl rfl (bb d5_128)
  have F27 := (F15.other W20 ne_at__ob)
  have F28 := ((r13.other W9 (Ne.symm ne_ob_ol)).other W20 (Ne.symm ne_ob_ol))
  obtain ⟨T26, h26, L26, X26, e26, N26, K26, Vc26, st26⟩ := cpA X25 hx hZ hown (wd56 hw) (wd59 hw) (wd57 hw) (wd58 hw) e25 F27 F28 (us := [(.int et0), (.int et1)]) (Or.inl ⟨rfl, rfl⟩) (by decide) (by decide) (by decide) (by decide) (by decide) rfl (Nat.le_of_ble_eq_true rfl) N20 g_ol (g := (mkF m 131 #[vR a1, vI 0, vR at_, vI 2] [(.int 2), (.int 0), (.ref ol), (.int 0), (.ref at_)])) rfl (by rw [hml]; rfl) rfl (bb d5_131) (by decide) (W := 0) (by show 2 * 0 + _ ≤ _; exact Nat.le_of_eq rfl) (by decide)
  have V26 : Arv Z h26 ol kl_ .int (2 : Int32) [(.int et0), (.int et1)] (.int 0) := Vc26
  have F30 := (((r7.other W9 (Or.inl ne_a1_ob)).other W20 (Or.inl ne_a1_ob)).keep K26 (ninS ne_a1_ol nin0))
  obtain ⟨T29, X29, e29, st29⟩ := getF X26 hx hZ hown (host := "") (Or.inl (wd29 hw)) Via.refl e26 F30 (g := (mkF m 137 #[vR a1, vI 0, vR at_, vI 2] [(.ref a1), (.int 0), (.ref at_)])) rfl rfl (bb d5_137)
  have F32 := (F22.keep K26 (ninS ne_a1_ol nin0))
  obtain ⟨T31, X31, e31, st31⟩ := getF X29 hx hZ hown (host := "") (Or.inl (wd23 hw)) Via.refl e29 F32 (g := (mkF m 142 #[vR a1, vI 0, vR at_, vI 2] [(.ref a1), (.int 0), (.ref oh), (.int 0), (.ref at_)])) rfl rfl (bb d5_142)
  have F34 := (F27.keep K26 (ninS ne_at__ol nin0))
  have F35 := (((r14.other W9 (Ne.symm ne_ob_oh)).other W20 (Ne.symm ne_ob_oh)).keep K26 (ninS (Ne.symm ne_ol_oh) nin0))
  obtain ⟨T33, h33, L33, X33, e33, N33, K33, Vc33, st33⟩ := cpA X31 hx hZ hown (wd56 hw) (wd59 hw) (wd57 hw) (wd58 hw) e31 F34 F35 (us := [(.int et0), (.int et1)]) (Or.inl ⟨rfl, rfl⟩) (by decide) (by decide) (by decide) (by decide) (by decide) rfl (Nat.le_of_ble_eq_true rfl) N26 g_oh (g := (mkF m 145 #[vR a1, vI 0, vR at_, vI 2] [(.int 2), (.int 0), (.ref oh), (.int 0), (.ref at_)])) rfl (by rw [hml]; rfl) rfl (bb d5_145) (by decide) (W := 0) (by show 2 * 0 + _ ≤ _; exact Nat.le_of_eq rfl) (by decide)
  have V33 : Arv Z h33 oh kh_ .int (2 : Int32) [(.int et0), (.int et1)] (.int 0) := Vc33
  have F36 := ((V20.keep K26 (ninS ne_ob_ol nin0)).keep K33 (ninS ne_ob_oh nin0))
  have F37 := (V26.keep K33 (ninS ne_ol_oh nin0))
  obtain ⟨fs, hr, hrun, hended, hW, hsame⟩ := X33.leave (v := none) (fun _ => rfl)
  refine ⟨_, _, pre0 _ ?_, hrun, hended, _, _, rfl, ?_, ⟨_, rfl⟩, hW, hsame.mono (by decide) (by decide)⟩
  · show GG p e below s₁ (mkF m 0 #[vR a1, vI 0, vR at_, .unset] []) _
    refine XS.iloadN X0.here hx rfl (bb d5_0) rfl ?_
    refine XS.aloadN X0.here hx rfl (bb d5_1) rfl rfl ?_
    refine st1 _ ?_
    show GG p e below T1 (mkF m 5 #[vR a1, vI 0, vR at_, .unset] [(.ref ow), (.int 0)]) _
    refine X1.arraylength hx (by rw [e1]; exact Ar2.1) (State.isArrayOf_alike hZ.alike Ar2.2.1) (g := (mkF m 5 #[vR a1, vI 0, vR at_, .unset] [(.ref ow), (.int 0)])) rfl rfl (bb d5_5) _ ?_
    rw [len_of vS2 vN2]
    show GG p e below T1 (mkF m 6 #[vR a1, vI 0, vR at_, .unset] [(.int 1), (.int 0)]) _
    refine XS.icmpYes X1.here hx rfl (pc0 := 6) (pc' := 62) rfl (bb d5_6) rfl (feq (by decide : ¬ ((0 : Int32) = (1 : Int32)))).2 (by decide) (by decide) ?_
    show GG p e below T1 (mkF m 62 #[vR a1, vI 0, vR at_, .unset] []) _
    refine XS.iloadN X1.here hx rfl (bb d5_62) rfl ?_
    refine XS.ifYes X1.here hx rfl (pc0 := 63) (pc' := 82) rfl (bb d5_63) rfl ((if0 _ _).trans (flt (by decide : ¬ ((0 : Int32) < (0 : Int32)))).2.2.2) (by decide) (by decide) ?_
    show GG p e below T1 (mkF m 82 #[vR a1, vI 0, vR at_, .unset] []) _
    refine XS.iconst X1.here hx rfl (bb d5_82) ?_
    refine XS.istoreN X1.here hx rfl (bb d5_83) rfl (l' := #[vR a1, vI 0, vR at_, vI 0]) rfl ?_
    show GG p e below T1 (mkF m 84 #[vR a1, vI 0, vR at_, vI 0] []) _
    refine XS.iloadN X1.here hx rfl (bb d5_84) rfl ?_
    refine XS.aloadN X1.here hx rfl (bb d5_85) rfl rfl ?_
    refine st3 _ ?_
    show GG p e below T3 (mkF m 89 #[vR a1, vI 0, vR at_, vI 0] [(.int 2), (.int 0)]) _
    refine XS.icmpNo X3.here hx rfl (bb d5_89) rfl (tlt (by decide : (0 : Int32) < (2 : Int32))).2.1 ?_
    refine XS.aloadN X3.here hx rfl (bb d5_92) rfl rfl ?_
    refine st4 _ ?_
    show GG p e below T4 (mkF m 96 #[vR a1, vI 0, vR at_, vI 0] [(.ref ob)]) _
    refine XS.iloadN X4.here hx rfl (bb d5_96) rfl ?_
    refine XS.aloadN X4.here hx rfl (bb d5_97) rfl rfl ?_
    refine st5 _ ?_
    show GG p e below T5 (mkF m 101 #[vR a1, vI 0, vR at_, vI 0] [(.int 2), (.int 0), (.ref ob)]) _
    refine XS.imul X5.here hx rfl (bb d5_101) rfl ?_
    refine XS.iloadN X5.here hx rfl (bb d5_102) rfl ?_
    refine XS.iadd X5.here hx rfl (bb d5_103) rfl ?_
    refine XS.aloadN X5.here hx rfl (bb d5_104) rfl rfl ?_
    show GG p e below T5 (mkF m 105 #[vR a1, vI 0, vR at_, vI 0] [(.ref at_), (.int 0), (.ref ob)]) _
    refine XS.iloadN X5.here hx rfl (bb d5_105) rfl ?_
    refine X5.iaload hx (j := (0 : Int32)) (v := (.int et0)) (by rw [e5]; exact Ar6.1) (State.isArrayOf_alike hZ.alike Ar6.2.1) Ar6.2.2 hin6 (vH6.at hin6 rfl) (g := (mkF m 106 #[vR a1, vI 0, vR at_, vI 0] [(.int 0), (.ref at_), (.int 0), (.ref ob)])) rfl rfl (bb d5_106) _ ?_
    show GG p e below T5 (mkF m 107 #[vR a1, vI 0, vR at_, vI 0] [(.int et0), (.int 0), (.ref ob)]) _
    refine XS.aloadN X5.here hx rfl (bb d5_107) rfl rfl ?_
    refine XS.iloadN X5.here hx rfl (bb d5_108) rfl ?_
    refine X5.iaload hx (j := (0 : Int32)) (v := (.int et0)) (by rw [e5]; exact Ar7.1) (State.isArrayOf_alike hZ.alike Ar7.2.1) Ar7.2.2 hin7 (vH7.at hin7 rfl) (g := (mkF m 109 #[vR a1, vI 0, vR at_, vI 0] [(.int 0), (.ref at_), (.int et0), (.int 0), (.ref ob)])) rfl rfl (bb d5_109) _ ?_
    show GG p e below T5 (mkF m 110 #[vR a1, vI 0, vR at_, vI 0] [(.int et0), (.int et0), (.int 0), (.ref ob)]) _
    refine st8 _ ?_
    show GG p e below T8 (mkF m 113 #[vR a1, vI 0, vR at_, vI 0] [(.int (f_base et0 et0)), (.int 0), (.ref ob)]) _
    refine st9 _ ?_
    show GG p e below T9 (mkF m 114 #[vR a1, vI 0, vR at_, vI 0] []) _
    refine XS.iinc X9.here hx rfl (bb d5_114) rfl (l' := #[vR a1, vI 0, vR at_, vI 1]) rfl ?_
    show GG p e below T9 (mkF m 117 #[vR a1, vI 0, vR at_, vI 1] []) _
    refine XS.goto X9.here hx rfl (pc0 := 117) (pc' := 84) rfl (bb d5_117) (by decide) (by decide) ?_
    refine XS.iloadN X9.here hx rfl (bb d5_84) rfl ?_
    refine XS.aloadN X9.here hx rfl (bb d5_85) rfl rfl ?_
    refine st10 _ ?_
    show GG p e below T10 (mkF m 89 #[vR a1, vI 0, vR at_, vI 1] [(.int 2), (.int 1)]) _
    refine XS.icmpNo X10.here hx rfl (bb d5_89) rfl (tlt (by decide : (1 : Int32) < (2 : Int32))).2.1 ?_
    refine XS.aloadN X10.here hx rfl (bb d5_92) rfl rfl ?_
    refine st12 _ ?_
    show GG p e below T12 (mkF m 96 #[vR a1, vI 0, vR at_, vI 1] [(.ref ob)]) _
    refine XS.iloadN X12.here hx rfl (bb d5_96) rfl ?_
    refine XS.aloadN X12.here hx rfl (bb d5_97) rfl rfl ?_
    refine st14 _ ?_
    show GG p e below T14 (mkF m 101 #[vR a1, vI 0, vR at_, vI 1] [(.int 2), (.int 0), (.ref ob)]) _
    refine XS.imul X14.here hx rfl (bb d5_101) rfl ?_
    refine XS.iloadN X14.here hx rfl (bb d5_102) rfl ?_
    refine XS.iadd X14.here hx rfl (bb d5_103) rfl ?_
    refine XS.aloadN X14.here hx rfl (bb d5_104) rfl rfl ?_
    show GG p e below T14 (mkF m 105 #[vR a1, vI 0, vR at_, vI 1] [(.ref at_), (.int 1), (.ref ob)]) _
    refine XS.iloadN X14.here hx rfl (bb d5_105) rfl ?_
    refine X14.iaload hx (j := (1 : Int32)) (v := (.int et1)) (by rw [e14]; exact Ar16.1) (State.isArrayOf_alike hZ.alike Ar16.2.1) Ar16.2.2 hin16 (vH16.at hin16 rfl) (g := (mkF m 106 #[vR a1, vI 0, vR at_, vI 1] [(.int 1), (.ref at_), (.int 1), (.ref ob)])) rfl rfl (bb d5_106) _ ?_
    show GG p e below T14 (mkF m 107 #[vR a1, vI 0, vR at_, vI 1] [(.int et1), (.int 1), (.ref ob)]) _
    refine XS.aloadN X14.here hx rfl (bb d5_107) rfl rfl ?_
    refine XS.iloadN X14.here hx rfl (bb d5_108) rfl ?_
    refine X14.iaload hx (j := (1 : Int32)) (v := (.int et1)) (by rw [e14]; exact Ar17.1) (State.isArrayOf_alike hZ.alike Ar17.2.1) Ar17.2.2 hin17 (vH17.at hin17 rfl) (g := (mkF m 109 #[vR a1, vI 0, vR at_, vI 1] [(.int 1), (.ref at_), (.int et1), (.int 1), (.ref ob)])) rfl rfl (bb d5_109) _ ?_
    show GG p e below T14 (mkF m 110 #[vR a1, vI 0, vR at_, vI 1] [(.int et1), (.int et1), (.int 1), (.ref ob)]) _
    refine st18 _ ?_
    show GG p e below T18 (mkF m 113 #[vR a1, vI 0, vR at_, vI 1] [(.int (f_base et1 et1)), (.int 1), (.ref ob)]) _
    refine st20 _ ?_
    show GG p e below T20 (mkF m 114 #[vR a1, vI 0, vR at_, vI 1] []) _
    refine XS.iinc X20.here hx rfl (bb d5_114) rfl (l' := #[vR a1, vI 0, vR at_, vI 2]) rfl ?_
    show GG p e below T20 (mkF m 117 #[vR a1, vI 0, vR at_, vI 2] []) _
    refine XS.goto X20.here hx rfl (pc0 := 117) (pc' := 84) rfl (bb d5_117) (by decide) (by decide) ?_
    refine XS.iloadN X20.here hx rfl (bb d5_84) rfl ?_
    refine XS.aloadN X20.here hx rfl (bb d5_85) rfl rfl ?_
    refine st21 _ ?_
    show GG p e below T21 (mkF m 89 #[vR a1, vI 0, vR at_, vI 2] [(.int 2), (.int 2)]) _
    refine XS.icmpYes X21.here hx rfl (pc0 := 89) (pc' := 120) rfl (bb d5_89) rfl (flt (by decide : ¬ ((2 : Int32) < (2 : Int32)))).2.1 (by decide) (by decide) ?_
    show GG p e below T21 (mkF m 120 #[vR a1, vI 0, vR at_, vI 2] []) _
    refine XS.aloadN X21.here hx rfl (bb d5_120) rfl rfl ?_
    refine XS.iconst X21.here hx rfl (bb d5_121) ?_
    refine XS.aloadN X21.here hx rfl (bb d5_122) rfl rfl ?_
    refine st23 _ ?_
    show GG p e below T23 (mkF m 126 #[vR a1, vI 0, vR at_, vI 2] [(.ref ol), (.int 0), (.ref at_)]) _
    refine XS.iconst X23.here hx rfl (bb d5_126) ?_
    refine XS.aloadN X23.here hx rfl (bb d5_127) rfl rfl ?_
    refine st25 _ ?_
    show GG p e below T25 (mkF m 131 #[vR a1, vI 0, vR at_, vI 2] [(.int 2), (.int 0), (.ref ol), (.int 0), (.ref at_)]) _
    refine st26 _ ?_
    show GG p e below T26 (mkF m 134 #[vR a1, vI 0, vR at_, vI 2] []) _
    refine XS.aloadN X26.here hx rfl (bb d5_134) rfl rfl ?_
    refine XS.iconst X26.here hx rfl (bb d5_135) ?_
    refine XS.aloadN X26.here hx rfl (bb d5_136) rfl rfl ?_
    refine st29 _ ?_
    show GG p e below T29 (mkF m 140 #[vR a1, vI 0, vR at_, vI 2] [(.ref oh), (.int 0), (.ref at_)]) _
    refine XS.iconst X29.here hx rfl (bb d5_140) ?_
    refine XS.aloadN X29.here hx rfl (bb d5_141) rfl rfl ?_
    refine st31 _ ?_
    show GG p e below T31 (mkF m 145 #[vR a1, vI 0, vR at_, vI 2] [(.int 2), (.int 0), (.ref oh), (.int 0), (.ref at_)]) _
    refine st33 _ ?_
    show GG p e below T33 (mkF m 148 #[vR a1, vI 0, vR at_, vI 2] []) _
    exact X33.returnOut hx Bd.returns (bb d5_148) hr
  · show Q_start2 Z a1 at_ ow on ob ol oh ov kw_ kn_ kb_ kl_ kh_ kv_ eb0 eb1 el0 el1 eu0 eu1 ex0 ex1 ex2 ex3 ex4 ex5 ex6 ex7 ex8 ex9 ex10 ex11 ex12 ex13 ex14 ex15 kt_ et0 et1 h0 n0 _ T33.heap _
    rw [e33]
    exact ⟨rfl, N33, (((((Keep.refl h0 [ob, ol, oh]).wr W9 (Or.inl (List.mem_of_getElem? (i := 0) rfl))).wr W20 (Or.inl (List.mem_of_getElem? (i := 0) rfl))).trans K26 (allS (Or.inl (List.mem_of_getElem? (i := 1) rfl)) all0)).trans K33 (allS (Or.inl (List.mem_of_getElem? (i := 2) rfl)) all0)), F36, F37, V33⟩
set_option maxRecDepth 65536 in
set_option maxHeartbeats 40000000 in
theorem rm_room2N0 (l : Launch) (Z : State) (a0 : Array Value) (hw : ∀ d ∈ tables_1, d.before a0 Z = true) (ws : List Jvm.Cond) (a1 ow on ob ol oh ov : Addr) (kw_ kn_ kb_ kl_ kh_ kv_ : ClassId) (eb0 eb1 el0 el1 eu0 eu1 ex0 ex1 ex2 ex3 ex4 ex5 ex6 ex7 ex8 ex9 ex10 ex11 ex12 ex13 ex14 ex15 : Int32) (h0 : Heap) (n0 : Nat) (Z0 : n0 ≤ h0.size) (O0 : Old Z n0 h0) (S_CS : Sta Z Z.heap cRV "CHUNK_SHIFT" "I" (.int (12 : Int32))) (r0 : Exa Z h0 a1 cRV) (r1 : Fld Z h0 a1 cRV "arity" "I" (.int 2)) (r2 : Fld Z h0 a1 cRV "wide" "[[I" (.ref ow)) (r3 : Fld Z h0 a1 cRV "narrow" "[[C" (.ref on)) (r4 : Arv Z h0 ow kw_ (.array .int) (1 : Int32) [.null] .null) (r5 : Arv Z h0 on kn_ (.array .char) (1 : Int32) [(.ref ov)] .null) (r6 : Arv Z h0 ov kv_ .char (16 : Int32) [(.int ex0), (.int ex1), (.int ex2), (.int ex3), (.int ex4), (.int ex5), (.int ex6), (.int ex7), (.int ex8), (.int ex9), (.int ex10), (.int ex11), (.int ex12), (.int ex13), (.int ex14), (.int ex15)] (.int 0)) :
    MetFree l (⟨cRV, "makeRoom", "(II)V"⟩ : MethodName) (head1 (Jvm.Cond.code (⟨cRV, "makeRoom", "(II)V"⟩ : MethodName) prog_47_method_6_code 5 none :: ws) ({ frames := 1, cells := 0, slots := 0, locals := 13 } : Room)) (fun a U => a = #[(.ref a1), (.int 0), (.int 0)] ∧ Z.Warmed39 U.vm ∧ U.heap = h0) (fun _ _ _ _ _ => True) (fun _ U o U' => ∃ v L, o = .returned v ∧ PureQ (none) h0 n0 v U'.heap L ∧ FrameEnd U o U' L ({ frames := 1, cells := 0, slots := 0, locals := 13 } : Room).cells ({ frames := 1, cells := 0, slots := 0, locals := 13 } : Room).slots) := by
  refine MetFree.of_bodySF (plainFor_of_name pn_RowValues) hisR ?_
  intro p e s m args below meth c s₁ Bd hml0 hP hK
  obtain ⟨rfl, hZ, hh⟩ := hP
  have hx := Bd.exec
  have hby := Bd.bytes
  have bb := fun {pc : Nat} {r : Except DecodeError (Instr × Nat)} (h : decode prog_47_method_6_code pc = r) => hb hby h
  have hml : c.maxLocals = 5 := hml0
  have hown : s.vm.findClass cRV = some m.cls := findClass_of_methodNamed Bd.named
  have hnm := (name_of_methodNamed Bd.named Bd.method).1
  have X0 : Stand p l e ({ frames := 1, cells := 0, slots := 0, locals := 13 } : Room) s m #[(.ref a1), (.int 0), (.int 0)] below meth c s₁ [] 0 0 := Stand.of_body Bd
  have e0 : s₁.heap = h0 := by rw [← hh, Bd.state]; rfl
  have N0 := Fr.nil n0
  have pre0 : ∀ t, Steps p.tables e below (s₁.setTop (mkF m 0 #[vR a1, vI 0, vI 0, .unset, .unset] [])) t → Steps p.tables e below (s₁.setTop (entryFrame m #[(.ref a1), (.int 0), (.int 0)] 5)) t := fun t k => castTop (ef_room2N0 m a1) k
  obtain ⟨T1, X1, e1, st1⟩ := getF X0 hx hZ hown (host := "") (Or.inl (wd23 hw)) Via.refl e0 r1 (g := (mkF m 4 #[vR a1, vI 0, vI 0, .unset, .unset] [(.ref a1), (.int 1)])) rfl rfl (bb d8_4)
  obtain ⟨_, _, ⟨T2, L2, k2, n2⟩, -, X2, ⟨Lc2, hQ2, l2, y2, z2⟩, st2⟩ := Jvm.LawKit.callS X1 hx (y := (⟨"java/lang/Math", "min", "(II)I"⟩ : MethodName)) hown (mvT hZ (wd64 hw)) (mvT hZ (wd65 hw)) (mvT hZ (wd54 hw)) (mvT hZ (wd66 hw)) (by decide) (backOf (W := 0) (rm_minI l Z a0 hw [] (0 : Int32) (4096 : Int32) h0 n0 (own_z0 O0) O0 S_CS) hZ (wd66 hw) (wd54 hw) (by decide) (by decide)) (g := (mkF m 15 #[vR a1, vI 0, vI 0, vI 2, .unset] [(.int 4096), (.int 0)])) rfl (by rw [hml]; rfl) (argsL := [(.int 0), (.int 4096)]) (rest := []) (lenOf pd__II_I_5 rfl) rfl (by show 2 * 0 + _ ≤ _; exact Nat.le_of_eq rfl) (bb d8_15) (fun _ _ => ⟨rfl, e1, (by decide : 0 + 0 ≤ _), (by decide : 0 + 0 ≤ _)⟩)
  dsimp only [Pt.U, Pt.locs, Pt.cells, Pt.slots] at X2 l2 y2 z2 st2 hQ2
  subst l2 y2 z2
  obtain ⟨rfl, N2q, e2⟩ := hQ2
  have N2 := Fr.app N0 N2q
  obtain ⟨T3, X3, e3, st3⟩ := getF X2 hx hZ hown (host := "") (Or.inl (wd23 hw)) Via.refl e2 r1 (g := (mkF m 19 #[vR a1, vI 0, vI 0, vI 2, .unset] [(.ref a1), (.int (f_minI (0 : Int32) (4096 : Int32)))])) rfl rfl (bb d8_19)
  obtain ⟨T4, X4, e4, st4⟩ := getF X3 hx hZ hown (host := "") (Or.inl (wd21 hw)) Via.refl e3 r3 (g := (mkF m 26 #[vR a1, vI 0, vI 0, vI 2, vI ((f_minI (0 : Int32) (4096 : Int32)) * (2 : Int32))] [(.ref a1)])) rfl rfl (bb d8_26)
  obtain ⟨cl5, Ar5, vq5, vS5, vN5, vH5, vG5⟩ := id r5
  have hin5 : ¬ (((0 : Int32) : Int32) < 0 ∨ cl5.slots.size ≤ ((0 : Int32) : Int32).toNatClampNeg) := inb_of vS5 ⟨by decide, by decide⟩
  obtain ⟨T6, X6, e6, st6⟩ := getF X4 hx hZ hown (host := "") (Or.inl (wd21 hw)) Via.refl e4 r3 (g := (mkF m 36 #[vR a1, vI 0, vI 0, vI 2, vI ((f_minI (0 : Int32) (4096 : Int32)) * (2 : Int32))] [(.ref a1), (.int 2)])) rfl rfl (bb d8_36)
  obtain ⟨cl7, Ar7, vq7, vS7, vN7, vH7, vG7⟩ := id r5
  have hin7 : ¬ (((0 : Int32) : Int32) < 0 ∨ cl7.slots.size ≤ ((0 : Int32) : Int32).toNatClampNeg) := inb_of vS7 ⟨by decide, by decide⟩
  obtain ⟨cl8, Ar8, vq8, vS8, vN8, vH8, vG8⟩ := id r6
  obtain ⟨T9, X9, e9, st9⟩ := getF X6 hx hZ hown (host := "") (Or.inl (wd17 hw)) Via.refl e6 r2 (g := (mkF m 66 #[vR a1, vI 0, vI 0, vI 2, vI ((f_minI (0 : Int32) (4096 : Int32)) * (2 : Int32))] [(.ref a1)])) rfl rfl (bb d8_66)
  obtain ⟨cl10, Ar10, vq10, vS10, vN10, vH10, vG10⟩ := id r4
  have hin10 : ¬ (((0 : Int32) : Int32) < 0 ∨ cl10.slots.size ≤ ((0 : Int32) : Int32).toNatClampNeg) := inb_of vS10 ⟨by decide, by decide⟩
  obtain ⟨fs, hr, hrun, hended, hW, hsame⟩ := X9.leave (v := none) (fun _ => rfl)
  refine ⟨_, _, pre0 _ ?_, hrun, hended, _, _, rfl, ?_, ⟨_, rfl⟩, hW, hsame.mono (by decide) (by decide)⟩
  · show GG p e below s₁ (mkF m 0 #[vR a1, vI 0, vI 0, .unset, .unset] []) _
    refine XS.iloadN X0.here hx rfl (bb d8_0) rfl ?_
    refine XS.iconst X0.here hx rfl (bb d8_1) ?_
    refine XS.iadd X0.here hx rfl (bb d8_2) rfl ?_
    refine XS.aloadN X0.here hx rfl (bb d8_3) rfl rfl ?_
    show GG p e below s₁ (mkF m 4 #[vR a1, vI 0, vI 0, .unset, .unset] [(.ref a1), (.int 1)]) _
    refine st1 _ ?_
    show GG p e below T1 (mkF m 7 #[vR a1, vI 0, vI 0, .unset, .unset] [(.int 2), (.int 1)]) _
    refine XS.imul X1.here hx rfl (bb d8_7) rfl ?_
    refine XS.istoreN X1.here hx rfl (bb d8_8) rfl (l' := #[vR a1, vI 0, vI 0, vI 2, .unset]) rfl ?_
    show GG p e below T1 (mkF m 9 #[vR a1, vI 0, vI 0, vI 2, .unset] []) _
    refine XS.iconst X1.here hx rfl (bb d8_9) ?_
    refine XS.iloadN X1.here hx rfl (bb d8_10) rfl ?_
    refine XS.imul X1.here hx rfl (bb d8_11) rfl ?_
    refine XS.sipush X1.here hx rfl (bb d8_12) ?_
    show GG p e below T1 (mkF m 15 #[vR a1, vI 0, vI 0, vI 2, .unset] [(.int 4096), (.int 0)]) _
    refine st2 _ ?_
    show GG p e below T2 (mkF m 18 #[vR a1, vI 0, vI 0, vI 2, .unset] [(.int (f_minI (0 : Int32) (4096 : Int32)))]) _
    refine XS.aloadN X2.here hx rfl (bb d8_18) rfl rfl ?_
    refine st3 _ ?_
    show GG p e below T3 (mkF m 22 #[vR a1, vI 0, vI 0, vI 2, .unset] [(.int 2), (.int (f_minI (0 : Int32) (4096 : Int32)))]) _
    refine XS.imul X3.here hx rfl (bb d8_22) rfl ?_
    refine XS.istore X3.here hx rfl (bb d8_23) rfl (l' := #[vR a1, vI 0, vI 0, vI 2, vI ((f_minI (0 : Int32) (4096 : Int32)) * (2 : Int32))]) rfl ?_
    show GG p e below T3 (mkF m 25 #[vR a1, vI 0, vI 0, vI 2, vI ((f_minI (0 : Int32) (4096 : Int32)) * (2 : Int32))] []) _
    refine XS.aloadN X3.here hx rfl (bb d8_25) rfl rfl ?_
    refine st4 _ ?_
    show GG p e below T4 (mkF m 29 #[vR a1, vI 0, vI 0, vI 2, vI ((f_minI (0 : Int32) (4096 : Int32)) * (2 : Int32))] [(.ref on)]) _
    refine XS.iloadN X4.here hx rfl (bb d8_29) rfl ?_
    refine X4.aaload hx (j := (0 : Int32)) (v := (.ref ov)) (by rw [e4]; exact Ar5.1) (State.isArrayOf_alike hZ.alike Ar5.2.1) rfl Ar5.2.2 hin5 (vH5.at hin5 rfl) (g := (mkF m 30 #[vR a1, vI 0, vI 0, vI 2, vI ((f_minI (0 : Int32) (4096 : Int32)) * (2 : Int32))] [(.int 0), (.ref on)])) rfl rfl (bb d8_30) _ ?_
    show GG p e below T4 (mkF m 31 #[vR a1, vI 0, vI 0, vI 2, vI ((f_minI (0 : Int32) (4096 : Int32)) * (2 : Int32))] [(.ref ov)]) _
    refine XS.ifnullNo X4.here hx rfl (bb d8_31) rfl ?_
    show GG p e below T4 (mkF m 34 #[vR a1, vI 0, vI 0, vI 2, vI ((f_minI (0 : Int32) (4096 : Int32)) * (2 : Int32))] []) _
    refine XS.iloadN X4.here hx rfl (bb d8_34) rfl ?_
    refine XS.aloadN X4.here hx rfl (bb d8_35) rfl rfl ?_
    refine st6 _ ?_
    show GG p e below T6 (mkF m 39 #[vR a1, vI 0, vI 0, vI 2, vI ((f_minI (0 : Int32) (4096 : Int32)) * (2 : Int32))] [(.ref on), (.int 2)]) _
    refine XS.iloadN X6.here hx rfl (bb d8_39) rfl ?_
    refine X6.aaload hx (j := (0 : Int32)) (v := (.ref ov)) (by rw [e6]; exact Ar7.1) (State.isArrayOf_alike hZ.alike Ar7.2.1) rfl Ar7.2.2 hin7 (vH7.at hin7 rfl) (g := (mkF m 40 #[vR a1, vI 0, vI 0, vI 2, vI ((f_minI (0 : Int32) (4096 : Int32)) * (2 : Int32))] [(.int 0), (.ref on), (.int 2)])) rfl rfl (bb d8_40) _ ?_
    show GG p e below T6 (mkF m 41 #[vR a1, vI 0, vI 0, vI 2, vI ((f_minI (0 : Int32) (4096 : Int32)) * (2 : Int32))] [(.ref ov), (.int 2)]) _
    refine X6.arraylength hx (by rw [e6]; exact Ar8.1) (State.isArrayOf_alike hZ.alike Ar8.2.1) (g := (mkF m 41 #[vR a1, vI 0, vI 0, vI 2, vI ((f_minI (0 : Int32) (4096 : Int32)) * (2 : Int32))] [(.ref ov), (.int 2)])) rfl rfl (bb d8_41) _ ?_
    rw [len_of vS8 vN8]
    show GG p e below T6 (mkF m 42 #[vR a1, vI 0, vI 0, vI 2, vI ((f_minI (0 : Int32) (4096 : Int32)) * (2 : Int32))] [(.int 16), (.int 2)]) _
    refine XS.icmpYes X6.here hx rfl (pc0 := 42) (pc' := 65) rfl (bb d8_42) rfl (flt (by decide : ¬ ((16 : Int32) < (2 : Int32)))).2.2.2 (by decide) (by decide) ?_
    show GG p e below T6 (mkF m 65 #[vR a1, vI 0, vI 0, vI 2, vI ((f_minI (0 : Int32) (4096 : Int32)) * (2 : Int32))] []) _
    refine XS.aloadN X6.here hx rfl (bb d8_65) rfl rfl ?_
    refine st9 _ ?_
    show GG p e below T9 (mkF m 69 #[vR a1, vI 0, vI 0, vI 2, vI ((f_minI (0 : Int32) (4096 : Int32)) * (2 : Int32))] [(.ref ow)]) _
    refine XS.iloadN X9.here hx rfl (bb d8_69) rfl ?_
    refine X9.aaload hx (j := (0 : Int32)) (v := .null) (by rw [e9]; exact Ar10.1) (State.isArrayOf_alike hZ.alike Ar10.2.1) rfl Ar10.2.2 hin10 (vH10.at hin10 rfl) (g := (mkF m 70 #[vR a1, vI 0, vI 0, vI 2, vI ((f_minI (0 : Int32) (4096 : Int32)) * (2 : Int32))] [(.int 0), (.ref ow)])) rfl rfl (bb d8_70) _ ?_
    show GG p e below T9 (mkF m 71 #[vR a1, vI 0, vI 0, vI 2, vI ((f_minI (0 : Int32) (4096 : Int32)) * (2 : Int32))] [.null]) _
    refine XS.ifnullYes X9.here hx rfl (pc0 := 71) (pc' := 102) rfl (bb d8_71) rfl (by decide) (by decide) ?_
    show GG p e below T9 (mkF m 102 #[vR a1, vI 0, vI 0, vI 2, vI ((f_minI (0 : Int32) (4096 : Int32)) * (2 : Int32))] []) _
    exact X9.returnOut hx Bd.returns (bb d8_102) hr
  · exact ⟨rfl, N2, e9⟩
set_option maxRecDepth 65536 in
set_option maxHeartbeats 40000000 in
theorem rm_room2N1 (l : Launch) (Z : State) (a0 : Array Value) (hw : ∀ d ∈ tables_1, d.before a0 Z = true) (ws : List Jvm.Cond) (a1 ow on ob ol oh ov : Addr) (kw_ kn_ kb_ kl_ kh_ kv_ : ClassId) (eb0 eb1 el0 el1 eu0 eu1 ev0_0 ev0_1 ex2 ex3 ex4 ex5 ex6 ex7 ex8 ex9 ex10 ex11 ex12 ex13 ex14 ex15 : Int32) (h0 : Heap) (n0 : Nat) (Z0 : n0 ≤ h0.size) (O0 : Old Z n0 h0) (S_CS : Sta Z Z.heap cRV "CHUNK_SHIFT" "I" (.int (12 : Int32))) (r0 : Exa Z h0 a1 cRV) (r1 : Fld Z h0 a1 cRV "arity" "I" (.int 2)) (r2 : Fld Z h0 a1 cRV "wide" "[[I" (.ref ow)) (r3 : Fld Z h0 a1 cRV "narrow" "[[C" (.ref on)) (r4 : Arv Z h0 ow kw_ (.array .int) (1 : Int32) [.null] .null) (r5 : Arv Z h0 on kn_ (.array .char) (1 : Int32) [(.ref ov)] .null) (r6 : Arv Z h0 ov kv_ .char (16 : Int32) [(.int (nar .char (ev0_0 - eb0))), (.int (nar .char (ev0_1 - eb1))), (.int ex2), (.int ex3), (.int ex4), (.int ex5), (.int ex6), (.int ex7), (.int ex8), (.int ex9), (.int ex10), (.int ex11), (.int ex12), (.int ex13), (.int ex14), (.int ex15)] (.int 0)) :
    MetFree l (⟨cRV, "makeRoom", "(II)V"⟩ : MethodName) (head1 (Jvm.Cond.code (⟨cRV, "makeRoom", "(II)V"⟩ : MethodName) prog_47_method_6_code 5 none :: ws) ({ frames := 1, cells := 0, slots := 0, locals := 13 } : Room)) (fun a U => a = #[(.ref a1), (.int 0), (.int 1)] ∧ Z.Warmed39 U.vm ∧ U.heap = h0) (fun _ _ _ _ _ => True) (fun _ U o U' => ∃ v L, o = .returned v ∧ PureQ (none) h0 n0 v U'.heap L ∧ FrameEnd U o U' L ({ frames := 1, cells := 0, slots := 0, locals := 13 } : Room).cells ({ frames := 1, cells := 0, slots := 0, locals := 13 } : Room).slots) := by
  refine MetFree.of_bodySF (plainFor_of_name pn_RowValues) hisR ?_
  intro p e s m args below meth c s₁ Bd hml0 hP hK
  obtain ⟨rfl, hZ, hh⟩ := hP
  have hx := Bd.exec
  have hby := Bd.bytes
  have bb := fun {pc : Nat} {r : Except DecodeError (Instr × Nat)} (h : decode prog_47_method_6_code pc = r) => hb hby h
  have hml : c.maxLocals = 5 := hml0
  have hown : s.vm.findClass cRV = some m.cls := findClass_of_methodNamed Bd.named
  have hnm := (name_of_methodNamed Bd.named Bd.method).1
  have X0 : Stand p l e ({ frames := 1, cells := 0, slots := 0, locals := 13 } : Room) s m #[(.ref a1), (.int 0), (.int 1)] below meth c s₁ [] 0 0 := Stand.of_body Bd
  have e0 : s₁.heap = h0 := by rw [← hh, Bd.state]; rfl
  have N0 := Fr.nil n0
  have pre0 : ∀ t, Steps p.tables e below (s₁.setTop (mkF m 0 #[vR a1, vI 0, vI 1, .unset, .unset] [])) t → Steps p.tables e below (s₁.setTop (entryFrame m #[(.ref a1), (.int 0), (.int 1)] 5)) t := fun t k => castTop (ef_room2N1 m a1) k
  obtain ⟨T1, X1, e1, st1⟩ := getF X0 hx hZ hown (host := "") (Or.inl (wd23 hw)) Via.refl e0 r1 (g := (mkF m 4 #[vR a1, vI 0, vI 1, .unset, .unset] [(.ref a1), (.int 2)])) rfl rfl (bb d8_4)
  obtain ⟨_, _, ⟨T2, L2, k2, n2⟩, -, X2, ⟨Lc2, hQ2, l2, y2, z2⟩, st2⟩ := Jvm.LawKit.callS X1 hx (y := (⟨"java/lang/Math", "min", "(II)I"⟩ : MethodName)) hown (mvT hZ (wd64 hw)) (mvT hZ (wd65 hw)) (mvT hZ (wd54 hw)) (mvT hZ (wd66 hw)) (by decide) (backOf (W := 0) (rm_minI l Z a0 hw [] (2 : Int32) (4096 : Int32) h0 n0 (own_z0 O0) O0 S_CS) hZ (wd66 hw) (wd54 hw) (by decide) (by decide)) (g := (mkF m 15 #[vR a1, vI 0, vI 1, vI 4, .unset] [(.int 4096), (.int 2)])) rfl (by rw [hml]; rfl) (argsL := [(.int 2), (.int 4096)]) (rest := []) (lenOf pd__II_I_5 rfl) rfl (by show 2 * 0 + _ ≤ _; exact Nat.le_of_eq rfl) (bb d8_15) (fun _ _ => ⟨rfl, e1, (by decide : 0 + 0 ≤ _), (by decide : 0 + 0 ≤ _)⟩)
  dsimp only [Pt.U, Pt.locs, Pt.cells, Pt.slots] at X2 l2 y2 z2 st2 hQ2
  subst l2 y2 z2
  obtain ⟨rfl, N2q, e2⟩ := hQ2
  have N2 := Fr.app N0 N2q
  obtain ⟨T3, X3, e3, st3⟩ := getF X2 hx hZ hown (host := "") (Or.inl (wd23 hw)) Via.refl e2 r1 (g := (mkF m 19 #[vR a1, vI 0, vI 1, vI 4, .unset] [(.ref a1), (.int (f_minI (2 : Int32) (4096 : Int32)))])) rfl rfl (bb d8_19)
  obtain ⟨T4, X4, e4, st4⟩ := getF X3 hx hZ hown (host := "") (Or.inl (wd21 hw)) Via.refl e3 r3 (g := (mkF m 26 #[vR a1, vI 0, vI 1, vI 4, vI ((f_minI (2 : Int32) (4096 : Int32)) * (2 : Int32))] [(.ref a1)])) rfl rfl (bb d8_26)
  obtain ⟨cl5, Ar5, vq5, vS5, vN5, vH5, vG5⟩ := id r5
  have hin5 : ¬ (((0 : Int32) : Int32) < 0 ∨ cl5.slots.size ≤ ((0 : Int32) : Int32).toNatClampNeg) := inb_of vS5 ⟨by decide, by decide⟩
  obtain ⟨T6, X6, e6, st6⟩ := getF X4 hx hZ hown (host := "") (Or.inl (wd21 hw)) Via.refl e4 r3 (g := (mkF m 36 #[vR a1, vI 0, vI 1, vI 4, vI ((f_minI (2 : Int32) (4096 : Int32)) * (2 : Int32))] [(.ref a1), (.int 4)])) rfl rfl (bb d8_36)
  obtain ⟨cl7, Ar7, vq7, vS7, vN7, vH7, vG7⟩ := id r5
  have hin7 : ¬ (((0 : Int32) : Int32) < 0 ∨ cl7.slots.size ≤ ((0 : Int32) : Int32).toNatClampNeg) := inb_of vS7 ⟨by decide, by decide⟩
  obtain ⟨cl8, Ar8, vq8, vS8, vN8, vH8, vG8⟩ := id r6
  obtain ⟨T9, X9, e9, st9⟩ := getF X6 hx hZ hown (host := "") (Or.inl (wd17 hw)) Via.refl e6 r2 (g := (mkF m 66 #[vR a1, vI 0, vI 1, vI 4, vI ((f_minI (2 : Int32) (4096 : Int32)) * (2 : Int32))] [(.ref a1)])) rfl rfl (bb d8_66)
  obtain ⟨cl10, Ar10, vq10, vS10, vN10, vH10, vG10⟩ := id r4
  have hin10 : ¬ (((0 : Int32) : Int32) < 0 ∨ cl10.slots.size ≤ ((0 : Int32) : Int32).toNatClampNeg) := inb_of vS10 ⟨by decide, by decide⟩
  obtain ⟨fs, hr, hrun, hended, hW, hsame⟩ := X9.leave (v := none) (fun _ => rfl)
  refine ⟨_, _, pre0 _ ?_, hrun, hended, _, _, rfl, ?_, ⟨_, rfl⟩, hW, hsame.mono (by decide) (by decide)⟩
  · show GG p e below s₁ (mkF m 0 #[vR a1, vI 0, vI 1, .unset, .unset] []) _
    refine XS.iloadN X0.here hx rfl (bb d8_0) rfl ?_
    refine XS.iconst X0.here hx rfl (bb d8_1) ?_
    refine XS.iadd X0.here hx rfl (bb d8_2) rfl ?_
    refine XS.aloadN X0.here hx rfl (bb d8_3) rfl rfl ?_
    show GG p e below s₁ (mkF m 4 #[vR a1, vI 0, vI 1, .unset, .unset] [(.ref a1), (.int 2)]) _
    refine st1 _ ?_
    show GG p e below T1 (mkF m 7 #[vR a1, vI 0, vI 1, .unset, .unset] [(.int 2), (.int 2)]) _
    refine XS.imul X1.here hx rfl (bb d8_7) rfl ?_
    refine XS.istoreN X1.here hx rfl (bb d8_8) rfl (l' := #[vR a1, vI 0, vI 1, vI 4, .unset]) rfl ?_
    show GG p e below T1 (mkF m 9 #[vR a1, vI 0, vI 1, vI 4, .unset] []) _
    refine XS.iconst X1.here hx rfl (bb d8_9) ?_
    refine XS.iloadN X1.here hx rfl (bb d8_10) rfl ?_
    refine XS.imul X1.here hx rfl (bb d8_11) rfl ?_
    refine XS.sipush X1.here hx rfl (bb d8_12) ?_
    show GG p e below T1 (mkF m 15 #[vR a1, vI 0, vI 1, vI 4, .unset] [(.int 4096), (.int 2)]) _
    refine st2 _ ?_
    show GG p e below T2 (mkF m 18 #[vR a1, vI 0, vI 1, vI 4, .unset] [(.int (f_minI (2 : Int32) (4096 : Int32)))]) _
    refine XS.aloadN X2.here hx rfl (bb d8_18) rfl rfl ?_
    refine st3 _ ?_
    show GG p e below T3 (mkF m 22 #[vR a1, vI 0, vI 1, vI 4, .unset] [(.int 2), (.int (f_minI (2 : Int32) (4096 : Int32)))]) _
    refine XS.imul X3.here hx rfl (bb d8_22) rfl ?_
    refine XS.istore X3.here hx rfl (bb d8_23) rfl (l' := #[vR a1, vI 0, vI 1, vI 4, vI ((f_minI (2 : Int32) (4096 : Int32)) * (2 : Int32))]) rfl ?_
    show GG p e below T3 (mkF m 25 #[vR a1, vI 0, vI 1, vI 4, vI ((f_minI (2 : Int32) (4096 : Int32)) * (2 : Int32))] []) _
    refine XS.aloadN X3.here hx rfl (bb d8_25) rfl rfl ?_
    refine st4 _ ?_
    show GG p e below T4 (mkF m 29 #[vR a1, vI 0, vI 1, vI 4, vI ((f_minI (2 : Int32) (4096 : Int32)) * (2 : Int32))] [(.ref on)]) _
    refine XS.iloadN X4.here hx rfl (bb d8_29) rfl ?_
    refine X4.aaload hx (j := (0 : Int32)) (v := (.ref ov)) (by rw [e4]; exact Ar5.1) (State.isArrayOf_alike hZ.alike Ar5.2.1) rfl Ar5.2.2 hin5 (vH5.at hin5 rfl) (g := (mkF m 30 #[vR a1, vI 0, vI 1, vI 4, vI ((f_minI (2 : Int32) (4096 : Int32)) * (2 : Int32))] [(.int 0), (.ref on)])) rfl rfl (bb d8_30) _ ?_
    show GG p e below T4 (mkF m 31 #[vR a1, vI 0, vI 1, vI 4, vI ((f_minI (2 : Int32) (4096 : Int32)) * (2 : Int32))] [(.ref ov)]) _
    refine XS.ifnullNo X4.here hx rfl (bb d8_31) rfl ?_
    show GG p e below T4 (mkF m 34 #[vR a1, vI 0, vI 1, vI 4, vI ((f_minI (2 : Int32) (4096 : Int32)) * (2 : Int32))] []) _
    refine XS.iloadN X4.here hx rfl (bb d8_34) rfl ?_
    refine XS.aloadN X4.here hx rfl (bb d8_35) rfl rfl ?_
    refine st6 _ ?_
    show GG p e below T6 (mkF m 39 #[vR a1, vI 0, vI 1, vI 4, vI ((f_minI (2 : Int32) (4096 : Int32)) * (2 : Int32))] [(.ref on), (.int 4)]) _
    refine XS.iloadN X6.here hx rfl (bb d8_39) rfl ?_
    refine X6.aaload hx (j := (0 : Int32)) (v := (.ref ov)) (by rw [e6]; exact Ar7.1) (State.isArrayOf_alike hZ.alike Ar7.2.1) rfl Ar7.2.2 hin7 (vH7.at hin7 rfl) (g := (mkF m 40 #[vR a1, vI 0, vI 1, vI 4, vI ((f_minI (2 : Int32) (4096 : Int32)) * (2 : Int32))] [(.int 0), (.ref on), (.int 4)])) rfl rfl (bb d8_40) _ ?_
    show GG p e below T6 (mkF m 41 #[vR a1, vI 0, vI 1, vI 4, vI ((f_minI (2 : Int32) (4096 : Int32)) * (2 : Int32))] [(.ref ov), (.int 4)]) _
    refine X6.arraylength hx (by rw [e6]; exact Ar8.1) (State.isArrayOf_alike hZ.alike Ar8.2.1) (g := (mkF m 41 #[vR a1, vI 0, vI 1, vI 4, vI ((f_minI (2 : Int32) (4096 : Int32)) * (2 : Int32))] [(.ref ov), (.int 4)])) rfl rfl (bb d8_41) _ ?_
    rw [len_of vS8 vN8]
    show GG p e below T6 (mkF m 42 #[vR a1, vI 0, vI 1, vI 4, vI ((f_minI (2 : Int32) (4096 : Int32)) * (2 : Int32))] [(.int 16), (.int 4)]) _
    refine XS.icmpYes X6.here hx rfl (pc0 := 42) (pc' := 65) rfl (bb d8_42) rfl (flt (by decide : ¬ ((16 : Int32) < (4 : Int32)))).2.2.2 (by decide) (by decide) ?_
    show GG p e below T6 (mkF m 65 #[vR a1, vI 0, vI 1, vI 4, vI ((f_minI (2 : Int32) (4096 : Int32)) * (2 : Int32))] []) _
    refine XS.aloadN X6.here hx rfl (bb d8_65) rfl rfl ?_
    refine st9 _ ?_
    show GG p e below T9 (mkF m 69 #[vR a1, vI 0, vI 1, vI 4, vI ((f_minI (2 : Int32) (4096 : Int32)) * (2 : Int32))] [(.ref ow)]) _
    refine XS.iloadN X9.here hx rfl (bb d8_69) rfl ?_
    refine X9.aaload hx (j := (0 : Int32)) (v := .null) (by rw [e9]; exact Ar10.1) (State.isArrayOf_alike hZ.alike Ar10.2.1) rfl Ar10.2.2 hin10 (vH10.at hin10 rfl) (g := (mkF m 70 #[vR a1, vI 0, vI 1, vI 4, vI ((f_minI (2 : Int32) (4096 : Int32)) * (2 : Int32))] [(.int 0), (.ref ow)])) rfl rfl (bb d8_70) _ ?_
    show GG p e below T9 (mkF m 71 #[vR a1, vI 0, vI 1, vI 4, vI ((f_minI (2 : Int32) (4096 : Int32)) * (2 : Int32))] [.null]) _
    refine XS.ifnullYes X9.here hx rfl (pc0 := 71) (pc' := 102) rfl (bb d8_71) rfl (by decide) (by decide) ?_
    show GG p e below T9 (mkF m 102 #[vR a1, vI 0, vI 1, vI 4, vI ((f_minI (2 : Int32) (4096 : Int32)) * (2 : Int32))] []) _
    exact X9.returnOut hx Bd.returns (bb d8_102) hr
  · exact ⟨rfl, N2, e9⟩
set_option maxRecDepth 65536 in
set_option maxHeartbeats 40000000 in
theorem rm_room2N2 (l : Launch) (Z : State) (a0 : Array Value) (hw : ∀ d ∈ tables_1, d.before a0 Z = true) (ws : List Jvm.Cond) (a1 ow on ob ol oh ov : Addr) (kw_ kn_ kb_ kl_ kh_ kv_ : ClassId) (eb0 eb1 el0 el1 eu0 eu1 ev0_0 ev0_1 ev1_0 ev1_1 ex4 ex5 ex6 ex7 ex8 ex9 ex10 ex11 ex12 ex13 ex14 ex15 : Int32) (h0 : Heap) (n0 : Nat) (Z0 : n0 ≤ h0.size) (O0 : Old Z n0 h0) (S_CS : Sta Z Z.heap cRV "CHUNK_SHIFT" "I" (.int (12 : Int32))) (r0 : Exa Z h0 a1 cRV) (r1 : Fld Z h0 a1 cRV "arity" "I" (.int 2)) (r2 : Fld Z h0 a1 cRV "wide" "[[I" (.ref ow)) (r3 : Fld Z h0 a1 cRV "narrow" "[[C" (.ref on)) (r4 : Arv Z h0 ow kw_ (.array .int) (1 : Int32) [.null] .null) (r5 : Arv Z h0 on kn_ (.array .char) (1 : Int32) [(.ref ov)] .null) (r6 : Arv Z h0 ov kv_ .char (16 : Int32) [(.int (nar .char (ev0_0 - eb0))), (.int (nar .char (ev0_1 - eb1))), (.int (nar .char (ev1_0 - eb0))), (.int (nar .char (ev1_1 - eb1))), (.int ex4), (.int ex5), (.int ex6), (.int ex7), (.int ex8), (.int ex9), (.int ex10), (.int ex11), (.int ex12), (.int ex13), (.int ex14), (.int ex15)] (.int 0)) :
    MetFree l (⟨cRV, "makeRoom", "(II)V"⟩ : MethodName) (head1 (Jvm.Cond.code (⟨cRV, "makeRoom", "(II)V"⟩ : MethodName) prog_47_method_6_code 5 none :: ws) ({ frames := 1, cells := 0, slots := 0, locals := 13 } : Room)) (fun a U => a = #[(.ref a1), (.int 0), (.int 2)] ∧ Z.Warmed39 U.vm ∧ U.heap = h0) (fun _ _ _ _ _ => True) (fun _ U o U' => ∃ v L, o = .returned v ∧ PureQ (none) h0 n0 v U'.heap L ∧ FrameEnd U o U' L ({ frames := 1, cells := 0, slots := 0, locals := 13 } : Room).cells ({ frames := 1, cells := 0, slots := 0, locals := 13 } : Room).slots) := by
  refine MetFree.of_bodySF (plainFor_of_name pn_RowValues) hisR ?_
  intro p e s m args below meth c s₁ Bd hml0 hP hK
  obtain ⟨rfl, hZ, hh⟩ := hP
  have hx := Bd.exec
  have hby := Bd.bytes
  have bb := fun {pc : Nat} {r : Except DecodeError (Instr × Nat)} (h : decode prog_47_method_6_code pc = r) => hb hby h
  have hml : c.maxLocals = 5 := hml0
  have hown : s.vm.findClass cRV = some m.cls := findClass_of_methodNamed Bd.named
  have hnm := (name_of_methodNamed Bd.named Bd.method).1
  have X0 : Stand p l e ({ frames := 1, cells := 0, slots := 0, locals := 13 } : Room) s m #[(.ref a1), (.int 0), (.int 2)] below meth c s₁ [] 0 0 := Stand.of_body Bd
  have e0 : s₁.heap = h0 := by rw [← hh, Bd.state]; rfl
  have N0 := Fr.nil n0
  have pre0 : ∀ t, Steps p.tables e below (s₁.setTop (mkF m 0 #[vR a1, vI 0, vI 2, .unset, .unset] [])) t → Steps p.tables e below (s₁.setTop (entryFrame m #[(.ref a1), (.int 0), (.int 2)] 5)) t := fun t k => castTop (ef_room2N2 m a1) k
  obtain ⟨T1, X1, e1, st1⟩ := getF X0 hx hZ hown (host := "") (Or.inl (wd23 hw)) Via.refl e0 r1 (g := (mkF m 4 #[vR a1, vI 0, vI 2, .unset, .unset] [(.ref a1), (.int 3)])) rfl rfl (bb d8_4)
  obtain ⟨_, _, ⟨T2, L2, k2, n2⟩, -, X2, ⟨Lc2, hQ2, l2, y2, z2⟩, st2⟩ := Jvm.LawKit.callS X1 hx (y := (⟨"java/lang/Math", "min", "(II)I"⟩ : MethodName)) hown (mvT hZ (wd64 hw)) (mvT hZ (wd65 hw)) (mvT hZ (wd54 hw)) (mvT hZ (wd66 hw)) (by decide) (backOf (W := 0) (rm_minI l Z a0 hw [] (4 : Int32) (4096 : Int32) h0 n0 (own_z0 O0) O0 S_CS) hZ (wd66 hw) (wd54 hw) (by decide) (by decide)) (g := (mkF m 15 #[vR a1, vI 0, vI 2, vI 6, .unset] [(.int 4096), (.int 4)])) rfl (by rw [hml]; rfl) (argsL := [(.int 4), (.int 4096)]) (rest := []) (lenOf pd__II_I_5 rfl) rfl (by show 2 * 0 + _ ≤ _; exact Nat.le_of_eq rfl) (bb d8_15) (fun _ _ => ⟨rfl, e1, (by decide : 0 + 0 ≤ _), (by decide : 0 + 0 ≤ _)⟩)
  dsimp only [Pt.U, Pt.locs, Pt.cells, Pt.slots] at X2 l2 y2 z2 st2 hQ2
  subst l2 y2 z2
  obtain ⟨rfl, N2q, e2⟩ := hQ2
  have N2 := Fr.app N0 N2q
  obtain ⟨T3, X3, e3, st3⟩ := getF X2 hx hZ hown (host := "") (Or.inl (wd23 hw)) Via.refl e2 r1 (g := (mkF m 19 #[vR a1, vI 0, vI 2, vI 6, .unset] [(.ref a1), (.int (f_minI (4 : Int32) (4096 : Int32)))])) rfl rfl (bb d8_19)
  obtain ⟨T4, X4, e4, st4⟩ := getF X3 hx hZ hown (host := "") (Or.inl (wd21 hw)) Via.refl e3 r3 (g := (mkF m 26 #[vR a1, vI 0, vI 2, vI 6, vI ((f_minI (4 : Int32) (4096 : Int32)) * (2 : Int32))] [(.ref a1)])) rfl rfl (bb d8_26)
  obtain ⟨cl5, Ar5, vq5, vS5, vN5, vH5, vG5⟩ := id r5
  have hin5 : ¬ (((0 : Int32) : Int32) < 0 ∨ cl5.slots.size ≤ ((0 : Int32) : Int32).toNatClampNeg) := inb_of vS5 ⟨by decide, by decide⟩
  obtain ⟨T6, X6, e6, st6⟩ := getF X4 hx hZ hown (host := "") (Or.inl (wd21 hw)) Via.refl e4 r3 (g := (mkF m 36 #[vR a1, vI 0, vI 2, vI 6, vI ((f_minI (4 : Int32) (4096 : Int32)) * (2 : Int32))] [(.ref a1), (.int 6)])) rfl rfl (bb d8_36)
  obtain ⟨cl7, Ar7, vq7, vS7, vN7, vH7, vG7⟩ := id r5
  have hin7 : ¬ (((0 : Int32) : Int32) < 0 ∨ cl7.slots.size ≤ ((0 : Int32) : Int32).toNatClampNeg) := inb_of vS7 ⟨by decide, by decide⟩
  obtain ⟨cl8, Ar8, vq8, vS8, vN8, vH8, vG8⟩ := id r6
  obtain ⟨T9, X9, e9, st9⟩ := getF X6 hx hZ hown (host := "") (Or.inl (wd17 hw)) Via.refl e6 r2 (g := (mkF m 66 #[vR a1, vI 0, vI 2, vI 6, vI ((f_minI (4 : Int32) (4096 : Int32)) * (2 : Int32))] [(.ref a1)])) rfl rfl (bb d8_66)
  obtain ⟨cl10, Ar10, vq10, vS10, vN10, vH10, vG10⟩ := id r4
  have hin10 : ¬ (((0 : Int32) : Int32) < 0 ∨ cl10.slots.size ≤ ((0 : Int32) : Int32).toNatClampNeg) := inb_of vS10 ⟨by decide, by decide⟩
  obtain ⟨fs, hr, hrun, hended, hW, hsame⟩ := X9.leave (v := none) (fun _ => rfl)
  refine ⟨_, _, pre0 _ ?_, hrun, hended, _, _, rfl, ?_, ⟨_, rfl⟩, hW, hsame.mono (by decide) (by decide)⟩
  · show GG p e below s₁ (mkF m 0 #[vR a1, vI 0, vI 2, .unset, .unset] []) _
    refine XS.iloadN X0.here hx rfl (bb d8_0) rfl ?_
    refine XS.iconst X0.here hx rfl (bb d8_1) ?_
    refine XS.iadd X0.here hx rfl (bb d8_2) rfl ?_
    refine XS.aloadN X0.here hx rfl (bb d8_3) rfl rfl ?_
    show GG p e below s₁ (mkF m 4 #[vR a1, vI 0, vI 2, .unset, .unset] [(.ref a1), (.int 3)]) _
    refine st1 _ ?_
    show GG p e below T1 (mkF m 7 #[vR a1, vI 0, vI 2, .unset, .unset] [(.int 2), (.int 3)]) _
    refine XS.imul X1.here hx rfl (bb d8_7) rfl ?_
    refine XS.istoreN X1.here hx rfl (bb d8_8) rfl (l' := #[vR a1, vI 0, vI 2, vI 6, .unset]) rfl ?_
    show GG p e below T1 (mkF m 9 #[vR a1, vI 0, vI 2, vI 6, .unset] []) _
    refine XS.iconst X1.here hx rfl (bb d8_9) ?_
    refine XS.iloadN X1.here hx rfl (bb d8_10) rfl ?_
    refine XS.imul X1.here hx rfl (bb d8_11) rfl ?_
    refine XS.sipush X1.here hx rfl (bb d8_12) ?_
    show GG p e below T1 (mkF m 15 #[vR a1, vI 0, vI 2, vI 6, .unset] [(.int 4096), (.int 4)]) _
    refine st2 _ ?_
    show GG p e below T2 (mkF m 18 #[vR a1, vI 0, vI 2, vI 6, .unset] [(.int (f_minI (4 : Int32) (4096 : Int32)))]) _
    refine XS.aloadN X2.here hx rfl (bb d8_18) rfl rfl ?_
    refine st3 _ ?_
    show GG p e below T3 (mkF m 22 #[vR a1, vI 0, vI 2, vI 6, .unset] [(.int 2), (.int (f_minI (4 : Int32) (4096 : Int32)))]) _
    refine XS.imul X3.here hx rfl (bb d8_22) rfl ?_
    refine XS.istore X3.here hx rfl (bb d8_23) rfl (l' := #[vR a1, vI 0, vI 2, vI 6, vI ((f_minI (4 : Int32) (4096 : Int32)) * (2 : Int32))]) rfl ?_
    show GG p e below T3 (mkF m 25 #[vR a1, vI 0, vI 2, vI 6, vI ((f_minI (4 : Int32) (4096 : Int32)) * (2 : Int32))] []) _
    refine XS.aloadN X3.here hx rfl (bb d8_25) rfl rfl ?_
    refine st4 _ ?_
    show GG p e below T4 (mkF m 29 #[vR a1, vI 0, vI 2, vI 6, vI ((f_minI (4 : Int32) (4096 : Int32)) * (2 : Int32))] [(.ref on)]) _
    refine XS.iloadN X4.here hx rfl (bb d8_29) rfl ?_
    refine X4.aaload hx (j := (0 : Int32)) (v := (.ref ov)) (by rw [e4]; exact Ar5.1) (State.isArrayOf_alike hZ.alike Ar5.2.1) rfl Ar5.2.2 hin5 (vH5.at hin5 rfl) (g := (mkF m 30 #[vR a1, vI 0, vI 2, vI 6, vI ((f_minI (4 : Int32) (4096 : Int32)) * (2 : Int32))] [(.int 0), (.ref on)])) rfl rfl (bb d8_30) _ ?_
    show GG p e below T4 (mkF m 31 #[vR a1, vI 0, vI 2, vI 6, vI ((f_minI (4 : Int32) (4096 : Int32)) * (2 : Int32))] [(.ref ov)]) _
    refine XS.ifnullNo X4.here hx rfl (bb d8_31) rfl ?_
    show GG p e below T4 (mkF m 34 #[vR a1, vI 0, vI 2, vI 6, vI ((f_minI (4 : Int32) (4096 : Int32)) * (2 : Int32))] []) _
    refine XS.iloadN X4.here hx rfl (bb d8_34) rfl ?_
    refine XS.aloadN X4.here hx rfl (bb d8_35) rfl rfl ?_
    refine st6 _ ?_
    show GG p e below T6 (mkF m 39 #[vR a1, vI 0, vI 2, vI 6, vI ((f_minI (4 : Int32) (4096 : Int32)) * (2 : Int32))] [(.ref on), (.int 6)]) _
    refine XS.iloadN X6.here hx rfl (bb d8_39) rfl ?_
    refine X6.aaload hx (j := (0 : Int32)) (v := (.ref ov)) (by rw [e6]; exact Ar7.1) (State.isArrayOf_alike hZ.alike Ar7.2.1) rfl Ar7.2.2 hin7 (vH7.at hin7 rfl) (g := (mkF m 40 #[vR a1, vI 0, vI 2, vI 6, vI ((f_minI (4 : Int32) (4096 : Int32)) * (2 : Int32))] [(.int 0), (.ref on), (.int 6)])) rfl rfl (bb d8_40) _ ?_
    show GG p e below T6 (mkF m 41 #[vR a1, vI 0, vI 2, vI 6, vI ((f_minI (4 : Int32) (4096 : Int32)) * (2 : Int32))] [(.ref ov), (.int 6)]) _
    refine X6.arraylength hx (by rw [e6]; exact Ar8.1) (State.isArrayOf_alike hZ.alike Ar8.2.1) (g := (mkF m 41 #[vR a1, vI 0, vI 2, vI 6, vI ((f_minI (4 : Int32) (4096 : Int32)) * (2 : Int32))] [(.ref ov), (.int 6)])) rfl rfl (bb d8_41) _ ?_
    rw [len_of vS8 vN8]
    show GG p e below T6 (mkF m 42 #[vR a1, vI 0, vI 2, vI 6, vI ((f_minI (4 : Int32) (4096 : Int32)) * (2 : Int32))] [(.int 16), (.int 6)]) _
    refine XS.icmpYes X6.here hx rfl (pc0 := 42) (pc' := 65) rfl (bb d8_42) rfl (flt (by decide : ¬ ((16 : Int32) < (6 : Int32)))).2.2.2 (by decide) (by decide) ?_
    show GG p e below T6 (mkF m 65 #[vR a1, vI 0, vI 2, vI 6, vI ((f_minI (4 : Int32) (4096 : Int32)) * (2 : Int32))] []) _
    refine XS.aloadN X6.here hx rfl (bb d8_65) rfl rfl ?_
    refine st9 _ ?_
    show GG p e below T9 (mkF m 69 #[vR a1, vI 0, vI 2, vI 6, vI ((f_minI (4 : Int32) (4096 : Int32)) * (2 : Int32))] [(.ref ow)]) _
    refine XS.iloadN X9.here hx rfl (bb d8_69) rfl ?_
    refine X9.aaload hx (j := (0 : Int32)) (v := .null) (by rw [e9]; exact Ar10.1) (State.isArrayOf_alike hZ.alike Ar10.2.1) rfl Ar10.2.2 hin10 (vH10.at hin10 rfl) (g := (mkF m 70 #[vR a1, vI 0, vI 2, vI 6, vI ((f_minI (4 : Int32) (4096 : Int32)) * (2 : Int32))] [(.int 0), (.ref ow)])) rfl rfl (bb d8_70) _ ?_
    show GG p e below T9 (mkF m 71 #[vR a1, vI 0, vI 2, vI 6, vI ((f_minI (4 : Int32) (4096 : Int32)) * (2 : Int32))] [.null]) _
    refine XS.ifnullYes X9.here hx rfl (pc0 := 71) (pc' := 102) rfl (bb d8_71) rfl (by decide) (by decide) ?_
    show GG p e below T9 (mkF m 102 #[vR a1, vI 0, vI 2, vI 6, vI ((f_minI (4 : Int32) (4096 : Int32)) * (2 : Int32))] []) _
    exact X9.returnOut hx Bd.returns (bb d8_102) hr
  · exact ⟨rfl, N2, e9⟩
set_option maxRecDepth 65536 in
set_option maxHeartbeats 40000000 in
theorem rm_room2W2 (l : Launch) (Z : State) (a0 : Array Value) (hw : ∀ d ∈ tables_1, d.before a0 Z = true) (ws : List Jvm.Cond) (a1 ow on ob ol oh oz : Addr) (kw_ kn_ kb_ kl_ kh_ kz_ : ClassId) (eb0 eb1 el0 el1 eu0 eu1 ev0_0 ev0_1 ev1_0 ev1_1 ex4 ex5 ex6 ex7 ex8 ex9 ex10 ex11 ex12 ex13 ex14 ex15 : Int32) (h0 : Heap) (n0 : Nat) (Z0 : n0 ≤ h0.size) (O0 : Old Z n0 h0) (S_CS : Sta Z Z.heap cRV "CHUNK_SHIFT" "I" (.int (12 : Int32))) (r0 : Exa Z h0 a1 cRV) (r1 : Fld Z h0 a1 cRV "arity" "I" (.int 2)) (r2 : Fld Z h0 a1 cRV "wide" "[[I" (.ref ow)) (r3 : Fld Z h0 a1 cRV "narrow" "[[C" (.ref on)) (r4 : Arv Z h0 ow kw_ (.array .int) (1 : Int32) [(.ref oz)] .null) (r5 : Arv Z h0 on kn_ (.array .char) (1 : Int32) [.null] .null) (r6 : Arv Z h0 oz kz_ .int (16 : Int32) [(.int ev0_0), (.int ev0_1), (.int ev1_0), (.int ev1_1), (.int ex4), (.int ex5), (.int ex6), (.int ex7), (.int ex8), (.int ex9), (.int ex10), (.int ex11), (.int ex12), (.int ex13), (.int ex14), (.int ex15)] (.int 0)) :
    MetFree l (⟨cRV, "makeRoom", "(II)V"⟩ : MethodName) (head1 (Jvm.Cond.code (⟨cRV, "makeRoom", "(II)V"⟩ : MethodName) prog_47_method_6_code 5 none :: ws) ({ frames := 1, cells := 0, slots := 0, locals := 13 } : Room)) (fun a U => a = #[(.ref a1), (.int 0), (.int 2)] ∧ Z.Warmed39 U.vm ∧ U.heap = h0) (fun _ _ _ _ _ => True) (fun _ U o U' => ∃ v L, o = .returned v ∧ PureQ (none) h0 n0 v U'.heap L ∧ FrameEnd U o U' L ({ frames := 1, cells := 0, slots := 0, locals := 13 } : Room).cells ({ frames := 1, cells := 0, slots := 0, locals := 13 } : Room).slots) := by
  refine MetFree.of_bodySF (plainFor_of_name pn_RowValues) hisR ?_
  intro p e s m args below meth c s₁ Bd hml0 hP hK
  obtain ⟨rfl, hZ, hh⟩ := hP
  have hx := Bd.exec
  have hby := Bd.bytes
  have bb := fun {pc : Nat} {r : Except DecodeError (Instr × Nat)} (h : decode prog_47_method_6_code pc = r) => hb hby h
  have hml : c.maxLocals = 5 := hml0
  have hown : s.vm.findClass cRV = some m.cls := findClass_of_methodNamed Bd.named
  have hnm := (name_of_methodNamed Bd.named Bd.method).1
  have X0 : Stand p l e ({ frames := 1, cells := 0, slots := 0, locals := 13 } : Room) s m #[(.ref a1), (.int 0), (.int 2)] below meth c s₁ [] 0 0 := Stand.of_body Bd
  have e0 : s₁.heap = h0 := by rw [← hh, Bd.state]; rfl
  have N0 := Fr.nil n0
  have pre0 : ∀ t, Steps p.tables e below (s₁.setTop (mkF m 0 #[vR a1, vI 0, vI 2, .unset, .unset] [])) t → Steps p.tables e below (s₁.setTop (entryFrame m #[(.ref a1), (.int 0), (.int 2)] 5)) t := fun t k => castTop (ef_room2W2 m a1) k
  obtain ⟨T1, X1, e1, st1⟩ := getF X0 hx hZ hown (host := "") (Or.inl (wd23 hw)) Via.refl e0 r1 (g := (mkF m 4 #[vR a1, vI 0, vI 2, .unset, .unset] [(.ref a1), (.int 3)])) rfl rfl (bb d8_4)
  obtain ⟨_, _, ⟨T2, L2, k2, n2⟩, -, X2, ⟨Lc2, hQ2, l2, y2, z2⟩, st2⟩ := Jvm.LawKit.callS X1 hx (y := (⟨"java/lang/Math", "min", "(II)I"⟩ : MethodName)) hown (mvT hZ (wd64 hw)) (mvT hZ (wd65 hw)) (mvT hZ (wd54 hw)) (mvT hZ (wd66 hw)) (by decide) (backOf (W := 0) (rm_minI l Z a0 hw [] (4 : Int32) (4096 : Int32) h0 n0 (own_z0 O0) O0 S_CS) hZ (wd66 hw) (wd54 hw) (by decide) (by decide)) (g := (mkF m 15 #[vR a1, vI 0, vI 2, vI 6, .unset] [(.int 4096), (.int 4)])) rfl (by rw [hml]; rfl) (argsL := [(.int 4), (.int 4096)]) (rest := []) (lenOf pd__II_I_5 rfl) rfl (by show 2 * 0 + _ ≤ _; exact Nat.le_of_eq rfl) (bb d8_15) (fun _ _ => ⟨rfl, e1, (by decide : 0 + 0 ≤ _), (by decide : 0 + 0 ≤ _)⟩)
  dsimp only [Pt.U, Pt.locs, Pt.cells, Pt.slots] at X2 l2 y2 z2 st2 hQ2
  subst l2 y2 z2
  obtain ⟨rfl, N2q, e2⟩ := hQ2
  have N2 := Fr.app N0 N2q
  obtain ⟨T3, X3, e3, st3⟩ := getF X2 hx hZ hown (host := "") (Or.inl (wd23 hw)) Via.refl e2 r1 (g := (mkF m 19 #[vR a1, vI 0, vI 2, vI 6, .unset] [(.ref a1), (.int (f_minI (4 : Int32) (4096 : Int32)))])) rfl rfl (bb d8_19)
  obtain ⟨T4, X4, e4, st4⟩ := getF X3 hx hZ hown (host := "") (Or.inl (wd21 hw)) Via.refl e3 r3 (g := (mkF m 26 #[vR a1, vI 0, vI 2, vI 6, vI ((f_minI (4 : Int32) (4096 : Int32)) * (2 : Int32))] [(.ref a1)])) rfl rfl (bb d8_26)
  obtain ⟨cl5, Ar5, vq5, vS5, vN5, vH5, vG5⟩ := id r5
  have hin5 : ¬ (((0 : Int32) : Int32) < 0 ∨ cl5.slots.size ≤ ((0 : Int32) : Int32).toNatClampNeg) := inb_of vS5 ⟨by decide, by decide⟩
  obtain ⟨T6, X6, e6, st6⟩ := getF X4 hx hZ hown (host := "") (Or.inl (wd17 hw)) Via.refl e4 r2 (g := (mkF m 66 #[vR a1, vI 0, vI 2, vI 6, vI ((f_minI (4 : Int32) (4096 : Int32)) * (2 : Int32))] [(.ref a1)])) rfl rfl (bb d8_66)
  obtain ⟨cl7, Ar7, vq7, vS7, vN7, vH7, vG7⟩ := id r4
  have hin7 : ¬ (((0 : Int32) : Int32) < 0 ∨ cl7.slots.size ≤ ((0 : Int32) : Int32).toNatClampNeg) := inb_of vS7 ⟨by decide, by decide⟩
  obtain ⟨T8, X8, e8, st8⟩ := getF X6 hx hZ hown (host := "") (Or.inl (wd17 hw)) Via.refl e6 r2 (g := (mkF m 76 #[vR a1, vI 0, vI 2, vI 6, vI ((f_minI (4 : Int32) (4096 : Int32)) * (2 : Int32))] [(.ref a1), (.int 6)])) rfl rfl (bb d8_76)
  obtain ⟨cl9, Ar9, vq9, vS9, vN9, vH9, vG9⟩ := id r4
  have hin9 : ¬ (((0 : Int32) : Int32) < 0 ∨ cl9.slots.size ≤ ((0 : Int32) : Int32).toNatClampNeg) := inb_of vS9 ⟨by decide, by decide⟩
  obtain ⟨cl10, Ar10, vq10, vS10, vN10, vH10, vG10⟩ := id r6
  obtain ⟨fs, hr, hrun, hended, hW, hsame⟩ := X8.leave (v := none) (fun _ => rfl)
  refine ⟨_, _, pre0 _ ?_, hrun, hended, _, _, rfl, ?_, ⟨_, rfl⟩, hW, hsame.mono (by decide) (by decide)⟩
  · show GG p e below s₁ (mkF m 0 #[vR a1, vI 0, vI 2, .unset, .unset] []) _
    refine XS.iloadN X0.here hx rfl (bb d8_0) rfl ?_
    refine XS.iconst X0.here hx rfl (bb d8_1) ?_
    refine XS.iadd X0.here hx rfl (bb d8_2) rfl ?_
    refine XS.aloadN X0.here hx rfl (bb d8_3) rfl rfl ?_
    show GG p e below s₁ (mkF m 4 #[vR a1, vI 0, vI 2, .unset, .unset] [(.ref a1), (.int 3)]) _
    refine st1 _ ?_
    show GG p e below T1 (mkF m 7 #[vR a1, vI 0, vI 2, .unset, .unset] [(.int 2), (.int 3)]) _
    refine XS.imul X1.here hx rfl (bb d8_7) rfl ?_
    refine XS.istoreN X1.here hx rfl (bb d8_8) rfl (l' := #[vR a1, vI 0, vI 2, vI 6, .unset]) rfl ?_
    show GG p e below T1 (mkF m 9 #[vR a1, vI 0, vI 2, vI 6, .unset] []) _
    refine XS.iconst X1.here hx rfl (bb d8_9) ?_
    refine XS.iloadN X1.here hx rfl (bb d8_10) rfl ?_
    refine XS.imul X1.here hx rfl (bb d8_11) rfl ?_
    refine XS.sipush X1.here hx rfl (bb d8_12) ?_
    show GG p e below T1 (mkF m 15 #[vR a1, vI 0, vI 2, vI 6, .unset] [(.int 4096), (.int 4)]) _
    refine st2 _ ?_
    show GG p e below T2 (mkF m 18 #[vR a1, vI 0, vI 2, vI 6, .unset] [(.int (f_minI (4 : Int32) (4096 : Int32)))]) _
    refine XS.aloadN X2.here hx rfl (bb d8_18) rfl rfl ?_
    refine st3 _ ?_
    show GG p e below T3 (mkF m 22 #[vR a1, vI 0, vI 2, vI 6, .unset] [(.int 2), (.int (f_minI (4 : Int32) (4096 : Int32)))]) _
    refine XS.imul X3.here hx rfl (bb d8_22) rfl ?_
    refine XS.istore X3.here hx rfl (bb d8_23) rfl (l' := #[vR a1, vI 0, vI 2, vI 6, vI ((f_minI (4 : Int32) (4096 : Int32)) * (2 : Int32))]) rfl ?_
    show GG p e below T3 (mkF m 25 #[vR a1, vI 0, vI 2, vI 6, vI ((f_minI (4 : Int32) (4096 : Int32)) * (2 : Int32))] []) _
    refine XS.aloadN X3.here hx rfl (bb d8_25) rfl rfl ?_
    refine st4 _ ?_
    show GG p e below T4 (mkF m 29 #[vR a1, vI 0, vI 2, vI 6, vI ((f_minI (4 : Int32) (4096 : Int32)) * (2 : Int32))] [(.ref on)]) _
    refine XS.iloadN X4.here hx rfl (bb d8_29) rfl ?_
    refine X4.aaload hx (j := (0 : Int32)) (v := .null) (by rw [e4]; exact Ar5.1) (State.isArrayOf_alike hZ.alike Ar5.2.1) rfl Ar5.2.2 hin5 (vH5.at hin5 rfl) (g := (mkF m 30 #[vR a1, vI 0, vI 2, vI 6, vI ((f_minI (4 : Int32) (4096 : Int32)) * (2 : Int32))] [(.int 0), (.ref on)])) rfl rfl (bb d8_30) _ ?_
    show GG p e below T4 (mkF m 31 #[vR a1, vI 0, vI 2, vI 6, vI ((f_minI (4 : Int32) (4096 : Int32)) * (2 : Int32))] [.null]) _
    refine XS.ifnullYes X4.here hx rfl (pc0 := 31) (pc' := 65) rfl (bb d8_31) rfl (by decide) (by decide) ?_
    show GG p e below T4 (mkF m 65 #[vR a1, vI 0, vI 2, vI 6, vI ((f_minI (4 : Int32) (4096 : Int32)) * (2 : Int32))] []) _
    refine XS.aloadN X4.here hx rfl (bb d8_65) rfl rfl ?_
    refine st6 _ ?_
    show GG p e below T6 (mkF m 69 #[vR a1, vI 0, vI 2, vI 6, vI ((f_minI (4 : Int32) (4096 : Int32)) * (2 : Int32))] [(.ref ow)]) _
    refine XS.iloadN X6.here hx rfl (bb d8_69) rfl ?_
    refine X6.aaload hx (j := (0 : Int32)) (v := (.ref oz)) (by rw [e6]; exact Ar7.1) (State.isArrayOf_alike hZ.alike Ar7.2.1) rfl Ar7.2.2 hin7 (vH7.at hin7 rfl) (g := (mkF m 70 #[vR a1, vI 0, vI 2, vI 6, vI ((f_minI (4 : Int32) (4096 : Int32)) * (2 : Int32))] [(.int 0), (.ref ow)])) rfl rfl (bb d8_70) _ ?_
    show GG p e below T6 (mkF m 71 #[vR a1, vI 0, vI 2, vI 6, vI ((f_minI (4 : Int32) (4096 : Int32)) * (2 : Int32))] [(.ref oz)]) _
    refine XS.ifnullNo X6.here hx rfl (bb d8_71) rfl ?_
    show GG p e below T6 (mkF m 74 #[vR a1, vI 0, vI 2, vI 6, vI ((f_minI (4 : Int32) (4096 : Int32)) * (2 : Int32))] []) _
    refine XS.iloadN X6.here hx rfl (bb d8_74) rfl ?_
    refine XS.aloadN X6.here hx rfl (bb d8_75) rfl rfl ?_
    refine st8 _ ?_
    show GG p e below T8 (mkF m 79 #[vR a1, vI 0, vI 2, vI 6, vI ((f_minI (4 : Int32) (4096 : Int32)) * (2 : Int32))] [(.ref ow), (.int 6)]) _
    refine XS.iloadN X8.here hx rfl (bb d8_79) rfl ?_
    refine X8.aaload hx (j := (0 : Int32)) (v := (.ref oz)) (by rw [e8]; exact Ar9.1) (State.isArrayOf_alike hZ.alike Ar9.2.1) rfl Ar9.2.2 hin9 (vH9.at hin9 rfl) (g := (mkF m 80 #[vR a1, vI 0, vI 2, vI 6, vI ((f_minI (4 : Int32) (4096 : Int32)) * (2 : Int32))] [(.int 0), (.ref ow), (.int 6)])) rfl rfl (bb d8_80) _ ?_
    show GG p e below T8 (mkF m 81 #[vR a1, vI 0, vI 2, vI 6, vI ((f_minI (4 : Int32) (4096 : Int32)) * (2 : Int32))] [(.ref oz), (.int 6)]) _
    refine X8.arraylength hx (by rw [e8]; exact Ar10.1) (State.isArrayOf_alike hZ.alike Ar10.2.1) (g := (mkF m 81 #[vR a1, vI 0, vI 2, vI 6, vI ((f_minI (4 : Int32) (4096 : Int32)) * (2 : Int32))] [(.ref oz), (.int 6)])) rfl rfl (bb d8_81) _ ?_
    rw [len_of vS10 vN10]
    show GG p e below T8 (mkF m 82 #[vR a1, vI 0, vI 2, vI 6, vI ((f_minI (4 : Int32) (4096 : Int32)) * (2 : Int32))] [(.int 16), (.int 6)]) _
    refine XS.icmpYes X8.here hx rfl (pc0 := 82) (pc' := 102) rfl (bb d8_82) rfl (flt (by decide : ¬ ((16 : Int32) < (6 : Int32)))).2.2.2 (by decide) (by decide) ?_
    show GG p e below T8 (mkF m 102 #[vR a1, vI 0, vI 2, vI 6, vI ((f_minI (4 : Int32) (4096 : Int32)) * (2 : Int32))] []) _
    exact X8.returnOut hx Bd.returns (bb d8_102) hr
  · exact ⟨rfl, N2, e8⟩
def Q_fit2_0 (Z : State) (a1 at_ ow on ob ol oh ov : Addr) (kw_ kn_ kb_ kl_ kh_ kv_ : ClassId) (eb0 eb1 el0 el1 eu0 eu1 ex0 ex1 ex2 ex3 ex4 ex5 ex6 ex7 ex8 ex9 ex10 ex11 ex12 ex13 ex14 ex15 : Int32) (kt_ : ClassId) (et0 et1 : Int32) (h0 : Heap) (n0 : Nat) (v : Option Value) (h : Heap) (L : List Loc) : Prop := v = none ∧ Fr n0 L ∧ Keep h0 h [ol, oh] ∧ Arv Z h ol kl_ .int (2 : Int32) [(.int et0), (.int et1)] (.int 0) ∧ Arv Z h oh kh_ .int (2 : Int32) [(.int et0), (.int et1)] (.int 0)
set_option maxRecDepth 65536 in
set_option maxHeartbeats 40000000 in
theorem rm_fit2_0 (l : Launch) (Z : State) (a0 : Array Value) (hw : ∀ d ∈ tables_1, d.before a0 Z = true) (ws : List Jvm.Cond) (a1 at_ ow on ob ol oh ov : Addr) (kw_ kn_ kb_ kl_ kh_ kv_ : ClassId) (eb0 eb1 el0 el1 eu0 eu1 ex0 ex1 ex2 ex3 ex4 ex5 ex6 ex7 ex8 ex9 ex10 ex11 ex12 ex13 ex14 ex15 : Int32) (kt_ : ClassId) (et0 et1 : Int32) (h0 : Heap) (n0 : Nat) (Z0 : n0 ≤ h0.size) (O0 : Old Z n0 h0) (S_CS : Sta Z Z.heap cRV "CHUNK_SHIFT" "I" (.int (12 : Int32))) (r0 : Exa Z h0 a1 cRV) (r1 : Fld Z h0 a1 cRV "arity" "I" (.int 2)) (r2 : Fld Z h0 a1 cRV "rows" "I" (.int 0)) (r3 : Fld Z h0 a1 cRV "wide" "[[I" (.ref ow)) (r4 : Fld Z h0 a1 cRV "narrow" "[[C" (.ref on)) (r5 : Fld Z h0 a1 cRV "bases" "[I" (.ref ob)) (r6 : Fld Z h0 a1 cRV "lowest" "[I" (.ref ol)) (r7 : Fld Z h0 a1 cRV "highest" "[I" (.ref oh)) (r8 : Arv Z h0 ow kw_ (.array .int) (1 : Int32) [.null] .null) (r9 : OvrA Z kw_ .int "[I") (r10 : Arv Z h0 on kn_ (.array .char) (1 : Int32) [(.ref ov)] .null) (r11 : OvrA Z kn_ .char "[C") (r12 : Arv Z h0 ob kb_ .int (2 : Int32) [(.int (f_base et0 et0)), (.int (f_base et1 et1))] (.int 0)) (r13 : Arv Z h0 ol kl_ .int (2 : Int32) [(.int et0), (.int et1)] (.int 0)) (r14 : Arv Z h0 oh kh_ .int (2 : Int32) [(.int et0), (.int et1)] (.int 0)) (r15 : Arv Z h0 ov kv_ .char (16 : Int32) [(.int ex0), (.int ex1), (.int ex2), (.int ex3), (.int ex4), (.int ex5), (.int ex6), (.int ex7), (.int ex8), (.int ex9), (.int ex10), (.int ex11), (.int ex12), (.int ex13), (.int ex14), (.int ex15)] (.int 0)) (r16 : Arv Z h0 at_ kt_ .int (2 : Int32) [(.int et0), (.int et1)] (.int 0)) (g_ol : n0 ≤ ol) (g_oh : n0 ≤ oh) (ne_a1_ow : a1 ≠ ow) (ne_a1_on : a1 ≠ on) (ne_a1_ob : a1 ≠ ob) (ne_a1_ol : a1 ≠ ol) (ne_a1_oh : a1 ≠ oh) (ne_a1_ov : a1 ≠ ov) (ne_ow_on : ow ≠ on) (ne_ow_ob : ow ≠ ob) (ne_ow_ol : ow ≠ ol) (ne_ow_oh : ow ≠ oh) (ne_ow_ov : ow ≠ ov) (ne_on_ob : on ≠ ob) (ne_on_ol : on ≠ ol) (ne_on_oh : on ≠ oh) (ne_on_ov : on ≠ ov) (ne_ob_ol : ob ≠ ol) (ne_ob_oh : ob ≠ oh) (ne_ob_ov : ob ≠ ov) (ne_ol_oh : ol ≠ oh) (ne_ol_ov : ol ≠ ov) (ne_oh_ov : oh ≠ ov) (ne_at__a1 : at_ ≠ a1) (ne_at__ow : at_ ≠ ow) (ne_at__on : at_ ≠ on) (ne_at__ob : at_ ≠ ob) (ne_at__ol : at_ ≠ ol) (ne_at__oh : at_ ≠ oh) (ne_at__ov : at_ ≠ ov) :
    MetFree l (⟨cRV, "fit", "(II[I)V"⟩ : MethodName) (head1 (Jvm.Cond.code (⟨cRV, "fit", "(II[I)V"⟩ : MethodName) prog_47_method_7_code 11 none :: ws) ({ frames := 1, cells := 0, slots := 0, locals := 15 } : Room)) (fun a U => a = #[(.ref a1), (.int 0), (.int 0), (.ref at_)] ∧ Z.Warmed39 U.vm ∧ U.heap = h0) (fun _ _ _ _ _ => True) (fun _ U o U' => ∃ v L, o = .returned v ∧ Q_fit2_0 Z a1 at_ ow on ob ol oh ov kw_ kn_ kb_ kl_ kh_ kv_ eb0 eb1 el0 el1 eu0 eu1 ex0 ex1 ex2 ex3 ex4 ex5 ex6 ex7 ex8 ex9 ex10 ex11 ex12 ex13 ex14 ex15 kt_ et0 et1 h0 n0 v U'.heap L ∧ FrameEnd U o U' L ({ frames := 1, cells := 0, slots := 0, locals := 15 } : Room).cells ({ frames := 1, cells := 0, slots := 0, locals := 15 } : Room).slots) := by
  refine MetFree.of_bodySF (plainFor_of_name pn_RowValues) hisR ?_
  intro p e s m args below meth c s₁ Bd hml0 hP hK
  obtain ⟨rfl, hZ, hh⟩ := hP
  have hx := Bd.exec
  have hby := Bd.bytes
  have bb := fun {pc : Nat} {r : Except DecodeError (Instr × Nat)} (h : decode prog_47_method_7_code pc = r) => hb hby h
  have hml : c.maxLocals = 11 := hml0
  have hown : s.vm.findClass cRV = some m.cls := findClass_of_methodNamed Bd.named
  have hnm := (name_of_methodNamed Bd.named Bd.method).1
  have X0 : Stand p l e ({ frames := 1, cells := 0, slots := 0, locals := 15 } : Room) s m #[(.ref a1), (.int 0), (.int 0), (.ref at_)] below meth c s₁ [] 0 0 := Stand.of_body Bd
  have e0 : s₁.heap = h0 := by rw [← hh, Bd.state]; rfl
  have N0 := Fr.nil n0
  have pre0 : ∀ t, Steps p.tables e below (s₁.setTop (mkF m 0 #[vR a1, vI 0, vI 0, vR at_, .unset, .unset, .unset, .unset, .unset, .unset, .unset] [])) t → Steps p.tables e below (s₁.setTop (entryFrame m #[(.ref a1), (.int 0), (.int 0), (.ref at_)] 11)) t := fun t k => castTop (ef_fit2_0 m a1 at_) k
  obtain ⟨T1, X1, e1, st1⟩ := getF X0 hx hZ hown (host := "") (Or.inl (wd23 hw)) Via.refl e0 r1 (g := (mkF m 6 #[vR a1, vI 0, vI 0, vR at_, vI 0, .unset, .unset, .unset, .unset, .unset, .unset] [(.ref a1), (.int 0)])) rfl rfl (bb d10_6)
  obtain ⟨cl2, Ar2, vq2, vS2, vN2, vH2, vG2⟩ := id r16
  have hin2 : ¬ (((0 : Int32) : Int32) < 0 ∨ cl2.slots.size ≤ ((0 : Int32) : Int32).toNatClampNeg) := inb_of vS2 ⟨by decide, by decide⟩
  obtain ⟨T3, X3, e3, st3⟩ := getF X1 hx hZ hown (host := "") (Or.inl (wd29 hw)) Via.refl e1 r7 (g := (mkF m 17 #[vR a1, vI 0, vI 0, vR at_, vI 0, .unset, .unset, .unset, .unset, .unset, .unset] [(.ref a1), (.int et0)])) rfl rfl (bb d10_17)
  obtain ⟨cl4, Ar4, vq4, vS4, vN4, vH4, vG4⟩ := id r14
  have hin4 : ¬ (((0 : Int32) : Int32) < 0 ∨ cl4.slots.size ≤ ((0 : Int32) : Int32).toNatClampNeg) := inb_of vS4 ⟨by decide, by decide⟩
  obtain ⟨_, _, ⟨T5, L5, k5, n5⟩, -, X5, ⟨Lc5, hQ5, l5, y5, z5⟩, st5⟩ := Jvm.LawKit.callS X3 hx (y := (⟨"java/lang/Math", "max", "(II)I"⟩ : MethodName)) hown (mvT hZ (wd71 hw)) (mvT hZ (wd72 hw)) (mvT hZ (wd54 hw)) (mvT hZ (wd73 hw)) (by decide) (backOf (W := 0) (rm_maxI l Z a0 hw [] et0 et0 h0 n0 (own_z0 O0) O0 S_CS) hZ (wd73 hw) (wd54 hw) (by decide) (by decide)) (g := (mkF m 23 #[vR a1, vI 0, vI 0, vR at_, vI 0, .unset, .unset, .unset, .unset, .unset, .unset] [(.int et0), (.int et0)])) rfl (by rw [hml]; rfl) (argsL := [(.int et0), (.int et0)]) (rest := []) (lenOf pd__II_I_5 rfl) rfl (by show 2 * 0 + _ ≤ _; exact Nat.le_of_eq rfl) (bb d10_23) (fun _ _ => ⟨rfl, e3, (by decide : 0 + 0 ≤ _), (by decide : 0 + 0 ≤ _)⟩)
  dsimp only [Pt.U, Pt.locs, Pt.cells, Pt.slots] at X5 l5 y5 z5 st5 hQ5
  subst l5 y5 z5
  obtain ⟨rfl, N5q, e5⟩ := hQ5
  have N5 := Fr.app N0 N5q
  obtain ⟨cl6, Ar6, vq6, vS6, vN6, vH6, vG6⟩ := id r16
  have hin6 : ¬ (((0 : Int32) : Int32) < 0 ∨ cl6.slots.size ≤ ((0 : Int32) : Int32).toNatClampNeg) := inb_of vS6 ⟨by decide, by decide⟩
  obtain ⟨T7, X7, e7, st7⟩ := getF X5 hx hZ hown (host := "") (Or.inl (wd27 hw)) Via.refl e5 r6 (g := (mkF m 32 #[vR a1, vI 0, vI 0, vR at_, vI 0, .unset, .unset, .unset, .unset, .unset, .unset] [(.ref a1), (.int et0), (.long ((f_maxI et0 et0).toInt64))])) rfl rfl (bb d10_32)
  obtain ⟨cl8, Ar8, vq8, vS8, vN8, vH8, vG8⟩ := id r13
  have hin8 : ¬ (((0 : Int32) : Int32) < 0 ∨ cl8.slots.size ≤ ((0 : Int32) : Int32).toNatClampNeg) := inb_of vS8 ⟨by decide, by decide⟩
  obtain ⟨_, _, ⟨T9, L9, k9, n9⟩, -, X9, ⟨Lc9, hQ9, l9, y9, z9⟩, st9⟩ := Jvm.LawKit.callS X7 hx (y := (⟨"java/lang/Math", "min", "(II)I"⟩ : MethodName)) hown (mvT hZ (wd64 hw)) (mvT hZ (wd65 hw)) (mvT hZ (wd54 hw)) (mvT hZ (wd66 hw)) (by decide) (backOf (W := 2) (rm_minI l Z a0 hw [] et0 et0 h0 n0 (own_z0 O0) O0 S_CS) hZ (wd66 hw) (wd54 hw) (by decide) (by decide)) (g := (mkF m 38 #[vR a1, vI 0, vI 0, vR at_, vI 0, .unset, .unset, .unset, .unset, .unset, .unset] [(.int et0), (.int et0), (.long ((f_maxI et0 et0).toInt64))])) rfl (by rw [hml]; rfl) (argsL := [(.int et0), (.int et0)]) (rest := [(.long ((f_maxI et0 et0).toInt64))]) (lenOf pd__II_I_5 rfl) rfl (by show 2 * 0 + _ ≤ _; exact Nat.le_of_eq rfl) (bb d10_38) (fun _ _ => ⟨rfl, e7, (by decide : 0 + 0 ≤ _), (by decide : 0 + 0 ≤ _)⟩)
  dsimp only [Pt.U, Pt.locs, Pt.cells, Pt.slots] at X9 l9 y9 z9 st9 hQ9
  subst l9 y9 z9
  obtain ⟨rfl, N9q, e9⟩ := hQ9
  have N9 := Fr.app N5 N9q
  obtain ⟨T10, X10, e10, st10⟩ := getF X9 hx hZ hown (host := "") (Or.inl (wd23 hw)) Via.refl e9 r1 (g := (mkF m 6 #[vR a1, vI 0, vI 0, vR at_, vI 1, vJ (((f_maxI et0 et0).toInt64) - ((f_minI et0 et0).toInt64)), .second, .unset, .unset, .unset, .unset] [(.ref a1), (.int 1)])) rfl rfl (bb d10_6)
  obtain ⟨cl11, Ar11, vq11, vS11, vN11, vH11, vG11⟩ := id r16
  have hin11 : ¬ (((1 : Int32) : Int32) < 0 ∨ cl11.slots.size ≤ ((1 : Int32) : Int32).toNatClampNeg) := inb_of vS11 ⟨by decide, by decide⟩
  obtain ⟨T12, X12, e12, st12⟩ := getF X10 hx hZ hown (host := "") (Or.inl (wd29 hw)) Via.refl e10 r7 (g := (mkF m 17 #[vR a1, vI 0, vI 0, vR at_, vI 1, vJ (((f_maxI et0 et0).toInt64) - ((f_minI et0 et0).toInt64)), .second, .unset, .unset, .unset, .unset] [(.ref a1), (.int et1)])) rfl rfl (bb d10_17)
  obtain ⟨cl13, Ar13, vq13, vS13, vN13, vH13, vG13⟩ := id r14
  have hin13 : ¬ (((1 : Int32) : Int32) < 0 ∨ cl13.slots.size ≤ ((1 : Int32) : Int32).toNatClampNeg) := inb_of vS13 ⟨by decide, by decide⟩
  obtain ⟨_, _, ⟨T14, L14, k14, n14⟩, -, X14, ⟨Lc14, hQ14, l14, y14, z14⟩, st14⟩ := Jvm.LawKit.callS X12 hx (y := (⟨"java/lang/Math", "max", "(II)I"⟩ : MethodName)) hown (mvT hZ (wd71 hw)) (mvT hZ (wd72 hw)) (mvT hZ (wd54 hw)) (mvT hZ (wd73 hw)) (by decide) (backOf (W := 0) (rm_maxI l Z a0 hw [] et1 et1 h0 n0 (own_z0 O0) O0 S_CS) hZ (wd73 hw) (wd54 hw) (by decide) (by decide)) (g := (mkF m 23 #[vR a1, vI 0, vI 0, vR at_, vI 1, vJ (((f_maxI et0 et0).toInt64) - ((f_minI et0 et0).toInt64)), .second, .unset, .unset, .unset, .unset] [(.int et1), (.int et1)])) rfl (by rw [hml]; rfl) (argsL := [(.int et1), (.int et1)]) (rest := []) (lenOf pd__II_I_5 rfl) rfl (by show 2 * 0 + _ ≤ _; exact Nat.le_of_eq rfl) (bb d10_23) (fun _ _ => ⟨rfl, e12, (by decide : 0 + 0 ≤ _), (by decide : 0 + 0 ≤ _)⟩)
  dsimp only [Pt.U, Pt.locs, Pt.cells, Pt.slots] at X14 l14 y14 z14 st14 hQ14
  subst l14 y14 z14
  obtain ⟨rfl, N14q, e14⟩ := hQ14
  have N14 := Fr.app N9 N14q
  obtain ⟨cl15, Ar15, vq15, vS15, vN15, vH15, vG15⟩ := id r16
  have hin15 : ¬ (((1 : Int32) : Int32) < 0 ∨ cl15.slots.size ≤ ((1 : Int32) : Int32).toNatClampNeg) := inb_of vS15 ⟨by decide, by decide⟩
  obtain ⟨T16, X16, e16, st16⟩ := getF X14 hx hZ hown (host := "") (Or.inl (wd27 hw)) Via.refl e14 r6 (g := (mkF m 32 #[vR a1, vI 0, vI 0, vR at_, vI 1, vJ (((f_maxI et0 et0).toInt64) - ((f_minI et0 et0).toInt64)), .second, .unset, .unset, .unset, .unset] [(.ref a1), (.int et1), (.long ((f_maxI et1 et1).toInt64))])) rfl rfl (bb d10_32)
  obtain ⟨cl17, Ar17, vq17, vS17, vN17, vH17, vG17⟩ := id r13
  have hin17 : ¬ (((1 : Int32) : Int32) < 0 ∨ cl17.slots.size ≤ ((1 : Int32) : Int32).toNatClampNeg) := inb_of vS17 ⟨by decide, by decide⟩
  obtain ⟨_, _, ⟨T18, L18, k18, n18⟩, -, X18, ⟨Lc18, hQ18, l18, y18, z18⟩, st18⟩ := Jvm.LawKit.callS X16 hx (y := (⟨"java/lang/Math", "min", "(II)I"⟩ : MethodName)) hown (mvT hZ (wd64 hw)) (mvT hZ (wd65 hw)) (mvT hZ (wd54 hw)) (mvT hZ (wd66 hw)) (by decide) (backOf (W := 2) (rm_minI l Z a0 hw [] et1 et1 h0 n0 (own_z0 O0) O0 S_CS) hZ (wd66 hw) (wd54 hw) (by decide) (by decide)) (g := (mkF m 38 #[vR a1, vI 0, vI 0, vR at_, vI 1, vJ (((f_maxI et0 et0).toInt64) - ((f_minI et0 et0).toInt64)), .second, .unset, .unset, .unset, .unset] [(.int et1), (.int et1), (.long ((f_maxI et1 et1).toInt64))])) rfl (by rw [hml]; rfl) (argsL := [(.int et1), (.int et1)]) (rest := [(.long ((f_maxI et1 et1).toInt64))]) (lenOf pd__II_I_5 rfl) rfl (by show 2 * 0 + _ ≤ _; exact Nat.le_of_eq rfl) (bb d10_38) (fun _ _ => ⟨rfl, e16, (by decide : 0 + 0 ≤ _), (by decide : 0 + 0 ≤ _)⟩)
  dsimp only [Pt.U, Pt.locs, Pt.cells, Pt.slots] at X18 l18 y18 z18 st18 hQ18
  subst l18 y18 z18
  obtain ⟨rfl, N18q, e18⟩ := hQ18
  have N18 := Fr.app N14 N18q
  obtain ⟨T19, X19, e19, st19⟩ := getF X18 hx hZ hown (host := "") (Or.inl (wd23 hw)) Via.refl e18 r1 (g := (mkF m 6 #[vR a1, vI 0, vI 0, vR at_, vI 2, vJ (((f_maxI et1 et1).toInt64) - ((f_minI et1 et1).toInt64)), .second, .unset, .unset, .unset, .unset] [(.ref a1), (.int 2)])) rfl rfl (bb d10_6)
  obtain ⟨T20, X20, e20, st20⟩ := getF X19 hx hZ hown (host := "") (Or.inl (wd23 hw)) Via.refl e19 r1 (g := (mkF m 73 #[vR a1, vI 0, vI 0, vR at_, vI 0, vJ (((f_maxI et1 et1).toInt64) - ((f_minI et1 et1).toInt64)), .second, .unset, .unset, .unset, .unset] [(.ref a1), (.int 0)])) rfl rfl (bb d10_73)
  obtain ⟨T21, X21, e21, st21⟩ := getF X20 hx hZ hown (host := "") (Or.inl (wd27 hw)) Via.refl e20 r6 (g := (mkF m 80 #[vR a1, vI 0, vI 0, vR at_, vI 0, vJ (((f_maxI et1 et1).toInt64) - ((f_minI et1 et1).toInt64)), .second, .unset, .unset, .unset, .unset] [(.ref a1)])) rfl rfl (bb d10_80)
  obtain ⟨cl22, Ar22, vq22, vS22, vN22, vH22, vG22⟩ := id r16
  have hin22 : ¬ (((0 : Int32) : Int32) < 0 ∨ cl22.slots.size ≤ ((0 : Int32) : Int32).toNatClampNeg) := inb_of vS22 ⟨by decide, by decide⟩
  obtain ⟨T23, X23, e23, st23⟩ := getF X21 hx hZ hown (host := "") (Or.inl (wd27 hw)) Via.refl e21 r6 (g := (mkF m 90 #[vR a1, vI 0, vI 0, vR at_, vI 0, vJ (((f_maxI et1 et1).toInt64) - ((f_minI et1 et1).toInt64)), .second, .unset, .unset, .unset, .unset] [(.ref a1), (.int et0), (.int 0), (.ref ol)])) rfl rfl (bb d10_90)
  obtain ⟨cl24, Ar24, vq24, vS24, vN24, vH24, vG24⟩ := id r13
  have hin24 : ¬ (((0 : Int32) : Int32) < 0 ∨ cl24.slots.size ≤ ((0 : Int32) : Int32).toNatClampNeg) := inb_of vS24 ⟨by decide, by decide⟩
  obtain ⟨_, _, ⟨T25, L25, k25, n25⟩, -, X25, ⟨Lc25, hQ25, l25, y25, z25⟩, st25⟩ := Jvm.LawKit.callS X23 hx (y := (⟨"java/lang/Math", "min", "(II)I"⟩ : MethodName)) hown (mvT hZ (wd64 hw)) (mvT hZ (wd65 hw)) (mvT hZ (wd54 hw)) (mvT hZ (wd66 hw)) (by decide) (backOf (W := 2) (rm_minI l Z a0 hw [] et0 et0 h0 n0 (own_z0 O0) O0 S_CS) hZ (wd66 hw) (wd54 hw) (by decide) (by decide)) (g := (mkF m 96 #[vR a1, vI 0, vI 0, vR at_, vI 0, vJ (((f_maxI et1 et1).toInt64) - ((f_minI et1 et1).toInt64)), .second, .unset, .unset, .unset, .unset] [(.int et0), (.int et0), (.int 0), (.ref ol)])) rfl (by rw [hml]; rfl) (argsL := [(.int et0), (.int et0)]) (rest := [(.int 0), (.ref ol)]) (lenOf pd__II_I_5 rfl) rfl (by show 2 * 0 + _ ≤ _; exact Nat.le_of_eq rfl) (bb d10_96) (fun _ _ => ⟨rfl, e23, (by decide : 0 + 0 ≤ _), (by decide : 0 + 0 ≤ _)⟩)
  dsimp only [Pt.U, Pt.locs, Pt.cells, Pt.slots] at X25 l25 y25 z25 st25 hQ25
  subst l25 y25 z25
  obtain ⟨rfl, N25q, e25⟩ := hQ25
  have N25 := Fr.app N18 N25q
  obtain ⟨cl26, Ar26, vq26, vS26, vN26, vH26, vG26⟩ := id r13
  have hin26 : ¬ (((0 : Int32) : Int32) < 0 ∨ cl26.slots.size ≤ ((0 : Int32) : Int32).toNatClampNeg) := inb_of vS26 ⟨by decide, by decide⟩
  obtain ⟨T26, h26, X26, e26, W26, st26⟩ := stI X25 hx hZ e25 Ar26 (j := (0 : Int32)) hin26 (g := (mkF m 99 #[vR a1, vI 0, vI 0, vR at_, vI 0, vJ (((f_maxI et1 et1).toInt64) - ((f_minI et1 et1).toInt64)), .second, .unset, .unset, .unset, .unset] [(.int (f_minI et0 et0)), (.int 0), (.ref ol)])) rfl rfl (bb d10_99)
  have V26 : Arv Z h26 ol kl_ .int (2 : Int32) [(.int (f_minI et0 et0)), (.int et1)] (.int 0) := Arv.set Ar26 vq26 vS26 vN26 vH26 vG26 rfl W26 0 rfl (Nat.le_of_ble_eq_true rfl)
  have N26 := Fr.snoc X26 N25 g_ol
  have F28 := (r7.other W26 (Or.inl ne_a1_ol))
  obtain ⟨T27, X27, e27, st27⟩ := getF X26 hx hZ hown (host := "") (Or.inl (wd29 hw)) Via.refl e26 F28 (g := (mkF m 101 #[vR a1, vI 0, vI 0, vR at_, vI 0, vJ (((f_maxI et1 et1).toInt64) - ((f_minI et1 et1).toInt64)), .second, .unset, .unset, .unset, .unset] [(.ref a1)])) rfl rfl (bb d10_101)
  have F29 := (r16.other W26 ne_at__ol)
  obtain ⟨cl30, Ar30, vq30, vS30, vN30, vH30, vG30⟩ := id F29
  have hin30 : ¬ (((0 : Int32) : Int32) < 0 ∨ cl30.slots.size ≤ ((0 : Int32) : Int32).toNatClampNeg) := inb_of vS30 ⟨by decide, by decide⟩
  obtain ⟨T31, X31, e31, st31⟩ := getF X27 hx hZ hown (host := "") (Or.inl (wd29 hw)) Via.refl e27 F28 (g := (mkF m 111 #[vR a1, vI 0, vI 0, vR at_, vI 0, vJ (((f_maxI et1 et1).toInt64) - ((f_minI et1 et1).toInt64)), .second, .unset, .unset, .unset, .unset] [(.ref a1), (.int et0), (.int 0), (.ref oh)])) rfl rfl (bb d10_111)
  have F32 := (r14.other W26 (Ne.symm ne_ol_oh))
  obtain ⟨cl33, Ar33, vq33, vS33, vN33, vH33, vG33⟩ := id F32
  have hin33 : ¬ (((0 : Int32) : Int32) < 0 ∨ cl33.slots.size ≤ ((0 : Int32) : Int32).toNatClampNeg) := inb_of vS33 ⟨by decide, by decide⟩
  have O35 := (O0.wr W26 g_ol)
  obtain ⟨_, _, ⟨T34, L34, k34, n34⟩, -, X34, ⟨Lc34, hQ34, l34, y34, z34⟩, st34⟩ := Jvm.LawKit.callS X31 hx (y := (⟨"java/lang/Math", "max", "(II)I"⟩ : MethodName)) hown (mvT hZ (wd71 hw)) (mvT hZ (wd72 hw)) (mvT hZ (wd54 hw)) (mvT hZ (wd73 hw)) (by decide) (backOf (W := 2) (rm_maxI l Z a0 hw [] et0 et0 h26 n0 (own_z0 O35) O35 S_CS) hZ (wd73 hw) (wd54 hw) (by decide) (by decide)) (g := (mkF m 117 #[vR a1, vI 0, vI 0, vR at_, vI 0, vJ (((f_maxI et1 et1).toInt64) - ((f_minI et1 et1).toInt64)), .second, .unset, .unset, .unset, .unset] [(.int et0), (.int et0), (.int 0), (.ref oh)])) rfl (by rw [hml]; rfl) (argsL := [(.int et0), (.int et0)]) (rest := [(.int 0), (.ref oh)]) (lenOf pd__II_I_5 rfl) rfl (by show 2 * 0 + _ ≤ _; exact Nat.le_of_eq rfl) (bb d10_117) (fun _ _ => ⟨rfl, e31, (by decide : 0 + 0 ≤ _), (by decide : 0 + 0 ≤ _)⟩)
  dsimp only [Pt.U, Pt.locs, Pt.cells, Pt.slots] at X34 l34 y34 z34 st34 hQ34
  subst l34 y34 z34
  obtain ⟨rfl, N34q, e34⟩ := hQ34
  have N34 := Fr.app N26 N34q
  obtain ⟨cl36, Ar36, vq36, vS36, vN36, vH36, vG36⟩ := id F32
  have hin36 : ¬ (((0 : Int32) : Int32) < 0 ∨ cl36.slots.size ≤ ((0 : Int32) : Int32).toNatClampNeg) := inb_of vS36 ⟨by decide, by decide⟩
  obtain ⟨T36, h36, X36, e36, W36, st36⟩ := stI X34 hx hZ e34 Ar36 (j := (0 : Int32)) hin36 (g := (mkF m 120 #[vR a1, vI 0, vI 0, vR at_, vI 0, vJ (((f_maxI et1 et1).toInt64) - ((f_minI et1 et1).toInt64)), .second, .unset, .unset, .unset, .unset] [(.int (f_maxI et0 et0)), (.int 0), (.ref oh)])) rfl rfl (bb d10_120)
  have V36 : Arv Z h36 oh kh_ .int (2 : Int32) [(.int (f_maxI et0 et0)), (.int et1)] (.int 0) := Arv.set Ar36 vq36 vS36 vN36 vH36 vG36 rfl W36 0 rfl (Nat.le_of_ble_eq_true rfl)
  have N36 := Fr.snoc X36 N34 g_oh
  have F38 := ((r5.other W26 (Or.inl ne_a1_ol)).other W36 (Or.inl ne_a1_oh))
  obtain ⟨T37, X37, e37, st37⟩ := getF X36 hx hZ hown (host := "") (Or.inl (wd25 hw)) Via.refl e36 F38 (g := (mkF m 122 #[vR a1, vI 0, vI 0, vR at_, vI 0, vJ (((f_maxI et1 et1).toInt64) - ((f_minI et1 et1).toInt64)), .second, .unset, .unset, .unset, .unset] [(.ref a1)])) rfl rfl (bb d10_122)
  have F40 := ((r1.other W26 (Or.inl ne_a1_ol)).other W36 (Or.inl ne_a1_oh))
  obtain ⟨T39, X39, e39, st39⟩ := getF X37 hx hZ hown (host := "") (Or.inl (wd23 hw)) Via.refl e37 F40 (g := (mkF m 127 #[vR a1, vI 0, vI 0, vR at_, vI 0, vJ (((f_maxI et1 et1).toInt64) - ((f_minI et1 et1).toInt64)), .second, .unset, .unset, .unset, .unset] [(.ref a1), (.int 0), (.ref ob)])) rfl rfl (bb d10_127)
  have F41 := ((r12.other W26 ne_ob_ol).other W36 ne_ob_oh)
  obtain ⟨cl42, Ar42, vq42, vS42, vN42, vH42, vG42⟩ := id F41
  have hin42 : ¬ (((0 : Int32) : Int32) < 0 ∨ cl42.slots.size ≤ ((0 : Int32) : Int32).toNatClampNeg) := inb_of vS42 ⟨by decide, by decide⟩
  have F43 := (F29.other W36 ne_at__oh)
  obtain ⟨cl44, Ar44, vq44, vS44, vN44, vH44, vG44⟩ := id F43
  have hin44 : ¬ (((0 : Int32) : Int32) < 0 ∨ cl44.slots.size ≤ ((0 : Int32) : Int32).toNatClampNeg) := inb_of vS44 ⟨by decide, by decide⟩
  obtain ⟨T45, X45, e45, st45⟩ := getF X39 hx hZ hown (host := "") (Or.inl (wd23 hw)) Via.refl e39 F40 (g := (mkF m 73 #[vR a1, vI 0, vI 0, vR at_, vI 1, vI (f_base et0 et0), vJ ((et0.toInt64) - ((f_base et0 et0).toInt64)), .second, .unset, .unset, .unset] [(.ref a1), (.int 1)])) rfl rfl (bb d10_73)
  have F47 := ((r6.other W26 (Or.inl ne_a1_ol)).other W36 (Or.inl ne_a1_oh))
  obtain ⟨T46, X46, e46, st46⟩ := getF X45 hx hZ hown (host := "") (Or.inl (wd27 hw)) Via.refl e45 F47 (g := (mkF m 80 #[vR a1, vI 0, vI 0, vR at_, vI 1, vI (f_base et0 et0), vJ ((et0.toInt64) - ((f_base et0 et0).toInt64)), .second, .unset, .unset, .unset] [(.ref a1)])) rfl rfl (bb d10_80)
  obtain ⟨cl48, Ar48, vq48, vS48, vN48, vH48, vG48⟩ := id F43
  have hin48 : ¬ (((1 : Int32) : Int32) < 0 ∨ cl48.slots.size ≤ ((1 : Int32) : Int32).toNatClampNeg) := inb_of vS48 ⟨by decide, by decide⟩
  obtain ⟨T49, X49, e49, st49⟩ := getF X46 hx hZ hown (host := "") (Or.inl (wd27 hw)) Via.refl e46 F47 (g := (mkF m 90 #[vR a1, vI 0, vI 0, vR at_, vI 1, vI (f_base et0 et0), vJ ((et0.toInt64) - ((f_base et0 et0).toInt64)), .second, .unset, .unset, .unset] [(.ref a1), (.int et1), (.int 1), (.ref ol)])) rfl rfl (bb d10_90)
  have F50 := (V26.other W36 ne_ol_oh)
  obtain ⟨cl51, Ar51, vq51, vS51, vN51, vH51, vG51⟩ := id F50
  have hin51 : ¬ (((1 : Int32) : Int32) < 0 ∨ cl51.slots.size ≤ ((1 : Int32) : Int32).toNatClampNeg) := inb_of vS51 ⟨by decide, by decide⟩
  have O53 := (O35.wr W36 g_oh)
  obtain ⟨_, _, ⟨T52, L52, k52, n52⟩, -, X52, ⟨Lc52, hQ52, l52, y52, z52⟩, st52⟩ := Jvm.LawKit.callS X49 hx (y := (⟨"java/lang/Math", "min", "(II)I"⟩ : MethodName)) hown (mvT hZ (wd64 hw)) (mvT hZ (wd65 hw)) (mvT hZ (wd54 hw)) (mvT hZ (wd66 hw)) (by decide) (backOf (W := 2) (rm_minI l Z a0 hw [] et1 et1 h36 n0 (own_z0 O53) O53 S_CS) hZ (wd66 hw) (wd54 hw) (by decide) (by decide)) (g := (mkF m 96 #[vR a1, vI 0, vI 0, vR at_, vI 1, vI (f_base et0 et0), vJ ((et0.toInt64) - ((f_base et0 et0).toInt64)), .second, .unset, .unset, .unset] [(.int et1), (.int et1), (.int 1), (.ref ol)])) rfl (by rw [hml]; rfl) (argsL := [(.int et1), (.int et1)]) (rest := [(.int 1), (.ref ol)]) (lenOf pd__II_I_5 rfl) rfl (by show 2 * 0 + _ ≤ _; exact Nat.le_of_eq rfl) (bb d10_96) (fun _ _ => ⟨rfl, e49, (by decide : 0 + 0 ≤ _), (by decide : 0 + 0 ≤ _)⟩)
  dsimp only [Pt.U, Pt.locs, Pt.cells, Pt.slots] at X52 l52 y52 z52 st52 hQ52
  subst l52 y52 z52
  obtain ⟨rfl, N52q, e52⟩ := hQ52
  have N52 := Fr.app N36 N52q
  obtain ⟨cl54, Ar54, vq54, vS54, vN54, vH54, vG54⟩ := id F50
  have hin54 : ¬ (((1 : Int32) : Int32) < 0 ∨ cl54.slots.size ≤ ((1 : Int32) : Int32).toNatClampNeg) := inb_of vS54 ⟨by decide, by decide⟩
  obtain ⟨T54, h54, X54, e54, W54, st54⟩ := stI X52 hx hZ e52 Ar54 (j := (1 : Int32)) hin54 (g := (mkF m 99 #[vR a1, vI 0, vI 0, vR at_, vI 1, vI (f_base et0 et0), vJ ((et0.toInt64) - ((f_base et0 et0).toInt64)), .second, .unset, .unset, .unset] [(.int (f_minI et1 et1)), (.int 1), (.ref ol)])) rfl rfl (bb d10_99)
  have V54 : Arv Z h54 ol kl_ .int (2 : Int32) [(.int (f_minI et0 et0)), (.int (f_minI et1 et1))] (.int 0) := Arv.set Ar54 vq54 vS54 vN54 vH54 vG54 rfl W54 1 rfl (Nat.le_of_ble_eq_true rfl)
  have N54 := Fr.snoc X54 N52 g_ol
  have F56 := ((F28.other W36 (Or.inl ne_a1_oh)).other W54 (Or.inl ne_a1_ol))
  obtain ⟨T55, X55, e55, st55⟩ := getF X54 hx hZ hown (host := "") (Or.inl (wd29 hw)) Via.refl e54 F56 (g := (mkF m 101 #[vR a1, vI 0, vI 0, vR at_, vI 1, vI (f_base et0 et0), vJ ((et0.toInt64) - ((f_base et0 et0).toInt64)), .second, .unset, .unset, .unset] [(.ref a1)])) rfl rfl (bb d10_101)
  have F57 := (F43.other W54 ne_at__ol)
  obtain ⟨cl58, Ar58, vq58, vS58, vN58, vH58, vG58⟩ := id F57
  have hin58 : ¬ (((1 : Int32) : Int32) < 0 ∨ cl58.slots.size ≤ ((1 : Int32) : Int32).toNatClampNeg) := inb_of vS58 ⟨by decide, by decide⟩
  obtain ⟨T59, X59, e59, st59⟩ := getF X55 hx hZ hown (host := "") (Or.inl (wd29 hw)) Via.refl e55 F56 (g := (mkF m 111 #[vR a1, vI 0, vI 0, vR at_, vI 1, vI (f_base et0 et0), vJ ((et0.toInt64) - ((f_base et0 et0).toInt64)), .second, .unset, .unset, .unset] [(.ref a1), (.int et1), (.int 1), (.ref oh)])) rfl rfl (bb d10_111)
  have F60 := (V36.other W54 (Ne.symm ne_ol_oh))
  obtain ⟨cl61, Ar61, vq61, vS61, vN61, vH61, vG61⟩ := id F60
  have hin61 : ¬ (((1 : Int32) : Int32) < 0 ∨ cl61.slots.size ≤ ((1 : Int32) : Int32).toNatClampNeg) := inb_of vS61 ⟨by decide, by decide⟩
  have O63 := (O53.wr W54 g_ol)
  obtain ⟨_, _, ⟨T62, L62, k62, n62⟩, -, X62, ⟨Lc62, hQ62, l62, y62, z62⟩, st62⟩ := Jvm.LawKit.callS X59 hx (y := (⟨"java/lang/Math", "max", "(II)I"⟩ : MethodName)) hown (mvT hZ (wd71 hw)) (mvT hZ (wd72 hw)) (mvT hZ (wd54 hw)) (mvT hZ (wd73 hw)) (by decide) (backOf (W := 2) (rm_maxI l Z a0 hw [] et1 et1 h54 n0 (own_z0 O63) O63 S_CS) hZ (wd73 hw) (wd54 hw) (by decide) (by decide)) (g := (mkF m 117 #[vR a1, vI 0, vI 0, vR at_, vI 1, vI (f_base et0 et0), vJ ((et0.toInt64) - ((f_base et0 et0).toInt64)), .second, .unset, .unset, .unset] [(.int et1), (.int et1), (.int 1), (.ref oh)])) rfl (by rw [hml]; rfl) (argsL := [(.int et1), (.int et1)]) (rest := [(.int 1), (.ref oh)]) (lenOf pd__II_I_5 rfl) rfl (by show 2 * 0 + _ ≤ _; exact Nat.le_of_eq rfl) (bb d10_117) (fun _ _ => ⟨rfl, e59, (by decide : 0 + 0 ≤ _), (by decide : 0 + 0 ≤ _)⟩)
  dsimp only [Pt.U, Pt.locs, Pt.cells, Pt.slots] at X62 l62 y62 z62 st62 hQ62
  subst l62 y62 z62
  obtain ⟨rfl, N62q, e62⟩ := hQ62
  have N62 := Fr.app N54 N62q
  obtain ⟨cl64, Ar64, vq64, vS64, vN64, vH64, vG64⟩ := id F60
  have hin64 : ¬ (((1 : Int32) : Int32) < 0 ∨ cl64.slots.size ≤ ((1 : Int32) : Int32).toNatClampNeg) := inb_of vS64 ⟨by decide, by decide⟩
  obtain ⟨T64, h64, X64, e64, W64, st64⟩ := stI X62 hx hZ e62 Ar64 (j := (1 : Int32)) hin64 (g := (mkF m 120 #[vR a1, vI 0, vI 0, vR at_, vI 1, vI (f_base et0 et0), vJ ((et0.toInt64) - ((f_base et0 et0).toInt64)), .second, .unset, .unset, .unset] [(.int (f_maxI et1 et1)), (.int 1), (.ref oh)])) rfl rfl (bb d10_120)
  have V64 : Arv Z h64 oh kh_ .int (2 : Int32) [(.int (f_maxI et0 et0)), (.int (f_maxI et1 et1))] (.int 0) := Arv.set Ar64 vq64 vS64 vN64 vH64 vG64 rfl W64 1 rfl (Nat.le_of_ble_eq_true rfl)
  have N64 := Fr.snoc X64 N62 g_oh
  have F66 := ((F38.other W54 (Or.inl ne_a1_ol)).other W64 (Or.inl ne_a1_oh))
  obtain ⟨T65, X65, e65, st65⟩ := getF X64 hx hZ hown (host := "") (Or.inl (wd25 hw)) Via.refl e64 F66 (g := (mkF m 122 #[vR a1, vI 0, vI 0, vR at_, vI 1, vI (f_base et0 et0), vJ ((et0.toInt64) - ((f_base et0 et0).toInt64)), .second, .unset, .unset, .unset] [(.ref a1)])) rfl rfl (bb d10_122)
  have F68 := ((F40.other W54 (Or.inl ne_a1_ol)).other W64 (Or.inl ne_a1_oh))
  obtain ⟨T67, X67, e67, st67⟩ := getF X65 hx hZ hown (host := "") (Or.inl (wd23 hw)) Via.refl e65 F68 (g := (mkF m 127 #[vR a1, vI 0, vI 0, vR at_, vI 1, vI (f_base et0 et0), vJ ((et0.toInt64) - ((f_base et0 et0).toInt64)), .second, .unset, .unset, .unset] [(.ref a1), (.int 0), (.ref ob)])) rfl rfl (bb d10_127)
  have F69 := ((F41.other W54 ne_ob_ol).other W64 ne_ob_oh)
  obtain ⟨cl70, Ar70, vq70, vS70, vN70, vH70, vG70⟩ := id F69
  have hin70 : ¬ (((1 : Int32) : Int32) < 0 ∨ cl70.slots.size ≤ ((1 : Int32) : Int32).toNatClampNeg) := inb_of vS70 ⟨by decide, by decide⟩
  have F71 := (F57.other W64 ne_at__oh)
  obtain ⟨cl72, Ar72, vq72, vS72, vN72, vH72, vG72⟩ := id F71
  have hin72 : ¬ (((1 : Int32) : Int32) < 0 ∨ cl72.slots.size ≤ ((1 : Int32) : Int32).toNatClampNeg) := inb_of vS72 ⟨by decide, by decide⟩
  obtain ⟨T73, X73, e73, st73⟩ := getF X67 hx hZ hown (host := "") (Or.inl (wd23 hw)) Via.refl e67 F68 (g := (mkF m 73 #[vR a1, vI 0, vI 0, vR at_, vI 2, vI (f_base et1 et1), vJ ((et1.toInt64) - ((f_base et1 et1).toInt64)), .second, .unset, .unset, .unset] [(.ref a1), (.int 2)])) rfl rfl (bb d10_73)
  have F74 := (V54.other W64 ne_ol_oh)
  obtain ⟨fs, hr, hrun, hended, hW, hsame⟩ := X73.leave (v := none) (fun _ => rfl)
  refine ⟨_, _, pre0 _ ?_, hrun, hended, _, _, rfl, ?_, ⟨_, rfl⟩, hW, hsame.mono (by decide) (by decide)⟩
  · show GG p e below s₁ (mkF m 0 #[vR a1, vI 0, vI 0, vR at_, .unset, .unset, .unset, .unset, .unset, .unset, .unset] []) _
    refine XS.iconst X0.here hx rfl (bb d10_0) ?_
    refine XS.istore X0.here hx rfl (bb d10_1) rfl (l' := #[vR a1, vI 0, vI 0, vR at_, vI 0, .unset, .unset, .unset, .unset, .unset, .unset]) rfl ?_
    show GG p e below s₁ (mkF m 3 #[vR a1, vI 0, vI 0, vR at_, vI 0, .unset, .unset, .unset, .unset, .unset, .unset] []) _
    refine XS.iload X0.here hx rfl (bb d10_3) rfl ?_
    refine XS.aloadN X0.here hx rfl (bb d10_5) rfl rfl ?_
    refine st1 _ ?_
    show GG p e below T1 (mkF m 9 #[vR a1, vI 0, vI 0, vR at_, vI 0, .unset, .unset, .unset, .unset, .unset, .unset] [(.int 2), (.int 0)]) _
    refine XS.icmpNo X1.here hx rfl (bb d10_9) rfl (tlt (by decide : (0 : Int32) < (2 : Int32))).2.1 ?_
    refine XS.aloadN X1.here hx rfl (bb d10_12) rfl rfl ?_
    refine XS.iload X1.here hx rfl (bb d10_13) rfl ?_
    refine X1.iaload hx (j := (0 : Int32)) (v := (.int et0)) (by rw [e1]; exact Ar2.1) (State.isArrayOf_alike hZ.alike Ar2.2.1) Ar2.2.2 hin2 (vH2.at hin2 rfl) (g := (mkF m 15 #[vR a1, vI 0, vI 0, vR at_, vI 0, .unset, .unset, .unset, .unset, .unset, .unset] [(.int 0), (.ref at_)])) rfl rfl (bb d10_15) _ ?_
    show GG p e below T1 (mkF m 16 #[vR a1, vI 0, vI 0, vR at_, vI 0, .unset, .unset, .unset, .unset, .unset, .unset] [(.int et0)]) _
    refine XS.aloadN X1.here hx rfl (bb d10_16) rfl rfl ?_
    refine st3 _ ?_
    show GG p e below T3 (mkF m 20 #[vR a1, vI 0, vI 0, vR at_, vI 0, .unset, .unset, .unset, .unset, .unset, .unset] [(.ref oh), (.int et0)]) _
    refine XS.iload X3.here hx rfl (bb d10_20) rfl ?_
    refine X3.iaload hx (j := (0 : Int32)) (v := (.int et0)) (by rw [e3]; exact Ar4.1) (State.isArrayOf_alike hZ.alike Ar4.2.1) Ar4.2.2 hin4 (vH4.at hin4 rfl) (g := (mkF m 22 #[vR a1, vI 0, vI 0, vR at_, vI 0, .unset, .unset, .unset, .unset, .unset, .unset] [(.int 0), (.ref oh), (.int et0)])) rfl rfl (bb d10_22) _ ?_
    show GG p e below T3 (mkF m 23 #[vR a1, vI 0, vI 0, vR at_, vI 0, .unset, .unset, .unset, .unset, .unset, .unset] [(.int et0), (.int et0)]) _
    refine st5 _ ?_
    show GG p e below T5 (mkF m 26 #[vR a1, vI 0, vI 0, vR at_, vI 0, .unset, .unset, .unset, .unset, .unset, .unset] [(.int (f_maxI et0 et0))]) _
    refine XS.i2l X5.here hx rfl (bb d10_26) rfl ?_
    refine XS.aloadN X5.here hx rfl (bb d10_27) rfl rfl ?_
    refine XS.iload X5.here hx rfl (bb d10_28) rfl ?_
    refine X5.iaload hx (j := (0 : Int32)) (v := (.int et0)) (by rw [e5]; exact Ar6.1) (State.isArrayOf_alike hZ.alike Ar6.2.1) Ar6.2.2 hin6 (vH6.at hin6 rfl) (g := (mkF m 30 #[vR a1, vI 0, vI 0, vR at_, vI 0, .unset, .unset, .unset, .unset, .unset, .unset] [(.int 0), (.ref at_), (.long ((f_maxI et0 et0).toInt64))])) rfl rfl (bb d10_30) _ ?_
    show GG p e below T5 (mkF m 31 #[vR a1, vI 0, vI 0, vR at_, vI 0, .unset, .unset, .unset, .unset, .unset, .unset] [(.int et0), (.long ((f_maxI et0 et0).toInt64))]) _
    refine XS.aloadN X5.here hx rfl (bb d10_31) rfl rfl ?_
    refine st7 _ ?_
    show GG p e below T7 (mkF m 35 #[vR a1, vI 0, vI 0, vR at_, vI 0, .unset, .unset, .unset, .unset, .unset, .unset] [(.ref ol), (.int et0), (.long ((f_maxI et0 et0).toInt64))]) _
    refine XS.iload X7.here hx rfl (bb d10_35) rfl ?_
    refine X7.iaload hx (j := (0 : Int32)) (v := (.int et0)) (by rw [e7]; exact Ar8.1) (State.isArrayOf_alike hZ.alike Ar8.2.1) Ar8.2.2 hin8 (vH8.at hin8 rfl) (g := (mkF m 37 #[vR a1, vI 0, vI 0, vR at_, vI 0, .unset, .unset, .unset, .unset, .unset, .unset] [(.int 0), (.ref ol), (.int et0), (.long ((f_maxI et0 et0).toInt64))])) rfl rfl (bb d10_37) _ ?_
    show GG p e below T7 (mkF m 38 #[vR a1, vI 0, vI 0, vR at_, vI 0, .unset, .unset, .unset, .unset, .unset, .unset] [(.int et0), (.int et0), (.long ((f_maxI et0 et0).toInt64))]) _
    refine st9 _ ?_
    show GG p e below T9 (mkF m 41 #[vR a1, vI 0, vI 0, vR at_, vI 0, .unset, .unset, .unset, .unset, .unset, .unset] [(.int (f_minI et0 et0)), (.long ((f_maxI et0 et0).toInt64))]) _
    refine XS.i2l X9.here hx rfl (bb d10_41) rfl ?_
    refine XS.lsub X9.here hx rfl (bb d10_42) rfl ?_
    show GG p e below T9 (mkF m 43 #[vR a1, vI 0, vI 0, vR at_, vI 0, .unset, .unset, .unset, .unset, .unset, .unset] [(.long (((f_maxI et0 et0).toInt64) - ((f_minI et0 et0).toInt64)))]) _
    refine XS.lstore X9.here hx rfl (bb d10_43) rfl (l' := #[vR a1, vI 0, vI 0, vR at_, vI 0, vJ (((f_maxI et0 et0).toInt64) - ((f_minI et0 et0).toInt64)), .second, .unset, .unset, .unset, .unset]) rfl ?_
    show GG p e below T9 (mkF m 45 #[vR a1, vI 0, vI 0, vR at_, vI 0, vJ (((f_maxI et0 et0).toInt64) - ((f_minI et0 et0).toInt64)), .second, .unset, .unset, .unset, .unset] []) _
    refine XS.lload X9.here hx rfl (bb d10_45) rfl ?_
    refine X9.ldc2Long hx hown (mvT hZ (wd74 hw)) (g := (mkF m 47 #[vR a1, vI 0, vI 0, vR at_, vI 0, vJ (((f_maxI et0 et0).toInt64) - ((f_minI et0 et0).toInt64)), .second, .unset, .unset, .unset, .unset] [(.long (((f_maxI et0 et0).toInt64) - ((f_minI et0 et0).toInt64)))])) rfl (bb d10_47) _ ?_
    show GG p e below T9 (mkF m 50 #[vR a1, vI 0, vI 0, vR at_, vI 0, vJ (((f_maxI et0 et0).toInt64) - ((f_minI et0 et0).toInt64)), .second, .unset, .unset, .unset, .unset] [(.long 65536), (.long (((f_maxI et0 et0).toInt64) - ((f_minI et0 et0).toInt64)))]) _
    refine XS.lcmp X9.here hx rfl (bb d10_50) rfl ?_
    show GG p e below T9 (mkF m 51 #[vR a1, vI 0, vI 0, vR at_, vI 0, vJ (((f_maxI et0 et0).toInt64) - ((f_minI et0 et0).toInt64)), .second, .unset, .unset, .unset, .unset] [(.int (lcmpW (((f_maxI et0 et0).toInt64) - ((f_minI et0 et0).toInt64)) (65536 : Int64)))]) _
    refine XS.ifYes X9.here hx rfl (pc0 := 51) (pc' := 61) rfl (bb d10_51) rfl ((if0 _ _).trans (tlt (own_s0 et0)).1) (by decide) (by decide) ?_
    show GG p e below T9 (mkF m 61 #[vR a1, vI 0, vI 0, vR at_, vI 0, vJ (((f_maxI et0 et0).toInt64) - ((f_minI et0 et0).toInt64)), .second, .unset, .unset, .unset, .unset] []) _
    refine XS.iinc X9.here hx rfl (bb d10_61) rfl (l' := #[vR a1, vI 0, vI 0, vR at_, vI 1, vJ (((f_maxI et0 et0).toInt64) - ((f_minI et0 et0).toInt64)), .second, .unset, .unset, .unset, .unset]) rfl ?_
    show GG p e below T9 (mkF m 64 #[vR a1, vI 0, vI 0, vR at_, vI 1, vJ (((f_maxI et0 et0).toInt64) - ((f_minI et0 et0).toInt64)), .second, .unset, .unset, .unset, .unset] []) _
    refine XS.goto X9.here hx rfl (pc0 := 64) (pc' := 3) rfl (bb d10_64) (by decide) (by decide) ?_
    refine XS.iload X9.here hx rfl (bb d10_3) rfl ?_
    refine XS.aloadN X9.here hx rfl (bb d10_5) rfl rfl ?_
    refine st10 _ ?_
    show GG p e below T10 (mkF m 9 #[vR a1, vI 0, vI 0, vR at_, vI 1, vJ (((f_maxI et0 et0).toInt64) - ((f_minI et0 et0).toInt64)), .second, .unset, .unset, .unset, .unset] [(.int 2), (.int 1)]) _
    refine XS.icmpNo X10.here hx rfl (bb d10_9) rfl (tlt (by decide : (1 : Int32) < (2 : Int32))).2.1 ?_
    refine XS.aloadN X10.here hx rfl (bb d10_12) rfl rfl ?_
    refine XS.iload X10.here hx rfl (bb d10_13) rfl ?_
    refine X10.iaload hx (j := (1 : Int32)) (v := (.int et1)) (by rw [e10]; exact Ar11.1) (State.isArrayOf_alike hZ.alike Ar11.2.1) Ar11.2.2 hin11 (vH11.at hin11 rfl) (g := (mkF m 15 #[vR a1, vI 0, vI 0, vR at_, vI 1, vJ (((f_maxI et0 et0).toInt64) - ((f_minI et0 et0).toInt64)), .second, .unset, .unset, .unset, .unset] [(.int 1), (.ref at_)])) rfl rfl (bb d10_15) _ ?_
    show GG p e below T10 (mkF m 16 #[vR a1, vI 0, vI 0, vR at_, vI 1, vJ (((f_maxI et0 et0).toInt64) - ((f_minI et0 et0).toInt64)), .second, .unset, .unset, .unset, .unset] [(.int et1)]) _
    refine XS.aloadN X10.here hx rfl (bb d10_16) rfl rfl ?_
    refine st12 _ ?_
    show GG p e below T12 (mkF m 20 #[vR a1, vI 0, vI 0, vR at_, vI 1, vJ (((f_maxI et0 et0).toInt64) - ((f_minI et0 et0).toInt64)), .second, .unset, .unset, .unset, .unset] [(.ref oh), (.int et1)]) _
    refine XS.iload X12.here hx rfl (bb d10_20) rfl ?_
    refine X12.iaload hx (j := (1 : Int32)) (v := (.int et1)) (by rw [e12]; exact Ar13.1) (State.isArrayOf_alike hZ.alike Ar13.2.1) Ar13.2.2 hin13 (vH13.at hin13 rfl) (g := (mkF m 22 #[vR a1, vI 0, vI 0, vR at_, vI 1, vJ (((f_maxI et0 et0).toInt64) - ((f_minI et0 et0).toInt64)), .second, .unset, .unset, .unset, .unset] [(.int 1), (.ref oh), (.int et1)])) rfl rfl (bb d10_22) _ ?_
    show GG p e below T12 (mkF m 23 #[vR a1, vI 0, vI 0, vR at_, vI 1, vJ (((f_maxI et0 et0).toInt64) - ((f_minI et0 et0).toInt64)), .second, .unset, .unset, .unset, .unset] [(.int et1), (.int et1)]) _
    refine st14 _ ?_
    show GG p e below T14 (mkF m 26 #[vR a1, vI 0, vI 0, vR at_, vI 1, vJ (((f_maxI et0 et0).toInt64) - ((f_minI et0 et0).toInt64)), .second, .unset, .unset, .unset, .unset] [(.int (f_maxI et1 et1))]) _
    refine XS.i2l X14.here hx rfl (bb d10_26) rfl ?_
    refine XS.aloadN X14.here hx rfl (bb d10_27) rfl rfl ?_
    refine XS.iload X14.here hx rfl (bb d10_28) rfl ?_
    refine X14.iaload hx (j := (1 : Int32)) (v := (.int et1)) (by rw [e14]; exact Ar15.1) (State.isArrayOf_alike hZ.alike Ar15.2.1) Ar15.2.2 hin15 (vH15.at hin15 rfl) (g := (mkF m 30 #[vR a1, vI 0, vI 0, vR at_, vI 1, vJ (((f_maxI et0 et0).toInt64) - ((f_minI et0 et0).toInt64)), .second, .unset, .unset, .unset, .unset] [(.int 1), (.ref at_), (.long ((f_maxI et1 et1).toInt64))])) rfl rfl (bb d10_30) _ ?_
    show GG p e below T14 (mkF m 31 #[vR a1, vI 0, vI 0, vR at_, vI 1, vJ (((f_maxI et0 et0).toInt64) - ((f_minI et0 et0).toInt64)), .second, .unset, .unset, .unset, .unset] [(.int et1), (.long ((f_maxI et1 et1).toInt64))]) _
    refine XS.aloadN X14.here hx rfl (bb d10_31) rfl rfl ?_
    refine st16 _ ?_
    show GG p e below T16 (mkF m 35 #[vR a1, vI 0, vI 0, vR at_, vI 1, vJ (((f_maxI et0 et0).toInt64) - ((f_minI et0 et0).toInt64)), .second, .unset, .unset, .unset, .unset] [(.ref ol), (.int et1), (.long ((f_maxI et1 et1).toInt64))]) _
    refine XS.iload X16.here hx rfl (bb d10_35) rfl ?_
    refine X16.iaload hx (j := (1 : Int32)) (v := (.int et1)) (by rw [e16]; exact Ar17.1) (State.isArrayOf_alike hZ.alike Ar17.2.1) Ar17.2.2 hin17 (vH17.at hin17 rfl) (g := (mkF m 37 #[vR a1, vI 0, vI 0, vR at_, vI 1, vJ (((f_maxI et0 et0).toInt64) - ((f_minI et0 et0).toInt64)), .second, .unset, .unset, .unset, .unset] [(.int 1), (.ref ol), (.int et1), (.long ((f_maxI et1 et1).toInt64))])) rfl rfl (bb d10_37) _ ?_
    show GG p e below T16 (mkF m 38 #[vR a1, vI 0, vI 0, vR at_, vI 1, vJ (((f_maxI et0 et0).toInt64) - ((f_minI et0 et0).toInt64)), .second, .unset, .unset, .unset, .unset] [(.int et1), (.int et1), (.long ((f_maxI et1 et1).toInt64))]) _
    refine st18 _ ?_
    show GG p e below T18 (mkF m 41 #[vR a1, vI 0, vI 0, vR at_, vI 1, vJ (((f_maxI et0 et0).toInt64) - ((f_minI et0 et0).toInt64)), .second, .unset, .unset, .unset, .unset] [(.int (f_minI et1 et1)), (.long ((f_maxI et1 et1).toInt64))]) _
    refine XS.i2l X18.here hx rfl (bb d10_41) rfl ?_
    refine XS.lsub X18.here hx rfl (bb d10_42) rfl ?_
    show GG p e below T18 (mkF m 43 #[vR a1, vI 0, vI 0, vR at_, vI 1, vJ (((f_maxI et0 et0).toInt64) - ((f_minI et0 et0).toInt64)), .second, .unset, .unset, .unset, .unset] [(.long (((f_maxI et1 et1).toInt64) - ((f_minI et1 et1).toInt64)))]) _
    refine XS.lstore X18.here hx rfl (bb d10_43) rfl (l' := #[vR a1, vI 0, vI 0, vR at_, vI 1, vJ (((f_maxI et1 et1).toInt64) - ((f_minI et1 et1).toInt64)), .second, .unset, .unset, .unset, .unset]) rfl ?_
    show GG p e below T18 (mkF m 45 #[vR a1, vI 0, vI 0, vR at_, vI 1, vJ (((f_maxI et1 et1).toInt64) - ((f_minI et1 et1).toInt64)), .second, .unset, .unset, .unset, .unset] []) _
    refine XS.lload X18.here hx rfl (bb d10_45) rfl ?_
    refine X18.ldc2Long hx hown (mvT hZ (wd74 hw)) (g := (mkF m 47 #[vR a1, vI 0, vI 0, vR at_, vI 1, vJ (((f_maxI et1 et1).toInt64) - ((f_minI et1 et1).toInt64)), .second, .unset, .unset, .unset, .unset] [(.long (((f_maxI et1 et1).toInt64) - ((f_minI et1 et1).toInt64)))])) rfl (bb d10_47) _ ?_
    show GG p e below T18 (mkF m 50 #[vR a1, vI 0, vI 0, vR at_, vI 1, vJ (((f_maxI et1 et1).toInt64) - ((f_minI et1 et1).toInt64)), .second, .unset, .unset, .unset, .unset] [(.long 65536), (.long (((f_maxI et1 et1).toInt64) - ((f_minI et1 et1).toInt64)))]) _
    refine XS.lcmp X18.here hx rfl (bb d10_50) rfl ?_
    show GG p e below T18 (mkF m 51 #[vR a1, vI 0, vI 0, vR at_, vI 1, vJ (((f_maxI et1 et1).toInt64) - ((f_minI et1 et1).toInt64)), .second, .unset, .unset, .unset, .unset] [(.int (lcmpW (((f_maxI et1 et1).toInt64) - ((f_minI et1 et1).toInt64)) (65536 : Int64)))]) _
    refine XS.ifYes X18.here hx rfl (pc0 := 51) (pc' := 61) rfl (bb d10_51) rfl ((if0 _ _).trans (tlt (own_s0 et1)).1) (by decide) (by decide) ?_
    show GG p e below T18 (mkF m 61 #[vR a1, vI 0, vI 0, vR at_, vI 1, vJ (((f_maxI et1 et1).toInt64) - ((f_minI et1 et1).toInt64)), .second, .unset, .unset, .unset, .unset] []) _
    refine XS.iinc X18.here hx rfl (bb d10_61) rfl (l' := #[vR a1, vI 0, vI 0, vR at_, vI 2, vJ (((f_maxI et1 et1).toInt64) - ((f_minI et1 et1).toInt64)), .second, .unset, .unset, .unset, .unset]) rfl ?_
    show GG p e below T18 (mkF m 64 #[vR a1, vI 0, vI 0, vR at_, vI 2, vJ (((f_maxI et1 et1).toInt64) - ((f_minI et1 et1).toInt64)), .second, .unset, .unset, .unset, .unset] []) _
    refine XS.goto X18.here hx rfl (pc0 := 64) (pc' := 3) rfl (bb d10_64) (by decide) (by decide) ?_
    refine XS.iload X18.here hx rfl (bb d10_3) rfl ?_
    refine XS.aloadN X18.here hx rfl (bb d10_5) rfl rfl ?_
    refine st19 _ ?_
    show GG p e below T19 (mkF m 9 #[vR a1, vI 0, vI 0, vR at_, vI 2, vJ (((f_maxI et1 et1).toInt64) - ((f_minI et1 et1).toInt64)), .second, .unset, .unset, .unset, .unset] [(.int 2), (.int 2)]) _
    refine XS.icmpYes X19.here hx rfl (pc0 := 9) (pc' := 67) rfl (bb d10_9) rfl (flt (by decide : ¬ ((2 : Int32) < (2 : Int32)))).2.1 (by decide) (by decide) ?_
    show GG p e below T19 (mkF m 67 #[vR a1, vI 0, vI 0, vR at_, vI 2, vJ (((f_maxI et1 et1).toInt64) - ((f_minI et1 et1).toInt64)), .second, .unset, .unset, .unset, .unset] []) _
    refine XS.iconst X19.here hx rfl (bb d10_67) ?_
    refine XS.istore X19.here hx rfl (bb d10_68) rfl (l' := #[vR a1, vI 0, vI 0, vR at_, vI 0, vJ (((f_maxI et1 et1).toInt64) - ((f_minI et1 et1).toInt64)), .second, .unset, .unset, .unset, .unset]) rfl ?_
    show GG p e below T19 (mkF m 70 #[vR a1, vI 0, vI 0, vR at_, vI 0, vJ (((f_maxI et1 et1).toInt64) - ((f_minI et1 et1).toInt64)), .second, .unset, .unset, .unset, .unset] []) _
    refine XS.iload X19.here hx rfl (bb d10_70) rfl ?_
    refine XS.aloadN X19.here hx rfl (bb d10_72) rfl rfl ?_
    refine st20 _ ?_
    show GG p e below T20 (mkF m 76 #[vR a1, vI 0, vI 0, vR at_, vI 0, vJ (((f_maxI et1 et1).toInt64) - ((f_minI et1 et1).toInt64)), .second, .unset, .unset, .unset, .unset] [(.int 2), (.int 0)]) _
    refine XS.icmpNo X20.here hx rfl (bb d10_76) rfl (tlt (by decide : (0 : Int32) < (2 : Int32))).2.1 ?_
    refine XS.aloadN X20.here hx rfl (bb d10_79) rfl rfl ?_
    refine st21 _ ?_
    show GG p e below T21 (mkF m 83 #[vR a1, vI 0, vI 0, vR at_, vI 0, vJ (((f_maxI et1 et1).toInt64) - ((f_minI et1 et1).toInt64)), .second, .unset, .unset, .unset, .unset] [(.ref ol)]) _
    refine XS.iload X21.here hx rfl (bb d10_83) rfl ?_
    refine XS.aloadN X21.here hx rfl (bb d10_85) rfl rfl ?_
    refine XS.iload X21.here hx rfl (bb d10_86) rfl ?_
    refine X21.iaload hx (j := (0 : Int32)) (v := (.int et0)) (by rw [e21]; exact Ar22.1) (State.isArrayOf_alike hZ.alike Ar22.2.1) Ar22.2.2 hin22 (vH22.at hin22 rfl) (g := (mkF m 88 #[vR a1, vI 0, vI 0, vR at_, vI 0, vJ (((f_maxI et1 et1).toInt64) - ((f_minI et1 et1).toInt64)), .second, .unset, .unset, .unset, .unset] [(.int 0), (.ref at_), (.int 0), (.ref ol)])) rfl rfl (bb d10_88) _ ?_
    show GG p e below T21 (mkF m 89 #[vR a1, vI 0, vI 0, vR at_, vI 0, vJ (((f_maxI et1 et1).toInt64) - ((f_minI et1 et1).toInt64)), .second, .unset, .unset, .unset, .unset] [(.int et0), (.int 0), (.ref ol)]) _
    refine XS.aloadN X21.here hx rfl (bb d10_89) rfl rfl ?_
    refine st23 _ ?_
    show GG p e below T23 (mkF m 93 #[vR a1, vI 0, vI 0, vR at_, vI 0, vJ (((f_maxI et1 et1).toInt64) - ((f_minI et1 et1).toInt64)), .second, .unset, .unset, .unset, .unset] [(.ref ol), (.int et0), (.int 0), (.ref ol)]) _
    refine XS.iload X23.here hx rfl (bb d10_93) rfl ?_
    refine X23.iaload hx (j := (0 : Int32)) (v := (.int et0)) (by rw [e23]; exact Ar24.1) (State.isArrayOf_alike hZ.alike Ar24.2.1) Ar24.2.2 hin24 (vH24.at hin24 rfl) (g := (mkF m 95 #[vR a1, vI 0, vI 0, vR at_, vI 0, vJ (((f_maxI et1 et1).toInt64) - ((f_minI et1 et1).toInt64)), .second, .unset, .unset, .unset, .unset] [(.int 0), (.ref ol), (.int et0), (.int 0), (.ref ol)])) rfl rfl (bb d10_95) _ ?_
    show GG p e below T23 (mkF m 96 #[vR a1, vI 0, vI 0, vR at_, vI 0, vJ (((f_maxI et1 et1).toInt64) - ((f_minI et1 et1).toInt64)), .second, .unset, .unset, .unset, .unset] [(.int et0), (.int et0), (.int 0), (.ref ol)]) _
    refine st25 _ ?_
    show GG p e below T25 (mkF m 99 #[vR a1, vI 0, vI 0, vR at_, vI 0, vJ (((f_maxI et1 et1).toInt64) - ((f_minI et1 et1).toInt64)), .second, .unset, .unset, .unset, .unset] [(.int (f_minI et0 et0)), (.int 0), (.ref ol)]) _
    refine st26 _ ?_
    show GG p e below T26 (mkF m 100 #[vR a1, vI 0, vI 0, vR at_, vI 0, vJ (((f_maxI et1 et1).toInt64) - ((f_minI et1 et1).toInt64)), .second, .unset, .unset, .unset, .unset] []) _
    refine XS.aloadN X26.here hx rfl (bb d10_100) rfl rfl ?_
    refine st27 _ ?_
    show GG p e below T27 (mkF m 104 #[vR a1, vI 0, vI 0, vR at_, vI 0, vJ (((f_maxI et1 et1).toInt64) - ((f_minI et1 et1).toInt64)), .second, .unset, .unset, .unset, .unset] [(.ref oh)]) _
    refine XS.iload X27.here hx rfl (bb d10_104) rfl ?_
    refine XS.aloadN X27.here hx rfl (bb d10_106) rfl rfl ?_
    refine XS.iload X27.here hx rfl (bb d10_107) rfl ?_
    refine X27.iaload hx (j := (0 : Int32)) (v := (.int et0)) (by rw [e27]; exact Ar30.1) (State.isArrayOf_alike hZ.alike Ar30.2.1) Ar30.2.2 hin30 (vH30.at hin30 rfl) (g := (mkF m 109 #[vR a1, vI 0, vI 0, vR at_, vI 0, vJ (((f_maxI et1 et1).toInt64) - ((f_minI et1 et1).toInt64)), .second, .unset, .unset, .unset, .unset] [(.int 0), (.ref at_), (.int 0), (.ref oh)])) rfl rfl (bb d10_109) _ ?_
    show GG p e below T27 (mkF m 110 #[vR a1, vI 0, vI 0, vR at_, vI 0, vJ (((f_maxI et1 et1).toInt64) - ((f_minI et1 et1).toInt64)), .second, .unset, .unset, .unset, .unset] [(.int et0), (.int 0), (.ref oh)]) _
    refine XS.aloadN X27.here hx rfl (bb d10_110) rfl rfl ?_
    refine st31 _ ?_
    show GG p e below T31 (mkF m 114 #[vR a1, vI 0, vI 0, vR at_, vI 0, vJ (((f_maxI et1 et1).toInt64) - ((f_minI et1 et1).toInt64)), .second, .unset, .unset, .unset, .unset] [(.ref oh), (.int et0), (.int 0), (.ref oh)]) _
    refine XS.iload X31.here hx rfl (bb d10_114) rfl ?_
    refine X31.iaload hx (j := (0 : Int32)) (v := (.int et0)) (by rw [e31]; exact Ar33.1) (State.isArrayOf_alike hZ.alike Ar33.2.1) Ar33.2.2 hin33 (vH33.at hin33 rfl) (g := (mkF m 116 #[vR a1, vI 0, vI 0, vR at_, vI 0, vJ (((f_maxI et1 et1).toInt64) - ((f_minI et1 et1).toInt64)), .second, .unset, .unset, .unset, .unset] [(.int 0), (.ref oh), (.int et0), (.int 0), (.ref oh)])) rfl rfl (bb d10_116) _ ?_
    show GG p e below T31 (mkF m 117 #[vR a1, vI 0, vI 0, vR at_, vI 0, vJ (((f_maxI et1 et1).toInt64) - ((f_minI et1 et1).toInt64)), .second, .unset, .unset, .unset, .unset] [(.int et0), (.int et0), (.int 0), (.ref oh)]) _
    refine st34 _ ?_
    show GG p e below T34 (mkF m 120 #[vR a1, vI 0, vI 0, vR at_, vI 0, vJ (((f_maxI et1 et1).toInt64) - ((f_minI et1 et1).toInt64)), .second, .unset, .unset, .unset, .unset] [(.int (f_maxI et0 et0)), (.int 0), (.ref oh)]) _
    refine st36 _ ?_
    show GG p e below T36 (mkF m 121 #[vR a1, vI 0, vI 0, vR at_, vI 0, vJ (((f_maxI et1 et1).toInt64) - ((f_minI et1 et1).toInt64)), .second, .unset, .unset, .unset, .unset] []) _
    refine XS.aloadN X36.here hx rfl (bb d10_121) rfl rfl ?_
    refine st37 _ ?_
    show GG p e below T37 (mkF m 125 #[vR a1, vI 0, vI 0, vR at_, vI 0, vJ (((f_maxI et1 et1).toInt64) - ((f_minI et1 et1).toInt64)), .second, .unset, .unset, .unset, .unset] [(.ref ob)]) _
    refine XS.iloadN X37.here hx rfl (bb d10_125) rfl ?_
    refine XS.aloadN X37.here hx rfl (bb d10_126) rfl rfl ?_
    refine st39 _ ?_
    show GG p e below T39 (mkF m 130 #[vR a1, vI 0, vI 0, vR at_, vI 0, vJ (((f_maxI et1 et1).toInt64) - ((f_minI et1 et1).toInt64)), .second, .unset, .unset, .unset, .unset] [(.int 2), (.int 0), (.ref ob)]) _
    refine XS.imul X39.here hx rfl (bb d10_130) rfl ?_
    refine XS.iload X39.here hx rfl (bb d10_131) rfl ?_
    refine XS.iadd X39.here hx rfl (bb d10_133) rfl ?_
    refine X39.iaload hx (j := (0 : Int32)) (v := (.int (f_base et0 et0))) (by rw [e39]; exact Ar42.1) (State.isArrayOf_alike hZ.alike Ar42.2.1) Ar42.2.2 hin42 (vH42.at hin42 rfl) (g := (mkF m 134 #[vR a1, vI 0, vI 0, vR at_, vI 0, vJ (((f_maxI et1 et1).toInt64) - ((f_minI et1 et1).toInt64)), .second, .unset, .unset, .unset, .unset] [(.int 0), (.ref ob)])) rfl rfl (bb d10_134) _ ?_
    show GG p e below T39 (mkF m 135 #[vR a1, vI 0, vI 0, vR at_, vI 0, vJ (((f_maxI et1 et1).toInt64) - ((f_minI et1 et1).toInt64)), .second, .unset, .unset, .unset, .unset] [(.int (f_base et0 et0))]) _
    refine XS.istore X39.here hx rfl (bb d10_135) rfl (l' := #[vR a1, vI 0, vI 0, vR at_, vI 0, vI (f_base et0 et0), .unset, .unset, .unset, .unset, .unset]) rfl ?_
    show GG p e below T39 (mkF m 137 #[vR a1, vI 0, vI 0, vR at_, vI 0, vI (f_base et0 et0), .unset, .unset, .unset, .unset, .unset] []) _
    refine XS.aloadN X39.here hx rfl (bb d10_137) rfl rfl ?_
    refine XS.iload X39.here hx rfl (bb d10_138) rfl ?_
    refine X39.iaload hx (j := (0 : Int32)) (v := (.int et0)) (by rw [e39]; exact Ar44.1) (State.isArrayOf_alike hZ.alike Ar44.2.1) Ar44.2.2 hin44 (vH44.at hin44 rfl) (g := (mkF m 140 #[vR a1, vI 0, vI 0, vR at_, vI 0, vI (f_base et0 et0), .unset, .unset, .unset, .unset, .unset] [(.int 0), (.ref at_)])) rfl rfl (bb d10_140) _ ?_
    show GG p e below T39 (mkF m 141 #[vR a1, vI 0, vI 0, vR at_, vI 0, vI (f_base et0 et0), .unset, .unset, .unset, .unset, .unset] [(.int et0)]) _
    refine XS.i2l X39.here hx rfl (bb d10_141) rfl ?_
    refine XS.iload X39.here hx rfl (bb d10_142) rfl ?_
    refine XS.i2l X39.here hx rfl (bb d10_144) rfl ?_
    refine XS.lsub X39.here hx rfl (bb d10_145) rfl ?_
    show GG p e below T39 (mkF m 146 #[vR a1, vI 0, vI 0, vR at_, vI 0, vI (f_base et0 et0), .unset, .unset, .unset, .unset, .unset] [(.long ((et0.toInt64) - ((f_base et0 et0).toInt64)))]) _
    refine XS.lstore X39.here hx rfl (bb d10_146) rfl (l' := #[vR a1, vI 0, vI 0, vR at_, vI 0, vI (f_base et0 et0), vJ ((et0.toInt64) - ((f_base et0 et0).toInt64)), .second, .unset, .unset, .unset]) rfl ?_
    show GG p e below T39 (mkF m 148 #[vR a1, vI 0, vI 0, vR at_, vI 0, vI (f_base et0 et0), vJ ((et0.toInt64) - ((f_base et0 et0).toInt64)), .second, .unset, .unset, .unset] []) _
    refine XS.lload X39.here hx rfl (bb d10_148) rfl ?_
    refine XS.lconst X39.here hx rfl (bb d10_150) ?_
    refine XS.lcmp X39.here hx rfl (bb d10_151) rfl ?_
    show GG p e below T39 (mkF m 152 #[vR a1, vI 0, vI 0, vR at_, vI 0, vI (f_base et0 et0), vJ ((et0.toInt64) - ((f_base et0 et0).toInt64)), .second, .unset, .unset, .unset] [(.int (lcmpW ((et0.toInt64) - ((f_base et0 et0).toInt64)) (0 : Int64)))]) _
    refine XS.ifNo X39.here hx rfl (bb d10_152) rfl ((if0 _ _).trans (flt (own_d0 et0)).1) ?_
    refine XS.lload X39.here hx rfl (bb d10_155) rfl ?_
    refine X39.ldc2Long hx hown (mvT hZ (wd74 hw)) (g := (mkF m 157 #[vR a1, vI 0, vI 0, vR at_, vI 0, vI (f_base et0 et0), vJ ((et0.toInt64) - ((f_base et0 et0).toInt64)), .second, .unset, .unset, .unset] [(.long ((et0.toInt64) - ((f_base et0 et0).toInt64)))])) rfl (bb d10_157) _ ?_
    show GG p e below T39 (mkF m 160 #[vR a1, vI 0, vI 0, vR at_, vI 0, vI (f_base et0 et0), vJ ((et0.toInt64) - ((f_base et0 et0).toInt64)), .second, .unset, .unset, .unset] [(.long 65536), (.long ((et0.toInt64) - ((f_base et0 et0).toInt64)))]) _
    refine XS.lcmp X39.here hx rfl (bb d10_160) rfl ?_
    show GG p e below T39 (mkF m 161 #[vR a1, vI 0, vI 0, vR at_, vI 0, vI (f_base et0 et0), vJ ((et0.toInt64) - ((f_base et0 et0).toInt64)), .second, .unset, .unset, .unset] [(.int (lcmpW ((et0.toInt64) - ((f_base et0 et0).toInt64)) (65536 : Int64)))]) _
    refine XS.ifYes X39.here hx rfl (pc0 := 161) (pc' := 249) rfl (bb d10_161) rfl ((if0 _ _).trans (tlt (own_e0 et0)).1) (by decide) (by decide) ?_
    show GG p e below T39 (mkF m 249 #[vR a1, vI 0, vI 0, vR at_, vI 0, vI (f_base et0 et0), vJ ((et0.toInt64) - ((f_base et0 et0).toInt64)), .second, .unset, .unset, .unset] []) _
    refine XS.iinc X39.here hx rfl (bb d10_249) rfl (l' := #[vR a1, vI 0, vI 0, vR at_, vI 1, vI (f_base et0 et0), vJ ((et0.toInt64) - ((f_base et0 et0).toInt64)), .second, .unset, .unset, .unset]) rfl ?_
    show GG p e below T39 (mkF m 252 #[vR a1, vI 0, vI 0, vR at_, vI 1, vI (f_base et0 et0), vJ ((et0.toInt64) - ((f_base et0 et0).toInt64)), .second, .unset, .unset, .unset] []) _
    refine XS.goto X39.here hx rfl (pc0 := 252) (pc' := 70) rfl (bb d10_252) (by decide) (by decide) ?_
    refine XS.iload X39.here hx rfl (bb d10_70) rfl ?_
    refine XS.aloadN X39.here hx rfl (bb d10_72) rfl rfl ?_
    refine st45 _ ?_
    show GG p e below T45 (mkF m 76 #[vR a1, vI 0, vI 0, vR at_, vI 1, vI (f_base et0 et0), vJ ((et0.toInt64) - ((f_base et0 et0).toInt64)), .second, .unset, .unset, .unset] [(.int 2), (.int 1)]) _
    refine XS.icmpNo X45.here hx rfl (bb d10_76) rfl (tlt (by decide : (1 : Int32) < (2 : Int32))).2.1 ?_
    refine XS.aloadN X45.here hx rfl (bb d10_79) rfl rfl ?_
    refine st46 _ ?_
    show GG p e below T46 (mkF m 83 #[vR a1, vI 0, vI 0, vR at_, vI 1, vI (f_base et0 et0), vJ ((et0.toInt64) - ((f_base et0 et0).toInt64)), .second, .unset, .unset, .unset] [(.ref ol)]) _
    refine XS.iload X46.here hx rfl (bb d10_83) rfl ?_
    refine XS.aloadN X46.here hx rfl (bb d10_85) rfl rfl ?_
    refine XS.iload X46.here hx rfl (bb d10_86) rfl ?_
    refine X46.iaload hx (j := (1 : Int32)) (v := (.int et1)) (by rw [e46]; exact Ar48.1) (State.isArrayOf_alike hZ.alike Ar48.2.1) Ar48.2.2 hin48 (vH48.at hin48 rfl) (g := (mkF m 88 #[vR a1, vI 0, vI 0, vR at_, vI 1, vI (f_base et0 et0), vJ ((et0.toInt64) - ((f_base et0 et0).toInt64)), .second, .unset, .unset, .unset] [(.int 1), (.ref at_), (.int 1), (.ref ol)])) rfl rfl (bb d10_88) _ ?_
    show GG p e below T46 (mkF m 89 #[vR a1, vI 0, vI 0, vR at_, vI 1, vI (f_base et0 et0), vJ ((et0.toInt64) - ((f_base et0 et0).toInt64)), .second, .unset, .unset, .unset] [(.int et1), (.int 1), (.ref ol)]) _
    refine XS.aloadN X46.here hx rfl (bb d10_89) rfl rfl ?_
    refine st49 _ ?_
    show GG p e below T49 (mkF m 93 #[vR a1, vI 0, vI 0, vR at_, vI 1, vI (f_base et0 et0), vJ ((et0.toInt64) - ((f_base et0 et0).toInt64)), .second, .unset, .unset, .unset] [(.ref ol), (.int et1), (.int 1), (.ref ol)]) _
    refine XS.iload X49.here hx rfl (bb d10_93) rfl ?_
    refine X49.iaload hx (j := (1 : Int32)) (v := (.int et1)) (by rw [e49]; exact Ar51.1) (State.isArrayOf_alike hZ.alike Ar51.2.1) Ar51.2.2 hin51 (vH51.at hin51 rfl) (g := (mkF m 95 #[vR a1, vI 0, vI 0, vR at_, vI 1, vI (f_base et0 et0), vJ ((et0.toInt64) - ((f_base et0 et0).toInt64)), .second, .unset, .unset, .unset] [(.int 1), (.ref ol), (.int et1), (.int 1), (.ref ol)])) rfl rfl (bb d10_95) _ ?_
    show GG p e below T49 (mkF m 96 #[vR a1, vI 0, vI 0, vR at_, vI 1, vI (f_base et0 et0), vJ ((et0.toInt64) - ((f_base et0 et0).toInt64)), .second, .unset, .unset, .unset] [(.int et1), (.int et1), (.int 1), (.ref ol)]) _
    refine st52 _ ?_
    show GG p e below T52 (mkF m 99 #[vR a1, vI 0, vI 0, vR at_, vI 1, vI (f_base et0 et0), vJ ((et0.toInt64) - ((f_base et0 et0).toInt64)), .second, .unset, .unset, .unset] [(.int (f_minI et1 et1)), (.int 1), (.ref ol)]) _
    refine st54 _ ?_
    show GG p e below T54 (mkF m 100 #[vR a1, vI 0, vI 0, vR at_, vI 1, vI (f_base et0 et0), vJ ((et0.toInt64) - ((f_base et0 et0).toInt64)), .second, .unset, .unset, .unset] []) _
    refine XS.aloadN X54.here hx rfl (bb d10_100) rfl rfl ?_
    refine st55 _ ?_
    show GG p e below T55 (mkF m 104 #[vR a1, vI 0, vI 0, vR at_, vI 1, vI (f_base et0 et0), vJ ((et0.toInt64) - ((f_base et0 et0).toInt64)), .second, .unset, .unset, .unset] [(.ref oh)]) _
    refine XS.iload X55.here hx rfl (bb d10_104) rfl ?_
    refine XS.aloadN X55.here hx rfl (bb d10_106) rfl rfl ?_
    refine XS.iload X55.here hx rfl (bb d10_107) rfl ?_
    refine X55.iaload hx (j := (1 : Int32)) (v := (.int et1)) (by rw [e55]; exact Ar58.1) (State.isArrayOf_alike hZ.alike Ar58.2.1) Ar58.2.2 hin58 (vH58.at hin58 rfl) (g := (mkF m 109 #[vR a1, vI 0, vI 0, vR at_, vI 1, vI (f_base et0 et0), vJ ((et0.toInt64) - ((f_base et0 et0).toInt64)), .second, .unset, .unset, .unset] [(.int 1), (.ref at_), (.int 1), (.ref oh)])) rfl rfl (bb d10_109) _ ?_
    show GG p e below T55 (mkF m 110 #[vR a1, vI 0, vI 0, vR at_, vI 1, vI (f_base et0 et0), vJ ((et0.toInt64) - ((f_base et0 et0).toInt64)), .second, .unset, .unset, .unset] [(.int et1), (.int 1), (.ref oh)]) _
    refine XS.aloadN X55.here hx rfl (bb d10_110) rfl rfl ?_
    refine st59 _ ?_
    show GG p e below T59 (mkF m 114 #[vR a1, vI 0, vI 0, vR at_, vI 1, vI (f_base et0 et0), vJ ((et0.toInt64) - ((f_base et0 et0).toInt64)), .second, .unset, .unset, .unset] [(.ref oh), (.int et1), (.int 1), (.ref oh)]) _
    refine XS.iload X59.here hx rfl (bb d10_114) rfl ?_
    refine X59.iaload hx (j := (1 : Int32)) (v := (.int et1)) (by rw [e59]; exact Ar61.1) (State.isArrayOf_alike hZ.alike Ar61.2.1) Ar61.2.2 hin61 (vH61.at hin61 rfl) (g := (mkF m 116 #[vR a1, vI 0, vI 0, vR at_, vI 1, vI (f_base et0 et0), vJ ((et0.toInt64) - ((f_base et0 et0).toInt64)), .second, .unset, .unset, .unset] [(.int 1), (.ref oh), (.int et1), (.int 1), (.ref oh)])) rfl rfl (bb d10_116) _ ?_
    show GG p e below T59 (mkF m 117 #[vR a1, vI 0, vI 0, vR at_, vI 1, vI (f_base et0 et0), vJ ((et0.toInt64) - ((f_base et0 et0).toInt64)), .second, .unset, .unset, .unset] [(.int et1), (.int et1), (.int 1), (.ref oh)]) _
    refine st62 _ ?_
    show GG p e below T62 (mkF m 120 #[vR a1, vI 0, vI 0, vR at_, vI 1, vI (f_base et0 et0), vJ ((et0.toInt64) - ((f_base et0 et0).toInt64)), .second, .unset, .unset, .unset] [(.int (f_maxI et1 et1)), (.int 1), (.ref oh)]) _
    refine st64 _ ?_
    show GG p e below T64 (mkF m 121 #[vR a1, vI 0, vI 0, vR at_, vI 1, vI (f_base et0 et0), vJ ((et0.toInt64) - ((f_base et0 et0).toInt64)), .second, .unset, .unset, .unset] []) _
    refine XS.aloadN X64.here hx rfl (bb d10_121) rfl rfl ?_
    refine st65 _ ?_
    show GG p e below T65 (mkF m 125 #[vR a1, vI 0, vI 0, vR at_, vI 1, vI (f_base et0 et0), vJ ((et0.toInt64) - ((f_base et0 et0).toInt64)), .second, .unset, .unset, .unset] [(.ref ob)]) _
    refine XS.iloadN X65.here hx rfl (bb d10_125) rfl ?_
    refine XS.aloadN X65.here hx rfl (bb d10_126) rfl rfl ?_
    refine st67 _ ?_
    show GG p e below T67 (mkF m 130 #[vR a1, vI 0, vI 0, vR at_, vI 1, vI (f_base et0 et0), vJ ((et0.toInt64) - ((f_base et0 et0).toInt64)), .second, .unset, .unset, .unset] [(.int 2), (.int 0), (.ref ob)]) _
    refine XS.imul X67.here hx rfl (bb d10_130) rfl ?_
    refine XS.iload X67.here hx rfl (bb d10_131) rfl ?_
    refine XS.iadd X67.here hx rfl (bb d10_133) rfl ?_
    refine X67.iaload hx (j := (1 : Int32)) (v := (.int (f_base et1 et1))) (by rw [e67]; exact Ar70.1) (State.isArrayOf_alike hZ.alike Ar70.2.1) Ar70.2.2 hin70 (vH70.at hin70 rfl) (g := (mkF m 134 #[vR a1, vI 0, vI 0, vR at_, vI 1, vI (f_base et0 et0), vJ ((et0.toInt64) - ((f_base et0 et0).toInt64)), .second, .unset, .unset, .unset] [(.int 1), (.ref ob)])) rfl rfl (bb d10_134) _ ?_
    show GG p e below T67 (mkF m 135 #[vR a1, vI 0, vI 0, vR at_, vI 1, vI (f_base et0 et0), vJ ((et0.toInt64) - ((f_base et0 et0).toInt64)), .second, .unset, .unset, .unset] [(.int (f_base et1 et1))]) _
    refine XS.istore X67.here hx rfl (bb d10_135) rfl (l' := #[vR a1, vI 0, vI 0, vR at_, vI 1, vI (f_base et1 et1), vJ ((et0.toInt64) - ((f_base et0 et0).toInt64)), .second, .unset, .unset, .unset]) rfl ?_
    show GG p e below T67 (mkF m 137 #[vR a1, vI 0, vI 0, vR at_, vI 1, vI (f_base et1 et1), vJ ((et0.toInt64) - ((f_base et0 et0).toInt64)), .second, .unset, .unset, .unset] []) _
    refine XS.aloadN X67.here hx rfl (bb d10_137) rfl rfl ?_
    refine XS.iload X67.here hx rfl (bb d10_138) rfl ?_
    refine X67.iaload hx (j := (1 : Int32)) (v := (.int et1)) (by rw [e67]; exact Ar72.1) (State.isArrayOf_alike hZ.alike Ar72.2.1) Ar72.2.2 hin72 (vH72.at hin72 rfl) (g := (mkF m 140 #[vR a1, vI 0, vI 0, vR at_, vI 1, vI (f_base et1 et1), vJ ((et0.toInt64) - ((f_base et0 et0).toInt64)), .second, .unset, .unset, .unset] [(.int 1), (.ref at_)])) rfl rfl (bb d10_140) _ ?_
    show GG p e below T67 (mkF m 141 #[vR a1, vI 0, vI 0, vR at_, vI 1, vI (f_base et1 et1), vJ ((et0.toInt64) - ((f_base et0 et0).toInt64)), .second, .unset, .unset, .unset] [(.int et1)]) _
    refine XS.i2l X67.here hx rfl (bb d10_141) rfl ?_
    refine XS.iload X67.here hx rfl (bb d10_142) rfl ?_
    refine XS.i2l X67.here hx rfl (bb d10_144) rfl ?_
    refine XS.lsub X67.here hx rfl (bb d10_145) rfl ?_
    show GG p e below T67 (mkF m 146 #[vR a1, vI 0, vI 0, vR at_, vI 1, vI (f_base et1 et1), vJ ((et0.toInt64) - ((f_base et0 et0).toInt64)), .second, .unset, .unset, .unset] [(.long ((et1.toInt64) - ((f_base et1 et1).toInt64)))]) _
    refine XS.lstore X67.here hx rfl (bb d10_146) rfl (l' := #[vR a1, vI 0, vI 0, vR at_, vI 1, vI (f_base et1 et1), vJ ((et1.toInt64) - ((f_base et1 et1).toInt64)), .second, .unset, .unset, .unset]) rfl ?_
    show GG p e below T67 (mkF m 148 #[vR a1, vI 0, vI 0, vR at_, vI 1, vI (f_base et1 et1), vJ ((et1.toInt64) - ((f_base et1 et1).toInt64)), .second, .unset, .unset, .unset] []) _
    refine XS.lload X67.here hx rfl (bb d10_148) rfl ?_
    refine XS.lconst X67.here hx rfl (bb d10_150) ?_
    refine XS.lcmp X67.here hx rfl (bb d10_151) rfl ?_
    show GG p e below T67 (mkF m 152 #[vR a1, vI 0, vI 0, vR at_, vI 1, vI (f_base et1 et1), vJ ((et1.toInt64) - ((f_base et1 et1).toInt64)), .second, .unset, .unset, .unset] [(.int (lcmpW ((et1.toInt64) - ((f_base et1 et1).toInt64)) (0 : Int64)))]) _
    refine XS.ifNo X67.here hx rfl (bb d10_152) rfl ((if0 _ _).trans (flt (own_d0 et1)).1) ?_
    refine XS.lload X67.here hx rfl (bb d10_155) rfl ?_
    refine X67.ldc2Long hx hown (mvT hZ (wd74 hw)) (g := (mkF m 157 #[vR a1, vI 0, vI 0, vR at_, vI 1, vI (f_base et1 et1), vJ ((et1.toInt64) - ((f_base et1 et1).toInt64)), .second, .unset, .unset, .unset] [(.long ((et1.toInt64) - ((f_base et1 et1).toInt64)))])) rfl (bb d10_157) _ ?_
    show GG p e below T67 (mkF m 160 #[vR a1, vI 0, vI 0, vR at_, vI 1, vI (f_base et1 et1), vJ ((et1.toInt64) - ((f_base et1 et1).toInt64)), .second, .unset, .unset, .unset] [(.long 65536), (.long ((et1.toInt64) - ((f_base et1 et1).toInt64)))]) _
    refine XS.lcmp X67.here hx rfl (bb d10_160) rfl ?_
    show GG p e below T67 (mkF m 161 #[vR a1, vI 0, vI 0, vR at_, vI 1, vI (f_base et1 et1), vJ ((et1.toInt64) - ((f_base et1 et1).toInt64)), .second, .unset, .unset, .unset] [(.int (lcmpW ((et1.toInt64) - ((f_base et1 et1).toInt64)) (65536 : Int64)))]) _
    refine XS.ifYes X67.here hx rfl (pc0 := 161) (pc' := 249) rfl (bb d10_161) rfl ((if0 _ _).trans (tlt (own_e0 et1)).1) (by decide) (by decide) ?_
    show GG p e below T67 (mkF m 249 #[vR a1, vI 0, vI 0, vR at_, vI 1, vI (f_base et1 et1), vJ ((et1.toInt64) - ((f_base et1 et1).toInt64)), .second, .unset, .unset, .unset] []) _
    refine XS.iinc X67.here hx rfl (bb d10_249) rfl (l' := #[vR a1, vI 0, vI 0, vR at_, vI 2, vI (f_base et1 et1), vJ ((et1.toInt64) - ((f_base et1 et1).toInt64)), .second, .unset, .unset, .unset]) rfl ?_
    show GG p e below T67 (mkF m 252 #[vR a1, vI 0, vI 0, vR at_, vI 2, vI (f_base et1 et1), vJ ((et1.toInt64) - ((f_base et1 et1).toInt64)), .second, .unset, .unset, .unset] []) _
    refine XS.goto X67.here hx rfl (pc0 := 252) (pc' := 70) rfl (bb d10_252) (by decide) (by decide) ?_
    refine XS.iload X67.here hx rfl (bb d10_70) rfl ?_
    refine XS.aloadN X67.here hx rfl (bb d10_72) rfl rfl ?_
    refine st73 _ ?_
    show GG p e below T73 (mkF m 76 #[vR a1, vI 0, vI 0, vR at_, vI 2, vI (f_base et1 et1), vJ ((et1.toInt64) - ((f_base et1 et1).toInt64)), .second, .unset, .unset, .unset] [(.int 2), (.int 2)]) _
    refine XS.icmpYes X73.here hx rfl (pc0 := 76) (pc' := 255) rfl (bb d10_76) rfl (flt (by decide : ¬ ((2 : Int32) < (2 : Int32)))).2.1 (by decide) (by decide) ?_
    show GG p e below T73 (mkF m 255 #[vR a1, vI 0, vI 0, vR at_, vI 2, vI (f_base et1 et1), vJ ((et1.toInt64) - ((f_base et1 et1).toInt64)), .second, .unset, .unset, .unset] []) _
    exact X73.returnOut hx Bd.returns (bb d10_255) hr
  · show Q_fit2_0 Z a1 at_ ow on ob ol oh ov kw_ kn_ kb_ kl_ kh_ kv_ eb0 eb1 el0 el1 eu0 eu1 ex0 ex1 ex2 ex3 ex4 ex5 ex6 ex7 ex8 ex9 ex10 ex11 ex12 ex13 ex14 ex15 kt_ et0 et1 h0 n0 _ T73.heap _
    rw [e73]
    exact ⟨rfl, N64, (((((Keep.refl h0 [ol, oh]).wr W26 (Or.inl (List.mem_of_getElem? (i := 0) rfl))).wr W36 (Or.inl (List.mem_of_getElem? (i := 1) rfl))).wr W54 (Or.inl (List.mem_of_getElem? (i := 0) rfl))).wr W64 (Or.inl (List.mem_of_getElem? (i := 1) rfl))), (by have q := F74; simp only [own_maxS, own_minS] at q; exact q), (by have q := V64; simp only [own_maxS, own_minS] at q; exact q)⟩
def Q_fit2_1 (Z : State) (a1 at_ ow on ob ol oh ov : Addr) (kw_ kn_ kb_ kl_ kh_ kv_ : ClassId) (eb0 eb1 el0 el1 eu0 eu1 ev0_0 ev0_1 ex2 ex3 ex4 ex5 ex6 ex7 ex8 ex9 ex10 ex11 ex12 ex13 ex14 ex15 : Int32) (kt_ : ClassId) (et0 et1 : Int32) (h0 : Heap) (n0 : Nat) (v : Option Value) (h : Heap) (L : List Loc) : Prop := v = none ∧ Fr n0 L ∧ Keep h0 h [ob, ol, oh, ov] ∧ Arv Z h ol kl_ .int (2 : Int32) [(.int (f_minI et0 el0)), (.int (f_minI et1 el1))] (.int 0) ∧ Arv Z h oh kh_ .int (2 : Int32) [(.int (f_maxI et0 eu0)), (.int (f_maxI et1 eu1))] (.int 0) ∧ Arv Z h ob kb_ .int (2 : Int32) [(.int (nbase eb0 el0 eu0 et0)), (.int (nbase eb1 el1 eu1 et1))] (.int 0) ∧ Arv Z h ov kv_ .char (16 : Int32) [(.int (nar .char (ev0_0 - (nbase eb0 el0 eu0 et0)))), (.int (nar .char (ev0_1 - (nbase eb1 el1 eu1 et1)))), (.int ex2), (.int ex3), (.int ex4), (.int ex5), (.int ex6), (.int ex7), (.int ex8), (.int ex9), (.int ex10), (.int ex11), (.int ex12), (.int ex13), (.int ex14), (.int ex15)] (.int 0)
set_option maxRecDepth 65536 in
set_option maxHeartbeats 40000000 in
theorem rm_fit2_1 (l : Launch) (Z : State) (a0 : Array Value) (hw : ∀ d ∈ tables_1, d.before a0 Z = true) (ws : List Jvm.Cond) (a1 at_ ow on ob ol oh ov : Addr) (kw_ kn_ kb_ kl_ kh_ kv_ : ClassId) (eb0 eb1 el0 el1 eu0 eu1 ev0_0 ev0_1 ex2 ex3 ex4 ex5 ex6 ex7 ex8 ex9 ex10 ex11 ex12 ex13 ex14 ex15 : Int32) (kt_ : ClassId) (et0 et1 : Int32) (h0 : Heap) (n0 : Nat) (Z0 : n0 ≤ h0.size) (O0 : Old Z n0 h0) (S_CS : Sta Z Z.heap cRV "CHUNK_SHIFT" "I" (.int (12 : Int32))) (r0 : Exa Z h0 a1 cRV) (r1 : Fld Z h0 a1 cRV "arity" "I" (.int 2)) (r2 : Fld Z h0 a1 cRV "rows" "I" (.int 1)) (r3 : Fld Z h0 a1 cRV "wide" "[[I" (.ref ow)) (r4 : Fld Z h0 a1 cRV "narrow" "[[C" (.ref on)) (r5 : Fld Z h0 a1 cRV "bases" "[I" (.ref ob)) (r6 : Fld Z h0 a1 cRV "lowest" "[I" (.ref ol)) (r7 : Fld Z h0 a1 cRV "highest" "[I" (.ref oh)) (r8 : Arv Z h0 ow kw_ (.array .int) (1 : Int32) [.null] .null) (r9 : OvrA Z kw_ .int "[I") (r10 : Arv Z h0 on kn_ (.array .char) (1 : Int32) [(.ref ov)] .null) (r11 : OvrA Z kn_ .char "[C") (r12 : Arv Z h0 ob kb_ .int (2 : Int32) [(.int eb0), (.int eb1)] (.int 0)) (r13 : Arv Z h0 ol kl_ .int (2 : Int32) [(.int el0), (.int el1)] (.int 0)) (r14 : Arv Z h0 oh kh_ .int (2 : Int32) [(.int eu0), (.int eu1)] (.int 0)) (r15 : Arv Z h0 ov kv_ .char (16 : Int32) [(.int (nar .char (ev0_0 - eb0))), (.int (nar .char (ev0_1 - eb1))), (.int ex2), (.int ex3), (.int ex4), (.int ex5), (.int ex6), (.int ex7), (.int ex8), (.int ex9), (.int ex10), (.int ex11), (.int ex12), (.int ex13), (.int ex14), (.int ex15)] (.int 0)) (r16 : Arv Z h0 at_ kt_ .int (2 : Int32) [(.int et0), (.int et1)] (.int 0)) (g_ob : n0 ≤ ob) (g_ol : n0 ≤ ol) (g_oh : n0 ≤ oh) (g_ov : n0 ≤ ov) (ne_a1_ow : a1 ≠ ow) (ne_a1_on : a1 ≠ on) (ne_a1_ob : a1 ≠ ob) (ne_a1_ol : a1 ≠ ol) (ne_a1_oh : a1 ≠ oh) (ne_a1_ov : a1 ≠ ov) (ne_ow_on : ow ≠ on) (ne_ow_ob : ow ≠ ob) (ne_ow_ol : ow ≠ ol) (ne_ow_oh : ow ≠ oh) (ne_ow_ov : ow ≠ ov) (ne_on_ob : on ≠ ob) (ne_on_ol : on ≠ ol) (ne_on_oh : on ≠ oh) (ne_on_ov : on ≠ ov) (ne_ob_ol : ob ≠ ol) (ne_ob_oh : ob ≠ oh) (ne_ob_ov : ob ≠ ov) (ne_ol_oh : ol ≠ oh) (ne_ol_ov : ol ≠ ov) (ne_oh_ov : oh ≠ ov) (ne_at__a1 : at_ ≠ a1) (ne_at__ow : at_ ≠ ow) (ne_at__on : at_ ≠ on) (ne_at__ob : at_ ≠ ob) (ne_at__ol : at_ ≠ ol) (ne_at__oh : at_ ≠ oh) (ne_at__ov : at_ ≠ ov) (hs0 : (lcmpW (((f_maxI et0 eu0).toInt64) - ((f_minI et0 el0).toInt64)) (65536 : Int64)) < (0 : Int32)) (hs1 : (lcmpW (((f_maxI et1 eu1).toInt64) - ((f_minI et1 el1).toInt64)) (65536 : Int64)) < (0 : Int32)) :
    MetFree l (⟨cRV, "fit", "(II[I)V"⟩ : MethodName) (head1 (Jvm.Cond.code (⟨cRV, "fit", "(II[I)V"⟩ : MethodName) prog_47_method_7_code 11 none :: ws) ({ frames := 2, cells := 0, slots := 0, locals := 30 } : Room)) (fun a U => a = #[(.ref a1), (.int 0), (.int 1), (.ref at_)] ∧ Z.Warmed39 U.vm ∧ U.heap = h0) (fun _ _ _ _ _ => True) (fun _ U o U' => ∃ v L, o = .returned v ∧ Q_fit2_1 Z a1 at_ ow on ob ol oh ov kw_ kn_ kb_ kl_ kh_ kv_ eb0 eb1 el0 el1 eu0 eu1 ev0_0 ev0_1 ex2 ex3 ex4 ex5 ex6 ex7 ex8 ex9 ex10 ex11 ex12 ex13 ex14 ex15 kt_ et0 et1 h0 n0 v U'.heap L ∧ FrameEnd U o U' L ({ frames := 2, cells := 0, slots := 0, locals := 30 } : Room).cells ({ frames := 2, cells := 0, slots := 0, locals := 30 } : Room).slots) := by
  refine MetFree.of_bodySF (plainFor_of_name pn_RowValues) hisR ?_
  intro p e s m args below meth c s₁ Bd hml0 hP hK
  obtain ⟨rfl, hZ, hh⟩ := hP
  have hx := Bd.exec
  have hby := Bd.bytes
  have bb := fun {pc : Nat} {r : Except DecodeError (Instr × Nat)} (h : decode prog_47_method_7_code pc = r) => hb hby h
  have hml : c.maxLocals = 11 := hml0
  have hown : s.vm.findClass cRV = some m.cls := findClass_of_methodNamed Bd.named
  have hnm := (name_of_methodNamed Bd.named Bd.method).1
  have X0 : Stand p l e ({ frames := 2, cells := 0, slots := 0, locals := 30 } : Room) s m #[(.ref a1), (.int 0), (.int 1), (.ref at_)] below meth c s₁ [] 0 0 := Stand.of_body Bd
  have e0 : s₁.heap = h0 := by rw [← hh, Bd.state]; rfl
  have N0 := Fr.nil n0
  have pre0 : ∀ t, Steps p.tables e below (s₁.setTop (mkF m 0 #[vR a1, vI 0, vI 1, vR at_, .unset, .unset, .unset, .unset, .unset, .unset, .unset] [])) t → Steps p.tables e below (s₁.setTop (entryFrame m #[(.ref a1), (.int 0), (.int 1), (.ref at_)] 11)) t := fun t k => castTop (ef_fit2_1 m a1 at_) k
  obtain ⟨T1, X1, e1, st1⟩ := getF X0 hx hZ hown (host := "") (Or.inl (wd23 hw)) Via.refl e0 r1 (g := (mkF m 6 #[vR a1, vI 0, vI 1, vR at_, vI 0, .unset, .unset, .unset, .unset, .unset, .unset] [(.ref a1), (.int 0)])) rfl rfl (bb d10_6)
  obtain ⟨cl2, Ar2, vq2, vS2, vN2, vH2, vG2⟩ := id r16
  have hin2 : ¬ (((0 : Int32) : Int32) < 0 ∨ cl2.slots.size ≤ ((0 : Int32) : Int32).toNatClampNeg) := inb_of vS2 ⟨by decide, by decide⟩
  obtain ⟨T3, X3, e3, st3⟩ := getF X1 hx hZ hown (host := "") (Or.inl (wd29 hw)) Via.refl e1 r7 (g := (mkF m 17 #[vR a1, vI 0, vI 1, vR at_, vI 0, .unset, .unset, .unset, .unset, .unset, .unset] [(.ref a1), (.int et0)])) rfl rfl (bb d10_17)
  obtain ⟨cl4, Ar4, vq4, vS4, vN4, vH4, vG4⟩ := id r14
  have hin4 : ¬ (((0 : Int32) : Int32) < 0 ∨ cl4.slots.size ≤ ((0 : Int32) : Int32).toNatClampNeg) := inb_of vS4 ⟨by decide, by decide⟩
  obtain ⟨_, _, ⟨T5, L5, k5, n5⟩, -, X5, ⟨Lc5, hQ5, l5, y5, z5⟩, st5⟩ := Jvm.LawKit.callS X3 hx (y := (⟨"java/lang/Math", "max", "(II)I"⟩ : MethodName)) hown (mvT hZ (wd71 hw)) (mvT hZ (wd72 hw)) (mvT hZ (wd54 hw)) (mvT hZ (wd73 hw)) (by decide) (backOf (W := 0) (rm_maxI l Z a0 hw [] et0 eu0 h0 n0 (own_z0 O0) O0 S_CS) hZ (wd73 hw) (wd54 hw) (by decide) (by decide)) (g := (mkF m 23 #[vR a1, vI 0, vI 1, vR at_, vI 0, .unset, .unset, .unset, .unset, .unset, .unset] [(.int eu0), (.int et0)])) rfl (by rw [hml]; rfl) (argsL := [(.int et0), (.int eu0)]) (rest := []) (lenOf pd__II_I_5 rfl) rfl (by show 2 * 0 + _ ≤ _; exact Nat.le_of_eq rfl) (bb d10_23) (fun _ _ => ⟨rfl, e3, (by decide : 0 + 0 ≤ _), (by decide : 0 + 0 ≤ _)⟩)
  dsimp only [Pt.U, Pt.locs, Pt.cells, Pt.slots] at X5 l5 y5 z5 st5 hQ5
  subst l5 y5 z5
  obtain ⟨rfl, N5q, e5⟩ := hQ5
  have N5 := Fr.app N0 N5q
  obtain ⟨cl6, Ar6, vq6, vS6, vN6, vH6, vG6⟩ := id r16
  have hin6 : ¬ (((0 : Int32) : Int32) < 0 ∨ cl6.slots.size ≤ ((0 : Int32) : Int32).toNatClampNeg) := inb_of vS6 ⟨by decide, by decide⟩
  obtain ⟨T7, X7, e7, st7⟩ := getF X5 hx hZ hown (host := "") (Or.inl (wd27 hw)) Via.refl e5 r6 (g := (mkF m 32 #[vR a1, vI 0, vI 1, vR at_, vI 0, .unset, .unset, .unset, .unset, .unset, .unset] [(.ref a1), (.int et0), (.long ((f_maxI et0 eu0).toInt64))])) rfl rfl (bb d10_32)
  obtain ⟨cl8, Ar8, vq8, vS8, vN8, vH8, vG8⟩ := id r13
  have hin8 : ¬ (((0 : Int32) : Int32) < 0 ∨ cl8.slots.size ≤ ((0 : Int32) : Int32).toNatClampNeg) := inb_of vS8 ⟨by decide, by decide⟩
  obtain ⟨_, _, ⟨T9, L9, k9, n9⟩, -, X9, ⟨Lc9, hQ9, l9, y9, z9⟩, st9⟩ := Jvm.LawKit.callS X7 hx (y := (⟨"java/lang/Math", "min", "(II)I"⟩ : MethodName)) hown (mvT hZ (wd64 hw)) (mvT hZ (wd65 hw)) (mvT hZ (wd54 hw)) (mvT hZ (wd66 hw)) (by decide) (backOf (W := 2) (rm_minI l Z a0 hw [] et0 el0 h0 n0 (own_z0 O0) O0 S_CS) hZ (wd66 hw) (wd54 hw) (by decide) (by decide)) (g := (mkF m 38 #[vR a1, vI 0, vI 1, vR at_, vI 0, .unset, .unset, .unset, .unset, .unset, .unset] [(.int el0), (.int et0), (.long ((f_maxI et0 eu0).toInt64))])) rfl (by rw [hml]; rfl) (argsL := [(.int et0), (.int el0)]) (rest := [(.long ((f_maxI et0 eu0).toInt64))]) (lenOf pd__II_I_5 rfl) rfl (by show 2 * 0 + _ ≤ _; exact Nat.le_of_eq rfl) (bb d10_38) (fun _ _ => ⟨rfl, e7, (by decide : 0 + 0 ≤ _), (by decide : 0 + 0 ≤ _)⟩)
  dsimp only [Pt.U, Pt.locs, Pt.cells, Pt.slots] at X9 l9 y9 z9 st9 hQ9
  subst l9 y9 z9
  obtain ⟨rfl, N9q, e9⟩ := hQ9
  have N9 := Fr.app N5 N9q
  obtain ⟨T10, X10, e10, st10⟩ := getF X9 hx hZ hown (host := "") (Or.inl (wd23 hw)) Via.refl e9 r1 (g := (mkF m 6 #[vR a1, vI 0, vI 1, vR at_, vI 1, vJ (((f_maxI et0 eu0).toInt64) - ((f_minI et0 el0).toInt64)), .second, .unset, .unset, .unset, .unset] [(.ref a1), (.int 1)])) rfl rfl (bb d10_6)
  obtain ⟨cl11, Ar11, vq11, vS11, vN11, vH11, vG11⟩ := id r16
  have hin11 : ¬ (((1 : Int32) : Int32) < 0 ∨ cl11.slots.size ≤ ((1 : Int32) : Int32).toNatClampNeg) := inb_of vS11 ⟨by decide, by decide⟩
  obtain ⟨T12, X12, e12, st12⟩ := getF X10 hx hZ hown (host := "") (Or.inl (wd29 hw)) Via.refl e10 r7 (g := (mkF m 17 #[vR a1, vI 0, vI 1, vR at_, vI 1, vJ (((f_maxI et0 eu0).toInt64) - ((f_minI et0 el0).toInt64)), .second, .unset, .unset, .unset, .unset] [(.ref a1), (.int et1)])) rfl rfl (bb d10_17)
  obtain ⟨cl13, Ar13, vq13, vS13, vN13, vH13, vG13⟩ := id r14
  have hin13 : ¬ (((1 : Int32) : Int32) < 0 ∨ cl13.slots.size ≤ ((1 : Int32) : Int32).toNatClampNeg) := inb_of vS13 ⟨by decide, by decide⟩
  obtain ⟨_, _, ⟨T14, L14, k14, n14⟩, -, X14, ⟨Lc14, hQ14, l14, y14, z14⟩, st14⟩ := Jvm.LawKit.callS X12 hx (y := (⟨"java/lang/Math", "max", "(II)I"⟩ : MethodName)) hown (mvT hZ (wd71 hw)) (mvT hZ (wd72 hw)) (mvT hZ (wd54 hw)) (mvT hZ (wd73 hw)) (by decide) (backOf (W := 0) (rm_maxI l Z a0 hw [] et1 eu1 h0 n0 (own_z0 O0) O0 S_CS) hZ (wd73 hw) (wd54 hw) (by decide) (by decide)) (g := (mkF m 23 #[vR a1, vI 0, vI 1, vR at_, vI 1, vJ (((f_maxI et0 eu0).toInt64) - ((f_minI et0 el0).toInt64)), .second, .unset, .unset, .unset, .unset] [(.int eu1), (.int et1)])) rfl (by rw [hml]; rfl) (argsL := [(.int et1), (.int eu1)]) (rest := []) (lenOf pd__II_I_5 rfl) rfl (by show 2 * 0 + _ ≤ _; exact Nat.le_of_eq rfl) (bb d10_23) (fun _ _ => ⟨rfl, e12, (by decide : 0 + 0 ≤ _), (by decide : 0 + 0 ≤ _)⟩)
  dsimp only [Pt.U, Pt.locs, Pt.cells, Pt.slots] at X14 l14 y14 z14 st14 hQ14
  subst l14 y14 z14
  obtain ⟨rfl, N14q, e14⟩ := hQ14
  have N14 := Fr.app N9 N14q
  obtain ⟨cl15, Ar15, vq15, vS15, vN15, vH15, vG15⟩ := id r16
  have hin15 : ¬ (((1 : Int32) : Int32) < 0 ∨ cl15.slots.size ≤ ((1 : Int32) : Int32).toNatClampNeg) := inb_of vS15 ⟨by decide, by decide⟩
  obtain ⟨T16, X16, e16, st16⟩ := getF X14 hx hZ hown (host := "") (Or.inl (wd27 hw)) Via.refl e14 r6 (g := (mkF m 32 #[vR a1, vI 0, vI 1, vR at_, vI 1, vJ (((f_maxI et0 eu0).toInt64) - ((f_minI et0 el0).toInt64)), .second, .unset, .unset, .unset, .unset] [(.ref a1), (.int et1), (.long ((f_maxI et1 eu1).toInt64))])) rfl rfl (bb d10_32)
  obtain ⟨cl17, Ar17, vq17, vS17, vN17, vH17, vG17⟩ := id r13
  have hin17 : ¬ (((1 : Int32) : Int32) < 0 ∨ cl17.slots.size ≤ ((1 : Int32) : Int32).toNatClampNeg) := inb_of vS17 ⟨by decide, by decide⟩
  obtain ⟨_, _, ⟨T18, L18, k18, n18⟩, -, X18, ⟨Lc18, hQ18, l18, y18, z18⟩, st18⟩ := Jvm.LawKit.callS X16 hx (y := (⟨"java/lang/Math", "min", "(II)I"⟩ : MethodName)) hown (mvT hZ (wd64 hw)) (mvT hZ (wd65 hw)) (mvT hZ (wd54 hw)) (mvT hZ (wd66 hw)) (by decide) (backOf (W := 2) (rm_minI l Z a0 hw [] et1 el1 h0 n0 (own_z0 O0) O0 S_CS) hZ (wd66 hw) (wd54 hw) (by decide) (by decide)) (g := (mkF m 38 #[vR a1, vI 0, vI 1, vR at_, vI 1, vJ (((f_maxI et0 eu0).toInt64) - ((f_minI et0 el0).toInt64)), .second, .unset, .unset, .unset, .unset] [(.int el1), (.int et1), (.long ((f_maxI et1 eu1).toInt64))])) rfl (by rw [hml]; rfl) (argsL := [(.int et1), (.int el1)]) (rest := [(.long ((f_maxI et1 eu1).toInt64))]) (lenOf pd__II_I_5 rfl) rfl (by show 2 * 0 + _ ≤ _; exact Nat.le_of_eq rfl) (bb d10_38) (fun _ _ => ⟨rfl, e16, (by decide : 0 + 0 ≤ _), (by decide : 0 + 0 ≤ _)⟩)
  dsimp only [Pt.U, Pt.locs, Pt.cells, Pt.slots] at X18 l18 y18 z18 st18 hQ18
  subst l18 y18 z18
  obtain ⟨rfl, N18q, e18⟩ := hQ18
  have N18 := Fr.app N14 N18q
  obtain ⟨T19, X19, e19, st19⟩ := getF X18 hx hZ hown (host := "") (Or.inl (wd23 hw)) Via.refl e18 r1 (g := (mkF m 6 #[vR a1, vI 0, vI 1, vR at_, vI 2, vJ (((f_maxI et1 eu1).toInt64) - ((f_minI et1 el1).toInt64)), .second, .unset, .unset, .unset, .unset] [(.ref a1), (.int 2)])) rfl rfl (bb d10_6)
  obtain ⟨T20, X20, e20, st20⟩ := getF X19 hx hZ hown (host := "") (Or.inl (wd23 hw)) Via.refl e19 r1 (g := (mkF m 73 #[vR a1, vI 0, vI 1, vR at_, vI 0, vJ (((f_maxI et1 eu1).toInt64) - ((f_minI et1 el1).toInt64)), .second, .unset, .unset, .unset, .unset] [(.ref a1), (.int 0)])) rfl rfl (bb d10_73)
  obtain ⟨T21, X21, e21, st21⟩ := getF X20 hx hZ hown (host := "") (Or.inl (wd27 hw)) Via.refl e20 r6 (g := (mkF m 80 #[vR a1, vI 0, vI 1, vR at_, vI 0, vJ (((f_maxI et1 eu1).toInt64) - ((f_minI et1 el1).toInt64)), .second, .unset, .unset, .unset, .unset] [(.ref a1)])) rfl rfl (bb d10_80)
  obtain ⟨cl22, Ar22, vq22, vS22, vN22, vH22, vG22⟩ := id r16
  have hin22 : ¬ (((0 : Int32) : Int32) < 0 ∨ cl22.slots.size ≤ ((0 : Int32) : Int32).toNatClampNeg) := inb_of vS22 ⟨by decide, by decide⟩
  obtain ⟨T23, X23, e23, st23⟩ := getF X21 hx hZ hown (host := "") (Or.inl (wd27 hw)) Via.refl e21 r6 (g := (mkF m 90 #[vR a1, vI 0, vI 1, vR at_, vI 0, vJ (((f_maxI et1 eu1).toInt64) - ((f_minI et1 el1).toInt64)), .second, .unset, .unset, .unset, .unset] [(.ref a1), (.int et0), (.int 0), (.ref ol)])) rfl rfl (bb d10_90)
  obtain ⟨cl24, Ar24, vq24, vS24, vN24, vH24, vG24⟩ := id r13
  have hin24 : ¬ (((0 : Int32) : Int32) < 0 ∨ cl24.slots.size ≤ ((0 : Int32) : Int32).toNatClampNeg) := inb_of vS24 ⟨by decide, by decide⟩
  obtain ⟨_, _, ⟨T25, L25, k25, n25⟩, -, X25, ⟨Lc25, hQ25, l25, y25, z25⟩, st25⟩ := Jvm.LawKit.callS X23 hx (y := (⟨"java/lang/Math", "min", "(II)I"⟩ : MethodName)) hown (mvT hZ (wd64 hw)) (mvT hZ (wd65 hw)) (mvT hZ (wd54 hw)) (mvT hZ (wd66 hw)) (by decide) (backOf (W := 2) (rm_minI l Z a0 hw [] et0 el0 h0 n0 (own_z0 O0) O0 S_CS) hZ (wd66 hw) (wd54 hw) (by decide) (by decide)) (g := (mkF m 96 #[vR a1, vI 0, vI 1, vR at_, vI 0, vJ (((f_maxI et1 eu1).toInt64) - ((f_minI et1 el1).toInt64)), .second, .unset, .unset, .unset, .unset] [(.int el0), (.int et0), (.int 0), (.ref ol)])) rfl (by rw [hml]; rfl) (argsL := [(.int et0), (.int el0)]) (rest := [(.int 0), (.ref ol)]) (lenOf pd__II_I_5 rfl) rfl (by show 2 * 0 + _ ≤ _; exact Nat.le_of_eq rfl) (bb d10_96) (fun _ _ => ⟨rfl, e23, (by decide : 0 + 0 ≤ _), (by decide : 0 + 0 ≤ _)⟩)
  dsimp only [Pt.U, Pt.locs, Pt.cells, Pt.slots] at X25 l25 y25 z25 st25 hQ25
  subst l25 y25 z25
  obtain ⟨rfl, N25q, e25⟩ := hQ25
  have N25 := Fr.app N18 N25q
  obtain ⟨cl26, Ar26, vq26, vS26, vN26, vH26, vG26⟩ := id r13
  have hin26 : ¬ (((0 : Int32) : Int32) < 0 ∨ cl26.slots.size ≤ ((0 : Int32) : Int32).toNatClampNeg) := inb_of vS26 ⟨by decide, by decide⟩
  obtain ⟨T26, h26, X26, e26, W26, st26⟩ := stI X25 hx hZ e25 Ar26 (j := (0 : Int32)) hin26 (g := (mkF m 99 #[vR a1, vI 0, vI 1, vR at_, vI 0, vJ (((f_maxI et1 eu1).toInt64) - ((f_minI et1 el1).toInt64)), .second, .unset, .unset, .unset, .unset] [(.int (f_minI et0 el0)), (.int 0), (.ref ol)])) rfl rfl (bb d10_99)
  have V26 : Arv Z h26 ol kl_ .int (2 : Int32) [(.int (f_minI et0 el0)), (.int el1)] (.int 0) := Arv.set Ar26 vq26 vS26 vN26 vH26 vG26 rfl W26 0 rfl (Nat.le_of_ble_eq_true rfl)
  have N26 := Fr.snoc X26 N25 g_ol
  have F28 := (r7.other W26 (Or.inl ne_a1_ol))
  obtain ⟨T27, X27, e27, st27⟩ := getF X26 hx hZ hown (host := "") (Or.inl (wd29 hw)) Via.refl e26 F28 (g := (mkF m 101 #[vR a1, vI 0, vI 1, vR at_, vI 0, vJ (((f_maxI et1 eu1).toInt64) - ((f_minI et1 el1).toInt64)), .second, .unset, .unset, .unset, .unset] [(.ref a1)])) rfl rfl (bb d10_101)
  have F29 := (r16.other W26 ne_at__ol)
  obtain ⟨cl30, Ar30, vq30, vS30, vN30, vH30, vG30⟩ := id F29
  have hin30 : ¬ (((0 : Int32) : Int32) < 0 ∨ cl30.slots.size ≤ ((0 : Int32) : Int32).toNatClampNeg) := inb_of vS30 ⟨by decide, by decide⟩
  obtain ⟨T31, X31, e31, st31⟩ := getF X27 hx hZ hown (host := "") (Or.inl (wd29 hw)) Via.refl e27 F28 (g := (mkF m 111 #[vR a1, vI 0, vI 1, vR at_, vI 0, vJ (((f_maxI et1 eu1).toInt64) - ((f_minI et1 el1).toInt64)), .second, .unset, .unset, .unset, .unset] [(.ref a1), (.int et0), (.int 0), (.ref oh)])) rfl rfl (bb d10_111)
  have F32 := (r14.other W26 (Ne.symm ne_ol_oh))
  obtain ⟨cl33, Ar33, vq33, vS33, vN33, vH33, vG33⟩ := id F32
  have hin33 : ¬ (((0 : Int32) : Int32) < 0 ∨ cl33.slots.size ≤ ((0 : Int32) : Int32).toNatClampNeg) := inb_of vS33 ⟨by decide, by decide⟩
  have O35 := (O0.wr W26 g_ol)
  obtain ⟨_, _, ⟨T34, L34, k34, n34⟩, -, X34, ⟨Lc34, hQ34, l34, y34, z34⟩, st34⟩ := Jvm.LawKit.callS X31 hx (y := (⟨"java/lang/Math", "max", "(II)I"⟩ : MethodName)) hown (mvT hZ (wd71 hw)) (mvT hZ (wd72 hw)) (mvT hZ (wd54 hw)) (mvT hZ (wd73 hw)) (by decide) (backOf (W := 2) (rm_maxI l Z a0 hw [] et0 eu0 h26 n0 (own_z0 O35) O35 S_CS) hZ (wd73 hw) (wd54 hw) (by decide) (by decide)) (g := (mkF m 117 #[vR a1, vI 0, vI 1, vR at_, vI 0, vJ (((f_maxI et1 eu1).toInt64) - ((f_minI et1 el1).toInt64)), .second, .unset, .unset, .unset, .unset] [(.int eu0), (.int et0), (.int 0), (.ref oh)])) rfl (by rw [hml]; rfl) (argsL := [(.int et0), (.int eu0)]) (rest := [(.int 0), (.ref oh)]) (lenOf pd__II_I_5 rfl) rfl (by show 2 * 0 + _ ≤ _; exact Nat.le_of_eq rfl) (bb d10_117) (fun _ _ => ⟨rfl, e31, (by decide : 0 + 0 ≤ _), (by decide : 0 + 0 ≤ _)⟩)
  dsimp only [Pt.U, Pt.locs, Pt.cells, Pt.slots] at X34 l34 y34 z34 st34 hQ34
  subst l34 y34 z34
  obtain ⟨rfl, N34q, e34⟩ := hQ34
  have N34 := Fr.app N26 N34q
  obtain ⟨cl36, Ar36, vq36, vS36, vN36, vH36, vG36⟩ := id F32
  have hin36 : ¬ (((0 : Int32) : Int32) < 0 ∨ cl36.slots.size ≤ ((0 : Int32) : Int32).toNatClampNeg) := inb_of vS36 ⟨by decide, by decide⟩
  obtain ⟨T36, h36, X36, e36, W36, st36⟩ := stI X34 hx hZ e34 Ar36 (j := (0 : Int32)) hin36 (g := (mkF m 120 #[vR a1, vI 0, vI 1, vR at_, vI 0, vJ (((f_maxI et1 eu1).toInt64) - ((f_minI et1 el1).toInt64)), .second, .unset, .unset, .unset, .unset] [(.int (f_maxI et0 eu0)), (.int 0), (.ref oh)])) rfl rfl (bb d10_120)
  have V36 : Arv Z h36 oh kh_ .int (2 : Int32) [(.int (f_maxI et0 eu0)), (.int eu1)] (.int 0) := Arv.set Ar36 vq36 vS36 vN36 vH36 vG36 rfl W36 0 rfl (Nat.le_of_ble_eq_true rfl)
  have N36 := Fr.snoc X36 N34 g_oh
  have F38 := ((r5.other W26 (Or.inl ne_a1_ol)).other W36 (Or.inl ne_a1_oh))
  obtain ⟨T37, X37, e37, st37⟩ := getF X36 hx hZ hown (host := "") (Or.inl (wd25 hw)) Via.refl e36 F38 (g := (mkF m 122 #[vR a1, vI 0, vI 1, vR at_, vI 0, vJ (((f_maxI et1 eu1).toInt64) - ((f_minI et1 el1).toInt64)), .second, .unset, .unset, .unset, .unset] [(.ref a1)])) rfl rfl (bb d10_122)
  have F40 := ((r1.other W26 (Or.inl ne_a1_ol)).other W36 (Or.inl ne_a1_oh))
  obtain ⟨T39, X39, e39, st39⟩ := getF X37 hx hZ hown (host := "") (Or.inl (wd23 hw)) Via.refl e37 F40 (g := (mkF m 127 #[vR a1, vI 0, vI 1, vR at_, vI 0, vJ (((f_maxI et1 eu1).toInt64) - ((f_minI et1 el1).toInt64)), .second, .unset, .unset, .unset, .unset] [(.ref a1), (.int 0), (.ref ob)])) rfl rfl (bb d10_127)
  have F41 := ((r12.other W26 ne_ob_ol).other W36 ne_ob_oh)
  obtain ⟨cl42, Ar42, vq42, vS42, vN42, vH42, vG42⟩ := id F41
  have hin42 : ¬ (((0 : Int32) : Int32) < 0 ∨ cl42.slots.size ≤ ((0 : Int32) : Int32).toNatClampNeg) := inb_of vS42 ⟨by decide, by decide⟩
  have F43 := (F29.other W36 ne_at__oh)
  obtain ⟨cl44, Ar44, vq44, vS44, vN44, vH44, vG44⟩ := id F43
  have hin44 : ¬ (((0 : Int32) : Int32) < 0 ∨ cl44.slots.size ≤ ((0 : Int32) : Int32).toNatClampNeg) := inb_of vS44 ⟨by decide, by decide⟩
  have pre45 : ∀ t, GG p e below T39 (mkF m 148 #[vR a1, vI 0, vI 1, vR at_, vI 0, vI eb0, vJ ((et0.toInt64) - (eb0.toInt64)), .second, .unset, .unset, .unset] []) t → GG p e below s₁ (entryFrame m #[(.ref a1), (.int 0), (.int 1), (.ref at_)] 11) t := fun t k => pre0 t (by
      show GG p e below s₁ (mkF m 0 #[vR a1, vI 0, vI 1, vR at_, .unset, .unset, .unset, .unset, .unset, .unset, .unset] []) _
      refine XS.iconst X0.here hx rfl (bb d10_0) ?_
      refine XS.istore X0.here hx rfl (bb d10_1) rfl (l' := #[vR a1, vI 0, vI 1, vR at_, vI 0, .unset, .unset, .unset, .unset, .unset, .unset]) rfl ?_
      show GG p e below s₁ (mkF m 3 #[vR a1, vI 0, vI 1, vR at_, vI 0, .unset, .unset, .unset, .unset, .unset, .unset] []) _
      refine XS.iload X0.here hx rfl (bb d10_3) rfl ?_
      refine XS.aloadN X0.here hx rfl (bb d10_5) rfl rfl ?_
      refine st1 _ ?_
      show GG p e below T1 (mkF m 9 #[vR a1, vI 0, vI 1, vR at_, vI 0, .unset, .unset, .unset, .unset, .unset, .unset] [(.int 2), (.int 0)]) _
      refine XS.icmpNo X1.here hx rfl (bb d10_9) rfl (tlt (by decide : (0 : Int32) < (2 : Int32))).2.1 ?_
      refine XS.aloadN X1.here hx rfl (bb d10_12) rfl rfl ?_
      refine XS.iload X1.here hx rfl (bb d10_13) rfl ?_
      refine X1.iaload hx (j := (0 : Int32)) (v := (.int et0)) (by rw [e1]; exact Ar2.1) (State.isArrayOf_alike hZ.alike Ar2.2.1) Ar2.2.2 hin2 (vH2.at hin2 rfl) (g := (mkF m 15 #[vR a1, vI 0, vI 1, vR at_, vI 0, .unset, .unset, .unset, .unset, .unset, .unset] [(.int 0), (.ref at_)])) rfl rfl (bb d10_15) _ ?_
      show GG p e below T1 (mkF m 16 #[vR a1, vI 0, vI 1, vR at_, vI 0, .unset, .unset, .unset, .unset, .unset, .unset] [(.int et0)]) _
      refine XS.aloadN X1.here hx rfl (bb d10_16) rfl rfl ?_
      refine st3 _ ?_
      show GG p e below T3 (mkF m 20 #[vR a1, vI 0, vI 1, vR at_, vI 0, .unset, .unset, .unset, .unset, .unset, .unset] [(.ref oh), (.int et0)]) _
      refine XS.iload X3.here hx rfl (bb d10_20) rfl ?_
      refine X3.iaload hx (j := (0 : Int32)) (v := (.int eu0)) (by rw [e3]; exact Ar4.1) (State.isArrayOf_alike hZ.alike Ar4.2.1) Ar4.2.2 hin4 (vH4.at hin4 rfl) (g := (mkF m 22 #[vR a1, vI 0, vI 1, vR at_, vI 0, .unset, .unset, .unset, .unset, .unset, .unset] [(.int 0), (.ref oh), (.int et0)])) rfl rfl (bb d10_22) _ ?_
      show GG p e below T3 (mkF m 23 #[vR a1, vI 0, vI 1, vR at_, vI 0, .unset, .unset, .unset, .unset, .unset, .unset] [(.int eu0), (.int et0)]) _
      refine st5 _ ?_
      show GG p e below T5 (mkF m 26 #[vR a1, vI 0, vI 1, vR at_, vI 0, .unset, .unset, .unset, .unset, .unset, .unset] [(.int (f_maxI et0 eu0))]) _
      refine XS.i2l X5.here hx rfl (bb d10_26) rfl ?_
      refine XS.aloadN X5.here hx rfl (bb d10_27) rfl rfl ?_
      refine XS.iload X5.here hx rfl (bb d10_28) rfl ?_
      refine X5.iaload hx (j := (0 : Int32)) (v := (.int et0)) (by rw [e5]; exact Ar6.1) (State.isArrayOf_alike hZ.alike Ar6.2.1) Ar6.2.2 hin6 (vH6.at hin6 rfl) (g := (mkF m 30 #[vR a1, vI 0, vI 1, vR at_, vI 0, .unset, .unset, .unset, .unset, .unset, .unset] [(.int 0), (.ref at_), (.long ((f_maxI et0 eu0).toInt64))])) rfl rfl (bb d10_30) _ ?_
      show GG p e below T5 (mkF m 31 #[vR a1, vI 0, vI 1, vR at_, vI 0, .unset, .unset, .unset, .unset, .unset, .unset] [(.int et0), (.long ((f_maxI et0 eu0).toInt64))]) _
      refine XS.aloadN X5.here hx rfl (bb d10_31) rfl rfl ?_
      refine st7 _ ?_
      show GG p e below T7 (mkF m 35 #[vR a1, vI 0, vI 1, vR at_, vI 0, .unset, .unset, .unset, .unset, .unset, .unset] [(.ref ol), (.int et0), (.long ((f_maxI et0 eu0).toInt64))]) _
      refine XS.iload X7.here hx rfl (bb d10_35) rfl ?_
      refine X7.iaload hx (j := (0 : Int32)) (v := (.int el0)) (by rw [e7]; exact Ar8.1) (State.isArrayOf_alike hZ.alike Ar8.2.1) Ar8.2.2 hin8 (vH8.at hin8 rfl) (g := (mkF m 37 #[vR a1, vI 0, vI 1, vR at_, vI 0, .unset, .unset, .unset, .unset, .unset, .unset] [(.int 0), (.ref ol), (.int et0), (.long ((f_maxI et0 eu0).toInt64))])) rfl rfl (bb d10_37) _ ?_
      show GG p e below T7 (mkF m 38 #[vR a1, vI 0, vI 1, vR at_, vI 0, .unset, .unset, .unset, .unset, .unset, .unset] [(.int el0), (.int et0), (.long ((f_maxI et0 eu0).toInt64))]) _
      refine st9 _ ?_
      show GG p e below T9 (mkF m 41 #[vR a1, vI 0, vI 1, vR at_, vI 0, .unset, .unset, .unset, .unset, .unset, .unset] [(.int (f_minI et0 el0)), (.long ((f_maxI et0 eu0).toInt64))]) _
      refine XS.i2l X9.here hx rfl (bb d10_41) rfl ?_
      refine XS.lsub X9.here hx rfl (bb d10_42) rfl ?_
      show GG p e below T9 (mkF m 43 #[vR a1, vI 0, vI 1, vR at_, vI 0, .unset, .unset, .unset, .unset, .unset, .unset] [(.long (((f_maxI et0 eu0).toInt64) - ((f_minI et0 el0).toInt64)))]) _
      refine XS.lstore X9.here hx rfl (bb d10_43) rfl (l' := #[vR a1, vI 0, vI 1, vR at_, vI 0, vJ (((f_maxI et0 eu0).toInt64) - ((f_minI et0 el0).toInt64)), .second, .unset, .unset, .unset, .unset]) rfl ?_
      show GG p e below T9 (mkF m 45 #[vR a1, vI 0, vI 1, vR at_, vI 0, vJ (((f_maxI et0 eu0).toInt64) - ((f_minI et0 el0).toInt64)), .second, .unset, .unset, .unset, .unset] []) _
      refine XS.lload X9.here hx rfl (bb d10_45) rfl ?_
      refine X9.ldc2Long hx hown (mvT hZ (wd74 hw)) (g := (mkF m 47 #[vR a1, vI 0, vI 1, vR at_, vI 0, vJ (((f_maxI et0 eu0).toInt64) - ((f_minI et0 el0).toInt64)), .second, .unset, .unset, .unset, .unset] [(.long (((f_maxI et0 eu0).toInt64) - ((f_minI et0 el0).toInt64)))])) rfl (bb d10_47) _ ?_
      show GG p e below T9 (mkF m 50 #[vR a1, vI 0, vI 1, vR at_, vI 0, vJ (((f_maxI et0 eu0).toInt64) - ((f_minI et0 el0).toInt64)), .second, .unset, .unset, .unset, .unset] [(.long 65536), (.long (((f_maxI et0 eu0).toInt64) - ((f_minI et0 el0).toInt64)))]) _
      refine XS.lcmp X9.here hx rfl (bb d10_50) rfl ?_
      show GG p e below T9 (mkF m 51 #[vR a1, vI 0, vI 1, vR at_, vI 0, vJ (((f_maxI et0 eu0).toInt64) - ((f_minI et0 el0).toInt64)), .second, .unset, .unset, .unset, .unset] [(.int (lcmpW (((f_maxI et0 eu0).toInt64) - ((f_minI et0 el0).toInt64)) (65536 : Int64)))]) _
      refine XS.ifYes X9.here hx rfl (pc0 := 51) (pc' := 61) rfl (bb d10_51) rfl ((if0 _ _).trans (tlt hs0).1) (by decide) (by decide) ?_
      show GG p e below T9 (mkF m 61 #[vR a1, vI 0, vI 1, vR at_, vI 0, vJ (((f_maxI et0 eu0).toInt64) - ((f_minI et0 el0).toInt64)), .second, .unset, .unset, .unset, .unset] []) _
      refine XS.iinc X9.here hx rfl (bb d10_61) rfl (l' := #[vR a1, vI 0, vI 1, vR at_, vI 1, vJ (((f_maxI et0 eu0).toInt64) - ((f_minI et0 el0).toInt64)), .second, .unset, .unset, .unset, .unset]) rfl ?_
      show GG p e below T9 (mkF m 64 #[vR a1, vI 0, vI 1, vR at_, vI 1, vJ (((f_maxI et0 eu0).toInt64) - ((f_minI et0 el0).toInt64)), .second, .unset, .unset, .unset, .unset] []) _
      refine XS.goto X9.here hx rfl (pc0 := 64) (pc' := 3) rfl (bb d10_64) (by decide) (by decide) ?_
      refine XS.iload X9.here hx rfl (bb d10_3) rfl ?_
      refine XS.aloadN X9.here hx rfl (bb d10_5) rfl rfl ?_
      refine st10 _ ?_
      show GG p e below T10 (mkF m 9 #[vR a1, vI 0, vI 1, vR at_, vI 1, vJ (((f_maxI et0 eu0).toInt64) - ((f_minI et0 el0).toInt64)), .second, .unset, .unset, .unset, .unset] [(.int 2), (.int 1)]) _
      refine XS.icmpNo X10.here hx rfl (bb d10_9) rfl (tlt (by decide : (1 : Int32) < (2 : Int32))).2.1 ?_
      refine XS.aloadN X10.here hx rfl (bb d10_12) rfl rfl ?_
      refine XS.iload X10.here hx rfl (bb d10_13) rfl ?_
      refine X10.iaload hx (j := (1 : Int32)) (v := (.int et1)) (by rw [e10]; exact Ar11.1) (State.isArrayOf_alike hZ.alike Ar11.2.1) Ar11.2.2 hin11 (vH11.at hin11 rfl) (g := (mkF m 15 #[vR a1, vI 0, vI 1, vR at_, vI 1, vJ (((f_maxI et0 eu0).toInt64) - ((f_minI et0 el0).toInt64)), .second, .unset, .unset, .unset, .unset] [(.int 1), (.ref at_)])) rfl rfl (bb d10_15) _ ?_
      show GG p e below T10 (mkF m 16 #[vR a1, vI 0, vI 1, vR at_, vI 1, vJ (((f_maxI et0 eu0).toInt64) - ((f_minI et0 el0).toInt64)), .second, .unset, .unset, .unset, .unset] [(.int et1)]) _
      refine XS.aloadN X10.here hx rfl (bb d10_16) rfl rfl ?_
      refine st12 _ ?_
      show GG p e below T12 (mkF m 20 #[vR a1, vI 0, vI 1, vR at_, vI 1, vJ (((f_maxI et0 eu0).toInt64) - ((f_minI et0 el0).toInt64)), .second, .unset, .unset, .unset, .unset] [(.ref oh), (.int et1)]) _
      refine XS.iload X12.here hx rfl (bb d10_20) rfl ?_
      refine X12.iaload hx (j := (1 : Int32)) (v := (.int eu1)) (by rw [e12]; exact Ar13.1) (State.isArrayOf_alike hZ.alike Ar13.2.1) Ar13.2.2 hin13 (vH13.at hin13 rfl) (g := (mkF m 22 #[vR a1, vI 0, vI 1, vR at_, vI 1, vJ (((f_maxI et0 eu0).toInt64) - ((f_minI et0 el0).toInt64)), .second, .unset, .unset, .unset, .unset] [(.int 1), (.ref oh), (.int et1)])) rfl rfl (bb d10_22) _ ?_
      show GG p e below T12 (mkF m 23 #[vR a1, vI 0, vI 1, vR at_, vI 1, vJ (((f_maxI et0 eu0).toInt64) - ((f_minI et0 el0).toInt64)), .second, .unset, .unset, .unset, .unset] [(.int eu1), (.int et1)]) _
      refine st14 _ ?_
      show GG p e below T14 (mkF m 26 #[vR a1, vI 0, vI 1, vR at_, vI 1, vJ (((f_maxI et0 eu0).toInt64) - ((f_minI et0 el0).toInt64)), .second, .unset, .unset, .unset, .unset] [(.int (f_maxI et1 eu1))]) _
      refine XS.i2l X14.here hx rfl (bb d10_26) rfl ?_
      refine XS.aloadN X14.here hx rfl (bb d10_27) rfl rfl ?_
      refine XS.iload X14.here hx rfl (bb d10_28) rfl ?_
      refine X14.iaload hx (j := (1 : Int32)) (v := (.int et1)) (by rw [e14]; exact Ar15.1) (State.isArrayOf_alike hZ.alike Ar15.2.1) Ar15.2.2 hin15 (vH15.at hin15 rfl) (g := (mkF m 30 #[vR a1, vI 0, vI 1, vR at_, vI 1, vJ (((f_maxI et0 eu0).toInt64) - ((f_minI et0 el0).toInt64)), .second, .unset, .unset, .unset, .unset] [(.int 1), (.ref at_), (.long ((f_maxI et1 eu1).toInt64))])) rfl rfl (bb d10_30) _ ?_
      show GG p e below T14 (mkF m 31 #[vR a1, vI 0, vI 1, vR at_, vI 1, vJ (((f_maxI et0 eu0).toInt64) - ((f_minI et0 el0).toInt64)), .second, .unset, .unset, .unset, .unset] [(.int et1), (.long ((f_maxI et1 eu1).toInt64))]) _
      refine XS.aloadN X14.here hx rfl (bb d10_31) rfl rfl ?_
      refine st16 _ ?_
      show GG p e below T16 (mkF m 35 #[vR a1, vI 0, vI 1, vR at_, vI 1, vJ (((f_maxI et0 eu0).toInt64) - ((f_minI et0 el0).toInt64)), .second, .unset, .unset, .unset, .unset] [(.ref ol), (.int et1), (.long ((f_maxI et1 eu1).toInt64))]) _
      refine XS.iload X16.here hx rfl (bb d10_35) rfl ?_
      refine X16.iaload hx (j := (1 : Int32)) (v := (.int el1)) (by rw [e16]; exact Ar17.1) (State.isArrayOf_alike hZ.alike Ar17.2.1) Ar17.2.2 hin17 (vH17.at hin17 rfl) (g := (mkF m 37 #[vR a1, vI 0, vI 1, vR at_, vI 1, vJ (((f_maxI et0 eu0).toInt64) - ((f_minI et0 el0).toInt64)), .second, .unset, .unset, .unset, .unset] [(.int 1), (.ref ol), (.int et1), (.long ((f_maxI et1 eu1).toInt64))])) rfl rfl (bb d10_37) _ ?_
      show GG p e below T16 (mkF m 38 #[vR a1, vI 0, vI 1, vR at_, vI 1, vJ (((f_maxI et0 eu0).toInt64) - ((f_minI et0 el0).toInt64)), .second, .unset, .unset, .unset, .unset] [(.int el1), (.int et1), (.long ((f_maxI et1 eu1).toInt64))]) _
      refine st18 _ ?_
      show GG p e below T18 (mkF m 41 #[vR a1, vI 0, vI 1, vR at_, vI 1, vJ (((f_maxI et0 eu0).toInt64) - ((f_minI et0 el0).toInt64)), .second, .unset, .unset, .unset, .unset] [(.int (f_minI et1 el1)), (.long ((f_maxI et1 eu1).toInt64))]) _
      refine XS.i2l X18.here hx rfl (bb d10_41) rfl ?_
      refine XS.lsub X18.here hx rfl (bb d10_42) rfl ?_
      show GG p e below T18 (mkF m 43 #[vR a1, vI 0, vI 1, vR at_, vI 1, vJ (((f_maxI et0 eu0).toInt64) - ((f_minI et0 el0).toInt64)), .second, .unset, .unset, .unset, .unset] [(.long (((f_maxI et1 eu1).toInt64) - ((f_minI et1 el1).toInt64)))]) _
      refine XS.lstore X18.here hx rfl (bb d10_43) rfl (l' := #[vR a1, vI 0, vI 1, vR at_, vI 1, vJ (((f_maxI et1 eu1).toInt64) - ((f_minI et1 el1).toInt64)), .second, .unset, .unset, .unset, .unset]) rfl ?_
      show GG p e below T18 (mkF m 45 #[vR a1, vI 0, vI 1, vR at_, vI 1, vJ (((f_maxI et1 eu1).toInt64) - ((f_minI et1 el1).toInt64)), .second, .unset, .unset, .unset, .unset] []) _
      refine XS.lload X18.here hx rfl (bb d10_45) rfl ?_
      refine X18.ldc2Long hx hown (mvT hZ (wd74 hw)) (g := (mkF m 47 #[vR a1, vI 0, vI 1, vR at_, vI 1, vJ (((f_maxI et1 eu1).toInt64) - ((f_minI et1 el1).toInt64)), .second, .unset, .unset, .unset, .unset] [(.long (((f_maxI et1 eu1).toInt64) - ((f_minI et1 el1).toInt64)))])) rfl (bb d10_47) _ ?_
      show GG p e below T18 (mkF m 50 #[vR a1, vI 0, vI 1, vR at_, vI 1, vJ (((f_maxI et1 eu1).toInt64) - ((f_minI et1 el1).toInt64)), .second, .unset, .unset, .unset, .unset] [(.long 65536), (.long (((f_maxI et1 eu1).toInt64) - ((f_minI et1 el1).toInt64)))]) _
      refine XS.lcmp X18.here hx rfl (bb d10_50) rfl ?_
      show GG p e below T18 (mkF m 51 #[vR a1, vI 0, vI 1, vR at_, vI 1, vJ (((f_maxI et1 eu1).toInt64) - ((f_minI et1 el1).toInt64)), .second, .unset, .unset, .unset, .unset] [(.int (lcmpW (((f_maxI et1 eu1).toInt64) - ((f_minI et1 el1).toInt64)) (65536 : Int64)))]) _
      refine XS.ifYes X18.here hx rfl (pc0 := 51) (pc' := 61) rfl (bb d10_51) rfl ((if0 _ _).trans (tlt hs1).1) (by decide) (by decide) ?_
      show GG p e below T18 (mkF m 61 #[vR a1, vI 0, vI 1, vR at_, vI 1, vJ (((f_maxI et1 eu1).toInt64) - ((f_minI et1 el1).toInt64)), .second, .unset, .unset, .unset, .unset] []) _
      refine XS.iinc X18.here hx rfl (bb d10_61) rfl (l' := #[vR a1, vI 0, vI 1, vR at_, vI 2, vJ (((f_maxI et1 eu1).toInt64) - ((f_minI et1 el1).toInt64)), .second, .unset, .unset, .unset, .unset]) rfl ?_
      show GG p e below T18 (mkF m 64 #[vR a1, vI 0, vI 1, vR at_, vI 2, vJ (((f_maxI et1 eu1).toInt64) - ((f_minI et1 el1).toInt64)), .second, .unset, .unset, .unset, .unset] []) _
      refine XS.goto X18.here hx rfl (pc0 := 64) (pc' := 3) rfl (bb d10_64) (by decide) (by decide) ?_
      refine XS.iload X18.here hx rfl (bb d10_3) rfl ?_
      refine XS.aloadN X18.here hx rfl (bb d10_5) rfl rfl ?_
      refine st19 _ ?_
      show GG p e below T19 (mkF m 9 #[vR a1, vI 0, vI 1, vR at_, vI 2, vJ (((f_maxI et1 eu1).toInt64) - ((f_minI et1 el1).toInt64)), .second, .unset, .unset, .unset, .unset] [(.int 2), (.int 2)]) _
      refine XS.icmpYes X19.here hx rfl (pc0 := 9) (pc' := 67) rfl (bb d10_9) rfl (flt (by decide : ¬ ((2 : Int32) < (2 : Int32)))).2.1 (by decide) (by decide) ?_
      show GG p e below T19 (mkF m 67 #[vR a1, vI 0, vI 1, vR at_, vI 2, vJ (((f_maxI et1 eu1).toInt64) - ((f_minI et1 el1).toInt64)), .second, .unset, .unset, .unset, .unset] []) _
      refine XS.iconst X19.here hx rfl (bb d10_67) ?_
      refine XS.istore X19.here hx rfl (bb d10_68) rfl (l' := #[vR a1, vI 0, vI 1, vR at_, vI 0, vJ (((f_maxI et1 eu1).toInt64) - ((f_minI et1 el1).toInt64)), .second, .unset, .unset, .unset, .unset]) rfl ?_
      show GG p e below T19 (mkF m 70 #[vR a1, vI 0, vI 1, vR at_, vI 0, vJ (((f_maxI et1 eu1).toInt64) - ((f_minI et1 el1).toInt64)), .second, .unset, .unset, .unset, .unset] []) _
      refine XS.iload X19.here hx rfl (bb d10_70) rfl ?_
      refine XS.aloadN X19.here hx rfl (bb d10_72) rfl rfl ?_
      refine st20 _ ?_
      show GG p e below T20 (mkF m 76 #[vR a1, vI 0, vI 1, vR at_, vI 0, vJ (((f_maxI et1 eu1).toInt64) - ((f_minI et1 el1).toInt64)), .second, .unset, .unset, .unset, .unset] [(.int 2), (.int 0)]) _
      refine XS.icmpNo X20.here hx rfl (bb d10_76) rfl (tlt (by decide : (0 : Int32) < (2 : Int32))).2.1 ?_
      refine XS.aloadN X20.here hx rfl (bb d10_79) rfl rfl ?_
      refine st21 _ ?_
      show GG p e below T21 (mkF m 83 #[vR a1, vI 0, vI 1, vR at_, vI 0, vJ (((f_maxI et1 eu1).toInt64) - ((f_minI et1 el1).toInt64)), .second, .unset, .unset, .unset, .unset] [(.ref ol)]) _
      refine XS.iload X21.here hx rfl (bb d10_83) rfl ?_
      refine XS.aloadN X21.here hx rfl (bb d10_85) rfl rfl ?_
      refine XS.iload X21.here hx rfl (bb d10_86) rfl ?_
      refine X21.iaload hx (j := (0 : Int32)) (v := (.int et0)) (by rw [e21]; exact Ar22.1) (State.isArrayOf_alike hZ.alike Ar22.2.1) Ar22.2.2 hin22 (vH22.at hin22 rfl) (g := (mkF m 88 #[vR a1, vI 0, vI 1, vR at_, vI 0, vJ (((f_maxI et1 eu1).toInt64) - ((f_minI et1 el1).toInt64)), .second, .unset, .unset, .unset, .unset] [(.int 0), (.ref at_), (.int 0), (.ref ol)])) rfl rfl (bb d10_88) _ ?_
      show GG p e below T21 (mkF m 89 #[vR a1, vI 0, vI 1, vR at_, vI 0, vJ (((f_maxI et1 eu1).toInt64) - ((f_minI et1 el1).toInt64)), .second, .unset, .unset, .unset, .unset] [(.int et0), (.int 0), (.ref ol)]) _
      refine XS.aloadN X21.here hx rfl (bb d10_89) rfl rfl ?_
      refine st23 _ ?_
      show GG p e below T23 (mkF m 93 #[vR a1, vI 0, vI 1, vR at_, vI 0, vJ (((f_maxI et1 eu1).toInt64) - ((f_minI et1 el1).toInt64)), .second, .unset, .unset, .unset, .unset] [(.ref ol), (.int et0), (.int 0), (.ref ol)]) _
      refine XS.iload X23.here hx rfl (bb d10_93) rfl ?_
      refine X23.iaload hx (j := (0 : Int32)) (v := (.int el0)) (by rw [e23]; exact Ar24.1) (State.isArrayOf_alike hZ.alike Ar24.2.1) Ar24.2.2 hin24 (vH24.at hin24 rfl) (g := (mkF m 95 #[vR a1, vI 0, vI 1, vR at_, vI 0, vJ (((f_maxI et1 eu1).toInt64) - ((f_minI et1 el1).toInt64)), .second, .unset, .unset, .unset, .unset] [(.int 0), (.ref ol), (.int et0), (.int 0), (.ref ol)])) rfl rfl (bb d10_95) _ ?_
      show GG p e below T23 (mkF m 96 #[vR a1, vI 0, vI 1, vR at_, vI 0, vJ (((f_maxI et1 eu1).toInt64) - ((f_minI et1 el1).toInt64)), .second, .unset, .unset, .unset, .unset] [(.int el0), (.int et0), (.int 0), (.ref ol)]) _
      refine st25 _ ?_
      show GG p e below T25 (mkF m 99 #[vR a1, vI 0, vI 1, vR at_, vI 0, vJ (((f_maxI et1 eu1).toInt64) - ((f_minI et1 el1).toInt64)), .second, .unset, .unset, .unset, .unset] [(.int (f_minI et0 el0)), (.int 0), (.ref ol)]) _
      refine st26 _ ?_
      show GG p e below T26 (mkF m 100 #[vR a1, vI 0, vI 1, vR at_, vI 0, vJ (((f_maxI et1 eu1).toInt64) - ((f_minI et1 el1).toInt64)), .second, .unset, .unset, .unset, .unset] []) _
      refine XS.aloadN X26.here hx rfl (bb d10_100) rfl rfl ?_
      refine st27 _ ?_
      show GG p e below T27 (mkF m 104 #[vR a1, vI 0, vI 1, vR at_, vI 0, vJ (((f_maxI et1 eu1).toInt64) - ((f_minI et1 el1).toInt64)), .second, .unset, .unset, .unset, .unset] [(.ref oh)]) _
      refine XS.iload X27.here hx rfl (bb d10_104) rfl ?_
      refine XS.aloadN X27.here hx rfl (bb d10_106) rfl rfl ?_
      refine XS.iload X27.here hx rfl (bb d10_107) rfl ?_
      refine X27.iaload hx (j := (0 : Int32)) (v := (.int et0)) (by rw [e27]; exact Ar30.1) (State.isArrayOf_alike hZ.alike Ar30.2.1) Ar30.2.2 hin30 (vH30.at hin30 rfl) (g := (mkF m 109 #[vR a1, vI 0, vI 1, vR at_, vI 0, vJ (((f_maxI et1 eu1).toInt64) - ((f_minI et1 el1).toInt64)), .second, .unset, .unset, .unset, .unset] [(.int 0), (.ref at_), (.int 0), (.ref oh)])) rfl rfl (bb d10_109) _ ?_
      show GG p e below T27 (mkF m 110 #[vR a1, vI 0, vI 1, vR at_, vI 0, vJ (((f_maxI et1 eu1).toInt64) - ((f_minI et1 el1).toInt64)), .second, .unset, .unset, .unset, .unset] [(.int et0), (.int 0), (.ref oh)]) _
      refine XS.aloadN X27.here hx rfl (bb d10_110) rfl rfl ?_
      refine st31 _ ?_
      show GG p e below T31 (mkF m 114 #[vR a1, vI 0, vI 1, vR at_, vI 0, vJ (((f_maxI et1 eu1).toInt64) - ((f_minI et1 el1).toInt64)), .second, .unset, .unset, .unset, .unset] [(.ref oh), (.int et0), (.int 0), (.ref oh)]) _
      refine XS.iload X31.here hx rfl (bb d10_114) rfl ?_
      refine X31.iaload hx (j := (0 : Int32)) (v := (.int eu0)) (by rw [e31]; exact Ar33.1) (State.isArrayOf_alike hZ.alike Ar33.2.1) Ar33.2.2 hin33 (vH33.at hin33 rfl) (g := (mkF m 116 #[vR a1, vI 0, vI 1, vR at_, vI 0, vJ (((f_maxI et1 eu1).toInt64) - ((f_minI et1 el1).toInt64)), .second, .unset, .unset, .unset, .unset] [(.int 0), (.ref oh), (.int et0), (.int 0), (.ref oh)])) rfl rfl (bb d10_116) _ ?_
      show GG p e below T31 (mkF m 117 #[vR a1, vI 0, vI 1, vR at_, vI 0, vJ (((f_maxI et1 eu1).toInt64) - ((f_minI et1 el1).toInt64)), .second, .unset, .unset, .unset, .unset] [(.int eu0), (.int et0), (.int 0), (.ref oh)]) _
      refine st34 _ ?_
      show GG p e below T34 (mkF m 120 #[vR a1, vI 0, vI 1, vR at_, vI 0, vJ (((f_maxI et1 eu1).toInt64) - ((f_minI et1 el1).toInt64)), .second, .unset, .unset, .unset, .unset] [(.int (f_maxI et0 eu0)), (.int 0), (.ref oh)]) _
      refine st36 _ ?_
      show GG p e below T36 (mkF m 121 #[vR a1, vI 0, vI 1, vR at_, vI 0, vJ (((f_maxI et1 eu1).toInt64) - ((f_minI et1 el1).toInt64)), .second, .unset, .unset, .unset, .unset] []) _
      refine XS.aloadN X36.here hx rfl (bb d10_121) rfl rfl ?_
      refine st37 _ ?_
      show GG p e below T37 (mkF m 125 #[vR a1, vI 0, vI 1, vR at_, vI 0, vJ (((f_maxI et1 eu1).toInt64) - ((f_minI et1 el1).toInt64)), .second, .unset, .unset, .unset, .unset] [(.ref ob)]) _
      refine XS.iloadN X37.here hx rfl (bb d10_125) rfl ?_
      refine XS.aloadN X37.here hx rfl (bb d10_126) rfl rfl ?_
      refine st39 _ ?_
      show GG p e below T39 (mkF m 130 #[vR a1, vI 0, vI 1, vR at_, vI 0, vJ (((f_maxI et1 eu1).toInt64) - ((f_minI et1 el1).toInt64)), .second, .unset, .unset, .unset, .unset] [(.int 2), (.int 0), (.ref ob)]) _
      refine XS.imul X39.here hx rfl (bb d10_130) rfl ?_
      refine XS.iload X39.here hx rfl (bb d10_131) rfl ?_
      refine XS.iadd X39.here hx rfl (bb d10_133) rfl ?_
      refine X39.iaload hx (j := (0 : Int32)) (v := (.int eb0)) (by rw [e39]; exact Ar42.1) (State.isArrayOf_alike hZ.alike Ar42.2.1) Ar42.2.2 hin42 (vH42.at hin42 rfl) (g := (mkF m 134 #[vR a1, vI 0, vI 1, vR at_, vI 0, vJ (((f_maxI et1 eu1).toInt64) - ((f_minI et1 el1).toInt64)), .second, .unset, .unset, .unset, .unset] [(.int 0), (.ref ob)])) rfl rfl (bb d10_134) _ ?_
      show GG p e below T39 (mkF m 135 #[vR a1, vI 0, vI 1, vR at_, vI 0, vJ (((f_maxI et1 eu1).toInt64) - ((f_minI et1 el1).toInt64)), .second, .unset, .unset, .unset, .unset] [(.int eb0)]) _
      refine XS.istore X39.here hx rfl (bb d10_135) rfl (l' := #[vR a1, vI 0, vI 1, vR at_, vI 0, vI eb0, .unset, .unset, .unset, .unset, .unset]) rfl ?_
      show GG p e below T39 (mkF m 137 #[vR a1, vI 0, vI 1, vR at_, vI 0, vI eb0, .unset, .unset, .unset, .unset, .unset] []) _
      refine XS.aloadN X39.here hx rfl (bb d10_137) rfl rfl ?_
      refine XS.iload X39.here hx rfl (bb d10_138) rfl ?_
      refine X39.iaload hx (j := (0 : Int32)) (v := (.int et0)) (by rw [e39]; exact Ar44.1) (State.isArrayOf_alike hZ.alike Ar44.2.1) Ar44.2.2 hin44 (vH44.at hin44 rfl) (g := (mkF m 140 #[vR a1, vI 0, vI 1, vR at_, vI 0, vI eb0, .unset, .unset, .unset, .unset, .unset] [(.int 0), (.ref at_)])) rfl rfl (bb d10_140) _ ?_
      show GG p e below T39 (mkF m 141 #[vR a1, vI 0, vI 1, vR at_, vI 0, vI eb0, .unset, .unset, .unset, .unset, .unset] [(.int et0)]) _
      refine XS.i2l X39.here hx rfl (bb d10_141) rfl ?_
      refine XS.iload X39.here hx rfl (bb d10_142) rfl ?_
      refine XS.i2l X39.here hx rfl (bb d10_144) rfl ?_
      refine XS.lsub X39.here hx rfl (bb d10_145) rfl ?_
      show GG p e below T39 (mkF m 146 #[vR a1, vI 0, vI 1, vR at_, vI 0, vI eb0, .unset, .unset, .unset, .unset, .unset] [(.long ((et0.toInt64) - (eb0.toInt64)))]) _
      refine XS.lstore X39.here hx rfl (bb d10_146) rfl (l' := #[vR a1, vI 0, vI 1, vR at_, vI 0, vI eb0, vJ ((et0.toInt64) - (eb0.toInt64)), .second, .unset, .unset, .unset]) rfl ?_
      exact k)
  obtain ⟨T46, L46, h46, s8_46, s9_46, s10_46, X46, e46, N46, K46, f46_0, f46_1, o_s8_46, o_s9_46, o_s10_46, pre46⟩ : ∃ (T' : State) (L' : List Loc) (h' : Heap) (s8_46 : Slot) (s9_46 : Slot) (s10_46 : Slot), Stand p l e ({ frames := 2, cells := 0, slots := 0, locals := 30 } : Room) s m #[(.ref a1), (.int 0), (.int 1), (.ref at_)] below meth c T' L' 0 0 ∧ T'.heap = h' ∧ Fr n0 L' ∧ Keep h36 h' [ob, ov] ∧ Arv Z h' ob kb_ .int (2 : Int32) [(.int (nbase eb0 el0 eu0 et0)), (.int eb1)] (.int 0) ∧ Arv Z h' ov kv_ .char (16 : Int32) [(.int (nar .char (ev0_0 - (nbase eb0 el0 eu0 et0)))), (.int (nar .char (ev0_1 - eb1))), (.int ex2), (.int ex3), (.int ex4), (.int ex5), (.int ex6), (.int ex7), (.int ex8), (.int ex9), (.int ex10), (.int ex11), (.int ex12), (.int ex13), (.int ex14), (.int ex15)] (.int 0) ∧ One s8_46 ∧ One s9_46 ∧ One s10_46 ∧ ∀ t, GG p e below T' (mkF m 249 #[vR a1, vI 0, vI 1, vR at_, vI 0, vI eb0, vJ ((et0.toInt64) - (eb0.toInt64)), .second, s8_46, s9_46, s10_46] []) t → GG p e below s₁ (entryFrame m #[(.ref a1), (.int 0), (.int 1), (.ref at_)] 11) t := by
    by_cases g46 : ((lcmpW ((et0.toInt64) - (eb0.toInt64)) (0 : Int64)) < (0 : Int32)) ∨ ¬ ((lcmpW ((et0.toInt64) - (eb0.toInt64)) (65536 : Int64)) < (0 : Int32))
    · skip
      obtain ⟨T47, L47, X47, e47, N47, pre47⟩ : ∃ (T' : State) (L' : List Loc), Stand p l e ({ frames := 2, cells := 0, slots := 0, locals := 30 } : Room) s m #[(.ref a1), (.int 0), (.int 1), (.ref at_)] below meth c T' L' 0 0 ∧ T'.heap = h36 ∧ Fr n0 L' ∧ ∀ t, Steps p.tables e below (T'.setTop (mkF m 164 #[vR a1, vI 0, vI 1, vR at_, vI 0, vI eb0, vJ ((et0.toInt64) - (eb0.toInt64)), .second, .unset, .unset, .unset] [])) t → Steps p.tables e below (s₁.setTop (entryFrame m #[(.ref a1), (.int 0), (.int 1), (.ref at_)] 11)) t := by
        have pre48 : ∀ t, GG p e below T39 (mkF m 152 #[vR a1, vI 0, vI 1, vR at_, vI 0, vI eb0, vJ ((et0.toInt64) - (eb0.toInt64)), .second, .unset, .unset, .unset] [(.int (lcmpW ((et0.toInt64) - (eb0.toInt64)) (0 : Int64)))]) t → GG p e below s₁ (entryFrame m #[(.ref a1), (.int 0), (.int 1), (.ref at_)] 11) t := fun t k => pre45 t (by
            show GG p e below T39 (mkF m 148 #[vR a1, vI 0, vI 1, vR at_, vI 0, vI eb0, vJ ((et0.toInt64) - (eb0.toInt64)), .second, .unset, .unset, .unset] []) _
            refine XS.lload X39.here hx rfl (bb d10_148) rfl ?_
            refine XS.lconst X39.here hx rfl (bb d10_150) ?_
            refine XS.lcmp X39.here hx rfl (bb d10_151) rfl ?_
            exact k)
        by_cases g49 : (lcmpW ((et0.toInt64) - (eb0.toInt64)) (0 : Int64)) < (0 : Int32)
        · skip
          exact ⟨T39, _, X39, e39, N36, fun t k => pre48 t (by
              show GG p e below T39 (mkF m 152 #[vR a1, vI 0, vI 1, vR at_, vI 0, vI eb0, vJ ((et0.toInt64) - (eb0.toInt64)), .second, .unset, .unset, .unset] [(.int (lcmpW ((et0.toInt64) - (eb0.toInt64)) (0 : Int64)))]) _
              refine XS.ifYes X39.here hx rfl (pc0 := 152) (pc' := 164) rfl (bb d10_152) rfl ((if0 _ _).trans (tlt g49).1) (by decide) (by decide) ?_
              exact k)⟩
        · skip
          exact ⟨T39, _, X39, e39, N36, fun t k => pre48 t (by
              show GG p e below T39 (mkF m 152 #[vR a1, vI 0, vI 1, vR at_, vI 0, vI eb0, vJ ((et0.toInt64) - (eb0.toInt64)), .second, .unset, .unset, .unset] [(.int (lcmpW ((et0.toInt64) - (eb0.toInt64)) (0 : Int64)))]) _
              refine XS.ifNo X39.here hx rfl (bb d10_152) rfl ((if0 _ _).trans (flt g49).1) ?_
              refine XS.lload X39.here hx rfl (bb d10_155) rfl ?_
              refine X39.ldc2Long hx hown (mvT hZ (wd74 hw)) (g := (mkF m 157 #[vR a1, vI 0, vI 1, vR at_, vI 0, vI eb0, vJ ((et0.toInt64) - (eb0.toInt64)), .second, .unset, .unset, .unset] [(.long ((et0.toInt64) - (eb0.toInt64)))])) rfl (bb d10_157) _ ?_
              show GG p e below T39 (mkF m 160 #[vR a1, vI 0, vI 1, vR at_, vI 0, vI eb0, vJ ((et0.toInt64) - (eb0.toInt64)), .second, .unset, .unset, .unset] [(.long 65536), (.long ((et0.toInt64) - (eb0.toInt64)))]) _
              refine XS.lcmp X39.here hx rfl (bb d10_160) rfl ?_
              show GG p e below T39 (mkF m 161 #[vR a1, vI 0, vI 1, vR at_, vI 0, vI eb0, vJ ((et0.toInt64) - (eb0.toInt64)), .second, .unset, .unset, .unset] [(.int (lcmpW ((et0.toInt64) - (eb0.toInt64)) (65536 : Int64)))]) _
              refine XS.ifNo X39.here hx rfl (bb d10_161) rfl ((if0 _ _).trans (flt (g46.resolve_left g49)).1) ?_
              exact k)⟩
      have F51 := ((r6.other W26 (Or.inl ne_a1_ol)).other W36 (Or.inl ne_a1_oh))
      obtain ⟨T50, X50, e50, st50⟩ := getF X47 hx hZ hown (host := "") (Or.inl (wd27 hw)) Via.refl e47 F51 (g := (mkF m 165 #[vR a1, vI 0, vI 1, vR at_, vI 0, vI eb0, vJ ((et0.toInt64) - (eb0.toInt64)), .second, .unset, .unset, .unset] [(.ref a1)])) rfl rfl (bb d10_165)
      have F52 := (V26.other W36 ne_ol_oh)
      obtain ⟨cl53, Ar53, vq53, vS53, vN53, vH53, vG53⟩ := id F52
      have hin53 : ¬ (((0 : Int32) : Int32) < 0 ∨ cl53.slots.size ≤ ((0 : Int32) : Int32).toNatClampNeg) := inb_of vS53 ⟨by decide, by decide⟩
      have F55 := (F28.other W36 (Or.inl ne_a1_oh))
      obtain ⟨T54, X54, e54, st54⟩ := getF X50 hx hZ hown (host := "") (Or.inl (wd29 hw)) Via.refl e50 F55 (g := (mkF m 172 #[vR a1, vI 0, vI 1, vR at_, vI 0, vI eb0, vJ ((et0.toInt64) - (eb0.toInt64)), .second, .unset, .unset, .unset] [(.ref a1), (.int (f_minI et0 el0))])) rfl rfl (bb d10_172)
      obtain ⟨cl56, Ar56, vq56, vS56, vN56, vH56, vG56⟩ := id V36
      have hin56 : ¬ (((0 : Int32) : Int32) < 0 ∨ cl56.slots.size ≤ ((0 : Int32) : Int32).toNatClampNeg) := inb_of vS56 ⟨by decide, by decide⟩
      have O58 := (O35.wr W36 g_oh)
      obtain ⟨_, _, ⟨T57, L57, k57, n57⟩, -, X57, ⟨Lc57, hQ57, l57, y57, z57⟩, st57⟩ := Jvm.LawKit.callS X54 hx (y := (⟨cRV, "base", "(II)I"⟩ : MethodName)) hown (mvT hZ (wd46 hw)) (mvT hZ (wd47 hw)) (mvT hZ (wd8 hw)) (mvT hZ (wd48 hw)) (by decide) (backOf (W := 0) (rm_base l Z a0 hw [] (f_minI et0 el0) (f_maxI et0 eu0) h36 n0 (own_z0 O58) O58 S_CS) hZ (wd48 hw) (wd8 hw) (by decide) (by decide)) (g := (mkF m 178 #[vR a1, vI 0, vI 1, vR at_, vI 0, vI eb0, vJ ((et0.toInt64) - (eb0.toInt64)), .second, .unset, .unset, .unset] [(.int (f_maxI et0 eu0)), (.int (f_minI et0 el0))])) rfl (by rw [hml]; rfl) (argsL := [(.int (f_minI et0 el0)), (.int (f_maxI et0 eu0))]) (rest := []) (lenOf pd__II_I_5 rfl) rfl (by show 2 * 0 + _ ≤ _; exact Nat.le_of_eq rfl) (bb d10_178) (fun _ _ => ⟨rfl, e54, (by decide : 0 + 0 ≤ _), (by decide : 0 + 0 ≤ _)⟩)
      dsimp only [Pt.U, Pt.locs, Pt.cells, Pt.slots] at X57 l57 y57 z57 st57 hQ57
      subst l57 y57 z57
      obtain ⟨rfl, N57q, e57⟩ := hQ57
      have N57 := Fr.app N47 N57q
      have F60 := ((r4.other W26 (Or.inl ne_a1_ol)).other W36 (Or.inl ne_a1_oh))
      obtain ⟨T59, X59, e59, st59⟩ := getF X57 hx hZ hown (host := "") (Or.inl (wd21 hw)) Via.refl e57 F60 (g := (mkF m 184 #[vR a1, vI 0, vI 1, vR at_, vI 0, vI eb0, vJ ((et0.toInt64) - (eb0.toInt64)), .second, vI (f_base (f_minI et0 el0) (f_maxI et0 eu0)), .unset, .unset] [(.ref a1)])) rfl rfl (bb d10_184)
      have F61 := ((r10.other W26 ne_on_ol).other W36 ne_on_oh)
      obtain ⟨cl62, Ar62, vq62, vS62, vN62, vH62, vG62⟩ := id F61
      have hin62 : ¬ (((0 : Int32) : Int32) < 0 ∨ cl62.slots.size ≤ ((0 : Int32) : Int32).toNatClampNeg) := inb_of vS62 ⟨by decide, by decide⟩
      obtain ⟨T63, X63, e63, st63⟩ := getF X59 hx hZ hown (host := "") (Or.inl (wd23 hw)) Via.refl e59 F40 (g := (mkF m 199 #[vR a1, vI 0, vI 1, vR at_, vI 0, vI eb0, vJ ((et0.toInt64) - (eb0.toInt64)), .second, vI (f_base (f_minI et0 el0) (f_maxI et0 eu0)), vR ov, vI 0] [(.ref a1), (.int 1), (.int 0)])) rfl rfl (bb d10_199)
      have F64 := ((r15.other W26 (Ne.symm ne_ol_ov)).other W36 (Ne.symm ne_oh_ov))
      obtain ⟨cl65, Ar65, vq65, vS65, vN65, vH65, vG65⟩ := id F64
      have hin65 : ¬ (((0 : Int32) : Int32) < 0 ∨ cl65.slots.size ≤ ((0 : Int32) : Int32).toNatClampNeg) := inb_of vS65 ⟨by decide, by decide⟩
      obtain ⟨cl66, Ar66, vq66, vS66, vN66, vH66, vG66⟩ := id F64
      have hin66 : ¬ (((0 : Int32) : Int32) < 0 ∨ cl66.slots.size ≤ ((0 : Int32) : Int32).toNatClampNeg) := inb_of vS66 ⟨by decide, by decide⟩
      obtain ⟨T66, h66, X66, e66, W66, st66⟩ := stC X63 hx hZ e63 Ar66 (j := (0 : Int32)) hin66 (g := (mkF m 220 #[vR a1, vI 0, vI 1, vR at_, vI 0, vI eb0, vJ ((et0.toInt64) - (eb0.toInt64)), .second, vI (f_base (f_minI et0 el0) (f_maxI et0 eu0)), vR ov, vI 0] [(.int (((nar .char (ev0_0 - eb0)) + ((eb0 - (f_base (f_minI et0 el0) (f_maxI et0 eu0))).toUInt32.toUInt16.toUInt32.toInt32)).toUInt32.toUInt16.toUInt32.toInt32)), (.int 0), (.ref ov)])) rfl rfl (bb d10_220)
      have V66 : Arv Z h66 ov kv_ .char (16 : Int32) [(.int (nar .char (((nar .char (ev0_0 - eb0)) + ((eb0 - (f_base (f_minI et0 el0) (f_maxI et0 eu0))).toUInt32.toUInt16.toUInt32.toInt32)).toUInt32.toUInt16.toUInt32.toInt32))), (.int (nar .char (ev0_1 - eb1))), (.int ex2), (.int ex3), (.int ex4), (.int ex5), (.int ex6), (.int ex7), (.int ex8), (.int ex9), (.int ex10), (.int ex11), (.int ex12), (.int ex13), (.int ex14), (.int ex15)] (.int 0) := Arv.set Ar66 vq66 vS66 vN66 vH66 vG66 (fits_nar_char _) W66 0 rfl (Nat.le_of_ble_eq_true rfl)
      have N66 := Fr.snoc X66 N57 g_ov
      have F68 := (F40.other W66 (Or.inl ne_a1_ov))
      obtain ⟨T67, X67, e67, st67⟩ := getF X66 hx hZ hown (host := "") (Or.inl (wd23 hw)) Via.refl e66 F68 (g := (mkF m 224 #[vR a1, vI 0, vI 1, vR at_, vI 0, vI eb0, vJ ((et0.toInt64) - (eb0.toInt64)), .second, vI (f_base (f_minI et0 el0) (f_maxI et0 eu0)), vR ov, vI 0] [(.ref a1), (.int 0)])) rfl rfl (bb d10_224)
      obtain ⟨T69, X69, e69, st69⟩ := getF X67 hx hZ hown (host := "") (Or.inl (wd23 hw)) Via.refl e67 F68 (g := (mkF m 199 #[vR a1, vI 0, vI 1, vR at_, vI 0, vI eb0, vJ ((et0.toInt64) - (eb0.toInt64)), .second, vI (f_base (f_minI et0 el0) (f_maxI et0 eu0)), vR ov, vI 2] [(.ref a1), (.int 1), (.int 2)])) rfl rfl (bb d10_199)
      have F71 := (F38.other W66 (Or.inl ne_a1_ov))
      obtain ⟨T70, X70, e70, st70⟩ := getF X69 hx hZ hown (host := "") (Or.inl (wd25 hw)) Via.refl e69 F71 (g := (mkF m 234 #[vR a1, vI 0, vI 1, vR at_, vI 0, vI eb0, vJ ((et0.toInt64) - (eb0.toInt64)), .second, vI (f_base (f_minI et0 el0) (f_maxI et0 eu0)), vR ov, vI 2] [(.ref a1)])) rfl rfl (bb d10_234)
      obtain ⟨T72, X72, e72, st72⟩ := getF X70 hx hZ hown (host := "") (Or.inl (wd23 hw)) Via.refl e70 F68 (g := (mkF m 239 #[vR a1, vI 0, vI 1, vR at_, vI 0, vI eb0, vJ ((et0.toInt64) - (eb0.toInt64)), .second, vI (f_base (f_minI et0 el0) (f_maxI et0 eu0)), vR ov, vI 2] [(.ref a1), (.int 0), (.ref ob)])) rfl rfl (bb d10_239)
      have F73 := (F41.other W66 ne_ob_ov)
      obtain ⟨cl74, Ar74, vq74, vS74, vN74, vH74, vG74⟩ := id F73
      have hin74 : ¬ (((0 : Int32) : Int32) < 0 ∨ cl74.slots.size ≤ ((0 : Int32) : Int32).toNatClampNeg) := inb_of vS74 ⟨by decide, by decide⟩
      obtain ⟨T74, h74, X74, e74, W74, st74⟩ := stI X72 hx hZ e72 Ar74 (j := (0 : Int32)) hin74 (g := (mkF m 248 #[vR a1, vI 0, vI 1, vR at_, vI 0, vI eb0, vJ ((et0.toInt64) - (eb0.toInt64)), .second, vI (f_base (f_minI et0 el0) (f_maxI et0 eu0)), vR ov, vI 2] [(.int (f_base (f_minI et0 el0) (f_maxI et0 eu0))), (.int 0), (.ref ob)])) rfl rfl (bb d10_248)
      have V74 : Arv Z h74 ob kb_ .int (2 : Int32) [(.int (f_base (f_minI et0 el0) (f_maxI et0 eu0))), (.int eb1)] (.int 0) := Arv.set Ar74 vq74 vS74 vN74 vH74 vG74 rfl W74 0 rfl (Nat.le_of_ble_eq_true rfl)
      have N74 := Fr.snoc X74 N66 g_ob
      have F75 := (V66.other W74 (Ne.symm ne_ob_ov))
      refine ⟨T74, _, h74, (vI (f_base (f_minI et0 el0) (f_maxI et0 eu0))), (vR ov), (vI 2), X74, e74, N74, (((Keep.refl h36 [ob, ov]).wr W66 (Or.inl (List.mem_of_getElem? (i := 1) rfl))).wr W74 (Or.inl (List.mem_of_getElem? (i := 0) rfl))), (by simp only [nbase, if_pos g46]; exact V74), (by simp only [nbase, if_pos g46]; have q := F75; simp only [own_ch] at q; exact q), (One.val rfl), (One.val rfl), (One.val rfl), fun t k => pre47 t ?_⟩
      show GG p e below T47 (mkF m 164 #[vR a1, vI 0, vI 1, vR at_, vI 0, vI eb0, vJ ((et0.toInt64) - (eb0.toInt64)), .second, .unset, .unset, .unset] []) _
      refine XS.aloadN X47.here hx rfl (bb d10_164) rfl rfl ?_
      refine st50 _ ?_
      show GG p e below T50 (mkF m 168 #[vR a1, vI 0, vI 1, vR at_, vI 0, vI eb0, vJ ((et0.toInt64) - (eb0.toInt64)), .second, .unset, .unset, .unset] [(.ref ol)]) _
      refine XS.iload X50.here hx rfl (bb d10_168) rfl ?_
      refine X50.iaload hx (j := (0 : Int32)) (v := (.int (f_minI et0 el0))) (by rw [e50]; exact Ar53.1) (State.isArrayOf_alike hZ.alike Ar53.2.1) Ar53.2.2 hin53 (vH53.at hin53 rfl) (g := (mkF m 170 #[vR a1, vI 0, vI 1, vR at_, vI 0, vI eb0, vJ ((et0.toInt64) - (eb0.toInt64)), .second, .unset, .unset, .unset] [(.int 0), (.ref ol)])) rfl rfl (bb d10_170) _ ?_
      show GG p e below T50 (mkF m 171 #[vR a1, vI 0, vI 1, vR at_, vI 0, vI eb0, vJ ((et0.toInt64) - (eb0.toInt64)), .second, .unset, .unset, .unset] [(.int (f_minI et0 el0))]) _
      refine XS.aloadN X50.here hx rfl (bb d10_171) rfl rfl ?_
      refine st54 _ ?_
      show GG p e below T54 (mkF m 175 #[vR a1, vI 0, vI 1, vR at_, vI 0, vI eb0, vJ ((et0.toInt64) - (eb0.toInt64)), .second, .unset, .unset, .unset] [(.ref oh), (.int (f_minI et0 el0))]) _
      refine XS.iload X54.here hx rfl (bb d10_175) rfl ?_
      refine X54.iaload hx (j := (0 : Int32)) (v := (.int (f_maxI et0 eu0))) (by rw [e54]; exact Ar56.1) (State.isArrayOf_alike hZ.alike Ar56.2.1) Ar56.2.2 hin56 (vH56.at hin56 rfl) (g := (mkF m 177 #[vR a1, vI 0, vI 1, vR at_, vI 0, vI eb0, vJ ((et0.toInt64) - (eb0.toInt64)), .second, .unset, .unset, .unset] [(.int 0), (.ref oh), (.int (f_minI et0 el0))])) rfl rfl (bb d10_177) _ ?_
      show GG p e below T54 (mkF m 178 #[vR a1, vI 0, vI 1, vR at_, vI 0, vI eb0, vJ ((et0.toInt64) - (eb0.toInt64)), .second, .unset, .unset, .unset] [(.int (f_maxI et0 eu0)), (.int (f_minI et0 el0))]) _
      refine st57 _ ?_
      show GG p e below T57 (mkF m 181 #[vR a1, vI 0, vI 1, vR at_, vI 0, vI eb0, vJ ((et0.toInt64) - (eb0.toInt64)), .second, .unset, .unset, .unset] [(.int (f_base (f_minI et0 el0) (f_maxI et0 eu0)))]) _
      refine XS.istore X57.here hx rfl (bb d10_181) rfl (l' := #[vR a1, vI 0, vI 1, vR at_, vI 0, vI eb0, vJ ((et0.toInt64) - (eb0.toInt64)), .second, vI (f_base (f_minI et0 el0) (f_maxI et0 eu0)), .unset, .unset]) rfl ?_
      show GG p e below T57 (mkF m 183 #[vR a1, vI 0, vI 1, vR at_, vI 0, vI eb0, vJ ((et0.toInt64) - (eb0.toInt64)), .second, vI (f_base (f_minI et0 el0) (f_maxI et0 eu0)), .unset, .unset] []) _
      refine XS.aloadN X57.here hx rfl (bb d10_183) rfl rfl ?_
      refine st59 _ ?_
      show GG p e below T59 (mkF m 187 #[vR a1, vI 0, vI 1, vR at_, vI 0, vI eb0, vJ ((et0.toInt64) - (eb0.toInt64)), .second, vI (f_base (f_minI et0 el0) (f_maxI et0 eu0)), .unset, .unset] [(.ref on)]) _
      refine XS.iloadN X59.here hx rfl (bb d10_187) rfl ?_
      refine X59.aaload hx (j := (0 : Int32)) (v := (.ref ov)) (by rw [e59]; exact Ar62.1) (State.isArrayOf_alike hZ.alike Ar62.2.1) rfl Ar62.2.2 hin62 (vH62.at hin62 rfl) (g := (mkF m 188 #[vR a1, vI 0, vI 1, vR at_, vI 0, vI eb0, vJ ((et0.toInt64) - (eb0.toInt64)), .second, vI (f_base (f_minI et0 el0) (f_maxI et0 eu0)), .unset, .unset] [(.int 0), (.ref on)])) rfl rfl (bb d10_188) _ ?_
      show GG p e below T59 (mkF m 189 #[vR a1, vI 0, vI 1, vR at_, vI 0, vI eb0, vJ ((et0.toInt64) - (eb0.toInt64)), .second, vI (f_base (f_minI et0 el0) (f_maxI et0 eu0)), .unset, .unset] [(.ref ov)]) _
      refine XS.astore X59.here hx rfl (bb d10_189) rfl rfl (l' := #[vR a1, vI 0, vI 1, vR at_, vI 0, vI eb0, vJ ((et0.toInt64) - (eb0.toInt64)), .second, vI (f_base (f_minI et0 el0) (f_maxI et0 eu0)), vR ov, .unset]) rfl ?_
      show GG p e below T59 (mkF m 191 #[vR a1, vI 0, vI 1, vR at_, vI 0, vI eb0, vJ ((et0.toInt64) - (eb0.toInt64)), .second, vI (f_base (f_minI et0 el0) (f_maxI et0 eu0)), vR ov, .unset] []) _
      refine XS.iload X59.here hx rfl (bb d10_191) rfl ?_
      refine XS.istore X59.here hx rfl (bb d10_193) rfl (l' := #[vR a1, vI 0, vI 1, vR at_, vI 0, vI eb0, vJ ((et0.toInt64) - (eb0.toInt64)), .second, vI (f_base (f_minI et0 el0) (f_maxI et0 eu0)), vR ov, vI 0]) rfl ?_
      show GG p e below T59 (mkF m 195 #[vR a1, vI 0, vI 1, vR at_, vI 0, vI eb0, vJ ((et0.toInt64) - (eb0.toInt64)), .second, vI (f_base (f_minI et0 el0) (f_maxI et0 eu0)), vR ov, vI 0] []) _
      refine XS.iload X59.here hx rfl (bb d10_195) rfl ?_
      refine XS.iloadN X59.here hx rfl (bb d10_197) rfl ?_
      refine XS.aloadN X59.here hx rfl (bb d10_198) rfl rfl ?_
      refine st63 _ ?_
      show GG p e below T63 (mkF m 202 #[vR a1, vI 0, vI 1, vR at_, vI 0, vI eb0, vJ ((et0.toInt64) - (eb0.toInt64)), .second, vI (f_base (f_minI et0 el0) (f_maxI et0 eu0)), vR ov, vI 0] [(.int 2), (.int 1), (.int 0)]) _
      refine XS.imul X63.here hx rfl (bb d10_202) rfl ?_
      refine XS.icmpNo X63.here hx rfl (bb d10_203) rfl (tlt (by decide : (0 : Int32) < (2 : Int32))).2.1 ?_
      refine XS.aload X63.here hx rfl (bb d10_206) rfl rfl ?_
      refine XS.iload X63.here hx rfl (bb d10_208) rfl ?_
      show GG p e below T63 (mkF m 210 #[vR a1, vI 0, vI 1, vR at_, vI 0, vI eb0, vJ ((et0.toInt64) - (eb0.toInt64)), .second, vI (f_base (f_minI et0 el0) (f_maxI et0 eu0)), vR ov, vI 0] [(.int 0), (.ref ov)]) _
      refine Jvm.Free.XT.dup2 X63.here hx rfl (bb d10_210) rfl rfl rfl ?_
      show GG p e below T63 (mkF m 211 #[vR a1, vI 0, vI 1, vR at_, vI 0, vI eb0, vJ ((et0.toInt64) - (eb0.toInt64)), .second, vI (f_base (f_minI et0 el0) (f_maxI et0 eu0)), vR ov, vI 0] [(.int 0), (.ref ov), (.int 0), (.ref ov)]) _
      refine X63.caload hx (j := (0 : Int32)) (v := (.int (nar .char (ev0_0 - eb0)))) (by rw [e63]; exact Ar65.1) (State.isArrayOf_alike hZ.alike Ar65.2.1) Ar65.2.2 hin65 (vH65.at hin65 rfl) (g := (mkF m 211 #[vR a1, vI 0, vI 1, vR at_, vI 0, vI eb0, vJ ((et0.toInt64) - (eb0.toInt64)), .second, vI (f_base (f_minI et0 el0) (f_maxI et0 eu0)), vR ov, vI 0] [(.int 0), (.ref ov), (.int 0), (.ref ov)])) rfl rfl (bb d10_211) _ ?_
      show GG p e below T63 (mkF m 212 #[vR a1, vI 0, vI 1, vR at_, vI 0, vI eb0, vJ ((et0.toInt64) - (eb0.toInt64)), .second, vI (f_base (f_minI et0 el0) (f_maxI et0 eu0)), vR ov, vI 0] [(.int (nar .char (ev0_0 - eb0))), (.int 0), (.ref ov)]) _
      refine XS.iload X63.here hx rfl (bb d10_212) rfl ?_
      refine XS.iload X63.here hx rfl (bb d10_214) rfl ?_
      refine XS.isub X63.here hx rfl (bb d10_216) rfl ?_
      refine XS.i2c X63.here hx rfl (bb d10_217) rfl ?_
      show GG p e below T63 (mkF m 218 #[vR a1, vI 0, vI 1, vR at_, vI 0, vI eb0, vJ ((et0.toInt64) - (eb0.toInt64)), .second, vI (f_base (f_minI et0 el0) (f_maxI et0 eu0)), vR ov, vI 0] [(.int ((eb0 - (f_base (f_minI et0 el0) (f_maxI et0 eu0))).toUInt32.toUInt16.toUInt32.toInt32)), (.int (nar .char (ev0_0 - eb0))), (.int 0), (.ref ov)]) _
      refine XS.iadd X63.here hx rfl (bb d10_218) rfl ?_
      refine XS.i2c X63.here hx rfl (bb d10_219) rfl ?_
      show GG p e below T63 (mkF m 220 #[vR a1, vI 0, vI 1, vR at_, vI 0, vI eb0, vJ ((et0.toInt64) - (eb0.toInt64)), .second, vI (f_base (f_minI et0 el0) (f_maxI et0 eu0)), vR ov, vI 0] [(.int (((nar .char (ev0_0 - eb0)) + ((eb0 - (f_base (f_minI et0 el0) (f_maxI et0 eu0))).toUInt32.toUInt16.toUInt32.toInt32)).toUInt32.toUInt16.toUInt32.toInt32)), (.int 0), (.ref ov)]) _
      refine st66 _ ?_
      show GG p e below T66 (mkF m 221 #[vR a1, vI 0, vI 1, vR at_, vI 0, vI eb0, vJ ((et0.toInt64) - (eb0.toInt64)), .second, vI (f_base (f_minI et0 el0) (f_maxI et0 eu0)), vR ov, vI 0] []) _
      refine XS.iload X66.here hx rfl (bb d10_221) rfl ?_
      refine XS.aloadN X66.here hx rfl (bb d10_223) rfl rfl ?_
      refine st67 _ ?_
      show GG p e below T67 (mkF m 227 #[vR a1, vI 0, vI 1, vR at_, vI 0, vI eb0, vJ ((et0.toInt64) - (eb0.toInt64)), .second, vI (f_base (f_minI et0 el0) (f_maxI et0 eu0)), vR ov, vI 0] [(.int 2), (.int 0)]) _
      refine XS.iadd X67.here hx rfl (bb d10_227) rfl ?_
      refine XS.istore X67.here hx rfl (bb d10_228) rfl (l' := #[vR a1, vI 0, vI 1, vR at_, vI 0, vI eb0, vJ ((et0.toInt64) - (eb0.toInt64)), .second, vI (f_base (f_minI et0 el0) (f_maxI et0 eu0)), vR ov, vI 2]) rfl ?_
      show GG p e below T67 (mkF m 230 #[vR a1, vI 0, vI 1, vR at_, vI 0, vI eb0, vJ ((et0.toInt64) - (eb0.toInt64)), .second, vI (f_base (f_minI et0 el0) (f_maxI et0 eu0)), vR ov, vI 2] []) _
      refine XS.goto X67.here hx rfl (pc0 := 230) (pc' := 195) rfl (bb d10_230) (by decide) (by decide) ?_
      refine XS.iload X67.here hx rfl (bb d10_195) rfl ?_
      refine XS.iloadN X67.here hx rfl (bb d10_197) rfl ?_
      refine XS.aloadN X67.here hx rfl (bb d10_198) rfl rfl ?_
      show GG p e below T67 (mkF m 199 #[vR a1, vI 0, vI 1, vR at_, vI 0, vI eb0, vJ ((et0.toInt64) - (eb0.toInt64)), .second, vI (f_base (f_minI et0 el0) (f_maxI et0 eu0)), vR ov, vI 2] [(.ref a1), (.int 1), (.int 2)]) _
      refine st69 _ ?_
      show GG p e below T69 (mkF m 202 #[vR a1, vI 0, vI 1, vR at_, vI 0, vI eb0, vJ ((et0.toInt64) - (eb0.toInt64)), .second, vI (f_base (f_minI et0 el0) (f_maxI et0 eu0)), vR ov, vI 2] [(.int 2), (.int 1), (.int 2)]) _
      refine XS.imul X69.here hx rfl (bb d10_202) rfl ?_
      refine XS.icmpYes X69.here hx rfl (pc0 := 203) (pc' := 233) rfl (bb d10_203) rfl (flt (by decide : ¬ ((2 : Int32) < (2 : Int32)))).2.1 (by decide) (by decide) ?_
      show GG p e below T69 (mkF m 233 #[vR a1, vI 0, vI 1, vR at_, vI 0, vI eb0, vJ ((et0.toInt64) - (eb0.toInt64)), .second, vI (f_base (f_minI et0 el0) (f_maxI et0 eu0)), vR ov, vI 2] []) _
      refine XS.aloadN X69.here hx rfl (bb d10_233) rfl rfl ?_
      refine st70 _ ?_
      show GG p e below T70 (mkF m 237 #[vR a1, vI 0, vI 1, vR at_, vI 0, vI eb0, vJ ((et0.toInt64) - (eb0.toInt64)), .second, vI (f_base (f_minI et0 el0) (f_maxI et0 eu0)), vR ov, vI 2] [(.ref ob)]) _
      refine XS.iloadN X70.here hx rfl (bb d10_237) rfl ?_
      refine XS.aloadN X70.here hx rfl (bb d10_238) rfl rfl ?_
      refine st72 _ ?_
      show GG p e below T72 (mkF m 242 #[vR a1, vI 0, vI 1, vR at_, vI 0, vI eb0, vJ ((et0.toInt64) - (eb0.toInt64)), .second, vI (f_base (f_minI et0 el0) (f_maxI et0 eu0)), vR ov, vI 2] [(.int 2), (.int 0), (.ref ob)]) _
      refine XS.imul X72.here hx rfl (bb d10_242) rfl ?_
      refine XS.iload X72.here hx rfl (bb d10_243) rfl ?_
      refine XS.iadd X72.here hx rfl (bb d10_245) rfl ?_
      refine XS.iload X72.here hx rfl (bb d10_246) rfl ?_
      show GG p e below T72 (mkF m 248 #[vR a1, vI 0, vI 1, vR at_, vI 0, vI eb0, vJ ((et0.toInt64) - (eb0.toInt64)), .second, vI (f_base (f_minI et0 el0) (f_maxI et0 eu0)), vR ov, vI 2] [(.int (f_base (f_minI et0 el0) (f_maxI et0 eu0))), (.int 0), (.ref ob)]) _
      refine st74 _ ?_
      exact k
    · skip
      have F76 := ((r15.other W26 (Ne.symm ne_ol_ov)).other W36 (Ne.symm ne_oh_ov))
      refine ⟨T39, _, h36, (.unset), (.unset), (.unset), X39, e39, N36, (Keep.refl h36 [ob, ov]), (by simp only [nbase, if_neg g46]; exact F41), (by simp only [nbase, if_neg g46]; have q := F76; exact q), One.u, One.u, One.u, fun t k => pre45 t ?_⟩
      show GG p e below T39 (mkF m 148 #[vR a1, vI 0, vI 1, vR at_, vI 0, vI eb0, vJ ((et0.toInt64) - (eb0.toInt64)), .second, .unset, .unset, .unset] []) _
      refine XS.lload X39.here hx rfl (bb d10_148) rfl ?_
      refine XS.lconst X39.here hx rfl (bb d10_150) ?_
      refine XS.lcmp X39.here hx rfl (bb d10_151) rfl ?_
      show GG p e below T39 (mkF m 152 #[vR a1, vI 0, vI 1, vR at_, vI 0, vI eb0, vJ ((et0.toInt64) - (eb0.toInt64)), .second, .unset, .unset, .unset] [(.int (lcmpW ((et0.toInt64) - (eb0.toInt64)) (0 : Int64)))]) _
      refine XS.ifNo X39.here hx rfl (bb d10_152) rfl ((if0 _ _).trans (flt (fun q => g46 (Or.inl q))).1) ?_
      refine XS.lload X39.here hx rfl (bb d10_155) rfl ?_
      refine X39.ldc2Long hx hown (mvT hZ (wd74 hw)) (g := (mkF m 157 #[vR a1, vI 0, vI 1, vR at_, vI 0, vI eb0, vJ ((et0.toInt64) - (eb0.toInt64)), .second, .unset, .unset, .unset] [(.long ((et0.toInt64) - (eb0.toInt64)))])) rfl (bb d10_157) _ ?_
      show GG p e below T39 (mkF m 160 #[vR a1, vI 0, vI 1, vR at_, vI 0, vI eb0, vJ ((et0.toInt64) - (eb0.toInt64)), .second, .unset, .unset, .unset] [(.long 65536), (.long ((et0.toInt64) - (eb0.toInt64)))]) _
      refine XS.lcmp X39.here hx rfl (bb d10_160) rfl ?_
      show GG p e below T39 (mkF m 161 #[vR a1, vI 0, vI 1, vR at_, vI 0, vI eb0, vJ ((et0.toInt64) - (eb0.toInt64)), .second, .unset, .unset, .unset] [(.int (lcmpW ((et0.toInt64) - (eb0.toInt64)) (65536 : Int64)))]) _
      refine XS.ifYes X39.here hx rfl (pc0 := 161) (pc' := 249) rfl (bb d10_161) rfl ((if0 _ _).trans (tlt (Decidable.of_not_not fun q => g46 (Or.inr q))).1) (by decide) (by decide) ?_
      exact k
  have F78 := (F40.keep K46 (ninS ne_a1_ob (ninS ne_a1_ov nin0)))
  obtain ⟨T77, X77, e77, st77⟩ := getF X46 hx hZ hown (host := "") (Or.inl (wd23 hw)) Via.refl e46 F78 (g := (mkF m 73 #[vR a1, vI 0, vI 1, vR at_, vI 1, vI eb0, vJ ((et0.toInt64) - (eb0.toInt64)), .second, s8_46, s9_46, s10_46] [(.ref a1), (.int 1)])) rfl rfl (bb d10_73)
  have F80 := (((r6.other W26 (Or.inl ne_a1_ol)).other W36 (Or.inl ne_a1_oh)).keep K46 (ninS ne_a1_ob (ninS ne_a1_ov nin0)))
  obtain ⟨T79, X79, e79, st79⟩ := getF X77 hx hZ hown (host := "") (Or.inl (wd27 hw)) Via.refl e77 F80 (g := (mkF m 80 #[vR a1, vI 0, vI 1, vR at_, vI 1, vI eb0, vJ ((et0.toInt64) - (eb0.toInt64)), .second, s8_46, s9_46, s10_46] [(.ref a1)])) rfl rfl (bb d10_80)
  have F81 := (F43.keep K46 (ninS ne_at__ob (ninS ne_at__ov nin0)))
  obtain ⟨cl82, Ar82, vq82, vS82, vN82, vH82, vG82⟩ := id F81
  have hin82 : ¬ (((1 : Int32) : Int32) < 0 ∨ cl82.slots.size ≤ ((1 : Int32) : Int32).toNatClampNeg) := inb_of vS82 ⟨by decide, by decide⟩
  obtain ⟨T83, X83, e83, st83⟩ := getF X79 hx hZ hown (host := "") (Or.inl (wd27 hw)) Via.refl e79 F80 (g := (mkF m 90 #[vR a1, vI 0, vI 1, vR at_, vI 1, vI eb0, vJ ((et0.toInt64) - (eb0.toInt64)), .second, s8_46, s9_46, s10_46] [(.ref a1), (.int et1), (.int 1), (.ref ol)])) rfl rfl (bb d10_90)
  have F84 := ((V26.other W36 ne_ol_oh).keep K46 (ninS (Ne.symm ne_ob_ol) (ninS ne_ol_ov nin0)))
  obtain ⟨cl85, Ar85, vq85, vS85, vN85, vH85, vG85⟩ := id F84
  have hin85 : ¬ (((1 : Int32) : Int32) < 0 ∨ cl85.slots.size ≤ ((1 : Int32) : Int32).toNatClampNeg) := inb_of vS85 ⟨by decide, by decide⟩
  have O87 := ((O35.wr W36 g_oh).keep K46 (allS g_ob (allS g_ov all0)))
  obtain ⟨_, _, ⟨T86, L86, k86, n86⟩, -, X86, ⟨Lc86, hQ86, l86, y86, z86⟩, st86⟩ := Jvm.LawKit.callS X83 hx (y := (⟨"java/lang/Math", "min", "(II)I"⟩ : MethodName)) hown (mvT hZ (wd64 hw)) (mvT hZ (wd65 hw)) (mvT hZ (wd54 hw)) (mvT hZ (wd66 hw)) (by decide) (backOf (W := 2) (rm_minI l Z a0 hw [] et1 el1 h46 n0 (own_z0 O87) O87 S_CS) hZ (wd66 hw) (wd54 hw) (by decide) (by decide)) (g := (mkF m 96 #[vR a1, vI 0, vI 1, vR at_, vI 1, vI eb0, vJ ((et0.toInt64) - (eb0.toInt64)), .second, s8_46, s9_46, s10_46] [(.int el1), (.int et1), (.int 1), (.ref ol)])) rfl (by rw [hml]; rfl) (argsL := [(.int et1), (.int el1)]) (rest := [(.int 1), (.ref ol)]) (lenOf pd__II_I_5 rfl) rfl (by show 2 * 0 + _ ≤ _; exact Nat.le_of_eq rfl) (bb d10_96) (fun _ _ => ⟨rfl, e83, (by decide : 0 + 0 ≤ _), (by decide : 0 + 0 ≤ _)⟩)
  dsimp only [Pt.U, Pt.locs, Pt.cells, Pt.slots] at X86 l86 y86 z86 st86 hQ86
  subst l86 y86 z86
  obtain ⟨rfl, N86q, e86⟩ := hQ86
  have N86 := Fr.app N46 N86q
  obtain ⟨cl88, Ar88, vq88, vS88, vN88, vH88, vG88⟩ := id F84
  have hin88 : ¬ (((1 : Int32) : Int32) < 0 ∨ cl88.slots.size ≤ ((1 : Int32) : Int32).toNatClampNeg) := inb_of vS88 ⟨by decide, by decide⟩
  obtain ⟨T88, h88, X88, e88, W88, st88⟩ := stI X86 hx hZ e86 Ar88 (j := (1 : Int32)) hin88 (g := (mkF m 99 #[vR a1, vI 0, vI 1, vR at_, vI 1, vI eb0, vJ ((et0.toInt64) - (eb0.toInt64)), .second, s8_46, s9_46, s10_46] [(.int (f_minI et1 el1)), (.int 1), (.ref ol)])) rfl rfl (bb d10_99)
  have V88 : Arv Z h88 ol kl_ .int (2 : Int32) [(.int (f_minI et0 el0)), (.int (f_minI et1 el1))] (.int 0) := Arv.set Ar88 vq88 vS88 vN88 vH88 vG88 rfl W88 1 rfl (Nat.le_of_ble_eq_true rfl)
  have N88 := Fr.snoc X88 N86 g_ol
  have F90 := (((F28.other W36 (Or.inl ne_a1_oh)).keep K46 (ninS ne_a1_ob (ninS ne_a1_ov nin0))).other W88 (Or.inl ne_a1_ol))
  obtain ⟨T89, X89, e89, st89⟩ := getF X88 hx hZ hown (host := "") (Or.inl (wd29 hw)) Via.refl e88 F90 (g := (mkF m 101 #[vR a1, vI 0, vI 1, vR at_, vI 1, vI eb0, vJ ((et0.toInt64) - (eb0.toInt64)), .second, s8_46, s9_46, s10_46] [(.ref a1)])) rfl rfl (bb d10_101)
  have F91 := (F81.other W88 ne_at__ol)
  obtain ⟨cl92, Ar92, vq92, vS92, vN92, vH92, vG92⟩ := id F91
  have hin92 : ¬ (((1 : Int32) : Int32) < 0 ∨ cl92.slots.size ≤ ((1 : Int32) : Int32).toNatClampNeg) := inb_of vS92 ⟨by decide, by decide⟩
  obtain ⟨T93, X93, e93, st93⟩ := getF X89 hx hZ hown (host := "") (Or.inl (wd29 hw)) Via.refl e89 F90 (g := (mkF m 111 #[vR a1, vI 0, vI 1, vR at_, vI 1, vI eb0, vJ ((et0.toInt64) - (eb0.toInt64)), .second, s8_46, s9_46, s10_46] [(.ref a1), (.int et1), (.int 1), (.ref oh)])) rfl rfl (bb d10_111)
  have F94 := ((V36.keep K46 (ninS (Ne.symm ne_ob_oh) (ninS ne_oh_ov nin0))).other W88 (Ne.symm ne_ol_oh))
  obtain ⟨cl95, Ar95, vq95, vS95, vN95, vH95, vG95⟩ := id F94
  have hin95 : ¬ (((1 : Int32) : Int32) < 0 ∨ cl95.slots.size ≤ ((1 : Int32) : Int32).toNatClampNeg) := inb_of vS95 ⟨by decide, by decide⟩
  have O97 := (O87.wr W88 g_ol)
  obtain ⟨_, _, ⟨T96, L96, k96, n96⟩, -, X96, ⟨Lc96, hQ96, l96, y96, z96⟩, st96⟩ := Jvm.LawKit.callS X93 hx (y := (⟨"java/lang/Math", "max", "(II)I"⟩ : MethodName)) hown (mvT hZ (wd71 hw)) (mvT hZ (wd72 hw)) (mvT hZ (wd54 hw)) (mvT hZ (wd73 hw)) (by decide) (backOf (W := 2) (rm_maxI l Z a0 hw [] et1 eu1 h88 n0 (own_z0 O97) O97 S_CS) hZ (wd73 hw) (wd54 hw) (by decide) (by decide)) (g := (mkF m 117 #[vR a1, vI 0, vI 1, vR at_, vI 1, vI eb0, vJ ((et0.toInt64) - (eb0.toInt64)), .second, s8_46, s9_46, s10_46] [(.int eu1), (.int et1), (.int 1), (.ref oh)])) rfl (by rw [hml]; rfl) (argsL := [(.int et1), (.int eu1)]) (rest := [(.int 1), (.ref oh)]) (lenOf pd__II_I_5 rfl) rfl (by show 2 * 0 + _ ≤ _; exact Nat.le_of_eq rfl) (bb d10_117) (fun _ _ => ⟨rfl, e93, (by decide : 0 + 0 ≤ _), (by decide : 0 + 0 ≤ _)⟩)
  dsimp only [Pt.U, Pt.locs, Pt.cells, Pt.slots] at X96 l96 y96 z96 st96 hQ96
  subst l96 y96 z96
  obtain ⟨rfl, N96q, e96⟩ := hQ96
  have N96 := Fr.app N88 N96q
  obtain ⟨cl98, Ar98, vq98, vS98, vN98, vH98, vG98⟩ := id F94
  have hin98 : ¬ (((1 : Int32) : Int32) < 0 ∨ cl98.slots.size ≤ ((1 : Int32) : Int32).toNatClampNeg) := inb_of vS98 ⟨by decide, by decide⟩
  obtain ⟨T98, h98, X98, e98, W98, st98⟩ := stI X96 hx hZ e96 Ar98 (j := (1 : Int32)) hin98 (g := (mkF m 120 #[vR a1, vI 0, vI 1, vR at_, vI 1, vI eb0, vJ ((et0.toInt64) - (eb0.toInt64)), .second, s8_46, s9_46, s10_46] [(.int (f_maxI et1 eu1)), (.int 1), (.ref oh)])) rfl rfl (bb d10_120)
  have V98 : Arv Z h98 oh kh_ .int (2 : Int32) [(.int (f_maxI et0 eu0)), (.int (f_maxI et1 eu1))] (.int 0) := Arv.set Ar98 vq98 vS98 vN98 vH98 vG98 rfl W98 1 rfl (Nat.le_of_ble_eq_true rfl)
  have N98 := Fr.snoc X98 N96 g_oh
  have F100 := (((F38.keep K46 (ninS ne_a1_ob (ninS ne_a1_ov nin0))).other W88 (Or.inl ne_a1_ol)).other W98 (Or.inl ne_a1_oh))
  obtain ⟨T99, X99, e99, st99⟩ := getF X98 hx hZ hown (host := "") (Or.inl (wd25 hw)) Via.refl e98 F100 (g := (mkF m 122 #[vR a1, vI 0, vI 1, vR at_, vI 1, vI eb0, vJ ((et0.toInt64) - (eb0.toInt64)), .second, s8_46, s9_46, s10_46] [(.ref a1)])) rfl rfl (bb d10_122)
  have F102 := ((F78.other W88 (Or.inl ne_a1_ol)).other W98 (Or.inl ne_a1_oh))
  obtain ⟨T101, X101, e101, st101⟩ := getF X99 hx hZ hown (host := "") (Or.inl (wd23 hw)) Via.refl e99 F102 (g := (mkF m 127 #[vR a1, vI 0, vI 1, vR at_, vI 1, vI eb0, vJ ((et0.toInt64) - (eb0.toInt64)), .second, s8_46, s9_46, s10_46] [(.ref a1), (.int 0), (.ref ob)])) rfl rfl (bb d10_127)
  have F103 := ((f46_0.other W88 ne_ob_ol).other W98 ne_ob_oh)
  obtain ⟨cl104, Ar104, vq104, vS104, vN104, vH104, vG104⟩ := id F103
  have hin104 : ¬ (((1 : Int32) : Int32) < 0 ∨ cl104.slots.size ≤ ((1 : Int32) : Int32).toNatClampNeg) := inb_of vS104 ⟨by decide, by decide⟩
  have F105 := (F91.other W98 ne_at__oh)
  obtain ⟨cl106, Ar106, vq106, vS106, vN106, vH106, vG106⟩ := id F105
  have hin106 : ¬ (((1 : Int32) : Int32) < 0 ∨ cl106.slots.size ≤ ((1 : Int32) : Int32).toNatClampNeg) := inb_of vS106 ⟨by decide, by decide⟩
  have pre107 : ∀ t, GG p e below T101 (mkF m 148 #[vR a1, vI 0, vI 1, vR at_, vI 1, vI eb1, vJ ((et1.toInt64) - (eb1.toInt64)), .second, s8_46, s9_46, s10_46] []) t → GG p e below s₁ (entryFrame m #[(.ref a1), (.int 0), (.int 1), (.ref at_)] 11) t := fun t k => pre46 t (by
      show GG p e below T46 (mkF m 249 #[vR a1, vI 0, vI 1, vR at_, vI 0, vI eb0, vJ ((et0.toInt64) - (eb0.toInt64)), .second, s8_46, s9_46, s10_46] []) _
      refine XS.iinc X46.here hx rfl (bb d10_249) rfl (l' := #[vR a1, vI 0, vI 1, vR at_, vI 1, vI eb0, vJ ((et0.toInt64) - (eb0.toInt64)), .second, s8_46, s9_46, s10_46]) rfl ?_
      show GG p e below T46 (mkF m 252 #[vR a1, vI 0, vI 1, vR at_, vI 1, vI eb0, vJ ((et0.toInt64) - (eb0.toInt64)), .second, s8_46, s9_46, s10_46] []) _
      refine XS.goto X46.here hx rfl (pc0 := 252) (pc' := 70) rfl (bb d10_252) (by decide) (by decide) ?_
      refine XS.iload X46.here hx rfl (bb d10_70) rfl ?_
      refine XS.aloadN X46.here hx rfl (bb d10_72) rfl rfl ?_
      refine st77 _ ?_
      show GG p e below T77 (mkF m 76 #[vR a1, vI 0, vI 1, vR at_, vI 1, vI eb0, vJ ((et0.toInt64) - (eb0.toInt64)), .second, s8_46, s9_46, s10_46] [(.int 2), (.int 1)]) _
      refine XS.icmpNo X77.here hx rfl (bb d10_76) rfl (tlt (by decide : (1 : Int32) < (2 : Int32))).2.1 ?_
      refine XS.aloadN X77.here hx rfl (bb d10_79) rfl rfl ?_
      refine st79 _ ?_
      show GG p e below T79 (mkF m 83 #[vR a1, vI 0, vI 1, vR at_, vI 1, vI eb0, vJ ((et0.toInt64) - (eb0.toInt64)), .second, s8_46, s9_46, s10_46] [(.ref ol)]) _
      refine XS.iload X79.here hx rfl (bb d10_83) rfl ?_
      refine XS.aloadN X79.here hx rfl (bb d10_85) rfl rfl ?_
      refine XS.iload X79.here hx rfl (bb d10_86) rfl ?_
      refine X79.iaload hx (j := (1 : Int32)) (v := (.int et1)) (by rw [e79]; exact Ar82.1) (State.isArrayOf_alike hZ.alike Ar82.2.1) Ar82.2.2 hin82 (vH82.at hin82 rfl) (g := (mkF m 88 #[vR a1, vI 0, vI 1, vR at_, vI 1, vI eb0, vJ ((et0.toInt64) - (eb0.toInt64)), .second, s8_46, s9_46, s10_46] [(.int 1), (.ref at_), (.int 1), (.ref ol)])) rfl rfl (bb d10_88) _ ?_
      show GG p e below T79 (mkF m 89 #[vR a1, vI 0, vI 1, vR at_, vI 1, vI eb0, vJ ((et0.toInt64) - (eb0.toInt64)), .second, s8_46, s9_46, s10_46] [(.int et1), (.int 1), (.ref ol)]) _
      refine XS.aloadN X79.here hx rfl (bb d10_89) rfl rfl ?_
      refine st83 _ ?_
      show GG p e below T83 (mkF m 93 #[vR a1, vI 0, vI 1, vR at_, vI 1, vI eb0, vJ ((et0.toInt64) - (eb0.toInt64)), .second, s8_46, s9_46, s10_46] [(.ref ol), (.int et1), (.int 1), (.ref ol)]) _
      refine XS.iload X83.here hx rfl (bb d10_93) rfl ?_
      refine X83.iaload hx (j := (1 : Int32)) (v := (.int el1)) (by rw [e83]; exact Ar85.1) (State.isArrayOf_alike hZ.alike Ar85.2.1) Ar85.2.2 hin85 (vH85.at hin85 rfl) (g := (mkF m 95 #[vR a1, vI 0, vI 1, vR at_, vI 1, vI eb0, vJ ((et0.toInt64) - (eb0.toInt64)), .second, s8_46, s9_46, s10_46] [(.int 1), (.ref ol), (.int et1), (.int 1), (.ref ol)])) rfl rfl (bb d10_95) _ ?_
      show GG p e below T83 (mkF m 96 #[vR a1, vI 0, vI 1, vR at_, vI 1, vI eb0, vJ ((et0.toInt64) - (eb0.toInt64)), .second, s8_46, s9_46, s10_46] [(.int el1), (.int et1), (.int 1), (.ref ol)]) _
      refine st86 _ ?_
      show GG p e below T86 (mkF m 99 #[vR a1, vI 0, vI 1, vR at_, vI 1, vI eb0, vJ ((et0.toInt64) - (eb0.toInt64)), .second, s8_46, s9_46, s10_46] [(.int (f_minI et1 el1)), (.int 1), (.ref ol)]) _
      refine st88 _ ?_
      show GG p e below T88 (mkF m 100 #[vR a1, vI 0, vI 1, vR at_, vI 1, vI eb0, vJ ((et0.toInt64) - (eb0.toInt64)), .second, s8_46, s9_46, s10_46] []) _
      refine XS.aloadN X88.here hx rfl (bb d10_100) rfl rfl ?_
      refine st89 _ ?_
      show GG p e below T89 (mkF m 104 #[vR a1, vI 0, vI 1, vR at_, vI 1, vI eb0, vJ ((et0.toInt64) - (eb0.toInt64)), .second, s8_46, s9_46, s10_46] [(.ref oh)]) _
      refine XS.iload X89.here hx rfl (bb d10_104) rfl ?_
      refine XS.aloadN X89.here hx rfl (bb d10_106) rfl rfl ?_
      refine XS.iload X89.here hx rfl (bb d10_107) rfl ?_
      refine X89.iaload hx (j := (1 : Int32)) (v := (.int et1)) (by rw [e89]; exact Ar92.1) (State.isArrayOf_alike hZ.alike Ar92.2.1) Ar92.2.2 hin92 (vH92.at hin92 rfl) (g := (mkF m 109 #[vR a1, vI 0, vI 1, vR at_, vI 1, vI eb0, vJ ((et0.toInt64) - (eb0.toInt64)), .second, s8_46, s9_46, s10_46] [(.int 1), (.ref at_), (.int 1), (.ref oh)])) rfl rfl (bb d10_109) _ ?_
      show GG p e below T89 (mkF m 110 #[vR a1, vI 0, vI 1, vR at_, vI 1, vI eb0, vJ ((et0.toInt64) - (eb0.toInt64)), .second, s8_46, s9_46, s10_46] [(.int et1), (.int 1), (.ref oh)]) _
      refine XS.aloadN X89.here hx rfl (bb d10_110) rfl rfl ?_
      refine st93 _ ?_
      show GG p e below T93 (mkF m 114 #[vR a1, vI 0, vI 1, vR at_, vI 1, vI eb0, vJ ((et0.toInt64) - (eb0.toInt64)), .second, s8_46, s9_46, s10_46] [(.ref oh), (.int et1), (.int 1), (.ref oh)]) _
      refine XS.iload X93.here hx rfl (bb d10_114) rfl ?_
      refine X93.iaload hx (j := (1 : Int32)) (v := (.int eu1)) (by rw [e93]; exact Ar95.1) (State.isArrayOf_alike hZ.alike Ar95.2.1) Ar95.2.2 hin95 (vH95.at hin95 rfl) (g := (mkF m 116 #[vR a1, vI 0, vI 1, vR at_, vI 1, vI eb0, vJ ((et0.toInt64) - (eb0.toInt64)), .second, s8_46, s9_46, s10_46] [(.int 1), (.ref oh), (.int et1), (.int 1), (.ref oh)])) rfl rfl (bb d10_116) _ ?_
      show GG p e below T93 (mkF m 117 #[vR a1, vI 0, vI 1, vR at_, vI 1, vI eb0, vJ ((et0.toInt64) - (eb0.toInt64)), .second, s8_46, s9_46, s10_46] [(.int eu1), (.int et1), (.int 1), (.ref oh)]) _
      refine st96 _ ?_
      show GG p e below T96 (mkF m 120 #[vR a1, vI 0, vI 1, vR at_, vI 1, vI eb0, vJ ((et0.toInt64) - (eb0.toInt64)), .second, s8_46, s9_46, s10_46] [(.int (f_maxI et1 eu1)), (.int 1), (.ref oh)]) _
      refine st98 _ ?_
      show GG p e below T98 (mkF m 121 #[vR a1, vI 0, vI 1, vR at_, vI 1, vI eb0, vJ ((et0.toInt64) - (eb0.toInt64)), .second, s8_46, s9_46, s10_46] []) _
      refine XS.aloadN X98.here hx rfl (bb d10_121) rfl rfl ?_
      refine st99 _ ?_
      show GG p e below T99 (mkF m 125 #[vR a1, vI 0, vI 1, vR at_, vI 1, vI eb0, vJ ((et0.toInt64) - (eb0.toInt64)), .second, s8_46, s9_46, s10_46] [(.ref ob)]) _
      refine XS.iloadN X99.here hx rfl (bb d10_125) rfl ?_
      refine XS.aloadN X99.here hx rfl (bb d10_126) rfl rfl ?_
      refine st101 _ ?_
      show GG p e below T101 (mkF m 130 #[vR a1, vI 0, vI 1, vR at_, vI 1, vI eb0, vJ ((et0.toInt64) - (eb0.toInt64)), .second, s8_46, s9_46, s10_46] [(.int 2), (.int 0), (.ref ob)]) _
      refine XS.imul X101.here hx rfl (bb d10_130) rfl ?_
      refine XS.iload X101.here hx rfl (bb d10_131) rfl ?_
      refine XS.iadd X101.here hx rfl (bb d10_133) rfl ?_
      refine X101.iaload hx (j := (1 : Int32)) (v := (.int eb1)) (by rw [e101]; exact Ar104.1) (State.isArrayOf_alike hZ.alike Ar104.2.1) Ar104.2.2 hin104 (vH104.at hin104 rfl) (g := (mkF m 134 #[vR a1, vI 0, vI 1, vR at_, vI 1, vI eb0, vJ ((et0.toInt64) - (eb0.toInt64)), .second, s8_46, s9_46, s10_46] [(.int 1), (.ref ob)])) rfl rfl (bb d10_134) _ ?_
      show GG p e below T101 (mkF m 135 #[vR a1, vI 0, vI 1, vR at_, vI 1, vI eb0, vJ ((et0.toInt64) - (eb0.toInt64)), .second, s8_46, s9_46, s10_46] [(.int eb1)]) _
      refine XS.istore X101.here hx rfl (bb d10_135) rfl (l' := #[vR a1, vI 0, vI 1, vR at_, vI 1, vI eb1, vJ ((et0.toInt64) - (eb0.toInt64)), .second, s8_46, s9_46, s10_46]) rfl ?_
      show GG p e below T101 (mkF m 137 #[vR a1, vI 0, vI 1, vR at_, vI 1, vI eb1, vJ ((et0.toInt64) - (eb0.toInt64)), .second, s8_46, s9_46, s10_46] []) _
      refine XS.aloadN X101.here hx rfl (bb d10_137) rfl rfl ?_
      refine XS.iload X101.here hx rfl (bb d10_138) rfl ?_
      refine X101.iaload hx (j := (1 : Int32)) (v := (.int et1)) (by rw [e101]; exact Ar106.1) (State.isArrayOf_alike hZ.alike Ar106.2.1) Ar106.2.2 hin106 (vH106.at hin106 rfl) (g := (mkF m 140 #[vR a1, vI 0, vI 1, vR at_, vI 1, vI eb1, vJ ((et0.toInt64) - (eb0.toInt64)), .second, s8_46, s9_46, s10_46] [(.int 1), (.ref at_)])) rfl rfl (bb d10_140) _ ?_
      show GG p e below T101 (mkF m 141 #[vR a1, vI 0, vI 1, vR at_, vI 1, vI eb1, vJ ((et0.toInt64) - (eb0.toInt64)), .second, s8_46, s9_46, s10_46] [(.int et1)]) _
      refine XS.i2l X101.here hx rfl (bb d10_141) rfl ?_
      refine XS.iload X101.here hx rfl (bb d10_142) rfl ?_
      refine XS.i2l X101.here hx rfl (bb d10_144) rfl ?_
      refine XS.lsub X101.here hx rfl (bb d10_145) rfl ?_
      show GG p e below T101 (mkF m 146 #[vR a1, vI 0, vI 1, vR at_, vI 1, vI eb1, vJ ((et0.toInt64) - (eb0.toInt64)), .second, s8_46, s9_46, s10_46] [(.long ((et1.toInt64) - (eb1.toInt64)))]) _
      refine XS.lstore X101.here hx rfl (bb d10_146) rfl (l' := #[vR a1, vI 0, vI 1, vR at_, vI 1, vI eb1, vJ ((et1.toInt64) - (eb1.toInt64)), .second, s8_46, s9_46, s10_46]) rfl ?_
      exact k)
  obtain ⟨T108, L108, h108, s8_108, s9_108, s10_108, X108, e108, N108, K108, f108_0, f108_1, o_s8_108, o_s9_108, o_s10_108, pre108⟩ : ∃ (T' : State) (L' : List Loc) (h' : Heap) (s8_108 : Slot) (s9_108 : Slot) (s10_108 : Slot), Stand p l e ({ frames := 2, cells := 0, slots := 0, locals := 30 } : Room) s m #[(.ref a1), (.int 0), (.int 1), (.ref at_)] below meth c T' L' 0 0 ∧ T'.heap = h' ∧ Fr n0 L' ∧ Keep h98 h' [ob, ov] ∧ Arv Z h' ob kb_ .int (2 : Int32) [(.int (nbase eb0 el0 eu0 et0)), (.int (nbase eb1 el1 eu1 et1))] (.int 0) ∧ Arv Z h' ov kv_ .char (16 : Int32) [(.int (nar .char (ev0_0 - (nbase eb0 el0 eu0 et0)))), (.int (nar .char (ev0_1 - (nbase eb1 el1 eu1 et1)))), (.int ex2), (.int ex3), (.int ex4), (.int ex5), (.int ex6), (.int ex7), (.int ex8), (.int ex9), (.int ex10), (.int ex11), (.int ex12), (.int ex13), (.int ex14), (.int ex15)] (.int 0) ∧ One s8_108 ∧ One s9_108 ∧ One s10_108 ∧ ∀ t, GG p e below T' (mkF m 249 #[vR a1, vI 0, vI 1, vR at_, vI 1, vI eb1, vJ ((et1.toInt64) - (eb1.toInt64)), .second, s8_108, s9_108, s10_108] []) t → GG p e below s₁ (entryFrame m #[(.ref a1), (.int 0), (.int 1), (.ref at_)] 11) t := by
    by_cases g108 : ((lcmpW ((et1.toInt64) - (eb1.toInt64)) (0 : Int64)) < (0 : Int32)) ∨ ¬ ((lcmpW ((et1.toInt64) - (eb1.toInt64)) (65536 : Int64)) < (0 : Int32))
    · skip
      obtain ⟨T109, L109, X109, e109, N109, pre109⟩ : ∃ (T' : State) (L' : List Loc), Stand p l e ({ frames := 2, cells := 0, slots := 0, locals := 30 } : Room) s m #[(.ref a1), (.int 0), (.int 1), (.ref at_)] below meth c T' L' 0 0 ∧ T'.heap = h98 ∧ Fr n0 L' ∧ ∀ t, Steps p.tables e below (T'.setTop (mkF m 164 #[vR a1, vI 0, vI 1, vR at_, vI 1, vI eb1, vJ ((et1.toInt64) - (eb1.toInt64)), .second, s8_46, s9_46, s10_46] [])) t → Steps p.tables e below (s₁.setTop (entryFrame m #[(.ref a1), (.int 0), (.int 1), (.ref at_)] 11)) t := by
        have pre110 : ∀ t, GG p e below T101 (mkF m 152 #[vR a1, vI 0, vI 1, vR at_, vI 1, vI eb1, vJ ((et1.toInt64) - (eb1.toInt64)), .second, s8_46, s9_46, s10_46] [(.int (lcmpW ((et1.toInt64) - (eb1.toInt64)) (0 : Int64)))]) t → GG p e below s₁ (entryFrame m #[(.ref a1), (.int 0), (.int 1), (.ref at_)] 11) t := fun t k => pre107 t (by
            show GG p e below T101 (mkF m 148 #[vR a1, vI 0, vI 1, vR at_, vI 1, vI eb1, vJ ((et1.toInt64) - (eb1.toInt64)), .second, s8_46, s9_46, s10_46] []) _
            refine XS.lload X101.here hx rfl (bb d10_148) rfl ?_
            refine XS.lconst X101.here hx rfl (bb d10_150) ?_
            refine XS.lcmp X101.here hx rfl (bb d10_151) rfl ?_
            exact k)
        by_cases g111 : (lcmpW ((et1.toInt64) - (eb1.toInt64)) (0 : Int64)) < (0 : Int32)
        · skip
          exact ⟨T101, _, X101, e101, N98, fun t k => pre110 t (by
              show GG p e below T101 (mkF m 152 #[vR a1, vI 0, vI 1, vR at_, vI 1, vI eb1, vJ ((et1.toInt64) - (eb1.toInt64)), .second, s8_46, s9_46, s10_46] [(.int (lcmpW ((et1.toInt64) - (eb1.toInt64)) (0 : Int64)))]) _
              refine XS.ifYes X101.here hx rfl (pc0 := 152) (pc' := 164) rfl (bb d10_152) rfl ((if0 _ _).trans (tlt g111).1) (by decide) (by decide) ?_
              exact k)⟩
        · skip
          exact ⟨T101, _, X101, e101, N98, fun t k => pre110 t (by
              show GG p e below T101 (mkF m 152 #[vR a1, vI 0, vI 1, vR at_, vI 1, vI eb1, vJ ((et1.toInt64) - (eb1.toInt64)), .second, s8_46, s9_46, s10_46] [(.int (lcmpW ((et1.toInt64) - (eb1.toInt64)) (0 : Int64)))]) _
              refine XS.ifNo X101.here hx rfl (bb d10_152) rfl ((if0 _ _).trans (flt g111).1) ?_
              refine XS.lload X101.here hx rfl (bb d10_155) rfl ?_
              refine X101.ldc2Long hx hown (mvT hZ (wd74 hw)) (g := (mkF m 157 #[vR a1, vI 0, vI 1, vR at_, vI 1, vI eb1, vJ ((et1.toInt64) - (eb1.toInt64)), .second, s8_46, s9_46, s10_46] [(.long ((et1.toInt64) - (eb1.toInt64)))])) rfl (bb d10_157) _ ?_
              show GG p e below T101 (mkF m 160 #[vR a1, vI 0, vI 1, vR at_, vI 1, vI eb1, vJ ((et1.toInt64) - (eb1.toInt64)), .second, s8_46, s9_46, s10_46] [(.long 65536), (.long ((et1.toInt64) - (eb1.toInt64)))]) _
              refine XS.lcmp X101.here hx rfl (bb d10_160) rfl ?_
              show GG p e below T101 (mkF m 161 #[vR a1, vI 0, vI 1, vR at_, vI 1, vI eb1, vJ ((et1.toInt64) - (eb1.toInt64)), .second, s8_46, s9_46, s10_46] [(.int (lcmpW ((et1.toInt64) - (eb1.toInt64)) (65536 : Int64)))]) _
              refine XS.ifNo X101.here hx rfl (bb d10_161) rfl ((if0 _ _).trans (flt (g108.resolve_left g111)).1) ?_
              exact k)⟩
      have F113 := ((F80.other W88 (Or.inl ne_a1_ol)).other W98 (Or.inl ne_a1_oh))
      obtain ⟨T112, X112, e112, st112⟩ := getF X109 hx hZ hown (host := "") (Or.inl (wd27 hw)) Via.refl e109 F113 (g := (mkF m 165 #[vR a1, vI 0, vI 1, vR at_, vI 1, vI eb1, vJ ((et1.toInt64) - (eb1.toInt64)), .second, s8_46, s9_46, s10_46] [(.ref a1)])) rfl rfl (bb d10_165)
      have F114 := (V88.other W98 ne_ol_oh)
      obtain ⟨cl115, Ar115, vq115, vS115, vN115, vH115, vG115⟩ := id F114
      have hin115 : ¬ (((1 : Int32) : Int32) < 0 ∨ cl115.slots.size ≤ ((1 : Int32) : Int32).toNatClampNeg) := inb_of vS115 ⟨by decide, by decide⟩
      have F117 := (F90.other W98 (Or.inl ne_a1_oh))
      obtain ⟨T116, X116, e116, st116⟩ := getF X112 hx hZ hown (host := "") (Or.inl (wd29 hw)) Via.refl e112 F117 (g := (mkF m 172 #[vR a1, vI 0, vI 1, vR at_, vI 1, vI eb1, vJ ((et1.toInt64) - (eb1.toInt64)), .second, s8_46, s9_46, s10_46] [(.ref a1), (.int (f_minI et1 el1))])) rfl rfl (bb d10_172)
      obtain ⟨cl118, Ar118, vq118, vS118, vN118, vH118, vG118⟩ := id V98
      have hin118 : ¬ (((1 : Int32) : Int32) < 0 ∨ cl118.slots.size ≤ ((1 : Int32) : Int32).toNatClampNeg) := inb_of vS118 ⟨by decide, by decide⟩
      have O120 := (O97.wr W98 g_oh)
      obtain ⟨_, _, ⟨T119, L119, k119, n119⟩, -, X119, ⟨Lc119, hQ119, l119, y119, z119⟩, st119⟩ := Jvm.LawKit.callS X116 hx (y := (⟨cRV, "base", "(II)I"⟩ : MethodName)) hown (mvT hZ (wd46 hw)) (mvT hZ (wd47 hw)) (mvT hZ (wd8 hw)) (mvT hZ (wd48 hw)) (by decide) (backOf (W := 0) (rm_base l Z a0 hw [] (f_minI et1 el1) (f_maxI et1 eu1) h98 n0 (own_z0 O120) O120 S_CS) hZ (wd48 hw) (wd8 hw) (by decide) (by decide)) (g := (mkF m 178 #[vR a1, vI 0, vI 1, vR at_, vI 1, vI eb1, vJ ((et1.toInt64) - (eb1.toInt64)), .second, s8_46, s9_46, s10_46] [(.int (f_maxI et1 eu1)), (.int (f_minI et1 el1))])) rfl (by rw [hml]; rfl) (argsL := [(.int (f_minI et1 el1)), (.int (f_maxI et1 eu1))]) (rest := []) (lenOf pd__II_I_5 rfl) rfl (by show 2 * 0 + _ ≤ _; exact Nat.le_of_eq rfl) (bb d10_178) (fun _ _ => ⟨rfl, e116, (by decide : 0 + 0 ≤ _), (by decide : 0 + 0 ≤ _)⟩)
      dsimp only [Pt.U, Pt.locs, Pt.cells, Pt.slots] at X119 l119 y119 z119 st119 hQ119
      subst l119 y119 z119
      obtain ⟨rfl, N119q, e119⟩ := hQ119
      have N119 := Fr.app N109 N119q
      have F122 := (((((r4.other W26 (Or.inl ne_a1_ol)).other W36 (Or.inl ne_a1_oh)).keep K46 (ninS ne_a1_ob (ninS ne_a1_ov nin0))).other W88 (Or.inl ne_a1_ol)).other W98 (Or.inl ne_a1_oh))
      obtain ⟨T121, X121, e121, st121⟩ := getF X119 hx hZ hown (host := "") (Or.inl (wd21 hw)) Via.refl e119 F122 (g := (mkF m 184 #[vR a1, vI 0, vI 1, vR at_, vI 1, vI eb1, vJ ((et1.toInt64) - (eb1.toInt64)), .second, vI (f_base (f_minI et1 el1) (f_maxI et1 eu1)), s9_46, s10_46] [(.ref a1)])) rfl rfl (bb d10_184)
      have F123 := (((((r10.other W26 ne_on_ol).other W36 ne_on_oh).keep K46 (ninS ne_on_ob (ninS ne_on_ov nin0))).other W88 ne_on_ol).other W98 ne_on_oh)
      obtain ⟨cl124, Ar124, vq124, vS124, vN124, vH124, vG124⟩ := id F123
      have hin124 : ¬ (((0 : Int32) : Int32) < 0 ∨ cl124.slots.size ≤ ((0 : Int32) : Int32).toNatClampNeg) := inb_of vS124 ⟨by decide, by decide⟩
      obtain ⟨T125, X125, e125, st125⟩ := getF X121 hx hZ hown (host := "") (Or.inl (wd23 hw)) Via.refl e121 F102 (g := (mkF m 199 #[vR a1, vI 0, vI 1, vR at_, vI 1, vI eb1, vJ ((et1.toInt64) - (eb1.toInt64)), .second, vI (f_base (f_minI et1 el1) (f_maxI et1 eu1)), vR ov, vI 1] [(.ref a1), (.int 1), (.int 1)])) rfl rfl (bb d10_199)
      have F126 := ((f46_1.other W88 (Ne.symm ne_ol_ov)).other W98 (Ne.symm ne_oh_ov))
      obtain ⟨cl127, Ar127, vq127, vS127, vN127, vH127, vG127⟩ := id F126
      have hin127 : ¬ (((1 : Int32) : Int32) < 0 ∨ cl127.slots.size ≤ ((1 : Int32) : Int32).toNatClampNeg) := inb_of vS127 ⟨by decide, by decide⟩
      obtain ⟨cl128, Ar128, vq128, vS128, vN128, vH128, vG128⟩ := id F126
      have hin128 : ¬ (((1 : Int32) : Int32) < 0 ∨ cl128.slots.size ≤ ((1 : Int32) : Int32).toNatClampNeg) := inb_of vS128 ⟨by decide, by decide⟩
      obtain ⟨T128, h128, X128, e128, W128, st128⟩ := stC X125 hx hZ e125 Ar128 (j := (1 : Int32)) hin128 (g := (mkF m 220 #[vR a1, vI 0, vI 1, vR at_, vI 1, vI eb1, vJ ((et1.toInt64) - (eb1.toInt64)), .second, vI (f_base (f_minI et1 el1) (f_maxI et1 eu1)), vR ov, vI 1] [(.int (((nar .char (ev0_1 - eb1)) + ((eb1 - (f_base (f_minI et1 el1) (f_maxI et1 eu1))).toUInt32.toUInt16.toUInt32.toInt32)).toUInt32.toUInt16.toUInt32.toInt32)), (.int 1), (.ref ov)])) rfl rfl (bb d10_220)
      have V128 : Arv Z h128 ov kv_ .char (16 : Int32) [(.int (nar .char (ev0_0 - (nbase eb0 el0 eu0 et0)))), (.int (nar .char (((nar .char (ev0_1 - eb1)) + ((eb1 - (f_base (f_minI et1 el1) (f_maxI et1 eu1))).toUInt32.toUInt16.toUInt32.toInt32)).toUInt32.toUInt16.toUInt32.toInt32))), (.int ex2), (.int ex3), (.int ex4), (.int ex5), (.int ex6), (.int ex7), (.int ex8), (.int ex9), (.int ex10), (.int ex11), (.int ex12), (.int ex13), (.int ex14), (.int ex15)] (.int 0) := Arv.set Ar128 vq128 vS128 vN128 vH128 vG128 (fits_nar_char _) W128 1 rfl (Nat.le_of_ble_eq_true rfl)
      have N128 := Fr.snoc X128 N119 g_ov
      have F130 := (F102.other W128 (Or.inl ne_a1_ov))
      obtain ⟨T129, X129, e129, st129⟩ := getF X128 hx hZ hown (host := "") (Or.inl (wd23 hw)) Via.refl e128 F130 (g := (mkF m 224 #[vR a1, vI 0, vI 1, vR at_, vI 1, vI eb1, vJ ((et1.toInt64) - (eb1.toInt64)), .second, vI (f_base (f_minI et1 el1) (f_maxI et1 eu1)), vR ov, vI 1] [(.ref a1), (.int 1)])) rfl rfl (bb d10_224)
      obtain ⟨T131, X131, e131, st131⟩ := getF X129 hx hZ hown (host := "") (Or.inl (wd23 hw)) Via.refl e129 F130 (g := (mkF m 199 #[vR a1, vI 0, vI 1, vR at_, vI 1, vI eb1, vJ ((et1.toInt64) - (eb1.toInt64)), .second, vI (f_base (f_minI et1 el1) (f_maxI et1 eu1)), vR ov, vI 3] [(.ref a1), (.int 1), (.int 3)])) rfl rfl (bb d10_199)
      have F133 := (F100.other W128 (Or.inl ne_a1_ov))
      obtain ⟨T132, X132, e132, st132⟩ := getF X131 hx hZ hown (host := "") (Or.inl (wd25 hw)) Via.refl e131 F133 (g := (mkF m 234 #[vR a1, vI 0, vI 1, vR at_, vI 1, vI eb1, vJ ((et1.toInt64) - (eb1.toInt64)), .second, vI (f_base (f_minI et1 el1) (f_maxI et1 eu1)), vR ov, vI 3] [(.ref a1)])) rfl rfl (bb d10_234)
      obtain ⟨T134, X134, e134, st134⟩ := getF X132 hx hZ hown (host := "") (Or.inl (wd23 hw)) Via.refl e132 F130 (g := (mkF m 239 #[vR a1, vI 0, vI 1, vR at_, vI 1, vI eb1, vJ ((et1.toInt64) - (eb1.toInt64)), .second, vI (f_base (f_minI et1 el1) (f_maxI et1 eu1)), vR ov, vI 3] [(.ref a1), (.int 0), (.ref ob)])) rfl rfl (bb d10_239)
      have F135 := (F103.other W128 ne_ob_ov)
      obtain ⟨cl136, Ar136, vq136, vS136, vN136, vH136, vG136⟩ := id F135
      have hin136 : ¬ (((1 : Int32) : Int32) < 0 ∨ cl136.slots.size ≤ ((1 : Int32) : Int32).toNatClampNeg) := inb_of vS136 ⟨by decide, by decide⟩
      obtain ⟨T136, h136, X136, e136, W136, st136⟩ := stI X134 hx hZ e134 Ar136 (j := (1 : Int32)) hin136 (g := (mkF m 248 #[vR a1, vI 0, vI 1, vR at_, vI 1, vI eb1, vJ ((et1.toInt64) - (eb1.toInt64)), .second, vI (f_base (f_minI et1 el1) (f_maxI et1 eu1)), vR ov, vI 3] [(.int (f_base (f_minI et1 el1) (f_maxI et1 eu1))), (.int 1), (.ref ob)])) rfl rfl (bb d10_248)
      have V136 : Arv Z h136 ob kb_ .int (2 : Int32) [(.int (nbase eb0 el0 eu0 et0)), (.int (f_base (f_minI et1 el1) (f_maxI et1 eu1)))] (.int 0) := Arv.set Ar136 vq136 vS136 vN136 vH136 vG136 rfl W136 1 rfl (Nat.le_of_ble_eq_true rfl)
      have N136 := Fr.snoc X136 N128 g_ob
      have F137 := (V128.other W136 (Ne.symm ne_ob_ov))
      refine ⟨T136, _, h136, (vI (f_base (f_minI et1 el1) (f_maxI et1 eu1))), (vR ov), (vI 3), X136, e136, N136, (((Keep.refl h98 [ob, ov]).wr W128 (Or.inl (List.mem_of_getElem? (i := 1) rfl))).wr W136 (Or.inl (List.mem_of_getElem? (i := 0) rfl))), (by simp only [nbase, if_pos g108]; exact V136), (by simp only [nbase, if_pos g108]; have q := F137; simp only [own_ch] at q; exact q), (One.val rfl), (One.val rfl), (One.val rfl), fun t k => pre109 t ?_⟩
      show GG p e below T109 (mkF m 164 #[vR a1, vI 0, vI 1, vR at_, vI 1, vI eb1, vJ ((et1.toInt64) - (eb1.toInt64)), .second, s8_46, s9_46, s10_46] []) _
      refine XS.aloadN X109.here hx rfl (bb d10_164) rfl rfl ?_
      refine st112 _ ?_
      show GG p e below T112 (mkF m 168 #[vR a1, vI 0, vI 1, vR at_, vI 1, vI eb1, vJ ((et1.toInt64) - (eb1.toInt64)), .second, s8_46, s9_46, s10_46] [(.ref ol)]) _
      refine XS.iload X112.here hx rfl (bb d10_168) rfl ?_
      refine X112.iaload hx (j := (1 : Int32)) (v := (.int (f_minI et1 el1))) (by rw [e112]; exact Ar115.1) (State.isArrayOf_alike hZ.alike Ar115.2.1) Ar115.2.2 hin115 (vH115.at hin115 rfl) (g := (mkF m 170 #[vR a1, vI 0, vI 1, vR at_, vI 1, vI eb1, vJ ((et1.toInt64) - (eb1.toInt64)), .second, s8_46, s9_46, s10_46] [(.int 1), (.ref ol)])) rfl rfl (bb d10_170) _ ?_
      show GG p e below T112 (mkF m 171 #[vR a1, vI 0, vI 1, vR at_, vI 1, vI eb1, vJ ((et1.toInt64) - (eb1.toInt64)), .second, s8_46, s9_46, s10_46] [(.int (f_minI et1 el1))]) _
      refine XS.aloadN X112.here hx rfl (bb d10_171) rfl rfl ?_
      refine st116 _ ?_
      show GG p e below T116 (mkF m 175 #[vR a1, vI 0, vI 1, vR at_, vI 1, vI eb1, vJ ((et1.toInt64) - (eb1.toInt64)), .second, s8_46, s9_46, s10_46] [(.ref oh), (.int (f_minI et1 el1))]) _
      refine XS.iload X116.here hx rfl (bb d10_175) rfl ?_
      refine X116.iaload hx (j := (1 : Int32)) (v := (.int (f_maxI et1 eu1))) (by rw [e116]; exact Ar118.1) (State.isArrayOf_alike hZ.alike Ar118.2.1) Ar118.2.2 hin118 (vH118.at hin118 rfl) (g := (mkF m 177 #[vR a1, vI 0, vI 1, vR at_, vI 1, vI eb1, vJ ((et1.toInt64) - (eb1.toInt64)), .second, s8_46, s9_46, s10_46] [(.int 1), (.ref oh), (.int (f_minI et1 el1))])) rfl rfl (bb d10_177) _ ?_
      show GG p e below T116 (mkF m 178 #[vR a1, vI 0, vI 1, vR at_, vI 1, vI eb1, vJ ((et1.toInt64) - (eb1.toInt64)), .second, s8_46, s9_46, s10_46] [(.int (f_maxI et1 eu1)), (.int (f_minI et1 el1))]) _
      refine st119 _ ?_
      show GG p e below T119 (mkF m 181 #[vR a1, vI 0, vI 1, vR at_, vI 1, vI eb1, vJ ((et1.toInt64) - (eb1.toInt64)), .second, s8_46, s9_46, s10_46] [(.int (f_base (f_minI et1 el1) (f_maxI et1 eu1)))]) _
      refine XS.istoreS X119.here hx rfl (bb d10_181) rfl rfl o_s8_46 ?_
      show GG p e below T119 (mkF m 183 #[vR a1, vI 0, vI 1, vR at_, vI 1, vI eb1, vJ ((et1.toInt64) - (eb1.toInt64)), .second, vI (f_base (f_minI et1 el1) (f_maxI et1 eu1)), s9_46, s10_46] []) _
      refine XS.aloadN X119.here hx rfl (bb d10_183) rfl rfl ?_
      refine st121 _ ?_
      show GG p e below T121 (mkF m 187 #[vR a1, vI 0, vI 1, vR at_, vI 1, vI eb1, vJ ((et1.toInt64) - (eb1.toInt64)), .second, vI (f_base (f_minI et1 el1) (f_maxI et1 eu1)), s9_46, s10_46] [(.ref on)]) _
      refine XS.iloadN X121.here hx rfl (bb d10_187) rfl ?_
      refine X121.aaload hx (j := (0 : Int32)) (v := (.ref ov)) (by rw [e121]; exact Ar124.1) (State.isArrayOf_alike hZ.alike Ar124.2.1) rfl Ar124.2.2 hin124 (vH124.at hin124 rfl) (g := (mkF m 188 #[vR a1, vI 0, vI 1, vR at_, vI 1, vI eb1, vJ ((et1.toInt64) - (eb1.toInt64)), .second, vI (f_base (f_minI et1 el1) (f_maxI et1 eu1)), s9_46, s10_46] [(.int 0), (.ref on)])) rfl rfl (bb d10_188) _ ?_
      show GG p e below T121 (mkF m 189 #[vR a1, vI 0, vI 1, vR at_, vI 1, vI eb1, vJ ((et1.toInt64) - (eb1.toInt64)), .second, vI (f_base (f_minI et1 el1) (f_maxI et1 eu1)), s9_46, s10_46] [(.ref ov)]) _
      refine XS.astoreS X121.here hx rfl (bb d10_189) rfl rfl rfl rfl o_s9_46 ?_
      show GG p e below T121 (mkF m 191 #[vR a1, vI 0, vI 1, vR at_, vI 1, vI eb1, vJ ((et1.toInt64) - (eb1.toInt64)), .second, vI (f_base (f_minI et1 el1) (f_maxI et1 eu1)), vR ov, s10_46] []) _
      refine XS.iload X121.here hx rfl (bb d10_191) rfl ?_
      refine XS.istoreS X121.here hx rfl (bb d10_193) rfl rfl o_s10_46 ?_
      show GG p e below T121 (mkF m 195 #[vR a1, vI 0, vI 1, vR at_, vI 1, vI eb1, vJ ((et1.toInt64) - (eb1.toInt64)), .second, vI (f_base (f_minI et1 el1) (f_maxI et1 eu1)), vR ov, vI 1] []) _
      refine XS.iload X121.here hx rfl (bb d10_195) rfl ?_
      refine XS.iloadN X121.here hx rfl (bb d10_197) rfl ?_
      refine XS.aloadN X121.here hx rfl (bb d10_198) rfl rfl ?_
      refine st125 _ ?_
      show GG p e below T125 (mkF m 202 #[vR a1, vI 0, vI 1, vR at_, vI 1, vI eb1, vJ ((et1.toInt64) - (eb1.toInt64)), .second, vI (f_base (f_minI et1 el1) (f_maxI et1 eu1)), vR ov, vI 1] [(.int 2), (.int 1), (.int 1)]) _
      refine XS.imul X125.here hx rfl (bb d10_202) rfl ?_
      refine XS.icmpNo X125.here hx rfl (bb d10_203) rfl (tlt (by decide : (1 : Int32) < (2 : Int32))).2.1 ?_
      refine XS.aload X125.here hx rfl (bb d10_206) rfl rfl ?_
      refine XS.iload X125.here hx rfl (bb d10_208) rfl ?_
      show GG p e below T125 (mkF m 210 #[vR a1, vI 0, vI 1, vR at_, vI 1, vI eb1, vJ ((et1.toInt64) - (eb1.toInt64)), .second, vI (f_base (f_minI et1 el1) (f_maxI et1 eu1)), vR ov, vI 1] [(.int 1), (.ref ov)]) _
      refine Jvm.Free.XT.dup2 X125.here hx rfl (bb d10_210) rfl rfl rfl ?_
      show GG p e below T125 (mkF m 211 #[vR a1, vI 0, vI 1, vR at_, vI 1, vI eb1, vJ ((et1.toInt64) - (eb1.toInt64)), .second, vI (f_base (f_minI et1 el1) (f_maxI et1 eu1)), vR ov, vI 1] [(.int 1), (.ref ov), (.int 1), (.ref ov)]) _
      refine X125.caload hx (j := (1 : Int32)) (v := (.int (nar .char (ev0_1 - eb1)))) (by rw [e125]; exact Ar127.1) (State.isArrayOf_alike hZ.alike Ar127.2.1) Ar127.2.2 hin127 (vH127.at hin127 rfl) (g := (mkF m 211 #[vR a1, vI 0, vI 1, vR at_, vI 1, vI eb1, vJ ((et1.toInt64) - (eb1.toInt64)), .second, vI (f_base (f_minI et1 el1) (f_maxI et1 eu1)), vR ov, vI 1] [(.int 1), (.ref ov), (.int 1), (.ref ov)])) rfl rfl (bb d10_211) _ ?_
      show GG p e below T125 (mkF m 212 #[vR a1, vI 0, vI 1, vR at_, vI 1, vI eb1, vJ ((et1.toInt64) - (eb1.toInt64)), .second, vI (f_base (f_minI et1 el1) (f_maxI et1 eu1)), vR ov, vI 1] [(.int (nar .char (ev0_1 - eb1))), (.int 1), (.ref ov)]) _
      refine XS.iload X125.here hx rfl (bb d10_212) rfl ?_
      refine XS.iload X125.here hx rfl (bb d10_214) rfl ?_
      refine XS.isub X125.here hx rfl (bb d10_216) rfl ?_
      refine XS.i2c X125.here hx rfl (bb d10_217) rfl ?_
      show GG p e below T125 (mkF m 218 #[vR a1, vI 0, vI 1, vR at_, vI 1, vI eb1, vJ ((et1.toInt64) - (eb1.toInt64)), .second, vI (f_base (f_minI et1 el1) (f_maxI et1 eu1)), vR ov, vI 1] [(.int ((eb1 - (f_base (f_minI et1 el1) (f_maxI et1 eu1))).toUInt32.toUInt16.toUInt32.toInt32)), (.int (nar .char (ev0_1 - eb1))), (.int 1), (.ref ov)]) _
      refine XS.iadd X125.here hx rfl (bb d10_218) rfl ?_
      refine XS.i2c X125.here hx rfl (bb d10_219) rfl ?_
      show GG p e below T125 (mkF m 220 #[vR a1, vI 0, vI 1, vR at_, vI 1, vI eb1, vJ ((et1.toInt64) - (eb1.toInt64)), .second, vI (f_base (f_minI et1 el1) (f_maxI et1 eu1)), vR ov, vI 1] [(.int (((nar .char (ev0_1 - eb1)) + ((eb1 - (f_base (f_minI et1 el1) (f_maxI et1 eu1))).toUInt32.toUInt16.toUInt32.toInt32)).toUInt32.toUInt16.toUInt32.toInt32)), (.int 1), (.ref ov)]) _
      refine st128 _ ?_
      show GG p e below T128 (mkF m 221 #[vR a1, vI 0, vI 1, vR at_, vI 1, vI eb1, vJ ((et1.toInt64) - (eb1.toInt64)), .second, vI (f_base (f_minI et1 el1) (f_maxI et1 eu1)), vR ov, vI 1] []) _
      refine XS.iload X128.here hx rfl (bb d10_221) rfl ?_
      refine XS.aloadN X128.here hx rfl (bb d10_223) rfl rfl ?_
      refine st129 _ ?_
      show GG p e below T129 (mkF m 227 #[vR a1, vI 0, vI 1, vR at_, vI 1, vI eb1, vJ ((et1.toInt64) - (eb1.toInt64)), .second, vI (f_base (f_minI et1 el1) (f_maxI et1 eu1)), vR ov, vI 1] [(.int 2), (.int 1)]) _
      refine XS.iadd X129.here hx rfl (bb d10_227) rfl ?_
      refine XS.istore X129.here hx rfl (bb d10_228) rfl (l' := #[vR a1, vI 0, vI 1, vR at_, vI 1, vI eb1, vJ ((et1.toInt64) - (eb1.toInt64)), .second, vI (f_base (f_minI et1 el1) (f_maxI et1 eu1)), vR ov, vI 3]) rfl ?_
      show GG p e below T129 (mkF m 230 #[vR a1, vI 0, vI 1, vR at_, vI 1, vI eb1, vJ ((et1.toInt64) - (eb1.toInt64)), .second, vI (f_base (f_minI et1 el1) (f_maxI et1 eu1)), vR ov, vI 3] []) _
      refine XS.goto X129.here hx rfl (pc0 := 230) (pc' := 195) rfl (bb d10_230) (by decide) (by decide) ?_
      refine XS.iload X129.here hx rfl (bb d10_195) rfl ?_
      refine XS.iloadN X129.here hx rfl (bb d10_197) rfl ?_
      refine XS.aloadN X129.here hx rfl (bb d10_198) rfl rfl ?_
      show GG p e below T129 (mkF m 199 #[vR a1, vI 0, vI 1, vR at_, vI 1, vI eb1, vJ ((et1.toInt64) - (eb1.toInt64)), .second, vI (f_base (f_minI et1 el1) (f_maxI et1 eu1)), vR ov, vI 3] [(.ref a1), (.int 1), (.int 3)]) _
      refine st131 _ ?_
      show GG p e below T131 (mkF m 202 #[vR a1, vI 0, vI 1, vR at_, vI 1, vI eb1, vJ ((et1.toInt64) - (eb1.toInt64)), .second, vI (f_base (f_minI et1 el1) (f_maxI et1 eu1)), vR ov, vI 3] [(.int 2), (.int 1), (.int 3)]) _
      refine XS.imul X131.here hx rfl (bb d10_202) rfl ?_
      refine XS.icmpYes X131.here hx rfl (pc0 := 203) (pc' := 233) rfl (bb d10_203) rfl (flt (by decide : ¬ ((3 : Int32) < (2 : Int32)))).2.1 (by decide) (by decide) ?_
      show GG p e below T131 (mkF m 233 #[vR a1, vI 0, vI 1, vR at_, vI 1, vI eb1, vJ ((et1.toInt64) - (eb1.toInt64)), .second, vI (f_base (f_minI et1 el1) (f_maxI et1 eu1)), vR ov, vI 3] []) _
      refine XS.aloadN X131.here hx rfl (bb d10_233) rfl rfl ?_
      refine st132 _ ?_
      show GG p e below T132 (mkF m 237 #[vR a1, vI 0, vI 1, vR at_, vI 1, vI eb1, vJ ((et1.toInt64) - (eb1.toInt64)), .second, vI (f_base (f_minI et1 el1) (f_maxI et1 eu1)), vR ov, vI 3] [(.ref ob)]) _
      refine XS.iloadN X132.here hx rfl (bb d10_237) rfl ?_
      refine XS.aloadN X132.here hx rfl (bb d10_238) rfl rfl ?_
      refine st134 _ ?_
      show GG p e below T134 (mkF m 242 #[vR a1, vI 0, vI 1, vR at_, vI 1, vI eb1, vJ ((et1.toInt64) - (eb1.toInt64)), .second, vI (f_base (f_minI et1 el1) (f_maxI et1 eu1)), vR ov, vI 3] [(.int 2), (.int 0), (.ref ob)]) _
      refine XS.imul X134.here hx rfl (bb d10_242) rfl ?_
      refine XS.iload X134.here hx rfl (bb d10_243) rfl ?_
      refine XS.iadd X134.here hx rfl (bb d10_245) rfl ?_
      refine XS.iload X134.here hx rfl (bb d10_246) rfl ?_
      show GG p e below T134 (mkF m 248 #[vR a1, vI 0, vI 1, vR at_, vI 1, vI eb1, vJ ((et1.toInt64) - (eb1.toInt64)), .second, vI (f_base (f_minI et1 el1) (f_maxI et1 eu1)), vR ov, vI 3] [(.int (f_base (f_minI et1 el1) (f_maxI et1 eu1))), (.int 1), (.ref ob)]) _
      refine st136 _ ?_
      exact k
    · skip
      have F138 := ((f46_1.other W88 (Ne.symm ne_ol_ov)).other W98 (Ne.symm ne_oh_ov))
      refine ⟨T101, _, h98, (s8_46), (s9_46), (s10_46), X101, e101, N98, (Keep.refl h98 [ob, ov]), (by simp only [nbase, if_neg g108]; exact F103), (by simp only [nbase, if_neg g108]; have q := F138; exact q), o_s8_46, o_s9_46, o_s10_46, fun t k => pre107 t ?_⟩
      show GG p e below T101 (mkF m 148 #[vR a1, vI 0, vI 1, vR at_, vI 1, vI eb1, vJ ((et1.toInt64) - (eb1.toInt64)), .second, s8_46, s9_46, s10_46] []) _
      refine XS.lload X101.here hx rfl (bb d10_148) rfl ?_
      refine XS.lconst X101.here hx rfl (bb d10_150) ?_
      refine XS.lcmp X101.here hx rfl (bb d10_151) rfl ?_
      show GG p e below T101 (mkF m 152 #[vR a1, vI 0, vI 1, vR at_, vI 1, vI eb1, vJ ((et1.toInt64) - (eb1.toInt64)), .second, s8_46, s9_46, s10_46] [(.int (lcmpW ((et1.toInt64) - (eb1.toInt64)) (0 : Int64)))]) _
      refine XS.ifNo X101.here hx rfl (bb d10_152) rfl ((if0 _ _).trans (flt (fun q => g108 (Or.inl q))).1) ?_
      refine XS.lload X101.here hx rfl (bb d10_155) rfl ?_
      refine X101.ldc2Long hx hown (mvT hZ (wd74 hw)) (g := (mkF m 157 #[vR a1, vI 0, vI 1, vR at_, vI 1, vI eb1, vJ ((et1.toInt64) - (eb1.toInt64)), .second, s8_46, s9_46, s10_46] [(.long ((et1.toInt64) - (eb1.toInt64)))])) rfl (bb d10_157) _ ?_
      show GG p e below T101 (mkF m 160 #[vR a1, vI 0, vI 1, vR at_, vI 1, vI eb1, vJ ((et1.toInt64) - (eb1.toInt64)), .second, s8_46, s9_46, s10_46] [(.long 65536), (.long ((et1.toInt64) - (eb1.toInt64)))]) _
      refine XS.lcmp X101.here hx rfl (bb d10_160) rfl ?_
      show GG p e below T101 (mkF m 161 #[vR a1, vI 0, vI 1, vR at_, vI 1, vI eb1, vJ ((et1.toInt64) - (eb1.toInt64)), .second, s8_46, s9_46, s10_46] [(.int (lcmpW ((et1.toInt64) - (eb1.toInt64)) (65536 : Int64)))]) _
      refine XS.ifYes X101.here hx rfl (pc0 := 161) (pc' := 249) rfl (bb d10_161) rfl ((if0 _ _).trans (tlt (Decidable.of_not_not fun q => g108 (Or.inr q))).1) (by decide) (by decide) ?_
      exact k
  have F140 := (F102.keep K108 (ninS ne_a1_ob (ninS ne_a1_ov nin0)))
  obtain ⟨T139, X139, e139, st139⟩ := getF X108 hx hZ hown (host := "") (Or.inl (wd23 hw)) Via.refl e108 F140 (g := (mkF m 73 #[vR a1, vI 0, vI 1, vR at_, vI 2, vI eb1, vJ ((et1.toInt64) - (eb1.toInt64)), .second, s8_108, s9_108, s10_108] [(.ref a1), (.int 2)])) rfl rfl (bb d10_73)
  have F141 := ((V88.other W98 ne_ol_oh).keep K108 (ninS (Ne.symm ne_ob_ol) (ninS ne_ol_ov nin0)))
  have F142 := (V98.keep K108 (ninS (Ne.symm ne_ob_oh) (ninS ne_oh_ov nin0)))
  obtain ⟨fs, hr, hrun, hended, hW, hsame⟩ := X139.leave (v := none) (fun _ => rfl)
  refine ⟨_, _, pre108 _ ?_, hrun, hended, _, _, rfl, ?_, ⟨_, rfl⟩, hW, hsame.mono (by decide) (by decide)⟩
  · show GG p e below T108 (mkF m 249 #[vR a1, vI 0, vI 1, vR at_, vI 1, vI eb1, vJ ((et1.toInt64) - (eb1.toInt64)), .second, s8_108, s9_108, s10_108] []) _
    refine XS.iinc X108.here hx rfl (bb d10_249) rfl (l' := #[vR a1, vI 0, vI 1, vR at_, vI 2, vI eb1, vJ ((et1.toInt64) - (eb1.toInt64)), .second, s8_108, s9_108, s10_108]) rfl ?_
    show GG p e below T108 (mkF m 252 #[vR a1, vI 0, vI 1, vR at_, vI 2, vI eb1, vJ ((et1.toInt64) - (eb1.toInt64)), .second, s8_108, s9_108, s10_108] []) _
    refine XS.goto X108.here hx rfl (pc0 := 252) (pc' := 70) rfl (bb d10_252) (by decide) (by decide) ?_
    refine XS.iload X108.here hx rfl (bb d10_70) rfl ?_
    refine XS.aloadN X108.here hx rfl (bb d10_72) rfl rfl ?_
    refine st139 _ ?_
    show GG p e below T139 (mkF m 76 #[vR a1, vI 0, vI 1, vR at_, vI 2, vI eb1, vJ ((et1.toInt64) - (eb1.toInt64)), .second, s8_108, s9_108, s10_108] [(.int 2), (.int 2)]) _
    refine XS.icmpYes X139.here hx rfl (pc0 := 76) (pc' := 255) rfl (bb d10_76) rfl (flt (by decide : ¬ ((2 : Int32) < (2 : Int32)))).2.1 (by decide) (by decide) ?_
    show GG p e below T139 (mkF m 255 #[vR a1, vI 0, vI 1, vR at_, vI 2, vI eb1, vJ ((et1.toInt64) - (eb1.toInt64)), .second, s8_108, s9_108, s10_108] []) _
    exact X139.returnOut hx Bd.returns (bb d10_255) hr
  · show Q_fit2_1 Z a1 at_ ow on ob ol oh ov kw_ kn_ kb_ kl_ kh_ kv_ eb0 eb1 el0 el1 eu0 eu1 ev0_0 ev0_1 ex2 ex3 ex4 ex5 ex6 ex7 ex8 ex9 ex10 ex11 ex12 ex13 ex14 ex15 kt_ et0 et1 h0 n0 _ T139.heap _
    rw [e139]
    exact ⟨rfl, N108, (((((((Keep.refl h0 [ob, ol, oh, ov]).wr W26 (Or.inl (List.mem_of_getElem? (i := 1) rfl))).wr W36 (Or.inl (List.mem_of_getElem? (i := 2) rfl))).trans K46 (allS (Or.inl (List.mem_of_getElem? (i := 0) rfl)) (allS (Or.inl (List.mem_of_getElem? (i := 3) rfl)) all0))).wr W88 (Or.inl (List.mem_of_getElem? (i := 1) rfl))).wr W98 (Or.inl (List.mem_of_getElem? (i := 2) rfl))).trans K108 (allS (Or.inl (List.mem_of_getElem? (i := 0) rfl)) (allS (Or.inl (List.mem_of_getElem? (i := 3) rfl)) all0))), F141, F142, f108_0, f108_1⟩
def Q_fit2_2 (Z : State) (a1 at_ ow on ob ol oh ov : Addr) (kw_ kn_ kb_ kl_ kh_ kv_ : ClassId) (eb0 eb1 el0 el1 eu0 eu1 ev0_0 ev0_1 ev1_0 ev1_1 ex4 ex5 ex6 ex7 ex8 ex9 ex10 ex11 ex12 ex13 ex14 ex15 : Int32) (kt_ : ClassId) (et0 et1 : Int32) (h0 : Heap) (n0 : Nat) (v : Option Value) (h : Heap) (L : List Loc) : Prop := v = none ∧ Fr n0 L ∧ Keep h0 h [ob, ol, oh, ov] ∧ Arv Z h ol kl_ .int (2 : Int32) [(.int (f_minI et0 el0)), (.int (f_minI et1 el1))] (.int 0) ∧ Arv Z h oh kh_ .int (2 : Int32) [(.int (f_maxI et0 eu0)), (.int (f_maxI et1 eu1))] (.int 0) ∧ Arv Z h ob kb_ .int (2 : Int32) [(.int (nbase eb0 el0 eu0 et0)), (.int (nbase eb1 el1 eu1 et1))] (.int 0) ∧ Arv Z h ov kv_ .char (16 : Int32) [(.int (nar .char (ev0_0 - (nbase eb0 el0 eu0 et0)))), (.int (nar .char (ev0_1 - (nbase eb1 el1 eu1 et1)))), (.int (nar .char (ev1_0 - (nbase eb0 el0 eu0 et0)))), (.int (nar .char (ev1_1 - (nbase eb1 el1 eu1 et1)))), (.int ex4), (.int ex5), (.int ex6), (.int ex7), (.int ex8), (.int ex9), (.int ex10), (.int ex11), (.int ex12), (.int ex13), (.int ex14), (.int ex15)] (.int 0)
set_option maxRecDepth 65536 in
set_option maxHeartbeats 40000000 in
theorem rm_fit2_2 (l : Launch) (Z : State) (a0 : Array Value) (hw : ∀ d ∈ tables_1, d.before a0 Z = true) (ws : List Jvm.Cond) (a1 at_ ow on ob ol oh ov : Addr) (kw_ kn_ kb_ kl_ kh_ kv_ : ClassId) (eb0 eb1 el0 el1 eu0 eu1 ev0_0 ev0_1 ev1_0 ev1_1 ex4 ex5 ex6 ex7 ex8 ex9 ex10 ex11 ex12 ex13 ex14 ex15 : Int32) (kt_ : ClassId) (et0 et1 : Int32) (h0 : Heap) (n0 : Nat) (Z0 : n0 ≤ h0.size) (O0 : Old Z n0 h0) (S_CS : Sta Z Z.heap cRV "CHUNK_SHIFT" "I" (.int (12 : Int32))) (r0 : Exa Z h0 a1 cRV) (r1 : Fld Z h0 a1 cRV "arity" "I" (.int 2)) (r2 : Fld Z h0 a1 cRV "rows" "I" (.int 2)) (r3 : Fld Z h0 a1 cRV "wide" "[[I" (.ref ow)) (r4 : Fld Z h0 a1 cRV "narrow" "[[C" (.ref on)) (r5 : Fld Z h0 a1 cRV "bases" "[I" (.ref ob)) (r6 : Fld Z h0 a1 cRV "lowest" "[I" (.ref ol)) (r7 : Fld Z h0 a1 cRV "highest" "[I" (.ref oh)) (r8 : Arv Z h0 ow kw_ (.array .int) (1 : Int32) [.null] .null) (r9 : OvrA Z kw_ .int "[I") (r10 : Arv Z h0 on kn_ (.array .char) (1 : Int32) [(.ref ov)] .null) (r11 : OvrA Z kn_ .char "[C") (r12 : Arv Z h0 ob kb_ .int (2 : Int32) [(.int eb0), (.int eb1)] (.int 0)) (r13 : Arv Z h0 ol kl_ .int (2 : Int32) [(.int el0), (.int el1)] (.int 0)) (r14 : Arv Z h0 oh kh_ .int (2 : Int32) [(.int eu0), (.int eu1)] (.int 0)) (r15 : Arv Z h0 ov kv_ .char (16 : Int32) [(.int (nar .char (ev0_0 - eb0))), (.int (nar .char (ev0_1 - eb1))), (.int (nar .char (ev1_0 - eb0))), (.int (nar .char (ev1_1 - eb1))), (.int ex4), (.int ex5), (.int ex6), (.int ex7), (.int ex8), (.int ex9), (.int ex10), (.int ex11), (.int ex12), (.int ex13), (.int ex14), (.int ex15)] (.int 0)) (r16 : Arv Z h0 at_ kt_ .int (2 : Int32) [(.int et0), (.int et1)] (.int 0)) (g_ob : n0 ≤ ob) (g_ol : n0 ≤ ol) (g_oh : n0 ≤ oh) (g_ov : n0 ≤ ov) (ne_a1_ow : a1 ≠ ow) (ne_a1_on : a1 ≠ on) (ne_a1_ob : a1 ≠ ob) (ne_a1_ol : a1 ≠ ol) (ne_a1_oh : a1 ≠ oh) (ne_a1_ov : a1 ≠ ov) (ne_ow_on : ow ≠ on) (ne_ow_ob : ow ≠ ob) (ne_ow_ol : ow ≠ ol) (ne_ow_oh : ow ≠ oh) (ne_ow_ov : ow ≠ ov) (ne_on_ob : on ≠ ob) (ne_on_ol : on ≠ ol) (ne_on_oh : on ≠ oh) (ne_on_ov : on ≠ ov) (ne_ob_ol : ob ≠ ol) (ne_ob_oh : ob ≠ oh) (ne_ob_ov : ob ≠ ov) (ne_ol_oh : ol ≠ oh) (ne_ol_ov : ol ≠ ov) (ne_oh_ov : oh ≠ ov) (ne_at__a1 : at_ ≠ a1) (ne_at__ow : at_ ≠ ow) (ne_at__on : at_ ≠ on) (ne_at__ob : at_ ≠ ob) (ne_at__ol : at_ ≠ ol) (ne_at__oh : at_ ≠ oh) (ne_at__ov : at_ ≠ ov) (hs0 : (lcmpW (((f_maxI et0 eu0).toInt64) - ((f_minI et0 el0).toInt64)) (65536 : Int64)) < (0 : Int32)) (hs1 : (lcmpW (((f_maxI et1 eu1).toInt64) - ((f_minI et1 el1).toInt64)) (65536 : Int64)) < (0 : Int32)) :
    MetFree l (⟨cRV, "fit", "(II[I)V"⟩ : MethodName) (head1 (Jvm.Cond.code (⟨cRV, "fit", "(II[I)V"⟩ : MethodName) prog_47_method_7_code 11 none :: ws) ({ frames := 2, cells := 0, slots := 0, locals := 30 } : Room)) (fun a U => a = #[(.ref a1), (.int 0), (.int 2), (.ref at_)] ∧ Z.Warmed39 U.vm ∧ U.heap = h0) (fun _ _ _ _ _ => True) (fun _ U o U' => ∃ v L, o = .returned v ∧ Q_fit2_2 Z a1 at_ ow on ob ol oh ov kw_ kn_ kb_ kl_ kh_ kv_ eb0 eb1 el0 el1 eu0 eu1 ev0_0 ev0_1 ev1_0 ev1_1 ex4 ex5 ex6 ex7 ex8 ex9 ex10 ex11 ex12 ex13 ex14 ex15 kt_ et0 et1 h0 n0 v U'.heap L ∧ FrameEnd U o U' L ({ frames := 2, cells := 0, slots := 0, locals := 30 } : Room).cells ({ frames := 2, cells := 0, slots := 0, locals := 30 } : Room).slots) := by
  refine MetFree.of_bodySF (plainFor_of_name pn_RowValues) hisR ?_
  intro p e s m args below meth c s₁ Bd hml0 hP hK
  obtain ⟨rfl, hZ, hh⟩ := hP
  have hx := Bd.exec
  have hby := Bd.bytes
  have bb := fun {pc : Nat} {r : Except DecodeError (Instr × Nat)} (h : decode prog_47_method_7_code pc = r) => hb hby h
  have hml : c.maxLocals = 11 := hml0
  have hown : s.vm.findClass cRV = some m.cls := findClass_of_methodNamed Bd.named
  have hnm := (name_of_methodNamed Bd.named Bd.method).1
  have X0 : Stand p l e ({ frames := 2, cells := 0, slots := 0, locals := 30 } : Room) s m #[(.ref a1), (.int 0), (.int 2), (.ref at_)] below meth c s₁ [] 0 0 := Stand.of_body Bd
  have e0 : s₁.heap = h0 := by rw [← hh, Bd.state]; rfl
  have N0 := Fr.nil n0
  have pre0 : ∀ t, Steps p.tables e below (s₁.setTop (mkF m 0 #[vR a1, vI 0, vI 2, vR at_, .unset, .unset, .unset, .unset, .unset, .unset, .unset] [])) t → Steps p.tables e below (s₁.setTop (entryFrame m #[(.ref a1), (.int 0), (.int 2), (.ref at_)] 11)) t := fun t k => castTop (ef_fit2_2 m a1 at_) k
  obtain ⟨T1, X1, e1, st1⟩ := getF X0 hx hZ hown (host := "") (Or.inl (wd23 hw)) Via.refl e0 r1 (g := (mkF m 6 #[vR a1, vI 0, vI 2, vR at_, vI 0, .unset, .unset, .unset, .unset, .unset, .unset] [(.ref a1), (.int 0)])) rfl rfl (bb d10_6)
  obtain ⟨cl2, Ar2, vq2, vS2, vN2, vH2, vG2⟩ := id r16
  have hin2 : ¬ (((0 : Int32) : Int32) < 0 ∨ cl2.slots.size ≤ ((0 : Int32) : Int32).toNatClampNeg) := inb_of vS2 ⟨by decide, by decide⟩
  obtain ⟨T3, X3, e3, st3⟩ := getF X1 hx hZ hown (host := "") (Or.inl (wd29 hw)) Via.refl e1 r7 (g := (mkF m 17 #[vR a1, vI 0, vI 2, vR at_, vI 0, .unset, .unset, .unset, .unset, .unset, .unset] [(.ref a1), (.int et0)])) rfl rfl (bb d10_17)
  obtain ⟨cl4, Ar4, vq4, vS4, vN4, vH4, vG4⟩ := id r14
  have hin4 : ¬ (((0 : Int32) : Int32) < 0 ∨ cl4.slots.size ≤ ((0 : Int32) : Int32).toNatClampNeg) := inb_of vS4 ⟨by decide, by decide⟩
  obtain ⟨_, _, ⟨T5, L5, k5, n5⟩, -, X5, ⟨Lc5, hQ5, l5, y5, z5⟩, st5⟩ := Jvm.LawKit.callS X3 hx (y := (⟨"java/lang/Math", "max", "(II)I"⟩ : MethodName)) hown (mvT hZ (wd71 hw)) (mvT hZ (wd72 hw)) (mvT hZ (wd54 hw)) (mvT hZ (wd73 hw)) (by decide) (backOf (W := 0) (rm_maxI l Z a0 hw [] et0 eu0 h0 n0 (own_z0 O0) O0 S_CS) hZ (wd73 hw) (wd54 hw) (by decide) (by decide)) (g := (mkF m 23 #[vR a1, vI 0, vI 2, vR at_, vI 0, .unset, .unset, .unset, .unset, .unset, .unset] [(.int eu0), (.int et0)])) rfl (by rw [hml]; rfl) (argsL := [(.int et0), (.int eu0)]) (rest := []) (lenOf pd__II_I_5 rfl) rfl (by show 2 * 0 + _ ≤ _; exact Nat.le_of_eq rfl) (bb d10_23) (fun _ _ => ⟨rfl, e3, (by decide : 0 + 0 ≤ _), (by decide : 0 + 0 ≤ _)⟩)
  dsimp only [Pt.U, Pt.locs, Pt.cells, Pt.slots] at X5 l5 y5 z5 st5 hQ5
  subst l5 y5 z5
  obtain ⟨rfl, N5q, e5⟩ := hQ5
  have N5 := Fr.app N0 N5q
  obtain ⟨cl6, Ar6, vq6, vS6, vN6, vH6, vG6⟩ := id r16
  have hin6 : ¬ (((0 : Int32) : Int32) < 0 ∨ cl6.slots.size ≤ ((0 : Int32) : Int32).toNatClampNeg) := inb_of vS6 ⟨by decide, by decide⟩
  obtain ⟨T7, X7, e7, st7⟩ := getF X5 hx hZ hown (host := "") (Or.inl (wd27 hw)) Via.refl e5 r6 (g := (mkF m 32 #[vR a1, vI 0, vI 2, vR at_, vI 0, .unset, .unset, .unset, .unset, .unset, .unset] [(.ref a1), (.int et0), (.long ((f_maxI et0 eu0).toInt64))])) rfl rfl (bb d10_32)
  obtain ⟨cl8, Ar8, vq8, vS8, vN8, vH8, vG8⟩ := id r13
  have hin8 : ¬ (((0 : Int32) : Int32) < 0 ∨ cl8.slots.size ≤ ((0 : Int32) : Int32).toNatClampNeg) := inb_of vS8 ⟨by decide, by decide⟩
  obtain ⟨_, _, ⟨T9, L9, k9, n9⟩, -, X9, ⟨Lc9, hQ9, l9, y9, z9⟩, st9⟩ := Jvm.LawKit.callS X7 hx (y := (⟨"java/lang/Math", "min", "(II)I"⟩ : MethodName)) hown (mvT hZ (wd64 hw)) (mvT hZ (wd65 hw)) (mvT hZ (wd54 hw)) (mvT hZ (wd66 hw)) (by decide) (backOf (W := 2) (rm_minI l Z a0 hw [] et0 el0 h0 n0 (own_z0 O0) O0 S_CS) hZ (wd66 hw) (wd54 hw) (by decide) (by decide)) (g := (mkF m 38 #[vR a1, vI 0, vI 2, vR at_, vI 0, .unset, .unset, .unset, .unset, .unset, .unset] [(.int el0), (.int et0), (.long ((f_maxI et0 eu0).toInt64))])) rfl (by rw [hml]; rfl) (argsL := [(.int et0), (.int el0)]) (rest := [(.long ((f_maxI et0 eu0).toInt64))]) (lenOf pd__II_I_5 rfl) rfl (by show 2 * 0 + _ ≤ _; exact Nat.le_of_eq rfl) (bb d10_38) (fun _ _ => ⟨rfl, e7, (by decide : 0 + 0 ≤ _), (by decide : 0 + 0 ≤ _)⟩)
  dsimp only [Pt.U, Pt.locs, Pt.cells, Pt.slots] at X9 l9 y9 z9 st9 hQ9
  subst l9 y9 z9
  obtain ⟨rfl, N9q, e9⟩ := hQ9
  have N9 := Fr.app N5 N9q
  obtain ⟨T10, X10, e10, st10⟩ := getF X9 hx hZ hown (host := "") (Or.inl (wd23 hw)) Via.refl e9 r1 (g := (mkF m 6 #[vR a1, vI 0, vI 2, vR at_, vI 1, vJ (((f_maxI et0 eu0).toInt64) - ((f_minI et0 el0).toInt64)), .second, .unset, .unset, .unset, .unset] [(.ref a1), (.int 1)])) rfl rfl (bb d10_6)
  obtain ⟨cl11, Ar11, vq11, vS11, vN11, vH11, vG11⟩ := id r16
  have hin11 : ¬ (((1 : Int32) : Int32) < 0 ∨ cl11.slots.size ≤ ((1 : Int32) : Int32).toNatClampNeg) := inb_of vS11 ⟨by decide, by decide⟩
  obtain ⟨T12, X12, e12, st12⟩ := getF X10 hx hZ hown (host := "") (Or.inl (wd29 hw)) Via.refl e10 r7 (g := (mkF m 17 #[vR a1, vI 0, vI 2, vR at_, vI 1, vJ (((f_maxI et0 eu0).toInt64) - ((f_minI et0 el0).toInt64)), .second, .unset, .unset, .unset, .unset] [(.ref a1), (.int et1)])) rfl rfl (bb d10_17)
  obtain ⟨cl13, Ar13, vq13, vS13, vN13, vH13, vG13⟩ := id r14
  have hin13 : ¬ (((1 : Int32) : Int32) < 0 ∨ cl13.slots.size ≤ ((1 : Int32) : Int32).toNatClampNeg) := inb_of vS13 ⟨by decide, by decide⟩
  obtain ⟨_, _, ⟨T14, L14, k14, n14⟩, -, X14, ⟨Lc14, hQ14, l14, y14, z14⟩, st14⟩ := Jvm.LawKit.callS X12 hx (y := (⟨"java/lang/Math", "max", "(II)I"⟩ : MethodName)) hown (mvT hZ (wd71 hw)) (mvT hZ (wd72 hw)) (mvT hZ (wd54 hw)) (mvT hZ (wd73 hw)) (by decide) (backOf (W := 0) (rm_maxI l Z a0 hw [] et1 eu1 h0 n0 (own_z0 O0) O0 S_CS) hZ (wd73 hw) (wd54 hw) (by decide) (by decide)) (g := (mkF m 23 #[vR a1, vI 0, vI 2, vR at_, vI 1, vJ (((f_maxI et0 eu0).toInt64) - ((f_minI et0 el0).toInt64)), .second, .unset, .unset, .unset, .unset] [(.int eu1), (.int et1)])) rfl (by rw [hml]; rfl) (argsL := [(.int et1), (.int eu1)]) (rest := []) (lenOf pd__II_I_5 rfl) rfl (by show 2 * 0 + _ ≤ _; exact Nat.le_of_eq rfl) (bb d10_23) (fun _ _ => ⟨rfl, e12, (by decide : 0 + 0 ≤ _), (by decide : 0 + 0 ≤ _)⟩)
  dsimp only [Pt.U, Pt.locs, Pt.cells, Pt.slots] at X14 l14 y14 z14 st14 hQ14
  subst l14 y14 z14
  obtain ⟨rfl, N14q, e14⟩ := hQ14
  have N14 := Fr.app N9 N14q
  obtain ⟨cl15, Ar15, vq15, vS15, vN15, vH15, vG15⟩ := id r16
  have hin15 : ¬ (((1 : Int32) : Int32) < 0 ∨ cl15.slots.size ≤ ((1 : Int32) : Int32).toNatClampNeg) := inb_of vS15 ⟨by decide, by decide⟩
  obtain ⟨T16, X16, e16, st16⟩ := getF X14 hx hZ hown (host := "") (Or.inl (wd27 hw)) Via.refl e14 r6 (g := (mkF m 32 #[vR a1, vI 0, vI 2, vR at_, vI 1, vJ (((f_maxI et0 eu0).toInt64) - ((f_minI et0 el0).toInt64)), .second, .unset, .unset, .unset, .unset] [(.ref a1), (.int et1), (.long ((f_maxI et1 eu1).toInt64))])) rfl rfl (bb d10_32)
  obtain ⟨cl17, Ar17, vq17, vS17, vN17, vH17, vG17⟩ := id r13
  have hin17 : ¬ (((1 : Int32) : Int32) < 0 ∨ cl17.slots.size ≤ ((1 : Int32) : Int32).toNatClampNeg) := inb_of vS17 ⟨by decide, by decide⟩
  obtain ⟨_, _, ⟨T18, L18, k18, n18⟩, -, X18, ⟨Lc18, hQ18, l18, y18, z18⟩, st18⟩ := Jvm.LawKit.callS X16 hx (y := (⟨"java/lang/Math", "min", "(II)I"⟩ : MethodName)) hown (mvT hZ (wd64 hw)) (mvT hZ (wd65 hw)) (mvT hZ (wd54 hw)) (mvT hZ (wd66 hw)) (by decide) (backOf (W := 2) (rm_minI l Z a0 hw [] et1 el1 h0 n0 (own_z0 O0) O0 S_CS) hZ (wd66 hw) (wd54 hw) (by decide) (by decide)) (g := (mkF m 38 #[vR a1, vI 0, vI 2, vR at_, vI 1, vJ (((f_maxI et0 eu0).toInt64) - ((f_minI et0 el0).toInt64)), .second, .unset, .unset, .unset, .unset] [(.int el1), (.int et1), (.long ((f_maxI et1 eu1).toInt64))])) rfl (by rw [hml]; rfl) (argsL := [(.int et1), (.int el1)]) (rest := [(.long ((f_maxI et1 eu1).toInt64))]) (lenOf pd__II_I_5 rfl) rfl (by show 2 * 0 + _ ≤ _; exact Nat.le_of_eq rfl) (bb d10_38) (fun _ _ => ⟨rfl, e16, (by decide : 0 + 0 ≤ _), (by decide : 0 + 0 ≤ _)⟩)
  dsimp only [Pt.U, Pt.locs, Pt.cells, Pt.slots] at X18 l18 y18 z18 st18 hQ18
  subst l18 y18 z18
  obtain ⟨rfl, N18q, e18⟩ := hQ18
  have N18 := Fr.app N14 N18q
  obtain ⟨T19, X19, e19, st19⟩ := getF X18 hx hZ hown (host := "") (Or.inl (wd23 hw)) Via.refl e18 r1 (g := (mkF m 6 #[vR a1, vI 0, vI 2, vR at_, vI 2, vJ (((f_maxI et1 eu1).toInt64) - ((f_minI et1 el1).toInt64)), .second, .unset, .unset, .unset, .unset] [(.ref a1), (.int 2)])) rfl rfl (bb d10_6)
  obtain ⟨T20, X20, e20, st20⟩ := getF X19 hx hZ hown (host := "") (Or.inl (wd23 hw)) Via.refl e19 r1 (g := (mkF m 73 #[vR a1, vI 0, vI 2, vR at_, vI 0, vJ (((f_maxI et1 eu1).toInt64) - ((f_minI et1 el1).toInt64)), .second, .unset, .unset, .unset, .unset] [(.ref a1), (.int 0)])) rfl rfl (bb d10_73)
  obtain ⟨T21, X21, e21, st21⟩ := getF X20 hx hZ hown (host := "") (Or.inl (wd27 hw)) Via.refl e20 r6 (g := (mkF m 80 #[vR a1, vI 0, vI 2, vR at_, vI 0, vJ (((f_maxI et1 eu1).toInt64) - ((f_minI et1 el1).toInt64)), .second, .unset, .unset, .unset, .unset] [(.ref a1)])) rfl rfl (bb d10_80)
  obtain ⟨cl22, Ar22, vq22, vS22, vN22, vH22, vG22⟩ := id r16
  have hin22 : ¬ (((0 : Int32) : Int32) < 0 ∨ cl22.slots.size ≤ ((0 : Int32) : Int32).toNatClampNeg) := inb_of vS22 ⟨by decide, by decide⟩
  obtain ⟨T23, X23, e23, st23⟩ := getF X21 hx hZ hown (host := "") (Or.inl (wd27 hw)) Via.refl e21 r6 (g := (mkF m 90 #[vR a1, vI 0, vI 2, vR at_, vI 0, vJ (((f_maxI et1 eu1).toInt64) - ((f_minI et1 el1).toInt64)), .second, .unset, .unset, .unset, .unset] [(.ref a1), (.int et0), (.int 0), (.ref ol)])) rfl rfl (bb d10_90)
  obtain ⟨cl24, Ar24, vq24, vS24, vN24, vH24, vG24⟩ := id r13
  have hin24 : ¬ (((0 : Int32) : Int32) < 0 ∨ cl24.slots.size ≤ ((0 : Int32) : Int32).toNatClampNeg) := inb_of vS24 ⟨by decide, by decide⟩
  obtain ⟨_, _, ⟨T25, L25, k25, n25⟩, -, X25, ⟨Lc25, hQ25, l25, y25, z25⟩, st25⟩ := Jvm.LawKit.callS X23 hx (y := (⟨"java/lang/Math", "min", "(II)I"⟩ : MethodName)) hown (mvT hZ (wd64 hw)) (mvT hZ (wd65 hw)) (mvT hZ (wd54 hw)) (mvT hZ (wd66 hw)) (by decide) (backOf (W := 2) (rm_minI l Z a0 hw [] et0 el0 h0 n0 (own_z0 O0) O0 S_CS) hZ (wd66 hw) (wd54 hw) (by decide) (by decide)) (g := (mkF m 96 #[vR a1, vI 0, vI 2, vR at_, vI 0, vJ (((f_maxI et1 eu1).toInt64) - ((f_minI et1 el1).toInt64)), .second, .unset, .unset, .unset, .unset] [(.int el0), (.int et0), (.int 0), (.ref ol)])) rfl (by rw [hml]; rfl) (argsL := [(.int et0), (.int el0)]) (rest := [(.int 0), (.ref ol)]) (lenOf pd__II_I_5 rfl) rfl (by show 2 * 0 + _ ≤ _; exact Nat.le_of_eq rfl) (bb d10_96) (fun _ _ => ⟨rfl, e23, (by decide : 0 + 0 ≤ _), (by decide : 0 + 0 ≤ _)⟩)
  dsimp only [Pt.U, Pt.locs, Pt.cells, Pt.slots] at X25 l25 y25 z25 st25 hQ25
  subst l25 y25 z25
  obtain ⟨rfl, N25q, e25⟩ := hQ25
  have N25 := Fr.app N18 N25q
  obtain ⟨cl26, Ar26, vq26, vS26, vN26, vH26, vG26⟩ := id r13
  have hin26 : ¬ (((0 : Int32) : Int32) < 0 ∨ cl26.slots.size ≤ ((0 : Int32) : Int32).toNatClampNeg) := inb_of vS26 ⟨by decide, by decide⟩
  obtain ⟨T26, h26, X26, e26, W26, st26⟩ := stI X25 hx hZ e25 Ar26 (j := (0 : Int32)) hin26 (g := (mkF m 99 #[vR a1, vI 0, vI 2, vR at_, vI 0, vJ (((f_maxI et1 eu1).toInt64) - ((f_minI et1 el1).toInt64)), .second, .unset, .unset, .unset, .unset] [(.int (f_minI et0 el0)), (.int 0), (.ref ol)])) rfl rfl (bb d10_99)
  have V26 : Arv Z h26 ol kl_ .int (2 : Int32) [(.int (f_minI et0 el0)), (.int el1)] (.int 0) := Arv.set Ar26 vq26 vS26 vN26 vH26 vG26 rfl W26 0 rfl (Nat.le_of_ble_eq_true rfl)
  have N26 := Fr.snoc X26 N25 g_ol
  have F28 := (r7.other W26 (Or.inl ne_a1_ol))
  obtain ⟨T27, X27, e27, st27⟩ := getF X26 hx hZ hown (host := "") (Or.inl (wd29 hw)) Via.refl e26 F28 (g := (mkF m 101 #[vR a1, vI 0, vI 2, vR at_, vI 0, vJ (((f_maxI et1 eu1).toInt64) - ((f_minI et1 el1).toInt64)), .second, .unset, .unset, .unset, .unset] [(.ref a1)])) rfl rfl (bb d10_101)
  have F29 := (r16.other W26 ne_at__ol)
  obtain ⟨cl30, Ar30, vq30, vS30, vN30, vH30, vG30⟩ := id F29
  have hin30 : ¬ (((0 : Int32) : Int32) < 0 ∨ cl30.slots.size ≤ ((0 : Int32) : Int32).toNatClampNeg) := inb_of vS30 ⟨by decide, by decide⟩
  obtain ⟨T31, X31, e31, st31⟩ := getF X27 hx hZ hown (host := "") (Or.inl (wd29 hw)) Via.refl e27 F28 (g := (mkF m 111 #[vR a1, vI 0, vI 2, vR at_, vI 0, vJ (((f_maxI et1 eu1).toInt64) - ((f_minI et1 el1).toInt64)), .second, .unset, .unset, .unset, .unset] [(.ref a1), (.int et0), (.int 0), (.ref oh)])) rfl rfl (bb d10_111)
  have F32 := (r14.other W26 (Ne.symm ne_ol_oh))
  obtain ⟨cl33, Ar33, vq33, vS33, vN33, vH33, vG33⟩ := id F32
  have hin33 : ¬ (((0 : Int32) : Int32) < 0 ∨ cl33.slots.size ≤ ((0 : Int32) : Int32).toNatClampNeg) := inb_of vS33 ⟨by decide, by decide⟩
  have O35 := (O0.wr W26 g_ol)
  obtain ⟨_, _, ⟨T34, L34, k34, n34⟩, -, X34, ⟨Lc34, hQ34, l34, y34, z34⟩, st34⟩ := Jvm.LawKit.callS X31 hx (y := (⟨"java/lang/Math", "max", "(II)I"⟩ : MethodName)) hown (mvT hZ (wd71 hw)) (mvT hZ (wd72 hw)) (mvT hZ (wd54 hw)) (mvT hZ (wd73 hw)) (by decide) (backOf (W := 2) (rm_maxI l Z a0 hw [] et0 eu0 h26 n0 (own_z0 O35) O35 S_CS) hZ (wd73 hw) (wd54 hw) (by decide) (by decide)) (g := (mkF m 117 #[vR a1, vI 0, vI 2, vR at_, vI 0, vJ (((f_maxI et1 eu1).toInt64) - ((f_minI et1 el1).toInt64)), .second, .unset, .unset, .unset, .unset] [(.int eu0), (.int et0), (.int 0), (.ref oh)])) rfl (by rw [hml]; rfl) (argsL := [(.int et0), (.int eu0)]) (rest := [(.int 0), (.ref oh)]) (lenOf pd__II_I_5 rfl) rfl (by show 2 * 0 + _ ≤ _; exact Nat.le_of_eq rfl) (bb d10_117) (fun _ _ => ⟨rfl, e31, (by decide : 0 + 0 ≤ _), (by decide : 0 + 0 ≤ _)⟩)
  dsimp only [Pt.U, Pt.locs, Pt.cells, Pt.slots] at X34 l34 y34 z34 st34 hQ34
  subst l34 y34 z34
  obtain ⟨rfl, N34q, e34⟩ := hQ34
  have N34 := Fr.app N26 N34q
  obtain ⟨cl36, Ar36, vq36, vS36, vN36, vH36, vG36⟩ := id F32
  have hin36 : ¬ (((0 : Int32) : Int32) < 0 ∨ cl36.slots.size ≤ ((0 : Int32) : Int32).toNatClampNeg) := inb_of vS36 ⟨by decide, by decide⟩
  obtain ⟨T36, h36, X36, e36, W36, st36⟩ := stI X34 hx hZ e34 Ar36 (j := (0 : Int32)) hin36 (g := (mkF m 120 #[vR a1, vI 0, vI 2, vR at_, vI 0, vJ (((f_maxI et1 eu1).toInt64) - ((f_minI et1 el1).toInt64)), .second, .unset, .unset, .unset, .unset] [(.int (f_maxI et0 eu0)), (.int 0), (.ref oh)])) rfl rfl (bb d10_120)
  have V36 : Arv Z h36 oh kh_ .int (2 : Int32) [(.int (f_maxI et0 eu0)), (.int eu1)] (.int 0) := Arv.set Ar36 vq36 vS36 vN36 vH36 vG36 rfl W36 0 rfl (Nat.le_of_ble_eq_true rfl)
  have N36 := Fr.snoc X36 N34 g_oh
  have F38 := ((r5.other W26 (Or.inl ne_a1_ol)).other W36 (Or.inl ne_a1_oh))
  obtain ⟨T37, X37, e37, st37⟩ := getF X36 hx hZ hown (host := "") (Or.inl (wd25 hw)) Via.refl e36 F38 (g := (mkF m 122 #[vR a1, vI 0, vI 2, vR at_, vI 0, vJ (((f_maxI et1 eu1).toInt64) - ((f_minI et1 el1).toInt64)), .second, .unset, .unset, .unset, .unset] [(.ref a1)])) rfl rfl (bb d10_122)
  have F40 := ((r1.other W26 (Or.inl ne_a1_ol)).other W36 (Or.inl ne_a1_oh))
  obtain ⟨T39, X39, e39, st39⟩ := getF X37 hx hZ hown (host := "") (Or.inl (wd23 hw)) Via.refl e37 F40 (g := (mkF m 127 #[vR a1, vI 0, vI 2, vR at_, vI 0, vJ (((f_maxI et1 eu1).toInt64) - ((f_minI et1 el1).toInt64)), .second, .unset, .unset, .unset, .unset] [(.ref a1), (.int 0), (.ref ob)])) rfl rfl (bb d10_127)
  have F41 := ((r12.other W26 ne_ob_ol).other W36 ne_ob_oh)
  obtain ⟨cl42, Ar42, vq42, vS42, vN42, vH42, vG42⟩ := id F41
  have hin42 : ¬ (((0 : Int32) : Int32) < 0 ∨ cl42.slots.size ≤ ((0 : Int32) : Int32).toNatClampNeg) := inb_of vS42 ⟨by decide, by decide⟩
  have F43 := (F29.other W36 ne_at__oh)
  obtain ⟨cl44, Ar44, vq44, vS44, vN44, vH44, vG44⟩ := id F43
  have hin44 : ¬ (((0 : Int32) : Int32) < 0 ∨ cl44.slots.size ≤ ((0 : Int32) : Int32).toNatClampNeg) := inb_of vS44 ⟨by decide, by decide⟩
  have pre45 : ∀ t, GG p e below T39 (mkF m 148 #[vR a1, vI 0, vI 2, vR at_, vI 0, vI eb0, vJ ((et0.toInt64) - (eb0.toInt64)), .second, .unset, .unset, .unset] []) t → GG p e below s₁ (entryFrame m #[(.ref a1), (.int 0), (.int 2), (.ref at_)] 11) t := fun t k => pre0 t (by
      show GG p e below s₁ (mkF m 0 #[vR a1, vI 0, vI 2, vR at_, .unset, .unset, .unset, .unset, .unset, .unset, .unset] []) _
      refine XS.iconst X0.here hx rfl (bb d10_0) ?_
      refine XS.istore X0.here hx rfl (bb d10_1) rfl (l' := #[vR a1, vI 0, vI 2, vR at_, vI 0, .unset, .unset, .unset, .unset, .unset, .unset]) rfl ?_
      show GG p e below s₁ (mkF m 3 #[vR a1, vI 0, vI 2, vR at_, vI 0, .unset, .unset, .unset, .unset, .unset, .unset] []) _
      refine XS.iload X0.here hx rfl (bb d10_3) rfl ?_
      refine XS.aloadN X0.here hx rfl (bb d10_5) rfl rfl ?_
      refine st1 _ ?_
      show GG p e below T1 (mkF m 9 #[vR a1, vI 0, vI 2, vR at_, vI 0, .unset, .unset, .unset, .unset, .unset, .unset] [(.int 2), (.int 0)]) _
      refine XS.icmpNo X1.here hx rfl (bb d10_9) rfl (tlt (by decide : (0 : Int32) < (2 : Int32))).2.1 ?_
      refine XS.aloadN X1.here hx rfl (bb d10_12) rfl rfl ?_
      refine XS.iload X1.here hx rfl (bb d10_13) rfl ?_
      refine X1.iaload hx (j := (0 : Int32)) (v := (.int et0)) (by rw [e1]; exact Ar2.1) (State.isArrayOf_alike hZ.alike Ar2.2.1) Ar2.2.2 hin2 (vH2.at hin2 rfl) (g := (mkF m 15 #[vR a1, vI 0, vI 2, vR at_, vI 0, .unset, .unset, .unset, .unset, .unset, .unset] [(.int 0), (.ref at_)])) rfl rfl (bb d10_15) _ ?_
      show GG p e below T1 (mkF m 16 #[vR a1, vI 0, vI 2, vR at_, vI 0, .unset, .unset, .unset, .unset, .unset, .unset] [(.int et0)]) _
      refine XS.aloadN X1.here hx rfl (bb d10_16) rfl rfl ?_
      refine st3 _ ?_
      show GG p e below T3 (mkF m 20 #[vR a1, vI 0, vI 2, vR at_, vI 0, .unset, .unset, .unset, .unset, .unset, .unset] [(.ref oh), (.int et0)]) _
      refine XS.iload X3.here hx rfl (bb d10_20) rfl ?_
      refine X3.iaload hx (j := (0 : Int32)) (v := (.int eu0)) (by rw [e3]; exact Ar4.1) (State.isArrayOf_alike hZ.alike Ar4.2.1) Ar4.2.2 hin4 (vH4.at hin4 rfl) (g := (mkF m 22 #[vR a1, vI 0, vI 2, vR at_, vI 0, .unset, .unset, .unset, .unset, .unset, .unset] [(.int 0), (.ref oh), (.int et0)])) rfl rfl (bb d10_22) _ ?_
      show GG p e below T3 (mkF m 23 #[vR a1, vI 0, vI 2, vR at_, vI 0, .unset, .unset, .unset, .unset, .unset, .unset] [(.int eu0), (.int et0)]) _
      refine st5 _ ?_
      show GG p e below T5 (mkF m 26 #[vR a1, vI 0, vI 2, vR at_, vI 0, .unset, .unset, .unset, .unset, .unset, .unset] [(.int (f_maxI et0 eu0))]) _
      refine XS.i2l X5.here hx rfl (bb d10_26) rfl ?_
      refine XS.aloadN X5.here hx rfl (bb d10_27) rfl rfl ?_
      refine XS.iload X5.here hx rfl (bb d10_28) rfl ?_
      refine X5.iaload hx (j := (0 : Int32)) (v := (.int et0)) (by rw [e5]; exact Ar6.1) (State.isArrayOf_alike hZ.alike Ar6.2.1) Ar6.2.2 hin6 (vH6.at hin6 rfl) (g := (mkF m 30 #[vR a1, vI 0, vI 2, vR at_, vI 0, .unset, .unset, .unset, .unset, .unset, .unset] [(.int 0), (.ref at_), (.long ((f_maxI et0 eu0).toInt64))])) rfl rfl (bb d10_30) _ ?_
      show GG p e below T5 (mkF m 31 #[vR a1, vI 0, vI 2, vR at_, vI 0, .unset, .unset, .unset, .unset, .unset, .unset] [(.int et0), (.long ((f_maxI et0 eu0).toInt64))]) _
      refine XS.aloadN X5.here hx rfl (bb d10_31) rfl rfl ?_
      refine st7 _ ?_
      show GG p e below T7 (mkF m 35 #[vR a1, vI 0, vI 2, vR at_, vI 0, .unset, .unset, .unset, .unset, .unset, .unset] [(.ref ol), (.int et0), (.long ((f_maxI et0 eu0).toInt64))]) _
      refine XS.iload X7.here hx rfl (bb d10_35) rfl ?_
      refine X7.iaload hx (j := (0 : Int32)) (v := (.int el0)) (by rw [e7]; exact Ar8.1) (State.isArrayOf_alike hZ.alike Ar8.2.1) Ar8.2.2 hin8 (vH8.at hin8 rfl) (g := (mkF m 37 #[vR a1, vI 0, vI 2, vR at_, vI 0, .unset, .unset, .unset, .unset, .unset, .unset] [(.int 0), (.ref ol), (.int et0), (.long ((f_maxI et0 eu0).toInt64))])) rfl rfl (bb d10_37) _ ?_
      show GG p e below T7 (mkF m 38 #[vR a1, vI 0, vI 2, vR at_, vI 0, .unset, .unset, .unset, .unset, .unset, .unset] [(.int el0), (.int et0), (.long ((f_maxI et0 eu0).toInt64))]) _
      refine st9 _ ?_
      show GG p e below T9 (mkF m 41 #[vR a1, vI 0, vI 2, vR at_, vI 0, .unset, .unset, .unset, .unset, .unset, .unset] [(.int (f_minI et0 el0)), (.long ((f_maxI et0 eu0).toInt64))]) _
      refine XS.i2l X9.here hx rfl (bb d10_41) rfl ?_
      refine XS.lsub X9.here hx rfl (bb d10_42) rfl ?_
      show GG p e below T9 (mkF m 43 #[vR a1, vI 0, vI 2, vR at_, vI 0, .unset, .unset, .unset, .unset, .unset, .unset] [(.long (((f_maxI et0 eu0).toInt64) - ((f_minI et0 el0).toInt64)))]) _
      refine XS.lstore X9.here hx rfl (bb d10_43) rfl (l' := #[vR a1, vI 0, vI 2, vR at_, vI 0, vJ (((f_maxI et0 eu0).toInt64) - ((f_minI et0 el0).toInt64)), .second, .unset, .unset, .unset, .unset]) rfl ?_
      show GG p e below T9 (mkF m 45 #[vR a1, vI 0, vI 2, vR at_, vI 0, vJ (((f_maxI et0 eu0).toInt64) - ((f_minI et0 el0).toInt64)), .second, .unset, .unset, .unset, .unset] []) _
      refine XS.lload X9.here hx rfl (bb d10_45) rfl ?_
      refine X9.ldc2Long hx hown (mvT hZ (wd74 hw)) (g := (mkF m 47 #[vR a1, vI 0, vI 2, vR at_, vI 0, vJ (((f_maxI et0 eu0).toInt64) - ((f_minI et0 el0).toInt64)), .second, .unset, .unset, .unset, .unset] [(.long (((f_maxI et0 eu0).toInt64) - ((f_minI et0 el0).toInt64)))])) rfl (bb d10_47) _ ?_
      show GG p e below T9 (mkF m 50 #[vR a1, vI 0, vI 2, vR at_, vI 0, vJ (((f_maxI et0 eu0).toInt64) - ((f_minI et0 el0).toInt64)), .second, .unset, .unset, .unset, .unset] [(.long 65536), (.long (((f_maxI et0 eu0).toInt64) - ((f_minI et0 el0).toInt64)))]) _
      refine XS.lcmp X9.here hx rfl (bb d10_50) rfl ?_
      show GG p e below T9 (mkF m 51 #[vR a1, vI 0, vI 2, vR at_, vI 0, vJ (((f_maxI et0 eu0).toInt64) - ((f_minI et0 el0).toInt64)), .second, .unset, .unset, .unset, .unset] [(.int (lcmpW (((f_maxI et0 eu0).toInt64) - ((f_minI et0 el0).toInt64)) (65536 : Int64)))]) _
      refine XS.ifYes X9.here hx rfl (pc0 := 51) (pc' := 61) rfl (bb d10_51) rfl ((if0 _ _).trans (tlt hs0).1) (by decide) (by decide) ?_
      show GG p e below T9 (mkF m 61 #[vR a1, vI 0, vI 2, vR at_, vI 0, vJ (((f_maxI et0 eu0).toInt64) - ((f_minI et0 el0).toInt64)), .second, .unset, .unset, .unset, .unset] []) _
      refine XS.iinc X9.here hx rfl (bb d10_61) rfl (l' := #[vR a1, vI 0, vI 2, vR at_, vI 1, vJ (((f_maxI et0 eu0).toInt64) - ((f_minI et0 el0).toInt64)), .second, .unset, .unset, .unset, .unset]) rfl ?_
      show GG p e below T9 (mkF m 64 #[vR a1, vI 0, vI 2, vR at_, vI 1, vJ (((f_maxI et0 eu0).toInt64) - ((f_minI et0 el0).toInt64)), .second, .unset, .unset, .unset, .unset] []) _
      refine XS.goto X9.here hx rfl (pc0 := 64) (pc' := 3) rfl (bb d10_64) (by decide) (by decide) ?_
      refine XS.iload X9.here hx rfl (bb d10_3) rfl ?_
      refine XS.aloadN X9.here hx rfl (bb d10_5) rfl rfl ?_
      refine st10 _ ?_
      show GG p e below T10 (mkF m 9 #[vR a1, vI 0, vI 2, vR at_, vI 1, vJ (((f_maxI et0 eu0).toInt64) - ((f_minI et0 el0).toInt64)), .second, .unset, .unset, .unset, .unset] [(.int 2), (.int 1)]) _
      refine XS.icmpNo X10.here hx rfl (bb d10_9) rfl (tlt (by decide : (1 : Int32) < (2 : Int32))).2.1 ?_
      refine XS.aloadN X10.here hx rfl (bb d10_12) rfl rfl ?_
      refine XS.iload X10.here hx rfl (bb d10_13) rfl ?_
      refine X10.iaload hx (j := (1 : Int32)) (v := (.int et1)) (by rw [e10]; exact Ar11.1) (State.isArrayOf_alike hZ.alike Ar11.2.1) Ar11.2.2 hin11 (vH11.at hin11 rfl) (g := (mkF m 15 #[vR a1, vI 0, vI 2, vR at_, vI 1, vJ (((f_maxI et0 eu0).toInt64) - ((f_minI et0 el0).toInt64)), .second, .unset, .unset, .unset, .unset] [(.int 1), (.ref at_)])) rfl rfl (bb d10_15) _ ?_
      show GG p e below T10 (mkF m 16 #[vR a1, vI 0, vI 2, vR at_, vI 1, vJ (((f_maxI et0 eu0).toInt64) - ((f_minI et0 el0).toInt64)), .second, .unset, .unset, .unset, .unset] [(.int et1)]) _
      refine XS.aloadN X10.here hx rfl (bb d10_16) rfl rfl ?_
      refine st12 _ ?_
      show GG p e below T12 (mkF m 20 #[vR a1, vI 0, vI 2, vR at_, vI 1, vJ (((f_maxI et0 eu0).toInt64) - ((f_minI et0 el0).toInt64)), .second, .unset, .unset, .unset, .unset] [(.ref oh), (.int et1)]) _
      refine XS.iload X12.here hx rfl (bb d10_20) rfl ?_
      refine X12.iaload hx (j := (1 : Int32)) (v := (.int eu1)) (by rw [e12]; exact Ar13.1) (State.isArrayOf_alike hZ.alike Ar13.2.1) Ar13.2.2 hin13 (vH13.at hin13 rfl) (g := (mkF m 22 #[vR a1, vI 0, vI 2, vR at_, vI 1, vJ (((f_maxI et0 eu0).toInt64) - ((f_minI et0 el0).toInt64)), .second, .unset, .unset, .unset, .unset] [(.int 1), (.ref oh), (.int et1)])) rfl rfl (bb d10_22) _ ?_
      show GG p e below T12 (mkF m 23 #[vR a1, vI 0, vI 2, vR at_, vI 1, vJ (((f_maxI et0 eu0).toInt64) - ((f_minI et0 el0).toInt64)), .second, .unset, .unset, .unset, .unset] [(.int eu1), (.int et1)]) _
      refine st14 _ ?_
      show GG p e below T14 (mkF m 26 #[vR a1, vI 0, vI 2, vR at_, vI 1, vJ (((f_maxI et0 eu0).toInt64) - ((f_minI et0 el0).toInt64)), .second, .unset, .unset, .unset, .unset] [(.int (f_maxI et1 eu1))]) _
      refine XS.i2l X14.here hx rfl (bb d10_26) rfl ?_
      refine XS.aloadN X14.here hx rfl (bb d10_27) rfl rfl ?_
      refine XS.iload X14.here hx rfl (bb d10_28) rfl ?_
      refine X14.iaload hx (j := (1 : Int32)) (v := (.int et1)) (by rw [e14]; exact Ar15.1) (State.isArrayOf_alike hZ.alike Ar15.2.1) Ar15.2.2 hin15 (vH15.at hin15 rfl) (g := (mkF m 30 #[vR a1, vI 0, vI 2, vR at_, vI 1, vJ (((f_maxI et0 eu0).toInt64) - ((f_minI et0 el0).toInt64)), .second, .unset, .unset, .unset, .unset] [(.int 1), (.ref at_), (.long ((f_maxI et1 eu1).toInt64))])) rfl rfl (bb d10_30) _ ?_
      show GG p e below T14 (mkF m 31 #[vR a1, vI 0, vI 2, vR at_, vI 1, vJ (((f_maxI et0 eu0).toInt64) - ((f_minI et0 el0).toInt64)), .second, .unset, .unset, .unset, .unset] [(.int et1), (.long ((f_maxI et1 eu1).toInt64))]) _
      refine XS.aloadN X14.here hx rfl (bb d10_31) rfl rfl ?_
      refine st16 _ ?_
      show GG p e below T16 (mkF m 35 #[vR a1, vI 0, vI 2, vR at_, vI 1, vJ (((f_maxI et0 eu0).toInt64) - ((f_minI et0 el0).toInt64)), .second, .unset, .unset, .unset, .unset] [(.ref ol), (.int et1), (.long ((f_maxI et1 eu1).toInt64))]) _
      refine XS.iload X16.here hx rfl (bb d10_35) rfl ?_
      refine X16.iaload hx (j := (1 : Int32)) (v := (.int el1)) (by rw [e16]; exact Ar17.1) (State.isArrayOf_alike hZ.alike Ar17.2.1) Ar17.2.2 hin17 (vH17.at hin17 rfl) (g := (mkF m 37 #[vR a1, vI 0, vI 2, vR at_, vI 1, vJ (((f_maxI et0 eu0).toInt64) - ((f_minI et0 el0).toInt64)), .second, .unset, .unset, .unset, .unset] [(.int 1), (.ref ol), (.int et1), (.long ((f_maxI et1 eu1).toInt64))])) rfl rfl (bb d10_37) _ ?_
      show GG p e below T16 (mkF m 38 #[vR a1, vI 0, vI 2, vR at_, vI 1, vJ (((f_maxI et0 eu0).toInt64) - ((f_minI et0 el0).toInt64)), .second, .unset, .unset, .unset, .unset] [(.int el1), (.int et1), (.long ((f_maxI et1 eu1).toInt64))]) _
      refine st18 _ ?_
      show GG p e below T18 (mkF m 41 #[vR a1, vI 0, vI 2, vR at_, vI 1, vJ (((f_maxI et0 eu0).toInt64) - ((f_minI et0 el0).toInt64)), .second, .unset, .unset, .unset, .unset] [(.int (f_minI et1 el1)), (.long ((f_maxI et1 eu1).toInt64))]) _
      refine XS.i2l X18.here hx rfl (bb d10_41) rfl ?_
      refine XS.lsub X18.here hx rfl (bb d10_42) rfl ?_
      show GG p e below T18 (mkF m 43 #[vR a1, vI 0, vI 2, vR at_, vI 1, vJ (((f_maxI et0 eu0).toInt64) - ((f_minI et0 el0).toInt64)), .second, .unset, .unset, .unset, .unset] [(.long (((f_maxI et1 eu1).toInt64) - ((f_minI et1 el1).toInt64)))]) _
      refine XS.lstore X18.here hx rfl (bb d10_43) rfl (l' := #[vR a1, vI 0, vI 2, vR at_, vI 1, vJ (((f_maxI et1 eu1).toInt64) - ((f_minI et1 el1).toInt64)), .second, .unset, .unset, .unset, .unset]) rfl ?_
      show GG p e below T18 (mkF m 45 #[vR a1, vI 0, vI 2, vR at_, vI 1, vJ (((f_maxI et1 eu1).toInt64) - ((f_minI et1 el1).toInt64)), .second, .unset, .unset, .unset, .unset] []) _
      refine XS.lload X18.here hx rfl (bb d10_45) rfl ?_
      refine X18.ldc2Long hx hown (mvT hZ (wd74 hw)) (g := (mkF m 47 #[vR a1, vI 0, vI 2, vR at_, vI 1, vJ (((f_maxI et1 eu1).toInt64) - ((f_minI et1 el1).toInt64)), .second, .unset, .unset, .unset, .unset] [(.long (((f_maxI et1 eu1).toInt64) - ((f_minI et1 el1).toInt64)))])) rfl (bb d10_47) _ ?_
      show GG p e below T18 (mkF m 50 #[vR a1, vI 0, vI 2, vR at_, vI 1, vJ (((f_maxI et1 eu1).toInt64) - ((f_minI et1 el1).toInt64)), .second, .unset, .unset, .unset, .unset] [(.long 65536), (.long (((f_maxI et1 eu1).toInt64) - ((f_minI et1 el1).toInt64)))]) _
      refine XS.lcmp X18.here hx rfl (bb d10_50) rfl ?_
      show GG p e below T18 (mkF m 51 #[vR a1, vI 0, vI 2, vR at_, vI 1, vJ (((f_maxI et1 eu1).toInt64) - ((f_minI et1 el1).toInt64)), .second, .unset, .unset, .unset, .unset] [(.int (lcmpW (((f_maxI et1 eu1).toInt64) - ((f_minI et1 el1).toInt64)) (65536 : Int64)))]) _
      refine XS.ifYes X18.here hx rfl (pc0 := 51) (pc' := 61) rfl (bb d10_51) rfl ((if0 _ _).trans (tlt hs1).1) (by decide) (by decide) ?_
      show GG p e below T18 (mkF m 61 #[vR a1, vI 0, vI 2, vR at_, vI 1, vJ (((f_maxI et1 eu1).toInt64) - ((f_minI et1 el1).toInt64)), .second, .unset, .unset, .unset, .unset] []) _
      refine XS.iinc X18.here hx rfl (bb d10_61) rfl (l' := #[vR a1, vI 0, vI 2, vR at_, vI 2, vJ (((f_maxI et1 eu1).toInt64) - ((f_minI et1 el1).toInt64)), .second, .unset, .unset, .unset, .unset]) rfl ?_
      show GG p e below T18 (mkF m 64 #[vR a1, vI 0, vI 2, vR at_, vI 2, vJ (((f_maxI et1 eu1).toInt64) - ((f_minI et1 el1).toInt64)), .second, .unset, .unset, .unset, .unset] []) _
      refine XS.goto X18.here hx rfl (pc0 := 64) (pc' := 3) rfl (bb d10_64) (by decide) (by decide) ?_
      refine XS.iload X18.here hx rfl (bb d10_3) rfl ?_
      refine XS.aloadN X18.here hx rfl (bb d10_5) rfl rfl ?_
      refine st19 _ ?_
      show GG p e below T19 (mkF m 9 #[vR a1, vI 0, vI 2, vR at_, vI 2, vJ (((f_maxI et1 eu1).toInt64) - ((f_minI et1 el1).toInt64)), .second, .unset, .unset, .unset, .unset] [(.int 2), (.int 2)]) _
      refine XS.icmpYes X19.here hx rfl (pc0 := 9) (pc' := 67) rfl (bb d10_9) rfl (flt (by decide : ¬ ((2 : Int32) < (2 : Int32)))).2.1 (by decide) (by decide) ?_
      show GG p e below T19 (mkF m 67 #[vR a1, vI 0, vI 2, vR at_, vI 2, vJ (((f_maxI et1 eu1).toInt64) - ((f_minI et1 el1).toInt64)), .second, .unset, .unset, .unset, .unset] []) _
      refine XS.iconst X19.here hx rfl (bb d10_67) ?_
      refine XS.istore X19.here hx rfl (bb d10_68) rfl (l' := #[vR a1, vI 0, vI 2, vR at_, vI 0, vJ (((f_maxI et1 eu1).toInt64) - ((f_minI et1 el1).toInt64)), .second, .unset, .unset, .unset, .unset]) rfl ?_
      show GG p e below T19 (mkF m 70 #[vR a1, vI 0, vI 2, vR at_, vI 0, vJ (((f_maxI et1 eu1).toInt64) - ((f_minI et1 el1).toInt64)), .second, .unset, .unset, .unset, .unset] []) _
      refine XS.iload X19.here hx rfl (bb d10_70) rfl ?_
      refine XS.aloadN X19.here hx rfl (bb d10_72) rfl rfl ?_
      refine st20 _ ?_
      show GG p e below T20 (mkF m 76 #[vR a1, vI 0, vI 2, vR at_, vI 0, vJ (((f_maxI et1 eu1).toInt64) - ((f_minI et1 el1).toInt64)), .second, .unset, .unset, .unset, .unset] [(.int 2), (.int 0)]) _
      refine XS.icmpNo X20.here hx rfl (bb d10_76) rfl (tlt (by decide : (0 : Int32) < (2 : Int32))).2.1 ?_
      refine XS.aloadN X20.here hx rfl (bb d10_79) rfl rfl ?_
      refine st21 _ ?_
      show GG p e below T21 (mkF m 83 #[vR a1, vI 0, vI 2, vR at_, vI 0, vJ (((f_maxI et1 eu1).toInt64) - ((f_minI et1 el1).toInt64)), .second, .unset, .unset, .unset, .unset] [(.ref ol)]) _
      refine XS.iload X21.here hx rfl (bb d10_83) rfl ?_
      refine XS.aloadN X21.here hx rfl (bb d10_85) rfl rfl ?_
      refine XS.iload X21.here hx rfl (bb d10_86) rfl ?_
      refine X21.iaload hx (j := (0 : Int32)) (v := (.int et0)) (by rw [e21]; exact Ar22.1) (State.isArrayOf_alike hZ.alike Ar22.2.1) Ar22.2.2 hin22 (vH22.at hin22 rfl) (g := (mkF m 88 #[vR a1, vI 0, vI 2, vR at_, vI 0, vJ (((f_maxI et1 eu1).toInt64) - ((f_minI et1 el1).toInt64)), .second, .unset, .unset, .unset, .unset] [(.int 0), (.ref at_), (.int 0), (.ref ol)])) rfl rfl (bb d10_88) _ ?_
      show GG p e below T21 (mkF m 89 #[vR a1, vI 0, vI 2, vR at_, vI 0, vJ (((f_maxI et1 eu1).toInt64) - ((f_minI et1 el1).toInt64)), .second, .unset, .unset, .unset, .unset] [(.int et0), (.int 0), (.ref ol)]) _
      refine XS.aloadN X21.here hx rfl (bb d10_89) rfl rfl ?_
      refine st23 _ ?_
      show GG p e below T23 (mkF m 93 #[vR a1, vI 0, vI 2, vR at_, vI 0, vJ (((f_maxI et1 eu1).toInt64) - ((f_minI et1 el1).toInt64)), .second, .unset, .unset, .unset, .unset] [(.ref ol), (.int et0), (.int 0), (.ref ol)]) _
      refine XS.iload X23.here hx rfl (bb d10_93) rfl ?_
      refine X23.iaload hx (j := (0 : Int32)) (v := (.int el0)) (by rw [e23]; exact Ar24.1) (State.isArrayOf_alike hZ.alike Ar24.2.1) Ar24.2.2 hin24 (vH24.at hin24 rfl) (g := (mkF m 95 #[vR a1, vI 0, vI 2, vR at_, vI 0, vJ (((f_maxI et1 eu1).toInt64) - ((f_minI et1 el1).toInt64)), .second, .unset, .unset, .unset, .unset] [(.int 0), (.ref ol), (.int et0), (.int 0), (.ref ol)])) rfl rfl (bb d10_95) _ ?_
      show GG p e below T23 (mkF m 96 #[vR a1, vI 0, vI 2, vR at_, vI 0, vJ (((f_maxI et1 eu1).toInt64) - ((f_minI et1 el1).toInt64)), .second, .unset, .unset, .unset, .unset] [(.int el0), (.int et0), (.int 0), (.ref ol)]) _
      refine st25 _ ?_
      show GG p e below T25 (mkF m 99 #[vR a1, vI 0, vI 2, vR at_, vI 0, vJ (((f_maxI et1 eu1).toInt64) - ((f_minI et1 el1).toInt64)), .second, .unset, .unset, .unset, .unset] [(.int (f_minI et0 el0)), (.int 0), (.ref ol)]) _
      refine st26 _ ?_
      show GG p e below T26 (mkF m 100 #[vR a1, vI 0, vI 2, vR at_, vI 0, vJ (((f_maxI et1 eu1).toInt64) - ((f_minI et1 el1).toInt64)), .second, .unset, .unset, .unset, .unset] []) _
      refine XS.aloadN X26.here hx rfl (bb d10_100) rfl rfl ?_
      refine st27 _ ?_
      show GG p e below T27 (mkF m 104 #[vR a1, vI 0, vI 2, vR at_, vI 0, vJ (((f_maxI et1 eu1).toInt64) - ((f_minI et1 el1).toInt64)), .second, .unset, .unset, .unset, .unset] [(.ref oh)]) _
      refine XS.iload X27.here hx rfl (bb d10_104) rfl ?_
      refine XS.aloadN X27.here hx rfl (bb d10_106) rfl rfl ?_
      refine XS.iload X27.here hx rfl (bb d10_107) rfl ?_
      refine X27.iaload hx (j := (0 : Int32)) (v := (.int et0)) (by rw [e27]; exact Ar30.1) (State.isArrayOf_alike hZ.alike Ar30.2.1) Ar30.2.2 hin30 (vH30.at hin30 rfl) (g := (mkF m 109 #[vR a1, vI 0, vI 2, vR at_, vI 0, vJ (((f_maxI et1 eu1).toInt64) - ((f_minI et1 el1).toInt64)), .second, .unset, .unset, .unset, .unset] [(.int 0), (.ref at_), (.int 0), (.ref oh)])) rfl rfl (bb d10_109) _ ?_
      show GG p e below T27 (mkF m 110 #[vR a1, vI 0, vI 2, vR at_, vI 0, vJ (((f_maxI et1 eu1).toInt64) - ((f_minI et1 el1).toInt64)), .second, .unset, .unset, .unset, .unset] [(.int et0), (.int 0), (.ref oh)]) _
      refine XS.aloadN X27.here hx rfl (bb d10_110) rfl rfl ?_
      refine st31 _ ?_
      show GG p e below T31 (mkF m 114 #[vR a1, vI 0, vI 2, vR at_, vI 0, vJ (((f_maxI et1 eu1).toInt64) - ((f_minI et1 el1).toInt64)), .second, .unset, .unset, .unset, .unset] [(.ref oh), (.int et0), (.int 0), (.ref oh)]) _
      refine XS.iload X31.here hx rfl (bb d10_114) rfl ?_
      refine X31.iaload hx (j := (0 : Int32)) (v := (.int eu0)) (by rw [e31]; exact Ar33.1) (State.isArrayOf_alike hZ.alike Ar33.2.1) Ar33.2.2 hin33 (vH33.at hin33 rfl) (g := (mkF m 116 #[vR a1, vI 0, vI 2, vR at_, vI 0, vJ (((f_maxI et1 eu1).toInt64) - ((f_minI et1 el1).toInt64)), .second, .unset, .unset, .unset, .unset] [(.int 0), (.ref oh), (.int et0), (.int 0), (.ref oh)])) rfl rfl (bb d10_116) _ ?_
      show GG p e below T31 (mkF m 117 #[vR a1, vI 0, vI 2, vR at_, vI 0, vJ (((f_maxI et1 eu1).toInt64) - ((f_minI et1 el1).toInt64)), .second, .unset, .unset, .unset, .unset] [(.int eu0), (.int et0), (.int 0), (.ref oh)]) _
      refine st34 _ ?_
      show GG p e below T34 (mkF m 120 #[vR a1, vI 0, vI 2, vR at_, vI 0, vJ (((f_maxI et1 eu1).toInt64) - ((f_minI et1 el1).toInt64)), .second, .unset, .unset, .unset, .unset] [(.int (f_maxI et0 eu0)), (.int 0), (.ref oh)]) _
      refine st36 _ ?_
      show GG p e below T36 (mkF m 121 #[vR a1, vI 0, vI 2, vR at_, vI 0, vJ (((f_maxI et1 eu1).toInt64) - ((f_minI et1 el1).toInt64)), .second, .unset, .unset, .unset, .unset] []) _
      refine XS.aloadN X36.here hx rfl (bb d10_121) rfl rfl ?_
      refine st37 _ ?_
      show GG p e below T37 (mkF m 125 #[vR a1, vI 0, vI 2, vR at_, vI 0, vJ (((f_maxI et1 eu1).toInt64) - ((f_minI et1 el1).toInt64)), .second, .unset, .unset, .unset, .unset] [(.ref ob)]) _
      refine XS.iloadN X37.here hx rfl (bb d10_125) rfl ?_
      refine XS.aloadN X37.here hx rfl (bb d10_126) rfl rfl ?_
      refine st39 _ ?_
      show GG p e below T39 (mkF m 130 #[vR a1, vI 0, vI 2, vR at_, vI 0, vJ (((f_maxI et1 eu1).toInt64) - ((f_minI et1 el1).toInt64)), .second, .unset, .unset, .unset, .unset] [(.int 2), (.int 0), (.ref ob)]) _
      refine XS.imul X39.here hx rfl (bb d10_130) rfl ?_
      refine XS.iload X39.here hx rfl (bb d10_131) rfl ?_
      refine XS.iadd X39.here hx rfl (bb d10_133) rfl ?_
      refine X39.iaload hx (j := (0 : Int32)) (v := (.int eb0)) (by rw [e39]; exact Ar42.1) (State.isArrayOf_alike hZ.alike Ar42.2.1) Ar42.2.2 hin42 (vH42.at hin42 rfl) (g := (mkF m 134 #[vR a1, vI 0, vI 2, vR at_, vI 0, vJ (((f_maxI et1 eu1).toInt64) - ((f_minI et1 el1).toInt64)), .second, .unset, .unset, .unset, .unset] [(.int 0), (.ref ob)])) rfl rfl (bb d10_134) _ ?_
      show GG p e below T39 (mkF m 135 #[vR a1, vI 0, vI 2, vR at_, vI 0, vJ (((f_maxI et1 eu1).toInt64) - ((f_minI et1 el1).toInt64)), .second, .unset, .unset, .unset, .unset] [(.int eb0)]) _
      refine XS.istore X39.here hx rfl (bb d10_135) rfl (l' := #[vR a1, vI 0, vI 2, vR at_, vI 0, vI eb0, .unset, .unset, .unset, .unset, .unset]) rfl ?_
      show GG p e below T39 (mkF m 137 #[vR a1, vI 0, vI 2, vR at_, vI 0, vI eb0, .unset, .unset, .unset, .unset, .unset] []) _
      refine XS.aloadN X39.here hx rfl (bb d10_137) rfl rfl ?_
      refine XS.iload X39.here hx rfl (bb d10_138) rfl ?_
      refine X39.iaload hx (j := (0 : Int32)) (v := (.int et0)) (by rw [e39]; exact Ar44.1) (State.isArrayOf_alike hZ.alike Ar44.2.1) Ar44.2.2 hin44 (vH44.at hin44 rfl) (g := (mkF m 140 #[vR a1, vI 0, vI 2, vR at_, vI 0, vI eb0, .unset, .unset, .unset, .unset, .unset] [(.int 0), (.ref at_)])) rfl rfl (bb d10_140) _ ?_
      show GG p e below T39 (mkF m 141 #[vR a1, vI 0, vI 2, vR at_, vI 0, vI eb0, .unset, .unset, .unset, .unset, .unset] [(.int et0)]) _
      refine XS.i2l X39.here hx rfl (bb d10_141) rfl ?_
      refine XS.iload X39.here hx rfl (bb d10_142) rfl ?_
      refine XS.i2l X39.here hx rfl (bb d10_144) rfl ?_
      refine XS.lsub X39.here hx rfl (bb d10_145) rfl ?_
      show GG p e below T39 (mkF m 146 #[vR a1, vI 0, vI 2, vR at_, vI 0, vI eb0, .unset, .unset, .unset, .unset, .unset] [(.long ((et0.toInt64) - (eb0.toInt64)))]) _
      refine XS.lstore X39.here hx rfl (bb d10_146) rfl (l' := #[vR a1, vI 0, vI 2, vR at_, vI 0, vI eb0, vJ ((et0.toInt64) - (eb0.toInt64)), .second, .unset, .unset, .unset]) rfl ?_
      exact k)
  obtain ⟨T46, L46, h46, s8_46, s9_46, s10_46, X46, e46, N46, K46, f46_0, f46_1, o_s8_46, o_s9_46, o_s10_46, pre46⟩ : ∃ (T' : State) (L' : List Loc) (h' : Heap) (s8_46 : Slot) (s9_46 : Slot) (s10_46 : Slot), Stand p l e ({ frames := 2, cells := 0, slots := 0, locals := 30 } : Room) s m #[(.ref a1), (.int 0), (.int 2), (.ref at_)] below meth c T' L' 0 0 ∧ T'.heap = h' ∧ Fr n0 L' ∧ Keep h36 h' [ob, ov] ∧ Arv Z h' ob kb_ .int (2 : Int32) [(.int (nbase eb0 el0 eu0 et0)), (.int eb1)] (.int 0) ∧ Arv Z h' ov kv_ .char (16 : Int32) [(.int (nar .char (ev0_0 - (nbase eb0 el0 eu0 et0)))), (.int (nar .char (ev0_1 - eb1))), (.int (nar .char (ev1_0 - (nbase eb0 el0 eu0 et0)))), (.int (nar .char (ev1_1 - eb1))), (.int ex4), (.int ex5), (.int ex6), (.int ex7), (.int ex8), (.int ex9), (.int ex10), (.int ex11), (.int ex12), (.int ex13), (.int ex14), (.int ex15)] (.int 0) ∧ One s8_46 ∧ One s9_46 ∧ One s10_46 ∧ ∀ t, GG p e below T' (mkF m 249 #[vR a1, vI 0, vI 2, vR at_, vI 0, vI eb0, vJ ((et0.toInt64) - (eb0.toInt64)), .second, s8_46, s9_46, s10_46] []) t → GG p e below s₁ (entryFrame m #[(.ref a1), (.int 0), (.int 2), (.ref at_)] 11) t := by
    by_cases g46 : ((lcmpW ((et0.toInt64) - (eb0.toInt64)) (0 : Int64)) < (0 : Int32)) ∨ ¬ ((lcmpW ((et0.toInt64) - (eb0.toInt64)) (65536 : Int64)) < (0 : Int32))
    · skip
      obtain ⟨T47, L47, X47, e47, N47, pre47⟩ : ∃ (T' : State) (L' : List Loc), Stand p l e ({ frames := 2, cells := 0, slots := 0, locals := 30 } : Room) s m #[(.ref a1), (.int 0), (.int 2), (.ref at_)] below meth c T' L' 0 0 ∧ T'.heap = h36 ∧ Fr n0 L' ∧ ∀ t, Steps p.tables e below (T'.setTop (mkF m 164 #[vR a1, vI 0, vI 2, vR at_, vI 0, vI eb0, vJ ((et0.toInt64) - (eb0.toInt64)), .second, .unset, .unset, .unset] [])) t → Steps p.tables e below (s₁.setTop (entryFrame m #[(.ref a1), (.int 0), (.int 2), (.ref at_)] 11)) t := by
        have pre48 : ∀ t, GG p e below T39 (mkF m 152 #[vR a1, vI 0, vI 2, vR at_, vI 0, vI eb0, vJ ((et0.toInt64) - (eb0.toInt64)), .second, .unset, .unset, .unset] [(.int (lcmpW ((et0.toInt64) - (eb0.toInt64)) (0 : Int64)))]) t → GG p e below s₁ (entryFrame m #[(.ref a1), (.int 0), (.int 2), (.ref at_)] 11) t := fun t k => pre45 t (by
            show GG p e below T39 (mkF m 148 #[vR a1, vI 0, vI 2, vR at_, vI 0, vI eb0, vJ ((et0.toInt64) - (eb0.toInt64)), .second, .unset, .unset, .unset] []) _
            refine XS.lload X39.here hx rfl (bb d10_148) rfl ?_
            refine XS.lconst X39.here hx rfl (bb d10_150) ?_
            refine XS.lcmp X39.here hx rfl (bb d10_151) rfl ?_
            exact k)
        by_cases g49 : (lcmpW ((et0.toInt64) - (eb0.toInt64)) (0 : Int64)) < (0 : Int32)
        · skip
          exact ⟨T39, _, X39, e39, N36, fun t k => pre48 t (by
              show GG p e below T39 (mkF m 152 #[vR a1, vI 0, vI 2, vR at_, vI 0, vI eb0, vJ ((et0.toInt64) - (eb0.toInt64)), .second, .unset, .unset, .unset] [(.int (lcmpW ((et0.toInt64) - (eb0.toInt64)) (0 : Int64)))]) _
              refine XS.ifYes X39.here hx rfl (pc0 := 152) (pc' := 164) rfl (bb d10_152) rfl ((if0 _ _).trans (tlt g49).1) (by decide) (by decide) ?_
              exact k)⟩
        · skip
          exact ⟨T39, _, X39, e39, N36, fun t k => pre48 t (by
              show GG p e below T39 (mkF m 152 #[vR a1, vI 0, vI 2, vR at_, vI 0, vI eb0, vJ ((et0.toInt64) - (eb0.toInt64)), .second, .unset, .unset, .unset] [(.int (lcmpW ((et0.toInt64) - (eb0.toInt64)) (0 : Int64)))]) _
              refine XS.ifNo X39.here hx rfl (bb d10_152) rfl ((if0 _ _).trans (flt g49).1) ?_
              refine XS.lload X39.here hx rfl (bb d10_155) rfl ?_
              refine X39.ldc2Long hx hown (mvT hZ (wd74 hw)) (g := (mkF m 157 #[vR a1, vI 0, vI 2, vR at_, vI 0, vI eb0, vJ ((et0.toInt64) - (eb0.toInt64)), .second, .unset, .unset, .unset] [(.long ((et0.toInt64) - (eb0.toInt64)))])) rfl (bb d10_157) _ ?_
              show GG p e below T39 (mkF m 160 #[vR a1, vI 0, vI 2, vR at_, vI 0, vI eb0, vJ ((et0.toInt64) - (eb0.toInt64)), .second, .unset, .unset, .unset] [(.long 65536), (.long ((et0.toInt64) - (eb0.toInt64)))]) _
              refine XS.lcmp X39.here hx rfl (bb d10_160) rfl ?_
              show GG p e below T39 (mkF m 161 #[vR a1, vI 0, vI 2, vR at_, vI 0, vI eb0, vJ ((et0.toInt64) - (eb0.toInt64)), .second, .unset, .unset, .unset] [(.int (lcmpW ((et0.toInt64) - (eb0.toInt64)) (65536 : Int64)))]) _
              refine XS.ifNo X39.here hx rfl (bb d10_161) rfl ((if0 _ _).trans (flt (g46.resolve_left g49)).1) ?_
              exact k)⟩
      have F51 := ((r6.other W26 (Or.inl ne_a1_ol)).other W36 (Or.inl ne_a1_oh))
      obtain ⟨T50, X50, e50, st50⟩ := getF X47 hx hZ hown (host := "") (Or.inl (wd27 hw)) Via.refl e47 F51 (g := (mkF m 165 #[vR a1, vI 0, vI 2, vR at_, vI 0, vI eb0, vJ ((et0.toInt64) - (eb0.toInt64)), .second, .unset, .unset, .unset] [(.ref a1)])) rfl rfl (bb d10_165)
      have F52 := (V26.other W36 ne_ol_oh)
      obtain ⟨cl53, Ar53, vq53, vS53, vN53, vH53, vG53⟩ := id F52
      have hin53 : ¬ (((0 : Int32) : Int32) < 0 ∨ cl53.slots.size ≤ ((0 : Int32) : Int32).toNatClampNeg) := inb_of vS53 ⟨by decide, by decide⟩
      have F55 := (F28.other W36 (Or.inl ne_a1_oh))
      obtain ⟨T54, X54, e54, st54⟩ := getF X50 hx hZ hown (host := "") (Or.inl (wd29 hw)) Via.refl e50 F55 (g := (mkF m 172 #[vR a1, vI 0, vI 2, vR at_, vI 0, vI eb0, vJ ((et0.toInt64) - (eb0.toInt64)), .second, .unset, .unset, .unset] [(.ref a1), (.int (f_minI et0 el0))])) rfl rfl (bb d10_172)
      obtain ⟨cl56, Ar56, vq56, vS56, vN56, vH56, vG56⟩ := id V36
      have hin56 : ¬ (((0 : Int32) : Int32) < 0 ∨ cl56.slots.size ≤ ((0 : Int32) : Int32).toNatClampNeg) := inb_of vS56 ⟨by decide, by decide⟩
      have O58 := (O35.wr W36 g_oh)
      obtain ⟨_, _, ⟨T57, L57, k57, n57⟩, -, X57, ⟨Lc57, hQ57, l57, y57, z57⟩, st57⟩ := Jvm.LawKit.callS X54 hx (y := (⟨cRV, "base", "(II)I"⟩ : MethodName)) hown (mvT hZ (wd46 hw)) (mvT hZ (wd47 hw)) (mvT hZ (wd8 hw)) (mvT hZ (wd48 hw)) (by decide) (backOf (W := 0) (rm_base l Z a0 hw [] (f_minI et0 el0) (f_maxI et0 eu0) h36 n0 (own_z0 O58) O58 S_CS) hZ (wd48 hw) (wd8 hw) (by decide) (by decide)) (g := (mkF m 178 #[vR a1, vI 0, vI 2, vR at_, vI 0, vI eb0, vJ ((et0.toInt64) - (eb0.toInt64)), .second, .unset, .unset, .unset] [(.int (f_maxI et0 eu0)), (.int (f_minI et0 el0))])) rfl (by rw [hml]; rfl) (argsL := [(.int (f_minI et0 el0)), (.int (f_maxI et0 eu0))]) (rest := []) (lenOf pd__II_I_5 rfl) rfl (by show 2 * 0 + _ ≤ _; exact Nat.le_of_eq rfl) (bb d10_178) (fun _ _ => ⟨rfl, e54, (by decide : 0 + 0 ≤ _), (by decide : 0 + 0 ≤ _)⟩)
      dsimp only [Pt.U, Pt.locs, Pt.cells, Pt.slots] at X57 l57 y57 z57 st57 hQ57
      subst l57 y57 z57
      obtain ⟨rfl, N57q, e57⟩ := hQ57
      have N57 := Fr.app N47 N57q
      have F60 := ((r4.other W26 (Or.inl ne_a1_ol)).other W36 (Or.inl ne_a1_oh))
      obtain ⟨T59, X59, e59, st59⟩ := getF X57 hx hZ hown (host := "") (Or.inl (wd21 hw)) Via.refl e57 F60 (g := (mkF m 184 #[vR a1, vI 0, vI 2, vR at_, vI 0, vI eb0, vJ ((et0.toInt64) - (eb0.toInt64)), .second, vI (f_base (f_minI et0 el0) (f_maxI et0 eu0)), .unset, .unset] [(.ref a1)])) rfl rfl (bb d10_184)
      have F61 := ((r10.other W26 ne_on_ol).other W36 ne_on_oh)
      obtain ⟨cl62, Ar62, vq62, vS62, vN62, vH62, vG62⟩ := id F61
      have hin62 : ¬ (((0 : Int32) : Int32) < 0 ∨ cl62.slots.size ≤ ((0 : Int32) : Int32).toNatClampNeg) := inb_of vS62 ⟨by decide, by decide⟩
      obtain ⟨T63, X63, e63, st63⟩ := getF X59 hx hZ hown (host := "") (Or.inl (wd23 hw)) Via.refl e59 F40 (g := (mkF m 199 #[vR a1, vI 0, vI 2, vR at_, vI 0, vI eb0, vJ ((et0.toInt64) - (eb0.toInt64)), .second, vI (f_base (f_minI et0 el0) (f_maxI et0 eu0)), vR ov, vI 0] [(.ref a1), (.int 2), (.int 0)])) rfl rfl (bb d10_199)
      have F64 := ((r15.other W26 (Ne.symm ne_ol_ov)).other W36 (Ne.symm ne_oh_ov))
      obtain ⟨cl65, Ar65, vq65, vS65, vN65, vH65, vG65⟩ := id F64
      have hin65 : ¬ (((0 : Int32) : Int32) < 0 ∨ cl65.slots.size ≤ ((0 : Int32) : Int32).toNatClampNeg) := inb_of vS65 ⟨by decide, by decide⟩
      obtain ⟨cl66, Ar66, vq66, vS66, vN66, vH66, vG66⟩ := id F64
      have hin66 : ¬ (((0 : Int32) : Int32) < 0 ∨ cl66.slots.size ≤ ((0 : Int32) : Int32).toNatClampNeg) := inb_of vS66 ⟨by decide, by decide⟩
      obtain ⟨T66, h66, X66, e66, W66, st66⟩ := stC X63 hx hZ e63 Ar66 (j := (0 : Int32)) hin66 (g := (mkF m 220 #[vR a1, vI 0, vI 2, vR at_, vI 0, vI eb0, vJ ((et0.toInt64) - (eb0.toInt64)), .second, vI (f_base (f_minI et0 el0) (f_maxI et0 eu0)), vR ov, vI 0] [(.int (((nar .char (ev0_0 - eb0)) + ((eb0 - (f_base (f_minI et0 el0) (f_maxI et0 eu0))).toUInt32.toUInt16.toUInt32.toInt32)).toUInt32.toUInt16.toUInt32.toInt32)), (.int 0), (.ref ov)])) rfl rfl (bb d10_220)
      have V66 : Arv Z h66 ov kv_ .char (16 : Int32) [(.int (nar .char (((nar .char (ev0_0 - eb0)) + ((eb0 - (f_base (f_minI et0 el0) (f_maxI et0 eu0))).toUInt32.toUInt16.toUInt32.toInt32)).toUInt32.toUInt16.toUInt32.toInt32))), (.int (nar .char (ev0_1 - eb1))), (.int (nar .char (ev1_0 - eb0))), (.int (nar .char (ev1_1 - eb1))), (.int ex4), (.int ex5), (.int ex6), (.int ex7), (.int ex8), (.int ex9), (.int ex10), (.int ex11), (.int ex12), (.int ex13), (.int ex14), (.int ex15)] (.int 0) := Arv.set Ar66 vq66 vS66 vN66 vH66 vG66 (fits_nar_char _) W66 0 rfl (Nat.le_of_ble_eq_true rfl)
      have N66 := Fr.snoc X66 N57 g_ov
      have F68 := (F40.other W66 (Or.inl ne_a1_ov))
      obtain ⟨T67, X67, e67, st67⟩ := getF X66 hx hZ hown (host := "") (Or.inl (wd23 hw)) Via.refl e66 F68 (g := (mkF m 224 #[vR a1, vI 0, vI 2, vR at_, vI 0, vI eb0, vJ ((et0.toInt64) - (eb0.toInt64)), .second, vI (f_base (f_minI et0 el0) (f_maxI et0 eu0)), vR ov, vI 0] [(.ref a1), (.int 0)])) rfl rfl (bb d10_224)
      obtain ⟨T69, X69, e69, st69⟩ := getF X67 hx hZ hown (host := "") (Or.inl (wd23 hw)) Via.refl e67 F68 (g := (mkF m 199 #[vR a1, vI 0, vI 2, vR at_, vI 0, vI eb0, vJ ((et0.toInt64) - (eb0.toInt64)), .second, vI (f_base (f_minI et0 el0) (f_maxI et0 eu0)), vR ov, vI 2] [(.ref a1), (.int 2), (.int 2)])) rfl rfl (bb d10_199)
      obtain ⟨cl70, Ar70, vq70, vS70, vN70, vH70, vG70⟩ := id V66
      have hin70 : ¬ (((2 : Int32) : Int32) < 0 ∨ cl70.slots.size ≤ ((2 : Int32) : Int32).toNatClampNeg) := inb_of vS70 ⟨by decide, by decide⟩
      obtain ⟨cl71, Ar71, vq71, vS71, vN71, vH71, vG71⟩ := id V66
      have hin71 : ¬ (((2 : Int32) : Int32) < 0 ∨ cl71.slots.size ≤ ((2 : Int32) : Int32).toNatClampNeg) := inb_of vS71 ⟨by decide, by decide⟩
      obtain ⟨T71, h71, X71, e71, W71, st71⟩ := stC X69 hx hZ e69 Ar71 (j := (2 : Int32)) hin71 (g := (mkF m 220 #[vR a1, vI 0, vI 2, vR at_, vI 0, vI eb0, vJ ((et0.toInt64) - (eb0.toInt64)), .second, vI (f_base (f_minI et0 el0) (f_maxI et0 eu0)), vR ov, vI 2] [(.int (((nar .char (ev1_0 - eb0)) + ((eb0 - (f_base (f_minI et0 el0) (f_maxI et0 eu0))).toUInt32.toUInt16.toUInt32.toInt32)).toUInt32.toUInt16.toUInt32.toInt32)), (.int 2), (.ref ov)])) rfl rfl (bb d10_220)
      have V71 : Arv Z h71 ov kv_ .char (16 : Int32) [(.int (nar .char (((nar .char (ev0_0 - eb0)) + ((eb0 - (f_base (f_minI et0 el0) (f_maxI et0 eu0))).toUInt32.toUInt16.toUInt32.toInt32)).toUInt32.toUInt16.toUInt32.toInt32))), (.int (nar .char (ev0_1 - eb1))), (.int (nar .char (((nar .char (ev1_0 - eb0)) + ((eb0 - (f_base (f_minI et0 el0) (f_maxI et0 eu0))).toUInt32.toUInt16.toUInt32.toInt32)).toUInt32.toUInt16.toUInt32.toInt32))), (.int (nar .char (ev1_1 - eb1))), (.int ex4), (.int ex5), (.int ex6), (.int ex7), (.int ex8), (.int ex9), (.int ex10), (.int ex11), (.int ex12), (.int ex13), (.int ex14), (.int ex15)] (.int 0) := Arv.set Ar71 vq71 vS71 vN71 vH71 vG71 (fits_nar_char _) W71 2 rfl (Nat.le_of_ble_eq_true rfl)
      have N71 := Fr.snoc X71 N66 g_ov
      have F73 := (F68.other W71 (Or.inl ne_a1_ov))
      obtain ⟨T72, X72, e72, st72⟩ := getF X71 hx hZ hown (host := "") (Or.inl (wd23 hw)) Via.refl e71 F73 (g := (mkF m 224 #[vR a1, vI 0, vI 2, vR at_, vI 0, vI eb0, vJ ((et0.toInt64) - (eb0.toInt64)), .second, vI (f_base (f_minI et0 el0) (f_maxI et0 eu0)), vR ov, vI 2] [(.ref a1), (.int 2)])) rfl rfl (bb d10_224)
      obtain ⟨T74, X74, e74, st74⟩ := getF X72 hx hZ hown (host := "") (Or.inl (wd23 hw)) Via.refl e72 F73 (g := (mkF m 199 #[vR a1, vI 0, vI 2, vR at_, vI 0, vI eb0, vJ ((et0.toInt64) - (eb0.toInt64)), .second, vI (f_base (f_minI et0 el0) (f_maxI et0 eu0)), vR ov, vI 4] [(.ref a1), (.int 2), (.int 4)])) rfl rfl (bb d10_199)
      have F76 := ((F38.other W66 (Or.inl ne_a1_ov)).other W71 (Or.inl ne_a1_ov))
      obtain ⟨T75, X75, e75, st75⟩ := getF X74 hx hZ hown (host := "") (Or.inl (wd25 hw)) Via.refl e74 F76 (g := (mkF m 234 #[vR a1, vI 0, vI 2, vR at_, vI 0, vI eb0, vJ ((et0.toInt64) - (eb0.toInt64)), .second, vI (f_base (f_minI et0 el0) (f_maxI et0 eu0)), vR ov, vI 4] [(.ref a1)])) rfl rfl (bb d10_234)
      obtain ⟨T77, X77, e77, st77⟩ := getF X75 hx hZ hown (host := "") (Or.inl (wd23 hw)) Via.refl e75 F73 (g := (mkF m 239 #[vR a1, vI 0, vI 2, vR at_, vI 0, vI eb0, vJ ((et0.toInt64) - (eb0.toInt64)), .second, vI (f_base (f_minI et0 el0) (f_maxI et0 eu0)), vR ov, vI 4] [(.ref a1), (.int 0), (.ref ob)])) rfl rfl (bb d10_239)
      have F78 := ((F41.other W66 ne_ob_ov).other W71 ne_ob_ov)
      obtain ⟨cl79, Ar79, vq79, vS79, vN79, vH79, vG79⟩ := id F78
      have hin79 : ¬ (((0 : Int32) : Int32) < 0 ∨ cl79.slots.size ≤ ((0 : Int32) : Int32).toNatClampNeg) := inb_of vS79 ⟨by decide, by decide⟩
      obtain ⟨T79, h79, X79, e79, W79, st79⟩ := stI X77 hx hZ e77 Ar79 (j := (0 : Int32)) hin79 (g := (mkF m 248 #[vR a1, vI 0, vI 2, vR at_, vI 0, vI eb0, vJ ((et0.toInt64) - (eb0.toInt64)), .second, vI (f_base (f_minI et0 el0) (f_maxI et0 eu0)), vR ov, vI 4] [(.int (f_base (f_minI et0 el0) (f_maxI et0 eu0))), (.int 0), (.ref ob)])) rfl rfl (bb d10_248)
      have V79 : Arv Z h79 ob kb_ .int (2 : Int32) [(.int (f_base (f_minI et0 el0) (f_maxI et0 eu0))), (.int eb1)] (.int 0) := Arv.set Ar79 vq79 vS79 vN79 vH79 vG79 rfl W79 0 rfl (Nat.le_of_ble_eq_true rfl)
      have N79 := Fr.snoc X79 N71 g_ob
      have F80 := (V71.other W79 (Ne.symm ne_ob_ov))
      refine ⟨T79, _, h79, (vI (f_base (f_minI et0 el0) (f_maxI et0 eu0))), (vR ov), (vI 4), X79, e79, N79, ((((Keep.refl h36 [ob, ov]).wr W66 (Or.inl (List.mem_of_getElem? (i := 1) rfl))).wr W71 (Or.inl (List.mem_of_getElem? (i := 1) rfl))).wr W79 (Or.inl (List.mem_of_getElem? (i := 0) rfl))), (by simp only [nbase, if_pos g46]; exact V79), (by simp only [nbase, if_pos g46]; have q := F80; simp only [own_ch] at q; exact q), (One.val rfl), (One.val rfl), (One.val rfl), fun t k => pre47 t ?_⟩
      show GG p e below T47 (mkF m 164 #[vR a1, vI 0, vI 2, vR at_, vI 0, vI eb0, vJ ((et0.toInt64) - (eb0.toInt64)), .second, .unset, .unset, .unset] []) _
      refine XS.aloadN X47.here hx rfl (bb d10_164) rfl rfl ?_
      refine st50 _ ?_
      show GG p e below T50 (mkF m 168 #[vR a1, vI 0, vI 2, vR at_, vI 0, vI eb0, vJ ((et0.toInt64) - (eb0.toInt64)), .second, .unset, .unset, .unset] [(.ref ol)]) _
      refine XS.iload X50.here hx rfl (bb d10_168) rfl ?_
      refine X50.iaload hx (j := (0 : Int32)) (v := (.int (f_minI et0 el0))) (by rw [e50]; exact Ar53.1) (State.isArrayOf_alike hZ.alike Ar53.2.1) Ar53.2.2 hin53 (vH53.at hin53 rfl) (g := (mkF m 170 #[vR a1, vI 0, vI 2, vR at_, vI 0, vI eb0, vJ ((et0.toInt64) - (eb0.toInt64)), .second, .unset, .unset, .unset] [(.int 0), (.ref ol)])) rfl rfl (bb d10_170) _ ?_
      show GG p e below T50 (mkF m 171 #[vR a1, vI 0, vI 2, vR at_, vI 0, vI eb0, vJ ((et0.toInt64) - (eb0.toInt64)), .second, .unset, .unset, .unset] [(.int (f_minI et0 el0))]) _
      refine XS.aloadN X50.here hx rfl (bb d10_171) rfl rfl ?_
      refine st54 _ ?_
      show GG p e below T54 (mkF m 175 #[vR a1, vI 0, vI 2, vR at_, vI 0, vI eb0, vJ ((et0.toInt64) - (eb0.toInt64)), .second, .unset, .unset, .unset] [(.ref oh), (.int (f_minI et0 el0))]) _
      refine XS.iload X54.here hx rfl (bb d10_175) rfl ?_
      refine X54.iaload hx (j := (0 : Int32)) (v := (.int (f_maxI et0 eu0))) (by rw [e54]; exact Ar56.1) (State.isArrayOf_alike hZ.alike Ar56.2.1) Ar56.2.2 hin56 (vH56.at hin56 rfl) (g := (mkF m 177 #[vR a1, vI 0, vI 2, vR at_, vI 0, vI eb0, vJ ((et0.toInt64) - (eb0.toInt64)), .second, .unset, .unset, .unset] [(.int 0), (.ref oh), (.int (f_minI et0 el0))])) rfl rfl (bb d10_177) _ ?_
      show GG p e below T54 (mkF m 178 #[vR a1, vI 0, vI 2, vR at_, vI 0, vI eb0, vJ ((et0.toInt64) - (eb0.toInt64)), .second, .unset, .unset, .unset] [(.int (f_maxI et0 eu0)), (.int (f_minI et0 el0))]) _
      refine st57 _ ?_
      show GG p e below T57 (mkF m 181 #[vR a1, vI 0, vI 2, vR at_, vI 0, vI eb0, vJ ((et0.toInt64) - (eb0.toInt64)), .second, .unset, .unset, .unset] [(.int (f_base (f_minI et0 el0) (f_maxI et0 eu0)))]) _
      refine XS.istore X57.here hx rfl (bb d10_181) rfl (l' := #[vR a1, vI 0, vI 2, vR at_, vI 0, vI eb0, vJ ((et0.toInt64) - (eb0.toInt64)), .second, vI (f_base (f_minI et0 el0) (f_maxI et0 eu0)), .unset, .unset]) rfl ?_
      show GG p e below T57 (mkF m 183 #[vR a1, vI 0, vI 2, vR at_, vI 0, vI eb0, vJ ((et0.toInt64) - (eb0.toInt64)), .second, vI (f_base (f_minI et0 el0) (f_maxI et0 eu0)), .unset, .unset] []) _
      refine XS.aloadN X57.here hx rfl (bb d10_183) rfl rfl ?_
      refine st59 _ ?_
      show GG p e below T59 (mkF m 187 #[vR a1, vI 0, vI 2, vR at_, vI 0, vI eb0, vJ ((et0.toInt64) - (eb0.toInt64)), .second, vI (f_base (f_minI et0 el0) (f_maxI et0 eu0)), .unset, .unset] [(.ref on)]) _
      refine XS.iloadN X59.here hx rfl (bb d10_187) rfl ?_
      refine X59.aaload hx (j := (0 : Int32)) (v := (.ref ov)) (by rw [e59]; exact Ar62.1) (State.isArrayOf_alike hZ.alike Ar62.2.1) rfl Ar62.2.2 hin62 (vH62.at hin62 rfl) (g := (mkF m 188 #[vR a1, vI 0, vI 2, vR at_, vI 0, vI eb0, vJ ((et0.toInt64) - (eb0.toInt64)), .second, vI (f_base (f_minI et0 el0) (f_maxI et0 eu0)), .unset, .unset] [(.int 0), (.ref on)])) rfl rfl (bb d10_188) _ ?_
      show GG p e below T59 (mkF m 189 #[vR a1, vI 0, vI 2, vR at_, vI 0, vI eb0, vJ ((et0.toInt64) - (eb0.toInt64)), .second, vI (f_base (f_minI et0 el0) (f_maxI et0 eu0)), .unset, .unset] [(.ref ov)]) _
      refine XS.astore X59.here hx rfl (bb d10_189) rfl rfl (l' := #[vR a1, vI 0, vI 2, vR at_, vI 0, vI eb0, vJ ((et0.toInt64) - (eb0.toInt64)), .second, vI (f_base (f_minI et0 el0) (f_maxI et0 eu0)), vR ov, .unset]) rfl ?_
      show GG p e below T59 (mkF m 191 #[vR a1, vI 0, vI 2, vR at_, vI 0, vI eb0, vJ ((et0.toInt64) - (eb0.toInt64)), .second, vI (f_base (f_minI et0 el0) (f_maxI et0 eu0)), vR ov, .unset] []) _
      refine XS.iload X59.here hx rfl (bb d10_191) rfl ?_
      refine XS.istore X59.here hx rfl (bb d10_193) rfl (l' := #[vR a1, vI 0, vI 2, vR at_, vI 0, vI eb0, vJ ((et0.toInt64) - (eb0.toInt64)), .second, vI (f_base (f_minI et0 el0) (f_maxI et0 eu0)), vR ov, vI 0]) rfl ?_
      show GG p e below T59 (mkF m 195 #[vR a1, vI 0, vI 2, vR at_, vI 0, vI eb0, vJ ((et0.toInt64) - (eb0.toInt64)), .second, vI (f_base (f_minI et0 el0) (f_maxI et0 eu0)), vR ov, vI 0] []) _
      refine XS.iload X59.here hx rfl (bb d10_195) rfl ?_
      refine XS.iloadN X59.here hx rfl (bb d10_197) rfl ?_
      refine XS.aloadN X59.here hx rfl (bb d10_198) rfl rfl ?_
      refine st63 _ ?_
      show GG p e below T63 (mkF m 202 #[vR a1, vI 0, vI 2, vR at_, vI 0, vI eb0, vJ ((et0.toInt64) - (eb0.toInt64)), .second, vI (f_base (f_minI et0 el0) (f_maxI et0 eu0)), vR ov, vI 0] [(.int 2), (.int 2), (.int 0)]) _
      refine XS.imul X63.here hx rfl (bb d10_202) rfl ?_
      refine XS.icmpNo X63.here hx rfl (bb d10_203) rfl (tlt (by decide : (0 : Int32) < (4 : Int32))).2.1 ?_
      refine XS.aload X63.here hx rfl (bb d10_206) rfl rfl ?_
      refine XS.iload X63.here hx rfl (bb d10_208) rfl ?_
      show GG p e below T63 (mkF m 210 #[vR a1, vI 0, vI 2, vR at_, vI 0, vI eb0, vJ ((et0.toInt64) - (eb0.toInt64)), .second, vI (f_base (f_minI et0 el0) (f_maxI et0 eu0)), vR ov, vI 0] [(.int 0), (.ref ov)]) _
      refine Jvm.Free.XT.dup2 X63.here hx rfl (bb d10_210) rfl rfl rfl ?_
      show GG p e below T63 (mkF m 211 #[vR a1, vI 0, vI 2, vR at_, vI 0, vI eb0, vJ ((et0.toInt64) - (eb0.toInt64)), .second, vI (f_base (f_minI et0 el0) (f_maxI et0 eu0)), vR ov, vI 0] [(.int 0), (.ref ov), (.int 0), (.ref ov)]) _
      refine X63.caload hx (j := (0 : Int32)) (v := (.int (nar .char (ev0_0 - eb0)))) (by rw [e63]; exact Ar65.1) (State.isArrayOf_alike hZ.alike Ar65.2.1) Ar65.2.2 hin65 (vH65.at hin65 rfl) (g := (mkF m 211 #[vR a1, vI 0, vI 2, vR at_, vI 0, vI eb0, vJ ((et0.toInt64) - (eb0.toInt64)), .second, vI (f_base (f_minI et0 el0) (f_maxI et0 eu0)), vR ov, vI 0] [(.int 0), (.ref ov), (.int 0), (.ref ov)])) rfl rfl (bb d10_211) _ ?_
      show GG p e below T63 (mkF m 212 #[vR a1, vI 0, vI 2, vR at_, vI 0, vI eb0, vJ ((et0.toInt64) - (eb0.toInt64)), .second, vI (f_base (f_minI et0 el0) (f_maxI et0 eu0)), vR ov, vI 0] [(.int (nar .char (ev0_0 - eb0))), (.int 0), (.ref ov)]) _
      refine XS.iload X63.here hx rfl (bb d10_212) rfl ?_
      refine XS.iload X63.here hx rfl (bb d10_214) rfl ?_
      refine XS.isub X63.here hx rfl (bb d10_216) rfl ?_
      refine XS.i2c X63.here hx rfl (bb d10_217) rfl ?_
      show GG p e below T63 (mkF m 218 #[vR a1, vI 0, vI 2, vR at_, vI 0, vI eb0, vJ ((et0.toInt64) - (eb0.toInt64)), .second, vI (f_base (f_minI et0 el0) (f_maxI et0 eu0)), vR ov, vI 0] [(.int ((eb0 - (f_base (f_minI et0 el0) (f_maxI et0 eu0))).toUInt32.toUInt16.toUInt32.toInt32)), (.int (nar .char (ev0_0 - eb0))), (.int 0), (.ref ov)]) _
      refine XS.iadd X63.here hx rfl (bb d10_218) rfl ?_
      refine XS.i2c X63.here hx rfl (bb d10_219) rfl ?_
      show GG p e below T63 (mkF m 220 #[vR a1, vI 0, vI 2, vR at_, vI 0, vI eb0, vJ ((et0.toInt64) - (eb0.toInt64)), .second, vI (f_base (f_minI et0 el0) (f_maxI et0 eu0)), vR ov, vI 0] [(.int (((nar .char (ev0_0 - eb0)) + ((eb0 - (f_base (f_minI et0 el0) (f_maxI et0 eu0))).toUInt32.toUInt16.toUInt32.toInt32)).toUInt32.toUInt16.toUInt32.toInt32)), (.int 0), (.ref ov)]) _
      refine st66 _ ?_
      show GG p e below T66 (mkF m 221 #[vR a1, vI 0, vI 2, vR at_, vI 0, vI eb0, vJ ((et0.toInt64) - (eb0.toInt64)), .second, vI (f_base (f_minI et0 el0) (f_maxI et0 eu0)), vR ov, vI 0] []) _
      refine XS.iload X66.here hx rfl (bb d10_221) rfl ?_
      refine XS.aloadN X66.here hx rfl (bb d10_223) rfl rfl ?_
      refine st67 _ ?_
      show GG p e below T67 (mkF m 227 #[vR a1, vI 0, vI 2, vR at_, vI 0, vI eb0, vJ ((et0.toInt64) - (eb0.toInt64)), .second, vI (f_base (f_minI et0 el0) (f_maxI et0 eu0)), vR ov, vI 0] [(.int 2), (.int 0)]) _
      refine XS.iadd X67.here hx rfl (bb d10_227) rfl ?_
      refine XS.istore X67.here hx rfl (bb d10_228) rfl (l' := #[vR a1, vI 0, vI 2, vR at_, vI 0, vI eb0, vJ ((et0.toInt64) - (eb0.toInt64)), .second, vI (f_base (f_minI et0 el0) (f_maxI et0 eu0)), vR ov, vI 2]) rfl ?_
      show GG p e below T67 (mkF m 230 #[vR a1, vI 0, vI 2, vR at_, vI 0, vI eb0, vJ ((et0.toInt64) - (eb0.toInt64)), .second, vI (f_base (f_minI et0 el0) (f_maxI et0 eu0)), vR ov, vI 2] []) _
      refine XS.goto X67.here hx rfl (pc0 := 230) (pc' := 195) rfl (bb d10_230) (by decide) (by decide) ?_
      refine XS.iload X67.here hx rfl (bb d10_195) rfl ?_
      refine XS.iloadN X67.here hx rfl (bb d10_197) rfl ?_
      refine XS.aloadN X67.here hx rfl (bb d10_198) rfl rfl ?_
      show GG p e below T67 (mkF m 199 #[vR a1, vI 0, vI 2, vR at_, vI 0, vI eb0, vJ ((et0.toInt64) - (eb0.toInt64)), .second, vI (f_base (f_minI et0 el0) (f_maxI et0 eu0)), vR ov, vI 2] [(.ref a1), (.int 2), (.int 2)]) _
      refine st69 _ ?_
      show GG p e below T69 (mkF m 202 #[vR a1, vI 0, vI 2, vR at_, vI 0, vI eb0, vJ ((et0.toInt64) - (eb0.toInt64)), .second, vI (f_base (f_minI et0 el0) (f_maxI et0 eu0)), vR ov, vI 2] [(.int 2), (.int 2), (.int 2)]) _
      refine XS.imul X69.here hx rfl (bb d10_202) rfl ?_
      refine XS.icmpNo X69.here hx rfl (bb d10_203) rfl (tlt (by decide : (2 : Int32) < (4 : Int32))).2.1 ?_
      refine XS.aload X69.here hx rfl (bb d10_206) rfl rfl ?_
      refine XS.iload X69.here hx rfl (bb d10_208) rfl ?_
      show GG p e below T69 (mkF m 210 #[vR a1, vI 0, vI 2, vR at_, vI 0, vI eb0, vJ ((et0.toInt64) - (eb0.toInt64)), .second, vI (f_base (f_minI et0 el0) (f_maxI et0 eu0)), vR ov, vI 2] [(.int 2), (.ref ov)]) _
      refine Jvm.Free.XT.dup2 X69.here hx rfl (bb d10_210) rfl rfl rfl ?_
      show GG p e below T69 (mkF m 211 #[vR a1, vI 0, vI 2, vR at_, vI 0, vI eb0, vJ ((et0.toInt64) - (eb0.toInt64)), .second, vI (f_base (f_minI et0 el0) (f_maxI et0 eu0)), vR ov, vI 2] [(.int 2), (.ref ov), (.int 2), (.ref ov)]) _
      refine X69.caload hx (j := (2 : Int32)) (v := (.int (nar .char (ev1_0 - eb0)))) (by rw [e69]; exact Ar70.1) (State.isArrayOf_alike hZ.alike Ar70.2.1) Ar70.2.2 hin70 (vH70.at hin70 rfl) (g := (mkF m 211 #[vR a1, vI 0, vI 2, vR at_, vI 0, vI eb0, vJ ((et0.toInt64) - (eb0.toInt64)), .second, vI (f_base (f_minI et0 el0) (f_maxI et0 eu0)), vR ov, vI 2] [(.int 2), (.ref ov), (.int 2), (.ref ov)])) rfl rfl (bb d10_211) _ ?_
      show GG p e below T69 (mkF m 212 #[vR a1, vI 0, vI 2, vR at_, vI 0, vI eb0, vJ ((et0.toInt64) - (eb0.toInt64)), .second, vI (f_base (f_minI et0 el0) (f_maxI et0 eu0)), vR ov, vI 2] [(.int (nar .char (ev1_0 - eb0))), (.int 2), (.ref ov)]) _
      refine XS.iload X69.here hx rfl (bb d10_212) rfl ?_
      refine XS.iload X69.here hx rfl (bb d10_214) rfl ?_
      refine XS.isub X69.here hx rfl (bb d10_216) rfl ?_
      refine XS.i2c X69.here hx rfl (bb d10_217) rfl ?_
      show GG p e below T69 (mkF m 218 #[vR a1, vI 0, vI 2, vR at_, vI 0, vI eb0, vJ ((et0.toInt64) - (eb0.toInt64)), .second, vI (f_base (f_minI et0 el0) (f_maxI et0 eu0)), vR ov, vI 2] [(.int ((eb0 - (f_base (f_minI et0 el0) (f_maxI et0 eu0))).toUInt32.toUInt16.toUInt32.toInt32)), (.int (nar .char (ev1_0 - eb0))), (.int 2), (.ref ov)]) _
      refine XS.iadd X69.here hx rfl (bb d10_218) rfl ?_
      refine XS.i2c X69.here hx rfl (bb d10_219) rfl ?_
      show GG p e below T69 (mkF m 220 #[vR a1, vI 0, vI 2, vR at_, vI 0, vI eb0, vJ ((et0.toInt64) - (eb0.toInt64)), .second, vI (f_base (f_minI et0 el0) (f_maxI et0 eu0)), vR ov, vI 2] [(.int (((nar .char (ev1_0 - eb0)) + ((eb0 - (f_base (f_minI et0 el0) (f_maxI et0 eu0))).toUInt32.toUInt16.toUInt32.toInt32)).toUInt32.toUInt16.toUInt32.toInt32)), (.int 2), (.ref ov)]) _
      refine st71 _ ?_
      show GG p e below T71 (mkF m 221 #[vR a1, vI 0, vI 2, vR at_, vI 0, vI eb0, vJ ((et0.toInt64) - (eb0.toInt64)), .second, vI (f_base (f_minI et0 el0) (f_maxI et0 eu0)), vR ov, vI 2] []) _
      refine XS.iload X71.here hx rfl (bb d10_221) rfl ?_
      refine XS.aloadN X71.here hx rfl (bb d10_223) rfl rfl ?_
      refine st72 _ ?_
      show GG p e below T72 (mkF m 227 #[vR a1, vI 0, vI 2, vR at_, vI 0, vI eb0, vJ ((et0.toInt64) - (eb0.toInt64)), .second, vI (f_base (f_minI et0 el0) (f_maxI et0 eu0)), vR ov, vI 2] [(.int 2), (.int 2)]) _
      refine XS.iadd X72.here hx rfl (bb d10_227) rfl ?_
      refine XS.istore X72.here hx rfl (bb d10_228) rfl (l' := #[vR a1, vI 0, vI 2, vR at_, vI 0, vI eb0, vJ ((et0.toInt64) - (eb0.toInt64)), .second, vI (f_base (f_minI et0 el0) (f_maxI et0 eu0)), vR ov, vI 4]) rfl ?_
      show GG p e below T72 (mkF m 230 #[vR a1, vI 0, vI 2, vR at_, vI 0, vI eb0, vJ ((et0.toInt64) - (eb0.toInt64)), .second, vI (f_base (f_minI et0 el0) (f_maxI et0 eu0)), vR ov, vI 4] []) _
      refine XS.goto X72.here hx rfl (pc0 := 230) (pc' := 195) rfl (bb d10_230) (by decide) (by decide) ?_
      refine XS.iload X72.here hx rfl (bb d10_195) rfl ?_
      refine XS.iloadN X72.here hx rfl (bb d10_197) rfl ?_
      refine XS.aloadN X72.here hx rfl (bb d10_198) rfl rfl ?_
      show GG p e below T72 (mkF m 199 #[vR a1, vI 0, vI 2, vR at_, vI 0, vI eb0, vJ ((et0.toInt64) - (eb0.toInt64)), .second, vI (f_base (f_minI et0 el0) (f_maxI et0 eu0)), vR ov, vI 4] [(.ref a1), (.int 2), (.int 4)]) _
      refine st74 _ ?_
      show GG p e below T74 (mkF m 202 #[vR a1, vI 0, vI 2, vR at_, vI 0, vI eb0, vJ ((et0.toInt64) - (eb0.toInt64)), .second, vI (f_base (f_minI et0 el0) (f_maxI et0 eu0)), vR ov, vI 4] [(.int 2), (.int 2), (.int 4)]) _
      refine XS.imul X74.here hx rfl (bb d10_202) rfl ?_
      refine XS.icmpYes X74.here hx rfl (pc0 := 203) (pc' := 233) rfl (bb d10_203) rfl (flt (by decide : ¬ ((4 : Int32) < (4 : Int32)))).2.1 (by decide) (by decide) ?_
      show GG p e below T74 (mkF m 233 #[vR a1, vI 0, vI 2, vR at_, vI 0, vI eb0, vJ ((et0.toInt64) - (eb0.toInt64)), .second, vI (f_base (f_minI et0 el0) (f_maxI et0 eu0)), vR ov, vI 4] []) _
      refine XS.aloadN X74.here hx rfl (bb d10_233) rfl rfl ?_
      refine st75 _ ?_
      show GG p e below T75 (mkF m 237 #[vR a1, vI 0, vI 2, vR at_, vI 0, vI eb0, vJ ((et0.toInt64) - (eb0.toInt64)), .second, vI (f_base (f_minI et0 el0) (f_maxI et0 eu0)), vR ov, vI 4] [(.ref ob)]) _
      refine XS.iloadN X75.here hx rfl (bb d10_237) rfl ?_
      refine XS.aloadN X75.here hx rfl (bb d10_238) rfl rfl ?_
      refine st77 _ ?_
      show GG p e below T77 (mkF m 242 #[vR a1, vI 0, vI 2, vR at_, vI 0, vI eb0, vJ ((et0.toInt64) - (eb0.toInt64)), .second, vI (f_base (f_minI et0 el0) (f_maxI et0 eu0)), vR ov, vI 4] [(.int 2), (.int 0), (.ref ob)]) _
      refine XS.imul X77.here hx rfl (bb d10_242) rfl ?_
      refine XS.iload X77.here hx rfl (bb d10_243) rfl ?_
      refine XS.iadd X77.here hx rfl (bb d10_245) rfl ?_
      refine XS.iload X77.here hx rfl (bb d10_246) rfl ?_
      show GG p e below T77 (mkF m 248 #[vR a1, vI 0, vI 2, vR at_, vI 0, vI eb0, vJ ((et0.toInt64) - (eb0.toInt64)), .second, vI (f_base (f_minI et0 el0) (f_maxI et0 eu0)), vR ov, vI 4] [(.int (f_base (f_minI et0 el0) (f_maxI et0 eu0))), (.int 0), (.ref ob)]) _
      refine st79 _ ?_
      exact k
    · skip
      have F81 := ((r15.other W26 (Ne.symm ne_ol_ov)).other W36 (Ne.symm ne_oh_ov))
      refine ⟨T39, _, h36, (.unset), (.unset), (.unset), X39, e39, N36, (Keep.refl h36 [ob, ov]), (by simp only [nbase, if_neg g46]; exact F41), (by simp only [nbase, if_neg g46]; have q := F81; exact q), One.u, One.u, One.u, fun t k => pre45 t ?_⟩
      show GG p e below T39 (mkF m 148 #[vR a1, vI 0, vI 2, vR at_, vI 0, vI eb0, vJ ((et0.toInt64) - (eb0.toInt64)), .second, .unset, .unset, .unset] []) _
      refine XS.lload X39.here hx rfl (bb d10_148) rfl ?_
      refine XS.lconst X39.here hx rfl (bb d10_150) ?_
      refine XS.lcmp X39.here hx rfl (bb d10_151) rfl ?_
      show GG p e below T39 (mkF m 152 #[vR a1, vI 0, vI 2, vR at_, vI 0, vI eb0, vJ ((et0.toInt64) - (eb0.toInt64)), .second, .unset, .unset, .unset] [(.int (lcmpW ((et0.toInt64) - (eb0.toInt64)) (0 : Int64)))]) _
      refine XS.ifNo X39.here hx rfl (bb d10_152) rfl ((if0 _ _).trans (flt (fun q => g46 (Or.inl q))).1) ?_
      refine XS.lload X39.here hx rfl (bb d10_155) rfl ?_
      refine X39.ldc2Long hx hown (mvT hZ (wd74 hw)) (g := (mkF m 157 #[vR a1, vI 0, vI 2, vR at_, vI 0, vI eb0, vJ ((et0.toInt64) - (eb0.toInt64)), .second, .unset, .unset, .unset] [(.long ((et0.toInt64) - (eb0.toInt64)))])) rfl (bb d10_157) _ ?_
      show GG p e below T39 (mkF m 160 #[vR a1, vI 0, vI 2, vR at_, vI 0, vI eb0, vJ ((et0.toInt64) - (eb0.toInt64)), .second, .unset, .unset, .unset] [(.long 65536), (.long ((et0.toInt64) - (eb0.toInt64)))]) _
      refine XS.lcmp X39.here hx rfl (bb d10_160) rfl ?_
      show GG p e below T39 (mkF m 161 #[vR a1, vI 0, vI 2, vR at_, vI 0, vI eb0, vJ ((et0.toInt64) - (eb0.toInt64)), .second, .unset, .unset, .unset] [(.int (lcmpW ((et0.toInt64) - (eb0.toInt64)) (65536 : Int64)))]) _
      refine XS.ifYes X39.here hx rfl (pc0 := 161) (pc' := 249) rfl (bb d10_161) rfl ((if0 _ _).trans (tlt (Decidable.of_not_not fun q => g46 (Or.inr q))).1) (by decide) (by decide) ?_
      exact k
  have F83 := (F40.keep K46 (ninS ne_a1_ob (ninS ne_a1_ov nin0)))
  obtain ⟨T82, X82, e82, st82⟩ := getF X46 hx hZ hown (host := "") (Or.inl (wd23 hw)) Via.refl e46 F83 (g := (mkF m 73 #[vR a1, vI 0, vI 2, vR at_, vI 1, vI eb0, vJ ((et0.toInt64) - (eb0.toInt64)), .second, s8_46, s9_46, s10_46] [(.ref a1), (.int 1)])) rfl rfl (bb d10_73)
  have F85 := (((r6.other W26 (Or.inl ne_a1_ol)).other W36 (Or.inl ne_a1_oh)).keep K46 (ninS ne_a1_ob (ninS ne_a1_ov nin0)))
  obtain ⟨T84, X84, e84, st84⟩ := getF X82 hx hZ hown (host := "") (Or.inl (wd27 hw)) Via.refl e82 F85 (g := (mkF m 80 #[vR a1, vI 0, vI 2, vR at_, vI 1, vI eb0, vJ ((et0.toInt64) - (eb0.toInt64)), .second, s8_46, s9_46, s10_46] [(.ref a1)])) rfl rfl (bb d10_80)
  have F86 := (F43.keep K46 (ninS ne_at__ob (ninS ne_at__ov nin0)))
  obtain ⟨cl87, Ar87, vq87, vS87, vN87, vH87, vG87⟩ := id F86
  have hin87 : ¬ (((1 : Int32) : Int32) < 0 ∨ cl87.slots.size ≤ ((1 : Int32) : Int32).toNatClampNeg) := inb_of vS87 ⟨by decide, by decide⟩
  obtain ⟨T88, X88, e88, st88⟩ := getF X84 hx hZ hown (host := "") (Or.inl (wd27 hw)) Via.refl e84 F85 (g := (mkF m 90 #[vR a1, vI 0, vI 2, vR at_, vI 1, vI eb0, vJ ((et0.toInt64) - (eb0.toInt64)), .second, s8_46, s9_46, s10_46] [(.ref a1), (.int et1), (.int 1), (.ref ol)])) rfl rfl (bb d10_90)
  have F89 := ((V26.other W36 ne_ol_oh).keep K46 (ninS (Ne.symm ne_ob_ol) (ninS ne_ol_ov nin0)))
  obtain ⟨cl90, Ar90, vq90, vS90, vN90, vH90, vG90⟩ := id F89
  have hin90 : ¬ (((1 : Int32) : Int32) < 0 ∨ cl90.slots.size ≤ ((1 : Int32) : Int32).toNatClampNeg) := inb_of vS90 ⟨by decide, by decide⟩
  have O92 := ((O35.wr W36 g_oh).keep K46 (allS g_ob (allS g_ov all0)))
  obtain ⟨_, _, ⟨T91, L91, k91, n91⟩, -, X91, ⟨Lc91, hQ91, l91, y91, z91⟩, st91⟩ := Jvm.LawKit.callS X88 hx (y := (⟨"java/lang/Math", "min", "(II)I"⟩ : MethodName)) hown (mvT hZ (wd64 hw)) (mvT hZ (wd65 hw)) (mvT hZ (wd54 hw)) (mvT hZ (wd66 hw)) (by decide) (backOf (W := 2) (rm_minI l Z a0 hw [] et1 el1 h46 n0 (own_z0 O92) O92 S_CS) hZ (wd66 hw) (wd54 hw) (by decide) (by decide)) (g := (mkF m 96 #[vR a1, vI 0, vI 2, vR at_, vI 1, vI eb0, vJ ((et0.toInt64) - (eb0.toInt64)), .second, s8_46, s9_46, s10_46] [(.int el1), (.int et1), (.int 1), (.ref ol)])) rfl (by rw [hml]; rfl) (argsL := [(.int et1), (.int el1)]) (rest := [(.int 1), (.ref ol)]) (lenOf pd__II_I_5 rfl) rfl (by show 2 * 0 + _ ≤ _; exact Nat.le_of_eq rfl) (bb d10_96) (fun _ _ => ⟨rfl, e88, (by decide : 0 + 0 ≤ _), (by decide : 0 + 0 ≤ _)⟩)
  dsimp only [Pt.U, Pt.locs, Pt.cells, Pt.slots] at X91 l91 y91 z91 st91 hQ91
  subst l91 y91 z91
  obtain ⟨rfl, N91q, e91⟩ := hQ91
  have N91 := Fr.app N46 N91q
  obtain ⟨cl93, Ar93, vq93, vS93, vN93, vH93, vG93⟩ := id F89
  have hin93 : ¬ (((1 : Int32) : Int32) < 0 ∨ cl93.slots.size ≤ ((1 : Int32) : Int32).toNatClampNeg) := inb_of vS93 ⟨by decide, by decide⟩
  obtain ⟨T93, h93, X93, e93, W93, st93⟩ := stI X91 hx hZ e91 Ar93 (j := (1 : Int32)) hin93 (g := (mkF m 99 #[vR a1, vI 0, vI 2, vR at_, vI 1, vI eb0, vJ ((et0.toInt64) - (eb0.toInt64)), .second, s8_46, s9_46, s10_46] [(.int (f_minI et1 el1)), (.int 1), (.ref ol)])) rfl rfl (bb d10_99)
  have V93 : Arv Z h93 ol kl_ .int (2 : Int32) [(.int (f_minI et0 el0)), (.int (f_minI et1 el1))] (.int 0) := Arv.set Ar93 vq93 vS93 vN93 vH93 vG93 rfl W93 1 rfl (Nat.le_of_ble_eq_true rfl)
  have N93 := Fr.snoc X93 N91 g_ol
  have F95 := (((F28.other W36 (Or.inl ne_a1_oh)).keep K46 (ninS ne_a1_ob (ninS ne_a1_ov nin0))).other W93 (Or.inl ne_a1_ol))
  obtain ⟨T94, X94, e94, st94⟩ := getF X93 hx hZ hown (host := "") (Or.inl (wd29 hw)) Via.refl e93 F95 (g := (mkF m 101 #[vR a1, vI 0, vI 2, vR at_, vI 1, vI eb0, vJ ((et0.toInt64) - (eb0.toInt64)), .second, s8_46, s9_46, s10_46] [(.ref a1)])) rfl rfl (bb d10_101)
  have F96 := (F86.other W93 ne_at__ol)
  obtain ⟨cl97, Ar97, vq97, vS97, vN97, vH97, vG97⟩ := id F96
  have hin97 : ¬ (((1 : Int32) : Int32) < 0 ∨ cl97.slots.size ≤ ((1 : Int32) : Int32).toNatClampNeg) := inb_of vS97 ⟨by decide, by decide⟩
  obtain ⟨T98, X98, e98, st98⟩ := getF X94 hx hZ hown (host := "") (Or.inl (wd29 hw)) Via.refl e94 F95 (g := (mkF m 111 #[vR a1, vI 0, vI 2, vR at_, vI 1, vI eb0, vJ ((et0.toInt64) - (eb0.toInt64)), .second, s8_46, s9_46, s10_46] [(.ref a1), (.int et1), (.int 1), (.ref oh)])) rfl rfl (bb d10_111)
  have F99 := ((V36.keep K46 (ninS (Ne.symm ne_ob_oh) (ninS ne_oh_ov nin0))).other W93 (Ne.symm ne_ol_oh))
  obtain ⟨cl100, Ar100, vq100, vS100, vN100, vH100, vG100⟩ := id F99
  have hin100 : ¬ (((1 : Int32) : Int32) < 0 ∨ cl100.slots.size ≤ ((1 : Int32) : Int32).toNatClampNeg) := inb_of vS100 ⟨by decide, by decide⟩
  have O102 := (O92.wr W93 g_ol)
  obtain ⟨_, _, ⟨T101, L101, k101, n101⟩, -, X101, ⟨Lc101, hQ101, l101, y101, z101⟩, st101⟩ := Jvm.LawKit.callS X98 hx (y := (⟨"java/lang/Math", "max", "(II)I"⟩ : MethodName)) hown (mvT hZ (wd71 hw)) (mvT hZ (wd72 hw)) (mvT hZ (wd54 hw)) (mvT hZ (wd73 hw)) (by decide) (backOf (W := 2) (rm_maxI l Z a0 hw [] et1 eu1 h93 n0 (own_z0 O102) O102 S_CS) hZ (wd73 hw) (wd54 hw) (by decide) (by decide)) (g := (mkF m 117 #[vR a1, vI 0, vI 2, vR at_, vI 1, vI eb0, vJ ((et0.toInt64) - (eb0.toInt64)), .second, s8_46, s9_46, s10_46] [(.int eu1), (.int et1), (.int 1), (.ref oh)])) rfl (by rw [hml]; rfl) (argsL := [(.int et1), (.int eu1)]) (rest := [(.int 1), (.ref oh)]) (lenOf pd__II_I_5 rfl) rfl (by show 2 * 0 + _ ≤ _; exact Nat.le_of_eq rfl) (bb d10_117) (fun _ _ => ⟨rfl, e98, (by decide : 0 + 0 ≤ _), (by decide : 0 + 0 ≤ _)⟩)
  dsimp only [Pt.U, Pt.locs, Pt.cells, Pt.slots] at X101 l101 y101 z101 st101 hQ101
  subst l101 y101 z101
  obtain ⟨rfl, N101q, e101⟩ := hQ101
  have N101 := Fr.app N93 N101q
  obtain ⟨cl103, Ar103, vq103, vS103, vN103, vH103, vG103⟩ := id F99
  have hin103 : ¬ (((1 : Int32) : Int32) < 0 ∨ cl103.slots.size ≤ ((1 : Int32) : Int32).toNatClampNeg) := inb_of vS103 ⟨by decide, by decide⟩
  obtain ⟨T103, h103, X103, e103, W103, st103⟩ := stI X101 hx hZ e101 Ar103 (j := (1 : Int32)) hin103 (g := (mkF m 120 #[vR a1, vI 0, vI 2, vR at_, vI 1, vI eb0, vJ ((et0.toInt64) - (eb0.toInt64)), .second, s8_46, s9_46, s10_46] [(.int (f_maxI et1 eu1)), (.int 1), (.ref oh)])) rfl rfl (bb d10_120)
  have V103 : Arv Z h103 oh kh_ .int (2 : Int32) [(.int (f_maxI et0 eu0)), (.int (f_maxI et1 eu1))] (.int 0) := Arv.set Ar103 vq103 vS103 vN103 vH103 vG103 rfl W103 1 rfl (Nat.le_of_ble_eq_true rfl)
  have N103 := Fr.snoc X103 N101 g_oh
  have F105 := (((F38.keep K46 (ninS ne_a1_ob (ninS ne_a1_ov nin0))).other W93 (Or.inl ne_a1_ol)).other W103 (Or.inl ne_a1_oh))
  obtain ⟨T104, X104, e104, st104⟩ := getF X103 hx hZ hown (host := "") (Or.inl (wd25 hw)) Via.refl e103 F105 (g := (mkF m 122 #[vR a1, vI 0, vI 2, vR at_, vI 1, vI eb0, vJ ((et0.toInt64) - (eb0.toInt64)), .second, s8_46, s9_46, s10_46] [(.ref a1)])) rfl rfl (bb d10_122)
  have F107 := ((F83.other W93 (Or.inl ne_a1_ol)).other W103 (Or.inl ne_a1_oh))
  obtain ⟨T106, X106, e106, st106⟩ := getF X104 hx hZ hown (host := "") (Or.inl (wd23 hw)) Via.refl e104 F107 (g := (mkF m 127 #[vR a1, vI 0, vI 2, vR at_, vI 1, vI eb0, vJ ((et0.toInt64) - (eb0.toInt64)), .second, s8_46, s9_46, s10_46] [(.ref a1), (.int 0), (.ref ob)])) rfl rfl (bb d10_127)
  have F108 := ((f46_0.other W93 ne_ob_ol).other W103 ne_ob_oh)
  obtain ⟨cl109, Ar109, vq109, vS109, vN109, vH109, vG109⟩ := id F108
  have hin109 : ¬ (((1 : Int32) : Int32) < 0 ∨ cl109.slots.size ≤ ((1 : Int32) : Int32).toNatClampNeg) := inb_of vS109 ⟨by decide, by decide⟩
  have F110 := (F96.other W103 ne_at__oh)
  obtain ⟨cl111, Ar111, vq111, vS111, vN111, vH111, vG111⟩ := id F110
  have hin111 : ¬ (((1 : Int32) : Int32) < 0 ∨ cl111.slots.size ≤ ((1 : Int32) : Int32).toNatClampNeg) := inb_of vS111 ⟨by decide, by decide⟩
  have pre112 : ∀ t, GG p e below T106 (mkF m 148 #[vR a1, vI 0, vI 2, vR at_, vI 1, vI eb1, vJ ((et1.toInt64) - (eb1.toInt64)), .second, s8_46, s9_46, s10_46] []) t → GG p e below s₁ (entryFrame m #[(.ref a1), (.int 0), (.int 2), (.ref at_)] 11) t := fun t k => pre46 t (by
      show GG p e below T46 (mkF m 249 #[vR a1, vI 0, vI 2, vR at_, vI 0, vI eb0, vJ ((et0.toInt64) - (eb0.toInt64)), .second, s8_46, s9_46, s10_46] []) _
      refine XS.iinc X46.here hx rfl (bb d10_249) rfl (l' := #[vR a1, vI 0, vI 2, vR at_, vI 1, vI eb0, vJ ((et0.toInt64) - (eb0.toInt64)), .second, s8_46, s9_46, s10_46]) rfl ?_
      show GG p e below T46 (mkF m 252 #[vR a1, vI 0, vI 2, vR at_, vI 1, vI eb0, vJ ((et0.toInt64) - (eb0.toInt64)), .second, s8_46, s9_46, s10_46] []) _
      refine XS.goto X46.here hx rfl (pc0 := 252) (pc' := 70) rfl (bb d10_252) (by decide) (by decide) ?_
      refine XS.iload X46.here hx rfl (bb d10_70) rfl ?_
      refine XS.aloadN X46.here hx rfl (bb d10_72) rfl rfl ?_
      refine st82 _ ?_
      show GG p e below T82 (mkF m 76 #[vR a1, vI 0, vI 2, vR at_, vI 1, vI eb0, vJ ((et0.toInt64) - (eb0.toInt64)), .second, s8_46, s9_46, s10_46] [(.int 2), (.int 1)]) _
      refine XS.icmpNo X82.here hx rfl (bb d10_76) rfl (tlt (by decide : (1 : Int32) < (2 : Int32))).2.1 ?_
      refine XS.aloadN X82.here hx rfl (bb d10_79) rfl rfl ?_
      refine st84 _ ?_
      show GG p e below T84 (mkF m 83 #[vR a1, vI 0, vI 2, vR at_, vI 1, vI eb0, vJ ((et0.toInt64) - (eb0.toInt64)), .second, s8_46, s9_46, s10_46] [(.ref ol)]) _
      refine XS.iload X84.here hx rfl (bb d10_83) rfl ?_
      refine XS.aloadN X84.here hx rfl (bb d10_85) rfl rfl ?_
      refine XS.iload X84.here hx rfl (bb d10_86) rfl ?_
      refine X84.iaload hx (j := (1 : Int32)) (v := (.int et1)) (by rw [e84]; exact Ar87.1) (State.isArrayOf_alike hZ.alike Ar87.2.1) Ar87.2.2 hin87 (vH87.at hin87 rfl) (g := (mkF m 88 #[vR a1, vI 0, vI 2, vR at_, vI 1, vI eb0, vJ ((et0.toInt64) - (eb0.toInt64)), .second, s8_46, s9_46, s10_46] [(.int 1), (.ref at_), (.int 1), (.ref ol)])) rfl rfl (bb d10_88) _ ?_
      show GG p e below T84 (mkF m 89 #[vR a1, vI 0, vI 2, vR at_, vI 1, vI eb0, vJ ((et0.toInt64) - (eb0.toInt64)), .second, s8_46, s9_46, s10_46] [(.int et1), (.int 1), (.ref ol)]) _
      refine XS.aloadN X84.here hx rfl (bb d10_89) rfl rfl ?_
      refine st88 _ ?_
      show GG p e below T88 (mkF m 93 #[vR a1, vI 0, vI 2, vR at_, vI 1, vI eb0, vJ ((et0.toInt64) - (eb0.toInt64)), .second, s8_46, s9_46, s10_46] [(.ref ol), (.int et1), (.int 1), (.ref ol)]) _
      refine XS.iload X88.here hx rfl (bb d10_93) rfl ?_
      refine X88.iaload hx (j := (1 : Int32)) (v := (.int el1)) (by rw [e88]; exact Ar90.1) (State.isArrayOf_alike hZ.alike Ar90.2.1) Ar90.2.2 hin90 (vH90.at hin90 rfl) (g := (mkF m 95 #[vR a1, vI 0, vI 2, vR at_, vI 1, vI eb0, vJ ((et0.toInt64) - (eb0.toInt64)), .second, s8_46, s9_46, s10_46] [(.int 1), (.ref ol), (.int et1), (.int 1), (.ref ol)])) rfl rfl (bb d10_95) _ ?_
      show GG p e below T88 (mkF m 96 #[vR a1, vI 0, vI 2, vR at_, vI 1, vI eb0, vJ ((et0.toInt64) - (eb0.toInt64)), .second, s8_46, s9_46, s10_46] [(.int el1), (.int et1), (.int 1), (.ref ol)]) _
      refine st91 _ ?_
      show GG p e below T91 (mkF m 99 #[vR a1, vI 0, vI 2, vR at_, vI 1, vI eb0, vJ ((et0.toInt64) - (eb0.toInt64)), .second, s8_46, s9_46, s10_46] [(.int (f_minI et1 el1)), (.int 1), (.ref ol)]) _
      refine st93 _ ?_
      show GG p e below T93 (mkF m 100 #[vR a1, vI 0, vI 2, vR at_, vI 1, vI eb0, vJ ((et0.toInt64) - (eb0.toInt64)), .second, s8_46, s9_46, s10_46] []) _
      refine XS.aloadN X93.here hx rfl (bb d10_100) rfl rfl ?_
      refine st94 _ ?_
      show GG p e below T94 (mkF m 104 #[vR a1, vI 0, vI 2, vR at_, vI 1, vI eb0, vJ ((et0.toInt64) - (eb0.toInt64)), .second, s8_46, s9_46, s10_46] [(.ref oh)]) _
      refine XS.iload X94.here hx rfl (bb d10_104) rfl ?_
      refine XS.aloadN X94.here hx rfl (bb d10_106) rfl rfl ?_
      refine XS.iload X94.here hx rfl (bb d10_107) rfl ?_
      refine X94.iaload hx (j := (1 : Int32)) (v := (.int et1)) (by rw [e94]; exact Ar97.1) (State.isArrayOf_alike hZ.alike Ar97.2.1) Ar97.2.2 hin97 (vH97.at hin97 rfl) (g := (mkF m 109 #[vR a1, vI 0, vI 2, vR at_, vI 1, vI eb0, vJ ((et0.toInt64) - (eb0.toInt64)), .second, s8_46, s9_46, s10_46] [(.int 1), (.ref at_), (.int 1), (.ref oh)])) rfl rfl (bb d10_109) _ ?_
      show GG p e below T94 (mkF m 110 #[vR a1, vI 0, vI 2, vR at_, vI 1, vI eb0, vJ ((et0.toInt64) - (eb0.toInt64)), .second, s8_46, s9_46, s10_46] [(.int et1), (.int 1), (.ref oh)]) _
      refine XS.aloadN X94.here hx rfl (bb d10_110) rfl rfl ?_
      refine st98 _ ?_
      show GG p e below T98 (mkF m 114 #[vR a1, vI 0, vI 2, vR at_, vI 1, vI eb0, vJ ((et0.toInt64) - (eb0.toInt64)), .second, s8_46, s9_46, s10_46] [(.ref oh), (.int et1), (.int 1), (.ref oh)]) _
      refine XS.iload X98.here hx rfl (bb d10_114) rfl ?_
      refine X98.iaload hx (j := (1 : Int32)) (v := (.int eu1)) (by rw [e98]; exact Ar100.1) (State.isArrayOf_alike hZ.alike Ar100.2.1) Ar100.2.2 hin100 (vH100.at hin100 rfl) (g := (mkF m 116 #[vR a1, vI 0, vI 2, vR at_, vI 1, vI eb0, vJ ((et0.toInt64) - (eb0.toInt64)), .second, s8_46, s9_46, s10_46] [(.int 1), (.ref oh), (.int et1), (.int 1), (.ref oh)])) rfl rfl (bb d10_116) _ ?_
      show GG p e below T98 (mkF m 117 #[vR a1, vI 0, vI 2, vR at_, vI 1, vI eb0, vJ ((et0.toInt64) - (eb0.toInt64)), .second, s8_46, s9_46, s10_46] [(.int eu1), (.int et1), (.int 1), (.ref oh)]) _
      refine st101 _ ?_
      show GG p e below T101 (mkF m 120 #[vR a1, vI 0, vI 2, vR at_, vI 1, vI eb0, vJ ((et0.toInt64) - (eb0.toInt64)), .second, s8_46, s9_46, s10_46] [(.int (f_maxI et1 eu1)), (.int 1), (.ref oh)]) _
      refine st103 _ ?_
      show GG p e below T103 (mkF m 121 #[vR a1, vI 0, vI 2, vR at_, vI 1, vI eb0, vJ ((et0.toInt64) - (eb0.toInt64)), .second, s8_46, s9_46, s10_46] []) _
      refine XS.aloadN X103.here hx rfl (bb d10_121) rfl rfl ?_
      refine st104 _ ?_
      show GG p e below T104 (mkF m 125 #[vR a1, vI 0, vI 2, vR at_, vI 1, vI eb0, vJ ((et0.toInt64) - (eb0.toInt64)), .second, s8_46, s9_46, s10_46] [(.ref ob)]) _
      refine XS.iloadN X104.here hx rfl (bb d10_125) rfl ?_
      refine XS.aloadN X104.here hx rfl (bb d10_126) rfl rfl ?_
      refine st106 _ ?_
      show GG p e below T106 (mkF m 130 #[vR a1, vI 0, vI 2, vR at_, vI 1, vI eb0, vJ ((et0.toInt64) - (eb0.toInt64)), .second, s8_46, s9_46, s10_46] [(.int 2), (.int 0), (.ref ob)]) _
      refine XS.imul X106.here hx rfl (bb d10_130) rfl ?_
      refine XS.iload X106.here hx rfl (bb d10_131) rfl ?_
      refine XS.iadd X106.here hx rfl (bb d10_133) rfl ?_
      refine X106.iaload hx (j := (1 : Int32)) (v := (.int eb1)) (by rw [e106]; exact Ar109.1) (State.isArrayOf_alike hZ.alike Ar109.2.1) Ar109.2.2 hin109 (vH109.at hin109 rfl) (g := (mkF m 134 #[vR a1, vI 0, vI 2, vR at_, vI 1, vI eb0, vJ ((et0.toInt64) - (eb0.toInt64)), .second, s8_46, s9_46, s10_46] [(.int 1), (.ref ob)])) rfl rfl (bb d10_134) _ ?_
      show GG p e below T106 (mkF m 135 #[vR a1, vI 0, vI 2, vR at_, vI 1, vI eb0, vJ ((et0.toInt64) - (eb0.toInt64)), .second, s8_46, s9_46, s10_46] [(.int eb1)]) _
      refine XS.istore X106.here hx rfl (bb d10_135) rfl (l' := #[vR a1, vI 0, vI 2, vR at_, vI 1, vI eb1, vJ ((et0.toInt64) - (eb0.toInt64)), .second, s8_46, s9_46, s10_46]) rfl ?_
      show GG p e below T106 (mkF m 137 #[vR a1, vI 0, vI 2, vR at_, vI 1, vI eb1, vJ ((et0.toInt64) - (eb0.toInt64)), .second, s8_46, s9_46, s10_46] []) _
      refine XS.aloadN X106.here hx rfl (bb d10_137) rfl rfl ?_
      refine XS.iload X106.here hx rfl (bb d10_138) rfl ?_
      refine X106.iaload hx (j := (1 : Int32)) (v := (.int et1)) (by rw [e106]; exact Ar111.1) (State.isArrayOf_alike hZ.alike Ar111.2.1) Ar111.2.2 hin111 (vH111.at hin111 rfl) (g := (mkF m 140 #[vR a1, vI 0, vI 2, vR at_, vI 1, vI eb1, vJ ((et0.toInt64) - (eb0.toInt64)), .second, s8_46, s9_46, s10_46] [(.int 1), (.ref at_)])) rfl rfl (bb d10_140) _ ?_
      show GG p e below T106 (mkF m 141 #[vR a1, vI 0, vI 2, vR at_, vI 1, vI eb1, vJ ((et0.toInt64) - (eb0.toInt64)), .second, s8_46, s9_46, s10_46] [(.int et1)]) _
      refine XS.i2l X106.here hx rfl (bb d10_141) rfl ?_
      refine XS.iload X106.here hx rfl (bb d10_142) rfl ?_
      refine XS.i2l X106.here hx rfl (bb d10_144) rfl ?_
      refine XS.lsub X106.here hx rfl (bb d10_145) rfl ?_
      show GG p e below T106 (mkF m 146 #[vR a1, vI 0, vI 2, vR at_, vI 1, vI eb1, vJ ((et0.toInt64) - (eb0.toInt64)), .second, s8_46, s9_46, s10_46] [(.long ((et1.toInt64) - (eb1.toInt64)))]) _
      refine XS.lstore X106.here hx rfl (bb d10_146) rfl (l' := #[vR a1, vI 0, vI 2, vR at_, vI 1, vI eb1, vJ ((et1.toInt64) - (eb1.toInt64)), .second, s8_46, s9_46, s10_46]) rfl ?_
      exact k)
  obtain ⟨T113, L113, h113, s8_113, s9_113, s10_113, X113, e113, N113, K113, f113_0, f113_1, o_s8_113, o_s9_113, o_s10_113, pre113⟩ : ∃ (T' : State) (L' : List Loc) (h' : Heap) (s8_113 : Slot) (s9_113 : Slot) (s10_113 : Slot), Stand p l e ({ frames := 2, cells := 0, slots := 0, locals := 30 } : Room) s m #[(.ref a1), (.int 0), (.int 2), (.ref at_)] below meth c T' L' 0 0 ∧ T'.heap = h' ∧ Fr n0 L' ∧ Keep h103 h' [ob, ov] ∧ Arv Z h' ob kb_ .int (2 : Int32) [(.int (nbase eb0 el0 eu0 et0)), (.int (nbase eb1 el1 eu1 et1))] (.int 0) ∧ Arv Z h' ov kv_ .char (16 : Int32) [(.int (nar .char (ev0_0 - (nbase eb0 el0 eu0 et0)))), (.int (nar .char (ev0_1 - (nbase eb1 el1 eu1 et1)))), (.int (nar .char (ev1_0 - (nbase eb0 el0 eu0 et0)))), (.int (nar .char (ev1_1 - (nbase eb1 el1 eu1 et1)))), (.int ex4), (.int ex5), (.int ex6), (.int ex7), (.int ex8), (.int ex9), (.int ex10), (.int ex11), (.int ex12), (.int ex13), (.int ex14), (.int ex15)] (.int 0) ∧ One s8_113 ∧ One s9_113 ∧ One s10_113 ∧ ∀ t, GG p e below T' (mkF m 249 #[vR a1, vI 0, vI 2, vR at_, vI 1, vI eb1, vJ ((et1.toInt64) - (eb1.toInt64)), .second, s8_113, s9_113, s10_113] []) t → GG p e below s₁ (entryFrame m #[(.ref a1), (.int 0), (.int 2), (.ref at_)] 11) t := by
    by_cases g113 : ((lcmpW ((et1.toInt64) - (eb1.toInt64)) (0 : Int64)) < (0 : Int32)) ∨ ¬ ((lcmpW ((et1.toInt64) - (eb1.toInt64)) (65536 : Int64)) < (0 : Int32))
    · skip
      obtain ⟨T114, L114, X114, e114, N114, pre114⟩ : ∃ (T' : State) (L' : List Loc), Stand p l e ({ frames := 2, cells := 0, slots := 0, locals := 30 } : Room) s m #[(.ref a1), (.int 0), (.int 2), (.ref at_)] below meth c T' L' 0 0 ∧ T'.heap = h103 ∧ Fr n0 L' ∧ ∀ t, Steps p.tables e below (T'.setTop (mkF m 164 #[vR a1, vI 0, vI 2, vR at_, vI 1, vI eb1, vJ ((et1.toInt64) - (eb1.toInt64)), .second, s8_46, s9_46, s10_46] [])) t → Steps p.tables e below (s₁.setTop (entryFrame m #[(.ref a1), (.int 0), (.int 2), (.ref at_)] 11)) t := by
        have pre115 : ∀ t, GG p e below T106 (mkF m 152 #[vR a1, vI 0, vI 2, vR at_, vI 1, vI eb1, vJ ((et1.toInt64) - (eb1.toInt64)), .second, s8_46, s9_46, s10_46] [(.int (lcmpW ((et1.toInt64) - (eb1.toInt64)) (0 : Int64)))]) t → GG p e below s₁ (entryFrame m #[(.ref a1), (.int 0), (.int 2), (.ref at_)] 11) t := fun t k => pre112 t (by
            show GG p e below T106 (mkF m 148 #[vR a1, vI 0, vI 2, vR at_, vI 1, vI eb1, vJ ((et1.toInt64) - (eb1.toInt64)), .second, s8_46, s9_46, s10_46] []) _
            refine XS.lload X106.here hx rfl (bb d10_148) rfl ?_
            refine XS.lconst X106.here hx rfl (bb d10_150) ?_
            refine XS.lcmp X106.here hx rfl (bb d10_151) rfl ?_
            exact k)
        by_cases g116 : (lcmpW ((et1.toInt64) - (eb1.toInt64)) (0 : Int64)) < (0 : Int32)
        · skip
          exact ⟨T106, _, X106, e106, N103, fun t k => pre115 t (by
              show GG p e below T106 (mkF m 152 #[vR a1, vI 0, vI 2, vR at_, vI 1, vI eb1, vJ ((et1.toInt64) - (eb1.toInt64)), .second, s8_46, s9_46, s10_46] [(.int (lcmpW ((et1.toInt64) - (eb1.toInt64)) (0 : Int64)))]) _
              refine XS.ifYes X106.here hx rfl (pc0 := 152) (pc' := 164) rfl (bb d10_152) rfl ((if0 _ _).trans (tlt g116).1) (by decide) (by decide) ?_
              exact k)⟩
        · skip
          exact ⟨T106, _, X106, e106, N103, fun t k => pre115 t (by
              show GG p e below T106 (mkF m 152 #[vR a1, vI 0, vI 2, vR at_, vI 1, vI eb1, vJ ((et1.toInt64) - (eb1.toInt64)), .second, s8_46, s9_46, s10_46] [(.int (lcmpW ((et1.toInt64) - (eb1.toInt64)) (0 : Int64)))]) _
              refine XS.ifNo X106.here hx rfl (bb d10_152) rfl ((if0 _ _).trans (flt g116).1) ?_
              refine XS.lload X106.here hx rfl (bb d10_155) rfl ?_
              refine X106.ldc2Long hx hown (mvT hZ (wd74 hw)) (g := (mkF m 157 #[vR a1, vI 0, vI 2, vR at_, vI 1, vI eb1, vJ ((et1.toInt64) - (eb1.toInt64)), .second, s8_46, s9_46, s10_46] [(.long ((et1.toInt64) - (eb1.toInt64)))])) rfl (bb d10_157) _ ?_
              show GG p e below T106 (mkF m 160 #[vR a1, vI 0, vI 2, vR at_, vI 1, vI eb1, vJ ((et1.toInt64) - (eb1.toInt64)), .second, s8_46, s9_46, s10_46] [(.long 65536), (.long ((et1.toInt64) - (eb1.toInt64)))]) _
              refine XS.lcmp X106.here hx rfl (bb d10_160) rfl ?_
              show GG p e below T106 (mkF m 161 #[vR a1, vI 0, vI 2, vR at_, vI 1, vI eb1, vJ ((et1.toInt64) - (eb1.toInt64)), .second, s8_46, s9_46, s10_46] [(.int (lcmpW ((et1.toInt64) - (eb1.toInt64)) (65536 : Int64)))]) _
              refine XS.ifNo X106.here hx rfl (bb d10_161) rfl ((if0 _ _).trans (flt (g113.resolve_left g116)).1) ?_
              exact k)⟩
      have F118 := ((F85.other W93 (Or.inl ne_a1_ol)).other W103 (Or.inl ne_a1_oh))
      obtain ⟨T117, X117, e117, st117⟩ := getF X114 hx hZ hown (host := "") (Or.inl (wd27 hw)) Via.refl e114 F118 (g := (mkF m 165 #[vR a1, vI 0, vI 2, vR at_, vI 1, vI eb1, vJ ((et1.toInt64) - (eb1.toInt64)), .second, s8_46, s9_46, s10_46] [(.ref a1)])) rfl rfl (bb d10_165)
      have F119 := (V93.other W103 ne_ol_oh)
      obtain ⟨cl120, Ar120, vq120, vS120, vN120, vH120, vG120⟩ := id F119
      have hin120 : ¬ (((1 : Int32) : Int32) < 0 ∨ cl120.slots.size ≤ ((1 : Int32) : Int32).toNatClampNeg) := inb_of vS120 ⟨by decide, by decide⟩
      have F122 := (F95.other W103 (Or.inl ne_a1_oh))
      obtain ⟨T121, X121, e121, st121⟩ := getF X117 hx hZ hown (host := "") (Or.inl (wd29 hw)) Via.refl e117 F122 (g := (mkF m 172 #[vR a1, vI 0, vI 2, vR at_, vI 1, vI eb1, vJ ((et1.toInt64) - (eb1.toInt64)), .second, s8_46, s9_46, s10_46] [(.ref a1), (.int (f_minI et1 el1))])) rfl rfl (bb d10_172)
      obtain ⟨cl123, Ar123, vq123, vS123, vN123, vH123, vG123⟩ := id V103
      have hin123 : ¬ (((1 : Int32) : Int32) < 0 ∨ cl123.slots.size ≤ ((1 : Int32) : Int32).toNatClampNeg) := inb_of vS123 ⟨by decide, by decide⟩
      have O125 := (O102.wr W103 g_oh)
      obtain ⟨_, _, ⟨T124, L124, k124, n124⟩, -, X124, ⟨Lc124, hQ124, l124, y124, z124⟩, st124⟩ := Jvm.LawKit.callS X121 hx (y := (⟨cRV, "base", "(II)I"⟩ : MethodName)) hown (mvT hZ (wd46 hw)) (mvT hZ (wd47 hw)) (mvT hZ (wd8 hw)) (mvT hZ (wd48 hw)) (by decide) (backOf (W := 0) (rm_base l Z a0 hw [] (f_minI et1 el1) (f_maxI et1 eu1) h103 n0 (own_z0 O125) O125 S_CS) hZ (wd48 hw) (wd8 hw) (by decide) (by decide)) (g := (mkF m 178 #[vR a1, vI 0, vI 2, vR at_, vI 1, vI eb1, vJ ((et1.toInt64) - (eb1.toInt64)), .second, s8_46, s9_46, s10_46] [(.int (f_maxI et1 eu1)), (.int (f_minI et1 el1))])) rfl (by rw [hml]; rfl) (argsL := [(.int (f_minI et1 el1)), (.int (f_maxI et1 eu1))]) (rest := []) (lenOf pd__II_I_5 rfl) rfl (by show 2 * 0 + _ ≤ _; exact Nat.le_of_eq rfl) (bb d10_178) (fun _ _ => ⟨rfl, e121, (by decide : 0 + 0 ≤ _), (by decide : 0 + 0 ≤ _)⟩)
      dsimp only [Pt.U, Pt.locs, Pt.cells, Pt.slots] at X124 l124 y124 z124 st124 hQ124
      subst l124 y124 z124
      obtain ⟨rfl, N124q, e124⟩ := hQ124
      have N124 := Fr.app N114 N124q
      have F127 := (((((r4.other W26 (Or.inl ne_a1_ol)).other W36 (Or.inl ne_a1_oh)).keep K46 (ninS ne_a1_ob (ninS ne_a1_ov nin0))).other W93 (Or.inl ne_a1_ol)).other W103 (Or.inl ne_a1_oh))
      obtain ⟨T126, X126, e126, st126⟩ := getF X124 hx hZ hown (host := "") (Or.inl (wd21 hw)) Via.refl e124 F127 (g := (mkF m 184 #[vR a1, vI 0, vI 2, vR at_, vI 1, vI eb1, vJ ((et1.toInt64) - (eb1.toInt64)), .second, vI (f_base (f_minI et1 el1) (f_maxI et1 eu1)), s9_46, s10_46] [(.ref a1)])) rfl rfl (bb d10_184)
      have F128 := (((((r10.other W26 ne_on_ol).other W36 ne_on_oh).keep K46 (ninS ne_on_ob (ninS ne_on_ov nin0))).other W93 ne_on_ol).other W103 ne_on_oh)
      obtain ⟨cl129, Ar129, vq129, vS129, vN129, vH129, vG129⟩ := id F128
      have hin129 : ¬ (((0 : Int32) : Int32) < 0 ∨ cl129.slots.size ≤ ((0 : Int32) : Int32).toNatClampNeg) := inb_of vS129 ⟨by decide, by decide⟩
      obtain ⟨T130, X130, e130, st130⟩ := getF X126 hx hZ hown (host := "") (Or.inl (wd23 hw)) Via.refl e126 F107 (g := (mkF m 199 #[vR a1, vI 0, vI 2, vR at_, vI 1, vI eb1, vJ ((et1.toInt64) - (eb1.toInt64)), .second, vI (f_base (f_minI et1 el1) (f_maxI et1 eu1)), vR ov, vI 1] [(.ref a1), (.int 2), (.int 1)])) rfl rfl (bb d10_199)
      have F131 := ((f46_1.other W93 (Ne.symm ne_ol_ov)).other W103 (Ne.symm ne_oh_ov))
      obtain ⟨cl132, Ar132, vq132, vS132, vN132, vH132, vG132⟩ := id F131
      have hin132 : ¬ (((1 : Int32) : Int32) < 0 ∨ cl132.slots.size ≤ ((1 : Int32) : Int32).toNatClampNeg) := inb_of vS132 ⟨by decide, by decide⟩
      obtain ⟨cl133, Ar133, vq133, vS133, vN133, vH133, vG133⟩ := id F131
      have hin133 : ¬ (((1 : Int32) : Int32) < 0 ∨ cl133.slots.size ≤ ((1 : Int32) : Int32).toNatClampNeg) := inb_of vS133 ⟨by decide, by decide⟩
      obtain ⟨T133, h133, X133, e133, W133, st133⟩ := stC X130 hx hZ e130 Ar133 (j := (1 : Int32)) hin133 (g := (mkF m 220 #[vR a1, vI 0, vI 2, vR at_, vI 1, vI eb1, vJ ((et1.toInt64) - (eb1.toInt64)), .second, vI (f_base (f_minI et1 el1) (f_maxI et1 eu1)), vR ov, vI 1] [(.int (((nar .char (ev0_1 - eb1)) + ((eb1 - (f_base (f_minI et1 el1) (f_maxI et1 eu1))).toUInt32.toUInt16.toUInt32.toInt32)).toUInt32.toUInt16.toUInt32.toInt32)), (.int 1), (.ref ov)])) rfl rfl (bb d10_220)
      have V133 : Arv Z h133 ov kv_ .char (16 : Int32) [(.int (nar .char (ev0_0 - (nbase eb0 el0 eu0 et0)))), (.int (nar .char (((nar .char (ev0_1 - eb1)) + ((eb1 - (f_base (f_minI et1 el1) (f_maxI et1 eu1))).toUInt32.toUInt16.toUInt32.toInt32)).toUInt32.toUInt16.toUInt32.toInt32))), (.int (nar .char (ev1_0 - (nbase eb0 el0 eu0 et0)))), (.int (nar .char (ev1_1 - eb1))), (.int ex4), (.int ex5), (.int ex6), (.int ex7), (.int ex8), (.int ex9), (.int ex10), (.int ex11), (.int ex12), (.int ex13), (.int ex14), (.int ex15)] (.int 0) := Arv.set Ar133 vq133 vS133 vN133 vH133 vG133 (fits_nar_char _) W133 1 rfl (Nat.le_of_ble_eq_true rfl)
      have N133 := Fr.snoc X133 N124 g_ov
      have F135 := (F107.other W133 (Or.inl ne_a1_ov))
      obtain ⟨T134, X134, e134, st134⟩ := getF X133 hx hZ hown (host := "") (Or.inl (wd23 hw)) Via.refl e133 F135 (g := (mkF m 224 #[vR a1, vI 0, vI 2, vR at_, vI 1, vI eb1, vJ ((et1.toInt64) - (eb1.toInt64)), .second, vI (f_base (f_minI et1 el1) (f_maxI et1 eu1)), vR ov, vI 1] [(.ref a1), (.int 1)])) rfl rfl (bb d10_224)
      obtain ⟨T136, X136, e136, st136⟩ := getF X134 hx hZ hown (host := "") (Or.inl (wd23 hw)) Via.refl e134 F135 (g := (mkF m 199 #[vR a1, vI 0, vI 2, vR at_, vI 1, vI eb1, vJ ((et1.toInt64) - (eb1.toInt64)), .second, vI (f_base (f_minI et1 el1) (f_maxI et1 eu1)), vR ov, vI 3] [(.ref a1), (.int 2), (.int 3)])) rfl rfl (bb d10_199)
      obtain ⟨cl137, Ar137, vq137, vS137, vN137, vH137, vG137⟩ := id V133
      have hin137 : ¬ (((3 : Int32) : Int32) < 0 ∨ cl137.slots.size ≤ ((3 : Int32) : Int32).toNatClampNeg) := inb_of vS137 ⟨by decide, by decide⟩
      obtain ⟨cl138, Ar138, vq138, vS138, vN138, vH138, vG138⟩ := id V133
      have hin138 : ¬ (((3 : Int32) : Int32) < 0 ∨ cl138.slots.size ≤ ((3 : Int32) : Int32).toNatClampNeg) := inb_of vS138 ⟨by decide, by decide⟩
      obtain ⟨T138, h138, X138, e138, W138, st138⟩ := stC X136 hx hZ e136 Ar138 (j := (3 : Int32)) hin138 (g := (mkF m 220 #[vR a1, vI 0, vI 2, vR at_, vI 1, vI eb1, vJ ((et1.toInt64) - (eb1.toInt64)), .second, vI (f_base (f_minI et1 el1) (f_maxI et1 eu1)), vR ov, vI 3] [(.int (((nar .char (ev1_1 - eb1)) + ((eb1 - (f_base (f_minI et1 el1) (f_maxI et1 eu1))).toUInt32.toUInt16.toUInt32.toInt32)).toUInt32.toUInt16.toUInt32.toInt32)), (.int 3), (.ref ov)])) rfl rfl (bb d10_220)
      have V138 : Arv Z h138 ov kv_ .char (16 : Int32) [(.int (nar .char (ev0_0 - (nbase eb0 el0 eu0 et0)))), (.int (nar .char (((nar .char (ev0_1 - eb1)) + ((eb1 - (f_base (f_minI et1 el1) (f_maxI et1 eu1))).toUInt32.toUInt16.toUInt32.toInt32)).toUInt32.toUInt16.toUInt32.toInt32))), (.int (nar .char (ev1_0 - (nbase eb0 el0 eu0 et0)))), (.int (nar .char (((nar .char (ev1_1 - eb1)) + ((eb1 - (f_base (f_minI et1 el1) (f_maxI et1 eu1))).toUInt32.toUInt16.toUInt32.toInt32)).toUInt32.toUInt16.toUInt32.toInt32))), (.int ex4), (.int ex5), (.int ex6), (.int ex7), (.int ex8), (.int ex9), (.int ex10), (.int ex11), (.int ex12), (.int ex13), (.int ex14), (.int ex15)] (.int 0) := Arv.set Ar138 vq138 vS138 vN138 vH138 vG138 (fits_nar_char _) W138 3 rfl (Nat.le_of_ble_eq_true rfl)
      have N138 := Fr.snoc X138 N133 g_ov
      have F140 := (F135.other W138 (Or.inl ne_a1_ov))
      obtain ⟨T139, X139, e139, st139⟩ := getF X138 hx hZ hown (host := "") (Or.inl (wd23 hw)) Via.refl e138 F140 (g := (mkF m 224 #[vR a1, vI 0, vI 2, vR at_, vI 1, vI eb1, vJ ((et1.toInt64) - (eb1.toInt64)), .second, vI (f_base (f_minI et1 el1) (f_maxI et1 eu1)), vR ov, vI 3] [(.ref a1), (.int 3)])) rfl rfl (bb d10_224)
      obtain ⟨T141, X141, e141, st141⟩ := getF X139 hx hZ hown (host := "") (Or.inl (wd23 hw)) Via.refl e139 F140 (g := (mkF m 199 #[vR a1, vI 0, vI 2, vR at_, vI 1, vI eb1, vJ ((et1.toInt64) - (eb1.toInt64)), .second, vI (f_base (f_minI et1 el1) (f_maxI et1 eu1)), vR ov, vI 5] [(.ref a1), (.int 2), (.int 5)])) rfl rfl (bb d10_199)
      have F143 := ((F105.other W133 (Or.inl ne_a1_ov)).other W138 (Or.inl ne_a1_ov))
      obtain ⟨T142, X142, e142, st142⟩ := getF X141 hx hZ hown (host := "") (Or.inl (wd25 hw)) Via.refl e141 F143 (g := (mkF m 234 #[vR a1, vI 0, vI 2, vR at_, vI 1, vI eb1, vJ ((et1.toInt64) - (eb1.toInt64)), .second, vI (f_base (f_minI et1 el1) (f_maxI et1 eu1)), vR ov, vI 5] [(.ref a1)])) rfl rfl (bb d10_234)
      obtain ⟨T144, X144, e144, st144⟩ := getF X142 hx hZ hown (host := "") (Or.inl (wd23 hw)) Via.refl e142 F140 (g := (mkF m 239 #[vR a1, vI 0, vI 2, vR at_, vI 1, vI eb1, vJ ((et1.toInt64) - (eb1.toInt64)), .second, vI (f_base (f_minI et1 el1) (f_maxI et1 eu1)), vR ov, vI 5] [(.ref a1), (.int 0), (.ref ob)])) rfl rfl (bb d10_239)
      have F145 := ((F108.other W133 ne_ob_ov).other W138 ne_ob_ov)
      obtain ⟨cl146, Ar146, vq146, vS146, vN146, vH146, vG146⟩ := id F145
      have hin146 : ¬ (((1 : Int32) : Int32) < 0 ∨ cl146.slots.size ≤ ((1 : Int32) : Int32).toNatClampNeg) := inb_of vS146 ⟨by decide, by decide⟩
      obtain ⟨T146, h146, X146, e146, W146, st146⟩ := stI X144 hx hZ e144 Ar146 (j := (1 : Int32)) hin146 (g := (mkF m 248 #[vR a1, vI 0, vI 2, vR at_, vI 1, vI eb1, vJ ((et1.toInt64) - (eb1.toInt64)), .second, vI (f_base (f_minI et1 el1) (f_maxI et1 eu1)), vR ov, vI 5] [(.int (f_base (f_minI et1 el1) (f_maxI et1 eu1))), (.int 1), (.ref ob)])) rfl rfl (bb d10_248)
      have V146 : Arv Z h146 ob kb_ .int (2 : Int32) [(.int (nbase eb0 el0 eu0 et0)), (.int (f_base (f_minI et1 el1) (f_maxI et1 eu1)))] (.int 0) := Arv.set Ar146 vq146 vS146 vN146 vH146 vG146 rfl W146 1 rfl (Nat.le_of_ble_eq_true rfl)
      have N146 := Fr.snoc X146 N138 g_ob
      have F147 := (V138.other W146 (Ne.symm ne_ob_ov))
      refine ⟨T146, _, h146, (vI (f_base (f_minI et1 el1) (f_maxI et1 eu1))), (vR ov), (vI 5), X146, e146, N146, ((((Keep.refl h103 [ob, ov]).wr W133 (Or.inl (List.mem_of_getElem? (i := 1) rfl))).wr W138 (Or.inl (List.mem_of_getElem? (i := 1) rfl))).wr W146 (Or.inl (List.mem_of_getElem? (i := 0) rfl))), (by simp only [nbase, if_pos g113]; exact V146), (by simp only [nbase, if_pos g113]; have q := F147; simp only [own_ch] at q; exact q), (One.val rfl), (One.val rfl), (One.val rfl), fun t k => pre114 t ?_⟩
      show GG p e below T114 (mkF m 164 #[vR a1, vI 0, vI 2, vR at_, vI 1, vI eb1, vJ ((et1.toInt64) - (eb1.toInt64)), .second, s8_46, s9_46, s10_46] []) _
      refine XS.aloadN X114.here hx rfl (bb d10_164) rfl rfl ?_
      refine st117 _ ?_
      show GG p e below T117 (mkF m 168 #[vR a1, vI 0, vI 2, vR at_, vI 1, vI eb1, vJ ((et1.toInt64) - (eb1.toInt64)), .second, s8_46, s9_46, s10_46] [(.ref ol)]) _
      refine XS.iload X117.here hx rfl (bb d10_168) rfl ?_
      refine X117.iaload hx (j := (1 : Int32)) (v := (.int (f_minI et1 el1))) (by rw [e117]; exact Ar120.1) (State.isArrayOf_alike hZ.alike Ar120.2.1) Ar120.2.2 hin120 (vH120.at hin120 rfl) (g := (mkF m 170 #[vR a1, vI 0, vI 2, vR at_, vI 1, vI eb1, vJ ((et1.toInt64) - (eb1.toInt64)), .second, s8_46, s9_46, s10_46] [(.int 1), (.ref ol)])) rfl rfl (bb d10_170) _ ?_
      show GG p e below T117 (mkF m 171 #[vR a1, vI 0, vI 2, vR at_, vI 1, vI eb1, vJ ((et1.toInt64) - (eb1.toInt64)), .second, s8_46, s9_46, s10_46] [(.int (f_minI et1 el1))]) _
      refine XS.aloadN X117.here hx rfl (bb d10_171) rfl rfl ?_
      refine st121 _ ?_
      show GG p e below T121 (mkF m 175 #[vR a1, vI 0, vI 2, vR at_, vI 1, vI eb1, vJ ((et1.toInt64) - (eb1.toInt64)), .second, s8_46, s9_46, s10_46] [(.ref oh), (.int (f_minI et1 el1))]) _
      refine XS.iload X121.here hx rfl (bb d10_175) rfl ?_
      refine X121.iaload hx (j := (1 : Int32)) (v := (.int (f_maxI et1 eu1))) (by rw [e121]; exact Ar123.1) (State.isArrayOf_alike hZ.alike Ar123.2.1) Ar123.2.2 hin123 (vH123.at hin123 rfl) (g := (mkF m 177 #[vR a1, vI 0, vI 2, vR at_, vI 1, vI eb1, vJ ((et1.toInt64) - (eb1.toInt64)), .second, s8_46, s9_46, s10_46] [(.int 1), (.ref oh), (.int (f_minI et1 el1))])) rfl rfl (bb d10_177) _ ?_
      show GG p e below T121 (mkF m 178 #[vR a1, vI 0, vI 2, vR at_, vI 1, vI eb1, vJ ((et1.toInt64) - (eb1.toInt64)), .second, s8_46, s9_46, s10_46] [(.int (f_maxI et1 eu1)), (.int (f_minI et1 el1))]) _
      refine st124 _ ?_
      show GG p e below T124 (mkF m 181 #[vR a1, vI 0, vI 2, vR at_, vI 1, vI eb1, vJ ((et1.toInt64) - (eb1.toInt64)), .second, s8_46, s9_46, s10_46] [(.int (f_base (f_minI et1 el1) (f_maxI et1 eu1)))]) _
      refine XS.istoreS X124.here hx rfl (bb d10_181) rfl rfl o_s8_46 ?_
      show GG p e below T124 (mkF m 183 #[vR a1, vI 0, vI 2, vR at_, vI 1, vI eb1, vJ ((et1.toInt64) - (eb1.toInt64)), .second, vI (f_base (f_minI et1 el1) (f_maxI et1 eu1)), s9_46, s10_46] []) _
      refine XS.aloadN X124.here hx rfl (bb d10_183) rfl rfl ?_
      refine st126 _ ?_
      show GG p e below T126 (mkF m 187 #[vR a1, vI 0, vI 2, vR at_, vI 1, vI eb1, vJ ((et1.toInt64) - (eb1.toInt64)), .second, vI (f_base (f_minI et1 el1) (f_maxI et1 eu1)), s9_46, s10_46] [(.ref on)]) _
      refine XS.iloadN X126.here hx rfl (bb d10_187) rfl ?_
      refine X126.aaload hx (j := (0 : Int32)) (v := (.ref ov)) (by rw [e126]; exact Ar129.1) (State.isArrayOf_alike hZ.alike Ar129.2.1) rfl Ar129.2.2 hin129 (vH129.at hin129 rfl) (g := (mkF m 188 #[vR a1, vI 0, vI 2, vR at_, vI 1, vI eb1, vJ ((et1.toInt64) - (eb1.toInt64)), .second, vI (f_base (f_minI et1 el1) (f_maxI et1 eu1)), s9_46, s10_46] [(.int 0), (.ref on)])) rfl rfl (bb d10_188) _ ?_
      show GG p e below T126 (mkF m 189 #[vR a1, vI 0, vI 2, vR at_, vI 1, vI eb1, vJ ((et1.toInt64) - (eb1.toInt64)), .second, vI (f_base (f_minI et1 el1) (f_maxI et1 eu1)), s9_46, s10_46] [(.ref ov)]) _
      refine XS.astoreS X126.here hx rfl (bb d10_189) rfl rfl rfl rfl o_s9_46 ?_
      show GG p e below T126 (mkF m 191 #[vR a1, vI 0, vI 2, vR at_, vI 1, vI eb1, vJ ((et1.toInt64) - (eb1.toInt64)), .second, vI (f_base (f_minI et1 el1) (f_maxI et1 eu1)), vR ov, s10_46] []) _
      refine XS.iload X126.here hx rfl (bb d10_191) rfl ?_
      refine XS.istoreS X126.here hx rfl (bb d10_193) rfl rfl o_s10_46 ?_
      show GG p e below T126 (mkF m 195 #[vR a1, vI 0, vI 2, vR at_, vI 1, vI eb1, vJ ((et1.toInt64) - (eb1.toInt64)), .second, vI (f_base (f_minI et1 el1) (f_maxI et1 eu1)), vR ov, vI 1] []) _
      refine XS.iload X126.here hx rfl (bb d10_195) rfl ?_
      refine XS.iloadN X126.here hx rfl (bb d10_197) rfl ?_
      refine XS.aloadN X126.here hx rfl (bb d10_198) rfl rfl ?_
      refine st130 _ ?_
      show GG p e below T130 (mkF m 202 #[vR a1, vI 0, vI 2, vR at_, vI 1, vI eb1, vJ ((et1.toInt64) - (eb1.toInt64)), .second, vI (f_base (f_minI et1 el1) (f_maxI et1 eu1)), vR ov, vI 1] [(.int 2), (.int 2), (.int 1)]) _
      refine XS.imul X130.here hx rfl (bb d10_202) rfl ?_
      refine XS.icmpNo X130.here hx rfl (bb d10_203) rfl (tlt (by decide : (1 : Int32) < (4 : Int32))).2.1 ?_
      refine XS.aload X130.here hx rfl (bb d10_206) rfl rfl ?_
      refine XS.iload X130.here hx rfl (bb d10_208) rfl ?_
      show GG p e below T130 (mkF m 210 #[vR a1, vI 0, vI 2, vR at_, vI 1, vI eb1, vJ ((et1.toInt64) - (eb1.toInt64)), .second, vI (f_base (f_minI et1 el1) (f_maxI et1 eu1)), vR ov, vI 1] [(.int 1), (.ref ov)]) _
      refine Jvm.Free.XT.dup2 X130.here hx rfl (bb d10_210) rfl rfl rfl ?_
      show GG p e below T130 (mkF m 211 #[vR a1, vI 0, vI 2, vR at_, vI 1, vI eb1, vJ ((et1.toInt64) - (eb1.toInt64)), .second, vI (f_base (f_minI et1 el1) (f_maxI et1 eu1)), vR ov, vI 1] [(.int 1), (.ref ov), (.int 1), (.ref ov)]) _
      refine X130.caload hx (j := (1 : Int32)) (v := (.int (nar .char (ev0_1 - eb1)))) (by rw [e130]; exact Ar132.1) (State.isArrayOf_alike hZ.alike Ar132.2.1) Ar132.2.2 hin132 (vH132.at hin132 rfl) (g := (mkF m 211 #[vR a1, vI 0, vI 2, vR at_, vI 1, vI eb1, vJ ((et1.toInt64) - (eb1.toInt64)), .second, vI (f_base (f_minI et1 el1) (f_maxI et1 eu1)), vR ov, vI 1] [(.int 1), (.ref ov), (.int 1), (.ref ov)])) rfl rfl (bb d10_211) _ ?_
      show GG p e below T130 (mkF m 212 #[vR a1, vI 0, vI 2, vR at_, vI 1, vI eb1, vJ ((et1.toInt64) - (eb1.toInt64)), .second, vI (f_base (f_minI et1 el1) (f_maxI et1 eu1)), vR ov, vI 1] [(.int (nar .char (ev0_1 - eb1))), (.int 1), (.ref ov)]) _
      refine XS.iload X130.here hx rfl (bb d10_212) rfl ?_
      refine XS.iload X130.here hx rfl (bb d10_214) rfl ?_
      refine XS.isub X130.here hx rfl (bb d10_216) rfl ?_
      refine XS.i2c X130.here hx rfl (bb d10_217) rfl ?_
      show GG p e below T130 (mkF m 218 #[vR a1, vI 0, vI 2, vR at_, vI 1, vI eb1, vJ ((et1.toInt64) - (eb1.toInt64)), .second, vI (f_base (f_minI et1 el1) (f_maxI et1 eu1)), vR ov, vI 1] [(.int ((eb1 - (f_base (f_minI et1 el1) (f_maxI et1 eu1))).toUInt32.toUInt16.toUInt32.toInt32)), (.int (nar .char (ev0_1 - eb1))), (.int 1), (.ref ov)]) _
      refine XS.iadd X130.here hx rfl (bb d10_218) rfl ?_
      refine XS.i2c X130.here hx rfl (bb d10_219) rfl ?_
      show GG p e below T130 (mkF m 220 #[vR a1, vI 0, vI 2, vR at_, vI 1, vI eb1, vJ ((et1.toInt64) - (eb1.toInt64)), .second, vI (f_base (f_minI et1 el1) (f_maxI et1 eu1)), vR ov, vI 1] [(.int (((nar .char (ev0_1 - eb1)) + ((eb1 - (f_base (f_minI et1 el1) (f_maxI et1 eu1))).toUInt32.toUInt16.toUInt32.toInt32)).toUInt32.toUInt16.toUInt32.toInt32)), (.int 1), (.ref ov)]) _
      refine st133 _ ?_
      show GG p e below T133 (mkF m 221 #[vR a1, vI 0, vI 2, vR at_, vI 1, vI eb1, vJ ((et1.toInt64) - (eb1.toInt64)), .second, vI (f_base (f_minI et1 el1) (f_maxI et1 eu1)), vR ov, vI 1] []) _
      refine XS.iload X133.here hx rfl (bb d10_221) rfl ?_
      refine XS.aloadN X133.here hx rfl (bb d10_223) rfl rfl ?_
      refine st134 _ ?_
      show GG p e below T134 (mkF m 227 #[vR a1, vI 0, vI 2, vR at_, vI 1, vI eb1, vJ ((et1.toInt64) - (eb1.toInt64)), .second, vI (f_base (f_minI et1 el1) (f_maxI et1 eu1)), vR ov, vI 1] [(.int 2), (.int 1)]) _
      refine XS.iadd X134.here hx rfl (bb d10_227) rfl ?_
      refine XS.istore X134.here hx rfl (bb d10_228) rfl (l' := #[vR a1, vI 0, vI 2, vR at_, vI 1, vI eb1, vJ ((et1.toInt64) - (eb1.toInt64)), .second, vI (f_base (f_minI et1 el1) (f_maxI et1 eu1)), vR ov, vI 3]) rfl ?_
      show GG p e below T134 (mkF m 230 #[vR a1, vI 0, vI 2, vR at_, vI 1, vI eb1, vJ ((et1.toInt64) - (eb1.toInt64)), .second, vI (f_base (f_minI et1 el1) (f_maxI et1 eu1)), vR ov, vI 3] []) _
      refine XS.goto X134.here hx rfl (pc0 := 230) (pc' := 195) rfl (bb d10_230) (by decide) (by decide) ?_
      refine XS.iload X134.here hx rfl (bb d10_195) rfl ?_
      refine XS.iloadN X134.here hx rfl (bb d10_197) rfl ?_
      refine XS.aloadN X134.here hx rfl (bb d10_198) rfl rfl ?_
      show GG p e below T134 (mkF m 199 #[vR a1, vI 0, vI 2, vR at_, vI 1, vI eb1, vJ ((et1.toInt64) - (eb1.toInt64)), .second, vI (f_base (f_minI et1 el1) (f_maxI et1 eu1)), vR ov, vI 3] [(.ref a1), (.int 2), (.int 3)]) _
      refine st136 _ ?_
      show GG p e below T136 (mkF m 202 #[vR a1, vI 0, vI 2, vR at_, vI 1, vI eb1, vJ ((et1.toInt64) - (eb1.toInt64)), .second, vI (f_base (f_minI et1 el1) (f_maxI et1 eu1)), vR ov, vI 3] [(.int 2), (.int 2), (.int 3)]) _
      refine XS.imul X136.here hx rfl (bb d10_202) rfl ?_
      refine XS.icmpNo X136.here hx rfl (bb d10_203) rfl (tlt (by decide : (3 : Int32) < (4 : Int32))).2.1 ?_
      refine XS.aload X136.here hx rfl (bb d10_206) rfl rfl ?_
      refine XS.iload X136.here hx rfl (bb d10_208) rfl ?_
      show GG p e below T136 (mkF m 210 #[vR a1, vI 0, vI 2, vR at_, vI 1, vI eb1, vJ ((et1.toInt64) - (eb1.toInt64)), .second, vI (f_base (f_minI et1 el1) (f_maxI et1 eu1)), vR ov, vI 3] [(.int 3), (.ref ov)]) _
      refine Jvm.Free.XT.dup2 X136.here hx rfl (bb d10_210) rfl rfl rfl ?_
      show GG p e below T136 (mkF m 211 #[vR a1, vI 0, vI 2, vR at_, vI 1, vI eb1, vJ ((et1.toInt64) - (eb1.toInt64)), .second, vI (f_base (f_minI et1 el1) (f_maxI et1 eu1)), vR ov, vI 3] [(.int 3), (.ref ov), (.int 3), (.ref ov)]) _
      refine X136.caload hx (j := (3 : Int32)) (v := (.int (nar .char (ev1_1 - eb1)))) (by rw [e136]; exact Ar137.1) (State.isArrayOf_alike hZ.alike Ar137.2.1) Ar137.2.2 hin137 (vH137.at hin137 rfl) (g := (mkF m 211 #[vR a1, vI 0, vI 2, vR at_, vI 1, vI eb1, vJ ((et1.toInt64) - (eb1.toInt64)), .second, vI (f_base (f_minI et1 el1) (f_maxI et1 eu1)), vR ov, vI 3] [(.int 3), (.ref ov), (.int 3), (.ref ov)])) rfl rfl (bb d10_211) _ ?_
      show GG p e below T136 (mkF m 212 #[vR a1, vI 0, vI 2, vR at_, vI 1, vI eb1, vJ ((et1.toInt64) - (eb1.toInt64)), .second, vI (f_base (f_minI et1 el1) (f_maxI et1 eu1)), vR ov, vI 3] [(.int (nar .char (ev1_1 - eb1))), (.int 3), (.ref ov)]) _
      refine XS.iload X136.here hx rfl (bb d10_212) rfl ?_
      refine XS.iload X136.here hx rfl (bb d10_214) rfl ?_
      refine XS.isub X136.here hx rfl (bb d10_216) rfl ?_
      refine XS.i2c X136.here hx rfl (bb d10_217) rfl ?_
      show GG p e below T136 (mkF m 218 #[vR a1, vI 0, vI 2, vR at_, vI 1, vI eb1, vJ ((et1.toInt64) - (eb1.toInt64)), .second, vI (f_base (f_minI et1 el1) (f_maxI et1 eu1)), vR ov, vI 3] [(.int ((eb1 - (f_base (f_minI et1 el1) (f_maxI et1 eu1))).toUInt32.toUInt16.toUInt32.toInt32)), (.int (nar .char (ev1_1 - eb1))), (.int 3), (.ref ov)]) _
      refine XS.iadd X136.here hx rfl (bb d10_218) rfl ?_
      refine XS.i2c X136.here hx rfl (bb d10_219) rfl ?_
      show GG p e below T136 (mkF m 220 #[vR a1, vI 0, vI 2, vR at_, vI 1, vI eb1, vJ ((et1.toInt64) - (eb1.toInt64)), .second, vI (f_base (f_minI et1 el1) (f_maxI et1 eu1)), vR ov, vI 3] [(.int (((nar .char (ev1_1 - eb1)) + ((eb1 - (f_base (f_minI et1 el1) (f_maxI et1 eu1))).toUInt32.toUInt16.toUInt32.toInt32)).toUInt32.toUInt16.toUInt32.toInt32)), (.int 3), (.ref ov)]) _
      refine st138 _ ?_
      show GG p e below T138 (mkF m 221 #[vR a1, vI 0, vI 2, vR at_, vI 1, vI eb1, vJ ((et1.toInt64) - (eb1.toInt64)), .second, vI (f_base (f_minI et1 el1) (f_maxI et1 eu1)), vR ov, vI 3] []) _
      refine XS.iload X138.here hx rfl (bb d10_221) rfl ?_
      refine XS.aloadN X138.here hx rfl (bb d10_223) rfl rfl ?_
      refine st139 _ ?_
      show GG p e below T139 (mkF m 227 #[vR a1, vI 0, vI 2, vR at_, vI 1, vI eb1, vJ ((et1.toInt64) - (eb1.toInt64)), .second, vI (f_base (f_minI et1 el1) (f_maxI et1 eu1)), vR ov, vI 3] [(.int 2), (.int 3)]) _
      refine XS.iadd X139.here hx rfl (bb d10_227) rfl ?_
      refine XS.istore X139.here hx rfl (bb d10_228) rfl (l' := #[vR a1, vI 0, vI 2, vR at_, vI 1, vI eb1, vJ ((et1.toInt64) - (eb1.toInt64)), .second, vI (f_base (f_minI et1 el1) (f_maxI et1 eu1)), vR ov, vI 5]) rfl ?_
      show GG p e below T139 (mkF m 230 #[vR a1, vI 0, vI 2, vR at_, vI 1, vI eb1, vJ ((et1.toInt64) - (eb1.toInt64)), .second, vI (f_base (f_minI et1 el1) (f_maxI et1 eu1)), vR ov, vI 5] []) _
      refine XS.goto X139.here hx rfl (pc0 := 230) (pc' := 195) rfl (bb d10_230) (by decide) (by decide) ?_
      refine XS.iload X139.here hx rfl (bb d10_195) rfl ?_
      refine XS.iloadN X139.here hx rfl (bb d10_197) rfl ?_
      refine XS.aloadN X139.here hx rfl (bb d10_198) rfl rfl ?_
      show GG p e below T139 (mkF m 199 #[vR a1, vI 0, vI 2, vR at_, vI 1, vI eb1, vJ ((et1.toInt64) - (eb1.toInt64)), .second, vI (f_base (f_minI et1 el1) (f_maxI et1 eu1)), vR ov, vI 5] [(.ref a1), (.int 2), (.int 5)]) _
      refine st141 _ ?_
      show GG p e below T141 (mkF m 202 #[vR a1, vI 0, vI 2, vR at_, vI 1, vI eb1, vJ ((et1.toInt64) - (eb1.toInt64)), .second, vI (f_base (f_minI et1 el1) (f_maxI et1 eu1)), vR ov, vI 5] [(.int 2), (.int 2), (.int 5)]) _
      refine XS.imul X141.here hx rfl (bb d10_202) rfl ?_
      refine XS.icmpYes X141.here hx rfl (pc0 := 203) (pc' := 233) rfl (bb d10_203) rfl (flt (by decide : ¬ ((5 : Int32) < (4 : Int32)))).2.1 (by decide) (by decide) ?_
      show GG p e below T141 (mkF m 233 #[vR a1, vI 0, vI 2, vR at_, vI 1, vI eb1, vJ ((et1.toInt64) - (eb1.toInt64)), .second, vI (f_base (f_minI et1 el1) (f_maxI et1 eu1)), vR ov, vI 5] []) _
      refine XS.aloadN X141.here hx rfl (bb d10_233) rfl rfl ?_
      refine st142 _ ?_
      show GG p e below T142 (mkF m 237 #[vR a1, vI 0, vI 2, vR at_, vI 1, vI eb1, vJ ((et1.toInt64) - (eb1.toInt64)), .second, vI (f_base (f_minI et1 el1) (f_maxI et1 eu1)), vR ov, vI 5] [(.ref ob)]) _
      refine XS.iloadN X142.here hx rfl (bb d10_237) rfl ?_
      refine XS.aloadN X142.here hx rfl (bb d10_238) rfl rfl ?_
      refine st144 _ ?_
      show GG p e below T144 (mkF m 242 #[vR a1, vI 0, vI 2, vR at_, vI 1, vI eb1, vJ ((et1.toInt64) - (eb1.toInt64)), .second, vI (f_base (f_minI et1 el1) (f_maxI et1 eu1)), vR ov, vI 5] [(.int 2), (.int 0), (.ref ob)]) _
      refine XS.imul X144.here hx rfl (bb d10_242) rfl ?_
      refine XS.iload X144.here hx rfl (bb d10_243) rfl ?_
      refine XS.iadd X144.here hx rfl (bb d10_245) rfl ?_
      refine XS.iload X144.here hx rfl (bb d10_246) rfl ?_
      show GG p e below T144 (mkF m 248 #[vR a1, vI 0, vI 2, vR at_, vI 1, vI eb1, vJ ((et1.toInt64) - (eb1.toInt64)), .second, vI (f_base (f_minI et1 el1) (f_maxI et1 eu1)), vR ov, vI 5] [(.int (f_base (f_minI et1 el1) (f_maxI et1 eu1))), (.int 1), (.ref ob)]) _
      refine st146 _ ?_
      exact k
    · skip
      have F148 := ((f46_1.other W93 (Ne.symm ne_ol_ov)).other W103 (Ne.symm ne_oh_ov))
      refine ⟨T106, _, h103, (s8_46), (s9_46), (s10_46), X106, e106, N103, (Keep.refl h103 [ob, ov]), (by simp only [nbase, if_neg g113]; exact F108), (by simp only [nbase, if_neg g113]; have q := F148; exact q), o_s8_46, o_s9_46, o_s10_46, fun t k => pre112 t ?_⟩
      show GG p e below T106 (mkF m 148 #[vR a1, vI 0, vI 2, vR at_, vI 1, vI eb1, vJ ((et1.toInt64) - (eb1.toInt64)), .second, s8_46, s9_46, s10_46] []) _
      refine XS.lload X106.here hx rfl (bb d10_148) rfl ?_
      refine XS.lconst X106.here hx rfl (bb d10_150) ?_
      refine XS.lcmp X106.here hx rfl (bb d10_151) rfl ?_
      show GG p e below T106 (mkF m 152 #[vR a1, vI 0, vI 2, vR at_, vI 1, vI eb1, vJ ((et1.toInt64) - (eb1.toInt64)), .second, s8_46, s9_46, s10_46] [(.int (lcmpW ((et1.toInt64) - (eb1.toInt64)) (0 : Int64)))]) _
      refine XS.ifNo X106.here hx rfl (bb d10_152) rfl ((if0 _ _).trans (flt (fun q => g113 (Or.inl q))).1) ?_
      refine XS.lload X106.here hx rfl (bb d10_155) rfl ?_
      refine X106.ldc2Long hx hown (mvT hZ (wd74 hw)) (g := (mkF m 157 #[vR a1, vI 0, vI 2, vR at_, vI 1, vI eb1, vJ ((et1.toInt64) - (eb1.toInt64)), .second, s8_46, s9_46, s10_46] [(.long ((et1.toInt64) - (eb1.toInt64)))])) rfl (bb d10_157) _ ?_
      show GG p e below T106 (mkF m 160 #[vR a1, vI 0, vI 2, vR at_, vI 1, vI eb1, vJ ((et1.toInt64) - (eb1.toInt64)), .second, s8_46, s9_46, s10_46] [(.long 65536), (.long ((et1.toInt64) - (eb1.toInt64)))]) _
      refine XS.lcmp X106.here hx rfl (bb d10_160) rfl ?_
      show GG p e below T106 (mkF m 161 #[vR a1, vI 0, vI 2, vR at_, vI 1, vI eb1, vJ ((et1.toInt64) - (eb1.toInt64)), .second, s8_46, s9_46, s10_46] [(.int (lcmpW ((et1.toInt64) - (eb1.toInt64)) (65536 : Int64)))]) _
      refine XS.ifYes X106.here hx rfl (pc0 := 161) (pc' := 249) rfl (bb d10_161) rfl ((if0 _ _).trans (tlt (Decidable.of_not_not fun q => g113 (Or.inr q))).1) (by decide) (by decide) ?_
      exact k
  have F150 := (F107.keep K113 (ninS ne_a1_ob (ninS ne_a1_ov nin0)))
  obtain ⟨T149, X149, e149, st149⟩ := getF X113 hx hZ hown (host := "") (Or.inl (wd23 hw)) Via.refl e113 F150 (g := (mkF m 73 #[vR a1, vI 0, vI 2, vR at_, vI 2, vI eb1, vJ ((et1.toInt64) - (eb1.toInt64)), .second, s8_113, s9_113, s10_113] [(.ref a1), (.int 2)])) rfl rfl (bb d10_73)
  have F151 := ((V93.other W103 ne_ol_oh).keep K113 (ninS (Ne.symm ne_ob_ol) (ninS ne_ol_ov nin0)))
  have F152 := (V103.keep K113 (ninS (Ne.symm ne_ob_oh) (ninS ne_oh_ov nin0)))
  obtain ⟨fs, hr, hrun, hended, hW, hsame⟩ := X149.leave (v := none) (fun _ => rfl)
  refine ⟨_, _, pre113 _ ?_, hrun, hended, _, _, rfl, ?_, ⟨_, rfl⟩, hW, hsame.mono (by decide) (by decide)⟩
  · show GG p e below T113 (mkF m 249 #[vR a1, vI 0, vI 2, vR at_, vI 1, vI eb1, vJ ((et1.toInt64) - (eb1.toInt64)), .second, s8_113, s9_113, s10_113] []) _
    refine XS.iinc X113.here hx rfl (bb d10_249) rfl (l' := #[vR a1, vI 0, vI 2, vR at_, vI 2, vI eb1, vJ ((et1.toInt64) - (eb1.toInt64)), .second, s8_113, s9_113, s10_113]) rfl ?_
    show GG p e below T113 (mkF m 252 #[vR a1, vI 0, vI 2, vR at_, vI 2, vI eb1, vJ ((et1.toInt64) - (eb1.toInt64)), .second, s8_113, s9_113, s10_113] []) _
    refine XS.goto X113.here hx rfl (pc0 := 252) (pc' := 70) rfl (bb d10_252) (by decide) (by decide) ?_
    refine XS.iload X113.here hx rfl (bb d10_70) rfl ?_
    refine XS.aloadN X113.here hx rfl (bb d10_72) rfl rfl ?_
    refine st149 _ ?_
    show GG p e below T149 (mkF m 76 #[vR a1, vI 0, vI 2, vR at_, vI 2, vI eb1, vJ ((et1.toInt64) - (eb1.toInt64)), .second, s8_113, s9_113, s10_113] [(.int 2), (.int 2)]) _
    refine XS.icmpYes X149.here hx rfl (pc0 := 76) (pc' := 255) rfl (bb d10_76) rfl (flt (by decide : ¬ ((2 : Int32) < (2 : Int32)))).2.1 (by decide) (by decide) ?_
    show GG p e below T149 (mkF m 255 #[vR a1, vI 0, vI 2, vR at_, vI 2, vI eb1, vJ ((et1.toInt64) - (eb1.toInt64)), .second, s8_113, s9_113, s10_113] []) _
    exact X149.returnOut hx Bd.returns (bb d10_255) hr
  · show Q_fit2_2 Z a1 at_ ow on ob ol oh ov kw_ kn_ kb_ kl_ kh_ kv_ eb0 eb1 el0 el1 eu0 eu1 ev0_0 ev0_1 ev1_0 ev1_1 ex4 ex5 ex6 ex7 ex8 ex9 ex10 ex11 ex12 ex13 ex14 ex15 kt_ et0 et1 h0 n0 _ T149.heap _
    rw [e149]
    exact ⟨rfl, N113, (((((((Keep.refl h0 [ob, ol, oh, ov]).wr W26 (Or.inl (List.mem_of_getElem? (i := 1) rfl))).wr W36 (Or.inl (List.mem_of_getElem? (i := 2) rfl))).trans K46 (allS (Or.inl (List.mem_of_getElem? (i := 0) rfl)) (allS (Or.inl (List.mem_of_getElem? (i := 3) rfl)) all0))).wr W93 (Or.inl (List.mem_of_getElem? (i := 1) rfl))).wr W103 (Or.inl (List.mem_of_getElem? (i := 2) rfl))).trans K113 (allS (Or.inl (List.mem_of_getElem? (i := 0) rfl)) (allS (Or.inl (List.mem_of_getElem? (i := 3) rfl)) all0))), F151, F152, f113_0, f113_1⟩
set_option maxRecDepth 65536 in
set_option maxHeartbeats 40000000 in
theorem rm_get2N (l : Launch) (Z : State) (a0 : Array Value) (hw : ∀ d ∈ tables_1, d.before a0 Z = true) (ws : List Jvm.Cond) (a1 : Addr) (p2 p3 : Int32) (on ob ov : Addr) (cn cb cv : Cell) (eb ev : Int32) (h0 : Heap) (n0 : Nat) (Z0 : n0 ≤ h0.size) (O0 : Old Z n0 h0) (S_CS : Sta Z Z.heap cRV "CHUNK_SHIFT" "I" (.int (12 : Int32))) (r0 : Fld Z h0 a1 cRV "arity" "I" (.int 2)) (r1 : Fld Z h0 a1 cRV "narrow" "[[C" (.ref on)) (r2 : Fld Z h0 a1 cRV "bases" "[I" (.ref ob)) (A_on : Arr Z h0 on cn (.array .char)) (i_on : ¬ (((p2.toUInt32 >>> ((12 : Int32) &&& 31).toUInt32).toInt32) < 0 ∨ cn.slots.size ≤ (((p2.toUInt32 >>> ((12 : Int32) &&& 31).toUInt32).toInt32)).toNatClampNeg)) (t_on : cn.slots[(((p2.toUInt32 >>> ((12 : Int32) &&& 31).toUInt32).toInt32)).toNatClampNeg]? = some (.ref ov)) (A_ob : Arr Z h0 ob cb .int) (i_ob : ¬ (((((p2.toUInt32 >>> ((12 : Int32) &&& 31).toUInt32).toInt32) * (2 : Int32)) + p3) < 0 ∨ cb.slots.size ≤ (((((p2.toUInt32 >>> ((12 : Int32) &&& 31).toUInt32).toInt32) * (2 : Int32)) + p3)).toNatClampNeg)) (t_ob : cb.slots[(((((p2.toUInt32 >>> ((12 : Int32) &&& 31).toUInt32).toInt32) * (2 : Int32)) + p3)).toNatClampNeg]? = some (.int eb)) (A_ov : Arr Z h0 ov cv .char) (i_ov : ¬ ((((p2 &&& (4095 : Int32)) * (2 : Int32)) + p3) < 0 ∨ cv.slots.size ≤ ((((p2 &&& (4095 : Int32)) * (2 : Int32)) + p3)).toNatClampNeg)) (t_ov : cv.slots[((((p2 &&& (4095 : Int32)) * (2 : Int32)) + p3)).toNatClampNeg]? = some (.int (nar .char (ev - eb)))) (hIn : ownIn eb ev) :
    MetFree l (⟨cRV, "get", "(II)I"⟩ : MethodName) (head1 (Jvm.Cond.code (⟨cRV, "get", "(II)I"⟩ : MethodName) prog_47_method_3_code 6 (some .int) :: ws) ({ frames := 0, cells := 0, slots := 0, locals := 0 } : Room)) (fun a U => a = #[(.ref a1), (.int p2), (.int p3)] ∧ Z.Warmed39 U.vm ∧ U.heap = h0) (fun _ _ _ _ _ => True) (fun _ U o U' => ∃ v L, o = .returned v ∧ PureQ (some (.int ev)) h0 n0 v U'.heap L ∧ FrameEnd U o U' L ({ frames := 0, cells := 0, slots := 0, locals := 0 } : Room).cells ({ frames := 0, cells := 0, slots := 0, locals := 0 } : Room).slots) := by
  refine MetFree.of_bodySF (plainFor_of_name pn_RowValues) hisR ?_
  intro p e s m args below meth c s₁ Bd hml0 hP hK
  obtain ⟨rfl, hZ, hh⟩ := hP
  have hx := Bd.exec
  have hby := Bd.bytes
  have bb := fun {pc : Nat} {r : Except DecodeError (Instr × Nat)} (h : decode prog_47_method_3_code pc = r) => hb hby h
  have hml : c.maxLocals = 6 := hml0
  have hown : s.vm.findClass cRV = some m.cls := findClass_of_methodNamed Bd.named
  have hnm := (name_of_methodNamed Bd.named Bd.method).1
  have X0 : Stand p l e ({ frames := 0, cells := 0, slots := 0, locals := 0 } : Room) s m #[(.ref a1), (.int p2), (.int p3)] below meth c s₁ [] 0 0 := Stand.of_body Bd
  have e0 : s₁.heap = h0 := by rw [← hh, Bd.state]; rfl
  have N0 := Fr.nil n0
  have pre0 : ∀ t, Steps p.tables e below (s₁.setTop (mkF m 0 #[vR a1, vI p2, vI p3, .unset, .unset, .unset] [])) t → Steps p.tables e below (s₁.setTop (entryFrame m #[(.ref a1), (.int p2), (.int p3)] 6)) t := fun t k => castTop (ef_get2N m a1 p2 p3) k
  obtain ⟨T1, X1, e1, st1⟩ := getS2 X0 hx hZ hown (host := "") (Or.inl (wd40 hw)) Via.refl e0 (S_CS.ext O0.2) (g := (mkF m 1 #[vR a1, vI p2, vI p3, .unset, .unset, .unset] [(.int p2)])) rfl (bb d12_1)
  obtain ⟨T2, X2, e2, st2⟩ := getF X1 hx hZ hown (host := "") (Or.inl (wd23 hw)) Via.refl e1 r0 (g := (mkF m 12 #[vR a1, vI p2, vI p3, vI ((p2.toUInt32 >>> ((12 : Int32) &&& 31).toUInt32).toInt32), .unset, .unset] [(.ref a1), (.int (p2 &&& (4095 : Int32)))])) rfl rfl (bb d12_12)
  obtain ⟨T3, X3, e3, st3⟩ := getF X2 hx hZ hown (host := "") (Or.inl (wd21 hw)) Via.refl e2 r1 (g := (mkF m 21 #[vR a1, vI p2, vI p3, vI ((p2.toUInt32 >>> ((12 : Int32) &&& 31).toUInt32).toInt32), vI (((p2 &&& (4095 : Int32)) * (2 : Int32)) + p3), .unset] [(.ref a1)])) rfl rfl (bb d12_21)
  obtain ⟨T4, X4, e4, st4⟩ := getF X3 hx hZ hown (host := "") (Or.inl (wd25 hw)) Via.refl e3 r2 (g := (mkF m 34 #[vR a1, vI p2, vI p3, vI ((p2.toUInt32 >>> ((12 : Int32) &&& 31).toUInt32).toInt32), vI (((p2 &&& (4095 : Int32)) * (2 : Int32)) + p3), vR ov] [(.ref a1)])) rfl rfl (bb d12_34)
  obtain ⟨T5, X5, e5, st5⟩ := getF X4 hx hZ hown (host := "") (Or.inl (wd23 hw)) Via.refl e4 r0 (g := (mkF m 39 #[vR a1, vI p2, vI p3, vI ((p2.toUInt32 >>> ((12 : Int32) &&& 31).toUInt32).toInt32), vI (((p2 &&& (4095 : Int32)) * (2 : Int32)) + p3), vR ov] [(.ref a1), (.int ((p2.toUInt32 >>> ((12 : Int32) &&& 31).toUInt32).toInt32)), (.ref ob)])) rfl rfl (bb d12_39)
  obtain ⟨fs, hr, hrun, hended, hW, hsame⟩ := X5.leave (v := some (.int (eb + (nar .char (ev - eb))))) (fun h => by rw [Bd.returns] at h; cases h)
  refine ⟨_, _, pre0 _ ?_, hrun, hended, _, _, rfl, ?_, ⟨_, rfl⟩, hW, hsame.mono (by decide) (by decide)⟩
  · show GG p e below s₁ (mkF m 0 #[vR a1, vI p2, vI p3, .unset, .unset, .unset] []) _
    refine XS.iloadN X0.here hx rfl (bb d12_0) rfl ?_
    refine st1 _ ?_
    show GG p e below T1 (mkF m 4 #[vR a1, vI p2, vI p3, .unset, .unset, .unset] [(.int 12), (.int p2)]) _
    refine XS.iushr X1.here hx rfl (bb d12_4) rfl ?_
    show GG p e below T1 (mkF m 5 #[vR a1, vI p2, vI p3, .unset, .unset, .unset] [(.int ((p2.toUInt32 >>> ((12 : Int32) &&& 31).toUInt32).toInt32))]) _
    refine XS.istoreN X1.here hx rfl (bb d12_5) rfl (l' := #[vR a1, vI p2, vI p3, vI ((p2.toUInt32 >>> ((12 : Int32) &&& 31).toUInt32).toInt32), .unset, .unset]) rfl ?_
    show GG p e below T1 (mkF m 6 #[vR a1, vI p2, vI p3, vI ((p2.toUInt32 >>> ((12 : Int32) &&& 31).toUInt32).toInt32), .unset, .unset] []) _
    refine XS.iloadN X1.here hx rfl (bb d12_6) rfl ?_
    refine XS.sipush X1.here hx rfl (bb d12_7) ?_
    refine XS.iand X1.here hx rfl (bb d12_10) rfl ?_
    refine XS.aloadN X1.here hx rfl (bb d12_11) rfl rfl ?_
    show GG p e below T1 (mkF m 12 #[vR a1, vI p2, vI p3, vI ((p2.toUInt32 >>> ((12 : Int32) &&& 31).toUInt32).toInt32), .unset, .unset] [(.ref a1), (.int (p2 &&& (4095 : Int32)))]) _
    refine st2 _ ?_
    show GG p e below T2 (mkF m 15 #[vR a1, vI p2, vI p3, vI ((p2.toUInt32 >>> ((12 : Int32) &&& 31).toUInt32).toInt32), .unset, .unset] [(.int 2), (.int (p2 &&& (4095 : Int32)))]) _
    refine XS.imul X2.here hx rfl (bb d12_15) rfl ?_
    refine XS.iloadN X2.here hx rfl (bb d12_16) rfl ?_
    refine XS.iadd X2.here hx rfl (bb d12_17) rfl ?_
    refine XS.istore X2.here hx rfl (bb d12_18) rfl (l' := #[vR a1, vI p2, vI p3, vI ((p2.toUInt32 >>> ((12 : Int32) &&& 31).toUInt32).toInt32), vI (((p2 &&& (4095 : Int32)) * (2 : Int32)) + p3), .unset]) rfl ?_
    show GG p e below T2 (mkF m 20 #[vR a1, vI p2, vI p3, vI ((p2.toUInt32 >>> ((12 : Int32) &&& 31).toUInt32).toInt32), vI (((p2 &&& (4095 : Int32)) * (2 : Int32)) + p3), .unset] []) _
    refine XS.aloadN X2.here hx rfl (bb d12_20) rfl rfl ?_
    refine st3 _ ?_
    show GG p e below T3 (mkF m 24 #[vR a1, vI p2, vI p3, vI ((p2.toUInt32 >>> ((12 : Int32) &&& 31).toUInt32).toInt32), vI (((p2 &&& (4095 : Int32)) * (2 : Int32)) + p3), .unset] [(.ref on)]) _
    refine XS.iloadN X3.here hx rfl (bb d12_24) rfl ?_
    refine X3.aaload hx (j := ((p2.toUInt32 >>> ((12 : Int32) &&& 31).toUInt32).toInt32)) (v := (.ref ov)) (by rw [e3]; exact A_on.1) (State.isArrayOf_alike hZ.alike A_on.2.1) rfl A_on.2.2 i_on t_on (g := (mkF m 25 #[vR a1, vI p2, vI p3, vI ((p2.toUInt32 >>> ((12 : Int32) &&& 31).toUInt32).toInt32), vI (((p2 &&& (4095 : Int32)) * (2 : Int32)) + p3), .unset] [(.int ((p2.toUInt32 >>> ((12 : Int32) &&& 31).toUInt32).toInt32)), (.ref on)])) rfl rfl (bb d12_25) _ ?_
    show GG p e below T3 (mkF m 26 #[vR a1, vI p2, vI p3, vI ((p2.toUInt32 >>> ((12 : Int32) &&& 31).toUInt32).toInt32), vI (((p2 &&& (4095 : Int32)) * (2 : Int32)) + p3), .unset] [(.ref ov)]) _
    refine XS.astore X3.here hx rfl (bb d12_26) rfl rfl (l' := #[vR a1, vI p2, vI p3, vI ((p2.toUInt32 >>> ((12 : Int32) &&& 31).toUInt32).toInt32), vI (((p2 &&& (4095 : Int32)) * (2 : Int32)) + p3), vR ov]) rfl ?_
    show GG p e below T3 (mkF m 28 #[vR a1, vI p2, vI p3, vI ((p2.toUInt32 >>> ((12 : Int32) &&& 31).toUInt32).toInt32), vI (((p2 &&& (4095 : Int32)) * (2 : Int32)) + p3), vR ov] []) _
    refine XS.aload X3.here hx rfl (bb d12_28) rfl rfl ?_
    refine XS.ifnullNo X3.here hx rfl (bb d12_30) rfl ?_
    show GG p e below T3 (mkF m 33 #[vR a1, vI p2, vI p3, vI ((p2.toUInt32 >>> ((12 : Int32) &&& 31).toUInt32).toInt32), vI (((p2 &&& (4095 : Int32)) * (2 : Int32)) + p3), vR ov] []) _
    refine XS.aloadN X3.here hx rfl (bb d12_33) rfl rfl ?_
    refine st4 _ ?_
    show GG p e below T4 (mkF m 37 #[vR a1, vI p2, vI p3, vI ((p2.toUInt32 >>> ((12 : Int32) &&& 31).toUInt32).toInt32), vI (((p2 &&& (4095 : Int32)) * (2 : Int32)) + p3), vR ov] [(.ref ob)]) _
    refine XS.iloadN X4.here hx rfl (bb d12_37) rfl ?_
    refine XS.aloadN X4.here hx rfl (bb d12_38) rfl rfl ?_
    refine st5 _ ?_
    show GG p e below T5 (mkF m 42 #[vR a1, vI p2, vI p3, vI ((p2.toUInt32 >>> ((12 : Int32) &&& 31).toUInt32).toInt32), vI (((p2 &&& (4095 : Int32)) * (2 : Int32)) + p3), vR ov] [(.int 2), (.int ((p2.toUInt32 >>> ((12 : Int32) &&& 31).toUInt32).toInt32)), (.ref ob)]) _
    refine XS.imul X5.here hx rfl (bb d12_42) rfl ?_
    refine XS.iloadN X5.here hx rfl (bb d12_43) rfl ?_
    refine XS.iadd X5.here hx rfl (bb d12_44) rfl ?_
    refine X5.iaload hx (j := ((((p2.toUInt32 >>> ((12 : Int32) &&& 31).toUInt32).toInt32) * (2 : Int32)) + p3)) (v := (.int eb)) (by rw [e5]; exact A_ob.1) (State.isArrayOf_alike hZ.alike A_ob.2.1) A_ob.2.2 i_ob t_ob (g := (mkF m 45 #[vR a1, vI p2, vI p3, vI ((p2.toUInt32 >>> ((12 : Int32) &&& 31).toUInt32).toInt32), vI (((p2 &&& (4095 : Int32)) * (2 : Int32)) + p3), vR ov] [(.int ((((p2.toUInt32 >>> ((12 : Int32) &&& 31).toUInt32).toInt32) * (2 : Int32)) + p3)), (.ref ob)])) rfl rfl (bb d12_45) _ ?_
    show GG p e below T5 (mkF m 46 #[vR a1, vI p2, vI p3, vI ((p2.toUInt32 >>> ((12 : Int32) &&& 31).toUInt32).toInt32), vI (((p2 &&& (4095 : Int32)) * (2 : Int32)) + p3), vR ov] [(.int eb)]) _
    refine XS.aload X5.here hx rfl (bb d12_46) rfl rfl ?_
    refine XS.iload X5.here hx rfl (bb d12_48) rfl ?_
    refine X5.caload hx (j := (((p2 &&& (4095 : Int32)) * (2 : Int32)) + p3)) (v := (.int (nar .char (ev - eb)))) (by rw [e5]; exact A_ov.1) (State.isArrayOf_alike hZ.alike A_ov.2.1) A_ov.2.2 i_ov t_ov (g := (mkF m 50 #[vR a1, vI p2, vI p3, vI ((p2.toUInt32 >>> ((12 : Int32) &&& 31).toUInt32).toInt32), vI (((p2 &&& (4095 : Int32)) * (2 : Int32)) + p3), vR ov] [(.int (((p2 &&& (4095 : Int32)) * (2 : Int32)) + p3)), (.ref ov), (.int eb)])) rfl rfl (bb d12_50) _ ?_
    show GG p e below T5 (mkF m 51 #[vR a1, vI p2, vI p3, vI ((p2.toUInt32 >>> ((12 : Int32) &&& 31).toUInt32).toInt32), vI (((p2 &&& (4095 : Int32)) * (2 : Int32)) + p3), vR ov] [(.int (nar .char (ev - eb))), (.int eb)]) _
    refine XS.iadd X5.here hx rfl (bb d12_51) rfl ?_
    refine XS.goto X5.here hx rfl (pc0 := 52) (pc' := 64) rfl (bb d12_52) (by decide) (by decide) ?_
    exact retI X5 hx Bd.returns (bb d12_64) hr
  · exact ⟨congrArg (fun z => some (Value.int z)) (own_get hIn), N0, e5⟩
set_option maxRecDepth 65536 in
set_option maxHeartbeats 40000000 in
theorem rm_get2W (l : Launch) (Z : State) (a0 : Array Value) (hw : ∀ d ∈ tables_1, d.before a0 Z = true) (ws : List Jvm.Cond) (a1 : Addr) (p2 p3 : Int32) (on ow oz : Addr) (cn cb cv : Cell) (ev : Int32) (h0 : Heap) (n0 : Nat) (Z0 : n0 ≤ h0.size) (O0 : Old Z n0 h0) (S_CS : Sta Z Z.heap cRV "CHUNK_SHIFT" "I" (.int (12 : Int32))) (r0 : Fld Z h0 a1 cRV "arity" "I" (.int 2)) (r1 : Fld Z h0 a1 cRV "narrow" "[[C" (.ref on)) (r2 : Fld Z h0 a1 cRV "wide" "[[I" (.ref ow)) (A_on : Arr Z h0 on cn (.array .char)) (i_on : ¬ (((p2.toUInt32 >>> ((12 : Int32) &&& 31).toUInt32).toInt32) < 0 ∨ cn.slots.size ≤ (((p2.toUInt32 >>> ((12 : Int32) &&& 31).toUInt32).toInt32)).toNatClampNeg)) (t_on : cn.slots[(((p2.toUInt32 >>> ((12 : Int32) &&& 31).toUInt32).toInt32)).toNatClampNeg]? = some .null) (A_ow : Arr Z h0 ow cb (.array .int)) (i_ow : ¬ (((p2.toUInt32 >>> ((12 : Int32) &&& 31).toUInt32).toInt32) < 0 ∨ cb.slots.size ≤ (((p2.toUInt32 >>> ((12 : Int32) &&& 31).toUInt32).toInt32)).toNatClampNeg)) (t_ow : cb.slots[(((p2.toUInt32 >>> ((12 : Int32) &&& 31).toUInt32).toInt32)).toNatClampNeg]? = some (.ref oz)) (A_oz : Arr Z h0 oz cv .int) (i_oz : ¬ ((((p2 &&& (4095 : Int32)) * (2 : Int32)) + p3) < 0 ∨ cv.slots.size ≤ ((((p2 &&& (4095 : Int32)) * (2 : Int32)) + p3)).toNatClampNeg)) (t_oz : cv.slots[((((p2 &&& (4095 : Int32)) * (2 : Int32)) + p3)).toNatClampNeg]? = some (.int ev)) :
    MetFree l (⟨cRV, "get", "(II)I"⟩ : MethodName) (head1 (Jvm.Cond.code (⟨cRV, "get", "(II)I"⟩ : MethodName) prog_47_method_3_code 6 (some .int) :: ws) ({ frames := 0, cells := 0, slots := 0, locals := 0 } : Room)) (fun a U => a = #[(.ref a1), (.int p2), (.int p3)] ∧ Z.Warmed39 U.vm ∧ U.heap = h0) (fun _ _ _ _ _ => True) (fun _ U o U' => ∃ v L, o = .returned v ∧ PureQ (some (.int ev)) h0 n0 v U'.heap L ∧ FrameEnd U o U' L ({ frames := 0, cells := 0, slots := 0, locals := 0 } : Room).cells ({ frames := 0, cells := 0, slots := 0, locals := 0 } : Room).slots) := by
  refine MetFree.of_bodySF (plainFor_of_name pn_RowValues) hisR ?_
  intro p e s m args below meth c s₁ Bd hml0 hP hK
  obtain ⟨rfl, hZ, hh⟩ := hP
  have hx := Bd.exec
  have hby := Bd.bytes
  have bb := fun {pc : Nat} {r : Except DecodeError (Instr × Nat)} (h : decode prog_47_method_3_code pc = r) => hb hby h
  have hml : c.maxLocals = 6 := hml0
  have hown : s.vm.findClass cRV = some m.cls := findClass_of_methodNamed Bd.named
  have hnm := (name_of_methodNamed Bd.named Bd.method).1
  have X0 : Stand p l e ({ frames := 0, cells := 0, slots := 0, locals := 0 } : Room) s m #[(.ref a1), (.int p2), (.int p3)] below meth c s₁ [] 0 0 := Stand.of_body Bd
  have e0 : s₁.heap = h0 := by rw [← hh, Bd.state]; rfl
  have N0 := Fr.nil n0
  have pre0 : ∀ t, Steps p.tables e below (s₁.setTop (mkF m 0 #[vR a1, vI p2, vI p3, .unset, .unset, .unset] [])) t → Steps p.tables e below (s₁.setTop (entryFrame m #[(.ref a1), (.int p2), (.int p3)] 6)) t := fun t k => castTop (ef_get2W m a1 p2 p3) k
  obtain ⟨T1, X1, e1, st1⟩ := getS2 X0 hx hZ hown (host := "") (Or.inl (wd40 hw)) Via.refl e0 (S_CS.ext O0.2) (g := (mkF m 1 #[vR a1, vI p2, vI p3, .unset, .unset, .unset] [(.int p2)])) rfl (bb d12_1)
  obtain ⟨T2, X2, e2, st2⟩ := getF X1 hx hZ hown (host := "") (Or.inl (wd23 hw)) Via.refl e1 r0 (g := (mkF m 12 #[vR a1, vI p2, vI p3, vI ((p2.toUInt32 >>> ((12 : Int32) &&& 31).toUInt32).toInt32), .unset, .unset] [(.ref a1), (.int (p2 &&& (4095 : Int32)))])) rfl rfl (bb d12_12)
  obtain ⟨T3, X3, e3, st3⟩ := getF X2 hx hZ hown (host := "") (Or.inl (wd21 hw)) Via.refl e2 r1 (g := (mkF m 21 #[vR a1, vI p2, vI p3, vI ((p2.toUInt32 >>> ((12 : Int32) &&& 31).toUInt32).toInt32), vI (((p2 &&& (4095 : Int32)) * (2 : Int32)) + p3), .unset] [(.ref a1)])) rfl rfl (bb d12_21)
  obtain ⟨T4, X4, e4, st4⟩ := getF X3 hx hZ hown (host := "") (Or.inl (wd17 hw)) Via.refl e3 r2 (g := (mkF m 56 #[vR a1, vI p2, vI p3, vI ((p2.toUInt32 >>> ((12 : Int32) &&& 31).toUInt32).toInt32), vI (((p2 &&& (4095 : Int32)) * (2 : Int32)) + p3), .val .null] [(.ref a1)])) rfl rfl (bb d12_56)
  obtain ⟨fs, hr, hrun, hended, hW, hsame⟩ := X4.leave (v := some (.int ev)) (fun h => by rw [Bd.returns] at h; cases h)
  refine ⟨_, _, pre0 _ ?_, hrun, hended, _, _, rfl, ?_, ⟨_, rfl⟩, hW, hsame.mono (by decide) (by decide)⟩
  · show GG p e below s₁ (mkF m 0 #[vR a1, vI p2, vI p3, .unset, .unset, .unset] []) _
    refine XS.iloadN X0.here hx rfl (bb d12_0) rfl ?_
    refine st1 _ ?_
    show GG p e below T1 (mkF m 4 #[vR a1, vI p2, vI p3, .unset, .unset, .unset] [(.int 12), (.int p2)]) _
    refine XS.iushr X1.here hx rfl (bb d12_4) rfl ?_
    show GG p e below T1 (mkF m 5 #[vR a1, vI p2, vI p3, .unset, .unset, .unset] [(.int ((p2.toUInt32 >>> ((12 : Int32) &&& 31).toUInt32).toInt32))]) _
    refine XS.istoreN X1.here hx rfl (bb d12_5) rfl (l' := #[vR a1, vI p2, vI p3, vI ((p2.toUInt32 >>> ((12 : Int32) &&& 31).toUInt32).toInt32), .unset, .unset]) rfl ?_
    show GG p e below T1 (mkF m 6 #[vR a1, vI p2, vI p3, vI ((p2.toUInt32 >>> ((12 : Int32) &&& 31).toUInt32).toInt32), .unset, .unset] []) _
    refine XS.iloadN X1.here hx rfl (bb d12_6) rfl ?_
    refine XS.sipush X1.here hx rfl (bb d12_7) ?_
    refine XS.iand X1.here hx rfl (bb d12_10) rfl ?_
    refine XS.aloadN X1.here hx rfl (bb d12_11) rfl rfl ?_
    show GG p e below T1 (mkF m 12 #[vR a1, vI p2, vI p3, vI ((p2.toUInt32 >>> ((12 : Int32) &&& 31).toUInt32).toInt32), .unset, .unset] [(.ref a1), (.int (p2 &&& (4095 : Int32)))]) _
    refine st2 _ ?_
    show GG p e below T2 (mkF m 15 #[vR a1, vI p2, vI p3, vI ((p2.toUInt32 >>> ((12 : Int32) &&& 31).toUInt32).toInt32), .unset, .unset] [(.int 2), (.int (p2 &&& (4095 : Int32)))]) _
    refine XS.imul X2.here hx rfl (bb d12_15) rfl ?_
    refine XS.iloadN X2.here hx rfl (bb d12_16) rfl ?_
    refine XS.iadd X2.here hx rfl (bb d12_17) rfl ?_
    refine XS.istore X2.here hx rfl (bb d12_18) rfl (l' := #[vR a1, vI p2, vI p3, vI ((p2.toUInt32 >>> ((12 : Int32) &&& 31).toUInt32).toInt32), vI (((p2 &&& (4095 : Int32)) * (2 : Int32)) + p3), .unset]) rfl ?_
    show GG p e below T2 (mkF m 20 #[vR a1, vI p2, vI p3, vI ((p2.toUInt32 >>> ((12 : Int32) &&& 31).toUInt32).toInt32), vI (((p2 &&& (4095 : Int32)) * (2 : Int32)) + p3), .unset] []) _
    refine XS.aloadN X2.here hx rfl (bb d12_20) rfl rfl ?_
    refine st3 _ ?_
    show GG p e below T3 (mkF m 24 #[vR a1, vI p2, vI p3, vI ((p2.toUInt32 >>> ((12 : Int32) &&& 31).toUInt32).toInt32), vI (((p2 &&& (4095 : Int32)) * (2 : Int32)) + p3), .unset] [(.ref on)]) _
    refine XS.iloadN X3.here hx rfl (bb d12_24) rfl ?_
    refine X3.aaload hx (j := ((p2.toUInt32 >>> ((12 : Int32) &&& 31).toUInt32).toInt32)) (v := .null) (by rw [e3]; exact A_on.1) (State.isArrayOf_alike hZ.alike A_on.2.1) rfl A_on.2.2 i_on t_on (g := (mkF m 25 #[vR a1, vI p2, vI p3, vI ((p2.toUInt32 >>> ((12 : Int32) &&& 31).toUInt32).toInt32), vI (((p2 &&& (4095 : Int32)) * (2 : Int32)) + p3), .unset] [(.int ((p2.toUInt32 >>> ((12 : Int32) &&& 31).toUInt32).toInt32)), (.ref on)])) rfl rfl (bb d12_25) _ ?_
    show GG p e below T3 (mkF m 26 #[vR a1, vI p2, vI p3, vI ((p2.toUInt32 >>> ((12 : Int32) &&& 31).toUInt32).toInt32), vI (((p2 &&& (4095 : Int32)) * (2 : Int32)) + p3), .unset] [.null]) _
    refine XS.astore X3.here hx rfl (bb d12_26) rfl rfl (l' := #[vR a1, vI p2, vI p3, vI ((p2.toUInt32 >>> ((12 : Int32) &&& 31).toUInt32).toInt32), vI (((p2 &&& (4095 : Int32)) * (2 : Int32)) + p3), .val .null]) rfl ?_
    show GG p e below T3 (mkF m 28 #[vR a1, vI p2, vI p3, vI ((p2.toUInt32 >>> ((12 : Int32) &&& 31).toUInt32).toInt32), vI (((p2 &&& (4095 : Int32)) * (2 : Int32)) + p3), .val .null] []) _
    refine XS.aload X3.here hx rfl (bb d12_28) rfl rfl ?_
    refine XS.ifnullYes X3.here hx rfl (pc0 := 30) (pc' := 55) rfl (bb d12_30) rfl (by decide) (by decide) ?_
    show GG p e below T3 (mkF m 55 #[vR a1, vI p2, vI p3, vI ((p2.toUInt32 >>> ((12 : Int32) &&& 31).toUInt32).toInt32), vI (((p2 &&& (4095 : Int32)) * (2 : Int32)) + p3), .val .null] []) _
    refine XS.aloadN X3.here hx rfl (bb d12_55) rfl rfl ?_
    refine st4 _ ?_
    show GG p e below T4 (mkF m 59 #[vR a1, vI p2, vI p3, vI ((p2.toUInt32 >>> ((12 : Int32) &&& 31).toUInt32).toInt32), vI (((p2 &&& (4095 : Int32)) * (2 : Int32)) + p3), .val .null] [(.ref ow)]) _
    refine XS.iloadN X4.here hx rfl (bb d12_59) rfl ?_
    refine X4.aaload hx (j := ((p2.toUInt32 >>> ((12 : Int32) &&& 31).toUInt32).toInt32)) (v := (.ref oz)) (by rw [e4]; exact A_ow.1) (State.isArrayOf_alike hZ.alike A_ow.2.1) rfl A_ow.2.2 i_ow t_ow (g := (mkF m 60 #[vR a1, vI p2, vI p3, vI ((p2.toUInt32 >>> ((12 : Int32) &&& 31).toUInt32).toInt32), vI (((p2 &&& (4095 : Int32)) * (2 : Int32)) + p3), .val .null] [(.int ((p2.toUInt32 >>> ((12 : Int32) &&& 31).toUInt32).toInt32)), (.ref ow)])) rfl rfl (bb d12_60) _ ?_
    show GG p e below T4 (mkF m 61 #[vR a1, vI p2, vI p3, vI ((p2.toUInt32 >>> ((12 : Int32) &&& 31).toUInt32).toInt32), vI (((p2 &&& (4095 : Int32)) * (2 : Int32)) + p3), .val .null] [(.ref oz)]) _
    refine XS.iload X4.here hx rfl (bb d12_61) rfl ?_
    refine X4.iaload hx (j := (((p2 &&& (4095 : Int32)) * (2 : Int32)) + p3)) (v := (.int ev)) (by rw [e4]; exact A_oz.1) (State.isArrayOf_alike hZ.alike A_oz.2.1) A_oz.2.2 i_oz t_oz (g := (mkF m 63 #[vR a1, vI p2, vI p3, vI ((p2.toUInt32 >>> ((12 : Int32) &&& 31).toUInt32).toInt32), vI (((p2 &&& (4095 : Int32)) * (2 : Int32)) + p3), .val .null] [(.int (((p2 &&& (4095 : Int32)) * (2 : Int32)) + p3)), (.ref oz)])) rfl rfl (bb d12_63) _ ?_
    show GG p e below T4 (mkF m 64 #[vR a1, vI p2, vI p3, vI ((p2.toUInt32 >>> ((12 : Int32) &&& 31).toUInt32).toInt32), vI (((p2 &&& (4095 : Int32)) * (2 : Int32)) + p3), .val .null] [(.int ev)]) _
    exact retI X4 hx Bd.returns (bb d12_64) hr
  · exact ⟨rfl, N0, e4⟩
def Q_widen2_1 (Z : State) (a1 ow on ob ol oh ov : Addr) (kw_ kn_ kb_ kl_ kh_ kv_ : ClassId) (eb0 eb1 el0 el1 eu0 eu1 ev0_0 ev0_1 ex2 ex3 ex4 ex5 ex6 ex7 ex8 ex9 ex10 ex11 ex12 ex13 ex14 ex15 : Int32) (h0 : Heap) (n0 : Nat) (v : Option Value) (h : Heap) (L : List Loc) : Prop := ∃ (oz : Addr) (kz_ : ClassId), v = none ∧ Fr n0 L ∧ Keep h0 h [ow, on] ∧ h0.size ≤ oz ∧ Arv Z h ow kw_ (.array .int) (1 : Int32) [(.ref oz)] .null ∧ Arv Z h on kn_ (.array .char) (1 : Int32) [.null] .null ∧ Arv Z h oz kz_ .int (16 : Int32) [(.int ev0_0), (.int ev0_1), (.int 0), (.int 0), (.int 0), (.int 0), (.int 0), (.int 0), (.int 0), (.int 0), (.int 0), (.int 0), (.int 0), (.int 0), (.int 0), (.int 0)] (.int 0)
set_option maxRecDepth 65536 in
set_option maxHeartbeats 40000000 in
theorem rm_widen2_1 (l : Launch) (Z : State) (a0 : Array Value) (hw : ∀ d ∈ tables_1, d.before a0 Z = true) (ws : List Jvm.Cond) (a1 ow on ob ol oh ov : Addr) (kw_ kn_ kb_ kl_ kh_ kv_ : ClassId) (eb0 eb1 el0 el1 eu0 eu1 ev0_0 ev0_1 ex2 ex3 ex4 ex5 ex6 ex7 ex8 ex9 ex10 ex11 ex12 ex13 ex14 ex15 : Int32) (h0 : Heap) (n0 : Nat) (Z0 : n0 ≤ h0.size) (O0 : Old Z n0 h0) (S_CS : Sta Z Z.heap cRV "CHUNK_SHIFT" "I" (.int (12 : Int32))) (r0 : Exa Z h0 a1 cRV) (r1 : Fld Z h0 a1 cRV "arity" "I" (.int 2)) (r2 : Fld Z h0 a1 cRV "rows" "I" (.int 1)) (r3 : Fld Z h0 a1 cRV "wide" "[[I" (.ref ow)) (r4 : Fld Z h0 a1 cRV "narrow" "[[C" (.ref on)) (r5 : Fld Z h0 a1 cRV "bases" "[I" (.ref ob)) (r6 : Fld Z h0 a1 cRV "lowest" "[I" (.ref ol)) (r7 : Fld Z h0 a1 cRV "highest" "[I" (.ref oh)) (r8 : Arv Z h0 ow kw_ (.array .int) (1 : Int32) [.null] .null) (r9 : OvrA Z kw_ .int "[I") (r10 : Arv Z h0 on kn_ (.array .char) (1 : Int32) [(.ref ov)] .null) (r11 : OvrA Z kn_ .char "[C") (r12 : Arv Z h0 ob kb_ .int (2 : Int32) [(.int eb0), (.int eb1)] (.int 0)) (r13 : Arv Z h0 ol kl_ .int (2 : Int32) [(.int el0), (.int el1)] (.int 0)) (r14 : Arv Z h0 oh kh_ .int (2 : Int32) [(.int eu0), (.int eu1)] (.int 0)) (r15 : Arv Z h0 ov kv_ .char (16 : Int32) [(.int (nar .char (ev0_0 - eb0))), (.int (nar .char (ev0_1 - eb1))), (.int ex2), (.int ex3), (.int ex4), (.int ex5), (.int ex6), (.int ex7), (.int ex8), (.int ex9), (.int ex10), (.int ex11), (.int ex12), (.int ex13), (.int ex14), (.int ex15)] (.int 0)) (g_ow : n0 ≤ ow) (g_on : n0 ≤ on) (ne_a1_ow : a1 ≠ ow) (ne_a1_on : a1 ≠ on) (ne_a1_ob : a1 ≠ ob) (ne_a1_ol : a1 ≠ ol) (ne_a1_oh : a1 ≠ oh) (ne_a1_ov : a1 ≠ ov) (ne_ow_on : ow ≠ on) (ne_ow_ob : ow ≠ ob) (ne_ow_ol : ow ≠ ol) (ne_ow_oh : ow ≠ oh) (ne_ow_ov : ow ≠ ov) (ne_on_ob : on ≠ ob) (ne_on_ol : on ≠ ol) (ne_on_oh : on ≠ oh) (ne_on_ov : on ≠ ov) (ne_ob_ol : ob ≠ ol) (ne_ob_oh : ob ≠ oh) (ne_ob_ov : ob ≠ ov) (ne_ol_oh : ol ≠ oh) (ne_ol_ov : ol ≠ ov) (ne_oh_ov : oh ≠ ov) (hIn0_0 : ownIn eb0 ev0_0) (hIn0_1 : ownIn eb1 ev0_1) :
    MetFree l (⟨cRV, "widen", "(II)V"⟩ : MethodName) (head1 (Jvm.Cond.code (⟨cRV, "widen", "(II)V"⟩ : MethodName) prog_47_method_9_code 6 none :: ws) ({ frames := 1, cells := 1, slots := 16, locals := 19 } : Room)) (fun a U => a = #[(.ref a1), (.int 0), (.int 1)] ∧ Z.Warmed39 U.vm ∧ U.heap = h0) (fun _ _ _ _ _ => True) (fun _ U o U' => ∃ v L, o = .returned v ∧ Q_widen2_1 Z a1 ow on ob ol oh ov kw_ kn_ kb_ kl_ kh_ kv_ eb0 eb1 el0 el1 eu0 eu1 ev0_0 ev0_1 ex2 ex3 ex4 ex5 ex6 ex7 ex8 ex9 ex10 ex11 ex12 ex13 ex14 ex15 h0 n0 v U'.heap L ∧ FrameEnd U o U' L ({ frames := 1, cells := 1, slots := 16, locals := 19 } : Room).cells ({ frames := 1, cells := 1, slots := 16, locals := 19 } : Room).slots) := by
  refine MetFree.of_bodySF (plainFor_of_name pn_RowValues) hisR ?_
  intro p e s m args below meth c s₁ Bd hml0 hP hK
  obtain ⟨rfl, hZ, hh⟩ := hP
  have hx := Bd.exec
  have hby := Bd.bytes
  have bb := fun {pc : Nat} {r : Except DecodeError (Instr × Nat)} (h : decode prog_47_method_9_code pc = r) => hb hby h
  have hml : c.maxLocals = 6 := hml0
  have hown : s.vm.findClass cRV = some m.cls := findClass_of_methodNamed Bd.named
  have hnm := (name_of_methodNamed Bd.named Bd.method).1
  have X0 : Stand p l e ({ frames := 1, cells := 1, slots := 16, locals := 19 } : Room) s m #[(.ref a1), (.int 0), (.int 1)] below meth c s₁ [] 0 0 := Stand.of_body Bd
  have e0 : s₁.heap = h0 := by rw [← hh, Bd.state]; rfl
  have N0 := Fr.nil n0
  have pre0 : ∀ t, Steps p.tables e below (s₁.setTop (mkF m 0 #[vR a1, vI 0, vI 1, .unset, .unset, .unset] [])) t → Steps p.tables e below (s₁.setTop (entryFrame m #[(.ref a1), (.int 0), (.int 1)] 6)) t := fun t k => castTop (ef_widen2_1 m a1) k
  obtain ⟨T1, X1, e1, st1⟩ := getF X0 hx hZ hown (host := "") (Or.inl (wd21 hw)) Via.refl e0 r4 (g := (mkF m 1 #[vR a1, vI 0, vI 1, .unset, .unset, .unset] [(.ref a1)])) rfl rfl (bb d13_1)
  obtain ⟨cl2, Ar2, vq2, vS2, vN2, vH2, vG2⟩ := id r10
  have hin2 : ¬ (((0 : Int32) : Int32) < 0 ∨ cl2.slots.size ≤ ((0 : Int32) : Int32).toNatClampNeg) := inb_of vS2 ⟨by decide, by decide⟩
  obtain ⟨cl3, Ar3, vq3, vS3, vN3, vH3, vG3⟩ := id r15
  obtain ⟨T4, h4, k4, X4, e4, E4, A4, B4, st4⟩ := newPE (aty := .int) X1 hx hZ (wd5 hw) e1 (g := (mkF m 7 #[vR a1, vI 0, vI 1, .unset, .unset, .unset] [(.int 16)])) rfl (bb d13_7) rfl (by decide) (cap := 16) (by decide) (by decide) (by decide) (by decide) (ad := "[I") (by decide)
  obtain ⟨b4, q_b4⟩ : ∃ z, z = (h0).size := ⟨_, rfl⟩
  rw [← q_b4] at A4 B4 st4
  have g_b4 : n0 ≤ b4 := Nat.le_trans (own_z0 O0) (Nat.le_of_eq q_b4.symm)
  have sz_b4 : h0.size ≤ b4 := Nat.le_trans (Nat.le_refl _) (Nat.le_of_eq q_b4.symm)
  have ne_a1_b4 : a1 ≠ b4 := Nat.ne_of_lt (Nat.lt_of_lt_of_le r0.lt (Nat.le_of_eq q_b4.symm))
  have ne_ow_b4 : ow ≠ b4 := Nat.ne_of_lt (Nat.lt_of_lt_of_le r8.lt (Nat.le_of_eq q_b4.symm))
  have ne_on_b4 : on ≠ b4 := Nat.ne_of_lt (Nat.lt_of_lt_of_le r10.lt (Nat.le_of_eq q_b4.symm))
  have ne_ob_b4 : ob ≠ b4 := Nat.ne_of_lt (Nat.lt_of_lt_of_le r12.lt (Nat.le_of_eq q_b4.symm))
  have ne_ol_b4 : ol ≠ b4 := Nat.ne_of_lt (Nat.lt_of_lt_of_le r13.lt (Nat.le_of_eq q_b4.symm))
  have ne_oh_b4 : oh ≠ b4 := Nat.ne_of_lt (Nat.lt_of_lt_of_le r14.lt (Nat.le_of_eq q_b4.symm))
  have ne_ov_b4 : ov ≠ b4 := Nat.ne_of_lt (Nat.lt_of_lt_of_le r15.lt (Nat.le_of_eq q_b4.symm))
  have V_b4 : Arv Z h4 b4 k4 .int (16 : Int32) [(.int 0), (.int 0), (.int 0), (.int 0), (.int 0), (.int 0), (.int 0), (.int 0), (.int 0), (.int 0), (.int 0), (.int 0), (.int 0), (.int 0), (.int 0), (.int 0)] (.int 0) := (Arv.new A4 (by decide)).pad (pad_rep [] (.int 0) 16)
  have F6 := (r1.ext E4)
  obtain ⟨T5, X5, e5, st5⟩ := getF X4 hx hZ hown (host := "") (Or.inl (wd23 hw)) Via.refl e4 F6 (g := (mkF m 25 #[vR a1, vI 0, vI 1, vR b4, vI 0, vI 0] [(.ref a1), (.int 0)])) rfl rfl (bb d13_25)
  obtain ⟨T7, X7, e7, st7⟩ := getF X5 hx hZ hown (host := "") (Or.inl (wd23 hw)) Via.refl e5 F6 (g := (mkF m 35 #[vR a1, vI 0, vI 1, vR b4, vI 0, vI 0] [(.ref a1), (.int 0), (.ref b4)])) rfl rfl (bb d13_35)
  have F8 := (r10.ext E4)
  obtain ⟨cl9, Ar9, vq9, vS9, vN9, vH9, vG9⟩ := id F8
  have F10 := (r12.ext E4)
  obtain ⟨cl11, Ar11, vq11, vS11, vN11, vH11, vG11⟩ := id F10
  have F12 := (r15.ext E4)
  obtain ⟨cl13, Ar13, vq13, vS13, vN13, vH13, vG13⟩ := id F12
  have F14 := (r4.ext E4)
  have F15 := (r5.ext E4)
  have O17 := (O0.ext E4)
  have F18 := (r0.ext E4)
  obtain ⟨cq16, kq16, q16a, q16b, q16c⟩ := isOf hZ e7 F18
  obtain ⟨_, _, ⟨T16, L16, k16, n16⟩, -, X16, ⟨Lc16, hQ16, l16, y16, z16⟩, st16⟩ := X7.virtualBack hx (y := (⟨cRV, "get", "(II)I"⟩ : MethodName)) (z := (⟨cRV, "get", "(II)I"⟩ : MethodName)) hown (mvT hZ (wd84 hw)) (mvT hZ (wd76 hw)) (notFace_of_selects (args := #[]) (mvT hZ (wd78 hw))) (mvT hZ (wd78 hw)) (mvT hZ (wd77 hw)) (by decide) (backOf (W := 2) (rm_get2N l Z a0 hw [] a1 (0 : Int32) (0 : Int32) on ob ov cl9 cl11 cl13 eb0 ev0_0 h4 n0 (own_z0 O17) O17 S_CS F6 F14 F15 Ar9 (inb_of vS9 ⟨by decide, by decide⟩) (vH9.at (inb_of vS9 ⟨by decide, by decide⟩) rfl) Ar11 (inb_of vS11 ⟨by decide, by decide⟩) (vH11.at (inb_of vS11 ⟨by decide, by decide⟩) rfl) Ar13 (inb_of vS13 ⟨by decide, by decide⟩) (vH13.at (inb_of vS13 ⟨by decide, by decide⟩) rfl) hIn0_0) hZ (wd79 hw) (wd8 hw) (by decide) (by decide)) q16a q16c (g := (mkF m 53 #[vR a1, vI 0, vI 1, vR b4, vI 0, vI 0] [(.int 0), (.int 0), (.ref a1), (.int 0), (.ref b4)])) rfl (by rw [hml]; rfl) (Steps.refl _) (argsL := [(.int 0), (.int 0)]) (rest := [(.int 0), (.ref b4)]) (lenOf pd__II_I_5 rfl) rfl (by show 2 * 0 + _ ≤ _; exact Nat.le_of_eq rfl) (bb d13_53) (fun _ _ => ⟨rfl, e7, (by decide : 1 + 0 ≤ _), (by decide : 16 + 0 ≤ _)⟩)
  dsimp only [Pt.U, Pt.locs, Pt.cells, Pt.slots] at X16 l16 y16 z16 st16 hQ16
  subst l16 y16 z16
  obtain ⟨rfl, N16q, e16⟩ := hQ16
  have N16 := Fr.app N0 N16q
  obtain ⟨cl19, Ar19, vq19, vS19, vN19, vH19, vG19⟩ := id V_b4
  have hin19 : ¬ (((0 : Int32) : Int32) < 0 ∨ cl19.slots.size ≤ ((0 : Int32) : Int32).toNatClampNeg) := inb_of vS19 ⟨by decide, by decide⟩
  obtain ⟨T19, h19, X19, e19, W19, st19⟩ := stI X16 hx hZ e16 Ar19 (j := (0 : Int32)) hin19 (g := (mkF m 56 #[vR a1, vI 0, vI 1, vR b4, vI 0, vI 0] [(.int ev0_0), (.int 0), (.ref b4)])) rfl rfl (bb d13_56)
  have V19 : Arv Z h19 b4 k4 .int (16 : Int32) [(.int ev0_0), (.int 0), (.int 0), (.int 0), (.int 0), (.int 0), (.int 0), (.int 0), (.int 0), (.int 0), (.int 0), (.int 0), (.int 0), (.int 0), (.int 0), (.int 0)] (.int 0) := Arv.set Ar19 vq19 vS19 vN19 vH19 vG19 rfl W19 0 rfl (Nat.le_of_ble_eq_true rfl)
  have N19 := Fr.snoc X19 N16 g_b4
  have F21 := (F6.other W19 (Or.inl ne_a1_b4))
  obtain ⟨T20, X20, e20, st20⟩ := getF X19 hx hZ hown (host := "") (Or.inl (wd23 hw)) Via.refl e19 F21 (g := (mkF m 25 #[vR a1, vI 0, vI 1, vR b4, vI 0, vI 1] [(.ref a1), (.int 1)])) rfl rfl (bb d13_25)
  obtain ⟨T22, X22, e22, st22⟩ := getF X20 hx hZ hown (host := "") (Or.inl (wd23 hw)) Via.refl e20 F21 (g := (mkF m 35 #[vR a1, vI 0, vI 1, vR b4, vI 0, vI 1] [(.ref a1), (.int 0), (.ref b4)])) rfl rfl (bb d13_35)
  have F23 := (F8.other W19 ne_on_b4)
  obtain ⟨cl24, Ar24, vq24, vS24, vN24, vH24, vG24⟩ := id F23
  have F25 := (F10.other W19 ne_ob_b4)
  obtain ⟨cl26, Ar26, vq26, vS26, vN26, vH26, vG26⟩ := id F25
  have F27 := (F12.other W19 ne_ov_b4)
  obtain ⟨cl28, Ar28, vq28, vS28, vN28, vH28, vG28⟩ := id F27
  have F29 := (F14.other W19 (Or.inl ne_a1_b4))
  have F30 := (F15.other W19 (Or.inl ne_a1_b4))
  have O32 := (O17.wr W19 g_b4)
  have F33 := (F18.wr W19)
  obtain ⟨cq31, kq31, q31a, q31b, q31c⟩ := isOf hZ e22 F33
  obtain ⟨_, _, ⟨T31, L31, k31, n31⟩, -, X31, ⟨Lc31, hQ31, l31, y31, z31⟩, st31⟩ := X22.virtualBack hx (y := (⟨cRV, "get", "(II)I"⟩ : MethodName)) (z := (⟨cRV, "get", "(II)I"⟩ : MethodName)) hown (mvT hZ (wd84 hw)) (mvT hZ (wd76 hw)) (notFace_of_selects (args := #[]) (mvT hZ (wd78 hw))) (mvT hZ (wd78 hw)) (mvT hZ (wd77 hw)) (by decide) (backOf (W := 2) (rm_get2N l Z a0 hw [] a1 (0 : Int32) (1 : Int32) on ob ov cl24 cl26 cl28 eb1 ev0_1 h19 n0 (own_z0 O32) O32 S_CS F21 F29 F30 Ar24 (inb_of vS24 ⟨by decide, by decide⟩) (vH24.at (inb_of vS24 ⟨by decide, by decide⟩) rfl) Ar26 (inb_of vS26 ⟨by decide, by decide⟩) (vH26.at (inb_of vS26 ⟨by decide, by decide⟩) rfl) Ar28 (inb_of vS28 ⟨by decide, by decide⟩) (vH28.at (inb_of vS28 ⟨by decide, by decide⟩) rfl) hIn0_1) hZ (wd79 hw) (wd8 hw) (by decide) (by decide)) q31a q31c (g := (mkF m 53 #[vR a1, vI 0, vI 1, vR b4, vI 0, vI 1] [(.int 1), (.int 0), (.ref a1), (.int 1), (.ref b4)])) rfl (by rw [hml]; rfl) (Steps.refl _) (argsL := [(.int 0), (.int 1)]) (rest := [(.int 1), (.ref b4)]) (lenOf pd__II_I_5 rfl) rfl (by show 2 * 0 + _ ≤ _; exact Nat.le_of_eq rfl) (bb d13_53) (fun _ _ => ⟨rfl, e22, (by decide : 1 + 0 ≤ _), (by decide : 16 + 0 ≤ _)⟩)
  dsimp only [Pt.U, Pt.locs, Pt.cells, Pt.slots] at X31 l31 y31 z31 st31 hQ31
  subst l31 y31 z31
  obtain ⟨rfl, N31q, e31⟩ := hQ31
  have N31 := Fr.app N19 N31q
  obtain ⟨cl34, Ar34, vq34, vS34, vN34, vH34, vG34⟩ := id V19
  have hin34 : ¬ (((1 : Int32) : Int32) < 0 ∨ cl34.slots.size ≤ ((1 : Int32) : Int32).toNatClampNeg) := inb_of vS34 ⟨by decide, by decide⟩
  obtain ⟨T34, h34, X34, e34, W34, st34⟩ := stI X31 hx hZ e31 Ar34 (j := (1 : Int32)) hin34 (g := (mkF m 56 #[vR a1, vI 0, vI 1, vR b4, vI 0, vI 1] [(.int ev0_1), (.int 1), (.ref b4)])) rfl rfl (bb d13_56)
  have V34 : Arv Z h34 b4 k4 .int (16 : Int32) [(.int ev0_0), (.int ev0_1), (.int 0), (.int 0), (.int 0), (.int 0), (.int 0), (.int 0), (.int 0), (.int 0), (.int 0), (.int 0), (.int 0), (.int 0), (.int 0), (.int 0)] (.int 0) := Arv.set Ar34 vq34 vS34 vN34 vH34 vG34 rfl W34 1 rfl (Nat.le_of_ble_eq_true rfl)
  have N34 := Fr.snoc X34 N31 g_b4
  have F36 := (F21.other W34 (Or.inl ne_a1_b4))
  obtain ⟨T35, X35, e35, st35⟩ := getF X34 hx hZ hown (host := "") (Or.inl (wd23 hw)) Via.refl e34 F36 (g := (mkF m 25 #[vR a1, vI 0, vI 1, vR b4, vI 0, vI 2] [(.ref a1), (.int 2)])) rfl rfl (bb d13_25)
  have F38 := (((r3.ext E4).other W19 (Or.inl ne_a1_b4)).other W34 (Or.inl ne_a1_b4))
  obtain ⟨T37, X37, e37, st37⟩ := getF X35 hx hZ hown (host := "") (Or.inl (wd17 hw)) Via.refl e35 F38 (g := (mkF m 70 #[vR a1, vI 0, vI 1, vR b4, vI 1, vI 2] [(.ref a1)])) rfl rfl (bb d13_70)
  have F39 := (((r8.ext E4).other W19 ne_ow_b4).other W34 ne_ow_b4)
  obtain ⟨cl40, Ar40, vq40, vS40, vN40, vH40, vG40⟩ := id F39
  have hin40 : ¬ (((0 : Int32) : Int32) < 0 ∨ cl40.slots.size ≤ ((0 : Int32) : Int32).toNatClampNeg) := inb_of vS40 ⟨by decide, by decide⟩
  have F41 := ((B4.wr W19).wr W34)
  obtain ⟨T40, h40, X40, e40, W40, st40⟩ := stR X37 hx hZ e37 Ar40 (j := (0 : Int32)) hin40 rfl (Sto.ofVA Ar40 vq40 r9 (Ins.self F41)) (g := (mkF m 75 #[vR a1, vI 0, vI 1, vR b4, vI 1, vI 2] [(.ref b4), (.int 0), (.ref ow)])) rfl rfl (bb d13_75)
  have V40 : Arv Z h40 ow kw_ (.array .int) (1 : Int32) [(.ref b4)] .null := Arv.set Ar40 vq40 vS40 vN40 vH40 vG40 rfl W40 0 rfl (Nat.le_of_ble_eq_true rfl)
  have N40 := Fr.snoc X40 N34 g_ow
  have F43 := ((F29.other W34 (Or.inl ne_a1_b4)).other W40 (Or.inl ne_a1_ow))
  obtain ⟨T42, X42, e42, st42⟩ := getF X40 hx hZ hown (host := "") (Or.inl (wd21 hw)) Via.refl e40 F43 (g := (mkF m 77 #[vR a1, vI 0, vI 1, vR b4, vI 1, vI 2] [(.ref a1)])) rfl rfl (bb d13_77)
  have F44 := ((F23.other W34 ne_on_b4).other W40 (Ne.symm ne_ow_on))
  obtain ⟨cl45, Ar45, vq45, vS45, vN45, vH45, vG45⟩ := id F44
  have hin45 : ¬ (((0 : Int32) : Int32) < 0 ∨ cl45.slots.size ≤ ((0 : Int32) : Int32).toNatClampNeg) := inb_of vS45 ⟨by decide, by decide⟩
  obtain ⟨T45, h45, X45, e45, W45, st45⟩ := stR X42 hx hZ e42 Ar45 (j := (0 : Int32)) hin45 rfl (Or.inl rfl) (g := (mkF m 82 #[vR a1, vI 0, vI 1, vR b4, vI 1, vI 2] [.null, (.int 0), (.ref on)])) rfl rfl (bb d13_82)
  have V45 : Arv Z h45 on kn_ (.array .char) (1 : Int32) [.null] .null := Arv.set Ar45 vq45 vS45 vN45 vH45 vG45 rfl W45 0 rfl (Nat.le_of_ble_eq_true rfl)
  have N45 := Fr.snoc X45 N40 g_on
  have F46 := (V40.other W45 ne_ow_on)
  have F47 := ((V34.other W40 (Ne.symm ne_ow_b4)).other W45 (Ne.symm ne_on_b4))
  obtain ⟨fs, hr, hrun, hended, hW, hsame⟩ := X45.leave (v := none) (fun _ => rfl)
  refine ⟨_, _, pre0 _ ?_, hrun, hended, _, _, rfl, ?_, ⟨_, rfl⟩, hW, hsame.mono (by decide) (by decide)⟩
  · show GG p e below s₁ (mkF m 0 #[vR a1, vI 0, vI 1, .unset, .unset, .unset] []) _
    refine XS.aloadN X0.here hx rfl (bb d13_0) rfl rfl ?_
    refine st1 _ ?_
    show GG p e below T1 (mkF m 4 #[vR a1, vI 0, vI 1, .unset, .unset, .unset] [(.ref on)]) _
    refine XS.iloadN X1.here hx rfl (bb d13_4) rfl ?_
    refine X1.aaload hx (j := (0 : Int32)) (v := (.ref ov)) (by rw [e1]; exact Ar2.1) (State.isArrayOf_alike hZ.alike Ar2.2.1) rfl Ar2.2.2 hin2 (vH2.at hin2 rfl) (g := (mkF m 5 #[vR a1, vI 0, vI 1, .unset, .unset, .unset] [(.int 0), (.ref on)])) rfl rfl (bb d13_5) _ ?_
    show GG p e below T1 (mkF m 6 #[vR a1, vI 0, vI 1, .unset, .unset, .unset] [(.ref ov)]) _
    refine X1.arraylength hx (by rw [e1]; exact Ar3.1) (State.isArrayOf_alike hZ.alike Ar3.2.1) (g := (mkF m 6 #[vR a1, vI 0, vI 1, .unset, .unset, .unset] [(.ref ov)])) rfl rfl (bb d13_6) _ ?_
    rw [len_of vS3 vN3]
    show GG p e below T1 (mkF m 7 #[vR a1, vI 0, vI 1, .unset, .unset, .unset] [(.int 16)]) _
    refine st4 _ ?_
    show GG p e below T4 (mkF m 9 #[vR a1, vI 0, vI 1, .unset, .unset, .unset] [(.ref b4)]) _
    refine XS.astoreN X4.here hx rfl (bb d13_9) rfl rfl (l' := #[vR a1, vI 0, vI 1, vR b4, .unset, .unset]) rfl ?_
    show GG p e below T4 (mkF m 10 #[vR a1, vI 0, vI 1, vR b4, .unset, .unset] []) _
    refine XS.iconst X4.here hx rfl (bb d13_10) ?_
    refine XS.istore X4.here hx rfl (bb d13_11) rfl (l' := #[vR a1, vI 0, vI 1, vR b4, vI 0, .unset]) rfl ?_
    show GG p e below T4 (mkF m 13 #[vR a1, vI 0, vI 1, vR b4, vI 0, .unset] []) _
    refine XS.iload X4.here hx rfl (bb d13_13) rfl ?_
    refine XS.iloadN X4.here hx rfl (bb d13_15) rfl ?_
    refine XS.icmpNo X4.here hx rfl (bb d13_16) rfl (tlt (by decide : (0 : Int32) < (1 : Int32))).2.1 ?_
    refine XS.iconst X4.here hx rfl (bb d13_19) ?_
    show GG p e below T4 (mkF m 20 #[vR a1, vI 0, vI 1, vR b4, vI 0, .unset] [(.int 0)]) _
    refine XS.istore X4.here hx rfl (bb d13_20) rfl (l' := #[vR a1, vI 0, vI 1, vR b4, vI 0, vI 0]) rfl ?_
    show GG p e below T4 (mkF m 22 #[vR a1, vI 0, vI 1, vR b4, vI 0, vI 0] []) _
    refine XS.iload X4.here hx rfl (bb d13_22) rfl ?_
    refine XS.aloadN X4.here hx rfl (bb d13_24) rfl rfl ?_
    refine st5 _ ?_
    show GG p e below T5 (mkF m 28 #[vR a1, vI 0, vI 1, vR b4, vI 0, vI 0] [(.int 2), (.int 0)]) _
    refine XS.icmpNo X5.here hx rfl (bb d13_28) rfl (tlt (by decide : (0 : Int32) < (2 : Int32))).2.1 ?_
    refine XS.aloadN X5.here hx rfl (bb d13_31) rfl rfl ?_
    refine XS.iload X5.here hx rfl (bb d13_32) rfl ?_
    refine XS.aloadN X5.here hx rfl (bb d13_34) rfl rfl ?_
    show GG p e below T5 (mkF m 35 #[vR a1, vI 0, vI 1, vR b4, vI 0, vI 0] [(.ref a1), (.int 0), (.ref b4)]) _
    refine st7 _ ?_
    show GG p e below T7 (mkF m 38 #[vR a1, vI 0, vI 1, vR b4, vI 0, vI 0] [(.int 2), (.int 0), (.ref b4)]) _
    refine XS.imul X7.here hx rfl (bb d13_38) rfl ?_
    refine XS.iload X7.here hx rfl (bb d13_39) rfl ?_
    refine XS.iadd X7.here hx rfl (bb d13_41) rfl ?_
    refine XS.aloadN X7.here hx rfl (bb d13_42) rfl rfl ?_
    show GG p e below T7 (mkF m 43 #[vR a1, vI 0, vI 1, vR b4, vI 0, vI 0] [(.ref a1), (.int 0), (.ref b4)]) _
    refine XS.iloadN X7.here hx rfl (bb d13_43) rfl ?_
    refine XS.sipush X7.here hx rfl (bb d13_44) ?_
    refine XS.imul X7.here hx rfl (bb d13_47) rfl ?_
    refine XS.iload X7.here hx rfl (bb d13_48) rfl ?_
    show GG p e below T7 (mkF m 50 #[vR a1, vI 0, vI 1, vR b4, vI 0, vI 0] [(.int 0), (.int 0), (.ref a1), (.int 0), (.ref b4)]) _
    refine XS.iadd X7.here hx rfl (bb d13_50) rfl ?_
    refine XS.iload X7.here hx rfl (bb d13_51) rfl ?_
    refine st16.trans ?_
    show GG p e below T16 (mkF m 56 #[vR a1, vI 0, vI 1, vR b4, vI 0, vI 0] [(.int ev0_0), (.int 0), (.ref b4)]) _
    refine st19 _ ?_
    show GG p e below T19 (mkF m 57 #[vR a1, vI 0, vI 1, vR b4, vI 0, vI 0] []) _
    refine XS.iinc X19.here hx rfl (bb d13_57) rfl (l' := #[vR a1, vI 0, vI 1, vR b4, vI 0, vI 1]) rfl ?_
    show GG p e below T19 (mkF m 60 #[vR a1, vI 0, vI 1, vR b4, vI 0, vI 1] []) _
    refine XS.goto X19.here hx rfl (pc0 := 60) (pc' := 22) rfl (bb d13_60) (by decide) (by decide) ?_
    refine XS.iload X19.here hx rfl (bb d13_22) rfl ?_
    refine XS.aloadN X19.here hx rfl (bb d13_24) rfl rfl ?_
    refine st20 _ ?_
    show GG p e below T20 (mkF m 28 #[vR a1, vI 0, vI 1, vR b4, vI 0, vI 1] [(.int 2), (.int 1)]) _
    refine XS.icmpNo X20.here hx rfl (bb d13_28) rfl (tlt (by decide : (1 : Int32) < (2 : Int32))).2.1 ?_
    refine XS.aloadN X20.here hx rfl (bb d13_31) rfl rfl ?_
    refine XS.iload X20.here hx rfl (bb d13_32) rfl ?_
    refine XS.aloadN X20.here hx rfl (bb d13_34) rfl rfl ?_
    show GG p e below T20 (mkF m 35 #[vR a1, vI 0, vI 1, vR b4, vI 0, vI 1] [(.ref a1), (.int 0), (.ref b4)]) _
    refine st22 _ ?_
    show GG p e below T22 (mkF m 38 #[vR a1, vI 0, vI 1, vR b4, vI 0, vI 1] [(.int 2), (.int 0), (.ref b4)]) _
    refine XS.imul X22.here hx rfl (bb d13_38) rfl ?_
    refine XS.iload X22.here hx rfl (bb d13_39) rfl ?_
    refine XS.iadd X22.here hx rfl (bb d13_41) rfl ?_
    refine XS.aloadN X22.here hx rfl (bb d13_42) rfl rfl ?_
    show GG p e below T22 (mkF m 43 #[vR a1, vI 0, vI 1, vR b4, vI 0, vI 1] [(.ref a1), (.int 1), (.ref b4)]) _
    refine XS.iloadN X22.here hx rfl (bb d13_43) rfl ?_
    refine XS.sipush X22.here hx rfl (bb d13_44) ?_
    refine XS.imul X22.here hx rfl (bb d13_47) rfl ?_
    refine XS.iload X22.here hx rfl (bb d13_48) rfl ?_
    show GG p e below T22 (mkF m 50 #[vR a1, vI 0, vI 1, vR b4, vI 0, vI 1] [(.int 0), (.int 0), (.ref a1), (.int 1), (.ref b4)]) _
    refine XS.iadd X22.here hx rfl (bb d13_50) rfl ?_
    refine XS.iload X22.here hx rfl (bb d13_51) rfl ?_
    refine st31.trans ?_
    show GG p e below T31 (mkF m 56 #[vR a1, vI 0, vI 1, vR b4, vI 0, vI 1] [(.int ev0_1), (.int 1), (.ref b4)]) _
    refine st34 _ ?_
    show GG p e below T34 (mkF m 57 #[vR a1, vI 0, vI 1, vR b4, vI 0, vI 1] []) _
    refine XS.iinc X34.here hx rfl (bb d13_57) rfl (l' := #[vR a1, vI 0, vI 1, vR b4, vI 0, vI 2]) rfl ?_
    show GG p e below T34 (mkF m 60 #[vR a1, vI 0, vI 1, vR b4, vI 0, vI 2] []) _
    refine XS.goto X34.here hx rfl (pc0 := 60) (pc' := 22) rfl (bb d13_60) (by decide) (by decide) ?_
    refine XS.iload X34.here hx rfl (bb d13_22) rfl ?_
    refine XS.aloadN X34.here hx rfl (bb d13_24) rfl rfl ?_
    refine st35 _ ?_
    show GG p e below T35 (mkF m 28 #[vR a1, vI 0, vI 1, vR b4, vI 0, vI 2] [(.int 2), (.int 2)]) _
    refine XS.icmpYes X35.here hx rfl (pc0 := 28) (pc' := 63) rfl (bb d13_28) rfl (flt (by decide : ¬ ((2 : Int32) < (2 : Int32)))).2.1 (by decide) (by decide) ?_
    show GG p e below T35 (mkF m 63 #[vR a1, vI 0, vI 1, vR b4, vI 0, vI 2] []) _
    refine XS.iinc X35.here hx rfl (bb d13_63) rfl (l' := #[vR a1, vI 0, vI 1, vR b4, vI 1, vI 2]) rfl ?_
    show GG p e below T35 (mkF m 66 #[vR a1, vI 0, vI 1, vR b4, vI 1, vI 2] []) _
    refine XS.goto X35.here hx rfl (pc0 := 66) (pc' := 13) rfl (bb d13_66) (by decide) (by decide) ?_
    refine XS.iload X35.here hx rfl (bb d13_13) rfl ?_
    refine XS.iloadN X35.here hx rfl (bb d13_15) rfl ?_
    refine XS.icmpYes X35.here hx rfl (pc0 := 16) (pc' := 69) rfl (bb d13_16) rfl (flt (by decide : ¬ ((1 : Int32) < (1 : Int32)))).2.1 (by decide) (by decide) ?_
    show GG p e below T35 (mkF m 69 #[vR a1, vI 0, vI 1, vR b4, vI 1, vI 2] []) _
    refine XS.aloadN X35.here hx rfl (bb d13_69) rfl rfl ?_
    refine st37 _ ?_
    show GG p e below T37 (mkF m 73 #[vR a1, vI 0, vI 1, vR b4, vI 1, vI 2] [(.ref ow)]) _
    refine XS.iloadN X37.here hx rfl (bb d13_73) rfl ?_
    refine XS.aloadN X37.here hx rfl (bb d13_74) rfl rfl ?_
    refine st40 _ ?_
    show GG p e below T40 (mkF m 76 #[vR a1, vI 0, vI 1, vR b4, vI 1, vI 2] []) _
    refine XS.aloadN X40.here hx rfl (bb d13_76) rfl rfl ?_
    refine st42 _ ?_
    show GG p e below T42 (mkF m 80 #[vR a1, vI 0, vI 1, vR b4, vI 1, vI 2] [(.ref on)]) _
    refine XS.iloadN X42.here hx rfl (bb d13_80) rfl ?_
    refine XS.aconstNull X42.here hx rfl (bb d13_81) ?_
    show GG p e below T42 (mkF m 82 #[vR a1, vI 0, vI 1, vR b4, vI 1, vI 2] [.null, (.int 0), (.ref on)]) _
    refine st45 _ ?_
    show GG p e below T45 (mkF m 83 #[vR a1, vI 0, vI 1, vR b4, vI 1, vI 2] []) _
    exact X45.returnOut hx Bd.returns (bb d13_83) hr
  · show Q_widen2_1 Z a1 ow on ob ol oh ov kw_ kn_ kb_ kl_ kh_ kv_ eb0 eb1 el0 el1 eu0 eu1 ev0_0 ev0_1 ex2 ex3 ex4 ex5 ex6 ex7 ex8 ex9 ex10 ex11 ex12 ex13 ex14 ex15 h0 n0 _ T45.heap _
    rw [e45]
    exact ⟨b4, k4, rfl, N45, ((((((Keep.refl h0 [ow, on]).ext E4).wr W19 (Or.inr sz_b4)).wr W34 (Or.inr sz_b4)).wr W40 (Or.inl (List.mem_of_getElem? (i := 0) rfl))).wr W45 (Or.inl (List.mem_of_getElem? (i := 1) rfl))), sz_b4, F46, V45, F47⟩
def Q_fitW2_1 (Z : State) (a1 at_ ow on ob ol oh ov : Addr) (kw_ kn_ kb_ kl_ kh_ kv_ : ClassId) (eb0 eb1 el0 el1 eu0 eu1 ev0_0 ev0_1 ex2 ex3 ex4 ex5 ex6 ex7 ex8 ex9 ex10 ex11 ex12 ex13 ex14 ex15 : Int32) (kt_ : ClassId) (et0 et1 : Int32) (h0 : Heap) (n0 : Nat) (v : Option Value) (h : Heap) (L : List Loc) : Prop := ∃ (oz : Addr) (kz_ : ClassId), v = none ∧ Fr n0 L ∧ Keep h0 h [ow, on] ∧ h0.size ≤ oz ∧ Arv Z h ow kw_ (.array .int) (1 : Int32) [(.ref oz)] .null ∧ Arv Z h on kn_ (.array .char) (1 : Int32) [.null] .null ∧ Arv Z h oz kz_ .int (16 : Int32) [(.int ev0_0), (.int ev0_1), (.int 0), (.int 0), (.int 0), (.int 0), (.int 0), (.int 0), (.int 0), (.int 0), (.int 0), (.int 0), (.int 0), (.int 0), (.int 0), (.int 0)] (.int 0)
set_option maxRecDepth 65536 in
set_option maxHeartbeats 40000000 in
theorem rm_fitW2_1 (l : Launch) (Z : State) (a0 : Array Value) (hw : ∀ d ∈ tables_1, d.before a0 Z = true) (ws : List Jvm.Cond) (a1 at_ ow on ob ol oh ov : Addr) (kw_ kn_ kb_ kl_ kh_ kv_ : ClassId) (eb0 eb1 el0 el1 eu0 eu1 ev0_0 ev0_1 ex2 ex3 ex4 ex5 ex6 ex7 ex8 ex9 ex10 ex11 ex12 ex13 ex14 ex15 : Int32) (kt_ : ClassId) (et0 et1 : Int32) (h0 : Heap) (n0 : Nat) (Z0 : n0 ≤ h0.size) (O0 : Old Z n0 h0) (S_CS : Sta Z Z.heap cRV "CHUNK_SHIFT" "I" (.int (12 : Int32))) (r0 : Exa Z h0 a1 cRV) (r1 : Fld Z h0 a1 cRV "arity" "I" (.int 2)) (r2 : Fld Z h0 a1 cRV "rows" "I" (.int 1)) (r3 : Fld Z h0 a1 cRV "wide" "[[I" (.ref ow)) (r4 : Fld Z h0 a1 cRV "narrow" "[[C" (.ref on)) (r5 : Fld Z h0 a1 cRV "bases" "[I" (.ref ob)) (r6 : Fld Z h0 a1 cRV "lowest" "[I" (.ref ol)) (r7 : Fld Z h0 a1 cRV "highest" "[I" (.ref oh)) (r8 : Arv Z h0 ow kw_ (.array .int) (1 : Int32) [.null] .null) (r9 : OvrA Z kw_ .int "[I") (r10 : Arv Z h0 on kn_ (.array .char) (1 : Int32) [(.ref ov)] .null) (r11 : OvrA Z kn_ .char "[C") (r12 : Arv Z h0 ob kb_ .int (2 : Int32) [(.int eb0), (.int eb1)] (.int 0)) (r13 : Arv Z h0 ol kl_ .int (2 : Int32) [(.int el0), (.int el1)] (.int 0)) (r14 : Arv Z h0 oh kh_ .int (2 : Int32) [(.int eu0), (.int eu1)] (.int 0)) (r15 : Arv Z h0 ov kv_ .char (16 : Int32) [(.int (nar .char (ev0_0 - eb0))), (.int (nar .char (ev0_1 - eb1))), (.int ex2), (.int ex3), (.int ex4), (.int ex5), (.int ex6), (.int ex7), (.int ex8), (.int ex9), (.int ex10), (.int ex11), (.int ex12), (.int ex13), (.int ex14), (.int ex15)] (.int 0)) (r16 : Arv Z h0 at_ kt_ .int (2 : Int32) [(.int et0), (.int et1)] (.int 0)) (g_ow : n0 ≤ ow) (g_on : n0 ≤ on) (ne_a1_ow : a1 ≠ ow) (ne_a1_on : a1 ≠ on) (ne_a1_ob : a1 ≠ ob) (ne_a1_ol : a1 ≠ ol) (ne_a1_oh : a1 ≠ oh) (ne_a1_ov : a1 ≠ ov) (ne_ow_on : ow ≠ on) (ne_ow_ob : ow ≠ ob) (ne_ow_ol : ow ≠ ol) (ne_ow_oh : ow ≠ oh) (ne_ow_ov : ow ≠ ov) (ne_on_ob : on ≠ ob) (ne_on_ol : on ≠ ol) (ne_on_oh : on ≠ oh) (ne_on_ov : on ≠ ov) (ne_ob_ol : ob ≠ ol) (ne_ob_oh : ob ≠ oh) (ne_ob_ov : ob ≠ ov) (ne_ol_oh : ol ≠ oh) (ne_ol_ov : ol ≠ ov) (ne_oh_ov : oh ≠ ov) (ne_at__a1 : at_ ≠ a1) (ne_at__ow : at_ ≠ ow) (ne_at__on : at_ ≠ on) (ne_at__ob : at_ ≠ ob) (ne_at__ol : at_ ≠ ol) (ne_at__oh : at_ ≠ oh) (ne_at__ov : at_ ≠ ov) (hIn0_0 : ownIn eb0 ev0_0) (hIn0_1 : ownIn eb1 ev0_1) (hWd : ¬ (((lcmpW (((f_maxI et0 eu0).toInt64) - ((f_minI et0 el0).toInt64)) (65536 : Int64)) < (0 : Int32)) ∧ ((lcmpW (((f_maxI et1 eu1).toInt64) - ((f_minI et1 el1).toInt64)) (65536 : Int64)) < (0 : Int32)))) :
    MetFree l (⟨cRV, "fit", "(II[I)V"⟩ : MethodName) (head1 (Jvm.Cond.code (⟨cRV, "fit", "(II[I)V"⟩ : MethodName) prog_47_method_7_code 11 none :: ws) ({ frames := 2, cells := 1, slots := 16, locals := 36 } : Room)) (fun a U => a = #[(.ref a1), (.int 0), (.int 1), (.ref at_)] ∧ Z.Warmed39 U.vm ∧ U.heap = h0) (fun _ _ _ _ _ => True) (fun _ U o U' => ∃ v L, o = .returned v ∧ Q_fitW2_1 Z a1 at_ ow on ob ol oh ov kw_ kn_ kb_ kl_ kh_ kv_ eb0 eb1 el0 el1 eu0 eu1 ev0_0 ev0_1 ex2 ex3 ex4 ex5 ex6 ex7 ex8 ex9 ex10 ex11 ex12 ex13 ex14 ex15 kt_ et0 et1 h0 n0 v U'.heap L ∧ FrameEnd U o U' L ({ frames := 2, cells := 1, slots := 16, locals := 36 } : Room).cells ({ frames := 2, cells := 1, slots := 16, locals := 36 } : Room).slots) := by
  refine MetFree.of_bodySF (plainFor_of_name pn_RowValues) hisR ?_
  intro p e s m args below meth c s₁ Bd hml0 hP hK
  obtain ⟨rfl, hZ, hh⟩ := hP
  have hx := Bd.exec
  have hby := Bd.bytes
  have bb := fun {pc : Nat} {r : Except DecodeError (Instr × Nat)} (h : decode prog_47_method_7_code pc = r) => hb hby h
  have hml : c.maxLocals = 11 := hml0
  have hown : s.vm.findClass cRV = some m.cls := findClass_of_methodNamed Bd.named
  have hnm := (name_of_methodNamed Bd.named Bd.method).1
  have X0 : Stand p l e ({ frames := 2, cells := 1, slots := 16, locals := 36 } : Room) s m #[(.ref a1), (.int 0), (.int 1), (.ref at_)] below meth c s₁ [] 0 0 := Stand.of_body Bd
  have e0 : s₁.heap = h0 := by rw [← hh, Bd.state]; rfl
  have N0 := Fr.nil n0
  have pre0 : ∀ t, Steps p.tables e below (s₁.setTop (mkF m 0 #[vR a1, vI 0, vI 1, vR at_, .unset, .unset, .unset, .unset, .unset, .unset, .unset] [])) t → Steps p.tables e below (s₁.setTop (entryFrame m #[(.ref a1), (.int 0), (.int 1), (.ref at_)] 11)) t := fun t k => castTop (ef_fitW2_1 m a1 at_) k
  obtain ⟨T1, X1, e1, st1⟩ := getF X0 hx hZ hown (host := "") (Or.inl (wd23 hw)) Via.refl e0 r1 (g := (mkF m 6 #[vR a1, vI 0, vI 1, vR at_, vI 0, .unset, .unset, .unset, .unset, .unset, .unset] [(.ref a1), (.int 0)])) rfl rfl (bb d10_6)
  obtain ⟨cl2, Ar2, vq2, vS2, vN2, vH2, vG2⟩ := id r16
  have hin2 : ¬ (((0 : Int32) : Int32) < 0 ∨ cl2.slots.size ≤ ((0 : Int32) : Int32).toNatClampNeg) := inb_of vS2 ⟨by decide, by decide⟩
  obtain ⟨T3, X3, e3, st3⟩ := getF X1 hx hZ hown (host := "") (Or.inl (wd29 hw)) Via.refl e1 r7 (g := (mkF m 17 #[vR a1, vI 0, vI 1, vR at_, vI 0, .unset, .unset, .unset, .unset, .unset, .unset] [(.ref a1), (.int et0)])) rfl rfl (bb d10_17)
  obtain ⟨cl4, Ar4, vq4, vS4, vN4, vH4, vG4⟩ := id r14
  have hin4 : ¬ (((0 : Int32) : Int32) < 0 ∨ cl4.slots.size ≤ ((0 : Int32) : Int32).toNatClampNeg) := inb_of vS4 ⟨by decide, by decide⟩
  obtain ⟨_, _, ⟨T5, L5, k5, n5⟩, -, X5, ⟨Lc5, hQ5, l5, y5, z5⟩, st5⟩ := Jvm.LawKit.callS X3 hx (y := (⟨"java/lang/Math", "max", "(II)I"⟩ : MethodName)) hown (mvT hZ (wd71 hw)) (mvT hZ (wd72 hw)) (mvT hZ (wd54 hw)) (mvT hZ (wd73 hw)) (by decide) (backOf (W := 0) (rm_maxI l Z a0 hw [] et0 eu0 h0 n0 (own_z0 O0) O0 S_CS) hZ (wd73 hw) (wd54 hw) (by decide) (by decide)) (g := (mkF m 23 #[vR a1, vI 0, vI 1, vR at_, vI 0, .unset, .unset, .unset, .unset, .unset, .unset] [(.int eu0), (.int et0)])) rfl (by rw [hml]; rfl) (argsL := [(.int et0), (.int eu0)]) (rest := []) (lenOf pd__II_I_5 rfl) rfl (by show 2 * 0 + _ ≤ _; exact Nat.le_of_eq rfl) (bb d10_23) (fun _ _ => ⟨rfl, e3, (by decide : 0 + 0 ≤ _), (by decide : 0 + 0 ≤ _)⟩)
  dsimp only [Pt.U, Pt.locs, Pt.cells, Pt.slots] at X5 l5 y5 z5 st5 hQ5
  subst l5 y5 z5
  obtain ⟨rfl, N5q, e5⟩ := hQ5
  have N5 := Fr.app N0 N5q
  obtain ⟨cl6, Ar6, vq6, vS6, vN6, vH6, vG6⟩ := id r16
  have hin6 : ¬ (((0 : Int32) : Int32) < 0 ∨ cl6.slots.size ≤ ((0 : Int32) : Int32).toNatClampNeg) := inb_of vS6 ⟨by decide, by decide⟩
  obtain ⟨T7, X7, e7, st7⟩ := getF X5 hx hZ hown (host := "") (Or.inl (wd27 hw)) Via.refl e5 r6 (g := (mkF m 32 #[vR a1, vI 0, vI 1, vR at_, vI 0, .unset, .unset, .unset, .unset, .unset, .unset] [(.ref a1), (.int et0), (.long ((f_maxI et0 eu0).toInt64))])) rfl rfl (bb d10_32)
  obtain ⟨cl8, Ar8, vq8, vS8, vN8, vH8, vG8⟩ := id r13
  have hin8 : ¬ (((0 : Int32) : Int32) < 0 ∨ cl8.slots.size ≤ ((0 : Int32) : Int32).toNatClampNeg) := inb_of vS8 ⟨by decide, by decide⟩
  obtain ⟨_, _, ⟨T9, L9, k9, n9⟩, -, X9, ⟨Lc9, hQ9, l9, y9, z9⟩, st9⟩ := Jvm.LawKit.callS X7 hx (y := (⟨"java/lang/Math", "min", "(II)I"⟩ : MethodName)) hown (mvT hZ (wd64 hw)) (mvT hZ (wd65 hw)) (mvT hZ (wd54 hw)) (mvT hZ (wd66 hw)) (by decide) (backOf (W := 2) (rm_minI l Z a0 hw [] et0 el0 h0 n0 (own_z0 O0) O0 S_CS) hZ (wd66 hw) (wd54 hw) (by decide) (by decide)) (g := (mkF m 38 #[vR a1, vI 0, vI 1, vR at_, vI 0, .unset, .unset, .unset, .unset, .unset, .unset] [(.int el0), (.int et0), (.long ((f_maxI et0 eu0).toInt64))])) rfl (by rw [hml]; rfl) (argsL := [(.int et0), (.int el0)]) (rest := [(.long ((f_maxI et0 eu0).toInt64))]) (lenOf pd__II_I_5 rfl) rfl (by show 2 * 0 + _ ≤ _; exact Nat.le_of_eq rfl) (bb d10_38) (fun _ _ => ⟨rfl, e7, (by decide : 0 + 0 ≤ _), (by decide : 0 + 0 ≤ _)⟩)
  dsimp only [Pt.U, Pt.locs, Pt.cells, Pt.slots] at X9 l9 y9 z9 st9 hQ9
  subst l9 y9 z9
  obtain ⟨rfl, N9q, e9⟩ := hQ9
  have N9 := Fr.app N5 N9q
  have pre10 : ∀ t, GG p e below T9 (mkF m 51 #[vR a1, vI 0, vI 1, vR at_, vI 0, vJ (((f_maxI et0 eu0).toInt64) - ((f_minI et0 el0).toInt64)), .second, .unset, .unset, .unset, .unset] [(.int (lcmpW (((f_maxI et0 eu0).toInt64) - ((f_minI et0 el0).toInt64)) (65536 : Int64)))]) t → GG p e below s₁ (entryFrame m #[(.ref a1), (.int 0), (.int 1), (.ref at_)] 11) t := fun t k => pre0 t (by
      show GG p e below s₁ (mkF m 0 #[vR a1, vI 0, vI 1, vR at_, .unset, .unset, .unset, .unset, .unset, .unset, .unset] []) _
      refine XS.iconst X0.here hx rfl (bb d10_0) ?_
      refine XS.istore X0.here hx rfl (bb d10_1) rfl (l' := #[vR a1, vI 0, vI 1, vR at_, vI 0, .unset, .unset, .unset, .unset, .unset, .unset]) rfl ?_
      show GG p e below s₁ (mkF m 3 #[vR a1, vI 0, vI 1, vR at_, vI 0, .unset, .unset, .unset, .unset, .unset, .unset] []) _
      refine XS.iload X0.here hx rfl (bb d10_3) rfl ?_
      refine XS.aloadN X0.here hx rfl (bb d10_5) rfl rfl ?_
      refine st1 _ ?_
      show GG p e below T1 (mkF m 9 #[vR a1, vI 0, vI 1, vR at_, vI 0, .unset, .unset, .unset, .unset, .unset, .unset] [(.int 2), (.int 0)]) _
      refine XS.icmpNo X1.here hx rfl (bb d10_9) rfl (tlt (by decide : (0 : Int32) < (2 : Int32))).2.1 ?_
      refine XS.aloadN X1.here hx rfl (bb d10_12) rfl rfl ?_
      refine XS.iload X1.here hx rfl (bb d10_13) rfl ?_
      refine X1.iaload hx (j := (0 : Int32)) (v := (.int et0)) (by rw [e1]; exact Ar2.1) (State.isArrayOf_alike hZ.alike Ar2.2.1) Ar2.2.2 hin2 (vH2.at hin2 rfl) (g := (mkF m 15 #[vR a1, vI 0, vI 1, vR at_, vI 0, .unset, .unset, .unset, .unset, .unset, .unset] [(.int 0), (.ref at_)])) rfl rfl (bb d10_15) _ ?_
      show GG p e below T1 (mkF m 16 #[vR a1, vI 0, vI 1, vR at_, vI 0, .unset, .unset, .unset, .unset, .unset, .unset] [(.int et0)]) _
      refine XS.aloadN X1.here hx rfl (bb d10_16) rfl rfl ?_
      refine st3 _ ?_
      show GG p e below T3 (mkF m 20 #[vR a1, vI 0, vI 1, vR at_, vI 0, .unset, .unset, .unset, .unset, .unset, .unset] [(.ref oh), (.int et0)]) _
      refine XS.iload X3.here hx rfl (bb d10_20) rfl ?_
      refine X3.iaload hx (j := (0 : Int32)) (v := (.int eu0)) (by rw [e3]; exact Ar4.1) (State.isArrayOf_alike hZ.alike Ar4.2.1) Ar4.2.2 hin4 (vH4.at hin4 rfl) (g := (mkF m 22 #[vR a1, vI 0, vI 1, vR at_, vI 0, .unset, .unset, .unset, .unset, .unset, .unset] [(.int 0), (.ref oh), (.int et0)])) rfl rfl (bb d10_22) _ ?_
      show GG p e below T3 (mkF m 23 #[vR a1, vI 0, vI 1, vR at_, vI 0, .unset, .unset, .unset, .unset, .unset, .unset] [(.int eu0), (.int et0)]) _
      refine st5 _ ?_
      show GG p e below T5 (mkF m 26 #[vR a1, vI 0, vI 1, vR at_, vI 0, .unset, .unset, .unset, .unset, .unset, .unset] [(.int (f_maxI et0 eu0))]) _
      refine XS.i2l X5.here hx rfl (bb d10_26) rfl ?_
      refine XS.aloadN X5.here hx rfl (bb d10_27) rfl rfl ?_
      refine XS.iload X5.here hx rfl (bb d10_28) rfl ?_
      refine X5.iaload hx (j := (0 : Int32)) (v := (.int et0)) (by rw [e5]; exact Ar6.1) (State.isArrayOf_alike hZ.alike Ar6.2.1) Ar6.2.2 hin6 (vH6.at hin6 rfl) (g := (mkF m 30 #[vR a1, vI 0, vI 1, vR at_, vI 0, .unset, .unset, .unset, .unset, .unset, .unset] [(.int 0), (.ref at_), (.long ((f_maxI et0 eu0).toInt64))])) rfl rfl (bb d10_30) _ ?_
      show GG p e below T5 (mkF m 31 #[vR a1, vI 0, vI 1, vR at_, vI 0, .unset, .unset, .unset, .unset, .unset, .unset] [(.int et0), (.long ((f_maxI et0 eu0).toInt64))]) _
      refine XS.aloadN X5.here hx rfl (bb d10_31) rfl rfl ?_
      refine st7 _ ?_
      show GG p e below T7 (mkF m 35 #[vR a1, vI 0, vI 1, vR at_, vI 0, .unset, .unset, .unset, .unset, .unset, .unset] [(.ref ol), (.int et0), (.long ((f_maxI et0 eu0).toInt64))]) _
      refine XS.iload X7.here hx rfl (bb d10_35) rfl ?_
      refine X7.iaload hx (j := (0 : Int32)) (v := (.int el0)) (by rw [e7]; exact Ar8.1) (State.isArrayOf_alike hZ.alike Ar8.2.1) Ar8.2.2 hin8 (vH8.at hin8 rfl) (g := (mkF m 37 #[vR a1, vI 0, vI 1, vR at_, vI 0, .unset, .unset, .unset, .unset, .unset, .unset] [(.int 0), (.ref ol), (.int et0), (.long ((f_maxI et0 eu0).toInt64))])) rfl rfl (bb d10_37) _ ?_
      show GG p e below T7 (mkF m 38 #[vR a1, vI 0, vI 1, vR at_, vI 0, .unset, .unset, .unset, .unset, .unset, .unset] [(.int el0), (.int et0), (.long ((f_maxI et0 eu0).toInt64))]) _
      refine st9 _ ?_
      show GG p e below T9 (mkF m 41 #[vR a1, vI 0, vI 1, vR at_, vI 0, .unset, .unset, .unset, .unset, .unset, .unset] [(.int (f_minI et0 el0)), (.long ((f_maxI et0 eu0).toInt64))]) _
      refine XS.i2l X9.here hx rfl (bb d10_41) rfl ?_
      refine XS.lsub X9.here hx rfl (bb d10_42) rfl ?_
      show GG p e below T9 (mkF m 43 #[vR a1, vI 0, vI 1, vR at_, vI 0, .unset, .unset, .unset, .unset, .unset, .unset] [(.long (((f_maxI et0 eu0).toInt64) - ((f_minI et0 el0).toInt64)))]) _
      refine XS.lstore X9.here hx rfl (bb d10_43) rfl (l' := #[vR a1, vI 0, vI 1, vR at_, vI 0, vJ (((f_maxI et0 eu0).toInt64) - ((f_minI et0 el0).toInt64)), .second, .unset, .unset, .unset, .unset]) rfl ?_
      show GG p e below T9 (mkF m 45 #[vR a1, vI 0, vI 1, vR at_, vI 0, vJ (((f_maxI et0 eu0).toInt64) - ((f_minI et0 el0).toInt64)), .second, .unset, .unset, .unset, .unset] []) _
      refine XS.lload X9.here hx rfl (bb d10_45) rfl ?_
      refine X9.ldc2Long hx hown (mvT hZ (wd74 hw)) (g := (mkF m 47 #[vR a1, vI 0, vI 1, vR at_, vI 0, vJ (((f_maxI et0 eu0).toInt64) - ((f_minI et0 el0).toInt64)), .second, .unset, .unset, .unset, .unset] [(.long (((f_maxI et0 eu0).toInt64) - ((f_minI et0 el0).toInt64)))])) rfl (bb d10_47) _ ?_
      show GG p e below T9 (mkF m 50 #[vR a1, vI 0, vI 1, vR at_, vI 0, vJ (((f_maxI et0 eu0).toInt64) - ((f_minI et0 el0).toInt64)), .second, .unset, .unset, .unset, .unset] [(.long 65536), (.long (((f_maxI et0 eu0).toInt64) - ((f_minI et0 el0).toInt64)))]) _
      refine XS.lcmp X9.here hx rfl (bb d10_50) rfl ?_
      exact k)
  by_cases g11 : (lcmpW (((f_maxI et0 eu0).toInt64) - ((f_minI et0 el0).toInt64)) (65536 : Int64)) < (0 : Int32)
  · skip
    obtain ⟨T12, X12, e12, st12⟩ := getF X9 hx hZ hown (host := "") (Or.inl (wd23 hw)) Via.refl e9 r1 (g := (mkF m 6 #[vR a1, vI 0, vI 1, vR at_, vI 1, vJ (((f_maxI et0 eu0).toInt64) - ((f_minI et0 el0).toInt64)), .second, .unset, .unset, .unset, .unset] [(.ref a1), (.int 1)])) rfl rfl (bb d10_6)
    obtain ⟨cl13, Ar13, vq13, vS13, vN13, vH13, vG13⟩ := id r16
    have hin13 : ¬ (((1 : Int32) : Int32) < 0 ∨ cl13.slots.size ≤ ((1 : Int32) : Int32).toNatClampNeg) := inb_of vS13 ⟨by decide, by decide⟩
    obtain ⟨T14, X14, e14, st14⟩ := getF X12 hx hZ hown (host := "") (Or.inl (wd29 hw)) Via.refl e12 r7 (g := (mkF m 17 #[vR a1, vI 0, vI 1, vR at_, vI 1, vJ (((f_maxI et0 eu0).toInt64) - ((f_minI et0 el0).toInt64)), .second, .unset, .unset, .unset, .unset] [(.ref a1), (.int et1)])) rfl rfl (bb d10_17)
    obtain ⟨cl15, Ar15, vq15, vS15, vN15, vH15, vG15⟩ := id r14
    have hin15 : ¬ (((1 : Int32) : Int32) < 0 ∨ cl15.slots.size ≤ ((1 : Int32) : Int32).toNatClampNeg) := inb_of vS15 ⟨by decide, by decide⟩
    obtain ⟨_, _, ⟨T16, L16, k16, n16⟩, -, X16, ⟨Lc16, hQ16, l16, y16, z16⟩, st16⟩ := Jvm.LawKit.callS X14 hx (y := (⟨"java/lang/Math", "max", "(II)I"⟩ : MethodName)) hown (mvT hZ (wd71 hw)) (mvT hZ (wd72 hw)) (mvT hZ (wd54 hw)) (mvT hZ (wd73 hw)) (by decide) (backOf (W := 0) (rm_maxI l Z a0 hw [] et1 eu1 h0 n0 (own_z0 O0) O0 S_CS) hZ (wd73 hw) (wd54 hw) (by decide) (by decide)) (g := (mkF m 23 #[vR a1, vI 0, vI 1, vR at_, vI 1, vJ (((f_maxI et0 eu0).toInt64) - ((f_minI et0 el0).toInt64)), .second, .unset, .unset, .unset, .unset] [(.int eu1), (.int et1)])) rfl (by rw [hml]; rfl) (argsL := [(.int et1), (.int eu1)]) (rest := []) (lenOf pd__II_I_5 rfl) rfl (by show 2 * 0 + _ ≤ _; exact Nat.le_of_eq rfl) (bb d10_23) (fun _ _ => ⟨rfl, e14, (by decide : 0 + 0 ≤ _), (by decide : 0 + 0 ≤ _)⟩)
    dsimp only [Pt.U, Pt.locs, Pt.cells, Pt.slots] at X16 l16 y16 z16 st16 hQ16
    subst l16 y16 z16
    obtain ⟨rfl, N16q, e16⟩ := hQ16
    have N16 := Fr.app N9 N16q
    obtain ⟨cl17, Ar17, vq17, vS17, vN17, vH17, vG17⟩ := id r16
    have hin17 : ¬ (((1 : Int32) : Int32) < 0 ∨ cl17.slots.size ≤ ((1 : Int32) : Int32).toNatClampNeg) := inb_of vS17 ⟨by decide, by decide⟩
    obtain ⟨T18, X18, e18, st18⟩ := getF X16 hx hZ hown (host := "") (Or.inl (wd27 hw)) Via.refl e16 r6 (g := (mkF m 32 #[vR a1, vI 0, vI 1, vR at_, vI 1, vJ (((f_maxI et0 eu0).toInt64) - ((f_minI et0 el0).toInt64)), .second, .unset, .unset, .unset, .unset] [(.ref a1), (.int et1), (.long ((f_maxI et1 eu1).toInt64))])) rfl rfl (bb d10_32)
    obtain ⟨cl19, Ar19, vq19, vS19, vN19, vH19, vG19⟩ := id r13
    have hin19 : ¬ (((1 : Int32) : Int32) < 0 ∨ cl19.slots.size ≤ ((1 : Int32) : Int32).toNatClampNeg) := inb_of vS19 ⟨by decide, by decide⟩
    obtain ⟨_, _, ⟨T20, L20, k20, n20⟩, -, X20, ⟨Lc20, hQ20, l20, y20, z20⟩, st20⟩ := Jvm.LawKit.callS X18 hx (y := (⟨"java/lang/Math", "min", "(II)I"⟩ : MethodName)) hown (mvT hZ (wd64 hw)) (mvT hZ (wd65 hw)) (mvT hZ (wd54 hw)) (mvT hZ (wd66 hw)) (by decide) (backOf (W := 2) (rm_minI l Z a0 hw [] et1 el1 h0 n0 (own_z0 O0) O0 S_CS) hZ (wd66 hw) (wd54 hw) (by decide) (by decide)) (g := (mkF m 38 #[vR a1, vI 0, vI 1, vR at_, vI 1, vJ (((f_maxI et0 eu0).toInt64) - ((f_minI et0 el0).toInt64)), .second, .unset, .unset, .unset, .unset] [(.int el1), (.int et1), (.long ((f_maxI et1 eu1).toInt64))])) rfl (by rw [hml]; rfl) (argsL := [(.int et1), (.int el1)]) (rest := [(.long ((f_maxI et1 eu1).toInt64))]) (lenOf pd__II_I_5 rfl) rfl (by show 2 * 0 + _ ≤ _; exact Nat.le_of_eq rfl) (bb d10_38) (fun _ _ => ⟨rfl, e18, (by decide : 0 + 0 ≤ _), (by decide : 0 + 0 ≤ _)⟩)
    dsimp only [Pt.U, Pt.locs, Pt.cells, Pt.slots] at X20 l20 y20 z20 st20 hQ20
    subst l20 y20 z20
    obtain ⟨rfl, N20q, e20⟩ := hQ20
    have N20 := Fr.app N16 N20q
    obtain ⟨cq21, q21, q21'⟩ := (r0).cell
    obtain ⟨_, _, ⟨T21, L21, k21, n21⟩, -, X21, ⟨Lc21, hQ21, l21, y21, z21⟩, st21⟩ := X20.privateBack hx (y := (⟨cRV, "widen", "(II)V"⟩ : MethodName)) hown (mvT hZ (wd80 hw)) (mvT hZ (wd81 hw)) (own_sel (mvT hZ (wd7 hw)) (mvT hZ (wd81 hw)) (mvP hZ (wd82 hw)) (by decide)) (Cond.privateMethod_at (mvP hZ (wd82 hw) (args := #[]))) (mvT hZ (wd83 hw)) (by decide) (backOf (W := 0) (rm_widen2_1 l Z a0 hw [] a1 ow on ob ol oh ov kw_ kn_ kb_ kl_ kh_ kv_ eb0 eb1 el0 el1 eu0 eu1 ev0_0 ev0_1 ex2 ex3 ex4 ex5 ex6 ex7 ex8 ex9 ex10 ex11 ex12 ex13 ex14 ex15 h0 n0 (own_z0 O0) O0 S_CS r0 r1 r2 r3 r4 r5 r6 r7 r8 r9 r10 r11 r12 r13 r14 r15 g_ow g_on ne_a1_ow ne_a1_on ne_a1_ob ne_a1_ol ne_a1_oh ne_a1_ov ne_ow_on ne_ow_ob ne_ow_ol ne_ow_oh ne_ow_ov ne_on_ob ne_on_ol ne_on_oh ne_on_ov ne_ob_ol ne_ob_oh ne_ob_ov ne_ol_oh ne_ol_ov ne_oh_ov hIn0_0 hIn0_1) hZ (wd83 hw) (wd8 hw) (by decide) (by decide)) (g := (mkF m 57 #[vR a1, vI 0, vI 1, vR at_, vI 1, vJ (((f_maxI et1 eu1).toInt64) - ((f_minI et1 el1).toInt64)), .second, .unset, .unset, .unset, .unset] [(.int 1), (.int 0), (.ref a1)])) rfl (by rw [hml]; rfl) (Steps.refl _) (a := a1) (by rw [e20]; exact q21) q21' (argsL := [(.int 0), (.int 1)]) (rest := []) (lenOf pd__II_V_5 rfl) rfl (by show 2 * 0 + _ ≤ _; exact Nat.le_of_eq rfl) (bb d10_57) (fun _ _ => ⟨rfl, e20, (by decide : 0 + 1 ≤ _), (by decide : 0 + 16 ≤ _)⟩)
    dsimp only [Pt.U, Pt.locs, Pt.cells, Pt.slots] at X21 l21 y21 z21 st21 hQ21
    subst l21 y21 z21
    obtain ⟨oz21, kz_21, rfl, N21q, K21, szz_oz21, f21_0, f21_1, f21_2⟩ := hQ21
    have N21 := Fr.app N20 N21q
    have g_oz21 : n0 ≤ oz21 := Nat.le_trans (own_z0 O0) szz_oz21
    have sz_oz21 : h0.size ≤ oz21 := Nat.le_trans (Nat.le_refl _) szz_oz21
    have ne_a1_oz21 : a1 ≠ oz21 := Nat.ne_of_lt (Nat.lt_of_lt_of_le r0.lt szz_oz21)
    have ne_ow_oz21 : ow ≠ oz21 := Nat.ne_of_lt (Nat.lt_of_lt_of_le r8.lt szz_oz21)
    have ne_on_oz21 : on ≠ oz21 := Nat.ne_of_lt (Nat.lt_of_lt_of_le r10.lt szz_oz21)
    have ne_ob_oz21 : ob ≠ oz21 := Nat.ne_of_lt (Nat.lt_of_lt_of_le r12.lt szz_oz21)
    have ne_ol_oz21 : ol ≠ oz21 := Nat.ne_of_lt (Nat.lt_of_lt_of_le r13.lt szz_oz21)
    have ne_oh_oz21 : oh ≠ oz21 := Nat.ne_of_lt (Nat.lt_of_lt_of_le r14.lt szz_oz21)
    have ne_ov_oz21 : ov ≠ oz21 := Nat.ne_of_lt (Nat.lt_of_lt_of_le r15.lt szz_oz21)
    have ne_at__oz21 : at_ ≠ oz21 := Nat.ne_of_lt (Nat.lt_of_lt_of_le r16.lt szz_oz21)
    obtain ⟨fs, hr, hrun, hended, hW, hsame⟩ := X21.leave (v := none) (fun _ => rfl)
    refine ⟨_, _, pre10 _ ?_, hrun, hended, _, _, rfl, ?_, ⟨_, rfl⟩, hW, hsame.mono (by decide) (by decide)⟩
    · show GG p e below T9 (mkF m 51 #[vR a1, vI 0, vI 1, vR at_, vI 0, vJ (((f_maxI et0 eu0).toInt64) - ((f_minI et0 el0).toInt64)), .second, .unset, .unset, .unset, .unset] [(.int (lcmpW (((f_maxI et0 eu0).toInt64) - ((f_minI et0 el0).toInt64)) (65536 : Int64)))]) _
      refine XS.ifYes X9.here hx rfl (pc0 := 51) (pc' := 61) rfl (bb d10_51) rfl ((if0 _ _).trans (tlt g11).1) (by decide) (by decide) ?_
      show GG p e below T9 (mkF m 61 #[vR a1, vI 0, vI 1, vR at_, vI 0, vJ (((f_maxI et0 eu0).toInt64) - ((f_minI et0 el0).toInt64)), .second, .unset, .unset, .unset, .unset] []) _
      refine XS.iinc X9.here hx rfl (bb d10_61) rfl (l' := #[vR a1, vI 0, vI 1, vR at_, vI 1, vJ (((f_maxI et0 eu0).toInt64) - ((f_minI et0 el0).toInt64)), .second, .unset, .unset, .unset, .unset]) rfl ?_
      show GG p e below T9 (mkF m 64 #[vR a1, vI 0, vI 1, vR at_, vI 1, vJ (((f_maxI et0 eu0).toInt64) - ((f_minI et0 el0).toInt64)), .second, .unset, .unset, .unset, .unset] []) _
      refine XS.goto X9.here hx rfl (pc0 := 64) (pc' := 3) rfl (bb d10_64) (by decide) (by decide) ?_
      refine XS.iload X9.here hx rfl (bb d10_3) rfl ?_
      refine XS.aloadN X9.here hx rfl (bb d10_5) rfl rfl ?_
      refine st12 _ ?_
      show GG p e below T12 (mkF m 9 #[vR a1, vI 0, vI 1, vR at_, vI 1, vJ (((f_maxI et0 eu0).toInt64) - ((f_minI et0 el0).toInt64)), .second, .unset, .unset, .unset, .unset] [(.int 2), (.int 1)]) _
      refine XS.icmpNo X12.here hx rfl (bb d10_9) rfl (tlt (by decide : (1 : Int32) < (2 : Int32))).2.1 ?_
      refine XS.aloadN X12.here hx rfl (bb d10_12) rfl rfl ?_
      refine XS.iload X12.here hx rfl (bb d10_13) rfl ?_
      refine X12.iaload hx (j := (1 : Int32)) (v := (.int et1)) (by rw [e12]; exact Ar13.1) (State.isArrayOf_alike hZ.alike Ar13.2.1) Ar13.2.2 hin13 (vH13.at hin13 rfl) (g := (mkF m 15 #[vR a1, vI 0, vI 1, vR at_, vI 1, vJ (((f_maxI et0 eu0).toInt64) - ((f_minI et0 el0).toInt64)), .second, .unset, .unset, .unset, .unset] [(.int 1), (.ref at_)])) rfl rfl (bb d10_15) _ ?_
      show GG p e below T12 (mkF m 16 #[vR a1, vI 0, vI 1, vR at_, vI 1, vJ (((f_maxI et0 eu0).toInt64) - ((f_minI et0 el0).toInt64)), .second, .unset, .unset, .unset, .unset] [(.int et1)]) _
      refine XS.aloadN X12.here hx rfl (bb d10_16) rfl rfl ?_
      refine st14 _ ?_
      show GG p e below T14 (mkF m 20 #[vR a1, vI 0, vI 1, vR at_, vI 1, vJ (((f_maxI et0 eu0).toInt64) - ((f_minI et0 el0).toInt64)), .second, .unset, .unset, .unset, .unset] [(.ref oh), (.int et1)]) _
      refine XS.iload X14.here hx rfl (bb d10_20) rfl ?_
      refine X14.iaload hx (j := (1 : Int32)) (v := (.int eu1)) (by rw [e14]; exact Ar15.1) (State.isArrayOf_alike hZ.alike Ar15.2.1) Ar15.2.2 hin15 (vH15.at hin15 rfl) (g := (mkF m 22 #[vR a1, vI 0, vI 1, vR at_, vI 1, vJ (((f_maxI et0 eu0).toInt64) - ((f_minI et0 el0).toInt64)), .second, .unset, .unset, .unset, .unset] [(.int 1), (.ref oh), (.int et1)])) rfl rfl (bb d10_22) _ ?_
      show GG p e below T14 (mkF m 23 #[vR a1, vI 0, vI 1, vR at_, vI 1, vJ (((f_maxI et0 eu0).toInt64) - ((f_minI et0 el0).toInt64)), .second, .unset, .unset, .unset, .unset] [(.int eu1), (.int et1)]) _
      refine st16 _ ?_
      show GG p e below T16 (mkF m 26 #[vR a1, vI 0, vI 1, vR at_, vI 1, vJ (((f_maxI et0 eu0).toInt64) - ((f_minI et0 el0).toInt64)), .second, .unset, .unset, .unset, .unset] [(.int (f_maxI et1 eu1))]) _
      refine XS.i2l X16.here hx rfl (bb d10_26) rfl ?_
      refine XS.aloadN X16.here hx rfl (bb d10_27) rfl rfl ?_
      refine XS.iload X16.here hx rfl (bb d10_28) rfl ?_
      refine X16.iaload hx (j := (1 : Int32)) (v := (.int et1)) (by rw [e16]; exact Ar17.1) (State.isArrayOf_alike hZ.alike Ar17.2.1) Ar17.2.2 hin17 (vH17.at hin17 rfl) (g := (mkF m 30 #[vR a1, vI 0, vI 1, vR at_, vI 1, vJ (((f_maxI et0 eu0).toInt64) - ((f_minI et0 el0).toInt64)), .second, .unset, .unset, .unset, .unset] [(.int 1), (.ref at_), (.long ((f_maxI et1 eu1).toInt64))])) rfl rfl (bb d10_30) _ ?_
      show GG p e below T16 (mkF m 31 #[vR a1, vI 0, vI 1, vR at_, vI 1, vJ (((f_maxI et0 eu0).toInt64) - ((f_minI et0 el0).toInt64)), .second, .unset, .unset, .unset, .unset] [(.int et1), (.long ((f_maxI et1 eu1).toInt64))]) _
      refine XS.aloadN X16.here hx rfl (bb d10_31) rfl rfl ?_
      refine st18 _ ?_
      show GG p e below T18 (mkF m 35 #[vR a1, vI 0, vI 1, vR at_, vI 1, vJ (((f_maxI et0 eu0).toInt64) - ((f_minI et0 el0).toInt64)), .second, .unset, .unset, .unset, .unset] [(.ref ol), (.int et1), (.long ((f_maxI et1 eu1).toInt64))]) _
      refine XS.iload X18.here hx rfl (bb d10_35) rfl ?_
      refine X18.iaload hx (j := (1 : Int32)) (v := (.int el1)) (by rw [e18]; exact Ar19.1) (State.isArrayOf_alike hZ.alike Ar19.2.1) Ar19.2.2 hin19 (vH19.at hin19 rfl) (g := (mkF m 37 #[vR a1, vI 0, vI 1, vR at_, vI 1, vJ (((f_maxI et0 eu0).toInt64) - ((f_minI et0 el0).toInt64)), .second, .unset, .unset, .unset, .unset] [(.int 1), (.ref ol), (.int et1), (.long ((f_maxI et1 eu1).toInt64))])) rfl rfl (bb d10_37) _ ?_
      show GG p e below T18 (mkF m 38 #[vR a1, vI 0, vI 1, vR at_, vI 1, vJ (((f_maxI et0 eu0).toInt64) - ((f_minI et0 el0).toInt64)), .second, .unset, .unset, .unset, .unset] [(.int el1), (.int et1), (.long ((f_maxI et1 eu1).toInt64))]) _
      refine st20 _ ?_
      show GG p e below T20 (mkF m 41 #[vR a1, vI 0, vI 1, vR at_, vI 1, vJ (((f_maxI et0 eu0).toInt64) - ((f_minI et0 el0).toInt64)), .second, .unset, .unset, .unset, .unset] [(.int (f_minI et1 el1)), (.long ((f_maxI et1 eu1).toInt64))]) _
      refine XS.i2l X20.here hx rfl (bb d10_41) rfl ?_
      refine XS.lsub X20.here hx rfl (bb d10_42) rfl ?_
      show GG p e below T20 (mkF m 43 #[vR a1, vI 0, vI 1, vR at_, vI 1, vJ (((f_maxI et0 eu0).toInt64) - ((f_minI et0 el0).toInt64)), .second, .unset, .unset, .unset, .unset] [(.long (((f_maxI et1 eu1).toInt64) - ((f_minI et1 el1).toInt64)))]) _
      refine XS.lstore X20.here hx rfl (bb d10_43) rfl (l' := #[vR a1, vI 0, vI 1, vR at_, vI 1, vJ (((f_maxI et1 eu1).toInt64) - ((f_minI et1 el1).toInt64)), .second, .unset, .unset, .unset, .unset]) rfl ?_
      show GG p e below T20 (mkF m 45 #[vR a1, vI 0, vI 1, vR at_, vI 1, vJ (((f_maxI et1 eu1).toInt64) - ((f_minI et1 el1).toInt64)), .second, .unset, .unset, .unset, .unset] []) _
      refine XS.lload X20.here hx rfl (bb d10_45) rfl ?_
      refine X20.ldc2Long hx hown (mvT hZ (wd74 hw)) (g := (mkF m 47 #[vR a1, vI 0, vI 1, vR at_, vI 1, vJ (((f_maxI et1 eu1).toInt64) - ((f_minI et1 el1).toInt64)), .second, .unset, .unset, .unset, .unset] [(.long (((f_maxI et1 eu1).toInt64) - ((f_minI et1 el1).toInt64)))])) rfl (bb d10_47) _ ?_
      show GG p e below T20 (mkF m 50 #[vR a1, vI 0, vI 1, vR at_, vI 1, vJ (((f_maxI et1 eu1).toInt64) - ((f_minI et1 el1).toInt64)), .second, .unset, .unset, .unset, .unset] [(.long 65536), (.long (((f_maxI et1 eu1).toInt64) - ((f_minI et1 el1).toInt64)))]) _
      refine XS.lcmp X20.here hx rfl (bb d10_50) rfl ?_
      show GG p e below T20 (mkF m 51 #[vR a1, vI 0, vI 1, vR at_, vI 1, vJ (((f_maxI et1 eu1).toInt64) - ((f_minI et1 el1).toInt64)), .second, .unset, .unset, .unset, .unset] [(.int (lcmpW (((f_maxI et1 eu1).toInt64) - ((f_minI et1 el1).toInt64)) (65536 : Int64)))]) _
      refine XS.ifNo X20.here hx rfl (bb d10_51) rfl ((if0 _ _).trans (flt (fun q => hWd ⟨g11, q⟩)).1) ?_
      refine XS.aloadN X20.here hx rfl (bb d10_54) rfl rfl ?_
      refine XS.iloadN X20.here hx rfl (bb d10_55) rfl ?_
      refine XS.iloadN X20.here hx rfl (bb d10_56) rfl ?_
      show GG p e below T20 (mkF m 57 #[vR a1, vI 0, vI 1, vR at_, vI 1, vJ (((f_maxI et1 eu1).toInt64) - ((f_minI et1 el1).toInt64)), .second, .unset, .unset, .unset, .unset] [(.int 1), (.int 0), (.ref a1)]) _
      refine st21.trans ?_
      show GG p e below T21 (mkF m 60 #[vR a1, vI 0, vI 1, vR at_, vI 1, vJ (((f_maxI et1 eu1).toInt64) - ((f_minI et1 el1).toInt64)), .second, .unset, .unset, .unset, .unset] []) _
      exact X21.returnOut hx Bd.returns (bb d10_60) hr
    · show Q_fitW2_1 Z a1 at_ ow on ob ol oh ov kw_ kn_ kb_ kl_ kh_ kv_ eb0 eb1 el0 el1 eu0 eu1 ev0_0 ev0_1 ex2 ex3 ex4 ex5 ex6 ex7 ex8 ex9 ex10 ex11 ex12 ex13 ex14 ex15 kt_ et0 et1 h0 n0 _ T21.heap _
      exact ⟨oz21, kz_21, rfl, N21, ((Keep.refl h0 [ow, on]).trans K21 (allS (Or.inl (List.mem_of_getElem? (i := 0) rfl)) (allS (Or.inl (List.mem_of_getElem? (i := 1) rfl)) all0))), sz_oz21, f21_0, f21_1, f21_2⟩
  · skip
    obtain ⟨cq22, q22, q22'⟩ := (r0).cell
    obtain ⟨_, _, ⟨T22, L22, k22, n22⟩, -, X22, ⟨Lc22, hQ22, l22, y22, z22⟩, st22⟩ := X9.privateBack hx (y := (⟨cRV, "widen", "(II)V"⟩ : MethodName)) hown (mvT hZ (wd80 hw)) (mvT hZ (wd81 hw)) (own_sel (mvT hZ (wd7 hw)) (mvT hZ (wd81 hw)) (mvP hZ (wd82 hw)) (by decide)) (Cond.privateMethod_at (mvP hZ (wd82 hw) (args := #[]))) (mvT hZ (wd83 hw)) (by decide) (backOf (W := 0) (rm_widen2_1 l Z a0 hw [] a1 ow on ob ol oh ov kw_ kn_ kb_ kl_ kh_ kv_ eb0 eb1 el0 el1 eu0 eu1 ev0_0 ev0_1 ex2 ex3 ex4 ex5 ex6 ex7 ex8 ex9 ex10 ex11 ex12 ex13 ex14 ex15 h0 n0 (own_z0 O0) O0 S_CS r0 r1 r2 r3 r4 r5 r6 r7 r8 r9 r10 r11 r12 r13 r14 r15 g_ow g_on ne_a1_ow ne_a1_on ne_a1_ob ne_a1_ol ne_a1_oh ne_a1_ov ne_ow_on ne_ow_ob ne_ow_ol ne_ow_oh ne_ow_ov ne_on_ob ne_on_ol ne_on_oh ne_on_ov ne_ob_ol ne_ob_oh ne_ob_ov ne_ol_oh ne_ol_ov ne_oh_ov hIn0_0 hIn0_1) hZ (wd83 hw) (wd8 hw) (by decide) (by decide)) (g := (mkF m 57 #[vR a1, vI 0, vI 1, vR at_, vI 0, vJ (((f_maxI et0 eu0).toInt64) - ((f_minI et0 el0).toInt64)), .second, .unset, .unset, .unset, .unset] [(.int 1), (.int 0), (.ref a1)])) rfl (by rw [hml]; rfl) (Steps.refl _) (a := a1) (by rw [e9]; exact q22) q22' (argsL := [(.int 0), (.int 1)]) (rest := []) (lenOf pd__II_V_5 rfl) rfl (by show 2 * 0 + _ ≤ _; exact Nat.le_of_eq rfl) (bb d10_57) (fun _ _ => ⟨rfl, e9, (by decide : 0 + 1 ≤ _), (by decide : 0 + 16 ≤ _)⟩)
    dsimp only [Pt.U, Pt.locs, Pt.cells, Pt.slots] at X22 l22 y22 z22 st22 hQ22
    subst l22 y22 z22
    obtain ⟨oz22, kz_22, rfl, N22q, K22, szz_oz22, f22_0, f22_1, f22_2⟩ := hQ22
    have N22 := Fr.app N9 N22q
    have g_oz22 : n0 ≤ oz22 := Nat.le_trans (own_z0 O0) szz_oz22
    have sz_oz22 : h0.size ≤ oz22 := Nat.le_trans (Nat.le_refl _) szz_oz22
    have ne_a1_oz22 : a1 ≠ oz22 := Nat.ne_of_lt (Nat.lt_of_lt_of_le r0.lt szz_oz22)
    have ne_ow_oz22 : ow ≠ oz22 := Nat.ne_of_lt (Nat.lt_of_lt_of_le r8.lt szz_oz22)
    have ne_on_oz22 : on ≠ oz22 := Nat.ne_of_lt (Nat.lt_of_lt_of_le r10.lt szz_oz22)
    have ne_ob_oz22 : ob ≠ oz22 := Nat.ne_of_lt (Nat.lt_of_lt_of_le r12.lt szz_oz22)
    have ne_ol_oz22 : ol ≠ oz22 := Nat.ne_of_lt (Nat.lt_of_lt_of_le r13.lt szz_oz22)
    have ne_oh_oz22 : oh ≠ oz22 := Nat.ne_of_lt (Nat.lt_of_lt_of_le r14.lt szz_oz22)
    have ne_ov_oz22 : ov ≠ oz22 := Nat.ne_of_lt (Nat.lt_of_lt_of_le r15.lt szz_oz22)
    have ne_at__oz22 : at_ ≠ oz22 := Nat.ne_of_lt (Nat.lt_of_lt_of_le r16.lt szz_oz22)
    obtain ⟨fs, hr, hrun, hended, hW, hsame⟩ := X22.leave (v := none) (fun _ => rfl)
    refine ⟨_, _, pre10 _ ?_, hrun, hended, _, _, rfl, ?_, ⟨_, rfl⟩, hW, hsame.mono (by decide) (by decide)⟩
    · show GG p e below T9 (mkF m 51 #[vR a1, vI 0, vI 1, vR at_, vI 0, vJ (((f_maxI et0 eu0).toInt64) - ((f_minI et0 el0).toInt64)), .second, .unset, .unset, .unset, .unset] [(.int (lcmpW (((f_maxI et0 eu0).toInt64) - ((f_minI et0 el0).toInt64)) (65536 : Int64)))]) _
      refine XS.ifNo X9.here hx rfl (bb d10_51) rfl ((if0 _ _).trans (flt g11).1) ?_
      refine XS.aloadN X9.here hx rfl (bb d10_54) rfl rfl ?_
      refine XS.iloadN X9.here hx rfl (bb d10_55) rfl ?_
      refine XS.iloadN X9.here hx rfl (bb d10_56) rfl ?_
      show GG p e below T9 (mkF m 57 #[vR a1, vI 0, vI 1, vR at_, vI 0, vJ (((f_maxI et0 eu0).toInt64) - ((f_minI et0 el0).toInt64)), .second, .unset, .unset, .unset, .unset] [(.int 1), (.int 0), (.ref a1)]) _
      refine st22.trans ?_
      show GG p e below T22 (mkF m 60 #[vR a1, vI 0, vI 1, vR at_, vI 0, vJ (((f_maxI et0 eu0).toInt64) - ((f_minI et0 el0).toInt64)), .second, .unset, .unset, .unset, .unset] []) _
      exact X22.returnOut hx Bd.returns (bb d10_60) hr
    · show Q_fitW2_1 Z a1 at_ ow on ob ol oh ov kw_ kn_ kb_ kl_ kh_ kv_ eb0 eb1 el0 el1 eu0 eu1 ev0_0 ev0_1 ex2 ex3 ex4 ex5 ex6 ex7 ex8 ex9 ex10 ex11 ex12 ex13 ex14 ex15 kt_ et0 et1 h0 n0 _ T22.heap _
      exact ⟨oz22, kz_22, rfl, N22, ((Keep.refl h0 [ow, on]).trans K22 (allS (Or.inl (List.mem_of_getElem? (i := 0) rfl)) (allS (Or.inl (List.mem_of_getElem? (i := 1) rfl)) all0))), sz_oz22, f22_0, f22_1, f22_2⟩
def Q_widen2_2 (Z : State) (a1 ow on ob ol oh ov : Addr) (kw_ kn_ kb_ kl_ kh_ kv_ : ClassId) (eb0 eb1 el0 el1 eu0 eu1 ev0_0 ev0_1 ev1_0 ev1_1 ex4 ex5 ex6 ex7 ex8 ex9 ex10 ex11 ex12 ex13 ex14 ex15 : Int32) (h0 : Heap) (n0 : Nat) (v : Option Value) (h : Heap) (L : List Loc) : Prop := ∃ (oz : Addr) (kz_ : ClassId), v = none ∧ Fr n0 L ∧ Keep h0 h [ow, on] ∧ h0.size ≤ oz ∧ Arv Z h ow kw_ (.array .int) (1 : Int32) [(.ref oz)] .null ∧ Arv Z h on kn_ (.array .char) (1 : Int32) [.null] .null ∧ Arv Z h oz kz_ .int (16 : Int32) [(.int ev0_0), (.int ev0_1), (.int ev1_0), (.int ev1_1), (.int 0), (.int 0), (.int 0), (.int 0), (.int 0), (.int 0), (.int 0), (.int 0), (.int 0), (.int 0), (.int 0), (.int 0)] (.int 0)
set_option maxRecDepth 65536 in
set_option maxHeartbeats 40000000 in
theorem rm_widen2_2 (l : Launch) (Z : State) (a0 : Array Value) (hw : ∀ d ∈ tables_1, d.before a0 Z = true) (ws : List Jvm.Cond) (a1 ow on ob ol oh ov : Addr) (kw_ kn_ kb_ kl_ kh_ kv_ : ClassId) (eb0 eb1 el0 el1 eu0 eu1 ev0_0 ev0_1 ev1_0 ev1_1 ex4 ex5 ex6 ex7 ex8 ex9 ex10 ex11 ex12 ex13 ex14 ex15 : Int32) (h0 : Heap) (n0 : Nat) (Z0 : n0 ≤ h0.size) (O0 : Old Z n0 h0) (S_CS : Sta Z Z.heap cRV "CHUNK_SHIFT" "I" (.int (12 : Int32))) (r0 : Exa Z h0 a1 cRV) (r1 : Fld Z h0 a1 cRV "arity" "I" (.int 2)) (r2 : Fld Z h0 a1 cRV "rows" "I" (.int 2)) (r3 : Fld Z h0 a1 cRV "wide" "[[I" (.ref ow)) (r4 : Fld Z h0 a1 cRV "narrow" "[[C" (.ref on)) (r5 : Fld Z h0 a1 cRV "bases" "[I" (.ref ob)) (r6 : Fld Z h0 a1 cRV "lowest" "[I" (.ref ol)) (r7 : Fld Z h0 a1 cRV "highest" "[I" (.ref oh)) (r8 : Arv Z h0 ow kw_ (.array .int) (1 : Int32) [.null] .null) (r9 : OvrA Z kw_ .int "[I") (r10 : Arv Z h0 on kn_ (.array .char) (1 : Int32) [(.ref ov)] .null) (r11 : OvrA Z kn_ .char "[C") (r12 : Arv Z h0 ob kb_ .int (2 : Int32) [(.int eb0), (.int eb1)] (.int 0)) (r13 : Arv Z h0 ol kl_ .int (2 : Int32) [(.int el0), (.int el1)] (.int 0)) (r14 : Arv Z h0 oh kh_ .int (2 : Int32) [(.int eu0), (.int eu1)] (.int 0)) (r15 : Arv Z h0 ov kv_ .char (16 : Int32) [(.int (nar .char (ev0_0 - eb0))), (.int (nar .char (ev0_1 - eb1))), (.int (nar .char (ev1_0 - eb0))), (.int (nar .char (ev1_1 - eb1))), (.int ex4), (.int ex5), (.int ex6), (.int ex7), (.int ex8), (.int ex9), (.int ex10), (.int ex11), (.int ex12), (.int ex13), (.int ex14), (.int ex15)] (.int 0)) (g_ow : n0 ≤ ow) (g_on : n0 ≤ on) (ne_a1_ow : a1 ≠ ow) (ne_a1_on : a1 ≠ on) (ne_a1_ob : a1 ≠ ob) (ne_a1_ol : a1 ≠ ol) (ne_a1_oh : a1 ≠ oh) (ne_a1_ov : a1 ≠ ov) (ne_ow_on : ow ≠ on) (ne_ow_ob : ow ≠ ob) (ne_ow_ol : ow ≠ ol) (ne_ow_oh : ow ≠ oh) (ne_ow_ov : ow ≠ ov) (ne_on_ob : on ≠ ob) (ne_on_ol : on ≠ ol) (ne_on_oh : on ≠ oh) (ne_on_ov : on ≠ ov) (ne_ob_ol : ob ≠ ol) (ne_ob_oh : ob ≠ oh) (ne_ob_ov : ob ≠ ov) (ne_ol_oh : ol ≠ oh) (ne_ol_ov : ol ≠ ov) (ne_oh_ov : oh ≠ ov) (hIn0_0 : ownIn eb0 ev0_0) (hIn0_1 : ownIn eb1 ev0_1) (hIn1_0 : ownIn eb0 ev1_0) (hIn1_1 : ownIn eb1 ev1_1) :
    MetFree l (⟨cRV, "widen", "(II)V"⟩ : MethodName) (head1 (Jvm.Cond.code (⟨cRV, "widen", "(II)V"⟩ : MethodName) prog_47_method_9_code 6 none :: ws) ({ frames := 1, cells := 1, slots := 16, locals := 19 } : Room)) (fun a U => a = #[(.ref a1), (.int 0), (.int 2)] ∧ Z.Warmed39 U.vm ∧ U.heap = h0) (fun _ _ _ _ _ => True) (fun _ U o U' => ∃ v L, o = .returned v ∧ Q_widen2_2 Z a1 ow on ob ol oh ov kw_ kn_ kb_ kl_ kh_ kv_ eb0 eb1 el0 el1 eu0 eu1 ev0_0 ev0_1 ev1_0 ev1_1 ex4 ex5 ex6 ex7 ex8 ex9 ex10 ex11 ex12 ex13 ex14 ex15 h0 n0 v U'.heap L ∧ FrameEnd U o U' L ({ frames := 1, cells := 1, slots := 16, locals := 19 } : Room).cells ({ frames := 1, cells := 1, slots := 16, locals := 19 } : Room).slots) := by
  refine MetFree.of_bodySF (plainFor_of_name pn_RowValues) hisR ?_
  intro p e s m args below meth c s₁ Bd hml0 hP hK
  obtain ⟨rfl, hZ, hh⟩ := hP
  have hx := Bd.exec
  have hby := Bd.bytes
  have bb := fun {pc : Nat} {r : Except DecodeError (Instr × Nat)} (h : decode prog_47_method_9_code pc = r) => hb hby h
  have hml : c.maxLocals = 6 := hml0
  have hown : s.vm.findClass cRV = some m.cls := findClass_of_methodNamed Bd.named
  have hnm := (name_of_methodNamed Bd.named Bd.method).1
  have X0 : Stand p l e ({ frames := 1, cells := 1, slots := 16, locals := 19 } : Room) s m #[(.ref a1), (.int 0), (.int 2)] below meth c s₁ [] 0 0 := Stand.of_body Bd
  have e0 : s₁.heap = h0 := by rw [← hh, Bd.state]; rfl
  have N0 := Fr.nil n0
  have pre0 : ∀ t, Steps p.tables e below (s₁.setTop (mkF m 0 #[vR a1, vI 0, vI 2, .unset, .unset, .unset] [])) t → Steps p.tables e below (s₁.setTop (entryFrame m #[(.ref a1), (.int 0), (.int 2)] 6)) t := fun t k => castTop (ef_widen2_2 m a1) k
  obtain ⟨T1, X1, e1, st1⟩ := getF X0 hx hZ hown (host := "") (Or.inl (wd21 hw)) Via.refl e0 r4 (g := (mkF m 1 #[vR a1, vI 0, vI 2, .unset, .unset, .unset] [(.ref a1)])) rfl rfl (bb d13_1)
  obtain ⟨cl2, Ar2, vq2, vS2, vN2, vH2, vG2⟩ := id r10
  have hin2 : ¬ (((0 : Int32) : Int32) < 0 ∨ cl2.slots.size ≤ ((0 : Int32) : Int32).toNatClampNeg) := inb_of vS2 ⟨by decide, by decide⟩
  obtain ⟨cl3, Ar3, vq3, vS3, vN3, vH3, vG3⟩ := id r15
  obtain ⟨T4, h4, k4, X4, e4, E4, A4, B4, st4⟩ := newPE (aty := .int) X1 hx hZ (wd5 hw) e1 (g := (mkF m 7 #[vR a1, vI 0, vI 2, .unset, .unset, .unset] [(.int 16)])) rfl (bb d13_7) rfl (by decide) (cap := 16) (by decide) (by decide) (by decide) (by decide) (ad := "[I") (by decide)
  obtain ⟨b4, q_b4⟩ : ∃ z, z = (h0).size := ⟨_, rfl⟩
  rw [← q_b4] at A4 B4 st4
  have g_b4 : n0 ≤ b4 := Nat.le_trans (own_z0 O0) (Nat.le_of_eq q_b4.symm)
  have sz_b4 : h0.size ≤ b4 := Nat.le_trans (Nat.le_refl _) (Nat.le_of_eq q_b4.symm)
  have ne_a1_b4 : a1 ≠ b4 := Nat.ne_of_lt (Nat.lt_of_lt_of_le r0.lt (Nat.le_of_eq q_b4.symm))
  have ne_ow_b4 : ow ≠ b4 := Nat.ne_of_lt (Nat.lt_of_lt_of_le r8.lt (Nat.le_of_eq q_b4.symm))
  have ne_on_b4 : on ≠ b4 := Nat.ne_of_lt (Nat.lt_of_lt_of_le r10.lt (Nat.le_of_eq q_b4.symm))
  have ne_ob_b4 : ob ≠ b4 := Nat.ne_of_lt (Nat.lt_of_lt_of_le r12.lt (Nat.le_of_eq q_b4.symm))
  have ne_ol_b4 : ol ≠ b4 := Nat.ne_of_lt (Nat.lt_of_lt_of_le r13.lt (Nat.le_of_eq q_b4.symm))
  have ne_oh_b4 : oh ≠ b4 := Nat.ne_of_lt (Nat.lt_of_lt_of_le r14.lt (Nat.le_of_eq q_b4.symm))
  have ne_ov_b4 : ov ≠ b4 := Nat.ne_of_lt (Nat.lt_of_lt_of_le r15.lt (Nat.le_of_eq q_b4.symm))
  have V_b4 : Arv Z h4 b4 k4 .int (16 : Int32) [(.int 0), (.int 0), (.int 0), (.int 0), (.int 0), (.int 0), (.int 0), (.int 0), (.int 0), (.int 0), (.int 0), (.int 0), (.int 0), (.int 0), (.int 0), (.int 0)] (.int 0) := (Arv.new A4 (by decide)).pad (pad_rep [] (.int 0) 16)
  have F6 := (r1.ext E4)
  obtain ⟨T5, X5, e5, st5⟩ := getF X4 hx hZ hown (host := "") (Or.inl (wd23 hw)) Via.refl e4 F6 (g := (mkF m 25 #[vR a1, vI 0, vI 2, vR b4, vI 0, vI 0] [(.ref a1), (.int 0)])) rfl rfl (bb d13_25)
  obtain ⟨T7, X7, e7, st7⟩ := getF X5 hx hZ hown (host := "") (Or.inl (wd23 hw)) Via.refl e5 F6 (g := (mkF m 35 #[vR a1, vI 0, vI 2, vR b4, vI 0, vI 0] [(.ref a1), (.int 0), (.ref b4)])) rfl rfl (bb d13_35)
  have F8 := (r10.ext E4)
  obtain ⟨cl9, Ar9, vq9, vS9, vN9, vH9, vG9⟩ := id F8
  have F10 := (r12.ext E4)
  obtain ⟨cl11, Ar11, vq11, vS11, vN11, vH11, vG11⟩ := id F10
  have F12 := (r15.ext E4)
  obtain ⟨cl13, Ar13, vq13, vS13, vN13, vH13, vG13⟩ := id F12
  have F14 := (r4.ext E4)
  have F15 := (r5.ext E4)
  have O17 := (O0.ext E4)
  have F18 := (r0.ext E4)
  obtain ⟨cq16, kq16, q16a, q16b, q16c⟩ := isOf hZ e7 F18
  obtain ⟨_, _, ⟨T16, L16, k16, n16⟩, -, X16, ⟨Lc16, hQ16, l16, y16, z16⟩, st16⟩ := X7.virtualBack hx (y := (⟨cRV, "get", "(II)I"⟩ : MethodName)) (z := (⟨cRV, "get", "(II)I"⟩ : MethodName)) hown (mvT hZ (wd84 hw)) (mvT hZ (wd76 hw)) (notFace_of_selects (args := #[]) (mvT hZ (wd78 hw))) (mvT hZ (wd78 hw)) (mvT hZ (wd77 hw)) (by decide) (backOf (W := 2) (rm_get2N l Z a0 hw [] a1 (0 : Int32) (0 : Int32) on ob ov cl9 cl11 cl13 eb0 ev0_0 h4 n0 (own_z0 O17) O17 S_CS F6 F14 F15 Ar9 (inb_of vS9 ⟨by decide, by decide⟩) (vH9.at (inb_of vS9 ⟨by decide, by decide⟩) rfl) Ar11 (inb_of vS11 ⟨by decide, by decide⟩) (vH11.at (inb_of vS11 ⟨by decide, by decide⟩) rfl) Ar13 (inb_of vS13 ⟨by decide, by decide⟩) (vH13.at (inb_of vS13 ⟨by decide, by decide⟩) rfl) hIn0_0) hZ (wd79 hw) (wd8 hw) (by decide) (by decide)) q16a q16c (g := (mkF m 53 #[vR a1, vI 0, vI 2, vR b4, vI 0, vI 0] [(.int 0), (.int 0), (.ref a1), (.int 0), (.ref b4)])) rfl (by rw [hml]; rfl) (Steps.refl _) (argsL := [(.int 0), (.int 0)]) (rest := [(.int 0), (.ref b4)]) (lenOf pd__II_I_5 rfl) rfl (by show 2 * 0 + _ ≤ _; exact Nat.le_of_eq rfl) (bb d13_53) (fun _ _ => ⟨rfl, e7, (by decide : 1 + 0 ≤ _), (by decide : 16 + 0 ≤ _)⟩)
  dsimp only [Pt.U, Pt.locs, Pt.cells, Pt.slots] at X16 l16 y16 z16 st16 hQ16
  subst l16 y16 z16
  obtain ⟨rfl, N16q, e16⟩ := hQ16
  have N16 := Fr.app N0 N16q
  obtain ⟨cl19, Ar19, vq19, vS19, vN19, vH19, vG19⟩ := id V_b4
  have hin19 : ¬ (((0 : Int32) : Int32) < 0 ∨ cl19.slots.size ≤ ((0 : Int32) : Int32).toNatClampNeg) := inb_of vS19 ⟨by decide, by decide⟩
  obtain ⟨T19, h19, X19, e19, W19, st19⟩ := stI X16 hx hZ e16 Ar19 (j := (0 : Int32)) hin19 (g := (mkF m 56 #[vR a1, vI 0, vI 2, vR b4, vI 0, vI 0] [(.int ev0_0), (.int 0), (.ref b4)])) rfl rfl (bb d13_56)
  have V19 : Arv Z h19 b4 k4 .int (16 : Int32) [(.int ev0_0), (.int 0), (.int 0), (.int 0), (.int 0), (.int 0), (.int 0), (.int 0), (.int 0), (.int 0), (.int 0), (.int 0), (.int 0), (.int 0), (.int 0), (.int 0)] (.int 0) := Arv.set Ar19 vq19 vS19 vN19 vH19 vG19 rfl W19 0 rfl (Nat.le_of_ble_eq_true rfl)
  have N19 := Fr.snoc X19 N16 g_b4
  have F21 := (F6.other W19 (Or.inl ne_a1_b4))
  obtain ⟨T20, X20, e20, st20⟩ := getF X19 hx hZ hown (host := "") (Or.inl (wd23 hw)) Via.refl e19 F21 (g := (mkF m 25 #[vR a1, vI 0, vI 2, vR b4, vI 0, vI 1] [(.ref a1), (.int 1)])) rfl rfl (bb d13_25)
  obtain ⟨T22, X22, e22, st22⟩ := getF X20 hx hZ hown (host := "") (Or.inl (wd23 hw)) Via.refl e20 F21 (g := (mkF m 35 #[vR a1, vI 0, vI 2, vR b4, vI 0, vI 1] [(.ref a1), (.int 0), (.ref b4)])) rfl rfl (bb d13_35)
  have F23 := (F8.other W19 ne_on_b4)
  obtain ⟨cl24, Ar24, vq24, vS24, vN24, vH24, vG24⟩ := id F23
  have F25 := (F10.other W19 ne_ob_b4)
  obtain ⟨cl26, Ar26, vq26, vS26, vN26, vH26, vG26⟩ := id F25
  have F27 := (F12.other W19 ne_ov_b4)
  obtain ⟨cl28, Ar28, vq28, vS28, vN28, vH28, vG28⟩ := id F27
  have F29 := (F14.other W19 (Or.inl ne_a1_b4))
  have F30 := (F15.other W19 (Or.inl ne_a1_b4))
  have O32 := (O17.wr W19 g_b4)
  have F33 := (F18.wr W19)
  obtain ⟨cq31, kq31, q31a, q31b, q31c⟩ := isOf hZ e22 F33
  obtain ⟨_, _, ⟨T31, L31, k31, n31⟩, -, X31, ⟨Lc31, hQ31, l31, y31, z31⟩, st31⟩ := X22.virtualBack hx (y := (⟨cRV, "get", "(II)I"⟩ : MethodName)) (z := (⟨cRV, "get", "(II)I"⟩ : MethodName)) hown (mvT hZ (wd84 hw)) (mvT hZ (wd76 hw)) (notFace_of_selects (args := #[]) (mvT hZ (wd78 hw))) (mvT hZ (wd78 hw)) (mvT hZ (wd77 hw)) (by decide) (backOf (W := 2) (rm_get2N l Z a0 hw [] a1 (0 : Int32) (1 : Int32) on ob ov cl24 cl26 cl28 eb1 ev0_1 h19 n0 (own_z0 O32) O32 S_CS F21 F29 F30 Ar24 (inb_of vS24 ⟨by decide, by decide⟩) (vH24.at (inb_of vS24 ⟨by decide, by decide⟩) rfl) Ar26 (inb_of vS26 ⟨by decide, by decide⟩) (vH26.at (inb_of vS26 ⟨by decide, by decide⟩) rfl) Ar28 (inb_of vS28 ⟨by decide, by decide⟩) (vH28.at (inb_of vS28 ⟨by decide, by decide⟩) rfl) hIn0_1) hZ (wd79 hw) (wd8 hw) (by decide) (by decide)) q31a q31c (g := (mkF m 53 #[vR a1, vI 0, vI 2, vR b4, vI 0, vI 1] [(.int 1), (.int 0), (.ref a1), (.int 1), (.ref b4)])) rfl (by rw [hml]; rfl) (Steps.refl _) (argsL := [(.int 0), (.int 1)]) (rest := [(.int 1), (.ref b4)]) (lenOf pd__II_I_5 rfl) rfl (by show 2 * 0 + _ ≤ _; exact Nat.le_of_eq rfl) (bb d13_53) (fun _ _ => ⟨rfl, e22, (by decide : 1 + 0 ≤ _), (by decide : 16 + 0 ≤ _)⟩)
  dsimp only [Pt.U, Pt.locs, Pt.cells, Pt.slots] at X31 l31 y31 z31 st31 hQ31
  subst l31 y31 z31
  obtain ⟨rfl, N31q, e31⟩ := hQ31
  have N31 := Fr.app N19 N31q
  obtain ⟨cl34, Ar34, vq34, vS34, vN34, vH34, vG34⟩ := id V19
  have hin34 : ¬ (((1 : Int32) : Int32) < 0 ∨ cl34.slots.size ≤ ((1 : Int32) : Int32).toNatClampNeg) := inb_of vS34 ⟨by decide, by decide⟩
  obtain ⟨T34, h34, X34, e34, W34, st34⟩ := stI X31 hx hZ e31 Ar34 (j := (1 : Int32)) hin34 (g := (mkF m 56 #[vR a1, vI 0, vI 2, vR b4, vI 0, vI 1] [(.int ev0_1), (.int 1), (.ref b4)])) rfl rfl (bb d13_56)
  have V34 : Arv Z h34 b4 k4 .int (16 : Int32) [(.int ev0_0), (.int ev0_1), (.int 0), (.int 0), (.int 0), (.int 0), (.int 0), (.int 0), (.int 0), (.int 0), (.int 0), (.int 0), (.int 0), (.int 0), (.int 0), (.int 0)] (.int 0) := Arv.set Ar34 vq34 vS34 vN34 vH34 vG34 rfl W34 1 rfl (Nat.le_of_ble_eq_true rfl)
  have N34 := Fr.snoc X34 N31 g_b4
  have F36 := (F21.other W34 (Or.inl ne_a1_b4))
  obtain ⟨T35, X35, e35, st35⟩ := getF X34 hx hZ hown (host := "") (Or.inl (wd23 hw)) Via.refl e34 F36 (g := (mkF m 25 #[vR a1, vI 0, vI 2, vR b4, vI 0, vI 2] [(.ref a1), (.int 2)])) rfl rfl (bb d13_25)
  obtain ⟨T37, X37, e37, st37⟩ := getF X35 hx hZ hown (host := "") (Or.inl (wd23 hw)) Via.refl e35 F36 (g := (mkF m 25 #[vR a1, vI 0, vI 2, vR b4, vI 1, vI 0] [(.ref a1), (.int 0)])) rfl rfl (bb d13_25)
  obtain ⟨T38, X38, e38, st38⟩ := getF X37 hx hZ hown (host := "") (Or.inl (wd23 hw)) Via.refl e37 F36 (g := (mkF m 35 #[vR a1, vI 0, vI 2, vR b4, vI 1, vI 0] [(.ref a1), (.int 1), (.ref b4)])) rfl rfl (bb d13_35)
  have F39 := (F23.other W34 ne_on_b4)
  obtain ⟨cl40, Ar40, vq40, vS40, vN40, vH40, vG40⟩ := id F39
  have F41 := (F25.other W34 ne_ob_b4)
  obtain ⟨cl42, Ar42, vq42, vS42, vN42, vH42, vG42⟩ := id F41
  have F43 := (F27.other W34 ne_ov_b4)
  obtain ⟨cl44, Ar44, vq44, vS44, vN44, vH44, vG44⟩ := id F43
  have F45 := (F29.other W34 (Or.inl ne_a1_b4))
  have F46 := (F30.other W34 (Or.inl ne_a1_b4))
  have O48 := (O32.wr W34 g_b4)
  have F49 := (F33.wr W34)
  obtain ⟨cq47, kq47, q47a, q47b, q47c⟩ := isOf hZ e38 F49
  obtain ⟨_, _, ⟨T47, L47, k47, n47⟩, -, X47, ⟨Lc47, hQ47, l47, y47, z47⟩, st47⟩ := X38.virtualBack hx (y := (⟨cRV, "get", "(II)I"⟩ : MethodName)) (z := (⟨cRV, "get", "(II)I"⟩ : MethodName)) hown (mvT hZ (wd84 hw)) (mvT hZ (wd76 hw)) (notFace_of_selects (args := #[]) (mvT hZ (wd78 hw))) (mvT hZ (wd78 hw)) (mvT hZ (wd77 hw)) (by decide) (backOf (W := 2) (rm_get2N l Z a0 hw [] a1 (1 : Int32) (0 : Int32) on ob ov cl40 cl42 cl44 eb0 ev1_0 h34 n0 (own_z0 O48) O48 S_CS F36 F45 F46 Ar40 (inb_of vS40 ⟨by decide, by decide⟩) (vH40.at (inb_of vS40 ⟨by decide, by decide⟩) rfl) Ar42 (inb_of vS42 ⟨by decide, by decide⟩) (vH42.at (inb_of vS42 ⟨by decide, by decide⟩) rfl) Ar44 (inb_of vS44 ⟨by decide, by decide⟩) (vH44.at (inb_of vS44 ⟨by decide, by decide⟩) rfl) hIn1_0) hZ (wd79 hw) (wd8 hw) (by decide) (by decide)) q47a q47c (g := (mkF m 53 #[vR a1, vI 0, vI 2, vR b4, vI 1, vI 0] [(.int 0), (.int 1), (.ref a1), (.int 2), (.ref b4)])) rfl (by rw [hml]; rfl) (Steps.refl _) (argsL := [(.int 1), (.int 0)]) (rest := [(.int 2), (.ref b4)]) (lenOf pd__II_I_5 rfl) rfl (by show 2 * 0 + _ ≤ _; exact Nat.le_of_eq rfl) (bb d13_53) (fun _ _ => ⟨rfl, e38, (by decide : 1 + 0 ≤ _), (by decide : 16 + 0 ≤ _)⟩)
  dsimp only [Pt.U, Pt.locs, Pt.cells, Pt.slots] at X47 l47 y47 z47 st47 hQ47
  subst l47 y47 z47
  obtain ⟨rfl, N47q, e47⟩ := hQ47
  have N47 := Fr.app N34 N47q
  obtain ⟨cl50, Ar50, vq50, vS50, vN50, vH50, vG50⟩ := id V34
  have hin50 : ¬ (((2 : Int32) : Int32) < 0 ∨ cl50.slots.size ≤ ((2 : Int32) : Int32).toNatClampNeg) := inb_of vS50 ⟨by decide, by decide⟩
  obtain ⟨T50, h50, X50, e50, W50, st50⟩ := stI X47 hx hZ e47 Ar50 (j := (2 : Int32)) hin50 (g := (mkF m 56 #[vR a1, vI 0, vI 2, vR b4, vI 1, vI 0] [(.int ev1_0), (.int 2), (.ref b4)])) rfl rfl (bb d13_56)
  have V50 : Arv Z h50 b4 k4 .int (16 : Int32) [(.int ev0_0), (.int ev0_1), (.int ev1_0), (.int 0), (.int 0), (.int 0), (.int 0), (.int 0), (.int 0), (.int 0), (.int 0), (.int 0), (.int 0), (.int 0), (.int 0), (.int 0)] (.int 0) := Arv.set Ar50 vq50 vS50 vN50 vH50 vG50 rfl W50 2 rfl (Nat.le_of_ble_eq_true rfl)
  have N50 := Fr.snoc X50 N47 g_b4
  have F52 := (F36.other W50 (Or.inl ne_a1_b4))
  obtain ⟨T51, X51, e51, st51⟩ := getF X50 hx hZ hown (host := "") (Or.inl (wd23 hw)) Via.refl e50 F52 (g := (mkF m 25 #[vR a1, vI 0, vI 2, vR b4, vI 1, vI 1] [(.ref a1), (.int 1)])) rfl rfl (bb d13_25)
  obtain ⟨T53, X53, e53, st53⟩ := getF X51 hx hZ hown (host := "") (Or.inl (wd23 hw)) Via.refl e51 F52 (g := (mkF m 35 #[vR a1, vI 0, vI 2, vR b4, vI 1, vI 1] [(.ref a1), (.int 1), (.ref b4)])) rfl rfl (bb d13_35)
  have F54 := (F39.other W50 ne_on_b4)
  obtain ⟨cl55, Ar55, vq55, vS55, vN55, vH55, vG55⟩ := id F54
  have F56 := (F41.other W50 ne_ob_b4)
  obtain ⟨cl57, Ar57, vq57, vS57, vN57, vH57, vG57⟩ := id F56
  have F58 := (F43.other W50 ne_ov_b4)
  obtain ⟨cl59, Ar59, vq59, vS59, vN59, vH59, vG59⟩ := id F58
  have F60 := (F45.other W50 (Or.inl ne_a1_b4))
  have F61 := (F46.other W50 (Or.inl ne_a1_b4))
  have O63 := (O48.wr W50 g_b4)
  have F64 := (F49.wr W50)
  obtain ⟨cq62, kq62, q62a, q62b, q62c⟩ := isOf hZ e53 F64
  obtain ⟨_, _, ⟨T62, L62, k62, n62⟩, -, X62, ⟨Lc62, hQ62, l62, y62, z62⟩, st62⟩ := X53.virtualBack hx (y := (⟨cRV, "get", "(II)I"⟩ : MethodName)) (z := (⟨cRV, "get", "(II)I"⟩ : MethodName)) hown (mvT hZ (wd84 hw)) (mvT hZ (wd76 hw)) (notFace_of_selects (args := #[]) (mvT hZ (wd78 hw))) (mvT hZ (wd78 hw)) (mvT hZ (wd77 hw)) (by decide) (backOf (W := 2) (rm_get2N l Z a0 hw [] a1 (1 : Int32) (1 : Int32) on ob ov cl55 cl57 cl59 eb1 ev1_1 h50 n0 (own_z0 O63) O63 S_CS F52 F60 F61 Ar55 (inb_of vS55 ⟨by decide, by decide⟩) (vH55.at (inb_of vS55 ⟨by decide, by decide⟩) rfl) Ar57 (inb_of vS57 ⟨by decide, by decide⟩) (vH57.at (inb_of vS57 ⟨by decide, by decide⟩) rfl) Ar59 (inb_of vS59 ⟨by decide, by decide⟩) (vH59.at (inb_of vS59 ⟨by decide, by decide⟩) rfl) hIn1_1) hZ (wd79 hw) (wd8 hw) (by decide) (by decide)) q62a q62c (g := (mkF m 53 #[vR a1, vI 0, vI 2, vR b4, vI 1, vI 1] [(.int 1), (.int 1), (.ref a1), (.int 3), (.ref b4)])) rfl (by rw [hml]; rfl) (Steps.refl _) (argsL := [(.int 1), (.int 1)]) (rest := [(.int 3), (.ref b4)]) (lenOf pd__II_I_5 rfl) rfl (by show 2 * 0 + _ ≤ _; exact Nat.le_of_eq rfl) (bb d13_53) (fun _ _ => ⟨rfl, e53, (by decide : 1 + 0 ≤ _), (by decide : 16 + 0 ≤ _)⟩)
  dsimp only [Pt.U, Pt.locs, Pt.cells, Pt.slots] at X62 l62 y62 z62 st62 hQ62
  subst l62 y62 z62
  obtain ⟨rfl, N62q, e62⟩ := hQ62
  have N62 := Fr.app N50 N62q
  obtain ⟨cl65, Ar65, vq65, vS65, vN65, vH65, vG65⟩ := id V50
  have hin65 : ¬ (((3 : Int32) : Int32) < 0 ∨ cl65.slots.size ≤ ((3 : Int32) : Int32).toNatClampNeg) := inb_of vS65 ⟨by decide, by decide⟩
  obtain ⟨T65, h65, X65, e65, W65, st65⟩ := stI X62 hx hZ e62 Ar65 (j := (3 : Int32)) hin65 (g := (mkF m 56 #[vR a1, vI 0, vI 2, vR b4, vI 1, vI 1] [(.int ev1_1), (.int 3), (.ref b4)])) rfl rfl (bb d13_56)
  have V65 : Arv Z h65 b4 k4 .int (16 : Int32) [(.int ev0_0), (.int ev0_1), (.int ev1_0), (.int ev1_1), (.int 0), (.int 0), (.int 0), (.int 0), (.int 0), (.int 0), (.int 0), (.int 0), (.int 0), (.int 0), (.int 0), (.int 0)] (.int 0) := Arv.set Ar65 vq65 vS65 vN65 vH65 vG65 rfl W65 3 rfl (Nat.le_of_ble_eq_true rfl)
  have N65 := Fr.snoc X65 N62 g_b4
  have F67 := (F52.other W65 (Or.inl ne_a1_b4))
  obtain ⟨T66, X66, e66, st66⟩ := getF X65 hx hZ hown (host := "") (Or.inl (wd23 hw)) Via.refl e65 F67 (g := (mkF m 25 #[vR a1, vI 0, vI 2, vR b4, vI 1, vI 2] [(.ref a1), (.int 2)])) rfl rfl (bb d13_25)
  have F69 := (((((r3.ext E4).other W19 (Or.inl ne_a1_b4)).other W34 (Or.inl ne_a1_b4)).other W50 (Or.inl ne_a1_b4)).other W65 (Or.inl ne_a1_b4))
  obtain ⟨T68, X68, e68, st68⟩ := getF X66 hx hZ hown (host := "") (Or.inl (wd17 hw)) Via.refl e66 F69 (g := (mkF m 70 #[vR a1, vI 0, vI 2, vR b4, vI 2, vI 2] [(.ref a1)])) rfl rfl (bb d13_70)
  have F70 := (((((r8.ext E4).other W19 ne_ow_b4).other W34 ne_ow_b4).other W50 ne_ow_b4).other W65 ne_ow_b4)
  obtain ⟨cl71, Ar71, vq71, vS71, vN71, vH71, vG71⟩ := id F70
  have hin71 : ¬ (((0 : Int32) : Int32) < 0 ∨ cl71.slots.size ≤ ((0 : Int32) : Int32).toNatClampNeg) := inb_of vS71 ⟨by decide, by decide⟩
  have F72 := ((((B4.wr W19).wr W34).wr W50).wr W65)
  obtain ⟨T71, h71, X71, e71, W71, st71⟩ := stR X68 hx hZ e68 Ar71 (j := (0 : Int32)) hin71 rfl (Sto.ofVA Ar71 vq71 r9 (Ins.self F72)) (g := (mkF m 75 #[vR a1, vI 0, vI 2, vR b4, vI 2, vI 2] [(.ref b4), (.int 0), (.ref ow)])) rfl rfl (bb d13_75)
  have V71 : Arv Z h71 ow kw_ (.array .int) (1 : Int32) [(.ref b4)] .null := Arv.set Ar71 vq71 vS71 vN71 vH71 vG71 rfl W71 0 rfl (Nat.le_of_ble_eq_true rfl)
  have N71 := Fr.snoc X71 N65 g_ow
  have F74 := ((F60.other W65 (Or.inl ne_a1_b4)).other W71 (Or.inl ne_a1_ow))
  obtain ⟨T73, X73, e73, st73⟩ := getF X71 hx hZ hown (host := "") (Or.inl (wd21 hw)) Via.refl e71 F74 (g := (mkF m 77 #[vR a1, vI 0, vI 2, vR b4, vI 2, vI 2] [(.ref a1)])) rfl rfl (bb d13_77)
  have F75 := ((F54.other W65 ne_on_b4).other W71 (Ne.symm ne_ow_on))
  obtain ⟨cl76, Ar76, vq76, vS76, vN76, vH76, vG76⟩ := id F75
  have hin76 : ¬ (((0 : Int32) : Int32) < 0 ∨ cl76.slots.size ≤ ((0 : Int32) : Int32).toNatClampNeg) := inb_of vS76 ⟨by decide, by decide⟩
  obtain ⟨T76, h76, X76, e76, W76, st76⟩ := stR X73 hx hZ e73 Ar76 (j := (0 : Int32)) hin76 rfl (Or.inl rfl) (g := (mkF m 82 #[vR a1, vI 0, vI 2, vR b4, vI 2, vI 2] [.null, (.int 0), (.ref on)])) rfl rfl (bb d13_82)
  have V76 : Arv Z h76 on kn_ (.array .char) (1 : Int32) [.null] .null := Arv.set Ar76 vq76 vS76 vN76 vH76 vG76 rfl W76 0 rfl (Nat.le_of_ble_eq_true rfl)
  have N76 := Fr.snoc X76 N71 g_on
  have F77 := (V71.other W76 ne_ow_on)
  have F78 := ((V65.other W71 (Ne.symm ne_ow_b4)).other W76 (Ne.symm ne_on_b4))
  obtain ⟨fs, hr, hrun, hended, hW, hsame⟩ := X76.leave (v := none) (fun _ => rfl)
  refine ⟨_, _, pre0 _ ?_, hrun, hended, _, _, rfl, ?_, ⟨_, rfl⟩, hW, hsame.mono (by decide) (by decide)⟩
  · show GG p e below s₁ (mkF m 0 #[vR a1, vI 0, vI 2, .unset, .unset, .unset] []) _
    refine XS.aloadN X0.here hx rfl (bb d13_0) rfl rfl ?_
    refine st1 _ ?_
    show GG p e below T1 (mkF m 4 #[vR a1, vI 0, vI 2, .unset, .unset, .unset] [(.ref on)]) _
    refine XS.iloadN X1.here hx rfl (bb d13_4) rfl ?_
    refine X1.aaload hx (j := (0 : Int32)) (v := (.ref ov)) (by rw [e1]; exact Ar2.1) (State.isArrayOf_alike hZ.alike Ar2.2.1) rfl Ar2.2.2 hin2 (vH2.at hin2 rfl) (g := (mkF m 5 #[vR a1, vI 0, vI 2, .unset, .unset, .unset] [(.int 0), (.ref on)])) rfl rfl (bb d13_5) _ ?_
    show GG p e below T1 (mkF m 6 #[vR a1, vI 0, vI 2, .unset, .unset, .unset] [(.ref ov)]) _
    refine X1.arraylength hx (by rw [e1]; exact Ar3.1) (State.isArrayOf_alike hZ.alike Ar3.2.1) (g := (mkF m 6 #[vR a1, vI 0, vI 2, .unset, .unset, .unset] [(.ref ov)])) rfl rfl (bb d13_6) _ ?_
    rw [len_of vS3 vN3]
    show GG p e below T1 (mkF m 7 #[vR a1, vI 0, vI 2, .unset, .unset, .unset] [(.int 16)]) _
    refine st4 _ ?_
    show GG p e below T4 (mkF m 9 #[vR a1, vI 0, vI 2, .unset, .unset, .unset] [(.ref b4)]) _
    refine XS.astoreN X4.here hx rfl (bb d13_9) rfl rfl (l' := #[vR a1, vI 0, vI 2, vR b4, .unset, .unset]) rfl ?_
    show GG p e below T4 (mkF m 10 #[vR a1, vI 0, vI 2, vR b4, .unset, .unset] []) _
    refine XS.iconst X4.here hx rfl (bb d13_10) ?_
    refine XS.istore X4.here hx rfl (bb d13_11) rfl (l' := #[vR a1, vI 0, vI 2, vR b4, vI 0, .unset]) rfl ?_
    show GG p e below T4 (mkF m 13 #[vR a1, vI 0, vI 2, vR b4, vI 0, .unset] []) _
    refine XS.iload X4.here hx rfl (bb d13_13) rfl ?_
    refine XS.iloadN X4.here hx rfl (bb d13_15) rfl ?_
    refine XS.icmpNo X4.here hx rfl (bb d13_16) rfl (tlt (by decide : (0 : Int32) < (2 : Int32))).2.1 ?_
    refine XS.iconst X4.here hx rfl (bb d13_19) ?_
    show GG p e below T4 (mkF m 20 #[vR a1, vI 0, vI 2, vR b4, vI 0, .unset] [(.int 0)]) _
    refine XS.istore X4.here hx rfl (bb d13_20) rfl (l' := #[vR a1, vI 0, vI 2, vR b4, vI 0, vI 0]) rfl ?_
    show GG p e below T4 (mkF m 22 #[vR a1, vI 0, vI 2, vR b4, vI 0, vI 0] []) _
    refine XS.iload X4.here hx rfl (bb d13_22) rfl ?_
    refine XS.aloadN X4.here hx rfl (bb d13_24) rfl rfl ?_
    refine st5 _ ?_
    show GG p e below T5 (mkF m 28 #[vR a1, vI 0, vI 2, vR b4, vI 0, vI 0] [(.int 2), (.int 0)]) _
    refine XS.icmpNo X5.here hx rfl (bb d13_28) rfl (tlt (by decide : (0 : Int32) < (2 : Int32))).2.1 ?_
    refine XS.aloadN X5.here hx rfl (bb d13_31) rfl rfl ?_
    refine XS.iload X5.here hx rfl (bb d13_32) rfl ?_
    refine XS.aloadN X5.here hx rfl (bb d13_34) rfl rfl ?_
    show GG p e below T5 (mkF m 35 #[vR a1, vI 0, vI 2, vR b4, vI 0, vI 0] [(.ref a1), (.int 0), (.ref b4)]) _
    refine st7 _ ?_
    show GG p e below T7 (mkF m 38 #[vR a1, vI 0, vI 2, vR b4, vI 0, vI 0] [(.int 2), (.int 0), (.ref b4)]) _
    refine XS.imul X7.here hx rfl (bb d13_38) rfl ?_
    refine XS.iload X7.here hx rfl (bb d13_39) rfl ?_
    refine XS.iadd X7.here hx rfl (bb d13_41) rfl ?_
    refine XS.aloadN X7.here hx rfl (bb d13_42) rfl rfl ?_
    show GG p e below T7 (mkF m 43 #[vR a1, vI 0, vI 2, vR b4, vI 0, vI 0] [(.ref a1), (.int 0), (.ref b4)]) _
    refine XS.iloadN X7.here hx rfl (bb d13_43) rfl ?_
    refine XS.sipush X7.here hx rfl (bb d13_44) ?_
    refine XS.imul X7.here hx rfl (bb d13_47) rfl ?_
    refine XS.iload X7.here hx rfl (bb d13_48) rfl ?_
    show GG p e below T7 (mkF m 50 #[vR a1, vI 0, vI 2, vR b4, vI 0, vI 0] [(.int 0), (.int 0), (.ref a1), (.int 0), (.ref b4)]) _
    refine XS.iadd X7.here hx rfl (bb d13_50) rfl ?_
    refine XS.iload X7.here hx rfl (bb d13_51) rfl ?_
    refine st16.trans ?_
    show GG p e below T16 (mkF m 56 #[vR a1, vI 0, vI 2, vR b4, vI 0, vI 0] [(.int ev0_0), (.int 0), (.ref b4)]) _
    refine st19 _ ?_
    show GG p e below T19 (mkF m 57 #[vR a1, vI 0, vI 2, vR b4, vI 0, vI 0] []) _
    refine XS.iinc X19.here hx rfl (bb d13_57) rfl (l' := #[vR a1, vI 0, vI 2, vR b4, vI 0, vI 1]) rfl ?_
    show GG p e below T19 (mkF m 60 #[vR a1, vI 0, vI 2, vR b4, vI 0, vI 1] []) _
    refine XS.goto X19.here hx rfl (pc0 := 60) (pc' := 22) rfl (bb d13_60) (by decide) (by decide) ?_
    refine XS.iload X19.here hx rfl (bb d13_22) rfl ?_
    refine XS.aloadN X19.here hx rfl (bb d13_24) rfl rfl ?_
    refine st20 _ ?_
    show GG p e below T20 (mkF m 28 #[vR a1, vI 0, vI 2, vR b4, vI 0, vI 1] [(.int 2), (.int 1)]) _
    refine XS.icmpNo X20.here hx rfl (bb d13_28) rfl (tlt (by decide : (1 : Int32) < (2 : Int32))).2.1 ?_
    refine XS.aloadN X20.here hx rfl (bb d13_31) rfl rfl ?_
    refine XS.iload X20.here hx rfl (bb d13_32) rfl ?_
    refine XS.aloadN X20.here hx rfl (bb d13_34) rfl rfl ?_
    show GG p e below T20 (mkF m 35 #[vR a1, vI 0, vI 2, vR b4, vI 0, vI 1] [(.ref a1), (.int 0), (.ref b4)]) _
    refine st22 _ ?_
    show GG p e below T22 (mkF m 38 #[vR a1, vI 0, vI 2, vR b4, vI 0, vI 1] [(.int 2), (.int 0), (.ref b4)]) _
    refine XS.imul X22.here hx rfl (bb d13_38) rfl ?_
    refine XS.iload X22.here hx rfl (bb d13_39) rfl ?_
    refine XS.iadd X22.here hx rfl (bb d13_41) rfl ?_
    refine XS.aloadN X22.here hx rfl (bb d13_42) rfl rfl ?_
    show GG p e below T22 (mkF m 43 #[vR a1, vI 0, vI 2, vR b4, vI 0, vI 1] [(.ref a1), (.int 1), (.ref b4)]) _
    refine XS.iloadN X22.here hx rfl (bb d13_43) rfl ?_
    refine XS.sipush X22.here hx rfl (bb d13_44) ?_
    refine XS.imul X22.here hx rfl (bb d13_47) rfl ?_
    refine XS.iload X22.here hx rfl (bb d13_48) rfl ?_
    show GG p e below T22 (mkF m 50 #[vR a1, vI 0, vI 2, vR b4, vI 0, vI 1] [(.int 0), (.int 0), (.ref a1), (.int 1), (.ref b4)]) _
    refine XS.iadd X22.here hx rfl (bb d13_50) rfl ?_
    refine XS.iload X22.here hx rfl (bb d13_51) rfl ?_
    refine st31.trans ?_
    show GG p e below T31 (mkF m 56 #[vR a1, vI 0, vI 2, vR b4, vI 0, vI 1] [(.int ev0_1), (.int 1), (.ref b4)]) _
    refine st34 _ ?_
    show GG p e below T34 (mkF m 57 #[vR a1, vI 0, vI 2, vR b4, vI 0, vI 1] []) _
    refine XS.iinc X34.here hx rfl (bb d13_57) rfl (l' := #[vR a1, vI 0, vI 2, vR b4, vI 0, vI 2]) rfl ?_
    show GG p e below T34 (mkF m 60 #[vR a1, vI 0, vI 2, vR b4, vI 0, vI 2] []) _
    refine XS.goto X34.here hx rfl (pc0 := 60) (pc' := 22) rfl (bb d13_60) (by decide) (by decide) ?_
    refine XS.iload X34.here hx rfl (bb d13_22) rfl ?_
    refine XS.aloadN X34.here hx rfl (bb d13_24) rfl rfl ?_
    refine st35 _ ?_
    show GG p e below T35 (mkF m 28 #[vR a1, vI 0, vI 2, vR b4, vI 0, vI 2] [(.int 2), (.int 2)]) _
    refine XS.icmpYes X35.here hx rfl (pc0 := 28) (pc' := 63) rfl (bb d13_28) rfl (flt (by decide : ¬ ((2 : Int32) < (2 : Int32)))).2.1 (by decide) (by decide) ?_
    show GG p e below T35 (mkF m 63 #[vR a1, vI 0, vI 2, vR b4, vI 0, vI 2] []) _
    refine XS.iinc X35.here hx rfl (bb d13_63) rfl (l' := #[vR a1, vI 0, vI 2, vR b4, vI 1, vI 2]) rfl ?_
    show GG p e below T35 (mkF m 66 #[vR a1, vI 0, vI 2, vR b4, vI 1, vI 2] []) _
    refine XS.goto X35.here hx rfl (pc0 := 66) (pc' := 13) rfl (bb d13_66) (by decide) (by decide) ?_
    refine XS.iload X35.here hx rfl (bb d13_13) rfl ?_
    refine XS.iloadN X35.here hx rfl (bb d13_15) rfl ?_
    refine XS.icmpNo X35.here hx rfl (bb d13_16) rfl (tlt (by decide : (1 : Int32) < (2 : Int32))).2.1 ?_
    show GG p e below T35 (mkF m 19 #[vR a1, vI 0, vI 2, vR b4, vI 1, vI 2] []) _
    refine XS.iconst X35.here hx rfl (bb d13_19) ?_
    refine XS.istore X35.here hx rfl (bb d13_20) rfl (l' := #[vR a1, vI 0, vI 2, vR b4, vI 1, vI 0]) rfl ?_
    show GG p e below T35 (mkF m 22 #[vR a1, vI 0, vI 2, vR b4, vI 1, vI 0] []) _
    refine XS.iload X35.here hx rfl (bb d13_22) rfl ?_
    refine XS.aloadN X35.here hx rfl (bb d13_24) rfl rfl ?_
    refine st37 _ ?_
    show GG p e below T37 (mkF m 28 #[vR a1, vI 0, vI 2, vR b4, vI 1, vI 0] [(.int 2), (.int 0)]) _
    refine XS.icmpNo X37.here hx rfl (bb d13_28) rfl (tlt (by decide : (0 : Int32) < (2 : Int32))).2.1 ?_
    refine XS.aloadN X37.here hx rfl (bb d13_31) rfl rfl ?_
    refine XS.iload X37.here hx rfl (bb d13_32) rfl ?_
    refine XS.aloadN X37.here hx rfl (bb d13_34) rfl rfl ?_
    show GG p e below T37 (mkF m 35 #[vR a1, vI 0, vI 2, vR b4, vI 1, vI 0] [(.ref a1), (.int 1), (.ref b4)]) _
    refine st38 _ ?_
    show GG p e below T38 (mkF m 38 #[vR a1, vI 0, vI 2, vR b4, vI 1, vI 0] [(.int 2), (.int 1), (.ref b4)]) _
    refine XS.imul X38.here hx rfl (bb d13_38) rfl ?_
    refine XS.iload X38.here hx rfl (bb d13_39) rfl ?_
    refine XS.iadd X38.here hx rfl (bb d13_41) rfl ?_
    refine XS.aloadN X38.here hx rfl (bb d13_42) rfl rfl ?_
    show GG p e below T38 (mkF m 43 #[vR a1, vI 0, vI 2, vR b4, vI 1, vI 0] [(.ref a1), (.int 2), (.ref b4)]) _
    refine XS.iloadN X38.here hx rfl (bb d13_43) rfl ?_
    refine XS.sipush X38.here hx rfl (bb d13_44) ?_
    refine XS.imul X38.here hx rfl (bb d13_47) rfl ?_
    refine XS.iload X38.here hx rfl (bb d13_48) rfl ?_
    show GG p e below T38 (mkF m 50 #[vR a1, vI 0, vI 2, vR b4, vI 1, vI 0] [(.int 1), (.int 0), (.ref a1), (.int 2), (.ref b4)]) _
    refine XS.iadd X38.here hx rfl (bb d13_50) rfl ?_
    refine XS.iload X38.here hx rfl (bb d13_51) rfl ?_
    refine st47.trans ?_
    show GG p e below T47 (mkF m 56 #[vR a1, vI 0, vI 2, vR b4, vI 1, vI 0] [(.int ev1_0), (.int 2), (.ref b4)]) _
    refine st50 _ ?_
    show GG p e below T50 (mkF m 57 #[vR a1, vI 0, vI 2, vR b4, vI 1, vI 0] []) _
    refine XS.iinc X50.here hx rfl (bb d13_57) rfl (l' := #[vR a1, vI 0, vI 2, vR b4, vI 1, vI 1]) rfl ?_
    show GG p e below T50 (mkF m 60 #[vR a1, vI 0, vI 2, vR b4, vI 1, vI 1] []) _
    refine XS.goto X50.here hx rfl (pc0 := 60) (pc' := 22) rfl (bb d13_60) (by decide) (by decide) ?_
    refine XS.iload X50.here hx rfl (bb d13_22) rfl ?_
    refine XS.aloadN X50.here hx rfl (bb d13_24) rfl rfl ?_
    refine st51 _ ?_
    show GG p e below T51 (mkF m 28 #[vR a1, vI 0, vI 2, vR b4, vI 1, vI 1] [(.int 2), (.int 1)]) _
    refine XS.icmpNo X51.here hx rfl (bb d13_28) rfl (tlt (by decide : (1 : Int32) < (2 : Int32))).2.1 ?_
    refine XS.aloadN X51.here hx rfl (bb d13_31) rfl rfl ?_
    refine XS.iload X51.here hx rfl (bb d13_32) rfl ?_
    refine XS.aloadN X51.here hx rfl (bb d13_34) rfl rfl ?_
    show GG p e below T51 (mkF m 35 #[vR a1, vI 0, vI 2, vR b4, vI 1, vI 1] [(.ref a1), (.int 1), (.ref b4)]) _
    refine st53 _ ?_
    show GG p e below T53 (mkF m 38 #[vR a1, vI 0, vI 2, vR b4, vI 1, vI 1] [(.int 2), (.int 1), (.ref b4)]) _
    refine XS.imul X53.here hx rfl (bb d13_38) rfl ?_
    refine XS.iload X53.here hx rfl (bb d13_39) rfl ?_
    refine XS.iadd X53.here hx rfl (bb d13_41) rfl ?_
    refine XS.aloadN X53.here hx rfl (bb d13_42) rfl rfl ?_
    show GG p e below T53 (mkF m 43 #[vR a1, vI 0, vI 2, vR b4, vI 1, vI 1] [(.ref a1), (.int 3), (.ref b4)]) _
    refine XS.iloadN X53.here hx rfl (bb d13_43) rfl ?_
    refine XS.sipush X53.here hx rfl (bb d13_44) ?_
    refine XS.imul X53.here hx rfl (bb d13_47) rfl ?_
    refine XS.iload X53.here hx rfl (bb d13_48) rfl ?_
    show GG p e below T53 (mkF m 50 #[vR a1, vI 0, vI 2, vR b4, vI 1, vI 1] [(.int 1), (.int 0), (.ref a1), (.int 3), (.ref b4)]) _
    refine XS.iadd X53.here hx rfl (bb d13_50) rfl ?_
    refine XS.iload X53.here hx rfl (bb d13_51) rfl ?_
    refine st62.trans ?_
    show GG p e below T62 (mkF m 56 #[vR a1, vI 0, vI 2, vR b4, vI 1, vI 1] [(.int ev1_1), (.int 3), (.ref b4)]) _
    refine st65 _ ?_
    show GG p e below T65 (mkF m 57 #[vR a1, vI 0, vI 2, vR b4, vI 1, vI 1] []) _
    refine XS.iinc X65.here hx rfl (bb d13_57) rfl (l' := #[vR a1, vI 0, vI 2, vR b4, vI 1, vI 2]) rfl ?_
    show GG p e below T65 (mkF m 60 #[vR a1, vI 0, vI 2, vR b4, vI 1, vI 2] []) _
    refine XS.goto X65.here hx rfl (pc0 := 60) (pc' := 22) rfl (bb d13_60) (by decide) (by decide) ?_
    refine XS.iload X65.here hx rfl (bb d13_22) rfl ?_
    refine XS.aloadN X65.here hx rfl (bb d13_24) rfl rfl ?_
    refine st66 _ ?_
    show GG p e below T66 (mkF m 28 #[vR a1, vI 0, vI 2, vR b4, vI 1, vI 2] [(.int 2), (.int 2)]) _
    refine XS.icmpYes X66.here hx rfl (pc0 := 28) (pc' := 63) rfl (bb d13_28) rfl (flt (by decide : ¬ ((2 : Int32) < (2 : Int32)))).2.1 (by decide) (by decide) ?_
    show GG p e below T66 (mkF m 63 #[vR a1, vI 0, vI 2, vR b4, vI 1, vI 2] []) _
    refine XS.iinc X66.here hx rfl (bb d13_63) rfl (l' := #[vR a1, vI 0, vI 2, vR b4, vI 2, vI 2]) rfl ?_
    show GG p e below T66 (mkF m 66 #[vR a1, vI 0, vI 2, vR b4, vI 2, vI 2] []) _
    refine XS.goto X66.here hx rfl (pc0 := 66) (pc' := 13) rfl (bb d13_66) (by decide) (by decide) ?_
    refine XS.iload X66.here hx rfl (bb d13_13) rfl ?_
    refine XS.iloadN X66.here hx rfl (bb d13_15) rfl ?_
    refine XS.icmpYes X66.here hx rfl (pc0 := 16) (pc' := 69) rfl (bb d13_16) rfl (flt (by decide : ¬ ((2 : Int32) < (2 : Int32)))).2.1 (by decide) (by decide) ?_
    show GG p e below T66 (mkF m 69 #[vR a1, vI 0, vI 2, vR b4, vI 2, vI 2] []) _
    refine XS.aloadN X66.here hx rfl (bb d13_69) rfl rfl ?_
    refine st68 _ ?_
    show GG p e below T68 (mkF m 73 #[vR a1, vI 0, vI 2, vR b4, vI 2, vI 2] [(.ref ow)]) _
    refine XS.iloadN X68.here hx rfl (bb d13_73) rfl ?_
    refine XS.aloadN X68.here hx rfl (bb d13_74) rfl rfl ?_
    refine st71 _ ?_
    show GG p e below T71 (mkF m 76 #[vR a1, vI 0, vI 2, vR b4, vI 2, vI 2] []) _
    refine XS.aloadN X71.here hx rfl (bb d13_76) rfl rfl ?_
    refine st73 _ ?_
    show GG p e below T73 (mkF m 80 #[vR a1, vI 0, vI 2, vR b4, vI 2, vI 2] [(.ref on)]) _
    refine XS.iloadN X73.here hx rfl (bb d13_80) rfl ?_
    refine XS.aconstNull X73.here hx rfl (bb d13_81) ?_
    show GG p e below T73 (mkF m 82 #[vR a1, vI 0, vI 2, vR b4, vI 2, vI 2] [.null, (.int 0), (.ref on)]) _
    refine st76 _ ?_
    show GG p e below T76 (mkF m 83 #[vR a1, vI 0, vI 2, vR b4, vI 2, vI 2] []) _
    exact X76.returnOut hx Bd.returns (bb d13_83) hr
  · show Q_widen2_2 Z a1 ow on ob ol oh ov kw_ kn_ kb_ kl_ kh_ kv_ eb0 eb1 el0 el1 eu0 eu1 ev0_0 ev0_1 ev1_0 ev1_1 ex4 ex5 ex6 ex7 ex8 ex9 ex10 ex11 ex12 ex13 ex14 ex15 h0 n0 _ T76.heap _
    rw [e76]
    exact ⟨b4, k4, rfl, N76, ((((((((Keep.refl h0 [ow, on]).ext E4).wr W19 (Or.inr sz_b4)).wr W34 (Or.inr sz_b4)).wr W50 (Or.inr sz_b4)).wr W65 (Or.inr sz_b4)).wr W71 (Or.inl (List.mem_of_getElem? (i := 0) rfl))).wr W76 (Or.inl (List.mem_of_getElem? (i := 1) rfl))), sz_b4, F77, V76, F78⟩
def Q_fitW2_2 (Z : State) (a1 at_ ow on ob ol oh ov : Addr) (kw_ kn_ kb_ kl_ kh_ kv_ : ClassId) (eb0 eb1 el0 el1 eu0 eu1 ev0_0 ev0_1 ev1_0 ev1_1 ex4 ex5 ex6 ex7 ex8 ex9 ex10 ex11 ex12 ex13 ex14 ex15 : Int32) (kt_ : ClassId) (et0 et1 : Int32) (h0 : Heap) (n0 : Nat) (v : Option Value) (h : Heap) (L : List Loc) : Prop := ∃ (oz : Addr) (kz_ : ClassId), v = none ∧ Fr n0 L ∧ Keep h0 h [ow, on] ∧ h0.size ≤ oz ∧ Arv Z h ow kw_ (.array .int) (1 : Int32) [(.ref oz)] .null ∧ Arv Z h on kn_ (.array .char) (1 : Int32) [.null] .null ∧ Arv Z h oz kz_ .int (16 : Int32) [(.int ev0_0), (.int ev0_1), (.int ev1_0), (.int ev1_1), (.int 0), (.int 0), (.int 0), (.int 0), (.int 0), (.int 0), (.int 0), (.int 0), (.int 0), (.int 0), (.int 0), (.int 0)] (.int 0)
set_option maxRecDepth 65536 in
set_option maxHeartbeats 40000000 in
theorem rm_fitW2_2 (l : Launch) (Z : State) (a0 : Array Value) (hw : ∀ d ∈ tables_1, d.before a0 Z = true) (ws : List Jvm.Cond) (a1 at_ ow on ob ol oh ov : Addr) (kw_ kn_ kb_ kl_ kh_ kv_ : ClassId) (eb0 eb1 el0 el1 eu0 eu1 ev0_0 ev0_1 ev1_0 ev1_1 ex4 ex5 ex6 ex7 ex8 ex9 ex10 ex11 ex12 ex13 ex14 ex15 : Int32) (kt_ : ClassId) (et0 et1 : Int32) (h0 : Heap) (n0 : Nat) (Z0 : n0 ≤ h0.size) (O0 : Old Z n0 h0) (S_CS : Sta Z Z.heap cRV "CHUNK_SHIFT" "I" (.int (12 : Int32))) (r0 : Exa Z h0 a1 cRV) (r1 : Fld Z h0 a1 cRV "arity" "I" (.int 2)) (r2 : Fld Z h0 a1 cRV "rows" "I" (.int 2)) (r3 : Fld Z h0 a1 cRV "wide" "[[I" (.ref ow)) (r4 : Fld Z h0 a1 cRV "narrow" "[[C" (.ref on)) (r5 : Fld Z h0 a1 cRV "bases" "[I" (.ref ob)) (r6 : Fld Z h0 a1 cRV "lowest" "[I" (.ref ol)) (r7 : Fld Z h0 a1 cRV "highest" "[I" (.ref oh)) (r8 : Arv Z h0 ow kw_ (.array .int) (1 : Int32) [.null] .null) (r9 : OvrA Z kw_ .int "[I") (r10 : Arv Z h0 on kn_ (.array .char) (1 : Int32) [(.ref ov)] .null) (r11 : OvrA Z kn_ .char "[C") (r12 : Arv Z h0 ob kb_ .int (2 : Int32) [(.int eb0), (.int eb1)] (.int 0)) (r13 : Arv Z h0 ol kl_ .int (2 : Int32) [(.int el0), (.int el1)] (.int 0)) (r14 : Arv Z h0 oh kh_ .int (2 : Int32) [(.int eu0), (.int eu1)] (.int 0)) (r15 : Arv Z h0 ov kv_ .char (16 : Int32) [(.int (nar .char (ev0_0 - eb0))), (.int (nar .char (ev0_1 - eb1))), (.int (nar .char (ev1_0 - eb0))), (.int (nar .char (ev1_1 - eb1))), (.int ex4), (.int ex5), (.int ex6), (.int ex7), (.int ex8), (.int ex9), (.int ex10), (.int ex11), (.int ex12), (.int ex13), (.int ex14), (.int ex15)] (.int 0)) (r16 : Arv Z h0 at_ kt_ .int (2 : Int32) [(.int et0), (.int et1)] (.int 0)) (g_ow : n0 ≤ ow) (g_on : n0 ≤ on) (ne_a1_ow : a1 ≠ ow) (ne_a1_on : a1 ≠ on) (ne_a1_ob : a1 ≠ ob) (ne_a1_ol : a1 ≠ ol) (ne_a1_oh : a1 ≠ oh) (ne_a1_ov : a1 ≠ ov) (ne_ow_on : ow ≠ on) (ne_ow_ob : ow ≠ ob) (ne_ow_ol : ow ≠ ol) (ne_ow_oh : ow ≠ oh) (ne_ow_ov : ow ≠ ov) (ne_on_ob : on ≠ ob) (ne_on_ol : on ≠ ol) (ne_on_oh : on ≠ oh) (ne_on_ov : on ≠ ov) (ne_ob_ol : ob ≠ ol) (ne_ob_oh : ob ≠ oh) (ne_ob_ov : ob ≠ ov) (ne_ol_oh : ol ≠ oh) (ne_ol_ov : ol ≠ ov) (ne_oh_ov : oh ≠ ov) (ne_at__a1 : at_ ≠ a1) (ne_at__ow : at_ ≠ ow) (ne_at__on : at_ ≠ on) (ne_at__ob : at_ ≠ ob) (ne_at__ol : at_ ≠ ol) (ne_at__oh : at_ ≠ oh) (ne_at__ov : at_ ≠ ov) (hIn0_0 : ownIn eb0 ev0_0) (hIn0_1 : ownIn eb1 ev0_1) (hIn1_0 : ownIn eb0 ev1_0) (hIn1_1 : ownIn eb1 ev1_1) (hWd : ¬ (((lcmpW (((f_maxI et0 eu0).toInt64) - ((f_minI et0 el0).toInt64)) (65536 : Int64)) < (0 : Int32)) ∧ ((lcmpW (((f_maxI et1 eu1).toInt64) - ((f_minI et1 el1).toInt64)) (65536 : Int64)) < (0 : Int32)))) :
    MetFree l (⟨cRV, "fit", "(II[I)V"⟩ : MethodName) (head1 (Jvm.Cond.code (⟨cRV, "fit", "(II[I)V"⟩ : MethodName) prog_47_method_7_code 11 none :: ws) ({ frames := 2, cells := 1, slots := 16, locals := 36 } : Room)) (fun a U => a = #[(.ref a1), (.int 0), (.int 2), (.ref at_)] ∧ Z.Warmed39 U.vm ∧ U.heap = h0) (fun _ _ _ _ _ => True) (fun _ U o U' => ∃ v L, o = .returned v ∧ Q_fitW2_2 Z a1 at_ ow on ob ol oh ov kw_ kn_ kb_ kl_ kh_ kv_ eb0 eb1 el0 el1 eu0 eu1 ev0_0 ev0_1 ev1_0 ev1_1 ex4 ex5 ex6 ex7 ex8 ex9 ex10 ex11 ex12 ex13 ex14 ex15 kt_ et0 et1 h0 n0 v U'.heap L ∧ FrameEnd U o U' L ({ frames := 2, cells := 1, slots := 16, locals := 36 } : Room).cells ({ frames := 2, cells := 1, slots := 16, locals := 36 } : Room).slots) := by
  refine MetFree.of_bodySF (plainFor_of_name pn_RowValues) hisR ?_
  intro p e s m args below meth c s₁ Bd hml0 hP hK
  obtain ⟨rfl, hZ, hh⟩ := hP
  have hx := Bd.exec
  have hby := Bd.bytes
  have bb := fun {pc : Nat} {r : Except DecodeError (Instr × Nat)} (h : decode prog_47_method_7_code pc = r) => hb hby h
  have hml : c.maxLocals = 11 := hml0
  have hown : s.vm.findClass cRV = some m.cls := findClass_of_methodNamed Bd.named
  have hnm := (name_of_methodNamed Bd.named Bd.method).1
  have X0 : Stand p l e ({ frames := 2, cells := 1, slots := 16, locals := 36 } : Room) s m #[(.ref a1), (.int 0), (.int 2), (.ref at_)] below meth c s₁ [] 0 0 := Stand.of_body Bd
  have e0 : s₁.heap = h0 := by rw [← hh, Bd.state]; rfl
  have N0 := Fr.nil n0
  have pre0 : ∀ t, Steps p.tables e below (s₁.setTop (mkF m 0 #[vR a1, vI 0, vI 2, vR at_, .unset, .unset, .unset, .unset, .unset, .unset, .unset] [])) t → Steps p.tables e below (s₁.setTop (entryFrame m #[(.ref a1), (.int 0), (.int 2), (.ref at_)] 11)) t := fun t k => castTop (ef_fitW2_2 m a1 at_) k
  obtain ⟨T1, X1, e1, st1⟩ := getF X0 hx hZ hown (host := "") (Or.inl (wd23 hw)) Via.refl e0 r1 (g := (mkF m 6 #[vR a1, vI 0, vI 2, vR at_, vI 0, .unset, .unset, .unset, .unset, .unset, .unset] [(.ref a1), (.int 0)])) rfl rfl (bb d10_6)
  obtain ⟨cl2, Ar2, vq2, vS2, vN2, vH2, vG2⟩ := id r16
  have hin2 : ¬ (((0 : Int32) : Int32) < 0 ∨ cl2.slots.size ≤ ((0 : Int32) : Int32).toNatClampNeg) := inb_of vS2 ⟨by decide, by decide⟩
  obtain ⟨T3, X3, e3, st3⟩ := getF X1 hx hZ hown (host := "") (Or.inl (wd29 hw)) Via.refl e1 r7 (g := (mkF m 17 #[vR a1, vI 0, vI 2, vR at_, vI 0, .unset, .unset, .unset, .unset, .unset, .unset] [(.ref a1), (.int et0)])) rfl rfl (bb d10_17)
  obtain ⟨cl4, Ar4, vq4, vS4, vN4, vH4, vG4⟩ := id r14
  have hin4 : ¬ (((0 : Int32) : Int32) < 0 ∨ cl4.slots.size ≤ ((0 : Int32) : Int32).toNatClampNeg) := inb_of vS4 ⟨by decide, by decide⟩
  obtain ⟨_, _, ⟨T5, L5, k5, n5⟩, -, X5, ⟨Lc5, hQ5, l5, y5, z5⟩, st5⟩ := Jvm.LawKit.callS X3 hx (y := (⟨"java/lang/Math", "max", "(II)I"⟩ : MethodName)) hown (mvT hZ (wd71 hw)) (mvT hZ (wd72 hw)) (mvT hZ (wd54 hw)) (mvT hZ (wd73 hw)) (by decide) (backOf (W := 0) (rm_maxI l Z a0 hw [] et0 eu0 h0 n0 (own_z0 O0) O0 S_CS) hZ (wd73 hw) (wd54 hw) (by decide) (by decide)) (g := (mkF m 23 #[vR a1, vI 0, vI 2, vR at_, vI 0, .unset, .unset, .unset, .unset, .unset, .unset] [(.int eu0), (.int et0)])) rfl (by rw [hml]; rfl) (argsL := [(.int et0), (.int eu0)]) (rest := []) (lenOf pd__II_I_5 rfl) rfl (by show 2 * 0 + _ ≤ _; exact Nat.le_of_eq rfl) (bb d10_23) (fun _ _ => ⟨rfl, e3, (by decide : 0 + 0 ≤ _), (by decide : 0 + 0 ≤ _)⟩)
  dsimp only [Pt.U, Pt.locs, Pt.cells, Pt.slots] at X5 l5 y5 z5 st5 hQ5
  subst l5 y5 z5
  obtain ⟨rfl, N5q, e5⟩ := hQ5
  have N5 := Fr.app N0 N5q
  obtain ⟨cl6, Ar6, vq6, vS6, vN6, vH6, vG6⟩ := id r16
  have hin6 : ¬ (((0 : Int32) : Int32) < 0 ∨ cl6.slots.size ≤ ((0 : Int32) : Int32).toNatClampNeg) := inb_of vS6 ⟨by decide, by decide⟩
  obtain ⟨T7, X7, e7, st7⟩ := getF X5 hx hZ hown (host := "") (Or.inl (wd27 hw)) Via.refl e5 r6 (g := (mkF m 32 #[vR a1, vI 0, vI 2, vR at_, vI 0, .unset, .unset, .unset, .unset, .unset, .unset] [(.ref a1), (.int et0), (.long ((f_maxI et0 eu0).toInt64))])) rfl rfl (bb d10_32)
  obtain ⟨cl8, Ar8, vq8, vS8, vN8, vH8, vG8⟩ := id r13
  have hin8 : ¬ (((0 : Int32) : Int32) < 0 ∨ cl8.slots.size ≤ ((0 : Int32) : Int32).toNatClampNeg) := inb_of vS8 ⟨by decide, by decide⟩
  obtain ⟨_, _, ⟨T9, L9, k9, n9⟩, -, X9, ⟨Lc9, hQ9, l9, y9, z9⟩, st9⟩ := Jvm.LawKit.callS X7 hx (y := (⟨"java/lang/Math", "min", "(II)I"⟩ : MethodName)) hown (mvT hZ (wd64 hw)) (mvT hZ (wd65 hw)) (mvT hZ (wd54 hw)) (mvT hZ (wd66 hw)) (by decide) (backOf (W := 2) (rm_minI l Z a0 hw [] et0 el0 h0 n0 (own_z0 O0) O0 S_CS) hZ (wd66 hw) (wd54 hw) (by decide) (by decide)) (g := (mkF m 38 #[vR a1, vI 0, vI 2, vR at_, vI 0, .unset, .unset, .unset, .unset, .unset, .unset] [(.int el0), (.int et0), (.long ((f_maxI et0 eu0).toInt64))])) rfl (by rw [hml]; rfl) (argsL := [(.int et0), (.int el0)]) (rest := [(.long ((f_maxI et0 eu0).toInt64))]) (lenOf pd__II_I_5 rfl) rfl (by show 2 * 0 + _ ≤ _; exact Nat.le_of_eq rfl) (bb d10_38) (fun _ _ => ⟨rfl, e7, (by decide : 0 + 0 ≤ _), (by decide : 0 + 0 ≤ _)⟩)
  dsimp only [Pt.U, Pt.locs, Pt.cells, Pt.slots] at X9 l9 y9 z9 st9 hQ9
  subst l9 y9 z9
  obtain ⟨rfl, N9q, e9⟩ := hQ9
  have N9 := Fr.app N5 N9q
  have pre10 : ∀ t, GG p e below T9 (mkF m 51 #[vR a1, vI 0, vI 2, vR at_, vI 0, vJ (((f_maxI et0 eu0).toInt64) - ((f_minI et0 el0).toInt64)), .second, .unset, .unset, .unset, .unset] [(.int (lcmpW (((f_maxI et0 eu0).toInt64) - ((f_minI et0 el0).toInt64)) (65536 : Int64)))]) t → GG p e below s₁ (entryFrame m #[(.ref a1), (.int 0), (.int 2), (.ref at_)] 11) t := fun t k => pre0 t (by
      show GG p e below s₁ (mkF m 0 #[vR a1, vI 0, vI 2, vR at_, .unset, .unset, .unset, .unset, .unset, .unset, .unset] []) _
      refine XS.iconst X0.here hx rfl (bb d10_0) ?_
      refine XS.istore X0.here hx rfl (bb d10_1) rfl (l' := #[vR a1, vI 0, vI 2, vR at_, vI 0, .unset, .unset, .unset, .unset, .unset, .unset]) rfl ?_
      show GG p e below s₁ (mkF m 3 #[vR a1, vI 0, vI 2, vR at_, vI 0, .unset, .unset, .unset, .unset, .unset, .unset] []) _
      refine XS.iload X0.here hx rfl (bb d10_3) rfl ?_
      refine XS.aloadN X0.here hx rfl (bb d10_5) rfl rfl ?_
      refine st1 _ ?_
      show GG p e below T1 (mkF m 9 #[vR a1, vI 0, vI 2, vR at_, vI 0, .unset, .unset, .unset, .unset, .unset, .unset] [(.int 2), (.int 0)]) _
      refine XS.icmpNo X1.here hx rfl (bb d10_9) rfl (tlt (by decide : (0 : Int32) < (2 : Int32))).2.1 ?_
      refine XS.aloadN X1.here hx rfl (bb d10_12) rfl rfl ?_
      refine XS.iload X1.here hx rfl (bb d10_13) rfl ?_
      refine X1.iaload hx (j := (0 : Int32)) (v := (.int et0)) (by rw [e1]; exact Ar2.1) (State.isArrayOf_alike hZ.alike Ar2.2.1) Ar2.2.2 hin2 (vH2.at hin2 rfl) (g := (mkF m 15 #[vR a1, vI 0, vI 2, vR at_, vI 0, .unset, .unset, .unset, .unset, .unset, .unset] [(.int 0), (.ref at_)])) rfl rfl (bb d10_15) _ ?_
      show GG p e below T1 (mkF m 16 #[vR a1, vI 0, vI 2, vR at_, vI 0, .unset, .unset, .unset, .unset, .unset, .unset] [(.int et0)]) _
      refine XS.aloadN X1.here hx rfl (bb d10_16) rfl rfl ?_
      refine st3 _ ?_
      show GG p e below T3 (mkF m 20 #[vR a1, vI 0, vI 2, vR at_, vI 0, .unset, .unset, .unset, .unset, .unset, .unset] [(.ref oh), (.int et0)]) _
      refine XS.iload X3.here hx rfl (bb d10_20) rfl ?_
      refine X3.iaload hx (j := (0 : Int32)) (v := (.int eu0)) (by rw [e3]; exact Ar4.1) (State.isArrayOf_alike hZ.alike Ar4.2.1) Ar4.2.2 hin4 (vH4.at hin4 rfl) (g := (mkF m 22 #[vR a1, vI 0, vI 2, vR at_, vI 0, .unset, .unset, .unset, .unset, .unset, .unset] [(.int 0), (.ref oh), (.int et0)])) rfl rfl (bb d10_22) _ ?_
      show GG p e below T3 (mkF m 23 #[vR a1, vI 0, vI 2, vR at_, vI 0, .unset, .unset, .unset, .unset, .unset, .unset] [(.int eu0), (.int et0)]) _
      refine st5 _ ?_
      show GG p e below T5 (mkF m 26 #[vR a1, vI 0, vI 2, vR at_, vI 0, .unset, .unset, .unset, .unset, .unset, .unset] [(.int (f_maxI et0 eu0))]) _
      refine XS.i2l X5.here hx rfl (bb d10_26) rfl ?_
      refine XS.aloadN X5.here hx rfl (bb d10_27) rfl rfl ?_
      refine XS.iload X5.here hx rfl (bb d10_28) rfl ?_
      refine X5.iaload hx (j := (0 : Int32)) (v := (.int et0)) (by rw [e5]; exact Ar6.1) (State.isArrayOf_alike hZ.alike Ar6.2.1) Ar6.2.2 hin6 (vH6.at hin6 rfl) (g := (mkF m 30 #[vR a1, vI 0, vI 2, vR at_, vI 0, .unset, .unset, .unset, .unset, .unset, .unset] [(.int 0), (.ref at_), (.long ((f_maxI et0 eu0).toInt64))])) rfl rfl (bb d10_30) _ ?_
      show GG p e below T5 (mkF m 31 #[vR a1, vI 0, vI 2, vR at_, vI 0, .unset, .unset, .unset, .unset, .unset, .unset] [(.int et0), (.long ((f_maxI et0 eu0).toInt64))]) _
      refine XS.aloadN X5.here hx rfl (bb d10_31) rfl rfl ?_
      refine st7 _ ?_
      show GG p e below T7 (mkF m 35 #[vR a1, vI 0, vI 2, vR at_, vI 0, .unset, .unset, .unset, .unset, .unset, .unset] [(.ref ol), (.int et0), (.long ((f_maxI et0 eu0).toInt64))]) _
      refine XS.iload X7.here hx rfl (bb d10_35) rfl ?_
      refine X7.iaload hx (j := (0 : Int32)) (v := (.int el0)) (by rw [e7]; exact Ar8.1) (State.isArrayOf_alike hZ.alike Ar8.2.1) Ar8.2.2 hin8 (vH8.at hin8 rfl) (g := (mkF m 37 #[vR a1, vI 0, vI 2, vR at_, vI 0, .unset, .unset, .unset, .unset, .unset, .unset] [(.int 0), (.ref ol), (.int et0), (.long ((f_maxI et0 eu0).toInt64))])) rfl rfl (bb d10_37) _ ?_
      show GG p e below T7 (mkF m 38 #[vR a1, vI 0, vI 2, vR at_, vI 0, .unset, .unset, .unset, .unset, .unset, .unset] [(.int el0), (.int et0), (.long ((f_maxI et0 eu0).toInt64))]) _
      refine st9 _ ?_
      show GG p e below T9 (mkF m 41 #[vR a1, vI 0, vI 2, vR at_, vI 0, .unset, .unset, .unset, .unset, .unset, .unset] [(.int (f_minI et0 el0)), (.long ((f_maxI et0 eu0).toInt64))]) _
      refine XS.i2l X9.here hx rfl (bb d10_41) rfl ?_
      refine XS.lsub X9.here hx rfl (bb d10_42) rfl ?_
      show GG p e below T9 (mkF m 43 #[vR a1, vI 0, vI 2, vR at_, vI 0, .unset, .unset, .unset, .unset, .unset, .unset] [(.long (((f_maxI et0 eu0).toInt64) - ((f_minI et0 el0).toInt64)))]) _
      refine XS.lstore X9.here hx rfl (bb d10_43) rfl (l' := #[vR a1, vI 0, vI 2, vR at_, vI 0, vJ (((f_maxI et0 eu0).toInt64) - ((f_minI et0 el0).toInt64)), .second, .unset, .unset, .unset, .unset]) rfl ?_
      show GG p e below T9 (mkF m 45 #[vR a1, vI 0, vI 2, vR at_, vI 0, vJ (((f_maxI et0 eu0).toInt64) - ((f_minI et0 el0).toInt64)), .second, .unset, .unset, .unset, .unset] []) _
      refine XS.lload X9.here hx rfl (bb d10_45) rfl ?_
      refine X9.ldc2Long hx hown (mvT hZ (wd74 hw)) (g := (mkF m 47 #[vR a1, vI 0, vI 2, vR at_, vI 0, vJ (((f_maxI et0 eu0).toInt64) - ((f_minI et0 el0).toInt64)), .second, .unset, .unset, .unset, .unset] [(.long (((f_maxI et0 eu0).toInt64) - ((f_minI et0 el0).toInt64)))])) rfl (bb d10_47) _ ?_
      show GG p e below T9 (mkF m 50 #[vR a1, vI 0, vI 2, vR at_, vI 0, vJ (((f_maxI et0 eu0).toInt64) - ((f_minI et0 el0).toInt64)), .second, .unset, .unset, .unset, .unset] [(.long 65536), (.long (((f_maxI et0 eu0).toInt64) - ((f_minI et0 el0).toInt64)))]) _
      refine XS.lcmp X9.here hx rfl (bb d10_50) rfl ?_
      exact k)
  by_cases g11 : (lcmpW (((f_maxI et0 eu0).toInt64) - ((f_minI et0 el0).toInt64)) (65536 : Int64)) < (0 : Int32)
  · skip
    obtain ⟨T12, X12, e12, st12⟩ := getF X9 hx hZ hown (host := "") (Or.inl (wd23 hw)) Via.refl e9 r1 (g := (mkF m 6 #[vR a1, vI 0, vI 2, vR at_, vI 1, vJ (((f_maxI et0 eu0).toInt64) - ((f_minI et0 el0).toInt64)), .second, .unset, .unset, .unset, .unset] [(.ref a1), (.int 1)])) rfl rfl (bb d10_6)
    obtain ⟨cl13, Ar13, vq13, vS13, vN13, vH13, vG13⟩ := id r16
    have hin13 : ¬ (((1 : Int32) : Int32) < 0 ∨ cl13.slots.size ≤ ((1 : Int32) : Int32).toNatClampNeg) := inb_of vS13 ⟨by decide, by decide⟩
    obtain ⟨T14, X14, e14, st14⟩ := getF X12 hx hZ hown (host := "") (Or.inl (wd29 hw)) Via.refl e12 r7 (g := (mkF m 17 #[vR a1, vI 0, vI 2, vR at_, vI 1, vJ (((f_maxI et0 eu0).toInt64) - ((f_minI et0 el0).toInt64)), .second, .unset, .unset, .unset, .unset] [(.ref a1), (.int et1)])) rfl rfl (bb d10_17)
    obtain ⟨cl15, Ar15, vq15, vS15, vN15, vH15, vG15⟩ := id r14
    have hin15 : ¬ (((1 : Int32) : Int32) < 0 ∨ cl15.slots.size ≤ ((1 : Int32) : Int32).toNatClampNeg) := inb_of vS15 ⟨by decide, by decide⟩
    obtain ⟨_, _, ⟨T16, L16, k16, n16⟩, -, X16, ⟨Lc16, hQ16, l16, y16, z16⟩, st16⟩ := Jvm.LawKit.callS X14 hx (y := (⟨"java/lang/Math", "max", "(II)I"⟩ : MethodName)) hown (mvT hZ (wd71 hw)) (mvT hZ (wd72 hw)) (mvT hZ (wd54 hw)) (mvT hZ (wd73 hw)) (by decide) (backOf (W := 0) (rm_maxI l Z a0 hw [] et1 eu1 h0 n0 (own_z0 O0) O0 S_CS) hZ (wd73 hw) (wd54 hw) (by decide) (by decide)) (g := (mkF m 23 #[vR a1, vI 0, vI 2, vR at_, vI 1, vJ (((f_maxI et0 eu0).toInt64) - ((f_minI et0 el0).toInt64)), .second, .unset, .unset, .unset, .unset] [(.int eu1), (.int et1)])) rfl (by rw [hml]; rfl) (argsL := [(.int et1), (.int eu1)]) (rest := []) (lenOf pd__II_I_5 rfl) rfl (by show 2 * 0 + _ ≤ _; exact Nat.le_of_eq rfl) (bb d10_23) (fun _ _ => ⟨rfl, e14, (by decide : 0 + 0 ≤ _), (by decide : 0 + 0 ≤ _)⟩)
    dsimp only [Pt.U, Pt.locs, Pt.cells, Pt.slots] at X16 l16 y16 z16 st16 hQ16
    subst l16 y16 z16
    obtain ⟨rfl, N16q, e16⟩ := hQ16
    have N16 := Fr.app N9 N16q
    obtain ⟨cl17, Ar17, vq17, vS17, vN17, vH17, vG17⟩ := id r16
    have hin17 : ¬ (((1 : Int32) : Int32) < 0 ∨ cl17.slots.size ≤ ((1 : Int32) : Int32).toNatClampNeg) := inb_of vS17 ⟨by decide, by decide⟩
    obtain ⟨T18, X18, e18, st18⟩ := getF X16 hx hZ hown (host := "") (Or.inl (wd27 hw)) Via.refl e16 r6 (g := (mkF m 32 #[vR a1, vI 0, vI 2, vR at_, vI 1, vJ (((f_maxI et0 eu0).toInt64) - ((f_minI et0 el0).toInt64)), .second, .unset, .unset, .unset, .unset] [(.ref a1), (.int et1), (.long ((f_maxI et1 eu1).toInt64))])) rfl rfl (bb d10_32)
    obtain ⟨cl19, Ar19, vq19, vS19, vN19, vH19, vG19⟩ := id r13
    have hin19 : ¬ (((1 : Int32) : Int32) < 0 ∨ cl19.slots.size ≤ ((1 : Int32) : Int32).toNatClampNeg) := inb_of vS19 ⟨by decide, by decide⟩
    obtain ⟨_, _, ⟨T20, L20, k20, n20⟩, -, X20, ⟨Lc20, hQ20, l20, y20, z20⟩, st20⟩ := Jvm.LawKit.callS X18 hx (y := (⟨"java/lang/Math", "min", "(II)I"⟩ : MethodName)) hown (mvT hZ (wd64 hw)) (mvT hZ (wd65 hw)) (mvT hZ (wd54 hw)) (mvT hZ (wd66 hw)) (by decide) (backOf (W := 2) (rm_minI l Z a0 hw [] et1 el1 h0 n0 (own_z0 O0) O0 S_CS) hZ (wd66 hw) (wd54 hw) (by decide) (by decide)) (g := (mkF m 38 #[vR a1, vI 0, vI 2, vR at_, vI 1, vJ (((f_maxI et0 eu0).toInt64) - ((f_minI et0 el0).toInt64)), .second, .unset, .unset, .unset, .unset] [(.int el1), (.int et1), (.long ((f_maxI et1 eu1).toInt64))])) rfl (by rw [hml]; rfl) (argsL := [(.int et1), (.int el1)]) (rest := [(.long ((f_maxI et1 eu1).toInt64))]) (lenOf pd__II_I_5 rfl) rfl (by show 2 * 0 + _ ≤ _; exact Nat.le_of_eq rfl) (bb d10_38) (fun _ _ => ⟨rfl, e18, (by decide : 0 + 0 ≤ _), (by decide : 0 + 0 ≤ _)⟩)
    dsimp only [Pt.U, Pt.locs, Pt.cells, Pt.slots] at X20 l20 y20 z20 st20 hQ20
    subst l20 y20 z20
    obtain ⟨rfl, N20q, e20⟩ := hQ20
    have N20 := Fr.app N16 N20q
    obtain ⟨cq21, q21, q21'⟩ := (r0).cell
    obtain ⟨_, _, ⟨T21, L21, k21, n21⟩, -, X21, ⟨Lc21, hQ21, l21, y21, z21⟩, st21⟩ := X20.privateBack hx (y := (⟨cRV, "widen", "(II)V"⟩ : MethodName)) hown (mvT hZ (wd80 hw)) (mvT hZ (wd81 hw)) (own_sel (mvT hZ (wd7 hw)) (mvT hZ (wd81 hw)) (mvP hZ (wd82 hw)) (by decide)) (Cond.privateMethod_at (mvP hZ (wd82 hw) (args := #[]))) (mvT hZ (wd83 hw)) (by decide) (backOf (W := 0) (rm_widen2_2 l Z a0 hw [] a1 ow on ob ol oh ov kw_ kn_ kb_ kl_ kh_ kv_ eb0 eb1 el0 el1 eu0 eu1 ev0_0 ev0_1 ev1_0 ev1_1 ex4 ex5 ex6 ex7 ex8 ex9 ex10 ex11 ex12 ex13 ex14 ex15 h0 n0 (own_z0 O0) O0 S_CS r0 r1 r2 r3 r4 r5 r6 r7 r8 r9 r10 r11 r12 r13 r14 r15 g_ow g_on ne_a1_ow ne_a1_on ne_a1_ob ne_a1_ol ne_a1_oh ne_a1_ov ne_ow_on ne_ow_ob ne_ow_ol ne_ow_oh ne_ow_ov ne_on_ob ne_on_ol ne_on_oh ne_on_ov ne_ob_ol ne_ob_oh ne_ob_ov ne_ol_oh ne_ol_ov ne_oh_ov hIn0_0 hIn0_1 hIn1_0 hIn1_1) hZ (wd83 hw) (wd8 hw) (by decide) (by decide)) (g := (mkF m 57 #[vR a1, vI 0, vI 2, vR at_, vI 1, vJ (((f_maxI et1 eu1).toInt64) - ((f_minI et1 el1).toInt64)), .second, .unset, .unset, .unset, .unset] [(.int 2), (.int 0), (.ref a1)])) rfl (by rw [hml]; rfl) (Steps.refl _) (a := a1) (by rw [e20]; exact q21) q21' (argsL := [(.int 0), (.int 2)]) (rest := []) (lenOf pd__II_V_5 rfl) rfl (by show 2 * 0 + _ ≤ _; exact Nat.le_of_eq rfl) (bb d10_57) (fun _ _ => ⟨rfl, e20, (by decide : 0 + 1 ≤ _), (by decide : 0 + 16 ≤ _)⟩)
    dsimp only [Pt.U, Pt.locs, Pt.cells, Pt.slots] at X21 l21 y21 z21 st21 hQ21
    subst l21 y21 z21
    obtain ⟨oz21, kz_21, rfl, N21q, K21, szz_oz21, f21_0, f21_1, f21_2⟩ := hQ21
    have N21 := Fr.app N20 N21q
    have g_oz21 : n0 ≤ oz21 := Nat.le_trans (own_z0 O0) szz_oz21
    have sz_oz21 : h0.size ≤ oz21 := Nat.le_trans (Nat.le_refl _) szz_oz21
    have ne_a1_oz21 : a1 ≠ oz21 := Nat.ne_of_lt (Nat.lt_of_lt_of_le r0.lt szz_oz21)
    have ne_ow_oz21 : ow ≠ oz21 := Nat.ne_of_lt (Nat.lt_of_lt_of_le r8.lt szz_oz21)
    have ne_on_oz21 : on ≠ oz21 := Nat.ne_of_lt (Nat.lt_of_lt_of_le r10.lt szz_oz21)
    have ne_ob_oz21 : ob ≠ oz21 := Nat.ne_of_lt (Nat.lt_of_lt_of_le r12.lt szz_oz21)
    have ne_ol_oz21 : ol ≠ oz21 := Nat.ne_of_lt (Nat.lt_of_lt_of_le r13.lt szz_oz21)
    have ne_oh_oz21 : oh ≠ oz21 := Nat.ne_of_lt (Nat.lt_of_lt_of_le r14.lt szz_oz21)
    have ne_ov_oz21 : ov ≠ oz21 := Nat.ne_of_lt (Nat.lt_of_lt_of_le r15.lt szz_oz21)
    have ne_at__oz21 : at_ ≠ oz21 := Nat.ne_of_lt (Nat.lt_of_lt_of_le r16.lt szz_oz21)
    obtain ⟨fs, hr, hrun, hended, hW, hsame⟩ := X21.leave (v := none) (fun _ => rfl)
    refine ⟨_, _, pre10 _ ?_, hrun, hended, _, _, rfl, ?_, ⟨_, rfl⟩, hW, hsame.mono (by decide) (by decide)⟩
    · show GG p e below T9 (mkF m 51 #[vR a1, vI 0, vI 2, vR at_, vI 0, vJ (((f_maxI et0 eu0).toInt64) - ((f_minI et0 el0).toInt64)), .second, .unset, .unset, .unset, .unset] [(.int (lcmpW (((f_maxI et0 eu0).toInt64) - ((f_minI et0 el0).toInt64)) (65536 : Int64)))]) _
      refine XS.ifYes X9.here hx rfl (pc0 := 51) (pc' := 61) rfl (bb d10_51) rfl ((if0 _ _).trans (tlt g11).1) (by decide) (by decide) ?_
      show GG p e below T9 (mkF m 61 #[vR a1, vI 0, vI 2, vR at_, vI 0, vJ (((f_maxI et0 eu0).toInt64) - ((f_minI et0 el0).toInt64)), .second, .unset, .unset, .unset, .unset] []) _
      refine XS.iinc X9.here hx rfl (bb d10_61) rfl (l' := #[vR a1, vI 0, vI 2, vR at_, vI 1, vJ (((f_maxI et0 eu0).toInt64) - ((f_minI et0 el0).toInt64)), .second, .unset, .unset, .unset, .unset]) rfl ?_
      show GG p e below T9 (mkF m 64 #[vR a1, vI 0, vI 2, vR at_, vI 1, vJ (((f_maxI et0 eu0).toInt64) - ((f_minI et0 el0).toInt64)), .second, .unset, .unset, .unset, .unset] []) _
      refine XS.goto X9.here hx rfl (pc0 := 64) (pc' := 3) rfl (bb d10_64) (by decide) (by decide) ?_
      refine XS.iload X9.here hx rfl (bb d10_3) rfl ?_
      refine XS.aloadN X9.here hx rfl (bb d10_5) rfl rfl ?_
      refine st12 _ ?_
      show GG p e below T12 (mkF m 9 #[vR a1, vI 0, vI 2, vR at_, vI 1, vJ (((f_maxI et0 eu0).toInt64) - ((f_minI et0 el0).toInt64)), .second, .unset, .unset, .unset, .unset] [(.int 2), (.int 1)]) _
      refine XS.icmpNo X12.here hx rfl (bb d10_9) rfl (tlt (by decide : (1 : Int32) < (2 : Int32))).2.1 ?_
      refine XS.aloadN X12.here hx rfl (bb d10_12) rfl rfl ?_
      refine XS.iload X12.here hx rfl (bb d10_13) rfl ?_
      refine X12.iaload hx (j := (1 : Int32)) (v := (.int et1)) (by rw [e12]; exact Ar13.1) (State.isArrayOf_alike hZ.alike Ar13.2.1) Ar13.2.2 hin13 (vH13.at hin13 rfl) (g := (mkF m 15 #[vR a1, vI 0, vI 2, vR at_, vI 1, vJ (((f_maxI et0 eu0).toInt64) - ((f_minI et0 el0).toInt64)), .second, .unset, .unset, .unset, .unset] [(.int 1), (.ref at_)])) rfl rfl (bb d10_15) _ ?_
      show GG p e below T12 (mkF m 16 #[vR a1, vI 0, vI 2, vR at_, vI 1, vJ (((f_maxI et0 eu0).toInt64) - ((f_minI et0 el0).toInt64)), .second, .unset, .unset, .unset, .unset] [(.int et1)]) _
      refine XS.aloadN X12.here hx rfl (bb d10_16) rfl rfl ?_
      refine st14 _ ?_
      show GG p e below T14 (mkF m 20 #[vR a1, vI 0, vI 2, vR at_, vI 1, vJ (((f_maxI et0 eu0).toInt64) - ((f_minI et0 el0).toInt64)), .second, .unset, .unset, .unset, .unset] [(.ref oh), (.int et1)]) _
      refine XS.iload X14.here hx rfl (bb d10_20) rfl ?_
      refine X14.iaload hx (j := (1 : Int32)) (v := (.int eu1)) (by rw [e14]; exact Ar15.1) (State.isArrayOf_alike hZ.alike Ar15.2.1) Ar15.2.2 hin15 (vH15.at hin15 rfl) (g := (mkF m 22 #[vR a1, vI 0, vI 2, vR at_, vI 1, vJ (((f_maxI et0 eu0).toInt64) - ((f_minI et0 el0).toInt64)), .second, .unset, .unset, .unset, .unset] [(.int 1), (.ref oh), (.int et1)])) rfl rfl (bb d10_22) _ ?_
      show GG p e below T14 (mkF m 23 #[vR a1, vI 0, vI 2, vR at_, vI 1, vJ (((f_maxI et0 eu0).toInt64) - ((f_minI et0 el0).toInt64)), .second, .unset, .unset, .unset, .unset] [(.int eu1), (.int et1)]) _
      refine st16 _ ?_
      show GG p e below T16 (mkF m 26 #[vR a1, vI 0, vI 2, vR at_, vI 1, vJ (((f_maxI et0 eu0).toInt64) - ((f_minI et0 el0).toInt64)), .second, .unset, .unset, .unset, .unset] [(.int (f_maxI et1 eu1))]) _
      refine XS.i2l X16.here hx rfl (bb d10_26) rfl ?_
      refine XS.aloadN X16.here hx rfl (bb d10_27) rfl rfl ?_
      refine XS.iload X16.here hx rfl (bb d10_28) rfl ?_
      refine X16.iaload hx (j := (1 : Int32)) (v := (.int et1)) (by rw [e16]; exact Ar17.1) (State.isArrayOf_alike hZ.alike Ar17.2.1) Ar17.2.2 hin17 (vH17.at hin17 rfl) (g := (mkF m 30 #[vR a1, vI 0, vI 2, vR at_, vI 1, vJ (((f_maxI et0 eu0).toInt64) - ((f_minI et0 el0).toInt64)), .second, .unset, .unset, .unset, .unset] [(.int 1), (.ref at_), (.long ((f_maxI et1 eu1).toInt64))])) rfl rfl (bb d10_30) _ ?_
      show GG p e below T16 (mkF m 31 #[vR a1, vI 0, vI 2, vR at_, vI 1, vJ (((f_maxI et0 eu0).toInt64) - ((f_minI et0 el0).toInt64)), .second, .unset, .unset, .unset, .unset] [(.int et1), (.long ((f_maxI et1 eu1).toInt64))]) _
      refine XS.aloadN X16.here hx rfl (bb d10_31) rfl rfl ?_
      refine st18 _ ?_
      show GG p e below T18 (mkF m 35 #[vR a1, vI 0, vI 2, vR at_, vI 1, vJ (((f_maxI et0 eu0).toInt64) - ((f_minI et0 el0).toInt64)), .second, .unset, .unset, .unset, .unset] [(.ref ol), (.int et1), (.long ((f_maxI et1 eu1).toInt64))]) _
      refine XS.iload X18.here hx rfl (bb d10_35) rfl ?_
      refine X18.iaload hx (j := (1 : Int32)) (v := (.int el1)) (by rw [e18]; exact Ar19.1) (State.isArrayOf_alike hZ.alike Ar19.2.1) Ar19.2.2 hin19 (vH19.at hin19 rfl) (g := (mkF m 37 #[vR a1, vI 0, vI 2, vR at_, vI 1, vJ (((f_maxI et0 eu0).toInt64) - ((f_minI et0 el0).toInt64)), .second, .unset, .unset, .unset, .unset] [(.int 1), (.ref ol), (.int et1), (.long ((f_maxI et1 eu1).toInt64))])) rfl rfl (bb d10_37) _ ?_
      show GG p e below T18 (mkF m 38 #[vR a1, vI 0, vI 2, vR at_, vI 1, vJ (((f_maxI et0 eu0).toInt64) - ((f_minI et0 el0).toInt64)), .second, .unset, .unset, .unset, .unset] [(.int el1), (.int et1), (.long ((f_maxI et1 eu1).toInt64))]) _
      refine st20 _ ?_
      show GG p e below T20 (mkF m 41 #[vR a1, vI 0, vI 2, vR at_, vI 1, vJ (((f_maxI et0 eu0).toInt64) - ((f_minI et0 el0).toInt64)), .second, .unset, .unset, .unset, .unset] [(.int (f_minI et1 el1)), (.long ((f_maxI et1 eu1).toInt64))]) _
      refine XS.i2l X20.here hx rfl (bb d10_41) rfl ?_
      refine XS.lsub X20.here hx rfl (bb d10_42) rfl ?_
      show GG p e below T20 (mkF m 43 #[vR a1, vI 0, vI 2, vR at_, vI 1, vJ (((f_maxI et0 eu0).toInt64) - ((f_minI et0 el0).toInt64)), .second, .unset, .unset, .unset, .unset] [(.long (((f_maxI et1 eu1).toInt64) - ((f_minI et1 el1).toInt64)))]) _
      refine XS.lstore X20.here hx rfl (bb d10_43) rfl (l' := #[vR a1, vI 0, vI 2, vR at_, vI 1, vJ (((f_maxI et1 eu1).toInt64) - ((f_minI et1 el1).toInt64)), .second, .unset, .unset, .unset, .unset]) rfl ?_
      show GG p e below T20 (mkF m 45 #[vR a1, vI 0, vI 2, vR at_, vI 1, vJ (((f_maxI et1 eu1).toInt64) - ((f_minI et1 el1).toInt64)), .second, .unset, .unset, .unset, .unset] []) _
      refine XS.lload X20.here hx rfl (bb d10_45) rfl ?_
      refine X20.ldc2Long hx hown (mvT hZ (wd74 hw)) (g := (mkF m 47 #[vR a1, vI 0, vI 2, vR at_, vI 1, vJ (((f_maxI et1 eu1).toInt64) - ((f_minI et1 el1).toInt64)), .second, .unset, .unset, .unset, .unset] [(.long (((f_maxI et1 eu1).toInt64) - ((f_minI et1 el1).toInt64)))])) rfl (bb d10_47) _ ?_
      show GG p e below T20 (mkF m 50 #[vR a1, vI 0, vI 2, vR at_, vI 1, vJ (((f_maxI et1 eu1).toInt64) - ((f_minI et1 el1).toInt64)), .second, .unset, .unset, .unset, .unset] [(.long 65536), (.long (((f_maxI et1 eu1).toInt64) - ((f_minI et1 el1).toInt64)))]) _
      refine XS.lcmp X20.here hx rfl (bb d10_50) rfl ?_
      show GG p e below T20 (mkF m 51 #[vR a1, vI 0, vI 2, vR at_, vI 1, vJ (((f_maxI et1 eu1).toInt64) - ((f_minI et1 el1).toInt64)), .second, .unset, .unset, .unset, .unset] [(.int (lcmpW (((f_maxI et1 eu1).toInt64) - ((f_minI et1 el1).toInt64)) (65536 : Int64)))]) _
      refine XS.ifNo X20.here hx rfl (bb d10_51) rfl ((if0 _ _).trans (flt (fun q => hWd ⟨g11, q⟩)).1) ?_
      refine XS.aloadN X20.here hx rfl (bb d10_54) rfl rfl ?_
      refine XS.iloadN X20.here hx rfl (bb d10_55) rfl ?_
      refine XS.iloadN X20.here hx rfl (bb d10_56) rfl ?_
      show GG p e below T20 (mkF m 57 #[vR a1, vI 0, vI 2, vR at_, vI 1, vJ (((f_maxI et1 eu1).toInt64) - ((f_minI et1 el1).toInt64)), .second, .unset, .unset, .unset, .unset] [(.int 2), (.int 0), (.ref a1)]) _
      refine st21.trans ?_
      show GG p e below T21 (mkF m 60 #[vR a1, vI 0, vI 2, vR at_, vI 1, vJ (((f_maxI et1 eu1).toInt64) - ((f_minI et1 el1).toInt64)), .second, .unset, .unset, .unset, .unset] []) _
      exact X21.returnOut hx Bd.returns (bb d10_60) hr
    · show Q_fitW2_2 Z a1 at_ ow on ob ol oh ov kw_ kn_ kb_ kl_ kh_ kv_ eb0 eb1 el0 el1 eu0 eu1 ev0_0 ev0_1 ev1_0 ev1_1 ex4 ex5 ex6 ex7 ex8 ex9 ex10 ex11 ex12 ex13 ex14 ex15 kt_ et0 et1 h0 n0 _ T21.heap _
      exact ⟨oz21, kz_21, rfl, N21, ((Keep.refl h0 [ow, on]).trans K21 (allS (Or.inl (List.mem_of_getElem? (i := 0) rfl)) (allS (Or.inl (List.mem_of_getElem? (i := 1) rfl)) all0))), sz_oz21, f21_0, f21_1, f21_2⟩
  · skip
    obtain ⟨cq22, q22, q22'⟩ := (r0).cell
    obtain ⟨_, _, ⟨T22, L22, k22, n22⟩, -, X22, ⟨Lc22, hQ22, l22, y22, z22⟩, st22⟩ := X9.privateBack hx (y := (⟨cRV, "widen", "(II)V"⟩ : MethodName)) hown (mvT hZ (wd80 hw)) (mvT hZ (wd81 hw)) (own_sel (mvT hZ (wd7 hw)) (mvT hZ (wd81 hw)) (mvP hZ (wd82 hw)) (by decide)) (Cond.privateMethod_at (mvP hZ (wd82 hw) (args := #[]))) (mvT hZ (wd83 hw)) (by decide) (backOf (W := 0) (rm_widen2_2 l Z a0 hw [] a1 ow on ob ol oh ov kw_ kn_ kb_ kl_ kh_ kv_ eb0 eb1 el0 el1 eu0 eu1 ev0_0 ev0_1 ev1_0 ev1_1 ex4 ex5 ex6 ex7 ex8 ex9 ex10 ex11 ex12 ex13 ex14 ex15 h0 n0 (own_z0 O0) O0 S_CS r0 r1 r2 r3 r4 r5 r6 r7 r8 r9 r10 r11 r12 r13 r14 r15 g_ow g_on ne_a1_ow ne_a1_on ne_a1_ob ne_a1_ol ne_a1_oh ne_a1_ov ne_ow_on ne_ow_ob ne_ow_ol ne_ow_oh ne_ow_ov ne_on_ob ne_on_ol ne_on_oh ne_on_ov ne_ob_ol ne_ob_oh ne_ob_ov ne_ol_oh ne_ol_ov ne_oh_ov hIn0_0 hIn0_1 hIn1_0 hIn1_1) hZ (wd83 hw) (wd8 hw) (by decide) (by decide)) (g := (mkF m 57 #[vR a1, vI 0, vI 2, vR at_, vI 0, vJ (((f_maxI et0 eu0).toInt64) - ((f_minI et0 el0).toInt64)), .second, .unset, .unset, .unset, .unset] [(.int 2), (.int 0), (.ref a1)])) rfl (by rw [hml]; rfl) (Steps.refl _) (a := a1) (by rw [e9]; exact q22) q22' (argsL := [(.int 0), (.int 2)]) (rest := []) (lenOf pd__II_V_5 rfl) rfl (by show 2 * 0 + _ ≤ _; exact Nat.le_of_eq rfl) (bb d10_57) (fun _ _ => ⟨rfl, e9, (by decide : 0 + 1 ≤ _), (by decide : 0 + 16 ≤ _)⟩)
    dsimp only [Pt.U, Pt.locs, Pt.cells, Pt.slots] at X22 l22 y22 z22 st22 hQ22
    subst l22 y22 z22
    obtain ⟨oz22, kz_22, rfl, N22q, K22, szz_oz22, f22_0, f22_1, f22_2⟩ := hQ22
    have N22 := Fr.app N9 N22q
    have g_oz22 : n0 ≤ oz22 := Nat.le_trans (own_z0 O0) szz_oz22
    have sz_oz22 : h0.size ≤ oz22 := Nat.le_trans (Nat.le_refl _) szz_oz22
    have ne_a1_oz22 : a1 ≠ oz22 := Nat.ne_of_lt (Nat.lt_of_lt_of_le r0.lt szz_oz22)
    have ne_ow_oz22 : ow ≠ oz22 := Nat.ne_of_lt (Nat.lt_of_lt_of_le r8.lt szz_oz22)
    have ne_on_oz22 : on ≠ oz22 := Nat.ne_of_lt (Nat.lt_of_lt_of_le r10.lt szz_oz22)
    have ne_ob_oz22 : ob ≠ oz22 := Nat.ne_of_lt (Nat.lt_of_lt_of_le r12.lt szz_oz22)
    have ne_ol_oz22 : ol ≠ oz22 := Nat.ne_of_lt (Nat.lt_of_lt_of_le r13.lt szz_oz22)
    have ne_oh_oz22 : oh ≠ oz22 := Nat.ne_of_lt (Nat.lt_of_lt_of_le r14.lt szz_oz22)
    have ne_ov_oz22 : ov ≠ oz22 := Nat.ne_of_lt (Nat.lt_of_lt_of_le r15.lt szz_oz22)
    have ne_at__oz22 : at_ ≠ oz22 := Nat.ne_of_lt (Nat.lt_of_lt_of_le r16.lt szz_oz22)
    obtain ⟨fs, hr, hrun, hended, hW, hsame⟩ := X22.leave (v := none) (fun _ => rfl)
    refine ⟨_, _, pre10 _ ?_, hrun, hended, _, _, rfl, ?_, ⟨_, rfl⟩, hW, hsame.mono (by decide) (by decide)⟩
    · show GG p e below T9 (mkF m 51 #[vR a1, vI 0, vI 2, vR at_, vI 0, vJ (((f_maxI et0 eu0).toInt64) - ((f_minI et0 el0).toInt64)), .second, .unset, .unset, .unset, .unset] [(.int (lcmpW (((f_maxI et0 eu0).toInt64) - ((f_minI et0 el0).toInt64)) (65536 : Int64)))]) _
      refine XS.ifNo X9.here hx rfl (bb d10_51) rfl ((if0 _ _).trans (flt g11).1) ?_
      refine XS.aloadN X9.here hx rfl (bb d10_54) rfl rfl ?_
      refine XS.iloadN X9.here hx rfl (bb d10_55) rfl ?_
      refine XS.iloadN X9.here hx rfl (bb d10_56) rfl ?_
      show GG p e below T9 (mkF m 57 #[vR a1, vI 0, vI 2, vR at_, vI 0, vJ (((f_maxI et0 eu0).toInt64) - ((f_minI et0 el0).toInt64)), .second, .unset, .unset, .unset, .unset] [(.int 2), (.int 0), (.ref a1)]) _
      refine st22.trans ?_
      show GG p e below T22 (mkF m 60 #[vR a1, vI 0, vI 2, vR at_, vI 0, vJ (((f_maxI et0 eu0).toInt64) - ((f_minI et0 el0).toInt64)), .second, .unset, .unset, .unset, .unset] []) _
      exact X22.returnOut hx Bd.returns (bb d10_60) hr
    · show Q_fitW2_2 Z a1 at_ ow on ob ol oh ov kw_ kn_ kb_ kl_ kh_ kv_ eb0 eb1 el0 el1 eu0 eu1 ev0_0 ev0_1 ev1_0 ev1_1 ex4 ex5 ex6 ex7 ex8 ex9 ex10 ex11 ex12 ex13 ex14 ex15 kt_ et0 et1 h0 n0 _ T22.heap _
      exact ⟨oz22, kz_22, rfl, N22, ((Keep.refl h0 [ow, on]).trans K22 (allS (Or.inl (List.mem_of_getElem? (i := 0) rfl)) (allS (Or.inl (List.mem_of_getElem? (i := 1) rfl)) all0))), sz_oz22, f22_0, f22_1, f22_2⟩
def Q_add2N0 (Z : State) (a1 at_ ow on ob ol oh ov : Addr) (kw_ kn_ kb_ kl_ kh_ kv_ : ClassId) (eb0 eb1 el0 el1 eu0 eu1 ex0 ex1 ex2 ex3 ex4 ex5 ex6 ex7 ex8 ex9 ex10 ex11 ex12 ex13 ex14 ex15 : Int32) (kt_ : ClassId) (et0 et1 : Int32) (h0 : Heap) (n0 : Nat) (v : Option Value) (h : Heap) (L : List Loc) : Prop := v = none ∧ Fr n0 L ∧ Keep h0 h [a1, ob, ol, oh, ov] ∧ Exa Z h a1 cRV ∧ Fld Z h a1 cRV "arity" "I" (.int 2) ∧ Fld Z h a1 cRV "rows" "I" (.int 1) ∧ Fld Z h a1 cRV "wide" "[[I" (.ref ow) ∧ Fld Z h a1 cRV "narrow" "[[C" (.ref on) ∧ Fld Z h a1 cRV "bases" "[I" (.ref ob) ∧ Fld Z h a1 cRV "lowest" "[I" (.ref ol) ∧ Fld Z h a1 cRV "highest" "[I" (.ref oh) ∧ Arv Z h ow kw_ (.array .int) (1 : Int32) [.null] .null ∧ OvrA Z kw_ .int "[I" ∧ Arv Z h on kn_ (.array .char) (1 : Int32) [(.ref ov)] .null ∧ OvrA Z kn_ .char "[C" ∧ Arv Z h ob kb_ .int (2 : Int32) [(.int (f_base et0 et0)), (.int (f_base et1 et1))] (.int 0) ∧ Arv Z h ol kl_ .int (2 : Int32) [(.int et0), (.int et1)] (.int 0) ∧ Arv Z h oh kh_ .int (2 : Int32) [(.int et0), (.int et1)] (.int 0) ∧ Arv Z h ov kv_ .char (16 : Int32) [(.int (nar .char (et0 - (f_base et0 et0)))), (.int (nar .char (et1 - (f_base et1 et1)))), (.int ex2), (.int ex3), (.int ex4), (.int ex5), (.int ex6), (.int ex7), (.int ex8), (.int ex9), (.int ex10), (.int ex11), (.int ex12), (.int ex13), (.int ex14), (.int ex15)] (.int 0)
set_option maxRecDepth 65536 in
set_option maxHeartbeats 40000000 in
theorem rm_add2N0 (l : Launch) (Z : State) (a0 : Array Value) (hw : ∀ d ∈ tables_1, d.before a0 Z = true) (ws : List Jvm.Cond) (a1 at_ ow on ob ol oh ov : Addr) (kw_ kn_ kb_ kl_ kh_ kv_ : ClassId) (eb0 eb1 el0 el1 eu0 eu1 ex0 ex1 ex2 ex3 ex4 ex5 ex6 ex7 ex8 ex9 ex10 ex11 ex12 ex13 ex14 ex15 : Int32) (kt_ : ClassId) (et0 et1 : Int32) (h0 : Heap) (n0 : Nat) (Z0 : n0 ≤ h0.size) (O0 : Old Z n0 h0) (S_CS : Sta Z Z.heap cRV "CHUNK_SHIFT" "I" (.int (12 : Int32))) (r0 : Exa Z h0 a1 cRV) (r1 : Fld Z h0 a1 cRV "arity" "I" (.int 2)) (r2 : Fld Z h0 a1 cRV "rows" "I" (.int 0)) (r3 : Fld Z h0 a1 cRV "wide" "[[I" (.ref ow)) (r4 : Fld Z h0 a1 cRV "narrow" "[[C" (.ref on)) (r5 : Fld Z h0 a1 cRV "bases" "[I" (.ref ob)) (r6 : Fld Z h0 a1 cRV "lowest" "[I" (.ref ol)) (r7 : Fld Z h0 a1 cRV "highest" "[I" (.ref oh)) (r8 : Arv Z h0 ow kw_ (.array .int) (1 : Int32) [.null] .null) (r9 : OvrA Z kw_ .int "[I") (r10 : Arv Z h0 on kn_ (.array .char) (1 : Int32) [(.ref ov)] .null) (r11 : OvrA Z kn_ .char "[C") (r12 : Arv Z h0 ob kb_ .int (2 : Int32) [(.int eb0), (.int eb1)] (.int 0)) (r13 : Arv Z h0 ol kl_ .int (2 : Int32) [(.int el0), (.int el1)] (.int 0)) (r14 : Arv Z h0 oh kh_ .int (2 : Int32) [(.int eu0), (.int eu1)] (.int 0)) (r15 : Arv Z h0 ov kv_ .char (16 : Int32) [(.int ex0), (.int ex1), (.int ex2), (.int ex3), (.int ex4), (.int ex5), (.int ex6), (.int ex7), (.int ex8), (.int ex9), (.int ex10), (.int ex11), (.int ex12), (.int ex13), (.int ex14), (.int ex15)] (.int 0)) (r16 : Arv Z h0 at_ kt_ .int (2 : Int32) [(.int et0), (.int et1)] (.int 0)) (g_a1 : n0 ≤ a1) (g_ob : n0 ≤ ob) (g_ol : n0 ≤ ol) (g_oh : n0 ≤ oh) (g_ov : n0 ≤ ov) (ne_a1_ow : a1 ≠ ow) (ne_a1_on : a1 ≠ on) (ne_a1_ob : a1 ≠ ob) (ne_a1_ol : a1 ≠ ol) (ne_a1_oh : a1 ≠ oh) (ne_a1_ov : a1 ≠ ov) (ne_ow_on : ow ≠ on) (ne_ow_ob : ow ≠ ob) (ne_ow_ol : ow ≠ ol) (ne_ow_oh : ow ≠ oh) (ne_ow_ov : ow ≠ ov) (ne_on_ob : on ≠ ob) (ne_on_ol : on ≠ ol) (ne_on_oh : on ≠ oh) (ne_on_ov : on ≠ ov) (ne_ob_ol : ob ≠ ol) (ne_ob_oh : ob ≠ oh) (ne_ob_ov : ob ≠ ov) (ne_ol_oh : ol ≠ oh) (ne_ol_ov : ol ≠ ov) (ne_oh_ov : oh ≠ ov) (ne_at__a1 : at_ ≠ a1) (ne_at__ow : at_ ≠ ow) (ne_at__on : at_ ≠ on) (ne_at__ob : at_ ≠ ob) (ne_at__ol : at_ ≠ ol) (ne_at__oh : at_ ≠ oh) (ne_at__ov : at_ ≠ ov) :
    MetFree l (⟨cRV, "add", "([I)V"⟩ : MethodName) (head1 (Jvm.Cond.code (⟨cRV, "add", "([I)V"⟩ : MethodName) prog_47_method_4_code 7 none :: ws) ({ frames := 3, cells := 0, slots := 0, locals := 47 } : Room)) (fun a U => a = #[(.ref a1), (.ref at_)] ∧ Z.Warmed39 U.vm ∧ U.heap = h0) (fun _ _ _ _ _ => True) (fun _ U o U' => ∃ v L, o = .returned v ∧ Q_add2N0 Z a1 at_ ow on ob ol oh ov kw_ kn_ kb_ kl_ kh_ kv_ eb0 eb1 el0 el1 eu0 eu1 ex0 ex1 ex2 ex3 ex4 ex5 ex6 ex7 ex8 ex9 ex10 ex11 ex12 ex13 ex14 ex15 kt_ et0 et1 h0 n0 v U'.heap L ∧ FrameEnd U o U' L ({ frames := 3, cells := 0, slots := 0, locals := 47 } : Room).cells ({ frames := 3, cells := 0, slots := 0, locals := 47 } : Room).slots) := by
  refine MetFree.of_bodySF (plainFor_of_name pn_RowValues) hisR ?_
  intro p e s m args below meth c s₁ Bd hml0 hP hK
  obtain ⟨rfl, hZ, hh⟩ := hP
  have hx := Bd.exec
  have hby := Bd.bytes
  have bb := fun {pc : Nat} {r : Except DecodeError (Instr × Nat)} (h : decode prog_47_method_4_code pc = r) => hb hby h
  have hml : c.maxLocals = 7 := hml0
  have hown : s.vm.findClass cRV = some m.cls := findClass_of_methodNamed Bd.named
  have hnm := (name_of_methodNamed Bd.named Bd.method).1
  have X0 : Stand p l e ({ frames := 3, cells := 0, slots := 0, locals := 47 } : Room) s m #[(.ref a1), (.ref at_)] below meth c s₁ [] 0 0 := Stand.of_body Bd
  have e0 : s₁.heap = h0 := by rw [← hh, Bd.state]; rfl
  have N0 := Fr.nil n0
  have pre0 : ∀ t, Steps p.tables e below (s₁.setTop (mkF m 0 #[vR a1, vR at_, .unset, .unset, .unset, .unset, .unset] [])) t → Steps p.tables e below (s₁.setTop (entryFrame m #[(.ref a1), (.ref at_)] 7)) t := fun t k => castTop (ef_add2N0 m a1 at_) k
  obtain ⟨T1, X1, e1, st1⟩ := getF X0 hx hZ hown (host := "") (Or.inl (wd38 hw)) Via.refl e0 r2 (g := (mkF m 1 #[vR a1, vR at_, .unset, .unset, .unset, .unset, .unset] [(.ref a1)])) rfl rfl (bb d4_1)
  obtain ⟨T2, X2, e2, st2⟩ := getS2 X1 hx hZ hown (host := "") (Or.inl (wd40 hw)) Via.refl e1 (S_CS.ext O0.2) (g := (mkF m 4 #[vR a1, vR at_, .unset, .unset, .unset, .unset, .unset] [(.int 0)])) rfl (bb d4_4)
  obtain ⟨T3, X3, e3, st3⟩ := getF X2 hx hZ hown (host := "") (Or.inl (wd38 hw)) Via.refl e2 r2 (g := (mkF m 10 #[vR a1, vR at_, vI 0, .unset, .unset, .unset, .unset] [(.ref a1)])) rfl rfl (bb d4_10)
  obtain ⟨cq4, q4, q4'⟩ := (r0).cell
  obtain ⟨_, _, ⟨T4, L4, k4, n4⟩, -, X4, ⟨Lc4, hQ4, l4, y4, z4⟩, st4⟩ := X3.privateBack hx (y := (⟨cRV, "start", "(I[I)V"⟩ : MethodName)) hown (mvT hZ (wd42 hw)) (mvT hZ (wd43 hw)) (own_sel (mvT hZ (wd7 hw)) (mvT hZ (wd43 hw)) (mvP hZ (wd44 hw)) (by decide)) (Cond.privateMethod_at (mvP hZ (wd44 hw) (args := #[]))) (mvT hZ (wd45 hw)) (by decide) (backOf (W := 0) (rm_start2 l Z a0 hw [] a1 at_ ow on ob ol oh ov kw_ kn_ kb_ kl_ kh_ kv_ eb0 eb1 el0 el1 eu0 eu1 ex0 ex1 ex2 ex3 ex4 ex5 ex6 ex7 ex8 ex9 ex10 ex11 ex12 ex13 ex14 ex15 kt_ et0 et1 h0 n0 (own_z0 O0) O0 S_CS r0 r1 r2 r3 r4 r5 r6 r7 r8 r9 r10 r11 r12 r13 r14 r15 r16 g_ob g_ol g_oh ne_a1_ow ne_a1_on ne_a1_ob ne_a1_ol ne_a1_oh ne_a1_ov ne_ow_on ne_ow_ob ne_ow_ol ne_ow_oh ne_ow_ov ne_on_ob ne_on_ol ne_on_oh ne_on_ov ne_ob_ol ne_ob_oh ne_ob_ov ne_ol_oh ne_ol_ov ne_oh_ov ne_at__a1 ne_at__ow ne_at__on ne_at__ob ne_at__ol ne_at__oh ne_at__ov) hZ (wd45 hw) (wd8 hw) (by decide) (by decide)) (g := (mkF m 25 #[vR a1, vR at_, vI 0, vI 0, .unset, .unset, .unset] [(.ref at_), (.int 0), (.ref a1)])) rfl (by rw [hml]; rfl) (Steps.refl _) (a := a1) (by rw [e3]; exact q4) q4' (argsL := [(.int 0), (.ref at_)]) (rest := []) (lenOf pd__I_I_V_6 rfl) rfl (by show 2 * 0 + _ ≤ _; exact Nat.le_of_eq rfl) (bb d4_25) (fun _ _ => ⟨rfl, e3, (by decide : 0 + 0 ≤ _), (by decide : 0 + 0 ≤ _)⟩)
  dsimp only [Pt.U, Pt.locs, Pt.cells, Pt.slots] at X4 l4 y4 z4 st4 hQ4
  subst l4 y4 z4
  obtain ⟨rfl, N4q, K4, f4_0, f4_1, f4_2⟩ := hQ4
  have N4 := Fr.app N0 N4q
  have F6 := (r0.keep K4)
  have F7 := (r1.keep K4 (ninS ne_a1_ob (ninS ne_a1_ol (ninS ne_a1_oh nin0))))
  have F8 := (r3.keep K4 (ninS ne_a1_ob (ninS ne_a1_ol (ninS ne_a1_oh nin0))))
  have F9 := (r4.keep K4 (ninS ne_a1_ob (ninS ne_a1_ol (ninS ne_a1_oh nin0))))
  have F10 := (r8.keep K4 (ninS ne_ow_ob (ninS ne_ow_ol (ninS ne_ow_oh nin0))))
  have F11 := (r10.keep K4 (ninS ne_on_ob (ninS ne_on_ol (ninS ne_on_oh nin0))))
  have F12 := (r15.keep K4 (ninS (Ne.symm ne_ob_ov) (ninS (Ne.symm ne_ol_ov) (ninS (Ne.symm ne_oh_ov) nin0))))
  have O13 := (O0.keep K4 (allS g_ob (allS g_ol (allS g_oh all0))))
  obtain ⟨cq5, q5, q5'⟩ := (F6).cell
  obtain ⟨_, _, ⟨T5, L5, k5, n5⟩, -, X5, ⟨Lc5, hQ5, l5, y5, z5⟩, st5⟩ := X4.privateBack hx (y := (⟨cRV, "makeRoom", "(II)V"⟩ : MethodName)) hown (mvT hZ (wd60 hw)) (mvT hZ (wd61 hw)) (own_sel (mvT hZ (wd7 hw)) (mvT hZ (wd61 hw)) (mvP hZ (wd62 hw)) (by decide)) (Cond.privateMethod_at (mvP hZ (wd62 hw) (args := #[]))) (mvT hZ (wd63 hw)) (by decide) (backOf (W := 0) (rm_room2N0 l Z a0 hw [] a1 ow on ob ol oh ov kw_ kn_ kb_ kl_ kh_ kv_ (f_base et0 et0) (f_base et1 et1) et0 et1 et0 et1 ex0 ex1 ex2 ex3 ex4 ex5 ex6 ex7 ex8 ex9 ex10 ex11 ex12 ex13 ex14 ex15 T4.heap n0 (own_z0 O13) O13 S_CS F6 F7 F8 F9 F10 F11 F12) hZ (wd63 hw) (wd8 hw) (by decide) (by decide)) (g := (mkF m 31 #[vR a1, vR at_, vI 0, vI 0, .unset, .unset, .unset] [(.int 0), (.int 0), (.ref a1)])) rfl (by rw [hml]; rfl) (Steps.refl _) (a := a1) q5 q5' (argsL := [(.int 0), (.int 0)]) (rest := []) (lenOf pd__II_V_5 rfl) rfl (by show 2 * 0 + _ ≤ _; exact Nat.le_of_eq rfl) (bb d4_31) (fun _ _ => ⟨rfl, rfl, (by decide : 0 + 0 ≤ _), (by decide : 0 + 0 ≤ _)⟩)
  dsimp only [Pt.U, Pt.locs, Pt.cells, Pt.slots] at X5 l5 y5 z5 st5 hQ5
  subst l5 y5 z5
  obtain ⟨rfl, N5q, e5⟩ := hQ5
  have N5 := Fr.app N4 N5q
  obtain ⟨T14, X14, e14, st14⟩ := getF X5 hx hZ hown (host := "") (Or.inl (wd21 hw)) Via.refl e5 F9 (g := (mkF m 35 #[vR a1, vR at_, vI 0, vI 0, .unset, .unset, .unset] [(.ref a1)])) rfl rfl (bb d4_35)
  obtain ⟨cl15, Ar15, vq15, vS15, vN15, vH15, vG15⟩ := id F11
  have hin15 : ¬ (((0 : Int32) : Int32) < 0 ∨ cl15.slots.size ≤ ((0 : Int32) : Int32).toNatClampNeg) := inb_of vS15 ⟨by decide, by decide⟩
  have F17 := (r2.keep K4 (ninS ne_a1_ob (ninS ne_a1_ol (ninS ne_a1_oh nin0))))
  have F18 := (r5.keep K4 (ninS ne_a1_ob (ninS ne_a1_ol (ninS ne_a1_oh nin0))))
  have F19 := (r6.keep K4 (ninS ne_a1_ob (ninS ne_a1_ol (ninS ne_a1_oh nin0))))
  have F20 := (r7.keep K4 (ninS ne_a1_ob (ninS ne_a1_ol (ninS ne_a1_oh nin0))))
  have F21 := (r16.keep K4 (ninS ne_at__ob (ninS ne_at__ol (ninS ne_at__oh nin0))))
  obtain ⟨cq16, q16, q16'⟩ := (F6).cell
  obtain ⟨_, _, ⟨T16, L16, k16, n16⟩, -, X16, ⟨Lc16, hQ16, l16, y16, z16⟩, st16⟩ := X14.privateBack hx (y := (⟨cRV, "fit", "(II[I)V"⟩ : MethodName)) hown (mvT hZ (wd67 hw)) (mvT hZ (wd68 hw)) (own_sel (mvT hZ (wd7 hw)) (mvT hZ (wd68 hw)) (mvP hZ (wd69 hw)) (by decide)) (Cond.privateMethod_at (mvP hZ (wd69 hw) (args := #[]))) (mvT hZ (wd70 hw)) (by decide) (backOf (W := 0) (rm_fit2_0 l Z a0 hw [] a1 at_ ow on ob ol oh ov kw_ kn_ kb_ kl_ kh_ kv_ (f_base et0 et0) (f_base et1 et1) et0 et1 et0 et1 ex0 ex1 ex2 ex3 ex4 ex5 ex6 ex7 ex8 ex9 ex10 ex11 ex12 ex13 ex14 ex15 kt_ et0 et1 T4.heap n0 (own_z0 O13) O13 S_CS F6 F7 F17 F8 F9 F18 F19 F20 F10 r9 F11 r11 f4_0 f4_1 f4_2 F12 F21 g_ol g_oh ne_a1_ow ne_a1_on ne_a1_ob ne_a1_ol ne_a1_oh ne_a1_ov ne_ow_on ne_ow_ob ne_ow_ol ne_ow_oh ne_ow_ov ne_on_ob ne_on_ol ne_on_oh ne_on_ov ne_ob_ol ne_ob_oh ne_ob_ov ne_ol_oh ne_ol_ov ne_oh_ov ne_at__a1 ne_at__ow ne_at__on ne_at__ob ne_at__ol ne_at__oh ne_at__ov) hZ (wd70 hw) (wd8 hw) (by decide) (by decide)) (g := (mkF m 47 #[vR a1, vR at_, vI 0, vI 0, .unset, .unset, .unset] [(.ref at_), (.int 0), (.int 0), (.ref a1)])) rfl (by rw [hml]; rfl) (Steps.refl _) (a := a1) (by rw [e14]; exact q16) q16' (argsL := [(.int 0), (.int 0), (.ref at_)]) (rest := []) (lenOf pd__II_I_V_7 rfl) rfl (by show 2 * 0 + _ ≤ _; exact Nat.le_of_eq rfl) (bb d4_47) (fun _ _ => ⟨rfl, e14, (by decide : 0 + 0 ≤ _), (by decide : 0 + 0 ≤ _)⟩)
  dsimp only [Pt.U, Pt.locs, Pt.cells, Pt.slots] at X16 l16 y16 z16 st16 hQ16
  subst l16 y16 z16
  obtain ⟨rfl, N16q, K16, f16_0, f16_1⟩ := hQ16
  have N16 := Fr.app N5 N16q
  have F23 := (F7.keep K16 (ninS ne_a1_ol (ninS ne_a1_oh nin0)))
  obtain ⟨T22, X22, e22, st22⟩ := getF X16 hx hZ hown (host := "") (Or.inl (wd23 hw)) Via.refl rfl F23 (g := (mkF m 52 #[vR a1, vR at_, vI 0, vI 0, .unset, .unset, .unset] [(.ref a1), (.int 0)])) rfl rfl (bb d4_52)
  have F25 := (F9.keep K16 (ninS ne_a1_ol (ninS ne_a1_oh nin0)))
  obtain ⟨T24, X24, e24, st24⟩ := getF X22 hx hZ hown (host := "") (Or.inl (wd21 hw)) Via.refl e22 F25 (g := (mkF m 59 #[vR a1, vR at_, vI 0, vI 0, vI 0, .unset, .unset] [(.ref a1)])) rfl rfl (bb d4_59)
  have F26 := (F11.keep K16 (ninS ne_on_ol (ninS ne_on_oh nin0)))
  obtain ⟨cl27, Ar27, vq27, vS27, vN27, vH27, vG27⟩ := id F26
  have hin27 : ¬ (((0 : Int32) : Int32) < 0 ∨ cl27.slots.size ≤ ((0 : Int32) : Int32).toNatClampNeg) := inb_of vS27 ⟨by decide, by decide⟩
  obtain ⟨T28, X28, e28, st28⟩ := getF X24 hx hZ hown (host := "") (Or.inl (wd23 hw)) Via.refl e24 F23 (g := (mkF m 72 #[vR a1, vR at_, vI 0, vI 0, vI 0, vR ov, vI 0] [(.ref a1), (.int 0)])) rfl rfl (bb d4_72)
  have F29 := (F21.keep K16 (ninS ne_at__ol (ninS ne_at__oh nin0)))
  obtain ⟨cl30, Ar30, vq30, vS30, vN30, vH30, vG30⟩ := id F29
  have hin30 : ¬ (((0 : Int32) : Int32) < 0 ∨ cl30.slots.size ≤ ((0 : Int32) : Int32).toNatClampNeg) := inb_of vS30 ⟨by decide, by decide⟩
  have F32 := (F18.keep K16 (ninS ne_a1_ol (ninS ne_a1_oh nin0)))
  obtain ⟨T31, X31, e31, st31⟩ := getF X28 hx hZ hown (host := "") (Or.inl (wd25 hw)) Via.refl e28 F32 (g := (mkF m 95 #[vR a1, vR at_, vI 0, vI 0, vI 0, vR ov, vI 0] [(.ref a1), (.int et0), (.int 0), (.ref ov)])) rfl rfl (bb d4_95)
  obtain ⟨T33, X33, e33, st33⟩ := getF X31 hx hZ hown (host := "") (Or.inl (wd23 hw)) Via.refl e31 F23 (g := (mkF m 100 #[vR a1, vR at_, vI 0, vI 0, vI 0, vR ov, vI 0] [(.ref a1), (.int 0), (.ref ob), (.int et0), (.int 0), (.ref ov)])) rfl rfl (bb d4_100)
  have F34 := (f4_0.keep K16 (ninS ne_ob_ol (ninS ne_ob_oh nin0)))
  obtain ⟨cl35, Ar35, vq35, vS35, vN35, vH35, vG35⟩ := id F34
  have hin35 : ¬ (((0 : Int32) : Int32) < 0 ∨ cl35.slots.size ≤ ((0 : Int32) : Int32).toNatClampNeg) := inb_of vS35 ⟨by decide, by decide⟩
  have F36 := (F12.keep K16 (ninS (Ne.symm ne_ol_ov) (ninS (Ne.symm ne_oh_ov) nin0)))
  obtain ⟨cl37, Ar37, vq37, vS37, vN37, vH37, vG37⟩ := id F36
  have hin37 : ¬ (((0 : Int32) : Int32) < 0 ∨ cl37.slots.size ≤ ((0 : Int32) : Int32).toNatClampNeg) := inb_of vS37 ⟨by decide, by decide⟩
  obtain ⟨T37, h37, X37, e37, W37, st37⟩ := stC X33 hx hZ e33 Ar37 (j := (0 : Int32)) hin37 (g := (mkF m 110 #[vR a1, vR at_, vI 0, vI 0, vI 0, vR ov, vI 0] [(.int ((et0 - (f_base et0 et0)).toUInt32.toUInt16.toUInt32.toInt32)), (.int 0), (.ref ov)])) rfl rfl (bb d4_110)
  have V37 : Arv Z h37 ov kv_ .char (16 : Int32) [(.int (nar .char ((et0 - (f_base et0 et0)).toUInt32.toUInt16.toUInt32.toInt32))), (.int ex1), (.int ex2), (.int ex3), (.int ex4), (.int ex5), (.int ex6), (.int ex7), (.int ex8), (.int ex9), (.int ex10), (.int ex11), (.int ex12), (.int ex13), (.int ex14), (.int ex15)] (.int 0) := Arv.set Ar37 vq37 vS37 vN37 vH37 vG37 (fits_nar_char _) W37 0 rfl (Nat.le_of_ble_eq_true rfl)
  have N37 := Fr.snoc X37 N16 g_ov
  have F39 := (F23.other W37 (Or.inl ne_a1_ov))
  obtain ⟨T38, X38, e38, st38⟩ := getF X37 hx hZ hown (host := "") (Or.inl (wd23 hw)) Via.refl e37 F39 (g := (mkF m 72 #[vR a1, vR at_, vI 0, vI 0, vI 0, vR ov, vI 1] [(.ref a1), (.int 1)])) rfl rfl (bb d4_72)
  have F40 := (F29.other W37 ne_at__ov)
  obtain ⟨cl41, Ar41, vq41, vS41, vN41, vH41, vG41⟩ := id F40
  have hin41 : ¬ (((1 : Int32) : Int32) < 0 ∨ cl41.slots.size ≤ ((1 : Int32) : Int32).toNatClampNeg) := inb_of vS41 ⟨by decide, by decide⟩
  have F43 := (F32.other W37 (Or.inl ne_a1_ov))
  obtain ⟨T42, X42, e42, st42⟩ := getF X38 hx hZ hown (host := "") (Or.inl (wd25 hw)) Via.refl e38 F43 (g := (mkF m 95 #[vR a1, vR at_, vI 0, vI 0, vI 0, vR ov, vI 1] [(.ref a1), (.int et1), (.int 1), (.ref ov)])) rfl rfl (bb d4_95)
  obtain ⟨T44, X44, e44, st44⟩ := getF X42 hx hZ hown (host := "") (Or.inl (wd23 hw)) Via.refl e42 F39 (g := (mkF m 100 #[vR a1, vR at_, vI 0, vI 0, vI 0, vR ov, vI 1] [(.ref a1), (.int 0), (.ref ob), (.int et1), (.int 1), (.ref ov)])) rfl rfl (bb d4_100)
  have F45 := (F34.other W37 ne_ob_ov)
  obtain ⟨cl46, Ar46, vq46, vS46, vN46, vH46, vG46⟩ := id F45
  have hin46 : ¬ (((1 : Int32) : Int32) < 0 ∨ cl46.slots.size ≤ ((1 : Int32) : Int32).toNatClampNeg) := inb_of vS46 ⟨by decide, by decide⟩
  obtain ⟨cl47, Ar47, vq47, vS47, vN47, vH47, vG47⟩ := id V37
  have hin47 : ¬ (((1 : Int32) : Int32) < 0 ∨ cl47.slots.size ≤ ((1 : Int32) : Int32).toNatClampNeg) := inb_of vS47 ⟨by decide, by decide⟩
  obtain ⟨T47, h47, X47, e47, W47, st47⟩ := stC X44 hx hZ e44 Ar47 (j := (1 : Int32)) hin47 (g := (mkF m 110 #[vR a1, vR at_, vI 0, vI 0, vI 0, vR ov, vI 1] [(.int ((et1 - (f_base et1 et1)).toUInt32.toUInt16.toUInt32.toInt32)), (.int 1), (.ref ov)])) rfl rfl (bb d4_110)
  have V47 : Arv Z h47 ov kv_ .char (16 : Int32) [(.int (nar .char ((et0 - (f_base et0 et0)).toUInt32.toUInt16.toUInt32.toInt32))), (.int (nar .char ((et1 - (f_base et1 et1)).toUInt32.toUInt16.toUInt32.toInt32))), (.int ex2), (.int ex3), (.int ex4), (.int ex5), (.int ex6), (.int ex7), (.int ex8), (.int ex9), (.int ex10), (.int ex11), (.int ex12), (.int ex13), (.int ex14), (.int ex15)] (.int 0) := Arv.set Ar47 vq47 vS47 vN47 vH47 vG47 (fits_nar_char _) W47 1 rfl (Nat.le_of_ble_eq_true rfl)
  have N47 := Fr.snoc X47 N37 g_ov
  have F49 := (F39.other W47 (Or.inl ne_a1_ov))
  obtain ⟨T48, X48, e48, st48⟩ := getF X47 hx hZ hown (host := "") (Or.inl (wd23 hw)) Via.refl e47 F49 (g := (mkF m 72 #[vR a1, vR at_, vI 0, vI 0, vI 0, vR ov, vI 2] [(.ref a1), (.int 2)])) rfl rfl (bb d4_72)
  have F51 := (((F17.keep K16 (ninS ne_a1_ol (ninS ne_a1_oh nin0))).other W37 (Or.inl ne_a1_ov)).other W47 (Or.inl ne_a1_ov))
  obtain ⟨T50, X50, e50, st50⟩ := getF X48 hx hZ hown (host := "") (Or.inl (wd38 hw)) Via.refl e48 F51 (g := (mkF m 138 #[vR a1, vR at_, vI 0, vI 0, vI 0, vR ov, vI 2] [(.ref a1), (.ref a1)])) rfl rfl (bb d4_138)
  have F53 := (((F6.keep K16).wr W37).wr W47)
  obtain ⟨T52, h52, X52, e52, W52, st52⟩ := putF X50 hx hZ hown (host := "") (Or.inl (wd38 hw)) Via.refl e50 F51 F53 (Or.inl (wd39 hw)) (wd7 hw) (ty := .int) (by decide) rfl rfl (g := (mkF m 143 #[vR a1, vR at_, vI 0, vI 0, vI 0, vR ov, vI 2] [(.int 1), (.ref a1)])) rfl rfl (bb d4_143)
  have Fw52 := F51.same W52
  have N52 := Fr.snoc X52 N47 g_a1
  have F54 := (F53.wr W52)
  have F55 := (F49.other W52 (Or.inr (slot_ne (Or.inr (wd24 hw)) (Or.inl (wd39 hw)) (by decide) (t := .int) (t' := .int) (by decide) (by decide))))
  have F56 := ((((F8.keep K16 (ninS ne_a1_ol (ninS ne_a1_oh nin0))).other W37 (Or.inl ne_a1_ov)).other W47 (Or.inl ne_a1_ov)).other W52 (Or.inr (slot_ne (Or.inl (wd18 hw)) (Or.inl (wd39 hw)) (by decide) (t := (.array (.array .int))) (t' := .int) (by decide) (by decide))))
  have F57 := (((F25.other W37 (Or.inl ne_a1_ov)).other W47 (Or.inl ne_a1_ov)).other W52 (Or.inr (slot_ne (Or.inl (wd22 hw)) (Or.inl (wd39 hw)) (by decide) (t := (.array (.array .char))) (t' := .int) (by decide) (by decide))))
  have F58 := ((F43.other W47 (Or.inl ne_a1_ov)).other W52 (Or.inr (slot_ne (Or.inl (wd26 hw)) (Or.inl (wd39 hw)) (by decide) (t := (.array .int)) (t' := .int) (by decide) (by decide))))
  have F59 := ((((F19.keep K16 (ninS ne_a1_ol (ninS ne_a1_oh nin0))).other W37 (Or.inl ne_a1_ov)).other W47 (Or.inl ne_a1_ov)).other W52 (Or.inr (slot_ne (Or.inr (wd28 hw)) (Or.inl (wd39 hw)) (by decide) (t := (.array .int)) (t' := .int) (by decide) (by decide))))
  have F60 := ((((F20.keep K16 (ninS ne_a1_ol (ninS ne_a1_oh nin0))).other W37 (Or.inl ne_a1_ov)).other W47 (Or.inl ne_a1_ov)).other W52 (Or.inr (slot_ne (Or.inr (wd30 hw)) (Or.inl (wd39 hw)) (by decide) (t := (.array .int)) (t' := .int) (by decide) (by decide))))
  have F61 := ((((F10.keep K16 (ninS ne_ow_ol (ninS ne_ow_oh nin0))).other W37 ne_ow_ov).other W47 ne_ow_ov).other W52 (Ne.symm ne_a1_ow))
  have F62 := (((F26.other W37 ne_on_ov).other W47 ne_on_ov).other W52 (Ne.symm ne_a1_on))
  have F63 := ((F45.other W47 ne_ob_ov).other W52 (Ne.symm ne_a1_ob))
  have F64 := (((f16_0.other W37 ne_ol_ov).other W47 ne_ol_ov).other W52 (Ne.symm ne_a1_ol))
  have F65 := (((f16_1.other W37 ne_oh_ov).other W47 ne_oh_ov).other W52 (Ne.symm ne_a1_oh))
  have F66 := (V47.other W52 (Ne.symm ne_a1_ov))
  obtain ⟨fs, hr, hrun, hended, hW, hsame⟩ := X52.leave (v := none) (fun _ => rfl)
  refine ⟨_, _, pre0 _ ?_, hrun, hended, _, _, rfl, ?_, ⟨_, rfl⟩, hW, hsame.mono (by decide) (by decide)⟩
  · show GG p e below s₁ (mkF m 0 #[vR a1, vR at_, .unset, .unset, .unset, .unset, .unset] []) _
    refine XS.aloadN X0.here hx rfl (bb d4_0) rfl rfl ?_
    refine st1 _ ?_
    show GG p e below T1 (mkF m 4 #[vR a1, vR at_, .unset, .unset, .unset, .unset, .unset] [(.int 0)]) _
    refine st2 _ ?_
    show GG p e below T2 (mkF m 7 #[vR a1, vR at_, .unset, .unset, .unset, .unset, .unset] [(.int 12), (.int 0)]) _
    refine XS.iushr X2.here hx rfl (bb d4_7) rfl ?_
    show GG p e below T2 (mkF m 8 #[vR a1, vR at_, .unset, .unset, .unset, .unset, .unset] [(.int 0)]) _
    refine XS.istoreN X2.here hx rfl (bb d4_8) rfl (l' := #[vR a1, vR at_, vI 0, .unset, .unset, .unset, .unset]) rfl ?_
    show GG p e below T2 (mkF m 9 #[vR a1, vR at_, vI 0, .unset, .unset, .unset, .unset] []) _
    refine XS.aloadN X2.here hx rfl (bb d4_9) rfl rfl ?_
    refine st3 _ ?_
    show GG p e below T3 (mkF m 13 #[vR a1, vR at_, vI 0, .unset, .unset, .unset, .unset] [(.int 0)]) _
    refine XS.sipush X3.here hx rfl (bb d4_13) ?_
    refine XS.iand X3.here hx rfl (bb d4_16) rfl ?_
    refine XS.istoreN X3.here hx rfl (bb d4_17) rfl (l' := #[vR a1, vR at_, vI 0, vI 0, .unset, .unset, .unset]) rfl ?_
    show GG p e below T3 (mkF m 18 #[vR a1, vR at_, vI 0, vI 0, .unset, .unset, .unset] []) _
    refine XS.iloadN X3.here hx rfl (bb d4_18) rfl ?_
    refine XS.ifNo X3.here hx rfl (bb d4_19) rfl ((if0 _ _).trans (teq (by decide : (0 : Int32) = (0 : Int32))).2) ?_
    refine XS.aloadN X3.here hx rfl (bb d4_22) rfl rfl ?_
    refine XS.iloadN X3.here hx rfl (bb d4_23) rfl ?_
    show GG p e below T3 (mkF m 24 #[vR a1, vR at_, vI 0, vI 0, .unset, .unset, .unset] [(.int 0), (.ref a1)]) _
    refine XS.aloadN X3.here hx rfl (bb d4_24) rfl rfl ?_
    refine st4.trans ?_
    show GG p e below T4 (mkF m 28 #[vR a1, vR at_, vI 0, vI 0, .unset, .unset, .unset] []) _
    refine XS.aloadN X4.here hx rfl (bb d4_28) rfl rfl ?_
    refine XS.iloadN X4.here hx rfl (bb d4_29) rfl ?_
    refine XS.iloadN X4.here hx rfl (bb d4_30) rfl ?_
    refine st5.trans ?_
    show GG p e below T5 (mkF m 34 #[vR a1, vR at_, vI 0, vI 0, .unset, .unset, .unset] []) _
    refine XS.aloadN X5.here hx rfl (bb d4_34) rfl rfl ?_
    refine st14 _ ?_
    show GG p e below T14 (mkF m 38 #[vR a1, vR at_, vI 0, vI 0, .unset, .unset, .unset] [(.ref on)]) _
    refine XS.iloadN X14.here hx rfl (bb d4_38) rfl ?_
    refine X14.aaload hx (j := (0 : Int32)) (v := (.ref ov)) (by rw [e14]; exact Ar15.1) (State.isArrayOf_alike hZ.alike Ar15.2.1) rfl Ar15.2.2 hin15 (vH15.at hin15 rfl) (g := (mkF m 39 #[vR a1, vR at_, vI 0, vI 0, .unset, .unset, .unset] [(.int 0), (.ref on)])) rfl rfl (bb d4_39) _ ?_
    show GG p e below T14 (mkF m 40 #[vR a1, vR at_, vI 0, vI 0, .unset, .unset, .unset] [(.ref ov)]) _
    refine XS.ifnullNo X14.here hx rfl (bb d4_40) rfl ?_
    show GG p e below T14 (mkF m 43 #[vR a1, vR at_, vI 0, vI 0, .unset, .unset, .unset] []) _
    refine XS.aloadN X14.here hx rfl (bb d4_43) rfl rfl ?_
    refine XS.iloadN X14.here hx rfl (bb d4_44) rfl ?_
    refine XS.iloadN X14.here hx rfl (bb d4_45) rfl ?_
    refine XS.aloadN X14.here hx rfl (bb d4_46) rfl rfl ?_
    show GG p e below T14 (mkF m 47 #[vR a1, vR at_, vI 0, vI 0, .unset, .unset, .unset] [(.ref at_), (.int 0), (.int 0), (.ref a1)]) _
    refine st16.trans ?_
    show GG p e below T16 (mkF m 50 #[vR a1, vR at_, vI 0, vI 0, .unset, .unset, .unset] []) _
    refine XS.iloadN X16.here hx rfl (bb d4_50) rfl ?_
    refine XS.aloadN X16.here hx rfl (bb d4_51) rfl rfl ?_
    refine st22 _ ?_
    show GG p e below T22 (mkF m 55 #[vR a1, vR at_, vI 0, vI 0, .unset, .unset, .unset] [(.int 2), (.int 0)]) _
    refine XS.imul X22.here hx rfl (bb d4_55) rfl ?_
    refine XS.istore X22.here hx rfl (bb d4_56) rfl (l' := #[vR a1, vR at_, vI 0, vI 0, vI 0, .unset, .unset]) rfl ?_
    show GG p e below T22 (mkF m 58 #[vR a1, vR at_, vI 0, vI 0, vI 0, .unset, .unset] []) _
    refine XS.aloadN X22.here hx rfl (bb d4_58) rfl rfl ?_
    refine st24 _ ?_
    show GG p e below T24 (mkF m 62 #[vR a1, vR at_, vI 0, vI 0, vI 0, .unset, .unset] [(.ref on)]) _
    refine XS.iloadN X24.here hx rfl (bb d4_62) rfl ?_
    refine X24.aaload hx (j := (0 : Int32)) (v := (.ref ov)) (by rw [e24]; exact Ar27.1) (State.isArrayOf_alike hZ.alike Ar27.2.1) rfl Ar27.2.2 hin27 (vH27.at hin27 rfl) (g := (mkF m 63 #[vR a1, vR at_, vI 0, vI 0, vI 0, .unset, .unset] [(.int 0), (.ref on)])) rfl rfl (bb d4_63) _ ?_
    show GG p e below T24 (mkF m 64 #[vR a1, vR at_, vI 0, vI 0, vI 0, .unset, .unset] [(.ref ov)]) _
    refine XS.astore X24.here hx rfl (bb d4_64) rfl rfl (l' := #[vR a1, vR at_, vI 0, vI 0, vI 0, vR ov, .unset]) rfl ?_
    show GG p e below T24 (mkF m 66 #[vR a1, vR at_, vI 0, vI 0, vI 0, vR ov, .unset] []) _
    refine XS.iconst X24.here hx rfl (bb d4_66) ?_
    refine XS.istore X24.here hx rfl (bb d4_67) rfl (l' := #[vR a1, vR at_, vI 0, vI 0, vI 0, vR ov, vI 0]) rfl ?_
    show GG p e below T24 (mkF m 69 #[vR a1, vR at_, vI 0, vI 0, vI 0, vR ov, vI 0] []) _
    refine XS.iload X24.here hx rfl (bb d4_69) rfl ?_
    refine XS.aloadN X24.here hx rfl (bb d4_71) rfl rfl ?_
    refine st28 _ ?_
    show GG p e below T28 (mkF m 75 #[vR a1, vR at_, vI 0, vI 0, vI 0, vR ov, vI 0] [(.int 2), (.int 0)]) _
    refine XS.icmpNo X28.here hx rfl (bb d4_75) rfl (tlt (by decide : (0 : Int32) < (2 : Int32))).2.1 ?_
    refine XS.aload X28.here hx rfl (bb d4_78) rfl rfl ?_
    refine XS.ifnullNo X28.here hx rfl (bb d4_80) rfl ?_
    show GG p e below T28 (mkF m 83 #[vR a1, vR at_, vI 0, vI 0, vI 0, vR ov, vI 0] []) _
    refine XS.aload X28.here hx rfl (bb d4_83) rfl rfl ?_
    refine XS.iload X28.here hx rfl (bb d4_85) rfl ?_
    refine XS.iload X28.here hx rfl (bb d4_87) rfl ?_
    refine XS.iadd X28.here hx rfl (bb d4_89) rfl ?_
    show GG p e below T28 (mkF m 90 #[vR a1, vR at_, vI 0, vI 0, vI 0, vR ov, vI 0] [(.int 0), (.ref ov)]) _
    refine XS.aloadN X28.here hx rfl (bb d4_90) rfl rfl ?_
    refine XS.iload X28.here hx rfl (bb d4_91) rfl ?_
    refine X28.iaload hx (j := (0 : Int32)) (v := (.int et0)) (by rw [e28]; exact Ar30.1) (State.isArrayOf_alike hZ.alike Ar30.2.1) Ar30.2.2 hin30 (vH30.at hin30 rfl) (g := (mkF m 93 #[vR a1, vR at_, vI 0, vI 0, vI 0, vR ov, vI 0] [(.int 0), (.ref at_), (.int 0), (.ref ov)])) rfl rfl (bb d4_93) _ ?_
    show GG p e below T28 (mkF m 94 #[vR a1, vR at_, vI 0, vI 0, vI 0, vR ov, vI 0] [(.int et0), (.int 0), (.ref ov)]) _
    refine XS.aloadN X28.here hx rfl (bb d4_94) rfl rfl ?_
    refine st31 _ ?_
    show GG p e below T31 (mkF m 98 #[vR a1, vR at_, vI 0, vI 0, vI 0, vR ov, vI 0] [(.ref ob), (.int et0), (.int 0), (.ref ov)]) _
    refine XS.iloadN X31.here hx rfl (bb d4_98) rfl ?_
    refine XS.aloadN X31.here hx rfl (bb d4_99) rfl rfl ?_
    refine st33 _ ?_
    show GG p e below T33 (mkF m 103 #[vR a1, vR at_, vI 0, vI 0, vI 0, vR ov, vI 0] [(.int 2), (.int 0), (.ref ob), (.int et0), (.int 0), (.ref ov)]) _
    refine XS.imul X33.here hx rfl (bb d4_103) rfl ?_
    refine XS.iload X33.here hx rfl (bb d4_104) rfl ?_
    refine XS.iadd X33.here hx rfl (bb d4_106) rfl ?_
    refine X33.iaload hx (j := (0 : Int32)) (v := (.int (f_base et0 et0))) (by rw [e33]; exact Ar35.1) (State.isArrayOf_alike hZ.alike Ar35.2.1) Ar35.2.2 hin35 (vH35.at hin35 rfl) (g := (mkF m 107 #[vR a1, vR at_, vI 0, vI 0, vI 0, vR ov, vI 0] [(.int 0), (.ref ob), (.int et0), (.int 0), (.ref ov)])) rfl rfl (bb d4_107) _ ?_
    show GG p e below T33 (mkF m 108 #[vR a1, vR at_, vI 0, vI 0, vI 0, vR ov, vI 0] [(.int (f_base et0 et0)), (.int et0), (.int 0), (.ref ov)]) _
    refine XS.isub X33.here hx rfl (bb d4_108) rfl ?_
    refine XS.i2c X33.here hx rfl (bb d4_109) rfl ?_
    show GG p e below T33 (mkF m 110 #[vR a1, vR at_, vI 0, vI 0, vI 0, vR ov, vI 0] [(.int ((et0 - (f_base et0 et0)).toUInt32.toUInt16.toUInt32.toInt32)), (.int 0), (.ref ov)]) _
    refine st37 _ ?_
    show GG p e below T37 (mkF m 111 #[vR a1, vR at_, vI 0, vI 0, vI 0, vR ov, vI 0] []) _
    refine XS.goto X37.here hx rfl (pc0 := 111) (pc' := 130) rfl (bb d4_111) (by decide) (by decide) ?_
    refine XS.iinc X37.here hx rfl (bb d4_130) rfl (l' := #[vR a1, vR at_, vI 0, vI 0, vI 0, vR ov, vI 1]) rfl ?_
    show GG p e below T37 (mkF m 133 #[vR a1, vR at_, vI 0, vI 0, vI 0, vR ov, vI 1] []) _
    refine XS.goto X37.here hx rfl (pc0 := 133) (pc' := 69) rfl (bb d4_133) (by decide) (by decide) ?_
    refine XS.iload X37.here hx rfl (bb d4_69) rfl ?_
    refine XS.aloadN X37.here hx rfl (bb d4_71) rfl rfl ?_
    refine st38 _ ?_
    show GG p e below T38 (mkF m 75 #[vR a1, vR at_, vI 0, vI 0, vI 0, vR ov, vI 1] [(.int 2), (.int 1)]) _
    refine XS.icmpNo X38.here hx rfl (bb d4_75) rfl (tlt (by decide : (1 : Int32) < (2 : Int32))).2.1 ?_
    refine XS.aload X38.here hx rfl (bb d4_78) rfl rfl ?_
    refine XS.ifnullNo X38.here hx rfl (bb d4_80) rfl ?_
    show GG p e below T38 (mkF m 83 #[vR a1, vR at_, vI 0, vI 0, vI 0, vR ov, vI 1] []) _
    refine XS.aload X38.here hx rfl (bb d4_83) rfl rfl ?_
    refine XS.iload X38.here hx rfl (bb d4_85) rfl ?_
    refine XS.iload X38.here hx rfl (bb d4_87) rfl ?_
    refine XS.iadd X38.here hx rfl (bb d4_89) rfl ?_
    show GG p e below T38 (mkF m 90 #[vR a1, vR at_, vI 0, vI 0, vI 0, vR ov, vI 1] [(.int 1), (.ref ov)]) _
    refine XS.aloadN X38.here hx rfl (bb d4_90) rfl rfl ?_
    refine XS.iload X38.here hx rfl (bb d4_91) rfl ?_
    refine X38.iaload hx (j := (1 : Int32)) (v := (.int et1)) (by rw [e38]; exact Ar41.1) (State.isArrayOf_alike hZ.alike Ar41.2.1) Ar41.2.2 hin41 (vH41.at hin41 rfl) (g := (mkF m 93 #[vR a1, vR at_, vI 0, vI 0, vI 0, vR ov, vI 1] [(.int 1), (.ref at_), (.int 1), (.ref ov)])) rfl rfl (bb d4_93) _ ?_
    show GG p e below T38 (mkF m 94 #[vR a1, vR at_, vI 0, vI 0, vI 0, vR ov, vI 1] [(.int et1), (.int 1), (.ref ov)]) _
    refine XS.aloadN X38.here hx rfl (bb d4_94) rfl rfl ?_
    refine st42 _ ?_
    show GG p e below T42 (mkF m 98 #[vR a1, vR at_, vI 0, vI 0, vI 0, vR ov, vI 1] [(.ref ob), (.int et1), (.int 1), (.ref ov)]) _
    refine XS.iloadN X42.here hx rfl (bb d4_98) rfl ?_
    refine XS.aloadN X42.here hx rfl (bb d4_99) rfl rfl ?_
    refine st44 _ ?_
    show GG p e below T44 (mkF m 103 #[vR a1, vR at_, vI 0, vI 0, vI 0, vR ov, vI 1] [(.int 2), (.int 0), (.ref ob), (.int et1), (.int 1), (.ref ov)]) _
    refine XS.imul X44.here hx rfl (bb d4_103) rfl ?_
    refine XS.iload X44.here hx rfl (bb d4_104) rfl ?_
    refine XS.iadd X44.here hx rfl (bb d4_106) rfl ?_
    refine X44.iaload hx (j := (1 : Int32)) (v := (.int (f_base et1 et1))) (by rw [e44]; exact Ar46.1) (State.isArrayOf_alike hZ.alike Ar46.2.1) Ar46.2.2 hin46 (vH46.at hin46 rfl) (g := (mkF m 107 #[vR a1, vR at_, vI 0, vI 0, vI 0, vR ov, vI 1] [(.int 1), (.ref ob), (.int et1), (.int 1), (.ref ov)])) rfl rfl (bb d4_107) _ ?_
    show GG p e below T44 (mkF m 108 #[vR a1, vR at_, vI 0, vI 0, vI 0, vR ov, vI 1] [(.int (f_base et1 et1)), (.int et1), (.int 1), (.ref ov)]) _
    refine XS.isub X44.here hx rfl (bb d4_108) rfl ?_
    refine XS.i2c X44.here hx rfl (bb d4_109) rfl ?_
    show GG p e below T44 (mkF m 110 #[vR a1, vR at_, vI 0, vI 0, vI 0, vR ov, vI 1] [(.int ((et1 - (f_base et1 et1)).toUInt32.toUInt16.toUInt32.toInt32)), (.int 1), (.ref ov)]) _
    refine st47 _ ?_
    show GG p e below T47 (mkF m 111 #[vR a1, vR at_, vI 0, vI 0, vI 0, vR ov, vI 1] []) _
    refine XS.goto X47.here hx rfl (pc0 := 111) (pc' := 130) rfl (bb d4_111) (by decide) (by decide) ?_
    refine XS.iinc X47.here hx rfl (bb d4_130) rfl (l' := #[vR a1, vR at_, vI 0, vI 0, vI 0, vR ov, vI 2]) rfl ?_
    show GG p e below T47 (mkF m 133 #[vR a1, vR at_, vI 0, vI 0, vI 0, vR ov, vI 2] []) _
    refine XS.goto X47.here hx rfl (pc0 := 133) (pc' := 69) rfl (bb d4_133) (by decide) (by decide) ?_
    refine XS.iload X47.here hx rfl (bb d4_69) rfl ?_
    refine XS.aloadN X47.here hx rfl (bb d4_71) rfl rfl ?_
    refine st48 _ ?_
    show GG p e below T48 (mkF m 75 #[vR a1, vR at_, vI 0, vI 0, vI 0, vR ov, vI 2] [(.int 2), (.int 2)]) _
    refine XS.icmpYes X48.here hx rfl (pc0 := 75) (pc' := 136) rfl (bb d4_75) rfl (flt (by decide : ¬ ((2 : Int32) < (2 : Int32)))).2.1 (by decide) (by decide) ?_
    show GG p e below T48 (mkF m 136 #[vR a1, vR at_, vI 0, vI 0, vI 0, vR ov, vI 2] []) _
    refine XS.aloadN X48.here hx rfl (bb d4_136) rfl rfl ?_
    refine XS.dup X48.here hx rfl (bb d4_137) rfl rfl ?_
    refine st50 _ ?_
    show GG p e below T50 (mkF m 141 #[vR a1, vR at_, vI 0, vI 0, vI 0, vR ov, vI 2] [(.int 0), (.ref a1)]) _
    refine XS.iconst X50.here hx rfl (bb d4_141) ?_
    refine XS.iadd X50.here hx rfl (bb d4_142) rfl ?_
    refine st52 _ ?_
    show GG p e below T52 (mkF m 146 #[vR a1, vR at_, vI 0, vI 0, vI 0, vR ov, vI 2] []) _
    exact X52.returnOut hx Bd.returns (bb d4_146) hr
  · show Q_add2N0 Z a1 at_ ow on ob ol oh ov kw_ kn_ kb_ kl_ kh_ kv_ eb0 eb1 el0 el1 eu0 eu1 ex0 ex1 ex2 ex3 ex4 ex5 ex6 ex7 ex8 ex9 ex10 ex11 ex12 ex13 ex14 ex15 kt_ et0 et1 h0 n0 _ T52.heap _
    rw [e52]
    exact ⟨rfl, N52, ((((((Keep.refl h0 [a1, ob, ol, oh, ov]).trans K4 (allS (Or.inl (List.mem_of_getElem? (i := 1) rfl)) (allS (Or.inl (List.mem_of_getElem? (i := 2) rfl)) (allS (Or.inl (List.mem_of_getElem? (i := 3) rfl)) all0)))).trans K16 (allS (Or.inl (List.mem_of_getElem? (i := 2) rfl)) (allS (Or.inl (List.mem_of_getElem? (i := 3) rfl)) all0))).wr W37 (Or.inl (List.mem_of_getElem? (i := 4) rfl))).wr W47 (Or.inl (List.mem_of_getElem? (i := 4) rfl))).wr W52 (Or.inl (List.mem_of_getElem? (i := 0) rfl))), F54, F55, Fw52, F56, F57, F58, F59, F60, F61, r9, F62, r11, F63, F64, F65, (by have q := F66; (try simp only [own_c1] at q); exact q)⟩
def Q_add2N1 (Z : State) (a1 at_ ow on ob ol oh ov : Addr) (kw_ kn_ kb_ kl_ kh_ kv_ : ClassId) (eb0 eb1 el0 el1 eu0 eu1 ev0_0 ev0_1 ex2 ex3 ex4 ex5 ex6 ex7 ex8 ex9 ex10 ex11 ex12 ex13 ex14 ex15 : Int32) (kt_ : ClassId) (et0 et1 : Int32) (h0 : Heap) (n0 : Nat) (v : Option Value) (h : Heap) (L : List Loc) : Prop := v = none ∧ Fr n0 L ∧ Keep h0 h [a1, ob, ol, oh, ov] ∧ Exa Z h a1 cRV ∧ Fld Z h a1 cRV "arity" "I" (.int 2) ∧ Fld Z h a1 cRV "rows" "I" (.int 2) ∧ Fld Z h a1 cRV "wide" "[[I" (.ref ow) ∧ Fld Z h a1 cRV "narrow" "[[C" (.ref on) ∧ Fld Z h a1 cRV "bases" "[I" (.ref ob) ∧ Fld Z h a1 cRV "lowest" "[I" (.ref ol) ∧ Fld Z h a1 cRV "highest" "[I" (.ref oh) ∧ Arv Z h ow kw_ (.array .int) (1 : Int32) [.null] .null ∧ OvrA Z kw_ .int "[I" ∧ Arv Z h on kn_ (.array .char) (1 : Int32) [(.ref ov)] .null ∧ OvrA Z kn_ .char "[C" ∧ Arv Z h ob kb_ .int (2 : Int32) [(.int (nbase eb0 el0 eu0 et0)), (.int (nbase eb1 el1 eu1 et1))] (.int 0) ∧ Arv Z h ol kl_ .int (2 : Int32) [(.int (f_minI et0 el0)), (.int (f_minI et1 el1))] (.int 0) ∧ Arv Z h oh kh_ .int (2 : Int32) [(.int (f_maxI et0 eu0)), (.int (f_maxI et1 eu1))] (.int 0) ∧ Arv Z h ov kv_ .char (16 : Int32) [(.int (nar .char (ev0_0 - (nbase eb0 el0 eu0 et0)))), (.int (nar .char (ev0_1 - (nbase eb1 el1 eu1 et1)))), (.int (nar .char (et0 - (nbase eb0 el0 eu0 et0)))), (.int (nar .char (et1 - (nbase eb1 el1 eu1 et1)))), (.int ex4), (.int ex5), (.int ex6), (.int ex7), (.int ex8), (.int ex9), (.int ex10), (.int ex11), (.int ex12), (.int ex13), (.int ex14), (.int ex15)] (.int 0)
set_option maxRecDepth 65536 in
set_option maxHeartbeats 40000000 in
theorem rm_add2N1 (l : Launch) (Z : State) (a0 : Array Value) (hw : ∀ d ∈ tables_1, d.before a0 Z = true) (ws : List Jvm.Cond) (a1 at_ ow on ob ol oh ov : Addr) (kw_ kn_ kb_ kl_ kh_ kv_ : ClassId) (eb0 eb1 el0 el1 eu0 eu1 ev0_0 ev0_1 ex2 ex3 ex4 ex5 ex6 ex7 ex8 ex9 ex10 ex11 ex12 ex13 ex14 ex15 : Int32) (kt_ : ClassId) (et0 et1 : Int32) (h0 : Heap) (n0 : Nat) (Z0 : n0 ≤ h0.size) (O0 : Old Z n0 h0) (S_CS : Sta Z Z.heap cRV "CHUNK_SHIFT" "I" (.int (12 : Int32))) (r0 : Exa Z h0 a1 cRV) (r1 : Fld Z h0 a1 cRV "arity" "I" (.int 2)) (r2 : Fld Z h0 a1 cRV "rows" "I" (.int 1)) (r3 : Fld Z h0 a1 cRV "wide" "[[I" (.ref ow)) (r4 : Fld Z h0 a1 cRV "narrow" "[[C" (.ref on)) (r5 : Fld Z h0 a1 cRV "bases" "[I" (.ref ob)) (r6 : Fld Z h0 a1 cRV "lowest" "[I" (.ref ol)) (r7 : Fld Z h0 a1 cRV "highest" "[I" (.ref oh)) (r8 : Arv Z h0 ow kw_ (.array .int) (1 : Int32) [.null] .null) (r9 : OvrA Z kw_ .int "[I") (r10 : Arv Z h0 on kn_ (.array .char) (1 : Int32) [(.ref ov)] .null) (r11 : OvrA Z kn_ .char "[C") (r12 : Arv Z h0 ob kb_ .int (2 : Int32) [(.int eb0), (.int eb1)] (.int 0)) (r13 : Arv Z h0 ol kl_ .int (2 : Int32) [(.int el0), (.int el1)] (.int 0)) (r14 : Arv Z h0 oh kh_ .int (2 : Int32) [(.int eu0), (.int eu1)] (.int 0)) (r15 : Arv Z h0 ov kv_ .char (16 : Int32) [(.int (nar .char (ev0_0 - eb0))), (.int (nar .char (ev0_1 - eb1))), (.int ex2), (.int ex3), (.int ex4), (.int ex5), (.int ex6), (.int ex7), (.int ex8), (.int ex9), (.int ex10), (.int ex11), (.int ex12), (.int ex13), (.int ex14), (.int ex15)] (.int 0)) (r16 : Arv Z h0 at_ kt_ .int (2 : Int32) [(.int et0), (.int et1)] (.int 0)) (g_a1 : n0 ≤ a1) (g_ob : n0 ≤ ob) (g_ol : n0 ≤ ol) (g_oh : n0 ≤ oh) (g_ov : n0 ≤ ov) (ne_a1_ow : a1 ≠ ow) (ne_a1_on : a1 ≠ on) (ne_a1_ob : a1 ≠ ob) (ne_a1_ol : a1 ≠ ol) (ne_a1_oh : a1 ≠ oh) (ne_a1_ov : a1 ≠ ov) (ne_ow_on : ow ≠ on) (ne_ow_ob : ow ≠ ob) (ne_ow_ol : ow ≠ ol) (ne_ow_oh : ow ≠ oh) (ne_ow_ov : ow ≠ ov) (ne_on_ob : on ≠ ob) (ne_on_ol : on ≠ ol) (ne_on_oh : on ≠ oh) (ne_on_ov : on ≠ ov) (ne_ob_ol : ob ≠ ol) (ne_ob_oh : ob ≠ oh) (ne_ob_ov : ob ≠ ov) (ne_ol_oh : ol ≠ oh) (ne_ol_ov : ol ≠ ov) (ne_oh_ov : oh ≠ ov) (ne_at__a1 : at_ ≠ a1) (ne_at__ow : at_ ≠ ow) (ne_at__on : at_ ≠ on) (ne_at__ob : at_ ≠ ob) (ne_at__ol : at_ ≠ ol) (ne_at__oh : at_ ≠ oh) (ne_at__ov : at_ ≠ ov) (hs0 : (lcmpW (((f_maxI et0 eu0).toInt64) - ((f_minI et0 el0).toInt64)) (65536 : Int64)) < (0 : Int32)) (hs1 : (lcmpW (((f_maxI et1 eu1).toInt64) - ((f_minI et1 el1).toInt64)) (65536 : Int64)) < (0 : Int32)) :
    MetFree l (⟨cRV, "add", "([I)V"⟩ : MethodName) (head1 (Jvm.Cond.code (⟨cRV, "add", "([I)V"⟩ : MethodName) prog_47_method_4_code 7 none :: ws) ({ frames := 3, cells := 0, slots := 0, locals := 52 } : Room)) (fun a U => a = #[(.ref a1), (.ref at_)] ∧ Z.Warmed39 U.vm ∧ U.heap = h0) (fun _ _ _ _ _ => True) (fun _ U o U' => ∃ v L, o = .returned v ∧ Q_add2N1 Z a1 at_ ow on ob ol oh ov kw_ kn_ kb_ kl_ kh_ kv_ eb0 eb1 el0 el1 eu0 eu1 ev0_0 ev0_1 ex2 ex3 ex4 ex5 ex6 ex7 ex8 ex9 ex10 ex11 ex12 ex13 ex14 ex15 kt_ et0 et1 h0 n0 v U'.heap L ∧ FrameEnd U o U' L ({ frames := 3, cells := 0, slots := 0, locals := 52 } : Room).cells ({ frames := 3, cells := 0, slots := 0, locals := 52 } : Room).slots) := by
  refine MetFree.of_bodySF (plainFor_of_name pn_RowValues) hisR ?_
  intro p e s m args below meth c s₁ Bd hml0 hP hK
  obtain ⟨rfl, hZ, hh⟩ := hP
  have hx := Bd.exec
  have hby := Bd.bytes
  have bb := fun {pc : Nat} {r : Except DecodeError (Instr × Nat)} (h : decode prog_47_method_4_code pc = r) => hb hby h
  have hml : c.maxLocals = 7 := hml0
  have hown : s.vm.findClass cRV = some m.cls := findClass_of_methodNamed Bd.named
  have hnm := (name_of_methodNamed Bd.named Bd.method).1
  have X0 : Stand p l e ({ frames := 3, cells := 0, slots := 0, locals := 52 } : Room) s m #[(.ref a1), (.ref at_)] below meth c s₁ [] 0 0 := Stand.of_body Bd
  have e0 : s₁.heap = h0 := by rw [← hh, Bd.state]; rfl
  have N0 := Fr.nil n0
  have pre0 : ∀ t, Steps p.tables e below (s₁.setTop (mkF m 0 #[vR a1, vR at_, .unset, .unset, .unset, .unset, .unset] [])) t → Steps p.tables e below (s₁.setTop (entryFrame m #[(.ref a1), (.ref at_)] 7)) t := fun t k => castTop (ef_add2N1 m a1 at_) k
  obtain ⟨T1, X1, e1, st1⟩ := getF X0 hx hZ hown (host := "") (Or.inl (wd38 hw)) Via.refl e0 r2 (g := (mkF m 1 #[vR a1, vR at_, .unset, .unset, .unset, .unset, .unset] [(.ref a1)])) rfl rfl (bb d4_1)
  obtain ⟨T2, X2, e2, st2⟩ := getS2 X1 hx hZ hown (host := "") (Or.inl (wd40 hw)) Via.refl e1 (S_CS.ext O0.2) (g := (mkF m 4 #[vR a1, vR at_, .unset, .unset, .unset, .unset, .unset] [(.int 1)])) rfl (bb d4_4)
  obtain ⟨T3, X3, e3, st3⟩ := getF X2 hx hZ hown (host := "") (Or.inl (wd38 hw)) Via.refl e2 r2 (g := (mkF m 10 #[vR a1, vR at_, vI 0, .unset, .unset, .unset, .unset] [(.ref a1)])) rfl rfl (bb d4_10)
  obtain ⟨cq4, q4, q4'⟩ := (r0).cell
  obtain ⟨_, _, ⟨T4, L4, k4, n4⟩, -, X4, ⟨Lc4, hQ4, l4, y4, z4⟩, st4⟩ := X3.privateBack hx (y := (⟨cRV, "makeRoom", "(II)V"⟩ : MethodName)) hown (mvT hZ (wd60 hw)) (mvT hZ (wd61 hw)) (own_sel (mvT hZ (wd7 hw)) (mvT hZ (wd61 hw)) (mvP hZ (wd62 hw)) (by decide)) (Cond.privateMethod_at (mvP hZ (wd62 hw) (args := #[]))) (mvT hZ (wd63 hw)) (by decide) (backOf (W := 0) (rm_room2N1 l Z a0 hw [] a1 ow on ob ol oh ov kw_ kn_ kb_ kl_ kh_ kv_ eb0 eb1 el0 el1 eu0 eu1 ev0_0 ev0_1 ex2 ex3 ex4 ex5 ex6 ex7 ex8 ex9 ex10 ex11 ex12 ex13 ex14 ex15 h0 n0 (own_z0 O0) O0 S_CS r0 r1 r3 r4 r8 r10 r15) hZ (wd63 hw) (wd8 hw) (by decide) (by decide)) (g := (mkF m 31 #[vR a1, vR at_, vI 0, vI 1, .unset, .unset, .unset] [(.int 1), (.int 0), (.ref a1)])) rfl (by rw [hml]; rfl) (Steps.refl _) (a := a1) (by rw [e3]; exact q4) q4' (argsL := [(.int 0), (.int 1)]) (rest := []) (lenOf pd__II_V_5 rfl) rfl (by show 2 * 0 + _ ≤ _; exact Nat.le_of_eq rfl) (bb d4_31) (fun _ _ => ⟨rfl, e3, (by decide : 0 + 0 ≤ _), (by decide : 0 + 0 ≤ _)⟩)
  dsimp only [Pt.U, Pt.locs, Pt.cells, Pt.slots] at X4 l4 y4 z4 st4 hQ4
  subst l4 y4 z4
  obtain ⟨rfl, N4q, e4⟩ := hQ4
  have N4 := Fr.app N0 N4q
  obtain ⟨T5, X5, e5, st5⟩ := getF X4 hx hZ hown (host := "") (Or.inl (wd21 hw)) Via.refl e4 r4 (g := (mkF m 35 #[vR a1, vR at_, vI 0, vI 1, .unset, .unset, .unset] [(.ref a1)])) rfl rfl (bb d4_35)
  obtain ⟨cl6, Ar6, vq6, vS6, vN6, vH6, vG6⟩ := id r10
  have hin6 : ¬ (((0 : Int32) : Int32) < 0 ∨ cl6.slots.size ≤ ((0 : Int32) : Int32).toNatClampNeg) := inb_of vS6 ⟨by decide, by decide⟩
  obtain ⟨cq7, q7, q7'⟩ := (r0).cell
  obtain ⟨_, _, ⟨T7, L7, k7, n7⟩, -, X7, ⟨Lc7, hQ7, l7, y7, z7⟩, st7⟩ := X5.privateBack hx (y := (⟨cRV, "fit", "(II[I)V"⟩ : MethodName)) hown (mvT hZ (wd67 hw)) (mvT hZ (wd68 hw)) (own_sel (mvT hZ (wd7 hw)) (mvT hZ (wd68 hw)) (mvP hZ (wd69 hw)) (by decide)) (Cond.privateMethod_at (mvP hZ (wd69 hw) (args := #[]))) (mvT hZ (wd70 hw)) (by decide) (backOf (W := 0) (rm_fit2_1 l Z a0 hw [] a1 at_ ow on ob ol oh ov kw_ kn_ kb_ kl_ kh_ kv_ eb0 eb1 el0 el1 eu0 eu1 ev0_0 ev0_1 ex2 ex3 ex4 ex5 ex6 ex7 ex8 ex9 ex10 ex11 ex12 ex13 ex14 ex15 kt_ et0 et1 h0 n0 (own_z0 O0) O0 S_CS r0 r1 r2 r3 r4 r5 r6 r7 r8 r9 r10 r11 r12 r13 r14 r15 r16 g_ob g_ol g_oh g_ov ne_a1_ow ne_a1_on ne_a1_ob ne_a1_ol ne_a1_oh ne_a1_ov ne_ow_on ne_ow_ob ne_ow_ol ne_ow_oh ne_ow_ov ne_on_ob ne_on_ol ne_on_oh ne_on_ov ne_ob_ol ne_ob_oh ne_ob_ov ne_ol_oh ne_ol_ov ne_oh_ov ne_at__a1 ne_at__ow ne_at__on ne_at__ob ne_at__ol ne_at__oh ne_at__ov hs0 hs1) hZ (wd70 hw) (wd8 hw) (by decide) (by decide)) (g := (mkF m 47 #[vR a1, vR at_, vI 0, vI 1, .unset, .unset, .unset] [(.ref at_), (.int 1), (.int 0), (.ref a1)])) rfl (by rw [hml]; rfl) (Steps.refl _) (a := a1) (by rw [e5]; exact q7) q7' (argsL := [(.int 0), (.int 1), (.ref at_)]) (rest := []) (lenOf pd__II_I_V_7 rfl) rfl (by show 2 * 0 + _ ≤ _; exact Nat.le_of_eq rfl) (bb d4_47) (fun _ _ => ⟨rfl, e5, (by decide : 0 + 0 ≤ _), (by decide : 0 + 0 ≤ _)⟩)
  dsimp only [Pt.U, Pt.locs, Pt.cells, Pt.slots] at X7 l7 y7 z7 st7 hQ7
  subst l7 y7 z7
  obtain ⟨rfl, N7q, K7, f7_0, f7_1, f7_2, f7_3⟩ := hQ7
  have N7 := Fr.app N4 N7q
  have F9 := (r1.keep K7 (ninS ne_a1_ob (ninS ne_a1_ol (ninS ne_a1_oh (ninS ne_a1_ov nin0)))))
  obtain ⟨T8, X8, e8, st8⟩ := getF X7 hx hZ hown (host := "") (Or.inl (wd23 hw)) Via.refl rfl F9 (g := (mkF m 52 #[vR a1, vR at_, vI 0, vI 1, .unset, .unset, .unset] [(.ref a1), (.int 1)])) rfl rfl (bb d4_52)
  have F11 := (r4.keep K7 (ninS ne_a1_ob (ninS ne_a1_ol (ninS ne_a1_oh (ninS ne_a1_ov nin0)))))
  obtain ⟨T10, X10, e10, st10⟩ := getF X8 hx hZ hown (host := "") (Or.inl (wd21 hw)) Via.refl e8 F11 (g := (mkF m 59 #[vR a1, vR at_, vI 0, vI 1, vI 2, .unset, .unset] [(.ref a1)])) rfl rfl (bb d4_59)
  have F12 := (r10.keep K7 (ninS ne_on_ob (ninS ne_on_ol (ninS ne_on_oh (ninS ne_on_ov nin0)))))
  obtain ⟨cl13, Ar13, vq13, vS13, vN13, vH13, vG13⟩ := id F12
  have hin13 : ¬ (((0 : Int32) : Int32) < 0 ∨ cl13.slots.size ≤ ((0 : Int32) : Int32).toNatClampNeg) := inb_of vS13 ⟨by decide, by decide⟩
  obtain ⟨T14, X14, e14, st14⟩ := getF X10 hx hZ hown (host := "") (Or.inl (wd23 hw)) Via.refl e10 F9 (g := (mkF m 72 #[vR a1, vR at_, vI 0, vI 1, vI 2, vR ov, vI 0] [(.ref a1), (.int 0)])) rfl rfl (bb d4_72)
  have F15 := (r16.keep K7 (ninS ne_at__ob (ninS ne_at__ol (ninS ne_at__oh (ninS ne_at__ov nin0)))))
  obtain ⟨cl16, Ar16, vq16, vS16, vN16, vH16, vG16⟩ := id F15
  have hin16 : ¬ (((0 : Int32) : Int32) < 0 ∨ cl16.slots.size ≤ ((0 : Int32) : Int32).toNatClampNeg) := inb_of vS16 ⟨by decide, by decide⟩
  have F18 := (r5.keep K7 (ninS ne_a1_ob (ninS ne_a1_ol (ninS ne_a1_oh (ninS ne_a1_ov nin0)))))
  obtain ⟨T17, X17, e17, st17⟩ := getF X14 hx hZ hown (host := "") (Or.inl (wd25 hw)) Via.refl e14 F18 (g := (mkF m 95 #[vR a1, vR at_, vI 0, vI 1, vI 2, vR ov, vI 0] [(.ref a1), (.int et0), (.int 2), (.ref ov)])) rfl rfl (bb d4_95)
  obtain ⟨T19, X19, e19, st19⟩ := getF X17 hx hZ hown (host := "") (Or.inl (wd23 hw)) Via.refl e17 F9 (g := (mkF m 100 #[vR a1, vR at_, vI 0, vI 1, vI 2, vR ov, vI 0] [(.ref a1), (.int 0), (.ref ob), (.int et0), (.int 2), (.ref ov)])) rfl rfl (bb d4_100)
  obtain ⟨cl20, Ar20, vq20, vS20, vN20, vH20, vG20⟩ := id f7_2
  have hin20 : ¬ (((0 : Int32) : Int32) < 0 ∨ cl20.slots.size ≤ ((0 : Int32) : Int32).toNatClampNeg) := inb_of vS20 ⟨by decide, by decide⟩
  obtain ⟨cl21, Ar21, vq21, vS21, vN21, vH21, vG21⟩ := id f7_3
  have hin21 : ¬ (((2 : Int32) : Int32) < 0 ∨ cl21.slots.size ≤ ((2 : Int32) : Int32).toNatClampNeg) := inb_of vS21 ⟨by decide, by decide⟩
  obtain ⟨T21, h21, X21, e21, W21, st21⟩ := stC X19 hx hZ e19 Ar21 (j := (2 : Int32)) hin21 (g := (mkF m 110 #[vR a1, vR at_, vI 0, vI 1, vI 2, vR ov, vI 0] [(.int ((et0 - (nbase eb0 el0 eu0 et0)).toUInt32.toUInt16.toUInt32.toInt32)), (.int 2), (.ref ov)])) rfl rfl (bb d4_110)
  have V21 : Arv Z h21 ov kv_ .char (16 : Int32) [(.int (nar .char (ev0_0 - (nbase eb0 el0 eu0 et0)))), (.int (nar .char (ev0_1 - (nbase eb1 el1 eu1 et1)))), (.int (nar .char ((et0 - (nbase eb0 el0 eu0 et0)).toUInt32.toUInt16.toUInt32.toInt32))), (.int ex3), (.int ex4), (.int ex5), (.int ex6), (.int ex7), (.int ex8), (.int ex9), (.int ex10), (.int ex11), (.int ex12), (.int ex13), (.int ex14), (.int ex15)] (.int 0) := Arv.set Ar21 vq21 vS21 vN21 vH21 vG21 (fits_nar_char _) W21 2 rfl (Nat.le_of_ble_eq_true rfl)
  have N21 := Fr.snoc X21 N7 g_ov
  have F23 := (F9.other W21 (Or.inl ne_a1_ov))
  obtain ⟨T22, X22, e22, st22⟩ := getF X21 hx hZ hown (host := "") (Or.inl (wd23 hw)) Via.refl e21 F23 (g := (mkF m 72 #[vR a1, vR at_, vI 0, vI 1, vI 2, vR ov, vI 1] [(.ref a1), (.int 1)])) rfl rfl (bb d4_72)
  have F24 := (F15.other W21 ne_at__ov)
  obtain ⟨cl25, Ar25, vq25, vS25, vN25, vH25, vG25⟩ := id F24
  have hin25 : ¬ (((1 : Int32) : Int32) < 0 ∨ cl25.slots.size ≤ ((1 : Int32) : Int32).toNatClampNeg) := inb_of vS25 ⟨by decide, by decide⟩
  have F27 := (F18.other W21 (Or.inl ne_a1_ov))
  obtain ⟨T26, X26, e26, st26⟩ := getF X22 hx hZ hown (host := "") (Or.inl (wd25 hw)) Via.refl e22 F27 (g := (mkF m 95 #[vR a1, vR at_, vI 0, vI 1, vI 2, vR ov, vI 1] [(.ref a1), (.int et1), (.int 3), (.ref ov)])) rfl rfl (bb d4_95)
  obtain ⟨T28, X28, e28, st28⟩ := getF X26 hx hZ hown (host := "") (Or.inl (wd23 hw)) Via.refl e26 F23 (g := (mkF m 100 #[vR a1, vR at_, vI 0, vI 1, vI 2, vR ov, vI 1] [(.ref a1), (.int 0), (.ref ob), (.int et1), (.int 3), (.ref ov)])) rfl rfl (bb d4_100)
  have F29 := (f7_2.other W21 ne_ob_ov)
  obtain ⟨cl30, Ar30, vq30, vS30, vN30, vH30, vG30⟩ := id F29
  have hin30 : ¬ (((1 : Int32) : Int32) < 0 ∨ cl30.slots.size ≤ ((1 : Int32) : Int32).toNatClampNeg) := inb_of vS30 ⟨by decide, by decide⟩
  obtain ⟨cl31, Ar31, vq31, vS31, vN31, vH31, vG31⟩ := id V21
  have hin31 : ¬ (((3 : Int32) : Int32) < 0 ∨ cl31.slots.size ≤ ((3 : Int32) : Int32).toNatClampNeg) := inb_of vS31 ⟨by decide, by decide⟩
  obtain ⟨T31, h31, X31, e31, W31, st31⟩ := stC X28 hx hZ e28 Ar31 (j := (3 : Int32)) hin31 (g := (mkF m 110 #[vR a1, vR at_, vI 0, vI 1, vI 2, vR ov, vI 1] [(.int ((et1 - (nbase eb1 el1 eu1 et1)).toUInt32.toUInt16.toUInt32.toInt32)), (.int 3), (.ref ov)])) rfl rfl (bb d4_110)
  have V31 : Arv Z h31 ov kv_ .char (16 : Int32) [(.int (nar .char (ev0_0 - (nbase eb0 el0 eu0 et0)))), (.int (nar .char (ev0_1 - (nbase eb1 el1 eu1 et1)))), (.int (nar .char ((et0 - (nbase eb0 el0 eu0 et0)).toUInt32.toUInt16.toUInt32.toInt32))), (.int (nar .char ((et1 - (nbase eb1 el1 eu1 et1)).toUInt32.toUInt16.toUInt32.toInt32))), (.int ex4), (.int ex5), (.int ex6), (.int ex7), (.int ex8), (.int ex9), (.int ex10), (.int ex11), (.int ex12), (.int ex13), (.int ex14), (.int ex15)] (.int 0) := Arv.set Ar31 vq31 vS31 vN31 vH31 vG31 (fits_nar_char _) W31 3 rfl (Nat.le_of_ble_eq_true rfl)
  have N31 := Fr.snoc X31 N21 g_ov
  have F33 := (F23.other W31 (Or.inl ne_a1_ov))
  obtain ⟨T32, X32, e32, st32⟩ := getF X31 hx hZ hown (host := "") (Or.inl (wd23 hw)) Via.refl e31 F33 (g := (mkF m 72 #[vR a1, vR at_, vI 0, vI 1, vI 2, vR ov, vI 2] [(.ref a1), (.int 2)])) rfl rfl (bb d4_72)
  have F35 := (((r2.keep K7 (ninS ne_a1_ob (ninS ne_a1_ol (ninS ne_a1_oh (ninS ne_a1_ov nin0))))).other W21 (Or.inl ne_a1_ov)).other W31 (Or.inl ne_a1_ov))
  obtain ⟨T34, X34, e34, st34⟩ := getF X32 hx hZ hown (host := "") (Or.inl (wd38 hw)) Via.refl e32 F35 (g := (mkF m 138 #[vR a1, vR at_, vI 0, vI 1, vI 2, vR ov, vI 2] [(.ref a1), (.ref a1)])) rfl rfl (bb d4_138)
  have F37 := (((r0.keep K7).wr W21).wr W31)
  obtain ⟨T36, h36, X36, e36, W36, st36⟩ := putF X34 hx hZ hown (host := "") (Or.inl (wd38 hw)) Via.refl e34 F35 F37 (Or.inl (wd39 hw)) (wd7 hw) (ty := .int) (by decide) rfl rfl (g := (mkF m 143 #[vR a1, vR at_, vI 0, vI 1, vI 2, vR ov, vI 2] [(.int 2), (.ref a1)])) rfl rfl (bb d4_143)
  have Fw36 := F35.same W36
  have N36 := Fr.snoc X36 N31 g_a1
  have F38 := (F37.wr W36)
  have F39 := (F33.other W36 (Or.inr (slot_ne (Or.inr (wd24 hw)) (Or.inl (wd39 hw)) (by decide) (t := .int) (t' := .int) (by decide) (by decide))))
  have F40 := ((((r3.keep K7 (ninS ne_a1_ob (ninS ne_a1_ol (ninS ne_a1_oh (ninS ne_a1_ov nin0))))).other W21 (Or.inl ne_a1_ov)).other W31 (Or.inl ne_a1_ov)).other W36 (Or.inr (slot_ne (Or.inl (wd18 hw)) (Or.inl (wd39 hw)) (by decide) (t := (.array (.array .int))) (t' := .int) (by decide) (by decide))))
  have F41 := (((F11.other W21 (Or.inl ne_a1_ov)).other W31 (Or.inl ne_a1_ov)).other W36 (Or.inr (slot_ne (Or.inl (wd22 hw)) (Or.inl (wd39 hw)) (by decide) (t := (.array (.array .char))) (t' := .int) (by decide) (by decide))))
  have F42 := ((F27.other W31 (Or.inl ne_a1_ov)).other W36 (Or.inr (slot_ne (Or.inl (wd26 hw)) (Or.inl (wd39 hw)) (by decide) (t := (.array .int)) (t' := .int) (by decide) (by decide))))
  have F43 := ((((r6.keep K7 (ninS ne_a1_ob (ninS ne_a1_ol (ninS ne_a1_oh (ninS ne_a1_ov nin0))))).other W21 (Or.inl ne_a1_ov)).other W31 (Or.inl ne_a1_ov)).other W36 (Or.inr (slot_ne (Or.inr (wd28 hw)) (Or.inl (wd39 hw)) (by decide) (t := (.array .int)) (t' := .int) (by decide) (by decide))))
  have F44 := ((((r7.keep K7 (ninS ne_a1_ob (ninS ne_a1_ol (ninS ne_a1_oh (ninS ne_a1_ov nin0))))).other W21 (Or.inl ne_a1_ov)).other W31 (Or.inl ne_a1_ov)).other W36 (Or.inr (slot_ne (Or.inr (wd30 hw)) (Or.inl (wd39 hw)) (by decide) (t := (.array .int)) (t' := .int) (by decide) (by decide))))
  have F45 := ((((r8.keep K7 (ninS ne_ow_ob (ninS ne_ow_ol (ninS ne_ow_oh (ninS ne_ow_ov nin0))))).other W21 ne_ow_ov).other W31 ne_ow_ov).other W36 (Ne.symm ne_a1_ow))
  have F46 := (((F12.other W21 ne_on_ov).other W31 ne_on_ov).other W36 (Ne.symm ne_a1_on))
  have F47 := ((F29.other W31 ne_ob_ov).other W36 (Ne.symm ne_a1_ob))
  have F48 := (((f7_0.other W21 ne_ol_ov).other W31 ne_ol_ov).other W36 (Ne.symm ne_a1_ol))
  have F49 := (((f7_1.other W21 ne_oh_ov).other W31 ne_oh_ov).other W36 (Ne.symm ne_a1_oh))
  have F50 := (V31.other W36 (Ne.symm ne_a1_ov))
  obtain ⟨fs, hr, hrun, hended, hW, hsame⟩ := X36.leave (v := none) (fun _ => rfl)
  refine ⟨_, _, pre0 _ ?_, hrun, hended, _, _, rfl, ?_, ⟨_, rfl⟩, hW, hsame.mono (by decide) (by decide)⟩
  · show GG p e below s₁ (mkF m 0 #[vR a1, vR at_, .unset, .unset, .unset, .unset, .unset] []) _
    refine XS.aloadN X0.here hx rfl (bb d4_0) rfl rfl ?_
    refine st1 _ ?_
    show GG p e below T1 (mkF m 4 #[vR a1, vR at_, .unset, .unset, .unset, .unset, .unset] [(.int 1)]) _
    refine st2 _ ?_
    show GG p e below T2 (mkF m 7 #[vR a1, vR at_, .unset, .unset, .unset, .unset, .unset] [(.int 12), (.int 1)]) _
    refine XS.iushr X2.here hx rfl (bb d4_7) rfl ?_
    show GG p e below T2 (mkF m 8 #[vR a1, vR at_, .unset, .unset, .unset, .unset, .unset] [(.int 0)]) _
    refine XS.istoreN X2.here hx rfl (bb d4_8) rfl (l' := #[vR a1, vR at_, vI 0, .unset, .unset, .unset, .unset]) rfl ?_
    show GG p e below T2 (mkF m 9 #[vR a1, vR at_, vI 0, .unset, .unset, .unset, .unset] []) _
    refine XS.aloadN X2.here hx rfl (bb d4_9) rfl rfl ?_
    refine st3 _ ?_
    show GG p e below T3 (mkF m 13 #[vR a1, vR at_, vI 0, .unset, .unset, .unset, .unset] [(.int 1)]) _
    refine XS.sipush X3.here hx rfl (bb d4_13) ?_
    refine XS.iand X3.here hx rfl (bb d4_16) rfl ?_
    refine XS.istoreN X3.here hx rfl (bb d4_17) rfl (l' := #[vR a1, vR at_, vI 0, vI 1, .unset, .unset, .unset]) rfl ?_
    show GG p e below T3 (mkF m 18 #[vR a1, vR at_, vI 0, vI 1, .unset, .unset, .unset] []) _
    refine XS.iloadN X3.here hx rfl (bb d4_18) rfl ?_
    refine XS.ifYes X3.here hx rfl (pc0 := 19) (pc' := 28) rfl (bb d4_19) rfl ((if0 _ _).trans (feq (by decide : ¬ ((1 : Int32) = (0 : Int32)))).2) (by decide) (by decide) ?_
    show GG p e below T3 (mkF m 28 #[vR a1, vR at_, vI 0, vI 1, .unset, .unset, .unset] []) _
    refine XS.aloadN X3.here hx rfl (bb d4_28) rfl rfl ?_
    refine XS.iloadN X3.here hx rfl (bb d4_29) rfl ?_
    refine XS.iloadN X3.here hx rfl (bb d4_30) rfl ?_
    refine st4.trans ?_
    show GG p e below T4 (mkF m 34 #[vR a1, vR at_, vI 0, vI 1, .unset, .unset, .unset] []) _
    refine XS.aloadN X4.here hx rfl (bb d4_34) rfl rfl ?_
    refine st5 _ ?_
    show GG p e below T5 (mkF m 38 #[vR a1, vR at_, vI 0, vI 1, .unset, .unset, .unset] [(.ref on)]) _
    refine XS.iloadN X5.here hx rfl (bb d4_38) rfl ?_
    refine X5.aaload hx (j := (0 : Int32)) (v := (.ref ov)) (by rw [e5]; exact Ar6.1) (State.isArrayOf_alike hZ.alike Ar6.2.1) rfl Ar6.2.2 hin6 (vH6.at hin6 rfl) (g := (mkF m 39 #[vR a1, vR at_, vI 0, vI 1, .unset, .unset, .unset] [(.int 0), (.ref on)])) rfl rfl (bb d4_39) _ ?_
    show GG p e below T5 (mkF m 40 #[vR a1, vR at_, vI 0, vI 1, .unset, .unset, .unset] [(.ref ov)]) _
    refine XS.ifnullNo X5.here hx rfl (bb d4_40) rfl ?_
    show GG p e below T5 (mkF m 43 #[vR a1, vR at_, vI 0, vI 1, .unset, .unset, .unset] []) _
    refine XS.aloadN X5.here hx rfl (bb d4_43) rfl rfl ?_
    refine XS.iloadN X5.here hx rfl (bb d4_44) rfl ?_
    refine XS.iloadN X5.here hx rfl (bb d4_45) rfl ?_
    refine XS.aloadN X5.here hx rfl (bb d4_46) rfl rfl ?_
    show GG p e below T5 (mkF m 47 #[vR a1, vR at_, vI 0, vI 1, .unset, .unset, .unset] [(.ref at_), (.int 1), (.int 0), (.ref a1)]) _
    refine st7.trans ?_
    show GG p e below T7 (mkF m 50 #[vR a1, vR at_, vI 0, vI 1, .unset, .unset, .unset] []) _
    refine XS.iloadN X7.here hx rfl (bb d4_50) rfl ?_
    refine XS.aloadN X7.here hx rfl (bb d4_51) rfl rfl ?_
    refine st8 _ ?_
    show GG p e below T8 (mkF m 55 #[vR a1, vR at_, vI 0, vI 1, .unset, .unset, .unset] [(.int 2), (.int 1)]) _
    refine XS.imul X8.here hx rfl (bb d4_55) rfl ?_
    refine XS.istore X8.here hx rfl (bb d4_56) rfl (l' := #[vR a1, vR at_, vI 0, vI 1, vI 2, .unset, .unset]) rfl ?_
    show GG p e below T8 (mkF m 58 #[vR a1, vR at_, vI 0, vI 1, vI 2, .unset, .unset] []) _
    refine XS.aloadN X8.here hx rfl (bb d4_58) rfl rfl ?_
    refine st10 _ ?_
    show GG p e below T10 (mkF m 62 #[vR a1, vR at_, vI 0, vI 1, vI 2, .unset, .unset] [(.ref on)]) _
    refine XS.iloadN X10.here hx rfl (bb d4_62) rfl ?_
    refine X10.aaload hx (j := (0 : Int32)) (v := (.ref ov)) (by rw [e10]; exact Ar13.1) (State.isArrayOf_alike hZ.alike Ar13.2.1) rfl Ar13.2.2 hin13 (vH13.at hin13 rfl) (g := (mkF m 63 #[vR a1, vR at_, vI 0, vI 1, vI 2, .unset, .unset] [(.int 0), (.ref on)])) rfl rfl (bb d4_63) _ ?_
    show GG p e below T10 (mkF m 64 #[vR a1, vR at_, vI 0, vI 1, vI 2, .unset, .unset] [(.ref ov)]) _
    refine XS.astore X10.here hx rfl (bb d4_64) rfl rfl (l' := #[vR a1, vR at_, vI 0, vI 1, vI 2, vR ov, .unset]) rfl ?_
    show GG p e below T10 (mkF m 66 #[vR a1, vR at_, vI 0, vI 1, vI 2, vR ov, .unset] []) _
    refine XS.iconst X10.here hx rfl (bb d4_66) ?_
    refine XS.istore X10.here hx rfl (bb d4_67) rfl (l' := #[vR a1, vR at_, vI 0, vI 1, vI 2, vR ov, vI 0]) rfl ?_
    show GG p e below T10 (mkF m 69 #[vR a1, vR at_, vI 0, vI 1, vI 2, vR ov, vI 0] []) _
    refine XS.iload X10.here hx rfl (bb d4_69) rfl ?_
    refine XS.aloadN X10.here hx rfl (bb d4_71) rfl rfl ?_
    refine st14 _ ?_
    show GG p e below T14 (mkF m 75 #[vR a1, vR at_, vI 0, vI 1, vI 2, vR ov, vI 0] [(.int 2), (.int 0)]) _
    refine XS.icmpNo X14.here hx rfl (bb d4_75) rfl (tlt (by decide : (0 : Int32) < (2 : Int32))).2.1 ?_
    refine XS.aload X14.here hx rfl (bb d4_78) rfl rfl ?_
    refine XS.ifnullNo X14.here hx rfl (bb d4_80) rfl ?_
    show GG p e below T14 (mkF m 83 #[vR a1, vR at_, vI 0, vI 1, vI 2, vR ov, vI 0] []) _
    refine XS.aload X14.here hx rfl (bb d4_83) rfl rfl ?_
    refine XS.iload X14.here hx rfl (bb d4_85) rfl ?_
    refine XS.iload X14.here hx rfl (bb d4_87) rfl ?_
    refine XS.iadd X14.here hx rfl (bb d4_89) rfl ?_
    show GG p e below T14 (mkF m 90 #[vR a1, vR at_, vI 0, vI 1, vI 2, vR ov, vI 0] [(.int 2), (.ref ov)]) _
    refine XS.aloadN X14.here hx rfl (bb d4_90) rfl rfl ?_
    refine XS.iload X14.here hx rfl (bb d4_91) rfl ?_
    refine X14.iaload hx (j := (0 : Int32)) (v := (.int et0)) (by rw [e14]; exact Ar16.1) (State.isArrayOf_alike hZ.alike Ar16.2.1) Ar16.2.2 hin16 (vH16.at hin16 rfl) (g := (mkF m 93 #[vR a1, vR at_, vI 0, vI 1, vI 2, vR ov, vI 0] [(.int 0), (.ref at_), (.int 2), (.ref ov)])) rfl rfl (bb d4_93) _ ?_
    show GG p e below T14 (mkF m 94 #[vR a1, vR at_, vI 0, vI 1, vI 2, vR ov, vI 0] [(.int et0), (.int 2), (.ref ov)]) _
    refine XS.aloadN X14.here hx rfl (bb d4_94) rfl rfl ?_
    refine st17 _ ?_
    show GG p e below T17 (mkF m 98 #[vR a1, vR at_, vI 0, vI 1, vI 2, vR ov, vI 0] [(.ref ob), (.int et0), (.int 2), (.ref ov)]) _
    refine XS.iloadN X17.here hx rfl (bb d4_98) rfl ?_
    refine XS.aloadN X17.here hx rfl (bb d4_99) rfl rfl ?_
    refine st19 _ ?_
    show GG p e below T19 (mkF m 103 #[vR a1, vR at_, vI 0, vI 1, vI 2, vR ov, vI 0] [(.int 2), (.int 0), (.ref ob), (.int et0), (.int 2), (.ref ov)]) _
    refine XS.imul X19.here hx rfl (bb d4_103) rfl ?_
    refine XS.iload X19.here hx rfl (bb d4_104) rfl ?_
    refine XS.iadd X19.here hx rfl (bb d4_106) rfl ?_
    refine X19.iaload hx (j := (0 : Int32)) (v := (.int (nbase eb0 el0 eu0 et0))) (by rw [e19]; exact Ar20.1) (State.isArrayOf_alike hZ.alike Ar20.2.1) Ar20.2.2 hin20 (vH20.at hin20 rfl) (g := (mkF m 107 #[vR a1, vR at_, vI 0, vI 1, vI 2, vR ov, vI 0] [(.int 0), (.ref ob), (.int et0), (.int 2), (.ref ov)])) rfl rfl (bb d4_107) _ ?_
    show GG p e below T19 (mkF m 108 #[vR a1, vR at_, vI 0, vI 1, vI 2, vR ov, vI 0] [(.int (nbase eb0 el0 eu0 et0)), (.int et0), (.int 2), (.ref ov)]) _
    refine XS.isub X19.here hx rfl (bb d4_108) rfl ?_
    refine XS.i2c X19.here hx rfl (bb d4_109) rfl ?_
    show GG p e below T19 (mkF m 110 #[vR a1, vR at_, vI 0, vI 1, vI 2, vR ov, vI 0] [(.int ((et0 - (nbase eb0 el0 eu0 et0)).toUInt32.toUInt16.toUInt32.toInt32)), (.int 2), (.ref ov)]) _
    refine st21 _ ?_
    show GG p e below T21 (mkF m 111 #[vR a1, vR at_, vI 0, vI 1, vI 2, vR ov, vI 0] []) _
    refine XS.goto X21.here hx rfl (pc0 := 111) (pc' := 130) rfl (bb d4_111) (by decide) (by decide) ?_
    refine XS.iinc X21.here hx rfl (bb d4_130) rfl (l' := #[vR a1, vR at_, vI 0, vI 1, vI 2, vR ov, vI 1]) rfl ?_
    show GG p e below T21 (mkF m 133 #[vR a1, vR at_, vI 0, vI 1, vI 2, vR ov, vI 1] []) _
    refine XS.goto X21.here hx rfl (pc0 := 133) (pc' := 69) rfl (bb d4_133) (by decide) (by decide) ?_
    refine XS.iload X21.here hx rfl (bb d4_69) rfl ?_
    refine XS.aloadN X21.here hx rfl (bb d4_71) rfl rfl ?_
    refine st22 _ ?_
    show GG p e below T22 (mkF m 75 #[vR a1, vR at_, vI 0, vI 1, vI 2, vR ov, vI 1] [(.int 2), (.int 1)]) _
    refine XS.icmpNo X22.here hx rfl (bb d4_75) rfl (tlt (by decide : (1 : Int32) < (2 : Int32))).2.1 ?_
    refine XS.aload X22.here hx rfl (bb d4_78) rfl rfl ?_
    refine XS.ifnullNo X22.here hx rfl (bb d4_80) rfl ?_
    show GG p e below T22 (mkF m 83 #[vR a1, vR at_, vI 0, vI 1, vI 2, vR ov, vI 1] []) _
    refine XS.aload X22.here hx rfl (bb d4_83) rfl rfl ?_
    refine XS.iload X22.here hx rfl (bb d4_85) rfl ?_
    refine XS.iload X22.here hx rfl (bb d4_87) rfl ?_
    refine XS.iadd X22.here hx rfl (bb d4_89) rfl ?_
    show GG p e below T22 (mkF m 90 #[vR a1, vR at_, vI 0, vI 1, vI 2, vR ov, vI 1] [(.int 3), (.ref ov)]) _
    refine XS.aloadN X22.here hx rfl (bb d4_90) rfl rfl ?_
    refine XS.iload X22.here hx rfl (bb d4_91) rfl ?_
    refine X22.iaload hx (j := (1 : Int32)) (v := (.int et1)) (by rw [e22]; exact Ar25.1) (State.isArrayOf_alike hZ.alike Ar25.2.1) Ar25.2.2 hin25 (vH25.at hin25 rfl) (g := (mkF m 93 #[vR a1, vR at_, vI 0, vI 1, vI 2, vR ov, vI 1] [(.int 1), (.ref at_), (.int 3), (.ref ov)])) rfl rfl (bb d4_93) _ ?_
    show GG p e below T22 (mkF m 94 #[vR a1, vR at_, vI 0, vI 1, vI 2, vR ov, vI 1] [(.int et1), (.int 3), (.ref ov)]) _
    refine XS.aloadN X22.here hx rfl (bb d4_94) rfl rfl ?_
    refine st26 _ ?_
    show GG p e below T26 (mkF m 98 #[vR a1, vR at_, vI 0, vI 1, vI 2, vR ov, vI 1] [(.ref ob), (.int et1), (.int 3), (.ref ov)]) _
    refine XS.iloadN X26.here hx rfl (bb d4_98) rfl ?_
    refine XS.aloadN X26.here hx rfl (bb d4_99) rfl rfl ?_
    refine st28 _ ?_
    show GG p e below T28 (mkF m 103 #[vR a1, vR at_, vI 0, vI 1, vI 2, vR ov, vI 1] [(.int 2), (.int 0), (.ref ob), (.int et1), (.int 3), (.ref ov)]) _
    refine XS.imul X28.here hx rfl (bb d4_103) rfl ?_
    refine XS.iload X28.here hx rfl (bb d4_104) rfl ?_
    refine XS.iadd X28.here hx rfl (bb d4_106) rfl ?_
    refine X28.iaload hx (j := (1 : Int32)) (v := (.int (nbase eb1 el1 eu1 et1))) (by rw [e28]; exact Ar30.1) (State.isArrayOf_alike hZ.alike Ar30.2.1) Ar30.2.2 hin30 (vH30.at hin30 rfl) (g := (mkF m 107 #[vR a1, vR at_, vI 0, vI 1, vI 2, vR ov, vI 1] [(.int 1), (.ref ob), (.int et1), (.int 3), (.ref ov)])) rfl rfl (bb d4_107) _ ?_
    show GG p e below T28 (mkF m 108 #[vR a1, vR at_, vI 0, vI 1, vI 2, vR ov, vI 1] [(.int (nbase eb1 el1 eu1 et1)), (.int et1), (.int 3), (.ref ov)]) _
    refine XS.isub X28.here hx rfl (bb d4_108) rfl ?_
    refine XS.i2c X28.here hx rfl (bb d4_109) rfl ?_
    show GG p e below T28 (mkF m 110 #[vR a1, vR at_, vI 0, vI 1, vI 2, vR ov, vI 1] [(.int ((et1 - (nbase eb1 el1 eu1 et1)).toUInt32.toUInt16.toUInt32.toInt32)), (.int 3), (.ref ov)]) _
    refine st31 _ ?_
    show GG p e below T31 (mkF m 111 #[vR a1, vR at_, vI 0, vI 1, vI 2, vR ov, vI 1] []) _
    refine XS.goto X31.here hx rfl (pc0 := 111) (pc' := 130) rfl (bb d4_111) (by decide) (by decide) ?_
    refine XS.iinc X31.here hx rfl (bb d4_130) rfl (l' := #[vR a1, vR at_, vI 0, vI 1, vI 2, vR ov, vI 2]) rfl ?_
    show GG p e below T31 (mkF m 133 #[vR a1, vR at_, vI 0, vI 1, vI 2, vR ov, vI 2] []) _
    refine XS.goto X31.here hx rfl (pc0 := 133) (pc' := 69) rfl (bb d4_133) (by decide) (by decide) ?_
    refine XS.iload X31.here hx rfl (bb d4_69) rfl ?_
    refine XS.aloadN X31.here hx rfl (bb d4_71) rfl rfl ?_
    refine st32 _ ?_
    show GG p e below T32 (mkF m 75 #[vR a1, vR at_, vI 0, vI 1, vI 2, vR ov, vI 2] [(.int 2), (.int 2)]) _
    refine XS.icmpYes X32.here hx rfl (pc0 := 75) (pc' := 136) rfl (bb d4_75) rfl (flt (by decide : ¬ ((2 : Int32) < (2 : Int32)))).2.1 (by decide) (by decide) ?_
    show GG p e below T32 (mkF m 136 #[vR a1, vR at_, vI 0, vI 1, vI 2, vR ov, vI 2] []) _
    refine XS.aloadN X32.here hx rfl (bb d4_136) rfl rfl ?_
    refine XS.dup X32.here hx rfl (bb d4_137) rfl rfl ?_
    refine st34 _ ?_
    show GG p e below T34 (mkF m 141 #[vR a1, vR at_, vI 0, vI 1, vI 2, vR ov, vI 2] [(.int 1), (.ref a1)]) _
    refine XS.iconst X34.here hx rfl (bb d4_141) ?_
    refine XS.iadd X34.here hx rfl (bb d4_142) rfl ?_
    refine st36 _ ?_
    show GG p e below T36 (mkF m 146 #[vR a1, vR at_, vI 0, vI 1, vI 2, vR ov, vI 2] []) _
    exact X36.returnOut hx Bd.returns (bb d4_146) hr
  · show Q_add2N1 Z a1 at_ ow on ob ol oh ov kw_ kn_ kb_ kl_ kh_ kv_ eb0 eb1 el0 el1 eu0 eu1 ev0_0 ev0_1 ex2 ex3 ex4 ex5 ex6 ex7 ex8 ex9 ex10 ex11 ex12 ex13 ex14 ex15 kt_ et0 et1 h0 n0 _ T36.heap _
    rw [e36]
    exact ⟨rfl, N36, (((((Keep.refl h0 [a1, ob, ol, oh, ov]).trans K7 (allS (Or.inl (List.mem_of_getElem? (i := 1) rfl)) (allS (Or.inl (List.mem_of_getElem? (i := 2) rfl)) (allS (Or.inl (List.mem_of_getElem? (i := 3) rfl)) (allS (Or.inl (List.mem_of_getElem? (i := 4) rfl)) all0))))).wr W21 (Or.inl (List.mem_of_getElem? (i := 4) rfl))).wr W31 (Or.inl (List.mem_of_getElem? (i := 4) rfl))).wr W36 (Or.inl (List.mem_of_getElem? (i := 0) rfl))), F38, F39, Fw36, F40, F41, F42, F43, F44, F45, r9, F46, r11, F47, F48, F49, (by have q := F50; (try simp only [own_c1] at q); exact q)⟩
def Q_add2N2 (Z : State) (a1 at_ ow on ob ol oh ov : Addr) (kw_ kn_ kb_ kl_ kh_ kv_ : ClassId) (eb0 eb1 el0 el1 eu0 eu1 ev0_0 ev0_1 ev1_0 ev1_1 ex4 ex5 ex6 ex7 ex8 ex9 ex10 ex11 ex12 ex13 ex14 ex15 : Int32) (kt_ : ClassId) (et0 et1 : Int32) (h0 : Heap) (n0 : Nat) (v : Option Value) (h : Heap) (L : List Loc) : Prop := v = none ∧ Fr n0 L ∧ Keep h0 h [a1, ob, ol, oh, ov] ∧ Exa Z h a1 cRV ∧ Fld Z h a1 cRV "arity" "I" (.int 2) ∧ Fld Z h a1 cRV "rows" "I" (.int 3) ∧ Fld Z h a1 cRV "wide" "[[I" (.ref ow) ∧ Fld Z h a1 cRV "narrow" "[[C" (.ref on) ∧ Fld Z h a1 cRV "bases" "[I" (.ref ob) ∧ Fld Z h a1 cRV "lowest" "[I" (.ref ol) ∧ Fld Z h a1 cRV "highest" "[I" (.ref oh) ∧ Arv Z h ow kw_ (.array .int) (1 : Int32) [.null] .null ∧ OvrA Z kw_ .int "[I" ∧ Arv Z h on kn_ (.array .char) (1 : Int32) [(.ref ov)] .null ∧ OvrA Z kn_ .char "[C" ∧ Arv Z h ob kb_ .int (2 : Int32) [(.int (nbase eb0 el0 eu0 et0)), (.int (nbase eb1 el1 eu1 et1))] (.int 0) ∧ Arv Z h ol kl_ .int (2 : Int32) [(.int (f_minI et0 el0)), (.int (f_minI et1 el1))] (.int 0) ∧ Arv Z h oh kh_ .int (2 : Int32) [(.int (f_maxI et0 eu0)), (.int (f_maxI et1 eu1))] (.int 0) ∧ Arv Z h ov kv_ .char (16 : Int32) [(.int (nar .char (ev0_0 - (nbase eb0 el0 eu0 et0)))), (.int (nar .char (ev0_1 - (nbase eb1 el1 eu1 et1)))), (.int (nar .char (ev1_0 - (nbase eb0 el0 eu0 et0)))), (.int (nar .char (ev1_1 - (nbase eb1 el1 eu1 et1)))), (.int (nar .char (et0 - (nbase eb0 el0 eu0 et0)))), (.int (nar .char (et1 - (nbase eb1 el1 eu1 et1)))), (.int ex6), (.int ex7), (.int ex8), (.int ex9), (.int ex10), (.int ex11), (.int ex12), (.int ex13), (.int ex14), (.int ex15)] (.int 0)
set_option maxRecDepth 65536 in
set_option maxHeartbeats 40000000 in
theorem rm_add2N2 (l : Launch) (Z : State) (a0 : Array Value) (hw : ∀ d ∈ tables_1, d.before a0 Z = true) (ws : List Jvm.Cond) (a1 at_ ow on ob ol oh ov : Addr) (kw_ kn_ kb_ kl_ kh_ kv_ : ClassId) (eb0 eb1 el0 el1 eu0 eu1 ev0_0 ev0_1 ev1_0 ev1_1 ex4 ex5 ex6 ex7 ex8 ex9 ex10 ex11 ex12 ex13 ex14 ex15 : Int32) (kt_ : ClassId) (et0 et1 : Int32) (h0 : Heap) (n0 : Nat) (Z0 : n0 ≤ h0.size) (O0 : Old Z n0 h0) (S_CS : Sta Z Z.heap cRV "CHUNK_SHIFT" "I" (.int (12 : Int32))) (r0 : Exa Z h0 a1 cRV) (r1 : Fld Z h0 a1 cRV "arity" "I" (.int 2)) (r2 : Fld Z h0 a1 cRV "rows" "I" (.int 2)) (r3 : Fld Z h0 a1 cRV "wide" "[[I" (.ref ow)) (r4 : Fld Z h0 a1 cRV "narrow" "[[C" (.ref on)) (r5 : Fld Z h0 a1 cRV "bases" "[I" (.ref ob)) (r6 : Fld Z h0 a1 cRV "lowest" "[I" (.ref ol)) (r7 : Fld Z h0 a1 cRV "highest" "[I" (.ref oh)) (r8 : Arv Z h0 ow kw_ (.array .int) (1 : Int32) [.null] .null) (r9 : OvrA Z kw_ .int "[I") (r10 : Arv Z h0 on kn_ (.array .char) (1 : Int32) [(.ref ov)] .null) (r11 : OvrA Z kn_ .char "[C") (r12 : Arv Z h0 ob kb_ .int (2 : Int32) [(.int eb0), (.int eb1)] (.int 0)) (r13 : Arv Z h0 ol kl_ .int (2 : Int32) [(.int el0), (.int el1)] (.int 0)) (r14 : Arv Z h0 oh kh_ .int (2 : Int32) [(.int eu0), (.int eu1)] (.int 0)) (r15 : Arv Z h0 ov kv_ .char (16 : Int32) [(.int (nar .char (ev0_0 - eb0))), (.int (nar .char (ev0_1 - eb1))), (.int (nar .char (ev1_0 - eb0))), (.int (nar .char (ev1_1 - eb1))), (.int ex4), (.int ex5), (.int ex6), (.int ex7), (.int ex8), (.int ex9), (.int ex10), (.int ex11), (.int ex12), (.int ex13), (.int ex14), (.int ex15)] (.int 0)) (r16 : Arv Z h0 at_ kt_ .int (2 : Int32) [(.int et0), (.int et1)] (.int 0)) (g_a1 : n0 ≤ a1) (g_ob : n0 ≤ ob) (g_ol : n0 ≤ ol) (g_oh : n0 ≤ oh) (g_ov : n0 ≤ ov) (ne_a1_ow : a1 ≠ ow) (ne_a1_on : a1 ≠ on) (ne_a1_ob : a1 ≠ ob) (ne_a1_ol : a1 ≠ ol) (ne_a1_oh : a1 ≠ oh) (ne_a1_ov : a1 ≠ ov) (ne_ow_on : ow ≠ on) (ne_ow_ob : ow ≠ ob) (ne_ow_ol : ow ≠ ol) (ne_ow_oh : ow ≠ oh) (ne_ow_ov : ow ≠ ov) (ne_on_ob : on ≠ ob) (ne_on_ol : on ≠ ol) (ne_on_oh : on ≠ oh) (ne_on_ov : on ≠ ov) (ne_ob_ol : ob ≠ ol) (ne_ob_oh : ob ≠ oh) (ne_ob_ov : ob ≠ ov) (ne_ol_oh : ol ≠ oh) (ne_ol_ov : ol ≠ ov) (ne_oh_ov : oh ≠ ov) (ne_at__a1 : at_ ≠ a1) (ne_at__ow : at_ ≠ ow) (ne_at__on : at_ ≠ on) (ne_at__ob : at_ ≠ ob) (ne_at__ol : at_ ≠ ol) (ne_at__oh : at_ ≠ oh) (ne_at__ov : at_ ≠ ov) (hs0 : (lcmpW (((f_maxI et0 eu0).toInt64) - ((f_minI et0 el0).toInt64)) (65536 : Int64)) < (0 : Int32)) (hs1 : (lcmpW (((f_maxI et1 eu1).toInt64) - ((f_minI et1 el1).toInt64)) (65536 : Int64)) < (0 : Int32)) :
    MetFree l (⟨cRV, "add", "([I)V"⟩ : MethodName) (head1 (Jvm.Cond.code (⟨cRV, "add", "([I)V"⟩ : MethodName) prog_47_method_4_code 7 none :: ws) ({ frames := 3, cells := 0, slots := 0, locals := 52 } : Room)) (fun a U => a = #[(.ref a1), (.ref at_)] ∧ Z.Warmed39 U.vm ∧ U.heap = h0) (fun _ _ _ _ _ => True) (fun _ U o U' => ∃ v L, o = .returned v ∧ Q_add2N2 Z a1 at_ ow on ob ol oh ov kw_ kn_ kb_ kl_ kh_ kv_ eb0 eb1 el0 el1 eu0 eu1 ev0_0 ev0_1 ev1_0 ev1_1 ex4 ex5 ex6 ex7 ex8 ex9 ex10 ex11 ex12 ex13 ex14 ex15 kt_ et0 et1 h0 n0 v U'.heap L ∧ FrameEnd U o U' L ({ frames := 3, cells := 0, slots := 0, locals := 52 } : Room).cells ({ frames := 3, cells := 0, slots := 0, locals := 52 } : Room).slots) := by
  refine MetFree.of_bodySF (plainFor_of_name pn_RowValues) hisR ?_
  intro p e s m args below meth c s₁ Bd hml0 hP hK
  obtain ⟨rfl, hZ, hh⟩ := hP
  have hx := Bd.exec
  have hby := Bd.bytes
  have bb := fun {pc : Nat} {r : Except DecodeError (Instr × Nat)} (h : decode prog_47_method_4_code pc = r) => hb hby h
  have hml : c.maxLocals = 7 := hml0
  have hown : s.vm.findClass cRV = some m.cls := findClass_of_methodNamed Bd.named
  have hnm := (name_of_methodNamed Bd.named Bd.method).1
  have X0 : Stand p l e ({ frames := 3, cells := 0, slots := 0, locals := 52 } : Room) s m #[(.ref a1), (.ref at_)] below meth c s₁ [] 0 0 := Stand.of_body Bd
  have e0 : s₁.heap = h0 := by rw [← hh, Bd.state]; rfl
  have N0 := Fr.nil n0
  have pre0 : ∀ t, Steps p.tables e below (s₁.setTop (mkF m 0 #[vR a1, vR at_, .unset, .unset, .unset, .unset, .unset] [])) t → Steps p.tables e below (s₁.setTop (entryFrame m #[(.ref a1), (.ref at_)] 7)) t := fun t k => castTop (ef_add2N2 m a1 at_) k
  obtain ⟨T1, X1, e1, st1⟩ := getF X0 hx hZ hown (host := "") (Or.inl (wd38 hw)) Via.refl e0 r2 (g := (mkF m 1 #[vR a1, vR at_, .unset, .unset, .unset, .unset, .unset] [(.ref a1)])) rfl rfl (bb d4_1)
  obtain ⟨T2, X2, e2, st2⟩ := getS2 X1 hx hZ hown (host := "") (Or.inl (wd40 hw)) Via.refl e1 (S_CS.ext O0.2) (g := (mkF m 4 #[vR a1, vR at_, .unset, .unset, .unset, .unset, .unset] [(.int 2)])) rfl (bb d4_4)
  obtain ⟨T3, X3, e3, st3⟩ := getF X2 hx hZ hown (host := "") (Or.inl (wd38 hw)) Via.refl e2 r2 (g := (mkF m 10 #[vR a1, vR at_, vI 0, .unset, .unset, .unset, .unset] [(.ref a1)])) rfl rfl (bb d4_10)
  obtain ⟨cq4, q4, q4'⟩ := (r0).cell
  obtain ⟨_, _, ⟨T4, L4, k4, n4⟩, -, X4, ⟨Lc4, hQ4, l4, y4, z4⟩, st4⟩ := X3.privateBack hx (y := (⟨cRV, "makeRoom", "(II)V"⟩ : MethodName)) hown (mvT hZ (wd60 hw)) (mvT hZ (wd61 hw)) (own_sel (mvT hZ (wd7 hw)) (mvT hZ (wd61 hw)) (mvP hZ (wd62 hw)) (by decide)) (Cond.privateMethod_at (mvP hZ (wd62 hw) (args := #[]))) (mvT hZ (wd63 hw)) (by decide) (backOf (W := 0) (rm_room2N2 l Z a0 hw [] a1 ow on ob ol oh ov kw_ kn_ kb_ kl_ kh_ kv_ eb0 eb1 el0 el1 eu0 eu1 ev0_0 ev0_1 ev1_0 ev1_1 ex4 ex5 ex6 ex7 ex8 ex9 ex10 ex11 ex12 ex13 ex14 ex15 h0 n0 (own_z0 O0) O0 S_CS r0 r1 r3 r4 r8 r10 r15) hZ (wd63 hw) (wd8 hw) (by decide) (by decide)) (g := (mkF m 31 #[vR a1, vR at_, vI 0, vI 2, .unset, .unset, .unset] [(.int 2), (.int 0), (.ref a1)])) rfl (by rw [hml]; rfl) (Steps.refl _) (a := a1) (by rw [e3]; exact q4) q4' (argsL := [(.int 0), (.int 2)]) (rest := []) (lenOf pd__II_V_5 rfl) rfl (by show 2 * 0 + _ ≤ _; exact Nat.le_of_eq rfl) (bb d4_31) (fun _ _ => ⟨rfl, e3, (by decide : 0 + 0 ≤ _), (by decide : 0 + 0 ≤ _)⟩)
  dsimp only [Pt.U, Pt.locs, Pt.cells, Pt.slots] at X4 l4 y4 z4 st4 hQ4
  subst l4 y4 z4
  obtain ⟨rfl, N4q, e4⟩ := hQ4
  have N4 := Fr.app N0 N4q
  obtain ⟨T5, X5, e5, st5⟩ := getF X4 hx hZ hown (host := "") (Or.inl (wd21 hw)) Via.refl e4 r4 (g := (mkF m 35 #[vR a1, vR at_, vI 0, vI 2, .unset, .unset, .unset] [(.ref a1)])) rfl rfl (bb d4_35)
  obtain ⟨cl6, Ar6, vq6, vS6, vN6, vH6, vG6⟩ := id r10
  have hin6 : ¬ (((0 : Int32) : Int32) < 0 ∨ cl6.slots.size ≤ ((0 : Int32) : Int32).toNatClampNeg) := inb_of vS6 ⟨by decide, by decide⟩
  obtain ⟨cq7, q7, q7'⟩ := (r0).cell
  obtain ⟨_, _, ⟨T7, L7, k7, n7⟩, -, X7, ⟨Lc7, hQ7, l7, y7, z7⟩, st7⟩ := X5.privateBack hx (y := (⟨cRV, "fit", "(II[I)V"⟩ : MethodName)) hown (mvT hZ (wd67 hw)) (mvT hZ (wd68 hw)) (own_sel (mvT hZ (wd7 hw)) (mvT hZ (wd68 hw)) (mvP hZ (wd69 hw)) (by decide)) (Cond.privateMethod_at (mvP hZ (wd69 hw) (args := #[]))) (mvT hZ (wd70 hw)) (by decide) (backOf (W := 0) (rm_fit2_2 l Z a0 hw [] a1 at_ ow on ob ol oh ov kw_ kn_ kb_ kl_ kh_ kv_ eb0 eb1 el0 el1 eu0 eu1 ev0_0 ev0_1 ev1_0 ev1_1 ex4 ex5 ex6 ex7 ex8 ex9 ex10 ex11 ex12 ex13 ex14 ex15 kt_ et0 et1 h0 n0 (own_z0 O0) O0 S_CS r0 r1 r2 r3 r4 r5 r6 r7 r8 r9 r10 r11 r12 r13 r14 r15 r16 g_ob g_ol g_oh g_ov ne_a1_ow ne_a1_on ne_a1_ob ne_a1_ol ne_a1_oh ne_a1_ov ne_ow_on ne_ow_ob ne_ow_ol ne_ow_oh ne_ow_ov ne_on_ob ne_on_ol ne_on_oh ne_on_ov ne_ob_ol ne_ob_oh ne_ob_ov ne_ol_oh ne_ol_ov ne_oh_ov ne_at__a1 ne_at__ow ne_at__on ne_at__ob ne_at__ol ne_at__oh ne_at__ov hs0 hs1) hZ (wd70 hw) (wd8 hw) (by decide) (by decide)) (g := (mkF m 47 #[vR a1, vR at_, vI 0, vI 2, .unset, .unset, .unset] [(.ref at_), (.int 2), (.int 0), (.ref a1)])) rfl (by rw [hml]; rfl) (Steps.refl _) (a := a1) (by rw [e5]; exact q7) q7' (argsL := [(.int 0), (.int 2), (.ref at_)]) (rest := []) (lenOf pd__II_I_V_7 rfl) rfl (by show 2 * 0 + _ ≤ _; exact Nat.le_of_eq rfl) (bb d4_47) (fun _ _ => ⟨rfl, e5, (by decide : 0 + 0 ≤ _), (by decide : 0 + 0 ≤ _)⟩)
  dsimp only [Pt.U, Pt.locs, Pt.cells, Pt.slots] at X7 l7 y7 z7 st7 hQ7
  subst l7 y7 z7
  obtain ⟨rfl, N7q, K7, f7_0, f7_1, f7_2, f7_3⟩ := hQ7
  have N7 := Fr.app N4 N7q
  have F9 := (r1.keep K7 (ninS ne_a1_ob (ninS ne_a1_ol (ninS ne_a1_oh (ninS ne_a1_ov nin0)))))
  obtain ⟨T8, X8, e8, st8⟩ := getF X7 hx hZ hown (host := "") (Or.inl (wd23 hw)) Via.refl rfl F9 (g := (mkF m 52 #[vR a1, vR at_, vI 0, vI 2, .unset, .unset, .unset] [(.ref a1), (.int 2)])) rfl rfl (bb d4_52)
  have F11 := (r4.keep K7 (ninS ne_a1_ob (ninS ne_a1_ol (ninS ne_a1_oh (ninS ne_a1_ov nin0)))))
  obtain ⟨T10, X10, e10, st10⟩ := getF X8 hx hZ hown (host := "") (Or.inl (wd21 hw)) Via.refl e8 F11 (g := (mkF m 59 #[vR a1, vR at_, vI 0, vI 2, vI 4, .unset, .unset] [(.ref a1)])) rfl rfl (bb d4_59)
  have F12 := (r10.keep K7 (ninS ne_on_ob (ninS ne_on_ol (ninS ne_on_oh (ninS ne_on_ov nin0)))))
  obtain ⟨cl13, Ar13, vq13, vS13, vN13, vH13, vG13⟩ := id F12
  have hin13 : ¬ (((0 : Int32) : Int32) < 0 ∨ cl13.slots.size ≤ ((0 : Int32) : Int32).toNatClampNeg) := inb_of vS13 ⟨by decide, by decide⟩
  obtain ⟨T14, X14, e14, st14⟩ := getF X10 hx hZ hown (host := "") (Or.inl (wd23 hw)) Via.refl e10 F9 (g := (mkF m 72 #[vR a1, vR at_, vI 0, vI 2, vI 4, vR ov, vI 0] [(.ref a1), (.int 0)])) rfl rfl (bb d4_72)
  have F15 := (r16.keep K7 (ninS ne_at__ob (ninS ne_at__ol (ninS ne_at__oh (ninS ne_at__ov nin0)))))
  obtain ⟨cl16, Ar16, vq16, vS16, vN16, vH16, vG16⟩ := id F15
  have hin16 : ¬ (((0 : Int32) : Int32) < 0 ∨ cl16.slots.size ≤ ((0 : Int32) : Int32).toNatClampNeg) := inb_of vS16 ⟨by decide, by decide⟩
  have F18 := (r5.keep K7 (ninS ne_a1_ob (ninS ne_a1_ol (ninS ne_a1_oh (ninS ne_a1_ov nin0)))))
  obtain ⟨T17, X17, e17, st17⟩ := getF X14 hx hZ hown (host := "") (Or.inl (wd25 hw)) Via.refl e14 F18 (g := (mkF m 95 #[vR a1, vR at_, vI 0, vI 2, vI 4, vR ov, vI 0] [(.ref a1), (.int et0), (.int 4), (.ref ov)])) rfl rfl (bb d4_95)
  obtain ⟨T19, X19, e19, st19⟩ := getF X17 hx hZ hown (host := "") (Or.inl (wd23 hw)) Via.refl e17 F9 (g := (mkF m 100 #[vR a1, vR at_, vI 0, vI 2, vI 4, vR ov, vI 0] [(.ref a1), (.int 0), (.ref ob), (.int et0), (.int 4), (.ref ov)])) rfl rfl (bb d4_100)
  obtain ⟨cl20, Ar20, vq20, vS20, vN20, vH20, vG20⟩ := id f7_2
  have hin20 : ¬ (((0 : Int32) : Int32) < 0 ∨ cl20.slots.size ≤ ((0 : Int32) : Int32).toNatClampNeg) := inb_of vS20 ⟨by decide, by decide⟩
  obtain ⟨cl21, Ar21, vq21, vS21, vN21, vH21, vG21⟩ := id f7_3
  have hin21 : ¬ (((4 : Int32) : Int32) < 0 ∨ cl21.slots.size ≤ ((4 : Int32) : Int32).toNatClampNeg) := inb_of vS21 ⟨by decide, by decide⟩
  obtain ⟨T21, h21, X21, e21, W21, st21⟩ := stC X19 hx hZ e19 Ar21 (j := (4 : Int32)) hin21 (g := (mkF m 110 #[vR a1, vR at_, vI 0, vI 2, vI 4, vR ov, vI 0] [(.int ((et0 - (nbase eb0 el0 eu0 et0)).toUInt32.toUInt16.toUInt32.toInt32)), (.int 4), (.ref ov)])) rfl rfl (bb d4_110)
  have V21 : Arv Z h21 ov kv_ .char (16 : Int32) [(.int (nar .char (ev0_0 - (nbase eb0 el0 eu0 et0)))), (.int (nar .char (ev0_1 - (nbase eb1 el1 eu1 et1)))), (.int (nar .char (ev1_0 - (nbase eb0 el0 eu0 et0)))), (.int (nar .char (ev1_1 - (nbase eb1 el1 eu1 et1)))), (.int (nar .char ((et0 - (nbase eb0 el0 eu0 et0)).toUInt32.toUInt16.toUInt32.toInt32))), (.int ex5), (.int ex6), (.int ex7), (.int ex8), (.int ex9), (.int ex10), (.int ex11), (.int ex12), (.int ex13), (.int ex14), (.int ex15)] (.int 0) := Arv.set Ar21 vq21 vS21 vN21 vH21 vG21 (fits_nar_char _) W21 4 rfl (Nat.le_of_ble_eq_true rfl)
  have N21 := Fr.snoc X21 N7 g_ov
  have F23 := (F9.other W21 (Or.inl ne_a1_ov))
  obtain ⟨T22, X22, e22, st22⟩ := getF X21 hx hZ hown (host := "") (Or.inl (wd23 hw)) Via.refl e21 F23 (g := (mkF m 72 #[vR a1, vR at_, vI 0, vI 2, vI 4, vR ov, vI 1] [(.ref a1), (.int 1)])) rfl rfl (bb d4_72)
  have F24 := (F15.other W21 ne_at__ov)
  obtain ⟨cl25, Ar25, vq25, vS25, vN25, vH25, vG25⟩ := id F24
  have hin25 : ¬ (((1 : Int32) : Int32) < 0 ∨ cl25.slots.size ≤ ((1 : Int32) : Int32).toNatClampNeg) := inb_of vS25 ⟨by decide, by decide⟩
  have F27 := (F18.other W21 (Or.inl ne_a1_ov))
  obtain ⟨T26, X26, e26, st26⟩ := getF X22 hx hZ hown (host := "") (Or.inl (wd25 hw)) Via.refl e22 F27 (g := (mkF m 95 #[vR a1, vR at_, vI 0, vI 2, vI 4, vR ov, vI 1] [(.ref a1), (.int et1), (.int 5), (.ref ov)])) rfl rfl (bb d4_95)
  obtain ⟨T28, X28, e28, st28⟩ := getF X26 hx hZ hown (host := "") (Or.inl (wd23 hw)) Via.refl e26 F23 (g := (mkF m 100 #[vR a1, vR at_, vI 0, vI 2, vI 4, vR ov, vI 1] [(.ref a1), (.int 0), (.ref ob), (.int et1), (.int 5), (.ref ov)])) rfl rfl (bb d4_100)
  have F29 := (f7_2.other W21 ne_ob_ov)
  obtain ⟨cl30, Ar30, vq30, vS30, vN30, vH30, vG30⟩ := id F29
  have hin30 : ¬ (((1 : Int32) : Int32) < 0 ∨ cl30.slots.size ≤ ((1 : Int32) : Int32).toNatClampNeg) := inb_of vS30 ⟨by decide, by decide⟩
  obtain ⟨cl31, Ar31, vq31, vS31, vN31, vH31, vG31⟩ := id V21
  have hin31 : ¬ (((5 : Int32) : Int32) < 0 ∨ cl31.slots.size ≤ ((5 : Int32) : Int32).toNatClampNeg) := inb_of vS31 ⟨by decide, by decide⟩
  obtain ⟨T31, h31, X31, e31, W31, st31⟩ := stC X28 hx hZ e28 Ar31 (j := (5 : Int32)) hin31 (g := (mkF m 110 #[vR a1, vR at_, vI 0, vI 2, vI 4, vR ov, vI 1] [(.int ((et1 - (nbase eb1 el1 eu1 et1)).toUInt32.toUInt16.toUInt32.toInt32)), (.int 5), (.ref ov)])) rfl rfl (bb d4_110)
  have V31 : Arv Z h31 ov kv_ .char (16 : Int32) [(.int (nar .char (ev0_0 - (nbase eb0 el0 eu0 et0)))), (.int (nar .char (ev0_1 - (nbase eb1 el1 eu1 et1)))), (.int (nar .char (ev1_0 - (nbase eb0 el0 eu0 et0)))), (.int (nar .char (ev1_1 - (nbase eb1 el1 eu1 et1)))), (.int (nar .char ((et0 - (nbase eb0 el0 eu0 et0)).toUInt32.toUInt16.toUInt32.toInt32))), (.int (nar .char ((et1 - (nbase eb1 el1 eu1 et1)).toUInt32.toUInt16.toUInt32.toInt32))), (.int ex6), (.int ex7), (.int ex8), (.int ex9), (.int ex10), (.int ex11), (.int ex12), (.int ex13), (.int ex14), (.int ex15)] (.int 0) := Arv.set Ar31 vq31 vS31 vN31 vH31 vG31 (fits_nar_char _) W31 5 rfl (Nat.le_of_ble_eq_true rfl)
  have N31 := Fr.snoc X31 N21 g_ov
  have F33 := (F23.other W31 (Or.inl ne_a1_ov))
  obtain ⟨T32, X32, e32, st32⟩ := getF X31 hx hZ hown (host := "") (Or.inl (wd23 hw)) Via.refl e31 F33 (g := (mkF m 72 #[vR a1, vR at_, vI 0, vI 2, vI 4, vR ov, vI 2] [(.ref a1), (.int 2)])) rfl rfl (bb d4_72)
  have F35 := (((r2.keep K7 (ninS ne_a1_ob (ninS ne_a1_ol (ninS ne_a1_oh (ninS ne_a1_ov nin0))))).other W21 (Or.inl ne_a1_ov)).other W31 (Or.inl ne_a1_ov))
  obtain ⟨T34, X34, e34, st34⟩ := getF X32 hx hZ hown (host := "") (Or.inl (wd38 hw)) Via.refl e32 F35 (g := (mkF m 138 #[vR a1, vR at_, vI 0, vI 2, vI 4, vR ov, vI 2] [(.ref a1), (.ref a1)])) rfl rfl (bb d4_138)
  have F37 := (((r0.keep K7).wr W21).wr W31)
  obtain ⟨T36, h36, X36, e36, W36, st36⟩ := putF X34 hx hZ hown (host := "") (Or.inl (wd38 hw)) Via.refl e34 F35 F37 (Or.inl (wd39 hw)) (wd7 hw) (ty := .int) (by decide) rfl rfl (g := (mkF m 143 #[vR a1, vR at_, vI 0, vI 2, vI 4, vR ov, vI 2] [(.int 3), (.ref a1)])) rfl rfl (bb d4_143)
  have Fw36 := F35.same W36
  have N36 := Fr.snoc X36 N31 g_a1
  have F38 := (F37.wr W36)
  have F39 := (F33.other W36 (Or.inr (slot_ne (Or.inr (wd24 hw)) (Or.inl (wd39 hw)) (by decide) (t := .int) (t' := .int) (by decide) (by decide))))
  have F40 := ((((r3.keep K7 (ninS ne_a1_ob (ninS ne_a1_ol (ninS ne_a1_oh (ninS ne_a1_ov nin0))))).other W21 (Or.inl ne_a1_ov)).other W31 (Or.inl ne_a1_ov)).other W36 (Or.inr (slot_ne (Or.inl (wd18 hw)) (Or.inl (wd39 hw)) (by decide) (t := (.array (.array .int))) (t' := .int) (by decide) (by decide))))
  have F41 := (((F11.other W21 (Or.inl ne_a1_ov)).other W31 (Or.inl ne_a1_ov)).other W36 (Or.inr (slot_ne (Or.inl (wd22 hw)) (Or.inl (wd39 hw)) (by decide) (t := (.array (.array .char))) (t' := .int) (by decide) (by decide))))
  have F42 := ((F27.other W31 (Or.inl ne_a1_ov)).other W36 (Or.inr (slot_ne (Or.inl (wd26 hw)) (Or.inl (wd39 hw)) (by decide) (t := (.array .int)) (t' := .int) (by decide) (by decide))))
  have F43 := ((((r6.keep K7 (ninS ne_a1_ob (ninS ne_a1_ol (ninS ne_a1_oh (ninS ne_a1_ov nin0))))).other W21 (Or.inl ne_a1_ov)).other W31 (Or.inl ne_a1_ov)).other W36 (Or.inr (slot_ne (Or.inr (wd28 hw)) (Or.inl (wd39 hw)) (by decide) (t := (.array .int)) (t' := .int) (by decide) (by decide))))
  have F44 := ((((r7.keep K7 (ninS ne_a1_ob (ninS ne_a1_ol (ninS ne_a1_oh (ninS ne_a1_ov nin0))))).other W21 (Or.inl ne_a1_ov)).other W31 (Or.inl ne_a1_ov)).other W36 (Or.inr (slot_ne (Or.inr (wd30 hw)) (Or.inl (wd39 hw)) (by decide) (t := (.array .int)) (t' := .int) (by decide) (by decide))))
  have F45 := ((((r8.keep K7 (ninS ne_ow_ob (ninS ne_ow_ol (ninS ne_ow_oh (ninS ne_ow_ov nin0))))).other W21 ne_ow_ov).other W31 ne_ow_ov).other W36 (Ne.symm ne_a1_ow))
  have F46 := (((F12.other W21 ne_on_ov).other W31 ne_on_ov).other W36 (Ne.symm ne_a1_on))
  have F47 := ((F29.other W31 ne_ob_ov).other W36 (Ne.symm ne_a1_ob))
  have F48 := (((f7_0.other W21 ne_ol_ov).other W31 ne_ol_ov).other W36 (Ne.symm ne_a1_ol))
  have F49 := (((f7_1.other W21 ne_oh_ov).other W31 ne_oh_ov).other W36 (Ne.symm ne_a1_oh))
  have F50 := (V31.other W36 (Ne.symm ne_a1_ov))
  obtain ⟨fs, hr, hrun, hended, hW, hsame⟩ := X36.leave (v := none) (fun _ => rfl)
  refine ⟨_, _, pre0 _ ?_, hrun, hended, _, _, rfl, ?_, ⟨_, rfl⟩, hW, hsame.mono (by decide) (by decide)⟩
  · show GG p e below s₁ (mkF m 0 #[vR a1, vR at_, .unset, .unset, .unset, .unset, .unset] []) _
    refine XS.aloadN X0.here hx rfl (bb d4_0) rfl rfl ?_
    refine st1 _ ?_
    show GG p e below T1 (mkF m 4 #[vR a1, vR at_, .unset, .unset, .unset, .unset, .unset] [(.int 2)]) _
    refine st2 _ ?_
    show GG p e below T2 (mkF m 7 #[vR a1, vR at_, .unset, .unset, .unset, .unset, .unset] [(.int 12), (.int 2)]) _
    refine XS.iushr X2.here hx rfl (bb d4_7) rfl ?_
    show GG p e below T2 (mkF m 8 #[vR a1, vR at_, .unset, .unset, .unset, .unset, .unset] [(.int 0)]) _
    refine XS.istoreN X2.here hx rfl (bb d4_8) rfl (l' := #[vR a1, vR at_, vI 0, .unset, .unset, .unset, .unset]) rfl ?_
    show GG p e below T2 (mkF m 9 #[vR a1, vR at_, vI 0, .unset, .unset, .unset, .unset] []) _
    refine XS.aloadN X2.here hx rfl (bb d4_9) rfl rfl ?_
    refine st3 _ ?_
    show GG p e below T3 (mkF m 13 #[vR a1, vR at_, vI 0, .unset, .unset, .unset, .unset] [(.int 2)]) _
    refine XS.sipush X3.here hx rfl (bb d4_13) ?_
    refine XS.iand X3.here hx rfl (bb d4_16) rfl ?_
    refine XS.istoreN X3.here hx rfl (bb d4_17) rfl (l' := #[vR a1, vR at_, vI 0, vI 2, .unset, .unset, .unset]) rfl ?_
    show GG p e below T3 (mkF m 18 #[vR a1, vR at_, vI 0, vI 2, .unset, .unset, .unset] []) _
    refine XS.iloadN X3.here hx rfl (bb d4_18) rfl ?_
    refine XS.ifYes X3.here hx rfl (pc0 := 19) (pc' := 28) rfl (bb d4_19) rfl ((if0 _ _).trans (feq (by decide : ¬ ((2 : Int32) = (0 : Int32)))).2) (by decide) (by decide) ?_
    show GG p e below T3 (mkF m 28 #[vR a1, vR at_, vI 0, vI 2, .unset, .unset, .unset] []) _
    refine XS.aloadN X3.here hx rfl (bb d4_28) rfl rfl ?_
    refine XS.iloadN X3.here hx rfl (bb d4_29) rfl ?_
    refine XS.iloadN X3.here hx rfl (bb d4_30) rfl ?_
    refine st4.trans ?_
    show GG p e below T4 (mkF m 34 #[vR a1, vR at_, vI 0, vI 2, .unset, .unset, .unset] []) _
    refine XS.aloadN X4.here hx rfl (bb d4_34) rfl rfl ?_
    refine st5 _ ?_
    show GG p e below T5 (mkF m 38 #[vR a1, vR at_, vI 0, vI 2, .unset, .unset, .unset] [(.ref on)]) _
    refine XS.iloadN X5.here hx rfl (bb d4_38) rfl ?_
    refine X5.aaload hx (j := (0 : Int32)) (v := (.ref ov)) (by rw [e5]; exact Ar6.1) (State.isArrayOf_alike hZ.alike Ar6.2.1) rfl Ar6.2.2 hin6 (vH6.at hin6 rfl) (g := (mkF m 39 #[vR a1, vR at_, vI 0, vI 2, .unset, .unset, .unset] [(.int 0), (.ref on)])) rfl rfl (bb d4_39) _ ?_
    show GG p e below T5 (mkF m 40 #[vR a1, vR at_, vI 0, vI 2, .unset, .unset, .unset] [(.ref ov)]) _
    refine XS.ifnullNo X5.here hx rfl (bb d4_40) rfl ?_
    show GG p e below T5 (mkF m 43 #[vR a1, vR at_, vI 0, vI 2, .unset, .unset, .unset] []) _
    refine XS.aloadN X5.here hx rfl (bb d4_43) rfl rfl ?_
    refine XS.iloadN X5.here hx rfl (bb d4_44) rfl ?_
    refine XS.iloadN X5.here hx rfl (bb d4_45) rfl ?_
    refine XS.aloadN X5.here hx rfl (bb d4_46) rfl rfl ?_
    show GG p e below T5 (mkF m 47 #[vR a1, vR at_, vI 0, vI 2, .unset, .unset, .unset] [(.ref at_), (.int 2), (.int 0), (.ref a1)]) _
    refine st7.trans ?_
    show GG p e below T7 (mkF m 50 #[vR a1, vR at_, vI 0, vI 2, .unset, .unset, .unset] []) _
    refine XS.iloadN X7.here hx rfl (bb d4_50) rfl ?_
    refine XS.aloadN X7.here hx rfl (bb d4_51) rfl rfl ?_
    refine st8 _ ?_
    show GG p e below T8 (mkF m 55 #[vR a1, vR at_, vI 0, vI 2, .unset, .unset, .unset] [(.int 2), (.int 2)]) _
    refine XS.imul X8.here hx rfl (bb d4_55) rfl ?_
    refine XS.istore X8.here hx rfl (bb d4_56) rfl (l' := #[vR a1, vR at_, vI 0, vI 2, vI 4, .unset, .unset]) rfl ?_
    show GG p e below T8 (mkF m 58 #[vR a1, vR at_, vI 0, vI 2, vI 4, .unset, .unset] []) _
    refine XS.aloadN X8.here hx rfl (bb d4_58) rfl rfl ?_
    refine st10 _ ?_
    show GG p e below T10 (mkF m 62 #[vR a1, vR at_, vI 0, vI 2, vI 4, .unset, .unset] [(.ref on)]) _
    refine XS.iloadN X10.here hx rfl (bb d4_62) rfl ?_
    refine X10.aaload hx (j := (0 : Int32)) (v := (.ref ov)) (by rw [e10]; exact Ar13.1) (State.isArrayOf_alike hZ.alike Ar13.2.1) rfl Ar13.2.2 hin13 (vH13.at hin13 rfl) (g := (mkF m 63 #[vR a1, vR at_, vI 0, vI 2, vI 4, .unset, .unset] [(.int 0), (.ref on)])) rfl rfl (bb d4_63) _ ?_
    show GG p e below T10 (mkF m 64 #[vR a1, vR at_, vI 0, vI 2, vI 4, .unset, .unset] [(.ref ov)]) _
    refine XS.astore X10.here hx rfl (bb d4_64) rfl rfl (l' := #[vR a1, vR at_, vI 0, vI 2, vI 4, vR ov, .unset]) rfl ?_
    show GG p e below T10 (mkF m 66 #[vR a1, vR at_, vI 0, vI 2, vI 4, vR ov, .unset] []) _
    refine XS.iconst X10.here hx rfl (bb d4_66) ?_
    refine XS.istore X10.here hx rfl (bb d4_67) rfl (l' := #[vR a1, vR at_, vI 0, vI 2, vI 4, vR ov, vI 0]) rfl ?_
    show GG p e below T10 (mkF m 69 #[vR a1, vR at_, vI 0, vI 2, vI 4, vR ov, vI 0] []) _
    refine XS.iload X10.here hx rfl (bb d4_69) rfl ?_
    refine XS.aloadN X10.here hx rfl (bb d4_71) rfl rfl ?_
    refine st14 _ ?_
    show GG p e below T14 (mkF m 75 #[vR a1, vR at_, vI 0, vI 2, vI 4, vR ov, vI 0] [(.int 2), (.int 0)]) _
    refine XS.icmpNo X14.here hx rfl (bb d4_75) rfl (tlt (by decide : (0 : Int32) < (2 : Int32))).2.1 ?_
    refine XS.aload X14.here hx rfl (bb d4_78) rfl rfl ?_
    refine XS.ifnullNo X14.here hx rfl (bb d4_80) rfl ?_
    show GG p e below T14 (mkF m 83 #[vR a1, vR at_, vI 0, vI 2, vI 4, vR ov, vI 0] []) _
    refine XS.aload X14.here hx rfl (bb d4_83) rfl rfl ?_
    refine XS.iload X14.here hx rfl (bb d4_85) rfl ?_
    refine XS.iload X14.here hx rfl (bb d4_87) rfl ?_
    refine XS.iadd X14.here hx rfl (bb d4_89) rfl ?_
    show GG p e below T14 (mkF m 90 #[vR a1, vR at_, vI 0, vI 2, vI 4, vR ov, vI 0] [(.int 4), (.ref ov)]) _
    refine XS.aloadN X14.here hx rfl (bb d4_90) rfl rfl ?_
    refine XS.iload X14.here hx rfl (bb d4_91) rfl ?_
    refine X14.iaload hx (j := (0 : Int32)) (v := (.int et0)) (by rw [e14]; exact Ar16.1) (State.isArrayOf_alike hZ.alike Ar16.2.1) Ar16.2.2 hin16 (vH16.at hin16 rfl) (g := (mkF m 93 #[vR a1, vR at_, vI 0, vI 2, vI 4, vR ov, vI 0] [(.int 0), (.ref at_), (.int 4), (.ref ov)])) rfl rfl (bb d4_93) _ ?_
    show GG p e below T14 (mkF m 94 #[vR a1, vR at_, vI 0, vI 2, vI 4, vR ov, vI 0] [(.int et0), (.int 4), (.ref ov)]) _
    refine XS.aloadN X14.here hx rfl (bb d4_94) rfl rfl ?_
    refine st17 _ ?_
    show GG p e below T17 (mkF m 98 #[vR a1, vR at_, vI 0, vI 2, vI 4, vR ov, vI 0] [(.ref ob), (.int et0), (.int 4), (.ref ov)]) _
    refine XS.iloadN X17.here hx rfl (bb d4_98) rfl ?_
    refine XS.aloadN X17.here hx rfl (bb d4_99) rfl rfl ?_
    refine st19 _ ?_
    show GG p e below T19 (mkF m 103 #[vR a1, vR at_, vI 0, vI 2, vI 4, vR ov, vI 0] [(.int 2), (.int 0), (.ref ob), (.int et0), (.int 4), (.ref ov)]) _
    refine XS.imul X19.here hx rfl (bb d4_103) rfl ?_
    refine XS.iload X19.here hx rfl (bb d4_104) rfl ?_
    refine XS.iadd X19.here hx rfl (bb d4_106) rfl ?_
    refine X19.iaload hx (j := (0 : Int32)) (v := (.int (nbase eb0 el0 eu0 et0))) (by rw [e19]; exact Ar20.1) (State.isArrayOf_alike hZ.alike Ar20.2.1) Ar20.2.2 hin20 (vH20.at hin20 rfl) (g := (mkF m 107 #[vR a1, vR at_, vI 0, vI 2, vI 4, vR ov, vI 0] [(.int 0), (.ref ob), (.int et0), (.int 4), (.ref ov)])) rfl rfl (bb d4_107) _ ?_
    show GG p e below T19 (mkF m 108 #[vR a1, vR at_, vI 0, vI 2, vI 4, vR ov, vI 0] [(.int (nbase eb0 el0 eu0 et0)), (.int et0), (.int 4), (.ref ov)]) _
    refine XS.isub X19.here hx rfl (bb d4_108) rfl ?_
    refine XS.i2c X19.here hx rfl (bb d4_109) rfl ?_
    show GG p e below T19 (mkF m 110 #[vR a1, vR at_, vI 0, vI 2, vI 4, vR ov, vI 0] [(.int ((et0 - (nbase eb0 el0 eu0 et0)).toUInt32.toUInt16.toUInt32.toInt32)), (.int 4), (.ref ov)]) _
    refine st21 _ ?_
    show GG p e below T21 (mkF m 111 #[vR a1, vR at_, vI 0, vI 2, vI 4, vR ov, vI 0] []) _
    refine XS.goto X21.here hx rfl (pc0 := 111) (pc' := 130) rfl (bb d4_111) (by decide) (by decide) ?_
    refine XS.iinc X21.here hx rfl (bb d4_130) rfl (l' := #[vR a1, vR at_, vI 0, vI 2, vI 4, vR ov, vI 1]) rfl ?_
    show GG p e below T21 (mkF m 133 #[vR a1, vR at_, vI 0, vI 2, vI 4, vR ov, vI 1] []) _
    refine XS.goto X21.here hx rfl (pc0 := 133) (pc' := 69) rfl (bb d4_133) (by decide) (by decide) ?_
    refine XS.iload X21.here hx rfl (bb d4_69) rfl ?_
    refine XS.aloadN X21.here hx rfl (bb d4_71) rfl rfl ?_
    refine st22 _ ?_
    show GG p e below T22 (mkF m 75 #[vR a1, vR at_, vI 0, vI 2, vI 4, vR ov, vI 1] [(.int 2), (.int 1)]) _
    refine XS.icmpNo X22.here hx rfl (bb d4_75) rfl (tlt (by decide : (1 : Int32) < (2 : Int32))).2.1 ?_
    refine XS.aload X22.here hx rfl (bb d4_78) rfl rfl ?_
    refine XS.ifnullNo X22.here hx rfl (bb d4_80) rfl ?_
    show GG p e below T22 (mkF m 83 #[vR a1, vR at_, vI 0, vI 2, vI 4, vR ov, vI 1] []) _
    refine XS.aload X22.here hx rfl (bb d4_83) rfl rfl ?_
    refine XS.iload X22.here hx rfl (bb d4_85) rfl ?_
    refine XS.iload X22.here hx rfl (bb d4_87) rfl ?_
    refine XS.iadd X22.here hx rfl (bb d4_89) rfl ?_
    show GG p e below T22 (mkF m 90 #[vR a1, vR at_, vI 0, vI 2, vI 4, vR ov, vI 1] [(.int 5), (.ref ov)]) _
    refine XS.aloadN X22.here hx rfl (bb d4_90) rfl rfl ?_
    refine XS.iload X22.here hx rfl (bb d4_91) rfl ?_
    refine X22.iaload hx (j := (1 : Int32)) (v := (.int et1)) (by rw [e22]; exact Ar25.1) (State.isArrayOf_alike hZ.alike Ar25.2.1) Ar25.2.2 hin25 (vH25.at hin25 rfl) (g := (mkF m 93 #[vR a1, vR at_, vI 0, vI 2, vI 4, vR ov, vI 1] [(.int 1), (.ref at_), (.int 5), (.ref ov)])) rfl rfl (bb d4_93) _ ?_
    show GG p e below T22 (mkF m 94 #[vR a1, vR at_, vI 0, vI 2, vI 4, vR ov, vI 1] [(.int et1), (.int 5), (.ref ov)]) _
    refine XS.aloadN X22.here hx rfl (bb d4_94) rfl rfl ?_
    refine st26 _ ?_
    show GG p e below T26 (mkF m 98 #[vR a1, vR at_, vI 0, vI 2, vI 4, vR ov, vI 1] [(.ref ob), (.int et1), (.int 5), (.ref ov)]) _
    refine XS.iloadN X26.here hx rfl (bb d4_98) rfl ?_
    refine XS.aloadN X26.here hx rfl (bb d4_99) rfl rfl ?_
    refine st28 _ ?_
    show GG p e below T28 (mkF m 103 #[vR a1, vR at_, vI 0, vI 2, vI 4, vR ov, vI 1] [(.int 2), (.int 0), (.ref ob), (.int et1), (.int 5), (.ref ov)]) _
    refine XS.imul X28.here hx rfl (bb d4_103) rfl ?_
    refine XS.iload X28.here hx rfl (bb d4_104) rfl ?_
    refine XS.iadd X28.here hx rfl (bb d4_106) rfl ?_
    refine X28.iaload hx (j := (1 : Int32)) (v := (.int (nbase eb1 el1 eu1 et1))) (by rw [e28]; exact Ar30.1) (State.isArrayOf_alike hZ.alike Ar30.2.1) Ar30.2.2 hin30 (vH30.at hin30 rfl) (g := (mkF m 107 #[vR a1, vR at_, vI 0, vI 2, vI 4, vR ov, vI 1] [(.int 1), (.ref ob), (.int et1), (.int 5), (.ref ov)])) rfl rfl (bb d4_107) _ ?_
    show GG p e below T28 (mkF m 108 #[vR a1, vR at_, vI 0, vI 2, vI 4, vR ov, vI 1] [(.int (nbase eb1 el1 eu1 et1)), (.int et1), (.int 5), (.ref ov)]) _
    refine XS.isub X28.here hx rfl (bb d4_108) rfl ?_
    refine XS.i2c X28.here hx rfl (bb d4_109) rfl ?_
    show GG p e below T28 (mkF m 110 #[vR a1, vR at_, vI 0, vI 2, vI 4, vR ov, vI 1] [(.int ((et1 - (nbase eb1 el1 eu1 et1)).toUInt32.toUInt16.toUInt32.toInt32)), (.int 5), (.ref ov)]) _
    refine st31 _ ?_
    show GG p e below T31 (mkF m 111 #[vR a1, vR at_, vI 0, vI 2, vI 4, vR ov, vI 1] []) _
    refine XS.goto X31.here hx rfl (pc0 := 111) (pc' := 130) rfl (bb d4_111) (by decide) (by decide) ?_
    refine XS.iinc X31.here hx rfl (bb d4_130) rfl (l' := #[vR a1, vR at_, vI 0, vI 2, vI 4, vR ov, vI 2]) rfl ?_
    show GG p e below T31 (mkF m 133 #[vR a1, vR at_, vI 0, vI 2, vI 4, vR ov, vI 2] []) _
    refine XS.goto X31.here hx rfl (pc0 := 133) (pc' := 69) rfl (bb d4_133) (by decide) (by decide) ?_
    refine XS.iload X31.here hx rfl (bb d4_69) rfl ?_
    refine XS.aloadN X31.here hx rfl (bb d4_71) rfl rfl ?_
    refine st32 _ ?_
    show GG p e below T32 (mkF m 75 #[vR a1, vR at_, vI 0, vI 2, vI 4, vR ov, vI 2] [(.int 2), (.int 2)]) _
    refine XS.icmpYes X32.here hx rfl (pc0 := 75) (pc' := 136) rfl (bb d4_75) rfl (flt (by decide : ¬ ((2 : Int32) < (2 : Int32)))).2.1 (by decide) (by decide) ?_
    show GG p e below T32 (mkF m 136 #[vR a1, vR at_, vI 0, vI 2, vI 4, vR ov, vI 2] []) _
    refine XS.aloadN X32.here hx rfl (bb d4_136) rfl rfl ?_
    refine XS.dup X32.here hx rfl (bb d4_137) rfl rfl ?_
    refine st34 _ ?_
    show GG p e below T34 (mkF m 141 #[vR a1, vR at_, vI 0, vI 2, vI 4, vR ov, vI 2] [(.int 2), (.ref a1)]) _
    refine XS.iconst X34.here hx rfl (bb d4_141) ?_
    refine XS.iadd X34.here hx rfl (bb d4_142) rfl ?_
    refine st36 _ ?_
    show GG p e below T36 (mkF m 146 #[vR a1, vR at_, vI 0, vI 2, vI 4, vR ov, vI 2] []) _
    exact X36.returnOut hx Bd.returns (bb d4_146) hr
  · show Q_add2N2 Z a1 at_ ow on ob ol oh ov kw_ kn_ kb_ kl_ kh_ kv_ eb0 eb1 el0 el1 eu0 eu1 ev0_0 ev0_1 ev1_0 ev1_1 ex4 ex5 ex6 ex7 ex8 ex9 ex10 ex11 ex12 ex13 ex14 ex15 kt_ et0 et1 h0 n0 _ T36.heap _
    rw [e36]
    exact ⟨rfl, N36, (((((Keep.refl h0 [a1, ob, ol, oh, ov]).trans K7 (allS (Or.inl (List.mem_of_getElem? (i := 1) rfl)) (allS (Or.inl (List.mem_of_getElem? (i := 2) rfl)) (allS (Or.inl (List.mem_of_getElem? (i := 3) rfl)) (allS (Or.inl (List.mem_of_getElem? (i := 4) rfl)) all0))))).wr W21 (Or.inl (List.mem_of_getElem? (i := 4) rfl))).wr W31 (Or.inl (List.mem_of_getElem? (i := 4) rfl))).wr W36 (Or.inl (List.mem_of_getElem? (i := 0) rfl))), F38, F39, Fw36, F40, F41, F42, F43, F44, F45, r9, F46, r11, F47, F48, F49, (by have q := F50; (try simp only [own_c1] at q); exact q)⟩
def Q_add2W1 (Z : State) (a1 at_ ow on ob ol oh ov : Addr) (kw_ kn_ kb_ kl_ kh_ kv_ : ClassId) (eb0 eb1 el0 el1 eu0 eu1 ev0_0 ev0_1 ex2 ex3 ex4 ex5 ex6 ex7 ex8 ex9 ex10 ex11 ex12 ex13 ex14 ex15 : Int32) (kt_ : ClassId) (et0 et1 : Int32) (h0 : Heap) (n0 : Nat) (v : Option Value) (h : Heap) (L : List Loc) : Prop := ∃ (oz : Addr) (kz_ : ClassId), v = none ∧ Fr n0 L ∧ Keep h0 h [a1, ow, on] ∧ h0.size ≤ oz ∧ Exa Z h a1 cRV ∧ Fld Z h a1 cRV "arity" "I" (.int 2) ∧ Fld Z h a1 cRV "rows" "I" (.int 2) ∧ Fld Z h a1 cRV "wide" "[[I" (.ref ow) ∧ Fld Z h a1 cRV "narrow" "[[C" (.ref on) ∧ Fld Z h a1 cRV "bases" "[I" (.ref ob) ∧ Fld Z h a1 cRV "lowest" "[I" (.ref ol) ∧ Fld Z h a1 cRV "highest" "[I" (.ref oh) ∧ Arv Z h ow kw_ (.array .int) (1 : Int32) [(.ref oz)] .null ∧ OvrA Z kw_ .int "[I" ∧ Arv Z h on kn_ (.array .char) (1 : Int32) [.null] .null ∧ OvrA Z kn_ .char "[C" ∧ Arv Z h ob kb_ .int (2 : Int32) [(.int eb0), (.int eb1)] (.int 0) ∧ Arv Z h ol kl_ .int (2 : Int32) [(.int el0), (.int el1)] (.int 0) ∧ Arv Z h oh kh_ .int (2 : Int32) [(.int eu0), (.int eu1)] (.int 0) ∧ Arv Z h oz kz_ .int (16 : Int32) [(.int ev0_0), (.int ev0_1), (.int et0), (.int et1), (.int (0 : Int32)), (.int (0 : Int32)), (.int (0 : Int32)), (.int (0 : Int32)), (.int (0 : Int32)), (.int (0 : Int32)), (.int (0 : Int32)), (.int (0 : Int32)), (.int (0 : Int32)), (.int (0 : Int32)), (.int (0 : Int32)), (.int (0 : Int32))] (.int 0)
set_option maxRecDepth 65536 in
set_option maxHeartbeats 40000000 in
theorem rm_add2W1 (l : Launch) (Z : State) (a0 : Array Value) (hw : ∀ d ∈ tables_1, d.before a0 Z = true) (ws : List Jvm.Cond) (a1 at_ ow on ob ol oh ov : Addr) (kw_ kn_ kb_ kl_ kh_ kv_ : ClassId) (eb0 eb1 el0 el1 eu0 eu1 ev0_0 ev0_1 ex2 ex3 ex4 ex5 ex6 ex7 ex8 ex9 ex10 ex11 ex12 ex13 ex14 ex15 : Int32) (kt_ : ClassId) (et0 et1 : Int32) (h0 : Heap) (n0 : Nat) (Z0 : n0 ≤ h0.size) (O0 : Old Z n0 h0) (S_CS : Sta Z Z.heap cRV "CHUNK_SHIFT" "I" (.int (12 : Int32))) (r0 : Exa Z h0 a1 cRV) (r1 : Fld Z h0 a1 cRV "arity" "I" (.int 2)) (r2 : Fld Z h0 a1 cRV "rows" "I" (.int 1)) (r3 : Fld Z h0 a1 cRV "wide" "[[I" (.ref ow)) (r4 : Fld Z h0 a1 cRV "narrow" "[[C" (.ref on)) (r5 : Fld Z h0 a1 cRV "bases" "[I" (.ref ob)) (r6 : Fld Z h0 a1 cRV "lowest" "[I" (.ref ol)) (r7 : Fld Z h0 a1 cRV "highest" "[I" (.ref oh)) (r8 : Arv Z h0 ow kw_ (.array .int) (1 : Int32) [.null] .null) (r9 : OvrA Z kw_ .int "[I") (r10 : Arv Z h0 on kn_ (.array .char) (1 : Int32) [(.ref ov)] .null) (r11 : OvrA Z kn_ .char "[C") (r12 : Arv Z h0 ob kb_ .int (2 : Int32) [(.int eb0), (.int eb1)] (.int 0)) (r13 : Arv Z h0 ol kl_ .int (2 : Int32) [(.int el0), (.int el1)] (.int 0)) (r14 : Arv Z h0 oh kh_ .int (2 : Int32) [(.int eu0), (.int eu1)] (.int 0)) (r15 : Arv Z h0 ov kv_ .char (16 : Int32) [(.int (nar .char (ev0_0 - eb0))), (.int (nar .char (ev0_1 - eb1))), (.int ex2), (.int ex3), (.int ex4), (.int ex5), (.int ex6), (.int ex7), (.int ex8), (.int ex9), (.int ex10), (.int ex11), (.int ex12), (.int ex13), (.int ex14), (.int ex15)] (.int 0)) (r16 : Arv Z h0 at_ kt_ .int (2 : Int32) [(.int et0), (.int et1)] (.int 0)) (g_a1 : n0 ≤ a1) (g_ow : n0 ≤ ow) (g_on : n0 ≤ on) (ne_a1_ow : a1 ≠ ow) (ne_a1_on : a1 ≠ on) (ne_a1_ob : a1 ≠ ob) (ne_a1_ol : a1 ≠ ol) (ne_a1_oh : a1 ≠ oh) (ne_a1_ov : a1 ≠ ov) (ne_ow_on : ow ≠ on) (ne_ow_ob : ow ≠ ob) (ne_ow_ol : ow ≠ ol) (ne_ow_oh : ow ≠ oh) (ne_ow_ov : ow ≠ ov) (ne_on_ob : on ≠ ob) (ne_on_ol : on ≠ ol) (ne_on_oh : on ≠ oh) (ne_on_ov : on ≠ ov) (ne_ob_ol : ob ≠ ol) (ne_ob_oh : ob ≠ oh) (ne_ob_ov : ob ≠ ov) (ne_ol_oh : ol ≠ oh) (ne_ol_ov : ol ≠ ov) (ne_oh_ov : oh ≠ ov) (ne_at__a1 : at_ ≠ a1) (ne_at__ow : at_ ≠ ow) (ne_at__on : at_ ≠ on) (ne_at__ob : at_ ≠ ob) (ne_at__ol : at_ ≠ ol) (ne_at__oh : at_ ≠ oh) (ne_at__ov : at_ ≠ ov) (hIn0_0 : ownIn eb0 ev0_0) (hIn0_1 : ownIn eb1 ev0_1) (hWd : ¬ (((lcmpW (((f_maxI et0 eu0).toInt64) - ((f_minI et0 el0).toInt64)) (65536 : Int64)) < (0 : Int32)) ∧ ((lcmpW (((f_maxI et1 eu1).toInt64) - ((f_minI et1 el1).toInt64)) (65536 : Int64)) < (0 : Int32)))) :
    MetFree l (⟨cRV, "add", "([I)V"⟩ : MethodName) (head1 (Jvm.Cond.code (⟨cRV, "add", "([I)V"⟩ : MethodName) prog_47_method_4_code 7 none :: ws) ({ frames := 3, cells := 1, slots := 16, locals := 58 } : Room)) (fun a U => a = #[(.ref a1), (.ref at_)] ∧ Z.Warmed39 U.vm ∧ U.heap = h0) (fun _ _ _ _ _ => True) (fun _ U o U' => ∃ v L, o = .returned v ∧ Q_add2W1 Z a1 at_ ow on ob ol oh ov kw_ kn_ kb_ kl_ kh_ kv_ eb0 eb1 el0 el1 eu0 eu1 ev0_0 ev0_1 ex2 ex3 ex4 ex5 ex6 ex7 ex8 ex9 ex10 ex11 ex12 ex13 ex14 ex15 kt_ et0 et1 h0 n0 v U'.heap L ∧ FrameEnd U o U' L ({ frames := 3, cells := 1, slots := 16, locals := 58 } : Room).cells ({ frames := 3, cells := 1, slots := 16, locals := 58 } : Room).slots) := by
  refine MetFree.of_bodySF (plainFor_of_name pn_RowValues) hisR ?_
  intro p e s m args below meth c s₁ Bd hml0 hP hK
  obtain ⟨rfl, hZ, hh⟩ := hP
  have hx := Bd.exec
  have hby := Bd.bytes
  have bb := fun {pc : Nat} {r : Except DecodeError (Instr × Nat)} (h : decode prog_47_method_4_code pc = r) => hb hby h
  have hml : c.maxLocals = 7 := hml0
  have hown : s.vm.findClass cRV = some m.cls := findClass_of_methodNamed Bd.named
  have hnm := (name_of_methodNamed Bd.named Bd.method).1
  have X0 : Stand p l e ({ frames := 3, cells := 1, slots := 16, locals := 58 } : Room) s m #[(.ref a1), (.ref at_)] below meth c s₁ [] 0 0 := Stand.of_body Bd
  have e0 : s₁.heap = h0 := by rw [← hh, Bd.state]; rfl
  have N0 := Fr.nil n0
  have pre0 : ∀ t, Steps p.tables e below (s₁.setTop (mkF m 0 #[vR a1, vR at_, .unset, .unset, .unset, .unset, .unset] [])) t → Steps p.tables e below (s₁.setTop (entryFrame m #[(.ref a1), (.ref at_)] 7)) t := fun t k => castTop (ef_add2W1 m a1 at_) k
  obtain ⟨T1, X1, e1, st1⟩ := getF X0 hx hZ hown (host := "") (Or.inl (wd38 hw)) Via.refl e0 r2 (g := (mkF m 1 #[vR a1, vR at_, .unset, .unset, .unset, .unset, .unset] [(.ref a1)])) rfl rfl (bb d4_1)
  obtain ⟨T2, X2, e2, st2⟩ := getS2 X1 hx hZ hown (host := "") (Or.inl (wd40 hw)) Via.refl e1 (S_CS.ext O0.2) (g := (mkF m 4 #[vR a1, vR at_, .unset, .unset, .unset, .unset, .unset] [(.int 1)])) rfl (bb d4_4)
  obtain ⟨T3, X3, e3, st3⟩ := getF X2 hx hZ hown (host := "") (Or.inl (wd38 hw)) Via.refl e2 r2 (g := (mkF m 10 #[vR a1, vR at_, vI 0, .unset, .unset, .unset, .unset] [(.ref a1)])) rfl rfl (bb d4_10)
  obtain ⟨cq4, q4, q4'⟩ := (r0).cell
  obtain ⟨_, _, ⟨T4, L4, k4, n4⟩, -, X4, ⟨Lc4, hQ4, l4, y4, z4⟩, st4⟩ := X3.privateBack hx (y := (⟨cRV, "makeRoom", "(II)V"⟩ : MethodName)) hown (mvT hZ (wd60 hw)) (mvT hZ (wd61 hw)) (own_sel (mvT hZ (wd7 hw)) (mvT hZ (wd61 hw)) (mvP hZ (wd62 hw)) (by decide)) (Cond.privateMethod_at (mvP hZ (wd62 hw) (args := #[]))) (mvT hZ (wd63 hw)) (by decide) (backOf (W := 0) (rm_room2N1 l Z a0 hw [] a1 ow on ob ol oh ov kw_ kn_ kb_ kl_ kh_ kv_ eb0 eb1 el0 el1 eu0 eu1 ev0_0 ev0_1 ex2 ex3 ex4 ex5 ex6 ex7 ex8 ex9 ex10 ex11 ex12 ex13 ex14 ex15 h0 n0 (own_z0 O0) O0 S_CS r0 r1 r3 r4 r8 r10 r15) hZ (wd63 hw) (wd8 hw) (by decide) (by decide)) (g := (mkF m 31 #[vR a1, vR at_, vI 0, vI 1, .unset, .unset, .unset] [(.int 1), (.int 0), (.ref a1)])) rfl (by rw [hml]; rfl) (Steps.refl _) (a := a1) (by rw [e3]; exact q4) q4' (argsL := [(.int 0), (.int 1)]) (rest := []) (lenOf pd__II_V_5 rfl) rfl (by show 2 * 0 + _ ≤ _; exact Nat.le_of_eq rfl) (bb d4_31) (fun _ _ => ⟨rfl, e3, (by decide : 0 + 0 ≤ _), (by decide : 0 + 0 ≤ _)⟩)
  dsimp only [Pt.U, Pt.locs, Pt.cells, Pt.slots] at X4 l4 y4 z4 st4 hQ4
  subst l4 y4 z4
  obtain ⟨rfl, N4q, e4⟩ := hQ4
  have N4 := Fr.app N0 N4q
  obtain ⟨T5, X5, e5, st5⟩ := getF X4 hx hZ hown (host := "") (Or.inl (wd21 hw)) Via.refl e4 r4 (g := (mkF m 35 #[vR a1, vR at_, vI 0, vI 1, .unset, .unset, .unset] [(.ref a1)])) rfl rfl (bb d4_35)
  obtain ⟨cl6, Ar6, vq6, vS6, vN6, vH6, vG6⟩ := id r10
  have hin6 : ¬ (((0 : Int32) : Int32) < 0 ∨ cl6.slots.size ≤ ((0 : Int32) : Int32).toNatClampNeg) := inb_of vS6 ⟨by decide, by decide⟩
  obtain ⟨cq7, q7, q7'⟩ := (r0).cell
  obtain ⟨_, _, ⟨T7, L7, k7, n7⟩, -, X7, ⟨Lc7, hQ7, l7, y7, z7⟩, st7⟩ := X5.privateBack hx (y := (⟨cRV, "fit", "(II[I)V"⟩ : MethodName)) hown (mvT hZ (wd67 hw)) (mvT hZ (wd68 hw)) (own_sel (mvT hZ (wd7 hw)) (mvT hZ (wd68 hw)) (mvP hZ (wd69 hw)) (by decide)) (Cond.privateMethod_at (mvP hZ (wd69 hw) (args := #[]))) (mvT hZ (wd70 hw)) (by decide) (backOf (W := 0) (rm_fitW2_1 l Z a0 hw [] a1 at_ ow on ob ol oh ov kw_ kn_ kb_ kl_ kh_ kv_ eb0 eb1 el0 el1 eu0 eu1 ev0_0 ev0_1 ex2 ex3 ex4 ex5 ex6 ex7 ex8 ex9 ex10 ex11 ex12 ex13 ex14 ex15 kt_ et0 et1 h0 n0 (own_z0 O0) O0 S_CS r0 r1 r2 r3 r4 r5 r6 r7 r8 r9 r10 r11 r12 r13 r14 r15 r16 g_ow g_on ne_a1_ow ne_a1_on ne_a1_ob ne_a1_ol ne_a1_oh ne_a1_ov ne_ow_on ne_ow_ob ne_ow_ol ne_ow_oh ne_ow_ov ne_on_ob ne_on_ol ne_on_oh ne_on_ov ne_ob_ol ne_ob_oh ne_ob_ov ne_ol_oh ne_ol_ov ne_oh_ov ne_at__a1 ne_at__ow ne_at__on ne_at__ob ne_at__ol ne_at__oh ne_at__ov hIn0_0 hIn0_1 hWd) hZ (wd70 hw) (wd8 hw) (by decide) (by decide)) (g := (mkF m 47 #[vR a1, vR at_, vI 0, vI 1, .unset, .unset, .unset] [(.ref at_), (.int 1), (.int 0), (.ref a1)])) rfl (by rw [hml]; rfl) (Steps.refl _) (a := a1) (by rw [e5]; exact q7) q7' (argsL := [(.int 0), (.int 1), (.ref at_)]) (rest := []) (lenOf pd__II_I_V_7 rfl) rfl (by show 2 * 0 + _ ≤ _; exact Nat.le_of_eq rfl) (bb d4_47) (fun _ _ => ⟨rfl, e5, (by decide : 0 + 1 ≤ _), (by decide : 0 + 16 ≤ _)⟩)
  dsimp only [Pt.U, Pt.locs, Pt.cells, Pt.slots] at X7 l7 y7 z7 st7 hQ7
  subst l7 y7 z7
  obtain ⟨oz7, kz_7, rfl, N7q, K7, szz_oz7, f7_0, f7_1, f7_2⟩ := hQ7
  have N7 := Fr.app N4 N7q
  have g_oz7 : n0 ≤ oz7 := Nat.le_trans (own_z0 O0) szz_oz7
  have sz_oz7 : h0.size ≤ oz7 := Nat.le_trans (Nat.le_refl _) szz_oz7
  have ne_a1_oz7 : a1 ≠ oz7 := Nat.ne_of_lt (Nat.lt_of_lt_of_le r0.lt szz_oz7)
  have ne_ow_oz7 : ow ≠ oz7 := Nat.ne_of_lt (Nat.lt_of_lt_of_le r8.lt szz_oz7)
  have ne_on_oz7 : on ≠ oz7 := Nat.ne_of_lt (Nat.lt_of_lt_of_le r10.lt szz_oz7)
  have ne_ob_oz7 : ob ≠ oz7 := Nat.ne_of_lt (Nat.lt_of_lt_of_le r12.lt szz_oz7)
  have ne_ol_oz7 : ol ≠ oz7 := Nat.ne_of_lt (Nat.lt_of_lt_of_le r13.lt szz_oz7)
  have ne_oh_oz7 : oh ≠ oz7 := Nat.ne_of_lt (Nat.lt_of_lt_of_le r14.lt szz_oz7)
  have ne_ov_oz7 : ov ≠ oz7 := Nat.ne_of_lt (Nat.lt_of_lt_of_le r15.lt szz_oz7)
  have ne_at__oz7 : at_ ≠ oz7 := Nat.ne_of_lt (Nat.lt_of_lt_of_le r16.lt szz_oz7)
  have F9 := (r1.keep K7 (ninS ne_a1_ow (ninS ne_a1_on nin0)))
  obtain ⟨T8, X8, e8, st8⟩ := getF X7 hx hZ hown (host := "") (Or.inl (wd23 hw)) Via.refl rfl F9 (g := (mkF m 52 #[vR a1, vR at_, vI 0, vI 1, .unset, .unset, .unset] [(.ref a1), (.int 1)])) rfl rfl (bb d4_52)
  have F11 := (r4.keep K7 (ninS ne_a1_ow (ninS ne_a1_on nin0)))
  obtain ⟨T10, X10, e10, st10⟩ := getF X8 hx hZ hown (host := "") (Or.inl (wd21 hw)) Via.refl e8 F11 (g := (mkF m 59 #[vR a1, vR at_, vI 0, vI 1, vI 2, .unset, .unset] [(.ref a1)])) rfl rfl (bb d4_59)
  obtain ⟨cl12, Ar12, vq12, vS12, vN12, vH12, vG12⟩ := id f7_1
  have hin12 : ¬ (((0 : Int32) : Int32) < 0 ∨ cl12.slots.size ≤ ((0 : Int32) : Int32).toNatClampNeg) := inb_of vS12 ⟨by decide, by decide⟩
  obtain ⟨T13, X13, e13, st13⟩ := getF X10 hx hZ hown (host := "") (Or.inl (wd23 hw)) Via.refl e10 F9 (g := (mkF m 72 #[vR a1, vR at_, vI 0, vI 1, vI 2, .val .null, vI 0] [(.ref a1), (.int 0)])) rfl rfl (bb d4_72)
  have F15 := (r3.keep K7 (ninS ne_a1_ow (ninS ne_a1_on nin0)))
  obtain ⟨T14, X14, e14, st14⟩ := getF X13 hx hZ hown (host := "") (Or.inl (wd17 hw)) Via.refl e13 F15 (g := (mkF m 115 #[vR a1, vR at_, vI 0, vI 1, vI 2, .val .null, vI 0] [(.ref a1)])) rfl rfl (bb d4_115)
  obtain ⟨cl16, Ar16, vq16, vS16, vN16, vH16, vG16⟩ := id f7_0
  have hin16 : ¬ (((0 : Int32) : Int32) < 0 ∨ cl16.slots.size ≤ ((0 : Int32) : Int32).toNatClampNeg) := inb_of vS16 ⟨by decide, by decide⟩
  have F17 := (r16.keep K7 (ninS ne_at__ow (ninS ne_at__on nin0)))
  obtain ⟨cl18, Ar18, vq18, vS18, vN18, vH18, vG18⟩ := id F17
  have hin18 : ¬ (((0 : Int32) : Int32) < 0 ∨ cl18.slots.size ≤ ((0 : Int32) : Int32).toNatClampNeg) := inb_of vS18 ⟨by decide, by decide⟩
  obtain ⟨cl19, Ar19, vq19, vS19, vN19, vH19, vG19⟩ := id f7_2
  have hin19 : ¬ (((2 : Int32) : Int32) < 0 ∨ cl19.slots.size ≤ ((2 : Int32) : Int32).toNatClampNeg) := inb_of vS19 ⟨by decide, by decide⟩
  obtain ⟨T19, h19, X19, e19, W19, st19⟩ := stI X14 hx hZ e14 Ar19 (j := (2 : Int32)) hin19 (g := (mkF m 129 #[vR a1, vR at_, vI 0, vI 1, vI 2, .val .null, vI 0] [(.int et0), (.int 2), (.ref oz7)])) rfl rfl (bb d4_129)
  have V19 : Arv Z h19 oz7 kz_7 .int (16 : Int32) [(.int ev0_0), (.int ev0_1), (.int et0), (.int 0), (.int 0), (.int 0), (.int 0), (.int 0), (.int 0), (.int 0), (.int 0), (.int 0), (.int 0), (.int 0), (.int 0), (.int 0)] (.int 0) := Arv.set Ar19 vq19 vS19 vN19 vH19 vG19 rfl W19 2 rfl (Nat.le_of_ble_eq_true rfl)
  have N19 := Fr.snoc X19 N7 g_oz7
  have F21 := (F9.other W19 (Or.inl ne_a1_oz7))
  obtain ⟨T20, X20, e20, st20⟩ := getF X19 hx hZ hown (host := "") (Or.inl (wd23 hw)) Via.refl e19 F21 (g := (mkF m 72 #[vR a1, vR at_, vI 0, vI 1, vI 2, .val .null, vI 1] [(.ref a1), (.int 1)])) rfl rfl (bb d4_72)
  have F23 := (F15.other W19 (Or.inl ne_a1_oz7))
  obtain ⟨T22, X22, e22, st22⟩ := getF X20 hx hZ hown (host := "") (Or.inl (wd17 hw)) Via.refl e20 F23 (g := (mkF m 115 #[vR a1, vR at_, vI 0, vI 1, vI 2, .val .null, vI 1] [(.ref a1)])) rfl rfl (bb d4_115)
  have F24 := (f7_0.other W19 ne_ow_oz7)
  obtain ⟨cl25, Ar25, vq25, vS25, vN25, vH25, vG25⟩ := id F24
  have hin25 : ¬ (((0 : Int32) : Int32) < 0 ∨ cl25.slots.size ≤ ((0 : Int32) : Int32).toNatClampNeg) := inb_of vS25 ⟨by decide, by decide⟩
  have F26 := (F17.other W19 ne_at__oz7)
  obtain ⟨cl27, Ar27, vq27, vS27, vN27, vH27, vG27⟩ := id F26
  have hin27 : ¬ (((1 : Int32) : Int32) < 0 ∨ cl27.slots.size ≤ ((1 : Int32) : Int32).toNatClampNeg) := inb_of vS27 ⟨by decide, by decide⟩
  obtain ⟨cl28, Ar28, vq28, vS28, vN28, vH28, vG28⟩ := id V19
  have hin28 : ¬ (((3 : Int32) : Int32) < 0 ∨ cl28.slots.size ≤ ((3 : Int32) : Int32).toNatClampNeg) := inb_of vS28 ⟨by decide, by decide⟩
  obtain ⟨T28, h28, X28, e28, W28, st28⟩ := stI X22 hx hZ e22 Ar28 (j := (3 : Int32)) hin28 (g := (mkF m 129 #[vR a1, vR at_, vI 0, vI 1, vI 2, .val .null, vI 1] [(.int et1), (.int 3), (.ref oz7)])) rfl rfl (bb d4_129)
  have V28 : Arv Z h28 oz7 kz_7 .int (16 : Int32) [(.int ev0_0), (.int ev0_1), (.int et0), (.int et1), (.int 0), (.int 0), (.int 0), (.int 0), (.int 0), (.int 0), (.int 0), (.int 0), (.int 0), (.int 0), (.int 0), (.int 0)] (.int 0) := Arv.set Ar28 vq28 vS28 vN28 vH28 vG28 rfl W28 3 rfl (Nat.le_of_ble_eq_true rfl)
  have N28 := Fr.snoc X28 N19 g_oz7
  have F30 := (F21.other W28 (Or.inl ne_a1_oz7))
  obtain ⟨T29, X29, e29, st29⟩ := getF X28 hx hZ hown (host := "") (Or.inl (wd23 hw)) Via.refl e28 F30 (g := (mkF m 72 #[vR a1, vR at_, vI 0, vI 1, vI 2, .val .null, vI 2] [(.ref a1), (.int 2)])) rfl rfl (bb d4_72)
  have F32 := (((r2.keep K7 (ninS ne_a1_ow (ninS ne_a1_on nin0))).other W19 (Or.inl ne_a1_oz7)).other W28 (Or.inl ne_a1_oz7))
  obtain ⟨T31, X31, e31, st31⟩ := getF X29 hx hZ hown (host := "") (Or.inl (wd38 hw)) Via.refl e29 F32 (g := (mkF m 138 #[vR a1, vR at_, vI 0, vI 1, vI 2, .val .null, vI 2] [(.ref a1), (.ref a1)])) rfl rfl (bb d4_138)
  have F34 := (((r0.keep K7).wr W19).wr W28)
  obtain ⟨T33, h33, X33, e33, W33, st33⟩ := putF X31 hx hZ hown (host := "") (Or.inl (wd38 hw)) Via.refl e31 F32 F34 (Or.inl (wd39 hw)) (wd7 hw) (ty := .int) (by decide) rfl rfl (g := (mkF m 143 #[vR a1, vR at_, vI 0, vI 1, vI 2, .val .null, vI 2] [(.int 2), (.ref a1)])) rfl rfl (bb d4_143)
  have Fw33 := F32.same W33
  have N33 := Fr.snoc X33 N28 g_a1
  have F35 := (F34.wr W33)
  have F36 := (F30.other W33 (Or.inr (slot_ne (Or.inr (wd24 hw)) (Or.inl (wd39 hw)) (by decide) (t := .int) (t' := .int) (by decide) (by decide))))
  have F37 := ((F23.other W28 (Or.inl ne_a1_oz7)).other W33 (Or.inr (slot_ne (Or.inl (wd18 hw)) (Or.inl (wd39 hw)) (by decide) (t := (.array (.array .int))) (t' := .int) (by decide) (by decide))))
  have F38 := (((F11.other W19 (Or.inl ne_a1_oz7)).other W28 (Or.inl ne_a1_oz7)).other W33 (Or.inr (slot_ne (Or.inl (wd22 hw)) (Or.inl (wd39 hw)) (by decide) (t := (.array (.array .char))) (t' := .int) (by decide) (by decide))))
  have F39 := ((((r5.keep K7 (ninS ne_a1_ow (ninS ne_a1_on nin0))).other W19 (Or.inl ne_a1_oz7)).other W28 (Or.inl ne_a1_oz7)).other W33 (Or.inr (slot_ne (Or.inl (wd26 hw)) (Or.inl (wd39 hw)) (by decide) (t := (.array .int)) (t' := .int) (by decide) (by decide))))
  have F40 := ((((r6.keep K7 (ninS ne_a1_ow (ninS ne_a1_on nin0))).other W19 (Or.inl ne_a1_oz7)).other W28 (Or.inl ne_a1_oz7)).other W33 (Or.inr (slot_ne (Or.inr (wd28 hw)) (Or.inl (wd39 hw)) (by decide) (t := (.array .int)) (t' := .int) (by decide) (by decide))))
  have F41 := ((((r7.keep K7 (ninS ne_a1_ow (ninS ne_a1_on nin0))).other W19 (Or.inl ne_a1_oz7)).other W28 (Or.inl ne_a1_oz7)).other W33 (Or.inr (slot_ne (Or.inr (wd30 hw)) (Or.inl (wd39 hw)) (by decide) (t := (.array .int)) (t' := .int) (by decide) (by decide))))
  have F42 := ((F24.other W28 ne_ow_oz7).other W33 (Ne.symm ne_a1_ow))
  have F43 := (((f7_1.other W19 ne_on_oz7).other W28 ne_on_oz7).other W33 (Ne.symm ne_a1_on))
  have F44 := ((((r12.keep K7 (ninS (Ne.symm ne_ow_ob) (ninS (Ne.symm ne_on_ob) nin0))).other W19 ne_ob_oz7).other W28 ne_ob_oz7).other W33 (Ne.symm ne_a1_ob))
  have F45 := ((((r13.keep K7 (ninS (Ne.symm ne_ow_ol) (ninS (Ne.symm ne_on_ol) nin0))).other W19 ne_ol_oz7).other W28 ne_ol_oz7).other W33 (Ne.symm ne_a1_ol))
  have F46 := ((((r14.keep K7 (ninS (Ne.symm ne_ow_oh) (ninS (Ne.symm ne_on_oh) nin0))).other W19 ne_oh_oz7).other W28 ne_oh_oz7).other W33 (Ne.symm ne_a1_oh))
  have F47 := (V28.other W33 (Ne.symm ne_a1_oz7))
  obtain ⟨fs, hr, hrun, hended, hW, hsame⟩ := X33.leave (v := none) (fun _ => rfl)
  refine ⟨_, _, pre0 _ ?_, hrun, hended, _, _, rfl, ?_, ⟨_, rfl⟩, hW, hsame.mono (by decide) (by decide)⟩
  · show GG p e below s₁ (mkF m 0 #[vR a1, vR at_, .unset, .unset, .unset, .unset, .unset] []) _
    refine XS.aloadN X0.here hx rfl (bb d4_0) rfl rfl ?_
    refine st1 _ ?_
    show GG p e below T1 (mkF m 4 #[vR a1, vR at_, .unset, .unset, .unset, .unset, .unset] [(.int 1)]) _
    refine st2 _ ?_
    show GG p e below T2 (mkF m 7 #[vR a1, vR at_, .unset, .unset, .unset, .unset, .unset] [(.int 12), (.int 1)]) _
    refine XS.iushr X2.here hx rfl (bb d4_7) rfl ?_
    show GG p e below T2 (mkF m 8 #[vR a1, vR at_, .unset, .unset, .unset, .unset, .unset] [(.int 0)]) _
    refine XS.istoreN X2.here hx rfl (bb d4_8) rfl (l' := #[vR a1, vR at_, vI 0, .unset, .unset, .unset, .unset]) rfl ?_
    show GG p e below T2 (mkF m 9 #[vR a1, vR at_, vI 0, .unset, .unset, .unset, .unset] []) _
    refine XS.aloadN X2.here hx rfl (bb d4_9) rfl rfl ?_
    refine st3 _ ?_
    show GG p e below T3 (mkF m 13 #[vR a1, vR at_, vI 0, .unset, .unset, .unset, .unset] [(.int 1)]) _
    refine XS.sipush X3.here hx rfl (bb d4_13) ?_
    refine XS.iand X3.here hx rfl (bb d4_16) rfl ?_
    refine XS.istoreN X3.here hx rfl (bb d4_17) rfl (l' := #[vR a1, vR at_, vI 0, vI 1, .unset, .unset, .unset]) rfl ?_
    show GG p e below T3 (mkF m 18 #[vR a1, vR at_, vI 0, vI 1, .unset, .unset, .unset] []) _
    refine XS.iloadN X3.here hx rfl (bb d4_18) rfl ?_
    refine XS.ifYes X3.here hx rfl (pc0 := 19) (pc' := 28) rfl (bb d4_19) rfl ((if0 _ _).trans (feq (by decide : ¬ ((1 : Int32) = (0 : Int32)))).2) (by decide) (by decide) ?_
    show GG p e below T3 (mkF m 28 #[vR a1, vR at_, vI 0, vI 1, .unset, .unset, .unset] []) _
    refine XS.aloadN X3.here hx rfl (bb d4_28) rfl rfl ?_
    refine XS.iloadN X3.here hx rfl (bb d4_29) rfl ?_
    refine XS.iloadN X3.here hx rfl (bb d4_30) rfl ?_
    refine st4.trans ?_
    show GG p e below T4 (mkF m 34 #[vR a1, vR at_, vI 0, vI 1, .unset, .unset, .unset] []) _
    refine XS.aloadN X4.here hx rfl (bb d4_34) rfl rfl ?_
    refine st5 _ ?_
    show GG p e below T5 (mkF m 38 #[vR a1, vR at_, vI 0, vI 1, .unset, .unset, .unset] [(.ref on)]) _
    refine XS.iloadN X5.here hx rfl (bb d4_38) rfl ?_
    refine X5.aaload hx (j := (0 : Int32)) (v := (.ref ov)) (by rw [e5]; exact Ar6.1) (State.isArrayOf_alike hZ.alike Ar6.2.1) rfl Ar6.2.2 hin6 (vH6.at hin6 rfl) (g := (mkF m 39 #[vR a1, vR at_, vI 0, vI 1, .unset, .unset, .unset] [(.int 0), (.ref on)])) rfl rfl (bb d4_39) _ ?_
    show GG p e below T5 (mkF m 40 #[vR a1, vR at_, vI 0, vI 1, .unset, .unset, .unset] [(.ref ov)]) _
    refine XS.ifnullNo X5.here hx rfl (bb d4_40) rfl ?_
    show GG p e below T5 (mkF m 43 #[vR a1, vR at_, vI 0, vI 1, .unset, .unset, .unset] []) _
    refine XS.aloadN X5.here hx rfl (bb d4_43) rfl rfl ?_
    refine XS.iloadN X5.here hx rfl (bb d4_44) rfl ?_
    refine XS.iloadN X5.here hx rfl (bb d4_45) rfl ?_
    refine XS.aloadN X5.here hx rfl (bb d4_46) rfl rfl ?_
    show GG p e below T5 (mkF m 47 #[vR a1, vR at_, vI 0, vI 1, .unset, .unset, .unset] [(.ref at_), (.int 1), (.int 0), (.ref a1)]) _
    refine st7.trans ?_
    show GG p e below T7 (mkF m 50 #[vR a1, vR at_, vI 0, vI 1, .unset, .unset, .unset] []) _
    refine XS.iloadN X7.here hx rfl (bb d4_50) rfl ?_
    refine XS.aloadN X7.here hx rfl (bb d4_51) rfl rfl ?_
    refine st8 _ ?_
    show GG p e below T8 (mkF m 55 #[vR a1, vR at_, vI 0, vI 1, .unset, .unset, .unset] [(.int 2), (.int 1)]) _
    refine XS.imul X8.here hx rfl (bb d4_55) rfl ?_
    refine XS.istore X8.here hx rfl (bb d4_56) rfl (l' := #[vR a1, vR at_, vI 0, vI 1, vI 2, .unset, .unset]) rfl ?_
    show GG p e below T8 (mkF m 58 #[vR a1, vR at_, vI 0, vI 1, vI 2, .unset, .unset] []) _
    refine XS.aloadN X8.here hx rfl (bb d4_58) rfl rfl ?_
    refine st10 _ ?_
    show GG p e below T10 (mkF m 62 #[vR a1, vR at_, vI 0, vI 1, vI 2, .unset, .unset] [(.ref on)]) _
    refine XS.iloadN X10.here hx rfl (bb d4_62) rfl ?_
    refine X10.aaload hx (j := (0 : Int32)) (v := .null) (by rw [e10]; exact Ar12.1) (State.isArrayOf_alike hZ.alike Ar12.2.1) rfl Ar12.2.2 hin12 (vH12.at hin12 rfl) (g := (mkF m 63 #[vR a1, vR at_, vI 0, vI 1, vI 2, .unset, .unset] [(.int 0), (.ref on)])) rfl rfl (bb d4_63) _ ?_
    show GG p e below T10 (mkF m 64 #[vR a1, vR at_, vI 0, vI 1, vI 2, .unset, .unset] [.null]) _
    refine XS.astore X10.here hx rfl (bb d4_64) rfl rfl (l' := #[vR a1, vR at_, vI 0, vI 1, vI 2, .val .null, .unset]) rfl ?_
    show GG p e below T10 (mkF m 66 #[vR a1, vR at_, vI 0, vI 1, vI 2, .val .null, .unset] []) _
    refine XS.iconst X10.here hx rfl (bb d4_66) ?_
    refine XS.istore X10.here hx rfl (bb d4_67) rfl (l' := #[vR a1, vR at_, vI 0, vI 1, vI 2, .val .null, vI 0]) rfl ?_
    show GG p e below T10 (mkF m 69 #[vR a1, vR at_, vI 0, vI 1, vI 2, .val .null, vI 0] []) _
    refine XS.iload X10.here hx rfl (bb d4_69) rfl ?_
    refine XS.aloadN X10.here hx rfl (bb d4_71) rfl rfl ?_
    refine st13 _ ?_
    show GG p e below T13 (mkF m 75 #[vR a1, vR at_, vI 0, vI 1, vI 2, .val .null, vI 0] [(.int 2), (.int 0)]) _
    refine XS.icmpNo X13.here hx rfl (bb d4_75) rfl (tlt (by decide : (0 : Int32) < (2 : Int32))).2.1 ?_
    refine XS.aload X13.here hx rfl (bb d4_78) rfl rfl ?_
    refine XS.ifnullYes X13.here hx rfl (pc0 := 80) (pc' := 114) rfl (bb d4_80) rfl (by decide) (by decide) ?_
    show GG p e below T13 (mkF m 114 #[vR a1, vR at_, vI 0, vI 1, vI 2, .val .null, vI 0] []) _
    refine XS.aloadN X13.here hx rfl (bb d4_114) rfl rfl ?_
    refine st14 _ ?_
    show GG p e below T14 (mkF m 118 #[vR a1, vR at_, vI 0, vI 1, vI 2, .val .null, vI 0] [(.ref ow)]) _
    refine XS.iloadN X14.here hx rfl (bb d4_118) rfl ?_
    refine X14.aaload hx (j := (0 : Int32)) (v := (.ref oz7)) (by rw [e14]; exact Ar16.1) (State.isArrayOf_alike hZ.alike Ar16.2.1) rfl Ar16.2.2 hin16 (vH16.at hin16 rfl) (g := (mkF m 119 #[vR a1, vR at_, vI 0, vI 1, vI 2, .val .null, vI 0] [(.int 0), (.ref ow)])) rfl rfl (bb d4_119) _ ?_
    show GG p e below T14 (mkF m 120 #[vR a1, vR at_, vI 0, vI 1, vI 2, .val .null, vI 0] [(.ref oz7)]) _
    refine XS.iload X14.here hx rfl (bb d4_120) rfl ?_
    refine XS.iload X14.here hx rfl (bb d4_122) rfl ?_
    refine XS.iadd X14.here hx rfl (bb d4_124) rfl ?_
    refine XS.aloadN X14.here hx rfl (bb d4_125) rfl rfl ?_
    show GG p e below T14 (mkF m 126 #[vR a1, vR at_, vI 0, vI 1, vI 2, .val .null, vI 0] [(.ref at_), (.int 2), (.ref oz7)]) _
    refine XS.iload X14.here hx rfl (bb d4_126) rfl ?_
    refine X14.iaload hx (j := (0 : Int32)) (v := (.int et0)) (by rw [e14]; exact Ar18.1) (State.isArrayOf_alike hZ.alike Ar18.2.1) Ar18.2.2 hin18 (vH18.at hin18 rfl) (g := (mkF m 128 #[vR a1, vR at_, vI 0, vI 1, vI 2, .val .null, vI 0] [(.int 0), (.ref at_), (.int 2), (.ref oz7)])) rfl rfl (bb d4_128) _ ?_
    show GG p e below T14 (mkF m 129 #[vR a1, vR at_, vI 0, vI 1, vI 2, .val .null, vI 0] [(.int et0), (.int 2), (.ref oz7)]) _
    refine st19 _ ?_
    show GG p e below T19 (mkF m 130 #[vR a1, vR at_, vI 0, vI 1, vI 2, .val .null, vI 0] []) _
    refine XS.iinc X19.here hx rfl (bb d4_130) rfl (l' := #[vR a1, vR at_, vI 0, vI 1, vI 2, .val .null, vI 1]) rfl ?_
    show GG p e below T19 (mkF m 133 #[vR a1, vR at_, vI 0, vI 1, vI 2, .val .null, vI 1] []) _
    refine XS.goto X19.here hx rfl (pc0 := 133) (pc' := 69) rfl (bb d4_133) (by decide) (by decide) ?_
    refine XS.iload X19.here hx rfl (bb d4_69) rfl ?_
    refine XS.aloadN X19.here hx rfl (bb d4_71) rfl rfl ?_
    refine st20 _ ?_
    show GG p e below T20 (mkF m 75 #[vR a1, vR at_, vI 0, vI 1, vI 2, .val .null, vI 1] [(.int 2), (.int 1)]) _
    refine XS.icmpNo X20.here hx rfl (bb d4_75) rfl (tlt (by decide : (1 : Int32) < (2 : Int32))).2.1 ?_
    refine XS.aload X20.here hx rfl (bb d4_78) rfl rfl ?_
    refine XS.ifnullYes X20.here hx rfl (pc0 := 80) (pc' := 114) rfl (bb d4_80) rfl (by decide) (by decide) ?_
    show GG p e below T20 (mkF m 114 #[vR a1, vR at_, vI 0, vI 1, vI 2, .val .null, vI 1] []) _
    refine XS.aloadN X20.here hx rfl (bb d4_114) rfl rfl ?_
    refine st22 _ ?_
    show GG p e below T22 (mkF m 118 #[vR a1, vR at_, vI 0, vI 1, vI 2, .val .null, vI 1] [(.ref ow)]) _
    refine XS.iloadN X22.here hx rfl (bb d4_118) rfl ?_
    refine X22.aaload hx (j := (0 : Int32)) (v := (.ref oz7)) (by rw [e22]; exact Ar25.1) (State.isArrayOf_alike hZ.alike Ar25.2.1) rfl Ar25.2.2 hin25 (vH25.at hin25 rfl) (g := (mkF m 119 #[vR a1, vR at_, vI 0, vI 1, vI 2, .val .null, vI 1] [(.int 0), (.ref ow)])) rfl rfl (bb d4_119) _ ?_
    show GG p e below T22 (mkF m 120 #[vR a1, vR at_, vI 0, vI 1, vI 2, .val .null, vI 1] [(.ref oz7)]) _
    refine XS.iload X22.here hx rfl (bb d4_120) rfl ?_
    refine XS.iload X22.here hx rfl (bb d4_122) rfl ?_
    refine XS.iadd X22.here hx rfl (bb d4_124) rfl ?_
    refine XS.aloadN X22.here hx rfl (bb d4_125) rfl rfl ?_
    show GG p e below T22 (mkF m 126 #[vR a1, vR at_, vI 0, vI 1, vI 2, .val .null, vI 1] [(.ref at_), (.int 3), (.ref oz7)]) _
    refine XS.iload X22.here hx rfl (bb d4_126) rfl ?_
    refine X22.iaload hx (j := (1 : Int32)) (v := (.int et1)) (by rw [e22]; exact Ar27.1) (State.isArrayOf_alike hZ.alike Ar27.2.1) Ar27.2.2 hin27 (vH27.at hin27 rfl) (g := (mkF m 128 #[vR a1, vR at_, vI 0, vI 1, vI 2, .val .null, vI 1] [(.int 1), (.ref at_), (.int 3), (.ref oz7)])) rfl rfl (bb d4_128) _ ?_
    show GG p e below T22 (mkF m 129 #[vR a1, vR at_, vI 0, vI 1, vI 2, .val .null, vI 1] [(.int et1), (.int 3), (.ref oz7)]) _
    refine st28 _ ?_
    show GG p e below T28 (mkF m 130 #[vR a1, vR at_, vI 0, vI 1, vI 2, .val .null, vI 1] []) _
    refine XS.iinc X28.here hx rfl (bb d4_130) rfl (l' := #[vR a1, vR at_, vI 0, vI 1, vI 2, .val .null, vI 2]) rfl ?_
    show GG p e below T28 (mkF m 133 #[vR a1, vR at_, vI 0, vI 1, vI 2, .val .null, vI 2] []) _
    refine XS.goto X28.here hx rfl (pc0 := 133) (pc' := 69) rfl (bb d4_133) (by decide) (by decide) ?_
    refine XS.iload X28.here hx rfl (bb d4_69) rfl ?_
    refine XS.aloadN X28.here hx rfl (bb d4_71) rfl rfl ?_
    refine st29 _ ?_
    show GG p e below T29 (mkF m 75 #[vR a1, vR at_, vI 0, vI 1, vI 2, .val .null, vI 2] [(.int 2), (.int 2)]) _
    refine XS.icmpYes X29.here hx rfl (pc0 := 75) (pc' := 136) rfl (bb d4_75) rfl (flt (by decide : ¬ ((2 : Int32) < (2 : Int32)))).2.1 (by decide) (by decide) ?_
    show GG p e below T29 (mkF m 136 #[vR a1, vR at_, vI 0, vI 1, vI 2, .val .null, vI 2] []) _
    refine XS.aloadN X29.here hx rfl (bb d4_136) rfl rfl ?_
    refine XS.dup X29.here hx rfl (bb d4_137) rfl rfl ?_
    refine st31 _ ?_
    show GG p e below T31 (mkF m 141 #[vR a1, vR at_, vI 0, vI 1, vI 2, .val .null, vI 2] [(.int 1), (.ref a1)]) _
    refine XS.iconst X31.here hx rfl (bb d4_141) ?_
    refine XS.iadd X31.here hx rfl (bb d4_142) rfl ?_
    refine st33 _ ?_
    show GG p e below T33 (mkF m 146 #[vR a1, vR at_, vI 0, vI 1, vI 2, .val .null, vI 2] []) _
    exact X33.returnOut hx Bd.returns (bb d4_146) hr
  · show Q_add2W1 Z a1 at_ ow on ob ol oh ov kw_ kn_ kb_ kl_ kh_ kv_ eb0 eb1 el0 el1 eu0 eu1 ev0_0 ev0_1 ex2 ex3 ex4 ex5 ex6 ex7 ex8 ex9 ex10 ex11 ex12 ex13 ex14 ex15 kt_ et0 et1 h0 n0 _ T33.heap _
    rw [e33]
    exact ⟨oz7, kz_7, rfl, N33, (((((Keep.refl h0 [a1, ow, on]).trans K7 (allS (Or.inl (List.mem_of_getElem? (i := 1) rfl)) (allS (Or.inl (List.mem_of_getElem? (i := 2) rfl)) all0))).wr W19 (Or.inr sz_oz7)).wr W28 (Or.inr sz_oz7)).wr W33 (Or.inl (List.mem_of_getElem? (i := 0) rfl))), sz_oz7, F35, F36, Fw33, F37, F38, F39, F40, F41, F42, r9, F43, r11, F44, F45, F46, F47⟩
def Q_add2W2 (Z : State) (a1 at_ ow on ob ol oh ov : Addr) (kw_ kn_ kb_ kl_ kh_ kv_ : ClassId) (eb0 eb1 el0 el1 eu0 eu1 ev0_0 ev0_1 ev1_0 ev1_1 ex4 ex5 ex6 ex7 ex8 ex9 ex10 ex11 ex12 ex13 ex14 ex15 : Int32) (kt_ : ClassId) (et0 et1 : Int32) (h0 : Heap) (n0 : Nat) (v : Option Value) (h : Heap) (L : List Loc) : Prop := ∃ (oz : Addr) (kz_ : ClassId), v = none ∧ Fr n0 L ∧ Keep h0 h [a1, ow, on] ∧ h0.size ≤ oz ∧ Exa Z h a1 cRV ∧ Fld Z h a1 cRV "arity" "I" (.int 2) ∧ Fld Z h a1 cRV "rows" "I" (.int 3) ∧ Fld Z h a1 cRV "wide" "[[I" (.ref ow) ∧ Fld Z h a1 cRV "narrow" "[[C" (.ref on) ∧ Fld Z h a1 cRV "bases" "[I" (.ref ob) ∧ Fld Z h a1 cRV "lowest" "[I" (.ref ol) ∧ Fld Z h a1 cRV "highest" "[I" (.ref oh) ∧ Arv Z h ow kw_ (.array .int) (1 : Int32) [(.ref oz)] .null ∧ OvrA Z kw_ .int "[I" ∧ Arv Z h on kn_ (.array .char) (1 : Int32) [.null] .null ∧ OvrA Z kn_ .char "[C" ∧ Arv Z h ob kb_ .int (2 : Int32) [(.int eb0), (.int eb1)] (.int 0) ∧ Arv Z h ol kl_ .int (2 : Int32) [(.int el0), (.int el1)] (.int 0) ∧ Arv Z h oh kh_ .int (2 : Int32) [(.int eu0), (.int eu1)] (.int 0) ∧ Arv Z h oz kz_ .int (16 : Int32) [(.int ev0_0), (.int ev0_1), (.int ev1_0), (.int ev1_1), (.int et0), (.int et1), (.int (0 : Int32)), (.int (0 : Int32)), (.int (0 : Int32)), (.int (0 : Int32)), (.int (0 : Int32)), (.int (0 : Int32)), (.int (0 : Int32)), (.int (0 : Int32)), (.int (0 : Int32)), (.int (0 : Int32))] (.int 0)
set_option maxRecDepth 65536 in
set_option maxHeartbeats 40000000 in
theorem rm_add2W2 (l : Launch) (Z : State) (a0 : Array Value) (hw : ∀ d ∈ tables_1, d.before a0 Z = true) (ws : List Jvm.Cond) (a1 at_ ow on ob ol oh ov : Addr) (kw_ kn_ kb_ kl_ kh_ kv_ : ClassId) (eb0 eb1 el0 el1 eu0 eu1 ev0_0 ev0_1 ev1_0 ev1_1 ex4 ex5 ex6 ex7 ex8 ex9 ex10 ex11 ex12 ex13 ex14 ex15 : Int32) (kt_ : ClassId) (et0 et1 : Int32) (h0 : Heap) (n0 : Nat) (Z0 : n0 ≤ h0.size) (O0 : Old Z n0 h0) (S_CS : Sta Z Z.heap cRV "CHUNK_SHIFT" "I" (.int (12 : Int32))) (r0 : Exa Z h0 a1 cRV) (r1 : Fld Z h0 a1 cRV "arity" "I" (.int 2)) (r2 : Fld Z h0 a1 cRV "rows" "I" (.int 2)) (r3 : Fld Z h0 a1 cRV "wide" "[[I" (.ref ow)) (r4 : Fld Z h0 a1 cRV "narrow" "[[C" (.ref on)) (r5 : Fld Z h0 a1 cRV "bases" "[I" (.ref ob)) (r6 : Fld Z h0 a1 cRV "lowest" "[I" (.ref ol)) (r7 : Fld Z h0 a1 cRV "highest" "[I" (.ref oh)) (r8 : Arv Z h0 ow kw_ (.array .int) (1 : Int32) [.null] .null) (r9 : OvrA Z kw_ .int "[I") (r10 : Arv Z h0 on kn_ (.array .char) (1 : Int32) [(.ref ov)] .null) (r11 : OvrA Z kn_ .char "[C") (r12 : Arv Z h0 ob kb_ .int (2 : Int32) [(.int eb0), (.int eb1)] (.int 0)) (r13 : Arv Z h0 ol kl_ .int (2 : Int32) [(.int el0), (.int el1)] (.int 0)) (r14 : Arv Z h0 oh kh_ .int (2 : Int32) [(.int eu0), (.int eu1)] (.int 0)) (r15 : Arv Z h0 ov kv_ .char (16 : Int32) [(.int (nar .char (ev0_0 - eb0))), (.int (nar .char (ev0_1 - eb1))), (.int (nar .char (ev1_0 - eb0))), (.int (nar .char (ev1_1 - eb1))), (.int ex4), (.int ex5), (.int ex6), (.int ex7), (.int ex8), (.int ex9), (.int ex10), (.int ex11), (.int ex12), (.int ex13), (.int ex14), (.int ex15)] (.int 0)) (r16 : Arv Z h0 at_ kt_ .int (2 : Int32) [(.int et0), (.int et1)] (.int 0)) (g_a1 : n0 ≤ a1) (g_ow : n0 ≤ ow) (g_on : n0 ≤ on) (ne_a1_ow : a1 ≠ ow) (ne_a1_on : a1 ≠ on) (ne_a1_ob : a1 ≠ ob) (ne_a1_ol : a1 ≠ ol) (ne_a1_oh : a1 ≠ oh) (ne_a1_ov : a1 ≠ ov) (ne_ow_on : ow ≠ on) (ne_ow_ob : ow ≠ ob) (ne_ow_ol : ow ≠ ol) (ne_ow_oh : ow ≠ oh) (ne_ow_ov : ow ≠ ov) (ne_on_ob : on ≠ ob) (ne_on_ol : on ≠ ol) (ne_on_oh : on ≠ oh) (ne_on_ov : on ≠ ov) (ne_ob_ol : ob ≠ ol) (ne_ob_oh : ob ≠ oh) (ne_ob_ov : ob ≠ ov) (ne_ol_oh : ol ≠ oh) (ne_ol_ov : ol ≠ ov) (ne_oh_ov : oh ≠ ov) (ne_at__a1 : at_ ≠ a1) (ne_at__ow : at_ ≠ ow) (ne_at__on : at_ ≠ on) (ne_at__ob : at_ ≠ ob) (ne_at__ol : at_ ≠ ol) (ne_at__oh : at_ ≠ oh) (ne_at__ov : at_ ≠ ov) (hIn0_0 : ownIn eb0 ev0_0) (hIn0_1 : ownIn eb1 ev0_1) (hIn1_0 : ownIn eb0 ev1_0) (hIn1_1 : ownIn eb1 ev1_1) (hWd : ¬ (((lcmpW (((f_maxI et0 eu0).toInt64) - ((f_minI et0 el0).toInt64)) (65536 : Int64)) < (0 : Int32)) ∧ ((lcmpW (((f_maxI et1 eu1).toInt64) - ((f_minI et1 el1).toInt64)) (65536 : Int64)) < (0 : Int32)))) :
    MetFree l (⟨cRV, "add", "([I)V"⟩ : MethodName) (head1 (Jvm.Cond.code (⟨cRV, "add", "([I)V"⟩ : MethodName) prog_47_method_4_code 7 none :: ws) ({ frames := 3, cells := 1, slots := 16, locals := 58 } : Room)) (fun a U => a = #[(.ref a1), (.ref at_)] ∧ Z.Warmed39 U.vm ∧ U.heap = h0) (fun _ _ _ _ _ => True) (fun _ U o U' => ∃ v L, o = .returned v ∧ Q_add2W2 Z a1 at_ ow on ob ol oh ov kw_ kn_ kb_ kl_ kh_ kv_ eb0 eb1 el0 el1 eu0 eu1 ev0_0 ev0_1 ev1_0 ev1_1 ex4 ex5 ex6 ex7 ex8 ex9 ex10 ex11 ex12 ex13 ex14 ex15 kt_ et0 et1 h0 n0 v U'.heap L ∧ FrameEnd U o U' L ({ frames := 3, cells := 1, slots := 16, locals := 58 } : Room).cells ({ frames := 3, cells := 1, slots := 16, locals := 58 } : Room).slots) := by
  refine MetFree.of_bodySF (plainFor_of_name pn_RowValues) hisR ?_
  intro p e s m args below meth c s₁ Bd hml0 hP hK
  obtain ⟨rfl, hZ, hh⟩ := hP
  have hx := Bd.exec
  have hby := Bd.bytes
  have bb := fun {pc : Nat} {r : Except DecodeError (Instr × Nat)} (h : decode prog_47_method_4_code pc = r) => hb hby h
  have hml : c.maxLocals = 7 := hml0
  have hown : s.vm.findClass cRV = some m.cls := findClass_of_methodNamed Bd.named
  have hnm := (name_of_methodNamed Bd.named Bd.method).1
  have X0 : Stand p l e ({ frames := 3, cells := 1, slots := 16, locals := 58 } : Room) s m #[(.ref a1), (.ref at_)] below meth c s₁ [] 0 0 := Stand.of_body Bd
  have e0 : s₁.heap = h0 := by rw [← hh, Bd.state]; rfl
  have N0 := Fr.nil n0
  have pre0 : ∀ t, Steps p.tables e below (s₁.setTop (mkF m 0 #[vR a1, vR at_, .unset, .unset, .unset, .unset, .unset] [])) t → Steps p.tables e below (s₁.setTop (entryFrame m #[(.ref a1), (.ref at_)] 7)) t := fun t k => castTop (ef_add2W2 m a1 at_) k
  obtain ⟨T1, X1, e1, st1⟩ := getF X0 hx hZ hown (host := "") (Or.inl (wd38 hw)) Via.refl e0 r2 (g := (mkF m 1 #[vR a1, vR at_, .unset, .unset, .unset, .unset, .unset] [(.ref a1)])) rfl rfl (bb d4_1)
  obtain ⟨T2, X2, e2, st2⟩ := getS2 X1 hx hZ hown (host := "") (Or.inl (wd40 hw)) Via.refl e1 (S_CS.ext O0.2) (g := (mkF m 4 #[vR a1, vR at_, .unset, .unset, .unset, .unset, .unset] [(.int 2)])) rfl (bb d4_4)
  obtain ⟨T3, X3, e3, st3⟩ := getF X2 hx hZ hown (host := "") (Or.inl (wd38 hw)) Via.refl e2 r2 (g := (mkF m 10 #[vR a1, vR at_, vI 0, .unset, .unset, .unset, .unset] [(.ref a1)])) rfl rfl (bb d4_10)
  obtain ⟨cq4, q4, q4'⟩ := (r0).cell
  obtain ⟨_, _, ⟨T4, L4, k4, n4⟩, -, X4, ⟨Lc4, hQ4, l4, y4, z4⟩, st4⟩ := X3.privateBack hx (y := (⟨cRV, "makeRoom", "(II)V"⟩ : MethodName)) hown (mvT hZ (wd60 hw)) (mvT hZ (wd61 hw)) (own_sel (mvT hZ (wd7 hw)) (mvT hZ (wd61 hw)) (mvP hZ (wd62 hw)) (by decide)) (Cond.privateMethod_at (mvP hZ (wd62 hw) (args := #[]))) (mvT hZ (wd63 hw)) (by decide) (backOf (W := 0) (rm_room2N2 l Z a0 hw [] a1 ow on ob ol oh ov kw_ kn_ kb_ kl_ kh_ kv_ eb0 eb1 el0 el1 eu0 eu1 ev0_0 ev0_1 ev1_0 ev1_1 ex4 ex5 ex6 ex7 ex8 ex9 ex10 ex11 ex12 ex13 ex14 ex15 h0 n0 (own_z0 O0) O0 S_CS r0 r1 r3 r4 r8 r10 r15) hZ (wd63 hw) (wd8 hw) (by decide) (by decide)) (g := (mkF m 31 #[vR a1, vR at_, vI 0, vI 2, .unset, .unset, .unset] [(.int 2), (.int 0), (.ref a1)])) rfl (by rw [hml]; rfl) (Steps.refl _) (a := a1) (by rw [e3]; exact q4) q4' (argsL := [(.int 0), (.int 2)]) (rest := []) (lenOf pd__II_V_5 rfl) rfl (by show 2 * 0 + _ ≤ _; exact Nat.le_of_eq rfl) (bb d4_31) (fun _ _ => ⟨rfl, e3, (by decide : 0 + 0 ≤ _), (by decide : 0 + 0 ≤ _)⟩)
  dsimp only [Pt.U, Pt.locs, Pt.cells, Pt.slots] at X4 l4 y4 z4 st4 hQ4
  subst l4 y4 z4
  obtain ⟨rfl, N4q, e4⟩ := hQ4
  have N4 := Fr.app N0 N4q
  obtain ⟨T5, X5, e5, st5⟩ := getF X4 hx hZ hown (host := "") (Or.inl (wd21 hw)) Via.refl e4 r4 (g := (mkF m 35 #[vR a1, vR at_, vI 0, vI 2, .unset, .unset, .unset] [(.ref a1)])) rfl rfl (bb d4_35)
  obtain ⟨cl6, Ar6, vq6, vS6, vN6, vH6, vG6⟩ := id r10
  have hin6 : ¬ (((0 : Int32) : Int32) < 0 ∨ cl6.slots.size ≤ ((0 : Int32) : Int32).toNatClampNeg) := inb_of vS6 ⟨by decide, by decide⟩
  obtain ⟨cq7, q7, q7'⟩ := (r0).cell
  obtain ⟨_, _, ⟨T7, L7, k7, n7⟩, -, X7, ⟨Lc7, hQ7, l7, y7, z7⟩, st7⟩ := X5.privateBack hx (y := (⟨cRV, "fit", "(II[I)V"⟩ : MethodName)) hown (mvT hZ (wd67 hw)) (mvT hZ (wd68 hw)) (own_sel (mvT hZ (wd7 hw)) (mvT hZ (wd68 hw)) (mvP hZ (wd69 hw)) (by decide)) (Cond.privateMethod_at (mvP hZ (wd69 hw) (args := #[]))) (mvT hZ (wd70 hw)) (by decide) (backOf (W := 0) (rm_fitW2_2 l Z a0 hw [] a1 at_ ow on ob ol oh ov kw_ kn_ kb_ kl_ kh_ kv_ eb0 eb1 el0 el1 eu0 eu1 ev0_0 ev0_1 ev1_0 ev1_1 ex4 ex5 ex6 ex7 ex8 ex9 ex10 ex11 ex12 ex13 ex14 ex15 kt_ et0 et1 h0 n0 (own_z0 O0) O0 S_CS r0 r1 r2 r3 r4 r5 r6 r7 r8 r9 r10 r11 r12 r13 r14 r15 r16 g_ow g_on ne_a1_ow ne_a1_on ne_a1_ob ne_a1_ol ne_a1_oh ne_a1_ov ne_ow_on ne_ow_ob ne_ow_ol ne_ow_oh ne_ow_ov ne_on_ob ne_on_ol ne_on_oh ne_on_ov ne_ob_ol ne_ob_oh ne_ob_ov ne_ol_oh ne_ol_ov ne_oh_ov ne_at__a1 ne_at__ow ne_at__on ne_at__ob ne_at__ol ne_at__oh ne_at__ov hIn0_0 hIn0_1 hIn1_0 hIn1_1 hWd) hZ (wd70 hw) (wd8 hw) (by decide) (by decide)) (g := (mkF m 47 #[vR a1, vR at_, vI 0, vI 2, .unset, .unset, .unset] [(.ref at_), (.int 2), (.int 0), (.ref a1)])) rfl (by rw [hml]; rfl) (Steps.refl _) (a := a1) (by rw [e5]; exact q7) q7' (argsL := [(.int 0), (.int 2), (.ref at_)]) (rest := []) (lenOf pd__II_I_V_7 rfl) rfl (by show 2 * 0 + _ ≤ _; exact Nat.le_of_eq rfl) (bb d4_47) (fun _ _ => ⟨rfl, e5, (by decide : 0 + 1 ≤ _), (by decide : 0 + 16 ≤ _)⟩)
  dsimp only [Pt.U, Pt.locs, Pt.cells, Pt.slots] at X7 l7 y7 z7 st7 hQ7
  subst l7 y7 z7
  obtain ⟨oz7, kz_7, rfl, N7q, K7, szz_oz7, f7_0, f7_1, f7_2⟩ := hQ7
  have N7 := Fr.app N4 N7q
  have g_oz7 : n0 ≤ oz7 := Nat.le_trans (own_z0 O0) szz_oz7
  have sz_oz7 : h0.size ≤ oz7 := Nat.le_trans (Nat.le_refl _) szz_oz7
  have ne_a1_oz7 : a1 ≠ oz7 := Nat.ne_of_lt (Nat.lt_of_lt_of_le r0.lt szz_oz7)
  have ne_ow_oz7 : ow ≠ oz7 := Nat.ne_of_lt (Nat.lt_of_lt_of_le r8.lt szz_oz7)
  have ne_on_oz7 : on ≠ oz7 := Nat.ne_of_lt (Nat.lt_of_lt_of_le r10.lt szz_oz7)
  have ne_ob_oz7 : ob ≠ oz7 := Nat.ne_of_lt (Nat.lt_of_lt_of_le r12.lt szz_oz7)
  have ne_ol_oz7 : ol ≠ oz7 := Nat.ne_of_lt (Nat.lt_of_lt_of_le r13.lt szz_oz7)
  have ne_oh_oz7 : oh ≠ oz7 := Nat.ne_of_lt (Nat.lt_of_lt_of_le r14.lt szz_oz7)
  have ne_ov_oz7 : ov ≠ oz7 := Nat.ne_of_lt (Nat.lt_of_lt_of_le r15.lt szz_oz7)
  have ne_at__oz7 : at_ ≠ oz7 := Nat.ne_of_lt (Nat.lt_of_lt_of_le r16.lt szz_oz7)
  have F9 := (r1.keep K7 (ninS ne_a1_ow (ninS ne_a1_on nin0)))
  obtain ⟨T8, X8, e8, st8⟩ := getF X7 hx hZ hown (host := "") (Or.inl (wd23 hw)) Via.refl rfl F9 (g := (mkF m 52 #[vR a1, vR at_, vI 0, vI 2, .unset, .unset, .unset] [(.ref a1), (.int 2)])) rfl rfl (bb d4_52)
  have F11 := (r4.keep K7 (ninS ne_a1_ow (ninS ne_a1_on nin0)))
  obtain ⟨T10, X10, e10, st10⟩ := getF X8 hx hZ hown (host := "") (Or.inl (wd21 hw)) Via.refl e8 F11 (g := (mkF m 59 #[vR a1, vR at_, vI 0, vI 2, vI 4, .unset, .unset] [(.ref a1)])) rfl rfl (bb d4_59)
  obtain ⟨cl12, Ar12, vq12, vS12, vN12, vH12, vG12⟩ := id f7_1
  have hin12 : ¬ (((0 : Int32) : Int32) < 0 ∨ cl12.slots.size ≤ ((0 : Int32) : Int32).toNatClampNeg) := inb_of vS12 ⟨by decide, by decide⟩
  obtain ⟨T13, X13, e13, st13⟩ := getF X10 hx hZ hown (host := "") (Or.inl (wd23 hw)) Via.refl e10 F9 (g := (mkF m 72 #[vR a1, vR at_, vI 0, vI 2, vI 4, .val .null, vI 0] [(.ref a1), (.int 0)])) rfl rfl (bb d4_72)
  have F15 := (r3.keep K7 (ninS ne_a1_ow (ninS ne_a1_on nin0)))
  obtain ⟨T14, X14, e14, st14⟩ := getF X13 hx hZ hown (host := "") (Or.inl (wd17 hw)) Via.refl e13 F15 (g := (mkF m 115 #[vR a1, vR at_, vI 0, vI 2, vI 4, .val .null, vI 0] [(.ref a1)])) rfl rfl (bb d4_115)
  obtain ⟨cl16, Ar16, vq16, vS16, vN16, vH16, vG16⟩ := id f7_0
  have hin16 : ¬ (((0 : Int32) : Int32) < 0 ∨ cl16.slots.size ≤ ((0 : Int32) : Int32).toNatClampNeg) := inb_of vS16 ⟨by decide, by decide⟩
  have F17 := (r16.keep K7 (ninS ne_at__ow (ninS ne_at__on nin0)))
  obtain ⟨cl18, Ar18, vq18, vS18, vN18, vH18, vG18⟩ := id F17
  have hin18 : ¬ (((0 : Int32) : Int32) < 0 ∨ cl18.slots.size ≤ ((0 : Int32) : Int32).toNatClampNeg) := inb_of vS18 ⟨by decide, by decide⟩
  obtain ⟨cl19, Ar19, vq19, vS19, vN19, vH19, vG19⟩ := id f7_2
  have hin19 : ¬ (((4 : Int32) : Int32) < 0 ∨ cl19.slots.size ≤ ((4 : Int32) : Int32).toNatClampNeg) := inb_of vS19 ⟨by decide, by decide⟩
  obtain ⟨T19, h19, X19, e19, W19, st19⟩ := stI X14 hx hZ e14 Ar19 (j := (4 : Int32)) hin19 (g := (mkF m 129 #[vR a1, vR at_, vI 0, vI 2, vI 4, .val .null, vI 0] [(.int et0), (.int 4), (.ref oz7)])) rfl rfl (bb d4_129)
  have V19 : Arv Z h19 oz7 kz_7 .int (16 : Int32) [(.int ev0_0), (.int ev0_1), (.int ev1_0), (.int ev1_1), (.int et0), (.int 0), (.int 0), (.int 0), (.int 0), (.int 0), (.int 0), (.int 0), (.int 0), (.int 0), (.int 0), (.int 0)] (.int 0) := Arv.set Ar19 vq19 vS19 vN19 vH19 vG19 rfl W19 4 rfl (Nat.le_of_ble_eq_true rfl)
  have N19 := Fr.snoc X19 N7 g_oz7
  have F21 := (F9.other W19 (Or.inl ne_a1_oz7))
  obtain ⟨T20, X20, e20, st20⟩ := getF X19 hx hZ hown (host := "") (Or.inl (wd23 hw)) Via.refl e19 F21 (g := (mkF m 72 #[vR a1, vR at_, vI 0, vI 2, vI 4, .val .null, vI 1] [(.ref a1), (.int 1)])) rfl rfl (bb d4_72)
  have F23 := (F15.other W19 (Or.inl ne_a1_oz7))
  obtain ⟨T22, X22, e22, st22⟩ := getF X20 hx hZ hown (host := "") (Or.inl (wd17 hw)) Via.refl e20 F23 (g := (mkF m 115 #[vR a1, vR at_, vI 0, vI 2, vI 4, .val .null, vI 1] [(.ref a1)])) rfl rfl (bb d4_115)
  have F24 := (f7_0.other W19 ne_ow_oz7)
  obtain ⟨cl25, Ar25, vq25, vS25, vN25, vH25, vG25⟩ := id F24
  have hin25 : ¬ (((0 : Int32) : Int32) < 0 ∨ cl25.slots.size ≤ ((0 : Int32) : Int32).toNatClampNeg) := inb_of vS25 ⟨by decide, by decide⟩
  have F26 := (F17.other W19 ne_at__oz7)
  obtain ⟨cl27, Ar27, vq27, vS27, vN27, vH27, vG27⟩ := id F26
  have hin27 : ¬ (((1 : Int32) : Int32) < 0 ∨ cl27.slots.size ≤ ((1 : Int32) : Int32).toNatClampNeg) := inb_of vS27 ⟨by decide, by decide⟩
  obtain ⟨cl28, Ar28, vq28, vS28, vN28, vH28, vG28⟩ := id V19
  have hin28 : ¬ (((5 : Int32) : Int32) < 0 ∨ cl28.slots.size ≤ ((5 : Int32) : Int32).toNatClampNeg) := inb_of vS28 ⟨by decide, by decide⟩
  obtain ⟨T28, h28, X28, e28, W28, st28⟩ := stI X22 hx hZ e22 Ar28 (j := (5 : Int32)) hin28 (g := (mkF m 129 #[vR a1, vR at_, vI 0, vI 2, vI 4, .val .null, vI 1] [(.int et1), (.int 5), (.ref oz7)])) rfl rfl (bb d4_129)
  have V28 : Arv Z h28 oz7 kz_7 .int (16 : Int32) [(.int ev0_0), (.int ev0_1), (.int ev1_0), (.int ev1_1), (.int et0), (.int et1), (.int 0), (.int 0), (.int 0), (.int 0), (.int 0), (.int 0), (.int 0), (.int 0), (.int 0), (.int 0)] (.int 0) := Arv.set Ar28 vq28 vS28 vN28 vH28 vG28 rfl W28 5 rfl (Nat.le_of_ble_eq_true rfl)
  have N28 := Fr.snoc X28 N19 g_oz7
  have F30 := (F21.other W28 (Or.inl ne_a1_oz7))
  obtain ⟨T29, X29, e29, st29⟩ := getF X28 hx hZ hown (host := "") (Or.inl (wd23 hw)) Via.refl e28 F30 (g := (mkF m 72 #[vR a1, vR at_, vI 0, vI 2, vI 4, .val .null, vI 2] [(.ref a1), (.int 2)])) rfl rfl (bb d4_72)
  have F32 := (((r2.keep K7 (ninS ne_a1_ow (ninS ne_a1_on nin0))).other W19 (Or.inl ne_a1_oz7)).other W28 (Or.inl ne_a1_oz7))
  obtain ⟨T31, X31, e31, st31⟩ := getF X29 hx hZ hown (host := "") (Or.inl (wd38 hw)) Via.refl e29 F32 (g := (mkF m 138 #[vR a1, vR at_, vI 0, vI 2, vI 4, .val .null, vI 2] [(.ref a1), (.ref a1)])) rfl rfl (bb d4_138)
  have F34 := (((r0.keep K7).wr W19).wr W28)
  obtain ⟨T33, h33, X33, e33, W33, st33⟩ := putF X31 hx hZ hown (host := "") (Or.inl (wd38 hw)) Via.refl e31 F32 F34 (Or.inl (wd39 hw)) (wd7 hw) (ty := .int) (by decide) rfl rfl (g := (mkF m 143 #[vR a1, vR at_, vI 0, vI 2, vI 4, .val .null, vI 2] [(.int 3), (.ref a1)])) rfl rfl (bb d4_143)
  have Fw33 := F32.same W33
  have N33 := Fr.snoc X33 N28 g_a1
  have F35 := (F34.wr W33)
  have F36 := (F30.other W33 (Or.inr (slot_ne (Or.inr (wd24 hw)) (Or.inl (wd39 hw)) (by decide) (t := .int) (t' := .int) (by decide) (by decide))))
  have F37 := ((F23.other W28 (Or.inl ne_a1_oz7)).other W33 (Or.inr (slot_ne (Or.inl (wd18 hw)) (Or.inl (wd39 hw)) (by decide) (t := (.array (.array .int))) (t' := .int) (by decide) (by decide))))
  have F38 := (((F11.other W19 (Or.inl ne_a1_oz7)).other W28 (Or.inl ne_a1_oz7)).other W33 (Or.inr (slot_ne (Or.inl (wd22 hw)) (Or.inl (wd39 hw)) (by decide) (t := (.array (.array .char))) (t' := .int) (by decide) (by decide))))
  have F39 := ((((r5.keep K7 (ninS ne_a1_ow (ninS ne_a1_on nin0))).other W19 (Or.inl ne_a1_oz7)).other W28 (Or.inl ne_a1_oz7)).other W33 (Or.inr (slot_ne (Or.inl (wd26 hw)) (Or.inl (wd39 hw)) (by decide) (t := (.array .int)) (t' := .int) (by decide) (by decide))))
  have F40 := ((((r6.keep K7 (ninS ne_a1_ow (ninS ne_a1_on nin0))).other W19 (Or.inl ne_a1_oz7)).other W28 (Or.inl ne_a1_oz7)).other W33 (Or.inr (slot_ne (Or.inr (wd28 hw)) (Or.inl (wd39 hw)) (by decide) (t := (.array .int)) (t' := .int) (by decide) (by decide))))
  have F41 := ((((r7.keep K7 (ninS ne_a1_ow (ninS ne_a1_on nin0))).other W19 (Or.inl ne_a1_oz7)).other W28 (Or.inl ne_a1_oz7)).other W33 (Or.inr (slot_ne (Or.inr (wd30 hw)) (Or.inl (wd39 hw)) (by decide) (t := (.array .int)) (t' := .int) (by decide) (by decide))))
  have F42 := ((F24.other W28 ne_ow_oz7).other W33 (Ne.symm ne_a1_ow))
  have F43 := (((f7_1.other W19 ne_on_oz7).other W28 ne_on_oz7).other W33 (Ne.symm ne_a1_on))
  have F44 := ((((r12.keep K7 (ninS (Ne.symm ne_ow_ob) (ninS (Ne.symm ne_on_ob) nin0))).other W19 ne_ob_oz7).other W28 ne_ob_oz7).other W33 (Ne.symm ne_a1_ob))
  have F45 := ((((r13.keep K7 (ninS (Ne.symm ne_ow_ol) (ninS (Ne.symm ne_on_ol) nin0))).other W19 ne_ol_oz7).other W28 ne_ol_oz7).other W33 (Ne.symm ne_a1_ol))
  have F46 := ((((r14.keep K7 (ninS (Ne.symm ne_ow_oh) (ninS (Ne.symm ne_on_oh) nin0))).other W19 ne_oh_oz7).other W28 ne_oh_oz7).other W33 (Ne.symm ne_a1_oh))
  have F47 := (V28.other W33 (Ne.symm ne_a1_oz7))
  obtain ⟨fs, hr, hrun, hended, hW, hsame⟩ := X33.leave (v := none) (fun _ => rfl)
  refine ⟨_, _, pre0 _ ?_, hrun, hended, _, _, rfl, ?_, ⟨_, rfl⟩, hW, hsame.mono (by decide) (by decide)⟩
  · show GG p e below s₁ (mkF m 0 #[vR a1, vR at_, .unset, .unset, .unset, .unset, .unset] []) _
    refine XS.aloadN X0.here hx rfl (bb d4_0) rfl rfl ?_
    refine st1 _ ?_
    show GG p e below T1 (mkF m 4 #[vR a1, vR at_, .unset, .unset, .unset, .unset, .unset] [(.int 2)]) _
    refine st2 _ ?_
    show GG p e below T2 (mkF m 7 #[vR a1, vR at_, .unset, .unset, .unset, .unset, .unset] [(.int 12), (.int 2)]) _
    refine XS.iushr X2.here hx rfl (bb d4_7) rfl ?_
    show GG p e below T2 (mkF m 8 #[vR a1, vR at_, .unset, .unset, .unset, .unset, .unset] [(.int 0)]) _
    refine XS.istoreN X2.here hx rfl (bb d4_8) rfl (l' := #[vR a1, vR at_, vI 0, .unset, .unset, .unset, .unset]) rfl ?_
    show GG p e below T2 (mkF m 9 #[vR a1, vR at_, vI 0, .unset, .unset, .unset, .unset] []) _
    refine XS.aloadN X2.here hx rfl (bb d4_9) rfl rfl ?_
    refine st3 _ ?_
    show GG p e below T3 (mkF m 13 #[vR a1, vR at_, vI 0, .unset, .unset, .unset, .unset] [(.int 2)]) _
    refine XS.sipush X3.here hx rfl (bb d4_13) ?_
    refine XS.iand X3.here hx rfl (bb d4_16) rfl ?_
    refine XS.istoreN X3.here hx rfl (bb d4_17) rfl (l' := #[vR a1, vR at_, vI 0, vI 2, .unset, .unset, .unset]) rfl ?_
    show GG p e below T3 (mkF m 18 #[vR a1, vR at_, vI 0, vI 2, .unset, .unset, .unset] []) _
    refine XS.iloadN X3.here hx rfl (bb d4_18) rfl ?_
    refine XS.ifYes X3.here hx rfl (pc0 := 19) (pc' := 28) rfl (bb d4_19) rfl ((if0 _ _).trans (feq (by decide : ¬ ((2 : Int32) = (0 : Int32)))).2) (by decide) (by decide) ?_
    show GG p e below T3 (mkF m 28 #[vR a1, vR at_, vI 0, vI 2, .unset, .unset, .unset] []) _
    refine XS.aloadN X3.here hx rfl (bb d4_28) rfl rfl ?_
    refine XS.iloadN X3.here hx rfl (bb d4_29) rfl ?_
    refine XS.iloadN X3.here hx rfl (bb d4_30) rfl ?_
    refine st4.trans ?_
    show GG p e below T4 (mkF m 34 #[vR a1, vR at_, vI 0, vI 2, .unset, .unset, .unset] []) _
    refine XS.aloadN X4.here hx rfl (bb d4_34) rfl rfl ?_
    refine st5 _ ?_
    show GG p e below T5 (mkF m 38 #[vR a1, vR at_, vI 0, vI 2, .unset, .unset, .unset] [(.ref on)]) _
    refine XS.iloadN X5.here hx rfl (bb d4_38) rfl ?_
    refine X5.aaload hx (j := (0 : Int32)) (v := (.ref ov)) (by rw [e5]; exact Ar6.1) (State.isArrayOf_alike hZ.alike Ar6.2.1) rfl Ar6.2.2 hin6 (vH6.at hin6 rfl) (g := (mkF m 39 #[vR a1, vR at_, vI 0, vI 2, .unset, .unset, .unset] [(.int 0), (.ref on)])) rfl rfl (bb d4_39) _ ?_
    show GG p e below T5 (mkF m 40 #[vR a1, vR at_, vI 0, vI 2, .unset, .unset, .unset] [(.ref ov)]) _
    refine XS.ifnullNo X5.here hx rfl (bb d4_40) rfl ?_
    show GG p e below T5 (mkF m 43 #[vR a1, vR at_, vI 0, vI 2, .unset, .unset, .unset] []) _
    refine XS.aloadN X5.here hx rfl (bb d4_43) rfl rfl ?_
    refine XS.iloadN X5.here hx rfl (bb d4_44) rfl ?_
    refine XS.iloadN X5.here hx rfl (bb d4_45) rfl ?_
    refine XS.aloadN X5.here hx rfl (bb d4_46) rfl rfl ?_
    show GG p e below T5 (mkF m 47 #[vR a1, vR at_, vI 0, vI 2, .unset, .unset, .unset] [(.ref at_), (.int 2), (.int 0), (.ref a1)]) _
    refine st7.trans ?_
    show GG p e below T7 (mkF m 50 #[vR a1, vR at_, vI 0, vI 2, .unset, .unset, .unset] []) _
    refine XS.iloadN X7.here hx rfl (bb d4_50) rfl ?_
    refine XS.aloadN X7.here hx rfl (bb d4_51) rfl rfl ?_
    refine st8 _ ?_
    show GG p e below T8 (mkF m 55 #[vR a1, vR at_, vI 0, vI 2, .unset, .unset, .unset] [(.int 2), (.int 2)]) _
    refine XS.imul X8.here hx rfl (bb d4_55) rfl ?_
    refine XS.istore X8.here hx rfl (bb d4_56) rfl (l' := #[vR a1, vR at_, vI 0, vI 2, vI 4, .unset, .unset]) rfl ?_
    show GG p e below T8 (mkF m 58 #[vR a1, vR at_, vI 0, vI 2, vI 4, .unset, .unset] []) _
    refine XS.aloadN X8.here hx rfl (bb d4_58) rfl rfl ?_
    refine st10 _ ?_
    show GG p e below T10 (mkF m 62 #[vR a1, vR at_, vI 0, vI 2, vI 4, .unset, .unset] [(.ref on)]) _
    refine XS.iloadN X10.here hx rfl (bb d4_62) rfl ?_
    refine X10.aaload hx (j := (0 : Int32)) (v := .null) (by rw [e10]; exact Ar12.1) (State.isArrayOf_alike hZ.alike Ar12.2.1) rfl Ar12.2.2 hin12 (vH12.at hin12 rfl) (g := (mkF m 63 #[vR a1, vR at_, vI 0, vI 2, vI 4, .unset, .unset] [(.int 0), (.ref on)])) rfl rfl (bb d4_63) _ ?_
    show GG p e below T10 (mkF m 64 #[vR a1, vR at_, vI 0, vI 2, vI 4, .unset, .unset] [.null]) _
    refine XS.astore X10.here hx rfl (bb d4_64) rfl rfl (l' := #[vR a1, vR at_, vI 0, vI 2, vI 4, .val .null, .unset]) rfl ?_
    show GG p e below T10 (mkF m 66 #[vR a1, vR at_, vI 0, vI 2, vI 4, .val .null, .unset] []) _
    refine XS.iconst X10.here hx rfl (bb d4_66) ?_
    refine XS.istore X10.here hx rfl (bb d4_67) rfl (l' := #[vR a1, vR at_, vI 0, vI 2, vI 4, .val .null, vI 0]) rfl ?_
    show GG p e below T10 (mkF m 69 #[vR a1, vR at_, vI 0, vI 2, vI 4, .val .null, vI 0] []) _
    refine XS.iload X10.here hx rfl (bb d4_69) rfl ?_
    refine XS.aloadN X10.here hx rfl (bb d4_71) rfl rfl ?_
    refine st13 _ ?_
    show GG p e below T13 (mkF m 75 #[vR a1, vR at_, vI 0, vI 2, vI 4, .val .null, vI 0] [(.int 2), (.int 0)]) _
    refine XS.icmpNo X13.here hx rfl (bb d4_75) rfl (tlt (by decide : (0 : Int32) < (2 : Int32))).2.1 ?_
    refine XS.aload X13.here hx rfl (bb d4_78) rfl rfl ?_
    refine XS.ifnullYes X13.here hx rfl (pc0 := 80) (pc' := 114) rfl (bb d4_80) rfl (by decide) (by decide) ?_
    show GG p e below T13 (mkF m 114 #[vR a1, vR at_, vI 0, vI 2, vI 4, .val .null, vI 0] []) _
    refine XS.aloadN X13.here hx rfl (bb d4_114) rfl rfl ?_
    refine st14 _ ?_
    show GG p e below T14 (mkF m 118 #[vR a1, vR at_, vI 0, vI 2, vI 4, .val .null, vI 0] [(.ref ow)]) _
    refine XS.iloadN X14.here hx rfl (bb d4_118) rfl ?_
    refine X14.aaload hx (j := (0 : Int32)) (v := (.ref oz7)) (by rw [e14]; exact Ar16.1) (State.isArrayOf_alike hZ.alike Ar16.2.1) rfl Ar16.2.2 hin16 (vH16.at hin16 rfl) (g := (mkF m 119 #[vR a1, vR at_, vI 0, vI 2, vI 4, .val .null, vI 0] [(.int 0), (.ref ow)])) rfl rfl (bb d4_119) _ ?_
    show GG p e below T14 (mkF m 120 #[vR a1, vR at_, vI 0, vI 2, vI 4, .val .null, vI 0] [(.ref oz7)]) _
    refine XS.iload X14.here hx rfl (bb d4_120) rfl ?_
    refine XS.iload X14.here hx rfl (bb d4_122) rfl ?_
    refine XS.iadd X14.here hx rfl (bb d4_124) rfl ?_
    refine XS.aloadN X14.here hx rfl (bb d4_125) rfl rfl ?_
    show GG p e below T14 (mkF m 126 #[vR a1, vR at_, vI 0, vI 2, vI 4, .val .null, vI 0] [(.ref at_), (.int 4), (.ref oz7)]) _
    refine XS.iload X14.here hx rfl (bb d4_126) rfl ?_
    refine X14.iaload hx (j := (0 : Int32)) (v := (.int et0)) (by rw [e14]; exact Ar18.1) (State.isArrayOf_alike hZ.alike Ar18.2.1) Ar18.2.2 hin18 (vH18.at hin18 rfl) (g := (mkF m 128 #[vR a1, vR at_, vI 0, vI 2, vI 4, .val .null, vI 0] [(.int 0), (.ref at_), (.int 4), (.ref oz7)])) rfl rfl (bb d4_128) _ ?_
    show GG p e below T14 (mkF m 129 #[vR a1, vR at_, vI 0, vI 2, vI 4, .val .null, vI 0] [(.int et0), (.int 4), (.ref oz7)]) _
    refine st19 _ ?_
    show GG p e below T19 (mkF m 130 #[vR a1, vR at_, vI 0, vI 2, vI 4, .val .null, vI 0] []) _
    refine XS.iinc X19.here hx rfl (bb d4_130) rfl (l' := #[vR a1, vR at_, vI 0, vI 2, vI 4, .val .null, vI 1]) rfl ?_
    show GG p e below T19 (mkF m 133 #[vR a1, vR at_, vI 0, vI 2, vI 4, .val .null, vI 1] []) _
    refine XS.goto X19.here hx rfl (pc0 := 133) (pc' := 69) rfl (bb d4_133) (by decide) (by decide) ?_
    refine XS.iload X19.here hx rfl (bb d4_69) rfl ?_
    refine XS.aloadN X19.here hx rfl (bb d4_71) rfl rfl ?_
    refine st20 _ ?_
    show GG p e below T20 (mkF m 75 #[vR a1, vR at_, vI 0, vI 2, vI 4, .val .null, vI 1] [(.int 2), (.int 1)]) _
    refine XS.icmpNo X20.here hx rfl (bb d4_75) rfl (tlt (by decide : (1 : Int32) < (2 : Int32))).2.1 ?_
    refine XS.aload X20.here hx rfl (bb d4_78) rfl rfl ?_
    refine XS.ifnullYes X20.here hx rfl (pc0 := 80) (pc' := 114) rfl (bb d4_80) rfl (by decide) (by decide) ?_
    show GG p e below T20 (mkF m 114 #[vR a1, vR at_, vI 0, vI 2, vI 4, .val .null, vI 1] []) _
    refine XS.aloadN X20.here hx rfl (bb d4_114) rfl rfl ?_
    refine st22 _ ?_
    show GG p e below T22 (mkF m 118 #[vR a1, vR at_, vI 0, vI 2, vI 4, .val .null, vI 1] [(.ref ow)]) _
    refine XS.iloadN X22.here hx rfl (bb d4_118) rfl ?_
    refine X22.aaload hx (j := (0 : Int32)) (v := (.ref oz7)) (by rw [e22]; exact Ar25.1) (State.isArrayOf_alike hZ.alike Ar25.2.1) rfl Ar25.2.2 hin25 (vH25.at hin25 rfl) (g := (mkF m 119 #[vR a1, vR at_, vI 0, vI 2, vI 4, .val .null, vI 1] [(.int 0), (.ref ow)])) rfl rfl (bb d4_119) _ ?_
    show GG p e below T22 (mkF m 120 #[vR a1, vR at_, vI 0, vI 2, vI 4, .val .null, vI 1] [(.ref oz7)]) _
    refine XS.iload X22.here hx rfl (bb d4_120) rfl ?_
    refine XS.iload X22.here hx rfl (bb d4_122) rfl ?_
    refine XS.iadd X22.here hx rfl (bb d4_124) rfl ?_
    refine XS.aloadN X22.here hx rfl (bb d4_125) rfl rfl ?_
    show GG p e below T22 (mkF m 126 #[vR a1, vR at_, vI 0, vI 2, vI 4, .val .null, vI 1] [(.ref at_), (.int 5), (.ref oz7)]) _
    refine XS.iload X22.here hx rfl (bb d4_126) rfl ?_
    refine X22.iaload hx (j := (1 : Int32)) (v := (.int et1)) (by rw [e22]; exact Ar27.1) (State.isArrayOf_alike hZ.alike Ar27.2.1) Ar27.2.2 hin27 (vH27.at hin27 rfl) (g := (mkF m 128 #[vR a1, vR at_, vI 0, vI 2, vI 4, .val .null, vI 1] [(.int 1), (.ref at_), (.int 5), (.ref oz7)])) rfl rfl (bb d4_128) _ ?_
    show GG p e below T22 (mkF m 129 #[vR a1, vR at_, vI 0, vI 2, vI 4, .val .null, vI 1] [(.int et1), (.int 5), (.ref oz7)]) _
    refine st28 _ ?_
    show GG p e below T28 (mkF m 130 #[vR a1, vR at_, vI 0, vI 2, vI 4, .val .null, vI 1] []) _
    refine XS.iinc X28.here hx rfl (bb d4_130) rfl (l' := #[vR a1, vR at_, vI 0, vI 2, vI 4, .val .null, vI 2]) rfl ?_
    show GG p e below T28 (mkF m 133 #[vR a1, vR at_, vI 0, vI 2, vI 4, .val .null, vI 2] []) _
    refine XS.goto X28.here hx rfl (pc0 := 133) (pc' := 69) rfl (bb d4_133) (by decide) (by decide) ?_
    refine XS.iload X28.here hx rfl (bb d4_69) rfl ?_
    refine XS.aloadN X28.here hx rfl (bb d4_71) rfl rfl ?_
    refine st29 _ ?_
    show GG p e below T29 (mkF m 75 #[vR a1, vR at_, vI 0, vI 2, vI 4, .val .null, vI 2] [(.int 2), (.int 2)]) _
    refine XS.icmpYes X29.here hx rfl (pc0 := 75) (pc' := 136) rfl (bb d4_75) rfl (flt (by decide : ¬ ((2 : Int32) < (2 : Int32)))).2.1 (by decide) (by decide) ?_
    show GG p e below T29 (mkF m 136 #[vR a1, vR at_, vI 0, vI 2, vI 4, .val .null, vI 2] []) _
    refine XS.aloadN X29.here hx rfl (bb d4_136) rfl rfl ?_
    refine XS.dup X29.here hx rfl (bb d4_137) rfl rfl ?_
    refine st31 _ ?_
    show GG p e below T31 (mkF m 141 #[vR a1, vR at_, vI 0, vI 2, vI 4, .val .null, vI 2] [(.int 2), (.ref a1)]) _
    refine XS.iconst X31.here hx rfl (bb d4_141) ?_
    refine XS.iadd X31.here hx rfl (bb d4_142) rfl ?_
    refine st33 _ ?_
    show GG p e below T33 (mkF m 146 #[vR a1, vR at_, vI 0, vI 2, vI 4, .val .null, vI 2] []) _
    exact X33.returnOut hx Bd.returns (bb d4_146) hr
  · show Q_add2W2 Z a1 at_ ow on ob ol oh ov kw_ kn_ kb_ kl_ kh_ kv_ eb0 eb1 el0 el1 eu0 eu1 ev0_0 ev0_1 ev1_0 ev1_1 ex4 ex5 ex6 ex7 ex8 ex9 ex10 ex11 ex12 ex13 ex14 ex15 kt_ et0 et1 h0 n0 _ T33.heap _
    rw [e33]
    exact ⟨oz7, kz_7, rfl, N33, (((((Keep.refl h0 [a1, ow, on]).trans K7 (allS (Or.inl (List.mem_of_getElem? (i := 1) rfl)) (allS (Or.inl (List.mem_of_getElem? (i := 2) rfl)) all0))).wr W19 (Or.inr sz_oz7)).wr W28 (Or.inr sz_oz7)).wr W33 (Or.inl (List.mem_of_getElem? (i := 0) rfl))), sz_oz7, F35, F36, Fw33, F37, F38, F39, F40, F41, F42, r9, F43, r11, F44, F45, F46, F47⟩
def Q_add2WW2 (Z : State) (a1 at_ ow on ob ol oh oz : Addr) (kw_ kn_ kb_ kl_ kh_ kz_ : ClassId) (eb0 eb1 el0 el1 eu0 eu1 ev0_0 ev0_1 ev1_0 ev1_1 ex4 ex5 ex6 ex7 ex8 ex9 ex10 ex11 ex12 ex13 ex14 ex15 : Int32) (kt_ : ClassId) (et0 et1 : Int32) (h0 : Heap) (n0 : Nat) (v : Option Value) (h : Heap) (L : List Loc) : Prop := v = none ∧ Fr n0 L ∧ Keep h0 h [a1, oz] ∧ Exa Z h a1 cRV ∧ Fld Z h a1 cRV "arity" "I" (.int 2) ∧ Fld Z h a1 cRV "rows" "I" (.int 3) ∧ Fld Z h a1 cRV "wide" "[[I" (.ref ow) ∧ Fld Z h a1 cRV "narrow" "[[C" (.ref on) ∧ Fld Z h a1 cRV "bases" "[I" (.ref ob) ∧ Fld Z h a1 cRV "lowest" "[I" (.ref ol) ∧ Fld Z h a1 cRV "highest" "[I" (.ref oh) ∧ Arv Z h ow kw_ (.array .int) (1 : Int32) [(.ref oz)] .null ∧ OvrA Z kw_ .int "[I" ∧ Arv Z h on kn_ (.array .char) (1 : Int32) [.null] .null ∧ OvrA Z kn_ .char "[C" ∧ Arv Z h ob kb_ .int (2 : Int32) [(.int eb0), (.int eb1)] (.int 0) ∧ Arv Z h ol kl_ .int (2 : Int32) [(.int el0), (.int el1)] (.int 0) ∧ Arv Z h oh kh_ .int (2 : Int32) [(.int eu0), (.int eu1)] (.int 0) ∧ Arv Z h oz kz_ .int (16 : Int32) [(.int ev0_0), (.int ev0_1), (.int ev1_0), (.int ev1_1), (.int et0), (.int et1), (.int ex6), (.int ex7), (.int ex8), (.int ex9), (.int ex10), (.int ex11), (.int ex12), (.int ex13), (.int ex14), (.int ex15)] (.int 0)
set_option maxRecDepth 65536 in
set_option maxHeartbeats 40000000 in
theorem rm_add2WW2 (l : Launch) (Z : State) (a0 : Array Value) (hw : ∀ d ∈ tables_1, d.before a0 Z = true) (ws : List Jvm.Cond) (a1 at_ ow on ob ol oh oz : Addr) (kw_ kn_ kb_ kl_ kh_ kz_ : ClassId) (eb0 eb1 el0 el1 eu0 eu1 ev0_0 ev0_1 ev1_0 ev1_1 ex4 ex5 ex6 ex7 ex8 ex9 ex10 ex11 ex12 ex13 ex14 ex15 : Int32) (kt_ : ClassId) (et0 et1 : Int32) (h0 : Heap) (n0 : Nat) (Z0 : n0 ≤ h0.size) (O0 : Old Z n0 h0) (S_CS : Sta Z Z.heap cRV "CHUNK_SHIFT" "I" (.int (12 : Int32))) (r0 : Exa Z h0 a1 cRV) (r1 : Fld Z h0 a1 cRV "arity" "I" (.int 2)) (r2 : Fld Z h0 a1 cRV "rows" "I" (.int 2)) (r3 : Fld Z h0 a1 cRV "wide" "[[I" (.ref ow)) (r4 : Fld Z h0 a1 cRV "narrow" "[[C" (.ref on)) (r5 : Fld Z h0 a1 cRV "bases" "[I" (.ref ob)) (r6 : Fld Z h0 a1 cRV "lowest" "[I" (.ref ol)) (r7 : Fld Z h0 a1 cRV "highest" "[I" (.ref oh)) (r8 : Arv Z h0 ow kw_ (.array .int) (1 : Int32) [(.ref oz)] .null) (r9 : OvrA Z kw_ .int "[I") (r10 : Arv Z h0 on kn_ (.array .char) (1 : Int32) [.null] .null) (r11 : OvrA Z kn_ .char "[C") (r12 : Arv Z h0 ob kb_ .int (2 : Int32) [(.int eb0), (.int eb1)] (.int 0)) (r13 : Arv Z h0 ol kl_ .int (2 : Int32) [(.int el0), (.int el1)] (.int 0)) (r14 : Arv Z h0 oh kh_ .int (2 : Int32) [(.int eu0), (.int eu1)] (.int 0)) (r15 : Arv Z h0 oz kz_ .int (16 : Int32) [(.int ev0_0), (.int ev0_1), (.int ev1_0), (.int ev1_1), (.int ex4), (.int ex5), (.int ex6), (.int ex7), (.int ex8), (.int ex9), (.int ex10), (.int ex11), (.int ex12), (.int ex13), (.int ex14), (.int ex15)] (.int 0)) (r16 : Arv Z h0 at_ kt_ .int (2 : Int32) [(.int et0), (.int et1)] (.int 0)) (g_a1 : n0 ≤ a1) (g_oz : n0 ≤ oz) (ne_a1_ow : a1 ≠ ow) (ne_a1_on : a1 ≠ on) (ne_a1_ob : a1 ≠ ob) (ne_a1_ol : a1 ≠ ol) (ne_a1_oh : a1 ≠ oh) (ne_a1_oz : a1 ≠ oz) (ne_ow_on : ow ≠ on) (ne_ow_ob : ow ≠ ob) (ne_ow_ol : ow ≠ ol) (ne_ow_oh : ow ≠ oh) (ne_ow_oz : ow ≠ oz) (ne_on_ob : on ≠ ob) (ne_on_ol : on ≠ ol) (ne_on_oh : on ≠ oh) (ne_on_oz : on ≠ oz) (ne_ob_ol : ob ≠ ol) (ne_ob_oh : ob ≠ oh) (ne_ob_oz : ob ≠ oz) (ne_ol_oh : ol ≠ oh) (ne_ol_oz : ol ≠ oz) (ne_oh_oz : oh ≠ oz) (ne_at__a1 : at_ ≠ a1) (ne_at__ow : at_ ≠ ow) (ne_at__on : at_ ≠ on) (ne_at__ob : at_ ≠ ob) (ne_at__ol : at_ ≠ ol) (ne_at__oh : at_ ≠ oh) (ne_at__oz : at_ ≠ oz) :
    MetFree l (⟨cRV, "add", "([I)V"⟩ : MethodName) (head1 (Jvm.Cond.code (⟨cRV, "add", "([I)V"⟩ : MethodName) prog_47_method_4_code 7 none :: ws) ({ frames := 2, cells := 0, slots := 0, locals := 29 } : Room)) (fun a U => a = #[(.ref a1), (.ref at_)] ∧ Z.Warmed39 U.vm ∧ U.heap = h0) (fun _ _ _ _ _ => True) (fun _ U o U' => ∃ v L, o = .returned v ∧ Q_add2WW2 Z a1 at_ ow on ob ol oh oz kw_ kn_ kb_ kl_ kh_ kz_ eb0 eb1 el0 el1 eu0 eu1 ev0_0 ev0_1 ev1_0 ev1_1 ex4 ex5 ex6 ex7 ex8 ex9 ex10 ex11 ex12 ex13 ex14 ex15 kt_ et0 et1 h0 n0 v U'.heap L ∧ FrameEnd U o U' L ({ frames := 2, cells := 0, slots := 0, locals := 29 } : Room).cells ({ frames := 2, cells := 0, slots := 0, locals := 29 } : Room).slots) := by
  refine MetFree.of_bodySF (plainFor_of_name pn_RowValues) hisR ?_
  intro p e s m args below meth c s₁ Bd hml0 hP hK
  obtain ⟨rfl, hZ, hh⟩ := hP
  have hx := Bd.exec
  have hby := Bd.bytes
  have bb := fun {pc : Nat} {r : Except DecodeError (Instr × Nat)} (h : decode prog_47_method_4_code pc = r) => hb hby h
  have hml : c.maxLocals = 7 := hml0
  have hown : s.vm.findClass cRV = some m.cls := findClass_of_methodNamed Bd.named
  have hnm := (name_of_methodNamed Bd.named Bd.method).1
  have X0 : Stand p l e ({ frames := 2, cells := 0, slots := 0, locals := 29 } : Room) s m #[(.ref a1), (.ref at_)] below meth c s₁ [] 0 0 := Stand.of_body Bd
  have e0 : s₁.heap = h0 := by rw [← hh, Bd.state]; rfl
  have N0 := Fr.nil n0
  have pre0 : ∀ t, Steps p.tables e below (s₁.setTop (mkF m 0 #[vR a1, vR at_, .unset, .unset, .unset, .unset, .unset] [])) t → Steps p.tables e below (s₁.setTop (entryFrame m #[(.ref a1), (.ref at_)] 7)) t := fun t k => castTop (ef_add2WW2 m a1 at_) k
  obtain ⟨T1, X1, e1, st1⟩ := getF X0 hx hZ hown (host := "") (Or.inl (wd38 hw)) Via.refl e0 r2 (g := (mkF m 1 #[vR a1, vR at_, .unset, .unset, .unset, .unset, .unset] [(.ref a1)])) rfl rfl (bb d4_1)
  obtain ⟨T2, X2, e2, st2⟩ := getS2 X1 hx hZ hown (host := "") (Or.inl (wd40 hw)) Via.refl e1 (S_CS.ext O0.2) (g := (mkF m 4 #[vR a1, vR at_, .unset, .unset, .unset, .unset, .unset] [(.int 2)])) rfl (bb d4_4)
  obtain ⟨T3, X3, e3, st3⟩ := getF X2 hx hZ hown (host := "") (Or.inl (wd38 hw)) Via.refl e2 r2 (g := (mkF m 10 #[vR a1, vR at_, vI 0, .unset, .unset, .unset, .unset] [(.ref a1)])) rfl rfl (bb d4_10)
  obtain ⟨cq4, q4, q4'⟩ := (r0).cell
  obtain ⟨_, _, ⟨T4, L4, k4, n4⟩, -, X4, ⟨Lc4, hQ4, l4, y4, z4⟩, st4⟩ := X3.privateBack hx (y := (⟨cRV, "makeRoom", "(II)V"⟩ : MethodName)) hown (mvT hZ (wd60 hw)) (mvT hZ (wd61 hw)) (own_sel (mvT hZ (wd7 hw)) (mvT hZ (wd61 hw)) (mvP hZ (wd62 hw)) (by decide)) (Cond.privateMethod_at (mvP hZ (wd62 hw) (args := #[]))) (mvT hZ (wd63 hw)) (by decide) (backOf (W := 0) (rm_room2W2 l Z a0 hw [] a1 ow on ob ol oh oz kw_ kn_ kb_ kl_ kh_ kz_ eb0 eb1 el0 el1 eu0 eu1 ev0_0 ev0_1 ev1_0 ev1_1 ex4 ex5 ex6 ex7 ex8 ex9 ex10 ex11 ex12 ex13 ex14 ex15 h0 n0 (own_z0 O0) O0 S_CS r0 r1 r3 r4 r8 r10 r15) hZ (wd63 hw) (wd8 hw) (by decide) (by decide)) (g := (mkF m 31 #[vR a1, vR at_, vI 0, vI 2, .unset, .unset, .unset] [(.int 2), (.int 0), (.ref a1)])) rfl (by rw [hml]; rfl) (Steps.refl _) (a := a1) (by rw [e3]; exact q4) q4' (argsL := [(.int 0), (.int 2)]) (rest := []) (lenOf pd__II_V_5 rfl) rfl (by show 2 * 0 + _ ≤ _; exact Nat.le_of_eq rfl) (bb d4_31) (fun _ _ => ⟨rfl, e3, (by decide : 0 + 0 ≤ _), (by decide : 0 + 0 ≤ _)⟩)
  dsimp only [Pt.U, Pt.locs, Pt.cells, Pt.slots] at X4 l4 y4 z4 st4 hQ4
  subst l4 y4 z4
  obtain ⟨rfl, N4q, e4⟩ := hQ4
  have N4 := Fr.app N0 N4q
  obtain ⟨T5, X5, e5, st5⟩ := getF X4 hx hZ hown (host := "") (Or.inl (wd21 hw)) Via.refl e4 r4 (g := (mkF m 35 #[vR a1, vR at_, vI 0, vI 2, .unset, .unset, .unset] [(.ref a1)])) rfl rfl (bb d4_35)
  obtain ⟨cl6, Ar6, vq6, vS6, vN6, vH6, vG6⟩ := id r10
  have hin6 : ¬ (((0 : Int32) : Int32) < 0 ∨ cl6.slots.size ≤ ((0 : Int32) : Int32).toNatClampNeg) := inb_of vS6 ⟨by decide, by decide⟩
  obtain ⟨T7, X7, e7, st7⟩ := getF X5 hx hZ hown (host := "") (Or.inl (wd23 hw)) Via.refl e5 r1 (g := (mkF m 52 #[vR a1, vR at_, vI 0, vI 2, .unset, .unset, .unset] [(.ref a1), (.int 2)])) rfl rfl (bb d4_52)
  obtain ⟨T8, X8, e8, st8⟩ := getF X7 hx hZ hown (host := "") (Or.inl (wd21 hw)) Via.refl e7 r4 (g := (mkF m 59 #[vR a1, vR at_, vI 0, vI 2, vI 4, .unset, .unset] [(.ref a1)])) rfl rfl (bb d4_59)
  obtain ⟨cl9, Ar9, vq9, vS9, vN9, vH9, vG9⟩ := id r10
  have hin9 : ¬ (((0 : Int32) : Int32) < 0 ∨ cl9.slots.size ≤ ((0 : Int32) : Int32).toNatClampNeg) := inb_of vS9 ⟨by decide, by decide⟩
  obtain ⟨T10, X10, e10, st10⟩ := getF X8 hx hZ hown (host := "") (Or.inl (wd23 hw)) Via.refl e8 r1 (g := (mkF m 72 #[vR a1, vR at_, vI 0, vI 2, vI 4, .val .null, vI 0] [(.ref a1), (.int 0)])) rfl rfl (bb d4_72)
  obtain ⟨T11, X11, e11, st11⟩ := getF X10 hx hZ hown (host := "") (Or.inl (wd17 hw)) Via.refl e10 r3 (g := (mkF m 115 #[vR a1, vR at_, vI 0, vI 2, vI 4, .val .null, vI 0] [(.ref a1)])) rfl rfl (bb d4_115)
  obtain ⟨cl12, Ar12, vq12, vS12, vN12, vH12, vG12⟩ := id r8
  have hin12 : ¬ (((0 : Int32) : Int32) < 0 ∨ cl12.slots.size ≤ ((0 : Int32) : Int32).toNatClampNeg) := inb_of vS12 ⟨by decide, by decide⟩
  obtain ⟨cl13, Ar13, vq13, vS13, vN13, vH13, vG13⟩ := id r16
  have hin13 : ¬ (((0 : Int32) : Int32) < 0 ∨ cl13.slots.size ≤ ((0 : Int32) : Int32).toNatClampNeg) := inb_of vS13 ⟨by decide, by decide⟩
  obtain ⟨cl14, Ar14, vq14, vS14, vN14, vH14, vG14⟩ := id r15
  have hin14 : ¬ (((4 : Int32) : Int32) < 0 ∨ cl14.slots.size ≤ ((4 : Int32) : Int32).toNatClampNeg) := inb_of vS14 ⟨by decide, by decide⟩
  obtain ⟨T14, h14, X14, e14, W14, st14⟩ := stI X11 hx hZ e11 Ar14 (j := (4 : Int32)) hin14 (g := (mkF m 129 #[vR a1, vR at_, vI 0, vI 2, vI 4, .val .null, vI 0] [(.int et0), (.int 4), (.ref oz)])) rfl rfl (bb d4_129)
  have V14 : Arv Z h14 oz kz_ .int (16 : Int32) [(.int ev0_0), (.int ev0_1), (.int ev1_0), (.int ev1_1), (.int et0), (.int ex5), (.int ex6), (.int ex7), (.int ex8), (.int ex9), (.int ex10), (.int ex11), (.int ex12), (.int ex13), (.int ex14), (.int ex15)] (.int 0) := Arv.set Ar14 vq14 vS14 vN14 vH14 vG14 rfl W14 4 rfl (Nat.le_of_ble_eq_true rfl)
  have N14 := Fr.snoc X14 N4 g_oz
  have F16 := (r1.other W14 (Or.inl ne_a1_oz))
  obtain ⟨T15, X15, e15, st15⟩ := getF X14 hx hZ hown (host := "") (Or.inl (wd23 hw)) Via.refl e14 F16 (g := (mkF m 72 #[vR a1, vR at_, vI 0, vI 2, vI 4, .val .null, vI 1] [(.ref a1), (.int 1)])) rfl rfl (bb d4_72)
  have F18 := (r3.other W14 (Or.inl ne_a1_oz))
  obtain ⟨T17, X17, e17, st17⟩ := getF X15 hx hZ hown (host := "") (Or.inl (wd17 hw)) Via.refl e15 F18 (g := (mkF m 115 #[vR a1, vR at_, vI 0, vI 2, vI 4, .val .null, vI 1] [(.ref a1)])) rfl rfl (bb d4_115)
  have F19 := (r8.other W14 ne_ow_oz)
  obtain ⟨cl20, Ar20, vq20, vS20, vN20, vH20, vG20⟩ := id F19
  have hin20 : ¬ (((0 : Int32) : Int32) < 0 ∨ cl20.slots.size ≤ ((0 : Int32) : Int32).toNatClampNeg) := inb_of vS20 ⟨by decide, by decide⟩
  have F21 := (r16.other W14 ne_at__oz)
  obtain ⟨cl22, Ar22, vq22, vS22, vN22, vH22, vG22⟩ := id F21
  have hin22 : ¬ (((1 : Int32) : Int32) < 0 ∨ cl22.slots.size ≤ ((1 : Int32) : Int32).toNatClampNeg) := inb_of vS22 ⟨by decide, by decide⟩
  obtain ⟨cl23, Ar23, vq23, vS23, vN23, vH23, vG23⟩ := id V14
  have hin23 : ¬ (((5 : Int32) : Int32) < 0 ∨ cl23.slots.size ≤ ((5 : Int32) : Int32).toNatClampNeg) := inb_of vS23 ⟨by decide, by decide⟩
  obtain ⟨T23, h23, X23, e23, W23, st23⟩ := stI X17 hx hZ e17 Ar23 (j := (5 : Int32)) hin23 (g := (mkF m 129 #[vR a1, vR at_, vI 0, vI 2, vI 4, .val .null, vI 1] [(.int et1), (.int 5), (.ref oz)])) rfl rfl (bb d4_129)
  have V23 : Arv Z h23 oz kz_ .int (16 : Int32) [(.int ev0_0), (.int ev0_1), (.int ev1_0), (.int ev1_1), (.int et0), (.int et1), (.int ex6), (.int ex7), (.int ex8), (.int ex9), (.int ex10), (.int ex11), (.int ex12), (.int ex13), (.int ex14), (.int ex15)] (.int 0) := Arv.set Ar23 vq23 vS23 vN23 vH23 vG23 rfl W23 5 rfl (Nat.le_of_ble_eq_true rfl)
  have N23 := Fr.snoc X23 N14 g_oz
  have F25 := (F16.other W23 (Or.inl ne_a1_oz))
  obtain ⟨T24, X24, e24, st24⟩ := getF X23 hx hZ hown (host := "") (Or.inl (wd23 hw)) Via.refl e23 F25 (g := (mkF m 72 #[vR a1, vR at_, vI 0, vI 2, vI 4, .val .null, vI 2] [(.ref a1), (.int 2)])) rfl rfl (bb d4_72)
  have F27 := ((r2.other W14 (Or.inl ne_a1_oz)).other W23 (Or.inl ne_a1_oz))
  obtain ⟨T26, X26, e26, st26⟩ := getF X24 hx hZ hown (host := "") (Or.inl (wd38 hw)) Via.refl e24 F27 (g := (mkF m 138 #[vR a1, vR at_, vI 0, vI 2, vI 4, .val .null, vI 2] [(.ref a1), (.ref a1)])) rfl rfl (bb d4_138)
  have F29 := ((r0.wr W14).wr W23)
  obtain ⟨T28, h28, X28, e28, W28, st28⟩ := putF X26 hx hZ hown (host := "") (Or.inl (wd38 hw)) Via.refl e26 F27 F29 (Or.inl (wd39 hw)) (wd7 hw) (ty := .int) (by decide) rfl rfl (g := (mkF m 143 #[vR a1, vR at_, vI 0, vI 2, vI 4, .val .null, vI 2] [(.int 3), (.ref a1)])) rfl rfl (bb d4_143)
  have Fw28 := F27.same W28
  have N28 := Fr.snoc X28 N23 g_a1
  have F30 := (F29.wr W28)
  have F31 := (F25.other W28 (Or.inr (slot_ne (Or.inr (wd24 hw)) (Or.inl (wd39 hw)) (by decide) (t := .int) (t' := .int) (by decide) (by decide))))
  have F32 := ((F18.other W23 (Or.inl ne_a1_oz)).other W28 (Or.inr (slot_ne (Or.inl (wd18 hw)) (Or.inl (wd39 hw)) (by decide) (t := (.array (.array .int))) (t' := .int) (by decide) (by decide))))
  have F33 := (((r4.other W14 (Or.inl ne_a1_oz)).other W23 (Or.inl ne_a1_oz)).other W28 (Or.inr (slot_ne (Or.inl (wd22 hw)) (Or.inl (wd39 hw)) (by decide) (t := (.array (.array .char))) (t' := .int) (by decide) (by decide))))
  have F34 := (((r5.other W14 (Or.inl ne_a1_oz)).other W23 (Or.inl ne_a1_oz)).other W28 (Or.inr (slot_ne (Or.inl (wd26 hw)) (Or.inl (wd39 hw)) (by decide) (t := (.array .int)) (t' := .int) (by decide) (by decide))))
  have F35 := (((r6.other W14 (Or.inl ne_a1_oz)).other W23 (Or.inl ne_a1_oz)).other W28 (Or.inr (slot_ne (Or.inr (wd28 hw)) (Or.inl (wd39 hw)) (by decide) (t := (.array .int)) (t' := .int) (by decide) (by decide))))
  have F36 := (((r7.other W14 (Or.inl ne_a1_oz)).other W23 (Or.inl ne_a1_oz)).other W28 (Or.inr (slot_ne (Or.inr (wd30 hw)) (Or.inl (wd39 hw)) (by decide) (t := (.array .int)) (t' := .int) (by decide) (by decide))))
  have F37 := ((F19.other W23 ne_ow_oz).other W28 (Ne.symm ne_a1_ow))
  have F38 := (((r10.other W14 ne_on_oz).other W23 ne_on_oz).other W28 (Ne.symm ne_a1_on))
  have F39 := (((r12.other W14 ne_ob_oz).other W23 ne_ob_oz).other W28 (Ne.symm ne_a1_ob))
  have F40 := (((r13.other W14 ne_ol_oz).other W23 ne_ol_oz).other W28 (Ne.symm ne_a1_ol))
  have F41 := (((r14.other W14 ne_oh_oz).other W23 ne_oh_oz).other W28 (Ne.symm ne_a1_oh))
  have F42 := (V23.other W28 (Ne.symm ne_a1_oz))
  obtain ⟨fs, hr, hrun, hended, hW, hsame⟩ := X28.leave (v := none) (fun _ => rfl)
  refine ⟨_, _, pre0 _ ?_, hrun, hended, _, _, rfl, ?_, ⟨_, rfl⟩, hW, hsame.mono (by decide) (by decide)⟩
  · show GG p e below s₁ (mkF m 0 #[vR a1, vR at_, .unset, .unset, .unset, .unset, .unset] []) _
    refine XS.aloadN X0.here hx rfl (bb d4_0) rfl rfl ?_
    refine st1 _ ?_
    show GG p e below T1 (mkF m 4 #[vR a1, vR at_, .unset, .unset, .unset, .unset, .unset] [(.int 2)]) _
    refine st2 _ ?_
    show GG p e below T2 (mkF m 7 #[vR a1, vR at_, .unset, .unset, .unset, .unset, .unset] [(.int 12), (.int 2)]) _
    refine XS.iushr X2.here hx rfl (bb d4_7) rfl ?_
    show GG p e below T2 (mkF m 8 #[vR a1, vR at_, .unset, .unset, .unset, .unset, .unset] [(.int 0)]) _
    refine XS.istoreN X2.here hx rfl (bb d4_8) rfl (l' := #[vR a1, vR at_, vI 0, .unset, .unset, .unset, .unset]) rfl ?_
    show GG p e below T2 (mkF m 9 #[vR a1, vR at_, vI 0, .unset, .unset, .unset, .unset] []) _
    refine XS.aloadN X2.here hx rfl (bb d4_9) rfl rfl ?_
    refine st3 _ ?_
    show GG p e below T3 (mkF m 13 #[vR a1, vR at_, vI 0, .unset, .unset, .unset, .unset] [(.int 2)]) _
    refine XS.sipush X3.here hx rfl (bb d4_13) ?_
    refine XS.iand X3.here hx rfl (bb d4_16) rfl ?_
    refine XS.istoreN X3.here hx rfl (bb d4_17) rfl (l' := #[vR a1, vR at_, vI 0, vI 2, .unset, .unset, .unset]) rfl ?_
    show GG p e below T3 (mkF m 18 #[vR a1, vR at_, vI 0, vI 2, .unset, .unset, .unset] []) _
    refine XS.iloadN X3.here hx rfl (bb d4_18) rfl ?_
    refine XS.ifYes X3.here hx rfl (pc0 := 19) (pc' := 28) rfl (bb d4_19) rfl ((if0 _ _).trans (feq (by decide : ¬ ((2 : Int32) = (0 : Int32)))).2) (by decide) (by decide) ?_
    show GG p e below T3 (mkF m 28 #[vR a1, vR at_, vI 0, vI 2, .unset, .unset, .unset] []) _
    refine XS.aloadN X3.here hx rfl (bb d4_28) rfl rfl ?_
    refine XS.iloadN X3.here hx rfl (bb d4_29) rfl ?_
    refine XS.iloadN X3.here hx rfl (bb d4_30) rfl ?_
    refine st4.trans ?_
    show GG p e below T4 (mkF m 34 #[vR a1, vR at_, vI 0, vI 2, .unset, .unset, .unset] []) _
    refine XS.aloadN X4.here hx rfl (bb d4_34) rfl rfl ?_
    refine st5 _ ?_
    show GG p e below T5 (mkF m 38 #[vR a1, vR at_, vI 0, vI 2, .unset, .unset, .unset] [(.ref on)]) _
    refine XS.iloadN X5.here hx rfl (bb d4_38) rfl ?_
    refine X5.aaload hx (j := (0 : Int32)) (v := .null) (by rw [e5]; exact Ar6.1) (State.isArrayOf_alike hZ.alike Ar6.2.1) rfl Ar6.2.2 hin6 (vH6.at hin6 rfl) (g := (mkF m 39 #[vR a1, vR at_, vI 0, vI 2, .unset, .unset, .unset] [(.int 0), (.ref on)])) rfl rfl (bb d4_39) _ ?_
    show GG p e below T5 (mkF m 40 #[vR a1, vR at_, vI 0, vI 2, .unset, .unset, .unset] [.null]) _
    refine XS.ifnullYes X5.here hx rfl (pc0 := 40) (pc' := 50) rfl (bb d4_40) rfl (by decide) (by decide) ?_
    show GG p e below T5 (mkF m 50 #[vR a1, vR at_, vI 0, vI 2, .unset, .unset, .unset] []) _
    refine XS.iloadN X5.here hx rfl (bb d4_50) rfl ?_
    refine XS.aloadN X5.here hx rfl (bb d4_51) rfl rfl ?_
    refine st7 _ ?_
    show GG p e below T7 (mkF m 55 #[vR a1, vR at_, vI 0, vI 2, .unset, .unset, .unset] [(.int 2), (.int 2)]) _
    refine XS.imul X7.here hx rfl (bb d4_55) rfl ?_
    refine XS.istore X7.here hx rfl (bb d4_56) rfl (l' := #[vR a1, vR at_, vI 0, vI 2, vI 4, .unset, .unset]) rfl ?_
    show GG p e below T7 (mkF m 58 #[vR a1, vR at_, vI 0, vI 2, vI 4, .unset, .unset] []) _
    refine XS.aloadN X7.here hx rfl (bb d4_58) rfl rfl ?_
    refine st8 _ ?_
    show GG p e below T8 (mkF m 62 #[vR a1, vR at_, vI 0, vI 2, vI 4, .unset, .unset] [(.ref on)]) _
    refine XS.iloadN X8.here hx rfl (bb d4_62) rfl ?_
    refine X8.aaload hx (j := (0 : Int32)) (v := .null) (by rw [e8]; exact Ar9.1) (State.isArrayOf_alike hZ.alike Ar9.2.1) rfl Ar9.2.2 hin9 (vH9.at hin9 rfl) (g := (mkF m 63 #[vR a1, vR at_, vI 0, vI 2, vI 4, .unset, .unset] [(.int 0), (.ref on)])) rfl rfl (bb d4_63) _ ?_
    show GG p e below T8 (mkF m 64 #[vR a1, vR at_, vI 0, vI 2, vI 4, .unset, .unset] [.null]) _
    refine XS.astore X8.here hx rfl (bb d4_64) rfl rfl (l' := #[vR a1, vR at_, vI 0, vI 2, vI 4, .val .null, .unset]) rfl ?_
    show GG p e below T8 (mkF m 66 #[vR a1, vR at_, vI 0, vI 2, vI 4, .val .null, .unset] []) _
    refine XS.iconst X8.here hx rfl (bb d4_66) ?_
    refine XS.istore X8.here hx rfl (bb d4_67) rfl (l' := #[vR a1, vR at_, vI 0, vI 2, vI 4, .val .null, vI 0]) rfl ?_
    show GG p e below T8 (mkF m 69 #[vR a1, vR at_, vI 0, vI 2, vI 4, .val .null, vI 0] []) _
    refine XS.iload X8.here hx rfl (bb d4_69) rfl ?_
    refine XS.aloadN X8.here hx rfl (bb d4_71) rfl rfl ?_
    refine st10 _ ?_
    show GG p e below T10 (mkF m 75 #[vR a1, vR at_, vI 0, vI 2, vI 4, .val .null, vI 0] [(.int 2), (.int 0)]) _
    refine XS.icmpNo X10.here hx rfl (bb d4_75) rfl (tlt (by decide : (0 : Int32) < (2 : Int32))).2.1 ?_
    refine XS.aload X10.here hx rfl (bb d4_78) rfl rfl ?_
    refine XS.ifnullYes X10.here hx rfl (pc0 := 80) (pc' := 114) rfl (bb d4_80) rfl (by decide) (by decide) ?_
    show GG p e below T10 (mkF m 114 #[vR a1, vR at_, vI 0, vI 2, vI 4, .val .null, vI 0] []) _
    refine XS.aloadN X10.here hx rfl (bb d4_114) rfl rfl ?_
    refine st11 _ ?_
    show GG p e below T11 (mkF m 118 #[vR a1, vR at_, vI 0, vI 2, vI 4, .val .null, vI 0] [(.ref ow)]) _
    refine XS.iloadN X11.here hx rfl (bb d4_118) rfl ?_
    refine X11.aaload hx (j := (0 : Int32)) (v := (.ref oz)) (by rw [e11]; exact Ar12.1) (State.isArrayOf_alike hZ.alike Ar12.2.1) rfl Ar12.2.2 hin12 (vH12.at hin12 rfl) (g := (mkF m 119 #[vR a1, vR at_, vI 0, vI 2, vI 4, .val .null, vI 0] [(.int 0), (.ref ow)])) rfl rfl (bb d4_119) _ ?_
    show GG p e below T11 (mkF m 120 #[vR a1, vR at_, vI 0, vI 2, vI 4, .val .null, vI 0] [(.ref oz)]) _
    refine XS.iload X11.here hx rfl (bb d4_120) rfl ?_
    refine XS.iload X11.here hx rfl (bb d4_122) rfl ?_
    refine XS.iadd X11.here hx rfl (bb d4_124) rfl ?_
    refine XS.aloadN X11.here hx rfl (bb d4_125) rfl rfl ?_
    show GG p e below T11 (mkF m 126 #[vR a1, vR at_, vI 0, vI 2, vI 4, .val .null, vI 0] [(.ref at_), (.int 4), (.ref oz)]) _
    refine XS.iload X11.here hx rfl (bb d4_126) rfl ?_
    refine X11.iaload hx (j := (0 : Int32)) (v := (.int et0)) (by rw [e11]; exact Ar13.1) (State.isArrayOf_alike hZ.alike Ar13.2.1) Ar13.2.2 hin13 (vH13.at hin13 rfl) (g := (mkF m 128 #[vR a1, vR at_, vI 0, vI 2, vI 4, .val .null, vI 0] [(.int 0), (.ref at_), (.int 4), (.ref oz)])) rfl rfl (bb d4_128) _ ?_
    show GG p e below T11 (mkF m 129 #[vR a1, vR at_, vI 0, vI 2, vI 4, .val .null, vI 0] [(.int et0), (.int 4), (.ref oz)]) _
    refine st14 _ ?_
    show GG p e below T14 (mkF m 130 #[vR a1, vR at_, vI 0, vI 2, vI 4, .val .null, vI 0] []) _
    refine XS.iinc X14.here hx rfl (bb d4_130) rfl (l' := #[vR a1, vR at_, vI 0, vI 2, vI 4, .val .null, vI 1]) rfl ?_
    show GG p e below T14 (mkF m 133 #[vR a1, vR at_, vI 0, vI 2, vI 4, .val .null, vI 1] []) _
    refine XS.goto X14.here hx rfl (pc0 := 133) (pc' := 69) rfl (bb d4_133) (by decide) (by decide) ?_
    refine XS.iload X14.here hx rfl (bb d4_69) rfl ?_
    refine XS.aloadN X14.here hx rfl (bb d4_71) rfl rfl ?_
    refine st15 _ ?_
    show GG p e below T15 (mkF m 75 #[vR a1, vR at_, vI 0, vI 2, vI 4, .val .null, vI 1] [(.int 2), (.int 1)]) _
    refine XS.icmpNo X15.here hx rfl (bb d4_75) rfl (tlt (by decide : (1 : Int32) < (2 : Int32))).2.1 ?_
    refine XS.aload X15.here hx rfl (bb d4_78) rfl rfl ?_
    refine XS.ifnullYes X15.here hx rfl (pc0 := 80) (pc' := 114) rfl (bb d4_80) rfl (by decide) (by decide) ?_
    show GG p e below T15 (mkF m 114 #[vR a1, vR at_, vI 0, vI 2, vI 4, .val .null, vI 1] []) _
    refine XS.aloadN X15.here hx rfl (bb d4_114) rfl rfl ?_
    refine st17 _ ?_
    show GG p e below T17 (mkF m 118 #[vR a1, vR at_, vI 0, vI 2, vI 4, .val .null, vI 1] [(.ref ow)]) _
    refine XS.iloadN X17.here hx rfl (bb d4_118) rfl ?_
    refine X17.aaload hx (j := (0 : Int32)) (v := (.ref oz)) (by rw [e17]; exact Ar20.1) (State.isArrayOf_alike hZ.alike Ar20.2.1) rfl Ar20.2.2 hin20 (vH20.at hin20 rfl) (g := (mkF m 119 #[vR a1, vR at_, vI 0, vI 2, vI 4, .val .null, vI 1] [(.int 0), (.ref ow)])) rfl rfl (bb d4_119) _ ?_
    show GG p e below T17 (mkF m 120 #[vR a1, vR at_, vI 0, vI 2, vI 4, .val .null, vI 1] [(.ref oz)]) _
    refine XS.iload X17.here hx rfl (bb d4_120) rfl ?_
    refine XS.iload X17.here hx rfl (bb d4_122) rfl ?_
    refine XS.iadd X17.here hx rfl (bb d4_124) rfl ?_
    refine XS.aloadN X17.here hx rfl (bb d4_125) rfl rfl ?_
    show GG p e below T17 (mkF m 126 #[vR a1, vR at_, vI 0, vI 2, vI 4, .val .null, vI 1] [(.ref at_), (.int 5), (.ref oz)]) _
    refine XS.iload X17.here hx rfl (bb d4_126) rfl ?_
    refine X17.iaload hx (j := (1 : Int32)) (v := (.int et1)) (by rw [e17]; exact Ar22.1) (State.isArrayOf_alike hZ.alike Ar22.2.1) Ar22.2.2 hin22 (vH22.at hin22 rfl) (g := (mkF m 128 #[vR a1, vR at_, vI 0, vI 2, vI 4, .val .null, vI 1] [(.int 1), (.ref at_), (.int 5), (.ref oz)])) rfl rfl (bb d4_128) _ ?_
    show GG p e below T17 (mkF m 129 #[vR a1, vR at_, vI 0, vI 2, vI 4, .val .null, vI 1] [(.int et1), (.int 5), (.ref oz)]) _
    refine st23 _ ?_
    show GG p e below T23 (mkF m 130 #[vR a1, vR at_, vI 0, vI 2, vI 4, .val .null, vI 1] []) _
    refine XS.iinc X23.here hx rfl (bb d4_130) rfl (l' := #[vR a1, vR at_, vI 0, vI 2, vI 4, .val .null, vI 2]) rfl ?_
    show GG p e below T23 (mkF m 133 #[vR a1, vR at_, vI 0, vI 2, vI 4, .val .null, vI 2] []) _
    refine XS.goto X23.here hx rfl (pc0 := 133) (pc' := 69) rfl (bb d4_133) (by decide) (by decide) ?_
    refine XS.iload X23.here hx rfl (bb d4_69) rfl ?_
    refine XS.aloadN X23.here hx rfl (bb d4_71) rfl rfl ?_
    refine st24 _ ?_
    show GG p e below T24 (mkF m 75 #[vR a1, vR at_, vI 0, vI 2, vI 4, .val .null, vI 2] [(.int 2), (.int 2)]) _
    refine XS.icmpYes X24.here hx rfl (pc0 := 75) (pc' := 136) rfl (bb d4_75) rfl (flt (by decide : ¬ ((2 : Int32) < (2 : Int32)))).2.1 (by decide) (by decide) ?_
    show GG p e below T24 (mkF m 136 #[vR a1, vR at_, vI 0, vI 2, vI 4, .val .null, vI 2] []) _
    refine XS.aloadN X24.here hx rfl (bb d4_136) rfl rfl ?_
    refine XS.dup X24.here hx rfl (bb d4_137) rfl rfl ?_
    refine st26 _ ?_
    show GG p e below T26 (mkF m 141 #[vR a1, vR at_, vI 0, vI 2, vI 4, .val .null, vI 2] [(.int 2), (.ref a1)]) _
    refine XS.iconst X26.here hx rfl (bb d4_141) ?_
    refine XS.iadd X26.here hx rfl (bb d4_142) rfl ?_
    refine st28 _ ?_
    show GG p e below T28 (mkF m 146 #[vR a1, vR at_, vI 0, vI 2, vI 4, .val .null, vI 2] []) _
    exact X28.returnOut hx Bd.returns (bb d4_146) hr
  · show Q_add2WW2 Z a1 at_ ow on ob ol oh oz kw_ kn_ kb_ kl_ kh_ kz_ eb0 eb1 el0 el1 eu0 eu1 ev0_0 ev0_1 ev1_0 ev1_1 ex4 ex5 ex6 ex7 ex8 ex9 ex10 ex11 ex12 ex13 ex14 ex15 kt_ et0 et1 h0 n0 _ T28.heap _
    rw [e28]
    exact ⟨rfl, N28, ((((Keep.refl h0 [a1, oz]).wr W14 (Or.inl (List.mem_of_getElem? (i := 1) rfl))).wr W23 (Or.inl (List.mem_of_getElem? (i := 1) rfl))).wr W28 (Or.inl (List.mem_of_getElem? (i := 0) rfl))), F30, F31, Fw28, F32, F33, F34, F35, F36, F37, r9, F38, r11, F39, F40, F41, F42⟩
def lawP (p1 : Int32) (p2 : Int32) (p3 : Int64) (p4 : Int64) (p5 : Int64) (p6 : Int64) : Prop := (if ((lcmpW (((f_maxI (f_draw p1 p3) p1).toInt64) - ((f_minI (f_draw p1 p3) p1).toInt64)) (65536 : Int64)) < (0 : Int32)) ∧ ((lcmpW (((f_maxI (f_draw p2 p4) p2).toInt64) - ((f_minI (f_draw p2 p4) p2).toInt64)) (65536 : Int64)) < (0 : Int32)) then (if ((lcmpW (((f_maxI (f_draw (f_draw p1 p3) p5) (f_maxI (f_draw p1 p3) p1)).toInt64) - ((f_minI (f_draw (f_draw p1 p3) p5) (f_minI (f_draw p1 p3) p1)).toInt64)) (65536 : Int64)) < (0 : Int32)) ∧ ((lcmpW (((f_maxI (f_draw (f_draw p2 p4) p6) (f_maxI (f_draw p2 p4) p2)).toInt64) - ((f_minI (f_draw (f_draw p2 p4) p6) (f_minI (f_draw p2 p4) p2)).toInt64)) (65536 : Int64)) < (0 : Int32)) then True else True) else True)
set_option maxRecDepth 65536 in
set_option maxHeartbeats 40000000 in
theorem rm_law (l : Launch) (Z : State) (a0 : Array Value) (hw : ∀ d ∈ tables_1, d.before a0 Z = true) (ws : List Jvm.Cond) (p1 p2 : Int32) (p3 p4 p5 p6 : Int64) (h0 : Heap) (n0 : Nat) (Z0 : n0 ≤ h0.size) (O0 : Old Z n0 h0) (S_CS : Sta Z Z.heap cRV "CHUNK_SHIFT" "I" (.int (12 : Int32))) (hp : lawP p1 p2 p3 p4 p5 p6) :
    MetFree l x (head1 (Jvm.Cond.code x code maxLocals ret :: ws) room_1) (fun a U => a = #[(.int p1), (.int p2), (.long p3), (.long p4), (.long p5), (.long p6)] ∧ Z.Warmed39 U.vm ∧ U.heap = h0) (fun _ _ _ _ _ => True) (fun _ U o U' => ∃ v L, o = .returned v ∧ LawQ n0 v U'.heap L ∧ FrameEnd U o U' L room_1.cells room_1.slots) := by
  refine MetFree.of_bodySF (plainFor_of_name pn_RowValuesGetPinLaw) hisR ?_
  intro p e s m args below meth c s₁ Bd hml0 hP hK
  obtain ⟨rfl, hZ, hh⟩ := hP
  have hx := Bd.exec
  have hby := Bd.bytes
  have bb := fun {pc : Nat} {r : Except DecodeError (Instr × Nat)} (h : decode code pc = r) => hb hby h
  have hml : c.maxLocals = 18 := hml0
  have hown : s.vm.findClass "com/example/chaseward/chaseward/engine/RowValuesGetPinLaw" = some m.cls := findClass_of_methodNamed Bd.named
  have hnm := (name_of_methodNamed Bd.named Bd.method).1
  have X0 : Stand p l e room_1 s m #[(.int p1), (.int p2), (.long p3), (.long p4), (.long p5), (.long p6)] below meth c s₁ [] 0 0 := Stand.of_body Bd
  have e0 : s₁.heap = h0 := by rw [← hh, Bd.state]; rfl
  have N0 := Fr.nil n0
  have pre0 : ∀ t, Steps p.tables e below (s₁.setTop (mkF m 0 #[vI p1, vI p2, vJ p3, .second, vJ p4, .second, vJ p5, .second, vJ p6, .second, .unset, .unset, .unset, .unset, .unset, .unset, .unset, .unset] [])) t → Steps p.tables e below (s₁.setTop (entryFrame m #[(.int p1), (.int p2), (.long p3), (.long p4), (.long p5), (.long p6)] maxLocals)) t := fun t k => castTop (ef_law m p1 p2 p3 p4 p5 p6) k
  unfold lawP at hp
  obtain ⟨_, _, ⟨T1, L1, k1, n1⟩, -, X1, ⟨Lc1, hQ1, l1, y1, z1⟩, st1⟩ := Jvm.LawKit.callS X0 hx (y := (⟨"com/example/chaseward/chaseward/engine/RowValuesGetPinLaw", "draw", "(IJ)I"⟩ : MethodName)) hown (mvT hZ (wd0 hw)) (mvT hZ (wd1 hw)) (mvT hZ (wd2 hw)) (mvT hZ (wd3 hw)) (by decide) (backOf (W := 0) (rm_draw l Z a0 hw [] p1 p3 h0 n0 (own_z0 O0) O0 S_CS) hZ (wd3 hw) (wd2 hw) (by decide) (by decide)) (g := (mkF m 2 #[vI p1, vI p2, vJ p3, .second, vJ p4, .second, vJ p5, .second, vJ p6, .second, .unset, .unset, .unset, .unset, .unset, .unset, .unset, .unset] [(.long p3), (.int p1)])) rfl (by rw [hml]; rfl) (argsL := [(.int p1), (.long p3)]) (rest := []) (lenOf pd__IJ_I_5 rfl) rfl (by show 2 * 0 + _ ≤ _; exact Nat.le_of_eq rfl) (bb at_2) (fun _ _ => ⟨rfl, e0, (by decide : 0 + 0 ≤ _), (by decide : 0 + 0 ≤ _)⟩)
  dsimp only [Pt.U, Pt.locs, Pt.cells, Pt.slots] at X1 l1 y1 z1 st1 hQ1
  subst l1 y1 z1
  obtain ⟨rfl, N1q, e1⟩ := hQ1
  have N1 := Fr.app N0 N1q
  obtain ⟨_, _, ⟨T2, L2, k2, n2⟩, -, X2, ⟨Lc2, hQ2, l2, y2, z2⟩, st2⟩ := Jvm.LawKit.callS X1 hx (y := (⟨"com/example/chaseward/chaseward/engine/RowValuesGetPinLaw", "draw", "(IJ)I"⟩ : MethodName)) hown (mvT hZ (wd0 hw)) (mvT hZ (wd1 hw)) (mvT hZ (wd2 hw)) (mvT hZ (wd3 hw)) (by decide) (backOf (W := 0) (rm_draw l Z a0 hw [] p2 p4 h0 n0 (own_z0 O0) O0 S_CS) hZ (wd3 hw) (wd2 hw) (by decide) (by decide)) (g := (mkF m 10 #[vI p1, vI p2, vJ p3, .second, vJ p4, .second, vJ p5, .second, vJ p6, .second, vI (f_draw p1 p3), .unset, .unset, .unset, .unset, .unset, .unset, .unset] [(.long p4), (.int p2)])) rfl (by rw [hml]; rfl) (argsL := [(.int p2), (.long p4)]) (rest := []) (lenOf pd__IJ_I_5 rfl) rfl (by show 2 * 0 + _ ≤ _; exact Nat.le_of_eq rfl) (bb at_10) (fun _ _ => ⟨rfl, e1, (by decide : 0 + 0 ≤ _), (by decide : 0 + 0 ≤ _)⟩)
  dsimp only [Pt.U, Pt.locs, Pt.cells, Pt.slots] at X2 l2 y2 z2 st2 hQ2
  subst l2 y2 z2
  obtain ⟨rfl, N2q, e2⟩ := hQ2
  have N2 := Fr.app N1 N2q
  obtain ⟨_, _, ⟨T3, L3, k3, n3⟩, -, X3, ⟨Lc3, hQ3, l3, y3, z3⟩, st3⟩ := Jvm.LawKit.callS X2 hx (y := (⟨"com/example/chaseward/chaseward/engine/RowValuesGetPinLaw", "draw", "(IJ)I"⟩ : MethodName)) hown (mvT hZ (wd0 hw)) (mvT hZ (wd1 hw)) (mvT hZ (wd2 hw)) (mvT hZ (wd3 hw)) (by decide) (backOf (W := 0) (rm_draw l Z a0 hw [] (f_draw p1 p3) p5 h0 n0 (own_z0 O0) O0 S_CS) hZ (wd3 hw) (wd2 hw) (by decide) (by decide)) (g := (mkF m 19 #[vI p1, vI p2, vJ p3, .second, vJ p4, .second, vJ p5, .second, vJ p6, .second, vI (f_draw p1 p3), vI (f_draw p2 p4), .unset, .unset, .unset, .unset, .unset, .unset] [(.long p5), (.int (f_draw p1 p3))])) rfl (by rw [hml]; rfl) (argsL := [(.int (f_draw p1 p3)), (.long p5)]) (rest := []) (lenOf pd__IJ_I_5 rfl) rfl (by show 2 * 0 + _ ≤ _; exact Nat.le_of_eq rfl) (bb at_19) (fun _ _ => ⟨rfl, e2, (by decide : 0 + 0 ≤ _), (by decide : 0 + 0 ≤ _)⟩)
  dsimp only [Pt.U, Pt.locs, Pt.cells, Pt.slots] at X3 l3 y3 z3 st3 hQ3
  subst l3 y3 z3
  obtain ⟨rfl, N3q, e3⟩ := hQ3
  have N3 := Fr.app N2 N3q
  obtain ⟨_, _, ⟨T4, L4, k4, n4⟩, -, X4, ⟨Lc4, hQ4, l4, y4, z4⟩, st4⟩ := Jvm.LawKit.callS X3 hx (y := (⟨"com/example/chaseward/chaseward/engine/RowValuesGetPinLaw", "draw", "(IJ)I"⟩ : MethodName)) hown (mvT hZ (wd0 hw)) (mvT hZ (wd1 hw)) (mvT hZ (wd2 hw)) (mvT hZ (wd3 hw)) (by decide) (backOf (W := 0) (rm_draw l Z a0 hw [] (f_draw p2 p4) p6 h0 n0 (own_z0 O0) O0 S_CS) hZ (wd3 hw) (wd2 hw) (by decide) (by decide)) (g := (mkF m 28 #[vI p1, vI p2, vJ p3, .second, vJ p4, .second, vJ p5, .second, vJ p6, .second, vI (f_draw p1 p3), vI (f_draw p2 p4), vI (f_draw (f_draw p1 p3) p5), .unset, .unset, .unset, .unset, .unset] [(.long p6), (.int (f_draw p2 p4))])) rfl (by rw [hml]; rfl) (argsL := [(.int (f_draw p2 p4)), (.long p6)]) (rest := []) (lenOf pd__IJ_I_5 rfl) rfl (by show 2 * 0 + _ ≤ _; exact Nat.le_of_eq rfl) (bb at_28) (fun _ _ => ⟨rfl, e3, (by decide : 0 + 0 ≤ _), (by decide : 0 + 0 ≤ _)⟩)
  dsimp only [Pt.U, Pt.locs, Pt.cells, Pt.slots] at X4 l4 y4 z4 st4 hQ4
  subst l4 y4 z4
  obtain ⟨rfl, N4q, e4⟩ := hQ4
  have N4 := Fr.app N3 N4q
  obtain ⟨T5, h5, k5, X5, e5, E5, A5, B5, st5⟩ := newPE (aty := .int) X4 hx hZ (wd5 hw) e4 (g := (mkF m 34 #[vI p1, vI p2, vJ p3, .second, vJ p4, .second, vJ p5, .second, vJ p6, .second, vI (f_draw p1 p3), vI (f_draw p2 p4), vI (f_draw (f_draw p1 p3) p5), vI (f_draw (f_draw p2 p4) p6), .unset, .unset, .unset, .unset] [(.int 2)])) rfl (bb at_34) rfl (by decide) (cap := 2) (by decide) (by decide) (by decide) (by decide) (ad := "[I") (by decide)
  obtain ⟨b5, q_b5⟩ : ∃ z, z = (h0).size := ⟨_, rfl⟩
  rw [← q_b5] at A5 B5 st5
  have g_b5 : n0 ≤ b5 := Nat.le_trans (own_z0 O0) (Nat.le_of_eq q_b5.symm)
  have sz_b5 : h0.size ≤ b5 := Nat.le_trans (Nat.le_refl _) (Nat.le_of_eq q_b5.symm)
  have V_b5 : Arv Z h5 b5 k5 .int (2 : Int32) [(.int 0), (.int 0)] (.int 0) := (Arv.new A5 (by decide)).pad (pad_rep [] (.int 0) 2)
  obtain ⟨cl6, Ar6, vq6, vS6, vN6, vH6, vG6⟩ := id V_b5
  have hin6 : ¬ (((0 : Int32) : Int32) < 0 ∨ cl6.slots.size ≤ ((0 : Int32) : Int32).toNatClampNeg) := inb_of vS6 ⟨by decide, by decide⟩
  obtain ⟨T6, h6, X6, e6, W6, st6⟩ := stI X5 hx hZ e5 Ar6 (j := (0 : Int32)) hin6 (g := (mkF m 39 #[vI p1, vI p2, vJ p3, .second, vJ p4, .second, vJ p5, .second, vJ p6, .second, vI (f_draw p1 p3), vI (f_draw p2 p4), vI (f_draw (f_draw p1 p3) p5), vI (f_draw (f_draw p2 p4) p6), .unset, .unset, .unset, .unset] [(.int p1), (.int 0), (.ref b5), (.ref b5)])) rfl rfl (bb at_39)
  have V6 : Arv Z h6 b5 k5 .int (2 : Int32) [(.int p1), (.int 0)] (.int 0) := Arv.set Ar6 vq6 vS6 vN6 vH6 vG6 rfl W6 0 rfl (Nat.le_of_ble_eq_true rfl)
  have N6 := Fr.snoc X6 N4 g_b5
  obtain ⟨cl7, Ar7, vq7, vS7, vN7, vH7, vG7⟩ := id V6
  have hin7 : ¬ (((1 : Int32) : Int32) < 0 ∨ cl7.slots.size ≤ ((1 : Int32) : Int32).toNatClampNeg) := inb_of vS7 ⟨by decide, by decide⟩
  obtain ⟨T7, h7, X7, e7, W7, st7⟩ := stI X6 hx hZ e6 Ar7 (j := (1 : Int32)) hin7 (g := (mkF m 43 #[vI p1, vI p2, vJ p3, .second, vJ p4, .second, vJ p5, .second, vJ p6, .second, vI (f_draw p1 p3), vI (f_draw p2 p4), vI (f_draw (f_draw p1 p3) p5), vI (f_draw (f_draw p2 p4) p6), .unset, .unset, .unset, .unset] [(.int p2), (.int 1), (.ref b5), (.ref b5)])) rfl rfl (bb at_43)
  have V7 : Arv Z h7 b5 k5 .int (2 : Int32) [(.int p1), (.int p2)] (.int 0) := Arv.set Ar7 vq7 vS7 vN7 vH7 vG7 rfl W7 1 rfl (Nat.le_of_ble_eq_true rfl)
  have N7 := Fr.snoc X7 N6 g_b5
  have O9 := (((O0.ext E5).wr W6 g_b5).wr W7 g_b5)
  obtain ⟨T8, h8, k8, X8, e8, E8, A8, B8, st8⟩ := newPE (aty := .int) X7 hx hZ (wd5 hw) e7 (g := (mkF m 47 #[vI p1, vI p2, vJ p3, .second, vJ p4, .second, vJ p5, .second, vJ p6, .second, vI (f_draw p1 p3), vI (f_draw p2 p4), vI (f_draw (f_draw p1 p3) p5), vI (f_draw (f_draw p2 p4) p6), vR b5, .unset, .unset, .unset] [(.int 2)])) rfl (bb at_47) rfl (by decide) (cap := 2) (by decide) (by decide) (by decide) (by decide) (ad := "[I") (by decide)
  obtain ⟨b8, q_b8⟩ : ∃ z, z = (h7).size := ⟨_, rfl⟩
  rw [← q_b8] at A8 B8 st8
  have g_b8 : n0 ≤ b8 := Nat.le_trans (own_z0 O9) (Nat.le_of_eq q_b8.symm)
  have sz_b8 : h0.size ≤ b8 := Nat.le_trans (Nat.le_trans (Nat.le_trans (Nat.le_trans (Nat.le_refl _) E5.1) (Keep.of_wr W6).1) (Keep.of_wr W7).1) (Nat.le_of_eq q_b8.symm)
  have ne_b5_b8 : b5 ≠ b8 := Nat.ne_of_lt (Nat.lt_of_lt_of_le V7.lt (Nat.le_of_eq q_b8.symm))
  have V_b8 : Arv Z h8 b8 k8 .int (2 : Int32) [(.int 0), (.int 0)] (.int 0) := (Arv.new A8 (by decide)).pad (pad_rep [] (.int 0) 2)
  obtain ⟨cl10, Ar10, vq10, vS10, vN10, vH10, vG10⟩ := id V_b8
  have hin10 : ¬ (((0 : Int32) : Int32) < 0 ∨ cl10.slots.size ≤ ((0 : Int32) : Int32).toNatClampNeg) := inb_of vS10 ⟨by decide, by decide⟩
  obtain ⟨T10, h10, X10, e10, W10, st10⟩ := stI X8 hx hZ e8 Ar10 (j := (0 : Int32)) hin10 (g := (mkF m 53 #[vI p1, vI p2, vJ p3, .second, vJ p4, .second, vJ p5, .second, vJ p6, .second, vI (f_draw p1 p3), vI (f_draw p2 p4), vI (f_draw (f_draw p1 p3) p5), vI (f_draw (f_draw p2 p4) p6), vR b5, .unset, .unset, .unset] [(.int (f_draw p1 p3)), (.int 0), (.ref b8), (.ref b8)])) rfl rfl (bb at_53)
  have V10 : Arv Z h10 b8 k8 .int (2 : Int32) [(.int (f_draw p1 p3)), (.int 0)] (.int 0) := Arv.set Ar10 vq10 vS10 vN10 vH10 vG10 rfl W10 0 rfl (Nat.le_of_ble_eq_true rfl)
  have N10 := Fr.snoc X10 N7 g_b8
  obtain ⟨cl11, Ar11, vq11, vS11, vN11, vH11, vG11⟩ := id V10
  have hin11 : ¬ (((1 : Int32) : Int32) < 0 ∨ cl11.slots.size ≤ ((1 : Int32) : Int32).toNatClampNeg) := inb_of vS11 ⟨by decide, by decide⟩
  obtain ⟨T11, h11, X11, e11, W11, st11⟩ := stI X10 hx hZ e10 Ar11 (j := (1 : Int32)) hin11 (g := (mkF m 58 #[vI p1, vI p2, vJ p3, .second, vJ p4, .second, vJ p5, .second, vJ p6, .second, vI (f_draw p1 p3), vI (f_draw p2 p4), vI (f_draw (f_draw p1 p3) p5), vI (f_draw (f_draw p2 p4) p6), vR b5, .unset, .unset, .unset] [(.int (f_draw p2 p4)), (.int 1), (.ref b8), (.ref b8)])) rfl rfl (bb at_58)
  have V11 : Arv Z h11 b8 k8 .int (2 : Int32) [(.int (f_draw p1 p3)), (.int (f_draw p2 p4))] (.int 0) := Arv.set Ar11 vq11 vS11 vN11 vH11 vG11 rfl W11 1 rfl (Nat.le_of_ble_eq_true rfl)
  have N11 := Fr.snoc X11 N10 g_b8
  have O13 := (((O9.ext E8).wr W10 g_b8).wr W11 g_b8)
  obtain ⟨T12, h12, k12, X12, e12, E12, A12, B12, st12⟩ := newPE (aty := .int) X11 hx hZ (wd5 hw) e11 (g := (mkF m 62 #[vI p1, vI p2, vJ p3, .second, vJ p4, .second, vJ p5, .second, vJ p6, .second, vI (f_draw p1 p3), vI (f_draw p2 p4), vI (f_draw (f_draw p1 p3) p5), vI (f_draw (f_draw p2 p4) p6), vR b5, vR b8, .unset, .unset] [(.int 2)])) rfl (bb at_62) rfl (by decide) (cap := 2) (by decide) (by decide) (by decide) (by decide) (ad := "[I") (by decide)
  obtain ⟨b12, q_b12⟩ : ∃ z, z = (h11).size := ⟨_, rfl⟩
  rw [← q_b12] at A12 B12 st12
  have g_b12 : n0 ≤ b12 := Nat.le_trans (own_z0 O13) (Nat.le_of_eq q_b12.symm)
  have sz_b12 : h0.size ≤ b12 := Nat.le_trans (Nat.le_trans (Nat.le_trans (Nat.le_trans (Nat.le_trans (Nat.le_trans (Nat.le_trans (Nat.le_refl _) E5.1) (Keep.of_wr W6).1) (Keep.of_wr W7).1) E8.1) (Keep.of_wr W10).1) (Keep.of_wr W11).1) (Nat.le_of_eq q_b12.symm)
  have F14 := (((V7.ext E8).other W10 ne_b5_b8).other W11 ne_b5_b8)
  have ne_b5_b12 : b5 ≠ b12 := Nat.ne_of_lt (Nat.lt_of_lt_of_le F14.lt (Nat.le_of_eq q_b12.symm))
  have ne_b8_b12 : b8 ≠ b12 := Nat.ne_of_lt (Nat.lt_of_lt_of_le V11.lt (Nat.le_of_eq q_b12.symm))
  have V_b12 : Arv Z h12 b12 k12 .int (2 : Int32) [(.int 0), (.int 0)] (.int 0) := (Arv.new A12 (by decide)).pad (pad_rep [] (.int 0) 2)
  obtain ⟨cl15, Ar15, vq15, vS15, vN15, vH15, vG15⟩ := id V_b12
  have hin15 : ¬ (((0 : Int32) : Int32) < 0 ∨ cl15.slots.size ≤ ((0 : Int32) : Int32).toNatClampNeg) := inb_of vS15 ⟨by decide, by decide⟩
  obtain ⟨T15, h15, X15, e15, W15, st15⟩ := stI X12 hx hZ e12 Ar15 (j := (0 : Int32)) hin15 (g := (mkF m 68 #[vI p1, vI p2, vJ p3, .second, vJ p4, .second, vJ p5, .second, vJ p6, .second, vI (f_draw p1 p3), vI (f_draw p2 p4), vI (f_draw (f_draw p1 p3) p5), vI (f_draw (f_draw p2 p4) p6), vR b5, vR b8, .unset, .unset] [(.int (f_draw (f_draw p1 p3) p5)), (.int 0), (.ref b12), (.ref b12)])) rfl rfl (bb at_68)
  have V15 : Arv Z h15 b12 k12 .int (2 : Int32) [(.int (f_draw (f_draw p1 p3) p5)), (.int 0)] (.int 0) := Arv.set Ar15 vq15 vS15 vN15 vH15 vG15 rfl W15 0 rfl (Nat.le_of_ble_eq_true rfl)
  have N15 := Fr.snoc X15 N11 g_b12
  obtain ⟨cl16, Ar16, vq16, vS16, vN16, vH16, vG16⟩ := id V15
  have hin16 : ¬ (((1 : Int32) : Int32) < 0 ∨ cl16.slots.size ≤ ((1 : Int32) : Int32).toNatClampNeg) := inb_of vS16 ⟨by decide, by decide⟩
  obtain ⟨T16, h16, X16, e16, W16, st16⟩ := stI X15 hx hZ e15 Ar16 (j := (1 : Int32)) hin16 (g := (mkF m 73 #[vI p1, vI p2, vJ p3, .second, vJ p4, .second, vJ p5, .second, vJ p6, .second, vI (f_draw p1 p3), vI (f_draw p2 p4), vI (f_draw (f_draw p1 p3) p5), vI (f_draw (f_draw p2 p4) p6), vR b5, vR b8, .unset, .unset] [(.int (f_draw (f_draw p2 p4) p6)), (.int 1), (.ref b12), (.ref b12)])) rfl rfl (bb at_73)
  have V16 : Arv Z h16 b12 k12 .int (2 : Int32) [(.int (f_draw (f_draw p1 p3) p5)), (.int (f_draw (f_draw p2 p4) p6))] (.int 0) := Arv.set Ar16 vq16 vS16 vN16 vH16 vG16 rfl W16 1 rfl (Nat.le_of_ble_eq_true rfl)
  have N16 := Fr.snoc X16 N15 g_b12
  have O18 := (((O13.ext E12).wr W15 g_b12).wr W16 g_b12)
  obtain ⟨T17, h17, X17, e17, E17, A17, D17, -, st17⟩ := newO X16 hx hZ hown (wd6 hw) (wd7 hw) (wd8 hw) e16 (g := (mkF m 76 #[vI p1, vI p2, vJ p3, .second, vJ p4, .second, vJ p5, .second, vJ p6, .second, vI (f_draw p1 p3), vI (f_draw p2 p4), vI (f_draw (f_draw p1 p3) p5), vI (f_draw (f_draw p2 p4) p6), vR b5, vR b8, vR b12, .unset] [])) rfl (bb at_76) (by decide) (by decide)
  obtain ⟨b17, q_b17⟩ : ∃ z, z = (h16).size := ⟨_, rfl⟩
  rw [← q_b17] at A17 D17 st17
  have g_b17 : n0 ≤ b17 := Nat.le_trans (own_z0 O18) (Nat.le_of_eq q_b17.symm)
  have sz_b17 : h0.size ≤ b17 := Nat.le_trans (Nat.le_trans (Nat.le_trans (Nat.le_trans (Nat.le_trans (Nat.le_trans (Nat.le_trans (Nat.le_trans (Nat.le_trans (Nat.le_trans (Nat.le_refl _) E5.1) (Keep.of_wr W6).1) (Keep.of_wr W7).1) E8.1) (Keep.of_wr W10).1) (Keep.of_wr W11).1) E12.1) (Keep.of_wr W15).1) (Keep.of_wr W16).1) (Nat.le_of_eq q_b17.symm)
  have F19 := (((F14.ext E12).other W15 ne_b5_b12).other W16 ne_b5_b12)
  have ne_b5_b17 : b5 ≠ b17 := Nat.ne_of_lt (Nat.lt_of_lt_of_le F19.lt (Nat.le_of_eq q_b17.symm))
  have F20 := (((V11.ext E12).other W15 ne_b8_b12).other W16 ne_b8_b12)
  have ne_b8_b17 : b8 ≠ b17 := Nat.ne_of_lt (Nat.lt_of_lt_of_le F20.lt (Nat.le_of_eq q_b17.symm))
  have ne_b12_b17 : b12 ≠ b17 := Nat.ne_of_lt (Nat.lt_of_lt_of_le V16.lt (Nat.le_of_eq q_b17.symm))
  have F_wide_b17 : Fld Z h17 b17 cRV "wide" "[[I" .null := D17 (Or.inl (wd18 hw)) (ty := (.array (.array .int))) (by decide)
  have F_narrow_b17 : Fld Z h17 b17 cRV "narrow" "[[C" .null := D17 (Or.inl (wd22 hw)) (ty := (.array (.array .char))) (by decide)
  have F_arity_b17 : Fld Z h17 b17 cRV "arity" "I" (.int 0) := D17 (Or.inr (wd24 hw)) (ty := .int) (by decide)
  have F_bases_b17 : Fld Z h17 b17 cRV "bases" "[I" .null := D17 (Or.inl (wd26 hw)) (ty := (.array .int)) (by decide)
  have F_lowest_b17 : Fld Z h17 b17 cRV "lowest" "[I" .null := D17 (Or.inr (wd28 hw)) (ty := (.array .int)) (by decide)
  have F_highest_b17 : Fld Z h17 b17 cRV "highest" "[I" .null := D17 (Or.inr (wd30 hw)) (ty := (.array .int)) (by decide)
  have F_rows_b17 : Fld Z h17 b17 cRV "rows" "I" (.int 0) := D17 (Or.inl (wd39 hw)) (ty := .int) (by decide)
  have O22 := (O18.ext E17)
  obtain ⟨_, _, ⟨T21, L21, k21, n21⟩, -, X21, ⟨Lc21, hQ21, l21, y21, z21⟩, st21⟩ := X17.specialBack hx (y := (⟨cRV, "<init>", "(I)V"⟩ : MethodName)) rfl hown (mvT hZ (wd9 hw)) (mvT hZ (wd10 hw)) (mvT hZ (wd11 hw)) (by decide) (backOf (W := 1) (rm_rvInit2 l Z a0 hw [] b17 h17 n0 (own_z0 O22) O22 S_CS A17 F_arity_b17 F_rows_b17 F_wide_b17 F_narrow_b17 F_bases_b17 F_lowest_b17 F_highest_b17 g_b17) hZ (wd11 hw) (wd8 hw) (by decide) (by decide)) (g := (mkF m 81 #[vI p1, vI p2, vJ p3, .second, vJ p4, .second, vJ p5, .second, vJ p6, .second, vI (f_draw p1 p3), vI (f_draw p2 p4), vI (f_draw (f_draw p1 p3) p5), vI (f_draw (f_draw p2 p4) p6), vR b5, vR b8, vR b12, .unset] [(.int 2), (.ref b17), (.ref b17)])) rfl (by rw [hml]; rfl) (Steps.refl _) (a := b17) (argsL := [(.int 2)]) (rest := [(.ref b17)]) (lenOf pd__I_V_4 rfl) rfl (by show 2 * 0 + _ ≤ _; exact Nat.le_of_eq rfl) (bb at_81) (fun _ _ => ⟨rfl, e17, (by decide : 4 + 6 ≤ _), (by decide : 13 + 24 ≤ _)⟩)
  dsimp only [Pt.U, Pt.locs, Pt.cells, Pt.slots] at X21 l21 y21 z21 st21 hQ21
  subst l21 y21 z21
  obtain ⟨ow21, on21, ob21, ol21, oh21, ov21, kw_21, kn_21, kb_21, kl_21, kh_21, kv_21, rfl, N21q, K21, sz_ow21, sz_on21, sz_ob21, sz_ol21, sz_oh21, sz_ov21, ne_ow21_on21, ne_ow21_ob21, ne_ow21_ol21, ne_ow21_oh21, ne_ow21_ov21, ne_on21_ob21, ne_on21_ol21, ne_on21_oh21, ne_on21_ov21, ne_ob21_ol21, ne_ob21_oh21, ne_ob21_ov21, ne_ol21_oh21, ne_ol21_ov21, ne_oh21_ov21, f21_0, f21_1, f21_2, f21_3, f21_4, f21_5, f21_6, f21_7, f21_8, f21_9, f21_10, f21_11, f21_12, f21_13, f21_14, f21_15⟩ := hQ21
  have N21 := Fr.app N16 N21q
  have szz_ow21 := sz_ow21
  have g_ow21 : n0 ≤ ow21 := Nat.le_trans (own_z0 O22) szz_ow21
  have sz_ow21 : h0.size ≤ ow21 := Nat.le_trans (Nat.le_trans (Nat.le_trans (Nat.le_trans (Nat.le_trans (Nat.le_trans (Nat.le_trans (Nat.le_trans (Nat.le_trans (Nat.le_trans (Nat.le_trans (Nat.le_refl _) E5.1) (Keep.of_wr W6).1) (Keep.of_wr W7).1) E8.1) (Keep.of_wr W10).1) (Keep.of_wr W11).1) E12.1) (Keep.of_wr W15).1) (Keep.of_wr W16).1) E17.1) szz_ow21
  have F23 := (F19.ext E17)
  have ne_b5_ow21 : b5 ≠ ow21 := Nat.ne_of_lt (Nat.lt_of_lt_of_le F23.lt szz_ow21)
  have F24 := (F20.ext E17)
  have ne_b8_ow21 : b8 ≠ ow21 := Nat.ne_of_lt (Nat.lt_of_lt_of_le F24.lt szz_ow21)
  have F25 := (V16.ext E17)
  have ne_b12_ow21 : b12 ≠ ow21 := Nat.ne_of_lt (Nat.lt_of_lt_of_le F25.lt szz_ow21)
  have ne_b17_ow21 : b17 ≠ ow21 := Nat.ne_of_lt (Nat.lt_of_lt_of_le A17.lt szz_ow21)
  have szz_on21 := sz_on21
  have g_on21 : n0 ≤ on21 := Nat.le_trans (own_z0 O22) szz_on21
  have sz_on21 : h0.size ≤ on21 := Nat.le_trans (Nat.le_trans (Nat.le_trans (Nat.le_trans (Nat.le_trans (Nat.le_trans (Nat.le_trans (Nat.le_trans (Nat.le_trans (Nat.le_trans (Nat.le_trans (Nat.le_refl _) E5.1) (Keep.of_wr W6).1) (Keep.of_wr W7).1) E8.1) (Keep.of_wr W10).1) (Keep.of_wr W11).1) E12.1) (Keep.of_wr W15).1) (Keep.of_wr W16).1) E17.1) szz_on21
  have ne_b5_on21 : b5 ≠ on21 := Nat.ne_of_lt (Nat.lt_of_lt_of_le F23.lt szz_on21)
  have ne_b8_on21 : b8 ≠ on21 := Nat.ne_of_lt (Nat.lt_of_lt_of_le F24.lt szz_on21)
  have ne_b12_on21 : b12 ≠ on21 := Nat.ne_of_lt (Nat.lt_of_lt_of_le F25.lt szz_on21)
  have ne_b17_on21 : b17 ≠ on21 := Nat.ne_of_lt (Nat.lt_of_lt_of_le A17.lt szz_on21)
  have szz_ob21 := sz_ob21
  have g_ob21 : n0 ≤ ob21 := Nat.le_trans (own_z0 O22) szz_ob21
  have sz_ob21 : h0.size ≤ ob21 := Nat.le_trans (Nat.le_trans (Nat.le_trans (Nat.le_trans (Nat.le_trans (Nat.le_trans (Nat.le_trans (Nat.le_trans (Nat.le_trans (Nat.le_trans (Nat.le_trans (Nat.le_refl _) E5.1) (Keep.of_wr W6).1) (Keep.of_wr W7).1) E8.1) (Keep.of_wr W10).1) (Keep.of_wr W11).1) E12.1) (Keep.of_wr W15).1) (Keep.of_wr W16).1) E17.1) szz_ob21
  have ne_b5_ob21 : b5 ≠ ob21 := Nat.ne_of_lt (Nat.lt_of_lt_of_le F23.lt szz_ob21)
  have ne_b8_ob21 : b8 ≠ ob21 := Nat.ne_of_lt (Nat.lt_of_lt_of_le F24.lt szz_ob21)
  have ne_b12_ob21 : b12 ≠ ob21 := Nat.ne_of_lt (Nat.lt_of_lt_of_le F25.lt szz_ob21)
  have ne_b17_ob21 : b17 ≠ ob21 := Nat.ne_of_lt (Nat.lt_of_lt_of_le A17.lt szz_ob21)
  have szz_ol21 := sz_ol21
  have g_ol21 : n0 ≤ ol21 := Nat.le_trans (own_z0 O22) szz_ol21
  have sz_ol21 : h0.size ≤ ol21 := Nat.le_trans (Nat.le_trans (Nat.le_trans (Nat.le_trans (Nat.le_trans (Nat.le_trans (Nat.le_trans (Nat.le_trans (Nat.le_trans (Nat.le_trans (Nat.le_trans (Nat.le_refl _) E5.1) (Keep.of_wr W6).1) (Keep.of_wr W7).1) E8.1) (Keep.of_wr W10).1) (Keep.of_wr W11).1) E12.1) (Keep.of_wr W15).1) (Keep.of_wr W16).1) E17.1) szz_ol21
  have ne_b5_ol21 : b5 ≠ ol21 := Nat.ne_of_lt (Nat.lt_of_lt_of_le F23.lt szz_ol21)
  have ne_b8_ol21 : b8 ≠ ol21 := Nat.ne_of_lt (Nat.lt_of_lt_of_le F24.lt szz_ol21)
  have ne_b12_ol21 : b12 ≠ ol21 := Nat.ne_of_lt (Nat.lt_of_lt_of_le F25.lt szz_ol21)
  have ne_b17_ol21 : b17 ≠ ol21 := Nat.ne_of_lt (Nat.lt_of_lt_of_le A17.lt szz_ol21)
  have szz_oh21 := sz_oh21
  have g_oh21 : n0 ≤ oh21 := Nat.le_trans (own_z0 O22) szz_oh21
  have sz_oh21 : h0.size ≤ oh21 := Nat.le_trans (Nat.le_trans (Nat.le_trans (Nat.le_trans (Nat.le_trans (Nat.le_trans (Nat.le_trans (Nat.le_trans (Nat.le_trans (Nat.le_trans (Nat.le_trans (Nat.le_refl _) E5.1) (Keep.of_wr W6).1) (Keep.of_wr W7).1) E8.1) (Keep.of_wr W10).1) (Keep.of_wr W11).1) E12.1) (Keep.of_wr W15).1) (Keep.of_wr W16).1) E17.1) szz_oh21
  have ne_b5_oh21 : b5 ≠ oh21 := Nat.ne_of_lt (Nat.lt_of_lt_of_le F23.lt szz_oh21)
  have ne_b8_oh21 : b8 ≠ oh21 := Nat.ne_of_lt (Nat.lt_of_lt_of_le F24.lt szz_oh21)
  have ne_b12_oh21 : b12 ≠ oh21 := Nat.ne_of_lt (Nat.lt_of_lt_of_le F25.lt szz_oh21)
  have ne_b17_oh21 : b17 ≠ oh21 := Nat.ne_of_lt (Nat.lt_of_lt_of_le A17.lt szz_oh21)
  have szz_ov21 := sz_ov21
  have g_ov21 : n0 ≤ ov21 := Nat.le_trans (own_z0 O22) szz_ov21
  have sz_ov21 : h0.size ≤ ov21 := Nat.le_trans (Nat.le_trans (Nat.le_trans (Nat.le_trans (Nat.le_trans (Nat.le_trans (Nat.le_trans (Nat.le_trans (Nat.le_trans (Nat.le_trans (Nat.le_trans (Nat.le_refl _) E5.1) (Keep.of_wr W6).1) (Keep.of_wr W7).1) E8.1) (Keep.of_wr W10).1) (Keep.of_wr W11).1) E12.1) (Keep.of_wr W15).1) (Keep.of_wr W16).1) E17.1) szz_ov21
  have ne_b5_ov21 : b5 ≠ ov21 := Nat.ne_of_lt (Nat.lt_of_lt_of_le F23.lt szz_ov21)
  have ne_b8_ov21 : b8 ≠ ov21 := Nat.ne_of_lt (Nat.lt_of_lt_of_le F24.lt szz_ov21)
  have ne_b12_ov21 : b12 ≠ ov21 := Nat.ne_of_lt (Nat.lt_of_lt_of_le F25.lt szz_ov21)
  have ne_b17_ov21 : b17 ≠ ov21 := Nat.ne_of_lt (Nat.lt_of_lt_of_le A17.lt szz_ov21)
  have F27 := (F23.keep K21 (ninS ne_b5_b17 nin0))
  have O28 := (O22.keep K21 (allS g_b17 all0))
  obtain ⟨cq26, kq26, q26a, q26b, q26c⟩ := isOf hZ rfl f21_0
  obtain ⟨_, _, ⟨T26, L26, k26, n26⟩, -, X26, ⟨Lc26, hQ26, l26, y26, z26⟩, st26⟩ := X21.virtualBack hx (y := (⟨cRV, "add", "([I)V"⟩ : MethodName)) (z := (⟨cRV, "add", "([I)V"⟩ : MethodName)) hown (mvT hZ (wd33 hw)) (mvT hZ (wd34 hw)) (notFace_of_selects (args := #[]) (mvT hZ (wd36 hw))) (mvT hZ (wd36 hw)) (mvT hZ (wd35 hw)) (by decide) (backOf (W := 0) (rm_add2N0 l Z a0 hw [] b17 b5 ow21 on21 ob21 ol21 oh21 ov21 kw_21 kn_21 kb_21 kl_21 kh_21 kv_21 (0 : Int32) (0 : Int32) (0 : Int32) (0 : Int32) (0 : Int32) (0 : Int32) (0 : Int32) (0 : Int32) (0 : Int32) (0 : Int32) (0 : Int32) (0 : Int32) (0 : Int32) (0 : Int32) (0 : Int32) (0 : Int32) (0 : Int32) (0 : Int32) (0 : Int32) (0 : Int32) (0 : Int32) (0 : Int32) k5 p1 p2 T21.heap n0 (own_z0 O28) O28 S_CS f21_0 f21_1 f21_2 f21_3 f21_4 f21_5 f21_6 f21_7 f21_8 f21_9 f21_10 f21_11 f21_12 f21_13 f21_14 f21_15 F27 g_b17 g_ob21 g_ol21 g_oh21 g_ov21 ne_b17_ow21 ne_b17_on21 ne_b17_ob21 ne_b17_ol21 ne_b17_oh21 ne_b17_ov21 ne_ow21_on21 ne_ow21_ob21 ne_ow21_ol21 ne_ow21_oh21 ne_ow21_ov21 ne_on21_ob21 ne_on21_ol21 ne_on21_oh21 ne_on21_ov21 ne_ob21_ol21 ne_ob21_oh21 ne_ob21_ov21 ne_ol21_oh21 ne_ol21_ov21 ne_oh21_ov21 ne_b5_b17 ne_b5_ow21 ne_b5_on21 ne_b5_ob21 ne_b5_ol21 ne_b5_oh21 ne_b5_ov21) hZ (wd37 hw) (wd8 hw) (by decide) (by decide)) q26a q26c (g := (mkF m 90 #[vI p1, vI p2, vJ p3, .second, vJ p4, .second, vJ p5, .second, vJ p6, .second, vI (f_draw p1 p3), vI (f_draw p2 p4), vI (f_draw (f_draw p1 p3) p5), vI (f_draw (f_draw p2 p4) p6), vR b5, vR b8, vR b12, vR b17] [(.ref b5), (.ref b17)])) rfl (by rw [hml]; rfl) (Steps.refl _) (argsL := [(.ref b5)]) (rest := []) (lenOf pd___I_V_5 rfl) rfl (by show 2 * 0 + _ ≤ _; exact Nat.le_of_eq rfl) (bb at_90) (fun _ _ => ⟨rfl, rfl, (by decide : 10 + 0 ≤ _), (by decide : 37 + 0 ≤ _)⟩)
  dsimp only [Pt.U, Pt.locs, Pt.cells, Pt.slots] at X26 l26 y26 z26 st26 hQ26
  subst l26 y26 z26
  obtain ⟨rfl, N26q, K26, f26_0, f26_1, f26_2, f26_3, f26_4, f26_5, f26_6, f26_7, f26_8, f26_9, f26_10, f26_11, f26_12, f26_13, f26_14, f26_15⟩ := hQ26
  have N26 := Fr.app N21 N26q
  have pre29 : ∀ t, GG p e below T26 (mkF m 97 #[vI p1, vI p2, vJ p3, .second, vJ p4, .second, vJ p5, .second, vJ p6, .second, vI (f_draw p1 p3), vI (f_draw p2 p4), vI (f_draw (f_draw p1 p3) p5), vI (f_draw (f_draw p2 p4) p6), vR b5, vR b8, vR b12, vR b17] [(.ref b8), (.ref b17)]) t → GG p e below s₁ (entryFrame m #[(.int p1), (.int p2), (.long p3), (.long p4), (.long p5), (.long p6)] maxLocals) t := fun t k => pre0 t (by
      show GG p e below s₁ (mkF m 0 #[vI p1, vI p2, vJ p3, .second, vJ p4, .second, vJ p5, .second, vJ p6, .second, .unset, .unset, .unset, .unset, .unset, .unset, .unset, .unset] []) _
      refine XS.iloadN X0.here hx rfl (bb at_0) rfl ?_
      refine XS.lloadN X0.here hx rfl (bb at_1) rfl ?_
      refine st1 _ ?_
      show GG p e below T1 (mkF m 5 #[vI p1, vI p2, vJ p3, .second, vJ p4, .second, vJ p5, .second, vJ p6, .second, .unset, .unset, .unset, .unset, .unset, .unset, .unset, .unset] [(.int (f_draw p1 p3))]) _
      refine XS.istore X1.here hx rfl (bb at_5) rfl (l' := #[vI p1, vI p2, vJ p3, .second, vJ p4, .second, vJ p5, .second, vJ p6, .second, vI (f_draw p1 p3), .unset, .unset, .unset, .unset, .unset, .unset, .unset]) rfl ?_
      show GG p e below T1 (mkF m 7 #[vI p1, vI p2, vJ p3, .second, vJ p4, .second, vJ p5, .second, vJ p6, .second, vI (f_draw p1 p3), .unset, .unset, .unset, .unset, .unset, .unset, .unset] []) _
      refine XS.iloadN X1.here hx rfl (bb at_7) rfl ?_
      refine XS.lload X1.here hx rfl (bb at_8) rfl ?_
      refine st2 _ ?_
      show GG p e below T2 (mkF m 13 #[vI p1, vI p2, vJ p3, .second, vJ p4, .second, vJ p5, .second, vJ p6, .second, vI (f_draw p1 p3), .unset, .unset, .unset, .unset, .unset, .unset, .unset] [(.int (f_draw p2 p4))]) _
      refine XS.istore X2.here hx rfl (bb at_13) rfl (l' := #[vI p1, vI p2, vJ p3, .second, vJ p4, .second, vJ p5, .second, vJ p6, .second, vI (f_draw p1 p3), vI (f_draw p2 p4), .unset, .unset, .unset, .unset, .unset, .unset]) rfl ?_
      show GG p e below T2 (mkF m 15 #[vI p1, vI p2, vJ p3, .second, vJ p4, .second, vJ p5, .second, vJ p6, .second, vI (f_draw p1 p3), vI (f_draw p2 p4), .unset, .unset, .unset, .unset, .unset, .unset] []) _
      refine XS.iload X2.here hx rfl (bb at_15) rfl ?_
      refine XS.lload X2.here hx rfl (bb at_17) rfl ?_
      refine st3 _ ?_
      show GG p e below T3 (mkF m 22 #[vI p1, vI p2, vJ p3, .second, vJ p4, .second, vJ p5, .second, vJ p6, .second, vI (f_draw p1 p3), vI (f_draw p2 p4), .unset, .unset, .unset, .unset, .unset, .unset] [(.int (f_draw (f_draw p1 p3) p5))]) _
      refine XS.istore X3.here hx rfl (bb at_22) rfl (l' := #[vI p1, vI p2, vJ p3, .second, vJ p4, .second, vJ p5, .second, vJ p6, .second, vI (f_draw p1 p3), vI (f_draw p2 p4), vI (f_draw (f_draw p1 p3) p5), .unset, .unset, .unset, .unset, .unset]) rfl ?_
      show GG p e below T3 (mkF m 24 #[vI p1, vI p2, vJ p3, .second, vJ p4, .second, vJ p5, .second, vJ p6, .second, vI (f_draw p1 p3), vI (f_draw p2 p4), vI (f_draw (f_draw p1 p3) p5), .unset, .unset, .unset, .unset, .unset] []) _
      refine XS.iload X3.here hx rfl (bb at_24) rfl ?_
      refine XS.lload X3.here hx rfl (bb at_26) rfl ?_
      refine st4 _ ?_
      show GG p e below T4 (mkF m 31 #[vI p1, vI p2, vJ p3, .second, vJ p4, .second, vJ p5, .second, vJ p6, .second, vI (f_draw p1 p3), vI (f_draw p2 p4), vI (f_draw (f_draw p1 p3) p5), .unset, .unset, .unset, .unset, .unset] [(.int (f_draw (f_draw p2 p4) p6))]) _
      refine XS.istore X4.here hx rfl (bb at_31) rfl (l' := #[vI p1, vI p2, vJ p3, .second, vJ p4, .second, vJ p5, .second, vJ p6, .second, vI (f_draw p1 p3), vI (f_draw p2 p4), vI (f_draw (f_draw p1 p3) p5), vI (f_draw (f_draw p2 p4) p6), .unset, .unset, .unset, .unset]) rfl ?_
      show GG p e below T4 (mkF m 33 #[vI p1, vI p2, vJ p3, .second, vJ p4, .second, vJ p5, .second, vJ p6, .second, vI (f_draw p1 p3), vI (f_draw p2 p4), vI (f_draw (f_draw p1 p3) p5), vI (f_draw (f_draw p2 p4) p6), .unset, .unset, .unset, .unset] []) _
      refine XS.iconst X4.here hx rfl (bb at_33) ?_
      refine st5 _ ?_
      show GG p e below T5 (mkF m 36 #[vI p1, vI p2, vJ p3, .second, vJ p4, .second, vJ p5, .second, vJ p6, .second, vI (f_draw p1 p3), vI (f_draw p2 p4), vI (f_draw (f_draw p1 p3) p5), vI (f_draw (f_draw p2 p4) p6), .unset, .unset, .unset, .unset] [(.ref b5)]) _
      refine XS.dup X5.here hx rfl (bb at_36) rfl rfl ?_
      refine XS.iconst X5.here hx rfl (bb at_37) ?_
      refine XS.iloadN X5.here hx rfl (bb at_38) rfl ?_
      refine st6 _ ?_
      show GG p e below T6 (mkF m 40 #[vI p1, vI p2, vJ p3, .second, vJ p4, .second, vJ p5, .second, vJ p6, .second, vI (f_draw p1 p3), vI (f_draw p2 p4), vI (f_draw (f_draw p1 p3) p5), vI (f_draw (f_draw p2 p4) p6), .unset, .unset, .unset, .unset] [(.ref b5)]) _
      refine XS.dup X6.here hx rfl (bb at_40) rfl rfl ?_
      refine XS.iconst X6.here hx rfl (bb at_41) ?_
      refine XS.iloadN X6.here hx rfl (bb at_42) rfl ?_
      refine st7 _ ?_
      show GG p e below T7 (mkF m 44 #[vI p1, vI p2, vJ p3, .second, vJ p4, .second, vJ p5, .second, vJ p6, .second, vI (f_draw p1 p3), vI (f_draw p2 p4), vI (f_draw (f_draw p1 p3) p5), vI (f_draw (f_draw p2 p4) p6), .unset, .unset, .unset, .unset] [(.ref b5)]) _
      refine XS.astore X7.here hx rfl (bb at_44) rfl rfl (l' := #[vI p1, vI p2, vJ p3, .second, vJ p4, .second, vJ p5, .second, vJ p6, .second, vI (f_draw p1 p3), vI (f_draw p2 p4), vI (f_draw (f_draw p1 p3) p5), vI (f_draw (f_draw p2 p4) p6), vR b5, .unset, .unset, .unset]) rfl ?_
      show GG p e below T7 (mkF m 46 #[vI p1, vI p2, vJ p3, .second, vJ p4, .second, vJ p5, .second, vJ p6, .second, vI (f_draw p1 p3), vI (f_draw p2 p4), vI (f_draw (f_draw p1 p3) p5), vI (f_draw (f_draw p2 p4) p6), vR b5, .unset, .unset, .unset] []) _
      refine XS.iconst X7.here hx rfl (bb at_46) ?_
      refine st8 _ ?_
      show GG p e below T8 (mkF m 49 #[vI p1, vI p2, vJ p3, .second, vJ p4, .second, vJ p5, .second, vJ p6, .second, vI (f_draw p1 p3), vI (f_draw p2 p4), vI (f_draw (f_draw p1 p3) p5), vI (f_draw (f_draw p2 p4) p6), vR b5, .unset, .unset, .unset] [(.ref b8)]) _
      refine XS.dup X8.here hx rfl (bb at_49) rfl rfl ?_
      refine XS.iconst X8.here hx rfl (bb at_50) ?_
      refine XS.iload X8.here hx rfl (bb at_51) rfl ?_
      refine st10 _ ?_
      show GG p e below T10 (mkF m 54 #[vI p1, vI p2, vJ p3, .second, vJ p4, .second, vJ p5, .second, vJ p6, .second, vI (f_draw p1 p3), vI (f_draw p2 p4), vI (f_draw (f_draw p1 p3) p5), vI (f_draw (f_draw p2 p4) p6), vR b5, .unset, .unset, .unset] [(.ref b8)]) _
      refine XS.dup X10.here hx rfl (bb at_54) rfl rfl ?_
      refine XS.iconst X10.here hx rfl (bb at_55) ?_
      refine XS.iload X10.here hx rfl (bb at_56) rfl ?_
      refine st11 _ ?_
      show GG p e below T11 (mkF m 59 #[vI p1, vI p2, vJ p3, .second, vJ p4, .second, vJ p5, .second, vJ p6, .second, vI (f_draw p1 p3), vI (f_draw p2 p4), vI (f_draw (f_draw p1 p3) p5), vI (f_draw (f_draw p2 p4) p6), vR b5, .unset, .unset, .unset] [(.ref b8)]) _
      refine XS.astore X11.here hx rfl (bb at_59) rfl rfl (l' := #[vI p1, vI p2, vJ p3, .second, vJ p4, .second, vJ p5, .second, vJ p6, .second, vI (f_draw p1 p3), vI (f_draw p2 p4), vI (f_draw (f_draw p1 p3) p5), vI (f_draw (f_draw p2 p4) p6), vR b5, vR b8, .unset, .unset]) rfl ?_
      show GG p e below T11 (mkF m 61 #[vI p1, vI p2, vJ p3, .second, vJ p4, .second, vJ p5, .second, vJ p6, .second, vI (f_draw p1 p3), vI (f_draw p2 p4), vI (f_draw (f_draw p1 p3) p5), vI (f_draw (f_draw p2 p4) p6), vR b5, vR b8, .unset, .unset] []) _
      refine XS.iconst X11.here hx rfl (bb at_61) ?_
      refine st12 _ ?_
      show GG p e below T12 (mkF m 64 #[vI p1, vI p2, vJ p3, .second, vJ p4, .second, vJ p5, .second, vJ p6, .second, vI (f_draw p1 p3), vI (f_draw p2 p4), vI (f_draw (f_draw p1 p3) p5), vI (f_draw (f_draw p2 p4) p6), vR b5, vR b8, .unset, .unset] [(.ref b12)]) _
      refine XS.dup X12.here hx rfl (bb at_64) rfl rfl ?_
      refine XS.iconst X12.here hx rfl (bb at_65) ?_
      refine XS.iload X12.here hx rfl (bb at_66) rfl ?_
      refine st15 _ ?_
      show GG p e below T15 (mkF m 69 #[vI p1, vI p2, vJ p3, .second, vJ p4, .second, vJ p5, .second, vJ p6, .second, vI (f_draw p1 p3), vI (f_draw p2 p4), vI (f_draw (f_draw p1 p3) p5), vI (f_draw (f_draw p2 p4) p6), vR b5, vR b8, .unset, .unset] [(.ref b12)]) _
      refine XS.dup X15.here hx rfl (bb at_69) rfl rfl ?_
      refine XS.iconst X15.here hx rfl (bb at_70) ?_
      refine XS.iload X15.here hx rfl (bb at_71) rfl ?_
      refine st16 _ ?_
      show GG p e below T16 (mkF m 74 #[vI p1, vI p2, vJ p3, .second, vJ p4, .second, vJ p5, .second, vJ p6, .second, vI (f_draw p1 p3), vI (f_draw p2 p4), vI (f_draw (f_draw p1 p3) p5), vI (f_draw (f_draw p2 p4) p6), vR b5, vR b8, .unset, .unset] [(.ref b12)]) _
      refine XS.astore X16.here hx rfl (bb at_74) rfl rfl (l' := #[vI p1, vI p2, vJ p3, .second, vJ p4, .second, vJ p5, .second, vJ p6, .second, vI (f_draw p1 p3), vI (f_draw p2 p4), vI (f_draw (f_draw p1 p3) p5), vI (f_draw (f_draw p2 p4) p6), vR b5, vR b8, vR b12, .unset]) rfl ?_
      show GG p e below T16 (mkF m 76 #[vI p1, vI p2, vJ p3, .second, vJ p4, .second, vJ p5, .second, vJ p6, .second, vI (f_draw p1 p3), vI (f_draw p2 p4), vI (f_draw (f_draw p1 p3) p5), vI (f_draw (f_draw p2 p4) p6), vR b5, vR b8, vR b12, .unset] []) _
      refine st17 _ ?_
      show GG p e below T17 (mkF m 79 #[vI p1, vI p2, vJ p3, .second, vJ p4, .second, vJ p5, .second, vJ p6, .second, vI (f_draw p1 p3), vI (f_draw p2 p4), vI (f_draw (f_draw p1 p3) p5), vI (f_draw (f_draw p2 p4) p6), vR b5, vR b8, vR b12, .unset] [(.ref b17)]) _
      refine XS.dup X17.here hx rfl (bb at_79) rfl rfl ?_
      refine XS.iconst X17.here hx rfl (bb at_80) ?_
      refine st21.trans ?_
      show GG p e below T21 (mkF m 84 #[vI p1, vI p2, vJ p3, .second, vJ p4, .second, vJ p5, .second, vJ p6, .second, vI (f_draw p1 p3), vI (f_draw p2 p4), vI (f_draw (f_draw p1 p3) p5), vI (f_draw (f_draw p2 p4) p6), vR b5, vR b8, vR b12, .unset] [(.ref b17)]) _
      refine XS.astore X21.here hx rfl (bb at_84) rfl rfl (l' := #[vI p1, vI p2, vJ p3, .second, vJ p4, .second, vJ p5, .second, vJ p6, .second, vI (f_draw p1 p3), vI (f_draw p2 p4), vI (f_draw (f_draw p1 p3) p5), vI (f_draw (f_draw p2 p4) p6), vR b5, vR b8, vR b12, vR b17]) rfl ?_
      show GG p e below T21 (mkF m 86 #[vI p1, vI p2, vJ p3, .second, vJ p4, .second, vJ p5, .second, vJ p6, .second, vI (f_draw p1 p3), vI (f_draw p2 p4), vI (f_draw (f_draw p1 p3) p5), vI (f_draw (f_draw p2 p4) p6), vR b5, vR b8, vR b12, vR b17] []) _
      refine XS.aload X21.here hx rfl (bb at_86) rfl rfl ?_
      refine XS.aload X21.here hx rfl (bb at_88) rfl rfl ?_
      refine st26.trans ?_
      show GG p e below T26 (mkF m 93 #[vI p1, vI p2, vJ p3, .second, vJ p4, .second, vJ p5, .second, vJ p6, .second, vI (f_draw p1 p3), vI (f_draw p2 p4), vI (f_draw (f_draw p1 p3) p5), vI (f_draw (f_draw p2 p4) p6), vR b5, vR b8, vR b12, vR b17] []) _
      refine XS.aload X26.here hx rfl (bb at_93) rfl rfl ?_
      refine XS.aload X26.here hx rfl (bb at_95) rfl rfl ?_
      exact k)
  by_cases g30 : ((lcmpW (((f_maxI (f_draw p1 p3) p1).toInt64) - ((f_minI (f_draw p1 p3) p1).toInt64)) (65536 : Int64)) < (0 : Int32)) ∧ ((lcmpW (((f_maxI (f_draw p2 p4) p2).toInt64) - ((f_minI (f_draw p2 p4) p2).toInt64)) (65536 : Int64)) < (0 : Int32))
  · skip
    rw [if_pos g30] at hp
    have F32 := ((F24.keep K21 (ninS ne_b8_b17 nin0)).keep K26 (ninS ne_b8_b17 (ninS ne_b8_ob21 (ninS ne_b8_ol21 (ninS ne_b8_oh21 (ninS ne_b8_ov21 nin0))))))
    have O33 := (O28.keep K26 (allS g_b17 (allS g_ob21 (allS g_ol21 (allS g_oh21 (allS g_ov21 all0))))))
    obtain ⟨cq31, kq31, q31a, q31b, q31c⟩ := isOf hZ rfl f26_0
    obtain ⟨_, _, ⟨T31, L31, k31, n31⟩, -, X31, ⟨Lc31, hQ31, l31, y31, z31⟩, st31⟩ := X26.virtualBack hx (y := (⟨cRV, "add", "([I)V"⟩ : MethodName)) (z := (⟨cRV, "add", "([I)V"⟩ : MethodName)) hown (mvT hZ (wd33 hw)) (mvT hZ (wd34 hw)) (notFace_of_selects (args := #[]) (mvT hZ (wd36 hw))) (mvT hZ (wd36 hw)) (mvT hZ (wd35 hw)) (by decide) (backOf (W := 0) (rm_add2N1 l Z a0 hw [] b17 b8 ow21 on21 ob21 ol21 oh21 ov21 kw_21 kn_21 kb_21 kl_21 kh_21 kv_21 (f_base p1 p1) (f_base p2 p2) p1 p2 p1 p2 p1 p2 (0 : Int32) (0 : Int32) (0 : Int32) (0 : Int32) (0 : Int32) (0 : Int32) (0 : Int32) (0 : Int32) (0 : Int32) (0 : Int32) (0 : Int32) (0 : Int32) (0 : Int32) (0 : Int32) k8 (f_draw p1 p3) (f_draw p2 p4) T26.heap n0 (own_z0 O33) O33 S_CS f26_0 f26_1 f26_2 f26_3 f26_4 f26_5 f26_6 f26_7 f26_8 f26_9 f26_10 f26_11 f26_12 f26_13 f26_14 f26_15 F32 g_b17 g_ob21 g_ol21 g_oh21 g_ov21 ne_b17_ow21 ne_b17_on21 ne_b17_ob21 ne_b17_ol21 ne_b17_oh21 ne_b17_ov21 ne_ow21_on21 ne_ow21_ob21 ne_ow21_ol21 ne_ow21_oh21 ne_ow21_ov21 ne_on21_ob21 ne_on21_ol21 ne_on21_oh21 ne_on21_ov21 ne_ob21_ol21 ne_ob21_oh21 ne_ob21_ov21 ne_ol21_oh21 ne_ol21_ov21 ne_oh21_ov21 ne_b8_b17 ne_b8_ow21 ne_b8_on21 ne_b8_ob21 ne_b8_ol21 ne_b8_oh21 ne_b8_ov21 g30.1 g30.2) hZ (wd37 hw) (wd8 hw) (by decide) (by decide)) q31a q31c (g := (mkF m 97 #[vI p1, vI p2, vJ p3, .second, vJ p4, .second, vJ p5, .second, vJ p6, .second, vI (f_draw p1 p3), vI (f_draw p2 p4), vI (f_draw (f_draw p1 p3) p5), vI (f_draw (f_draw p2 p4) p6), vR b5, vR b8, vR b12, vR b17] [(.ref b8), (.ref b17)])) rfl (by rw [hml]; rfl) (Steps.refl _) (argsL := [(.ref b8)]) (rest := []) (lenOf pd___I_V_5 rfl) rfl (by show 2 * 0 + _ ≤ _; exact Nat.le_of_eq rfl) (bb at_97) (fun _ _ => ⟨rfl, rfl, (by decide : 10 + 0 ≤ _), (by decide : 37 + 0 ≤ _)⟩)
    dsimp only [Pt.U, Pt.locs, Pt.cells, Pt.slots] at X31 l31 y31 z31 st31 hQ31
    subst l31 y31 z31
    obtain ⟨rfl, N31q, K31, f31_0, f31_1, f31_2, f31_3, f31_4, f31_5, f31_6, f31_7, f31_8, f31_9, f31_10, f31_11, f31_12, f31_13, f31_14, f31_15⟩ := hQ31
    have N31 := Fr.app N26 N31q
    have pre34 : ∀ t, GG p e below T31 (mkF m 104 #[vI p1, vI p2, vJ p3, .second, vJ p4, .second, vJ p5, .second, vJ p6, .second, vI (f_draw p1 p3), vI (f_draw p2 p4), vI (f_draw (f_draw p1 p3) p5), vI (f_draw (f_draw p2 p4) p6), vR b5, vR b8, vR b12, vR b17] [(.ref b12), (.ref b17)]) t → GG p e below s₁ (entryFrame m #[(.int p1), (.int p2), (.long p3), (.long p4), (.long p5), (.long p6)] maxLocals) t := fun t k => pre29 t (by
        show GG p e below T26 (mkF m 97 #[vI p1, vI p2, vJ p3, .second, vJ p4, .second, vJ p5, .second, vJ p6, .second, vI (f_draw p1 p3), vI (f_draw p2 p4), vI (f_draw (f_draw p1 p3) p5), vI (f_draw (f_draw p2 p4) p6), vR b5, vR b8, vR b12, vR b17] [(.ref b8), (.ref b17)]) _
        refine st31.trans ?_
        show GG p e below T31 (mkF m 100 #[vI p1, vI p2, vJ p3, .second, vJ p4, .second, vJ p5, .second, vJ p6, .second, vI (f_draw p1 p3), vI (f_draw p2 p4), vI (f_draw (f_draw p1 p3) p5), vI (f_draw (f_draw p2 p4) p6), vR b5, vR b8, vR b12, vR b17] []) _
        refine XS.aload X31.here hx rfl (bb at_100) rfl rfl ?_
        refine XS.aload X31.here hx rfl (bb at_102) rfl rfl ?_
        exact k)
    by_cases g35 : ((lcmpW (((f_maxI (f_draw (f_draw p1 p3) p5) (f_maxI (f_draw p1 p3) p1)).toInt64) - ((f_minI (f_draw (f_draw p1 p3) p5) (f_minI (f_draw p1 p3) p1)).toInt64)) (65536 : Int64)) < (0 : Int32)) ∧ ((lcmpW (((f_maxI (f_draw (f_draw p2 p4) p6) (f_maxI (f_draw p2 p4) p2)).toInt64) - ((f_minI (f_draw (f_draw p2 p4) p6) (f_minI (f_draw p2 p4) p2)).toInt64)) (65536 : Int64)) < (0 : Int32))
    · skip
      rw [if_pos g35] at hp
      have F37 := (((F25.keep K21 (ninS ne_b12_b17 nin0)).keep K26 (ninS ne_b12_b17 (ninS ne_b12_ob21 (ninS ne_b12_ol21 (ninS ne_b12_oh21 (ninS ne_b12_ov21 nin0)))))).keep K31 (ninS ne_b12_b17 (ninS ne_b12_ob21 (ninS ne_b12_ol21 (ninS ne_b12_oh21 (ninS ne_b12_ov21 nin0))))))
      have O38 := (O33.keep K31 (allS g_b17 (allS g_ob21 (allS g_ol21 (allS g_oh21 (allS g_ov21 all0))))))
      obtain ⟨cq36, kq36, q36a, q36b, q36c⟩ := isOf hZ rfl f31_0
      obtain ⟨_, _, ⟨T36, L36, k36, n36⟩, -, X36, ⟨Lc36, hQ36, l36, y36, z36⟩, st36⟩ := X31.virtualBack hx (y := (⟨cRV, "add", "([I)V"⟩ : MethodName)) (z := (⟨cRV, "add", "([I)V"⟩ : MethodName)) hown (mvT hZ (wd33 hw)) (mvT hZ (wd34 hw)) (notFace_of_selects (args := #[]) (mvT hZ (wd36 hw))) (mvT hZ (wd36 hw)) (mvT hZ (wd35 hw)) (by decide) (backOf (W := 0) (rm_add2N2 l Z a0 hw [] b17 b12 ow21 on21 ob21 ol21 oh21 ov21 kw_21 kn_21 kb_21 kl_21 kh_21 kv_21 (nbase (f_base p1 p1) p1 p1 (f_draw p1 p3)) (nbase (f_base p2 p2) p2 p2 (f_draw p2 p4)) (f_minI (f_draw p1 p3) p1) (f_minI (f_draw p2 p4) p2) (f_maxI (f_draw p1 p3) p1) (f_maxI (f_draw p2 p4) p2) p1 p2 (f_draw p1 p3) (f_draw p2 p4) (0 : Int32) (0 : Int32) (0 : Int32) (0 : Int32) (0 : Int32) (0 : Int32) (0 : Int32) (0 : Int32) (0 : Int32) (0 : Int32) (0 : Int32) (0 : Int32) k12 (f_draw (f_draw p1 p3) p5) (f_draw (f_draw p2 p4) p6) T31.heap n0 (own_z0 O38) O38 S_CS f31_0 f31_1 f31_2 f31_3 f31_4 f31_5 f31_6 f31_7 f31_8 f31_9 f31_10 f31_11 f31_12 f31_13 f31_14 f31_15 F37 g_b17 g_ob21 g_ol21 g_oh21 g_ov21 ne_b17_ow21 ne_b17_on21 ne_b17_ob21 ne_b17_ol21 ne_b17_oh21 ne_b17_ov21 ne_ow21_on21 ne_ow21_ob21 ne_ow21_ol21 ne_ow21_oh21 ne_ow21_ov21 ne_on21_ob21 ne_on21_ol21 ne_on21_oh21 ne_on21_ov21 ne_ob21_ol21 ne_ob21_oh21 ne_ob21_ov21 ne_ol21_oh21 ne_ol21_ov21 ne_oh21_ov21 ne_b12_b17 ne_b12_ow21 ne_b12_on21 ne_b12_ob21 ne_b12_ol21 ne_b12_oh21 ne_b12_ov21 g35.1 g35.2) hZ (wd37 hw) (wd8 hw) (by decide) (by decide)) q36a q36c (g := (mkF m 104 #[vI p1, vI p2, vJ p3, .second, vJ p4, .second, vJ p5, .second, vJ p6, .second, vI (f_draw p1 p3), vI (f_draw p2 p4), vI (f_draw (f_draw p1 p3) p5), vI (f_draw (f_draw p2 p4) p6), vR b5, vR b8, vR b12, vR b17] [(.ref b12), (.ref b17)])) rfl (by rw [hml]; rfl) (Steps.refl _) (argsL := [(.ref b12)]) (rest := []) (lenOf pd___I_V_5 rfl) rfl (by show 2 * 0 + _ ≤ _; exact Nat.le_of_eq rfl) (bb at_104) (fun _ _ => ⟨rfl, rfl, (by decide : 10 + 0 ≤ _), (by decide : 37 + 0 ≤ _)⟩)
      dsimp only [Pt.U, Pt.locs, Pt.cells, Pt.slots] at X36 l36 y36 z36 st36 hQ36
      subst l36 y36 z36
      obtain ⟨rfl, N36q, K36, f36_0, f36_1, f36_2, f36_3, f36_4, f36_5, f36_6, f36_7, f36_8, f36_9, f36_10, f36_11, f36_12, f36_13, f36_14, f36_15⟩ := hQ36
      have N36 := Fr.app N31 N36q
      obtain ⟨cl39, Ar39, vq39, vS39, vN39, vH39, vG39⟩ := id f36_10
      obtain ⟨cl40, Ar40, vq40, vS40, vN40, vH40, vG40⟩ := id f36_12
      obtain ⟨cl41, Ar41, vq41, vS41, vN41, vH41, vG41⟩ := id f36_15
      have O43 := (O38.keep K36 (allS g_b17 (allS g_ob21 (allS g_ol21 (allS g_oh21 (allS g_ov21 all0))))))
      obtain ⟨cq42, kq42, q42a, q42b, q42c⟩ := isOf hZ rfl f36_0
      obtain ⟨_, _, ⟨T42, L42, k42, n42⟩, -, X42, ⟨Lc42, hQ42, l42, y42, z42⟩, st42⟩ := X36.virtualBack hx (y := (⟨cRV, "get", "(II)I"⟩ : MethodName)) (z := (⟨cRV, "get", "(II)I"⟩ : MethodName)) hown (mvT hZ (wd75 hw)) (mvT hZ (wd76 hw)) (notFace_of_selects (args := #[]) (mvT hZ (wd78 hw))) (mvT hZ (wd78 hw)) (mvT hZ (wd77 hw)) (by decide) (backOf (W := 0) (rm_get2N l Z a0 hw [] b17 (0 : Int32) (0 : Int32) on21 ob21 ov21 cl39 cl40 cl41 (nbase (nbase (f_base p1 p1) p1 p1 (f_draw p1 p3)) (f_minI (f_draw p1 p3) p1) (f_maxI (f_draw p1 p3) p1) (f_draw (f_draw p1 p3) p5)) p1 T36.heap n0 (own_z0 O43) O43 S_CS f36_1 f36_4 f36_5 Ar39 (inb_of vS39 ⟨by decide, by decide⟩) (vH39.at (inb_of vS39 ⟨by decide, by decide⟩) rfl) Ar40 (inb_of vS40 ⟨by decide, by decide⟩) (vH40.at (inb_of vS40 ⟨by decide, by decide⟩) rfl) Ar41 (inb_of vS41 ⟨by decide, by decide⟩) (vH41.at (inb_of vS41 ⟨by decide, by decide⟩) rfl) (own_inN (own_inN (own_inS p1) (own_btS p1) g30.1) (own_btN (own_btS p1)) g35.1)) hZ (wd79 hw) (wd8 hw) (by decide) (by decide)) q42a q42c (g := (mkF m 111 #[vI p1, vI p2, vJ p3, .second, vJ p4, .second, vJ p5, .second, vJ p6, .second, vI (f_draw p1 p3), vI (f_draw p2 p4), vI (f_draw (f_draw p1 p3) p5), vI (f_draw (f_draw p2 p4) p6), vR b5, vR b8, vR b12, vR b17] [(.int 0), (.int 0), (.ref b17)])) rfl (by rw [hml]; rfl) (Steps.refl _) (argsL := [(.int 0), (.int 0)]) (rest := []) (lenOf pd__II_I_5 rfl) rfl (by show 2 * 0 + _ ≤ _; exact Nat.le_of_eq rfl) (bb at_111) (fun _ _ => ⟨rfl, rfl, (by decide : 10 + 0 ≤ _), (by decide : 37 + 0 ≤ _)⟩)
      dsimp only [Pt.U, Pt.locs, Pt.cells, Pt.slots] at X42 l42 y42 z42 st42 hQ42
      subst l42 y42 z42
      obtain ⟨rfl, N42q, e42⟩ := hQ42
      have N42 := Fr.app N36 N42q
      obtain ⟨cl44, Ar44, vq44, vS44, vN44, vH44, vG44⟩ := id f36_10
      obtain ⟨cl45, Ar45, vq45, vS45, vN45, vH45, vG45⟩ := id f36_12
      obtain ⟨cl46, Ar46, vq46, vS46, vN46, vH46, vG46⟩ := id f36_15
      obtain ⟨cq47, kq47, q47a, q47b, q47c⟩ := isOf hZ e42 f36_0
      obtain ⟨_, _, ⟨T47, L47, k47, n47⟩, -, X47, ⟨Lc47, hQ47, l47, y47, z47⟩, st47⟩ := X42.virtualBack hx (y := (⟨cRV, "get", "(II)I"⟩ : MethodName)) (z := (⟨cRV, "get", "(II)I"⟩ : MethodName)) hown (mvT hZ (wd75 hw)) (mvT hZ (wd76 hw)) (notFace_of_selects (args := #[]) (mvT hZ (wd78 hw))) (mvT hZ (wd78 hw)) (mvT hZ (wd77 hw)) (by decide) (backOf (W := 0) (rm_get2N l Z a0 hw [] b17 (0 : Int32) (1 : Int32) on21 ob21 ov21 cl44 cl45 cl46 (nbase (nbase (f_base p2 p2) p2 p2 (f_draw p2 p4)) (f_minI (f_draw p2 p4) p2) (f_maxI (f_draw p2 p4) p2) (f_draw (f_draw p2 p4) p6)) p2 T36.heap n0 (own_z0 O43) O43 S_CS f36_1 f36_4 f36_5 Ar44 (inb_of vS44 ⟨by decide, by decide⟩) (vH44.at (inb_of vS44 ⟨by decide, by decide⟩) rfl) Ar45 (inb_of vS45 ⟨by decide, by decide⟩) (vH45.at (inb_of vS45 ⟨by decide, by decide⟩) rfl) Ar46 (inb_of vS46 ⟨by decide, by decide⟩) (vH46.at (inb_of vS46 ⟨by decide, by decide⟩) rfl) (own_inN (own_inN (own_inS p2) (own_btS p2) g30.2) (own_btN (own_btS p2)) g35.2)) hZ (wd79 hw) (wd8 hw) (by decide) (by decide)) q47a q47c (g := (mkF m 122 #[vI p1, vI p2, vJ p3, .second, vJ p4, .second, vJ p5, .second, vJ p6, .second, vI (f_draw p1 p3), vI (f_draw p2 p4), vI (f_draw (f_draw p1 p3) p5), vI (f_draw (f_draw p2 p4) p6), vR b5, vR b8, vR b12, vR b17] [(.int 1), (.int 0), (.ref b17)])) rfl (by rw [hml]; rfl) (Steps.refl _) (argsL := [(.int 0), (.int 1)]) (rest := []) (lenOf pd__II_I_5 rfl) rfl (by show 2 * 0 + _ ≤ _; exact Nat.le_of_eq rfl) (bb at_122) (fun _ _ => ⟨rfl, e42, (by decide : 10 + 0 ≤ _), (by decide : 37 + 0 ≤ _)⟩)
      dsimp only [Pt.U, Pt.locs, Pt.cells, Pt.slots] at X47 l47 y47 z47 st47 hQ47
      subst l47 y47 z47
      obtain ⟨rfl, N47q, e47⟩ := hQ47
      have N47 := Fr.app N42 N47q
      obtain ⟨cl48, Ar48, vq48, vS48, vN48, vH48, vG48⟩ := id f36_10
      obtain ⟨cl49, Ar49, vq49, vS49, vN49, vH49, vG49⟩ := id f36_12
      obtain ⟨cl50, Ar50, vq50, vS50, vN50, vH50, vG50⟩ := id f36_15
      obtain ⟨cq51, kq51, q51a, q51b, q51c⟩ := isOf hZ e47 f36_0
      obtain ⟨_, _, ⟨T51, L51, k51, n51⟩, -, X51, ⟨Lc51, hQ51, l51, y51, z51⟩, st51⟩ := X47.virtualBack hx (y := (⟨cRV, "get", "(II)I"⟩ : MethodName)) (z := (⟨cRV, "get", "(II)I"⟩ : MethodName)) hown (mvT hZ (wd75 hw)) (mvT hZ (wd76 hw)) (notFace_of_selects (args := #[]) (mvT hZ (wd78 hw))) (mvT hZ (wd78 hw)) (mvT hZ (wd77 hw)) (by decide) (backOf (W := 0) (rm_get2N l Z a0 hw [] b17 (1 : Int32) (0 : Int32) on21 ob21 ov21 cl48 cl49 cl50 (nbase (nbase (f_base p1 p1) p1 p1 (f_draw p1 p3)) (f_minI (f_draw p1 p3) p1) (f_maxI (f_draw p1 p3) p1) (f_draw (f_draw p1 p3) p5)) (f_draw p1 p3) T36.heap n0 (own_z0 O43) O43 S_CS f36_1 f36_4 f36_5 Ar48 (inb_of vS48 ⟨by decide, by decide⟩) (vH48.at (inb_of vS48 ⟨by decide, by decide⟩) rfl) Ar49 (inb_of vS49 ⟨by decide, by decide⟩) (vH49.at (inb_of vS49 ⟨by decide, by decide⟩) rfl) Ar50 (inb_of vS50 ⟨by decide, by decide⟩) (vH50.at (inb_of vS50 ⟨by decide, by decide⟩) rfl) (own_inN (own_inT g30.1) own_btT g35.1)) hZ (wd79 hw) (wd8 hw) (by decide) (by decide)) q51a q51c (g := (mkF m 133 #[vI p1, vI p2, vJ p3, .second, vJ p4, .second, vJ p5, .second, vJ p6, .second, vI (f_draw p1 p3), vI (f_draw p2 p4), vI (f_draw (f_draw p1 p3) p5), vI (f_draw (f_draw p2 p4) p6), vR b5, vR b8, vR b12, vR b17] [(.int 0), (.int 1), (.ref b17)])) rfl (by rw [hml]; rfl) (Steps.refl _) (argsL := [(.int 1), (.int 0)]) (rest := []) (lenOf pd__II_I_5 rfl) rfl (by show 2 * 0 + _ ≤ _; exact Nat.le_of_eq rfl) (bb at_133) (fun _ _ => ⟨rfl, e47, (by decide : 10 + 0 ≤ _), (by decide : 37 + 0 ≤ _)⟩)
      dsimp only [Pt.U, Pt.locs, Pt.cells, Pt.slots] at X51 l51 y51 z51 st51 hQ51
      subst l51 y51 z51
      obtain ⟨rfl, N51q, e51⟩ := hQ51
      have N51 := Fr.app N47 N51q
      obtain ⟨cl52, Ar52, vq52, vS52, vN52, vH52, vG52⟩ := id f36_10
      obtain ⟨cl53, Ar53, vq53, vS53, vN53, vH53, vG53⟩ := id f36_12
      obtain ⟨cl54, Ar54, vq54, vS54, vN54, vH54, vG54⟩ := id f36_15
      obtain ⟨cq55, kq55, q55a, q55b, q55c⟩ := isOf hZ e51 f36_0
      obtain ⟨_, _, ⟨T55, L55, k55, n55⟩, -, X55, ⟨Lc55, hQ55, l55, y55, z55⟩, st55⟩ := X51.virtualBack hx (y := (⟨cRV, "get", "(II)I"⟩ : MethodName)) (z := (⟨cRV, "get", "(II)I"⟩ : MethodName)) hown (mvT hZ (wd75 hw)) (mvT hZ (wd76 hw)) (notFace_of_selects (args := #[]) (mvT hZ (wd78 hw))) (mvT hZ (wd78 hw)) (mvT hZ (wd77 hw)) (by decide) (backOf (W := 0) (rm_get2N l Z a0 hw [] b17 (1 : Int32) (1 : Int32) on21 ob21 ov21 cl52 cl53 cl54 (nbase (nbase (f_base p2 p2) p2 p2 (f_draw p2 p4)) (f_minI (f_draw p2 p4) p2) (f_maxI (f_draw p2 p4) p2) (f_draw (f_draw p2 p4) p6)) (f_draw p2 p4) T36.heap n0 (own_z0 O43) O43 S_CS f36_1 f36_4 f36_5 Ar52 (inb_of vS52 ⟨by decide, by decide⟩) (vH52.at (inb_of vS52 ⟨by decide, by decide⟩) rfl) Ar53 (inb_of vS53 ⟨by decide, by decide⟩) (vH53.at (inb_of vS53 ⟨by decide, by decide⟩) rfl) Ar54 (inb_of vS54 ⟨by decide, by decide⟩) (vH54.at (inb_of vS54 ⟨by decide, by decide⟩) rfl) (own_inN (own_inT g30.2) own_btT g35.2)) hZ (wd79 hw) (wd8 hw) (by decide) (by decide)) q55a q55c (g := (mkF m 145 #[vI p1, vI p2, vJ p3, .second, vJ p4, .second, vJ p5, .second, vJ p6, .second, vI (f_draw p1 p3), vI (f_draw p2 p4), vI (f_draw (f_draw p1 p3) p5), vI (f_draw (f_draw p2 p4) p6), vR b5, vR b8, vR b12, vR b17] [(.int 1), (.int 1), (.ref b17)])) rfl (by rw [hml]; rfl) (Steps.refl _) (argsL := [(.int 1), (.int 1)]) (rest := []) (lenOf pd__II_I_5 rfl) rfl (by show 2 * 0 + _ ≤ _; exact Nat.le_of_eq rfl) (bb at_145) (fun _ _ => ⟨rfl, e51, (by decide : 10 + 0 ≤ _), (by decide : 37 + 0 ≤ _)⟩)
      dsimp only [Pt.U, Pt.locs, Pt.cells, Pt.slots] at X55 l55 y55 z55 st55 hQ55
      subst l55 y55 z55
      obtain ⟨rfl, N55q, e55⟩ := hQ55
      have N55 := Fr.app N51 N55q
      obtain ⟨cl56, Ar56, vq56, vS56, vN56, vH56, vG56⟩ := id f36_10
      obtain ⟨cl57, Ar57, vq57, vS57, vN57, vH57, vG57⟩ := id f36_12
      obtain ⟨cl58, Ar58, vq58, vS58, vN58, vH58, vG58⟩ := id f36_15
      obtain ⟨cq59, kq59, q59a, q59b, q59c⟩ := isOf hZ e55 f36_0
      obtain ⟨_, _, ⟨T59, L59, k59, n59⟩, -, X59, ⟨Lc59, hQ59, l59, y59, z59⟩, st59⟩ := X55.virtualBack hx (y := (⟨cRV, "get", "(II)I"⟩ : MethodName)) (z := (⟨cRV, "get", "(II)I"⟩ : MethodName)) hown (mvT hZ (wd75 hw)) (mvT hZ (wd76 hw)) (notFace_of_selects (args := #[]) (mvT hZ (wd78 hw))) (mvT hZ (wd78 hw)) (mvT hZ (wd77 hw)) (by decide) (backOf (W := 0) (rm_get2N l Z a0 hw [] b17 (2 : Int32) (0 : Int32) on21 ob21 ov21 cl56 cl57 cl58 (nbase (nbase (f_base p1 p1) p1 p1 (f_draw p1 p3)) (f_minI (f_draw p1 p3) p1) (f_maxI (f_draw p1 p3) p1) (f_draw (f_draw p1 p3) p5)) (f_draw (f_draw p1 p3) p5) T36.heap n0 (own_z0 O43) O43 S_CS f36_1 f36_4 f36_5 Ar56 (inb_of vS56 ⟨by decide, by decide⟩) (vH56.at (inb_of vS56 ⟨by decide, by decide⟩) rfl) Ar57 (inb_of vS57 ⟨by decide, by decide⟩) (vH57.at (inb_of vS57 ⟨by decide, by decide⟩) rfl) Ar58 (inb_of vS58 ⟨by decide, by decide⟩) (vH58.at (inb_of vS58 ⟨by decide, by decide⟩) rfl) (own_inT g35.1)) hZ (wd79 hw) (wd8 hw) (by decide) (by decide)) q59a q59c (g := (mkF m 157 #[vI p1, vI p2, vJ p3, .second, vJ p4, .second, vJ p5, .second, vJ p6, .second, vI (f_draw p1 p3), vI (f_draw p2 p4), vI (f_draw (f_draw p1 p3) p5), vI (f_draw (f_draw p2 p4) p6), vR b5, vR b8, vR b12, vR b17] [(.int 0), (.int 2), (.ref b17)])) rfl (by rw [hml]; rfl) (Steps.refl _) (argsL := [(.int 2), (.int 0)]) (rest := []) (lenOf pd__II_I_5 rfl) rfl (by show 2 * 0 + _ ≤ _; exact Nat.le_of_eq rfl) (bb at_157) (fun _ _ => ⟨rfl, e55, (by decide : 10 + 0 ≤ _), (by decide : 37 + 0 ≤ _)⟩)
      dsimp only [Pt.U, Pt.locs, Pt.cells, Pt.slots] at X59 l59 y59 z59 st59 hQ59
      subst l59 y59 z59
      obtain ⟨rfl, N59q, e59⟩ := hQ59
      have N59 := Fr.app N55 N59q
      obtain ⟨cl60, Ar60, vq60, vS60, vN60, vH60, vG60⟩ := id f36_10
      obtain ⟨cl61, Ar61, vq61, vS61, vN61, vH61, vG61⟩ := id f36_12
      obtain ⟨cl62, Ar62, vq62, vS62, vN62, vH62, vG62⟩ := id f36_15
      obtain ⟨cq63, kq63, q63a, q63b, q63c⟩ := isOf hZ e59 f36_0
      obtain ⟨_, _, ⟨T63, L63, k63, n63⟩, -, X63, ⟨Lc63, hQ63, l63, y63, z63⟩, st63⟩ := X59.virtualBack hx (y := (⟨cRV, "get", "(II)I"⟩ : MethodName)) (z := (⟨cRV, "get", "(II)I"⟩ : MethodName)) hown (mvT hZ (wd75 hw)) (mvT hZ (wd76 hw)) (notFace_of_selects (args := #[]) (mvT hZ (wd78 hw))) (mvT hZ (wd78 hw)) (mvT hZ (wd77 hw)) (by decide) (backOf (W := 0) (rm_get2N l Z a0 hw [] b17 (2 : Int32) (1 : Int32) on21 ob21 ov21 cl60 cl61 cl62 (nbase (nbase (f_base p2 p2) p2 p2 (f_draw p2 p4)) (f_minI (f_draw p2 p4) p2) (f_maxI (f_draw p2 p4) p2) (f_draw (f_draw p2 p4) p6)) (f_draw (f_draw p2 p4) p6) T36.heap n0 (own_z0 O43) O43 S_CS f36_1 f36_4 f36_5 Ar60 (inb_of vS60 ⟨by decide, by decide⟩) (vH60.at (inb_of vS60 ⟨by decide, by decide⟩) rfl) Ar61 (inb_of vS61 ⟨by decide, by decide⟩) (vH61.at (inb_of vS61 ⟨by decide, by decide⟩) rfl) Ar62 (inb_of vS62 ⟨by decide, by decide⟩) (vH62.at (inb_of vS62 ⟨by decide, by decide⟩) rfl) (own_inT g35.2)) hZ (wd79 hw) (wd8 hw) (by decide) (by decide)) q63a q63c (g := (mkF m 169 #[vI p1, vI p2, vJ p3, .second, vJ p4, .second, vJ p5, .second, vJ p6, .second, vI (f_draw p1 p3), vI (f_draw p2 p4), vI (f_draw (f_draw p1 p3) p5), vI (f_draw (f_draw p2 p4) p6), vR b5, vR b8, vR b12, vR b17] [(.int 1), (.int 2), (.ref b17)])) rfl (by rw [hml]; rfl) (Steps.refl _) (argsL := [(.int 2), (.int 1)]) (rest := []) (lenOf pd__II_I_5 rfl) rfl (by show 2 * 0 + _ ≤ _; exact Nat.le_of_eq rfl) (bb at_169) (fun _ _ => ⟨rfl, e59, (by decide : 10 + 0 ≤ _), (by decide : 37 + 0 ≤ _)⟩)
      dsimp only [Pt.U, Pt.locs, Pt.cells, Pt.slots] at X63 l63 y63 z63 st63 hQ63
      subst l63 y63 z63
      obtain ⟨rfl, N63q, e63⟩ := hQ63
      have N63 := Fr.app N59 N63q
      obtain ⟨fs, hr, hrun, hended, hW, hsame⟩ := X63.leave (v := some (.int 1)) (fun h => by rw [Bd.returns] at h; cases h)
      refine ⟨_, _, pre34 _ ?_, hrun, hended, _, _, rfl, ?_, ⟨_, rfl⟩, hW, hsame.mono (by decide) (by decide)⟩
      · show GG p e below T31 (mkF m 104 #[vI p1, vI p2, vJ p3, .second, vJ p4, .second, vJ p5, .second, vJ p6, .second, vI (f_draw p1 p3), vI (f_draw p2 p4), vI (f_draw (f_draw p1 p3) p5), vI (f_draw (f_draw p2 p4) p6), vR b5, vR b8, vR b12, vR b17] [(.ref b12), (.ref b17)]) _
        refine st36.trans ?_
        show GG p e below T36 (mkF m 107 #[vI p1, vI p2, vJ p3, .second, vJ p4, .second, vJ p5, .second, vJ p6, .second, vI (f_draw p1 p3), vI (f_draw p2 p4), vI (f_draw (f_draw p1 p3) p5), vI (f_draw (f_draw p2 p4) p6), vR b5, vR b8, vR b12, vR b17] []) _
        refine XS.aload X36.here hx rfl (bb at_107) rfl rfl ?_
        refine XS.iconst X36.here hx rfl (bb at_109) ?_
        refine XS.iconst X36.here hx rfl (bb at_110) ?_
        refine st42.trans ?_
        show GG p e below T42 (mkF m 114 #[vI p1, vI p2, vJ p3, .second, vJ p4, .second, vJ p5, .second, vJ p6, .second, vI (f_draw p1 p3), vI (f_draw p2 p4), vI (f_draw (f_draw p1 p3) p5), vI (f_draw (f_draw p2 p4) p6), vR b5, vR b8, vR b12, vR b17] [(.int p1)]) _
        refine XS.iloadN X42.here hx rfl (bb at_114) rfl ?_
        refine XS.icmpNo X42.here hx rfl (bb at_115) rfl (teq (rfl : p1 = p1)).2 ?_
        refine XS.aload X42.here hx rfl (bb at_118) rfl rfl ?_
        refine XS.iconst X42.here hx rfl (bb at_120) ?_
        show GG p e below T42 (mkF m 121 #[vI p1, vI p2, vJ p3, .second, vJ p4, .second, vJ p5, .second, vJ p6, .second, vI (f_draw p1 p3), vI (f_draw p2 p4), vI (f_draw (f_draw p1 p3) p5), vI (f_draw (f_draw p2 p4) p6), vR b5, vR b8, vR b12, vR b17] [(.int 0), (.ref b17)]) _
        refine XS.iconst X42.here hx rfl (bb at_121) ?_
        refine st47.trans ?_
        show GG p e below T47 (mkF m 125 #[vI p1, vI p2, vJ p3, .second, vJ p4, .second, vJ p5, .second, vJ p6, .second, vI (f_draw p1 p3), vI (f_draw p2 p4), vI (f_draw (f_draw p1 p3) p5), vI (f_draw (f_draw p2 p4) p6), vR b5, vR b8, vR b12, vR b17] [(.int p2)]) _
        refine XS.iloadN X47.here hx rfl (bb at_125) rfl ?_
        refine XS.icmpNo X47.here hx rfl (bb at_126) rfl (teq (rfl : p2 = p2)).2 ?_
        refine XS.aload X47.here hx rfl (bb at_129) rfl rfl ?_
        refine XS.iconst X47.here hx rfl (bb at_131) ?_
        show GG p e below T47 (mkF m 132 #[vI p1, vI p2, vJ p3, .second, vJ p4, .second, vJ p5, .second, vJ p6, .second, vI (f_draw p1 p3), vI (f_draw p2 p4), vI (f_draw (f_draw p1 p3) p5), vI (f_draw (f_draw p2 p4) p6), vR b5, vR b8, vR b12, vR b17] [(.int 1), (.ref b17)]) _
        refine XS.iconst X47.here hx rfl (bb at_132) ?_
        refine st51.trans ?_
        show GG p e below T51 (mkF m 136 #[vI p1, vI p2, vJ p3, .second, vJ p4, .second, vJ p5, .second, vJ p6, .second, vI (f_draw p1 p3), vI (f_draw p2 p4), vI (f_draw (f_draw p1 p3) p5), vI (f_draw (f_draw p2 p4) p6), vR b5, vR b8, vR b12, vR b17] [(.int (f_draw p1 p3))]) _
        refine XS.iload X51.here hx rfl (bb at_136) rfl ?_
        refine XS.icmpNo X51.here hx rfl (bb at_138) rfl (teq (rfl : (f_draw p1 p3) = (f_draw p1 p3))).2 ?_
        refine XS.aload X51.here hx rfl (bb at_141) rfl rfl ?_
        refine XS.iconst X51.here hx rfl (bb at_143) ?_
        show GG p e below T51 (mkF m 144 #[vI p1, vI p2, vJ p3, .second, vJ p4, .second, vJ p5, .second, vJ p6, .second, vI (f_draw p1 p3), vI (f_draw p2 p4), vI (f_draw (f_draw p1 p3) p5), vI (f_draw (f_draw p2 p4) p6), vR b5, vR b8, vR b12, vR b17] [(.int 1), (.ref b17)]) _
        refine XS.iconst X51.here hx rfl (bb at_144) ?_
        refine st55.trans ?_
        show GG p e below T55 (mkF m 148 #[vI p1, vI p2, vJ p3, .second, vJ p4, .second, vJ p5, .second, vJ p6, .second, vI (f_draw p1 p3), vI (f_draw p2 p4), vI (f_draw (f_draw p1 p3) p5), vI (f_draw (f_draw p2 p4) p6), vR b5, vR b8, vR b12, vR b17] [(.int (f_draw p2 p4))]) _
        refine XS.iload X55.here hx rfl (bb at_148) rfl ?_
        refine XS.icmpNo X55.here hx rfl (bb at_150) rfl (teq (rfl : (f_draw p2 p4) = (f_draw p2 p4))).2 ?_
        refine XS.aload X55.here hx rfl (bb at_153) rfl rfl ?_
        refine XS.iconst X55.here hx rfl (bb at_155) ?_
        show GG p e below T55 (mkF m 156 #[vI p1, vI p2, vJ p3, .second, vJ p4, .second, vJ p5, .second, vJ p6, .second, vI (f_draw p1 p3), vI (f_draw p2 p4), vI (f_draw (f_draw p1 p3) p5), vI (f_draw (f_draw p2 p4) p6), vR b5, vR b8, vR b12, vR b17] [(.int 2), (.ref b17)]) _
        refine XS.iconst X55.here hx rfl (bb at_156) ?_
        refine st59.trans ?_
        show GG p e below T59 (mkF m 160 #[vI p1, vI p2, vJ p3, .second, vJ p4, .second, vJ p5, .second, vJ p6, .second, vI (f_draw p1 p3), vI (f_draw p2 p4), vI (f_draw (f_draw p1 p3) p5), vI (f_draw (f_draw p2 p4) p6), vR b5, vR b8, vR b12, vR b17] [(.int (f_draw (f_draw p1 p3) p5))]) _
        refine XS.iload X59.here hx rfl (bb at_160) rfl ?_
        refine XS.icmpNo X59.here hx rfl (bb at_162) rfl (teq (rfl : (f_draw (f_draw p1 p3) p5) = (f_draw (f_draw p1 p3) p5))).2 ?_
        refine XS.aload X59.here hx rfl (bb at_165) rfl rfl ?_
        refine XS.iconst X59.here hx rfl (bb at_167) ?_
        show GG p e below T59 (mkF m 168 #[vI p1, vI p2, vJ p3, .second, vJ p4, .second, vJ p5, .second, vJ p6, .second, vI (f_draw p1 p3), vI (f_draw p2 p4), vI (f_draw (f_draw p1 p3) p5), vI (f_draw (f_draw p2 p4) p6), vR b5, vR b8, vR b12, vR b17] [(.int 2), (.ref b17)]) _
        refine XS.iconst X59.here hx rfl (bb at_168) ?_
        refine st63.trans ?_
        show GG p e below T63 (mkF m 172 #[vI p1, vI p2, vJ p3, .second, vJ p4, .second, vJ p5, .second, vJ p6, .second, vI (f_draw p1 p3), vI (f_draw p2 p4), vI (f_draw (f_draw p1 p3) p5), vI (f_draw (f_draw p2 p4) p6), vR b5, vR b8, vR b12, vR b17] [(.int (f_draw (f_draw p2 p4) p6))]) _
        refine XS.iload X63.here hx rfl (bb at_172) rfl ?_
        refine XS.icmpNo X63.here hx rfl (bb at_174) rfl (teq (rfl : (f_draw (f_draw p2 p4) p6) = (f_draw (f_draw p2 p4) p6))).2 ?_
        refine XS.iconst X63.here hx rfl (bb at_177) ?_
        refine XS.goto X63.here hx rfl (pc0 := 178) (pc' := 182) rfl (bb at_178) (by decide) (by decide) ?_
        show GG p e below T63 (mkF m 182 #[vI p1, vI p2, vJ p3, .second, vJ p4, .second, vJ p5, .second, vJ p6, .second, vI (f_draw p1 p3), vI (f_draw p2 p4), vI (f_draw (f_draw p1 p3) p5), vI (f_draw (f_draw p2 p4) p6), vR b5, vR b8, vR b12, vR b17] [(.int 1)]) _
        exact retN X63 hx (t := .boolean) Bd.returns (by simp) (bb at_182) hr
      · exact ⟨rfl, N63⟩
    · skip
      rw [if_neg g35] at hp
      have F65 := (((F25.keep K21 (ninS ne_b12_b17 nin0)).keep K26 (ninS ne_b12_b17 (ninS ne_b12_ob21 (ninS ne_b12_ol21 (ninS ne_b12_oh21 (ninS ne_b12_ov21 nin0)))))).keep K31 (ninS ne_b12_b17 (ninS ne_b12_ob21 (ninS ne_b12_ol21 (ninS ne_b12_oh21 (ninS ne_b12_ov21 nin0))))))
      have O66 := (O33.keep K31 (allS g_b17 (allS g_ob21 (allS g_ol21 (allS g_oh21 (allS g_ov21 all0))))))
      obtain ⟨cq64, kq64, q64a, q64b, q64c⟩ := isOf hZ rfl f31_0
      obtain ⟨_, _, ⟨T64, L64, k64, n64⟩, -, X64, ⟨Lc64, hQ64, l64, y64, z64⟩, st64⟩ := X31.virtualBack hx (y := (⟨cRV, "add", "([I)V"⟩ : MethodName)) (z := (⟨cRV, "add", "([I)V"⟩ : MethodName)) hown (mvT hZ (wd33 hw)) (mvT hZ (wd34 hw)) (notFace_of_selects (args := #[]) (mvT hZ (wd36 hw))) (mvT hZ (wd36 hw)) (mvT hZ (wd35 hw)) (by decide) (backOf (W := 0) (rm_add2W2 l Z a0 hw [] b17 b12 ow21 on21 ob21 ol21 oh21 ov21 kw_21 kn_21 kb_21 kl_21 kh_21 kv_21 (nbase (f_base p1 p1) p1 p1 (f_draw p1 p3)) (nbase (f_base p2 p2) p2 p2 (f_draw p2 p4)) (f_minI (f_draw p1 p3) p1) (f_minI (f_draw p2 p4) p2) (f_maxI (f_draw p1 p3) p1) (f_maxI (f_draw p2 p4) p2) p1 p2 (f_draw p1 p3) (f_draw p2 p4) (0 : Int32) (0 : Int32) (0 : Int32) (0 : Int32) (0 : Int32) (0 : Int32) (0 : Int32) (0 : Int32) (0 : Int32) (0 : Int32) (0 : Int32) (0 : Int32) k12 (f_draw (f_draw p1 p3) p5) (f_draw (f_draw p2 p4) p6) T31.heap n0 (own_z0 O66) O66 S_CS f31_0 f31_1 f31_2 f31_3 f31_4 f31_5 f31_6 f31_7 f31_8 f31_9 f31_10 f31_11 f31_12 f31_13 f31_14 f31_15 F65 g_b17 g_ow21 g_on21 ne_b17_ow21 ne_b17_on21 ne_b17_ob21 ne_b17_ol21 ne_b17_oh21 ne_b17_ov21 ne_ow21_on21 ne_ow21_ob21 ne_ow21_ol21 ne_ow21_oh21 ne_ow21_ov21 ne_on21_ob21 ne_on21_ol21 ne_on21_oh21 ne_on21_ov21 ne_ob21_ol21 ne_ob21_oh21 ne_ob21_ov21 ne_ol21_oh21 ne_ol21_ov21 ne_oh21_ov21 ne_b12_b17 ne_b12_ow21 ne_b12_on21 ne_b12_ob21 ne_b12_ol21 ne_b12_oh21 ne_b12_ov21 (own_inN (own_inS p1) (own_btS p1) g30.1) (own_inN (own_inS p2) (own_btS p2) g30.2) (own_inT g30.1) (own_inT g30.2) g35) hZ (wd37 hw) (wd8 hw) (by decide) (by decide)) q64a q64c (g := (mkF m 104 #[vI p1, vI p2, vJ p3, .second, vJ p4, .second, vJ p5, .second, vJ p6, .second, vI (f_draw p1 p3), vI (f_draw p2 p4), vI (f_draw (f_draw p1 p3) p5), vI (f_draw (f_draw p2 p4) p6), vR b5, vR b8, vR b12, vR b17] [(.ref b12), (.ref b17)])) rfl (by rw [hml]; rfl) (Steps.refl _) (argsL := [(.ref b12)]) (rest := []) (lenOf pd___I_V_5 rfl) rfl (by show 2 * 0 + _ ≤ _; exact Nat.le_of_eq rfl) (bb at_104) (fun _ _ => ⟨rfl, rfl, (by decide : 10 + 1 ≤ _), (by decide : 37 + 16 ≤ _)⟩)
      dsimp only [Pt.U, Pt.locs, Pt.cells, Pt.slots] at X64 l64 y64 z64 st64 hQ64
      subst l64 y64 z64
      obtain ⟨oz64, kz_64, rfl, N64q, K64, szz_oz64, f64_0, f64_1, f64_2, f64_3, f64_4, f64_5, f64_6, f64_7, f64_8, f64_9, f64_10, f64_11, f64_12, f64_13, f64_14, f64_15⟩ := hQ64
      have N64 := Fr.app N31 N64q
      have g_oz64 : n0 ≤ oz64 := Nat.le_trans (own_z0 O66) szz_oz64
      have sz_oz64 : h0.size ≤ oz64 := Nat.le_trans (Nat.le_trans (Nat.le_trans (Nat.le_trans (Nat.le_trans (Nat.le_trans (Nat.le_trans (Nat.le_trans (Nat.le_trans (Nat.le_trans (Nat.le_trans (Nat.le_trans (Nat.le_trans (Nat.le_trans (Nat.le_refl _) E5.1) (Keep.of_wr W6).1) (Keep.of_wr W7).1) E8.1) (Keep.of_wr W10).1) (Keep.of_wr W11).1) E12.1) (Keep.of_wr W15).1) (Keep.of_wr W16).1) E17.1) K21.1) K26.1) K31.1) szz_oz64
      have F67 := ((F27.keep K26 (ninS ne_b5_b17 (ninS ne_b5_ob21 (ninS ne_b5_ol21 (ninS ne_b5_oh21 (ninS ne_b5_ov21 nin0)))))).keep K31 (ninS ne_b5_b17 (ninS ne_b5_ob21 (ninS ne_b5_ol21 (ninS ne_b5_oh21 (ninS ne_b5_ov21 nin0))))))
      have ne_b5_oz64 : b5 ≠ oz64 := Nat.ne_of_lt (Nat.lt_of_lt_of_le F67.lt szz_oz64)
      have F68 := (F32.keep K31 (ninS ne_b8_b17 (ninS ne_b8_ob21 (ninS ne_b8_ol21 (ninS ne_b8_oh21 (ninS ne_b8_ov21 nin0))))))
      have ne_b8_oz64 : b8 ≠ oz64 := Nat.ne_of_lt (Nat.lt_of_lt_of_le F68.lt szz_oz64)
      have ne_b12_oz64 : b12 ≠ oz64 := Nat.ne_of_lt (Nat.lt_of_lt_of_le F65.lt szz_oz64)
      have ne_b17_oz64 : b17 ≠ oz64 := Nat.ne_of_lt (Nat.lt_of_lt_of_le f31_0.lt szz_oz64)
      have ne_ow21_oz64 : ow21 ≠ oz64 := Nat.ne_of_lt (Nat.lt_of_lt_of_le f31_8.lt szz_oz64)
      have ne_on21_oz64 : on21 ≠ oz64 := Nat.ne_of_lt (Nat.lt_of_lt_of_le f31_10.lt szz_oz64)
      have ne_ob21_oz64 : ob21 ≠ oz64 := Nat.ne_of_lt (Nat.lt_of_lt_of_le f31_12.lt szz_oz64)
      have ne_ol21_oz64 : ol21 ≠ oz64 := Nat.ne_of_lt (Nat.lt_of_lt_of_le f31_13.lt szz_oz64)
      have ne_oh21_oz64 : oh21 ≠ oz64 := Nat.ne_of_lt (Nat.lt_of_lt_of_le f31_14.lt szz_oz64)
      have ne_ov21_oz64 : ov21 ≠ oz64 := Nat.ne_of_lt (Nat.lt_of_lt_of_le f31_15.lt szz_oz64)
      obtain ⟨cl69, Ar69, vq69, vS69, vN69, vH69, vG69⟩ := id f64_10
      obtain ⟨cl70, Ar70, vq70, vS70, vN70, vH70, vG70⟩ := id f64_8
      obtain ⟨cl71, Ar71, vq71, vS71, vN71, vH71, vG71⟩ := id f64_15
      have O73 := (O66.keep K64 (allS g_b17 (allS g_ow21 (allS g_on21 all0))))
      obtain ⟨cq72, kq72, q72a, q72b, q72c⟩ := isOf hZ rfl f64_0
      obtain ⟨_, _, ⟨T72, L72, k72, n72⟩, -, X72, ⟨Lc72, hQ72, l72, y72, z72⟩, st72⟩ := X64.virtualBack hx (y := (⟨cRV, "get", "(II)I"⟩ : MethodName)) (z := (⟨cRV, "get", "(II)I"⟩ : MethodName)) hown (mvT hZ (wd75 hw)) (mvT hZ (wd76 hw)) (notFace_of_selects (args := #[]) (mvT hZ (wd78 hw))) (mvT hZ (wd78 hw)) (mvT hZ (wd77 hw)) (by decide) (backOf (W := 0) (rm_get2W l Z a0 hw [] b17 (0 : Int32) (0 : Int32) on21 ow21 oz64 cl69 cl70 cl71 p1 T64.heap n0 (own_z0 O73) O73 S_CS f64_1 f64_4 f64_3 Ar69 (inb_of vS69 ⟨by decide, by decide⟩) (vH69.at (inb_of vS69 ⟨by decide, by decide⟩) rfl) Ar70 (inb_of vS70 ⟨by decide, by decide⟩) (vH70.at (inb_of vS70 ⟨by decide, by decide⟩) rfl) Ar71 (inb_of vS71 ⟨by decide, by decide⟩) (vH71.at (inb_of vS71 ⟨by decide, by decide⟩) rfl)) hZ (wd79 hw) (wd8 hw) (by decide) (by decide)) q72a q72c (g := (mkF m 111 #[vI p1, vI p2, vJ p3, .second, vJ p4, .second, vJ p5, .second, vJ p6, .second, vI (f_draw p1 p3), vI (f_draw p2 p4), vI (f_draw (f_draw p1 p3) p5), vI (f_draw (f_draw p2 p4) p6), vR b5, vR b8, vR b12, vR b17] [(.int 0), (.int 0), (.ref b17)])) rfl (by rw [hml]; rfl) (Steps.refl _) (argsL := [(.int 0), (.int 0)]) (rest := []) (lenOf pd__II_I_5 rfl) rfl (by show 2 * 0 + _ ≤ _; exact Nat.le_of_eq rfl) (bb at_111) (fun _ _ => ⟨rfl, rfl, (by decide : 11 + 0 ≤ _), (by decide : 53 + 0 ≤ _)⟩)
      dsimp only [Pt.U, Pt.locs, Pt.cells, Pt.slots] at X72 l72 y72 z72 st72 hQ72
      subst l72 y72 z72
      obtain ⟨rfl, N72q, e72⟩ := hQ72
      have N72 := Fr.app N64 N72q
      obtain ⟨cl74, Ar74, vq74, vS74, vN74, vH74, vG74⟩ := id f64_10
      obtain ⟨cl75, Ar75, vq75, vS75, vN75, vH75, vG75⟩ := id f64_8
      obtain ⟨cl76, Ar76, vq76, vS76, vN76, vH76, vG76⟩ := id f64_15
      obtain ⟨cq77, kq77, q77a, q77b, q77c⟩ := isOf hZ e72 f64_0
      obtain ⟨_, _, ⟨T77, L77, k77, n77⟩, -, X77, ⟨Lc77, hQ77, l77, y77, z77⟩, st77⟩ := X72.virtualBack hx (y := (⟨cRV, "get", "(II)I"⟩ : MethodName)) (z := (⟨cRV, "get", "(II)I"⟩ : MethodName)) hown (mvT hZ (wd75 hw)) (mvT hZ (wd76 hw)) (notFace_of_selects (args := #[]) (mvT hZ (wd78 hw))) (mvT hZ (wd78 hw)) (mvT hZ (wd77 hw)) (by decide) (backOf (W := 0) (rm_get2W l Z a0 hw [] b17 (0 : Int32) (1 : Int32) on21 ow21 oz64 cl74 cl75 cl76 p2 T64.heap n0 (own_z0 O73) O73 S_CS f64_1 f64_4 f64_3 Ar74 (inb_of vS74 ⟨by decide, by decide⟩) (vH74.at (inb_of vS74 ⟨by decide, by decide⟩) rfl) Ar75 (inb_of vS75 ⟨by decide, by decide⟩) (vH75.at (inb_of vS75 ⟨by decide, by decide⟩) rfl) Ar76 (inb_of vS76 ⟨by decide, by decide⟩) (vH76.at (inb_of vS76 ⟨by decide, by decide⟩) rfl)) hZ (wd79 hw) (wd8 hw) (by decide) (by decide)) q77a q77c (g := (mkF m 122 #[vI p1, vI p2, vJ p3, .second, vJ p4, .second, vJ p5, .second, vJ p6, .second, vI (f_draw p1 p3), vI (f_draw p2 p4), vI (f_draw (f_draw p1 p3) p5), vI (f_draw (f_draw p2 p4) p6), vR b5, vR b8, vR b12, vR b17] [(.int 1), (.int 0), (.ref b17)])) rfl (by rw [hml]; rfl) (Steps.refl _) (argsL := [(.int 0), (.int 1)]) (rest := []) (lenOf pd__II_I_5 rfl) rfl (by show 2 * 0 + _ ≤ _; exact Nat.le_of_eq rfl) (bb at_122) (fun _ _ => ⟨rfl, e72, (by decide : 11 + 0 ≤ _), (by decide : 53 + 0 ≤ _)⟩)
      dsimp only [Pt.U, Pt.locs, Pt.cells, Pt.slots] at X77 l77 y77 z77 st77 hQ77
      subst l77 y77 z77
      obtain ⟨rfl, N77q, e77⟩ := hQ77
      have N77 := Fr.app N72 N77q
      obtain ⟨cl78, Ar78, vq78, vS78, vN78, vH78, vG78⟩ := id f64_10
      obtain ⟨cl79, Ar79, vq79, vS79, vN79, vH79, vG79⟩ := id f64_8
      obtain ⟨cl80, Ar80, vq80, vS80, vN80, vH80, vG80⟩ := id f64_15
      obtain ⟨cq81, kq81, q81a, q81b, q81c⟩ := isOf hZ e77 f64_0
      obtain ⟨_, _, ⟨T81, L81, k81, n81⟩, -, X81, ⟨Lc81, hQ81, l81, y81, z81⟩, st81⟩ := X77.virtualBack hx (y := (⟨cRV, "get", "(II)I"⟩ : MethodName)) (z := (⟨cRV, "get", "(II)I"⟩ : MethodName)) hown (mvT hZ (wd75 hw)) (mvT hZ (wd76 hw)) (notFace_of_selects (args := #[]) (mvT hZ (wd78 hw))) (mvT hZ (wd78 hw)) (mvT hZ (wd77 hw)) (by decide) (backOf (W := 0) (rm_get2W l Z a0 hw [] b17 (1 : Int32) (0 : Int32) on21 ow21 oz64 cl78 cl79 cl80 (f_draw p1 p3) T64.heap n0 (own_z0 O73) O73 S_CS f64_1 f64_4 f64_3 Ar78 (inb_of vS78 ⟨by decide, by decide⟩) (vH78.at (inb_of vS78 ⟨by decide, by decide⟩) rfl) Ar79 (inb_of vS79 ⟨by decide, by decide⟩) (vH79.at (inb_of vS79 ⟨by decide, by decide⟩) rfl) Ar80 (inb_of vS80 ⟨by decide, by decide⟩) (vH80.at (inb_of vS80 ⟨by decide, by decide⟩) rfl)) hZ (wd79 hw) (wd8 hw) (by decide) (by decide)) q81a q81c (g := (mkF m 133 #[vI p1, vI p2, vJ p3, .second, vJ p4, .second, vJ p5, .second, vJ p6, .second, vI (f_draw p1 p3), vI (f_draw p2 p4), vI (f_draw (f_draw p1 p3) p5), vI (f_draw (f_draw p2 p4) p6), vR b5, vR b8, vR b12, vR b17] [(.int 0), (.int 1), (.ref b17)])) rfl (by rw [hml]; rfl) (Steps.refl _) (argsL := [(.int 1), (.int 0)]) (rest := []) (lenOf pd__II_I_5 rfl) rfl (by show 2 * 0 + _ ≤ _; exact Nat.le_of_eq rfl) (bb at_133) (fun _ _ => ⟨rfl, e77, (by decide : 11 + 0 ≤ _), (by decide : 53 + 0 ≤ _)⟩)
      dsimp only [Pt.U, Pt.locs, Pt.cells, Pt.slots] at X81 l81 y81 z81 st81 hQ81
      subst l81 y81 z81
      obtain ⟨rfl, N81q, e81⟩ := hQ81
      have N81 := Fr.app N77 N81q
      obtain ⟨cl82, Ar82, vq82, vS82, vN82, vH82, vG82⟩ := id f64_10
      obtain ⟨cl83, Ar83, vq83, vS83, vN83, vH83, vG83⟩ := id f64_8
      obtain ⟨cl84, Ar84, vq84, vS84, vN84, vH84, vG84⟩ := id f64_15
      obtain ⟨cq85, kq85, q85a, q85b, q85c⟩ := isOf hZ e81 f64_0
      obtain ⟨_, _, ⟨T85, L85, k85, n85⟩, -, X85, ⟨Lc85, hQ85, l85, y85, z85⟩, st85⟩ := X81.virtualBack hx (y := (⟨cRV, "get", "(II)I"⟩ : MethodName)) (z := (⟨cRV, "get", "(II)I"⟩ : MethodName)) hown (mvT hZ (wd75 hw)) (mvT hZ (wd76 hw)) (notFace_of_selects (args := #[]) (mvT hZ (wd78 hw))) (mvT hZ (wd78 hw)) (mvT hZ (wd77 hw)) (by decide) (backOf (W := 0) (rm_get2W l Z a0 hw [] b17 (1 : Int32) (1 : Int32) on21 ow21 oz64 cl82 cl83 cl84 (f_draw p2 p4) T64.heap n0 (own_z0 O73) O73 S_CS f64_1 f64_4 f64_3 Ar82 (inb_of vS82 ⟨by decide, by decide⟩) (vH82.at (inb_of vS82 ⟨by decide, by decide⟩) rfl) Ar83 (inb_of vS83 ⟨by decide, by decide⟩) (vH83.at (inb_of vS83 ⟨by decide, by decide⟩) rfl) Ar84 (inb_of vS84 ⟨by decide, by decide⟩) (vH84.at (inb_of vS84 ⟨by decide, by decide⟩) rfl)) hZ (wd79 hw) (wd8 hw) (by decide) (by decide)) q85a q85c (g := (mkF m 145 #[vI p1, vI p2, vJ p3, .second, vJ p4, .second, vJ p5, .second, vJ p6, .second, vI (f_draw p1 p3), vI (f_draw p2 p4), vI (f_draw (f_draw p1 p3) p5), vI (f_draw (f_draw p2 p4) p6), vR b5, vR b8, vR b12, vR b17] [(.int 1), (.int 1), (.ref b17)])) rfl (by rw [hml]; rfl) (Steps.refl _) (argsL := [(.int 1), (.int 1)]) (rest := []) (lenOf pd__II_I_5 rfl) rfl (by show 2 * 0 + _ ≤ _; exact Nat.le_of_eq rfl) (bb at_145) (fun _ _ => ⟨rfl, e81, (by decide : 11 + 0 ≤ _), (by decide : 53 + 0 ≤ _)⟩)
      dsimp only [Pt.U, Pt.locs, Pt.cells, Pt.slots] at X85 l85 y85 z85 st85 hQ85
      subst l85 y85 z85
      obtain ⟨rfl, N85q, e85⟩ := hQ85
      have N85 := Fr.app N81 N85q
      obtain ⟨cl86, Ar86, vq86, vS86, vN86, vH86, vG86⟩ := id f64_10
      obtain ⟨cl87, Ar87, vq87, vS87, vN87, vH87, vG87⟩ := id f64_8
      obtain ⟨cl88, Ar88, vq88, vS88, vN88, vH88, vG88⟩ := id f64_15
      obtain ⟨cq89, kq89, q89a, q89b, q89c⟩ := isOf hZ e85 f64_0
      obtain ⟨_, _, ⟨T89, L89, k89, n89⟩, -, X89, ⟨Lc89, hQ89, l89, y89, z89⟩, st89⟩ := X85.virtualBack hx (y := (⟨cRV, "get", "(II)I"⟩ : MethodName)) (z := (⟨cRV, "get", "(II)I"⟩ : MethodName)) hown (mvT hZ (wd75 hw)) (mvT hZ (wd76 hw)) (notFace_of_selects (args := #[]) (mvT hZ (wd78 hw))) (mvT hZ (wd78 hw)) (mvT hZ (wd77 hw)) (by decide) (backOf (W := 0) (rm_get2W l Z a0 hw [] b17 (2 : Int32) (0 : Int32) on21 ow21 oz64 cl86 cl87 cl88 (f_draw (f_draw p1 p3) p5) T64.heap n0 (own_z0 O73) O73 S_CS f64_1 f64_4 f64_3 Ar86 (inb_of vS86 ⟨by decide, by decide⟩) (vH86.at (inb_of vS86 ⟨by decide, by decide⟩) rfl) Ar87 (inb_of vS87 ⟨by decide, by decide⟩) (vH87.at (inb_of vS87 ⟨by decide, by decide⟩) rfl) Ar88 (inb_of vS88 ⟨by decide, by decide⟩) (vH88.at (inb_of vS88 ⟨by decide, by decide⟩) rfl)) hZ (wd79 hw) (wd8 hw) (by decide) (by decide)) q89a q89c (g := (mkF m 157 #[vI p1, vI p2, vJ p3, .second, vJ p4, .second, vJ p5, .second, vJ p6, .second, vI (f_draw p1 p3), vI (f_draw p2 p4), vI (f_draw (f_draw p1 p3) p5), vI (f_draw (f_draw p2 p4) p6), vR b5, vR b8, vR b12, vR b17] [(.int 0), (.int 2), (.ref b17)])) rfl (by rw [hml]; rfl) (Steps.refl _) (argsL := [(.int 2), (.int 0)]) (rest := []) (lenOf pd__II_I_5 rfl) rfl (by show 2 * 0 + _ ≤ _; exact Nat.le_of_eq rfl) (bb at_157) (fun _ _ => ⟨rfl, e85, (by decide : 11 + 0 ≤ _), (by decide : 53 + 0 ≤ _)⟩)
      dsimp only [Pt.U, Pt.locs, Pt.cells, Pt.slots] at X89 l89 y89 z89 st89 hQ89
      subst l89 y89 z89
      obtain ⟨rfl, N89q, e89⟩ := hQ89
      have N89 := Fr.app N85 N89q
      obtain ⟨cl90, Ar90, vq90, vS90, vN90, vH90, vG90⟩ := id f64_10
      obtain ⟨cl91, Ar91, vq91, vS91, vN91, vH91, vG91⟩ := id f64_8
      obtain ⟨cl92, Ar92, vq92, vS92, vN92, vH92, vG92⟩ := id f64_15
      obtain ⟨cq93, kq93, q93a, q93b, q93c⟩ := isOf hZ e89 f64_0
      obtain ⟨_, _, ⟨T93, L93, k93, n93⟩, -, X93, ⟨Lc93, hQ93, l93, y93, z93⟩, st93⟩ := X89.virtualBack hx (y := (⟨cRV, "get", "(II)I"⟩ : MethodName)) (z := (⟨cRV, "get", "(II)I"⟩ : MethodName)) hown (mvT hZ (wd75 hw)) (mvT hZ (wd76 hw)) (notFace_of_selects (args := #[]) (mvT hZ (wd78 hw))) (mvT hZ (wd78 hw)) (mvT hZ (wd77 hw)) (by decide) (backOf (W := 0) (rm_get2W l Z a0 hw [] b17 (2 : Int32) (1 : Int32) on21 ow21 oz64 cl90 cl91 cl92 (f_draw (f_draw p2 p4) p6) T64.heap n0 (own_z0 O73) O73 S_CS f64_1 f64_4 f64_3 Ar90 (inb_of vS90 ⟨by decide, by decide⟩) (vH90.at (inb_of vS90 ⟨by decide, by decide⟩) rfl) Ar91 (inb_of vS91 ⟨by decide, by decide⟩) (vH91.at (inb_of vS91 ⟨by decide, by decide⟩) rfl) Ar92 (inb_of vS92 ⟨by decide, by decide⟩) (vH92.at (inb_of vS92 ⟨by decide, by decide⟩) rfl)) hZ (wd79 hw) (wd8 hw) (by decide) (by decide)) q93a q93c (g := (mkF m 169 #[vI p1, vI p2, vJ p3, .second, vJ p4, .second, vJ p5, .second, vJ p6, .second, vI (f_draw p1 p3), vI (f_draw p2 p4), vI (f_draw (f_draw p1 p3) p5), vI (f_draw (f_draw p2 p4) p6), vR b5, vR b8, vR b12, vR b17] [(.int 1), (.int 2), (.ref b17)])) rfl (by rw [hml]; rfl) (Steps.refl _) (argsL := [(.int 2), (.int 1)]) (rest := []) (lenOf pd__II_I_5 rfl) rfl (by show 2 * 0 + _ ≤ _; exact Nat.le_of_eq rfl) (bb at_169) (fun _ _ => ⟨rfl, e89, (by decide : 11 + 0 ≤ _), (by decide : 53 + 0 ≤ _)⟩)
      dsimp only [Pt.U, Pt.locs, Pt.cells, Pt.slots] at X93 l93 y93 z93 st93 hQ93
      subst l93 y93 z93
      obtain ⟨rfl, N93q, e93⟩ := hQ93
      have N93 := Fr.app N89 N93q
      obtain ⟨fs, hr, hrun, hended, hW, hsame⟩ := X93.leave (v := some (.int 1)) (fun h => by rw [Bd.returns] at h; cases h)
      refine ⟨_, _, pre34 _ ?_, hrun, hended, _, _, rfl, ?_, ⟨_, rfl⟩, hW, hsame.mono (by decide) (by decide)⟩
      · show GG p e below T31 (mkF m 104 #[vI p1, vI p2, vJ p3, .second, vJ p4, .second, vJ p5, .second, vJ p6, .second, vI (f_draw p1 p3), vI (f_draw p2 p4), vI (f_draw (f_draw p1 p3) p5), vI (f_draw (f_draw p2 p4) p6), vR b5, vR b8, vR b12, vR b17] [(.ref b12), (.ref b17)]) _
        refine st64.trans ?_
        show GG p e below T64 (mkF m 107 #[vI p1, vI p2, vJ p3, .second, vJ p4, .second, vJ p5, .second, vJ p6, .second, vI (f_draw p1 p3), vI (f_draw p2 p4), vI (f_draw (f_draw p1 p3) p5), vI (f_draw (f_draw p2 p4) p6), vR b5, vR b8, vR b12, vR b17] []) _
        refine XS.aload X64.here hx rfl (bb at_107) rfl rfl ?_
        refine XS.iconst X64.here hx rfl (bb at_109) ?_
        refine XS.iconst X64.here hx rfl (bb at_110) ?_
        refine st72.trans ?_
        show GG p e below T72 (mkF m 114 #[vI p1, vI p2, vJ p3, .second, vJ p4, .second, vJ p5, .second, vJ p6, .second, vI (f_draw p1 p3), vI (f_draw p2 p4), vI (f_draw (f_draw p1 p3) p5), vI (f_draw (f_draw p2 p4) p6), vR b5, vR b8, vR b12, vR b17] [(.int p1)]) _
        refine XS.iloadN X72.here hx rfl (bb at_114) rfl ?_
        refine XS.icmpNo X72.here hx rfl (bb at_115) rfl (teq (rfl : p1 = p1)).2 ?_
        refine XS.aload X72.here hx rfl (bb at_118) rfl rfl ?_
        refine XS.iconst X72.here hx rfl (bb at_120) ?_
        show GG p e below T72 (mkF m 121 #[vI p1, vI p2, vJ p3, .second, vJ p4, .second, vJ p5, .second, vJ p6, .second, vI (f_draw p1 p3), vI (f_draw p2 p4), vI (f_draw (f_draw p1 p3) p5), vI (f_draw (f_draw p2 p4) p6), vR b5, vR b8, vR b12, vR b17] [(.int 0), (.ref b17)]) _
        refine XS.iconst X72.here hx rfl (bb at_121) ?_
        refine st77.trans ?_
        show GG p e below T77 (mkF m 125 #[vI p1, vI p2, vJ p3, .second, vJ p4, .second, vJ p5, .second, vJ p6, .second, vI (f_draw p1 p3), vI (f_draw p2 p4), vI (f_draw (f_draw p1 p3) p5), vI (f_draw (f_draw p2 p4) p6), vR b5, vR b8, vR b12, vR b17] [(.int p2)]) _
        refine XS.iloadN X77.here hx rfl (bb at_125) rfl ?_
        refine XS.icmpNo X77.here hx rfl (bb at_126) rfl (teq (rfl : p2 = p2)).2 ?_
        refine XS.aload X77.here hx rfl (bb at_129) rfl rfl ?_
        refine XS.iconst X77.here hx rfl (bb at_131) ?_
        show GG p e below T77 (mkF m 132 #[vI p1, vI p2, vJ p3, .second, vJ p4, .second, vJ p5, .second, vJ p6, .second, vI (f_draw p1 p3), vI (f_draw p2 p4), vI (f_draw (f_draw p1 p3) p5), vI (f_draw (f_draw p2 p4) p6), vR b5, vR b8, vR b12, vR b17] [(.int 1), (.ref b17)]) _
        refine XS.iconst X77.here hx rfl (bb at_132) ?_
        refine st81.trans ?_
        show GG p e below T81 (mkF m 136 #[vI p1, vI p2, vJ p3, .second, vJ p4, .second, vJ p5, .second, vJ p6, .second, vI (f_draw p1 p3), vI (f_draw p2 p4), vI (f_draw (f_draw p1 p3) p5), vI (f_draw (f_draw p2 p4) p6), vR b5, vR b8, vR b12, vR b17] [(.int (f_draw p1 p3))]) _
        refine XS.iload X81.here hx rfl (bb at_136) rfl ?_
        refine XS.icmpNo X81.here hx rfl (bb at_138) rfl (teq (rfl : (f_draw p1 p3) = (f_draw p1 p3))).2 ?_
        refine XS.aload X81.here hx rfl (bb at_141) rfl rfl ?_
        refine XS.iconst X81.here hx rfl (bb at_143) ?_
        show GG p e below T81 (mkF m 144 #[vI p1, vI p2, vJ p3, .second, vJ p4, .second, vJ p5, .second, vJ p6, .second, vI (f_draw p1 p3), vI (f_draw p2 p4), vI (f_draw (f_draw p1 p3) p5), vI (f_draw (f_draw p2 p4) p6), vR b5, vR b8, vR b12, vR b17] [(.int 1), (.ref b17)]) _
        refine XS.iconst X81.here hx rfl (bb at_144) ?_
        refine st85.trans ?_
        show GG p e below T85 (mkF m 148 #[vI p1, vI p2, vJ p3, .second, vJ p4, .second, vJ p5, .second, vJ p6, .second, vI (f_draw p1 p3), vI (f_draw p2 p4), vI (f_draw (f_draw p1 p3) p5), vI (f_draw (f_draw p2 p4) p6), vR b5, vR b8, vR b12, vR b17] [(.int (f_draw p2 p4))]) _
        refine XS.iload X85.here hx rfl (bb at_148) rfl ?_
        refine XS.icmpNo X85.here hx rfl (bb at_150) rfl (teq (rfl : (f_draw p2 p4) = (f_draw p2 p4))).2 ?_
        refine XS.aload X85.here hx rfl (bb at_153) rfl rfl ?_
        refine XS.iconst X85.here hx rfl (bb at_155) ?_
        show GG p e below T85 (mkF m 156 #[vI p1, vI p2, vJ p3, .second, vJ p4, .second, vJ p5, .second, vJ p6, .second, vI (f_draw p1 p3), vI (f_draw p2 p4), vI (f_draw (f_draw p1 p3) p5), vI (f_draw (f_draw p2 p4) p6), vR b5, vR b8, vR b12, vR b17] [(.int 2), (.ref b17)]) _
        refine XS.iconst X85.here hx rfl (bb at_156) ?_
        refine st89.trans ?_
        show GG p e below T89 (mkF m 160 #[vI p1, vI p2, vJ p3, .second, vJ p4, .second, vJ p5, .second, vJ p6, .second, vI (f_draw p1 p3), vI (f_draw p2 p4), vI (f_draw (f_draw p1 p3) p5), vI (f_draw (f_draw p2 p4) p6), vR b5, vR b8, vR b12, vR b17] [(.int (f_draw (f_draw p1 p3) p5))]) _
        refine XS.iload X89.here hx rfl (bb at_160) rfl ?_
        refine XS.icmpNo X89.here hx rfl (bb at_162) rfl (teq (rfl : (f_draw (f_draw p1 p3) p5) = (f_draw (f_draw p1 p3) p5))).2 ?_
        refine XS.aload X89.here hx rfl (bb at_165) rfl rfl ?_
        refine XS.iconst X89.here hx rfl (bb at_167) ?_
        show GG p e below T89 (mkF m 168 #[vI p1, vI p2, vJ p3, .second, vJ p4, .second, vJ p5, .second, vJ p6, .second, vI (f_draw p1 p3), vI (f_draw p2 p4), vI (f_draw (f_draw p1 p3) p5), vI (f_draw (f_draw p2 p4) p6), vR b5, vR b8, vR b12, vR b17] [(.int 2), (.ref b17)]) _
        refine XS.iconst X89.here hx rfl (bb at_168) ?_
        refine st93.trans ?_
        show GG p e below T93 (mkF m 172 #[vI p1, vI p2, vJ p3, .second, vJ p4, .second, vJ p5, .second, vJ p6, .second, vI (f_draw p1 p3), vI (f_draw p2 p4), vI (f_draw (f_draw p1 p3) p5), vI (f_draw (f_draw p2 p4) p6), vR b5, vR b8, vR b12, vR b17] [(.int (f_draw (f_draw p2 p4) p6))]) _
        refine XS.iload X93.here hx rfl (bb at_172) rfl ?_
        refine XS.icmpNo X93.here hx rfl (bb at_174) rfl (teq (rfl : (f_draw (f_draw p2 p4) p6) = (f_draw (f_draw p2 p4) p6))).2 ?_
        refine XS.iconst X93.here hx rfl (bb at_177) ?_
        refine XS.goto X93.here hx rfl (pc0 := 178) (pc' := 182) rfl (bb at_178) (by decide) (by decide) ?_
        show GG p e below T93 (mkF m 182 #[vI p1, vI p2, vJ p3, .second, vJ p4, .second, vJ p5, .second, vJ p6, .second, vI (f_draw p1 p3), vI (f_draw p2 p4), vI (f_draw (f_draw p1 p3) p5), vI (f_draw (f_draw p2 p4) p6), vR b5, vR b8, vR b12, vR b17] [(.int 1)]) _
        exact retN X93 hx (t := .boolean) Bd.returns (by simp) (bb at_182) hr
      · exact ⟨rfl, N93⟩
  · skip
    rw [if_neg g30] at hp
    have F95 := ((F24.keep K21 (ninS ne_b8_b17 nin0)).keep K26 (ninS ne_b8_b17 (ninS ne_b8_ob21 (ninS ne_b8_ol21 (ninS ne_b8_oh21 (ninS ne_b8_ov21 nin0))))))
    have O96 := (O28.keep K26 (allS g_b17 (allS g_ob21 (allS g_ol21 (allS g_oh21 (allS g_ov21 all0))))))
    obtain ⟨cq94, kq94, q94a, q94b, q94c⟩ := isOf hZ rfl f26_0
    obtain ⟨_, _, ⟨T94, L94, k94, n94⟩, -, X94, ⟨Lc94, hQ94, l94, y94, z94⟩, st94⟩ := X26.virtualBack hx (y := (⟨cRV, "add", "([I)V"⟩ : MethodName)) (z := (⟨cRV, "add", "([I)V"⟩ : MethodName)) hown (mvT hZ (wd33 hw)) (mvT hZ (wd34 hw)) (notFace_of_selects (args := #[]) (mvT hZ (wd36 hw))) (mvT hZ (wd36 hw)) (mvT hZ (wd35 hw)) (by decide) (backOf (W := 0) (rm_add2W1 l Z a0 hw [] b17 b8 ow21 on21 ob21 ol21 oh21 ov21 kw_21 kn_21 kb_21 kl_21 kh_21 kv_21 (f_base p1 p1) (f_base p2 p2) p1 p2 p1 p2 p1 p2 (0 : Int32) (0 : Int32) (0 : Int32) (0 : Int32) (0 : Int32) (0 : Int32) (0 : Int32) (0 : Int32) (0 : Int32) (0 : Int32) (0 : Int32) (0 : Int32) (0 : Int32) (0 : Int32) k8 (f_draw p1 p3) (f_draw p2 p4) T26.heap n0 (own_z0 O96) O96 S_CS f26_0 f26_1 f26_2 f26_3 f26_4 f26_5 f26_6 f26_7 f26_8 f26_9 f26_10 f26_11 f26_12 f26_13 f26_14 f26_15 F95 g_b17 g_ow21 g_on21 ne_b17_ow21 ne_b17_on21 ne_b17_ob21 ne_b17_ol21 ne_b17_oh21 ne_b17_ov21 ne_ow21_on21 ne_ow21_ob21 ne_ow21_ol21 ne_ow21_oh21 ne_ow21_ov21 ne_on21_ob21 ne_on21_ol21 ne_on21_oh21 ne_on21_ov21 ne_ob21_ol21 ne_ob21_oh21 ne_ob21_ov21 ne_ol21_oh21 ne_ol21_ov21 ne_oh21_ov21 ne_b8_b17 ne_b8_ow21 ne_b8_on21 ne_b8_ob21 ne_b8_ol21 ne_b8_oh21 ne_b8_ov21 (own_inS p1) (own_inS p2) g30) hZ (wd37 hw) (wd8 hw) (by decide) (by decide)) q94a q94c (g := (mkF m 97 #[vI p1, vI p2, vJ p3, .second, vJ p4, .second, vJ p5, .second, vJ p6, .second, vI (f_draw p1 p3), vI (f_draw p2 p4), vI (f_draw (f_draw p1 p3) p5), vI (f_draw (f_draw p2 p4) p6), vR b5, vR b8, vR b12, vR b17] [(.ref b8), (.ref b17)])) rfl (by rw [hml]; rfl) (Steps.refl _) (argsL := [(.ref b8)]) (rest := []) (lenOf pd___I_V_5 rfl) rfl (by show 2 * 0 + _ ≤ _; exact Nat.le_of_eq rfl) (bb at_97) (fun _ _ => ⟨rfl, rfl, (by decide : 10 + 1 ≤ _), (by decide : 37 + 16 ≤ _)⟩)
    dsimp only [Pt.U, Pt.locs, Pt.cells, Pt.slots] at X94 l94 y94 z94 st94 hQ94
    subst l94 y94 z94
    obtain ⟨oz94, kz_94, rfl, N94q, K94, szz_oz94, f94_0, f94_1, f94_2, f94_3, f94_4, f94_5, f94_6, f94_7, f94_8, f94_9, f94_10, f94_11, f94_12, f94_13, f94_14, f94_15⟩ := hQ94
    have N94 := Fr.app N26 N94q
    have g_oz94 : n0 ≤ oz94 := Nat.le_trans (own_z0 O96) szz_oz94
    have sz_oz94 : h0.size ≤ oz94 := Nat.le_trans (Nat.le_trans (Nat.le_trans (Nat.le_trans (Nat.le_trans (Nat.le_trans (Nat.le_trans (Nat.le_trans (Nat.le_trans (Nat.le_trans (Nat.le_trans (Nat.le_trans (Nat.le_trans (Nat.le_refl _) E5.1) (Keep.of_wr W6).1) (Keep.of_wr W7).1) E8.1) (Keep.of_wr W10).1) (Keep.of_wr W11).1) E12.1) (Keep.of_wr W15).1) (Keep.of_wr W16).1) E17.1) K21.1) K26.1) szz_oz94
    have F97 := (F27.keep K26 (ninS ne_b5_b17 (ninS ne_b5_ob21 (ninS ne_b5_ol21 (ninS ne_b5_oh21 (ninS ne_b5_ov21 nin0))))))
    have ne_b5_oz94 : b5 ≠ oz94 := Nat.ne_of_lt (Nat.lt_of_lt_of_le F97.lt szz_oz94)
    have ne_b8_oz94 : b8 ≠ oz94 := Nat.ne_of_lt (Nat.lt_of_lt_of_le F95.lt szz_oz94)
    have F98 := ((F25.keep K21 (ninS ne_b12_b17 nin0)).keep K26 (ninS ne_b12_b17 (ninS ne_b12_ob21 (ninS ne_b12_ol21 (ninS ne_b12_oh21 (ninS ne_b12_ov21 nin0))))))
    have ne_b12_oz94 : b12 ≠ oz94 := Nat.ne_of_lt (Nat.lt_of_lt_of_le F98.lt szz_oz94)
    have ne_b17_oz94 : b17 ≠ oz94 := Nat.ne_of_lt (Nat.lt_of_lt_of_le f26_0.lt szz_oz94)
    have ne_ow21_oz94 : ow21 ≠ oz94 := Nat.ne_of_lt (Nat.lt_of_lt_of_le f26_8.lt szz_oz94)
    have ne_on21_oz94 : on21 ≠ oz94 := Nat.ne_of_lt (Nat.lt_of_lt_of_le f26_10.lt szz_oz94)
    have ne_ob21_oz94 : ob21 ≠ oz94 := Nat.ne_of_lt (Nat.lt_of_lt_of_le f26_12.lt szz_oz94)
    have ne_ol21_oz94 : ol21 ≠ oz94 := Nat.ne_of_lt (Nat.lt_of_lt_of_le f26_13.lt szz_oz94)
    have ne_oh21_oz94 : oh21 ≠ oz94 := Nat.ne_of_lt (Nat.lt_of_lt_of_le f26_14.lt szz_oz94)
    have ne_ov21_oz94 : ov21 ≠ oz94 := Nat.ne_of_lt (Nat.lt_of_lt_of_le f26_15.lt szz_oz94)
    have F100 := (F98.keep K94 (ninS ne_b12_b17 (ninS ne_b12_ow21 (ninS ne_b12_on21 nin0))))
    have O101 := (O96.keep K94 (allS g_b17 (allS g_ow21 (allS g_on21 all0))))
    obtain ⟨cq99, kq99, q99a, q99b, q99c⟩ := isOf hZ rfl f94_0
    obtain ⟨_, _, ⟨T99, L99, k99, n99⟩, -, X99, ⟨Lc99, hQ99, l99, y99, z99⟩, st99⟩ := X94.virtualBack hx (y := (⟨cRV, "add", "([I)V"⟩ : MethodName)) (z := (⟨cRV, "add", "([I)V"⟩ : MethodName)) hown (mvT hZ (wd33 hw)) (mvT hZ (wd34 hw)) (notFace_of_selects (args := #[]) (mvT hZ (wd36 hw))) (mvT hZ (wd36 hw)) (mvT hZ (wd35 hw)) (by decide) (backOf (W := 0) (rm_add2WW2 l Z a0 hw [] b17 b12 ow21 on21 ob21 ol21 oh21 oz94 kw_21 kn_21 kb_21 kl_21 kh_21 kz_94 (f_base p1 p1) (f_base p2 p2) p1 p2 p1 p2 p1 p2 (f_draw p1 p3) (f_draw p2 p4) (0 : Int32) (0 : Int32) (0 : Int32) (0 : Int32) (0 : Int32) (0 : Int32) (0 : Int32) (0 : Int32) (0 : Int32) (0 : Int32) (0 : Int32) (0 : Int32) k12 (f_draw (f_draw p1 p3) p5) (f_draw (f_draw p2 p4) p6) T94.heap n0 (own_z0 O101) O101 S_CS f94_0 f94_1 f94_2 f94_3 f94_4 f94_5 f94_6 f94_7 f94_8 f94_9 f94_10 f94_11 f94_12 f94_13 f94_14 f94_15 F100 g_b17 g_oz94 ne_b17_ow21 ne_b17_on21 ne_b17_ob21 ne_b17_ol21 ne_b17_oh21 ne_b17_oz94 ne_ow21_on21 ne_ow21_ob21 ne_ow21_ol21 ne_ow21_oh21 ne_ow21_oz94 ne_on21_ob21 ne_on21_ol21 ne_on21_oh21 ne_on21_oz94 ne_ob21_ol21 ne_ob21_oh21 ne_ob21_oz94 ne_ol21_oh21 ne_ol21_oz94 ne_oh21_oz94 ne_b12_b17 ne_b12_ow21 ne_b12_on21 ne_b12_ob21 ne_b12_ol21 ne_b12_oh21 ne_b12_oz94) hZ (wd37 hw) (wd8 hw) (by decide) (by decide)) q99a q99c (g := (mkF m 104 #[vI p1, vI p2, vJ p3, .second, vJ p4, .second, vJ p5, .second, vJ p6, .second, vI (f_draw p1 p3), vI (f_draw p2 p4), vI (f_draw (f_draw p1 p3) p5), vI (f_draw (f_draw p2 p4) p6), vR b5, vR b8, vR b12, vR b17] [(.ref b12), (.ref b17)])) rfl (by rw [hml]; rfl) (Steps.refl _) (argsL := [(.ref b12)]) (rest := []) (lenOf pd___I_V_5 rfl) rfl (by show 2 * 0 + _ ≤ _; exact Nat.le_of_eq rfl) (bb at_104) (fun _ _ => ⟨rfl, rfl, (by decide : 11 + 0 ≤ _), (by decide : 53 + 0 ≤ _)⟩)
    dsimp only [Pt.U, Pt.locs, Pt.cells, Pt.slots] at X99 l99 y99 z99 st99 hQ99
    subst l99 y99 z99
    obtain ⟨rfl, N99q, K99, f99_0, f99_1, f99_2, f99_3, f99_4, f99_5, f99_6, f99_7, f99_8, f99_9, f99_10, f99_11, f99_12, f99_13, f99_14, f99_15⟩ := hQ99
    have N99 := Fr.app N94 N99q
    obtain ⟨cl102, Ar102, vq102, vS102, vN102, vH102, vG102⟩ := id f99_10
    obtain ⟨cl103, Ar103, vq103, vS103, vN103, vH103, vG103⟩ := id f99_8
    obtain ⟨cl104, Ar104, vq104, vS104, vN104, vH104, vG104⟩ := id f99_15
    have O106 := (O101.keep K99 (allS g_b17 (allS g_oz94 all0)))
    obtain ⟨cq105, kq105, q105a, q105b, q105c⟩ := isOf hZ rfl f99_0
    obtain ⟨_, _, ⟨T105, L105, k105, n105⟩, -, X105, ⟨Lc105, hQ105, l105, y105, z105⟩, st105⟩ := X99.virtualBack hx (y := (⟨cRV, "get", "(II)I"⟩ : MethodName)) (z := (⟨cRV, "get", "(II)I"⟩ : MethodName)) hown (mvT hZ (wd75 hw)) (mvT hZ (wd76 hw)) (notFace_of_selects (args := #[]) (mvT hZ (wd78 hw))) (mvT hZ (wd78 hw)) (mvT hZ (wd77 hw)) (by decide) (backOf (W := 0) (rm_get2W l Z a0 hw [] b17 (0 : Int32) (0 : Int32) on21 ow21 oz94 cl102 cl103 cl104 p1 T99.heap n0 (own_z0 O106) O106 S_CS f99_1 f99_4 f99_3 Ar102 (inb_of vS102 ⟨by decide, by decide⟩) (vH102.at (inb_of vS102 ⟨by decide, by decide⟩) rfl) Ar103 (inb_of vS103 ⟨by decide, by decide⟩) (vH103.at (inb_of vS103 ⟨by decide, by decide⟩) rfl) Ar104 (inb_of vS104 ⟨by decide, by decide⟩) (vH104.at (inb_of vS104 ⟨by decide, by decide⟩) rfl)) hZ (wd79 hw) (wd8 hw) (by decide) (by decide)) q105a q105c (g := (mkF m 111 #[vI p1, vI p2, vJ p3, .second, vJ p4, .second, vJ p5, .second, vJ p6, .second, vI (f_draw p1 p3), vI (f_draw p2 p4), vI (f_draw (f_draw p1 p3) p5), vI (f_draw (f_draw p2 p4) p6), vR b5, vR b8, vR b12, vR b17] [(.int 0), (.int 0), (.ref b17)])) rfl (by rw [hml]; rfl) (Steps.refl _) (argsL := [(.int 0), (.int 0)]) (rest := []) (lenOf pd__II_I_5 rfl) rfl (by show 2 * 0 + _ ≤ _; exact Nat.le_of_eq rfl) (bb at_111) (fun _ _ => ⟨rfl, rfl, (by decide : 11 + 0 ≤ _), (by decide : 53 + 0 ≤ _)⟩)
    dsimp only [Pt.U, Pt.locs, Pt.cells, Pt.slots] at X105 l105 y105 z105 st105 hQ105
    subst l105 y105 z105
    obtain ⟨rfl, N105q, e105⟩ := hQ105
    have N105 := Fr.app N99 N105q
    obtain ⟨cl107, Ar107, vq107, vS107, vN107, vH107, vG107⟩ := id f99_10
    obtain ⟨cl108, Ar108, vq108, vS108, vN108, vH108, vG108⟩ := id f99_8
    obtain ⟨cl109, Ar109, vq109, vS109, vN109, vH109, vG109⟩ := id f99_15
    obtain ⟨cq110, kq110, q110a, q110b, q110c⟩ := isOf hZ e105 f99_0
    obtain ⟨_, _, ⟨T110, L110, k110, n110⟩, -, X110, ⟨Lc110, hQ110, l110, y110, z110⟩, st110⟩ := X105.virtualBack hx (y := (⟨cRV, "get", "(II)I"⟩ : MethodName)) (z := (⟨cRV, "get", "(II)I"⟩ : MethodName)) hown (mvT hZ (wd75 hw)) (mvT hZ (wd76 hw)) (notFace_of_selects (args := #[]) (mvT hZ (wd78 hw))) (mvT hZ (wd78 hw)) (mvT hZ (wd77 hw)) (by decide) (backOf (W := 0) (rm_get2W l Z a0 hw [] b17 (0 : Int32) (1 : Int32) on21 ow21 oz94 cl107 cl108 cl109 p2 T99.heap n0 (own_z0 O106) O106 S_CS f99_1 f99_4 f99_3 Ar107 (inb_of vS107 ⟨by decide, by decide⟩) (vH107.at (inb_of vS107 ⟨by decide, by decide⟩) rfl) Ar108 (inb_of vS108 ⟨by decide, by decide⟩) (vH108.at (inb_of vS108 ⟨by decide, by decide⟩) rfl) Ar109 (inb_of vS109 ⟨by decide, by decide⟩) (vH109.at (inb_of vS109 ⟨by decide, by decide⟩) rfl)) hZ (wd79 hw) (wd8 hw) (by decide) (by decide)) q110a q110c (g := (mkF m 122 #[vI p1, vI p2, vJ p3, .second, vJ p4, .second, vJ p5, .second, vJ p6, .second, vI (f_draw p1 p3), vI (f_draw p2 p4), vI (f_draw (f_draw p1 p3) p5), vI (f_draw (f_draw p2 p4) p6), vR b5, vR b8, vR b12, vR b17] [(.int 1), (.int 0), (.ref b17)])) rfl (by rw [hml]; rfl) (Steps.refl _) (argsL := [(.int 0), (.int 1)]) (rest := []) (lenOf pd__II_I_5 rfl) rfl (by show 2 * 0 + _ ≤ _; exact Nat.le_of_eq rfl) (bb at_122) (fun _ _ => ⟨rfl, e105, (by decide : 11 + 0 ≤ _), (by decide : 53 + 0 ≤ _)⟩)
    dsimp only [Pt.U, Pt.locs, Pt.cells, Pt.slots] at X110 l110 y110 z110 st110 hQ110
    subst l110 y110 z110
    obtain ⟨rfl, N110q, e110⟩ := hQ110
    have N110 := Fr.app N105 N110q
    obtain ⟨cl111, Ar111, vq111, vS111, vN111, vH111, vG111⟩ := id f99_10
    obtain ⟨cl112, Ar112, vq112, vS112, vN112, vH112, vG112⟩ := id f99_8
    obtain ⟨cl113, Ar113, vq113, vS113, vN113, vH113, vG113⟩ := id f99_15
    obtain ⟨cq114, kq114, q114a, q114b, q114c⟩ := isOf hZ e110 f99_0
    obtain ⟨_, _, ⟨T114, L114, k114, n114⟩, -, X114, ⟨Lc114, hQ114, l114, y114, z114⟩, st114⟩ := X110.virtualBack hx (y := (⟨cRV, "get", "(II)I"⟩ : MethodName)) (z := (⟨cRV, "get", "(II)I"⟩ : MethodName)) hown (mvT hZ (wd75 hw)) (mvT hZ (wd76 hw)) (notFace_of_selects (args := #[]) (mvT hZ (wd78 hw))) (mvT hZ (wd78 hw)) (mvT hZ (wd77 hw)) (by decide) (backOf (W := 0) (rm_get2W l Z a0 hw [] b17 (1 : Int32) (0 : Int32) on21 ow21 oz94 cl111 cl112 cl113 (f_draw p1 p3) T99.heap n0 (own_z0 O106) O106 S_CS f99_1 f99_4 f99_3 Ar111 (inb_of vS111 ⟨by decide, by decide⟩) (vH111.at (inb_of vS111 ⟨by decide, by decide⟩) rfl) Ar112 (inb_of vS112 ⟨by decide, by decide⟩) (vH112.at (inb_of vS112 ⟨by decide, by decide⟩) rfl) Ar113 (inb_of vS113 ⟨by decide, by decide⟩) (vH113.at (inb_of vS113 ⟨by decide, by decide⟩) rfl)) hZ (wd79 hw) (wd8 hw) (by decide) (by decide)) q114a q114c (g := (mkF m 133 #[vI p1, vI p2, vJ p3, .second, vJ p4, .second, vJ p5, .second, vJ p6, .second, vI (f_draw p1 p3), vI (f_draw p2 p4), vI (f_draw (f_draw p1 p3) p5), vI (f_draw (f_draw p2 p4) p6), vR b5, vR b8, vR b12, vR b17] [(.int 0), (.int 1), (.ref b17)])) rfl (by rw [hml]; rfl) (Steps.refl _) (argsL := [(.int 1), (.int 0)]) (rest := []) (lenOf pd__II_I_5 rfl) rfl (by show 2 * 0 + _ ≤ _; exact Nat.le_of_eq rfl) (bb at_133) (fun _ _ => ⟨rfl, e110, (by decide : 11 + 0 ≤ _), (by decide : 53 + 0 ≤ _)⟩)
    dsimp only [Pt.U, Pt.locs, Pt.cells, Pt.slots] at X114 l114 y114 z114 st114 hQ114
    subst l114 y114 z114
    obtain ⟨rfl, N114q, e114⟩ := hQ114
    have N114 := Fr.app N110 N114q
    obtain ⟨cl115, Ar115, vq115, vS115, vN115, vH115, vG115⟩ := id f99_10
    obtain ⟨cl116, Ar116, vq116, vS116, vN116, vH116, vG116⟩ := id f99_8
    obtain ⟨cl117, Ar117, vq117, vS117, vN117, vH117, vG117⟩ := id f99_15
    obtain ⟨cq118, kq118, q118a, q118b, q118c⟩ := isOf hZ e114 f99_0
    obtain ⟨_, _, ⟨T118, L118, k118, n118⟩, -, X118, ⟨Lc118, hQ118, l118, y118, z118⟩, st118⟩ := X114.virtualBack hx (y := (⟨cRV, "get", "(II)I"⟩ : MethodName)) (z := (⟨cRV, "get", "(II)I"⟩ : MethodName)) hown (mvT hZ (wd75 hw)) (mvT hZ (wd76 hw)) (notFace_of_selects (args := #[]) (mvT hZ (wd78 hw))) (mvT hZ (wd78 hw)) (mvT hZ (wd77 hw)) (by decide) (backOf (W := 0) (rm_get2W l Z a0 hw [] b17 (1 : Int32) (1 : Int32) on21 ow21 oz94 cl115 cl116 cl117 (f_draw p2 p4) T99.heap n0 (own_z0 O106) O106 S_CS f99_1 f99_4 f99_3 Ar115 (inb_of vS115 ⟨by decide, by decide⟩) (vH115.at (inb_of vS115 ⟨by decide, by decide⟩) rfl) Ar116 (inb_of vS116 ⟨by decide, by decide⟩) (vH116.at (inb_of vS116 ⟨by decide, by decide⟩) rfl) Ar117 (inb_of vS117 ⟨by decide, by decide⟩) (vH117.at (inb_of vS117 ⟨by decide, by decide⟩) rfl)) hZ (wd79 hw) (wd8 hw) (by decide) (by decide)) q118a q118c (g := (mkF m 145 #[vI p1, vI p2, vJ p3, .second, vJ p4, .second, vJ p5, .second, vJ p6, .second, vI (f_draw p1 p3), vI (f_draw p2 p4), vI (f_draw (f_draw p1 p3) p5), vI (f_draw (f_draw p2 p4) p6), vR b5, vR b8, vR b12, vR b17] [(.int 1), (.int 1), (.ref b17)])) rfl (by rw [hml]; rfl) (Steps.refl _) (argsL := [(.int 1), (.int 1)]) (rest := []) (lenOf pd__II_I_5 rfl) rfl (by show 2 * 0 + _ ≤ _; exact Nat.le_of_eq rfl) (bb at_145) (fun _ _ => ⟨rfl, e114, (by decide : 11 + 0 ≤ _), (by decide : 53 + 0 ≤ _)⟩)
    dsimp only [Pt.U, Pt.locs, Pt.cells, Pt.slots] at X118 l118 y118 z118 st118 hQ118
    subst l118 y118 z118
    obtain ⟨rfl, N118q, e118⟩ := hQ118
    have N118 := Fr.app N114 N118q
    obtain ⟨cl119, Ar119, vq119, vS119, vN119, vH119, vG119⟩ := id f99_10
    obtain ⟨cl120, Ar120, vq120, vS120, vN120, vH120, vG120⟩ := id f99_8
    obtain ⟨cl121, Ar121, vq121, vS121, vN121, vH121, vG121⟩ := id f99_15
    obtain ⟨cq122, kq122, q122a, q122b, q122c⟩ := isOf hZ e118 f99_0
    obtain ⟨_, _, ⟨T122, L122, k122, n122⟩, -, X122, ⟨Lc122, hQ122, l122, y122, z122⟩, st122⟩ := X118.virtualBack hx (y := (⟨cRV, "get", "(II)I"⟩ : MethodName)) (z := (⟨cRV, "get", "(II)I"⟩ : MethodName)) hown (mvT hZ (wd75 hw)) (mvT hZ (wd76 hw)) (notFace_of_selects (args := #[]) (mvT hZ (wd78 hw))) (mvT hZ (wd78 hw)) (mvT hZ (wd77 hw)) (by decide) (backOf (W := 0) (rm_get2W l Z a0 hw [] b17 (2 : Int32) (0 : Int32) on21 ow21 oz94 cl119 cl120 cl121 (f_draw (f_draw p1 p3) p5) T99.heap n0 (own_z0 O106) O106 S_CS f99_1 f99_4 f99_3 Ar119 (inb_of vS119 ⟨by decide, by decide⟩) (vH119.at (inb_of vS119 ⟨by decide, by decide⟩) rfl) Ar120 (inb_of vS120 ⟨by decide, by decide⟩) (vH120.at (inb_of vS120 ⟨by decide, by decide⟩) rfl) Ar121 (inb_of vS121 ⟨by decide, by decide⟩) (vH121.at (inb_of vS121 ⟨by decide, by decide⟩) rfl)) hZ (wd79 hw) (wd8 hw) (by decide) (by decide)) q122a q122c (g := (mkF m 157 #[vI p1, vI p2, vJ p3, .second, vJ p4, .second, vJ p5, .second, vJ p6, .second, vI (f_draw p1 p3), vI (f_draw p2 p4), vI (f_draw (f_draw p1 p3) p5), vI (f_draw (f_draw p2 p4) p6), vR b5, vR b8, vR b12, vR b17] [(.int 0), (.int 2), (.ref b17)])) rfl (by rw [hml]; rfl) (Steps.refl _) (argsL := [(.int 2), (.int 0)]) (rest := []) (lenOf pd__II_I_5 rfl) rfl (by show 2 * 0 + _ ≤ _; exact Nat.le_of_eq rfl) (bb at_157) (fun _ _ => ⟨rfl, e118, (by decide : 11 + 0 ≤ _), (by decide : 53 + 0 ≤ _)⟩)
    dsimp only [Pt.U, Pt.locs, Pt.cells, Pt.slots] at X122 l122 y122 z122 st122 hQ122
    subst l122 y122 z122
    obtain ⟨rfl, N122q, e122⟩ := hQ122
    have N122 := Fr.app N118 N122q
    obtain ⟨cl123, Ar123, vq123, vS123, vN123, vH123, vG123⟩ := id f99_10
    obtain ⟨cl124, Ar124, vq124, vS124, vN124, vH124, vG124⟩ := id f99_8
    obtain ⟨cl125, Ar125, vq125, vS125, vN125, vH125, vG125⟩ := id f99_15
    obtain ⟨cq126, kq126, q126a, q126b, q126c⟩ := isOf hZ e122 f99_0
    obtain ⟨_, _, ⟨T126, L126, k126, n126⟩, -, X126, ⟨Lc126, hQ126, l126, y126, z126⟩, st126⟩ := X122.virtualBack hx (y := (⟨cRV, "get", "(II)I"⟩ : MethodName)) (z := (⟨cRV, "get", "(II)I"⟩ : MethodName)) hown (mvT hZ (wd75 hw)) (mvT hZ (wd76 hw)) (notFace_of_selects (args := #[]) (mvT hZ (wd78 hw))) (mvT hZ (wd78 hw)) (mvT hZ (wd77 hw)) (by decide) (backOf (W := 0) (rm_get2W l Z a0 hw [] b17 (2 : Int32) (1 : Int32) on21 ow21 oz94 cl123 cl124 cl125 (f_draw (f_draw p2 p4) p6) T99.heap n0 (own_z0 O106) O106 S_CS f99_1 f99_4 f99_3 Ar123 (inb_of vS123 ⟨by decide, by decide⟩) (vH123.at (inb_of vS123 ⟨by decide, by decide⟩) rfl) Ar124 (inb_of vS124 ⟨by decide, by decide⟩) (vH124.at (inb_of vS124 ⟨by decide, by decide⟩) rfl) Ar125 (inb_of vS125 ⟨by decide, by decide⟩) (vH125.at (inb_of vS125 ⟨by decide, by decide⟩) rfl)) hZ (wd79 hw) (wd8 hw) (by decide) (by decide)) q126a q126c (g := (mkF m 169 #[vI p1, vI p2, vJ p3, .second, vJ p4, .second, vJ p5, .second, vJ p6, .second, vI (f_draw p1 p3), vI (f_draw p2 p4), vI (f_draw (f_draw p1 p3) p5), vI (f_draw (f_draw p2 p4) p6), vR b5, vR b8, vR b12, vR b17] [(.int 1), (.int 2), (.ref b17)])) rfl (by rw [hml]; rfl) (Steps.refl _) (argsL := [(.int 2), (.int 1)]) (rest := []) (lenOf pd__II_I_5 rfl) rfl (by show 2 * 0 + _ ≤ _; exact Nat.le_of_eq rfl) (bb at_169) (fun _ _ => ⟨rfl, e122, (by decide : 11 + 0 ≤ _), (by decide : 53 + 0 ≤ _)⟩)
    dsimp only [Pt.U, Pt.locs, Pt.cells, Pt.slots] at X126 l126 y126 z126 st126 hQ126
    subst l126 y126 z126
    obtain ⟨rfl, N126q, e126⟩ := hQ126
    have N126 := Fr.app N122 N126q
    obtain ⟨fs, hr, hrun, hended, hW, hsame⟩ := X126.leave (v := some (.int 1)) (fun h => by rw [Bd.returns] at h; cases h)
    refine ⟨_, _, pre29 _ ?_, hrun, hended, _, _, rfl, ?_, ⟨_, rfl⟩, hW, hsame.mono (by decide) (by decide)⟩
    · show GG p e below T26 (mkF m 97 #[vI p1, vI p2, vJ p3, .second, vJ p4, .second, vJ p5, .second, vJ p6, .second, vI (f_draw p1 p3), vI (f_draw p2 p4), vI (f_draw (f_draw p1 p3) p5), vI (f_draw (f_draw p2 p4) p6), vR b5, vR b8, vR b12, vR b17] [(.ref b8), (.ref b17)]) _
      refine st94.trans ?_
      show GG p e below T94 (mkF m 100 #[vI p1, vI p2, vJ p3, .second, vJ p4, .second, vJ p5, .second, vJ p6, .second, vI (f_draw p1 p3), vI (f_draw p2 p4), vI (f_draw (f_draw p1 p3) p5), vI (f_draw (f_draw p2 p4) p6), vR b5, vR b8, vR b12, vR b17] []) _
      refine XS.aload X94.here hx rfl (bb at_100) rfl rfl ?_
      refine XS.aload X94.here hx rfl (bb at_102) rfl rfl ?_
      refine st99.trans ?_
      show GG p e below T99 (mkF m 107 #[vI p1, vI p2, vJ p3, .second, vJ p4, .second, vJ p5, .second, vJ p6, .second, vI (f_draw p1 p3), vI (f_draw p2 p4), vI (f_draw (f_draw p1 p3) p5), vI (f_draw (f_draw p2 p4) p6), vR b5, vR b8, vR b12, vR b17] []) _
      refine XS.aload X99.here hx rfl (bb at_107) rfl rfl ?_
      refine XS.iconst X99.here hx rfl (bb at_109) ?_
      refine XS.iconst X99.here hx rfl (bb at_110) ?_
      refine st105.trans ?_
      show GG p e below T105 (mkF m 114 #[vI p1, vI p2, vJ p3, .second, vJ p4, .second, vJ p5, .second, vJ p6, .second, vI (f_draw p1 p3), vI (f_draw p2 p4), vI (f_draw (f_draw p1 p3) p5), vI (f_draw (f_draw p2 p4) p6), vR b5, vR b8, vR b12, vR b17] [(.int p1)]) _
      refine XS.iloadN X105.here hx rfl (bb at_114) rfl ?_
      refine XS.icmpNo X105.here hx rfl (bb at_115) rfl (teq (rfl : p1 = p1)).2 ?_
      refine XS.aload X105.here hx rfl (bb at_118) rfl rfl ?_
      refine XS.iconst X105.here hx rfl (bb at_120) ?_
      show GG p e below T105 (mkF m 121 #[vI p1, vI p2, vJ p3, .second, vJ p4, .second, vJ p5, .second, vJ p6, .second, vI (f_draw p1 p3), vI (f_draw p2 p4), vI (f_draw (f_draw p1 p3) p5), vI (f_draw (f_draw p2 p4) p6), vR b5, vR b8, vR b12, vR b17] [(.int 0), (.ref b17)]) _
      refine XS.iconst X105.here hx rfl (bb at_121) ?_
      refine st110.trans ?_
      show GG p e below T110 (mkF m 125 #[vI p1, vI p2, vJ p3, .second, vJ p4, .second, vJ p5, .second, vJ p6, .second, vI (f_draw p1 p3), vI (f_draw p2 p4), vI (f_draw (f_draw p1 p3) p5), vI (f_draw (f_draw p2 p4) p6), vR b5, vR b8, vR b12, vR b17] [(.int p2)]) _
      refine XS.iloadN X110.here hx rfl (bb at_125) rfl ?_
      refine XS.icmpNo X110.here hx rfl (bb at_126) rfl (teq (rfl : p2 = p2)).2 ?_
      refine XS.aload X110.here hx rfl (bb at_129) rfl rfl ?_
      refine XS.iconst X110.here hx rfl (bb at_131) ?_
      show GG p e below T110 (mkF m 132 #[vI p1, vI p2, vJ p3, .second, vJ p4, .second, vJ p5, .second, vJ p6, .second, vI (f_draw p1 p3), vI (f_draw p2 p4), vI (f_draw (f_draw p1 p3) p5), vI (f_draw (f_draw p2 p4) p6), vR b5, vR b8, vR b12, vR b17] [(.int 1), (.ref b17)]) _
      refine XS.iconst X110.here hx rfl (bb at_132) ?_
      refine st114.trans ?_
      show GG p e below T114 (mkF m 136 #[vI p1, vI p2, vJ p3, .second, vJ p4, .second, vJ p5, .second, vJ p6, .second, vI (f_draw p1 p3), vI (f_draw p2 p4), vI (f_draw (f_draw p1 p3) p5), vI (f_draw (f_draw p2 p4) p6), vR b5, vR b8, vR b12, vR b17] [(.int (f_draw p1 p3))]) _
      refine XS.iload X114.here hx rfl (bb at_136) rfl ?_
      refine XS.icmpNo X114.here hx rfl (bb at_138) rfl (teq (rfl : (f_draw p1 p3) = (f_draw p1 p3))).2 ?_
      refine XS.aload X114.here hx rfl (bb at_141) rfl rfl ?_
      refine XS.iconst X114.here hx rfl (bb at_143) ?_
      show GG p e below T114 (mkF m 144 #[vI p1, vI p2, vJ p3, .second, vJ p4, .second, vJ p5, .second, vJ p6, .second, vI (f_draw p1 p3), vI (f_draw p2 p4), vI (f_draw (f_draw p1 p3) p5), vI (f_draw (f_draw p2 p4) p6), vR b5, vR b8, vR b12, vR b17] [(.int 1), (.ref b17)]) _
      refine XS.iconst X114.here hx rfl (bb at_144) ?_
      refine st118.trans ?_
      show GG p e below T118 (mkF m 148 #[vI p1, vI p2, vJ p3, .second, vJ p4, .second, vJ p5, .second, vJ p6, .second, vI (f_draw p1 p3), vI (f_draw p2 p4), vI (f_draw (f_draw p1 p3) p5), vI (f_draw (f_draw p2 p4) p6), vR b5, vR b8, vR b12, vR b17] [(.int (f_draw p2 p4))]) _
      refine XS.iload X118.here hx rfl (bb at_148) rfl ?_
      refine XS.icmpNo X118.here hx rfl (bb at_150) rfl (teq (rfl : (f_draw p2 p4) = (f_draw p2 p4))).2 ?_
      refine XS.aload X118.here hx rfl (bb at_153) rfl rfl ?_
      refine XS.iconst X118.here hx rfl (bb at_155) ?_
      show GG p e below T118 (mkF m 156 #[vI p1, vI p2, vJ p3, .second, vJ p4, .second, vJ p5, .second, vJ p6, .second, vI (f_draw p1 p3), vI (f_draw p2 p4), vI (f_draw (f_draw p1 p3) p5), vI (f_draw (f_draw p2 p4) p6), vR b5, vR b8, vR b12, vR b17] [(.int 2), (.ref b17)]) _
      refine XS.iconst X118.here hx rfl (bb at_156) ?_
      refine st122.trans ?_
      show GG p e below T122 (mkF m 160 #[vI p1, vI p2, vJ p3, .second, vJ p4, .second, vJ p5, .second, vJ p6, .second, vI (f_draw p1 p3), vI (f_draw p2 p4), vI (f_draw (f_draw p1 p3) p5), vI (f_draw (f_draw p2 p4) p6), vR b5, vR b8, vR b12, vR b17] [(.int (f_draw (f_draw p1 p3) p5))]) _
      refine XS.iload X122.here hx rfl (bb at_160) rfl ?_
      refine XS.icmpNo X122.here hx rfl (bb at_162) rfl (teq (rfl : (f_draw (f_draw p1 p3) p5) = (f_draw (f_draw p1 p3) p5))).2 ?_
      refine XS.aload X122.here hx rfl (bb at_165) rfl rfl ?_
      refine XS.iconst X122.here hx rfl (bb at_167) ?_
      show GG p e below T122 (mkF m 168 #[vI p1, vI p2, vJ p3, .second, vJ p4, .second, vJ p5, .second, vJ p6, .second, vI (f_draw p1 p3), vI (f_draw p2 p4), vI (f_draw (f_draw p1 p3) p5), vI (f_draw (f_draw p2 p4) p6), vR b5, vR b8, vR b12, vR b17] [(.int 2), (.ref b17)]) _
      refine XS.iconst X122.here hx rfl (bb at_168) ?_
      refine st126.trans ?_
      show GG p e below T126 (mkF m 172 #[vI p1, vI p2, vJ p3, .second, vJ p4, .second, vJ p5, .second, vJ p6, .second, vI (f_draw p1 p3), vI (f_draw p2 p4), vI (f_draw (f_draw p1 p3) p5), vI (f_draw (f_draw p2 p4) p6), vR b5, vR b8, vR b12, vR b17] [(.int (f_draw (f_draw p2 p4) p6))]) _
      refine XS.iload X126.here hx rfl (bb at_172) rfl ?_
      refine XS.icmpNo X126.here hx rfl (bb at_174) rfl (teq (rfl : (f_draw (f_draw p2 p4) p6) = (f_draw (f_draw p2 p4) p6))).2 ?_
      refine XS.iconst X126.here hx rfl (bb at_177) ?_
      refine XS.goto X126.here hx rfl (pc0 := 178) (pc' := 182) rfl (bb at_178) (by decide) (by decide) ?_
      show GG p e below T126 (mkF m 182 #[vI p1, vI p2, vJ p3, .second, vJ p4, .second, vJ p5, .second, vJ p6, .second, vI (f_draw p1 p3), vI (f_draw p2 p4), vI (f_draw (f_draw p1 p3) p5), vI (f_draw (f_draw p2 p4) p6), vR b5, vR b8, vR b12, vR b17] [(.int 1)]) _
      exact retN X126 hx (t := .boolean) Bd.returns (by simp) (bb at_182) hr
    · exact ⟨rfl, N126⟩
theorem own_plain {p1 : Int32} {p2 : Int32} {p3 : Int64} {p4 : Int64} {p5 : Int64} {p6 : Int64} : lawP p1 p2 p3 p4 p5 p6 := by
  unfold lawP
  split
  · split <;> trivial
  · trivial
set_option maxRecDepth 65536 in
set_option maxHeartbeats 40000000 in
theorem comes_1 {Post : Tables → Env → Array Value → State → Outcome → State → Prop} (hpost : ∀ tb e args s v u, (limb_1_1.after args s (.returned v) u = true ∧ limb_1_2.after args s (.returned v) u = true ∧ True) → FrameEnd s (.returned v) u (Jvm.fieldLocs frame_1_writes args s ++ Jvm.arrayLocs frame_1_arrays args s ++ Jvm.staticLocs frame_1_statics s) 32 192 → Post tb e args s (.returned v) u) :
    ArmFor flags0 classFile x code maxLocals ret World_1 tables_1 room_1 Calls_1 rest_1 Pre_1 Post := by
  intro l hfl _ _ p e ha hc hk s m args below hf hA hF happ hP
  obtain ⟨hcalls, hrest, hpre⟩ := hP
  obtain ⟨-, -, -, hnamed, -, -, -, hat⟩ := (Spec.applies_iff hf).mp happ
  obtain ⟨hg, hn⟩ := and_e (Cond.before_iff.mp (show (Jvm.Cond.and given_1 narrow_1).before args s = true from hpre))
  obtain ⟨gv0, gr0⟩ := and_e hg
  obtain ⟨gv1, gr1⟩ := and_e gr0
  obtain ⟨gv2, gr2⟩ := and_e gr1
  obtain ⟨gv3, gr3⟩ := and_e gr2
  obtain ⟨gv4, gr4⟩ := and_e gr3
  obtain ⟨gv5, gr5⟩ := and_e gr4
  obtain ⟨w0, w1, w2, w3, w4, w5, rfl⟩ : ∃ w0 w1 w2 w3 w4 w5 : Value, args = #[w0, w1, w2, w3, w4, w5] := by
    have hs : args.size = 6 := by simpa [Cond.value, given_1] using gv0
    obtain ⟨L⟩ := args
    match L, hs with
    | [w0, w1, w2, w3, w4, w5], _ => exact ⟨w0, w1, w2, w3, w4, w5, rfl⟩
  have hw := fun d (hd : d ∈ tables_1) => atoms_spec (ws := Jvm.Cond.code x code maxLocals ret :: tables_1) hat d (List.mem_cons_of_mem _ hd)
  obtain ⟨i0, ei0⟩ := is_v gv1
  obtain rfl : w0 = (.int i0) := Option.some.inj ei0
  obtain ⟨i1, ei1⟩ := is_v gv2
  obtain rfl : w1 = (.int i1) := Option.some.inj ei1
  obtain ⟨i2, ei2⟩ := isL_v gv3
  obtain rfl : w2 = (.long i2) := Option.some.inj ei2
  obtain ⟨i3, ei3⟩ := isL_v gv4
  obtain rfl : w3 = (.long i3) := Option.some.inj ei3
  obtain ⟨i4, ei4⟩ := isL_v gv5
  obtain rfl : w4 = (.long i4) := Option.some.inj ei4
  obtain ⟨i5, ei5⟩ := isL_v gr5
  obtain rfl : w5 = (.long i5) := Option.some.inj ei5
  -- hn says: (Jvm.Cond.eq (Jvm.Term.static cRV "CHUNK_SHIFT" "I") (Jvm.Term.int (12 : Int32)))
  have O0 := Old.start s
  have S_CS : Sta s s.heap cRV "CHUNK_SHIFT" "I" (.int (12 : Int32)) := Sta.start (eqv_i (Term.int_eval (12)) hn) (Or.inr ⟨(wd8 hw), (wd41 hw)⟩)
  obtain ⟨n, o, h1, h2, h3, _, L, rfl, ⟨rfl, N⟩, hq⟩ := rm_law l s _ hw tables_1 i0 i1 i2 i3 i4 i5 s.heap s.heap.size (Nat.le_refl _) O0 S_CS own_plain p e ha hc hk s m _ below hf ((Spec.applies_iff_loose hf).mp happ).1 ⟨rfl, State.Warmed39.refl s, rfl⟩ trivial
  exact ⟨n, _, h1, h2, h3, hpost _ _ _ _ _ _ ⟨Cond.after_iff.mpr rfl, Cond.after_iff.mpr (eq_i res_at (Term.int_eval (1)) rfl), trivial⟩ ⟨hq.1, hq.2.1, (hq.2.2.sift fun y hy => Or.inr (N y hy)).mono (by decide) (by decide)⟩⟩
theorem main_1_1 : Claimed_1_1 := comes_1 fun _ _ _ _ _ _ h hF => ⟨h.1, hF⟩
theorem main_1_2 : Claimed_1_2 := comes_1 fun _ _ _ _ _ _ h hF => ⟨h.2.1, hF⟩

end Jvm.Pilot.@@N@@
namespace Jvm.Pilot.@@N@@
open Jvm Jvm.ClassFile Sem Op Lib Jvm.Free Jvm.Stand Jvm.Pilot.@@N@@.Jvm.D
/-! MADE BY PROGRAM (witnessworld.py) out of the Statement's table words and the real class files: 13 classes; the members and pool entries that the words name. The judged class is class 1, her method 1. -/
namespace start1
open Jvm.ClassFile
def u (s : String) : CpInfo := .utf8 (stringToUtf16 s)
/-- a pool by its gaps: so many unusable entries, then the entry; so many at the end -/
def gap : Nat → List CpInfo → List CpInfo
  | 0, r => r
  | n + 1, r => .unusable :: gap n r
def poolList (es : List (Nat × CpInfo)) (last : Nat) : List CpInfo := es.foldr (fun e r => gap e.1 (e.2 :: r)) (gap last [])
def pool (es : List (Nat × CpInfo)) (last : Nat) : Array CpInfo := ⟨poolList es last⟩
def fileOf (pool : Array CpInfo) (this : Nat) (attrs : Array Attribute := #[]) (ms : Array MethodInfo := #[]) (fl : Nat := 33) (sup : Nat := 0) (ifs : Array Nat := #[]) (fds : Array FieldInfo := #[]) : ClassFile where
  minorVersion := 0
  majorVersion := 65
  constantPool := pool
  accessFlags := fl
  thisClass := this
  superClass := sup
  interfaces := ifs
  fields := fds
  methods := ms
  attributes := attrs
def plain (name : String) (sup : Option ClassId) : Class where
  name := name
  kind := .ordinary
  loader := none
  accessFlags := 33
  super := sup
  interfaces := #[]
  cf := none
  fields := #[]
  methods := #[]
  instanceTypes := #[]
  staticTypes := #[]
  resolved := #[]
  callSites := []
  init := .initialized
  statics := none
  mirror := none

def pool0 : Array CpInfo := pool [(5, u "<init>"), (0, u "()V"), (1, .class_ 10), (1, u "java/lang/Object")] 113

def k0c0 : Code := { maxStack := 0, maxLocals := 1, code := object_method_1_code, exceptionTable := #[], attributes := #[] }
def k0m0 : Method := { name := "<init>", desc := "()V", sig := { parameters := [], returnType := none }, accessFlags := 1, code := some k0c0 }
/-- java/lang/Object -/
def k0 : Class := { plain "java/lang/Object" none with
  accessFlags := 33
  interfaces := #[]
  cf := some (fileOf pool0 8 #[] #[{ accessFlags := 1, nameIndex := 5, descriptorIndex := 6, attributes := #[] }] 33 0 #[] #[])
  fields := #[]
  methods := #[k0m0]
  instanceTypes := #[]
  staticTypes := #[]
  resolved := Array.replicate 124 none
  statics := none }

def pool1 : Array CpInfo := pool [(2, .class_ 4), (1, u "java/lang/Object"), (0, u "<init>"), (0, u "()V"), (0, .methodref 8 9), (0, .class_ 10), (0, .nameAndType 11 12), (0, u "com/example/chaseward/chaseward/engine/RowValuesGetPinLaw"), (0, u "draw"), (0, u "(IJ)I"), (0, .class_ 14), (0, u "com/example/chaseward/chaseward/engine/RowValues"), (0, .methodref 13 16), (0, .nameAndType 5 17), (0, u "(I)V"), (0, .methodref 13 19), (0, .nameAndType 20 21), (0, u "add"), (0, u "([I)V"), (0, .methodref 13 23), (0, .nameAndType 24 25), (0, u "get"), (0, u "(II)I"), (0, .long 98304), (3, u "law"), (0, u "(IIJJJJ)Z")] 5

def k1m0 : Method := { name := "<init>", desc := "()V", sig := { parameters := [], returnType := none }, accessFlags := 1, code := none }
def k1c1 : Code := { maxStack := 4, maxLocals := 18, code := code, exceptionTable := #[], attributes := #[] }
def k1m1 : Method := { name := "law", desc := "(IIJJJJ)Z", sig := { parameters := [.int, .int, .long, .long, .long, .long], returnType := some .boolean }, accessFlags := 9, code := some k1c1 }
def k1c2 : Code := { maxStack := 5, maxLocals := 3, code := method_3_code, exceptionTable := #[], attributes := #[] }
def k1m2 : Method := { name := "draw", desc := "(IJ)I", sig := { parameters := [.int, .long], returnType := some .int }, accessFlags := 10, code := some k1c2 }
/-- com/example/chaseward/chaseward/engine/RowValuesGetPinLaw -/
def k1 : Class := { plain "com/example/chaseward/chaseward/engine/RowValuesGetPinLaw" (some 0) with
  accessFlags := 49
  interfaces := #[]
  cf := some (fileOf pool1 8 #[] #[{ accessFlags := 1, nameIndex := 5, descriptorIndex := 6, attributes := #[] }, { accessFlags := 9, nameIndex := 30, descriptorIndex := 31, attributes := #[] }, { accessFlags := 10, nameIndex := 11, descriptorIndex := 12, attributes := #[] }] 49 2 #[] #[])
  fields := #[]
  methods := #[k1m0, k1m1, k1m2]
  instanceTypes := #[]
  staticTypes := #[]
  resolved := Array.replicate 37 none
  statics := none }

def pool2 : Array CpInfo := pool [(1, .methodref 2 3), (0, .class_ 4), (0, .nameAndType 5 6), (0, u "java/lang/Object"), (0, u "<init>"), (0, u "()V"), (0, .class_ 8), (0, u "[I"), (0, .fieldref 10 11), (0, .class_ 12), (0, .nameAndType 13 14), (0, u "com/example/chaseward/chaseward/engine/RowValues"), (0, u "wide"), (0, u "[[I"), (0, .class_ 16), (0, u "[C"), (0, .fieldref 10 18), (0, .nameAndType 19 20), (0, u "narrow"), (0, u "[[C"), (0, .fieldref 10 22), (0, .nameAndType 23 24), (0, u "arity"), (0, u "I"), (0, .fieldref 10 26), (0, .nameAndType 27 8), (0, u "bases"), (0, .fieldref 10 29), (0, .nameAndType 30 8), (0, u "lowest"), (0, .fieldref 10 32), (0, .nameAndType 33 8), (0, u "highest"), (0, .fieldref 10 35), (0, .nameAndType 36 24), (0, u "rows"), (0, .fieldref 10 38), (0, .nameAndType 39 24), (0, u "CHUNK_SHIFT"), (0, .methodref 10 41), (0, .nameAndType 42 43), (0, u "start"), (0, u "(I[I)V"), (0, .methodref 10 45), (0, .nameAndType 46 47), (0, u "makeRoom"), (0, u "(II)V"), (0, .methodref 10 49), (0, .nameAndType 50 51), (0, u "fit"), (0, u "(II[I)V"), (11, .methodref 10 64), (0, .nameAndType 65 66), (0, u "base"), (0, u "(II)I"), (0, .methodref 68 69), (0, .class_ 70), (0, .nameAndType 71 72), (0, u "java/lang/System"), (0, u "arraycopy"), (0, u "(Ljava/lang/Object;ILjava/lang/Object;II)V"), (0, .methodref 74 75), (0, .class_ 76), (0, .nameAndType 77 66), (0, u "java/lang/Math"), (0, u "min"), (3, .methodref 74 82), (0, .nameAndType 83 66), (0, u "max"), (0, .long 65536), (1, .methodref 10 87), (0, .nameAndType 88 47), (0, u "widen"), (0, .long 65535), (3, .long 18446744071562067968), (1, .long 2), (1, .methodref 74 98), (0, .nameAndType 83 99), (0, u "(JJ)J"), (0, .methodref 10 101), (0, .nameAndType 102 66), (0, u "get"), (4, u "CHUNK_ROWS"), (2, u "SPAN"), (1, u "(I)V"), (4, u "add"), (0, u "([I)V")] 3

def k2c0 : Code := { maxStack := 4, maxLocals := 2, code := prog_47_method_1_code, exceptionTable := #[], attributes := #[] }
def k2m0 : Method := { name := "<init>", desc := "(I)V", sig := { parameters := [.int], returnType := none }, accessFlags := 0, code := some k2c0 }
def k2c1 : Code := { maxStack := 3, maxLocals := 6, code := prog_47_method_3_code, exceptionTable := #[], attributes := #[] }
def k2m1 : Method := { name := "get", desc := "(II)I", sig := { parameters := [.int, .int], returnType := some .int }, accessFlags := 0, code := some k2c1 }
def k2c2 : Code := { maxStack := 6, maxLocals := 7, code := prog_47_method_4_code, exceptionTable := #[], attributes := #[] }
def k2m2 : Method := { name := "add", desc := "([I)V", sig := { parameters := [(.array .int)], returnType := none }, accessFlags := 0, code := some k2c2 }
def k2c3 : Code := { maxStack := 5, maxLocals := 4, code := prog_47_method_5_code, exceptionTable := #[], attributes := #[] }
def k2m3 : Method := { name := "start", desc := "(I[I)V", sig := { parameters := [.int, (.array .int)], returnType := none }, accessFlags := 2, code := some k2c3 }
def k2c4 : Code := { maxStack := 4, maxLocals := 5, code := prog_47_method_6_code, exceptionTable := #[], attributes := #[] }
def k2m4 : Method := { name := "makeRoom", desc := "(II)V", sig := { parameters := [.int, .int], returnType := none }, accessFlags := 2, code := some k2c4 }
def k2c5 : Code := { maxStack := 5, maxLocals := 11, code := prog_47_method_7_code, exceptionTable := #[], attributes := #[] }
def k2m5 : Method := { name := "fit", desc := "(II[I)V", sig := { parameters := [.int, .int, (.array .int)], returnType := none }, accessFlags := 2, code := some k2c5 }
def k2c6 : Code := { maxStack := 8, maxLocals := 4, code := prog_47_method_8_code, exceptionTable := #[], attributes := #[] }
def k2m6 : Method := { name := "base", desc := "(II)I", sig := { parameters := [.int, .int], returnType := some .int }, accessFlags := 10, code := some k2c6 }
def k2c7 : Code := { maxStack := 5, maxLocals := 6, code := prog_47_method_9_code, exceptionTable := #[], attributes := #[] }
def k2m7 : Method := { name := "widen", desc := "(II)V", sig := { parameters := [.int, .int], returnType := none }, accessFlags := 2, code := some k2c7 }
/-- com/example/chaseward/chaseward/engine/RowValues -/
def k2 : Class := { plain "com/example/chaseward/chaseward/engine/RowValues" (some 0) with
  accessFlags := 48
  interfaces := #[]
  cf := some (fileOf pool2 10 #[] #[{ accessFlags := 0, nameIndex := 5, descriptorIndex := 112, attributes := #[] }, { accessFlags := 0, nameIndex := 102, descriptorIndex := 66, attributes := #[] }, { accessFlags := 0, nameIndex := 117, descriptorIndex := 118, attributes := #[] }, { accessFlags := 2, nameIndex := 42, descriptorIndex := 43, attributes := #[] }, { accessFlags := 2, nameIndex := 46, descriptorIndex := 47, attributes := #[] }, { accessFlags := 2, nameIndex := 50, descriptorIndex := 51, attributes := #[] }, { accessFlags := 10, nameIndex := 65, descriptorIndex := 66, attributes := #[] }, { accessFlags := 2, nameIndex := 88, descriptorIndex := 47, attributes := #[] }] 48 2 #[] #[{ accessFlags := 26, nameIndex := 107, descriptorIndex := 24, attributes := #[] }, { accessFlags := 26, nameIndex := 39, descriptorIndex := 24, attributes := #[] }, { accessFlags := 26, nameIndex := 110, descriptorIndex := 24, attributes := #[] }, { accessFlags := 18, nameIndex := 23, descriptorIndex := 24, attributes := #[] }, { accessFlags := 2, nameIndex := 36, descriptorIndex := 24, attributes := #[] }, { accessFlags := 2, nameIndex := 13, descriptorIndex := 14, attributes := #[] }, { accessFlags := 2, nameIndex := 19, descriptorIndex := 20, attributes := #[] }, { accessFlags := 2, nameIndex := 27, descriptorIndex := 8, attributes := #[] }, { accessFlags := 18, nameIndex := 30, descriptorIndex := 8, attributes := #[] }, { accessFlags := 18, nameIndex := 33, descriptorIndex := 8, attributes := #[] }])
  fields := #[{ name := "CHUNK_ROWS", type := .int, accessFlags := 26, slot := 0, constantValue := 0 }, { name := "CHUNK_SHIFT", type := .int, accessFlags := 26, slot := 1, constantValue := 0 }, { name := "SPAN", type := .int, accessFlags := 26, slot := 2, constantValue := 0 }, { name := "arity", type := .int, accessFlags := 18, slot := 0, constantValue := 0 }, { name := "rows", type := .int, accessFlags := 2, slot := 1, constantValue := 0 }, { name := "wide", type := (.array (.array .int)), accessFlags := 2, slot := 2, constantValue := 0 }, { name := "narrow", type := (.array (.array .char)), accessFlags := 2, slot := 3, constantValue := 0 }, { name := "bases", type := (.array .int), accessFlags := 2, slot := 4, constantValue := 0 }, { name := "lowest", type := (.array .int), accessFlags := 18, slot := 5, constantValue := 0 }, { name := "highest", type := (.array .int), accessFlags := 18, slot := 6, constantValue := 0 }]
  methods := #[k2m0, k2m1, k2m2, k2m3, k2m4, k2m5, k2m6, k2m7]
  instanceTypes := #[.int, .int, (.array (.array .int)), (.array (.array .char)), (.array .int), (.array .int), (.array .int)]
  staticTypes := #[.int, .int, .int]
  resolved := Array.replicate 122 none
  statics := some 0 }

def pool3 : Array CpInfo := pool [(1, .class_ 2), (0, u "java/lang/Math"), (1, .class_ 6), (1, u "java/lang/Object"), (0, u "<init>"), (0, u "()V"), (89, .class_ 100), (1, u "java/lang/Math$RandomNumberGeneratorHolder"), (20, u "(JJ)J"), (50, u "negativeZeroFloatBits"), (0, u "J"), (2, u "negativeZeroDoubleBits"), (21, u "max"), (2, u "min"), (43, u "$assertionsDisabled"), (0, u "Z"), (88, u "(II)I"), (2, u "twoToTheDoubleScaleDown"), (0, u "D"), (4, u "twoToTheDoubleScaleUp"), (9, u "E"), (3, u "PI"), (2, u "TAU"), (2, u "DEGREES_TO_RADIANS"), (0, u "RADIANS_TO_DEGREES")] 94

def k3m0 : Method := { name := "<init>", desc := "()V", sig := { parameters := [], returnType := none }, accessFlags := 2, code := none }
def k3c1 : Code := { maxStack := 2, maxLocals := 2, code := jdk_29_method_65_code, exceptionTable := #[], attributes := #[] }
def k3m1 : Method := { name := "max", desc := "(II)I", sig := { parameters := [.int, .int], returnType := some .int }, accessFlags := 9, code := some k3c1 }
def k3c2 : Code := { maxStack := 4, maxLocals := 4, code := jdk_29_method_66_code, exceptionTable := #[], attributes := #[] }
def k3m2 : Method := { name := "max", desc := "(JJ)J", sig := { parameters := [.long, .long], returnType := some .long }, accessFlags := 9, code := some k3c2 }
def k3c3 : Code := { maxStack := 2, maxLocals := 2, code := jdk_29_method_69_code, exceptionTable := #[], attributes := #[] }
def k3m3 : Method := { name := "min", desc := "(II)I", sig := { parameters := [.int, .int], returnType := some .int }, accessFlags := 9, code := some k3c3 }
/-- java/lang/Math -/
def k3 : Class := { plain "java/lang/Math" (some 0) with
  accessFlags := 49
  interfaces := #[]
  cf := some (fileOf pool3 1 #[.nestMembers #[98]] #[{ accessFlags := 2, nameIndex := 7, descriptorIndex := 8, attributes := #[] }, { accessFlags := 9, nameIndex := 198, descriptorIndex := 335, attributes := #[] }, { accessFlags := 9, nameIndex := 198, descriptorIndex := 121, attributes := #[] }, { accessFlags := 9, nameIndex := 201, descriptorIndex := 335, attributes := #[] }] 49 4 #[] #[{ accessFlags := 25, nameIndex := 354, descriptorIndex := 339, attributes := #[] }, { accessFlags := 25, nameIndex := 358, descriptorIndex := 339, attributes := #[] }, { accessFlags := 25, nameIndex := 361, descriptorIndex := 339, attributes := #[] }, { accessFlags := 26, nameIndex := 364, descriptorIndex := 339, attributes := #[] }, { accessFlags := 26, nameIndex := 365, descriptorIndex := 339, attributes := #[] }, { accessFlags := 26, nameIndex := 172, descriptorIndex := 173, attributes := #[] }, { accessFlags := 26, nameIndex := 176, descriptorIndex := 173, attributes := #[] }, { accessFlags := 8, nameIndex := 344, descriptorIndex := 339, attributes := #[] }, { accessFlags := 8, nameIndex := 338, descriptorIndex := 339, attributes := #[] }, { accessFlags := 4120, nameIndex := 245, descriptorIndex := 246, attributes := #[] }])
  fields := #[{ name := "E", type := .double, accessFlags := 25, slot := 0, constantValue := 0 }, { name := "PI", type := .double, accessFlags := 25, slot := 1, constantValue := 0 }, { name := "TAU", type := .double, accessFlags := 25, slot := 2, constantValue := 0 }, { name := "DEGREES_TO_RADIANS", type := .double, accessFlags := 26, slot := 3, constantValue := 0 }, { name := "RADIANS_TO_DEGREES", type := .double, accessFlags := 26, slot := 4, constantValue := 0 }, { name := "negativeZeroFloatBits", type := .long, accessFlags := 26, slot := 5, constantValue := 0 }, { name := "negativeZeroDoubleBits", type := .long, accessFlags := 26, slot := 6, constantValue := 0 }, { name := "twoToTheDoubleScaleUp", type := .double, accessFlags := 8, slot := 7, constantValue := 0 }, { name := "twoToTheDoubleScaleDown", type := .double, accessFlags := 8, slot := 8, constantValue := 0 }, { name := "$assertionsDisabled", type := .boolean, accessFlags := 4120, slot := 9, constantValue := 0 }]
  methods := #[k3m0, k3m1, k3m2, k3m3]
  instanceTypes := #[]
  staticTypes := #[.double, .double, .double, .double, .double, .long, .long, .double, .double, .boolean]
  resolved := Array.replicate 460 none
  statics := none }

def pool4 : Array CpInfo := pool [(2, .class_ 4), (1, u "java/lang/Object"), (0, u "<init>"), (0, u "()V"), (1, .class_ 10), (1, u "java/lang/System"), (0, u "allowSecurityManager"), (0, u "I"), (16, u "cons"), (0, u "Ljava/io/Console;"), (77, .class_ 110), (1, u "java/lang/System$CallersHolder"), (43, u "initialErrStream"), (0, u "Ljava/io/PrintStream;"), (19, u "security"), (0, u "Ljava/lang/SecurityManager;"), (31, .class_ 209), (0, u "java/lang/System$1"), (7, u "props"), (0, u "Ljava/util/Properties;"), (2, u "lineSeparator"), (0, u "Ljava/lang/String;"), (96, .class_ 321), (1, u "java/lang/System$LoggerFinder"), (5, .class_ 328), (0, u "java/lang/System$Logger"), (67, u "err"), (2, u "out"), (91, u "notSupportedJnuEncoding"), (15, u "in"), (17, u "initialIn"), (0, u "Ljava/io/InputStream;"), (35, u "bootLayer"), (0, u "Ljava/lang/ModuleLayer;"), (99, .class_ 664), (0, u "java/lang/System$2"), (9, u "NEVER"), (2, u "MAYBE"), (49, u "arraycopy"), (0, u "(Ljava/lang/Object;ILjava/lang/Object;II)V"), (72, .class_ 802), (0, u "java/lang/System$Logger$Level")] 31

def k4m0 : Method := { name := "<init>", desc := "()V", sig := { parameters := [], returnType := none }, accessFlags := 2, code := none }
def k4m1 : Method := { name := "arraycopy", desc := "(Ljava/lang/Object;ILjava/lang/Object;II)V", sig := { parameters := [(.object "java/lang/Object"), .int, (.object "java/lang/Object"), .int, .int], returnType := none }, accessFlags := 265, code := none }
/-- java/lang/System -/
def k4 : Class := { plain "java/lang/System" (some 0) with
  accessFlags := 49
  interfaces := #[]
  cf := some (fileOf pool4 8 #[.nestMembers #[319, 327, 801, 108, 663, 208]] #[{ accessFlags := 2, nameIndex := 5, descriptorIndex := 6, attributes := #[] }, { accessFlags := 265, nameIndex := 727, descriptorIndex := 728, attributes := #[] }] 49 2 #[] #[{ accessFlags := 25, nameIndex := 507, descriptorIndex := 526, attributes := #[] }, { accessFlags := 25, nameIndex := 399, descriptorIndex := 155, attributes := #[] }, { accessFlags := 25, nameIndex := 396, descriptorIndex := 155, attributes := #[] }, { accessFlags := 10, nameIndex := 525, descriptorIndex := 526, attributes := #[] }, { accessFlags := 26, nameIndex := 674, descriptorIndex := 12, attributes := #[] }, { accessFlags := 26, nameIndex := 677, descriptorIndex := 12, attributes := #[] }, { accessFlags := 10, nameIndex := 11, descriptorIndex := 12, attributes := #[] }, { accessFlags := 74, nameIndex := 175, descriptorIndex := 176, attributes := #[] }, { accessFlags := 10, nameIndex := 491, descriptorIndex := 222, attributes := #[] }, { accessFlags := 74, nameIndex := 29, descriptorIndex := 30, attributes := #[] }, { accessFlags := 74, nameIndex := 154, descriptorIndex := 155, attributes := #[] }, { accessFlags := 10, nameIndex := 217, descriptorIndex := 218, attributes := #[] }, { accessFlags := 10, nameIndex := 221, descriptorIndex := 222, attributes := #[] }, { accessFlags := 8, nameIndex := 562, descriptorIndex := 563, attributes := #[] }])
  fields := #[{ name := "in", type := (.object "java/io/InputStream"), accessFlags := 25, slot := 0, constantValue := 0 }, { name := "out", type := (.object "java/io/PrintStream"), accessFlags := 25, slot := 1, constantValue := 0 }, { name := "err", type := (.object "java/io/PrintStream"), accessFlags := 25, slot := 2, constantValue := 0 }, { name := "initialIn", type := (.object "java/io/InputStream"), accessFlags := 10, slot := 3, constantValue := 0 }, { name := "NEVER", type := .int, accessFlags := 26, slot := 4, constantValue := 0 }, { name := "MAYBE", type := .int, accessFlags := 26, slot := 5, constantValue := 0 }, { name := "allowSecurityManager", type := .int, accessFlags := 10, slot := 6, constantValue := 0 }, { name := "security", type := (.object "java/lang/SecurityManager"), accessFlags := 74, slot := 7, constantValue := 0 }, { name := "notSupportedJnuEncoding", type := (.object "java/lang/String"), accessFlags := 10, slot := 8, constantValue := 0 }, { name := "cons", type := (.object "java/io/Console"), accessFlags := 74, slot := 9, constantValue := 0 }, { name := "initialErrStream", type := (.object "java/io/PrintStream"), accessFlags := 74, slot := 10, constantValue := 0 }, { name := "props", type := (.object "java/util/Properties"), accessFlags := 10, slot := 11, constantValue := 0 }, { name := "lineSeparator", type := (.object "java/lang/String"), accessFlags := 10, slot := 12, constantValue := 0 }, { name := "bootLayer", type := (.object "java/lang/ModuleLayer"), accessFlags := 8, slot := 13, constantValue := 0 }]
  methods := #[k4m0, k4m1]
  instanceTypes := #[]
  staticTypes := #[(.object "java/io/InputStream"), (.object "java/io/PrintStream"), (.object "java/io/PrintStream"), (.object "java/io/InputStream"), .int, .int, .int, (.object "java/lang/SecurityManager"), (.object "java/lang/String"), (.object "java/io/Console"), (.object "java/io/PrintStream"), (.object "java/util/Properties"), (.object "java/lang/String"), (.object "java/lang/ModuleLayer")]
  resolved := Array.replicate 834 none
  statics := none }

def pool5 : Array CpInfo := pool [(1, u "java/lang/Cloneable"), (0, .class_ 1), (0, u "java/lang/Object"), (0, .class_ 3)] 3

/-- java/lang/Cloneable -/
def k5 : Class := { plain "java/lang/Cloneable" (some 0) with
  accessFlags := 1537
  interfaces := #[]
  cf := some (fileOf pool5 2 #[] #[] 1537 4 #[] #[])
  fields := #[]
  methods := #[]
  instanceTypes := #[]
  staticTypes := #[]
  resolved := Array.replicate 8 none
  statics := none }

def pool6 : Array CpInfo := pool [(1, u "java/io/Serializable"), (0, .class_ 1), (0, u "java/lang/Object"), (0, .class_ 3)] 3

/-- java/io/Serializable -/
def k6 : Class := { plain "java/io/Serializable" (some 0) with
  accessFlags := 1537
  interfaces := #[]
  cf := some (fileOf pool6 2 #[] #[] 1537 4 #[] #[])
  fields := #[]
  methods := #[]
  instanceTypes := #[]
  staticTypes := #[]
  resolved := Array.replicate 8 none
  statics := none }

/-- the primitive byte -/
def k7 : Class := { plain "byte" none with kind := .primitive 'B', accessFlags := 0x411 }
/-- [B -/
def k8 : Class := { plain "[B" (some 0) with kind := .array 7 .byte, interfaces := #[5, 6], accessFlags := 1041 }

/-- the primitive char -/
def k9 : Class := { plain "char" none with kind := .primitive 'C', accessFlags := 0x411 }
/-- [C -/
def k10 : Class := { plain "[C" (some 0) with kind := .array 9 .char, interfaces := #[5, 6], accessFlags := 1041 }

/-- the primitive int -/
def k11 : Class := { plain "int" none with kind := .primitive 'I', accessFlags := 0x411 }
/-- [I -/
def k12 : Class := { plain "[I" (some 0) with kind := .array 11 .int, interfaces := #[5, 6], accessFlags := 1041 }

/-- [[I -/
def k13 : Class := { plain "[[I" (some 0) with kind := .array 12 (.array .int), interfaces := #[5, 6], accessFlags := 1041 }
/-- [[C -/
def k14 : Class := { plain "[[C" (some 0) with kind := .array 10 (.array .char), interfaces := #[5, 6], accessFlags := 1041 }

def heap : Heap := #[{ cls := 2, slots := #[.int 0, .int 12, .int 0], vm := .statics 2 }]
def classes : Array Class := #[k0, k1, k2, k3, k4, k5, k6, k7, k8, k9, k10, k11, k12, k13, k14]
def interned : List (Array UInt16 × Addr) := []
def slotsUsed : Nat := 3
def theMethod : MethodId := ⟨1, 1⟩
def args0 : Array Value := #[.int 5, .int 6, .long 7, .long 8, .long 9, .long 10]
def aboutOver (below : List Frame) : State where
  vm := { classes := classes, interned := interned.toArray }
  heap := heap
  slotsUsed := slotsUsed
  threads := #[{ frames := .invoking theMethod args0 :: below }]
def below0 : List Frame := [.native { method := ⟨0, 0⟩, args := #[] }]
def about1 : State := aboutOver below0
def p0 : Program := .bare "" "" ""
def e0 : Env := launch0.env 0 0 0
theorem w_frames : about1.frames = Frame.invoking theMethod args0 :: below0 := rfl
set_option maxRecDepth 65536 in
theorem w_args : argsFit about1.vm theMethod args0 = true := by decide +kernel
set_option maxRecDepth 65536 in
theorem w_heap : heapFits about1 = true := by decide +kernel
set_option maxRecDepth 65536 in
theorem w_runnable : about1.curStatus? = some .runnable := by decide +kernel
set_option maxRecDepth 65536 in
theorem w_alone : about1.alone = true := by decide +kernel
set_option maxRecDepth 65536 in
theorem w_named : about1.methodNamed? x = some theMethod := by decide +kernel
set_option maxRecDepth 65536 in
theorem w_hears : about1.hears theMethod below0 = true := by decide +kernel
set_option maxRecDepth 65536 in
theorem w_ripe : about1.ripe theMethod args0 below0 = true := by decide +kernel
theorem w_running : about1.status = .running := rfl
set_option maxRecDepth 65536 in
theorem w_room : about1.hasRoom e0.platform room_1 = true :=
  launch0.hasRoom_least _ room_1 (by decide +kernel) (by decide +kernel) (by decide +kernel) (by decide +kernel) (by decide +kernel) (by decide +kernel)
theorem allAtoms_all (ts : List Jvm.Cond) (a : Array Jvm.Value) (st : Jvm.State) : (allAtoms ts).before a st = ts.all (fun c => c.before a st) := by
  induction ts with
  | nil => rfl
  | cons c t ih =>
    show (Jvm.Cond.and c (allAtoms t)).before a st = _
    rw [Jvm.Cond.before_and, ih, List.all_cons]
def words1 : List Jvm.Cond := Jvm.Cond.code x code maxLocals ret :: tables_1
/-- a 'code' word, met by the world's own term for the bytes: nothing is compared byte by byte -/
theorem code_word {y : MethodName} {bytes : ByteArray} {mx : Nat} {rt : Option FieldType} {a : Array Value} {s : State} {m : MethodId} {meth : Method} {c : Code} (h1 : s.methodNamed? y = some m) (h2 : s.vm.method? m = some meth) (h3 : meth.code = some c) (h4 : c.code = bytes)
    (h5 : (c.maxLocals == mx && c.exceptionTable.isEmpty && decide (c.maxStack ≤ mostOperands) && decide (meth.sig.returnType = rt) && !meth.locks && decide (parseMethodDescriptor y.desc = some meth.sig)) = true) : (Jvm.Cond.code y bytes mx rt).before a s = true := by
  simp only [Bool.and_eq_true, beq_iff_eq, Bool.not_eq_true', decide_eq_true_eq] at h5
  obtain ⟨⟨⟨⟨⟨g1, g2⟩, g3⟩, g4⟩, g5⟩, g6⟩ := h5
  simp [Cond.before, Cond.holds, Cond.value, h1, h2, h3, h4, g1, g2, g3, g4, g5, g6]
def isCode : Jvm.Cond → Bool
  | .code _ _ _ _ => true
  | _ => false
theorem all_split {L : List Jvm.Cond} {P : Jvm.Cond → Bool} (h1 : L.all (fun c => isCode c || P c) = true) (h2 : ∀ c ∈ L.filter isCode, P c = true) : L.all P = true := by
  refine List.all_eq_true.mpr fun c hc => ?_
  have h := List.all_eq_true.mp h1 c hc
  rcases Bool.eq_false_or_eq_true (isCode c) with hi | hi
  · exact h2 c (List.mem_filter.mpr ⟨hc, hi⟩)
  · simpa [hi] using h
set_option maxRecDepth 65536 in
theorem w_c0 : (Jvm.Cond.code x code maxLocals ret).before args0 about1 = true := code_word (m := ⟨1, 1⟩) (meth := k1m1) (c := k1c1) (by decide +kernel) rfl rfl rfl (by decide +kernel)
set_option maxRecDepth 65536 in
theorem w_c1 : (Jvm.Cond.code ({ cls := "com/example/chaseward/chaseward/engine/RowValuesGetPinLaw", name := "draw", desc := "(IJ)I" } : Jvm.MethodName) method_3_code (3 : Nat) (Option.some Jvm.ClassFile.FieldType.int)).before args0 about1 = true := code_word (m := ⟨1, 2⟩) (meth := k1m2) (c := k1c2) (by decide +kernel) rfl rfl rfl (by decide +kernel)
set_option maxRecDepth 65536 in
theorem w_c2 : (Jvm.Cond.code ({ cls := "com/example/chaseward/chaseward/engine/RowValues", name := "<init>", desc := "(I)V" } : Jvm.MethodName) prog_47_method_1_code (2 : Nat) (Option.none : Option Jvm.ClassFile.FieldType)).before args0 about1 = true := code_word (m := ⟨2, 0⟩) (meth := k2m0) (c := k2c0) (by decide +kernel) rfl rfl rfl (by decide +kernel)
set_option maxRecDepth 65536 in
theorem w_c3 : (Jvm.Cond.code ({ cls := "java/lang/Object", name := "<init>", desc := "()V" } : Jvm.MethodName) object_method_1_code (1 : Nat) (Option.none : Option Jvm.ClassFile.FieldType)).before args0 about1 = true := code_word (m := ⟨0, 0⟩) (meth := k0m0) (c := k0c0) (by decide +kernel) rfl rfl rfl (by decide +kernel)
set_option maxRecDepth 65536 in
theorem w_c4 : (Jvm.Cond.code ({ cls := "com/example/chaseward/chaseward/engine/RowValues", name := "add", desc := "([I)V" } : Jvm.MethodName) prog_47_method_4_code (7 : Nat) (Option.none : Option Jvm.ClassFile.FieldType)).before args0 about1 = true := code_word (m := ⟨2, 2⟩) (meth := k2m2) (c := k2c2) (by decide +kernel) rfl rfl rfl (by decide +kernel)
set_option maxRecDepth 65536 in
theorem w_c5 : (Jvm.Cond.code ({ cls := "com/example/chaseward/chaseward/engine/RowValues", name := "start", desc := "(I[I)V" } : Jvm.MethodName) prog_47_method_5_code (4 : Nat) (Option.none : Option Jvm.ClassFile.FieldType)).before args0 about1 = true := code_word (m := ⟨2, 3⟩) (meth := k2m3) (c := k2c3) (by decide +kernel) rfl rfl rfl (by decide +kernel)
set_option maxRecDepth 65536 in
theorem w_c6 : (Jvm.Cond.code ({ cls := "com/example/chaseward/chaseward/engine/RowValues", name := "base", desc := "(II)I" } : Jvm.MethodName) prog_47_method_8_code (4 : Nat) (Option.some Jvm.ClassFile.FieldType.int)).before args0 about1 = true := code_word (m := ⟨2, 6⟩) (meth := k2m6) (c := k2c6) (by decide +kernel) rfl rfl rfl (by decide +kernel)
set_option maxRecDepth 65536 in
theorem w_c7 : (Jvm.Cond.code ({ cls := "java/lang/Math", name := "max", desc := "(JJ)J" } : Jvm.MethodName) jdk_29_method_66_code (4 : Nat) (Option.some Jvm.ClassFile.FieldType.long)).before args0 about1 = true := code_word (m := ⟨3, 2⟩) (meth := k3m2) (c := k3c2) (by decide +kernel) rfl rfl rfl (by decide +kernel)
set_option maxRecDepth 65536 in
theorem w_c8 : (Jvm.Cond.code ({ cls := "com/example/chaseward/chaseward/engine/RowValues", name := "makeRoom", desc := "(II)V" } : Jvm.MethodName) prog_47_method_6_code (5 : Nat) (Option.none : Option Jvm.ClassFile.FieldType)).before args0 about1 = true := code_word (m := ⟨2, 4⟩) (meth := k2m4) (c := k2c4) (by decide +kernel) rfl rfl rfl (by decide +kernel)
set_option maxRecDepth 65536 in
theorem w_c9 : (Jvm.Cond.code ({ cls := "java/lang/Math", name := "min", desc := "(II)I" } : Jvm.MethodName) jdk_29_method_69_code (2 : Nat) (Option.some Jvm.ClassFile.FieldType.int)).before args0 about1 = true := code_word (m := ⟨3, 3⟩) (meth := k3m3) (c := k3c3) (by decide +kernel) rfl rfl rfl (by decide +kernel)
set_option maxRecDepth 65536 in
theorem w_c10 : (Jvm.Cond.code ({ cls := "com/example/chaseward/chaseward/engine/RowValues", name := "fit", desc := "(II[I)V" } : Jvm.MethodName) prog_47_method_7_code (11 : Nat) (Option.none : Option Jvm.ClassFile.FieldType)).before args0 about1 = true := code_word (m := ⟨2, 5⟩) (meth := k2m5) (c := k2c5) (by decide +kernel) rfl rfl rfl (by decide +kernel)
set_option maxRecDepth 65536 in
theorem w_c11 : (Jvm.Cond.code ({ cls := "java/lang/Math", name := "max", desc := "(II)I" } : Jvm.MethodName) jdk_29_method_65_code (2 : Nat) (Option.some Jvm.ClassFile.FieldType.int)).before args0 about1 = true := code_word (m := ⟨3, 1⟩) (meth := k3m1) (c := k3c1) (by decide +kernel) rfl rfl rfl (by decide +kernel)
set_option maxRecDepth 65536 in
theorem w_c12 : (Jvm.Cond.code ({ cls := "com/example/chaseward/chaseward/engine/RowValues", name := "get", desc := "(II)I" } : Jvm.MethodName) prog_47_method_3_code (6 : Nat) (Option.some Jvm.ClassFile.FieldType.int)).before args0 about1 = true := code_word (m := ⟨2, 1⟩) (meth := k2m1) (c := k2c1) (by decide +kernel) rfl rfl rfl (by decide +kernel)
set_option maxRecDepth 65536 in
theorem w_c13 : (Jvm.Cond.code ({ cls := "com/example/chaseward/chaseward/engine/RowValues", name := "widen", desc := "(II)V" } : Jvm.MethodName) prog_47_method_9_code (6 : Nat) (Option.none : Option Jvm.ClassFile.FieldType)).before args0 about1 = true := code_word (m := ⟨2, 7⟩) (meth := k2m7) (c := k2c7) (by decide +kernel) rfl rfl rfl (by decide +kernel)
def codes1 : List Jvm.Cond := [Jvm.Cond.code x code maxLocals ret, Jvm.Cond.code ({ cls := "com/example/chaseward/chaseward/engine/RowValuesGetPinLaw", name := "draw", desc := "(IJ)I" } : Jvm.MethodName) method_3_code (3 : Nat) (Option.some Jvm.ClassFile.FieldType.int), Jvm.Cond.code ({ cls := "com/example/chaseward/chaseward/engine/RowValues", name := "<init>", desc := "(I)V" } : Jvm.MethodName) prog_47_method_1_code (2 : Nat) (Option.none : Option Jvm.ClassFile.FieldType), Jvm.Cond.code ({ cls := "java/lang/Object", name := "<init>", desc := "()V" } : Jvm.MethodName) object_method_1_code (1 : Nat) (Option.none : Option Jvm.ClassFile.FieldType), Jvm.Cond.code ({ cls := "com/example/chaseward/chaseward/engine/RowValues", name := "add", desc := "([I)V" } : Jvm.MethodName) prog_47_method_4_code (7 : Nat) (Option.none : Option Jvm.ClassFile.FieldType), Jvm.Cond.code ({ cls := "com/example/chaseward/chaseward/engine/RowValues", name := "start", desc := "(I[I)V" } : Jvm.MethodName) prog_47_method_5_code (4 : Nat) (Option.none : Option Jvm.ClassFile.FieldType), Jvm.Cond.code ({ cls := "com/example/chaseward/chaseward/engine/RowValues", name := "base", desc := "(II)I" } : Jvm.MethodName) prog_47_method_8_code (4 : Nat) (Option.some Jvm.ClassFile.FieldType.int), Jvm.Cond.code ({ cls := "java/lang/Math", name := "max", desc := "(JJ)J" } : Jvm.MethodName) jdk_29_method_66_code (4 : Nat) (Option.some Jvm.ClassFile.FieldType.long), Jvm.Cond.code ({ cls := "com/example/chaseward/chaseward/engine/RowValues", name := "makeRoom", desc := "(II)V" } : Jvm.MethodName) prog_47_method_6_code (5 : Nat) (Option.none : Option Jvm.ClassFile.FieldType), Jvm.Cond.code ({ cls := "java/lang/Math", name := "min", desc := "(II)I" } : Jvm.MethodName) jdk_29_method_69_code (2 : Nat) (Option.some Jvm.ClassFile.FieldType.int), Jvm.Cond.code ({ cls := "com/example/chaseward/chaseward/engine/RowValues", name := "fit", desc := "(II[I)V" } : Jvm.MethodName) prog_47_method_7_code (11 : Nat) (Option.none : Option Jvm.ClassFile.FieldType), Jvm.Cond.code ({ cls := "java/lang/Math", name := "max", desc := "(II)I" } : Jvm.MethodName) jdk_29_method_65_code (2 : Nat) (Option.some Jvm.ClassFile.FieldType.int), Jvm.Cond.code ({ cls := "com/example/chaseward/chaseward/engine/RowValues", name := "get", desc := "(II)I" } : Jvm.MethodName) prog_47_method_3_code (6 : Nat) (Option.some Jvm.ClassFile.FieldType.int), Jvm.Cond.code ({ cls := "com/example/chaseward/chaseward/engine/RowValues", name := "widen", desc := "(II)V" } : Jvm.MethodName) prog_47_method_9_code (6 : Nat) (Option.none : Option Jvm.ClassFile.FieldType)]
set_option maxRecDepth 65536 in
theorem codes_eq : words1.filter isCode = codes1 := rfl
theorem w_codes : ∀ c ∈ words1.filter isCode, c.before args0 about1 = true := by
  rw [codes_eq]
  intro c hc
  simp only [codes1, List.mem_cons, List.not_mem_nil, or_false] at hc
  rcases hc with rfl | rfl | rfl | rfl | rfl | rfl | rfl | rfl | rfl | rfl | rfl | rfl | rfl | rfl
  · exact w_c0
  · exact w_c1
  · exact w_c2
  · exact w_c3
  · exact w_c4
  · exact w_c5
  · exact w_c6
  · exact w_c7
  · exact w_c8
  · exact w_c9
  · exact w_c10
  · exact w_c11
  · exact w_c12
  · exact w_c13
set_option maxRecDepth 65536 in
theorem w_t1 : (words1.take 24).all (fun c => isCode c || c.before args0 about1) = true := by decide +kernel
set_option maxRecDepth 65536 in
theorem w_t2 : ((words1.drop 24).take 24).all (fun c => isCode c || c.before args0 about1) = true := by decide +kernel
set_option maxRecDepth 65536 in
theorem w_t3 : (((words1.drop 24).drop 24).take 24).all (fun c => isCode c || c.before args0 about1) = true := by decide +kernel
set_option maxRecDepth 65536 in
theorem w_t4 : (((words1.drop 24).drop 24).drop 24).all (fun c => isCode c || c.before args0 about1) = true := by decide +kernel
theorem w_tables : (allAtoms (Jvm.Cond.code x code maxLocals ret :: tables_1)).before args0 about1 = true := by
  rw [allAtoms_all]
  show words1.all (fun c => c.before args0 about1) = true
  refine all_split ?_ w_codes
  rw [← List.take_append_drop 24 words1, List.all_append, w_t1, ← List.take_append_drop 24 (words1.drop 24), List.all_append, w_t2, ← List.take_append_drop 24 ((words1.drop 24).drop 24), List.all_append, w_t3, w_t4]
  rfl
set_option maxRecDepth 65536 in
theorem w_case : (Jvm.Cond.and given_1 narrow_1).before args0 about1 = true := by decide +kernel
theorem w_applies : (headSpec (Jvm.Cond.code x code maxLocals ret :: tables_1) room_1).applies x e0.platform about1 = true :=
  (Spec.applies_iff w_frames).mpr ⟨w_running, w_runnable, w_alone, w_named, w_hears, w_ripe, w_room, w_tables⟩
theorem atStart : AtStart classFile x code maxLocals ret World_1 tables_1 room_1 Calls_1 rest_1 Pre_1 launch0 p0 e0 about1 theMethod args0 below0 :=
  ⟨lists_1, trivial, launch0.admits_env _ _ _, launch0.least_env, fairChoices_fair.cas, fairChoices_fair.clock, w_frames, w_args, w_heap, w_applies, trivial, trivial, w_case⟩
end start1
theorem witness_1 : WitnessClaimed_1 := ⟨start1.p0, start1.e0, start1.about1, start1.theMethod, start1.args0, start1.below0, start1.atStart⟩
end Jvm.Pilot.@@N@@
