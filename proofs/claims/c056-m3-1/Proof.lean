import JvmDerived
import JvmDerived.Pilot.@@N@@Statement
import JvmDerived.Pilot.@@N@@Code
set_option linter.unusedVariables false
set_option linter.unusedSimpArgs false
namespace Jvm.RoadKit
open Sem ClassFile Op Lib Jvm.Stand Jvm.Free Jvm.LawKit
section New
variable {p : Program} {l : Launch} {e : Env} {R : Room} {s : State} {m : MethodId} {args : Array Value} {below : List Frame} {meth : Method} {c : Code} {T : State} {locs : List Loc} {cells slots : Nat}
theorem retI (X : Stand p l e R s m args below meth c T locs cells slots) (hx : p.tables.exec = Jvm.exec) {pc : Nat} {Ls : Array Slot} {z : Int32} {rest : List Value} (hret : meth.sig.returnType = some .int) (hd : decode c.code pc = .ok (.ireturn, 1)) {fs : List Frame}
    (hl : ∀ (f : JFrame) (acts : List Action), f.method = m → f.locked = none → f.entered = [] → (doReturn e (T.setTop f) acts (some (.int z))).1 = T.setFrames fs) : Steps p.tables e below (T.setTop (mkF m pc Ls (.int z :: rest))) (T.setFrames fs) := by
  have hm' : T.vm.method? m = some meth := X.method'
  have hn : narrow .int (.int z) = .int z := rfl
  show Steps p.tables e below (T.setTop { method := m, pc := pc, locals := Ls, stack := _ :: rest, locked := none }) _
  jvm_step X.here [X.here.top, hx, hd, hm', hret, hn]
  first | (intro acts; rw [hl _ acts rfl rfl rfl]) | rw [hl _ _ rfl rfl rfl]
  exact Steps.refl _
end New
end Jvm.RoadKit
namespace Jvm.Pilot.@@N@@
open Jvm Jvm.ClassFile Sem Op Lib Jvm.Free Jvm.Stand Jvm.LawKit Jvm.RoadKit Bundle Jvm.Pilot.@@N@@.Jvm.D
/-- what a call that writes nothing leaves -/
def PureQ (rv : Option Value) (h0 : Heap) (n0 : Nat) (v : Option Value) (h : Heap) (L : List Loc) : Prop := v = rv ∧ Fr n0 L ∧ h = h0
/-- what the law leaves -/
def LawQ (n0 : Nat) (v : Option Value) (h : Heap) (L : List Loc) : Prop := v = some (.int (1 : Int32)) ∧ Fr n0 L
theorem own_fld {Z : State} {args : Array Value} {a : Addr} {t u : Term} {C n d : String} {v : Value} (ev : t.eval args Z none [] Z = some (.ref a)) (h : (Jvm.Cond.eq (Term.field t C n d) u).value args Z none Z [] = some true) (eu : u.eval args Z none [] Z = some v) : Fld Z Z.heap a C n d v := by
  obtain ⟨x, y, h1, h2, -⟩ := cmp_v (Or.inl h)
  have e2 : y = v := Option.some.inj (h2.symm.trans eu)
  subst e2
  have e3 : x = y := by
    simp only [Jvm.Cond.value, h1, h2] at h
    cases x <;> cases y <;> simp_all
  subst e3
  exact Fld.start ((fld_at ev).symm.trans h1)
abbrev vI (x : Int32) : Slot := .val (.int x)
abbrev vJ (x : Int64) : Slot := .val (.long x)
abbrev vR (x : Addr) : Slot := .val (.ref x)
abbrev GG (p : Program) (e : Env) (b : List Frame) (T : State) (f : JFrame) (t : State) : Prop := Steps p.tables e b (T.setTop f) t
abbrev cRV : String := "com/example/chaseward/chaseward/engine/RowValues"
abbrev cRE : String := "com/example/chaseward/chaseward/engine/Relation"
abbrev cTU : String := "com/example/chaseward/chaseward/engine/Relation$Tuples"
abbrev cRT : String := "com/example/chaseward/chaseward/engine/RowTable"
theorem own_sel2 {s : State} {args : Array Value} {x y z : MethodName} {C : String} (ws : (Jvm.Cond.selects C x z).before args s = true) (hc : z.cls = y.cls) (wm : (Jvm.Cond.instanceMethod y).before args s = true) (wp : (Jvm.Cond.privateMethod y).before args s = true) (hy : y.cls ≠ "java/lang/invoke/MethodHandle" ∧ y.cls ≠ "java/lang/invoke/VarHandle") : (Jvm.Cond.selects y.cls y y).before args s = true := by
  obtain ⟨mk, methM, hnamed, hmethM, -, -⟩ := Cond.instanceMethod_spec wm
  obtain ⟨c, r, m, -, -, q3, -, k, i2, hi⟩ := Cond.selects_spec ws
  have hsel : ∀ c', selectMethod {} s.vm c' mk = .method mk := fun c' => selectMethod_private hmethM (Cond.privateMethod_at wp mk methM hnamed hmethM)
  have hf := State.methodFound?_of_named hnamed hy
  have hcl := findClass_of_methodNamed hnamed
  have hcz := findClass_of_methodNamed q3
  rw [hc] at hcz
  have e : m.cls = mk.cls := Option.some.inj (hcz.symm.trans hcl)
  rw [e] at i2
  simp [Jvm.Cond.before, Jvm.Cond.holds, Jvm.Cond.value, hcl, hf, hnamed, hsel, i2, hi]

theorem own_nsroot {Z : State} {a0 : Array Value} {O K : String} {n : Nat} (w : (Jvm.Cond.noSuperclass O).before a0 Z = true) (wk : (Jvm.Cond.instantiable K n).before a0 Z = true) (hn : O ≠ K) : NS Z O K := by
  obtain ⟨c, k, h1, h2, h3, -, -⟩ := Cond.noSuperclass_spec w
  obtain ⟨t, kt, g1, -⟩ := Cond.instantiable_spec wk
  have ne := ids_ne h1 g1 hn
  refine ⟨c, t, h1, g1, fun fuel => ?_⟩
  cases fuel with
  | zero => rfl
  | succ f => simp [Vm.isSubclassAux, ne, h2, h3]
theorem own_nsno {Z : State} {a0 : Array Value} {C S K : String} {n : Nat} (w : (Jvm.Cond.superclass C S).before a0 Z = true) (wk : (Jvm.Cond.instantiable K n).before a0 Z = true) (N : NS Z C K) (hn : C ≠ K) : ∃ c t, Z.vm.findClass C = some c ∧ Z.vm.findClass K = some t ∧ Z.vm.assignable c t = false := by
  obtain ⟨c, t, h0, g0, n3⟩ := N
  obtain ⟨p, k, kp, h1, h2, h3, h4, h5, -, h7⟩ := Cond.superclass_spec h0 w
  obtain ⟨t', kt, g1, g2, g3, g4, -⟩ := Cond.instantiable_spec wk
  cases g0.symm.trans g1
  have ne := ids_ne h0 g0 hn
  have g5 : kt.isInterface = false := by
    cases hq : kt.isInterface <;> simp [hq] at g4 ⊢
  refine ⟨c, t, h0, g0, ?_⟩
  show Z.vm.assignableAux (255 + 1) c t = false
  simp [Vm.assignableAux, ne, h2, g2, h5, g3, g5, Vm.isSubclass, n3]
theorem own_z0 {Z : State} {n0 : Nat} {h : Heap} (O : Old Z n0 h) : n0 ≤ h.size := O.1 ▸ O.2.1

theorem own_sel {s : State} {args : Array Value} {y : MethodName} {n : Nat} (wi : (Jvm.Cond.instantiable y.cls n).before args s = true) (wm : (Jvm.Cond.instanceMethod y).before args s = true) (wp : (Jvm.Cond.privateMethod y).before args s = true) (hy : y.cls ≠ "java/lang/invoke/MethodHandle" ∧ y.cls ≠ "java/lang/invoke/VarHandle") : (Jvm.Cond.selects y.cls y y).before args s = true := by
  obtain ⟨mk, methM, hnamed, hmethM, -, -⟩ := Cond.instanceMethod_spec wm
  obtain ⟨c, k, i1, i2, i3, i4, -⟩ := Cond.instantiable_spec wi
  have hsel : ∀ c', selectMethod {} s.vm c' mk = .method mk := fun c' => selectMethod_private hmethM (Cond.privateMethod_at wp mk methM hnamed hmethM)
  have hf := State.methodFound?_of_named hnamed hy
  have hcl := findClass_of_methodNamed hnamed
  cases i1.symm.trans hcl
  have hi : k.isInterface = false := by
    cases hq : k.isInterface <;> simp [hq] at i4 ⊢
  simp [Jvm.Cond.before, Jvm.Cond.holds, Jvm.Cond.value, i1, hf, hnamed, hsel, i2, hi]

def ownIn (b v : Int32) : Prop := b.toInt ≤ v.toInt ∧ v.toInt < b.toInt + 65536
def ownBt (l u v : Int32) : Prop := l.toInt ≤ v.toInt ∧ v.toInt ≤ u.toInt
theorem own_nar (x : Int32) : ((nar .char x).toInt - x.toInt) % 65536 = 0 ∧ 0 ≤ (nar .char x).toInt ∧ (nar .char x).toInt < 65536 := c_i2c x
theorem own_get {b v : Int32} (h : ownIn b v) : (b + (nar .char (v - b))) = v := by
  apply Int32.toInt_inj.mp
  obtain ⟨h1, h2⟩ := h
  have e1 := own_nar (v - b)
  have e2 := c_isub v b
  have e3 := c_iadd b (nar .char (v - b))
  have r1 := rng32 (b + nar .char (v - b))
  have r2 := rng32 v
  omega
theorem own_ch (v b b' : Int32) : (nar .char (((nar .char (v - b)) + ((b - b').toUInt32.toUInt16.toUInt32.toInt32)).toUInt32.toUInt16.toUInt32.toInt32)) = (nar .char (v - b')) := by
  apply Int32.toInt_inj.mp
  have e1 := own_nar (v - b)
  have e2 := c_isub v b
  have e3 := c_i2c (b - b')
  have e4 := c_isub b b'
  have e5 := c_iadd (nar .char (v - b)) ((b - b').toUInt32.toUInt16.toUInt32.toInt32)
  have e6 := c_i2c ((nar .char (v - b)) + ((b - b').toUInt32.toUInt16.toUInt32.toInt32))
  have e7 := own_nar (((nar .char (v - b)) + ((b - b').toUInt32.toUInt16.toUInt32.toInt32)).toUInt32.toUInt16.toUInt32.toInt32)
  have e8 := own_nar (v - b')
  have e9 := c_isub v b'
  omega
theorem own_c1 (x : Int32) : (nar .char (x.toUInt32.toUInt16.toUInt32.toInt32)) = (nar .char x) := by
  apply Int32.toInt_inj.mp
  have e1 := own_nar x
  have e2 := c_i2c x
  have e3 := own_nar (x.toUInt32.toUInt16.toUInt32.toInt32)
  omega

theorem ef_maxI (m : MethodId) (x0 : Int32) (x1 : Int32) : entryFrame m #[(.int x0), (.int x1)] 2 = mkF m 0 #[vI x0, vI x1] [] := by first | (simp [entryFrame, mkF, argsToLocals, Value.category]; done) | rfl
abbrev c28 := jdk_29_method_65_code
theorem d28_0 : decode c28 0 = .ok (.iload_n 0, 1) := by decide +kernel
theorem d28_1 : decode c28 1 = .ok (.iload_n 1, 1) := by decide +kernel
theorem d28_2 : decode c28 2 = .ok (.if_icmp .lt 7, 3) := by decide +kernel
theorem d28_9 : decode c28 9 = .ok (.iload_n 1, 1) := by decide +kernel
theorem d28_10 : decode c28 10 = .ok (.ireturn, 1) := by decide +kernel
theorem d28_5 : decode c28 5 = .ok (.iload_n 0, 1) := by decide +kernel
theorem d28_6 : decode c28 6 = .ok (.goto 4, 3) := by decide +kernel
theorem ef_minI (m : MethodId) (x0 : Int32) (x1 : Int32) : entryFrame m #[(.int x0), (.int x1)] 2 = mkF m 0 #[vI x0, vI x1] [] := by first | (simp [entryFrame, mkF, argsToLocals, Value.category]; done) | rfl
abbrev c26 := jdk_29_method_69_code
theorem d26_0 : decode c26 0 = .ok (.iload_n 0, 1) := by decide +kernel
theorem d26_1 : decode c26 1 = .ok (.iload_n 1, 1) := by decide +kernel
theorem d26_2 : decode c26 2 = .ok (.if_icmp .gt 7, 3) := by decide +kernel
theorem d26_9 : decode c26 9 = .ok (.iload_n 1, 1) := by decide +kernel
theorem d26_10 : decode c26 10 = .ok (.ireturn, 1) := by decide +kernel
theorem d26_5 : decode c26 5 = .ok (.iload_n 0, 1) := by decide +kernel
theorem d26_6 : decode c26 6 = .ok (.goto 4, 3) := by decide +kernel
theorem ef_maxL (m : MethodId) (x0 : Int64) (x1 : Int64) : entryFrame m #[(.long x0), (.long x1)] 4 = mkF m 0 #[vJ x0, .second, vJ x1, .second] [] := by first | (simp [entryFrame, mkF, argsToLocals, Value.category]; done) | rfl
abbrev c24 := jdk_29_method_66_code
theorem d24_0 : decode c24 0 = .ok (.lload_n 0, 1) := by decide +kernel
theorem d24_1 : decode c24 1 = .ok (.lload_n 2, 1) := by decide +kernel
theorem d24_2 : decode c24 2 = .ok (.lcmp, 1) := by decide +kernel
theorem d24_3 : decode c24 3 = .ok (.ifCond .lt 7, 3) := by decide +kernel
theorem d24_10 : decode c24 10 = .ok (.lload_n 2, 1) := by decide +kernel
theorem d24_11 : decode c24 11 = .ok (.lreturn, 1) := by decide +kernel
theorem d24_6 : decode c24 6 = .ok (.lload_n 0, 1) := by decide +kernel
theorem d24_7 : decode c24 7 = .ok (.goto 4, 3) := by decide +kernel
theorem pn_RowValues : plainName "com/example/chaseward/chaseward/engine/RowValues" = true := by first | (simp [plainName, overriddenIn]; done) | decide +kernel
theorem ef_base (m : MethodId) (x0 : Int32) (x1 : Int32) : entryFrame m #[(.int x0), (.int x1)] 4 = mkF m 0 #[vI x0, vI x1, .unset, .unset] [] := by first | (simp [entryFrame, mkF, argsToLocals, Value.category]; done) | rfl
abbrev c23 := prog_48_method_8_code
theorem d23_0 : decode c23 0 = .ok (.ldc2_w 89, 3) := by decide +kernel
theorem d23_3 : decode c23 3 = .ok (.iload_n 1, 1) := by decide +kernel
theorem d23_4 : decode c23 4 = .ok (.i2l, 1) := by decide +kernel
theorem d23_5 : decode c23 5 = .ok (.iload_n 0, 1) := by decide +kernel
theorem d23_6 : decode c23 6 = .ok (.i2l, 1) := by decide +kernel
theorem d23_7 : decode c23 7 = .ok (.lsub, 1) := by decide +kernel
theorem d23_8 : decode c23 8 = .ok (.lsub, 1) := by decide +kernel
theorem d23_9 : decode c23 9 = .ok (.lstore_n 2, 1) := by decide +kernel
theorem d23_10 : decode c23 10 = .ok (.ldc2_w 93, 3) := by decide +kernel
theorem d23_13 : decode c23 13 = .ok (.iload_n 0, 1) := by decide +kernel
theorem d23_14 : decode c23 14 = .ok (.i2l, 1) := by decide +kernel
theorem d23_15 : decode c23 15 = .ok (.lload_n 2, 1) := by decide +kernel
theorem d23_16 : decode c23 16 = .ok (.ldc2_w 95, 3) := by decide +kernel
theorem d23_19 : decode c23 19 = .ok (.ldiv, 1) := by decide +kernel
theorem d23_20 : decode c23 20 = .ok (.lsub, 1) := by decide +kernel
theorem d23_21 : decode c23 21 = .ok (.invokestatic 97, 3) := by decide +kernel
theorem pd__JJ_J_5 : parseMethodDescriptor "(JJ)J" = some ⟨[.long, .long], some .long⟩ := by decide +kernel
theorem d23_24 : decode c23 24 = .ok (.l2i, 1) := by decide +kernel
theorem d23_25 : decode c23 25 = .ok (.ireturn, 1) := by decide +kernel
theorem ef_rvInit1 (m : MethodId) (x0 : Addr) : entryFrame m #[(.ref x0), (.int 1)] 2 = mkF m 0 #[vR x0, vI 1] [] := by first | (simp [entryFrame, mkF, argsToLocals, Value.category]; done) | rfl
abbrev c8 := prog_48_method_1_code
theorem d8_0 : decode c8 0 = .ok (.aload_n 0, 1) := by decide +kernel
theorem d8_1 : decode c8 1 = .ok (.invokespecial 1, 3) := by decide +kernel
theorem d8_4 : decode c8 4 = .ok (.aload_n 0, 1) := by decide +kernel
theorem d8_5 : decode c8 5 = .ok (.iconst 1, 1) := by decide +kernel
theorem d8_6 : decode c8 6 = .ok (.anewarray 7, 3) := by decide +kernel
theorem d8_9 : decode c8 9 = .ok (.putfield 9, 3) := by decide +kernel
theorem d8_12 : decode c8 12 = .ok (.aload_n 0, 1) := by decide +kernel
theorem d8_13 : decode c8 13 = .ok (.iconst 1, 1) := by decide +kernel
theorem d8_14 : decode c8 14 = .ok (.anewarray 15, 3) := by decide +kernel
theorem d8_17 : decode c8 17 = .ok (.putfield 17, 3) := by decide +kernel
theorem d8_20 : decode c8 20 = .ok (.aload_n 0, 1) := by decide +kernel
theorem d8_21 : decode c8 21 = .ok (.iload_n 1, 1) := by decide +kernel
theorem d8_22 : decode c8 22 = .ok (.putfield 21, 3) := by decide +kernel
theorem d8_25 : decode c8 25 = .ok (.aload_n 0, 1) := by decide +kernel
theorem d8_26 : decode c8 26 = .ok (.iload_n 1, 1) := by decide +kernel
theorem d8_27 : decode c8 27 = .ok (.newarray .int, 2) := by decide +kernel
theorem d8_29 : decode c8 29 = .ok (.putfield 25, 3) := by decide +kernel
theorem d8_32 : decode c8 32 = .ok (.aload_n 0, 1) := by decide +kernel
theorem d8_33 : decode c8 33 = .ok (.iload_n 1, 1) := by decide +kernel
theorem d8_34 : decode c8 34 = .ok (.newarray .int, 2) := by decide +kernel
theorem d8_36 : decode c8 36 = .ok (.putfield 28, 3) := by decide +kernel
theorem d8_39 : decode c8 39 = .ok (.aload_n 0, 1) := by decide +kernel
theorem d8_40 : decode c8 40 = .ok (.iload_n 1, 1) := by decide +kernel
theorem d8_41 : decode c8 41 = .ok (.newarray .int, 2) := by decide +kernel
theorem d8_43 : decode c8 43 = .ok (.putfield 31, 3) := by decide +kernel
theorem d8_46 : decode c8 46 = .ok (.aload_n 0, 1) := by decide +kernel
theorem d8_47 : decode c8 47 = .ok (.getfield 17, 3) := by decide +kernel
theorem d8_50 : decode c8 50 = .ok (.iconst 0, 1) := by decide +kernel
theorem d8_51 : decode c8 51 = .ok (.bipush 8, 2) := by decide +kernel
theorem d8_53 : decode c8 53 = .ok (.iload_n 1, 1) := by decide +kernel
theorem d8_54 : decode c8 54 = .ok (.imul, 1) := by decide +kernel
theorem d8_55 : decode c8 55 = .ok (.newarray .char, 2) := by decide +kernel
theorem d8_57 : decode c8 57 = .ok (.aastore, 1) := by decide +kernel
theorem d8_58 : decode c8 58 = .ok (.return_, 1) := by decide +kernel
theorem pn_AbstractCollection : plainName "java/util/AbstractCollection" = true := by first | (simp [plainName, overriddenIn]; done) | decide +kernel
theorem ef_acInit (m : MethodId) (x0 : Addr) : entryFrame m #[(.ref x0)] 1 = mkF m 0 #[vR x0] [] := by first | (simp [entryFrame, mkF, argsToLocals, Value.category]; done) | rfl
abbrev c7 := jdk_22_method_1_code
theorem d7_0 : decode c7 0 = .ok (.aload_n 0, 1) := by decide +kernel
theorem d7_1 : decode c7 1 = .ok (.invokespecial 1, 3) := by decide +kernel
theorem d7_4 : decode c7 4 = .ok (.return_, 1) := by decide +kernel
theorem pn_AbstractList : plainName "java/util/AbstractList" = true := by first | (simp [plainName, overriddenIn]; done) | decide +kernel
theorem ef_ablInit (m : MethodId) (x0 : Addr) : entryFrame m #[(.ref x0)] 1 = mkF m 0 #[vR x0] [] := by first | (simp [entryFrame, mkF, argsToLocals, Value.category]; done) | rfl
abbrev c6 := jdk_39_method_1_code
theorem d6_0 : decode c6 0 = .ok (.aload_n 0, 1) := by decide +kernel
theorem d6_1 : decode c6 1 = .ok (.invokespecial 1, 3) := by decide +kernel
theorem pd___V_3 : parseMethodDescriptor "()V" = some ⟨[], none⟩ := by decide +kernel
theorem d6_4 : decode c6 4 = .ok (.aload_n 0, 1) := by decide +kernel
theorem d6_5 : decode c6 5 = .ok (.iconst 0, 1) := by decide +kernel
theorem d6_6 : decode c6 6 = .ok (.putfield 7, 3) := by decide +kernel
theorem d6_9 : decode c6 9 = .ok (.return_, 1) := by decide +kernel
theorem pn_ArrayList : plainName "java/util/ArrayList" = true := by first | (simp [plainName, overriddenIn]; done) | decide +kernel
theorem ef_alInit (m : MethodId) (x0 : Addr) : entryFrame m #[(.ref x0)] 1 = mkF m 0 #[vR x0] [] := by first | (simp [entryFrame, mkF, argsToLocals, Value.category]; done) | rfl
abbrev c5 := jdk_38_method_2_code
theorem d5_0 : decode c5 0 = .ok (.aload_n 0, 1) := by decide +kernel
theorem d5_1 : decode c5 1 = .ok (.invokespecial 1, 3) := by decide +kernel
theorem d5_4 : decode c5 4 = .ok (.aload_n 0, 1) := by decide +kernel
theorem d5_5 : decode c5 5 = .ok (.getstatic 39, 3) := by decide +kernel
theorem d5_8 : decode c5 8 = .ok (.putfield 9, 3) := by decide +kernel
theorem d5_11 : decode c5 11 = .ok (.return_, 1) := by decide +kernel
theorem pn_ArrayList_Itr : plainName "java/util/ArrayList$Itr" = true := by first | (simp [plainName, overriddenIn]; done) | decide +kernel
theorem ef_itInit (m : MethodId) (x0 : Addr) (x1 : Addr) : entryFrame m #[(.ref x0), (.ref x1)] 2 = mkF m 0 #[vR x0, vR x1] [] := by first | (simp [entryFrame, mkF, argsToLocals, Value.category]; done) | rfl
abbrev c30 := jdk_49_method_1_code
theorem d30_0 : decode c30 0 = .ok (.aload_n 0, 1) := by decide +kernel
theorem d30_1 : decode c30 1 = .ok (.aload_n 1, 1) := by decide +kernel
theorem d30_2 : decode c30 2 = .ok (.putfield 1, 3) := by decide +kernel
theorem d30_5 : decode c30 5 = .ok (.aload_n 0, 1) := by decide +kernel
theorem d30_6 : decode c30 6 = .ok (.invokespecial 7, 3) := by decide +kernel
theorem d30_9 : decode c30 9 = .ok (.aload_n 0, 1) := by decide +kernel
theorem d30_10 : decode c30 10 = .ok (.iconst (-1), 1) := by decide +kernel
theorem d30_11 : decode c30 11 = .ok (.putfield 13, 3) := by decide +kernel
theorem d30_14 : decode c30 14 = .ok (.aload_n 0, 1) := by decide +kernel
theorem d30_15 : decode c30 15 = .ok (.aload_n 0, 1) := by decide +kernel
theorem d30_16 : decode c30 16 = .ok (.getfield 1, 3) := by decide +kernel
theorem d30_19 : decode c30 19 = .ok (.getfield 17, 3) := by decide +kernel
theorem d30_22 : decode c30 22 = .ok (.putfield 22, 3) := by decide +kernel
theorem d30_25 : decode c30 25 = .ok (.return_, 1) := by decide +kernel
theorem ef_iterator (m : MethodId) (x0 : Addr) : entryFrame m #[(.ref x0)] 1 = mkF m 0 #[vR x0] [] := by first | (simp [entryFrame, mkF, argsToLocals, Value.category]; done) | rfl
abbrev c29 := jdk_38_method_55_code
theorem d29_0 : decode c29 0 = .ok (.new 267, 3) := by decide +kernel
theorem d29_3 : decode c29 3 = .ok (.dup, 1) := by decide +kernel
theorem d29_4 : decode c29 4 = .ok (.aload_n 0, 1) := by decide +kernel
theorem d29_5 : decode c29 5 = .ok (.invokespecial 269, 3) := by decide +kernel
theorem pd__Ljava_util_ArrayList__V_24 : parseMethodDescriptor "(Ljava/util/ArrayList;)V" = some ⟨[(.object "java/util/ArrayList")], none⟩ := by decide +kernel
theorem d29_8 : decode c29 8 = .ok (.areturn, 1) := by decide +kernel
theorem ef_hasNext (m : MethodId) (x0 : Addr) : entryFrame m #[(.ref x0)] 1 = mkF m 0 #[vR x0] [] := by first | (simp [entryFrame, mkF, argsToLocals, Value.category]; done) | rfl
abbrev c31 := jdk_49_method_2_code
theorem d31_0 : decode c31 0 = .ok (.aload_n 0, 1) := by decide +kernel
theorem d31_1 : decode c31 1 = .ok (.getfield 25, 3) := by decide +kernel
theorem d31_4 : decode c31 4 = .ok (.aload_n 0, 1) := by decide +kernel
theorem d31_5 : decode c31 5 = .ok (.getfield 1, 3) := by decide +kernel
theorem d31_8 : decode c31 8 = .ok (.getfield 28, 3) := by decide +kernel
theorem d31_11 : decode c31 11 = .ok (.if_icmp .eq 7, 3) := by decide +kernel
theorem d31_18 : decode c31 18 = .ok (.iconst 0, 1) := by decide +kernel
theorem d31_19 : decode c31 19 = .ok (.ireturn, 1) := by decide +kernel
theorem pn_RowTable : plainName "com/example/chaseward/chaseward/engine/RowTable" = true := by first | (simp [plainName, overriddenIn]; done) | decide +kernel
theorem ef_rtInit (m : MethodId) (x0 : Addr) : entryFrame m #[(.ref x0), (.int 1)] 2 = mkF m 0 #[vR x0, vI 1] [] := by first | (simp [entryFrame, mkF, argsToLocals, Value.category]; done) | rfl
abbrev c4 := prog_47_method_1_code
theorem d4_0 : decode c4 0 = .ok (.aload_n 0, 1) := by decide +kernel
theorem d4_1 : decode c4 1 = .ok (.invokespecial 1, 3) := by decide +kernel
theorem d4_4 : decode c4 4 = .ok (.aload_n 0, 1) := by decide +kernel
theorem d4_5 : decode c4 5 = .ok (.bipush 16, 2) := by decide +kernel
theorem d4_7 : decode c4 7 = .ok (.newarray .int, 2) := by decide +kernel
theorem d4_9 : decode c4 9 = .ok (.putfield 7, 3) := by decide +kernel
theorem d4_12 : decode c4 12 = .ok (.aload_n 0, 1) := by decide +kernel
theorem d4_13 : decode c4 13 = .ok (.bipush (-32), 2) := by decide +kernel
theorem d4_15 : decode c4 15 = .ok (.putfield 13, 3) := by decide +kernel
theorem d4_18 : decode c4 18 = .ok (.aload_n 0, 1) := by decide +kernel
theorem d4_19 : decode c4 19 = .ok (.iload_n 1, 1) := by decide +kernel
theorem d4_20 : decode c4 20 = .ok (.putfield 17, 3) := by decide +kernel
theorem d4_23 : decode c4 23 = .ok (.return_, 1) := by decide +kernel
theorem pn_Relation_Tuples : plainName "com/example/chaseward/chaseward/engine/Relation$Tuples" = true := by first | (simp [plainName, overriddenIn]; done) | decide +kernel
theorem ef_tuInit (m : MethodId) (x0 : Addr) (x1 : Addr) : entryFrame m #[(.ref x0), (.ref x1)] 2 = mkF m 0 #[vR x0, vR x1] [] := by first | (simp [entryFrame, mkF, argsToLocals, Value.category]; done) | rfl
abbrev c3 := prog_44_method_1_code
theorem d3_0 : decode c3 0 = .ok (.aload_n 0, 1) := by decide +kernel
theorem d3_1 : decode c3 1 = .ok (.aload_n 1, 1) := by decide +kernel
theorem d3_2 : decode c3 2 = .ok (.putfield 1, 3) := by decide +kernel
theorem d3_5 : decode c3 5 = .ok (.aload_n 0, 1) := by decide +kernel
theorem d3_6 : decode c3 6 = .ok (.iconst 1, 1) := by decide +kernel
theorem d3_7 : decode c3 7 = .ok (.invokespecial 7, 3) := by decide +kernel
theorem pd__Z_V_4 : parseMethodDescriptor "(Z)V" = some ⟨[.boolean], none⟩ := by decide +kernel
theorem d3_10 : decode c3 10 = .ok (.return_, 1) := by decide +kernel
theorem pn_Relation : plainName "com/example/chaseward/chaseward/engine/Relation" = true := by first | (simp [plainName, overriddenIn]; done) | decide +kernel
theorem ef_reInit (m : MethodId) (x0 : Addr) : entryFrame m #[(.ref x0), (.int 1)] 2 = mkF m 0 #[vR x0, vI 1] [] := by first | (simp [entryFrame, mkF, argsToLocals, Value.category]; done) | rfl
abbrev c1 := prog_43_method_1_code
theorem d1_0 : decode c1 0 = .ok (.aload_n 0, 1) := by decide +kernel
theorem d1_1 : decode c1 1 = .ok (.invokespecial 1, 3) := by decide +kernel
theorem d1_4 : decode c1 4 = .ok (.aload_n 0, 1) := by decide +kernel
theorem d1_5 : decode c1 5 = .ok (.new 7, 3) := by decide +kernel
theorem d1_8 : decode c1 8 = .ok (.dup, 1) := by decide +kernel
theorem d1_9 : decode c1 9 = .ok (.aload_n 0, 1) := by decide +kernel
theorem d1_10 : decode c1 10 = .ok (.invokespecial 9, 3) := by decide +kernel
theorem pd_e_chaseward_chaseward_engine_Relation__V_52 : parseMethodDescriptor "(Lcom/example/chaseward/chaseward/engine/Relation;)V" = some ⟨[(.object cRE)], none⟩ := by decide +kernel
theorem d1_13 : decode c1 13 = .ok (.putfield 12, 3) := by decide +kernel
theorem d1_16 : decode c1 16 = .ok (.aload_n 0, 1) := by decide +kernel
theorem d1_17 : decode c1 17 = .ok (.new 18, 3) := by decide +kernel
theorem d1_20 : decode c1 20 = .ok (.dup, 1) := by decide +kernel
theorem d1_21 : decode c1 21 = .ok (.invokespecial 20, 3) := by decide +kernel
theorem d1_24 : decode c1 24 = .ok (.putfield 21, 3) := by decide +kernel
theorem d1_27 : decode c1 27 = .ok (.aload_n 0, 1) := by decide +kernel
theorem d1_28 : decode c1 28 = .ok (.iload_n 1, 1) := by decide +kernel
theorem d1_29 : decode c1 29 = .ok (.putfield 25, 3) := by decide +kernel
theorem d1_32 : decode c1 32 = .ok (.aload_n 0, 1) := by decide +kernel
theorem d1_33 : decode c1 33 = .ok (.new 29, 3) := by decide +kernel
theorem d1_36 : decode c1 36 = .ok (.dup, 1) := by decide +kernel
theorem d1_37 : decode c1 37 = .ok (.iload_n 1, 1) := by decide +kernel
theorem d1_38 : decode c1 38 = .ok (.invokespecial 31, 3) := by decide +kernel
theorem pd__I_V_4 : parseMethodDescriptor "(I)V" = some ⟨[.int], none⟩ := by decide +kernel
theorem d1_41 : decode c1 41 = .ok (.putfield 34, 3) := by decide +kernel
theorem d1_44 : decode c1 44 = .ok (.return_, 1) := by decide +kernel
theorem pn_Dictionary : plainName "com/example/chaseward/chaseward/engine/Dictionary" = true := by first | (simp [plainName, overriddenIn]; done) | decide +kernel
theorem ef_isNull (m : MethodId) (x0 : Int32) : entryFrame m #[(.int x0)] 1 = mkF m 0 #[vI x0] [] := by first | (simp [entryFrame, mkF, argsToLocals, Value.category]; done) | rfl
abbrev c32 := prog_19_method_17_code
theorem d32_0 : decode c32 0 = .ok (.iload_n 0, 1) := by decide +kernel
theorem d32_1 : decode c32 1 = .ok (.ifCond .ge 7, 3) := by decide +kernel
theorem d32_4 : decode c32 4 = .ok (.iconst 1, 1) := by decide +kernel
theorem d32_5 : decode c32 5 = .ok (.goto 4, 3) := by decide +kernel
theorem d32_9 : decode c32 9 = .ok (.ireturn, 1) := by decide +kernel
theorem d32_8 : decode c32 8 = .ok (.iconst 0, 1) := by decide +kernel
theorem pn_Hashing : plainName "com/example/chaseward/chaseward/engine/Hashing" = true := by first | (simp [plainName, overriddenIn]; done) | decide +kernel
theorem ef_hadd (m : MethodId) (x0 : Int32) (x1 : Int32) : entryFrame m #[(.int x0), (.int x1)] 2 = mkF m 0 #[vI x0, vI x1] [] := by first | (simp [entryFrame, mkF, argsToLocals, Value.category]; done) | rfl
abbrev c15 := prog_33_method_2_code
theorem d15_0 : decode c15 0 = .ok (.iload_n 0, 1) := by decide +kernel
theorem d15_1 : decode c15 1 = .ok (.iload_n 1, 1) := by decide +kernel
theorem d15_2 : decode c15 2 = .ok (.iadd, 1) := by decide +kernel
theorem d15_3 : decode c15 3 = .ok (.ldc 7, 2) := by decide +kernel
theorem d15_5 : decode c15 5 = .ok (.imul, 1) := by decide +kernel
theorem d15_6 : decode c15 6 = .ok (.ireturn, 1) := by decide +kernel
theorem ef_hash (m : MethodId) (x0 : Addr) : entryFrame m #[(.ref x0)] 6 = mkF m 0 #[vR x0, .unset, .unset, .unset, .unset, .unset] [] := by first | (simp [entryFrame, mkF, argsToLocals, Value.category]; done) | rfl
abbrev c14 := prog_33_method_3_code
theorem d14_0 : decode c14 0 = .ok (.iconst 0, 1) := by decide +kernel
theorem d14_1 : decode c14 1 = .ok (.istore_n 1, 1) := by decide +kernel
theorem d14_2 : decode c14 2 = .ok (.aload_n 0, 1) := by decide +kernel
theorem d14_3 : decode c14 3 = .ok (.astore_n 2, 1) := by decide +kernel
theorem d14_4 : decode c14 4 = .ok (.aload_n 2, 1) := by decide +kernel
theorem d14_5 : decode c14 5 = .ok (.arraylength, 1) := by decide +kernel
theorem d14_6 : decode c14 6 = .ok (.istore_n 3, 1) := by decide +kernel
theorem d14_7 : decode c14 7 = .ok (.iconst 0, 1) := by decide +kernel
theorem d14_8 : decode c14 8 = .ok (.istore 4, 2) := by decide +kernel
theorem d14_10 : decode c14 10 = .ok (.iload 4, 2) := by decide +kernel
theorem d14_12 : decode c14 12 = .ok (.iload_n 3, 1) := by decide +kernel
theorem d14_13 : decode c14 13 = .ok (.if_icmp .ge 22, 3) := by decide +kernel
theorem d14_16 : decode c14 16 = .ok (.aload_n 2, 1) := by decide +kernel
theorem d14_17 : decode c14 17 = .ok (.iload 4, 2) := by decide +kernel
theorem d14_19 : decode c14 19 = .ok (.iaload, 1) := by decide +kernel
theorem d14_20 : decode c14 20 = .ok (.istore 5, 2) := by decide +kernel
theorem d14_22 : decode c14 22 = .ok (.iload_n 1, 1) := by decide +kernel
theorem d14_23 : decode c14 23 = .ok (.iload 5, 2) := by decide +kernel
theorem d14_25 : decode c14 25 = .ok (.invokestatic 8, 3) := by decide +kernel
theorem pd__II_I_5 : parseMethodDescriptor "(II)I" = some ⟨[.int, .int], some .int⟩ := by decide +kernel
theorem d14_28 : decode c14 28 = .ok (.istore_n 1, 1) := by decide +kernel
theorem d14_29 : decode c14 29 = .ok (.iinc 4 1, 3) := by decide +kernel
theorem d14_32 : decode c14 32 = .ok (.goto (-22), 3) := by decide +kernel
theorem d14_35 : decode c14 35 = .ok (.iload_n 1, 1) := by decide +kernel
theorem d14_36 : decode c14 36 = .ok (.ireturn, 1) := by decide +kernel
theorem pn_Integer : plainName "java/lang/Integer" = true := by first | (simp [plainName, overriddenIn]; done) | decide +kernel
theorem ef_ntz (m : MethodId) : entryFrame m #[(.int (-32))] 2 = mkF m 0 #[vI (-32), .unset] [] := by first | (simp [entryFrame, mkF, argsToLocals, Value.category]; done) | rfl
abbrev c18 := jdk_33_method_48_code
theorem d18_0 : decode c18 0 = .ok (.iload_n 0, 1) := by decide +kernel
theorem d18_1 : decode c18 1 = .ok (.iconst (-1), 1) := by decide +kernel
theorem d18_2 : decode c18 2 = .ok (.ixor, 1) := by decide +kernel
theorem d18_3 : decode c18 3 = .ok (.iload_n 0, 1) := by decide +kernel
theorem d18_4 : decode c18 4 = .ok (.iconst 1, 1) := by decide +kernel
theorem d18_5 : decode c18 5 = .ok (.isub, 1) := by decide +kernel
theorem d18_6 : decode c18 6 = .ok (.iand, 1) := by decide +kernel
theorem d18_7 : decode c18 7 = .ok (.istore_n 0, 1) := by decide +kernel
theorem d18_8 : decode c18 8 = .ok (.iload_n 0, 1) := by decide +kernel
theorem d18_9 : decode c18 9 = .ok (.ifCond .gt 8, 3) := by decide +kernel
theorem d18_17 : decode c18 17 = .ok (.iconst 1, 1) := by decide +kernel
theorem d18_18 : decode c18 18 = .ok (.istore_n 1, 1) := by decide +kernel
theorem d18_19 : decode c18 19 = .ok (.iload_n 0, 1) := by decide +kernel
theorem d18_20 : decode c18 20 = .ok (.ldc_w 264, 3) := by decide +kernel
theorem d18_23 : decode c18 23 = .ok (.if_icmp .le 11, 3) := by decide +kernel
theorem d18_34 : decode c18 34 = .ok (.iload_n 0, 1) := by decide +kernel
theorem d18_35 : decode c18 35 = .ok (.sipush 256, 3) := by decide +kernel
theorem d18_38 : decode c18 38 = .ok (.if_icmp .le 11, 3) := by decide +kernel
theorem d18_49 : decode c18 49 = .ok (.iload_n 0, 1) := by decide +kernel
theorem d18_50 : decode c18 50 = .ok (.bipush 16, 2) := by decide +kernel
theorem d18_52 : decode c18 52 = .ok (.if_icmp .le 10, 3) := by decide +kernel
theorem d18_55 : decode c18 55 = .ok (.iinc 1 4, 3) := by decide +kernel
theorem d18_58 : decode c18 58 = .ok (.iload_n 0, 1) := by decide +kernel
theorem d18_59 : decode c18 59 = .ok (.iconst 4, 1) := by decide +kernel
theorem d18_60 : decode c18 60 = .ok (.iushr, 1) := by decide +kernel
theorem d18_61 : decode c18 61 = .ok (.istore_n 0, 1) := by decide +kernel
theorem d18_62 : decode c18 62 = .ok (.iload_n 0, 1) := by decide +kernel
theorem d18_63 : decode c18 63 = .ok (.iconst 4, 1) := by decide +kernel
theorem d18_64 : decode c18 64 = .ok (.if_icmp .le 10, 3) := by decide +kernel
theorem d18_74 : decode c18 74 = .ok (.iload_n 1, 1) := by decide +kernel
theorem d18_75 : decode c18 75 = .ok (.iload_n 0, 1) := by decide +kernel
theorem d18_76 : decode c18 76 = .ok (.iconst 1, 1) := by decide +kernel
theorem d18_77 : decode c18 77 = .ok (.iushr, 1) := by decide +kernel
theorem d18_78 : decode c18 78 = .ok (.iadd, 1) := by decide +kernel
theorem d18_79 : decode c18 79 = .ok (.ireturn, 1) := by decide +kernel
theorem ef_tagOf (m : MethodId) (x0 : Addr) (x1 : Int32) : entryFrame m #[(.ref x0), (.int x1)] 2 = mkF m 0 #[vR x0, vI x1] [] := by first | (simp [entryFrame, mkF, argsToLocals, Value.category]; done) | rfl
abbrev c17 := prog_47_method_15_code
theorem d17_0 : decode c17 0 = .ok (.iload_n 1, 1) := by decide +kernel
theorem d17_1 : decode c17 1 = .ok (.iload_n 1, 1) := by decide +kernel
theorem d17_2 : decode c17 2 = .ok (.bipush 16, 2) := by decide +kernel
theorem d17_4 : decode c17 4 = .ok (.iushr, 1) := by decide +kernel
theorem d17_5 : decode c17 5 = .ok (.ixor, 1) := by decide +kernel
theorem d17_6 : decode c17 6 = .ok (.aload_n 0, 1) := by decide +kernel
theorem d17_7 : decode c17 7 = .ok (.getfield 13, 3) := by decide +kernel
theorem d17_10 : decode c17 10 = .ok (.invokestatic 101, 3) := by decide +kernel
theorem pd__I_I_4 : parseMethodDescriptor "(I)I" = some ⟨[.int], some .int⟩ := by decide +kernel
theorem d17_13 : decode c17 13 = .ok (.ishl, 1) := by decide +kernel
theorem d17_14 : decode c17 14 = .ok (.aload_n 0, 1) := by decide +kernel
theorem d17_15 : decode c17 15 = .ok (.getfield 13, 3) := by decide +kernel
theorem d17_18 : decode c17 18 = .ok (.iand, 1) := by decide +kernel
theorem d17_19 : decode c17 19 = .ok (.ireturn, 1) := by decide +kernel
theorem ef_slot (m : MethodId) (x0 : Addr) (x1 : Int32) : entryFrame m #[(.ref x0), (.int x1)] 2 = mkF m 0 #[vR x0, vI x1] [] := by first | (simp [entryFrame, mkF, argsToLocals, Value.category]; done) | rfl
abbrev c19 := prog_47_method_13_code
theorem d19_0 : decode c19 0 = .ok (.iload_n 1, 1) := by decide +kernel
theorem d19_1 : decode c19 1 = .ok (.i2l, 1) := by decide +kernel
theorem d19_2 : decode c19 2 = .ok (.ldc2_w 99, 3) := by decide +kernel
theorem d19_5 : decode c19 5 = .ok (.land, 1) := by decide +kernel
theorem d19_6 : decode c19 6 = .ok (.aload_n 0, 1) := by decide +kernel
theorem d19_7 : decode c19 7 = .ok (.getfield 7, 3) := by decide +kernel
theorem d19_10 : decode c19 10 = .ok (.arraylength, 1) := by decide +kernel
theorem d19_11 : decode c19 11 = .ok (.i2l, 1) := by decide +kernel
theorem d19_12 : decode c19 12 = .ok (.lmul, 1) := by decide +kernel
theorem d19_13 : decode c19 13 = .ok (.bipush 32, 2) := by decide +kernel
theorem d19_15 : decode c19 15 = .ok (.lushr, 1) := by decide +kernel
theorem d19_16 : decode c19 16 = .ok (.l2i, 1) := by decide +kernel
theorem d19_17 : decode c19 17 = .ok (.ireturn, 1) := by decide +kernel
theorem ef_find (m : MethodId) (x0 : Addr) (x1 : Int32) : entryFrame m #[(.ref x0), (.int x1)] 5 = mkF m 0 #[vR x0, vI x1, .unset, .unset, .unset] [] := by first | (simp [entryFrame, mkF, argsToLocals, Value.category]; done) | rfl
abbrev c16 := prog_47_method_5_code
theorem d16_0 : decode c16 0 = .ok (.aload_n 0, 1) := by decide +kernel
theorem d16_1 : decode c16 1 = .ok (.iload_n 1, 1) := by decide +kernel
theorem d16_2 : decode c16 2 = .ok (.invokevirtual 30, 3) := by decide +kernel
theorem d16_5 : decode c16 5 = .ok (.istore_n 2, 1) := by decide +kernel
theorem d16_6 : decode c16 6 = .ok (.aload_n 0, 1) := by decide +kernel
theorem d16_7 : decode c16 7 = .ok (.iload_n 1, 1) := by decide +kernel
theorem d16_8 : decode c16 8 = .ok (.invokevirtual 34, 3) := by decide +kernel
theorem d16_11 : decode c16 11 = .ok (.istore_n 3, 1) := by decide +kernel
theorem d16_12 : decode c16 12 = .ok (.aload_n 0, 1) := by decide +kernel
theorem d16_13 : decode c16 13 = .ok (.getfield 7, 3) := by decide +kernel
theorem d16_16 : decode c16 16 = .ok (.iload_n 3, 1) := by decide +kernel
theorem d16_17 : decode c16 17 = .ok (.iaload, 1) := by decide +kernel
theorem d16_18 : decode c16 18 = .ok (.istore 4, 2) := by decide +kernel
theorem d16_20 : decode c16 20 = .ok (.iload 4, 2) := by decide +kernel
theorem d16_22 : decode c16 22 = .ok (.ifCond .ne 7, 3) := by decide +kernel
theorem d16_25 : decode c16 25 = .ok (.iconst (-1), 1) := by decide +kernel
theorem d16_26 : decode c16 26 = .ok (.iload_n 3, 1) := by decide +kernel
theorem d16_27 : decode c16 27 = .ok (.isub, 1) := by decide +kernel
theorem d16_28 : decode c16 28 = .ok (.ireturn, 1) := by decide +kernel
theorem ef_fits (m : MethodId) (x0 : Addr) (x1 : Int32) : entryFrame m #[(.ref x0), (.int x1)] 2 = mkF m 0 #[vR x0, vI x1] [] := by first | (simp [entryFrame, mkF, argsToLocals, Value.category]; done) | rfl
abbrev c34 := prog_47_method_9_code
theorem d34_0 : decode c34 0 = .ok (.iload_n 1, 1) := by decide +kernel
theorem d34_1 : decode c34 1 = .ok (.iconst 1, 1) := by decide +kernel
theorem d34_2 : decode c34 2 = .ok (.iadd, 1) := by decide +kernel
theorem d34_3 : decode c34 3 = .ok (.aload_n 0, 1) := by decide +kernel
theorem d34_4 : decode c34 4 = .ok (.getfield 13, 3) := by decide +kernel
theorem d34_7 : decode c34 7 = .ok (.iand, 1) := by decide +kernel
theorem d34_8 : decode c34 8 = .ok (.ifCond .ne 7, 3) := by decide +kernel
theorem d34_11 : decode c34 11 = .ok (.iconst 1, 1) := by decide +kernel
theorem d34_12 : decode c34 12 = .ok (.goto 4, 3) := by decide +kernel
theorem d34_16 : decode c34 16 = .ok (.ireturn, 1) := by decide +kernel
theorem ef_insert (m : MethodId) (x0 : Addr) (x1 : Int32) (x2 : Int32) (x3 : Int32) : entryFrame m #[(.ref x0), (.int x1), (.int x2), (.int x3)] 7 = mkF m 0 #[vR x0, vI x1, vI x2, vI x3, .unset, .unset, .unset] [] := by first | (simp [entryFrame, mkF, argsToLocals, Value.category]; done) | rfl
abbrev c33 := prog_47_method_8_code
theorem d33_0 : decode c33 0 = .ok (.iconst (-1), 1) := by decide +kernel
theorem d33_1 : decode c33 1 = .ok (.iload_n 1, 1) := by decide +kernel
theorem d33_2 : decode c33 2 = .ok (.isub, 1) := by decide +kernel
theorem d33_3 : decode c33 3 = .ok (.istore 4, 2) := by decide +kernel
theorem d33_5 : decode c33 5 = .ok (.ldc2_w 54, 3) := by decide +kernel
theorem d33_8 : decode c33 8 = .ok (.aload_n 0, 1) := by decide +kernel
theorem d33_9 : decode c33 9 = .ok (.getfield 27, 3) := by decide +kernel
theorem d33_12 : decode c33 12 = .ok (.iconst 1, 1) := by decide +kernel
theorem d33_13 : decode c33 13 = .ok (.iadd, 1) := by decide +kernel
theorem d33_14 : decode c33 14 = .ok (.i2l, 1) := by decide +kernel
theorem d33_15 : decode c33 15 = .ok (.lmul, 1) := by decide +kernel
theorem d33_16 : decode c33 16 = .ok (.ldc2_w 56, 3) := by decide +kernel
theorem d33_19 : decode c33 19 = .ok (.aload_n 0, 1) := by decide +kernel
theorem d33_20 : decode c33 20 = .ok (.getfield 7, 3) := by decide +kernel
theorem d33_23 : decode c33 23 = .ok (.arraylength, 1) := by decide +kernel
theorem d33_24 : decode c33 24 = .ok (.i2l, 1) := by decide +kernel
theorem d33_25 : decode c33 25 = .ok (.lmul, 1) := by decide +kernel
theorem d33_26 : decode c33 26 = .ok (.lcmp, 1) := by decide +kernel
theorem d33_27 : decode c33 27 = .ok (.ifCond .le 7, 3) := by decide +kernel
theorem d33_34 : decode c33 34 = .ok (.iconst 0, 1) := by decide +kernel
theorem d33_35 : decode c33 35 = .ok (.istore 5, 2) := by decide +kernel
theorem d33_37 : decode c33 37 = .ok (.iload 5, 2) := by decide +kernel
theorem d33_39 : decode c33 39 = .ok (.ifCond .ne 11, 3) := by decide +kernel
theorem d33_42 : decode c33 42 = .ok (.aload_n 0, 1) := by decide +kernel
theorem d33_43 : decode c33 43 = .ok (.iload_n 3, 1) := by decide +kernel
theorem d33_44 : decode c33 44 = .ok (.invokevirtual 44, 3) := by decide +kernel
theorem pd__I_Z_4 : parseMethodDescriptor "(I)Z" = some ⟨[.int], some .boolean⟩ := by decide +kernel
theorem d33_47 : decode c33 47 = .ok (.ifCond .ne 74, 3) := by decide +kernel
theorem d33_121 : decode c33 121 = .ok (.aload_n 0, 1) := by decide +kernel
theorem d33_122 : decode c33 122 = .ok (.getfield 7, 3) := by decide +kernel
theorem d33_125 : decode c33 125 = .ok (.iload 4, 2) := by decide +kernel
theorem d33_127 : decode c33 127 = .ok (.aload_n 0, 1) := by decide +kernel
theorem d33_128 : decode c33 128 = .ok (.iload_n 2, 1) := by decide +kernel
theorem d33_129 : decode c33 129 = .ok (.invokevirtual 30, 3) := by decide +kernel
theorem d33_132 : decode c33 132 = .ok (.iload_n 3, 1) := by decide +kernel
theorem d33_133 : decode c33 133 = .ok (.iconst 1, 1) := by decide +kernel
theorem d33_134 : decode c33 134 = .ok (.iadd, 1) := by decide +kernel
theorem d33_135 : decode c33 135 = .ok (.ior, 1) := by decide +kernel
theorem d33_136 : decode c33 136 = .ok (.iastore, 1) := by decide +kernel
theorem d33_137 : decode c33 137 = .ok (.aload_n 0, 1) := by decide +kernel
theorem d33_138 : decode c33 138 = .ok (.dup, 1) := by decide +kernel
theorem d33_139 : decode c33 139 = .ok (.getfield 27, 3) := by decide +kernel
theorem d33_142 : decode c33 142 = .ok (.iconst 1, 1) := by decide +kernel
theorem d33_143 : decode c33 143 = .ok (.iadd, 1) := by decide +kernel
theorem d33_144 : decode c33 144 = .ok (.putfield 27, 3) := by decide +kernel
theorem d33_147 : decode c33 147 = .ok (.return_, 1) := by decide +kernel
theorem ef_srf (m : MethodId) (x0 : Addr) (x1 : Int32) : entryFrame m #[(.ref x0), (.int x1)] 2 = mkF m 0 #[vR x0, vI x1] [] := by first | (simp [entryFrame, mkF, argsToLocals, Value.category]; done) | rfl
abbrev c9 := prog_43_method_23_code
theorem d9_0 : decode c9 0 = .ok (.aload_n 0, 1) := by decide +kernel
theorem d9_1 : decode c9 1 = .ok (.iload_n 1, 1) := by decide +kernel
theorem d9_2 : decode c9 2 = .ok (.putfield 161, 3) := by decide +kernel
theorem d9_5 : decode c9 5 = .ok (.aload_n 0, 1) := by decide +kernel
theorem d9_6 : decode c9 6 = .ok (.aload_n 0, 1) := by decide +kernel
theorem d9_7 : decode c9 7 = .ok (.getfield 38, 3) := by decide +kernel
theorem d9_10 : decode c9 10 = .ok (.putfield 158, 3) := by decide +kernel
theorem d9_13 : decode c9 13 = .ok (.aload_n 0, 1) := by decide +kernel
theorem d9_14 : decode c9 14 = .ok (.getfield 161, 3) := by decide +kernel
theorem d9_17 : decode c9 17 = .ok (.aload_n 0, 1) := by decide +kernel
theorem d9_18 : decode c9 18 = .ok (.getfield 158, 3) := by decide +kernel
theorem d9_21 : decode c9 21 = .ok (.if_icmp .ge 7, 3) := by decide +kernel
theorem d9_24 : decode c9 24 = .ok (.iconst 1, 1) := by decide +kernel
theorem d9_25 : decode c9 25 = .ok (.goto 4, 3) := by decide +kernel
theorem d9_28 : decode c9 28 = .ok (.iconst 0, 1) := by decide +kernel
theorem d9_29 : decode c9 29 = .ok (.ireturn, 1) := by decide +kernel
theorem ef_sr (m : MethodId) (x0 : Addr) : entryFrame m #[(.ref x0)] 1 = mkF m 0 #[vR x0] [] := by first | (simp [entryFrame, mkF, argsToLocals, Value.category]; done) | rfl
abbrev c35 := prog_43_method_22_code
theorem d35_0 : decode c35 0 = .ok (.aload_n 0, 1) := by decide +kernel
theorem d35_1 : decode c35 1 = .ok (.aload_n 0, 1) := by decide +kernel
theorem d35_2 : decode c35 2 = .ok (.getfield 158, 3) := by decide +kernel
theorem d35_5 : decode c35 5 = .ok (.invokevirtual 195, 3) := by decide +kernel
theorem d35_8 : decode c35 8 = .ok (.ireturn, 1) := by decide +kernel
theorem ef_g_deltaStart (m : MethodId) (x0 : Addr) : entryFrame m #[(.ref x0)] 1 = mkF m 0 #[vR x0] [] := by first | (simp [entryFrame, mkF, argsToLocals, Value.category]; done) | rfl
abbrev c10 := prog_43_method_25_code
theorem d10_0 : decode c10 0 = .ok (.aload_n 0, 1) := by decide +kernel
theorem d10_1 : decode c10 1 = .ok (.getfield 161, 3) := by decide +kernel
theorem d10_4 : decode c10 4 = .ok (.ireturn, 1) := by decide +kernel
theorem ef_g_deltaEnd (m : MethodId) (x0 : Addr) : entryFrame m #[(.ref x0)] 1 = mkF m 0 #[vR x0] [] := by first | (simp [entryFrame, mkF, argsToLocals, Value.category]; done) | rfl
abbrev c11 := prog_43_method_26_code
theorem d11_0 : decode c11 0 = .ok (.aload_n 0, 1) := by decide +kernel
theorem d11_1 : decode c11 1 = .ok (.getfield 158, 3) := by decide +kernel
theorem d11_4 : decode c11 4 = .ok (.ireturn, 1) := by decide +kernel
theorem ef_g_rows (m : MethodId) (x0 : Addr) : entryFrame m #[(.ref x0)] 1 = mkF m 0 #[vR x0] [] := by first | (simp [entryFrame, mkF, argsToLocals, Value.category]; done) | rfl
abbrev c12 := prog_43_method_3_code
theorem d12_0 : decode c12 0 = .ok (.aload_n 0, 1) := by decide +kernel
theorem d12_1 : decode c12 1 = .ok (.getfield 38, 3) := by decide +kernel
theorem d12_4 : decode c12 4 = .ok (.ireturn, 1) := by decide +kernel
theorem ef_append (m : MethodId) (x0 : Addr) (x1 : Addr) : entryFrame m #[(.ref x0), (.ref x1)] 5 = mkF m 0 #[vR x0, vR x1, .unset, .unset, .unset] [] := by first | (simp [entryFrame, mkF, argsToLocals, Value.category]; done) | rfl
abbrev c20 := prog_43_method_27_code
theorem d20_0 : decode c20 0 = .ok (.aload_n 0, 1) := by decide +kernel
theorem d20_1 : decode c20 1 = .ok (.getfield 38, 3) := by decide +kernel
theorem d20_4 : decode c20 4 = .ok (.istore_n 2, 1) := by decide +kernel
theorem d20_5 : decode c20 5 = .ok (.iload_n 2, 1) := by decide +kernel
theorem d20_6 : decode c20 6 = .ok (.aload_n 0, 1) := by decide +kernel
theorem d20_7 : decode c20 7 = .ok (.getfield 158, 3) := by decide +kernel
theorem d20_10 : decode c20 10 = .ok (.if_icmp .ne 19, 3) := by decide +kernel
theorem d20_13 : decode c20 13 = .ok (.aload_n 0, 1) := by decide +kernel
theorem d20_14 : decode c20 14 = .ok (.getfield 187, 3) := by decide +kernel
theorem d20_17 : decode c20 17 = .ok (.ifnull 12, 3) := by decide +kernel
theorem d20_29 : decode c20 29 = .ok (.aload_n 0, 1) := by decide +kernel
theorem d20_30 : decode c20 30 = .ok (.getfield 34, 3) := by decide +kernel
theorem d20_33 : decode c20 33 = .ok (.aload_n 1, 1) := by decide +kernel
theorem d20_34 : decode c20 34 = .ok (.invokevirtual 203, 3) := by decide +kernel
theorem pd___I_V_5 : parseMethodDescriptor "([I)V" = some ⟨[(.array .int)], none⟩ := by decide +kernel
theorem d20_37 : decode c20 37 = .ok (.aload_n 0, 1) := by decide +kernel
theorem d20_38 : decode c20 38 = .ok (.dup, 1) := by decide +kernel
theorem d20_39 : decode c20 39 = .ok (.getfield 38, 3) := by decide +kernel
theorem d20_42 : decode c20 42 = .ok (.iconst 1, 1) := by decide +kernel
theorem d20_43 : decode c20 43 = .ok (.iadd, 1) := by decide +kernel
theorem d20_44 : decode c20 44 = .ok (.putfield 38, 3) := by decide +kernel
theorem d20_47 : decode c20 47 = .ok (.aload_n 0, 1) := by decide +kernel
theorem d20_48 : decode c20 48 = .ok (.getfield 21, 3) := by decide +kernel
theorem d20_51 : decode c20 51 = .ok (.invokeinterface 134 1, 5) := by decide +kernel
theorem pd___Ljava_util_Iterator__22 : parseMethodDescriptor "()Ljava/util/Iterator;" = some ⟨[], some (.object "java/util/Iterator")⟩ := by decide +kernel
theorem d20_56 : decode c20 56 = .ok (.astore_n 3, 1) := by decide +kernel
theorem d20_57 : decode c20 57 = .ok (.aload_n 3, 1) := by decide +kernel
theorem d20_58 : decode c20 58 = .ok (.invokeinterface 140 1, 5) := by decide +kernel
theorem pd___Z_3 : parseMethodDescriptor "()Z" = some ⟨[], some .boolean⟩ := by decide +kernel
theorem d20_63 : decode c20 63 = .ok (.ifCond .eq 23, 3) := by decide +kernel
theorem d20_86 : decode c20 86 = .ok (.aload_n 0, 1) := by decide +kernel
theorem d20_87 : decode c20 87 = .ok (.getfield 83, 3) := by decide +kernel
theorem d20_90 : decode c20 90 = .ok (.ifCond .eq 10, 3) := by decide +kernel
theorem d20_100 : decode c20 100 = .ok (.iconst 0, 1) := by decide +kernel
theorem d20_101 : decode c20 101 = .ok (.istore_n 3, 1) := by decide +kernel
theorem d20_102 : decode c20 102 = .ok (.iconst 0, 1) := by decide +kernel
theorem d20_103 : decode c20 103 = .ok (.istore 4, 2) := by decide +kernel
theorem d20_105 : decode c20 105 = .ok (.iload_n 3, 1) := by decide +kernel
theorem d20_106 : decode c20 106 = .ok (.ifCond .ne 24, 3) := by decide +kernel
theorem d20_109 : decode c20 109 = .ok (.iload 4, 2) := by decide +kernel
theorem d20_111 : decode c20 111 = .ok (.aload_n 1, 1) := by decide +kernel
theorem d20_112 : decode c20 112 = .ok (.arraylength, 1) := by decide +kernel
theorem d20_113 : decode c20 113 = .ok (.if_icmp .ge 17, 3) := by decide +kernel
theorem d20_116 : decode c20 116 = .ok (.aload_n 1, 1) := by decide +kernel
theorem d20_117 : decode c20 117 = .ok (.iload 4, 2) := by decide +kernel
theorem d20_119 : decode c20 119 = .ok (.iaload, 1) := by decide +kernel
theorem d20_120 : decode c20 120 = .ok (.invokestatic 166, 3) := by decide +kernel
theorem d20_123 : decode c20 123 = .ok (.istore_n 3, 1) := by decide +kernel
theorem d20_124 : decode c20 124 = .ok (.iinc 4 1, 3) := by decide +kernel
theorem d20_127 : decode c20 127 = .ok (.goto (-22), 3) := by decide +kernel
theorem d20_130 : decode c20 130 = .ok (.aload_n 0, 1) := by decide +kernel
theorem d20_131 : decode c20 131 = .ok (.dup, 1) := by decide +kernel
theorem d20_132 : decode c20 132 = .ok (.getfield 83, 3) := by decide +kernel
theorem d20_135 : decode c20 135 = .ok (.iload_n 3, 1) := by decide +kernel
theorem d20_136 : decode c20 136 = .ok (.ior, 1) := by decide +kernel
theorem d20_137 : decode c20 137 = .ok (.putfield 83, 3) := by decide +kernel
theorem d20_140 : decode c20 140 = .ok (.iload_n 3, 1) := by decide +kernel
theorem d20_141 : decode c20 141 = .ok (.ifCond .eq 20, 3) := by decide +kernel
theorem d20_144 : decode c20 144 = .ok (.aload_n 0, 1) := by decide +kernel
theorem d20_145 : decode c20 145 = .ok (.getfield 191, 3) := by decide +kernel
theorem d20_148 : decode c20 148 = .ok (.ifnull 13, 3) := by decide +kernel
theorem d20_93 : decode c20 93 = .ok (.aload_n 0, 1) := by decide +kernel
theorem d20_94 : decode c20 94 = .ok (.getfield 191, 3) := by decide +kernel
theorem d20_97 : decode c20 97 = .ok (.ifnull 64, 3) := by decide +kernel
theorem d20_161 : decode c20 161 = .ok (.iload_n 2, 1) := by decide +kernel
theorem d20_162 : decode c20 162 = .ok (.ireturn, 1) := by decide +kernel
theorem ef_reladd (m : MethodId) (x0 : Addr) (x1 : Addr) : entryFrame m #[(.ref x0), (.ref x1)] 4 = mkF m 0 #[vR x0, vR x1, .unset, .unset] [] := by first | (simp [entryFrame, mkF, argsToLocals, Value.category]; done) | rfl
abbrev c13 := prog_43_method_5_code
theorem d13_0 : decode c13 0 = .ok (.aload_n 0, 1) := by decide +kernel
theorem d13_1 : decode c13 1 = .ok (.getfield 45, 3) := by decide +kernel
theorem d13_4 : decode c13 4 = .ok (.ifCond .eq 18, 3) := by decide +kernel
theorem d13_22 : decode c13 22 = .ok (.aload_n 0, 1) := by decide +kernel
theorem d13_23 : decode c13 23 = .ok (.getfield 12, 3) := by decide +kernel
theorem d13_26 : decode c13 26 = .ok (.ifnonnull 13, 3) := by decide +kernel
theorem d13_39 : decode c13 39 = .ok (.aload_n 1, 1) := by decide +kernel
theorem d13_40 : decode c13 40 = .ok (.invokestatic 60, 3) := by decide +kernel
theorem pd___I_I_5 : parseMethodDescriptor "([I)I" = some ⟨[(.array .int)], some .int⟩ := by decide +kernel
theorem d13_43 : decode c13 43 = .ok (.istore_n 2, 1) := by decide +kernel
theorem d13_44 : decode c13 44 = .ok (.aload_n 0, 1) := by decide +kernel
theorem d13_45 : decode c13 45 = .ok (.aload_n 1, 1) := by decide +kernel
theorem d13_46 : decode c13 46 = .ok (.putfield 65, 3) := by decide +kernel
theorem d13_49 : decode c13 49 = .ok (.aload_n 0, 1) := by decide +kernel
theorem d13_50 : decode c13 50 = .ok (.getfield 12, 3) := by decide +kernel
theorem d13_53 : decode c13 53 = .ok (.iload_n 2, 1) := by decide +kernel
theorem d13_54 : decode c13 54 = .ok (.invokevirtual 69, 3) := by decide +kernel
theorem d13_57 : decode c13 57 = .ok (.istore_n 3, 1) := by decide +kernel
theorem d13_58 : decode c13 58 = .ok (.iload_n 3, 1) := by decide +kernel
theorem d13_59 : decode c13 59 = .ok (.ifCond .lt 5, 3) := by decide +kernel
theorem d13_64 : decode c13 64 = .ok (.aload_n 0, 1) := by decide +kernel
theorem d13_65 : decode c13 65 = .ok (.getfield 12, 3) := by decide +kernel
theorem d13_68 : decode c13 68 = .ok (.iload_n 3, 1) := by decide +kernel
theorem d13_69 : decode c13 69 = .ok (.iload_n 2, 1) := by decide +kernel
theorem d13_70 : decode c13 70 = .ok (.aload_n 0, 1) := by decide +kernel
theorem d13_71 : decode c13 71 = .ok (.aload_n 1, 1) := by decide +kernel
theorem d13_72 : decode c13 72 = .ok (.invokevirtual 49, 3) := by decide +kernel
theorem d13_75 : decode c13 75 = .ok (.invokevirtual 73, 3) := by decide +kernel
theorem pd__III_V_6 : parseMethodDescriptor "(III)V" = some ⟨[.int, .int, .int], none⟩ := by decide +kernel
theorem d13_78 : decode c13 78 = .ok (.iconst 1, 1) := by decide +kernel
theorem d13_79 : decode c13 79 = .ok (.ireturn, 1) := by decide +kernel
theorem ef_start1 (m : MethodId) (x0 : Addr) (x2 : Addr) : entryFrame m #[(.ref x0), (.int 0), (.ref x2)] 4 = mkF m 0 #[vR x0, vI 0, vR x2, .unset] [] := by first | (simp [entryFrame, mkF, argsToLocals, Value.category]; done) | rfl
abbrev c22 := prog_48_method_5_code
theorem d22_0 : decode c22 0 = .ok (.iload_n 1, 1) := by decide +kernel
theorem d22_1 : decode c22 1 = .ok (.aload_n 0, 1) := by decide +kernel
theorem d22_2 : decode c22 2 = .ok (.getfield 9, 3) := by decide +kernel
theorem d22_5 : decode c22 5 = .ok (.arraylength, 1) := by decide +kernel
theorem d22_6 : decode c22 6 = .ok (.if_icmp .ne 56, 3) := by decide +kernel
theorem d22_62 : decode c22 62 = .ok (.iload_n 1, 1) := by decide +kernel
theorem d22_63 : decode c22 63 = .ok (.ifCond .le 19, 3) := by decide +kernel
theorem d22_82 : decode c22 82 = .ok (.iconst 0, 1) := by decide +kernel
theorem d22_83 : decode c22 83 = .ok (.istore_n 3, 1) := by decide +kernel
theorem d22_84 : decode c22 84 = .ok (.iload_n 3, 1) := by decide +kernel
theorem d22_85 : decode c22 85 = .ok (.aload_n 0, 1) := by decide +kernel
theorem d22_86 : decode c22 86 = .ok (.getfield 21, 3) := by decide +kernel
theorem d22_89 : decode c22 89 = .ok (.if_icmp .ge 31, 3) := by decide +kernel
theorem d22_92 : decode c22 92 = .ok (.aload_n 0, 1) := by decide +kernel
theorem d22_93 : decode c22 93 = .ok (.getfield 25, 3) := by decide +kernel
theorem d22_96 : decode c22 96 = .ok (.iload_n 1, 1) := by decide +kernel
theorem d22_97 : decode c22 97 = .ok (.aload_n 0, 1) := by decide +kernel
theorem d22_98 : decode c22 98 = .ok (.getfield 21, 3) := by decide +kernel
theorem d22_101 : decode c22 101 = .ok (.imul, 1) := by decide +kernel
theorem d22_102 : decode c22 102 = .ok (.iload_n 3, 1) := by decide +kernel
theorem d22_103 : decode c22 103 = .ok (.iadd, 1) := by decide +kernel
theorem d22_104 : decode c22 104 = .ok (.aload_n 2, 1) := by decide +kernel
theorem d22_105 : decode c22 105 = .ok (.iload_n 3, 1) := by decide +kernel
theorem d22_106 : decode c22 106 = .ok (.iaload, 1) := by decide +kernel
theorem d22_107 : decode c22 107 = .ok (.aload_n 2, 1) := by decide +kernel
theorem d22_108 : decode c22 108 = .ok (.iload_n 3, 1) := by decide +kernel
theorem d22_109 : decode c22 109 = .ok (.iaload, 1) := by decide +kernel
theorem d22_110 : decode c22 110 = .ok (.invokestatic 63, 3) := by decide +kernel
theorem d22_113 : decode c22 113 = .ok (.iastore, 1) := by decide +kernel
theorem d22_114 : decode c22 114 = .ok (.iinc 3 1, 3) := by decide +kernel
theorem d22_117 : decode c22 117 = .ok (.goto (-33), 3) := by decide +kernel
theorem d22_120 : decode c22 120 = .ok (.aload_n 2, 1) := by decide +kernel
theorem d22_121 : decode c22 121 = .ok (.iconst 0, 1) := by decide +kernel
theorem d22_122 : decode c22 122 = .ok (.aload_n 0, 1) := by decide +kernel
theorem d22_123 : decode c22 123 = .ok (.getfield 28, 3) := by decide +kernel
theorem d22_126 : decode c22 126 = .ok (.iconst 0, 1) := by decide +kernel
theorem d22_127 : decode c22 127 = .ok (.aload_n 0, 1) := by decide +kernel
theorem d22_128 : decode c22 128 = .ok (.getfield 21, 3) := by decide +kernel
theorem d22_131 : decode c22 131 = .ok (.invokestatic 67, 3) := by decide +kernel
theorem d22_134 : decode c22 134 = .ok (.aload_n 2, 1) := by decide +kernel
theorem d22_135 : decode c22 135 = .ok (.iconst 0, 1) := by decide +kernel
theorem d22_136 : decode c22 136 = .ok (.aload_n 0, 1) := by decide +kernel
theorem d22_137 : decode c22 137 = .ok (.getfield 31, 3) := by decide +kernel
theorem d22_140 : decode c22 140 = .ok (.iconst 0, 1) := by decide +kernel
theorem d22_141 : decode c22 141 = .ok (.aload_n 0, 1) := by decide +kernel
theorem d22_142 : decode c22 142 = .ok (.getfield 21, 3) := by decide +kernel
theorem d22_145 : decode c22 145 = .ok (.invokestatic 67, 3) := by decide +kernel
theorem d22_148 : decode c22 148 = .ok (.return_, 1) := by decide +kernel
theorem ef_room1N0 (m : MethodId) (x0 : Addr) : entryFrame m #[(.ref x0), (.int 0), (.int 0)] 5 = mkF m 0 #[vR x0, vI 0, vI 0, .unset, .unset] [] := by first | (simp [entryFrame, mkF, argsToLocals, Value.category]; done) | rfl
abbrev c25 := prog_48_method_6_code
theorem d25_0 : decode c25 0 = .ok (.iload_n 2, 1) := by decide +kernel
theorem d25_1 : decode c25 1 = .ok (.iconst 1, 1) := by decide +kernel
theorem d25_2 : decode c25 2 = .ok (.iadd, 1) := by decide +kernel
theorem d25_3 : decode c25 3 = .ok (.aload_n 0, 1) := by decide +kernel
theorem d25_4 : decode c25 4 = .ok (.getfield 21, 3) := by decide +kernel
theorem d25_7 : decode c25 7 = .ok (.imul, 1) := by decide +kernel
theorem d25_8 : decode c25 8 = .ok (.istore_n 3, 1) := by decide +kernel
theorem d25_9 : decode c25 9 = .ok (.iconst 2, 1) := by decide +kernel
theorem d25_10 : decode c25 10 = .ok (.iload_n 2, 1) := by decide +kernel
theorem d25_11 : decode c25 11 = .ok (.imul, 1) := by decide +kernel
theorem d25_12 : decode c25 12 = .ok (.sipush 4096, 3) := by decide +kernel
theorem d25_15 : decode c25 15 = .ok (.invokestatic 73, 3) := by decide +kernel
theorem d25_18 : decode c25 18 = .ok (.aload_n 0, 1) := by decide +kernel
theorem d25_19 : decode c25 19 = .ok (.getfield 21, 3) := by decide +kernel
theorem d25_22 : decode c25 22 = .ok (.imul, 1) := by decide +kernel
theorem d25_23 : decode c25 23 = .ok (.istore 4, 2) := by decide +kernel
theorem d25_25 : decode c25 25 = .ok (.aload_n 0, 1) := by decide +kernel
theorem d25_26 : decode c25 26 = .ok (.getfield 17, 3) := by decide +kernel
theorem d25_29 : decode c25 29 = .ok (.iload_n 1, 1) := by decide +kernel
theorem d25_30 : decode c25 30 = .ok (.aaload, 1) := by decide +kernel
theorem d25_31 : decode c25 31 = .ok (.ifnull 34, 3) := by decide +kernel
theorem d25_34 : decode c25 34 = .ok (.iload_n 3, 1) := by decide +kernel
theorem d25_35 : decode c25 35 = .ok (.aload_n 0, 1) := by decide +kernel
theorem d25_36 : decode c25 36 = .ok (.getfield 17, 3) := by decide +kernel
theorem d25_39 : decode c25 39 = .ok (.iload_n 1, 1) := by decide +kernel
theorem d25_40 : decode c25 40 = .ok (.aaload, 1) := by decide +kernel
theorem d25_41 : decode c25 41 = .ok (.arraylength, 1) := by decide +kernel
theorem d25_42 : decode c25 42 = .ok (.if_icmp .le 23, 3) := by decide +kernel
theorem d25_65 : decode c25 65 = .ok (.aload_n 0, 1) := by decide +kernel
theorem d25_66 : decode c25 66 = .ok (.getfield 9, 3) := by decide +kernel
theorem d25_69 : decode c25 69 = .ok (.iload_n 1, 1) := by decide +kernel
theorem d25_70 : decode c25 70 = .ok (.aaload, 1) := by decide +kernel
theorem d25_71 : decode c25 71 = .ok (.ifnull 31, 3) := by decide +kernel
theorem d25_102 : decode c25 102 = .ok (.return_, 1) := by decide +kernel
theorem ef_room1N1 (m : MethodId) (x0 : Addr) : entryFrame m #[(.ref x0), (.int 0), (.int 1)] 5 = mkF m 0 #[vR x0, vI 0, vI 1, .unset, .unset] [] := by first | (simp [entryFrame, mkF, argsToLocals, Value.category]; done) | rfl
theorem ef_room1N2 (m : MethodId) (x0 : Addr) : entryFrame m #[(.ref x0), (.int 0), (.int 2)] 5 = mkF m 0 #[vR x0, vI 0, vI 2, .unset, .unset] [] := by first | (simp [entryFrame, mkF, argsToLocals, Value.category]; done) | rfl
theorem ef_room1W2 (m : MethodId) (x0 : Addr) : entryFrame m #[(.ref x0), (.int 0), (.int 2)] 5 = mkF m 0 #[vR x0, vI 0, vI 2, .unset, .unset] [] := by first | (simp [entryFrame, mkF, argsToLocals, Value.category]; done) | rfl
theorem d25_74 : decode c25 74 = .ok (.iload_n 3, 1) := by decide +kernel
theorem d25_75 : decode c25 75 = .ok (.aload_n 0, 1) := by decide +kernel
theorem d25_76 : decode c25 76 = .ok (.getfield 9, 3) := by decide +kernel
theorem d25_79 : decode c25 79 = .ok (.iload_n 1, 1) := by decide +kernel
theorem d25_80 : decode c25 80 = .ok (.aaload, 1) := by decide +kernel
theorem d25_81 : decode c25 81 = .ok (.arraylength, 1) := by decide +kernel
theorem d25_82 : decode c25 82 = .ok (.if_icmp .le 20, 3) := by decide +kernel
theorem ef_fit1_0 (m : MethodId) (x0 : Addr) (x3 : Addr) : entryFrame m #[(.ref x0), (.int 0), (.int 0), (.ref x3)] 11 = mkF m 0 #[vR x0, vI 0, vI 0, vR x3, .unset, .unset, .unset, .unset, .unset, .unset, .unset] [] := by first | (simp [entryFrame, mkF, argsToLocals, Value.category]; done) | rfl
abbrev c27 := prog_48_method_7_code
theorem d27_0 : decode c27 0 = .ok (.iconst 0, 1) := by decide +kernel
theorem d27_1 : decode c27 1 = .ok (.istore 4, 2) := by decide +kernel
theorem d27_3 : decode c27 3 = .ok (.iload 4, 2) := by decide +kernel
theorem d27_5 : decode c27 5 = .ok (.aload_n 0, 1) := by decide +kernel
theorem d27_6 : decode c27 6 = .ok (.getfield 21, 3) := by decide +kernel
theorem d27_9 : decode c27 9 = .ok (.if_icmp .ge 58, 3) := by decide +kernel
theorem d27_12 : decode c27 12 = .ok (.aload_n 3, 1) := by decide +kernel
theorem d27_13 : decode c27 13 = .ok (.iload 4, 2) := by decide +kernel
theorem d27_15 : decode c27 15 = .ok (.iaload, 1) := by decide +kernel
theorem d27_16 : decode c27 16 = .ok (.aload_n 0, 1) := by decide +kernel
theorem d27_17 : decode c27 17 = .ok (.getfield 31, 3) := by decide +kernel
theorem d27_20 : decode c27 20 = .ok (.iload 4, 2) := by decide +kernel
theorem d27_22 : decode c27 22 = .ok (.iaload, 1) := by decide +kernel
theorem d27_23 : decode c27 23 = .ok (.invokestatic 81, 3) := by decide +kernel
theorem d27_26 : decode c27 26 = .ok (.i2l, 1) := by decide +kernel
theorem d27_27 : decode c27 27 = .ok (.aload_n 3, 1) := by decide +kernel
theorem d27_28 : decode c27 28 = .ok (.iload 4, 2) := by decide +kernel
theorem d27_30 : decode c27 30 = .ok (.iaload, 1) := by decide +kernel
theorem d27_31 : decode c27 31 = .ok (.aload_n 0, 1) := by decide +kernel
theorem d27_32 : decode c27 32 = .ok (.getfield 28, 3) := by decide +kernel
theorem d27_35 : decode c27 35 = .ok (.iload 4, 2) := by decide +kernel
theorem d27_37 : decode c27 37 = .ok (.iaload, 1) := by decide +kernel
theorem d27_38 : decode c27 38 = .ok (.invokestatic 73, 3) := by decide +kernel
theorem d27_41 : decode c27 41 = .ok (.i2l, 1) := by decide +kernel
theorem d27_42 : decode c27 42 = .ok (.lsub, 1) := by decide +kernel
theorem d27_43 : decode c27 43 = .ok (.lstore 5, 2) := by decide +kernel
theorem d27_45 : decode c27 45 = .ok (.lload 5, 2) := by decide +kernel
theorem d27_47 : decode c27 47 = .ok (.ldc2_w 84, 3) := by decide +kernel
theorem d27_50 : decode c27 50 = .ok (.lcmp, 1) := by decide +kernel
theorem d27_51 : decode c27 51 = .ok (.ifCond .lt 10, 3) := by decide +kernel
theorem d27_61 : decode c27 61 = .ok (.iinc 4 1, 3) := by decide +kernel
theorem d27_64 : decode c27 64 = .ok (.goto (-61), 3) := by decide +kernel
theorem d27_67 : decode c27 67 = .ok (.iconst 0, 1) := by decide +kernel
theorem d27_68 : decode c27 68 = .ok (.istore 4, 2) := by decide +kernel
theorem d27_70 : decode c27 70 = .ok (.iload 4, 2) := by decide +kernel
theorem d27_72 : decode c27 72 = .ok (.aload_n 0, 1) := by decide +kernel
theorem d27_73 : decode c27 73 = .ok (.getfield 21, 3) := by decide +kernel
theorem d27_76 : decode c27 76 = .ok (.if_icmp .ge 179, 3) := by decide +kernel
theorem d27_79 : decode c27 79 = .ok (.aload_n 0, 1) := by decide +kernel
theorem d27_80 : decode c27 80 = .ok (.getfield 28, 3) := by decide +kernel
theorem d27_83 : decode c27 83 = .ok (.iload 4, 2) := by decide +kernel
theorem d27_85 : decode c27 85 = .ok (.aload_n 3, 1) := by decide +kernel
theorem d27_86 : decode c27 86 = .ok (.iload 4, 2) := by decide +kernel
theorem d27_88 : decode c27 88 = .ok (.iaload, 1) := by decide +kernel
theorem d27_89 : decode c27 89 = .ok (.aload_n 0, 1) := by decide +kernel
theorem d27_90 : decode c27 90 = .ok (.getfield 28, 3) := by decide +kernel
theorem d27_93 : decode c27 93 = .ok (.iload 4, 2) := by decide +kernel
theorem d27_95 : decode c27 95 = .ok (.iaload, 1) := by decide +kernel
theorem d27_96 : decode c27 96 = .ok (.invokestatic 73, 3) := by decide +kernel
theorem d27_99 : decode c27 99 = .ok (.iastore, 1) := by decide +kernel
theorem d27_100 : decode c27 100 = .ok (.aload_n 0, 1) := by decide +kernel
theorem d27_101 : decode c27 101 = .ok (.getfield 31, 3) := by decide +kernel
theorem d27_104 : decode c27 104 = .ok (.iload 4, 2) := by decide +kernel
theorem d27_106 : decode c27 106 = .ok (.aload_n 3, 1) := by decide +kernel
theorem d27_107 : decode c27 107 = .ok (.iload 4, 2) := by decide +kernel
theorem d27_109 : decode c27 109 = .ok (.iaload, 1) := by decide +kernel
theorem d27_110 : decode c27 110 = .ok (.aload_n 0, 1) := by decide +kernel
theorem d27_111 : decode c27 111 = .ok (.getfield 31, 3) := by decide +kernel
theorem d27_114 : decode c27 114 = .ok (.iload 4, 2) := by decide +kernel
theorem d27_116 : decode c27 116 = .ok (.iaload, 1) := by decide +kernel
theorem d27_117 : decode c27 117 = .ok (.invokestatic 81, 3) := by decide +kernel
theorem d27_120 : decode c27 120 = .ok (.iastore, 1) := by decide +kernel
theorem d27_121 : decode c27 121 = .ok (.aload_n 0, 1) := by decide +kernel
theorem d27_122 : decode c27 122 = .ok (.getfield 25, 3) := by decide +kernel
theorem d27_125 : decode c27 125 = .ok (.iload_n 1, 1) := by decide +kernel
theorem d27_126 : decode c27 126 = .ok (.aload_n 0, 1) := by decide +kernel
theorem d27_127 : decode c27 127 = .ok (.getfield 21, 3) := by decide +kernel
theorem d27_130 : decode c27 130 = .ok (.imul, 1) := by decide +kernel
theorem d27_131 : decode c27 131 = .ok (.iload 4, 2) := by decide +kernel
theorem d27_133 : decode c27 133 = .ok (.iadd, 1) := by decide +kernel
theorem d27_134 : decode c27 134 = .ok (.iaload, 1) := by decide +kernel
theorem d27_135 : decode c27 135 = .ok (.istore 5, 2) := by decide +kernel
theorem d27_137 : decode c27 137 = .ok (.aload_n 3, 1) := by decide +kernel
theorem d27_138 : decode c27 138 = .ok (.iload 4, 2) := by decide +kernel
theorem d27_140 : decode c27 140 = .ok (.iaload, 1) := by decide +kernel
theorem d27_141 : decode c27 141 = .ok (.i2l, 1) := by decide +kernel
theorem d27_142 : decode c27 142 = .ok (.iload 5, 2) := by decide +kernel
theorem d27_144 : decode c27 144 = .ok (.i2l, 1) := by decide +kernel
theorem d27_145 : decode c27 145 = .ok (.lsub, 1) := by decide +kernel
theorem d27_146 : decode c27 146 = .ok (.lstore 6, 2) := by decide +kernel
theorem d27_148 : decode c27 148 = .ok (.lload 6, 2) := by decide +kernel
theorem d27_150 : decode c27 150 = .ok (.lconst 0, 1) := by decide +kernel
theorem d27_151 : decode c27 151 = .ok (.lcmp, 1) := by decide +kernel
theorem d27_152 : decode c27 152 = .ok (.ifCond .lt 12, 3) := by decide +kernel
theorem d27_155 : decode c27 155 = .ok (.lload 6, 2) := by decide +kernel
theorem d27_157 : decode c27 157 = .ok (.ldc2_w 84, 3) := by decide +kernel
theorem d27_160 : decode c27 160 = .ok (.lcmp, 1) := by decide +kernel
theorem d27_161 : decode c27 161 = .ok (.ifCond .lt 88, 3) := by decide +kernel
theorem d27_249 : decode c27 249 = .ok (.iinc 4 1, 3) := by decide +kernel
theorem d27_252 : decode c27 252 = .ok (.goto (-182), 3) := by decide +kernel
theorem d27_255 : decode c27 255 = .ok (.return_, 1) := by decide +kernel
theorem ef_fit1_1 (m : MethodId) (x0 : Addr) (x3 : Addr) : entryFrame m #[(.ref x0), (.int 0), (.int 1), (.ref x3)] 11 = mkF m 0 #[vR x0, vI 0, vI 1, vR x3, .unset, .unset, .unset, .unset, .unset, .unset, .unset] [] := by first | (simp [entryFrame, mkF, argsToLocals, Value.category]; done) | rfl
theorem d27_164 : decode c27 164 = .ok (.aload_n 0, 1) := by decide +kernel
theorem d27_165 : decode c27 165 = .ok (.getfield 28, 3) := by decide +kernel
theorem d27_168 : decode c27 168 = .ok (.iload 4, 2) := by decide +kernel
theorem d27_170 : decode c27 170 = .ok (.iaload, 1) := by decide +kernel
theorem d27_171 : decode c27 171 = .ok (.aload_n 0, 1) := by decide +kernel
theorem d27_172 : decode c27 172 = .ok (.getfield 31, 3) := by decide +kernel
theorem d27_175 : decode c27 175 = .ok (.iload 4, 2) := by decide +kernel
theorem d27_177 : decode c27 177 = .ok (.iaload, 1) := by decide +kernel
theorem d27_178 : decode c27 178 = .ok (.invokestatic 63, 3) := by decide +kernel
theorem d27_181 : decode c27 181 = .ok (.istore 8, 2) := by decide +kernel
theorem d27_183 : decode c27 183 = .ok (.aload_n 0, 1) := by decide +kernel
theorem d27_184 : decode c27 184 = .ok (.getfield 17, 3) := by decide +kernel
theorem d27_187 : decode c27 187 = .ok (.iload_n 1, 1) := by decide +kernel
theorem d27_188 : decode c27 188 = .ok (.aaload, 1) := by decide +kernel
theorem d27_189 : decode c27 189 = .ok (.astore 9, 2) := by decide +kernel
theorem d27_191 : decode c27 191 = .ok (.iload 4, 2) := by decide +kernel
theorem d27_193 : decode c27 193 = .ok (.istore 10, 2) := by decide +kernel
theorem d27_195 : decode c27 195 = .ok (.iload 10, 2) := by decide +kernel
theorem d27_197 : decode c27 197 = .ok (.iload_n 2, 1) := by decide +kernel
theorem d27_198 : decode c27 198 = .ok (.aload_n 0, 1) := by decide +kernel
theorem d27_199 : decode c27 199 = .ok (.getfield 21, 3) := by decide +kernel
theorem d27_202 : decode c27 202 = .ok (.imul, 1) := by decide +kernel
theorem d27_203 : decode c27 203 = .ok (.if_icmp .ge 30, 3) := by decide +kernel
theorem d27_206 : decode c27 206 = .ok (.aload 9, 2) := by decide +kernel
theorem d27_208 : decode c27 208 = .ok (.iload 10, 2) := by decide +kernel
theorem d27_210 : decode c27 210 = .ok (.dup2, 1) := by decide +kernel
theorem d27_211 : decode c27 211 = .ok (.caload, 1) := by decide +kernel
theorem d27_212 : decode c27 212 = .ok (.iload 5, 2) := by decide +kernel
theorem d27_214 : decode c27 214 = .ok (.iload 8, 2) := by decide +kernel
theorem d27_216 : decode c27 216 = .ok (.isub, 1) := by decide +kernel
theorem d27_217 : decode c27 217 = .ok (.i2c, 1) := by decide +kernel
theorem d27_218 : decode c27 218 = .ok (.iadd, 1) := by decide +kernel
theorem d27_219 : decode c27 219 = .ok (.i2c, 1) := by decide +kernel
theorem d27_220 : decode c27 220 = .ok (.castore, 1) := by decide +kernel
theorem d27_221 : decode c27 221 = .ok (.iload 10, 2) := by decide +kernel
theorem d27_223 : decode c27 223 = .ok (.aload_n 0, 1) := by decide +kernel
theorem d27_224 : decode c27 224 = .ok (.getfield 21, 3) := by decide +kernel
theorem d27_227 : decode c27 227 = .ok (.iadd, 1) := by decide +kernel
theorem d27_228 : decode c27 228 = .ok (.istore 10, 2) := by decide +kernel
theorem d27_230 : decode c27 230 = .ok (.goto (-35), 3) := by decide +kernel
theorem d27_233 : decode c27 233 = .ok (.aload_n 0, 1) := by decide +kernel
theorem d27_234 : decode c27 234 = .ok (.getfield 25, 3) := by decide +kernel
theorem d27_237 : decode c27 237 = .ok (.iload_n 1, 1) := by decide +kernel
theorem d27_238 : decode c27 238 = .ok (.aload_n 0, 1) := by decide +kernel
theorem d27_239 : decode c27 239 = .ok (.getfield 21, 3) := by decide +kernel
theorem d27_242 : decode c27 242 = .ok (.imul, 1) := by decide +kernel
theorem d27_243 : decode c27 243 = .ok (.iload 4, 2) := by decide +kernel
theorem d27_245 : decode c27 245 = .ok (.iadd, 1) := by decide +kernel
theorem d27_246 : decode c27 246 = .ok (.iload 8, 2) := by decide +kernel
theorem d27_248 : decode c27 248 = .ok (.iastore, 1) := by decide +kernel
theorem ef_fit1_2 (m : MethodId) (x0 : Addr) (x3 : Addr) : entryFrame m #[(.ref x0), (.int 0), (.int 2), (.ref x3)] 11 = mkF m 0 #[vR x0, vI 0, vI 2, vR x3, .unset, .unset, .unset, .unset, .unset, .unset, .unset] [] := by first | (simp [entryFrame, mkF, argsToLocals, Value.category]; done) | rfl
theorem ef_get1N (m : MethodId) (x0 : Addr) (x1 : Int32) (x2 : Int32) : entryFrame m #[(.ref x0), (.int x1), (.int x2)] 6 = mkF m 0 #[vR x0, vI x1, vI x2, .unset, .unset, .unset] [] := by first | (simp [entryFrame, mkF, argsToLocals, Value.category]; done) | rfl
abbrev c37 := prog_48_method_3_code
theorem d37_0 : decode c37 0 = .ok (.iload_n 1, 1) := by decide +kernel
theorem d37_1 : decode c37 1 = .ok (.getstatic 37, 3) := by decide +kernel
theorem d37_4 : decode c37 4 = .ok (.iushr, 1) := by decide +kernel
theorem d37_5 : decode c37 5 = .ok (.istore_n 3, 1) := by decide +kernel
theorem d37_6 : decode c37 6 = .ok (.iload_n 1, 1) := by decide +kernel
theorem d37_7 : decode c37 7 = .ok (.sipush 4095, 3) := by decide +kernel
theorem d37_10 : decode c37 10 = .ok (.iand, 1) := by decide +kernel
theorem d37_11 : decode c37 11 = .ok (.aload_n 0, 1) := by decide +kernel
theorem d37_12 : decode c37 12 = .ok (.getfield 21, 3) := by decide +kernel
theorem d37_15 : decode c37 15 = .ok (.imul, 1) := by decide +kernel
theorem d37_16 : decode c37 16 = .ok (.iload_n 2, 1) := by decide +kernel
theorem d37_17 : decode c37 17 = .ok (.iadd, 1) := by decide +kernel
theorem d37_18 : decode c37 18 = .ok (.istore 4, 2) := by decide +kernel
theorem d37_20 : decode c37 20 = .ok (.aload_n 0, 1) := by decide +kernel
theorem d37_21 : decode c37 21 = .ok (.getfield 17, 3) := by decide +kernel
theorem d37_24 : decode c37 24 = .ok (.iload_n 3, 1) := by decide +kernel
theorem d37_25 : decode c37 25 = .ok (.aaload, 1) := by decide +kernel
theorem d37_26 : decode c37 26 = .ok (.astore 5, 2) := by decide +kernel
theorem d37_28 : decode c37 28 = .ok (.aload 5, 2) := by decide +kernel
theorem d37_30 : decode c37 30 = .ok (.ifnull 25, 3) := by decide +kernel
theorem d37_33 : decode c37 33 = .ok (.aload_n 0, 1) := by decide +kernel
theorem d37_34 : decode c37 34 = .ok (.getfield 25, 3) := by decide +kernel
theorem d37_37 : decode c37 37 = .ok (.iload_n 3, 1) := by decide +kernel
theorem d37_38 : decode c37 38 = .ok (.aload_n 0, 1) := by decide +kernel
theorem d37_39 : decode c37 39 = .ok (.getfield 21, 3) := by decide +kernel
theorem d37_42 : decode c37 42 = .ok (.imul, 1) := by decide +kernel
theorem d37_43 : decode c37 43 = .ok (.iload_n 2, 1) := by decide +kernel
theorem d37_44 : decode c37 44 = .ok (.iadd, 1) := by decide +kernel
theorem d37_45 : decode c37 45 = .ok (.iaload, 1) := by decide +kernel
theorem d37_46 : decode c37 46 = .ok (.aload 5, 2) := by decide +kernel
theorem d37_48 : decode c37 48 = .ok (.iload 4, 2) := by decide +kernel
theorem d37_50 : decode c37 50 = .ok (.caload, 1) := by decide +kernel
theorem d37_51 : decode c37 51 = .ok (.iadd, 1) := by decide +kernel
theorem d37_52 : decode c37 52 = .ok (.goto 12, 3) := by decide +kernel
theorem d37_64 : decode c37 64 = .ok (.ireturn, 1) := by decide +kernel
theorem ef_get1W (m : MethodId) (x0 : Addr) (x1 : Int32) (x2 : Int32) : entryFrame m #[(.ref x0), (.int x1), (.int x2)] 6 = mkF m 0 #[vR x0, vI x1, vI x2, .unset, .unset, .unset] [] := by first | (simp [entryFrame, mkF, argsToLocals, Value.category]; done) | rfl
theorem d37_55 : decode c37 55 = .ok (.aload_n 0, 1) := by decide +kernel
theorem d37_56 : decode c37 56 = .ok (.getfield 9, 3) := by decide +kernel
theorem d37_59 : decode c37 59 = .ok (.iload_n 3, 1) := by decide +kernel
theorem d37_60 : decode c37 60 = .ok (.aaload, 1) := by decide +kernel
theorem d37_61 : decode c37 61 = .ok (.iload 4, 2) := by decide +kernel
theorem d37_63 : decode c37 63 = .ok (.iaload, 1) := by decide +kernel
theorem ef_widen1_1 (m : MethodId) (x0 : Addr) : entryFrame m #[(.ref x0), (.int 0), (.int 1)] 6 = mkF m 0 #[vR x0, vI 0, vI 1, .unset, .unset, .unset] [] := by first | (simp [entryFrame, mkF, argsToLocals, Value.category]; done) | rfl
abbrev c36 := prog_48_method_9_code
theorem d36_0 : decode c36 0 = .ok (.aload_n 0, 1) := by decide +kernel
theorem d36_1 : decode c36 1 = .ok (.getfield 17, 3) := by decide +kernel
theorem d36_4 : decode c36 4 = .ok (.iload_n 1, 1) := by decide +kernel
theorem d36_5 : decode c36 5 = .ok (.aaload, 1) := by decide +kernel
theorem d36_6 : decode c36 6 = .ok (.arraylength, 1) := by decide +kernel
theorem d36_7 : decode c36 7 = .ok (.newarray .int, 2) := by decide +kernel
theorem d36_9 : decode c36 9 = .ok (.astore_n 3, 1) := by decide +kernel
theorem d36_10 : decode c36 10 = .ok (.iconst 0, 1) := by decide +kernel
theorem d36_11 : decode c36 11 = .ok (.istore 4, 2) := by decide +kernel
theorem d36_13 : decode c36 13 = .ok (.iload 4, 2) := by decide +kernel
theorem d36_15 : decode c36 15 = .ok (.iload_n 2, 1) := by decide +kernel
theorem d36_16 : decode c36 16 = .ok (.if_icmp .ge 53, 3) := by decide +kernel
theorem d36_19 : decode c36 19 = .ok (.iconst 0, 1) := by decide +kernel
theorem d36_20 : decode c36 20 = .ok (.istore 5, 2) := by decide +kernel
theorem d36_22 : decode c36 22 = .ok (.iload 5, 2) := by decide +kernel
theorem d36_24 : decode c36 24 = .ok (.aload_n 0, 1) := by decide +kernel
theorem d36_25 : decode c36 25 = .ok (.getfield 21, 3) := by decide +kernel
theorem d36_28 : decode c36 28 = .ok (.if_icmp .ge 35, 3) := by decide +kernel
theorem d36_31 : decode c36 31 = .ok (.aload_n 3, 1) := by decide +kernel
theorem d36_32 : decode c36 32 = .ok (.iload 4, 2) := by decide +kernel
theorem d36_34 : decode c36 34 = .ok (.aload_n 0, 1) := by decide +kernel
theorem d36_35 : decode c36 35 = .ok (.getfield 21, 3) := by decide +kernel
theorem d36_38 : decode c36 38 = .ok (.imul, 1) := by decide +kernel
theorem d36_39 : decode c36 39 = .ok (.iload 5, 2) := by decide +kernel
theorem d36_41 : decode c36 41 = .ok (.iadd, 1) := by decide +kernel
theorem d36_42 : decode c36 42 = .ok (.aload_n 0, 1) := by decide +kernel
theorem d36_43 : decode c36 43 = .ok (.iload_n 1, 1) := by decide +kernel
theorem d36_44 : decode c36 44 = .ok (.sipush 4096, 3) := by decide +kernel
theorem d36_47 : decode c36 47 = .ok (.imul, 1) := by decide +kernel
theorem d36_48 : decode c36 48 = .ok (.iload 4, 2) := by decide +kernel
theorem d36_50 : decode c36 50 = .ok (.iadd, 1) := by decide +kernel
theorem d36_51 : decode c36 51 = .ok (.iload 5, 2) := by decide +kernel
theorem d36_53 : decode c36 53 = .ok (.invokevirtual 100, 3) := by decide +kernel
theorem d36_56 : decode c36 56 = .ok (.iastore, 1) := by decide +kernel
theorem d36_57 : decode c36 57 = .ok (.iinc 5 1, 3) := by decide +kernel
theorem d36_60 : decode c36 60 = .ok (.goto (-38), 3) := by decide +kernel
theorem d36_63 : decode c36 63 = .ok (.iinc 4 1, 3) := by decide +kernel
theorem d36_66 : decode c36 66 = .ok (.goto (-53), 3) := by decide +kernel
theorem d36_69 : decode c36 69 = .ok (.aload_n 0, 1) := by decide +kernel
theorem d36_70 : decode c36 70 = .ok (.getfield 9, 3) := by decide +kernel
theorem d36_73 : decode c36 73 = .ok (.iload_n 1, 1) := by decide +kernel
theorem d36_74 : decode c36 74 = .ok (.aload_n 3, 1) := by decide +kernel
theorem d36_75 : decode c36 75 = .ok (.aastore, 1) := by decide +kernel
theorem d36_76 : decode c36 76 = .ok (.aload_n 0, 1) := by decide +kernel
theorem d36_77 : decode c36 77 = .ok (.getfield 17, 3) := by decide +kernel
theorem d36_80 : decode c36 80 = .ok (.iload_n 1, 1) := by decide +kernel
theorem d36_81 : decode c36 81 = .ok (.aconst_null, 1) := by decide +kernel
theorem d36_82 : decode c36 82 = .ok (.aastore, 1) := by decide +kernel
theorem d36_83 : decode c36 83 = .ok (.return_, 1) := by decide +kernel
theorem ef_fitW1_1 (m : MethodId) (x0 : Addr) (x3 : Addr) : entryFrame m #[(.ref x0), (.int 0), (.int 1), (.ref x3)] 11 = mkF m 0 #[vR x0, vI 0, vI 1, vR x3, .unset, .unset, .unset, .unset, .unset, .unset, .unset] [] := by first | (simp [entryFrame, mkF, argsToLocals, Value.category]; done) | rfl
theorem d27_54 : decode c27 54 = .ok (.aload_n 0, 1) := by decide +kernel
theorem d27_55 : decode c27 55 = .ok (.iload_n 1, 1) := by decide +kernel
theorem d27_56 : decode c27 56 = .ok (.iload_n 2, 1) := by decide +kernel
theorem d27_57 : decode c27 57 = .ok (.invokevirtual 86, 3) := by decide +kernel
theorem pd__II_V_5 : parseMethodDescriptor "(II)V" = some ⟨[.int, .int], none⟩ := by decide +kernel
theorem d27_60 : decode c27 60 = .ok (.return_, 1) := by decide +kernel
theorem ef_widen1_2 (m : MethodId) (x0 : Addr) : entryFrame m #[(.ref x0), (.int 0), (.int 2)] 6 = mkF m 0 #[vR x0, vI 0, vI 2, .unset, .unset, .unset] [] := by first | (simp [entryFrame, mkF, argsToLocals, Value.category]; done) | rfl
theorem ef_fitW1_2 (m : MethodId) (x0 : Addr) (x3 : Addr) : entryFrame m #[(.ref x0), (.int 0), (.int 2), (.ref x3)] 11 = mkF m 0 #[vR x0, vI 0, vI 2, vR x3, .unset, .unset, .unset, .unset, .unset, .unset, .unset] [] := by first | (simp [entryFrame, mkF, argsToLocals, Value.category]; done) | rfl
theorem ef_add1N0 (m : MethodId) (x0 : Addr) (x1 : Addr) : entryFrame m #[(.ref x0), (.ref x1)] 7 = mkF m 0 #[vR x0, vR x1, .unset, .unset, .unset, .unset, .unset] [] := by first | (simp [entryFrame, mkF, argsToLocals, Value.category]; done) | rfl
abbrev c21 := prog_48_method_4_code
theorem d21_0 : decode c21 0 = .ok (.aload_n 0, 1) := by decide +kernel
theorem d21_1 : decode c21 1 = .ok (.getfield 34, 3) := by decide +kernel
theorem d21_4 : decode c21 4 = .ok (.getstatic 37, 3) := by decide +kernel
theorem d21_7 : decode c21 7 = .ok (.iushr, 1) := by decide +kernel
theorem d21_8 : decode c21 8 = .ok (.istore_n 2, 1) := by decide +kernel
theorem d21_9 : decode c21 9 = .ok (.aload_n 0, 1) := by decide +kernel
theorem d21_10 : decode c21 10 = .ok (.getfield 34, 3) := by decide +kernel
theorem d21_13 : decode c21 13 = .ok (.sipush 4095, 3) := by decide +kernel
theorem d21_16 : decode c21 16 = .ok (.iand, 1) := by decide +kernel
theorem d21_17 : decode c21 17 = .ok (.istore_n 3, 1) := by decide +kernel
theorem d21_18 : decode c21 18 = .ok (.iload_n 3, 1) := by decide +kernel
theorem d21_19 : decode c21 19 = .ok (.ifCond .ne 9, 3) := by decide +kernel
theorem d21_22 : decode c21 22 = .ok (.aload_n 0, 1) := by decide +kernel
theorem d21_23 : decode c21 23 = .ok (.iload_n 2, 1) := by decide +kernel
theorem d21_24 : decode c21 24 = .ok (.aload_n 1, 1) := by decide +kernel
theorem d21_25 : decode c21 25 = .ok (.invokevirtual 40, 3) := by decide +kernel
theorem pd__I_I_V_6 : parseMethodDescriptor "(I[I)V" = some ⟨[.int, (.array .int)], none⟩ := by decide +kernel
theorem d21_28 : decode c21 28 = .ok (.aload_n 0, 1) := by decide +kernel
theorem d21_29 : decode c21 29 = .ok (.iload_n 2, 1) := by decide +kernel
theorem d21_30 : decode c21 30 = .ok (.iload_n 3, 1) := by decide +kernel
theorem d21_31 : decode c21 31 = .ok (.invokevirtual 44, 3) := by decide +kernel
theorem d21_34 : decode c21 34 = .ok (.aload_n 0, 1) := by decide +kernel
theorem d21_35 : decode c21 35 = .ok (.getfield 17, 3) := by decide +kernel
theorem d21_38 : decode c21 38 = .ok (.iload_n 2, 1) := by decide +kernel
theorem d21_39 : decode c21 39 = .ok (.aaload, 1) := by decide +kernel
theorem d21_40 : decode c21 40 = .ok (.ifnull 10, 3) := by decide +kernel
theorem d21_43 : decode c21 43 = .ok (.aload_n 0, 1) := by decide +kernel
theorem d21_44 : decode c21 44 = .ok (.iload_n 2, 1) := by decide +kernel
theorem d21_45 : decode c21 45 = .ok (.iload_n 3, 1) := by decide +kernel
theorem d21_46 : decode c21 46 = .ok (.aload_n 1, 1) := by decide +kernel
theorem d21_47 : decode c21 47 = .ok (.invokevirtual 48, 3) := by decide +kernel
theorem pd__II_I_V_7 : parseMethodDescriptor "(II[I)V" = some ⟨[.int, .int, (.array .int)], none⟩ := by decide +kernel
theorem d21_50 : decode c21 50 = .ok (.iload_n 3, 1) := by decide +kernel
theorem d21_51 : decode c21 51 = .ok (.aload_n 0, 1) := by decide +kernel
theorem d21_52 : decode c21 52 = .ok (.getfield 21, 3) := by decide +kernel
theorem d21_55 : decode c21 55 = .ok (.imul, 1) := by decide +kernel
theorem d21_56 : decode c21 56 = .ok (.istore 4, 2) := by decide +kernel
theorem d21_58 : decode c21 58 = .ok (.aload_n 0, 1) := by decide +kernel
theorem d21_59 : decode c21 59 = .ok (.getfield 17, 3) := by decide +kernel
theorem d21_62 : decode c21 62 = .ok (.iload_n 2, 1) := by decide +kernel
theorem d21_63 : decode c21 63 = .ok (.aaload, 1) := by decide +kernel
theorem d21_64 : decode c21 64 = .ok (.astore 5, 2) := by decide +kernel
theorem d21_66 : decode c21 66 = .ok (.iconst 0, 1) := by decide +kernel
theorem d21_67 : decode c21 67 = .ok (.istore 6, 2) := by decide +kernel
theorem d21_69 : decode c21 69 = .ok (.iload 6, 2) := by decide +kernel
theorem d21_71 : decode c21 71 = .ok (.aload_n 0, 1) := by decide +kernel
theorem d21_72 : decode c21 72 = .ok (.getfield 21, 3) := by decide +kernel
theorem d21_75 : decode c21 75 = .ok (.if_icmp .ge 61, 3) := by decide +kernel
theorem d21_78 : decode c21 78 = .ok (.aload 5, 2) := by decide +kernel
theorem d21_80 : decode c21 80 = .ok (.ifnull 34, 3) := by decide +kernel
theorem d21_83 : decode c21 83 = .ok (.aload 5, 2) := by decide +kernel
theorem d21_85 : decode c21 85 = .ok (.iload 4, 2) := by decide +kernel
theorem d21_87 : decode c21 87 = .ok (.iload 6, 2) := by decide +kernel
theorem d21_89 : decode c21 89 = .ok (.iadd, 1) := by decide +kernel
theorem d21_90 : decode c21 90 = .ok (.aload_n 1, 1) := by decide +kernel
theorem d21_91 : decode c21 91 = .ok (.iload 6, 2) := by decide +kernel
theorem d21_93 : decode c21 93 = .ok (.iaload, 1) := by decide +kernel
theorem d21_94 : decode c21 94 = .ok (.aload_n 0, 1) := by decide +kernel
theorem d21_95 : decode c21 95 = .ok (.getfield 25, 3) := by decide +kernel
theorem d21_98 : decode c21 98 = .ok (.iload_n 2, 1) := by decide +kernel
theorem d21_99 : decode c21 99 = .ok (.aload_n 0, 1) := by decide +kernel
theorem d21_100 : decode c21 100 = .ok (.getfield 21, 3) := by decide +kernel
theorem d21_103 : decode c21 103 = .ok (.imul, 1) := by decide +kernel
theorem d21_104 : decode c21 104 = .ok (.iload 6, 2) := by decide +kernel
theorem d21_106 : decode c21 106 = .ok (.iadd, 1) := by decide +kernel
theorem d21_107 : decode c21 107 = .ok (.iaload, 1) := by decide +kernel
theorem d21_108 : decode c21 108 = .ok (.isub, 1) := by decide +kernel
theorem d21_109 : decode c21 109 = .ok (.i2c, 1) := by decide +kernel
theorem d21_110 : decode c21 110 = .ok (.castore, 1) := by decide +kernel
theorem d21_111 : decode c21 111 = .ok (.goto 19, 3) := by decide +kernel
theorem d21_130 : decode c21 130 = .ok (.iinc 6 1, 3) := by decide +kernel
theorem d21_133 : decode c21 133 = .ok (.goto (-64), 3) := by decide +kernel
theorem d21_136 : decode c21 136 = .ok (.aload_n 0, 1) := by decide +kernel
theorem d21_137 : decode c21 137 = .ok (.dup, 1) := by decide +kernel
theorem d21_138 : decode c21 138 = .ok (.getfield 34, 3) := by decide +kernel
theorem d21_141 : decode c21 141 = .ok (.iconst 1, 1) := by decide +kernel
theorem d21_142 : decode c21 142 = .ok (.iadd, 1) := by decide +kernel
theorem d21_143 : decode c21 143 = .ok (.putfield 34, 3) := by decide +kernel
theorem d21_146 : decode c21 146 = .ok (.return_, 1) := by decide +kernel
theorem ef_add1N1 (m : MethodId) (x0 : Addr) (x1 : Addr) : entryFrame m #[(.ref x0), (.ref x1)] 7 = mkF m 0 #[vR x0, vR x1, .unset, .unset, .unset, .unset, .unset] [] := by first | (simp [entryFrame, mkF, argsToLocals, Value.category]; done) | rfl
theorem ef_add1N2 (m : MethodId) (x0 : Addr) (x1 : Addr) : entryFrame m #[(.ref x0), (.ref x1)] 7 = mkF m 0 #[vR x0, vR x1, .unset, .unset, .unset, .unset, .unset] [] := by first | (simp [entryFrame, mkF, argsToLocals, Value.category]; done) | rfl
theorem ef_add1W1 (m : MethodId) (x0 : Addr) (x1 : Addr) : entryFrame m #[(.ref x0), (.ref x1)] 7 = mkF m 0 #[vR x0, vR x1, .unset, .unset, .unset, .unset, .unset] [] := by first | (simp [entryFrame, mkF, argsToLocals, Value.category]; done) | rfl
theorem d21_114 : decode c21 114 = .ok (.aload_n 0, 1) := by decide +kernel
theorem d21_115 : decode c21 115 = .ok (.getfield 9, 3) := by decide +kernel
theorem d21_118 : decode c21 118 = .ok (.iload_n 2, 1) := by decide +kernel
theorem d21_119 : decode c21 119 = .ok (.aaload, 1) := by decide +kernel
theorem d21_120 : decode c21 120 = .ok (.iload 4, 2) := by decide +kernel
theorem d21_122 : decode c21 122 = .ok (.iload 6, 2) := by decide +kernel
theorem d21_124 : decode c21 124 = .ok (.iadd, 1) := by decide +kernel
theorem d21_125 : decode c21 125 = .ok (.aload_n 1, 1) := by decide +kernel
theorem d21_126 : decode c21 126 = .ok (.iload 6, 2) := by decide +kernel
theorem d21_128 : decode c21 128 = .ok (.iaload, 1) := by decide +kernel
theorem d21_129 : decode c21 129 = .ok (.iastore, 1) := by decide +kernel
theorem ef_add1W2 (m : MethodId) (x0 : Addr) (x1 : Addr) : entryFrame m #[(.ref x0), (.ref x1)] 7 = mkF m 0 #[vR x0, vR x1, .unset, .unset, .unset, .unset, .unset] [] := by first | (simp [entryFrame, mkF, argsToLocals, Value.category]; done) | rfl
theorem ef_add1WW2 (m : MethodId) (x0 : Addr) (x1 : Addr) : entryFrame m #[(.ref x0), (.ref x1)] 7 = mkF m 0 #[vR x0, vR x1, .unset, .unset, .unset, .unset, .unset] [] := by first | (simp [entryFrame, mkF, argsToLocals, Value.category]; done) | rfl
theorem pn_RelationStartRoundFromPinLaw : plainName "com/example/chaseward/chaseward/engine/RelationStartRoundFromPinLaw" = true := by first | (simp [plainName, overriddenIn]; done) | decide +kernel
theorem ef_law (m : MethodId) (x0 : Int32) (x1 : Int32) (x2 : Int32) (x3 : Int32) : entryFrame m #[(.int x0), (.int x1), (.int x2), (.int x3)] maxLocals = mkF m 0 #[vI x0, vI x1, vI x2, vI x3, .unset, .unset, .unset, .unset, .unset, .unset, .unset, .unset] [] := by first | (simp [entryFrame, mkF, argsToLocals, Value.category, maxLocals]; done) | rfl
theorem pd___I_Z_5 : parseMethodDescriptor "([I)Z" = some ⟨[(.array .int)], some .boolean⟩ := by decide +kernel
theorem pd___I_3 : parseMethodDescriptor "()I" = some ⟨[], some .int⟩ := by decide +kernel
def f_maxI (p1 : Int32) (p2 : Int32) : Int32 := (if p1 < p2 then p2 else p1)
set_option maxRecDepth 65536 in
set_option maxHeartbeats 40000000 in
theorem rm_maxI (l : Launch) (Z : State) (a0 : Array Value) (hw : ∀ d ∈ tables_1, d.before a0 Z = true) (ws : List Jvm.Cond) (wDE : Addr) (p1 p2 : Int32) (h0 : Heap) (n0 : Nat) (Z0 : n0 ≤ h0.size) (S_wDE : Sta Z Z.heap "java/util/ArrayList" "DEFAULTCAPACITY_EMPTY_ELEMENTDATA" "[Ljava/lang/Object;" (.ref wDE)) (O0 : Old Z n0 h0) (S_CS : Sta Z Z.heap cRV "CHUNK_SHIFT" "I" (.int (12 : Int32))) :
    MetFree l (⟨"java/lang/Math", "max", "(II)I"⟩ : MethodName) (head1 (Jvm.Cond.code (⟨"java/lang/Math", "max", "(II)I"⟩ : MethodName) jdk_29_method_65_code 2 (some .int) :: ws) ({ frames := 0, cells := 0, slots := 0, locals := 0 } : Room)) (fun a U => a = #[(.int p1), (.int p2)] ∧ Z.Warmed39 U.vm ∧ U.heap = h0) (fun _ _ _ _ _ => True) (fun _ U o U' => ∃ v L, o = .returned v ∧ PureQ (some (.int (f_maxI p1 p2))) h0 n0 v U'.heap L ∧ FrameEnd U o U' L ({ frames := 0, cells := 0, slots := 0, locals := 0 } : Room).cells ({ frames := 0, cells := 0, slots := 0, locals := 0 } : Room).slots) := by
  refine MetFree.of_bodySF (Jvm.Free.JP.mathPlain rfl (by decide +kernel)) hisR ?_
  intro p e s m args below meth c s₁ Bd hml0 hP hK
  obtain ⟨rfl, hZ, hh⟩ := hP
  have hx := Bd.exec
  have hby := Bd.bytes
  have bb := fun {pc : Nat} {r : Except DecodeError (Instr × Nat)} (h : decode jdk_29_method_65_code pc = r) => hb hby h
  have ww := fun (i : Nat) {d : Jvm.Cond} (h : tables_1[i]? = some d) => hw d (List.mem_of_getElem? h)
  have hml : c.maxLocals = 2 := hml0
  have hown : s.vm.findClass "java/lang/Math" = some m.cls := findClass_of_methodNamed Bd.named
  have hnm := (name_of_methodNamed Bd.named Bd.method).1
  have X0 : Stand p l e ({ frames := 0, cells := 0, slots := 0, locals := 0 } : Room) s m #[(.int p1), (.int p2)] below meth c s₁ [] 0 0 := Stand.of_body Bd
  have e0 : s₁.heap = h0 := by rw [← hh, Bd.state]; rfl
  have N0 := Fr.nil n0
  have pre0 : ∀ t, Steps p.tables e below (s₁.setTop (mkF m 0 #[vI p1, vI p2] [])) t → Steps p.tables e below (s₁.setTop (entryFrame m #[(.int p1), (.int p2)] 2)) t := fun t k => castTop (ef_maxI m p1 p2) k
  have pre1 : ∀ t, GG p e below s₁ (mkF m 2 #[vI p1, vI p2] [(.int p2), (.int p1)]) t → GG p e below s₁ (entryFrame m #[(.int p1), (.int p2)] 2) t := fun t k => pre0 t (by
      show GG p e below s₁ (mkF m 0 #[vI p1, vI p2] []) _
      refine XS.iloadN X0.here hx rfl (bb d28_0) rfl ?_
      refine XS.iloadN X0.here hx rfl (bb d28_1) rfl ?_
      exact k)
  by_cases g2 : p1 < p2
  · skip
    obtain ⟨fs, hr, hrun, hended, hW, hsame⟩ := X0.leave (v := some (.int p2)) (fun h => by rw [Bd.returns] at h; cases h)
    refine ⟨_, _, pre1 _ ?_, hrun, hended, _, _, rfl, ?_, ⟨_, rfl⟩, hW, hsame.mono (by decide) (by decide)⟩
    · show GG p e below s₁ (mkF m 2 #[vI p1, vI p2] [(.int p2), (.int p1)]) _
      refine XS.icmpYes X0.here hx rfl (pc0 := 2) (pc' := 9) rfl (bb d28_2) rfl (tlt g2).1 (by decide) (by decide) ?_
      refine XS.iloadN X0.here hx rfl (bb d28_9) rfl ?_
      exact retI X0 hx Bd.returns (bb d28_10) hr
    · exact ⟨by simp only [f_maxI, if_pos g2], N0, e0⟩
  · skip
    obtain ⟨fs, hr, hrun, hended, hW, hsame⟩ := X0.leave (v := some (.int p1)) (fun h => by rw [Bd.returns] at h; cases h)
    refine ⟨_, _, pre1 _ ?_, hrun, hended, _, _, rfl, ?_, ⟨_, rfl⟩, hW, hsame.mono (by decide) (by decide)⟩
    · show GG p e below s₁ (mkF m 2 #[vI p1, vI p2] [(.int p2), (.int p1)]) _
      refine XS.icmpNo X0.here hx rfl (bb d28_2) rfl (flt g2).1 ?_
      refine XS.iloadN X0.here hx rfl (bb d28_5) rfl ?_
      refine XS.goto X0.here hx rfl (pc0 := 6) (pc' := 10) rfl (bb d28_6) (by decide) (by decide) ?_
      exact retI X0 hx Bd.returns (bb d28_10) hr
    · exact ⟨by simp only [f_maxI, if_neg g2], N0, e0⟩
def f_minI (p1 : Int32) (p2 : Int32) : Int32 := (if p2 < p1 then p2 else p1)
set_option maxRecDepth 65536 in
set_option maxHeartbeats 40000000 in
theorem rm_minI (l : Launch) (Z : State) (a0 : Array Value) (hw : ∀ d ∈ tables_1, d.before a0 Z = true) (ws : List Jvm.Cond) (wDE : Addr) (p1 p2 : Int32) (h0 : Heap) (n0 : Nat) (Z0 : n0 ≤ h0.size) (S_wDE : Sta Z Z.heap "java/util/ArrayList" "DEFAULTCAPACITY_EMPTY_ELEMENTDATA" "[Ljava/lang/Object;" (.ref wDE)) (O0 : Old Z n0 h0) (S_CS : Sta Z Z.heap cRV "CHUNK_SHIFT" "I" (.int (12 : Int32))) :
    MetFree l (⟨"java/lang/Math", "min", "(II)I"⟩ : MethodName) (head1 (Jvm.Cond.code (⟨"java/lang/Math", "min", "(II)I"⟩ : MethodName) jdk_29_method_69_code 2 (some .int) :: ws) ({ frames := 0, cells := 0, slots := 0, locals := 0 } : Room)) (fun a U => a = #[(.int p1), (.int p2)] ∧ Z.Warmed39 U.vm ∧ U.heap = h0) (fun _ _ _ _ _ => True) (fun _ U o U' => ∃ v L, o = .returned v ∧ PureQ (some (.int (f_minI p1 p2))) h0 n0 v U'.heap L ∧ FrameEnd U o U' L ({ frames := 0, cells := 0, slots := 0, locals := 0 } : Room).cells ({ frames := 0, cells := 0, slots := 0, locals := 0 } : Room).slots) := by
  refine MetFree.of_bodySF (Jvm.Free.JP.mathPlain rfl (by decide +kernel)) hisR ?_
  intro p e s m args below meth c s₁ Bd hml0 hP hK
  obtain ⟨rfl, hZ, hh⟩ := hP
  have hx := Bd.exec
  have hby := Bd.bytes
  have bb := fun {pc : Nat} {r : Except DecodeError (Instr × Nat)} (h : decode jdk_29_method_69_code pc = r) => hb hby h
  have ww := fun (i : Nat) {d : Jvm.Cond} (h : tables_1[i]? = some d) => hw d (List.mem_of_getElem? h)
  have hml : c.maxLocals = 2 := hml0
  have hown : s.vm.findClass "java/lang/Math" = some m.cls := findClass_of_methodNamed Bd.named
  have hnm := (name_of_methodNamed Bd.named Bd.method).1
  have X0 : Stand p l e ({ frames := 0, cells := 0, slots := 0, locals := 0 } : Room) s m #[(.int p1), (.int p2)] below meth c s₁ [] 0 0 := Stand.of_body Bd
  have e0 : s₁.heap = h0 := by rw [← hh, Bd.state]; rfl
  have N0 := Fr.nil n0
  have pre0 : ∀ t, Steps p.tables e below (s₁.setTop (mkF m 0 #[vI p1, vI p2] [])) t → Steps p.tables e below (s₁.setTop (entryFrame m #[(.int p1), (.int p2)] 2)) t := fun t k => castTop (ef_minI m p1 p2) k
  have pre1 : ∀ t, GG p e below s₁ (mkF m 2 #[vI p1, vI p2] [(.int p2), (.int p1)]) t → GG p e below s₁ (entryFrame m #[(.int p1), (.int p2)] 2) t := fun t k => pre0 t (by
      show GG p e below s₁ (mkF m 0 #[vI p1, vI p2] []) _
      refine XS.iloadN X0.here hx rfl (bb d26_0) rfl ?_
      refine XS.iloadN X0.here hx rfl (bb d26_1) rfl ?_
      exact k)
  by_cases g2 : p2 < p1
  · skip
    obtain ⟨fs, hr, hrun, hended, hW, hsame⟩ := X0.leave (v := some (.int p2)) (fun h => by rw [Bd.returns] at h; cases h)
    refine ⟨_, _, pre1 _ ?_, hrun, hended, _, _, rfl, ?_, ⟨_, rfl⟩, hW, hsame.mono (by decide) (by decide)⟩
    · show GG p e below s₁ (mkF m 2 #[vI p1, vI p2] [(.int p2), (.int p1)]) _
      refine XS.icmpYes X0.here hx rfl (pc0 := 2) (pc' := 9) rfl (bb d26_2) rfl (tlt g2).2.2.1 (by decide) (by decide) ?_
      refine XS.iloadN X0.here hx rfl (bb d26_9) rfl ?_
      exact retI X0 hx Bd.returns (bb d26_10) hr
    · exact ⟨by simp only [f_minI, if_pos g2], N0, e0⟩
  · skip
    obtain ⟨fs, hr, hrun, hended, hW, hsame⟩ := X0.leave (v := some (.int p1)) (fun h => by rw [Bd.returns] at h; cases h)
    refine ⟨_, _, pre1 _ ?_, hrun, hended, _, _, rfl, ?_, ⟨_, rfl⟩, hW, hsame.mono (by decide) (by decide)⟩
    · show GG p e below s₁ (mkF m 2 #[vI p1, vI p2] [(.int p2), (.int p1)]) _
      refine XS.icmpNo X0.here hx rfl (bb d26_2) rfl (flt g2).2.2.1 ?_
      refine XS.iloadN X0.here hx rfl (bb d26_5) rfl ?_
      refine XS.goto X0.here hx rfl (pc0 := 6) (pc' := 10) rfl (bb d26_6) (by decide) (by decide) ?_
      exact retI X0 hx Bd.returns (bb d26_10) hr
    · exact ⟨by simp only [f_minI, if_neg g2], N0, e0⟩
def f_maxL (p1 : Int64) (p2 : Int64) : Int64 := (if (lcmpW p1 p2) < (0 : Int32) then p2 else p1)
set_option maxRecDepth 65536 in
set_option maxHeartbeats 40000000 in
theorem rm_maxL (l : Launch) (Z : State) (a0 : Array Value) (hw : ∀ d ∈ tables_1, d.before a0 Z = true) (ws : List Jvm.Cond) (wDE : Addr) (p1 p2 : Int64) (h0 : Heap) (n0 : Nat) (Z0 : n0 ≤ h0.size) (S_wDE : Sta Z Z.heap "java/util/ArrayList" "DEFAULTCAPACITY_EMPTY_ELEMENTDATA" "[Ljava/lang/Object;" (.ref wDE)) (O0 : Old Z n0 h0) (S_CS : Sta Z Z.heap cRV "CHUNK_SHIFT" "I" (.int (12 : Int32))) :
    MetFree l (⟨"java/lang/Math", "max", "(JJ)J"⟩ : MethodName) (head1 (Jvm.Cond.code (⟨"java/lang/Math", "max", "(JJ)J"⟩ : MethodName) jdk_29_method_66_code 4 (some .long) :: ws) ({ frames := 0, cells := 0, slots := 0, locals := 0 } : Room)) (fun a U => a = #[(.long p1), (.long p2)] ∧ Z.Warmed39 U.vm ∧ U.heap = h0) (fun _ _ _ _ _ => True) (fun _ U o U' => ∃ v L, o = .returned v ∧ PureQ (some (.long (f_maxL p1 p2))) h0 n0 v U'.heap L ∧ FrameEnd U o U' L ({ frames := 0, cells := 0, slots := 0, locals := 0 } : Room).cells ({ frames := 0, cells := 0, slots := 0, locals := 0 } : Room).slots) := by
  refine MetFree.of_bodySF (Jvm.Free.JP.mathPlain rfl (by decide +kernel)) hisR ?_
  intro p e s m args below meth c s₁ Bd hml0 hP hK
  obtain ⟨rfl, hZ, hh⟩ := hP
  have hx := Bd.exec
  have hby := Bd.bytes
  have bb := fun {pc : Nat} {r : Except DecodeError (Instr × Nat)} (h : decode jdk_29_method_66_code pc = r) => hb hby h
  have ww := fun (i : Nat) {d : Jvm.Cond} (h : tables_1[i]? = some d) => hw d (List.mem_of_getElem? h)
  have hml : c.maxLocals = 4 := hml0
  have hown : s.vm.findClass "java/lang/Math" = some m.cls := findClass_of_methodNamed Bd.named
  have hnm := (name_of_methodNamed Bd.named Bd.method).1
  have X0 : Stand p l e ({ frames := 0, cells := 0, slots := 0, locals := 0 } : Room) s m #[(.long p1), (.long p2)] below meth c s₁ [] 0 0 := Stand.of_body Bd
  have e0 : s₁.heap = h0 := by rw [← hh, Bd.state]; rfl
  have N0 := Fr.nil n0
  have pre0 : ∀ t, Steps p.tables e below (s₁.setTop (mkF m 0 #[vJ p1, .second, vJ p2, .second] [])) t → Steps p.tables e below (s₁.setTop (entryFrame m #[(.long p1), (.long p2)] 4)) t := fun t k => castTop (ef_maxL m p1 p2) k
  have pre1 : ∀ t, GG p e below s₁ (mkF m 3 #[vJ p1, .second, vJ p2, .second] [(.int (lcmpW p1 p2))]) t → GG p e below s₁ (entryFrame m #[(.long p1), (.long p2)] 4) t := fun t k => pre0 t (by
      show GG p e below s₁ (mkF m 0 #[vJ p1, .second, vJ p2, .second] []) _
      refine XS.lloadN X0.here hx rfl (bb d24_0) rfl ?_
      refine XS.lloadN X0.here hx rfl (bb d24_1) rfl ?_
      refine XS.lcmp X0.here hx rfl (bb d24_2) rfl ?_
      exact k)
  by_cases g2 : (lcmpW p1 p2) < (0 : Int32)
  · skip
    obtain ⟨fs, hr, hrun, hended, hW, hsame⟩ := X0.leave (v := some (.long p2)) (fun h => by rw [Bd.returns] at h; cases h)
    refine ⟨_, _, pre1 _ ?_, hrun, hended, _, _, rfl, ?_, ⟨_, rfl⟩, hW, hsame.mono (by decide) (by decide)⟩
    · show GG p e below s₁ (mkF m 3 #[vJ p1, .second, vJ p2, .second] [(.int (lcmpW p1 p2))]) _
      refine XS.ifYes X0.here hx rfl (pc0 := 3) (pc' := 10) rfl (bb d24_3) rfl ((if0 _ _).trans (tlt g2).1) (by decide) (by decide) ?_
      refine XS.lloadN X0.here hx rfl (bb d24_10) rfl ?_
      jvm_step X0.here [X0.here.top, hx, (bb d24_11), X0.method', Bd.returns, narrow]
      first | (intro acts; rw [hr _ acts rfl rfl rfl]) | rw [hr _ _ rfl rfl rfl]
      exact Steps.refl _
    · exact ⟨by simp only [f_maxL, if_pos g2], N0, e0⟩
  · skip
    obtain ⟨fs, hr, hrun, hended, hW, hsame⟩ := X0.leave (v := some (.long p1)) (fun h => by rw [Bd.returns] at h; cases h)
    refine ⟨_, _, pre1 _ ?_, hrun, hended, _, _, rfl, ?_, ⟨_, rfl⟩, hW, hsame.mono (by decide) (by decide)⟩
    · show GG p e below s₁ (mkF m 3 #[vJ p1, .second, vJ p2, .second] [(.int (lcmpW p1 p2))]) _
      refine XS.ifNo X0.here hx rfl (bb d24_3) rfl ((if0 _ _).trans (flt g2).1) ?_
      refine XS.lloadN X0.here hx rfl (bb d24_6) rfl ?_
      refine XS.goto X0.here hx rfl (pc0 := 7) (pc' := 11) rfl (bb d24_7) (by decide) (by decide) ?_
      jvm_step X0.here [X0.here.top, hx, (bb d24_11), X0.method', Bd.returns, narrow]
      first | (intro acts; rw [hr _ acts rfl rfl rfl]) | rw [hr _ _ rfl rfl rfl]
      exact Steps.refl _
    · exact ⟨by simp only [f_maxL, if_neg g2], N0, e0⟩
def f_base (p1 : Int32) (p2 : Int32) : Int32 := ((f_maxL (-2147483648 : Int64) ((p1.toInt64) - (((65535 : Int64) - ((p2.toInt64) - (p1.toInt64))) / (2 : Int64)))).toInt32)
set_option maxRecDepth 65536 in
set_option maxHeartbeats 40000000 in
theorem rm_base (l : Launch) (Z : State) (a0 : Array Value) (hw : ∀ d ∈ tables_1, d.before a0 Z = true) (ws : List Jvm.Cond) (wDE : Addr) (p1 p2 : Int32) (h0 : Heap) (n0 : Nat) (Z0 : n0 ≤ h0.size) (S_wDE : Sta Z Z.heap "java/util/ArrayList" "DEFAULTCAPACITY_EMPTY_ELEMENTDATA" "[Ljava/lang/Object;" (.ref wDE)) (O0 : Old Z n0 h0) (S_CS : Sta Z Z.heap cRV "CHUNK_SHIFT" "I" (.int (12 : Int32))) :
    MetFree l (⟨cRV, "base", "(II)I"⟩ : MethodName) (head1 (Jvm.Cond.code (⟨cRV, "base", "(II)I"⟩ : MethodName) prog_48_method_8_code 4 (some .int) :: ws) ({ frames := 1, cells := 0, slots := 0, locals := 15 } : Room)) (fun a U => a = #[(.int p1), (.int p2)] ∧ Z.Warmed39 U.vm ∧ U.heap = h0) (fun _ _ _ _ _ => True) (fun _ U o U' => ∃ v L, o = .returned v ∧ PureQ (some (.int (f_base p1 p2))) h0 n0 v U'.heap L ∧ FrameEnd U o U' L ({ frames := 1, cells := 0, slots := 0, locals := 15 } : Room).cells ({ frames := 1, cells := 0, slots := 0, locals := 15 } : Room).slots) := by
  refine MetFree.of_bodySF (plainFor_of_name pn_RowValues) hisR ?_
  intro p e s m args below meth c s₁ Bd hml0 hP hK
  obtain ⟨rfl, hZ, hh⟩ := hP
  have hx := Bd.exec
  have hby := Bd.bytes
  have bb := fun {pc : Nat} {r : Except DecodeError (Instr × Nat)} (h : decode prog_48_method_8_code pc = r) => hb hby h
  have ww := fun (i : Nat) {d : Jvm.Cond} (h : tables_1[i]? = some d) => hw d (List.mem_of_getElem? h)
  have hml : c.maxLocals = 4 := hml0
  have hown : s.vm.findClass cRV = some m.cls := findClass_of_methodNamed Bd.named
  have hnm := (name_of_methodNamed Bd.named Bd.method).1
  have X0 : Stand p l e ({ frames := 1, cells := 0, slots := 0, locals := 15 } : Room) s m #[(.int p1), (.int p2)] below meth c s₁ [] 0 0 := Stand.of_body Bd
  have e0 : s₁.heap = h0 := by rw [← hh, Bd.state]; rfl
  have N0 := Fr.nil n0
  have pre0 : ∀ t, Steps p.tables e below (s₁.setTop (mkF m 0 #[vI p1, vI p2, .unset, .unset] [])) t → Steps p.tables e below (s₁.setTop (entryFrame m #[(.int p1), (.int p2)] 4)) t := fun t k => castTop (ef_base m p1 p2) k
  obtain ⟨_, _, ⟨T1, L1, k1, n1⟩, -, X1, ⟨Lc1, hQ1, l1, y1, z1⟩, st1⟩ := Jvm.LawKit.callS X0 hx (y := (⟨"java/lang/Math", "max", "(JJ)J"⟩ : MethodName)) hown (mvT hZ (ww 176 rfl)) (mvT hZ (ww 177 rfl)) (mvT hZ (ww 178 rfl)) (mvT hZ (ww 179 rfl)) (by decide) (backOf (W := 0) (rm_maxL l Z a0 hw [] wDE (-2147483648 : Int64) ((p1.toInt64) - (((65535 : Int64) - ((p2.toInt64) - (p1.toInt64))) / (2 : Int64))) h0 n0 (own_z0 O0) S_wDE O0 S_CS) hZ (ww 179 rfl) (ww 178 rfl) (by decide) (by decide)) (g := (mkF m 21 #[vI p1, vI p2, vJ ((65535 : Int64) - ((p2.toInt64) - (p1.toInt64))), .second] [(.long ((p1.toInt64) - (((65535 : Int64) - ((p2.toInt64) - (p1.toInt64))) / (2 : Int64)))), (.long (-2147483648))])) rfl (by rw [hml]; rfl) (argsL := [(.long (-2147483648)), (.long ((p1.toInt64) - (((65535 : Int64) - ((p2.toInt64) - (p1.toInt64))) / (2 : Int64))))]) (rest := []) (lenOf pd__JJ_J_5 rfl) rfl (by show 2 * 0 + _ ≤ _; exact Nat.le_of_eq rfl) (bb d23_21) (fun _ _ => ⟨rfl, e0, (by decide : 0 + 0 ≤ _), (by decide : 0 + 0 ≤ _)⟩)
  dsimp only [Pt.U, Pt.locs, Pt.cells, Pt.slots] at X1 l1 y1 z1 st1 hQ1
  subst l1 y1 z1
  obtain ⟨rfl, N1q, e1⟩ := hQ1
  have N1 := Fr.app N0 N1q
  obtain ⟨fs, hr, hrun, hended, hW, hsame⟩ := X1.leave (v := some (.int ((f_maxL (-2147483648 : Int64) ((p1.toInt64) - (((65535 : Int64) - ((p2.toInt64) - (p1.toInt64))) / (2 : Int64)))).toInt32))) (fun h => by rw [Bd.returns] at h; cases h)
  refine ⟨_, _, pre0 _ ?_, hrun, hended, _, _, rfl, ?_, ⟨_, rfl⟩, hW, hsame.mono (by decide) (by decide)⟩
  · show GG p e below s₁ (mkF m 0 #[vI p1, vI p2, .unset, .unset] []) _
    refine X0.ldc2Long hx hown (mvT hZ (ww 173 rfl)) (g := (mkF m 0 #[vI p1, vI p2, .unset, .unset] [])) rfl (bb d23_0) _ ?_
    refine XS.iloadN X0.here hx rfl (bb d23_3) rfl ?_
    refine XS.i2l X0.here hx rfl (bb d23_4) rfl ?_
    refine XS.iloadN X0.here hx rfl (bb d23_5) rfl ?_
    refine XS.i2l X0.here hx rfl (bb d23_6) rfl ?_
    refine XS.lsub X0.here hx rfl (bb d23_7) rfl ?_
    refine XS.lsub X0.here hx rfl (bb d23_8) rfl ?_
    refine XS.lstoreN X0.here hx rfl (bb d23_9) rfl (l' := #[vI p1, vI p2, vJ ((65535 : Int64) - ((p2.toInt64) - (p1.toInt64))), .second]) rfl ?_
    refine X0.ldc2Long hx hown (mvT hZ (ww 174 rfl)) (g := (mkF m 10 #[vI p1, vI p2, vJ ((65535 : Int64) - ((p2.toInt64) - (p1.toInt64))), .second] [])) rfl (bb d23_10) _ ?_
    refine XS.iloadN X0.here hx rfl (bb d23_13) rfl ?_
    refine XS.i2l X0.here hx rfl (bb d23_14) rfl ?_
    refine XS.lloadN X0.here hx rfl (bb d23_15) rfl ?_
    refine X0.ldc2Long hx hown (mvT hZ (ww 175 rfl)) (g := (mkF m 16 #[vI p1, vI p2, vJ ((65535 : Int64) - ((p2.toInt64) - (p1.toInt64))), .second] [(.long ((65535 : Int64) - ((p2.toInt64) - (p1.toInt64)))), (.long (p1.toInt64)), (.long (-2147483648))])) rfl (bb d23_16) _ ?_
    refine XS.ldiv X0.here hx rfl (bb d23_19) rfl (by decide) ?_
    refine XS.lsub X0.here hx rfl (bb d23_20) rfl ?_
    refine st1 _ ?_
    refine XS.l2i X1.here hx rfl (bb d23_24) rfl ?_
    exact retI X1 hx Bd.returns (bb d23_25) hr
  · exact ⟨by simp only [f_base], N1, e1⟩
theorem own_max (x y : Int32) : (f_maxI x y).toInt = max x.toInt y.toInt := by
  unfold f_maxI
  split
  · rename_i h; rw [Int32.lt_iff_toInt_lt] at h; omega
  · rename_i h; rw [Int32.lt_iff_toInt_lt] at h; omega
theorem own_min (x y : Int32) : (f_minI x y).toInt = min x.toInt y.toInt := by
  unfold f_minI
  split
  · rename_i h; rw [Int32.lt_iff_toInt_lt] at h; omega
  · rename_i h; rw [Int32.lt_iff_toInt_lt] at h; omega
theorem own_maxS (x : Int32) : f_maxI x x = x := by unfold f_maxI; split <;> rfl
theorem own_minS (x : Int32) : f_minI x x = x := by unfold f_minI; split <;> rfl
theorem own_base {l u : Int32} (h0 : l.toInt ≤ u.toInt) (h : u.toInt - l.toInt < 65536) : (f_base l u).toInt ≤ l.toInt ∧ u.toInt < (f_base l u).toInt + 65536 := by
  unfold f_base f_maxL
  have rl := rng32 l
  have ru := rng32 u
  have el := c_i2l l
  have eu := c_i2l u
  have k1 : (65535 : Int64).toInt = 65535 := rfl
  have k2 : (-2147483648 : Int64).toInt = -2147483648 := rfl
  have a1 := c_lsub u.toInt64 l.toInt64
  have r1 := rng64 (u.toInt64 - l.toInt64)
  have a2 := c_lsub (65535 : Int64) (u.toInt64 - l.toInt64)
  have r2 := rng64 ((65535 : Int64) - (u.toInt64 - l.toInt64))
  generalize hx : ((65535 : Int64) - (u.toInt64 - l.toInt64)) = x at *
  have a3 := (c_ldiv x (2 : Int64) 2 rfl (by decide)).1 (by omega)
  have a4 := c_lsub l.toInt64 (x / 2)
  have r4 := rng64 (l.toInt64 - x / 2)
  generalize hy : (l.toInt64 - x / 2) = y at *
  split
  · rename_i g
    rw [lw_lt, Int64.lt_iff_toInt_lt] at g
    have e := c_l2i y
    have r := rng32 y.toInt32
    omega
  · rename_i g
    rw [lw_lt, Int64.lt_iff_toInt_lt] at g
    have e := c_l2i (-2147483648 : Int64)
    have r := rng32 (-2147483648 : Int64).toInt32
    omega
theorem own_dif (x y : Int32) : ((x.toInt64) - (y.toInt64)).toInt = x.toInt - y.toInt := by
  have rx := rng32 x
  have ry := rng32 y
  have ex := c_i2l x
  have ey := c_i2l y
  have a1 := c_lsub x.toInt64 y.toInt64
  have r1 := rng64 (x.toInt64 - y.toInt64)
  omega
theorem own_lt (x : Int64) (k : Int64) (K : Int) (hk : k.toInt = K) : (lcmpW x k) < (0 : Int32) ↔ x.toInt < K := by rw [lw_lt, Int64.lt_iff_toInt_lt, hk]
def nbase (b l u t : Int32) : Int32 := (if ((lcmpW ((t.toInt64) - (b.toInt64)) (0 : Int64)) < (0 : Int32)) ∨ ¬ ((lcmpW ((t.toInt64) - (b.toInt64)) (65536 : Int64)) < (0 : Int32)) then (f_base (f_minI t l) (f_maxI t u)) else b)
theorem own_sp {t l u : Int32} (h : (lcmpW (((f_maxI t u).toInt64) - ((f_minI t l).toInt64)) (65536 : Int64)) < (0 : Int32)) : (f_maxI t u).toInt - (f_minI t l).toInt < 65536 := by
  rw [own_lt _ _ 65536 rfl, own_dif] at h; exact h
theorem own_inT {b l u t : Int32} (h : (lcmpW (((f_maxI t u).toInt64) - ((f_minI t l).toInt64)) (65536 : Int64)) < (0 : Int32)) : ownIn (nbase b l u t) t := by
  have hs := own_sp h
  have m1 := own_max t u
  have m2 := own_min t l
  have q := own_base (l := f_minI t l) (u := f_maxI t u) (by omega) hs
  unfold nbase ownIn
  split
  · omega
  · rename_i g1
    rw [own_lt _ _ 0 rfl, own_lt _ _ 65536 rfl, own_dif] at g1
    omega
theorem own_inN {b l u t v : Int32} (i : ownIn b v) (j : ownBt l u v) (h : (lcmpW (((f_maxI t u).toInt64) - ((f_minI t l).toInt64)) (65536 : Int64)) < (0 : Int32)) : ownIn (nbase b l u t) v := by
  have hs := own_sp h
  have m1 := own_max t u
  have m2 := own_min t l
  obtain ⟨j1, j2⟩ := j
  have q := own_base (l := f_minI t l) (u := f_maxI t u) (by omega) hs
  unfold nbase
  split
  · unfold ownIn; omega
  · exact i
theorem own_inS (t : Int32) : ownIn (f_base t t) t := own_base (Int.le_refl _) (by omega)
theorem own_btS (t : Int32) : ownBt t t t := ⟨Int.le_refl _, Int.le_refl _⟩
theorem own_btT {l u t : Int32} : ownBt (f_minI t l) (f_maxI t u) t := by
  have m1 := own_max t u
  have m2 := own_min t l
  unfold ownBt; omega
theorem own_btN {l u t v : Int32} (j : ownBt l u v) : ownBt (f_minI t l) (f_maxI t u) v := by
  have m1 := own_max t u
  have m2 := own_min t l
  unfold ownBt at *; omega
theorem own_s0 (t : Int32) : (lcmpW (((f_maxI t t).toInt64) - ((f_minI t t).toInt64)) (65536 : Int64)) < (0 : Int32) := by rw [own_lt _ _ 65536 rfl, own_dif, own_maxS, own_minS]; omega
theorem own_d0 (t : Int32) : ¬ ((lcmpW ((t.toInt64) - ((f_base t t).toInt64)) (0 : Int64)) < (0 : Int32)) := by
  have q := own_inS t
  rw [own_lt _ _ 0 rfl, own_dif]; unfold ownIn at q; omega
theorem own_e0 (t : Int32) : (lcmpW ((t.toInt64) - ((f_base t t).toInt64)) (65536 : Int64)) < (0 : Int32) := by
  have q := own_inS t
  rw [own_lt _ _ 65536 rfl, own_dif]; unfold ownIn at q; omega

def Q_rvInit1 (Z : State) (wDE a1 : Addr) (h0 : Heap) (n0 : Nat) (v : Option Value) (h : Heap) (L : List Loc) : Prop := ∃ (ow on ob ol oh ov : Addr) (kw_ kn_ kb_ kl_ kh_ kv_ : ClassId), v = none ∧ Fr n0 L ∧ Keep h0 h [a1] ∧ h0.size ≤ ow ∧ h0.size ≤ on ∧ h0.size ≤ ob ∧ h0.size ≤ ol ∧ h0.size ≤ oh ∧ h0.size ≤ ov ∧ ow ≠ on ∧ ow ≠ ob ∧ ow ≠ ol ∧ ow ≠ oh ∧ ow ≠ ov ∧ on ≠ ob ∧ on ≠ ol ∧ on ≠ oh ∧ on ≠ ov ∧ ob ≠ ol ∧ ob ≠ oh ∧ ob ≠ ov ∧ ol ≠ oh ∧ ol ≠ ov ∧ oh ≠ ov ∧ Exa Z h a1 cRV ∧ Fld Z h a1 cRV "arity" "I" (.int 1) ∧ Fld Z h a1 cRV "rows" "I" (.int 0) ∧ Fld Z h a1 cRV "wide" "[[I" (.ref ow) ∧ Fld Z h a1 cRV "narrow" "[[C" (.ref on) ∧ Fld Z h a1 cRV "bases" "[I" (.ref ob) ∧ Fld Z h a1 cRV "lowest" "[I" (.ref ol) ∧ Fld Z h a1 cRV "highest" "[I" (.ref oh) ∧ Arv Z h ow kw_ (.array .int) (1 : Int32) [.null] .null ∧ OvrA Z kw_ .int "[I" ∧ Arv Z h on kn_ (.array .char) (1 : Int32) [(.ref ov)] .null ∧ OvrA Z kn_ .char "[C" ∧ Arv Z h ob kb_ .int (1 : Int32) [(.int 0)] (.int 0) ∧ Arv Z h ol kl_ .int (1 : Int32) [(.int 0)] (.int 0) ∧ Arv Z h oh kh_ .int (1 : Int32) [(.int 0)] (.int 0) ∧ Arv Z h ov kv_ .char (8 : Int32) [(.int 0), (.int 0), (.int 0), (.int 0), (.int 0), (.int 0), (.int 0), (.int 0)] (.int 0)
set_option maxRecDepth 65536 in
set_option maxHeartbeats 40000000 in
theorem rm_rvInit1 (l : Launch) (Z : State) (a0 : Array Value) (hw : ∀ d ∈ tables_1, d.before a0 Z = true) (ws : List Jvm.Cond) (wDE : Addr) (a1 : Addr) (h0 : Heap) (n0 : Nat) (Z0 : n0 ≤ h0.size) (S_wDE : Sta Z Z.heap "java/util/ArrayList" "DEFAULTCAPACITY_EMPTY_ELEMENTDATA" "[Ljava/lang/Object;" (.ref wDE)) (O0 : Old Z n0 h0) (S_CS : Sta Z Z.heap cRV "CHUNK_SHIFT" "I" (.int (12 : Int32))) (r0 : Exa Z h0 a1 cRV) (r1 : Fld Z h0 a1 cRV "arity" "I" (.int 0)) (r2 : Fld Z h0 a1 cRV "rows" "I" (.int 0)) (r3 : Fld Z h0 a1 cRV "wide" "[[I" .null) (r4 : Fld Z h0 a1 cRV "narrow" "[[C" .null) (r5 : Fld Z h0 a1 cRV "bases" "[I" .null) (r6 : Fld Z h0 a1 cRV "lowest" "[I" .null) (r7 : Fld Z h0 a1 cRV "highest" "[I" .null) (g_a1 : n0 ≤ a1) :
    MetFree l (⟨cRV, "<init>", "(I)V"⟩ : MethodName) (head1 (Jvm.Cond.code (⟨cRV, "<init>", "(I)V"⟩ : MethodName) prog_48_method_1_code 2 none :: ws) ({ frames := 1, cells := 6, slots := 13, locals := 12 } : Room)) (fun a U => a = #[(.ref a1), (.int 1)] ∧ Z.Warmed39 U.vm ∧ U.heap = h0) (fun _ _ _ _ _ => True) (fun _ U o U' => ∃ v L, o = .returned v ∧ Q_rvInit1 Z wDE a1 h0 n0 v U'.heap L ∧ FrameEnd U o U' L ({ frames := 1, cells := 6, slots := 13, locals := 12 } : Room).cells ({ frames := 1, cells := 6, slots := 13, locals := 12 } : Room).slots) := by
  refine MetFree.of_bodySF (plainFor_of_name pn_RowValues) hisR ?_
  intro p e s m args below meth c s₁ Bd hml0 hP hK
  obtain ⟨rfl, hZ, hh⟩ := hP
  have hx := Bd.exec
  have hby := Bd.bytes
  have bb := fun {pc : Nat} {r : Except DecodeError (Instr × Nat)} (h : decode prog_48_method_1_code pc = r) => hb hby h
  have ww := fun (i : Nat) {d : Jvm.Cond} (h : tables_1[i]? = some d) => hw d (List.mem_of_getElem? h)
  have hml : c.maxLocals = 2 := hml0
  have hown : s.vm.findClass cRV = some m.cls := findClass_of_methodNamed Bd.named
  have hnm := (name_of_methodNamed Bd.named Bd.method).1
  have X0 : Stand p l e ({ frames := 1, cells := 6, slots := 13, locals := 12 } : Room) s m #[(.ref a1), (.int 1)] below meth c s₁ [] 0 0 := Stand.of_body Bd
  have e0 : s₁.heap = h0 := by rw [← hh, Bd.state]; rfl
  have N0 := Fr.nil n0
  have pre0 : ∀ t, Steps p.tables e below (s₁.setTop (mkF m 0 #[vR a1, vI 1] [])) t → Steps p.tables e below (s₁.setTop (entryFrame m #[(.ref a1), (.int 1)] 2)) t := fun t k => castTop (ef_rvInit1 m a1) k
  obtain ⟨T1, X1, e1, st1⟩ := initO X0 hx hZ hown (ww 66 rfl) (ww 8 rfl) (ww 9 rfl) e0 (g := (mkF m 1 #[vR a1, vI 1] [(.ref a1)])) rfl (by rw [hml]; rfl) rfl (bb d8_1) (by decide) (W := 0) (by show 2 * 0 + _ ≤ _; exact Nat.le_of_eq rfl) (by decide)
  obtain ⟨T2, h2, k2, X2, e2, E2, A2, B2, R2, st2⟩ := newRA X1 hx hZ hown (C := "[I") (ty := .int) (by decide) (ww 67 rfl) (ww 68 rfl) e1 (g := (mkF m 6 #[vR a1, vI 1] [(.int 1), (.ref a1)])) rfl (bb d8_6) rfl (by decide) (cap := 1) (by decide) (by decide) (by decide) (by decide) (ad := "[[I") (by decide)
  obtain ⟨b2, q_b2⟩ : ∃ z, z = (h0).size := ⟨_, rfl⟩
  rw [← q_b2] at A2 B2 st2
  have g_b2 : n0 ≤ b2 := Nat.le_trans (own_z0 O0) (Nat.le_of_eq q_b2.symm)
  have sz_b2 : h0.size ≤ b2 := Nat.le_trans (Nat.le_refl _) (Nat.le_of_eq q_b2.symm)
  have ne_a1_b2 : a1 ≠ b2 := Nat.ne_of_lt (Nat.lt_of_lt_of_le r0.lt (Nat.le_of_eq q_b2.symm))
  have V_b2 : Arv Z h2 b2 k2 (.array .int) (1 : Int32) [.null] .null := (Arv.new A2 (by decide)).pad (pad_rep [] .null 1)
  have F4 := (r3.ext E2)
  have F5 := (r0.ext E2)
  obtain ⟨T3, h3, X3, e3, W3, st3⟩ := putF X2 hx hZ hown (host := "") (Or.inl (ww 69 rfl)) Via.refl e2 F4 F5 (Or.inl (ww 70 rfl)) (ww 61 rfl) (ty := (.array (.array .int))) (by decide) rfl rfl (g := (mkF m 9 #[vR a1, vI 1] [(.ref b2), (.ref a1)])) rfl rfl (bb d8_9)
  have Fw3 := F4.same W3
  have N3 := Fr.snoc X3 N0 g_a1
  have O7 := ((O0.ext E2).wr W3 g_a1)
  obtain ⟨T6, h6, k6, X6, e6, E6, A6, B6, R6, st6⟩ := newRA X3 hx hZ hown (C := "[C") (ty := .char) (by decide) (ww 71 rfl) (ww 72 rfl) e3 (g := (mkF m 14 #[vR a1, vI 1] [(.int 1), (.ref a1)])) rfl (bb d8_14) rfl (by decide) (cap := 1) (by decide) (by decide) (by decide) (by decide) (ad := "[[C") (by decide)
  obtain ⟨b6, q_b6⟩ : ∃ z, z = (h3).size := ⟨_, rfl⟩
  rw [← q_b6] at A6 B6 st6
  have g_b6 : n0 ≤ b6 := Nat.le_trans (own_z0 O7) (Nat.le_of_eq q_b6.symm)
  have sz_b6 : h0.size ≤ b6 := Nat.le_trans (Nat.le_trans (Nat.le_trans (Nat.le_refl _) E2.1) (Keep.of_wr W3).1) (Nat.le_of_eq q_b6.symm)
  have F8 := (F5.wr W3)
  have ne_a1_b6 : a1 ≠ b6 := Nat.ne_of_lt (Nat.lt_of_lt_of_le F8.lt (Nat.le_of_eq q_b6.symm))
  have F9 := (V_b2.other W3 (Ne.symm ne_a1_b2))
  have ne_b2_b6 : b2 ≠ b6 := Nat.ne_of_lt (Nat.lt_of_lt_of_le F9.lt (Nat.le_of_eq q_b6.symm))
  have V_b6 : Arv Z h6 b6 k6 (.array .char) (1 : Int32) [.null] .null := (Arv.new A6 (by decide)).pad (pad_rep [] .null 1)
  have F11 := (((r4.ext E2).other W3 (Or.inr (slot_ne (Or.inl (ww 74 rfl)) (Or.inl (ww 70 rfl)) (by decide) (t := (.array (.array .char))) (t' := (.array (.array .int))) (by decide) (by decide)))).ext E6)
  have F12 := (F8.ext E6)
  obtain ⟨T10, h10, X10, e10, W10, st10⟩ := putF X6 hx hZ hown (host := "") (Or.inl (ww 73 rfl)) Via.refl e6 F11 F12 (Or.inl (ww 74 rfl)) (ww 61 rfl) (ty := (.array (.array .char))) (by decide) rfl rfl (g := (mkF m 17 #[vR a1, vI 1] [(.ref b6), (.ref a1)])) rfl rfl (bb d8_17)
  have Fw10 := F11.same W10
  have N10 := Fr.snoc X10 N3 g_a1
  have F14 := ((((r1.ext E2).other W3 (Or.inr (slot_ne (Or.inr (ww 76 rfl)) (Or.inl (ww 70 rfl)) (by decide) (t := .int) (t' := (.array (.array .int))) (by decide) (by decide)))).ext E6).other W10 (Or.inr (slot_ne (Or.inr (ww 76 rfl)) (Or.inl (ww 74 rfl)) (by decide) (t := .int) (t' := (.array (.array .char))) (by decide) (by decide))))
  have F15 := (F12.wr W10)
  obtain ⟨T13, h13, X13, e13, W13, st13⟩ := putF X10 hx hZ hown (host := "") (Or.inl (ww 75 rfl)) Via.refl e10 F14 F15 (Or.inr ⟨(ww 76 rfl), rfl, hnm⟩) (ww 61 rfl) (ty := .int) (by decide) rfl rfl (g := (mkF m 22 #[vR a1, vI 1] [(.int 1), (.ref a1)])) rfl rfl (bb d8_22)
  have Fw13 := F14.same W13
  have N13 := Fr.snoc X13 N10 g_a1
  have O17 := (((O7.ext E6).wr W10 g_a1).wr W13 g_a1)
  obtain ⟨T16, h16, k16, X16, e16, E16, A16, B16, st16⟩ := newPE (aty := .int) X13 hx hZ (ww 0 rfl) e13 (g := (mkF m 27 #[vR a1, vI 1] [(.int 1), (.ref a1)])) rfl (bb d8_27) rfl (by decide) (cap := 1) (by decide) (by decide) (by decide) (by decide) (ad := "[I") (by decide)
  obtain ⟨b16, q_b16⟩ : ∃ z, z = (h13).size := ⟨_, rfl⟩
  rw [← q_b16] at A16 B16 st16
  have g_b16 : n0 ≤ b16 := Nat.le_trans (own_z0 O17) (Nat.le_of_eq q_b16.symm)
  have sz_b16 : h0.size ≤ b16 := Nat.le_trans (Nat.le_trans (Nat.le_trans (Nat.le_trans (Nat.le_trans (Nat.le_trans (Nat.le_refl _) E2.1) (Keep.of_wr W3).1) E6.1) (Keep.of_wr W10).1) (Keep.of_wr W13).1) (Nat.le_of_eq q_b16.symm)
  have F18 := (F15.wr W13)
  have ne_a1_b16 : a1 ≠ b16 := Nat.ne_of_lt (Nat.lt_of_lt_of_le F18.lt (Nat.le_of_eq q_b16.symm))
  have F19 := (((F9.ext E6).other W10 (Ne.symm ne_a1_b2)).other W13 (Ne.symm ne_a1_b2))
  have ne_b2_b16 : b2 ≠ b16 := Nat.ne_of_lt (Nat.lt_of_lt_of_le F19.lt (Nat.le_of_eq q_b16.symm))
  have F20 := ((V_b6.other W10 (Ne.symm ne_a1_b6)).other W13 (Ne.symm ne_a1_b6))
  have ne_b6_b16 : b6 ≠ b16 := Nat.ne_of_lt (Nat.lt_of_lt_of_le F20.lt (Nat.le_of_eq q_b16.symm))
  have V_b16 : Arv Z h16 b16 k16 .int (1 : Int32) [(.int 0)] (.int 0) := (Arv.new A16 (by decide)).pad (pad_rep [] (.int 0) 1)
  have F22 := ((((((r5.ext E2).other W3 (Or.inr (slot_ne (Or.inl (ww 78 rfl)) (Or.inl (ww 70 rfl)) (by decide) (t := (.array .int)) (t' := (.array (.array .int))) (by decide) (by decide)))).ext E6).other W10 (Or.inr (slot_ne (Or.inl (ww 78 rfl)) (Or.inl (ww 74 rfl)) (by decide) (t := (.array .int)) (t' := (.array (.array .char))) (by decide) (by decide)))).other W13 (Or.inr (slot_ne (Or.inl (ww 78 rfl)) (Or.inr (ww 76 rfl)) (by decide) (t := (.array .int)) (t' := .int) (by decide) (by decide)))).ext E16)
  have F23 := (F18.ext E16)
  obtain ⟨T21, h21, X21, e21, W21, st21⟩ := putF X16 hx hZ hown (host := "") (Or.inl (ww 77 rfl)) Via.refl e16 F22 F23 (Or.inl (ww 78 rfl)) (ww 61 rfl) (ty := (.array .int)) (by decide) rfl rfl (g := (mkF m 29 #[vR a1, vI 1] [(.ref b16), (.ref a1)])) rfl rfl (bb d8_29)
  have Fw21 := F22.same W21
  have N21 := Fr.snoc X21 N13 g_a1
  have O25 := ((O17.ext E16).wr W21 g_a1)
  obtain ⟨T24, h24, k24, X24, e24, E24, A24, B24, st24⟩ := newPE (aty := .int) X21 hx hZ (ww 0 rfl) e21 (g := (mkF m 34 #[vR a1, vI 1] [(.int 1), (.ref a1)])) rfl (bb d8_34) rfl (by decide) (cap := 1) (by decide) (by decide) (by decide) (by decide) (ad := "[I") (by decide)
  obtain ⟨b24, q_b24⟩ : ∃ z, z = (h21).size := ⟨_, rfl⟩
  rw [← q_b24] at A24 B24 st24
  have g_b24 : n0 ≤ b24 := Nat.le_trans (own_z0 O25) (Nat.le_of_eq q_b24.symm)
  have sz_b24 : h0.size ≤ b24 := Nat.le_trans (Nat.le_trans (Nat.le_trans (Nat.le_trans (Nat.le_trans (Nat.le_trans (Nat.le_trans (Nat.le_trans (Nat.le_refl _) E2.1) (Keep.of_wr W3).1) E6.1) (Keep.of_wr W10).1) (Keep.of_wr W13).1) E16.1) (Keep.of_wr W21).1) (Nat.le_of_eq q_b24.symm)
  have F26 := (F23.wr W21)
  have ne_a1_b24 : a1 ≠ b24 := Nat.ne_of_lt (Nat.lt_of_lt_of_le F26.lt (Nat.le_of_eq q_b24.symm))
  have F27 := ((F19.ext E16).other W21 (Ne.symm ne_a1_b2))
  have ne_b2_b24 : b2 ≠ b24 := Nat.ne_of_lt (Nat.lt_of_lt_of_le F27.lt (Nat.le_of_eq q_b24.symm))
  have F28 := ((F20.ext E16).other W21 (Ne.symm ne_a1_b6))
  have ne_b6_b24 : b6 ≠ b24 := Nat.ne_of_lt (Nat.lt_of_lt_of_le F28.lt (Nat.le_of_eq q_b24.symm))
  have F29 := (V_b16.other W21 (Ne.symm ne_a1_b16))
  have ne_b16_b24 : b16 ≠ b24 := Nat.ne_of_lt (Nat.lt_of_lt_of_le F29.lt (Nat.le_of_eq q_b24.symm))
  have V_b24 : Arv Z h24 b24 k24 .int (1 : Int32) [(.int 0)] (.int 0) := (Arv.new A24 (by decide)).pad (pad_rep [] (.int 0) 1)
  have F31 := ((((((((r6.ext E2).other W3 (Or.inr (slot_ne (Or.inr (ww 80 rfl)) (Or.inl (ww 70 rfl)) (by decide) (t := (.array .int)) (t' := (.array (.array .int))) (by decide) (by decide)))).ext E6).other W10 (Or.inr (slot_ne (Or.inr (ww 80 rfl)) (Or.inl (ww 74 rfl)) (by decide) (t := (.array .int)) (t' := (.array (.array .char))) (by decide) (by decide)))).other W13 (Or.inr (slot_ne (Or.inr (ww 80 rfl)) (Or.inr (ww 76 rfl)) (by decide) (t := (.array .int)) (t' := .int) (by decide) (by decide)))).ext E16).other W21 (Or.inr (slot_ne (Or.inr (ww 80 rfl)) (Or.inl (ww 78 rfl)) (by decide) (t := (.array .int)) (t' := (.array .int)) (by decide) (by decide)))).ext E24)
  have F32 := (F26.ext E24)
  obtain ⟨T30, h30, X30, e30, W30, st30⟩ := putF X24 hx hZ hown (host := "") (Or.inl (ww 79 rfl)) Via.refl e24 F31 F32 (Or.inr ⟨(ww 80 rfl), rfl, hnm⟩) (ww 61 rfl) (ty := (.array .int)) (by decide) rfl rfl (g := (mkF m 36 #[vR a1, vI 1] [(.ref b24), (.ref a1)])) rfl rfl (bb d8_36)
  have Fw30 := F31.same W30
  have N30 := Fr.snoc X30 N21 g_a1
  have O34 := ((O25.ext E24).wr W30 g_a1)
  obtain ⟨T33, h33, k33, X33, e33, E33, A33, B33, st33⟩ := newPE (aty := .int) X30 hx hZ (ww 0 rfl) e30 (g := (mkF m 41 #[vR a1, vI 1] [(.int 1), (.ref a1)])) rfl (bb d8_41) rfl (by decide) (cap := 1) (by decide) (by decide) (by decide) (by decide) (ad := "[I") (by decide)
  obtain ⟨b33, q_b33⟩ : ∃ z, z = (h30).size := ⟨_, rfl⟩
  rw [← q_b33] at A33 B33 st33
  have g_b33 : n0 ≤ b33 := Nat.le_trans (own_z0 O34) (Nat.le_of_eq q_b33.symm)
  have sz_b33 : h0.size ≤ b33 := Nat.le_trans (Nat.le_trans (Nat.le_trans (Nat.le_trans (Nat.le_trans (Nat.le_trans (Nat.le_trans (Nat.le_trans (Nat.le_trans (Nat.le_trans (Nat.le_refl _) E2.1) (Keep.of_wr W3).1) E6.1) (Keep.of_wr W10).1) (Keep.of_wr W13).1) E16.1) (Keep.of_wr W21).1) E24.1) (Keep.of_wr W30).1) (Nat.le_of_eq q_b33.symm)
  have F35 := (F32.wr W30)
  have ne_a1_b33 : a1 ≠ b33 := Nat.ne_of_lt (Nat.lt_of_lt_of_le F35.lt (Nat.le_of_eq q_b33.symm))
  have F36 := ((F27.ext E24).other W30 (Ne.symm ne_a1_b2))
  have ne_b2_b33 : b2 ≠ b33 := Nat.ne_of_lt (Nat.lt_of_lt_of_le F36.lt (Nat.le_of_eq q_b33.symm))
  have F37 := ((F28.ext E24).other W30 (Ne.symm ne_a1_b6))
  have ne_b6_b33 : b6 ≠ b33 := Nat.ne_of_lt (Nat.lt_of_lt_of_le F37.lt (Nat.le_of_eq q_b33.symm))
  have F38 := ((F29.ext E24).other W30 (Ne.symm ne_a1_b16))
  have ne_b16_b33 : b16 ≠ b33 := Nat.ne_of_lt (Nat.lt_of_lt_of_le F38.lt (Nat.le_of_eq q_b33.symm))
  have F39 := (V_b24.other W30 (Ne.symm ne_a1_b24))
  have ne_b24_b33 : b24 ≠ b33 := Nat.ne_of_lt (Nat.lt_of_lt_of_le F39.lt (Nat.le_of_eq q_b33.symm))
  have V_b33 : Arv Z h33 b33 k33 .int (1 : Int32) [(.int 0)] (.int 0) := (Arv.new A33 (by decide)).pad (pad_rep [] (.int 0) 1)
  have F41 := ((((((((((r7.ext E2).other W3 (Or.inr (slot_ne (Or.inr (ww 82 rfl)) (Or.inl (ww 70 rfl)) (by decide) (t := (.array .int)) (t' := (.array (.array .int))) (by decide) (by decide)))).ext E6).other W10 (Or.inr (slot_ne (Or.inr (ww 82 rfl)) (Or.inl (ww 74 rfl)) (by decide) (t := (.array .int)) (t' := (.array (.array .char))) (by decide) (by decide)))).other W13 (Or.inr (slot_ne (Or.inr (ww 82 rfl)) (Or.inr (ww 76 rfl)) (by decide) (t := (.array .int)) (t' := .int) (by decide) (by decide)))).ext E16).other W21 (Or.inr (slot_ne (Or.inr (ww 82 rfl)) (Or.inl (ww 78 rfl)) (by decide) (t := (.array .int)) (t' := (.array .int)) (by decide) (by decide)))).ext E24).other W30 (Or.inr (slot_ne (Or.inr (ww 82 rfl)) (Or.inr (ww 80 rfl)) (by decide) (t := (.array .int)) (t' := (.array .int)) (by decide) (by decide)))).ext E33)
  have F42 := (F35.ext E33)
  obtain ⟨T40, h40, X40, e40, W40, st40⟩ := putF X33 hx hZ hown (host := "") (Or.inl (ww 81 rfl)) Via.refl e33 F41 F42 (Or.inr ⟨(ww 82 rfl), rfl, hnm⟩) (ww 61 rfl) (ty := (.array .int)) (by decide) rfl rfl (g := (mkF m 43 #[vR a1, vI 1] [(.ref b33), (.ref a1)])) rfl rfl (bb d8_43)
  have Fw40 := F41.same W40
  have N40 := Fr.snoc X40 N30 g_a1
  have F44 := (((((((Fw10.other W13 (Or.inr (slot_ne (Or.inl (ww 74 rfl)) (Or.inr (ww 76 rfl)) (by decide) (t := (.array (.array .char))) (t' := .int) (by decide) (by decide)))).ext E16).other W21 (Or.inr (slot_ne (Or.inl (ww 74 rfl)) (Or.inl (ww 78 rfl)) (by decide) (t := (.array (.array .char))) (t' := (.array .int)) (by decide) (by decide)))).ext E24).other W30 (Or.inr (slot_ne (Or.inl (ww 74 rfl)) (Or.inr (ww 80 rfl)) (by decide) (t := (.array (.array .char))) (t' := (.array .int)) (by decide) (by decide)))).ext E33).other W40 (Or.inr (slot_ne (Or.inl (ww 74 rfl)) (Or.inr (ww 82 rfl)) (by decide) (t := (.array (.array .char))) (t' := (.array .int)) (by decide) (by decide))))
  obtain ⟨T43, X43, e43, st43⟩ := getF X40 hx hZ hown (host := "") (Or.inl (ww 73 rfl)) Via.refl e40 F44 (g := (mkF m 47 #[vR a1, vI 1] [(.ref a1)])) rfl rfl (bb d8_47)
  have O46 := ((O34.ext E33).wr W40 g_a1)
  obtain ⟨T45, h45, k45, X45, e45, E45, A45, B45, st45⟩ := newPE (aty := .char) X43 hx hZ (ww 83 rfl) e43 (g := (mkF m 55 #[vR a1, vI 1] [(.int 8), (.int 0), (.ref b6)])) rfl (bb d8_55) rfl (by decide) (cap := 8) (by decide) (by decide) (by decide) (by decide) (ad := "[C") (by decide)
  obtain ⟨b45, q_b45⟩ : ∃ z, z = (h40).size := ⟨_, rfl⟩
  rw [← q_b45] at A45 B45 st45
  have g_b45 : n0 ≤ b45 := Nat.le_trans (own_z0 O46) (Nat.le_of_eq q_b45.symm)
  have sz_b45 : h0.size ≤ b45 := Nat.le_trans (Nat.le_trans (Nat.le_trans (Nat.le_trans (Nat.le_trans (Nat.le_trans (Nat.le_trans (Nat.le_trans (Nat.le_trans (Nat.le_trans (Nat.le_trans (Nat.le_trans (Nat.le_refl _) E2.1) (Keep.of_wr W3).1) E6.1) (Keep.of_wr W10).1) (Keep.of_wr W13).1) E16.1) (Keep.of_wr W21).1) E24.1) (Keep.of_wr W30).1) E33.1) (Keep.of_wr W40).1) (Nat.le_of_eq q_b45.symm)
  have F47 := (F42.wr W40)
  have ne_a1_b45 : a1 ≠ b45 := Nat.ne_of_lt (Nat.lt_of_lt_of_le F47.lt (Nat.le_of_eq q_b45.symm))
  have F48 := ((F36.ext E33).other W40 (Ne.symm ne_a1_b2))
  have ne_b2_b45 : b2 ≠ b45 := Nat.ne_of_lt (Nat.lt_of_lt_of_le F48.lt (Nat.le_of_eq q_b45.symm))
  have F49 := ((F37.ext E33).other W40 (Ne.symm ne_a1_b6))
  have ne_b6_b45 : b6 ≠ b45 := Nat.ne_of_lt (Nat.lt_of_lt_of_le F49.lt (Nat.le_of_eq q_b45.symm))
  have F50 := ((F38.ext E33).other W40 (Ne.symm ne_a1_b16))
  have ne_b16_b45 : b16 ≠ b45 := Nat.ne_of_lt (Nat.lt_of_lt_of_le F50.lt (Nat.le_of_eq q_b45.symm))
  have F51 := ((F39.ext E33).other W40 (Ne.symm ne_a1_b24))
  have ne_b24_b45 : b24 ≠ b45 := Nat.ne_of_lt (Nat.lt_of_lt_of_le F51.lt (Nat.le_of_eq q_b45.symm))
  have F52 := (V_b33.other W40 (Ne.symm ne_a1_b33))
  have ne_b33_b45 : b33 ≠ b45 := Nat.ne_of_lt (Nat.lt_of_lt_of_le F52.lt (Nat.le_of_eq q_b45.symm))
  have V_b45 : Arv Z h45 b45 k45 .char (8 : Int32) [(.int 0), (.int 0), (.int 0), (.int 0), (.int 0), (.int 0), (.int 0), (.int 0)] (.int 0) := (Arv.new A45 (by decide)).pad (pad_rep [] (.int 0) 8)
  have F53 := (F49.ext E45)
  obtain ⟨cl54, Ar54, vq54, vS54, vN54, vH54, vG54⟩ := id F53
  have hin54 : ¬ (((0 : Int32) : Int32) < 0 ∨ cl54.slots.size ≤ ((0 : Int32) : Int32).toNatClampNeg) := inb_of vS54 ⟨by decide, by decide⟩
  obtain ⟨T54, h54, X54, e54, W54, st54⟩ := stR X45 hx hZ e45 Ar54 (j := (0 : Int32)) hin54 rfl (Sto.ofVA Ar54 vq54 R6 (Ins.self B45)) (g := (mkF m 57 #[vR a1, vI 1] [(.ref b45), (.int 0), (.ref b6)])) rfl rfl (bb d8_57)
  have V54 : Arv Z h54 b6 k6 (.array .char) (1 : Int32) [(.ref b45)] .null := Arv.set Ar54 vq54 vS54 vN54 vH54 vG54 rfl W54 0 rfl (Nat.le_of_ble_eq_true rfl)
  have N54 := Fr.snoc X54 N40 g_b6
  have F55 := ((F47.ext E45).wr W54)
  have F56 := ((((((((Fw13.ext E16).other W21 (Or.inr (slot_ne (Or.inr (ww 76 rfl)) (Or.inl (ww 78 rfl)) (by decide) (t := .int) (t' := (.array .int)) (by decide) (by decide)))).ext E24).other W30 (Or.inr (slot_ne (Or.inr (ww 76 rfl)) (Or.inr (ww 80 rfl)) (by decide) (t := .int) (t' := (.array .int)) (by decide) (by decide)))).ext E33).other W40 (Or.inr (slot_ne (Or.inr (ww 76 rfl)) (Or.inr (ww 82 rfl)) (by decide) (t := .int) (t' := (.array .int)) (by decide) (by decide)))).ext E45).other W54 (Or.inl ne_a1_b6))
  have F57 := (((((((((((((r2.ext E2).other W3 (Or.inr (slot_ne (Or.inl (ww 163 rfl)) (Or.inl (ww 70 rfl)) (by decide) (t := .int) (t' := (.array (.array .int))) (by decide) (by decide)))).ext E6).other W10 (Or.inr (slot_ne (Or.inl (ww 163 rfl)) (Or.inl (ww 74 rfl)) (by decide) (t := .int) (t' := (.array (.array .char))) (by decide) (by decide)))).other W13 (Or.inr (slot_ne (Or.inl (ww 163 rfl)) (Or.inr (ww 76 rfl)) (by decide) (t := .int) (t' := .int) (by decide) (by decide)))).ext E16).other W21 (Or.inr (slot_ne (Or.inl (ww 163 rfl)) (Or.inl (ww 78 rfl)) (by decide) (t := .int) (t' := (.array .int)) (by decide) (by decide)))).ext E24).other W30 (Or.inr (slot_ne (Or.inl (ww 163 rfl)) (Or.inr (ww 80 rfl)) (by decide) (t := .int) (t' := (.array .int)) (by decide) (by decide)))).ext E33).other W40 (Or.inr (slot_ne (Or.inl (ww 163 rfl)) (Or.inr (ww 82 rfl)) (by decide) (t := .int) (t' := (.array .int)) (by decide) (by decide)))).ext E45).other W54 (Or.inl ne_a1_b6))
  have F58 := (((((((((((Fw3.ext E6).other W10 (Or.inr (slot_ne (Or.inl (ww 70 rfl)) (Or.inl (ww 74 rfl)) (by decide) (t := (.array (.array .int))) (t' := (.array (.array .char))) (by decide) (by decide)))).other W13 (Or.inr (slot_ne (Or.inl (ww 70 rfl)) (Or.inr (ww 76 rfl)) (by decide) (t := (.array (.array .int))) (t' := .int) (by decide) (by decide)))).ext E16).other W21 (Or.inr (slot_ne (Or.inl (ww 70 rfl)) (Or.inl (ww 78 rfl)) (by decide) (t := (.array (.array .int))) (t' := (.array .int)) (by decide) (by decide)))).ext E24).other W30 (Or.inr (slot_ne (Or.inl (ww 70 rfl)) (Or.inr (ww 80 rfl)) (by decide) (t := (.array (.array .int))) (t' := (.array .int)) (by decide) (by decide)))).ext E33).other W40 (Or.inr (slot_ne (Or.inl (ww 70 rfl)) (Or.inr (ww 82 rfl)) (by decide) (t := (.array (.array .int))) (t' := (.array .int)) (by decide) (by decide)))).ext E45).other W54 (Or.inl ne_a1_b6))
  have F59 := ((F44.ext E45).other W54 (Or.inl ne_a1_b6))
  have F60 := ((((((Fw21.ext E24).other W30 (Or.inr (slot_ne (Or.inl (ww 78 rfl)) (Or.inr (ww 80 rfl)) (by decide) (t := (.array .int)) (t' := (.array .int)) (by decide) (by decide)))).ext E33).other W40 (Or.inr (slot_ne (Or.inl (ww 78 rfl)) (Or.inr (ww 82 rfl)) (by decide) (t := (.array .int)) (t' := (.array .int)) (by decide) (by decide)))).ext E45).other W54 (Or.inl ne_a1_b6))
  have F61 := ((((Fw30.ext E33).other W40 (Or.inr (slot_ne (Or.inr (ww 80 rfl)) (Or.inr (ww 82 rfl)) (by decide) (t := (.array .int)) (t' := (.array .int)) (by decide) (by decide)))).ext E45).other W54 (Or.inl ne_a1_b6))
  have F62 := ((Fw40.ext E45).other W54 (Or.inl ne_a1_b6))
  have F63 := ((F48.ext E45).other W54 ne_b2_b6)
  have F64 := ((F50.ext E45).other W54 (Ne.symm ne_b6_b16))
  have F65 := ((F51.ext E45).other W54 (Ne.symm ne_b6_b24))
  have F66 := ((F52.ext E45).other W54 (Ne.symm ne_b6_b33))
  have F67 := (V_b45.other W54 (Ne.symm ne_b6_b45))
  obtain ⟨fs, hr, hrun, hended, hW, hsame⟩ := X54.leave (v := none) (fun _ => rfl)
  refine ⟨_, _, pre0 _ ?_, hrun, hended, _, _, rfl, ?_, ⟨_, rfl⟩, hW, hsame.mono (by decide) (by decide)⟩
  · show GG p e below s₁ (mkF m 0 #[vR a1, vI 1] []) _
    refine XS.aloadN X0.here hx rfl (bb d8_0) rfl rfl ?_
    refine st1 _ ?_
    refine XS.aloadN X1.here hx rfl (bb d8_4) rfl rfl ?_
    refine XS.iconst X1.here hx rfl (bb d8_5) ?_
    refine st2 _ ?_
    refine st3 _ ?_
    refine XS.aloadN X3.here hx rfl (bb d8_12) rfl rfl ?_
    refine XS.iconst X3.here hx rfl (bb d8_13) ?_
    refine st6 _ ?_
    refine st10 _ ?_
    refine XS.aloadN X10.here hx rfl (bb d8_20) rfl rfl ?_
    refine XS.iloadN X10.here hx rfl (bb d8_21) rfl ?_
    refine st13 _ ?_
    refine XS.aloadN X13.here hx rfl (bb d8_25) rfl rfl ?_
    refine XS.iloadN X13.here hx rfl (bb d8_26) rfl ?_
    refine st16 _ ?_
    refine st21 _ ?_
    refine XS.aloadN X21.here hx rfl (bb d8_32) rfl rfl ?_
    refine XS.iloadN X21.here hx rfl (bb d8_33) rfl ?_
    refine st24 _ ?_
    refine st30 _ ?_
    refine XS.aloadN X30.here hx rfl (bb d8_39) rfl rfl ?_
    refine XS.iloadN X30.here hx rfl (bb d8_40) rfl ?_
    refine st33 _ ?_
    refine st40 _ ?_
    refine XS.aloadN X40.here hx rfl (bb d8_46) rfl rfl ?_
    refine st43 _ ?_
    refine XS.iconst X43.here hx rfl (bb d8_50) ?_
    refine XS.bipush X43.here hx rfl (bb d8_51) ?_
    refine XS.iloadN X43.here hx rfl (bb d8_53) rfl ?_
    refine XS.imul X43.here hx rfl (bb d8_54) rfl ?_
    refine st45 _ ?_
    refine st54 _ ?_
    exact X54.returnOut hx Bd.returns (bb d8_58) hr
  · show Q_rvInit1 Z wDE a1 h0 n0 _ T54.heap _
    rw [e54]
    exact ⟨b2, b6, b16, b24, b33, b45, k2, k6, k16, k24, k33, k45, rfl, N54, ((((((((((((((Keep.refl h0 [a1]).ext E2).wr W3 (Or.inl (List.mem_of_getElem? (i := 0) rfl))).ext E6).wr W10 (Or.inl (List.mem_of_getElem? (i := 0) rfl))).wr W13 (Or.inl (List.mem_of_getElem? (i := 0) rfl))).ext E16).wr W21 (Or.inl (List.mem_of_getElem? (i := 0) rfl))).ext E24).wr W30 (Or.inl (List.mem_of_getElem? (i := 0) rfl))).ext E33).wr W40 (Or.inl (List.mem_of_getElem? (i := 0) rfl))).ext E45).wr W54 (Or.inr sz_b6)), sz_b2, sz_b6, sz_b16, sz_b24, sz_b33, sz_b45, ne_b2_b6, ne_b2_b16, ne_b2_b24, ne_b2_b33, ne_b2_b45, ne_b6_b16, ne_b6_b24, ne_b6_b33, ne_b6_b45, ne_b16_b24, ne_b16_b33, ne_b16_b45, ne_b24_b33, ne_b24_b45, ne_b33_b45, F55, F56, F57, F58, F59, F60, F61, F62, F63, R2, V54, R6, F64, F65, F66, F67⟩
set_option maxRecDepth 65536 in
set_option maxHeartbeats 40000000 in
theorem rm_acInit (l : Launch) (Z : State) (a0 : Array Value) (hw : ∀ d ∈ tables_1, d.before a0 Z = true) (ws : List Jvm.Cond) (wDE : Addr) (a1 : Addr) (h0 : Heap) (n0 : Nat) (Z0 : n0 ≤ h0.size) (S_wDE : Sta Z Z.heap "java/util/ArrayList" "DEFAULTCAPACITY_EMPTY_ELEMENTDATA" "[Ljava/lang/Object;" (.ref wDE)) (O0 : Old Z n0 h0) (S_CS : Sta Z Z.heap cRV "CHUNK_SHIFT" "I" (.int (12 : Int32))) :
    MetFree l (⟨"java/util/AbstractCollection", "<init>", "()V"⟩ : MethodName) (head1 (Jvm.Cond.code (⟨"java/util/AbstractCollection", "<init>", "()V"⟩ : MethodName) jdk_22_method_1_code 1 none :: ws) ({ frames := 1, cells := 0, slots := 0, locals := 12 } : Room)) (fun a U => a = #[(.ref a1)] ∧ Z.Warmed39 U.vm ∧ U.heap = h0) (fun _ _ _ _ _ => True) (fun _ U o U' => ∃ v L, o = .returned v ∧ PureQ (none) h0 n0 v U'.heap L ∧ FrameEnd U o U' L ({ frames := 1, cells := 0, slots := 0, locals := 12 } : Room).cells ({ frames := 1, cells := 0, slots := 0, locals := 12 } : Room).slots) := by
  refine MetFree.of_bodySF (plainFor_of_name pn_AbstractCollection) hisR ?_
  intro p e s m args below meth c s₁ Bd hml0 hP hK
  obtain ⟨rfl, hZ, hh⟩ := hP
  have hx := Bd.exec
  have hby := Bd.bytes
  have bb := fun {pc : Nat} {r : Except DecodeError (Instr × Nat)} (h : decode jdk_22_method_1_code pc = r) => hb hby h
  have ww := fun (i : Nat) {d : Jvm.Cond} (h : tables_1[i]? = some d) => hw d (List.mem_of_getElem? h)
  have hml : c.maxLocals = 1 := hml0
  have hown : s.vm.findClass "java/util/AbstractCollection" = some m.cls := findClass_of_methodNamed Bd.named
  have hnm := (name_of_methodNamed Bd.named Bd.method).1
  have X0 : Stand p l e ({ frames := 1, cells := 0, slots := 0, locals := 12 } : Room) s m #[(.ref a1)] below meth c s₁ [] 0 0 := Stand.of_body Bd
  have e0 : s₁.heap = h0 := by rw [← hh, Bd.state]; rfl
  have N0 := Fr.nil n0
  have pre0 : ∀ t, Steps p.tables e below (s₁.setTop (mkF m 0 #[vR a1] [])) t → Steps p.tables e below (s₁.setTop (entryFrame m #[(.ref a1)] 1)) t := fun t k => castTop (ef_acInit m a1) k
  obtain ⟨T1, X1, e1, st1⟩ := initO X0 hx hZ hown (ww 50 rfl) (ww 8 rfl) (ww 9 rfl) e0 (g := (mkF m 1 #[vR a1] [(.ref a1)])) rfl (by rw [hml]; rfl) rfl (bb d7_1) (by decide) (W := 0) (by show 2 * 0 + _ ≤ _; exact Nat.le_of_eq rfl) (by decide)
  obtain ⟨fs, hr, hrun, hended, hW, hsame⟩ := X1.leave (v := none) (fun _ => rfl)
  refine ⟨_, _, pre0 _ ?_, hrun, hended, _, _, rfl, ?_, ⟨_, rfl⟩, hW, hsame.mono (by decide) (by decide)⟩
  · show GG p e below s₁ (mkF m 0 #[vR a1] []) _
    refine XS.aloadN X0.here hx rfl (bb d7_0) rfl rfl ?_
    refine st1 _ ?_
    exact X1.returnOut hx Bd.returns (bb d7_4) hr
  · exact ⟨rfl, N0, e1⟩
def Q_ablInit (Z : State) (wDE a1 : Addr) (h0 : Heap) (n0 : Nat) (v : Option Value) (h : Heap) (L : List Loc) : Prop := v = none ∧ Fr n0 L ∧ Keep h0 h [a1] ∧ Fld Z h a1 "java/util/AbstractList" "modCount" "I" (.int 0) ∧ Fld Z h a1 "java/util/ArrayList" "size" "I" (.int 0) ∧ Fld Z h a1 "java/util/ArrayList" "elementData" "[Ljava/lang/Object;" .null
set_option maxRecDepth 65536 in
set_option maxHeartbeats 40000000 in
theorem rm_ablInit (l : Launch) (Z : State) (a0 : Array Value) (hw : ∀ d ∈ tables_1, d.before a0 Z = true) (ws : List Jvm.Cond) (wDE : Addr) (a1 : Addr) (h0 : Heap) (n0 : Nat) (Z0 : n0 ≤ h0.size) (S_wDE : Sta Z Z.heap "java/util/ArrayList" "DEFAULTCAPACITY_EMPTY_ELEMENTDATA" "[Ljava/lang/Object;" (.ref wDE)) (O0 : Old Z n0 h0) (S_CS : Sta Z Z.heap cRV "CHUNK_SHIFT" "I" (.int (12 : Int32))) (r0 : Exa Z h0 a1 "java/util/ArrayList") (r1 : Fld Z h0 a1 "java/util/AbstractList" "modCount" "I" (.int 0)) (r2 : Fld Z h0 a1 "java/util/ArrayList" "size" "I" (.int 0)) (r3 : Fld Z h0 a1 "java/util/ArrayList" "elementData" "[Ljava/lang/Object;" .null) (g_a1 : n0 ≤ a1) :
    MetFree l (⟨"java/util/AbstractList", "<init>", "()V"⟩ : MethodName) (head1 (Jvm.Cond.code (⟨"java/util/AbstractList", "<init>", "()V"⟩ : MethodName) jdk_39_method_1_code 1 none :: ws) ({ frames := 2, cells := 0, slots := 0, locals := 24 } : Room)) (fun a U => a = #[(.ref a1)] ∧ Z.Warmed39 U.vm ∧ U.heap = h0) (fun _ _ _ _ _ => True) (fun _ U o U' => ∃ v L, o = .returned v ∧ Q_ablInit Z wDE a1 h0 n0 v U'.heap L ∧ FrameEnd U o U' L ({ frames := 2, cells := 0, slots := 0, locals := 24 } : Room).cells ({ frames := 2, cells := 0, slots := 0, locals := 24 } : Room).slots) := by
  refine MetFree.of_bodySF (plainFor_of_name pn_AbstractList) hisR ?_
  intro p e s m args below meth c s₁ Bd hml0 hP hK
  obtain ⟨rfl, hZ, hh⟩ := hP
  have hx := Bd.exec
  have hby := Bd.bytes
  have bb := fun {pc : Nat} {r : Except DecodeError (Instr × Nat)} (h : decode jdk_39_method_1_code pc = r) => hb hby h
  have ww := fun (i : Nat) {d : Jvm.Cond} (h : tables_1[i]? = some d) => hw d (List.mem_of_getElem? h)
  have hml : c.maxLocals = 1 := hml0
  have hown : s.vm.findClass "java/util/AbstractList" = some m.cls := findClass_of_methodNamed Bd.named
  have hnm := (name_of_methodNamed Bd.named Bd.method).1
  have X0 : Stand p l e ({ frames := 2, cells := 0, slots := 0, locals := 24 } : Room) s m #[(.ref a1)] below meth c s₁ [] 0 0 := Stand.of_body Bd
  have e0 : s₁.heap = h0 := by rw [← hh, Bd.state]; rfl
  have N0 := Fr.nil n0
  have pre0 : ∀ t, Steps p.tables e below (s₁.setTop (mkF m 0 #[vR a1] [])) t → Steps p.tables e below (s₁.setTop (entryFrame m #[(.ref a1)] 1)) t := fun t k => castTop (ef_ablInit m a1) k
  obtain ⟨_, _, ⟨T1, L1, k1, n1⟩, -, X1, ⟨Lc1, hQ1, l1, y1, z1⟩, st1⟩ := X0.specialBack hx (y := (⟨"java/util/AbstractCollection", "<init>", "()V"⟩ : MethodName)) rfl hown (mvT hZ (ww 44 rfl)) (mvT hZ (ww 45 rfl)) (mvT hZ (ww 49 rfl)) (by decide) (backOf (W := 0) (rm_acInit l Z a0 hw [] wDE a1 h0 n0 (own_z0 O0) S_wDE O0 S_CS) hZ (ww 49 rfl) (ww 48 rfl) (by decide) (by decide)) (g := (mkF m 1 #[vR a1] [(.ref a1)])) rfl (by rw [hml]; rfl) (Steps.refl _) (a := a1) (argsL := []) (rest := []) (lenOf pd___V_3 rfl) rfl (by show 2 * 0 + _ ≤ _; exact Nat.le_of_eq rfl) (bb d6_1) (fun _ _ => ⟨rfl, e0, (by decide : 0 + 0 ≤ _), (by decide : 0 + 0 ≤ _)⟩)
  dsimp only [Pt.U, Pt.locs, Pt.cells, Pt.slots] at X1 l1 y1 z1 st1 hQ1
  subst l1 y1 z1
  obtain ⟨rfl, N1q, e1⟩ := hQ1
  have N1 := Fr.app N0 N1q
  obtain ⟨T2, h2, X2, e2, W2, st2⟩ := putF X1 hx hZ hown (host := "") (Or.inl (ww 51 rfl)) Via.refl e1 r1 r0 (Or.inl (ww 52 rfl)) (ww 33 rfl) (ty := .int) (by decide) rfl rfl (g := (mkF m 6 #[vR a1] [(.int 0), (.ref a1)])) rfl rfl (bb d6_6)
  have Fw2 := r1.same W2
  have N2 := Fr.snoc X2 N1 g_a1
  have F3 := (r2.other W2 (Or.inr (slot_ne (Or.inl (ww 236 rfl)) (Or.inl (ww 52 rfl)) (by decide) (t := .int) (t' := .int) (by decide) (by decide))))
  have F4 := (r3.other W2 (Or.inr (slot_ne (Or.inl (ww 55 rfl)) (Or.inl (ww 52 rfl)) (by decide) (t := (.array (.object "java/lang/Object"))) (t' := .int) (by decide) (by decide))))
  obtain ⟨fs, hr, hrun, hended, hW, hsame⟩ := X2.leave (v := none) (fun _ => rfl)
  refine ⟨_, _, pre0 _ ?_, hrun, hended, _, _, rfl, ?_, ⟨_, rfl⟩, hW, hsame.mono (by decide) (by decide)⟩
  · show GG p e below s₁ (mkF m 0 #[vR a1] []) _
    refine XS.aloadN X0.here hx rfl (bb d6_0) rfl rfl ?_
    refine st1.trans ?_
    refine XS.aloadN X1.here hx rfl (bb d6_4) rfl rfl ?_
    refine XS.iconst X1.here hx rfl (bb d6_5) ?_
    refine st2 _ ?_
    exact X2.returnOut hx Bd.returns (bb d6_9) hr
  · show Q_ablInit Z wDE a1 h0 n0 _ T2.heap _
    rw [e2]
    exact ⟨rfl, N2, ((Keep.refl h0 [a1]).wr W2 (Or.inl (List.mem_of_getElem? (i := 0) rfl))), Fw2, F3, F4⟩
def Q_alInit (Z : State) (wDE a1 : Addr) (h0 : Heap) (n0 : Nat) (v : Option Value) (h : Heap) (L : List Loc) : Prop := v = none ∧ Fr n0 L ∧ Keep h0 h [a1] ∧ Fld Z h a1 "java/util/AbstractList" "modCount" "I" (.int 0) ∧ Fld Z h a1 "java/util/ArrayList" "size" "I" (.int 0)
set_option maxRecDepth 65536 in
set_option maxHeartbeats 40000000 in
theorem rm_alInit (l : Launch) (Z : State) (a0 : Array Value) (hw : ∀ d ∈ tables_1, d.before a0 Z = true) (ws : List Jvm.Cond) (wDE : Addr) (a1 : Addr) (h0 : Heap) (n0 : Nat) (Z0 : n0 ≤ h0.size) (S_wDE : Sta Z Z.heap "java/util/ArrayList" "DEFAULTCAPACITY_EMPTY_ELEMENTDATA" "[Ljava/lang/Object;" (.ref wDE)) (O0 : Old Z n0 h0) (S_CS : Sta Z Z.heap cRV "CHUNK_SHIFT" "I" (.int (12 : Int32))) (r0 : Exa Z h0 a1 "java/util/ArrayList") (r1 : Fld Z h0 a1 "java/util/AbstractList" "modCount" "I" (.int 0)) (r2 : Fld Z h0 a1 "java/util/ArrayList" "size" "I" (.int 0)) (r3 : Fld Z h0 a1 "java/util/ArrayList" "elementData" "[Ljava/lang/Object;" .null) (g_a1 : n0 ≤ a1) :
    MetFree l (⟨"java/util/ArrayList", "<init>", "()V"⟩ : MethodName) (head1 (Jvm.Cond.code (⟨"java/util/ArrayList", "<init>", "()V"⟩ : MethodName) jdk_38_method_2_code 1 none :: ws) ({ frames := 3, cells := 0, slots := 0, locals := 36 } : Room)) (fun a U => a = #[(.ref a1)] ∧ Z.Warmed39 U.vm ∧ U.heap = h0) (fun _ _ _ _ _ => True) (fun _ U o U' => ∃ v L, o = .returned v ∧ Q_alInit Z wDE a1 h0 n0 v U'.heap L ∧ FrameEnd U o U' L ({ frames := 3, cells := 0, slots := 0, locals := 36 } : Room).cells ({ frames := 3, cells := 0, slots := 0, locals := 36 } : Room).slots) := by
  refine MetFree.of_bodySF (plainFor_of_name pn_ArrayList) hisR ?_
  intro p e s m args below meth c s₁ Bd hml0 hP hK
  obtain ⟨rfl, hZ, hh⟩ := hP
  have hx := Bd.exec
  have hby := Bd.bytes
  have bb := fun {pc : Nat} {r : Except DecodeError (Instr × Nat)} (h : decode jdk_38_method_2_code pc = r) => hb hby h
  have ww := fun (i : Nat) {d : Jvm.Cond} (h : tables_1[i]? = some d) => hw d (List.mem_of_getElem? h)
  have hml : c.maxLocals = 1 := hml0
  have hown : s.vm.findClass "java/util/ArrayList" = some m.cls := findClass_of_methodNamed Bd.named
  have hnm := (name_of_methodNamed Bd.named Bd.method).1
  have X0 : Stand p l e ({ frames := 3, cells := 0, slots := 0, locals := 36 } : Room) s m #[(.ref a1)] below meth c s₁ [] 0 0 := Stand.of_body Bd
  have e0 : s₁.heap = h0 := by rw [← hh, Bd.state]; rfl
  have N0 := Fr.nil n0
  have pre0 : ∀ t, Steps p.tables e below (s₁.setTop (mkF m 0 #[vR a1] [])) t → Steps p.tables e below (s₁.setTop (entryFrame m #[(.ref a1)] 1)) t := fun t k => castTop (ef_alInit m a1) k
  obtain ⟨_, _, ⟨T1, L1, k1, n1⟩, -, X1, ⟨Lc1, hQ1, l1, y1, z1⟩, st1⟩ := X0.specialBack hx (y := (⟨"java/util/AbstractList", "<init>", "()V"⟩ : MethodName)) rfl hown (mvT hZ (ww 38 rfl)) (mvT hZ (ww 39 rfl)) (mvT hZ (ww 43 rfl)) (by decide) (backOf (W := 0) (rm_ablInit l Z a0 hw [] wDE a1 h0 n0 (own_z0 O0) S_wDE O0 S_CS r0 r1 r2 r3 g_a1) hZ (ww 43 rfl) (ww 42 rfl) (by decide) (by decide)) (g := (mkF m 1 #[vR a1] [(.ref a1)])) rfl (by rw [hml]; rfl) (Steps.refl _) (a := a1) (argsL := []) (rest := []) (lenOf pd___V_3 rfl) rfl (by show 2 * 0 + _ ≤ _; exact Nat.le_of_eq rfl) (bb d5_1) (fun _ _ => ⟨rfl, e0, (by decide : 0 + 0 ≤ _), (by decide : 0 + 0 ≤ _)⟩)
  dsimp only [Pt.U, Pt.locs, Pt.cells, Pt.slots] at X1 l1 y1 z1 st1 hQ1
  subst l1 y1 z1
  obtain ⟨rfl, N1q, K1, f1_0, f1_1, f1_2⟩ := hQ1
  have N1 := Fr.app N0 N1q
  have O3 := (O0.keep K1 (allS g_a1 all0))
  obtain ⟨T2, X2, e2, st2⟩ := getS2 X1 hx hZ hown (host := "") (Or.inl (ww 53 rfl)) Via.refl rfl (S_wDE.ext O3.2) (g := (mkF m 5 #[vR a1] [(.ref a1)])) rfl (bb d5_5)
  have F5 := (r0.keep K1)
  obtain ⟨T4, h4, X4, e4, W4, st4⟩ := putF X2 hx hZ hown (host := "") (Or.inl (ww 54 rfl)) Via.refl e2 f1_2 F5 (Or.inl (ww 55 rfl)) (ww 33 rfl) (ty := (.array (.object "java/lang/Object"))) (by decide) rfl rfl (g := (mkF m 8 #[vR a1] [(.ref wDE), (.ref a1)])) rfl rfl (bb d5_8)
  have Fw4 := f1_2.same W4
  have N4 := Fr.snoc X4 N1 g_a1
  have F6 := (f1_0.other W4 (Or.inr (slot_ne (Or.inl (ww 52 rfl)) (Or.inl (ww 55 rfl)) (by decide) (t := .int) (t' := (.array (.object "java/lang/Object"))) (by decide) (by decide))))
  have F7 := (f1_1.other W4 (Or.inr (slot_ne (Or.inl (ww 236 rfl)) (Or.inl (ww 55 rfl)) (by decide) (t := .int) (t' := (.array (.object "java/lang/Object"))) (by decide) (by decide))))
  obtain ⟨fs, hr, hrun, hended, hW, hsame⟩ := X4.leave (v := none) (fun _ => rfl)
  refine ⟨_, _, pre0 _ ?_, hrun, hended, _, _, rfl, ?_, ⟨_, rfl⟩, hW, hsame.mono (by decide) (by decide)⟩
  · show GG p e below s₁ (mkF m 0 #[vR a1] []) _
    refine XS.aloadN X0.here hx rfl (bb d5_0) rfl rfl ?_
    refine st1.trans ?_
    refine XS.aloadN X1.here hx rfl (bb d5_4) rfl rfl ?_
    refine st2 _ ?_
    refine st4 _ ?_
    exact X4.returnOut hx Bd.returns (bb d5_11) hr
  · show Q_alInit Z wDE a1 h0 n0 _ T4.heap _
    rw [e4]
    exact ⟨rfl, N4, (((Keep.refl h0 [a1]).trans K1 (allS (Or.inl (List.mem_of_getElem? (i := 0) rfl)) all0)).wr W4 (Or.inl (List.mem_of_getElem? (i := 0) rfl))), F6, F7⟩
def Q_itInit (Z : State) (wDE a1 a2 : Addr) (h0 : Heap) (n0 : Nat) (v : Option Value) (h : Heap) (L : List Loc) : Prop := v = none ∧ Fr n0 L ∧ Keep h0 h [a1] ∧ Fld Z h a1 "java/util/ArrayList$Itr" "this$0" "Ljava/util/ArrayList;" (.ref a2) ∧ Fld Z h a1 "java/util/ArrayList$Itr" "cursor" "I" (.int 0)
set_option maxRecDepth 65536 in
set_option maxHeartbeats 40000000 in
theorem rm_itInit (l : Launch) (Z : State) (a0 : Array Value) (hw : ∀ d ∈ tables_1, d.before a0 Z = true) (ws : List Jvm.Cond) (wDE : Addr) (a1 a2 : Addr) (h0 : Heap) (n0 : Nat) (Z0 : n0 ≤ h0.size) (S_wDE : Sta Z Z.heap "java/util/ArrayList" "DEFAULTCAPACITY_EMPTY_ELEMENTDATA" "[Ljava/lang/Object;" (.ref wDE)) (O0 : Old Z n0 h0) (S_CS : Sta Z Z.heap cRV "CHUNK_SHIFT" "I" (.int (12 : Int32))) (r0 : Exa Z h0 a1 "java/util/ArrayList$Itr") (r1 : Fld Z h0 a1 "java/util/ArrayList$Itr" "this$0" "Ljava/util/ArrayList;" .null) (r2 : Fld Z h0 a1 "java/util/ArrayList$Itr" "lastRet" "I" (.int 0)) (r3 : Fld Z h0 a1 "java/util/ArrayList$Itr" "expectedModCount" "I" (.int 0)) (r4 : Fld Z h0 a1 "java/util/ArrayList$Itr" "cursor" "I" (.int 0)) (r5 : Fld Z h0 a2 "java/util/AbstractList" "modCount" "I" (.int 0)) (g_a1 : n0 ≤ a1) (ne_a2_a1 : a2 ≠ a1) :
    MetFree l (⟨"java/util/ArrayList$Itr", "<init>", "(Ljava/util/ArrayList;)V"⟩ : MethodName) (head1 (Jvm.Cond.code (⟨"java/util/ArrayList$Itr", "<init>", "(Ljava/util/ArrayList;)V"⟩ : MethodName) jdk_49_method_1_code 2 none :: ws) ({ frames := 1, cells := 0, slots := 0, locals := 12 } : Room)) (fun a U => a = #[(.ref a1), (.ref a2)] ∧ Z.Warmed39 U.vm ∧ U.heap = h0) (fun _ _ _ _ _ => True) (fun _ U o U' => ∃ v L, o = .returned v ∧ Q_itInit Z wDE a1 a2 h0 n0 v U'.heap L ∧ FrameEnd U o U' L ({ frames := 1, cells := 0, slots := 0, locals := 12 } : Room).cells ({ frames := 1, cells := 0, slots := 0, locals := 12 } : Room).slots) := by
  refine MetFree.of_bodySF (plainFor_of_name pn_ArrayList_Itr) hisR ?_
  intro p e s m args below meth c s₁ Bd hml0 hP hK
  obtain ⟨rfl, hZ, hh⟩ := hP
  have hx := Bd.exec
  have hby := Bd.bytes
  have bb := fun {pc : Nat} {r : Except DecodeError (Instr × Nat)} (h : decode jdk_49_method_1_code pc = r) => hb hby h
  have ww := fun (i : Nat) {d : Jvm.Cond} (h : tables_1[i]? = some d) => hw d (List.mem_of_getElem? h)
  have hml : c.maxLocals = 2 := hml0
  have hown : s.vm.findClass "java/util/ArrayList$Itr" = some m.cls := findClass_of_methodNamed Bd.named
  have hnm := (name_of_methodNamed Bd.named Bd.method).1
  have X0 : Stand p l e ({ frames := 1, cells := 0, slots := 0, locals := 12 } : Room) s m #[(.ref a1), (.ref a2)] below meth c s₁ [] 0 0 := Stand.of_body Bd
  have e0 : s₁.heap = h0 := by rw [← hh, Bd.state]; rfl
  have N0 := Fr.nil n0
  have pre0 : ∀ t, Steps p.tables e below (s₁.setTop (mkF m 0 #[vR a1, vR a2] [])) t → Steps p.tables e below (s₁.setTop (entryFrame m #[(.ref a1), (.ref a2)] 2)) t := fun t k => castTop (ef_itInit m a1 a2) k
  obtain ⟨T1, h1, X1, e1, W1, st1⟩ := putF X0 hx hZ hown (host := "") (Or.inl (ww 215 rfl)) Via.refl e0 r1 r0 (Or.inr ⟨(ww 216 rfl), rfl, hnm⟩) (ww 209 rfl) (ty := (.object "java/util/ArrayList")) (by decide) rfl rfl (g := (mkF m 2 #[vR a1, vR a2] [(.ref a2), (.ref a1)])) rfl rfl (bb d30_2)
  have Fw1 := r1.same W1
  have N1 := Fr.snoc X1 N0 g_a1
  obtain ⟨T2, X2, e2, st2⟩ := initO X1 hx hZ hown (ww 217 rfl) (ww 8 rfl) (ww 9 rfl) e1 (g := (mkF m 6 #[vR a1, vR a2] [(.ref a1)])) rfl (by rw [hml]; rfl) rfl (bb d30_6) (by decide) (W := 0) (by show 2 * 0 + _ ≤ _; exact Nat.le_of_eq rfl) (by decide)
  have F4 := (r2.other W1 (Or.inr (slot_ne (Or.inl (ww 219 rfl)) (Or.inr (ww 216 rfl)) (by decide) (t := .int) (t' := (.object "java/util/ArrayList")) (by decide) (by decide))))
  have F5 := (r0.wr W1)
  obtain ⟨T3, h3, X3, e3, W3, st3⟩ := putF X2 hx hZ hown (host := "") (Or.inl (ww 218 rfl)) Via.refl e2 F4 F5 (Or.inl (ww 219 rfl)) (ww 209 rfl) (ty := .int) (by decide) rfl rfl (g := (mkF m 11 #[vR a1, vR a2] [(.int (-1)), (.ref a1)])) rfl rfl (bb d30_11)
  have Fw3 := F4.same W3
  have N3 := Fr.snoc X3 N1 g_a1
  have F7 := (Fw1.other W3 (Or.inr (slot_ne (Or.inr (ww 216 rfl)) (Or.inl (ww 219 rfl)) (by decide) (t := (.object "java/util/ArrayList")) (t' := .int) (by decide) (by decide))))
  obtain ⟨T6, X6, e6, st6⟩ := getF X3 hx hZ hown (host := "") (Or.inl (ww 215 rfl)) Via.refl e3 F7 (g := (mkF m 16 #[vR a1, vR a2] [(.ref a1), (.ref a1)])) rfl rfl (bb d30_16)
  have F9 := ((r5.other W1 (Or.inl ne_a2_a1)).other W3 (Or.inl ne_a2_a1))
  obtain ⟨T8, X8, e8, st8⟩ := getF X6 hx hZ hown (host := "") (Or.inl (ww 220 rfl)) (Via.of (ww 221 rfl)) e6 F9 (g := (mkF m 19 #[vR a1, vR a2] [(.ref a2), (.ref a1)])) rfl rfl (bb d30_19)
  have F11 := ((r3.other W1 (Or.inr (slot_ne (Or.inl (ww 223 rfl)) (Or.inr (ww 216 rfl)) (by decide) (t := .int) (t' := (.object "java/util/ArrayList")) (by decide) (by decide)))).other W3 (Or.inr (slot_ne (Or.inl (ww 223 rfl)) (Or.inl (ww 219 rfl)) (by decide) (t := .int) (t' := .int) (by decide) (by decide))))
  have F12 := (F5.wr W3)
  obtain ⟨T10, h10, X10, e10, W10, st10⟩ := putF X8 hx hZ hown (host := "") (Or.inl (ww 222 rfl)) Via.refl e8 F11 F12 (Or.inl (ww 223 rfl)) (ww 209 rfl) (ty := .int) (by decide) rfl rfl (g := (mkF m 22 #[vR a1, vR a2] [(.int 0), (.ref a1)])) rfl rfl (bb d30_22)
  have Fw10 := F11.same W10
  have N10 := Fr.snoc X10 N3 g_a1
  have F13 := (F7.other W10 (Or.inr (slot_ne (Or.inr (ww 216 rfl)) (Or.inl (ww 223 rfl)) (by decide) (t := (.object "java/util/ArrayList")) (t' := .int) (by decide) (by decide))))
  have F14 := (((r4.other W1 (Or.inr (slot_ne (Or.inl (ww 234 rfl)) (Or.inr (ww 216 rfl)) (by decide) (t := .int) (t' := (.object "java/util/ArrayList")) (by decide) (by decide)))).other W3 (Or.inr (slot_ne (Or.inl (ww 234 rfl)) (Or.inl (ww 219 rfl)) (by decide) (t := .int) (t' := .int) (by decide) (by decide)))).other W10 (Or.inr (slot_ne (Or.inl (ww 234 rfl)) (Or.inl (ww 223 rfl)) (by decide) (t := .int) (t' := .int) (by decide) (by decide))))
  obtain ⟨fs, hr, hrun, hended, hW, hsame⟩ := X10.leave (v := none) (fun _ => rfl)
  refine ⟨_, _, pre0 _ ?_, hrun, hended, _, _, rfl, ?_, ⟨_, rfl⟩, hW, hsame.mono (by decide) (by decide)⟩
  · show GG p e below s₁ (mkF m 0 #[vR a1, vR a2] []) _
    refine XS.aloadN X0.here hx rfl (bb d30_0) rfl rfl ?_
    refine XS.aloadN X0.here hx rfl (bb d30_1) rfl rfl ?_
    refine st1 _ ?_
    refine XS.aloadN X1.here hx rfl (bb d30_5) rfl rfl ?_
    refine st2 _ ?_
    refine XS.aloadN X2.here hx rfl (bb d30_9) rfl rfl ?_
    refine XS.iconst X2.here hx rfl (bb d30_10) ?_
    refine st3 _ ?_
    refine XS.aloadN X3.here hx rfl (bb d30_14) rfl rfl ?_
    refine XS.aloadN X3.here hx rfl (bb d30_15) rfl rfl ?_
    refine st6 _ ?_
    refine st8 _ ?_
    refine st10 _ ?_
    exact X10.returnOut hx Bd.returns (bb d30_25) hr
  · show Q_itInit Z wDE a1 a2 h0 n0 _ T10.heap _
    rw [e10]
    exact ⟨rfl, N10, ((((Keep.refl h0 [a1]).wr W1 (Or.inl (List.mem_of_getElem? (i := 0) rfl))).wr W3 (Or.inl (List.mem_of_getElem? (i := 0) rfl))).wr W10 (Or.inl (List.mem_of_getElem? (i := 0) rfl))), F13, F14⟩
def Q_iterator (Z : State) (wDE a1 : Addr) (h0 : Heap) (n0 : Nat) (v : Option Value) (h : Heap) (L : List Loc) : Prop := ∃ (oi : Addr), v = some (.ref oi) ∧ Fr n0 L ∧ Keep h0 h [] ∧ h0.size ≤ oi ∧ Exa Z h oi "java/util/ArrayList$Itr" ∧ Fld Z h oi "java/util/ArrayList$Itr" "this$0" "Ljava/util/ArrayList;" (.ref a1) ∧ Fld Z h oi "java/util/ArrayList$Itr" "cursor" "I" (.int 0)
set_option maxRecDepth 65536 in
set_option maxHeartbeats 40000000 in
theorem rm_iterator (l : Launch) (Z : State) (a0 : Array Value) (hw : ∀ d ∈ tables_1, d.before a0 Z = true) (ws : List Jvm.Cond) (wDE : Addr) (a1 : Addr) (h0 : Heap) (n0 : Nat) (Z0 : n0 ≤ h0.size) (S_wDE : Sta Z Z.heap "java/util/ArrayList" "DEFAULTCAPACITY_EMPTY_ELEMENTDATA" "[Ljava/lang/Object;" (.ref wDE)) (O0 : Old Z n0 h0) (S_CS : Sta Z Z.heap cRV "CHUNK_SHIFT" "I" (.int (12 : Int32))) (r0 : Fld Z h0 a1 "java/util/AbstractList" "modCount" "I" (.int 0)) :
    MetFree l (⟨"java/util/ArrayList", "iterator", "()Ljava/util/Iterator;"⟩ : MethodName) (head1 (Jvm.Cond.code (⟨"java/util/ArrayList", "iterator", "()Ljava/util/Iterator;"⟩ : MethodName) jdk_38_method_55_code 1 (some (.object "java/util/Iterator")) :: ws) ({ frames := 2, cells := 1, slots := 4, locals := 26 } : Room)) (fun a U => a = #[(.ref a1)] ∧ Z.Warmed39 U.vm ∧ U.heap = h0) (fun _ _ _ _ _ => True) (fun _ U o U' => ∃ v L, o = .returned v ∧ Q_iterator Z wDE a1 h0 n0 v U'.heap L ∧ FrameEnd U o U' L ({ frames := 2, cells := 1, slots := 4, locals := 26 } : Room).cells ({ frames := 2, cells := 1, slots := 4, locals := 26 } : Room).slots) := by
  refine MetFree.of_bodySF (plainFor_of_name pn_ArrayList) hisR ?_
  intro p e s m args below meth c s₁ Bd hml0 hP hK
  obtain ⟨rfl, hZ, hh⟩ := hP
  have hx := Bd.exec
  have hby := Bd.bytes
  have bb := fun {pc : Nat} {r : Except DecodeError (Instr × Nat)} (h : decode jdk_38_method_55_code pc = r) => hb hby h
  have ww := fun (i : Nat) {d : Jvm.Cond} (h : tables_1[i]? = some d) => hw d (List.mem_of_getElem? h)
  have hml : c.maxLocals = 1 := hml0
  have hown : s.vm.findClass "java/util/ArrayList" = some m.cls := findClass_of_methodNamed Bd.named
  have hnm := (name_of_methodNamed Bd.named Bd.method).1
  have X0 : Stand p l e ({ frames := 2, cells := 1, slots := 4, locals := 26 } : Room) s m #[(.ref a1)] below meth c s₁ [] 0 0 := Stand.of_body Bd
  have e0 : s₁.heap = h0 := by rw [← hh, Bd.state]; rfl
  have N0 := Fr.nil n0
  have pre0 : ∀ t, Steps p.tables e below (s₁.setTop (mkF m 0 #[vR a1] [])) t → Steps p.tables e below (s₁.setTop (entryFrame m #[(.ref a1)] 1)) t := fun t k => castTop (ef_iterator m a1) k
  obtain ⟨T1, h1, X1, e1, E1, A1, D1, -, st1⟩ := newO X0 hx hZ hown (ww 208 rfl) (ww 209 rfl) (ww 210 rfl) e0 (g := (mkF m 0 #[vR a1] [])) rfl (bb d29_0) (by decide) (by decide)
  obtain ⟨b1, q_b1⟩ : ∃ z, z = (h0).size := ⟨_, rfl⟩
  rw [← q_b1] at A1 D1 st1
  have g_b1 : n0 ≤ b1 := Nat.le_trans (own_z0 O0) (Nat.le_of_eq q_b1.symm)
  have sz_b1 : h0.size ≤ b1 := Nat.le_trans (Nat.le_refl _) (Nat.le_of_eq q_b1.symm)
  have ne_a1_b1 : a1 ≠ b1 := Nat.ne_of_lt (Nat.lt_of_lt_of_le r0.lt (Nat.le_of_eq q_b1.symm))
  have F_this_0_b1 : Fld Z h1 b1 "java/util/ArrayList$Itr" "this$0" "Ljava/util/ArrayList;" .null := D1 (Or.inr (ww 216 rfl)) (ty := (.object "java/util/ArrayList")) (by decide)
  have F_lastRet_b1 : Fld Z h1 b1 "java/util/ArrayList$Itr" "lastRet" "I" (.int 0) := D1 (Or.inl (ww 219 rfl)) (ty := .int) (by decide)
  have F_expectedModCount_b1 : Fld Z h1 b1 "java/util/ArrayList$Itr" "expectedModCount" "I" (.int 0) := D1 (Or.inl (ww 223 rfl)) (ty := .int) (by decide)
  have F_cursor_b1 : Fld Z h1 b1 "java/util/ArrayList$Itr" "cursor" "I" (.int 0) := D1 (Or.inl (ww 234 rfl)) (ty := .int) (by decide)
  have F3 := (r0.ext E1)
  have O4 := (O0.ext E1)
  obtain ⟨_, _, ⟨T2, L2, k2, n2⟩, -, X2, ⟨Lc2, hQ2, l2, y2, z2⟩, st2⟩ := X1.specialBack hx (y := (⟨"java/util/ArrayList$Itr", "<init>", "(Ljava/util/ArrayList;)V"⟩ : MethodName)) rfl hown (mvT hZ (ww 211 rfl)) (mvT hZ (ww 212 rfl)) (mvT hZ (ww 214 rfl)) (by decide) (backOf (W := 1) (rm_itInit l Z a0 hw [] wDE b1 a1 h1 n0 (own_z0 O4) S_wDE O4 S_CS A1 F_this_0_b1 F_lastRet_b1 F_expectedModCount_b1 F_cursor_b1 F3 g_b1 ne_a1_b1) hZ (ww 214 rfl) (ww 210 rfl) (by decide) (by decide)) (g := (mkF m 5 #[vR a1] [(.ref a1), (.ref b1), (.ref b1)])) rfl (by rw [hml]; rfl) (Steps.refl _) (a := b1) (argsL := [(.ref a1)]) (rest := [(.ref b1)]) (lenOf pd__Ljava_util_ArrayList__V_24 rfl) rfl (by show 2 * 0 + _ ≤ _; exact Nat.le_of_eq rfl) (bb d29_5) (fun _ _ => ⟨rfl, e1, (by decide : 1 + 0 ≤ _), (by decide : 4 + 0 ≤ _)⟩)
  dsimp only [Pt.U, Pt.locs, Pt.cells, Pt.slots] at X2 l2 y2 z2 st2 hQ2
  subst l2 y2 z2
  obtain ⟨rfl, N2q, K2, f2_0, f2_1⟩ := hQ2
  have N2 := Fr.app N0 N2q
  have F5 := (A1.keep K2)
  obtain ⟨fs, hr, hrun, hended, hW, hsame⟩ := X2.leave (v := some (.ref b1)) (fun h => by rw [Bd.returns] at h; cases h)
  refine ⟨_, _, pre0 _ ?_, hrun, hended, _, _, rfl, ?_, ⟨_, rfl⟩, hW, hsame.mono (by decide) (by decide)⟩
  · show GG p e below s₁ (mkF m 0 #[vR a1] []) _
    refine st1 _ ?_
    refine XS.dup X1.here hx rfl (bb d29_3) rfl rfl ?_
    refine XS.aloadN X1.here hx rfl (bb d29_4) rfl rfl ?_
    refine st2.trans ?_
    jvm_step X2.here [X2.here.top, hx, (bb d29_8), X2.method', Bd.returns, Value.isRef, FieldType.isReference]
    first | (intro acts; rw [hr _ acts rfl rfl rfl]) | rw [hr _ _ rfl rfl rfl]
    exact Steps.refl _
  · show Q_iterator Z wDE a1 h0 n0 _ T2.heap _
    exact ⟨b1, rfl, N2, (((Keep.refl h0 []).ext E1).trans K2 (allS (Or.inr sz_b1) all0)), sz_b1, F5, f2_0, f2_1⟩
set_option maxRecDepth 65536 in
set_option maxHeartbeats 40000000 in
theorem rm_hasNext (l : Launch) (Z : State) (a0 : Array Value) (hw : ∀ d ∈ tables_1, d.before a0 Z = true) (ws : List Jvm.Cond) (wDE : Addr) (a1 a2 : Addr) (h0 : Heap) (n0 : Nat) (Z0 : n0 ≤ h0.size) (S_wDE : Sta Z Z.heap "java/util/ArrayList" "DEFAULTCAPACITY_EMPTY_ELEMENTDATA" "[Ljava/lang/Object;" (.ref wDE)) (O0 : Old Z n0 h0) (S_CS : Sta Z Z.heap cRV "CHUNK_SHIFT" "I" (.int (12 : Int32))) (r0 : Fld Z h0 a1 "java/util/ArrayList$Itr" "this$0" "Ljava/util/ArrayList;" (.ref a2)) (r1 : Fld Z h0 a1 "java/util/ArrayList$Itr" "cursor" "I" (.int 0)) (r2 : Fld Z h0 a2 "java/util/ArrayList" "size" "I" (.int 0)) :
    MetFree l (⟨"java/util/ArrayList$Itr", "hasNext", "()Z"⟩ : MethodName) (head1 (Jvm.Cond.code (⟨"java/util/ArrayList$Itr", "hasNext", "()Z"⟩ : MethodName) jdk_49_method_2_code 1 (some .boolean) :: ws) ({ frames := 0, cells := 0, slots := 0, locals := 0 } : Room)) (fun a U => a = #[(.ref a1)] ∧ Z.Warmed39 U.vm ∧ U.heap = h0) (fun _ _ _ _ _ => True) (fun _ U o U' => ∃ v L, o = .returned v ∧ PureQ (some (.int 0)) h0 n0 v U'.heap L ∧ FrameEnd U o U' L ({ frames := 0, cells := 0, slots := 0, locals := 0 } : Room).cells ({ frames := 0, cells := 0, slots := 0, locals := 0 } : Room).slots) := by
  refine MetFree.of_bodySF (plainFor_of_name pn_ArrayList_Itr) hisR ?_
  intro p e s m args below meth c s₁ Bd hml0 hP hK
  obtain ⟨rfl, hZ, hh⟩ := hP
  have hx := Bd.exec
  have hby := Bd.bytes
  have bb := fun {pc : Nat} {r : Except DecodeError (Instr × Nat)} (h : decode jdk_49_method_2_code pc = r) => hb hby h
  have ww := fun (i : Nat) {d : Jvm.Cond} (h : tables_1[i]? = some d) => hw d (List.mem_of_getElem? h)
  have hml : c.maxLocals = 1 := hml0
  have hown : s.vm.findClass "java/util/ArrayList$Itr" = some m.cls := findClass_of_methodNamed Bd.named
  have hnm := (name_of_methodNamed Bd.named Bd.method).1
  have X0 : Stand p l e ({ frames := 0, cells := 0, slots := 0, locals := 0 } : Room) s m #[(.ref a1)] below meth c s₁ [] 0 0 := Stand.of_body Bd
  have e0 : s₁.heap = h0 := by rw [← hh, Bd.state]; rfl
  have N0 := Fr.nil n0
  have pre0 : ∀ t, Steps p.tables e below (s₁.setTop (mkF m 0 #[vR a1] [])) t → Steps p.tables e below (s₁.setTop (entryFrame m #[(.ref a1)] 1)) t := fun t k => castTop (ef_hasNext m a1) k
  obtain ⟨T1, X1, e1, st1⟩ := getF X0 hx hZ hown (host := "") (Or.inl (ww 233 rfl)) Via.refl e0 r1 (g := (mkF m 1 #[vR a1] [(.ref a1)])) rfl rfl (bb d31_1)
  obtain ⟨T2, X2, e2, st2⟩ := getF X1 hx hZ hown (host := "") (Or.inl (ww 215 rfl)) Via.refl e1 r0 (g := (mkF m 5 #[vR a1] [(.ref a1), (.int 0)])) rfl rfl (bb d31_5)
  obtain ⟨T3, X3, e3, st3⟩ := getF X2 hx hZ hown (Or.inr (ww 235 rfl)) Via.refl e2 r2 (g := (mkF m 8 #[vR a1] [(.ref a2), (.int 0)])) rfl rfl (bb d31_8)
  obtain ⟨fs, hr, hrun, hended, hW, hsame⟩ := X3.leave (v := some (.int 0)) (fun h => by rw [Bd.returns] at h; cases h)
  refine ⟨_, _, pre0 _ ?_, hrun, hended, _, _, rfl, ?_, ⟨_, rfl⟩, hW, hsame.mono (by decide) (by decide)⟩
  · show GG p e below s₁ (mkF m 0 #[vR a1] []) _
    refine XS.aloadN X0.here hx rfl (bb d31_0) rfl rfl ?_
    refine st1 _ ?_
    refine XS.aloadN X1.here hx rfl (bb d31_4) rfl rfl ?_
    refine st2 _ ?_
    refine st3 _ ?_
    refine XS.icmpYes X3.here hx rfl (pc0 := 11) (pc' := 18) rfl (bb d31_11) rfl (teq (by decide : (0 : Int32) = (0 : Int32))).1 (by decide) (by decide) ?_
    refine XS.iconst X3.here hx rfl (bb d31_18) ?_
    exact retN X3 hx (t := .boolean) Bd.returns (by simp) (bb d31_19) hr
  · exact ⟨rfl, N0, e3⟩
def Q_rtInit (Z : State) (wDE a1 : Addr) (h0 : Heap) (n0 : Nat) (v : Option Value) (h : Heap) (L : List Loc) : Prop := ∃ (os : Addr) (ks_ : ClassId), v = none ∧ Fr n0 L ∧ Keep h0 h [a1] ∧ h0.size ≤ os ∧ Fld Z h a1 cRT "slots" "[I" (.ref os) ∧ Fld Z h a1 cRT "tagMask" "I" (.int (-32)) ∧ Fld Z h a1 cRT "count" "I" (.int 0) ∧ Arh Z h os ks_ .int (16 : Int32) [] [] (.int 0)
set_option maxRecDepth 65536 in
set_option maxHeartbeats 40000000 in
theorem rm_rtInit (l : Launch) (Z : State) (a0 : Array Value) (hw : ∀ d ∈ tables_1, d.before a0 Z = true) (ws : List Jvm.Cond) (wDE : Addr) (a1 : Addr) (h0 : Heap) (n0 : Nat) (Z0 : n0 ≤ h0.size) (S_wDE : Sta Z Z.heap "java/util/ArrayList" "DEFAULTCAPACITY_EMPTY_ELEMENTDATA" "[Ljava/lang/Object;" (.ref wDE)) (O0 : Old Z n0 h0) (S_CS : Sta Z Z.heap cRV "CHUNK_SHIFT" "I" (.int (12 : Int32))) (r0 : Exa Z h0 a1 cTU) (r1 : Fld Z h0 a1 cRT "slots" "[I" .null) (r2 : Fld Z h0 a1 cRT "tagMask" "I" (.int 0)) (r3 : Fld Z h0 a1 cRT "dense" "Z" (.int 0)) (r4 : Fld Z h0 a1 cRT "count" "I" (.int 0)) (g_a1 : n0 ≤ a1) :
    MetFree l (⟨cRT, "<init>", "(Z)V"⟩ : MethodName) (head1 (Jvm.Cond.code (⟨cRT, "<init>", "(Z)V"⟩ : MethodName) prog_47_method_1_code 2 none :: ws) ({ frames := 1, cells := 1, slots := 16, locals := 12 } : Room)) (fun a U => a = #[(.ref a1), (.int 1)] ∧ Z.Warmed39 U.vm ∧ U.heap = h0) (fun _ _ _ _ _ => True) (fun _ U o U' => ∃ v L, o = .returned v ∧ Q_rtInit Z wDE a1 h0 n0 v U'.heap L ∧ FrameEnd U o U' L ({ frames := 1, cells := 1, slots := 16, locals := 12 } : Room).cells ({ frames := 1, cells := 1, slots := 16, locals := 12 } : Room).slots) := by
  refine MetFree.of_bodySF (plainFor_of_name pn_RowTable) hisR ?_
  intro p e s m args below meth c s₁ Bd hml0 hP hK
  obtain ⟨rfl, hZ, hh⟩ := hP
  have hx := Bd.exec
  have hby := Bd.bytes
  have bb := fun {pc : Nat} {r : Except DecodeError (Instr × Nat)} (h : decode prog_47_method_1_code pc = r) => hb hby h
  have ww := fun (i : Nat) {d : Jvm.Cond} (h : tables_1[i]? = some d) => hw d (List.mem_of_getElem? h)
  have hml : c.maxLocals = 2 := hml0
  have hown : s.vm.findClass cRT = some m.cls := findClass_of_methodNamed Bd.named
  have hnm := (name_of_methodNamed Bd.named Bd.method).1
  have X0 : Stand p l e ({ frames := 1, cells := 1, slots := 16, locals := 12 } : Room) s m #[(.ref a1), (.int 1)] below meth c s₁ [] 0 0 := Stand.of_body Bd
  have e0 : s₁.heap = h0 := by rw [← hh, Bd.state]; rfl
  have N0 := Fr.nil n0
  have pre0 : ∀ t, Steps p.tables e below (s₁.setTop (mkF m 0 #[vR a1, vI 1] [])) t → Steps p.tables e below (s₁.setTop (entryFrame m #[(.ref a1), (.int 1)] 2)) t := fun t k => castTop (ef_rtInit m a1) k
  obtain ⟨T1, X1, e1, st1⟩ := initO X0 hx hZ hown (ww 23 rfl) (ww 8 rfl) (ww 9 rfl) e0 (g := (mkF m 1 #[vR a1, vI 1] [(.ref a1)])) rfl (by rw [hml]; rfl) rfl (bb d4_1) (by decide) (W := 0) (by show 2 * 0 + _ ≤ _; exact Nat.le_of_eq rfl) (by decide)
  obtain ⟨T2, h2, k2, X2, e2, E2, A2, B2, st2⟩ := newPE (aty := .int) X1 hx hZ (ww 0 rfl) e1 (g := (mkF m 7 #[vR a1, vI 1] [(.int 16), (.ref a1)])) rfl (bb d4_7) rfl (by decide) (cap := 16) (by decide) (by decide) (by decide) (by decide) (ad := "[I") (by decide)
  obtain ⟨b2, q_b2⟩ : ∃ z, z = (h0).size := ⟨_, rfl⟩
  rw [← q_b2] at A2 B2 st2
  have g_b2 : n0 ≤ b2 := Nat.le_trans (own_z0 O0) (Nat.le_of_eq q_b2.symm)
  have sz_b2 : h0.size ≤ b2 := Nat.le_trans (Nat.le_refl _) (Nat.le_of_eq q_b2.symm)
  have ne_a1_b2 : a1 ≠ b2 := Nat.ne_of_lt (Nat.lt_of_lt_of_le r0.lt (Nat.le_of_eq q_b2.symm))
  have V_b2 : Arv Z h2 b2 k2 .int (16 : Int32) [] (.int 0) := (Arv.new A2 (by decide)).pad (pad_rep [] (.int 0) 0)
  have F4 := (r1.ext E2)
  have F5 := (r0.ext E2)
  obtain ⟨T3, h3, X3, e3, W3, st3⟩ := putF X2 hx hZ hown (host := "") (Or.inl (ww 24 rfl)) Via.refl e2 F4 F5 (Or.inl (ww 25 rfl)) (ww 11 rfl) (ty := (.array .int)) (by decide) rfl rfl (g := (mkF m 9 #[vR a1, vI 1] [(.ref b2), (.ref a1)])) rfl rfl (bb d4_9)
  have Fw3 := F4.same W3
  have N3 := Fr.snoc X3 N0 g_a1
  have F7 := ((r2.ext E2).other W3 (Or.inr (slot_ne (Or.inl (ww 27 rfl)) (Or.inl (ww 25 rfl)) (by decide) (t := .int) (t' := (.array .int)) (by decide) (by decide))))
  have F8 := (F5.wr W3)
  obtain ⟨T6, h6, X6, e6, W6, st6⟩ := putF X3 hx hZ hown (host := "") (Or.inl (ww 26 rfl)) Via.refl e3 F7 F8 (Or.inl (ww 27 rfl)) (ww 11 rfl) (ty := .int) (by decide) rfl rfl (g := (mkF m 15 #[vR a1, vI 1] [(.int (-32)), (.ref a1)])) rfl rfl (bb d4_15)
  have Fw6 := F7.same W6
  have N6 := Fr.snoc X6 N3 g_a1
  have F10 := (((r3.ext E2).other W3 (Or.inr (slot_ne (Or.inr (ww 29 rfl)) (Or.inl (ww 25 rfl)) (by decide) (t := .boolean) (t' := (.array .int)) (by decide) (by decide)))).other W6 (Or.inr (slot_ne (Or.inr (ww 29 rfl)) (Or.inl (ww 27 rfl)) (by decide) (t := .boolean) (t' := .int) (by decide) (by decide))))
  have F11 := (F8.wr W6)
  obtain ⟨T9, h9, X9, e9, W9, st9⟩ := putFN X6 hx hZ hown (ww 28 rfl) Via.refl e6 F10 F11 (Or.inr ⟨(ww 29 rfl), rfl, hnm⟩) (ww 11 rfl) (ty := .boolean) (v' := (.int 1)) (by decide) rfl (by first | exact fits_nar_bool _ | decide) (g := (mkF m 20 #[vR a1, vI 1] [(.int 1), (.ref a1)])) rfl rfl (bb d4_20)
  have Fw9 := F10.same W9
  have N9 := Fr.snoc X9 N6 g_a1
  have F12 := ((Fw3.other W6 (Or.inr (slot_ne (Or.inl (ww 25 rfl)) (Or.inl (ww 27 rfl)) (by decide) (t := (.array .int)) (t' := .int) (by decide) (by decide)))).other W9 (Or.inr (slot_ne (Or.inl (ww 25 rfl)) (Or.inr (ww 29 rfl)) (by decide) (t := (.array .int)) (t' := .boolean) (by decide) (by decide))))
  have F13 := (Fw6.other W9 (Or.inr (slot_ne (Or.inl (ww 27 rfl)) (Or.inr (ww 29 rfl)) (by decide) (t := .int) (t' := .boolean) (by decide) (by decide))))
  have F14 := ((((r4.ext E2).other W3 (Or.inr (slot_ne (Or.inl (ww 251 rfl)) (Or.inl (ww 25 rfl)) (by decide) (t := .int) (t' := (.array .int)) (by decide) (by decide)))).other W6 (Or.inr (slot_ne (Or.inl (ww 251 rfl)) (Or.inl (ww 27 rfl)) (by decide) (t := .int) (t' := .int) (by decide) (by decide)))).other W9 (Or.inr (slot_ne (Or.inl (ww 251 rfl)) (Or.inr (ww 29 rfl)) (by decide) (t := .int) (t' := .boolean) (by decide) (by decide))))
  have F15 := (((V_b2.other W3 (Ne.symm ne_a1_b2)).other W6 (Ne.symm ne_a1_b2)).other W9 (Ne.symm ne_a1_b2))
  obtain ⟨fs, hr, hrun, hended, hW, hsame⟩ := X9.leave (v := none) (fun _ => rfl)
  refine ⟨_, _, pre0 _ ?_, hrun, hended, _, _, rfl, ?_, ⟨_, rfl⟩, hW, hsame.mono (by decide) (by decide)⟩
  · show GG p e below s₁ (mkF m 0 #[vR a1, vI 1] []) _
    refine XS.aloadN X0.here hx rfl (bb d4_0) rfl rfl ?_
    refine st1 _ ?_
    refine XS.aloadN X1.here hx rfl (bb d4_4) rfl rfl ?_
    refine XS.bipush X1.here hx rfl (bb d4_5) ?_
    refine st2 _ ?_
    refine st3 _ ?_
    refine XS.aloadN X3.here hx rfl (bb d4_12) rfl rfl ?_
    refine XS.bipush X3.here hx rfl (bb d4_13) ?_
    refine st6 _ ?_
    refine XS.aloadN X6.here hx rfl (bb d4_18) rfl rfl ?_
    refine XS.iloadN X6.here hx rfl (bb d4_19) rfl ?_
    refine st9 _ ?_
    exact X9.returnOut hx Bd.returns (bb d4_23) hr
  · show Q_rtInit Z wDE a1 h0 n0 _ T9.heap _
    rw [e9]
    exact ⟨b2, k2, rfl, N9, (((((Keep.refl h0 [a1]).ext E2).wr W3 (Or.inl (List.mem_of_getElem? (i := 0) rfl))).wr W6 (Or.inl (List.mem_of_getElem? (i := 0) rfl))).wr W9 (Or.inl (List.mem_of_getElem? (i := 0) rfl))), sz_b2, F12, F13, F14, (Arv.arh F15)⟩
def Q_tuInit (Z : State) (wDE a1 a2 : Addr) (h0 : Heap) (n0 : Nat) (v : Option Value) (h : Heap) (L : List Loc) : Prop := ∃ (os : Addr) (ks_ : ClassId), v = none ∧ Fr n0 L ∧ Keep h0 h [a1] ∧ h0.size ≤ os ∧ Fld Z h a1 cRT "slots" "[I" (.ref os) ∧ Fld Z h a1 cRT "tagMask" "I" (.int (-32)) ∧ Fld Z h a1 cRT "count" "I" (.int 0) ∧ Arh Z h os ks_ .int (16 : Int32) [] [] (.int 0)
set_option maxRecDepth 65536 in
set_option maxHeartbeats 40000000 in
theorem rm_tuInit (l : Launch) (Z : State) (a0 : Array Value) (hw : ∀ d ∈ tables_1, d.before a0 Z = true) (ws : List Jvm.Cond) (wDE : Addr) (a1 a2 : Addr) (h0 : Heap) (n0 : Nat) (Z0 : n0 ≤ h0.size) (S_wDE : Sta Z Z.heap "java/util/ArrayList" "DEFAULTCAPACITY_EMPTY_ELEMENTDATA" "[Ljava/lang/Object;" (.ref wDE)) (O0 : Old Z n0 h0) (S_CS : Sta Z Z.heap cRV "CHUNK_SHIFT" "I" (.int (12 : Int32))) (r0 : Exa Z h0 a1 cTU) (r1 : Fld Z h0 a1 cRT "slots" "[I" .null) (r2 : Fld Z h0 a1 cRT "tagMask" "I" (.int 0)) (r3 : Fld Z h0 a1 cRT "dense" "Z" (.int 0)) (r4 : Fld Z h0 a1 cRT "count" "I" (.int 0)) (r5 : Fld Z h0 a1 cTU "this$0" "Lcom/example/chaseward/chaseward/engine/Relation;" .null) (g_a1 : n0 ≤ a1) :
    MetFree l (⟨cTU, "<init>", "(Lcom/example/chaseward/chaseward/engine/Relation;)V"⟩ : MethodName) (head1 (Jvm.Cond.code (⟨cTU, "<init>", "(Lcom/example/chaseward/chaseward/engine/Relation;)V"⟩ : MethodName) prog_44_method_1_code 2 none :: ws) ({ frames := 2, cells := 1, slots := 16, locals := 25 } : Room)) (fun a U => a = #[(.ref a1), (.ref a2)] ∧ Z.Warmed39 U.vm ∧ U.heap = h0) (fun _ _ _ _ _ => True) (fun _ U o U' => ∃ v L, o = .returned v ∧ Q_tuInit Z wDE a1 a2 h0 n0 v U'.heap L ∧ FrameEnd U o U' L ({ frames := 2, cells := 1, slots := 16, locals := 25 } : Room).cells ({ frames := 2, cells := 1, slots := 16, locals := 25 } : Room).slots) := by
  refine MetFree.of_bodySF (plainFor_of_name pn_Relation_Tuples) hisR ?_
  intro p e s m args below meth c s₁ Bd hml0 hP hK
  obtain ⟨rfl, hZ, hh⟩ := hP
  have hx := Bd.exec
  have hby := Bd.bytes
  have bb := fun {pc : Nat} {r : Except DecodeError (Instr × Nat)} (h : decode prog_44_method_1_code pc = r) => hb hby h
  have ww := fun (i : Nat) {d : Jvm.Cond} (h : tables_1[i]? = some d) => hw d (List.mem_of_getElem? h)
  have hml : c.maxLocals = 2 := hml0
  have hown : s.vm.findClass cTU = some m.cls := findClass_of_methodNamed Bd.named
  have hnm := (name_of_methodNamed Bd.named Bd.method).1
  have X0 : Stand p l e ({ frames := 2, cells := 1, slots := 16, locals := 25 } : Room) s m #[(.ref a1), (.ref a2)] below meth c s₁ [] 0 0 := Stand.of_body Bd
  have e0 : s₁.heap = h0 := by rw [← hh, Bd.state]; rfl
  have N0 := Fr.nil n0
  have pre0 : ∀ t, Steps p.tables e below (s₁.setTop (mkF m 0 #[vR a1, vR a2] [])) t → Steps p.tables e below (s₁.setTop (entryFrame m #[(.ref a1), (.ref a2)] 2)) t := fun t k => castTop (ef_tuInit m a1 a2) k
  obtain ⟨T1, h1, X1, e1, W1, st1⟩ := putF X0 hx hZ hown (host := "") (Or.inl (ww 16 rfl)) Via.refl e0 r5 r0 (Or.inr ⟨(ww 17 rfl), rfl, hnm⟩) (ww 11 rfl) (ty := (.object cRE)) (by decide) rfl rfl (g := (mkF m 2 #[vR a1, vR a2] [(.ref a2), (.ref a1)])) rfl rfl (bb d3_2)
  have Fw1 := r5.same W1
  have N1 := Fr.snoc X1 N0 g_a1
  have F3 := (r0.wr W1)
  have F4 := (r1.other W1 (Or.inr (slot_ne (Or.inl (ww 25 rfl)) (Or.inr (ww 17 rfl)) (by decide) (t := (.array .int)) (t' := (.object cRE)) (by decide) (by decide))))
  have F5 := (r2.other W1 (Or.inr (slot_ne (Or.inl (ww 27 rfl)) (Or.inr (ww 17 rfl)) (by decide) (t := .int) (t' := (.object cRE)) (by decide) (by decide))))
  have F6 := (r3.other W1 (Or.inr (slot_ne (Or.inr (ww 29 rfl)) (Or.inr (ww 17 rfl)) (by decide) (t := .boolean) (t' := (.object cRE)) (by decide) (by decide))))
  have F7 := (r4.other W1 (Or.inr (slot_ne (Or.inl (ww 251 rfl)) (Or.inr (ww 17 rfl)) (by decide) (t := .int) (t' := (.object cRE)) (by decide) (by decide))))
  have O8 := (O0.wr W1 g_a1)
  obtain ⟨_, _, ⟨T2, L2, k2, n2⟩, -, X2, ⟨Lc2, hQ2, l2, y2, z2⟩, st2⟩ := X1.specialBack hx (y := (⟨cRT, "<init>", "(Z)V"⟩ : MethodName)) rfl hown (mvT hZ (ww 18 rfl)) (mvT hZ (ww 19 rfl)) (mvT hZ (ww 22 rfl)) (by decide) (backOf (W := 0) (rm_rtInit l Z a0 hw [] wDE a1 h1 n0 (own_z0 O8) S_wDE O8 S_CS F3 F4 F5 F6 F7 g_a1) hZ (ww 22 rfl) (ww 21 rfl) (by decide) (by decide)) (g := (mkF m 7 #[vR a1, vR a2] [(.int 1), (.ref a1)])) rfl (by rw [hml]; rfl) (Steps.refl _) (a := a1) (argsL := [(.int 1)]) (rest := []) (lenOf pd__Z_V_4 rfl) rfl (by show 2 * 0 + _ ≤ _; exact Nat.le_of_eq rfl) (bb d3_7) (fun _ _ => ⟨rfl, e1, (by decide : 0 + 1 ≤ _), (by decide : 0 + 16 ≤ _)⟩)
  dsimp only [Pt.U, Pt.locs, Pt.cells, Pt.slots] at X2 l2 y2 z2 st2 hQ2
  subst l2 y2 z2
  obtain ⟨os2, ks_2, rfl, N2q, K2, szz_os2, f2_0, f2_1, f2_2, f2_3⟩ := hQ2
  have N2 := Fr.app N1 N2q
  have g_os2 : n0 ≤ os2 := Nat.le_trans (own_z0 O8) szz_os2
  have sz_os2 : h0.size ≤ os2 := Nat.le_trans (Nat.le_trans (Nat.le_refl _) (Keep.of_wr W1).1) szz_os2
  have ne_a1_os2 : a1 ≠ os2 := Nat.ne_of_lt (Nat.lt_of_lt_of_le F3.lt szz_os2)
  obtain ⟨fs, hr, hrun, hended, hW, hsame⟩ := X2.leave (v := none) (fun _ => rfl)
  refine ⟨_, _, pre0 _ ?_, hrun, hended, _, _, rfl, ?_, ⟨_, rfl⟩, hW, hsame.mono (by decide) (by decide)⟩
  · show GG p e below s₁ (mkF m 0 #[vR a1, vR a2] []) _
    refine XS.aloadN X0.here hx rfl (bb d3_0) rfl rfl ?_
    refine XS.aloadN X0.here hx rfl (bb d3_1) rfl rfl ?_
    refine st1 _ ?_
    refine XS.aloadN X1.here hx rfl (bb d3_5) rfl rfl ?_
    refine XS.iconst X1.here hx rfl (bb d3_6) ?_
    refine st2.trans ?_
    exact X2.returnOut hx Bd.returns (bb d3_10) hr
  · show Q_tuInit Z wDE a1 a2 h0 n0 _ T2.heap _
    exact ⟨os2, ks_2, rfl, N2, (((Keep.refl h0 [a1]).wr W1 (Or.inl (List.mem_of_getElem? (i := 0) rfl))).trans K2 (allS (Or.inl (List.mem_of_getElem? (i := 0) rfl)) all0)), sz_os2, f2_0, f2_1, f2_2, f2_3⟩
def Q_reInit (Z : State) (wDE a1 : Addr) (h0 : Heap) (n0 : Nat) (v : Option Value) (h : Heap) (L : List Loc) : Prop := ∃ (ot os ox ovs ow on ob ol oh ov : Addr) (ks_ kw_ kn_ kb_ kl_ kh_ kv_ : ClassId), v = none ∧ Fr n0 L ∧ Keep h0 h [a1] ∧ h0.size ≤ ot ∧ h0.size ≤ os ∧ h0.size ≤ ox ∧ h0.size ≤ ovs ∧ h0.size ≤ ow ∧ h0.size ≤ on ∧ h0.size ≤ ob ∧ h0.size ≤ ol ∧ h0.size ≤ oh ∧ h0.size ≤ ov ∧ ot ≠ os ∧ ot ≠ ox ∧ ot ≠ ovs ∧ ot ≠ ow ∧ ot ≠ on ∧ ot ≠ ob ∧ ot ≠ ol ∧ ot ≠ oh ∧ ot ≠ ov ∧ os ≠ ox ∧ os ≠ ovs ∧ os ≠ ow ∧ os ≠ on ∧ os ≠ ob ∧ os ≠ ol ∧ os ≠ oh ∧ os ≠ ov ∧ ox ≠ ovs ∧ ox ≠ ow ∧ ox ≠ on ∧ ox ≠ ob ∧ ox ≠ ol ∧ ox ≠ oh ∧ ox ≠ ov ∧ ovs ≠ ow ∧ ovs ≠ on ∧ ovs ≠ ob ∧ ovs ≠ ol ∧ ovs ≠ oh ∧ ovs ≠ ov ∧ ow ≠ on ∧ ow ≠ ob ∧ ow ≠ ol ∧ ow ≠ oh ∧ ow ≠ ov ∧ on ≠ ob ∧ on ≠ ol ∧ on ≠ oh ∧ on ≠ ov ∧ ob ≠ ol ∧ ob ≠ oh ∧ ob ≠ ov ∧ ol ≠ oh ∧ ol ≠ ov ∧ oh ≠ ov ∧ Fld Z h a1 cRE "table" "Lcom/example/chaseward/chaseward/engine/Relation$Tuples;" (.ref ot) ∧ Fld Z h a1 cRE "indexes" "Ljava/util/List;" (.ref ox) ∧ Fld Z h a1 cRE "values" "Lcom/example/chaseward/chaseward/engine/RowValues;" (.ref ovs) ∧ Fld Z h a1 cRE "onlyNew" "Z" (.int 0) ∧ Fld Z h a1 cRE "sought" "[I" .null ∧ Fld Z h a1 cRE "growth" "Ljava/lang/Runnable;" .null ∧ Fld Z h a1 cRE "deltaStart" "I" (.int 0) ∧ Fld Z h a1 cRE "deltaEnd" "I" (.int 0) ∧ Fld Z h a1 cRE "rows" "I" (.int 0) ∧ Fld Z h a1 cRE "holdsNull" "Z" (.int 0) ∧ Fld Z h a1 cRE "rowWithNull" "Ljava/util/function/IntConsumer;" .null ∧ Exa Z h ot cTU ∧ Fld Z h ot cRT "slots" "[I" (.ref os) ∧ Fld Z h ot cRT "tagMask" "I" (.int (-32)) ∧ Fld Z h ot cRT "count" "I" (.int 0) ∧ Arh Z h os ks_ .int (16 : Int32) [] [] (.int 0) ∧ Exa Z h ox "java/util/ArrayList" ∧ Fld Z h ox "java/util/AbstractList" "modCount" "I" (.int 0) ∧ Fld Z h ox "java/util/ArrayList" "size" "I" (.int 0) ∧ Exa Z h ovs cRV ∧ Fld Z h ovs cRV "arity" "I" (.int 1) ∧ Fld Z h ovs cRV "rows" "I" (.int 0) ∧ Fld Z h ovs cRV "wide" "[[I" (.ref ow) ∧ Fld Z h ovs cRV "narrow" "[[C" (.ref on) ∧ Fld Z h ovs cRV "bases" "[I" (.ref ob) ∧ Fld Z h ovs cRV "lowest" "[I" (.ref ol) ∧ Fld Z h ovs cRV "highest" "[I" (.ref oh) ∧ Arv Z h ow kw_ (.array .int) (1 : Int32) [.null] .null ∧ OvrA Z kw_ .int "[I" ∧ Arv Z h on kn_ (.array .char) (1 : Int32) [(.ref ov)] .null ∧ OvrA Z kn_ .char "[C" ∧ Arv Z h ob kb_ .int (1 : Int32) [(.int 0)] (.int 0) ∧ Arv Z h ol kl_ .int (1 : Int32) [(.int 0)] (.int 0) ∧ Arv Z h oh kh_ .int (1 : Int32) [(.int 0)] (.int 0) ∧ Arv Z h ov kv_ .char (8 : Int32) [(.int 0), (.int 0), (.int 0), (.int 0), (.int 0), (.int 0), (.int 0), (.int 0)] (.int 0)
set_option maxRecDepth 65536 in
set_option maxHeartbeats 40000000 in
theorem rm_reInit (l : Launch) (Z : State) (a0 : Array Value) (hw : ∀ d ∈ tables_1, d.before a0 Z = true) (ws : List Jvm.Cond) (wDE : Addr) (a1 : Addr) (h0 : Heap) (n0 : Nat) (Z0 : n0 ≤ h0.size) (S_wDE : Sta Z Z.heap "java/util/ArrayList" "DEFAULTCAPACITY_EMPTY_ELEMENTDATA" "[Ljava/lang/Object;" (.ref wDE)) (O0 : Old Z n0 h0) (S_CS : Sta Z Z.heap cRV "CHUNK_SHIFT" "I" (.int (12 : Int32))) (r0 : Exa Z h0 a1 cRE) (r1 : Fld Z h0 a1 cRE "table" "Lcom/example/chaseward/chaseward/engine/Relation$Tuples;" .null) (r2 : Fld Z h0 a1 cRE "indexes" "Ljava/util/List;" .null) (r3 : Fld Z h0 a1 cRE "values" "Lcom/example/chaseward/chaseward/engine/RowValues;" .null) (r4 : Fld Z h0 a1 cRE "arity" "I" (.int 0)) (r5 : Fld Z h0 a1 cRE "onlyNew" "Z" (.int 0)) (r6 : Fld Z h0 a1 cRE "sought" "[I" .null) (r7 : Fld Z h0 a1 cRE "growth" "Ljava/lang/Runnable;" .null) (r8 : Fld Z h0 a1 cRE "deltaStart" "I" (.int 0)) (r9 : Fld Z h0 a1 cRE "deltaEnd" "I" (.int 0)) (r10 : Fld Z h0 a1 cRE "rows" "I" (.int 0)) (r11 : Fld Z h0 a1 cRE "holdsNull" "Z" (.int 0)) (r12 : Fld Z h0 a1 cRE "rowWithNull" "Ljava/util/function/IntConsumer;" .null) (g_a1 : n0 ≤ a1) :
    MetFree l (⟨cRE, "<init>", "(I)V"⟩ : MethodName) (head1 (Jvm.Cond.code (⟨cRE, "<init>", "(I)V"⟩ : MethodName) prog_43_method_1_code 2 none :: ws) ({ frames := 4, cells := 10, slots := 44, locals := 50 } : Room)) (fun a U => a = #[(.ref a1), (.int 1)] ∧ Z.Warmed39 U.vm ∧ U.heap = h0) (fun _ _ _ _ _ => True) (fun _ U o U' => ∃ v L, o = .returned v ∧ Q_reInit Z wDE a1 h0 n0 v U'.heap L ∧ FrameEnd U o U' L ({ frames := 4, cells := 10, slots := 44, locals := 50 } : Room).cells ({ frames := 4, cells := 10, slots := 44, locals := 50 } : Room).slots) := by
  refine MetFree.of_bodySF (plainFor_of_name pn_Relation) hisR ?_
  intro p e s m args below meth c s₁ Bd hml0 hP hK
  obtain ⟨rfl, hZ, hh⟩ := hP
  have hx := Bd.exec
  have hby := Bd.bytes
  have bb := fun {pc : Nat} {r : Except DecodeError (Instr × Nat)} (h : decode prog_43_method_1_code pc = r) => hb hby h
  have ww := fun (i : Nat) {d : Jvm.Cond} (h : tables_1[i]? = some d) => hw d (List.mem_of_getElem? h)
  have hml : c.maxLocals = 2 := hml0
  have hown : s.vm.findClass cRE = some m.cls := findClass_of_methodNamed Bd.named
  have hnm := (name_of_methodNamed Bd.named Bd.method).1
  have X0 : Stand p l e ({ frames := 4, cells := 10, slots := 44, locals := 50 } : Room) s m #[(.ref a1), (.int 1)] below meth c s₁ [] 0 0 := Stand.of_body Bd
  have e0 : s₁.heap = h0 := by rw [← hh, Bd.state]; rfl
  have N0 := Fr.nil n0
  have pre0 : ∀ t, Steps p.tables e below (s₁.setTop (mkF m 0 #[vR a1, vI 1] [])) t → Steps p.tables e below (s₁.setTop (entryFrame m #[(.ref a1), (.int 1)] 2)) t := fun t k => castTop (ef_reInit m a1) k
  obtain ⟨T1, X1, e1, st1⟩ := initO X0 hx hZ hown (ww 7 rfl) (ww 8 rfl) (ww 9 rfl) e0 (g := (mkF m 1 #[vR a1, vI 1] [(.ref a1)])) rfl (by rw [hml]; rfl) rfl (bb d1_1) (by decide) (W := 0) (by show 2 * 0 + _ ≤ _; exact Nat.le_of_eq rfl) (by decide)
  obtain ⟨T2, h2, X2, e2, E2, A2, D2, -, st2⟩ := newO X1 hx hZ hown (ww 10 rfl) (ww 11 rfl) (ww 12 rfl) e1 (g := (mkF m 5 #[vR a1, vI 1] [(.ref a1)])) rfl (bb d1_5) (by decide) (by decide)
  obtain ⟨b2, q_b2⟩ : ∃ z, z = (h0).size := ⟨_, rfl⟩
  rw [← q_b2] at A2 D2 st2
  have g_b2 : n0 ≤ b2 := Nat.le_trans (own_z0 O0) (Nat.le_of_eq q_b2.symm)
  have sz_b2 : h0.size ≤ b2 := Nat.le_trans (Nat.le_refl _) (Nat.le_of_eq q_b2.symm)
  have ne_a1_b2 : a1 ≠ b2 := Nat.ne_of_lt (Nat.lt_of_lt_of_le r0.lt (Nat.le_of_eq q_b2.symm))
  have F_this_0_b2 : Fld Z h2 b2 cTU "this$0" "Lcom/example/chaseward/chaseward/engine/Relation;" .null := D2 (Or.inr (ww 17 rfl)) (ty := (.object cRE)) (by decide)
  have F_slots_b2 : Fld Z h2 b2 cRT "slots" "[I" .null := D2 (Or.inl (ww 25 rfl)) (ty := (.array .int)) (by decide)
  have F_tagMask_b2 : Fld Z h2 b2 cRT "tagMask" "I" (.int 0) := D2 (Or.inl (ww 27 rfl)) (ty := .int) (by decide)
  have F_dense_b2 : Fld Z h2 b2 cRT "dense" "Z" (.int 0) := D2 (Or.inr (ww 29 rfl)) (ty := .boolean) (by decide)
  have F_count_b2 : Fld Z h2 b2 cRT "count" "I" (.int 0) := D2 (Or.inl (ww 251 rfl)) (ty := .int) (by decide)
  have O4 := (O0.ext E2)
  obtain ⟨_, _, ⟨T3, L3, k3, n3⟩, -, X3, ⟨Lc3, hQ3, l3, y3, z3⟩, st3⟩ := X2.specialBack hx (y := (⟨cTU, "<init>", "(Lcom/example/chaseward/chaseward/engine/Relation;)V"⟩ : MethodName)) rfl hown (mvT hZ (ww 13 rfl)) (mvT hZ (ww 14 rfl)) (mvT hZ (ww 15 rfl)) (by decide) (backOf (W := 2) (rm_tuInit l Z a0 hw [] wDE b2 a1 h2 n0 (own_z0 O4) S_wDE O4 S_CS A2 F_slots_b2 F_tagMask_b2 F_dense_b2 F_count_b2 F_this_0_b2 g_b2) hZ (ww 15 rfl) (ww 12 rfl) (by decide) (by decide)) (g := (mkF m 10 #[vR a1, vI 1] [(.ref a1), (.ref b2), (.ref b2), (.ref a1)])) rfl (by rw [hml]; rfl) (Steps.refl _) (a := b2) (argsL := [(.ref a1)]) (rest := [(.ref b2), (.ref a1)]) (lenOf pd_e_chaseward_chaseward_engine_Relation__V_52 rfl) rfl (by show 2 * 0 + _ ≤ _; exact Nat.le_of_eq rfl) (bb d1_10) (fun _ _ => ⟨rfl, e2, (by decide : 1 + 1 ≤ _), (by decide : 5 + 16 ≤ _)⟩)
  dsimp only [Pt.U, Pt.locs, Pt.cells, Pt.slots] at X3 l3 y3 z3 st3 hQ3
  subst l3 y3 z3
  obtain ⟨os3, ks_3, rfl, N3q, K3, szz_os3, f3_0, f3_1, f3_2, f3_3⟩ := hQ3
  have N3 := Fr.app N0 N3q
  have g_os3 : n0 ≤ os3 := Nat.le_trans (own_z0 O4) szz_os3
  have sz_os3 : h0.size ≤ os3 := Nat.le_trans (Nat.le_trans (Nat.le_refl _) E2.1) szz_os3
  have F5 := (r0.ext E2)
  have ne_a1_os3 : a1 ≠ os3 := Nat.ne_of_lt (Nat.lt_of_lt_of_le F5.lt szz_os3)
  have ne_b2_os3 : b2 ≠ os3 := Nat.ne_of_lt (Nat.lt_of_lt_of_le A2.lt szz_os3)
  have F7 := ((r1.ext E2).keep K3 (ninS ne_a1_b2 nin0))
  have F8 := (F5.keep K3)
  obtain ⟨T6, h6, X6, e6, W6, st6⟩ := putF X3 hx hZ hown (host := "") (Or.inl (ww 30 rfl)) Via.refl rfl F7 F8 (Or.inl (ww 31 rfl)) (ww 2 rfl) (ty := (.object cTU)) (by decide) rfl rfl (g := (mkF m 13 #[vR a1, vI 1] [(.ref b2), (.ref a1)])) rfl rfl (bb d1_13)
  have Fw6 := F7.same W6
  have N6 := Fr.snoc X6 N3 g_a1
  have O10 := ((O4.keep K3 (allS g_b2 all0)).wr W6 g_a1)
  obtain ⟨T9, h9, X9, e9, E9, A9, D9, -, st9⟩ := newO X6 hx hZ hown (ww 32 rfl) (ww 33 rfl) (ww 34 rfl) e6 (g := (mkF m 17 #[vR a1, vI 1] [(.ref a1)])) rfl (bb d1_17) (by decide) (by decide)
  obtain ⟨b9, q_b9⟩ : ∃ z, z = (h6).size := ⟨_, rfl⟩
  rw [← q_b9] at A9 D9 st9
  have g_b9 : n0 ≤ b9 := Nat.le_trans (own_z0 O10) (Nat.le_of_eq q_b9.symm)
  have sz_b9 : h0.size ≤ b9 := Nat.le_trans (Nat.le_trans (Nat.le_trans (Nat.le_trans (Nat.le_refl _) E2.1) K3.1) (Keep.of_wr W6).1) (Nat.le_of_eq q_b9.symm)
  have F11 := (F8.wr W6)
  have ne_a1_b9 : a1 ≠ b9 := Nat.ne_of_lt (Nat.lt_of_lt_of_le F11.lt (Nat.le_of_eq q_b9.symm))
  have F12 := ((A2.keep K3).wr W6)
  have ne_b2_b9 : b2 ≠ b9 := Nat.ne_of_lt (Nat.lt_of_lt_of_le F12.lt (Nat.le_of_eq q_b9.symm))
  have F13 := (f3_3.other W6 (Ne.symm ne_a1_os3))
  have ne_os3_b9 : os3 ≠ b9 := Nat.ne_of_lt (Nat.lt_of_lt_of_le F13.lt (Nat.le_of_eq q_b9.symm))
  have F_modCount_b9 : Fld Z h9 b9 "java/util/AbstractList" "modCount" "I" (.int 0) := D9 (Or.inl (ww 52 rfl)) (ty := .int) (by decide)
  have F_elementData_b9 : Fld Z h9 b9 "java/util/ArrayList" "elementData" "[Ljava/lang/Object;" .null := D9 (Or.inl (ww 55 rfl)) (ty := (.array (.object "java/lang/Object"))) (by decide)
  have F_size_b9 : Fld Z h9 b9 "java/util/ArrayList" "size" "I" (.int 0) := D9 (Or.inl (ww 236 rfl)) (ty := .int) (by decide)
  have O15 := (O10.ext E9)
  obtain ⟨_, _, ⟨T14, L14, k14, n14⟩, -, X14, ⟨Lc14, hQ14, l14, y14, z14⟩, st14⟩ := X9.specialBack hx (y := (⟨"java/util/ArrayList", "<init>", "()V"⟩ : MethodName)) rfl hown (mvT hZ (ww 35 rfl)) (mvT hZ (ww 36 rfl)) (mvT hZ (ww 37 rfl)) (by decide) (backOf (W := 2) (rm_alInit l Z a0 hw [] wDE b9 h9 n0 (own_z0 O15) S_wDE O15 S_CS A9 F_modCount_b9 F_size_b9 F_elementData_b9 g_b9) hZ (ww 37 rfl) (ww 34 rfl) (by decide) (by decide)) (g := (mkF m 21 #[vR a1, vI 1] [(.ref b9), (.ref b9), (.ref a1)])) rfl (by rw [hml]; rfl) (Steps.refl _) (a := b9) (argsL := []) (rest := [(.ref b9), (.ref a1)]) (lenOf pd___V_3 rfl) rfl (by show 2 * 0 + _ ≤ _; exact Nat.le_of_eq rfl) (bb d1_21) (fun _ _ => ⟨rfl, e9, (by decide : 3 + 0 ≤ _), (by decide : 24 + 0 ≤ _)⟩)
  dsimp only [Pt.U, Pt.locs, Pt.cells, Pt.slots] at X14 l14 y14 z14 st14 hQ14
  subst l14 y14 z14
  obtain ⟨rfl, N14q, K14, f14_0, f14_1⟩ := hQ14
  have N14 := Fr.app N6 N14q
  have F17 := (((((r2.ext E2).keep K3 (ninS ne_a1_b2 nin0)).other W6 (Or.inr (slot_ne (Or.inr (ww 57 rfl)) (Or.inl (ww 31 rfl)) (by decide) (t := (.object "java/util/List")) (t' := (.object cTU)) (by decide) (by decide)))).ext E9).keep K14 (ninS ne_a1_b9 nin0))
  have F18 := ((F11.ext E9).keep K14)
  obtain ⟨T16, h16, X16, e16, W16, st16⟩ := putF X14 hx hZ hown (host := "") (Or.inl (ww 56 rfl)) Via.refl rfl F17 F18 (Or.inr ⟨(ww 57 rfl), rfl, hnm⟩) (ww 2 rfl) (ty := (.object "java/util/List")) (by decide) rfl rfl (g := (mkF m 24 #[vR a1, vI 1] [(.ref b9), (.ref a1)])) rfl rfl (bb d1_24)
  have Fw16 := F17.same W16
  have N16 := Fr.snoc X16 N14 g_a1
  have F20 := ((((((r4.ext E2).keep K3 (ninS ne_a1_b2 nin0)).other W6 (Or.inr (slot_ne (Or.inr (ww 59 rfl)) (Or.inl (ww 31 rfl)) (by decide) (t := .int) (t' := (.object cTU)) (by decide) (by decide)))).ext E9).keep K14 (ninS ne_a1_b9 nin0)).other W16 (Or.inr (slot_ne (Or.inr (ww 59 rfl)) (Or.inr (ww 57 rfl)) (by decide) (t := .int) (t' := (.object "java/util/List")) (by decide) (by decide))))
  have F21 := (F18.wr W16)
  obtain ⟨T19, h19, X19, e19, W19, st19⟩ := putF X16 hx hZ hown (host := "") (Or.inl (ww 58 rfl)) Via.refl e16 F20 F21 (Or.inr ⟨(ww 59 rfl), rfl, hnm⟩) (ww 2 rfl) (ty := .int) (by decide) rfl rfl (g := (mkF m 29 #[vR a1, vI 1] [(.int 1), (.ref a1)])) rfl rfl (bb d1_29)
  have Fw19 := F20.same W19
  have N19 := Fr.snoc X19 N16 g_a1
  have O23 := (((O15.keep K14 (allS g_b9 all0)).wr W16 g_a1).wr W19 g_a1)
  obtain ⟨T22, h22, X22, e22, E22, A22, D22, -, st22⟩ := newO X19 hx hZ hown (ww 60 rfl) (ww 61 rfl) (ww 62 rfl) e19 (g := (mkF m 33 #[vR a1, vI 1] [(.ref a1)])) rfl (bb d1_33) (by decide) (by decide)
  obtain ⟨b22, q_b22⟩ : ∃ z, z = (h19).size := ⟨_, rfl⟩
  rw [← q_b22] at A22 D22 st22
  have g_b22 : n0 ≤ b22 := Nat.le_trans (own_z0 O23) (Nat.le_of_eq q_b22.symm)
  have sz_b22 : h0.size ≤ b22 := Nat.le_trans (Nat.le_trans (Nat.le_trans (Nat.le_trans (Nat.le_trans (Nat.le_trans (Nat.le_trans (Nat.le_trans (Nat.le_refl _) E2.1) K3.1) (Keep.of_wr W6).1) E9.1) K14.1) (Keep.of_wr W16).1) (Keep.of_wr W19).1) (Nat.le_of_eq q_b22.symm)
  have F24 := (F21.wr W19)
  have ne_a1_b22 : a1 ≠ b22 := Nat.ne_of_lt (Nat.lt_of_lt_of_le F24.lt (Nat.le_of_eq q_b22.symm))
  have F25 := ((((F12.ext E9).keep K14).wr W16).wr W19)
  have ne_b2_b22 : b2 ≠ b22 := Nat.ne_of_lt (Nat.lt_of_lt_of_le F25.lt (Nat.le_of_eq q_b22.symm))
  have F26 := ((((F13.ext E9).keep K14 (ninS ne_os3_b9 nin0)).other W16 (Ne.symm ne_a1_os3)).other W19 (Ne.symm ne_a1_os3))
  have ne_os3_b22 : os3 ≠ b22 := Nat.ne_of_lt (Nat.lt_of_lt_of_le F26.lt (Nat.le_of_eq q_b22.symm))
  have F27 := (((A9.keep K14).wr W16).wr W19)
  have ne_b9_b22 : b9 ≠ b22 := Nat.ne_of_lt (Nat.lt_of_lt_of_le F27.lt (Nat.le_of_eq q_b22.symm))
  have F_wide_b22 : Fld Z h22 b22 cRV "wide" "[[I" .null := D22 (Or.inl (ww 70 rfl)) (ty := (.array (.array .int))) (by decide)
  have F_narrow_b22 : Fld Z h22 b22 cRV "narrow" "[[C" .null := D22 (Or.inl (ww 74 rfl)) (ty := (.array (.array .char))) (by decide)
  have F_arity_b22 : Fld Z h22 b22 cRV "arity" "I" (.int 0) := D22 (Or.inr (ww 76 rfl)) (ty := .int) (by decide)
  have F_bases_b22 : Fld Z h22 b22 cRV "bases" "[I" .null := D22 (Or.inl (ww 78 rfl)) (ty := (.array .int)) (by decide)
  have F_lowest_b22 : Fld Z h22 b22 cRV "lowest" "[I" .null := D22 (Or.inr (ww 80 rfl)) (ty := (.array .int)) (by decide)
  have F_highest_b22 : Fld Z h22 b22 cRV "highest" "[I" .null := D22 (Or.inr (ww 82 rfl)) (ty := (.array .int)) (by decide)
  have F_rows_b22 : Fld Z h22 b22 cRV "rows" "I" (.int 0) := D22 (Or.inl (ww 163 rfl)) (ty := .int) (by decide)
  have O29 := (O23.ext E22)
  obtain ⟨_, _, ⟨T28, L28, k28, n28⟩, -, X28, ⟨Lc28, hQ28, l28, y28, z28⟩, st28⟩ := X22.specialBack hx (y := (⟨cRV, "<init>", "(I)V"⟩ : MethodName)) rfl hown (mvT hZ (ww 63 rfl)) (mvT hZ (ww 64 rfl)) (mvT hZ (ww 65 rfl)) (by decide) (backOf (W := 2) (rm_rvInit1 l Z a0 hw [] wDE b22 h22 n0 (own_z0 O29) S_wDE O29 S_CS A22 F_arity_b22 F_rows_b22 F_wide_b22 F_narrow_b22 F_bases_b22 F_lowest_b22 F_highest_b22 g_b22) hZ (ww 65 rfl) (ww 62 rfl) (by decide) (by decide)) (g := (mkF m 38 #[vR a1, vI 1] [(.int 1), (.ref b22), (.ref b22), (.ref a1)])) rfl (by rw [hml]; rfl) (Steps.refl _) (a := b22) (argsL := [(.int 1)]) (rest := [(.ref b22), (.ref a1)]) (lenOf pd__I_V_4 rfl) rfl (by show 2 * 0 + _ ≤ _; exact Nat.le_of_eq rfl) (bb d1_38) (fun _ _ => ⟨rfl, e22, (by decide : 4 + 6 ≤ _), (by decide : 31 + 13 ≤ _)⟩)
  dsimp only [Pt.U, Pt.locs, Pt.cells, Pt.slots] at X28 l28 y28 z28 st28 hQ28
  subst l28 y28 z28
  obtain ⟨ow28, on28, ob28, ol28, oh28, ov28, kw_28, kn_28, kb_28, kl_28, kh_28, kv_28, rfl, N28q, K28, sz_ow28, sz_on28, sz_ob28, sz_ol28, sz_oh28, sz_ov28, ne_ow28_on28, ne_ow28_ob28, ne_ow28_ol28, ne_ow28_oh28, ne_ow28_ov28, ne_on28_ob28, ne_on28_ol28, ne_on28_oh28, ne_on28_ov28, ne_ob28_ol28, ne_ob28_oh28, ne_ob28_ov28, ne_ol28_oh28, ne_ol28_ov28, ne_oh28_ov28, f28_0, f28_1, f28_2, f28_3, f28_4, f28_5, f28_6, f28_7, f28_8, f28_9, f28_10, f28_11, f28_12, f28_13, f28_14, f28_15⟩ := hQ28
  have N28 := Fr.app N19 N28q
  have szz_ow28 := sz_ow28
  have g_ow28 : n0 ≤ ow28 := Nat.le_trans (own_z0 O29) szz_ow28
  have sz_ow28 : h0.size ≤ ow28 := Nat.le_trans (Nat.le_trans (Nat.le_trans (Nat.le_trans (Nat.le_trans (Nat.le_trans (Nat.le_trans (Nat.le_trans (Nat.le_trans (Nat.le_refl _) E2.1) K3.1) (Keep.of_wr W6).1) E9.1) K14.1) (Keep.of_wr W16).1) (Keep.of_wr W19).1) E22.1) szz_ow28
  have F30 := (F24.ext E22)
  have ne_a1_ow28 : a1 ≠ ow28 := Nat.ne_of_lt (Nat.lt_of_lt_of_le F30.lt szz_ow28)
  have F31 := (F25.ext E22)
  have ne_b2_ow28 : b2 ≠ ow28 := Nat.ne_of_lt (Nat.lt_of_lt_of_le F31.lt szz_ow28)
  have F32 := (F26.ext E22)
  have ne_os3_ow28 : os3 ≠ ow28 := Nat.ne_of_lt (Nat.lt_of_lt_of_le F32.lt szz_ow28)
  have F33 := (F27.ext E22)
  have ne_b9_ow28 : b9 ≠ ow28 := Nat.ne_of_lt (Nat.lt_of_lt_of_le F33.lt szz_ow28)
  have ne_b22_ow28 : b22 ≠ ow28 := Nat.ne_of_lt (Nat.lt_of_lt_of_le A22.lt szz_ow28)
  have szz_on28 := sz_on28
  have g_on28 : n0 ≤ on28 := Nat.le_trans (own_z0 O29) szz_on28
  have sz_on28 : h0.size ≤ on28 := Nat.le_trans (Nat.le_trans (Nat.le_trans (Nat.le_trans (Nat.le_trans (Nat.le_trans (Nat.le_trans (Nat.le_trans (Nat.le_trans (Nat.le_refl _) E2.1) K3.1) (Keep.of_wr W6).1) E9.1) K14.1) (Keep.of_wr W16).1) (Keep.of_wr W19).1) E22.1) szz_on28
  have ne_a1_on28 : a1 ≠ on28 := Nat.ne_of_lt (Nat.lt_of_lt_of_le F30.lt szz_on28)
  have ne_b2_on28 : b2 ≠ on28 := Nat.ne_of_lt (Nat.lt_of_lt_of_le F31.lt szz_on28)
  have ne_os3_on28 : os3 ≠ on28 := Nat.ne_of_lt (Nat.lt_of_lt_of_le F32.lt szz_on28)
  have ne_b9_on28 : b9 ≠ on28 := Nat.ne_of_lt (Nat.lt_of_lt_of_le F33.lt szz_on28)
  have ne_b22_on28 : b22 ≠ on28 := Nat.ne_of_lt (Nat.lt_of_lt_of_le A22.lt szz_on28)
  have szz_ob28 := sz_ob28
  have g_ob28 : n0 ≤ ob28 := Nat.le_trans (own_z0 O29) szz_ob28
  have sz_ob28 : h0.size ≤ ob28 := Nat.le_trans (Nat.le_trans (Nat.le_trans (Nat.le_trans (Nat.le_trans (Nat.le_trans (Nat.le_trans (Nat.le_trans (Nat.le_trans (Nat.le_refl _) E2.1) K3.1) (Keep.of_wr W6).1) E9.1) K14.1) (Keep.of_wr W16).1) (Keep.of_wr W19).1) E22.1) szz_ob28
  have ne_a1_ob28 : a1 ≠ ob28 := Nat.ne_of_lt (Nat.lt_of_lt_of_le F30.lt szz_ob28)
  have ne_b2_ob28 : b2 ≠ ob28 := Nat.ne_of_lt (Nat.lt_of_lt_of_le F31.lt szz_ob28)
  have ne_os3_ob28 : os3 ≠ ob28 := Nat.ne_of_lt (Nat.lt_of_lt_of_le F32.lt szz_ob28)
  have ne_b9_ob28 : b9 ≠ ob28 := Nat.ne_of_lt (Nat.lt_of_lt_of_le F33.lt szz_ob28)
  have ne_b22_ob28 : b22 ≠ ob28 := Nat.ne_of_lt (Nat.lt_of_lt_of_le A22.lt szz_ob28)
  have szz_ol28 := sz_ol28
  have g_ol28 : n0 ≤ ol28 := Nat.le_trans (own_z0 O29) szz_ol28
  have sz_ol28 : h0.size ≤ ol28 := Nat.le_trans (Nat.le_trans (Nat.le_trans (Nat.le_trans (Nat.le_trans (Nat.le_trans (Nat.le_trans (Nat.le_trans (Nat.le_trans (Nat.le_refl _) E2.1) K3.1) (Keep.of_wr W6).1) E9.1) K14.1) (Keep.of_wr W16).1) (Keep.of_wr W19).1) E22.1) szz_ol28
  have ne_a1_ol28 : a1 ≠ ol28 := Nat.ne_of_lt (Nat.lt_of_lt_of_le F30.lt szz_ol28)
  have ne_b2_ol28 : b2 ≠ ol28 := Nat.ne_of_lt (Nat.lt_of_lt_of_le F31.lt szz_ol28)
  have ne_os3_ol28 : os3 ≠ ol28 := Nat.ne_of_lt (Nat.lt_of_lt_of_le F32.lt szz_ol28)
  have ne_b9_ol28 : b9 ≠ ol28 := Nat.ne_of_lt (Nat.lt_of_lt_of_le F33.lt szz_ol28)
  have ne_b22_ol28 : b22 ≠ ol28 := Nat.ne_of_lt (Nat.lt_of_lt_of_le A22.lt szz_ol28)
  have szz_oh28 := sz_oh28
  have g_oh28 : n0 ≤ oh28 := Nat.le_trans (own_z0 O29) szz_oh28
  have sz_oh28 : h0.size ≤ oh28 := Nat.le_trans (Nat.le_trans (Nat.le_trans (Nat.le_trans (Nat.le_trans (Nat.le_trans (Nat.le_trans (Nat.le_trans (Nat.le_trans (Nat.le_refl _) E2.1) K3.1) (Keep.of_wr W6).1) E9.1) K14.1) (Keep.of_wr W16).1) (Keep.of_wr W19).1) E22.1) szz_oh28
  have ne_a1_oh28 : a1 ≠ oh28 := Nat.ne_of_lt (Nat.lt_of_lt_of_le F30.lt szz_oh28)
  have ne_b2_oh28 : b2 ≠ oh28 := Nat.ne_of_lt (Nat.lt_of_lt_of_le F31.lt szz_oh28)
  have ne_os3_oh28 : os3 ≠ oh28 := Nat.ne_of_lt (Nat.lt_of_lt_of_le F32.lt szz_oh28)
  have ne_b9_oh28 : b9 ≠ oh28 := Nat.ne_of_lt (Nat.lt_of_lt_of_le F33.lt szz_oh28)
  have ne_b22_oh28 : b22 ≠ oh28 := Nat.ne_of_lt (Nat.lt_of_lt_of_le A22.lt szz_oh28)
  have szz_ov28 := sz_ov28
  have g_ov28 : n0 ≤ ov28 := Nat.le_trans (own_z0 O29) szz_ov28
  have sz_ov28 : h0.size ≤ ov28 := Nat.le_trans (Nat.le_trans (Nat.le_trans (Nat.le_trans (Nat.le_trans (Nat.le_trans (Nat.le_trans (Nat.le_trans (Nat.le_trans (Nat.le_refl _) E2.1) K3.1) (Keep.of_wr W6).1) E9.1) K14.1) (Keep.of_wr W16).1) (Keep.of_wr W19).1) E22.1) szz_ov28
  have ne_a1_ov28 : a1 ≠ ov28 := Nat.ne_of_lt (Nat.lt_of_lt_of_le F30.lt szz_ov28)
  have ne_b2_ov28 : b2 ≠ ov28 := Nat.ne_of_lt (Nat.lt_of_lt_of_le F31.lt szz_ov28)
  have ne_os3_ov28 : os3 ≠ ov28 := Nat.ne_of_lt (Nat.lt_of_lt_of_le F32.lt szz_ov28)
  have ne_b9_ov28 : b9 ≠ ov28 := Nat.ne_of_lt (Nat.lt_of_lt_of_le F33.lt szz_ov28)
  have ne_b22_ov28 : b22 ≠ ov28 := Nat.ne_of_lt (Nat.lt_of_lt_of_le A22.lt szz_ov28)
  have F35 := (((((((((r3.ext E2).keep K3 (ninS ne_a1_b2 nin0)).other W6 (Or.inr (slot_ne (Or.inl (ww 86 rfl)) (Or.inl (ww 31 rfl)) (by decide) (t := (.object cRV)) (t' := (.object cTU)) (by decide) (by decide)))).ext E9).keep K14 (ninS ne_a1_b9 nin0)).other W16 (Or.inr (slot_ne (Or.inl (ww 86 rfl)) (Or.inr (ww 57 rfl)) (by decide) (t := (.object cRV)) (t' := (.object "java/util/List")) (by decide) (by decide)))).other W19 (Or.inr (slot_ne (Or.inl (ww 86 rfl)) (Or.inr (ww 59 rfl)) (by decide) (t := (.object cRV)) (t' := .int) (by decide) (by decide)))).ext E22).keep K28 (ninS ne_a1_b22 nin0))
  have F36 := (F30.keep K28)
  obtain ⟨T34, h34, X34, e34, W34, st34⟩ := putF X28 hx hZ hown (host := "") (Or.inl (ww 85 rfl)) Via.refl rfl F35 F36 (Or.inl (ww 86 rfl)) (ww 2 rfl) (ty := (.object cRV)) (by decide) rfl rfl (g := (mkF m 41 #[vR a1, vI 1] [(.ref b22), (.ref a1)])) rfl rfl (bb d1_41)
  have Fw34 := F35.same W34
  have N34 := Fr.snoc X34 N28 g_a1
  have F37 := (((((((Fw6.ext E9).keep K14 (ninS ne_a1_b9 nin0)).other W16 (Or.inr (slot_ne (Or.inl (ww 31 rfl)) (Or.inr (ww 57 rfl)) (by decide) (t := (.object cTU)) (t' := (.object "java/util/List")) (by decide) (by decide)))).other W19 (Or.inr (slot_ne (Or.inl (ww 31 rfl)) (Or.inr (ww 59 rfl)) (by decide) (t := (.object cTU)) (t' := .int) (by decide) (by decide)))).ext E22).keep K28 (ninS ne_a1_b22 nin0)).other W34 (Or.inr (slot_ne (Or.inl (ww 31 rfl)) (Or.inl (ww 86 rfl)) (by decide) (t := (.object cTU)) (t' := (.object cRV)) (by decide) (by decide))))
  have F38 := ((((Fw16.other W19 (Or.inr (slot_ne (Or.inr (ww 57 rfl)) (Or.inr (ww 59 rfl)) (by decide) (t := (.object "java/util/List")) (t' := .int) (by decide) (by decide)))).ext E22).keep K28 (ninS ne_a1_b22 nin0)).other W34 (Or.inr (slot_ne (Or.inr (ww 57 rfl)) (Or.inl (ww 86 rfl)) (by decide) (t := (.object "java/util/List")) (t' := (.object cRV)) (by decide) (by decide))))
  have F39 := ((((((((((r5.ext E2).keep K3 (ninS ne_a1_b2 nin0)).other W6 (Or.inr (slot_ne (Or.inl (ww 120 rfl)) (Or.inl (ww 31 rfl)) (by decide) (t := .boolean) (t' := (.object cTU)) (by decide) (by decide)))).ext E9).keep K14 (ninS ne_a1_b9 nin0)).other W16 (Or.inr (slot_ne (Or.inl (ww 120 rfl)) (Or.inr (ww 57 rfl)) (by decide) (t := .boolean) (t' := (.object "java/util/List")) (by decide) (by decide)))).other W19 (Or.inr (slot_ne (Or.inl (ww 120 rfl)) (Or.inr (ww 59 rfl)) (by decide) (t := .boolean) (t' := .int) (by decide) (by decide)))).ext E22).keep K28 (ninS ne_a1_b22 nin0)).other W34 (Or.inr (slot_ne (Or.inl (ww 120 rfl)) (Or.inl (ww 86 rfl)) (by decide) (t := .boolean) (t' := (.object cRV)) (by decide) (by decide))))
  have F40 := ((((((((((r6.ext E2).keep K3 (ninS ne_a1_b2 nin0)).other W6 (Or.inr (slot_ne (Or.inl (ww 130 rfl)) (Or.inl (ww 31 rfl)) (by decide) (t := (.array .int)) (t' := (.object cTU)) (by decide) (by decide)))).ext E9).keep K14 (ninS ne_a1_b9 nin0)).other W16 (Or.inr (slot_ne (Or.inl (ww 130 rfl)) (Or.inr (ww 57 rfl)) (by decide) (t := (.array .int)) (t' := (.object "java/util/List")) (by decide) (by decide)))).other W19 (Or.inr (slot_ne (Or.inl (ww 130 rfl)) (Or.inr (ww 59 rfl)) (by decide) (t := (.array .int)) (t' := .int) (by decide) (by decide)))).ext E22).keep K28 (ninS ne_a1_b22 nin0)).other W34 (Or.inr (slot_ne (Or.inl (ww 130 rfl)) (Or.inl (ww 86 rfl)) (by decide) (t := (.array .int)) (t' := (.object cRV)) (by decide) (by decide))))
  have F41 := ((((((((((r7.ext E2).keep K3 (ninS ne_a1_b2 nin0)).other W6 (Or.inr (slot_ne (Or.inl (ww 156 rfl)) (Or.inl (ww 31 rfl)) (by decide) (t := (.object "java/lang/Runnable")) (t' := (.object cTU)) (by decide) (by decide)))).ext E9).keep K14 (ninS ne_a1_b9 nin0)).other W16 (Or.inr (slot_ne (Or.inl (ww 156 rfl)) (Or.inr (ww 57 rfl)) (by decide) (t := (.object "java/lang/Runnable")) (t' := (.object "java/util/List")) (by decide) (by decide)))).other W19 (Or.inr (slot_ne (Or.inl (ww 156 rfl)) (Or.inr (ww 59 rfl)) (by decide) (t := (.object "java/lang/Runnable")) (t' := .int) (by decide) (by decide)))).ext E22).keep K28 (ninS ne_a1_b22 nin0)).other W34 (Or.inr (slot_ne (Or.inl (ww 156 rfl)) (Or.inl (ww 86 rfl)) (by decide) (t := (.object "java/lang/Runnable")) (t' := (.object cRV)) (by decide) (by decide))))
  have F42 := ((((((((((r8.ext E2).keep K3 (ninS ne_a1_b2 nin0)).other W6 (Or.inr (slot_ne (Or.inl (ww 94 rfl)) (Or.inl (ww 31 rfl)) (by decide) (t := .int) (t' := (.object cTU)) (by decide) (by decide)))).ext E9).keep K14 (ninS ne_a1_b9 nin0)).other W16 (Or.inr (slot_ne (Or.inl (ww 94 rfl)) (Or.inr (ww 57 rfl)) (by decide) (t := .int) (t' := (.object "java/util/List")) (by decide) (by decide)))).other W19 (Or.inr (slot_ne (Or.inl (ww 94 rfl)) (Or.inr (ww 59 rfl)) (by decide) (t := .int) (t' := .int) (by decide) (by decide)))).ext E22).keep K28 (ninS ne_a1_b22 nin0)).other W34 (Or.inr (slot_ne (Or.inl (ww 94 rfl)) (Or.inl (ww 86 rfl)) (by decide) (t := .int) (t' := (.object cRV)) (by decide) (by decide))))
  have F43 := ((((((((((r9.ext E2).keep K3 (ninS ne_a1_b2 nin0)).other W6 (Or.inr (slot_ne (Or.inl (ww 98 rfl)) (Or.inl (ww 31 rfl)) (by decide) (t := .int) (t' := (.object cTU)) (by decide) (by decide)))).ext E9).keep K14 (ninS ne_a1_b9 nin0)).other W16 (Or.inr (slot_ne (Or.inl (ww 98 rfl)) (Or.inr (ww 57 rfl)) (by decide) (t := .int) (t' := (.object "java/util/List")) (by decide) (by decide)))).other W19 (Or.inr (slot_ne (Or.inl (ww 98 rfl)) (Or.inr (ww 59 rfl)) (by decide) (t := .int) (t' := .int) (by decide) (by decide)))).ext E22).keep K28 (ninS ne_a1_b22 nin0)).other W34 (Or.inr (slot_ne (Or.inl (ww 98 rfl)) (Or.inl (ww 86 rfl)) (by decide) (t := .int) (t' := (.object cRV)) (by decide) (by decide))))
  have F44 := ((((((((((r10.ext E2).keep K3 (ninS ne_a1_b2 nin0)).other W6 (Or.inr (slot_ne (Or.inl (ww 96 rfl)) (Or.inl (ww 31 rfl)) (by decide) (t := .int) (t' := (.object cTU)) (by decide) (by decide)))).ext E9).keep K14 (ninS ne_a1_b9 nin0)).other W16 (Or.inr (slot_ne (Or.inl (ww 96 rfl)) (Or.inr (ww 57 rfl)) (by decide) (t := .int) (t' := (.object "java/util/List")) (by decide) (by decide)))).other W19 (Or.inr (slot_ne (Or.inl (ww 96 rfl)) (Or.inr (ww 59 rfl)) (by decide) (t := .int) (t' := .int) (by decide) (by decide)))).ext E22).keep K28 (ninS ne_a1_b22 nin0)).other W34 (Or.inr (slot_ne (Or.inl (ww 96 rfl)) (Or.inl (ww 86 rfl)) (by decide) (t := .int) (t' := (.object cRV)) (by decide) (by decide))))
  have F45 := ((((((((((r11.ext E2).keep K3 (ninS ne_a1_b2 nin0)).other W6 (Or.inr (slot_ne (Or.inl (ww 238 rfl)) (Or.inl (ww 31 rfl)) (by decide) (t := .boolean) (t' := (.object cTU)) (by decide) (by decide)))).ext E9).keep K14 (ninS ne_a1_b9 nin0)).other W16 (Or.inr (slot_ne (Or.inl (ww 238 rfl)) (Or.inr (ww 57 rfl)) (by decide) (t := .boolean) (t' := (.object "java/util/List")) (by decide) (by decide)))).other W19 (Or.inr (slot_ne (Or.inl (ww 238 rfl)) (Or.inr (ww 59 rfl)) (by decide) (t := .boolean) (t' := .int) (by decide) (by decide)))).ext E22).keep K28 (ninS ne_a1_b22 nin0)).other W34 (Or.inr (slot_ne (Or.inl (ww 238 rfl)) (Or.inl (ww 86 rfl)) (by decide) (t := .boolean) (t' := (.object cRV)) (by decide) (by decide))))
  have F46 := ((((((((((r12.ext E2).keep K3 (ninS ne_a1_b2 nin0)).other W6 (Or.inr (slot_ne (Or.inl (ww 264 rfl)) (Or.inl (ww 31 rfl)) (by decide) (t := (.object "java/util/function/IntConsumer")) (t' := (.object cTU)) (by decide) (by decide)))).ext E9).keep K14 (ninS ne_a1_b9 nin0)).other W16 (Or.inr (slot_ne (Or.inl (ww 264 rfl)) (Or.inr (ww 57 rfl)) (by decide) (t := (.object "java/util/function/IntConsumer")) (t' := (.object "java/util/List")) (by decide) (by decide)))).other W19 (Or.inr (slot_ne (Or.inl (ww 264 rfl)) (Or.inr (ww 59 rfl)) (by decide) (t := (.object "java/util/function/IntConsumer")) (t' := .int) (by decide) (by decide)))).ext E22).keep K28 (ninS ne_a1_b22 nin0)).other W34 (Or.inr (slot_ne (Or.inl (ww 264 rfl)) (Or.inl (ww 86 rfl)) (by decide) (t := (.object "java/util/function/IntConsumer")) (t' := (.object cRV)) (by decide) (by decide))))
  have F47 := ((F31.keep K28).wr W34)
  have F48 := ((((((((f3_0.other W6 (Or.inl (Ne.symm ne_a1_b2))).ext E9).keep K14 (ninS ne_b2_b9 nin0)).other W16 (Or.inl (Ne.symm ne_a1_b2))).other W19 (Or.inl (Ne.symm ne_a1_b2))).ext E22).keep K28 (ninS ne_b2_b22 nin0)).other W34 (Or.inl (Ne.symm ne_a1_b2)))
  have F49 := ((((((((f3_1.other W6 (Or.inl (Ne.symm ne_a1_b2))).ext E9).keep K14 (ninS ne_b2_b9 nin0)).other W16 (Or.inl (Ne.symm ne_a1_b2))).other W19 (Or.inl (Ne.symm ne_a1_b2))).ext E22).keep K28 (ninS ne_b2_b22 nin0)).other W34 (Or.inl (Ne.symm ne_a1_b2)))
  have F50 := ((((((((f3_2.other W6 (Or.inl (Ne.symm ne_a1_b2))).ext E9).keep K14 (ninS ne_b2_b9 nin0)).other W16 (Or.inl (Ne.symm ne_a1_b2))).other W19 (Or.inl (Ne.symm ne_a1_b2))).ext E22).keep K28 (ninS ne_b2_b22 nin0)).other W34 (Or.inl (Ne.symm ne_a1_b2)))
  have F51 := ((F32.keep K28 (ninS ne_os3_b22 nin0)).other W34 (Ne.symm ne_a1_os3))
  have F52 := ((F33.keep K28).wr W34)
  have F53 := (((((f14_0.other W16 (Or.inl (Ne.symm ne_a1_b9))).other W19 (Or.inl (Ne.symm ne_a1_b9))).ext E22).keep K28 (ninS ne_b9_b22 nin0)).other W34 (Or.inl (Ne.symm ne_a1_b9)))
  have F54 := (((((f14_1.other W16 (Or.inl (Ne.symm ne_a1_b9))).other W19 (Or.inl (Ne.symm ne_a1_b9))).ext E22).keep K28 (ninS ne_b9_b22 nin0)).other W34 (Or.inl (Ne.symm ne_a1_b9)))
  have F55 := (f28_0.wr W34)
  have F56 := (f28_1.other W34 (Or.inl (Ne.symm ne_a1_b22)))
  have F57 := (f28_2.other W34 (Or.inl (Ne.symm ne_a1_b22)))
  have F58 := (f28_3.other W34 (Or.inl (Ne.symm ne_a1_b22)))
  have F59 := (f28_4.other W34 (Or.inl (Ne.symm ne_a1_b22)))
  have F60 := (f28_5.other W34 (Or.inl (Ne.symm ne_a1_b22)))
  have F61 := (f28_6.other W34 (Or.inl (Ne.symm ne_a1_b22)))
  have F62 := (f28_7.other W34 (Or.inl (Ne.symm ne_a1_b22)))
  have F63 := (f28_8.other W34 (Ne.symm ne_a1_ow28))
  have F64 := (f28_10.other W34 (Ne.symm ne_a1_on28))
  have F65 := (f28_12.other W34 (Ne.symm ne_a1_ob28))
  have F66 := (f28_13.other W34 (Ne.symm ne_a1_ol28))
  have F67 := (f28_14.other W34 (Ne.symm ne_a1_oh28))
  have F68 := (f28_15.other W34 (Ne.symm ne_a1_ov28))
  obtain ⟨fs, hr, hrun, hended, hW, hsame⟩ := X34.leave (v := none) (fun _ => rfl)
  refine ⟨_, _, pre0 _ ?_, hrun, hended, _, _, rfl, ?_, ⟨_, rfl⟩, hW, hsame.mono (by decide) (by decide)⟩
  · show GG p e below s₁ (mkF m 0 #[vR a1, vI 1] []) _
    refine XS.aloadN X0.here hx rfl (bb d1_0) rfl rfl ?_
    refine st1 _ ?_
    refine XS.aloadN X1.here hx rfl (bb d1_4) rfl rfl ?_
    refine st2 _ ?_
    refine XS.dup X2.here hx rfl (bb d1_8) rfl rfl ?_
    refine XS.aloadN X2.here hx rfl (bb d1_9) rfl rfl ?_
    refine st3.trans ?_
    refine st6 _ ?_
    refine XS.aloadN X6.here hx rfl (bb d1_16) rfl rfl ?_
    refine st9 _ ?_
    refine XS.dup X9.here hx rfl (bb d1_20) rfl rfl ?_
    refine st14.trans ?_
    refine st16 _ ?_
    refine XS.aloadN X16.here hx rfl (bb d1_27) rfl rfl ?_
    refine XS.iloadN X16.here hx rfl (bb d1_28) rfl ?_
    refine st19 _ ?_
    refine XS.aloadN X19.here hx rfl (bb d1_32) rfl rfl ?_
    refine st22 _ ?_
    refine XS.dup X22.here hx rfl (bb d1_36) rfl rfl ?_
    refine XS.iloadN X22.here hx rfl (bb d1_37) rfl ?_
    refine st28.trans ?_
    refine st34 _ ?_
    exact X34.returnOut hx Bd.returns (bb d1_44) hr
  · show Q_reInit Z wDE a1 h0 n0 _ T34.heap _
    rw [e34]
    exact ⟨b2, os3, b9, b22, ow28, on28, ob28, ol28, oh28, ov28, ks_3, kw_28, kn_28, kb_28, kl_28, kh_28, kv_28, rfl, N34, (((((((((((Keep.refl h0 [a1]).ext E2).trans K3 (allS (Or.inr sz_b2) all0)).wr W6 (Or.inl (List.mem_of_getElem? (i := 0) rfl))).ext E9).trans K14 (allS (Or.inr sz_b9) all0)).wr W16 (Or.inl (List.mem_of_getElem? (i := 0) rfl))).wr W19 (Or.inl (List.mem_of_getElem? (i := 0) rfl))).ext E22).trans K28 (allS (Or.inr sz_b22) all0)).wr W34 (Or.inl (List.mem_of_getElem? (i := 0) rfl))), sz_b2, sz_os3, sz_b9, sz_b22, sz_ow28, sz_on28, sz_ob28, sz_ol28, sz_oh28, sz_ov28, ne_b2_os3, ne_b2_b9, ne_b2_b22, ne_b2_ow28, ne_b2_on28, ne_b2_ob28, ne_b2_ol28, ne_b2_oh28, ne_b2_ov28, ne_os3_b9, ne_os3_b22, ne_os3_ow28, ne_os3_on28, ne_os3_ob28, ne_os3_ol28, ne_os3_oh28, ne_os3_ov28, ne_b9_b22, ne_b9_ow28, ne_b9_on28, ne_b9_ob28, ne_b9_ol28, ne_b9_oh28, ne_b9_ov28, ne_b22_ow28, ne_b22_on28, ne_b22_ob28, ne_b22_ol28, ne_b22_oh28, ne_b22_ov28, ne_ow28_on28, ne_ow28_ob28, ne_ow28_ol28, ne_ow28_oh28, ne_ow28_ov28, ne_on28_ob28, ne_on28_ol28, ne_on28_oh28, ne_on28_ov28, ne_ob28_ol28, ne_ob28_oh28, ne_ob28_ov28, ne_ol28_oh28, ne_ol28_ov28, ne_oh28_ov28, F37, F38, Fw34, F39, F40, F41, F42, F43, F44, F45, F46, F47, F48, F49, F50, F51, F52, F53, F54, F55, F56, F57, F58, F59, F60, F61, F62, F63, f28_9, F64, f28_11, F65, F66, F67, F68⟩
def f_isNull (p1 : Int32) : Int32 := (if p1 < (0 : Int32) then (1 : Int32) else (0 : Int32))
set_option maxRecDepth 65536 in
set_option maxHeartbeats 40000000 in
theorem rm_isNull (l : Launch) (Z : State) (a0 : Array Value) (hw : ∀ d ∈ tables_1, d.before a0 Z = true) (ws : List Jvm.Cond) (wDE : Addr) (p1 : Int32) (h0 : Heap) (n0 : Nat) (Z0 : n0 ≤ h0.size) (S_wDE : Sta Z Z.heap "java/util/ArrayList" "DEFAULTCAPACITY_EMPTY_ELEMENTDATA" "[Ljava/lang/Object;" (.ref wDE)) (O0 : Old Z n0 h0) (S_CS : Sta Z Z.heap cRV "CHUNK_SHIFT" "I" (.int (12 : Int32))) :
    MetFree l (⟨"com/example/chaseward/chaseward/engine/Dictionary", "isNull", "(I)Z"⟩ : MethodName) (head1 (Jvm.Cond.code (⟨"com/example/chaseward/chaseward/engine/Dictionary", "isNull", "(I)Z"⟩ : MethodName) prog_19_method_17_code 1 (some .boolean) :: ws) ({ frames := 0, cells := 0, slots := 0, locals := 0 } : Room)) (fun a U => a = #[(.int p1)] ∧ Z.Warmed39 U.vm ∧ U.heap = h0) (fun _ _ _ _ _ => True) (fun _ U o U' => ∃ v L, o = .returned v ∧ PureQ (some (.int (f_isNull p1))) h0 n0 v U'.heap L ∧ FrameEnd U o U' L ({ frames := 0, cells := 0, slots := 0, locals := 0 } : Room).cells ({ frames := 0, cells := 0, slots := 0, locals := 0 } : Room).slots) := by
  refine MetFree.of_bodySF (plainFor_of_name pn_Dictionary) hisR ?_
  intro p e s m args below meth c s₁ Bd hml0 hP hK
  obtain ⟨rfl, hZ, hh⟩ := hP
  have hx := Bd.exec
  have hby := Bd.bytes
  have bb := fun {pc : Nat} {r : Except DecodeError (Instr × Nat)} (h : decode prog_19_method_17_code pc = r) => hb hby h
  have ww := fun (i : Nat) {d : Jvm.Cond} (h : tables_1[i]? = some d) => hw d (List.mem_of_getElem? h)
  have hml : c.maxLocals = 1 := hml0
  have hown : s.vm.findClass "com/example/chaseward/chaseward/engine/Dictionary" = some m.cls := findClass_of_methodNamed Bd.named
  have hnm := (name_of_methodNamed Bd.named Bd.method).1
  have X0 : Stand p l e ({ frames := 0, cells := 0, slots := 0, locals := 0 } : Room) s m #[(.int p1)] below meth c s₁ [] 0 0 := Stand.of_body Bd
  have e0 : s₁.heap = h0 := by rw [← hh, Bd.state]; rfl
  have N0 := Fr.nil n0
  have pre0 : ∀ t, Steps p.tables e below (s₁.setTop (mkF m 0 #[vI p1] [])) t → Steps p.tables e below (s₁.setTop (entryFrame m #[(.int p1)] 1)) t := fun t k => castTop (ef_isNull m p1) k
  have pre1 : ∀ t, GG p e below s₁ (mkF m 1 #[vI p1] [(.int p1)]) t → GG p e below s₁ (entryFrame m #[(.int p1)] 1) t := fun t k => pre0 t (by
      show GG p e below s₁ (mkF m 0 #[vI p1] []) _
      refine XS.iloadN X0.here hx rfl (bb d32_0) rfl ?_
      exact k)
  by_cases g2 : p1 < (0 : Int32)
  · skip
    obtain ⟨fs, hr, hrun, hended, hW, hsame⟩ := X0.leave (v := some (.int 1)) (fun h => by rw [Bd.returns] at h; cases h)
    refine ⟨_, _, pre1 _ ?_, hrun, hended, _, _, rfl, ?_, ⟨_, rfl⟩, hW, hsame.mono (by decide) (by decide)⟩
    · show GG p e below s₁ (mkF m 1 #[vI p1] [(.int p1)]) _
      refine XS.ifNo X0.here hx rfl (bb d32_1) rfl ((if0 _ _).trans (tlt g2).2.1) ?_
      refine XS.iconst X0.here hx rfl (bb d32_4) ?_
      refine XS.goto X0.here hx rfl (pc0 := 5) (pc' := 9) rfl (bb d32_5) (by decide) (by decide) ?_
      exact retN X0 hx (t := .boolean) Bd.returns (by simp) (bb d32_9) hr
    · exact ⟨by simp only [f_isNull, if_pos g2], N0, e0⟩
  · skip
    obtain ⟨fs, hr, hrun, hended, hW, hsame⟩ := X0.leave (v := some (.int 0)) (fun h => by rw [Bd.returns] at h; cases h)
    refine ⟨_, _, pre1 _ ?_, hrun, hended, _, _, rfl, ?_, ⟨_, rfl⟩, hW, hsame.mono (by decide) (by decide)⟩
    · show GG p e below s₁ (mkF m 1 #[vI p1] [(.int p1)]) _
      refine XS.ifYes X0.here hx rfl (pc0 := 1) (pc' := 8) rfl (bb d32_1) rfl ((if0 _ _).trans (flt g2).2.1) (by decide) (by decide) ?_
      refine XS.iconst X0.here hx rfl (bb d32_8) ?_
      exact retN X0 hx (t := .boolean) Bd.returns (by simp) (bb d32_9) hr
    · exact ⟨by simp only [f_isNull, if_neg g2], N0, e0⟩
set_option maxRecDepth 65536 in
set_option maxHeartbeats 40000000 in
theorem rm_hadd (l : Launch) (Z : State) (a0 : Array Value) (hw : ∀ d ∈ tables_1, d.before a0 Z = true) (ws : List Jvm.Cond) (wDE : Addr) (p1 p2 : Int32) (h0 : Heap) (n0 : Nat) (Z0 : n0 ≤ h0.size) (S_wDE : Sta Z Z.heap "java/util/ArrayList" "DEFAULTCAPACITY_EMPTY_ELEMENTDATA" "[Ljava/lang/Object;" (.ref wDE)) (O0 : Old Z n0 h0) (S_CS : Sta Z Z.heap cRV "CHUNK_SHIFT" "I" (.int (12 : Int32))) :
    MetFree l (⟨"com/example/chaseward/chaseward/engine/Hashing", "add", "(II)I"⟩ : MethodName) (head1 (Jvm.Cond.code (⟨"com/example/chaseward/chaseward/engine/Hashing", "add", "(II)I"⟩ : MethodName) prog_33_method_2_code 2 (some .int) :: ws) ({ frames := 0, cells := 0, slots := 0, locals := 0 } : Room)) (fun a U => a = #[(.int p1), (.int p2)] ∧ Z.Warmed39 U.vm ∧ U.heap = h0) (fun _ _ _ _ _ => True) (fun _ U o U' => ∃ v L, o = .returned v ∧ PureQ (some (.int ((p1 + p2) * (-1640531527 : Int32)))) h0 n0 v U'.heap L ∧ FrameEnd U o U' L ({ frames := 0, cells := 0, slots := 0, locals := 0 } : Room).cells ({ frames := 0, cells := 0, slots := 0, locals := 0 } : Room).slots) := by
  refine MetFree.of_bodySF (plainFor_of_name pn_Hashing) hisR ?_
  intro p e s m args below meth c s₁ Bd hml0 hP hK
  obtain ⟨rfl, hZ, hh⟩ := hP
  have hx := Bd.exec
  have hby := Bd.bytes
  have bb := fun {pc : Nat} {r : Except DecodeError (Instr × Nat)} (h : decode prog_33_method_2_code pc = r) => hb hby h
  have ww := fun (i : Nat) {d : Jvm.Cond} (h : tables_1[i]? = some d) => hw d (List.mem_of_getElem? h)
  have hml : c.maxLocals = 2 := hml0
  have hown : s.vm.findClass "com/example/chaseward/chaseward/engine/Hashing" = some m.cls := findClass_of_methodNamed Bd.named
  have hnm := (name_of_methodNamed Bd.named Bd.method).1
  have X0 : Stand p l e ({ frames := 0, cells := 0, slots := 0, locals := 0 } : Room) s m #[(.int p1), (.int p2)] below meth c s₁ [] 0 0 := Stand.of_body Bd
  have e0 : s₁.heap = h0 := by rw [← hh, Bd.state]; rfl
  have N0 := Fr.nil n0
  have pre0 : ∀ t, Steps p.tables e below (s₁.setTop (mkF m 0 #[vI p1, vI p2] [])) t → Steps p.tables e below (s₁.setTop (entryFrame m #[(.int p1), (.int p2)] 2)) t := fun t k => castTop (ef_hadd m p1 p2) k
  obtain ⟨fs, hr, hrun, hended, hW, hsame⟩ := X0.leave (v := some (.int ((p1 + p2) * (-1640531527 : Int32)))) (fun h => by rw [Bd.returns] at h; cases h)
  refine ⟨_, _, pre0 _ ?_, hrun, hended, _, _, rfl, ?_, ⟨_, rfl⟩, hW, hsame.mono (by decide) (by decide)⟩
  · show GG p e below s₁ (mkF m 0 #[vI p1, vI p2] []) _
    refine XS.iloadN X0.here hx rfl (bb d15_0) rfl ?_
    refine XS.iloadN X0.here hx rfl (bb d15_1) rfl ?_
    refine XS.iadd X0.here hx rfl (bb d15_2) rfl ?_
    refine X0.ldcInt hx hown (mvT hZ (ww 128 rfl)) (g := (mkF m 3 #[vI p1, vI p2] [(.int (p1 + p2))])) rfl (bb d15_3) _ ?_
    refine XS.imul X0.here hx rfl (bb d15_5) rfl ?_
    exact retI X0 hx Bd.returns (bb d15_6) hr
  · exact ⟨rfl, N0, e0⟩
def f_hash (et0 : Int32) : Int32 := (((0 : Int32) + et0) * (-1640531527 : Int32))
set_option maxRecDepth 65536 in
set_option maxHeartbeats 40000000 in
theorem rm_hash (l : Launch) (Z : State) (a0 : Array Value) (hw : ∀ d ∈ tables_1, d.before a0 Z = true) (ws : List Jvm.Cond) (wDE : Addr) (at_ : Addr) (kt_ : ClassId) (et0 : Int32) (h0 : Heap) (n0 : Nat) (Z0 : n0 ≤ h0.size) (S_wDE : Sta Z Z.heap "java/util/ArrayList" "DEFAULTCAPACITY_EMPTY_ELEMENTDATA" "[Ljava/lang/Object;" (.ref wDE)) (O0 : Old Z n0 h0) (S_CS : Sta Z Z.heap cRV "CHUNK_SHIFT" "I" (.int (12 : Int32))) (r0 : Arv Z h0 at_ kt_ .int (1 : Int32) [(.int et0)] (.int 0)) :
    MetFree l (⟨"com/example/chaseward/chaseward/engine/Hashing", "of", "([I)I"⟩ : MethodName) (head1 (Jvm.Cond.code (⟨"com/example/chaseward/chaseward/engine/Hashing", "of", "([I)I"⟩ : MethodName) prog_33_method_3_code 6 (some .int) :: ws) ({ frames := 1, cells := 0, slots := 0, locals := 13 } : Room)) (fun a U => a = #[(.ref at_)] ∧ Z.Warmed39 U.vm ∧ U.heap = h0) (fun _ _ _ _ _ => True) (fun _ U o U' => ∃ v L, o = .returned v ∧ PureQ (some (.int (f_hash et0))) h0 n0 v U'.heap L ∧ FrameEnd U o U' L ({ frames := 1, cells := 0, slots := 0, locals := 13 } : Room).cells ({ frames := 1, cells := 0, slots := 0, locals := 13 } : Room).slots) := by
  refine MetFree.of_bodySF (plainFor_of_name pn_Hashing) hisR ?_
  intro p e s m args below meth c s₁ Bd hml0 hP hK
  obtain ⟨rfl, hZ, hh⟩ := hP
  have hx := Bd.exec
  have hby := Bd.bytes
  have bb := fun {pc : Nat} {r : Except DecodeError (Instr × Nat)} (h : decode prog_33_method_3_code pc = r) => hb hby h
  have ww := fun (i : Nat) {d : Jvm.Cond} (h : tables_1[i]? = some d) => hw d (List.mem_of_getElem? h)
  have hml : c.maxLocals = 6 := hml0
  have hown : s.vm.findClass "com/example/chaseward/chaseward/engine/Hashing" = some m.cls := findClass_of_methodNamed Bd.named
  have hnm := (name_of_methodNamed Bd.named Bd.method).1
  have X0 : Stand p l e ({ frames := 1, cells := 0, slots := 0, locals := 13 } : Room) s m #[(.ref at_)] below meth c s₁ [] 0 0 := Stand.of_body Bd
  have e0 : s₁.heap = h0 := by rw [← hh, Bd.state]; rfl
  have N0 := Fr.nil n0
  have pre0 : ∀ t, Steps p.tables e below (s₁.setTop (mkF m 0 #[vR at_, .unset, .unset, .unset, .unset, .unset] [])) t → Steps p.tables e below (s₁.setTop (entryFrame m #[(.ref at_)] 6)) t := fun t k => castTop (ef_hash m at_) k
  obtain ⟨cl1, Ar1, vq1, vS1, vN1, vH1, vG1⟩ := id r0
  obtain ⟨cl2, Ar2, vq2, vS2, vN2, vH2, vG2⟩ := id r0
  have hin2 : ¬ (((0 : Int32) : Int32) < 0 ∨ cl2.slots.size ≤ ((0 : Int32) : Int32).toNatClampNeg) := inb_of vS2 ⟨by decide, by decide⟩
  obtain ⟨_, _, ⟨T3, L3, k3, n3⟩, -, X3, ⟨Lc3, hQ3, l3, y3, z3⟩, st3⟩ := Jvm.LawKit.callS X0 hx (y := (⟨"com/example/chaseward/chaseward/engine/Hashing", "add", "(II)I"⟩ : MethodName)) hown (mvT hZ (ww 125 rfl)) (mvT hZ (ww 126 rfl)) (mvT hZ (ww 123 rfl)) (mvT hZ (ww 127 rfl)) (by decide) (backOf (W := 0) (rm_hadd l Z a0 hw [] wDE (0 : Int32) et0 h0 n0 (own_z0 O0) S_wDE O0 S_CS) hZ (ww 127 rfl) (ww 123 rfl) (by decide) (by decide)) (g := (mkF m 25 #[vR at_, vI 0, vR at_, vI 1, vI 0, vI et0] [(.int et0), (.int 0)])) rfl (by rw [hml]; rfl) (argsL := [(.int 0), (.int et0)]) (rest := []) (lenOf pd__II_I_5 rfl) rfl (by show 2 * 0 + _ ≤ _; exact Nat.le_of_eq rfl) (bb d14_25) (fun _ _ => ⟨rfl, e0, (by decide : 0 + 0 ≤ _), (by decide : 0 + 0 ≤ _)⟩)
  dsimp only [Pt.U, Pt.locs, Pt.cells, Pt.slots] at X3 l3 y3 z3 st3 hQ3
  subst l3 y3 z3
  obtain ⟨rfl, N3q, e3⟩ := hQ3
  have N3 := Fr.app N0 N3q
  obtain ⟨fs, hr, hrun, hended, hW, hsame⟩ := X3.leave (v := some (.int (((0 : Int32) + et0) * (-1640531527 : Int32)))) (fun h => by rw [Bd.returns] at h; cases h)
  refine ⟨_, _, pre0 _ ?_, hrun, hended, _, _, rfl, ?_, ⟨_, rfl⟩, hW, hsame.mono (by decide) (by decide)⟩
  · show GG p e below s₁ (mkF m 0 #[vR at_, .unset, .unset, .unset, .unset, .unset] []) _
    refine XS.iconst X0.here hx rfl (bb d14_0) ?_
    refine XS.istoreN X0.here hx rfl (bb d14_1) rfl (l' := #[vR at_, vI 0, .unset, .unset, .unset, .unset]) rfl ?_
    refine XS.aloadN X0.here hx rfl (bb d14_2) rfl rfl ?_
    refine XS.astoreN X0.here hx rfl (bb d14_3) rfl rfl (l' := #[vR at_, vI 0, vR at_, .unset, .unset, .unset]) rfl ?_
    refine XS.aloadN X0.here hx rfl (bb d14_4) rfl rfl ?_
    refine X0.arraylength hx (by rw [e0]; exact Ar1.1) (State.isArrayOf_alike hZ.alike Ar1.2.1) (g := (mkF m 5 #[vR at_, vI 0, vR at_, .unset, .unset, .unset] [(.ref at_)])) rfl rfl (bb d14_5) _ ?_
    rw [len_of vS1 vN1]
    show GG p e below s₁ (mkF m 6 #[vR at_, vI 0, vR at_, .unset, .unset, .unset] [(.int 1)]) _
    refine XS.istoreN X0.here hx rfl (bb d14_6) rfl (l' := #[vR at_, vI 0, vR at_, vI 1, .unset, .unset]) rfl ?_
    refine XS.iconst X0.here hx rfl (bb d14_7) ?_
    refine XS.istore X0.here hx rfl (bb d14_8) rfl (l' := #[vR at_, vI 0, vR at_, vI 1, vI 0, .unset]) rfl ?_
    refine XS.iload X0.here hx rfl (bb d14_10) rfl ?_
    refine XS.iloadN X0.here hx rfl (bb d14_12) rfl ?_
    refine XS.icmpNo X0.here hx rfl (bb d14_13) rfl (tlt (by decide : (0 : Int32) < (1 : Int32))).2.1 ?_
    refine XS.aloadN X0.here hx rfl (bb d14_16) rfl rfl ?_
    refine XS.iload X0.here hx rfl (bb d14_17) rfl ?_
    refine X0.iaload hx (j := (0 : Int32)) (v := (.int et0)) (by rw [e0]; exact Ar2.1) (State.isArrayOf_alike hZ.alike Ar2.2.1) Ar2.2.2 hin2 (vH2.at hin2 rfl) (g := (mkF m 19 #[vR at_, vI 0, vR at_, vI 1, vI 0, .unset] [(.int 0), (.ref at_)])) rfl rfl (bb d14_19) _ ?_
    refine XS.istore X0.here hx rfl (bb d14_20) rfl (l' := #[vR at_, vI 0, vR at_, vI 1, vI 0, vI et0]) rfl ?_
    refine XS.iloadN X0.here hx rfl (bb d14_22) rfl ?_
    refine XS.iload X0.here hx rfl (bb d14_23) rfl ?_
    refine st3 _ ?_
    refine XS.istoreN X3.here hx rfl (bb d14_28) rfl (l' := #[vR at_, vI (((0 : Int32) + et0) * (-1640531527 : Int32)), vR at_, vI 1, vI 0, vI et0]) rfl ?_
    refine XS.iinc X3.here hx rfl (bb d14_29) rfl (l' := #[vR at_, vI (((0 : Int32) + et0) * (-1640531527 : Int32)), vR at_, vI 1, vI 1, vI et0]) rfl ?_
    refine XS.goto X3.here hx rfl (pc0 := 32) (pc' := 10) rfl (bb d14_32) (by decide) (by decide) ?_
    refine XS.iload X3.here hx rfl (bb d14_10) rfl ?_
    refine XS.iloadN X3.here hx rfl (bb d14_12) rfl ?_
    refine XS.icmpYes X3.here hx rfl (pc0 := 13) (pc' := 35) rfl (bb d14_13) rfl (flt (by decide : ¬ ((1 : Int32) < (1 : Int32)))).2.1 (by decide) (by decide) ?_
    refine XS.iloadN X3.here hx rfl (bb d14_35) rfl ?_
    exact retI X3 hx Bd.returns (bb d14_36) hr
  · exact ⟨by simp only [f_hash], N3, e3⟩
set_option maxRecDepth 65536 in
set_option maxHeartbeats 40000000 in
theorem rm_ntz (l : Launch) (Z : State) (a0 : Array Value) (hw : ∀ d ∈ tables_1, d.before a0 Z = true) (ws : List Jvm.Cond) (wDE : Addr) (h0 : Heap) (n0 : Nat) (Z0 : n0 ≤ h0.size) (S_wDE : Sta Z Z.heap "java/util/ArrayList" "DEFAULTCAPACITY_EMPTY_ELEMENTDATA" "[Ljava/lang/Object;" (.ref wDE)) (O0 : Old Z n0 h0) (S_CS : Sta Z Z.heap cRV "CHUNK_SHIFT" "I" (.int (12 : Int32))) :
    MetFree l (⟨"java/lang/Integer", "numberOfTrailingZeros", "(I)I"⟩ : MethodName) (head1 (Jvm.Cond.code (⟨"java/lang/Integer", "numberOfTrailingZeros", "(I)I"⟩ : MethodName) jdk_33_method_48_code 2 (some .int) :: ws) ({ frames := 0, cells := 0, slots := 0, locals := 0 } : Room)) (fun a U => a = #[(.int (-32))] ∧ Z.Warmed39 U.vm ∧ U.heap = h0) (fun _ _ _ _ _ => True) (fun _ U o U' => ∃ v L, o = .returned v ∧ PureQ (some (.int 5)) h0 n0 v U'.heap L ∧ FrameEnd U o U' L ({ frames := 0, cells := 0, slots := 0, locals := 0 } : Room).cells ({ frames := 0, cells := 0, slots := 0, locals := 0 } : Room).slots) := by
  refine MetFree.of_bodySF (plainFor_of_name pn_Integer) hisR ?_
  intro p e s m args below meth c s₁ Bd hml0 hP hK
  obtain ⟨rfl, hZ, hh⟩ := hP
  have hx := Bd.exec
  have hby := Bd.bytes
  have bb := fun {pc : Nat} {r : Except DecodeError (Instr × Nat)} (h : decode jdk_33_method_48_code pc = r) => hb hby h
  have ww := fun (i : Nat) {d : Jvm.Cond} (h : tables_1[i]? = some d) => hw d (List.mem_of_getElem? h)
  have hml : c.maxLocals = 2 := hml0
  have hown : s.vm.findClass "java/lang/Integer" = some m.cls := findClass_of_methodNamed Bd.named
  have hnm := (name_of_methodNamed Bd.named Bd.method).1
  have X0 : Stand p l e ({ frames := 0, cells := 0, slots := 0, locals := 0 } : Room) s m #[(.int (-32))] below meth c s₁ [] 0 0 := Stand.of_body Bd
  have e0 : s₁.heap = h0 := by rw [← hh, Bd.state]; rfl
  have N0 := Fr.nil n0
  have pre0 : ∀ t, Steps p.tables e below (s₁.setTop (mkF m 0 #[vI (-32), .unset] [])) t → Steps p.tables e below (s₁.setTop (entryFrame m #[(.int (-32))] 2)) t := fun t k => castTop (ef_ntz m) k
  obtain ⟨fs, hr, hrun, hended, hW, hsame⟩ := X0.leave (v := some (.int 5)) (fun h => by rw [Bd.returns] at h; cases h)
  refine ⟨_, _, pre0 _ ?_, hrun, hended, _, _, rfl, ?_, ⟨_, rfl⟩, hW, hsame.mono (by decide) (by decide)⟩
  · show GG p e below s₁ (mkF m 0 #[vI (-32), .unset] []) _
    refine XS.iloadN X0.here hx rfl (bb d18_0) rfl ?_
    refine XS.iconst X0.here hx rfl (bb d18_1) ?_
    refine XS.ixor X0.here hx rfl (bb d18_2) rfl ?_
    refine XS.iloadN X0.here hx rfl (bb d18_3) rfl ?_
    refine XS.iconst X0.here hx rfl (bb d18_4) ?_
    refine XS.isub X0.here hx rfl (bb d18_5) rfl ?_
    refine XS.iand X0.here hx rfl (bb d18_6) rfl ?_
    refine XS.istoreN X0.here hx rfl (bb d18_7) rfl (l' := #[vI 31, .unset]) rfl ?_
    refine XS.iloadN X0.here hx rfl (bb d18_8) rfl ?_
    refine XS.ifYes X0.here hx rfl (pc0 := 9) (pc' := 17) rfl (bb d18_9) rfl ((if0 _ _).trans (tlt (by decide : (0 : Int32) < (31 : Int32))).2.2.1) (by decide) (by decide) ?_
    refine XS.iconst X0.here hx rfl (bb d18_17) ?_
    refine XS.istoreN X0.here hx rfl (bb d18_18) rfl (l' := #[vI 31, vI 1]) rfl ?_
    refine XS.iloadN X0.here hx rfl (bb d18_19) rfl ?_
    refine X0.ldcwInt hx hown (mvT hZ (ww 145 rfl)) (g := (mkF m 20 #[vI 31, vI 1] [(.int 31)])) rfl (bb d18_20) _ ?_
    refine XS.icmpYes X0.here hx rfl (pc0 := 23) (pc' := 34) rfl (bb d18_23) rfl (flt (by decide : ¬ ((65536 : Int32) < (31 : Int32)))).2.2.2 (by decide) (by decide) ?_
    refine XS.iloadN X0.here hx rfl (bb d18_34) rfl ?_
    refine XS.sipush X0.here hx rfl (bb d18_35) ?_
    refine XS.icmpYes X0.here hx rfl (pc0 := 38) (pc' := 49) rfl (bb d18_38) rfl (flt (by decide : ¬ ((256 : Int32) < (31 : Int32)))).2.2.2 (by decide) (by decide) ?_
    refine XS.iloadN X0.here hx rfl (bb d18_49) rfl ?_
    refine XS.bipush X0.here hx rfl (bb d18_50) ?_
    refine XS.icmpNo X0.here hx rfl (bb d18_52) rfl (tlt (by decide : (16 : Int32) < (31 : Int32))).2.2.2 ?_
    refine XS.iinc X0.here hx rfl (bb d18_55) rfl (l' := #[vI 31, vI 5]) rfl ?_
    refine XS.iloadN X0.here hx rfl (bb d18_58) rfl ?_
    refine XS.iconst X0.here hx rfl (bb d18_59) ?_
    refine XS.iushr X0.here hx rfl (bb d18_60) rfl ?_
    refine XS.istoreN X0.here hx rfl (bb d18_61) rfl (l' := #[vI 1, vI 5]) rfl ?_
    refine XS.iloadN X0.here hx rfl (bb d18_62) rfl ?_
    refine XS.iconst X0.here hx rfl (bb d18_63) ?_
    refine XS.icmpYes X0.here hx rfl (pc0 := 64) (pc' := 74) rfl (bb d18_64) rfl (flt (by decide : ¬ ((4 : Int32) < (1 : Int32)))).2.2.2 (by decide) (by decide) ?_
    refine XS.iloadN X0.here hx rfl (bb d18_74) rfl ?_
    refine XS.iloadN X0.here hx rfl (bb d18_75) rfl ?_
    refine XS.iconst X0.here hx rfl (bb d18_76) ?_
    refine XS.iushr X0.here hx rfl (bb d18_77) rfl ?_
    refine XS.iadd X0.here hx rfl (bb d18_78) rfl ?_
    exact retI X0 hx Bd.returns (bb d18_79) hr
  · exact ⟨rfl, N0, e0⟩
def f_tagOf (p1 : Int32) : Int32 := (((p1 ^^^ ((p1.toUInt32 >>> ((16 : Int32) &&& 31).toUInt32).toInt32)) <<< ((5 : Int32) &&& 31)) &&& (-32 : Int32))
set_option maxRecDepth 65536 in
set_option maxHeartbeats 40000000 in
theorem rm_tagOf (l : Launch) (Z : State) (a0 : Array Value) (hw : ∀ d ∈ tables_1, d.before a0 Z = true) (ws : List Jvm.Cond) (wDE : Addr) (a1 : Addr) (p1 : Int32) (h0 : Heap) (n0 : Nat) (Z0 : n0 ≤ h0.size) (S_wDE : Sta Z Z.heap "java/util/ArrayList" "DEFAULTCAPACITY_EMPTY_ELEMENTDATA" "[Ljava/lang/Object;" (.ref wDE)) (O0 : Old Z n0 h0) (S_CS : Sta Z Z.heap cRV "CHUNK_SHIFT" "I" (.int (12 : Int32))) (r0 : Fld Z h0 a1 cRT "tagMask" "I" (.int (-32))) :
    MetFree l (⟨cRT, "tagOf", "(I)I"⟩ : MethodName) (head1 (Jvm.Cond.code (⟨cRT, "tagOf", "(I)I"⟩ : MethodName) prog_47_method_15_code 2 (some .int) :: ws) ({ frames := 1, cells := 0, slots := 0, locals := 14 } : Room)) (fun a U => a = #[(.ref a1), (.int p1)] ∧ Z.Warmed39 U.vm ∧ U.heap = h0) (fun _ _ _ _ _ => True) (fun _ U o U' => ∃ v L, o = .returned v ∧ PureQ (some (.int (f_tagOf p1))) h0 n0 v U'.heap L ∧ FrameEnd U o U' L ({ frames := 1, cells := 0, slots := 0, locals := 14 } : Room).cells ({ frames := 1, cells := 0, slots := 0, locals := 14 } : Room).slots) := by
  refine MetFree.of_bodySF (plainFor_of_name pn_RowTable) hisR ?_
  intro p e s m args below meth c s₁ Bd hml0 hP hK
  obtain ⟨rfl, hZ, hh⟩ := hP
  have hx := Bd.exec
  have hby := Bd.bytes
  have bb := fun {pc : Nat} {r : Except DecodeError (Instr × Nat)} (h : decode prog_47_method_15_code pc = r) => hb hby h
  have ww := fun (i : Nat) {d : Jvm.Cond} (h : tables_1[i]? = some d) => hw d (List.mem_of_getElem? h)
  have hml : c.maxLocals = 2 := hml0
  have hown : s.vm.findClass cRT = some m.cls := findClass_of_methodNamed Bd.named
  have hnm := (name_of_methodNamed Bd.named Bd.method).1
  have X0 : Stand p l e ({ frames := 1, cells := 0, slots := 0, locals := 14 } : Room) s m #[(.ref a1), (.int p1)] below meth c s₁ [] 0 0 := Stand.of_body Bd
  have e0 : s₁.heap = h0 := by rw [← hh, Bd.state]; rfl
  have N0 := Fr.nil n0
  have pre0 : ∀ t, Steps p.tables e below (s₁.setTop (mkF m 0 #[vR a1, vI p1] [])) t → Steps p.tables e below (s₁.setTop (entryFrame m #[(.ref a1), (.int p1)] 2)) t := fun t k => castTop (ef_tagOf m a1 p1) k
  obtain ⟨T1, X1, e1, st1⟩ := getF X0 hx hZ hown (host := "") (Or.inl (ww 26 rfl)) Via.refl e0 r0 (g := (mkF m 7 #[vR a1, vI p1] [(.ref a1), (.int (p1 ^^^ ((p1.toUInt32 >>> ((16 : Int32) &&& 31).toUInt32).toInt32)))])) rfl rfl (bb d17_7)
  obtain ⟨_, _, ⟨T2, L2, k2, n2⟩, -, X2, ⟨Lc2, hQ2, l2, y2, z2⟩, st2⟩ := Jvm.LawKit.callS X1 hx (y := (⟨"java/lang/Integer", "numberOfTrailingZeros", "(I)I"⟩ : MethodName)) hown (mvT hZ (ww 141 rfl)) (mvT hZ (ww 142 rfl)) (mvT hZ (ww 143 rfl)) (mvT hZ (ww 144 rfl)) (by decide) (backOf (W := 1) (rm_ntz l Z a0 hw [] wDE h0 n0 (own_z0 O0) S_wDE O0 S_CS) hZ (ww 144 rfl) (ww 143 rfl) (by decide) (by decide)) (g := (mkF m 10 #[vR a1, vI p1] [(.int (-32)), (.int (p1 ^^^ ((p1.toUInt32 >>> ((16 : Int32) &&& 31).toUInt32).toInt32)))])) rfl (by rw [hml]; rfl) (argsL := [(.int (-32))]) (rest := [(.int (p1 ^^^ ((p1.toUInt32 >>> ((16 : Int32) &&& 31).toUInt32).toInt32)))]) (lenOf pd__I_I_4 rfl) rfl (by show 2 * 0 + _ ≤ _; exact Nat.le_of_eq rfl) (bb d17_10) (fun _ _ => ⟨rfl, e1, (by decide : 0 + 0 ≤ _), (by decide : 0 + 0 ≤ _)⟩)
  dsimp only [Pt.U, Pt.locs, Pt.cells, Pt.slots] at X2 l2 y2 z2 st2 hQ2
  subst l2 y2 z2
  obtain ⟨rfl, N2q, e2⟩ := hQ2
  have N2 := Fr.app N0 N2q
  obtain ⟨T3, X3, e3, st3⟩ := getF X2 hx hZ hown (host := "") (Or.inl (ww 26 rfl)) Via.refl e2 r0 (g := (mkF m 15 #[vR a1, vI p1] [(.ref a1), (.int ((p1 ^^^ ((p1.toUInt32 >>> ((16 : Int32) &&& 31).toUInt32).toInt32)) <<< ((5 : Int32) &&& 31)))])) rfl rfl (bb d17_15)
  obtain ⟨fs, hr, hrun, hended, hW, hsame⟩ := X3.leave (v := some (.int (((p1 ^^^ ((p1.toUInt32 >>> ((16 : Int32) &&& 31).toUInt32).toInt32)) <<< ((5 : Int32) &&& 31)) &&& (-32 : Int32)))) (fun h => by rw [Bd.returns] at h; cases h)
  refine ⟨_, _, pre0 _ ?_, hrun, hended, _, _, rfl, ?_, ⟨_, rfl⟩, hW, hsame.mono (by decide) (by decide)⟩
  · show GG p e below s₁ (mkF m 0 #[vR a1, vI p1] []) _
    refine XS.iloadN X0.here hx rfl (bb d17_0) rfl ?_
    refine XS.iloadN X0.here hx rfl (bb d17_1) rfl ?_
    refine XS.bipush X0.here hx rfl (bb d17_2) ?_
    refine XS.iushr X0.here hx rfl (bb d17_4) rfl ?_
    refine XS.ixor X0.here hx rfl (bb d17_5) rfl ?_
    refine XS.aloadN X0.here hx rfl (bb d17_6) rfl rfl ?_
    refine st1 _ ?_
    refine st2 _ ?_
    refine XS.ishl X2.here hx rfl (bb d17_13) rfl ?_
    refine XS.aloadN X2.here hx rfl (bb d17_14) rfl rfl ?_
    refine st3 _ ?_
    refine XS.iand X3.here hx rfl (bb d17_18) rfl ?_
    exact retI X3 hx Bd.returns (bb d17_19) hr
  · exact ⟨by simp only [f_tagOf], N2, e3⟩
def f_slot (p1 : Int32) : Int32 := ((((((p1.toInt64) &&& (4294967295 : Int64)) * ((16 : Int32).toInt64)).toUInt64 >>> ((32 : Int32) &&& 0x3f).toInt64.toUInt64).toInt64).toInt32)
set_option maxRecDepth 65536 in
set_option maxHeartbeats 40000000 in
theorem rm_slot (l : Launch) (Z : State) (a0 : Array Value) (hw : ∀ d ∈ tables_1, d.before a0 Z = true) (ws : List Jvm.Cond) (wDE : Addr) (a1 : Addr) (p1 : Int32) (os : Addr) (ks_ : ClassId) (hs : List (Int32 × Value)) (h0 : Heap) (n0 : Nat) (Z0 : n0 ≤ h0.size) (S_wDE : Sta Z Z.heap "java/util/ArrayList" "DEFAULTCAPACITY_EMPTY_ELEMENTDATA" "[Ljava/lang/Object;" (.ref wDE)) (O0 : Old Z n0 h0) (S_CS : Sta Z Z.heap cRV "CHUNK_SHIFT" "I" (.int (12 : Int32))) (r0 : Fld Z h0 a1 cRT "slots" "[I" (.ref os)) (r1 : Arh Z h0 os ks_ .int (16 : Int32) hs [] (.int 0)) :
    MetFree l (⟨cRT, "firstSlot", "(I)I"⟩ : MethodName) (head1 (Jvm.Cond.code (⟨cRT, "firstSlot", "(I)I"⟩ : MethodName) prog_47_method_13_code 2 (some .int) :: ws) ({ frames := 0, cells := 0, slots := 0, locals := 0 } : Room)) (fun a U => a = #[(.ref a1), (.int p1)] ∧ Z.Warmed39 U.vm ∧ U.heap = h0) (fun _ _ _ _ _ => True) (fun _ U o U' => ∃ v L, o = .returned v ∧ PureQ (some (.int (f_slot p1))) h0 n0 v U'.heap L ∧ FrameEnd U o U' L ({ frames := 0, cells := 0, slots := 0, locals := 0 } : Room).cells ({ frames := 0, cells := 0, slots := 0, locals := 0 } : Room).slots) := by
  refine MetFree.of_bodySF (plainFor_of_name pn_RowTable) hisR ?_
  intro p e s m args below meth c s₁ Bd hml0 hP hK
  obtain ⟨rfl, hZ, hh⟩ := hP
  have hx := Bd.exec
  have hby := Bd.bytes
  have bb := fun {pc : Nat} {r : Except DecodeError (Instr × Nat)} (h : decode prog_47_method_13_code pc = r) => hb hby h
  have ww := fun (i : Nat) {d : Jvm.Cond} (h : tables_1[i]? = some d) => hw d (List.mem_of_getElem? h)
  have hml : c.maxLocals = 2 := hml0
  have hown : s.vm.findClass cRT = some m.cls := findClass_of_methodNamed Bd.named
  have hnm := (name_of_methodNamed Bd.named Bd.method).1
  have X0 : Stand p l e ({ frames := 0, cells := 0, slots := 0, locals := 0 } : Room) s m #[(.ref a1), (.int p1)] below meth c s₁ [] 0 0 := Stand.of_body Bd
  have e0 : s₁.heap = h0 := by rw [← hh, Bd.state]; rfl
  have N0 := Fr.nil n0
  have pre0 : ∀ t, Steps p.tables e below (s₁.setTop (mkF m 0 #[vR a1, vI p1] [])) t → Steps p.tables e below (s₁.setTop (entryFrame m #[(.ref a1), (.int p1)] 2)) t := fun t k => castTop (ef_slot m a1 p1) k
  obtain ⟨T1, X1, e1, st1⟩ := getF X0 hx hZ hown (host := "") (Or.inl (ww 24 rfl)) Via.refl e0 r0 (g := (mkF m 7 #[vR a1, vI p1] [(.ref a1), (.long ((p1.toInt64) &&& (4294967295 : Int64)))])) rfl rfl (bb d19_7)
  obtain ⟨cl2, Ar2, vq2, vS2, vN2, vH2, vG2⟩ := id r1
  obtain ⟨fs, hr, hrun, hended, hW, hsame⟩ := X1.leave (v := some (.int ((((((p1.toInt64) &&& (4294967295 : Int64)) * ((16 : Int32).toInt64)).toUInt64 >>> ((32 : Int32) &&& 0x3f).toInt64.toUInt64).toInt64).toInt32))) (fun h => by rw [Bd.returns] at h; cases h)
  refine ⟨_, _, pre0 _ ?_, hrun, hended, _, _, rfl, ?_, ⟨_, rfl⟩, hW, hsame.mono (by decide) (by decide)⟩
  · show GG p e below s₁ (mkF m 0 #[vR a1, vI p1] []) _
    refine XS.iloadN X0.here hx rfl (bb d19_0) rfl ?_
    refine XS.i2l X0.here hx rfl (bb d19_1) rfl ?_
    refine X0.ldc2Long hx hown (mvT hZ (ww 150 rfl)) (g := (mkF m 2 #[vR a1, vI p1] [(.long (p1.toInt64))])) rfl (bb d19_2) _ ?_
    refine XS.land X0.here hx rfl (bb d19_5) rfl ?_
    refine XS.aloadN X0.here hx rfl (bb d19_6) rfl rfl ?_
    refine st1 _ ?_
    refine X1.arraylength hx (by rw [e1]; exact Ar2.1) (State.isArrayOf_alike hZ.alike Ar2.2.1) (g := (mkF m 10 #[vR a1, vI p1] [(.ref os), (.long ((p1.toInt64) &&& (4294967295 : Int64)))])) rfl rfl (bb d19_10) _ ?_
    rw [len_of vS2 vN2]
    show GG p e below T1 (mkF m 11 #[vR a1, vI p1] [(.int 16), (.long ((p1.toInt64) &&& (4294967295 : Int64)))]) _
    refine XS.i2l X1.here hx rfl (bb d19_11) rfl ?_
    refine XS.lmul X1.here hx rfl (bb d19_12) rfl ?_
    refine XS.bipush X1.here hx rfl (bb d19_13) ?_
    refine XS.lushr X1.here hx rfl (bb d19_15) rfl ?_
    refine XS.l2i X1.here hx rfl (bb d19_16) rfl ?_
    exact retI X1 hx Bd.returns (bb d19_17) hr
  · exact ⟨by simp only [f_slot], N0, e1⟩
theorem own_slotv (h : Int32) : (f_slot h).toInt = (h.toInt % 4294967296) / 268435456 := by
  unfold f_slot
  have a := c_i2l h
  have m := c_maskL h.toInt64 (4294967295 : Int64) 32 (by decide) (by decide)
  have k16 : ((16 : Int32).toInt64).toInt = 16 := rfl
  have p := c_lmul (h.toInt64 &&& (4294967295 : Int64)) ((16 : Int32).toInt64)
  have r := rng64 ((h.toInt64 &&& (4294967295 : Int64)) * ((16 : Int32).toInt64))
  have u := c_lushr ((h.toInt64 &&& (4294967295 : Int64)) * ((16 : Int32).toInt64)) (32 : Int32) 32 (by decide) (by decide)
  rw [k16] at p
  generalize ((h.toInt64 &&& (4294967295 : Int64)) * ((16 : Int32).toInt64)) = y at *
  generalize ((y.toUInt64 >>> ((32 : Int32) &&& 0x3f).toInt64.toUInt64).toInt64) = z at *
  have t := c_l2i z
  have rr := rng32 z.toInt32
  have k1 : ((2 ^ 32 : Nat) : Int) = 4294967296 := rfl
  rw [k1] at m u
  omega
theorem own_slotb (h : Int32) : ¬ (f_slot h) < 0 ∧ (f_slot h) < (16 : Int32) := by
  have e := own_slotv h
  have z : (0 : Int32).toInt = 0 := rfl
  have k : (16 : Int32).toInt = 16 := rfl
  rw [Int32.lt_iff_toInt_lt, Int32.lt_iff_toInt_lt]
  omega
theorem own_slotn (h : Int32) : ((-1 : Int32) - (f_slot h)) < (0 : Int32) := by
  have e := own_slotv h
  have z : (0 : Int32).toInt = 0 := rfl
  have k : (-1 : Int32).toInt = -1 := rfl
  have c := c_isub (-1 : Int32) (f_slot h)
  have r := rng32 ((-1 : Int32) - (f_slot h))
  rw [Int32.lt_iff_toInt_lt]
  omega
theorem own_neg (x : Int32) : ((-1 : Int32) - ((-1 : Int32) - x)) = x := by
  apply Int32.toInt_inj.mp
  have k : (-1 : Int32).toInt = -1 := rfl
  have c := c_isub (-1 : Int32) x
  have d := c_isub (-1 : Int32) ((-1 : Int32) - x)
  have r := rng32 ((-1 : Int32) - ((-1 : Int32) - x))
  have r2 := rng32 x
  omega
theorem own_hashv (t : Int32) : ((f_hash t).toInt - t.toInt * 2654435769) % 4294967296 = 0 := by
  unfold f_hash
  have z : (0 : Int32).toInt = 0 := rfl
  have k : (-1640531527 : Int32).toInt = -1640531527 := rfl
  have c := c_iadd (0 : Int32) t
  have d := c_imul ((0 : Int32) + t) (-1640531527 : Int32)
  rw [k] at d
  omega
theorem own_sne {a b : Int32} (h : (a.toInt - b.toInt) % 4294967296 = 1 ∨ (a.toInt - b.toInt) % 4294967296 = 2) : ¬ (f_slot (f_hash a)) = (f_slot (f_hash b)) := by
  intro q
  have q' := congrArg Int32.toInt q
  rw [own_slotv, own_slotv] at q'
  have ha := own_hashv a
  have hb := own_hashv b
  omega
theorem own_k1 {h h' : Heap} {a : Addr} {L : List Addr} (K : Keep h h' [a]) : Keep h h' (a :: L) := (Keep.refl h _).trans K fun x hx => Or.inl (List.mem_cons.mpr (Or.inl (List.mem_singleton.mp hx)))

set_option maxRecDepth 65536 in
set_option maxHeartbeats 40000000 in
theorem rm_find (l : Launch) (Z : State) (a0 : Array Value) (hw : ∀ d ∈ tables_1, d.before a0 Z = true) (ws : List Jvm.Cond) (wDE : Addr) (a1 : Addr) (p1 : Int32) (os : Addr) (ks_ : ClassId) (hs : List (Int32 × Value)) (h0 : Heap) (n0 : Nat) (Z0 : n0 ≤ h0.size) (S_wDE : Sta Z Z.heap "java/util/ArrayList" "DEFAULTCAPACITY_EMPTY_ELEMENTDATA" "[Ljava/lang/Object;" (.ref wDE)) (O0 : Old Z n0 h0) (S_CS : Sta Z Z.heap cRV "CHUNK_SHIFT" "I" (.int (12 : Int32))) (r0 : Exa Z h0 a1 cTU) (r1 : Fld Z h0 a1 cRT "tagMask" "I" (.int (-32))) (r2 : Fld Z h0 a1 cRT "slots" "[I" (.ref os)) (r3 : Arh Z h0 os ks_ .int (16 : Int32) hs [] (.int 0)) (hz : getH hs [] (.int 0) (f_slot p1).toNatClampNeg = .int 0) :
    MetFree l (⟨cRT, "find", "(I)I"⟩ : MethodName) (head1 (Jvm.Cond.code (⟨cRT, "find", "(I)I"⟩ : MethodName) prog_47_method_5_code 5 (some .int) :: ws) ({ frames := 2, cells := 0, slots := 0, locals := 27 } : Room)) (fun a U => a = #[(.ref a1), (.int p1)] ∧ Z.Warmed39 U.vm ∧ U.heap = h0) (fun _ _ _ _ _ => True) (fun _ U o U' => ∃ v L, o = .returned v ∧ PureQ (some (.int ((-1 : Int32) - (f_slot p1)))) h0 n0 v U'.heap L ∧ FrameEnd U o U' L ({ frames := 2, cells := 0, slots := 0, locals := 27 } : Room).cells ({ frames := 2, cells := 0, slots := 0, locals := 27 } : Room).slots) := by
  refine MetFree.of_bodySF (plainFor_of_name pn_RowTable) hisR ?_
  intro p e s m args below meth c s₁ Bd hml0 hP hK
  obtain ⟨rfl, hZ, hh⟩ := hP
  have hx := Bd.exec
  have hby := Bd.bytes
  have bb := fun {pc : Nat} {r : Except DecodeError (Instr × Nat)} (h : decode prog_47_method_5_code pc = r) => hb hby h
  have ww := fun (i : Nat) {d : Jvm.Cond} (h : tables_1[i]? = some d) => hw d (List.mem_of_getElem? h)
  have hml : c.maxLocals = 5 := hml0
  have hown : s.vm.findClass cRT = some m.cls := findClass_of_methodNamed Bd.named
  have hnm := (name_of_methodNamed Bd.named Bd.method).1
  have X0 : Stand p l e ({ frames := 2, cells := 0, slots := 0, locals := 27 } : Room) s m #[(.ref a1), (.int p1)] below meth c s₁ [] 0 0 := Stand.of_body Bd
  have e0 : s₁.heap = h0 := by rw [← hh, Bd.state]; rfl
  have N0 := Fr.nil n0
  have pre0 : ∀ t, Steps p.tables e below (s₁.setTop (mkF m 0 #[vR a1, vI p1, .unset, .unset, .unset] [])) t → Steps p.tables e below (s₁.setTop (entryFrame m #[(.ref a1), (.int p1)] 5)) t := fun t k => castTop (ef_find m a1 p1) k
  obtain ⟨cq1, q1, q1'⟩ := (r0).cell
  obtain ⟨_, _, ⟨T1, L1, k1, n1⟩, -, X1, ⟨Lc1, hQ1, l1, y1, z1⟩, st1⟩ := X0.privateBack hx (y := (⟨cRT, "tagOf", "(I)I"⟩ : MethodName)) hown (mvT hZ (ww 137 rfl)) (mvT hZ (ww 138 rfl)) (own_sel2 (mvT hZ (ww 135 rfl)) rfl (mvT hZ (ww 138 rfl)) (mvP hZ (ww 139 rfl)) (by decide)) (Cond.privateMethod_at (mvP hZ (ww 139 rfl) (args := #[]))) (mvT hZ (ww 140 rfl)) (by decide) (backOf (W := 0) (rm_tagOf l Z a0 hw [] wDE a1 p1 h0 n0 (own_z0 O0) S_wDE O0 S_CS r1) hZ (ww 140 rfl) (ww 21 rfl) (by decide) (by decide)) (g := (mkF m 2 #[vR a1, vI p1, .unset, .unset, .unset] [(.int p1), (.ref a1)])) rfl (by rw [hml]; rfl) (Steps.refl _) (a := a1) (by rw [e0]; exact q1) q1' (argsL := [(.int p1)]) (rest := []) (lenOf pd__I_I_4 rfl) rfl (by show 2 * 0 + _ ≤ _; exact Nat.le_of_eq rfl) (bb d16_2) (fun _ _ => ⟨rfl, e0, (by decide : 0 + 0 ≤ _), (by decide : 0 + 0 ≤ _)⟩)
  dsimp only [Pt.U, Pt.locs, Pt.cells, Pt.slots] at X1 l1 y1 z1 st1 hQ1
  subst l1 y1 z1
  obtain ⟨rfl, N1q, e1⟩ := hQ1
  have N1 := Fr.app N0 N1q
  obtain ⟨cq2, q2, q2'⟩ := (r0).cell
  obtain ⟨_, _, ⟨T2, L2, k2, n2⟩, -, X2, ⟨Lc2, hQ2, l2, y2, z2⟩, st2⟩ := X1.privateBack hx (y := (⟨cRT, "firstSlot", "(I)I"⟩ : MethodName)) hown (mvT hZ (ww 146 rfl)) (mvT hZ (ww 147 rfl)) (own_sel2 (mvT hZ (ww 135 rfl)) rfl (mvT hZ (ww 147 rfl)) (mvP hZ (ww 148 rfl)) (by decide)) (Cond.privateMethod_at (mvP hZ (ww 148 rfl) (args := #[]))) (mvT hZ (ww 149 rfl)) (by decide) (backOf (W := 0) (rm_slot l Z a0 hw [] wDE a1 p1 os ks_ hs h0 n0 (own_z0 O0) S_wDE O0 S_CS r2 r3) hZ (ww 149 rfl) (ww 21 rfl) (by decide) (by decide)) (g := (mkF m 8 #[vR a1, vI p1, vI (f_tagOf p1), .unset, .unset] [(.int p1), (.ref a1)])) rfl (by rw [hml]; rfl) (Steps.refl _) (a := a1) (by rw [e1]; exact q2) q2' (argsL := [(.int p1)]) (rest := []) (lenOf pd__I_I_4 rfl) rfl (by show 2 * 0 + _ ≤ _; exact Nat.le_of_eq rfl) (bb d16_8) (fun _ _ => ⟨rfl, e1, (by decide : 0 + 0 ≤ _), (by decide : 0 + 0 ≤ _)⟩)
  dsimp only [Pt.U, Pt.locs, Pt.cells, Pt.slots] at X2 l2 y2 z2 st2 hQ2
  subst l2 y2 z2
  obtain ⟨rfl, N2q, e2⟩ := hQ2
  have N2 := Fr.app N1 N2q
  obtain ⟨T3, X3, e3, st3⟩ := getF X2 hx hZ hown (host := "") (Or.inl (ww 24 rfl)) Via.refl e2 r2 (g := (mkF m 13 #[vR a1, vI p1, vI (f_tagOf p1), vI (f_slot p1), .unset] [(.ref a1)])) rfl rfl (bb d16_13)
  obtain ⟨cl4, Ar4, vq4, vS4, vN4, vH4, vG4⟩ := id r3
  have hin4 : ¬ (((f_slot p1) : Int32) < 0 ∨ cl4.slots.size ≤ ((f_slot p1) : Int32).toNatClampNeg) := inb_of vS4 (own_slotb _)
  obtain ⟨fs, hr, hrun, hended, hW, hsame⟩ := X3.leave (v := some (.int ((-1 : Int32) - (f_slot p1)))) (fun h => by rw [Bd.returns] at h; cases h)
  refine ⟨_, _, pre0 _ ?_, hrun, hended, _, _, rfl, ?_, ⟨_, rfl⟩, hW, hsame.mono (by decide) (by decide)⟩
  · show GG p e below s₁ (mkF m 0 #[vR a1, vI p1, .unset, .unset, .unset] []) _
    refine XS.aloadN X0.here hx rfl (bb d16_0) rfl rfl ?_
    refine XS.iloadN X0.here hx rfl (bb d16_1) rfl ?_
    refine st1.trans ?_
    refine XS.istoreN X1.here hx rfl (bb d16_5) rfl (l' := #[vR a1, vI p1, vI (f_tagOf p1), .unset, .unset]) rfl ?_
    refine XS.aloadN X1.here hx rfl (bb d16_6) rfl rfl ?_
    refine XS.iloadN X1.here hx rfl (bb d16_7) rfl ?_
    refine st2.trans ?_
    refine XS.istoreN X2.here hx rfl (bb d16_11) rfl (l' := #[vR a1, vI p1, vI (f_tagOf p1), vI (f_slot p1), .unset]) rfl ?_
    refine XS.aloadN X2.here hx rfl (bb d16_12) rfl rfl ?_
    refine st3 _ ?_
    refine XS.iloadN X3.here hx rfl (bb d16_16) rfl ?_
    refine X3.iaload hx (j := (f_slot p1)) (v := (.int 0)) (by rw [e3]; exact Ar4.1) (State.isArrayOf_alike hZ.alike Ar4.2.1) Ar4.2.2 hin4 (atH vH4 hin4 hz) (g := (mkF m 17 #[vR a1, vI p1, vI (f_tagOf p1), vI (f_slot p1), .unset] [(.int (f_slot p1)), (.ref os)])) rfl rfl (bb d16_17) _ ?_
    refine XS.istore X3.here hx rfl (bb d16_18) rfl (l' := #[vR a1, vI p1, vI (f_tagOf p1), vI (f_slot p1), vI 0]) rfl ?_
    refine XS.iload X3.here hx rfl (bb d16_20) rfl ?_
    refine XS.ifNo X3.here hx rfl (bb d16_22) rfl ((if0 _ _).trans (teq (by decide : (0 : Int32) = (0 : Int32))).2) ?_
    refine XS.iconst X3.here hx rfl (bb d16_25) ?_
    refine XS.iloadN X3.here hx rfl (bb d16_26) rfl ?_
    refine XS.isub X3.here hx rfl (bb d16_27) rfl ?_
    exact retI X3 hx Bd.returns (bb d16_28) hr
  · exact ⟨rfl, N2, e3⟩
set_option maxRecDepth 65536 in
set_option maxHeartbeats 40000000 in
theorem rm_fits (l : Launch) (Z : State) (a0 : Array Value) (hw : ∀ d ∈ tables_1, d.before a0 Z = true) (ws : List Jvm.Cond) (wDE : Addr) (a1 : Addr) (p1 : Int32) (h0 : Heap) (n0 : Nat) (Z0 : n0 ≤ h0.size) (S_wDE : Sta Z Z.heap "java/util/ArrayList" "DEFAULTCAPACITY_EMPTY_ELEMENTDATA" "[Ljava/lang/Object;" (.ref wDE)) (O0 : Old Z n0 h0) (S_CS : Sta Z Z.heap cRV "CHUNK_SHIFT" "I" (.int (12 : Int32))) (r0 : Fld Z h0 a1 cRT "tagMask" "I" (.int (-32))) (hfit : ((p1 + (1 : Int32)) &&& (-32 : Int32)) = (0 : Int32)) :
    MetFree l (⟨cRT, "fits", "(I)Z"⟩ : MethodName) (head1 (Jvm.Cond.code (⟨cRT, "fits", "(I)Z"⟩ : MethodName) prog_47_method_9_code 2 (some .boolean) :: ws) ({ frames := 0, cells := 0, slots := 0, locals := 0 } : Room)) (fun a U => a = #[(.ref a1), (.int p1)] ∧ Z.Warmed39 U.vm ∧ U.heap = h0) (fun _ _ _ _ _ => True) (fun _ U o U' => ∃ v L, o = .returned v ∧ PureQ (some (.int 1)) h0 n0 v U'.heap L ∧ FrameEnd U o U' L ({ frames := 0, cells := 0, slots := 0, locals := 0 } : Room).cells ({ frames := 0, cells := 0, slots := 0, locals := 0 } : Room).slots) := by
  refine MetFree.of_bodySF (plainFor_of_name pn_RowTable) hisR ?_
  intro p e s m args below meth c s₁ Bd hml0 hP hK
  obtain ⟨rfl, hZ, hh⟩ := hP
  have hx := Bd.exec
  have hby := Bd.bytes
  have bb := fun {pc : Nat} {r : Except DecodeError (Instr × Nat)} (h : decode prog_47_method_9_code pc = r) => hb hby h
  have ww := fun (i : Nat) {d : Jvm.Cond} (h : tables_1[i]? = some d) => hw d (List.mem_of_getElem? h)
  have hml : c.maxLocals = 2 := hml0
  have hown : s.vm.findClass cRT = some m.cls := findClass_of_methodNamed Bd.named
  have hnm := (name_of_methodNamed Bd.named Bd.method).1
  have X0 : Stand p l e ({ frames := 0, cells := 0, slots := 0, locals := 0 } : Room) s m #[(.ref a1), (.int p1)] below meth c s₁ [] 0 0 := Stand.of_body Bd
  have e0 : s₁.heap = h0 := by rw [← hh, Bd.state]; rfl
  have N0 := Fr.nil n0
  have pre0 : ∀ t, Steps p.tables e below (s₁.setTop (mkF m 0 #[vR a1, vI p1] [])) t → Steps p.tables e below (s₁.setTop (entryFrame m #[(.ref a1), (.int p1)] 2)) t := fun t k => castTop (ef_fits m a1 p1) k
  obtain ⟨T1, X1, e1, st1⟩ := getF X0 hx hZ hown (host := "") (Or.inl (ww 26 rfl)) Via.refl e0 r0 (g := (mkF m 4 #[vR a1, vI p1] [(.ref a1), (.int (p1 + (1 : Int32)))])) rfl rfl (bb d34_4)
  obtain ⟨fs, hr, hrun, hended, hW, hsame⟩ := X1.leave (v := some (.int 1)) (fun h => by rw [Bd.returns] at h; cases h)
  refine ⟨_, _, pre0 _ ?_, hrun, hended, _, _, rfl, ?_, ⟨_, rfl⟩, hW, hsame.mono (by decide) (by decide)⟩
  · show GG p e below s₁ (mkF m 0 #[vR a1, vI p1] []) _
    refine XS.iloadN X0.here hx rfl (bb d34_0) rfl ?_
    refine XS.iconst X0.here hx rfl (bb d34_1) ?_
    refine XS.iadd X0.here hx rfl (bb d34_2) rfl ?_
    refine XS.aloadN X0.here hx rfl (bb d34_3) rfl rfl ?_
    refine st1 _ ?_
    refine XS.iand X1.here hx rfl (bb d34_7) rfl ?_
    refine XS.ifNo X1.here hx rfl (bb d34_8) rfl ((if0 _ _).trans (teq hfit).2) ?_
    refine XS.iconst X1.here hx rfl (bb d34_11) ?_
    refine XS.goto X1.here hx rfl (pc0 := 12) (pc' := 16) rfl (bb d34_12) (by decide) (by decide) ?_
    exact retN X1 hx (t := .boolean) Bd.returns (by simp) (bb d34_16) hr
  · exact ⟨rfl, N0, e1⟩
def Q_insert (Z : State) (wDE a1 : Addr) (p2 p3 p4 : Int32) (os : Addr) (ks_ : ClassId) (hs : List (Int32 × Value)) (ec : Int32) (h0 : Heap) (n0 : Nat) (v : Option Value) (h : Heap) (L : List Loc) : Prop := v = none ∧ Fr n0 L ∧ Keep h0 h [a1, os] ∧ Fld Z h a1 cRT "tagMask" "I" (.int (-32)) ∧ Fld Z h a1 cRT "slots" "[I" (.ref os) ∧ Fld Z h a1 cRT "count" "I" (.int (ec + (1 : Int32))) ∧ Arh Z h os ks_ .int (16 : Int32) (((f_slot p3), (.int ((f_tagOf p3) ||| (p4 + (1 : Int32))))) :: hs) [] (.int 0)
set_option maxRecDepth 65536 in
set_option maxHeartbeats 40000000 in
theorem rm_insert (l : Launch) (Z : State) (a0 : Array Value) (hw : ∀ d ∈ tables_1, d.before a0 Z = true) (ws : List Jvm.Cond) (wDE : Addr) (a1 : Addr) (p2 p3 p4 : Int32) (os : Addr) (ks_ : ClassId) (hs : List (Int32 × Value)) (ec : Int32) (h0 : Heap) (n0 : Nat) (Z0 : n0 ≤ h0.size) (S_wDE : Sta Z Z.heap "java/util/ArrayList" "DEFAULTCAPACITY_EMPTY_ELEMENTDATA" "[Ljava/lang/Object;" (.ref wDE)) (O0 : Old Z n0 h0) (S_CS : Sta Z Z.heap cRV "CHUNK_SHIFT" "I" (.int (12 : Int32))) (r0 : Exa Z h0 a1 cTU) (r1 : Fld Z h0 a1 cRT "tagMask" "I" (.int (-32))) (r2 : Fld Z h0 a1 cRT "slots" "[I" (.ref os)) (r3 : Arh Z h0 os ks_ .int (16 : Int32) hs [] (.int 0)) (r4 : Fld Z h0 a1 cRT "count" "I" (.int ec)) (g_a1 : n0 ≤ a1) (g_os : n0 ≤ os) (ne_a1_os : a1 ≠ os) (hsl : ((-1 : Int32) - p2) = (f_slot p3)) (hfit : ((p4 + (1 : Int32)) &&& (-32 : Int32)) = (0 : Int32)) (hcnt : ¬ ((0 : Int32) < (lcmpW ((5 : Int64) * ((ec + (1 : Int32)).toInt64)) ((4 : Int64) * ((16 : Int32).toInt64))))) :
    MetFree l (⟨cRT, "insert", "(III)V"⟩ : MethodName) (head1 (Jvm.Cond.code (⟨cRT, "insert", "(III)V"⟩ : MethodName) prog_47_method_8_code 7 none :: ws) ({ frames := 2, cells := 0, slots := 0, locals := 29 } : Room)) (fun a U => a = #[(.ref a1), (.int p2), (.int p3), (.int p4)] ∧ Z.Warmed39 U.vm ∧ U.heap = h0) (fun _ _ _ _ _ => True) (fun _ U o U' => ∃ v L, o = .returned v ∧ Q_insert Z wDE a1 p2 p3 p4 os ks_ hs ec h0 n0 v U'.heap L ∧ FrameEnd U o U' L ({ frames := 2, cells := 0, slots := 0, locals := 29 } : Room).cells ({ frames := 2, cells := 0, slots := 0, locals := 29 } : Room).slots) := by
  refine MetFree.of_bodySF (plainFor_of_name pn_RowTable) hisR ?_
  intro p e s m args below meth c s₁ Bd hml0 hP hK
  obtain ⟨rfl, hZ, hh⟩ := hP
  have hx := Bd.exec
  have hby := Bd.bytes
  have bb := fun {pc : Nat} {r : Except DecodeError (Instr × Nat)} (h : decode prog_47_method_8_code pc = r) => hb hby h
  have ww := fun (i : Nat) {d : Jvm.Cond} (h : tables_1[i]? = some d) => hw d (List.mem_of_getElem? h)
  have hml : c.maxLocals = 7 := hml0
  have hown : s.vm.findClass cRT = some m.cls := findClass_of_methodNamed Bd.named
  have hnm := (name_of_methodNamed Bd.named Bd.method).1
  have X0 : Stand p l e ({ frames := 2, cells := 0, slots := 0, locals := 29 } : Room) s m #[(.ref a1), (.int p2), (.int p3), (.int p4)] below meth c s₁ [] 0 0 := Stand.of_body Bd
  have e0 : s₁.heap = h0 := by rw [← hh, Bd.state]; rfl
  have N0 := Fr.nil n0
  have pre0 : ∀ t, Steps p.tables e below (s₁.setTop (mkF m 0 #[vR a1, vI p2, vI p3, vI p4, .unset, .unset, .unset] [])) t → Steps p.tables e below (s₁.setTop (entryFrame m #[(.ref a1), (.int p2), (.int p3), (.int p4)] 7)) t := fun t k => castTop (ef_insert m a1 p2 p3 p4) k
  obtain ⟨T1, X1, e1, st1⟩ := getF X0 hx hZ hown (host := "") (Or.inl (ww 250 rfl)) Via.refl e0 r4 (g := (mkF m 9 #[vR a1, vI p2, vI p3, vI p4, vI ((-1 : Int32) - p2), .unset, .unset] [(.ref a1), (.long 5)])) rfl rfl (bb d33_9)
  obtain ⟨T2, X2, e2, st2⟩ := getF X1 hx hZ hown (host := "") (Or.inl (ww 24 rfl)) Via.refl e1 r2 (g := (mkF m 20 #[vR a1, vI p2, vI p3, vI p4, vI ((-1 : Int32) - p2), .unset, .unset] [(.ref a1), (.long 4), (.long ((5 : Int64) * ((ec + (1 : Int32)).toInt64)))])) rfl rfl (bb d33_20)
  obtain ⟨cl3, Ar3, vq3, vS3, vN3, vH3, vG3⟩ := id r3
  obtain ⟨cq4, q4, q4'⟩ := (r0).cell
  obtain ⟨_, _, ⟨T4, L4, k4, n4⟩, -, X4, ⟨Lc4, hQ4, l4, y4, z4⟩, st4⟩ := X2.privateBack hx (y := (⟨cRT, "fits", "(I)Z"⟩ : MethodName)) hown (mvT hZ (ww 253 rfl)) (mvT hZ (ww 254 rfl)) (own_sel2 (mvT hZ (ww 135 rfl)) rfl (mvT hZ (ww 254 rfl)) (mvP hZ (ww 255 rfl)) (by decide)) (Cond.privateMethod_at (mvP hZ (ww 255 rfl) (args := #[]))) (mvT hZ (ww 256 rfl)) (by decide) (backOf (W := 0) (rm_fits l Z a0 hw [] wDE a1 p4 h0 n0 (own_z0 O0) S_wDE O0 S_CS r1 hfit) hZ (ww 256 rfl) (ww 21 rfl) (by decide) (by decide)) (g := (mkF m 44 #[vR a1, vI p2, vI p3, vI p4, vI ((-1 : Int32) - p2), vI 0, .unset] [(.int p4), (.ref a1)])) rfl (by rw [hml]; rfl) (Steps.refl _) (a := a1) (by rw [e2]; exact q4) q4' (argsL := [(.int p4)]) (rest := []) (lenOf pd__I_Z_4 rfl) rfl (by show 2 * 0 + _ ≤ _; exact Nat.le_of_eq rfl) (bb d33_44) (fun _ _ => ⟨rfl, e2, (by decide : 0 + 0 ≤ _), (by decide : 0 + 0 ≤ _)⟩)
  dsimp only [Pt.U, Pt.locs, Pt.cells, Pt.slots] at X4 l4 y4 z4 st4 hQ4
  subst l4 y4 z4
  obtain ⟨rfl, N4q, e4⟩ := hQ4
  have N4 := Fr.app N0 N4q
  obtain ⟨T5, X5, e5, st5⟩ := getF X4 hx hZ hown (host := "") (Or.inl (ww 24 rfl)) Via.refl e4 r2 (g := (mkF m 122 #[vR a1, vI p2, vI p3, vI p4, vI ((-1 : Int32) - p2), vI 0, .unset] [(.ref a1)])) rfl rfl (bb d33_122)
  obtain ⟨cq6, q6, q6'⟩ := (r0).cell
  obtain ⟨_, _, ⟨T6, L6, k6, n6⟩, -, X6, ⟨Lc6, hQ6, l6, y6, z6⟩, st6⟩ := X5.privateBack hx (y := (⟨cRT, "tagOf", "(I)I"⟩ : MethodName)) hown (mvT hZ (ww 137 rfl)) (mvT hZ (ww 138 rfl)) (own_sel2 (mvT hZ (ww 135 rfl)) rfl (mvT hZ (ww 138 rfl)) (mvP hZ (ww 139 rfl)) (by decide)) (Cond.privateMethod_at (mvP hZ (ww 139 rfl) (args := #[]))) (mvT hZ (ww 140 rfl)) (by decide) (backOf (W := 2) (rm_tagOf l Z a0 hw [] wDE a1 p3 h0 n0 (own_z0 O0) S_wDE O0 S_CS r1) hZ (ww 140 rfl) (ww 21 rfl) (by decide) (by decide)) (g := (mkF m 129 #[vR a1, vI p2, vI p3, vI p4, vI ((-1 : Int32) - p2), vI 0, .unset] [(.int p3), (.ref a1), (.int ((-1 : Int32) - p2)), (.ref os)])) rfl (by rw [hml]; rfl) (Steps.refl _) (a := a1) (by rw [e5]; exact q6) q6' (argsL := [(.int p3)]) (rest := [(.int ((-1 : Int32) - p2)), (.ref os)]) (lenOf pd__I_I_4 rfl) rfl (by show 2 * 0 + _ ≤ _; exact Nat.le_of_eq rfl) (bb d33_129) (fun _ _ => ⟨rfl, e5, (by decide : 0 + 0 ≤ _), (by decide : 0 + 0 ≤ _)⟩)
  dsimp only [Pt.U, Pt.locs, Pt.cells, Pt.slots] at X6 l6 y6 z6 st6 hQ6
  subst l6 y6 z6
  obtain ⟨rfl, N6q, e6⟩ := hQ6
  have N6 := Fr.app N4 N6q
  obtain ⟨cl7, Ar7, vq7, vS7, vN7, vH7, vG7⟩ := id r3
  have hin7 : ¬ ((((-1 : Int32) - p2) : Int32) < 0 ∨ cl7.slots.size ≤ (((-1 : Int32) - p2) : Int32).toNatClampNeg) := inb_of vS7 (hsl ▸ own_slotb _)
  obtain ⟨T7, h7, X7, e7, W7, st7⟩ := stI X6 hx hZ e6 Ar7 (j := ((-1 : Int32) - p2)) hin7 (g := (mkF m 136 #[vR a1, vI p2, vI p3, vI p4, vI ((-1 : Int32) - p2), vI 0, .unset] [(.int ((f_tagOf p3) ||| (p4 + (1 : Int32)))), (.int ((-1 : Int32) - p2)), (.ref os)])) rfl rfl (bb d33_136)
  have V7 := Arh.push Ar7 vq7 vS7 vN7 vH7 vG7 (rfl : fits .int (.int ((f_tagOf p3) ||| (p4 + (1 : Int32)))) = true) W7 hin7
  rw [hsl] at V7
  have N7 := Fr.snoc X7 N6 g_os
  have F9 := (r4.other W7 (Or.inl ne_a1_os))
  obtain ⟨T8, X8, e8, st8⟩ := getF X7 hx hZ hown (host := "") (Or.inl (ww 250 rfl)) Via.refl e7 F9 (g := (mkF m 139 #[vR a1, vI p2, vI p3, vI p4, vI ((-1 : Int32) - p2), vI 0, .unset] [(.ref a1), (.ref a1)])) rfl rfl (bb d33_139)
  have F11 := (r0.wr W7)
  obtain ⟨T10, h10, X10, e10, W10, st10⟩ := putF X8 hx hZ hown (host := "") (Or.inl (ww 250 rfl)) Via.refl e8 F9 F11 (Or.inl (ww 251 rfl)) (ww 11 rfl) (ty := .int) (by decide) rfl rfl (g := (mkF m 144 #[vR a1, vI p2, vI p3, vI p4, vI ((-1 : Int32) - p2), vI 0, .unset] [(.int (ec + (1 : Int32))), (.ref a1)])) rfl rfl (bb d33_144)
  have Fw10 := F9.same W10
  have N10 := Fr.snoc X10 N7 g_a1
  have F12 := ((r1.other W7 (Or.inl ne_a1_os)).other W10 (Or.inr (slot_ne (Or.inl (ww 27 rfl)) (Or.inl (ww 251 rfl)) (by decide) (t := .int) (t' := .int) (by decide) (by decide))))
  have F13 := ((r2.other W7 (Or.inl ne_a1_os)).other W10 (Or.inr (slot_ne (Or.inl (ww 25 rfl)) (Or.inl (ww 251 rfl)) (by decide) (t := (.array .int)) (t' := .int) (by decide) (by decide))))
  have F14 := (V7.other W10 (Ne.symm ne_a1_os))
  obtain ⟨fs, hr, hrun, hended, hW, hsame⟩ := X10.leave (v := none) (fun _ => rfl)
  refine ⟨_, _, pre0 _ ?_, hrun, hended, _, _, rfl, ?_, ⟨_, rfl⟩, hW, hsame.mono (by decide) (by decide)⟩
  · show GG p e below s₁ (mkF m 0 #[vR a1, vI p2, vI p3, vI p4, .unset, .unset, .unset] []) _
    refine XS.iconst X0.here hx rfl (bb d33_0) ?_
    refine XS.iloadN X0.here hx rfl (bb d33_1) rfl ?_
    refine XS.isub X0.here hx rfl (bb d33_2) rfl ?_
    refine XS.istore X0.here hx rfl (bb d33_3) rfl (l' := #[vR a1, vI p2, vI p3, vI p4, vI ((-1 : Int32) - p2), .unset, .unset]) rfl ?_
    refine X0.ldc2Long hx hown (mvT hZ (ww 249 rfl)) (g := (mkF m 5 #[vR a1, vI p2, vI p3, vI p4, vI ((-1 : Int32) - p2), .unset, .unset] [])) rfl (bb d33_5) _ ?_
    refine XS.aloadN X0.here hx rfl (bb d33_8) rfl rfl ?_
    refine st1 _ ?_
    refine XS.iconst X1.here hx rfl (bb d33_12) ?_
    refine XS.iadd X1.here hx rfl (bb d33_13) rfl ?_
    refine XS.i2l X1.here hx rfl (bb d33_14) rfl ?_
    refine XS.lmul X1.here hx rfl (bb d33_15) rfl ?_
    refine X1.ldc2Long hx hown (mvT hZ (ww 252 rfl)) (g := (mkF m 16 #[vR a1, vI p2, vI p3, vI p4, vI ((-1 : Int32) - p2), .unset, .unset] [(.long ((5 : Int64) * ((ec + (1 : Int32)).toInt64)))])) rfl (bb d33_16) _ ?_
    refine XS.aloadN X1.here hx rfl (bb d33_19) rfl rfl ?_
    refine st2 _ ?_
    refine X2.arraylength hx (by rw [e2]; exact Ar3.1) (State.isArrayOf_alike hZ.alike Ar3.2.1) (g := (mkF m 23 #[vR a1, vI p2, vI p3, vI p4, vI ((-1 : Int32) - p2), .unset, .unset] [(.ref os), (.long 4), (.long ((5 : Int64) * ((ec + (1 : Int32)).toInt64)))])) rfl rfl (bb d33_23) _ ?_
    rw [len_of vS3 vN3]
    show GG p e below T2 (mkF m 24 #[vR a1, vI p2, vI p3, vI p4, vI ((-1 : Int32) - p2), .unset, .unset] [(.int 16), (.long 4), (.long ((5 : Int64) * ((ec + (1 : Int32)).toInt64)))]) _
    refine XS.i2l X2.here hx rfl (bb d33_24) rfl ?_
    refine XS.lmul X2.here hx rfl (bb d33_25) rfl ?_
    refine XS.lcmp X2.here hx rfl (bb d33_26) rfl ?_
    refine XS.ifYes X2.here hx rfl (pc0 := 27) (pc' := 34) rfl (bb d33_27) rfl ((if0 _ _).trans (flt hcnt).2.2.2) (by decide) (by decide) ?_
    refine XS.iconst X2.here hx rfl (bb d33_34) ?_
    refine XS.istore X2.here hx rfl (bb d33_35) rfl (l' := #[vR a1, vI p2, vI p3, vI p4, vI ((-1 : Int32) - p2), vI 0, .unset]) rfl ?_
    refine XS.iload X2.here hx rfl (bb d33_37) rfl ?_
    refine XS.ifNo X2.here hx rfl (bb d33_39) rfl ((if0 _ _).trans (teq (by decide : (0 : Int32) = (0 : Int32))).2) ?_
    refine XS.aloadN X2.here hx rfl (bb d33_42) rfl rfl ?_
    refine XS.iloadN X2.here hx rfl (bb d33_43) rfl ?_
    refine st4.trans ?_
    refine XS.ifYes X4.here hx rfl (pc0 := 47) (pc' := 121) rfl (bb d33_47) rfl ((if0 _ _).trans (feq (by decide : ¬ ((1 : Int32) = (0 : Int32)))).2) (by decide) (by decide) ?_
    refine XS.aloadN X4.here hx rfl (bb d33_121) rfl rfl ?_
    refine st5 _ ?_
    refine XS.iload X5.here hx rfl (bb d33_125) rfl ?_
    refine XS.aloadN X5.here hx rfl (bb d33_127) rfl rfl ?_
    refine XS.iloadN X5.here hx rfl (bb d33_128) rfl ?_
    refine st6.trans ?_
    refine XS.iloadN X6.here hx rfl (bb d33_132) rfl ?_
    refine XS.iconst X6.here hx rfl (bb d33_133) ?_
    refine XS.iadd X6.here hx rfl (bb d33_134) rfl ?_
    refine XS.ior X6.here hx rfl (bb d33_135) rfl ?_
    refine st7 _ ?_
    refine XS.aloadN X7.here hx rfl (bb d33_137) rfl rfl ?_
    refine XS.dup X7.here hx rfl (bb d33_138) rfl rfl ?_
    refine st8 _ ?_
    refine XS.iconst X8.here hx rfl (bb d33_142) ?_
    refine XS.iadd X8.here hx rfl (bb d33_143) rfl ?_
    refine st10 _ ?_
    exact X10.returnOut hx Bd.returns (bb d33_147) hr
  · show Q_insert Z wDE a1 p2 p3 p4 os ks_ hs ec h0 n0 _ T10.heap _
    rw [e10]
    exact ⟨rfl, N10, (((Keep.refl h0 [a1, os]).wr W7 (Or.inl (List.mem_of_getElem? (i := 1) rfl))).wr W10 (Or.inl (List.mem_of_getElem? (i := 0) rfl))), F12, F13, Fw10, F14⟩
def f_lt (a b : Int32) : Int32 := if a < b then (1 : Int32) else (0 : Int32)
def Q_srf (Z : State) (wDE a1 : Addr) (p2 : Int32) (ot ox ovs : Addr) (en de ds zh : Int32) (so : Value) (h0 : Heap) (n0 : Nat) (v : Option Value) (h : Heap) (L : List Loc) : Prop := v = some (.int (nar .boolean (f_lt p2 en))) ∧ Fr n0 L ∧ Keep h0 h [a1] ∧ Fld Z h a1 cRE "onlyNew" "Z" (.int 0) ∧ Fld Z h a1 cRE "sought" "[I" so ∧ Fld Z h a1 cRE "growth" "Ljava/lang/Runnable;" .null ∧ Fld Z h a1 cRE "deltaStart" "I" (.int p2) ∧ Fld Z h a1 cRE "deltaEnd" "I" (.int en) ∧ Fld Z h a1 cRE "rows" "I" (.int en) ∧ Fld Z h a1 cRE "holdsNull" "Z" (.int zh) ∧ Fld Z h a1 cRE "rowWithNull" "Ljava/util/function/IntConsumer;" .null ∧ Fld Z h a1 cRE "table" "Lcom/example/chaseward/chaseward/engine/Relation$Tuples;" (.ref ot) ∧ Fld Z h a1 cRE "indexes" "Ljava/util/List;" (.ref ox) ∧ Fld Z h a1 cRE "values" "Lcom/example/chaseward/chaseward/engine/RowValues;" (.ref ovs)
def m_srf_0 (p2 : Int32) (en : Int32) : Int32 := (if p2 < en then (1 : Int32) else (0 : Int32))
set_option maxRecDepth 65536 in
set_option maxHeartbeats 40000000 in
theorem rm_srf (l : Launch) (Z : State) (a0 : Array Value) (hw : ∀ d ∈ tables_1, d.before a0 Z = true) (ws : List Jvm.Cond) (wDE : Addr) (a1 : Addr) (p2 : Int32) (ot ox ovs : Addr) (en de ds zh : Int32) (so : Value) (h0 : Heap) (n0 : Nat) (Z0 : n0 ≤ h0.size) (S_wDE : Sta Z Z.heap "java/util/ArrayList" "DEFAULTCAPACITY_EMPTY_ELEMENTDATA" "[Ljava/lang/Object;" (.ref wDE)) (O0 : Old Z n0 h0) (S_CS : Sta Z Z.heap cRV "CHUNK_SHIFT" "I" (.int (12 : Int32))) (r0 : Exa Z h0 a1 cRE) (r1 : Fld Z h0 a1 cRE "onlyNew" "Z" (.int 0)) (r2 : Fld Z h0 a1 cRE "sought" "[I" so) (r3 : Fld Z h0 a1 cRE "growth" "Ljava/lang/Runnable;" .null) (r4 : Fld Z h0 a1 cRE "deltaStart" "I" (.int ds)) (r5 : Fld Z h0 a1 cRE "deltaEnd" "I" (.int de)) (r6 : Fld Z h0 a1 cRE "rows" "I" (.int en)) (r7 : Fld Z h0 a1 cRE "holdsNull" "Z" (.int zh)) (r8 : Fld Z h0 a1 cRE "rowWithNull" "Ljava/util/function/IntConsumer;" .null) (r9 : Fld Z h0 a1 cRE "table" "Lcom/example/chaseward/chaseward/engine/Relation$Tuples;" (.ref ot)) (r10 : Fld Z h0 a1 cRE "indexes" "Ljava/util/List;" (.ref ox)) (r11 : Fld Z h0 a1 cRE "values" "Lcom/example/chaseward/chaseward/engine/RowValues;" (.ref ovs)) (g_a1 : n0 ≤ a1) :
    MetFree l (⟨cRE, "startRoundFrom", "(I)Z"⟩ : MethodName) (head1 (Jvm.Cond.code (⟨cRE, "startRoundFrom", "(I)Z"⟩ : MethodName) prog_43_method_23_code 2 (some .boolean) :: ws) ({ frames := 0, cells := 0, slots := 0, locals := 0 } : Room)) (fun a U => a = #[(.ref a1), (.int p2)] ∧ Z.Warmed39 U.vm ∧ U.heap = h0) (fun _ _ _ _ _ => True) (fun _ U o U' => ∃ v L, o = .returned v ∧ Q_srf Z wDE a1 p2 ot ox ovs en de ds zh so h0 n0 v U'.heap L ∧ FrameEnd U o U' L ({ frames := 0, cells := 0, slots := 0, locals := 0 } : Room).cells ({ frames := 0, cells := 0, slots := 0, locals := 0 } : Room).slots) := by
  refine MetFree.of_bodySF (plainFor_of_name pn_Relation) hisR ?_
  intro p e s m args below meth c s₁ Bd hml0 hP hK
  obtain ⟨rfl, hZ, hh⟩ := hP
  have hx := Bd.exec
  have hby := Bd.bytes
  have bb := fun {pc : Nat} {r : Except DecodeError (Instr × Nat)} (h : decode prog_43_method_23_code pc = r) => hb hby h
  have ww := fun (i : Nat) {d : Jvm.Cond} (h : tables_1[i]? = some d) => hw d (List.mem_of_getElem? h)
  have hml : c.maxLocals = 2 := hml0
  have hown : s.vm.findClass cRE = some m.cls := findClass_of_methodNamed Bd.named
  have hnm := (name_of_methodNamed Bd.named Bd.method).1
  have X0 : Stand p l e ({ frames := 0, cells := 0, slots := 0, locals := 0 } : Room) s m #[(.ref a1), (.int p2)] below meth c s₁ [] 0 0 := Stand.of_body Bd
  have e0 : s₁.heap = h0 := by rw [← hh, Bd.state]; rfl
  have N0 := Fr.nil n0
  have pre0 : ∀ t, Steps p.tables e below (s₁.setTop (mkF m 0 #[vR a1, vI p2] [])) t → Steps p.tables e below (s₁.setTop (entryFrame m #[(.ref a1), (.int p2)] 2)) t := fun t k => castTop (ef_srf m a1 p2) k
  obtain ⟨T1, h1, X1, e1, W1, st1⟩ := putF X0 hx hZ hown (host := "") (Or.inl (ww 93 rfl)) Via.refl e0 r4 r0 (Or.inl (ww 94 rfl)) (ww 2 rfl) (ty := .int) (by decide) rfl rfl (g := (mkF m 2 #[vR a1, vI p2] [(.int p2), (.ref a1)])) rfl rfl (bb d9_2)
  have Fw1 := r4.same W1
  have N1 := Fr.snoc X1 N0 g_a1
  have F3 := (r6.other W1 (Or.inr (slot_ne (Or.inl (ww 96 rfl)) (Or.inl (ww 94 rfl)) (by decide) (t := .int) (t' := .int) (by decide) (by decide))))
  obtain ⟨T2, X2, e2, st2⟩ := getF X1 hx hZ hown (host := "") (Or.inl (ww 95 rfl)) Via.refl e1 F3 (g := (mkF m 7 #[vR a1, vI p2] [(.ref a1), (.ref a1)])) rfl rfl (bb d9_7)
  have F5 := (r5.other W1 (Or.inr (slot_ne (Or.inl (ww 98 rfl)) (Or.inl (ww 94 rfl)) (by decide) (t := .int) (t' := .int) (by decide) (by decide))))
  have F6 := (r0.wr W1)
  obtain ⟨T4, h4, X4, e4, W4, st4⟩ := putF X2 hx hZ hown (host := "") (Or.inl (ww 97 rfl)) Via.refl e2 F5 F6 (Or.inl (ww 98 rfl)) (ww 2 rfl) (ty := .int) (by decide) rfl rfl (g := (mkF m 10 #[vR a1, vI p2] [(.int en), (.ref a1)])) rfl rfl (bb d9_10)
  have Fw4 := F5.same W4
  have N4 := Fr.snoc X4 N1 g_a1
  have pre7 : ∀ t, GG p e below T4 (mkF m 13 #[vR a1, vI p2] []) t → GG p e below s₁ (entryFrame m #[(.ref a1), (.int p2)] 2) t := fun t k => pre0 t (by
      show GG p e below s₁ (mkF m 0 #[vR a1, vI p2] []) _
      refine XS.aloadN X0.here hx rfl (bb d9_0) rfl rfl ?_
      refine XS.iloadN X0.here hx rfl (bb d9_1) rfl ?_
      refine st1 _ ?_
      refine XS.aloadN X1.here hx rfl (bb d9_5) rfl rfl ?_
      refine XS.aloadN X1.here hx rfl (bb d9_6) rfl rfl ?_
      refine st2 _ ?_
      refine st4 _ ?_
      exact k)
  obtain ⟨T8, L8, X8, e8, N8, pre8⟩ : ∃ (T' : State) (L' : List Loc), Stand p l e ({ frames := 0, cells := 0, slots := 0, locals := 0 } : Room) s m #[(.ref a1), (.int p2)] below meth c T' L' 0 0 ∧ T'.heap = h4 ∧ Fr n0 L' ∧ ∀ t, Steps p.tables e below (T'.setTop (mkF m 29 #[vR a1, vI p2] [(.int (m_srf_0 p2 en))])) t → Steps p.tables e below (s₁.setTop (entryFrame m #[(.ref a1), (.int p2)] 2)) t := by
    have F10 := (Fw1.other W4 (Or.inr (slot_ne (Or.inl (ww 94 rfl)) (Or.inl (ww 98 rfl)) (by decide) (t := .int) (t' := .int) (by decide) (by decide))))
    obtain ⟨T9, X9, e9, st9⟩ := getF X4 hx hZ hown (host := "") (Or.inl (ww 93 rfl)) Via.refl e4 F10 (g := (mkF m 14 #[vR a1, vI p2] [(.ref a1)])) rfl rfl (bb d9_14)
    obtain ⟨T11, X11, e11, st11⟩ := getF X9 hx hZ hown (host := "") (Or.inl (ww 97 rfl)) Via.refl e9 Fw4 (g := (mkF m 18 #[vR a1, vI p2] [(.ref a1), (.int p2)])) rfl rfl (bb d9_18)
    have pre12 : ∀ t, GG p e below T11 (mkF m 21 #[vR a1, vI p2] [(.int en), (.int p2)]) t → GG p e below s₁ (entryFrame m #[(.ref a1), (.int p2)] 2) t := fun t k => pre7 t (by
        show GG p e below T4 (mkF m 13 #[vR a1, vI p2] []) _
        refine XS.aloadN X4.here hx rfl (bb d9_13) rfl rfl ?_
        refine st9 _ ?_
        refine XS.aloadN X9.here hx rfl (bb d9_17) rfl rfl ?_
        refine st11 _ ?_
        exact k)
    by_cases g13 : p2 < en
    · skip
      simp only [m_srf_0, if_pos g13]
      exact ⟨T11, _, X11, e11, N4, fun t k => pre12 t (by
          show GG p e below T11 (mkF m 21 #[vR a1, vI p2] [(.int en), (.int p2)]) _
          refine XS.icmpNo X11.here hx rfl (bb d9_21) rfl (tlt g13).2.1 ?_
          refine XS.iconst X11.here hx rfl (bb d9_24) ?_
          refine XS.goto X11.here hx rfl (pc0 := 25) (pc' := 29) rfl (bb d9_25) (by decide) (by decide) ?_
          exact k)⟩
    · skip
      simp only [m_srf_0, if_neg g13]
      exact ⟨T11, _, X11, e11, N4, fun t k => pre12 t (by
          show GG p e below T11 (mkF m 21 #[vR a1, vI p2] [(.int en), (.int p2)]) _
          refine XS.icmpYes X11.here hx rfl (pc0 := 21) (pc' := 28) rfl (bb d9_21) rfl (flt g13).2.1 (by decide) (by decide) ?_
          refine XS.iconst X11.here hx rfl (bb d9_28) ?_
          exact k)⟩
  have F14 := ((r1.other W1 (Or.inr (slot_ne (Or.inl (ww 120 rfl)) (Or.inl (ww 94 rfl)) (by decide) (t := .boolean) (t' := .int) (by decide) (by decide)))).other W4 (Or.inr (slot_ne (Or.inl (ww 120 rfl)) (Or.inl (ww 98 rfl)) (by decide) (t := .boolean) (t' := .int) (by decide) (by decide))))
  have F15 := ((r2.other W1 (Or.inr (slot_ne (Or.inl (ww 130 rfl)) (Or.inl (ww 94 rfl)) (by decide) (t := (.array .int)) (t' := .int) (by decide) (by decide)))).other W4 (Or.inr (slot_ne (Or.inl (ww 130 rfl)) (Or.inl (ww 98 rfl)) (by decide) (t := (.array .int)) (t' := .int) (by decide) (by decide))))
  have F16 := ((r3.other W1 (Or.inr (slot_ne (Or.inl (ww 156 rfl)) (Or.inl (ww 94 rfl)) (by decide) (t := (.object "java/lang/Runnable")) (t' := .int) (by decide) (by decide)))).other W4 (Or.inr (slot_ne (Or.inl (ww 156 rfl)) (Or.inl (ww 98 rfl)) (by decide) (t := (.object "java/lang/Runnable")) (t' := .int) (by decide) (by decide))))
  have F17 := (Fw1.other W4 (Or.inr (slot_ne (Or.inl (ww 94 rfl)) (Or.inl (ww 98 rfl)) (by decide) (t := .int) (t' := .int) (by decide) (by decide))))
  have F18 := (F3.other W4 (Or.inr (slot_ne (Or.inl (ww 96 rfl)) (Or.inl (ww 98 rfl)) (by decide) (t := .int) (t' := .int) (by decide) (by decide))))
  have F19 := ((r7.other W1 (Or.inr (slot_ne (Or.inl (ww 238 rfl)) (Or.inl (ww 94 rfl)) (by decide) (t := .boolean) (t' := .int) (by decide) (by decide)))).other W4 (Or.inr (slot_ne (Or.inl (ww 238 rfl)) (Or.inl (ww 98 rfl)) (by decide) (t := .boolean) (t' := .int) (by decide) (by decide))))
  have F20 := ((r8.other W1 (Or.inr (slot_ne (Or.inl (ww 264 rfl)) (Or.inl (ww 94 rfl)) (by decide) (t := (.object "java/util/function/IntConsumer")) (t' := .int) (by decide) (by decide)))).other W4 (Or.inr (slot_ne (Or.inl (ww 264 rfl)) (Or.inl (ww 98 rfl)) (by decide) (t := (.object "java/util/function/IntConsumer")) (t' := .int) (by decide) (by decide))))
  have F21 := ((r9.other W1 (Or.inr (slot_ne (Or.inl (ww 31 rfl)) (Or.inl (ww 94 rfl)) (by decide) (t := (.object cTU)) (t' := .int) (by decide) (by decide)))).other W4 (Or.inr (slot_ne (Or.inl (ww 31 rfl)) (Or.inl (ww 98 rfl)) (by decide) (t := (.object cTU)) (t' := .int) (by decide) (by decide))))
  have F22 := ((r10.other W1 (Or.inr (slot_ne (Or.inr (ww 57 rfl)) (Or.inl (ww 94 rfl)) (by decide) (t := (.object "java/util/List")) (t' := .int) (by decide) (by decide)))).other W4 (Or.inr (slot_ne (Or.inr (ww 57 rfl)) (Or.inl (ww 98 rfl)) (by decide) (t := (.object "java/util/List")) (t' := .int) (by decide) (by decide))))
  have F23 := ((r11.other W1 (Or.inr (slot_ne (Or.inl (ww 86 rfl)) (Or.inl (ww 94 rfl)) (by decide) (t := (.object cRV)) (t' := .int) (by decide) (by decide)))).other W4 (Or.inr (slot_ne (Or.inl (ww 86 rfl)) (Or.inl (ww 98 rfl)) (by decide) (t := (.object cRV)) (t' := .int) (by decide) (by decide))))
  obtain ⟨fs, hr, hrun, hended, hW, hsame⟩ := X8.leave (v := some (.int (nar .boolean (m_srf_0 p2 en)))) (fun h => by rw [Bd.returns] at h; cases h)
  refine ⟨_, _, pre8 _ ?_, hrun, hended, _, _, rfl, ?_, ⟨_, rfl⟩, hW, hsame.mono (by decide) (by decide)⟩
  · show GG p e below T8 (mkF m 29 #[vR a1, vI p2] [(.int (m_srf_0 p2 en))]) _
    exact retN X8 hx (t := .boolean) Bd.returns (by simp) (bb d9_29) hr
  · show Q_srf Z wDE a1 p2 ot ox ovs en de ds zh so h0 n0 _ T8.heap _
    rw [e8]
    exact ⟨rfl, N8, (((Keep.refl h0 [a1]).wr W1 (Or.inl (List.mem_of_getElem? (i := 0) rfl))).wr W4 (Or.inl (List.mem_of_getElem? (i := 0) rfl))), F14, F15, F16, F17, Fw4, F18, F19, F20, F21, F22, F23⟩
def Q_sr (Z : State) (wDE a1 ot ox ovs : Addr) (en de ds zh : Int32) (so : Value) (h0 : Heap) (n0 : Nat) (v : Option Value) (h : Heap) (L : List Loc) : Prop := v = some (.int (nar .boolean (nar .boolean (f_lt de en)))) ∧ Fr n0 L ∧ Keep h0 h [a1] ∧ Fld Z h a1 cRE "onlyNew" "Z" (.int 0) ∧ Fld Z h a1 cRE "sought" "[I" so ∧ Fld Z h a1 cRE "growth" "Ljava/lang/Runnable;" .null ∧ Fld Z h a1 cRE "deltaStart" "I" (.int de) ∧ Fld Z h a1 cRE "deltaEnd" "I" (.int en) ∧ Fld Z h a1 cRE "rows" "I" (.int en) ∧ Fld Z h a1 cRE "holdsNull" "Z" (.int zh) ∧ Fld Z h a1 cRE "rowWithNull" "Ljava/util/function/IntConsumer;" .null ∧ Fld Z h a1 cRE "table" "Lcom/example/chaseward/chaseward/engine/Relation$Tuples;" (.ref ot) ∧ Fld Z h a1 cRE "indexes" "Ljava/util/List;" (.ref ox) ∧ Fld Z h a1 cRE "values" "Lcom/example/chaseward/chaseward/engine/RowValues;" (.ref ovs)
set_option maxRecDepth 65536 in
set_option maxHeartbeats 40000000 in
theorem rm_sr (l : Launch) (Z : State) (a0 : Array Value) (hw : ∀ d ∈ tables_1, d.before a0 Z = true) (ws : List Jvm.Cond) (wDE : Addr) (a1 ot ox ovs : Addr) (en de ds zh : Int32) (so : Value) (h0 : Heap) (n0 : Nat) (Z0 : n0 ≤ h0.size) (S_wDE : Sta Z Z.heap "java/util/ArrayList" "DEFAULTCAPACITY_EMPTY_ELEMENTDATA" "[Ljava/lang/Object;" (.ref wDE)) (O0 : Old Z n0 h0) (S_CS : Sta Z Z.heap cRV "CHUNK_SHIFT" "I" (.int (12 : Int32))) (r0 : Exa Z h0 a1 cRE) (r1 : Fld Z h0 a1 cRE "onlyNew" "Z" (.int 0)) (r2 : Fld Z h0 a1 cRE "sought" "[I" so) (r3 : Fld Z h0 a1 cRE "growth" "Ljava/lang/Runnable;" .null) (r4 : Fld Z h0 a1 cRE "deltaStart" "I" (.int ds)) (r5 : Fld Z h0 a1 cRE "deltaEnd" "I" (.int de)) (r6 : Fld Z h0 a1 cRE "rows" "I" (.int en)) (r7 : Fld Z h0 a1 cRE "holdsNull" "Z" (.int zh)) (r8 : Fld Z h0 a1 cRE "rowWithNull" "Ljava/util/function/IntConsumer;" .null) (r9 : Fld Z h0 a1 cRE "table" "Lcom/example/chaseward/chaseward/engine/Relation$Tuples;" (.ref ot)) (r10 : Fld Z h0 a1 cRE "indexes" "Ljava/util/List;" (.ref ox)) (r11 : Fld Z h0 a1 cRE "values" "Lcom/example/chaseward/chaseward/engine/RowValues;" (.ref ovs)) (g_a1 : n0 ≤ a1) :
    MetFree l (⟨cRE, "startRound", "()Z"⟩ : MethodName) (head1 (Jvm.Cond.code (⟨cRE, "startRound", "()Z"⟩ : MethodName) prog_43_method_22_code 1 (some .boolean) :: ws) ({ frames := 1, cells := 0, slots := 0, locals := 13 } : Room)) (fun a U => a = #[(.ref a1)] ∧ Z.Warmed39 U.vm ∧ U.heap = h0) (fun _ _ _ _ _ => True) (fun _ U o U' => ∃ v L, o = .returned v ∧ Q_sr Z wDE a1 ot ox ovs en de ds zh so h0 n0 v U'.heap L ∧ FrameEnd U o U' L ({ frames := 1, cells := 0, slots := 0, locals := 13 } : Room).cells ({ frames := 1, cells := 0, slots := 0, locals := 13 } : Room).slots) := by
  refine MetFree.of_bodySF (plainFor_of_name pn_Relation) hisR ?_
  intro p e s m args below meth c s₁ Bd hml0 hP hK
  obtain ⟨rfl, hZ, hh⟩ := hP
  have hx := Bd.exec
  have hby := Bd.bytes
  have bb := fun {pc : Nat} {r : Except DecodeError (Instr × Nat)} (h : decode prog_43_method_22_code pc = r) => hb hby h
  have ww := fun (i : Nat) {d : Jvm.Cond} (h : tables_1[i]? = some d) => hw d (List.mem_of_getElem? h)
  have hml : c.maxLocals = 1 := hml0
  have hown : s.vm.findClass cRE = some m.cls := findClass_of_methodNamed Bd.named
  have hnm := (name_of_methodNamed Bd.named Bd.method).1
  have X0 : Stand p l e ({ frames := 1, cells := 0, slots := 0, locals := 13 } : Room) s m #[(.ref a1)] below meth c s₁ [] 0 0 := Stand.of_body Bd
  have e0 : s₁.heap = h0 := by rw [← hh, Bd.state]; rfl
  have N0 := Fr.nil n0
  have pre0 : ∀ t, Steps p.tables e below (s₁.setTop (mkF m 0 #[vR a1] [])) t → Steps p.tables e below (s₁.setTop (entryFrame m #[(.ref a1)] 1)) t := fun t k => castTop (ef_sr m a1) k
  obtain ⟨T1, X1, e1, st1⟩ := getF X0 hx hZ hown (host := "") (Or.inl (ww 97 rfl)) Via.refl e0 r5 (g := (mkF m 2 #[vR a1] [(.ref a1), (.ref a1)])) rfl rfl (bb d35_2)
  obtain ⟨cq2, kq2, q2a, q2b, q2c⟩ := isOf hZ e1 r0
  obtain ⟨_, _, ⟨T2, L2, k2, n2⟩, -, X2, ⟨Lc2, hQ2, l2, y2, z2⟩, st2⟩ := X1.virtualBack hx (y := (⟨cRE, "startRoundFrom", "(I)Z"⟩ : MethodName)) (z := (⟨cRE, "startRoundFrom", "(I)Z"⟩ : MethodName)) hown (mvT hZ (ww 262 rfl)) (mvT hZ (ww 89 rfl)) (notFace_of_selects (args := #[]) (mvT hZ (ww 91 rfl))) (mvT hZ (ww 91 rfl)) (mvT hZ (ww 90 rfl)) (by decide) (backOf (W := 0) (rm_srf l Z a0 hw [] wDE a1 de ot ox ovs en de ds zh so h0 n0 (own_z0 O0) S_wDE O0 S_CS r0 r1 r2 r3 r4 r5 r6 r7 r8 r9 r10 r11 g_a1) hZ (ww 92 rfl) (ww 3 rfl) (by decide) (by decide)) q2a q2c (g := (mkF m 5 #[vR a1] [(.int de), (.ref a1)])) rfl (by rw [hml]; rfl) (Steps.refl _) (argsL := [(.int de)]) (rest := []) (lenOf pd__I_Z_4 rfl) rfl (by show 2 * 0 + _ ≤ _; exact Nat.le_of_eq rfl) (bb d35_5) (fun _ _ => ⟨rfl, e1, (by decide : 0 + 0 ≤ _), (by decide : 0 + 0 ≤ _)⟩)
  dsimp only [Pt.U, Pt.locs, Pt.cells, Pt.slots] at X2 l2 y2 z2 st2 hQ2
  subst l2 y2 z2
  obtain ⟨rfl, N2q, K2, f2_0, f2_1, f2_2, f2_3, f2_4, f2_5, f2_6, f2_7, f2_8, f2_9, f2_10⟩ := hQ2
  have N2 := Fr.app N0 N2q
  obtain ⟨fs, hr, hrun, hended, hW, hsame⟩ := X2.leave (v := some (.int (nar .boolean (nar .boolean (f_lt de en))))) (fun h => by rw [Bd.returns] at h; cases h)
  refine ⟨_, _, pre0 _ ?_, hrun, hended, _, _, rfl, ?_, ⟨_, rfl⟩, hW, hsame.mono (by decide) (by decide)⟩
  · show GG p e below s₁ (mkF m 0 #[vR a1] []) _
    refine XS.aloadN X0.here hx rfl (bb d35_0) rfl rfl ?_
    refine XS.aloadN X0.here hx rfl (bb d35_1) rfl rfl ?_
    refine st1 _ ?_
    refine st2.trans ?_
    exact retN X2 hx (t := .boolean) Bd.returns (by simp) (bb d35_8) hr
  · show Q_sr Z wDE a1 ot ox ovs en de ds zh so h0 n0 _ T2.heap _
    exact ⟨rfl, N2, ((Keep.refl h0 [a1]).trans K2 (allS (Or.inl (List.mem_of_getElem? (i := 0) rfl)) all0)), f2_0, f2_1, f2_2, f2_3, f2_4, f2_5, f2_6, f2_7, f2_8, f2_9, f2_10⟩
set_option maxRecDepth 65536 in
set_option maxHeartbeats 40000000 in
theorem rm_g_deltaStart (l : Launch) (Z : State) (a0 : Array Value) (hw : ∀ d ∈ tables_1, d.before a0 Z = true) (ws : List Jvm.Cond) (wDE : Addr) (a1 : Addr) (en : Int32) (h0 : Heap) (n0 : Nat) (Z0 : n0 ≤ h0.size) (S_wDE : Sta Z Z.heap "java/util/ArrayList" "DEFAULTCAPACITY_EMPTY_ELEMENTDATA" "[Ljava/lang/Object;" (.ref wDE)) (O0 : Old Z n0 h0) (S_CS : Sta Z Z.heap cRV "CHUNK_SHIFT" "I" (.int (12 : Int32))) (r0 : Fld Z h0 a1 cRE "deltaStart" "I" (.int en)) :
    MetFree l (⟨cRE, "deltaStart", "()I"⟩ : MethodName) (head1 (Jvm.Cond.code (⟨cRE, "deltaStart", "()I"⟩ : MethodName) prog_43_method_25_code 1 (some .int) :: ws) ({ frames := 0, cells := 0, slots := 0, locals := 0 } : Room)) (fun a U => a = #[(.ref a1)] ∧ Z.Warmed39 U.vm ∧ U.heap = h0) (fun _ _ _ _ _ => True) (fun _ U o U' => ∃ v L, o = .returned v ∧ PureQ (some (.int en)) h0 n0 v U'.heap L ∧ FrameEnd U o U' L ({ frames := 0, cells := 0, slots := 0, locals := 0 } : Room).cells ({ frames := 0, cells := 0, slots := 0, locals := 0 } : Room).slots) := by
  refine MetFree.of_bodySF (plainFor_of_name pn_Relation) hisR ?_
  intro p e s m args below meth c s₁ Bd hml0 hP hK
  obtain ⟨rfl, hZ, hh⟩ := hP
  have hx := Bd.exec
  have hby := Bd.bytes
  have bb := fun {pc : Nat} {r : Except DecodeError (Instr × Nat)} (h : decode prog_43_method_25_code pc = r) => hb hby h
  have ww := fun (i : Nat) {d : Jvm.Cond} (h : tables_1[i]? = some d) => hw d (List.mem_of_getElem? h)
  have hml : c.maxLocals = 1 := hml0
  have hown : s.vm.findClass cRE = some m.cls := findClass_of_methodNamed Bd.named
  have hnm := (name_of_methodNamed Bd.named Bd.method).1
  have X0 : Stand p l e ({ frames := 0, cells := 0, slots := 0, locals := 0 } : Room) s m #[(.ref a1)] below meth c s₁ [] 0 0 := Stand.of_body Bd
  have e0 : s₁.heap = h0 := by rw [← hh, Bd.state]; rfl
  have N0 := Fr.nil n0
  have pre0 : ∀ t, Steps p.tables e below (s₁.setTop (mkF m 0 #[vR a1] [])) t → Steps p.tables e below (s₁.setTop (entryFrame m #[(.ref a1)] 1)) t := fun t k => castTop (ef_g_deltaStart m a1) k
  obtain ⟨T1, X1, e1, st1⟩ := getF X0 hx hZ hown (host := "") (Or.inl (ww 93 rfl)) Via.refl e0 r0 (g := (mkF m 1 #[vR a1] [(.ref a1)])) rfl rfl (bb d10_1)
  obtain ⟨fs, hr, hrun, hended, hW, hsame⟩ := X1.leave (v := some (.int en)) (fun h => by rw [Bd.returns] at h; cases h)
  refine ⟨_, _, pre0 _ ?_, hrun, hended, _, _, rfl, ?_, ⟨_, rfl⟩, hW, hsame.mono (by decide) (by decide)⟩
  · show GG p e below s₁ (mkF m 0 #[vR a1] []) _
    refine XS.aloadN X0.here hx rfl (bb d10_0) rfl rfl ?_
    refine st1 _ ?_
    exact retI X1 hx Bd.returns (bb d10_4) hr
  · exact ⟨rfl, N0, e1⟩
set_option maxRecDepth 65536 in
set_option maxHeartbeats 40000000 in
theorem rm_g_deltaEnd (l : Launch) (Z : State) (a0 : Array Value) (hw : ∀ d ∈ tables_1, d.before a0 Z = true) (ws : List Jvm.Cond) (wDE : Addr) (a1 : Addr) (en : Int32) (h0 : Heap) (n0 : Nat) (Z0 : n0 ≤ h0.size) (S_wDE : Sta Z Z.heap "java/util/ArrayList" "DEFAULTCAPACITY_EMPTY_ELEMENTDATA" "[Ljava/lang/Object;" (.ref wDE)) (O0 : Old Z n0 h0) (S_CS : Sta Z Z.heap cRV "CHUNK_SHIFT" "I" (.int (12 : Int32))) (r0 : Fld Z h0 a1 cRE "deltaEnd" "I" (.int en)) :
    MetFree l (⟨cRE, "deltaEnd", "()I"⟩ : MethodName) (head1 (Jvm.Cond.code (⟨cRE, "deltaEnd", "()I"⟩ : MethodName) prog_43_method_26_code 1 (some .int) :: ws) ({ frames := 0, cells := 0, slots := 0, locals := 0 } : Room)) (fun a U => a = #[(.ref a1)] ∧ Z.Warmed39 U.vm ∧ U.heap = h0) (fun _ _ _ _ _ => True) (fun _ U o U' => ∃ v L, o = .returned v ∧ PureQ (some (.int en)) h0 n0 v U'.heap L ∧ FrameEnd U o U' L ({ frames := 0, cells := 0, slots := 0, locals := 0 } : Room).cells ({ frames := 0, cells := 0, slots := 0, locals := 0 } : Room).slots) := by
  refine MetFree.of_bodySF (plainFor_of_name pn_Relation) hisR ?_
  intro p e s m args below meth c s₁ Bd hml0 hP hK
  obtain ⟨rfl, hZ, hh⟩ := hP
  have hx := Bd.exec
  have hby := Bd.bytes
  have bb := fun {pc : Nat} {r : Except DecodeError (Instr × Nat)} (h : decode prog_43_method_26_code pc = r) => hb hby h
  have ww := fun (i : Nat) {d : Jvm.Cond} (h : tables_1[i]? = some d) => hw d (List.mem_of_getElem? h)
  have hml : c.maxLocals = 1 := hml0
  have hown : s.vm.findClass cRE = some m.cls := findClass_of_methodNamed Bd.named
  have hnm := (name_of_methodNamed Bd.named Bd.method).1
  have X0 : Stand p l e ({ frames := 0, cells := 0, slots := 0, locals := 0 } : Room) s m #[(.ref a1)] below meth c s₁ [] 0 0 := Stand.of_body Bd
  have e0 : s₁.heap = h0 := by rw [← hh, Bd.state]; rfl
  have N0 := Fr.nil n0
  have pre0 : ∀ t, Steps p.tables e below (s₁.setTop (mkF m 0 #[vR a1] [])) t → Steps p.tables e below (s₁.setTop (entryFrame m #[(.ref a1)] 1)) t := fun t k => castTop (ef_g_deltaEnd m a1) k
  obtain ⟨T1, X1, e1, st1⟩ := getF X0 hx hZ hown (host := "") (Or.inl (ww 97 rfl)) Via.refl e0 r0 (g := (mkF m 1 #[vR a1] [(.ref a1)])) rfl rfl (bb d11_1)
  obtain ⟨fs, hr, hrun, hended, hW, hsame⟩ := X1.leave (v := some (.int en)) (fun h => by rw [Bd.returns] at h; cases h)
  refine ⟨_, _, pre0 _ ?_, hrun, hended, _, _, rfl, ?_, ⟨_, rfl⟩, hW, hsame.mono (by decide) (by decide)⟩
  · show GG p e below s₁ (mkF m 0 #[vR a1] []) _
    refine XS.aloadN X0.here hx rfl (bb d11_0) rfl rfl ?_
    refine st1 _ ?_
    exact retI X1 hx Bd.returns (bb d11_4) hr
  · exact ⟨rfl, N0, e1⟩
set_option maxRecDepth 65536 in
set_option maxHeartbeats 40000000 in
theorem rm_g_rows (l : Launch) (Z : State) (a0 : Array Value) (hw : ∀ d ∈ tables_1, d.before a0 Z = true) (ws : List Jvm.Cond) (wDE : Addr) (a1 : Addr) (en : Int32) (h0 : Heap) (n0 : Nat) (Z0 : n0 ≤ h0.size) (S_wDE : Sta Z Z.heap "java/util/ArrayList" "DEFAULTCAPACITY_EMPTY_ELEMENTDATA" "[Ljava/lang/Object;" (.ref wDE)) (O0 : Old Z n0 h0) (S_CS : Sta Z Z.heap cRV "CHUNK_SHIFT" "I" (.int (12 : Int32))) (r0 : Fld Z h0 a1 cRE "rows" "I" (.int en)) :
    MetFree l (⟨cRE, "rows", "()I"⟩ : MethodName) (head1 (Jvm.Cond.code (⟨cRE, "rows", "()I"⟩ : MethodName) prog_43_method_3_code 1 (some .int) :: ws) ({ frames := 0, cells := 0, slots := 0, locals := 0 } : Room)) (fun a U => a = #[(.ref a1)] ∧ Z.Warmed39 U.vm ∧ U.heap = h0) (fun _ _ _ _ _ => True) (fun _ U o U' => ∃ v L, o = .returned v ∧ PureQ (some (.int en)) h0 n0 v U'.heap L ∧ FrameEnd U o U' L ({ frames := 0, cells := 0, slots := 0, locals := 0 } : Room).cells ({ frames := 0, cells := 0, slots := 0, locals := 0 } : Room).slots) := by
  refine MetFree.of_bodySF (plainFor_of_name pn_Relation) hisR ?_
  intro p e s m args below meth c s₁ Bd hml0 hP hK
  obtain ⟨rfl, hZ, hh⟩ := hP
  have hx := Bd.exec
  have hby := Bd.bytes
  have bb := fun {pc : Nat} {r : Except DecodeError (Instr × Nat)} (h : decode prog_43_method_3_code pc = r) => hb hby h
  have ww := fun (i : Nat) {d : Jvm.Cond} (h : tables_1[i]? = some d) => hw d (List.mem_of_getElem? h)
  have hml : c.maxLocals = 1 := hml0
  have hown : s.vm.findClass cRE = some m.cls := findClass_of_methodNamed Bd.named
  have hnm := (name_of_methodNamed Bd.named Bd.method).1
  have X0 : Stand p l e ({ frames := 0, cells := 0, slots := 0, locals := 0 } : Room) s m #[(.ref a1)] below meth c s₁ [] 0 0 := Stand.of_body Bd
  have e0 : s₁.heap = h0 := by rw [← hh, Bd.state]; rfl
  have N0 := Fr.nil n0
  have pre0 : ∀ t, Steps p.tables e below (s₁.setTop (mkF m 0 #[vR a1] [])) t → Steps p.tables e below (s₁.setTop (entryFrame m #[(.ref a1)] 1)) t := fun t k => castTop (ef_g_rows m a1) k
  obtain ⟨T1, X1, e1, st1⟩ := getF X0 hx hZ hown (host := "") (Or.inl (ww 95 rfl)) Via.refl e0 r0 (g := (mkF m 1 #[vR a1] [(.ref a1)])) rfl rfl (bb d12_1)
  obtain ⟨fs, hr, hrun, hended, hW, hsame⟩ := X1.leave (v := some (.int en)) (fun h => by rw [Bd.returns] at h; cases h)
  refine ⟨_, _, pre0 _ ?_, hrun, hended, _, _, rfl, ?_, ⟨_, rfl⟩, hW, hsame.mono (by decide) (by decide)⟩
  · show GG p e below s₁ (mkF m 0 #[vR a1] []) _
    refine XS.aloadN X0.here hx rfl (bb d12_0) rfl rfl ?_
    refine st1 _ ?_
    exact retI X1 hx Bd.returns (bb d12_4) hr
  · exact ⟨rfl, N0, e1⟩
def Q_rva (n0 : Nat) (wsR : List Addr) (J : Heap → Prop) (h1 : Heap) (v : Option Value) (h : Heap) (L : List Loc) : Prop := v = none ∧ Fr n0 L ∧ Keep h1 h wsR ∧ J h
def f_hn (zh t : Int32) : Int32 := if zh = (0 : Int32) then (nar .boolean (zh ||| (f_isNull t))) else zh
def Q_append (Z : State) (wDE a1 at_ ot ox ovs : Addr) (kt_ : ClassId) (et0 en de ds zh : Int32) (so : Value) (wsR : List Addr) (J : Heap → Prop) (h0 : Heap) (n0 : Nat) (v : Option Value) (h : Heap) (L : List Loc) : Prop := v = some (.int en) ∧ Fr n0 L ∧ Keep h0 h (a1 :: wsR) ∧ Fld Z h a1 cRE "onlyNew" "Z" (.int 0) ∧ Fld Z h a1 cRE "sought" "[I" so ∧ Fld Z h a1 cRE "growth" "Ljava/lang/Runnable;" .null ∧ Fld Z h a1 cRE "deltaStart" "I" (.int ds) ∧ Fld Z h a1 cRE "deltaEnd" "I" (.int de) ∧ Fld Z h a1 cRE "rows" "I" (.int (en + (1 : Int32))) ∧ Fld Z h a1 cRE "holdsNull" "Z" (.int (f_hn zh et0)) ∧ Fld Z h a1 cRE "rowWithNull" "Ljava/util/function/IntConsumer;" .null ∧ Fld Z h a1 cRE "table" "Lcom/example/chaseward/chaseward/engine/Relation$Tuples;" (.ref ot) ∧ Fld Z h a1 cRE "indexes" "Ljava/util/List;" (.ref ox) ∧ Fld Z h a1 cRE "values" "Lcom/example/chaseward/chaseward/engine/RowValues;" (.ref ovs) ∧ J h
set_option maxRecDepth 65536 in
set_option maxHeartbeats 40000000 in
theorem rm_append (l : Launch) (Z : State) (a0 : Array Value) (hw : ∀ d ∈ tables_1, d.before a0 Z = true) (ws : List Jvm.Cond) (wDE : Addr) (a1 at_ ot ox ovs : Addr) (kt_ : ClassId) (et0 en de ds zh : Int32) (so : Value) (wsR : List Addr) (J : Heap → Prop) (h0 : Heap) (n0 : Nat) (Z0 : n0 ≤ h0.size) (S_wDE : Sta Z Z.heap "java/util/ArrayList" "DEFAULTCAPACITY_EMPTY_ELEMENTDATA" "[Ljava/lang/Object;" (.ref wDE)) (O0 : Old Z n0 h0) (S_CS : Sta Z Z.heap cRV "CHUNK_SHIFT" "I" (.int (12 : Int32))) (r0 : Exa Z h0 a1 cRE) (r1 : Fld Z h0 a1 cRE "onlyNew" "Z" (.int 0)) (r2 : Fld Z h0 a1 cRE "sought" "[I" so) (r3 : Fld Z h0 a1 cRE "growth" "Ljava/lang/Runnable;" .null) (r4 : Fld Z h0 a1 cRE "deltaStart" "I" (.int ds)) (r5 : Fld Z h0 a1 cRE "deltaEnd" "I" (.int de)) (r6 : Fld Z h0 a1 cRE "rows" "I" (.int en)) (r7 : Fld Z h0 a1 cRE "holdsNull" "Z" (.int zh)) (r8 : Fld Z h0 a1 cRE "rowWithNull" "Ljava/util/function/IntConsumer;" .null) (r9 : Fld Z h0 a1 cRE "table" "Lcom/example/chaseward/chaseward/engine/Relation$Tuples;" (.ref ot)) (r10 : Fld Z h0 a1 cRE "indexes" "Ljava/util/List;" (.ref ox)) (r11 : Fld Z h0 a1 cRE "values" "Lcom/example/chaseward/chaseward/engine/RowValues;" (.ref ovs)) (r12 : Exa Z h0 ox "java/util/ArrayList") (r13 : Fld Z h0 ox "java/util/AbstractList" "modCount" "I" (.int 0)) (r14 : Fld Z h0 ox "java/util/ArrayList" "size" "I" (.int 0)) (r15 : Arv Z h0 at_ kt_ .int (1 : Int32) [(.int et0)] (.int 0)) (r16 : Exa Z h0 ovs cRV) (g_a1 : n0 ≤ a1) (ne_a1_ox : a1 ≠ ox) (ne_a1_at_ : a1 ≠ at_) (nn_a1 : a1 ∉ wsR) (nn_ox : ox ∉ wsR) (nn_at_ : at_ ∉ wsR) (hgR : ∀ x ∈ wsR, n0 ≤ x) (hJs : ∀ h h', Keep h h' [a1] → J h → J h') (hAdd : MetFree l (⟨cRV, "add", "([I)V"⟩ : MethodName) (head1 (Jvm.Cond.code (⟨cRV, "add", "([I)V"⟩ : MethodName) prog_48_method_4_code 7 none :: []) ({ frames := 3, cells := 1, slots := 8, locals := 58 } : Room)) (fun a U => a = #[(.ref ovs), (.ref at_)] ∧ Z.Warmed39 U.vm ∧ U.heap = h0) (fun _ _ _ _ _ => True) (fun _ U o U' => ∃ v L, o = .returned v ∧ Q_rva n0 wsR J h0 v U'.heap L ∧ FrameEnd U o U' L ({ frames := 3, cells := 1, slots := 8, locals := 58 } : Room).cells ({ frames := 3, cells := 1, slots := 8, locals := 58 } : Room).slots)) :
    MetFree l (⟨cRE, "append", "([I)I"⟩ : MethodName) (head1 (Jvm.Cond.code (⟨cRE, "append", "([I)I"⟩ : MethodName) prog_43_method_27_code 5 (some .int) :: ws) ({ frames := 4, cells := 2, slots := 12, locals := 76 } : Room)) (fun a U => a = #[(.ref a1), (.ref at_)] ∧ Z.Warmed39 U.vm ∧ U.heap = h0) (fun _ _ _ _ _ => True) (fun _ U o U' => ∃ v L, o = .returned v ∧ Q_append Z wDE a1 at_ ot ox ovs kt_ et0 en de ds zh so wsR J h0 n0 v U'.heap L ∧ FrameEnd U o U' L ({ frames := 4, cells := 2, slots := 12, locals := 76 } : Room).cells ({ frames := 4, cells := 2, slots := 12, locals := 76 } : Room).slots) := by
  refine MetFree.of_bodySF (plainFor_of_name pn_Relation) hisR ?_
  intro p e s m args below meth c s₁ Bd hml0 hP hK
  obtain ⟨rfl, hZ, hh⟩ := hP
  have hx := Bd.exec
  have hby := Bd.bytes
  have bb := fun {pc : Nat} {r : Except DecodeError (Instr × Nat)} (h : decode prog_43_method_27_code pc = r) => hb hby h
  have ww := fun (i : Nat) {d : Jvm.Cond} (h : tables_1[i]? = some d) => hw d (List.mem_of_getElem? h)
  have hml : c.maxLocals = 5 := hml0
  have hown : s.vm.findClass cRE = some m.cls := findClass_of_methodNamed Bd.named
  have hnm := (name_of_methodNamed Bd.named Bd.method).1
  have X0 : Stand p l e ({ frames := 4, cells := 2, slots := 12, locals := 76 } : Room) s m #[(.ref a1), (.ref at_)] below meth c s₁ [] 0 0 := Stand.of_body Bd
  have e0 : s₁.heap = h0 := by rw [← hh, Bd.state]; rfl
  have N0 := Fr.nil n0
  have pre0 : ∀ t, Steps p.tables e below (s₁.setTop (mkF m 0 #[vR a1, vR at_, .unset, .unset, .unset] [])) t → Steps p.tables e below (s₁.setTop (entryFrame m #[(.ref a1), (.ref at_)] 5)) t := fun t k => castTop (ef_append m a1 at_) k
  obtain ⟨T1, X1, e1, st1⟩ := getF X0 hx hZ hown (host := "") (Or.inl (ww 95 rfl)) Via.refl e0 r6 (g := (mkF m 1 #[vR a1, vR at_, .unset, .unset, .unset] [(.ref a1)])) rfl rfl (bb d20_1)
  have pre2 : ∀ t, GG p e below T1 (mkF m 5 #[vR a1, vR at_, vI en, .unset, .unset] []) t → GG p e below s₁ (entryFrame m #[(.ref a1), (.ref at_)] 5) t := fun t k => pre0 t (by
      show GG p e below s₁ (mkF m 0 #[vR a1, vR at_, .unset, .unset, .unset] []) _
      refine XS.aloadN X0.here hx rfl (bb d20_0) rfl rfl ?_
      refine st1 _ ?_
      refine XS.istoreN X1.here hx rfl (bb d20_4) rfl (l' := #[vR a1, vR at_, vI en, .unset, .unset]) rfl ?_
      exact k)
  obtain ⟨T3, L3, X3, e3, N3, pre3⟩ : ∃ (T' : State) (L' : List Loc), Stand p l e ({ frames := 4, cells := 2, slots := 12, locals := 76 } : Room) s m #[(.ref a1), (.ref at_)] below meth c T' L' 0 0 ∧ T'.heap = h0 ∧ Fr n0 L' ∧ ∀ t, Steps p.tables e below (T'.setTop (mkF m 29 #[vR a1, vR at_, vI en, .unset, .unset] [])) t → Steps p.tables e below (s₁.setTop (entryFrame m #[(.ref a1), (.ref at_)] 5)) t := by
    obtain ⟨T4, X4, e4, st4⟩ := getF X1 hx hZ hown (host := "") (Or.inl (ww 97 rfl)) Via.refl e1 r5 (g := (mkF m 7 #[vR a1, vR at_, vI en, .unset, .unset] [(.ref a1), (.int en)])) rfl rfl (bb d20_7)
    have pre5 : ∀ t, GG p e below T4 (mkF m 10 #[vR a1, vR at_, vI en, .unset, .unset] [(.int de), (.int en)]) t → GG p e below s₁ (entryFrame m #[(.ref a1), (.ref at_)] 5) t := fun t k => pre2 t (by
        show GG p e below T1 (mkF m 5 #[vR a1, vR at_, vI en, .unset, .unset] []) _
        refine XS.iloadN X1.here hx rfl (bb d20_5) rfl ?_
        refine XS.aloadN X1.here hx rfl (bb d20_6) rfl rfl ?_
        refine st4 _ ?_
        exact k)
    by_cases g6 : en = de
    · skip
      obtain ⟨T7, X7, e7, st7⟩ := getF X4 hx hZ hown (host := "") (Or.inl (ww 155 rfl)) Via.refl e4 r3 (g := (mkF m 14 #[vR a1, vR at_, vI en, .unset, .unset] [(.ref a1)])) rfl rfl (bb d20_14)
      exact ⟨T7, _, X7, e7, N0, fun t k => pre5 t (by
          show GG p e below T4 (mkF m 10 #[vR a1, vR at_, vI en, .unset, .unset] [(.int de), (.int en)]) _
          refine XS.icmpNo X4.here hx rfl (bb d20_10) rfl (teq g6).2 ?_
          refine XS.aloadN X4.here hx rfl (bb d20_13) rfl rfl ?_
          refine st7 _ ?_
          refine XS.ifnullYes X7.here hx rfl (pc0 := 17) (pc' := 29) rfl (bb d20_17) rfl (by decide) (by decide) ?_
          exact k)⟩
    · skip
      exact ⟨T4, _, X4, e4, N0, fun t k => pre5 t (by
          show GG p e below T4 (mkF m 10 #[vR a1, vR at_, vI en, .unset, .unset] [(.int de), (.int en)]) _
          refine XS.icmpYes X4.here hx rfl (pc0 := 10) (pc' := 29) rfl (bb d20_10) rfl (feq g6).2 (by decide) (by decide) ?_
          exact k)⟩
  obtain ⟨T8, X8, e8, st8⟩ := getF X3 hx hZ hown (host := "") (Or.inl (ww 85 rfl)) Via.refl e3 r11 (g := (mkF m 30 #[vR a1, vR at_, vI en, .unset, .unset] [(.ref a1)])) rfl rfl (bb d20_30)
  obtain ⟨cq9, kq9, q9a, q9b, q9c⟩ := isOf hZ e8 r16
  obtain ⟨_, _, ⟨T9, L9, k9, n9⟩, -, X9, ⟨Lc9, hQ9, l9, y9, z9⟩, st9⟩ := X8.virtualBack hx (y := (⟨cRV, "add", "([I)V"⟩ : MethodName)) (z := (⟨cRV, "add", "([I)V"⟩ : MethodName)) hown (mvT hZ (ww 157 rfl)) (mvT hZ (ww 158 rfl)) (notFace_of_selects (args := #[]) (mvT hZ (ww 160 rfl))) (mvT hZ (ww 160 rfl)) (mvT hZ (ww 159 rfl)) (by decide) (backOf (W := 0) hAdd hZ (ww 161 rfl) (ww 62 rfl) (by decide) (by decide)) q9a q9c (g := (mkF m 34 #[vR a1, vR at_, vI en, .unset, .unset] [(.ref at_), (.ref ovs)])) rfl (by rw [hml]; rfl) (Steps.refl _) (argsL := [(.ref at_)]) (rest := []) (lenOf pd___I_V_5 rfl) rfl (by show 2 * 0 + _ ≤ _; exact Nat.le_of_eq rfl) (bb d20_34) (fun _ _ => ⟨rfl, e8, (by decide : 0 + 1 ≤ _), (by decide : 0 + 8 ≤ _)⟩)
  dsimp only [Pt.U, Pt.locs, Pt.cells, Pt.slots] at X9 l9 y9 z9 st9 hQ9
  subst l9 y9 z9
  obtain ⟨rfl, N9q, K9, hJ9⟩ := hQ9
  have N9 := Fr.app N3 N9q
  have F11 := (r6.keep K9 nn_a1)
  obtain ⟨T10, X10, e10, st10⟩ := getF X9 hx hZ hown (host := "") (Or.inl (ww 95 rfl)) Via.refl rfl F11 (g := (mkF m 39 #[vR a1, vR at_, vI en, .unset, .unset] [(.ref a1), (.ref a1)])) rfl rfl (bb d20_39)
  have F13 := (r0.keep K9)
  obtain ⟨T12, h12, X12, e12, W12, st12⟩ := putF X10 hx hZ hown (host := "") (Or.inl (ww 95 rfl)) Via.refl e10 F11 F13 (Or.inl (ww 96 rfl)) (ww 2 rfl) (ty := .int) (by decide) rfl rfl (g := (mkF m 44 #[vR a1, vR at_, vI en, .unset, .unset] [(.int (en + (1 : Int32))), (.ref a1)])) rfl rfl (bb d20_44)
  have Fw12 := F11.same W12
  have N12 := Fr.snoc X12 N9 g_a1
  have F15 := ((r10.keep K9 nn_a1).other W12 (Or.inr (slot_ne (Or.inr (ww 57 rfl)) (Or.inl (ww 96 rfl)) (by decide) (t := (.object "java/util/List")) (t' := .int) (by decide) (by decide))))
  obtain ⟨T14, X14, e14, st14⟩ := getF X12 hx hZ hown (host := "") (Or.inl (ww 56 rfl)) Via.refl e12 F15 (g := (mkF m 48 #[vR a1, vR at_, vI en, .unset, .unset] [(.ref a1)])) rfl rfl (bb d20_48)
  have F17 := ((r13.keep K9 nn_ox).other W12 (Or.inl (Ne.symm ne_a1_ox)))
  have O18 := ((O0.keep K9 hgR).wr W12 g_a1)
  have F19 := ((r12.keep K9).wr W12)
  obtain ⟨cq16, kq16, q16a, q16b, q16c⟩ := isOf hZ e14 F19
  obtain ⟨_, _, ⟨T16, L16, k16, n16⟩, -, X16, ⟨Lc16, hQ16, l16, y16, z16⟩, st16⟩ := X14.interfaceBack hx (xi := (⟨"java/util/List", "iterator", "()Ljava/util/Iterator;"⟩ : MethodName)) (y := (⟨"java/util/ArrayList", "iterator", "()Ljava/util/Iterator;"⟩ : MethodName)) hown (mvT hZ (ww 199 rfl)) (mvT hZ (ww 200 rfl)) (mvT hZ (ww 201 rfl)) (mvT hZ (ww 202 rfl)) (mvT hZ (ww 203 rfl)) (mvT hZ (ww 204 rfl)) (mvT hZ (ww 205 rfl)) (mvT hZ (ww 206 rfl)) (by decide) (backOf (W := 0) (rm_iterator l Z a0 hw [] wDE ox h12 n0 (own_z0 O18) S_wDE O18 S_CS F17) hZ (ww 207 rfl) (ww 34 rfl) (by decide) (by decide)) q16a q16b q16c (g := (mkF m 51 #[vR a1, vR at_, vI en, .unset, .unset] [(.ref ox)])) rfl (by rw [hml]; rfl) (Steps.refl _) (argsL := []) (rest := []) (lenOf pd___Ljava_util_Iterator__22 rfl) rfl (by show 2 * 0 + _ ≤ _; exact Nat.le_of_eq rfl) (bb d20_51) (fun _ _ => ⟨rfl, e14, (by decide : 1 + 1 ≤ _), (by decide : 8 + 4 ≤ _)⟩)
  dsimp only [Pt.U, Pt.locs, Pt.cells, Pt.slots] at X16 l16 y16 z16 st16 hQ16
  subst l16 y16 z16
  obtain ⟨oi16, rfl, N16q, K16, szz_oi16, f16_0, f16_1, f16_2⟩ := hQ16
  have N16 := Fr.app N12 N16q
  have g_oi16 : n0 ≤ oi16 := Nat.le_trans (own_z0 O18) szz_oi16
  have sz_oi16 : h0.size ≤ oi16 := Nat.le_trans (Nat.le_trans (Nat.le_trans (Nat.le_refl _) K9.1) (Keep.of_wr W12).1) szz_oi16
  have F20 := (F13.wr W12)
  have ne_a1_oi16 : a1 ≠ oi16 := Nat.ne_of_lt (Nat.lt_of_lt_of_le F20.lt szz_oi16)
  have ne_ox_oi16 : ox ≠ oi16 := Nat.ne_of_lt (Nat.lt_of_lt_of_le F19.lt szz_oi16)
  have F21 := ((r15.keep K9 nn_at_).other W12 (Ne.symm ne_a1_at_))
  have ne_at__oi16 : at_ ≠ oi16 := Nat.ne_of_lt (Nat.lt_of_lt_of_le F21.lt szz_oi16)
  have F22 := ((r16.keep K9).wr W12)
  have ne_ovs_oi16 : ovs ≠ oi16 := Nat.ne_of_lt (Nat.lt_of_lt_of_le F22.lt szz_oi16)
  have F24 := (((r14.keep K9 nn_ox).other W12 (Or.inl (Ne.symm ne_a1_ox))).keep K16 nin0)
  have O25 := (O18.keep K16 all0)
  obtain ⟨cq23, kq23, q23a, q23b, q23c⟩ := isOf hZ rfl f16_0
  obtain ⟨_, _, ⟨T23, L23, k23, n23⟩, -, X23, ⟨Lc23, hQ23, l23, y23, z23⟩, st23⟩ := X16.interfaceBack hx (xi := (⟨"java/util/Iterator", "hasNext", "()Z"⟩ : MethodName)) (y := (⟨"java/util/ArrayList$Itr", "hasNext", "()Z"⟩ : MethodName)) hown (mvT hZ (ww 224 rfl)) (mvT hZ (ww 225 rfl)) (mvT hZ (ww 226 rfl)) (mvT hZ (ww 227 rfl)) (mvT hZ (ww 228 rfl)) (mvT hZ (ww 229 rfl)) (mvT hZ (ww 230 rfl)) (mvT hZ (ww 231 rfl)) (by decide) (backOf (W := 0) (rm_hasNext l Z a0 hw [] wDE oi16 ox T16.heap n0 (own_z0 O25) S_wDE O25 S_CS f16_1 f16_2 F24) hZ (ww 232 rfl) (ww 210 rfl) (by decide) (by decide)) q23a q23b q23c (g := (mkF m 58 #[vR a1, vR at_, vI en, vR oi16, .unset] [(.ref oi16)])) rfl (by rw [hml]; rfl) (Steps.refl _) (argsL := []) (rest := []) (lenOf pd___Z_3 rfl) rfl (by show 2 * 0 + _ ≤ _; exact Nat.le_of_eq rfl) (bb d20_58) (fun _ _ => ⟨rfl, rfl, (by decide : 2 + 0 ≤ _), (by decide : 12 + 0 ≤ _)⟩)
  dsimp only [Pt.U, Pt.locs, Pt.cells, Pt.slots] at X23 l23 y23 z23 st23 hQ23
  subst l23 y23 z23
  obtain ⟨rfl, N23q, e23⟩ := hQ23
  have N23 := Fr.app N16 N23q
  have pre26 : ∀ t, GG p e below T23 (mkF m 86 #[vR a1, vR at_, vI en, vR oi16, .unset] []) t → GG p e below s₁ (entryFrame m #[(.ref a1), (.ref at_)] 5) t := fun t k => pre3 t (by
      show GG p e below T3 (mkF m 29 #[vR a1, vR at_, vI en, .unset, .unset] []) _
      refine XS.aloadN X3.here hx rfl (bb d20_29) rfl rfl ?_
      refine st8 _ ?_
      refine XS.aloadN X8.here hx rfl (bb d20_33) rfl rfl ?_
      refine st9.trans ?_
      refine XS.aloadN X9.here hx rfl (bb d20_37) rfl rfl ?_
      refine XS.dup X9.here hx rfl (bb d20_38) rfl rfl ?_
      refine st10 _ ?_
      refine XS.iconst X10.here hx rfl (bb d20_42) ?_
      refine XS.iadd X10.here hx rfl (bb d20_43) rfl ?_
      refine st12 _ ?_
      refine XS.aloadN X12.here hx rfl (bb d20_47) rfl rfl ?_
      refine st14 _ ?_
      refine st16.trans ?_
      refine XS.astoreN X16.here hx rfl (bb d20_56) rfl rfl (l' := #[vR a1, vR at_, vI en, vR oi16, .unset]) rfl ?_
      refine XS.aloadN X16.here hx rfl (bb d20_57) rfl rfl ?_
      refine st23.trans ?_
      refine XS.ifYes X23.here hx rfl (pc0 := 63) (pc' := 86) rfl (bb d20_63) rfl ((if0 _ _).trans (teq (by decide : (0 : Int32) = (0 : Int32))).1) (by decide) (by decide) ?_
      exact k)
  obtain ⟨T27, L27, h27, s3_27, s4_27, X27, e27, N27, K27, f27_0, f27_1, f27_2, f27_3, f27_4, f27_5, f27_6, f27_7, f27_8, f27_9, f27_10, o_s3_27, o_s4_27, pre27⟩ : ∃ (T' : State) (L' : List Loc) (h' : Heap) (s3_27 : Slot) (s4_27 : Slot), Stand p l e ({ frames := 4, cells := 2, slots := 12, locals := 76 } : Room) s m #[(.ref a1), (.ref at_)] below meth c T' L' 2 12 ∧ T'.heap = h' ∧ Fr n0 L' ∧ Keep T16.heap h' [a1] ∧ Fld Z h' a1 cRE "onlyNew" "Z" (.int 0) ∧ Fld Z h' a1 cRE "sought" "[I" so ∧ Fld Z h' a1 cRE "growth" "Ljava/lang/Runnable;" .null ∧ Fld Z h' a1 cRE "deltaStart" "I" (.int ds) ∧ Fld Z h' a1 cRE "deltaEnd" "I" (.int de) ∧ Fld Z h' a1 cRE "rows" "I" (.int (en + (1 : Int32))) ∧ Fld Z h' a1 cRE "holdsNull" "Z" (.int (f_hn zh et0)) ∧ Fld Z h' a1 cRE "rowWithNull" "Ljava/util/function/IntConsumer;" .null ∧ Fld Z h' a1 cRE "table" "Lcom/example/chaseward/chaseward/engine/Relation$Tuples;" (.ref ot) ∧ Fld Z h' a1 cRE "indexes" "Ljava/util/List;" (.ref ox) ∧ Fld Z h' a1 cRE "values" "Lcom/example/chaseward/chaseward/engine/RowValues;" (.ref ovs) ∧ One s3_27 ∧ One s4_27 ∧ ∀ t, GG p e below T' (mkF m 161 #[vR a1, vR at_, vI en, s3_27, s4_27] []) t → GG p e below s₁ (entryFrame m #[(.ref a1), (.ref at_)] 5) t := by
    by_cases g27 : zh = (0 : Int32)
    · skip
      obtain ⟨T28, L28, X28, e28, N28, pre28⟩ : ∃ (T' : State) (L' : List Loc), Stand p l e ({ frames := 4, cells := 2, slots := 12, locals := 76 } : Room) s m #[(.ref a1), (.ref at_)] below meth c T' L' 2 12 ∧ T'.heap = T16.heap ∧ Fr n0 L' ∧ ∀ t, Steps p.tables e below (T'.setTop (mkF m 130 #[vR a1, vR at_, vI en, vI (f_isNull et0), vI ((0 : Int32) + (1 : Int32))] [])) t → Steps p.tables e below (s₁.setTop (entryFrame m #[(.ref a1), (.ref at_)] 5)) t := by
        have F30 := (((r7.keep K9 nn_a1).other W12 (Or.inr (slot_ne (Or.inl (ww 238 rfl)) (Or.inl (ww 96 rfl)) (by decide) (t := .boolean) (t' := .int) (by decide) (by decide)))).keep K16 nin0)
        obtain ⟨T29, X29, e29, st29⟩ := getF X23 hx hZ hown (host := "") (Or.inl (ww 237 rfl)) Via.refl e23 F30 (g := (mkF m 87 #[vR a1, vR at_, vI en, vR oi16, .unset] [(.ref a1)])) rfl rfl (bb d20_87)
        have F31 := (F21.keep K16 nin0)
        obtain ⟨cl32, Ar32, vq32, vS32, vN32, vH32, vG32⟩ := id F31
        obtain ⟨cl33, Ar33, vq33, vS33, vN33, vH33, vG33⟩ := id F31
        have hin33 : ¬ (((0 : Int32) : Int32) < 0 ∨ cl33.slots.size ≤ ((0 : Int32) : Int32).toNatClampNeg) := inb_of vS33 ⟨by decide, by decide⟩
        obtain ⟨_, _, ⟨T34, L34, k34, n34⟩, -, X34, ⟨Lc34, hQ34, l34, y34, z34⟩, st34⟩ := Jvm.LawKit.callS X29 hx (y := (⟨"com/example/chaseward/chaseward/engine/Dictionary", "isNull", "(I)Z"⟩ : MethodName)) hown (mvT hZ (ww 239 rfl)) (mvT hZ (ww 240 rfl)) (mvT hZ (ww 241 rfl)) (mvT hZ (ww 242 rfl)) (by decide) (backOf (W := 0) (rm_isNull l Z a0 hw [] wDE et0 T16.heap n0 (own_z0 O25) S_wDE O25 S_CS) hZ (ww 242 rfl) (ww 241 rfl) (by decide) (by decide)) (g := (mkF m 120 #[vR a1, vR at_, vI en, vI 0, vI 0] [(.int et0)])) rfl (by rw [hml]; rfl) (argsL := [(.int et0)]) (rest := []) (lenOf pd__I_Z_4 rfl) rfl (by show 2 * 0 + _ ≤ _; exact Nat.le_of_eq rfl) (bb d20_120) (fun _ _ => ⟨rfl, e29, (by decide : 2 + 0 ≤ _), (by decide : 12 + 0 ≤ _)⟩)
        dsimp only [Pt.U, Pt.locs, Pt.cells, Pt.slots] at X34 l34 y34 z34 st34 hQ34
        subst l34 y34 z34
        obtain ⟨rfl, N34q, e34⟩ := hQ34
        have N34 := Fr.app N23 N34q
        have pre35 : ∀ t, GG p e below T34 (mkF m 106 #[vR a1, vR at_, vI en, vI (f_isNull et0), vI ((0 : Int32) + (1 : Int32))] [(.int (f_isNull et0))]) t → GG p e below s₁ (entryFrame m #[(.ref a1), (.ref at_)] 5) t := fun t k => pre26 t (by
            show GG p e below T23 (mkF m 86 #[vR a1, vR at_, vI en, vR oi16, .unset] []) _
            refine XS.aloadN X23.here hx rfl (bb d20_86) rfl rfl ?_
            refine st29 _ ?_
            refine XS.ifYes X29.here hx rfl (pc0 := 90) (pc' := 100) rfl (bb d20_90) rfl ((if0 _ _).trans (teq g27).1) (by decide) (by decide) ?_
            refine XS.iconst X29.here hx rfl (bb d20_100) ?_
            refine XS.istoreN X29.here hx rfl (bb d20_101) rfl (l' := #[vR a1, vR at_, vI en, vI 0, .unset]) rfl ?_
            refine XS.iconst X29.here hx rfl (bb d20_102) ?_
            refine XS.istore X29.here hx rfl (bb d20_103) rfl (l' := #[vR a1, vR at_, vI en, vI 0, vI 0]) rfl ?_
            refine XS.iloadN X29.here hx rfl (bb d20_105) rfl ?_
            refine XS.ifNo X29.here hx rfl (bb d20_106) rfl ((if0 _ _).trans (teq (by decide : (0 : Int32) = (0 : Int32))).2) ?_
            refine XS.iload X29.here hx rfl (bb d20_109) rfl ?_
            refine XS.aloadN X29.here hx rfl (bb d20_111) rfl rfl ?_
            refine X29.arraylength hx (by rw [e29]; exact Ar32.1) (State.isArrayOf_alike hZ.alike Ar32.2.1) (g := (mkF m 112 #[vR a1, vR at_, vI en, vI 0, vI 0] [(.ref at_), (.int 0)])) rfl rfl (bb d20_112) _ ?_
            rw [len_of vS32 vN32]
            show GG p e below T29 (mkF m 113 #[vR a1, vR at_, vI en, vI 0, vI 0] [(.int 1), (.int 0)]) _
            refine XS.icmpNo X29.here hx rfl (bb d20_113) rfl (tlt (by decide : (0 : Int32) < (1 : Int32))).2.1 ?_
            refine XS.aloadN X29.here hx rfl (bb d20_116) rfl rfl ?_
            refine XS.iload X29.here hx rfl (bb d20_117) rfl ?_
            refine X29.iaload hx (j := (0 : Int32)) (v := (.int et0)) (by rw [e29]; exact Ar33.1) (State.isArrayOf_alike hZ.alike Ar33.2.1) Ar33.2.2 hin33 (vH33.at hin33 rfl) (g := (mkF m 119 #[vR a1, vR at_, vI en, vI 0, vI 0] [(.int 0), (.ref at_)])) rfl rfl (bb d20_119) _ ?_
            refine st34 _ ?_
            refine XS.istoreN X34.here hx rfl (bb d20_123) rfl (l' := #[vR a1, vR at_, vI en, vI (f_isNull et0), vI 0]) rfl ?_
            refine XS.iinc X34.here hx rfl (bb d20_124) rfl (l' := #[vR a1, vR at_, vI en, vI (f_isNull et0), vI ((0 : Int32) + (1 : Int32))]) rfl ?_
            refine XS.goto X34.here hx rfl (pc0 := 127) (pc' := 105) rfl (bb d20_127) (by decide) (by decide) ?_
            refine XS.iloadN X34.here hx rfl (bb d20_105) rfl ?_
            exact k)
        by_cases g36 : (f_isNull et0) = (0 : Int32)
        · skip
          obtain ⟨cl37, Ar37, vq37, vS37, vN37, vH37, vG37⟩ := id F31
          exact ⟨T34, _, X34, e34, N34, fun t k => pre35 t (by
              show GG p e below T34 (mkF m 106 #[vR a1, vR at_, vI en, vI (f_isNull et0), vI ((0 : Int32) + (1 : Int32))] [(.int (f_isNull et0))]) _
              refine XS.ifNo X34.here hx rfl (bb d20_106) rfl ((if0 _ _).trans (teq g36).2) ?_
              refine XS.iload X34.here hx rfl (bb d20_109) rfl ?_
              refine XS.aloadN X34.here hx rfl (bb d20_111) rfl rfl ?_
              refine X34.arraylength hx (by rw [e34]; exact Ar37.1) (State.isArrayOf_alike hZ.alike Ar37.2.1) (g := (mkF m 112 #[vR a1, vR at_, vI en, vI (f_isNull et0), vI ((0 : Int32) + (1 : Int32))] [(.ref at_), (.int ((0 : Int32) + (1 : Int32)))])) rfl rfl (bb d20_112) _ ?_
              rw [len_of vS37 vN37]
              show GG p e below T34 (mkF m 113 #[vR a1, vR at_, vI en, vI (f_isNull et0), vI ((0 : Int32) + (1 : Int32))] [(.int 1), (.int ((0 : Int32) + (1 : Int32)))]) _
              refine XS.icmpYes X34.here hx rfl (pc0 := 113) (pc' := 130) rfl (bb d20_113) rfl (flt (by decide : ¬ (((0 : Int32) + (1 : Int32)) < (1 : Int32)))).2.1 (by decide) (by decide) ?_
              exact k)⟩
        · skip
          exact ⟨T34, _, X34, e34, N34, fun t k => pre35 t (by
              show GG p e below T34 (mkF m 106 #[vR a1, vR at_, vI en, vI (f_isNull et0), vI ((0 : Int32) + (1 : Int32))] [(.int (f_isNull et0))]) _
              refine XS.ifYes X34.here hx rfl (pc0 := 106) (pc' := 130) rfl (bb d20_106) rfl ((if0 _ _).trans (feq g36).2) (by decide) (by decide) ?_
              exact k)⟩
      have F39 := (((r7.keep K9 nn_a1).other W12 (Or.inr (slot_ne (Or.inl (ww 238 rfl)) (Or.inl (ww 96 rfl)) (by decide) (t := .boolean) (t' := .int) (by decide) (by decide)))).keep K16 nin0)
      obtain ⟨T38, X38, e38, st38⟩ := getF X28 hx hZ hown (host := "") (Or.inl (ww 237 rfl)) Via.refl e28 F39 (g := (mkF m 132 #[vR a1, vR at_, vI en, vI (f_isNull et0), vI ((0 : Int32) + (1 : Int32))] [(.ref a1), (.ref a1)])) rfl rfl (bb d20_132)
      have F41 := (F20.keep K16)
      obtain ⟨T40, h40, X40, e40, W40, st40⟩ := putFN X38 hx hZ hown (ww 237 rfl) Via.refl e38 F39 F41 (Or.inl (ww 238 rfl)) (ww 2 rfl) (ty := .boolean) (v' := (.int (nar .boolean (zh ||| (f_isNull et0))))) (by decide) rfl (fits_nar_bool _) (g := (mkF m 137 #[vR a1, vR at_, vI en, vI (f_isNull et0), vI ((0 : Int32) + (1 : Int32))] [(.int (zh ||| (f_isNull et0))), (.ref a1)])) rfl rfl (bb d20_137)
      have Fw40 := F39.same W40
      have N40 := Fr.snoc X40 N28 g_a1
      have pre42 : ∀ t, GG p e below T40 (mkF m 141 #[vR a1, vR at_, vI en, vI (f_isNull et0), vI ((0 : Int32) + (1 : Int32))] [(.int (f_isNull et0))]) t → GG p e below s₁ (entryFrame m #[(.ref a1), (.ref at_)] 5) t := fun t k => pre28 t (by
          show GG p e below T28 (mkF m 130 #[vR a1, vR at_, vI en, vI (f_isNull et0), vI ((0 : Int32) + (1 : Int32))] []) _
          refine XS.aloadN X28.here hx rfl (bb d20_130) rfl rfl ?_
          refine XS.dup X28.here hx rfl (bb d20_131) rfl rfl ?_
          refine st38 _ ?_
          refine XS.iloadN X38.here hx rfl (bb d20_135) rfl ?_
          refine XS.ior X38.here hx rfl (bb d20_136) rfl ?_
          refine st40 _ ?_
          refine XS.iloadN X40.here hx rfl (bb d20_140) rfl ?_
          exact k)
      by_cases g43 : (f_isNull et0) = (0 : Int32)
      · skip
        have F44 := ((((r1.keep K9 nn_a1).other W12 (Or.inr (slot_ne (Or.inl (ww 120 rfl)) (Or.inl (ww 96 rfl)) (by decide) (t := .boolean) (t' := .int) (by decide) (by decide)))).keep K16 nin0).other W40 (Or.inr (slot_ne (Or.inl (ww 120 rfl)) (Or.inl (ww 238 rfl)) (by decide) (t := .boolean) (t' := .boolean) (by decide) (by decide))))
        have F45 := ((((r2.keep K9 nn_a1).other W12 (Or.inr (slot_ne (Or.inl (ww 130 rfl)) (Or.inl (ww 96 rfl)) (by decide) (t := (.array .int)) (t' := .int) (by decide) (by decide)))).keep K16 nin0).other W40 (Or.inr (slot_ne (Or.inl (ww 130 rfl)) (Or.inl (ww 238 rfl)) (by decide) (t := (.array .int)) (t' := .boolean) (by decide) (by decide))))
        have F46 := ((((r3.keep K9 nn_a1).other W12 (Or.inr (slot_ne (Or.inl (ww 156 rfl)) (Or.inl (ww 96 rfl)) (by decide) (t := (.object "java/lang/Runnable")) (t' := .int) (by decide) (by decide)))).keep K16 nin0).other W40 (Or.inr (slot_ne (Or.inl (ww 156 rfl)) (Or.inl (ww 238 rfl)) (by decide) (t := (.object "java/lang/Runnable")) (t' := .boolean) (by decide) (by decide))))
        have F47 := ((((r4.keep K9 nn_a1).other W12 (Or.inr (slot_ne (Or.inl (ww 94 rfl)) (Or.inl (ww 96 rfl)) (by decide) (t := .int) (t' := .int) (by decide) (by decide)))).keep K16 nin0).other W40 (Or.inr (slot_ne (Or.inl (ww 94 rfl)) (Or.inl (ww 238 rfl)) (by decide) (t := .int) (t' := .boolean) (by decide) (by decide))))
        have F48 := ((((r5.keep K9 nn_a1).other W12 (Or.inr (slot_ne (Or.inl (ww 98 rfl)) (Or.inl (ww 96 rfl)) (by decide) (t := .int) (t' := .int) (by decide) (by decide)))).keep K16 nin0).other W40 (Or.inr (slot_ne (Or.inl (ww 98 rfl)) (Or.inl (ww 238 rfl)) (by decide) (t := .int) (t' := .boolean) (by decide) (by decide))))
        have F49 := ((Fw12.keep K16 nin0).other W40 (Or.inr (slot_ne (Or.inl (ww 96 rfl)) (Or.inl (ww 238 rfl)) (by decide) (t := .int) (t' := .boolean) (by decide) (by decide))))
        have F50 := ((((r8.keep K9 nn_a1).other W12 (Or.inr (slot_ne (Or.inl (ww 264 rfl)) (Or.inl (ww 96 rfl)) (by decide) (t := (.object "java/util/function/IntConsumer")) (t' := .int) (by decide) (by decide)))).keep K16 nin0).other W40 (Or.inr (slot_ne (Or.inl (ww 264 rfl)) (Or.inl (ww 238 rfl)) (by decide) (t := (.object "java/util/function/IntConsumer")) (t' := .boolean) (by decide) (by decide))))
        have F51 := ((((r9.keep K9 nn_a1).other W12 (Or.inr (slot_ne (Or.inl (ww 31 rfl)) (Or.inl (ww 96 rfl)) (by decide) (t := (.object cTU)) (t' := .int) (by decide) (by decide)))).keep K16 nin0).other W40 (Or.inr (slot_ne (Or.inl (ww 31 rfl)) (Or.inl (ww 238 rfl)) (by decide) (t := (.object cTU)) (t' := .boolean) (by decide) (by decide))))
        have F52 := ((F15.keep K16 nin0).other W40 (Or.inr (slot_ne (Or.inr (ww 57 rfl)) (Or.inl (ww 238 rfl)) (by decide) (t := (.object "java/util/List")) (t' := .boolean) (by decide) (by decide))))
        have F53 := ((((r11.keep K9 nn_a1).other W12 (Or.inr (slot_ne (Or.inl (ww 86 rfl)) (Or.inl (ww 96 rfl)) (by decide) (t := (.object cRV)) (t' := .int) (by decide) (by decide)))).keep K16 nin0).other W40 (Or.inr (slot_ne (Or.inl (ww 86 rfl)) (Or.inl (ww 238 rfl)) (by decide) (t := (.object cRV)) (t' := .boolean) (by decide) (by decide))))
        refine ⟨T40, _, h40, (vI (f_isNull et0)), (vI ((0 : Int32) + (1 : Int32))), X40, e40, N40, ((Keep.refl T16.heap [a1]).wr W40 (Or.inl (List.mem_of_getElem? (i := 0) rfl))), F44, F45, F46, F47, F48, F49, (by simp only [f_hn, if_pos g27]; exact Fw40), F50, F51, F52, F53, (One.val rfl), (One.val rfl), fun t k => pre42 t ?_⟩
        show GG p e below T40 (mkF m 141 #[vR a1, vR at_, vI en, vI (f_isNull et0), vI ((0 : Int32) + (1 : Int32))] [(.int (f_isNull et0))]) _
        refine XS.ifYes X40.here hx rfl (pc0 := 141) (pc' := 161) rfl (bb d20_141) rfl ((if0 _ _).trans (teq g43).1) (by decide) (by decide) ?_
        exact k
      · skip
        have F55 := ((((r8.keep K9 nn_a1).other W12 (Or.inr (slot_ne (Or.inl (ww 264 rfl)) (Or.inl (ww 96 rfl)) (by decide) (t := (.object "java/util/function/IntConsumer")) (t' := .int) (by decide) (by decide)))).keep K16 nin0).other W40 (Or.inr (slot_ne (Or.inl (ww 264 rfl)) (Or.inl (ww 238 rfl)) (by decide) (t := (.object "java/util/function/IntConsumer")) (t' := .boolean) (by decide) (by decide))))
        obtain ⟨T54, X54, e54, st54⟩ := getF X40 hx hZ hown (host := "") (Or.inl (ww 263 rfl)) Via.refl e40 F55 (g := (mkF m 145 #[vR a1, vR at_, vI en, vI (f_isNull et0), vI ((0 : Int32) + (1 : Int32))] [(.ref a1)])) rfl rfl (bb d20_145)
        have F56 := ((((r1.keep K9 nn_a1).other W12 (Or.inr (slot_ne (Or.inl (ww 120 rfl)) (Or.inl (ww 96 rfl)) (by decide) (t := .boolean) (t' := .int) (by decide) (by decide)))).keep K16 nin0).other W40 (Or.inr (slot_ne (Or.inl (ww 120 rfl)) (Or.inl (ww 238 rfl)) (by decide) (t := .boolean) (t' := .boolean) (by decide) (by decide))))
        have F57 := ((((r2.keep K9 nn_a1).other W12 (Or.inr (slot_ne (Or.inl (ww 130 rfl)) (Or.inl (ww 96 rfl)) (by decide) (t := (.array .int)) (t' := .int) (by decide) (by decide)))).keep K16 nin0).other W40 (Or.inr (slot_ne (Or.inl (ww 130 rfl)) (Or.inl (ww 238 rfl)) (by decide) (t := (.array .int)) (t' := .boolean) (by decide) (by decide))))
        have F58 := ((((r3.keep K9 nn_a1).other W12 (Or.inr (slot_ne (Or.inl (ww 156 rfl)) (Or.inl (ww 96 rfl)) (by decide) (t := (.object "java/lang/Runnable")) (t' := .int) (by decide) (by decide)))).keep K16 nin0).other W40 (Or.inr (slot_ne (Or.inl (ww 156 rfl)) (Or.inl (ww 238 rfl)) (by decide) (t := (.object "java/lang/Runnable")) (t' := .boolean) (by decide) (by decide))))
        have F59 := ((((r4.keep K9 nn_a1).other W12 (Or.inr (slot_ne (Or.inl (ww 94 rfl)) (Or.inl (ww 96 rfl)) (by decide) (t := .int) (t' := .int) (by decide) (by decide)))).keep K16 nin0).other W40 (Or.inr (slot_ne (Or.inl (ww 94 rfl)) (Or.inl (ww 238 rfl)) (by decide) (t := .int) (t' := .boolean) (by decide) (by decide))))
        have F60 := ((((r5.keep K9 nn_a1).other W12 (Or.inr (slot_ne (Or.inl (ww 98 rfl)) (Or.inl (ww 96 rfl)) (by decide) (t := .int) (t' := .int) (by decide) (by decide)))).keep K16 nin0).other W40 (Or.inr (slot_ne (Or.inl (ww 98 rfl)) (Or.inl (ww 238 rfl)) (by decide) (t := .int) (t' := .boolean) (by decide) (by decide))))
        have F61 := ((Fw12.keep K16 nin0).other W40 (Or.inr (slot_ne (Or.inl (ww 96 rfl)) (Or.inl (ww 238 rfl)) (by decide) (t := .int) (t' := .boolean) (by decide) (by decide))))
        have F62 := ((((r9.keep K9 nn_a1).other W12 (Or.inr (slot_ne (Or.inl (ww 31 rfl)) (Or.inl (ww 96 rfl)) (by decide) (t := (.object cTU)) (t' := .int) (by decide) (by decide)))).keep K16 nin0).other W40 (Or.inr (slot_ne (Or.inl (ww 31 rfl)) (Or.inl (ww 238 rfl)) (by decide) (t := (.object cTU)) (t' := .boolean) (by decide) (by decide))))
        have F63 := ((F15.keep K16 nin0).other W40 (Or.inr (slot_ne (Or.inr (ww 57 rfl)) (Or.inl (ww 238 rfl)) (by decide) (t := (.object "java/util/List")) (t' := .boolean) (by decide) (by decide))))
        have F64 := ((((r11.keep K9 nn_a1).other W12 (Or.inr (slot_ne (Or.inl (ww 86 rfl)) (Or.inl (ww 96 rfl)) (by decide) (t := (.object cRV)) (t' := .int) (by decide) (by decide)))).keep K16 nin0).other W40 (Or.inr (slot_ne (Or.inl (ww 86 rfl)) (Or.inl (ww 238 rfl)) (by decide) (t := (.object cRV)) (t' := .boolean) (by decide) (by decide))))
        refine ⟨T54, _, h40, (vI (f_isNull et0)), (vI ((0 : Int32) + (1 : Int32))), X54, e54, N40, ((Keep.refl T16.heap [a1]).wr W40 (Or.inl (List.mem_of_getElem? (i := 0) rfl))), F56, F57, F58, F59, F60, F61, (by simp only [f_hn, if_pos g27]; exact Fw40), F55, F62, F63, F64, (One.val rfl), (One.val rfl), fun t k => pre42 t ?_⟩
        show GG p e below T40 (mkF m 141 #[vR a1, vR at_, vI en, vI (f_isNull et0), vI ((0 : Int32) + (1 : Int32))] [(.int (f_isNull et0))]) _
        refine XS.ifNo X40.here hx rfl (bb d20_141) rfl ((if0 _ _).trans (feq g43).1) ?_
        refine XS.aloadN X40.here hx rfl (bb d20_144) rfl rfl ?_
        refine st54 _ ?_
        refine XS.ifnullYes X54.here hx rfl (pc0 := 148) (pc' := 161) rfl (bb d20_148) rfl (by decide) (by decide) ?_
        exact k
    · skip
      have F66 := (((r7.keep K9 nn_a1).other W12 (Or.inr (slot_ne (Or.inl (ww 238 rfl)) (Or.inl (ww 96 rfl)) (by decide) (t := .boolean) (t' := .int) (by decide) (by decide)))).keep K16 nin0)
      obtain ⟨T65, X65, e65, st65⟩ := getF X23 hx hZ hown (host := "") (Or.inl (ww 237 rfl)) Via.refl e23 F66 (g := (mkF m 87 #[vR a1, vR at_, vI en, vR oi16, .unset] [(.ref a1)])) rfl rfl (bb d20_87)
      have F68 := (((r8.keep K9 nn_a1).other W12 (Or.inr (slot_ne (Or.inl (ww 264 rfl)) (Or.inl (ww 96 rfl)) (by decide) (t := (.object "java/util/function/IntConsumer")) (t' := .int) (by decide) (by decide)))).keep K16 nin0)
      obtain ⟨T67, X67, e67, st67⟩ := getF X65 hx hZ hown (host := "") (Or.inl (ww 263 rfl)) Via.refl e65 F68 (g := (mkF m 94 #[vR a1, vR at_, vI en, vR oi16, .unset] [(.ref a1)])) rfl rfl (bb d20_94)
      have F69 := (((r1.keep K9 nn_a1).other W12 (Or.inr (slot_ne (Or.inl (ww 120 rfl)) (Or.inl (ww 96 rfl)) (by decide) (t := .boolean) (t' := .int) (by decide) (by decide)))).keep K16 nin0)
      have F70 := (((r2.keep K9 nn_a1).other W12 (Or.inr (slot_ne (Or.inl (ww 130 rfl)) (Or.inl (ww 96 rfl)) (by decide) (t := (.array .int)) (t' := .int) (by decide) (by decide)))).keep K16 nin0)
      have F71 := (((r3.keep K9 nn_a1).other W12 (Or.inr (slot_ne (Or.inl (ww 156 rfl)) (Or.inl (ww 96 rfl)) (by decide) (t := (.object "java/lang/Runnable")) (t' := .int) (by decide) (by decide)))).keep K16 nin0)
      have F72 := (((r4.keep K9 nn_a1).other W12 (Or.inr (slot_ne (Or.inl (ww 94 rfl)) (Or.inl (ww 96 rfl)) (by decide) (t := .int) (t' := .int) (by decide) (by decide)))).keep K16 nin0)
      have F73 := (((r5.keep K9 nn_a1).other W12 (Or.inr (slot_ne (Or.inl (ww 98 rfl)) (Or.inl (ww 96 rfl)) (by decide) (t := .int) (t' := .int) (by decide) (by decide)))).keep K16 nin0)
      have F74 := (Fw12.keep K16 nin0)
      have F75 := (((r9.keep K9 nn_a1).other W12 (Or.inr (slot_ne (Or.inl (ww 31 rfl)) (Or.inl (ww 96 rfl)) (by decide) (t := (.object cTU)) (t' := .int) (by decide) (by decide)))).keep K16 nin0)
      have F76 := (F15.keep K16 nin0)
      have F77 := (((r11.keep K9 nn_a1).other W12 (Or.inr (slot_ne (Or.inl (ww 86 rfl)) (Or.inl (ww 96 rfl)) (by decide) (t := (.object cRV)) (t' := .int) (by decide) (by decide)))).keep K16 nin0)
      refine ⟨T67, _, T16.heap, (vR oi16), (.unset), X67, e67, N23, (Keep.refl T16.heap [a1]), F69, F70, F71, F72, F73, F74, (by simp only [f_hn, if_neg g27]; exact F66), F68, F75, F76, F77, (One.val rfl), One.u, fun t k => pre26 t ?_⟩
      show GG p e below T23 (mkF m 86 #[vR a1, vR at_, vI en, vR oi16, .unset] []) _
      refine XS.aloadN X23.here hx rfl (bb d20_86) rfl rfl ?_
      refine st65 _ ?_
      refine XS.ifNo X65.here hx rfl (bb d20_90) rfl ((if0 _ _).trans (feq g27).1) ?_
      refine XS.aloadN X65.here hx rfl (bb d20_93) rfl rfl ?_
      refine st67 _ ?_
      refine XS.ifnullYes X67.here hx rfl (pc0 := 97) (pc' := 161) rfl (bb d20_97) rfl (by decide) (by decide) ?_
      exact k
  obtain ⟨fs, hr, hrun, hended, hW, hsame⟩ := X27.leave (v := some (.int en)) (fun h => by rw [Bd.returns] at h; cases h)
  refine ⟨_, _, pre27 _ ?_, hrun, hended, _, _, rfl, ?_, ⟨_, rfl⟩, hW, hsame.mono (by decide) (by decide)⟩
  · show GG p e below T27 (mkF m 161 #[vR a1, vR at_, vI en, s3_27, s4_27] []) _
    refine XS.iloadN X27.here hx rfl (bb d20_161) rfl ?_
    exact retI X27 hx Bd.returns (bb d20_162) hr
  · show Q_append Z wDE a1 at_ ot ox ovs kt_ et0 en de ds zh so wsR J h0 n0 _ T27.heap _
    rw [e27]
    exact ⟨rfl, N27, (((((Keep.refl h0 (a1 :: wsR)).trans K9 (fun x hx => Or.inl (List.mem_cons_of_mem _ hx))).wr W12 (Or.inl (List.mem_of_getElem? (i := 0) rfl))).trans K16 all0).trans K27 (allS (Or.inl (List.mem_of_getElem? (i := 0) rfl)) all0)), f27_0, f27_1, f27_2, f27_3, f27_4, f27_5, f27_6, f27_7, f27_8, f27_9, f27_10, (hJs _ _ ((((Keep.refl T9.heap [a1]).wr W12 (Or.inl (List.mem_of_getElem? (i := 0) rfl))).trans K16 all0).trans K27 (allS (Or.inl (List.mem_of_getElem? (i := 0) rfl)) all0)) hJ9)⟩
def Q_reladd (Z : State) (wDE a1 at_ ot ox ovs : Addr) (kt_ : ClassId) (et0 en de ds zh : Int32) (so : Value) (wsR : List Addr) (J : Heap → Prop) (os : Addr) (ks_ : ClassId) (hs : List (Int32 × Value)) (ec : Int32) (h0 : Heap) (n0 : Nat) (v : Option Value) (h : Heap) (L : List Loc) : Prop := v = some (.int (1 : Int32)) ∧ Fr n0 L ∧ Keep h0 h (a1 :: ot :: os :: wsR) ∧ Fld Z h a1 cRE "onlyNew" "Z" (.int 0) ∧ Fld Z h a1 cRE "sought" "[I" (.ref at_) ∧ Fld Z h a1 cRE "growth" "Ljava/lang/Runnable;" .null ∧ Fld Z h a1 cRE "deltaStart" "I" (.int ds) ∧ Fld Z h a1 cRE "deltaEnd" "I" (.int de) ∧ Fld Z h a1 cRE "rows" "I" (.int (en + (1 : Int32))) ∧ Fld Z h a1 cRE "holdsNull" "Z" (.int (f_hn zh et0)) ∧ Fld Z h a1 cRE "rowWithNull" "Ljava/util/function/IntConsumer;" .null ∧ Fld Z h a1 cRE "table" "Lcom/example/chaseward/chaseward/engine/Relation$Tuples;" (.ref ot) ∧ Fld Z h a1 cRE "indexes" "Ljava/util/List;" (.ref ox) ∧ Fld Z h a1 cRE "values" "Lcom/example/chaseward/chaseward/engine/RowValues;" (.ref ovs) ∧ Fld Z h ot cRT "tagMask" "I" (.int (-32)) ∧ Fld Z h ot cRT "slots" "[I" (.ref os) ∧ Fld Z h ot cRT "count" "I" (.int (ec + (1 : Int32))) ∧ Arh Z h os ks_ .int (16 : Int32) (((f_slot (f_hash et0)), (.int ((f_tagOf (f_hash et0)) ||| (en + (1 : Int32))))) :: hs) [] (.int 0) ∧ J h
set_option maxRecDepth 65536 in
set_option maxHeartbeats 40000000 in
theorem rm_reladd (l : Launch) (Z : State) (a0 : Array Value) (hw : ∀ d ∈ tables_1, d.before a0 Z = true) (ws : List Jvm.Cond) (wDE : Addr) (a1 at_ ot ox ovs : Addr) (kt_ : ClassId) (et0 en de ds zh : Int32) (so : Value) (wsR : List Addr) (J : Heap → Prop) (os : Addr) (ks_ : ClassId) (hs : List (Int32 × Value)) (ec : Int32) (h0 : Heap) (n0 : Nat) (Z0 : n0 ≤ h0.size) (S_wDE : Sta Z Z.heap "java/util/ArrayList" "DEFAULTCAPACITY_EMPTY_ELEMENTDATA" "[Ljava/lang/Object;" (.ref wDE)) (O0 : Old Z n0 h0) (S_CS : Sta Z Z.heap cRV "CHUNK_SHIFT" "I" (.int (12 : Int32))) (r0 : Exa Z h0 a1 cRE) (r1 : Fld Z h0 a1 cRE "onlyNew" "Z" (.int 0)) (r2 : Fld Z h0 a1 cRE "sought" "[I" so) (r3 : Fld Z h0 a1 cRE "growth" "Ljava/lang/Runnable;" .null) (r4 : Fld Z h0 a1 cRE "deltaStart" "I" (.int ds)) (r5 : Fld Z h0 a1 cRE "deltaEnd" "I" (.int de)) (r6 : Fld Z h0 a1 cRE "rows" "I" (.int en)) (r7 : Fld Z h0 a1 cRE "holdsNull" "Z" (.int zh)) (r8 : Fld Z h0 a1 cRE "rowWithNull" "Ljava/util/function/IntConsumer;" .null) (r9 : Fld Z h0 a1 cRE "table" "Lcom/example/chaseward/chaseward/engine/Relation$Tuples;" (.ref ot)) (r10 : Fld Z h0 a1 cRE "indexes" "Ljava/util/List;" (.ref ox)) (r11 : Fld Z h0 a1 cRE "values" "Lcom/example/chaseward/chaseward/engine/RowValues;" (.ref ovs)) (r12 : Exa Z h0 ox "java/util/ArrayList") (r13 : Fld Z h0 ox "java/util/AbstractList" "modCount" "I" (.int 0)) (r14 : Fld Z h0 ox "java/util/ArrayList" "size" "I" (.int 0)) (r15 : Arv Z h0 at_ kt_ .int (1 : Int32) [(.int et0)] (.int 0)) (r16 : Exa Z h0 ovs cRV) (r17 : Exa Z h0 ot cTU) (r18 : Fld Z h0 ot cRT "tagMask" "I" (.int (-32))) (r19 : Fld Z h0 ot cRT "slots" "[I" (.ref os)) (r20 : Arh Z h0 os ks_ .int (16 : Int32) hs [] (.int 0)) (r21 : Fld Z h0 ot cRT "count" "I" (.int ec)) (g_a1 : n0 ≤ a1) (g_ot : n0 ≤ ot) (g_os : n0 ≤ os) (ne_a1_ot : a1 ≠ ot) (ne_a1_os : a1 ≠ os) (ne_a1_ox : a1 ≠ ox) (ne_a1_at_ : a1 ≠ at_) (ne_ot_os : ot ≠ os) (nn_a1 : a1 ∉ wsR) (nn_ot : ot ∉ wsR) (nn_os : os ∉ wsR) (nn_ox : ox ∉ wsR) (nn_at_ : at_ ∉ wsR) (hgR : ∀ x ∈ wsR, n0 ≤ x) (hJs : ∀ h h', Keep h h' [a1, ot, os] → J h → J h') (hz : getH hs [] (.int 0) (f_slot (f_hash et0)).toNatClampNeg = .int 0) (hfit : ((en + (1 : Int32)) &&& (-32 : Int32)) = (0 : Int32)) (hcnt : ¬ ((0 : Int32) < (lcmpW ((5 : Int64) * ((ec + (1 : Int32)).toInt64)) ((4 : Int64) * ((16 : Int32).toInt64))))) (hAdd : ∀ h1, Keep h0 h1 [a1] → MetFree l (⟨cRV, "add", "([I)V"⟩ : MethodName) (head1 (Jvm.Cond.code (⟨cRV, "add", "([I)V"⟩ : MethodName) prog_48_method_4_code 7 none :: []) ({ frames := 3, cells := 1, slots := 8, locals := 58 } : Room)) (fun a U => a = #[(.ref ovs), (.ref at_)] ∧ Z.Warmed39 U.vm ∧ U.heap = h1) (fun _ _ _ _ _ => True) (fun _ U o U' => ∃ v L, o = .returned v ∧ Q_rva n0 wsR J h1 v U'.heap L ∧ FrameEnd U o U' L ({ frames := 3, cells := 1, slots := 8, locals := 58 } : Room).cells ({ frames := 3, cells := 1, slots := 8, locals := 58 } : Room).slots)) :
    MetFree l (⟨cRE, "add", "([I)Z"⟩ : MethodName) (head1 (Jvm.Cond.code (⟨cRE, "add", "([I)Z"⟩ : MethodName) prog_43_method_5_code 4 (some .boolean) :: ws) ({ frames := 5, cells := 2, slots := 12, locals := 95 } : Room)) (fun a U => a = #[(.ref a1), (.ref at_)] ∧ Z.Warmed39 U.vm ∧ U.heap = h0) (fun _ _ _ _ _ => True) (fun _ U o U' => ∃ v L, o = .returned v ∧ Q_reladd Z wDE a1 at_ ot ox ovs kt_ et0 en de ds zh so wsR J os ks_ hs ec h0 n0 v U'.heap L ∧ FrameEnd U o U' L ({ frames := 5, cells := 2, slots := 12, locals := 95 } : Room).cells ({ frames := 5, cells := 2, slots := 12, locals := 95 } : Room).slots) := by
  refine MetFree.of_bodySF (plainFor_of_name pn_Relation) hisR ?_
  intro p e s m args below meth c s₁ Bd hml0 hP hK
  obtain ⟨rfl, hZ, hh⟩ := hP
  have hx := Bd.exec
  have hby := Bd.bytes
  have bb := fun {pc : Nat} {r : Except DecodeError (Instr × Nat)} (h : decode prog_43_method_5_code pc = r) => hb hby h
  have ww := fun (i : Nat) {d : Jvm.Cond} (h : tables_1[i]? = some d) => hw d (List.mem_of_getElem? h)
  have hml : c.maxLocals = 4 := hml0
  have hown : s.vm.findClass cRE = some m.cls := findClass_of_methodNamed Bd.named
  have hnm := (name_of_methodNamed Bd.named Bd.method).1
  have X0 : Stand p l e ({ frames := 5, cells := 2, slots := 12, locals := 95 } : Room) s m #[(.ref a1), (.ref at_)] below meth c s₁ [] 0 0 := Stand.of_body Bd
  have e0 : s₁.heap = h0 := by rw [← hh, Bd.state]; rfl
  have N0 := Fr.nil n0
  have pre0 : ∀ t, Steps p.tables e below (s₁.setTop (mkF m 0 #[vR a1, vR at_, .unset, .unset] [])) t → Steps p.tables e below (s₁.setTop (entryFrame m #[(.ref a1), (.ref at_)] 4)) t := fun t k => castTop (ef_reladd m a1 at_) k
  obtain ⟨T1, X1, e1, st1⟩ := getF X0 hx hZ hown (host := "") (Or.inl (ww 119 rfl)) Via.refl e0 r1 (g := (mkF m 1 #[vR a1, vR at_, .unset, .unset] [(.ref a1)])) rfl rfl (bb d13_1)
  obtain ⟨T2, X2, e2, st2⟩ := getF X1 hx hZ hown (host := "") (Or.inl (ww 30 rfl)) Via.refl e1 r9 (g := (mkF m 23 #[vR a1, vR at_, .unset, .unset] [(.ref a1)])) rfl rfl (bb d13_23)
  obtain ⟨_, _, ⟨T3, L3, k3, n3⟩, -, X3, ⟨Lc3, hQ3, l3, y3, z3⟩, st3⟩ := Jvm.LawKit.callS X2 hx (y := (⟨"com/example/chaseward/chaseward/engine/Hashing", "of", "([I)I"⟩ : MethodName)) hown (mvT hZ (ww 121 rfl)) (mvT hZ (ww 122 rfl)) (mvT hZ (ww 123 rfl)) (mvT hZ (ww 124 rfl)) (by decide) (backOf (W := 0) (rm_hash l Z a0 hw [] wDE at_ kt_ et0 h0 n0 (own_z0 O0) S_wDE O0 S_CS r15) hZ (ww 124 rfl) (ww 123 rfl) (by decide) (by decide)) (g := (mkF m 40 #[vR a1, vR at_, .unset, .unset] [(.ref at_)])) rfl (by rw [hml]; rfl) (argsL := [(.ref at_)]) (rest := []) (lenOf pd___I_I_5 rfl) rfl (by show 2 * 0 + _ ≤ _; exact Nat.le_of_eq rfl) (bb d13_40) (fun _ _ => ⟨rfl, e2, (by decide : 0 + 0 ≤ _), (by decide : 0 + 0 ≤ _)⟩)
  dsimp only [Pt.U, Pt.locs, Pt.cells, Pt.slots] at X3 l3 y3 z3 st3 hQ3
  subst l3 y3 z3
  obtain ⟨rfl, N3q, e3⟩ := hQ3
  have N3 := Fr.app N0 N3q
  obtain ⟨T4, h4, X4, e4, W4, st4⟩ := putF X3 hx hZ hown (host := "") (Or.inl (ww 129 rfl)) Via.refl e3 r2 r0 (Or.inl (ww 130 rfl)) (ww 2 rfl) (ty := (.array .int)) (by decide) rfl rfl (g := (mkF m 46 #[vR a1, vR at_, vI (f_hash et0), .unset] [(.ref at_), (.ref a1)])) rfl rfl (bb d13_46)
  have Fw4 := r2.same W4
  have N4 := Fr.snoc X4 N3 g_a1
  have F6 := (r9.other W4 (Or.inr (slot_ne (Or.inl (ww 31 rfl)) (Or.inl (ww 130 rfl)) (by decide) (t := (.object cTU)) (t' := (.array .int)) (by decide) (by decide))))
  obtain ⟨T5, X5, e5, st5⟩ := getF X4 hx hZ hown (host := "") (Or.inl (ww 30 rfl)) Via.refl e4 F6 (g := (mkF m 50 #[vR a1, vR at_, vI (f_hash et0), .unset] [(.ref a1)])) rfl rfl (bb d13_50)
  have F8 := (r17.wr W4)
  have F9 := (r18.other W4 (Or.inl (Ne.symm ne_a1_ot)))
  have F10 := (r19.other W4 (Or.inl (Ne.symm ne_a1_ot)))
  have F11 := (r20.other W4 (Ne.symm ne_a1_os))
  have O12 := (O0.wr W4 g_a1)
  obtain ⟨cq7, kq7, q7a, q7b, q7c⟩ := isOf hZ e5 F8
  obtain ⟨_, _, ⟨T7, L7, k7, n7⟩, -, X7, ⟨Lc7, hQ7, l7, y7, z7⟩, st7⟩ := X5.virtualBackUp hx (owner := cRT) (x := (⟨cTU, "find", "(I)I"⟩ : MethodName)) (y := (⟨cRT, "find", "(I)I"⟩ : MethodName)) hown (mvT hZ (ww 131 rfl)) (mvT hZ (ww 132 rfl)) (mvT hZ (ww 133 rfl)) (by decide) (mvT hZ (ww 135 rfl)) (mvT hZ (ww 134 rfl)) (backOf (W := 0) (rm_find l Z a0 hw [] wDE ot (f_hash et0) os ks_ hs h4 n0 (own_z0 O12) S_wDE O12 S_CS F8 F9 F10 F11 hz) hZ (ww 136 rfl) (ww 21 rfl) (by decide) (by decide)) q7a q7c (g := (mkF m 54 #[vR a1, vR at_, vI (f_hash et0), .unset] [(.int (f_hash et0)), (.ref ot)])) rfl (by rw [hml]; rfl) (Steps.refl _) (argsL := [(.int (f_hash et0))]) (rest := []) (lenOf pd__I_I_4 rfl) rfl (by show 2 * 0 + _ ≤ _; exact Nat.le_of_eq rfl) (bb d13_54) (fun _ _ => ⟨rfl, e5, (by decide : 0 + 0 ≤ _), (by decide : 0 + 0 ≤ _)⟩)
  dsimp only [Pt.U, Pt.locs, Pt.cells, Pt.slots] at X7 l7 y7 z7 st7 hQ7
  subst l7 y7 z7
  obtain ⟨rfl, N7q, e7⟩ := hQ7
  have N7 := Fr.app N4 N7q
  obtain ⟨T13, X13, e13, st13⟩ := getF X7 hx hZ hown (host := "") (Or.inl (ww 30 rfl)) Via.refl e7 F6 (g := (mkF m 65 #[vR a1, vR at_, vI (f_hash et0), vI ((-1 : Int32) - (f_slot (f_hash et0)))] [(.ref a1)])) rfl rfl (bb d13_65)
  have F15 := (r0.wr W4)
  have F16 := (r1.other W4 (Or.inr (slot_ne (Or.inl (ww 120 rfl)) (Or.inl (ww 130 rfl)) (by decide) (t := .boolean) (t' := (.array .int)) (by decide) (by decide))))
  have F17 := (r3.other W4 (Or.inr (slot_ne (Or.inl (ww 156 rfl)) (Or.inl (ww 130 rfl)) (by decide) (t := (.object "java/lang/Runnable")) (t' := (.array .int)) (by decide) (by decide))))
  have F18 := (r4.other W4 (Or.inr (slot_ne (Or.inl (ww 94 rfl)) (Or.inl (ww 130 rfl)) (by decide) (t := .int) (t' := (.array .int)) (by decide) (by decide))))
  have F19 := (r5.other W4 (Or.inr (slot_ne (Or.inl (ww 98 rfl)) (Or.inl (ww 130 rfl)) (by decide) (t := .int) (t' := (.array .int)) (by decide) (by decide))))
  have F20 := (r6.other W4 (Or.inr (slot_ne (Or.inl (ww 96 rfl)) (Or.inl (ww 130 rfl)) (by decide) (t := .int) (t' := (.array .int)) (by decide) (by decide))))
  have F21 := (r7.other W4 (Or.inr (slot_ne (Or.inl (ww 238 rfl)) (Or.inl (ww 130 rfl)) (by decide) (t := .boolean) (t' := (.array .int)) (by decide) (by decide))))
  have F22 := (r8.other W4 (Or.inr (slot_ne (Or.inl (ww 264 rfl)) (Or.inl (ww 130 rfl)) (by decide) (t := (.object "java/util/function/IntConsumer")) (t' := (.array .int)) (by decide) (by decide))))
  have F23 := (r10.other W4 (Or.inr (slot_ne (Or.inr (ww 57 rfl)) (Or.inl (ww 130 rfl)) (by decide) (t := (.object "java/util/List")) (t' := (.array .int)) (by decide) (by decide))))
  have F24 := (r11.other W4 (Or.inr (slot_ne (Or.inl (ww 86 rfl)) (Or.inl (ww 130 rfl)) (by decide) (t := (.object cRV)) (t' := (.array .int)) (by decide) (by decide))))
  have F25 := (r12.wr W4)
  have F26 := (r13.other W4 (Or.inl (Ne.symm ne_a1_ox)))
  have F27 := (r14.other W4 (Or.inl (Ne.symm ne_a1_ox)))
  have F28 := (r15.other W4 (Ne.symm ne_a1_at_))
  have F29 := (r16.wr W4)
  obtain ⟨cq14, q14, q14'⟩ := (F15).cell
  obtain ⟨_, _, ⟨T14, L14, k14, n14⟩, -, X14, ⟨Lc14, hQ14, l14, y14, z14⟩, st14⟩ := X13.privateBack hx (y := (⟨cRE, "append", "([I)I"⟩ : MethodName)) hown (mvT hZ (ww 151 rfl)) (mvT hZ (ww 152 rfl)) (own_sel (mvT hZ (ww 2 rfl)) (mvT hZ (ww 152 rfl)) (mvP hZ (ww 153 rfl)) (by decide)) (Cond.privateMethod_at (mvP hZ (ww 153 rfl) (args := #[]))) (mvT hZ (ww 154 rfl)) (by decide) (backOf (W := 3) (rm_append l Z a0 hw [] wDE a1 at_ ot ox ovs kt_ et0 en de ds zh (.ref at_) wsR J h4 n0 (own_z0 O12) S_wDE O12 S_CS F15 F16 Fw4 F17 F18 F19 F20 F21 F22 F6 F23 F24 F25 F26 F27 F28 F29 g_a1 ne_a1_ox ne_a1_at_ nn_a1 nn_ox nn_at_ hgR (fun h h' K => hJs h h' (own_k1 K)) (hAdd _ ((Keep.refl h0 [a1]).wr W4 (Or.inl (List.mem_of_getElem? (i := 0) rfl))))) hZ (ww 154 rfl) (ww 3 rfl) (by decide) (by decide)) (g := (mkF m 72 #[vR a1, vR at_, vI (f_hash et0), vI ((-1 : Int32) - (f_slot (f_hash et0)))] [(.ref at_), (.ref a1), (.int (f_hash et0)), (.int ((-1 : Int32) - (f_slot (f_hash et0)))), (.ref ot)])) rfl (by rw [hml]; rfl) (Steps.refl _) (a := a1) (by rw [e13]; exact q14) q14' (argsL := [(.ref at_)]) (rest := [(.int (f_hash et0)), (.int ((-1 : Int32) - (f_slot (f_hash et0)))), (.ref ot)]) (lenOf pd___I_I_5 rfl) rfl (by show 2 * 0 + _ ≤ _; exact Nat.le_of_eq rfl) (bb d13_72) (fun _ _ => ⟨rfl, e13, (by decide : 0 + 2 ≤ _), (by decide : 0 + 12 ≤ _)⟩)
  dsimp only [Pt.U, Pt.locs, Pt.cells, Pt.slots] at X14 l14 y14 z14 st14 hQ14
  subst l14 y14 z14
  obtain ⟨rfl, N14q, K14, f14_0, f14_1, f14_2, f14_3, f14_4, f14_5, f14_6, f14_7, f14_8, f14_9, f14_10, hJ14⟩ := hQ14
  have N14 := Fr.app N7 N14q
  have F31 := (F8.keep K14)
  have F32 := (F9.keep K14 (ninS (Ne.symm ne_a1_ot) nn_ot))
  have F33 := (F10.keep K14 (ninS (Ne.symm ne_a1_ot) nn_ot))
  have F34 := (F11.keep K14 (ninS (Ne.symm ne_a1_os) nn_os))
  have F35 := ((r21.other W4 (Or.inl (Ne.symm ne_a1_ot))).keep K14 (ninS (Ne.symm ne_a1_ot) nn_ot))
  have O36 := (O12.keep K14 (allS g_a1 hgR))
  obtain ⟨cq30, kq30, q30a, q30b, q30c⟩ := isOf hZ rfl F31
  obtain ⟨_, _, ⟨T30, L30, k30, n30⟩, -, X30, ⟨Lc30, hQ30, l30, y30, z30⟩, st30⟩ := X14.virtualBackUp hx (owner := cRT) (x := (⟨cTU, "insert", "(III)V"⟩ : MethodName)) (y := (⟨cRT, "insert", "(III)V"⟩ : MethodName)) hown (mvT hZ (ww 243 rfl)) (mvT hZ (ww 244 rfl)) (mvT hZ (ww 245 rfl)) (by decide) (mvT hZ (ww 247 rfl)) (mvT hZ (ww 246 rfl)) (backOf (W := 0) (rm_insert l Z a0 hw [] wDE ot ((-1 : Int32) - (f_slot (f_hash et0))) (f_hash et0) en os ks_ hs ec T14.heap n0 (own_z0 O36) S_wDE O36 S_CS F31 F32 F33 F34 F35 g_ot g_os ne_ot_os (own_neg _) hfit hcnt) hZ (ww 248 rfl) (ww 21 rfl) (by decide) (by decide)) q30a q30c (g := (mkF m 75 #[vR a1, vR at_, vI (f_hash et0), vI ((-1 : Int32) - (f_slot (f_hash et0)))] [(.int en), (.int (f_hash et0)), (.int ((-1 : Int32) - (f_slot (f_hash et0)))), (.ref ot)])) rfl (by rw [hml]; rfl) (Steps.refl _) (argsL := [(.int ((-1 : Int32) - (f_slot (f_hash et0)))), (.int (f_hash et0)), (.int en)]) (rest := []) (lenOf pd__III_V_6 rfl) rfl (by show 2 * 0 + _ ≤ _; exact Nat.le_of_eq rfl) (bb d13_75) (fun _ _ => ⟨rfl, rfl, (by decide : 2 + 0 ≤ _), (by decide : 12 + 0 ≤ _)⟩)
  dsimp only [Pt.U, Pt.locs, Pt.cells, Pt.slots] at X30 l30 y30 z30 st30 hQ30
  subst l30 y30 z30
  obtain ⟨rfl, N30q, K30, f30_0, f30_1, f30_2, f30_3⟩ := hQ30
  have N30 := Fr.app N14 N30q
  have F37 := (f14_0.keep K30 (ninS ne_a1_ot (ninS ne_a1_os nin0)))
  have F38 := (f14_1.keep K30 (ninS ne_a1_ot (ninS ne_a1_os nin0)))
  have F39 := (f14_2.keep K30 (ninS ne_a1_ot (ninS ne_a1_os nin0)))
  have F40 := (f14_3.keep K30 (ninS ne_a1_ot (ninS ne_a1_os nin0)))
  have F41 := (f14_4.keep K30 (ninS ne_a1_ot (ninS ne_a1_os nin0)))
  have F42 := (f14_5.keep K30 (ninS ne_a1_ot (ninS ne_a1_os nin0)))
  have F43 := (f14_6.keep K30 (ninS ne_a1_ot (ninS ne_a1_os nin0)))
  have F44 := (f14_7.keep K30 (ninS ne_a1_ot (ninS ne_a1_os nin0)))
  have F45 := (f14_8.keep K30 (ninS ne_a1_ot (ninS ne_a1_os nin0)))
  have F46 := (f14_9.keep K30 (ninS ne_a1_ot (ninS ne_a1_os nin0)))
  have F47 := (f14_10.keep K30 (ninS ne_a1_ot (ninS ne_a1_os nin0)))
  obtain ⟨fs, hr, hrun, hended, hW, hsame⟩ := X30.leave (v := some (.int 1)) (fun h => by rw [Bd.returns] at h; cases h)
  refine ⟨_, _, pre0 _ ?_, hrun, hended, _, _, rfl, ?_, ⟨_, rfl⟩, hW, hsame.mono (by decide) (by decide)⟩
  · show GG p e below s₁ (mkF m 0 #[vR a1, vR at_, .unset, .unset] []) _
    refine XS.aloadN X0.here hx rfl (bb d13_0) rfl rfl ?_
    refine st1 _ ?_
    refine XS.ifYes X1.here hx rfl (pc0 := 4) (pc' := 22) rfl (bb d13_4) rfl ((if0 _ _).trans (teq (by decide : (0 : Int32) = (0 : Int32))).1) (by decide) (by decide) ?_
    refine XS.aloadN X1.here hx rfl (bb d13_22) rfl rfl ?_
    refine st2 _ ?_
    refine XS.ifnonnullYes X2.here hx rfl (pc0 := 26) (pc' := 39) rfl (bb d13_26) rfl (by decide) (by decide) ?_
    refine XS.aloadN X2.here hx rfl (bb d13_39) rfl rfl ?_
    refine st3 _ ?_
    refine XS.istoreN X3.here hx rfl (bb d13_43) rfl (l' := #[vR a1, vR at_, vI (f_hash et0), .unset]) rfl ?_
    refine XS.aloadN X3.here hx rfl (bb d13_44) rfl rfl ?_
    refine XS.aloadN X3.here hx rfl (bb d13_45) rfl rfl ?_
    refine st4 _ ?_
    refine XS.aloadN X4.here hx rfl (bb d13_49) rfl rfl ?_
    refine st5 _ ?_
    refine XS.iloadN X5.here hx rfl (bb d13_53) rfl ?_
    refine st7.trans ?_
    refine XS.istoreN X7.here hx rfl (bb d13_57) rfl (l' := #[vR a1, vR at_, vI (f_hash et0), vI ((-1 : Int32) - (f_slot (f_hash et0)))]) rfl ?_
    refine XS.iloadN X7.here hx rfl (bb d13_58) rfl ?_
    refine XS.ifYes X7.here hx rfl (pc0 := 59) (pc' := 64) rfl (bb d13_59) rfl ((if0 _ _).trans (tlt (own_slotn _)).1) (by decide) (by decide) ?_
    refine XS.aloadN X7.here hx rfl (bb d13_64) rfl rfl ?_
    refine st13 _ ?_
    refine XS.iloadN X13.here hx rfl (bb d13_68) rfl ?_
    refine XS.iloadN X13.here hx rfl (bb d13_69) rfl ?_
    refine XS.aloadN X13.here hx rfl (bb d13_70) rfl rfl ?_
    refine XS.aloadN X13.here hx rfl (bb d13_71) rfl rfl ?_
    refine st14.trans ?_
    refine st30.trans ?_
    refine XS.iconst X30.here hx rfl (bb d13_78) ?_
    exact retN X30 hx (t := .boolean) Bd.returns (by simp) (bb d13_79) hr
  · show Q_reladd Z wDE a1 at_ ot ox ovs kt_ et0 en de ds zh so wsR J os ks_ hs ec h0 n0 _ T30.heap _
    exact ⟨rfl, N30, ((((Keep.refl h0 (a1 :: ot :: os :: wsR)).wr W4 (Or.inl (List.mem_of_getElem? (i := 0) rfl))).trans K14 (allS (Or.inl (List.mem_of_getElem? (i := 0) rfl)) (fun x hx => Or.inl (List.mem_cons_of_mem _ (List.mem_cons_of_mem _ (List.mem_cons_of_mem _ hx)))))).trans K30 (allS (Or.inl (List.mem_of_getElem? (i := 1) rfl)) (allS (Or.inl (List.mem_of_getElem? (i := 2) rfl)) all0))), F37, F38, F39, F40, F41, F42, F43, F44, F45, F46, F47, f30_0, f30_1, f30_2, f30_3, (hJs _ _ ((Keep.refl T14.heap [a1, ot, os]).trans K30 (allS (Or.inl (List.mem_of_getElem? (i := 1) rfl)) (allS (Or.inl (List.mem_of_getElem? (i := 2) rfl)) all0))) hJ14)⟩
def Q_start1 (Z : State) (wDE a1 at_ ow on ob ol oh ov : Addr) (kw_ kn_ kb_ kl_ kh_ kv_ : ClassId) (eb0 el0 eu0 ex0 ex1 ex2 ex3 ex4 ex5 ex6 ex7 : Int32) (kt_ : ClassId) (et0 : Int32) (h0 : Heap) (n0 : Nat) (v : Option Value) (h : Heap) (L : List Loc) : Prop := v = none ∧ Fr n0 L ∧ Keep h0 h [ob, ol, oh] ∧ Arv Z h ob kb_ .int (1 : Int32) [(.int (f_base et0 et0))] (.int 0) ∧ Arv Z h ol kl_ .int (1 : Int32) [(.int et0)] (.int 0) ∧ Arv Z h oh kh_ .int (1 : Int32) [(.int et0)] (.int 0)
set_option maxRecDepth 65536 in
set_option maxHeartbeats 40000000 in
theorem rm_start1 (l : Launch) (Z : State) (a0 : Array Value) (hw : ∀ d ∈ tables_1, d.before a0 Z = true) (ws : List Jvm.Cond) (wDE : Addr) (a1 at_ ow on ob ol oh ov : Addr) (kw_ kn_ kb_ kl_ kh_ kv_ : ClassId) (eb0 el0 eu0 ex0 ex1 ex2 ex3 ex4 ex5 ex6 ex7 : Int32) (kt_ : ClassId) (et0 : Int32) (h0 : Heap) (n0 : Nat) (Z0 : n0 ≤ h0.size) (S_wDE : Sta Z Z.heap "java/util/ArrayList" "DEFAULTCAPACITY_EMPTY_ELEMENTDATA" "[Ljava/lang/Object;" (.ref wDE)) (O0 : Old Z n0 h0) (S_CS : Sta Z Z.heap cRV "CHUNK_SHIFT" "I" (.int (12 : Int32))) (r0 : Exa Z h0 a1 cRV) (r1 : Fld Z h0 a1 cRV "arity" "I" (.int 1)) (r2 : Fld Z h0 a1 cRV "rows" "I" (.int 0)) (r3 : Fld Z h0 a1 cRV "wide" "[[I" (.ref ow)) (r4 : Fld Z h0 a1 cRV "narrow" "[[C" (.ref on)) (r5 : Fld Z h0 a1 cRV "bases" "[I" (.ref ob)) (r6 : Fld Z h0 a1 cRV "lowest" "[I" (.ref ol)) (r7 : Fld Z h0 a1 cRV "highest" "[I" (.ref oh)) (r8 : Arv Z h0 ow kw_ (.array .int) (1 : Int32) [.null] .null) (r9 : OvrA Z kw_ .int "[I") (r10 : Arv Z h0 on kn_ (.array .char) (1 : Int32) [(.ref ov)] .null) (r11 : OvrA Z kn_ .char "[C") (r12 : Arv Z h0 ob kb_ .int (1 : Int32) [(.int eb0)] (.int 0)) (r13 : Arv Z h0 ol kl_ .int (1 : Int32) [(.int el0)] (.int 0)) (r14 : Arv Z h0 oh kh_ .int (1 : Int32) [(.int eu0)] (.int 0)) (r15 : Arv Z h0 ov kv_ .char (8 : Int32) [(.int ex0), (.int ex1), (.int ex2), (.int ex3), (.int ex4), (.int ex5), (.int ex6), (.int ex7)] (.int 0)) (r16 : Arv Z h0 at_ kt_ .int (1 : Int32) [(.int et0)] (.int 0)) (g_ob : n0 ≤ ob) (g_ol : n0 ≤ ol) (g_oh : n0 ≤ oh) (ne_a1_ow : a1 ≠ ow) (ne_a1_on : a1 ≠ on) (ne_a1_ob : a1 ≠ ob) (ne_a1_ol : a1 ≠ ol) (ne_a1_oh : a1 ≠ oh) (ne_a1_ov : a1 ≠ ov) (ne_ow_on : ow ≠ on) (ne_ow_ob : ow ≠ ob) (ne_ow_ol : ow ≠ ol) (ne_ow_oh : ow ≠ oh) (ne_ow_ov : ow ≠ ov) (ne_on_ob : on ≠ ob) (ne_on_ol : on ≠ ol) (ne_on_oh : on ≠ oh) (ne_on_ov : on ≠ ov) (ne_ob_ol : ob ≠ ol) (ne_ob_oh : ob ≠ oh) (ne_ob_ov : ob ≠ ov) (ne_ol_oh : ol ≠ oh) (ne_ol_ov : ol ≠ ov) (ne_oh_ov : oh ≠ ov) (ne_at__a1 : at_ ≠ a1) (ne_at__ow : at_ ≠ ow) (ne_at__on : at_ ≠ on) (ne_at__ob : at_ ≠ ob) (ne_at__ol : at_ ≠ ol) (ne_at__oh : at_ ≠ oh) (ne_at__ov : at_ ≠ ov) :
    MetFree l (⟨cRV, "start", "(I[I)V"⟩ : MethodName) (head1 (Jvm.Cond.code (⟨cRV, "start", "(I[I)V"⟩ : MethodName) prog_48_method_5_code 4 none :: ws) ({ frames := 2, cells := 0, slots := 0, locals := 32 } : Room)) (fun a U => a = #[(.ref a1), (.int 0), (.ref at_)] ∧ Z.Warmed39 U.vm ∧ U.heap = h0) (fun _ _ _ _ _ => True) (fun _ U o U' => ∃ v L, o = .returned v ∧ Q_start1 Z wDE a1 at_ ow on ob ol oh ov kw_ kn_ kb_ kl_ kh_ kv_ eb0 el0 eu0 ex0 ex1 ex2 ex3 ex4 ex5 ex6 ex7 kt_ et0 h0 n0 v U'.heap L ∧ FrameEnd U o U' L ({ frames := 2, cells := 0, slots := 0, locals := 32 } : Room).cells ({ frames := 2, cells := 0, slots := 0, locals := 32 } : Room).slots) := by
  refine MetFree.of_bodySF (plainFor_of_name pn_RowValues) hisR ?_
  intro p e s m args below meth c s₁ Bd hml0 hP hK
  obtain ⟨rfl, hZ, hh⟩ := hP
  have hx := Bd.exec
  have hby := Bd.bytes
  have bb := fun {pc : Nat} {r : Except DecodeError (Instr × Nat)} (h : decode prog_48_method_5_code pc = r) => hb hby h
  have ww := fun (i : Nat) {d : Jvm.Cond} (h : tables_1[i]? = some d) => hw d (List.mem_of_getElem? h)
  have hml : c.maxLocals = 4 := hml0
  have hown : s.vm.findClass cRV = some m.cls := findClass_of_methodNamed Bd.named
  have hnm := (name_of_methodNamed Bd.named Bd.method).1
  have X0 : Stand p l e ({ frames := 2, cells := 0, slots := 0, locals := 32 } : Room) s m #[(.ref a1), (.int 0), (.ref at_)] below meth c s₁ [] 0 0 := Stand.of_body Bd
  have e0 : s₁.heap = h0 := by rw [← hh, Bd.state]; rfl
  have N0 := Fr.nil n0
  have pre0 : ∀ t, Steps p.tables e below (s₁.setTop (mkF m 0 #[vR a1, vI 0, vR at_, .unset] [])) t → Steps p.tables e below (s₁.setTop (entryFrame m #[(.ref a1), (.int 0), (.ref at_)] 4)) t := fun t k => castTop (ef_start1 m a1 at_) k
  obtain ⟨T1, X1, e1, st1⟩ := getF X0 hx hZ hown (host := "") (Or.inl (ww 69 rfl)) Via.refl e0 r3 (g := (mkF m 2 #[vR a1, vI 0, vR at_, .unset] [(.ref a1), (.int 0)])) rfl rfl (bb d22_2)
  obtain ⟨cl2, Ar2, vq2, vS2, vN2, vH2, vG2⟩ := id r8
  obtain ⟨T3, X3, e3, st3⟩ := getF X1 hx hZ hown (host := "") (Or.inl (ww 75 rfl)) Via.refl e1 r1 (g := (mkF m 86 #[vR a1, vI 0, vR at_, vI 0] [(.ref a1), (.int 0)])) rfl rfl (bb d22_86)
  obtain ⟨T4, X4, e4, st4⟩ := getF X3 hx hZ hown (host := "") (Or.inl (ww 77 rfl)) Via.refl e3 r5 (g := (mkF m 93 #[vR a1, vI 0, vR at_, vI 0] [(.ref a1)])) rfl rfl (bb d22_93)
  obtain ⟨T5, X5, e5, st5⟩ := getF X4 hx hZ hown (host := "") (Or.inl (ww 75 rfl)) Via.refl e4 r1 (g := (mkF m 98 #[vR a1, vI 0, vR at_, vI 0] [(.ref a1), (.int 0), (.ref ob)])) rfl rfl (bb d22_98)
  obtain ⟨cl6, Ar6, vq6, vS6, vN6, vH6, vG6⟩ := id r16
  have hin6 : ¬ (((0 : Int32) : Int32) < 0 ∨ cl6.slots.size ≤ ((0 : Int32) : Int32).toNatClampNeg) := inb_of vS6 ⟨by decide, by decide⟩
  obtain ⟨cl7, Ar7, vq7, vS7, vN7, vH7, vG7⟩ := id r16
  have hin7 : ¬ (((0 : Int32) : Int32) < 0 ∨ cl7.slots.size ≤ ((0 : Int32) : Int32).toNatClampNeg) := inb_of vS7 ⟨by decide, by decide⟩
  obtain ⟨_, _, ⟨T8, L8, k8, n8⟩, -, X8, ⟨Lc8, hQ8, l8, y8, z8⟩, st8⟩ := Jvm.LawKit.callS X5 hx (y := (⟨cRV, "base", "(II)I"⟩ : MethodName)) hown (mvT hZ (ww 170 rfl)) (mvT hZ (ww 171 rfl)) (mvT hZ (ww 62 rfl)) (mvT hZ (ww 172 rfl)) (by decide) (backOf (W := 2) (rm_base l Z a0 hw [] wDE et0 et0 h0 n0 (own_z0 O0) S_wDE O0 S_CS) hZ (ww 172 rfl) (ww 62 rfl) (by decide) (by decide)) (g := (mkF m 110 #[vR a1, vI 0, vR at_, vI 0] [(.int et0), (.int et0), (.int 0), (.ref ob)])) rfl (by rw [hml]; rfl) (argsL := [(.int et0), (.int et0)]) (rest := [(.int 0), (.ref ob)]) (lenOf pd__II_I_5 rfl) rfl (by show 2 * 0 + _ ≤ _; exact Nat.le_of_eq rfl) (bb d22_110) (fun _ _ => ⟨rfl, e5, (by decide : 0 + 0 ≤ _), (by decide : 0 + 0 ≤ _)⟩)
  dsimp only [Pt.U, Pt.locs, Pt.cells, Pt.slots] at X8 l8 y8 z8 st8 hQ8
  subst l8 y8 z8
  obtain ⟨rfl, N8q, e8⟩ := hQ8
  have N8 := Fr.app N0 N8q
  obtain ⟨cl9, Ar9, vq9, vS9, vN9, vH9, vG9⟩ := id r12
  have hin9 : ¬ (((0 : Int32) : Int32) < 0 ∨ cl9.slots.size ≤ ((0 : Int32) : Int32).toNatClampNeg) := inb_of vS9 ⟨by decide, by decide⟩
  obtain ⟨T9, h9, X9, e9, W9, st9⟩ := stI X8 hx hZ e8 Ar9 (j := (0 : Int32)) hin9 (g := (mkF m 113 #[vR a1, vI 0, vR at_, vI 0] [(.int (f_base et0 et0)), (.int 0), (.ref ob)])) rfl rfl (bb d22_113)
  have V9 : Arv Z h9 ob kb_ .int (1 : Int32) [(.int (f_base et0 et0))] (.int 0) := Arv.set Ar9 vq9 vS9 vN9 vH9 vG9 rfl W9 0 rfl (Nat.le_of_ble_eq_true rfl)
  have N9 := Fr.snoc X9 N8 g_ob
  have F11 := (r1.other W9 (Or.inl ne_a1_ob))
  obtain ⟨T10, X10, e10, st10⟩ := getF X9 hx hZ hown (host := "") (Or.inl (ww 75 rfl)) Via.refl e9 F11 (g := (mkF m 86 #[vR a1, vI 0, vR at_, vI 1] [(.ref a1), (.int 1)])) rfl rfl (bb d22_86)
  have F13 := (r6.other W9 (Or.inl ne_a1_ob))
  obtain ⟨T12, X12, e12, st12⟩ := getF X10 hx hZ hown (host := "") (Or.inl (ww 79 rfl)) Via.refl e10 F13 (g := (mkF m 123 #[vR a1, vI 0, vR at_, vI 1] [(.ref a1), (.int 0), (.ref at_)])) rfl rfl (bb d22_123)
  obtain ⟨T14, X14, e14, st14⟩ := getF X12 hx hZ hown (host := "") (Or.inl (ww 75 rfl)) Via.refl e12 F11 (g := (mkF m 128 #[vR a1, vI 0, vR at_, vI 1] [(.ref a1), (.int 0), (.ref ol), (.int 0), (.ref at_)])) rfl rfl (bb d22_128)
  have F16 := (r16.other W9 ne_at__ob)
  have F17 := (r13.other W9 (Ne.symm ne_ob_ol))
  obtain ⟨T15, h15, L15, X15, e15, N15, K15, Vc15, st15⟩ := cpA X14 hx hZ hown (ww 180 rfl) (ww 183 rfl) (ww 181 rfl) (ww 182 rfl) e14 F16 F17 (us := [(.int et0)]) (Or.inl ⟨rfl, rfl⟩) (by decide) (by decide) (by decide) (by decide) (by decide) rfl (Nat.le_of_ble_eq_true rfl) N9 g_ol (g := (mkF m 131 #[vR a1, vI 0, vR at_, vI 1] [(.int 1), (.int 0), (.ref ol), (.int 0), (.ref at_)])) rfl (by rw [hml]; rfl) rfl (bb d22_131) (by decide) (W := 0) (by show 2 * 0 + _ ≤ _; exact Nat.le_of_eq rfl) (by decide)
  have V15 : Arv Z h15 ol kl_ .int (1 : Int32) [(.int et0)] (.int 0) := Vc15
  have F19 := ((r7.other W9 (Or.inl ne_a1_ob)).keep K15 (ninS ne_a1_ol nin0))
  obtain ⟨T18, X18, e18, st18⟩ := getF X15 hx hZ hown (host := "") (Or.inl (ww 81 rfl)) Via.refl e15 F19 (g := (mkF m 137 #[vR a1, vI 0, vR at_, vI 1] [(.ref a1), (.int 0), (.ref at_)])) rfl rfl (bb d22_137)
  have F21 := (F11.keep K15 (ninS ne_a1_ol nin0))
  obtain ⟨T20, X20, e20, st20⟩ := getF X18 hx hZ hown (host := "") (Or.inl (ww 75 rfl)) Via.refl e18 F21 (g := (mkF m 142 #[vR a1, vI 0, vR at_, vI 1] [(.ref a1), (.int 0), (.ref oh), (.int 0), (.ref at_)])) rfl rfl (bb d22_142)
  have F23 := (F16.keep K15 (ninS ne_at__ol nin0))
  have F24 := ((r14.other W9 (Ne.symm ne_ob_oh)).keep K15 (ninS (Ne.symm ne_ol_oh) nin0))
  obtain ⟨T22, h22, L22, X22, e22, N22, K22, Vc22, st22⟩ := cpA X20 hx hZ hown (ww 180 rfl) (ww 183 rfl) (ww 181 rfl) (ww 182 rfl) e20 F23 F24 (us := [(.int et0)]) (Or.inl ⟨rfl, rfl⟩) (by decide) (by decide) (by decide) (by decide) (by decide) rfl (Nat.le_of_ble_eq_true rfl) N15 g_oh (g := (mkF m 145 #[vR a1, vI 0, vR at_, vI 1] [(.int 1), (.int 0), (.ref oh), (.int 0), (.ref at_)])) rfl (by rw [hml]; rfl) rfl (bb d22_145) (by decide) (W := 0) (by show 2 * 0 + _ ≤ _; exact Nat.le_of_eq rfl) (by decide)
  have V22 : Arv Z h22 oh kh_ .int (1 : Int32) [(.int et0)] (.int 0) := Vc22
  have F25 := ((V9.keep K15 (ninS ne_ob_ol nin0)).keep K22 (ninS ne_ob_oh nin0))
  have F26 := (V15.keep K22 (ninS ne_ol_oh nin0))
  obtain ⟨fs, hr, hrun, hended, hW, hsame⟩ := X22.leave (v := none) (fun _ => rfl)
  refine ⟨_, _, pre0 _ ?_, hrun, hended, _, _, rfl, ?_, ⟨_, rfl⟩, hW, hsame.mono (by decide) (by decide)⟩
  · show GG p e below s₁ (mkF m 0 #[vR a1, vI 0, vR at_, .unset] []) _
    refine XS.iloadN X0.here hx rfl (bb d22_0) rfl ?_
    refine XS.aloadN X0.here hx rfl (bb d22_1) rfl rfl ?_
    refine st1 _ ?_
    refine X1.arraylength hx (by rw [e1]; exact Ar2.1) (State.isArrayOf_alike hZ.alike Ar2.2.1) (g := (mkF m 5 #[vR a1, vI 0, vR at_, .unset] [(.ref ow), (.int 0)])) rfl rfl (bb d22_5) _ ?_
    rw [len_of vS2 vN2]
    show GG p e below T1 (mkF m 6 #[vR a1, vI 0, vR at_, .unset] [(.int 1), (.int 0)]) _
    refine XS.icmpYes X1.here hx rfl (pc0 := 6) (pc' := 62) rfl (bb d22_6) rfl (feq (by decide : ¬ ((0 : Int32) = (1 : Int32)))).2 (by decide) (by decide) ?_
    refine XS.iloadN X1.here hx rfl (bb d22_62) rfl ?_
    refine XS.ifYes X1.here hx rfl (pc0 := 63) (pc' := 82) rfl (bb d22_63) rfl ((if0 _ _).trans (flt (by decide : ¬ ((0 : Int32) < (0 : Int32)))).2.2.2) (by decide) (by decide) ?_
    refine XS.iconst X1.here hx rfl (bb d22_82) ?_
    refine XS.istoreN X1.here hx rfl (bb d22_83) rfl (l' := #[vR a1, vI 0, vR at_, vI 0]) rfl ?_
    refine XS.iloadN X1.here hx rfl (bb d22_84) rfl ?_
    refine XS.aloadN X1.here hx rfl (bb d22_85) rfl rfl ?_
    refine st3 _ ?_
    refine XS.icmpNo X3.here hx rfl (bb d22_89) rfl (tlt (by decide : (0 : Int32) < (1 : Int32))).2.1 ?_
    refine XS.aloadN X3.here hx rfl (bb d22_92) rfl rfl ?_
    refine st4 _ ?_
    refine XS.iloadN X4.here hx rfl (bb d22_96) rfl ?_
    refine XS.aloadN X4.here hx rfl (bb d22_97) rfl rfl ?_
    refine st5 _ ?_
    refine XS.imul X5.here hx rfl (bb d22_101) rfl ?_
    refine XS.iloadN X5.here hx rfl (bb d22_102) rfl ?_
    refine XS.iadd X5.here hx rfl (bb d22_103) rfl ?_
    refine XS.aloadN X5.here hx rfl (bb d22_104) rfl rfl ?_
    refine XS.iloadN X5.here hx rfl (bb d22_105) rfl ?_
    refine X5.iaload hx (j := (0 : Int32)) (v := (.int et0)) (by rw [e5]; exact Ar6.1) (State.isArrayOf_alike hZ.alike Ar6.2.1) Ar6.2.2 hin6 (vH6.at hin6 rfl) (g := (mkF m 106 #[vR a1, vI 0, vR at_, vI 0] [(.int 0), (.ref at_), (.int 0), (.ref ob)])) rfl rfl (bb d22_106) _ ?_
    refine XS.aloadN X5.here hx rfl (bb d22_107) rfl rfl ?_
    refine XS.iloadN X5.here hx rfl (bb d22_108) rfl ?_
    refine X5.iaload hx (j := (0 : Int32)) (v := (.int et0)) (by rw [e5]; exact Ar7.1) (State.isArrayOf_alike hZ.alike Ar7.2.1) Ar7.2.2 hin7 (vH7.at hin7 rfl) (g := (mkF m 109 #[vR a1, vI 0, vR at_, vI 0] [(.int 0), (.ref at_), (.int et0), (.int 0), (.ref ob)])) rfl rfl (bb d22_109) _ ?_
    refine st8 _ ?_
    refine st9 _ ?_
    refine XS.iinc X9.here hx rfl (bb d22_114) rfl (l' := #[vR a1, vI 0, vR at_, vI 1]) rfl ?_
    refine XS.goto X9.here hx rfl (pc0 := 117) (pc' := 84) rfl (bb d22_117) (by decide) (by decide) ?_
    refine XS.iloadN X9.here hx rfl (bb d22_84) rfl ?_
    refine XS.aloadN X9.here hx rfl (bb d22_85) rfl rfl ?_
    refine st10 _ ?_
    refine XS.icmpYes X10.here hx rfl (pc0 := 89) (pc' := 120) rfl (bb d22_89) rfl (flt (by decide : ¬ ((1 : Int32) < (1 : Int32)))).2.1 (by decide) (by decide) ?_
    refine XS.aloadN X10.here hx rfl (bb d22_120) rfl rfl ?_
    refine XS.iconst X10.here hx rfl (bb d22_121) ?_
    refine XS.aloadN X10.here hx rfl (bb d22_122) rfl rfl ?_
    refine st12 _ ?_
    refine XS.iconst X12.here hx rfl (bb d22_126) ?_
    refine XS.aloadN X12.here hx rfl (bb d22_127) rfl rfl ?_
    refine st14 _ ?_
    refine st15 _ ?_
    refine XS.aloadN X15.here hx rfl (bb d22_134) rfl rfl ?_
    refine XS.iconst X15.here hx rfl (bb d22_135) ?_
    refine XS.aloadN X15.here hx rfl (bb d22_136) rfl rfl ?_
    refine st18 _ ?_
    refine XS.iconst X18.here hx rfl (bb d22_140) ?_
    refine XS.aloadN X18.here hx rfl (bb d22_141) rfl rfl ?_
    refine st20 _ ?_
    refine st22 _ ?_
    exact X22.returnOut hx Bd.returns (bb d22_148) hr
  · show Q_start1 Z wDE a1 at_ ow on ob ol oh ov kw_ kn_ kb_ kl_ kh_ kv_ eb0 el0 eu0 ex0 ex1 ex2 ex3 ex4 ex5 ex6 ex7 kt_ et0 h0 n0 _ T22.heap _
    rw [e22]
    exact ⟨rfl, N22, ((((Keep.refl h0 [ob, ol, oh]).wr W9 (Or.inl (List.mem_of_getElem? (i := 0) rfl))).trans K15 (allS (Or.inl (List.mem_of_getElem? (i := 1) rfl)) all0)).trans K22 (allS (Or.inl (List.mem_of_getElem? (i := 2) rfl)) all0)), F25, F26, V22⟩
set_option maxRecDepth 65536 in
set_option maxHeartbeats 40000000 in
theorem rm_room1N0 (l : Launch) (Z : State) (a0 : Array Value) (hw : ∀ d ∈ tables_1, d.before a0 Z = true) (ws : List Jvm.Cond) (wDE : Addr) (a1 ow on ob ol oh ov : Addr) (kw_ kn_ kb_ kl_ kh_ kv_ : ClassId) (eb0 el0 eu0 ex0 ex1 ex2 ex3 ex4 ex5 ex6 ex7 : Int32) (h0 : Heap) (n0 : Nat) (Z0 : n0 ≤ h0.size) (S_wDE : Sta Z Z.heap "java/util/ArrayList" "DEFAULTCAPACITY_EMPTY_ELEMENTDATA" "[Ljava/lang/Object;" (.ref wDE)) (O0 : Old Z n0 h0) (S_CS : Sta Z Z.heap cRV "CHUNK_SHIFT" "I" (.int (12 : Int32))) (r0 : Exa Z h0 a1 cRV) (r1 : Fld Z h0 a1 cRV "arity" "I" (.int 1)) (r2 : Fld Z h0 a1 cRV "wide" "[[I" (.ref ow)) (r3 : Fld Z h0 a1 cRV "narrow" "[[C" (.ref on)) (r4 : Arv Z h0 ow kw_ (.array .int) (1 : Int32) [.null] .null) (r5 : Arv Z h0 on kn_ (.array .char) (1 : Int32) [(.ref ov)] .null) (r6 : Arv Z h0 ov kv_ .char (8 : Int32) [(.int ex0), (.int ex1), (.int ex2), (.int ex3), (.int ex4), (.int ex5), (.int ex6), (.int ex7)] (.int 0)) :
    MetFree l (⟨cRV, "makeRoom", "(II)V"⟩ : MethodName) (head1 (Jvm.Cond.code (⟨cRV, "makeRoom", "(II)V"⟩ : MethodName) prog_48_method_6_code 5 none :: ws) ({ frames := 1, cells := 0, slots := 0, locals := 13 } : Room)) (fun a U => a = #[(.ref a1), (.int 0), (.int 0)] ∧ Z.Warmed39 U.vm ∧ U.heap = h0) (fun _ _ _ _ _ => True) (fun _ U o U' => ∃ v L, o = .returned v ∧ PureQ (none) h0 n0 v U'.heap L ∧ FrameEnd U o U' L ({ frames := 1, cells := 0, slots := 0, locals := 13 } : Room).cells ({ frames := 1, cells := 0, slots := 0, locals := 13 } : Room).slots) := by
  refine MetFree.of_bodySF (plainFor_of_name pn_RowValues) hisR ?_
  intro p e s m args below meth c s₁ Bd hml0 hP hK
  obtain ⟨rfl, hZ, hh⟩ := hP
  have hx := Bd.exec
  have hby := Bd.bytes
  have bb := fun {pc : Nat} {r : Except DecodeError (Instr × Nat)} (h : decode prog_48_method_6_code pc = r) => hb hby h
  have ww := fun (i : Nat) {d : Jvm.Cond} (h : tables_1[i]? = some d) => hw d (List.mem_of_getElem? h)
  have hml : c.maxLocals = 5 := hml0
  have hown : s.vm.findClass cRV = some m.cls := findClass_of_methodNamed Bd.named
  have hnm := (name_of_methodNamed Bd.named Bd.method).1
  have X0 : Stand p l e ({ frames := 1, cells := 0, slots := 0, locals := 13 } : Room) s m #[(.ref a1), (.int 0), (.int 0)] below meth c s₁ [] 0 0 := Stand.of_body Bd
  have e0 : s₁.heap = h0 := by rw [← hh, Bd.state]; rfl
  have N0 := Fr.nil n0
  have pre0 : ∀ t, Steps p.tables e below (s₁.setTop (mkF m 0 #[vR a1, vI 0, vI 0, .unset, .unset] [])) t → Steps p.tables e below (s₁.setTop (entryFrame m #[(.ref a1), (.int 0), (.int 0)] 5)) t := fun t k => castTop (ef_room1N0 m a1) k
  obtain ⟨T1, X1, e1, st1⟩ := getF X0 hx hZ hown (host := "") (Or.inl (ww 75 rfl)) Via.refl e0 r1 (g := (mkF m 4 #[vR a1, vI 0, vI 0, .unset, .unset] [(.ref a1), (.int 1)])) rfl rfl (bb d25_4)
  obtain ⟨_, _, ⟨T2, L2, k2, n2⟩, -, X2, ⟨Lc2, hQ2, l2, y2, z2⟩, st2⟩ := Jvm.LawKit.callS X1 hx (y := (⟨"java/lang/Math", "min", "(II)I"⟩ : MethodName)) hown (mvT hZ (ww 188 rfl)) (mvT hZ (ww 189 rfl)) (mvT hZ (ww 178 rfl)) (mvT hZ (ww 190 rfl)) (by decide) (backOf (W := 0) (rm_minI l Z a0 hw [] wDE (0 : Int32) (4096 : Int32) h0 n0 (own_z0 O0) S_wDE O0 S_CS) hZ (ww 190 rfl) (ww 178 rfl) (by decide) (by decide)) (g := (mkF m 15 #[vR a1, vI 0, vI 0, vI 1, .unset] [(.int 4096), (.int 0)])) rfl (by rw [hml]; rfl) (argsL := [(.int 0), (.int 4096)]) (rest := []) (lenOf pd__II_I_5 rfl) rfl (by show 2 * 0 + _ ≤ _; exact Nat.le_of_eq rfl) (bb d25_15) (fun _ _ => ⟨rfl, e1, (by decide : 0 + 0 ≤ _), (by decide : 0 + 0 ≤ _)⟩)
  dsimp only [Pt.U, Pt.locs, Pt.cells, Pt.slots] at X2 l2 y2 z2 st2 hQ2
  subst l2 y2 z2
  obtain ⟨rfl, N2q, e2⟩ := hQ2
  have N2 := Fr.app N0 N2q
  obtain ⟨T3, X3, e3, st3⟩ := getF X2 hx hZ hown (host := "") (Or.inl (ww 75 rfl)) Via.refl e2 r1 (g := (mkF m 19 #[vR a1, vI 0, vI 0, vI 1, .unset] [(.ref a1), (.int (f_minI (0 : Int32) (4096 : Int32)))])) rfl rfl (bb d25_19)
  obtain ⟨T4, X4, e4, st4⟩ := getF X3 hx hZ hown (host := "") (Or.inl (ww 73 rfl)) Via.refl e3 r3 (g := (mkF m 26 #[vR a1, vI 0, vI 0, vI 1, vI ((f_minI (0 : Int32) (4096 : Int32)) * (1 : Int32))] [(.ref a1)])) rfl rfl (bb d25_26)
  obtain ⟨cl5, Ar5, vq5, vS5, vN5, vH5, vG5⟩ := id r5
  have hin5 : ¬ (((0 : Int32) : Int32) < 0 ∨ cl5.slots.size ≤ ((0 : Int32) : Int32).toNatClampNeg) := inb_of vS5 ⟨by decide, by decide⟩
  obtain ⟨T6, X6, e6, st6⟩ := getF X4 hx hZ hown (host := "") (Or.inl (ww 73 rfl)) Via.refl e4 r3 (g := (mkF m 36 #[vR a1, vI 0, vI 0, vI 1, vI ((f_minI (0 : Int32) (4096 : Int32)) * (1 : Int32))] [(.ref a1), (.int 1)])) rfl rfl (bb d25_36)
  obtain ⟨cl7, Ar7, vq7, vS7, vN7, vH7, vG7⟩ := id r5
  have hin7 : ¬ (((0 : Int32) : Int32) < 0 ∨ cl7.slots.size ≤ ((0 : Int32) : Int32).toNatClampNeg) := inb_of vS7 ⟨by decide, by decide⟩
  obtain ⟨cl8, Ar8, vq8, vS8, vN8, vH8, vG8⟩ := id r6
  obtain ⟨T9, X9, e9, st9⟩ := getF X6 hx hZ hown (host := "") (Or.inl (ww 69 rfl)) Via.refl e6 r2 (g := (mkF m 66 #[vR a1, vI 0, vI 0, vI 1, vI ((f_minI (0 : Int32) (4096 : Int32)) * (1 : Int32))] [(.ref a1)])) rfl rfl (bb d25_66)
  obtain ⟨cl10, Ar10, vq10, vS10, vN10, vH10, vG10⟩ := id r4
  have hin10 : ¬ (((0 : Int32) : Int32) < 0 ∨ cl10.slots.size ≤ ((0 : Int32) : Int32).toNatClampNeg) := inb_of vS10 ⟨by decide, by decide⟩
  obtain ⟨fs, hr, hrun, hended, hW, hsame⟩ := X9.leave (v := none) (fun _ => rfl)
  refine ⟨_, _, pre0 _ ?_, hrun, hended, _, _, rfl, ?_, ⟨_, rfl⟩, hW, hsame.mono (by decide) (by decide)⟩
  · show GG p e below s₁ (mkF m 0 #[vR a1, vI 0, vI 0, .unset, .unset] []) _
    refine XS.iloadN X0.here hx rfl (bb d25_0) rfl ?_
    refine XS.iconst X0.here hx rfl (bb d25_1) ?_
    refine XS.iadd X0.here hx rfl (bb d25_2) rfl ?_
    refine XS.aloadN X0.here hx rfl (bb d25_3) rfl rfl ?_
    refine st1 _ ?_
    refine XS.imul X1.here hx rfl (bb d25_7) rfl ?_
    refine XS.istoreN X1.here hx rfl (bb d25_8) rfl (l' := #[vR a1, vI 0, vI 0, vI 1, .unset]) rfl ?_
    refine XS.iconst X1.here hx rfl (bb d25_9) ?_
    refine XS.iloadN X1.here hx rfl (bb d25_10) rfl ?_
    refine XS.imul X1.here hx rfl (bb d25_11) rfl ?_
    refine XS.sipush X1.here hx rfl (bb d25_12) ?_
    refine st2 _ ?_
    refine XS.aloadN X2.here hx rfl (bb d25_18) rfl rfl ?_
    refine st3 _ ?_
    refine XS.imul X3.here hx rfl (bb d25_22) rfl ?_
    refine XS.istore X3.here hx rfl (bb d25_23) rfl (l' := #[vR a1, vI 0, vI 0, vI 1, vI ((f_minI (0 : Int32) (4096 : Int32)) * (1 : Int32))]) rfl ?_
    refine XS.aloadN X3.here hx rfl (bb d25_25) rfl rfl ?_
    refine st4 _ ?_
    refine XS.iloadN X4.here hx rfl (bb d25_29) rfl ?_
    refine X4.aaload hx (j := (0 : Int32)) (v := (.ref ov)) (by rw [e4]; exact Ar5.1) (State.isArrayOf_alike hZ.alike Ar5.2.1) rfl Ar5.2.2 hin5 (vH5.at hin5 rfl) (g := (mkF m 30 #[vR a1, vI 0, vI 0, vI 1, vI ((f_minI (0 : Int32) (4096 : Int32)) * (1 : Int32))] [(.int 0), (.ref on)])) rfl rfl (bb d25_30) _ ?_
    refine XS.ifnullNo X4.here hx rfl (bb d25_31) rfl ?_
    refine XS.iloadN X4.here hx rfl (bb d25_34) rfl ?_
    refine XS.aloadN X4.here hx rfl (bb d25_35) rfl rfl ?_
    refine st6 _ ?_
    refine XS.iloadN X6.here hx rfl (bb d25_39) rfl ?_
    refine X6.aaload hx (j := (0 : Int32)) (v := (.ref ov)) (by rw [e6]; exact Ar7.1) (State.isArrayOf_alike hZ.alike Ar7.2.1) rfl Ar7.2.2 hin7 (vH7.at hin7 rfl) (g := (mkF m 40 #[vR a1, vI 0, vI 0, vI 1, vI ((f_minI (0 : Int32) (4096 : Int32)) * (1 : Int32))] [(.int 0), (.ref on), (.int 1)])) rfl rfl (bb d25_40) _ ?_
    refine X6.arraylength hx (by rw [e6]; exact Ar8.1) (State.isArrayOf_alike hZ.alike Ar8.2.1) (g := (mkF m 41 #[vR a1, vI 0, vI 0, vI 1, vI ((f_minI (0 : Int32) (4096 : Int32)) * (1 : Int32))] [(.ref ov), (.int 1)])) rfl rfl (bb d25_41) _ ?_
    rw [len_of vS8 vN8]
    show GG p e below T6 (mkF m 42 #[vR a1, vI 0, vI 0, vI 1, vI ((f_minI (0 : Int32) (4096 : Int32)) * (1 : Int32))] [(.int 8), (.int 1)]) _
    refine XS.icmpYes X6.here hx rfl (pc0 := 42) (pc' := 65) rfl (bb d25_42) rfl (flt (by decide : ¬ ((8 : Int32) < (1 : Int32)))).2.2.2 (by decide) (by decide) ?_
    refine XS.aloadN X6.here hx rfl (bb d25_65) rfl rfl ?_
    refine st9 _ ?_
    refine XS.iloadN X9.here hx rfl (bb d25_69) rfl ?_
    refine X9.aaload hx (j := (0 : Int32)) (v := .null) (by rw [e9]; exact Ar10.1) (State.isArrayOf_alike hZ.alike Ar10.2.1) rfl Ar10.2.2 hin10 (vH10.at hin10 rfl) (g := (mkF m 70 #[vR a1, vI 0, vI 0, vI 1, vI ((f_minI (0 : Int32) (4096 : Int32)) * (1 : Int32))] [(.int 0), (.ref ow)])) rfl rfl (bb d25_70) _ ?_
    refine XS.ifnullYes X9.here hx rfl (pc0 := 71) (pc' := 102) rfl (bb d25_71) rfl (by decide) (by decide) ?_
    exact X9.returnOut hx Bd.returns (bb d25_102) hr
  · exact ⟨rfl, N2, e9⟩
set_option maxRecDepth 65536 in
set_option maxHeartbeats 40000000 in
theorem rm_room1N1 (l : Launch) (Z : State) (a0 : Array Value) (hw : ∀ d ∈ tables_1, d.before a0 Z = true) (ws : List Jvm.Cond) (wDE : Addr) (a1 ow on ob ol oh ov : Addr) (kw_ kn_ kb_ kl_ kh_ kv_ : ClassId) (eb0 el0 eu0 ev0_0 ex1 ex2 ex3 ex4 ex5 ex6 ex7 : Int32) (h0 : Heap) (n0 : Nat) (Z0 : n0 ≤ h0.size) (S_wDE : Sta Z Z.heap "java/util/ArrayList" "DEFAULTCAPACITY_EMPTY_ELEMENTDATA" "[Ljava/lang/Object;" (.ref wDE)) (O0 : Old Z n0 h0) (S_CS : Sta Z Z.heap cRV "CHUNK_SHIFT" "I" (.int (12 : Int32))) (r0 : Exa Z h0 a1 cRV) (r1 : Fld Z h0 a1 cRV "arity" "I" (.int 1)) (r2 : Fld Z h0 a1 cRV "wide" "[[I" (.ref ow)) (r3 : Fld Z h0 a1 cRV "narrow" "[[C" (.ref on)) (r4 : Arv Z h0 ow kw_ (.array .int) (1 : Int32) [.null] .null) (r5 : Arv Z h0 on kn_ (.array .char) (1 : Int32) [(.ref ov)] .null) (r6 : Arv Z h0 ov kv_ .char (8 : Int32) [(.int (nar .char (ev0_0 - eb0))), (.int ex1), (.int ex2), (.int ex3), (.int ex4), (.int ex5), (.int ex6), (.int ex7)] (.int 0)) :
    MetFree l (⟨cRV, "makeRoom", "(II)V"⟩ : MethodName) (head1 (Jvm.Cond.code (⟨cRV, "makeRoom", "(II)V"⟩ : MethodName) prog_48_method_6_code 5 none :: ws) ({ frames := 1, cells := 0, slots := 0, locals := 13 } : Room)) (fun a U => a = #[(.ref a1), (.int 0), (.int 1)] ∧ Z.Warmed39 U.vm ∧ U.heap = h0) (fun _ _ _ _ _ => True) (fun _ U o U' => ∃ v L, o = .returned v ∧ PureQ (none) h0 n0 v U'.heap L ∧ FrameEnd U o U' L ({ frames := 1, cells := 0, slots := 0, locals := 13 } : Room).cells ({ frames := 1, cells := 0, slots := 0, locals := 13 } : Room).slots) := by
  refine MetFree.of_bodySF (plainFor_of_name pn_RowValues) hisR ?_
  intro p e s m args below meth c s₁ Bd hml0 hP hK
  obtain ⟨rfl, hZ, hh⟩ := hP
  have hx := Bd.exec
  have hby := Bd.bytes
  have bb := fun {pc : Nat} {r : Except DecodeError (Instr × Nat)} (h : decode prog_48_method_6_code pc = r) => hb hby h
  have ww := fun (i : Nat) {d : Jvm.Cond} (h : tables_1[i]? = some d) => hw d (List.mem_of_getElem? h)
  have hml : c.maxLocals = 5 := hml0
  have hown : s.vm.findClass cRV = some m.cls := findClass_of_methodNamed Bd.named
  have hnm := (name_of_methodNamed Bd.named Bd.method).1
  have X0 : Stand p l e ({ frames := 1, cells := 0, slots := 0, locals := 13 } : Room) s m #[(.ref a1), (.int 0), (.int 1)] below meth c s₁ [] 0 0 := Stand.of_body Bd
  have e0 : s₁.heap = h0 := by rw [← hh, Bd.state]; rfl
  have N0 := Fr.nil n0
  have pre0 : ∀ t, Steps p.tables e below (s₁.setTop (mkF m 0 #[vR a1, vI 0, vI 1, .unset, .unset] [])) t → Steps p.tables e below (s₁.setTop (entryFrame m #[(.ref a1), (.int 0), (.int 1)] 5)) t := fun t k => castTop (ef_room1N1 m a1) k
  obtain ⟨T1, X1, e1, st1⟩ := getF X0 hx hZ hown (host := "") (Or.inl (ww 75 rfl)) Via.refl e0 r1 (g := (mkF m 4 #[vR a1, vI 0, vI 1, .unset, .unset] [(.ref a1), (.int 2)])) rfl rfl (bb d25_4)
  obtain ⟨_, _, ⟨T2, L2, k2, n2⟩, -, X2, ⟨Lc2, hQ2, l2, y2, z2⟩, st2⟩ := Jvm.LawKit.callS X1 hx (y := (⟨"java/lang/Math", "min", "(II)I"⟩ : MethodName)) hown (mvT hZ (ww 188 rfl)) (mvT hZ (ww 189 rfl)) (mvT hZ (ww 178 rfl)) (mvT hZ (ww 190 rfl)) (by decide) (backOf (W := 0) (rm_minI l Z a0 hw [] wDE (2 : Int32) (4096 : Int32) h0 n0 (own_z0 O0) S_wDE O0 S_CS) hZ (ww 190 rfl) (ww 178 rfl) (by decide) (by decide)) (g := (mkF m 15 #[vR a1, vI 0, vI 1, vI 2, .unset] [(.int 4096), (.int 2)])) rfl (by rw [hml]; rfl) (argsL := [(.int 2), (.int 4096)]) (rest := []) (lenOf pd__II_I_5 rfl) rfl (by show 2 * 0 + _ ≤ _; exact Nat.le_of_eq rfl) (bb d25_15) (fun _ _ => ⟨rfl, e1, (by decide : 0 + 0 ≤ _), (by decide : 0 + 0 ≤ _)⟩)
  dsimp only [Pt.U, Pt.locs, Pt.cells, Pt.slots] at X2 l2 y2 z2 st2 hQ2
  subst l2 y2 z2
  obtain ⟨rfl, N2q, e2⟩ := hQ2
  have N2 := Fr.app N0 N2q
  obtain ⟨T3, X3, e3, st3⟩ := getF X2 hx hZ hown (host := "") (Or.inl (ww 75 rfl)) Via.refl e2 r1 (g := (mkF m 19 #[vR a1, vI 0, vI 1, vI 2, .unset] [(.ref a1), (.int (f_minI (2 : Int32) (4096 : Int32)))])) rfl rfl (bb d25_19)
  obtain ⟨T4, X4, e4, st4⟩ := getF X3 hx hZ hown (host := "") (Or.inl (ww 73 rfl)) Via.refl e3 r3 (g := (mkF m 26 #[vR a1, vI 0, vI 1, vI 2, vI ((f_minI (2 : Int32) (4096 : Int32)) * (1 : Int32))] [(.ref a1)])) rfl rfl (bb d25_26)
  obtain ⟨cl5, Ar5, vq5, vS5, vN5, vH5, vG5⟩ := id r5
  have hin5 : ¬ (((0 : Int32) : Int32) < 0 ∨ cl5.slots.size ≤ ((0 : Int32) : Int32).toNatClampNeg) := inb_of vS5 ⟨by decide, by decide⟩
  obtain ⟨T6, X6, e6, st6⟩ := getF X4 hx hZ hown (host := "") (Or.inl (ww 73 rfl)) Via.refl e4 r3 (g := (mkF m 36 #[vR a1, vI 0, vI 1, vI 2, vI ((f_minI (2 : Int32) (4096 : Int32)) * (1 : Int32))] [(.ref a1), (.int 2)])) rfl rfl (bb d25_36)
  obtain ⟨cl7, Ar7, vq7, vS7, vN7, vH7, vG7⟩ := id r5
  have hin7 : ¬ (((0 : Int32) : Int32) < 0 ∨ cl7.slots.size ≤ ((0 : Int32) : Int32).toNatClampNeg) := inb_of vS7 ⟨by decide, by decide⟩
  obtain ⟨cl8, Ar8, vq8, vS8, vN8, vH8, vG8⟩ := id r6
  obtain ⟨T9, X9, e9, st9⟩ := getF X6 hx hZ hown (host := "") (Or.inl (ww 69 rfl)) Via.refl e6 r2 (g := (mkF m 66 #[vR a1, vI 0, vI 1, vI 2, vI ((f_minI (2 : Int32) (4096 : Int32)) * (1 : Int32))] [(.ref a1)])) rfl rfl (bb d25_66)
  obtain ⟨cl10, Ar10, vq10, vS10, vN10, vH10, vG10⟩ := id r4
  have hin10 : ¬ (((0 : Int32) : Int32) < 0 ∨ cl10.slots.size ≤ ((0 : Int32) : Int32).toNatClampNeg) := inb_of vS10 ⟨by decide, by decide⟩
  obtain ⟨fs, hr, hrun, hended, hW, hsame⟩ := X9.leave (v := none) (fun _ => rfl)
  refine ⟨_, _, pre0 _ ?_, hrun, hended, _, _, rfl, ?_, ⟨_, rfl⟩, hW, hsame.mono (by decide) (by decide)⟩
  · show GG p e below s₁ (mkF m 0 #[vR a1, vI 0, vI 1, .unset, .unset] []) _
    refine XS.iloadN X0.here hx rfl (bb d25_0) rfl ?_
    refine XS.iconst X0.here hx rfl (bb d25_1) ?_
    refine XS.iadd X0.here hx rfl (bb d25_2) rfl ?_
    refine XS.aloadN X0.here hx rfl (bb d25_3) rfl rfl ?_
    refine st1 _ ?_
    refine XS.imul X1.here hx rfl (bb d25_7) rfl ?_
    refine XS.istoreN X1.here hx rfl (bb d25_8) rfl (l' := #[vR a1, vI 0, vI 1, vI 2, .unset]) rfl ?_
    refine XS.iconst X1.here hx rfl (bb d25_9) ?_
    refine XS.iloadN X1.here hx rfl (bb d25_10) rfl ?_
    refine XS.imul X1.here hx rfl (bb d25_11) rfl ?_
    refine XS.sipush X1.here hx rfl (bb d25_12) ?_
    refine st2 _ ?_
    refine XS.aloadN X2.here hx rfl (bb d25_18) rfl rfl ?_
    refine st3 _ ?_
    refine XS.imul X3.here hx rfl (bb d25_22) rfl ?_
    refine XS.istore X3.here hx rfl (bb d25_23) rfl (l' := #[vR a1, vI 0, vI 1, vI 2, vI ((f_minI (2 : Int32) (4096 : Int32)) * (1 : Int32))]) rfl ?_
    refine XS.aloadN X3.here hx rfl (bb d25_25) rfl rfl ?_
    refine st4 _ ?_
    refine XS.iloadN X4.here hx rfl (bb d25_29) rfl ?_
    refine X4.aaload hx (j := (0 : Int32)) (v := (.ref ov)) (by rw [e4]; exact Ar5.1) (State.isArrayOf_alike hZ.alike Ar5.2.1) rfl Ar5.2.2 hin5 (vH5.at hin5 rfl) (g := (mkF m 30 #[vR a1, vI 0, vI 1, vI 2, vI ((f_minI (2 : Int32) (4096 : Int32)) * (1 : Int32))] [(.int 0), (.ref on)])) rfl rfl (bb d25_30) _ ?_
    refine XS.ifnullNo X4.here hx rfl (bb d25_31) rfl ?_
    refine XS.iloadN X4.here hx rfl (bb d25_34) rfl ?_
    refine XS.aloadN X4.here hx rfl (bb d25_35) rfl rfl ?_
    refine st6 _ ?_
    refine XS.iloadN X6.here hx rfl (bb d25_39) rfl ?_
    refine X6.aaload hx (j := (0 : Int32)) (v := (.ref ov)) (by rw [e6]; exact Ar7.1) (State.isArrayOf_alike hZ.alike Ar7.2.1) rfl Ar7.2.2 hin7 (vH7.at hin7 rfl) (g := (mkF m 40 #[vR a1, vI 0, vI 1, vI 2, vI ((f_minI (2 : Int32) (4096 : Int32)) * (1 : Int32))] [(.int 0), (.ref on), (.int 2)])) rfl rfl (bb d25_40) _ ?_
    refine X6.arraylength hx (by rw [e6]; exact Ar8.1) (State.isArrayOf_alike hZ.alike Ar8.2.1) (g := (mkF m 41 #[vR a1, vI 0, vI 1, vI 2, vI ((f_minI (2 : Int32) (4096 : Int32)) * (1 : Int32))] [(.ref ov), (.int 2)])) rfl rfl (bb d25_41) _ ?_
    rw [len_of vS8 vN8]
    show GG p e below T6 (mkF m 42 #[vR a1, vI 0, vI 1, vI 2, vI ((f_minI (2 : Int32) (4096 : Int32)) * (1 : Int32))] [(.int 8), (.int 2)]) _
    refine XS.icmpYes X6.here hx rfl (pc0 := 42) (pc' := 65) rfl (bb d25_42) rfl (flt (by decide : ¬ ((8 : Int32) < (2 : Int32)))).2.2.2 (by decide) (by decide) ?_
    refine XS.aloadN X6.here hx rfl (bb d25_65) rfl rfl ?_
    refine st9 _ ?_
    refine XS.iloadN X9.here hx rfl (bb d25_69) rfl ?_
    refine X9.aaload hx (j := (0 : Int32)) (v := .null) (by rw [e9]; exact Ar10.1) (State.isArrayOf_alike hZ.alike Ar10.2.1) rfl Ar10.2.2 hin10 (vH10.at hin10 rfl) (g := (mkF m 70 #[vR a1, vI 0, vI 1, vI 2, vI ((f_minI (2 : Int32) (4096 : Int32)) * (1 : Int32))] [(.int 0), (.ref ow)])) rfl rfl (bb d25_70) _ ?_
    refine XS.ifnullYes X9.here hx rfl (pc0 := 71) (pc' := 102) rfl (bb d25_71) rfl (by decide) (by decide) ?_
    exact X9.returnOut hx Bd.returns (bb d25_102) hr
  · exact ⟨rfl, N2, e9⟩
set_option maxRecDepth 65536 in
set_option maxHeartbeats 40000000 in
theorem rm_room1N2 (l : Launch) (Z : State) (a0 : Array Value) (hw : ∀ d ∈ tables_1, d.before a0 Z = true) (ws : List Jvm.Cond) (wDE : Addr) (a1 ow on ob ol oh ov : Addr) (kw_ kn_ kb_ kl_ kh_ kv_ : ClassId) (eb0 el0 eu0 ev0_0 ev1_0 ex2 ex3 ex4 ex5 ex6 ex7 : Int32) (h0 : Heap) (n0 : Nat) (Z0 : n0 ≤ h0.size) (S_wDE : Sta Z Z.heap "java/util/ArrayList" "DEFAULTCAPACITY_EMPTY_ELEMENTDATA" "[Ljava/lang/Object;" (.ref wDE)) (O0 : Old Z n0 h0) (S_CS : Sta Z Z.heap cRV "CHUNK_SHIFT" "I" (.int (12 : Int32))) (r0 : Exa Z h0 a1 cRV) (r1 : Fld Z h0 a1 cRV "arity" "I" (.int 1)) (r2 : Fld Z h0 a1 cRV "wide" "[[I" (.ref ow)) (r3 : Fld Z h0 a1 cRV "narrow" "[[C" (.ref on)) (r4 : Arv Z h0 ow kw_ (.array .int) (1 : Int32) [.null] .null) (r5 : Arv Z h0 on kn_ (.array .char) (1 : Int32) [(.ref ov)] .null) (r6 : Arv Z h0 ov kv_ .char (8 : Int32) [(.int (nar .char (ev0_0 - eb0))), (.int (nar .char (ev1_0 - eb0))), (.int ex2), (.int ex3), (.int ex4), (.int ex5), (.int ex6), (.int ex7)] (.int 0)) :
    MetFree l (⟨cRV, "makeRoom", "(II)V"⟩ : MethodName) (head1 (Jvm.Cond.code (⟨cRV, "makeRoom", "(II)V"⟩ : MethodName) prog_48_method_6_code 5 none :: ws) ({ frames := 1, cells := 0, slots := 0, locals := 13 } : Room)) (fun a U => a = #[(.ref a1), (.int 0), (.int 2)] ∧ Z.Warmed39 U.vm ∧ U.heap = h0) (fun _ _ _ _ _ => True) (fun _ U o U' => ∃ v L, o = .returned v ∧ PureQ (none) h0 n0 v U'.heap L ∧ FrameEnd U o U' L ({ frames := 1, cells := 0, slots := 0, locals := 13 } : Room).cells ({ frames := 1, cells := 0, slots := 0, locals := 13 } : Room).slots) := by
  refine MetFree.of_bodySF (plainFor_of_name pn_RowValues) hisR ?_
  intro p e s m args below meth c s₁ Bd hml0 hP hK
  obtain ⟨rfl, hZ, hh⟩ := hP
  have hx := Bd.exec
  have hby := Bd.bytes
  have bb := fun {pc : Nat} {r : Except DecodeError (Instr × Nat)} (h : decode prog_48_method_6_code pc = r) => hb hby h
  have ww := fun (i : Nat) {d : Jvm.Cond} (h : tables_1[i]? = some d) => hw d (List.mem_of_getElem? h)
  have hml : c.maxLocals = 5 := hml0
  have hown : s.vm.findClass cRV = some m.cls := findClass_of_methodNamed Bd.named
  have hnm := (name_of_methodNamed Bd.named Bd.method).1
  have X0 : Stand p l e ({ frames := 1, cells := 0, slots := 0, locals := 13 } : Room) s m #[(.ref a1), (.int 0), (.int 2)] below meth c s₁ [] 0 0 := Stand.of_body Bd
  have e0 : s₁.heap = h0 := by rw [← hh, Bd.state]; rfl
  have N0 := Fr.nil n0
  have pre0 : ∀ t, Steps p.tables e below (s₁.setTop (mkF m 0 #[vR a1, vI 0, vI 2, .unset, .unset] [])) t → Steps p.tables e below (s₁.setTop (entryFrame m #[(.ref a1), (.int 0), (.int 2)] 5)) t := fun t k => castTop (ef_room1N2 m a1) k
  obtain ⟨T1, X1, e1, st1⟩ := getF X0 hx hZ hown (host := "") (Or.inl (ww 75 rfl)) Via.refl e0 r1 (g := (mkF m 4 #[vR a1, vI 0, vI 2, .unset, .unset] [(.ref a1), (.int 3)])) rfl rfl (bb d25_4)
  obtain ⟨_, _, ⟨T2, L2, k2, n2⟩, -, X2, ⟨Lc2, hQ2, l2, y2, z2⟩, st2⟩ := Jvm.LawKit.callS X1 hx (y := (⟨"java/lang/Math", "min", "(II)I"⟩ : MethodName)) hown (mvT hZ (ww 188 rfl)) (mvT hZ (ww 189 rfl)) (mvT hZ (ww 178 rfl)) (mvT hZ (ww 190 rfl)) (by decide) (backOf (W := 0) (rm_minI l Z a0 hw [] wDE (4 : Int32) (4096 : Int32) h0 n0 (own_z0 O0) S_wDE O0 S_CS) hZ (ww 190 rfl) (ww 178 rfl) (by decide) (by decide)) (g := (mkF m 15 #[vR a1, vI 0, vI 2, vI 3, .unset] [(.int 4096), (.int 4)])) rfl (by rw [hml]; rfl) (argsL := [(.int 4), (.int 4096)]) (rest := []) (lenOf pd__II_I_5 rfl) rfl (by show 2 * 0 + _ ≤ _; exact Nat.le_of_eq rfl) (bb d25_15) (fun _ _ => ⟨rfl, e1, (by decide : 0 + 0 ≤ _), (by decide : 0 + 0 ≤ _)⟩)
  dsimp only [Pt.U, Pt.locs, Pt.cells, Pt.slots] at X2 l2 y2 z2 st2 hQ2
  subst l2 y2 z2
  obtain ⟨rfl, N2q, e2⟩ := hQ2
  have N2 := Fr.app N0 N2q
  obtain ⟨T3, X3, e3, st3⟩ := getF X2 hx hZ hown (host := "") (Or.inl (ww 75 rfl)) Via.refl e2 r1 (g := (mkF m 19 #[vR a1, vI 0, vI 2, vI 3, .unset] [(.ref a1), (.int (f_minI (4 : Int32) (4096 : Int32)))])) rfl rfl (bb d25_19)
  obtain ⟨T4, X4, e4, st4⟩ := getF X3 hx hZ hown (host := "") (Or.inl (ww 73 rfl)) Via.refl e3 r3 (g := (mkF m 26 #[vR a1, vI 0, vI 2, vI 3, vI ((f_minI (4 : Int32) (4096 : Int32)) * (1 : Int32))] [(.ref a1)])) rfl rfl (bb d25_26)
  obtain ⟨cl5, Ar5, vq5, vS5, vN5, vH5, vG5⟩ := id r5
  have hin5 : ¬ (((0 : Int32) : Int32) < 0 ∨ cl5.slots.size ≤ ((0 : Int32) : Int32).toNatClampNeg) := inb_of vS5 ⟨by decide, by decide⟩
  obtain ⟨T6, X6, e6, st6⟩ := getF X4 hx hZ hown (host := "") (Or.inl (ww 73 rfl)) Via.refl e4 r3 (g := (mkF m 36 #[vR a1, vI 0, vI 2, vI 3, vI ((f_minI (4 : Int32) (4096 : Int32)) * (1 : Int32))] [(.ref a1), (.int 3)])) rfl rfl (bb d25_36)
  obtain ⟨cl7, Ar7, vq7, vS7, vN7, vH7, vG7⟩ := id r5
  have hin7 : ¬ (((0 : Int32) : Int32) < 0 ∨ cl7.slots.size ≤ ((0 : Int32) : Int32).toNatClampNeg) := inb_of vS7 ⟨by decide, by decide⟩
  obtain ⟨cl8, Ar8, vq8, vS8, vN8, vH8, vG8⟩ := id r6
  obtain ⟨T9, X9, e9, st9⟩ := getF X6 hx hZ hown (host := "") (Or.inl (ww 69 rfl)) Via.refl e6 r2 (g := (mkF m 66 #[vR a1, vI 0, vI 2, vI 3, vI ((f_minI (4 : Int32) (4096 : Int32)) * (1 : Int32))] [(.ref a1)])) rfl rfl (bb d25_66)
  obtain ⟨cl10, Ar10, vq10, vS10, vN10, vH10, vG10⟩ := id r4
  have hin10 : ¬ (((0 : Int32) : Int32) < 0 ∨ cl10.slots.size ≤ ((0 : Int32) : Int32).toNatClampNeg) := inb_of vS10 ⟨by decide, by decide⟩
  obtain ⟨fs, hr, hrun, hended, hW, hsame⟩ := X9.leave (v := none) (fun _ => rfl)
  refine ⟨_, _, pre0 _ ?_, hrun, hended, _, _, rfl, ?_, ⟨_, rfl⟩, hW, hsame.mono (by decide) (by decide)⟩
  · show GG p e below s₁ (mkF m 0 #[vR a1, vI 0, vI 2, .unset, .unset] []) _
    refine XS.iloadN X0.here hx rfl (bb d25_0) rfl ?_
    refine XS.iconst X0.here hx rfl (bb d25_1) ?_
    refine XS.iadd X0.here hx rfl (bb d25_2) rfl ?_
    refine XS.aloadN X0.here hx rfl (bb d25_3) rfl rfl ?_
    refine st1 _ ?_
    refine XS.imul X1.here hx rfl (bb d25_7) rfl ?_
    refine XS.istoreN X1.here hx rfl (bb d25_8) rfl (l' := #[vR a1, vI 0, vI 2, vI 3, .unset]) rfl ?_
    refine XS.iconst X1.here hx rfl (bb d25_9) ?_
    refine XS.iloadN X1.here hx rfl (bb d25_10) rfl ?_
    refine XS.imul X1.here hx rfl (bb d25_11) rfl ?_
    refine XS.sipush X1.here hx rfl (bb d25_12) ?_
    refine st2 _ ?_
    refine XS.aloadN X2.here hx rfl (bb d25_18) rfl rfl ?_
    refine st3 _ ?_
    refine XS.imul X3.here hx rfl (bb d25_22) rfl ?_
    refine XS.istore X3.here hx rfl (bb d25_23) rfl (l' := #[vR a1, vI 0, vI 2, vI 3, vI ((f_minI (4 : Int32) (4096 : Int32)) * (1 : Int32))]) rfl ?_
    refine XS.aloadN X3.here hx rfl (bb d25_25) rfl rfl ?_
    refine st4 _ ?_
    refine XS.iloadN X4.here hx rfl (bb d25_29) rfl ?_
    refine X4.aaload hx (j := (0 : Int32)) (v := (.ref ov)) (by rw [e4]; exact Ar5.1) (State.isArrayOf_alike hZ.alike Ar5.2.1) rfl Ar5.2.2 hin5 (vH5.at hin5 rfl) (g := (mkF m 30 #[vR a1, vI 0, vI 2, vI 3, vI ((f_minI (4 : Int32) (4096 : Int32)) * (1 : Int32))] [(.int 0), (.ref on)])) rfl rfl (bb d25_30) _ ?_
    refine XS.ifnullNo X4.here hx rfl (bb d25_31) rfl ?_
    refine XS.iloadN X4.here hx rfl (bb d25_34) rfl ?_
    refine XS.aloadN X4.here hx rfl (bb d25_35) rfl rfl ?_
    refine st6 _ ?_
    refine XS.iloadN X6.here hx rfl (bb d25_39) rfl ?_
    refine X6.aaload hx (j := (0 : Int32)) (v := (.ref ov)) (by rw [e6]; exact Ar7.1) (State.isArrayOf_alike hZ.alike Ar7.2.1) rfl Ar7.2.2 hin7 (vH7.at hin7 rfl) (g := (mkF m 40 #[vR a1, vI 0, vI 2, vI 3, vI ((f_minI (4 : Int32) (4096 : Int32)) * (1 : Int32))] [(.int 0), (.ref on), (.int 3)])) rfl rfl (bb d25_40) _ ?_
    refine X6.arraylength hx (by rw [e6]; exact Ar8.1) (State.isArrayOf_alike hZ.alike Ar8.2.1) (g := (mkF m 41 #[vR a1, vI 0, vI 2, vI 3, vI ((f_minI (4 : Int32) (4096 : Int32)) * (1 : Int32))] [(.ref ov), (.int 3)])) rfl rfl (bb d25_41) _ ?_
    rw [len_of vS8 vN8]
    show GG p e below T6 (mkF m 42 #[vR a1, vI 0, vI 2, vI 3, vI ((f_minI (4 : Int32) (4096 : Int32)) * (1 : Int32))] [(.int 8), (.int 3)]) _
    refine XS.icmpYes X6.here hx rfl (pc0 := 42) (pc' := 65) rfl (bb d25_42) rfl (flt (by decide : ¬ ((8 : Int32) < (3 : Int32)))).2.2.2 (by decide) (by decide) ?_
    refine XS.aloadN X6.here hx rfl (bb d25_65) rfl rfl ?_
    refine st9 _ ?_
    refine XS.iloadN X9.here hx rfl (bb d25_69) rfl ?_
    refine X9.aaload hx (j := (0 : Int32)) (v := .null) (by rw [e9]; exact Ar10.1) (State.isArrayOf_alike hZ.alike Ar10.2.1) rfl Ar10.2.2 hin10 (vH10.at hin10 rfl) (g := (mkF m 70 #[vR a1, vI 0, vI 2, vI 3, vI ((f_minI (4 : Int32) (4096 : Int32)) * (1 : Int32))] [(.int 0), (.ref ow)])) rfl rfl (bb d25_70) _ ?_
    refine XS.ifnullYes X9.here hx rfl (pc0 := 71) (pc' := 102) rfl (bb d25_71) rfl (by decide) (by decide) ?_
    exact X9.returnOut hx Bd.returns (bb d25_102) hr
  · exact ⟨rfl, N2, e9⟩
set_option maxRecDepth 65536 in
set_option maxHeartbeats 40000000 in
theorem rm_room1W2 (l : Launch) (Z : State) (a0 : Array Value) (hw : ∀ d ∈ tables_1, d.before a0 Z = true) (ws : List Jvm.Cond) (wDE : Addr) (a1 ow on ob ol oh oz : Addr) (kw_ kn_ kb_ kl_ kh_ kz_ : ClassId) (eb0 el0 eu0 ev0_0 ev1_0 ex2 ex3 ex4 ex5 ex6 ex7 : Int32) (h0 : Heap) (n0 : Nat) (Z0 : n0 ≤ h0.size) (S_wDE : Sta Z Z.heap "java/util/ArrayList" "DEFAULTCAPACITY_EMPTY_ELEMENTDATA" "[Ljava/lang/Object;" (.ref wDE)) (O0 : Old Z n0 h0) (S_CS : Sta Z Z.heap cRV "CHUNK_SHIFT" "I" (.int (12 : Int32))) (r0 : Exa Z h0 a1 cRV) (r1 : Fld Z h0 a1 cRV "arity" "I" (.int 1)) (r2 : Fld Z h0 a1 cRV "wide" "[[I" (.ref ow)) (r3 : Fld Z h0 a1 cRV "narrow" "[[C" (.ref on)) (r4 : Arv Z h0 ow kw_ (.array .int) (1 : Int32) [(.ref oz)] .null) (r5 : Arv Z h0 on kn_ (.array .char) (1 : Int32) [.null] .null) (r6 : Arv Z h0 oz kz_ .int (8 : Int32) [(.int ev0_0), (.int ev1_0), (.int ex2), (.int ex3), (.int ex4), (.int ex5), (.int ex6), (.int ex7)] (.int 0)) :
    MetFree l (⟨cRV, "makeRoom", "(II)V"⟩ : MethodName) (head1 (Jvm.Cond.code (⟨cRV, "makeRoom", "(II)V"⟩ : MethodName) prog_48_method_6_code 5 none :: ws) ({ frames := 1, cells := 0, slots := 0, locals := 13 } : Room)) (fun a U => a = #[(.ref a1), (.int 0), (.int 2)] ∧ Z.Warmed39 U.vm ∧ U.heap = h0) (fun _ _ _ _ _ => True) (fun _ U o U' => ∃ v L, o = .returned v ∧ PureQ (none) h0 n0 v U'.heap L ∧ FrameEnd U o U' L ({ frames := 1, cells := 0, slots := 0, locals := 13 } : Room).cells ({ frames := 1, cells := 0, slots := 0, locals := 13 } : Room).slots) := by
  refine MetFree.of_bodySF (plainFor_of_name pn_RowValues) hisR ?_
  intro p e s m args below meth c s₁ Bd hml0 hP hK
  obtain ⟨rfl, hZ, hh⟩ := hP
  have hx := Bd.exec
  have hby := Bd.bytes
  have bb := fun {pc : Nat} {r : Except DecodeError (Instr × Nat)} (h : decode prog_48_method_6_code pc = r) => hb hby h
  have ww := fun (i : Nat) {d : Jvm.Cond} (h : tables_1[i]? = some d) => hw d (List.mem_of_getElem? h)
  have hml : c.maxLocals = 5 := hml0
  have hown : s.vm.findClass cRV = some m.cls := findClass_of_methodNamed Bd.named
  have hnm := (name_of_methodNamed Bd.named Bd.method).1
  have X0 : Stand p l e ({ frames := 1, cells := 0, slots := 0, locals := 13 } : Room) s m #[(.ref a1), (.int 0), (.int 2)] below meth c s₁ [] 0 0 := Stand.of_body Bd
  have e0 : s₁.heap = h0 := by rw [← hh, Bd.state]; rfl
  have N0 := Fr.nil n0
  have pre0 : ∀ t, Steps p.tables e below (s₁.setTop (mkF m 0 #[vR a1, vI 0, vI 2, .unset, .unset] [])) t → Steps p.tables e below (s₁.setTop (entryFrame m #[(.ref a1), (.int 0), (.int 2)] 5)) t := fun t k => castTop (ef_room1W2 m a1) k
  obtain ⟨T1, X1, e1, st1⟩ := getF X0 hx hZ hown (host := "") (Or.inl (ww 75 rfl)) Via.refl e0 r1 (g := (mkF m 4 #[vR a1, vI 0, vI 2, .unset, .unset] [(.ref a1), (.int 3)])) rfl rfl (bb d25_4)
  obtain ⟨_, _, ⟨T2, L2, k2, n2⟩, -, X2, ⟨Lc2, hQ2, l2, y2, z2⟩, st2⟩ := Jvm.LawKit.callS X1 hx (y := (⟨"java/lang/Math", "min", "(II)I"⟩ : MethodName)) hown (mvT hZ (ww 188 rfl)) (mvT hZ (ww 189 rfl)) (mvT hZ (ww 178 rfl)) (mvT hZ (ww 190 rfl)) (by decide) (backOf (W := 0) (rm_minI l Z a0 hw [] wDE (4 : Int32) (4096 : Int32) h0 n0 (own_z0 O0) S_wDE O0 S_CS) hZ (ww 190 rfl) (ww 178 rfl) (by decide) (by decide)) (g := (mkF m 15 #[vR a1, vI 0, vI 2, vI 3, .unset] [(.int 4096), (.int 4)])) rfl (by rw [hml]; rfl) (argsL := [(.int 4), (.int 4096)]) (rest := []) (lenOf pd__II_I_5 rfl) rfl (by show 2 * 0 + _ ≤ _; exact Nat.le_of_eq rfl) (bb d25_15) (fun _ _ => ⟨rfl, e1, (by decide : 0 + 0 ≤ _), (by decide : 0 + 0 ≤ _)⟩)
  dsimp only [Pt.U, Pt.locs, Pt.cells, Pt.slots] at X2 l2 y2 z2 st2 hQ2
  subst l2 y2 z2
  obtain ⟨rfl, N2q, e2⟩ := hQ2
  have N2 := Fr.app N0 N2q
  obtain ⟨T3, X3, e3, st3⟩ := getF X2 hx hZ hown (host := "") (Or.inl (ww 75 rfl)) Via.refl e2 r1 (g := (mkF m 19 #[vR a1, vI 0, vI 2, vI 3, .unset] [(.ref a1), (.int (f_minI (4 : Int32) (4096 : Int32)))])) rfl rfl (bb d25_19)
  obtain ⟨T4, X4, e4, st4⟩ := getF X3 hx hZ hown (host := "") (Or.inl (ww 73 rfl)) Via.refl e3 r3 (g := (mkF m 26 #[vR a1, vI 0, vI 2, vI 3, vI ((f_minI (4 : Int32) (4096 : Int32)) * (1 : Int32))] [(.ref a1)])) rfl rfl (bb d25_26)
  obtain ⟨cl5, Ar5, vq5, vS5, vN5, vH5, vG5⟩ := id r5
  have hin5 : ¬ (((0 : Int32) : Int32) < 0 ∨ cl5.slots.size ≤ ((0 : Int32) : Int32).toNatClampNeg) := inb_of vS5 ⟨by decide, by decide⟩
  obtain ⟨T6, X6, e6, st6⟩ := getF X4 hx hZ hown (host := "") (Or.inl (ww 69 rfl)) Via.refl e4 r2 (g := (mkF m 66 #[vR a1, vI 0, vI 2, vI 3, vI ((f_minI (4 : Int32) (4096 : Int32)) * (1 : Int32))] [(.ref a1)])) rfl rfl (bb d25_66)
  obtain ⟨cl7, Ar7, vq7, vS7, vN7, vH7, vG7⟩ := id r4
  have hin7 : ¬ (((0 : Int32) : Int32) < 0 ∨ cl7.slots.size ≤ ((0 : Int32) : Int32).toNatClampNeg) := inb_of vS7 ⟨by decide, by decide⟩
  obtain ⟨T8, X8, e8, st8⟩ := getF X6 hx hZ hown (host := "") (Or.inl (ww 69 rfl)) Via.refl e6 r2 (g := (mkF m 76 #[vR a1, vI 0, vI 2, vI 3, vI ((f_minI (4 : Int32) (4096 : Int32)) * (1 : Int32))] [(.ref a1), (.int 3)])) rfl rfl (bb d25_76)
  obtain ⟨cl9, Ar9, vq9, vS9, vN9, vH9, vG9⟩ := id r4
  have hin9 : ¬ (((0 : Int32) : Int32) < 0 ∨ cl9.slots.size ≤ ((0 : Int32) : Int32).toNatClampNeg) := inb_of vS9 ⟨by decide, by decide⟩
  obtain ⟨cl10, Ar10, vq10, vS10, vN10, vH10, vG10⟩ := id r6
  obtain ⟨fs, hr, hrun, hended, hW, hsame⟩ := X8.leave (v := none) (fun _ => rfl)
  refine ⟨_, _, pre0 _ ?_, hrun, hended, _, _, rfl, ?_, ⟨_, rfl⟩, hW, hsame.mono (by decide) (by decide)⟩
  · show GG p e below s₁ (mkF m 0 #[vR a1, vI 0, vI 2, .unset, .unset] []) _
    refine XS.iloadN X0.here hx rfl (bb d25_0) rfl ?_
    refine XS.iconst X0.here hx rfl (bb d25_1) ?_
    refine XS.iadd X0.here hx rfl (bb d25_2) rfl ?_
    refine XS.aloadN X0.here hx rfl (bb d25_3) rfl rfl ?_
    refine st1 _ ?_
    refine XS.imul X1.here hx rfl (bb d25_7) rfl ?_
    refine XS.istoreN X1.here hx rfl (bb d25_8) rfl (l' := #[vR a1, vI 0, vI 2, vI 3, .unset]) rfl ?_
    refine XS.iconst X1.here hx rfl (bb d25_9) ?_
    refine XS.iloadN X1.here hx rfl (bb d25_10) rfl ?_
    refine XS.imul X1.here hx rfl (bb d25_11) rfl ?_
    refine XS.sipush X1.here hx rfl (bb d25_12) ?_
    refine st2 _ ?_
    refine XS.aloadN X2.here hx rfl (bb d25_18) rfl rfl ?_
    refine st3 _ ?_
    refine XS.imul X3.here hx rfl (bb d25_22) rfl ?_
    refine XS.istore X3.here hx rfl (bb d25_23) rfl (l' := #[vR a1, vI 0, vI 2, vI 3, vI ((f_minI (4 : Int32) (4096 : Int32)) * (1 : Int32))]) rfl ?_
    refine XS.aloadN X3.here hx rfl (bb d25_25) rfl rfl ?_
    refine st4 _ ?_
    refine XS.iloadN X4.here hx rfl (bb d25_29) rfl ?_
    refine X4.aaload hx (j := (0 : Int32)) (v := .null) (by rw [e4]; exact Ar5.1) (State.isArrayOf_alike hZ.alike Ar5.2.1) rfl Ar5.2.2 hin5 (vH5.at hin5 rfl) (g := (mkF m 30 #[vR a1, vI 0, vI 2, vI 3, vI ((f_minI (4 : Int32) (4096 : Int32)) * (1 : Int32))] [(.int 0), (.ref on)])) rfl rfl (bb d25_30) _ ?_
    refine XS.ifnullYes X4.here hx rfl (pc0 := 31) (pc' := 65) rfl (bb d25_31) rfl (by decide) (by decide) ?_
    refine XS.aloadN X4.here hx rfl (bb d25_65) rfl rfl ?_
    refine st6 _ ?_
    refine XS.iloadN X6.here hx rfl (bb d25_69) rfl ?_
    refine X6.aaload hx (j := (0 : Int32)) (v := (.ref oz)) (by rw [e6]; exact Ar7.1) (State.isArrayOf_alike hZ.alike Ar7.2.1) rfl Ar7.2.2 hin7 (vH7.at hin7 rfl) (g := (mkF m 70 #[vR a1, vI 0, vI 2, vI 3, vI ((f_minI (4 : Int32) (4096 : Int32)) * (1 : Int32))] [(.int 0), (.ref ow)])) rfl rfl (bb d25_70) _ ?_
    refine XS.ifnullNo X6.here hx rfl (bb d25_71) rfl ?_
    refine XS.iloadN X6.here hx rfl (bb d25_74) rfl ?_
    refine XS.aloadN X6.here hx rfl (bb d25_75) rfl rfl ?_
    refine st8 _ ?_
    refine XS.iloadN X8.here hx rfl (bb d25_79) rfl ?_
    refine X8.aaload hx (j := (0 : Int32)) (v := (.ref oz)) (by rw [e8]; exact Ar9.1) (State.isArrayOf_alike hZ.alike Ar9.2.1) rfl Ar9.2.2 hin9 (vH9.at hin9 rfl) (g := (mkF m 80 #[vR a1, vI 0, vI 2, vI 3, vI ((f_minI (4 : Int32) (4096 : Int32)) * (1 : Int32))] [(.int 0), (.ref ow), (.int 3)])) rfl rfl (bb d25_80) _ ?_
    refine X8.arraylength hx (by rw [e8]; exact Ar10.1) (State.isArrayOf_alike hZ.alike Ar10.2.1) (g := (mkF m 81 #[vR a1, vI 0, vI 2, vI 3, vI ((f_minI (4 : Int32) (4096 : Int32)) * (1 : Int32))] [(.ref oz), (.int 3)])) rfl rfl (bb d25_81) _ ?_
    rw [len_of vS10 vN10]
    show GG p e below T8 (mkF m 82 #[vR a1, vI 0, vI 2, vI 3, vI ((f_minI (4 : Int32) (4096 : Int32)) * (1 : Int32))] [(.int 8), (.int 3)]) _
    refine XS.icmpYes X8.here hx rfl (pc0 := 82) (pc' := 102) rfl (bb d25_82) rfl (flt (by decide : ¬ ((8 : Int32) < (3 : Int32)))).2.2.2 (by decide) (by decide) ?_
    exact X8.returnOut hx Bd.returns (bb d25_102) hr
  · exact ⟨rfl, N2, e8⟩
def Q_fit1_0 (Z : State) (wDE a1 at_ ow on ob ol oh ov : Addr) (kw_ kn_ kb_ kl_ kh_ kv_ : ClassId) (eb0 el0 eu0 ex0 ex1 ex2 ex3 ex4 ex5 ex6 ex7 : Int32) (kt_ : ClassId) (et0 : Int32) (h0 : Heap) (n0 : Nat) (v : Option Value) (h : Heap) (L : List Loc) : Prop := v = none ∧ Fr n0 L ∧ Keep h0 h [ol, oh] ∧ Arv Z h ol kl_ .int (1 : Int32) [(.int et0)] (.int 0) ∧ Arv Z h oh kh_ .int (1 : Int32) [(.int et0)] (.int 0)
set_option maxRecDepth 65536 in
set_option maxHeartbeats 40000000 in
theorem rm_fit1_0 (l : Launch) (Z : State) (a0 : Array Value) (hw : ∀ d ∈ tables_1, d.before a0 Z = true) (ws : List Jvm.Cond) (wDE : Addr) (a1 at_ ow on ob ol oh ov : Addr) (kw_ kn_ kb_ kl_ kh_ kv_ : ClassId) (eb0 el0 eu0 ex0 ex1 ex2 ex3 ex4 ex5 ex6 ex7 : Int32) (kt_ : ClassId) (et0 : Int32) (h0 : Heap) (n0 : Nat) (Z0 : n0 ≤ h0.size) (S_wDE : Sta Z Z.heap "java/util/ArrayList" "DEFAULTCAPACITY_EMPTY_ELEMENTDATA" "[Ljava/lang/Object;" (.ref wDE)) (O0 : Old Z n0 h0) (S_CS : Sta Z Z.heap cRV "CHUNK_SHIFT" "I" (.int (12 : Int32))) (r0 : Exa Z h0 a1 cRV) (r1 : Fld Z h0 a1 cRV "arity" "I" (.int 1)) (r2 : Fld Z h0 a1 cRV "rows" "I" (.int 0)) (r3 : Fld Z h0 a1 cRV "wide" "[[I" (.ref ow)) (r4 : Fld Z h0 a1 cRV "narrow" "[[C" (.ref on)) (r5 : Fld Z h0 a1 cRV "bases" "[I" (.ref ob)) (r6 : Fld Z h0 a1 cRV "lowest" "[I" (.ref ol)) (r7 : Fld Z h0 a1 cRV "highest" "[I" (.ref oh)) (r8 : Arv Z h0 ow kw_ (.array .int) (1 : Int32) [.null] .null) (r9 : OvrA Z kw_ .int "[I") (r10 : Arv Z h0 on kn_ (.array .char) (1 : Int32) [(.ref ov)] .null) (r11 : OvrA Z kn_ .char "[C") (r12 : Arv Z h0 ob kb_ .int (1 : Int32) [(.int (f_base et0 et0))] (.int 0)) (r13 : Arv Z h0 ol kl_ .int (1 : Int32) [(.int et0)] (.int 0)) (r14 : Arv Z h0 oh kh_ .int (1 : Int32) [(.int et0)] (.int 0)) (r15 : Arv Z h0 ov kv_ .char (8 : Int32) [(.int ex0), (.int ex1), (.int ex2), (.int ex3), (.int ex4), (.int ex5), (.int ex6), (.int ex7)] (.int 0)) (r16 : Arv Z h0 at_ kt_ .int (1 : Int32) [(.int et0)] (.int 0)) (g_ol : n0 ≤ ol) (g_oh : n0 ≤ oh) (ne_a1_ow : a1 ≠ ow) (ne_a1_on : a1 ≠ on) (ne_a1_ob : a1 ≠ ob) (ne_a1_ol : a1 ≠ ol) (ne_a1_oh : a1 ≠ oh) (ne_a1_ov : a1 ≠ ov) (ne_ow_on : ow ≠ on) (ne_ow_ob : ow ≠ ob) (ne_ow_ol : ow ≠ ol) (ne_ow_oh : ow ≠ oh) (ne_ow_ov : ow ≠ ov) (ne_on_ob : on ≠ ob) (ne_on_ol : on ≠ ol) (ne_on_oh : on ≠ oh) (ne_on_ov : on ≠ ov) (ne_ob_ol : ob ≠ ol) (ne_ob_oh : ob ≠ oh) (ne_ob_ov : ob ≠ ov) (ne_ol_oh : ol ≠ oh) (ne_ol_ov : ol ≠ ov) (ne_oh_ov : oh ≠ ov) (ne_at__a1 : at_ ≠ a1) (ne_at__ow : at_ ≠ ow) (ne_at__on : at_ ≠ on) (ne_at__ob : at_ ≠ ob) (ne_at__ol : at_ ≠ ol) (ne_at__oh : at_ ≠ oh) (ne_at__ov : at_ ≠ ov) :
    MetFree l (⟨cRV, "fit", "(II[I)V"⟩ : MethodName) (head1 (Jvm.Cond.code (⟨cRV, "fit", "(II[I)V"⟩ : MethodName) prog_48_method_7_code 11 none :: ws) ({ frames := 1, cells := 0, slots := 0, locals := 15 } : Room)) (fun a U => a = #[(.ref a1), (.int 0), (.int 0), (.ref at_)] ∧ Z.Warmed39 U.vm ∧ U.heap = h0) (fun _ _ _ _ _ => True) (fun _ U o U' => ∃ v L, o = .returned v ∧ Q_fit1_0 Z wDE a1 at_ ow on ob ol oh ov kw_ kn_ kb_ kl_ kh_ kv_ eb0 el0 eu0 ex0 ex1 ex2 ex3 ex4 ex5 ex6 ex7 kt_ et0 h0 n0 v U'.heap L ∧ FrameEnd U o U' L ({ frames := 1, cells := 0, slots := 0, locals := 15 } : Room).cells ({ frames := 1, cells := 0, slots := 0, locals := 15 } : Room).slots) := by
  refine MetFree.of_bodySF (plainFor_of_name pn_RowValues) hisR ?_
  intro p e s m args below meth c s₁ Bd hml0 hP hK
  obtain ⟨rfl, hZ, hh⟩ := hP
  have hx := Bd.exec
  have hby := Bd.bytes
  have bb := fun {pc : Nat} {r : Except DecodeError (Instr × Nat)} (h : decode prog_48_method_7_code pc = r) => hb hby h
  have ww := fun (i : Nat) {d : Jvm.Cond} (h : tables_1[i]? = some d) => hw d (List.mem_of_getElem? h)
  have hml : c.maxLocals = 11 := hml0
  have hown : s.vm.findClass cRV = some m.cls := findClass_of_methodNamed Bd.named
  have hnm := (name_of_methodNamed Bd.named Bd.method).1
  have X0 : Stand p l e ({ frames := 1, cells := 0, slots := 0, locals := 15 } : Room) s m #[(.ref a1), (.int 0), (.int 0), (.ref at_)] below meth c s₁ [] 0 0 := Stand.of_body Bd
  have e0 : s₁.heap = h0 := by rw [← hh, Bd.state]; rfl
  have N0 := Fr.nil n0
  have pre0 : ∀ t, Steps p.tables e below (s₁.setTop (mkF m 0 #[vR a1, vI 0, vI 0, vR at_, .unset, .unset, .unset, .unset, .unset, .unset, .unset] [])) t → Steps p.tables e below (s₁.setTop (entryFrame m #[(.ref a1), (.int 0), (.int 0), (.ref at_)] 11)) t := fun t k => castTop (ef_fit1_0 m a1 at_) k
  obtain ⟨T1, X1, e1, st1⟩ := getF X0 hx hZ hown (host := "") (Or.inl (ww 75 rfl)) Via.refl e0 r1 (g := (mkF m 6 #[vR a1, vI 0, vI 0, vR at_, vI 0, .unset, .unset, .unset, .unset, .unset, .unset] [(.ref a1), (.int 0)])) rfl rfl (bb d27_6)
  obtain ⟨cl2, Ar2, vq2, vS2, vN2, vH2, vG2⟩ := id r16
  have hin2 : ¬ (((0 : Int32) : Int32) < 0 ∨ cl2.slots.size ≤ ((0 : Int32) : Int32).toNatClampNeg) := inb_of vS2 ⟨by decide, by decide⟩
  obtain ⟨T3, X3, e3, st3⟩ := getF X1 hx hZ hown (host := "") (Or.inl (ww 81 rfl)) Via.refl e1 r7 (g := (mkF m 17 #[vR a1, vI 0, vI 0, vR at_, vI 0, .unset, .unset, .unset, .unset, .unset, .unset] [(.ref a1), (.int et0)])) rfl rfl (bb d27_17)
  obtain ⟨cl4, Ar4, vq4, vS4, vN4, vH4, vG4⟩ := id r14
  have hin4 : ¬ (((0 : Int32) : Int32) < 0 ∨ cl4.slots.size ≤ ((0 : Int32) : Int32).toNatClampNeg) := inb_of vS4 ⟨by decide, by decide⟩
  obtain ⟨_, _, ⟨T5, L5, k5, n5⟩, -, X5, ⟨Lc5, hQ5, l5, y5, z5⟩, st5⟩ := Jvm.LawKit.callS X3 hx (y := (⟨"java/lang/Math", "max", "(II)I"⟩ : MethodName)) hown (mvT hZ (ww 195 rfl)) (mvT hZ (ww 196 rfl)) (mvT hZ (ww 178 rfl)) (mvT hZ (ww 197 rfl)) (by decide) (backOf (W := 0) (rm_maxI l Z a0 hw [] wDE et0 et0 h0 n0 (own_z0 O0) S_wDE O0 S_CS) hZ (ww 197 rfl) (ww 178 rfl) (by decide) (by decide)) (g := (mkF m 23 #[vR a1, vI 0, vI 0, vR at_, vI 0, .unset, .unset, .unset, .unset, .unset, .unset] [(.int et0), (.int et0)])) rfl (by rw [hml]; rfl) (argsL := [(.int et0), (.int et0)]) (rest := []) (lenOf pd__II_I_5 rfl) rfl (by show 2 * 0 + _ ≤ _; exact Nat.le_of_eq rfl) (bb d27_23) (fun _ _ => ⟨rfl, e3, (by decide : 0 + 0 ≤ _), (by decide : 0 + 0 ≤ _)⟩)
  dsimp only [Pt.U, Pt.locs, Pt.cells, Pt.slots] at X5 l5 y5 z5 st5 hQ5
  subst l5 y5 z5
  obtain ⟨rfl, N5q, e5⟩ := hQ5
  have N5 := Fr.app N0 N5q
  obtain ⟨cl6, Ar6, vq6, vS6, vN6, vH6, vG6⟩ := id r16
  have hin6 : ¬ (((0 : Int32) : Int32) < 0 ∨ cl6.slots.size ≤ ((0 : Int32) : Int32).toNatClampNeg) := inb_of vS6 ⟨by decide, by decide⟩
  obtain ⟨T7, X7, e7, st7⟩ := getF X5 hx hZ hown (host := "") (Or.inl (ww 79 rfl)) Via.refl e5 r6 (g := (mkF m 32 #[vR a1, vI 0, vI 0, vR at_, vI 0, .unset, .unset, .unset, .unset, .unset, .unset] [(.ref a1), (.int et0), (.long ((f_maxI et0 et0).toInt64))])) rfl rfl (bb d27_32)
  obtain ⟨cl8, Ar8, vq8, vS8, vN8, vH8, vG8⟩ := id r13
  have hin8 : ¬ (((0 : Int32) : Int32) < 0 ∨ cl8.slots.size ≤ ((0 : Int32) : Int32).toNatClampNeg) := inb_of vS8 ⟨by decide, by decide⟩
  obtain ⟨_, _, ⟨T9, L9, k9, n9⟩, -, X9, ⟨Lc9, hQ9, l9, y9, z9⟩, st9⟩ := Jvm.LawKit.callS X7 hx (y := (⟨"java/lang/Math", "min", "(II)I"⟩ : MethodName)) hown (mvT hZ (ww 188 rfl)) (mvT hZ (ww 189 rfl)) (mvT hZ (ww 178 rfl)) (mvT hZ (ww 190 rfl)) (by decide) (backOf (W := 2) (rm_minI l Z a0 hw [] wDE et0 et0 h0 n0 (own_z0 O0) S_wDE O0 S_CS) hZ (ww 190 rfl) (ww 178 rfl) (by decide) (by decide)) (g := (mkF m 38 #[vR a1, vI 0, vI 0, vR at_, vI 0, .unset, .unset, .unset, .unset, .unset, .unset] [(.int et0), (.int et0), (.long ((f_maxI et0 et0).toInt64))])) rfl (by rw [hml]; rfl) (argsL := [(.int et0), (.int et0)]) (rest := [(.long ((f_maxI et0 et0).toInt64))]) (lenOf pd__II_I_5 rfl) rfl (by show 2 * 0 + _ ≤ _; exact Nat.le_of_eq rfl) (bb d27_38) (fun _ _ => ⟨rfl, e7, (by decide : 0 + 0 ≤ _), (by decide : 0 + 0 ≤ _)⟩)
  dsimp only [Pt.U, Pt.locs, Pt.cells, Pt.slots] at X9 l9 y9 z9 st9 hQ9
  subst l9 y9 z9
  obtain ⟨rfl, N9q, e9⟩ := hQ9
  have N9 := Fr.app N5 N9q
  obtain ⟨T10, X10, e10, st10⟩ := getF X9 hx hZ hown (host := "") (Or.inl (ww 75 rfl)) Via.refl e9 r1 (g := (mkF m 6 #[vR a1, vI 0, vI 0, vR at_, vI 1, vJ (((f_maxI et0 et0).toInt64) - ((f_minI et0 et0).toInt64)), .second, .unset, .unset, .unset, .unset] [(.ref a1), (.int 1)])) rfl rfl (bb d27_6)
  obtain ⟨T11, X11, e11, st11⟩ := getF X10 hx hZ hown (host := "") (Or.inl (ww 75 rfl)) Via.refl e10 r1 (g := (mkF m 73 #[vR a1, vI 0, vI 0, vR at_, vI 0, vJ (((f_maxI et0 et0).toInt64) - ((f_minI et0 et0).toInt64)), .second, .unset, .unset, .unset, .unset] [(.ref a1), (.int 0)])) rfl rfl (bb d27_73)
  obtain ⟨T12, X12, e12, st12⟩ := getF X11 hx hZ hown (host := "") (Or.inl (ww 79 rfl)) Via.refl e11 r6 (g := (mkF m 80 #[vR a1, vI 0, vI 0, vR at_, vI 0, vJ (((f_maxI et0 et0).toInt64) - ((f_minI et0 et0).toInt64)), .second, .unset, .unset, .unset, .unset] [(.ref a1)])) rfl rfl (bb d27_80)
  obtain ⟨cl13, Ar13, vq13, vS13, vN13, vH13, vG13⟩ := id r16
  have hin13 : ¬ (((0 : Int32) : Int32) < 0 ∨ cl13.slots.size ≤ ((0 : Int32) : Int32).toNatClampNeg) := inb_of vS13 ⟨by decide, by decide⟩
  obtain ⟨T14, X14, e14, st14⟩ := getF X12 hx hZ hown (host := "") (Or.inl (ww 79 rfl)) Via.refl e12 r6 (g := (mkF m 90 #[vR a1, vI 0, vI 0, vR at_, vI 0, vJ (((f_maxI et0 et0).toInt64) - ((f_minI et0 et0).toInt64)), .second, .unset, .unset, .unset, .unset] [(.ref a1), (.int et0), (.int 0), (.ref ol)])) rfl rfl (bb d27_90)
  obtain ⟨cl15, Ar15, vq15, vS15, vN15, vH15, vG15⟩ := id r13
  have hin15 : ¬ (((0 : Int32) : Int32) < 0 ∨ cl15.slots.size ≤ ((0 : Int32) : Int32).toNatClampNeg) := inb_of vS15 ⟨by decide, by decide⟩
  obtain ⟨_, _, ⟨T16, L16, k16, n16⟩, -, X16, ⟨Lc16, hQ16, l16, y16, z16⟩, st16⟩ := Jvm.LawKit.callS X14 hx (y := (⟨"java/lang/Math", "min", "(II)I"⟩ : MethodName)) hown (mvT hZ (ww 188 rfl)) (mvT hZ (ww 189 rfl)) (mvT hZ (ww 178 rfl)) (mvT hZ (ww 190 rfl)) (by decide) (backOf (W := 2) (rm_minI l Z a0 hw [] wDE et0 et0 h0 n0 (own_z0 O0) S_wDE O0 S_CS) hZ (ww 190 rfl) (ww 178 rfl) (by decide) (by decide)) (g := (mkF m 96 #[vR a1, vI 0, vI 0, vR at_, vI 0, vJ (((f_maxI et0 et0).toInt64) - ((f_minI et0 et0).toInt64)), .second, .unset, .unset, .unset, .unset] [(.int et0), (.int et0), (.int 0), (.ref ol)])) rfl (by rw [hml]; rfl) (argsL := [(.int et0), (.int et0)]) (rest := [(.int 0), (.ref ol)]) (lenOf pd__II_I_5 rfl) rfl (by show 2 * 0 + _ ≤ _; exact Nat.le_of_eq rfl) (bb d27_96) (fun _ _ => ⟨rfl, e14, (by decide : 0 + 0 ≤ _), (by decide : 0 + 0 ≤ _)⟩)
  dsimp only [Pt.U, Pt.locs, Pt.cells, Pt.slots] at X16 l16 y16 z16 st16 hQ16
  subst l16 y16 z16
  obtain ⟨rfl, N16q, e16⟩ := hQ16
  have N16 := Fr.app N9 N16q
  obtain ⟨cl17, Ar17, vq17, vS17, vN17, vH17, vG17⟩ := id r13
  have hin17 : ¬ (((0 : Int32) : Int32) < 0 ∨ cl17.slots.size ≤ ((0 : Int32) : Int32).toNatClampNeg) := inb_of vS17 ⟨by decide, by decide⟩
  obtain ⟨T17, h17, X17, e17, W17, st17⟩ := stI X16 hx hZ e16 Ar17 (j := (0 : Int32)) hin17 (g := (mkF m 99 #[vR a1, vI 0, vI 0, vR at_, vI 0, vJ (((f_maxI et0 et0).toInt64) - ((f_minI et0 et0).toInt64)), .second, .unset, .unset, .unset, .unset] [(.int (f_minI et0 et0)), (.int 0), (.ref ol)])) rfl rfl (bb d27_99)
  have V17 : Arv Z h17 ol kl_ .int (1 : Int32) [(.int (f_minI et0 et0))] (.int 0) := Arv.set Ar17 vq17 vS17 vN17 vH17 vG17 rfl W17 0 rfl (Nat.le_of_ble_eq_true rfl)
  have N17 := Fr.snoc X17 N16 g_ol
  have F19 := (r7.other W17 (Or.inl ne_a1_ol))
  obtain ⟨T18, X18, e18, st18⟩ := getF X17 hx hZ hown (host := "") (Or.inl (ww 81 rfl)) Via.refl e17 F19 (g := (mkF m 101 #[vR a1, vI 0, vI 0, vR at_, vI 0, vJ (((f_maxI et0 et0).toInt64) - ((f_minI et0 et0).toInt64)), .second, .unset, .unset, .unset, .unset] [(.ref a1)])) rfl rfl (bb d27_101)
  have F20 := (r16.other W17 ne_at__ol)
  obtain ⟨cl21, Ar21, vq21, vS21, vN21, vH21, vG21⟩ := id F20
  have hin21 : ¬ (((0 : Int32) : Int32) < 0 ∨ cl21.slots.size ≤ ((0 : Int32) : Int32).toNatClampNeg) := inb_of vS21 ⟨by decide, by decide⟩
  obtain ⟨T22, X22, e22, st22⟩ := getF X18 hx hZ hown (host := "") (Or.inl (ww 81 rfl)) Via.refl e18 F19 (g := (mkF m 111 #[vR a1, vI 0, vI 0, vR at_, vI 0, vJ (((f_maxI et0 et0).toInt64) - ((f_minI et0 et0).toInt64)), .second, .unset, .unset, .unset, .unset] [(.ref a1), (.int et0), (.int 0), (.ref oh)])) rfl rfl (bb d27_111)
  have F23 := (r14.other W17 (Ne.symm ne_ol_oh))
  obtain ⟨cl24, Ar24, vq24, vS24, vN24, vH24, vG24⟩ := id F23
  have hin24 : ¬ (((0 : Int32) : Int32) < 0 ∨ cl24.slots.size ≤ ((0 : Int32) : Int32).toNatClampNeg) := inb_of vS24 ⟨by decide, by decide⟩
  have O26 := (O0.wr W17 g_ol)
  obtain ⟨_, _, ⟨T25, L25, k25, n25⟩, -, X25, ⟨Lc25, hQ25, l25, y25, z25⟩, st25⟩ := Jvm.LawKit.callS X22 hx (y := (⟨"java/lang/Math", "max", "(II)I"⟩ : MethodName)) hown (mvT hZ (ww 195 rfl)) (mvT hZ (ww 196 rfl)) (mvT hZ (ww 178 rfl)) (mvT hZ (ww 197 rfl)) (by decide) (backOf (W := 2) (rm_maxI l Z a0 hw [] wDE et0 et0 h17 n0 (own_z0 O26) S_wDE O26 S_CS) hZ (ww 197 rfl) (ww 178 rfl) (by decide) (by decide)) (g := (mkF m 117 #[vR a1, vI 0, vI 0, vR at_, vI 0, vJ (((f_maxI et0 et0).toInt64) - ((f_minI et0 et0).toInt64)), .second, .unset, .unset, .unset, .unset] [(.int et0), (.int et0), (.int 0), (.ref oh)])) rfl (by rw [hml]; rfl) (argsL := [(.int et0), (.int et0)]) (rest := [(.int 0), (.ref oh)]) (lenOf pd__II_I_5 rfl) rfl (by show 2 * 0 + _ ≤ _; exact Nat.le_of_eq rfl) (bb d27_117) (fun _ _ => ⟨rfl, e22, (by decide : 0 + 0 ≤ _), (by decide : 0 + 0 ≤ _)⟩)
  dsimp only [Pt.U, Pt.locs, Pt.cells, Pt.slots] at X25 l25 y25 z25 st25 hQ25
  subst l25 y25 z25
  obtain ⟨rfl, N25q, e25⟩ := hQ25
  have N25 := Fr.app N17 N25q
  obtain ⟨cl27, Ar27, vq27, vS27, vN27, vH27, vG27⟩ := id F23
  have hin27 : ¬ (((0 : Int32) : Int32) < 0 ∨ cl27.slots.size ≤ ((0 : Int32) : Int32).toNatClampNeg) := inb_of vS27 ⟨by decide, by decide⟩
  obtain ⟨T27, h27, X27, e27, W27, st27⟩ := stI X25 hx hZ e25 Ar27 (j := (0 : Int32)) hin27 (g := (mkF m 120 #[vR a1, vI 0, vI 0, vR at_, vI 0, vJ (((f_maxI et0 et0).toInt64) - ((f_minI et0 et0).toInt64)), .second, .unset, .unset, .unset, .unset] [(.int (f_maxI et0 et0)), (.int 0), (.ref oh)])) rfl rfl (bb d27_120)
  have V27 : Arv Z h27 oh kh_ .int (1 : Int32) [(.int (f_maxI et0 et0))] (.int 0) := Arv.set Ar27 vq27 vS27 vN27 vH27 vG27 rfl W27 0 rfl (Nat.le_of_ble_eq_true rfl)
  have N27 := Fr.snoc X27 N25 g_oh
  have F29 := ((r5.other W17 (Or.inl ne_a1_ol)).other W27 (Or.inl ne_a1_oh))
  obtain ⟨T28, X28, e28, st28⟩ := getF X27 hx hZ hown (host := "") (Or.inl (ww 77 rfl)) Via.refl e27 F29 (g := (mkF m 122 #[vR a1, vI 0, vI 0, vR at_, vI 0, vJ (((f_maxI et0 et0).toInt64) - ((f_minI et0 et0).toInt64)), .second, .unset, .unset, .unset, .unset] [(.ref a1)])) rfl rfl (bb d27_122)
  have F31 := ((r1.other W17 (Or.inl ne_a1_ol)).other W27 (Or.inl ne_a1_oh))
  obtain ⟨T30, X30, e30, st30⟩ := getF X28 hx hZ hown (host := "") (Or.inl (ww 75 rfl)) Via.refl e28 F31 (g := (mkF m 127 #[vR a1, vI 0, vI 0, vR at_, vI 0, vJ (((f_maxI et0 et0).toInt64) - ((f_minI et0 et0).toInt64)), .second, .unset, .unset, .unset, .unset] [(.ref a1), (.int 0), (.ref ob)])) rfl rfl (bb d27_127)
  have F32 := ((r12.other W17 ne_ob_ol).other W27 ne_ob_oh)
  obtain ⟨cl33, Ar33, vq33, vS33, vN33, vH33, vG33⟩ := id F32
  have hin33 : ¬ (((0 : Int32) : Int32) < 0 ∨ cl33.slots.size ≤ ((0 : Int32) : Int32).toNatClampNeg) := inb_of vS33 ⟨by decide, by decide⟩
  have F34 := (F20.other W27 ne_at__oh)
  obtain ⟨cl35, Ar35, vq35, vS35, vN35, vH35, vG35⟩ := id F34
  have hin35 : ¬ (((0 : Int32) : Int32) < 0 ∨ cl35.slots.size ≤ ((0 : Int32) : Int32).toNatClampNeg) := inb_of vS35 ⟨by decide, by decide⟩
  obtain ⟨T36, X36, e36, st36⟩ := getF X30 hx hZ hown (host := "") (Or.inl (ww 75 rfl)) Via.refl e30 F31 (g := (mkF m 73 #[vR a1, vI 0, vI 0, vR at_, vI 1, vI (f_base et0 et0), vJ ((et0.toInt64) - ((f_base et0 et0).toInt64)), .second, .unset, .unset, .unset] [(.ref a1), (.int 1)])) rfl rfl (bb d27_73)
  have F37 := (V17.other W27 ne_ol_oh)
  obtain ⟨fs, hr, hrun, hended, hW, hsame⟩ := X36.leave (v := none) (fun _ => rfl)
  refine ⟨_, _, pre0 _ ?_, hrun, hended, _, _, rfl, ?_, ⟨_, rfl⟩, hW, hsame.mono (by decide) (by decide)⟩
  · show GG p e below s₁ (mkF m 0 #[vR a1, vI 0, vI 0, vR at_, .unset, .unset, .unset, .unset, .unset, .unset, .unset] []) _
    refine XS.iconst X0.here hx rfl (bb d27_0) ?_
    refine XS.istore X0.here hx rfl (bb d27_1) rfl (l' := #[vR a1, vI 0, vI 0, vR at_, vI 0, .unset, .unset, .unset, .unset, .unset, .unset]) rfl ?_
    refine XS.iload X0.here hx rfl (bb d27_3) rfl ?_
    refine XS.aloadN X0.here hx rfl (bb d27_5) rfl rfl ?_
    refine st1 _ ?_
    refine XS.icmpNo X1.here hx rfl (bb d27_9) rfl (tlt (by decide : (0 : Int32) < (1 : Int32))).2.1 ?_
    refine XS.aloadN X1.here hx rfl (bb d27_12) rfl rfl ?_
    refine XS.iload X1.here hx rfl (bb d27_13) rfl ?_
    refine X1.iaload hx (j := (0 : Int32)) (v := (.int et0)) (by rw [e1]; exact Ar2.1) (State.isArrayOf_alike hZ.alike Ar2.2.1) Ar2.2.2 hin2 (vH2.at hin2 rfl) (g := (mkF m 15 #[vR a1, vI 0, vI 0, vR at_, vI 0, .unset, .unset, .unset, .unset, .unset, .unset] [(.int 0), (.ref at_)])) rfl rfl (bb d27_15) _ ?_
    refine XS.aloadN X1.here hx rfl (bb d27_16) rfl rfl ?_
    refine st3 _ ?_
    refine XS.iload X3.here hx rfl (bb d27_20) rfl ?_
    refine X3.iaload hx (j := (0 : Int32)) (v := (.int et0)) (by rw [e3]; exact Ar4.1) (State.isArrayOf_alike hZ.alike Ar4.2.1) Ar4.2.2 hin4 (vH4.at hin4 rfl) (g := (mkF m 22 #[vR a1, vI 0, vI 0, vR at_, vI 0, .unset, .unset, .unset, .unset, .unset, .unset] [(.int 0), (.ref oh), (.int et0)])) rfl rfl (bb d27_22) _ ?_
    refine st5 _ ?_
    refine XS.i2l X5.here hx rfl (bb d27_26) rfl ?_
    refine XS.aloadN X5.here hx rfl (bb d27_27) rfl rfl ?_
    refine XS.iload X5.here hx rfl (bb d27_28) rfl ?_
    refine X5.iaload hx (j := (0 : Int32)) (v := (.int et0)) (by rw [e5]; exact Ar6.1) (State.isArrayOf_alike hZ.alike Ar6.2.1) Ar6.2.2 hin6 (vH6.at hin6 rfl) (g := (mkF m 30 #[vR a1, vI 0, vI 0, vR at_, vI 0, .unset, .unset, .unset, .unset, .unset, .unset] [(.int 0), (.ref at_), (.long ((f_maxI et0 et0).toInt64))])) rfl rfl (bb d27_30) _ ?_
    refine XS.aloadN X5.here hx rfl (bb d27_31) rfl rfl ?_
    refine st7 _ ?_
    refine XS.iload X7.here hx rfl (bb d27_35) rfl ?_
    refine X7.iaload hx (j := (0 : Int32)) (v := (.int et0)) (by rw [e7]; exact Ar8.1) (State.isArrayOf_alike hZ.alike Ar8.2.1) Ar8.2.2 hin8 (vH8.at hin8 rfl) (g := (mkF m 37 #[vR a1, vI 0, vI 0, vR at_, vI 0, .unset, .unset, .unset, .unset, .unset, .unset] [(.int 0), (.ref ol), (.int et0), (.long ((f_maxI et0 et0).toInt64))])) rfl rfl (bb d27_37) _ ?_
    refine st9 _ ?_
    refine XS.i2l X9.here hx rfl (bb d27_41) rfl ?_
    refine XS.lsub X9.here hx rfl (bb d27_42) rfl ?_
    refine XS.lstore X9.here hx rfl (bb d27_43) rfl (l' := #[vR a1, vI 0, vI 0, vR at_, vI 0, vJ (((f_maxI et0 et0).toInt64) - ((f_minI et0 et0).toInt64)), .second, .unset, .unset, .unset, .unset]) rfl ?_
    refine XS.lload X9.here hx rfl (bb d27_45) rfl ?_
    refine X9.ldc2Long hx hown (mvT hZ (ww 198 rfl)) (g := (mkF m 47 #[vR a1, vI 0, vI 0, vR at_, vI 0, vJ (((f_maxI et0 et0).toInt64) - ((f_minI et0 et0).toInt64)), .second, .unset, .unset, .unset, .unset] [(.long (((f_maxI et0 et0).toInt64) - ((f_minI et0 et0).toInt64)))])) rfl (bb d27_47) _ ?_
    refine XS.lcmp X9.here hx rfl (bb d27_50) rfl ?_
    refine XS.ifYes X9.here hx rfl (pc0 := 51) (pc' := 61) rfl (bb d27_51) rfl ((if0 _ _).trans (tlt (own_s0 et0)).1) (by decide) (by decide) ?_
    refine XS.iinc X9.here hx rfl (bb d27_61) rfl (l' := #[vR a1, vI 0, vI 0, vR at_, vI 1, vJ (((f_maxI et0 et0).toInt64) - ((f_minI et0 et0).toInt64)), .second, .unset, .unset, .unset, .unset]) rfl ?_
    refine XS.goto X9.here hx rfl (pc0 := 64) (pc' := 3) rfl (bb d27_64) (by decide) (by decide) ?_
    refine XS.iload X9.here hx rfl (bb d27_3) rfl ?_
    refine XS.aloadN X9.here hx rfl (bb d27_5) rfl rfl ?_
    refine st10 _ ?_
    refine XS.icmpYes X10.here hx rfl (pc0 := 9) (pc' := 67) rfl (bb d27_9) rfl (flt (by decide : ¬ ((1 : Int32) < (1 : Int32)))).2.1 (by decide) (by decide) ?_
    refine XS.iconst X10.here hx rfl (bb d27_67) ?_
    refine XS.istore X10.here hx rfl (bb d27_68) rfl (l' := #[vR a1, vI 0, vI 0, vR at_, vI 0, vJ (((f_maxI et0 et0).toInt64) - ((f_minI et0 et0).toInt64)), .second, .unset, .unset, .unset, .unset]) rfl ?_
    refine XS.iload X10.here hx rfl (bb d27_70) rfl ?_
    refine XS.aloadN X10.here hx rfl (bb d27_72) rfl rfl ?_
    refine st11 _ ?_
    refine XS.icmpNo X11.here hx rfl (bb d27_76) rfl (tlt (by decide : (0 : Int32) < (1 : Int32))).2.1 ?_
    refine XS.aloadN X11.here hx rfl (bb d27_79) rfl rfl ?_
    refine st12 _ ?_
    refine XS.iload X12.here hx rfl (bb d27_83) rfl ?_
    refine XS.aloadN X12.here hx rfl (bb d27_85) rfl rfl ?_
    refine XS.iload X12.here hx rfl (bb d27_86) rfl ?_
    refine X12.iaload hx (j := (0 : Int32)) (v := (.int et0)) (by rw [e12]; exact Ar13.1) (State.isArrayOf_alike hZ.alike Ar13.2.1) Ar13.2.2 hin13 (vH13.at hin13 rfl) (g := (mkF m 88 #[vR a1, vI 0, vI 0, vR at_, vI 0, vJ (((f_maxI et0 et0).toInt64) - ((f_minI et0 et0).toInt64)), .second, .unset, .unset, .unset, .unset] [(.int 0), (.ref at_), (.int 0), (.ref ol)])) rfl rfl (bb d27_88) _ ?_
    refine XS.aloadN X12.here hx rfl (bb d27_89) rfl rfl ?_
    refine st14 _ ?_
    refine XS.iload X14.here hx rfl (bb d27_93) rfl ?_
    refine X14.iaload hx (j := (0 : Int32)) (v := (.int et0)) (by rw [e14]; exact Ar15.1) (State.isArrayOf_alike hZ.alike Ar15.2.1) Ar15.2.2 hin15 (vH15.at hin15 rfl) (g := (mkF m 95 #[vR a1, vI 0, vI 0, vR at_, vI 0, vJ (((f_maxI et0 et0).toInt64) - ((f_minI et0 et0).toInt64)), .second, .unset, .unset, .unset, .unset] [(.int 0), (.ref ol), (.int et0), (.int 0), (.ref ol)])) rfl rfl (bb d27_95) _ ?_
    refine st16 _ ?_
    refine st17 _ ?_
    refine XS.aloadN X17.here hx rfl (bb d27_100) rfl rfl ?_
    refine st18 _ ?_
    refine XS.iload X18.here hx rfl (bb d27_104) rfl ?_
    refine XS.aloadN X18.here hx rfl (bb d27_106) rfl rfl ?_
    refine XS.iload X18.here hx rfl (bb d27_107) rfl ?_
    refine X18.iaload hx (j := (0 : Int32)) (v := (.int et0)) (by rw [e18]; exact Ar21.1) (State.isArrayOf_alike hZ.alike Ar21.2.1) Ar21.2.2 hin21 (vH21.at hin21 rfl) (g := (mkF m 109 #[vR a1, vI 0, vI 0, vR at_, vI 0, vJ (((f_maxI et0 et0).toInt64) - ((f_minI et0 et0).toInt64)), .second, .unset, .unset, .unset, .unset] [(.int 0), (.ref at_), (.int 0), (.ref oh)])) rfl rfl (bb d27_109) _ ?_
    refine XS.aloadN X18.here hx rfl (bb d27_110) rfl rfl ?_
    refine st22 _ ?_
    refine XS.iload X22.here hx rfl (bb d27_114) rfl ?_
    refine X22.iaload hx (j := (0 : Int32)) (v := (.int et0)) (by rw [e22]; exact Ar24.1) (State.isArrayOf_alike hZ.alike Ar24.2.1) Ar24.2.2 hin24 (vH24.at hin24 rfl) (g := (mkF m 116 #[vR a1, vI 0, vI 0, vR at_, vI 0, vJ (((f_maxI et0 et0).toInt64) - ((f_minI et0 et0).toInt64)), .second, .unset, .unset, .unset, .unset] [(.int 0), (.ref oh), (.int et0), (.int 0), (.ref oh)])) rfl rfl (bb d27_116) _ ?_
    refine st25 _ ?_
    refine st27 _ ?_
    refine XS.aloadN X27.here hx rfl (bb d27_121) rfl rfl ?_
    refine st28 _ ?_
    refine XS.iloadN X28.here hx rfl (bb d27_125) rfl ?_
    refine XS.aloadN X28.here hx rfl (bb d27_126) rfl rfl ?_
    refine st30 _ ?_
    refine XS.imul X30.here hx rfl (bb d27_130) rfl ?_
    refine XS.iload X30.here hx rfl (bb d27_131) rfl ?_
    refine XS.iadd X30.here hx rfl (bb d27_133) rfl ?_
    refine X30.iaload hx (j := (0 : Int32)) (v := (.int (f_base et0 et0))) (by rw [e30]; exact Ar33.1) (State.isArrayOf_alike hZ.alike Ar33.2.1) Ar33.2.2 hin33 (vH33.at hin33 rfl) (g := (mkF m 134 #[vR a1, vI 0, vI 0, vR at_, vI 0, vJ (((f_maxI et0 et0).toInt64) - ((f_minI et0 et0).toInt64)), .second, .unset, .unset, .unset, .unset] [(.int 0), (.ref ob)])) rfl rfl (bb d27_134) _ ?_
    refine XS.istore X30.here hx rfl (bb d27_135) rfl (l' := #[vR a1, vI 0, vI 0, vR at_, vI 0, vI (f_base et0 et0), .unset, .unset, .unset, .unset, .unset]) rfl ?_
    refine XS.aloadN X30.here hx rfl (bb d27_137) rfl rfl ?_
    refine XS.iload X30.here hx rfl (bb d27_138) rfl ?_
    refine X30.iaload hx (j := (0 : Int32)) (v := (.int et0)) (by rw [e30]; exact Ar35.1) (State.isArrayOf_alike hZ.alike Ar35.2.1) Ar35.2.2 hin35 (vH35.at hin35 rfl) (g := (mkF m 140 #[vR a1, vI 0, vI 0, vR at_, vI 0, vI (f_base et0 et0), .unset, .unset, .unset, .unset, .unset] [(.int 0), (.ref at_)])) rfl rfl (bb d27_140) _ ?_
    refine XS.i2l X30.here hx rfl (bb d27_141) rfl ?_
    refine XS.iload X30.here hx rfl (bb d27_142) rfl ?_
    refine XS.i2l X30.here hx rfl (bb d27_144) rfl ?_
    refine XS.lsub X30.here hx rfl (bb d27_145) rfl ?_
    refine XS.lstore X30.here hx rfl (bb d27_146) rfl (l' := #[vR a1, vI 0, vI 0, vR at_, vI 0, vI (f_base et0 et0), vJ ((et0.toInt64) - ((f_base et0 et0).toInt64)), .second, .unset, .unset, .unset]) rfl ?_
    refine XS.lload X30.here hx rfl (bb d27_148) rfl ?_
    refine XS.lconst X30.here hx rfl (bb d27_150) ?_
    refine XS.lcmp X30.here hx rfl (bb d27_151) rfl ?_
    refine XS.ifNo X30.here hx rfl (bb d27_152) rfl ((if0 _ _).trans (flt (own_d0 et0)).1) ?_
    refine XS.lload X30.here hx rfl (bb d27_155) rfl ?_
    refine X30.ldc2Long hx hown (mvT hZ (ww 198 rfl)) (g := (mkF m 157 #[vR a1, vI 0, vI 0, vR at_, vI 0, vI (f_base et0 et0), vJ ((et0.toInt64) - ((f_base et0 et0).toInt64)), .second, .unset, .unset, .unset] [(.long ((et0.toInt64) - ((f_base et0 et0).toInt64)))])) rfl (bb d27_157) _ ?_
    refine XS.lcmp X30.here hx rfl (bb d27_160) rfl ?_
    refine XS.ifYes X30.here hx rfl (pc0 := 161) (pc' := 249) rfl (bb d27_161) rfl ((if0 _ _).trans (tlt (own_e0 et0)).1) (by decide) (by decide) ?_
    refine XS.iinc X30.here hx rfl (bb d27_249) rfl (l' := #[vR a1, vI 0, vI 0, vR at_, vI 1, vI (f_base et0 et0), vJ ((et0.toInt64) - ((f_base et0 et0).toInt64)), .second, .unset, .unset, .unset]) rfl ?_
    refine XS.goto X30.here hx rfl (pc0 := 252) (pc' := 70) rfl (bb d27_252) (by decide) (by decide) ?_
    refine XS.iload X30.here hx rfl (bb d27_70) rfl ?_
    refine XS.aloadN X30.here hx rfl (bb d27_72) rfl rfl ?_
    refine st36 _ ?_
    refine XS.icmpYes X36.here hx rfl (pc0 := 76) (pc' := 255) rfl (bb d27_76) rfl (flt (by decide : ¬ ((1 : Int32) < (1 : Int32)))).2.1 (by decide) (by decide) ?_
    exact X36.returnOut hx Bd.returns (bb d27_255) hr
  · show Q_fit1_0 Z wDE a1 at_ ow on ob ol oh ov kw_ kn_ kb_ kl_ kh_ kv_ eb0 el0 eu0 ex0 ex1 ex2 ex3 ex4 ex5 ex6 ex7 kt_ et0 h0 n0 _ T36.heap _
    rw [e36]
    exact ⟨rfl, N27, (((Keep.refl h0 [ol, oh]).wr W17 (Or.inl (List.mem_of_getElem? (i := 0) rfl))).wr W27 (Or.inl (List.mem_of_getElem? (i := 1) rfl))), (by have q := F37; simp only [own_maxS, own_minS] at q; exact q), (by have q := V27; simp only [own_maxS, own_minS] at q; exact q)⟩
def Q_fit1_1 (Z : State) (wDE a1 at_ ow on ob ol oh ov : Addr) (kw_ kn_ kb_ kl_ kh_ kv_ : ClassId) (eb0 el0 eu0 ev0_0 ex1 ex2 ex3 ex4 ex5 ex6 ex7 : Int32) (kt_ : ClassId) (et0 : Int32) (h0 : Heap) (n0 : Nat) (v : Option Value) (h : Heap) (L : List Loc) : Prop := v = none ∧ Fr n0 L ∧ Keep h0 h [ob, ol, oh, ov] ∧ Arv Z h ol kl_ .int (1 : Int32) [(.int (f_minI et0 el0))] (.int 0) ∧ Arv Z h oh kh_ .int (1 : Int32) [(.int (f_maxI et0 eu0))] (.int 0) ∧ Arv Z h ob kb_ .int (1 : Int32) [(.int (nbase eb0 el0 eu0 et0))] (.int 0) ∧ Arv Z h ov kv_ .char (8 : Int32) [(.int (nar .char (ev0_0 - (nbase eb0 el0 eu0 et0)))), (.int ex1), (.int ex2), (.int ex3), (.int ex4), (.int ex5), (.int ex6), (.int ex7)] (.int 0)
set_option maxRecDepth 65536 in
set_option maxHeartbeats 40000000 in
theorem rm_fit1_1 (l : Launch) (Z : State) (a0 : Array Value) (hw : ∀ d ∈ tables_1, d.before a0 Z = true) (ws : List Jvm.Cond) (wDE : Addr) (a1 at_ ow on ob ol oh ov : Addr) (kw_ kn_ kb_ kl_ kh_ kv_ : ClassId) (eb0 el0 eu0 ev0_0 ex1 ex2 ex3 ex4 ex5 ex6 ex7 : Int32) (kt_ : ClassId) (et0 : Int32) (h0 : Heap) (n0 : Nat) (Z0 : n0 ≤ h0.size) (S_wDE : Sta Z Z.heap "java/util/ArrayList" "DEFAULTCAPACITY_EMPTY_ELEMENTDATA" "[Ljava/lang/Object;" (.ref wDE)) (O0 : Old Z n0 h0) (S_CS : Sta Z Z.heap cRV "CHUNK_SHIFT" "I" (.int (12 : Int32))) (r0 : Exa Z h0 a1 cRV) (r1 : Fld Z h0 a1 cRV "arity" "I" (.int 1)) (r2 : Fld Z h0 a1 cRV "rows" "I" (.int 1)) (r3 : Fld Z h0 a1 cRV "wide" "[[I" (.ref ow)) (r4 : Fld Z h0 a1 cRV "narrow" "[[C" (.ref on)) (r5 : Fld Z h0 a1 cRV "bases" "[I" (.ref ob)) (r6 : Fld Z h0 a1 cRV "lowest" "[I" (.ref ol)) (r7 : Fld Z h0 a1 cRV "highest" "[I" (.ref oh)) (r8 : Arv Z h0 ow kw_ (.array .int) (1 : Int32) [.null] .null) (r9 : OvrA Z kw_ .int "[I") (r10 : Arv Z h0 on kn_ (.array .char) (1 : Int32) [(.ref ov)] .null) (r11 : OvrA Z kn_ .char "[C") (r12 : Arv Z h0 ob kb_ .int (1 : Int32) [(.int eb0)] (.int 0)) (r13 : Arv Z h0 ol kl_ .int (1 : Int32) [(.int el0)] (.int 0)) (r14 : Arv Z h0 oh kh_ .int (1 : Int32) [(.int eu0)] (.int 0)) (r15 : Arv Z h0 ov kv_ .char (8 : Int32) [(.int (nar .char (ev0_0 - eb0))), (.int ex1), (.int ex2), (.int ex3), (.int ex4), (.int ex5), (.int ex6), (.int ex7)] (.int 0)) (r16 : Arv Z h0 at_ kt_ .int (1 : Int32) [(.int et0)] (.int 0)) (g_ob : n0 ≤ ob) (g_ol : n0 ≤ ol) (g_oh : n0 ≤ oh) (g_ov : n0 ≤ ov) (ne_a1_ow : a1 ≠ ow) (ne_a1_on : a1 ≠ on) (ne_a1_ob : a1 ≠ ob) (ne_a1_ol : a1 ≠ ol) (ne_a1_oh : a1 ≠ oh) (ne_a1_ov : a1 ≠ ov) (ne_ow_on : ow ≠ on) (ne_ow_ob : ow ≠ ob) (ne_ow_ol : ow ≠ ol) (ne_ow_oh : ow ≠ oh) (ne_ow_ov : ow ≠ ov) (ne_on_ob : on ≠ ob) (ne_on_ol : on ≠ ol) (ne_on_oh : on ≠ oh) (ne_on_ov : on ≠ ov) (ne_ob_ol : ob ≠ ol) (ne_ob_oh : ob ≠ oh) (ne_ob_ov : ob ≠ ov) (ne_ol_oh : ol ≠ oh) (ne_ol_ov : ol ≠ ov) (ne_oh_ov : oh ≠ ov) (ne_at__a1 : at_ ≠ a1) (ne_at__ow : at_ ≠ ow) (ne_at__on : at_ ≠ on) (ne_at__ob : at_ ≠ ob) (ne_at__ol : at_ ≠ ol) (ne_at__oh : at_ ≠ oh) (ne_at__ov : at_ ≠ ov) (hs0 : (lcmpW (((f_maxI et0 eu0).toInt64) - ((f_minI et0 el0).toInt64)) (65536 : Int64)) < (0 : Int32)) :
    MetFree l (⟨cRV, "fit", "(II[I)V"⟩ : MethodName) (head1 (Jvm.Cond.code (⟨cRV, "fit", "(II[I)V"⟩ : MethodName) prog_48_method_7_code 11 none :: ws) ({ frames := 2, cells := 0, slots := 0, locals := 30 } : Room)) (fun a U => a = #[(.ref a1), (.int 0), (.int 1), (.ref at_)] ∧ Z.Warmed39 U.vm ∧ U.heap = h0) (fun _ _ _ _ _ => True) (fun _ U o U' => ∃ v L, o = .returned v ∧ Q_fit1_1 Z wDE a1 at_ ow on ob ol oh ov kw_ kn_ kb_ kl_ kh_ kv_ eb0 el0 eu0 ev0_0 ex1 ex2 ex3 ex4 ex5 ex6 ex7 kt_ et0 h0 n0 v U'.heap L ∧ FrameEnd U o U' L ({ frames := 2, cells := 0, slots := 0, locals := 30 } : Room).cells ({ frames := 2, cells := 0, slots := 0, locals := 30 } : Room).slots) := by
  refine MetFree.of_bodySF (plainFor_of_name pn_RowValues) hisR ?_
  intro p e s m args below meth c s₁ Bd hml0 hP hK
  obtain ⟨rfl, hZ, hh⟩ := hP
  have hx := Bd.exec
  have hby := Bd.bytes
  have bb := fun {pc : Nat} {r : Except DecodeError (Instr × Nat)} (h : decode prog_48_method_7_code pc = r) => hb hby h
  have ww := fun (i : Nat) {d : Jvm.Cond} (h : tables_1[i]? = some d) => hw d (List.mem_of_getElem? h)
  have hml : c.maxLocals = 11 := hml0
  have hown : s.vm.findClass cRV = some m.cls := findClass_of_methodNamed Bd.named
  have hnm := (name_of_methodNamed Bd.named Bd.method).1
  have X0 : Stand p l e ({ frames := 2, cells := 0, slots := 0, locals := 30 } : Room) s m #[(.ref a1), (.int 0), (.int 1), (.ref at_)] below meth c s₁ [] 0 0 := Stand.of_body Bd
  have e0 : s₁.heap = h0 := by rw [← hh, Bd.state]; rfl
  have N0 := Fr.nil n0
  have pre0 : ∀ t, Steps p.tables e below (s₁.setTop (mkF m 0 #[vR a1, vI 0, vI 1, vR at_, .unset, .unset, .unset, .unset, .unset, .unset, .unset] [])) t → Steps p.tables e below (s₁.setTop (entryFrame m #[(.ref a1), (.int 0), (.int 1), (.ref at_)] 11)) t := fun t k => castTop (ef_fit1_1 m a1 at_) k
  obtain ⟨T1, X1, e1, st1⟩ := getF X0 hx hZ hown (host := "") (Or.inl (ww 75 rfl)) Via.refl e0 r1 (g := (mkF m 6 #[vR a1, vI 0, vI 1, vR at_, vI 0, .unset, .unset, .unset, .unset, .unset, .unset] [(.ref a1), (.int 0)])) rfl rfl (bb d27_6)
  obtain ⟨cl2, Ar2, vq2, vS2, vN2, vH2, vG2⟩ := id r16
  have hin2 : ¬ (((0 : Int32) : Int32) < 0 ∨ cl2.slots.size ≤ ((0 : Int32) : Int32).toNatClampNeg) := inb_of vS2 ⟨by decide, by decide⟩
  obtain ⟨T3, X3, e3, st3⟩ := getF X1 hx hZ hown (host := "") (Or.inl (ww 81 rfl)) Via.refl e1 r7 (g := (mkF m 17 #[vR a1, vI 0, vI 1, vR at_, vI 0, .unset, .unset, .unset, .unset, .unset, .unset] [(.ref a1), (.int et0)])) rfl rfl (bb d27_17)
  obtain ⟨cl4, Ar4, vq4, vS4, vN4, vH4, vG4⟩ := id r14
  have hin4 : ¬ (((0 : Int32) : Int32) < 0 ∨ cl4.slots.size ≤ ((0 : Int32) : Int32).toNatClampNeg) := inb_of vS4 ⟨by decide, by decide⟩
  obtain ⟨_, _, ⟨T5, L5, k5, n5⟩, -, X5, ⟨Lc5, hQ5, l5, y5, z5⟩, st5⟩ := Jvm.LawKit.callS X3 hx (y := (⟨"java/lang/Math", "max", "(II)I"⟩ : MethodName)) hown (mvT hZ (ww 195 rfl)) (mvT hZ (ww 196 rfl)) (mvT hZ (ww 178 rfl)) (mvT hZ (ww 197 rfl)) (by decide) (backOf (W := 0) (rm_maxI l Z a0 hw [] wDE et0 eu0 h0 n0 (own_z0 O0) S_wDE O0 S_CS) hZ (ww 197 rfl) (ww 178 rfl) (by decide) (by decide)) (g := (mkF m 23 #[vR a1, vI 0, vI 1, vR at_, vI 0, .unset, .unset, .unset, .unset, .unset, .unset] [(.int eu0), (.int et0)])) rfl (by rw [hml]; rfl) (argsL := [(.int et0), (.int eu0)]) (rest := []) (lenOf pd__II_I_5 rfl) rfl (by show 2 * 0 + _ ≤ _; exact Nat.le_of_eq rfl) (bb d27_23) (fun _ _ => ⟨rfl, e3, (by decide : 0 + 0 ≤ _), (by decide : 0 + 0 ≤ _)⟩)
  dsimp only [Pt.U, Pt.locs, Pt.cells, Pt.slots] at X5 l5 y5 z5 st5 hQ5
  subst l5 y5 z5
  obtain ⟨rfl, N5q, e5⟩ := hQ5
  have N5 := Fr.app N0 N5q
  obtain ⟨cl6, Ar6, vq6, vS6, vN6, vH6, vG6⟩ := id r16
  have hin6 : ¬ (((0 : Int32) : Int32) < 0 ∨ cl6.slots.size ≤ ((0 : Int32) : Int32).toNatClampNeg) := inb_of vS6 ⟨by decide, by decide⟩
  obtain ⟨T7, X7, e7, st7⟩ := getF X5 hx hZ hown (host := "") (Or.inl (ww 79 rfl)) Via.refl e5 r6 (g := (mkF m 32 #[vR a1, vI 0, vI 1, vR at_, vI 0, .unset, .unset, .unset, .unset, .unset, .unset] [(.ref a1), (.int et0), (.long ((f_maxI et0 eu0).toInt64))])) rfl rfl (bb d27_32)
  obtain ⟨cl8, Ar8, vq8, vS8, vN8, vH8, vG8⟩ := id r13
  have hin8 : ¬ (((0 : Int32) : Int32) < 0 ∨ cl8.slots.size ≤ ((0 : Int32) : Int32).toNatClampNeg) := inb_of vS8 ⟨by decide, by decide⟩
  obtain ⟨_, _, ⟨T9, L9, k9, n9⟩, -, X9, ⟨Lc9, hQ9, l9, y9, z9⟩, st9⟩ := Jvm.LawKit.callS X7 hx (y := (⟨"java/lang/Math", "min", "(II)I"⟩ : MethodName)) hown (mvT hZ (ww 188 rfl)) (mvT hZ (ww 189 rfl)) (mvT hZ (ww 178 rfl)) (mvT hZ (ww 190 rfl)) (by decide) (backOf (W := 2) (rm_minI l Z a0 hw [] wDE et0 el0 h0 n0 (own_z0 O0) S_wDE O0 S_CS) hZ (ww 190 rfl) (ww 178 rfl) (by decide) (by decide)) (g := (mkF m 38 #[vR a1, vI 0, vI 1, vR at_, vI 0, .unset, .unset, .unset, .unset, .unset, .unset] [(.int el0), (.int et0), (.long ((f_maxI et0 eu0).toInt64))])) rfl (by rw [hml]; rfl) (argsL := [(.int et0), (.int el0)]) (rest := [(.long ((f_maxI et0 eu0).toInt64))]) (lenOf pd__II_I_5 rfl) rfl (by show 2 * 0 + _ ≤ _; exact Nat.le_of_eq rfl) (bb d27_38) (fun _ _ => ⟨rfl, e7, (by decide : 0 + 0 ≤ _), (by decide : 0 + 0 ≤ _)⟩)
  dsimp only [Pt.U, Pt.locs, Pt.cells, Pt.slots] at X9 l9 y9 z9 st9 hQ9
  subst l9 y9 z9
  obtain ⟨rfl, N9q, e9⟩ := hQ9
  have N9 := Fr.app N5 N9q
  obtain ⟨T10, X10, e10, st10⟩ := getF X9 hx hZ hown (host := "") (Or.inl (ww 75 rfl)) Via.refl e9 r1 (g := (mkF m 6 #[vR a1, vI 0, vI 1, vR at_, vI 1, vJ (((f_maxI et0 eu0).toInt64) - ((f_minI et0 el0).toInt64)), .second, .unset, .unset, .unset, .unset] [(.ref a1), (.int 1)])) rfl rfl (bb d27_6)
  obtain ⟨T11, X11, e11, st11⟩ := getF X10 hx hZ hown (host := "") (Or.inl (ww 75 rfl)) Via.refl e10 r1 (g := (mkF m 73 #[vR a1, vI 0, vI 1, vR at_, vI 0, vJ (((f_maxI et0 eu0).toInt64) - ((f_minI et0 el0).toInt64)), .second, .unset, .unset, .unset, .unset] [(.ref a1), (.int 0)])) rfl rfl (bb d27_73)
  obtain ⟨T12, X12, e12, st12⟩ := getF X11 hx hZ hown (host := "") (Or.inl (ww 79 rfl)) Via.refl e11 r6 (g := (mkF m 80 #[vR a1, vI 0, vI 1, vR at_, vI 0, vJ (((f_maxI et0 eu0).toInt64) - ((f_minI et0 el0).toInt64)), .second, .unset, .unset, .unset, .unset] [(.ref a1)])) rfl rfl (bb d27_80)
  obtain ⟨cl13, Ar13, vq13, vS13, vN13, vH13, vG13⟩ := id r16
  have hin13 : ¬ (((0 : Int32) : Int32) < 0 ∨ cl13.slots.size ≤ ((0 : Int32) : Int32).toNatClampNeg) := inb_of vS13 ⟨by decide, by decide⟩
  obtain ⟨T14, X14, e14, st14⟩ := getF X12 hx hZ hown (host := "") (Or.inl (ww 79 rfl)) Via.refl e12 r6 (g := (mkF m 90 #[vR a1, vI 0, vI 1, vR at_, vI 0, vJ (((f_maxI et0 eu0).toInt64) - ((f_minI et0 el0).toInt64)), .second, .unset, .unset, .unset, .unset] [(.ref a1), (.int et0), (.int 0), (.ref ol)])) rfl rfl (bb d27_90)
  obtain ⟨cl15, Ar15, vq15, vS15, vN15, vH15, vG15⟩ := id r13
  have hin15 : ¬ (((0 : Int32) : Int32) < 0 ∨ cl15.slots.size ≤ ((0 : Int32) : Int32).toNatClampNeg) := inb_of vS15 ⟨by decide, by decide⟩
  obtain ⟨_, _, ⟨T16, L16, k16, n16⟩, -, X16, ⟨Lc16, hQ16, l16, y16, z16⟩, st16⟩ := Jvm.LawKit.callS X14 hx (y := (⟨"java/lang/Math", "min", "(II)I"⟩ : MethodName)) hown (mvT hZ (ww 188 rfl)) (mvT hZ (ww 189 rfl)) (mvT hZ (ww 178 rfl)) (mvT hZ (ww 190 rfl)) (by decide) (backOf (W := 2) (rm_minI l Z a0 hw [] wDE et0 el0 h0 n0 (own_z0 O0) S_wDE O0 S_CS) hZ (ww 190 rfl) (ww 178 rfl) (by decide) (by decide)) (g := (mkF m 96 #[vR a1, vI 0, vI 1, vR at_, vI 0, vJ (((f_maxI et0 eu0).toInt64) - ((f_minI et0 el0).toInt64)), .second, .unset, .unset, .unset, .unset] [(.int el0), (.int et0), (.int 0), (.ref ol)])) rfl (by rw [hml]; rfl) (argsL := [(.int et0), (.int el0)]) (rest := [(.int 0), (.ref ol)]) (lenOf pd__II_I_5 rfl) rfl (by show 2 * 0 + _ ≤ _; exact Nat.le_of_eq rfl) (bb d27_96) (fun _ _ => ⟨rfl, e14, (by decide : 0 + 0 ≤ _), (by decide : 0 + 0 ≤ _)⟩)
  dsimp only [Pt.U, Pt.locs, Pt.cells, Pt.slots] at X16 l16 y16 z16 st16 hQ16
  subst l16 y16 z16
  obtain ⟨rfl, N16q, e16⟩ := hQ16
  have N16 := Fr.app N9 N16q
  obtain ⟨cl17, Ar17, vq17, vS17, vN17, vH17, vG17⟩ := id r13
  have hin17 : ¬ (((0 : Int32) : Int32) < 0 ∨ cl17.slots.size ≤ ((0 : Int32) : Int32).toNatClampNeg) := inb_of vS17 ⟨by decide, by decide⟩
  obtain ⟨T17, h17, X17, e17, W17, st17⟩ := stI X16 hx hZ e16 Ar17 (j := (0 : Int32)) hin17 (g := (mkF m 99 #[vR a1, vI 0, vI 1, vR at_, vI 0, vJ (((f_maxI et0 eu0).toInt64) - ((f_minI et0 el0).toInt64)), .second, .unset, .unset, .unset, .unset] [(.int (f_minI et0 el0)), (.int 0), (.ref ol)])) rfl rfl (bb d27_99)
  have V17 : Arv Z h17 ol kl_ .int (1 : Int32) [(.int (f_minI et0 el0))] (.int 0) := Arv.set Ar17 vq17 vS17 vN17 vH17 vG17 rfl W17 0 rfl (Nat.le_of_ble_eq_true rfl)
  have N17 := Fr.snoc X17 N16 g_ol
  have F19 := (r7.other W17 (Or.inl ne_a1_ol))
  obtain ⟨T18, X18, e18, st18⟩ := getF X17 hx hZ hown (host := "") (Or.inl (ww 81 rfl)) Via.refl e17 F19 (g := (mkF m 101 #[vR a1, vI 0, vI 1, vR at_, vI 0, vJ (((f_maxI et0 eu0).toInt64) - ((f_minI et0 el0).toInt64)), .second, .unset, .unset, .unset, .unset] [(.ref a1)])) rfl rfl (bb d27_101)
  have F20 := (r16.other W17 ne_at__ol)
  obtain ⟨cl21, Ar21, vq21, vS21, vN21, vH21, vG21⟩ := id F20
  have hin21 : ¬ (((0 : Int32) : Int32) < 0 ∨ cl21.slots.size ≤ ((0 : Int32) : Int32).toNatClampNeg) := inb_of vS21 ⟨by decide, by decide⟩
  obtain ⟨T22, X22, e22, st22⟩ := getF X18 hx hZ hown (host := "") (Or.inl (ww 81 rfl)) Via.refl e18 F19 (g := (mkF m 111 #[vR a1, vI 0, vI 1, vR at_, vI 0, vJ (((f_maxI et0 eu0).toInt64) - ((f_minI et0 el0).toInt64)), .second, .unset, .unset, .unset, .unset] [(.ref a1), (.int et0), (.int 0), (.ref oh)])) rfl rfl (bb d27_111)
  have F23 := (r14.other W17 (Ne.symm ne_ol_oh))
  obtain ⟨cl24, Ar24, vq24, vS24, vN24, vH24, vG24⟩ := id F23
  have hin24 : ¬ (((0 : Int32) : Int32) < 0 ∨ cl24.slots.size ≤ ((0 : Int32) : Int32).toNatClampNeg) := inb_of vS24 ⟨by decide, by decide⟩
  have O26 := (O0.wr W17 g_ol)
  obtain ⟨_, _, ⟨T25, L25, k25, n25⟩, -, X25, ⟨Lc25, hQ25, l25, y25, z25⟩, st25⟩ := Jvm.LawKit.callS X22 hx (y := (⟨"java/lang/Math", "max", "(II)I"⟩ : MethodName)) hown (mvT hZ (ww 195 rfl)) (mvT hZ (ww 196 rfl)) (mvT hZ (ww 178 rfl)) (mvT hZ (ww 197 rfl)) (by decide) (backOf (W := 2) (rm_maxI l Z a0 hw [] wDE et0 eu0 h17 n0 (own_z0 O26) S_wDE O26 S_CS) hZ (ww 197 rfl) (ww 178 rfl) (by decide) (by decide)) (g := (mkF m 117 #[vR a1, vI 0, vI 1, vR at_, vI 0, vJ (((f_maxI et0 eu0).toInt64) - ((f_minI et0 el0).toInt64)), .second, .unset, .unset, .unset, .unset] [(.int eu0), (.int et0), (.int 0), (.ref oh)])) rfl (by rw [hml]; rfl) (argsL := [(.int et0), (.int eu0)]) (rest := [(.int 0), (.ref oh)]) (lenOf pd__II_I_5 rfl) rfl (by show 2 * 0 + _ ≤ _; exact Nat.le_of_eq rfl) (bb d27_117) (fun _ _ => ⟨rfl, e22, (by decide : 0 + 0 ≤ _), (by decide : 0 + 0 ≤ _)⟩)
  dsimp only [Pt.U, Pt.locs, Pt.cells, Pt.slots] at X25 l25 y25 z25 st25 hQ25
  subst l25 y25 z25
  obtain ⟨rfl, N25q, e25⟩ := hQ25
  have N25 := Fr.app N17 N25q
  obtain ⟨cl27, Ar27, vq27, vS27, vN27, vH27, vG27⟩ := id F23
  have hin27 : ¬ (((0 : Int32) : Int32) < 0 ∨ cl27.slots.size ≤ ((0 : Int32) : Int32).toNatClampNeg) := inb_of vS27 ⟨by decide, by decide⟩
  obtain ⟨T27, h27, X27, e27, W27, st27⟩ := stI X25 hx hZ e25 Ar27 (j := (0 : Int32)) hin27 (g := (mkF m 120 #[vR a1, vI 0, vI 1, vR at_, vI 0, vJ (((f_maxI et0 eu0).toInt64) - ((f_minI et0 el0).toInt64)), .second, .unset, .unset, .unset, .unset] [(.int (f_maxI et0 eu0)), (.int 0), (.ref oh)])) rfl rfl (bb d27_120)
  have V27 : Arv Z h27 oh kh_ .int (1 : Int32) [(.int (f_maxI et0 eu0))] (.int 0) := Arv.set Ar27 vq27 vS27 vN27 vH27 vG27 rfl W27 0 rfl (Nat.le_of_ble_eq_true rfl)
  have N27 := Fr.snoc X27 N25 g_oh
  have F29 := ((r5.other W17 (Or.inl ne_a1_ol)).other W27 (Or.inl ne_a1_oh))
  obtain ⟨T28, X28, e28, st28⟩ := getF X27 hx hZ hown (host := "") (Or.inl (ww 77 rfl)) Via.refl e27 F29 (g := (mkF m 122 #[vR a1, vI 0, vI 1, vR at_, vI 0, vJ (((f_maxI et0 eu0).toInt64) - ((f_minI et0 el0).toInt64)), .second, .unset, .unset, .unset, .unset] [(.ref a1)])) rfl rfl (bb d27_122)
  have F31 := ((r1.other W17 (Or.inl ne_a1_ol)).other W27 (Or.inl ne_a1_oh))
  obtain ⟨T30, X30, e30, st30⟩ := getF X28 hx hZ hown (host := "") (Or.inl (ww 75 rfl)) Via.refl e28 F31 (g := (mkF m 127 #[vR a1, vI 0, vI 1, vR at_, vI 0, vJ (((f_maxI et0 eu0).toInt64) - ((f_minI et0 el0).toInt64)), .second, .unset, .unset, .unset, .unset] [(.ref a1), (.int 0), (.ref ob)])) rfl rfl (bb d27_127)
  have F32 := ((r12.other W17 ne_ob_ol).other W27 ne_ob_oh)
  obtain ⟨cl33, Ar33, vq33, vS33, vN33, vH33, vG33⟩ := id F32
  have hin33 : ¬ (((0 : Int32) : Int32) < 0 ∨ cl33.slots.size ≤ ((0 : Int32) : Int32).toNatClampNeg) := inb_of vS33 ⟨by decide, by decide⟩
  have F34 := (F20.other W27 ne_at__oh)
  obtain ⟨cl35, Ar35, vq35, vS35, vN35, vH35, vG35⟩ := id F34
  have hin35 : ¬ (((0 : Int32) : Int32) < 0 ∨ cl35.slots.size ≤ ((0 : Int32) : Int32).toNatClampNeg) := inb_of vS35 ⟨by decide, by decide⟩
  have pre36 : ∀ t, GG p e below T30 (mkF m 148 #[vR a1, vI 0, vI 1, vR at_, vI 0, vI eb0, vJ ((et0.toInt64) - (eb0.toInt64)), .second, .unset, .unset, .unset] []) t → GG p e below s₁ (entryFrame m #[(.ref a1), (.int 0), (.int 1), (.ref at_)] 11) t := fun t k => pre0 t (by
      show GG p e below s₁ (mkF m 0 #[vR a1, vI 0, vI 1, vR at_, .unset, .unset, .unset, .unset, .unset, .unset, .unset] []) _
      refine XS.iconst X0.here hx rfl (bb d27_0) ?_
      refine XS.istore X0.here hx rfl (bb d27_1) rfl (l' := #[vR a1, vI 0, vI 1, vR at_, vI 0, .unset, .unset, .unset, .unset, .unset, .unset]) rfl ?_
      refine XS.iload X0.here hx rfl (bb d27_3) rfl ?_
      refine XS.aloadN X0.here hx rfl (bb d27_5) rfl rfl ?_
      refine st1 _ ?_
      refine XS.icmpNo X1.here hx rfl (bb d27_9) rfl (tlt (by decide : (0 : Int32) < (1 : Int32))).2.1 ?_
      refine XS.aloadN X1.here hx rfl (bb d27_12) rfl rfl ?_
      refine XS.iload X1.here hx rfl (bb d27_13) rfl ?_
      refine X1.iaload hx (j := (0 : Int32)) (v := (.int et0)) (by rw [e1]; exact Ar2.1) (State.isArrayOf_alike hZ.alike Ar2.2.1) Ar2.2.2 hin2 (vH2.at hin2 rfl) (g := (mkF m 15 #[vR a1, vI 0, vI 1, vR at_, vI 0, .unset, .unset, .unset, .unset, .unset, .unset] [(.int 0), (.ref at_)])) rfl rfl (bb d27_15) _ ?_
      refine XS.aloadN X1.here hx rfl (bb d27_16) rfl rfl ?_
      refine st3 _ ?_
      refine XS.iload X3.here hx rfl (bb d27_20) rfl ?_
      refine X3.iaload hx (j := (0 : Int32)) (v := (.int eu0)) (by rw [e3]; exact Ar4.1) (State.isArrayOf_alike hZ.alike Ar4.2.1) Ar4.2.2 hin4 (vH4.at hin4 rfl) (g := (mkF m 22 #[vR a1, vI 0, vI 1, vR at_, vI 0, .unset, .unset, .unset, .unset, .unset, .unset] [(.int 0), (.ref oh), (.int et0)])) rfl rfl (bb d27_22) _ ?_
      refine st5 _ ?_
      refine XS.i2l X5.here hx rfl (bb d27_26) rfl ?_
      refine XS.aloadN X5.here hx rfl (bb d27_27) rfl rfl ?_
      refine XS.iload X5.here hx rfl (bb d27_28) rfl ?_
      refine X5.iaload hx (j := (0 : Int32)) (v := (.int et0)) (by rw [e5]; exact Ar6.1) (State.isArrayOf_alike hZ.alike Ar6.2.1) Ar6.2.2 hin6 (vH6.at hin6 rfl) (g := (mkF m 30 #[vR a1, vI 0, vI 1, vR at_, vI 0, .unset, .unset, .unset, .unset, .unset, .unset] [(.int 0), (.ref at_), (.long ((f_maxI et0 eu0).toInt64))])) rfl rfl (bb d27_30) _ ?_
      refine XS.aloadN X5.here hx rfl (bb d27_31) rfl rfl ?_
      refine st7 _ ?_
      refine XS.iload X7.here hx rfl (bb d27_35) rfl ?_
      refine X7.iaload hx (j := (0 : Int32)) (v := (.int el0)) (by rw [e7]; exact Ar8.1) (State.isArrayOf_alike hZ.alike Ar8.2.1) Ar8.2.2 hin8 (vH8.at hin8 rfl) (g := (mkF m 37 #[vR a1, vI 0, vI 1, vR at_, vI 0, .unset, .unset, .unset, .unset, .unset, .unset] [(.int 0), (.ref ol), (.int et0), (.long ((f_maxI et0 eu0).toInt64))])) rfl rfl (bb d27_37) _ ?_
      refine st9 _ ?_
      refine XS.i2l X9.here hx rfl (bb d27_41) rfl ?_
      refine XS.lsub X9.here hx rfl (bb d27_42) rfl ?_
      refine XS.lstore X9.here hx rfl (bb d27_43) rfl (l' := #[vR a1, vI 0, vI 1, vR at_, vI 0, vJ (((f_maxI et0 eu0).toInt64) - ((f_minI et0 el0).toInt64)), .second, .unset, .unset, .unset, .unset]) rfl ?_
      refine XS.lload X9.here hx rfl (bb d27_45) rfl ?_
      refine X9.ldc2Long hx hown (mvT hZ (ww 198 rfl)) (g := (mkF m 47 #[vR a1, vI 0, vI 1, vR at_, vI 0, vJ (((f_maxI et0 eu0).toInt64) - ((f_minI et0 el0).toInt64)), .second, .unset, .unset, .unset, .unset] [(.long (((f_maxI et0 eu0).toInt64) - ((f_minI et0 el0).toInt64)))])) rfl (bb d27_47) _ ?_
      refine XS.lcmp X9.here hx rfl (bb d27_50) rfl ?_
      refine XS.ifYes X9.here hx rfl (pc0 := 51) (pc' := 61) rfl (bb d27_51) rfl ((if0 _ _).trans (tlt hs0).1) (by decide) (by decide) ?_
      refine XS.iinc X9.here hx rfl (bb d27_61) rfl (l' := #[vR a1, vI 0, vI 1, vR at_, vI 1, vJ (((f_maxI et0 eu0).toInt64) - ((f_minI et0 el0).toInt64)), .second, .unset, .unset, .unset, .unset]) rfl ?_
      refine XS.goto X9.here hx rfl (pc0 := 64) (pc' := 3) rfl (bb d27_64) (by decide) (by decide) ?_
      refine XS.iload X9.here hx rfl (bb d27_3) rfl ?_
      refine XS.aloadN X9.here hx rfl (bb d27_5) rfl rfl ?_
      refine st10 _ ?_
      refine XS.icmpYes X10.here hx rfl (pc0 := 9) (pc' := 67) rfl (bb d27_9) rfl (flt (by decide : ¬ ((1 : Int32) < (1 : Int32)))).2.1 (by decide) (by decide) ?_
      refine XS.iconst X10.here hx rfl (bb d27_67) ?_
      refine XS.istore X10.here hx rfl (bb d27_68) rfl (l' := #[vR a1, vI 0, vI 1, vR at_, vI 0, vJ (((f_maxI et0 eu0).toInt64) - ((f_minI et0 el0).toInt64)), .second, .unset, .unset, .unset, .unset]) rfl ?_
      refine XS.iload X10.here hx rfl (bb d27_70) rfl ?_
      refine XS.aloadN X10.here hx rfl (bb d27_72) rfl rfl ?_
      refine st11 _ ?_
      refine XS.icmpNo X11.here hx rfl (bb d27_76) rfl (tlt (by decide : (0 : Int32) < (1 : Int32))).2.1 ?_
      refine XS.aloadN X11.here hx rfl (bb d27_79) rfl rfl ?_
      refine st12 _ ?_
      refine XS.iload X12.here hx rfl (bb d27_83) rfl ?_
      refine XS.aloadN X12.here hx rfl (bb d27_85) rfl rfl ?_
      refine XS.iload X12.here hx rfl (bb d27_86) rfl ?_
      refine X12.iaload hx (j := (0 : Int32)) (v := (.int et0)) (by rw [e12]; exact Ar13.1) (State.isArrayOf_alike hZ.alike Ar13.2.1) Ar13.2.2 hin13 (vH13.at hin13 rfl) (g := (mkF m 88 #[vR a1, vI 0, vI 1, vR at_, vI 0, vJ (((f_maxI et0 eu0).toInt64) - ((f_minI et0 el0).toInt64)), .second, .unset, .unset, .unset, .unset] [(.int 0), (.ref at_), (.int 0), (.ref ol)])) rfl rfl (bb d27_88) _ ?_
      refine XS.aloadN X12.here hx rfl (bb d27_89) rfl rfl ?_
      refine st14 _ ?_
      refine XS.iload X14.here hx rfl (bb d27_93) rfl ?_
      refine X14.iaload hx (j := (0 : Int32)) (v := (.int el0)) (by rw [e14]; exact Ar15.1) (State.isArrayOf_alike hZ.alike Ar15.2.1) Ar15.2.2 hin15 (vH15.at hin15 rfl) (g := (mkF m 95 #[vR a1, vI 0, vI 1, vR at_, vI 0, vJ (((f_maxI et0 eu0).toInt64) - ((f_minI et0 el0).toInt64)), .second, .unset, .unset, .unset, .unset] [(.int 0), (.ref ol), (.int et0), (.int 0), (.ref ol)])) rfl rfl (bb d27_95) _ ?_
      refine st16 _ ?_
      refine st17 _ ?_
      refine XS.aloadN X17.here hx rfl (bb d27_100) rfl rfl ?_
      refine st18 _ ?_
      refine XS.iload X18.here hx rfl (bb d27_104) rfl ?_
      refine XS.aloadN X18.here hx rfl (bb d27_106) rfl rfl ?_
      refine XS.iload X18.here hx rfl (bb d27_107) rfl ?_
      refine X18.iaload hx (j := (0 : Int32)) (v := (.int et0)) (by rw [e18]; exact Ar21.1) (State.isArrayOf_alike hZ.alike Ar21.2.1) Ar21.2.2 hin21 (vH21.at hin21 rfl) (g := (mkF m 109 #[vR a1, vI 0, vI 1, vR at_, vI 0, vJ (((f_maxI et0 eu0).toInt64) - ((f_minI et0 el0).toInt64)), .second, .unset, .unset, .unset, .unset] [(.int 0), (.ref at_), (.int 0), (.ref oh)])) rfl rfl (bb d27_109) _ ?_
      refine XS.aloadN X18.here hx rfl (bb d27_110) rfl rfl ?_
      refine st22 _ ?_
      refine XS.iload X22.here hx rfl (bb d27_114) rfl ?_
      refine X22.iaload hx (j := (0 : Int32)) (v := (.int eu0)) (by rw [e22]; exact Ar24.1) (State.isArrayOf_alike hZ.alike Ar24.2.1) Ar24.2.2 hin24 (vH24.at hin24 rfl) (g := (mkF m 116 #[vR a1, vI 0, vI 1, vR at_, vI 0, vJ (((f_maxI et0 eu0).toInt64) - ((f_minI et0 el0).toInt64)), .second, .unset, .unset, .unset, .unset] [(.int 0), (.ref oh), (.int et0), (.int 0), (.ref oh)])) rfl rfl (bb d27_116) _ ?_
      refine st25 _ ?_
      refine st27 _ ?_
      refine XS.aloadN X27.here hx rfl (bb d27_121) rfl rfl ?_
      refine st28 _ ?_
      refine XS.iloadN X28.here hx rfl (bb d27_125) rfl ?_
      refine XS.aloadN X28.here hx rfl (bb d27_126) rfl rfl ?_
      refine st30 _ ?_
      refine XS.imul X30.here hx rfl (bb d27_130) rfl ?_
      refine XS.iload X30.here hx rfl (bb d27_131) rfl ?_
      refine XS.iadd X30.here hx rfl (bb d27_133) rfl ?_
      refine X30.iaload hx (j := (0 : Int32)) (v := (.int eb0)) (by rw [e30]; exact Ar33.1) (State.isArrayOf_alike hZ.alike Ar33.2.1) Ar33.2.2 hin33 (vH33.at hin33 rfl) (g := (mkF m 134 #[vR a1, vI 0, vI 1, vR at_, vI 0, vJ (((f_maxI et0 eu0).toInt64) - ((f_minI et0 el0).toInt64)), .second, .unset, .unset, .unset, .unset] [(.int 0), (.ref ob)])) rfl rfl (bb d27_134) _ ?_
      refine XS.istore X30.here hx rfl (bb d27_135) rfl (l' := #[vR a1, vI 0, vI 1, vR at_, vI 0, vI eb0, .unset, .unset, .unset, .unset, .unset]) rfl ?_
      refine XS.aloadN X30.here hx rfl (bb d27_137) rfl rfl ?_
      refine XS.iload X30.here hx rfl (bb d27_138) rfl ?_
      refine X30.iaload hx (j := (0 : Int32)) (v := (.int et0)) (by rw [e30]; exact Ar35.1) (State.isArrayOf_alike hZ.alike Ar35.2.1) Ar35.2.2 hin35 (vH35.at hin35 rfl) (g := (mkF m 140 #[vR a1, vI 0, vI 1, vR at_, vI 0, vI eb0, .unset, .unset, .unset, .unset, .unset] [(.int 0), (.ref at_)])) rfl rfl (bb d27_140) _ ?_
      refine XS.i2l X30.here hx rfl (bb d27_141) rfl ?_
      refine XS.iload X30.here hx rfl (bb d27_142) rfl ?_
      refine XS.i2l X30.here hx rfl (bb d27_144) rfl ?_
      refine XS.lsub X30.here hx rfl (bb d27_145) rfl ?_
      refine XS.lstore X30.here hx rfl (bb d27_146) rfl (l' := #[vR a1, vI 0, vI 1, vR at_, vI 0, vI eb0, vJ ((et0.toInt64) - (eb0.toInt64)), .second, .unset, .unset, .unset]) rfl ?_
      exact k)
  obtain ⟨T37, L37, h37, s8_37, s9_37, s10_37, X37, e37, N37, K37, f37_0, f37_1, o_s8_37, o_s9_37, o_s10_37, pre37⟩ : ∃ (T' : State) (L' : List Loc) (h' : Heap) (s8_37 : Slot) (s9_37 : Slot) (s10_37 : Slot), Stand p l e ({ frames := 2, cells := 0, slots := 0, locals := 30 } : Room) s m #[(.ref a1), (.int 0), (.int 1), (.ref at_)] below meth c T' L' 0 0 ∧ T'.heap = h' ∧ Fr n0 L' ∧ Keep h27 h' [ob, ov] ∧ Arv Z h' ob kb_ .int (1 : Int32) [(.int (nbase eb0 el0 eu0 et0))] (.int 0) ∧ Arv Z h' ov kv_ .char (8 : Int32) [(.int (nar .char (ev0_0 - (nbase eb0 el0 eu0 et0)))), (.int ex1), (.int ex2), (.int ex3), (.int ex4), (.int ex5), (.int ex6), (.int ex7)] (.int 0) ∧ One s8_37 ∧ One s9_37 ∧ One s10_37 ∧ ∀ t, GG p e below T' (mkF m 249 #[vR a1, vI 0, vI 1, vR at_, vI 0, vI eb0, vJ ((et0.toInt64) - (eb0.toInt64)), .second, s8_37, s9_37, s10_37] []) t → GG p e below s₁ (entryFrame m #[(.ref a1), (.int 0), (.int 1), (.ref at_)] 11) t := by
    by_cases g37 : ((lcmpW ((et0.toInt64) - (eb0.toInt64)) (0 : Int64)) < (0 : Int32)) ∨ ¬ ((lcmpW ((et0.toInt64) - (eb0.toInt64)) (65536 : Int64)) < (0 : Int32))
    · skip
      obtain ⟨T38, L38, X38, e38, N38, pre38⟩ : ∃ (T' : State) (L' : List Loc), Stand p l e ({ frames := 2, cells := 0, slots := 0, locals := 30 } : Room) s m #[(.ref a1), (.int 0), (.int 1), (.ref at_)] below meth c T' L' 0 0 ∧ T'.heap = h27 ∧ Fr n0 L' ∧ ∀ t, Steps p.tables e below (T'.setTop (mkF m 164 #[vR a1, vI 0, vI 1, vR at_, vI 0, vI eb0, vJ ((et0.toInt64) - (eb0.toInt64)), .second, .unset, .unset, .unset] [])) t → Steps p.tables e below (s₁.setTop (entryFrame m #[(.ref a1), (.int 0), (.int 1), (.ref at_)] 11)) t := by
        have pre39 : ∀ t, GG p e below T30 (mkF m 152 #[vR a1, vI 0, vI 1, vR at_, vI 0, vI eb0, vJ ((et0.toInt64) - (eb0.toInt64)), .second, .unset, .unset, .unset] [(.int (lcmpW ((et0.toInt64) - (eb0.toInt64)) (0 : Int64)))]) t → GG p e below s₁ (entryFrame m #[(.ref a1), (.int 0), (.int 1), (.ref at_)] 11) t := fun t k => pre36 t (by
            show GG p e below T30 (mkF m 148 #[vR a1, vI 0, vI 1, vR at_, vI 0, vI eb0, vJ ((et0.toInt64) - (eb0.toInt64)), .second, .unset, .unset, .unset] []) _
            refine XS.lload X30.here hx rfl (bb d27_148) rfl ?_
            refine XS.lconst X30.here hx rfl (bb d27_150) ?_
            refine XS.lcmp X30.here hx rfl (bb d27_151) rfl ?_
            exact k)
        by_cases g40 : (lcmpW ((et0.toInt64) - (eb0.toInt64)) (0 : Int64)) < (0 : Int32)
        · skip
          exact ⟨T30, _, X30, e30, N27, fun t k => pre39 t (by
              show GG p e below T30 (mkF m 152 #[vR a1, vI 0, vI 1, vR at_, vI 0, vI eb0, vJ ((et0.toInt64) - (eb0.toInt64)), .second, .unset, .unset, .unset] [(.int (lcmpW ((et0.toInt64) - (eb0.toInt64)) (0 : Int64)))]) _
              refine XS.ifYes X30.here hx rfl (pc0 := 152) (pc' := 164) rfl (bb d27_152) rfl ((if0 _ _).trans (tlt g40).1) (by decide) (by decide) ?_
              exact k)⟩
        · skip
          exact ⟨T30, _, X30, e30, N27, fun t k => pre39 t (by
              show GG p e below T30 (mkF m 152 #[vR a1, vI 0, vI 1, vR at_, vI 0, vI eb0, vJ ((et0.toInt64) - (eb0.toInt64)), .second, .unset, .unset, .unset] [(.int (lcmpW ((et0.toInt64) - (eb0.toInt64)) (0 : Int64)))]) _
              refine XS.ifNo X30.here hx rfl (bb d27_152) rfl ((if0 _ _).trans (flt g40).1) ?_
              refine XS.lload X30.here hx rfl (bb d27_155) rfl ?_
              refine X30.ldc2Long hx hown (mvT hZ (ww 198 rfl)) (g := (mkF m 157 #[vR a1, vI 0, vI 1, vR at_, vI 0, vI eb0, vJ ((et0.toInt64) - (eb0.toInt64)), .second, .unset, .unset, .unset] [(.long ((et0.toInt64) - (eb0.toInt64)))])) rfl (bb d27_157) _ ?_
              refine XS.lcmp X30.here hx rfl (bb d27_160) rfl ?_
              refine XS.ifNo X30.here hx rfl (bb d27_161) rfl ((if0 _ _).trans (flt (g37.resolve_left g40)).1) ?_
              exact k)⟩
      have F42 := ((r6.other W17 (Or.inl ne_a1_ol)).other W27 (Or.inl ne_a1_oh))
      obtain ⟨T41, X41, e41, st41⟩ := getF X38 hx hZ hown (host := "") (Or.inl (ww 79 rfl)) Via.refl e38 F42 (g := (mkF m 165 #[vR a1, vI 0, vI 1, vR at_, vI 0, vI eb0, vJ ((et0.toInt64) - (eb0.toInt64)), .second, .unset, .unset, .unset] [(.ref a1)])) rfl rfl (bb d27_165)
      have F43 := (V17.other W27 ne_ol_oh)
      obtain ⟨cl44, Ar44, vq44, vS44, vN44, vH44, vG44⟩ := id F43
      have hin44 : ¬ (((0 : Int32) : Int32) < 0 ∨ cl44.slots.size ≤ ((0 : Int32) : Int32).toNatClampNeg) := inb_of vS44 ⟨by decide, by decide⟩
      have F46 := (F19.other W27 (Or.inl ne_a1_oh))
      obtain ⟨T45, X45, e45, st45⟩ := getF X41 hx hZ hown (host := "") (Or.inl (ww 81 rfl)) Via.refl e41 F46 (g := (mkF m 172 #[vR a1, vI 0, vI 1, vR at_, vI 0, vI eb0, vJ ((et0.toInt64) - (eb0.toInt64)), .second, .unset, .unset, .unset] [(.ref a1), (.int (f_minI et0 el0))])) rfl rfl (bb d27_172)
      obtain ⟨cl47, Ar47, vq47, vS47, vN47, vH47, vG47⟩ := id V27
      have hin47 : ¬ (((0 : Int32) : Int32) < 0 ∨ cl47.slots.size ≤ ((0 : Int32) : Int32).toNatClampNeg) := inb_of vS47 ⟨by decide, by decide⟩
      have O49 := (O26.wr W27 g_oh)
      obtain ⟨_, _, ⟨T48, L48, k48, n48⟩, -, X48, ⟨Lc48, hQ48, l48, y48, z48⟩, st48⟩ := Jvm.LawKit.callS X45 hx (y := (⟨cRV, "base", "(II)I"⟩ : MethodName)) hown (mvT hZ (ww 170 rfl)) (mvT hZ (ww 171 rfl)) (mvT hZ (ww 62 rfl)) (mvT hZ (ww 172 rfl)) (by decide) (backOf (W := 0) (rm_base l Z a0 hw [] wDE (f_minI et0 el0) (f_maxI et0 eu0) h27 n0 (own_z0 O49) S_wDE O49 S_CS) hZ (ww 172 rfl) (ww 62 rfl) (by decide) (by decide)) (g := (mkF m 178 #[vR a1, vI 0, vI 1, vR at_, vI 0, vI eb0, vJ ((et0.toInt64) - (eb0.toInt64)), .second, .unset, .unset, .unset] [(.int (f_maxI et0 eu0)), (.int (f_minI et0 el0))])) rfl (by rw [hml]; rfl) (argsL := [(.int (f_minI et0 el0)), (.int (f_maxI et0 eu0))]) (rest := []) (lenOf pd__II_I_5 rfl) rfl (by show 2 * 0 + _ ≤ _; exact Nat.le_of_eq rfl) (bb d27_178) (fun _ _ => ⟨rfl, e45, (by decide : 0 + 0 ≤ _), (by decide : 0 + 0 ≤ _)⟩)
      dsimp only [Pt.U, Pt.locs, Pt.cells, Pt.slots] at X48 l48 y48 z48 st48 hQ48
      subst l48 y48 z48
      obtain ⟨rfl, N48q, e48⟩ := hQ48
      have N48 := Fr.app N38 N48q
      have F51 := ((r4.other W17 (Or.inl ne_a1_ol)).other W27 (Or.inl ne_a1_oh))
      obtain ⟨T50, X50, e50, st50⟩ := getF X48 hx hZ hown (host := "") (Or.inl (ww 73 rfl)) Via.refl e48 F51 (g := (mkF m 184 #[vR a1, vI 0, vI 1, vR at_, vI 0, vI eb0, vJ ((et0.toInt64) - (eb0.toInt64)), .second, vI (f_base (f_minI et0 el0) (f_maxI et0 eu0)), .unset, .unset] [(.ref a1)])) rfl rfl (bb d27_184)
      have F52 := ((r10.other W17 ne_on_ol).other W27 ne_on_oh)
      obtain ⟨cl53, Ar53, vq53, vS53, vN53, vH53, vG53⟩ := id F52
      have hin53 : ¬ (((0 : Int32) : Int32) < 0 ∨ cl53.slots.size ≤ ((0 : Int32) : Int32).toNatClampNeg) := inb_of vS53 ⟨by decide, by decide⟩
      obtain ⟨T54, X54, e54, st54⟩ := getF X50 hx hZ hown (host := "") (Or.inl (ww 75 rfl)) Via.refl e50 F31 (g := (mkF m 199 #[vR a1, vI 0, vI 1, vR at_, vI 0, vI eb0, vJ ((et0.toInt64) - (eb0.toInt64)), .second, vI (f_base (f_minI et0 el0) (f_maxI et0 eu0)), vR ov, vI 0] [(.ref a1), (.int 1), (.int 0)])) rfl rfl (bb d27_199)
      have F55 := ((r15.other W17 (Ne.symm ne_ol_ov)).other W27 (Ne.symm ne_oh_ov))
      obtain ⟨cl56, Ar56, vq56, vS56, vN56, vH56, vG56⟩ := id F55
      have hin56 : ¬ (((0 : Int32) : Int32) < 0 ∨ cl56.slots.size ≤ ((0 : Int32) : Int32).toNatClampNeg) := inb_of vS56 ⟨by decide, by decide⟩
      obtain ⟨cl57, Ar57, vq57, vS57, vN57, vH57, vG57⟩ := id F55
      have hin57 : ¬ (((0 : Int32) : Int32) < 0 ∨ cl57.slots.size ≤ ((0 : Int32) : Int32).toNatClampNeg) := inb_of vS57 ⟨by decide, by decide⟩
      obtain ⟨T57, h57, X57, e57, W57, st57⟩ := stC X54 hx hZ e54 Ar57 (j := (0 : Int32)) hin57 (g := (mkF m 220 #[vR a1, vI 0, vI 1, vR at_, vI 0, vI eb0, vJ ((et0.toInt64) - (eb0.toInt64)), .second, vI (f_base (f_minI et0 el0) (f_maxI et0 eu0)), vR ov, vI 0] [(.int (((nar .char (ev0_0 - eb0)) + ((eb0 - (f_base (f_minI et0 el0) (f_maxI et0 eu0))).toUInt32.toUInt16.toUInt32.toInt32)).toUInt32.toUInt16.toUInt32.toInt32)), (.int 0), (.ref ov)])) rfl rfl (bb d27_220)
      have V57 : Arv Z h57 ov kv_ .char (8 : Int32) [(.int (nar .char (((nar .char (ev0_0 - eb0)) + ((eb0 - (f_base (f_minI et0 el0) (f_maxI et0 eu0))).toUInt32.toUInt16.toUInt32.toInt32)).toUInt32.toUInt16.toUInt32.toInt32))), (.int ex1), (.int ex2), (.int ex3), (.int ex4), (.int ex5), (.int ex6), (.int ex7)] (.int 0) := Arv.set Ar57 vq57 vS57 vN57 vH57 vG57 (fits_nar_char _) W57 0 rfl (Nat.le_of_ble_eq_true rfl)
      have N57 := Fr.snoc X57 N48 g_ov
      have F59 := (F31.other W57 (Or.inl ne_a1_ov))
      obtain ⟨T58, X58, e58, st58⟩ := getF X57 hx hZ hown (host := "") (Or.inl (ww 75 rfl)) Via.refl e57 F59 (g := (mkF m 224 #[vR a1, vI 0, vI 1, vR at_, vI 0, vI eb0, vJ ((et0.toInt64) - (eb0.toInt64)), .second, vI (f_base (f_minI et0 el0) (f_maxI et0 eu0)), vR ov, vI 0] [(.ref a1), (.int 0)])) rfl rfl (bb d27_224)
      obtain ⟨T60, X60, e60, st60⟩ := getF X58 hx hZ hown (host := "") (Or.inl (ww 75 rfl)) Via.refl e58 F59 (g := (mkF m 199 #[vR a1, vI 0, vI 1, vR at_, vI 0, vI eb0, vJ ((et0.toInt64) - (eb0.toInt64)), .second, vI (f_base (f_minI et0 el0) (f_maxI et0 eu0)), vR ov, vI 1] [(.ref a1), (.int 1), (.int 1)])) rfl rfl (bb d27_199)
      have F62 := (F29.other W57 (Or.inl ne_a1_ov))
      obtain ⟨T61, X61, e61, st61⟩ := getF X60 hx hZ hown (host := "") (Or.inl (ww 77 rfl)) Via.refl e60 F62 (g := (mkF m 234 #[vR a1, vI 0, vI 1, vR at_, vI 0, vI eb0, vJ ((et0.toInt64) - (eb0.toInt64)), .second, vI (f_base (f_minI et0 el0) (f_maxI et0 eu0)), vR ov, vI 1] [(.ref a1)])) rfl rfl (bb d27_234)
      obtain ⟨T63, X63, e63, st63⟩ := getF X61 hx hZ hown (host := "") (Or.inl (ww 75 rfl)) Via.refl e61 F59 (g := (mkF m 239 #[vR a1, vI 0, vI 1, vR at_, vI 0, vI eb0, vJ ((et0.toInt64) - (eb0.toInt64)), .second, vI (f_base (f_minI et0 el0) (f_maxI et0 eu0)), vR ov, vI 1] [(.ref a1), (.int 0), (.ref ob)])) rfl rfl (bb d27_239)
      have F64 := (F32.other W57 ne_ob_ov)
      obtain ⟨cl65, Ar65, vq65, vS65, vN65, vH65, vG65⟩ := id F64
      have hin65 : ¬ (((0 : Int32) : Int32) < 0 ∨ cl65.slots.size ≤ ((0 : Int32) : Int32).toNatClampNeg) := inb_of vS65 ⟨by decide, by decide⟩
      obtain ⟨T65, h65, X65, e65, W65, st65⟩ := stI X63 hx hZ e63 Ar65 (j := (0 : Int32)) hin65 (g := (mkF m 248 #[vR a1, vI 0, vI 1, vR at_, vI 0, vI eb0, vJ ((et0.toInt64) - (eb0.toInt64)), .second, vI (f_base (f_minI et0 el0) (f_maxI et0 eu0)), vR ov, vI 1] [(.int (f_base (f_minI et0 el0) (f_maxI et0 eu0))), (.int 0), (.ref ob)])) rfl rfl (bb d27_248)
      have V65 : Arv Z h65 ob kb_ .int (1 : Int32) [(.int (f_base (f_minI et0 el0) (f_maxI et0 eu0)))] (.int 0) := Arv.set Ar65 vq65 vS65 vN65 vH65 vG65 rfl W65 0 rfl (Nat.le_of_ble_eq_true rfl)
      have N65 := Fr.snoc X65 N57 g_ob
      have F66 := (V57.other W65 (Ne.symm ne_ob_ov))
      refine ⟨T65, _, h65, (vI (f_base (f_minI et0 el0) (f_maxI et0 eu0))), (vR ov), (vI 1), X65, e65, N65, (((Keep.refl h27 [ob, ov]).wr W57 (Or.inl (List.mem_of_getElem? (i := 1) rfl))).wr W65 (Or.inl (List.mem_of_getElem? (i := 0) rfl))), (by simp only [nbase, if_pos g37]; exact V65), (by simp only [nbase, if_pos g37]; have q := F66; simp only [own_ch] at q; exact q), (One.val rfl), (One.val rfl), (One.val rfl), fun t k => pre38 t ?_⟩
      show GG p e below T38 (mkF m 164 #[vR a1, vI 0, vI 1, vR at_, vI 0, vI eb0, vJ ((et0.toInt64) - (eb0.toInt64)), .second, .unset, .unset, .unset] []) _
      refine XS.aloadN X38.here hx rfl (bb d27_164) rfl rfl ?_
      refine st41 _ ?_
      refine XS.iload X41.here hx rfl (bb d27_168) rfl ?_
      refine X41.iaload hx (j := (0 : Int32)) (v := (.int (f_minI et0 el0))) (by rw [e41]; exact Ar44.1) (State.isArrayOf_alike hZ.alike Ar44.2.1) Ar44.2.2 hin44 (vH44.at hin44 rfl) (g := (mkF m 170 #[vR a1, vI 0, vI 1, vR at_, vI 0, vI eb0, vJ ((et0.toInt64) - (eb0.toInt64)), .second, .unset, .unset, .unset] [(.int 0), (.ref ol)])) rfl rfl (bb d27_170) _ ?_
      refine XS.aloadN X41.here hx rfl (bb d27_171) rfl rfl ?_
      refine st45 _ ?_
      refine XS.iload X45.here hx rfl (bb d27_175) rfl ?_
      refine X45.iaload hx (j := (0 : Int32)) (v := (.int (f_maxI et0 eu0))) (by rw [e45]; exact Ar47.1) (State.isArrayOf_alike hZ.alike Ar47.2.1) Ar47.2.2 hin47 (vH47.at hin47 rfl) (g := (mkF m 177 #[vR a1, vI 0, vI 1, vR at_, vI 0, vI eb0, vJ ((et0.toInt64) - (eb0.toInt64)), .second, .unset, .unset, .unset] [(.int 0), (.ref oh), (.int (f_minI et0 el0))])) rfl rfl (bb d27_177) _ ?_
      refine st48 _ ?_
      refine XS.istore X48.here hx rfl (bb d27_181) rfl (l' := #[vR a1, vI 0, vI 1, vR at_, vI 0, vI eb0, vJ ((et0.toInt64) - (eb0.toInt64)), .second, vI (f_base (f_minI et0 el0) (f_maxI et0 eu0)), .unset, .unset]) rfl ?_
      refine XS.aloadN X48.here hx rfl (bb d27_183) rfl rfl ?_
      refine st50 _ ?_
      refine XS.iloadN X50.here hx rfl (bb d27_187) rfl ?_
      refine X50.aaload hx (j := (0 : Int32)) (v := (.ref ov)) (by rw [e50]; exact Ar53.1) (State.isArrayOf_alike hZ.alike Ar53.2.1) rfl Ar53.2.2 hin53 (vH53.at hin53 rfl) (g := (mkF m 188 #[vR a1, vI 0, vI 1, vR at_, vI 0, vI eb0, vJ ((et0.toInt64) - (eb0.toInt64)), .second, vI (f_base (f_minI et0 el0) (f_maxI et0 eu0)), .unset, .unset] [(.int 0), (.ref on)])) rfl rfl (bb d27_188) _ ?_
      refine XS.astore X50.here hx rfl (bb d27_189) rfl rfl (l' := #[vR a1, vI 0, vI 1, vR at_, vI 0, vI eb0, vJ ((et0.toInt64) - (eb0.toInt64)), .second, vI (f_base (f_minI et0 el0) (f_maxI et0 eu0)), vR ov, .unset]) rfl ?_
      refine XS.iload X50.here hx rfl (bb d27_191) rfl ?_
      refine XS.istore X50.here hx rfl (bb d27_193) rfl (l' := #[vR a1, vI 0, vI 1, vR at_, vI 0, vI eb0, vJ ((et0.toInt64) - (eb0.toInt64)), .second, vI (f_base (f_minI et0 el0) (f_maxI et0 eu0)), vR ov, vI 0]) rfl ?_
      refine XS.iload X50.here hx rfl (bb d27_195) rfl ?_
      refine XS.iloadN X50.here hx rfl (bb d27_197) rfl ?_
      refine XS.aloadN X50.here hx rfl (bb d27_198) rfl rfl ?_
      refine st54 _ ?_
      refine XS.imul X54.here hx rfl (bb d27_202) rfl ?_
      refine XS.icmpNo X54.here hx rfl (bb d27_203) rfl (tlt (by decide : (0 : Int32) < (1 : Int32))).2.1 ?_
      refine XS.aload X54.here hx rfl (bb d27_206) rfl rfl ?_
      refine XS.iload X54.here hx rfl (bb d27_208) rfl ?_
      refine Jvm.Free.XT.dup2 X54.here hx rfl (bb d27_210) rfl rfl rfl ?_
      refine X54.caload hx (j := (0 : Int32)) (v := (.int (nar .char (ev0_0 - eb0)))) (by rw [e54]; exact Ar56.1) (State.isArrayOf_alike hZ.alike Ar56.2.1) Ar56.2.2 hin56 (vH56.at hin56 rfl) (g := (mkF m 211 #[vR a1, vI 0, vI 1, vR at_, vI 0, vI eb0, vJ ((et0.toInt64) - (eb0.toInt64)), .second, vI (f_base (f_minI et0 el0) (f_maxI et0 eu0)), vR ov, vI 0] [(.int 0), (.ref ov), (.int 0), (.ref ov)])) rfl rfl (bb d27_211) _ ?_
      refine XS.iload X54.here hx rfl (bb d27_212) rfl ?_
      refine XS.iload X54.here hx rfl (bb d27_214) rfl ?_
      refine XS.isub X54.here hx rfl (bb d27_216) rfl ?_
      refine XS.i2c X54.here hx rfl (bb d27_217) rfl ?_
      refine XS.iadd X54.here hx rfl (bb d27_218) rfl ?_
      refine XS.i2c X54.here hx rfl (bb d27_219) rfl ?_
      refine st57 _ ?_
      refine XS.iload X57.here hx rfl (bb d27_221) rfl ?_
      refine XS.aloadN X57.here hx rfl (bb d27_223) rfl rfl ?_
      refine st58 _ ?_
      refine XS.iadd X58.here hx rfl (bb d27_227) rfl ?_
      refine XS.istore X58.here hx rfl (bb d27_228) rfl (l' := #[vR a1, vI 0, vI 1, vR at_, vI 0, vI eb0, vJ ((et0.toInt64) - (eb0.toInt64)), .second, vI (f_base (f_minI et0 el0) (f_maxI et0 eu0)), vR ov, vI 1]) rfl ?_
      refine XS.goto X58.here hx rfl (pc0 := 230) (pc' := 195) rfl (bb d27_230) (by decide) (by decide) ?_
      refine XS.iload X58.here hx rfl (bb d27_195) rfl ?_
      refine XS.iloadN X58.here hx rfl (bb d27_197) rfl ?_
      refine XS.aloadN X58.here hx rfl (bb d27_198) rfl rfl ?_
      refine st60 _ ?_
      refine XS.imul X60.here hx rfl (bb d27_202) rfl ?_
      refine XS.icmpYes X60.here hx rfl (pc0 := 203) (pc' := 233) rfl (bb d27_203) rfl (flt (by decide : ¬ ((1 : Int32) < (1 : Int32)))).2.1 (by decide) (by decide) ?_
      refine XS.aloadN X60.here hx rfl (bb d27_233) rfl rfl ?_
      refine st61 _ ?_
      refine XS.iloadN X61.here hx rfl (bb d27_237) rfl ?_
      refine XS.aloadN X61.here hx rfl (bb d27_238) rfl rfl ?_
      refine st63 _ ?_
      refine XS.imul X63.here hx rfl (bb d27_242) rfl ?_
      refine XS.iload X63.here hx rfl (bb d27_243) rfl ?_
      refine XS.iadd X63.here hx rfl (bb d27_245) rfl ?_
      refine XS.iload X63.here hx rfl (bb d27_246) rfl ?_
      refine st65 _ ?_
      exact k
    · skip
      have F67 := ((r15.other W17 (Ne.symm ne_ol_ov)).other W27 (Ne.symm ne_oh_ov))
      refine ⟨T30, _, h27, (.unset), (.unset), (.unset), X30, e30, N27, (Keep.refl h27 [ob, ov]), (by simp only [nbase, if_neg g37]; exact F32), (by simp only [nbase, if_neg g37]; have q := F67; exact q), One.u, One.u, One.u, fun t k => pre36 t ?_⟩
      show GG p e below T30 (mkF m 148 #[vR a1, vI 0, vI 1, vR at_, vI 0, vI eb0, vJ ((et0.toInt64) - (eb0.toInt64)), .second, .unset, .unset, .unset] []) _
      refine XS.lload X30.here hx rfl (bb d27_148) rfl ?_
      refine XS.lconst X30.here hx rfl (bb d27_150) ?_
      refine XS.lcmp X30.here hx rfl (bb d27_151) rfl ?_
      refine XS.ifNo X30.here hx rfl (bb d27_152) rfl ((if0 _ _).trans (flt (fun q => g37 (Or.inl q))).1) ?_
      refine XS.lload X30.here hx rfl (bb d27_155) rfl ?_
      refine X30.ldc2Long hx hown (mvT hZ (ww 198 rfl)) (g := (mkF m 157 #[vR a1, vI 0, vI 1, vR at_, vI 0, vI eb0, vJ ((et0.toInt64) - (eb0.toInt64)), .second, .unset, .unset, .unset] [(.long ((et0.toInt64) - (eb0.toInt64)))])) rfl (bb d27_157) _ ?_
      refine XS.lcmp X30.here hx rfl (bb d27_160) rfl ?_
      refine XS.ifYes X30.here hx rfl (pc0 := 161) (pc' := 249) rfl (bb d27_161) rfl ((if0 _ _).trans (tlt (Decidable.of_not_not fun q => g37 (Or.inr q))).1) (by decide) (by decide) ?_
      exact k
  have F69 := (F31.keep K37 (ninS ne_a1_ob (ninS ne_a1_ov nin0)))
  obtain ⟨T68, X68, e68, st68⟩ := getF X37 hx hZ hown (host := "") (Or.inl (ww 75 rfl)) Via.refl e37 F69 (g := (mkF m 73 #[vR a1, vI 0, vI 1, vR at_, vI 1, vI eb0, vJ ((et0.toInt64) - (eb0.toInt64)), .second, s8_37, s9_37, s10_37] [(.ref a1), (.int 1)])) rfl rfl (bb d27_73)
  have F70 := ((V17.other W27 ne_ol_oh).keep K37 (ninS (Ne.symm ne_ob_ol) (ninS ne_ol_ov nin0)))
  have F71 := (V27.keep K37 (ninS (Ne.symm ne_ob_oh) (ninS ne_oh_ov nin0)))
  obtain ⟨fs, hr, hrun, hended, hW, hsame⟩ := X68.leave (v := none) (fun _ => rfl)
  refine ⟨_, _, pre37 _ ?_, hrun, hended, _, _, rfl, ?_, ⟨_, rfl⟩, hW, hsame.mono (by decide) (by decide)⟩
  · show GG p e below T37 (mkF m 249 #[vR a1, vI 0, vI 1, vR at_, vI 0, vI eb0, vJ ((et0.toInt64) - (eb0.toInt64)), .second, s8_37, s9_37, s10_37] []) _
    refine XS.iinc X37.here hx rfl (bb d27_249) rfl (l' := #[vR a1, vI 0, vI 1, vR at_, vI 1, vI eb0, vJ ((et0.toInt64) - (eb0.toInt64)), .second, s8_37, s9_37, s10_37]) rfl ?_
    refine XS.goto X37.here hx rfl (pc0 := 252) (pc' := 70) rfl (bb d27_252) (by decide) (by decide) ?_
    refine XS.iload X37.here hx rfl (bb d27_70) rfl ?_
    refine XS.aloadN X37.here hx rfl (bb d27_72) rfl rfl ?_
    refine st68 _ ?_
    refine XS.icmpYes X68.here hx rfl (pc0 := 76) (pc' := 255) rfl (bb d27_76) rfl (flt (by decide : ¬ ((1 : Int32) < (1 : Int32)))).2.1 (by decide) (by decide) ?_
    exact X68.returnOut hx Bd.returns (bb d27_255) hr
  · show Q_fit1_1 Z wDE a1 at_ ow on ob ol oh ov kw_ kn_ kb_ kl_ kh_ kv_ eb0 el0 eu0 ev0_0 ex1 ex2 ex3 ex4 ex5 ex6 ex7 kt_ et0 h0 n0 _ T68.heap _
    rw [e68]
    exact ⟨rfl, N37, ((((Keep.refl h0 [ob, ol, oh, ov]).wr W17 (Or.inl (List.mem_of_getElem? (i := 1) rfl))).wr W27 (Or.inl (List.mem_of_getElem? (i := 2) rfl))).trans K37 (allS (Or.inl (List.mem_of_getElem? (i := 0) rfl)) (allS (Or.inl (List.mem_of_getElem? (i := 3) rfl)) all0))), F70, F71, f37_0, f37_1⟩
def Q_fit1_2 (Z : State) (wDE a1 at_ ow on ob ol oh ov : Addr) (kw_ kn_ kb_ kl_ kh_ kv_ : ClassId) (eb0 el0 eu0 ev0_0 ev1_0 ex2 ex3 ex4 ex5 ex6 ex7 : Int32) (kt_ : ClassId) (et0 : Int32) (h0 : Heap) (n0 : Nat) (v : Option Value) (h : Heap) (L : List Loc) : Prop := v = none ∧ Fr n0 L ∧ Keep h0 h [ob, ol, oh, ov] ∧ Arv Z h ol kl_ .int (1 : Int32) [(.int (f_minI et0 el0))] (.int 0) ∧ Arv Z h oh kh_ .int (1 : Int32) [(.int (f_maxI et0 eu0))] (.int 0) ∧ Arv Z h ob kb_ .int (1 : Int32) [(.int (nbase eb0 el0 eu0 et0))] (.int 0) ∧ Arv Z h ov kv_ .char (8 : Int32) [(.int (nar .char (ev0_0 - (nbase eb0 el0 eu0 et0)))), (.int (nar .char (ev1_0 - (nbase eb0 el0 eu0 et0)))), (.int ex2), (.int ex3), (.int ex4), (.int ex5), (.int ex6), (.int ex7)] (.int 0)
set_option maxRecDepth 65536 in
set_option maxHeartbeats 40000000 in
theorem rm_fit1_2 (l : Launch) (Z : State) (a0 : Array Value) (hw : ∀ d ∈ tables_1, d.before a0 Z = true) (ws : List Jvm.Cond) (wDE : Addr) (a1 at_ ow on ob ol oh ov : Addr) (kw_ kn_ kb_ kl_ kh_ kv_ : ClassId) (eb0 el0 eu0 ev0_0 ev1_0 ex2 ex3 ex4 ex5 ex6 ex7 : Int32) (kt_ : ClassId) (et0 : Int32) (h0 : Heap) (n0 : Nat) (Z0 : n0 ≤ h0.size) (S_wDE : Sta Z Z.heap "java/util/ArrayList" "DEFAULTCAPACITY_EMPTY_ELEMENTDATA" "[Ljava/lang/Object;" (.ref wDE)) (O0 : Old Z n0 h0) (S_CS : Sta Z Z.heap cRV "CHUNK_SHIFT" "I" (.int (12 : Int32))) (r0 : Exa Z h0 a1 cRV) (r1 : Fld Z h0 a1 cRV "arity" "I" (.int 1)) (r2 : Fld Z h0 a1 cRV "rows" "I" (.int 2)) (r3 : Fld Z h0 a1 cRV "wide" "[[I" (.ref ow)) (r4 : Fld Z h0 a1 cRV "narrow" "[[C" (.ref on)) (r5 : Fld Z h0 a1 cRV "bases" "[I" (.ref ob)) (r6 : Fld Z h0 a1 cRV "lowest" "[I" (.ref ol)) (r7 : Fld Z h0 a1 cRV "highest" "[I" (.ref oh)) (r8 : Arv Z h0 ow kw_ (.array .int) (1 : Int32) [.null] .null) (r9 : OvrA Z kw_ .int "[I") (r10 : Arv Z h0 on kn_ (.array .char) (1 : Int32) [(.ref ov)] .null) (r11 : OvrA Z kn_ .char "[C") (r12 : Arv Z h0 ob kb_ .int (1 : Int32) [(.int eb0)] (.int 0)) (r13 : Arv Z h0 ol kl_ .int (1 : Int32) [(.int el0)] (.int 0)) (r14 : Arv Z h0 oh kh_ .int (1 : Int32) [(.int eu0)] (.int 0)) (r15 : Arv Z h0 ov kv_ .char (8 : Int32) [(.int (nar .char (ev0_0 - eb0))), (.int (nar .char (ev1_0 - eb0))), (.int ex2), (.int ex3), (.int ex4), (.int ex5), (.int ex6), (.int ex7)] (.int 0)) (r16 : Arv Z h0 at_ kt_ .int (1 : Int32) [(.int et0)] (.int 0)) (g_ob : n0 ≤ ob) (g_ol : n0 ≤ ol) (g_oh : n0 ≤ oh) (g_ov : n0 ≤ ov) (ne_a1_ow : a1 ≠ ow) (ne_a1_on : a1 ≠ on) (ne_a1_ob : a1 ≠ ob) (ne_a1_ol : a1 ≠ ol) (ne_a1_oh : a1 ≠ oh) (ne_a1_ov : a1 ≠ ov) (ne_ow_on : ow ≠ on) (ne_ow_ob : ow ≠ ob) (ne_ow_ol : ow ≠ ol) (ne_ow_oh : ow ≠ oh) (ne_ow_ov : ow ≠ ov) (ne_on_ob : on ≠ ob) (ne_on_ol : on ≠ ol) (ne_on_oh : on ≠ oh) (ne_on_ov : on ≠ ov) (ne_ob_ol : ob ≠ ol) (ne_ob_oh : ob ≠ oh) (ne_ob_ov : ob ≠ ov) (ne_ol_oh : ol ≠ oh) (ne_ol_ov : ol ≠ ov) (ne_oh_ov : oh ≠ ov) (ne_at__a1 : at_ ≠ a1) (ne_at__ow : at_ ≠ ow) (ne_at__on : at_ ≠ on) (ne_at__ob : at_ ≠ ob) (ne_at__ol : at_ ≠ ol) (ne_at__oh : at_ ≠ oh) (ne_at__ov : at_ ≠ ov) (hs0 : (lcmpW (((f_maxI et0 eu0).toInt64) - ((f_minI et0 el0).toInt64)) (65536 : Int64)) < (0 : Int32)) :
    MetFree l (⟨cRV, "fit", "(II[I)V"⟩ : MethodName) (head1 (Jvm.Cond.code (⟨cRV, "fit", "(II[I)V"⟩ : MethodName) prog_48_method_7_code 11 none :: ws) ({ frames := 2, cells := 0, slots := 0, locals := 30 } : Room)) (fun a U => a = #[(.ref a1), (.int 0), (.int 2), (.ref at_)] ∧ Z.Warmed39 U.vm ∧ U.heap = h0) (fun _ _ _ _ _ => True) (fun _ U o U' => ∃ v L, o = .returned v ∧ Q_fit1_2 Z wDE a1 at_ ow on ob ol oh ov kw_ kn_ kb_ kl_ kh_ kv_ eb0 el0 eu0 ev0_0 ev1_0 ex2 ex3 ex4 ex5 ex6 ex7 kt_ et0 h0 n0 v U'.heap L ∧ FrameEnd U o U' L ({ frames := 2, cells := 0, slots := 0, locals := 30 } : Room).cells ({ frames := 2, cells := 0, slots := 0, locals := 30 } : Room).slots) := by
  refine MetFree.of_bodySF (plainFor_of_name pn_RowValues) hisR ?_
  intro p e s m args below meth c s₁ Bd hml0 hP hK
  obtain ⟨rfl, hZ, hh⟩ := hP
  have hx := Bd.exec
  have hby := Bd.bytes
  have bb := fun {pc : Nat} {r : Except DecodeError (Instr × Nat)} (h : decode prog_48_method_7_code pc = r) => hb hby h
  have ww := fun (i : Nat) {d : Jvm.Cond} (h : tables_1[i]? = some d) => hw d (List.mem_of_getElem? h)
  have hml : c.maxLocals = 11 := hml0
  have hown : s.vm.findClass cRV = some m.cls := findClass_of_methodNamed Bd.named
  have hnm := (name_of_methodNamed Bd.named Bd.method).1
  have X0 : Stand p l e ({ frames := 2, cells := 0, slots := 0, locals := 30 } : Room) s m #[(.ref a1), (.int 0), (.int 2), (.ref at_)] below meth c s₁ [] 0 0 := Stand.of_body Bd
  have e0 : s₁.heap = h0 := by rw [← hh, Bd.state]; rfl
  have N0 := Fr.nil n0
  have pre0 : ∀ t, Steps p.tables e below (s₁.setTop (mkF m 0 #[vR a1, vI 0, vI 2, vR at_, .unset, .unset, .unset, .unset, .unset, .unset, .unset] [])) t → Steps p.tables e below (s₁.setTop (entryFrame m #[(.ref a1), (.int 0), (.int 2), (.ref at_)] 11)) t := fun t k => castTop (ef_fit1_2 m a1 at_) k
  obtain ⟨T1, X1, e1, st1⟩ := getF X0 hx hZ hown (host := "") (Or.inl (ww 75 rfl)) Via.refl e0 r1 (g := (mkF m 6 #[vR a1, vI 0, vI 2, vR at_, vI 0, .unset, .unset, .unset, .unset, .unset, .unset] [(.ref a1), (.int 0)])) rfl rfl (bb d27_6)
  obtain ⟨cl2, Ar2, vq2, vS2, vN2, vH2, vG2⟩ := id r16
  have hin2 : ¬ (((0 : Int32) : Int32) < 0 ∨ cl2.slots.size ≤ ((0 : Int32) : Int32).toNatClampNeg) := inb_of vS2 ⟨by decide, by decide⟩
  obtain ⟨T3, X3, e3, st3⟩ := getF X1 hx hZ hown (host := "") (Or.inl (ww 81 rfl)) Via.refl e1 r7 (g := (mkF m 17 #[vR a1, vI 0, vI 2, vR at_, vI 0, .unset, .unset, .unset, .unset, .unset, .unset] [(.ref a1), (.int et0)])) rfl rfl (bb d27_17)
  obtain ⟨cl4, Ar4, vq4, vS4, vN4, vH4, vG4⟩ := id r14
  have hin4 : ¬ (((0 : Int32) : Int32) < 0 ∨ cl4.slots.size ≤ ((0 : Int32) : Int32).toNatClampNeg) := inb_of vS4 ⟨by decide, by decide⟩
  obtain ⟨_, _, ⟨T5, L5, k5, n5⟩, -, X5, ⟨Lc5, hQ5, l5, y5, z5⟩, st5⟩ := Jvm.LawKit.callS X3 hx (y := (⟨"java/lang/Math", "max", "(II)I"⟩ : MethodName)) hown (mvT hZ (ww 195 rfl)) (mvT hZ (ww 196 rfl)) (mvT hZ (ww 178 rfl)) (mvT hZ (ww 197 rfl)) (by decide) (backOf (W := 0) (rm_maxI l Z a0 hw [] wDE et0 eu0 h0 n0 (own_z0 O0) S_wDE O0 S_CS) hZ (ww 197 rfl) (ww 178 rfl) (by decide) (by decide)) (g := (mkF m 23 #[vR a1, vI 0, vI 2, vR at_, vI 0, .unset, .unset, .unset, .unset, .unset, .unset] [(.int eu0), (.int et0)])) rfl (by rw [hml]; rfl) (argsL := [(.int et0), (.int eu0)]) (rest := []) (lenOf pd__II_I_5 rfl) rfl (by show 2 * 0 + _ ≤ _; exact Nat.le_of_eq rfl) (bb d27_23) (fun _ _ => ⟨rfl, e3, (by decide : 0 + 0 ≤ _), (by decide : 0 + 0 ≤ _)⟩)
  dsimp only [Pt.U, Pt.locs, Pt.cells, Pt.slots] at X5 l5 y5 z5 st5 hQ5
  subst l5 y5 z5
  obtain ⟨rfl, N5q, e5⟩ := hQ5
  have N5 := Fr.app N0 N5q
  obtain ⟨cl6, Ar6, vq6, vS6, vN6, vH6, vG6⟩ := id r16
  have hin6 : ¬ (((0 : Int32) : Int32) < 0 ∨ cl6.slots.size ≤ ((0 : Int32) : Int32).toNatClampNeg) := inb_of vS6 ⟨by decide, by decide⟩
  obtain ⟨T7, X7, e7, st7⟩ := getF X5 hx hZ hown (host := "") (Or.inl (ww 79 rfl)) Via.refl e5 r6 (g := (mkF m 32 #[vR a1, vI 0, vI 2, vR at_, vI 0, .unset, .unset, .unset, .unset, .unset, .unset] [(.ref a1), (.int et0), (.long ((f_maxI et0 eu0).toInt64))])) rfl rfl (bb d27_32)
  obtain ⟨cl8, Ar8, vq8, vS8, vN8, vH8, vG8⟩ := id r13
  have hin8 : ¬ (((0 : Int32) : Int32) < 0 ∨ cl8.slots.size ≤ ((0 : Int32) : Int32).toNatClampNeg) := inb_of vS8 ⟨by decide, by decide⟩
  obtain ⟨_, _, ⟨T9, L9, k9, n9⟩, -, X9, ⟨Lc9, hQ9, l9, y9, z9⟩, st9⟩ := Jvm.LawKit.callS X7 hx (y := (⟨"java/lang/Math", "min", "(II)I"⟩ : MethodName)) hown (mvT hZ (ww 188 rfl)) (mvT hZ (ww 189 rfl)) (mvT hZ (ww 178 rfl)) (mvT hZ (ww 190 rfl)) (by decide) (backOf (W := 2) (rm_minI l Z a0 hw [] wDE et0 el0 h0 n0 (own_z0 O0) S_wDE O0 S_CS) hZ (ww 190 rfl) (ww 178 rfl) (by decide) (by decide)) (g := (mkF m 38 #[vR a1, vI 0, vI 2, vR at_, vI 0, .unset, .unset, .unset, .unset, .unset, .unset] [(.int el0), (.int et0), (.long ((f_maxI et0 eu0).toInt64))])) rfl (by rw [hml]; rfl) (argsL := [(.int et0), (.int el0)]) (rest := [(.long ((f_maxI et0 eu0).toInt64))]) (lenOf pd__II_I_5 rfl) rfl (by show 2 * 0 + _ ≤ _; exact Nat.le_of_eq rfl) (bb d27_38) (fun _ _ => ⟨rfl, e7, (by decide : 0 + 0 ≤ _), (by decide : 0 + 0 ≤ _)⟩)
  dsimp only [Pt.U, Pt.locs, Pt.cells, Pt.slots] at X9 l9 y9 z9 st9 hQ9
  subst l9 y9 z9
  obtain ⟨rfl, N9q, e9⟩ := hQ9
  have N9 := Fr.app N5 N9q
  obtain ⟨T10, X10, e10, st10⟩ := getF X9 hx hZ hown (host := "") (Or.inl (ww 75 rfl)) Via.refl e9 r1 (g := (mkF m 6 #[vR a1, vI 0, vI 2, vR at_, vI 1, vJ (((f_maxI et0 eu0).toInt64) - ((f_minI et0 el0).toInt64)), .second, .unset, .unset, .unset, .unset] [(.ref a1), (.int 1)])) rfl rfl (bb d27_6)
  obtain ⟨T11, X11, e11, st11⟩ := getF X10 hx hZ hown (host := "") (Or.inl (ww 75 rfl)) Via.refl e10 r1 (g := (mkF m 73 #[vR a1, vI 0, vI 2, vR at_, vI 0, vJ (((f_maxI et0 eu0).toInt64) - ((f_minI et0 el0).toInt64)), .second, .unset, .unset, .unset, .unset] [(.ref a1), (.int 0)])) rfl rfl (bb d27_73)
  obtain ⟨T12, X12, e12, st12⟩ := getF X11 hx hZ hown (host := "") (Or.inl (ww 79 rfl)) Via.refl e11 r6 (g := (mkF m 80 #[vR a1, vI 0, vI 2, vR at_, vI 0, vJ (((f_maxI et0 eu0).toInt64) - ((f_minI et0 el0).toInt64)), .second, .unset, .unset, .unset, .unset] [(.ref a1)])) rfl rfl (bb d27_80)
  obtain ⟨cl13, Ar13, vq13, vS13, vN13, vH13, vG13⟩ := id r16
  have hin13 : ¬ (((0 : Int32) : Int32) < 0 ∨ cl13.slots.size ≤ ((0 : Int32) : Int32).toNatClampNeg) := inb_of vS13 ⟨by decide, by decide⟩
  obtain ⟨T14, X14, e14, st14⟩ := getF X12 hx hZ hown (host := "") (Or.inl (ww 79 rfl)) Via.refl e12 r6 (g := (mkF m 90 #[vR a1, vI 0, vI 2, vR at_, vI 0, vJ (((f_maxI et0 eu0).toInt64) - ((f_minI et0 el0).toInt64)), .second, .unset, .unset, .unset, .unset] [(.ref a1), (.int et0), (.int 0), (.ref ol)])) rfl rfl (bb d27_90)
  obtain ⟨cl15, Ar15, vq15, vS15, vN15, vH15, vG15⟩ := id r13
  have hin15 : ¬ (((0 : Int32) : Int32) < 0 ∨ cl15.slots.size ≤ ((0 : Int32) : Int32).toNatClampNeg) := inb_of vS15 ⟨by decide, by decide⟩
  obtain ⟨_, _, ⟨T16, L16, k16, n16⟩, -, X16, ⟨Lc16, hQ16, l16, y16, z16⟩, st16⟩ := Jvm.LawKit.callS X14 hx (y := (⟨"java/lang/Math", "min", "(II)I"⟩ : MethodName)) hown (mvT hZ (ww 188 rfl)) (mvT hZ (ww 189 rfl)) (mvT hZ (ww 178 rfl)) (mvT hZ (ww 190 rfl)) (by decide) (backOf (W := 2) (rm_minI l Z a0 hw [] wDE et0 el0 h0 n0 (own_z0 O0) S_wDE O0 S_CS) hZ (ww 190 rfl) (ww 178 rfl) (by decide) (by decide)) (g := (mkF m 96 #[vR a1, vI 0, vI 2, vR at_, vI 0, vJ (((f_maxI et0 eu0).toInt64) - ((f_minI et0 el0).toInt64)), .second, .unset, .unset, .unset, .unset] [(.int el0), (.int et0), (.int 0), (.ref ol)])) rfl (by rw [hml]; rfl) (argsL := [(.int et0), (.int el0)]) (rest := [(.int 0), (.ref ol)]) (lenOf pd__II_I_5 rfl) rfl (by show 2 * 0 + _ ≤ _; exact Nat.le_of_eq rfl) (bb d27_96) (fun _ _ => ⟨rfl, e14, (by decide : 0 + 0 ≤ _), (by decide : 0 + 0 ≤ _)⟩)
  dsimp only [Pt.U, Pt.locs, Pt.cells, Pt.slots] at X16 l16 y16 z16 st16 hQ16
  subst l16 y16 z16
  obtain ⟨rfl, N16q, e16⟩ := hQ16
  have N16 := Fr.app N9 N16q
  obtain ⟨cl17, Ar17, vq17, vS17, vN17, vH17, vG17⟩ := id r13
  have hin17 : ¬ (((0 : Int32) : Int32) < 0 ∨ cl17.slots.size ≤ ((0 : Int32) : Int32).toNatClampNeg) := inb_of vS17 ⟨by decide, by decide⟩
  obtain ⟨T17, h17, X17, e17, W17, st17⟩ := stI X16 hx hZ e16 Ar17 (j := (0 : Int32)) hin17 (g := (mkF m 99 #[vR a1, vI 0, vI 2, vR at_, vI 0, vJ (((f_maxI et0 eu0).toInt64) - ((f_minI et0 el0).toInt64)), .second, .unset, .unset, .unset, .unset] [(.int (f_minI et0 el0)), (.int 0), (.ref ol)])) rfl rfl (bb d27_99)
  have V17 : Arv Z h17 ol kl_ .int (1 : Int32) [(.int (f_minI et0 el0))] (.int 0) := Arv.set Ar17 vq17 vS17 vN17 vH17 vG17 rfl W17 0 rfl (Nat.le_of_ble_eq_true rfl)
  have N17 := Fr.snoc X17 N16 g_ol
  have F19 := (r7.other W17 (Or.inl ne_a1_ol))
  obtain ⟨T18, X18, e18, st18⟩ := getF X17 hx hZ hown (host := "") (Or.inl (ww 81 rfl)) Via.refl e17 F19 (g := (mkF m 101 #[vR a1, vI 0, vI 2, vR at_, vI 0, vJ (((f_maxI et0 eu0).toInt64) - ((f_minI et0 el0).toInt64)), .second, .unset, .unset, .unset, .unset] [(.ref a1)])) rfl rfl (bb d27_101)
  have F20 := (r16.other W17 ne_at__ol)
  obtain ⟨cl21, Ar21, vq21, vS21, vN21, vH21, vG21⟩ := id F20
  have hin21 : ¬ (((0 : Int32) : Int32) < 0 ∨ cl21.slots.size ≤ ((0 : Int32) : Int32).toNatClampNeg) := inb_of vS21 ⟨by decide, by decide⟩
  obtain ⟨T22, X22, e22, st22⟩ := getF X18 hx hZ hown (host := "") (Or.inl (ww 81 rfl)) Via.refl e18 F19 (g := (mkF m 111 #[vR a1, vI 0, vI 2, vR at_, vI 0, vJ (((f_maxI et0 eu0).toInt64) - ((f_minI et0 el0).toInt64)), .second, .unset, .unset, .unset, .unset] [(.ref a1), (.int et0), (.int 0), (.ref oh)])) rfl rfl (bb d27_111)
  have F23 := (r14.other W17 (Ne.symm ne_ol_oh))
  obtain ⟨cl24, Ar24, vq24, vS24, vN24, vH24, vG24⟩ := id F23
  have hin24 : ¬ (((0 : Int32) : Int32) < 0 ∨ cl24.slots.size ≤ ((0 : Int32) : Int32).toNatClampNeg) := inb_of vS24 ⟨by decide, by decide⟩
  have O26 := (O0.wr W17 g_ol)
  obtain ⟨_, _, ⟨T25, L25, k25, n25⟩, -, X25, ⟨Lc25, hQ25, l25, y25, z25⟩, st25⟩ := Jvm.LawKit.callS X22 hx (y := (⟨"java/lang/Math", "max", "(II)I"⟩ : MethodName)) hown (mvT hZ (ww 195 rfl)) (mvT hZ (ww 196 rfl)) (mvT hZ (ww 178 rfl)) (mvT hZ (ww 197 rfl)) (by decide) (backOf (W := 2) (rm_maxI l Z a0 hw [] wDE et0 eu0 h17 n0 (own_z0 O26) S_wDE O26 S_CS) hZ (ww 197 rfl) (ww 178 rfl) (by decide) (by decide)) (g := (mkF m 117 #[vR a1, vI 0, vI 2, vR at_, vI 0, vJ (((f_maxI et0 eu0).toInt64) - ((f_minI et0 el0).toInt64)), .second, .unset, .unset, .unset, .unset] [(.int eu0), (.int et0), (.int 0), (.ref oh)])) rfl (by rw [hml]; rfl) (argsL := [(.int et0), (.int eu0)]) (rest := [(.int 0), (.ref oh)]) (lenOf pd__II_I_5 rfl) rfl (by show 2 * 0 + _ ≤ _; exact Nat.le_of_eq rfl) (bb d27_117) (fun _ _ => ⟨rfl, e22, (by decide : 0 + 0 ≤ _), (by decide : 0 + 0 ≤ _)⟩)
  dsimp only [Pt.U, Pt.locs, Pt.cells, Pt.slots] at X25 l25 y25 z25 st25 hQ25
  subst l25 y25 z25
  obtain ⟨rfl, N25q, e25⟩ := hQ25
  have N25 := Fr.app N17 N25q
  obtain ⟨cl27, Ar27, vq27, vS27, vN27, vH27, vG27⟩ := id F23
  have hin27 : ¬ (((0 : Int32) : Int32) < 0 ∨ cl27.slots.size ≤ ((0 : Int32) : Int32).toNatClampNeg) := inb_of vS27 ⟨by decide, by decide⟩
  obtain ⟨T27, h27, X27, e27, W27, st27⟩ := stI X25 hx hZ e25 Ar27 (j := (0 : Int32)) hin27 (g := (mkF m 120 #[vR a1, vI 0, vI 2, vR at_, vI 0, vJ (((f_maxI et0 eu0).toInt64) - ((f_minI et0 el0).toInt64)), .second, .unset, .unset, .unset, .unset] [(.int (f_maxI et0 eu0)), (.int 0), (.ref oh)])) rfl rfl (bb d27_120)
  have V27 : Arv Z h27 oh kh_ .int (1 : Int32) [(.int (f_maxI et0 eu0))] (.int 0) := Arv.set Ar27 vq27 vS27 vN27 vH27 vG27 rfl W27 0 rfl (Nat.le_of_ble_eq_true rfl)
  have N27 := Fr.snoc X27 N25 g_oh
  have F29 := ((r5.other W17 (Or.inl ne_a1_ol)).other W27 (Or.inl ne_a1_oh))
  obtain ⟨T28, X28, e28, st28⟩ := getF X27 hx hZ hown (host := "") (Or.inl (ww 77 rfl)) Via.refl e27 F29 (g := (mkF m 122 #[vR a1, vI 0, vI 2, vR at_, vI 0, vJ (((f_maxI et0 eu0).toInt64) - ((f_minI et0 el0).toInt64)), .second, .unset, .unset, .unset, .unset] [(.ref a1)])) rfl rfl (bb d27_122)
  have F31 := ((r1.other W17 (Or.inl ne_a1_ol)).other W27 (Or.inl ne_a1_oh))
  obtain ⟨T30, X30, e30, st30⟩ := getF X28 hx hZ hown (host := "") (Or.inl (ww 75 rfl)) Via.refl e28 F31 (g := (mkF m 127 #[vR a1, vI 0, vI 2, vR at_, vI 0, vJ (((f_maxI et0 eu0).toInt64) - ((f_minI et0 el0).toInt64)), .second, .unset, .unset, .unset, .unset] [(.ref a1), (.int 0), (.ref ob)])) rfl rfl (bb d27_127)
  have F32 := ((r12.other W17 ne_ob_ol).other W27 ne_ob_oh)
  obtain ⟨cl33, Ar33, vq33, vS33, vN33, vH33, vG33⟩ := id F32
  have hin33 : ¬ (((0 : Int32) : Int32) < 0 ∨ cl33.slots.size ≤ ((0 : Int32) : Int32).toNatClampNeg) := inb_of vS33 ⟨by decide, by decide⟩
  have F34 := (F20.other W27 ne_at__oh)
  obtain ⟨cl35, Ar35, vq35, vS35, vN35, vH35, vG35⟩ := id F34
  have hin35 : ¬ (((0 : Int32) : Int32) < 0 ∨ cl35.slots.size ≤ ((0 : Int32) : Int32).toNatClampNeg) := inb_of vS35 ⟨by decide, by decide⟩
  have pre36 : ∀ t, GG p e below T30 (mkF m 148 #[vR a1, vI 0, vI 2, vR at_, vI 0, vI eb0, vJ ((et0.toInt64) - (eb0.toInt64)), .second, .unset, .unset, .unset] []) t → GG p e below s₁ (entryFrame m #[(.ref a1), (.int 0), (.int 2), (.ref at_)] 11) t := fun t k => pre0 t (by
      show GG p e below s₁ (mkF m 0 #[vR a1, vI 0, vI 2, vR at_, .unset, .unset, .unset, .unset, .unset, .unset, .unset] []) _
      refine XS.iconst X0.here hx rfl (bb d27_0) ?_
      refine XS.istore X0.here hx rfl (bb d27_1) rfl (l' := #[vR a1, vI 0, vI 2, vR at_, vI 0, .unset, .unset, .unset, .unset, .unset, .unset]) rfl ?_
      refine XS.iload X0.here hx rfl (bb d27_3) rfl ?_
      refine XS.aloadN X0.here hx rfl (bb d27_5) rfl rfl ?_
      refine st1 _ ?_
      refine XS.icmpNo X1.here hx rfl (bb d27_9) rfl (tlt (by decide : (0 : Int32) < (1 : Int32))).2.1 ?_
      refine XS.aloadN X1.here hx rfl (bb d27_12) rfl rfl ?_
      refine XS.iload X1.here hx rfl (bb d27_13) rfl ?_
      refine X1.iaload hx (j := (0 : Int32)) (v := (.int et0)) (by rw [e1]; exact Ar2.1) (State.isArrayOf_alike hZ.alike Ar2.2.1) Ar2.2.2 hin2 (vH2.at hin2 rfl) (g := (mkF m 15 #[vR a1, vI 0, vI 2, vR at_, vI 0, .unset, .unset, .unset, .unset, .unset, .unset] [(.int 0), (.ref at_)])) rfl rfl (bb d27_15) _ ?_
      refine XS.aloadN X1.here hx rfl (bb d27_16) rfl rfl ?_
      refine st3 _ ?_
      refine XS.iload X3.here hx rfl (bb d27_20) rfl ?_
      refine X3.iaload hx (j := (0 : Int32)) (v := (.int eu0)) (by rw [e3]; exact Ar4.1) (State.isArrayOf_alike hZ.alike Ar4.2.1) Ar4.2.2 hin4 (vH4.at hin4 rfl) (g := (mkF m 22 #[vR a1, vI 0, vI 2, vR at_, vI 0, .unset, .unset, .unset, .unset, .unset, .unset] [(.int 0), (.ref oh), (.int et0)])) rfl rfl (bb d27_22) _ ?_
      refine st5 _ ?_
      refine XS.i2l X5.here hx rfl (bb d27_26) rfl ?_
      refine XS.aloadN X5.here hx rfl (bb d27_27) rfl rfl ?_
      refine XS.iload X5.here hx rfl (bb d27_28) rfl ?_
      refine X5.iaload hx (j := (0 : Int32)) (v := (.int et0)) (by rw [e5]; exact Ar6.1) (State.isArrayOf_alike hZ.alike Ar6.2.1) Ar6.2.2 hin6 (vH6.at hin6 rfl) (g := (mkF m 30 #[vR a1, vI 0, vI 2, vR at_, vI 0, .unset, .unset, .unset, .unset, .unset, .unset] [(.int 0), (.ref at_), (.long ((f_maxI et0 eu0).toInt64))])) rfl rfl (bb d27_30) _ ?_
      refine XS.aloadN X5.here hx rfl (bb d27_31) rfl rfl ?_
      refine st7 _ ?_
      refine XS.iload X7.here hx rfl (bb d27_35) rfl ?_
      refine X7.iaload hx (j := (0 : Int32)) (v := (.int el0)) (by rw [e7]; exact Ar8.1) (State.isArrayOf_alike hZ.alike Ar8.2.1) Ar8.2.2 hin8 (vH8.at hin8 rfl) (g := (mkF m 37 #[vR a1, vI 0, vI 2, vR at_, vI 0, .unset, .unset, .unset, .unset, .unset, .unset] [(.int 0), (.ref ol), (.int et0), (.long ((f_maxI et0 eu0).toInt64))])) rfl rfl (bb d27_37) _ ?_
      refine st9 _ ?_
      refine XS.i2l X9.here hx rfl (bb d27_41) rfl ?_
      refine XS.lsub X9.here hx rfl (bb d27_42) rfl ?_
      refine XS.lstore X9.here hx rfl (bb d27_43) rfl (l' := #[vR a1, vI 0, vI 2, vR at_, vI 0, vJ (((f_maxI et0 eu0).toInt64) - ((f_minI et0 el0).toInt64)), .second, .unset, .unset, .unset, .unset]) rfl ?_
      refine XS.lload X9.here hx rfl (bb d27_45) rfl ?_
      refine X9.ldc2Long hx hown (mvT hZ (ww 198 rfl)) (g := (mkF m 47 #[vR a1, vI 0, vI 2, vR at_, vI 0, vJ (((f_maxI et0 eu0).toInt64) - ((f_minI et0 el0).toInt64)), .second, .unset, .unset, .unset, .unset] [(.long (((f_maxI et0 eu0).toInt64) - ((f_minI et0 el0).toInt64)))])) rfl (bb d27_47) _ ?_
      refine XS.lcmp X9.here hx rfl (bb d27_50) rfl ?_
      refine XS.ifYes X9.here hx rfl (pc0 := 51) (pc' := 61) rfl (bb d27_51) rfl ((if0 _ _).trans (tlt hs0).1) (by decide) (by decide) ?_
      refine XS.iinc X9.here hx rfl (bb d27_61) rfl (l' := #[vR a1, vI 0, vI 2, vR at_, vI 1, vJ (((f_maxI et0 eu0).toInt64) - ((f_minI et0 el0).toInt64)), .second, .unset, .unset, .unset, .unset]) rfl ?_
      refine XS.goto X9.here hx rfl (pc0 := 64) (pc' := 3) rfl (bb d27_64) (by decide) (by decide) ?_
      refine XS.iload X9.here hx rfl (bb d27_3) rfl ?_
      refine XS.aloadN X9.here hx rfl (bb d27_5) rfl rfl ?_
      refine st10 _ ?_
      refine XS.icmpYes X10.here hx rfl (pc0 := 9) (pc' := 67) rfl (bb d27_9) rfl (flt (by decide : ¬ ((1 : Int32) < (1 : Int32)))).2.1 (by decide) (by decide) ?_
      refine XS.iconst X10.here hx rfl (bb d27_67) ?_
      refine XS.istore X10.here hx rfl (bb d27_68) rfl (l' := #[vR a1, vI 0, vI 2, vR at_, vI 0, vJ (((f_maxI et0 eu0).toInt64) - ((f_minI et0 el0).toInt64)), .second, .unset, .unset, .unset, .unset]) rfl ?_
      refine XS.iload X10.here hx rfl (bb d27_70) rfl ?_
      refine XS.aloadN X10.here hx rfl (bb d27_72) rfl rfl ?_
      refine st11 _ ?_
      refine XS.icmpNo X11.here hx rfl (bb d27_76) rfl (tlt (by decide : (0 : Int32) < (1 : Int32))).2.1 ?_
      refine XS.aloadN X11.here hx rfl (bb d27_79) rfl rfl ?_
      refine st12 _ ?_
      refine XS.iload X12.here hx rfl (bb d27_83) rfl ?_
      refine XS.aloadN X12.here hx rfl (bb d27_85) rfl rfl ?_
      refine XS.iload X12.here hx rfl (bb d27_86) rfl ?_
      refine X12.iaload hx (j := (0 : Int32)) (v := (.int et0)) (by rw [e12]; exact Ar13.1) (State.isArrayOf_alike hZ.alike Ar13.2.1) Ar13.2.2 hin13 (vH13.at hin13 rfl) (g := (mkF m 88 #[vR a1, vI 0, vI 2, vR at_, vI 0, vJ (((f_maxI et0 eu0).toInt64) - ((f_minI et0 el0).toInt64)), .second, .unset, .unset, .unset, .unset] [(.int 0), (.ref at_), (.int 0), (.ref ol)])) rfl rfl (bb d27_88) _ ?_
      refine XS.aloadN X12.here hx rfl (bb d27_89) rfl rfl ?_
      refine st14 _ ?_
      refine XS.iload X14.here hx rfl (bb d27_93) rfl ?_
      refine X14.iaload hx (j := (0 : Int32)) (v := (.int el0)) (by rw [e14]; exact Ar15.1) (State.isArrayOf_alike hZ.alike Ar15.2.1) Ar15.2.2 hin15 (vH15.at hin15 rfl) (g := (mkF m 95 #[vR a1, vI 0, vI 2, vR at_, vI 0, vJ (((f_maxI et0 eu0).toInt64) - ((f_minI et0 el0).toInt64)), .second, .unset, .unset, .unset, .unset] [(.int 0), (.ref ol), (.int et0), (.int 0), (.ref ol)])) rfl rfl (bb d27_95) _ ?_
      refine st16 _ ?_
      refine st17 _ ?_
      refine XS.aloadN X17.here hx rfl (bb d27_100) rfl rfl ?_
      refine st18 _ ?_
      refine XS.iload X18.here hx rfl (bb d27_104) rfl ?_
      refine XS.aloadN X18.here hx rfl (bb d27_106) rfl rfl ?_
      refine XS.iload X18.here hx rfl (bb d27_107) rfl ?_
      refine X18.iaload hx (j := (0 : Int32)) (v := (.int et0)) (by rw [e18]; exact Ar21.1) (State.isArrayOf_alike hZ.alike Ar21.2.1) Ar21.2.2 hin21 (vH21.at hin21 rfl) (g := (mkF m 109 #[vR a1, vI 0, vI 2, vR at_, vI 0, vJ (((f_maxI et0 eu0).toInt64) - ((f_minI et0 el0).toInt64)), .second, .unset, .unset, .unset, .unset] [(.int 0), (.ref at_), (.int 0), (.ref oh)])) rfl rfl (bb d27_109) _ ?_
      refine XS.aloadN X18.here hx rfl (bb d27_110) rfl rfl ?_
      refine st22 _ ?_
      refine XS.iload X22.here hx rfl (bb d27_114) rfl ?_
      refine X22.iaload hx (j := (0 : Int32)) (v := (.int eu0)) (by rw [e22]; exact Ar24.1) (State.isArrayOf_alike hZ.alike Ar24.2.1) Ar24.2.2 hin24 (vH24.at hin24 rfl) (g := (mkF m 116 #[vR a1, vI 0, vI 2, vR at_, vI 0, vJ (((f_maxI et0 eu0).toInt64) - ((f_minI et0 el0).toInt64)), .second, .unset, .unset, .unset, .unset] [(.int 0), (.ref oh), (.int et0), (.int 0), (.ref oh)])) rfl rfl (bb d27_116) _ ?_
      refine st25 _ ?_
      refine st27 _ ?_
      refine XS.aloadN X27.here hx rfl (bb d27_121) rfl rfl ?_
      refine st28 _ ?_
      refine XS.iloadN X28.here hx rfl (bb d27_125) rfl ?_
      refine XS.aloadN X28.here hx rfl (bb d27_126) rfl rfl ?_
      refine st30 _ ?_
      refine XS.imul X30.here hx rfl (bb d27_130) rfl ?_
      refine XS.iload X30.here hx rfl (bb d27_131) rfl ?_
      refine XS.iadd X30.here hx rfl (bb d27_133) rfl ?_
      refine X30.iaload hx (j := (0 : Int32)) (v := (.int eb0)) (by rw [e30]; exact Ar33.1) (State.isArrayOf_alike hZ.alike Ar33.2.1) Ar33.2.2 hin33 (vH33.at hin33 rfl) (g := (mkF m 134 #[vR a1, vI 0, vI 2, vR at_, vI 0, vJ (((f_maxI et0 eu0).toInt64) - ((f_minI et0 el0).toInt64)), .second, .unset, .unset, .unset, .unset] [(.int 0), (.ref ob)])) rfl rfl (bb d27_134) _ ?_
      refine XS.istore X30.here hx rfl (bb d27_135) rfl (l' := #[vR a1, vI 0, vI 2, vR at_, vI 0, vI eb0, .unset, .unset, .unset, .unset, .unset]) rfl ?_
      refine XS.aloadN X30.here hx rfl (bb d27_137) rfl rfl ?_
      refine XS.iload X30.here hx rfl (bb d27_138) rfl ?_
      refine X30.iaload hx (j := (0 : Int32)) (v := (.int et0)) (by rw [e30]; exact Ar35.1) (State.isArrayOf_alike hZ.alike Ar35.2.1) Ar35.2.2 hin35 (vH35.at hin35 rfl) (g := (mkF m 140 #[vR a1, vI 0, vI 2, vR at_, vI 0, vI eb0, .unset, .unset, .unset, .unset, .unset] [(.int 0), (.ref at_)])) rfl rfl (bb d27_140) _ ?_
      refine XS.i2l X30.here hx rfl (bb d27_141) rfl ?_
      refine XS.iload X30.here hx rfl (bb d27_142) rfl ?_
      refine XS.i2l X30.here hx rfl (bb d27_144) rfl ?_
      refine XS.lsub X30.here hx rfl (bb d27_145) rfl ?_
      refine XS.lstore X30.here hx rfl (bb d27_146) rfl (l' := #[vR a1, vI 0, vI 2, vR at_, vI 0, vI eb0, vJ ((et0.toInt64) - (eb0.toInt64)), .second, .unset, .unset, .unset]) rfl ?_
      exact k)
  obtain ⟨T37, L37, h37, s8_37, s9_37, s10_37, X37, e37, N37, K37, f37_0, f37_1, o_s8_37, o_s9_37, o_s10_37, pre37⟩ : ∃ (T' : State) (L' : List Loc) (h' : Heap) (s8_37 : Slot) (s9_37 : Slot) (s10_37 : Slot), Stand p l e ({ frames := 2, cells := 0, slots := 0, locals := 30 } : Room) s m #[(.ref a1), (.int 0), (.int 2), (.ref at_)] below meth c T' L' 0 0 ∧ T'.heap = h' ∧ Fr n0 L' ∧ Keep h27 h' [ob, ov] ∧ Arv Z h' ob kb_ .int (1 : Int32) [(.int (nbase eb0 el0 eu0 et0))] (.int 0) ∧ Arv Z h' ov kv_ .char (8 : Int32) [(.int (nar .char (ev0_0 - (nbase eb0 el0 eu0 et0)))), (.int (nar .char (ev1_0 - (nbase eb0 el0 eu0 et0)))), (.int ex2), (.int ex3), (.int ex4), (.int ex5), (.int ex6), (.int ex7)] (.int 0) ∧ One s8_37 ∧ One s9_37 ∧ One s10_37 ∧ ∀ t, GG p e below T' (mkF m 249 #[vR a1, vI 0, vI 2, vR at_, vI 0, vI eb0, vJ ((et0.toInt64) - (eb0.toInt64)), .second, s8_37, s9_37, s10_37] []) t → GG p e below s₁ (entryFrame m #[(.ref a1), (.int 0), (.int 2), (.ref at_)] 11) t := by
    by_cases g37 : ((lcmpW ((et0.toInt64) - (eb0.toInt64)) (0 : Int64)) < (0 : Int32)) ∨ ¬ ((lcmpW ((et0.toInt64) - (eb0.toInt64)) (65536 : Int64)) < (0 : Int32))
    · skip
      obtain ⟨T38, L38, X38, e38, N38, pre38⟩ : ∃ (T' : State) (L' : List Loc), Stand p l e ({ frames := 2, cells := 0, slots := 0, locals := 30 } : Room) s m #[(.ref a1), (.int 0), (.int 2), (.ref at_)] below meth c T' L' 0 0 ∧ T'.heap = h27 ∧ Fr n0 L' ∧ ∀ t, Steps p.tables e below (T'.setTop (mkF m 164 #[vR a1, vI 0, vI 2, vR at_, vI 0, vI eb0, vJ ((et0.toInt64) - (eb0.toInt64)), .second, .unset, .unset, .unset] [])) t → Steps p.tables e below (s₁.setTop (entryFrame m #[(.ref a1), (.int 0), (.int 2), (.ref at_)] 11)) t := by
        have pre39 : ∀ t, GG p e below T30 (mkF m 152 #[vR a1, vI 0, vI 2, vR at_, vI 0, vI eb0, vJ ((et0.toInt64) - (eb0.toInt64)), .second, .unset, .unset, .unset] [(.int (lcmpW ((et0.toInt64) - (eb0.toInt64)) (0 : Int64)))]) t → GG p e below s₁ (entryFrame m #[(.ref a1), (.int 0), (.int 2), (.ref at_)] 11) t := fun t k => pre36 t (by
            show GG p e below T30 (mkF m 148 #[vR a1, vI 0, vI 2, vR at_, vI 0, vI eb0, vJ ((et0.toInt64) - (eb0.toInt64)), .second, .unset, .unset, .unset] []) _
            refine XS.lload X30.here hx rfl (bb d27_148) rfl ?_
            refine XS.lconst X30.here hx rfl (bb d27_150) ?_
            refine XS.lcmp X30.here hx rfl (bb d27_151) rfl ?_
            exact k)
        by_cases g40 : (lcmpW ((et0.toInt64) - (eb0.toInt64)) (0 : Int64)) < (0 : Int32)
        · skip
          exact ⟨T30, _, X30, e30, N27, fun t k => pre39 t (by
              show GG p e below T30 (mkF m 152 #[vR a1, vI 0, vI 2, vR at_, vI 0, vI eb0, vJ ((et0.toInt64) - (eb0.toInt64)), .second, .unset, .unset, .unset] [(.int (lcmpW ((et0.toInt64) - (eb0.toInt64)) (0 : Int64)))]) _
              refine XS.ifYes X30.here hx rfl (pc0 := 152) (pc' := 164) rfl (bb d27_152) rfl ((if0 _ _).trans (tlt g40).1) (by decide) (by decide) ?_
              exact k)⟩
        · skip
          exact ⟨T30, _, X30, e30, N27, fun t k => pre39 t (by
              show GG p e below T30 (mkF m 152 #[vR a1, vI 0, vI 2, vR at_, vI 0, vI eb0, vJ ((et0.toInt64) - (eb0.toInt64)), .second, .unset, .unset, .unset] [(.int (lcmpW ((et0.toInt64) - (eb0.toInt64)) (0 : Int64)))]) _
              refine XS.ifNo X30.here hx rfl (bb d27_152) rfl ((if0 _ _).trans (flt g40).1) ?_
              refine XS.lload X30.here hx rfl (bb d27_155) rfl ?_
              refine X30.ldc2Long hx hown (mvT hZ (ww 198 rfl)) (g := (mkF m 157 #[vR a1, vI 0, vI 2, vR at_, vI 0, vI eb0, vJ ((et0.toInt64) - (eb0.toInt64)), .second, .unset, .unset, .unset] [(.long ((et0.toInt64) - (eb0.toInt64)))])) rfl (bb d27_157) _ ?_
              refine XS.lcmp X30.here hx rfl (bb d27_160) rfl ?_
              refine XS.ifNo X30.here hx rfl (bb d27_161) rfl ((if0 _ _).trans (flt (g37.resolve_left g40)).1) ?_
              exact k)⟩
      have F42 := ((r6.other W17 (Or.inl ne_a1_ol)).other W27 (Or.inl ne_a1_oh))
      obtain ⟨T41, X41, e41, st41⟩ := getF X38 hx hZ hown (host := "") (Or.inl (ww 79 rfl)) Via.refl e38 F42 (g := (mkF m 165 #[vR a1, vI 0, vI 2, vR at_, vI 0, vI eb0, vJ ((et0.toInt64) - (eb0.toInt64)), .second, .unset, .unset, .unset] [(.ref a1)])) rfl rfl (bb d27_165)
      have F43 := (V17.other W27 ne_ol_oh)
      obtain ⟨cl44, Ar44, vq44, vS44, vN44, vH44, vG44⟩ := id F43
      have hin44 : ¬ (((0 : Int32) : Int32) < 0 ∨ cl44.slots.size ≤ ((0 : Int32) : Int32).toNatClampNeg) := inb_of vS44 ⟨by decide, by decide⟩
      have F46 := (F19.other W27 (Or.inl ne_a1_oh))
      obtain ⟨T45, X45, e45, st45⟩ := getF X41 hx hZ hown (host := "") (Or.inl (ww 81 rfl)) Via.refl e41 F46 (g := (mkF m 172 #[vR a1, vI 0, vI 2, vR at_, vI 0, vI eb0, vJ ((et0.toInt64) - (eb0.toInt64)), .second, .unset, .unset, .unset] [(.ref a1), (.int (f_minI et0 el0))])) rfl rfl (bb d27_172)
      obtain ⟨cl47, Ar47, vq47, vS47, vN47, vH47, vG47⟩ := id V27
      have hin47 : ¬ (((0 : Int32) : Int32) < 0 ∨ cl47.slots.size ≤ ((0 : Int32) : Int32).toNatClampNeg) := inb_of vS47 ⟨by decide, by decide⟩
      have O49 := (O26.wr W27 g_oh)
      obtain ⟨_, _, ⟨T48, L48, k48, n48⟩, -, X48, ⟨Lc48, hQ48, l48, y48, z48⟩, st48⟩ := Jvm.LawKit.callS X45 hx (y := (⟨cRV, "base", "(II)I"⟩ : MethodName)) hown (mvT hZ (ww 170 rfl)) (mvT hZ (ww 171 rfl)) (mvT hZ (ww 62 rfl)) (mvT hZ (ww 172 rfl)) (by decide) (backOf (W := 0) (rm_base l Z a0 hw [] wDE (f_minI et0 el0) (f_maxI et0 eu0) h27 n0 (own_z0 O49) S_wDE O49 S_CS) hZ (ww 172 rfl) (ww 62 rfl) (by decide) (by decide)) (g := (mkF m 178 #[vR a1, vI 0, vI 2, vR at_, vI 0, vI eb0, vJ ((et0.toInt64) - (eb0.toInt64)), .second, .unset, .unset, .unset] [(.int (f_maxI et0 eu0)), (.int (f_minI et0 el0))])) rfl (by rw [hml]; rfl) (argsL := [(.int (f_minI et0 el0)), (.int (f_maxI et0 eu0))]) (rest := []) (lenOf pd__II_I_5 rfl) rfl (by show 2 * 0 + _ ≤ _; exact Nat.le_of_eq rfl) (bb d27_178) (fun _ _ => ⟨rfl, e45, (by decide : 0 + 0 ≤ _), (by decide : 0 + 0 ≤ _)⟩)
      dsimp only [Pt.U, Pt.locs, Pt.cells, Pt.slots] at X48 l48 y48 z48 st48 hQ48
      subst l48 y48 z48
      obtain ⟨rfl, N48q, e48⟩ := hQ48
      have N48 := Fr.app N38 N48q
      have F51 := ((r4.other W17 (Or.inl ne_a1_ol)).other W27 (Or.inl ne_a1_oh))
      obtain ⟨T50, X50, e50, st50⟩ := getF X48 hx hZ hown (host := "") (Or.inl (ww 73 rfl)) Via.refl e48 F51 (g := (mkF m 184 #[vR a1, vI 0, vI 2, vR at_, vI 0, vI eb0, vJ ((et0.toInt64) - (eb0.toInt64)), .second, vI (f_base (f_minI et0 el0) (f_maxI et0 eu0)), .unset, .unset] [(.ref a1)])) rfl rfl (bb d27_184)
      have F52 := ((r10.other W17 ne_on_ol).other W27 ne_on_oh)
      obtain ⟨cl53, Ar53, vq53, vS53, vN53, vH53, vG53⟩ := id F52
      have hin53 : ¬ (((0 : Int32) : Int32) < 0 ∨ cl53.slots.size ≤ ((0 : Int32) : Int32).toNatClampNeg) := inb_of vS53 ⟨by decide, by decide⟩
      obtain ⟨T54, X54, e54, st54⟩ := getF X50 hx hZ hown (host := "") (Or.inl (ww 75 rfl)) Via.refl e50 F31 (g := (mkF m 199 #[vR a1, vI 0, vI 2, vR at_, vI 0, vI eb0, vJ ((et0.toInt64) - (eb0.toInt64)), .second, vI (f_base (f_minI et0 el0) (f_maxI et0 eu0)), vR ov, vI 0] [(.ref a1), (.int 2), (.int 0)])) rfl rfl (bb d27_199)
      have F55 := ((r15.other W17 (Ne.symm ne_ol_ov)).other W27 (Ne.symm ne_oh_ov))
      obtain ⟨cl56, Ar56, vq56, vS56, vN56, vH56, vG56⟩ := id F55
      have hin56 : ¬ (((0 : Int32) : Int32) < 0 ∨ cl56.slots.size ≤ ((0 : Int32) : Int32).toNatClampNeg) := inb_of vS56 ⟨by decide, by decide⟩
      obtain ⟨cl57, Ar57, vq57, vS57, vN57, vH57, vG57⟩ := id F55
      have hin57 : ¬ (((0 : Int32) : Int32) < 0 ∨ cl57.slots.size ≤ ((0 : Int32) : Int32).toNatClampNeg) := inb_of vS57 ⟨by decide, by decide⟩
      obtain ⟨T57, h57, X57, e57, W57, st57⟩ := stC X54 hx hZ e54 Ar57 (j := (0 : Int32)) hin57 (g := (mkF m 220 #[vR a1, vI 0, vI 2, vR at_, vI 0, vI eb0, vJ ((et0.toInt64) - (eb0.toInt64)), .second, vI (f_base (f_minI et0 el0) (f_maxI et0 eu0)), vR ov, vI 0] [(.int (((nar .char (ev0_0 - eb0)) + ((eb0 - (f_base (f_minI et0 el0) (f_maxI et0 eu0))).toUInt32.toUInt16.toUInt32.toInt32)).toUInt32.toUInt16.toUInt32.toInt32)), (.int 0), (.ref ov)])) rfl rfl (bb d27_220)
      have V57 : Arv Z h57 ov kv_ .char (8 : Int32) [(.int (nar .char (((nar .char (ev0_0 - eb0)) + ((eb0 - (f_base (f_minI et0 el0) (f_maxI et0 eu0))).toUInt32.toUInt16.toUInt32.toInt32)).toUInt32.toUInt16.toUInt32.toInt32))), (.int (nar .char (ev1_0 - eb0))), (.int ex2), (.int ex3), (.int ex4), (.int ex5), (.int ex6), (.int ex7)] (.int 0) := Arv.set Ar57 vq57 vS57 vN57 vH57 vG57 (fits_nar_char _) W57 0 rfl (Nat.le_of_ble_eq_true rfl)
      have N57 := Fr.snoc X57 N48 g_ov
      have F59 := (F31.other W57 (Or.inl ne_a1_ov))
      obtain ⟨T58, X58, e58, st58⟩ := getF X57 hx hZ hown (host := "") (Or.inl (ww 75 rfl)) Via.refl e57 F59 (g := (mkF m 224 #[vR a1, vI 0, vI 2, vR at_, vI 0, vI eb0, vJ ((et0.toInt64) - (eb0.toInt64)), .second, vI (f_base (f_minI et0 el0) (f_maxI et0 eu0)), vR ov, vI 0] [(.ref a1), (.int 0)])) rfl rfl (bb d27_224)
      obtain ⟨T60, X60, e60, st60⟩ := getF X58 hx hZ hown (host := "") (Or.inl (ww 75 rfl)) Via.refl e58 F59 (g := (mkF m 199 #[vR a1, vI 0, vI 2, vR at_, vI 0, vI eb0, vJ ((et0.toInt64) - (eb0.toInt64)), .second, vI (f_base (f_minI et0 el0) (f_maxI et0 eu0)), vR ov, vI 1] [(.ref a1), (.int 2), (.int 1)])) rfl rfl (bb d27_199)
      obtain ⟨cl61, Ar61, vq61, vS61, vN61, vH61, vG61⟩ := id V57
      have hin61 : ¬ (((1 : Int32) : Int32) < 0 ∨ cl61.slots.size ≤ ((1 : Int32) : Int32).toNatClampNeg) := inb_of vS61 ⟨by decide, by decide⟩
      obtain ⟨cl62, Ar62, vq62, vS62, vN62, vH62, vG62⟩ := id V57
      have hin62 : ¬ (((1 : Int32) : Int32) < 0 ∨ cl62.slots.size ≤ ((1 : Int32) : Int32).toNatClampNeg) := inb_of vS62 ⟨by decide, by decide⟩
      obtain ⟨T62, h62, X62, e62, W62, st62⟩ := stC X60 hx hZ e60 Ar62 (j := (1 : Int32)) hin62 (g := (mkF m 220 #[vR a1, vI 0, vI 2, vR at_, vI 0, vI eb0, vJ ((et0.toInt64) - (eb0.toInt64)), .second, vI (f_base (f_minI et0 el0) (f_maxI et0 eu0)), vR ov, vI 1] [(.int (((nar .char (ev1_0 - eb0)) + ((eb0 - (f_base (f_minI et0 el0) (f_maxI et0 eu0))).toUInt32.toUInt16.toUInt32.toInt32)).toUInt32.toUInt16.toUInt32.toInt32)), (.int 1), (.ref ov)])) rfl rfl (bb d27_220)
      have V62 : Arv Z h62 ov kv_ .char (8 : Int32) [(.int (nar .char (((nar .char (ev0_0 - eb0)) + ((eb0 - (f_base (f_minI et0 el0) (f_maxI et0 eu0))).toUInt32.toUInt16.toUInt32.toInt32)).toUInt32.toUInt16.toUInt32.toInt32))), (.int (nar .char (((nar .char (ev1_0 - eb0)) + ((eb0 - (f_base (f_minI et0 el0) (f_maxI et0 eu0))).toUInt32.toUInt16.toUInt32.toInt32)).toUInt32.toUInt16.toUInt32.toInt32))), (.int ex2), (.int ex3), (.int ex4), (.int ex5), (.int ex6), (.int ex7)] (.int 0) := Arv.set Ar62 vq62 vS62 vN62 vH62 vG62 (fits_nar_char _) W62 1 rfl (Nat.le_of_ble_eq_true rfl)
      have N62 := Fr.snoc X62 N57 g_ov
      have F64 := (F59.other W62 (Or.inl ne_a1_ov))
      obtain ⟨T63, X63, e63, st63⟩ := getF X62 hx hZ hown (host := "") (Or.inl (ww 75 rfl)) Via.refl e62 F64 (g := (mkF m 224 #[vR a1, vI 0, vI 2, vR at_, vI 0, vI eb0, vJ ((et0.toInt64) - (eb0.toInt64)), .second, vI (f_base (f_minI et0 el0) (f_maxI et0 eu0)), vR ov, vI 1] [(.ref a1), (.int 1)])) rfl rfl (bb d27_224)
      obtain ⟨T65, X65, e65, st65⟩ := getF X63 hx hZ hown (host := "") (Or.inl (ww 75 rfl)) Via.refl e63 F64 (g := (mkF m 199 #[vR a1, vI 0, vI 2, vR at_, vI 0, vI eb0, vJ ((et0.toInt64) - (eb0.toInt64)), .second, vI (f_base (f_minI et0 el0) (f_maxI et0 eu0)), vR ov, vI 2] [(.ref a1), (.int 2), (.int 2)])) rfl rfl (bb d27_199)
      have F67 := ((F29.other W57 (Or.inl ne_a1_ov)).other W62 (Or.inl ne_a1_ov))
      obtain ⟨T66, X66, e66, st66⟩ := getF X65 hx hZ hown (host := "") (Or.inl (ww 77 rfl)) Via.refl e65 F67 (g := (mkF m 234 #[vR a1, vI 0, vI 2, vR at_, vI 0, vI eb0, vJ ((et0.toInt64) - (eb0.toInt64)), .second, vI (f_base (f_minI et0 el0) (f_maxI et0 eu0)), vR ov, vI 2] [(.ref a1)])) rfl rfl (bb d27_234)
      obtain ⟨T68, X68, e68, st68⟩ := getF X66 hx hZ hown (host := "") (Or.inl (ww 75 rfl)) Via.refl e66 F64 (g := (mkF m 239 #[vR a1, vI 0, vI 2, vR at_, vI 0, vI eb0, vJ ((et0.toInt64) - (eb0.toInt64)), .second, vI (f_base (f_minI et0 el0) (f_maxI et0 eu0)), vR ov, vI 2] [(.ref a1), (.int 0), (.ref ob)])) rfl rfl (bb d27_239)
      have F69 := ((F32.other W57 ne_ob_ov).other W62 ne_ob_ov)
      obtain ⟨cl70, Ar70, vq70, vS70, vN70, vH70, vG70⟩ := id F69
      have hin70 : ¬ (((0 : Int32) : Int32) < 0 ∨ cl70.slots.size ≤ ((0 : Int32) : Int32).toNatClampNeg) := inb_of vS70 ⟨by decide, by decide⟩
      obtain ⟨T70, h70, X70, e70, W70, st70⟩ := stI X68 hx hZ e68 Ar70 (j := (0 : Int32)) hin70 (g := (mkF m 248 #[vR a1, vI 0, vI 2, vR at_, vI 0, vI eb0, vJ ((et0.toInt64) - (eb0.toInt64)), .second, vI (f_base (f_minI et0 el0) (f_maxI et0 eu0)), vR ov, vI 2] [(.int (f_base (f_minI et0 el0) (f_maxI et0 eu0))), (.int 0), (.ref ob)])) rfl rfl (bb d27_248)
      have V70 : Arv Z h70 ob kb_ .int (1 : Int32) [(.int (f_base (f_minI et0 el0) (f_maxI et0 eu0)))] (.int 0) := Arv.set Ar70 vq70 vS70 vN70 vH70 vG70 rfl W70 0 rfl (Nat.le_of_ble_eq_true rfl)
      have N70 := Fr.snoc X70 N62 g_ob
      have F71 := (V62.other W70 (Ne.symm ne_ob_ov))
      refine ⟨T70, _, h70, (vI (f_base (f_minI et0 el0) (f_maxI et0 eu0))), (vR ov), (vI 2), X70, e70, N70, ((((Keep.refl h27 [ob, ov]).wr W57 (Or.inl (List.mem_of_getElem? (i := 1) rfl))).wr W62 (Or.inl (List.mem_of_getElem? (i := 1) rfl))).wr W70 (Or.inl (List.mem_of_getElem? (i := 0) rfl))), (by simp only [nbase, if_pos g37]; exact V70), (by simp only [nbase, if_pos g37]; have q := F71; simp only [own_ch] at q; exact q), (One.val rfl), (One.val rfl), (One.val rfl), fun t k => pre38 t ?_⟩
      show GG p e below T38 (mkF m 164 #[vR a1, vI 0, vI 2, vR at_, vI 0, vI eb0, vJ ((et0.toInt64) - (eb0.toInt64)), .second, .unset, .unset, .unset] []) _
      refine XS.aloadN X38.here hx rfl (bb d27_164) rfl rfl ?_
      refine st41 _ ?_
      refine XS.iload X41.here hx rfl (bb d27_168) rfl ?_
      refine X41.iaload hx (j := (0 : Int32)) (v := (.int (f_minI et0 el0))) (by rw [e41]; exact Ar44.1) (State.isArrayOf_alike hZ.alike Ar44.2.1) Ar44.2.2 hin44 (vH44.at hin44 rfl) (g := (mkF m 170 #[vR a1, vI 0, vI 2, vR at_, vI 0, vI eb0, vJ ((et0.toInt64) - (eb0.toInt64)), .second, .unset, .unset, .unset] [(.int 0), (.ref ol)])) rfl rfl (bb d27_170) _ ?_
      refine XS.aloadN X41.here hx rfl (bb d27_171) rfl rfl ?_
      refine st45 _ ?_
      refine XS.iload X45.here hx rfl (bb d27_175) rfl ?_
      refine X45.iaload hx (j := (0 : Int32)) (v := (.int (f_maxI et0 eu0))) (by rw [e45]; exact Ar47.1) (State.isArrayOf_alike hZ.alike Ar47.2.1) Ar47.2.2 hin47 (vH47.at hin47 rfl) (g := (mkF m 177 #[vR a1, vI 0, vI 2, vR at_, vI 0, vI eb0, vJ ((et0.toInt64) - (eb0.toInt64)), .second, .unset, .unset, .unset] [(.int 0), (.ref oh), (.int (f_minI et0 el0))])) rfl rfl (bb d27_177) _ ?_
      refine st48 _ ?_
      refine XS.istore X48.here hx rfl (bb d27_181) rfl (l' := #[vR a1, vI 0, vI 2, vR at_, vI 0, vI eb0, vJ ((et0.toInt64) - (eb0.toInt64)), .second, vI (f_base (f_minI et0 el0) (f_maxI et0 eu0)), .unset, .unset]) rfl ?_
      refine XS.aloadN X48.here hx rfl (bb d27_183) rfl rfl ?_
      refine st50 _ ?_
      refine XS.iloadN X50.here hx rfl (bb d27_187) rfl ?_
      refine X50.aaload hx (j := (0 : Int32)) (v := (.ref ov)) (by rw [e50]; exact Ar53.1) (State.isArrayOf_alike hZ.alike Ar53.2.1) rfl Ar53.2.2 hin53 (vH53.at hin53 rfl) (g := (mkF m 188 #[vR a1, vI 0, vI 2, vR at_, vI 0, vI eb0, vJ ((et0.toInt64) - (eb0.toInt64)), .second, vI (f_base (f_minI et0 el0) (f_maxI et0 eu0)), .unset, .unset] [(.int 0), (.ref on)])) rfl rfl (bb d27_188) _ ?_
      refine XS.astore X50.here hx rfl (bb d27_189) rfl rfl (l' := #[vR a1, vI 0, vI 2, vR at_, vI 0, vI eb0, vJ ((et0.toInt64) - (eb0.toInt64)), .second, vI (f_base (f_minI et0 el0) (f_maxI et0 eu0)), vR ov, .unset]) rfl ?_
      refine XS.iload X50.here hx rfl (bb d27_191) rfl ?_
      refine XS.istore X50.here hx rfl (bb d27_193) rfl (l' := #[vR a1, vI 0, vI 2, vR at_, vI 0, vI eb0, vJ ((et0.toInt64) - (eb0.toInt64)), .second, vI (f_base (f_minI et0 el0) (f_maxI et0 eu0)), vR ov, vI 0]) rfl ?_
      refine XS.iload X50.here hx rfl (bb d27_195) rfl ?_
      refine XS.iloadN X50.here hx rfl (bb d27_197) rfl ?_
      refine XS.aloadN X50.here hx rfl (bb d27_198) rfl rfl ?_
      refine st54 _ ?_
      refine XS.imul X54.here hx rfl (bb d27_202) rfl ?_
      refine XS.icmpNo X54.here hx rfl (bb d27_203) rfl (tlt (by decide : (0 : Int32) < (2 : Int32))).2.1 ?_
      refine XS.aload X54.here hx rfl (bb d27_206) rfl rfl ?_
      refine XS.iload X54.here hx rfl (bb d27_208) rfl ?_
      refine Jvm.Free.XT.dup2 X54.here hx rfl (bb d27_210) rfl rfl rfl ?_
      refine X54.caload hx (j := (0 : Int32)) (v := (.int (nar .char (ev0_0 - eb0)))) (by rw [e54]; exact Ar56.1) (State.isArrayOf_alike hZ.alike Ar56.2.1) Ar56.2.2 hin56 (vH56.at hin56 rfl) (g := (mkF m 211 #[vR a1, vI 0, vI 2, vR at_, vI 0, vI eb0, vJ ((et0.toInt64) - (eb0.toInt64)), .second, vI (f_base (f_minI et0 el0) (f_maxI et0 eu0)), vR ov, vI 0] [(.int 0), (.ref ov), (.int 0), (.ref ov)])) rfl rfl (bb d27_211) _ ?_
      refine XS.iload X54.here hx rfl (bb d27_212) rfl ?_
      refine XS.iload X54.here hx rfl (bb d27_214) rfl ?_
      refine XS.isub X54.here hx rfl (bb d27_216) rfl ?_
      refine XS.i2c X54.here hx rfl (bb d27_217) rfl ?_
      refine XS.iadd X54.here hx rfl (bb d27_218) rfl ?_
      refine XS.i2c X54.here hx rfl (bb d27_219) rfl ?_
      refine st57 _ ?_
      refine XS.iload X57.here hx rfl (bb d27_221) rfl ?_
      refine XS.aloadN X57.here hx rfl (bb d27_223) rfl rfl ?_
      refine st58 _ ?_
      refine XS.iadd X58.here hx rfl (bb d27_227) rfl ?_
      refine XS.istore X58.here hx rfl (bb d27_228) rfl (l' := #[vR a1, vI 0, vI 2, vR at_, vI 0, vI eb0, vJ ((et0.toInt64) - (eb0.toInt64)), .second, vI (f_base (f_minI et0 el0) (f_maxI et0 eu0)), vR ov, vI 1]) rfl ?_
      refine XS.goto X58.here hx rfl (pc0 := 230) (pc' := 195) rfl (bb d27_230) (by decide) (by decide) ?_
      refine XS.iload X58.here hx rfl (bb d27_195) rfl ?_
      refine XS.iloadN X58.here hx rfl (bb d27_197) rfl ?_
      refine XS.aloadN X58.here hx rfl (bb d27_198) rfl rfl ?_
      refine st60 _ ?_
      refine XS.imul X60.here hx rfl (bb d27_202) rfl ?_
      refine XS.icmpNo X60.here hx rfl (bb d27_203) rfl (tlt (by decide : (1 : Int32) < (2 : Int32))).2.1 ?_
      refine XS.aload X60.here hx rfl (bb d27_206) rfl rfl ?_
      refine XS.iload X60.here hx rfl (bb d27_208) rfl ?_
      refine Jvm.Free.XT.dup2 X60.here hx rfl (bb d27_210) rfl rfl rfl ?_
      refine X60.caload hx (j := (1 : Int32)) (v := (.int (nar .char (ev1_0 - eb0)))) (by rw [e60]; exact Ar61.1) (State.isArrayOf_alike hZ.alike Ar61.2.1) Ar61.2.2 hin61 (vH61.at hin61 rfl) (g := (mkF m 211 #[vR a1, vI 0, vI 2, vR at_, vI 0, vI eb0, vJ ((et0.toInt64) - (eb0.toInt64)), .second, vI (f_base (f_minI et0 el0) (f_maxI et0 eu0)), vR ov, vI 1] [(.int 1), (.ref ov), (.int 1), (.ref ov)])) rfl rfl (bb d27_211) _ ?_
      refine XS.iload X60.here hx rfl (bb d27_212) rfl ?_
      refine XS.iload X60.here hx rfl (bb d27_214) rfl ?_
      refine XS.isub X60.here hx rfl (bb d27_216) rfl ?_
      refine XS.i2c X60.here hx rfl (bb d27_217) rfl ?_
      refine XS.iadd X60.here hx rfl (bb d27_218) rfl ?_
      refine XS.i2c X60.here hx rfl (bb d27_219) rfl ?_
      refine st62 _ ?_
      refine XS.iload X62.here hx rfl (bb d27_221) rfl ?_
      refine XS.aloadN X62.here hx rfl (bb d27_223) rfl rfl ?_
      refine st63 _ ?_
      refine XS.iadd X63.here hx rfl (bb d27_227) rfl ?_
      refine XS.istore X63.here hx rfl (bb d27_228) rfl (l' := #[vR a1, vI 0, vI 2, vR at_, vI 0, vI eb0, vJ ((et0.toInt64) - (eb0.toInt64)), .second, vI (f_base (f_minI et0 el0) (f_maxI et0 eu0)), vR ov, vI 2]) rfl ?_
      refine XS.goto X63.here hx rfl (pc0 := 230) (pc' := 195) rfl (bb d27_230) (by decide) (by decide) ?_
      refine XS.iload X63.here hx rfl (bb d27_195) rfl ?_
      refine XS.iloadN X63.here hx rfl (bb d27_197) rfl ?_
      refine XS.aloadN X63.here hx rfl (bb d27_198) rfl rfl ?_
      refine st65 _ ?_
      refine XS.imul X65.here hx rfl (bb d27_202) rfl ?_
      refine XS.icmpYes X65.here hx rfl (pc0 := 203) (pc' := 233) rfl (bb d27_203) rfl (flt (by decide : ¬ ((2 : Int32) < (2 : Int32)))).2.1 (by decide) (by decide) ?_
      refine XS.aloadN X65.here hx rfl (bb d27_233) rfl rfl ?_
      refine st66 _ ?_
      refine XS.iloadN X66.here hx rfl (bb d27_237) rfl ?_
      refine XS.aloadN X66.here hx rfl (bb d27_238) rfl rfl ?_
      refine st68 _ ?_
      refine XS.imul X68.here hx rfl (bb d27_242) rfl ?_
      refine XS.iload X68.here hx rfl (bb d27_243) rfl ?_
      refine XS.iadd X68.here hx rfl (bb d27_245) rfl ?_
      refine XS.iload X68.here hx rfl (bb d27_246) rfl ?_
      refine st70 _ ?_
      exact k
    · skip
      have F72 := ((r15.other W17 (Ne.symm ne_ol_ov)).other W27 (Ne.symm ne_oh_ov))
      refine ⟨T30, _, h27, (.unset), (.unset), (.unset), X30, e30, N27, (Keep.refl h27 [ob, ov]), (by simp only [nbase, if_neg g37]; exact F32), (by simp only [nbase, if_neg g37]; have q := F72; exact q), One.u, One.u, One.u, fun t k => pre36 t ?_⟩
      show GG p e below T30 (mkF m 148 #[vR a1, vI 0, vI 2, vR at_, vI 0, vI eb0, vJ ((et0.toInt64) - (eb0.toInt64)), .second, .unset, .unset, .unset] []) _
      refine XS.lload X30.here hx rfl (bb d27_148) rfl ?_
      refine XS.lconst X30.here hx rfl (bb d27_150) ?_
      refine XS.lcmp X30.here hx rfl (bb d27_151) rfl ?_
      refine XS.ifNo X30.here hx rfl (bb d27_152) rfl ((if0 _ _).trans (flt (fun q => g37 (Or.inl q))).1) ?_
      refine XS.lload X30.here hx rfl (bb d27_155) rfl ?_
      refine X30.ldc2Long hx hown (mvT hZ (ww 198 rfl)) (g := (mkF m 157 #[vR a1, vI 0, vI 2, vR at_, vI 0, vI eb0, vJ ((et0.toInt64) - (eb0.toInt64)), .second, .unset, .unset, .unset] [(.long ((et0.toInt64) - (eb0.toInt64)))])) rfl (bb d27_157) _ ?_
      refine XS.lcmp X30.here hx rfl (bb d27_160) rfl ?_
      refine XS.ifYes X30.here hx rfl (pc0 := 161) (pc' := 249) rfl (bb d27_161) rfl ((if0 _ _).trans (tlt (Decidable.of_not_not fun q => g37 (Or.inr q))).1) (by decide) (by decide) ?_
      exact k
  have F74 := (F31.keep K37 (ninS ne_a1_ob (ninS ne_a1_ov nin0)))
  obtain ⟨T73, X73, e73, st73⟩ := getF X37 hx hZ hown (host := "") (Or.inl (ww 75 rfl)) Via.refl e37 F74 (g := (mkF m 73 #[vR a1, vI 0, vI 2, vR at_, vI 1, vI eb0, vJ ((et0.toInt64) - (eb0.toInt64)), .second, s8_37, s9_37, s10_37] [(.ref a1), (.int 1)])) rfl rfl (bb d27_73)
  have F75 := ((V17.other W27 ne_ol_oh).keep K37 (ninS (Ne.symm ne_ob_ol) (ninS ne_ol_ov nin0)))
  have F76 := (V27.keep K37 (ninS (Ne.symm ne_ob_oh) (ninS ne_oh_ov nin0)))
  obtain ⟨fs, hr, hrun, hended, hW, hsame⟩ := X73.leave (v := none) (fun _ => rfl)
  refine ⟨_, _, pre37 _ ?_, hrun, hended, _, _, rfl, ?_, ⟨_, rfl⟩, hW, hsame.mono (by decide) (by decide)⟩
  · show GG p e below T37 (mkF m 249 #[vR a1, vI 0, vI 2, vR at_, vI 0, vI eb0, vJ ((et0.toInt64) - (eb0.toInt64)), .second, s8_37, s9_37, s10_37] []) _
    refine XS.iinc X37.here hx rfl (bb d27_249) rfl (l' := #[vR a1, vI 0, vI 2, vR at_, vI 1, vI eb0, vJ ((et0.toInt64) - (eb0.toInt64)), .second, s8_37, s9_37, s10_37]) rfl ?_
    refine XS.goto X37.here hx rfl (pc0 := 252) (pc' := 70) rfl (bb d27_252) (by decide) (by decide) ?_
    refine XS.iload X37.here hx rfl (bb d27_70) rfl ?_
    refine XS.aloadN X37.here hx rfl (bb d27_72) rfl rfl ?_
    refine st73 _ ?_
    refine XS.icmpYes X73.here hx rfl (pc0 := 76) (pc' := 255) rfl (bb d27_76) rfl (flt (by decide : ¬ ((1 : Int32) < (1 : Int32)))).2.1 (by decide) (by decide) ?_
    exact X73.returnOut hx Bd.returns (bb d27_255) hr
  · show Q_fit1_2 Z wDE a1 at_ ow on ob ol oh ov kw_ kn_ kb_ kl_ kh_ kv_ eb0 el0 eu0 ev0_0 ev1_0 ex2 ex3 ex4 ex5 ex6 ex7 kt_ et0 h0 n0 _ T73.heap _
    rw [e73]
    exact ⟨rfl, N37, ((((Keep.refl h0 [ob, ol, oh, ov]).wr W17 (Or.inl (List.mem_of_getElem? (i := 1) rfl))).wr W27 (Or.inl (List.mem_of_getElem? (i := 2) rfl))).trans K37 (allS (Or.inl (List.mem_of_getElem? (i := 0) rfl)) (allS (Or.inl (List.mem_of_getElem? (i := 3) rfl)) all0))), F75, F76, f37_0, f37_1⟩
set_option maxRecDepth 65536 in
set_option maxHeartbeats 40000000 in
theorem rm_get1N (l : Launch) (Z : State) (a0 : Array Value) (hw : ∀ d ∈ tables_1, d.before a0 Z = true) (ws : List Jvm.Cond) (wDE : Addr) (a1 : Addr) (p2 p3 : Int32) (on ob ov : Addr) (cn cb cv : Cell) (eb ev : Int32) (h0 : Heap) (n0 : Nat) (Z0 : n0 ≤ h0.size) (S_wDE : Sta Z Z.heap "java/util/ArrayList" "DEFAULTCAPACITY_EMPTY_ELEMENTDATA" "[Ljava/lang/Object;" (.ref wDE)) (O0 : Old Z n0 h0) (S_CS : Sta Z Z.heap cRV "CHUNK_SHIFT" "I" (.int (12 : Int32))) (r0 : Fld Z h0 a1 cRV "arity" "I" (.int 1)) (r1 : Fld Z h0 a1 cRV "narrow" "[[C" (.ref on)) (r2 : Fld Z h0 a1 cRV "bases" "[I" (.ref ob)) (A_on : Arr Z h0 on cn (.array .char)) (i_on : ¬ (((p2.toUInt32 >>> ((12 : Int32) &&& 31).toUInt32).toInt32) < 0 ∨ cn.slots.size ≤ (((p2.toUInt32 >>> ((12 : Int32) &&& 31).toUInt32).toInt32)).toNatClampNeg)) (t_on : cn.slots[(((p2.toUInt32 >>> ((12 : Int32) &&& 31).toUInt32).toInt32)).toNatClampNeg]? = some (.ref ov)) (A_ob : Arr Z h0 ob cb .int) (i_ob : ¬ (((((p2.toUInt32 >>> ((12 : Int32) &&& 31).toUInt32).toInt32) * (1 : Int32)) + p3) < 0 ∨ cb.slots.size ≤ (((((p2.toUInt32 >>> ((12 : Int32) &&& 31).toUInt32).toInt32) * (1 : Int32)) + p3)).toNatClampNeg)) (t_ob : cb.slots[(((((p2.toUInt32 >>> ((12 : Int32) &&& 31).toUInt32).toInt32) * (1 : Int32)) + p3)).toNatClampNeg]? = some (.int eb)) (A_ov : Arr Z h0 ov cv .char) (i_ov : ¬ ((((p2 &&& (4095 : Int32)) * (1 : Int32)) + p3) < 0 ∨ cv.slots.size ≤ ((((p2 &&& (4095 : Int32)) * (1 : Int32)) + p3)).toNatClampNeg)) (t_ov : cv.slots[((((p2 &&& (4095 : Int32)) * (1 : Int32)) + p3)).toNatClampNeg]? = some (.int (nar .char (ev - eb)))) (hIn : ownIn eb ev) :
    MetFree l (⟨cRV, "get", "(II)I"⟩ : MethodName) (head1 (Jvm.Cond.code (⟨cRV, "get", "(II)I"⟩ : MethodName) prog_48_method_3_code 6 (some .int) :: ws) ({ frames := 0, cells := 0, slots := 0, locals := 0 } : Room)) (fun a U => a = #[(.ref a1), (.int p2), (.int p3)] ∧ Z.Warmed39 U.vm ∧ U.heap = h0) (fun _ _ _ _ _ => True) (fun _ U o U' => ∃ v L, o = .returned v ∧ PureQ (some (.int ev)) h0 n0 v U'.heap L ∧ FrameEnd U o U' L ({ frames := 0, cells := 0, slots := 0, locals := 0 } : Room).cells ({ frames := 0, cells := 0, slots := 0, locals := 0 } : Room).slots) := by
  refine MetFree.of_bodySF (plainFor_of_name pn_RowValues) hisR ?_
  intro p e s m args below meth c s₁ Bd hml0 hP hK
  obtain ⟨rfl, hZ, hh⟩ := hP
  have hx := Bd.exec
  have hby := Bd.bytes
  have bb := fun {pc : Nat} {r : Except DecodeError (Instr × Nat)} (h : decode prog_48_method_3_code pc = r) => hb hby h
  have ww := fun (i : Nat) {d : Jvm.Cond} (h : tables_1[i]? = some d) => hw d (List.mem_of_getElem? h)
  have hml : c.maxLocals = 6 := hml0
  have hown : s.vm.findClass cRV = some m.cls := findClass_of_methodNamed Bd.named
  have hnm := (name_of_methodNamed Bd.named Bd.method).1
  have X0 : Stand p l e ({ frames := 0, cells := 0, slots := 0, locals := 0 } : Room) s m #[(.ref a1), (.int p2), (.int p3)] below meth c s₁ [] 0 0 := Stand.of_body Bd
  have e0 : s₁.heap = h0 := by rw [← hh, Bd.state]; rfl
  have N0 := Fr.nil n0
  have pre0 : ∀ t, Steps p.tables e below (s₁.setTop (mkF m 0 #[vR a1, vI p2, vI p3, .unset, .unset, .unset] [])) t → Steps p.tables e below (s₁.setTop (entryFrame m #[(.ref a1), (.int p2), (.int p3)] 6)) t := fun t k => castTop (ef_get1N m a1 p2 p3) k
  obtain ⟨T1, X1, e1, st1⟩ := getS2 X0 hx hZ hown (host := "") (Or.inl (ww 164 rfl)) Via.refl e0 (S_CS.ext O0.2) (g := (mkF m 1 #[vR a1, vI p2, vI p3, .unset, .unset, .unset] [(.int p2)])) rfl (bb d37_1)
  obtain ⟨T2, X2, e2, st2⟩ := getF X1 hx hZ hown (host := "") (Or.inl (ww 75 rfl)) Via.refl e1 r0 (g := (mkF m 12 #[vR a1, vI p2, vI p3, vI ((p2.toUInt32 >>> ((12 : Int32) &&& 31).toUInt32).toInt32), .unset, .unset] [(.ref a1), (.int (p2 &&& (4095 : Int32)))])) rfl rfl (bb d37_12)
  obtain ⟨T3, X3, e3, st3⟩ := getF X2 hx hZ hown (host := "") (Or.inl (ww 73 rfl)) Via.refl e2 r1 (g := (mkF m 21 #[vR a1, vI p2, vI p3, vI ((p2.toUInt32 >>> ((12 : Int32) &&& 31).toUInt32).toInt32), vI (((p2 &&& (4095 : Int32)) * (1 : Int32)) + p3), .unset] [(.ref a1)])) rfl rfl (bb d37_21)
  obtain ⟨T4, X4, e4, st4⟩ := getF X3 hx hZ hown (host := "") (Or.inl (ww 77 rfl)) Via.refl e3 r2 (g := (mkF m 34 #[vR a1, vI p2, vI p3, vI ((p2.toUInt32 >>> ((12 : Int32) &&& 31).toUInt32).toInt32), vI (((p2 &&& (4095 : Int32)) * (1 : Int32)) + p3), vR ov] [(.ref a1)])) rfl rfl (bb d37_34)
  obtain ⟨T5, X5, e5, st5⟩ := getF X4 hx hZ hown (host := "") (Or.inl (ww 75 rfl)) Via.refl e4 r0 (g := (mkF m 39 #[vR a1, vI p2, vI p3, vI ((p2.toUInt32 >>> ((12 : Int32) &&& 31).toUInt32).toInt32), vI (((p2 &&& (4095 : Int32)) * (1 : Int32)) + p3), vR ov] [(.ref a1), (.int ((p2.toUInt32 >>> ((12 : Int32) &&& 31).toUInt32).toInt32)), (.ref ob)])) rfl rfl (bb d37_39)
  obtain ⟨fs, hr, hrun, hended, hW, hsame⟩ := X5.leave (v := some (.int (eb + (nar .char (ev - eb))))) (fun h => by rw [Bd.returns] at h; cases h)
  refine ⟨_, _, pre0 _ ?_, hrun, hended, _, _, rfl, ?_, ⟨_, rfl⟩, hW, hsame.mono (by decide) (by decide)⟩
  · show GG p e below s₁ (mkF m 0 #[vR a1, vI p2, vI p3, .unset, .unset, .unset] []) _
    refine XS.iloadN X0.here hx rfl (bb d37_0) rfl ?_
    refine st1 _ ?_
    refine XS.iushr X1.here hx rfl (bb d37_4) rfl ?_
    refine XS.istoreN X1.here hx rfl (bb d37_5) rfl (l' := #[vR a1, vI p2, vI p3, vI ((p2.toUInt32 >>> ((12 : Int32) &&& 31).toUInt32).toInt32), .unset, .unset]) rfl ?_
    refine XS.iloadN X1.here hx rfl (bb d37_6) rfl ?_
    refine XS.sipush X1.here hx rfl (bb d37_7) ?_
    refine XS.iand X1.here hx rfl (bb d37_10) rfl ?_
    refine XS.aloadN X1.here hx rfl (bb d37_11) rfl rfl ?_
    refine st2 _ ?_
    refine XS.imul X2.here hx rfl (bb d37_15) rfl ?_
    refine XS.iloadN X2.here hx rfl (bb d37_16) rfl ?_
    refine XS.iadd X2.here hx rfl (bb d37_17) rfl ?_
    refine XS.istore X2.here hx rfl (bb d37_18) rfl (l' := #[vR a1, vI p2, vI p3, vI ((p2.toUInt32 >>> ((12 : Int32) &&& 31).toUInt32).toInt32), vI (((p2 &&& (4095 : Int32)) * (1 : Int32)) + p3), .unset]) rfl ?_
    refine XS.aloadN X2.here hx rfl (bb d37_20) rfl rfl ?_
    refine st3 _ ?_
    refine XS.iloadN X3.here hx rfl (bb d37_24) rfl ?_
    refine X3.aaload hx (j := ((p2.toUInt32 >>> ((12 : Int32) &&& 31).toUInt32).toInt32)) (v := (.ref ov)) (by rw [e3]; exact A_on.1) (State.isArrayOf_alike hZ.alike A_on.2.1) rfl A_on.2.2 i_on t_on (g := (mkF m 25 #[vR a1, vI p2, vI p3, vI ((p2.toUInt32 >>> ((12 : Int32) &&& 31).toUInt32).toInt32), vI (((p2 &&& (4095 : Int32)) * (1 : Int32)) + p3), .unset] [(.int ((p2.toUInt32 >>> ((12 : Int32) &&& 31).toUInt32).toInt32)), (.ref on)])) rfl rfl (bb d37_25) _ ?_
    refine XS.astore X3.here hx rfl (bb d37_26) rfl rfl (l' := #[vR a1, vI p2, vI p3, vI ((p2.toUInt32 >>> ((12 : Int32) &&& 31).toUInt32).toInt32), vI (((p2 &&& (4095 : Int32)) * (1 : Int32)) + p3), vR ov]) rfl ?_
    refine XS.aload X3.here hx rfl (bb d37_28) rfl rfl ?_
    refine XS.ifnullNo X3.here hx rfl (bb d37_30) rfl ?_
    refine XS.aloadN X3.here hx rfl (bb d37_33) rfl rfl ?_
    refine st4 _ ?_
    refine XS.iloadN X4.here hx rfl (bb d37_37) rfl ?_
    refine XS.aloadN X4.here hx rfl (bb d37_38) rfl rfl ?_
    refine st5 _ ?_
    refine XS.imul X5.here hx rfl (bb d37_42) rfl ?_
    refine XS.iloadN X5.here hx rfl (bb d37_43) rfl ?_
    refine XS.iadd X5.here hx rfl (bb d37_44) rfl ?_
    refine X5.iaload hx (j := ((((p2.toUInt32 >>> ((12 : Int32) &&& 31).toUInt32).toInt32) * (1 : Int32)) + p3)) (v := (.int eb)) (by rw [e5]; exact A_ob.1) (State.isArrayOf_alike hZ.alike A_ob.2.1) A_ob.2.2 i_ob t_ob (g := (mkF m 45 #[vR a1, vI p2, vI p3, vI ((p2.toUInt32 >>> ((12 : Int32) &&& 31).toUInt32).toInt32), vI (((p2 &&& (4095 : Int32)) * (1 : Int32)) + p3), vR ov] [(.int ((((p2.toUInt32 >>> ((12 : Int32) &&& 31).toUInt32).toInt32) * (1 : Int32)) + p3)), (.ref ob)])) rfl rfl (bb d37_45) _ ?_
    refine XS.aload X5.here hx rfl (bb d37_46) rfl rfl ?_
    refine XS.iload X5.here hx rfl (bb d37_48) rfl ?_
    refine X5.caload hx (j := (((p2 &&& (4095 : Int32)) * (1 : Int32)) + p3)) (v := (.int (nar .char (ev - eb)))) (by rw [e5]; exact A_ov.1) (State.isArrayOf_alike hZ.alike A_ov.2.1) A_ov.2.2 i_ov t_ov (g := (mkF m 50 #[vR a1, vI p2, vI p3, vI ((p2.toUInt32 >>> ((12 : Int32) &&& 31).toUInt32).toInt32), vI (((p2 &&& (4095 : Int32)) * (1 : Int32)) + p3), vR ov] [(.int (((p2 &&& (4095 : Int32)) * (1 : Int32)) + p3)), (.ref ov), (.int eb)])) rfl rfl (bb d37_50) _ ?_
    refine XS.iadd X5.here hx rfl (bb d37_51) rfl ?_
    refine XS.goto X5.here hx rfl (pc0 := 52) (pc' := 64) rfl (bb d37_52) (by decide) (by decide) ?_
    exact retI X5 hx Bd.returns (bb d37_64) hr
  · exact ⟨congrArg (fun z => some (Value.int z)) (own_get hIn), N0, e5⟩
set_option maxRecDepth 65536 in
set_option maxHeartbeats 40000000 in
theorem rm_get1W (l : Launch) (Z : State) (a0 : Array Value) (hw : ∀ d ∈ tables_1, d.before a0 Z = true) (ws : List Jvm.Cond) (wDE : Addr) (a1 : Addr) (p2 p3 : Int32) (on ow oz : Addr) (cn cb cv : Cell) (ev : Int32) (h0 : Heap) (n0 : Nat) (Z0 : n0 ≤ h0.size) (S_wDE : Sta Z Z.heap "java/util/ArrayList" "DEFAULTCAPACITY_EMPTY_ELEMENTDATA" "[Ljava/lang/Object;" (.ref wDE)) (O0 : Old Z n0 h0) (S_CS : Sta Z Z.heap cRV "CHUNK_SHIFT" "I" (.int (12 : Int32))) (r0 : Fld Z h0 a1 cRV "arity" "I" (.int 1)) (r1 : Fld Z h0 a1 cRV "narrow" "[[C" (.ref on)) (r2 : Fld Z h0 a1 cRV "wide" "[[I" (.ref ow)) (A_on : Arr Z h0 on cn (.array .char)) (i_on : ¬ (((p2.toUInt32 >>> ((12 : Int32) &&& 31).toUInt32).toInt32) < 0 ∨ cn.slots.size ≤ (((p2.toUInt32 >>> ((12 : Int32) &&& 31).toUInt32).toInt32)).toNatClampNeg)) (t_on : cn.slots[(((p2.toUInt32 >>> ((12 : Int32) &&& 31).toUInt32).toInt32)).toNatClampNeg]? = some .null) (A_ow : Arr Z h0 ow cb (.array .int)) (i_ow : ¬ (((p2.toUInt32 >>> ((12 : Int32) &&& 31).toUInt32).toInt32) < 0 ∨ cb.slots.size ≤ (((p2.toUInt32 >>> ((12 : Int32) &&& 31).toUInt32).toInt32)).toNatClampNeg)) (t_ow : cb.slots[(((p2.toUInt32 >>> ((12 : Int32) &&& 31).toUInt32).toInt32)).toNatClampNeg]? = some (.ref oz)) (A_oz : Arr Z h0 oz cv .int) (i_oz : ¬ ((((p2 &&& (4095 : Int32)) * (1 : Int32)) + p3) < 0 ∨ cv.slots.size ≤ ((((p2 &&& (4095 : Int32)) * (1 : Int32)) + p3)).toNatClampNeg)) (t_oz : cv.slots[((((p2 &&& (4095 : Int32)) * (1 : Int32)) + p3)).toNatClampNeg]? = some (.int ev)) :
    MetFree l (⟨cRV, "get", "(II)I"⟩ : MethodName) (head1 (Jvm.Cond.code (⟨cRV, "get", "(II)I"⟩ : MethodName) prog_48_method_3_code 6 (some .int) :: ws) ({ frames := 0, cells := 0, slots := 0, locals := 0 } : Room)) (fun a U => a = #[(.ref a1), (.int p2), (.int p3)] ∧ Z.Warmed39 U.vm ∧ U.heap = h0) (fun _ _ _ _ _ => True) (fun _ U o U' => ∃ v L, o = .returned v ∧ PureQ (some (.int ev)) h0 n0 v U'.heap L ∧ FrameEnd U o U' L ({ frames := 0, cells := 0, slots := 0, locals := 0 } : Room).cells ({ frames := 0, cells := 0, slots := 0, locals := 0 } : Room).slots) := by
  refine MetFree.of_bodySF (plainFor_of_name pn_RowValues) hisR ?_
  intro p e s m args below meth c s₁ Bd hml0 hP hK
  obtain ⟨rfl, hZ, hh⟩ := hP
  have hx := Bd.exec
  have hby := Bd.bytes
  have bb := fun {pc : Nat} {r : Except DecodeError (Instr × Nat)} (h : decode prog_48_method_3_code pc = r) => hb hby h
  have ww := fun (i : Nat) {d : Jvm.Cond} (h : tables_1[i]? = some d) => hw d (List.mem_of_getElem? h)
  have hml : c.maxLocals = 6 := hml0
  have hown : s.vm.findClass cRV = some m.cls := findClass_of_methodNamed Bd.named
  have hnm := (name_of_methodNamed Bd.named Bd.method).1
  have X0 : Stand p l e ({ frames := 0, cells := 0, slots := 0, locals := 0 } : Room) s m #[(.ref a1), (.int p2), (.int p3)] below meth c s₁ [] 0 0 := Stand.of_body Bd
  have e0 : s₁.heap = h0 := by rw [← hh, Bd.state]; rfl
  have N0 := Fr.nil n0
  have pre0 : ∀ t, Steps p.tables e below (s₁.setTop (mkF m 0 #[vR a1, vI p2, vI p3, .unset, .unset, .unset] [])) t → Steps p.tables e below (s₁.setTop (entryFrame m #[(.ref a1), (.int p2), (.int p3)] 6)) t := fun t k => castTop (ef_get1W m a1 p2 p3) k
  obtain ⟨T1, X1, e1, st1⟩ := getS2 X0 hx hZ hown (host := "") (Or.inl (ww 164 rfl)) Via.refl e0 (S_CS.ext O0.2) (g := (mkF m 1 #[vR a1, vI p2, vI p3, .unset, .unset, .unset] [(.int p2)])) rfl (bb d37_1)
  obtain ⟨T2, X2, e2, st2⟩ := getF X1 hx hZ hown (host := "") (Or.inl (ww 75 rfl)) Via.refl e1 r0 (g := (mkF m 12 #[vR a1, vI p2, vI p3, vI ((p2.toUInt32 >>> ((12 : Int32) &&& 31).toUInt32).toInt32), .unset, .unset] [(.ref a1), (.int (p2 &&& (4095 : Int32)))])) rfl rfl (bb d37_12)
  obtain ⟨T3, X3, e3, st3⟩ := getF X2 hx hZ hown (host := "") (Or.inl (ww 73 rfl)) Via.refl e2 r1 (g := (mkF m 21 #[vR a1, vI p2, vI p3, vI ((p2.toUInt32 >>> ((12 : Int32) &&& 31).toUInt32).toInt32), vI (((p2 &&& (4095 : Int32)) * (1 : Int32)) + p3), .unset] [(.ref a1)])) rfl rfl (bb d37_21)
  obtain ⟨T4, X4, e4, st4⟩ := getF X3 hx hZ hown (host := "") (Or.inl (ww 69 rfl)) Via.refl e3 r2 (g := (mkF m 56 #[vR a1, vI p2, vI p3, vI ((p2.toUInt32 >>> ((12 : Int32) &&& 31).toUInt32).toInt32), vI (((p2 &&& (4095 : Int32)) * (1 : Int32)) + p3), .val .null] [(.ref a1)])) rfl rfl (bb d37_56)
  obtain ⟨fs, hr, hrun, hended, hW, hsame⟩ := X4.leave (v := some (.int ev)) (fun h => by rw [Bd.returns] at h; cases h)
  refine ⟨_, _, pre0 _ ?_, hrun, hended, _, _, rfl, ?_, ⟨_, rfl⟩, hW, hsame.mono (by decide) (by decide)⟩
  · show GG p e below s₁ (mkF m 0 #[vR a1, vI p2, vI p3, .unset, .unset, .unset] []) _
    refine XS.iloadN X0.here hx rfl (bb d37_0) rfl ?_
    refine st1 _ ?_
    refine XS.iushr X1.here hx rfl (bb d37_4) rfl ?_
    refine XS.istoreN X1.here hx rfl (bb d37_5) rfl (l' := #[vR a1, vI p2, vI p3, vI ((p2.toUInt32 >>> ((12 : Int32) &&& 31).toUInt32).toInt32), .unset, .unset]) rfl ?_
    refine XS.iloadN X1.here hx rfl (bb d37_6) rfl ?_
    refine XS.sipush X1.here hx rfl (bb d37_7) ?_
    refine XS.iand X1.here hx rfl (bb d37_10) rfl ?_
    refine XS.aloadN X1.here hx rfl (bb d37_11) rfl rfl ?_
    refine st2 _ ?_
    refine XS.imul X2.here hx rfl (bb d37_15) rfl ?_
    refine XS.iloadN X2.here hx rfl (bb d37_16) rfl ?_
    refine XS.iadd X2.here hx rfl (bb d37_17) rfl ?_
    refine XS.istore X2.here hx rfl (bb d37_18) rfl (l' := #[vR a1, vI p2, vI p3, vI ((p2.toUInt32 >>> ((12 : Int32) &&& 31).toUInt32).toInt32), vI (((p2 &&& (4095 : Int32)) * (1 : Int32)) + p3), .unset]) rfl ?_
    refine XS.aloadN X2.here hx rfl (bb d37_20) rfl rfl ?_
    refine st3 _ ?_
    refine XS.iloadN X3.here hx rfl (bb d37_24) rfl ?_
    refine X3.aaload hx (j := ((p2.toUInt32 >>> ((12 : Int32) &&& 31).toUInt32).toInt32)) (v := .null) (by rw [e3]; exact A_on.1) (State.isArrayOf_alike hZ.alike A_on.2.1) rfl A_on.2.2 i_on t_on (g := (mkF m 25 #[vR a1, vI p2, vI p3, vI ((p2.toUInt32 >>> ((12 : Int32) &&& 31).toUInt32).toInt32), vI (((p2 &&& (4095 : Int32)) * (1 : Int32)) + p3), .unset] [(.int ((p2.toUInt32 >>> ((12 : Int32) &&& 31).toUInt32).toInt32)), (.ref on)])) rfl rfl (bb d37_25) _ ?_
    refine XS.astore X3.here hx rfl (bb d37_26) rfl rfl (l' := #[vR a1, vI p2, vI p3, vI ((p2.toUInt32 >>> ((12 : Int32) &&& 31).toUInt32).toInt32), vI (((p2 &&& (4095 : Int32)) * (1 : Int32)) + p3), .val .null]) rfl ?_
    refine XS.aload X3.here hx rfl (bb d37_28) rfl rfl ?_
    refine XS.ifnullYes X3.here hx rfl (pc0 := 30) (pc' := 55) rfl (bb d37_30) rfl (by decide) (by decide) ?_
    refine XS.aloadN X3.here hx rfl (bb d37_55) rfl rfl ?_
    refine st4 _ ?_
    refine XS.iloadN X4.here hx rfl (bb d37_59) rfl ?_
    refine X4.aaload hx (j := ((p2.toUInt32 >>> ((12 : Int32) &&& 31).toUInt32).toInt32)) (v := (.ref oz)) (by rw [e4]; exact A_ow.1) (State.isArrayOf_alike hZ.alike A_ow.2.1) rfl A_ow.2.2 i_ow t_ow (g := (mkF m 60 #[vR a1, vI p2, vI p3, vI ((p2.toUInt32 >>> ((12 : Int32) &&& 31).toUInt32).toInt32), vI (((p2 &&& (4095 : Int32)) * (1 : Int32)) + p3), .val .null] [(.int ((p2.toUInt32 >>> ((12 : Int32) &&& 31).toUInt32).toInt32)), (.ref ow)])) rfl rfl (bb d37_60) _ ?_
    refine XS.iload X4.here hx rfl (bb d37_61) rfl ?_
    refine X4.iaload hx (j := (((p2 &&& (4095 : Int32)) * (1 : Int32)) + p3)) (v := (.int ev)) (by rw [e4]; exact A_oz.1) (State.isArrayOf_alike hZ.alike A_oz.2.1) A_oz.2.2 i_oz t_oz (g := (mkF m 63 #[vR a1, vI p2, vI p3, vI ((p2.toUInt32 >>> ((12 : Int32) &&& 31).toUInt32).toInt32), vI (((p2 &&& (4095 : Int32)) * (1 : Int32)) + p3), .val .null] [(.int (((p2 &&& (4095 : Int32)) * (1 : Int32)) + p3)), (.ref oz)])) rfl rfl (bb d37_63) _ ?_
    exact retI X4 hx Bd.returns (bb d37_64) hr
  · exact ⟨rfl, N0, e4⟩
def Q_widen1_1 (Z : State) (wDE a1 ow on ob ol oh ov : Addr) (kw_ kn_ kb_ kl_ kh_ kv_ : ClassId) (eb0 el0 eu0 ev0_0 ex1 ex2 ex3 ex4 ex5 ex6 ex7 : Int32) (h0 : Heap) (n0 : Nat) (v : Option Value) (h : Heap) (L : List Loc) : Prop := ∃ (oz : Addr) (kz_ : ClassId), v = none ∧ Fr n0 L ∧ Keep h0 h [ow, on] ∧ h0.size ≤ oz ∧ Arv Z h ow kw_ (.array .int) (1 : Int32) [(.ref oz)] .null ∧ Arv Z h on kn_ (.array .char) (1 : Int32) [.null] .null ∧ Arv Z h oz kz_ .int (8 : Int32) [(.int ev0_0), (.int 0), (.int 0), (.int 0), (.int 0), (.int 0), (.int 0), (.int 0)] (.int 0)
set_option maxRecDepth 65536 in
set_option maxHeartbeats 40000000 in
theorem rm_widen1_1 (l : Launch) (Z : State) (a0 : Array Value) (hw : ∀ d ∈ tables_1, d.before a0 Z = true) (ws : List Jvm.Cond) (wDE : Addr) (a1 ow on ob ol oh ov : Addr) (kw_ kn_ kb_ kl_ kh_ kv_ : ClassId) (eb0 el0 eu0 ev0_0 ex1 ex2 ex3 ex4 ex5 ex6 ex7 : Int32) (h0 : Heap) (n0 : Nat) (Z0 : n0 ≤ h0.size) (S_wDE : Sta Z Z.heap "java/util/ArrayList" "DEFAULTCAPACITY_EMPTY_ELEMENTDATA" "[Ljava/lang/Object;" (.ref wDE)) (O0 : Old Z n0 h0) (S_CS : Sta Z Z.heap cRV "CHUNK_SHIFT" "I" (.int (12 : Int32))) (r0 : Exa Z h0 a1 cRV) (r1 : Fld Z h0 a1 cRV "arity" "I" (.int 1)) (r2 : Fld Z h0 a1 cRV "rows" "I" (.int 1)) (r3 : Fld Z h0 a1 cRV "wide" "[[I" (.ref ow)) (r4 : Fld Z h0 a1 cRV "narrow" "[[C" (.ref on)) (r5 : Fld Z h0 a1 cRV "bases" "[I" (.ref ob)) (r6 : Fld Z h0 a1 cRV "lowest" "[I" (.ref ol)) (r7 : Fld Z h0 a1 cRV "highest" "[I" (.ref oh)) (r8 : Arv Z h0 ow kw_ (.array .int) (1 : Int32) [.null] .null) (r9 : OvrA Z kw_ .int "[I") (r10 : Arv Z h0 on kn_ (.array .char) (1 : Int32) [(.ref ov)] .null) (r11 : OvrA Z kn_ .char "[C") (r12 : Arv Z h0 ob kb_ .int (1 : Int32) [(.int eb0)] (.int 0)) (r13 : Arv Z h0 ol kl_ .int (1 : Int32) [(.int el0)] (.int 0)) (r14 : Arv Z h0 oh kh_ .int (1 : Int32) [(.int eu0)] (.int 0)) (r15 : Arv Z h0 ov kv_ .char (8 : Int32) [(.int (nar .char (ev0_0 - eb0))), (.int ex1), (.int ex2), (.int ex3), (.int ex4), (.int ex5), (.int ex6), (.int ex7)] (.int 0)) (g_ow : n0 ≤ ow) (g_on : n0 ≤ on) (ne_a1_ow : a1 ≠ ow) (ne_a1_on : a1 ≠ on) (ne_a1_ob : a1 ≠ ob) (ne_a1_ol : a1 ≠ ol) (ne_a1_oh : a1 ≠ oh) (ne_a1_ov : a1 ≠ ov) (ne_ow_on : ow ≠ on) (ne_ow_ob : ow ≠ ob) (ne_ow_ol : ow ≠ ol) (ne_ow_oh : ow ≠ oh) (ne_ow_ov : ow ≠ ov) (ne_on_ob : on ≠ ob) (ne_on_ol : on ≠ ol) (ne_on_oh : on ≠ oh) (ne_on_ov : on ≠ ov) (ne_ob_ol : ob ≠ ol) (ne_ob_oh : ob ≠ oh) (ne_ob_ov : ob ≠ ov) (ne_ol_oh : ol ≠ oh) (ne_ol_ov : ol ≠ ov) (ne_oh_ov : oh ≠ ov) (hIn0_0 : ownIn eb0 ev0_0) :
    MetFree l (⟨cRV, "widen", "(II)V"⟩ : MethodName) (head1 (Jvm.Cond.code (⟨cRV, "widen", "(II)V"⟩ : MethodName) prog_48_method_9_code 6 none :: ws) ({ frames := 1, cells := 1, slots := 8, locals := 19 } : Room)) (fun a U => a = #[(.ref a1), (.int 0), (.int 1)] ∧ Z.Warmed39 U.vm ∧ U.heap = h0) (fun _ _ _ _ _ => True) (fun _ U o U' => ∃ v L, o = .returned v ∧ Q_widen1_1 Z wDE a1 ow on ob ol oh ov kw_ kn_ kb_ kl_ kh_ kv_ eb0 el0 eu0 ev0_0 ex1 ex2 ex3 ex4 ex5 ex6 ex7 h0 n0 v U'.heap L ∧ FrameEnd U o U' L ({ frames := 1, cells := 1, slots := 8, locals := 19 } : Room).cells ({ frames := 1, cells := 1, slots := 8, locals := 19 } : Room).slots) := by
  refine MetFree.of_bodySF (plainFor_of_name pn_RowValues) hisR ?_
  intro p e s m args below meth c s₁ Bd hml0 hP hK
  obtain ⟨rfl, hZ, hh⟩ := hP
  have hx := Bd.exec
  have hby := Bd.bytes
  have bb := fun {pc : Nat} {r : Except DecodeError (Instr × Nat)} (h : decode prog_48_method_9_code pc = r) => hb hby h
  have ww := fun (i : Nat) {d : Jvm.Cond} (h : tables_1[i]? = some d) => hw d (List.mem_of_getElem? h)
  have hml : c.maxLocals = 6 := hml0
  have hown : s.vm.findClass cRV = some m.cls := findClass_of_methodNamed Bd.named
  have hnm := (name_of_methodNamed Bd.named Bd.method).1
  have X0 : Stand p l e ({ frames := 1, cells := 1, slots := 8, locals := 19 } : Room) s m #[(.ref a1), (.int 0), (.int 1)] below meth c s₁ [] 0 0 := Stand.of_body Bd
  have e0 : s₁.heap = h0 := by rw [← hh, Bd.state]; rfl
  have N0 := Fr.nil n0
  have pre0 : ∀ t, Steps p.tables e below (s₁.setTop (mkF m 0 #[vR a1, vI 0, vI 1, .unset, .unset, .unset] [])) t → Steps p.tables e below (s₁.setTop (entryFrame m #[(.ref a1), (.int 0), (.int 1)] 6)) t := fun t k => castTop (ef_widen1_1 m a1) k
  obtain ⟨T1, X1, e1, st1⟩ := getF X0 hx hZ hown (host := "") (Or.inl (ww 73 rfl)) Via.refl e0 r4 (g := (mkF m 1 #[vR a1, vI 0, vI 1, .unset, .unset, .unset] [(.ref a1)])) rfl rfl (bb d36_1)
  obtain ⟨cl2, Ar2, vq2, vS2, vN2, vH2, vG2⟩ := id r10
  have hin2 : ¬ (((0 : Int32) : Int32) < 0 ∨ cl2.slots.size ≤ ((0 : Int32) : Int32).toNatClampNeg) := inb_of vS2 ⟨by decide, by decide⟩
  obtain ⟨cl3, Ar3, vq3, vS3, vN3, vH3, vG3⟩ := id r15
  obtain ⟨T4, h4, k4, X4, e4, E4, A4, B4, st4⟩ := newPE (aty := .int) X1 hx hZ (ww 0 rfl) e1 (g := (mkF m 7 #[vR a1, vI 0, vI 1, .unset, .unset, .unset] [(.int 8)])) rfl (bb d36_7) rfl (by decide) (cap := 8) (by decide) (by decide) (by decide) (by decide) (ad := "[I") (by decide)
  obtain ⟨b4, q_b4⟩ : ∃ z, z = (h0).size := ⟨_, rfl⟩
  rw [← q_b4] at A4 B4 st4
  have g_b4 : n0 ≤ b4 := Nat.le_trans (own_z0 O0) (Nat.le_of_eq q_b4.symm)
  have sz_b4 : h0.size ≤ b4 := Nat.le_trans (Nat.le_refl _) (Nat.le_of_eq q_b4.symm)
  have ne_a1_b4 : a1 ≠ b4 := Nat.ne_of_lt (Nat.lt_of_lt_of_le r0.lt (Nat.le_of_eq q_b4.symm))
  have ne_ow_b4 : ow ≠ b4 := Nat.ne_of_lt (Nat.lt_of_lt_of_le r8.lt (Nat.le_of_eq q_b4.symm))
  have ne_on_b4 : on ≠ b4 := Nat.ne_of_lt (Nat.lt_of_lt_of_le r10.lt (Nat.le_of_eq q_b4.symm))
  have ne_ob_b4 : ob ≠ b4 := Nat.ne_of_lt (Nat.lt_of_lt_of_le r12.lt (Nat.le_of_eq q_b4.symm))
  have ne_ol_b4 : ol ≠ b4 := Nat.ne_of_lt (Nat.lt_of_lt_of_le r13.lt (Nat.le_of_eq q_b4.symm))
  have ne_oh_b4 : oh ≠ b4 := Nat.ne_of_lt (Nat.lt_of_lt_of_le r14.lt (Nat.le_of_eq q_b4.symm))
  have ne_ov_b4 : ov ≠ b4 := Nat.ne_of_lt (Nat.lt_of_lt_of_le r15.lt (Nat.le_of_eq q_b4.symm))
  have V_b4 : Arv Z h4 b4 k4 .int (8 : Int32) [(.int 0), (.int 0), (.int 0), (.int 0), (.int 0), (.int 0), (.int 0), (.int 0)] (.int 0) := (Arv.new A4 (by decide)).pad (pad_rep [] (.int 0) 8)
  have F6 := (r1.ext E4)
  obtain ⟨T5, X5, e5, st5⟩ := getF X4 hx hZ hown (host := "") (Or.inl (ww 75 rfl)) Via.refl e4 F6 (g := (mkF m 25 #[vR a1, vI 0, vI 1, vR b4, vI 0, vI 0] [(.ref a1), (.int 0)])) rfl rfl (bb d36_25)
  obtain ⟨T7, X7, e7, st7⟩ := getF X5 hx hZ hown (host := "") (Or.inl (ww 75 rfl)) Via.refl e5 F6 (g := (mkF m 35 #[vR a1, vI 0, vI 1, vR b4, vI 0, vI 0] [(.ref a1), (.int 0), (.ref b4)])) rfl rfl (bb d36_35)
  have F8 := (r10.ext E4)
  obtain ⟨cl9, Ar9, vq9, vS9, vN9, vH9, vG9⟩ := id F8
  have F10 := (r12.ext E4)
  obtain ⟨cl11, Ar11, vq11, vS11, vN11, vH11, vG11⟩ := id F10
  have F12 := (r15.ext E4)
  obtain ⟨cl13, Ar13, vq13, vS13, vN13, vH13, vG13⟩ := id F12
  have F14 := (r4.ext E4)
  have F15 := (r5.ext E4)
  have O17 := (O0.ext E4)
  have F18 := (r0.ext E4)
  obtain ⟨cq16, kq16, q16a, q16b, q16c⟩ := isOf hZ e7 F18
  obtain ⟨_, _, ⟨T16, L16, k16, n16⟩, -, X16, ⟨Lc16, hQ16, l16, y16, z16⟩, st16⟩ := X7.virtualBack hx (y := (⟨cRV, "get", "(II)I"⟩ : MethodName)) (z := (⟨cRV, "get", "(II)I"⟩ : MethodName)) hown (mvT hZ (ww 269 rfl)) (mvT hZ (ww 270 rfl)) (notFace_of_selects (args := #[]) (mvT hZ (ww 272 rfl))) (mvT hZ (ww 272 rfl)) (mvT hZ (ww 271 rfl)) (by decide) (backOf (W := 2) (rm_get1N l Z a0 hw [] wDE a1 (0 : Int32) (0 : Int32) on ob ov cl9 cl11 cl13 eb0 ev0_0 h4 n0 (own_z0 O17) S_wDE O17 S_CS F6 F14 F15 Ar9 (inb_of vS9 ⟨by decide, by decide⟩) (vH9.at (inb_of vS9 ⟨by decide, by decide⟩) rfl) Ar11 (inb_of vS11 ⟨by decide, by decide⟩) (vH11.at (inb_of vS11 ⟨by decide, by decide⟩) rfl) Ar13 (inb_of vS13 ⟨by decide, by decide⟩) (vH13.at (inb_of vS13 ⟨by decide, by decide⟩) rfl) hIn0_0) hZ (ww 273 rfl) (ww 62 rfl) (by decide) (by decide)) q16a q16c (g := (mkF m 53 #[vR a1, vI 0, vI 1, vR b4, vI 0, vI 0] [(.int 0), (.int 0), (.ref a1), (.int 0), (.ref b4)])) rfl (by rw [hml]; rfl) (Steps.refl _) (argsL := [(.int 0), (.int 0)]) (rest := [(.int 0), (.ref b4)]) (lenOf pd__II_I_5 rfl) rfl (by show 2 * 0 + _ ≤ _; exact Nat.le_of_eq rfl) (bb d36_53) (fun _ _ => ⟨rfl, e7, (by decide : 1 + 0 ≤ _), (by decide : 8 + 0 ≤ _)⟩)
  dsimp only [Pt.U, Pt.locs, Pt.cells, Pt.slots] at X16 l16 y16 z16 st16 hQ16
  subst l16 y16 z16
  obtain ⟨rfl, N16q, e16⟩ := hQ16
  have N16 := Fr.app N0 N16q
  obtain ⟨cl19, Ar19, vq19, vS19, vN19, vH19, vG19⟩ := id V_b4
  have hin19 : ¬ (((0 : Int32) : Int32) < 0 ∨ cl19.slots.size ≤ ((0 : Int32) : Int32).toNatClampNeg) := inb_of vS19 ⟨by decide, by decide⟩
  obtain ⟨T19, h19, X19, e19, W19, st19⟩ := stI X16 hx hZ e16 Ar19 (j := (0 : Int32)) hin19 (g := (mkF m 56 #[vR a1, vI 0, vI 1, vR b4, vI 0, vI 0] [(.int ev0_0), (.int 0), (.ref b4)])) rfl rfl (bb d36_56)
  have V19 : Arv Z h19 b4 k4 .int (8 : Int32) [(.int ev0_0), (.int 0), (.int 0), (.int 0), (.int 0), (.int 0), (.int 0), (.int 0)] (.int 0) := Arv.set Ar19 vq19 vS19 vN19 vH19 vG19 rfl W19 0 rfl (Nat.le_of_ble_eq_true rfl)
  have N19 := Fr.snoc X19 N16 g_b4
  have F21 := (F6.other W19 (Or.inl ne_a1_b4))
  obtain ⟨T20, X20, e20, st20⟩ := getF X19 hx hZ hown (host := "") (Or.inl (ww 75 rfl)) Via.refl e19 F21 (g := (mkF m 25 #[vR a1, vI 0, vI 1, vR b4, vI 0, vI 1] [(.ref a1), (.int 1)])) rfl rfl (bb d36_25)
  have F23 := ((r3.ext E4).other W19 (Or.inl ne_a1_b4))
  obtain ⟨T22, X22, e22, st22⟩ := getF X20 hx hZ hown (host := "") (Or.inl (ww 69 rfl)) Via.refl e20 F23 (g := (mkF m 70 #[vR a1, vI 0, vI 1, vR b4, vI 1, vI 1] [(.ref a1)])) rfl rfl (bb d36_70)
  have F24 := ((r8.ext E4).other W19 ne_ow_b4)
  obtain ⟨cl25, Ar25, vq25, vS25, vN25, vH25, vG25⟩ := id F24
  have hin25 : ¬ (((0 : Int32) : Int32) < 0 ∨ cl25.slots.size ≤ ((0 : Int32) : Int32).toNatClampNeg) := inb_of vS25 ⟨by decide, by decide⟩
  have F26 := (B4.wr W19)
  obtain ⟨T25, h25, X25, e25, W25, st25⟩ := stR X22 hx hZ e22 Ar25 (j := (0 : Int32)) hin25 rfl (Sto.ofVA Ar25 vq25 r9 (Ins.self F26)) (g := (mkF m 75 #[vR a1, vI 0, vI 1, vR b4, vI 1, vI 1] [(.ref b4), (.int 0), (.ref ow)])) rfl rfl (bb d36_75)
  have V25 : Arv Z h25 ow kw_ (.array .int) (1 : Int32) [(.ref b4)] .null := Arv.set Ar25 vq25 vS25 vN25 vH25 vG25 rfl W25 0 rfl (Nat.le_of_ble_eq_true rfl)
  have N25 := Fr.snoc X25 N19 g_ow
  have F28 := ((F14.other W19 (Or.inl ne_a1_b4)).other W25 (Or.inl ne_a1_ow))
  obtain ⟨T27, X27, e27, st27⟩ := getF X25 hx hZ hown (host := "") (Or.inl (ww 73 rfl)) Via.refl e25 F28 (g := (mkF m 77 #[vR a1, vI 0, vI 1, vR b4, vI 1, vI 1] [(.ref a1)])) rfl rfl (bb d36_77)
  have F29 := ((F8.other W19 ne_on_b4).other W25 (Ne.symm ne_ow_on))
  obtain ⟨cl30, Ar30, vq30, vS30, vN30, vH30, vG30⟩ := id F29
  have hin30 : ¬ (((0 : Int32) : Int32) < 0 ∨ cl30.slots.size ≤ ((0 : Int32) : Int32).toNatClampNeg) := inb_of vS30 ⟨by decide, by decide⟩
  obtain ⟨T30, h30, X30, e30, W30, st30⟩ := stR X27 hx hZ e27 Ar30 (j := (0 : Int32)) hin30 rfl (Or.inl rfl) (g := (mkF m 82 #[vR a1, vI 0, vI 1, vR b4, vI 1, vI 1] [.null, (.int 0), (.ref on)])) rfl rfl (bb d36_82)
  have V30 : Arv Z h30 on kn_ (.array .char) (1 : Int32) [.null] .null := Arv.set Ar30 vq30 vS30 vN30 vH30 vG30 rfl W30 0 rfl (Nat.le_of_ble_eq_true rfl)
  have N30 := Fr.snoc X30 N25 g_on
  have F31 := (V25.other W30 ne_ow_on)
  have F32 := ((V19.other W25 (Ne.symm ne_ow_b4)).other W30 (Ne.symm ne_on_b4))
  obtain ⟨fs, hr, hrun, hended, hW, hsame⟩ := X30.leave (v := none) (fun _ => rfl)
  refine ⟨_, _, pre0 _ ?_, hrun, hended, _, _, rfl, ?_, ⟨_, rfl⟩, hW, hsame.mono (by decide) (by decide)⟩
  · show GG p e below s₁ (mkF m 0 #[vR a1, vI 0, vI 1, .unset, .unset, .unset] []) _
    refine XS.aloadN X0.here hx rfl (bb d36_0) rfl rfl ?_
    refine st1 _ ?_
    refine XS.iloadN X1.here hx rfl (bb d36_4) rfl ?_
    refine X1.aaload hx (j := (0 : Int32)) (v := (.ref ov)) (by rw [e1]; exact Ar2.1) (State.isArrayOf_alike hZ.alike Ar2.2.1) rfl Ar2.2.2 hin2 (vH2.at hin2 rfl) (g := (mkF m 5 #[vR a1, vI 0, vI 1, .unset, .unset, .unset] [(.int 0), (.ref on)])) rfl rfl (bb d36_5) _ ?_
    refine X1.arraylength hx (by rw [e1]; exact Ar3.1) (State.isArrayOf_alike hZ.alike Ar3.2.1) (g := (mkF m 6 #[vR a1, vI 0, vI 1, .unset, .unset, .unset] [(.ref ov)])) rfl rfl (bb d36_6) _ ?_
    rw [len_of vS3 vN3]
    show GG p e below T1 (mkF m 7 #[vR a1, vI 0, vI 1, .unset, .unset, .unset] [(.int 8)]) _
    refine st4 _ ?_
    refine XS.astoreN X4.here hx rfl (bb d36_9) rfl rfl (l' := #[vR a1, vI 0, vI 1, vR b4, .unset, .unset]) rfl ?_
    refine XS.iconst X4.here hx rfl (bb d36_10) ?_
    refine XS.istore X4.here hx rfl (bb d36_11) rfl (l' := #[vR a1, vI 0, vI 1, vR b4, vI 0, .unset]) rfl ?_
    refine XS.iload X4.here hx rfl (bb d36_13) rfl ?_
    refine XS.iloadN X4.here hx rfl (bb d36_15) rfl ?_
    refine XS.icmpNo X4.here hx rfl (bb d36_16) rfl (tlt (by decide : (0 : Int32) < (1 : Int32))).2.1 ?_
    refine XS.iconst X4.here hx rfl (bb d36_19) ?_
    refine XS.istore X4.here hx rfl (bb d36_20) rfl (l' := #[vR a1, vI 0, vI 1, vR b4, vI 0, vI 0]) rfl ?_
    refine XS.iload X4.here hx rfl (bb d36_22) rfl ?_
    refine XS.aloadN X4.here hx rfl (bb d36_24) rfl rfl ?_
    refine st5 _ ?_
    refine XS.icmpNo X5.here hx rfl (bb d36_28) rfl (tlt (by decide : (0 : Int32) < (1 : Int32))).2.1 ?_
    refine XS.aloadN X5.here hx rfl (bb d36_31) rfl rfl ?_
    refine XS.iload X5.here hx rfl (bb d36_32) rfl ?_
    refine XS.aloadN X5.here hx rfl (bb d36_34) rfl rfl ?_
    refine st7 _ ?_
    refine XS.imul X7.here hx rfl (bb d36_38) rfl ?_
    refine XS.iload X7.here hx rfl (bb d36_39) rfl ?_
    refine XS.iadd X7.here hx rfl (bb d36_41) rfl ?_
    refine XS.aloadN X7.here hx rfl (bb d36_42) rfl rfl ?_
    refine XS.iloadN X7.here hx rfl (bb d36_43) rfl ?_
    refine XS.sipush X7.here hx rfl (bb d36_44) ?_
    refine XS.imul X7.here hx rfl (bb d36_47) rfl ?_
    refine XS.iload X7.here hx rfl (bb d36_48) rfl ?_
    refine XS.iadd X7.here hx rfl (bb d36_50) rfl ?_
    refine XS.iload X7.here hx rfl (bb d36_51) rfl ?_
    refine st16.trans ?_
    refine st19 _ ?_
    refine XS.iinc X19.here hx rfl (bb d36_57) rfl (l' := #[vR a1, vI 0, vI 1, vR b4, vI 0, vI 1]) rfl ?_
    refine XS.goto X19.here hx rfl (pc0 := 60) (pc' := 22) rfl (bb d36_60) (by decide) (by decide) ?_
    refine XS.iload X19.here hx rfl (bb d36_22) rfl ?_
    refine XS.aloadN X19.here hx rfl (bb d36_24) rfl rfl ?_
    refine st20 _ ?_
    refine XS.icmpYes X20.here hx rfl (pc0 := 28) (pc' := 63) rfl (bb d36_28) rfl (flt (by decide : ¬ ((1 : Int32) < (1 : Int32)))).2.1 (by decide) (by decide) ?_
    refine XS.iinc X20.here hx rfl (bb d36_63) rfl (l' := #[vR a1, vI 0, vI 1, vR b4, vI 1, vI 1]) rfl ?_
    refine XS.goto X20.here hx rfl (pc0 := 66) (pc' := 13) rfl (bb d36_66) (by decide) (by decide) ?_
    refine XS.iload X20.here hx rfl (bb d36_13) rfl ?_
    refine XS.iloadN X20.here hx rfl (bb d36_15) rfl ?_
    refine XS.icmpYes X20.here hx rfl (pc0 := 16) (pc' := 69) rfl (bb d36_16) rfl (flt (by decide : ¬ ((1 : Int32) < (1 : Int32)))).2.1 (by decide) (by decide) ?_
    refine XS.aloadN X20.here hx rfl (bb d36_69) rfl rfl ?_
    refine st22 _ ?_
    refine XS.iloadN X22.here hx rfl (bb d36_73) rfl ?_
    refine XS.aloadN X22.here hx rfl (bb d36_74) rfl rfl ?_
    refine st25 _ ?_
    refine XS.aloadN X25.here hx rfl (bb d36_76) rfl rfl ?_
    refine st27 _ ?_
    refine XS.iloadN X27.here hx rfl (bb d36_80) rfl ?_
    refine XS.aconstNull X27.here hx rfl (bb d36_81) ?_
    refine st30 _ ?_
    exact X30.returnOut hx Bd.returns (bb d36_83) hr
  · show Q_widen1_1 Z wDE a1 ow on ob ol oh ov kw_ kn_ kb_ kl_ kh_ kv_ eb0 el0 eu0 ev0_0 ex1 ex2 ex3 ex4 ex5 ex6 ex7 h0 n0 _ T30.heap _
    rw [e30]
    exact ⟨b4, k4, rfl, N30, (((((Keep.refl h0 [ow, on]).ext E4).wr W19 (Or.inr sz_b4)).wr W25 (Or.inl (List.mem_of_getElem? (i := 0) rfl))).wr W30 (Or.inl (List.mem_of_getElem? (i := 1) rfl))), sz_b4, F31, V30, F32⟩
def Q_fitW1_1 (Z : State) (wDE a1 at_ ow on ob ol oh ov : Addr) (kw_ kn_ kb_ kl_ kh_ kv_ : ClassId) (eb0 el0 eu0 ev0_0 ex1 ex2 ex3 ex4 ex5 ex6 ex7 : Int32) (kt_ : ClassId) (et0 : Int32) (h0 : Heap) (n0 : Nat) (v : Option Value) (h : Heap) (L : List Loc) : Prop := ∃ (oz : Addr) (kz_ : ClassId), v = none ∧ Fr n0 L ∧ Keep h0 h [ow, on] ∧ h0.size ≤ oz ∧ Arv Z h ow kw_ (.array .int) (1 : Int32) [(.ref oz)] .null ∧ Arv Z h on kn_ (.array .char) (1 : Int32) [.null] .null ∧ Arv Z h oz kz_ .int (8 : Int32) [(.int ev0_0), (.int 0), (.int 0), (.int 0), (.int 0), (.int 0), (.int 0), (.int 0)] (.int 0)
set_option maxRecDepth 65536 in
set_option maxHeartbeats 40000000 in
theorem rm_fitW1_1 (l : Launch) (Z : State) (a0 : Array Value) (hw : ∀ d ∈ tables_1, d.before a0 Z = true) (ws : List Jvm.Cond) (wDE : Addr) (a1 at_ ow on ob ol oh ov : Addr) (kw_ kn_ kb_ kl_ kh_ kv_ : ClassId) (eb0 el0 eu0 ev0_0 ex1 ex2 ex3 ex4 ex5 ex6 ex7 : Int32) (kt_ : ClassId) (et0 : Int32) (h0 : Heap) (n0 : Nat) (Z0 : n0 ≤ h0.size) (S_wDE : Sta Z Z.heap "java/util/ArrayList" "DEFAULTCAPACITY_EMPTY_ELEMENTDATA" "[Ljava/lang/Object;" (.ref wDE)) (O0 : Old Z n0 h0) (S_CS : Sta Z Z.heap cRV "CHUNK_SHIFT" "I" (.int (12 : Int32))) (r0 : Exa Z h0 a1 cRV) (r1 : Fld Z h0 a1 cRV "arity" "I" (.int 1)) (r2 : Fld Z h0 a1 cRV "rows" "I" (.int 1)) (r3 : Fld Z h0 a1 cRV "wide" "[[I" (.ref ow)) (r4 : Fld Z h0 a1 cRV "narrow" "[[C" (.ref on)) (r5 : Fld Z h0 a1 cRV "bases" "[I" (.ref ob)) (r6 : Fld Z h0 a1 cRV "lowest" "[I" (.ref ol)) (r7 : Fld Z h0 a1 cRV "highest" "[I" (.ref oh)) (r8 : Arv Z h0 ow kw_ (.array .int) (1 : Int32) [.null] .null) (r9 : OvrA Z kw_ .int "[I") (r10 : Arv Z h0 on kn_ (.array .char) (1 : Int32) [(.ref ov)] .null) (r11 : OvrA Z kn_ .char "[C") (r12 : Arv Z h0 ob kb_ .int (1 : Int32) [(.int eb0)] (.int 0)) (r13 : Arv Z h0 ol kl_ .int (1 : Int32) [(.int el0)] (.int 0)) (r14 : Arv Z h0 oh kh_ .int (1 : Int32) [(.int eu0)] (.int 0)) (r15 : Arv Z h0 ov kv_ .char (8 : Int32) [(.int (nar .char (ev0_0 - eb0))), (.int ex1), (.int ex2), (.int ex3), (.int ex4), (.int ex5), (.int ex6), (.int ex7)] (.int 0)) (r16 : Arv Z h0 at_ kt_ .int (1 : Int32) [(.int et0)] (.int 0)) (g_ow : n0 ≤ ow) (g_on : n0 ≤ on) (ne_a1_ow : a1 ≠ ow) (ne_a1_on : a1 ≠ on) (ne_a1_ob : a1 ≠ ob) (ne_a1_ol : a1 ≠ ol) (ne_a1_oh : a1 ≠ oh) (ne_a1_ov : a1 ≠ ov) (ne_ow_on : ow ≠ on) (ne_ow_ob : ow ≠ ob) (ne_ow_ol : ow ≠ ol) (ne_ow_oh : ow ≠ oh) (ne_ow_ov : ow ≠ ov) (ne_on_ob : on ≠ ob) (ne_on_ol : on ≠ ol) (ne_on_oh : on ≠ oh) (ne_on_ov : on ≠ ov) (ne_ob_ol : ob ≠ ol) (ne_ob_oh : ob ≠ oh) (ne_ob_ov : ob ≠ ov) (ne_ol_oh : ol ≠ oh) (ne_ol_ov : ol ≠ ov) (ne_oh_ov : oh ≠ ov) (ne_at__a1 : at_ ≠ a1) (ne_at__ow : at_ ≠ ow) (ne_at__on : at_ ≠ on) (ne_at__ob : at_ ≠ ob) (ne_at__ol : at_ ≠ ol) (ne_at__oh : at_ ≠ oh) (ne_at__ov : at_ ≠ ov) (hIn0_0 : ownIn eb0 ev0_0) (hWd : ¬ ((lcmpW (((f_maxI et0 eu0).toInt64) - ((f_minI et0 el0).toInt64)) (65536 : Int64)) < (0 : Int32))) :
    MetFree l (⟨cRV, "fit", "(II[I)V"⟩ : MethodName) (head1 (Jvm.Cond.code (⟨cRV, "fit", "(II[I)V"⟩ : MethodName) prog_48_method_7_code 11 none :: ws) ({ frames := 2, cells := 1, slots := 8, locals := 36 } : Room)) (fun a U => a = #[(.ref a1), (.int 0), (.int 1), (.ref at_)] ∧ Z.Warmed39 U.vm ∧ U.heap = h0) (fun _ _ _ _ _ => True) (fun _ U o U' => ∃ v L, o = .returned v ∧ Q_fitW1_1 Z wDE a1 at_ ow on ob ol oh ov kw_ kn_ kb_ kl_ kh_ kv_ eb0 el0 eu0 ev0_0 ex1 ex2 ex3 ex4 ex5 ex6 ex7 kt_ et0 h0 n0 v U'.heap L ∧ FrameEnd U o U' L ({ frames := 2, cells := 1, slots := 8, locals := 36 } : Room).cells ({ frames := 2, cells := 1, slots := 8, locals := 36 } : Room).slots) := by
  refine MetFree.of_bodySF (plainFor_of_name pn_RowValues) hisR ?_
  intro p e s m args below meth c s₁ Bd hml0 hP hK
  obtain ⟨rfl, hZ, hh⟩ := hP
  have hx := Bd.exec
  have hby := Bd.bytes
  have bb := fun {pc : Nat} {r : Except DecodeError (Instr × Nat)} (h : decode prog_48_method_7_code pc = r) => hb hby h
  have ww := fun (i : Nat) {d : Jvm.Cond} (h : tables_1[i]? = some d) => hw d (List.mem_of_getElem? h)
  have hml : c.maxLocals = 11 := hml0
  have hown : s.vm.findClass cRV = some m.cls := findClass_of_methodNamed Bd.named
  have hnm := (name_of_methodNamed Bd.named Bd.method).1
  have X0 : Stand p l e ({ frames := 2, cells := 1, slots := 8, locals := 36 } : Room) s m #[(.ref a1), (.int 0), (.int 1), (.ref at_)] below meth c s₁ [] 0 0 := Stand.of_body Bd
  have e0 : s₁.heap = h0 := by rw [← hh, Bd.state]; rfl
  have N0 := Fr.nil n0
  have pre0 : ∀ t, Steps p.tables e below (s₁.setTop (mkF m 0 #[vR a1, vI 0, vI 1, vR at_, .unset, .unset, .unset, .unset, .unset, .unset, .unset] [])) t → Steps p.tables e below (s₁.setTop (entryFrame m #[(.ref a1), (.int 0), (.int 1), (.ref at_)] 11)) t := fun t k => castTop (ef_fitW1_1 m a1 at_) k
  obtain ⟨T1, X1, e1, st1⟩ := getF X0 hx hZ hown (host := "") (Or.inl (ww 75 rfl)) Via.refl e0 r1 (g := (mkF m 6 #[vR a1, vI 0, vI 1, vR at_, vI 0, .unset, .unset, .unset, .unset, .unset, .unset] [(.ref a1), (.int 0)])) rfl rfl (bb d27_6)
  obtain ⟨cl2, Ar2, vq2, vS2, vN2, vH2, vG2⟩ := id r16
  have hin2 : ¬ (((0 : Int32) : Int32) < 0 ∨ cl2.slots.size ≤ ((0 : Int32) : Int32).toNatClampNeg) := inb_of vS2 ⟨by decide, by decide⟩
  obtain ⟨T3, X3, e3, st3⟩ := getF X1 hx hZ hown (host := "") (Or.inl (ww 81 rfl)) Via.refl e1 r7 (g := (mkF m 17 #[vR a1, vI 0, vI 1, vR at_, vI 0, .unset, .unset, .unset, .unset, .unset, .unset] [(.ref a1), (.int et0)])) rfl rfl (bb d27_17)
  obtain ⟨cl4, Ar4, vq4, vS4, vN4, vH4, vG4⟩ := id r14
  have hin4 : ¬ (((0 : Int32) : Int32) < 0 ∨ cl4.slots.size ≤ ((0 : Int32) : Int32).toNatClampNeg) := inb_of vS4 ⟨by decide, by decide⟩
  obtain ⟨_, _, ⟨T5, L5, k5, n5⟩, -, X5, ⟨Lc5, hQ5, l5, y5, z5⟩, st5⟩ := Jvm.LawKit.callS X3 hx (y := (⟨"java/lang/Math", "max", "(II)I"⟩ : MethodName)) hown (mvT hZ (ww 195 rfl)) (mvT hZ (ww 196 rfl)) (mvT hZ (ww 178 rfl)) (mvT hZ (ww 197 rfl)) (by decide) (backOf (W := 0) (rm_maxI l Z a0 hw [] wDE et0 eu0 h0 n0 (own_z0 O0) S_wDE O0 S_CS) hZ (ww 197 rfl) (ww 178 rfl) (by decide) (by decide)) (g := (mkF m 23 #[vR a1, vI 0, vI 1, vR at_, vI 0, .unset, .unset, .unset, .unset, .unset, .unset] [(.int eu0), (.int et0)])) rfl (by rw [hml]; rfl) (argsL := [(.int et0), (.int eu0)]) (rest := []) (lenOf pd__II_I_5 rfl) rfl (by show 2 * 0 + _ ≤ _; exact Nat.le_of_eq rfl) (bb d27_23) (fun _ _ => ⟨rfl, e3, (by decide : 0 + 0 ≤ _), (by decide : 0 + 0 ≤ _)⟩)
  dsimp only [Pt.U, Pt.locs, Pt.cells, Pt.slots] at X5 l5 y5 z5 st5 hQ5
  subst l5 y5 z5
  obtain ⟨rfl, N5q, e5⟩ := hQ5
  have N5 := Fr.app N0 N5q
  obtain ⟨cl6, Ar6, vq6, vS6, vN6, vH6, vG6⟩ := id r16
  have hin6 : ¬ (((0 : Int32) : Int32) < 0 ∨ cl6.slots.size ≤ ((0 : Int32) : Int32).toNatClampNeg) := inb_of vS6 ⟨by decide, by decide⟩
  obtain ⟨T7, X7, e7, st7⟩ := getF X5 hx hZ hown (host := "") (Or.inl (ww 79 rfl)) Via.refl e5 r6 (g := (mkF m 32 #[vR a1, vI 0, vI 1, vR at_, vI 0, .unset, .unset, .unset, .unset, .unset, .unset] [(.ref a1), (.int et0), (.long ((f_maxI et0 eu0).toInt64))])) rfl rfl (bb d27_32)
  obtain ⟨cl8, Ar8, vq8, vS8, vN8, vH8, vG8⟩ := id r13
  have hin8 : ¬ (((0 : Int32) : Int32) < 0 ∨ cl8.slots.size ≤ ((0 : Int32) : Int32).toNatClampNeg) := inb_of vS8 ⟨by decide, by decide⟩
  obtain ⟨_, _, ⟨T9, L9, k9, n9⟩, -, X9, ⟨Lc9, hQ9, l9, y9, z9⟩, st9⟩ := Jvm.LawKit.callS X7 hx (y := (⟨"java/lang/Math", "min", "(II)I"⟩ : MethodName)) hown (mvT hZ (ww 188 rfl)) (mvT hZ (ww 189 rfl)) (mvT hZ (ww 178 rfl)) (mvT hZ (ww 190 rfl)) (by decide) (backOf (W := 2) (rm_minI l Z a0 hw [] wDE et0 el0 h0 n0 (own_z0 O0) S_wDE O0 S_CS) hZ (ww 190 rfl) (ww 178 rfl) (by decide) (by decide)) (g := (mkF m 38 #[vR a1, vI 0, vI 1, vR at_, vI 0, .unset, .unset, .unset, .unset, .unset, .unset] [(.int el0), (.int et0), (.long ((f_maxI et0 eu0).toInt64))])) rfl (by rw [hml]; rfl) (argsL := [(.int et0), (.int el0)]) (rest := [(.long ((f_maxI et0 eu0).toInt64))]) (lenOf pd__II_I_5 rfl) rfl (by show 2 * 0 + _ ≤ _; exact Nat.le_of_eq rfl) (bb d27_38) (fun _ _ => ⟨rfl, e7, (by decide : 0 + 0 ≤ _), (by decide : 0 + 0 ≤ _)⟩)
  dsimp only [Pt.U, Pt.locs, Pt.cells, Pt.slots] at X9 l9 y9 z9 st9 hQ9
  subst l9 y9 z9
  obtain ⟨rfl, N9q, e9⟩ := hQ9
  have N9 := Fr.app N5 N9q
  obtain ⟨cq10, q10, q10'⟩ := (r0).cell
  obtain ⟨_, _, ⟨T10, L10, k10, n10⟩, -, X10, ⟨Lc10, hQ10, l10, y10, z10⟩, st10⟩ := X9.privateBack hx (y := (⟨cRV, "widen", "(II)V"⟩ : MethodName)) hown (mvT hZ (ww 265 rfl)) (mvT hZ (ww 266 rfl)) (own_sel (mvT hZ (ww 61 rfl)) (mvT hZ (ww 266 rfl)) (mvP hZ (ww 267 rfl)) (by decide)) (Cond.privateMethod_at (mvP hZ (ww 267 rfl) (args := #[]))) (mvT hZ (ww 268 rfl)) (by decide) (backOf (W := 0) (rm_widen1_1 l Z a0 hw [] wDE a1 ow on ob ol oh ov kw_ kn_ kb_ kl_ kh_ kv_ eb0 el0 eu0 ev0_0 ex1 ex2 ex3 ex4 ex5 ex6 ex7 h0 n0 (own_z0 O0) S_wDE O0 S_CS r0 r1 r2 r3 r4 r5 r6 r7 r8 r9 r10 r11 r12 r13 r14 r15 g_ow g_on ne_a1_ow ne_a1_on ne_a1_ob ne_a1_ol ne_a1_oh ne_a1_ov ne_ow_on ne_ow_ob ne_ow_ol ne_ow_oh ne_ow_ov ne_on_ob ne_on_ol ne_on_oh ne_on_ov ne_ob_ol ne_ob_oh ne_ob_ov ne_ol_oh ne_ol_ov ne_oh_ov hIn0_0) hZ (ww 268 rfl) (ww 62 rfl) (by decide) (by decide)) (g := (mkF m 57 #[vR a1, vI 0, vI 1, vR at_, vI 0, vJ (((f_maxI et0 eu0).toInt64) - ((f_minI et0 el0).toInt64)), .second, .unset, .unset, .unset, .unset] [(.int 1), (.int 0), (.ref a1)])) rfl (by rw [hml]; rfl) (Steps.refl _) (a := a1) (by rw [e9]; exact q10) q10' (argsL := [(.int 0), (.int 1)]) (rest := []) (lenOf pd__II_V_5 rfl) rfl (by show 2 * 0 + _ ≤ _; exact Nat.le_of_eq rfl) (bb d27_57) (fun _ _ => ⟨rfl, e9, (by decide : 0 + 1 ≤ _), (by decide : 0 + 8 ≤ _)⟩)
  dsimp only [Pt.U, Pt.locs, Pt.cells, Pt.slots] at X10 l10 y10 z10 st10 hQ10
  subst l10 y10 z10
  obtain ⟨oz10, kz_10, rfl, N10q, K10, szz_oz10, f10_0, f10_1, f10_2⟩ := hQ10
  have N10 := Fr.app N9 N10q
  have g_oz10 : n0 ≤ oz10 := Nat.le_trans (own_z0 O0) szz_oz10
  have sz_oz10 : h0.size ≤ oz10 := Nat.le_trans (Nat.le_refl _) szz_oz10
  have ne_a1_oz10 : a1 ≠ oz10 := Nat.ne_of_lt (Nat.lt_of_lt_of_le r0.lt szz_oz10)
  have ne_ow_oz10 : ow ≠ oz10 := Nat.ne_of_lt (Nat.lt_of_lt_of_le r8.lt szz_oz10)
  have ne_on_oz10 : on ≠ oz10 := Nat.ne_of_lt (Nat.lt_of_lt_of_le r10.lt szz_oz10)
  have ne_ob_oz10 : ob ≠ oz10 := Nat.ne_of_lt (Nat.lt_of_lt_of_le r12.lt szz_oz10)
  have ne_ol_oz10 : ol ≠ oz10 := Nat.ne_of_lt (Nat.lt_of_lt_of_le r13.lt szz_oz10)
  have ne_oh_oz10 : oh ≠ oz10 := Nat.ne_of_lt (Nat.lt_of_lt_of_le r14.lt szz_oz10)
  have ne_ov_oz10 : ov ≠ oz10 := Nat.ne_of_lt (Nat.lt_of_lt_of_le r15.lt szz_oz10)
  have ne_at__oz10 : at_ ≠ oz10 := Nat.ne_of_lt (Nat.lt_of_lt_of_le r16.lt szz_oz10)
  obtain ⟨fs, hr, hrun, hended, hW, hsame⟩ := X10.leave (v := none) (fun _ => rfl)
  refine ⟨_, _, pre0 _ ?_, hrun, hended, _, _, rfl, ?_, ⟨_, rfl⟩, hW, hsame.mono (by decide) (by decide)⟩
  · show GG p e below s₁ (mkF m 0 #[vR a1, vI 0, vI 1, vR at_, .unset, .unset, .unset, .unset, .unset, .unset, .unset] []) _
    refine XS.iconst X0.here hx rfl (bb d27_0) ?_
    refine XS.istore X0.here hx rfl (bb d27_1) rfl (l' := #[vR a1, vI 0, vI 1, vR at_, vI 0, .unset, .unset, .unset, .unset, .unset, .unset]) rfl ?_
    refine XS.iload X0.here hx rfl (bb d27_3) rfl ?_
    refine XS.aloadN X0.here hx rfl (bb d27_5) rfl rfl ?_
    refine st1 _ ?_
    refine XS.icmpNo X1.here hx rfl (bb d27_9) rfl (tlt (by decide : (0 : Int32) < (1 : Int32))).2.1 ?_
    refine XS.aloadN X1.here hx rfl (bb d27_12) rfl rfl ?_
    refine XS.iload X1.here hx rfl (bb d27_13) rfl ?_
    refine X1.iaload hx (j := (0 : Int32)) (v := (.int et0)) (by rw [e1]; exact Ar2.1) (State.isArrayOf_alike hZ.alike Ar2.2.1) Ar2.2.2 hin2 (vH2.at hin2 rfl) (g := (mkF m 15 #[vR a1, vI 0, vI 1, vR at_, vI 0, .unset, .unset, .unset, .unset, .unset, .unset] [(.int 0), (.ref at_)])) rfl rfl (bb d27_15) _ ?_
    refine XS.aloadN X1.here hx rfl (bb d27_16) rfl rfl ?_
    refine st3 _ ?_
    refine XS.iload X3.here hx rfl (bb d27_20) rfl ?_
    refine X3.iaload hx (j := (0 : Int32)) (v := (.int eu0)) (by rw [e3]; exact Ar4.1) (State.isArrayOf_alike hZ.alike Ar4.2.1) Ar4.2.2 hin4 (vH4.at hin4 rfl) (g := (mkF m 22 #[vR a1, vI 0, vI 1, vR at_, vI 0, .unset, .unset, .unset, .unset, .unset, .unset] [(.int 0), (.ref oh), (.int et0)])) rfl rfl (bb d27_22) _ ?_
    refine st5 _ ?_
    refine XS.i2l X5.here hx rfl (bb d27_26) rfl ?_
    refine XS.aloadN X5.here hx rfl (bb d27_27) rfl rfl ?_
    refine XS.iload X5.here hx rfl (bb d27_28) rfl ?_
    refine X5.iaload hx (j := (0 : Int32)) (v := (.int et0)) (by rw [e5]; exact Ar6.1) (State.isArrayOf_alike hZ.alike Ar6.2.1) Ar6.2.2 hin6 (vH6.at hin6 rfl) (g := (mkF m 30 #[vR a1, vI 0, vI 1, vR at_, vI 0, .unset, .unset, .unset, .unset, .unset, .unset] [(.int 0), (.ref at_), (.long ((f_maxI et0 eu0).toInt64))])) rfl rfl (bb d27_30) _ ?_
    refine XS.aloadN X5.here hx rfl (bb d27_31) rfl rfl ?_
    refine st7 _ ?_
    refine XS.iload X7.here hx rfl (bb d27_35) rfl ?_
    refine X7.iaload hx (j := (0 : Int32)) (v := (.int el0)) (by rw [e7]; exact Ar8.1) (State.isArrayOf_alike hZ.alike Ar8.2.1) Ar8.2.2 hin8 (vH8.at hin8 rfl) (g := (mkF m 37 #[vR a1, vI 0, vI 1, vR at_, vI 0, .unset, .unset, .unset, .unset, .unset, .unset] [(.int 0), (.ref ol), (.int et0), (.long ((f_maxI et0 eu0).toInt64))])) rfl rfl (bb d27_37) _ ?_
    refine st9 _ ?_
    refine XS.i2l X9.here hx rfl (bb d27_41) rfl ?_
    refine XS.lsub X9.here hx rfl (bb d27_42) rfl ?_
    refine XS.lstore X9.here hx rfl (bb d27_43) rfl (l' := #[vR a1, vI 0, vI 1, vR at_, vI 0, vJ (((f_maxI et0 eu0).toInt64) - ((f_minI et0 el0).toInt64)), .second, .unset, .unset, .unset, .unset]) rfl ?_
    refine XS.lload X9.here hx rfl (bb d27_45) rfl ?_
    refine X9.ldc2Long hx hown (mvT hZ (ww 198 rfl)) (g := (mkF m 47 #[vR a1, vI 0, vI 1, vR at_, vI 0, vJ (((f_maxI et0 eu0).toInt64) - ((f_minI et0 el0).toInt64)), .second, .unset, .unset, .unset, .unset] [(.long (((f_maxI et0 eu0).toInt64) - ((f_minI et0 el0).toInt64)))])) rfl (bb d27_47) _ ?_
    refine XS.lcmp X9.here hx rfl (bb d27_50) rfl ?_
    refine XS.ifNo X9.here hx rfl (bb d27_51) rfl ((if0 _ _).trans (flt hWd).1) ?_
    refine XS.aloadN X9.here hx rfl (bb d27_54) rfl rfl ?_
    refine XS.iloadN X9.here hx rfl (bb d27_55) rfl ?_
    refine XS.iloadN X9.here hx rfl (bb d27_56) rfl ?_
    refine st10.trans ?_
    exact X10.returnOut hx Bd.returns (bb d27_60) hr
  · show Q_fitW1_1 Z wDE a1 at_ ow on ob ol oh ov kw_ kn_ kb_ kl_ kh_ kv_ eb0 el0 eu0 ev0_0 ex1 ex2 ex3 ex4 ex5 ex6 ex7 kt_ et0 h0 n0 _ T10.heap _
    exact ⟨oz10, kz_10, rfl, N10, ((Keep.refl h0 [ow, on]).trans K10 (allS (Or.inl (List.mem_of_getElem? (i := 0) rfl)) (allS (Or.inl (List.mem_of_getElem? (i := 1) rfl)) all0))), sz_oz10, f10_0, f10_1, f10_2⟩
def Q_widen1_2 (Z : State) (wDE a1 ow on ob ol oh ov : Addr) (kw_ kn_ kb_ kl_ kh_ kv_ : ClassId) (eb0 el0 eu0 ev0_0 ev1_0 ex2 ex3 ex4 ex5 ex6 ex7 : Int32) (h0 : Heap) (n0 : Nat) (v : Option Value) (h : Heap) (L : List Loc) : Prop := ∃ (oz : Addr) (kz_ : ClassId), v = none ∧ Fr n0 L ∧ Keep h0 h [ow, on] ∧ h0.size ≤ oz ∧ Arv Z h ow kw_ (.array .int) (1 : Int32) [(.ref oz)] .null ∧ Arv Z h on kn_ (.array .char) (1 : Int32) [.null] .null ∧ Arv Z h oz kz_ .int (8 : Int32) [(.int ev0_0), (.int ev1_0), (.int 0), (.int 0), (.int 0), (.int 0), (.int 0), (.int 0)] (.int 0)
set_option maxRecDepth 65536 in
set_option maxHeartbeats 40000000 in
theorem rm_widen1_2 (l : Launch) (Z : State) (a0 : Array Value) (hw : ∀ d ∈ tables_1, d.before a0 Z = true) (ws : List Jvm.Cond) (wDE : Addr) (a1 ow on ob ol oh ov : Addr) (kw_ kn_ kb_ kl_ kh_ kv_ : ClassId) (eb0 el0 eu0 ev0_0 ev1_0 ex2 ex3 ex4 ex5 ex6 ex7 : Int32) (h0 : Heap) (n0 : Nat) (Z0 : n0 ≤ h0.size) (S_wDE : Sta Z Z.heap "java/util/ArrayList" "DEFAULTCAPACITY_EMPTY_ELEMENTDATA" "[Ljava/lang/Object;" (.ref wDE)) (O0 : Old Z n0 h0) (S_CS : Sta Z Z.heap cRV "CHUNK_SHIFT" "I" (.int (12 : Int32))) (r0 : Exa Z h0 a1 cRV) (r1 : Fld Z h0 a1 cRV "arity" "I" (.int 1)) (r2 : Fld Z h0 a1 cRV "rows" "I" (.int 2)) (r3 : Fld Z h0 a1 cRV "wide" "[[I" (.ref ow)) (r4 : Fld Z h0 a1 cRV "narrow" "[[C" (.ref on)) (r5 : Fld Z h0 a1 cRV "bases" "[I" (.ref ob)) (r6 : Fld Z h0 a1 cRV "lowest" "[I" (.ref ol)) (r7 : Fld Z h0 a1 cRV "highest" "[I" (.ref oh)) (r8 : Arv Z h0 ow kw_ (.array .int) (1 : Int32) [.null] .null) (r9 : OvrA Z kw_ .int "[I") (r10 : Arv Z h0 on kn_ (.array .char) (1 : Int32) [(.ref ov)] .null) (r11 : OvrA Z kn_ .char "[C") (r12 : Arv Z h0 ob kb_ .int (1 : Int32) [(.int eb0)] (.int 0)) (r13 : Arv Z h0 ol kl_ .int (1 : Int32) [(.int el0)] (.int 0)) (r14 : Arv Z h0 oh kh_ .int (1 : Int32) [(.int eu0)] (.int 0)) (r15 : Arv Z h0 ov kv_ .char (8 : Int32) [(.int (nar .char (ev0_0 - eb0))), (.int (nar .char (ev1_0 - eb0))), (.int ex2), (.int ex3), (.int ex4), (.int ex5), (.int ex6), (.int ex7)] (.int 0)) (g_ow : n0 ≤ ow) (g_on : n0 ≤ on) (ne_a1_ow : a1 ≠ ow) (ne_a1_on : a1 ≠ on) (ne_a1_ob : a1 ≠ ob) (ne_a1_ol : a1 ≠ ol) (ne_a1_oh : a1 ≠ oh) (ne_a1_ov : a1 ≠ ov) (ne_ow_on : ow ≠ on) (ne_ow_ob : ow ≠ ob) (ne_ow_ol : ow ≠ ol) (ne_ow_oh : ow ≠ oh) (ne_ow_ov : ow ≠ ov) (ne_on_ob : on ≠ ob) (ne_on_ol : on ≠ ol) (ne_on_oh : on ≠ oh) (ne_on_ov : on ≠ ov) (ne_ob_ol : ob ≠ ol) (ne_ob_oh : ob ≠ oh) (ne_ob_ov : ob ≠ ov) (ne_ol_oh : ol ≠ oh) (ne_ol_ov : ol ≠ ov) (ne_oh_ov : oh ≠ ov) (hIn0_0 : ownIn eb0 ev0_0) (hIn1_0 : ownIn eb0 ev1_0) :
    MetFree l (⟨cRV, "widen", "(II)V"⟩ : MethodName) (head1 (Jvm.Cond.code (⟨cRV, "widen", "(II)V"⟩ : MethodName) prog_48_method_9_code 6 none :: ws) ({ frames := 1, cells := 1, slots := 8, locals := 19 } : Room)) (fun a U => a = #[(.ref a1), (.int 0), (.int 2)] ∧ Z.Warmed39 U.vm ∧ U.heap = h0) (fun _ _ _ _ _ => True) (fun _ U o U' => ∃ v L, o = .returned v ∧ Q_widen1_2 Z wDE a1 ow on ob ol oh ov kw_ kn_ kb_ kl_ kh_ kv_ eb0 el0 eu0 ev0_0 ev1_0 ex2 ex3 ex4 ex5 ex6 ex7 h0 n0 v U'.heap L ∧ FrameEnd U o U' L ({ frames := 1, cells := 1, slots := 8, locals := 19 } : Room).cells ({ frames := 1, cells := 1, slots := 8, locals := 19 } : Room).slots) := by
  refine MetFree.of_bodySF (plainFor_of_name pn_RowValues) hisR ?_
  intro p e s m args below meth c s₁ Bd hml0 hP hK
  obtain ⟨rfl, hZ, hh⟩ := hP
  have hx := Bd.exec
  have hby := Bd.bytes
  have bb := fun {pc : Nat} {r : Except DecodeError (Instr × Nat)} (h : decode prog_48_method_9_code pc = r) => hb hby h
  have ww := fun (i : Nat) {d : Jvm.Cond} (h : tables_1[i]? = some d) => hw d (List.mem_of_getElem? h)
  have hml : c.maxLocals = 6 := hml0
  have hown : s.vm.findClass cRV = some m.cls := findClass_of_methodNamed Bd.named
  have hnm := (name_of_methodNamed Bd.named Bd.method).1
  have X0 : Stand p l e ({ frames := 1, cells := 1, slots := 8, locals := 19 } : Room) s m #[(.ref a1), (.int 0), (.int 2)] below meth c s₁ [] 0 0 := Stand.of_body Bd
  have e0 : s₁.heap = h0 := by rw [← hh, Bd.state]; rfl
  have N0 := Fr.nil n0
  have pre0 : ∀ t, Steps p.tables e below (s₁.setTop (mkF m 0 #[vR a1, vI 0, vI 2, .unset, .unset, .unset] [])) t → Steps p.tables e below (s₁.setTop (entryFrame m #[(.ref a1), (.int 0), (.int 2)] 6)) t := fun t k => castTop (ef_widen1_2 m a1) k
  obtain ⟨T1, X1, e1, st1⟩ := getF X0 hx hZ hown (host := "") (Or.inl (ww 73 rfl)) Via.refl e0 r4 (g := (mkF m 1 #[vR a1, vI 0, vI 2, .unset, .unset, .unset] [(.ref a1)])) rfl rfl (bb d36_1)
  obtain ⟨cl2, Ar2, vq2, vS2, vN2, vH2, vG2⟩ := id r10
  have hin2 : ¬ (((0 : Int32) : Int32) < 0 ∨ cl2.slots.size ≤ ((0 : Int32) : Int32).toNatClampNeg) := inb_of vS2 ⟨by decide, by decide⟩
  obtain ⟨cl3, Ar3, vq3, vS3, vN3, vH3, vG3⟩ := id r15
  obtain ⟨T4, h4, k4, X4, e4, E4, A4, B4, st4⟩ := newPE (aty := .int) X1 hx hZ (ww 0 rfl) e1 (g := (mkF m 7 #[vR a1, vI 0, vI 2, .unset, .unset, .unset] [(.int 8)])) rfl (bb d36_7) rfl (by decide) (cap := 8) (by decide) (by decide) (by decide) (by decide) (ad := "[I") (by decide)
  obtain ⟨b4, q_b4⟩ : ∃ z, z = (h0).size := ⟨_, rfl⟩
  rw [← q_b4] at A4 B4 st4
  have g_b4 : n0 ≤ b4 := Nat.le_trans (own_z0 O0) (Nat.le_of_eq q_b4.symm)
  have sz_b4 : h0.size ≤ b4 := Nat.le_trans (Nat.le_refl _) (Nat.le_of_eq q_b4.symm)
  have ne_a1_b4 : a1 ≠ b4 := Nat.ne_of_lt (Nat.lt_of_lt_of_le r0.lt (Nat.le_of_eq q_b4.symm))
  have ne_ow_b4 : ow ≠ b4 := Nat.ne_of_lt (Nat.lt_of_lt_of_le r8.lt (Nat.le_of_eq q_b4.symm))
  have ne_on_b4 : on ≠ b4 := Nat.ne_of_lt (Nat.lt_of_lt_of_le r10.lt (Nat.le_of_eq q_b4.symm))
  have ne_ob_b4 : ob ≠ b4 := Nat.ne_of_lt (Nat.lt_of_lt_of_le r12.lt (Nat.le_of_eq q_b4.symm))
  have ne_ol_b4 : ol ≠ b4 := Nat.ne_of_lt (Nat.lt_of_lt_of_le r13.lt (Nat.le_of_eq q_b4.symm))
  have ne_oh_b4 : oh ≠ b4 := Nat.ne_of_lt (Nat.lt_of_lt_of_le r14.lt (Nat.le_of_eq q_b4.symm))
  have ne_ov_b4 : ov ≠ b4 := Nat.ne_of_lt (Nat.lt_of_lt_of_le r15.lt (Nat.le_of_eq q_b4.symm))
  have V_b4 : Arv Z h4 b4 k4 .int (8 : Int32) [(.int 0), (.int 0), (.int 0), (.int 0), (.int 0), (.int 0), (.int 0), (.int 0)] (.int 0) := (Arv.new A4 (by decide)).pad (pad_rep [] (.int 0) 8)
  have F6 := (r1.ext E4)
  obtain ⟨T5, X5, e5, st5⟩ := getF X4 hx hZ hown (host := "") (Or.inl (ww 75 rfl)) Via.refl e4 F6 (g := (mkF m 25 #[vR a1, vI 0, vI 2, vR b4, vI 0, vI 0] [(.ref a1), (.int 0)])) rfl rfl (bb d36_25)
  obtain ⟨T7, X7, e7, st7⟩ := getF X5 hx hZ hown (host := "") (Or.inl (ww 75 rfl)) Via.refl e5 F6 (g := (mkF m 35 #[vR a1, vI 0, vI 2, vR b4, vI 0, vI 0] [(.ref a1), (.int 0), (.ref b4)])) rfl rfl (bb d36_35)
  have F8 := (r10.ext E4)
  obtain ⟨cl9, Ar9, vq9, vS9, vN9, vH9, vG9⟩ := id F8
  have F10 := (r12.ext E4)
  obtain ⟨cl11, Ar11, vq11, vS11, vN11, vH11, vG11⟩ := id F10
  have F12 := (r15.ext E4)
  obtain ⟨cl13, Ar13, vq13, vS13, vN13, vH13, vG13⟩ := id F12
  have F14 := (r4.ext E4)
  have F15 := (r5.ext E4)
  have O17 := (O0.ext E4)
  have F18 := (r0.ext E4)
  obtain ⟨cq16, kq16, q16a, q16b, q16c⟩ := isOf hZ e7 F18
  obtain ⟨_, _, ⟨T16, L16, k16, n16⟩, -, X16, ⟨Lc16, hQ16, l16, y16, z16⟩, st16⟩ := X7.virtualBack hx (y := (⟨cRV, "get", "(II)I"⟩ : MethodName)) (z := (⟨cRV, "get", "(II)I"⟩ : MethodName)) hown (mvT hZ (ww 269 rfl)) (mvT hZ (ww 270 rfl)) (notFace_of_selects (args := #[]) (mvT hZ (ww 272 rfl))) (mvT hZ (ww 272 rfl)) (mvT hZ (ww 271 rfl)) (by decide) (backOf (W := 2) (rm_get1N l Z a0 hw [] wDE a1 (0 : Int32) (0 : Int32) on ob ov cl9 cl11 cl13 eb0 ev0_0 h4 n0 (own_z0 O17) S_wDE O17 S_CS F6 F14 F15 Ar9 (inb_of vS9 ⟨by decide, by decide⟩) (vH9.at (inb_of vS9 ⟨by decide, by decide⟩) rfl) Ar11 (inb_of vS11 ⟨by decide, by decide⟩) (vH11.at (inb_of vS11 ⟨by decide, by decide⟩) rfl) Ar13 (inb_of vS13 ⟨by decide, by decide⟩) (vH13.at (inb_of vS13 ⟨by decide, by decide⟩) rfl) hIn0_0) hZ (ww 273 rfl) (ww 62 rfl) (by decide) (by decide)) q16a q16c (g := (mkF m 53 #[vR a1, vI 0, vI 2, vR b4, vI 0, vI 0] [(.int 0), (.int 0), (.ref a1), (.int 0), (.ref b4)])) rfl (by rw [hml]; rfl) (Steps.refl _) (argsL := [(.int 0), (.int 0)]) (rest := [(.int 0), (.ref b4)]) (lenOf pd__II_I_5 rfl) rfl (by show 2 * 0 + _ ≤ _; exact Nat.le_of_eq rfl) (bb d36_53) (fun _ _ => ⟨rfl, e7, (by decide : 1 + 0 ≤ _), (by decide : 8 + 0 ≤ _)⟩)
  dsimp only [Pt.U, Pt.locs, Pt.cells, Pt.slots] at X16 l16 y16 z16 st16 hQ16
  subst l16 y16 z16
  obtain ⟨rfl, N16q, e16⟩ := hQ16
  have N16 := Fr.app N0 N16q
  obtain ⟨cl19, Ar19, vq19, vS19, vN19, vH19, vG19⟩ := id V_b4
  have hin19 : ¬ (((0 : Int32) : Int32) < 0 ∨ cl19.slots.size ≤ ((0 : Int32) : Int32).toNatClampNeg) := inb_of vS19 ⟨by decide, by decide⟩
  obtain ⟨T19, h19, X19, e19, W19, st19⟩ := stI X16 hx hZ e16 Ar19 (j := (0 : Int32)) hin19 (g := (mkF m 56 #[vR a1, vI 0, vI 2, vR b4, vI 0, vI 0] [(.int ev0_0), (.int 0), (.ref b4)])) rfl rfl (bb d36_56)
  have V19 : Arv Z h19 b4 k4 .int (8 : Int32) [(.int ev0_0), (.int 0), (.int 0), (.int 0), (.int 0), (.int 0), (.int 0), (.int 0)] (.int 0) := Arv.set Ar19 vq19 vS19 vN19 vH19 vG19 rfl W19 0 rfl (Nat.le_of_ble_eq_true rfl)
  have N19 := Fr.snoc X19 N16 g_b4
  have F21 := (F6.other W19 (Or.inl ne_a1_b4))
  obtain ⟨T20, X20, e20, st20⟩ := getF X19 hx hZ hown (host := "") (Or.inl (ww 75 rfl)) Via.refl e19 F21 (g := (mkF m 25 #[vR a1, vI 0, vI 2, vR b4, vI 0, vI 1] [(.ref a1), (.int 1)])) rfl rfl (bb d36_25)
  obtain ⟨T22, X22, e22, st22⟩ := getF X20 hx hZ hown (host := "") (Or.inl (ww 75 rfl)) Via.refl e20 F21 (g := (mkF m 25 #[vR a1, vI 0, vI 2, vR b4, vI 1, vI 0] [(.ref a1), (.int 0)])) rfl rfl (bb d36_25)
  obtain ⟨T23, X23, e23, st23⟩ := getF X22 hx hZ hown (host := "") (Or.inl (ww 75 rfl)) Via.refl e22 F21 (g := (mkF m 35 #[vR a1, vI 0, vI 2, vR b4, vI 1, vI 0] [(.ref a1), (.int 1), (.ref b4)])) rfl rfl (bb d36_35)
  have F24 := (F8.other W19 ne_on_b4)
  obtain ⟨cl25, Ar25, vq25, vS25, vN25, vH25, vG25⟩ := id F24
  have F26 := (F10.other W19 ne_ob_b4)
  obtain ⟨cl27, Ar27, vq27, vS27, vN27, vH27, vG27⟩ := id F26
  have F28 := (F12.other W19 ne_ov_b4)
  obtain ⟨cl29, Ar29, vq29, vS29, vN29, vH29, vG29⟩ := id F28
  have F30 := (F14.other W19 (Or.inl ne_a1_b4))
  have F31 := (F15.other W19 (Or.inl ne_a1_b4))
  have O33 := (O17.wr W19 g_b4)
  have F34 := (F18.wr W19)
  obtain ⟨cq32, kq32, q32a, q32b, q32c⟩ := isOf hZ e23 F34
  obtain ⟨_, _, ⟨T32, L32, k32, n32⟩, -, X32, ⟨Lc32, hQ32, l32, y32, z32⟩, st32⟩ := X23.virtualBack hx (y := (⟨cRV, "get", "(II)I"⟩ : MethodName)) (z := (⟨cRV, "get", "(II)I"⟩ : MethodName)) hown (mvT hZ (ww 269 rfl)) (mvT hZ (ww 270 rfl)) (notFace_of_selects (args := #[]) (mvT hZ (ww 272 rfl))) (mvT hZ (ww 272 rfl)) (mvT hZ (ww 271 rfl)) (by decide) (backOf (W := 2) (rm_get1N l Z a0 hw [] wDE a1 (1 : Int32) (0 : Int32) on ob ov cl25 cl27 cl29 eb0 ev1_0 h19 n0 (own_z0 O33) S_wDE O33 S_CS F21 F30 F31 Ar25 (inb_of vS25 ⟨by decide, by decide⟩) (vH25.at (inb_of vS25 ⟨by decide, by decide⟩) rfl) Ar27 (inb_of vS27 ⟨by decide, by decide⟩) (vH27.at (inb_of vS27 ⟨by decide, by decide⟩) rfl) Ar29 (inb_of vS29 ⟨by decide, by decide⟩) (vH29.at (inb_of vS29 ⟨by decide, by decide⟩) rfl) hIn1_0) hZ (ww 273 rfl) (ww 62 rfl) (by decide) (by decide)) q32a q32c (g := (mkF m 53 #[vR a1, vI 0, vI 2, vR b4, vI 1, vI 0] [(.int 0), (.int 1), (.ref a1), (.int 1), (.ref b4)])) rfl (by rw [hml]; rfl) (Steps.refl _) (argsL := [(.int 1), (.int 0)]) (rest := [(.int 1), (.ref b4)]) (lenOf pd__II_I_5 rfl) rfl (by show 2 * 0 + _ ≤ _; exact Nat.le_of_eq rfl) (bb d36_53) (fun _ _ => ⟨rfl, e23, (by decide : 1 + 0 ≤ _), (by decide : 8 + 0 ≤ _)⟩)
  dsimp only [Pt.U, Pt.locs, Pt.cells, Pt.slots] at X32 l32 y32 z32 st32 hQ32
  subst l32 y32 z32
  obtain ⟨rfl, N32q, e32⟩ := hQ32
  have N32 := Fr.app N19 N32q
  obtain ⟨cl35, Ar35, vq35, vS35, vN35, vH35, vG35⟩ := id V19
  have hin35 : ¬ (((1 : Int32) : Int32) < 0 ∨ cl35.slots.size ≤ ((1 : Int32) : Int32).toNatClampNeg) := inb_of vS35 ⟨by decide, by decide⟩
  obtain ⟨T35, h35, X35, e35, W35, st35⟩ := stI X32 hx hZ e32 Ar35 (j := (1 : Int32)) hin35 (g := (mkF m 56 #[vR a1, vI 0, vI 2, vR b4, vI 1, vI 0] [(.int ev1_0), (.int 1), (.ref b4)])) rfl rfl (bb d36_56)
  have V35 : Arv Z h35 b4 k4 .int (8 : Int32) [(.int ev0_0), (.int ev1_0), (.int 0), (.int 0), (.int 0), (.int 0), (.int 0), (.int 0)] (.int 0) := Arv.set Ar35 vq35 vS35 vN35 vH35 vG35 rfl W35 1 rfl (Nat.le_of_ble_eq_true rfl)
  have N35 := Fr.snoc X35 N32 g_b4
  have F37 := (F21.other W35 (Or.inl ne_a1_b4))
  obtain ⟨T36, X36, e36, st36⟩ := getF X35 hx hZ hown (host := "") (Or.inl (ww 75 rfl)) Via.refl e35 F37 (g := (mkF m 25 #[vR a1, vI 0, vI 2, vR b4, vI 1, vI 1] [(.ref a1), (.int 1)])) rfl rfl (bb d36_25)
  have F39 := (((r3.ext E4).other W19 (Or.inl ne_a1_b4)).other W35 (Or.inl ne_a1_b4))
  obtain ⟨T38, X38, e38, st38⟩ := getF X36 hx hZ hown (host := "") (Or.inl (ww 69 rfl)) Via.refl e36 F39 (g := (mkF m 70 #[vR a1, vI 0, vI 2, vR b4, vI 2, vI 1] [(.ref a1)])) rfl rfl (bb d36_70)
  have F40 := (((r8.ext E4).other W19 ne_ow_b4).other W35 ne_ow_b4)
  obtain ⟨cl41, Ar41, vq41, vS41, vN41, vH41, vG41⟩ := id F40
  have hin41 : ¬ (((0 : Int32) : Int32) < 0 ∨ cl41.slots.size ≤ ((0 : Int32) : Int32).toNatClampNeg) := inb_of vS41 ⟨by decide, by decide⟩
  have F42 := ((B4.wr W19).wr W35)
  obtain ⟨T41, h41, X41, e41, W41, st41⟩ := stR X38 hx hZ e38 Ar41 (j := (0 : Int32)) hin41 rfl (Sto.ofVA Ar41 vq41 r9 (Ins.self F42)) (g := (mkF m 75 #[vR a1, vI 0, vI 2, vR b4, vI 2, vI 1] [(.ref b4), (.int 0), (.ref ow)])) rfl rfl (bb d36_75)
  have V41 : Arv Z h41 ow kw_ (.array .int) (1 : Int32) [(.ref b4)] .null := Arv.set Ar41 vq41 vS41 vN41 vH41 vG41 rfl W41 0 rfl (Nat.le_of_ble_eq_true rfl)
  have N41 := Fr.snoc X41 N35 g_ow
  have F44 := ((F30.other W35 (Or.inl ne_a1_b4)).other W41 (Or.inl ne_a1_ow))
  obtain ⟨T43, X43, e43, st43⟩ := getF X41 hx hZ hown (host := "") (Or.inl (ww 73 rfl)) Via.refl e41 F44 (g := (mkF m 77 #[vR a1, vI 0, vI 2, vR b4, vI 2, vI 1] [(.ref a1)])) rfl rfl (bb d36_77)
  have F45 := ((F24.other W35 ne_on_b4).other W41 (Ne.symm ne_ow_on))
  obtain ⟨cl46, Ar46, vq46, vS46, vN46, vH46, vG46⟩ := id F45
  have hin46 : ¬ (((0 : Int32) : Int32) < 0 ∨ cl46.slots.size ≤ ((0 : Int32) : Int32).toNatClampNeg) := inb_of vS46 ⟨by decide, by decide⟩
  obtain ⟨T46, h46, X46, e46, W46, st46⟩ := stR X43 hx hZ e43 Ar46 (j := (0 : Int32)) hin46 rfl (Or.inl rfl) (g := (mkF m 82 #[vR a1, vI 0, vI 2, vR b4, vI 2, vI 1] [.null, (.int 0), (.ref on)])) rfl rfl (bb d36_82)
  have V46 : Arv Z h46 on kn_ (.array .char) (1 : Int32) [.null] .null := Arv.set Ar46 vq46 vS46 vN46 vH46 vG46 rfl W46 0 rfl (Nat.le_of_ble_eq_true rfl)
  have N46 := Fr.snoc X46 N41 g_on
  have F47 := (V41.other W46 ne_ow_on)
  have F48 := ((V35.other W41 (Ne.symm ne_ow_b4)).other W46 (Ne.symm ne_on_b4))
  obtain ⟨fs, hr, hrun, hended, hW, hsame⟩ := X46.leave (v := none) (fun _ => rfl)
  refine ⟨_, _, pre0 _ ?_, hrun, hended, _, _, rfl, ?_, ⟨_, rfl⟩, hW, hsame.mono (by decide) (by decide)⟩
  · show GG p e below s₁ (mkF m 0 #[vR a1, vI 0, vI 2, .unset, .unset, .unset] []) _
    refine XS.aloadN X0.here hx rfl (bb d36_0) rfl rfl ?_
    refine st1 _ ?_
    refine XS.iloadN X1.here hx rfl (bb d36_4) rfl ?_
    refine X1.aaload hx (j := (0 : Int32)) (v := (.ref ov)) (by rw [e1]; exact Ar2.1) (State.isArrayOf_alike hZ.alike Ar2.2.1) rfl Ar2.2.2 hin2 (vH2.at hin2 rfl) (g := (mkF m 5 #[vR a1, vI 0, vI 2, .unset, .unset, .unset] [(.int 0), (.ref on)])) rfl rfl (bb d36_5) _ ?_
    refine X1.arraylength hx (by rw [e1]; exact Ar3.1) (State.isArrayOf_alike hZ.alike Ar3.2.1) (g := (mkF m 6 #[vR a1, vI 0, vI 2, .unset, .unset, .unset] [(.ref ov)])) rfl rfl (bb d36_6) _ ?_
    rw [len_of vS3 vN3]
    show GG p e below T1 (mkF m 7 #[vR a1, vI 0, vI 2, .unset, .unset, .unset] [(.int 8)]) _
    refine st4 _ ?_
    refine XS.astoreN X4.here hx rfl (bb d36_9) rfl rfl (l' := #[vR a1, vI 0, vI 2, vR b4, .unset, .unset]) rfl ?_
    refine XS.iconst X4.here hx rfl (bb d36_10) ?_
    refine XS.istore X4.here hx rfl (bb d36_11) rfl (l' := #[vR a1, vI 0, vI 2, vR b4, vI 0, .unset]) rfl ?_
    refine XS.iload X4.here hx rfl (bb d36_13) rfl ?_
    refine XS.iloadN X4.here hx rfl (bb d36_15) rfl ?_
    refine XS.icmpNo X4.here hx rfl (bb d36_16) rfl (tlt (by decide : (0 : Int32) < (2 : Int32))).2.1 ?_
    refine XS.iconst X4.here hx rfl (bb d36_19) ?_
    refine XS.istore X4.here hx rfl (bb d36_20) rfl (l' := #[vR a1, vI 0, vI 2, vR b4, vI 0, vI 0]) rfl ?_
    refine XS.iload X4.here hx rfl (bb d36_22) rfl ?_
    refine XS.aloadN X4.here hx rfl (bb d36_24) rfl rfl ?_
    refine st5 _ ?_
    refine XS.icmpNo X5.here hx rfl (bb d36_28) rfl (tlt (by decide : (0 : Int32) < (1 : Int32))).2.1 ?_
    refine XS.aloadN X5.here hx rfl (bb d36_31) rfl rfl ?_
    refine XS.iload X5.here hx rfl (bb d36_32) rfl ?_
    refine XS.aloadN X5.here hx rfl (bb d36_34) rfl rfl ?_
    refine st7 _ ?_
    refine XS.imul X7.here hx rfl (bb d36_38) rfl ?_
    refine XS.iload X7.here hx rfl (bb d36_39) rfl ?_
    refine XS.iadd X7.here hx rfl (bb d36_41) rfl ?_
    refine XS.aloadN X7.here hx rfl (bb d36_42) rfl rfl ?_
    refine XS.iloadN X7.here hx rfl (bb d36_43) rfl ?_
    refine XS.sipush X7.here hx rfl (bb d36_44) ?_
    refine XS.imul X7.here hx rfl (bb d36_47) rfl ?_
    refine XS.iload X7.here hx rfl (bb d36_48) rfl ?_
    refine XS.iadd X7.here hx rfl (bb d36_50) rfl ?_
    refine XS.iload X7.here hx rfl (bb d36_51) rfl ?_
    refine st16.trans ?_
    refine st19 _ ?_
    refine XS.iinc X19.here hx rfl (bb d36_57) rfl (l' := #[vR a1, vI 0, vI 2, vR b4, vI 0, vI 1]) rfl ?_
    refine XS.goto X19.here hx rfl (pc0 := 60) (pc' := 22) rfl (bb d36_60) (by decide) (by decide) ?_
    refine XS.iload X19.here hx rfl (bb d36_22) rfl ?_
    refine XS.aloadN X19.here hx rfl (bb d36_24) rfl rfl ?_
    refine st20 _ ?_
    refine XS.icmpYes X20.here hx rfl (pc0 := 28) (pc' := 63) rfl (bb d36_28) rfl (flt (by decide : ¬ ((1 : Int32) < (1 : Int32)))).2.1 (by decide) (by decide) ?_
    refine XS.iinc X20.here hx rfl (bb d36_63) rfl (l' := #[vR a1, vI 0, vI 2, vR b4, vI 1, vI 1]) rfl ?_
    refine XS.goto X20.here hx rfl (pc0 := 66) (pc' := 13) rfl (bb d36_66) (by decide) (by decide) ?_
    refine XS.iload X20.here hx rfl (bb d36_13) rfl ?_
    refine XS.iloadN X20.here hx rfl (bb d36_15) rfl ?_
    refine XS.icmpNo X20.here hx rfl (bb d36_16) rfl (tlt (by decide : (1 : Int32) < (2 : Int32))).2.1 ?_
    refine XS.iconst X20.here hx rfl (bb d36_19) ?_
    refine XS.istore X20.here hx rfl (bb d36_20) rfl (l' := #[vR a1, vI 0, vI 2, vR b4, vI 1, vI 0]) rfl ?_
    refine XS.iload X20.here hx rfl (bb d36_22) rfl ?_
    refine XS.aloadN X20.here hx rfl (bb d36_24) rfl rfl ?_
    refine st22 _ ?_
    refine XS.icmpNo X22.here hx rfl (bb d36_28) rfl (tlt (by decide : (0 : Int32) < (1 : Int32))).2.1 ?_
    refine XS.aloadN X22.here hx rfl (bb d36_31) rfl rfl ?_
    refine XS.iload X22.here hx rfl (bb d36_32) rfl ?_
    refine XS.aloadN X22.here hx rfl (bb d36_34) rfl rfl ?_
    refine st23 _ ?_
    refine XS.imul X23.here hx rfl (bb d36_38) rfl ?_
    refine XS.iload X23.here hx rfl (bb d36_39) rfl ?_
    refine XS.iadd X23.here hx rfl (bb d36_41) rfl ?_
    refine XS.aloadN X23.here hx rfl (bb d36_42) rfl rfl ?_
    refine XS.iloadN X23.here hx rfl (bb d36_43) rfl ?_
    refine XS.sipush X23.here hx rfl (bb d36_44) ?_
    refine XS.imul X23.here hx rfl (bb d36_47) rfl ?_
    refine XS.iload X23.here hx rfl (bb d36_48) rfl ?_
    refine XS.iadd X23.here hx rfl (bb d36_50) rfl ?_
    refine XS.iload X23.here hx rfl (bb d36_51) rfl ?_
    refine st32.trans ?_
    refine st35 _ ?_
    refine XS.iinc X35.here hx rfl (bb d36_57) rfl (l' := #[vR a1, vI 0, vI 2, vR b4, vI 1, vI 1]) rfl ?_
    refine XS.goto X35.here hx rfl (pc0 := 60) (pc' := 22) rfl (bb d36_60) (by decide) (by decide) ?_
    refine XS.iload X35.here hx rfl (bb d36_22) rfl ?_
    refine XS.aloadN X35.here hx rfl (bb d36_24) rfl rfl ?_
    refine st36 _ ?_
    refine XS.icmpYes X36.here hx rfl (pc0 := 28) (pc' := 63) rfl (bb d36_28) rfl (flt (by decide : ¬ ((1 : Int32) < (1 : Int32)))).2.1 (by decide) (by decide) ?_
    refine XS.iinc X36.here hx rfl (bb d36_63) rfl (l' := #[vR a1, vI 0, vI 2, vR b4, vI 2, vI 1]) rfl ?_
    refine XS.goto X36.here hx rfl (pc0 := 66) (pc' := 13) rfl (bb d36_66) (by decide) (by decide) ?_
    refine XS.iload X36.here hx rfl (bb d36_13) rfl ?_
    refine XS.iloadN X36.here hx rfl (bb d36_15) rfl ?_
    refine XS.icmpYes X36.here hx rfl (pc0 := 16) (pc' := 69) rfl (bb d36_16) rfl (flt (by decide : ¬ ((2 : Int32) < (2 : Int32)))).2.1 (by decide) (by decide) ?_
    refine XS.aloadN X36.here hx rfl (bb d36_69) rfl rfl ?_
    refine st38 _ ?_
    refine XS.iloadN X38.here hx rfl (bb d36_73) rfl ?_
    refine XS.aloadN X38.here hx rfl (bb d36_74) rfl rfl ?_
    refine st41 _ ?_
    refine XS.aloadN X41.here hx rfl (bb d36_76) rfl rfl ?_
    refine st43 _ ?_
    refine XS.iloadN X43.here hx rfl (bb d36_80) rfl ?_
    refine XS.aconstNull X43.here hx rfl (bb d36_81) ?_
    refine st46 _ ?_
    exact X46.returnOut hx Bd.returns (bb d36_83) hr
  · show Q_widen1_2 Z wDE a1 ow on ob ol oh ov kw_ kn_ kb_ kl_ kh_ kv_ eb0 el0 eu0 ev0_0 ev1_0 ex2 ex3 ex4 ex5 ex6 ex7 h0 n0 _ T46.heap _
    rw [e46]
    exact ⟨b4, k4, rfl, N46, ((((((Keep.refl h0 [ow, on]).ext E4).wr W19 (Or.inr sz_b4)).wr W35 (Or.inr sz_b4)).wr W41 (Or.inl (List.mem_of_getElem? (i := 0) rfl))).wr W46 (Or.inl (List.mem_of_getElem? (i := 1) rfl))), sz_b4, F47, V46, F48⟩
def Q_fitW1_2 (Z : State) (wDE a1 at_ ow on ob ol oh ov : Addr) (kw_ kn_ kb_ kl_ kh_ kv_ : ClassId) (eb0 el0 eu0 ev0_0 ev1_0 ex2 ex3 ex4 ex5 ex6 ex7 : Int32) (kt_ : ClassId) (et0 : Int32) (h0 : Heap) (n0 : Nat) (v : Option Value) (h : Heap) (L : List Loc) : Prop := ∃ (oz : Addr) (kz_ : ClassId), v = none ∧ Fr n0 L ∧ Keep h0 h [ow, on] ∧ h0.size ≤ oz ∧ Arv Z h ow kw_ (.array .int) (1 : Int32) [(.ref oz)] .null ∧ Arv Z h on kn_ (.array .char) (1 : Int32) [.null] .null ∧ Arv Z h oz kz_ .int (8 : Int32) [(.int ev0_0), (.int ev1_0), (.int 0), (.int 0), (.int 0), (.int 0), (.int 0), (.int 0)] (.int 0)
set_option maxRecDepth 65536 in
set_option maxHeartbeats 40000000 in
theorem rm_fitW1_2 (l : Launch) (Z : State) (a0 : Array Value) (hw : ∀ d ∈ tables_1, d.before a0 Z = true) (ws : List Jvm.Cond) (wDE : Addr) (a1 at_ ow on ob ol oh ov : Addr) (kw_ kn_ kb_ kl_ kh_ kv_ : ClassId) (eb0 el0 eu0 ev0_0 ev1_0 ex2 ex3 ex4 ex5 ex6 ex7 : Int32) (kt_ : ClassId) (et0 : Int32) (h0 : Heap) (n0 : Nat) (Z0 : n0 ≤ h0.size) (S_wDE : Sta Z Z.heap "java/util/ArrayList" "DEFAULTCAPACITY_EMPTY_ELEMENTDATA" "[Ljava/lang/Object;" (.ref wDE)) (O0 : Old Z n0 h0) (S_CS : Sta Z Z.heap cRV "CHUNK_SHIFT" "I" (.int (12 : Int32))) (r0 : Exa Z h0 a1 cRV) (r1 : Fld Z h0 a1 cRV "arity" "I" (.int 1)) (r2 : Fld Z h0 a1 cRV "rows" "I" (.int 2)) (r3 : Fld Z h0 a1 cRV "wide" "[[I" (.ref ow)) (r4 : Fld Z h0 a1 cRV "narrow" "[[C" (.ref on)) (r5 : Fld Z h0 a1 cRV "bases" "[I" (.ref ob)) (r6 : Fld Z h0 a1 cRV "lowest" "[I" (.ref ol)) (r7 : Fld Z h0 a1 cRV "highest" "[I" (.ref oh)) (r8 : Arv Z h0 ow kw_ (.array .int) (1 : Int32) [.null] .null) (r9 : OvrA Z kw_ .int "[I") (r10 : Arv Z h0 on kn_ (.array .char) (1 : Int32) [(.ref ov)] .null) (r11 : OvrA Z kn_ .char "[C") (r12 : Arv Z h0 ob kb_ .int (1 : Int32) [(.int eb0)] (.int 0)) (r13 : Arv Z h0 ol kl_ .int (1 : Int32) [(.int el0)] (.int 0)) (r14 : Arv Z h0 oh kh_ .int (1 : Int32) [(.int eu0)] (.int 0)) (r15 : Arv Z h0 ov kv_ .char (8 : Int32) [(.int (nar .char (ev0_0 - eb0))), (.int (nar .char (ev1_0 - eb0))), (.int ex2), (.int ex3), (.int ex4), (.int ex5), (.int ex6), (.int ex7)] (.int 0)) (r16 : Arv Z h0 at_ kt_ .int (1 : Int32) [(.int et0)] (.int 0)) (g_ow : n0 ≤ ow) (g_on : n0 ≤ on) (ne_a1_ow : a1 ≠ ow) (ne_a1_on : a1 ≠ on) (ne_a1_ob : a1 ≠ ob) (ne_a1_ol : a1 ≠ ol) (ne_a1_oh : a1 ≠ oh) (ne_a1_ov : a1 ≠ ov) (ne_ow_on : ow ≠ on) (ne_ow_ob : ow ≠ ob) (ne_ow_ol : ow ≠ ol) (ne_ow_oh : ow ≠ oh) (ne_ow_ov : ow ≠ ov) (ne_on_ob : on ≠ ob) (ne_on_ol : on ≠ ol) (ne_on_oh : on ≠ oh) (ne_on_ov : on ≠ ov) (ne_ob_ol : ob ≠ ol) (ne_ob_oh : ob ≠ oh) (ne_ob_ov : ob ≠ ov) (ne_ol_oh : ol ≠ oh) (ne_ol_ov : ol ≠ ov) (ne_oh_ov : oh ≠ ov) (ne_at__a1 : at_ ≠ a1) (ne_at__ow : at_ ≠ ow) (ne_at__on : at_ ≠ on) (ne_at__ob : at_ ≠ ob) (ne_at__ol : at_ ≠ ol) (ne_at__oh : at_ ≠ oh) (ne_at__ov : at_ ≠ ov) (hIn0_0 : ownIn eb0 ev0_0) (hIn1_0 : ownIn eb0 ev1_0) (hWd : ¬ ((lcmpW (((f_maxI et0 eu0).toInt64) - ((f_minI et0 el0).toInt64)) (65536 : Int64)) < (0 : Int32))) :
    MetFree l (⟨cRV, "fit", "(II[I)V"⟩ : MethodName) (head1 (Jvm.Cond.code (⟨cRV, "fit", "(II[I)V"⟩ : MethodName) prog_48_method_7_code 11 none :: ws) ({ frames := 2, cells := 1, slots := 8, locals := 36 } : Room)) (fun a U => a = #[(.ref a1), (.int 0), (.int 2), (.ref at_)] ∧ Z.Warmed39 U.vm ∧ U.heap = h0) (fun _ _ _ _ _ => True) (fun _ U o U' => ∃ v L, o = .returned v ∧ Q_fitW1_2 Z wDE a1 at_ ow on ob ol oh ov kw_ kn_ kb_ kl_ kh_ kv_ eb0 el0 eu0 ev0_0 ev1_0 ex2 ex3 ex4 ex5 ex6 ex7 kt_ et0 h0 n0 v U'.heap L ∧ FrameEnd U o U' L ({ frames := 2, cells := 1, slots := 8, locals := 36 } : Room).cells ({ frames := 2, cells := 1, slots := 8, locals := 36 } : Room).slots) := by
  refine MetFree.of_bodySF (plainFor_of_name pn_RowValues) hisR ?_
  intro p e s m args below meth c s₁ Bd hml0 hP hK
  obtain ⟨rfl, hZ, hh⟩ := hP
  have hx := Bd.exec
  have hby := Bd.bytes
  have bb := fun {pc : Nat} {r : Except DecodeError (Instr × Nat)} (h : decode prog_48_method_7_code pc = r) => hb hby h
  have ww := fun (i : Nat) {d : Jvm.Cond} (h : tables_1[i]? = some d) => hw d (List.mem_of_getElem? h)
  have hml : c.maxLocals = 11 := hml0
  have hown : s.vm.findClass cRV = some m.cls := findClass_of_methodNamed Bd.named
  have hnm := (name_of_methodNamed Bd.named Bd.method).1
  have X0 : Stand p l e ({ frames := 2, cells := 1, slots := 8, locals := 36 } : Room) s m #[(.ref a1), (.int 0), (.int 2), (.ref at_)] below meth c s₁ [] 0 0 := Stand.of_body Bd
  have e0 : s₁.heap = h0 := by rw [← hh, Bd.state]; rfl
  have N0 := Fr.nil n0
  have pre0 : ∀ t, Steps p.tables e below (s₁.setTop (mkF m 0 #[vR a1, vI 0, vI 2, vR at_, .unset, .unset, .unset, .unset, .unset, .unset, .unset] [])) t → Steps p.tables e below (s₁.setTop (entryFrame m #[(.ref a1), (.int 0), (.int 2), (.ref at_)] 11)) t := fun t k => castTop (ef_fitW1_2 m a1 at_) k
  obtain ⟨T1, X1, e1, st1⟩ := getF X0 hx hZ hown (host := "") (Or.inl (ww 75 rfl)) Via.refl e0 r1 (g := (mkF m 6 #[vR a1, vI 0, vI 2, vR at_, vI 0, .unset, .unset, .unset, .unset, .unset, .unset] [(.ref a1), (.int 0)])) rfl rfl (bb d27_6)
  obtain ⟨cl2, Ar2, vq2, vS2, vN2, vH2, vG2⟩ := id r16
  have hin2 : ¬ (((0 : Int32) : Int32) < 0 ∨ cl2.slots.size ≤ ((0 : Int32) : Int32).toNatClampNeg) := inb_of vS2 ⟨by decide, by decide⟩
  obtain ⟨T3, X3, e3, st3⟩ := getF X1 hx hZ hown (host := "") (Or.inl (ww 81 rfl)) Via.refl e1 r7 (g := (mkF m 17 #[vR a1, vI 0, vI 2, vR at_, vI 0, .unset, .unset, .unset, .unset, .unset, .unset] [(.ref a1), (.int et0)])) rfl rfl (bb d27_17)
  obtain ⟨cl4, Ar4, vq4, vS4, vN4, vH4, vG4⟩ := id r14
  have hin4 : ¬ (((0 : Int32) : Int32) < 0 ∨ cl4.slots.size ≤ ((0 : Int32) : Int32).toNatClampNeg) := inb_of vS4 ⟨by decide, by decide⟩
  obtain ⟨_, _, ⟨T5, L5, k5, n5⟩, -, X5, ⟨Lc5, hQ5, l5, y5, z5⟩, st5⟩ := Jvm.LawKit.callS X3 hx (y := (⟨"java/lang/Math", "max", "(II)I"⟩ : MethodName)) hown (mvT hZ (ww 195 rfl)) (mvT hZ (ww 196 rfl)) (mvT hZ (ww 178 rfl)) (mvT hZ (ww 197 rfl)) (by decide) (backOf (W := 0) (rm_maxI l Z a0 hw [] wDE et0 eu0 h0 n0 (own_z0 O0) S_wDE O0 S_CS) hZ (ww 197 rfl) (ww 178 rfl) (by decide) (by decide)) (g := (mkF m 23 #[vR a1, vI 0, vI 2, vR at_, vI 0, .unset, .unset, .unset, .unset, .unset, .unset] [(.int eu0), (.int et0)])) rfl (by rw [hml]; rfl) (argsL := [(.int et0), (.int eu0)]) (rest := []) (lenOf pd__II_I_5 rfl) rfl (by show 2 * 0 + _ ≤ _; exact Nat.le_of_eq rfl) (bb d27_23) (fun _ _ => ⟨rfl, e3, (by decide : 0 + 0 ≤ _), (by decide : 0 + 0 ≤ _)⟩)
  dsimp only [Pt.U, Pt.locs, Pt.cells, Pt.slots] at X5 l5 y5 z5 st5 hQ5
  subst l5 y5 z5
  obtain ⟨rfl, N5q, e5⟩ := hQ5
  have N5 := Fr.app N0 N5q
  obtain ⟨cl6, Ar6, vq6, vS6, vN6, vH6, vG6⟩ := id r16
  have hin6 : ¬ (((0 : Int32) : Int32) < 0 ∨ cl6.slots.size ≤ ((0 : Int32) : Int32).toNatClampNeg) := inb_of vS6 ⟨by decide, by decide⟩
  obtain ⟨T7, X7, e7, st7⟩ := getF X5 hx hZ hown (host := "") (Or.inl (ww 79 rfl)) Via.refl e5 r6 (g := (mkF m 32 #[vR a1, vI 0, vI 2, vR at_, vI 0, .unset, .unset, .unset, .unset, .unset, .unset] [(.ref a1), (.int et0), (.long ((f_maxI et0 eu0).toInt64))])) rfl rfl (bb d27_32)
  obtain ⟨cl8, Ar8, vq8, vS8, vN8, vH8, vG8⟩ := id r13
  have hin8 : ¬ (((0 : Int32) : Int32) < 0 ∨ cl8.slots.size ≤ ((0 : Int32) : Int32).toNatClampNeg) := inb_of vS8 ⟨by decide, by decide⟩
  obtain ⟨_, _, ⟨T9, L9, k9, n9⟩, -, X9, ⟨Lc9, hQ9, l9, y9, z9⟩, st9⟩ := Jvm.LawKit.callS X7 hx (y := (⟨"java/lang/Math", "min", "(II)I"⟩ : MethodName)) hown (mvT hZ (ww 188 rfl)) (mvT hZ (ww 189 rfl)) (mvT hZ (ww 178 rfl)) (mvT hZ (ww 190 rfl)) (by decide) (backOf (W := 2) (rm_minI l Z a0 hw [] wDE et0 el0 h0 n0 (own_z0 O0) S_wDE O0 S_CS) hZ (ww 190 rfl) (ww 178 rfl) (by decide) (by decide)) (g := (mkF m 38 #[vR a1, vI 0, vI 2, vR at_, vI 0, .unset, .unset, .unset, .unset, .unset, .unset] [(.int el0), (.int et0), (.long ((f_maxI et0 eu0).toInt64))])) rfl (by rw [hml]; rfl) (argsL := [(.int et0), (.int el0)]) (rest := [(.long ((f_maxI et0 eu0).toInt64))]) (lenOf pd__II_I_5 rfl) rfl (by show 2 * 0 + _ ≤ _; exact Nat.le_of_eq rfl) (bb d27_38) (fun _ _ => ⟨rfl, e7, (by decide : 0 + 0 ≤ _), (by decide : 0 + 0 ≤ _)⟩)
  dsimp only [Pt.U, Pt.locs, Pt.cells, Pt.slots] at X9 l9 y9 z9 st9 hQ9
  subst l9 y9 z9
  obtain ⟨rfl, N9q, e9⟩ := hQ9
  have N9 := Fr.app N5 N9q
  obtain ⟨cq10, q10, q10'⟩ := (r0).cell
  obtain ⟨_, _, ⟨T10, L10, k10, n10⟩, -, X10, ⟨Lc10, hQ10, l10, y10, z10⟩, st10⟩ := X9.privateBack hx (y := (⟨cRV, "widen", "(II)V"⟩ : MethodName)) hown (mvT hZ (ww 265 rfl)) (mvT hZ (ww 266 rfl)) (own_sel (mvT hZ (ww 61 rfl)) (mvT hZ (ww 266 rfl)) (mvP hZ (ww 267 rfl)) (by decide)) (Cond.privateMethod_at (mvP hZ (ww 267 rfl) (args := #[]))) (mvT hZ (ww 268 rfl)) (by decide) (backOf (W := 0) (rm_widen1_2 l Z a0 hw [] wDE a1 ow on ob ol oh ov kw_ kn_ kb_ kl_ kh_ kv_ eb0 el0 eu0 ev0_0 ev1_0 ex2 ex3 ex4 ex5 ex6 ex7 h0 n0 (own_z0 O0) S_wDE O0 S_CS r0 r1 r2 r3 r4 r5 r6 r7 r8 r9 r10 r11 r12 r13 r14 r15 g_ow g_on ne_a1_ow ne_a1_on ne_a1_ob ne_a1_ol ne_a1_oh ne_a1_ov ne_ow_on ne_ow_ob ne_ow_ol ne_ow_oh ne_ow_ov ne_on_ob ne_on_ol ne_on_oh ne_on_ov ne_ob_ol ne_ob_oh ne_ob_ov ne_ol_oh ne_ol_ov ne_oh_ov hIn0_0 hIn1_0) hZ (ww 268 rfl) (ww 62 rfl) (by decide) (by decide)) (g := (mkF m 57 #[vR a1, vI 0, vI 2, vR at_, vI 0, vJ (((f_maxI et0 eu0).toInt64) - ((f_minI et0 el0).toInt64)), .second, .unset, .unset, .unset, .unset] [(.int 2), (.int 0), (.ref a1)])) rfl (by rw [hml]; rfl) (Steps.refl _) (a := a1) (by rw [e9]; exact q10) q10' (argsL := [(.int 0), (.int 2)]) (rest := []) (lenOf pd__II_V_5 rfl) rfl (by show 2 * 0 + _ ≤ _; exact Nat.le_of_eq rfl) (bb d27_57) (fun _ _ => ⟨rfl, e9, (by decide : 0 + 1 ≤ _), (by decide : 0 + 8 ≤ _)⟩)
  dsimp only [Pt.U, Pt.locs, Pt.cells, Pt.slots] at X10 l10 y10 z10 st10 hQ10
  subst l10 y10 z10
  obtain ⟨oz10, kz_10, rfl, N10q, K10, szz_oz10, f10_0, f10_1, f10_2⟩ := hQ10
  have N10 := Fr.app N9 N10q
  have g_oz10 : n0 ≤ oz10 := Nat.le_trans (own_z0 O0) szz_oz10
  have sz_oz10 : h0.size ≤ oz10 := Nat.le_trans (Nat.le_refl _) szz_oz10
  have ne_a1_oz10 : a1 ≠ oz10 := Nat.ne_of_lt (Nat.lt_of_lt_of_le r0.lt szz_oz10)
  have ne_ow_oz10 : ow ≠ oz10 := Nat.ne_of_lt (Nat.lt_of_lt_of_le r8.lt szz_oz10)
  have ne_on_oz10 : on ≠ oz10 := Nat.ne_of_lt (Nat.lt_of_lt_of_le r10.lt szz_oz10)
  have ne_ob_oz10 : ob ≠ oz10 := Nat.ne_of_lt (Nat.lt_of_lt_of_le r12.lt szz_oz10)
  have ne_ol_oz10 : ol ≠ oz10 := Nat.ne_of_lt (Nat.lt_of_lt_of_le r13.lt szz_oz10)
  have ne_oh_oz10 : oh ≠ oz10 := Nat.ne_of_lt (Nat.lt_of_lt_of_le r14.lt szz_oz10)
  have ne_ov_oz10 : ov ≠ oz10 := Nat.ne_of_lt (Nat.lt_of_lt_of_le r15.lt szz_oz10)
  have ne_at__oz10 : at_ ≠ oz10 := Nat.ne_of_lt (Nat.lt_of_lt_of_le r16.lt szz_oz10)
  obtain ⟨fs, hr, hrun, hended, hW, hsame⟩ := X10.leave (v := none) (fun _ => rfl)
  refine ⟨_, _, pre0 _ ?_, hrun, hended, _, _, rfl, ?_, ⟨_, rfl⟩, hW, hsame.mono (by decide) (by decide)⟩
  · show GG p e below s₁ (mkF m 0 #[vR a1, vI 0, vI 2, vR at_, .unset, .unset, .unset, .unset, .unset, .unset, .unset] []) _
    refine XS.iconst X0.here hx rfl (bb d27_0) ?_
    refine XS.istore X0.here hx rfl (bb d27_1) rfl (l' := #[vR a1, vI 0, vI 2, vR at_, vI 0, .unset, .unset, .unset, .unset, .unset, .unset]) rfl ?_
    refine XS.iload X0.here hx rfl (bb d27_3) rfl ?_
    refine XS.aloadN X0.here hx rfl (bb d27_5) rfl rfl ?_
    refine st1 _ ?_
    refine XS.icmpNo X1.here hx rfl (bb d27_9) rfl (tlt (by decide : (0 : Int32) < (1 : Int32))).2.1 ?_
    refine XS.aloadN X1.here hx rfl (bb d27_12) rfl rfl ?_
    refine XS.iload X1.here hx rfl (bb d27_13) rfl ?_
    refine X1.iaload hx (j := (0 : Int32)) (v := (.int et0)) (by rw [e1]; exact Ar2.1) (State.isArrayOf_alike hZ.alike Ar2.2.1) Ar2.2.2 hin2 (vH2.at hin2 rfl) (g := (mkF m 15 #[vR a1, vI 0, vI 2, vR at_, vI 0, .unset, .unset, .unset, .unset, .unset, .unset] [(.int 0), (.ref at_)])) rfl rfl (bb d27_15) _ ?_
    refine XS.aloadN X1.here hx rfl (bb d27_16) rfl rfl ?_
    refine st3 _ ?_
    refine XS.iload X3.here hx rfl (bb d27_20) rfl ?_
    refine X3.iaload hx (j := (0 : Int32)) (v := (.int eu0)) (by rw [e3]; exact Ar4.1) (State.isArrayOf_alike hZ.alike Ar4.2.1) Ar4.2.2 hin4 (vH4.at hin4 rfl) (g := (mkF m 22 #[vR a1, vI 0, vI 2, vR at_, vI 0, .unset, .unset, .unset, .unset, .unset, .unset] [(.int 0), (.ref oh), (.int et0)])) rfl rfl (bb d27_22) _ ?_
    refine st5 _ ?_
    refine XS.i2l X5.here hx rfl (bb d27_26) rfl ?_
    refine XS.aloadN X5.here hx rfl (bb d27_27) rfl rfl ?_
    refine XS.iload X5.here hx rfl (bb d27_28) rfl ?_
    refine X5.iaload hx (j := (0 : Int32)) (v := (.int et0)) (by rw [e5]; exact Ar6.1) (State.isArrayOf_alike hZ.alike Ar6.2.1) Ar6.2.2 hin6 (vH6.at hin6 rfl) (g := (mkF m 30 #[vR a1, vI 0, vI 2, vR at_, vI 0, .unset, .unset, .unset, .unset, .unset, .unset] [(.int 0), (.ref at_), (.long ((f_maxI et0 eu0).toInt64))])) rfl rfl (bb d27_30) _ ?_
    refine XS.aloadN X5.here hx rfl (bb d27_31) rfl rfl ?_
    refine st7 _ ?_
    refine XS.iload X7.here hx rfl (bb d27_35) rfl ?_
    refine X7.iaload hx (j := (0 : Int32)) (v := (.int el0)) (by rw [e7]; exact Ar8.1) (State.isArrayOf_alike hZ.alike Ar8.2.1) Ar8.2.2 hin8 (vH8.at hin8 rfl) (g := (mkF m 37 #[vR a1, vI 0, vI 2, vR at_, vI 0, .unset, .unset, .unset, .unset, .unset, .unset] [(.int 0), (.ref ol), (.int et0), (.long ((f_maxI et0 eu0).toInt64))])) rfl rfl (bb d27_37) _ ?_
    refine st9 _ ?_
    refine XS.i2l X9.here hx rfl (bb d27_41) rfl ?_
    refine XS.lsub X9.here hx rfl (bb d27_42) rfl ?_
    refine XS.lstore X9.here hx rfl (bb d27_43) rfl (l' := #[vR a1, vI 0, vI 2, vR at_, vI 0, vJ (((f_maxI et0 eu0).toInt64) - ((f_minI et0 el0).toInt64)), .second, .unset, .unset, .unset, .unset]) rfl ?_
    refine XS.lload X9.here hx rfl (bb d27_45) rfl ?_
    refine X9.ldc2Long hx hown (mvT hZ (ww 198 rfl)) (g := (mkF m 47 #[vR a1, vI 0, vI 2, vR at_, vI 0, vJ (((f_maxI et0 eu0).toInt64) - ((f_minI et0 el0).toInt64)), .second, .unset, .unset, .unset, .unset] [(.long (((f_maxI et0 eu0).toInt64) - ((f_minI et0 el0).toInt64)))])) rfl (bb d27_47) _ ?_
    refine XS.lcmp X9.here hx rfl (bb d27_50) rfl ?_
    refine XS.ifNo X9.here hx rfl (bb d27_51) rfl ((if0 _ _).trans (flt hWd).1) ?_
    refine XS.aloadN X9.here hx rfl (bb d27_54) rfl rfl ?_
    refine XS.iloadN X9.here hx rfl (bb d27_55) rfl ?_
    refine XS.iloadN X9.here hx rfl (bb d27_56) rfl ?_
    refine st10.trans ?_
    exact X10.returnOut hx Bd.returns (bb d27_60) hr
  · show Q_fitW1_2 Z wDE a1 at_ ow on ob ol oh ov kw_ kn_ kb_ kl_ kh_ kv_ eb0 el0 eu0 ev0_0 ev1_0 ex2 ex3 ex4 ex5 ex6 ex7 kt_ et0 h0 n0 _ T10.heap _
    exact ⟨oz10, kz_10, rfl, N10, ((Keep.refl h0 [ow, on]).trans K10 (allS (Or.inl (List.mem_of_getElem? (i := 0) rfl)) (allS (Or.inl (List.mem_of_getElem? (i := 1) rfl)) all0))), sz_oz10, f10_0, f10_1, f10_2⟩
def Q_add1N0 (Z : State) (wDE a1 at_ ow on ob ol oh ov : Addr) (kw_ kn_ kb_ kl_ kh_ kv_ : ClassId) (eb0 el0 eu0 ex0 ex1 ex2 ex3 ex4 ex5 ex6 ex7 : Int32) (kt_ : ClassId) (et0 : Int32) (h0 : Heap) (n0 : Nat) (v : Option Value) (h : Heap) (L : List Loc) : Prop := v = none ∧ Fr n0 L ∧ Keep h0 h [a1, ob, ol, oh, ov] ∧ Exa Z h a1 cRV ∧ Fld Z h a1 cRV "arity" "I" (.int 1) ∧ Fld Z h a1 cRV "rows" "I" (.int 1) ∧ Fld Z h a1 cRV "wide" "[[I" (.ref ow) ∧ Fld Z h a1 cRV "narrow" "[[C" (.ref on) ∧ Fld Z h a1 cRV "bases" "[I" (.ref ob) ∧ Fld Z h a1 cRV "lowest" "[I" (.ref ol) ∧ Fld Z h a1 cRV "highest" "[I" (.ref oh) ∧ Arv Z h ow kw_ (.array .int) (1 : Int32) [.null] .null ∧ OvrA Z kw_ .int "[I" ∧ Arv Z h on kn_ (.array .char) (1 : Int32) [(.ref ov)] .null ∧ OvrA Z kn_ .char "[C" ∧ Arv Z h ob kb_ .int (1 : Int32) [(.int (f_base et0 et0))] (.int 0) ∧ Arv Z h ol kl_ .int (1 : Int32) [(.int et0)] (.int 0) ∧ Arv Z h oh kh_ .int (1 : Int32) [(.int et0)] (.int 0) ∧ Arv Z h ov kv_ .char (8 : Int32) [(.int (nar .char (et0 - (f_base et0 et0)))), (.int ex1), (.int ex2), (.int ex3), (.int ex4), (.int ex5), (.int ex6), (.int ex7)] (.int 0)
set_option maxRecDepth 65536 in
set_option maxHeartbeats 40000000 in
theorem rm_add1N0 (l : Launch) (Z : State) (a0 : Array Value) (hw : ∀ d ∈ tables_1, d.before a0 Z = true) (ws : List Jvm.Cond) (wDE : Addr) (a1 at_ ow on ob ol oh ov : Addr) (kw_ kn_ kb_ kl_ kh_ kv_ : ClassId) (eb0 el0 eu0 ex0 ex1 ex2 ex3 ex4 ex5 ex6 ex7 : Int32) (kt_ : ClassId) (et0 : Int32) (h0 : Heap) (n0 : Nat) (Z0 : n0 ≤ h0.size) (S_wDE : Sta Z Z.heap "java/util/ArrayList" "DEFAULTCAPACITY_EMPTY_ELEMENTDATA" "[Ljava/lang/Object;" (.ref wDE)) (O0 : Old Z n0 h0) (S_CS : Sta Z Z.heap cRV "CHUNK_SHIFT" "I" (.int (12 : Int32))) (r0 : Exa Z h0 a1 cRV) (r1 : Fld Z h0 a1 cRV "arity" "I" (.int 1)) (r2 : Fld Z h0 a1 cRV "rows" "I" (.int 0)) (r3 : Fld Z h0 a1 cRV "wide" "[[I" (.ref ow)) (r4 : Fld Z h0 a1 cRV "narrow" "[[C" (.ref on)) (r5 : Fld Z h0 a1 cRV "bases" "[I" (.ref ob)) (r6 : Fld Z h0 a1 cRV "lowest" "[I" (.ref ol)) (r7 : Fld Z h0 a1 cRV "highest" "[I" (.ref oh)) (r8 : Arv Z h0 ow kw_ (.array .int) (1 : Int32) [.null] .null) (r9 : OvrA Z kw_ .int "[I") (r10 : Arv Z h0 on kn_ (.array .char) (1 : Int32) [(.ref ov)] .null) (r11 : OvrA Z kn_ .char "[C") (r12 : Arv Z h0 ob kb_ .int (1 : Int32) [(.int eb0)] (.int 0)) (r13 : Arv Z h0 ol kl_ .int (1 : Int32) [(.int el0)] (.int 0)) (r14 : Arv Z h0 oh kh_ .int (1 : Int32) [(.int eu0)] (.int 0)) (r15 : Arv Z h0 ov kv_ .char (8 : Int32) [(.int ex0), (.int ex1), (.int ex2), (.int ex3), (.int ex4), (.int ex5), (.int ex6), (.int ex7)] (.int 0)) (r16 : Arv Z h0 at_ kt_ .int (1 : Int32) [(.int et0)] (.int 0)) (g_a1 : n0 ≤ a1) (g_ob : n0 ≤ ob) (g_ol : n0 ≤ ol) (g_oh : n0 ≤ oh) (g_ov : n0 ≤ ov) (ne_a1_ow : a1 ≠ ow) (ne_a1_on : a1 ≠ on) (ne_a1_ob : a1 ≠ ob) (ne_a1_ol : a1 ≠ ol) (ne_a1_oh : a1 ≠ oh) (ne_a1_ov : a1 ≠ ov) (ne_ow_on : ow ≠ on) (ne_ow_ob : ow ≠ ob) (ne_ow_ol : ow ≠ ol) (ne_ow_oh : ow ≠ oh) (ne_ow_ov : ow ≠ ov) (ne_on_ob : on ≠ ob) (ne_on_ol : on ≠ ol) (ne_on_oh : on ≠ oh) (ne_on_ov : on ≠ ov) (ne_ob_ol : ob ≠ ol) (ne_ob_oh : ob ≠ oh) (ne_ob_ov : ob ≠ ov) (ne_ol_oh : ol ≠ oh) (ne_ol_ov : ol ≠ ov) (ne_oh_ov : oh ≠ ov) (ne_at__a1 : at_ ≠ a1) (ne_at__ow : at_ ≠ ow) (ne_at__on : at_ ≠ on) (ne_at__ob : at_ ≠ ob) (ne_at__ol : at_ ≠ ol) (ne_at__oh : at_ ≠ oh) (ne_at__ov : at_ ≠ ov) :
    MetFree l (⟨cRV, "add", "([I)V"⟩ : MethodName) (head1 (Jvm.Cond.code (⟨cRV, "add", "([I)V"⟩ : MethodName) prog_48_method_4_code 7 none :: ws) ({ frames := 3, cells := 1, slots := 8, locals := 58 } : Room)) (fun a U => a = #[(.ref a1), (.ref at_)] ∧ Z.Warmed39 U.vm ∧ U.heap = h0) (fun _ _ _ _ _ => True) (fun _ U o U' => ∃ v L, o = .returned v ∧ Q_add1N0 Z wDE a1 at_ ow on ob ol oh ov kw_ kn_ kb_ kl_ kh_ kv_ eb0 el0 eu0 ex0 ex1 ex2 ex3 ex4 ex5 ex6 ex7 kt_ et0 h0 n0 v U'.heap L ∧ FrameEnd U o U' L ({ frames := 3, cells := 1, slots := 8, locals := 58 } : Room).cells ({ frames := 3, cells := 1, slots := 8, locals := 58 } : Room).slots) := by
  refine MetFree.of_bodySF (plainFor_of_name pn_RowValues) hisR ?_
  intro p e s m args below meth c s₁ Bd hml0 hP hK
  obtain ⟨rfl, hZ, hh⟩ := hP
  have hx := Bd.exec
  have hby := Bd.bytes
  have bb := fun {pc : Nat} {r : Except DecodeError (Instr × Nat)} (h : decode prog_48_method_4_code pc = r) => hb hby h
  have ww := fun (i : Nat) {d : Jvm.Cond} (h : tables_1[i]? = some d) => hw d (List.mem_of_getElem? h)
  have hml : c.maxLocals = 7 := hml0
  have hown : s.vm.findClass cRV = some m.cls := findClass_of_methodNamed Bd.named
  have hnm := (name_of_methodNamed Bd.named Bd.method).1
  have X0 : Stand p l e ({ frames := 3, cells := 1, slots := 8, locals := 58 } : Room) s m #[(.ref a1), (.ref at_)] below meth c s₁ [] 0 0 := Stand.of_body Bd
  have e0 : s₁.heap = h0 := by rw [← hh, Bd.state]; rfl
  have N0 := Fr.nil n0
  have pre0 : ∀ t, Steps p.tables e below (s₁.setTop (mkF m 0 #[vR a1, vR at_, .unset, .unset, .unset, .unset, .unset] [])) t → Steps p.tables e below (s₁.setTop (entryFrame m #[(.ref a1), (.ref at_)] 7)) t := fun t k => castTop (ef_add1N0 m a1 at_) k
  obtain ⟨T1, X1, e1, st1⟩ := getF X0 hx hZ hown (host := "") (Or.inl (ww 162 rfl)) Via.refl e0 r2 (g := (mkF m 1 #[vR a1, vR at_, .unset, .unset, .unset, .unset, .unset] [(.ref a1)])) rfl rfl (bb d21_1)
  obtain ⟨T2, X2, e2, st2⟩ := getS2 X1 hx hZ hown (host := "") (Or.inl (ww 164 rfl)) Via.refl e1 (S_CS.ext O0.2) (g := (mkF m 4 #[vR a1, vR at_, .unset, .unset, .unset, .unset, .unset] [(.int 0)])) rfl (bb d21_4)
  obtain ⟨T3, X3, e3, st3⟩ := getF X2 hx hZ hown (host := "") (Or.inl (ww 162 rfl)) Via.refl e2 r2 (g := (mkF m 10 #[vR a1, vR at_, vI 0, .unset, .unset, .unset, .unset] [(.ref a1)])) rfl rfl (bb d21_10)
  obtain ⟨cq4, q4, q4'⟩ := (r0).cell
  obtain ⟨_, _, ⟨T4, L4, k4, n4⟩, -, X4, ⟨Lc4, hQ4, l4, y4, z4⟩, st4⟩ := X3.privateBack hx (y := (⟨cRV, "start", "(I[I)V"⟩ : MethodName)) hown (mvT hZ (ww 166 rfl)) (mvT hZ (ww 167 rfl)) (own_sel (mvT hZ (ww 61 rfl)) (mvT hZ (ww 167 rfl)) (mvP hZ (ww 168 rfl)) (by decide)) (Cond.privateMethod_at (mvP hZ (ww 168 rfl) (args := #[]))) (mvT hZ (ww 169 rfl)) (by decide) (backOf (W := 0) (rm_start1 l Z a0 hw [] wDE a1 at_ ow on ob ol oh ov kw_ kn_ kb_ kl_ kh_ kv_ eb0 el0 eu0 ex0 ex1 ex2 ex3 ex4 ex5 ex6 ex7 kt_ et0 h0 n0 (own_z0 O0) S_wDE O0 S_CS r0 r1 r2 r3 r4 r5 r6 r7 r8 r9 r10 r11 r12 r13 r14 r15 r16 g_ob g_ol g_oh ne_a1_ow ne_a1_on ne_a1_ob ne_a1_ol ne_a1_oh ne_a1_ov ne_ow_on ne_ow_ob ne_ow_ol ne_ow_oh ne_ow_ov ne_on_ob ne_on_ol ne_on_oh ne_on_ov ne_ob_ol ne_ob_oh ne_ob_ov ne_ol_oh ne_ol_ov ne_oh_ov ne_at__a1 ne_at__ow ne_at__on ne_at__ob ne_at__ol ne_at__oh ne_at__ov) hZ (ww 169 rfl) (ww 62 rfl) (by decide) (by decide)) (g := (mkF m 25 #[vR a1, vR at_, vI 0, vI 0, .unset, .unset, .unset] [(.ref at_), (.int 0), (.ref a1)])) rfl (by rw [hml]; rfl) (Steps.refl _) (a := a1) (by rw [e3]; exact q4) q4' (argsL := [(.int 0), (.ref at_)]) (rest := []) (lenOf pd__I_I_V_6 rfl) rfl (by show 2 * 0 + _ ≤ _; exact Nat.le_of_eq rfl) (bb d21_25) (fun _ _ => ⟨rfl, e3, (by decide : 0 + 0 ≤ _), (by decide : 0 + 0 ≤ _)⟩)
  dsimp only [Pt.U, Pt.locs, Pt.cells, Pt.slots] at X4 l4 y4 z4 st4 hQ4
  subst l4 y4 z4
  obtain ⟨rfl, N4q, K4, f4_0, f4_1, f4_2⟩ := hQ4
  have N4 := Fr.app N0 N4q
  have F6 := (r0.keep K4)
  have F7 := (r1.keep K4 (ninS ne_a1_ob (ninS ne_a1_ol (ninS ne_a1_oh nin0))))
  have F8 := (r3.keep K4 (ninS ne_a1_ob (ninS ne_a1_ol (ninS ne_a1_oh nin0))))
  have F9 := (r4.keep K4 (ninS ne_a1_ob (ninS ne_a1_ol (ninS ne_a1_oh nin0))))
  have F10 := (r8.keep K4 (ninS ne_ow_ob (ninS ne_ow_ol (ninS ne_ow_oh nin0))))
  have F11 := (r10.keep K4 (ninS ne_on_ob (ninS ne_on_ol (ninS ne_on_oh nin0))))
  have F12 := (r15.keep K4 (ninS (Ne.symm ne_ob_ov) (ninS (Ne.symm ne_ol_ov) (ninS (Ne.symm ne_oh_ov) nin0))))
  have O13 := (O0.keep K4 (allS g_ob (allS g_ol (allS g_oh all0))))
  obtain ⟨cq5, q5, q5'⟩ := (F6).cell
  obtain ⟨_, _, ⟨T5, L5, k5, n5⟩, -, X5, ⟨Lc5, hQ5, l5, y5, z5⟩, st5⟩ := X4.privateBack hx (y := (⟨cRV, "makeRoom", "(II)V"⟩ : MethodName)) hown (mvT hZ (ww 184 rfl)) (mvT hZ (ww 185 rfl)) (own_sel (mvT hZ (ww 61 rfl)) (mvT hZ (ww 185 rfl)) (mvP hZ (ww 186 rfl)) (by decide)) (Cond.privateMethod_at (mvP hZ (ww 186 rfl) (args := #[]))) (mvT hZ (ww 187 rfl)) (by decide) (backOf (W := 0) (rm_room1N0 l Z a0 hw [] wDE a1 ow on ob ol oh ov kw_ kn_ kb_ kl_ kh_ kv_ (f_base et0 et0) et0 et0 ex0 ex1 ex2 ex3 ex4 ex5 ex6 ex7 T4.heap n0 (own_z0 O13) S_wDE O13 S_CS F6 F7 F8 F9 F10 F11 F12) hZ (ww 187 rfl) (ww 62 rfl) (by decide) (by decide)) (g := (mkF m 31 #[vR a1, vR at_, vI 0, vI 0, .unset, .unset, .unset] [(.int 0), (.int 0), (.ref a1)])) rfl (by rw [hml]; rfl) (Steps.refl _) (a := a1) q5 q5' (argsL := [(.int 0), (.int 0)]) (rest := []) (lenOf pd__II_V_5 rfl) rfl (by show 2 * 0 + _ ≤ _; exact Nat.le_of_eq rfl) (bb d21_31) (fun _ _ => ⟨rfl, rfl, (by decide : 0 + 0 ≤ _), (by decide : 0 + 0 ≤ _)⟩)
  dsimp only [Pt.U, Pt.locs, Pt.cells, Pt.slots] at X5 l5 y5 z5 st5 hQ5
  subst l5 y5 z5
  obtain ⟨rfl, N5q, e5⟩ := hQ5
  have N5 := Fr.app N4 N5q
  obtain ⟨T14, X14, e14, st14⟩ := getF X5 hx hZ hown (host := "") (Or.inl (ww 73 rfl)) Via.refl e5 F9 (g := (mkF m 35 #[vR a1, vR at_, vI 0, vI 0, .unset, .unset, .unset] [(.ref a1)])) rfl rfl (bb d21_35)
  obtain ⟨cl15, Ar15, vq15, vS15, vN15, vH15, vG15⟩ := id F11
  have hin15 : ¬ (((0 : Int32) : Int32) < 0 ∨ cl15.slots.size ≤ ((0 : Int32) : Int32).toNatClampNeg) := inb_of vS15 ⟨by decide, by decide⟩
  have F17 := (r2.keep K4 (ninS ne_a1_ob (ninS ne_a1_ol (ninS ne_a1_oh nin0))))
  have F18 := (r5.keep K4 (ninS ne_a1_ob (ninS ne_a1_ol (ninS ne_a1_oh nin0))))
  have F19 := (r6.keep K4 (ninS ne_a1_ob (ninS ne_a1_ol (ninS ne_a1_oh nin0))))
  have F20 := (r7.keep K4 (ninS ne_a1_ob (ninS ne_a1_ol (ninS ne_a1_oh nin0))))
  have F21 := (r16.keep K4 (ninS ne_at__ob (ninS ne_at__ol (ninS ne_at__oh nin0))))
  obtain ⟨cq16, q16, q16'⟩ := (F6).cell
  obtain ⟨_, _, ⟨T16, L16, k16, n16⟩, -, X16, ⟨Lc16, hQ16, l16, y16, z16⟩, st16⟩ := X14.privateBack hx (y := (⟨cRV, "fit", "(II[I)V"⟩ : MethodName)) hown (mvT hZ (ww 191 rfl)) (mvT hZ (ww 192 rfl)) (own_sel (mvT hZ (ww 61 rfl)) (mvT hZ (ww 192 rfl)) (mvP hZ (ww 193 rfl)) (by decide)) (Cond.privateMethod_at (mvP hZ (ww 193 rfl) (args := #[]))) (mvT hZ (ww 194 rfl)) (by decide) (backOf (W := 0) (rm_fit1_0 l Z a0 hw [] wDE a1 at_ ow on ob ol oh ov kw_ kn_ kb_ kl_ kh_ kv_ (f_base et0 et0) et0 et0 ex0 ex1 ex2 ex3 ex4 ex5 ex6 ex7 kt_ et0 T4.heap n0 (own_z0 O13) S_wDE O13 S_CS F6 F7 F17 F8 F9 F18 F19 F20 F10 r9 F11 r11 f4_0 f4_1 f4_2 F12 F21 g_ol g_oh ne_a1_ow ne_a1_on ne_a1_ob ne_a1_ol ne_a1_oh ne_a1_ov ne_ow_on ne_ow_ob ne_ow_ol ne_ow_oh ne_ow_ov ne_on_ob ne_on_ol ne_on_oh ne_on_ov ne_ob_ol ne_ob_oh ne_ob_ov ne_ol_oh ne_ol_ov ne_oh_ov ne_at__a1 ne_at__ow ne_at__on ne_at__ob ne_at__ol ne_at__oh ne_at__ov) hZ (ww 194 rfl) (ww 62 rfl) (by decide) (by decide)) (g := (mkF m 47 #[vR a1, vR at_, vI 0, vI 0, .unset, .unset, .unset] [(.ref at_), (.int 0), (.int 0), (.ref a1)])) rfl (by rw [hml]; rfl) (Steps.refl _) (a := a1) (by rw [e14]; exact q16) q16' (argsL := [(.int 0), (.int 0), (.ref at_)]) (rest := []) (lenOf pd__II_I_V_7 rfl) rfl (by show 2 * 0 + _ ≤ _; exact Nat.le_of_eq rfl) (bb d21_47) (fun _ _ => ⟨rfl, e14, (by decide : 0 + 0 ≤ _), (by decide : 0 + 0 ≤ _)⟩)
  dsimp only [Pt.U, Pt.locs, Pt.cells, Pt.slots] at X16 l16 y16 z16 st16 hQ16
  subst l16 y16 z16
  obtain ⟨rfl, N16q, K16, f16_0, f16_1⟩ := hQ16
  have N16 := Fr.app N5 N16q
  have F23 := (F7.keep K16 (ninS ne_a1_ol (ninS ne_a1_oh nin0)))
  obtain ⟨T22, X22, e22, st22⟩ := getF X16 hx hZ hown (host := "") (Or.inl (ww 75 rfl)) Via.refl rfl F23 (g := (mkF m 52 #[vR a1, vR at_, vI 0, vI 0, .unset, .unset, .unset] [(.ref a1), (.int 0)])) rfl rfl (bb d21_52)
  have F25 := (F9.keep K16 (ninS ne_a1_ol (ninS ne_a1_oh nin0)))
  obtain ⟨T24, X24, e24, st24⟩ := getF X22 hx hZ hown (host := "") (Or.inl (ww 73 rfl)) Via.refl e22 F25 (g := (mkF m 59 #[vR a1, vR at_, vI 0, vI 0, vI 0, .unset, .unset] [(.ref a1)])) rfl rfl (bb d21_59)
  have F26 := (F11.keep K16 (ninS ne_on_ol (ninS ne_on_oh nin0)))
  obtain ⟨cl27, Ar27, vq27, vS27, vN27, vH27, vG27⟩ := id F26
  have hin27 : ¬ (((0 : Int32) : Int32) < 0 ∨ cl27.slots.size ≤ ((0 : Int32) : Int32).toNatClampNeg) := inb_of vS27 ⟨by decide, by decide⟩
  obtain ⟨T28, X28, e28, st28⟩ := getF X24 hx hZ hown (host := "") (Or.inl (ww 75 rfl)) Via.refl e24 F23 (g := (mkF m 72 #[vR a1, vR at_, vI 0, vI 0, vI 0, vR ov, vI 0] [(.ref a1), (.int 0)])) rfl rfl (bb d21_72)
  have F29 := (F21.keep K16 (ninS ne_at__ol (ninS ne_at__oh nin0)))
  obtain ⟨cl30, Ar30, vq30, vS30, vN30, vH30, vG30⟩ := id F29
  have hin30 : ¬ (((0 : Int32) : Int32) < 0 ∨ cl30.slots.size ≤ ((0 : Int32) : Int32).toNatClampNeg) := inb_of vS30 ⟨by decide, by decide⟩
  have F32 := (F18.keep K16 (ninS ne_a1_ol (ninS ne_a1_oh nin0)))
  obtain ⟨T31, X31, e31, st31⟩ := getF X28 hx hZ hown (host := "") (Or.inl (ww 77 rfl)) Via.refl e28 F32 (g := (mkF m 95 #[vR a1, vR at_, vI 0, vI 0, vI 0, vR ov, vI 0] [(.ref a1), (.int et0), (.int 0), (.ref ov)])) rfl rfl (bb d21_95)
  obtain ⟨T33, X33, e33, st33⟩ := getF X31 hx hZ hown (host := "") (Or.inl (ww 75 rfl)) Via.refl e31 F23 (g := (mkF m 100 #[vR a1, vR at_, vI 0, vI 0, vI 0, vR ov, vI 0] [(.ref a1), (.int 0), (.ref ob), (.int et0), (.int 0), (.ref ov)])) rfl rfl (bb d21_100)
  have F34 := (f4_0.keep K16 (ninS ne_ob_ol (ninS ne_ob_oh nin0)))
  obtain ⟨cl35, Ar35, vq35, vS35, vN35, vH35, vG35⟩ := id F34
  have hin35 : ¬ (((0 : Int32) : Int32) < 0 ∨ cl35.slots.size ≤ ((0 : Int32) : Int32).toNatClampNeg) := inb_of vS35 ⟨by decide, by decide⟩
  have F36 := (F12.keep K16 (ninS (Ne.symm ne_ol_ov) (ninS (Ne.symm ne_oh_ov) nin0)))
  obtain ⟨cl37, Ar37, vq37, vS37, vN37, vH37, vG37⟩ := id F36
  have hin37 : ¬ (((0 : Int32) : Int32) < 0 ∨ cl37.slots.size ≤ ((0 : Int32) : Int32).toNatClampNeg) := inb_of vS37 ⟨by decide, by decide⟩
  obtain ⟨T37, h37, X37, e37, W37, st37⟩ := stC X33 hx hZ e33 Ar37 (j := (0 : Int32)) hin37 (g := (mkF m 110 #[vR a1, vR at_, vI 0, vI 0, vI 0, vR ov, vI 0] [(.int ((et0 - (f_base et0 et0)).toUInt32.toUInt16.toUInt32.toInt32)), (.int 0), (.ref ov)])) rfl rfl (bb d21_110)
  have V37 : Arv Z h37 ov kv_ .char (8 : Int32) [(.int (nar .char ((et0 - (f_base et0 et0)).toUInt32.toUInt16.toUInt32.toInt32))), (.int ex1), (.int ex2), (.int ex3), (.int ex4), (.int ex5), (.int ex6), (.int ex7)] (.int 0) := Arv.set Ar37 vq37 vS37 vN37 vH37 vG37 (fits_nar_char _) W37 0 rfl (Nat.le_of_ble_eq_true rfl)
  have N37 := Fr.snoc X37 N16 g_ov
  have F39 := (F23.other W37 (Or.inl ne_a1_ov))
  obtain ⟨T38, X38, e38, st38⟩ := getF X37 hx hZ hown (host := "") (Or.inl (ww 75 rfl)) Via.refl e37 F39 (g := (mkF m 72 #[vR a1, vR at_, vI 0, vI 0, vI 0, vR ov, vI 1] [(.ref a1), (.int 1)])) rfl rfl (bb d21_72)
  have F41 := ((F17.keep K16 (ninS ne_a1_ol (ninS ne_a1_oh nin0))).other W37 (Or.inl ne_a1_ov))
  obtain ⟨T40, X40, e40, st40⟩ := getF X38 hx hZ hown (host := "") (Or.inl (ww 162 rfl)) Via.refl e38 F41 (g := (mkF m 138 #[vR a1, vR at_, vI 0, vI 0, vI 0, vR ov, vI 1] [(.ref a1), (.ref a1)])) rfl rfl (bb d21_138)
  have F43 := ((F6.keep K16).wr W37)
  obtain ⟨T42, h42, X42, e42, W42, st42⟩ := putF X40 hx hZ hown (host := "") (Or.inl (ww 162 rfl)) Via.refl e40 F41 F43 (Or.inl (ww 163 rfl)) (ww 61 rfl) (ty := .int) (by decide) rfl rfl (g := (mkF m 143 #[vR a1, vR at_, vI 0, vI 0, vI 0, vR ov, vI 1] [(.int 1), (.ref a1)])) rfl rfl (bb d21_143)
  have Fw42 := F41.same W42
  have N42 := Fr.snoc X42 N37 g_a1
  have F44 := (F43.wr W42)
  have F45 := (F39.other W42 (Or.inr (slot_ne (Or.inr (ww 76 rfl)) (Or.inl (ww 163 rfl)) (by decide) (t := .int) (t' := .int) (by decide) (by decide))))
  have F46 := (((F8.keep K16 (ninS ne_a1_ol (ninS ne_a1_oh nin0))).other W37 (Or.inl ne_a1_ov)).other W42 (Or.inr (slot_ne (Or.inl (ww 70 rfl)) (Or.inl (ww 163 rfl)) (by decide) (t := (.array (.array .int))) (t' := .int) (by decide) (by decide))))
  have F47 := ((F25.other W37 (Or.inl ne_a1_ov)).other W42 (Or.inr (slot_ne (Or.inl (ww 74 rfl)) (Or.inl (ww 163 rfl)) (by decide) (t := (.array (.array .char))) (t' := .int) (by decide) (by decide))))
  have F48 := ((F32.other W37 (Or.inl ne_a1_ov)).other W42 (Or.inr (slot_ne (Or.inl (ww 78 rfl)) (Or.inl (ww 163 rfl)) (by decide) (t := (.array .int)) (t' := .int) (by decide) (by decide))))
  have F49 := (((F19.keep K16 (ninS ne_a1_ol (ninS ne_a1_oh nin0))).other W37 (Or.inl ne_a1_ov)).other W42 (Or.inr (slot_ne (Or.inr (ww 80 rfl)) (Or.inl (ww 163 rfl)) (by decide) (t := (.array .int)) (t' := .int) (by decide) (by decide))))
  have F50 := (((F20.keep K16 (ninS ne_a1_ol (ninS ne_a1_oh nin0))).other W37 (Or.inl ne_a1_ov)).other W42 (Or.inr (slot_ne (Or.inr (ww 82 rfl)) (Or.inl (ww 163 rfl)) (by decide) (t := (.array .int)) (t' := .int) (by decide) (by decide))))
  have F51 := (((F10.keep K16 (ninS ne_ow_ol (ninS ne_ow_oh nin0))).other W37 ne_ow_ov).other W42 (Ne.symm ne_a1_ow))
  have F52 := ((F26.other W37 ne_on_ov).other W42 (Ne.symm ne_a1_on))
  have F53 := ((F34.other W37 ne_ob_ov).other W42 (Ne.symm ne_a1_ob))
  have F54 := ((f16_0.other W37 ne_ol_ov).other W42 (Ne.symm ne_a1_ol))
  have F55 := ((f16_1.other W37 ne_oh_ov).other W42 (Ne.symm ne_a1_oh))
  have F56 := (V37.other W42 (Ne.symm ne_a1_ov))
  obtain ⟨fs, hr, hrun, hended, hW, hsame⟩ := X42.leave (v := none) (fun _ => rfl)
  refine ⟨_, _, pre0 _ ?_, hrun, hended, _, _, rfl, ?_, ⟨_, rfl⟩, hW, hsame.mono (by decide) (by decide)⟩
  · show GG p e below s₁ (mkF m 0 #[vR a1, vR at_, .unset, .unset, .unset, .unset, .unset] []) _
    refine XS.aloadN X0.here hx rfl (bb d21_0) rfl rfl ?_
    refine st1 _ ?_
    refine st2 _ ?_
    refine XS.iushr X2.here hx rfl (bb d21_7) rfl ?_
    refine XS.istoreN X2.here hx rfl (bb d21_8) rfl (l' := #[vR a1, vR at_, vI 0, .unset, .unset, .unset, .unset]) rfl ?_
    refine XS.aloadN X2.here hx rfl (bb d21_9) rfl rfl ?_
    refine st3 _ ?_
    refine XS.sipush X3.here hx rfl (bb d21_13) ?_
    refine XS.iand X3.here hx rfl (bb d21_16) rfl ?_
    refine XS.istoreN X3.here hx rfl (bb d21_17) rfl (l' := #[vR a1, vR at_, vI 0, vI 0, .unset, .unset, .unset]) rfl ?_
    refine XS.iloadN X3.here hx rfl (bb d21_18) rfl ?_
    refine XS.ifNo X3.here hx rfl (bb d21_19) rfl ((if0 _ _).trans (teq (by decide : (0 : Int32) = (0 : Int32))).2) ?_
    refine XS.aloadN X3.here hx rfl (bb d21_22) rfl rfl ?_
    refine XS.iloadN X3.here hx rfl (bb d21_23) rfl ?_
    refine XS.aloadN X3.here hx rfl (bb d21_24) rfl rfl ?_
    refine st4.trans ?_
    refine XS.aloadN X4.here hx rfl (bb d21_28) rfl rfl ?_
    refine XS.iloadN X4.here hx rfl (bb d21_29) rfl ?_
    refine XS.iloadN X4.here hx rfl (bb d21_30) rfl ?_
    refine st5.trans ?_
    refine XS.aloadN X5.here hx rfl (bb d21_34) rfl rfl ?_
    refine st14 _ ?_
    refine XS.iloadN X14.here hx rfl (bb d21_38) rfl ?_
    refine X14.aaload hx (j := (0 : Int32)) (v := (.ref ov)) (by rw [e14]; exact Ar15.1) (State.isArrayOf_alike hZ.alike Ar15.2.1) rfl Ar15.2.2 hin15 (vH15.at hin15 rfl) (g := (mkF m 39 #[vR a1, vR at_, vI 0, vI 0, .unset, .unset, .unset] [(.int 0), (.ref on)])) rfl rfl (bb d21_39) _ ?_
    refine XS.ifnullNo X14.here hx rfl (bb d21_40) rfl ?_
    refine XS.aloadN X14.here hx rfl (bb d21_43) rfl rfl ?_
    refine XS.iloadN X14.here hx rfl (bb d21_44) rfl ?_
    refine XS.iloadN X14.here hx rfl (bb d21_45) rfl ?_
    refine XS.aloadN X14.here hx rfl (bb d21_46) rfl rfl ?_
    refine st16.trans ?_
    refine XS.iloadN X16.here hx rfl (bb d21_50) rfl ?_
    refine XS.aloadN X16.here hx rfl (bb d21_51) rfl rfl ?_
    refine st22 _ ?_
    refine XS.imul X22.here hx rfl (bb d21_55) rfl ?_
    refine XS.istore X22.here hx rfl (bb d21_56) rfl (l' := #[vR a1, vR at_, vI 0, vI 0, vI 0, .unset, .unset]) rfl ?_
    refine XS.aloadN X22.here hx rfl (bb d21_58) rfl rfl ?_
    refine st24 _ ?_
    refine XS.iloadN X24.here hx rfl (bb d21_62) rfl ?_
    refine X24.aaload hx (j := (0 : Int32)) (v := (.ref ov)) (by rw [e24]; exact Ar27.1) (State.isArrayOf_alike hZ.alike Ar27.2.1) rfl Ar27.2.2 hin27 (vH27.at hin27 rfl) (g := (mkF m 63 #[vR a1, vR at_, vI 0, vI 0, vI 0, .unset, .unset] [(.int 0), (.ref on)])) rfl rfl (bb d21_63) _ ?_
    refine XS.astore X24.here hx rfl (bb d21_64) rfl rfl (l' := #[vR a1, vR at_, vI 0, vI 0, vI 0, vR ov, .unset]) rfl ?_
    refine XS.iconst X24.here hx rfl (bb d21_66) ?_
    refine XS.istore X24.here hx rfl (bb d21_67) rfl (l' := #[vR a1, vR at_, vI 0, vI 0, vI 0, vR ov, vI 0]) rfl ?_
    refine XS.iload X24.here hx rfl (bb d21_69) rfl ?_
    refine XS.aloadN X24.here hx rfl (bb d21_71) rfl rfl ?_
    refine st28 _ ?_
    refine XS.icmpNo X28.here hx rfl (bb d21_75) rfl (tlt (by decide : (0 : Int32) < (1 : Int32))).2.1 ?_
    refine XS.aload X28.here hx rfl (bb d21_78) rfl rfl ?_
    refine XS.ifnullNo X28.here hx rfl (bb d21_80) rfl ?_
    refine XS.aload X28.here hx rfl (bb d21_83) rfl rfl ?_
    refine XS.iload X28.here hx rfl (bb d21_85) rfl ?_
    refine XS.iload X28.here hx rfl (bb d21_87) rfl ?_
    refine XS.iadd X28.here hx rfl (bb d21_89) rfl ?_
    refine XS.aloadN X28.here hx rfl (bb d21_90) rfl rfl ?_
    refine XS.iload X28.here hx rfl (bb d21_91) rfl ?_
    refine X28.iaload hx (j := (0 : Int32)) (v := (.int et0)) (by rw [e28]; exact Ar30.1) (State.isArrayOf_alike hZ.alike Ar30.2.1) Ar30.2.2 hin30 (vH30.at hin30 rfl) (g := (mkF m 93 #[vR a1, vR at_, vI 0, vI 0, vI 0, vR ov, vI 0] [(.int 0), (.ref at_), (.int 0), (.ref ov)])) rfl rfl (bb d21_93) _ ?_
    refine XS.aloadN X28.here hx rfl (bb d21_94) rfl rfl ?_
    refine st31 _ ?_
    refine XS.iloadN X31.here hx rfl (bb d21_98) rfl ?_
    refine XS.aloadN X31.here hx rfl (bb d21_99) rfl rfl ?_
    refine st33 _ ?_
    refine XS.imul X33.here hx rfl (bb d21_103) rfl ?_
    refine XS.iload X33.here hx rfl (bb d21_104) rfl ?_
    refine XS.iadd X33.here hx rfl (bb d21_106) rfl ?_
    refine X33.iaload hx (j := (0 : Int32)) (v := (.int (f_base et0 et0))) (by rw [e33]; exact Ar35.1) (State.isArrayOf_alike hZ.alike Ar35.2.1) Ar35.2.2 hin35 (vH35.at hin35 rfl) (g := (mkF m 107 #[vR a1, vR at_, vI 0, vI 0, vI 0, vR ov, vI 0] [(.int 0), (.ref ob), (.int et0), (.int 0), (.ref ov)])) rfl rfl (bb d21_107) _ ?_
    refine XS.isub X33.here hx rfl (bb d21_108) rfl ?_
    refine XS.i2c X33.here hx rfl (bb d21_109) rfl ?_
    refine st37 _ ?_
    refine XS.goto X37.here hx rfl (pc0 := 111) (pc' := 130) rfl (bb d21_111) (by decide) (by decide) ?_
    refine XS.iinc X37.here hx rfl (bb d21_130) rfl (l' := #[vR a1, vR at_, vI 0, vI 0, vI 0, vR ov, vI 1]) rfl ?_
    refine XS.goto X37.here hx rfl (pc0 := 133) (pc' := 69) rfl (bb d21_133) (by decide) (by decide) ?_
    refine XS.iload X37.here hx rfl (bb d21_69) rfl ?_
    refine XS.aloadN X37.here hx rfl (bb d21_71) rfl rfl ?_
    refine st38 _ ?_
    refine XS.icmpYes X38.here hx rfl (pc0 := 75) (pc' := 136) rfl (bb d21_75) rfl (flt (by decide : ¬ ((1 : Int32) < (1 : Int32)))).2.1 (by decide) (by decide) ?_
    refine XS.aloadN X38.here hx rfl (bb d21_136) rfl rfl ?_
    refine XS.dup X38.here hx rfl (bb d21_137) rfl rfl ?_
    refine st40 _ ?_
    refine XS.iconst X40.here hx rfl (bb d21_141) ?_
    refine XS.iadd X40.here hx rfl (bb d21_142) rfl ?_
    refine st42 _ ?_
    exact X42.returnOut hx Bd.returns (bb d21_146) hr
  · show Q_add1N0 Z wDE a1 at_ ow on ob ol oh ov kw_ kn_ kb_ kl_ kh_ kv_ eb0 el0 eu0 ex0 ex1 ex2 ex3 ex4 ex5 ex6 ex7 kt_ et0 h0 n0 _ T42.heap _
    rw [e42]
    exact ⟨rfl, N42, (((((Keep.refl h0 [a1, ob, ol, oh, ov]).trans K4 (allS (Or.inl (List.mem_of_getElem? (i := 1) rfl)) (allS (Or.inl (List.mem_of_getElem? (i := 2) rfl)) (allS (Or.inl (List.mem_of_getElem? (i := 3) rfl)) all0)))).trans K16 (allS (Or.inl (List.mem_of_getElem? (i := 2) rfl)) (allS (Or.inl (List.mem_of_getElem? (i := 3) rfl)) all0))).wr W37 (Or.inl (List.mem_of_getElem? (i := 4) rfl))).wr W42 (Or.inl (List.mem_of_getElem? (i := 0) rfl))), F44, F45, Fw42, F46, F47, F48, F49, F50, F51, r9, F52, r11, F53, F54, F55, (by have q := F56; (try simp only [own_c1] at q); exact q)⟩
def Q_add1N1 (Z : State) (wDE a1 at_ ow on ob ol oh ov : Addr) (kw_ kn_ kb_ kl_ kh_ kv_ : ClassId) (eb0 el0 eu0 ev0_0 ex1 ex2 ex3 ex4 ex5 ex6 ex7 : Int32) (kt_ : ClassId) (et0 : Int32) (h0 : Heap) (n0 : Nat) (v : Option Value) (h : Heap) (L : List Loc) : Prop := v = none ∧ Fr n0 L ∧ Keep h0 h [a1, ob, ol, oh, ov] ∧ Exa Z h a1 cRV ∧ Fld Z h a1 cRV "arity" "I" (.int 1) ∧ Fld Z h a1 cRV "rows" "I" (.int 2) ∧ Fld Z h a1 cRV "wide" "[[I" (.ref ow) ∧ Fld Z h a1 cRV "narrow" "[[C" (.ref on) ∧ Fld Z h a1 cRV "bases" "[I" (.ref ob) ∧ Fld Z h a1 cRV "lowest" "[I" (.ref ol) ∧ Fld Z h a1 cRV "highest" "[I" (.ref oh) ∧ Arv Z h ow kw_ (.array .int) (1 : Int32) [.null] .null ∧ OvrA Z kw_ .int "[I" ∧ Arv Z h on kn_ (.array .char) (1 : Int32) [(.ref ov)] .null ∧ OvrA Z kn_ .char "[C" ∧ Arv Z h ob kb_ .int (1 : Int32) [(.int (nbase eb0 el0 eu0 et0))] (.int 0) ∧ Arv Z h ol kl_ .int (1 : Int32) [(.int (f_minI et0 el0))] (.int 0) ∧ Arv Z h oh kh_ .int (1 : Int32) [(.int (f_maxI et0 eu0))] (.int 0) ∧ Arv Z h ov kv_ .char (8 : Int32) [(.int (nar .char (ev0_0 - (nbase eb0 el0 eu0 et0)))), (.int (nar .char (et0 - (nbase eb0 el0 eu0 et0)))), (.int ex2), (.int ex3), (.int ex4), (.int ex5), (.int ex6), (.int ex7)] (.int 0)
set_option maxRecDepth 65536 in
set_option maxHeartbeats 40000000 in
theorem rm_add1N1 (l : Launch) (Z : State) (a0 : Array Value) (hw : ∀ d ∈ tables_1, d.before a0 Z = true) (ws : List Jvm.Cond) (wDE : Addr) (a1 at_ ow on ob ol oh ov : Addr) (kw_ kn_ kb_ kl_ kh_ kv_ : ClassId) (eb0 el0 eu0 ev0_0 ex1 ex2 ex3 ex4 ex5 ex6 ex7 : Int32) (kt_ : ClassId) (et0 : Int32) (h0 : Heap) (n0 : Nat) (Z0 : n0 ≤ h0.size) (S_wDE : Sta Z Z.heap "java/util/ArrayList" "DEFAULTCAPACITY_EMPTY_ELEMENTDATA" "[Ljava/lang/Object;" (.ref wDE)) (O0 : Old Z n0 h0) (S_CS : Sta Z Z.heap cRV "CHUNK_SHIFT" "I" (.int (12 : Int32))) (r0 : Exa Z h0 a1 cRV) (r1 : Fld Z h0 a1 cRV "arity" "I" (.int 1)) (r2 : Fld Z h0 a1 cRV "rows" "I" (.int 1)) (r3 : Fld Z h0 a1 cRV "wide" "[[I" (.ref ow)) (r4 : Fld Z h0 a1 cRV "narrow" "[[C" (.ref on)) (r5 : Fld Z h0 a1 cRV "bases" "[I" (.ref ob)) (r6 : Fld Z h0 a1 cRV "lowest" "[I" (.ref ol)) (r7 : Fld Z h0 a1 cRV "highest" "[I" (.ref oh)) (r8 : Arv Z h0 ow kw_ (.array .int) (1 : Int32) [.null] .null) (r9 : OvrA Z kw_ .int "[I") (r10 : Arv Z h0 on kn_ (.array .char) (1 : Int32) [(.ref ov)] .null) (r11 : OvrA Z kn_ .char "[C") (r12 : Arv Z h0 ob kb_ .int (1 : Int32) [(.int eb0)] (.int 0)) (r13 : Arv Z h0 ol kl_ .int (1 : Int32) [(.int el0)] (.int 0)) (r14 : Arv Z h0 oh kh_ .int (1 : Int32) [(.int eu0)] (.int 0)) (r15 : Arv Z h0 ov kv_ .char (8 : Int32) [(.int (nar .char (ev0_0 - eb0))), (.int ex1), (.int ex2), (.int ex3), (.int ex4), (.int ex5), (.int ex6), (.int ex7)] (.int 0)) (r16 : Arv Z h0 at_ kt_ .int (1 : Int32) [(.int et0)] (.int 0)) (g_a1 : n0 ≤ a1) (g_ob : n0 ≤ ob) (g_ol : n0 ≤ ol) (g_oh : n0 ≤ oh) (g_ov : n0 ≤ ov) (ne_a1_ow : a1 ≠ ow) (ne_a1_on : a1 ≠ on) (ne_a1_ob : a1 ≠ ob) (ne_a1_ol : a1 ≠ ol) (ne_a1_oh : a1 ≠ oh) (ne_a1_ov : a1 ≠ ov) (ne_ow_on : ow ≠ on) (ne_ow_ob : ow ≠ ob) (ne_ow_ol : ow ≠ ol) (ne_ow_oh : ow ≠ oh) (ne_ow_ov : ow ≠ ov) (ne_on_ob : on ≠ ob) (ne_on_ol : on ≠ ol) (ne_on_oh : on ≠ oh) (ne_on_ov : on ≠ ov) (ne_ob_ol : ob ≠ ol) (ne_ob_oh : ob ≠ oh) (ne_ob_ov : ob ≠ ov) (ne_ol_oh : ol ≠ oh) (ne_ol_ov : ol ≠ ov) (ne_oh_ov : oh ≠ ov) (ne_at__a1 : at_ ≠ a1) (ne_at__ow : at_ ≠ ow) (ne_at__on : at_ ≠ on) (ne_at__ob : at_ ≠ ob) (ne_at__ol : at_ ≠ ol) (ne_at__oh : at_ ≠ oh) (ne_at__ov : at_ ≠ ov) (hs0 : (lcmpW (((f_maxI et0 eu0).toInt64) - ((f_minI et0 el0).toInt64)) (65536 : Int64)) < (0 : Int32)) :
    MetFree l (⟨cRV, "add", "([I)V"⟩ : MethodName) (head1 (Jvm.Cond.code (⟨cRV, "add", "([I)V"⟩ : MethodName) prog_48_method_4_code 7 none :: ws) ({ frames := 3, cells := 1, slots := 8, locals := 58 } : Room)) (fun a U => a = #[(.ref a1), (.ref at_)] ∧ Z.Warmed39 U.vm ∧ U.heap = h0) (fun _ _ _ _ _ => True) (fun _ U o U' => ∃ v L, o = .returned v ∧ Q_add1N1 Z wDE a1 at_ ow on ob ol oh ov kw_ kn_ kb_ kl_ kh_ kv_ eb0 el0 eu0 ev0_0 ex1 ex2 ex3 ex4 ex5 ex6 ex7 kt_ et0 h0 n0 v U'.heap L ∧ FrameEnd U o U' L ({ frames := 3, cells := 1, slots := 8, locals := 58 } : Room).cells ({ frames := 3, cells := 1, slots := 8, locals := 58 } : Room).slots) := by
  refine MetFree.of_bodySF (plainFor_of_name pn_RowValues) hisR ?_
  intro p e s m args below meth c s₁ Bd hml0 hP hK
  obtain ⟨rfl, hZ, hh⟩ := hP
  have hx := Bd.exec
  have hby := Bd.bytes
  have bb := fun {pc : Nat} {r : Except DecodeError (Instr × Nat)} (h : decode prog_48_method_4_code pc = r) => hb hby h
  have ww := fun (i : Nat) {d : Jvm.Cond} (h : tables_1[i]? = some d) => hw d (List.mem_of_getElem? h)
  have hml : c.maxLocals = 7 := hml0
  have hown : s.vm.findClass cRV = some m.cls := findClass_of_methodNamed Bd.named
  have hnm := (name_of_methodNamed Bd.named Bd.method).1
  have X0 : Stand p l e ({ frames := 3, cells := 1, slots := 8, locals := 58 } : Room) s m #[(.ref a1), (.ref at_)] below meth c s₁ [] 0 0 := Stand.of_body Bd
  have e0 : s₁.heap = h0 := by rw [← hh, Bd.state]; rfl
  have N0 := Fr.nil n0
  have pre0 : ∀ t, Steps p.tables e below (s₁.setTop (mkF m 0 #[vR a1, vR at_, .unset, .unset, .unset, .unset, .unset] [])) t → Steps p.tables e below (s₁.setTop (entryFrame m #[(.ref a1), (.ref at_)] 7)) t := fun t k => castTop (ef_add1N1 m a1 at_) k
  obtain ⟨T1, X1, e1, st1⟩ := getF X0 hx hZ hown (host := "") (Or.inl (ww 162 rfl)) Via.refl e0 r2 (g := (mkF m 1 #[vR a1, vR at_, .unset, .unset, .unset, .unset, .unset] [(.ref a1)])) rfl rfl (bb d21_1)
  obtain ⟨T2, X2, e2, st2⟩ := getS2 X1 hx hZ hown (host := "") (Or.inl (ww 164 rfl)) Via.refl e1 (S_CS.ext O0.2) (g := (mkF m 4 #[vR a1, vR at_, .unset, .unset, .unset, .unset, .unset] [(.int 1)])) rfl (bb d21_4)
  obtain ⟨T3, X3, e3, st3⟩ := getF X2 hx hZ hown (host := "") (Or.inl (ww 162 rfl)) Via.refl e2 r2 (g := (mkF m 10 #[vR a1, vR at_, vI 0, .unset, .unset, .unset, .unset] [(.ref a1)])) rfl rfl (bb d21_10)
  obtain ⟨cq4, q4, q4'⟩ := (r0).cell
  obtain ⟨_, _, ⟨T4, L4, k4, n4⟩, -, X4, ⟨Lc4, hQ4, l4, y4, z4⟩, st4⟩ := X3.privateBack hx (y := (⟨cRV, "makeRoom", "(II)V"⟩ : MethodName)) hown (mvT hZ (ww 184 rfl)) (mvT hZ (ww 185 rfl)) (own_sel (mvT hZ (ww 61 rfl)) (mvT hZ (ww 185 rfl)) (mvP hZ (ww 186 rfl)) (by decide)) (Cond.privateMethod_at (mvP hZ (ww 186 rfl) (args := #[]))) (mvT hZ (ww 187 rfl)) (by decide) (backOf (W := 0) (rm_room1N1 l Z a0 hw [] wDE a1 ow on ob ol oh ov kw_ kn_ kb_ kl_ kh_ kv_ eb0 el0 eu0 ev0_0 ex1 ex2 ex3 ex4 ex5 ex6 ex7 h0 n0 (own_z0 O0) S_wDE O0 S_CS r0 r1 r3 r4 r8 r10 r15) hZ (ww 187 rfl) (ww 62 rfl) (by decide) (by decide)) (g := (mkF m 31 #[vR a1, vR at_, vI 0, vI 1, .unset, .unset, .unset] [(.int 1), (.int 0), (.ref a1)])) rfl (by rw [hml]; rfl) (Steps.refl _) (a := a1) (by rw [e3]; exact q4) q4' (argsL := [(.int 0), (.int 1)]) (rest := []) (lenOf pd__II_V_5 rfl) rfl (by show 2 * 0 + _ ≤ _; exact Nat.le_of_eq rfl) (bb d21_31) (fun _ _ => ⟨rfl, e3, (by decide : 0 + 0 ≤ _), (by decide : 0 + 0 ≤ _)⟩)
  dsimp only [Pt.U, Pt.locs, Pt.cells, Pt.slots] at X4 l4 y4 z4 st4 hQ4
  subst l4 y4 z4
  obtain ⟨rfl, N4q, e4⟩ := hQ4
  have N4 := Fr.app N0 N4q
  obtain ⟨T5, X5, e5, st5⟩ := getF X4 hx hZ hown (host := "") (Or.inl (ww 73 rfl)) Via.refl e4 r4 (g := (mkF m 35 #[vR a1, vR at_, vI 0, vI 1, .unset, .unset, .unset] [(.ref a1)])) rfl rfl (bb d21_35)
  obtain ⟨cl6, Ar6, vq6, vS6, vN6, vH6, vG6⟩ := id r10
  have hin6 : ¬ (((0 : Int32) : Int32) < 0 ∨ cl6.slots.size ≤ ((0 : Int32) : Int32).toNatClampNeg) := inb_of vS6 ⟨by decide, by decide⟩
  obtain ⟨cq7, q7, q7'⟩ := (r0).cell
  obtain ⟨_, _, ⟨T7, L7, k7, n7⟩, -, X7, ⟨Lc7, hQ7, l7, y7, z7⟩, st7⟩ := X5.privateBack hx (y := (⟨cRV, "fit", "(II[I)V"⟩ : MethodName)) hown (mvT hZ (ww 191 rfl)) (mvT hZ (ww 192 rfl)) (own_sel (mvT hZ (ww 61 rfl)) (mvT hZ (ww 192 rfl)) (mvP hZ (ww 193 rfl)) (by decide)) (Cond.privateMethod_at (mvP hZ (ww 193 rfl) (args := #[]))) (mvT hZ (ww 194 rfl)) (by decide) (backOf (W := 0) (rm_fit1_1 l Z a0 hw [] wDE a1 at_ ow on ob ol oh ov kw_ kn_ kb_ kl_ kh_ kv_ eb0 el0 eu0 ev0_0 ex1 ex2 ex3 ex4 ex5 ex6 ex7 kt_ et0 h0 n0 (own_z0 O0) S_wDE O0 S_CS r0 r1 r2 r3 r4 r5 r6 r7 r8 r9 r10 r11 r12 r13 r14 r15 r16 g_ob g_ol g_oh g_ov ne_a1_ow ne_a1_on ne_a1_ob ne_a1_ol ne_a1_oh ne_a1_ov ne_ow_on ne_ow_ob ne_ow_ol ne_ow_oh ne_ow_ov ne_on_ob ne_on_ol ne_on_oh ne_on_ov ne_ob_ol ne_ob_oh ne_ob_ov ne_ol_oh ne_ol_ov ne_oh_ov ne_at__a1 ne_at__ow ne_at__on ne_at__ob ne_at__ol ne_at__oh ne_at__ov hs0) hZ (ww 194 rfl) (ww 62 rfl) (by decide) (by decide)) (g := (mkF m 47 #[vR a1, vR at_, vI 0, vI 1, .unset, .unset, .unset] [(.ref at_), (.int 1), (.int 0), (.ref a1)])) rfl (by rw [hml]; rfl) (Steps.refl _) (a := a1) (by rw [e5]; exact q7) q7' (argsL := [(.int 0), (.int 1), (.ref at_)]) (rest := []) (lenOf pd__II_I_V_7 rfl) rfl (by show 2 * 0 + _ ≤ _; exact Nat.le_of_eq rfl) (bb d21_47) (fun _ _ => ⟨rfl, e5, (by decide : 0 + 0 ≤ _), (by decide : 0 + 0 ≤ _)⟩)
  dsimp only [Pt.U, Pt.locs, Pt.cells, Pt.slots] at X7 l7 y7 z7 st7 hQ7
  subst l7 y7 z7
  obtain ⟨rfl, N7q, K7, f7_0, f7_1, f7_2, f7_3⟩ := hQ7
  have N7 := Fr.app N4 N7q
  have F9 := (r1.keep K7 (ninS ne_a1_ob (ninS ne_a1_ol (ninS ne_a1_oh (ninS ne_a1_ov nin0)))))
  obtain ⟨T8, X8, e8, st8⟩ := getF X7 hx hZ hown (host := "") (Or.inl (ww 75 rfl)) Via.refl rfl F9 (g := (mkF m 52 #[vR a1, vR at_, vI 0, vI 1, .unset, .unset, .unset] [(.ref a1), (.int 1)])) rfl rfl (bb d21_52)
  have F11 := (r4.keep K7 (ninS ne_a1_ob (ninS ne_a1_ol (ninS ne_a1_oh (ninS ne_a1_ov nin0)))))
  obtain ⟨T10, X10, e10, st10⟩ := getF X8 hx hZ hown (host := "") (Or.inl (ww 73 rfl)) Via.refl e8 F11 (g := (mkF m 59 #[vR a1, vR at_, vI 0, vI 1, vI 1, .unset, .unset] [(.ref a1)])) rfl rfl (bb d21_59)
  have F12 := (r10.keep K7 (ninS ne_on_ob (ninS ne_on_ol (ninS ne_on_oh (ninS ne_on_ov nin0)))))
  obtain ⟨cl13, Ar13, vq13, vS13, vN13, vH13, vG13⟩ := id F12
  have hin13 : ¬ (((0 : Int32) : Int32) < 0 ∨ cl13.slots.size ≤ ((0 : Int32) : Int32).toNatClampNeg) := inb_of vS13 ⟨by decide, by decide⟩
  obtain ⟨T14, X14, e14, st14⟩ := getF X10 hx hZ hown (host := "") (Or.inl (ww 75 rfl)) Via.refl e10 F9 (g := (mkF m 72 #[vR a1, vR at_, vI 0, vI 1, vI 1, vR ov, vI 0] [(.ref a1), (.int 0)])) rfl rfl (bb d21_72)
  have F15 := (r16.keep K7 (ninS ne_at__ob (ninS ne_at__ol (ninS ne_at__oh (ninS ne_at__ov nin0)))))
  obtain ⟨cl16, Ar16, vq16, vS16, vN16, vH16, vG16⟩ := id F15
  have hin16 : ¬ (((0 : Int32) : Int32) < 0 ∨ cl16.slots.size ≤ ((0 : Int32) : Int32).toNatClampNeg) := inb_of vS16 ⟨by decide, by decide⟩
  have F18 := (r5.keep K7 (ninS ne_a1_ob (ninS ne_a1_ol (ninS ne_a1_oh (ninS ne_a1_ov nin0)))))
  obtain ⟨T17, X17, e17, st17⟩ := getF X14 hx hZ hown (host := "") (Or.inl (ww 77 rfl)) Via.refl e14 F18 (g := (mkF m 95 #[vR a1, vR at_, vI 0, vI 1, vI 1, vR ov, vI 0] [(.ref a1), (.int et0), (.int 1), (.ref ov)])) rfl rfl (bb d21_95)
  obtain ⟨T19, X19, e19, st19⟩ := getF X17 hx hZ hown (host := "") (Or.inl (ww 75 rfl)) Via.refl e17 F9 (g := (mkF m 100 #[vR a1, vR at_, vI 0, vI 1, vI 1, vR ov, vI 0] [(.ref a1), (.int 0), (.ref ob), (.int et0), (.int 1), (.ref ov)])) rfl rfl (bb d21_100)
  obtain ⟨cl20, Ar20, vq20, vS20, vN20, vH20, vG20⟩ := id f7_2
  have hin20 : ¬ (((0 : Int32) : Int32) < 0 ∨ cl20.slots.size ≤ ((0 : Int32) : Int32).toNatClampNeg) := inb_of vS20 ⟨by decide, by decide⟩
  obtain ⟨cl21, Ar21, vq21, vS21, vN21, vH21, vG21⟩ := id f7_3
  have hin21 : ¬ (((1 : Int32) : Int32) < 0 ∨ cl21.slots.size ≤ ((1 : Int32) : Int32).toNatClampNeg) := inb_of vS21 ⟨by decide, by decide⟩
  obtain ⟨T21, h21, X21, e21, W21, st21⟩ := stC X19 hx hZ e19 Ar21 (j := (1 : Int32)) hin21 (g := (mkF m 110 #[vR a1, vR at_, vI 0, vI 1, vI 1, vR ov, vI 0] [(.int ((et0 - (nbase eb0 el0 eu0 et0)).toUInt32.toUInt16.toUInt32.toInt32)), (.int 1), (.ref ov)])) rfl rfl (bb d21_110)
  have V21 : Arv Z h21 ov kv_ .char (8 : Int32) [(.int (nar .char (ev0_0 - (nbase eb0 el0 eu0 et0)))), (.int (nar .char ((et0 - (nbase eb0 el0 eu0 et0)).toUInt32.toUInt16.toUInt32.toInt32))), (.int ex2), (.int ex3), (.int ex4), (.int ex5), (.int ex6), (.int ex7)] (.int 0) := Arv.set Ar21 vq21 vS21 vN21 vH21 vG21 (fits_nar_char _) W21 1 rfl (Nat.le_of_ble_eq_true rfl)
  have N21 := Fr.snoc X21 N7 g_ov
  have F23 := (F9.other W21 (Or.inl ne_a1_ov))
  obtain ⟨T22, X22, e22, st22⟩ := getF X21 hx hZ hown (host := "") (Or.inl (ww 75 rfl)) Via.refl e21 F23 (g := (mkF m 72 #[vR a1, vR at_, vI 0, vI 1, vI 1, vR ov, vI 1] [(.ref a1), (.int 1)])) rfl rfl (bb d21_72)
  have F25 := ((r2.keep K7 (ninS ne_a1_ob (ninS ne_a1_ol (ninS ne_a1_oh (ninS ne_a1_ov nin0))))).other W21 (Or.inl ne_a1_ov))
  obtain ⟨T24, X24, e24, st24⟩ := getF X22 hx hZ hown (host := "") (Or.inl (ww 162 rfl)) Via.refl e22 F25 (g := (mkF m 138 #[vR a1, vR at_, vI 0, vI 1, vI 1, vR ov, vI 1] [(.ref a1), (.ref a1)])) rfl rfl (bb d21_138)
  have F27 := ((r0.keep K7).wr W21)
  obtain ⟨T26, h26, X26, e26, W26, st26⟩ := putF X24 hx hZ hown (host := "") (Or.inl (ww 162 rfl)) Via.refl e24 F25 F27 (Or.inl (ww 163 rfl)) (ww 61 rfl) (ty := .int) (by decide) rfl rfl (g := (mkF m 143 #[vR a1, vR at_, vI 0, vI 1, vI 1, vR ov, vI 1] [(.int 2), (.ref a1)])) rfl rfl (bb d21_143)
  have Fw26 := F25.same W26
  have N26 := Fr.snoc X26 N21 g_a1
  have F28 := (F27.wr W26)
  have F29 := (F23.other W26 (Or.inr (slot_ne (Or.inr (ww 76 rfl)) (Or.inl (ww 163 rfl)) (by decide) (t := .int) (t' := .int) (by decide) (by decide))))
  have F30 := (((r3.keep K7 (ninS ne_a1_ob (ninS ne_a1_ol (ninS ne_a1_oh (ninS ne_a1_ov nin0))))).other W21 (Or.inl ne_a1_ov)).other W26 (Or.inr (slot_ne (Or.inl (ww 70 rfl)) (Or.inl (ww 163 rfl)) (by decide) (t := (.array (.array .int))) (t' := .int) (by decide) (by decide))))
  have F31 := ((F11.other W21 (Or.inl ne_a1_ov)).other W26 (Or.inr (slot_ne (Or.inl (ww 74 rfl)) (Or.inl (ww 163 rfl)) (by decide) (t := (.array (.array .char))) (t' := .int) (by decide) (by decide))))
  have F32 := ((F18.other W21 (Or.inl ne_a1_ov)).other W26 (Or.inr (slot_ne (Or.inl (ww 78 rfl)) (Or.inl (ww 163 rfl)) (by decide) (t := (.array .int)) (t' := .int) (by decide) (by decide))))
  have F33 := (((r6.keep K7 (ninS ne_a1_ob (ninS ne_a1_ol (ninS ne_a1_oh (ninS ne_a1_ov nin0))))).other W21 (Or.inl ne_a1_ov)).other W26 (Or.inr (slot_ne (Or.inr (ww 80 rfl)) (Or.inl (ww 163 rfl)) (by decide) (t := (.array .int)) (t' := .int) (by decide) (by decide))))
  have F34 := (((r7.keep K7 (ninS ne_a1_ob (ninS ne_a1_ol (ninS ne_a1_oh (ninS ne_a1_ov nin0))))).other W21 (Or.inl ne_a1_ov)).other W26 (Or.inr (slot_ne (Or.inr (ww 82 rfl)) (Or.inl (ww 163 rfl)) (by decide) (t := (.array .int)) (t' := .int) (by decide) (by decide))))
  have F35 := (((r8.keep K7 (ninS ne_ow_ob (ninS ne_ow_ol (ninS ne_ow_oh (ninS ne_ow_ov nin0))))).other W21 ne_ow_ov).other W26 (Ne.symm ne_a1_ow))
  have F36 := ((F12.other W21 ne_on_ov).other W26 (Ne.symm ne_a1_on))
  have F37 := ((f7_2.other W21 ne_ob_ov).other W26 (Ne.symm ne_a1_ob))
  have F38 := ((f7_0.other W21 ne_ol_ov).other W26 (Ne.symm ne_a1_ol))
  have F39 := ((f7_1.other W21 ne_oh_ov).other W26 (Ne.symm ne_a1_oh))
  have F40 := (V21.other W26 (Ne.symm ne_a1_ov))
  obtain ⟨fs, hr, hrun, hended, hW, hsame⟩ := X26.leave (v := none) (fun _ => rfl)
  refine ⟨_, _, pre0 _ ?_, hrun, hended, _, _, rfl, ?_, ⟨_, rfl⟩, hW, hsame.mono (by decide) (by decide)⟩
  · show GG p e below s₁ (mkF m 0 #[vR a1, vR at_, .unset, .unset, .unset, .unset, .unset] []) _
    refine XS.aloadN X0.here hx rfl (bb d21_0) rfl rfl ?_
    refine st1 _ ?_
    refine st2 _ ?_
    refine XS.iushr X2.here hx rfl (bb d21_7) rfl ?_
    refine XS.istoreN X2.here hx rfl (bb d21_8) rfl (l' := #[vR a1, vR at_, vI 0, .unset, .unset, .unset, .unset]) rfl ?_
    refine XS.aloadN X2.here hx rfl (bb d21_9) rfl rfl ?_
    refine st3 _ ?_
    refine XS.sipush X3.here hx rfl (bb d21_13) ?_
    refine XS.iand X3.here hx rfl (bb d21_16) rfl ?_
    refine XS.istoreN X3.here hx rfl (bb d21_17) rfl (l' := #[vR a1, vR at_, vI 0, vI 1, .unset, .unset, .unset]) rfl ?_
    refine XS.iloadN X3.here hx rfl (bb d21_18) rfl ?_
    refine XS.ifYes X3.here hx rfl (pc0 := 19) (pc' := 28) rfl (bb d21_19) rfl ((if0 _ _).trans (feq (by decide : ¬ ((1 : Int32) = (0 : Int32)))).2) (by decide) (by decide) ?_
    refine XS.aloadN X3.here hx rfl (bb d21_28) rfl rfl ?_
    refine XS.iloadN X3.here hx rfl (bb d21_29) rfl ?_
    refine XS.iloadN X3.here hx rfl (bb d21_30) rfl ?_
    refine st4.trans ?_
    refine XS.aloadN X4.here hx rfl (bb d21_34) rfl rfl ?_
    refine st5 _ ?_
    refine XS.iloadN X5.here hx rfl (bb d21_38) rfl ?_
    refine X5.aaload hx (j := (0 : Int32)) (v := (.ref ov)) (by rw [e5]; exact Ar6.1) (State.isArrayOf_alike hZ.alike Ar6.2.1) rfl Ar6.2.2 hin6 (vH6.at hin6 rfl) (g := (mkF m 39 #[vR a1, vR at_, vI 0, vI 1, .unset, .unset, .unset] [(.int 0), (.ref on)])) rfl rfl (bb d21_39) _ ?_
    refine XS.ifnullNo X5.here hx rfl (bb d21_40) rfl ?_
    refine XS.aloadN X5.here hx rfl (bb d21_43) rfl rfl ?_
    refine XS.iloadN X5.here hx rfl (bb d21_44) rfl ?_
    refine XS.iloadN X5.here hx rfl (bb d21_45) rfl ?_
    refine XS.aloadN X5.here hx rfl (bb d21_46) rfl rfl ?_
    refine st7.trans ?_
    refine XS.iloadN X7.here hx rfl (bb d21_50) rfl ?_
    refine XS.aloadN X7.here hx rfl (bb d21_51) rfl rfl ?_
    refine st8 _ ?_
    refine XS.imul X8.here hx rfl (bb d21_55) rfl ?_
    refine XS.istore X8.here hx rfl (bb d21_56) rfl (l' := #[vR a1, vR at_, vI 0, vI 1, vI 1, .unset, .unset]) rfl ?_
    refine XS.aloadN X8.here hx rfl (bb d21_58) rfl rfl ?_
    refine st10 _ ?_
    refine XS.iloadN X10.here hx rfl (bb d21_62) rfl ?_
    refine X10.aaload hx (j := (0 : Int32)) (v := (.ref ov)) (by rw [e10]; exact Ar13.1) (State.isArrayOf_alike hZ.alike Ar13.2.1) rfl Ar13.2.2 hin13 (vH13.at hin13 rfl) (g := (mkF m 63 #[vR a1, vR at_, vI 0, vI 1, vI 1, .unset, .unset] [(.int 0), (.ref on)])) rfl rfl (bb d21_63) _ ?_
    refine XS.astore X10.here hx rfl (bb d21_64) rfl rfl (l' := #[vR a1, vR at_, vI 0, vI 1, vI 1, vR ov, .unset]) rfl ?_
    refine XS.iconst X10.here hx rfl (bb d21_66) ?_
    refine XS.istore X10.here hx rfl (bb d21_67) rfl (l' := #[vR a1, vR at_, vI 0, vI 1, vI 1, vR ov, vI 0]) rfl ?_
    refine XS.iload X10.here hx rfl (bb d21_69) rfl ?_
    refine XS.aloadN X10.here hx rfl (bb d21_71) rfl rfl ?_
    refine st14 _ ?_
    refine XS.icmpNo X14.here hx rfl (bb d21_75) rfl (tlt (by decide : (0 : Int32) < (1 : Int32))).2.1 ?_
    refine XS.aload X14.here hx rfl (bb d21_78) rfl rfl ?_
    refine XS.ifnullNo X14.here hx rfl (bb d21_80) rfl ?_
    refine XS.aload X14.here hx rfl (bb d21_83) rfl rfl ?_
    refine XS.iload X14.here hx rfl (bb d21_85) rfl ?_
    refine XS.iload X14.here hx rfl (bb d21_87) rfl ?_
    refine XS.iadd X14.here hx rfl (bb d21_89) rfl ?_
    refine XS.aloadN X14.here hx rfl (bb d21_90) rfl rfl ?_
    refine XS.iload X14.here hx rfl (bb d21_91) rfl ?_
    refine X14.iaload hx (j := (0 : Int32)) (v := (.int et0)) (by rw [e14]; exact Ar16.1) (State.isArrayOf_alike hZ.alike Ar16.2.1) Ar16.2.2 hin16 (vH16.at hin16 rfl) (g := (mkF m 93 #[vR a1, vR at_, vI 0, vI 1, vI 1, vR ov, vI 0] [(.int 0), (.ref at_), (.int 1), (.ref ov)])) rfl rfl (bb d21_93) _ ?_
    refine XS.aloadN X14.here hx rfl (bb d21_94) rfl rfl ?_
    refine st17 _ ?_
    refine XS.iloadN X17.here hx rfl (bb d21_98) rfl ?_
    refine XS.aloadN X17.here hx rfl (bb d21_99) rfl rfl ?_
    refine st19 _ ?_
    refine XS.imul X19.here hx rfl (bb d21_103) rfl ?_
    refine XS.iload X19.here hx rfl (bb d21_104) rfl ?_
    refine XS.iadd X19.here hx rfl (bb d21_106) rfl ?_
    refine X19.iaload hx (j := (0 : Int32)) (v := (.int (nbase eb0 el0 eu0 et0))) (by rw [e19]; exact Ar20.1) (State.isArrayOf_alike hZ.alike Ar20.2.1) Ar20.2.2 hin20 (vH20.at hin20 rfl) (g := (mkF m 107 #[vR a1, vR at_, vI 0, vI 1, vI 1, vR ov, vI 0] [(.int 0), (.ref ob), (.int et0), (.int 1), (.ref ov)])) rfl rfl (bb d21_107) _ ?_
    refine XS.isub X19.here hx rfl (bb d21_108) rfl ?_
    refine XS.i2c X19.here hx rfl (bb d21_109) rfl ?_
    refine st21 _ ?_
    refine XS.goto X21.here hx rfl (pc0 := 111) (pc' := 130) rfl (bb d21_111) (by decide) (by decide) ?_
    refine XS.iinc X21.here hx rfl (bb d21_130) rfl (l' := #[vR a1, vR at_, vI 0, vI 1, vI 1, vR ov, vI 1]) rfl ?_
    refine XS.goto X21.here hx rfl (pc0 := 133) (pc' := 69) rfl (bb d21_133) (by decide) (by decide) ?_
    refine XS.iload X21.here hx rfl (bb d21_69) rfl ?_
    refine XS.aloadN X21.here hx rfl (bb d21_71) rfl rfl ?_
    refine st22 _ ?_
    refine XS.icmpYes X22.here hx rfl (pc0 := 75) (pc' := 136) rfl (bb d21_75) rfl (flt (by decide : ¬ ((1 : Int32) < (1 : Int32)))).2.1 (by decide) (by decide) ?_
    refine XS.aloadN X22.here hx rfl (bb d21_136) rfl rfl ?_
    refine XS.dup X22.here hx rfl (bb d21_137) rfl rfl ?_
    refine st24 _ ?_
    refine XS.iconst X24.here hx rfl (bb d21_141) ?_
    refine XS.iadd X24.here hx rfl (bb d21_142) rfl ?_
    refine st26 _ ?_
    exact X26.returnOut hx Bd.returns (bb d21_146) hr
  · show Q_add1N1 Z wDE a1 at_ ow on ob ol oh ov kw_ kn_ kb_ kl_ kh_ kv_ eb0 el0 eu0 ev0_0 ex1 ex2 ex3 ex4 ex5 ex6 ex7 kt_ et0 h0 n0 _ T26.heap _
    rw [e26]
    exact ⟨rfl, N26, ((((Keep.refl h0 [a1, ob, ol, oh, ov]).trans K7 (allS (Or.inl (List.mem_of_getElem? (i := 1) rfl)) (allS (Or.inl (List.mem_of_getElem? (i := 2) rfl)) (allS (Or.inl (List.mem_of_getElem? (i := 3) rfl)) (allS (Or.inl (List.mem_of_getElem? (i := 4) rfl)) all0))))).wr W21 (Or.inl (List.mem_of_getElem? (i := 4) rfl))).wr W26 (Or.inl (List.mem_of_getElem? (i := 0) rfl))), F28, F29, Fw26, F30, F31, F32, F33, F34, F35, r9, F36, r11, F37, F38, F39, (by have q := F40; (try simp only [own_c1] at q); exact q)⟩
def Q_add1N2 (Z : State) (wDE a1 at_ ow on ob ol oh ov : Addr) (kw_ kn_ kb_ kl_ kh_ kv_ : ClassId) (eb0 el0 eu0 ev0_0 ev1_0 ex2 ex3 ex4 ex5 ex6 ex7 : Int32) (kt_ : ClassId) (et0 : Int32) (h0 : Heap) (n0 : Nat) (v : Option Value) (h : Heap) (L : List Loc) : Prop := v = none ∧ Fr n0 L ∧ Keep h0 h [a1, ob, ol, oh, ov] ∧ Exa Z h a1 cRV ∧ Fld Z h a1 cRV "arity" "I" (.int 1) ∧ Fld Z h a1 cRV "rows" "I" (.int 3) ∧ Fld Z h a1 cRV "wide" "[[I" (.ref ow) ∧ Fld Z h a1 cRV "narrow" "[[C" (.ref on) ∧ Fld Z h a1 cRV "bases" "[I" (.ref ob) ∧ Fld Z h a1 cRV "lowest" "[I" (.ref ol) ∧ Fld Z h a1 cRV "highest" "[I" (.ref oh) ∧ Arv Z h ow kw_ (.array .int) (1 : Int32) [.null] .null ∧ OvrA Z kw_ .int "[I" ∧ Arv Z h on kn_ (.array .char) (1 : Int32) [(.ref ov)] .null ∧ OvrA Z kn_ .char "[C" ∧ Arv Z h ob kb_ .int (1 : Int32) [(.int (nbase eb0 el0 eu0 et0))] (.int 0) ∧ Arv Z h ol kl_ .int (1 : Int32) [(.int (f_minI et0 el0))] (.int 0) ∧ Arv Z h oh kh_ .int (1 : Int32) [(.int (f_maxI et0 eu0))] (.int 0) ∧ Arv Z h ov kv_ .char (8 : Int32) [(.int (nar .char (ev0_0 - (nbase eb0 el0 eu0 et0)))), (.int (nar .char (ev1_0 - (nbase eb0 el0 eu0 et0)))), (.int (nar .char (et0 - (nbase eb0 el0 eu0 et0)))), (.int ex3), (.int ex4), (.int ex5), (.int ex6), (.int ex7)] (.int 0)
set_option maxRecDepth 65536 in
set_option maxHeartbeats 40000000 in
theorem rm_add1N2 (l : Launch) (Z : State) (a0 : Array Value) (hw : ∀ d ∈ tables_1, d.before a0 Z = true) (ws : List Jvm.Cond) (wDE : Addr) (a1 at_ ow on ob ol oh ov : Addr) (kw_ kn_ kb_ kl_ kh_ kv_ : ClassId) (eb0 el0 eu0 ev0_0 ev1_0 ex2 ex3 ex4 ex5 ex6 ex7 : Int32) (kt_ : ClassId) (et0 : Int32) (h0 : Heap) (n0 : Nat) (Z0 : n0 ≤ h0.size) (S_wDE : Sta Z Z.heap "java/util/ArrayList" "DEFAULTCAPACITY_EMPTY_ELEMENTDATA" "[Ljava/lang/Object;" (.ref wDE)) (O0 : Old Z n0 h0) (S_CS : Sta Z Z.heap cRV "CHUNK_SHIFT" "I" (.int (12 : Int32))) (r0 : Exa Z h0 a1 cRV) (r1 : Fld Z h0 a1 cRV "arity" "I" (.int 1)) (r2 : Fld Z h0 a1 cRV "rows" "I" (.int 2)) (r3 : Fld Z h0 a1 cRV "wide" "[[I" (.ref ow)) (r4 : Fld Z h0 a1 cRV "narrow" "[[C" (.ref on)) (r5 : Fld Z h0 a1 cRV "bases" "[I" (.ref ob)) (r6 : Fld Z h0 a1 cRV "lowest" "[I" (.ref ol)) (r7 : Fld Z h0 a1 cRV "highest" "[I" (.ref oh)) (r8 : Arv Z h0 ow kw_ (.array .int) (1 : Int32) [.null] .null) (r9 : OvrA Z kw_ .int "[I") (r10 : Arv Z h0 on kn_ (.array .char) (1 : Int32) [(.ref ov)] .null) (r11 : OvrA Z kn_ .char "[C") (r12 : Arv Z h0 ob kb_ .int (1 : Int32) [(.int eb0)] (.int 0)) (r13 : Arv Z h0 ol kl_ .int (1 : Int32) [(.int el0)] (.int 0)) (r14 : Arv Z h0 oh kh_ .int (1 : Int32) [(.int eu0)] (.int 0)) (r15 : Arv Z h0 ov kv_ .char (8 : Int32) [(.int (nar .char (ev0_0 - eb0))), (.int (nar .char (ev1_0 - eb0))), (.int ex2), (.int ex3), (.int ex4), (.int ex5), (.int ex6), (.int ex7)] (.int 0)) (r16 : Arv Z h0 at_ kt_ .int (1 : Int32) [(.int et0)] (.int 0)) (g_a1 : n0 ≤ a1) (g_ob : n0 ≤ ob) (g_ol : n0 ≤ ol) (g_oh : n0 ≤ oh) (g_ov : n0 ≤ ov) (ne_a1_ow : a1 ≠ ow) (ne_a1_on : a1 ≠ on) (ne_a1_ob : a1 ≠ ob) (ne_a1_ol : a1 ≠ ol) (ne_a1_oh : a1 ≠ oh) (ne_a1_ov : a1 ≠ ov) (ne_ow_on : ow ≠ on) (ne_ow_ob : ow ≠ ob) (ne_ow_ol : ow ≠ ol) (ne_ow_oh : ow ≠ oh) (ne_ow_ov : ow ≠ ov) (ne_on_ob : on ≠ ob) (ne_on_ol : on ≠ ol) (ne_on_oh : on ≠ oh) (ne_on_ov : on ≠ ov) (ne_ob_ol : ob ≠ ol) (ne_ob_oh : ob ≠ oh) (ne_ob_ov : ob ≠ ov) (ne_ol_oh : ol ≠ oh) (ne_ol_ov : ol ≠ ov) (ne_oh_ov : oh ≠ ov) (ne_at__a1 : at_ ≠ a1) (ne_at__ow : at_ ≠ ow) (ne_at__on : at_ ≠ on) (ne_at__ob : at_ ≠ ob) (ne_at__ol : at_ ≠ ol) (ne_at__oh : at_ ≠ oh) (ne_at__ov : at_ ≠ ov) (hs0 : (lcmpW (((f_maxI et0 eu0).toInt64) - ((f_minI et0 el0).toInt64)) (65536 : Int64)) < (0 : Int32)) :
    MetFree l (⟨cRV, "add", "([I)V"⟩ : MethodName) (head1 (Jvm.Cond.code (⟨cRV, "add", "([I)V"⟩ : MethodName) prog_48_method_4_code 7 none :: ws) ({ frames := 3, cells := 1, slots := 8, locals := 58 } : Room)) (fun a U => a = #[(.ref a1), (.ref at_)] ∧ Z.Warmed39 U.vm ∧ U.heap = h0) (fun _ _ _ _ _ => True) (fun _ U o U' => ∃ v L, o = .returned v ∧ Q_add1N2 Z wDE a1 at_ ow on ob ol oh ov kw_ kn_ kb_ kl_ kh_ kv_ eb0 el0 eu0 ev0_0 ev1_0 ex2 ex3 ex4 ex5 ex6 ex7 kt_ et0 h0 n0 v U'.heap L ∧ FrameEnd U o U' L ({ frames := 3, cells := 1, slots := 8, locals := 58 } : Room).cells ({ frames := 3, cells := 1, slots := 8, locals := 58 } : Room).slots) := by
  refine MetFree.of_bodySF (plainFor_of_name pn_RowValues) hisR ?_
  intro p e s m args below meth c s₁ Bd hml0 hP hK
  obtain ⟨rfl, hZ, hh⟩ := hP
  have hx := Bd.exec
  have hby := Bd.bytes
  have bb := fun {pc : Nat} {r : Except DecodeError (Instr × Nat)} (h : decode prog_48_method_4_code pc = r) => hb hby h
  have ww := fun (i : Nat) {d : Jvm.Cond} (h : tables_1[i]? = some d) => hw d (List.mem_of_getElem? h)
  have hml : c.maxLocals = 7 := hml0
  have hown : s.vm.findClass cRV = some m.cls := findClass_of_methodNamed Bd.named
  have hnm := (name_of_methodNamed Bd.named Bd.method).1
  have X0 : Stand p l e ({ frames := 3, cells := 1, slots := 8, locals := 58 } : Room) s m #[(.ref a1), (.ref at_)] below meth c s₁ [] 0 0 := Stand.of_body Bd
  have e0 : s₁.heap = h0 := by rw [← hh, Bd.state]; rfl
  have N0 := Fr.nil n0
  have pre0 : ∀ t, Steps p.tables e below (s₁.setTop (mkF m 0 #[vR a1, vR at_, .unset, .unset, .unset, .unset, .unset] [])) t → Steps p.tables e below (s₁.setTop (entryFrame m #[(.ref a1), (.ref at_)] 7)) t := fun t k => castTop (ef_add1N2 m a1 at_) k
  obtain ⟨T1, X1, e1, st1⟩ := getF X0 hx hZ hown (host := "") (Or.inl (ww 162 rfl)) Via.refl e0 r2 (g := (mkF m 1 #[vR a1, vR at_, .unset, .unset, .unset, .unset, .unset] [(.ref a1)])) rfl rfl (bb d21_1)
  obtain ⟨T2, X2, e2, st2⟩ := getS2 X1 hx hZ hown (host := "") (Or.inl (ww 164 rfl)) Via.refl e1 (S_CS.ext O0.2) (g := (mkF m 4 #[vR a1, vR at_, .unset, .unset, .unset, .unset, .unset] [(.int 2)])) rfl (bb d21_4)
  obtain ⟨T3, X3, e3, st3⟩ := getF X2 hx hZ hown (host := "") (Or.inl (ww 162 rfl)) Via.refl e2 r2 (g := (mkF m 10 #[vR a1, vR at_, vI 0, .unset, .unset, .unset, .unset] [(.ref a1)])) rfl rfl (bb d21_10)
  obtain ⟨cq4, q4, q4'⟩ := (r0).cell
  obtain ⟨_, _, ⟨T4, L4, k4, n4⟩, -, X4, ⟨Lc4, hQ4, l4, y4, z4⟩, st4⟩ := X3.privateBack hx (y := (⟨cRV, "makeRoom", "(II)V"⟩ : MethodName)) hown (mvT hZ (ww 184 rfl)) (mvT hZ (ww 185 rfl)) (own_sel (mvT hZ (ww 61 rfl)) (mvT hZ (ww 185 rfl)) (mvP hZ (ww 186 rfl)) (by decide)) (Cond.privateMethod_at (mvP hZ (ww 186 rfl) (args := #[]))) (mvT hZ (ww 187 rfl)) (by decide) (backOf (W := 0) (rm_room1N2 l Z a0 hw [] wDE a1 ow on ob ol oh ov kw_ kn_ kb_ kl_ kh_ kv_ eb0 el0 eu0 ev0_0 ev1_0 ex2 ex3 ex4 ex5 ex6 ex7 h0 n0 (own_z0 O0) S_wDE O0 S_CS r0 r1 r3 r4 r8 r10 r15) hZ (ww 187 rfl) (ww 62 rfl) (by decide) (by decide)) (g := (mkF m 31 #[vR a1, vR at_, vI 0, vI 2, .unset, .unset, .unset] [(.int 2), (.int 0), (.ref a1)])) rfl (by rw [hml]; rfl) (Steps.refl _) (a := a1) (by rw [e3]; exact q4) q4' (argsL := [(.int 0), (.int 2)]) (rest := []) (lenOf pd__II_V_5 rfl) rfl (by show 2 * 0 + _ ≤ _; exact Nat.le_of_eq rfl) (bb d21_31) (fun _ _ => ⟨rfl, e3, (by decide : 0 + 0 ≤ _), (by decide : 0 + 0 ≤ _)⟩)
  dsimp only [Pt.U, Pt.locs, Pt.cells, Pt.slots] at X4 l4 y4 z4 st4 hQ4
  subst l4 y4 z4
  obtain ⟨rfl, N4q, e4⟩ := hQ4
  have N4 := Fr.app N0 N4q
  obtain ⟨T5, X5, e5, st5⟩ := getF X4 hx hZ hown (host := "") (Or.inl (ww 73 rfl)) Via.refl e4 r4 (g := (mkF m 35 #[vR a1, vR at_, vI 0, vI 2, .unset, .unset, .unset] [(.ref a1)])) rfl rfl (bb d21_35)
  obtain ⟨cl6, Ar6, vq6, vS6, vN6, vH6, vG6⟩ := id r10
  have hin6 : ¬ (((0 : Int32) : Int32) < 0 ∨ cl6.slots.size ≤ ((0 : Int32) : Int32).toNatClampNeg) := inb_of vS6 ⟨by decide, by decide⟩
  obtain ⟨cq7, q7, q7'⟩ := (r0).cell
  obtain ⟨_, _, ⟨T7, L7, k7, n7⟩, -, X7, ⟨Lc7, hQ7, l7, y7, z7⟩, st7⟩ := X5.privateBack hx (y := (⟨cRV, "fit", "(II[I)V"⟩ : MethodName)) hown (mvT hZ (ww 191 rfl)) (mvT hZ (ww 192 rfl)) (own_sel (mvT hZ (ww 61 rfl)) (mvT hZ (ww 192 rfl)) (mvP hZ (ww 193 rfl)) (by decide)) (Cond.privateMethod_at (mvP hZ (ww 193 rfl) (args := #[]))) (mvT hZ (ww 194 rfl)) (by decide) (backOf (W := 0) (rm_fit1_2 l Z a0 hw [] wDE a1 at_ ow on ob ol oh ov kw_ kn_ kb_ kl_ kh_ kv_ eb0 el0 eu0 ev0_0 ev1_0 ex2 ex3 ex4 ex5 ex6 ex7 kt_ et0 h0 n0 (own_z0 O0) S_wDE O0 S_CS r0 r1 r2 r3 r4 r5 r6 r7 r8 r9 r10 r11 r12 r13 r14 r15 r16 g_ob g_ol g_oh g_ov ne_a1_ow ne_a1_on ne_a1_ob ne_a1_ol ne_a1_oh ne_a1_ov ne_ow_on ne_ow_ob ne_ow_ol ne_ow_oh ne_ow_ov ne_on_ob ne_on_ol ne_on_oh ne_on_ov ne_ob_ol ne_ob_oh ne_ob_ov ne_ol_oh ne_ol_ov ne_oh_ov ne_at__a1 ne_at__ow ne_at__on ne_at__ob ne_at__ol ne_at__oh ne_at__ov hs0) hZ (ww 194 rfl) (ww 62 rfl) (by decide) (by decide)) (g := (mkF m 47 #[vR a1, vR at_, vI 0, vI 2, .unset, .unset, .unset] [(.ref at_), (.int 2), (.int 0), (.ref a1)])) rfl (by rw [hml]; rfl) (Steps.refl _) (a := a1) (by rw [e5]; exact q7) q7' (argsL := [(.int 0), (.int 2), (.ref at_)]) (rest := []) (lenOf pd__II_I_V_7 rfl) rfl (by show 2 * 0 + _ ≤ _; exact Nat.le_of_eq rfl) (bb d21_47) (fun _ _ => ⟨rfl, e5, (by decide : 0 + 0 ≤ _), (by decide : 0 + 0 ≤ _)⟩)
  dsimp only [Pt.U, Pt.locs, Pt.cells, Pt.slots] at X7 l7 y7 z7 st7 hQ7
  subst l7 y7 z7
  obtain ⟨rfl, N7q, K7, f7_0, f7_1, f7_2, f7_3⟩ := hQ7
  have N7 := Fr.app N4 N7q
  have F9 := (r1.keep K7 (ninS ne_a1_ob (ninS ne_a1_ol (ninS ne_a1_oh (ninS ne_a1_ov nin0)))))
  obtain ⟨T8, X8, e8, st8⟩ := getF X7 hx hZ hown (host := "") (Or.inl (ww 75 rfl)) Via.refl rfl F9 (g := (mkF m 52 #[vR a1, vR at_, vI 0, vI 2, .unset, .unset, .unset] [(.ref a1), (.int 2)])) rfl rfl (bb d21_52)
  have F11 := (r4.keep K7 (ninS ne_a1_ob (ninS ne_a1_ol (ninS ne_a1_oh (ninS ne_a1_ov nin0)))))
  obtain ⟨T10, X10, e10, st10⟩ := getF X8 hx hZ hown (host := "") (Or.inl (ww 73 rfl)) Via.refl e8 F11 (g := (mkF m 59 #[vR a1, vR at_, vI 0, vI 2, vI 2, .unset, .unset] [(.ref a1)])) rfl rfl (bb d21_59)
  have F12 := (r10.keep K7 (ninS ne_on_ob (ninS ne_on_ol (ninS ne_on_oh (ninS ne_on_ov nin0)))))
  obtain ⟨cl13, Ar13, vq13, vS13, vN13, vH13, vG13⟩ := id F12
  have hin13 : ¬ (((0 : Int32) : Int32) < 0 ∨ cl13.slots.size ≤ ((0 : Int32) : Int32).toNatClampNeg) := inb_of vS13 ⟨by decide, by decide⟩
  obtain ⟨T14, X14, e14, st14⟩ := getF X10 hx hZ hown (host := "") (Or.inl (ww 75 rfl)) Via.refl e10 F9 (g := (mkF m 72 #[vR a1, vR at_, vI 0, vI 2, vI 2, vR ov, vI 0] [(.ref a1), (.int 0)])) rfl rfl (bb d21_72)
  have F15 := (r16.keep K7 (ninS ne_at__ob (ninS ne_at__ol (ninS ne_at__oh (ninS ne_at__ov nin0)))))
  obtain ⟨cl16, Ar16, vq16, vS16, vN16, vH16, vG16⟩ := id F15
  have hin16 : ¬ (((0 : Int32) : Int32) < 0 ∨ cl16.slots.size ≤ ((0 : Int32) : Int32).toNatClampNeg) := inb_of vS16 ⟨by decide, by decide⟩
  have F18 := (r5.keep K7 (ninS ne_a1_ob (ninS ne_a1_ol (ninS ne_a1_oh (ninS ne_a1_ov nin0)))))
  obtain ⟨T17, X17, e17, st17⟩ := getF X14 hx hZ hown (host := "") (Or.inl (ww 77 rfl)) Via.refl e14 F18 (g := (mkF m 95 #[vR a1, vR at_, vI 0, vI 2, vI 2, vR ov, vI 0] [(.ref a1), (.int et0), (.int 2), (.ref ov)])) rfl rfl (bb d21_95)
  obtain ⟨T19, X19, e19, st19⟩ := getF X17 hx hZ hown (host := "") (Or.inl (ww 75 rfl)) Via.refl e17 F9 (g := (mkF m 100 #[vR a1, vR at_, vI 0, vI 2, vI 2, vR ov, vI 0] [(.ref a1), (.int 0), (.ref ob), (.int et0), (.int 2), (.ref ov)])) rfl rfl (bb d21_100)
  obtain ⟨cl20, Ar20, vq20, vS20, vN20, vH20, vG20⟩ := id f7_2
  have hin20 : ¬ (((0 : Int32) : Int32) < 0 ∨ cl20.slots.size ≤ ((0 : Int32) : Int32).toNatClampNeg) := inb_of vS20 ⟨by decide, by decide⟩
  obtain ⟨cl21, Ar21, vq21, vS21, vN21, vH21, vG21⟩ := id f7_3
  have hin21 : ¬ (((2 : Int32) : Int32) < 0 ∨ cl21.slots.size ≤ ((2 : Int32) : Int32).toNatClampNeg) := inb_of vS21 ⟨by decide, by decide⟩
  obtain ⟨T21, h21, X21, e21, W21, st21⟩ := stC X19 hx hZ e19 Ar21 (j := (2 : Int32)) hin21 (g := (mkF m 110 #[vR a1, vR at_, vI 0, vI 2, vI 2, vR ov, vI 0] [(.int ((et0 - (nbase eb0 el0 eu0 et0)).toUInt32.toUInt16.toUInt32.toInt32)), (.int 2), (.ref ov)])) rfl rfl (bb d21_110)
  have V21 : Arv Z h21 ov kv_ .char (8 : Int32) [(.int (nar .char (ev0_0 - (nbase eb0 el0 eu0 et0)))), (.int (nar .char (ev1_0 - (nbase eb0 el0 eu0 et0)))), (.int (nar .char ((et0 - (nbase eb0 el0 eu0 et0)).toUInt32.toUInt16.toUInt32.toInt32))), (.int ex3), (.int ex4), (.int ex5), (.int ex6), (.int ex7)] (.int 0) := Arv.set Ar21 vq21 vS21 vN21 vH21 vG21 (fits_nar_char _) W21 2 rfl (Nat.le_of_ble_eq_true rfl)
  have N21 := Fr.snoc X21 N7 g_ov
  have F23 := (F9.other W21 (Or.inl ne_a1_ov))
  obtain ⟨T22, X22, e22, st22⟩ := getF X21 hx hZ hown (host := "") (Or.inl (ww 75 rfl)) Via.refl e21 F23 (g := (mkF m 72 #[vR a1, vR at_, vI 0, vI 2, vI 2, vR ov, vI 1] [(.ref a1), (.int 1)])) rfl rfl (bb d21_72)
  have F25 := ((r2.keep K7 (ninS ne_a1_ob (ninS ne_a1_ol (ninS ne_a1_oh (ninS ne_a1_ov nin0))))).other W21 (Or.inl ne_a1_ov))
  obtain ⟨T24, X24, e24, st24⟩ := getF X22 hx hZ hown (host := "") (Or.inl (ww 162 rfl)) Via.refl e22 F25 (g := (mkF m 138 #[vR a1, vR at_, vI 0, vI 2, vI 2, vR ov, vI 1] [(.ref a1), (.ref a1)])) rfl rfl (bb d21_138)
  have F27 := ((r0.keep K7).wr W21)
  obtain ⟨T26, h26, X26, e26, W26, st26⟩ := putF X24 hx hZ hown (host := "") (Or.inl (ww 162 rfl)) Via.refl e24 F25 F27 (Or.inl (ww 163 rfl)) (ww 61 rfl) (ty := .int) (by decide) rfl rfl (g := (mkF m 143 #[vR a1, vR at_, vI 0, vI 2, vI 2, vR ov, vI 1] [(.int 3), (.ref a1)])) rfl rfl (bb d21_143)
  have Fw26 := F25.same W26
  have N26 := Fr.snoc X26 N21 g_a1
  have F28 := (F27.wr W26)
  have F29 := (F23.other W26 (Or.inr (slot_ne (Or.inr (ww 76 rfl)) (Or.inl (ww 163 rfl)) (by decide) (t := .int) (t' := .int) (by decide) (by decide))))
  have F30 := (((r3.keep K7 (ninS ne_a1_ob (ninS ne_a1_ol (ninS ne_a1_oh (ninS ne_a1_ov nin0))))).other W21 (Or.inl ne_a1_ov)).other W26 (Or.inr (slot_ne (Or.inl (ww 70 rfl)) (Or.inl (ww 163 rfl)) (by decide) (t := (.array (.array .int))) (t' := .int) (by decide) (by decide))))
  have F31 := ((F11.other W21 (Or.inl ne_a1_ov)).other W26 (Or.inr (slot_ne (Or.inl (ww 74 rfl)) (Or.inl (ww 163 rfl)) (by decide) (t := (.array (.array .char))) (t' := .int) (by decide) (by decide))))
  have F32 := ((F18.other W21 (Or.inl ne_a1_ov)).other W26 (Or.inr (slot_ne (Or.inl (ww 78 rfl)) (Or.inl (ww 163 rfl)) (by decide) (t := (.array .int)) (t' := .int) (by decide) (by decide))))
  have F33 := (((r6.keep K7 (ninS ne_a1_ob (ninS ne_a1_ol (ninS ne_a1_oh (ninS ne_a1_ov nin0))))).other W21 (Or.inl ne_a1_ov)).other W26 (Or.inr (slot_ne (Or.inr (ww 80 rfl)) (Or.inl (ww 163 rfl)) (by decide) (t := (.array .int)) (t' := .int) (by decide) (by decide))))
  have F34 := (((r7.keep K7 (ninS ne_a1_ob (ninS ne_a1_ol (ninS ne_a1_oh (ninS ne_a1_ov nin0))))).other W21 (Or.inl ne_a1_ov)).other W26 (Or.inr (slot_ne (Or.inr (ww 82 rfl)) (Or.inl (ww 163 rfl)) (by decide) (t := (.array .int)) (t' := .int) (by decide) (by decide))))
  have F35 := (((r8.keep K7 (ninS ne_ow_ob (ninS ne_ow_ol (ninS ne_ow_oh (ninS ne_ow_ov nin0))))).other W21 ne_ow_ov).other W26 (Ne.symm ne_a1_ow))
  have F36 := ((F12.other W21 ne_on_ov).other W26 (Ne.symm ne_a1_on))
  have F37 := ((f7_2.other W21 ne_ob_ov).other W26 (Ne.symm ne_a1_ob))
  have F38 := ((f7_0.other W21 ne_ol_ov).other W26 (Ne.symm ne_a1_ol))
  have F39 := ((f7_1.other W21 ne_oh_ov).other W26 (Ne.symm ne_a1_oh))
  have F40 := (V21.other W26 (Ne.symm ne_a1_ov))
  obtain ⟨fs, hr, hrun, hended, hW, hsame⟩ := X26.leave (v := none) (fun _ => rfl)
  refine ⟨_, _, pre0 _ ?_, hrun, hended, _, _, rfl, ?_, ⟨_, rfl⟩, hW, hsame.mono (by decide) (by decide)⟩
  · show GG p e below s₁ (mkF m 0 #[vR a1, vR at_, .unset, .unset, .unset, .unset, .unset] []) _
    refine XS.aloadN X0.here hx rfl (bb d21_0) rfl rfl ?_
    refine st1 _ ?_
    refine st2 _ ?_
    refine XS.iushr X2.here hx rfl (bb d21_7) rfl ?_
    refine XS.istoreN X2.here hx rfl (bb d21_8) rfl (l' := #[vR a1, vR at_, vI 0, .unset, .unset, .unset, .unset]) rfl ?_
    refine XS.aloadN X2.here hx rfl (bb d21_9) rfl rfl ?_
    refine st3 _ ?_
    refine XS.sipush X3.here hx rfl (bb d21_13) ?_
    refine XS.iand X3.here hx rfl (bb d21_16) rfl ?_
    refine XS.istoreN X3.here hx rfl (bb d21_17) rfl (l' := #[vR a1, vR at_, vI 0, vI 2, .unset, .unset, .unset]) rfl ?_
    refine XS.iloadN X3.here hx rfl (bb d21_18) rfl ?_
    refine XS.ifYes X3.here hx rfl (pc0 := 19) (pc' := 28) rfl (bb d21_19) rfl ((if0 _ _).trans (feq (by decide : ¬ ((2 : Int32) = (0 : Int32)))).2) (by decide) (by decide) ?_
    refine XS.aloadN X3.here hx rfl (bb d21_28) rfl rfl ?_
    refine XS.iloadN X3.here hx rfl (bb d21_29) rfl ?_
    refine XS.iloadN X3.here hx rfl (bb d21_30) rfl ?_
    refine st4.trans ?_
    refine XS.aloadN X4.here hx rfl (bb d21_34) rfl rfl ?_
    refine st5 _ ?_
    refine XS.iloadN X5.here hx rfl (bb d21_38) rfl ?_
    refine X5.aaload hx (j := (0 : Int32)) (v := (.ref ov)) (by rw [e5]; exact Ar6.1) (State.isArrayOf_alike hZ.alike Ar6.2.1) rfl Ar6.2.2 hin6 (vH6.at hin6 rfl) (g := (mkF m 39 #[vR a1, vR at_, vI 0, vI 2, .unset, .unset, .unset] [(.int 0), (.ref on)])) rfl rfl (bb d21_39) _ ?_
    refine XS.ifnullNo X5.here hx rfl (bb d21_40) rfl ?_
    refine XS.aloadN X5.here hx rfl (bb d21_43) rfl rfl ?_
    refine XS.iloadN X5.here hx rfl (bb d21_44) rfl ?_
    refine XS.iloadN X5.here hx rfl (bb d21_45) rfl ?_
    refine XS.aloadN X5.here hx rfl (bb d21_46) rfl rfl ?_
    refine st7.trans ?_
    refine XS.iloadN X7.here hx rfl (bb d21_50) rfl ?_
    refine XS.aloadN X7.here hx rfl (bb d21_51) rfl rfl ?_
    refine st8 _ ?_
    refine XS.imul X8.here hx rfl (bb d21_55) rfl ?_
    refine XS.istore X8.here hx rfl (bb d21_56) rfl (l' := #[vR a1, vR at_, vI 0, vI 2, vI 2, .unset, .unset]) rfl ?_
    refine XS.aloadN X8.here hx rfl (bb d21_58) rfl rfl ?_
    refine st10 _ ?_
    refine XS.iloadN X10.here hx rfl (bb d21_62) rfl ?_
    refine X10.aaload hx (j := (0 : Int32)) (v := (.ref ov)) (by rw [e10]; exact Ar13.1) (State.isArrayOf_alike hZ.alike Ar13.2.1) rfl Ar13.2.2 hin13 (vH13.at hin13 rfl) (g := (mkF m 63 #[vR a1, vR at_, vI 0, vI 2, vI 2, .unset, .unset] [(.int 0), (.ref on)])) rfl rfl (bb d21_63) _ ?_
    refine XS.astore X10.here hx rfl (bb d21_64) rfl rfl (l' := #[vR a1, vR at_, vI 0, vI 2, vI 2, vR ov, .unset]) rfl ?_
    refine XS.iconst X10.here hx rfl (bb d21_66) ?_
    refine XS.istore X10.here hx rfl (bb d21_67) rfl (l' := #[vR a1, vR at_, vI 0, vI 2, vI 2, vR ov, vI 0]) rfl ?_
    refine XS.iload X10.here hx rfl (bb d21_69) rfl ?_
    refine XS.aloadN X10.here hx rfl (bb d21_71) rfl rfl ?_
    refine st14 _ ?_
    refine XS.icmpNo X14.here hx rfl (bb d21_75) rfl (tlt (by decide : (0 : Int32) < (1 : Int32))).2.1 ?_
    refine XS.aload X14.here hx rfl (bb d21_78) rfl rfl ?_
    refine XS.ifnullNo X14.here hx rfl (bb d21_80) rfl ?_
    refine XS.aload X14.here hx rfl (bb d21_83) rfl rfl ?_
    refine XS.iload X14.here hx rfl (bb d21_85) rfl ?_
    refine XS.iload X14.here hx rfl (bb d21_87) rfl ?_
    refine XS.iadd X14.here hx rfl (bb d21_89) rfl ?_
    refine XS.aloadN X14.here hx rfl (bb d21_90) rfl rfl ?_
    refine XS.iload X14.here hx rfl (bb d21_91) rfl ?_
    refine X14.iaload hx (j := (0 : Int32)) (v := (.int et0)) (by rw [e14]; exact Ar16.1) (State.isArrayOf_alike hZ.alike Ar16.2.1) Ar16.2.2 hin16 (vH16.at hin16 rfl) (g := (mkF m 93 #[vR a1, vR at_, vI 0, vI 2, vI 2, vR ov, vI 0] [(.int 0), (.ref at_), (.int 2), (.ref ov)])) rfl rfl (bb d21_93) _ ?_
    refine XS.aloadN X14.here hx rfl (bb d21_94) rfl rfl ?_
    refine st17 _ ?_
    refine XS.iloadN X17.here hx rfl (bb d21_98) rfl ?_
    refine XS.aloadN X17.here hx rfl (bb d21_99) rfl rfl ?_
    refine st19 _ ?_
    refine XS.imul X19.here hx rfl (bb d21_103) rfl ?_
    refine XS.iload X19.here hx rfl (bb d21_104) rfl ?_
    refine XS.iadd X19.here hx rfl (bb d21_106) rfl ?_
    refine X19.iaload hx (j := (0 : Int32)) (v := (.int (nbase eb0 el0 eu0 et0))) (by rw [e19]; exact Ar20.1) (State.isArrayOf_alike hZ.alike Ar20.2.1) Ar20.2.2 hin20 (vH20.at hin20 rfl) (g := (mkF m 107 #[vR a1, vR at_, vI 0, vI 2, vI 2, vR ov, vI 0] [(.int 0), (.ref ob), (.int et0), (.int 2), (.ref ov)])) rfl rfl (bb d21_107) _ ?_
    refine XS.isub X19.here hx rfl (bb d21_108) rfl ?_
    refine XS.i2c X19.here hx rfl (bb d21_109) rfl ?_
    refine st21 _ ?_
    refine XS.goto X21.here hx rfl (pc0 := 111) (pc' := 130) rfl (bb d21_111) (by decide) (by decide) ?_
    refine XS.iinc X21.here hx rfl (bb d21_130) rfl (l' := #[vR a1, vR at_, vI 0, vI 2, vI 2, vR ov, vI 1]) rfl ?_
    refine XS.goto X21.here hx rfl (pc0 := 133) (pc' := 69) rfl (bb d21_133) (by decide) (by decide) ?_
    refine XS.iload X21.here hx rfl (bb d21_69) rfl ?_
    refine XS.aloadN X21.here hx rfl (bb d21_71) rfl rfl ?_
    refine st22 _ ?_
    refine XS.icmpYes X22.here hx rfl (pc0 := 75) (pc' := 136) rfl (bb d21_75) rfl (flt (by decide : ¬ ((1 : Int32) < (1 : Int32)))).2.1 (by decide) (by decide) ?_
    refine XS.aloadN X22.here hx rfl (bb d21_136) rfl rfl ?_
    refine XS.dup X22.here hx rfl (bb d21_137) rfl rfl ?_
    refine st24 _ ?_
    refine XS.iconst X24.here hx rfl (bb d21_141) ?_
    refine XS.iadd X24.here hx rfl (bb d21_142) rfl ?_
    refine st26 _ ?_
    exact X26.returnOut hx Bd.returns (bb d21_146) hr
  · show Q_add1N2 Z wDE a1 at_ ow on ob ol oh ov kw_ kn_ kb_ kl_ kh_ kv_ eb0 el0 eu0 ev0_0 ev1_0 ex2 ex3 ex4 ex5 ex6 ex7 kt_ et0 h0 n0 _ T26.heap _
    rw [e26]
    exact ⟨rfl, N26, ((((Keep.refl h0 [a1, ob, ol, oh, ov]).trans K7 (allS (Or.inl (List.mem_of_getElem? (i := 1) rfl)) (allS (Or.inl (List.mem_of_getElem? (i := 2) rfl)) (allS (Or.inl (List.mem_of_getElem? (i := 3) rfl)) (allS (Or.inl (List.mem_of_getElem? (i := 4) rfl)) all0))))).wr W21 (Or.inl (List.mem_of_getElem? (i := 4) rfl))).wr W26 (Or.inl (List.mem_of_getElem? (i := 0) rfl))), F28, F29, Fw26, F30, F31, F32, F33, F34, F35, r9, F36, r11, F37, F38, F39, (by have q := F40; (try simp only [own_c1] at q); exact q)⟩
def Q_add1W1 (Z : State) (wDE a1 at_ ow on ob ol oh ov : Addr) (kw_ kn_ kb_ kl_ kh_ kv_ : ClassId) (eb0 el0 eu0 ev0_0 ex1 ex2 ex3 ex4 ex5 ex6 ex7 : Int32) (kt_ : ClassId) (et0 : Int32) (h0 : Heap) (n0 : Nat) (v : Option Value) (h : Heap) (L : List Loc) : Prop := ∃ (oz : Addr) (kz_ : ClassId), v = none ∧ Fr n0 L ∧ Keep h0 h [a1, ow, on] ∧ h0.size ≤ oz ∧ Exa Z h a1 cRV ∧ Fld Z h a1 cRV "arity" "I" (.int 1) ∧ Fld Z h a1 cRV "rows" "I" (.int 2) ∧ Fld Z h a1 cRV "wide" "[[I" (.ref ow) ∧ Fld Z h a1 cRV "narrow" "[[C" (.ref on) ∧ Fld Z h a1 cRV "bases" "[I" (.ref ob) ∧ Fld Z h a1 cRV "lowest" "[I" (.ref ol) ∧ Fld Z h a1 cRV "highest" "[I" (.ref oh) ∧ Arv Z h ow kw_ (.array .int) (1 : Int32) [(.ref oz)] .null ∧ OvrA Z kw_ .int "[I" ∧ Arv Z h on kn_ (.array .char) (1 : Int32) [.null] .null ∧ OvrA Z kn_ .char "[C" ∧ Arv Z h ob kb_ .int (1 : Int32) [(.int eb0)] (.int 0) ∧ Arv Z h ol kl_ .int (1 : Int32) [(.int el0)] (.int 0) ∧ Arv Z h oh kh_ .int (1 : Int32) [(.int eu0)] (.int 0) ∧ Arv Z h oz kz_ .int (8 : Int32) [(.int ev0_0), (.int et0), (.int (0 : Int32)), (.int (0 : Int32)), (.int (0 : Int32)), (.int (0 : Int32)), (.int (0 : Int32)), (.int (0 : Int32))] (.int 0)
set_option maxRecDepth 65536 in
set_option maxHeartbeats 40000000 in
theorem rm_add1W1 (l : Launch) (Z : State) (a0 : Array Value) (hw : ∀ d ∈ tables_1, d.before a0 Z = true) (ws : List Jvm.Cond) (wDE : Addr) (a1 at_ ow on ob ol oh ov : Addr) (kw_ kn_ kb_ kl_ kh_ kv_ : ClassId) (eb0 el0 eu0 ev0_0 ex1 ex2 ex3 ex4 ex5 ex6 ex7 : Int32) (kt_ : ClassId) (et0 : Int32) (h0 : Heap) (n0 : Nat) (Z0 : n0 ≤ h0.size) (S_wDE : Sta Z Z.heap "java/util/ArrayList" "DEFAULTCAPACITY_EMPTY_ELEMENTDATA" "[Ljava/lang/Object;" (.ref wDE)) (O0 : Old Z n0 h0) (S_CS : Sta Z Z.heap cRV "CHUNK_SHIFT" "I" (.int (12 : Int32))) (r0 : Exa Z h0 a1 cRV) (r1 : Fld Z h0 a1 cRV "arity" "I" (.int 1)) (r2 : Fld Z h0 a1 cRV "rows" "I" (.int 1)) (r3 : Fld Z h0 a1 cRV "wide" "[[I" (.ref ow)) (r4 : Fld Z h0 a1 cRV "narrow" "[[C" (.ref on)) (r5 : Fld Z h0 a1 cRV "bases" "[I" (.ref ob)) (r6 : Fld Z h0 a1 cRV "lowest" "[I" (.ref ol)) (r7 : Fld Z h0 a1 cRV "highest" "[I" (.ref oh)) (r8 : Arv Z h0 ow kw_ (.array .int) (1 : Int32) [.null] .null) (r9 : OvrA Z kw_ .int "[I") (r10 : Arv Z h0 on kn_ (.array .char) (1 : Int32) [(.ref ov)] .null) (r11 : OvrA Z kn_ .char "[C") (r12 : Arv Z h0 ob kb_ .int (1 : Int32) [(.int eb0)] (.int 0)) (r13 : Arv Z h0 ol kl_ .int (1 : Int32) [(.int el0)] (.int 0)) (r14 : Arv Z h0 oh kh_ .int (1 : Int32) [(.int eu0)] (.int 0)) (r15 : Arv Z h0 ov kv_ .char (8 : Int32) [(.int (nar .char (ev0_0 - eb0))), (.int ex1), (.int ex2), (.int ex3), (.int ex4), (.int ex5), (.int ex6), (.int ex7)] (.int 0)) (r16 : Arv Z h0 at_ kt_ .int (1 : Int32) [(.int et0)] (.int 0)) (g_a1 : n0 ≤ a1) (g_ow : n0 ≤ ow) (g_on : n0 ≤ on) (ne_a1_ow : a1 ≠ ow) (ne_a1_on : a1 ≠ on) (ne_a1_ob : a1 ≠ ob) (ne_a1_ol : a1 ≠ ol) (ne_a1_oh : a1 ≠ oh) (ne_a1_ov : a1 ≠ ov) (ne_ow_on : ow ≠ on) (ne_ow_ob : ow ≠ ob) (ne_ow_ol : ow ≠ ol) (ne_ow_oh : ow ≠ oh) (ne_ow_ov : ow ≠ ov) (ne_on_ob : on ≠ ob) (ne_on_ol : on ≠ ol) (ne_on_oh : on ≠ oh) (ne_on_ov : on ≠ ov) (ne_ob_ol : ob ≠ ol) (ne_ob_oh : ob ≠ oh) (ne_ob_ov : ob ≠ ov) (ne_ol_oh : ol ≠ oh) (ne_ol_ov : ol ≠ ov) (ne_oh_ov : oh ≠ ov) (ne_at__a1 : at_ ≠ a1) (ne_at__ow : at_ ≠ ow) (ne_at__on : at_ ≠ on) (ne_at__ob : at_ ≠ ob) (ne_at__ol : at_ ≠ ol) (ne_at__oh : at_ ≠ oh) (ne_at__ov : at_ ≠ ov) (hIn0_0 : ownIn eb0 ev0_0) (hWd : ¬ ((lcmpW (((f_maxI et0 eu0).toInt64) - ((f_minI et0 el0).toInt64)) (65536 : Int64)) < (0 : Int32))) :
    MetFree l (⟨cRV, "add", "([I)V"⟩ : MethodName) (head1 (Jvm.Cond.code (⟨cRV, "add", "([I)V"⟩ : MethodName) prog_48_method_4_code 7 none :: ws) ({ frames := 3, cells := 1, slots := 8, locals := 58 } : Room)) (fun a U => a = #[(.ref a1), (.ref at_)] ∧ Z.Warmed39 U.vm ∧ U.heap = h0) (fun _ _ _ _ _ => True) (fun _ U o U' => ∃ v L, o = .returned v ∧ Q_add1W1 Z wDE a1 at_ ow on ob ol oh ov kw_ kn_ kb_ kl_ kh_ kv_ eb0 el0 eu0 ev0_0 ex1 ex2 ex3 ex4 ex5 ex6 ex7 kt_ et0 h0 n0 v U'.heap L ∧ FrameEnd U o U' L ({ frames := 3, cells := 1, slots := 8, locals := 58 } : Room).cells ({ frames := 3, cells := 1, slots := 8, locals := 58 } : Room).slots) := by
  refine MetFree.of_bodySF (plainFor_of_name pn_RowValues) hisR ?_
  intro p e s m args below meth c s₁ Bd hml0 hP hK
  obtain ⟨rfl, hZ, hh⟩ := hP
  have hx := Bd.exec
  have hby := Bd.bytes
  have bb := fun {pc : Nat} {r : Except DecodeError (Instr × Nat)} (h : decode prog_48_method_4_code pc = r) => hb hby h
  have ww := fun (i : Nat) {d : Jvm.Cond} (h : tables_1[i]? = some d) => hw d (List.mem_of_getElem? h)
  have hml : c.maxLocals = 7 := hml0
  have hown : s.vm.findClass cRV = some m.cls := findClass_of_methodNamed Bd.named
  have hnm := (name_of_methodNamed Bd.named Bd.method).1
  have X0 : Stand p l e ({ frames := 3, cells := 1, slots := 8, locals := 58 } : Room) s m #[(.ref a1), (.ref at_)] below meth c s₁ [] 0 0 := Stand.of_body Bd
  have e0 : s₁.heap = h0 := by rw [← hh, Bd.state]; rfl
  have N0 := Fr.nil n0
  have pre0 : ∀ t, Steps p.tables e below (s₁.setTop (mkF m 0 #[vR a1, vR at_, .unset, .unset, .unset, .unset, .unset] [])) t → Steps p.tables e below (s₁.setTop (entryFrame m #[(.ref a1), (.ref at_)] 7)) t := fun t k => castTop (ef_add1W1 m a1 at_) k
  obtain ⟨T1, X1, e1, st1⟩ := getF X0 hx hZ hown (host := "") (Or.inl (ww 162 rfl)) Via.refl e0 r2 (g := (mkF m 1 #[vR a1, vR at_, .unset, .unset, .unset, .unset, .unset] [(.ref a1)])) rfl rfl (bb d21_1)
  obtain ⟨T2, X2, e2, st2⟩ := getS2 X1 hx hZ hown (host := "") (Or.inl (ww 164 rfl)) Via.refl e1 (S_CS.ext O0.2) (g := (mkF m 4 #[vR a1, vR at_, .unset, .unset, .unset, .unset, .unset] [(.int 1)])) rfl (bb d21_4)
  obtain ⟨T3, X3, e3, st3⟩ := getF X2 hx hZ hown (host := "") (Or.inl (ww 162 rfl)) Via.refl e2 r2 (g := (mkF m 10 #[vR a1, vR at_, vI 0, .unset, .unset, .unset, .unset] [(.ref a1)])) rfl rfl (bb d21_10)
  obtain ⟨cq4, q4, q4'⟩ := (r0).cell
  obtain ⟨_, _, ⟨T4, L4, k4, n4⟩, -, X4, ⟨Lc4, hQ4, l4, y4, z4⟩, st4⟩ := X3.privateBack hx (y := (⟨cRV, "makeRoom", "(II)V"⟩ : MethodName)) hown (mvT hZ (ww 184 rfl)) (mvT hZ (ww 185 rfl)) (own_sel (mvT hZ (ww 61 rfl)) (mvT hZ (ww 185 rfl)) (mvP hZ (ww 186 rfl)) (by decide)) (Cond.privateMethod_at (mvP hZ (ww 186 rfl) (args := #[]))) (mvT hZ (ww 187 rfl)) (by decide) (backOf (W := 0) (rm_room1N1 l Z a0 hw [] wDE a1 ow on ob ol oh ov kw_ kn_ kb_ kl_ kh_ kv_ eb0 el0 eu0 ev0_0 ex1 ex2 ex3 ex4 ex5 ex6 ex7 h0 n0 (own_z0 O0) S_wDE O0 S_CS r0 r1 r3 r4 r8 r10 r15) hZ (ww 187 rfl) (ww 62 rfl) (by decide) (by decide)) (g := (mkF m 31 #[vR a1, vR at_, vI 0, vI 1, .unset, .unset, .unset] [(.int 1), (.int 0), (.ref a1)])) rfl (by rw [hml]; rfl) (Steps.refl _) (a := a1) (by rw [e3]; exact q4) q4' (argsL := [(.int 0), (.int 1)]) (rest := []) (lenOf pd__II_V_5 rfl) rfl (by show 2 * 0 + _ ≤ _; exact Nat.le_of_eq rfl) (bb d21_31) (fun _ _ => ⟨rfl, e3, (by decide : 0 + 0 ≤ _), (by decide : 0 + 0 ≤ _)⟩)
  dsimp only [Pt.U, Pt.locs, Pt.cells, Pt.slots] at X4 l4 y4 z4 st4 hQ4
  subst l4 y4 z4
  obtain ⟨rfl, N4q, e4⟩ := hQ4
  have N4 := Fr.app N0 N4q
  obtain ⟨T5, X5, e5, st5⟩ := getF X4 hx hZ hown (host := "") (Or.inl (ww 73 rfl)) Via.refl e4 r4 (g := (mkF m 35 #[vR a1, vR at_, vI 0, vI 1, .unset, .unset, .unset] [(.ref a1)])) rfl rfl (bb d21_35)
  obtain ⟨cl6, Ar6, vq6, vS6, vN6, vH6, vG6⟩ := id r10
  have hin6 : ¬ (((0 : Int32) : Int32) < 0 ∨ cl6.slots.size ≤ ((0 : Int32) : Int32).toNatClampNeg) := inb_of vS6 ⟨by decide, by decide⟩
  obtain ⟨cq7, q7, q7'⟩ := (r0).cell
  obtain ⟨_, _, ⟨T7, L7, k7, n7⟩, -, X7, ⟨Lc7, hQ7, l7, y7, z7⟩, st7⟩ := X5.privateBack hx (y := (⟨cRV, "fit", "(II[I)V"⟩ : MethodName)) hown (mvT hZ (ww 191 rfl)) (mvT hZ (ww 192 rfl)) (own_sel (mvT hZ (ww 61 rfl)) (mvT hZ (ww 192 rfl)) (mvP hZ (ww 193 rfl)) (by decide)) (Cond.privateMethod_at (mvP hZ (ww 193 rfl) (args := #[]))) (mvT hZ (ww 194 rfl)) (by decide) (backOf (W := 0) (rm_fitW1_1 l Z a0 hw [] wDE a1 at_ ow on ob ol oh ov kw_ kn_ kb_ kl_ kh_ kv_ eb0 el0 eu0 ev0_0 ex1 ex2 ex3 ex4 ex5 ex6 ex7 kt_ et0 h0 n0 (own_z0 O0) S_wDE O0 S_CS r0 r1 r2 r3 r4 r5 r6 r7 r8 r9 r10 r11 r12 r13 r14 r15 r16 g_ow g_on ne_a1_ow ne_a1_on ne_a1_ob ne_a1_ol ne_a1_oh ne_a1_ov ne_ow_on ne_ow_ob ne_ow_ol ne_ow_oh ne_ow_ov ne_on_ob ne_on_ol ne_on_oh ne_on_ov ne_ob_ol ne_ob_oh ne_ob_ov ne_ol_oh ne_ol_ov ne_oh_ov ne_at__a1 ne_at__ow ne_at__on ne_at__ob ne_at__ol ne_at__oh ne_at__ov hIn0_0 hWd) hZ (ww 194 rfl) (ww 62 rfl) (by decide) (by decide)) (g := (mkF m 47 #[vR a1, vR at_, vI 0, vI 1, .unset, .unset, .unset] [(.ref at_), (.int 1), (.int 0), (.ref a1)])) rfl (by rw [hml]; rfl) (Steps.refl _) (a := a1) (by rw [e5]; exact q7) q7' (argsL := [(.int 0), (.int 1), (.ref at_)]) (rest := []) (lenOf pd__II_I_V_7 rfl) rfl (by show 2 * 0 + _ ≤ _; exact Nat.le_of_eq rfl) (bb d21_47) (fun _ _ => ⟨rfl, e5, (by decide : 0 + 1 ≤ _), (by decide : 0 + 8 ≤ _)⟩)
  dsimp only [Pt.U, Pt.locs, Pt.cells, Pt.slots] at X7 l7 y7 z7 st7 hQ7
  subst l7 y7 z7
  obtain ⟨oz7, kz_7, rfl, N7q, K7, szz_oz7, f7_0, f7_1, f7_2⟩ := hQ7
  have N7 := Fr.app N4 N7q
  have g_oz7 : n0 ≤ oz7 := Nat.le_trans (own_z0 O0) szz_oz7
  have sz_oz7 : h0.size ≤ oz7 := Nat.le_trans (Nat.le_refl _) szz_oz7
  have ne_a1_oz7 : a1 ≠ oz7 := Nat.ne_of_lt (Nat.lt_of_lt_of_le r0.lt szz_oz7)
  have ne_ow_oz7 : ow ≠ oz7 := Nat.ne_of_lt (Nat.lt_of_lt_of_le r8.lt szz_oz7)
  have ne_on_oz7 : on ≠ oz7 := Nat.ne_of_lt (Nat.lt_of_lt_of_le r10.lt szz_oz7)
  have ne_ob_oz7 : ob ≠ oz7 := Nat.ne_of_lt (Nat.lt_of_lt_of_le r12.lt szz_oz7)
  have ne_ol_oz7 : ol ≠ oz7 := Nat.ne_of_lt (Nat.lt_of_lt_of_le r13.lt szz_oz7)
  have ne_oh_oz7 : oh ≠ oz7 := Nat.ne_of_lt (Nat.lt_of_lt_of_le r14.lt szz_oz7)
  have ne_ov_oz7 : ov ≠ oz7 := Nat.ne_of_lt (Nat.lt_of_lt_of_le r15.lt szz_oz7)
  have ne_at__oz7 : at_ ≠ oz7 := Nat.ne_of_lt (Nat.lt_of_lt_of_le r16.lt szz_oz7)
  have F9 := (r1.keep K7 (ninS ne_a1_ow (ninS ne_a1_on nin0)))
  obtain ⟨T8, X8, e8, st8⟩ := getF X7 hx hZ hown (host := "") (Or.inl (ww 75 rfl)) Via.refl rfl F9 (g := (mkF m 52 #[vR a1, vR at_, vI 0, vI 1, .unset, .unset, .unset] [(.ref a1), (.int 1)])) rfl rfl (bb d21_52)
  have F11 := (r4.keep K7 (ninS ne_a1_ow (ninS ne_a1_on nin0)))
  obtain ⟨T10, X10, e10, st10⟩ := getF X8 hx hZ hown (host := "") (Or.inl (ww 73 rfl)) Via.refl e8 F11 (g := (mkF m 59 #[vR a1, vR at_, vI 0, vI 1, vI 1, .unset, .unset] [(.ref a1)])) rfl rfl (bb d21_59)
  obtain ⟨cl12, Ar12, vq12, vS12, vN12, vH12, vG12⟩ := id f7_1
  have hin12 : ¬ (((0 : Int32) : Int32) < 0 ∨ cl12.slots.size ≤ ((0 : Int32) : Int32).toNatClampNeg) := inb_of vS12 ⟨by decide, by decide⟩
  obtain ⟨T13, X13, e13, st13⟩ := getF X10 hx hZ hown (host := "") (Or.inl (ww 75 rfl)) Via.refl e10 F9 (g := (mkF m 72 #[vR a1, vR at_, vI 0, vI 1, vI 1, .val .null, vI 0] [(.ref a1), (.int 0)])) rfl rfl (bb d21_72)
  have F15 := (r3.keep K7 (ninS ne_a1_ow (ninS ne_a1_on nin0)))
  obtain ⟨T14, X14, e14, st14⟩ := getF X13 hx hZ hown (host := "") (Or.inl (ww 69 rfl)) Via.refl e13 F15 (g := (mkF m 115 #[vR a1, vR at_, vI 0, vI 1, vI 1, .val .null, vI 0] [(.ref a1)])) rfl rfl (bb d21_115)
  obtain ⟨cl16, Ar16, vq16, vS16, vN16, vH16, vG16⟩ := id f7_0
  have hin16 : ¬ (((0 : Int32) : Int32) < 0 ∨ cl16.slots.size ≤ ((0 : Int32) : Int32).toNatClampNeg) := inb_of vS16 ⟨by decide, by decide⟩
  have F17 := (r16.keep K7 (ninS ne_at__ow (ninS ne_at__on nin0)))
  obtain ⟨cl18, Ar18, vq18, vS18, vN18, vH18, vG18⟩ := id F17
  have hin18 : ¬ (((0 : Int32) : Int32) < 0 ∨ cl18.slots.size ≤ ((0 : Int32) : Int32).toNatClampNeg) := inb_of vS18 ⟨by decide, by decide⟩
  obtain ⟨cl19, Ar19, vq19, vS19, vN19, vH19, vG19⟩ := id f7_2
  have hin19 : ¬ (((1 : Int32) : Int32) < 0 ∨ cl19.slots.size ≤ ((1 : Int32) : Int32).toNatClampNeg) := inb_of vS19 ⟨by decide, by decide⟩
  obtain ⟨T19, h19, X19, e19, W19, st19⟩ := stI X14 hx hZ e14 Ar19 (j := (1 : Int32)) hin19 (g := (mkF m 129 #[vR a1, vR at_, vI 0, vI 1, vI 1, .val .null, vI 0] [(.int et0), (.int 1), (.ref oz7)])) rfl rfl (bb d21_129)
  have V19 : Arv Z h19 oz7 kz_7 .int (8 : Int32) [(.int ev0_0), (.int et0), (.int 0), (.int 0), (.int 0), (.int 0), (.int 0), (.int 0)] (.int 0) := Arv.set Ar19 vq19 vS19 vN19 vH19 vG19 rfl W19 1 rfl (Nat.le_of_ble_eq_true rfl)
  have N19 := Fr.snoc X19 N7 g_oz7
  have F21 := (F9.other W19 (Or.inl ne_a1_oz7))
  obtain ⟨T20, X20, e20, st20⟩ := getF X19 hx hZ hown (host := "") (Or.inl (ww 75 rfl)) Via.refl e19 F21 (g := (mkF m 72 #[vR a1, vR at_, vI 0, vI 1, vI 1, .val .null, vI 1] [(.ref a1), (.int 1)])) rfl rfl (bb d21_72)
  have F23 := ((r2.keep K7 (ninS ne_a1_ow (ninS ne_a1_on nin0))).other W19 (Or.inl ne_a1_oz7))
  obtain ⟨T22, X22, e22, st22⟩ := getF X20 hx hZ hown (host := "") (Or.inl (ww 162 rfl)) Via.refl e20 F23 (g := (mkF m 138 #[vR a1, vR at_, vI 0, vI 1, vI 1, .val .null, vI 1] [(.ref a1), (.ref a1)])) rfl rfl (bb d21_138)
  have F25 := ((r0.keep K7).wr W19)
  obtain ⟨T24, h24, X24, e24, W24, st24⟩ := putF X22 hx hZ hown (host := "") (Or.inl (ww 162 rfl)) Via.refl e22 F23 F25 (Or.inl (ww 163 rfl)) (ww 61 rfl) (ty := .int) (by decide) rfl rfl (g := (mkF m 143 #[vR a1, vR at_, vI 0, vI 1, vI 1, .val .null, vI 1] [(.int 2), (.ref a1)])) rfl rfl (bb d21_143)
  have Fw24 := F23.same W24
  have N24 := Fr.snoc X24 N19 g_a1
  have F26 := (F25.wr W24)
  have F27 := (F21.other W24 (Or.inr (slot_ne (Or.inr (ww 76 rfl)) (Or.inl (ww 163 rfl)) (by decide) (t := .int) (t' := .int) (by decide) (by decide))))
  have F28 := ((F15.other W19 (Or.inl ne_a1_oz7)).other W24 (Or.inr (slot_ne (Or.inl (ww 70 rfl)) (Or.inl (ww 163 rfl)) (by decide) (t := (.array (.array .int))) (t' := .int) (by decide) (by decide))))
  have F29 := ((F11.other W19 (Or.inl ne_a1_oz7)).other W24 (Or.inr (slot_ne (Or.inl (ww 74 rfl)) (Or.inl (ww 163 rfl)) (by decide) (t := (.array (.array .char))) (t' := .int) (by decide) (by decide))))
  have F30 := (((r5.keep K7 (ninS ne_a1_ow (ninS ne_a1_on nin0))).other W19 (Or.inl ne_a1_oz7)).other W24 (Or.inr (slot_ne (Or.inl (ww 78 rfl)) (Or.inl (ww 163 rfl)) (by decide) (t := (.array .int)) (t' := .int) (by decide) (by decide))))
  have F31 := (((r6.keep K7 (ninS ne_a1_ow (ninS ne_a1_on nin0))).other W19 (Or.inl ne_a1_oz7)).other W24 (Or.inr (slot_ne (Or.inr (ww 80 rfl)) (Or.inl (ww 163 rfl)) (by decide) (t := (.array .int)) (t' := .int) (by decide) (by decide))))
  have F32 := (((r7.keep K7 (ninS ne_a1_ow (ninS ne_a1_on nin0))).other W19 (Or.inl ne_a1_oz7)).other W24 (Or.inr (slot_ne (Or.inr (ww 82 rfl)) (Or.inl (ww 163 rfl)) (by decide) (t := (.array .int)) (t' := .int) (by decide) (by decide))))
  have F33 := ((f7_0.other W19 ne_ow_oz7).other W24 (Ne.symm ne_a1_ow))
  have F34 := ((f7_1.other W19 ne_on_oz7).other W24 (Ne.symm ne_a1_on))
  have F35 := (((r12.keep K7 (ninS (Ne.symm ne_ow_ob) (ninS (Ne.symm ne_on_ob) nin0))).other W19 ne_ob_oz7).other W24 (Ne.symm ne_a1_ob))
  have F36 := (((r13.keep K7 (ninS (Ne.symm ne_ow_ol) (ninS (Ne.symm ne_on_ol) nin0))).other W19 ne_ol_oz7).other W24 (Ne.symm ne_a1_ol))
  have F37 := (((r14.keep K7 (ninS (Ne.symm ne_ow_oh) (ninS (Ne.symm ne_on_oh) nin0))).other W19 ne_oh_oz7).other W24 (Ne.symm ne_a1_oh))
  have F38 := (V19.other W24 (Ne.symm ne_a1_oz7))
  obtain ⟨fs, hr, hrun, hended, hW, hsame⟩ := X24.leave (v := none) (fun _ => rfl)
  refine ⟨_, _, pre0 _ ?_, hrun, hended, _, _, rfl, ?_, ⟨_, rfl⟩, hW, hsame.mono (by decide) (by decide)⟩
  · show GG p e below s₁ (mkF m 0 #[vR a1, vR at_, .unset, .unset, .unset, .unset, .unset] []) _
    refine XS.aloadN X0.here hx rfl (bb d21_0) rfl rfl ?_
    refine st1 _ ?_
    refine st2 _ ?_
    refine XS.iushr X2.here hx rfl (bb d21_7) rfl ?_
    refine XS.istoreN X2.here hx rfl (bb d21_8) rfl (l' := #[vR a1, vR at_, vI 0, .unset, .unset, .unset, .unset]) rfl ?_
    refine XS.aloadN X2.here hx rfl (bb d21_9) rfl rfl ?_
    refine st3 _ ?_
    refine XS.sipush X3.here hx rfl (bb d21_13) ?_
    refine XS.iand X3.here hx rfl (bb d21_16) rfl ?_
    refine XS.istoreN X3.here hx rfl (bb d21_17) rfl (l' := #[vR a1, vR at_, vI 0, vI 1, .unset, .unset, .unset]) rfl ?_
    refine XS.iloadN X3.here hx rfl (bb d21_18) rfl ?_
    refine XS.ifYes X3.here hx rfl (pc0 := 19) (pc' := 28) rfl (bb d21_19) rfl ((if0 _ _).trans (feq (by decide : ¬ ((1 : Int32) = (0 : Int32)))).2) (by decide) (by decide) ?_
    refine XS.aloadN X3.here hx rfl (bb d21_28) rfl rfl ?_
    refine XS.iloadN X3.here hx rfl (bb d21_29) rfl ?_
    refine XS.iloadN X3.here hx rfl (bb d21_30) rfl ?_
    refine st4.trans ?_
    refine XS.aloadN X4.here hx rfl (bb d21_34) rfl rfl ?_
    refine st5 _ ?_
    refine XS.iloadN X5.here hx rfl (bb d21_38) rfl ?_
    refine X5.aaload hx (j := (0 : Int32)) (v := (.ref ov)) (by rw [e5]; exact Ar6.1) (State.isArrayOf_alike hZ.alike Ar6.2.1) rfl Ar6.2.2 hin6 (vH6.at hin6 rfl) (g := (mkF m 39 #[vR a1, vR at_, vI 0, vI 1, .unset, .unset, .unset] [(.int 0), (.ref on)])) rfl rfl (bb d21_39) _ ?_
    refine XS.ifnullNo X5.here hx rfl (bb d21_40) rfl ?_
    refine XS.aloadN X5.here hx rfl (bb d21_43) rfl rfl ?_
    refine XS.iloadN X5.here hx rfl (bb d21_44) rfl ?_
    refine XS.iloadN X5.here hx rfl (bb d21_45) rfl ?_
    refine XS.aloadN X5.here hx rfl (bb d21_46) rfl rfl ?_
    refine st7.trans ?_
    refine XS.iloadN X7.here hx rfl (bb d21_50) rfl ?_
    refine XS.aloadN X7.here hx rfl (bb d21_51) rfl rfl ?_
    refine st8 _ ?_
    refine XS.imul X8.here hx rfl (bb d21_55) rfl ?_
    refine XS.istore X8.here hx rfl (bb d21_56) rfl (l' := #[vR a1, vR at_, vI 0, vI 1, vI 1, .unset, .unset]) rfl ?_
    refine XS.aloadN X8.here hx rfl (bb d21_58) rfl rfl ?_
    refine st10 _ ?_
    refine XS.iloadN X10.here hx rfl (bb d21_62) rfl ?_
    refine X10.aaload hx (j := (0 : Int32)) (v := .null) (by rw [e10]; exact Ar12.1) (State.isArrayOf_alike hZ.alike Ar12.2.1) rfl Ar12.2.2 hin12 (vH12.at hin12 rfl) (g := (mkF m 63 #[vR a1, vR at_, vI 0, vI 1, vI 1, .unset, .unset] [(.int 0), (.ref on)])) rfl rfl (bb d21_63) _ ?_
    refine XS.astore X10.here hx rfl (bb d21_64) rfl rfl (l' := #[vR a1, vR at_, vI 0, vI 1, vI 1, .val .null, .unset]) rfl ?_
    refine XS.iconst X10.here hx rfl (bb d21_66) ?_
    refine XS.istore X10.here hx rfl (bb d21_67) rfl (l' := #[vR a1, vR at_, vI 0, vI 1, vI 1, .val .null, vI 0]) rfl ?_
    refine XS.iload X10.here hx rfl (bb d21_69) rfl ?_
    refine XS.aloadN X10.here hx rfl (bb d21_71) rfl rfl ?_
    refine st13 _ ?_
    refine XS.icmpNo X13.here hx rfl (bb d21_75) rfl (tlt (by decide : (0 : Int32) < (1 : Int32))).2.1 ?_
    refine XS.aload X13.here hx rfl (bb d21_78) rfl rfl ?_
    refine XS.ifnullYes X13.here hx rfl (pc0 := 80) (pc' := 114) rfl (bb d21_80) rfl (by decide) (by decide) ?_
    refine XS.aloadN X13.here hx rfl (bb d21_114) rfl rfl ?_
    refine st14 _ ?_
    refine XS.iloadN X14.here hx rfl (bb d21_118) rfl ?_
    refine X14.aaload hx (j := (0 : Int32)) (v := (.ref oz7)) (by rw [e14]; exact Ar16.1) (State.isArrayOf_alike hZ.alike Ar16.2.1) rfl Ar16.2.2 hin16 (vH16.at hin16 rfl) (g := (mkF m 119 #[vR a1, vR at_, vI 0, vI 1, vI 1, .val .null, vI 0] [(.int 0), (.ref ow)])) rfl rfl (bb d21_119) _ ?_
    refine XS.iload X14.here hx rfl (bb d21_120) rfl ?_
    refine XS.iload X14.here hx rfl (bb d21_122) rfl ?_
    refine XS.iadd X14.here hx rfl (bb d21_124) rfl ?_
    refine XS.aloadN X14.here hx rfl (bb d21_125) rfl rfl ?_
    refine XS.iload X14.here hx rfl (bb d21_126) rfl ?_
    refine X14.iaload hx (j := (0 : Int32)) (v := (.int et0)) (by rw [e14]; exact Ar18.1) (State.isArrayOf_alike hZ.alike Ar18.2.1) Ar18.2.2 hin18 (vH18.at hin18 rfl) (g := (mkF m 128 #[vR a1, vR at_, vI 0, vI 1, vI 1, .val .null, vI 0] [(.int 0), (.ref at_), (.int 1), (.ref oz7)])) rfl rfl (bb d21_128) _ ?_
    refine st19 _ ?_
    refine XS.iinc X19.here hx rfl (bb d21_130) rfl (l' := #[vR a1, vR at_, vI 0, vI 1, vI 1, .val .null, vI 1]) rfl ?_
    refine XS.goto X19.here hx rfl (pc0 := 133) (pc' := 69) rfl (bb d21_133) (by decide) (by decide) ?_
    refine XS.iload X19.here hx rfl (bb d21_69) rfl ?_
    refine XS.aloadN X19.here hx rfl (bb d21_71) rfl rfl ?_
    refine st20 _ ?_
    refine XS.icmpYes X20.here hx rfl (pc0 := 75) (pc' := 136) rfl (bb d21_75) rfl (flt (by decide : ¬ ((1 : Int32) < (1 : Int32)))).2.1 (by decide) (by decide) ?_
    refine XS.aloadN X20.here hx rfl (bb d21_136) rfl rfl ?_
    refine XS.dup X20.here hx rfl (bb d21_137) rfl rfl ?_
    refine st22 _ ?_
    refine XS.iconst X22.here hx rfl (bb d21_141) ?_
    refine XS.iadd X22.here hx rfl (bb d21_142) rfl ?_
    refine st24 _ ?_
    exact X24.returnOut hx Bd.returns (bb d21_146) hr
  · show Q_add1W1 Z wDE a1 at_ ow on ob ol oh ov kw_ kn_ kb_ kl_ kh_ kv_ eb0 el0 eu0 ev0_0 ex1 ex2 ex3 ex4 ex5 ex6 ex7 kt_ et0 h0 n0 _ T24.heap _
    rw [e24]
    exact ⟨oz7, kz_7, rfl, N24, ((((Keep.refl h0 [a1, ow, on]).trans K7 (allS (Or.inl (List.mem_of_getElem? (i := 1) rfl)) (allS (Or.inl (List.mem_of_getElem? (i := 2) rfl)) all0))).wr W19 (Or.inr sz_oz7)).wr W24 (Or.inl (List.mem_of_getElem? (i := 0) rfl))), sz_oz7, F26, F27, Fw24, F28, F29, F30, F31, F32, F33, r9, F34, r11, F35, F36, F37, F38⟩
def Q_add1W2 (Z : State) (wDE a1 at_ ow on ob ol oh ov : Addr) (kw_ kn_ kb_ kl_ kh_ kv_ : ClassId) (eb0 el0 eu0 ev0_0 ev1_0 ex2 ex3 ex4 ex5 ex6 ex7 : Int32) (kt_ : ClassId) (et0 : Int32) (h0 : Heap) (n0 : Nat) (v : Option Value) (h : Heap) (L : List Loc) : Prop := ∃ (oz : Addr) (kz_ : ClassId), v = none ∧ Fr n0 L ∧ Keep h0 h [a1, ow, on] ∧ h0.size ≤ oz ∧ Exa Z h a1 cRV ∧ Fld Z h a1 cRV "arity" "I" (.int 1) ∧ Fld Z h a1 cRV "rows" "I" (.int 3) ∧ Fld Z h a1 cRV "wide" "[[I" (.ref ow) ∧ Fld Z h a1 cRV "narrow" "[[C" (.ref on) ∧ Fld Z h a1 cRV "bases" "[I" (.ref ob) ∧ Fld Z h a1 cRV "lowest" "[I" (.ref ol) ∧ Fld Z h a1 cRV "highest" "[I" (.ref oh) ∧ Arv Z h ow kw_ (.array .int) (1 : Int32) [(.ref oz)] .null ∧ OvrA Z kw_ .int "[I" ∧ Arv Z h on kn_ (.array .char) (1 : Int32) [.null] .null ∧ OvrA Z kn_ .char "[C" ∧ Arv Z h ob kb_ .int (1 : Int32) [(.int eb0)] (.int 0) ∧ Arv Z h ol kl_ .int (1 : Int32) [(.int el0)] (.int 0) ∧ Arv Z h oh kh_ .int (1 : Int32) [(.int eu0)] (.int 0) ∧ Arv Z h oz kz_ .int (8 : Int32) [(.int ev0_0), (.int ev1_0), (.int et0), (.int (0 : Int32)), (.int (0 : Int32)), (.int (0 : Int32)), (.int (0 : Int32)), (.int (0 : Int32))] (.int 0)
set_option maxRecDepth 65536 in
set_option maxHeartbeats 40000000 in
theorem rm_add1W2 (l : Launch) (Z : State) (a0 : Array Value) (hw : ∀ d ∈ tables_1, d.before a0 Z = true) (ws : List Jvm.Cond) (wDE : Addr) (a1 at_ ow on ob ol oh ov : Addr) (kw_ kn_ kb_ kl_ kh_ kv_ : ClassId) (eb0 el0 eu0 ev0_0 ev1_0 ex2 ex3 ex4 ex5 ex6 ex7 : Int32) (kt_ : ClassId) (et0 : Int32) (h0 : Heap) (n0 : Nat) (Z0 : n0 ≤ h0.size) (S_wDE : Sta Z Z.heap "java/util/ArrayList" "DEFAULTCAPACITY_EMPTY_ELEMENTDATA" "[Ljava/lang/Object;" (.ref wDE)) (O0 : Old Z n0 h0) (S_CS : Sta Z Z.heap cRV "CHUNK_SHIFT" "I" (.int (12 : Int32))) (r0 : Exa Z h0 a1 cRV) (r1 : Fld Z h0 a1 cRV "arity" "I" (.int 1)) (r2 : Fld Z h0 a1 cRV "rows" "I" (.int 2)) (r3 : Fld Z h0 a1 cRV "wide" "[[I" (.ref ow)) (r4 : Fld Z h0 a1 cRV "narrow" "[[C" (.ref on)) (r5 : Fld Z h0 a1 cRV "bases" "[I" (.ref ob)) (r6 : Fld Z h0 a1 cRV "lowest" "[I" (.ref ol)) (r7 : Fld Z h0 a1 cRV "highest" "[I" (.ref oh)) (r8 : Arv Z h0 ow kw_ (.array .int) (1 : Int32) [.null] .null) (r9 : OvrA Z kw_ .int "[I") (r10 : Arv Z h0 on kn_ (.array .char) (1 : Int32) [(.ref ov)] .null) (r11 : OvrA Z kn_ .char "[C") (r12 : Arv Z h0 ob kb_ .int (1 : Int32) [(.int eb0)] (.int 0)) (r13 : Arv Z h0 ol kl_ .int (1 : Int32) [(.int el0)] (.int 0)) (r14 : Arv Z h0 oh kh_ .int (1 : Int32) [(.int eu0)] (.int 0)) (r15 : Arv Z h0 ov kv_ .char (8 : Int32) [(.int (nar .char (ev0_0 - eb0))), (.int (nar .char (ev1_0 - eb0))), (.int ex2), (.int ex3), (.int ex4), (.int ex5), (.int ex6), (.int ex7)] (.int 0)) (r16 : Arv Z h0 at_ kt_ .int (1 : Int32) [(.int et0)] (.int 0)) (g_a1 : n0 ≤ a1) (g_ow : n0 ≤ ow) (g_on : n0 ≤ on) (ne_a1_ow : a1 ≠ ow) (ne_a1_on : a1 ≠ on) (ne_a1_ob : a1 ≠ ob) (ne_a1_ol : a1 ≠ ol) (ne_a1_oh : a1 ≠ oh) (ne_a1_ov : a1 ≠ ov) (ne_ow_on : ow ≠ on) (ne_ow_ob : ow ≠ ob) (ne_ow_ol : ow ≠ ol) (ne_ow_oh : ow ≠ oh) (ne_ow_ov : ow ≠ ov) (ne_on_ob : on ≠ ob) (ne_on_ol : on ≠ ol) (ne_on_oh : on ≠ oh) (ne_on_ov : on ≠ ov) (ne_ob_ol : ob ≠ ol) (ne_ob_oh : ob ≠ oh) (ne_ob_ov : ob ≠ ov) (ne_ol_oh : ol ≠ oh) (ne_ol_ov : ol ≠ ov) (ne_oh_ov : oh ≠ ov) (ne_at__a1 : at_ ≠ a1) (ne_at__ow : at_ ≠ ow) (ne_at__on : at_ ≠ on) (ne_at__ob : at_ ≠ ob) (ne_at__ol : at_ ≠ ol) (ne_at__oh : at_ ≠ oh) (ne_at__ov : at_ ≠ ov) (hIn0_0 : ownIn eb0 ev0_0) (hIn1_0 : ownIn eb0 ev1_0) (hWd : ¬ ((lcmpW (((f_maxI et0 eu0).toInt64) - ((f_minI et0 el0).toInt64)) (65536 : Int64)) < (0 : Int32))) :
    MetFree l (⟨cRV, "add", "([I)V"⟩ : MethodName) (head1 (Jvm.Cond.code (⟨cRV, "add", "([I)V"⟩ : MethodName) prog_48_method_4_code 7 none :: ws) ({ frames := 3, cells := 1, slots := 8, locals := 58 } : Room)) (fun a U => a = #[(.ref a1), (.ref at_)] ∧ Z.Warmed39 U.vm ∧ U.heap = h0) (fun _ _ _ _ _ => True) (fun _ U o U' => ∃ v L, o = .returned v ∧ Q_add1W2 Z wDE a1 at_ ow on ob ol oh ov kw_ kn_ kb_ kl_ kh_ kv_ eb0 el0 eu0 ev0_0 ev1_0 ex2 ex3 ex4 ex5 ex6 ex7 kt_ et0 h0 n0 v U'.heap L ∧ FrameEnd U o U' L ({ frames := 3, cells := 1, slots := 8, locals := 58 } : Room).cells ({ frames := 3, cells := 1, slots := 8, locals := 58 } : Room).slots) := by
  refine MetFree.of_bodySF (plainFor_of_name pn_RowValues) hisR ?_
  intro p e s m args below meth c s₁ Bd hml0 hP hK
  obtain ⟨rfl, hZ, hh⟩ := hP
  have hx := Bd.exec
  have hby := Bd.bytes
  have bb := fun {pc : Nat} {r : Except DecodeError (Instr × Nat)} (h : decode prog_48_method_4_code pc = r) => hb hby h
  have ww := fun (i : Nat) {d : Jvm.Cond} (h : tables_1[i]? = some d) => hw d (List.mem_of_getElem? h)
  have hml : c.maxLocals = 7 := hml0
  have hown : s.vm.findClass cRV = some m.cls := findClass_of_methodNamed Bd.named
  have hnm := (name_of_methodNamed Bd.named Bd.method).1
  have X0 : Stand p l e ({ frames := 3, cells := 1, slots := 8, locals := 58 } : Room) s m #[(.ref a1), (.ref at_)] below meth c s₁ [] 0 0 := Stand.of_body Bd
  have e0 : s₁.heap = h0 := by rw [← hh, Bd.state]; rfl
  have N0 := Fr.nil n0
  have pre0 : ∀ t, Steps p.tables e below (s₁.setTop (mkF m 0 #[vR a1, vR at_, .unset, .unset, .unset, .unset, .unset] [])) t → Steps p.tables e below (s₁.setTop (entryFrame m #[(.ref a1), (.ref at_)] 7)) t := fun t k => castTop (ef_add1W2 m a1 at_) k
  obtain ⟨T1, X1, e1, st1⟩ := getF X0 hx hZ hown (host := "") (Or.inl (ww 162 rfl)) Via.refl e0 r2 (g := (mkF m 1 #[vR a1, vR at_, .unset, .unset, .unset, .unset, .unset] [(.ref a1)])) rfl rfl (bb d21_1)
  obtain ⟨T2, X2, e2, st2⟩ := getS2 X1 hx hZ hown (host := "") (Or.inl (ww 164 rfl)) Via.refl e1 (S_CS.ext O0.2) (g := (mkF m 4 #[vR a1, vR at_, .unset, .unset, .unset, .unset, .unset] [(.int 2)])) rfl (bb d21_4)
  obtain ⟨T3, X3, e3, st3⟩ := getF X2 hx hZ hown (host := "") (Or.inl (ww 162 rfl)) Via.refl e2 r2 (g := (mkF m 10 #[vR a1, vR at_, vI 0, .unset, .unset, .unset, .unset] [(.ref a1)])) rfl rfl (bb d21_10)
  obtain ⟨cq4, q4, q4'⟩ := (r0).cell
  obtain ⟨_, _, ⟨T4, L4, k4, n4⟩, -, X4, ⟨Lc4, hQ4, l4, y4, z4⟩, st4⟩ := X3.privateBack hx (y := (⟨cRV, "makeRoom", "(II)V"⟩ : MethodName)) hown (mvT hZ (ww 184 rfl)) (mvT hZ (ww 185 rfl)) (own_sel (mvT hZ (ww 61 rfl)) (mvT hZ (ww 185 rfl)) (mvP hZ (ww 186 rfl)) (by decide)) (Cond.privateMethod_at (mvP hZ (ww 186 rfl) (args := #[]))) (mvT hZ (ww 187 rfl)) (by decide) (backOf (W := 0) (rm_room1N2 l Z a0 hw [] wDE a1 ow on ob ol oh ov kw_ kn_ kb_ kl_ kh_ kv_ eb0 el0 eu0 ev0_0 ev1_0 ex2 ex3 ex4 ex5 ex6 ex7 h0 n0 (own_z0 O0) S_wDE O0 S_CS r0 r1 r3 r4 r8 r10 r15) hZ (ww 187 rfl) (ww 62 rfl) (by decide) (by decide)) (g := (mkF m 31 #[vR a1, vR at_, vI 0, vI 2, .unset, .unset, .unset] [(.int 2), (.int 0), (.ref a1)])) rfl (by rw [hml]; rfl) (Steps.refl _) (a := a1) (by rw [e3]; exact q4) q4' (argsL := [(.int 0), (.int 2)]) (rest := []) (lenOf pd__II_V_5 rfl) rfl (by show 2 * 0 + _ ≤ _; exact Nat.le_of_eq rfl) (bb d21_31) (fun _ _ => ⟨rfl, e3, (by decide : 0 + 0 ≤ _), (by decide : 0 + 0 ≤ _)⟩)
  dsimp only [Pt.U, Pt.locs, Pt.cells, Pt.slots] at X4 l4 y4 z4 st4 hQ4
  subst l4 y4 z4
  obtain ⟨rfl, N4q, e4⟩ := hQ4
  have N4 := Fr.app N0 N4q
  obtain ⟨T5, X5, e5, st5⟩ := getF X4 hx hZ hown (host := "") (Or.inl (ww 73 rfl)) Via.refl e4 r4 (g := (mkF m 35 #[vR a1, vR at_, vI 0, vI 2, .unset, .unset, .unset] [(.ref a1)])) rfl rfl (bb d21_35)
  obtain ⟨cl6, Ar6, vq6, vS6, vN6, vH6, vG6⟩ := id r10
  have hin6 : ¬ (((0 : Int32) : Int32) < 0 ∨ cl6.slots.size ≤ ((0 : Int32) : Int32).toNatClampNeg) := inb_of vS6 ⟨by decide, by decide⟩
  obtain ⟨cq7, q7, q7'⟩ := (r0).cell
  obtain ⟨_, _, ⟨T7, L7, k7, n7⟩, -, X7, ⟨Lc7, hQ7, l7, y7, z7⟩, st7⟩ := X5.privateBack hx (y := (⟨cRV, "fit", "(II[I)V"⟩ : MethodName)) hown (mvT hZ (ww 191 rfl)) (mvT hZ (ww 192 rfl)) (own_sel (mvT hZ (ww 61 rfl)) (mvT hZ (ww 192 rfl)) (mvP hZ (ww 193 rfl)) (by decide)) (Cond.privateMethod_at (mvP hZ (ww 193 rfl) (args := #[]))) (mvT hZ (ww 194 rfl)) (by decide) (backOf (W := 0) (rm_fitW1_2 l Z a0 hw [] wDE a1 at_ ow on ob ol oh ov kw_ kn_ kb_ kl_ kh_ kv_ eb0 el0 eu0 ev0_0 ev1_0 ex2 ex3 ex4 ex5 ex6 ex7 kt_ et0 h0 n0 (own_z0 O0) S_wDE O0 S_CS r0 r1 r2 r3 r4 r5 r6 r7 r8 r9 r10 r11 r12 r13 r14 r15 r16 g_ow g_on ne_a1_ow ne_a1_on ne_a1_ob ne_a1_ol ne_a1_oh ne_a1_ov ne_ow_on ne_ow_ob ne_ow_ol ne_ow_oh ne_ow_ov ne_on_ob ne_on_ol ne_on_oh ne_on_ov ne_ob_ol ne_ob_oh ne_ob_ov ne_ol_oh ne_ol_ov ne_oh_ov ne_at__a1 ne_at__ow ne_at__on ne_at__ob ne_at__ol ne_at__oh ne_at__ov hIn0_0 hIn1_0 hWd) hZ (ww 194 rfl) (ww 62 rfl) (by decide) (by decide)) (g := (mkF m 47 #[vR a1, vR at_, vI 0, vI 2, .unset, .unset, .unset] [(.ref at_), (.int 2), (.int 0), (.ref a1)])) rfl (by rw [hml]; rfl) (Steps.refl _) (a := a1) (by rw [e5]; exact q7) q7' (argsL := [(.int 0), (.int 2), (.ref at_)]) (rest := []) (lenOf pd__II_I_V_7 rfl) rfl (by show 2 * 0 + _ ≤ _; exact Nat.le_of_eq rfl) (bb d21_47) (fun _ _ => ⟨rfl, e5, (by decide : 0 + 1 ≤ _), (by decide : 0 + 8 ≤ _)⟩)
  dsimp only [Pt.U, Pt.locs, Pt.cells, Pt.slots] at X7 l7 y7 z7 st7 hQ7
  subst l7 y7 z7
  obtain ⟨oz7, kz_7, rfl, N7q, K7, szz_oz7, f7_0, f7_1, f7_2⟩ := hQ7
  have N7 := Fr.app N4 N7q
  have g_oz7 : n0 ≤ oz7 := Nat.le_trans (own_z0 O0) szz_oz7
  have sz_oz7 : h0.size ≤ oz7 := Nat.le_trans (Nat.le_refl _) szz_oz7
  have ne_a1_oz7 : a1 ≠ oz7 := Nat.ne_of_lt (Nat.lt_of_lt_of_le r0.lt szz_oz7)
  have ne_ow_oz7 : ow ≠ oz7 := Nat.ne_of_lt (Nat.lt_of_lt_of_le r8.lt szz_oz7)
  have ne_on_oz7 : on ≠ oz7 := Nat.ne_of_lt (Nat.lt_of_lt_of_le r10.lt szz_oz7)
  have ne_ob_oz7 : ob ≠ oz7 := Nat.ne_of_lt (Nat.lt_of_lt_of_le r12.lt szz_oz7)
  have ne_ol_oz7 : ol ≠ oz7 := Nat.ne_of_lt (Nat.lt_of_lt_of_le r13.lt szz_oz7)
  have ne_oh_oz7 : oh ≠ oz7 := Nat.ne_of_lt (Nat.lt_of_lt_of_le r14.lt szz_oz7)
  have ne_ov_oz7 : ov ≠ oz7 := Nat.ne_of_lt (Nat.lt_of_lt_of_le r15.lt szz_oz7)
  have ne_at__oz7 : at_ ≠ oz7 := Nat.ne_of_lt (Nat.lt_of_lt_of_le r16.lt szz_oz7)
  have F9 := (r1.keep K7 (ninS ne_a1_ow (ninS ne_a1_on nin0)))
  obtain ⟨T8, X8, e8, st8⟩ := getF X7 hx hZ hown (host := "") (Or.inl (ww 75 rfl)) Via.refl rfl F9 (g := (mkF m 52 #[vR a1, vR at_, vI 0, vI 2, .unset, .unset, .unset] [(.ref a1), (.int 2)])) rfl rfl (bb d21_52)
  have F11 := (r4.keep K7 (ninS ne_a1_ow (ninS ne_a1_on nin0)))
  obtain ⟨T10, X10, e10, st10⟩ := getF X8 hx hZ hown (host := "") (Or.inl (ww 73 rfl)) Via.refl e8 F11 (g := (mkF m 59 #[vR a1, vR at_, vI 0, vI 2, vI 2, .unset, .unset] [(.ref a1)])) rfl rfl (bb d21_59)
  obtain ⟨cl12, Ar12, vq12, vS12, vN12, vH12, vG12⟩ := id f7_1
  have hin12 : ¬ (((0 : Int32) : Int32) < 0 ∨ cl12.slots.size ≤ ((0 : Int32) : Int32).toNatClampNeg) := inb_of vS12 ⟨by decide, by decide⟩
  obtain ⟨T13, X13, e13, st13⟩ := getF X10 hx hZ hown (host := "") (Or.inl (ww 75 rfl)) Via.refl e10 F9 (g := (mkF m 72 #[vR a1, vR at_, vI 0, vI 2, vI 2, .val .null, vI 0] [(.ref a1), (.int 0)])) rfl rfl (bb d21_72)
  have F15 := (r3.keep K7 (ninS ne_a1_ow (ninS ne_a1_on nin0)))
  obtain ⟨T14, X14, e14, st14⟩ := getF X13 hx hZ hown (host := "") (Or.inl (ww 69 rfl)) Via.refl e13 F15 (g := (mkF m 115 #[vR a1, vR at_, vI 0, vI 2, vI 2, .val .null, vI 0] [(.ref a1)])) rfl rfl (bb d21_115)
  obtain ⟨cl16, Ar16, vq16, vS16, vN16, vH16, vG16⟩ := id f7_0
  have hin16 : ¬ (((0 : Int32) : Int32) < 0 ∨ cl16.slots.size ≤ ((0 : Int32) : Int32).toNatClampNeg) := inb_of vS16 ⟨by decide, by decide⟩
  have F17 := (r16.keep K7 (ninS ne_at__ow (ninS ne_at__on nin0)))
  obtain ⟨cl18, Ar18, vq18, vS18, vN18, vH18, vG18⟩ := id F17
  have hin18 : ¬ (((0 : Int32) : Int32) < 0 ∨ cl18.slots.size ≤ ((0 : Int32) : Int32).toNatClampNeg) := inb_of vS18 ⟨by decide, by decide⟩
  obtain ⟨cl19, Ar19, vq19, vS19, vN19, vH19, vG19⟩ := id f7_2
  have hin19 : ¬ (((2 : Int32) : Int32) < 0 ∨ cl19.slots.size ≤ ((2 : Int32) : Int32).toNatClampNeg) := inb_of vS19 ⟨by decide, by decide⟩
  obtain ⟨T19, h19, X19, e19, W19, st19⟩ := stI X14 hx hZ e14 Ar19 (j := (2 : Int32)) hin19 (g := (mkF m 129 #[vR a1, vR at_, vI 0, vI 2, vI 2, .val .null, vI 0] [(.int et0), (.int 2), (.ref oz7)])) rfl rfl (bb d21_129)
  have V19 : Arv Z h19 oz7 kz_7 .int (8 : Int32) [(.int ev0_0), (.int ev1_0), (.int et0), (.int 0), (.int 0), (.int 0), (.int 0), (.int 0)] (.int 0) := Arv.set Ar19 vq19 vS19 vN19 vH19 vG19 rfl W19 2 rfl (Nat.le_of_ble_eq_true rfl)
  have N19 := Fr.snoc X19 N7 g_oz7
  have F21 := (F9.other W19 (Or.inl ne_a1_oz7))
  obtain ⟨T20, X20, e20, st20⟩ := getF X19 hx hZ hown (host := "") (Or.inl (ww 75 rfl)) Via.refl e19 F21 (g := (mkF m 72 #[vR a1, vR at_, vI 0, vI 2, vI 2, .val .null, vI 1] [(.ref a1), (.int 1)])) rfl rfl (bb d21_72)
  have F23 := ((r2.keep K7 (ninS ne_a1_ow (ninS ne_a1_on nin0))).other W19 (Or.inl ne_a1_oz7))
  obtain ⟨T22, X22, e22, st22⟩ := getF X20 hx hZ hown (host := "") (Or.inl (ww 162 rfl)) Via.refl e20 F23 (g := (mkF m 138 #[vR a1, vR at_, vI 0, vI 2, vI 2, .val .null, vI 1] [(.ref a1), (.ref a1)])) rfl rfl (bb d21_138)
  have F25 := ((r0.keep K7).wr W19)
  obtain ⟨T24, h24, X24, e24, W24, st24⟩ := putF X22 hx hZ hown (host := "") (Or.inl (ww 162 rfl)) Via.refl e22 F23 F25 (Or.inl (ww 163 rfl)) (ww 61 rfl) (ty := .int) (by decide) rfl rfl (g := (mkF m 143 #[vR a1, vR at_, vI 0, vI 2, vI 2, .val .null, vI 1] [(.int 3), (.ref a1)])) rfl rfl (bb d21_143)
  have Fw24 := F23.same W24
  have N24 := Fr.snoc X24 N19 g_a1
  have F26 := (F25.wr W24)
  have F27 := (F21.other W24 (Or.inr (slot_ne (Or.inr (ww 76 rfl)) (Or.inl (ww 163 rfl)) (by decide) (t := .int) (t' := .int) (by decide) (by decide))))
  have F28 := ((F15.other W19 (Or.inl ne_a1_oz7)).other W24 (Or.inr (slot_ne (Or.inl (ww 70 rfl)) (Or.inl (ww 163 rfl)) (by decide) (t := (.array (.array .int))) (t' := .int) (by decide) (by decide))))
  have F29 := ((F11.other W19 (Or.inl ne_a1_oz7)).other W24 (Or.inr (slot_ne (Or.inl (ww 74 rfl)) (Or.inl (ww 163 rfl)) (by decide) (t := (.array (.array .char))) (t' := .int) (by decide) (by decide))))
  have F30 := (((r5.keep K7 (ninS ne_a1_ow (ninS ne_a1_on nin0))).other W19 (Or.inl ne_a1_oz7)).other W24 (Or.inr (slot_ne (Or.inl (ww 78 rfl)) (Or.inl (ww 163 rfl)) (by decide) (t := (.array .int)) (t' := .int) (by decide) (by decide))))
  have F31 := (((r6.keep K7 (ninS ne_a1_ow (ninS ne_a1_on nin0))).other W19 (Or.inl ne_a1_oz7)).other W24 (Or.inr (slot_ne (Or.inr (ww 80 rfl)) (Or.inl (ww 163 rfl)) (by decide) (t := (.array .int)) (t' := .int) (by decide) (by decide))))
  have F32 := (((r7.keep K7 (ninS ne_a1_ow (ninS ne_a1_on nin0))).other W19 (Or.inl ne_a1_oz7)).other W24 (Or.inr (slot_ne (Or.inr (ww 82 rfl)) (Or.inl (ww 163 rfl)) (by decide) (t := (.array .int)) (t' := .int) (by decide) (by decide))))
  have F33 := ((f7_0.other W19 ne_ow_oz7).other W24 (Ne.symm ne_a1_ow))
  have F34 := ((f7_1.other W19 ne_on_oz7).other W24 (Ne.symm ne_a1_on))
  have F35 := (((r12.keep K7 (ninS (Ne.symm ne_ow_ob) (ninS (Ne.symm ne_on_ob) nin0))).other W19 ne_ob_oz7).other W24 (Ne.symm ne_a1_ob))
  have F36 := (((r13.keep K7 (ninS (Ne.symm ne_ow_ol) (ninS (Ne.symm ne_on_ol) nin0))).other W19 ne_ol_oz7).other W24 (Ne.symm ne_a1_ol))
  have F37 := (((r14.keep K7 (ninS (Ne.symm ne_ow_oh) (ninS (Ne.symm ne_on_oh) nin0))).other W19 ne_oh_oz7).other W24 (Ne.symm ne_a1_oh))
  have F38 := (V19.other W24 (Ne.symm ne_a1_oz7))
  obtain ⟨fs, hr, hrun, hended, hW, hsame⟩ := X24.leave (v := none) (fun _ => rfl)
  refine ⟨_, _, pre0 _ ?_, hrun, hended, _, _, rfl, ?_, ⟨_, rfl⟩, hW, hsame.mono (by decide) (by decide)⟩
  · show GG p e below s₁ (mkF m 0 #[vR a1, vR at_, .unset, .unset, .unset, .unset, .unset] []) _
    refine XS.aloadN X0.here hx rfl (bb d21_0) rfl rfl ?_
    refine st1 _ ?_
    refine st2 _ ?_
    refine XS.iushr X2.here hx rfl (bb d21_7) rfl ?_
    refine XS.istoreN X2.here hx rfl (bb d21_8) rfl (l' := #[vR a1, vR at_, vI 0, .unset, .unset, .unset, .unset]) rfl ?_
    refine XS.aloadN X2.here hx rfl (bb d21_9) rfl rfl ?_
    refine st3 _ ?_
    refine XS.sipush X3.here hx rfl (bb d21_13) ?_
    refine XS.iand X3.here hx rfl (bb d21_16) rfl ?_
    refine XS.istoreN X3.here hx rfl (bb d21_17) rfl (l' := #[vR a1, vR at_, vI 0, vI 2, .unset, .unset, .unset]) rfl ?_
    refine XS.iloadN X3.here hx rfl (bb d21_18) rfl ?_
    refine XS.ifYes X3.here hx rfl (pc0 := 19) (pc' := 28) rfl (bb d21_19) rfl ((if0 _ _).trans (feq (by decide : ¬ ((2 : Int32) = (0 : Int32)))).2) (by decide) (by decide) ?_
    refine XS.aloadN X3.here hx rfl (bb d21_28) rfl rfl ?_
    refine XS.iloadN X3.here hx rfl (bb d21_29) rfl ?_
    refine XS.iloadN X3.here hx rfl (bb d21_30) rfl ?_
    refine st4.trans ?_
    refine XS.aloadN X4.here hx rfl (bb d21_34) rfl rfl ?_
    refine st5 _ ?_
    refine XS.iloadN X5.here hx rfl (bb d21_38) rfl ?_
    refine X5.aaload hx (j := (0 : Int32)) (v := (.ref ov)) (by rw [e5]; exact Ar6.1) (State.isArrayOf_alike hZ.alike Ar6.2.1) rfl Ar6.2.2 hin6 (vH6.at hin6 rfl) (g := (mkF m 39 #[vR a1, vR at_, vI 0, vI 2, .unset, .unset, .unset] [(.int 0), (.ref on)])) rfl rfl (bb d21_39) _ ?_
    refine XS.ifnullNo X5.here hx rfl (bb d21_40) rfl ?_
    refine XS.aloadN X5.here hx rfl (bb d21_43) rfl rfl ?_
    refine XS.iloadN X5.here hx rfl (bb d21_44) rfl ?_
    refine XS.iloadN X5.here hx rfl (bb d21_45) rfl ?_
    refine XS.aloadN X5.here hx rfl (bb d21_46) rfl rfl ?_
    refine st7.trans ?_
    refine XS.iloadN X7.here hx rfl (bb d21_50) rfl ?_
    refine XS.aloadN X7.here hx rfl (bb d21_51) rfl rfl ?_
    refine st8 _ ?_
    refine XS.imul X8.here hx rfl (bb d21_55) rfl ?_
    refine XS.istore X8.here hx rfl (bb d21_56) rfl (l' := #[vR a1, vR at_, vI 0, vI 2, vI 2, .unset, .unset]) rfl ?_
    refine XS.aloadN X8.here hx rfl (bb d21_58) rfl rfl ?_
    refine st10 _ ?_
    refine XS.iloadN X10.here hx rfl (bb d21_62) rfl ?_
    refine X10.aaload hx (j := (0 : Int32)) (v := .null) (by rw [e10]; exact Ar12.1) (State.isArrayOf_alike hZ.alike Ar12.2.1) rfl Ar12.2.2 hin12 (vH12.at hin12 rfl) (g := (mkF m 63 #[vR a1, vR at_, vI 0, vI 2, vI 2, .unset, .unset] [(.int 0), (.ref on)])) rfl rfl (bb d21_63) _ ?_
    refine XS.astore X10.here hx rfl (bb d21_64) rfl rfl (l' := #[vR a1, vR at_, vI 0, vI 2, vI 2, .val .null, .unset]) rfl ?_
    refine XS.iconst X10.here hx rfl (bb d21_66) ?_
    refine XS.istore X10.here hx rfl (bb d21_67) rfl (l' := #[vR a1, vR at_, vI 0, vI 2, vI 2, .val .null, vI 0]) rfl ?_
    refine XS.iload X10.here hx rfl (bb d21_69) rfl ?_
    refine XS.aloadN X10.here hx rfl (bb d21_71) rfl rfl ?_
    refine st13 _ ?_
    refine XS.icmpNo X13.here hx rfl (bb d21_75) rfl (tlt (by decide : (0 : Int32) < (1 : Int32))).2.1 ?_
    refine XS.aload X13.here hx rfl (bb d21_78) rfl rfl ?_
    refine XS.ifnullYes X13.here hx rfl (pc0 := 80) (pc' := 114) rfl (bb d21_80) rfl (by decide) (by decide) ?_
    refine XS.aloadN X13.here hx rfl (bb d21_114) rfl rfl ?_
    refine st14 _ ?_
    refine XS.iloadN X14.here hx rfl (bb d21_118) rfl ?_
    refine X14.aaload hx (j := (0 : Int32)) (v := (.ref oz7)) (by rw [e14]; exact Ar16.1) (State.isArrayOf_alike hZ.alike Ar16.2.1) rfl Ar16.2.2 hin16 (vH16.at hin16 rfl) (g := (mkF m 119 #[vR a1, vR at_, vI 0, vI 2, vI 2, .val .null, vI 0] [(.int 0), (.ref ow)])) rfl rfl (bb d21_119) _ ?_
    refine XS.iload X14.here hx rfl (bb d21_120) rfl ?_
    refine XS.iload X14.here hx rfl (bb d21_122) rfl ?_
    refine XS.iadd X14.here hx rfl (bb d21_124) rfl ?_
    refine XS.aloadN X14.here hx rfl (bb d21_125) rfl rfl ?_
    refine XS.iload X14.here hx rfl (bb d21_126) rfl ?_
    refine X14.iaload hx (j := (0 : Int32)) (v := (.int et0)) (by rw [e14]; exact Ar18.1) (State.isArrayOf_alike hZ.alike Ar18.2.1) Ar18.2.2 hin18 (vH18.at hin18 rfl) (g := (mkF m 128 #[vR a1, vR at_, vI 0, vI 2, vI 2, .val .null, vI 0] [(.int 0), (.ref at_), (.int 2), (.ref oz7)])) rfl rfl (bb d21_128) _ ?_
    refine st19 _ ?_
    refine XS.iinc X19.here hx rfl (bb d21_130) rfl (l' := #[vR a1, vR at_, vI 0, vI 2, vI 2, .val .null, vI 1]) rfl ?_
    refine XS.goto X19.here hx rfl (pc0 := 133) (pc' := 69) rfl (bb d21_133) (by decide) (by decide) ?_
    refine XS.iload X19.here hx rfl (bb d21_69) rfl ?_
    refine XS.aloadN X19.here hx rfl (bb d21_71) rfl rfl ?_
    refine st20 _ ?_
    refine XS.icmpYes X20.here hx rfl (pc0 := 75) (pc' := 136) rfl (bb d21_75) rfl (flt (by decide : ¬ ((1 : Int32) < (1 : Int32)))).2.1 (by decide) (by decide) ?_
    refine XS.aloadN X20.here hx rfl (bb d21_136) rfl rfl ?_
    refine XS.dup X20.here hx rfl (bb d21_137) rfl rfl ?_
    refine st22 _ ?_
    refine XS.iconst X22.here hx rfl (bb d21_141) ?_
    refine XS.iadd X22.here hx rfl (bb d21_142) rfl ?_
    refine st24 _ ?_
    exact X24.returnOut hx Bd.returns (bb d21_146) hr
  · show Q_add1W2 Z wDE a1 at_ ow on ob ol oh ov kw_ kn_ kb_ kl_ kh_ kv_ eb0 el0 eu0 ev0_0 ev1_0 ex2 ex3 ex4 ex5 ex6 ex7 kt_ et0 h0 n0 _ T24.heap _
    rw [e24]
    exact ⟨oz7, kz_7, rfl, N24, ((((Keep.refl h0 [a1, ow, on]).trans K7 (allS (Or.inl (List.mem_of_getElem? (i := 1) rfl)) (allS (Or.inl (List.mem_of_getElem? (i := 2) rfl)) all0))).wr W19 (Or.inr sz_oz7)).wr W24 (Or.inl (List.mem_of_getElem? (i := 0) rfl))), sz_oz7, F26, F27, Fw24, F28, F29, F30, F31, F32, F33, r9, F34, r11, F35, F36, F37, F38⟩
def Q_add1WW2 (Z : State) (wDE a1 at_ ow on ob ol oh oz : Addr) (kw_ kn_ kb_ kl_ kh_ kz_ : ClassId) (eb0 el0 eu0 ev0_0 ev1_0 ex2 ex3 ex4 ex5 ex6 ex7 : Int32) (kt_ : ClassId) (et0 : Int32) (h0 : Heap) (n0 : Nat) (v : Option Value) (h : Heap) (L : List Loc) : Prop := v = none ∧ Fr n0 L ∧ Keep h0 h [a1, oz] ∧ Exa Z h a1 cRV ∧ Fld Z h a1 cRV "arity" "I" (.int 1) ∧ Fld Z h a1 cRV "rows" "I" (.int 3) ∧ Fld Z h a1 cRV "wide" "[[I" (.ref ow) ∧ Fld Z h a1 cRV "narrow" "[[C" (.ref on) ∧ Fld Z h a1 cRV "bases" "[I" (.ref ob) ∧ Fld Z h a1 cRV "lowest" "[I" (.ref ol) ∧ Fld Z h a1 cRV "highest" "[I" (.ref oh) ∧ Arv Z h ow kw_ (.array .int) (1 : Int32) [(.ref oz)] .null ∧ OvrA Z kw_ .int "[I" ∧ Arv Z h on kn_ (.array .char) (1 : Int32) [.null] .null ∧ OvrA Z kn_ .char "[C" ∧ Arv Z h ob kb_ .int (1 : Int32) [(.int eb0)] (.int 0) ∧ Arv Z h ol kl_ .int (1 : Int32) [(.int el0)] (.int 0) ∧ Arv Z h oh kh_ .int (1 : Int32) [(.int eu0)] (.int 0) ∧ Arv Z h oz kz_ .int (8 : Int32) [(.int ev0_0), (.int ev1_0), (.int et0), (.int ex3), (.int ex4), (.int ex5), (.int ex6), (.int ex7)] (.int 0)
set_option maxRecDepth 65536 in
set_option maxHeartbeats 40000000 in
theorem rm_add1WW2 (l : Launch) (Z : State) (a0 : Array Value) (hw : ∀ d ∈ tables_1, d.before a0 Z = true) (ws : List Jvm.Cond) (wDE : Addr) (a1 at_ ow on ob ol oh oz : Addr) (kw_ kn_ kb_ kl_ kh_ kz_ : ClassId) (eb0 el0 eu0 ev0_0 ev1_0 ex2 ex3 ex4 ex5 ex6 ex7 : Int32) (kt_ : ClassId) (et0 : Int32) (h0 : Heap) (n0 : Nat) (Z0 : n0 ≤ h0.size) (S_wDE : Sta Z Z.heap "java/util/ArrayList" "DEFAULTCAPACITY_EMPTY_ELEMENTDATA" "[Ljava/lang/Object;" (.ref wDE)) (O0 : Old Z n0 h0) (S_CS : Sta Z Z.heap cRV "CHUNK_SHIFT" "I" (.int (12 : Int32))) (r0 : Exa Z h0 a1 cRV) (r1 : Fld Z h0 a1 cRV "arity" "I" (.int 1)) (r2 : Fld Z h0 a1 cRV "rows" "I" (.int 2)) (r3 : Fld Z h0 a1 cRV "wide" "[[I" (.ref ow)) (r4 : Fld Z h0 a1 cRV "narrow" "[[C" (.ref on)) (r5 : Fld Z h0 a1 cRV "bases" "[I" (.ref ob)) (r6 : Fld Z h0 a1 cRV "lowest" "[I" (.ref ol)) (r7 : Fld Z h0 a1 cRV "highest" "[I" (.ref oh)) (r8 : Arv Z h0 ow kw_ (.array .int) (1 : Int32) [(.ref oz)] .null) (r9 : OvrA Z kw_ .int "[I") (r10 : Arv Z h0 on kn_ (.array .char) (1 : Int32) [.null] .null) (r11 : OvrA Z kn_ .char "[C") (r12 : Arv Z h0 ob kb_ .int (1 : Int32) [(.int eb0)] (.int 0)) (r13 : Arv Z h0 ol kl_ .int (1 : Int32) [(.int el0)] (.int 0)) (r14 : Arv Z h0 oh kh_ .int (1 : Int32) [(.int eu0)] (.int 0)) (r15 : Arv Z h0 oz kz_ .int (8 : Int32) [(.int ev0_0), (.int ev1_0), (.int ex2), (.int ex3), (.int ex4), (.int ex5), (.int ex6), (.int ex7)] (.int 0)) (r16 : Arv Z h0 at_ kt_ .int (1 : Int32) [(.int et0)] (.int 0)) (g_a1 : n0 ≤ a1) (g_oz : n0 ≤ oz) (ne_a1_ow : a1 ≠ ow) (ne_a1_on : a1 ≠ on) (ne_a1_ob : a1 ≠ ob) (ne_a1_ol : a1 ≠ ol) (ne_a1_oh : a1 ≠ oh) (ne_a1_oz : a1 ≠ oz) (ne_ow_on : ow ≠ on) (ne_ow_ob : ow ≠ ob) (ne_ow_ol : ow ≠ ol) (ne_ow_oh : ow ≠ oh) (ne_ow_oz : ow ≠ oz) (ne_on_ob : on ≠ ob) (ne_on_ol : on ≠ ol) (ne_on_oh : on ≠ oh) (ne_on_oz : on ≠ oz) (ne_ob_ol : ob ≠ ol) (ne_ob_oh : ob ≠ oh) (ne_ob_oz : ob ≠ oz) (ne_ol_oh : ol ≠ oh) (ne_ol_oz : ol ≠ oz) (ne_oh_oz : oh ≠ oz) (ne_at__a1 : at_ ≠ a1) (ne_at__ow : at_ ≠ ow) (ne_at__on : at_ ≠ on) (ne_at__ob : at_ ≠ ob) (ne_at__ol : at_ ≠ ol) (ne_at__oh : at_ ≠ oh) (ne_at__oz : at_ ≠ oz) :
    MetFree l (⟨cRV, "add", "([I)V"⟩ : MethodName) (head1 (Jvm.Cond.code (⟨cRV, "add", "([I)V"⟩ : MethodName) prog_48_method_4_code 7 none :: ws) ({ frames := 3, cells := 1, slots := 8, locals := 58 } : Room)) (fun a U => a = #[(.ref a1), (.ref at_)] ∧ Z.Warmed39 U.vm ∧ U.heap = h0) (fun _ _ _ _ _ => True) (fun _ U o U' => ∃ v L, o = .returned v ∧ Q_add1WW2 Z wDE a1 at_ ow on ob ol oh oz kw_ kn_ kb_ kl_ kh_ kz_ eb0 el0 eu0 ev0_0 ev1_0 ex2 ex3 ex4 ex5 ex6 ex7 kt_ et0 h0 n0 v U'.heap L ∧ FrameEnd U o U' L ({ frames := 3, cells := 1, slots := 8, locals := 58 } : Room).cells ({ frames := 3, cells := 1, slots := 8, locals := 58 } : Room).slots) := by
  refine MetFree.of_bodySF (plainFor_of_name pn_RowValues) hisR ?_
  intro p e s m args below meth c s₁ Bd hml0 hP hK
  obtain ⟨rfl, hZ, hh⟩ := hP
  have hx := Bd.exec
  have hby := Bd.bytes
  have bb := fun {pc : Nat} {r : Except DecodeError (Instr × Nat)} (h : decode prog_48_method_4_code pc = r) => hb hby h
  have ww := fun (i : Nat) {d : Jvm.Cond} (h : tables_1[i]? = some d) => hw d (List.mem_of_getElem? h)
  have hml : c.maxLocals = 7 := hml0
  have hown : s.vm.findClass cRV = some m.cls := findClass_of_methodNamed Bd.named
  have hnm := (name_of_methodNamed Bd.named Bd.method).1
  have X0 : Stand p l e ({ frames := 3, cells := 1, slots := 8, locals := 58 } : Room) s m #[(.ref a1), (.ref at_)] below meth c s₁ [] 0 0 := Stand.of_body Bd
  have e0 : s₁.heap = h0 := by rw [← hh, Bd.state]; rfl
  have N0 := Fr.nil n0
  have pre0 : ∀ t, Steps p.tables e below (s₁.setTop (mkF m 0 #[vR a1, vR at_, .unset, .unset, .unset, .unset, .unset] [])) t → Steps p.tables e below (s₁.setTop (entryFrame m #[(.ref a1), (.ref at_)] 7)) t := fun t k => castTop (ef_add1WW2 m a1 at_) k
  obtain ⟨T1, X1, e1, st1⟩ := getF X0 hx hZ hown (host := "") (Or.inl (ww 162 rfl)) Via.refl e0 r2 (g := (mkF m 1 #[vR a1, vR at_, .unset, .unset, .unset, .unset, .unset] [(.ref a1)])) rfl rfl (bb d21_1)
  obtain ⟨T2, X2, e2, st2⟩ := getS2 X1 hx hZ hown (host := "") (Or.inl (ww 164 rfl)) Via.refl e1 (S_CS.ext O0.2) (g := (mkF m 4 #[vR a1, vR at_, .unset, .unset, .unset, .unset, .unset] [(.int 2)])) rfl (bb d21_4)
  obtain ⟨T3, X3, e3, st3⟩ := getF X2 hx hZ hown (host := "") (Or.inl (ww 162 rfl)) Via.refl e2 r2 (g := (mkF m 10 #[vR a1, vR at_, vI 0, .unset, .unset, .unset, .unset] [(.ref a1)])) rfl rfl (bb d21_10)
  obtain ⟨cq4, q4, q4'⟩ := (r0).cell
  obtain ⟨_, _, ⟨T4, L4, k4, n4⟩, -, X4, ⟨Lc4, hQ4, l4, y4, z4⟩, st4⟩ := X3.privateBack hx (y := (⟨cRV, "makeRoom", "(II)V"⟩ : MethodName)) hown (mvT hZ (ww 184 rfl)) (mvT hZ (ww 185 rfl)) (own_sel (mvT hZ (ww 61 rfl)) (mvT hZ (ww 185 rfl)) (mvP hZ (ww 186 rfl)) (by decide)) (Cond.privateMethod_at (mvP hZ (ww 186 rfl) (args := #[]))) (mvT hZ (ww 187 rfl)) (by decide) (backOf (W := 0) (rm_room1W2 l Z a0 hw [] wDE a1 ow on ob ol oh oz kw_ kn_ kb_ kl_ kh_ kz_ eb0 el0 eu0 ev0_0 ev1_0 ex2 ex3 ex4 ex5 ex6 ex7 h0 n0 (own_z0 O0) S_wDE O0 S_CS r0 r1 r3 r4 r8 r10 r15) hZ (ww 187 rfl) (ww 62 rfl) (by decide) (by decide)) (g := (mkF m 31 #[vR a1, vR at_, vI 0, vI 2, .unset, .unset, .unset] [(.int 2), (.int 0), (.ref a1)])) rfl (by rw [hml]; rfl) (Steps.refl _) (a := a1) (by rw [e3]; exact q4) q4' (argsL := [(.int 0), (.int 2)]) (rest := []) (lenOf pd__II_V_5 rfl) rfl (by show 2 * 0 + _ ≤ _; exact Nat.le_of_eq rfl) (bb d21_31) (fun _ _ => ⟨rfl, e3, (by decide : 0 + 0 ≤ _), (by decide : 0 + 0 ≤ _)⟩)
  dsimp only [Pt.U, Pt.locs, Pt.cells, Pt.slots] at X4 l4 y4 z4 st4 hQ4
  subst l4 y4 z4
  obtain ⟨rfl, N4q, e4⟩ := hQ4
  have N4 := Fr.app N0 N4q
  obtain ⟨T5, X5, e5, st5⟩ := getF X4 hx hZ hown (host := "") (Or.inl (ww 73 rfl)) Via.refl e4 r4 (g := (mkF m 35 #[vR a1, vR at_, vI 0, vI 2, .unset, .unset, .unset] [(.ref a1)])) rfl rfl (bb d21_35)
  obtain ⟨cl6, Ar6, vq6, vS6, vN6, vH6, vG6⟩ := id r10
  have hin6 : ¬ (((0 : Int32) : Int32) < 0 ∨ cl6.slots.size ≤ ((0 : Int32) : Int32).toNatClampNeg) := inb_of vS6 ⟨by decide, by decide⟩
  obtain ⟨T7, X7, e7, st7⟩ := getF X5 hx hZ hown (host := "") (Or.inl (ww 75 rfl)) Via.refl e5 r1 (g := (mkF m 52 #[vR a1, vR at_, vI 0, vI 2, .unset, .unset, .unset] [(.ref a1), (.int 2)])) rfl rfl (bb d21_52)
  obtain ⟨T8, X8, e8, st8⟩ := getF X7 hx hZ hown (host := "") (Or.inl (ww 73 rfl)) Via.refl e7 r4 (g := (mkF m 59 #[vR a1, vR at_, vI 0, vI 2, vI 2, .unset, .unset] [(.ref a1)])) rfl rfl (bb d21_59)
  obtain ⟨cl9, Ar9, vq9, vS9, vN9, vH9, vG9⟩ := id r10
  have hin9 : ¬ (((0 : Int32) : Int32) < 0 ∨ cl9.slots.size ≤ ((0 : Int32) : Int32).toNatClampNeg) := inb_of vS9 ⟨by decide, by decide⟩
  obtain ⟨T10, X10, e10, st10⟩ := getF X8 hx hZ hown (host := "") (Or.inl (ww 75 rfl)) Via.refl e8 r1 (g := (mkF m 72 #[vR a1, vR at_, vI 0, vI 2, vI 2, .val .null, vI 0] [(.ref a1), (.int 0)])) rfl rfl (bb d21_72)
  obtain ⟨T11, X11, e11, st11⟩ := getF X10 hx hZ hown (host := "") (Or.inl (ww 69 rfl)) Via.refl e10 r3 (g := (mkF m 115 #[vR a1, vR at_, vI 0, vI 2, vI 2, .val .null, vI 0] [(.ref a1)])) rfl rfl (bb d21_115)
  obtain ⟨cl12, Ar12, vq12, vS12, vN12, vH12, vG12⟩ := id r8
  have hin12 : ¬ (((0 : Int32) : Int32) < 0 ∨ cl12.slots.size ≤ ((0 : Int32) : Int32).toNatClampNeg) := inb_of vS12 ⟨by decide, by decide⟩
  obtain ⟨cl13, Ar13, vq13, vS13, vN13, vH13, vG13⟩ := id r16
  have hin13 : ¬ (((0 : Int32) : Int32) < 0 ∨ cl13.slots.size ≤ ((0 : Int32) : Int32).toNatClampNeg) := inb_of vS13 ⟨by decide, by decide⟩
  obtain ⟨cl14, Ar14, vq14, vS14, vN14, vH14, vG14⟩ := id r15
  have hin14 : ¬ (((2 : Int32) : Int32) < 0 ∨ cl14.slots.size ≤ ((2 : Int32) : Int32).toNatClampNeg) := inb_of vS14 ⟨by decide, by decide⟩
  obtain ⟨T14, h14, X14, e14, W14, st14⟩ := stI X11 hx hZ e11 Ar14 (j := (2 : Int32)) hin14 (g := (mkF m 129 #[vR a1, vR at_, vI 0, vI 2, vI 2, .val .null, vI 0] [(.int et0), (.int 2), (.ref oz)])) rfl rfl (bb d21_129)
  have V14 : Arv Z h14 oz kz_ .int (8 : Int32) [(.int ev0_0), (.int ev1_0), (.int et0), (.int ex3), (.int ex4), (.int ex5), (.int ex6), (.int ex7)] (.int 0) := Arv.set Ar14 vq14 vS14 vN14 vH14 vG14 rfl W14 2 rfl (Nat.le_of_ble_eq_true rfl)
  have N14 := Fr.snoc X14 N4 g_oz
  have F16 := (r1.other W14 (Or.inl ne_a1_oz))
  obtain ⟨T15, X15, e15, st15⟩ := getF X14 hx hZ hown (host := "") (Or.inl (ww 75 rfl)) Via.refl e14 F16 (g := (mkF m 72 #[vR a1, vR at_, vI 0, vI 2, vI 2, .val .null, vI 1] [(.ref a1), (.int 1)])) rfl rfl (bb d21_72)
  have F18 := (r2.other W14 (Or.inl ne_a1_oz))
  obtain ⟨T17, X17, e17, st17⟩ := getF X15 hx hZ hown (host := "") (Or.inl (ww 162 rfl)) Via.refl e15 F18 (g := (mkF m 138 #[vR a1, vR at_, vI 0, vI 2, vI 2, .val .null, vI 1] [(.ref a1), (.ref a1)])) rfl rfl (bb d21_138)
  have F20 := (r0.wr W14)
  obtain ⟨T19, h19, X19, e19, W19, st19⟩ := putF X17 hx hZ hown (host := "") (Or.inl (ww 162 rfl)) Via.refl e17 F18 F20 (Or.inl (ww 163 rfl)) (ww 61 rfl) (ty := .int) (by decide) rfl rfl (g := (mkF m 143 #[vR a1, vR at_, vI 0, vI 2, vI 2, .val .null, vI 1] [(.int 3), (.ref a1)])) rfl rfl (bb d21_143)
  have Fw19 := F18.same W19
  have N19 := Fr.snoc X19 N14 g_a1
  have F21 := (F20.wr W19)
  have F22 := (F16.other W19 (Or.inr (slot_ne (Or.inr (ww 76 rfl)) (Or.inl (ww 163 rfl)) (by decide) (t := .int) (t' := .int) (by decide) (by decide))))
  have F23 := ((r3.other W14 (Or.inl ne_a1_oz)).other W19 (Or.inr (slot_ne (Or.inl (ww 70 rfl)) (Or.inl (ww 163 rfl)) (by decide) (t := (.array (.array .int))) (t' := .int) (by decide) (by decide))))
  have F24 := ((r4.other W14 (Or.inl ne_a1_oz)).other W19 (Or.inr (slot_ne (Or.inl (ww 74 rfl)) (Or.inl (ww 163 rfl)) (by decide) (t := (.array (.array .char))) (t' := .int) (by decide) (by decide))))
  have F25 := ((r5.other W14 (Or.inl ne_a1_oz)).other W19 (Or.inr (slot_ne (Or.inl (ww 78 rfl)) (Or.inl (ww 163 rfl)) (by decide) (t := (.array .int)) (t' := .int) (by decide) (by decide))))
  have F26 := ((r6.other W14 (Or.inl ne_a1_oz)).other W19 (Or.inr (slot_ne (Or.inr (ww 80 rfl)) (Or.inl (ww 163 rfl)) (by decide) (t := (.array .int)) (t' := .int) (by decide) (by decide))))
  have F27 := ((r7.other W14 (Or.inl ne_a1_oz)).other W19 (Or.inr (slot_ne (Or.inr (ww 82 rfl)) (Or.inl (ww 163 rfl)) (by decide) (t := (.array .int)) (t' := .int) (by decide) (by decide))))
  have F28 := ((r8.other W14 ne_ow_oz).other W19 (Ne.symm ne_a1_ow))
  have F29 := ((r10.other W14 ne_on_oz).other W19 (Ne.symm ne_a1_on))
  have F30 := ((r12.other W14 ne_ob_oz).other W19 (Ne.symm ne_a1_ob))
  have F31 := ((r13.other W14 ne_ol_oz).other W19 (Ne.symm ne_a1_ol))
  have F32 := ((r14.other W14 ne_oh_oz).other W19 (Ne.symm ne_a1_oh))
  have F33 := (V14.other W19 (Ne.symm ne_a1_oz))
  obtain ⟨fs, hr, hrun, hended, hW, hsame⟩ := X19.leave (v := none) (fun _ => rfl)
  refine ⟨_, _, pre0 _ ?_, hrun, hended, _, _, rfl, ?_, ⟨_, rfl⟩, hW, hsame.mono (by decide) (by decide)⟩
  · show GG p e below s₁ (mkF m 0 #[vR a1, vR at_, .unset, .unset, .unset, .unset, .unset] []) _
    refine XS.aloadN X0.here hx rfl (bb d21_0) rfl rfl ?_
    refine st1 _ ?_
    refine st2 _ ?_
    refine XS.iushr X2.here hx rfl (bb d21_7) rfl ?_
    refine XS.istoreN X2.here hx rfl (bb d21_8) rfl (l' := #[vR a1, vR at_, vI 0, .unset, .unset, .unset, .unset]) rfl ?_
    refine XS.aloadN X2.here hx rfl (bb d21_9) rfl rfl ?_
    refine st3 _ ?_
    refine XS.sipush X3.here hx rfl (bb d21_13) ?_
    refine XS.iand X3.here hx rfl (bb d21_16) rfl ?_
    refine XS.istoreN X3.here hx rfl (bb d21_17) rfl (l' := #[vR a1, vR at_, vI 0, vI 2, .unset, .unset, .unset]) rfl ?_
    refine XS.iloadN X3.here hx rfl (bb d21_18) rfl ?_
    refine XS.ifYes X3.here hx rfl (pc0 := 19) (pc' := 28) rfl (bb d21_19) rfl ((if0 _ _).trans (feq (by decide : ¬ ((2 : Int32) = (0 : Int32)))).2) (by decide) (by decide) ?_
    refine XS.aloadN X3.here hx rfl (bb d21_28) rfl rfl ?_
    refine XS.iloadN X3.here hx rfl (bb d21_29) rfl ?_
    refine XS.iloadN X3.here hx rfl (bb d21_30) rfl ?_
    refine st4.trans ?_
    refine XS.aloadN X4.here hx rfl (bb d21_34) rfl rfl ?_
    refine st5 _ ?_
    refine XS.iloadN X5.here hx rfl (bb d21_38) rfl ?_
    refine X5.aaload hx (j := (0 : Int32)) (v := .null) (by rw [e5]; exact Ar6.1) (State.isArrayOf_alike hZ.alike Ar6.2.1) rfl Ar6.2.2 hin6 (vH6.at hin6 rfl) (g := (mkF m 39 #[vR a1, vR at_, vI 0, vI 2, .unset, .unset, .unset] [(.int 0), (.ref on)])) rfl rfl (bb d21_39) _ ?_
    refine XS.ifnullYes X5.here hx rfl (pc0 := 40) (pc' := 50) rfl (bb d21_40) rfl (by decide) (by decide) ?_
    refine XS.iloadN X5.here hx rfl (bb d21_50) rfl ?_
    refine XS.aloadN X5.here hx rfl (bb d21_51) rfl rfl ?_
    refine st7 _ ?_
    refine XS.imul X7.here hx rfl (bb d21_55) rfl ?_
    refine XS.istore X7.here hx rfl (bb d21_56) rfl (l' := #[vR a1, vR at_, vI 0, vI 2, vI 2, .unset, .unset]) rfl ?_
    refine XS.aloadN X7.here hx rfl (bb d21_58) rfl rfl ?_
    refine st8 _ ?_
    refine XS.iloadN X8.here hx rfl (bb d21_62) rfl ?_
    refine X8.aaload hx (j := (0 : Int32)) (v := .null) (by rw [e8]; exact Ar9.1) (State.isArrayOf_alike hZ.alike Ar9.2.1) rfl Ar9.2.2 hin9 (vH9.at hin9 rfl) (g := (mkF m 63 #[vR a1, vR at_, vI 0, vI 2, vI 2, .unset, .unset] [(.int 0), (.ref on)])) rfl rfl (bb d21_63) _ ?_
    refine XS.astore X8.here hx rfl (bb d21_64) rfl rfl (l' := #[vR a1, vR at_, vI 0, vI 2, vI 2, .val .null, .unset]) rfl ?_
    refine XS.iconst X8.here hx rfl (bb d21_66) ?_
    refine XS.istore X8.here hx rfl (bb d21_67) rfl (l' := #[vR a1, vR at_, vI 0, vI 2, vI 2, .val .null, vI 0]) rfl ?_
    refine XS.iload X8.here hx rfl (bb d21_69) rfl ?_
    refine XS.aloadN X8.here hx rfl (bb d21_71) rfl rfl ?_
    refine st10 _ ?_
    refine XS.icmpNo X10.here hx rfl (bb d21_75) rfl (tlt (by decide : (0 : Int32) < (1 : Int32))).2.1 ?_
    refine XS.aload X10.here hx rfl (bb d21_78) rfl rfl ?_
    refine XS.ifnullYes X10.here hx rfl (pc0 := 80) (pc' := 114) rfl (bb d21_80) rfl (by decide) (by decide) ?_
    refine XS.aloadN X10.here hx rfl (bb d21_114) rfl rfl ?_
    refine st11 _ ?_
    refine XS.iloadN X11.here hx rfl (bb d21_118) rfl ?_
    refine X11.aaload hx (j := (0 : Int32)) (v := (.ref oz)) (by rw [e11]; exact Ar12.1) (State.isArrayOf_alike hZ.alike Ar12.2.1) rfl Ar12.2.2 hin12 (vH12.at hin12 rfl) (g := (mkF m 119 #[vR a1, vR at_, vI 0, vI 2, vI 2, .val .null, vI 0] [(.int 0), (.ref ow)])) rfl rfl (bb d21_119) _ ?_
    refine XS.iload X11.here hx rfl (bb d21_120) rfl ?_
    refine XS.iload X11.here hx rfl (bb d21_122) rfl ?_
    refine XS.iadd X11.here hx rfl (bb d21_124) rfl ?_
    refine XS.aloadN X11.here hx rfl (bb d21_125) rfl rfl ?_
    refine XS.iload X11.here hx rfl (bb d21_126) rfl ?_
    refine X11.iaload hx (j := (0 : Int32)) (v := (.int et0)) (by rw [e11]; exact Ar13.1) (State.isArrayOf_alike hZ.alike Ar13.2.1) Ar13.2.2 hin13 (vH13.at hin13 rfl) (g := (mkF m 128 #[vR a1, vR at_, vI 0, vI 2, vI 2, .val .null, vI 0] [(.int 0), (.ref at_), (.int 2), (.ref oz)])) rfl rfl (bb d21_128) _ ?_
    refine st14 _ ?_
    refine XS.iinc X14.here hx rfl (bb d21_130) rfl (l' := #[vR a1, vR at_, vI 0, vI 2, vI 2, .val .null, vI 1]) rfl ?_
    refine XS.goto X14.here hx rfl (pc0 := 133) (pc' := 69) rfl (bb d21_133) (by decide) (by decide) ?_
    refine XS.iload X14.here hx rfl (bb d21_69) rfl ?_
    refine XS.aloadN X14.here hx rfl (bb d21_71) rfl rfl ?_
    refine st15 _ ?_
    refine XS.icmpYes X15.here hx rfl (pc0 := 75) (pc' := 136) rfl (bb d21_75) rfl (flt (by decide : ¬ ((1 : Int32) < (1 : Int32)))).2.1 (by decide) (by decide) ?_
    refine XS.aloadN X15.here hx rfl (bb d21_136) rfl rfl ?_
    refine XS.dup X15.here hx rfl (bb d21_137) rfl rfl ?_
    refine st17 _ ?_
    refine XS.iconst X17.here hx rfl (bb d21_141) ?_
    refine XS.iadd X17.here hx rfl (bb d21_142) rfl ?_
    refine st19 _ ?_
    exact X19.returnOut hx Bd.returns (bb d21_146) hr
  · show Q_add1WW2 Z wDE a1 at_ ow on ob ol oh oz kw_ kn_ kb_ kl_ kh_ kz_ eb0 el0 eu0 ev0_0 ev1_0 ex2 ex3 ex4 ex5 ex6 ex7 kt_ et0 h0 n0 _ T19.heap _
    rw [e19]
    exact ⟨rfl, N19, (((Keep.refl h0 [a1, oz]).wr W14 (Or.inl (List.mem_of_getElem? (i := 1) rfl))).wr W19 (Or.inl (List.mem_of_getElem? (i := 0) rfl))), F21, F22, Fw19, F23, F24, F25, F26, F27, F28, r9, F29, r11, F30, F31, F32, F33⟩
def J_add1N0 (Z : State) (a1 ow on ob ol oh ov : Addr) (kw_ kn_ kb_ kl_ kh_ kv_ : ClassId) (ex1 ex2 ex3 ex4 ex5 ex6 ex7 et0 : Int32) (h : Heap) : Prop := Exa Z h a1 cRV ∧ Fld Z h a1 cRV "arity" "I" (.int 1) ∧ Fld Z h a1 cRV "rows" "I" (.int 1) ∧ Fld Z h a1 cRV "wide" "[[I" (.ref ow) ∧ Fld Z h a1 cRV "narrow" "[[C" (.ref on) ∧ Fld Z h a1 cRV "bases" "[I" (.ref ob) ∧ Fld Z h a1 cRV "lowest" "[I" (.ref ol) ∧ Fld Z h a1 cRV "highest" "[I" (.ref oh) ∧ Arv Z h ow kw_ (.array .int) (1 : Int32) [.null] .null ∧ OvrA Z kw_ .int "[I" ∧ Arv Z h on kn_ (.array .char) (1 : Int32) [(.ref ov)] .null ∧ OvrA Z kn_ .char "[C" ∧ Arv Z h ob kb_ .int (1 : Int32) [(.int (f_base et0 et0))] (.int 0) ∧ Arv Z h ol kl_ .int (1 : Int32) [(.int et0)] (.int 0) ∧ Arv Z h oh kh_ .int (1 : Int32) [(.int et0)] (.int 0) ∧ Arv Z h ov kv_ .char (8 : Int32) [(.int (nar .char (et0 - (f_base et0 et0)))), (.int ex1), (.int ex2), (.int ex3), (.int ex4), (.int ex5), (.int ex6), (.int ex7)] (.int 0)
theorem js_add1N0 {Z : State} {a1 ow on ob ol oh ov : Addr} {kw_ kn_ kb_ kl_ kh_ kv_ : ClassId} {ex1 ex2 ex3 ex4 ex5 ex6 ex7 et0 : Int32} {ws : List Addr} (n_a1 : a1 ∉ ws) (n_ow : ow ∉ ws) (n_on : on ∉ ws) (n_ob : ob ∉ ws) (n_ol : ol ∉ ws) (n_oh : oh ∉ ws) (n_ov : ov ∉ ws) : ∀ h h', Keep h h' ws → J_add1N0 Z a1 ow on ob ol oh ov kw_ kn_ kb_ kl_ kh_ kv_ ex1 ex2 ex3 ex4 ex5 ex6 ex7 et0 h → J_add1N0 Z a1 ow on ob ol oh ov kw_ kn_ kb_ kl_ kh_ kv_ ex1 ex2 ex3 ex4 ex5 ex6 ex7 et0 h' := by
  intro h h' K q
  obtain ⟨q0, q1, q2, q3, q4, q5, q6, q7, q8, q9, q10, q11, q12, q13, q14, q15⟩ := q
  exact ⟨q0.keep K, q1.keep K n_a1, q2.keep K n_a1, q3.keep K n_a1, q4.keep K n_a1, q5.keep K n_a1, q6.keep K n_a1, q7.keep K n_a1, q8.keep K n_ow, q9, q10.keep K n_on, q11, q12.keep K n_ob, q13.keep K n_ol, q14.keep K n_oh, q15.keep K n_ov⟩
def J_add1N1 (Z : State) (a1 ow on ob ol oh ov : Addr) (kw_ kn_ kb_ kl_ kh_ kv_ : ClassId) (eb0 el0 eu0 ev0_0 ex2 ex3 ex4 ex5 ex6 ex7 et0 : Int32) (h : Heap) : Prop := Exa Z h a1 cRV ∧ Fld Z h a1 cRV "arity" "I" (.int 1) ∧ Fld Z h a1 cRV "rows" "I" (.int 2) ∧ Fld Z h a1 cRV "wide" "[[I" (.ref ow) ∧ Fld Z h a1 cRV "narrow" "[[C" (.ref on) ∧ Fld Z h a1 cRV "bases" "[I" (.ref ob) ∧ Fld Z h a1 cRV "lowest" "[I" (.ref ol) ∧ Fld Z h a1 cRV "highest" "[I" (.ref oh) ∧ Arv Z h ow kw_ (.array .int) (1 : Int32) [.null] .null ∧ OvrA Z kw_ .int "[I" ∧ Arv Z h on kn_ (.array .char) (1 : Int32) [(.ref ov)] .null ∧ OvrA Z kn_ .char "[C" ∧ Arv Z h ob kb_ .int (1 : Int32) [(.int (nbase eb0 el0 eu0 et0))] (.int 0) ∧ Arv Z h ol kl_ .int (1 : Int32) [(.int (f_minI et0 el0))] (.int 0) ∧ Arv Z h oh kh_ .int (1 : Int32) [(.int (f_maxI et0 eu0))] (.int 0) ∧ Arv Z h ov kv_ .char (8 : Int32) [(.int (nar .char (ev0_0 - (nbase eb0 el0 eu0 et0)))), (.int (nar .char (et0 - (nbase eb0 el0 eu0 et0)))), (.int ex2), (.int ex3), (.int ex4), (.int ex5), (.int ex6), (.int ex7)] (.int 0)
theorem js_add1N1 {Z : State} {a1 ow on ob ol oh ov : Addr} {kw_ kn_ kb_ kl_ kh_ kv_ : ClassId} {eb0 el0 eu0 ev0_0 ex2 ex3 ex4 ex5 ex6 ex7 et0 : Int32} {ws : List Addr} (n_a1 : a1 ∉ ws) (n_ow : ow ∉ ws) (n_on : on ∉ ws) (n_ob : ob ∉ ws) (n_ol : ol ∉ ws) (n_oh : oh ∉ ws) (n_ov : ov ∉ ws) : ∀ h h', Keep h h' ws → J_add1N1 Z a1 ow on ob ol oh ov kw_ kn_ kb_ kl_ kh_ kv_ eb0 el0 eu0 ev0_0 ex2 ex3 ex4 ex5 ex6 ex7 et0 h → J_add1N1 Z a1 ow on ob ol oh ov kw_ kn_ kb_ kl_ kh_ kv_ eb0 el0 eu0 ev0_0 ex2 ex3 ex4 ex5 ex6 ex7 et0 h' := by
  intro h h' K q
  obtain ⟨q0, q1, q2, q3, q4, q5, q6, q7, q8, q9, q10, q11, q12, q13, q14, q15⟩ := q
  exact ⟨q0.keep K, q1.keep K n_a1, q2.keep K n_a1, q3.keep K n_a1, q4.keep K n_a1, q5.keep K n_a1, q6.keep K n_a1, q7.keep K n_a1, q8.keep K n_ow, q9, q10.keep K n_on, q11, q12.keep K n_ob, q13.keep K n_ol, q14.keep K n_oh, q15.keep K n_ov⟩
def J_add1W1 (Z : State) (a1 ow on ob ol oh : Addr) (kw_ kn_ kb_ kl_ kh_ : ClassId) (eb0 el0 eu0 ev0_0 et0 : Int32) (hz : Nat) (h : Heap) : Prop := ∃ (oz : Addr) (kz_ : ClassId), hz ≤ oz ∧ Exa Z h a1 cRV ∧ Fld Z h a1 cRV "arity" "I" (.int 1) ∧ Fld Z h a1 cRV "rows" "I" (.int 2) ∧ Fld Z h a1 cRV "wide" "[[I" (.ref ow) ∧ Fld Z h a1 cRV "narrow" "[[C" (.ref on) ∧ Fld Z h a1 cRV "bases" "[I" (.ref ob) ∧ Fld Z h a1 cRV "lowest" "[I" (.ref ol) ∧ Fld Z h a1 cRV "highest" "[I" (.ref oh) ∧ Arv Z h ow kw_ (.array .int) (1 : Int32) [(.ref oz)] .null ∧ OvrA Z kw_ .int "[I" ∧ Arv Z h on kn_ (.array .char) (1 : Int32) [.null] .null ∧ OvrA Z kn_ .char "[C" ∧ Arv Z h ob kb_ .int (1 : Int32) [(.int eb0)] (.int 0) ∧ Arv Z h ol kl_ .int (1 : Int32) [(.int el0)] (.int 0) ∧ Arv Z h oh kh_ .int (1 : Int32) [(.int eu0)] (.int 0) ∧ Arv Z h oz kz_ .int (8 : Int32) [(.int ev0_0), (.int et0), (.int (0 : Int32)), (.int (0 : Int32)), (.int (0 : Int32)), (.int (0 : Int32)), (.int (0 : Int32)), (.int (0 : Int32))] (.int 0)
theorem js_add1W1 {Z : State} {a1 ow on ob ol oh : Addr} {kw_ kn_ kb_ kl_ kh_ : ClassId} {eb0 el0 eu0 ev0_0 et0 : Int32} {hz : Nat} {ws : List Addr} (n_a1 : a1 ∉ ws) (n_ow : ow ∉ ws) (n_on : on ∉ ws) (n_ob : ob ∉ ws) (n_ol : ol ∉ ws) (n_oh : oh ∉ ws) (hl : ∀ x ∈ ws, x < hz) : ∀ h h', Keep h h' ws → J_add1W1 Z a1 ow on ob ol oh kw_ kn_ kb_ kl_ kh_ eb0 el0 eu0 ev0_0 et0 hz h → J_add1W1 Z a1 ow on ob ol oh kw_ kn_ kb_ kl_ kh_ eb0 el0 eu0 ev0_0 et0 hz h' := by
  intro h h' K q
  obtain ⟨oz, kz_, sz, q0, q1, q2, q3, q4, q5, q6, q7, q8, q9, q10, q11, q12, q13, q14, q15⟩ := q
  have n_oz : oz ∉ ws := fun m => absurd (hl _ m) (Nat.not_lt.mpr sz)
  exact ⟨oz, kz_, sz, q0.keep K, q1.keep K n_a1, q2.keep K n_a1, q3.keep K n_a1, q4.keep K n_a1, q5.keep K n_a1, q6.keep K n_a1, q7.keep K n_a1, q8.keep K n_ow, q9, q10.keep K n_on, q11, q12.keep K n_ob, q13.keep K n_ol, q14.keep K n_oh, q15.keep K n_oz⟩
def J_add1N2 (Z : State) (a1 ow on ob ol oh ov : Addr) (kw_ kn_ kb_ kl_ kh_ kv_ : ClassId) (eb0 el0 eu0 ev0_0 ev1_0 ex3 ex4 ex5 ex6 ex7 et0 : Int32) (h : Heap) : Prop := Exa Z h a1 cRV ∧ Fld Z h a1 cRV "arity" "I" (.int 1) ∧ Fld Z h a1 cRV "rows" "I" (.int 3) ∧ Fld Z h a1 cRV "wide" "[[I" (.ref ow) ∧ Fld Z h a1 cRV "narrow" "[[C" (.ref on) ∧ Fld Z h a1 cRV "bases" "[I" (.ref ob) ∧ Fld Z h a1 cRV "lowest" "[I" (.ref ol) ∧ Fld Z h a1 cRV "highest" "[I" (.ref oh) ∧ Arv Z h ow kw_ (.array .int) (1 : Int32) [.null] .null ∧ OvrA Z kw_ .int "[I" ∧ Arv Z h on kn_ (.array .char) (1 : Int32) [(.ref ov)] .null ∧ OvrA Z kn_ .char "[C" ∧ Arv Z h ob kb_ .int (1 : Int32) [(.int (nbase eb0 el0 eu0 et0))] (.int 0) ∧ Arv Z h ol kl_ .int (1 : Int32) [(.int (f_minI et0 el0))] (.int 0) ∧ Arv Z h oh kh_ .int (1 : Int32) [(.int (f_maxI et0 eu0))] (.int 0) ∧ Arv Z h ov kv_ .char (8 : Int32) [(.int (nar .char (ev0_0 - (nbase eb0 el0 eu0 et0)))), (.int (nar .char (ev1_0 - (nbase eb0 el0 eu0 et0)))), (.int (nar .char (et0 - (nbase eb0 el0 eu0 et0)))), (.int ex3), (.int ex4), (.int ex5), (.int ex6), (.int ex7)] (.int 0)
theorem js_add1N2 {Z : State} {a1 ow on ob ol oh ov : Addr} {kw_ kn_ kb_ kl_ kh_ kv_ : ClassId} {eb0 el0 eu0 ev0_0 ev1_0 ex3 ex4 ex5 ex6 ex7 et0 : Int32} {ws : List Addr} (n_a1 : a1 ∉ ws) (n_ow : ow ∉ ws) (n_on : on ∉ ws) (n_ob : ob ∉ ws) (n_ol : ol ∉ ws) (n_oh : oh ∉ ws) (n_ov : ov ∉ ws) : ∀ h h', Keep h h' ws → J_add1N2 Z a1 ow on ob ol oh ov kw_ kn_ kb_ kl_ kh_ kv_ eb0 el0 eu0 ev0_0 ev1_0 ex3 ex4 ex5 ex6 ex7 et0 h → J_add1N2 Z a1 ow on ob ol oh ov kw_ kn_ kb_ kl_ kh_ kv_ eb0 el0 eu0 ev0_0 ev1_0 ex3 ex4 ex5 ex6 ex7 et0 h' := by
  intro h h' K q
  obtain ⟨q0, q1, q2, q3, q4, q5, q6, q7, q8, q9, q10, q11, q12, q13, q14, q15⟩ := q
  exact ⟨q0.keep K, q1.keep K n_a1, q2.keep K n_a1, q3.keep K n_a1, q4.keep K n_a1, q5.keep K n_a1, q6.keep K n_a1, q7.keep K n_a1, q8.keep K n_ow, q9, q10.keep K n_on, q11, q12.keep K n_ob, q13.keep K n_ol, q14.keep K n_oh, q15.keep K n_ov⟩
def J_add1W2 (Z : State) (a1 ow on ob ol oh : Addr) (kw_ kn_ kb_ kl_ kh_ : ClassId) (eb0 el0 eu0 ev0_0 ev1_0 et0 : Int32) (hz : Nat) (h : Heap) : Prop := ∃ (oz : Addr) (kz_ : ClassId), hz ≤ oz ∧ Exa Z h a1 cRV ∧ Fld Z h a1 cRV "arity" "I" (.int 1) ∧ Fld Z h a1 cRV "rows" "I" (.int 3) ∧ Fld Z h a1 cRV "wide" "[[I" (.ref ow) ∧ Fld Z h a1 cRV "narrow" "[[C" (.ref on) ∧ Fld Z h a1 cRV "bases" "[I" (.ref ob) ∧ Fld Z h a1 cRV "lowest" "[I" (.ref ol) ∧ Fld Z h a1 cRV "highest" "[I" (.ref oh) ∧ Arv Z h ow kw_ (.array .int) (1 : Int32) [(.ref oz)] .null ∧ OvrA Z kw_ .int "[I" ∧ Arv Z h on kn_ (.array .char) (1 : Int32) [.null] .null ∧ OvrA Z kn_ .char "[C" ∧ Arv Z h ob kb_ .int (1 : Int32) [(.int eb0)] (.int 0) ∧ Arv Z h ol kl_ .int (1 : Int32) [(.int el0)] (.int 0) ∧ Arv Z h oh kh_ .int (1 : Int32) [(.int eu0)] (.int 0) ∧ Arv Z h oz kz_ .int (8 : Int32) [(.int ev0_0), (.int ev1_0), (.int et0), (.int (0 : Int32)), (.int (0 : Int32)), (.int (0 : Int32)), (.int (0 : Int32)), (.int (0 : Int32))] (.int 0)
theorem js_add1W2 {Z : State} {a1 ow on ob ol oh : Addr} {kw_ kn_ kb_ kl_ kh_ : ClassId} {eb0 el0 eu0 ev0_0 ev1_0 et0 : Int32} {hz : Nat} {ws : List Addr} (n_a1 : a1 ∉ ws) (n_ow : ow ∉ ws) (n_on : on ∉ ws) (n_ob : ob ∉ ws) (n_ol : ol ∉ ws) (n_oh : oh ∉ ws) (hl : ∀ x ∈ ws, x < hz) : ∀ h h', Keep h h' ws → J_add1W2 Z a1 ow on ob ol oh kw_ kn_ kb_ kl_ kh_ eb0 el0 eu0 ev0_0 ev1_0 et0 hz h → J_add1W2 Z a1 ow on ob ol oh kw_ kn_ kb_ kl_ kh_ eb0 el0 eu0 ev0_0 ev1_0 et0 hz h' := by
  intro h h' K q
  obtain ⟨oz, kz_, sz, q0, q1, q2, q3, q4, q5, q6, q7, q8, q9, q10, q11, q12, q13, q14, q15⟩ := q
  have n_oz : oz ∉ ws := fun m => absurd (hl _ m) (Nat.not_lt.mpr sz)
  exact ⟨oz, kz_, sz, q0.keep K, q1.keep K n_a1, q2.keep K n_a1, q3.keep K n_a1, q4.keep K n_a1, q5.keep K n_a1, q6.keep K n_a1, q7.keep K n_a1, q8.keep K n_ow, q9, q10.keep K n_on, q11, q12.keep K n_ob, q13.keep K n_ol, q14.keep K n_oh, q15.keep K n_oz⟩
def J_add1WW2 (Z : State) (a1 ow on ob ol oh oz : Addr) (kw_ kn_ kb_ kl_ kh_ kz_ : ClassId) (eb0 el0 eu0 ev0_0 ev1_0 ex3 ex4 ex5 ex6 ex7 et0 : Int32) (h : Heap) : Prop := Exa Z h a1 cRV ∧ Fld Z h a1 cRV "arity" "I" (.int 1) ∧ Fld Z h a1 cRV "rows" "I" (.int 3) ∧ Fld Z h a1 cRV "wide" "[[I" (.ref ow) ∧ Fld Z h a1 cRV "narrow" "[[C" (.ref on) ∧ Fld Z h a1 cRV "bases" "[I" (.ref ob) ∧ Fld Z h a1 cRV "lowest" "[I" (.ref ol) ∧ Fld Z h a1 cRV "highest" "[I" (.ref oh) ∧ Arv Z h ow kw_ (.array .int) (1 : Int32) [(.ref oz)] .null ∧ OvrA Z kw_ .int "[I" ∧ Arv Z h on kn_ (.array .char) (1 : Int32) [.null] .null ∧ OvrA Z kn_ .char "[C" ∧ Arv Z h ob kb_ .int (1 : Int32) [(.int eb0)] (.int 0) ∧ Arv Z h ol kl_ .int (1 : Int32) [(.int el0)] (.int 0) ∧ Arv Z h oh kh_ .int (1 : Int32) [(.int eu0)] (.int 0) ∧ Arv Z h oz kz_ .int (8 : Int32) [(.int ev0_0), (.int ev1_0), (.int et0), (.int ex3), (.int ex4), (.int ex5), (.int ex6), (.int ex7)] (.int 0)
theorem js_add1WW2 {Z : State} {a1 ow on ob ol oh oz : Addr} {kw_ kn_ kb_ kl_ kh_ kz_ : ClassId} {eb0 el0 eu0 ev0_0 ev1_0 ex3 ex4 ex5 ex6 ex7 et0 : Int32} {ws : List Addr} (n_a1 : a1 ∉ ws) (n_ow : ow ∉ ws) (n_on : on ∉ ws) (n_ob : ob ∉ ws) (n_ol : ol ∉ ws) (n_oh : oh ∉ ws) (n_oz : oz ∉ ws) : ∀ h h', Keep h h' ws → J_add1WW2 Z a1 ow on ob ol oh oz kw_ kn_ kb_ kl_ kh_ kz_ eb0 el0 eu0 ev0_0 ev1_0 ex3 ex4 ex5 ex6 ex7 et0 h → J_add1WW2 Z a1 ow on ob ol oh oz kw_ kn_ kb_ kl_ kh_ kz_ eb0 el0 eu0 ev0_0 ev1_0 ex3 ex4 ex5 ex6 ex7 et0 h' := by
  intro h h' K q
  obtain ⟨q0, q1, q2, q3, q4, q5, q6, q7, q8, q9, q10, q11, q12, q13, q14, q15⟩ := q
  exact ⟨q0.keep K, q1.keep K n_a1, q2.keep K n_a1, q3.keep K n_a1, q4.keep K n_a1, q5.keep K n_a1, q6.keep K n_a1, q7.keep K n_a1, q8.keep K n_ow, q9, q10.keep K n_on, q11, q12.keep K n_ob, q13.keep K n_ol, q14.keep K n_oh, q15.keep K n_oz⟩
theorem own_more {p : Program} {l : Launch} {e : Env} {R : Room} {s : State} {m : MethodId} {args : Array Value} {below : List Frame} {meth : Method} {c : Code} {T : State} {L : List Loc} {c0 s0 c1 s1 : Nat} (X : Stand p l e R s m args below meth c T L c0 s0) (h1 : c0 ≤ c1) (h2 : s0 ≤ s1) : Stand p l e R s m args below meth c T L c1 s1 := { X with same := X.same.mono h1 h2 }
theorem own_kp (x : Int32) : ((x &&& (3 : Int32)) + (1 : Int32)) ≠ 0 := by
  have m := c_mask x (3 : Int32) 2 (by decide) (by decide)
  have e : ((2 ^ 2 : Nat) : Int) = 4 := rfl
  rw [e] at m
  intro q
  have q' := congrArg Int32.toInt q
  have c := c_iadd (x &&& (3 : Int32)) (1 : Int32)
  have k0 : (0 : Int32).toInt = 0 := rfl
  have k1 : (1 : Int32).toInt = 1 := rfl
  omega
theorem own_k3 (x : Int32) : (x &&& (3 : Int32)) = (0 : Int32) ∨ (x &&& (3 : Int32)) = (1 : Int32) ∨ (x &&& (3 : Int32)) = (2 : Int32) ∨ (x &&& (3 : Int32)) = (3 : Int32) := by
  have m := c_mask x (3 : Int32) 2 (by decide) (by decide)
  have k0 : (0 : Int32).toInt = 0 := rfl
  have k1 : (1 : Int32).toInt = 1 := rfl
  have k2 : (2 : Int32).toInt = 2 := rfl
  have k3 : (3 : Int32).toInt = 3 := rfl
  have e : ((2 ^ 2 : Nat) : Int) = 4 := rfl
  rw [e] at m
  have h : (x &&& (3 : Int32)).toInt = 0 ∨ (x &&& (3 : Int32)).toInt = 1 ∨ (x &&& (3 : Int32)).toInt = 2 ∨ (x &&& (3 : Int32)).toInt = 3 := by omega
  rcases h with h | h | h | h
  · exact Or.inl (Int32.toInt_inj.mp (h.trans k0.symm))
  · exact Or.inr (Or.inl (Int32.toInt_inj.mp (h.trans k1.symm)))
  · exact Or.inr (Or.inr (Or.inl (Int32.toInt_inj.mp (h.trans k2.symm))))
  · exact Or.inr (Or.inr (Or.inr (Int32.toInt_inj.mp (h.trans k3.symm))))
theorem own_d10 (v : Int32) : ((v + (1 : Int32)).toInt - v.toInt) % 4294967296 = 1 ∨ ((v + (1 : Int32)).toInt - v.toInt) % 4294967296 = 2 := by
  have c := c_iadd v (1 : Int32)
  have k1 : (1 : Int32).toInt = 1 := rfl
  omega
theorem own_d20 (v : Int32) : ((v + (2 : Int32)).toInt - v.toInt) % 4294967296 = 1 ∨ ((v + (2 : Int32)).toInt - v.toInt) % 4294967296 = 2 := by
  have c := c_iadd v (2 : Int32)
  have k1 : (2 : Int32).toInt = 2 := rfl
  omega
theorem own_d21 (v : Int32) : ((v + (2 : Int32)).toInt - (v + (1 : Int32)).toInt) % 4294967296 = 1 ∨ ((v + (2 : Int32)).toInt - (v + (1 : Int32)).toInt) % 4294967296 = 2 := by
  have c := c_iadd v (1 : Int32)
  have d := c_iadd v (2 : Int32)
  have k1 : (1 : Int32).toInt = 1 := rfl
  have k2 : (2 : Int32).toInt = 2 := rfl
  omega
def f_de (f n : Int32) : Int32 := if (f &&& (1 : Int32)) = (0 : Int32) then (0 : Int32) else n
def lawP (p1 : Int32) (p4 : Int32) : Prop := (if ((p4 &&& (2147483647 : Int32)) - ((p4 &&& (2147483647 : Int32)) / ((p1 &&& (3 : Int32)) + (1 : Int32))) * ((p1 &&& (3 : Int32)) + (1 : Int32))) < (p1 &&& (3 : Int32)) then (((nar .boolean (f_lt ((p4 &&& (2147483647 : Int32)) - ((p4 &&& (2147483647 : Int32)) / ((p1 &&& (3 : Int32)) + (1 : Int32))) * ((p1 &&& (3 : Int32)) + (1 : Int32))) (p1 &&& (3 : Int32)))) = (1 : Int32)) ∧ True) else (((nar .boolean (f_lt ((p4 &&& (2147483647 : Int32)) - ((p4 &&& (2147483647 : Int32)) / ((p1 &&& (3 : Int32)) + (1 : Int32))) * ((p1 &&& (3 : Int32)) + (1 : Int32))) (p1 &&& (3 : Int32)))) = (0 : Int32)) ∧ True))
set_option maxRecDepth 65536 in
set_option maxHeartbeats 40000000 in
theorem rm_law (l : Launch) (Z : State) (a0 : Array Value) (hw : ∀ d ∈ tables_1, d.before a0 Z = true) (ws : List Jvm.Cond) (wDE : Addr) (p1 p2 p3 p4 : Int32) (h0 : Heap) (n0 : Nat) (Z0 : n0 ≤ h0.size) (S_wDE : Sta Z Z.heap "java/util/ArrayList" "DEFAULTCAPACITY_EMPTY_ELEMENTDATA" "[Ljava/lang/Object;" (.ref wDE)) (O0 : Old Z n0 h0) (S_CS : Sta Z Z.heap cRV "CHUNK_SHIFT" "I" (.int (12 : Int32))) (hp : lawP p1 p4) :
    MetFree l x (head1 (Jvm.Cond.code x code maxLocals ret :: ws) room_1) (fun a U => a = #[(.int p1), (.int p2), (.int p3), (.int p4)] ∧ Z.Warmed39 U.vm ∧ U.heap = h0) (fun _ _ _ _ _ => True) (fun _ U o U' => ∃ v L, o = .returned v ∧ LawQ n0 v U'.heap L ∧ FrameEnd U o U' L room_1.cells room_1.slots) := by
  refine MetFree.of_bodySF (plainFor_of_name pn_RelationStartRoundFromPinLaw) hisR ?_
  intro p e s m args below meth c s₁ Bd hml0 hP hK
  obtain ⟨rfl, hZ, hh⟩ := hP
  have hx := Bd.exec
  have hby := Bd.bytes
  have bb := fun {pc : Nat} {r : Except DecodeError (Instr × Nat)} (h : decode code pc = r) => hb hby h
  have ww := fun (i : Nat) {d : Jvm.Cond} (h : tables_1[i]? = some d) => hw d (List.mem_of_getElem? h)
  have hml : c.maxLocals = 12 := hml0
  have hown : s.vm.findClass "com/example/chaseward/chaseward/engine/RelationStartRoundFromPinLaw" = some m.cls := findClass_of_methodNamed Bd.named
  have hnm := (name_of_methodNamed Bd.named Bd.method).1
  have X0 : Stand p l e room_1 s m #[(.int p1), (.int p2), (.int p3), (.int p4)] below meth c s₁ [] 0 0 := Stand.of_body Bd
  have e0 : s₁.heap = h0 := by rw [← hh, Bd.state]; rfl
  have N0 := Fr.nil n0
  have pre0 : ∀ t, Steps p.tables e below (s₁.setTop (mkF m 0 #[vI p1, vI p2, vI p3, vI p4, .unset, .unset, .unset, .unset, .unset, .unset, .unset, .unset] [])) t → Steps p.tables e below (s₁.setTop (entryFrame m #[(.int p1), (.int p2), (.int p3), (.int p4)] maxLocals)) t := fun t k => castTop (ef_law m p1 p2 p3 p4) k
  unfold lawP at hp
  obtain ⟨T1, h1, k1, X1, e1, E1, A1, B1, st1⟩ := newPE (aty := .int) X0 hx hZ (ww 0 rfl) e0 (g := (mkF m 6 #[vI p1, vI p2, vI p3, vI p4, vI (p1 &&& (3 : Int32)), .unset, .unset, .unset, .unset, .unset, .unset, .unset] [(.int 1)])) rfl (bb at_6) rfl (by decide) (cap := 1) (by decide) (by decide) (by decide) (by decide) (ad := "[I") (by decide)
  obtain ⟨b1, q_b1⟩ : ∃ z, z = (h0).size := ⟨_, rfl⟩
  rw [← q_b1] at A1 B1 st1
  have g_b1 : n0 ≤ b1 := Nat.le_trans (own_z0 O0) (Nat.le_of_eq q_b1.symm)
  have sz_b1 : h0.size ≤ b1 := Nat.le_trans (Nat.le_refl _) (Nat.le_of_eq q_b1.symm)
  have V_b1 : Arv Z h1 b1 k1 .int (1 : Int32) [(.int 0)] (.int 0) := (Arv.new A1 (by decide)).pad (pad_rep [] (.int 0) 1)
  obtain ⟨cl2, Ar2, vq2, vS2, vN2, vH2, vG2⟩ := id V_b1
  have hin2 : ¬ (((0 : Int32) : Int32) < 0 ∨ cl2.slots.size ≤ ((0 : Int32) : Int32).toNatClampNeg) := inb_of vS2 ⟨by decide, by decide⟩
  obtain ⟨T2, h2, X2, e2, W2, st2⟩ := stI X1 hx hZ e1 Ar2 (j := (0 : Int32)) hin2 (g := (mkF m 11 #[vI p1, vI p2, vI p3, vI p4, vI (p1 &&& (3 : Int32)), .unset, .unset, .unset, .unset, .unset, .unset, .unset] [(.int p2), (.int 0), (.ref b1), (.ref b1)])) rfl rfl (bb at_11)
  have V2 : Arv Z h2 b1 k1 .int (1 : Int32) [(.int p2)] (.int 0) := Arv.set Ar2 vq2 vS2 vN2 vH2 vG2 rfl W2 0 rfl (Nat.le_of_ble_eq_true rfl)
  have N2 := Fr.snoc X2 N0 g_b1
  have O4 := ((O0.ext E1).wr W2 g_b1)
  obtain ⟨T3, h3, k3, X3, e3, E3, A3, B3, st3⟩ := newPE (aty := .int) X2 hx hZ (ww 0 rfl) e2 (g := (mkF m 15 #[vI p1, vI p2, vI p3, vI p4, vI (p1 &&& (3 : Int32)), vR b1, .unset, .unset, .unset, .unset, .unset, .unset] [(.int 1)])) rfl (bb at_15) rfl (by decide) (cap := 1) (by decide) (by decide) (by decide) (by decide) (ad := "[I") (by decide)
  obtain ⟨b3, q_b3⟩ : ∃ z, z = (h2).size := ⟨_, rfl⟩
  rw [← q_b3] at A3 B3 st3
  have g_b3 : n0 ≤ b3 := Nat.le_trans (own_z0 O4) (Nat.le_of_eq q_b3.symm)
  have sz_b3 : h0.size ≤ b3 := Nat.le_trans (Nat.le_trans (Nat.le_trans (Nat.le_refl _) E1.1) (Keep.of_wr W2).1) (Nat.le_of_eq q_b3.symm)
  have ne_b1_b3 : b1 ≠ b3 := Nat.ne_of_lt (Nat.lt_of_lt_of_le V2.lt (Nat.le_of_eq q_b3.symm))
  have V_b3 : Arv Z h3 b3 k3 .int (1 : Int32) [(.int 0)] (.int 0) := (Arv.new A3 (by decide)).pad (pad_rep [] (.int 0) 1)
  obtain ⟨cl5, Ar5, vq5, vS5, vN5, vH5, vG5⟩ := id V_b3
  have hin5 : ¬ (((0 : Int32) : Int32) < 0 ∨ cl5.slots.size ≤ ((0 : Int32) : Int32).toNatClampNeg) := inb_of vS5 ⟨by decide, by decide⟩
  obtain ⟨T5, h5, X5, e5, W5, st5⟩ := stI X3 hx hZ e3 Ar5 (j := (0 : Int32)) hin5 (g := (mkF m 22 #[vI p1, vI p2, vI p3, vI p4, vI (p1 &&& (3 : Int32)), vR b1, .unset, .unset, .unset, .unset, .unset, .unset] [(.int (p2 + (1 : Int32))), (.int 0), (.ref b3), (.ref b3)])) rfl rfl (bb at_22)
  have V5 : Arv Z h5 b3 k3 .int (1 : Int32) [(.int (p2 + (1 : Int32)))] (.int 0) := Arv.set Ar5 vq5 vS5 vN5 vH5 vG5 rfl W5 0 rfl (Nat.le_of_ble_eq_true rfl)
  have N5 := Fr.snoc X5 N2 g_b3
  have O7 := ((O4.ext E3).wr W5 g_b3)
  obtain ⟨T6, h6, k6, X6, e6, E6, A6, B6, st6⟩ := newPE (aty := .int) X5 hx hZ (ww 0 rfl) e5 (g := (mkF m 26 #[vI p1, vI p2, vI p3, vI p4, vI (p1 &&& (3 : Int32)), vR b1, vR b3, .unset, .unset, .unset, .unset, .unset] [(.int 1)])) rfl (bb at_26) rfl (by decide) (cap := 1) (by decide) (by decide) (by decide) (by decide) (ad := "[I") (by decide)
  obtain ⟨b6, q_b6⟩ : ∃ z, z = (h5).size := ⟨_, rfl⟩
  rw [← q_b6] at A6 B6 st6
  have g_b6 : n0 ≤ b6 := Nat.le_trans (own_z0 O7) (Nat.le_of_eq q_b6.symm)
  have sz_b6 : h0.size ≤ b6 := Nat.le_trans (Nat.le_trans (Nat.le_trans (Nat.le_trans (Nat.le_trans (Nat.le_refl _) E1.1) (Keep.of_wr W2).1) E3.1) (Keep.of_wr W5).1) (Nat.le_of_eq q_b6.symm)
  have F8 := ((V2.ext E3).other W5 ne_b1_b3)
  have ne_b1_b6 : b1 ≠ b6 := Nat.ne_of_lt (Nat.lt_of_lt_of_le F8.lt (Nat.le_of_eq q_b6.symm))
  have ne_b3_b6 : b3 ≠ b6 := Nat.ne_of_lt (Nat.lt_of_lt_of_le V5.lt (Nat.le_of_eq q_b6.symm))
  have V_b6 : Arv Z h6 b6 k6 .int (1 : Int32) [(.int 0)] (.int 0) := (Arv.new A6 (by decide)).pad (pad_rep [] (.int 0) 1)
  obtain ⟨cl9, Ar9, vq9, vS9, vN9, vH9, vG9⟩ := id V_b6
  have hin9 : ¬ (((0 : Int32) : Int32) < 0 ∨ cl9.slots.size ≤ ((0 : Int32) : Int32).toNatClampNeg) := inb_of vS9 ⟨by decide, by decide⟩
  obtain ⟨T9, h9, X9, e9, W9, st9⟩ := stI X6 hx hZ e6 Ar9 (j := (0 : Int32)) hin9 (g := (mkF m 33 #[vI p1, vI p2, vI p3, vI p4, vI (p1 &&& (3 : Int32)), vR b1, vR b3, .unset, .unset, .unset, .unset, .unset] [(.int (p2 + (2 : Int32))), (.int 0), (.ref b6), (.ref b6)])) rfl rfl (bb at_33)
  have V9 : Arv Z h9 b6 k6 .int (1 : Int32) [(.int (p2 + (2 : Int32)))] (.int 0) := Arv.set Ar9 vq9 vS9 vN9 vH9 vG9 rfl W9 0 rfl (Nat.le_of_ble_eq_true rfl)
  have N9 := Fr.snoc X9 N5 g_b6
  have O11 := ((O7.ext E6).wr W9 g_b6)
  obtain ⟨T10, h10, X10, e10, E10, A10, D10, -, st10⟩ := newO X9 hx hZ hown (ww 1 rfl) (ww 2 rfl) (ww 3 rfl) e9 (g := (mkF m 36 #[vI p1, vI p2, vI p3, vI p4, vI (p1 &&& (3 : Int32)), vR b1, vR b3, vR b6, .unset, .unset, .unset, .unset] [])) rfl (bb at_36) (by decide) (by decide)
  obtain ⟨b10, q_b10⟩ : ∃ z, z = (h9).size := ⟨_, rfl⟩
  rw [← q_b10] at A10 D10 st10
  have g_b10 : n0 ≤ b10 := Nat.le_trans (own_z0 O11) (Nat.le_of_eq q_b10.symm)
  have sz_b10 : h0.size ≤ b10 := Nat.le_trans (Nat.le_trans (Nat.le_trans (Nat.le_trans (Nat.le_trans (Nat.le_trans (Nat.le_trans (Nat.le_refl _) E1.1) (Keep.of_wr W2).1) E3.1) (Keep.of_wr W5).1) E6.1) (Keep.of_wr W9).1) (Nat.le_of_eq q_b10.symm)
  have F12 := ((F8.ext E6).other W9 ne_b1_b6)
  have ne_b1_b10 : b1 ≠ b10 := Nat.ne_of_lt (Nat.lt_of_lt_of_le F12.lt (Nat.le_of_eq q_b10.symm))
  have F13 := ((V5.ext E6).other W9 ne_b3_b6)
  have ne_b3_b10 : b3 ≠ b10 := Nat.ne_of_lt (Nat.lt_of_lt_of_le F13.lt (Nat.le_of_eq q_b10.symm))
  have ne_b6_b10 : b6 ≠ b10 := Nat.ne_of_lt (Nat.lt_of_lt_of_le V9.lt (Nat.le_of_eq q_b10.symm))
  have F_table_b10 : Fld Z h10 b10 cRE "table" "Lcom/example/chaseward/chaseward/engine/Relation$Tuples;" .null := D10 (Or.inl (ww 31 rfl)) (ty := (.object cTU)) (by decide)
  have F_indexes_b10 : Fld Z h10 b10 cRE "indexes" "Ljava/util/List;" .null := D10 (Or.inr (ww 57 rfl)) (ty := (.object "java/util/List")) (by decide)
  have F_arity_b10 : Fld Z h10 b10 cRE "arity" "I" (.int 0) := D10 (Or.inr (ww 59 rfl)) (ty := .int) (by decide)
  have F_values_b10 : Fld Z h10 b10 cRE "values" "Lcom/example/chaseward/chaseward/engine/RowValues;" .null := D10 (Or.inl (ww 86 rfl)) (ty := (.object cRV)) (by decide)
  have F_deltaStart_b10 : Fld Z h10 b10 cRE "deltaStart" "I" (.int 0) := D10 (Or.inl (ww 94 rfl)) (ty := .int) (by decide)
  have F_rows_b10 : Fld Z h10 b10 cRE "rows" "I" (.int 0) := D10 (Or.inl (ww 96 rfl)) (ty := .int) (by decide)
  have F_deltaEnd_b10 : Fld Z h10 b10 cRE "deltaEnd" "I" (.int 0) := D10 (Or.inl (ww 98 rfl)) (ty := .int) (by decide)
  have F_onlyNew_b10 : Fld Z h10 b10 cRE "onlyNew" "Z" (.int 0) := D10 (Or.inl (ww 120 rfl)) (ty := .boolean) (by decide)
  have F_sought_b10 : Fld Z h10 b10 cRE "sought" "[I" .null := D10 (Or.inl (ww 130 rfl)) (ty := (.array .int)) (by decide)
  have F_growth_b10 : Fld Z h10 b10 cRE "growth" "Ljava/lang/Runnable;" .null := D10 (Or.inl (ww 156 rfl)) (ty := (.object "java/lang/Runnable")) (by decide)
  have F_holdsNull_b10 : Fld Z h10 b10 cRE "holdsNull" "Z" (.int 0) := D10 (Or.inl (ww 238 rfl)) (ty := .boolean) (by decide)
  have F_rowWithNull_b10 : Fld Z h10 b10 cRE "rowWithNull" "Ljava/util/function/IntConsumer;" .null := D10 (Or.inl (ww 264 rfl)) (ty := (.object "java/util/function/IntConsumer")) (by decide)
  have O15 := (O11.ext E10)
  obtain ⟨_, _, ⟨T14, L14, k14, n14⟩, -, X14, ⟨Lc14, hQ14, l14, y14, z14⟩, st14⟩ := X10.specialBack hx (y := (⟨cRE, "<init>", "(I)V"⟩ : MethodName)) rfl hown (mvT hZ (ww 4 rfl)) (mvT hZ (ww 5 rfl)) (mvT hZ (ww 6 rfl)) (by decide) (backOf (W := 1) (rm_reInit l Z a0 hw [] wDE b10 h10 n0 (own_z0 O15) S_wDE O15 S_CS A10 F_table_b10 F_indexes_b10 F_values_b10 F_arity_b10 F_onlyNew_b10 F_sought_b10 F_growth_b10 F_deltaStart_b10 F_deltaEnd_b10 F_rows_b10 F_holdsNull_b10 F_rowWithNull_b10 g_b10) hZ (ww 6 rfl) (ww 3 rfl) (by decide) (by decide)) (g := (mkF m 41 #[vI p1, vI p2, vI p3, vI p4, vI (p1 &&& (3 : Int32)), vR b1, vR b3, vR b6, .unset, .unset, .unset, .unset] [(.int 1), (.ref b10), (.ref b10)])) rfl (by rw [hml]; rfl) (Steps.refl _) (a := b10) (argsL := [(.int 1)]) (rest := [(.ref b10)]) (lenOf pd__I_V_4 rfl) rfl (by show 2 * 0 + _ ≤ _; exact Nat.le_of_eq rfl) (bb at_41) (fun _ _ => ⟨rfl, e10, (by decide : 4 + 10 ≤ _), (by decide : 17 + 44 ≤ _)⟩)
  dsimp only [Pt.U, Pt.locs, Pt.cells, Pt.slots] at X14 l14 y14 z14 st14 hQ14
  subst l14 y14 z14
  obtain ⟨ot14, os14, ox14, ovs14, ow14, on14, ob14, ol14, oh14, ov14, ks_14, kw_14, kn_14, kb_14, kl_14, kh_14, kv_14, rfl, N14q, K14, szz_ot14, szz_os14, szz_ox14, szz_ovs14, szz_ow14, szz_on14, szz_ob14, szz_ol14, szz_oh14, szz_ov14, ne_ot14_os14, ne_ot14_ox14, ne_ot14_ovs14, ne_ot14_ow14, ne_ot14_on14, ne_ot14_ob14, ne_ot14_ol14, ne_ot14_oh14, ne_ot14_ov14, ne_os14_ox14, ne_os14_ovs14, ne_os14_ow14, ne_os14_on14, ne_os14_ob14, ne_os14_ol14, ne_os14_oh14, ne_os14_ov14, ne_ox14_ovs14, ne_ox14_ow14, ne_ox14_on14, ne_ox14_ob14, ne_ox14_ol14, ne_ox14_oh14, ne_ox14_ov14, ne_ovs14_ow14, ne_ovs14_on14, ne_ovs14_ob14, ne_ovs14_ol14, ne_ovs14_oh14, ne_ovs14_ov14, ne_ow14_on14, ne_ow14_ob14, ne_ow14_ol14, ne_ow14_oh14, ne_ow14_ov14, ne_on14_ob14, ne_on14_ol14, ne_on14_oh14, ne_on14_ov14, ne_ob14_ol14, ne_ob14_oh14, ne_ob14_ov14, ne_ol14_oh14, ne_ol14_ov14, ne_oh14_ov14, f14_0, f14_1, f14_2, f14_3, f14_4, f14_5, f14_6, f14_7, f14_8, f14_9, f14_10, f14_11, f14_12, f14_13, f14_14, f14_15, f14_16, f14_17, f14_18, f14_19, f14_20, f14_21, f14_22, f14_23, f14_24, f14_25, f14_26, f14_27, f14_28, f14_29, f14_30, f14_31, f14_32, f14_33, f14_34⟩ := hQ14
  have N14 := Fr.app N9 N14q
  have g_ot14 : n0 ≤ ot14 := Nat.le_trans (own_z0 O15) szz_ot14
  have sz_ot14 : h0.size ≤ ot14 := Nat.le_trans (Nat.le_trans (Nat.le_trans (Nat.le_trans (Nat.le_trans (Nat.le_trans (Nat.le_trans (Nat.le_trans (Nat.le_refl _) E1.1) (Keep.of_wr W2).1) E3.1) (Keep.of_wr W5).1) E6.1) (Keep.of_wr W9).1) E10.1) szz_ot14
  have F16 := (F12.ext E10)
  have ne_b1_ot14 : b1 ≠ ot14 := Nat.ne_of_lt (Nat.lt_of_lt_of_le F16.lt szz_ot14)
  have F17 := (F13.ext E10)
  have ne_b3_ot14 : b3 ≠ ot14 := Nat.ne_of_lt (Nat.lt_of_lt_of_le F17.lt szz_ot14)
  have F18 := (V9.ext E10)
  have ne_b6_ot14 : b6 ≠ ot14 := Nat.ne_of_lt (Nat.lt_of_lt_of_le F18.lt szz_ot14)
  have ne_b10_ot14 : b10 ≠ ot14 := Nat.ne_of_lt (Nat.lt_of_lt_of_le A10.lt szz_ot14)
  have g_os14 : n0 ≤ os14 := Nat.le_trans (own_z0 O15) szz_os14
  have sz_os14 : h0.size ≤ os14 := Nat.le_trans (Nat.le_trans (Nat.le_trans (Nat.le_trans (Nat.le_trans (Nat.le_trans (Nat.le_trans (Nat.le_trans (Nat.le_refl _) E1.1) (Keep.of_wr W2).1) E3.1) (Keep.of_wr W5).1) E6.1) (Keep.of_wr W9).1) E10.1) szz_os14
  have ne_b1_os14 : b1 ≠ os14 := Nat.ne_of_lt (Nat.lt_of_lt_of_le F16.lt szz_os14)
  have ne_b3_os14 : b3 ≠ os14 := Nat.ne_of_lt (Nat.lt_of_lt_of_le F17.lt szz_os14)
  have ne_b6_os14 : b6 ≠ os14 := Nat.ne_of_lt (Nat.lt_of_lt_of_le F18.lt szz_os14)
  have ne_b10_os14 : b10 ≠ os14 := Nat.ne_of_lt (Nat.lt_of_lt_of_le A10.lt szz_os14)
  have g_ox14 : n0 ≤ ox14 := Nat.le_trans (own_z0 O15) szz_ox14
  have sz_ox14 : h0.size ≤ ox14 := Nat.le_trans (Nat.le_trans (Nat.le_trans (Nat.le_trans (Nat.le_trans (Nat.le_trans (Nat.le_trans (Nat.le_trans (Nat.le_refl _) E1.1) (Keep.of_wr W2).1) E3.1) (Keep.of_wr W5).1) E6.1) (Keep.of_wr W9).1) E10.1) szz_ox14
  have ne_b1_ox14 : b1 ≠ ox14 := Nat.ne_of_lt (Nat.lt_of_lt_of_le F16.lt szz_ox14)
  have ne_b3_ox14 : b3 ≠ ox14 := Nat.ne_of_lt (Nat.lt_of_lt_of_le F17.lt szz_ox14)
  have ne_b6_ox14 : b6 ≠ ox14 := Nat.ne_of_lt (Nat.lt_of_lt_of_le F18.lt szz_ox14)
  have ne_b10_ox14 : b10 ≠ ox14 := Nat.ne_of_lt (Nat.lt_of_lt_of_le A10.lt szz_ox14)
  have g_ovs14 : n0 ≤ ovs14 := Nat.le_trans (own_z0 O15) szz_ovs14
  have sz_ovs14 : h0.size ≤ ovs14 := Nat.le_trans (Nat.le_trans (Nat.le_trans (Nat.le_trans (Nat.le_trans (Nat.le_trans (Nat.le_trans (Nat.le_trans (Nat.le_refl _) E1.1) (Keep.of_wr W2).1) E3.1) (Keep.of_wr W5).1) E6.1) (Keep.of_wr W9).1) E10.1) szz_ovs14
  have ne_b1_ovs14 : b1 ≠ ovs14 := Nat.ne_of_lt (Nat.lt_of_lt_of_le F16.lt szz_ovs14)
  have ne_b3_ovs14 : b3 ≠ ovs14 := Nat.ne_of_lt (Nat.lt_of_lt_of_le F17.lt szz_ovs14)
  have ne_b6_ovs14 : b6 ≠ ovs14 := Nat.ne_of_lt (Nat.lt_of_lt_of_le F18.lt szz_ovs14)
  have ne_b10_ovs14 : b10 ≠ ovs14 := Nat.ne_of_lt (Nat.lt_of_lt_of_le A10.lt szz_ovs14)
  have g_ow14 : n0 ≤ ow14 := Nat.le_trans (own_z0 O15) szz_ow14
  have sz_ow14 : h0.size ≤ ow14 := Nat.le_trans (Nat.le_trans (Nat.le_trans (Nat.le_trans (Nat.le_trans (Nat.le_trans (Nat.le_trans (Nat.le_trans (Nat.le_refl _) E1.1) (Keep.of_wr W2).1) E3.1) (Keep.of_wr W5).1) E6.1) (Keep.of_wr W9).1) E10.1) szz_ow14
  have ne_b1_ow14 : b1 ≠ ow14 := Nat.ne_of_lt (Nat.lt_of_lt_of_le F16.lt szz_ow14)
  have ne_b3_ow14 : b3 ≠ ow14 := Nat.ne_of_lt (Nat.lt_of_lt_of_le F17.lt szz_ow14)
  have ne_b6_ow14 : b6 ≠ ow14 := Nat.ne_of_lt (Nat.lt_of_lt_of_le F18.lt szz_ow14)
  have ne_b10_ow14 : b10 ≠ ow14 := Nat.ne_of_lt (Nat.lt_of_lt_of_le A10.lt szz_ow14)
  have g_on14 : n0 ≤ on14 := Nat.le_trans (own_z0 O15) szz_on14
  have sz_on14 : h0.size ≤ on14 := Nat.le_trans (Nat.le_trans (Nat.le_trans (Nat.le_trans (Nat.le_trans (Nat.le_trans (Nat.le_trans (Nat.le_trans (Nat.le_refl _) E1.1) (Keep.of_wr W2).1) E3.1) (Keep.of_wr W5).1) E6.1) (Keep.of_wr W9).1) E10.1) szz_on14
  have ne_b1_on14 : b1 ≠ on14 := Nat.ne_of_lt (Nat.lt_of_lt_of_le F16.lt szz_on14)
  have ne_b3_on14 : b3 ≠ on14 := Nat.ne_of_lt (Nat.lt_of_lt_of_le F17.lt szz_on14)
  have ne_b6_on14 : b6 ≠ on14 := Nat.ne_of_lt (Nat.lt_of_lt_of_le F18.lt szz_on14)
  have ne_b10_on14 : b10 ≠ on14 := Nat.ne_of_lt (Nat.lt_of_lt_of_le A10.lt szz_on14)
  have g_ob14 : n0 ≤ ob14 := Nat.le_trans (own_z0 O15) szz_ob14
  have sz_ob14 : h0.size ≤ ob14 := Nat.le_trans (Nat.le_trans (Nat.le_trans (Nat.le_trans (Nat.le_trans (Nat.le_trans (Nat.le_trans (Nat.le_trans (Nat.le_refl _) E1.1) (Keep.of_wr W2).1) E3.1) (Keep.of_wr W5).1) E6.1) (Keep.of_wr W9).1) E10.1) szz_ob14
  have ne_b1_ob14 : b1 ≠ ob14 := Nat.ne_of_lt (Nat.lt_of_lt_of_le F16.lt szz_ob14)
  have ne_b3_ob14 : b3 ≠ ob14 := Nat.ne_of_lt (Nat.lt_of_lt_of_le F17.lt szz_ob14)
  have ne_b6_ob14 : b6 ≠ ob14 := Nat.ne_of_lt (Nat.lt_of_lt_of_le F18.lt szz_ob14)
  have ne_b10_ob14 : b10 ≠ ob14 := Nat.ne_of_lt (Nat.lt_of_lt_of_le A10.lt szz_ob14)
  have g_ol14 : n0 ≤ ol14 := Nat.le_trans (own_z0 O15) szz_ol14
  have sz_ol14 : h0.size ≤ ol14 := Nat.le_trans (Nat.le_trans (Nat.le_trans (Nat.le_trans (Nat.le_trans (Nat.le_trans (Nat.le_trans (Nat.le_trans (Nat.le_refl _) E1.1) (Keep.of_wr W2).1) E3.1) (Keep.of_wr W5).1) E6.1) (Keep.of_wr W9).1) E10.1) szz_ol14
  have ne_b1_ol14 : b1 ≠ ol14 := Nat.ne_of_lt (Nat.lt_of_lt_of_le F16.lt szz_ol14)
  have ne_b3_ol14 : b3 ≠ ol14 := Nat.ne_of_lt (Nat.lt_of_lt_of_le F17.lt szz_ol14)
  have ne_b6_ol14 : b6 ≠ ol14 := Nat.ne_of_lt (Nat.lt_of_lt_of_le F18.lt szz_ol14)
  have ne_b10_ol14 : b10 ≠ ol14 := Nat.ne_of_lt (Nat.lt_of_lt_of_le A10.lt szz_ol14)
  have g_oh14 : n0 ≤ oh14 := Nat.le_trans (own_z0 O15) szz_oh14
  have sz_oh14 : h0.size ≤ oh14 := Nat.le_trans (Nat.le_trans (Nat.le_trans (Nat.le_trans (Nat.le_trans (Nat.le_trans (Nat.le_trans (Nat.le_trans (Nat.le_refl _) E1.1) (Keep.of_wr W2).1) E3.1) (Keep.of_wr W5).1) E6.1) (Keep.of_wr W9).1) E10.1) szz_oh14
  have ne_b1_oh14 : b1 ≠ oh14 := Nat.ne_of_lt (Nat.lt_of_lt_of_le F16.lt szz_oh14)
  have ne_b3_oh14 : b3 ≠ oh14 := Nat.ne_of_lt (Nat.lt_of_lt_of_le F17.lt szz_oh14)
  have ne_b6_oh14 : b6 ≠ oh14 := Nat.ne_of_lt (Nat.lt_of_lt_of_le F18.lt szz_oh14)
  have ne_b10_oh14 : b10 ≠ oh14 := Nat.ne_of_lt (Nat.lt_of_lt_of_le A10.lt szz_oh14)
  have g_ov14 : n0 ≤ ov14 := Nat.le_trans (own_z0 O15) szz_ov14
  have sz_ov14 : h0.size ≤ ov14 := Nat.le_trans (Nat.le_trans (Nat.le_trans (Nat.le_trans (Nat.le_trans (Nat.le_trans (Nat.le_trans (Nat.le_trans (Nat.le_refl _) E1.1) (Keep.of_wr W2).1) E3.1) (Keep.of_wr W5).1) E6.1) (Keep.of_wr W9).1) E10.1) szz_ov14
  have ne_b1_ov14 : b1 ≠ ov14 := Nat.ne_of_lt (Nat.lt_of_lt_of_le F16.lt szz_ov14)
  have ne_b3_ov14 : b3 ≠ ov14 := Nat.ne_of_lt (Nat.lt_of_lt_of_le F17.lt szz_ov14)
  have ne_b6_ov14 : b6 ≠ ov14 := Nat.ne_of_lt (Nat.lt_of_lt_of_le F18.lt szz_ov14)
  have ne_b10_ov14 : b10 ≠ ov14 := Nat.ne_of_lt (Nat.lt_of_lt_of_le A10.lt szz_ov14)
  have pre19 : ∀ t, GG p e below T14 (mkF m 46 #[vI p1, vI p2, vI p3, vI p4, vI (p1 &&& (3 : Int32)), vR b1, vR b3, vR b6, vR b10, .unset, .unset, .unset] []) t → GG p e below s₁ (entryFrame m #[(.int p1), (.int p2), (.int p3), (.int p4)] maxLocals) t := fun t k => pre0 t (by
      show GG p e below s₁ (mkF m 0 #[vI p1, vI p2, vI p3, vI p4, .unset, .unset, .unset, .unset, .unset, .unset, .unset, .unset] []) _
      refine XS.iloadN X0.here hx rfl (bb at_0) rfl ?_
      refine XS.iconst X0.here hx rfl (bb at_1) ?_
      refine XS.iand X0.here hx rfl (bb at_2) rfl ?_
      refine XS.istore X0.here hx rfl (bb at_3) rfl (l' := #[vI p1, vI p2, vI p3, vI p4, vI (p1 &&& (3 : Int32)), .unset, .unset, .unset, .unset, .unset, .unset, .unset]) rfl ?_
      refine XS.iconst X0.here hx rfl (bb at_5) ?_
      refine st1 _ ?_
      refine XS.dup X1.here hx rfl (bb at_8) rfl rfl ?_
      refine XS.iconst X1.here hx rfl (bb at_9) ?_
      refine XS.iloadN X1.here hx rfl (bb at_10) rfl ?_
      refine st2 _ ?_
      refine XS.astore X2.here hx rfl (bb at_12) rfl rfl (l' := #[vI p1, vI p2, vI p3, vI p4, vI (p1 &&& (3 : Int32)), vR b1, .unset, .unset, .unset, .unset, .unset, .unset]) rfl ?_
      refine XS.iconst X2.here hx rfl (bb at_14) ?_
      refine st3 _ ?_
      refine XS.dup X3.here hx rfl (bb at_17) rfl rfl ?_
      refine XS.iconst X3.here hx rfl (bb at_18) ?_
      refine XS.iloadN X3.here hx rfl (bb at_19) rfl ?_
      refine XS.iconst X3.here hx rfl (bb at_20) ?_
      refine XS.iadd X3.here hx rfl (bb at_21) rfl ?_
      refine st5 _ ?_
      refine XS.astore X5.here hx rfl (bb at_23) rfl rfl (l' := #[vI p1, vI p2, vI p3, vI p4, vI (p1 &&& (3 : Int32)), vR b1, vR b3, .unset, .unset, .unset, .unset, .unset]) rfl ?_
      refine XS.iconst X5.here hx rfl (bb at_25) ?_
      refine st6 _ ?_
      refine XS.dup X6.here hx rfl (bb at_28) rfl rfl ?_
      refine XS.iconst X6.here hx rfl (bb at_29) ?_
      refine XS.iloadN X6.here hx rfl (bb at_30) rfl ?_
      refine XS.iconst X6.here hx rfl (bb at_31) ?_
      refine XS.iadd X6.here hx rfl (bb at_32) rfl ?_
      refine st9 _ ?_
      refine XS.astore X9.here hx rfl (bb at_34) rfl rfl (l' := #[vI p1, vI p2, vI p3, vI p4, vI (p1 &&& (3 : Int32)), vR b1, vR b3, vR b6, .unset, .unset, .unset, .unset]) rfl ?_
      refine st10 _ ?_
      refine XS.dup X10.here hx rfl (bb at_39) rfl rfl ?_
      refine XS.iconst X10.here hx rfl (bb at_40) ?_
      refine st14.trans ?_
      refine XS.astore X14.here hx rfl (bb at_44) rfl rfl (l' := #[vI p1, vI p2, vI p3, vI p4, vI (p1 &&& (3 : Int32)), vR b1, vR b3, vR b6, vR b10, .unset, .unset, .unset]) rfl ?_
      exact k)
  obtain ⟨kk, hkk⟩ : ∃ z, z = (p1 &&& (3 : Int32)) := ⟨_, rfl⟩
  have pre20 := pre19
  rw [← hkk] at pre20
  obtain ⟨T20, L20, h20, so20, de20, zh20, X20, e20, N20, O20, Ex20, f20_0, f20_1, f20_2, f20_3, f20_4, f20_5, f20_6, f20_7, f20_8, f20_9, f20_10, pre20⟩ : ∃ (T' : State) (L' : List Loc) (h' : Heap) (so : Value) (de zh : Int32), Stand p l e room_1 s m #[(.int p1), (.int p2), (.int p3), (.int p4)] below meth c T' L' 20 97 ∧ T'.heap = h' ∧ Fr n0 L' ∧ Old Z n0 h' ∧ Exa Z h' b10 cRE ∧ Fld Z h' b10 cRE "onlyNew" "Z" (.int 0) ∧ Fld Z h' b10 cRE "sought" "[I" so ∧ Fld Z h' b10 cRE "growth" "Ljava/lang/Runnable;" .null ∧ Fld Z h' b10 cRE "deltaStart" "I" (.int 0) ∧ Fld Z h' b10 cRE "deltaEnd" "I" (.int de) ∧ Fld Z h' b10 cRE "rows" "I" (.int kk) ∧ Fld Z h' b10 cRE "holdsNull" "Z" (.int zh) ∧ Fld Z h' b10 cRE "rowWithNull" "Ljava/util/function/IntConsumer;" .null ∧ Fld Z h' b10 cRE "table" "Lcom/example/chaseward/chaseward/engine/Relation$Tuples;" (.ref ot14) ∧ Fld Z h' b10 cRE "indexes" "Ljava/util/List;" (.ref ox14) ∧ Fld Z h' b10 cRE "values" "Lcom/example/chaseward/chaseward/engine/RowValues;" (.ref ovs14) ∧ ∀ t, GG p e below T' (mkF m 100 #[vI p1, vI p2, vI p3, vI p4, vI kk, vR b1, vR b3, vR b6, vR b10, .unset, .unset, .unset] []) t → GG p e below s₁ (entryFrame m #[(.int p1), (.int p2), (.int p3), (.int p4)] maxLocals) t := by
    have hq := own_k3 p1
    rw [← hkk] at hq
    clear hkk
    rcases hq with rfl | rfl | rfl | rfl
    · skip
      have pre21 : ∀ t, GG p e below T14 (mkF m 60 #[vI p1, vI p2, vI p3, vI p4, vI 0, vR b1, vR b3, vR b6, vR b10, .unset, .unset, .unset] []) t → GG p e below s₁ (entryFrame m #[(.int p1), (.int p2), (.int p3), (.int p4)] maxLocals) t := fun t k => pre20 t (by
          show GG p e below T14 (mkF m 46 #[vI p1, vI p2, vI p3, vI p4, vI 0, vR b1, vR b3, vR b6, vR b10, .unset, .unset, .unset] []) _
          refine XS.iload X14.here hx rfl (bb at_46) rfl ?_
          refine XS.iconst X14.here hx rfl (bb at_48) ?_
          refine XS.icmpYes X14.here hx rfl (pc0 := 49) (pc' := 60) rfl (bb at_49) rfl (tlt (by decide : (0 : Int32) < (1 : Int32))).1 (by decide) (by decide) ?_
          exact k)
      obtain ⟨T22, L22, h22, X22, e22, N22, K22, f22_0, f22_1, f22_2, f22_3, f22_4, f22_5, f22_6, f22_7, f22_8, f22_9, f22_10, pre22⟩ : ∃ (T' : State) (L' : List Loc) (h' : Heap), Stand p l e room_1 s m #[(.int p1), (.int p2), (.int p3), (.int p4)] below meth c T' L' 14 61 ∧ T'.heap = h' ∧ Fr n0 L' ∧ Keep T14.heap h' [b10] ∧ Fld Z h' b10 cRE "onlyNew" "Z" (.int 0) ∧ Fld Z h' b10 cRE "sought" "[I" .null ∧ Fld Z h' b10 cRE "growth" "Ljava/lang/Runnable;" .null ∧ Fld Z h' b10 cRE "deltaStart" "I" (.int 0) ∧ Fld Z h' b10 cRE "deltaEnd" "I" (.int (f_de p3 (0 : Int32))) ∧ Fld Z h' b10 cRE "rows" "I" (.int 0) ∧ Fld Z h' b10 cRE "holdsNull" "Z" (.int 0) ∧ Fld Z h' b10 cRE "rowWithNull" "Ljava/util/function/IntConsumer;" .null ∧ Fld Z h' b10 cRE "table" "Lcom/example/chaseward/chaseward/engine/Relation$Tuples;" (.ref ot14) ∧ Fld Z h' b10 cRE "indexes" "Ljava/util/List;" (.ref ox14) ∧ Fld Z h' b10 cRE "values" "Lcom/example/chaseward/chaseward/engine/RowValues;" (.ref ovs14) ∧ ∀ t, GG p e below T' (mkF m 72 #[vI p1, vI p2, vI p3, vI p4, vI 0, vR b1, vR b3, vR b6, vR b10, .unset, .unset, .unset] []) t → GG p e below s₁ (entryFrame m #[(.int p1), (.int p2), (.int p3), (.int p4)] maxLocals) t := by
        by_cases g22 : (p3 &&& (1 : Int32)) = (0 : Int32)
        · skip
          refine ⟨T14, _, T14.heap, X14, rfl, N14, (Keep.refl T14.heap [b10]), f14_3, f14_4, f14_5, f14_6, (by simp only [f_de, if_pos g22]; exact f14_7), f14_8, f14_9, f14_10, f14_0, f14_1, f14_2, fun t k => pre21 t ?_⟩
          show GG p e below T14 (mkF m 60 #[vI p1, vI p2, vI p3, vI p4, vI 0, vR b1, vR b3, vR b6, vR b10, .unset, .unset, .unset] []) _
          refine XS.iloadN X14.here hx rfl (bb at_60) rfl ?_
          refine XS.iconst X14.here hx rfl (bb at_61) ?_
          refine XS.iand X14.here hx rfl (bb at_62) rfl ?_
          refine XS.ifYes X14.here hx rfl (pc0 := 63) (pc' := 72) rfl (bb at_63) rfl ((if0 _ _).trans (teq g22).1) (by decide) (by decide) ?_
          exact k
        · skip
          have F24 := (A10.keep K14)
          have O25 := (O15.keep K14 (allS g_b10 all0))
          obtain ⟨cq23, kq23, q23a, q23b, q23c⟩ := isOf hZ rfl F24
          obtain ⟨_, _, ⟨T23, L23, k23, n23⟩, -, X23, ⟨Lc23, hQ23, l23, y23, z23⟩, st23⟩ := X14.virtualBack hx (y := (⟨cRE, "startRound", "()Z"⟩ : MethodName)) (z := (⟨cRE, "startRound", "()Z"⟩ : MethodName)) hown (mvT hZ (ww 257 rfl)) (mvT hZ (ww 258 rfl)) (notFace_of_selects (args := #[]) (mvT hZ (ww 260 rfl))) (mvT hZ (ww 260 rfl)) (mvT hZ (ww 259 rfl)) (by decide) (backOf (W := 0) (rm_sr l Z a0 hw [] wDE b10 ot14 ox14 ovs14 (0 : Int32) (0 : Int32) (0 : Int32) (0 : Int32) .null T14.heap n0 (own_z0 O25) S_wDE O25 S_CS F24 f14_3 f14_4 f14_5 f14_6 f14_7 f14_8 f14_9 f14_10 f14_0 f14_1 f14_2 g_b10) hZ (ww 261 rfl) (ww 3 rfl) (by decide) (by decide)) q23a q23c (g := (mkF m 68 #[vI p1, vI p2, vI p3, vI p4, vI 0, vR b1, vR b3, vR b6, vR b10, .unset, .unset, .unset] [(.ref b10)])) rfl (by rw [hml]; rfl) (Steps.refl _) (argsL := []) (rest := []) (lenOf pd___Z_3 rfl) rfl (by show 2 * 0 + _ ≤ _; exact Nat.le_of_eq rfl) (bb at_68) (fun _ _ => ⟨rfl, rfl, (by decide : 14 + 0 ≤ _), (by decide : 61 + 0 ≤ _)⟩)
          dsimp only [Pt.U, Pt.locs, Pt.cells, Pt.slots] at X23 l23 y23 z23 st23 hQ23
          subst l23 y23 z23
          obtain ⟨rfl, N23q, K23, f23_0, f23_1, f23_2, f23_3, f23_4, f23_5, f23_6, f23_7, f23_8, f23_9, f23_10⟩ := hQ23
          have N23 := Fr.app N14 N23q
          refine ⟨T23, _, T23.heap, X23, rfl, N23, ((Keep.refl T14.heap [b10]).trans K23 (allS (Or.inl (List.mem_of_getElem? (i := 0) rfl)) all0)), f23_0, f23_1, f23_2, f23_3, (by simp only [f_de, if_neg g22]; exact f23_4), f23_5, f23_6, f23_7, f23_8, f23_9, f23_10, fun t k => pre21 t ?_⟩
          show GG p e below T14 (mkF m 60 #[vI p1, vI p2, vI p3, vI p4, vI 0, vR b1, vR b3, vR b6, vR b10, .unset, .unset, .unset] []) _
          refine XS.iloadN X14.here hx rfl (bb at_60) rfl ?_
          refine XS.iconst X14.here hx rfl (bb at_61) ?_
          refine XS.iand X14.here hx rfl (bb at_62) rfl ?_
          refine XS.ifNo X14.here hx rfl (bb at_63) rfl ((if0 _ _).trans (feq g22).1) ?_
          refine XS.aload X14.here hx rfl (bb at_66) rfl rfl ?_
          refine st23.trans ?_
          refine XS.pop X23.here hx rfl (bb at_71) rfl rfl ?_
          exact k
      have O26 := ((O15.keep K14 (allS g_b10 all0)).keep K22 (allS g_b10 all0))
      have F27 := ((A10.keep K14).keep K22)
      exact ⟨T22, _, h22, .null, (f_de p3 (0 : Int32)), (0 : Int32), own_more X22 (by decide) (by decide), e22, N22, O26, F27, f22_0, f22_1, f22_2, f22_3, f22_4, f22_5, f22_6, f22_7, f22_8, f22_9, f22_10, fun t k => pre22 t (by
        show GG p e below T22 (mkF m 72 #[vI p1, vI p2, vI p3, vI p4, vI 0, vR b1, vR b3, vR b6, vR b10, .unset, .unset, .unset] []) _
        refine XS.iload X22.here hx rfl (bb at_72) rfl ?_
        refine XS.iconst X22.here hx rfl (bb at_74) ?_
        refine XS.icmpYes X22.here hx rfl (pc0 := 75) (pc' := 86) rfl (bb at_75) rfl (tlt (by decide : (0 : Int32) < (2 : Int32))).1 (by decide) (by decide) ?_
        refine XS.iload X22.here hx rfl (bb at_86) rfl ?_
        refine XS.iconst X22.here hx rfl (bb at_88) ?_
        refine XS.icmpYes X22.here hx rfl (pc0 := 89) (pc' := 100) rfl (bb at_89) rfl (tlt (by decide : (0 : Int32) < (3 : Int32))).1 (by decide) (by decide) ?_
        exact k)⟩
    · skip
      have F29 := (A10.keep K14)
      have F30 := (F16.keep K14 (ninS ne_b1_b10 nin0))
      have O32 := (O15.keep K14 (allS g_b10 all0))
      have OK31 : ∀ h1, Keep T14.heap h1 [b10] → Old Z n0 h1 := fun h1 K1 => O32.keep K1 (allS g_b10 all0)
      obtain ⟨cq28, kq28, q28a, q28b, q28c⟩ := isOf hZ rfl F29
      obtain ⟨_, _, ⟨T28, L28, k28, n28⟩, -, X28, ⟨Lc28, hQ28, l28, y28, z28⟩, st28⟩ := X14.virtualBack hx (y := (⟨cRE, "add", "([I)Z"⟩ : MethodName)) (z := (⟨cRE, "add", "([I)Z"⟩ : MethodName)) hown (mvT hZ (ww 114 rfl)) (mvT hZ (ww 115 rfl)) (notFace_of_selects (args := #[]) (mvT hZ (ww 117 rfl))) (mvT hZ (ww 117 rfl)) (mvT hZ (ww 116 rfl)) (by decide) (backOf (W := 0) (rm_reladd l Z a0 hw [] wDE b10 b1 ot14 ox14 ovs14 k1 p2 (0 : Int32) (0 : Int32) (0 : Int32) (0 : Int32) .null [ovs14, ob14, ol14, oh14, ov14] (J_add1N0 Z ovs14 ow14 on14 ob14 ol14 oh14 ov14 kw_14 kn_14 kb_14 kl_14 kh_14 kv_14 (0 : Int32) (0 : Int32) (0 : Int32) (0 : Int32) (0 : Int32) (0 : Int32) (0 : Int32) p2) os14 ks_14 [] (0 : Int32) T14.heap n0 (own_z0 O32) S_wDE O32 S_CS F29 f14_3 f14_4 f14_5 f14_6 f14_7 f14_8 f14_9 f14_10 f14_0 f14_1 f14_2 f14_16 f14_17 f14_18 F30 f14_19 f14_11 f14_13 f14_12 f14_15 f14_14 g_b10 g_ot14 g_os14 ne_b10_ot14 ne_b10_os14 ne_b10_ox14 (Ne.symm ne_b1_b10) ne_ot14_os14 (ninS ne_b10_ovs14 (ninS ne_b10_ob14 (ninS ne_b10_ol14 (ninS ne_b10_oh14 (ninS ne_b10_ov14 nin0))))) (ninS ne_ot14_ovs14 (ninS ne_ot14_ob14 (ninS ne_ot14_ol14 (ninS ne_ot14_oh14 (ninS ne_ot14_ov14 nin0))))) (ninS ne_os14_ovs14 (ninS ne_os14_ob14 (ninS ne_os14_ol14 (ninS ne_os14_oh14 (ninS ne_os14_ov14 nin0))))) (ninS ne_ox14_ovs14 (ninS ne_ox14_ob14 (ninS ne_ox14_ol14 (ninS ne_ox14_oh14 (ninS ne_ox14_ov14 nin0))))) (ninS ne_b1_ovs14 (ninS ne_b1_ob14 (ninS ne_b1_ol14 (ninS ne_b1_oh14 (ninS ne_b1_ov14 nin0))))) (allS g_ovs14 (allS g_ob14 (allS g_ol14 (allS g_oh14 (allS g_ov14 all0))))) (js_add1N0 (ninS (Ne.symm ne_b10_ovs14) (ninS (Ne.symm ne_ot14_ovs14) (ninS (Ne.symm ne_os14_ovs14) nin0))) (ninS (Ne.symm ne_b10_ow14) (ninS (Ne.symm ne_ot14_ow14) (ninS (Ne.symm ne_os14_ow14) nin0))) (ninS (Ne.symm ne_b10_on14) (ninS (Ne.symm ne_ot14_on14) (ninS (Ne.symm ne_os14_on14) nin0))) (ninS (Ne.symm ne_b10_ob14) (ninS (Ne.symm ne_ot14_ob14) (ninS (Ne.symm ne_os14_ob14) nin0))) (ninS (Ne.symm ne_b10_ol14) (ninS (Ne.symm ne_ot14_ol14) (ninS (Ne.symm ne_os14_ol14) nin0))) (ninS (Ne.symm ne_b10_oh14) (ninS (Ne.symm ne_ot14_oh14) (ninS (Ne.symm ne_os14_oh14) nin0))) (ninS (Ne.symm ne_b10_ov14) (ninS (Ne.symm ne_ot14_ov14) (ninS (Ne.symm ne_os14_ov14) nin0)))) rfl (by decide) (by decide) (fun h1 K1 => (rm_add1N0 l Z a0 hw [] wDE ovs14 b1 ow14 on14 ob14 ol14 oh14 ov14 kw_14 kn_14 kb_14 kl_14 kh_14 kv_14 (0 : Int32) (0 : Int32) (0 : Int32) (0 : Int32) (0 : Int32) (0 : Int32) (0 : Int32) (0 : Int32) (0 : Int32) (0 : Int32) (0 : Int32) k1 p2 h1 n0 (own_z0 (OK31 h1 K1)) S_wDE (OK31 h1 K1) S_CS (f14_19.keep K1) (f14_20.keep K1 (ninS (Ne.symm ne_b10_ovs14) nin0)) (f14_21.keep K1 (ninS (Ne.symm ne_b10_ovs14) nin0)) (f14_22.keep K1 (ninS (Ne.symm ne_b10_ovs14) nin0)) (f14_23.keep K1 (ninS (Ne.symm ne_b10_ovs14) nin0)) (f14_24.keep K1 (ninS (Ne.symm ne_b10_ovs14) nin0)) (f14_25.keep K1 (ninS (Ne.symm ne_b10_ovs14) nin0)) (f14_26.keep K1 (ninS (Ne.symm ne_b10_ovs14) nin0)) (f14_27.keep K1 (ninS (Ne.symm ne_b10_ow14) nin0)) f14_28 (f14_29.keep K1 (ninS (Ne.symm ne_b10_on14) nin0)) f14_30 (f14_31.keep K1 (ninS (Ne.symm ne_b10_ob14) nin0)) (f14_32.keep K1 (ninS (Ne.symm ne_b10_ol14) nin0)) (f14_33.keep K1 (ninS (Ne.symm ne_b10_oh14) nin0)) (f14_34.keep K1 (ninS (Ne.symm ne_b10_ov14) nin0)) (F30.keep K1 (ninS ne_b1_b10 nin0)) g_ovs14 g_ob14 g_ol14 g_oh14 g_ov14 ne_ovs14_ow14 ne_ovs14_on14 ne_ovs14_ob14 ne_ovs14_ol14 ne_ovs14_oh14 ne_ovs14_ov14 ne_ow14_on14 ne_ow14_ob14 ne_ow14_ol14 ne_ow14_oh14 ne_ow14_ov14 ne_on14_ob14 ne_on14_ol14 ne_on14_oh14 ne_on14_ov14 ne_ob14_ol14 ne_ob14_oh14 ne_ob14_ov14 ne_ol14_oh14 ne_ol14_ov14 ne_oh14_ov14 ne_b1_ovs14 ne_b1_ow14 ne_b1_on14 ne_b1_ob14 ne_b1_ol14 ne_b1_oh14 ne_b1_ov14))) hZ (ww 118 rfl) (ww 3 rfl) (by decide) (by decide)) q28a q28c (g := (mkF m 56 #[vI p1, vI p2, vI p3, vI p4, vI 1, vR b1, vR b3, vR b6, vR b10, .unset, .unset, .unset] [(.ref b1), (.ref b10)])) rfl (by rw [hml]; rfl) (Steps.refl _) (argsL := [(.ref b1)]) (rest := []) (lenOf pd___I_Z_5 rfl) rfl (by show 2 * 0 + _ ≤ _; exact Nat.le_of_eq rfl) (bb at_56) (fun _ _ => ⟨rfl, rfl, (by decide : 14 + 2 ≤ _), (by decide : 61 + 12 ≤ _)⟩)
      dsimp only [Pt.U, Pt.locs, Pt.cells, Pt.slots] at X28 l28 y28 z28 st28 hQ28
      subst l28 y28 z28
      obtain ⟨rfl, N28q, K28, f28_0, f28_1, f28_2, f28_3, f28_4, f28_5, f28_6, f28_7, f28_8, f28_9, f28_10, f28_11, f28_12, f28_13, f28_14, j28_0, j28_1, j28_2, j28_3, j28_4, j28_5, j28_6, j28_7, j28_8, j28_9, j28_10, j28_11, j28_12, j28_13, j28_14, j28_15⟩ := hQ28
      have N28 := Fr.app N14 N28q
      have L33_ : Fld Z T28.heap b10 cRE "rows" "I" (.int 1) := f28_5
      have L34_ : Fld Z T28.heap ot14 cRT "count" "I" (.int 1) := f28_13
      have pre35 : ∀ t, GG p e below T28 (mkF m 60 #[vI p1, vI p2, vI p3, vI p4, vI 1, vR b1, vR b3, vR b6, vR b10, .unset, .unset, .unset] []) t → GG p e below s₁ (entryFrame m #[(.int p1), (.int p2), (.int p3), (.int p4)] maxLocals) t := fun t k => pre20 t (by
          show GG p e below T14 (mkF m 46 #[vI p1, vI p2, vI p3, vI p4, vI 1, vR b1, vR b3, vR b6, vR b10, .unset, .unset, .unset] []) _
          refine XS.iload X14.here hx rfl (bb at_46) rfl ?_
          refine XS.iconst X14.here hx rfl (bb at_48) ?_
          refine XS.icmpNo X14.here hx rfl (bb at_49) rfl (flt (by decide : ¬ ((1 : Int32) < (1 : Int32)))).1 ?_
          refine XS.aload X14.here hx rfl (bb at_52) rfl rfl ?_
          refine XS.aload X14.here hx rfl (bb at_54) rfl rfl ?_
          refine st28.trans ?_
          refine XS.pop X28.here hx rfl (bb at_59) rfl rfl ?_
          exact k)
      obtain ⟨T36, L36, h36, X36, e36, N36, K36, f36_0, f36_1, f36_2, f36_3, f36_4, f36_5, f36_6, f36_7, f36_8, f36_9, f36_10, pre36⟩ : ∃ (T' : State) (L' : List Loc) (h' : Heap), Stand p l e room_1 s m #[(.int p1), (.int p2), (.int p3), (.int p4)] below meth c T' L' 16 73 ∧ T'.heap = h' ∧ Fr n0 L' ∧ Keep T28.heap h' [b10] ∧ Fld Z h' b10 cRE "onlyNew" "Z" (.int 0) ∧ Fld Z h' b10 cRE "sought" "[I" (.ref b1) ∧ Fld Z h' b10 cRE "growth" "Ljava/lang/Runnable;" .null ∧ Fld Z h' b10 cRE "deltaStart" "I" (.int (0 : Int32)) ∧ Fld Z h' b10 cRE "deltaEnd" "I" (.int (f_de p3 (1 : Int32))) ∧ Fld Z h' b10 cRE "rows" "I" (.int 1) ∧ Fld Z h' b10 cRE "holdsNull" "Z" (.int (f_hn (0 : Int32) p2)) ∧ Fld Z h' b10 cRE "rowWithNull" "Ljava/util/function/IntConsumer;" .null ∧ Fld Z h' b10 cRE "table" "Lcom/example/chaseward/chaseward/engine/Relation$Tuples;" (.ref ot14) ∧ Fld Z h' b10 cRE "indexes" "Ljava/util/List;" (.ref ox14) ∧ Fld Z h' b10 cRE "values" "Lcom/example/chaseward/chaseward/engine/RowValues;" (.ref ovs14) ∧ ∀ t, GG p e below T' (mkF m 72 #[vI p1, vI p2, vI p3, vI p4, vI 1, vR b1, vR b3, vR b6, vR b10, .unset, .unset, .unset] []) t → GG p e below s₁ (entryFrame m #[(.int p1), (.int p2), (.int p3), (.int p4)] maxLocals) t := by
        by_cases g36 : (p3 &&& (1 : Int32)) = (0 : Int32)
        · skip
          refine ⟨T28, _, T28.heap, X28, rfl, N28, (Keep.refl T28.heap [b10]), f28_0, f28_1, f28_2, f28_3, (by simp only [f_de, if_pos g36]; exact f28_4), L33_, f28_6, f28_7, f28_8, f28_9, f28_10, fun t k => pre35 t ?_⟩
          show GG p e below T28 (mkF m 60 #[vI p1, vI p2, vI p3, vI p4, vI 1, vR b1, vR b3, vR b6, vR b10, .unset, .unset, .unset] []) _
          refine XS.iloadN X28.here hx rfl (bb at_60) rfl ?_
          refine XS.iconst X28.here hx rfl (bb at_61) ?_
          refine XS.iand X28.here hx rfl (bb at_62) rfl ?_
          refine XS.ifYes X28.here hx rfl (pc0 := 63) (pc' := 72) rfl (bb at_63) rfl ((if0 _ _).trans (teq g36).1) (by decide) (by decide) ?_
          exact k
        · skip
          have F38 := (F29.keep K28)
          have O39 := (O32.keep K28 (allS g_b10 (allS g_ot14 (allS g_os14 (allS g_ovs14 (allS g_ob14 (allS g_ol14 (allS g_oh14 (allS g_ov14 all0)))))))))
          obtain ⟨cq37, kq37, q37a, q37b, q37c⟩ := isOf hZ rfl F38
          obtain ⟨_, _, ⟨T37, L37, k37, n37⟩, -, X37, ⟨Lc37, hQ37, l37, y37, z37⟩, st37⟩ := X28.virtualBack hx (y := (⟨cRE, "startRound", "()Z"⟩ : MethodName)) (z := (⟨cRE, "startRound", "()Z"⟩ : MethodName)) hown (mvT hZ (ww 257 rfl)) (mvT hZ (ww 258 rfl)) (notFace_of_selects (args := #[]) (mvT hZ (ww 260 rfl))) (mvT hZ (ww 260 rfl)) (mvT hZ (ww 259 rfl)) (by decide) (backOf (W := 0) (rm_sr l Z a0 hw [] wDE b10 ot14 ox14 ovs14 (1 : Int32) (0 : Int32) (0 : Int32) (f_hn (0 : Int32) p2) (.ref b1) T28.heap n0 (own_z0 O39) S_wDE O39 S_CS F38 f28_0 f28_1 f28_2 f28_3 f28_4 L33_ f28_6 f28_7 f28_8 f28_9 f28_10 g_b10) hZ (ww 261 rfl) (ww 3 rfl) (by decide) (by decide)) q37a q37c (g := (mkF m 68 #[vI p1, vI p2, vI p3, vI p4, vI 1, vR b1, vR b3, vR b6, vR b10, .unset, .unset, .unset] [(.ref b10)])) rfl (by rw [hml]; rfl) (Steps.refl _) (argsL := []) (rest := []) (lenOf pd___Z_3 rfl) rfl (by show 2 * 0 + _ ≤ _; exact Nat.le_of_eq rfl) (bb at_68) (fun _ _ => ⟨rfl, rfl, (by decide : 16 + 0 ≤ _), (by decide : 73 + 0 ≤ _)⟩)
          dsimp only [Pt.U, Pt.locs, Pt.cells, Pt.slots] at X37 l37 y37 z37 st37 hQ37
          subst l37 y37 z37
          obtain ⟨rfl, N37q, K37, f37_0, f37_1, f37_2, f37_3, f37_4, f37_5, f37_6, f37_7, f37_8, f37_9, f37_10⟩ := hQ37
          have N37 := Fr.app N28 N37q
          refine ⟨T37, _, T37.heap, X37, rfl, N37, ((Keep.refl T28.heap [b10]).trans K37 (allS (Or.inl (List.mem_of_getElem? (i := 0) rfl)) all0)), f37_0, f37_1, f37_2, f37_3, (by simp only [f_de, if_neg g36]; exact f37_4), f37_5, f37_6, f37_7, f37_8, f37_9, f37_10, fun t k => pre35 t ?_⟩
          show GG p e below T28 (mkF m 60 #[vI p1, vI p2, vI p3, vI p4, vI 1, vR b1, vR b3, vR b6, vR b10, .unset, .unset, .unset] []) _
          refine XS.iloadN X28.here hx rfl (bb at_60) rfl ?_
          refine XS.iconst X28.here hx rfl (bb at_61) ?_
          refine XS.iand X28.here hx rfl (bb at_62) rfl ?_
          refine XS.ifNo X28.here hx rfl (bb at_63) rfl ((if0 _ _).trans (feq g36).1) ?_
          refine XS.aload X28.here hx rfl (bb at_66) rfl rfl ?_
          refine st37.trans ?_
          refine XS.pop X37.here hx rfl (bb at_71) rfl rfl ?_
          exact k
      have O40 := ((O32.keep K28 (allS g_b10 (allS g_ot14 (allS g_os14 (allS g_ovs14 (allS g_ob14 (allS g_ol14 (allS g_oh14 (allS g_ov14 all0))))))))).keep K36 (allS g_b10 all0))
      have F41 := ((F29.keep K28).keep K36)
      exact ⟨T36, _, h36, (.ref b1), (f_de p3 (1 : Int32)), (f_hn (0 : Int32) p2), own_more X36 (by decide) (by decide), e36, N36, O40, F41, f36_0, f36_1, f36_2, f36_3, f36_4, f36_5, f36_6, f36_7, f36_8, f36_9, f36_10, fun t k => pre36 t (by
        show GG p e below T36 (mkF m 72 #[vI p1, vI p2, vI p3, vI p4, vI 1, vR b1, vR b3, vR b6, vR b10, .unset, .unset, .unset] []) _
        refine XS.iload X36.here hx rfl (bb at_72) rfl ?_
        refine XS.iconst X36.here hx rfl (bb at_74) ?_
        refine XS.icmpYes X36.here hx rfl (pc0 := 75) (pc' := 86) rfl (bb at_75) rfl (tlt (by decide : (1 : Int32) < (2 : Int32))).1 (by decide) (by decide) ?_
        refine XS.iload X36.here hx rfl (bb at_86) rfl ?_
        refine XS.iconst X36.here hx rfl (bb at_88) ?_
        refine XS.icmpYes X36.here hx rfl (pc0 := 89) (pc' := 100) rfl (bb at_89) rfl (tlt (by decide : (1 : Int32) < (3 : Int32))).1 (by decide) (by decide) ?_
        exact k)⟩
    · skip
      have F43 := (A10.keep K14)
      have F44 := (F16.keep K14 (ninS ne_b1_b10 nin0))
      have O46 := (O15.keep K14 (allS g_b10 all0))
      have OK45 : ∀ h1, Keep T14.heap h1 [b10] → Old Z n0 h1 := fun h1 K1 => O46.keep K1 (allS g_b10 all0)
      obtain ⟨cq42, kq42, q42a, q42b, q42c⟩ := isOf hZ rfl F43
      obtain ⟨_, _, ⟨T42, L42, k42, n42⟩, -, X42, ⟨Lc42, hQ42, l42, y42, z42⟩, st42⟩ := X14.virtualBack hx (y := (⟨cRE, "add", "([I)Z"⟩ : MethodName)) (z := (⟨cRE, "add", "([I)Z"⟩ : MethodName)) hown (mvT hZ (ww 114 rfl)) (mvT hZ (ww 115 rfl)) (notFace_of_selects (args := #[]) (mvT hZ (ww 117 rfl))) (mvT hZ (ww 117 rfl)) (mvT hZ (ww 116 rfl)) (by decide) (backOf (W := 0) (rm_reladd l Z a0 hw [] wDE b10 b1 ot14 ox14 ovs14 k1 p2 (0 : Int32) (0 : Int32) (0 : Int32) (0 : Int32) .null [ovs14, ob14, ol14, oh14, ov14] (J_add1N0 Z ovs14 ow14 on14 ob14 ol14 oh14 ov14 kw_14 kn_14 kb_14 kl_14 kh_14 kv_14 (0 : Int32) (0 : Int32) (0 : Int32) (0 : Int32) (0 : Int32) (0 : Int32) (0 : Int32) p2) os14 ks_14 [] (0 : Int32) T14.heap n0 (own_z0 O46) S_wDE O46 S_CS F43 f14_3 f14_4 f14_5 f14_6 f14_7 f14_8 f14_9 f14_10 f14_0 f14_1 f14_2 f14_16 f14_17 f14_18 F44 f14_19 f14_11 f14_13 f14_12 f14_15 f14_14 g_b10 g_ot14 g_os14 ne_b10_ot14 ne_b10_os14 ne_b10_ox14 (Ne.symm ne_b1_b10) ne_ot14_os14 (ninS ne_b10_ovs14 (ninS ne_b10_ob14 (ninS ne_b10_ol14 (ninS ne_b10_oh14 (ninS ne_b10_ov14 nin0))))) (ninS ne_ot14_ovs14 (ninS ne_ot14_ob14 (ninS ne_ot14_ol14 (ninS ne_ot14_oh14 (ninS ne_ot14_ov14 nin0))))) (ninS ne_os14_ovs14 (ninS ne_os14_ob14 (ninS ne_os14_ol14 (ninS ne_os14_oh14 (ninS ne_os14_ov14 nin0))))) (ninS ne_ox14_ovs14 (ninS ne_ox14_ob14 (ninS ne_ox14_ol14 (ninS ne_ox14_oh14 (ninS ne_ox14_ov14 nin0))))) (ninS ne_b1_ovs14 (ninS ne_b1_ob14 (ninS ne_b1_ol14 (ninS ne_b1_oh14 (ninS ne_b1_ov14 nin0))))) (allS g_ovs14 (allS g_ob14 (allS g_ol14 (allS g_oh14 (allS g_ov14 all0))))) (js_add1N0 (ninS (Ne.symm ne_b10_ovs14) (ninS (Ne.symm ne_ot14_ovs14) (ninS (Ne.symm ne_os14_ovs14) nin0))) (ninS (Ne.symm ne_b10_ow14) (ninS (Ne.symm ne_ot14_ow14) (ninS (Ne.symm ne_os14_ow14) nin0))) (ninS (Ne.symm ne_b10_on14) (ninS (Ne.symm ne_ot14_on14) (ninS (Ne.symm ne_os14_on14) nin0))) (ninS (Ne.symm ne_b10_ob14) (ninS (Ne.symm ne_ot14_ob14) (ninS (Ne.symm ne_os14_ob14) nin0))) (ninS (Ne.symm ne_b10_ol14) (ninS (Ne.symm ne_ot14_ol14) (ninS (Ne.symm ne_os14_ol14) nin0))) (ninS (Ne.symm ne_b10_oh14) (ninS (Ne.symm ne_ot14_oh14) (ninS (Ne.symm ne_os14_oh14) nin0))) (ninS (Ne.symm ne_b10_ov14) (ninS (Ne.symm ne_ot14_ov14) (ninS (Ne.symm ne_os14_ov14) nin0)))) rfl (by decide) (by decide) (fun h1 K1 => (rm_add1N0 l Z a0 hw [] wDE ovs14 b1 ow14 on14 ob14 ol14 oh14 ov14 kw_14 kn_14 kb_14 kl_14 kh_14 kv_14 (0 : Int32) (0 : Int32) (0 : Int32) (0 : Int32) (0 : Int32) (0 : Int32) (0 : Int32) (0 : Int32) (0 : Int32) (0 : Int32) (0 : Int32) k1 p2 h1 n0 (own_z0 (OK45 h1 K1)) S_wDE (OK45 h1 K1) S_CS (f14_19.keep K1) (f14_20.keep K1 (ninS (Ne.symm ne_b10_ovs14) nin0)) (f14_21.keep K1 (ninS (Ne.symm ne_b10_ovs14) nin0)) (f14_22.keep K1 (ninS (Ne.symm ne_b10_ovs14) nin0)) (f14_23.keep K1 (ninS (Ne.symm ne_b10_ovs14) nin0)) (f14_24.keep K1 (ninS (Ne.symm ne_b10_ovs14) nin0)) (f14_25.keep K1 (ninS (Ne.symm ne_b10_ovs14) nin0)) (f14_26.keep K1 (ninS (Ne.symm ne_b10_ovs14) nin0)) (f14_27.keep K1 (ninS (Ne.symm ne_b10_ow14) nin0)) f14_28 (f14_29.keep K1 (ninS (Ne.symm ne_b10_on14) nin0)) f14_30 (f14_31.keep K1 (ninS (Ne.symm ne_b10_ob14) nin0)) (f14_32.keep K1 (ninS (Ne.symm ne_b10_ol14) nin0)) (f14_33.keep K1 (ninS (Ne.symm ne_b10_oh14) nin0)) (f14_34.keep K1 (ninS (Ne.symm ne_b10_ov14) nin0)) (F44.keep K1 (ninS ne_b1_b10 nin0)) g_ovs14 g_ob14 g_ol14 g_oh14 g_ov14 ne_ovs14_ow14 ne_ovs14_on14 ne_ovs14_ob14 ne_ovs14_ol14 ne_ovs14_oh14 ne_ovs14_ov14 ne_ow14_on14 ne_ow14_ob14 ne_ow14_ol14 ne_ow14_oh14 ne_ow14_ov14 ne_on14_ob14 ne_on14_ol14 ne_on14_oh14 ne_on14_ov14 ne_ob14_ol14 ne_ob14_oh14 ne_ob14_ov14 ne_ol14_oh14 ne_ol14_ov14 ne_oh14_ov14 ne_b1_ovs14 ne_b1_ow14 ne_b1_on14 ne_b1_ob14 ne_b1_ol14 ne_b1_oh14 ne_b1_ov14))) hZ (ww 118 rfl) (ww 3 rfl) (by decide) (by decide)) q42a q42c (g := (mkF m 56 #[vI p1, vI p2, vI p3, vI p4, vI 2, vR b1, vR b3, vR b6, vR b10, .unset, .unset, .unset] [(.ref b1), (.ref b10)])) rfl (by rw [hml]; rfl) (Steps.refl _) (argsL := [(.ref b1)]) (rest := []) (lenOf pd___I_Z_5 rfl) rfl (by show 2 * 0 + _ ≤ _; exact Nat.le_of_eq rfl) (bb at_56) (fun _ _ => ⟨rfl, rfl, (by decide : 14 + 2 ≤ _), (by decide : 61 + 12 ≤ _)⟩)
      dsimp only [Pt.U, Pt.locs, Pt.cells, Pt.slots] at X42 l42 y42 z42 st42 hQ42
      subst l42 y42 z42
      obtain ⟨rfl, N42q, K42, f42_0, f42_1, f42_2, f42_3, f42_4, f42_5, f42_6, f42_7, f42_8, f42_9, f42_10, f42_11, f42_12, f42_13, f42_14, j42_0, j42_1, j42_2, j42_3, j42_4, j42_5, j42_6, j42_7, j42_8, j42_9, j42_10, j42_11, j42_12, j42_13, j42_14, j42_15⟩ := hQ42
      have N42 := Fr.app N14 N42q
      have L47_ : Fld Z T42.heap b10 cRE "rows" "I" (.int 1) := f42_5
      have L48_ : Fld Z T42.heap ot14 cRT "count" "I" (.int 1) := f42_13
      have pre49 : ∀ t, GG p e below T42 (mkF m 60 #[vI p1, vI p2, vI p3, vI p4, vI 2, vR b1, vR b3, vR b6, vR b10, .unset, .unset, .unset] []) t → GG p e below s₁ (entryFrame m #[(.int p1), (.int p2), (.int p3), (.int p4)] maxLocals) t := fun t k => pre20 t (by
          show GG p e below T14 (mkF m 46 #[vI p1, vI p2, vI p3, vI p4, vI 2, vR b1, vR b3, vR b6, vR b10, .unset, .unset, .unset] []) _
          refine XS.iload X14.here hx rfl (bb at_46) rfl ?_
          refine XS.iconst X14.here hx rfl (bb at_48) ?_
          refine XS.icmpNo X14.here hx rfl (bb at_49) rfl (flt (by decide : ¬ ((2 : Int32) < (1 : Int32)))).1 ?_
          refine XS.aload X14.here hx rfl (bb at_52) rfl rfl ?_
          refine XS.aload X14.here hx rfl (bb at_54) rfl rfl ?_
          refine st42.trans ?_
          refine XS.pop X42.here hx rfl (bb at_59) rfl rfl ?_
          exact k)
      obtain ⟨T50, L50, h50, X50, e50, N50, K50, f50_0, f50_1, f50_2, f50_3, f50_4, f50_5, f50_6, f50_7, f50_8, f50_9, f50_10, pre50⟩ : ∃ (T' : State) (L' : List Loc) (h' : Heap), Stand p l e room_1 s m #[(.int p1), (.int p2), (.int p3), (.int p4)] below meth c T' L' 16 73 ∧ T'.heap = h' ∧ Fr n0 L' ∧ Keep T42.heap h' [b10] ∧ Fld Z h' b10 cRE "onlyNew" "Z" (.int 0) ∧ Fld Z h' b10 cRE "sought" "[I" (.ref b1) ∧ Fld Z h' b10 cRE "growth" "Ljava/lang/Runnable;" .null ∧ Fld Z h' b10 cRE "deltaStart" "I" (.int (0 : Int32)) ∧ Fld Z h' b10 cRE "deltaEnd" "I" (.int (f_de p3 (1 : Int32))) ∧ Fld Z h' b10 cRE "rows" "I" (.int 1) ∧ Fld Z h' b10 cRE "holdsNull" "Z" (.int (f_hn (0 : Int32) p2)) ∧ Fld Z h' b10 cRE "rowWithNull" "Ljava/util/function/IntConsumer;" .null ∧ Fld Z h' b10 cRE "table" "Lcom/example/chaseward/chaseward/engine/Relation$Tuples;" (.ref ot14) ∧ Fld Z h' b10 cRE "indexes" "Ljava/util/List;" (.ref ox14) ∧ Fld Z h' b10 cRE "values" "Lcom/example/chaseward/chaseward/engine/RowValues;" (.ref ovs14) ∧ ∀ t, GG p e below T' (mkF m 72 #[vI p1, vI p2, vI p3, vI p4, vI 2, vR b1, vR b3, vR b6, vR b10, .unset, .unset, .unset] []) t → GG p e below s₁ (entryFrame m #[(.int p1), (.int p2), (.int p3), (.int p4)] maxLocals) t := by
        by_cases g50 : (p3 &&& (1 : Int32)) = (0 : Int32)
        · skip
          refine ⟨T42, _, T42.heap, X42, rfl, N42, (Keep.refl T42.heap [b10]), f42_0, f42_1, f42_2, f42_3, (by simp only [f_de, if_pos g50]; exact f42_4), L47_, f42_6, f42_7, f42_8, f42_9, f42_10, fun t k => pre49 t ?_⟩
          show GG p e below T42 (mkF m 60 #[vI p1, vI p2, vI p3, vI p4, vI 2, vR b1, vR b3, vR b6, vR b10, .unset, .unset, .unset] []) _
          refine XS.iloadN X42.here hx rfl (bb at_60) rfl ?_
          refine XS.iconst X42.here hx rfl (bb at_61) ?_
          refine XS.iand X42.here hx rfl (bb at_62) rfl ?_
          refine XS.ifYes X42.here hx rfl (pc0 := 63) (pc' := 72) rfl (bb at_63) rfl ((if0 _ _).trans (teq g50).1) (by decide) (by decide) ?_
          exact k
        · skip
          have F52 := (F43.keep K42)
          have O53 := (O46.keep K42 (allS g_b10 (allS g_ot14 (allS g_os14 (allS g_ovs14 (allS g_ob14 (allS g_ol14 (allS g_oh14 (allS g_ov14 all0)))))))))
          obtain ⟨cq51, kq51, q51a, q51b, q51c⟩ := isOf hZ rfl F52
          obtain ⟨_, _, ⟨T51, L51, k51, n51⟩, -, X51, ⟨Lc51, hQ51, l51, y51, z51⟩, st51⟩ := X42.virtualBack hx (y := (⟨cRE, "startRound", "()Z"⟩ : MethodName)) (z := (⟨cRE, "startRound", "()Z"⟩ : MethodName)) hown (mvT hZ (ww 257 rfl)) (mvT hZ (ww 258 rfl)) (notFace_of_selects (args := #[]) (mvT hZ (ww 260 rfl))) (mvT hZ (ww 260 rfl)) (mvT hZ (ww 259 rfl)) (by decide) (backOf (W := 0) (rm_sr l Z a0 hw [] wDE b10 ot14 ox14 ovs14 (1 : Int32) (0 : Int32) (0 : Int32) (f_hn (0 : Int32) p2) (.ref b1) T42.heap n0 (own_z0 O53) S_wDE O53 S_CS F52 f42_0 f42_1 f42_2 f42_3 f42_4 L47_ f42_6 f42_7 f42_8 f42_9 f42_10 g_b10) hZ (ww 261 rfl) (ww 3 rfl) (by decide) (by decide)) q51a q51c (g := (mkF m 68 #[vI p1, vI p2, vI p3, vI p4, vI 2, vR b1, vR b3, vR b6, vR b10, .unset, .unset, .unset] [(.ref b10)])) rfl (by rw [hml]; rfl) (Steps.refl _) (argsL := []) (rest := []) (lenOf pd___Z_3 rfl) rfl (by show 2 * 0 + _ ≤ _; exact Nat.le_of_eq rfl) (bb at_68) (fun _ _ => ⟨rfl, rfl, (by decide : 16 + 0 ≤ _), (by decide : 73 + 0 ≤ _)⟩)
          dsimp only [Pt.U, Pt.locs, Pt.cells, Pt.slots] at X51 l51 y51 z51 st51 hQ51
          subst l51 y51 z51
          obtain ⟨rfl, N51q, K51, f51_0, f51_1, f51_2, f51_3, f51_4, f51_5, f51_6, f51_7, f51_8, f51_9, f51_10⟩ := hQ51
          have N51 := Fr.app N42 N51q
          refine ⟨T51, _, T51.heap, X51, rfl, N51, ((Keep.refl T42.heap [b10]).trans K51 (allS (Or.inl (List.mem_of_getElem? (i := 0) rfl)) all0)), f51_0, f51_1, f51_2, f51_3, (by simp only [f_de, if_neg g50]; exact f51_4), f51_5, f51_6, f51_7, f51_8, f51_9, f51_10, fun t k => pre49 t ?_⟩
          show GG p e below T42 (mkF m 60 #[vI p1, vI p2, vI p3, vI p4, vI 2, vR b1, vR b3, vR b6, vR b10, .unset, .unset, .unset] []) _
          refine XS.iloadN X42.here hx rfl (bb at_60) rfl ?_
          refine XS.iconst X42.here hx rfl (bb at_61) ?_
          refine XS.iand X42.here hx rfl (bb at_62) rfl ?_
          refine XS.ifNo X42.here hx rfl (bb at_63) rfl ((if0 _ _).trans (feq g50).1) ?_
          refine XS.aload X42.here hx rfl (bb at_66) rfl rfl ?_
          refine st51.trans ?_
          refine XS.pop X51.here hx rfl (bb at_71) rfl rfl ?_
          exact k
      have pre54 : ∀ t, GG p e below T50 (mkF m 82 #[vI p1, vI p2, vI p3, vI p4, vI 2, vR b1, vR b3, vR b6, vR b10, .unset, .unset, .unset] [(.ref b3), (.ref b10)]) t → GG p e below s₁ (entryFrame m #[(.int p1), (.int p2), (.int p3), (.int p4)] maxLocals) t := fun t k => pre50 t (by
          show GG p e below T50 (mkF m 72 #[vI p1, vI p2, vI p3, vI p4, vI 2, vR b1, vR b3, vR b6, vR b10, .unset, .unset, .unset] []) _
          refine XS.iload X50.here hx rfl (bb at_72) rfl ?_
          refine XS.iconst X50.here hx rfl (bb at_74) ?_
          refine XS.icmpNo X50.here hx rfl (bb at_75) rfl (flt (by decide : ¬ ((2 : Int32) < (2 : Int32)))).1 ?_
          refine XS.aload X50.here hx rfl (bb at_78) rfl rfl ?_
          refine XS.aload X50.here hx rfl (bb at_80) rfl rfl ?_
          exact k)
      by_cases g55 : (lcmpW (((f_maxI (p2 + (1 : Int32)) p2).toInt64) - ((f_minI (p2 + (1 : Int32)) p2).toInt64)) (65536 : Int64)) < (0 : Int32)
      · skip
        have F57 := ((F43.keep K42).keep K50)
        have F58 := ((f14_16.keep K42).keep K50)
        have F59 := ((f14_17.keep K42 (ninS (Ne.symm ne_b10_ox14) (ninS (Ne.symm ne_ot14_ox14) (ninS (Ne.symm ne_os14_ox14) (ninS ne_ox14_ovs14 (ninS ne_ox14_ob14 (ninS ne_ox14_ol14 (ninS ne_ox14_oh14 (ninS ne_ox14_ov14 nin0))))))))).keep K50 (ninS (Ne.symm ne_b10_ox14) nin0))
        have F60 := ((f14_18.keep K42 (ninS (Ne.symm ne_b10_ox14) (ninS (Ne.symm ne_ot14_ox14) (ninS (Ne.symm ne_os14_ox14) (ninS ne_ox14_ovs14 (ninS ne_ox14_ob14 (ninS ne_ox14_ol14 (ninS ne_ox14_oh14 (ninS ne_ox14_ov14 nin0))))))))).keep K50 (ninS (Ne.symm ne_b10_ox14) nin0))
        have F61 := (((F17.keep K14 (ninS ne_b3_b10 nin0)).keep K42 (ninS ne_b3_b10 (ninS ne_b3_ot14 (ninS ne_b3_os14 (ninS ne_b3_ovs14 (ninS ne_b3_ob14 (ninS ne_b3_ol14 (ninS ne_b3_oh14 (ninS ne_b3_ov14 nin0))))))))).keep K50 (ninS ne_b3_b10 nin0))
        have F62 := (j42_0.keep K50)
        have F63 := ((f14_11.keep K42).keep K50)
        have F64 := (f42_11.keep K50 (ninS (Ne.symm ne_b10_ot14) nin0))
        have F65 := (f42_12.keep K50 (ninS (Ne.symm ne_b10_ot14) nin0))
        have F66 := (f42_14.keep K50 (ninS (Ne.symm ne_b10_os14) nin0))
        have F67 := (L48_.keep K50 (ninS (Ne.symm ne_b10_ot14) nin0))
        have F68 := (j42_1.keep K50 (ninS (Ne.symm ne_b10_ovs14) nin0))
        have F69 := (j42_2.keep K50 (ninS (Ne.symm ne_b10_ovs14) nin0))
        have F70 := (j42_3.keep K50 (ninS (Ne.symm ne_b10_ovs14) nin0))
        have F71 := (j42_4.keep K50 (ninS (Ne.symm ne_b10_ovs14) nin0))
        have F72 := (j42_5.keep K50 (ninS (Ne.symm ne_b10_ovs14) nin0))
        have F73 := (j42_6.keep K50 (ninS (Ne.symm ne_b10_ovs14) nin0))
        have F74 := (j42_7.keep K50 (ninS (Ne.symm ne_b10_ovs14) nin0))
        have F75 := (j42_8.keep K50 (ninS (Ne.symm ne_b10_ow14) nin0))
        have F76 := (j42_10.keep K50 (ninS (Ne.symm ne_b10_on14) nin0))
        have F77 := (j42_12.keep K50 (ninS (Ne.symm ne_b10_ob14) nin0))
        have F78 := (j42_13.keep K50 (ninS (Ne.symm ne_b10_ol14) nin0))
        have F79 := (j42_14.keep K50 (ninS (Ne.symm ne_b10_oh14) nin0))
        have F80 := (j42_15.keep K50 (ninS (Ne.symm ne_b10_ov14) nin0))
        have O82 := ((O46.keep K42 (allS g_b10 (allS g_ot14 (allS g_os14 (allS g_ovs14 (allS g_ob14 (allS g_ol14 (allS g_oh14 (allS g_ov14 all0))))))))).keep K50 (allS g_b10 all0))
        have OK81 : ∀ h1, Keep h50 h1 [b10] → Old Z n0 h1 := fun h1 K1 => O82.keep K1 (allS g_b10 all0)
        obtain ⟨cq56, kq56, q56a, q56b, q56c⟩ := isOf hZ e50 F57
        obtain ⟨_, _, ⟨T56, L56, k56, n56⟩, -, X56, ⟨Lc56, hQ56, l56, y56, z56⟩, st56⟩ := X50.virtualBack hx (y := (⟨cRE, "add", "([I)Z"⟩ : MethodName)) (z := (⟨cRE, "add", "([I)Z"⟩ : MethodName)) hown (mvT hZ (ww 114 rfl)) (mvT hZ (ww 115 rfl)) (notFace_of_selects (args := #[]) (mvT hZ (ww 117 rfl))) (mvT hZ (ww 117 rfl)) (mvT hZ (ww 116 rfl)) (by decide) (backOf (W := 0) (rm_reladd l Z a0 hw [] wDE b10 b3 ot14 ox14 ovs14 k3 (p2 + (1 : Int32)) (1 : Int32) (f_de p3 (1 : Int32)) (0 : Int32) (f_hn (0 : Int32) p2) (.ref b1) [ovs14, ob14, ol14, oh14, ov14] (J_add1N1 Z ovs14 ow14 on14 ob14 ol14 oh14 ov14 kw_14 kn_14 kb_14 kl_14 kh_14 kv_14 (f_base p2 p2) p2 p2 p2 (0 : Int32) (0 : Int32) (0 : Int32) (0 : Int32) (0 : Int32) (0 : Int32) (p2 + (1 : Int32))) os14 ks_14 (((f_slot (f_hash p2)), (.int ((f_tagOf (f_hash p2)) ||| ((0 : Int32) + (1 : Int32))))) :: []) (1 : Int32) h50 n0 (own_z0 O82) S_wDE O82 S_CS F57 f50_0 f50_1 f50_2 f50_3 f50_4 f50_5 f50_6 f50_7 f50_8 f50_9 f50_10 F58 F59 F60 F61 F62 F63 F64 F65 F66 F67 g_b10 g_ot14 g_os14 ne_b10_ot14 ne_b10_os14 ne_b10_ox14 (Ne.symm ne_b3_b10) ne_ot14_os14 (ninS ne_b10_ovs14 (ninS ne_b10_ob14 (ninS ne_b10_ol14 (ninS ne_b10_oh14 (ninS ne_b10_ov14 nin0))))) (ninS ne_ot14_ovs14 (ninS ne_ot14_ob14 (ninS ne_ot14_ol14 (ninS ne_ot14_oh14 (ninS ne_ot14_ov14 nin0))))) (ninS ne_os14_ovs14 (ninS ne_os14_ob14 (ninS ne_os14_ol14 (ninS ne_os14_oh14 (ninS ne_os14_ov14 nin0))))) (ninS ne_ox14_ovs14 (ninS ne_ox14_ob14 (ninS ne_ox14_ol14 (ninS ne_ox14_oh14 (ninS ne_ox14_ov14 nin0))))) (ninS ne_b3_ovs14 (ninS ne_b3_ob14 (ninS ne_b3_ol14 (ninS ne_b3_oh14 (ninS ne_b3_ov14 nin0))))) (allS g_ovs14 (allS g_ob14 (allS g_ol14 (allS g_oh14 (allS g_ov14 all0))))) (js_add1N1 (ninS (Ne.symm ne_b10_ovs14) (ninS (Ne.symm ne_ot14_ovs14) (ninS (Ne.symm ne_os14_ovs14) nin0))) (ninS (Ne.symm ne_b10_ow14) (ninS (Ne.symm ne_ot14_ow14) (ninS (Ne.symm ne_os14_ow14) nin0))) (ninS (Ne.symm ne_b10_on14) (ninS (Ne.symm ne_ot14_on14) (ninS (Ne.symm ne_os14_on14) nin0))) (ninS (Ne.symm ne_b10_ob14) (ninS (Ne.symm ne_ot14_ob14) (ninS (Ne.symm ne_os14_ob14) nin0))) (ninS (Ne.symm ne_b10_ol14) (ninS (Ne.symm ne_ot14_ol14) (ninS (Ne.symm ne_os14_ol14) nin0))) (ninS (Ne.symm ne_b10_oh14) (ninS (Ne.symm ne_ot14_oh14) (ninS (Ne.symm ne_os14_oh14) nin0))) (ninS (Ne.symm ne_b10_ov14) (ninS (Ne.symm ne_ot14_ov14) (ninS (Ne.symm ne_os14_ov14) nin0)))) (getH_miss (own_slotb _).1 (own_sne (own_d10 p2)) rfl) (by decide) (by decide) (fun h1 K1 => (rm_add1N1 l Z a0 hw [] wDE ovs14 b3 ow14 on14 ob14 ol14 oh14 ov14 kw_14 kn_14 kb_14 kl_14 kh_14 kv_14 (f_base p2 p2) p2 p2 p2 (0 : Int32) (0 : Int32) (0 : Int32) (0 : Int32) (0 : Int32) (0 : Int32) (0 : Int32) k3 (p2 + (1 : Int32)) h1 n0 (own_z0 (OK81 h1 K1)) S_wDE (OK81 h1 K1) S_CS (F62.keep K1) (F68.keep K1 (ninS (Ne.symm ne_b10_ovs14) nin0)) (F69.keep K1 (ninS (Ne.symm ne_b10_ovs14) nin0)) (F70.keep K1 (ninS (Ne.symm ne_b10_ovs14) nin0)) (F71.keep K1 (ninS (Ne.symm ne_b10_ovs14) nin0)) (F72.keep K1 (ninS (Ne.symm ne_b10_ovs14) nin0)) (F73.keep K1 (ninS (Ne.symm ne_b10_ovs14) nin0)) (F74.keep K1 (ninS (Ne.symm ne_b10_ovs14) nin0)) (F75.keep K1 (ninS (Ne.symm ne_b10_ow14) nin0)) j42_9 (F76.keep K1 (ninS (Ne.symm ne_b10_on14) nin0)) j42_11 (F77.keep K1 (ninS (Ne.symm ne_b10_ob14) nin0)) (F78.keep K1 (ninS (Ne.symm ne_b10_ol14) nin0)) (F79.keep K1 (ninS (Ne.symm ne_b10_oh14) nin0)) (F80.keep K1 (ninS (Ne.symm ne_b10_ov14) nin0)) (F61.keep K1 (ninS ne_b3_b10 nin0)) g_ovs14 g_ob14 g_ol14 g_oh14 g_ov14 ne_ovs14_ow14 ne_ovs14_on14 ne_ovs14_ob14 ne_ovs14_ol14 ne_ovs14_oh14 ne_ovs14_ov14 ne_ow14_on14 ne_ow14_ob14 ne_ow14_ol14 ne_ow14_oh14 ne_ow14_ov14 ne_on14_ob14 ne_on14_ol14 ne_on14_oh14 ne_on14_ov14 ne_ob14_ol14 ne_ob14_oh14 ne_ob14_ov14 ne_ol14_oh14 ne_ol14_ov14 ne_oh14_ov14 ne_b3_ovs14 ne_b3_ow14 ne_b3_on14 ne_b3_ob14 ne_b3_ol14 ne_b3_oh14 ne_b3_ov14 g55))) hZ (ww 118 rfl) (ww 3 rfl) (by decide) (by decide)) q56a q56c (g := (mkF m 82 #[vI p1, vI p2, vI p3, vI p4, vI 2, vR b1, vR b3, vR b6, vR b10, .unset, .unset, .unset] [(.ref b3), (.ref b10)])) rfl (by rw [hml]; rfl) (Steps.refl _) (argsL := [(.ref b3)]) (rest := []) (lenOf pd___I_Z_5 rfl) rfl (by show 2 * 0 + _ ≤ _; exact Nat.le_of_eq rfl) (bb at_82) (fun _ _ => ⟨rfl, e50, (by decide : 16 + 2 ≤ _), (by decide : 73 + 12 ≤ _)⟩)
        dsimp only [Pt.U, Pt.locs, Pt.cells, Pt.slots] at X56 l56 y56 z56 st56 hQ56
        subst l56 y56 z56
        obtain ⟨rfl, N56q, K56, f56_0, f56_1, f56_2, f56_3, f56_4, f56_5, f56_6, f56_7, f56_8, f56_9, f56_10, f56_11, f56_12, f56_13, f56_14, j56_0, j56_1, j56_2, j56_3, j56_4, j56_5, j56_6, j56_7, j56_8, j56_9, j56_10, j56_11, j56_12, j56_13, j56_14, j56_15⟩ := hQ56
        have N56 := Fr.app N50 N56q
        have L83_ : Fld Z T56.heap b10 cRE "rows" "I" (.int 2) := f56_5
        have L84_ : Fld Z T56.heap ot14 cRT "count" "I" (.int 2) := f56_13
        have O85 := (O82.keep K56 (allS g_b10 (allS g_ot14 (allS g_os14 (allS g_ovs14 (allS g_ob14 (allS g_ol14 (allS g_oh14 (allS g_ov14 all0)))))))))
        have F86 := (F57.keep K56)
        exact ⟨T56, _, T56.heap, (.ref b3), (f_de p3 (1 : Int32)), (f_hn (f_hn (0 : Int32) p2) (p2 + (1 : Int32))), own_more X56 (by decide) (by decide), rfl, N56, O85, F86, f56_0, f56_1, f56_2, f56_3, f56_4, L83_, f56_6, f56_7, f56_8, f56_9, f56_10, fun t k => pre54 t (by
          show GG p e below T50 (mkF m 82 #[vI p1, vI p2, vI p3, vI p4, vI 2, vR b1, vR b3, vR b6, vR b10, .unset, .unset, .unset] [(.ref b3), (.ref b10)]) _
          refine st56.trans ?_
          refine XS.pop X56.here hx rfl (bb at_85) rfl rfl ?_
          refine XS.iload X56.here hx rfl (bb at_86) rfl ?_
          refine XS.iconst X56.here hx rfl (bb at_88) ?_
          refine XS.icmpYes X56.here hx rfl (pc0 := 89) (pc' := 100) rfl (bb at_89) rfl (tlt (by decide : (2 : Int32) < (3 : Int32))).1 (by decide) (by decide) ?_
          exact k)⟩
      · skip
        have F88 := ((F43.keep K42).keep K50)
        have F89 := ((f14_16.keep K42).keep K50)
        have F90 := ((f14_17.keep K42 (ninS (Ne.symm ne_b10_ox14) (ninS (Ne.symm ne_ot14_ox14) (ninS (Ne.symm ne_os14_ox14) (ninS ne_ox14_ovs14 (ninS ne_ox14_ob14 (ninS ne_ox14_ol14 (ninS ne_ox14_oh14 (ninS ne_ox14_ov14 nin0))))))))).keep K50 (ninS (Ne.symm ne_b10_ox14) nin0))
        have F91 := ((f14_18.keep K42 (ninS (Ne.symm ne_b10_ox14) (ninS (Ne.symm ne_ot14_ox14) (ninS (Ne.symm ne_os14_ox14) (ninS ne_ox14_ovs14 (ninS ne_ox14_ob14 (ninS ne_ox14_ol14 (ninS ne_ox14_oh14 (ninS ne_ox14_ov14 nin0))))))))).keep K50 (ninS (Ne.symm ne_b10_ox14) nin0))
        have F92 := (((F17.keep K14 (ninS ne_b3_b10 nin0)).keep K42 (ninS ne_b3_b10 (ninS ne_b3_ot14 (ninS ne_b3_os14 (ninS ne_b3_ovs14 (ninS ne_b3_ob14 (ninS ne_b3_ol14 (ninS ne_b3_oh14 (ninS ne_b3_ov14 nin0))))))))).keep K50 (ninS ne_b3_b10 nin0))
        have F93 := (j42_0.keep K50)
        have F94 := ((f14_11.keep K42).keep K50)
        have F95 := (f42_11.keep K50 (ninS (Ne.symm ne_b10_ot14) nin0))
        have F96 := (f42_12.keep K50 (ninS (Ne.symm ne_b10_ot14) nin0))
        have F97 := (f42_14.keep K50 (ninS (Ne.symm ne_b10_os14) nin0))
        have F98 := (L48_.keep K50 (ninS (Ne.symm ne_b10_ot14) nin0))
        have F99 := (j42_1.keep K50 (ninS (Ne.symm ne_b10_ovs14) nin0))
        have F100 := (j42_2.keep K50 (ninS (Ne.symm ne_b10_ovs14) nin0))
        have F101 := (j42_3.keep K50 (ninS (Ne.symm ne_b10_ovs14) nin0))
        have F102 := (j42_4.keep K50 (ninS (Ne.symm ne_b10_ovs14) nin0))
        have F103 := (j42_5.keep K50 (ninS (Ne.symm ne_b10_ovs14) nin0))
        have F104 := (j42_6.keep K50 (ninS (Ne.symm ne_b10_ovs14) nin0))
        have F105 := (j42_7.keep K50 (ninS (Ne.symm ne_b10_ovs14) nin0))
        have F106 := (j42_8.keep K50 (ninS (Ne.symm ne_b10_ow14) nin0))
        have F107 := (j42_10.keep K50 (ninS (Ne.symm ne_b10_on14) nin0))
        have F108 := (j42_12.keep K50 (ninS (Ne.symm ne_b10_ob14) nin0))
        have F109 := (j42_13.keep K50 (ninS (Ne.symm ne_b10_ol14) nin0))
        have F110 := (j42_14.keep K50 (ninS (Ne.symm ne_b10_oh14) nin0))
        have F111 := (j42_15.keep K50 (ninS (Ne.symm ne_b10_ov14) nin0))
        have O113 := ((O46.keep K42 (allS g_b10 (allS g_ot14 (allS g_os14 (allS g_ovs14 (allS g_ob14 (allS g_ol14 (allS g_oh14 (allS g_ov14 all0))))))))).keep K50 (allS g_b10 all0))
        have OK112 : ∀ h1, Keep h50 h1 [b10] → Old Z n0 h1 := fun h1 K1 => O113.keep K1 (allS g_b10 all0)
        obtain ⟨cq87, kq87, q87a, q87b, q87c⟩ := isOf hZ e50 F88
        obtain ⟨_, _, ⟨T87, L87, k87, n87⟩, -, X87, ⟨Lc87, hQ87, l87, y87, z87⟩, st87⟩ := X50.virtualBack hx (y := (⟨cRE, "add", "([I)Z"⟩ : MethodName)) (z := (⟨cRE, "add", "([I)Z"⟩ : MethodName)) hown (mvT hZ (ww 114 rfl)) (mvT hZ (ww 115 rfl)) (notFace_of_selects (args := #[]) (mvT hZ (ww 117 rfl))) (mvT hZ (ww 117 rfl)) (mvT hZ (ww 116 rfl)) (by decide) (backOf (W := 0) (rm_reladd l Z a0 hw [] wDE b10 b3 ot14 ox14 ovs14 k3 (p2 + (1 : Int32)) (1 : Int32) (f_de p3 (1 : Int32)) (0 : Int32) (f_hn (0 : Int32) p2) (.ref b1) [ovs14, ow14, on14] (J_add1W1 Z ovs14 ow14 on14 ob14 ol14 oh14 kw_14 kn_14 kb_14 kl_14 kh_14 (f_base p2 p2) p2 p2 p2 (p2 + (1 : Int32)) (h50).size) os14 ks_14 (((f_slot (f_hash p2)), (.int ((f_tagOf (f_hash p2)) ||| ((0 : Int32) + (1 : Int32))))) :: []) (1 : Int32) h50 n0 (own_z0 O113) S_wDE O113 S_CS F88 f50_0 f50_1 f50_2 f50_3 f50_4 f50_5 f50_6 f50_7 f50_8 f50_9 f50_10 F89 F90 F91 F92 F93 F94 F95 F96 F97 F98 g_b10 g_ot14 g_os14 ne_b10_ot14 ne_b10_os14 ne_b10_ox14 (Ne.symm ne_b3_b10) ne_ot14_os14 (ninS ne_b10_ovs14 (ninS ne_b10_ow14 (ninS ne_b10_on14 nin0))) (ninS ne_ot14_ovs14 (ninS ne_ot14_ow14 (ninS ne_ot14_on14 nin0))) (ninS ne_os14_ovs14 (ninS ne_os14_ow14 (ninS ne_os14_on14 nin0))) (ninS ne_ox14_ovs14 (ninS ne_ox14_ow14 (ninS ne_ox14_on14 nin0))) (ninS ne_b3_ovs14 (ninS ne_b3_ow14 (ninS ne_b3_on14 nin0))) (allS g_ovs14 (allS g_ow14 (allS g_on14 all0))) (js_add1W1 (ninS (Ne.symm ne_b10_ovs14) (ninS (Ne.symm ne_ot14_ovs14) (ninS (Ne.symm ne_os14_ovs14) nin0))) (ninS (Ne.symm ne_b10_ow14) (ninS (Ne.symm ne_ot14_ow14) (ninS (Ne.symm ne_os14_ow14) nin0))) (ninS (Ne.symm ne_b10_on14) (ninS (Ne.symm ne_ot14_on14) (ninS (Ne.symm ne_os14_on14) nin0))) (ninS (Ne.symm ne_b10_ob14) (ninS (Ne.symm ne_ot14_ob14) (ninS (Ne.symm ne_os14_ob14) nin0))) (ninS (Ne.symm ne_b10_ol14) (ninS (Ne.symm ne_ot14_ol14) (ninS (Ne.symm ne_os14_ol14) nin0))) (ninS (Ne.symm ne_b10_oh14) (ninS (Ne.symm ne_ot14_oh14) (ninS (Ne.symm ne_os14_oh14) nin0))) (allS F88.lt (allS F94.lt (allS F97.lt all0)))) (getH_miss (own_slotb _).1 (own_sne (own_d10 p2)) rfl) (by decide) (by decide) (fun h1 K1 => MetFree.imp (rm_add1W1 l Z a0 hw [] wDE ovs14 b3 ow14 on14 ob14 ol14 oh14 ov14 kw_14 kn_14 kb_14 kl_14 kh_14 kv_14 (f_base p2 p2) p2 p2 p2 (0 : Int32) (0 : Int32) (0 : Int32) (0 : Int32) (0 : Int32) (0 : Int32) (0 : Int32) k3 (p2 + (1 : Int32)) h1 n0 (own_z0 (OK112 h1 K1)) S_wDE (OK112 h1 K1) S_CS (F93.keep K1) (F99.keep K1 (ninS (Ne.symm ne_b10_ovs14) nin0)) (F100.keep K1 (ninS (Ne.symm ne_b10_ovs14) nin0)) (F101.keep K1 (ninS (Ne.symm ne_b10_ovs14) nin0)) (F102.keep K1 (ninS (Ne.symm ne_b10_ovs14) nin0)) (F103.keep K1 (ninS (Ne.symm ne_b10_ovs14) nin0)) (F104.keep K1 (ninS (Ne.symm ne_b10_ovs14) nin0)) (F105.keep K1 (ninS (Ne.symm ne_b10_ovs14) nin0)) (F106.keep K1 (ninS (Ne.symm ne_b10_ow14) nin0)) j42_9 (F107.keep K1 (ninS (Ne.symm ne_b10_on14) nin0)) j42_11 (F108.keep K1 (ninS (Ne.symm ne_b10_ob14) nin0)) (F109.keep K1 (ninS (Ne.symm ne_b10_ol14) nin0)) (F110.keep K1 (ninS (Ne.symm ne_b10_oh14) nin0)) (F111.keep K1 (ninS (Ne.symm ne_b10_ov14) nin0)) (F92.keep K1 (ninS ne_b3_b10 nin0)) g_ovs14 g_ow14 g_on14 ne_ovs14_ow14 ne_ovs14_on14 ne_ovs14_ob14 ne_ovs14_ol14 ne_ovs14_oh14 ne_ovs14_ov14 ne_ow14_on14 ne_ow14_ob14 ne_ow14_ol14 ne_ow14_oh14 ne_ow14_ov14 ne_on14_ob14 ne_on14_ol14 ne_on14_oh14 ne_on14_ov14 ne_ob14_ol14 ne_ob14_oh14 ne_ob14_ov14 ne_ol14_oh14 ne_ol14_ov14 ne_oh14_ov14 ne_b3_ovs14 ne_b3_ow14 ne_b3_on14 ne_b3_ob14 ne_b3_ol14 ne_b3_oh14 ne_b3_ov14 (own_inS p2) g55) (fun _ _ _ _ q => by obtain ⟨v, L, e, ⟨oz, kz, e1, N, K, sz, fs⟩, fe⟩ := q; exact ⟨v, L, e, ⟨e1, N, K, oz, kz, Nat.le_trans K1.1 sz, fs⟩, fe⟩))) hZ (ww 118 rfl) (ww 3 rfl) (by decide) (by decide)) q87a q87c (g := (mkF m 82 #[vI p1, vI p2, vI p3, vI p4, vI 2, vR b1, vR b3, vR b6, vR b10, .unset, .unset, .unset] [(.ref b3), (.ref b10)])) rfl (by rw [hml]; rfl) (Steps.refl _) (argsL := [(.ref b3)]) (rest := []) (lenOf pd___I_Z_5 rfl) rfl (by show 2 * 0 + _ ≤ _; exact Nat.le_of_eq rfl) (bb at_82) (fun _ _ => ⟨rfl, e50, (by decide : 16 + 2 ≤ _), (by decide : 73 + 12 ≤ _)⟩)
        dsimp only [Pt.U, Pt.locs, Pt.cells, Pt.slots] at X87 l87 y87 z87 st87 hQ87
        subst l87 y87 z87
        obtain ⟨rfl, N87q, K87, f87_0, f87_1, f87_2, f87_3, f87_4, f87_5, f87_6, f87_7, f87_8, f87_9, f87_10, f87_11, f87_12, f87_13, f87_14, oz87, kz_87, szz_oz87, j87_0, j87_1, j87_2, j87_3, j87_4, j87_5, j87_6, j87_7, j87_8, j87_9, j87_10, j87_11, j87_12, j87_13, j87_14, j87_15⟩ := hQ87
        have N87 := Fr.app N50 N87q
        have g_oz87 : n0 ≤ oz87 := Nat.le_trans (own_z0 O113) szz_oz87
        have sz_oz87 : h0.size ≤ oz87 := Nat.le_trans (Nat.le_trans (Nat.le_trans (Nat.le_trans (Nat.le_trans (Nat.le_trans (Nat.le_trans (Nat.le_trans (Nat.le_trans (Nat.le_trans (Nat.le_trans (Nat.le_refl _) E1.1) (Keep.of_wr W2).1) E3.1) (Keep.of_wr W5).1) E6.1) (Keep.of_wr W9).1) E10.1) K14.1) K42.1) K50.1) szz_oz87
        have F114 := ((F44.keep K42 (ninS ne_b1_b10 (ninS ne_b1_ot14 (ninS ne_b1_os14 (ninS ne_b1_ovs14 (ninS ne_b1_ob14 (ninS ne_b1_ol14 (ninS ne_b1_oh14 (ninS ne_b1_ov14 nin0))))))))).keep K50 (ninS ne_b1_b10 nin0))
        have ne_b1_oz87 : b1 ≠ oz87 := Nat.ne_of_lt (Nat.lt_of_lt_of_le F114.lt szz_oz87)
        have ne_b3_oz87 : b3 ≠ oz87 := Nat.ne_of_lt (Nat.lt_of_lt_of_le F92.lt szz_oz87)
        have F115 := (((F18.keep K14 (ninS ne_b6_b10 nin0)).keep K42 (ninS ne_b6_b10 (ninS ne_b6_ot14 (ninS ne_b6_os14 (ninS ne_b6_ovs14 (ninS ne_b6_ob14 (ninS ne_b6_ol14 (ninS ne_b6_oh14 (ninS ne_b6_ov14 nin0))))))))).keep K50 (ninS ne_b6_b10 nin0))
        have ne_b6_oz87 : b6 ≠ oz87 := Nat.ne_of_lt (Nat.lt_of_lt_of_le F115.lt szz_oz87)
        have ne_b10_oz87 : b10 ≠ oz87 := Nat.ne_of_lt (Nat.lt_of_lt_of_le F88.lt szz_oz87)
        have ne_ot14_oz87 : ot14 ≠ oz87 := Nat.ne_of_lt (Nat.lt_of_lt_of_le F94.lt szz_oz87)
        have ne_ox14_oz87 : ox14 ≠ oz87 := Nat.ne_of_lt (Nat.lt_of_lt_of_le F89.lt szz_oz87)
        have ne_ovs14_oz87 : ovs14 ≠ oz87 := Nat.ne_of_lt (Nat.lt_of_lt_of_le F93.lt szz_oz87)
        have ne_ow14_oz87 : ow14 ≠ oz87 := Nat.ne_of_lt (Nat.lt_of_lt_of_le F106.lt szz_oz87)
        have ne_on14_oz87 : on14 ≠ oz87 := Nat.ne_of_lt (Nat.lt_of_lt_of_le F107.lt szz_oz87)
        have ne_ob14_oz87 : ob14 ≠ oz87 := Nat.ne_of_lt (Nat.lt_of_lt_of_le F108.lt szz_oz87)
        have ne_ol14_oz87 : ol14 ≠ oz87 := Nat.ne_of_lt (Nat.lt_of_lt_of_le F109.lt szz_oz87)
        have ne_oh14_oz87 : oh14 ≠ oz87 := Nat.ne_of_lt (Nat.lt_of_lt_of_le F110.lt szz_oz87)
        have ne_ov14_oz87 : ov14 ≠ oz87 := Nat.ne_of_lt (Nat.lt_of_lt_of_le F111.lt szz_oz87)
        have ne_os14_oz87 : os14 ≠ oz87 := Nat.ne_of_lt (Nat.lt_of_lt_of_le F97.lt szz_oz87)
        have L116_ : Fld Z T87.heap b10 cRE "rows" "I" (.int 2) := f87_5
        have L117_ : Fld Z T87.heap ot14 cRT "count" "I" (.int 2) := f87_13
        have O118 := (O113.keep K87 (allS g_b10 (allS g_ot14 (allS g_os14 (allS g_ovs14 (allS g_ow14 (allS g_on14 all0)))))))
        have F119 := (F88.keep K87)
        exact ⟨T87, _, T87.heap, (.ref b3), (f_de p3 (1 : Int32)), (f_hn (f_hn (0 : Int32) p2) (p2 + (1 : Int32))), own_more X87 (by decide) (by decide), rfl, N87, O118, F119, f87_0, f87_1, f87_2, f87_3, f87_4, L116_, f87_6, f87_7, f87_8, f87_9, f87_10, fun t k => pre54 t (by
          show GG p e below T50 (mkF m 82 #[vI p1, vI p2, vI p3, vI p4, vI 2, vR b1, vR b3, vR b6, vR b10, .unset, .unset, .unset] [(.ref b3), (.ref b10)]) _
          refine st87.trans ?_
          refine XS.pop X87.here hx rfl (bb at_85) rfl rfl ?_
          refine XS.iload X87.here hx rfl (bb at_86) rfl ?_
          refine XS.iconst X87.here hx rfl (bb at_88) ?_
          refine XS.icmpYes X87.here hx rfl (pc0 := 89) (pc' := 100) rfl (bb at_89) rfl (tlt (by decide : (2 : Int32) < (3 : Int32))).1 (by decide) (by decide) ?_
          exact k)⟩
    · skip
      have F121 := (A10.keep K14)
      have F122 := (F16.keep K14 (ninS ne_b1_b10 nin0))
      have O124 := (O15.keep K14 (allS g_b10 all0))
      have OK123 : ∀ h1, Keep T14.heap h1 [b10] → Old Z n0 h1 := fun h1 K1 => O124.keep K1 (allS g_b10 all0)
      obtain ⟨cq120, kq120, q120a, q120b, q120c⟩ := isOf hZ rfl F121
      obtain ⟨_, _, ⟨T120, L120, k120, n120⟩, -, X120, ⟨Lc120, hQ120, l120, y120, z120⟩, st120⟩ := X14.virtualBack hx (y := (⟨cRE, "add", "([I)Z"⟩ : MethodName)) (z := (⟨cRE, "add", "([I)Z"⟩ : MethodName)) hown (mvT hZ (ww 114 rfl)) (mvT hZ (ww 115 rfl)) (notFace_of_selects (args := #[]) (mvT hZ (ww 117 rfl))) (mvT hZ (ww 117 rfl)) (mvT hZ (ww 116 rfl)) (by decide) (backOf (W := 0) (rm_reladd l Z a0 hw [] wDE b10 b1 ot14 ox14 ovs14 k1 p2 (0 : Int32) (0 : Int32) (0 : Int32) (0 : Int32) .null [ovs14, ob14, ol14, oh14, ov14] (J_add1N0 Z ovs14 ow14 on14 ob14 ol14 oh14 ov14 kw_14 kn_14 kb_14 kl_14 kh_14 kv_14 (0 : Int32) (0 : Int32) (0 : Int32) (0 : Int32) (0 : Int32) (0 : Int32) (0 : Int32) p2) os14 ks_14 [] (0 : Int32) T14.heap n0 (own_z0 O124) S_wDE O124 S_CS F121 f14_3 f14_4 f14_5 f14_6 f14_7 f14_8 f14_9 f14_10 f14_0 f14_1 f14_2 f14_16 f14_17 f14_18 F122 f14_19 f14_11 f14_13 f14_12 f14_15 f14_14 g_b10 g_ot14 g_os14 ne_b10_ot14 ne_b10_os14 ne_b10_ox14 (Ne.symm ne_b1_b10) ne_ot14_os14 (ninS ne_b10_ovs14 (ninS ne_b10_ob14 (ninS ne_b10_ol14 (ninS ne_b10_oh14 (ninS ne_b10_ov14 nin0))))) (ninS ne_ot14_ovs14 (ninS ne_ot14_ob14 (ninS ne_ot14_ol14 (ninS ne_ot14_oh14 (ninS ne_ot14_ov14 nin0))))) (ninS ne_os14_ovs14 (ninS ne_os14_ob14 (ninS ne_os14_ol14 (ninS ne_os14_oh14 (ninS ne_os14_ov14 nin0))))) (ninS ne_ox14_ovs14 (ninS ne_ox14_ob14 (ninS ne_ox14_ol14 (ninS ne_ox14_oh14 (ninS ne_ox14_ov14 nin0))))) (ninS ne_b1_ovs14 (ninS ne_b1_ob14 (ninS ne_b1_ol14 (ninS ne_b1_oh14 (ninS ne_b1_ov14 nin0))))) (allS g_ovs14 (allS g_ob14 (allS g_ol14 (allS g_oh14 (allS g_ov14 all0))))) (js_add1N0 (ninS (Ne.symm ne_b10_ovs14) (ninS (Ne.symm ne_ot14_ovs14) (ninS (Ne.symm ne_os14_ovs14) nin0))) (ninS (Ne.symm ne_b10_ow14) (ninS (Ne.symm ne_ot14_ow14) (ninS (Ne.symm ne_os14_ow14) nin0))) (ninS (Ne.symm ne_b10_on14) (ninS (Ne.symm ne_ot14_on14) (ninS (Ne.symm ne_os14_on14) nin0))) (ninS (Ne.symm ne_b10_ob14) (ninS (Ne.symm ne_ot14_ob14) (ninS (Ne.symm ne_os14_ob14) nin0))) (ninS (Ne.symm ne_b10_ol14) (ninS (Ne.symm ne_ot14_ol14) (ninS (Ne.symm ne_os14_ol14) nin0))) (ninS (Ne.symm ne_b10_oh14) (ninS (Ne.symm ne_ot14_oh14) (ninS (Ne.symm ne_os14_oh14) nin0))) (ninS (Ne.symm ne_b10_ov14) (ninS (Ne.symm ne_ot14_ov14) (ninS (Ne.symm ne_os14_ov14) nin0)))) rfl (by decide) (by decide) (fun h1 K1 => (rm_add1N0 l Z a0 hw [] wDE ovs14 b1 ow14 on14 ob14 ol14 oh14 ov14 kw_14 kn_14 kb_14 kl_14 kh_14 kv_14 (0 : Int32) (0 : Int32) (0 : Int32) (0 : Int32) (0 : Int32) (0 : Int32) (0 : Int32) (0 : Int32) (0 : Int32) (0 : Int32) (0 : Int32) k1 p2 h1 n0 (own_z0 (OK123 h1 K1)) S_wDE (OK123 h1 K1) S_CS (f14_19.keep K1) (f14_20.keep K1 (ninS (Ne.symm ne_b10_ovs14) nin0)) (f14_21.keep K1 (ninS (Ne.symm ne_b10_ovs14) nin0)) (f14_22.keep K1 (ninS (Ne.symm ne_b10_ovs14) nin0)) (f14_23.keep K1 (ninS (Ne.symm ne_b10_ovs14) nin0)) (f14_24.keep K1 (ninS (Ne.symm ne_b10_ovs14) nin0)) (f14_25.keep K1 (ninS (Ne.symm ne_b10_ovs14) nin0)) (f14_26.keep K1 (ninS (Ne.symm ne_b10_ovs14) nin0)) (f14_27.keep K1 (ninS (Ne.symm ne_b10_ow14) nin0)) f14_28 (f14_29.keep K1 (ninS (Ne.symm ne_b10_on14) nin0)) f14_30 (f14_31.keep K1 (ninS (Ne.symm ne_b10_ob14) nin0)) (f14_32.keep K1 (ninS (Ne.symm ne_b10_ol14) nin0)) (f14_33.keep K1 (ninS (Ne.symm ne_b10_oh14) nin0)) (f14_34.keep K1 (ninS (Ne.symm ne_b10_ov14) nin0)) (F122.keep K1 (ninS ne_b1_b10 nin0)) g_ovs14 g_ob14 g_ol14 g_oh14 g_ov14 ne_ovs14_ow14 ne_ovs14_on14 ne_ovs14_ob14 ne_ovs14_ol14 ne_ovs14_oh14 ne_ovs14_ov14 ne_ow14_on14 ne_ow14_ob14 ne_ow14_ol14 ne_ow14_oh14 ne_ow14_ov14 ne_on14_ob14 ne_on14_ol14 ne_on14_oh14 ne_on14_ov14 ne_ob14_ol14 ne_ob14_oh14 ne_ob14_ov14 ne_ol14_oh14 ne_ol14_ov14 ne_oh14_ov14 ne_b1_ovs14 ne_b1_ow14 ne_b1_on14 ne_b1_ob14 ne_b1_ol14 ne_b1_oh14 ne_b1_ov14))) hZ (ww 118 rfl) (ww 3 rfl) (by decide) (by decide)) q120a q120c (g := (mkF m 56 #[vI p1, vI p2, vI p3, vI p4, vI 3, vR b1, vR b3, vR b6, vR b10, .unset, .unset, .unset] [(.ref b1), (.ref b10)])) rfl (by rw [hml]; rfl) (Steps.refl _) (argsL := [(.ref b1)]) (rest := []) (lenOf pd___I_Z_5 rfl) rfl (by show 2 * 0 + _ ≤ _; exact Nat.le_of_eq rfl) (bb at_56) (fun _ _ => ⟨rfl, rfl, (by decide : 14 + 2 ≤ _), (by decide : 61 + 12 ≤ _)⟩)
      dsimp only [Pt.U, Pt.locs, Pt.cells, Pt.slots] at X120 l120 y120 z120 st120 hQ120
      subst l120 y120 z120
      obtain ⟨rfl, N120q, K120, f120_0, f120_1, f120_2, f120_3, f120_4, f120_5, f120_6, f120_7, f120_8, f120_9, f120_10, f120_11, f120_12, f120_13, f120_14, j120_0, j120_1, j120_2, j120_3, j120_4, j120_5, j120_6, j120_7, j120_8, j120_9, j120_10, j120_11, j120_12, j120_13, j120_14, j120_15⟩ := hQ120
      have N120 := Fr.app N14 N120q
      have L125_ : Fld Z T120.heap b10 cRE "rows" "I" (.int 1) := f120_5
      have L126_ : Fld Z T120.heap ot14 cRT "count" "I" (.int 1) := f120_13
      have pre127 : ∀ t, GG p e below T120 (mkF m 60 #[vI p1, vI p2, vI p3, vI p4, vI 3, vR b1, vR b3, vR b6, vR b10, .unset, .unset, .unset] []) t → GG p e below s₁ (entryFrame m #[(.int p1), (.int p2), (.int p3), (.int p4)] maxLocals) t := fun t k => pre20 t (by
          show GG p e below T14 (mkF m 46 #[vI p1, vI p2, vI p3, vI p4, vI 3, vR b1, vR b3, vR b6, vR b10, .unset, .unset, .unset] []) _
          refine XS.iload X14.here hx rfl (bb at_46) rfl ?_
          refine XS.iconst X14.here hx rfl (bb at_48) ?_
          refine XS.icmpNo X14.here hx rfl (bb at_49) rfl (flt (by decide : ¬ ((3 : Int32) < (1 : Int32)))).1 ?_
          refine XS.aload X14.here hx rfl (bb at_52) rfl rfl ?_
          refine XS.aload X14.here hx rfl (bb at_54) rfl rfl ?_
          refine st120.trans ?_
          refine XS.pop X120.here hx rfl (bb at_59) rfl rfl ?_
          exact k)
      obtain ⟨T128, L128, h128, X128, e128, N128, K128, f128_0, f128_1, f128_2, f128_3, f128_4, f128_5, f128_6, f128_7, f128_8, f128_9, f128_10, pre128⟩ : ∃ (T' : State) (L' : List Loc) (h' : Heap), Stand p l e room_1 s m #[(.int p1), (.int p2), (.int p3), (.int p4)] below meth c T' L' 16 73 ∧ T'.heap = h' ∧ Fr n0 L' ∧ Keep T120.heap h' [b10] ∧ Fld Z h' b10 cRE "onlyNew" "Z" (.int 0) ∧ Fld Z h' b10 cRE "sought" "[I" (.ref b1) ∧ Fld Z h' b10 cRE "growth" "Ljava/lang/Runnable;" .null ∧ Fld Z h' b10 cRE "deltaStart" "I" (.int (0 : Int32)) ∧ Fld Z h' b10 cRE "deltaEnd" "I" (.int (f_de p3 (1 : Int32))) ∧ Fld Z h' b10 cRE "rows" "I" (.int 1) ∧ Fld Z h' b10 cRE "holdsNull" "Z" (.int (f_hn (0 : Int32) p2)) ∧ Fld Z h' b10 cRE "rowWithNull" "Ljava/util/function/IntConsumer;" .null ∧ Fld Z h' b10 cRE "table" "Lcom/example/chaseward/chaseward/engine/Relation$Tuples;" (.ref ot14) ∧ Fld Z h' b10 cRE "indexes" "Ljava/util/List;" (.ref ox14) ∧ Fld Z h' b10 cRE "values" "Lcom/example/chaseward/chaseward/engine/RowValues;" (.ref ovs14) ∧ ∀ t, GG p e below T' (mkF m 72 #[vI p1, vI p2, vI p3, vI p4, vI 3, vR b1, vR b3, vR b6, vR b10, .unset, .unset, .unset] []) t → GG p e below s₁ (entryFrame m #[(.int p1), (.int p2), (.int p3), (.int p4)] maxLocals) t := by
        by_cases g128 : (p3 &&& (1 : Int32)) = (0 : Int32)
        · skip
          refine ⟨T120, _, T120.heap, X120, rfl, N120, (Keep.refl T120.heap [b10]), f120_0, f120_1, f120_2, f120_3, (by simp only [f_de, if_pos g128]; exact f120_4), L125_, f120_6, f120_7, f120_8, f120_9, f120_10, fun t k => pre127 t ?_⟩
          show GG p e below T120 (mkF m 60 #[vI p1, vI p2, vI p3, vI p4, vI 3, vR b1, vR b3, vR b6, vR b10, .unset, .unset, .unset] []) _
          refine XS.iloadN X120.here hx rfl (bb at_60) rfl ?_
          refine XS.iconst X120.here hx rfl (bb at_61) ?_
          refine XS.iand X120.here hx rfl (bb at_62) rfl ?_
          refine XS.ifYes X120.here hx rfl (pc0 := 63) (pc' := 72) rfl (bb at_63) rfl ((if0 _ _).trans (teq g128).1) (by decide) (by decide) ?_
          exact k
        · skip
          have F130 := (F121.keep K120)
          have O131 := (O124.keep K120 (allS g_b10 (allS g_ot14 (allS g_os14 (allS g_ovs14 (allS g_ob14 (allS g_ol14 (allS g_oh14 (allS g_ov14 all0)))))))))
          obtain ⟨cq129, kq129, q129a, q129b, q129c⟩ := isOf hZ rfl F130
          obtain ⟨_, _, ⟨T129, L129, k129, n129⟩, -, X129, ⟨Lc129, hQ129, l129, y129, z129⟩, st129⟩ := X120.virtualBack hx (y := (⟨cRE, "startRound", "()Z"⟩ : MethodName)) (z := (⟨cRE, "startRound", "()Z"⟩ : MethodName)) hown (mvT hZ (ww 257 rfl)) (mvT hZ (ww 258 rfl)) (notFace_of_selects (args := #[]) (mvT hZ (ww 260 rfl))) (mvT hZ (ww 260 rfl)) (mvT hZ (ww 259 rfl)) (by decide) (backOf (W := 0) (rm_sr l Z a0 hw [] wDE b10 ot14 ox14 ovs14 (1 : Int32) (0 : Int32) (0 : Int32) (f_hn (0 : Int32) p2) (.ref b1) T120.heap n0 (own_z0 O131) S_wDE O131 S_CS F130 f120_0 f120_1 f120_2 f120_3 f120_4 L125_ f120_6 f120_7 f120_8 f120_9 f120_10 g_b10) hZ (ww 261 rfl) (ww 3 rfl) (by decide) (by decide)) q129a q129c (g := (mkF m 68 #[vI p1, vI p2, vI p3, vI p4, vI 3, vR b1, vR b3, vR b6, vR b10, .unset, .unset, .unset] [(.ref b10)])) rfl (by rw [hml]; rfl) (Steps.refl _) (argsL := []) (rest := []) (lenOf pd___Z_3 rfl) rfl (by show 2 * 0 + _ ≤ _; exact Nat.le_of_eq rfl) (bb at_68) (fun _ _ => ⟨rfl, rfl, (by decide : 16 + 0 ≤ _), (by decide : 73 + 0 ≤ _)⟩)
          dsimp only [Pt.U, Pt.locs, Pt.cells, Pt.slots] at X129 l129 y129 z129 st129 hQ129
          subst l129 y129 z129
          obtain ⟨rfl, N129q, K129, f129_0, f129_1, f129_2, f129_3, f129_4, f129_5, f129_6, f129_7, f129_8, f129_9, f129_10⟩ := hQ129
          have N129 := Fr.app N120 N129q
          refine ⟨T129, _, T129.heap, X129, rfl, N129, ((Keep.refl T120.heap [b10]).trans K129 (allS (Or.inl (List.mem_of_getElem? (i := 0) rfl)) all0)), f129_0, f129_1, f129_2, f129_3, (by simp only [f_de, if_neg g128]; exact f129_4), f129_5, f129_6, f129_7, f129_8, f129_9, f129_10, fun t k => pre127 t ?_⟩
          show GG p e below T120 (mkF m 60 #[vI p1, vI p2, vI p3, vI p4, vI 3, vR b1, vR b3, vR b6, vR b10, .unset, .unset, .unset] []) _
          refine XS.iloadN X120.here hx rfl (bb at_60) rfl ?_
          refine XS.iconst X120.here hx rfl (bb at_61) ?_
          refine XS.iand X120.here hx rfl (bb at_62) rfl ?_
          refine XS.ifNo X120.here hx rfl (bb at_63) rfl ((if0 _ _).trans (feq g128).1) ?_
          refine XS.aload X120.here hx rfl (bb at_66) rfl rfl ?_
          refine st129.trans ?_
          refine XS.pop X129.here hx rfl (bb at_71) rfl rfl ?_
          exact k
      have pre132 : ∀ t, GG p e below T128 (mkF m 82 #[vI p1, vI p2, vI p3, vI p4, vI 3, vR b1, vR b3, vR b6, vR b10, .unset, .unset, .unset] [(.ref b3), (.ref b10)]) t → GG p e below s₁ (entryFrame m #[(.int p1), (.int p2), (.int p3), (.int p4)] maxLocals) t := fun t k => pre128 t (by
          show GG p e below T128 (mkF m 72 #[vI p1, vI p2, vI p3, vI p4, vI 3, vR b1, vR b3, vR b6, vR b10, .unset, .unset, .unset] []) _
          refine XS.iload X128.here hx rfl (bb at_72) rfl ?_
          refine XS.iconst X128.here hx rfl (bb at_74) ?_
          refine XS.icmpNo X128.here hx rfl (bb at_75) rfl (flt (by decide : ¬ ((3 : Int32) < (2 : Int32)))).1 ?_
          refine XS.aload X128.here hx rfl (bb at_78) rfl rfl ?_
          refine XS.aload X128.here hx rfl (bb at_80) rfl rfl ?_
          exact k)
      by_cases g133 : (lcmpW (((f_maxI (p2 + (1 : Int32)) p2).toInt64) - ((f_minI (p2 + (1 : Int32)) p2).toInt64)) (65536 : Int64)) < (0 : Int32)
      · skip
        have F135 := ((F121.keep K120).keep K128)
        have F136 := ((f14_16.keep K120).keep K128)
        have F137 := ((f14_17.keep K120 (ninS (Ne.symm ne_b10_ox14) (ninS (Ne.symm ne_ot14_ox14) (ninS (Ne.symm ne_os14_ox14) (ninS ne_ox14_ovs14 (ninS ne_ox14_ob14 (ninS ne_ox14_ol14 (ninS ne_ox14_oh14 (ninS ne_ox14_ov14 nin0))))))))).keep K128 (ninS (Ne.symm ne_b10_ox14) nin0))
        have F138 := ((f14_18.keep K120 (ninS (Ne.symm ne_b10_ox14) (ninS (Ne.symm ne_ot14_ox14) (ninS (Ne.symm ne_os14_ox14) (ninS ne_ox14_ovs14 (ninS ne_ox14_ob14 (ninS ne_ox14_ol14 (ninS ne_ox14_oh14 (ninS ne_ox14_ov14 nin0))))))))).keep K128 (ninS (Ne.symm ne_b10_ox14) nin0))
        have F139 := (((F17.keep K14 (ninS ne_b3_b10 nin0)).keep K120 (ninS ne_b3_b10 (ninS ne_b3_ot14 (ninS ne_b3_os14 (ninS ne_b3_ovs14 (ninS ne_b3_ob14 (ninS ne_b3_ol14 (ninS ne_b3_oh14 (ninS ne_b3_ov14 nin0))))))))).keep K128 (ninS ne_b3_b10 nin0))
        have F140 := (j120_0.keep K128)
        have F141 := ((f14_11.keep K120).keep K128)
        have F142 := (f120_11.keep K128 (ninS (Ne.symm ne_b10_ot14) nin0))
        have F143 := (f120_12.keep K128 (ninS (Ne.symm ne_b10_ot14) nin0))
        have F144 := (f120_14.keep K128 (ninS (Ne.symm ne_b10_os14) nin0))
        have F145 := (L126_.keep K128 (ninS (Ne.symm ne_b10_ot14) nin0))
        have F146 := (j120_1.keep K128 (ninS (Ne.symm ne_b10_ovs14) nin0))
        have F147 := (j120_2.keep K128 (ninS (Ne.symm ne_b10_ovs14) nin0))
        have F148 := (j120_3.keep K128 (ninS (Ne.symm ne_b10_ovs14) nin0))
        have F149 := (j120_4.keep K128 (ninS (Ne.symm ne_b10_ovs14) nin0))
        have F150 := (j120_5.keep K128 (ninS (Ne.symm ne_b10_ovs14) nin0))
        have F151 := (j120_6.keep K128 (ninS (Ne.symm ne_b10_ovs14) nin0))
        have F152 := (j120_7.keep K128 (ninS (Ne.symm ne_b10_ovs14) nin0))
        have F153 := (j120_8.keep K128 (ninS (Ne.symm ne_b10_ow14) nin0))
        have F154 := (j120_10.keep K128 (ninS (Ne.symm ne_b10_on14) nin0))
        have F155 := (j120_12.keep K128 (ninS (Ne.symm ne_b10_ob14) nin0))
        have F156 := (j120_13.keep K128 (ninS (Ne.symm ne_b10_ol14) nin0))
        have F157 := (j120_14.keep K128 (ninS (Ne.symm ne_b10_oh14) nin0))
        have F158 := (j120_15.keep K128 (ninS (Ne.symm ne_b10_ov14) nin0))
        have O160 := ((O124.keep K120 (allS g_b10 (allS g_ot14 (allS g_os14 (allS g_ovs14 (allS g_ob14 (allS g_ol14 (allS g_oh14 (allS g_ov14 all0))))))))).keep K128 (allS g_b10 all0))
        have OK159 : ∀ h1, Keep h128 h1 [b10] → Old Z n0 h1 := fun h1 K1 => O160.keep K1 (allS g_b10 all0)
        obtain ⟨cq134, kq134, q134a, q134b, q134c⟩ := isOf hZ e128 F135
        obtain ⟨_, _, ⟨T134, L134, k134, n134⟩, -, X134, ⟨Lc134, hQ134, l134, y134, z134⟩, st134⟩ := X128.virtualBack hx (y := (⟨cRE, "add", "([I)Z"⟩ : MethodName)) (z := (⟨cRE, "add", "([I)Z"⟩ : MethodName)) hown (mvT hZ (ww 114 rfl)) (mvT hZ (ww 115 rfl)) (notFace_of_selects (args := #[]) (mvT hZ (ww 117 rfl))) (mvT hZ (ww 117 rfl)) (mvT hZ (ww 116 rfl)) (by decide) (backOf (W := 0) (rm_reladd l Z a0 hw [] wDE b10 b3 ot14 ox14 ovs14 k3 (p2 + (1 : Int32)) (1 : Int32) (f_de p3 (1 : Int32)) (0 : Int32) (f_hn (0 : Int32) p2) (.ref b1) [ovs14, ob14, ol14, oh14, ov14] (J_add1N1 Z ovs14 ow14 on14 ob14 ol14 oh14 ov14 kw_14 kn_14 kb_14 kl_14 kh_14 kv_14 (f_base p2 p2) p2 p2 p2 (0 : Int32) (0 : Int32) (0 : Int32) (0 : Int32) (0 : Int32) (0 : Int32) (p2 + (1 : Int32))) os14 ks_14 (((f_slot (f_hash p2)), (.int ((f_tagOf (f_hash p2)) ||| ((0 : Int32) + (1 : Int32))))) :: []) (1 : Int32) h128 n0 (own_z0 O160) S_wDE O160 S_CS F135 f128_0 f128_1 f128_2 f128_3 f128_4 f128_5 f128_6 f128_7 f128_8 f128_9 f128_10 F136 F137 F138 F139 F140 F141 F142 F143 F144 F145 g_b10 g_ot14 g_os14 ne_b10_ot14 ne_b10_os14 ne_b10_ox14 (Ne.symm ne_b3_b10) ne_ot14_os14 (ninS ne_b10_ovs14 (ninS ne_b10_ob14 (ninS ne_b10_ol14 (ninS ne_b10_oh14 (ninS ne_b10_ov14 nin0))))) (ninS ne_ot14_ovs14 (ninS ne_ot14_ob14 (ninS ne_ot14_ol14 (ninS ne_ot14_oh14 (ninS ne_ot14_ov14 nin0))))) (ninS ne_os14_ovs14 (ninS ne_os14_ob14 (ninS ne_os14_ol14 (ninS ne_os14_oh14 (ninS ne_os14_ov14 nin0))))) (ninS ne_ox14_ovs14 (ninS ne_ox14_ob14 (ninS ne_ox14_ol14 (ninS ne_ox14_oh14 (ninS ne_ox14_ov14 nin0))))) (ninS ne_b3_ovs14 (ninS ne_b3_ob14 (ninS ne_b3_ol14 (ninS ne_b3_oh14 (ninS ne_b3_ov14 nin0))))) (allS g_ovs14 (allS g_ob14 (allS g_ol14 (allS g_oh14 (allS g_ov14 all0))))) (js_add1N1 (ninS (Ne.symm ne_b10_ovs14) (ninS (Ne.symm ne_ot14_ovs14) (ninS (Ne.symm ne_os14_ovs14) nin0))) (ninS (Ne.symm ne_b10_ow14) (ninS (Ne.symm ne_ot14_ow14) (ninS (Ne.symm ne_os14_ow14) nin0))) (ninS (Ne.symm ne_b10_on14) (ninS (Ne.symm ne_ot14_on14) (ninS (Ne.symm ne_os14_on14) nin0))) (ninS (Ne.symm ne_b10_ob14) (ninS (Ne.symm ne_ot14_ob14) (ninS (Ne.symm ne_os14_ob14) nin0))) (ninS (Ne.symm ne_b10_ol14) (ninS (Ne.symm ne_ot14_ol14) (ninS (Ne.symm ne_os14_ol14) nin0))) (ninS (Ne.symm ne_b10_oh14) (ninS (Ne.symm ne_ot14_oh14) (ninS (Ne.symm ne_os14_oh14) nin0))) (ninS (Ne.symm ne_b10_ov14) (ninS (Ne.symm ne_ot14_ov14) (ninS (Ne.symm ne_os14_ov14) nin0)))) (getH_miss (own_slotb _).1 (own_sne (own_d10 p2)) rfl) (by decide) (by decide) (fun h1 K1 => (rm_add1N1 l Z a0 hw [] wDE ovs14 b3 ow14 on14 ob14 ol14 oh14 ov14 kw_14 kn_14 kb_14 kl_14 kh_14 kv_14 (f_base p2 p2) p2 p2 p2 (0 : Int32) (0 : Int32) (0 : Int32) (0 : Int32) (0 : Int32) (0 : Int32) (0 : Int32) k3 (p2 + (1 : Int32)) h1 n0 (own_z0 (OK159 h1 K1)) S_wDE (OK159 h1 K1) S_CS (F140.keep K1) (F146.keep K1 (ninS (Ne.symm ne_b10_ovs14) nin0)) (F147.keep K1 (ninS (Ne.symm ne_b10_ovs14) nin0)) (F148.keep K1 (ninS (Ne.symm ne_b10_ovs14) nin0)) (F149.keep K1 (ninS (Ne.symm ne_b10_ovs14) nin0)) (F150.keep K1 (ninS (Ne.symm ne_b10_ovs14) nin0)) (F151.keep K1 (ninS (Ne.symm ne_b10_ovs14) nin0)) (F152.keep K1 (ninS (Ne.symm ne_b10_ovs14) nin0)) (F153.keep K1 (ninS (Ne.symm ne_b10_ow14) nin0)) j120_9 (F154.keep K1 (ninS (Ne.symm ne_b10_on14) nin0)) j120_11 (F155.keep K1 (ninS (Ne.symm ne_b10_ob14) nin0)) (F156.keep K1 (ninS (Ne.symm ne_b10_ol14) nin0)) (F157.keep K1 (ninS (Ne.symm ne_b10_oh14) nin0)) (F158.keep K1 (ninS (Ne.symm ne_b10_ov14) nin0)) (F139.keep K1 (ninS ne_b3_b10 nin0)) g_ovs14 g_ob14 g_ol14 g_oh14 g_ov14 ne_ovs14_ow14 ne_ovs14_on14 ne_ovs14_ob14 ne_ovs14_ol14 ne_ovs14_oh14 ne_ovs14_ov14 ne_ow14_on14 ne_ow14_ob14 ne_ow14_ol14 ne_ow14_oh14 ne_ow14_ov14 ne_on14_ob14 ne_on14_ol14 ne_on14_oh14 ne_on14_ov14 ne_ob14_ol14 ne_ob14_oh14 ne_ob14_ov14 ne_ol14_oh14 ne_ol14_ov14 ne_oh14_ov14 ne_b3_ovs14 ne_b3_ow14 ne_b3_on14 ne_b3_ob14 ne_b3_ol14 ne_b3_oh14 ne_b3_ov14 g133))) hZ (ww 118 rfl) (ww 3 rfl) (by decide) (by decide)) q134a q134c (g := (mkF m 82 #[vI p1, vI p2, vI p3, vI p4, vI 3, vR b1, vR b3, vR b6, vR b10, .unset, .unset, .unset] [(.ref b3), (.ref b10)])) rfl (by rw [hml]; rfl) (Steps.refl _) (argsL := [(.ref b3)]) (rest := []) (lenOf pd___I_Z_5 rfl) rfl (by show 2 * 0 + _ ≤ _; exact Nat.le_of_eq rfl) (bb at_82) (fun _ _ => ⟨rfl, e128, (by decide : 16 + 2 ≤ _), (by decide : 73 + 12 ≤ _)⟩)
        dsimp only [Pt.U, Pt.locs, Pt.cells, Pt.slots] at X134 l134 y134 z134 st134 hQ134
        subst l134 y134 z134
        obtain ⟨rfl, N134q, K134, f134_0, f134_1, f134_2, f134_3, f134_4, f134_5, f134_6, f134_7, f134_8, f134_9, f134_10, f134_11, f134_12, f134_13, f134_14, j134_0, j134_1, j134_2, j134_3, j134_4, j134_5, j134_6, j134_7, j134_8, j134_9, j134_10, j134_11, j134_12, j134_13, j134_14, j134_15⟩ := hQ134
        have N134 := Fr.app N128 N134q
        have L161_ : Fld Z T134.heap b10 cRE "rows" "I" (.int 2) := f134_5
        have L162_ : Fld Z T134.heap ot14 cRT "count" "I" (.int 2) := f134_13
        have pre163 : ∀ t, GG p e below T134 (mkF m 96 #[vI p1, vI p2, vI p3, vI p4, vI 3, vR b1, vR b3, vR b6, vR b10, .unset, .unset, .unset] [(.ref b6), (.ref b10)]) t → GG p e below s₁ (entryFrame m #[(.int p1), (.int p2), (.int p3), (.int p4)] maxLocals) t := fun t k => pre132 t (by
            show GG p e below T128 (mkF m 82 #[vI p1, vI p2, vI p3, vI p4, vI 3, vR b1, vR b3, vR b6, vR b10, .unset, .unset, .unset] [(.ref b3), (.ref b10)]) _
            refine st134.trans ?_
            refine XS.pop X134.here hx rfl (bb at_85) rfl rfl ?_
            refine XS.iload X134.here hx rfl (bb at_86) rfl ?_
            refine XS.iconst X134.here hx rfl (bb at_88) ?_
            refine XS.icmpNo X134.here hx rfl (bb at_89) rfl (flt (by decide : ¬ ((3 : Int32) < (3 : Int32)))).1 ?_
            refine XS.aload X134.here hx rfl (bb at_92) rfl rfl ?_
            refine XS.aload X134.here hx rfl (bb at_94) rfl rfl ?_
            exact k)
        by_cases g164 : (lcmpW (((f_maxI (p2 + (2 : Int32)) (f_maxI (p2 + (1 : Int32)) p2)).toInt64) - ((f_minI (p2 + (2 : Int32)) (f_minI (p2 + (1 : Int32)) p2)).toInt64)) (65536 : Int64)) < (0 : Int32)
        · skip
          have F166 := (F135.keep K134)
          have F167 := (F136.keep K134)
          have F168 := (F137.keep K134 (ninS (Ne.symm ne_b10_ox14) (ninS (Ne.symm ne_ot14_ox14) (ninS (Ne.symm ne_os14_ox14) (ninS ne_ox14_ovs14 (ninS ne_ox14_ob14 (ninS ne_ox14_ol14 (ninS ne_ox14_oh14 (ninS ne_ox14_ov14 nin0)))))))))
          have F169 := (F138.keep K134 (ninS (Ne.symm ne_b10_ox14) (ninS (Ne.symm ne_ot14_ox14) (ninS (Ne.symm ne_os14_ox14) (ninS ne_ox14_ovs14 (ninS ne_ox14_ob14 (ninS ne_ox14_ol14 (ninS ne_ox14_oh14 (ninS ne_ox14_ov14 nin0)))))))))
          have F170 := ((((F18.keep K14 (ninS ne_b6_b10 nin0)).keep K120 (ninS ne_b6_b10 (ninS ne_b6_ot14 (ninS ne_b6_os14 (ninS ne_b6_ovs14 (ninS ne_b6_ob14 (ninS ne_b6_ol14 (ninS ne_b6_oh14 (ninS ne_b6_ov14 nin0))))))))).keep K128 (ninS ne_b6_b10 nin0)).keep K134 (ninS ne_b6_b10 (ninS ne_b6_ot14 (ninS ne_b6_os14 (ninS ne_b6_ovs14 (ninS ne_b6_ob14 (ninS ne_b6_ol14 (ninS ne_b6_oh14 (ninS ne_b6_ov14 nin0)))))))))
          have F171 := (F141.keep K134)
          have O173 := (O160.keep K134 (allS g_b10 (allS g_ot14 (allS g_os14 (allS g_ovs14 (allS g_ob14 (allS g_ol14 (allS g_oh14 (allS g_ov14 all0)))))))))
          have OK172 : ∀ h1, Keep T134.heap h1 [b10] → Old Z n0 h1 := fun h1 K1 => O173.keep K1 (allS g_b10 all0)
          obtain ⟨cq165, kq165, q165a, q165b, q165c⟩ := isOf hZ rfl F166
          obtain ⟨_, _, ⟨T165, L165, k165, n165⟩, -, X165, ⟨Lc165, hQ165, l165, y165, z165⟩, st165⟩ := X134.virtualBack hx (y := (⟨cRE, "add", "([I)Z"⟩ : MethodName)) (z := (⟨cRE, "add", "([I)Z"⟩ : MethodName)) hown (mvT hZ (ww 114 rfl)) (mvT hZ (ww 115 rfl)) (notFace_of_selects (args := #[]) (mvT hZ (ww 117 rfl))) (mvT hZ (ww 117 rfl)) (mvT hZ (ww 116 rfl)) (by decide) (backOf (W := 0) (rm_reladd l Z a0 hw [] wDE b10 b6 ot14 ox14 ovs14 k6 (p2 + (2 : Int32)) (2 : Int32) (f_de p3 (1 : Int32)) (0 : Int32) (f_hn (f_hn (0 : Int32) p2) (p2 + (1 : Int32))) (.ref b3) [ovs14, ob14, ol14, oh14, ov14] (J_add1N2 Z ovs14 ow14 on14 ob14 ol14 oh14 ov14 kw_14 kn_14 kb_14 kl_14 kh_14 kv_14 (nbase (f_base p2 p2) p2 p2 (p2 + (1 : Int32))) (f_minI (p2 + (1 : Int32)) p2) (f_maxI (p2 + (1 : Int32)) p2) p2 (p2 + (1 : Int32)) (0 : Int32) (0 : Int32) (0 : Int32) (0 : Int32) (0 : Int32) (p2 + (2 : Int32))) os14 ks_14 (((f_slot (f_hash (p2 + (1 : Int32)))), (.int ((f_tagOf (f_hash (p2 + (1 : Int32)))) ||| ((1 : Int32) + (1 : Int32))))) :: (((f_slot (f_hash p2)), (.int ((f_tagOf (f_hash p2)) ||| ((0 : Int32) + (1 : Int32))))) :: [])) (2 : Int32) T134.heap n0 (own_z0 O173) S_wDE O173 S_CS F166 f134_0 f134_1 f134_2 f134_3 f134_4 L161_ f134_6 f134_7 f134_8 f134_9 f134_10 F167 F168 F169 F170 j134_0 F171 f134_11 f134_12 f134_14 L162_ g_b10 g_ot14 g_os14 ne_b10_ot14 ne_b10_os14 ne_b10_ox14 (Ne.symm ne_b6_b10) ne_ot14_os14 (ninS ne_b10_ovs14 (ninS ne_b10_ob14 (ninS ne_b10_ol14 (ninS ne_b10_oh14 (ninS ne_b10_ov14 nin0))))) (ninS ne_ot14_ovs14 (ninS ne_ot14_ob14 (ninS ne_ot14_ol14 (ninS ne_ot14_oh14 (ninS ne_ot14_ov14 nin0))))) (ninS ne_os14_ovs14 (ninS ne_os14_ob14 (ninS ne_os14_ol14 (ninS ne_os14_oh14 (ninS ne_os14_ov14 nin0))))) (ninS ne_ox14_ovs14 (ninS ne_ox14_ob14 (ninS ne_ox14_ol14 (ninS ne_ox14_oh14 (ninS ne_ox14_ov14 nin0))))) (ninS ne_b6_ovs14 (ninS ne_b6_ob14 (ninS ne_b6_ol14 (ninS ne_b6_oh14 (ninS ne_b6_ov14 nin0))))) (allS g_ovs14 (allS g_ob14 (allS g_ol14 (allS g_oh14 (allS g_ov14 all0))))) (js_add1N2 (ninS (Ne.symm ne_b10_ovs14) (ninS (Ne.symm ne_ot14_ovs14) (ninS (Ne.symm ne_os14_ovs14) nin0))) (ninS (Ne.symm ne_b10_ow14) (ninS (Ne.symm ne_ot14_ow14) (ninS (Ne.symm ne_os14_ow14) nin0))) (ninS (Ne.symm ne_b10_on14) (ninS (Ne.symm ne_ot14_on14) (ninS (Ne.symm ne_os14_on14) nin0))) (ninS (Ne.symm ne_b10_ob14) (ninS (Ne.symm ne_ot14_ob14) (ninS (Ne.symm ne_os14_ob14) nin0))) (ninS (Ne.symm ne_b10_ol14) (ninS (Ne.symm ne_ot14_ol14) (ninS (Ne.symm ne_os14_ol14) nin0))) (ninS (Ne.symm ne_b10_oh14) (ninS (Ne.symm ne_ot14_oh14) (ninS (Ne.symm ne_os14_oh14) nin0))) (ninS (Ne.symm ne_b10_ov14) (ninS (Ne.symm ne_ot14_ov14) (ninS (Ne.symm ne_os14_ov14) nin0)))) (getH_miss (own_slotb _).1 (own_sne (own_d21 p2)) (getH_miss (own_slotb _).1 (own_sne (own_d20 p2)) rfl)) (by decide) (by decide) (fun h1 K1 => (rm_add1N2 l Z a0 hw [] wDE ovs14 b6 ow14 on14 ob14 ol14 oh14 ov14 kw_14 kn_14 kb_14 kl_14 kh_14 kv_14 (nbase (f_base p2 p2) p2 p2 (p2 + (1 : Int32))) (f_minI (p2 + (1 : Int32)) p2) (f_maxI (p2 + (1 : Int32)) p2) p2 (p2 + (1 : Int32)) (0 : Int32) (0 : Int32) (0 : Int32) (0 : Int32) (0 : Int32) (0 : Int32) k6 (p2 + (2 : Int32)) h1 n0 (own_z0 (OK172 h1 K1)) S_wDE (OK172 h1 K1) S_CS (j134_0.keep K1) (j134_1.keep K1 (ninS (Ne.symm ne_b10_ovs14) nin0)) (j134_2.keep K1 (ninS (Ne.symm ne_b10_ovs14) nin0)) (j134_3.keep K1 (ninS (Ne.symm ne_b10_ovs14) nin0)) (j134_4.keep K1 (ninS (Ne.symm ne_b10_ovs14) nin0)) (j134_5.keep K1 (ninS (Ne.symm ne_b10_ovs14) nin0)) (j134_6.keep K1 (ninS (Ne.symm ne_b10_ovs14) nin0)) (j134_7.keep K1 (ninS (Ne.symm ne_b10_ovs14) nin0)) (j134_8.keep K1 (ninS (Ne.symm ne_b10_ow14) nin0)) j134_9 (j134_10.keep K1 (ninS (Ne.symm ne_b10_on14) nin0)) j134_11 (j134_12.keep K1 (ninS (Ne.symm ne_b10_ob14) nin0)) (j134_13.keep K1 (ninS (Ne.symm ne_b10_ol14) nin0)) (j134_14.keep K1 (ninS (Ne.symm ne_b10_oh14) nin0)) (j134_15.keep K1 (ninS (Ne.symm ne_b10_ov14) nin0)) (F170.keep K1 (ninS ne_b6_b10 nin0)) g_ovs14 g_ob14 g_ol14 g_oh14 g_ov14 ne_ovs14_ow14 ne_ovs14_on14 ne_ovs14_ob14 ne_ovs14_ol14 ne_ovs14_oh14 ne_ovs14_ov14 ne_ow14_on14 ne_ow14_ob14 ne_ow14_ol14 ne_ow14_oh14 ne_ow14_ov14 ne_on14_ob14 ne_on14_ol14 ne_on14_oh14 ne_on14_ov14 ne_ob14_ol14 ne_ob14_oh14 ne_ob14_ov14 ne_ol14_oh14 ne_ol14_ov14 ne_oh14_ov14 ne_b6_ovs14 ne_b6_ow14 ne_b6_on14 ne_b6_ob14 ne_b6_ol14 ne_b6_oh14 ne_b6_ov14 g164))) hZ (ww 118 rfl) (ww 3 rfl) (by decide) (by decide)) q165a q165c (g := (mkF m 96 #[vI p1, vI p2, vI p3, vI p4, vI 3, vR b1, vR b3, vR b6, vR b10, .unset, .unset, .unset] [(.ref b6), (.ref b10)])) rfl (by rw [hml]; rfl) (Steps.refl _) (argsL := [(.ref b6)]) (rest := []) (lenOf pd___I_Z_5 rfl) rfl (by show 2 * 0 + _ ≤ _; exact Nat.le_of_eq rfl) (bb at_96) (fun _ _ => ⟨rfl, rfl, (by decide : 18 + 2 ≤ _), (by decide : 85 + 12 ≤ _)⟩)
          dsimp only [Pt.U, Pt.locs, Pt.cells, Pt.slots] at X165 l165 y165 z165 st165 hQ165
          subst l165 y165 z165
          obtain ⟨rfl, N165q, K165, f165_0, f165_1, f165_2, f165_3, f165_4, f165_5, f165_6, f165_7, f165_8, f165_9, f165_10, f165_11, f165_12, f165_13, f165_14, j165_0, j165_1, j165_2, j165_3, j165_4, j165_5, j165_6, j165_7, j165_8, j165_9, j165_10, j165_11, j165_12, j165_13, j165_14, j165_15⟩ := hQ165
          have N165 := Fr.app N134 N165q
          have L174_ : Fld Z T165.heap b10 cRE "rows" "I" (.int 3) := f165_5
          have L175_ : Fld Z T165.heap ot14 cRT "count" "I" (.int 3) := f165_13
          have O176 := (O173.keep K165 (allS g_b10 (allS g_ot14 (allS g_os14 (allS g_ovs14 (allS g_ob14 (allS g_ol14 (allS g_oh14 (allS g_ov14 all0)))))))))
          have F177 := (F166.keep K165)
          exact ⟨T165, _, T165.heap, (.ref b6), (f_de p3 (1 : Int32)), (f_hn (f_hn (f_hn (0 : Int32) p2) (p2 + (1 : Int32))) (p2 + (2 : Int32))), own_more X165 (by decide) (by decide), rfl, N165, O176, F177, f165_0, f165_1, f165_2, f165_3, f165_4, L174_, f165_6, f165_7, f165_8, f165_9, f165_10, fun t k => pre163 t (by
            show GG p e below T134 (mkF m 96 #[vI p1, vI p2, vI p3, vI p4, vI 3, vR b1, vR b3, vR b6, vR b10, .unset, .unset, .unset] [(.ref b6), (.ref b10)]) _
            refine st165.trans ?_
            refine XS.pop X165.here hx rfl (bb at_99) rfl rfl ?_
            exact k)⟩
        · skip
          have F179 := (F135.keep K134)
          have F180 := (F136.keep K134)
          have F181 := (F137.keep K134 (ninS (Ne.symm ne_b10_ox14) (ninS (Ne.symm ne_ot14_ox14) (ninS (Ne.symm ne_os14_ox14) (ninS ne_ox14_ovs14 (ninS ne_ox14_ob14 (ninS ne_ox14_ol14 (ninS ne_ox14_oh14 (ninS ne_ox14_ov14 nin0)))))))))
          have F182 := (F138.keep K134 (ninS (Ne.symm ne_b10_ox14) (ninS (Ne.symm ne_ot14_ox14) (ninS (Ne.symm ne_os14_ox14) (ninS ne_ox14_ovs14 (ninS ne_ox14_ob14 (ninS ne_ox14_ol14 (ninS ne_ox14_oh14 (ninS ne_ox14_ov14 nin0)))))))))
          have F183 := ((((F18.keep K14 (ninS ne_b6_b10 nin0)).keep K120 (ninS ne_b6_b10 (ninS ne_b6_ot14 (ninS ne_b6_os14 (ninS ne_b6_ovs14 (ninS ne_b6_ob14 (ninS ne_b6_ol14 (ninS ne_b6_oh14 (ninS ne_b6_ov14 nin0))))))))).keep K128 (ninS ne_b6_b10 nin0)).keep K134 (ninS ne_b6_b10 (ninS ne_b6_ot14 (ninS ne_b6_os14 (ninS ne_b6_ovs14 (ninS ne_b6_ob14 (ninS ne_b6_ol14 (ninS ne_b6_oh14 (ninS ne_b6_ov14 nin0)))))))))
          have F184 := (F141.keep K134)
          have O186 := (O160.keep K134 (allS g_b10 (allS g_ot14 (allS g_os14 (allS g_ovs14 (allS g_ob14 (allS g_ol14 (allS g_oh14 (allS g_ov14 all0)))))))))
          have OK185 : ∀ h1, Keep T134.heap h1 [b10] → Old Z n0 h1 := fun h1 K1 => O186.keep K1 (allS g_b10 all0)
          obtain ⟨cq178, kq178, q178a, q178b, q178c⟩ := isOf hZ rfl F179
          obtain ⟨_, _, ⟨T178, L178, k178, n178⟩, -, X178, ⟨Lc178, hQ178, l178, y178, z178⟩, st178⟩ := X134.virtualBack hx (y := (⟨cRE, "add", "([I)Z"⟩ : MethodName)) (z := (⟨cRE, "add", "([I)Z"⟩ : MethodName)) hown (mvT hZ (ww 114 rfl)) (mvT hZ (ww 115 rfl)) (notFace_of_selects (args := #[]) (mvT hZ (ww 117 rfl))) (mvT hZ (ww 117 rfl)) (mvT hZ (ww 116 rfl)) (by decide) (backOf (W := 0) (rm_reladd l Z a0 hw [] wDE b10 b6 ot14 ox14 ovs14 k6 (p2 + (2 : Int32)) (2 : Int32) (f_de p3 (1 : Int32)) (0 : Int32) (f_hn (f_hn (0 : Int32) p2) (p2 + (1 : Int32))) (.ref b3) [ovs14, ow14, on14] (J_add1W2 Z ovs14 ow14 on14 ob14 ol14 oh14 kw_14 kn_14 kb_14 kl_14 kh_14 (nbase (f_base p2 p2) p2 p2 (p2 + (1 : Int32))) (f_minI (p2 + (1 : Int32)) p2) (f_maxI (p2 + (1 : Int32)) p2) p2 (p2 + (1 : Int32)) (p2 + (2 : Int32)) (T134.heap).size) os14 ks_14 (((f_slot (f_hash (p2 + (1 : Int32)))), (.int ((f_tagOf (f_hash (p2 + (1 : Int32)))) ||| ((1 : Int32) + (1 : Int32))))) :: (((f_slot (f_hash p2)), (.int ((f_tagOf (f_hash p2)) ||| ((0 : Int32) + (1 : Int32))))) :: [])) (2 : Int32) T134.heap n0 (own_z0 O186) S_wDE O186 S_CS F179 f134_0 f134_1 f134_2 f134_3 f134_4 L161_ f134_6 f134_7 f134_8 f134_9 f134_10 F180 F181 F182 F183 j134_0 F184 f134_11 f134_12 f134_14 L162_ g_b10 g_ot14 g_os14 ne_b10_ot14 ne_b10_os14 ne_b10_ox14 (Ne.symm ne_b6_b10) ne_ot14_os14 (ninS ne_b10_ovs14 (ninS ne_b10_ow14 (ninS ne_b10_on14 nin0))) (ninS ne_ot14_ovs14 (ninS ne_ot14_ow14 (ninS ne_ot14_on14 nin0))) (ninS ne_os14_ovs14 (ninS ne_os14_ow14 (ninS ne_os14_on14 nin0))) (ninS ne_ox14_ovs14 (ninS ne_ox14_ow14 (ninS ne_ox14_on14 nin0))) (ninS ne_b6_ovs14 (ninS ne_b6_ow14 (ninS ne_b6_on14 nin0))) (allS g_ovs14 (allS g_ow14 (allS g_on14 all0))) (js_add1W2 (ninS (Ne.symm ne_b10_ovs14) (ninS (Ne.symm ne_ot14_ovs14) (ninS (Ne.symm ne_os14_ovs14) nin0))) (ninS (Ne.symm ne_b10_ow14) (ninS (Ne.symm ne_ot14_ow14) (ninS (Ne.symm ne_os14_ow14) nin0))) (ninS (Ne.symm ne_b10_on14) (ninS (Ne.symm ne_ot14_on14) (ninS (Ne.symm ne_os14_on14) nin0))) (ninS (Ne.symm ne_b10_ob14) (ninS (Ne.symm ne_ot14_ob14) (ninS (Ne.symm ne_os14_ob14) nin0))) (ninS (Ne.symm ne_b10_ol14) (ninS (Ne.symm ne_ot14_ol14) (ninS (Ne.symm ne_os14_ol14) nin0))) (ninS (Ne.symm ne_b10_oh14) (ninS (Ne.symm ne_ot14_oh14) (ninS (Ne.symm ne_os14_oh14) nin0))) (allS F179.lt (allS F184.lt (allS f134_14.lt all0)))) (getH_miss (own_slotb _).1 (own_sne (own_d21 p2)) (getH_miss (own_slotb _).1 (own_sne (own_d20 p2)) rfl)) (by decide) (by decide) (fun h1 K1 => MetFree.imp (rm_add1W2 l Z a0 hw [] wDE ovs14 b6 ow14 on14 ob14 ol14 oh14 ov14 kw_14 kn_14 kb_14 kl_14 kh_14 kv_14 (nbase (f_base p2 p2) p2 p2 (p2 + (1 : Int32))) (f_minI (p2 + (1 : Int32)) p2) (f_maxI (p2 + (1 : Int32)) p2) p2 (p2 + (1 : Int32)) (0 : Int32) (0 : Int32) (0 : Int32) (0 : Int32) (0 : Int32) (0 : Int32) k6 (p2 + (2 : Int32)) h1 n0 (own_z0 (OK185 h1 K1)) S_wDE (OK185 h1 K1) S_CS (j134_0.keep K1) (j134_1.keep K1 (ninS (Ne.symm ne_b10_ovs14) nin0)) (j134_2.keep K1 (ninS (Ne.symm ne_b10_ovs14) nin0)) (j134_3.keep K1 (ninS (Ne.symm ne_b10_ovs14) nin0)) (j134_4.keep K1 (ninS (Ne.symm ne_b10_ovs14) nin0)) (j134_5.keep K1 (ninS (Ne.symm ne_b10_ovs14) nin0)) (j134_6.keep K1 (ninS (Ne.symm ne_b10_ovs14) nin0)) (j134_7.keep K1 (ninS (Ne.symm ne_b10_ovs14) nin0)) (j134_8.keep K1 (ninS (Ne.symm ne_b10_ow14) nin0)) j134_9 (j134_10.keep K1 (ninS (Ne.symm ne_b10_on14) nin0)) j134_11 (j134_12.keep K1 (ninS (Ne.symm ne_b10_ob14) nin0)) (j134_13.keep K1 (ninS (Ne.symm ne_b10_ol14) nin0)) (j134_14.keep K1 (ninS (Ne.symm ne_b10_oh14) nin0)) (j134_15.keep K1 (ninS (Ne.symm ne_b10_ov14) nin0)) (F183.keep K1 (ninS ne_b6_b10 nin0)) g_ovs14 g_ow14 g_on14 ne_ovs14_ow14 ne_ovs14_on14 ne_ovs14_ob14 ne_ovs14_ol14 ne_ovs14_oh14 ne_ovs14_ov14 ne_ow14_on14 ne_ow14_ob14 ne_ow14_ol14 ne_ow14_oh14 ne_ow14_ov14 ne_on14_ob14 ne_on14_ol14 ne_on14_oh14 ne_on14_ov14 ne_ob14_ol14 ne_ob14_oh14 ne_ob14_ov14 ne_ol14_oh14 ne_ol14_ov14 ne_oh14_ov14 ne_b6_ovs14 ne_b6_ow14 ne_b6_on14 ne_b6_ob14 ne_b6_ol14 ne_b6_oh14 ne_b6_ov14 (own_inN (own_inS p2) (own_btS p2) g133) (own_inT g133) g164) (fun _ _ _ _ q => by obtain ⟨v, L, e, ⟨oz, kz, e1, N, K, sz, fs⟩, fe⟩ := q; exact ⟨v, L, e, ⟨e1, N, K, oz, kz, Nat.le_trans K1.1 sz, fs⟩, fe⟩))) hZ (ww 118 rfl) (ww 3 rfl) (by decide) (by decide)) q178a q178c (g := (mkF m 96 #[vI p1, vI p2, vI p3, vI p4, vI 3, vR b1, vR b3, vR b6, vR b10, .unset, .unset, .unset] [(.ref b6), (.ref b10)])) rfl (by rw [hml]; rfl) (Steps.refl _) (argsL := [(.ref b6)]) (rest := []) (lenOf pd___I_Z_5 rfl) rfl (by show 2 * 0 + _ ≤ _; exact Nat.le_of_eq rfl) (bb at_96) (fun _ _ => ⟨rfl, rfl, (by decide : 18 + 2 ≤ _), (by decide : 85 + 12 ≤ _)⟩)
          dsimp only [Pt.U, Pt.locs, Pt.cells, Pt.slots] at X178 l178 y178 z178 st178 hQ178
          subst l178 y178 z178
          obtain ⟨rfl, N178q, K178, f178_0, f178_1, f178_2, f178_3, f178_4, f178_5, f178_6, f178_7, f178_8, f178_9, f178_10, f178_11, f178_12, f178_13, f178_14, oz178, kz_178, szz_oz178, j178_0, j178_1, j178_2, j178_3, j178_4, j178_5, j178_6, j178_7, j178_8, j178_9, j178_10, j178_11, j178_12, j178_13, j178_14, j178_15⟩ := hQ178
          have N178 := Fr.app N134 N178q
          have g_oz178 : n0 ≤ oz178 := Nat.le_trans (own_z0 O186) szz_oz178
          have sz_oz178 : h0.size ≤ oz178 := Nat.le_trans (Nat.le_trans (Nat.le_trans (Nat.le_trans (Nat.le_trans (Nat.le_trans (Nat.le_trans (Nat.le_trans (Nat.le_trans (Nat.le_trans (Nat.le_trans (Nat.le_trans (Nat.le_refl _) E1.1) (Keep.of_wr W2).1) E3.1) (Keep.of_wr W5).1) E6.1) (Keep.of_wr W9).1) E10.1) K14.1) K120.1) K128.1) K134.1) szz_oz178
          have F187 := (((F122.keep K120 (ninS ne_b1_b10 (ninS ne_b1_ot14 (ninS ne_b1_os14 (ninS ne_b1_ovs14 (ninS ne_b1_ob14 (ninS ne_b1_ol14 (ninS ne_b1_oh14 (ninS ne_b1_ov14 nin0))))))))).keep K128 (ninS ne_b1_b10 nin0)).keep K134 (ninS ne_b1_b10 (ninS ne_b1_ot14 (ninS ne_b1_os14 (ninS ne_b1_ovs14 (ninS ne_b1_ob14 (ninS ne_b1_ol14 (ninS ne_b1_oh14 (ninS ne_b1_ov14 nin0)))))))))
          have ne_b1_oz178 : b1 ≠ oz178 := Nat.ne_of_lt (Nat.lt_of_lt_of_le F187.lt szz_oz178)
          have F188 := (F139.keep K134 (ninS ne_b3_b10 (ninS ne_b3_ot14 (ninS ne_b3_os14 (ninS ne_b3_ovs14 (ninS ne_b3_ob14 (ninS ne_b3_ol14 (ninS ne_b3_oh14 (ninS ne_b3_ov14 nin0)))))))))
          have ne_b3_oz178 : b3 ≠ oz178 := Nat.ne_of_lt (Nat.lt_of_lt_of_le F188.lt szz_oz178)
          have ne_b6_oz178 : b6 ≠ oz178 := Nat.ne_of_lt (Nat.lt_of_lt_of_le F183.lt szz_oz178)
          have ne_b10_oz178 : b10 ≠ oz178 := Nat.ne_of_lt (Nat.lt_of_lt_of_le F179.lt szz_oz178)
          have ne_ot14_oz178 : ot14 ≠ oz178 := Nat.ne_of_lt (Nat.lt_of_lt_of_le F184.lt szz_oz178)
          have ne_ox14_oz178 : ox14 ≠ oz178 := Nat.ne_of_lt (Nat.lt_of_lt_of_le F180.lt szz_oz178)
          have ne_ovs14_oz178 : ovs14 ≠ oz178 := Nat.ne_of_lt (Nat.lt_of_lt_of_le j134_0.lt szz_oz178)
          have ne_ow14_oz178 : ow14 ≠ oz178 := Nat.ne_of_lt (Nat.lt_of_lt_of_le j134_8.lt szz_oz178)
          have ne_on14_oz178 : on14 ≠ oz178 := Nat.ne_of_lt (Nat.lt_of_lt_of_le j134_10.lt szz_oz178)
          have ne_ob14_oz178 : ob14 ≠ oz178 := Nat.ne_of_lt (Nat.lt_of_lt_of_le j134_12.lt szz_oz178)
          have ne_ol14_oz178 : ol14 ≠ oz178 := Nat.ne_of_lt (Nat.lt_of_lt_of_le j134_13.lt szz_oz178)
          have ne_oh14_oz178 : oh14 ≠ oz178 := Nat.ne_of_lt (Nat.lt_of_lt_of_le j134_14.lt szz_oz178)
          have ne_ov14_oz178 : ov14 ≠ oz178 := Nat.ne_of_lt (Nat.lt_of_lt_of_le j134_15.lt szz_oz178)
          have ne_os14_oz178 : os14 ≠ oz178 := Nat.ne_of_lt (Nat.lt_of_lt_of_le f134_14.lt szz_oz178)
          have L189_ : Fld Z T178.heap b10 cRE "rows" "I" (.int 3) := f178_5
          have L190_ : Fld Z T178.heap ot14 cRT "count" "I" (.int 3) := f178_13
          have O191 := (O186.keep K178 (allS g_b10 (allS g_ot14 (allS g_os14 (allS g_ovs14 (allS g_ow14 (allS g_on14 all0)))))))
          have F192 := (F179.keep K178)
          exact ⟨T178, _, T178.heap, (.ref b6), (f_de p3 (1 : Int32)), (f_hn (f_hn (f_hn (0 : Int32) p2) (p2 + (1 : Int32))) (p2 + (2 : Int32))), own_more X178 (by decide) (by decide), rfl, N178, O191, F192, f178_0, f178_1, f178_2, f178_3, f178_4, L189_, f178_6, f178_7, f178_8, f178_9, f178_10, fun t k => pre163 t (by
            show GG p e below T134 (mkF m 96 #[vI p1, vI p2, vI p3, vI p4, vI 3, vR b1, vR b3, vR b6, vR b10, .unset, .unset, .unset] [(.ref b6), (.ref b10)]) _
            refine st178.trans ?_
            refine XS.pop X178.here hx rfl (bb at_99) rfl rfl ?_
            exact k)⟩
      · skip
        have F194 := ((F121.keep K120).keep K128)
        have F195 := ((f14_16.keep K120).keep K128)
        have F196 := ((f14_17.keep K120 (ninS (Ne.symm ne_b10_ox14) (ninS (Ne.symm ne_ot14_ox14) (ninS (Ne.symm ne_os14_ox14) (ninS ne_ox14_ovs14 (ninS ne_ox14_ob14 (ninS ne_ox14_ol14 (ninS ne_ox14_oh14 (ninS ne_ox14_ov14 nin0))))))))).keep K128 (ninS (Ne.symm ne_b10_ox14) nin0))
        have F197 := ((f14_18.keep K120 (ninS (Ne.symm ne_b10_ox14) (ninS (Ne.symm ne_ot14_ox14) (ninS (Ne.symm ne_os14_ox14) (ninS ne_ox14_ovs14 (ninS ne_ox14_ob14 (ninS ne_ox14_ol14 (ninS ne_ox14_oh14 (ninS ne_ox14_ov14 nin0))))))))).keep K128 (ninS (Ne.symm ne_b10_ox14) nin0))
        have F198 := (((F17.keep K14 (ninS ne_b3_b10 nin0)).keep K120 (ninS ne_b3_b10 (ninS ne_b3_ot14 (ninS ne_b3_os14 (ninS ne_b3_ovs14 (ninS ne_b3_ob14 (ninS ne_b3_ol14 (ninS ne_b3_oh14 (ninS ne_b3_ov14 nin0))))))))).keep K128 (ninS ne_b3_b10 nin0))
        have F199 := (j120_0.keep K128)
        have F200 := ((f14_11.keep K120).keep K128)
        have F201 := (f120_11.keep K128 (ninS (Ne.symm ne_b10_ot14) nin0))
        have F202 := (f120_12.keep K128 (ninS (Ne.symm ne_b10_ot14) nin0))
        have F203 := (f120_14.keep K128 (ninS (Ne.symm ne_b10_os14) nin0))
        have F204 := (L126_.keep K128 (ninS (Ne.symm ne_b10_ot14) nin0))
        have F205 := (j120_1.keep K128 (ninS (Ne.symm ne_b10_ovs14) nin0))
        have F206 := (j120_2.keep K128 (ninS (Ne.symm ne_b10_ovs14) nin0))
        have F207 := (j120_3.keep K128 (ninS (Ne.symm ne_b10_ovs14) nin0))
        have F208 := (j120_4.keep K128 (ninS (Ne.symm ne_b10_ovs14) nin0))
        have F209 := (j120_5.keep K128 (ninS (Ne.symm ne_b10_ovs14) nin0))
        have F210 := (j120_6.keep K128 (ninS (Ne.symm ne_b10_ovs14) nin0))
        have F211 := (j120_7.keep K128 (ninS (Ne.symm ne_b10_ovs14) nin0))
        have F212 := (j120_8.keep K128 (ninS (Ne.symm ne_b10_ow14) nin0))
        have F213 := (j120_10.keep K128 (ninS (Ne.symm ne_b10_on14) nin0))
        have F214 := (j120_12.keep K128 (ninS (Ne.symm ne_b10_ob14) nin0))
        have F215 := (j120_13.keep K128 (ninS (Ne.symm ne_b10_ol14) nin0))
        have F216 := (j120_14.keep K128 (ninS (Ne.symm ne_b10_oh14) nin0))
        have F217 := (j120_15.keep K128 (ninS (Ne.symm ne_b10_ov14) nin0))
        have O219 := ((O124.keep K120 (allS g_b10 (allS g_ot14 (allS g_os14 (allS g_ovs14 (allS g_ob14 (allS g_ol14 (allS g_oh14 (allS g_ov14 all0))))))))).keep K128 (allS g_b10 all0))
        have OK218 : ∀ h1, Keep h128 h1 [b10] → Old Z n0 h1 := fun h1 K1 => O219.keep K1 (allS g_b10 all0)
        obtain ⟨cq193, kq193, q193a, q193b, q193c⟩ := isOf hZ e128 F194
        obtain ⟨_, _, ⟨T193, L193, k193, n193⟩, -, X193, ⟨Lc193, hQ193, l193, y193, z193⟩, st193⟩ := X128.virtualBack hx (y := (⟨cRE, "add", "([I)Z"⟩ : MethodName)) (z := (⟨cRE, "add", "([I)Z"⟩ : MethodName)) hown (mvT hZ (ww 114 rfl)) (mvT hZ (ww 115 rfl)) (notFace_of_selects (args := #[]) (mvT hZ (ww 117 rfl))) (mvT hZ (ww 117 rfl)) (mvT hZ (ww 116 rfl)) (by decide) (backOf (W := 0) (rm_reladd l Z a0 hw [] wDE b10 b3 ot14 ox14 ovs14 k3 (p2 + (1 : Int32)) (1 : Int32) (f_de p3 (1 : Int32)) (0 : Int32) (f_hn (0 : Int32) p2) (.ref b1) [ovs14, ow14, on14] (J_add1W1 Z ovs14 ow14 on14 ob14 ol14 oh14 kw_14 kn_14 kb_14 kl_14 kh_14 (f_base p2 p2) p2 p2 p2 (p2 + (1 : Int32)) (h128).size) os14 ks_14 (((f_slot (f_hash p2)), (.int ((f_tagOf (f_hash p2)) ||| ((0 : Int32) + (1 : Int32))))) :: []) (1 : Int32) h128 n0 (own_z0 O219) S_wDE O219 S_CS F194 f128_0 f128_1 f128_2 f128_3 f128_4 f128_5 f128_6 f128_7 f128_8 f128_9 f128_10 F195 F196 F197 F198 F199 F200 F201 F202 F203 F204 g_b10 g_ot14 g_os14 ne_b10_ot14 ne_b10_os14 ne_b10_ox14 (Ne.symm ne_b3_b10) ne_ot14_os14 (ninS ne_b10_ovs14 (ninS ne_b10_ow14 (ninS ne_b10_on14 nin0))) (ninS ne_ot14_ovs14 (ninS ne_ot14_ow14 (ninS ne_ot14_on14 nin0))) (ninS ne_os14_ovs14 (ninS ne_os14_ow14 (ninS ne_os14_on14 nin0))) (ninS ne_ox14_ovs14 (ninS ne_ox14_ow14 (ninS ne_ox14_on14 nin0))) (ninS ne_b3_ovs14 (ninS ne_b3_ow14 (ninS ne_b3_on14 nin0))) (allS g_ovs14 (allS g_ow14 (allS g_on14 all0))) (js_add1W1 (ninS (Ne.symm ne_b10_ovs14) (ninS (Ne.symm ne_ot14_ovs14) (ninS (Ne.symm ne_os14_ovs14) nin0))) (ninS (Ne.symm ne_b10_ow14) (ninS (Ne.symm ne_ot14_ow14) (ninS (Ne.symm ne_os14_ow14) nin0))) (ninS (Ne.symm ne_b10_on14) (ninS (Ne.symm ne_ot14_on14) (ninS (Ne.symm ne_os14_on14) nin0))) (ninS (Ne.symm ne_b10_ob14) (ninS (Ne.symm ne_ot14_ob14) (ninS (Ne.symm ne_os14_ob14) nin0))) (ninS (Ne.symm ne_b10_ol14) (ninS (Ne.symm ne_ot14_ol14) (ninS (Ne.symm ne_os14_ol14) nin0))) (ninS (Ne.symm ne_b10_oh14) (ninS (Ne.symm ne_ot14_oh14) (ninS (Ne.symm ne_os14_oh14) nin0))) (allS F194.lt (allS F200.lt (allS F203.lt all0)))) (getH_miss (own_slotb _).1 (own_sne (own_d10 p2)) rfl) (by decide) (by decide) (fun h1 K1 => MetFree.imp (rm_add1W1 l Z a0 hw [] wDE ovs14 b3 ow14 on14 ob14 ol14 oh14 ov14 kw_14 kn_14 kb_14 kl_14 kh_14 kv_14 (f_base p2 p2) p2 p2 p2 (0 : Int32) (0 : Int32) (0 : Int32) (0 : Int32) (0 : Int32) (0 : Int32) (0 : Int32) k3 (p2 + (1 : Int32)) h1 n0 (own_z0 (OK218 h1 K1)) S_wDE (OK218 h1 K1) S_CS (F199.keep K1) (F205.keep K1 (ninS (Ne.symm ne_b10_ovs14) nin0)) (F206.keep K1 (ninS (Ne.symm ne_b10_ovs14) nin0)) (F207.keep K1 (ninS (Ne.symm ne_b10_ovs14) nin0)) (F208.keep K1 (ninS (Ne.symm ne_b10_ovs14) nin0)) (F209.keep K1 (ninS (Ne.symm ne_b10_ovs14) nin0)) (F210.keep K1 (ninS (Ne.symm ne_b10_ovs14) nin0)) (F211.keep K1 (ninS (Ne.symm ne_b10_ovs14) nin0)) (F212.keep K1 (ninS (Ne.symm ne_b10_ow14) nin0)) j120_9 (F213.keep K1 (ninS (Ne.symm ne_b10_on14) nin0)) j120_11 (F214.keep K1 (ninS (Ne.symm ne_b10_ob14) nin0)) (F215.keep K1 (ninS (Ne.symm ne_b10_ol14) nin0)) (F216.keep K1 (ninS (Ne.symm ne_b10_oh14) nin0)) (F217.keep K1 (ninS (Ne.symm ne_b10_ov14) nin0)) (F198.keep K1 (ninS ne_b3_b10 nin0)) g_ovs14 g_ow14 g_on14 ne_ovs14_ow14 ne_ovs14_on14 ne_ovs14_ob14 ne_ovs14_ol14 ne_ovs14_oh14 ne_ovs14_ov14 ne_ow14_on14 ne_ow14_ob14 ne_ow14_ol14 ne_ow14_oh14 ne_ow14_ov14 ne_on14_ob14 ne_on14_ol14 ne_on14_oh14 ne_on14_ov14 ne_ob14_ol14 ne_ob14_oh14 ne_ob14_ov14 ne_ol14_oh14 ne_ol14_ov14 ne_oh14_ov14 ne_b3_ovs14 ne_b3_ow14 ne_b3_on14 ne_b3_ob14 ne_b3_ol14 ne_b3_oh14 ne_b3_ov14 (own_inS p2) g133) (fun _ _ _ _ q => by obtain ⟨v, L, e, ⟨oz, kz, e1, N, K, sz, fs⟩, fe⟩ := q; exact ⟨v, L, e, ⟨e1, N, K, oz, kz, Nat.le_trans K1.1 sz, fs⟩, fe⟩))) hZ (ww 118 rfl) (ww 3 rfl) (by decide) (by decide)) q193a q193c (g := (mkF m 82 #[vI p1, vI p2, vI p3, vI p4, vI 3, vR b1, vR b3, vR b6, vR b10, .unset, .unset, .unset] [(.ref b3), (.ref b10)])) rfl (by rw [hml]; rfl) (Steps.refl _) (argsL := [(.ref b3)]) (rest := []) (lenOf pd___I_Z_5 rfl) rfl (by show 2 * 0 + _ ≤ _; exact Nat.le_of_eq rfl) (bb at_82) (fun _ _ => ⟨rfl, e128, (by decide : 16 + 2 ≤ _), (by decide : 73 + 12 ≤ _)⟩)
        dsimp only [Pt.U, Pt.locs, Pt.cells, Pt.slots] at X193 l193 y193 z193 st193 hQ193
        subst l193 y193 z193
        obtain ⟨rfl, N193q, K193, f193_0, f193_1, f193_2, f193_3, f193_4, f193_5, f193_6, f193_7, f193_8, f193_9, f193_10, f193_11, f193_12, f193_13, f193_14, oz193, kz_193, szz_oz193, j193_0, j193_1, j193_2, j193_3, j193_4, j193_5, j193_6, j193_7, j193_8, j193_9, j193_10, j193_11, j193_12, j193_13, j193_14, j193_15⟩ := hQ193
        have N193 := Fr.app N128 N193q
        have g_oz193 : n0 ≤ oz193 := Nat.le_trans (own_z0 O219) szz_oz193
        have sz_oz193 : h0.size ≤ oz193 := Nat.le_trans (Nat.le_trans (Nat.le_trans (Nat.le_trans (Nat.le_trans (Nat.le_trans (Nat.le_trans (Nat.le_trans (Nat.le_trans (Nat.le_trans (Nat.le_trans (Nat.le_refl _) E1.1) (Keep.of_wr W2).1) E3.1) (Keep.of_wr W5).1) E6.1) (Keep.of_wr W9).1) E10.1) K14.1) K120.1) K128.1) szz_oz193
        have F220 := ((F122.keep K120 (ninS ne_b1_b10 (ninS ne_b1_ot14 (ninS ne_b1_os14 (ninS ne_b1_ovs14 (ninS ne_b1_ob14 (ninS ne_b1_ol14 (ninS ne_b1_oh14 (ninS ne_b1_ov14 nin0))))))))).keep K128 (ninS ne_b1_b10 nin0))
        have ne_b1_oz193 : b1 ≠ oz193 := Nat.ne_of_lt (Nat.lt_of_lt_of_le F220.lt szz_oz193)
        have ne_b3_oz193 : b3 ≠ oz193 := Nat.ne_of_lt (Nat.lt_of_lt_of_le F198.lt szz_oz193)
        have F221 := (((F18.keep K14 (ninS ne_b6_b10 nin0)).keep K120 (ninS ne_b6_b10 (ninS ne_b6_ot14 (ninS ne_b6_os14 (ninS ne_b6_ovs14 (ninS ne_b6_ob14 (ninS ne_b6_ol14 (ninS ne_b6_oh14 (ninS ne_b6_ov14 nin0))))))))).keep K128 (ninS ne_b6_b10 nin0))
        have ne_b6_oz193 : b6 ≠ oz193 := Nat.ne_of_lt (Nat.lt_of_lt_of_le F221.lt szz_oz193)
        have ne_b10_oz193 : b10 ≠ oz193 := Nat.ne_of_lt (Nat.lt_of_lt_of_le F194.lt szz_oz193)
        have ne_ot14_oz193 : ot14 ≠ oz193 := Nat.ne_of_lt (Nat.lt_of_lt_of_le F200.lt szz_oz193)
        have ne_ox14_oz193 : ox14 ≠ oz193 := Nat.ne_of_lt (Nat.lt_of_lt_of_le F195.lt szz_oz193)
        have ne_ovs14_oz193 : ovs14 ≠ oz193 := Nat.ne_of_lt (Nat.lt_of_lt_of_le F199.lt szz_oz193)
        have ne_ow14_oz193 : ow14 ≠ oz193 := Nat.ne_of_lt (Nat.lt_of_lt_of_le F212.lt szz_oz193)
        have ne_on14_oz193 : on14 ≠ oz193 := Nat.ne_of_lt (Nat.lt_of_lt_of_le F213.lt szz_oz193)
        have ne_ob14_oz193 : ob14 ≠ oz193 := Nat.ne_of_lt (Nat.lt_of_lt_of_le F214.lt szz_oz193)
        have ne_ol14_oz193 : ol14 ≠ oz193 := Nat.ne_of_lt (Nat.lt_of_lt_of_le F215.lt szz_oz193)
        have ne_oh14_oz193 : oh14 ≠ oz193 := Nat.ne_of_lt (Nat.lt_of_lt_of_le F216.lt szz_oz193)
        have ne_ov14_oz193 : ov14 ≠ oz193 := Nat.ne_of_lt (Nat.lt_of_lt_of_le F217.lt szz_oz193)
        have ne_os14_oz193 : os14 ≠ oz193 := Nat.ne_of_lt (Nat.lt_of_lt_of_le F203.lt szz_oz193)
        have L222_ : Fld Z T193.heap b10 cRE "rows" "I" (.int 2) := f193_5
        have L223_ : Fld Z T193.heap ot14 cRT "count" "I" (.int 2) := f193_13
        have F225 := (F194.keep K193)
        have F226 := (F195.keep K193)
        have F227 := (F196.keep K193 (ninS (Ne.symm ne_b10_ox14) (ninS (Ne.symm ne_ot14_ox14) (ninS (Ne.symm ne_os14_ox14) (ninS ne_ox14_ovs14 (ninS ne_ox14_ow14 (ninS ne_ox14_on14 nin0)))))))
        have F228 := (F197.keep K193 (ninS (Ne.symm ne_b10_ox14) (ninS (Ne.symm ne_ot14_ox14) (ninS (Ne.symm ne_os14_ox14) (ninS ne_ox14_ovs14 (ninS ne_ox14_ow14 (ninS ne_ox14_on14 nin0)))))))
        have F229 := (F221.keep K193 (ninS ne_b6_b10 (ninS ne_b6_ot14 (ninS ne_b6_os14 (ninS ne_b6_ovs14 (ninS ne_b6_ow14 (ninS ne_b6_on14 nin0)))))))
        have F230 := (F200.keep K193)
        have O232 := (O219.keep K193 (allS g_b10 (allS g_ot14 (allS g_os14 (allS g_ovs14 (allS g_ow14 (allS g_on14 all0)))))))
        have OK231 : ∀ h1, Keep T193.heap h1 [b10] → Old Z n0 h1 := fun h1 K1 => O232.keep K1 (allS g_b10 all0)
        obtain ⟨cq224, kq224, q224a, q224b, q224c⟩ := isOf hZ rfl F225
        obtain ⟨_, _, ⟨T224, L224, k224, n224⟩, -, X224, ⟨Lc224, hQ224, l224, y224, z224⟩, st224⟩ := X193.virtualBack hx (y := (⟨cRE, "add", "([I)Z"⟩ : MethodName)) (z := (⟨cRE, "add", "([I)Z"⟩ : MethodName)) hown (mvT hZ (ww 114 rfl)) (mvT hZ (ww 115 rfl)) (notFace_of_selects (args := #[]) (mvT hZ (ww 117 rfl))) (mvT hZ (ww 117 rfl)) (mvT hZ (ww 116 rfl)) (by decide) (backOf (W := 0) (rm_reladd l Z a0 hw [] wDE b10 b6 ot14 ox14 ovs14 k6 (p2 + (2 : Int32)) (2 : Int32) (f_de p3 (1 : Int32)) (0 : Int32) (f_hn (f_hn (0 : Int32) p2) (p2 + (1 : Int32))) (.ref b3) [ovs14, oz193] (J_add1WW2 Z ovs14 ow14 on14 ob14 ol14 oh14 oz193 kw_14 kn_14 kb_14 kl_14 kh_14 kz_193 (f_base p2 p2) p2 p2 p2 (p2 + (1 : Int32)) (0 : Int32) (0 : Int32) (0 : Int32) (0 : Int32) (0 : Int32) (p2 + (2 : Int32))) os14 ks_14 (((f_slot (f_hash (p2 + (1 : Int32)))), (.int ((f_tagOf (f_hash (p2 + (1 : Int32)))) ||| ((1 : Int32) + (1 : Int32))))) :: (((f_slot (f_hash p2)), (.int ((f_tagOf (f_hash p2)) ||| ((0 : Int32) + (1 : Int32))))) :: [])) (2 : Int32) T193.heap n0 (own_z0 O232) S_wDE O232 S_CS F225 f193_0 f193_1 f193_2 f193_3 f193_4 L222_ f193_6 f193_7 f193_8 f193_9 f193_10 F226 F227 F228 F229 j193_0 F230 f193_11 f193_12 f193_14 L223_ g_b10 g_ot14 g_os14 ne_b10_ot14 ne_b10_os14 ne_b10_ox14 (Ne.symm ne_b6_b10) ne_ot14_os14 (ninS ne_b10_ovs14 (ninS ne_b10_oz193 nin0)) (ninS ne_ot14_ovs14 (ninS ne_ot14_oz193 nin0)) (ninS ne_os14_ovs14 (ninS ne_os14_oz193 nin0)) (ninS ne_ox14_ovs14 (ninS ne_ox14_oz193 nin0)) (ninS ne_b6_ovs14 (ninS ne_b6_oz193 nin0)) (allS g_ovs14 (allS g_oz193 all0)) (js_add1WW2 (ninS (Ne.symm ne_b10_ovs14) (ninS (Ne.symm ne_ot14_ovs14) (ninS (Ne.symm ne_os14_ovs14) nin0))) (ninS (Ne.symm ne_b10_ow14) (ninS (Ne.symm ne_ot14_ow14) (ninS (Ne.symm ne_os14_ow14) nin0))) (ninS (Ne.symm ne_b10_on14) (ninS (Ne.symm ne_ot14_on14) (ninS (Ne.symm ne_os14_on14) nin0))) (ninS (Ne.symm ne_b10_ob14) (ninS (Ne.symm ne_ot14_ob14) (ninS (Ne.symm ne_os14_ob14) nin0))) (ninS (Ne.symm ne_b10_ol14) (ninS (Ne.symm ne_ot14_ol14) (ninS (Ne.symm ne_os14_ol14) nin0))) (ninS (Ne.symm ne_b10_oh14) (ninS (Ne.symm ne_ot14_oh14) (ninS (Ne.symm ne_os14_oh14) nin0))) (ninS (Ne.symm ne_b10_oz193) (ninS (Ne.symm ne_ot14_oz193) (ninS (Ne.symm ne_os14_oz193) nin0)))) (getH_miss (own_slotb _).1 (own_sne (own_d21 p2)) (getH_miss (own_slotb _).1 (own_sne (own_d20 p2)) rfl)) (by decide) (by decide) (fun h1 K1 => (rm_add1WW2 l Z a0 hw [] wDE ovs14 b6 ow14 on14 ob14 ol14 oh14 oz193 kw_14 kn_14 kb_14 kl_14 kh_14 kz_193 (f_base p2 p2) p2 p2 p2 (p2 + (1 : Int32)) (0 : Int32) (0 : Int32) (0 : Int32) (0 : Int32) (0 : Int32) (0 : Int32) k6 (p2 + (2 : Int32)) h1 n0 (own_z0 (OK231 h1 K1)) S_wDE (OK231 h1 K1) S_CS (j193_0.keep K1) (j193_1.keep K1 (ninS (Ne.symm ne_b10_ovs14) nin0)) (j193_2.keep K1 (ninS (Ne.symm ne_b10_ovs14) nin0)) (j193_3.keep K1 (ninS (Ne.symm ne_b10_ovs14) nin0)) (j193_4.keep K1 (ninS (Ne.symm ne_b10_ovs14) nin0)) (j193_5.keep K1 (ninS (Ne.symm ne_b10_ovs14) nin0)) (j193_6.keep K1 (ninS (Ne.symm ne_b10_ovs14) nin0)) (j193_7.keep K1 (ninS (Ne.symm ne_b10_ovs14) nin0)) (j193_8.keep K1 (ninS (Ne.symm ne_b10_ow14) nin0)) j193_9 (j193_10.keep K1 (ninS (Ne.symm ne_b10_on14) nin0)) j193_11 (j193_12.keep K1 (ninS (Ne.symm ne_b10_ob14) nin0)) (j193_13.keep K1 (ninS (Ne.symm ne_b10_ol14) nin0)) (j193_14.keep K1 (ninS (Ne.symm ne_b10_oh14) nin0)) (j193_15.keep K1 (ninS (Ne.symm ne_b10_oz193) nin0)) (F229.keep K1 (ninS ne_b6_b10 nin0)) g_ovs14 g_oz193 ne_ovs14_ow14 ne_ovs14_on14 ne_ovs14_ob14 ne_ovs14_ol14 ne_ovs14_oh14 ne_ovs14_oz193 ne_ow14_on14 ne_ow14_ob14 ne_ow14_ol14 ne_ow14_oh14 ne_ow14_oz193 ne_on14_ob14 ne_on14_ol14 ne_on14_oh14 ne_on14_oz193 ne_ob14_ol14 ne_ob14_oh14 ne_ob14_oz193 ne_ol14_oh14 ne_ol14_oz193 ne_oh14_oz193 ne_b6_ovs14 ne_b6_ow14 ne_b6_on14 ne_b6_ob14 ne_b6_ol14 ne_b6_oh14 ne_b6_oz193))) hZ (ww 118 rfl) (ww 3 rfl) (by decide) (by decide)) q224a q224c (g := (mkF m 96 #[vI p1, vI p2, vI p3, vI p4, vI 3, vR b1, vR b3, vR b6, vR b10, .unset, .unset, .unset] [(.ref b6), (.ref b10)])) rfl (by rw [hml]; rfl) (Steps.refl _) (argsL := [(.ref b6)]) (rest := []) (lenOf pd___I_Z_5 rfl) rfl (by show 2 * 0 + _ ≤ _; exact Nat.le_of_eq rfl) (bb at_96) (fun _ _ => ⟨rfl, rfl, (by decide : 18 + 2 ≤ _), (by decide : 85 + 12 ≤ _)⟩)
        dsimp only [Pt.U, Pt.locs, Pt.cells, Pt.slots] at X224 l224 y224 z224 st224 hQ224
        subst l224 y224 z224
        obtain ⟨rfl, N224q, K224, f224_0, f224_1, f224_2, f224_3, f224_4, f224_5, f224_6, f224_7, f224_8, f224_9, f224_10, f224_11, f224_12, f224_13, f224_14, j224_0, j224_1, j224_2, j224_3, j224_4, j224_5, j224_6, j224_7, j224_8, j224_9, j224_10, j224_11, j224_12, j224_13, j224_14, j224_15⟩ := hQ224
        have N224 := Fr.app N193 N224q
        have L233_ : Fld Z T224.heap b10 cRE "rows" "I" (.int 3) := f224_5
        have L234_ : Fld Z T224.heap ot14 cRT "count" "I" (.int 3) := f224_13
        have O235 := (O232.keep K224 (allS g_b10 (allS g_ot14 (allS g_os14 (allS g_ovs14 (allS g_oz193 all0))))))
        have F236 := (F225.keep K224)
        exact ⟨T224, _, T224.heap, (.ref b6), (f_de p3 (1 : Int32)), (f_hn (f_hn (f_hn (0 : Int32) p2) (p2 + (1 : Int32))) (p2 + (2 : Int32))), own_more X224 (by decide) (by decide), rfl, N224, O235, F236, f224_0, f224_1, f224_2, f224_3, f224_4, L233_, f224_6, f224_7, f224_8, f224_9, f224_10, fun t k => pre132 t (by
          show GG p e below T128 (mkF m 82 #[vI p1, vI p2, vI p3, vI p4, vI 3, vR b1, vR b3, vR b6, vR b10, .unset, .unset, .unset] [(.ref b3), (.ref b10)]) _
          refine st193.trans ?_
          refine XS.pop X193.here hx rfl (bb at_85) rfl rfl ?_
          refine XS.iload X193.here hx rfl (bb at_86) rfl ?_
          refine XS.iconst X193.here hx rfl (bb at_88) ?_
          refine XS.icmpNo X193.here hx rfl (bb at_89) rfl (flt (by decide : ¬ ((3 : Int32) < (3 : Int32)))).1 ?_
          refine XS.aload X193.here hx rfl (bb at_92) rfl rfl ?_
          refine XS.aload X193.here hx rfl (bb at_94) rfl rfl ?_
          refine st224.trans ?_
          refine XS.pop X224.here hx rfl (bb at_99) rfl rfl ?_
          exact k)⟩
  subst hkk
  obtain ⟨cq237, kq237, q237a, q237b, q237c⟩ := isOf hZ e20 Ex20
  obtain ⟨_, _, ⟨T237, L237, k237, n237⟩, -, X237, ⟨Lc237, hQ237, l237, y237, z237⟩, st237⟩ := X20.virtualBack hx (y := (⟨cRE, "startRoundFrom", "(I)Z"⟩ : MethodName)) (z := (⟨cRE, "startRoundFrom", "(I)Z"⟩ : MethodName)) hown (mvT hZ (ww 88 rfl)) (mvT hZ (ww 89 rfl)) (notFace_of_selects (args := #[]) (mvT hZ (ww 91 rfl))) (mvT hZ (ww 91 rfl)) (mvT hZ (ww 90 rfl)) (by decide) (backOf (W := 0) (rm_srf l Z a0 hw [] wDE b10 ((p4 &&& (2147483647 : Int32)) - ((p4 &&& (2147483647 : Int32)) / ((p1 &&& (3 : Int32)) + (1 : Int32))) * ((p1 &&& (3 : Int32)) + (1 : Int32))) ot14 ox14 ovs14 (p1 &&& (3 : Int32)) de20 (0 : Int32) zh20 so20 h20 n0 (own_z0 O20) S_wDE O20 S_CS Ex20 f20_0 f20_1 f20_2 f20_3 f20_4 f20_5 f20_6 f20_7 f20_8 f20_9 f20_10 g_b10) hZ (ww 92 rfl) (ww 3 rfl) (by decide) (by decide)) q237a q237c (g := (mkF m 115 #[vI p1, vI p2, vI p3, vI p4, vI (p1 &&& (3 : Int32)), vR b1, vR b3, vR b6, vR b10, vI ((p4 &&& (2147483647 : Int32)) - ((p4 &&& (2147483647 : Int32)) / ((p1 &&& (3 : Int32)) + (1 : Int32))) * ((p1 &&& (3 : Int32)) + (1 : Int32))), .unset, .unset] [(.int ((p4 &&& (2147483647 : Int32)) - ((p4 &&& (2147483647 : Int32)) / ((p1 &&& (3 : Int32)) + (1 : Int32))) * ((p1 &&& (3 : Int32)) + (1 : Int32)))), (.ref b10)])) rfl (by rw [hml]; rfl) (Steps.refl _) (argsL := [(.int ((p4 &&& (2147483647 : Int32)) - ((p4 &&& (2147483647 : Int32)) / ((p1 &&& (3 : Int32)) + (1 : Int32))) * ((p1 &&& (3 : Int32)) + (1 : Int32))))]) (rest := []) (lenOf pd__I_Z_4 rfl) rfl (by show 2 * 0 + _ ≤ _; exact Nat.le_of_eq rfl) (bb at_115) (fun _ _ => ⟨rfl, e20, (by decide : 20 + 0 ≤ _), (by decide : 97 + 0 ≤ _)⟩)
  dsimp only [Pt.U, Pt.locs, Pt.cells, Pt.slots] at X237 l237 y237 z237 st237 hQ237
  subst l237 y237 z237
  obtain ⟨rfl, N237q, K237, f237_0, f237_1, f237_2, f237_3, f237_4, f237_5, f237_6, f237_7, f237_8, f237_9, f237_10⟩ := hQ237
  have N237 := Fr.app N20 N237q
  have pre238 : ∀ t, GG p e below T237 (mkF m 124 #[vI p1, vI p2, vI p3, vI p4, vI (p1 &&& (3 : Int32)), vR b1, vR b3, vR b6, vR b10, vI ((p4 &&& (2147483647 : Int32)) - ((p4 &&& (2147483647 : Int32)) / ((p1 &&& (3 : Int32)) + (1 : Int32))) * ((p1 &&& (3 : Int32)) + (1 : Int32))), vI (nar .boolean (f_lt ((p4 &&& (2147483647 : Int32)) - ((p4 &&& (2147483647 : Int32)) / ((p1 &&& (3 : Int32)) + (1 : Int32))) * ((p1 &&& (3 : Int32)) + (1 : Int32))) (p1 &&& (3 : Int32)))), .unset] [(.int (p1 &&& (3 : Int32))), (.int ((p4 &&& (2147483647 : Int32)) - ((p4 &&& (2147483647 : Int32)) / ((p1 &&& (3 : Int32)) + (1 : Int32))) * ((p1 &&& (3 : Int32)) + (1 : Int32))))]) t → GG p e below s₁ (entryFrame m #[(.int p1), (.int p2), (.int p3), (.int p4)] maxLocals) t := fun t k => pre20 t (by
      show GG p e below T20 (mkF m 100 #[vI p1, vI p2, vI p3, vI p4, vI (p1 &&& (3 : Int32)), vR b1, vR b3, vR b6, vR b10, .unset, .unset, .unset] []) _
      refine XS.iloadN X20.here hx rfl (bb at_100) rfl ?_
      refine X20.ldcInt hx hown (mvT hZ (ww 87 rfl)) (g := (mkF m 101 #[vI p1, vI p2, vI p3, vI p4, vI (p1 &&& (3 : Int32)), vR b1, vR b3, vR b6, vR b10, .unset, .unset, .unset] [(.int p4)])) rfl (bb at_101) _ ?_
      refine XS.iand X20.here hx rfl (bb at_103) rfl ?_
      refine XS.iload X20.here hx rfl (bb at_104) rfl ?_
      refine XS.iconst X20.here hx rfl (bb at_106) ?_
      refine XS.iadd X20.here hx rfl (bb at_107) rfl ?_
      refine XS.irem X20.here hx rfl (bb at_108) rfl (own_kp p1) ?_
      refine XS.istore X20.here hx rfl (bb at_109) rfl (l' := #[vI p1, vI p2, vI p3, vI p4, vI (p1 &&& (3 : Int32)), vR b1, vR b3, vR b6, vR b10, vI ((p4 &&& (2147483647 : Int32)) - ((p4 &&& (2147483647 : Int32)) / ((p1 &&& (3 : Int32)) + (1 : Int32))) * ((p1 &&& (3 : Int32)) + (1 : Int32))), .unset, .unset]) rfl ?_
      refine XS.aload X20.here hx rfl (bb at_111) rfl rfl ?_
      refine XS.iload X20.here hx rfl (bb at_113) rfl ?_
      refine st237.trans ?_
      refine XS.istore X237.here hx rfl (bb at_118) rfl (l' := #[vI p1, vI p2, vI p3, vI p4, vI (p1 &&& (3 : Int32)), vR b1, vR b3, vR b6, vR b10, vI ((p4 &&& (2147483647 : Int32)) - ((p4 &&& (2147483647 : Int32)) / ((p1 &&& (3 : Int32)) + (1 : Int32))) * ((p1 &&& (3 : Int32)) + (1 : Int32))), vI (nar .boolean (f_lt ((p4 &&& (2147483647 : Int32)) - ((p4 &&& (2147483647 : Int32)) / ((p1 &&& (3 : Int32)) + (1 : Int32))) * ((p1 &&& (3 : Int32)) + (1 : Int32))) (p1 &&& (3 : Int32)))), .unset]) rfl ?_
      refine XS.iload X237.here hx rfl (bb at_120) rfl ?_
      refine XS.iload X237.here hx rfl (bb at_122) rfl ?_
      exact k)
  by_cases g239 : ((p4 &&& (2147483647 : Int32)) - ((p4 &&& (2147483647 : Int32)) / ((p1 &&& (3 : Int32)) + (1 : Int32))) * ((p1 &&& (3 : Int32)) + (1 : Int32))) < (p1 &&& (3 : Int32))
  · skip
    rw [if_pos g239] at hp
    obtain ⟨g240, hp⟩ := hp
    have O242 := (O20.keep K237 (allS g_b10 all0))
    have F243 := (Ex20.keep K237)
    obtain ⟨cq241, kq241, q241a, q241b, q241c⟩ := isOf hZ rfl F243
    obtain ⟨_, _, ⟨T241, L241, k241, n241⟩, -, X241, ⟨Lc241, hQ241, l241, y241, z241⟩, st241⟩ := X237.virtualBack hx (y := (⟨cRE, "deltaStart", "()I"⟩ : MethodName)) (z := (⟨cRE, "deltaStart", "()I"⟩ : MethodName)) hown (mvT hZ (ww 99 rfl)) (mvT hZ (ww 100 rfl)) (notFace_of_selects (args := #[]) (mvT hZ (ww 102 rfl))) (mvT hZ (ww 102 rfl)) (mvT hZ (ww 101 rfl)) (by decide) (backOf (W := 0) (rm_g_deltaStart l Z a0 hw [] wDE b10 ((p4 &&& (2147483647 : Int32)) - ((p4 &&& (2147483647 : Int32)) / ((p1 &&& (3 : Int32)) + (1 : Int32))) * ((p1 &&& (3 : Int32)) + (1 : Int32))) T237.heap n0 (own_z0 O242) S_wDE O242 S_CS f237_3) hZ (ww 103 rfl) (ww 3 rfl) (by decide) (by decide)) q241a q241c (g := (mkF m 143 #[vI p1, vI p2, vI p3, vI p4, vI (p1 &&& (3 : Int32)), vR b1, vR b3, vR b6, vR b10, vI ((p4 &&& (2147483647 : Int32)) - ((p4 &&& (2147483647 : Int32)) / ((p1 &&& (3 : Int32)) + (1 : Int32))) * ((p1 &&& (3 : Int32)) + (1 : Int32))), vI (nar .boolean (f_lt ((p4 &&& (2147483647 : Int32)) - ((p4 &&& (2147483647 : Int32)) / ((p1 &&& (3 : Int32)) + (1 : Int32))) * ((p1 &&& (3 : Int32)) + (1 : Int32))) (p1 &&& (3 : Int32)))), vI 1] [(.ref b10)])) rfl (by rw [hml]; rfl) (Steps.refl _) (argsL := []) (rest := []) (lenOf pd___I_3 rfl) rfl (by show 2 * 0 + _ ≤ _; exact Nat.le_of_eq rfl) (bb at_143) (fun _ _ => ⟨rfl, rfl, (by decide : 20 + 0 ≤ _), (by decide : 97 + 0 ≤ _)⟩)
    dsimp only [Pt.U, Pt.locs, Pt.cells, Pt.slots] at X241 l241 y241 z241 st241 hQ241
    subst l241 y241 z241
    obtain ⟨rfl, N241q, e241⟩ := hQ241
    have N241 := Fr.app N237 N241q
    obtain ⟨cq244, kq244, q244a, q244b, q244c⟩ := isOf hZ e241 F243
    obtain ⟨_, _, ⟨T244, L244, k244, n244⟩, -, X244, ⟨Lc244, hQ244, l244, y244, z244⟩, st244⟩ := X241.virtualBack hx (y := (⟨cRE, "deltaEnd", "()I"⟩ : MethodName)) (z := (⟨cRE, "deltaEnd", "()I"⟩ : MethodName)) hown (mvT hZ (ww 104 rfl)) (mvT hZ (ww 105 rfl)) (notFace_of_selects (args := #[]) (mvT hZ (ww 107 rfl))) (mvT hZ (ww 107 rfl)) (mvT hZ (ww 106 rfl)) (by decide) (backOf (W := 0) (rm_g_deltaEnd l Z a0 hw [] wDE b10 (p1 &&& (3 : Int32)) T237.heap n0 (own_z0 O242) S_wDE O242 S_CS f237_4) hZ (ww 108 rfl) (ww 3 rfl) (by decide) (by decide)) q244a q244c (g := (mkF m 153 #[vI p1, vI p2, vI p3, vI p4, vI (p1 &&& (3 : Int32)), vR b1, vR b3, vR b6, vR b10, vI ((p4 &&& (2147483647 : Int32)) - ((p4 &&& (2147483647 : Int32)) / ((p1 &&& (3 : Int32)) + (1 : Int32))) * ((p1 &&& (3 : Int32)) + (1 : Int32))), vI (nar .boolean (f_lt ((p4 &&& (2147483647 : Int32)) - ((p4 &&& (2147483647 : Int32)) / ((p1 &&& (3 : Int32)) + (1 : Int32))) * ((p1 &&& (3 : Int32)) + (1 : Int32))) (p1 &&& (3 : Int32)))), vI 1] [(.ref b10)])) rfl (by rw [hml]; rfl) (Steps.refl _) (argsL := []) (rest := []) (lenOf pd___I_3 rfl) rfl (by show 2 * 0 + _ ≤ _; exact Nat.le_of_eq rfl) (bb at_153) (fun _ _ => ⟨rfl, e241, (by decide : 20 + 0 ≤ _), (by decide : 97 + 0 ≤ _)⟩)
    dsimp only [Pt.U, Pt.locs, Pt.cells, Pt.slots] at X244 l244 y244 z244 st244 hQ244
    subst l244 y244 z244
    obtain ⟨rfl, N244q, e244⟩ := hQ244
    have N244 := Fr.app N241 N244q
    obtain ⟨cq245, kq245, q245a, q245b, q245c⟩ := isOf hZ e244 F243
    obtain ⟨_, _, ⟨T245, L245, k245, n245⟩, -, X245, ⟨Lc245, hQ245, l245, y245, z245⟩, st245⟩ := X244.virtualBack hx (y := (⟨cRE, "rows", "()I"⟩ : MethodName)) (z := (⟨cRE, "rows", "()I"⟩ : MethodName)) hown (mvT hZ (ww 109 rfl)) (mvT hZ (ww 110 rfl)) (notFace_of_selects (args := #[]) (mvT hZ (ww 112 rfl))) (mvT hZ (ww 112 rfl)) (mvT hZ (ww 111 rfl)) (by decide) (backOf (W := 0) (rm_g_rows l Z a0 hw [] wDE b10 (p1 &&& (3 : Int32)) T237.heap n0 (own_z0 O242) S_wDE O242 S_CS f237_5) hZ (ww 113 rfl) (ww 3 rfl) (by decide) (by decide)) q245a q245c (g := (mkF m 163 #[vI p1, vI p2, vI p3, vI p4, vI (p1 &&& (3 : Int32)), vR b1, vR b3, vR b6, vR b10, vI ((p4 &&& (2147483647 : Int32)) - ((p4 &&& (2147483647 : Int32)) / ((p1 &&& (3 : Int32)) + (1 : Int32))) * ((p1 &&& (3 : Int32)) + (1 : Int32))), vI (nar .boolean (f_lt ((p4 &&& (2147483647 : Int32)) - ((p4 &&& (2147483647 : Int32)) / ((p1 &&& (3 : Int32)) + (1 : Int32))) * ((p1 &&& (3 : Int32)) + (1 : Int32))) (p1 &&& (3 : Int32)))), vI 1] [(.ref b10)])) rfl (by rw [hml]; rfl) (Steps.refl _) (argsL := []) (rest := []) (lenOf pd___I_3 rfl) rfl (by show 2 * 0 + _ ≤ _; exact Nat.le_of_eq rfl) (bb at_163) (fun _ _ => ⟨rfl, e244, (by decide : 20 + 0 ≤ _), (by decide : 97 + 0 ≤ _)⟩)
    dsimp only [Pt.U, Pt.locs, Pt.cells, Pt.slots] at X245 l245 y245 z245 st245 hQ245
    subst l245 y245 z245
    obtain ⟨rfl, N245q, e245⟩ := hQ245
    have N245 := Fr.app N244 N245q
    obtain ⟨fs, hr, hrun, hended, hW, hsame⟩ := X245.leave (v := some (.int 1)) (fun h => by rw [Bd.returns] at h; cases h)
    refine ⟨_, _, pre238 _ ?_, hrun, hended, _, _, rfl, ?_, ⟨_, rfl⟩, hW, hsame.mono (by decide) (by decide)⟩
    · show GG p e below T237 (mkF m 124 #[vI p1, vI p2, vI p3, vI p4, vI (p1 &&& (3 : Int32)), vR b1, vR b3, vR b6, vR b10, vI ((p4 &&& (2147483647 : Int32)) - ((p4 &&& (2147483647 : Int32)) / ((p1 &&& (3 : Int32)) + (1 : Int32))) * ((p1 &&& (3 : Int32)) + (1 : Int32))), vI (nar .boolean (f_lt ((p4 &&& (2147483647 : Int32)) - ((p4 &&& (2147483647 : Int32)) / ((p1 &&& (3 : Int32)) + (1 : Int32))) * ((p1 &&& (3 : Int32)) + (1 : Int32))) (p1 &&& (3 : Int32)))), .unset] [(.int (p1 &&& (3 : Int32))), (.int ((p4 &&& (2147483647 : Int32)) - ((p4 &&& (2147483647 : Int32)) / ((p1 &&& (3 : Int32)) + (1 : Int32))) * ((p1 &&& (3 : Int32)) + (1 : Int32))))]) _
      refine XS.icmpNo X237.here hx rfl (bb at_124) rfl (tlt g239).2.1 ?_
      refine XS.iconst X237.here hx rfl (bb at_127) ?_
      refine XS.goto X237.here hx rfl (pc0 := 128) (pc' := 132) rfl (bb at_128) (by decide) (by decide) ?_
      refine XS.istore X237.here hx rfl (bb at_132) rfl (l' := #[vI p1, vI p2, vI p3, vI p4, vI (p1 &&& (3 : Int32)), vR b1, vR b3, vR b6, vR b10, vI ((p4 &&& (2147483647 : Int32)) - ((p4 &&& (2147483647 : Int32)) / ((p1 &&& (3 : Int32)) + (1 : Int32))) * ((p1 &&& (3 : Int32)) + (1 : Int32))), vI (nar .boolean (f_lt ((p4 &&& (2147483647 : Int32)) - ((p4 &&& (2147483647 : Int32)) / ((p1 &&& (3 : Int32)) + (1 : Int32))) * ((p1 &&& (3 : Int32)) + (1 : Int32))) (p1 &&& (3 : Int32)))), vI 1]) rfl ?_
      refine XS.iload X237.here hx rfl (bb at_134) rfl ?_
      refine XS.iload X237.here hx rfl (bb at_136) rfl ?_
      refine XS.icmpNo X237.here hx rfl (bb at_138) rfl (teq g240).2 ?_
      refine XS.aload X237.here hx rfl (bb at_141) rfl rfl ?_
      refine st241.trans ?_
      refine XS.iload X241.here hx rfl (bb at_146) rfl ?_
      refine XS.icmpNo X241.here hx rfl (bb at_148) rfl (teq (rfl : ((p4 &&& (2147483647 : Int32)) - ((p4 &&& (2147483647 : Int32)) / ((p1 &&& (3 : Int32)) + (1 : Int32))) * ((p1 &&& (3 : Int32)) + (1 : Int32))) = ((p4 &&& (2147483647 : Int32)) - ((p4 &&& (2147483647 : Int32)) / ((p1 &&& (3 : Int32)) + (1 : Int32))) * ((p1 &&& (3 : Int32)) + (1 : Int32))))).2 ?_
      refine XS.aload X241.here hx rfl (bb at_151) rfl rfl ?_
      refine st244.trans ?_
      refine XS.iload X244.here hx rfl (bb at_156) rfl ?_
      refine XS.icmpNo X244.here hx rfl (bb at_158) rfl (teq (rfl : (p1 &&& (3 : Int32)) = (p1 &&& (3 : Int32)))).2 ?_
      refine XS.aload X244.here hx rfl (bb at_161) rfl rfl ?_
      refine st245.trans ?_
      refine XS.iload X245.here hx rfl (bb at_166) rfl ?_
      refine XS.icmpNo X245.here hx rfl (bb at_168) rfl (teq (rfl : (p1 &&& (3 : Int32)) = (p1 &&& (3 : Int32)))).2 ?_
      refine XS.iconst X245.here hx rfl (bb at_171) ?_
      refine XS.goto X245.here hx rfl (pc0 := 172) (pc' := 176) rfl (bb at_172) (by decide) (by decide) ?_
      exact retN X245 hx (t := .boolean) Bd.returns (by simp) (bb at_176) hr
    · exact ⟨rfl, N245⟩
  · skip
    rw [if_neg g239] at hp
    obtain ⟨g246, hp⟩ := hp
    have O248 := (O20.keep K237 (allS g_b10 all0))
    have F249 := (Ex20.keep K237)
    obtain ⟨cq247, kq247, q247a, q247b, q247c⟩ := isOf hZ rfl F249
    obtain ⟨_, _, ⟨T247, L247, k247, n247⟩, -, X247, ⟨Lc247, hQ247, l247, y247, z247⟩, st247⟩ := X237.virtualBack hx (y := (⟨cRE, "deltaStart", "()I"⟩ : MethodName)) (z := (⟨cRE, "deltaStart", "()I"⟩ : MethodName)) hown (mvT hZ (ww 99 rfl)) (mvT hZ (ww 100 rfl)) (notFace_of_selects (args := #[]) (mvT hZ (ww 102 rfl))) (mvT hZ (ww 102 rfl)) (mvT hZ (ww 101 rfl)) (by decide) (backOf (W := 0) (rm_g_deltaStart l Z a0 hw [] wDE b10 ((p4 &&& (2147483647 : Int32)) - ((p4 &&& (2147483647 : Int32)) / ((p1 &&& (3 : Int32)) + (1 : Int32))) * ((p1 &&& (3 : Int32)) + (1 : Int32))) T237.heap n0 (own_z0 O248) S_wDE O248 S_CS f237_3) hZ (ww 103 rfl) (ww 3 rfl) (by decide) (by decide)) q247a q247c (g := (mkF m 143 #[vI p1, vI p2, vI p3, vI p4, vI (p1 &&& (3 : Int32)), vR b1, vR b3, vR b6, vR b10, vI ((p4 &&& (2147483647 : Int32)) - ((p4 &&& (2147483647 : Int32)) / ((p1 &&& (3 : Int32)) + (1 : Int32))) * ((p1 &&& (3 : Int32)) + (1 : Int32))), vI (nar .boolean (f_lt ((p4 &&& (2147483647 : Int32)) - ((p4 &&& (2147483647 : Int32)) / ((p1 &&& (3 : Int32)) + (1 : Int32))) * ((p1 &&& (3 : Int32)) + (1 : Int32))) (p1 &&& (3 : Int32)))), vI 0] [(.ref b10)])) rfl (by rw [hml]; rfl) (Steps.refl _) (argsL := []) (rest := []) (lenOf pd___I_3 rfl) rfl (by show 2 * 0 + _ ≤ _; exact Nat.le_of_eq rfl) (bb at_143) (fun _ _ => ⟨rfl, rfl, (by decide : 20 + 0 ≤ _), (by decide : 97 + 0 ≤ _)⟩)
    dsimp only [Pt.U, Pt.locs, Pt.cells, Pt.slots] at X247 l247 y247 z247 st247 hQ247
    subst l247 y247 z247
    obtain ⟨rfl, N247q, e247⟩ := hQ247
    have N247 := Fr.app N237 N247q
    obtain ⟨cq250, kq250, q250a, q250b, q250c⟩ := isOf hZ e247 F249
    obtain ⟨_, _, ⟨T250, L250, k250, n250⟩, -, X250, ⟨Lc250, hQ250, l250, y250, z250⟩, st250⟩ := X247.virtualBack hx (y := (⟨cRE, "deltaEnd", "()I"⟩ : MethodName)) (z := (⟨cRE, "deltaEnd", "()I"⟩ : MethodName)) hown (mvT hZ (ww 104 rfl)) (mvT hZ (ww 105 rfl)) (notFace_of_selects (args := #[]) (mvT hZ (ww 107 rfl))) (mvT hZ (ww 107 rfl)) (mvT hZ (ww 106 rfl)) (by decide) (backOf (W := 0) (rm_g_deltaEnd l Z a0 hw [] wDE b10 (p1 &&& (3 : Int32)) T237.heap n0 (own_z0 O248) S_wDE O248 S_CS f237_4) hZ (ww 108 rfl) (ww 3 rfl) (by decide) (by decide)) q250a q250c (g := (mkF m 153 #[vI p1, vI p2, vI p3, vI p4, vI (p1 &&& (3 : Int32)), vR b1, vR b3, vR b6, vR b10, vI ((p4 &&& (2147483647 : Int32)) - ((p4 &&& (2147483647 : Int32)) / ((p1 &&& (3 : Int32)) + (1 : Int32))) * ((p1 &&& (3 : Int32)) + (1 : Int32))), vI (nar .boolean (f_lt ((p4 &&& (2147483647 : Int32)) - ((p4 &&& (2147483647 : Int32)) / ((p1 &&& (3 : Int32)) + (1 : Int32))) * ((p1 &&& (3 : Int32)) + (1 : Int32))) (p1 &&& (3 : Int32)))), vI 0] [(.ref b10)])) rfl (by rw [hml]; rfl) (Steps.refl _) (argsL := []) (rest := []) (lenOf pd___I_3 rfl) rfl (by show 2 * 0 + _ ≤ _; exact Nat.le_of_eq rfl) (bb at_153) (fun _ _ => ⟨rfl, e247, (by decide : 20 + 0 ≤ _), (by decide : 97 + 0 ≤ _)⟩)
    dsimp only [Pt.U, Pt.locs, Pt.cells, Pt.slots] at X250 l250 y250 z250 st250 hQ250
    subst l250 y250 z250
    obtain ⟨rfl, N250q, e250⟩ := hQ250
    have N250 := Fr.app N247 N250q
    obtain ⟨cq251, kq251, q251a, q251b, q251c⟩ := isOf hZ e250 F249
    obtain ⟨_, _, ⟨T251, L251, k251, n251⟩, -, X251, ⟨Lc251, hQ251, l251, y251, z251⟩, st251⟩ := X250.virtualBack hx (y := (⟨cRE, "rows", "()I"⟩ : MethodName)) (z := (⟨cRE, "rows", "()I"⟩ : MethodName)) hown (mvT hZ (ww 109 rfl)) (mvT hZ (ww 110 rfl)) (notFace_of_selects (args := #[]) (mvT hZ (ww 112 rfl))) (mvT hZ (ww 112 rfl)) (mvT hZ (ww 111 rfl)) (by decide) (backOf (W := 0) (rm_g_rows l Z a0 hw [] wDE b10 (p1 &&& (3 : Int32)) T237.heap n0 (own_z0 O248) S_wDE O248 S_CS f237_5) hZ (ww 113 rfl) (ww 3 rfl) (by decide) (by decide)) q251a q251c (g := (mkF m 163 #[vI p1, vI p2, vI p3, vI p4, vI (p1 &&& (3 : Int32)), vR b1, vR b3, vR b6, vR b10, vI ((p4 &&& (2147483647 : Int32)) - ((p4 &&& (2147483647 : Int32)) / ((p1 &&& (3 : Int32)) + (1 : Int32))) * ((p1 &&& (3 : Int32)) + (1 : Int32))), vI (nar .boolean (f_lt ((p4 &&& (2147483647 : Int32)) - ((p4 &&& (2147483647 : Int32)) / ((p1 &&& (3 : Int32)) + (1 : Int32))) * ((p1 &&& (3 : Int32)) + (1 : Int32))) (p1 &&& (3 : Int32)))), vI 0] [(.ref b10)])) rfl (by rw [hml]; rfl) (Steps.refl _) (argsL := []) (rest := []) (lenOf pd___I_3 rfl) rfl (by show 2 * 0 + _ ≤ _; exact Nat.le_of_eq rfl) (bb at_163) (fun _ _ => ⟨rfl, e250, (by decide : 20 + 0 ≤ _), (by decide : 97 + 0 ≤ _)⟩)
    dsimp only [Pt.U, Pt.locs, Pt.cells, Pt.slots] at X251 l251 y251 z251 st251 hQ251
    subst l251 y251 z251
    obtain ⟨rfl, N251q, e251⟩ := hQ251
    have N251 := Fr.app N250 N251q
    obtain ⟨fs, hr, hrun, hended, hW, hsame⟩ := X251.leave (v := some (.int 1)) (fun h => by rw [Bd.returns] at h; cases h)
    refine ⟨_, _, pre238 _ ?_, hrun, hended, _, _, rfl, ?_, ⟨_, rfl⟩, hW, hsame.mono (by decide) (by decide)⟩
    · show GG p e below T237 (mkF m 124 #[vI p1, vI p2, vI p3, vI p4, vI (p1 &&& (3 : Int32)), vR b1, vR b3, vR b6, vR b10, vI ((p4 &&& (2147483647 : Int32)) - ((p4 &&& (2147483647 : Int32)) / ((p1 &&& (3 : Int32)) + (1 : Int32))) * ((p1 &&& (3 : Int32)) + (1 : Int32))), vI (nar .boolean (f_lt ((p4 &&& (2147483647 : Int32)) - ((p4 &&& (2147483647 : Int32)) / ((p1 &&& (3 : Int32)) + (1 : Int32))) * ((p1 &&& (3 : Int32)) + (1 : Int32))) (p1 &&& (3 : Int32)))), .unset] [(.int (p1 &&& (3 : Int32))), (.int ((p4 &&& (2147483647 : Int32)) - ((p4 &&& (2147483647 : Int32)) / ((p1 &&& (3 : Int32)) + (1 : Int32))) * ((p1 &&& (3 : Int32)) + (1 : Int32))))]) _
      refine XS.icmpYes X237.here hx rfl (pc0 := 124) (pc' := 131) rfl (bb at_124) rfl (flt g239).2.1 (by decide) (by decide) ?_
      refine XS.iconst X237.here hx rfl (bb at_131) ?_
      refine XS.istore X237.here hx rfl (bb at_132) rfl (l' := #[vI p1, vI p2, vI p3, vI p4, vI (p1 &&& (3 : Int32)), vR b1, vR b3, vR b6, vR b10, vI ((p4 &&& (2147483647 : Int32)) - ((p4 &&& (2147483647 : Int32)) / ((p1 &&& (3 : Int32)) + (1 : Int32))) * ((p1 &&& (3 : Int32)) + (1 : Int32))), vI (nar .boolean (f_lt ((p4 &&& (2147483647 : Int32)) - ((p4 &&& (2147483647 : Int32)) / ((p1 &&& (3 : Int32)) + (1 : Int32))) * ((p1 &&& (3 : Int32)) + (1 : Int32))) (p1 &&& (3 : Int32)))), vI 0]) rfl ?_
      refine XS.iload X237.here hx rfl (bb at_134) rfl ?_
      refine XS.iload X237.here hx rfl (bb at_136) rfl ?_
      refine XS.icmpNo X237.here hx rfl (bb at_138) rfl (teq g246).2 ?_
      refine XS.aload X237.here hx rfl (bb at_141) rfl rfl ?_
      refine st247.trans ?_
      refine XS.iload X247.here hx rfl (bb at_146) rfl ?_
      refine XS.icmpNo X247.here hx rfl (bb at_148) rfl (teq (rfl : ((p4 &&& (2147483647 : Int32)) - ((p4 &&& (2147483647 : Int32)) / ((p1 &&& (3 : Int32)) + (1 : Int32))) * ((p1 &&& (3 : Int32)) + (1 : Int32))) = ((p4 &&& (2147483647 : Int32)) - ((p4 &&& (2147483647 : Int32)) / ((p1 &&& (3 : Int32)) + (1 : Int32))) * ((p1 &&& (3 : Int32)) + (1 : Int32))))).2 ?_
      refine XS.aload X247.here hx rfl (bb at_151) rfl rfl ?_
      refine st250.trans ?_
      refine XS.iload X250.here hx rfl (bb at_156) rfl ?_
      refine XS.icmpNo X250.here hx rfl (bb at_158) rfl (teq (rfl : (p1 &&& (3 : Int32)) = (p1 &&& (3 : Int32)))).2 ?_
      refine XS.aload X250.here hx rfl (bb at_161) rfl rfl ?_
      refine st251.trans ?_
      refine XS.iload X251.here hx rfl (bb at_166) rfl ?_
      refine XS.icmpNo X251.here hx rfl (bb at_168) rfl (teq (rfl : (p1 &&& (3 : Int32)) = (p1 &&& (3 : Int32)))).2 ?_
      refine XS.iconst X251.here hx rfl (bb at_171) ?_
      refine XS.goto X251.here hx rfl (pc0 := 172) (pc' := 176) rfl (bb at_172) (by decide) (by decide) ?_
      exact retN X251 hx (t := .boolean) Bd.returns (by simp) (bb at_176) hr
    · exact ⟨rfl, N251⟩
theorem own_plain {p1 : Int32} {p4 : Int32} : lawP p1 p4 := by
  unfold lawP
  repeat' split
  all_goals (refine ⟨?_, trivial⟩; unfold f_lt; first | (rw [if_pos (by assumption)]; rfl) | (rw [if_neg (by assumption)]; rfl))
set_option maxRecDepth 65536 in
set_option maxHeartbeats 40000000 in
theorem comes_1 {Post : Tables → Env → Array Value → State → Outcome → State → Prop} (hpost : ∀ tb e args s v u, (limb_1_1.after args s (.returned v) u = true ∧ limb_1_2.after args s (.returned v) u = true ∧ True) → FrameEnd s (.returned v) u (Jvm.fieldLocs frame_1_writes args s ++ Jvm.arrayLocs frame_1_arrays args s ++ Jvm.staticLocs frame_1_statics s) 48 256 → Post tb e args s (.returned v) u) :
    ArmFor flags0 classFile x code maxLocals ret World_1 tables_1 room_1 Calls_1 rest_1 Pre_1 Post := by
  intro l hfl _ _ p e ha hc hk s m args below hf hA hF happ hP
  obtain ⟨hcalls, hrest, hpre⟩ := hP
  obtain ⟨-, -, -, hnamed, -, -, -, hat⟩ := (Spec.applies_iff hf).mp happ
  obtain ⟨hg, hn⟩ := and_e (Cond.before_iff.mp (show (Jvm.Cond.and given_1 narrow_1).before args s = true from hpre))
  obtain ⟨gv0, gr0⟩ := and_e hg
  obtain ⟨gv1, gr1⟩ := and_e gr0
  obtain ⟨gv2, gr2⟩ := and_e gr1
  obtain ⟨gv3, gr3⟩ := and_e gr2
  obtain ⟨w0, w1, w2, w3, rfl⟩ : ∃ w0 w1 w2 w3 : Value, args = #[w0, w1, w2, w3] := by
    have hs : args.size = 4 := by simpa [Cond.value, given_1] using gv0
    obtain ⟨L⟩ := args
    match L, hs with
    | [w0, w1, w2, w3], _ => exact ⟨w0, w1, w2, w3, rfl⟩
  have hw := fun d (hd : d ∈ tables_1) => atoms_spec (ws := Jvm.Cond.code x code maxLocals ret :: tables_1) hat d (List.mem_cons_of_mem _ hd)
  have ww := fun (i : Nat) {d : Jvm.Cond} (h : tables_1[i]? = some d) => hw d (List.mem_of_getElem? h)
  obtain ⟨i0, ei0⟩ := is_v gv1
  obtain rfl : w0 = (.int i0) := Option.some.inj ei0
  obtain ⟨i1, ei1⟩ := is_v gv2
  obtain rfl : w1 = (.int i1) := Option.some.inj ei1
  obtain ⟨i2, ei2⟩ := is_v gv3
  obtain rfl : w2 = (.int i2) := Option.some.inj ei2
  obtain ⟨i3, ei3⟩ := is_v gr3
  obtain rfl : w3 = (.int i3) := Option.some.inj ei3
  -- hn says: (Jvm.Cond.eq (Jvm.Term.static cRV "CHUNK_SHIFT" "I") (Jvm.Term.int (12 : Int32)))
  obtain ⟨hsets, hown0⟩ := atoms_of _ (rest_1_c_eq ▸ (show rest_1_c.before _ s = true from hrest))
  have O0 := Old.start s
  have S_CS : Sta s s.heap cRV "CHUNK_SHIFT" "I" (.int (12 : Int32)) := Sta.start (eqv_i (Term.int_eval (12)) hn) (Or.inr ⟨(ww 62 rfl), (ww 165 rfl)⟩)
  obtain ⟨wDE, ev_w⟩ := exa_v (Cond.before_iff.mp (hsets _ (List.mem_of_getElem? (i := 7) rfl)))
  have S_wDE : Sta s s.heap "java/util/ArrayList" "DEFAULTCAPACITY_EMPTY_ELEMENTDATA" "[Ljava/lang/Object;" (.ref wDE) := Sta.start ev_w (Or.inr ⟨(ww 34 rfl), (hsets _ (List.mem_of_getElem? (i := 2) rfl))⟩)
  obtain ⟨n, o, h1, h2, h3, _, L, rfl, ⟨rfl, N⟩, hq⟩ := rm_law l s _ hw tables_1 wDE i0 i1 i2 i3 s.heap s.heap.size (Nat.le_refl _) S_wDE O0 S_CS own_plain p e ha hc hk s m _ below hf ((Spec.applies_iff_loose hf).mp happ).1 ⟨rfl, State.Warmed39.refl s, rfl⟩ trivial
  exact ⟨n, _, h1, h2, h3, hpost _ _ _ _ _ _ ⟨Cond.after_iff.mpr rfl, Cond.after_iff.mpr (eq_i res_at (Term.int_eval (1)) rfl), trivial⟩ ⟨hq.1, hq.2.1, (hq.2.2.sift fun y hy => Or.inr (N y hy)).mono (by decide) (by decide)⟩⟩
theorem main_1_1 : Claimed_1_1 := comes_1 fun _ _ _ _ _ _ h hF => ⟨h.1, hF⟩
theorem main_1_2 : Claimed_1_2 := comes_1 fun _ _ _ _ _ _ h hF => ⟨h.2.1, hF⟩

end Jvm.Pilot.@@N@@
namespace Jvm.Pilot.@@N@@
open Jvm Jvm.ClassFile Sem Op Lib Jvm.Free Jvm.Stand Jvm.Pilot.@@N@@.Jvm.D
/-! MADE BY PROGRAM (witnessworld.py) out of the Statement's table words and the real class files: 34 classes; the members and pool entries that the words name. The judged class is class 1, her method 1. -/
namespace start1
open Jvm.ClassFile
def u (s : String) : CpInfo := .utf8 (stringToUtf16 s)
/-- a pool by its gaps: so many unusable entries, then the entry; so many at the end -/
def gap : Nat → List CpInfo → List CpInfo
  | 0, r => r
  | n + 1, r => .unusable :: gap n r
def poolList (es : List (Nat × CpInfo)) (last : Nat) : List CpInfo := es.foldr (fun e r => gap e.1 (e.2 :: r)) (gap last [])
def pool (es : List (Nat × CpInfo)) (last : Nat) : Array CpInfo := ⟨poolList es last⟩
def fileOf (pool : Array CpInfo) (this : Nat) (attrs : Array Attribute := #[]) (ms : Array MethodInfo := #[]) (fl : Nat := 33) (sup : Nat := 0) (ifs : Array Nat := #[]) (fds : Array FieldInfo := #[]) : ClassFile where
  minorVersion := 0
  majorVersion := 65
  constantPool := pool
  accessFlags := fl
  thisClass := this
  superClass := sup
  interfaces := ifs
  fields := fds
  methods := ms
  attributes := attrs
def plain (name : String) (sup : Option ClassId) : Class where
  name := name
  kind := .ordinary
  loader := none
  accessFlags := 33
  super := sup
  interfaces := #[]
  cf := none
  fields := #[]
  methods := #[]
  instanceTypes := #[]
  staticTypes := #[]
  resolved := #[]
  callSites := []
  init := .initialized
  statics := none
  mirror := none

def pool0 : Array CpInfo := pool [(5, u "<init>"), (0, u "()V"), (1, .class_ 10), (1, u "java/lang/Object")] 113

def k0c0 : Code := { maxStack := 0, maxLocals := 1, code := object_method_1_code, exceptionTable := #[], attributes := #[] }
def k0m0 : Method := { name := "<init>", desc := "()V", sig := { parameters := [], returnType := none }, accessFlags := 1, code := some k0c0 }
/-- java/lang/Object -/
def k0 : Class := { plain "java/lang/Object" none with
  accessFlags := 33
  interfaces := #[]
  cf := some (fileOf pool0 8 #[] #[{ accessFlags := 1, nameIndex := 5, descriptorIndex := 6, attributes := #[] }] 33 0 #[] #[])
  fields := #[]
  methods := #[k0m0]
  instanceTypes := #[]
  staticTypes := #[]
  resolved := Array.replicate 124 none
  statics := none }

def pool1 : Array CpInfo := pool [(2, .class_ 4), (1, u "java/lang/Object"), (0, u "<init>"), (0, u "()V"), (0, .class_ 8), (0, u "com/example/chaseward/chaseward/engine/Relation"), (0, .methodref 7 10), (0, .nameAndType 5 11), (0, u "(I)V"), (0, .methodref 7 13), (0, .nameAndType 14 15), (0, u "add"), (0, u "([I)Z"), (0, .methodref 7 17), (0, .nameAndType 18 19), (0, u "startRound"), (0, u "()Z"), (0, .integer 2147483647), (0, .methodref 7 22), (0, .nameAndType 23 24), (0, u "startRoundFrom"), (0, u "(I)Z"), (0, .methodref 7 26), (0, .nameAndType 27 28), (0, u "deltaStart"), (0, u "()I"), (0, .methodref 7 30), (0, .nameAndType 31 28), (0, u "deltaEnd"), (0, .methodref 7 33), (0, .nameAndType 34 28), (0, u "rows"), (0, .class_ 36), (0, u "com/example/chaseward/chaseward/engine/RelationStartRoundFromPinLaw"), (2, u "law"), (0, u "(IIII)Z")] 5

def k1m0 : Method := { name := "<init>", desc := "()V", sig := { parameters := [], returnType := none }, accessFlags := 2, code := none }
def k1c1 : Code := { maxStack := 5, maxLocals := 12, code := code, exceptionTable := #[], attributes := #[] }
def k1m1 : Method := { name := "law", desc := "(IIII)Z", sig := { parameters := [.int, .int, .int, .int], returnType := some .boolean }, accessFlags := 9, code := some k1c1 }
/-- com/example/chaseward/chaseward/engine/RelationStartRoundFromPinLaw -/
def k1 : Class := { plain "com/example/chaseward/chaseward/engine/RelationStartRoundFromPinLaw" (some 0) with
  accessFlags := 49
  interfaces := #[]
  cf := some (fileOf pool1 35 #[] #[{ accessFlags := 2, nameIndex := 5, descriptorIndex := 6, attributes := #[] }, { accessFlags := 9, nameIndex := 39, descriptorIndex := 40, attributes := #[] }] 49 2 #[] #[])
  fields := #[]
  methods := #[k1m0, k1m1]
  instanceTypes := #[]
  staticTypes := #[]
  resolved := Array.replicate 46 none
  statics := none }

def pool2 : Array CpInfo := pool [(1, .methodref 2 3), (0, .class_ 4), (0, .nameAndType 5 6), (0, u "java/lang/Object"), (0, u "<init>"), (0, u "()V"), (0, .class_ 8), (0, u "com/example/chaseward/chaseward/engine/Relation$Tuples"), (0, .methodref 7 10), (0, .nameAndType 5 11), (0, u "(Lcom/example/chaseward/chaseward/engine/Relation;)V"), (0, .fieldref 13 14), (0, .class_ 15), (0, .nameAndType 16 17), (0, u "com/example/chaseward/chaseward/engine/Relation"), (0, u "table"), (0, u "Lcom/example/chaseward/chaseward/engine/Relation$Tuples;"), (0, .class_ 19), (0, u "java/util/ArrayList"), (0, .methodref 18 3), (0, .fieldref 13 22), (0, .nameAndType 23 24), (0, u "indexes"), (0, u "Ljava/util/List;"), (0, .fieldref 13 26), (0, .nameAndType 27 28), (0, u "arity"), (0, u "I"), (0, .class_ 30), (0, u "com/example/chaseward/chaseward/engine/RowValues"), (0, .methodref 29 32), (0, .nameAndType 5 33), (0, u "(I)V"), (0, .fieldref 13 35), (0, .nameAndType 36 37), (0, u "values"), (0, u "Lcom/example/chaseward/chaseward/engine/RowValues;"), (0, .fieldref 13 39), (0, .nameAndType 40 28), (0, u "rows"), (4, .fieldref 13 46), (0, .nameAndType 47 48), (0, u "onlyNew"), (0, u "Z"), (0, .methodref 13 50), (0, .nameAndType 51 52), (0, u "append"), (0, u "([I)I"), (7, .methodref 61 62), (0, .class_ 63), (0, .nameAndType 64 52), (0, u "com/example/chaseward/chaseward/engine/Hashing"), (0, u "of"), (0, .fieldref 13 66), (0, .nameAndType 67 68), (0, u "sought"), (0, u "[I"), (0, .methodref 7 70), (0, .nameAndType 71 72), (0, u "find"), (0, u "(I)I"), (0, .methodref 7 74), (0, .nameAndType 75 76), (0, u "insert"), (0, u "(III)V"), (5, u "soughtWhole"), (0, .fieldref 13 84), (0, .nameAndType 85 48), (0, u "holdsNull"), (3, u "(I)Z"), (19, u "retired"), (0, u "Ljava/util/BitSet;"), (17, u "add"), (0, u "([I)Z"), (4, .interfaceMethodref 135 136), (0, .class_ 137), (0, .nameAndType 138 139), (0, u "java/util/List"), (0, u "iterator"), (0, u "()Ljava/util/Iterator;"), (0, .interfaceMethodref 141 142), (0, .class_ 143), (0, .nameAndType 144 145), (0, u "java/util/Iterator"), (0, u "hasNext"), (0, u "()Z"), (12, .fieldref 13 159), (0, .nameAndType 160 28), (0, u "deltaEnd"), (0, .fieldref 13 162), (0, .nameAndType 163 28), (0, u "deltaStart"), (2, .methodref 167 168), (0, .class_ 169), (0, .nameAndType 170 89), (0, u "com/example/chaseward/chaseward/engine/Dictionary"), (0, u "isNull"), (16, .fieldref 13 188), (0, .nameAndType 189 190), (0, u "growth"), (0, u "Ljava/lang/Runnable;"), (0, .fieldref 13 192), (0, .nameAndType 193 194), (0, u "rowWithNull"), (0, u "Ljava/util/function/IntConsumer;"), (0, .methodref 13 196), (0, .nameAndType 197 89), (0, u "startRoundFrom"), (5, .methodref 29 204), (0, .nameAndType 128 205), (0, u "([I)V"), (9, u "()I"), (15, u "startRound")] 6

def k2c0 : Code := { maxStack := 4, maxLocals := 2, code := prog_43_method_1_code, exceptionTable := #[], attributes := #[] }
def k2m0 : Method := { name := "<init>", desc := "(I)V", sig := { parameters := [.int], returnType := none }, accessFlags := 0, code := some k2c0 }
def k2c1 : Code := { maxStack := 1, maxLocals := 1, code := prog_43_method_3_code, exceptionTable := #[], attributes := #[] }
def k2m1 : Method := { name := "rows", desc := "()I", sig := { parameters := [], returnType := some .int }, accessFlags := 0, code := some k2c1 }
def k2c2 : Code := { maxStack := 5, maxLocals := 4, code := prog_43_method_5_code, exceptionTable := #[], attributes := #[] }
def k2m2 : Method := { name := "add", desc := "([I)Z", sig := { parameters := [(.array .int)], returnType := some .boolean }, accessFlags := 0, code := some k2c2 }
def k2c3 : Code := { maxStack := 2, maxLocals := 1, code := prog_43_method_22_code, exceptionTable := #[], attributes := #[] }
def k2m3 : Method := { name := "startRound", desc := "()Z", sig := { parameters := [], returnType := some .boolean }, accessFlags := 0, code := some k2c3 }
def k2c4 : Code := { maxStack := 2, maxLocals := 2, code := prog_43_method_23_code, exceptionTable := #[], attributes := #[] }
def k2m4 : Method := { name := "startRoundFrom", desc := "(I)Z", sig := { parameters := [.int], returnType := some .boolean }, accessFlags := 0, code := some k2c4 }
def k2c5 : Code := { maxStack := 1, maxLocals := 1, code := prog_43_method_25_code, exceptionTable := #[], attributes := #[] }
def k2m5 : Method := { name := "deltaStart", desc := "()I", sig := { parameters := [], returnType := some .int }, accessFlags := 0, code := some k2c5 }
def k2c6 : Code := { maxStack := 1, maxLocals := 1, code := prog_43_method_26_code, exceptionTable := #[], attributes := #[] }
def k2m6 : Method := { name := "deltaEnd", desc := "()I", sig := { parameters := [], returnType := some .int }, accessFlags := 0, code := some k2c6 }
def k2c7 : Code := { maxStack := 3, maxLocals := 5, code := prog_43_method_27_code, exceptionTable := #[], attributes := #[] }
def k2m7 : Method := { name := "append", desc := "([I)I", sig := { parameters := [(.array .int)], returnType := some .int }, accessFlags := 2, code := some k2c7 }
/-- com/example/chaseward/chaseward/engine/Relation -/
def k2 : Class := { plain "com/example/chaseward/chaseward/engine/Relation" (some 0) with
  accessFlags := 48
  interfaces := #[]
  cf := some (fileOf pool2 13 #[.nestMembers #[7]] #[{ accessFlags := 0, nameIndex := 5, descriptorIndex := 33, attributes := #[] }, { accessFlags := 0, nameIndex := 40, descriptorIndex := 215, attributes := #[] }, { accessFlags := 0, nameIndex := 128, descriptorIndex := 129, attributes := #[] }, { accessFlags := 0, nameIndex := 231, descriptorIndex := 145, attributes := #[] }, { accessFlags := 0, nameIndex := 197, descriptorIndex := 89, attributes := #[] }, { accessFlags := 0, nameIndex := 163, descriptorIndex := 215, attributes := #[] }, { accessFlags := 0, nameIndex := 160, descriptorIndex := 215, attributes := #[] }, { accessFlags := 2, nameIndex := 51, descriptorIndex := 52, attributes := #[] }] 48 2 #[] #[{ accessFlags := 18, nameIndex := 27, descriptorIndex := 28, attributes := #[] }, { accessFlags := 2, nameIndex := 36, descriptorIndex := 37, attributes := #[] }, { accessFlags := 2, nameIndex := 40, descriptorIndex := 28, attributes := #[] }, { accessFlags := 2, nameIndex := 16, descriptorIndex := 17, attributes := #[] }, { accessFlags := 2, nameIndex := 82, descriptorIndex := 48, attributes := #[] }, { accessFlags := 2, nameIndex := 47, descriptorIndex := 48, attributes := #[] }, { accessFlags := 2, nameIndex := 85, descriptorIndex := 48, attributes := #[] }, { accessFlags := 2, nameIndex := 109, descriptorIndex := 110, attributes := #[] }, { accessFlags := 2, nameIndex := 67, descriptorIndex := 68, attributes := #[] }, { accessFlags := 18, nameIndex := 23, descriptorIndex := 24, attributes := #[] }, { accessFlags := 2, nameIndex := 163, descriptorIndex := 28, attributes := #[] }, { accessFlags := 2, nameIndex := 160, descriptorIndex := 28, attributes := #[] }, { accessFlags := 2, nameIndex := 189, descriptorIndex := 190, attributes := #[] }, { accessFlags := 2, nameIndex := 193, descriptorIndex := 194, attributes := #[] }])
  fields := #[{ name := "arity", type := .int, accessFlags := 18, slot := 0, constantValue := 0 }, { name := "values", type := (.object "com/example/chaseward/chaseward/engine/RowValues"), accessFlags := 2, slot := 1, constantValue := 0 }, { name := "rows", type := .int, accessFlags := 2, slot := 2, constantValue := 0 }, { name := "table", type := (.object "com/example/chaseward/chaseward/engine/Relation$Tuples"), accessFlags := 2, slot := 3, constantValue := 0 }, { name := "soughtWhole", type := .boolean, accessFlags := 2, slot := 4, constantValue := 0 }, { name := "onlyNew", type := .boolean, accessFlags := 2, slot := 5, constantValue := 0 }, { name := "holdsNull", type := .boolean, accessFlags := 2, slot := 6, constantValue := 0 }, { name := "retired", type := (.object "java/util/BitSet"), accessFlags := 2, slot := 7, constantValue := 0 }, { name := "sought", type := (.array .int), accessFlags := 2, slot := 8, constantValue := 0 }, { name := "indexes", type := (.object "java/util/List"), accessFlags := 18, slot := 9, constantValue := 0 }, { name := "deltaStart", type := .int, accessFlags := 2, slot := 10, constantValue := 0 }, { name := "deltaEnd", type := .int, accessFlags := 2, slot := 11, constantValue := 0 }, { name := "growth", type := (.object "java/lang/Runnable"), accessFlags := 2, slot := 12, constantValue := 0 }, { name := "rowWithNull", type := (.object "java/util/function/IntConsumer"), accessFlags := 2, slot := 13, constantValue := 0 }]
  methods := #[k2m0, k2m1, k2m2, k2m3, k2m4, k2m5, k2m6, k2m7]
  instanceTypes := #[.int, (.object "com/example/chaseward/chaseward/engine/RowValues"), .int, (.object "com/example/chaseward/chaseward/engine/Relation$Tuples"), .boolean, .boolean, .boolean, (.object "java/util/BitSet"), (.array .int), (.object "java/util/List"), .int, .int, (.object "java/lang/Runnable"), (.object "java/util/function/IntConsumer")]
  staticTypes := #[]
  resolved := Array.replicate 238 none
  statics := none }

def pool3 : Array CpInfo := pool [(1, .methodref 2 3), (0, .class_ 4), (0, .nameAndType 5 6), (0, u "java/lang/Object"), (0, u "<init>"), (0, u "()V"), (0, .fieldref 8 9), (0, .class_ 10), (0, .nameAndType 11 12), (0, u "com/example/chaseward/chaseward/engine/RowTable"), (0, u "slots"), (0, u "[I"), (0, .fieldref 8 14), (0, .nameAndType 15 16), (0, u "tagMask"), (0, u "I"), (0, .fieldref 8 18), (0, .nameAndType 19 20), (0, u "dense"), (0, u "Z"), (6, .fieldref 8 28), (0, .nameAndType 29 16), (0, u "count"), (0, .methodref 8 31), (0, .nameAndType 32 33), (0, u "tagOf"), (0, u "(I)I"), (0, .methodref 8 35), (0, .nameAndType 36 33), (0, u "firstSlot"), (3, u "(I)Z"), (3, .methodref 8 45), (0, .nameAndType 46 40), (0, u "fits"), (6, u "find"), (0, .long 5), (1, .long 4), (1, .integer 1073741824), (7, .long 2), (1, .long 1073741824), (11, .class_ 82), (1, u "java/lang/Integer"), (16, .long 4294967295), (1, .methodref 80 102), (0, .nameAndType 103 33), (0, u "numberOfTrailingZeros"), (0, u "MOST_SLOTS"), (1, u "(Z)V"), (6, u "(III)V"), (0, u "insert")] 3

def k3c0 : Code := { maxStack := 2, maxLocals := 2, code := prog_47_method_1_code, exceptionTable := #[], attributes := #[] }
def k3m0 : Method := { name := "<init>", desc := "(Z)V", sig := { parameters := [.boolean], returnType := none }, accessFlags := 0, code := some k3c0 }
def k3c1 : Code := { maxStack := 4, maxLocals := 5, code := prog_47_method_5_code, exceptionTable := #[], attributes := #[] }
def k3m1 : Method := { name := "find", desc := "(I)I", sig := { parameters := [.int], returnType := some .int }, accessFlags := 0, code := some k3c1 }
def k3c2 : Code := { maxStack := 6, maxLocals := 7, code := prog_47_method_8_code, exceptionTable := #[], attributes := #[] }
def k3m2 : Method := { name := "insert", desc := "(III)V", sig := { parameters := [.int, .int, .int], returnType := none }, accessFlags := 0, code := some k3c2 }
def k3c3 : Code := { maxStack := 2, maxLocals := 2, code := prog_47_method_9_code, exceptionTable := #[], attributes := #[] }
def k3m3 : Method := { name := "fits", desc := "(I)Z", sig := { parameters := [.int], returnType := some .boolean }, accessFlags := 2, code := some k3c3 }
def k3c4 : Code := { maxStack := 4, maxLocals := 2, code := prog_47_method_13_code, exceptionTable := #[], attributes := #[] }
def k3m4 : Method := { name := "firstSlot", desc := "(I)I", sig := { parameters := [.int], returnType := some .int }, accessFlags := 2, code := some k3c4 }
def k3c5 : Code := { maxStack := 3, maxLocals := 2, code := prog_47_method_15_code, exceptionTable := #[], attributes := #[] }
def k3m5 : Method := { name := "tagOf", desc := "(I)I", sig := { parameters := [.int], returnType := some .int }, accessFlags := 2, code := some k3c5 }
/-- com/example/chaseward/chaseward/engine/RowTable -/
def k3 : Class := { plain "com/example/chaseward/chaseward/engine/RowTable" (some 0) with
  accessFlags := 1056
  interfaces := #[]
  cf := some (fileOf pool3 8 #[] #[{ accessFlags := 0, nameIndex := 5, descriptorIndex := 106, attributes := #[] }, { accessFlags := 0, nameIndex := 53, descriptorIndex := 33, attributes := #[] }, { accessFlags := 0, nameIndex := 114, descriptorIndex := 113, attributes := #[] }, { accessFlags := 2, nameIndex := 46, descriptorIndex := 40, attributes := #[] }, { accessFlags := 2, nameIndex := 36, descriptorIndex := 33, attributes := #[] }, { accessFlags := 2, nameIndex := 32, descriptorIndex := 33, attributes := #[] }] 1056 2 #[] #[{ accessFlags := 26, nameIndex := 104, descriptorIndex := 16, attributes := #[] }, { accessFlags := 18, nameIndex := 19, descriptorIndex := 20, attributes := #[] }, { accessFlags := 2, nameIndex := 11, descriptorIndex := 12, attributes := #[] }, { accessFlags := 2, nameIndex := 29, descriptorIndex := 16, attributes := #[] }, { accessFlags := 2, nameIndex := 15, descriptorIndex := 16, attributes := #[] }])
  fields := #[{ name := "MOST_SLOTS", type := .int, accessFlags := 26, slot := 0, constantValue := 0 }, { name := "dense", type := .boolean, accessFlags := 18, slot := 0, constantValue := 0 }, { name := "slots", type := (.array .int), accessFlags := 2, slot := 1, constantValue := 0 }, { name := "count", type := .int, accessFlags := 2, slot := 2, constantValue := 0 }, { name := "tagMask", type := .int, accessFlags := 2, slot := 3, constantValue := 0 }]
  methods := #[k3m0, k3m1, k3m2, k3m3, k3m4, k3m5]
  instanceTypes := #[.boolean, (.array .int), .int, .int]
  staticTypes := #[.int]
  resolved := Array.replicate 118 none
  statics := none }

def pool4 : Array CpInfo := pool [(1, .fieldref 2 3), (0, .class_ 4), (0, .nameAndType 5 6), (0, u "com/example/chaseward/chaseward/engine/Relation$Tuples"), (0, u "this$0"), (0, u "Lcom/example/chaseward/chaseward/engine/Relation;"), (0, .methodref 8 9), (0, .class_ 10), (0, .nameAndType 11 12), (0, u "com/example/chaseward/chaseward/engine/RowTable"), (0, u "<init>"), (0, u "(Z)V"), (1, .class_ 16), (1, u "com/example/chaseward/chaseward/engine/Relation"), (25, u "(Lcom/example/chaseward/chaseward/engine/Relation;)V")] 12

def k4c0 : Code := { maxStack := 2, maxLocals := 2, code := prog_44_method_1_code, exceptionTable := #[], attributes := #[] }
def k4m0 : Method := { name := "<init>", desc := "(Lcom/example/chaseward/chaseward/engine/Relation;)V", sig := { parameters := [(.object "com/example/chaseward/chaseward/engine/Relation")], returnType := none }, accessFlags := 0, code := some k4c0 }
/-- com/example/chaseward/chaseward/engine/Relation$Tuples -/
def k4 : Class := { plain "com/example/chaseward/chaseward/engine/Relation$Tuples" (some 3) with
  accessFlags := 48
  interfaces := #[]
  cf := some (fileOf pool4 2 #[.nestHost 14] #[{ accessFlags := 0, nameIndex := 11, descriptorIndex := 42, attributes := #[] }] 48 8 #[] #[{ accessFlags := 4112, nameIndex := 5, descriptorIndex := 6, attributes := #[] }])
  fields := #[{ name := "this$0", type := (.object "com/example/chaseward/chaseward/engine/Relation"), accessFlags := 4112, slot := 4, constantValue := 0 }]
  methods := #[k4m0]
  instanceTypes := #[.boolean, (.array .int), .int, .int, (.object "com/example/chaseward/chaseward/engine/Relation")]
  staticTypes := #[]
  resolved := Array.replicate 55 none
  statics := none }

def pool5 : Array CpInfo := pool [(8, .class_ 10), (1, u "java/lang/Iterable"), (24, .class_ 36), (0, u "java/lang/Object")] 25

/-- java/lang/Iterable -/
def k5 : Class := { plain "java/lang/Iterable" (some 0) with
  accessFlags := 1537
  interfaces := #[]
  cf := some (fileOf pool5 8 #[] #[] 1537 35 #[] #[])
  fields := #[]
  methods := #[]
  instanceTypes := #[]
  staticTypes := #[]
  resolved := Array.replicate 62 none
  statics := none }

def pool6 : Array CpInfo := pool [(10, .class_ 12), (1, u "java/util/Collection"), (47, .class_ 61), (0, u "java/lang/Object"), (0, .class_ 63), (0, u "java/lang/Iterable")] 51

/-- java/util/Collection -/
def k6 : Class := { plain "java/util/Collection" (some 0) with
  accessFlags := 1537
  interfaces := #[5]
  cf := some (fileOf pool6 10 #[] #[] 1537 60 #[62] #[])
  fields := #[]
  methods := #[]
  instanceTypes := #[]
  staticTypes := #[]
  resolved := Array.replicate 115 none
  statics := none }

def pool7 : Array CpInfo := pool [(1, .methodref 2 3), (0, .class_ 4), (0, .nameAndType 5 6), (0, u "java/lang/Object"), (0, u "<init>"), (0, u "()V"), (1, .class_ 10), (1, u "java/util/AbstractCollection"), (66, .class_ 78), (0, u "java/util/Collection")] 81

def k7c0 : Code := { maxStack := 1, maxLocals := 1, code := jdk_22_method_1_code, exceptionTable := #[], attributes := #[] }
def k7m0 : Method := { name := "<init>", desc := "()V", sig := { parameters := [], returnType := none }, accessFlags := 4, code := some k7c0 }
/-- java/util/AbstractCollection -/
def k7 : Class := { plain "java/util/AbstractCollection" (some 0) with
  accessFlags := 1057
  interfaces := #[6]
  cf := some (fileOf pool7 8 #[] #[{ accessFlags := 4, nameIndex := 5, descriptorIndex := 6, attributes := #[] }] 1057 2 #[77] #[])
  fields := #[]
  methods := #[k7m0]
  instanceTypes := #[]
  staticTypes := #[]
  resolved := Array.replicate 160 none
  statics := none }

def pool8 : Array CpInfo := pool [(8, .class_ 10), (1, u "java/util/SequencedCollection"), (15, .class_ 27), (0, u "java/lang/Object"), (0, .class_ 29), (0, u "java/util/Collection")] 27

/-- java/util/SequencedCollection -/
def k8 : Class := { plain "java/util/SequencedCollection" (some 0) with
  accessFlags := 1537
  interfaces := #[6]
  cf := some (fileOf pool8 8 #[] #[] 1537 26 #[28] #[])
  fields := #[]
  methods := #[]
  instanceTypes := #[]
  staticTypes := #[]
  resolved := Array.replicate 57 none
  statics := none }

def pool9 : Array CpInfo := pool [(8, .class_ 10), (1, u "java/util/List"), (92, .class_ 104), (0, u "java/lang/Object"), (15, .class_ 121), (0, u "java/util/SequencedCollection"), (1, u "iterator"), (0, u "()Ljava/util/Iterator;")] 126

def k9m0 : Method := { name := "iterator", desc := "()Ljava/util/Iterator;", sig := { parameters := [], returnType := some (.object "java/util/Iterator") }, accessFlags := 1025, code := none }
/-- java/util/List -/
def k9 : Class := { plain "java/util/List" (some 0) with
  accessFlags := 1537
  interfaces := #[8]
  cf := some (fileOf pool9 8 #[] #[{ accessFlags := 1025, nameIndex := 123, descriptorIndex := 124, attributes := #[] }] 1537 103 #[120] #[])
  fields := #[]
  methods := #[k9m0]
  instanceTypes := #[]
  staticTypes := #[]
  resolved := Array.replicate 251 none
  statics := none }

def pool10 : Array CpInfo := pool [(1, .methodref 2 3), (0, .class_ 4), (0, .nameAndType 5 6), (0, u "java/util/AbstractCollection"), (0, u "<init>"), (0, u "()V"), (0, .fieldref 8 9), (0, .class_ 10), (0, .nameAndType 11 12), (0, u "java/util/AbstractList"), (0, u "modCount"), (0, u "I"), (64, .class_ 78), (0, u "java/util/AbstractList$Itr"), (3, .class_ 83), (0, u "java/util/AbstractList$ListItr"), (9, .class_ 94), (0, u "java/util/AbstractList$RandomAccessSubList"), (3, .class_ 99), (0, u "java/util/AbstractList$SubList"), (33, .class_ 134), (0, u "java/util/List"), (73, .class_ 209), (0, u "java/util/AbstractList$SubList$1"), (0, .class_ 211), (0, u "java/util/AbstractList$RandomAccessSpliterator")] 6

def k10c0 : Code := { maxStack := 2, maxLocals := 1, code := jdk_39_method_1_code, exceptionTable := #[], attributes := #[] }
def k10m0 : Method := { name := "<init>", desc := "()V", sig := { parameters := [], returnType := none }, accessFlags := 4, code := some k10c0 }
/-- java/util/AbstractList -/
def k10 : Class := { plain "java/util/AbstractList" (some 7) with
  accessFlags := 1057
  interfaces := #[9]
  cf := some (fileOf pool10 8 #[.nestMembers #[93, 98, 208, 210, 82, 77]] #[{ accessFlags := 4, nameIndex := 5, descriptorIndex := 6, attributes := #[] }] 1057 2 #[133] #[{ accessFlags := 132, nameIndex := 11, descriptorIndex := 12, attributes := #[] }])
  fields := #[{ name := "modCount", type := .int, accessFlags := 132, slot := 0, constantValue := 0 }]
  methods := #[k10m0]
  instanceTypes := #[.int]
  staticTypes := #[]
  resolved := Array.replicate 218 none
  statics := none }

def pool11 : Array CpInfo := pool [(1, .class_ 2), (0, u "java/util/RandomAccess"), (0, .class_ 4), (0, u "java/lang/Object")] 2

/-- java/util/RandomAccess -/
def k11 : Class := { plain "java/util/RandomAccess" (some 0) with
  accessFlags := 1537
  interfaces := #[]
  cf := some (fileOf pool11 1 #[] #[] 1537 3 #[] #[])
  fields := #[]
  methods := #[]
  instanceTypes := #[]
  staticTypes := #[]
  resolved := Array.replicate 7 none
  statics := none }

def pool12 : Array CpInfo := pool [(1, .class_ 2), (0, u "java/lang/Cloneable"), (0, .class_ 4), (0, u "java/lang/Object")] 2

/-- java/lang/Cloneable -/
def k12 : Class := { plain "java/lang/Cloneable" (some 0) with
  accessFlags := 1537
  interfaces := #[]
  cf := some (fileOf pool12 1 #[] #[] 1537 3 #[] #[])
  fields := #[]
  methods := #[]
  instanceTypes := #[]
  staticTypes := #[]
  resolved := Array.replicate 7 none
  statics := none }

def pool13 : Array CpInfo := pool [(1, .class_ 2), (0, u "java/io/Serializable"), (0, .class_ 4), (0, u "java/lang/Object")] 2

/-- java/io/Serializable -/
def k13 : Class := { plain "java/io/Serializable" (some 0) with
  accessFlags := 1537
  interfaces := #[]
  cf := some (fileOf pool13 1 #[] #[] 1537 3 #[] #[])
  fields := #[]
  methods := #[]
  instanceTypes := #[]
  staticTypes := #[]
  resolved := Array.replicate 7 none
  statics := none }

def pool14 : Array CpInfo := pool [(1, .methodref 2 3), (0, .class_ 4), (0, .nameAndType 5 6), (0, u "java/util/AbstractList"), (0, u "<init>"), (0, u "()V"), (2, .fieldref 10 11), (0, .class_ 12), (0, .nameAndType 13 14), (0, u "java/util/ArrayList"), (0, u "elementData"), (0, u "[Ljava/lang/Object;"), (2, u "EMPTY_ELEMENTDATA"), (21, .fieldref 10 40), (0, .nameAndType 41 14), (0, u "DEFAULTCAPACITY_EMPTY_ELEMENTDATA"), (8, u "size"), (0, u "I"), (96, .class_ 149), (0, u "java/util/List"), (16, u "iterator"), (0, u "()Ljava/util/Iterator;"), (94, .class_ 263), (0, u "java/util/ArrayList$ListItr"), (3, .class_ 268), (0, u "java/util/ArrayList$Itr"), (0, .methodref 267 270), (0, .nameAndType 5 271), (0, u "(Ljava/util/ArrayList;)V"), (4, .class_ 277), (0, u "java/util/ArrayList$SubList"), (12, .class_ 291), (0, u "java/util/ArrayList$ArrayListSpliterator"), (37, .class_ 330), (0, u "java/util/RandomAccess"), (0, .class_ 332), (0, u "java/lang/Cloneable"), (0, .class_ 334), (0, u "java/io/Serializable"), (0, u "serialVersionUID"), (0, u "J"), (3, u "DEFAULT_CAPACITY"), (159, .class_ 501), (0, u "java/util/ArrayList$SubList$2"), (0, .class_ 503), (0, u "java/util/ArrayList$SubList$1")] 5

def k14c0 : Code := { maxStack := 2, maxLocals := 1, code := jdk_38_method_2_code, exceptionTable := #[], attributes := #[] }
def k14m0 : Method := { name := "<init>", desc := "()V", sig := { parameters := [], returnType := none }, accessFlags := 1, code := some k14c0 }
def k14c1 : Code := { maxStack := 3, maxLocals := 1, code := jdk_38_method_55_code, exceptionTable := #[], attributes := #[] }
def k14m1 : Method := { name := "iterator", desc := "()Ljava/util/Iterator;", sig := { parameters := [], returnType := some (.object "java/util/Iterator") }, accessFlags := 1, code := some k14c1 }
/-- java/util/ArrayList -/
def k14 : Class := { plain "java/util/ArrayList" (some 10) with
  accessFlags := 33
  interfaces := #[9, 11, 12, 13]
  cf := some (fileOf pool14 10 #[.nestMembers #[290, 276, 500, 502, 262, 267]] #[{ accessFlags := 1, nameIndex := 5, descriptorIndex := 6, attributes := #[] }, { accessFlags := 1, nameIndex := 166, descriptorIndex := 167, attributes := #[] }] 33 2 #[148, 329, 331, 333] #[{ accessFlags := 26, nameIndex := 335, descriptorIndex := 336, attributes := #[] }, { accessFlags := 26, nameIndex := 340, descriptorIndex := 51, attributes := #[] }, { accessFlags := 26, nameIndex := 17, descriptorIndex := 14, attributes := #[] }, { accessFlags := 26, nameIndex := 41, descriptorIndex := 14, attributes := #[] }, { accessFlags := 128, nameIndex := 13, descriptorIndex := 14, attributes := #[] }, { accessFlags := 2, nameIndex := 50, descriptorIndex := 51, attributes := #[] }])
  fields := #[{ name := "serialVersionUID", type := .long, accessFlags := 26, slot := 0, constantValue := 0 }, { name := "DEFAULT_CAPACITY", type := .int, accessFlags := 26, slot := 1, constantValue := 0 }, { name := "EMPTY_ELEMENTDATA", type := (.array (.object "java/lang/Object")), accessFlags := 26, slot := 2, constantValue := 0 }, { name := "DEFAULTCAPACITY_EMPTY_ELEMENTDATA", type := (.array (.object "java/lang/Object")), accessFlags := 26, slot := 3, constantValue := 0 }, { name := "elementData", type := (.array (.object "java/lang/Object")), accessFlags := 128, slot := 1, constantValue := 0 }, { name := "size", type := .int, accessFlags := 2, slot := 2, constantValue := 0 }]
  methods := #[k14m0, k14m1]
  instanceTypes := #[.int, (.array (.object "java/lang/Object")), .int]
  staticTypes := #[.long, .int, (.array (.object "java/lang/Object")), (.array (.object "java/lang/Object"))]
  resolved := Array.replicate 509 none
  statics := some 0 }

def pool15 : Array CpInfo := pool [(1, .methodref 2 3), (0, .class_ 4), (0, .nameAndType 5 6), (0, u "java/lang/Object"), (0, u "<init>"), (0, u "()V"), (0, .class_ 8), (0, u "[I"), (0, .fieldref 10 11), (0, .class_ 12), (0, .nameAndType 13 14), (0, u "com/example/chaseward/chaseward/engine/RowValues"), (0, u "wide"), (0, u "[[I"), (0, .class_ 16), (0, u "[C"), (0, .fieldref 10 18), (0, .nameAndType 19 20), (0, u "narrow"), (0, u "[[C"), (0, .fieldref 10 22), (0, .nameAndType 23 24), (0, u "arity"), (0, u "I"), (0, .fieldref 10 26), (0, .nameAndType 27 8), (0, u "bases"), (0, .fieldref 10 29), (0, .nameAndType 30 8), (0, u "lowest"), (0, .fieldref 10 32), (0, .nameAndType 33 8), (0, u "highest"), (0, .fieldref 10 35), (0, .nameAndType 36 24), (0, u "rows"), (0, .fieldref 10 38), (0, .nameAndType 39 24), (0, u "CHUNK_SHIFT"), (0, .methodref 10 41), (0, .nameAndType 42 43), (0, u "start"), (0, u "(I[I)V"), (0, .methodref 10 45), (0, .nameAndType 46 47), (0, u "makeRoom"), (0, u "(II)V"), (0, .methodref 10 49), (0, .nameAndType 50 51), (0, u "fit"), (0, u "(II[I)V"), (11, .methodref 10 64), (0, .nameAndType 65 66), (0, u "base"), (0, u "(II)I"), (0, .methodref 68 69), (0, .class_ 70), (0, .nameAndType 71 72), (0, u "java/lang/System"), (0, u "arraycopy"), (0, u "(Ljava/lang/Object;ILjava/lang/Object;II)V"), (0, .methodref 74 75), (0, .class_ 76), (0, .nameAndType 77 66), (0, u "java/lang/Math"), (0, u "min"), (3, .methodref 74 82), (0, .nameAndType 83 66), (0, u "max"), (0, .long 65536), (1, .methodref 10 87), (0, .nameAndType 88 47), (0, u "widen"), (0, .long 65535), (3, .long 18446744071562067968), (1, .long 2), (1, .methodref 74 98), (0, .nameAndType 83 99), (0, u "(JJ)J"), (0, .methodref 10 101), (0, .nameAndType 102 66), (0, u "get"), (4, u "CHUNK_ROWS"), (2, u "SPAN"), (1, u "(I)V"), (4, u "add"), (0, u "([I)V")] 3

def k15c0 : Code := { maxStack := 4, maxLocals := 2, code := prog_48_method_1_code, exceptionTable := #[], attributes := #[] }
def k15m0 : Method := { name := "<init>", desc := "(I)V", sig := { parameters := [.int], returnType := none }, accessFlags := 0, code := some k15c0 }
def k15c1 : Code := { maxStack := 3, maxLocals := 6, code := prog_48_method_3_code, exceptionTable := #[], attributes := #[] }
def k15m1 : Method := { name := "get", desc := "(II)I", sig := { parameters := [.int, .int], returnType := some .int }, accessFlags := 0, code := some k15c1 }
def k15c2 : Code := { maxStack := 6, maxLocals := 7, code := prog_48_method_4_code, exceptionTable := #[], attributes := #[] }
def k15m2 : Method := { name := "add", desc := "([I)V", sig := { parameters := [(.array .int)], returnType := none }, accessFlags := 0, code := some k15c2 }
def k15c3 : Code := { maxStack := 5, maxLocals := 4, code := prog_48_method_5_code, exceptionTable := #[], attributes := #[] }
def k15m3 : Method := { name := "start", desc := "(I[I)V", sig := { parameters := [.int, (.array .int)], returnType := none }, accessFlags := 2, code := some k15c3 }
def k15c4 : Code := { maxStack := 4, maxLocals := 5, code := prog_48_method_6_code, exceptionTable := #[], attributes := #[] }
def k15m4 : Method := { name := "makeRoom", desc := "(II)V", sig := { parameters := [.int, .int], returnType := none }, accessFlags := 2, code := some k15c4 }
def k15c5 : Code := { maxStack := 5, maxLocals := 11, code := prog_48_method_7_code, exceptionTable := #[], attributes := #[] }
def k15m5 : Method := { name := "fit", desc := "(II[I)V", sig := { parameters := [.int, .int, (.array .int)], returnType := none }, accessFlags := 2, code := some k15c5 }
def k15c6 : Code := { maxStack := 8, maxLocals := 4, code := prog_48_method_8_code, exceptionTable := #[], attributes := #[] }
def k15m6 : Method := { name := "base", desc := "(II)I", sig := { parameters := [.int, .int], returnType := some .int }, accessFlags := 10, code := some k15c6 }
def k15c7 : Code := { maxStack := 5, maxLocals := 6, code := prog_48_method_9_code, exceptionTable := #[], attributes := #[] }
def k15m7 : Method := { name := "widen", desc := "(II)V", sig := { parameters := [.int, .int], returnType := none }, accessFlags := 2, code := some k15c7 }
/-- com/example/chaseward/chaseward/engine/RowValues -/
def k15 : Class := { plain "com/example/chaseward/chaseward/engine/RowValues" (some 0) with
  accessFlags := 48
  interfaces := #[]
  cf := some (fileOf pool15 10 #[] #[{ accessFlags := 0, nameIndex := 5, descriptorIndex := 112, attributes := #[] }, { accessFlags := 0, nameIndex := 102, descriptorIndex := 66, attributes := #[] }, { accessFlags := 0, nameIndex := 117, descriptorIndex := 118, attributes := #[] }, { accessFlags := 2, nameIndex := 42, descriptorIndex := 43, attributes := #[] }, { accessFlags := 2, nameIndex := 46, descriptorIndex := 47, attributes := #[] }, { accessFlags := 2, nameIndex := 50, descriptorIndex := 51, attributes := #[] }, { accessFlags := 10, nameIndex := 65, descriptorIndex := 66, attributes := #[] }, { accessFlags := 2, nameIndex := 88, descriptorIndex := 47, attributes := #[] }] 48 2 #[] #[{ accessFlags := 26, nameIndex := 107, descriptorIndex := 24, attributes := #[] }, { accessFlags := 26, nameIndex := 39, descriptorIndex := 24, attributes := #[] }, { accessFlags := 26, nameIndex := 110, descriptorIndex := 24, attributes := #[] }, { accessFlags := 18, nameIndex := 23, descriptorIndex := 24, attributes := #[] }, { accessFlags := 2, nameIndex := 36, descriptorIndex := 24, attributes := #[] }, { accessFlags := 2, nameIndex := 13, descriptorIndex := 14, attributes := #[] }, { accessFlags := 2, nameIndex := 19, descriptorIndex := 20, attributes := #[] }, { accessFlags := 2, nameIndex := 27, descriptorIndex := 8, attributes := #[] }, { accessFlags := 18, nameIndex := 30, descriptorIndex := 8, attributes := #[] }, { accessFlags := 18, nameIndex := 33, descriptorIndex := 8, attributes := #[] }])
  fields := #[{ name := "CHUNK_ROWS", type := .int, accessFlags := 26, slot := 0, constantValue := 0 }, { name := "CHUNK_SHIFT", type := .int, accessFlags := 26, slot := 1, constantValue := 0 }, { name := "SPAN", type := .int, accessFlags := 26, slot := 2, constantValue := 0 }, { name := "arity", type := .int, accessFlags := 18, slot := 0, constantValue := 0 }, { name := "rows", type := .int, accessFlags := 2, slot := 1, constantValue := 0 }, { name := "wide", type := (.array (.array .int)), accessFlags := 2, slot := 2, constantValue := 0 }, { name := "narrow", type := (.array (.array .char)), accessFlags := 2, slot := 3, constantValue := 0 }, { name := "bases", type := (.array .int), accessFlags := 2, slot := 4, constantValue := 0 }, { name := "lowest", type := (.array .int), accessFlags := 18, slot := 5, constantValue := 0 }, { name := "highest", type := (.array .int), accessFlags := 18, slot := 6, constantValue := 0 }]
  methods := #[k15m0, k15m1, k15m2, k15m3, k15m4, k15m5, k15m6, k15m7]
  instanceTypes := #[.int, .int, (.array (.array .int)), (.array (.array .char)), (.array .int), (.array .int), (.array .int)]
  staticTypes := #[.int, .int, .int]
  resolved := Array.replicate 122 none
  statics := some 1 }

def pool16 : Array CpInfo := pool [(2, .class_ 4), (1, u "java/lang/Object"), (0, u "<init>"), (0, u "()V"), (0, .integer 2654435769), (0, .methodref 9 10), (0, .class_ 11), (0, .nameAndType 12 13), (0, u "com/example/chaseward/chaseward/engine/Hashing"), (0, u "add"), (0, u "(II)I"), (2, u "of"), (0, u "([I)I")] 6

def k16m0 : Method := { name := "<init>", desc := "()V", sig := { parameters := [], returnType := none }, accessFlags := 2, code := none }
def k16c1 : Code := { maxStack := 2, maxLocals := 2, code := prog_33_method_2_code, exceptionTable := #[], attributes := #[] }
def k16m1 : Method := { name := "add", desc := "(II)I", sig := { parameters := [.int, .int], returnType := some .int }, accessFlags := 8, code := some k16c1 }
def k16c2 : Code := { maxStack := 2, maxLocals := 6, code := prog_33_method_3_code, exceptionTable := #[], attributes := #[] }
def k16m2 : Method := { name := "of", desc := "([I)I", sig := { parameters := [(.array .int)], returnType := some .int }, accessFlags := 8, code := some k16c2 }
/-- com/example/chaseward/chaseward/engine/Hashing -/
def k16 : Class := { plain "com/example/chaseward/chaseward/engine/Hashing" (some 0) with
  accessFlags := 48
  interfaces := #[]
  cf := some (fileOf pool16 9 #[] #[{ accessFlags := 2, nameIndex := 5, descriptorIndex := 6, attributes := #[] }, { accessFlags := 8, nameIndex := 12, descriptorIndex := 13, attributes := #[] }, { accessFlags := 8, nameIndex := 16, descriptorIndex := 17, attributes := #[] }] 48 2 #[] #[])
  fields := #[]
  methods := #[k16m0, k16m1, k16m2]
  instanceTypes := #[]
  staticTypes := #[]
  resolved := Array.replicate 24 none
  statics := none }

def pool17 : Array CpInfo := pool [(2, .class_ 4), (1, u "java/lang/Object"), (0, u "<init>"), (0, u "()V"), (1, .class_ 10), (1, u "java/lang/Number"), (2, .class_ 14), (0, u "java/io/Serializable"), (0, u "serialVersionUID"), (0, u "J")] 20

def k17m0 : Method := { name := "<init>", desc := "()V", sig := { parameters := [], returnType := none }, accessFlags := 1, code := none }
/-- java/lang/Number -/
def k17 : Class := { plain "java/lang/Number" (some 0) with
  accessFlags := 1057
  interfaces := #[13]
  cf := some (fileOf pool17 8 #[] #[{ accessFlags := 1, nameIndex := 5, descriptorIndex := 6, attributes := #[] }] 1057 2 #[13] #[{ accessFlags := 26, nameIndex := 15, descriptorIndex := 16, attributes := #[] }])
  fields := #[{ name := "serialVersionUID", type := .long, accessFlags := 26, slot := 0, constantValue := 0 }]
  methods := #[k17m0]
  instanceTypes := #[]
  staticTypes := #[.long]
  resolved := Array.replicate 37 none
  statics := none }

def pool18 : Array CpInfo := pool [(1, .class_ 2), (0, u "java/lang/Comparable"), (0, .class_ 4), (0, u "java/lang/Object")] 7

/-- java/lang/Comparable -/
def k18 : Class := { plain "java/lang/Comparable" (some 0) with
  accessFlags := 1537
  interfaces := #[]
  cf := some (fileOf pool18 1 #[] #[] 1537 3 #[] #[])
  fields := #[]
  methods := #[]
  instanceTypes := #[]
  staticTypes := #[]
  resolved := Array.replicate 12 none
  statics := none }

def pool19 : Array CpInfo := pool [(1, .class_ 2), (0, u "java/lang/constant/Constable"), (0, .class_ 4), (0, u "java/lang/Object")] 6

/-- java/lang/constant/Constable -/
def k19 : Class := { plain "java/lang/constant/Constable" (some 0) with
  accessFlags := 1537
  interfaces := #[]
  cf := some (fileOf pool19 1 #[] #[] 1537 3 #[] #[])
  fields := #[]
  methods := #[]
  instanceTypes := #[]
  staticTypes := #[]
  resolved := Array.replicate 11 none
  statics := none }

def pool20 : Array CpInfo := pool [(1, .class_ 2), (0, u "java/lang/constant/ConstantDesc"), (0, .class_ 4), (0, u "java/lang/Object")] 32

/-- java/lang/constant/ConstantDesc -/
def k20 : Class := { plain "java/lang/constant/ConstantDesc" (some 0) with
  accessFlags := 1537
  interfaces := #[]
  cf := some (fileOf pool20 1 #[] #[] 1537 3 #[] #[])
  fields := #[]
  methods := #[]
  instanceTypes := #[]
  staticTypes := #[]
  resolved := Array.replicate 37 none
  statics := none }

def pool21 : Array CpInfo := pool [(1, .class_ 2), (0, u "java/lang/Integer"), (16, u "digits"), (0, u "[C"), (33, u "(I)I"), (30, u "DigitOnes"), (0, u "[B"), (2, u "DigitTens"), (99, .class_ 190), (0, u "java/lang/Integer$IntegerCache"), (3, u "I"), (8, .class_ 204), (0, u "java/lang/Number"), (2, u "value"), (56, .integer 65536), (37, u "TYPE"), (0, u "Ljava/lang/Class;"), (0, .class_ 305), (0, u "java/lang/Comparable"), (0, .class_ 307), (0, u "java/lang/constant/Constable"), (0, .class_ 309), (0, u "java/lang/constant/ConstantDesc"), (0, u "MIN_VALUE"), (1, u "MAX_VALUE"), (3, u "SIZE"), (1, u "BYTES"), (1, u "serialVersionUID"), (0, u "J"), (84, u "numberOfTrailingZeros")] 46

def k21c0 : Code := { maxStack := 3, maxLocals := 2, code := jdk_33_method_48_code, exceptionTable := #[], attributes := #[] }
def k21m0 : Method := { name := "numberOfTrailingZeros", desc := "(I)I", sig := { parameters := [.int], returnType := some .int }, accessFlags := 9, code := some k21c0 }
/-- java/lang/Integer -/
def k21 : Class := { plain "java/lang/Integer" (some 17) with
  accessFlags := 49
  interfaces := #[18, 19, 20]
  cf := some (fileOf pool21 1 #[.nestMembers #[189]] #[{ accessFlags := 9, nameIndex := 406, descriptorIndex := 54, attributes := #[] }] 49 203 #[304, 306, 308] #[{ accessFlags := 25, nameIndex := 310, descriptorIndex := 194, attributes := #[] }, { accessFlags := 25, nameIndex := 312, descriptorIndex := 194, attributes := #[] }, { accessFlags := 25, nameIndex := 302, descriptorIndex := 303, attributes := #[] }, { accessFlags := 24, nameIndex := 19, descriptorIndex := 20, attributes := #[] }, { accessFlags := 24, nameIndex := 89, descriptorIndex := 86, attributes := #[] }, { accessFlags := 24, nameIndex := 85, descriptorIndex := 86, attributes := #[] }, { accessFlags := 18, nameIndex := 207, descriptorIndex := 194, attributes := #[] }, { accessFlags := 25, nameIndex := 316, descriptorIndex := 194, attributes := #[] }, { accessFlags := 25, nameIndex := 318, descriptorIndex := 194, attributes := #[] }, { accessFlags := 26, nameIndex := 320, descriptorIndex := 321, attributes := #[] }])
  fields := #[{ name := "MIN_VALUE", type := .int, accessFlags := 25, slot := 0, constantValue := 0 }, { name := "MAX_VALUE", type := .int, accessFlags := 25, slot := 1, constantValue := 0 }, { name := "TYPE", type := (.object "java/lang/Class"), accessFlags := 25, slot := 2, constantValue := 0 }, { name := "digits", type := (.array .char), accessFlags := 24, slot := 3, constantValue := 0 }, { name := "DigitTens", type := (.array .byte), accessFlags := 24, slot := 4, constantValue := 0 }, { name := "DigitOnes", type := (.array .byte), accessFlags := 24, slot := 5, constantValue := 0 }, { name := "value", type := .int, accessFlags := 18, slot := 0, constantValue := 0 }, { name := "SIZE", type := .int, accessFlags := 25, slot := 6, constantValue := 0 }, { name := "BYTES", type := .int, accessFlags := 25, slot := 7, constantValue := 0 }, { name := "serialVersionUID", type := .long, accessFlags := 26, slot := 8, constantValue := 0 }]
  methods := #[k21m0]
  instanceTypes := #[.int]
  staticTypes := #[.int, .int, (.object "java/lang/Class"), (.array .char), (.array .byte), (.array .byte), .int, .int, .long]
  resolved := Array.replicate 453 none
  statics := none }

def pool22 : Array CpInfo := pool [(1, .class_ 2), (0, u "java/lang/Math"), (1, .class_ 6), (1, u "java/lang/Object"), (0, u "<init>"), (0, u "()V"), (89, .class_ 100), (1, u "java/lang/Math$RandomNumberGeneratorHolder"), (20, u "(JJ)J"), (50, u "negativeZeroFloatBits"), (0, u "J"), (2, u "negativeZeroDoubleBits"), (21, u "max"), (2, u "min"), (43, u "$assertionsDisabled"), (0, u "Z"), (88, u "(II)I"), (2, u "twoToTheDoubleScaleDown"), (0, u "D"), (4, u "twoToTheDoubleScaleUp"), (9, u "E"), (3, u "PI"), (2, u "TAU"), (2, u "DEGREES_TO_RADIANS"), (0, u "RADIANS_TO_DEGREES")] 94

def k22m0 : Method := { name := "<init>", desc := "()V", sig := { parameters := [], returnType := none }, accessFlags := 2, code := none }
def k22c1 : Code := { maxStack := 2, maxLocals := 2, code := jdk_29_method_65_code, exceptionTable := #[], attributes := #[] }
def k22m1 : Method := { name := "max", desc := "(II)I", sig := { parameters := [.int, .int], returnType := some .int }, accessFlags := 9, code := some k22c1 }
def k22c2 : Code := { maxStack := 4, maxLocals := 4, code := jdk_29_method_66_code, exceptionTable := #[], attributes := #[] }
def k22m2 : Method := { name := "max", desc := "(JJ)J", sig := { parameters := [.long, .long], returnType := some .long }, accessFlags := 9, code := some k22c2 }
def k22c3 : Code := { maxStack := 2, maxLocals := 2, code := jdk_29_method_69_code, exceptionTable := #[], attributes := #[] }
def k22m3 : Method := { name := "min", desc := "(II)I", sig := { parameters := [.int, .int], returnType := some .int }, accessFlags := 9, code := some k22c3 }
/-- java/lang/Math -/
def k22 : Class := { plain "java/lang/Math" (some 0) with
  accessFlags := 49
  interfaces := #[]
  cf := some (fileOf pool22 1 #[.nestMembers #[98]] #[{ accessFlags := 2, nameIndex := 7, descriptorIndex := 8, attributes := #[] }, { accessFlags := 9, nameIndex := 198, descriptorIndex := 335, attributes := #[] }, { accessFlags := 9, nameIndex := 198, descriptorIndex := 121, attributes := #[] }, { accessFlags := 9, nameIndex := 201, descriptorIndex := 335, attributes := #[] }] 49 4 #[] #[{ accessFlags := 25, nameIndex := 354, descriptorIndex := 339, attributes := #[] }, { accessFlags := 25, nameIndex := 358, descriptorIndex := 339, attributes := #[] }, { accessFlags := 25, nameIndex := 361, descriptorIndex := 339, attributes := #[] }, { accessFlags := 26, nameIndex := 364, descriptorIndex := 339, attributes := #[] }, { accessFlags := 26, nameIndex := 365, descriptorIndex := 339, attributes := #[] }, { accessFlags := 26, nameIndex := 172, descriptorIndex := 173, attributes := #[] }, { accessFlags := 26, nameIndex := 176, descriptorIndex := 173, attributes := #[] }, { accessFlags := 8, nameIndex := 344, descriptorIndex := 339, attributes := #[] }, { accessFlags := 8, nameIndex := 338, descriptorIndex := 339, attributes := #[] }, { accessFlags := 4120, nameIndex := 245, descriptorIndex := 246, attributes := #[] }])
  fields := #[{ name := "E", type := .double, accessFlags := 25, slot := 0, constantValue := 0 }, { name := "PI", type := .double, accessFlags := 25, slot := 1, constantValue := 0 }, { name := "TAU", type := .double, accessFlags := 25, slot := 2, constantValue := 0 }, { name := "DEGREES_TO_RADIANS", type := .double, accessFlags := 26, slot := 3, constantValue := 0 }, { name := "RADIANS_TO_DEGREES", type := .double, accessFlags := 26, slot := 4, constantValue := 0 }, { name := "negativeZeroFloatBits", type := .long, accessFlags := 26, slot := 5, constantValue := 0 }, { name := "negativeZeroDoubleBits", type := .long, accessFlags := 26, slot := 6, constantValue := 0 }, { name := "twoToTheDoubleScaleUp", type := .double, accessFlags := 8, slot := 7, constantValue := 0 }, { name := "twoToTheDoubleScaleDown", type := .double, accessFlags := 8, slot := 8, constantValue := 0 }, { name := "$assertionsDisabled", type := .boolean, accessFlags := 4120, slot := 9, constantValue := 0 }]
  methods := #[k22m0, k22m1, k22m2, k22m3]
  instanceTypes := #[]
  staticTypes := #[.double, .double, .double, .double, .double, .long, .long, .double, .double, .boolean]
  resolved := Array.replicate 460 none
  statics := none }

def pool23 : Array CpInfo := pool [(2, .class_ 4), (1, u "java/lang/Object"), (0, u "<init>"), (0, u "()V"), (1, .class_ 10), (1, u "java/lang/System"), (0, u "allowSecurityManager"), (0, u "I"), (16, u "cons"), (0, u "Ljava/io/Console;"), (77, .class_ 110), (1, u "java/lang/System$CallersHolder"), (43, u "initialErrStream"), (0, u "Ljava/io/PrintStream;"), (19, u "security"), (0, u "Ljava/lang/SecurityManager;"), (31, .class_ 209), (0, u "java/lang/System$1"), (7, u "props"), (0, u "Ljava/util/Properties;"), (2, u "lineSeparator"), (0, u "Ljava/lang/String;"), (96, .class_ 321), (1, u "java/lang/System$LoggerFinder"), (5, .class_ 328), (0, u "java/lang/System$Logger"), (67, u "err"), (2, u "out"), (91, u "notSupportedJnuEncoding"), (15, u "in"), (17, u "initialIn"), (0, u "Ljava/io/InputStream;"), (35, u "bootLayer"), (0, u "Ljava/lang/ModuleLayer;"), (99, .class_ 664), (0, u "java/lang/System$2"), (9, u "NEVER"), (2, u "MAYBE"), (49, u "arraycopy"), (0, u "(Ljava/lang/Object;ILjava/lang/Object;II)V"), (72, .class_ 802), (0, u "java/lang/System$Logger$Level")] 31

def k23m0 : Method := { name := "<init>", desc := "()V", sig := { parameters := [], returnType := none }, accessFlags := 2, code := none }
def k23m1 : Method := { name := "arraycopy", desc := "(Ljava/lang/Object;ILjava/lang/Object;II)V", sig := { parameters := [(.object "java/lang/Object"), .int, (.object "java/lang/Object"), .int, .int], returnType := none }, accessFlags := 265, code := none }
/-- java/lang/System -/
def k23 : Class := { plain "java/lang/System" (some 0) with
  accessFlags := 49
  interfaces := #[]
  cf := some (fileOf pool23 8 #[.nestMembers #[319, 327, 801, 108, 663, 208]] #[{ accessFlags := 2, nameIndex := 5, descriptorIndex := 6, attributes := #[] }, { accessFlags := 265, nameIndex := 727, descriptorIndex := 728, attributes := #[] }] 49 2 #[] #[{ accessFlags := 25, nameIndex := 507, descriptorIndex := 526, attributes := #[] }, { accessFlags := 25, nameIndex := 399, descriptorIndex := 155, attributes := #[] }, { accessFlags := 25, nameIndex := 396, descriptorIndex := 155, attributes := #[] }, { accessFlags := 10, nameIndex := 525, descriptorIndex := 526, attributes := #[] }, { accessFlags := 26, nameIndex := 674, descriptorIndex := 12, attributes := #[] }, { accessFlags := 26, nameIndex := 677, descriptorIndex := 12, attributes := #[] }, { accessFlags := 10, nameIndex := 11, descriptorIndex := 12, attributes := #[] }, { accessFlags := 74, nameIndex := 175, descriptorIndex := 176, attributes := #[] }, { accessFlags := 10, nameIndex := 491, descriptorIndex := 222, attributes := #[] }, { accessFlags := 74, nameIndex := 29, descriptorIndex := 30, attributes := #[] }, { accessFlags := 74, nameIndex := 154, descriptorIndex := 155, attributes := #[] }, { accessFlags := 10, nameIndex := 217, descriptorIndex := 218, attributes := #[] }, { accessFlags := 10, nameIndex := 221, descriptorIndex := 222, attributes := #[] }, { accessFlags := 8, nameIndex := 562, descriptorIndex := 563, attributes := #[] }])
  fields := #[{ name := "in", type := (.object "java/io/InputStream"), accessFlags := 25, slot := 0, constantValue := 0 }, { name := "out", type := (.object "java/io/PrintStream"), accessFlags := 25, slot := 1, constantValue := 0 }, { name := "err", type := (.object "java/io/PrintStream"), accessFlags := 25, slot := 2, constantValue := 0 }, { name := "initialIn", type := (.object "java/io/InputStream"), accessFlags := 10, slot := 3, constantValue := 0 }, { name := "NEVER", type := .int, accessFlags := 26, slot := 4, constantValue := 0 }, { name := "MAYBE", type := .int, accessFlags := 26, slot := 5, constantValue := 0 }, { name := "allowSecurityManager", type := .int, accessFlags := 10, slot := 6, constantValue := 0 }, { name := "security", type := (.object "java/lang/SecurityManager"), accessFlags := 74, slot := 7, constantValue := 0 }, { name := "notSupportedJnuEncoding", type := (.object "java/lang/String"), accessFlags := 10, slot := 8, constantValue := 0 }, { name := "cons", type := (.object "java/io/Console"), accessFlags := 74, slot := 9, constantValue := 0 }, { name := "initialErrStream", type := (.object "java/io/PrintStream"), accessFlags := 74, slot := 10, constantValue := 0 }, { name := "props", type := (.object "java/util/Properties"), accessFlags := 10, slot := 11, constantValue := 0 }, { name := "lineSeparator", type := (.object "java/lang/String"), accessFlags := 10, slot := 12, constantValue := 0 }, { name := "bootLayer", type := (.object "java/lang/ModuleLayer"), accessFlags := 8, slot := 13, constantValue := 0 }]
  methods := #[k23m0, k23m1]
  instanceTypes := #[]
  staticTypes := #[(.object "java/io/InputStream"), (.object "java/io/PrintStream"), (.object "java/io/PrintStream"), (.object "java/io/InputStream"), .int, .int, .int, (.object "java/lang/SecurityManager"), (.object "java/lang/String"), (.object "java/io/Console"), (.object "java/io/PrintStream"), (.object "java/util/Properties"), (.object "java/lang/String"), (.object "java/lang/ModuleLayer")]
  resolved := Array.replicate 834 none
  statics := none }

def pool24 : Array CpInfo := pool [(16, .class_ 18), (1, u "java/util/Iterator"), (0, u "hasNext"), (0, u "()Z"), (10, .class_ 32), (0, u "java/lang/Object")] 20

def k24m0 : Method := { name := "hasNext", desc := "()Z", sig := { parameters := [], returnType := some .boolean }, accessFlags := 1025, code := none }
/-- java/util/Iterator -/
def k24 : Class := { plain "java/util/Iterator" (some 0) with
  accessFlags := 1537
  interfaces := #[]
  cf := some (fileOf pool24 16 #[] #[{ accessFlags := 1025, nameIndex := 19, descriptorIndex := 20, attributes := #[] }] 1537 31 #[] #[])
  fields := #[]
  methods := #[k24m0]
  instanceTypes := #[]
  staticTypes := #[]
  resolved := Array.replicate 53 none
  statics := none }

def pool25 : Array CpInfo := pool [(1, .fieldref 2 3), (0, .class_ 4), (0, .nameAndType 5 6), (0, u "java/util/ArrayList$Itr"), (0, u "this$0"), (0, u "Ljava/util/ArrayList;"), (0, .methodref 8 9), (0, .class_ 10), (0, .nameAndType 11 12), (0, u "java/lang/Object"), (0, u "<init>"), (0, u "()V"), (0, .fieldref 2 14), (0, .nameAndType 15 16), (0, u "lastRet"), (0, u "I"), (0, .fieldref 18 19), (0, .class_ 20), (0, .nameAndType 21 16), (0, u "java/util/ArrayList"), (0, u "modCount"), (0, .fieldref 2 23), (0, .nameAndType 24 16), (0, u "expectedModCount"), (0, .fieldref 2 26), (0, .nameAndType 27 16), (0, u "cursor"), (0, .fieldref 18 29), (0, .nameAndType 30 16), (0, u "size"), (38, .class_ 70), (0, u "java/util/Iterator"), (0, u "(Ljava/util/ArrayList;)V"), (8, u "hasNext"), (0, u "()Z")] 22

def k25c0 : Code := { maxStack := 2, maxLocals := 2, code := jdk_49_method_1_code, exceptionTable := #[], attributes := #[] }
def k25m0 : Method := { name := "<init>", desc := "(Ljava/util/ArrayList;)V", sig := { parameters := [(.object "java/util/ArrayList")], returnType := none }, accessFlags := 0, code := some k25c0 }
def k25c1 : Code := { maxStack := 2, maxLocals := 1, code := jdk_49_method_2_code, exceptionTable := #[], attributes := #[] }
def k25m1 : Method := { name := "hasNext", desc := "()Z", sig := { parameters := [], returnType := some .boolean }, accessFlags := 1, code := some k25c1 }
/-- java/util/ArrayList$Itr -/
def k25 : Class := { plain "java/util/ArrayList$Itr" (some 0) with
  accessFlags := 32
  interfaces := #[24]
  cf := some (fileOf pool25 2 #[.nestHost 18] #[{ accessFlags := 0, nameIndex := 11, descriptorIndex := 71, attributes := #[] }, { accessFlags := 1, nameIndex := 80, descriptorIndex := 81, attributes := #[] }] 32 8 #[69] #[{ accessFlags := 0, nameIndex := 27, descriptorIndex := 16, attributes := #[] }, { accessFlags := 0, nameIndex := 15, descriptorIndex := 16, attributes := #[] }, { accessFlags := 0, nameIndex := 24, descriptorIndex := 16, attributes := #[] }, { accessFlags := 4112, nameIndex := 5, descriptorIndex := 6, attributes := #[] }])
  fields := #[{ name := "cursor", type := .int, accessFlags := 0, slot := 0, constantValue := 0 }, { name := "lastRet", type := .int, accessFlags := 0, slot := 1, constantValue := 0 }, { name := "expectedModCount", type := .int, accessFlags := 0, slot := 2, constantValue := 0 }, { name := "this$0", type := (.object "java/util/ArrayList"), accessFlags := 4112, slot := 3, constantValue := 0 }]
  methods := #[k25m0, k25m1]
  instanceTypes := #[.int, .int, .int, (.object "java/util/ArrayList")]
  staticTypes := #[]
  resolved := Array.replicate 104 none
  statics := none }

def pool26 : Array CpInfo := pool [(2, .class_ 4), (1, u "java/lang/Object"), (0, u "<init>"), (0, u "()V"), (4, .class_ 13), (1, u "com/example/chaseward/chaseward/engine/Dictionary"), (0, u "numbers"), (0, u "Ljava/util/Map;"), (5, u "values"), (0, u "Ljava/util/List;"), (2, u "skolemNulls"), (0, .class_ 27), (0, u "com/example/chaseward/chaseward/engine/Dictionary$SkolemKey"), (2, u "keys"), (0, u "[Lcom/example/chaseward/chaseward/engine/Dictionary$SkolemKey;"), (5, u "replacedSkolemNulls"), (0, u "Ljava/util/BitSet;"), (2, u "formerKeys"), (62, u "nulls"), (0, u "I"), (27, u "keysOfNull"), (0, u "Lcom/example/chaseward/chaseward/engine/NullLists;"), (10, .class_ 146), (0, u "com/example/chaseward/chaseward/engine/Dictionary$Rewriting"), (35, u "isNull"), (0, u "(I)Z"), (38, u "OWN_NUMBERS"), (24, .class_ 248), (0, u "com/example/chaseward/chaseward/engine/Dictionary$Replacement")] 18

def k26m0 : Method := { name := "<init>", desc := "()V", sig := { parameters := [], returnType := none }, accessFlags := 0, code := none }
def k26c1 : Code := { maxStack := 1, maxLocals := 1, code := prog_19_method_17_code, exceptionTable := #[], attributes := #[] }
def k26m1 : Method := { name := "isNull", desc := "(I)Z", sig := { parameters := [.int], returnType := some .boolean }, accessFlags := 8, code := some k26c1 }
/-- com/example/chaseward/chaseward/engine/Dictionary -/
def k26 : Class := { plain "com/example/chaseward/chaseward/engine/Dictionary" (some 0) with
  accessFlags := 48
  interfaces := #[]
  cf := some (fileOf pool26 11 #[.nestMembers #[145, 247, 26]] #[{ accessFlags := 0, nameIndex := 5, descriptorIndex := 6, attributes := #[] }, { accessFlags := 8, nameIndex := 182, descriptorIndex := 183, attributes := #[] }] 48 2 #[] #[{ accessFlags := 26, nameIndex := 222, descriptorIndex := 105, attributes := #[] }, { accessFlags := 18, nameIndex := 14, descriptorIndex := 15, attributes := #[] }, { accessFlags := 18, nameIndex := 21, descriptorIndex := 22, attributes := #[] }, { accessFlags := 18, nameIndex := 25, descriptorIndex := 15, attributes := #[] }, { accessFlags := 2, nameIndex := 30, descriptorIndex := 31, attributes := #[] }, { accessFlags := 18, nameIndex := 37, descriptorIndex := 38, attributes := #[] }, { accessFlags := 2, nameIndex := 133, descriptorIndex := 134, attributes := #[] }, { accessFlags := 18, nameIndex := 41, descriptorIndex := 15, attributes := #[] }, { accessFlags := 2, nameIndex := 104, descriptorIndex := 105, attributes := #[] }])
  fields := #[{ name := "OWN_NUMBERS", type := .int, accessFlags := 26, slot := 0, constantValue := 0 }, { name := "numbers", type := (.object "java/util/Map"), accessFlags := 18, slot := 0, constantValue := 0 }, { name := "values", type := (.object "java/util/List"), accessFlags := 18, slot := 1, constantValue := 0 }, { name := "skolemNulls", type := (.object "java/util/Map"), accessFlags := 18, slot := 2, constantValue := 0 }, { name := "keys", type := (.array (.object "com/example/chaseward/chaseward/engine/Dictionary$SkolemKey")), accessFlags := 2, slot := 3, constantValue := 0 }, { name := "replacedSkolemNulls", type := (.object "java/util/BitSet"), accessFlags := 18, slot := 4, constantValue := 0 }, { name := "keysOfNull", type := (.object "com/example/chaseward/chaseward/engine/NullLists"), accessFlags := 2, slot := 5, constantValue := 0 }, { name := "formerKeys", type := (.object "java/util/Map"), accessFlags := 18, slot := 6, constantValue := 0 }, { name := "nulls", type := .int, accessFlags := 2, slot := 7, constantValue := 0 }]
  methods := #[k26m0, k26m1]
  instanceTypes := #[(.object "java/util/Map"), (.object "java/util/List"), (.object "java/util/Map"), (.array (.object "com/example/chaseward/chaseward/engine/Dictionary$SkolemKey")), (.object "java/util/BitSet"), (.object "com/example/chaseward/chaseward/engine/NullLists"), (.object "java/util/Map"), .int]
  staticTypes := #[.int]
  resolved := Array.replicate 267 none
  statics := none }

/-- the primitive byte -/
def k27 : Class := { plain "byte" none with kind := .primitive 'B', accessFlags := 0x411 }
/-- [B -/
def k28 : Class := { plain "[B" (some 0) with kind := .array 27 .byte, interfaces := #[12, 13], accessFlags := 1041 }

/-- the primitive char -/
def k29 : Class := { plain "char" none with kind := .primitive 'C', accessFlags := 0x411 }
/-- [C -/
def k30 : Class := { plain "[C" (some 0) with kind := .array 29 .char, interfaces := #[12, 13], accessFlags := 1041 }

/-- the primitive int -/
def k31 : Class := { plain "int" none with kind := .primitive 'I', accessFlags := 0x411 }
/-- [I -/
def k32 : Class := { plain "[I" (some 0) with kind := .array 31 .int, interfaces := #[12, 13], accessFlags := 1041 }

/-- [Ljava/lang/Object; -/
def k33 : Class := { plain "[Ljava/lang/Object;" (some 0) with kind := .array 0 (.object "java/lang/Object"), interfaces := #[12, 13], accessFlags := 1041 }

/-- [[I -/
def k34 : Class := { plain "[[I" (some 0) with kind := .array 32 (.array .int), interfaces := #[12, 13], accessFlags := 1041 }
/-- [[C -/
def k35 : Class := { plain "[[C" (some 0) with kind := .array 30 (.array .char), interfaces := #[12, 13], accessFlags := 1041 }

def heap : Heap := #[{ cls := 14, slots := #[.long 0, .int 0, .ref 2, .ref 3], vm := .statics 14 },
  { cls := 15, slots := #[.int 0, .int 12, .int 0], vm := .statics 15 },
  { cls := 33, slots := #[], vm := .none },
  { cls := 33, slots := #[], vm := .none }]
def classes : Array Class := #[k0, k1, k2, k3, k4, k5, k6, k7, k8, k9, k10, k11, k12, k13, k14, k15, k16, k17, k18, k19, k20, k21, k22, k23, k24, k25, k26, k27, k28, k29, k30, k31, k32, k33, k34, k35]
def interned : List (Array UInt16 × Addr) := []
def slotsUsed : Nat := 7
def theMethod : MethodId := ⟨1, 1⟩
def args0 : Array Value := #[.int 3, .int 6, .int 1, .int 7]
def aboutOver (below : List Frame) : State where
  vm := { classes := classes, interned := interned.toArray }
  heap := heap
  slotsUsed := slotsUsed
  threads := #[{ frames := .invoking theMethod args0 :: below }]
def below0 : List Frame := [.native { method := ⟨0, 0⟩, args := #[] }]
def about1 : State := aboutOver below0
def p0 : Program := .bare "" "" ""
def e0 : Env := launch0.env 0 0 0
theorem w_frames : about1.frames = Frame.invoking theMethod args0 :: below0 := rfl
set_option maxRecDepth 65536 in
theorem w_args : argsFit about1.vm theMethod args0 = true := by decide +kernel
set_option maxRecDepth 65536 in
theorem w_heap : heapFits about1 = true := by decide +kernel
set_option maxRecDepth 65536 in
theorem w_runnable : about1.curStatus? = some .runnable := by decide +kernel
set_option maxRecDepth 65536 in
theorem w_alone : about1.alone = true := by decide +kernel
set_option maxRecDepth 65536 in
theorem w_named : about1.methodNamed? x = some theMethod := by decide +kernel
set_option maxRecDepth 65536 in
theorem w_hears : about1.hears theMethod below0 = true := by decide +kernel
set_option maxRecDepth 65536 in
theorem w_ripe : about1.ripe theMethod args0 below0 = true := by decide +kernel
theorem w_running : about1.status = .running := rfl
set_option maxRecDepth 65536 in
theorem w_room : about1.hasRoom e0.platform room_1 = true :=
  launch0.hasRoom_least _ room_1 (by decide +kernel) (by decide +kernel) (by decide +kernel) (by decide +kernel) (by decide +kernel) (by decide +kernel)
theorem allAtoms_all (ts : List Jvm.Cond) (a : Array Jvm.Value) (st : Jvm.State) : (allAtoms ts).before a st = ts.all (fun c => c.before a st) := by
  induction ts with
  | nil => rfl
  | cons c t ih =>
    show (Jvm.Cond.and c (allAtoms t)).before a st = _
    rw [Jvm.Cond.before_and, ih, List.all_cons]
def words1 : List Jvm.Cond := Jvm.Cond.code x code maxLocals ret :: tables_1
/-- a 'code' word, met by the world's own term for the bytes: nothing is compared byte by byte -/
theorem code_word {y : MethodName} {bytes : ByteArray} {mx : Nat} {rt : Option FieldType} {a : Array Value} {s : State} {m : MethodId} {meth : Method} {c : Code} (h1 : s.methodNamed? y = some m) (h2 : s.vm.method? m = some meth) (h3 : meth.code = some c) (h4 : c.code = bytes)
    (h5 : (c.maxLocals == mx && c.exceptionTable.isEmpty && decide (c.maxStack ≤ mostOperands) && decide (meth.sig.returnType = rt) && !meth.locks && decide (parseMethodDescriptor y.desc = some meth.sig)) = true) : (Jvm.Cond.code y bytes mx rt).before a s = true := by
  simp only [Bool.and_eq_true, beq_iff_eq, Bool.not_eq_true', decide_eq_true_eq] at h5
  obtain ⟨⟨⟨⟨⟨g1, g2⟩, g3⟩, g4⟩, g5⟩, g6⟩ := h5
  simp [Cond.before, Cond.holds, Cond.value, h1, h2, h3, h4, g1, g2, g3, g4, g5, g6]
def isCode : Jvm.Cond → Bool
  | .code _ _ _ _ => true
  | _ => false
theorem all_split {L : List Jvm.Cond} {P : Jvm.Cond → Bool} (h1 : L.all (fun c => isCode c || P c) = true) (h2 : ∀ c ∈ L.filter isCode, P c = true) : L.all P = true := by
  refine List.all_eq_true.mpr fun c hc => ?_
  have h := List.all_eq_true.mp h1 c hc
  rcases Bool.eq_false_or_eq_true (isCode c) with hi | hi
  · exact h2 c (List.mem_filter.mpr ⟨hc, hi⟩)
  · simpa [hi] using h
set_option maxRecDepth 65536 in
theorem w_c0 : (Jvm.Cond.code x code maxLocals ret).before args0 about1 = true := code_word (m := ⟨1, 1⟩) (meth := k1m1) (c := k1c1) (by decide +kernel) rfl rfl rfl (by decide +kernel)
set_option maxRecDepth 65536 in
theorem w_c1 : (Jvm.Cond.code ({ cls := "com/example/chaseward/chaseward/engine/Relation", name := "<init>", desc := "(I)V" } : Jvm.MethodName) prog_43_method_1_code (2 : Nat) (Option.none : Option Jvm.ClassFile.FieldType)).before args0 about1 = true := code_word (m := ⟨2, 0⟩) (meth := k2m0) (c := k2c0) (by decide +kernel) rfl rfl rfl (by decide +kernel)
set_option maxRecDepth 65536 in
theorem w_c2 : (Jvm.Cond.code ({ cls := "java/lang/Object", name := "<init>", desc := "()V" } : Jvm.MethodName) object_method_1_code (1 : Nat) (Option.none : Option Jvm.ClassFile.FieldType)).before args0 about1 = true := code_word (m := ⟨0, 0⟩) (meth := k0m0) (c := k0c0) (by decide +kernel) rfl rfl rfl (by decide +kernel)
set_option maxRecDepth 65536 in
theorem w_c3 : (Jvm.Cond.code ({ cls := "com/example/chaseward/chaseward/engine/Relation$Tuples", name := "<init>", desc := "(Lcom/example/chaseward/chaseward/engine/Relation;)V" } : Jvm.MethodName) prog_44_method_1_code (2 : Nat) (Option.none : Option Jvm.ClassFile.FieldType)).before args0 about1 = true := code_word (m := ⟨4, 0⟩) (meth := k4m0) (c := k4c0) (by decide +kernel) rfl rfl rfl (by decide +kernel)
set_option maxRecDepth 65536 in
theorem w_c4 : (Jvm.Cond.code ({ cls := "com/example/chaseward/chaseward/engine/RowTable", name := "<init>", desc := "(Z)V" } : Jvm.MethodName) prog_47_method_1_code (2 : Nat) (Option.none : Option Jvm.ClassFile.FieldType)).before args0 about1 = true := code_word (m := ⟨3, 0⟩) (meth := k3m0) (c := k3c0) (by decide +kernel) rfl rfl rfl (by decide +kernel)
set_option maxRecDepth 65536 in
theorem w_c5 : (Jvm.Cond.code ({ cls := "java/util/ArrayList", name := "<init>", desc := "()V" } : Jvm.MethodName) jdk_38_method_2_code (1 : Nat) (Option.none : Option Jvm.ClassFile.FieldType)).before args0 about1 = true := code_word (m := ⟨14, 0⟩) (meth := k14m0) (c := k14c0) (by decide +kernel) rfl rfl rfl (by decide +kernel)
set_option maxRecDepth 65536 in
theorem w_c6 : (Jvm.Cond.code ({ cls := "java/util/AbstractList", name := "<init>", desc := "()V" } : Jvm.MethodName) jdk_39_method_1_code (1 : Nat) (Option.none : Option Jvm.ClassFile.FieldType)).before args0 about1 = true := code_word (m := ⟨10, 0⟩) (meth := k10m0) (c := k10c0) (by decide +kernel) rfl rfl rfl (by decide +kernel)
set_option maxRecDepth 65536 in
theorem w_c7 : (Jvm.Cond.code ({ cls := "java/util/AbstractCollection", name := "<init>", desc := "()V" } : Jvm.MethodName) jdk_22_method_1_code (1 : Nat) (Option.none : Option Jvm.ClassFile.FieldType)).before args0 about1 = true := code_word (m := ⟨7, 0⟩) (meth := k7m0) (c := k7c0) (by decide +kernel) rfl rfl rfl (by decide +kernel)
set_option maxRecDepth 65536 in
theorem w_c8 : (Jvm.Cond.code ({ cls := "com/example/chaseward/chaseward/engine/RowValues", name := "<init>", desc := "(I)V" } : Jvm.MethodName) prog_48_method_1_code (2 : Nat) (Option.none : Option Jvm.ClassFile.FieldType)).before args0 about1 = true := code_word (m := ⟨15, 0⟩) (meth := k15m0) (c := k15c0) (by decide +kernel) rfl rfl rfl (by decide +kernel)
set_option maxRecDepth 65536 in
theorem w_c9 : (Jvm.Cond.code ({ cls := "com/example/chaseward/chaseward/engine/Relation", name := "startRoundFrom", desc := "(I)Z" } : Jvm.MethodName) prog_43_method_23_code (2 : Nat) (Option.some Jvm.ClassFile.FieldType.boolean)).before args0 about1 = true := code_word (m := ⟨2, 4⟩) (meth := k2m4) (c := k2c4) (by decide +kernel) rfl rfl rfl (by decide +kernel)
set_option maxRecDepth 65536 in
theorem w_c10 : (Jvm.Cond.code ({ cls := "com/example/chaseward/chaseward/engine/Relation", name := "deltaStart", desc := "()I" } : Jvm.MethodName) prog_43_method_25_code (1 : Nat) (Option.some Jvm.ClassFile.FieldType.int)).before args0 about1 = true := code_word (m := ⟨2, 5⟩) (meth := k2m5) (c := k2c5) (by decide +kernel) rfl rfl rfl (by decide +kernel)
set_option maxRecDepth 65536 in
theorem w_c11 : (Jvm.Cond.code ({ cls := "com/example/chaseward/chaseward/engine/Relation", name := "deltaEnd", desc := "()I" } : Jvm.MethodName) prog_43_method_26_code (1 : Nat) (Option.some Jvm.ClassFile.FieldType.int)).before args0 about1 = true := code_word (m := ⟨2, 6⟩) (meth := k2m6) (c := k2c6) (by decide +kernel) rfl rfl rfl (by decide +kernel)
set_option maxRecDepth 65536 in
theorem w_c12 : (Jvm.Cond.code ({ cls := "com/example/chaseward/chaseward/engine/Relation", name := "rows", desc := "()I" } : Jvm.MethodName) prog_43_method_3_code (1 : Nat) (Option.some Jvm.ClassFile.FieldType.int)).before args0 about1 = true := code_word (m := ⟨2, 1⟩) (meth := k2m1) (c := k2c1) (by decide +kernel) rfl rfl rfl (by decide +kernel)
set_option maxRecDepth 65536 in
theorem w_c13 : (Jvm.Cond.code ({ cls := "com/example/chaseward/chaseward/engine/Relation", name := "add", desc := "([I)Z" } : Jvm.MethodName) prog_43_method_5_code (4 : Nat) (Option.some Jvm.ClassFile.FieldType.boolean)).before args0 about1 = true := code_word (m := ⟨2, 2⟩) (meth := k2m2) (c := k2c2) (by decide +kernel) rfl rfl rfl (by decide +kernel)
set_option maxRecDepth 65536 in
theorem w_c14 : (Jvm.Cond.code ({ cls := "com/example/chaseward/chaseward/engine/Hashing", name := "of", desc := "([I)I" } : Jvm.MethodName) prog_33_method_3_code (6 : Nat) (Option.some Jvm.ClassFile.FieldType.int)).before args0 about1 = true := code_word (m := ⟨16, 2⟩) (meth := k16m2) (c := k16c2) (by decide +kernel) rfl rfl rfl (by decide +kernel)
set_option maxRecDepth 65536 in
theorem w_c15 : (Jvm.Cond.code ({ cls := "com/example/chaseward/chaseward/engine/Hashing", name := "add", desc := "(II)I" } : Jvm.MethodName) prog_33_method_2_code (2 : Nat) (Option.some Jvm.ClassFile.FieldType.int)).before args0 about1 = true := code_word (m := ⟨16, 1⟩) (meth := k16m1) (c := k16c1) (by decide +kernel) rfl rfl rfl (by decide +kernel)
set_option maxRecDepth 65536 in
theorem w_c16 : (Jvm.Cond.code ({ cls := "com/example/chaseward/chaseward/engine/RowTable", name := "find", desc := "(I)I" } : Jvm.MethodName) prog_47_method_5_code (5 : Nat) (Option.some Jvm.ClassFile.FieldType.int)).before args0 about1 = true := code_word (m := ⟨3, 1⟩) (meth := k3m1) (c := k3c1) (by decide +kernel) rfl rfl rfl (by decide +kernel)
set_option maxRecDepth 65536 in
theorem w_c17 : (Jvm.Cond.code ({ cls := "com/example/chaseward/chaseward/engine/RowTable", name := "tagOf", desc := "(I)I" } : Jvm.MethodName) prog_47_method_15_code (2 : Nat) (Option.some Jvm.ClassFile.FieldType.int)).before args0 about1 = true := code_word (m := ⟨3, 5⟩) (meth := k3m5) (c := k3c5) (by decide +kernel) rfl rfl rfl (by decide +kernel)
set_option maxRecDepth 65536 in
theorem w_c18 : (Jvm.Cond.code ({ cls := "java/lang/Integer", name := "numberOfTrailingZeros", desc := "(I)I" } : Jvm.MethodName) jdk_33_method_48_code (2 : Nat) (Option.some Jvm.ClassFile.FieldType.int)).before args0 about1 = true := code_word (m := ⟨21, 0⟩) (meth := k21m0) (c := k21c0) (by decide +kernel) rfl rfl rfl (by decide +kernel)
set_option maxRecDepth 65536 in
theorem w_c19 : (Jvm.Cond.code ({ cls := "com/example/chaseward/chaseward/engine/RowTable", name := "firstSlot", desc := "(I)I" } : Jvm.MethodName) prog_47_method_13_code (2 : Nat) (Option.some Jvm.ClassFile.FieldType.int)).before args0 about1 = true := code_word (m := ⟨3, 4⟩) (meth := k3m4) (c := k3c4) (by decide +kernel) rfl rfl rfl (by decide +kernel)
set_option maxRecDepth 65536 in
theorem w_c20 : (Jvm.Cond.code ({ cls := "com/example/chaseward/chaseward/engine/Relation", name := "append", desc := "([I)I" } : Jvm.MethodName) prog_43_method_27_code (5 : Nat) (Option.some Jvm.ClassFile.FieldType.int)).before args0 about1 = true := code_word (m := ⟨2, 7⟩) (meth := k2m7) (c := k2c7) (by decide +kernel) rfl rfl rfl (by decide +kernel)
set_option maxRecDepth 65536 in
theorem w_c21 : (Jvm.Cond.code ({ cls := "com/example/chaseward/chaseward/engine/RowValues", name := "add", desc := "([I)V" } : Jvm.MethodName) prog_48_method_4_code (7 : Nat) (Option.none : Option Jvm.ClassFile.FieldType)).before args0 about1 = true := code_word (m := ⟨15, 2⟩) (meth := k15m2) (c := k15c2) (by decide +kernel) rfl rfl rfl (by decide +kernel)
set_option maxRecDepth 65536 in
theorem w_c22 : (Jvm.Cond.code ({ cls := "com/example/chaseward/chaseward/engine/RowValues", name := "start", desc := "(I[I)V" } : Jvm.MethodName) prog_48_method_5_code (4 : Nat) (Option.none : Option Jvm.ClassFile.FieldType)).before args0 about1 = true := code_word (m := ⟨15, 3⟩) (meth := k15m3) (c := k15c3) (by decide +kernel) rfl rfl rfl (by decide +kernel)
set_option maxRecDepth 65536 in
theorem w_c23 : (Jvm.Cond.code ({ cls := "com/example/chaseward/chaseward/engine/RowValues", name := "base", desc := "(II)I" } : Jvm.MethodName) prog_48_method_8_code (4 : Nat) (Option.some Jvm.ClassFile.FieldType.int)).before args0 about1 = true := code_word (m := ⟨15, 6⟩) (meth := k15m6) (c := k15c6) (by decide +kernel) rfl rfl rfl (by decide +kernel)
set_option maxRecDepth 65536 in
theorem w_c24 : (Jvm.Cond.code ({ cls := "java/lang/Math", name := "max", desc := "(JJ)J" } : Jvm.MethodName) jdk_29_method_66_code (4 : Nat) (Option.some Jvm.ClassFile.FieldType.long)).before args0 about1 = true := code_word (m := ⟨22, 2⟩) (meth := k22m2) (c := k22c2) (by decide +kernel) rfl rfl rfl (by decide +kernel)
set_option maxRecDepth 65536 in
theorem w_c25 : (Jvm.Cond.code ({ cls := "com/example/chaseward/chaseward/engine/RowValues", name := "makeRoom", desc := "(II)V" } : Jvm.MethodName) prog_48_method_6_code (5 : Nat) (Option.none : Option Jvm.ClassFile.FieldType)).before args0 about1 = true := code_word (m := ⟨15, 4⟩) (meth := k15m4) (c := k15c4) (by decide +kernel) rfl rfl rfl (by decide +kernel)
set_option maxRecDepth 65536 in
theorem w_c26 : (Jvm.Cond.code ({ cls := "java/lang/Math", name := "min", desc := "(II)I" } : Jvm.MethodName) jdk_29_method_69_code (2 : Nat) (Option.some Jvm.ClassFile.FieldType.int)).before args0 about1 = true := code_word (m := ⟨22, 3⟩) (meth := k22m3) (c := k22c3) (by decide +kernel) rfl rfl rfl (by decide +kernel)
set_option maxRecDepth 65536 in
theorem w_c27 : (Jvm.Cond.code ({ cls := "com/example/chaseward/chaseward/engine/RowValues", name := "fit", desc := "(II[I)V" } : Jvm.MethodName) prog_48_method_7_code (11 : Nat) (Option.none : Option Jvm.ClassFile.FieldType)).before args0 about1 = true := code_word (m := ⟨15, 5⟩) (meth := k15m5) (c := k15c5) (by decide +kernel) rfl rfl rfl (by decide +kernel)
set_option maxRecDepth 65536 in
theorem w_c28 : (Jvm.Cond.code ({ cls := "java/lang/Math", name := "max", desc := "(II)I" } : Jvm.MethodName) jdk_29_method_65_code (2 : Nat) (Option.some Jvm.ClassFile.FieldType.int)).before args0 about1 = true := code_word (m := ⟨22, 1⟩) (meth := k22m1) (c := k22c1) (by decide +kernel) rfl rfl rfl (by decide +kernel)
set_option maxRecDepth 65536 in
theorem w_c29 : (Jvm.Cond.code ({ cls := "java/util/ArrayList", name := "iterator", desc := "()Ljava/util/Iterator;" } : Jvm.MethodName) jdk_38_method_55_code (1 : Nat) (Option.some (Jvm.ClassFile.FieldType.object "java/util/Iterator"))).before args0 about1 = true := code_word (m := ⟨14, 1⟩) (meth := k14m1) (c := k14c1) (by decide +kernel) rfl rfl rfl (by decide +kernel)
set_option maxRecDepth 65536 in
theorem w_c30 : (Jvm.Cond.code ({ cls := "java/util/ArrayList$Itr", name := "<init>", desc := "(Ljava/util/ArrayList;)V" } : Jvm.MethodName) jdk_49_method_1_code (2 : Nat) (Option.none : Option Jvm.ClassFile.FieldType)).before args0 about1 = true := code_word (m := ⟨25, 0⟩) (meth := k25m0) (c := k25c0) (by decide +kernel) rfl rfl rfl (by decide +kernel)
set_option maxRecDepth 65536 in
theorem w_c31 : (Jvm.Cond.code ({ cls := "java/util/ArrayList$Itr", name := "hasNext", desc := "()Z" } : Jvm.MethodName) jdk_49_method_2_code (1 : Nat) (Option.some Jvm.ClassFile.FieldType.boolean)).before args0 about1 = true := code_word (m := ⟨25, 1⟩) (meth := k25m1) (c := k25c1) (by decide +kernel) rfl rfl rfl (by decide +kernel)
set_option maxRecDepth 65536 in
theorem w_c32 : (Jvm.Cond.code ({ cls := "com/example/chaseward/chaseward/engine/Dictionary", name := "isNull", desc := "(I)Z" } : Jvm.MethodName) prog_19_method_17_code (1 : Nat) (Option.some Jvm.ClassFile.FieldType.boolean)).before args0 about1 = true := code_word (m := ⟨26, 1⟩) (meth := k26m1) (c := k26c1) (by decide +kernel) rfl rfl rfl (by decide +kernel)
set_option maxRecDepth 65536 in
theorem w_c33 : (Jvm.Cond.code ({ cls := "com/example/chaseward/chaseward/engine/RowTable", name := "insert", desc := "(III)V" } : Jvm.MethodName) prog_47_method_8_code (7 : Nat) (Option.none : Option Jvm.ClassFile.FieldType)).before args0 about1 = true := code_word (m := ⟨3, 2⟩) (meth := k3m2) (c := k3c2) (by decide +kernel) rfl rfl rfl (by decide +kernel)
set_option maxRecDepth 65536 in
theorem w_c34 : (Jvm.Cond.code ({ cls := "com/example/chaseward/chaseward/engine/RowTable", name := "fits", desc := "(I)Z" } : Jvm.MethodName) prog_47_method_9_code (2 : Nat) (Option.some Jvm.ClassFile.FieldType.boolean)).before args0 about1 = true := code_word (m := ⟨3, 3⟩) (meth := k3m3) (c := k3c3) (by decide +kernel) rfl rfl rfl (by decide +kernel)
set_option maxRecDepth 65536 in
theorem w_c35 : (Jvm.Cond.code ({ cls := "com/example/chaseward/chaseward/engine/Relation", name := "startRound", desc := "()Z" } : Jvm.MethodName) prog_43_method_22_code (1 : Nat) (Option.some Jvm.ClassFile.FieldType.boolean)).before args0 about1 = true := code_word (m := ⟨2, 3⟩) (meth := k2m3) (c := k2c3) (by decide +kernel) rfl rfl rfl (by decide +kernel)
set_option maxRecDepth 65536 in
theorem w_c36 : (Jvm.Cond.code ({ cls := "com/example/chaseward/chaseward/engine/RowValues", name := "widen", desc := "(II)V" } : Jvm.MethodName) prog_48_method_9_code (6 : Nat) (Option.none : Option Jvm.ClassFile.FieldType)).before args0 about1 = true := code_word (m := ⟨15, 7⟩) (meth := k15m7) (c := k15c7) (by decide +kernel) rfl rfl rfl (by decide +kernel)
set_option maxRecDepth 65536 in
theorem w_c37 : (Jvm.Cond.code ({ cls := "com/example/chaseward/chaseward/engine/RowValues", name := "get", desc := "(II)I" } : Jvm.MethodName) prog_48_method_3_code (6 : Nat) (Option.some Jvm.ClassFile.FieldType.int)).before args0 about1 = true := code_word (m := ⟨15, 1⟩) (meth := k15m1) (c := k15c1) (by decide +kernel) rfl rfl rfl (by decide +kernel)
def codes1 : List Jvm.Cond := [Jvm.Cond.code x code maxLocals ret, Jvm.Cond.code ({ cls := "com/example/chaseward/chaseward/engine/Relation", name := "<init>", desc := "(I)V" } : Jvm.MethodName) prog_43_method_1_code (2 : Nat) (Option.none : Option Jvm.ClassFile.FieldType), Jvm.Cond.code ({ cls := "java/lang/Object", name := "<init>", desc := "()V" } : Jvm.MethodName) object_method_1_code (1 : Nat) (Option.none : Option Jvm.ClassFile.FieldType), Jvm.Cond.code ({ cls := "com/example/chaseward/chaseward/engine/Relation$Tuples", name := "<init>", desc := "(Lcom/example/chaseward/chaseward/engine/Relation;)V" } : Jvm.MethodName) prog_44_method_1_code (2 : Nat) (Option.none : Option Jvm.ClassFile.FieldType), Jvm.Cond.code ({ cls := "com/example/chaseward/chaseward/engine/RowTable", name := "<init>", desc := "(Z)V" } : Jvm.MethodName) prog_47_method_1_code (2 : Nat) (Option.none : Option Jvm.ClassFile.FieldType), Jvm.Cond.code ({ cls := "java/util/ArrayList", name := "<init>", desc := "()V" } : Jvm.MethodName) jdk_38_method_2_code (1 : Nat) (Option.none : Option Jvm.ClassFile.FieldType), Jvm.Cond.code ({ cls := "java/util/AbstractList", name := "<init>", desc := "()V" } : Jvm.MethodName) jdk_39_method_1_code (1 : Nat) (Option.none : Option Jvm.ClassFile.FieldType), Jvm.Cond.code ({ cls := "java/util/AbstractCollection", name := "<init>", desc := "()V" } : Jvm.MethodName) jdk_22_method_1_code (1 : Nat) (Option.none : Option Jvm.ClassFile.FieldType), Jvm.Cond.code ({ cls := "com/example/chaseward/chaseward/engine/RowValues", name := "<init>", desc := "(I)V" } : Jvm.MethodName) prog_48_method_1_code (2 : Nat) (Option.none : Option Jvm.ClassFile.FieldType), Jvm.Cond.code ({ cls := "com/example/chaseward/chaseward/engine/Relation", name := "startRoundFrom", desc := "(I)Z" } : Jvm.MethodName) prog_43_method_23_code (2 : Nat) (Option.some Jvm.ClassFile.FieldType.boolean), Jvm.Cond.code ({ cls := "com/example/chaseward/chaseward/engine/Relation", name := "deltaStart", desc := "()I" } : Jvm.MethodName) prog_43_method_25_code (1 : Nat) (Option.some Jvm.ClassFile.FieldType.int), Jvm.Cond.code ({ cls := "com/example/chaseward/chaseward/engine/Relation", name := "deltaEnd", desc := "()I" } : Jvm.MethodName) prog_43_method_26_code (1 : Nat) (Option.some Jvm.ClassFile.FieldType.int), Jvm.Cond.code ({ cls := "com/example/chaseward/chaseward/engine/Relation", name := "rows", desc := "()I" } : Jvm.MethodName) prog_43_method_3_code (1 : Nat) (Option.some Jvm.ClassFile.FieldType.int), Jvm.Cond.code ({ cls := "com/example/chaseward/chaseward/engine/Relation", name := "add", desc := "([I)Z" } : Jvm.MethodName) prog_43_method_5_code (4 : Nat) (Option.some Jvm.ClassFile.FieldType.boolean), Jvm.Cond.code ({ cls := "com/example/chaseward/chaseward/engine/Hashing", name := "of", desc := "([I)I" } : Jvm.MethodName) prog_33_method_3_code (6 : Nat) (Option.some Jvm.ClassFile.FieldType.int), Jvm.Cond.code ({ cls := "com/example/chaseward/chaseward/engine/Hashing", name := "add", desc := "(II)I" } : Jvm.MethodName) prog_33_method_2_code (2 : Nat) (Option.some Jvm.ClassFile.FieldType.int), Jvm.Cond.code ({ cls := "com/example/chaseward/chaseward/engine/RowTable", name := "find", desc := "(I)I" } : Jvm.MethodName) prog_47_method_5_code (5 : Nat) (Option.some Jvm.ClassFile.FieldType.int), Jvm.Cond.code ({ cls := "com/example/chaseward/chaseward/engine/RowTable", name := "tagOf", desc := "(I)I" } : Jvm.MethodName) prog_47_method_15_code (2 : Nat) (Option.some Jvm.ClassFile.FieldType.int), Jvm.Cond.code ({ cls := "java/lang/Integer", name := "numberOfTrailingZeros", desc := "(I)I" } : Jvm.MethodName) jdk_33_method_48_code (2 : Nat) (Option.some Jvm.ClassFile.FieldType.int), Jvm.Cond.code ({ cls := "com/example/chaseward/chaseward/engine/RowTable", name := "firstSlot", desc := "(I)I" } : Jvm.MethodName) prog_47_method_13_code (2 : Nat) (Option.some Jvm.ClassFile.FieldType.int), Jvm.Cond.code ({ cls := "com/example/chaseward/chaseward/engine/Relation", name := "append", desc := "([I)I" } : Jvm.MethodName) prog_43_method_27_code (5 : Nat) (Option.some Jvm.ClassFile.FieldType.int), Jvm.Cond.code ({ cls := "com/example/chaseward/chaseward/engine/RowValues", name := "add", desc := "([I)V" } : Jvm.MethodName) prog_48_method_4_code (7 : Nat) (Option.none : Option Jvm.ClassFile.FieldType), Jvm.Cond.code ({ cls := "com/example/chaseward/chaseward/engine/RowValues", name := "start", desc := "(I[I)V" } : Jvm.MethodName) prog_48_method_5_code (4 : Nat) (Option.none : Option Jvm.ClassFile.FieldType), Jvm.Cond.code ({ cls := "com/example/chaseward/chaseward/engine/RowValues", name := "base", desc := "(II)I" } : Jvm.MethodName) prog_48_method_8_code (4 : Nat) (Option.some Jvm.ClassFile.FieldType.int), Jvm.Cond.code ({ cls := "java/lang/Math", name := "max", desc := "(JJ)J" } : Jvm.MethodName) jdk_29_method_66_code (4 : Nat) (Option.some Jvm.ClassFile.FieldType.long), Jvm.Cond.code ({ cls := "com/example/chaseward/chaseward/engine/RowValues", name := "makeRoom", desc := "(II)V" } : Jvm.MethodName) prog_48_method_6_code (5 : Nat) (Option.none : Option Jvm.ClassFile.FieldType), Jvm.Cond.code ({ cls := "java/lang/Math", name := "min", desc := "(II)I" } : Jvm.MethodName) jdk_29_method_69_code (2 : Nat) (Option.some Jvm.ClassFile.FieldType.int), Jvm.Cond.code ({ cls := "com/example/chaseward/chaseward/engine/RowValues", name := "fit", desc := "(II[I)V" } : Jvm.MethodName) prog_48_method_7_code (11 : Nat) (Option.none : Option Jvm.ClassFile.FieldType), Jvm.Cond.code ({ cls := "java/lang/Math", name := "max", desc := "(II)I" } : Jvm.MethodName) jdk_29_method_65_code (2 : Nat) (Option.some Jvm.ClassFile.FieldType.int), Jvm.Cond.code ({ cls := "java/util/ArrayList", name := "iterator", desc := "()Ljava/util/Iterator;" } : Jvm.MethodName) jdk_38_method_55_code (1 : Nat) (Option.some (Jvm.ClassFile.FieldType.object "java/util/Iterator")), Jvm.Cond.code ({ cls := "java/util/ArrayList$Itr", name := "<init>", desc := "(Ljava/util/ArrayList;)V" } : Jvm.MethodName) jdk_49_method_1_code (2 : Nat) (Option.none : Option Jvm.ClassFile.FieldType), Jvm.Cond.code ({ cls := "java/util/ArrayList$Itr", name := "hasNext", desc := "()Z" } : Jvm.MethodName) jdk_49_method_2_code (1 : Nat) (Option.some Jvm.ClassFile.FieldType.boolean), Jvm.Cond.code ({ cls := "com/example/chaseward/chaseward/engine/Dictionary", name := "isNull", desc := "(I)Z" } : Jvm.MethodName) prog_19_method_17_code (1 : Nat) (Option.some Jvm.ClassFile.FieldType.boolean), Jvm.Cond.code ({ cls := "com/example/chaseward/chaseward/engine/RowTable", name := "insert", desc := "(III)V" } : Jvm.MethodName) prog_47_method_8_code (7 : Nat) (Option.none : Option Jvm.ClassFile.FieldType), Jvm.Cond.code ({ cls := "com/example/chaseward/chaseward/engine/RowTable", name := "fits", desc := "(I)Z" } : Jvm.MethodName) prog_47_method_9_code (2 : Nat) (Option.some Jvm.ClassFile.FieldType.boolean), Jvm.Cond.code ({ cls := "com/example/chaseward/chaseward/engine/Relation", name := "startRound", desc := "()Z" } : Jvm.MethodName) prog_43_method_22_code (1 : Nat) (Option.some Jvm.ClassFile.FieldType.boolean), Jvm.Cond.code ({ cls := "com/example/chaseward/chaseward/engine/RowValues", name := "widen", desc := "(II)V" } : Jvm.MethodName) prog_48_method_9_code (6 : Nat) (Option.none : Option Jvm.ClassFile.FieldType), Jvm.Cond.code ({ cls := "com/example/chaseward/chaseward/engine/RowValues", name := "get", desc := "(II)I" } : Jvm.MethodName) prog_48_method_3_code (6 : Nat) (Option.some Jvm.ClassFile.FieldType.int)]
set_option maxRecDepth 65536 in
theorem codes_eq : words1.filter isCode = codes1 := rfl
theorem w_codes : ∀ c ∈ words1.filter isCode, c.before args0 about1 = true := by
  rw [codes_eq]
  intro c hc
  simp only [codes1, List.mem_cons, List.not_mem_nil, or_false] at hc
  rcases hc with rfl | rfl | rfl | rfl | rfl | rfl | rfl | rfl | rfl | rfl | rfl | rfl | rfl | rfl | rfl | rfl | rfl | rfl | rfl | rfl | rfl | rfl | rfl | rfl | rfl | rfl | rfl | rfl | rfl | rfl | rfl | rfl | rfl | rfl | rfl | rfl | rfl | rfl
  · exact w_c0
  · exact w_c1
  · exact w_c2
  · exact w_c3
  · exact w_c4
  · exact w_c5
  · exact w_c6
  · exact w_c7
  · exact w_c8
  · exact w_c9
  · exact w_c10
  · exact w_c11
  · exact w_c12
  · exact w_c13
  · exact w_c14
  · exact w_c15
  · exact w_c16
  · exact w_c17
  · exact w_c18
  · exact w_c19
  · exact w_c20
  · exact w_c21
  · exact w_c22
  · exact w_c23
  · exact w_c24
  · exact w_c25
  · exact w_c26
  · exact w_c27
  · exact w_c28
  · exact w_c29
  · exact w_c30
  · exact w_c31
  · exact w_c32
  · exact w_c33
  · exact w_c34
  · exact w_c35
  · exact w_c36
  · exact w_c37
set_option maxRecDepth 65536 in
theorem w_t1 : (words1.take 24).all (fun c => isCode c || c.before args0 about1) = true := by decide +kernel
set_option maxRecDepth 65536 in
theorem w_t2 : ((words1.drop 24).take 24).all (fun c => isCode c || c.before args0 about1) = true := by decide +kernel
set_option maxRecDepth 65536 in
theorem w_t3 : (((words1.drop 24).drop 24).take 24).all (fun c => isCode c || c.before args0 about1) = true := by decide +kernel
set_option maxRecDepth 65536 in
theorem w_t4 : ((((words1.drop 24).drop 24).drop 24).take 24).all (fun c => isCode c || c.before args0 about1) = true := by decide +kernel
set_option maxRecDepth 65536 in
theorem w_t5 : (((((words1.drop 24).drop 24).drop 24).drop 24).take 24).all (fun c => isCode c || c.before args0 about1) = true := by decide +kernel
set_option maxRecDepth 65536 in
theorem w_t6 : ((((((words1.drop 24).drop 24).drop 24).drop 24).drop 24).take 24).all (fun c => isCode c || c.before args0 about1) = true := by decide +kernel
set_option maxRecDepth 65536 in
theorem w_t7 : (((((((words1.drop 24).drop 24).drop 24).drop 24).drop 24).drop 24).take 24).all (fun c => isCode c || c.before args0 about1) = true := by decide +kernel
set_option maxRecDepth 65536 in
theorem w_t8 : ((((((((words1.drop 24).drop 24).drop 24).drop 24).drop 24).drop 24).drop 24).take 24).all (fun c => isCode c || c.before args0 about1) = true := by decide +kernel
set_option maxRecDepth 65536 in
theorem w_t9 : (((((((((words1.drop 24).drop 24).drop 24).drop 24).drop 24).drop 24).drop 24).drop 24).take 24).all (fun c => isCode c || c.before args0 about1) = true := by decide +kernel
set_option maxRecDepth 65536 in
theorem w_t10 : ((((((((((words1.drop 24).drop 24).drop 24).drop 24).drop 24).drop 24).drop 24).drop 24).drop 24).take 24).all (fun c => isCode c || c.before args0 about1) = true := by decide +kernel
set_option maxRecDepth 65536 in
theorem w_t11 : (((((((((((words1.drop 24).drop 24).drop 24).drop 24).drop 24).drop 24).drop 24).drop 24).drop 24).drop 24).take 24).all (fun c => isCode c || c.before args0 about1) = true := by decide +kernel
set_option maxRecDepth 65536 in
theorem w_t12 : (((((((((((words1.drop 24).drop 24).drop 24).drop 24).drop 24).drop 24).drop 24).drop 24).drop 24).drop 24).drop 24).all (fun c => isCode c || c.before args0 about1) = true := by decide +kernel
theorem w_tables : (allAtoms (Jvm.Cond.code x code maxLocals ret :: tables_1)).before args0 about1 = true := by
  rw [allAtoms_all]
  show words1.all (fun c => c.before args0 about1) = true
  refine all_split ?_ w_codes
  rw [← List.take_append_drop 24 words1, List.all_append, w_t1, ← List.take_append_drop 24 (words1.drop 24), List.all_append, w_t2, ← List.take_append_drop 24 ((words1.drop 24).drop 24), List.all_append, w_t3, ← List.take_append_drop 24 (((words1.drop 24).drop 24).drop 24), List.all_append, w_t4, ← List.take_append_drop 24 ((((words1.drop 24).drop 24).drop 24).drop 24), List.all_append, w_t5, ← List.take_append_drop 24 (((((words1.drop 24).drop 24).drop 24).drop 24).drop 24), List.all_append, w_t6, ← List.take_append_drop 24 ((((((words1.drop 24).drop 24).drop 24).drop 24).drop 24).drop 24), List.all_append, w_t7, ← List.take_append_drop 24 (((((((words1.drop 24).drop 24).drop 24).drop 24).drop 24).drop 24).drop 24), List.all_append, w_t8, ← List.take_append_drop 24 ((((((((words1.drop 24).drop 24).drop 24).drop 24).drop 24).drop 24).drop 24).drop 24), List.all_append, w_t9, ← List.take_append_drop 24 (((((((((words1.drop 24).drop 24).drop 24).drop 24).drop 24).drop 24).drop 24).drop 24).drop 24), List.all_append, w_t10, ← List.take_append_drop 24 ((((((((((words1.drop 24).drop 24).drop 24).drop 24).drop 24).drop 24).drop 24).drop 24).drop 24).drop 24), List.all_append, w_t11, w_t12]
  rfl
set_option maxRecDepth 65536 in
theorem w_rest : rest_1_c.before args0 about1 = true := by decide +kernel
set_option maxRecDepth 65536 in
theorem w_case : (Jvm.Cond.and given_1 narrow_1).before args0 about1 = true := by decide +kernel
theorem w_applies : (headSpec (Jvm.Cond.code x code maxLocals ret :: tables_1) room_1).applies x e0.platform about1 = true :=
  (Spec.applies_iff w_frames).mpr ⟨w_running, w_runnable, w_alone, w_named, w_hears, w_ripe, w_room, w_tables⟩
theorem atStart : AtStart classFile x code maxLocals ret World_1 tables_1 room_1 Calls_1 rest_1 Pre_1 launch0 p0 e0 about1 theMethod args0 below0 :=
  ⟨lists_1, trivial, launch0.admits_env _ _ _, launch0.least_env, fairChoices_fair.cas, fairChoices_fair.clock, w_frames, w_args, w_heap, w_applies, trivial, w_rest, w_case⟩
end start1
theorem witness_1 : WitnessClaimed_1 := ⟨start1.p0, start1.e0, start1.about1, start1.theMethod, start1.args0, start1.below0, start1.atStart⟩
end Jvm.Pilot.@@N@@
