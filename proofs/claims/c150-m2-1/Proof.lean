import JvmDerived
import JvmDerived.Pilot.@@N@@Statement
import JvmDerived.Pilot.@@N@@Code
set_option linter.unusedVariables false
set_option linter.unusedSimpArgs false
namespace Jvm.RoadKit
open Sem ClassFile Op Lib Jvm.Stand Jvm.Free Jvm.LawKit
section New
variable {p : Program} {l : Launch} {e : Env} {R : Room} {s : State} {m : MethodId} {args : Array Value} {below : List Frame} {meth : Method} {c : Code} {T : State} {locs : List Loc} {cells slots : Nat}
theorem retI (X : Stand p l e R s m args below meth c T locs cells slots) (hx : p.tables.exec = Jvm.exec) {pc : Nat} {Ls : Array Slot} {z : Int32} {rest : List Value} (hret : meth.sig.returnType = some .int) (hd : decode c.code pc = .ok (.ireturn, 1)) {fs : List Frame}
    (hl : ∀ (f : JFrame) (acts : List Action), f.method = m → f.locked = none → f.entered = [] → (doReturn e (T.setTop f) acts (some (.int z))).1 = T.setFrames fs) : Steps p.tables e below (T.setTop (mkF m pc Ls (.int z :: rest))) (T.setFrames fs) := by
  have hm' : T.vm.method? m = some meth := X.method'
  have hn : narrow .int (.int z) = .int z := rfl
  show Steps p.tables e below (T.setTop { method := m, pc := pc, locals := Ls, stack := _ :: rest, locked := none }) _
  jvm_step X.here [X.here.top, hx, hd, hm', hret, hn]
  first | (intro acts; rw [hl _ acts rfl rfl rfl]) | rw [hl _ _ rfl rfl rfl]
  exact Steps.refl _
end New
end Jvm.RoadKit
namespace Jvm.Pilot.@@N@@
open Jvm Jvm.ClassFile Sem Op Lib Jvm.Free Jvm.Stand Jvm.LawKit Jvm.RoadKit Bundle Jvm.Pilot.@@N@@.Jvm.D
/-- what a call that writes nothing leaves -/
def PureQ (rv : Option Value) (h0 : Heap) (n0 : Nat) (v : Option Value) (h : Heap) (L : List Loc) : Prop := v = rv ∧ Fr n0 L ∧ h = h0
/-- what the law leaves -/
def LawQ (n0 : Nat) (v : Option Value) (h : Heap) (L : List Loc) : Prop := v = some (.int (1 : Int32)) ∧ Fr n0 L
theorem own_fld {Z : State} {args : Array Value} {a : Addr} {t u : Term} {C n d : String} {v : Value} (ev : t.eval args Z none [] Z = some (.ref a)) (h : (Jvm.Cond.eq (Term.field t C n d) u).value args Z none Z [] = some true) (eu : u.eval args Z none [] Z = some v) : Fld Z Z.heap a C n d v := by
  obtain ⟨x, y, h1, h2, -⟩ := cmp_v (Or.inl h)
  have e2 : y = v := Option.some.inj (h2.symm.trans eu)
  subst e2
  have e3 : x = y := by
    simp only [Jvm.Cond.value, h1, h2] at h
    cases x <;> cases y <;> simp_all
  subst e3
  exact Fld.start ((fld_at ev).symm.trans h1)
theorem own_nsroot {Z : State} {a0 : Array Value} {O K : String} {n : Nat} (w : (Jvm.Cond.noSuperclass O).before a0 Z = true) (wk : (Jvm.Cond.instantiable K n).before a0 Z = true) (hn : O ≠ K) : NS Z O K := by
  obtain ⟨c, k, h1, h2, h3, -, -⟩ := Cond.noSuperclass_spec w
  obtain ⟨t, kt, g1, -⟩ := Cond.instantiable_spec wk
  have ne := ids_ne h1 g1 hn
  refine ⟨c, t, h1, g1, fun fuel => ?_⟩
  cases fuel with
  | zero => rfl
  | succ f => simp [Vm.isSubclassAux, ne, h2, h3]
theorem own_nsno {Z : State} {a0 : Array Value} {C S K : String} {n : Nat} (w : (Jvm.Cond.superclass C S).before a0 Z = true) (wk : (Jvm.Cond.instantiable K n).before a0 Z = true) (N : NS Z C K) (hn : C ≠ K) : ∃ c t, Z.vm.findClass C = some c ∧ Z.vm.findClass K = some t ∧ Z.vm.assignable c t = false := by
  obtain ⟨c, t, h0, g0, n3⟩ := N
  obtain ⟨p, k, kp, h1, h2, h3, h4, h5, -, h7⟩ := Cond.superclass_spec h0 w
  obtain ⟨t', kt, g1, g2, g3, g4, -⟩ := Cond.instantiable_spec wk
  cases g0.symm.trans g1
  have ne := ids_ne h0 g0 hn
  have g5 : kt.isInterface = false := by
    cases hq : kt.isInterface <;> simp [hq] at g4 ⊢
  refine ⟨c, t, h0, g0, ?_⟩
  show Z.vm.assignableAux (255 + 1) c t = false
  simp [Vm.assignableAux, ne, h2, g2, h5, g3, g5, Vm.isSubclass, n3]
theorem own_z0 {Z : State} {n0 : Nat} {h : Heap} (O : Old Z n0 h) : n0 ≤ h.size := O.1 ▸ O.2.1

theorem pn_TripleBuffer : plainName "com/example/keysmith/keysmith/TripleBuffer" = true := by first | (simp [plainName, overriddenIn]; done) | decide +kernel
theorem ef_tbInit (m : MethodId) (x0 : Addr) : entryFrame m #[(.ref x0)] 1 = mkF m 0 #[.val (.ref x0)] [] := by first | (simp [entryFrame, mkF, argsToLocals, Value.category]; done) | rfl
theorem d1_0 : decode prog_15_method_1_code 0 = .ok (.aload_n 0, 1) := by decide +kernel
theorem d1_1 : decode prog_15_method_1_code 1 = .ok (.invokespecial 3, 3) := by decide +kernel
theorem d1_4 : decode prog_15_method_1_code 4 = .ok (.aload_n 0, 1) := by decide +kernel
theorem d1_5 : decode prog_15_method_1_code 5 = .ok (.bipush 16, 2) := by decide +kernel
theorem d1_7 : decode prog_15_method_1_code 7 = .ok (.anewarray 9, 3) := by decide +kernel
theorem d1_10 : decode prog_15_method_1_code 10 = .ok (.putfield 11, 3) := by decide +kernel
theorem d1_13 : decode prog_15_method_1_code 13 = .ok (.return_, 1) := by decide +kernel
theorem ef_add0 (m : MethodId) (x0 : Addr) (x1 : Int32) (x2 : Int32) (x3 : Int32) : entryFrame m #[(.ref x0), (.int x1), (.int x2), (.int x3)] 6 = mkF m 0 #[.val (.ref x0), .val (.int x1), .val (.int x2), .val (.int x3), .unset, .unset] [] := by first | (simp [entryFrame, mkF, argsToLocals, Value.category]; done) | rfl
theorem d3_0 : decode prog_15_method_2_code 0 = .ok (.aload_n 0, 1) := by decide +kernel
theorem d3_1 : decode prog_15_method_2_code 1 = .ok (.getfield 15, 3) := by decide +kernel
theorem d3_4 : decode prog_15_method_2_code 4 = .ok (.bipush 16, 2) := by decide +kernel
theorem d3_6 : decode prog_15_method_2_code 6 = .ok (.iushr, 1) := by decide +kernel
theorem d3_7 : decode prog_15_method_2_code 7 = .ok (.istore 4, 2) := by decide +kernel
theorem d3_9 : decode prog_15_method_2_code 9 = .ok (.iload 4, 2) := by decide +kernel
theorem d3_11 : decode prog_15_method_2_code 11 = .ok (.aload_n 0, 1) := by decide +kernel
theorem d3_12 : decode prog_15_method_2_code 12 = .ok (.getfield 11, 3) := by decide +kernel
theorem d3_15 : decode prog_15_method_2_code 15 = .ok (.arraylength, 1) := by decide +kernel
theorem d3_16 : decode prog_15_method_2_code 16 = .ok (.if_icmp .ne 24, 3) := by decide +kernel
theorem d3_40 : decode prog_15_method_2_code 40 = .ok (.aload_n 0, 1) := by decide +kernel
theorem d3_41 : decode prog_15_method_2_code 41 = .ok (.getfield 11, 3) := by decide +kernel
theorem d3_44 : decode prog_15_method_2_code 44 = .ok (.iload 4, 2) := by decide +kernel
theorem d3_46 : decode prog_15_method_2_code 46 = .ok (.aaload, 1) := by decide +kernel
theorem d3_47 : decode prog_15_method_2_code 47 = .ok (.ifnonnull 14, 3) := by decide +kernel
theorem d3_50 : decode prog_15_method_2_code 50 = .ok (.aload_n 0, 1) := by decide +kernel
theorem d3_51 : decode prog_15_method_2_code 51 = .ok (.getfield 11, 3) := by decide +kernel
theorem d3_54 : decode prog_15_method_2_code 54 = .ok (.iload 4, 2) := by decide +kernel
theorem d3_56 : decode prog_15_method_2_code 56 = .ok (.ldc 26, 2) := by decide +kernel
theorem d3_58 : decode prog_15_method_2_code 58 = .ok (.newarray .int, 2) := by decide +kernel
theorem d3_60 : decode prog_15_method_2_code 60 = .ok (.aastore, 1) := by decide +kernel
theorem d3_61 : decode prog_15_method_2_code 61 = .ok (.iconst 3, 1) := by decide +kernel
theorem d3_62 : decode prog_15_method_2_code 62 = .ok (.aload_n 0, 1) := by decide +kernel
theorem d3_63 : decode prog_15_method_2_code 63 = .ok (.getfield 15, 3) := by decide +kernel
theorem d3_66 : decode prog_15_method_2_code 66 = .ok (.ldc 27, 2) := by decide +kernel
theorem d3_68 : decode prog_15_method_2_code 68 = .ok (.iand, 1) := by decide +kernel
theorem d3_69 : decode prog_15_method_2_code 69 = .ok (.imul, 1) := by decide +kernel
theorem d3_70 : decode prog_15_method_2_code 70 = .ok (.istore 5, 2) := by decide +kernel
theorem d3_72 : decode prog_15_method_2_code 72 = .ok (.aload_n 0, 1) := by decide +kernel
theorem d3_73 : decode prog_15_method_2_code 73 = .ok (.getfield 11, 3) := by decide +kernel
theorem d3_76 : decode prog_15_method_2_code 76 = .ok (.iload 4, 2) := by decide +kernel
theorem d3_78 : decode prog_15_method_2_code 78 = .ok (.aaload, 1) := by decide +kernel
theorem d3_79 : decode prog_15_method_2_code 79 = .ok (.iload 5, 2) := by decide +kernel
theorem d3_81 : decode prog_15_method_2_code 81 = .ok (.iload_n 1, 1) := by decide +kernel
theorem d3_82 : decode prog_15_method_2_code 82 = .ok (.iastore, 1) := by decide +kernel
theorem d3_83 : decode prog_15_method_2_code 83 = .ok (.aload_n 0, 1) := by decide +kernel
theorem d3_84 : decode prog_15_method_2_code 84 = .ok (.getfield 11, 3) := by decide +kernel
theorem d3_87 : decode prog_15_method_2_code 87 = .ok (.iload 4, 2) := by decide +kernel
theorem d3_89 : decode prog_15_method_2_code 89 = .ok (.aaload, 1) := by decide +kernel
theorem d3_90 : decode prog_15_method_2_code 90 = .ok (.iload 5, 2) := by decide +kernel
theorem d3_92 : decode prog_15_method_2_code 92 = .ok (.iconst 1, 1) := by decide +kernel
theorem d3_93 : decode prog_15_method_2_code 93 = .ok (.iadd, 1) := by decide +kernel
theorem d3_94 : decode prog_15_method_2_code 94 = .ok (.iload_n 2, 1) := by decide +kernel
theorem d3_95 : decode prog_15_method_2_code 95 = .ok (.iastore, 1) := by decide +kernel
theorem d3_96 : decode prog_15_method_2_code 96 = .ok (.aload_n 0, 1) := by decide +kernel
theorem d3_97 : decode prog_15_method_2_code 97 = .ok (.getfield 11, 3) := by decide +kernel
theorem d3_100 : decode prog_15_method_2_code 100 = .ok (.iload 4, 2) := by decide +kernel
theorem d3_102 : decode prog_15_method_2_code 102 = .ok (.aaload, 1) := by decide +kernel
theorem d3_103 : decode prog_15_method_2_code 103 = .ok (.iload 5, 2) := by decide +kernel
theorem d3_105 : decode prog_15_method_2_code 105 = .ok (.iconst 2, 1) := by decide +kernel
theorem d3_106 : decode prog_15_method_2_code 106 = .ok (.iadd, 1) := by decide +kernel
theorem d3_107 : decode prog_15_method_2_code 107 = .ok (.iload_n 3, 1) := by decide +kernel
theorem d3_108 : decode prog_15_method_2_code 108 = .ok (.iastore, 1) := by decide +kernel
theorem d3_109 : decode prog_15_method_2_code 109 = .ok (.aload_n 0, 1) := by decide +kernel
theorem d3_110 : decode prog_15_method_2_code 110 = .ok (.dup, 1) := by decide +kernel
theorem d3_111 : decode prog_15_method_2_code 111 = .ok (.getfield 15, 3) := by decide +kernel
theorem d3_114 : decode prog_15_method_2_code 114 = .ok (.iconst 1, 1) := by decide +kernel
theorem d3_115 : decode prog_15_method_2_code 115 = .ok (.iadd, 1) := by decide +kernel
theorem d3_116 : decode prog_15_method_2_code 116 = .ok (.putfield 15, 3) := by decide +kernel
theorem d3_119 : decode prog_15_method_2_code 119 = .ok (.return_, 1) := by decide +kernel
theorem ef_add1 (m : MethodId) (x0 : Addr) (x1 : Int32) (x2 : Int32) (x3 : Int32) : entryFrame m #[(.ref x0), (.int x1), (.int x2), (.int x3)] 6 = mkF m 0 #[.val (.ref x0), .val (.int x1), .val (.int x2), .val (.int x3), .unset, .unset] [] := by first | (simp [entryFrame, mkF, argsToLocals, Value.category]; done) | rfl
theorem ef_add2 (m : MethodId) (x0 : Addr) (x1 : Int32) (x2 : Int32) (x3 : Int32) : entryFrame m #[(.ref x0), (.int x1), (.int x2), (.int x3)] 6 = mkF m 0 #[.val (.ref x0), .val (.int x1), .val (.int x2), .val (.int x3), .unset, .unset] [] := by first | (simp [entryFrame, mkF, argsToLocals, Value.category]; done) | rfl
theorem ef_object0 (m : MethodId) (x0 : Addr) : entryFrame m #[(.ref x0), (.int (0 : Int32))] 2 = mkF m 0 #[.val (.ref x0), .val (.int (0 : Int32))] [] := by first | (simp [entryFrame, mkF, argsToLocals, Value.category]; done) | rfl
theorem d4_0 : decode prog_15_method_6_code 0 = .ok (.aload_n 0, 1) := by decide +kernel
theorem d4_1 : decode prog_15_method_6_code 1 = .ok (.getfield 11, 3) := by decide +kernel
theorem d4_4 : decode prog_15_method_6_code 4 = .ok (.iload_n 1, 1) := by decide +kernel
theorem d4_5 : decode prog_15_method_6_code 5 = .ok (.bipush 16, 2) := by decide +kernel
theorem d4_7 : decode prog_15_method_6_code 7 = .ok (.iushr, 1) := by decide +kernel
theorem d4_8 : decode prog_15_method_6_code 8 = .ok (.aaload, 1) := by decide +kernel
theorem d4_9 : decode prog_15_method_6_code 9 = .ok (.iconst 3, 1) := by decide +kernel
theorem d4_10 : decode prog_15_method_6_code 10 = .ok (.iload_n 1, 1) := by decide +kernel
theorem d4_11 : decode prog_15_method_6_code 11 = .ok (.ldc 27, 2) := by decide +kernel
theorem d4_13 : decode prog_15_method_6_code 13 = .ok (.iand, 1) := by decide +kernel
theorem d4_14 : decode prog_15_method_6_code 14 = .ok (.imul, 1) := by decide +kernel
theorem d4_15 : decode prog_15_method_6_code 15 = .ok (.iconst 2, 1) := by decide +kernel
theorem d4_16 : decode prog_15_method_6_code 16 = .ok (.iadd, 1) := by decide +kernel
theorem d4_17 : decode prog_15_method_6_code 17 = .ok (.iaload, 1) := by decide +kernel
theorem d4_18 : decode prog_15_method_6_code 18 = .ok (.ireturn, 1) := by decide +kernel
theorem ef_object1 (m : MethodId) (x0 : Addr) : entryFrame m #[(.ref x0), (.int (1 : Int32))] 2 = mkF m 0 #[.val (.ref x0), .val (.int (1 : Int32))] [] := by first | (simp [entryFrame, mkF, argsToLocals, Value.category]; done) | rfl
theorem ef_object2 (m : MethodId) (x0 : Addr) : entryFrame m #[(.ref x0), (.int (2 : Int32))] 2 = mkF m 0 #[.val (.ref x0), .val (.int (2 : Int32))] [] := by first | (simp [entryFrame, mkF, argsToLocals, Value.category]; done) | rfl
theorem ef_set0 (m : MethodId) (x0 : Addr) (x2 : Int32) : entryFrame m #[(.ref x0), (.int (0 : Int32)), (.int x2)] 3 = mkF m 0 #[.val (.ref x0), .val (.int (0 : Int32)), .val (.int x2)] [] := by first | (simp [entryFrame, mkF, argsToLocals, Value.category]; done) | rfl
theorem d5_0 : decode prog_15_method_7_code 0 = .ok (.aload_n 0, 1) := by decide +kernel
theorem d5_1 : decode prog_15_method_7_code 1 = .ok (.getfield 11, 3) := by decide +kernel
theorem d5_4 : decode prog_15_method_7_code 4 = .ok (.iload_n 1, 1) := by decide +kernel
theorem d5_5 : decode prog_15_method_7_code 5 = .ok (.bipush 16, 2) := by decide +kernel
theorem d5_7 : decode prog_15_method_7_code 7 = .ok (.iushr, 1) := by decide +kernel
theorem d5_8 : decode prog_15_method_7_code 8 = .ok (.aaload, 1) := by decide +kernel
theorem d5_9 : decode prog_15_method_7_code 9 = .ok (.iconst 3, 1) := by decide +kernel
theorem d5_10 : decode prog_15_method_7_code 10 = .ok (.iload_n 1, 1) := by decide +kernel
theorem d5_11 : decode prog_15_method_7_code 11 = .ok (.ldc 27, 2) := by decide +kernel
theorem d5_13 : decode prog_15_method_7_code 13 = .ok (.iand, 1) := by decide +kernel
theorem d5_14 : decode prog_15_method_7_code 14 = .ok (.imul, 1) := by decide +kernel
theorem d5_15 : decode prog_15_method_7_code 15 = .ok (.iconst 2, 1) := by decide +kernel
theorem d5_16 : decode prog_15_method_7_code 16 = .ok (.iadd, 1) := by decide +kernel
theorem d5_17 : decode prog_15_method_7_code 17 = .ok (.iload_n 2, 1) := by decide +kernel
theorem d5_18 : decode prog_15_method_7_code 18 = .ok (.iastore, 1) := by decide +kernel
theorem d5_19 : decode prog_15_method_7_code 19 = .ok (.return_, 1) := by decide +kernel
theorem ef_set1 (m : MethodId) (x0 : Addr) (x2 : Int32) : entryFrame m #[(.ref x0), (.int (1 : Int32)), (.int x2)] 3 = mkF m 0 #[.val (.ref x0), .val (.int (1 : Int32)), .val (.int x2)] [] := by first | (simp [entryFrame, mkF, argsToLocals, Value.category]; done) | rfl
theorem ef_set2 (m : MethodId) (x0 : Addr) (x2 : Int32) : entryFrame m #[(.ref x0), (.int (2 : Int32)), (.int x2)] 3 = mkF m 0 #[.val (.ref x0), .val (.int (2 : Int32)), .val (.int x2)] [] := by first | (simp [entryFrame, mkF, argsToLocals, Value.category]; done) | rfl
theorem own_rem (p1 : Int32) : ((p1 &&& (2147483647 : Int32)) - ((p1 &&& (2147483647 : Int32)) / (3 : Int32)) * (3 : Int32)) = (0 : Int32) ∨ ((p1 &&& (2147483647 : Int32)) - ((p1 &&& (2147483647 : Int32)) / (3 : Int32)) * (3 : Int32)) = (1 : Int32) ∨ ((p1 &&& (2147483647 : Int32)) - ((p1 &&& (2147483647 : Int32)) / (3 : Int32)) * (3 : Int32)) = (2 : Int32) := by
  have h : (p1 &&& (2147483647 : Int32)).toInt = p1.toInt % 2147483648 := c_mask p1 2147483647 31 (by decide) (by decide)
  have h2 : ((p1 &&& (2147483647 : Int32)) - ((p1 &&& (2147483647 : Int32)) / (3 : Int32)) * (3 : Int32)).toInt = (p1.toInt % 2147483648) % 3 := by
    rw [irem_eq_mod, (c_irem _ (3 : Int32) 3 (by decide)).1 (by rw [h]; omega), h]
  obtain ⟨q, hq⟩ : ∃ q, q = (p1.toInt % 2147483648) % 3 := ⟨_, rfl⟩
  have h4 : q = 0 ∨ q = 1 ∨ q = 2 := by omega
  rw [← hq] at h2
  rcases h4 with rfl | rfl | rfl
  · exact (Or.inl (Int32.toInt_inj.mp (by rw [h2]; rfl)))
  · exact (Or.inr (Or.inl (Int32.toInt_inj.mp (by rw [h2]; rfl))))
  · exact (Or.inr (Or.inr (Int32.toInt_inj.mp (by rw [h2]; rfl))))

theorem pn_TripleBufferObjectPinLaw : plainName "com/example/keysmith/keysmith/TripleBufferObjectPinLaw" = true := by first | (simp [plainName, overriddenIn]; done) | decide +kernel
theorem ef_law (m : MethodId) (x0 : Int32) (x1 : Int32) (x2 : Int32) (x3 : Int32) (x4 : Int32) (x5 : Int32) : entryFrame m #[(.int x0), (.int x1), (.int x2), (.int x3), (.int x4), (.int x5)] maxLocals = mkF m 0 #[.val (.int x0), .val (.int x1), .val (.int x2), .val (.int x3), .val (.int x4), .val (.int x5), .unset, .unset, .unset, .unset, .unset, .unset, .unset, .unset, .unset, .unset] [] := by first | (simp [entryFrame, mkF, argsToLocals, Value.category, maxLocals]; done) | rfl
theorem pd___V_3 : parseMethodDescriptor "()V" = some ⟨[], none⟩ := by decide +kernel
theorem pd__III_V_6 : parseMethodDescriptor "(III)V" = some ⟨[.int, .int, .int], none⟩ := by decide +kernel
theorem pd__I_I_4 : parseMethodDescriptor "(I)I" = some ⟨[.int], some .int⟩ := by decide +kernel
theorem pd__II_V_5 : parseMethodDescriptor "(II)V" = some ⟨[.int, .int], none⟩ := by decide +kernel
def Q_tbInit (Z : State) (a1 : Addr) (h0 : Heap) (n0 : Nat) (v : Option Value) (h : Heap) (L : List Loc) : Prop := ∃ (ab : Addr) (akb : ClassId), v = none ∧ Fr n0 L ∧ Keep h0 h [a1] ∧ h0.size ≤ ab ∧ Exa Z h a1 "com/example/keysmith/keysmith/TripleBuffer" ∧ Fld Z h a1 "com/example/keysmith/keysmith/TripleBuffer" "blocks" "[[I" (.ref ab) ∧ Fld Z h a1 "com/example/keysmith/keysmith/TripleBuffer" "size" "I" (.int (0 : Int32)) ∧ Arv Z h ab akb (.array .int) (16 : Int32) [.null, .null, .null, .null, .null, .null, .null, .null, .null, .null, .null, .null, .null, .null, .null, .null] .null ∧ OvrA Z akb .int "[I"
set_option maxRecDepth 65536 in
set_option maxHeartbeats 40000000 in
theorem rm_tbInit (l : Launch) (Z : State) (a0 : Array Value) (hw : ∀ d ∈ tables_1, d.before a0 Z = true) (ws : List Jvm.Cond) (a1 : Addr) (h0 : Heap) (n0 : Nat) (Z0 : n0 ≤ h0.size) (O0 : Old Z n0 h0) (r0 : Exa Z h0 a1 "com/example/keysmith/keysmith/TripleBuffer") (r1 : Fld Z h0 a1 "com/example/keysmith/keysmith/TripleBuffer" "blocks" "[[I" .null) (r2 : Fld Z h0 a1 "com/example/keysmith/keysmith/TripleBuffer" "size" "I" (.int (0 : Int32))) (g_a1 : n0 ≤ a1) :
    MetFree l (⟨"com/example/keysmith/keysmith/TripleBuffer", "<init>", "()V"⟩ : MethodName) (head1 (Jvm.Cond.code (⟨"com/example/keysmith/keysmith/TripleBuffer", "<init>", "()V"⟩ : MethodName) prog_15_method_1_code 1 none :: ws) ({ frames := 1, cells := 1, slots := 16, locals := 12 } : Room)) (fun a U => a = #[(.ref a1)] ∧ Z.Warmed39 U.vm ∧ U.heap = h0) (fun _ _ _ _ _ => True) (fun _ U o U' => ∃ v L, o = .returned v ∧ Q_tbInit Z a1 h0 n0 v U'.heap L ∧ FrameEnd U o U' L ({ frames := 1, cells := 1, slots := 16, locals := 12 } : Room).cells ({ frames := 1, cells := 1, slots := 16, locals := 12 } : Room).slots) := by
  refine MetFree.of_bodySF (plainFor_of_name pn_TripleBuffer) hisR ?_
  intro p e s m args below meth c s₁ Bd hml0 hP hK
  obtain ⟨rfl, hZ, hh⟩ := hP
  have hx := Bd.exec
  have hby := Bd.bytes
  have hml : c.maxLocals = 1 := hml0
  have hown : s.vm.findClass "com/example/keysmith/keysmith/TripleBuffer" = some m.cls := findClass_of_methodNamed Bd.named
  have hnm := (name_of_methodNamed Bd.named Bd.method).1
  have X0 : Stand p l e ({ frames := 1, cells := 1, slots := 16, locals := 12 } : Room) s m #[(.ref a1)] below meth c s₁ [] 0 0 := Stand.of_body Bd
  have e0 : s₁.heap = h0 := by rw [← hh, Bd.state]; rfl
  have N0 := Fr.nil n0
  have pre0 : ∀ t, Steps p.tables e below (s₁.setTop (mkF m 0 #[.val (.ref a1)] [])) t → Steps p.tables e below (s₁.setTop (entryFrame m #[(.ref a1)] 1)) t := fun t k => castTop (ef_tbInit m a1) k
  obtain ⟨T1, X1, e1, st1⟩ := initO X0 hx hZ hown (hw _ (List.mem_of_getElem? (i := 6) rfl)) (hw _ (List.mem_of_getElem? (i := 7) rfl)) (hw _ (List.mem_of_getElem? (i := 8) rfl)) e0 (g := (mkF m 1 #[.val (.ref a1)] [(.ref a1)])) rfl (by rw [hml]; rfl) rfl (hb hby d1_1) (by decide) (W := 0) (by show 2 * 0 + _ ≤ _; exact Nat.le_of_eq rfl) (by decide)
  obtain ⟨T2, h2, k2, X2, e2, E2, A2, B2, R2, st2⟩ := newRA X1 hx hZ hown (C := "[I") (ty := .int) (by decide) (hw _ (List.mem_of_getElem? (i := 9) rfl)) (hw _ (List.mem_of_getElem? (i := 10) rfl)) e1 (g := (mkF m 7 #[.val (.ref a1)] [(.int (16 : Int32)), (.ref a1)])) rfl (hb hby d1_7) rfl (by decide) (cap := 16) (by decide) (by decide) (by decide) (by decide) (ad := "[[I") (by decide)
  obtain ⟨b2, q_b2⟩ : ∃ z, z = (h0).size := ⟨_, rfl⟩
  rw [← q_b2] at A2 B2 st2
  have g_b2 : n0 ≤ b2 := Nat.le_trans (own_z0 O0) (Nat.le_of_eq q_b2.symm)
  have sz_b2 : h0.size ≤ b2 := Nat.le_trans (Nat.le_refl _) (Nat.le_of_eq q_b2.symm)
  have ne_a1_b2 : a1 ≠ b2 := Nat.ne_of_lt (Nat.lt_of_lt_of_le r0.lt (Nat.le_of_eq q_b2.symm))
  have V_b2 : Arv Z h2 b2 k2 (.array .int) (16 : Int32) [.null, .null, .null, .null, .null, .null, .null, .null, .null, .null, .null, .null, .null, .null, .null, .null] .null := (Arv.new A2 (by decide)).pad (pad_rep [] .null 16)
  have F4 := (r1.ext E2)
  have F5 := (r0.ext E2)
  obtain ⟨T3, h3, X3, e3, W3, st3⟩ := putF X2 hx hZ hown (host := "") (Or.inl (hw _ (List.mem_of_getElem? (i := 11) rfl))) Via.refl e2 F4 F5 (Or.inl (hw _ (List.mem_of_getElem? (i := 12) rfl))) (hw _ (List.mem_of_getElem? (i := 1) rfl)) (ty := (.array (.array .int))) (by decide) rfl rfl (g := (mkF m 10 #[.val (.ref a1)] [(.ref b2), (.ref a1)])) rfl rfl (hb hby d1_10)
  have Fw3 := F4.same W3
  have N3 := Fr.snoc X3 N0 g_a1
  have F6 := (F5.wr W3)
  have F7 := ((r2.ext E2).other W3 (Or.inr (slot_ne (Or.inl (hw _ (List.mem_of_getElem? (i := 19) rfl))) (Or.inl (hw _ (List.mem_of_getElem? (i := 12) rfl))) (by decide) (t := .int) (t' := (.array (.array .int))) (by decide) (by decide))))
  have F8 := (V_b2.other W3 (Ne.symm ne_a1_b2))
  obtain ⟨fs, hr, hrun, hended, hW, hsame⟩ := X3.leave (v := none) (fun _ => rfl)
  refine ⟨_, _, pre0 _ ?_, hrun, hended, _, _, rfl, ?_, ⟨_, rfl⟩, hW, hsame.mono (by decide) (by decide)⟩
  · show Steps p.tables e below (s₁.setTop (mkF m 0 #[.val (.ref a1)] [])) _
    refine XS.aloadN X0.here hx rfl (hb hby d1_0) rfl rfl ?_
    show Steps p.tables e below (s₁.setTop (mkF m 1 #[.val (.ref a1)] [(.ref a1)])) _
    refine st1 _ ?_
    show Steps p.tables e below (T1.setTop (mkF m 4 #[.val (.ref a1)] [])) _
    refine XS.aloadN X1.here hx rfl (hb hby d1_4) rfl rfl ?_
    show Steps p.tables e below (T1.setTop (mkF m 5 #[.val (.ref a1)] [(.ref a1)])) _
    refine XS.bipush X1.here hx rfl (hb hby d1_5) ?_
    show Steps p.tables e below (T1.setTop (mkF m 7 #[.val (.ref a1)] [(.int (16 : Int32)), (.ref a1)])) _
    refine st2 _ ?_
    show Steps p.tables e below (T2.setTop (mkF m 10 #[.val (.ref a1)] [(.ref b2), (.ref a1)])) _
    refine st3 _ ?_
    show Steps p.tables e below (T3.setTop (mkF m 13 #[.val (.ref a1)] [])) _
    exact X3.returnOut hx Bd.returns (hb hby d1_13) hr
  · show Q_tbInit Z a1 h0 n0 _ T3.heap _
    rw [e3]
    exact ⟨b2, k2, rfl, N3, (((Keep.refl h0 [a1]).ext E2).wr W3 (Or.inl (List.mem_of_getElem? (i := 0) rfl))), sz_b2, F6, Fw3, F7, F8, R2⟩
def Q_add0 (Z : State) (a1 : Addr) (p2 : Int32) (p3 : Int32) (p4 : Int32) (ab : Addr) (akb : ClassId) (h0 : Heap) (n0 : Nat) (v : Option Value) (h : Heap) (L : List Loc) : Prop := ∃ (ac : Addr) (akc : ClassId), v = none ∧ Fr n0 L ∧ Keep h0 h [a1, ab] ∧ h0.size ≤ ac ∧ Exa Z h a1 "com/example/keysmith/keysmith/TripleBuffer" ∧ Fld Z h a1 "com/example/keysmith/keysmith/TripleBuffer" "blocks" "[[I" (.ref ab) ∧ Fld Z h a1 "com/example/keysmith/keysmith/TripleBuffer" "size" "I" (.int (1 : Int32)) ∧ Arv Z h ab akb (.array .int) (16 : Int32) [(.ref ac), .null, .null, .null, .null, .null, .null, .null, .null, .null, .null, .null, .null, .null, .null, .null] .null ∧ OvrA Z akb .int "[I" ∧ Arv Z h ac akc .int (196608 : Int32) [(.int p2), (.int p3), (.int p4), (.int (0 : Int32)), (.int (0 : Int32)), (.int (0 : Int32)), (.int (0 : Int32)), (.int (0 : Int32)), (.int (0 : Int32))] (.int (0 : Int32))
set_option maxRecDepth 65536 in
set_option maxHeartbeats 40000000 in
theorem rm_add0 (l : Launch) (Z : State) (a0 : Array Value) (hw : ∀ d ∈ tables_1, d.before a0 Z = true) (ws : List Jvm.Cond) (a1 : Addr) (p2 : Int32) (p3 : Int32) (p4 : Int32) (ab : Addr) (akb : ClassId) (h0 : Heap) (n0 : Nat) (Z0 : n0 ≤ h0.size) (O0 : Old Z n0 h0) (r0 : Exa Z h0 a1 "com/example/keysmith/keysmith/TripleBuffer") (r1 : Fld Z h0 a1 "com/example/keysmith/keysmith/TripleBuffer" "blocks" "[[I" (.ref ab)) (r2 : Fld Z h0 a1 "com/example/keysmith/keysmith/TripleBuffer" "size" "I" (.int (0 : Int32))) (r3 : Arv Z h0 ab akb (.array .int) (16 : Int32) [.null, .null, .null, .null, .null, .null, .null, .null, .null, .null, .null, .null, .null, .null, .null, .null] .null) (r4 : OvrA Z akb .int "[I") (g_a1 : n0 ≤ a1) (g_ab : n0 ≤ ab) (ne_a1_ab : a1 ≠ ab) :
    MetFree l (⟨"com/example/keysmith/keysmith/TripleBuffer", "add", "(III)V"⟩ : MethodName) (head1 (Jvm.Cond.code (⟨"com/example/keysmith/keysmith/TripleBuffer", "add", "(III)V"⟩ : MethodName) prog_15_method_2_code 6 none :: ws) ({ frames := 0, cells := 1, slots := 196608, locals := 0 } : Room)) (fun a U => a = #[(.ref a1), (.int p2), (.int p3), (.int p4)] ∧ Z.Warmed39 U.vm ∧ U.heap = h0) (fun _ _ _ _ _ => True) (fun _ U o U' => ∃ v L, o = .returned v ∧ Q_add0 Z a1 p2 p3 p4 ab akb h0 n0 v U'.heap L ∧ FrameEnd U o U' L ({ frames := 0, cells := 1, slots := 196608, locals := 0 } : Room).cells ({ frames := 0, cells := 1, slots := 196608, locals := 0 } : Room).slots) := by
  refine MetFree.of_bodySF (plainFor_of_name pn_TripleBuffer) hisR ?_
  intro p e s m args below meth c s₁ Bd hml0 hP hK
  obtain ⟨rfl, hZ, hh⟩ := hP
  have hx := Bd.exec
  have hby := Bd.bytes
  have hml : c.maxLocals = 6 := hml0
  have hown : s.vm.findClass "com/example/keysmith/keysmith/TripleBuffer" = some m.cls := findClass_of_methodNamed Bd.named
  have hnm := (name_of_methodNamed Bd.named Bd.method).1
  have X0 : Stand p l e ({ frames := 0, cells := 1, slots := 196608, locals := 0 } : Room) s m #[(.ref a1), (.int p2), (.int p3), (.int p4)] below meth c s₁ [] 0 0 := Stand.of_body Bd
  have e0 : s₁.heap = h0 := by rw [← hh, Bd.state]; rfl
  have N0 := Fr.nil n0
  have pre0 : ∀ t, Steps p.tables e below (s₁.setTop (mkF m 0 #[.val (.ref a1), .val (.int p2), .val (.int p3), .val (.int p4), .unset, .unset] [])) t → Steps p.tables e below (s₁.setTop (entryFrame m #[(.ref a1), (.int p2), (.int p3), (.int p4)] 6)) t := fun t k => castTop (ef_add0 m a1 p2 p3 p4) k
  obtain ⟨T1, X1, e1, st1⟩ := getF X0 hx hZ hown (host := "") (Or.inl (hw _ (List.mem_of_getElem? (i := 18) rfl))) Via.refl e0 r2 (g := (mkF m 1 #[.val (.ref a1), .val (.int p2), .val (.int p3), .val (.int p4), .unset, .unset] [(.ref a1)])) rfl rfl (hb hby d3_1)
  obtain ⟨T2, X2, e2, st2⟩ := getF X1 hx hZ hown (host := "") (Or.inl (hw _ (List.mem_of_getElem? (i := 11) rfl))) Via.refl e1 r1 (g := (mkF m 12 #[.val (.ref a1), .val (.int p2), .val (.int p3), .val (.int p4), .val (.int (0 : Int32)), .unset] [(.ref a1), (.int (0 : Int32))])) rfl rfl (hb hby d3_12)
  obtain ⟨cl3, Ar3, vq3, vS3, vN3, vH3, vG3⟩ := id r3
  obtain ⟨T4, X4, e4, st4⟩ := getF X2 hx hZ hown (host := "") (Or.inl (hw _ (List.mem_of_getElem? (i := 11) rfl))) Via.refl e2 r1 (g := (mkF m 41 #[.val (.ref a1), .val (.int p2), .val (.int p3), .val (.int p4), .val (.int (0 : Int32)), .unset] [(.ref a1)])) rfl rfl (hb hby d3_41)
  obtain ⟨cl5, Ar5, vq5, vS5, vN5, vH5, vG5⟩ := id r3
  have hin5 : ¬ (((0 : Int32) : Int32) < 0 ∨ cl5.slots.size ≤ ((0 : Int32) : Int32).toNatClampNeg) := inb_of vS5 ⟨by decide, by decide⟩
  obtain ⟨T6, X6, e6, st6⟩ := getF X4 hx hZ hown (host := "") (Or.inl (hw _ (List.mem_of_getElem? (i := 11) rfl))) Via.refl e4 r1 (g := (mkF m 51 #[.val (.ref a1), .val (.int p2), .val (.int p3), .val (.int p4), .val (.int (0 : Int32)), .unset] [(.ref a1)])) rfl rfl (hb hby d3_51)
  obtain ⟨T7, h7, k7, X7, e7, E7, A7, B7, st7⟩ := newPE X6 hx hZ (hw _ (List.mem_of_getElem? (i := 21) rfl)) e6 (g := (mkF m 58 #[.val (.ref a1), .val (.int p2), .val (.int p3), .val (.int p4), .val (.int (0 : Int32)), .unset] [(.int (196608 : Int32)), (.int (0 : Int32)), (.ref ab)])) rfl (hb hby d3_58) rfl (by decide) (cap := 196608) (by decide) (by decide) (by decide) (by decide) (ad := "[I") (by decide)
  obtain ⟨b7, q_b7⟩ : ∃ z, z = (h0).size := ⟨_, rfl⟩
  rw [← q_b7] at A7 B7 st7
  have g_b7 : n0 ≤ b7 := Nat.le_trans (own_z0 O0) (Nat.le_of_eq q_b7.symm)
  have sz_b7 : h0.size ≤ b7 := Nat.le_trans (Nat.le_refl _) (Nat.le_of_eq q_b7.symm)
  have ne_a1_b7 : a1 ≠ b7 := Nat.ne_of_lt (Nat.lt_of_lt_of_le r0.lt (Nat.le_of_eq q_b7.symm))
  have ne_ab_b7 : ab ≠ b7 := Nat.ne_of_lt (Nat.lt_of_lt_of_le r3.lt (Nat.le_of_eq q_b7.symm))
  have V_b7 : Arv Z h7 b7 k7 .int (196608 : Int32) [(.int (0 : Int32)), (.int (0 : Int32)), (.int (0 : Int32)), (.int (0 : Int32)), (.int (0 : Int32)), (.int (0 : Int32)), (.int (0 : Int32)), (.int (0 : Int32)), (.int (0 : Int32))] (.int (0 : Int32)) := (Arv.new A7 (by decide)).pad (pad_rep [] (.int (0 : Int32)) 9)
  have F8 := (r3.ext E7)
  obtain ⟨cl9, Ar9, vq9, vS9, vN9, vH9, vG9⟩ := id F8
  have hin9 : ¬ (((0 : Int32) : Int32) < 0 ∨ cl9.slots.size ≤ ((0 : Int32) : Int32).toNatClampNeg) := inb_of vS9 ⟨by decide, by decide⟩
  obtain ⟨T9, h9, X9, e9, W9, st9⟩ := stR X7 hx hZ e7 Ar9 (j := (0 : Int32)) hin9 rfl (Sto.ofVA Ar9 vq9 r4 (Ins.self B7)) (g := (mkF m 60 #[.val (.ref a1), .val (.int p2), .val (.int p3), .val (.int p4), .val (.int (0 : Int32)), .unset] [(.ref b7), (.int (0 : Int32)), (.ref ab)])) rfl rfl (hb hby d3_60)
  have V9 : Arv Z h9 ab akb (.array .int) (16 : Int32) [(.ref b7), .null, .null, .null, .null, .null, .null, .null, .null, .null, .null, .null, .null, .null, .null, .null] .null := Arv.set Ar9 vq9 vS9 vN9 vH9 vG9 rfl W9 0 rfl (Nat.le_of_ble_eq_true rfl)
  have N9 := Fr.snoc X9 N0 g_ab
  have F11 := ((r2.ext E7).other W9 (Or.inl ne_a1_ab))
  obtain ⟨T10, X10, e10, st10⟩ := getF X9 hx hZ hown (host := "") (Or.inl (hw _ (List.mem_of_getElem? (i := 18) rfl))) Via.refl e9 F11 (g := (mkF m 63 #[.val (.ref a1), .val (.int p2), .val (.int p3), .val (.int p4), .val (.int (0 : Int32)), .unset] [(.ref a1), (.int (3 : Int32))])) rfl rfl (hb hby d3_63)
  have F13 := ((r1.ext E7).other W9 (Or.inl ne_a1_ab))
  obtain ⟨T12, X12, e12, st12⟩ := getF X10 hx hZ hown (host := "") (Or.inl (hw _ (List.mem_of_getElem? (i := 11) rfl))) Via.refl e10 F13 (g := (mkF m 73 #[.val (.ref a1), .val (.int p2), .val (.int p3), .val (.int p4), .val (.int (0 : Int32)), .val (.int (0 : Int32))] [(.ref a1)])) rfl rfl (hb hby d3_73)
  obtain ⟨cl14, Ar14, vq14, vS14, vN14, vH14, vG14⟩ := id V9
  have hin14 : ¬ (((0 : Int32) : Int32) < 0 ∨ cl14.slots.size ≤ ((0 : Int32) : Int32).toNatClampNeg) := inb_of vS14 ⟨by decide, by decide⟩
  have F15 := (V_b7.other W9 (Ne.symm ne_ab_b7))
  obtain ⟨cl16, Ar16, vq16, vS16, vN16, vH16, vG16⟩ := id F15
  have hin16 : ¬ (((0 : Int32) : Int32) < 0 ∨ cl16.slots.size ≤ ((0 : Int32) : Int32).toNatClampNeg) := inb_of vS16 ⟨by decide, by decide⟩
  obtain ⟨T16, h16, X16, e16, W16, st16⟩ := stI X12 hx hZ e12 Ar16 (j := (0 : Int32)) hin16 (g := (mkF m 82 #[.val (.ref a1), .val (.int p2), .val (.int p3), .val (.int p4), .val (.int (0 : Int32)), .val (.int (0 : Int32))] [(.int p2), (.int (0 : Int32)), (.ref b7)])) rfl rfl (hb hby d3_82)
  have V16 : Arv Z h16 b7 k7 .int (196608 : Int32) [(.int p2), (.int (0 : Int32)), (.int (0 : Int32)), (.int (0 : Int32)), (.int (0 : Int32)), (.int (0 : Int32)), (.int (0 : Int32)), (.int (0 : Int32)), (.int (0 : Int32))] (.int (0 : Int32)) := Arv.set Ar16 vq16 vS16 vN16 vH16 vG16 rfl W16 0 rfl (Nat.le_of_ble_eq_true rfl)
  have N16 := Fr.snoc X16 N9 g_b7
  have F18 := (F13.other W16 (Or.inl ne_a1_b7))
  obtain ⟨T17, X17, e17, st17⟩ := getF X16 hx hZ hown (host := "") (Or.inl (hw _ (List.mem_of_getElem? (i := 11) rfl))) Via.refl e16 F18 (g := (mkF m 84 #[.val (.ref a1), .val (.int p2), .val (.int p3), .val (.int p4), .val (.int (0 : Int32)), .val (.int (0 : Int32))] [(.ref a1)])) rfl rfl (hb hby d3_84)
  have F19 := (V9.other W16 ne_ab_b7)
  obtain ⟨cl20, Ar20, vq20, vS20, vN20, vH20, vG20⟩ := id F19
  have hin20 : ¬ (((0 : Int32) : Int32) < 0 ∨ cl20.slots.size ≤ ((0 : Int32) : Int32).toNatClampNeg) := inb_of vS20 ⟨by decide, by decide⟩
  obtain ⟨cl21, Ar21, vq21, vS21, vN21, vH21, vG21⟩ := id V16
  have hin21 : ¬ (((1 : Int32) : Int32) < 0 ∨ cl21.slots.size ≤ ((1 : Int32) : Int32).toNatClampNeg) := inb_of vS21 ⟨by decide, by decide⟩
  obtain ⟨T21, h21, X21, e21, W21, st21⟩ := stI X17 hx hZ e17 Ar21 (j := (1 : Int32)) hin21 (g := (mkF m 95 #[.val (.ref a1), .val (.int p2), .val (.int p3), .val (.int p4), .val (.int (0 : Int32)), .val (.int (0 : Int32))] [(.int p3), (.int (1 : Int32)), (.ref b7)])) rfl rfl (hb hby d3_95)
  have V21 : Arv Z h21 b7 k7 .int (196608 : Int32) [(.int p2), (.int p3), (.int (0 : Int32)), (.int (0 : Int32)), (.int (0 : Int32)), (.int (0 : Int32)), (.int (0 : Int32)), (.int (0 : Int32)), (.int (0 : Int32))] (.int (0 : Int32)) := Arv.set Ar21 vq21 vS21 vN21 vH21 vG21 rfl W21 1 rfl (Nat.le_of_ble_eq_true rfl)
  have N21 := Fr.snoc X21 N16 g_b7
  have F23 := (F18.other W21 (Or.inl ne_a1_b7))
  obtain ⟨T22, X22, e22, st22⟩ := getF X21 hx hZ hown (host := "") (Or.inl (hw _ (List.mem_of_getElem? (i := 11) rfl))) Via.refl e21 F23 (g := (mkF m 97 #[.val (.ref a1), .val (.int p2), .val (.int p3), .val (.int p4), .val (.int (0 : Int32)), .val (.int (0 : Int32))] [(.ref a1)])) rfl rfl (hb hby d3_97)
  have F24 := (F19.other W21 ne_ab_b7)
  obtain ⟨cl25, Ar25, vq25, vS25, vN25, vH25, vG25⟩ := id F24
  have hin25 : ¬ (((0 : Int32) : Int32) < 0 ∨ cl25.slots.size ≤ ((0 : Int32) : Int32).toNatClampNeg) := inb_of vS25 ⟨by decide, by decide⟩
  obtain ⟨cl26, Ar26, vq26, vS26, vN26, vH26, vG26⟩ := id V21
  have hin26 : ¬ (((2 : Int32) : Int32) < 0 ∨ cl26.slots.size ≤ ((2 : Int32) : Int32).toNatClampNeg) := inb_of vS26 ⟨by decide, by decide⟩
  obtain ⟨T26, h26, X26, e26, W26, st26⟩ := stI X22 hx hZ e22 Ar26 (j := (2 : Int32)) hin26 (g := (mkF m 108 #[.val (.ref a1), .val (.int p2), .val (.int p3), .val (.int p4), .val (.int (0 : Int32)), .val (.int (0 : Int32))] [(.int p4), (.int (2 : Int32)), (.ref b7)])) rfl rfl (hb hby d3_108)
  have V26 : Arv Z h26 b7 k7 .int (196608 : Int32) [(.int p2), (.int p3), (.int p4), (.int (0 : Int32)), (.int (0 : Int32)), (.int (0 : Int32)), (.int (0 : Int32)), (.int (0 : Int32)), (.int (0 : Int32))] (.int (0 : Int32)) := Arv.set Ar26 vq26 vS26 vN26 vH26 vG26 rfl W26 2 rfl (Nat.le_of_ble_eq_true rfl)
  have N26 := Fr.snoc X26 N21 g_b7
  have F28 := (((F11.other W16 (Or.inl ne_a1_b7)).other W21 (Or.inl ne_a1_b7)).other W26 (Or.inl ne_a1_b7))
  obtain ⟨T27, X27, e27, st27⟩ := getF X26 hx hZ hown (host := "") (Or.inl (hw _ (List.mem_of_getElem? (i := 18) rfl))) Via.refl e26 F28 (g := (mkF m 111 #[.val (.ref a1), .val (.int p2), .val (.int p3), .val (.int p4), .val (.int (0 : Int32)), .val (.int (0 : Int32))] [(.ref a1), (.ref a1)])) rfl rfl (hb hby d3_111)
  have F30 := (((((r0.ext E7).wr W9).wr W16).wr W21).wr W26)
  obtain ⟨T29, h29, X29, e29, W29, st29⟩ := putF X27 hx hZ hown (host := "") (Or.inl (hw _ (List.mem_of_getElem? (i := 18) rfl))) Via.refl e27 F28 F30 (Or.inl (hw _ (List.mem_of_getElem? (i := 19) rfl))) (hw _ (List.mem_of_getElem? (i := 1) rfl)) (ty := .int) (by decide) rfl rfl (g := (mkF m 116 #[.val (.ref a1), .val (.int p2), .val (.int p3), .val (.int p4), .val (.int (0 : Int32)), .val (.int (0 : Int32))] [(.int (1 : Int32)), (.ref a1)])) rfl rfl (hb hby d3_116)
  have Fw29 := F28.same W29
  have N29 := Fr.snoc X29 N26 g_a1
  have F31 := (F30.wr W29)
  have F32 := ((F23.other W26 (Or.inl ne_a1_b7)).other W29 (Or.inr (slot_ne (Or.inl (hw _ (List.mem_of_getElem? (i := 12) rfl))) (Or.inl (hw _ (List.mem_of_getElem? (i := 19) rfl))) (by decide) (t := (.array (.array .int))) (t' := .int) (by decide) (by decide))))
  have F33 := ((F24.other W26 ne_ab_b7).other W29 (Ne.symm ne_a1_ab))
  have F34 := (V26.other W29 (Ne.symm ne_a1_b7))
  obtain ⟨fs, hr, hrun, hended, hW, hsame⟩ := X29.leave (v := none) (fun _ => rfl)
  refine ⟨_, _, pre0 _ ?_, hrun, hended, _, _, rfl, ?_, ⟨_, rfl⟩, hW, hsame.mono (by decide) (by decide)⟩
  · show Steps p.tables e below (s₁.setTop (mkF m 0 #[.val (.ref a1), .val (.int p2), .val (.int p3), .val (.int p4), .unset, .unset] [])) _
    refine XS.aloadN X0.here hx rfl (hb hby d3_0) rfl rfl ?_
    show Steps p.tables e below (s₁.setTop (mkF m 1 #[.val (.ref a1), .val (.int p2), .val (.int p3), .val (.int p4), .unset, .unset] [(.ref a1)])) _
    refine st1 _ ?_
    show Steps p.tables e below (T1.setTop (mkF m 4 #[.val (.ref a1), .val (.int p2), .val (.int p3), .val (.int p4), .unset, .unset] [(.int (0 : Int32))])) _
    refine XS.bipush X1.here hx rfl (hb hby d3_4) ?_
    show Steps p.tables e below (T1.setTop (mkF m 6 #[.val (.ref a1), .val (.int p2), .val (.int p3), .val (.int p4), .unset, .unset] [(.int (16 : Int32)), (.int (0 : Int32))])) _
    refine XS.iushr X1.here hx rfl (hb hby d3_6) rfl ?_
    show Steps p.tables e below (T1.setTop (mkF m 7 #[.val (.ref a1), .val (.int p2), .val (.int p3), .val (.int p4), .unset, .unset] [(.int (0 : Int32))])) _
    refine XS.istore X1.here hx rfl (hb hby d3_7) rfl (l' := #[.val (.ref a1), .val (.int p2), .val (.int p3), .val (.int p4), .val (.int (0 : Int32)), .unset]) rfl ?_
    show Steps p.tables e below (T1.setTop (mkF m 9 #[.val (.ref a1), .val (.int p2), .val (.int p3), .val (.int p4), .val (.int (0 : Int32)), .unset] [])) _
    refine XS.iload X1.here hx rfl (hb hby d3_9) rfl ?_
    show Steps p.tables e below (T1.setTop (mkF m 11 #[.val (.ref a1), .val (.int p2), .val (.int p3), .val (.int p4), .val (.int (0 : Int32)), .unset] [(.int (0 : Int32))])) _
    refine XS.aloadN X1.here hx rfl (hb hby d3_11) rfl rfl ?_
    show Steps p.tables e below (T1.setTop (mkF m 12 #[.val (.ref a1), .val (.int p2), .val (.int p3), .val (.int p4), .val (.int (0 : Int32)), .unset] [(.ref a1), (.int (0 : Int32))])) _
    refine st2 _ ?_
    show Steps p.tables e below (T2.setTop (mkF m 15 #[.val (.ref a1), .val (.int p2), .val (.int p3), .val (.int p4), .val (.int (0 : Int32)), .unset] [(.ref ab), (.int (0 : Int32))])) _
    refine X2.arraylength hx (by rw [e2]; exact Ar3.1) (State.isArrayOf_alike hZ.alike Ar3.2.1) (g := (mkF m 15 #[.val (.ref a1), .val (.int p2), .val (.int p3), .val (.int p4), .val (.int (0 : Int32)), .unset] [(.ref ab), (.int (0 : Int32))])) rfl rfl (hb hby d3_15) _ ?_
    rw [len_of vS3 vN3]
    show Steps p.tables e below (T2.setTop (mkF m 16 #[.val (.ref a1), .val (.int p2), .val (.int p3), .val (.int p4), .val (.int (0 : Int32)), .unset] [(.int (16 : Int32)), (.int (0 : Int32))])) _
    refine XS.icmpYes X2.here hx rfl (pc0 := 16) (pc' := 40) rfl (hb hby d3_16) rfl (feq (by decide : ¬ ((0 : Int32) = (16 : Int32)))).2 (by decide) (by decide) ?_
    show Steps p.tables e below (T2.setTop (mkF m 40 #[.val (.ref a1), .val (.int p2), .val (.int p3), .val (.int p4), .val (.int (0 : Int32)), .unset] [])) _
    refine XS.aloadN X2.here hx rfl (hb hby d3_40) rfl rfl ?_
    show Steps p.tables e below (T2.setTop (mkF m 41 #[.val (.ref a1), .val (.int p2), .val (.int p3), .val (.int p4), .val (.int (0 : Int32)), .unset] [(.ref a1)])) _
    refine st4 _ ?_
    show Steps p.tables e below (T4.setTop (mkF m 44 #[.val (.ref a1), .val (.int p2), .val (.int p3), .val (.int p4), .val (.int (0 : Int32)), .unset] [(.ref ab)])) _
    refine XS.iload X4.here hx rfl (hb hby d3_44) rfl ?_
    show Steps p.tables e below (T4.setTop (mkF m 46 #[.val (.ref a1), .val (.int p2), .val (.int p3), .val (.int p4), .val (.int (0 : Int32)), .unset] [(.int (0 : Int32)), (.ref ab)])) _
    refine X4.aaload hx (j := (0 : Int32)) (v := .null) (by rw [e4]; exact Ar5.1) (State.isArrayOf_alike hZ.alike Ar5.2.1) rfl Ar5.2.2 hin5 (vH5.at hin5 rfl) (g := (mkF m 46 #[.val (.ref a1), .val (.int p2), .val (.int p3), .val (.int p4), .val (.int (0 : Int32)), .unset] [(.int (0 : Int32)), (.ref ab)])) rfl rfl (hb hby d3_46) _ ?_
    show Steps p.tables e below (T4.setTop (mkF m 47 #[.val (.ref a1), .val (.int p2), .val (.int p3), .val (.int p4), .val (.int (0 : Int32)), .unset] [.null])) _
    refine XS.ifnonnullNo X4.here hx rfl (hb hby d3_47) rfl ?_
    show Steps p.tables e below (T4.setTop (mkF m 50 #[.val (.ref a1), .val (.int p2), .val (.int p3), .val (.int p4), .val (.int (0 : Int32)), .unset] [])) _
    refine XS.aloadN X4.here hx rfl (hb hby d3_50) rfl rfl ?_
    show Steps p.tables e below (T4.setTop (mkF m 51 #[.val (.ref a1), .val (.int p2), .val (.int p3), .val (.int p4), .val (.int (0 : Int32)), .unset] [(.ref a1)])) _
    refine st6 _ ?_
    show Steps p.tables e below (T6.setTop (mkF m 54 #[.val (.ref a1), .val (.int p2), .val (.int p3), .val (.int p4), .val (.int (0 : Int32)), .unset] [(.ref ab)])) _
    refine XS.iload X6.here hx rfl (hb hby d3_54) rfl ?_
    show Steps p.tables e below (T6.setTop (mkF m 56 #[.val (.ref a1), .val (.int p2), .val (.int p3), .val (.int p4), .val (.int (0 : Int32)), .unset] [(.int (0 : Int32)), (.ref ab)])) _
    refine X6.ldcInt hx hown (mvT hZ (hw _ (List.mem_of_getElem? (i := 20) rfl))) (g := (mkF m 56 #[.val (.ref a1), .val (.int p2), .val (.int p3), .val (.int p4), .val (.int (0 : Int32)), .unset] [(.int (0 : Int32)), (.ref ab)])) rfl (hb hby d3_56) _ ?_
    show Steps p.tables e below (T6.setTop (mkF m 58 #[.val (.ref a1), .val (.int p2), .val (.int p3), .val (.int p4), .val (.int (0 : Int32)), .unset] [(.int (196608 : Int32)), (.int (0 : Int32)), (.ref ab)])) _
    refine st7 _ ?_
    show Steps p.tables e below (T7.setTop (mkF m 60 #[.val (.ref a1), .val (.int p2), .val (.int p3), .val (.int p4), .val (.int (0 : Int32)), .unset] [(.ref b7), (.int (0 : Int32)), (.ref ab)])) _
    refine st9 _ ?_
    show Steps p.tables e below (T9.setTop (mkF m 61 #[.val (.ref a1), .val (.int p2), .val (.int p3), .val (.int p4), .val (.int (0 : Int32)), .unset] [])) _
    refine XS.iconst X9.here hx rfl (hb hby d3_61) ?_
    show Steps p.tables e below (T9.setTop (mkF m 62 #[.val (.ref a1), .val (.int p2), .val (.int p3), .val (.int p4), .val (.int (0 : Int32)), .unset] [(.int (3 : Int32))])) _
    refine XS.aloadN X9.here hx rfl (hb hby d3_62) rfl rfl ?_
    show Steps p.tables e below (T9.setTop (mkF m 63 #[.val (.ref a1), .val (.int p2), .val (.int p3), .val (.int p4), .val (.int (0 : Int32)), .unset] [(.ref a1), (.int (3 : Int32))])) _
    refine st10 _ ?_
    show Steps p.tables e below (T10.setTop (mkF m 66 #[.val (.ref a1), .val (.int p2), .val (.int p3), .val (.int p4), .val (.int (0 : Int32)), .unset] [(.int (0 : Int32)), (.int (3 : Int32))])) _
    refine X10.ldcInt hx hown (mvT hZ (hw _ (List.mem_of_getElem? (i := 23) rfl))) (g := (mkF m 66 #[.val (.ref a1), .val (.int p2), .val (.int p3), .val (.int p4), .val (.int (0 : Int32)), .unset] [(.int (0 : Int32)), (.int (3 : Int32))])) rfl (hb hby d3_66) _ ?_
    show Steps p.tables e below (T10.setTop (mkF m 68 #[.val (.ref a1), .val (.int p2), .val (.int p3), .val (.int p4), .val (.int (0 : Int32)), .unset] [(.int (65535 : Int32)), (.int (0 : Int32)), (.int (3 : Int32))])) _
    refine XS.iand X10.here hx rfl (hb hby d3_68) rfl ?_
    show Steps p.tables e below (T10.setTop (mkF m 69 #[.val (.ref a1), .val (.int p2), .val (.int p3), .val (.int p4), .val (.int (0 : Int32)), .unset] [(.int (0 : Int32)), (.int (3 : Int32))])) _
    refine XS.imul X10.here hx rfl (hb hby d3_69) rfl ?_
    show Steps p.tables e below (T10.setTop (mkF m 70 #[.val (.ref a1), .val (.int p2), .val (.int p3), .val (.int p4), .val (.int (0 : Int32)), .unset] [(.int (0 : Int32))])) _
    refine XS.istore X10.here hx rfl (hb hby d3_70) rfl (l' := #[.val (.ref a1), .val (.int p2), .val (.int p3), .val (.int p4), .val (.int (0 : Int32)), .val (.int (0 : Int32))]) rfl ?_
    show Steps p.tables e below (T10.setTop (mkF m 72 #[.val (.ref a1), .val (.int p2), .val (.int p3), .val (.int p4), .val (.int (0 : Int32)), .val (.int (0 : Int32))] [])) _
    refine XS.aloadN X10.here hx rfl (hb hby d3_72) rfl rfl ?_
    show Steps p.tables e below (T10.setTop (mkF m 73 #[.val (.ref a1), .val (.int p2), .val (.int p3), .val (.int p4), .val (.int (0 : Int32)), .val (.int (0 : Int32))] [(.ref a1)])) _
    refine st12 _ ?_
    show Steps p.tables e below (T12.setTop (mkF m 76 #[.val (.ref a1), .val (.int p2), .val (.int p3), .val (.int p4), .val (.int (0 : Int32)), .val (.int (0 : Int32))] [(.ref ab)])) _
    refine XS.iload X12.here hx rfl (hb hby d3_76) rfl ?_
    show Steps p.tables e below (T12.setTop (mkF m 78 #[.val (.ref a1), .val (.int p2), .val (.int p3), .val (.int p4), .val (.int (0 : Int32)), .val (.int (0 : Int32))] [(.int (0 : Int32)), (.ref ab)])) _
    refine X12.aaload hx (j := (0 : Int32)) (v := (.ref b7)) (by rw [e12]; exact Ar14.1) (State.isArrayOf_alike hZ.alike Ar14.2.1) rfl Ar14.2.2 hin14 (vH14.at hin14 rfl) (g := (mkF m 78 #[.val (.ref a1), .val (.int p2), .val (.int p3), .val (.int p4), .val (.int (0 : Int32)), .val (.int (0 : Int32))] [(.int (0 : Int32)), (.ref ab)])) rfl rfl (hb hby d3_78) _ ?_
    show Steps p.tables e below (T12.setTop (mkF m 79 #[.val (.ref a1), .val (.int p2), .val (.int p3), .val (.int p4), .val (.int (0 : Int32)), .val (.int (0 : Int32))] [(.ref b7)])) _
    refine XS.iload X12.here hx rfl (hb hby d3_79) rfl ?_
    show Steps p.tables e below (T12.setTop (mkF m 81 #[.val (.ref a1), .val (.int p2), .val (.int p3), .val (.int p4), .val (.int (0 : Int32)), .val (.int (0 : Int32))] [(.int (0 : Int32)), (.ref b7)])) _
    refine XS.iloadN X12.here hx rfl (hb hby d3_81) rfl ?_
    show Steps p.tables e below (T12.setTop (mkF m 82 #[.val (.ref a1), .val (.int p2), .val (.int p3), .val (.int p4), .val (.int (0 : Int32)), .val (.int (0 : Int32))] [(.int p2), (.int (0 : Int32)), (.ref b7)])) _
    refine st16 _ ?_
    show Steps p.tables e below (T16.setTop (mkF m 83 #[.val (.ref a1), .val (.int p2), .val (.int p3), .val (.int p4), .val (.int (0 : Int32)), .val (.int (0 : Int32))] [])) _
    refine XS.aloadN X16.here hx rfl (hb hby d3_83) rfl rfl ?_
    show Steps p.tables e below (T16.setTop (mkF m 84 #[.val (.ref a1), .val (.int p2), .val (.int p3), .val (.int p4), .val (.int (0 : Int32)), .val (.int (0 : Int32))] [(.ref a1)])) _
    refine st17 _ ?_
    show Steps p.tables e below (T17.setTop (mkF m 87 #[.val (.ref a1), .val (.int p2), .val (.int p3), .val (.int p4), .val (.int (0 : Int32)), .val (.int (0 : Int32))] [(.ref ab)])) _
    refine XS.iload X17.here hx rfl (hb hby d3_87) rfl ?_
    show Steps p.tables e below (T17.setTop (mkF m 89 #[.val (.ref a1), .val (.int p2), .val (.int p3), .val (.int p4), .val (.int (0 : Int32)), .val (.int (0 : Int32))] [(.int (0 : Int32)), (.ref ab)])) _
    refine X17.aaload hx (j := (0 : Int32)) (v := (.ref b7)) (by rw [e17]; exact Ar20.1) (State.isArrayOf_alike hZ.alike Ar20.2.1) rfl Ar20.2.2 hin20 (vH20.at hin20 rfl) (g := (mkF m 89 #[.val (.ref a1), .val (.int p2), .val (.int p3), .val (.int p4), .val (.int (0 : Int32)), .val (.int (0 : Int32))] [(.int (0 : Int32)), (.ref ab)])) rfl rfl (hb hby d3_89) _ ?_
    show Steps p.tables e below (T17.setTop (mkF m 90 #[.val (.ref a1), .val (.int p2), .val (.int p3), .val (.int p4), .val (.int (0 : Int32)), .val (.int (0 : Int32))] [(.ref b7)])) _
    refine XS.iload X17.here hx rfl (hb hby d3_90) rfl ?_
    show Steps p.tables e below (T17.setTop (mkF m 92 #[.val (.ref a1), .val (.int p2), .val (.int p3), .val (.int p4), .val (.int (0 : Int32)), .val (.int (0 : Int32))] [(.int (0 : Int32)), (.ref b7)])) _
    refine XS.iconst X17.here hx rfl (hb hby d3_92) ?_
    show Steps p.tables e below (T17.setTop (mkF m 93 #[.val (.ref a1), .val (.int p2), .val (.int p3), .val (.int p4), .val (.int (0 : Int32)), .val (.int (0 : Int32))] [(.int (1 : Int32)), (.int (0 : Int32)), (.ref b7)])) _
    refine XS.iadd X17.here hx rfl (hb hby d3_93) rfl ?_
    show Steps p.tables e below (T17.setTop (mkF m 94 #[.val (.ref a1), .val (.int p2), .val (.int p3), .val (.int p4), .val (.int (0 : Int32)), .val (.int (0 : Int32))] [(.int (1 : Int32)), (.ref b7)])) _
    refine XS.iloadN X17.here hx rfl (hb hby d3_94) rfl ?_
    show Steps p.tables e below (T17.setTop (mkF m 95 #[.val (.ref a1), .val (.int p2), .val (.int p3), .val (.int p4), .val (.int (0 : Int32)), .val (.int (0 : Int32))] [(.int p3), (.int (1 : Int32)), (.ref b7)])) _
    refine st21 _ ?_
    show Steps p.tables e below (T21.setTop (mkF m 96 #[.val (.ref a1), .val (.int p2), .val (.int p3), .val (.int p4), .val (.int (0 : Int32)), .val (.int (0 : Int32))] [])) _
    refine XS.aloadN X21.here hx rfl (hb hby d3_96) rfl rfl ?_
    show Steps p.tables e below (T21.setTop (mkF m 97 #[.val (.ref a1), .val (.int p2), .val (.int p3), .val (.int p4), .val (.int (0 : Int32)), .val (.int (0 : Int32))] [(.ref a1)])) _
    refine st22 _ ?_
    show Steps p.tables e below (T22.setTop (mkF m 100 #[.val (.ref a1), .val (.int p2), .val (.int p3), .val (.int p4), .val (.int (0 : Int32)), .val (.int (0 : Int32))] [(.ref ab)])) _
    refine XS.iload X22.here hx rfl (hb hby d3_100) rfl ?_
    show Steps p.tables e below (T22.setTop (mkF m 102 #[.val (.ref a1), .val (.int p2), .val (.int p3), .val (.int p4), .val (.int (0 : Int32)), .val (.int (0 : Int32))] [(.int (0 : Int32)), (.ref ab)])) _
    refine X22.aaload hx (j := (0 : Int32)) (v := (.ref b7)) (by rw [e22]; exact Ar25.1) (State.isArrayOf_alike hZ.alike Ar25.2.1) rfl Ar25.2.2 hin25 (vH25.at hin25 rfl) (g := (mkF m 102 #[.val (.ref a1), .val (.int p2), .val (.int p3), .val (.int p4), .val (.int (0 : Int32)), .val (.int (0 : Int32))] [(.int (0 : Int32)), (.ref ab)])) rfl rfl (hb hby d3_102) _ ?_
    show Steps p.tables e below (T22.setTop (mkF m 103 #[.val (.ref a1), .val (.int p2), .val (.int p3), .val (.int p4), .val (.int (0 : Int32)), .val (.int (0 : Int32))] [(.ref b7)])) _
    refine XS.iload X22.here hx rfl (hb hby d3_103) rfl ?_
    show Steps p.tables e below (T22.setTop (mkF m 105 #[.val (.ref a1), .val (.int p2), .val (.int p3), .val (.int p4), .val (.int (0 : Int32)), .val (.int (0 : Int32))] [(.int (0 : Int32)), (.ref b7)])) _
    refine XS.iconst X22.here hx rfl (hb hby d3_105) ?_
    show Steps p.tables e below (T22.setTop (mkF m 106 #[.val (.ref a1), .val (.int p2), .val (.int p3), .val (.int p4), .val (.int (0 : Int32)), .val (.int (0 : Int32))] [(.int (2 : Int32)), (.int (0 : Int32)), (.ref b7)])) _
    refine XS.iadd X22.here hx rfl (hb hby d3_106) rfl ?_
    show Steps p.tables e below (T22.setTop (mkF m 107 #[.val (.ref a1), .val (.int p2), .val (.int p3), .val (.int p4), .val (.int (0 : Int32)), .val (.int (0 : Int32))] [(.int (2 : Int32)), (.ref b7)])) _
    refine XS.iloadN X22.here hx rfl (hb hby d3_107) rfl ?_
    show Steps p.tables e below (T22.setTop (mkF m 108 #[.val (.ref a1), .val (.int p2), .val (.int p3), .val (.int p4), .val (.int (0 : Int32)), .val (.int (0 : Int32))] [(.int p4), (.int (2 : Int32)), (.ref b7)])) _
    refine st26 _ ?_
    show Steps p.tables e below (T26.setTop (mkF m 109 #[.val (.ref a1), .val (.int p2), .val (.int p3), .val (.int p4), .val (.int (0 : Int32)), .val (.int (0 : Int32))] [])) _
    refine XS.aloadN X26.here hx rfl (hb hby d3_109) rfl rfl ?_
    show Steps p.tables e below (T26.setTop (mkF m 110 #[.val (.ref a1), .val (.int p2), .val (.int p3), .val (.int p4), .val (.int (0 : Int32)), .val (.int (0 : Int32))] [(.ref a1)])) _
    refine XS.dup X26.here hx rfl (hb hby d3_110) rfl rfl ?_
    show Steps p.tables e below (T26.setTop (mkF m 111 #[.val (.ref a1), .val (.int p2), .val (.int p3), .val (.int p4), .val (.int (0 : Int32)), .val (.int (0 : Int32))] [(.ref a1), (.ref a1)])) _
    refine st27 _ ?_
    show Steps p.tables e below (T27.setTop (mkF m 114 #[.val (.ref a1), .val (.int p2), .val (.int p3), .val (.int p4), .val (.int (0 : Int32)), .val (.int (0 : Int32))] [(.int (0 : Int32)), (.ref a1)])) _
    refine XS.iconst X27.here hx rfl (hb hby d3_114) ?_
    show Steps p.tables e below (T27.setTop (mkF m 115 #[.val (.ref a1), .val (.int p2), .val (.int p3), .val (.int p4), .val (.int (0 : Int32)), .val (.int (0 : Int32))] [(.int (1 : Int32)), (.int (0 : Int32)), (.ref a1)])) _
    refine XS.iadd X27.here hx rfl (hb hby d3_115) rfl ?_
    show Steps p.tables e below (T27.setTop (mkF m 116 #[.val (.ref a1), .val (.int p2), .val (.int p3), .val (.int p4), .val (.int (0 : Int32)), .val (.int (0 : Int32))] [(.int (1 : Int32)), (.ref a1)])) _
    refine st29 _ ?_
    show Steps p.tables e below (T29.setTop (mkF m 119 #[.val (.ref a1), .val (.int p2), .val (.int p3), .val (.int p4), .val (.int (0 : Int32)), .val (.int (0 : Int32))] [])) _
    exact X29.returnOut hx Bd.returns (hb hby d3_119) hr
  · show Q_add0 Z a1 p2 p3 p4 ab akb h0 n0 _ T29.heap _
    rw [e29]
    exact ⟨b7, k7, rfl, N29, (((((((Keep.refl h0 [a1, ab]).ext E7).wr W9 (Or.inl (List.mem_of_getElem? (i := 1) rfl))).wr W16 (Or.inr sz_b7)).wr W21 (Or.inr sz_b7)).wr W26 (Or.inr sz_b7)).wr W29 (Or.inl (List.mem_of_getElem? (i := 0) rfl))), sz_b7, F31, F32, Fw29, F33, r4, F34⟩
def Q_add1 (Z : State) (a1 : Addr) (p2 : Int32) (p3 : Int32) (p4 : Int32) (ab : Addr) (akb : ClassId) (ac : Addr) (akc : ClassId) (y0 : Int32) (y1 : Int32) (y2 : Int32) (h0 : Heap) (n0 : Nat) (v : Option Value) (h : Heap) (L : List Loc) : Prop := v = none ∧ Fr n0 L ∧ Keep h0 h [a1, ac] ∧ Exa Z h a1 "com/example/keysmith/keysmith/TripleBuffer" ∧ Fld Z h a1 "com/example/keysmith/keysmith/TripleBuffer" "blocks" "[[I" (.ref ab) ∧ Fld Z h a1 "com/example/keysmith/keysmith/TripleBuffer" "size" "I" (.int (2 : Int32)) ∧ Arv Z h ab akb (.array .int) (16 : Int32) [(.ref ac), .null, .null, .null, .null, .null, .null, .null, .null, .null, .null, .null, .null, .null, .null, .null] .null ∧ OvrA Z akb .int "[I" ∧ Arv Z h ac akc .int (196608 : Int32) [(.int y0), (.int y1), (.int y2), (.int p2), (.int p3), (.int p4), (.int (0 : Int32)), (.int (0 : Int32)), (.int (0 : Int32))] (.int (0 : Int32))
set_option maxRecDepth 65536 in
set_option maxHeartbeats 40000000 in
theorem rm_add1 (l : Launch) (Z : State) (a0 : Array Value) (hw : ∀ d ∈ tables_1, d.before a0 Z = true) (ws : List Jvm.Cond) (a1 : Addr) (p2 : Int32) (p3 : Int32) (p4 : Int32) (ab : Addr) (akb : ClassId) (ac : Addr) (akc : ClassId) (y0 : Int32) (y1 : Int32) (y2 : Int32) (h0 : Heap) (n0 : Nat) (Z0 : n0 ≤ h0.size) (O0 : Old Z n0 h0) (r0 : Exa Z h0 a1 "com/example/keysmith/keysmith/TripleBuffer") (r1 : Fld Z h0 a1 "com/example/keysmith/keysmith/TripleBuffer" "blocks" "[[I" (.ref ab)) (r2 : Fld Z h0 a1 "com/example/keysmith/keysmith/TripleBuffer" "size" "I" (.int (1 : Int32))) (r3 : Arv Z h0 ab akb (.array .int) (16 : Int32) [(.ref ac), .null, .null, .null, .null, .null, .null, .null, .null, .null, .null, .null, .null, .null, .null, .null] .null) (r4 : OvrA Z akb .int "[I") (r5 : Arv Z h0 ac akc .int (196608 : Int32) [(.int y0), (.int y1), (.int y2), (.int (0 : Int32)), (.int (0 : Int32)), (.int (0 : Int32)), (.int (0 : Int32)), (.int (0 : Int32)), (.int (0 : Int32))] (.int (0 : Int32))) (g_a1 : n0 ≤ a1) (g_ac : n0 ≤ ac) (ne_a1_ab : a1 ≠ ab) (ne_a1_ac : a1 ≠ ac) (ne_ab_ac : ab ≠ ac) :
    MetFree l (⟨"com/example/keysmith/keysmith/TripleBuffer", "add", "(III)V"⟩ : MethodName) (head1 (Jvm.Cond.code (⟨"com/example/keysmith/keysmith/TripleBuffer", "add", "(III)V"⟩ : MethodName) prog_15_method_2_code 6 none :: ws) ({ frames := 0, cells := 0, slots := 0, locals := 0 } : Room)) (fun a U => a = #[(.ref a1), (.int p2), (.int p3), (.int p4)] ∧ Z.Warmed39 U.vm ∧ U.heap = h0) (fun _ _ _ _ _ => True) (fun _ U o U' => ∃ v L, o = .returned v ∧ Q_add1 Z a1 p2 p3 p4 ab akb ac akc y0 y1 y2 h0 n0 v U'.heap L ∧ FrameEnd U o U' L ({ frames := 0, cells := 0, slots := 0, locals := 0 } : Room).cells ({ frames := 0, cells := 0, slots := 0, locals := 0 } : Room).slots) := by
  refine MetFree.of_bodySF (plainFor_of_name pn_TripleBuffer) hisR ?_
  intro p e s m args below meth c s₁ Bd hml0 hP hK
  obtain ⟨rfl, hZ, hh⟩ := hP
  have hx := Bd.exec
  have hby := Bd.bytes
  have hml : c.maxLocals = 6 := hml0
  have hown : s.vm.findClass "com/example/keysmith/keysmith/TripleBuffer" = some m.cls := findClass_of_methodNamed Bd.named
  have hnm := (name_of_methodNamed Bd.named Bd.method).1
  have X0 : Stand p l e ({ frames := 0, cells := 0, slots := 0, locals := 0 } : Room) s m #[(.ref a1), (.int p2), (.int p3), (.int p4)] below meth c s₁ [] 0 0 := Stand.of_body Bd
  have e0 : s₁.heap = h0 := by rw [← hh, Bd.state]; rfl
  have N0 := Fr.nil n0
  have pre0 : ∀ t, Steps p.tables e below (s₁.setTop (mkF m 0 #[.val (.ref a1), .val (.int p2), .val (.int p3), .val (.int p4), .unset, .unset] [])) t → Steps p.tables e below (s₁.setTop (entryFrame m #[(.ref a1), (.int p2), (.int p3), (.int p4)] 6)) t := fun t k => castTop (ef_add1 m a1 p2 p3 p4) k
  obtain ⟨T1, X1, e1, st1⟩ := getF X0 hx hZ hown (host := "") (Or.inl (hw _ (List.mem_of_getElem? (i := 18) rfl))) Via.refl e0 r2 (g := (mkF m 1 #[.val (.ref a1), .val (.int p2), .val (.int p3), .val (.int p4), .unset, .unset] [(.ref a1)])) rfl rfl (hb hby d3_1)
  obtain ⟨T2, X2, e2, st2⟩ := getF X1 hx hZ hown (host := "") (Or.inl (hw _ (List.mem_of_getElem? (i := 11) rfl))) Via.refl e1 r1 (g := (mkF m 12 #[.val (.ref a1), .val (.int p2), .val (.int p3), .val (.int p4), .val (.int (0 : Int32)), .unset] [(.ref a1), (.int (0 : Int32))])) rfl rfl (hb hby d3_12)
  obtain ⟨cl3, Ar3, vq3, vS3, vN3, vH3, vG3⟩ := id r3
  obtain ⟨T4, X4, e4, st4⟩ := getF X2 hx hZ hown (host := "") (Or.inl (hw _ (List.mem_of_getElem? (i := 11) rfl))) Via.refl e2 r1 (g := (mkF m 41 #[.val (.ref a1), .val (.int p2), .val (.int p3), .val (.int p4), .val (.int (0 : Int32)), .unset] [(.ref a1)])) rfl rfl (hb hby d3_41)
  obtain ⟨cl5, Ar5, vq5, vS5, vN5, vH5, vG5⟩ := id r3
  have hin5 : ¬ (((0 : Int32) : Int32) < 0 ∨ cl5.slots.size ≤ ((0 : Int32) : Int32).toNatClampNeg) := inb_of vS5 ⟨by decide, by decide⟩
  obtain ⟨T6, X6, e6, st6⟩ := getF X4 hx hZ hown (host := "") (Or.inl (hw _ (List.mem_of_getElem? (i := 18) rfl))) Via.refl e4 r2 (g := (mkF m 63 #[.val (.ref a1), .val (.int p2), .val (.int p3), .val (.int p4), .val (.int (0 : Int32)), .unset] [(.ref a1), (.int (3 : Int32))])) rfl rfl (hb hby d3_63)
  obtain ⟨T7, X7, e7, st7⟩ := getF X6 hx hZ hown (host := "") (Or.inl (hw _ (List.mem_of_getElem? (i := 11) rfl))) Via.refl e6 r1 (g := (mkF m 73 #[.val (.ref a1), .val (.int p2), .val (.int p3), .val (.int p4), .val (.int (0 : Int32)), .val (.int (3 : Int32))] [(.ref a1)])) rfl rfl (hb hby d3_73)
  obtain ⟨cl8, Ar8, vq8, vS8, vN8, vH8, vG8⟩ := id r3
  have hin8 : ¬ (((0 : Int32) : Int32) < 0 ∨ cl8.slots.size ≤ ((0 : Int32) : Int32).toNatClampNeg) := inb_of vS8 ⟨by decide, by decide⟩
  obtain ⟨cl9, Ar9, vq9, vS9, vN9, vH9, vG9⟩ := id r5
  have hin9 : ¬ (((3 : Int32) : Int32) < 0 ∨ cl9.slots.size ≤ ((3 : Int32) : Int32).toNatClampNeg) := inb_of vS9 ⟨by decide, by decide⟩
  obtain ⟨T9, h9, X9, e9, W9, st9⟩ := stI X7 hx hZ e7 Ar9 (j := (3 : Int32)) hin9 (g := (mkF m 82 #[.val (.ref a1), .val (.int p2), .val (.int p3), .val (.int p4), .val (.int (0 : Int32)), .val (.int (3 : Int32))] [(.int p2), (.int (3 : Int32)), (.ref ac)])) rfl rfl (hb hby d3_82)
  have V9 : Arv Z h9 ac akc .int (196608 : Int32) [(.int y0), (.int y1), (.int y2), (.int p2), (.int (0 : Int32)), (.int (0 : Int32)), (.int (0 : Int32)), (.int (0 : Int32)), (.int (0 : Int32))] (.int (0 : Int32)) := Arv.set Ar9 vq9 vS9 vN9 vH9 vG9 rfl W9 3 rfl (Nat.le_of_ble_eq_true rfl)
  have N9 := Fr.snoc X9 N0 g_ac
  have F11 := (r1.other W9 (Or.inl ne_a1_ac))
  obtain ⟨T10, X10, e10, st10⟩ := getF X9 hx hZ hown (host := "") (Or.inl (hw _ (List.mem_of_getElem? (i := 11) rfl))) Via.refl e9 F11 (g := (mkF m 84 #[.val (.ref a1), .val (.int p2), .val (.int p3), .val (.int p4), .val (.int (0 : Int32)), .val (.int (3 : Int32))] [(.ref a1)])) rfl rfl (hb hby d3_84)
  have F12 := (r3.other W9 ne_ab_ac)
  obtain ⟨cl13, Ar13, vq13, vS13, vN13, vH13, vG13⟩ := id F12
  have hin13 : ¬ (((0 : Int32) : Int32) < 0 ∨ cl13.slots.size ≤ ((0 : Int32) : Int32).toNatClampNeg) := inb_of vS13 ⟨by decide, by decide⟩
  obtain ⟨cl14, Ar14, vq14, vS14, vN14, vH14, vG14⟩ := id V9
  have hin14 : ¬ (((4 : Int32) : Int32) < 0 ∨ cl14.slots.size ≤ ((4 : Int32) : Int32).toNatClampNeg) := inb_of vS14 ⟨by decide, by decide⟩
  obtain ⟨T14, h14, X14, e14, W14, st14⟩ := stI X10 hx hZ e10 Ar14 (j := (4 : Int32)) hin14 (g := (mkF m 95 #[.val (.ref a1), .val (.int p2), .val (.int p3), .val (.int p4), .val (.int (0 : Int32)), .val (.int (3 : Int32))] [(.int p3), (.int (4 : Int32)), (.ref ac)])) rfl rfl (hb hby d3_95)
  have V14 : Arv Z h14 ac akc .int (196608 : Int32) [(.int y0), (.int y1), (.int y2), (.int p2), (.int p3), (.int (0 : Int32)), (.int (0 : Int32)), (.int (0 : Int32)), (.int (0 : Int32))] (.int (0 : Int32)) := Arv.set Ar14 vq14 vS14 vN14 vH14 vG14 rfl W14 4 rfl (Nat.le_of_ble_eq_true rfl)
  have N14 := Fr.snoc X14 N9 g_ac
  have F16 := (F11.other W14 (Or.inl ne_a1_ac))
  obtain ⟨T15, X15, e15, st15⟩ := getF X14 hx hZ hown (host := "") (Or.inl (hw _ (List.mem_of_getElem? (i := 11) rfl))) Via.refl e14 F16 (g := (mkF m 97 #[.val (.ref a1), .val (.int p2), .val (.int p3), .val (.int p4), .val (.int (0 : Int32)), .val (.int (3 : Int32))] [(.ref a1)])) rfl rfl (hb hby d3_97)
  have F17 := (F12.other W14 ne_ab_ac)
  obtain ⟨cl18, Ar18, vq18, vS18, vN18, vH18, vG18⟩ := id F17
  have hin18 : ¬ (((0 : Int32) : Int32) < 0 ∨ cl18.slots.size ≤ ((0 : Int32) : Int32).toNatClampNeg) := inb_of vS18 ⟨by decide, by decide⟩
  obtain ⟨cl19, Ar19, vq19, vS19, vN19, vH19, vG19⟩ := id V14
  have hin19 : ¬ (((5 : Int32) : Int32) < 0 ∨ cl19.slots.size ≤ ((5 : Int32) : Int32).toNatClampNeg) := inb_of vS19 ⟨by decide, by decide⟩
  obtain ⟨T19, h19, X19, e19, W19, st19⟩ := stI X15 hx hZ e15 Ar19 (j := (5 : Int32)) hin19 (g := (mkF m 108 #[.val (.ref a1), .val (.int p2), .val (.int p3), .val (.int p4), .val (.int (0 : Int32)), .val (.int (3 : Int32))] [(.int p4), (.int (5 : Int32)), (.ref ac)])) rfl rfl (hb hby d3_108)
  have V19 : Arv Z h19 ac akc .int (196608 : Int32) [(.int y0), (.int y1), (.int y2), (.int p2), (.int p3), (.int p4), (.int (0 : Int32)), (.int (0 : Int32)), (.int (0 : Int32))] (.int (0 : Int32)) := Arv.set Ar19 vq19 vS19 vN19 vH19 vG19 rfl W19 5 rfl (Nat.le_of_ble_eq_true rfl)
  have N19 := Fr.snoc X19 N14 g_ac
  have F21 := (((r2.other W9 (Or.inl ne_a1_ac)).other W14 (Or.inl ne_a1_ac)).other W19 (Or.inl ne_a1_ac))
  obtain ⟨T20, X20, e20, st20⟩ := getF X19 hx hZ hown (host := "") (Or.inl (hw _ (List.mem_of_getElem? (i := 18) rfl))) Via.refl e19 F21 (g := (mkF m 111 #[.val (.ref a1), .val (.int p2), .val (.int p3), .val (.int p4), .val (.int (0 : Int32)), .val (.int (3 : Int32))] [(.ref a1), (.ref a1)])) rfl rfl (hb hby d3_111)
  have F23 := (((r0.wr W9).wr W14).wr W19)
  obtain ⟨T22, h22, X22, e22, W22, st22⟩ := putF X20 hx hZ hown (host := "") (Or.inl (hw _ (List.mem_of_getElem? (i := 18) rfl))) Via.refl e20 F21 F23 (Or.inl (hw _ (List.mem_of_getElem? (i := 19) rfl))) (hw _ (List.mem_of_getElem? (i := 1) rfl)) (ty := .int) (by decide) rfl rfl (g := (mkF m 116 #[.val (.ref a1), .val (.int p2), .val (.int p3), .val (.int p4), .val (.int (0 : Int32)), .val (.int (3 : Int32))] [(.int (2 : Int32)), (.ref a1)])) rfl rfl (hb hby d3_116)
  have Fw22 := F21.same W22
  have N22 := Fr.snoc X22 N19 g_a1
  have F24 := (F23.wr W22)
  have F25 := ((F16.other W19 (Or.inl ne_a1_ac)).other W22 (Or.inr (slot_ne (Or.inl (hw _ (List.mem_of_getElem? (i := 12) rfl))) (Or.inl (hw _ (List.mem_of_getElem? (i := 19) rfl))) (by decide) (t := (.array (.array .int))) (t' := .int) (by decide) (by decide))))
  have F26 := ((F17.other W19 ne_ab_ac).other W22 (Ne.symm ne_a1_ab))
  have F27 := (V19.other W22 (Ne.symm ne_a1_ac))
  obtain ⟨fs, hr, hrun, hended, hW, hsame⟩ := X22.leave (v := none) (fun _ => rfl)
  refine ⟨_, _, pre0 _ ?_, hrun, hended, _, _, rfl, ?_, ⟨_, rfl⟩, hW, hsame.mono (by decide) (by decide)⟩
  · show Steps p.tables e below (s₁.setTop (mkF m 0 #[.val (.ref a1), .val (.int p2), .val (.int p3), .val (.int p4), .unset, .unset] [])) _
    refine XS.aloadN X0.here hx rfl (hb hby d3_0) rfl rfl ?_
    show Steps p.tables e below (s₁.setTop (mkF m 1 #[.val (.ref a1), .val (.int p2), .val (.int p3), .val (.int p4), .unset, .unset] [(.ref a1)])) _
    refine st1 _ ?_
    show Steps p.tables e below (T1.setTop (mkF m 4 #[.val (.ref a1), .val (.int p2), .val (.int p3), .val (.int p4), .unset, .unset] [(.int (1 : Int32))])) _
    refine XS.bipush X1.here hx rfl (hb hby d3_4) ?_
    show Steps p.tables e below (T1.setTop (mkF m 6 #[.val (.ref a1), .val (.int p2), .val (.int p3), .val (.int p4), .unset, .unset] [(.int (16 : Int32)), (.int (1 : Int32))])) _
    refine XS.iushr X1.here hx rfl (hb hby d3_6) rfl ?_
    show Steps p.tables e below (T1.setTop (mkF m 7 #[.val (.ref a1), .val (.int p2), .val (.int p3), .val (.int p4), .unset, .unset] [(.int (0 : Int32))])) _
    refine XS.istore X1.here hx rfl (hb hby d3_7) rfl (l' := #[.val (.ref a1), .val (.int p2), .val (.int p3), .val (.int p4), .val (.int (0 : Int32)), .unset]) rfl ?_
    show Steps p.tables e below (T1.setTop (mkF m 9 #[.val (.ref a1), .val (.int p2), .val (.int p3), .val (.int p4), .val (.int (0 : Int32)), .unset] [])) _
    refine XS.iload X1.here hx rfl (hb hby d3_9) rfl ?_
    show Steps p.tables e below (T1.setTop (mkF m 11 #[.val (.ref a1), .val (.int p2), .val (.int p3), .val (.int p4), .val (.int (0 : Int32)), .unset] [(.int (0 : Int32))])) _
    refine XS.aloadN X1.here hx rfl (hb hby d3_11) rfl rfl ?_
    show Steps p.tables e below (T1.setTop (mkF m 12 #[.val (.ref a1), .val (.int p2), .val (.int p3), .val (.int p4), .val (.int (0 : Int32)), .unset] [(.ref a1), (.int (0 : Int32))])) _
    refine st2 _ ?_
    show Steps p.tables e below (T2.setTop (mkF m 15 #[.val (.ref a1), .val (.int p2), .val (.int p3), .val (.int p4), .val (.int (0 : Int32)), .unset] [(.ref ab), (.int (0 : Int32))])) _
    refine X2.arraylength hx (by rw [e2]; exact Ar3.1) (State.isArrayOf_alike hZ.alike Ar3.2.1) (g := (mkF m 15 #[.val (.ref a1), .val (.int p2), .val (.int p3), .val (.int p4), .val (.int (0 : Int32)), .unset] [(.ref ab), (.int (0 : Int32))])) rfl rfl (hb hby d3_15) _ ?_
    rw [len_of vS3 vN3]
    show Steps p.tables e below (T2.setTop (mkF m 16 #[.val (.ref a1), .val (.int p2), .val (.int p3), .val (.int p4), .val (.int (0 : Int32)), .unset] [(.int (16 : Int32)), (.int (0 : Int32))])) _
    refine XS.icmpYes X2.here hx rfl (pc0 := 16) (pc' := 40) rfl (hb hby d3_16) rfl (feq (by decide : ¬ ((0 : Int32) = (16 : Int32)))).2 (by decide) (by decide) ?_
    show Steps p.tables e below (T2.setTop (mkF m 40 #[.val (.ref a1), .val (.int p2), .val (.int p3), .val (.int p4), .val (.int (0 : Int32)), .unset] [])) _
    refine XS.aloadN X2.here hx rfl (hb hby d3_40) rfl rfl ?_
    show Steps p.tables e below (T2.setTop (mkF m 41 #[.val (.ref a1), .val (.int p2), .val (.int p3), .val (.int p4), .val (.int (0 : Int32)), .unset] [(.ref a1)])) _
    refine st4 _ ?_
    show Steps p.tables e below (T4.setTop (mkF m 44 #[.val (.ref a1), .val (.int p2), .val (.int p3), .val (.int p4), .val (.int (0 : Int32)), .unset] [(.ref ab)])) _
    refine XS.iload X4.here hx rfl (hb hby d3_44) rfl ?_
    show Steps p.tables e below (T4.setTop (mkF m 46 #[.val (.ref a1), .val (.int p2), .val (.int p3), .val (.int p4), .val (.int (0 : Int32)), .unset] [(.int (0 : Int32)), (.ref ab)])) _
    refine X4.aaload hx (j := (0 : Int32)) (v := (.ref ac)) (by rw [e4]; exact Ar5.1) (State.isArrayOf_alike hZ.alike Ar5.2.1) rfl Ar5.2.2 hin5 (vH5.at hin5 rfl) (g := (mkF m 46 #[.val (.ref a1), .val (.int p2), .val (.int p3), .val (.int p4), .val (.int (0 : Int32)), .unset] [(.int (0 : Int32)), (.ref ab)])) rfl rfl (hb hby d3_46) _ ?_
    show Steps p.tables e below (T4.setTop (mkF m 47 #[.val (.ref a1), .val (.int p2), .val (.int p3), .val (.int p4), .val (.int (0 : Int32)), .unset] [(.ref ac)])) _
    refine XS.ifnonnullYes X4.here hx rfl (pc0 := 47) (pc' := 61) rfl (hb hby d3_47) rfl (by decide) (by decide) ?_
    show Steps p.tables e below (T4.setTop (mkF m 61 #[.val (.ref a1), .val (.int p2), .val (.int p3), .val (.int p4), .val (.int (0 : Int32)), .unset] [])) _
    refine XS.iconst X4.here hx rfl (hb hby d3_61) ?_
    show Steps p.tables e below (T4.setTop (mkF m 62 #[.val (.ref a1), .val (.int p2), .val (.int p3), .val (.int p4), .val (.int (0 : Int32)), .unset] [(.int (3 : Int32))])) _
    refine XS.aloadN X4.here hx rfl (hb hby d3_62) rfl rfl ?_
    show Steps p.tables e below (T4.setTop (mkF m 63 #[.val (.ref a1), .val (.int p2), .val (.int p3), .val (.int p4), .val (.int (0 : Int32)), .unset] [(.ref a1), (.int (3 : Int32))])) _
    refine st6 _ ?_
    show Steps p.tables e below (T6.setTop (mkF m 66 #[.val (.ref a1), .val (.int p2), .val (.int p3), .val (.int p4), .val (.int (0 : Int32)), .unset] [(.int (1 : Int32)), (.int (3 : Int32))])) _
    refine X6.ldcInt hx hown (mvT hZ (hw _ (List.mem_of_getElem? (i := 23) rfl))) (g := (mkF m 66 #[.val (.ref a1), .val (.int p2), .val (.int p3), .val (.int p4), .val (.int (0 : Int32)), .unset] [(.int (1 : Int32)), (.int (3 : Int32))])) rfl (hb hby d3_66) _ ?_
    show Steps p.tables e below (T6.setTop (mkF m 68 #[.val (.ref a1), .val (.int p2), .val (.int p3), .val (.int p4), .val (.int (0 : Int32)), .unset] [(.int (65535 : Int32)), (.int (1 : Int32)), (.int (3 : Int32))])) _
    refine XS.iand X6.here hx rfl (hb hby d3_68) rfl ?_
    show Steps p.tables e below (T6.setTop (mkF m 69 #[.val (.ref a1), .val (.int p2), .val (.int p3), .val (.int p4), .val (.int (0 : Int32)), .unset] [(.int (1 : Int32)), (.int (3 : Int32))])) _
    refine XS.imul X6.here hx rfl (hb hby d3_69) rfl ?_
    show Steps p.tables e below (T6.setTop (mkF m 70 #[.val (.ref a1), .val (.int p2), .val (.int p3), .val (.int p4), .val (.int (0 : Int32)), .unset] [(.int (3 : Int32))])) _
    refine XS.istore X6.here hx rfl (hb hby d3_70) rfl (l' := #[.val (.ref a1), .val (.int p2), .val (.int p3), .val (.int p4), .val (.int (0 : Int32)), .val (.int (3 : Int32))]) rfl ?_
    show Steps p.tables e below (T6.setTop (mkF m 72 #[.val (.ref a1), .val (.int p2), .val (.int p3), .val (.int p4), .val (.int (0 : Int32)), .val (.int (3 : Int32))] [])) _
    refine XS.aloadN X6.here hx rfl (hb hby d3_72) rfl rfl ?_
    show Steps p.tables e below (T6.setTop (mkF m 73 #[.val (.ref a1), .val (.int p2), .val (.int p3), .val (.int p4), .val (.int (0 : Int32)), .val (.int (3 : Int32))] [(.ref a1)])) _
    refine st7 _ ?_
    show Steps p.tables e below (T7.setTop (mkF m 76 #[.val (.ref a1), .val (.int p2), .val (.int p3), .val (.int p4), .val (.int (0 : Int32)), .val (.int (3 : Int32))] [(.ref ab)])) _
    refine XS.iload X7.here hx rfl (hb hby d3_76) rfl ?_
    show Steps p.tables e below (T7.setTop (mkF m 78 #[.val (.ref a1), .val (.int p2), .val (.int p3), .val (.int p4), .val (.int (0 : Int32)), .val (.int (3 : Int32))] [(.int (0 : Int32)), (.ref ab)])) _
    refine X7.aaload hx (j := (0 : Int32)) (v := (.ref ac)) (by rw [e7]; exact Ar8.1) (State.isArrayOf_alike hZ.alike Ar8.2.1) rfl Ar8.2.2 hin8 (vH8.at hin8 rfl) (g := (mkF m 78 #[.val (.ref a1), .val (.int p2), .val (.int p3), .val (.int p4), .val (.int (0 : Int32)), .val (.int (3 : Int32))] [(.int (0 : Int32)), (.ref ab)])) rfl rfl (hb hby d3_78) _ ?_
    show Steps p.tables e below (T7.setTop (mkF m 79 #[.val (.ref a1), .val (.int p2), .val (.int p3), .val (.int p4), .val (.int (0 : Int32)), .val (.int (3 : Int32))] [(.ref ac)])) _
    refine XS.iload X7.here hx rfl (hb hby d3_79) rfl ?_
    show Steps p.tables e below (T7.setTop (mkF m 81 #[.val (.ref a1), .val (.int p2), .val (.int p3), .val (.int p4), .val (.int (0 : Int32)), .val (.int (3 : Int32))] [(.int (3 : Int32)), (.ref ac)])) _
    refine XS.iloadN X7.here hx rfl (hb hby d3_81) rfl ?_
    show Steps p.tables e below (T7.setTop (mkF m 82 #[.val (.ref a1), .val (.int p2), .val (.int p3), .val (.int p4), .val (.int (0 : Int32)), .val (.int (3 : Int32))] [(.int p2), (.int (3 : Int32)), (.ref ac)])) _
    refine st9 _ ?_
    show Steps p.tables e below (T9.setTop (mkF m 83 #[.val (.ref a1), .val (.int p2), .val (.int p3), .val (.int p4), .val (.int (0 : Int32)), .val (.int (3 : Int32))] [])) _
    refine XS.aloadN X9.here hx rfl (hb hby d3_83) rfl rfl ?_
    show Steps p.tables e below (T9.setTop (mkF m 84 #[.val (.ref a1), .val (.int p2), .val (.int p3), .val (.int p4), .val (.int (0 : Int32)), .val (.int (3 : Int32))] [(.ref a1)])) _
    refine st10 _ ?_
    show Steps p.tables e below (T10.setTop (mkF m 87 #[.val (.ref a1), .val (.int p2), .val (.int p3), .val (.int p4), .val (.int (0 : Int32)), .val (.int (3 : Int32))] [(.ref ab)])) _
    refine XS.iload X10.here hx rfl (hb hby d3_87) rfl ?_
    show Steps p.tables e below (T10.setTop (mkF m 89 #[.val (.ref a1), .val (.int p2), .val (.int p3), .val (.int p4), .val (.int (0 : Int32)), .val (.int (3 : Int32))] [(.int (0 : Int32)), (.ref ab)])) _
    refine X10.aaload hx (j := (0 : Int32)) (v := (.ref ac)) (by rw [e10]; exact Ar13.1) (State.isArrayOf_alike hZ.alike Ar13.2.1) rfl Ar13.2.2 hin13 (vH13.at hin13 rfl) (g := (mkF m 89 #[.val (.ref a1), .val (.int p2), .val (.int p3), .val (.int p4), .val (.int (0 : Int32)), .val (.int (3 : Int32))] [(.int (0 : Int32)), (.ref ab)])) rfl rfl (hb hby d3_89) _ ?_
    show Steps p.tables e below (T10.setTop (mkF m 90 #[.val (.ref a1), .val (.int p2), .val (.int p3), .val (.int p4), .val (.int (0 : Int32)), .val (.int (3 : Int32))] [(.ref ac)])) _
    refine XS.iload X10.here hx rfl (hb hby d3_90) rfl ?_
    show Steps p.tables e below (T10.setTop (mkF m 92 #[.val (.ref a1), .val (.int p2), .val (.int p3), .val (.int p4), .val (.int (0 : Int32)), .val (.int (3 : Int32))] [(.int (3 : Int32)), (.ref ac)])) _
    refine XS.iconst X10.here hx rfl (hb hby d3_92) ?_
    show Steps p.tables e below (T10.setTop (mkF m 93 #[.val (.ref a1), .val (.int p2), .val (.int p3), .val (.int p4), .val (.int (0 : Int32)), .val (.int (3 : Int32))] [(.int (1 : Int32)), (.int (3 : Int32)), (.ref ac)])) _
    refine XS.iadd X10.here hx rfl (hb hby d3_93) rfl ?_
    show Steps p.tables e below (T10.setTop (mkF m 94 #[.val (.ref a1), .val (.int p2), .val (.int p3), .val (.int p4), .val (.int (0 : Int32)), .val (.int (3 : Int32))] [(.int (4 : Int32)), (.ref ac)])) _
    refine XS.iloadN X10.here hx rfl (hb hby d3_94) rfl ?_
    show Steps p.tables e below (T10.setTop (mkF m 95 #[.val (.ref a1), .val (.int p2), .val (.int p3), .val (.int p4), .val (.int (0 : Int32)), .val (.int (3 : Int32))] [(.int p3), (.int (4 : Int32)), (.ref ac)])) _
    refine st14 _ ?_
    show Steps p.tables e below (T14.setTop (mkF m 96 #[.val (.ref a1), .val (.int p2), .val (.int p3), .val (.int p4), .val (.int (0 : Int32)), .val (.int (3 : Int32))] [])) _
    refine XS.aloadN X14.here hx rfl (hb hby d3_96) rfl rfl ?_
    show Steps p.tables e below (T14.setTop (mkF m 97 #[.val (.ref a1), .val (.int p2), .val (.int p3), .val (.int p4), .val (.int (0 : Int32)), .val (.int (3 : Int32))] [(.ref a1)])) _
    refine st15 _ ?_
    show Steps p.tables e below (T15.setTop (mkF m 100 #[.val (.ref a1), .val (.int p2), .val (.int p3), .val (.int p4), .val (.int (0 : Int32)), .val (.int (3 : Int32))] [(.ref ab)])) _
    refine XS.iload X15.here hx rfl (hb hby d3_100) rfl ?_
    show Steps p.tables e below (T15.setTop (mkF m 102 #[.val (.ref a1), .val (.int p2), .val (.int p3), .val (.int p4), .val (.int (0 : Int32)), .val (.int (3 : Int32))] [(.int (0 : Int32)), (.ref ab)])) _
    refine X15.aaload hx (j := (0 : Int32)) (v := (.ref ac)) (by rw [e15]; exact Ar18.1) (State.isArrayOf_alike hZ.alike Ar18.2.1) rfl Ar18.2.2 hin18 (vH18.at hin18 rfl) (g := (mkF m 102 #[.val (.ref a1), .val (.int p2), .val (.int p3), .val (.int p4), .val (.int (0 : Int32)), .val (.int (3 : Int32))] [(.int (0 : Int32)), (.ref ab)])) rfl rfl (hb hby d3_102) _ ?_
    show Steps p.tables e below (T15.setTop (mkF m 103 #[.val (.ref a1), .val (.int p2), .val (.int p3), .val (.int p4), .val (.int (0 : Int32)), .val (.int (3 : Int32))] [(.ref ac)])) _
    refine XS.iload X15.here hx rfl (hb hby d3_103) rfl ?_
    show Steps p.tables e below (T15.setTop (mkF m 105 #[.val (.ref a1), .val (.int p2), .val (.int p3), .val (.int p4), .val (.int (0 : Int32)), .val (.int (3 : Int32))] [(.int (3 : Int32)), (.ref ac)])) _
    refine XS.iconst X15.here hx rfl (hb hby d3_105) ?_
    show Steps p.tables e below (T15.setTop (mkF m 106 #[.val (.ref a1), .val (.int p2), .val (.int p3), .val (.int p4), .val (.int (0 : Int32)), .val (.int (3 : Int32))] [(.int (2 : Int32)), (.int (3 : Int32)), (.ref ac)])) _
    refine XS.iadd X15.here hx rfl (hb hby d3_106) rfl ?_
    show Steps p.tables e below (T15.setTop (mkF m 107 #[.val (.ref a1), .val (.int p2), .val (.int p3), .val (.int p4), .val (.int (0 : Int32)), .val (.int (3 : Int32))] [(.int (5 : Int32)), (.ref ac)])) _
    refine XS.iloadN X15.here hx rfl (hb hby d3_107) rfl ?_
    show Steps p.tables e below (T15.setTop (mkF m 108 #[.val (.ref a1), .val (.int p2), .val (.int p3), .val (.int p4), .val (.int (0 : Int32)), .val (.int (3 : Int32))] [(.int p4), (.int (5 : Int32)), (.ref ac)])) _
    refine st19 _ ?_
    show Steps p.tables e below (T19.setTop (mkF m 109 #[.val (.ref a1), .val (.int p2), .val (.int p3), .val (.int p4), .val (.int (0 : Int32)), .val (.int (3 : Int32))] [])) _
    refine XS.aloadN X19.here hx rfl (hb hby d3_109) rfl rfl ?_
    show Steps p.tables e below (T19.setTop (mkF m 110 #[.val (.ref a1), .val (.int p2), .val (.int p3), .val (.int p4), .val (.int (0 : Int32)), .val (.int (3 : Int32))] [(.ref a1)])) _
    refine XS.dup X19.here hx rfl (hb hby d3_110) rfl rfl ?_
    show Steps p.tables e below (T19.setTop (mkF m 111 #[.val (.ref a1), .val (.int p2), .val (.int p3), .val (.int p4), .val (.int (0 : Int32)), .val (.int (3 : Int32))] [(.ref a1), (.ref a1)])) _
    refine st20 _ ?_
    show Steps p.tables e below (T20.setTop (mkF m 114 #[.val (.ref a1), .val (.int p2), .val (.int p3), .val (.int p4), .val (.int (0 : Int32)), .val (.int (3 : Int32))] [(.int (1 : Int32)), (.ref a1)])) _
    refine XS.iconst X20.here hx rfl (hb hby d3_114) ?_
    show Steps p.tables e below (T20.setTop (mkF m 115 #[.val (.ref a1), .val (.int p2), .val (.int p3), .val (.int p4), .val (.int (0 : Int32)), .val (.int (3 : Int32))] [(.int (1 : Int32)), (.int (1 : Int32)), (.ref a1)])) _
    refine XS.iadd X20.here hx rfl (hb hby d3_115) rfl ?_
    show Steps p.tables e below (T20.setTop (mkF m 116 #[.val (.ref a1), .val (.int p2), .val (.int p3), .val (.int p4), .val (.int (0 : Int32)), .val (.int (3 : Int32))] [(.int (2 : Int32)), (.ref a1)])) _
    refine st22 _ ?_
    show Steps p.tables e below (T22.setTop (mkF m 119 #[.val (.ref a1), .val (.int p2), .val (.int p3), .val (.int p4), .val (.int (0 : Int32)), .val (.int (3 : Int32))] [])) _
    exact X22.returnOut hx Bd.returns (hb hby d3_119) hr
  · show Q_add1 Z a1 p2 p3 p4 ab akb ac akc y0 y1 y2 h0 n0 _ T22.heap _
    rw [e22]
    exact ⟨rfl, N22, (((((Keep.refl h0 [a1, ac]).wr W9 (Or.inl (List.mem_of_getElem? (i := 1) rfl))).wr W14 (Or.inl (List.mem_of_getElem? (i := 1) rfl))).wr W19 (Or.inl (List.mem_of_getElem? (i := 1) rfl))).wr W22 (Or.inl (List.mem_of_getElem? (i := 0) rfl))), F24, F25, Fw22, F26, r4, F27⟩
def Q_add2 (Z : State) (a1 : Addr) (p2 : Int32) (p3 : Int32) (p4 : Int32) (ab : Addr) (akb : ClassId) (ac : Addr) (akc : ClassId) (y0 : Int32) (y1 : Int32) (y2 : Int32) (y3 : Int32) (y4 : Int32) (y5 : Int32) (h0 : Heap) (n0 : Nat) (v : Option Value) (h : Heap) (L : List Loc) : Prop := v = none ∧ Fr n0 L ∧ Keep h0 h [a1, ac] ∧ Exa Z h a1 "com/example/keysmith/keysmith/TripleBuffer" ∧ Fld Z h a1 "com/example/keysmith/keysmith/TripleBuffer" "blocks" "[[I" (.ref ab) ∧ Fld Z h a1 "com/example/keysmith/keysmith/TripleBuffer" "size" "I" (.int (3 : Int32)) ∧ Arv Z h ab akb (.array .int) (16 : Int32) [(.ref ac), .null, .null, .null, .null, .null, .null, .null, .null, .null, .null, .null, .null, .null, .null, .null] .null ∧ OvrA Z akb .int "[I" ∧ Arv Z h ac akc .int (196608 : Int32) [(.int y0), (.int y1), (.int y2), (.int y3), (.int y4), (.int y5), (.int p2), (.int p3), (.int p4)] (.int (0 : Int32))
set_option maxRecDepth 65536 in
set_option maxHeartbeats 40000000 in
theorem rm_add2 (l : Launch) (Z : State) (a0 : Array Value) (hw : ∀ d ∈ tables_1, d.before a0 Z = true) (ws : List Jvm.Cond) (a1 : Addr) (p2 : Int32) (p3 : Int32) (p4 : Int32) (ab : Addr) (akb : ClassId) (ac : Addr) (akc : ClassId) (y0 : Int32) (y1 : Int32) (y2 : Int32) (y3 : Int32) (y4 : Int32) (y5 : Int32) (h0 : Heap) (n0 : Nat) (Z0 : n0 ≤ h0.size) (O0 : Old Z n0 h0) (r0 : Exa Z h0 a1 "com/example/keysmith/keysmith/TripleBuffer") (r1 : Fld Z h0 a1 "com/example/keysmith/keysmith/TripleBuffer" "blocks" "[[I" (.ref ab)) (r2 : Fld Z h0 a1 "com/example/keysmith/keysmith/TripleBuffer" "size" "I" (.int (2 : Int32))) (r3 : Arv Z h0 ab akb (.array .int) (16 : Int32) [(.ref ac), .null, .null, .null, .null, .null, .null, .null, .null, .null, .null, .null, .null, .null, .null, .null] .null) (r4 : OvrA Z akb .int "[I") (r5 : Arv Z h0 ac akc .int (196608 : Int32) [(.int y0), (.int y1), (.int y2), (.int y3), (.int y4), (.int y5), (.int (0 : Int32)), (.int (0 : Int32)), (.int (0 : Int32))] (.int (0 : Int32))) (g_a1 : n0 ≤ a1) (g_ac : n0 ≤ ac) (ne_a1_ab : a1 ≠ ab) (ne_a1_ac : a1 ≠ ac) (ne_ab_ac : ab ≠ ac) :
    MetFree l (⟨"com/example/keysmith/keysmith/TripleBuffer", "add", "(III)V"⟩ : MethodName) (head1 (Jvm.Cond.code (⟨"com/example/keysmith/keysmith/TripleBuffer", "add", "(III)V"⟩ : MethodName) prog_15_method_2_code 6 none :: ws) ({ frames := 0, cells := 0, slots := 0, locals := 0 } : Room)) (fun a U => a = #[(.ref a1), (.int p2), (.int p3), (.int p4)] ∧ Z.Warmed39 U.vm ∧ U.heap = h0) (fun _ _ _ _ _ => True) (fun _ U o U' => ∃ v L, o = .returned v ∧ Q_add2 Z a1 p2 p3 p4 ab akb ac akc y0 y1 y2 y3 y4 y5 h0 n0 v U'.heap L ∧ FrameEnd U o U' L ({ frames := 0, cells := 0, slots := 0, locals := 0 } : Room).cells ({ frames := 0, cells := 0, slots := 0, locals := 0 } : Room).slots) := by
  refine MetFree.of_bodySF (plainFor_of_name pn_TripleBuffer) hisR ?_
  intro p e s m args below meth c s₁ Bd hml0 hP hK
  obtain ⟨rfl, hZ, hh⟩ := hP
  have hx := Bd.exec
  have hby := Bd.bytes
  have hml : c.maxLocals = 6 := hml0
  have hown : s.vm.findClass "com/example/keysmith/keysmith/TripleBuffer" = some m.cls := findClass_of_methodNamed Bd.named
  have hnm := (name_of_methodNamed Bd.named Bd.method).1
  have X0 : Stand p l e ({ frames := 0, cells := 0, slots := 0, locals := 0 } : Room) s m #[(.ref a1), (.int p2), (.int p3), (.int p4)] below meth c s₁ [] 0 0 := Stand.of_body Bd
  have e0 : s₁.heap = h0 := by rw [← hh, Bd.state]; rfl
  have N0 := Fr.nil n0
  have pre0 : ∀ t, Steps p.tables e below (s₁.setTop (mkF m 0 #[.val (.ref a1), .val (.int p2), .val (.int p3), .val (.int p4), .unset, .unset] [])) t → Steps p.tables e below (s₁.setTop (entryFrame m #[(.ref a1), (.int p2), (.int p3), (.int p4)] 6)) t := fun t k => castTop (ef_add2 m a1 p2 p3 p4) k
  obtain ⟨T1, X1, e1, st1⟩ := getF X0 hx hZ hown (host := "") (Or.inl (hw _ (List.mem_of_getElem? (i := 18) rfl))) Via.refl e0 r2 (g := (mkF m 1 #[.val (.ref a1), .val (.int p2), .val (.int p3), .val (.int p4), .unset, .unset] [(.ref a1)])) rfl rfl (hb hby d3_1)
  obtain ⟨T2, X2, e2, st2⟩ := getF X1 hx hZ hown (host := "") (Or.inl (hw _ (List.mem_of_getElem? (i := 11) rfl))) Via.refl e1 r1 (g := (mkF m 12 #[.val (.ref a1), .val (.int p2), .val (.int p3), .val (.int p4), .val (.int (0 : Int32)), .unset] [(.ref a1), (.int (0 : Int32))])) rfl rfl (hb hby d3_12)
  obtain ⟨cl3, Ar3, vq3, vS3, vN3, vH3, vG3⟩ := id r3
  obtain ⟨T4, X4, e4, st4⟩ := getF X2 hx hZ hown (host := "") (Or.inl (hw _ (List.mem_of_getElem? (i := 11) rfl))) Via.refl e2 r1 (g := (mkF m 41 #[.val (.ref a1), .val (.int p2), .val (.int p3), .val (.int p4), .val (.int (0 : Int32)), .unset] [(.ref a1)])) rfl rfl (hb hby d3_41)
  obtain ⟨cl5, Ar5, vq5, vS5, vN5, vH5, vG5⟩ := id r3
  have hin5 : ¬ (((0 : Int32) : Int32) < 0 ∨ cl5.slots.size ≤ ((0 : Int32) : Int32).toNatClampNeg) := inb_of vS5 ⟨by decide, by decide⟩
  obtain ⟨T6, X6, e6, st6⟩ := getF X4 hx hZ hown (host := "") (Or.inl (hw _ (List.mem_of_getElem? (i := 18) rfl))) Via.refl e4 r2 (g := (mkF m 63 #[.val (.ref a1), .val (.int p2), .val (.int p3), .val (.int p4), .val (.int (0 : Int32)), .unset] [(.ref a1), (.int (3 : Int32))])) rfl rfl (hb hby d3_63)
  obtain ⟨T7, X7, e7, st7⟩ := getF X6 hx hZ hown (host := "") (Or.inl (hw _ (List.mem_of_getElem? (i := 11) rfl))) Via.refl e6 r1 (g := (mkF m 73 #[.val (.ref a1), .val (.int p2), .val (.int p3), .val (.int p4), .val (.int (0 : Int32)), .val (.int (6 : Int32))] [(.ref a1)])) rfl rfl (hb hby d3_73)
  obtain ⟨cl8, Ar8, vq8, vS8, vN8, vH8, vG8⟩ := id r3
  have hin8 : ¬ (((0 : Int32) : Int32) < 0 ∨ cl8.slots.size ≤ ((0 : Int32) : Int32).toNatClampNeg) := inb_of vS8 ⟨by decide, by decide⟩
  obtain ⟨cl9, Ar9, vq9, vS9, vN9, vH9, vG9⟩ := id r5
  have hin9 : ¬ (((6 : Int32) : Int32) < 0 ∨ cl9.slots.size ≤ ((6 : Int32) : Int32).toNatClampNeg) := inb_of vS9 ⟨by decide, by decide⟩
  obtain ⟨T9, h9, X9, e9, W9, st9⟩ := stI X7 hx hZ e7 Ar9 (j := (6 : Int32)) hin9 (g := (mkF m 82 #[.val (.ref a1), .val (.int p2), .val (.int p3), .val (.int p4), .val (.int (0 : Int32)), .val (.int (6 : Int32))] [(.int p2), (.int (6 : Int32)), (.ref ac)])) rfl rfl (hb hby d3_82)
  have V9 : Arv Z h9 ac akc .int (196608 : Int32) [(.int y0), (.int y1), (.int y2), (.int y3), (.int y4), (.int y5), (.int p2), (.int (0 : Int32)), (.int (0 : Int32))] (.int (0 : Int32)) := Arv.set Ar9 vq9 vS9 vN9 vH9 vG9 rfl W9 6 rfl (Nat.le_of_ble_eq_true rfl)
  have N9 := Fr.snoc X9 N0 g_ac
  have F11 := (r1.other W9 (Or.inl ne_a1_ac))
  obtain ⟨T10, X10, e10, st10⟩ := getF X9 hx hZ hown (host := "") (Or.inl (hw _ (List.mem_of_getElem? (i := 11) rfl))) Via.refl e9 F11 (g := (mkF m 84 #[.val (.ref a1), .val (.int p2), .val (.int p3), .val (.int p4), .val (.int (0 : Int32)), .val (.int (6 : Int32))] [(.ref a1)])) rfl rfl (hb hby d3_84)
  have F12 := (r3.other W9 ne_ab_ac)
  obtain ⟨cl13, Ar13, vq13, vS13, vN13, vH13, vG13⟩ := id F12
  have hin13 : ¬ (((0 : Int32) : Int32) < 0 ∨ cl13.slots.size ≤ ((0 : Int32) : Int32).toNatClampNeg) := inb_of vS13 ⟨by decide, by decide⟩
  obtain ⟨cl14, Ar14, vq14, vS14, vN14, vH14, vG14⟩ := id V9
  have hin14 : ¬ (((7 : Int32) : Int32) < 0 ∨ cl14.slots.size ≤ ((7 : Int32) : Int32).toNatClampNeg) := inb_of vS14 ⟨by decide, by decide⟩
  obtain ⟨T14, h14, X14, e14, W14, st14⟩ := stI X10 hx hZ e10 Ar14 (j := (7 : Int32)) hin14 (g := (mkF m 95 #[.val (.ref a1), .val (.int p2), .val (.int p3), .val (.int p4), .val (.int (0 : Int32)), .val (.int (6 : Int32))] [(.int p3), (.int (7 : Int32)), (.ref ac)])) rfl rfl (hb hby d3_95)
  have V14 : Arv Z h14 ac akc .int (196608 : Int32) [(.int y0), (.int y1), (.int y2), (.int y3), (.int y4), (.int y5), (.int p2), (.int p3), (.int (0 : Int32))] (.int (0 : Int32)) := Arv.set Ar14 vq14 vS14 vN14 vH14 vG14 rfl W14 7 rfl (Nat.le_of_ble_eq_true rfl)
  have N14 := Fr.snoc X14 N9 g_ac
  have F16 := (F11.other W14 (Or.inl ne_a1_ac))
  obtain ⟨T15, X15, e15, st15⟩ := getF X14 hx hZ hown (host := "") (Or.inl (hw _ (List.mem_of_getElem? (i := 11) rfl))) Via.refl e14 F16 (g := (mkF m 97 #[.val (.ref a1), .val (.int p2), .val (.int p3), .val (.int p4), .val (.int (0 : Int32)), .val (.int (6 : Int32))] [(.ref a1)])) rfl rfl (hb hby d3_97)
  have F17 := (F12.other W14 ne_ab_ac)
  obtain ⟨cl18, Ar18, vq18, vS18, vN18, vH18, vG18⟩ := id F17
  have hin18 : ¬ (((0 : Int32) : Int32) < 0 ∨ cl18.slots.size ≤ ((0 : Int32) : Int32).toNatClampNeg) := inb_of vS18 ⟨by decide, by decide⟩
  obtain ⟨cl19, Ar19, vq19, vS19, vN19, vH19, vG19⟩ := id V14
  have hin19 : ¬ (((8 : Int32) : Int32) < 0 ∨ cl19.slots.size ≤ ((8 : Int32) : Int32).toNatClampNeg) := inb_of vS19 ⟨by decide, by decide⟩
  obtain ⟨T19, h19, X19, e19, W19, st19⟩ := stI X15 hx hZ e15 Ar19 (j := (8 : Int32)) hin19 (g := (mkF m 108 #[.val (.ref a1), .val (.int p2), .val (.int p3), .val (.int p4), .val (.int (0 : Int32)), .val (.int (6 : Int32))] [(.int p4), (.int (8 : Int32)), (.ref ac)])) rfl rfl (hb hby d3_108)
  have V19 : Arv Z h19 ac akc .int (196608 : Int32) [(.int y0), (.int y1), (.int y2), (.int y3), (.int y4), (.int y5), (.int p2), (.int p3), (.int p4)] (.int (0 : Int32)) := Arv.set Ar19 vq19 vS19 vN19 vH19 vG19 rfl W19 8 rfl (Nat.le_of_ble_eq_true rfl)
  have N19 := Fr.snoc X19 N14 g_ac
  have F21 := (((r2.other W9 (Or.inl ne_a1_ac)).other W14 (Or.inl ne_a1_ac)).other W19 (Or.inl ne_a1_ac))
  obtain ⟨T20, X20, e20, st20⟩ := getF X19 hx hZ hown (host := "") (Or.inl (hw _ (List.mem_of_getElem? (i := 18) rfl))) Via.refl e19 F21 (g := (mkF m 111 #[.val (.ref a1), .val (.int p2), .val (.int p3), .val (.int p4), .val (.int (0 : Int32)), .val (.int (6 : Int32))] [(.ref a1), (.ref a1)])) rfl rfl (hb hby d3_111)
  have F23 := (((r0.wr W9).wr W14).wr W19)
  obtain ⟨T22, h22, X22, e22, W22, st22⟩ := putF X20 hx hZ hown (host := "") (Or.inl (hw _ (List.mem_of_getElem? (i := 18) rfl))) Via.refl e20 F21 F23 (Or.inl (hw _ (List.mem_of_getElem? (i := 19) rfl))) (hw _ (List.mem_of_getElem? (i := 1) rfl)) (ty := .int) (by decide) rfl rfl (g := (mkF m 116 #[.val (.ref a1), .val (.int p2), .val (.int p3), .val (.int p4), .val (.int (0 : Int32)), .val (.int (6 : Int32))] [(.int (3 : Int32)), (.ref a1)])) rfl rfl (hb hby d3_116)
  have Fw22 := F21.same W22
  have N22 := Fr.snoc X22 N19 g_a1
  have F24 := (F23.wr W22)
  have F25 := ((F16.other W19 (Or.inl ne_a1_ac)).other W22 (Or.inr (slot_ne (Or.inl (hw _ (List.mem_of_getElem? (i := 12) rfl))) (Or.inl (hw _ (List.mem_of_getElem? (i := 19) rfl))) (by decide) (t := (.array (.array .int))) (t' := .int) (by decide) (by decide))))
  have F26 := ((F17.other W19 ne_ab_ac).other W22 (Ne.symm ne_a1_ab))
  have F27 := (V19.other W22 (Ne.symm ne_a1_ac))
  obtain ⟨fs, hr, hrun, hended, hW, hsame⟩ := X22.leave (v := none) (fun _ => rfl)
  refine ⟨_, _, pre0 _ ?_, hrun, hended, _, _, rfl, ?_, ⟨_, rfl⟩, hW, hsame.mono (by decide) (by decide)⟩
  · show Steps p.tables e below (s₁.setTop (mkF m 0 #[.val (.ref a1), .val (.int p2), .val (.int p3), .val (.int p4), .unset, .unset] [])) _
    refine XS.aloadN X0.here hx rfl (hb hby d3_0) rfl rfl ?_
    show Steps p.tables e below (s₁.setTop (mkF m 1 #[.val (.ref a1), .val (.int p2), .val (.int p3), .val (.int p4), .unset, .unset] [(.ref a1)])) _
    refine st1 _ ?_
    show Steps p.tables e below (T1.setTop (mkF m 4 #[.val (.ref a1), .val (.int p2), .val (.int p3), .val (.int p4), .unset, .unset] [(.int (2 : Int32))])) _
    refine XS.bipush X1.here hx rfl (hb hby d3_4) ?_
    show Steps p.tables e below (T1.setTop (mkF m 6 #[.val (.ref a1), .val (.int p2), .val (.int p3), .val (.int p4), .unset, .unset] [(.int (16 : Int32)), (.int (2 : Int32))])) _
    refine XS.iushr X1.here hx rfl (hb hby d3_6) rfl ?_
    show Steps p.tables e below (T1.setTop (mkF m 7 #[.val (.ref a1), .val (.int p2), .val (.int p3), .val (.int p4), .unset, .unset] [(.int (0 : Int32))])) _
    refine XS.istore X1.here hx rfl (hb hby d3_7) rfl (l' := #[.val (.ref a1), .val (.int p2), .val (.int p3), .val (.int p4), .val (.int (0 : Int32)), .unset]) rfl ?_
    show Steps p.tables e below (T1.setTop (mkF m 9 #[.val (.ref a1), .val (.int p2), .val (.int p3), .val (.int p4), .val (.int (0 : Int32)), .unset] [])) _
    refine XS.iload X1.here hx rfl (hb hby d3_9) rfl ?_
    show Steps p.tables e below (T1.setTop (mkF m 11 #[.val (.ref a1), .val (.int p2), .val (.int p3), .val (.int p4), .val (.int (0 : Int32)), .unset] [(.int (0 : Int32))])) _
    refine XS.aloadN X1.here hx rfl (hb hby d3_11) rfl rfl ?_
    show Steps p.tables e below (T1.setTop (mkF m 12 #[.val (.ref a1), .val (.int p2), .val (.int p3), .val (.int p4), .val (.int (0 : Int32)), .unset] [(.ref a1), (.int (0 : Int32))])) _
    refine st2 _ ?_
    show Steps p.tables e below (T2.setTop (mkF m 15 #[.val (.ref a1), .val (.int p2), .val (.int p3), .val (.int p4), .val (.int (0 : Int32)), .unset] [(.ref ab), (.int (0 : Int32))])) _
    refine X2.arraylength hx (by rw [e2]; exact Ar3.1) (State.isArrayOf_alike hZ.alike Ar3.2.1) (g := (mkF m 15 #[.val (.ref a1), .val (.int p2), .val (.int p3), .val (.int p4), .val (.int (0 : Int32)), .unset] [(.ref ab), (.int (0 : Int32))])) rfl rfl (hb hby d3_15) _ ?_
    rw [len_of vS3 vN3]
    show Steps p.tables e below (T2.setTop (mkF m 16 #[.val (.ref a1), .val (.int p2), .val (.int p3), .val (.int p4), .val (.int (0 : Int32)), .unset] [(.int (16 : Int32)), (.int (0 : Int32))])) _
    refine XS.icmpYes X2.here hx rfl (pc0 := 16) (pc' := 40) rfl (hb hby d3_16) rfl (feq (by decide : ¬ ((0 : Int32) = (16 : Int32)))).2 (by decide) (by decide) ?_
    show Steps p.tables e below (T2.setTop (mkF m 40 #[.val (.ref a1), .val (.int p2), .val (.int p3), .val (.int p4), .val (.int (0 : Int32)), .unset] [])) _
    refine XS.aloadN X2.here hx rfl (hb hby d3_40) rfl rfl ?_
    show Steps p.tables e below (T2.setTop (mkF m 41 #[.val (.ref a1), .val (.int p2), .val (.int p3), .val (.int p4), .val (.int (0 : Int32)), .unset] [(.ref a1)])) _
    refine st4 _ ?_
    show Steps p.tables e below (T4.setTop (mkF m 44 #[.val (.ref a1), .val (.int p2), .val (.int p3), .val (.int p4), .val (.int (0 : Int32)), .unset] [(.ref ab)])) _
    refine XS.iload X4.here hx rfl (hb hby d3_44) rfl ?_
    show Steps p.tables e below (T4.setTop (mkF m 46 #[.val (.ref a1), .val (.int p2), .val (.int p3), .val (.int p4), .val (.int (0 : Int32)), .unset] [(.int (0 : Int32)), (.ref ab)])) _
    refine X4.aaload hx (j := (0 : Int32)) (v := (.ref ac)) (by rw [e4]; exact Ar5.1) (State.isArrayOf_alike hZ.alike Ar5.2.1) rfl Ar5.2.2 hin5 (vH5.at hin5 rfl) (g := (mkF m 46 #[.val (.ref a1), .val (.int p2), .val (.int p3), .val (.int p4), .val (.int (0 : Int32)), .unset] [(.int (0 : Int32)), (.ref ab)])) rfl rfl (hb hby d3_46) _ ?_
    show Steps p.tables e below (T4.setTop (mkF m 47 #[.val (.ref a1), .val (.int p2), .val (.int p3), .val (.int p4), .val (.int (0 : Int32)), .unset] [(.ref ac)])) _
    refine XS.ifnonnullYes X4.here hx rfl (pc0 := 47) (pc' := 61) rfl (hb hby d3_47) rfl (by decide) (by decide) ?_
    show Steps p.tables e below (T4.setTop (mkF m 61 #[.val (.ref a1), .val (.int p2), .val (.int p3), .val (.int p4), .val (.int (0 : Int32)), .unset] [])) _
    refine XS.iconst X4.here hx rfl (hb hby d3_61) ?_
    show Steps p.tables e below (T4.setTop (mkF m 62 #[.val (.ref a1), .val (.int p2), .val (.int p3), .val (.int p4), .val (.int (0 : Int32)), .unset] [(.int (3 : Int32))])) _
    refine XS.aloadN X4.here hx rfl (hb hby d3_62) rfl rfl ?_
    show Steps p.tables e below (T4.setTop (mkF m 63 #[.val (.ref a1), .val (.int p2), .val (.int p3), .val (.int p4), .val (.int (0 : Int32)), .unset] [(.ref a1), (.int (3 : Int32))])) _
    refine st6 _ ?_
    show Steps p.tables e below (T6.setTop (mkF m 66 #[.val (.ref a1), .val (.int p2), .val (.int p3), .val (.int p4), .val (.int (0 : Int32)), .unset] [(.int (2 : Int32)), (.int (3 : Int32))])) _
    refine X6.ldcInt hx hown (mvT hZ (hw _ (List.mem_of_getElem? (i := 23) rfl))) (g := (mkF m 66 #[.val (.ref a1), .val (.int p2), .val (.int p3), .val (.int p4), .val (.int (0 : Int32)), .unset] [(.int (2 : Int32)), (.int (3 : Int32))])) rfl (hb hby d3_66) _ ?_
    show Steps p.tables e below (T6.setTop (mkF m 68 #[.val (.ref a1), .val (.int p2), .val (.int p3), .val (.int p4), .val (.int (0 : Int32)), .unset] [(.int (65535 : Int32)), (.int (2 : Int32)), (.int (3 : Int32))])) _
    refine XS.iand X6.here hx rfl (hb hby d3_68) rfl ?_
    show Steps p.tables e below (T6.setTop (mkF m 69 #[.val (.ref a1), .val (.int p2), .val (.int p3), .val (.int p4), .val (.int (0 : Int32)), .unset] [(.int (2 : Int32)), (.int (3 : Int32))])) _
    refine XS.imul X6.here hx rfl (hb hby d3_69) rfl ?_
    show Steps p.tables e below (T6.setTop (mkF m 70 #[.val (.ref a1), .val (.int p2), .val (.int p3), .val (.int p4), .val (.int (0 : Int32)), .unset] [(.int (6 : Int32))])) _
    refine XS.istore X6.here hx rfl (hb hby d3_70) rfl (l' := #[.val (.ref a1), .val (.int p2), .val (.int p3), .val (.int p4), .val (.int (0 : Int32)), .val (.int (6 : Int32))]) rfl ?_
    show Steps p.tables e below (T6.setTop (mkF m 72 #[.val (.ref a1), .val (.int p2), .val (.int p3), .val (.int p4), .val (.int (0 : Int32)), .val (.int (6 : Int32))] [])) _
    refine XS.aloadN X6.here hx rfl (hb hby d3_72) rfl rfl ?_
    show Steps p.tables e below (T6.setTop (mkF m 73 #[.val (.ref a1), .val (.int p2), .val (.int p3), .val (.int p4), .val (.int (0 : Int32)), .val (.int (6 : Int32))] [(.ref a1)])) _
    refine st7 _ ?_
    show Steps p.tables e below (T7.setTop (mkF m 76 #[.val (.ref a1), .val (.int p2), .val (.int p3), .val (.int p4), .val (.int (0 : Int32)), .val (.int (6 : Int32))] [(.ref ab)])) _
    refine XS.iload X7.here hx rfl (hb hby d3_76) rfl ?_
    show Steps p.tables e below (T7.setTop (mkF m 78 #[.val (.ref a1), .val (.int p2), .val (.int p3), .val (.int p4), .val (.int (0 : Int32)), .val (.int (6 : Int32))] [(.int (0 : Int32)), (.ref ab)])) _
    refine X7.aaload hx (j := (0 : Int32)) (v := (.ref ac)) (by rw [e7]; exact Ar8.1) (State.isArrayOf_alike hZ.alike Ar8.2.1) rfl Ar8.2.2 hin8 (vH8.at hin8 rfl) (g := (mkF m 78 #[.val (.ref a1), .val (.int p2), .val (.int p3), .val (.int p4), .val (.int (0 : Int32)), .val (.int (6 : Int32))] [(.int (0 : Int32)), (.ref ab)])) rfl rfl (hb hby d3_78) _ ?_
    show Steps p.tables e below (T7.setTop (mkF m 79 #[.val (.ref a1), .val (.int p2), .val (.int p3), .val (.int p4), .val (.int (0 : Int32)), .val (.int (6 : Int32))] [(.ref ac)])) _
    refine XS.iload X7.here hx rfl (hb hby d3_79) rfl ?_
    show Steps p.tables e below (T7.setTop (mkF m 81 #[.val (.ref a1), .val (.int p2), .val (.int p3), .val (.int p4), .val (.int (0 : Int32)), .val (.int (6 : Int32))] [(.int (6 : Int32)), (.ref ac)])) _
    refine XS.iloadN X7.here hx rfl (hb hby d3_81) rfl ?_
    show Steps p.tables e below (T7.setTop (mkF m 82 #[.val (.ref a1), .val (.int p2), .val (.int p3), .val (.int p4), .val (.int (0 : Int32)), .val (.int (6 : Int32))] [(.int p2), (.int (6 : Int32)), (.ref ac)])) _
    refine st9 _ ?_
    show Steps p.tables e below (T9.setTop (mkF m 83 #[.val (.ref a1), .val (.int p2), .val (.int p3), .val (.int p4), .val (.int (0 : Int32)), .val (.int (6 : Int32))] [])) _
    refine XS.aloadN X9.here hx rfl (hb hby d3_83) rfl rfl ?_
    show Steps p.tables e below (T9.setTop (mkF m 84 #[.val (.ref a1), .val (.int p2), .val (.int p3), .val (.int p4), .val (.int (0 : Int32)), .val (.int (6 : Int32))] [(.ref a1)])) _
    refine st10 _ ?_
    show Steps p.tables e below (T10.setTop (mkF m 87 #[.val (.ref a1), .val (.int p2), .val (.int p3), .val (.int p4), .val (.int (0 : Int32)), .val (.int (6 : Int32))] [(.ref ab)])) _
    refine XS.iload X10.here hx rfl (hb hby d3_87) rfl ?_
    show Steps p.tables e below (T10.setTop (mkF m 89 #[.val (.ref a1), .val (.int p2), .val (.int p3), .val (.int p4), .val (.int (0 : Int32)), .val (.int (6 : Int32))] [(.int (0 : Int32)), (.ref ab)])) _
    refine X10.aaload hx (j := (0 : Int32)) (v := (.ref ac)) (by rw [e10]; exact Ar13.1) (State.isArrayOf_alike hZ.alike Ar13.2.1) rfl Ar13.2.2 hin13 (vH13.at hin13 rfl) (g := (mkF m 89 #[.val (.ref a1), .val (.int p2), .val (.int p3), .val (.int p4), .val (.int (0 : Int32)), .val (.int (6 : Int32))] [(.int (0 : Int32)), (.ref ab)])) rfl rfl (hb hby d3_89) _ ?_
    show Steps p.tables e below (T10.setTop (mkF m 90 #[.val (.ref a1), .val (.int p2), .val (.int p3), .val (.int p4), .val (.int (0 : Int32)), .val (.int (6 : Int32))] [(.ref ac)])) _
    refine XS.iload X10.here hx rfl (hb hby d3_90) rfl ?_
    show Steps p.tables e below (T10.setTop (mkF m 92 #[.val (.ref a1), .val (.int p2), .val (.int p3), .val (.int p4), .val (.int (0 : Int32)), .val (.int (6 : Int32))] [(.int (6 : Int32)), (.ref ac)])) _
    refine XS.iconst X10.here hx rfl (hb hby d3_92) ?_
    show Steps p.tables e below (T10.setTop (mkF m 93 #[.val (.ref a1), .val (.int p2), .val (.int p3), .val (.int p4), .val (.int (0 : Int32)), .val (.int (6 : Int32))] [(.int (1 : Int32)), (.int (6 : Int32)), (.ref ac)])) _
    refine XS.iadd X10.here hx rfl (hb hby d3_93) rfl ?_
    show Steps p.tables e below (T10.setTop (mkF m 94 #[.val (.ref a1), .val (.int p2), .val (.int p3), .val (.int p4), .val (.int (0 : Int32)), .val (.int (6 : Int32))] [(.int (7 : Int32)), (.ref ac)])) _
    refine XS.iloadN X10.here hx rfl (hb hby d3_94) rfl ?_
    show Steps p.tables e below (T10.setTop (mkF m 95 #[.val (.ref a1), .val (.int p2), .val (.int p3), .val (.int p4), .val (.int (0 : Int32)), .val (.int (6 : Int32))] [(.int p3), (.int (7 : Int32)), (.ref ac)])) _
    refine st14 _ ?_
    show Steps p.tables e below (T14.setTop (mkF m 96 #[.val (.ref a1), .val (.int p2), .val (.int p3), .val (.int p4), .val (.int (0 : Int32)), .val (.int (6 : Int32))] [])) _
    refine XS.aloadN X14.here hx rfl (hb hby d3_96) rfl rfl ?_
    show Steps p.tables e below (T14.setTop (mkF m 97 #[.val (.ref a1), .val (.int p2), .val (.int p3), .val (.int p4), .val (.int (0 : Int32)), .val (.int (6 : Int32))] [(.ref a1)])) _
    refine st15 _ ?_
    show Steps p.tables e below (T15.setTop (mkF m 100 #[.val (.ref a1), .val (.int p2), .val (.int p3), .val (.int p4), .val (.int (0 : Int32)), .val (.int (6 : Int32))] [(.ref ab)])) _
    refine XS.iload X15.here hx rfl (hb hby d3_100) rfl ?_
    show Steps p.tables e below (T15.setTop (mkF m 102 #[.val (.ref a1), .val (.int p2), .val (.int p3), .val (.int p4), .val (.int (0 : Int32)), .val (.int (6 : Int32))] [(.int (0 : Int32)), (.ref ab)])) _
    refine X15.aaload hx (j := (0 : Int32)) (v := (.ref ac)) (by rw [e15]; exact Ar18.1) (State.isArrayOf_alike hZ.alike Ar18.2.1) rfl Ar18.2.2 hin18 (vH18.at hin18 rfl) (g := (mkF m 102 #[.val (.ref a1), .val (.int p2), .val (.int p3), .val (.int p4), .val (.int (0 : Int32)), .val (.int (6 : Int32))] [(.int (0 : Int32)), (.ref ab)])) rfl rfl (hb hby d3_102) _ ?_
    show Steps p.tables e below (T15.setTop (mkF m 103 #[.val (.ref a1), .val (.int p2), .val (.int p3), .val (.int p4), .val (.int (0 : Int32)), .val (.int (6 : Int32))] [(.ref ac)])) _
    refine XS.iload X15.here hx rfl (hb hby d3_103) rfl ?_
    show Steps p.tables e below (T15.setTop (mkF m 105 #[.val (.ref a1), .val (.int p2), .val (.int p3), .val (.int p4), .val (.int (0 : Int32)), .val (.int (6 : Int32))] [(.int (6 : Int32)), (.ref ac)])) _
    refine XS.iconst X15.here hx rfl (hb hby d3_105) ?_
    show Steps p.tables e below (T15.setTop (mkF m 106 #[.val (.ref a1), .val (.int p2), .val (.int p3), .val (.int p4), .val (.int (0 : Int32)), .val (.int (6 : Int32))] [(.int (2 : Int32)), (.int (6 : Int32)), (.ref ac)])) _
    refine XS.iadd X15.here hx rfl (hb hby d3_106) rfl ?_
    show Steps p.tables e below (T15.setTop (mkF m 107 #[.val (.ref a1), .val (.int p2), .val (.int p3), .val (.int p4), .val (.int (0 : Int32)), .val (.int (6 : Int32))] [(.int (8 : Int32)), (.ref ac)])) _
    refine XS.iloadN X15.here hx rfl (hb hby d3_107) rfl ?_
    show Steps p.tables e below (T15.setTop (mkF m 108 #[.val (.ref a1), .val (.int p2), .val (.int p3), .val (.int p4), .val (.int (0 : Int32)), .val (.int (6 : Int32))] [(.int p4), (.int (8 : Int32)), (.ref ac)])) _
    refine st19 _ ?_
    show Steps p.tables e below (T19.setTop (mkF m 109 #[.val (.ref a1), .val (.int p2), .val (.int p3), .val (.int p4), .val (.int (0 : Int32)), .val (.int (6 : Int32))] [])) _
    refine XS.aloadN X19.here hx rfl (hb hby d3_109) rfl rfl ?_
    show Steps p.tables e below (T19.setTop (mkF m 110 #[.val (.ref a1), .val (.int p2), .val (.int p3), .val (.int p4), .val (.int (0 : Int32)), .val (.int (6 : Int32))] [(.ref a1)])) _
    refine XS.dup X19.here hx rfl (hb hby d3_110) rfl rfl ?_
    show Steps p.tables e below (T19.setTop (mkF m 111 #[.val (.ref a1), .val (.int p2), .val (.int p3), .val (.int p4), .val (.int (0 : Int32)), .val (.int (6 : Int32))] [(.ref a1), (.ref a1)])) _
    refine st20 _ ?_
    show Steps p.tables e below (T20.setTop (mkF m 114 #[.val (.ref a1), .val (.int p2), .val (.int p3), .val (.int p4), .val (.int (0 : Int32)), .val (.int (6 : Int32))] [(.int (2 : Int32)), (.ref a1)])) _
    refine XS.iconst X20.here hx rfl (hb hby d3_114) ?_
    show Steps p.tables e below (T20.setTop (mkF m 115 #[.val (.ref a1), .val (.int p2), .val (.int p3), .val (.int p4), .val (.int (0 : Int32)), .val (.int (6 : Int32))] [(.int (1 : Int32)), (.int (2 : Int32)), (.ref a1)])) _
    refine XS.iadd X20.here hx rfl (hb hby d3_115) rfl ?_
    show Steps p.tables e below (T20.setTop (mkF m 116 #[.val (.ref a1), .val (.int p2), .val (.int p3), .val (.int p4), .val (.int (0 : Int32)), .val (.int (6 : Int32))] [(.int (3 : Int32)), (.ref a1)])) _
    refine st22 _ ?_
    show Steps p.tables e below (T22.setTop (mkF m 119 #[.val (.ref a1), .val (.int p2), .val (.int p3), .val (.int p4), .val (.int (0 : Int32)), .val (.int (6 : Int32))] [])) _
    exact X22.returnOut hx Bd.returns (hb hby d3_119) hr
  · show Q_add2 Z a1 p2 p3 p4 ab akb ac akc y0 y1 y2 y3 y4 y5 h0 n0 _ T22.heap _
    rw [e22]
    exact ⟨rfl, N22, (((((Keep.refl h0 [a1, ac]).wr W9 (Or.inl (List.mem_of_getElem? (i := 1) rfl))).wr W14 (Or.inl (List.mem_of_getElem? (i := 1) rfl))).wr W19 (Or.inl (List.mem_of_getElem? (i := 1) rfl))).wr W22 (Or.inl (List.mem_of_getElem? (i := 0) rfl))), F24, F25, Fw22, F26, r4, F27⟩
set_option maxRecDepth 65536 in
set_option maxHeartbeats 40000000 in
theorem rm_object0 (l : Launch) (Z : State) (a0 : Array Value) (hw : ∀ d ∈ tables_1, d.before a0 Z = true) (ws : List Jvm.Cond) (a1 : Addr) (ab : Addr) (akb : ClassId) (ac : Addr) (akc : ClassId) (y0 : Int32) (y1 : Int32) (y2 : Int32) (y3 : Int32) (y4 : Int32) (y5 : Int32) (y6 : Int32) (y7 : Int32) (y8 : Int32) (h0 : Heap) (n0 : Nat) (Z0 : n0 ≤ h0.size) (O0 : Old Z n0 h0) (r0 : Fld Z h0 a1 "com/example/keysmith/keysmith/TripleBuffer" "blocks" "[[I" (.ref ab)) (r1 : Arv Z h0 ab akb (.array .int) (16 : Int32) [(.ref ac), .null, .null, .null, .null, .null, .null, .null, .null, .null, .null, .null, .null, .null, .null, .null] .null) (r2 : Arv Z h0 ac akc .int (196608 : Int32) [(.int y0), (.int y1), (.int y2), (.int y3), (.int y4), (.int y5), (.int y6), (.int y7), (.int y8)] (.int (0 : Int32))) :
    MetFree l (⟨"com/example/keysmith/keysmith/TripleBuffer", "object", "(I)I"⟩ : MethodName) (head1 (Jvm.Cond.code (⟨"com/example/keysmith/keysmith/TripleBuffer", "object", "(I)I"⟩ : MethodName) prog_15_method_6_code 2 (some .int) :: ws) ({ frames := 0, cells := 0, slots := 0, locals := 0 } : Room)) (fun a U => a = #[(.ref a1), (.int (0 : Int32))] ∧ Z.Warmed39 U.vm ∧ U.heap = h0) (fun _ _ _ _ _ => True) (fun _ U o U' => ∃ v L, o = .returned v ∧ PureQ (some (.int y2)) h0 n0 v U'.heap L ∧ FrameEnd U o U' L ({ frames := 0, cells := 0, slots := 0, locals := 0 } : Room).cells ({ frames := 0, cells := 0, slots := 0, locals := 0 } : Room).slots) := by
  refine MetFree.of_bodySF (plainFor_of_name pn_TripleBuffer) hisR ?_
  intro p e s m args below meth c s₁ Bd hml0 hP hK
  obtain ⟨rfl, hZ, hh⟩ := hP
  have hx := Bd.exec
  have hby := Bd.bytes
  have hml : c.maxLocals = 2 := hml0
  have hown : s.vm.findClass "com/example/keysmith/keysmith/TripleBuffer" = some m.cls := findClass_of_methodNamed Bd.named
  have hnm := (name_of_methodNamed Bd.named Bd.method).1
  have X0 : Stand p l e ({ frames := 0, cells := 0, slots := 0, locals := 0 } : Room) s m #[(.ref a1), (.int (0 : Int32))] below meth c s₁ [] 0 0 := Stand.of_body Bd
  have e0 : s₁.heap = h0 := by rw [← hh, Bd.state]; rfl
  have N0 := Fr.nil n0
  have pre0 : ∀ t, Steps p.tables e below (s₁.setTop (mkF m 0 #[.val (.ref a1), .val (.int (0 : Int32))] [])) t → Steps p.tables e below (s₁.setTop (entryFrame m #[(.ref a1), (.int (0 : Int32))] 2)) t := fun t k => castTop (ef_object0 m a1) k
  obtain ⟨T1, X1, e1, st1⟩ := getF X0 hx hZ hown (host := "") (Or.inl (hw _ (List.mem_of_getElem? (i := 11) rfl))) Via.refl e0 r0 (g := (mkF m 1 #[.val (.ref a1), .val (.int (0 : Int32))] [(.ref a1)])) rfl rfl (hb hby d4_1)
  obtain ⟨cl2, Ar2, vq2, vS2, vN2, vH2, vG2⟩ := id r1
  have hin2 : ¬ (((0 : Int32) : Int32) < 0 ∨ cl2.slots.size ≤ ((0 : Int32) : Int32).toNatClampNeg) := inb_of vS2 ⟨by decide, by decide⟩
  obtain ⟨cl3, Ar3, vq3, vS3, vN3, vH3, vG3⟩ := id r2
  have hin3 : ¬ (((2 : Int32) : Int32) < 0 ∨ cl3.slots.size ≤ ((2 : Int32) : Int32).toNatClampNeg) := inb_of vS3 ⟨by decide, by decide⟩
  obtain ⟨fs, hr, hrun, hended, hW, hsame⟩ := X1.leave (v := some (.int y2)) (fun h => by rw [Bd.returns] at h; cases h)
  refine ⟨_, _, pre0 _ ?_, hrun, hended, _, _, rfl, ?_, ⟨_, rfl⟩, hW, hsame.mono (by decide) (by decide)⟩
  · show Steps p.tables e below (s₁.setTop (mkF m 0 #[.val (.ref a1), .val (.int (0 : Int32))] [])) _
    refine XS.aloadN X0.here hx rfl (hb hby d4_0) rfl rfl ?_
    show Steps p.tables e below (s₁.setTop (mkF m 1 #[.val (.ref a1), .val (.int (0 : Int32))] [(.ref a1)])) _
    refine st1 _ ?_
    show Steps p.tables e below (T1.setTop (mkF m 4 #[.val (.ref a1), .val (.int (0 : Int32))] [(.ref ab)])) _
    refine XS.iloadN X1.here hx rfl (hb hby d4_4) rfl ?_
    show Steps p.tables e below (T1.setTop (mkF m 5 #[.val (.ref a1), .val (.int (0 : Int32))] [(.int (0 : Int32)), (.ref ab)])) _
    refine XS.bipush X1.here hx rfl (hb hby d4_5) ?_
    show Steps p.tables e below (T1.setTop (mkF m 7 #[.val (.ref a1), .val (.int (0 : Int32))] [(.int (16 : Int32)), (.int (0 : Int32)), (.ref ab)])) _
    refine XS.iushr X1.here hx rfl (hb hby d4_7) rfl ?_
    show Steps p.tables e below (T1.setTop (mkF m 8 #[.val (.ref a1), .val (.int (0 : Int32))] [(.int (0 : Int32)), (.ref ab)])) _
    refine X1.aaload hx (j := (0 : Int32)) (v := (.ref ac)) (by rw [e1]; exact Ar2.1) (State.isArrayOf_alike hZ.alike Ar2.2.1) rfl Ar2.2.2 hin2 (vH2.at hin2 rfl) (g := (mkF m 8 #[.val (.ref a1), .val (.int (0 : Int32))] [(.int (0 : Int32)), (.ref ab)])) rfl rfl (hb hby d4_8) _ ?_
    show Steps p.tables e below (T1.setTop (mkF m 9 #[.val (.ref a1), .val (.int (0 : Int32))] [(.ref ac)])) _
    refine XS.iconst X1.here hx rfl (hb hby d4_9) ?_
    show Steps p.tables e below (T1.setTop (mkF m 10 #[.val (.ref a1), .val (.int (0 : Int32))] [(.int (3 : Int32)), (.ref ac)])) _
    refine XS.iloadN X1.here hx rfl (hb hby d4_10) rfl ?_
    show Steps p.tables e below (T1.setTop (mkF m 11 #[.val (.ref a1), .val (.int (0 : Int32))] [(.int (0 : Int32)), (.int (3 : Int32)), (.ref ac)])) _
    refine X1.ldcInt hx hown (mvT hZ (hw _ (List.mem_of_getElem? (i := 23) rfl))) (g := (mkF m 11 #[.val (.ref a1), .val (.int (0 : Int32))] [(.int (0 : Int32)), (.int (3 : Int32)), (.ref ac)])) rfl (hb hby d4_11) _ ?_
    show Steps p.tables e below (T1.setTop (mkF m 13 #[.val (.ref a1), .val (.int (0 : Int32))] [(.int (65535 : Int32)), (.int (0 : Int32)), (.int (3 : Int32)), (.ref ac)])) _
    refine XS.iand X1.here hx rfl (hb hby d4_13) rfl ?_
    show Steps p.tables e below (T1.setTop (mkF m 14 #[.val (.ref a1), .val (.int (0 : Int32))] [(.int (0 : Int32)), (.int (3 : Int32)), (.ref ac)])) _
    refine XS.imul X1.here hx rfl (hb hby d4_14) rfl ?_
    show Steps p.tables e below (T1.setTop (mkF m 15 #[.val (.ref a1), .val (.int (0 : Int32))] [(.int (0 : Int32)), (.ref ac)])) _
    refine XS.iconst X1.here hx rfl (hb hby d4_15) ?_
    show Steps p.tables e below (T1.setTop (mkF m 16 #[.val (.ref a1), .val (.int (0 : Int32))] [(.int (2 : Int32)), (.int (0 : Int32)), (.ref ac)])) _
    refine XS.iadd X1.here hx rfl (hb hby d4_16) rfl ?_
    show Steps p.tables e below (T1.setTop (mkF m 17 #[.val (.ref a1), .val (.int (0 : Int32))] [(.int (2 : Int32)), (.ref ac)])) _
    refine X1.iaload hx (j := (2 : Int32)) (v := (.int y2)) (by rw [e1]; exact Ar3.1) (State.isArrayOf_alike hZ.alike Ar3.2.1) Ar3.2.2 hin3 (vH3.at hin3 rfl) (g := (mkF m 17 #[.val (.ref a1), .val (.int (0 : Int32))] [(.int (2 : Int32)), (.ref ac)])) rfl rfl (hb hby d4_17) _ ?_
    show Steps p.tables e below (T1.setTop (mkF m 18 #[.val (.ref a1), .val (.int (0 : Int32))] [(.int y2)])) _
    exact retI X1 hx Bd.returns (hb hby d4_18) hr
  · exact ⟨rfl, N0, e1⟩
set_option maxRecDepth 65536 in
set_option maxHeartbeats 40000000 in
theorem rm_object1 (l : Launch) (Z : State) (a0 : Array Value) (hw : ∀ d ∈ tables_1, d.before a0 Z = true) (ws : List Jvm.Cond) (a1 : Addr) (ab : Addr) (akb : ClassId) (ac : Addr) (akc : ClassId) (y0 : Int32) (y1 : Int32) (y2 : Int32) (y3 : Int32) (y4 : Int32) (y5 : Int32) (y6 : Int32) (y7 : Int32) (y8 : Int32) (h0 : Heap) (n0 : Nat) (Z0 : n0 ≤ h0.size) (O0 : Old Z n0 h0) (r0 : Fld Z h0 a1 "com/example/keysmith/keysmith/TripleBuffer" "blocks" "[[I" (.ref ab)) (r1 : Arv Z h0 ab akb (.array .int) (16 : Int32) [(.ref ac), .null, .null, .null, .null, .null, .null, .null, .null, .null, .null, .null, .null, .null, .null, .null] .null) (r2 : Arv Z h0 ac akc .int (196608 : Int32) [(.int y0), (.int y1), (.int y2), (.int y3), (.int y4), (.int y5), (.int y6), (.int y7), (.int y8)] (.int (0 : Int32))) :
    MetFree l (⟨"com/example/keysmith/keysmith/TripleBuffer", "object", "(I)I"⟩ : MethodName) (head1 (Jvm.Cond.code (⟨"com/example/keysmith/keysmith/TripleBuffer", "object", "(I)I"⟩ : MethodName) prog_15_method_6_code 2 (some .int) :: ws) ({ frames := 0, cells := 0, slots := 0, locals := 0 } : Room)) (fun a U => a = #[(.ref a1), (.int (1 : Int32))] ∧ Z.Warmed39 U.vm ∧ U.heap = h0) (fun _ _ _ _ _ => True) (fun _ U o U' => ∃ v L, o = .returned v ∧ PureQ (some (.int y5)) h0 n0 v U'.heap L ∧ FrameEnd U o U' L ({ frames := 0, cells := 0, slots := 0, locals := 0 } : Room).cells ({ frames := 0, cells := 0, slots := 0, locals := 0 } : Room).slots) := by
  refine MetFree.of_bodySF (plainFor_of_name pn_TripleBuffer) hisR ?_
  intro p e s m args below meth c s₁ Bd hml0 hP hK
  obtain ⟨rfl, hZ, hh⟩ := hP
  have hx := Bd.exec
  have hby := Bd.bytes
  have hml : c.maxLocals = 2 := hml0
  have hown : s.vm.findClass "com/example/keysmith/keysmith/TripleBuffer" = some m.cls := findClass_of_methodNamed Bd.named
  have hnm := (name_of_methodNamed Bd.named Bd.method).1
  have X0 : Stand p l e ({ frames := 0, cells := 0, slots := 0, locals := 0 } : Room) s m #[(.ref a1), (.int (1 : Int32))] below meth c s₁ [] 0 0 := Stand.of_body Bd
  have e0 : s₁.heap = h0 := by rw [← hh, Bd.state]; rfl
  have N0 := Fr.nil n0
  have pre0 : ∀ t, Steps p.tables e below (s₁.setTop (mkF m 0 #[.val (.ref a1), .val (.int (1 : Int32))] [])) t → Steps p.tables e below (s₁.setTop (entryFrame m #[(.ref a1), (.int (1 : Int32))] 2)) t := fun t k => castTop (ef_object1 m a1) k
  obtain ⟨T1, X1, e1, st1⟩ := getF X0 hx hZ hown (host := "") (Or.inl (hw _ (List.mem_of_getElem? (i := 11) rfl))) Via.refl e0 r0 (g := (mkF m 1 #[.val (.ref a1), .val (.int (1 : Int32))] [(.ref a1)])) rfl rfl (hb hby d4_1)
  obtain ⟨cl2, Ar2, vq2, vS2, vN2, vH2, vG2⟩ := id r1
  have hin2 : ¬ (((0 : Int32) : Int32) < 0 ∨ cl2.slots.size ≤ ((0 : Int32) : Int32).toNatClampNeg) := inb_of vS2 ⟨by decide, by decide⟩
  obtain ⟨cl3, Ar3, vq3, vS3, vN3, vH3, vG3⟩ := id r2
  have hin3 : ¬ (((5 : Int32) : Int32) < 0 ∨ cl3.slots.size ≤ ((5 : Int32) : Int32).toNatClampNeg) := inb_of vS3 ⟨by decide, by decide⟩
  obtain ⟨fs, hr, hrun, hended, hW, hsame⟩ := X1.leave (v := some (.int y5)) (fun h => by rw [Bd.returns] at h; cases h)
  refine ⟨_, _, pre0 _ ?_, hrun, hended, _, _, rfl, ?_, ⟨_, rfl⟩, hW, hsame.mono (by decide) (by decide)⟩
  · show Steps p.tables e below (s₁.setTop (mkF m 0 #[.val (.ref a1), .val (.int (1 : Int32))] [])) _
    refine XS.aloadN X0.here hx rfl (hb hby d4_0) rfl rfl ?_
    show Steps p.tables e below (s₁.setTop (mkF m 1 #[.val (.ref a1), .val (.int (1 : Int32))] [(.ref a1)])) _
    refine st1 _ ?_
    show Steps p.tables e below (T1.setTop (mkF m 4 #[.val (.ref a1), .val (.int (1 : Int32))] [(.ref ab)])) _
    refine XS.iloadN X1.here hx rfl (hb hby d4_4) rfl ?_
    show Steps p.tables e below (T1.setTop (mkF m 5 #[.val (.ref a1), .val (.int (1 : Int32))] [(.int (1 : Int32)), (.ref ab)])) _
    refine XS.bipush X1.here hx rfl (hb hby d4_5) ?_
    show Steps p.tables e below (T1.setTop (mkF m 7 #[.val (.ref a1), .val (.int (1 : Int32))] [(.int (16 : Int32)), (.int (1 : Int32)), (.ref ab)])) _
    refine XS.iushr X1.here hx rfl (hb hby d4_7) rfl ?_
    show Steps p.tables e below (T1.setTop (mkF m 8 #[.val (.ref a1), .val (.int (1 : Int32))] [(.int (0 : Int32)), (.ref ab)])) _
    refine X1.aaload hx (j := (0 : Int32)) (v := (.ref ac)) (by rw [e1]; exact Ar2.1) (State.isArrayOf_alike hZ.alike Ar2.2.1) rfl Ar2.2.2 hin2 (vH2.at hin2 rfl) (g := (mkF m 8 #[.val (.ref a1), .val (.int (1 : Int32))] [(.int (0 : Int32)), (.ref ab)])) rfl rfl (hb hby d4_8) _ ?_
    show Steps p.tables e below (T1.setTop (mkF m 9 #[.val (.ref a1), .val (.int (1 : Int32))] [(.ref ac)])) _
    refine XS.iconst X1.here hx rfl (hb hby d4_9) ?_
    show Steps p.tables e below (T1.setTop (mkF m 10 #[.val (.ref a1), .val (.int (1 : Int32))] [(.int (3 : Int32)), (.ref ac)])) _
    refine XS.iloadN X1.here hx rfl (hb hby d4_10) rfl ?_
    show Steps p.tables e below (T1.setTop (mkF m 11 #[.val (.ref a1), .val (.int (1 : Int32))] [(.int (1 : Int32)), (.int (3 : Int32)), (.ref ac)])) _
    refine X1.ldcInt hx hown (mvT hZ (hw _ (List.mem_of_getElem? (i := 23) rfl))) (g := (mkF m 11 #[.val (.ref a1), .val (.int (1 : Int32))] [(.int (1 : Int32)), (.int (3 : Int32)), (.ref ac)])) rfl (hb hby d4_11) _ ?_
    show Steps p.tables e below (T1.setTop (mkF m 13 #[.val (.ref a1), .val (.int (1 : Int32))] [(.int (65535 : Int32)), (.int (1 : Int32)), (.int (3 : Int32)), (.ref ac)])) _
    refine XS.iand X1.here hx rfl (hb hby d4_13) rfl ?_
    show Steps p.tables e below (T1.setTop (mkF m 14 #[.val (.ref a1), .val (.int (1 : Int32))] [(.int (1 : Int32)), (.int (3 : Int32)), (.ref ac)])) _
    refine XS.imul X1.here hx rfl (hb hby d4_14) rfl ?_
    show Steps p.tables e below (T1.setTop (mkF m 15 #[.val (.ref a1), .val (.int (1 : Int32))] [(.int (3 : Int32)), (.ref ac)])) _
    refine XS.iconst X1.here hx rfl (hb hby d4_15) ?_
    show Steps p.tables e below (T1.setTop (mkF m 16 #[.val (.ref a1), .val (.int (1 : Int32))] [(.int (2 : Int32)), (.int (3 : Int32)), (.ref ac)])) _
    refine XS.iadd X1.here hx rfl (hb hby d4_16) rfl ?_
    show Steps p.tables e below (T1.setTop (mkF m 17 #[.val (.ref a1), .val (.int (1 : Int32))] [(.int (5 : Int32)), (.ref ac)])) _
    refine X1.iaload hx (j := (5 : Int32)) (v := (.int y5)) (by rw [e1]; exact Ar3.1) (State.isArrayOf_alike hZ.alike Ar3.2.1) Ar3.2.2 hin3 (vH3.at hin3 rfl) (g := (mkF m 17 #[.val (.ref a1), .val (.int (1 : Int32))] [(.int (5 : Int32)), (.ref ac)])) rfl rfl (hb hby d4_17) _ ?_
    show Steps p.tables e below (T1.setTop (mkF m 18 #[.val (.ref a1), .val (.int (1 : Int32))] [(.int y5)])) _
    exact retI X1 hx Bd.returns (hb hby d4_18) hr
  · exact ⟨rfl, N0, e1⟩
set_option maxRecDepth 65536 in
set_option maxHeartbeats 40000000 in
theorem rm_object2 (l : Launch) (Z : State) (a0 : Array Value) (hw : ∀ d ∈ tables_1, d.before a0 Z = true) (ws : List Jvm.Cond) (a1 : Addr) (ab : Addr) (akb : ClassId) (ac : Addr) (akc : ClassId) (y0 : Int32) (y1 : Int32) (y2 : Int32) (y3 : Int32) (y4 : Int32) (y5 : Int32) (y6 : Int32) (y7 : Int32) (y8 : Int32) (h0 : Heap) (n0 : Nat) (Z0 : n0 ≤ h0.size) (O0 : Old Z n0 h0) (r0 : Fld Z h0 a1 "com/example/keysmith/keysmith/TripleBuffer" "blocks" "[[I" (.ref ab)) (r1 : Arv Z h0 ab akb (.array .int) (16 : Int32) [(.ref ac), .null, .null, .null, .null, .null, .null, .null, .null, .null, .null, .null, .null, .null, .null, .null] .null) (r2 : Arv Z h0 ac akc .int (196608 : Int32) [(.int y0), (.int y1), (.int y2), (.int y3), (.int y4), (.int y5), (.int y6), (.int y7), (.int y8)] (.int (0 : Int32))) :
    MetFree l (⟨"com/example/keysmith/keysmith/TripleBuffer", "object", "(I)I"⟩ : MethodName) (head1 (Jvm.Cond.code (⟨"com/example/keysmith/keysmith/TripleBuffer", "object", "(I)I"⟩ : MethodName) prog_15_method_6_code 2 (some .int) :: ws) ({ frames := 0, cells := 0, slots := 0, locals := 0 } : Room)) (fun a U => a = #[(.ref a1), (.int (2 : Int32))] ∧ Z.Warmed39 U.vm ∧ U.heap = h0) (fun _ _ _ _ _ => True) (fun _ U o U' => ∃ v L, o = .returned v ∧ PureQ (some (.int y8)) h0 n0 v U'.heap L ∧ FrameEnd U o U' L ({ frames := 0, cells := 0, slots := 0, locals := 0 } : Room).cells ({ frames := 0, cells := 0, slots := 0, locals := 0 } : Room).slots) := by
  refine MetFree.of_bodySF (plainFor_of_name pn_TripleBuffer) hisR ?_
  intro p e s m args below meth c s₁ Bd hml0 hP hK
  obtain ⟨rfl, hZ, hh⟩ := hP
  have hx := Bd.exec
  have hby := Bd.bytes
  have hml : c.maxLocals = 2 := hml0
  have hown : s.vm.findClass "com/example/keysmith/keysmith/TripleBuffer" = some m.cls := findClass_of_methodNamed Bd.named
  have hnm := (name_of_methodNamed Bd.named Bd.method).1
  have X0 : Stand p l e ({ frames := 0, cells := 0, slots := 0, locals := 0 } : Room) s m #[(.ref a1), (.int (2 : Int32))] below meth c s₁ [] 0 0 := Stand.of_body Bd
  have e0 : s₁.heap = h0 := by rw [← hh, Bd.state]; rfl
  have N0 := Fr.nil n0
  have pre0 : ∀ t, Steps p.tables e below (s₁.setTop (mkF m 0 #[.val (.ref a1), .val (.int (2 : Int32))] [])) t → Steps p.tables e below (s₁.setTop (entryFrame m #[(.ref a1), (.int (2 : Int32))] 2)) t := fun t k => castTop (ef_object2 m a1) k
  obtain ⟨T1, X1, e1, st1⟩ := getF X0 hx hZ hown (host := "") (Or.inl (hw _ (List.mem_of_getElem? (i := 11) rfl))) Via.refl e0 r0 (g := (mkF m 1 #[.val (.ref a1), .val (.int (2 : Int32))] [(.ref a1)])) rfl rfl (hb hby d4_1)
  obtain ⟨cl2, Ar2, vq2, vS2, vN2, vH2, vG2⟩ := id r1
  have hin2 : ¬ (((0 : Int32) : Int32) < 0 ∨ cl2.slots.size ≤ ((0 : Int32) : Int32).toNatClampNeg) := inb_of vS2 ⟨by decide, by decide⟩
  obtain ⟨cl3, Ar3, vq3, vS3, vN3, vH3, vG3⟩ := id r2
  have hin3 : ¬ (((8 : Int32) : Int32) < 0 ∨ cl3.slots.size ≤ ((8 : Int32) : Int32).toNatClampNeg) := inb_of vS3 ⟨by decide, by decide⟩
  obtain ⟨fs, hr, hrun, hended, hW, hsame⟩ := X1.leave (v := some (.int y8)) (fun h => by rw [Bd.returns] at h; cases h)
  refine ⟨_, _, pre0 _ ?_, hrun, hended, _, _, rfl, ?_, ⟨_, rfl⟩, hW, hsame.mono (by decide) (by decide)⟩
  · show Steps p.tables e below (s₁.setTop (mkF m 0 #[.val (.ref a1), .val (.int (2 : Int32))] [])) _
    refine XS.aloadN X0.here hx rfl (hb hby d4_0) rfl rfl ?_
    show Steps p.tables e below (s₁.setTop (mkF m 1 #[.val (.ref a1), .val (.int (2 : Int32))] [(.ref a1)])) _
    refine st1 _ ?_
    show Steps p.tables e below (T1.setTop (mkF m 4 #[.val (.ref a1), .val (.int (2 : Int32))] [(.ref ab)])) _
    refine XS.iloadN X1.here hx rfl (hb hby d4_4) rfl ?_
    show Steps p.tables e below (T1.setTop (mkF m 5 #[.val (.ref a1), .val (.int (2 : Int32))] [(.int (2 : Int32)), (.ref ab)])) _
    refine XS.bipush X1.here hx rfl (hb hby d4_5) ?_
    show Steps p.tables e below (T1.setTop (mkF m 7 #[.val (.ref a1), .val (.int (2 : Int32))] [(.int (16 : Int32)), (.int (2 : Int32)), (.ref ab)])) _
    refine XS.iushr X1.here hx rfl (hb hby d4_7) rfl ?_
    show Steps p.tables e below (T1.setTop (mkF m 8 #[.val (.ref a1), .val (.int (2 : Int32))] [(.int (0 : Int32)), (.ref ab)])) _
    refine X1.aaload hx (j := (0 : Int32)) (v := (.ref ac)) (by rw [e1]; exact Ar2.1) (State.isArrayOf_alike hZ.alike Ar2.2.1) rfl Ar2.2.2 hin2 (vH2.at hin2 rfl) (g := (mkF m 8 #[.val (.ref a1), .val (.int (2 : Int32))] [(.int (0 : Int32)), (.ref ab)])) rfl rfl (hb hby d4_8) _ ?_
    show Steps p.tables e below (T1.setTop (mkF m 9 #[.val (.ref a1), .val (.int (2 : Int32))] [(.ref ac)])) _
    refine XS.iconst X1.here hx rfl (hb hby d4_9) ?_
    show Steps p.tables e below (T1.setTop (mkF m 10 #[.val (.ref a1), .val (.int (2 : Int32))] [(.int (3 : Int32)), (.ref ac)])) _
    refine XS.iloadN X1.here hx rfl (hb hby d4_10) rfl ?_
    show Steps p.tables e below (T1.setTop (mkF m 11 #[.val (.ref a1), .val (.int (2 : Int32))] [(.int (2 : Int32)), (.int (3 : Int32)), (.ref ac)])) _
    refine X1.ldcInt hx hown (mvT hZ (hw _ (List.mem_of_getElem? (i := 23) rfl))) (g := (mkF m 11 #[.val (.ref a1), .val (.int (2 : Int32))] [(.int (2 : Int32)), (.int (3 : Int32)), (.ref ac)])) rfl (hb hby d4_11) _ ?_
    show Steps p.tables e below (T1.setTop (mkF m 13 #[.val (.ref a1), .val (.int (2 : Int32))] [(.int (65535 : Int32)), (.int (2 : Int32)), (.int (3 : Int32)), (.ref ac)])) _
    refine XS.iand X1.here hx rfl (hb hby d4_13) rfl ?_
    show Steps p.tables e below (T1.setTop (mkF m 14 #[.val (.ref a1), .val (.int (2 : Int32))] [(.int (2 : Int32)), (.int (3 : Int32)), (.ref ac)])) _
    refine XS.imul X1.here hx rfl (hb hby d4_14) rfl ?_
    show Steps p.tables e below (T1.setTop (mkF m 15 #[.val (.ref a1), .val (.int (2 : Int32))] [(.int (6 : Int32)), (.ref ac)])) _
    refine XS.iconst X1.here hx rfl (hb hby d4_15) ?_
    show Steps p.tables e below (T1.setTop (mkF m 16 #[.val (.ref a1), .val (.int (2 : Int32))] [(.int (2 : Int32)), (.int (6 : Int32)), (.ref ac)])) _
    refine XS.iadd X1.here hx rfl (hb hby d4_16) rfl ?_
    show Steps p.tables e below (T1.setTop (mkF m 17 #[.val (.ref a1), .val (.int (2 : Int32))] [(.int (8 : Int32)), (.ref ac)])) _
    refine X1.iaload hx (j := (8 : Int32)) (v := (.int y8)) (by rw [e1]; exact Ar3.1) (State.isArrayOf_alike hZ.alike Ar3.2.1) Ar3.2.2 hin3 (vH3.at hin3 rfl) (g := (mkF m 17 #[.val (.ref a1), .val (.int (2 : Int32))] [(.int (8 : Int32)), (.ref ac)])) rfl rfl (hb hby d4_17) _ ?_
    show Steps p.tables e below (T1.setTop (mkF m 18 #[.val (.ref a1), .val (.int (2 : Int32))] [(.int y8)])) _
    exact retI X1 hx Bd.returns (hb hby d4_18) hr
  · exact ⟨rfl, N0, e1⟩
def Q_set0 (Z : State) (a1 : Addr) (p3 : Int32) (ab : Addr) (akb : ClassId) (ac : Addr) (akc : ClassId) (y0 : Int32) (y1 : Int32) (y2 : Int32) (y3 : Int32) (y4 : Int32) (y5 : Int32) (y6 : Int32) (y7 : Int32) (y8 : Int32) (h0 : Heap) (n0 : Nat) (v : Option Value) (h : Heap) (L : List Loc) : Prop := v = none ∧ Fr n0 L ∧ Keep h0 h [ac] ∧ Arv Z h ac akc .int (196608 : Int32) [(.int y0), (.int y1), (.int p3), (.int y3), (.int y4), (.int y5), (.int y6), (.int y7), (.int y8)] (.int (0 : Int32))
set_option maxRecDepth 65536 in
set_option maxHeartbeats 40000000 in
theorem rm_set0 (l : Launch) (Z : State) (a0 : Array Value) (hw : ∀ d ∈ tables_1, d.before a0 Z = true) (ws : List Jvm.Cond) (a1 : Addr) (p3 : Int32) (ab : Addr) (akb : ClassId) (ac : Addr) (akc : ClassId) (y0 : Int32) (y1 : Int32) (y2 : Int32) (y3 : Int32) (y4 : Int32) (y5 : Int32) (y6 : Int32) (y7 : Int32) (y8 : Int32) (h0 : Heap) (n0 : Nat) (Z0 : n0 ≤ h0.size) (O0 : Old Z n0 h0) (r0 : Fld Z h0 a1 "com/example/keysmith/keysmith/TripleBuffer" "blocks" "[[I" (.ref ab)) (r1 : Arv Z h0 ab akb (.array .int) (16 : Int32) [(.ref ac), .null, .null, .null, .null, .null, .null, .null, .null, .null, .null, .null, .null, .null, .null, .null] .null) (r2 : Arv Z h0 ac akc .int (196608 : Int32) [(.int y0), (.int y1), (.int y2), (.int y3), (.int y4), (.int y5), (.int y6), (.int y7), (.int y8)] (.int (0 : Int32))) (g_ac : n0 ≤ ac) :
    MetFree l (⟨"com/example/keysmith/keysmith/TripleBuffer", "setObject", "(II)V"⟩ : MethodName) (head1 (Jvm.Cond.code (⟨"com/example/keysmith/keysmith/TripleBuffer", "setObject", "(II)V"⟩ : MethodName) prog_15_method_7_code 3 none :: ws) ({ frames := 0, cells := 0, slots := 0, locals := 0 } : Room)) (fun a U => a = #[(.ref a1), (.int (0 : Int32)), (.int p3)] ∧ Z.Warmed39 U.vm ∧ U.heap = h0) (fun _ _ _ _ _ => True) (fun _ U o U' => ∃ v L, o = .returned v ∧ Q_set0 Z a1 p3 ab akb ac akc y0 y1 y2 y3 y4 y5 y6 y7 y8 h0 n0 v U'.heap L ∧ FrameEnd U o U' L ({ frames := 0, cells := 0, slots := 0, locals := 0 } : Room).cells ({ frames := 0, cells := 0, slots := 0, locals := 0 } : Room).slots) := by
  refine MetFree.of_bodySF (plainFor_of_name pn_TripleBuffer) hisR ?_
  intro p e s m args below meth c s₁ Bd hml0 hP hK
  obtain ⟨rfl, hZ, hh⟩ := hP
  have hx := Bd.exec
  have hby := Bd.bytes
  have hml : c.maxLocals = 3 := hml0
  have hown : s.vm.findClass "com/example/keysmith/keysmith/TripleBuffer" = some m.cls := findClass_of_methodNamed Bd.named
  have hnm := (name_of_methodNamed Bd.named Bd.method).1
  have X0 : Stand p l e ({ frames := 0, cells := 0, slots := 0, locals := 0 } : Room) s m #[(.ref a1), (.int (0 : Int32)), (.int p3)] below meth c s₁ [] 0 0 := Stand.of_body Bd
  have e0 : s₁.heap = h0 := by rw [← hh, Bd.state]; rfl
  have N0 := Fr.nil n0
  have pre0 : ∀ t, Steps p.tables e below (s₁.setTop (mkF m 0 #[.val (.ref a1), .val (.int (0 : Int32)), .val (.int p3)] [])) t → Steps p.tables e below (s₁.setTop (entryFrame m #[(.ref a1), (.int (0 : Int32)), (.int p3)] 3)) t := fun t k => castTop (ef_set0 m a1 p3) k
  obtain ⟨T1, X1, e1, st1⟩ := getF X0 hx hZ hown (host := "") (Or.inl (hw _ (List.mem_of_getElem? (i := 11) rfl))) Via.refl e0 r0 (g := (mkF m 1 #[.val (.ref a1), .val (.int (0 : Int32)), .val (.int p3)] [(.ref a1)])) rfl rfl (hb hby d5_1)
  obtain ⟨cl2, Ar2, vq2, vS2, vN2, vH2, vG2⟩ := id r1
  have hin2 : ¬ (((0 : Int32) : Int32) < 0 ∨ cl2.slots.size ≤ ((0 : Int32) : Int32).toNatClampNeg) := inb_of vS2 ⟨by decide, by decide⟩
  obtain ⟨cl3, Ar3, vq3, vS3, vN3, vH3, vG3⟩ := id r2
  have hin3 : ¬ (((2 : Int32) : Int32) < 0 ∨ cl3.slots.size ≤ ((2 : Int32) : Int32).toNatClampNeg) := inb_of vS3 ⟨by decide, by decide⟩
  obtain ⟨T3, h3, X3, e3, W3, st3⟩ := stI X1 hx hZ e1 Ar3 (j := (2 : Int32)) hin3 (g := (mkF m 18 #[.val (.ref a1), .val (.int (0 : Int32)), .val (.int p3)] [(.int p3), (.int (2 : Int32)), (.ref ac)])) rfl rfl (hb hby d5_18)
  have V3 : Arv Z h3 ac akc .int (196608 : Int32) [(.int y0), (.int y1), (.int p3), (.int y3), (.int y4), (.int y5), (.int y6), (.int y7), (.int y8)] (.int (0 : Int32)) := Arv.set Ar3 vq3 vS3 vN3 vH3 vG3 rfl W3 2 rfl (Nat.le_of_ble_eq_true rfl)
  have N3 := Fr.snoc X3 N0 g_ac
  obtain ⟨fs, hr, hrun, hended, hW, hsame⟩ := X3.leave (v := none) (fun _ => rfl)
  refine ⟨_, _, pre0 _ ?_, hrun, hended, _, _, rfl, ?_, ⟨_, rfl⟩, hW, hsame.mono (by decide) (by decide)⟩
  · show Steps p.tables e below (s₁.setTop (mkF m 0 #[.val (.ref a1), .val (.int (0 : Int32)), .val (.int p3)] [])) _
    refine XS.aloadN X0.here hx rfl (hb hby d5_0) rfl rfl ?_
    show Steps p.tables e below (s₁.setTop (mkF m 1 #[.val (.ref a1), .val (.int (0 : Int32)), .val (.int p3)] [(.ref a1)])) _
    refine st1 _ ?_
    show Steps p.tables e below (T1.setTop (mkF m 4 #[.val (.ref a1), .val (.int (0 : Int32)), .val (.int p3)] [(.ref ab)])) _
    refine XS.iloadN X1.here hx rfl (hb hby d5_4) rfl ?_
    show Steps p.tables e below (T1.setTop (mkF m 5 #[.val (.ref a1), .val (.int (0 : Int32)), .val (.int p3)] [(.int (0 : Int32)), (.ref ab)])) _
    refine XS.bipush X1.here hx rfl (hb hby d5_5) ?_
    show Steps p.tables e below (T1.setTop (mkF m 7 #[.val (.ref a1), .val (.int (0 : Int32)), .val (.int p3)] [(.int (16 : Int32)), (.int (0 : Int32)), (.ref ab)])) _
    refine XS.iushr X1.here hx rfl (hb hby d5_7) rfl ?_
    show Steps p.tables e below (T1.setTop (mkF m 8 #[.val (.ref a1), .val (.int (0 : Int32)), .val (.int p3)] [(.int (0 : Int32)), (.ref ab)])) _
    refine X1.aaload hx (j := (0 : Int32)) (v := (.ref ac)) (by rw [e1]; exact Ar2.1) (State.isArrayOf_alike hZ.alike Ar2.2.1) rfl Ar2.2.2 hin2 (vH2.at hin2 rfl) (g := (mkF m 8 #[.val (.ref a1), .val (.int (0 : Int32)), .val (.int p3)] [(.int (0 : Int32)), (.ref ab)])) rfl rfl (hb hby d5_8) _ ?_
    show Steps p.tables e below (T1.setTop (mkF m 9 #[.val (.ref a1), .val (.int (0 : Int32)), .val (.int p3)] [(.ref ac)])) _
    refine XS.iconst X1.here hx rfl (hb hby d5_9) ?_
    show Steps p.tables e below (T1.setTop (mkF m 10 #[.val (.ref a1), .val (.int (0 : Int32)), .val (.int p3)] [(.int (3 : Int32)), (.ref ac)])) _
    refine XS.iloadN X1.here hx rfl (hb hby d5_10) rfl ?_
    show Steps p.tables e below (T1.setTop (mkF m 11 #[.val (.ref a1), .val (.int (0 : Int32)), .val (.int p3)] [(.int (0 : Int32)), (.int (3 : Int32)), (.ref ac)])) _
    refine X1.ldcInt hx hown (mvT hZ (hw _ (List.mem_of_getElem? (i := 23) rfl))) (g := (mkF m 11 #[.val (.ref a1), .val (.int (0 : Int32)), .val (.int p3)] [(.int (0 : Int32)), (.int (3 : Int32)), (.ref ac)])) rfl (hb hby d5_11) _ ?_
    show Steps p.tables e below (T1.setTop (mkF m 13 #[.val (.ref a1), .val (.int (0 : Int32)), .val (.int p3)] [(.int (65535 : Int32)), (.int (0 : Int32)), (.int (3 : Int32)), (.ref ac)])) _
    refine XS.iand X1.here hx rfl (hb hby d5_13) rfl ?_
    show Steps p.tables e below (T1.setTop (mkF m 14 #[.val (.ref a1), .val (.int (0 : Int32)), .val (.int p3)] [(.int (0 : Int32)), (.int (3 : Int32)), (.ref ac)])) _
    refine XS.imul X1.here hx rfl (hb hby d5_14) rfl ?_
    show Steps p.tables e below (T1.setTop (mkF m 15 #[.val (.ref a1), .val (.int (0 : Int32)), .val (.int p3)] [(.int (0 : Int32)), (.ref ac)])) _
    refine XS.iconst X1.here hx rfl (hb hby d5_15) ?_
    show Steps p.tables e below (T1.setTop (mkF m 16 #[.val (.ref a1), .val (.int (0 : Int32)), .val (.int p3)] [(.int (2 : Int32)), (.int (0 : Int32)), (.ref ac)])) _
    refine XS.iadd X1.here hx rfl (hb hby d5_16) rfl ?_
    show Steps p.tables e below (T1.setTop (mkF m 17 #[.val (.ref a1), .val (.int (0 : Int32)), .val (.int p3)] [(.int (2 : Int32)), (.ref ac)])) _
    refine XS.iloadN X1.here hx rfl (hb hby d5_17) rfl ?_
    show Steps p.tables e below (T1.setTop (mkF m 18 #[.val (.ref a1), .val (.int (0 : Int32)), .val (.int p3)] [(.int p3), (.int (2 : Int32)), (.ref ac)])) _
    refine st3 _ ?_
    show Steps p.tables e below (T3.setTop (mkF m 19 #[.val (.ref a1), .val (.int (0 : Int32)), .val (.int p3)] [])) _
    exact X3.returnOut hx Bd.returns (hb hby d5_19) hr
  · show Q_set0 Z a1 p3 ab akb ac akc y0 y1 y2 y3 y4 y5 y6 y7 y8 h0 n0 _ T3.heap _
    rw [e3]
    exact ⟨rfl, N3, ((Keep.refl h0 [ac]).wr W3 (Or.inl (List.mem_of_getElem? (i := 0) rfl))), V3⟩
def Q_set1 (Z : State) (a1 : Addr) (p3 : Int32) (ab : Addr) (akb : ClassId) (ac : Addr) (akc : ClassId) (y0 : Int32) (y1 : Int32) (y2 : Int32) (y3 : Int32) (y4 : Int32) (y5 : Int32) (y6 : Int32) (y7 : Int32) (y8 : Int32) (h0 : Heap) (n0 : Nat) (v : Option Value) (h : Heap) (L : List Loc) : Prop := v = none ∧ Fr n0 L ∧ Keep h0 h [ac] ∧ Arv Z h ac akc .int (196608 : Int32) [(.int y0), (.int y1), (.int y2), (.int y3), (.int y4), (.int p3), (.int y6), (.int y7), (.int y8)] (.int (0 : Int32))
set_option maxRecDepth 65536 in
set_option maxHeartbeats 40000000 in
theorem rm_set1 (l : Launch) (Z : State) (a0 : Array Value) (hw : ∀ d ∈ tables_1, d.before a0 Z = true) (ws : List Jvm.Cond) (a1 : Addr) (p3 : Int32) (ab : Addr) (akb : ClassId) (ac : Addr) (akc : ClassId) (y0 : Int32) (y1 : Int32) (y2 : Int32) (y3 : Int32) (y4 : Int32) (y5 : Int32) (y6 : Int32) (y7 : Int32) (y8 : Int32) (h0 : Heap) (n0 : Nat) (Z0 : n0 ≤ h0.size) (O0 : Old Z n0 h0) (r0 : Fld Z h0 a1 "com/example/keysmith/keysmith/TripleBuffer" "blocks" "[[I" (.ref ab)) (r1 : Arv Z h0 ab akb (.array .int) (16 : Int32) [(.ref ac), .null, .null, .null, .null, .null, .null, .null, .null, .null, .null, .null, .null, .null, .null, .null] .null) (r2 : Arv Z h0 ac akc .int (196608 : Int32) [(.int y0), (.int y1), (.int y2), (.int y3), (.int y4), (.int y5), (.int y6), (.int y7), (.int y8)] (.int (0 : Int32))) (g_ac : n0 ≤ ac) :
    MetFree l (⟨"com/example/keysmith/keysmith/TripleBuffer", "setObject", "(II)V"⟩ : MethodName) (head1 (Jvm.Cond.code (⟨"com/example/keysmith/keysmith/TripleBuffer", "setObject", "(II)V"⟩ : MethodName) prog_15_method_7_code 3 none :: ws) ({ frames := 0, cells := 0, slots := 0, locals := 0 } : Room)) (fun a U => a = #[(.ref a1), (.int (1 : Int32)), (.int p3)] ∧ Z.Warmed39 U.vm ∧ U.heap = h0) (fun _ _ _ _ _ => True) (fun _ U o U' => ∃ v L, o = .returned v ∧ Q_set1 Z a1 p3 ab akb ac akc y0 y1 y2 y3 y4 y5 y6 y7 y8 h0 n0 v U'.heap L ∧ FrameEnd U o U' L ({ frames := 0, cells := 0, slots := 0, locals := 0 } : Room).cells ({ frames := 0, cells := 0, slots := 0, locals := 0 } : Room).slots) := by
  refine MetFree.of_bodySF (plainFor_of_name pn_TripleBuffer) hisR ?_
  intro p e s m args below meth c s₁ Bd hml0 hP hK
  obtain ⟨rfl, hZ, hh⟩ := hP
  have hx := Bd.exec
  have hby := Bd.bytes
  have hml : c.maxLocals = 3 := hml0
  have hown : s.vm.findClass "com/example/keysmith/keysmith/TripleBuffer" = some m.cls := findClass_of_methodNamed Bd.named
  have hnm := (name_of_methodNamed Bd.named Bd.method).1
  have X0 : Stand p l e ({ frames := 0, cells := 0, slots := 0, locals := 0 } : Room) s m #[(.ref a1), (.int (1 : Int32)), (.int p3)] below meth c s₁ [] 0 0 := Stand.of_body Bd
  have e0 : s₁.heap = h0 := by rw [← hh, Bd.state]; rfl
  have N0 := Fr.nil n0
  have pre0 : ∀ t, Steps p.tables e below (s₁.setTop (mkF m 0 #[.val (.ref a1), .val (.int (1 : Int32)), .val (.int p3)] [])) t → Steps p.tables e below (s₁.setTop (entryFrame m #[(.ref a1), (.int (1 : Int32)), (.int p3)] 3)) t := fun t k => castTop (ef_set1 m a1 p3) k
  obtain ⟨T1, X1, e1, st1⟩ := getF X0 hx hZ hown (host := "") (Or.inl (hw _ (List.mem_of_getElem? (i := 11) rfl))) Via.refl e0 r0 (g := (mkF m 1 #[.val (.ref a1), .val (.int (1 : Int32)), .val (.int p3)] [(.ref a1)])) rfl rfl (hb hby d5_1)
  obtain ⟨cl2, Ar2, vq2, vS2, vN2, vH2, vG2⟩ := id r1
  have hin2 : ¬ (((0 : Int32) : Int32) < 0 ∨ cl2.slots.size ≤ ((0 : Int32) : Int32).toNatClampNeg) := inb_of vS2 ⟨by decide, by decide⟩
  obtain ⟨cl3, Ar3, vq3, vS3, vN3, vH3, vG3⟩ := id r2
  have hin3 : ¬ (((5 : Int32) : Int32) < 0 ∨ cl3.slots.size ≤ ((5 : Int32) : Int32).toNatClampNeg) := inb_of vS3 ⟨by decide, by decide⟩
  obtain ⟨T3, h3, X3, e3, W3, st3⟩ := stI X1 hx hZ e1 Ar3 (j := (5 : Int32)) hin3 (g := (mkF m 18 #[.val (.ref a1), .val (.int (1 : Int32)), .val (.int p3)] [(.int p3), (.int (5 : Int32)), (.ref ac)])) rfl rfl (hb hby d5_18)
  have V3 : Arv Z h3 ac akc .int (196608 : Int32) [(.int y0), (.int y1), (.int y2), (.int y3), (.int y4), (.int p3), (.int y6), (.int y7), (.int y8)] (.int (0 : Int32)) := Arv.set Ar3 vq3 vS3 vN3 vH3 vG3 rfl W3 5 rfl (Nat.le_of_ble_eq_true rfl)
  have N3 := Fr.snoc X3 N0 g_ac
  obtain ⟨fs, hr, hrun, hended, hW, hsame⟩ := X3.leave (v := none) (fun _ => rfl)
  refine ⟨_, _, pre0 _ ?_, hrun, hended, _, _, rfl, ?_, ⟨_, rfl⟩, hW, hsame.mono (by decide) (by decide)⟩
  · show Steps p.tables e below (s₁.setTop (mkF m 0 #[.val (.ref a1), .val (.int (1 : Int32)), .val (.int p3)] [])) _
    refine XS.aloadN X0.here hx rfl (hb hby d5_0) rfl rfl ?_
    show Steps p.tables e below (s₁.setTop (mkF m 1 #[.val (.ref a1), .val (.int (1 : Int32)), .val (.int p3)] [(.ref a1)])) _
    refine st1 _ ?_
    show Steps p.tables e below (T1.setTop (mkF m 4 #[.val (.ref a1), .val (.int (1 : Int32)), .val (.int p3)] [(.ref ab)])) _
    refine XS.iloadN X1.here hx rfl (hb hby d5_4) rfl ?_
    show Steps p.tables e below (T1.setTop (mkF m 5 #[.val (.ref a1), .val (.int (1 : Int32)), .val (.int p3)] [(.int (1 : Int32)), (.ref ab)])) _
    refine XS.bipush X1.here hx rfl (hb hby d5_5) ?_
    show Steps p.tables e below (T1.setTop (mkF m 7 #[.val (.ref a1), .val (.int (1 : Int32)), .val (.int p3)] [(.int (16 : Int32)), (.int (1 : Int32)), (.ref ab)])) _
    refine XS.iushr X1.here hx rfl (hb hby d5_7) rfl ?_
    show Steps p.tables e below (T1.setTop (mkF m 8 #[.val (.ref a1), .val (.int (1 : Int32)), .val (.int p3)] [(.int (0 : Int32)), (.ref ab)])) _
    refine X1.aaload hx (j := (0 : Int32)) (v := (.ref ac)) (by rw [e1]; exact Ar2.1) (State.isArrayOf_alike hZ.alike Ar2.2.1) rfl Ar2.2.2 hin2 (vH2.at hin2 rfl) (g := (mkF m 8 #[.val (.ref a1), .val (.int (1 : Int32)), .val (.int p3)] [(.int (0 : Int32)), (.ref ab)])) rfl rfl (hb hby d5_8) _ ?_
    show Steps p.tables e below (T1.setTop (mkF m 9 #[.val (.ref a1), .val (.int (1 : Int32)), .val (.int p3)] [(.ref ac)])) _
    refine XS.iconst X1.here hx rfl (hb hby d5_9) ?_
    show Steps p.tables e below (T1.setTop (mkF m 10 #[.val (.ref a1), .val (.int (1 : Int32)), .val (.int p3)] [(.int (3 : Int32)), (.ref ac)])) _
    refine XS.iloadN X1.here hx rfl (hb hby d5_10) rfl ?_
    show Steps p.tables e below (T1.setTop (mkF m 11 #[.val (.ref a1), .val (.int (1 : Int32)), .val (.int p3)] [(.int (1 : Int32)), (.int (3 : Int32)), (.ref ac)])) _
    refine X1.ldcInt hx hown (mvT hZ (hw _ (List.mem_of_getElem? (i := 23) rfl))) (g := (mkF m 11 #[.val (.ref a1), .val (.int (1 : Int32)), .val (.int p3)] [(.int (1 : Int32)), (.int (3 : Int32)), (.ref ac)])) rfl (hb hby d5_11) _ ?_
    show Steps p.tables e below (T1.setTop (mkF m 13 #[.val (.ref a1), .val (.int (1 : Int32)), .val (.int p3)] [(.int (65535 : Int32)), (.int (1 : Int32)), (.int (3 : Int32)), (.ref ac)])) _
    refine XS.iand X1.here hx rfl (hb hby d5_13) rfl ?_
    show Steps p.tables e below (T1.setTop (mkF m 14 #[.val (.ref a1), .val (.int (1 : Int32)), .val (.int p3)] [(.int (1 : Int32)), (.int (3 : Int32)), (.ref ac)])) _
    refine XS.imul X1.here hx rfl (hb hby d5_14) rfl ?_
    show Steps p.tables e below (T1.setTop (mkF m 15 #[.val (.ref a1), .val (.int (1 : Int32)), .val (.int p3)] [(.int (3 : Int32)), (.ref ac)])) _
    refine XS.iconst X1.here hx rfl (hb hby d5_15) ?_
    show Steps p.tables e below (T1.setTop (mkF m 16 #[.val (.ref a1), .val (.int (1 : Int32)), .val (.int p3)] [(.int (2 : Int32)), (.int (3 : Int32)), (.ref ac)])) _
    refine XS.iadd X1.here hx rfl (hb hby d5_16) rfl ?_
    show Steps p.tables e below (T1.setTop (mkF m 17 #[.val (.ref a1), .val (.int (1 : Int32)), .val (.int p3)] [(.int (5 : Int32)), (.ref ac)])) _
    refine XS.iloadN X1.here hx rfl (hb hby d5_17) rfl ?_
    show Steps p.tables e below (T1.setTop (mkF m 18 #[.val (.ref a1), .val (.int (1 : Int32)), .val (.int p3)] [(.int p3), (.int (5 : Int32)), (.ref ac)])) _
    refine st3 _ ?_
    show Steps p.tables e below (T3.setTop (mkF m 19 #[.val (.ref a1), .val (.int (1 : Int32)), .val (.int p3)] [])) _
    exact X3.returnOut hx Bd.returns (hb hby d5_19) hr
  · show Q_set1 Z a1 p3 ab akb ac akc y0 y1 y2 y3 y4 y5 y6 y7 y8 h0 n0 _ T3.heap _
    rw [e3]
    exact ⟨rfl, N3, ((Keep.refl h0 [ac]).wr W3 (Or.inl (List.mem_of_getElem? (i := 0) rfl))), V3⟩
def Q_set2 (Z : State) (a1 : Addr) (p3 : Int32) (ab : Addr) (akb : ClassId) (ac : Addr) (akc : ClassId) (y0 : Int32) (y1 : Int32) (y2 : Int32) (y3 : Int32) (y4 : Int32) (y5 : Int32) (y6 : Int32) (y7 : Int32) (y8 : Int32) (h0 : Heap) (n0 : Nat) (v : Option Value) (h : Heap) (L : List Loc) : Prop := v = none ∧ Fr n0 L ∧ Keep h0 h [ac] ∧ Arv Z h ac akc .int (196608 : Int32) [(.int y0), (.int y1), (.int y2), (.int y3), (.int y4), (.int y5), (.int y6), (.int y7), (.int p3)] (.int (0 : Int32))
set_option maxRecDepth 65536 in
set_option maxHeartbeats 40000000 in
theorem rm_set2 (l : Launch) (Z : State) (a0 : Array Value) (hw : ∀ d ∈ tables_1, d.before a0 Z = true) (ws : List Jvm.Cond) (a1 : Addr) (p3 : Int32) (ab : Addr) (akb : ClassId) (ac : Addr) (akc : ClassId) (y0 : Int32) (y1 : Int32) (y2 : Int32) (y3 : Int32) (y4 : Int32) (y5 : Int32) (y6 : Int32) (y7 : Int32) (y8 : Int32) (h0 : Heap) (n0 : Nat) (Z0 : n0 ≤ h0.size) (O0 : Old Z n0 h0) (r0 : Fld Z h0 a1 "com/example/keysmith/keysmith/TripleBuffer" "blocks" "[[I" (.ref ab)) (r1 : Arv Z h0 ab akb (.array .int) (16 : Int32) [(.ref ac), .null, .null, .null, .null, .null, .null, .null, .null, .null, .null, .null, .null, .null, .null, .null] .null) (r2 : Arv Z h0 ac akc .int (196608 : Int32) [(.int y0), (.int y1), (.int y2), (.int y3), (.int y4), (.int y5), (.int y6), (.int y7), (.int y8)] (.int (0 : Int32))) (g_ac : n0 ≤ ac) :
    MetFree l (⟨"com/example/keysmith/keysmith/TripleBuffer", "setObject", "(II)V"⟩ : MethodName) (head1 (Jvm.Cond.code (⟨"com/example/keysmith/keysmith/TripleBuffer", "setObject", "(II)V"⟩ : MethodName) prog_15_method_7_code 3 none :: ws) ({ frames := 0, cells := 0, slots := 0, locals := 0 } : Room)) (fun a U => a = #[(.ref a1), (.int (2 : Int32)), (.int p3)] ∧ Z.Warmed39 U.vm ∧ U.heap = h0) (fun _ _ _ _ _ => True) (fun _ U o U' => ∃ v L, o = .returned v ∧ Q_set2 Z a1 p3 ab akb ac akc y0 y1 y2 y3 y4 y5 y6 y7 y8 h0 n0 v U'.heap L ∧ FrameEnd U o U' L ({ frames := 0, cells := 0, slots := 0, locals := 0 } : Room).cells ({ frames := 0, cells := 0, slots := 0, locals := 0 } : Room).slots) := by
  refine MetFree.of_bodySF (plainFor_of_name pn_TripleBuffer) hisR ?_
  intro p e s m args below meth c s₁ Bd hml0 hP hK
  obtain ⟨rfl, hZ, hh⟩ := hP
  have hx := Bd.exec
  have hby := Bd.bytes
  have hml : c.maxLocals = 3 := hml0
  have hown : s.vm.findClass "com/example/keysmith/keysmith/TripleBuffer" = some m.cls := findClass_of_methodNamed Bd.named
  have hnm := (name_of_methodNamed Bd.named Bd.method).1
  have X0 : Stand p l e ({ frames := 0, cells := 0, slots := 0, locals := 0 } : Room) s m #[(.ref a1), (.int (2 : Int32)), (.int p3)] below meth c s₁ [] 0 0 := Stand.of_body Bd
  have e0 : s₁.heap = h0 := by rw [← hh, Bd.state]; rfl
  have N0 := Fr.nil n0
  have pre0 : ∀ t, Steps p.tables e below (s₁.setTop (mkF m 0 #[.val (.ref a1), .val (.int (2 : Int32)), .val (.int p3)] [])) t → Steps p.tables e below (s₁.setTop (entryFrame m #[(.ref a1), (.int (2 : Int32)), (.int p3)] 3)) t := fun t k => castTop (ef_set2 m a1 p3) k
  obtain ⟨T1, X1, e1, st1⟩ := getF X0 hx hZ hown (host := "") (Or.inl (hw _ (List.mem_of_getElem? (i := 11) rfl))) Via.refl e0 r0 (g := (mkF m 1 #[.val (.ref a1), .val (.int (2 : Int32)), .val (.int p3)] [(.ref a1)])) rfl rfl (hb hby d5_1)
  obtain ⟨cl2, Ar2, vq2, vS2, vN2, vH2, vG2⟩ := id r1
  have hin2 : ¬ (((0 : Int32) : Int32) < 0 ∨ cl2.slots.size ≤ ((0 : Int32) : Int32).toNatClampNeg) := inb_of vS2 ⟨by decide, by decide⟩
  obtain ⟨cl3, Ar3, vq3, vS3, vN3, vH3, vG3⟩ := id r2
  have hin3 : ¬ (((8 : Int32) : Int32) < 0 ∨ cl3.slots.size ≤ ((8 : Int32) : Int32).toNatClampNeg) := inb_of vS3 ⟨by decide, by decide⟩
  obtain ⟨T3, h3, X3, e3, W3, st3⟩ := stI X1 hx hZ e1 Ar3 (j := (8 : Int32)) hin3 (g := (mkF m 18 #[.val (.ref a1), .val (.int (2 : Int32)), .val (.int p3)] [(.int p3), (.int (8 : Int32)), (.ref ac)])) rfl rfl (hb hby d5_18)
  have V3 : Arv Z h3 ac akc .int (196608 : Int32) [(.int y0), (.int y1), (.int y2), (.int y3), (.int y4), (.int y5), (.int y6), (.int y7), (.int p3)] (.int (0 : Int32)) := Arv.set Ar3 vq3 vS3 vN3 vH3 vG3 rfl W3 8 rfl (Nat.le_of_ble_eq_true rfl)
  have N3 := Fr.snoc X3 N0 g_ac
  obtain ⟨fs, hr, hrun, hended, hW, hsame⟩ := X3.leave (v := none) (fun _ => rfl)
  refine ⟨_, _, pre0 _ ?_, hrun, hended, _, _, rfl, ?_, ⟨_, rfl⟩, hW, hsame.mono (by decide) (by decide)⟩
  · show Steps p.tables e below (s₁.setTop (mkF m 0 #[.val (.ref a1), .val (.int (2 : Int32)), .val (.int p3)] [])) _
    refine XS.aloadN X0.here hx rfl (hb hby d5_0) rfl rfl ?_
    show Steps p.tables e below (s₁.setTop (mkF m 1 #[.val (.ref a1), .val (.int (2 : Int32)), .val (.int p3)] [(.ref a1)])) _
    refine st1 _ ?_
    show Steps p.tables e below (T1.setTop (mkF m 4 #[.val (.ref a1), .val (.int (2 : Int32)), .val (.int p3)] [(.ref ab)])) _
    refine XS.iloadN X1.here hx rfl (hb hby d5_4) rfl ?_
    show Steps p.tables e below (T1.setTop (mkF m 5 #[.val (.ref a1), .val (.int (2 : Int32)), .val (.int p3)] [(.int (2 : Int32)), (.ref ab)])) _
    refine XS.bipush X1.here hx rfl (hb hby d5_5) ?_
    show Steps p.tables e below (T1.setTop (mkF m 7 #[.val (.ref a1), .val (.int (2 : Int32)), .val (.int p3)] [(.int (16 : Int32)), (.int (2 : Int32)), (.ref ab)])) _
    refine XS.iushr X1.here hx rfl (hb hby d5_7) rfl ?_
    show Steps p.tables e below (T1.setTop (mkF m 8 #[.val (.ref a1), .val (.int (2 : Int32)), .val (.int p3)] [(.int (0 : Int32)), (.ref ab)])) _
    refine X1.aaload hx (j := (0 : Int32)) (v := (.ref ac)) (by rw [e1]; exact Ar2.1) (State.isArrayOf_alike hZ.alike Ar2.2.1) rfl Ar2.2.2 hin2 (vH2.at hin2 rfl) (g := (mkF m 8 #[.val (.ref a1), .val (.int (2 : Int32)), .val (.int p3)] [(.int (0 : Int32)), (.ref ab)])) rfl rfl (hb hby d5_8) _ ?_
    show Steps p.tables e below (T1.setTop (mkF m 9 #[.val (.ref a1), .val (.int (2 : Int32)), .val (.int p3)] [(.ref ac)])) _
    refine XS.iconst X1.here hx rfl (hb hby d5_9) ?_
    show Steps p.tables e below (T1.setTop (mkF m 10 #[.val (.ref a1), .val (.int (2 : Int32)), .val (.int p3)] [(.int (3 : Int32)), (.ref ac)])) _
    refine XS.iloadN X1.here hx rfl (hb hby d5_10) rfl ?_
    show Steps p.tables e below (T1.setTop (mkF m 11 #[.val (.ref a1), .val (.int (2 : Int32)), .val (.int p3)] [(.int (2 : Int32)), (.int (3 : Int32)), (.ref ac)])) _
    refine X1.ldcInt hx hown (mvT hZ (hw _ (List.mem_of_getElem? (i := 23) rfl))) (g := (mkF m 11 #[.val (.ref a1), .val (.int (2 : Int32)), .val (.int p3)] [(.int (2 : Int32)), (.int (3 : Int32)), (.ref ac)])) rfl (hb hby d5_11) _ ?_
    show Steps p.tables e below (T1.setTop (mkF m 13 #[.val (.ref a1), .val (.int (2 : Int32)), .val (.int p3)] [(.int (65535 : Int32)), (.int (2 : Int32)), (.int (3 : Int32)), (.ref ac)])) _
    refine XS.iand X1.here hx rfl (hb hby d5_13) rfl ?_
    show Steps p.tables e below (T1.setTop (mkF m 14 #[.val (.ref a1), .val (.int (2 : Int32)), .val (.int p3)] [(.int (2 : Int32)), (.int (3 : Int32)), (.ref ac)])) _
    refine XS.imul X1.here hx rfl (hb hby d5_14) rfl ?_
    show Steps p.tables e below (T1.setTop (mkF m 15 #[.val (.ref a1), .val (.int (2 : Int32)), .val (.int p3)] [(.int (6 : Int32)), (.ref ac)])) _
    refine XS.iconst X1.here hx rfl (hb hby d5_15) ?_
    show Steps p.tables e below (T1.setTop (mkF m 16 #[.val (.ref a1), .val (.int (2 : Int32)), .val (.int p3)] [(.int (2 : Int32)), (.int (6 : Int32)), (.ref ac)])) _
    refine XS.iadd X1.here hx rfl (hb hby d5_16) rfl ?_
    show Steps p.tables e below (T1.setTop (mkF m 17 #[.val (.ref a1), .val (.int (2 : Int32)), .val (.int p3)] [(.int (8 : Int32)), (.ref ac)])) _
    refine XS.iloadN X1.here hx rfl (hb hby d5_17) rfl ?_
    show Steps p.tables e below (T1.setTop (mkF m 18 #[.val (.ref a1), .val (.int (2 : Int32)), .val (.int p3)] [(.int p3), (.int (8 : Int32)), (.ref ac)])) _
    refine st3 _ ?_
    show Steps p.tables e below (T3.setTop (mkF m 19 #[.val (.ref a1), .val (.int (2 : Int32)), .val (.int p3)] [])) _
    exact X3.returnOut hx Bd.returns (hb hby d5_19) hr
  · show Q_set2 Z a1 p3 ab akb ac akc y0 y1 y2 y3 y4 y5 y6 y7 y8 h0 n0 _ T3.heap _
    rw [e3]
    exact ⟨rfl, N3, ((Keep.refl h0 [ac]).wr W3 (Or.inl (List.mem_of_getElem? (i := 0) rfl))), V3⟩
def v_k (p6 : Int32) : Int32 := ((p6 &&& (2147483647 : Int32)) - ((p6 &&& (2147483647 : Int32)) / (3 : Int32)) * (3 : Int32))
def lawP (p6 : Int32) : Prop := (if (v_k p6) = (0 : Int32) then True else (if (v_k p6) = (1 : Int32) then True else True))
set_option maxRecDepth 65536 in
set_option maxHeartbeats 40000000 in
theorem rm_law (l : Launch) (Z : State) (a0 : Array Value) (hw : ∀ d ∈ tables_1, d.before a0 Z = true) (ws : List Jvm.Cond) (p1 : Int32) (p2 : Int32) (p3 : Int32) (p4 : Int32) (p5 : Int32) (p6 : Int32) (h0 : Heap) (n0 : Nat) (Z0 : n0 ≤ h0.size) (O0 : Old Z n0 h0) (hp : lawP p6) :
    MetFree l x (head1 (Jvm.Cond.code x code maxLocals ret :: ws) room_1) (fun a U => a = #[(.int p1), (.int p2), (.int p3), (.int p4), (.int p5), (.int p6)] ∧ Z.Warmed39 U.vm ∧ U.heap = h0) (fun _ _ _ _ _ => True) (fun _ U o U' => ∃ v L, o = .returned v ∧ LawQ n0 v U'.heap L ∧ FrameEnd U o U' L room_1.cells room_1.slots) := by
  refine MetFree.of_bodySF (plainFor_of_name pn_TripleBufferObjectPinLaw) hisR ?_
  intro p e s m args below meth c s₁ Bd hml0 hP hK
  obtain ⟨rfl, hZ, hh⟩ := hP
  have hx := Bd.exec
  have hby := Bd.bytes
  have hml : c.maxLocals = 16 := hml0
  have hown : s.vm.findClass "com/example/keysmith/keysmith/TripleBufferObjectPinLaw" = some m.cls := findClass_of_methodNamed Bd.named
  have hnm := (name_of_methodNamed Bd.named Bd.method).1
  have X0 : Stand p l e room_1 s m #[(.int p1), (.int p2), (.int p3), (.int p4), (.int p5), (.int p6)] below meth c s₁ [] 0 0 := Stand.of_body Bd
  have e0 : s₁.heap = h0 := by rw [← hh, Bd.state]; rfl
  have N0 := Fr.nil n0
  have pre0 : ∀ t, Steps p.tables e below (s₁.setTop (mkF m 0 #[.val (.int p1), .val (.int p2), .val (.int p3), .val (.int p4), .val (.int p5), .val (.int p6), .unset, .unset, .unset, .unset, .unset, .unset, .unset, .unset, .unset, .unset] [])) t → Steps p.tables e below (s₁.setTop (entryFrame m #[(.int p1), (.int p2), (.int p3), (.int p4), (.int p5), (.int p6)] maxLocals)) t := fun t k => castTop (ef_law m p1 p2 p3 p4 p5 p6) k
  unfold lawP at hp
  obtain ⟨T1, h1, X1, e1, E1, A1, D1, -, st1⟩ := newO X0 hx hZ hown (hw _ (List.mem_of_getElem? (i := 0) rfl)) (hw _ (List.mem_of_getElem? (i := 1) rfl)) (hw _ (List.mem_of_getElem? (i := 2) rfl)) e0 (g := (mkF m 0 #[.val (.int p1), .val (.int p2), .val (.int p3), .val (.int p4), .val (.int p5), .val (.int p6), .unset, .unset, .unset, .unset, .unset, .unset, .unset, .unset, .unset, .unset] [])) rfl (hb hby at_0) (by decide) (by decide)
  obtain ⟨b1, q_b1⟩ : ∃ z, z = (h0).size := ⟨_, rfl⟩
  rw [← q_b1] at A1 D1 st1
  have g_b1 : n0 ≤ b1 := Nat.le_trans (own_z0 O0) (Nat.le_of_eq q_b1.symm)
  have sz_b1 : h0.size ≤ b1 := Nat.le_trans (Nat.le_refl _) (Nat.le_of_eq q_b1.symm)
  have F_blocks_b1 : Fld Z h1 b1 "com/example/keysmith/keysmith/TripleBuffer" "blocks" "[[I" .null := D1 (Or.inl (hw _ (List.mem_of_getElem? (i := 12) rfl))) (ty := (.array (.array .int))) (by decide)
  have F_size_b1 : Fld Z h1 b1 "com/example/keysmith/keysmith/TripleBuffer" "size" "I" (.int (0 : Int32)) := D1 (Or.inl (hw _ (List.mem_of_getElem? (i := 19) rfl))) (ty := .int) (by decide)
  have O3 := (O0.ext E1)
  obtain ⟨_, _, ⟨T2, L2, k2, n2⟩, -, X2, ⟨Lc2, hQ2, l2, y2, z2⟩, st2⟩ := X1.specialBack hx (y := (⟨"com/example/keysmith/keysmith/TripleBuffer", "<init>", "()V"⟩ : MethodName)) rfl hown (mvT hZ (hw _ (List.mem_of_getElem? (i := 3) rfl))) (mvT hZ (hw _ (List.mem_of_getElem? (i := 4) rfl))) (mvT hZ (hw _ (List.mem_of_getElem? (i := 5) rfl))) (by decide) (backOf (W := 1) (rm_tbInit l Z a0 hw [] b1 h1 n0 (own_z0 O3) O3 A1 F_blocks_b1 F_size_b1 g_b1) hZ (hw _ (List.mem_of_getElem? (i := 5) rfl)) (hw _ (List.mem_of_getElem? (i := 2) rfl)) (by decide) (by decide)) (g := (mkF m 4 #[.val (.int p1), .val (.int p2), .val (.int p3), .val (.int p4), .val (.int p5), .val (.int p6), .unset, .unset, .unset, .unset, .unset, .unset, .unset, .unset, .unset, .unset] [(.ref b1), (.ref b1)])) rfl (by rw [hml]; rfl) (Steps.refl _) (a := b1) (argsL := []) (rest := [(.ref b1)]) (lenOf pd___V_3 rfl) rfl (by show 2 * 0 + _ ≤ _; exact Nat.le_of_eq rfl) (hb hby at_4) (fun _ _ => ⟨rfl, e1, (by decide : 1 + 1 ≤ _), (by decide : 2 + 16 ≤ _)⟩)
  dsimp only [Pt.U, Pt.locs, Pt.cells, Pt.slots] at X2 l2 y2 z2 st2 hQ2
  subst l2 y2 z2
  obtain ⟨c2, kc2, rfl, N2q, K2, sz2, f2_0, f2_1, f2_2, f2_3, f2_4⟩ := hQ2
  have N2 := Fr.app N0 N2q
  have g_c2 : n0 ≤ c2 := Nat.le_trans (own_z0 O3) sz2
  have sz_c2 : h0.size ≤ c2 := Nat.le_trans (Nat.le_trans (Nat.le_refl _) E1.1) sz2
  have ne_b1_c2 : b1 ≠ c2 := Nat.ne_of_lt (Nat.lt_of_lt_of_le A1.lt sz2)
  have O5 := (O3.keep K2 (allS g_b1 all0))
  obtain ⟨cq4, kq4, q4a, q4b, q4c⟩ := isOf hZ rfl f2_0
  obtain ⟨_, _, ⟨T4, L4, k4, n4⟩, -, X4, ⟨Lc4, hQ4, l4, y4, z4⟩, st4⟩ := X2.virtualBack hx (y := (⟨"com/example/keysmith/keysmith/TripleBuffer", "add", "(III)V"⟩ : MethodName)) (z := (⟨"com/example/keysmith/keysmith/TripleBuffer", "add", "(III)V"⟩ : MethodName)) hown (mvT hZ (hw _ (List.mem_of_getElem? (i := 13) rfl))) (mvT hZ (hw _ (List.mem_of_getElem? (i := 14) rfl))) (notFace_of_selects (args := #[]) (mvT hZ (hw _ (List.mem_of_getElem? (i := 16) rfl)))) (mvT hZ (hw _ (List.mem_of_getElem? (i := 16) rfl))) (mvT hZ (hw _ (List.mem_of_getElem? (i := 15) rfl))) (by decide) (backOf (W := 0) (rm_add0 l Z a0 hw [] b1 p1 p2 p3 c2 kc2 T2.heap n0 (own_z0 O5) O5 f2_0 f2_1 f2_2 f2_3 f2_4 g_b1 g_c2 ne_b1_c2) hZ (hw _ (List.mem_of_getElem? (i := 17) rfl)) (hw _ (List.mem_of_getElem? (i := 2) rfl)) (by decide) (by decide)) q4a q4c (g := (mkF m 14 #[.val (.int p1), .val (.int p2), .val (.int p3), .val (.int p4), .val (.int p5), .val (.int p6), .val (.ref b1), .unset, .unset, .unset, .unset, .unset, .unset, .unset, .unset, .unset] [(.int p3), (.int p2), (.int p1), (.ref b1)])) rfl (by rw [hml]; rfl) (Steps.refl _) (argsL := [(.int p1), (.int p2), (.int p3)]) (rest := []) (lenOf pd__III_V_6 rfl) rfl (by show 2 * 0 + _ ≤ _; exact Nat.le_of_eq rfl) (hb hby at_14) (fun _ _ => ⟨rfl, rfl, (by decide : 2 + 1 ≤ _), (by decide : 18 + 196608 ≤ _)⟩)
  dsimp only [Pt.U, Pt.locs, Pt.cells, Pt.slots] at X4 l4 y4 z4 st4 hQ4
  subst l4 y4 z4
  obtain ⟨c4, kc4, rfl, N4q, K4, sz4, f4_0, f4_1, f4_2, f4_3, f4_4, f4_5⟩ := hQ4
  have N4 := Fr.app N2 N4q
  have g_c4 : n0 ≤ c4 := Nat.le_trans (own_z0 O5) sz4
  have sz_c4 : h0.size ≤ c4 := Nat.le_trans (Nat.le_trans (Nat.le_trans (Nat.le_refl _) E1.1) K2.1) sz4
  have ne_b1_c4 : b1 ≠ c4 := Nat.ne_of_lt (Nat.lt_of_lt_of_le f2_0.lt sz4)
  have ne_c2_c4 : c2 ≠ c4 := Nat.ne_of_lt (Nat.lt_of_lt_of_le f2_3.lt sz4)
  have O7 := (O5.keep K4 (allS g_b1 (allS g_c2 all0)))
  obtain ⟨cq6, kq6, q6a, q6b, q6c⟩ := isOf hZ rfl f4_0
  obtain ⟨_, _, ⟨T6, L6, k6, n6⟩, -, X6, ⟨Lc6, hQ6, l6, y6, z6⟩, st6⟩ := X4.virtualBack hx (y := (⟨"com/example/keysmith/keysmith/TripleBuffer", "add", "(III)V"⟩ : MethodName)) (z := (⟨"com/example/keysmith/keysmith/TripleBuffer", "add", "(III)V"⟩ : MethodName)) hown (mvT hZ (hw _ (List.mem_of_getElem? (i := 13) rfl))) (mvT hZ (hw _ (List.mem_of_getElem? (i := 14) rfl))) (notFace_of_selects (args := #[]) (mvT hZ (hw _ (List.mem_of_getElem? (i := 16) rfl)))) (mvT hZ (hw _ (List.mem_of_getElem? (i := 16) rfl))) (mvT hZ (hw _ (List.mem_of_getElem? (i := 15) rfl))) (by decide) (backOf (W := 0) (rm_add1 l Z a0 hw [] b1 p2 p3 p4 c2 kc2 c4 kc4 p1 p2 p3 T4.heap n0 (own_z0 O7) O7 f4_0 f4_1 f4_2 f4_3 f4_4 f4_5 g_b1 g_c4 ne_b1_c2 ne_b1_c4 ne_c2_c4) hZ (hw _ (List.mem_of_getElem? (i := 17) rfl)) (hw _ (List.mem_of_getElem? (i := 2) rfl)) (by decide) (by decide)) q6a q6c (g := (mkF m 22 #[.val (.int p1), .val (.int p2), .val (.int p3), .val (.int p4), .val (.int p5), .val (.int p6), .val (.ref b1), .unset, .unset, .unset, .unset, .unset, .unset, .unset, .unset, .unset] [(.int p4), (.int p3), (.int p2), (.ref b1)])) rfl (by rw [hml]; rfl) (Steps.refl _) (argsL := [(.int p2), (.int p3), (.int p4)]) (rest := []) (lenOf pd__III_V_6 rfl) rfl (by show 2 * 0 + _ ≤ _; exact Nat.le_of_eq rfl) (hb hby at_22) (fun _ _ => ⟨rfl, rfl, (by decide : 3 + 0 ≤ _), (by decide : 196626 + 0 ≤ _)⟩)
  dsimp only [Pt.U, Pt.locs, Pt.cells, Pt.slots] at X6 l6 y6 z6 st6 hQ6
  subst l6 y6 z6
  obtain ⟨rfl, N6q, K6, f6_0, f6_1, f6_2, f6_3, f6_4, f6_5⟩ := hQ6
  have N6 := Fr.app N4 N6q
  have O9 := (O7.keep K6 (allS g_b1 (allS g_c4 all0)))
  obtain ⟨cq8, kq8, q8a, q8b, q8c⟩ := isOf hZ rfl f6_0
  obtain ⟨_, _, ⟨T8, L8, k8, n8⟩, -, X8, ⟨Lc8, hQ8, l8, y8, z8⟩, st8⟩ := X6.virtualBack hx (y := (⟨"com/example/keysmith/keysmith/TripleBuffer", "add", "(III)V"⟩ : MethodName)) (z := (⟨"com/example/keysmith/keysmith/TripleBuffer", "add", "(III)V"⟩ : MethodName)) hown (mvT hZ (hw _ (List.mem_of_getElem? (i := 13) rfl))) (mvT hZ (hw _ (List.mem_of_getElem? (i := 14) rfl))) (notFace_of_selects (args := #[]) (mvT hZ (hw _ (List.mem_of_getElem? (i := 16) rfl)))) (mvT hZ (hw _ (List.mem_of_getElem? (i := 16) rfl))) (mvT hZ (hw _ (List.mem_of_getElem? (i := 15) rfl))) (by decide) (backOf (W := 0) (rm_add2 l Z a0 hw [] b1 p3 p4 p1 c2 kc2 c4 kc4 p1 p2 p3 p2 p3 p4 T6.heap n0 (own_z0 O9) O9 f6_0 f6_1 f6_2 f6_3 f6_4 f6_5 g_b1 g_c4 ne_b1_c2 ne_b1_c4 ne_c2_c4) hZ (hw _ (List.mem_of_getElem? (i := 17) rfl)) (hw _ (List.mem_of_getElem? (i := 2) rfl)) (by decide) (by decide)) q8a q8c (g := (mkF m 30 #[.val (.int p1), .val (.int p2), .val (.int p3), .val (.int p4), .val (.int p5), .val (.int p6), .val (.ref b1), .unset, .unset, .unset, .unset, .unset, .unset, .unset, .unset, .unset] [(.int p1), (.int p4), (.int p3), (.ref b1)])) rfl (by rw [hml]; rfl) (Steps.refl _) (argsL := [(.int p3), (.int p4), (.int p1)]) (rest := []) (lenOf pd__III_V_6 rfl) rfl (by show 2 * 0 + _ ≤ _; exact Nat.le_of_eq rfl) (hb hby at_30) (fun _ _ => ⟨rfl, rfl, (by decide : 3 + 0 ≤ _), (by decide : 196626 + 0 ≤ _)⟩)
  dsimp only [Pt.U, Pt.locs, Pt.cells, Pt.slots] at X8 l8 y8 z8 st8 hQ8
  subst l8 y8 z8
  obtain ⟨rfl, N8q, K8, f8_0, f8_1, f8_2, f8_3, f8_4, f8_5⟩ := hQ8
  have N8 := Fr.app N6 N8q
  have pre10 : ∀ t, Steps p.tables e below (T8.setTop (mkF m 42 #[.val (.int p1), .val (.int p2), .val (.int p3), .val (.int p4), .val (.int p5), .val (.int p6), .val (.ref b1), .val (.int (v_k p6)), .unset, .unset, .unset, .unset, .unset, .unset, .unset, .unset] [])) t → Steps p.tables e below (s₁.setTop (entryFrame m #[(.int p1), (.int p2), (.int p3), (.int p4), (.int p5), (.int p6)] maxLocals)) t := fun t k => pre0 t (by
      show Steps p.tables e below (s₁.setTop (mkF m 0 #[.val (.int p1), .val (.int p2), .val (.int p3), .val (.int p4), .val (.int p5), .val (.int p6), .unset, .unset, .unset, .unset, .unset, .unset, .unset, .unset, .unset, .unset] [])) _
      refine st1 _ ?_
      show Steps p.tables e below (T1.setTop (mkF m 3 #[.val (.int p1), .val (.int p2), .val (.int p3), .val (.int p4), .val (.int p5), .val (.int p6), .unset, .unset, .unset, .unset, .unset, .unset, .unset, .unset, .unset, .unset] [(.ref b1)])) _
      refine XS.dup X1.here hx rfl (hb hby at_3) rfl rfl ?_
      show Steps p.tables e below (T1.setTop (mkF m 4 #[.val (.int p1), .val (.int p2), .val (.int p3), .val (.int p4), .val (.int p5), .val (.int p6), .unset, .unset, .unset, .unset, .unset, .unset, .unset, .unset, .unset, .unset] [(.ref b1), (.ref b1)])) _
      refine st2.trans ?_
      show Steps p.tables e below (T2.setTop (mkF m 7 #[.val (.int p1), .val (.int p2), .val (.int p3), .val (.int p4), .val (.int p5), .val (.int p6), .unset, .unset, .unset, .unset, .unset, .unset, .unset, .unset, .unset, .unset] [(.ref b1)])) _
      refine XS.astore X2.here hx rfl (hb hby at_7) rfl rfl (l' := #[.val (.int p1), .val (.int p2), .val (.int p3), .val (.int p4), .val (.int p5), .val (.int p6), .val (.ref b1), .unset, .unset, .unset, .unset, .unset, .unset, .unset, .unset, .unset]) rfl ?_
      show Steps p.tables e below (T2.setTop (mkF m 9 #[.val (.int p1), .val (.int p2), .val (.int p3), .val (.int p4), .val (.int p5), .val (.int p6), .val (.ref b1), .unset, .unset, .unset, .unset, .unset, .unset, .unset, .unset, .unset] [])) _
      refine XS.aload X2.here hx rfl (hb hby at_9) rfl rfl ?_
      show Steps p.tables e below (T2.setTop (mkF m 11 #[.val (.int p1), .val (.int p2), .val (.int p3), .val (.int p4), .val (.int p5), .val (.int p6), .val (.ref b1), .unset, .unset, .unset, .unset, .unset, .unset, .unset, .unset, .unset] [(.ref b1)])) _
      refine XS.iloadN X2.here hx rfl (hb hby at_11) rfl ?_
      show Steps p.tables e below (T2.setTop (mkF m 12 #[.val (.int p1), .val (.int p2), .val (.int p3), .val (.int p4), .val (.int p5), .val (.int p6), .val (.ref b1), .unset, .unset, .unset, .unset, .unset, .unset, .unset, .unset, .unset] [(.int p1), (.ref b1)])) _
      refine XS.iloadN X2.here hx rfl (hb hby at_12) rfl ?_
      show Steps p.tables e below (T2.setTop (mkF m 13 #[.val (.int p1), .val (.int p2), .val (.int p3), .val (.int p4), .val (.int p5), .val (.int p6), .val (.ref b1), .unset, .unset, .unset, .unset, .unset, .unset, .unset, .unset, .unset] [(.int p2), (.int p1), (.ref b1)])) _
      refine XS.iloadN X2.here hx rfl (hb hby at_13) rfl ?_
      show Steps p.tables e below (T2.setTop (mkF m 14 #[.val (.int p1), .val (.int p2), .val (.int p3), .val (.int p4), .val (.int p5), .val (.int p6), .val (.ref b1), .unset, .unset, .unset, .unset, .unset, .unset, .unset, .unset, .unset] [(.int p3), (.int p2), (.int p1), (.ref b1)])) _
      refine st4.trans ?_
      show Steps p.tables e below (T4.setTop (mkF m 17 #[.val (.int p1), .val (.int p2), .val (.int p3), .val (.int p4), .val (.int p5), .val (.int p6), .val (.ref b1), .unset, .unset, .unset, .unset, .unset, .unset, .unset, .unset, .unset] [])) _
      refine XS.aload X4.here hx rfl (hb hby at_17) rfl rfl ?_
      show Steps p.tables e below (T4.setTop (mkF m 19 #[.val (.int p1), .val (.int p2), .val (.int p3), .val (.int p4), .val (.int p5), .val (.int p6), .val (.ref b1), .unset, .unset, .unset, .unset, .unset, .unset, .unset, .unset, .unset] [(.ref b1)])) _
      refine XS.iloadN X4.here hx rfl (hb hby at_19) rfl ?_
      show Steps p.tables e below (T4.setTop (mkF m 20 #[.val (.int p1), .val (.int p2), .val (.int p3), .val (.int p4), .val (.int p5), .val (.int p6), .val (.ref b1), .unset, .unset, .unset, .unset, .unset, .unset, .unset, .unset, .unset] [(.int p2), (.ref b1)])) _
      refine XS.iloadN X4.here hx rfl (hb hby at_20) rfl ?_
      show Steps p.tables e below (T4.setTop (mkF m 21 #[.val (.int p1), .val (.int p2), .val (.int p3), .val (.int p4), .val (.int p5), .val (.int p6), .val (.ref b1), .unset, .unset, .unset, .unset, .unset, .unset, .unset, .unset, .unset] [(.int p3), (.int p2), (.ref b1)])) _
      refine XS.iloadN X4.here hx rfl (hb hby at_21) rfl ?_
      show Steps p.tables e below (T4.setTop (mkF m 22 #[.val (.int p1), .val (.int p2), .val (.int p3), .val (.int p4), .val (.int p5), .val (.int p6), .val (.ref b1), .unset, .unset, .unset, .unset, .unset, .unset, .unset, .unset, .unset] [(.int p4), (.int p3), (.int p2), (.ref b1)])) _
      refine st6.trans ?_
      show Steps p.tables e below (T6.setTop (mkF m 25 #[.val (.int p1), .val (.int p2), .val (.int p3), .val (.int p4), .val (.int p5), .val (.int p6), .val (.ref b1), .unset, .unset, .unset, .unset, .unset, .unset, .unset, .unset, .unset] [])) _
      refine XS.aload X6.here hx rfl (hb hby at_25) rfl rfl ?_
      show Steps p.tables e below (T6.setTop (mkF m 27 #[.val (.int p1), .val (.int p2), .val (.int p3), .val (.int p4), .val (.int p5), .val (.int p6), .val (.ref b1), .unset, .unset, .unset, .unset, .unset, .unset, .unset, .unset, .unset] [(.ref b1)])) _
      refine XS.iloadN X6.here hx rfl (hb hby at_27) rfl ?_
      show Steps p.tables e below (T6.setTop (mkF m 28 #[.val (.int p1), .val (.int p2), .val (.int p3), .val (.int p4), .val (.int p5), .val (.int p6), .val (.ref b1), .unset, .unset, .unset, .unset, .unset, .unset, .unset, .unset, .unset] [(.int p3), (.ref b1)])) _
      refine XS.iloadN X6.here hx rfl (hb hby at_28) rfl ?_
      show Steps p.tables e below (T6.setTop (mkF m 29 #[.val (.int p1), .val (.int p2), .val (.int p3), .val (.int p4), .val (.int p5), .val (.int p6), .val (.ref b1), .unset, .unset, .unset, .unset, .unset, .unset, .unset, .unset, .unset] [(.int p4), (.int p3), (.ref b1)])) _
      refine XS.iloadN X6.here hx rfl (hb hby at_29) rfl ?_
      show Steps p.tables e below (T6.setTop (mkF m 30 #[.val (.int p1), .val (.int p2), .val (.int p3), .val (.int p4), .val (.int p5), .val (.int p6), .val (.ref b1), .unset, .unset, .unset, .unset, .unset, .unset, .unset, .unset, .unset] [(.int p1), (.int p4), (.int p3), (.ref b1)])) _
      refine st8.trans ?_
      show Steps p.tables e below (T8.setTop (mkF m 33 #[.val (.int p1), .val (.int p2), .val (.int p3), .val (.int p4), .val (.int p5), .val (.int p6), .val (.ref b1), .unset, .unset, .unset, .unset, .unset, .unset, .unset, .unset, .unset] [])) _
      refine XS.iload X8.here hx rfl (hb hby at_33) rfl ?_
      show Steps p.tables e below (T8.setTop (mkF m 35 #[.val (.int p1), .val (.int p2), .val (.int p3), .val (.int p4), .val (.int p5), .val (.int p6), .val (.ref b1), .unset, .unset, .unset, .unset, .unset, .unset, .unset, .unset, .unset] [(.int p6)])) _
      refine X8.ldcInt hx hown (mvT hZ (hw _ (List.mem_of_getElem? (i := 24) rfl))) (g := (mkF m 35 #[.val (.int p1), .val (.int p2), .val (.int p3), .val (.int p4), .val (.int p5), .val (.int p6), .val (.ref b1), .unset, .unset, .unset, .unset, .unset, .unset, .unset, .unset, .unset] [(.int p6)])) rfl (hb hby at_35) _ ?_
      show Steps p.tables e below (T8.setTop (mkF m 37 #[.val (.int p1), .val (.int p2), .val (.int p3), .val (.int p4), .val (.int p5), .val (.int p6), .val (.ref b1), .unset, .unset, .unset, .unset, .unset, .unset, .unset, .unset, .unset] [(.int (2147483647 : Int32)), (.int p6)])) _
      refine XS.iand X8.here hx rfl (hb hby at_37) rfl ?_
      show Steps p.tables e below (T8.setTop (mkF m 38 #[.val (.int p1), .val (.int p2), .val (.int p3), .val (.int p4), .val (.int p5), .val (.int p6), .val (.ref b1), .unset, .unset, .unset, .unset, .unset, .unset, .unset, .unset, .unset] [(.int (p6 &&& (2147483647 : Int32)))])) _
      refine XS.iconst X8.here hx rfl (hb hby at_38) ?_
      show Steps p.tables e below (T8.setTop (mkF m 39 #[.val (.int p1), .val (.int p2), .val (.int p3), .val (.int p4), .val (.int p5), .val (.int p6), .val (.ref b1), .unset, .unset, .unset, .unset, .unset, .unset, .unset, .unset, .unset] [(.int (3 : Int32)), (.int (p6 &&& (2147483647 : Int32)))])) _
      refine XS.irem X8.here hx rfl (hb hby at_39) rfl (by decide) ?_
      show Steps p.tables e below (T8.setTop (mkF m 40 #[.val (.int p1), .val (.int p2), .val (.int p3), .val (.int p4), .val (.int p5), .val (.int p6), .val (.ref b1), .unset, .unset, .unset, .unset, .unset, .unset, .unset, .unset, .unset] [(.int (v_k p6))])) _
      refine XS.istore X8.here hx rfl (hb hby at_40) rfl (l' := #[.val (.int p1), .val (.int p2), .val (.int p3), .val (.int p4), .val (.int p5), .val (.int p6), .val (.ref b1), .val (.int (v_k p6)), .unset, .unset, .unset, .unset, .unset, .unset, .unset, .unset]) rfl ?_
      exact k)
  rcases (show (v_k p6) = (0 : Int32) ∨ (v_k p6) = (1 : Int32) ∨ (v_k p6) = (2 : Int32) from own_rem p6) with g11 | g11 | g11
  · have pre11 := pre10
    rw [g11] at pre11
    rw [if_pos g11] at hp
    have O13 := (O9.keep K8 (allS g_b1 (allS g_c4 all0)))
    obtain ⟨cq12, kq12, q12a, q12b, q12c⟩ := isOf hZ rfl f8_0
    obtain ⟨_, _, ⟨T12, L12, k12, n12⟩, -, X12, ⟨Lc12, hQ12, l12, y12, z12⟩, st12⟩ := X8.virtualBack hx (y := (⟨"com/example/keysmith/keysmith/TripleBuffer", "object", "(I)I"⟩ : MethodName)) (z := (⟨"com/example/keysmith/keysmith/TripleBuffer", "object", "(I)I"⟩ : MethodName)) hown (mvT hZ (hw _ (List.mem_of_getElem? (i := 25) rfl))) (mvT hZ (hw _ (List.mem_of_getElem? (i := 26) rfl))) (notFace_of_selects (args := #[]) (mvT hZ (hw _ (List.mem_of_getElem? (i := 28) rfl)))) (mvT hZ (hw _ (List.mem_of_getElem? (i := 28) rfl))) (mvT hZ (hw _ (List.mem_of_getElem? (i := 27) rfl))) (by decide) (backOf (W := 0) (rm_object0 l Z a0 hw [] b1 c2 kc2 c4 kc4 p1 p2 p3 p2 p3 p4 p3 p4 p1 T8.heap n0 (own_z0 O13) O13 f8_1 f8_3 f8_5) hZ (hw _ (List.mem_of_getElem? (i := 29) rfl)) (hw _ (List.mem_of_getElem? (i := 2) rfl)) (by decide) (by decide)) q12a q12c (g := (mkF m 46 #[.val (.int p1), .val (.int p2), .val (.int p3), .val (.int p4), .val (.int p5), .val (.int p6), .val (.ref b1), .val (.int (0 : Int32)), .unset, .unset, .unset, .unset, .unset, .unset, .unset, .unset] [(.int (0 : Int32)), (.ref b1)])) rfl (by rw [hml]; rfl) (Steps.refl _) (argsL := [(.int (0 : Int32))]) (rest := []) (lenOf pd__I_I_4 rfl) rfl (by show 2 * 0 + _ ≤ _; exact Nat.le_of_eq rfl) (hb hby at_46) (fun _ _ => ⟨rfl, rfl, (by decide : 3 + 0 ≤ _), (by decide : 196626 + 0 ≤ _)⟩)
    dsimp only [Pt.U, Pt.locs, Pt.cells, Pt.slots] at X12 l12 y12 z12 st12 hQ12
    subst l12 y12 z12
    obtain ⟨rfl, N12q, e12⟩ := hQ12
    have N12 := Fr.app N8 N12q
    obtain ⟨cq14, kq14, q14a, q14b, q14c⟩ := isOf hZ e12 f8_0
    obtain ⟨_, _, ⟨T14, L14, k14, n14⟩, -, X14, ⟨Lc14, hQ14, l14, y14, z14⟩, st14⟩ := X12.virtualBack hx (y := (⟨"com/example/keysmith/keysmith/TripleBuffer", "setObject", "(II)V"⟩ : MethodName)) (z := (⟨"com/example/keysmith/keysmith/TripleBuffer", "setObject", "(II)V"⟩ : MethodName)) hown (mvT hZ (hw _ (List.mem_of_getElem? (i := 30) rfl))) (mvT hZ (hw _ (List.mem_of_getElem? (i := 31) rfl))) (notFace_of_selects (args := #[]) (mvT hZ (hw _ (List.mem_of_getElem? (i := 33) rfl)))) (mvT hZ (hw _ (List.mem_of_getElem? (i := 33) rfl))) (mvT hZ (hw _ (List.mem_of_getElem? (i := 32) rfl))) (by decide) (backOf (W := 0) (rm_set0 l Z a0 hw [] b1 p5 c2 kc2 c4 kc4 p1 p2 p3 p2 p3 p4 p3 p4 p1 T8.heap n0 (own_z0 O13) O13 f8_1 f8_3 f8_5 g_c4) hZ (hw _ (List.mem_of_getElem? (i := 34) rfl)) (hw _ (List.mem_of_getElem? (i := 2) rfl)) (by decide) (by decide)) q14a q14c (g := (mkF m 79 #[.val (.int p1), .val (.int p2), .val (.int p3), .val (.int p4), .val (.int p5), .val (.int p6), .val (.ref b1), .val (.int (0 : Int32)), .val (.int p3), .val (.int p3), .unset, .unset, .unset, .unset, .unset, .unset] [(.int p5), (.int (0 : Int32)), (.ref b1)])) rfl (by rw [hml]; rfl) (Steps.refl _) (argsL := [(.int (0 : Int32)), (.int p5)]) (rest := []) (lenOf pd__II_V_5 rfl) rfl (by show 2 * 0 + _ ≤ _; exact Nat.le_of_eq rfl) (hb hby at_79) (fun _ _ => ⟨rfl, e12, (by decide : 3 + 0 ≤ _), (by decide : 196626 + 0 ≤ _)⟩)
    dsimp only [Pt.U, Pt.locs, Pt.cells, Pt.slots] at X14 l14 y14 z14 st14 hQ14
    subst l14 y14 z14
    obtain ⟨rfl, N14q, K14, f14_0⟩ := hQ14
    have N14 := Fr.app N12 N14q
    have F16 := (f8_1.keep K14 (ninS ne_b1_c4 nin0))
    have F17 := (f8_3.keep K14 (ninS ne_c2_c4 nin0))
    have O18 := (O13.keep K14 (allS g_c4 all0))
    have F19 := (f8_0.keep K14)
    obtain ⟨cq15, kq15, q15a, q15b, q15c⟩ := isOf hZ rfl F19
    obtain ⟨_, _, ⟨T15, L15, k15, n15⟩, -, X15, ⟨Lc15, hQ15, l15, y15, z15⟩, st15⟩ := X14.virtualBack hx (y := (⟨"com/example/keysmith/keysmith/TripleBuffer", "object", "(I)I"⟩ : MethodName)) (z := (⟨"com/example/keysmith/keysmith/TripleBuffer", "object", "(I)I"⟩ : MethodName)) hown (mvT hZ (hw _ (List.mem_of_getElem? (i := 25) rfl))) (mvT hZ (hw _ (List.mem_of_getElem? (i := 26) rfl))) (notFace_of_selects (args := #[]) (mvT hZ (hw _ (List.mem_of_getElem? (i := 28) rfl)))) (mvT hZ (hw _ (List.mem_of_getElem? (i := 28) rfl))) (mvT hZ (hw _ (List.mem_of_getElem? (i := 27) rfl))) (by decide) (backOf (W := 0) (rm_object0 l Z a0 hw [] b1 c2 kc2 c4 kc4 p1 p2 p5 p2 p3 p4 p3 p4 p1 T14.heap n0 (own_z0 O18) O18 F16 F17 f14_0) hZ (hw _ (List.mem_of_getElem? (i := 29) rfl)) (hw _ (List.mem_of_getElem? (i := 2) rfl)) (by decide) (by decide)) q15a q15c (g := (mkF m 85 #[.val (.int p1), .val (.int p2), .val (.int p3), .val (.int p4), .val (.int p5), .val (.int p6), .val (.ref b1), .val (.int (0 : Int32)), .val (.int p3), .val (.int p3), .unset, .unset, .unset, .unset, .unset, .unset] [(.int (0 : Int32)), (.ref b1)])) rfl (by rw [hml]; rfl) (Steps.refl _) (argsL := [(.int (0 : Int32))]) (rest := []) (lenOf pd__I_I_4 rfl) rfl (by show 2 * 0 + _ ≤ _; exact Nat.le_of_eq rfl) (hb hby at_85) (fun _ _ => ⟨rfl, rfl, (by decide : 3 + 0 ≤ _), (by decide : 196626 + 0 ≤ _)⟩)
    dsimp only [Pt.U, Pt.locs, Pt.cells, Pt.slots] at X15 l15 y15 z15 st15 hQ15
    subst l15 y15 z15
    obtain ⟨rfl, N15q, e15⟩ := hQ15
    have N15 := Fr.app N14 N15q
    obtain ⟨cq20, kq20, q20a, q20b, q20c⟩ := isOf hZ e15 F19
    obtain ⟨_, _, ⟨T20, L20, k20, n20⟩, -, X20, ⟨Lc20, hQ20, l20, y20, z20⟩, st20⟩ := X15.virtualBack hx (y := (⟨"com/example/keysmith/keysmith/TripleBuffer", "object", "(I)I"⟩ : MethodName)) (z := (⟨"com/example/keysmith/keysmith/TripleBuffer", "object", "(I)I"⟩ : MethodName)) hown (mvT hZ (hw _ (List.mem_of_getElem? (i := 25) rfl))) (mvT hZ (hw _ (List.mem_of_getElem? (i := 26) rfl))) (notFace_of_selects (args := #[]) (mvT hZ (hw _ (List.mem_of_getElem? (i := 28) rfl)))) (mvT hZ (hw _ (List.mem_of_getElem? (i := 28) rfl))) (mvT hZ (hw _ (List.mem_of_getElem? (i := 27) rfl))) (by decide) (backOf (W := 0) (rm_object1 l Z a0 hw [] b1 c2 kc2 c4 kc4 p1 p2 p5 p2 p3 p4 p3 p4 p1 T14.heap n0 (own_z0 O18) O18 F16 F17 f14_0) hZ (hw _ (List.mem_of_getElem? (i := 29) rfl)) (hw _ (List.mem_of_getElem? (i := 2) rfl)) (by decide) (by decide)) q20a q20c (g := (mkF m 93 #[.val (.int p1), .val (.int p2), .val (.int p3), .val (.int p4), .val (.int p5), .val (.int p6), .val (.ref b1), .val (.int (0 : Int32)), .val (.int p3), .val (.int p3), .val (.int p5), .unset, .unset, .unset, .unset, .unset] [(.int (1 : Int32)), (.ref b1)])) rfl (by rw [hml]; rfl) (Steps.refl _) (argsL := [(.int (1 : Int32))]) (rest := []) (lenOf pd__I_I_4 rfl) rfl (by show 2 * 0 + _ ≤ _; exact Nat.le_of_eq rfl) (hb hby at_93) (fun _ _ => ⟨rfl, e15, (by decide : 3 + 0 ≤ _), (by decide : 196626 + 0 ≤ _)⟩)
    dsimp only [Pt.U, Pt.locs, Pt.cells, Pt.slots] at X20 l20 y20 z20 st20 hQ20
    subst l20 y20 z20
    obtain ⟨rfl, N20q, e20⟩ := hQ20
    have N20 := Fr.app N15 N20q
    obtain ⟨cq21, kq21, q21a, q21b, q21c⟩ := isOf hZ e20 F19
    obtain ⟨_, _, ⟨T21, L21, k21, n21⟩, -, X21, ⟨Lc21, hQ21, l21, y21, z21⟩, st21⟩ := X20.virtualBack hx (y := (⟨"com/example/keysmith/keysmith/TripleBuffer", "object", "(I)I"⟩ : MethodName)) (z := (⟨"com/example/keysmith/keysmith/TripleBuffer", "object", "(I)I"⟩ : MethodName)) hown (mvT hZ (hw _ (List.mem_of_getElem? (i := 25) rfl))) (mvT hZ (hw _ (List.mem_of_getElem? (i := 26) rfl))) (notFace_of_selects (args := #[]) (mvT hZ (hw _ (List.mem_of_getElem? (i := 28) rfl)))) (mvT hZ (hw _ (List.mem_of_getElem? (i := 28) rfl))) (mvT hZ (hw _ (List.mem_of_getElem? (i := 27) rfl))) (by decide) (backOf (W := 0) (rm_object2 l Z a0 hw [] b1 c2 kc2 c4 kc4 p1 p2 p5 p2 p3 p4 p3 p4 p1 T14.heap n0 (own_z0 O18) O18 F16 F17 f14_0) hZ (hw _ (List.mem_of_getElem? (i := 29) rfl)) (hw _ (List.mem_of_getElem? (i := 2) rfl)) (by decide) (by decide)) q21a q21c (g := (mkF m 101 #[.val (.int p1), .val (.int p2), .val (.int p3), .val (.int p4), .val (.int p5), .val (.int p6), .val (.ref b1), .val (.int (0 : Int32)), .val (.int p3), .val (.int p3), .val (.int p5), .val (.int p4), .unset, .unset, .unset, .unset] [(.int (2 : Int32)), (.ref b1)])) rfl (by rw [hml]; rfl) (Steps.refl _) (argsL := [(.int (2 : Int32))]) (rest := []) (lenOf pd__I_I_4 rfl) rfl (by show 2 * 0 + _ ≤ _; exact Nat.le_of_eq rfl) (hb hby at_101) (fun _ _ => ⟨rfl, e20, (by decide : 3 + 0 ≤ _), (by decide : 196626 + 0 ≤ _)⟩)
    dsimp only [Pt.U, Pt.locs, Pt.cells, Pt.slots] at X21 l21 y21 z21 st21 hQ21
    subst l21 y21 z21
    obtain ⟨rfl, N21q, e21⟩ := hQ21
    have N21 := Fr.app N20 N21q
    obtain ⟨fs, hr, hrun, hended, hW, hsame⟩ := X21.leave (v := some (.int (1 : Int32))) (fun h => by rw [Bd.returns] at h; cases h)
    refine ⟨_, _, pre11 _ ?_, hrun, hended, _, _, rfl, ?_, ⟨_, rfl⟩, hW, hsame.mono (by decide) (by decide)⟩
    · show Steps p.tables e below (T8.setTop (mkF m 42 #[.val (.int p1), .val (.int p2), .val (.int p3), .val (.int p4), .val (.int p5), .val (.int p6), .val (.ref b1), .val (.int (0 : Int32)), .unset, .unset, .unset, .unset, .unset, .unset, .unset, .unset] [])) _
      refine XS.aload X8.here hx rfl (hb hby at_42) rfl rfl ?_
      show Steps p.tables e below (T8.setTop (mkF m 44 #[.val (.int p1), .val (.int p2), .val (.int p3), .val (.int p4), .val (.int p5), .val (.int p6), .val (.ref b1), .val (.int (0 : Int32)), .unset, .unset, .unset, .unset, .unset, .unset, .unset, .unset] [(.ref b1)])) _
      refine XS.iload X8.here hx rfl (hb hby at_44) rfl ?_
      show Steps p.tables e below (T8.setTop (mkF m 46 #[.val (.int p1), .val (.int p2), .val (.int p3), .val (.int p4), .val (.int p5), .val (.int p6), .val (.ref b1), .val (.int (0 : Int32)), .unset, .unset, .unset, .unset, .unset, .unset, .unset, .unset] [(.int (0 : Int32)), (.ref b1)])) _
      refine st12.trans ?_
      show Steps p.tables e below (T12.setTop (mkF m 49 #[.val (.int p1), .val (.int p2), .val (.int p3), .val (.int p4), .val (.int p5), .val (.int p6), .val (.ref b1), .val (.int (0 : Int32)), .unset, .unset, .unset, .unset, .unset, .unset, .unset, .unset] [(.int p3)])) _
      refine XS.istore X12.here hx rfl (hb hby at_49) rfl (l' := #[.val (.int p1), .val (.int p2), .val (.int p3), .val (.int p4), .val (.int p5), .val (.int p6), .val (.ref b1), .val (.int (0 : Int32)), .val (.int p3), .unset, .unset, .unset, .unset, .unset, .unset, .unset]) rfl ?_
      show Steps p.tables e below (T12.setTop (mkF m 51 #[.val (.int p1), .val (.int p2), .val (.int p3), .val (.int p4), .val (.int p5), .val (.int p6), .val (.ref b1), .val (.int (0 : Int32)), .val (.int p3), .unset, .unset, .unset, .unset, .unset, .unset, .unset] [])) _
      refine XS.iload X12.here hx rfl (hb hby at_51) rfl ?_
      show Steps p.tables e below (T12.setTop (mkF m 53 #[.val (.int p1), .val (.int p2), .val (.int p3), .val (.int p4), .val (.int p5), .val (.int p6), .val (.ref b1), .val (.int (0 : Int32)), .val (.int p3), .unset, .unset, .unset, .unset, .unset, .unset, .unset] [(.int (0 : Int32))])) _
      refine XS.ifNo X12.here hx rfl (hb hby at_53) rfl ((if0 _ _).trans (teq (by decide : (0 : Int32) = (0 : Int32))).2) ?_
      show Steps p.tables e below (T12.setTop (mkF m 56 #[.val (.int p1), .val (.int p2), .val (.int p3), .val (.int p4), .val (.int p5), .val (.int p6), .val (.ref b1), .val (.int (0 : Int32)), .val (.int p3), .unset, .unset, .unset, .unset, .unset, .unset, .unset] [])) _
      refine XS.iloadN X12.here hx rfl (hb hby at_56) rfl ?_
      show Steps p.tables e below (T12.setTop (mkF m 57 #[.val (.int p1), .val (.int p2), .val (.int p3), .val (.int p4), .val (.int p5), .val (.int p6), .val (.ref b1), .val (.int (0 : Int32)), .val (.int p3), .unset, .unset, .unset, .unset, .unset, .unset, .unset] [(.int p3)])) _
      refine XS.goto X12.here hx rfl (pc0 := 57) (pc' := 71) rfl (hb hby at_57) (by decide) (by decide) ?_
      show Steps p.tables e below (T12.setTop (mkF m 71 #[.val (.int p1), .val (.int p2), .val (.int p3), .val (.int p4), .val (.int p5), .val (.int p6), .val (.ref b1), .val (.int (0 : Int32)), .val (.int p3), .unset, .unset, .unset, .unset, .unset, .unset, .unset] [(.int p3)])) _
      refine XS.istore X12.here hx rfl (hb hby at_71) rfl (l' := #[.val (.int p1), .val (.int p2), .val (.int p3), .val (.int p4), .val (.int p5), .val (.int p6), .val (.ref b1), .val (.int (0 : Int32)), .val (.int p3), .val (.int p3), .unset, .unset, .unset, .unset, .unset, .unset]) rfl ?_
      show Steps p.tables e below (T12.setTop (mkF m 73 #[.val (.int p1), .val (.int p2), .val (.int p3), .val (.int p4), .val (.int p5), .val (.int p6), .val (.ref b1), .val (.int (0 : Int32)), .val (.int p3), .val (.int p3), .unset, .unset, .unset, .unset, .unset, .unset] [])) _
      refine XS.aload X12.here hx rfl (hb hby at_73) rfl rfl ?_
      show Steps p.tables e below (T12.setTop (mkF m 75 #[.val (.int p1), .val (.int p2), .val (.int p3), .val (.int p4), .val (.int p5), .val (.int p6), .val (.ref b1), .val (.int (0 : Int32)), .val (.int p3), .val (.int p3), .unset, .unset, .unset, .unset, .unset, .unset] [(.ref b1)])) _
      refine XS.iload X12.here hx rfl (hb hby at_75) rfl ?_
      show Steps p.tables e below (T12.setTop (mkF m 77 #[.val (.int p1), .val (.int p2), .val (.int p3), .val (.int p4), .val (.int p5), .val (.int p6), .val (.ref b1), .val (.int (0 : Int32)), .val (.int p3), .val (.int p3), .unset, .unset, .unset, .unset, .unset, .unset] [(.int (0 : Int32)), (.ref b1)])) _
      refine XS.iload X12.here hx rfl (hb hby at_77) rfl ?_
      show Steps p.tables e below (T12.setTop (mkF m 79 #[.val (.int p1), .val (.int p2), .val (.int p3), .val (.int p4), .val (.int p5), .val (.int p6), .val (.ref b1), .val (.int (0 : Int32)), .val (.int p3), .val (.int p3), .unset, .unset, .unset, .unset, .unset, .unset] [(.int p5), (.int (0 : Int32)), (.ref b1)])) _
      refine st14.trans ?_
      show Steps p.tables e below (T14.setTop (mkF m 82 #[.val (.int p1), .val (.int p2), .val (.int p3), .val (.int p4), .val (.int p5), .val (.int p6), .val (.ref b1), .val (.int (0 : Int32)), .val (.int p3), .val (.int p3), .unset, .unset, .unset, .unset, .unset, .unset] [])) _
      refine XS.aload X14.here hx rfl (hb hby at_82) rfl rfl ?_
      show Steps p.tables e below (T14.setTop (mkF m 84 #[.val (.int p1), .val (.int p2), .val (.int p3), .val (.int p4), .val (.int p5), .val (.int p6), .val (.ref b1), .val (.int (0 : Int32)), .val (.int p3), .val (.int p3), .unset, .unset, .unset, .unset, .unset, .unset] [(.ref b1)])) _
      refine XS.iconst X14.here hx rfl (hb hby at_84) ?_
      show Steps p.tables e below (T14.setTop (mkF m 85 #[.val (.int p1), .val (.int p2), .val (.int p3), .val (.int p4), .val (.int p5), .val (.int p6), .val (.ref b1), .val (.int (0 : Int32)), .val (.int p3), .val (.int p3), .unset, .unset, .unset, .unset, .unset, .unset] [(.int (0 : Int32)), (.ref b1)])) _
      refine st15.trans ?_
      show Steps p.tables e below (T15.setTop (mkF m 88 #[.val (.int p1), .val (.int p2), .val (.int p3), .val (.int p4), .val (.int p5), .val (.int p6), .val (.ref b1), .val (.int (0 : Int32)), .val (.int p3), .val (.int p3), .unset, .unset, .unset, .unset, .unset, .unset] [(.int p5)])) _
      refine XS.istore X15.here hx rfl (hb hby at_88) rfl (l' := #[.val (.int p1), .val (.int p2), .val (.int p3), .val (.int p4), .val (.int p5), .val (.int p6), .val (.ref b1), .val (.int (0 : Int32)), .val (.int p3), .val (.int p3), .val (.int p5), .unset, .unset, .unset, .unset, .unset]) rfl ?_
      show Steps p.tables e below (T15.setTop (mkF m 90 #[.val (.int p1), .val (.int p2), .val (.int p3), .val (.int p4), .val (.int p5), .val (.int p6), .val (.ref b1), .val (.int (0 : Int32)), .val (.int p3), .val (.int p3), .val (.int p5), .unset, .unset, .unset, .unset, .unset] [])) _
      refine XS.aload X15.here hx rfl (hb hby at_90) rfl rfl ?_
      show Steps p.tables e below (T15.setTop (mkF m 92 #[.val (.int p1), .val (.int p2), .val (.int p3), .val (.int p4), .val (.int p5), .val (.int p6), .val (.ref b1), .val (.int (0 : Int32)), .val (.int p3), .val (.int p3), .val (.int p5), .unset, .unset, .unset, .unset, .unset] [(.ref b1)])) _
      refine XS.iconst X15.here hx rfl (hb hby at_92) ?_
      show Steps p.tables e below (T15.setTop (mkF m 93 #[.val (.int p1), .val (.int p2), .val (.int p3), .val (.int p4), .val (.int p5), .val (.int p6), .val (.ref b1), .val (.int (0 : Int32)), .val (.int p3), .val (.int p3), .val (.int p5), .unset, .unset, .unset, .unset, .unset] [(.int (1 : Int32)), (.ref b1)])) _
      refine st20.trans ?_
      show Steps p.tables e below (T20.setTop (mkF m 96 #[.val (.int p1), .val (.int p2), .val (.int p3), .val (.int p4), .val (.int p5), .val (.int p6), .val (.ref b1), .val (.int (0 : Int32)), .val (.int p3), .val (.int p3), .val (.int p5), .unset, .unset, .unset, .unset, .unset] [(.int p4)])) _
      refine XS.istore X20.here hx rfl (hb hby at_96) rfl (l' := #[.val (.int p1), .val (.int p2), .val (.int p3), .val (.int p4), .val (.int p5), .val (.int p6), .val (.ref b1), .val (.int (0 : Int32)), .val (.int p3), .val (.int p3), .val (.int p5), .val (.int p4), .unset, .unset, .unset, .unset]) rfl ?_
      show Steps p.tables e below (T20.setTop (mkF m 98 #[.val (.int p1), .val (.int p2), .val (.int p3), .val (.int p4), .val (.int p5), .val (.int p6), .val (.ref b1), .val (.int (0 : Int32)), .val (.int p3), .val (.int p3), .val (.int p5), .val (.int p4), .unset, .unset, .unset, .unset] [])) _
      refine XS.aload X20.here hx rfl (hb hby at_98) rfl rfl ?_
      show Steps p.tables e below (T20.setTop (mkF m 100 #[.val (.int p1), .val (.int p2), .val (.int p3), .val (.int p4), .val (.int p5), .val (.int p6), .val (.ref b1), .val (.int (0 : Int32)), .val (.int p3), .val (.int p3), .val (.int p5), .val (.int p4), .unset, .unset, .unset, .unset] [(.ref b1)])) _
      refine XS.iconst X20.here hx rfl (hb hby at_100) ?_
      show Steps p.tables e below (T20.setTop (mkF m 101 #[.val (.int p1), .val (.int p2), .val (.int p3), .val (.int p4), .val (.int p5), .val (.int p6), .val (.ref b1), .val (.int (0 : Int32)), .val (.int p3), .val (.int p3), .val (.int p5), .val (.int p4), .unset, .unset, .unset, .unset] [(.int (2 : Int32)), (.ref b1)])) _
      refine st21.trans ?_
      show Steps p.tables e below (T21.setTop (mkF m 104 #[.val (.int p1), .val (.int p2), .val (.int p3), .val (.int p4), .val (.int p5), .val (.int p6), .val (.ref b1), .val (.int (0 : Int32)), .val (.int p3), .val (.int p3), .val (.int p5), .val (.int p4), .unset, .unset, .unset, .unset] [(.int p1)])) _
      refine XS.istore X21.here hx rfl (hb hby at_104) rfl (l' := #[.val (.int p1), .val (.int p2), .val (.int p3), .val (.int p4), .val (.int p5), .val (.int p6), .val (.ref b1), .val (.int (0 : Int32)), .val (.int p3), .val (.int p3), .val (.int p5), .val (.int p4), .val (.int p1), .unset, .unset, .unset]) rfl ?_
      show Steps p.tables e below (T21.setTop (mkF m 106 #[.val (.int p1), .val (.int p2), .val (.int p3), .val (.int p4), .val (.int p5), .val (.int p6), .val (.ref b1), .val (.int (0 : Int32)), .val (.int p3), .val (.int p3), .val (.int p5), .val (.int p4), .val (.int p1), .unset, .unset, .unset] [])) _
      refine XS.iload X21.here hx rfl (hb hby at_106) rfl ?_
      show Steps p.tables e below (T21.setTop (mkF m 108 #[.val (.int p1), .val (.int p2), .val (.int p3), .val (.int p4), .val (.int p5), .val (.int p6), .val (.ref b1), .val (.int (0 : Int32)), .val (.int p3), .val (.int p3), .val (.int p5), .val (.int p4), .val (.int p1), .unset, .unset, .unset] [(.int (0 : Int32))])) _
      refine XS.ifNo X21.here hx rfl (hb hby at_108) rfl ((if0 _ _).trans (teq (by decide : (0 : Int32) = (0 : Int32))).2) ?_
      show Steps p.tables e below (T21.setTop (mkF m 111 #[.val (.int p1), .val (.int p2), .val (.int p3), .val (.int p4), .val (.int p5), .val (.int p6), .val (.ref b1), .val (.int (0 : Int32)), .val (.int p3), .val (.int p3), .val (.int p5), .val (.int p4), .val (.int p1), .unset, .unset, .unset] [])) _
      refine XS.iload X21.here hx rfl (hb hby at_111) rfl ?_
      show Steps p.tables e below (T21.setTop (mkF m 113 #[.val (.int p1), .val (.int p2), .val (.int p3), .val (.int p4), .val (.int p5), .val (.int p6), .val (.ref b1), .val (.int (0 : Int32)), .val (.int p3), .val (.int p3), .val (.int p5), .val (.int p4), .val (.int p1), .unset, .unset, .unset] [(.int p5)])) _
      refine XS.goto X21.here hx rfl (pc0 := 113) (pc' := 117) rfl (hb hby at_113) (by decide) (by decide) ?_
      show Steps p.tables e below (T21.setTop (mkF m 117 #[.val (.int p1), .val (.int p2), .val (.int p3), .val (.int p4), .val (.int p5), .val (.int p6), .val (.ref b1), .val (.int (0 : Int32)), .val (.int p3), .val (.int p3), .val (.int p5), .val (.int p4), .val (.int p1), .unset, .unset, .unset] [(.int p5)])) _
      refine XS.istore X21.here hx rfl (hb hby at_117) rfl (l' := #[.val (.int p1), .val (.int p2), .val (.int p3), .val (.int p4), .val (.int p5), .val (.int p6), .val (.ref b1), .val (.int (0 : Int32)), .val (.int p3), .val (.int p3), .val (.int p5), .val (.int p4), .val (.int p1), .val (.int p5), .unset, .unset]) rfl ?_
      show Steps p.tables e below (T21.setTop (mkF m 119 #[.val (.int p1), .val (.int p2), .val (.int p3), .val (.int p4), .val (.int p5), .val (.int p6), .val (.ref b1), .val (.int (0 : Int32)), .val (.int p3), .val (.int p3), .val (.int p5), .val (.int p4), .val (.int p1), .val (.int p5), .unset, .unset] [])) _
      refine XS.iload X21.here hx rfl (hb hby at_119) rfl ?_
      show Steps p.tables e below (T21.setTop (mkF m 121 #[.val (.int p1), .val (.int p2), .val (.int p3), .val (.int p4), .val (.int p5), .val (.int p6), .val (.ref b1), .val (.int (0 : Int32)), .val (.int p3), .val (.int p3), .val (.int p5), .val (.int p4), .val (.int p1), .val (.int p5), .unset, .unset] [(.int (0 : Int32))])) _
      refine XS.iconst X21.here hx rfl (hb hby at_121) ?_
      show Steps p.tables e below (T21.setTop (mkF m 122 #[.val (.int p1), .val (.int p2), .val (.int p3), .val (.int p4), .val (.int p5), .val (.int p6), .val (.ref b1), .val (.int (0 : Int32)), .val (.int p3), .val (.int p3), .val (.int p5), .val (.int p4), .val (.int p1), .val (.int p5), .unset, .unset] [(.int (1 : Int32)), (.int (0 : Int32))])) _
      refine XS.icmpYes X21.here hx rfl (pc0 := 122) (pc' := 130) rfl (hb hby at_122) rfl (feq (by decide : ¬ ((0 : Int32) = (1 : Int32)))).2 (by decide) (by decide) ?_
      show Steps p.tables e below (T21.setTop (mkF m 130 #[.val (.int p1), .val (.int p2), .val (.int p3), .val (.int p4), .val (.int p5), .val (.int p6), .val (.ref b1), .val (.int (0 : Int32)), .val (.int p3), .val (.int p3), .val (.int p5), .val (.int p4), .val (.int p1), .val (.int p5), .unset, .unset] [])) _
      refine XS.iloadN X21.here hx rfl (hb hby at_130) rfl ?_
      show Steps p.tables e below (T21.setTop (mkF m 131 #[.val (.int p1), .val (.int p2), .val (.int p3), .val (.int p4), .val (.int p5), .val (.int p6), .val (.ref b1), .val (.int (0 : Int32)), .val (.int p3), .val (.int p3), .val (.int p5), .val (.int p4), .val (.int p1), .val (.int p5), .unset, .unset] [(.int p4)])) _
      refine XS.istore X21.here hx rfl (hb hby at_131) rfl (l' := #[.val (.int p1), .val (.int p2), .val (.int p3), .val (.int p4), .val (.int p5), .val (.int p6), .val (.ref b1), .val (.int (0 : Int32)), .val (.int p3), .val (.int p3), .val (.int p5), .val (.int p4), .val (.int p1), .val (.int p5), .val (.int p4), .unset]) rfl ?_
      show Steps p.tables e below (T21.setTop (mkF m 133 #[.val (.int p1), .val (.int p2), .val (.int p3), .val (.int p4), .val (.int p5), .val (.int p6), .val (.ref b1), .val (.int (0 : Int32)), .val (.int p3), .val (.int p3), .val (.int p5), .val (.int p4), .val (.int p1), .val (.int p5), .val (.int p4), .unset] [])) _
      refine XS.iload X21.here hx rfl (hb hby at_133) rfl ?_
      show Steps p.tables e below (T21.setTop (mkF m 135 #[.val (.int p1), .val (.int p2), .val (.int p3), .val (.int p4), .val (.int p5), .val (.int p6), .val (.ref b1), .val (.int (0 : Int32)), .val (.int p3), .val (.int p3), .val (.int p5), .val (.int p4), .val (.int p1), .val (.int p5), .val (.int p4), .unset] [(.int (0 : Int32))])) _
      refine XS.iconst X21.here hx rfl (hb hby at_135) ?_
      show Steps p.tables e below (T21.setTop (mkF m 136 #[.val (.int p1), .val (.int p2), .val (.int p3), .val (.int p4), .val (.int p5), .val (.int p6), .val (.ref b1), .val (.int (0 : Int32)), .val (.int p3), .val (.int p3), .val (.int p5), .val (.int p4), .val (.int p1), .val (.int p5), .val (.int p4), .unset] [(.int (2 : Int32)), (.int (0 : Int32))])) _
      refine XS.icmpYes X21.here hx rfl (pc0 := 136) (pc' := 144) rfl (hb hby at_136) rfl (feq (by decide : ¬ ((0 : Int32) = (2 : Int32)))).2 (by decide) (by decide) ?_
      show Steps p.tables e below (T21.setTop (mkF m 144 #[.val (.int p1), .val (.int p2), .val (.int p3), .val (.int p4), .val (.int p5), .val (.int p6), .val (.ref b1), .val (.int (0 : Int32)), .val (.int p3), .val (.int p3), .val (.int p5), .val (.int p4), .val (.int p1), .val (.int p5), .val (.int p4), .unset] [])) _
      refine XS.iloadN X21.here hx rfl (hb hby at_144) rfl ?_
      show Steps p.tables e below (T21.setTop (mkF m 145 #[.val (.int p1), .val (.int p2), .val (.int p3), .val (.int p4), .val (.int p5), .val (.int p6), .val (.ref b1), .val (.int (0 : Int32)), .val (.int p3), .val (.int p3), .val (.int p5), .val (.int p4), .val (.int p1), .val (.int p5), .val (.int p4), .unset] [(.int p1)])) _
      refine XS.istore X21.here hx rfl (hb hby at_145) rfl (l' := #[.val (.int p1), .val (.int p2), .val (.int p3), .val (.int p4), .val (.int p5), .val (.int p6), .val (.ref b1), .val (.int (0 : Int32)), .val (.int p3), .val (.int p3), .val (.int p5), .val (.int p4), .val (.int p1), .val (.int p5), .val (.int p4), .val (.int p1)]) rfl ?_
      show Steps p.tables e below (T21.setTop (mkF m 147 #[.val (.int p1), .val (.int p2), .val (.int p3), .val (.int p4), .val (.int p5), .val (.int p6), .val (.ref b1), .val (.int (0 : Int32)), .val (.int p3), .val (.int p3), .val (.int p5), .val (.int p4), .val (.int p1), .val (.int p5), .val (.int p4), .val (.int p1)] [])) _
      refine XS.iload X21.here hx rfl (hb hby at_147) rfl ?_
      show Steps p.tables e below (T21.setTop (mkF m 149 #[.val (.int p1), .val (.int p2), .val (.int p3), .val (.int p4), .val (.int p5), .val (.int p6), .val (.ref b1), .val (.int (0 : Int32)), .val (.int p3), .val (.int p3), .val (.int p5), .val (.int p4), .val (.int p1), .val (.int p5), .val (.int p4), .val (.int p1)] [(.int p3)])) _
      refine XS.iload X21.here hx rfl (hb hby at_149) rfl ?_
      show Steps p.tables e below (T21.setTop (mkF m 151 #[.val (.int p1), .val (.int p2), .val (.int p3), .val (.int p4), .val (.int p5), .val (.int p6), .val (.ref b1), .val (.int (0 : Int32)), .val (.int p3), .val (.int p3), .val (.int p5), .val (.int p4), .val (.int p1), .val (.int p5), .val (.int p4), .val (.int p1)] [(.int p3), (.int p3)])) _
      refine XS.icmpNo X21.here hx rfl (hb hby at_151) rfl (teq (rfl : p3 = p3)).2 ?_
      show Steps p.tables e below (T21.setTop (mkF m 154 #[.val (.int p1), .val (.int p2), .val (.int p3), .val (.int p4), .val (.int p5), .val (.int p6), .val (.ref b1), .val (.int (0 : Int32)), .val (.int p3), .val (.int p3), .val (.int p5), .val (.int p4), .val (.int p1), .val (.int p5), .val (.int p4), .val (.int p1)] [])) _
      refine XS.iload X21.here hx rfl (hb hby at_154) rfl ?_
      show Steps p.tables e below (T21.setTop (mkF m 156 #[.val (.int p1), .val (.int p2), .val (.int p3), .val (.int p4), .val (.int p5), .val (.int p6), .val (.ref b1), .val (.int (0 : Int32)), .val (.int p3), .val (.int p3), .val (.int p5), .val (.int p4), .val (.int p1), .val (.int p5), .val (.int p4), .val (.int p1)] [(.int p5)])) _
      refine XS.iload X21.here hx rfl (hb hby at_156) rfl ?_
      show Steps p.tables e below (T21.setTop (mkF m 158 #[.val (.int p1), .val (.int p2), .val (.int p3), .val (.int p4), .val (.int p5), .val (.int p6), .val (.ref b1), .val (.int (0 : Int32)), .val (.int p3), .val (.int p3), .val (.int p5), .val (.int p4), .val (.int p1), .val (.int p5), .val (.int p4), .val (.int p1)] [(.int p5), (.int p5)])) _
      refine XS.icmpNo X21.here hx rfl (hb hby at_158) rfl (teq (rfl : p5 = p5)).2 ?_
      show Steps p.tables e below (T21.setTop (mkF m 161 #[.val (.int p1), .val (.int p2), .val (.int p3), .val (.int p4), .val (.int p5), .val (.int p6), .val (.ref b1), .val (.int (0 : Int32)), .val (.int p3), .val (.int p3), .val (.int p5), .val (.int p4), .val (.int p1), .val (.int p5), .val (.int p4), .val (.int p1)] [])) _
      refine XS.iload X21.here hx rfl (hb hby at_161) rfl ?_
      show Steps p.tables e below (T21.setTop (mkF m 163 #[.val (.int p1), .val (.int p2), .val (.int p3), .val (.int p4), .val (.int p5), .val (.int p6), .val (.ref b1), .val (.int (0 : Int32)), .val (.int p3), .val (.int p3), .val (.int p5), .val (.int p4), .val (.int p1), .val (.int p5), .val (.int p4), .val (.int p1)] [(.int p4)])) _
      refine XS.iload X21.here hx rfl (hb hby at_163) rfl ?_
      show Steps p.tables e below (T21.setTop (mkF m 165 #[.val (.int p1), .val (.int p2), .val (.int p3), .val (.int p4), .val (.int p5), .val (.int p6), .val (.ref b1), .val (.int (0 : Int32)), .val (.int p3), .val (.int p3), .val (.int p5), .val (.int p4), .val (.int p1), .val (.int p5), .val (.int p4), .val (.int p1)] [(.int p4), (.int p4)])) _
      refine XS.icmpNo X21.here hx rfl (hb hby at_165) rfl (teq (rfl : p4 = p4)).2 ?_
      show Steps p.tables e below (T21.setTop (mkF m 168 #[.val (.int p1), .val (.int p2), .val (.int p3), .val (.int p4), .val (.int p5), .val (.int p6), .val (.ref b1), .val (.int (0 : Int32)), .val (.int p3), .val (.int p3), .val (.int p5), .val (.int p4), .val (.int p1), .val (.int p5), .val (.int p4), .val (.int p1)] [])) _
      refine XS.iload X21.here hx rfl (hb hby at_168) rfl ?_
      show Steps p.tables e below (T21.setTop (mkF m 170 #[.val (.int p1), .val (.int p2), .val (.int p3), .val (.int p4), .val (.int p5), .val (.int p6), .val (.ref b1), .val (.int (0 : Int32)), .val (.int p3), .val (.int p3), .val (.int p5), .val (.int p4), .val (.int p1), .val (.int p5), .val (.int p4), .val (.int p1)] [(.int p1)])) _
      refine XS.iload X21.here hx rfl (hb hby at_170) rfl ?_
      show Steps p.tables e below (T21.setTop (mkF m 172 #[.val (.int p1), .val (.int p2), .val (.int p3), .val (.int p4), .val (.int p5), .val (.int p6), .val (.ref b1), .val (.int (0 : Int32)), .val (.int p3), .val (.int p3), .val (.int p5), .val (.int p4), .val (.int p1), .val (.int p5), .val (.int p4), .val (.int p1)] [(.int p1), (.int p1)])) _
      refine XS.icmpNo X21.here hx rfl (hb hby at_172) rfl (teq (rfl : p1 = p1)).2 ?_
      show Steps p.tables e below (T21.setTop (mkF m 175 #[.val (.int p1), .val (.int p2), .val (.int p3), .val (.int p4), .val (.int p5), .val (.int p6), .val (.ref b1), .val (.int (0 : Int32)), .val (.int p3), .val (.int p3), .val (.int p5), .val (.int p4), .val (.int p1), .val (.int p5), .val (.int p4), .val (.int p1)] [])) _
      refine XS.iconst X21.here hx rfl (hb hby at_175) ?_
      show Steps p.tables e below (T21.setTop (mkF m 176 #[.val (.int p1), .val (.int p2), .val (.int p3), .val (.int p4), .val (.int p5), .val (.int p6), .val (.ref b1), .val (.int (0 : Int32)), .val (.int p3), .val (.int p3), .val (.int p5), .val (.int p4), .val (.int p1), .val (.int p5), .val (.int p4), .val (.int p1)] [(.int (1 : Int32))])) _
      refine XS.goto X21.here hx rfl (pc0 := 176) (pc' := 180) rfl (hb hby at_176) (by decide) (by decide) ?_
      show Steps p.tables e below (T21.setTop (mkF m 180 #[.val (.int p1), .val (.int p2), .val (.int p3), .val (.int p4), .val (.int p5), .val (.int p6), .val (.ref b1), .val (.int (0 : Int32)), .val (.int p3), .val (.int p3), .val (.int p5), .val (.int p4), .val (.int p1), .val (.int p5), .val (.int p4), .val (.int p1)] [(.int (1 : Int32))])) _
      exact retN X21 hx (t := .boolean) Bd.returns (by simp) (hb hby at_180) hr
    · exact ⟨rfl, N21⟩
  · have pre11 := pre10
    rw [g11] at pre11
    rw [if_neg (by rw [g11]; decide : ¬ ((v_k p6) = (0 : Int32)))] at hp
    rw [if_pos g11] at hp
    have O23 := (O9.keep K8 (allS g_b1 (allS g_c4 all0)))
    obtain ⟨cq22, kq22, q22a, q22b, q22c⟩ := isOf hZ rfl f8_0
    obtain ⟨_, _, ⟨T22, L22, k22, n22⟩, -, X22, ⟨Lc22, hQ22, l22, y22, z22⟩, st22⟩ := X8.virtualBack hx (y := (⟨"com/example/keysmith/keysmith/TripleBuffer", "object", "(I)I"⟩ : MethodName)) (z := (⟨"com/example/keysmith/keysmith/TripleBuffer", "object", "(I)I"⟩ : MethodName)) hown (mvT hZ (hw _ (List.mem_of_getElem? (i := 25) rfl))) (mvT hZ (hw _ (List.mem_of_getElem? (i := 26) rfl))) (notFace_of_selects (args := #[]) (mvT hZ (hw _ (List.mem_of_getElem? (i := 28) rfl)))) (mvT hZ (hw _ (List.mem_of_getElem? (i := 28) rfl))) (mvT hZ (hw _ (List.mem_of_getElem? (i := 27) rfl))) (by decide) (backOf (W := 0) (rm_object1 l Z a0 hw [] b1 c2 kc2 c4 kc4 p1 p2 p3 p2 p3 p4 p3 p4 p1 T8.heap n0 (own_z0 O23) O23 f8_1 f8_3 f8_5) hZ (hw _ (List.mem_of_getElem? (i := 29) rfl)) (hw _ (List.mem_of_getElem? (i := 2) rfl)) (by decide) (by decide)) q22a q22c (g := (mkF m 46 #[.val (.int p1), .val (.int p2), .val (.int p3), .val (.int p4), .val (.int p5), .val (.int p6), .val (.ref b1), .val (.int (1 : Int32)), .unset, .unset, .unset, .unset, .unset, .unset, .unset, .unset] [(.int (1 : Int32)), (.ref b1)])) rfl (by rw [hml]; rfl) (Steps.refl _) (argsL := [(.int (1 : Int32))]) (rest := []) (lenOf pd__I_I_4 rfl) rfl (by show 2 * 0 + _ ≤ _; exact Nat.le_of_eq rfl) (hb hby at_46) (fun _ _ => ⟨rfl, rfl, (by decide : 3 + 0 ≤ _), (by decide : 196626 + 0 ≤ _)⟩)
    dsimp only [Pt.U, Pt.locs, Pt.cells, Pt.slots] at X22 l22 y22 z22 st22 hQ22
    subst l22 y22 z22
    obtain ⟨rfl, N22q, e22⟩ := hQ22
    have N22 := Fr.app N8 N22q
    obtain ⟨cq24, kq24, q24a, q24b, q24c⟩ := isOf hZ e22 f8_0
    obtain ⟨_, _, ⟨T24, L24, k24, n24⟩, -, X24, ⟨Lc24, hQ24, l24, y24, z24⟩, st24⟩ := X22.virtualBack hx (y := (⟨"com/example/keysmith/keysmith/TripleBuffer", "setObject", "(II)V"⟩ : MethodName)) (z := (⟨"com/example/keysmith/keysmith/TripleBuffer", "setObject", "(II)V"⟩ : MethodName)) hown (mvT hZ (hw _ (List.mem_of_getElem? (i := 30) rfl))) (mvT hZ (hw _ (List.mem_of_getElem? (i := 31) rfl))) (notFace_of_selects (args := #[]) (mvT hZ (hw _ (List.mem_of_getElem? (i := 33) rfl)))) (mvT hZ (hw _ (List.mem_of_getElem? (i := 33) rfl))) (mvT hZ (hw _ (List.mem_of_getElem? (i := 32) rfl))) (by decide) (backOf (W := 0) (rm_set1 l Z a0 hw [] b1 p5 c2 kc2 c4 kc4 p1 p2 p3 p2 p3 p4 p3 p4 p1 T8.heap n0 (own_z0 O23) O23 f8_1 f8_3 f8_5 g_c4) hZ (hw _ (List.mem_of_getElem? (i := 34) rfl)) (hw _ (List.mem_of_getElem? (i := 2) rfl)) (by decide) (by decide)) q24a q24c (g := (mkF m 79 #[.val (.int p1), .val (.int p2), .val (.int p3), .val (.int p4), .val (.int p5), .val (.int p6), .val (.ref b1), .val (.int (1 : Int32)), .val (.int p4), .val (.int p4), .unset, .unset, .unset, .unset, .unset, .unset] [(.int p5), (.int (1 : Int32)), (.ref b1)])) rfl (by rw [hml]; rfl) (Steps.refl _) (argsL := [(.int (1 : Int32)), (.int p5)]) (rest := []) (lenOf pd__II_V_5 rfl) rfl (by show 2 * 0 + _ ≤ _; exact Nat.le_of_eq rfl) (hb hby at_79) (fun _ _ => ⟨rfl, e22, (by decide : 3 + 0 ≤ _), (by decide : 196626 + 0 ≤ _)⟩)
    dsimp only [Pt.U, Pt.locs, Pt.cells, Pt.slots] at X24 l24 y24 z24 st24 hQ24
    subst l24 y24 z24
    obtain ⟨rfl, N24q, K24, f24_0⟩ := hQ24
    have N24 := Fr.app N22 N24q
    have F26 := (f8_1.keep K24 (ninS ne_b1_c4 nin0))
    have F27 := (f8_3.keep K24 (ninS ne_c2_c4 nin0))
    have O28 := (O23.keep K24 (allS g_c4 all0))
    have F29 := (f8_0.keep K24)
    obtain ⟨cq25, kq25, q25a, q25b, q25c⟩ := isOf hZ rfl F29
    obtain ⟨_, _, ⟨T25, L25, k25, n25⟩, -, X25, ⟨Lc25, hQ25, l25, y25, z25⟩, st25⟩ := X24.virtualBack hx (y := (⟨"com/example/keysmith/keysmith/TripleBuffer", "object", "(I)I"⟩ : MethodName)) (z := (⟨"com/example/keysmith/keysmith/TripleBuffer", "object", "(I)I"⟩ : MethodName)) hown (mvT hZ (hw _ (List.mem_of_getElem? (i := 25) rfl))) (mvT hZ (hw _ (List.mem_of_getElem? (i := 26) rfl))) (notFace_of_selects (args := #[]) (mvT hZ (hw _ (List.mem_of_getElem? (i := 28) rfl)))) (mvT hZ (hw _ (List.mem_of_getElem? (i := 28) rfl))) (mvT hZ (hw _ (List.mem_of_getElem? (i := 27) rfl))) (by decide) (backOf (W := 0) (rm_object0 l Z a0 hw [] b1 c2 kc2 c4 kc4 p1 p2 p3 p2 p3 p5 p3 p4 p1 T24.heap n0 (own_z0 O28) O28 F26 F27 f24_0) hZ (hw _ (List.mem_of_getElem? (i := 29) rfl)) (hw _ (List.mem_of_getElem? (i := 2) rfl)) (by decide) (by decide)) q25a q25c (g := (mkF m 85 #[.val (.int p1), .val (.int p2), .val (.int p3), .val (.int p4), .val (.int p5), .val (.int p6), .val (.ref b1), .val (.int (1 : Int32)), .val (.int p4), .val (.int p4), .unset, .unset, .unset, .unset, .unset, .unset] [(.int (0 : Int32)), (.ref b1)])) rfl (by rw [hml]; rfl) (Steps.refl _) (argsL := [(.int (0 : Int32))]) (rest := []) (lenOf pd__I_I_4 rfl) rfl (by show 2 * 0 + _ ≤ _; exact Nat.le_of_eq rfl) (hb hby at_85) (fun _ _ => ⟨rfl, rfl, (by decide : 3 + 0 ≤ _), (by decide : 196626 + 0 ≤ _)⟩)
    dsimp only [Pt.U, Pt.locs, Pt.cells, Pt.slots] at X25 l25 y25 z25 st25 hQ25
    subst l25 y25 z25
    obtain ⟨rfl, N25q, e25⟩ := hQ25
    have N25 := Fr.app N24 N25q
    obtain ⟨cq30, kq30, q30a, q30b, q30c⟩ := isOf hZ e25 F29
    obtain ⟨_, _, ⟨T30, L30, k30, n30⟩, -, X30, ⟨Lc30, hQ30, l30, y30, z30⟩, st30⟩ := X25.virtualBack hx (y := (⟨"com/example/keysmith/keysmith/TripleBuffer", "object", "(I)I"⟩ : MethodName)) (z := (⟨"com/example/keysmith/keysmith/TripleBuffer", "object", "(I)I"⟩ : MethodName)) hown (mvT hZ (hw _ (List.mem_of_getElem? (i := 25) rfl))) (mvT hZ (hw _ (List.mem_of_getElem? (i := 26) rfl))) (notFace_of_selects (args := #[]) (mvT hZ (hw _ (List.mem_of_getElem? (i := 28) rfl)))) (mvT hZ (hw _ (List.mem_of_getElem? (i := 28) rfl))) (mvT hZ (hw _ (List.mem_of_getElem? (i := 27) rfl))) (by decide) (backOf (W := 0) (rm_object1 l Z a0 hw [] b1 c2 kc2 c4 kc4 p1 p2 p3 p2 p3 p5 p3 p4 p1 T24.heap n0 (own_z0 O28) O28 F26 F27 f24_0) hZ (hw _ (List.mem_of_getElem? (i := 29) rfl)) (hw _ (List.mem_of_getElem? (i := 2) rfl)) (by decide) (by decide)) q30a q30c (g := (mkF m 93 #[.val (.int p1), .val (.int p2), .val (.int p3), .val (.int p4), .val (.int p5), .val (.int p6), .val (.ref b1), .val (.int (1 : Int32)), .val (.int p4), .val (.int p4), .val (.int p3), .unset, .unset, .unset, .unset, .unset] [(.int (1 : Int32)), (.ref b1)])) rfl (by rw [hml]; rfl) (Steps.refl _) (argsL := [(.int (1 : Int32))]) (rest := []) (lenOf pd__I_I_4 rfl) rfl (by show 2 * 0 + _ ≤ _; exact Nat.le_of_eq rfl) (hb hby at_93) (fun _ _ => ⟨rfl, e25, (by decide : 3 + 0 ≤ _), (by decide : 196626 + 0 ≤ _)⟩)
    dsimp only [Pt.U, Pt.locs, Pt.cells, Pt.slots] at X30 l30 y30 z30 st30 hQ30
    subst l30 y30 z30
    obtain ⟨rfl, N30q, e30⟩ := hQ30
    have N30 := Fr.app N25 N30q
    obtain ⟨cq31, kq31, q31a, q31b, q31c⟩ := isOf hZ e30 F29
    obtain ⟨_, _, ⟨T31, L31, k31, n31⟩, -, X31, ⟨Lc31, hQ31, l31, y31, z31⟩, st31⟩ := X30.virtualBack hx (y := (⟨"com/example/keysmith/keysmith/TripleBuffer", "object", "(I)I"⟩ : MethodName)) (z := (⟨"com/example/keysmith/keysmith/TripleBuffer", "object", "(I)I"⟩ : MethodName)) hown (mvT hZ (hw _ (List.mem_of_getElem? (i := 25) rfl))) (mvT hZ (hw _ (List.mem_of_getElem? (i := 26) rfl))) (notFace_of_selects (args := #[]) (mvT hZ (hw _ (List.mem_of_getElem? (i := 28) rfl)))) (mvT hZ (hw _ (List.mem_of_getElem? (i := 28) rfl))) (mvT hZ (hw _ (List.mem_of_getElem? (i := 27) rfl))) (by decide) (backOf (W := 0) (rm_object2 l Z a0 hw [] b1 c2 kc2 c4 kc4 p1 p2 p3 p2 p3 p5 p3 p4 p1 T24.heap n0 (own_z0 O28) O28 F26 F27 f24_0) hZ (hw _ (List.mem_of_getElem? (i := 29) rfl)) (hw _ (List.mem_of_getElem? (i := 2) rfl)) (by decide) (by decide)) q31a q31c (g := (mkF m 101 #[.val (.int p1), .val (.int p2), .val (.int p3), .val (.int p4), .val (.int p5), .val (.int p6), .val (.ref b1), .val (.int (1 : Int32)), .val (.int p4), .val (.int p4), .val (.int p3), .val (.int p5), .unset, .unset, .unset, .unset] [(.int (2 : Int32)), (.ref b1)])) rfl (by rw [hml]; rfl) (Steps.refl _) (argsL := [(.int (2 : Int32))]) (rest := []) (lenOf pd__I_I_4 rfl) rfl (by show 2 * 0 + _ ≤ _; exact Nat.le_of_eq rfl) (hb hby at_101) (fun _ _ => ⟨rfl, e30, (by decide : 3 + 0 ≤ _), (by decide : 196626 + 0 ≤ _)⟩)
    dsimp only [Pt.U, Pt.locs, Pt.cells, Pt.slots] at X31 l31 y31 z31 st31 hQ31
    subst l31 y31 z31
    obtain ⟨rfl, N31q, e31⟩ := hQ31
    have N31 := Fr.app N30 N31q
    obtain ⟨fs, hr, hrun, hended, hW, hsame⟩ := X31.leave (v := some (.int (1 : Int32))) (fun h => by rw [Bd.returns] at h; cases h)
    refine ⟨_, _, pre11 _ ?_, hrun, hended, _, _, rfl, ?_, ⟨_, rfl⟩, hW, hsame.mono (by decide) (by decide)⟩
    · show Steps p.tables e below (T8.setTop (mkF m 42 #[.val (.int p1), .val (.int p2), .val (.int p3), .val (.int p4), .val (.int p5), .val (.int p6), .val (.ref b1), .val (.int (1 : Int32)), .unset, .unset, .unset, .unset, .unset, .unset, .unset, .unset] [])) _
      refine XS.aload X8.here hx rfl (hb hby at_42) rfl rfl ?_
      show Steps p.tables e below (T8.setTop (mkF m 44 #[.val (.int p1), .val (.int p2), .val (.int p3), .val (.int p4), .val (.int p5), .val (.int p6), .val (.ref b1), .val (.int (1 : Int32)), .unset, .unset, .unset, .unset, .unset, .unset, .unset, .unset] [(.ref b1)])) _
      refine XS.iload X8.here hx rfl (hb hby at_44) rfl ?_
      show Steps p.tables e below (T8.setTop (mkF m 46 #[.val (.int p1), .val (.int p2), .val (.int p3), .val (.int p4), .val (.int p5), .val (.int p6), .val (.ref b1), .val (.int (1 : Int32)), .unset, .unset, .unset, .unset, .unset, .unset, .unset, .unset] [(.int (1 : Int32)), (.ref b1)])) _
      refine st22.trans ?_
      show Steps p.tables e below (T22.setTop (mkF m 49 #[.val (.int p1), .val (.int p2), .val (.int p3), .val (.int p4), .val (.int p5), .val (.int p6), .val (.ref b1), .val (.int (1 : Int32)), .unset, .unset, .unset, .unset, .unset, .unset, .unset, .unset] [(.int p4)])) _
      refine XS.istore X22.here hx rfl (hb hby at_49) rfl (l' := #[.val (.int p1), .val (.int p2), .val (.int p3), .val (.int p4), .val (.int p5), .val (.int p6), .val (.ref b1), .val (.int (1 : Int32)), .val (.int p4), .unset, .unset, .unset, .unset, .unset, .unset, .unset]) rfl ?_
      show Steps p.tables e below (T22.setTop (mkF m 51 #[.val (.int p1), .val (.int p2), .val (.int p3), .val (.int p4), .val (.int p5), .val (.int p6), .val (.ref b1), .val (.int (1 : Int32)), .val (.int p4), .unset, .unset, .unset, .unset, .unset, .unset, .unset] [])) _
      refine XS.iload X22.here hx rfl (hb hby at_51) rfl ?_
      show Steps p.tables e below (T22.setTop (mkF m 53 #[.val (.int p1), .val (.int p2), .val (.int p3), .val (.int p4), .val (.int p5), .val (.int p6), .val (.ref b1), .val (.int (1 : Int32)), .val (.int p4), .unset, .unset, .unset, .unset, .unset, .unset, .unset] [(.int (1 : Int32))])) _
      refine XS.ifYes X22.here hx rfl (pc0 := 53) (pc' := 60) rfl (hb hby at_53) rfl ((if0 _ _).trans (feq (by decide : ¬ ((1 : Int32) = (0 : Int32)))).2) (by decide) (by decide) ?_
      show Steps p.tables e below (T22.setTop (mkF m 60 #[.val (.int p1), .val (.int p2), .val (.int p3), .val (.int p4), .val (.int p5), .val (.int p6), .val (.ref b1), .val (.int (1 : Int32)), .val (.int p4), .unset, .unset, .unset, .unset, .unset, .unset, .unset] [])) _
      refine XS.iload X22.here hx rfl (hb hby at_60) rfl ?_
      show Steps p.tables e below (T22.setTop (mkF m 62 #[.val (.int p1), .val (.int p2), .val (.int p3), .val (.int p4), .val (.int p5), .val (.int p6), .val (.ref b1), .val (.int (1 : Int32)), .val (.int p4), .unset, .unset, .unset, .unset, .unset, .unset, .unset] [(.int (1 : Int32))])) _
      refine XS.iconst X22.here hx rfl (hb hby at_62) ?_
      show Steps p.tables e below (T22.setTop (mkF m 63 #[.val (.int p1), .val (.int p2), .val (.int p3), .val (.int p4), .val (.int p5), .val (.int p6), .val (.ref b1), .val (.int (1 : Int32)), .val (.int p4), .unset, .unset, .unset, .unset, .unset, .unset, .unset] [(.int (1 : Int32)), (.int (1 : Int32))])) _
      refine XS.icmpNo X22.here hx rfl (hb hby at_63) rfl (teq (by decide : (1 : Int32) = (1 : Int32))).2 ?_
      show Steps p.tables e below (T22.setTop (mkF m 66 #[.val (.int p1), .val (.int p2), .val (.int p3), .val (.int p4), .val (.int p5), .val (.int p6), .val (.ref b1), .val (.int (1 : Int32)), .val (.int p4), .unset, .unset, .unset, .unset, .unset, .unset, .unset] [])) _
      refine XS.iloadN X22.here hx rfl (hb hby at_66) rfl ?_
      show Steps p.tables e below (T22.setTop (mkF m 67 #[.val (.int p1), .val (.int p2), .val (.int p3), .val (.int p4), .val (.int p5), .val (.int p6), .val (.ref b1), .val (.int (1 : Int32)), .val (.int p4), .unset, .unset, .unset, .unset, .unset, .unset, .unset] [(.int p4)])) _
      refine XS.goto X22.here hx rfl (pc0 := 67) (pc' := 71) rfl (hb hby at_67) (by decide) (by decide) ?_
      show Steps p.tables e below (T22.setTop (mkF m 71 #[.val (.int p1), .val (.int p2), .val (.int p3), .val (.int p4), .val (.int p5), .val (.int p6), .val (.ref b1), .val (.int (1 : Int32)), .val (.int p4), .unset, .unset, .unset, .unset, .unset, .unset, .unset] [(.int p4)])) _
      refine XS.istore X22.here hx rfl (hb hby at_71) rfl (l' := #[.val (.int p1), .val (.int p2), .val (.int p3), .val (.int p4), .val (.int p5), .val (.int p6), .val (.ref b1), .val (.int (1 : Int32)), .val (.int p4), .val (.int p4), .unset, .unset, .unset, .unset, .unset, .unset]) rfl ?_
      show Steps p.tables e below (T22.setTop (mkF m 73 #[.val (.int p1), .val (.int p2), .val (.int p3), .val (.int p4), .val (.int p5), .val (.int p6), .val (.ref b1), .val (.int (1 : Int32)), .val (.int p4), .val (.int p4), .unset, .unset, .unset, .unset, .unset, .unset] [])) _
      refine XS.aload X22.here hx rfl (hb hby at_73) rfl rfl ?_
      show Steps p.tables e below (T22.setTop (mkF m 75 #[.val (.int p1), .val (.int p2), .val (.int p3), .val (.int p4), .val (.int p5), .val (.int p6), .val (.ref b1), .val (.int (1 : Int32)), .val (.int p4), .val (.int p4), .unset, .unset, .unset, .unset, .unset, .unset] [(.ref b1)])) _
      refine XS.iload X22.here hx rfl (hb hby at_75) rfl ?_
      show Steps p.tables e below (T22.setTop (mkF m 77 #[.val (.int p1), .val (.int p2), .val (.int p3), .val (.int p4), .val (.int p5), .val (.int p6), .val (.ref b1), .val (.int (1 : Int32)), .val (.int p4), .val (.int p4), .unset, .unset, .unset, .unset, .unset, .unset] [(.int (1 : Int32)), (.ref b1)])) _
      refine XS.iload X22.here hx rfl (hb hby at_77) rfl ?_
      show Steps p.tables e below (T22.setTop (mkF m 79 #[.val (.int p1), .val (.int p2), .val (.int p3), .val (.int p4), .val (.int p5), .val (.int p6), .val (.ref b1), .val (.int (1 : Int32)), .val (.int p4), .val (.int p4), .unset, .unset, .unset, .unset, .unset, .unset] [(.int p5), (.int (1 : Int32)), (.ref b1)])) _
      refine st24.trans ?_
      show Steps p.tables e below (T24.setTop (mkF m 82 #[.val (.int p1), .val (.int p2), .val (.int p3), .val (.int p4), .val (.int p5), .val (.int p6), .val (.ref b1), .val (.int (1 : Int32)), .val (.int p4), .val (.int p4), .unset, .unset, .unset, .unset, .unset, .unset] [])) _
      refine XS.aload X24.here hx rfl (hb hby at_82) rfl rfl ?_
      show Steps p.tables e below (T24.setTop (mkF m 84 #[.val (.int p1), .val (.int p2), .val (.int p3), .val (.int p4), .val (.int p5), .val (.int p6), .val (.ref b1), .val (.int (1 : Int32)), .val (.int p4), .val (.int p4), .unset, .unset, .unset, .unset, .unset, .unset] [(.ref b1)])) _
      refine XS.iconst X24.here hx rfl (hb hby at_84) ?_
      show Steps p.tables e below (T24.setTop (mkF m 85 #[.val (.int p1), .val (.int p2), .val (.int p3), .val (.int p4), .val (.int p5), .val (.int p6), .val (.ref b1), .val (.int (1 : Int32)), .val (.int p4), .val (.int p4), .unset, .unset, .unset, .unset, .unset, .unset] [(.int (0 : Int32)), (.ref b1)])) _
      refine st25.trans ?_
      show Steps p.tables e below (T25.setTop (mkF m 88 #[.val (.int p1), .val (.int p2), .val (.int p3), .val (.int p4), .val (.int p5), .val (.int p6), .val (.ref b1), .val (.int (1 : Int32)), .val (.int p4), .val (.int p4), .unset, .unset, .unset, .unset, .unset, .unset] [(.int p3)])) _
      refine XS.istore X25.here hx rfl (hb hby at_88) rfl (l' := #[.val (.int p1), .val (.int p2), .val (.int p3), .val (.int p4), .val (.int p5), .val (.int p6), .val (.ref b1), .val (.int (1 : Int32)), .val (.int p4), .val (.int p4), .val (.int p3), .unset, .unset, .unset, .unset, .unset]) rfl ?_
      show Steps p.tables e below (T25.setTop (mkF m 90 #[.val (.int p1), .val (.int p2), .val (.int p3), .val (.int p4), .val (.int p5), .val (.int p6), .val (.ref b1), .val (.int (1 : Int32)), .val (.int p4), .val (.int p4), .val (.int p3), .unset, .unset, .unset, .unset, .unset] [])) _
      refine XS.aload X25.here hx rfl (hb hby at_90) rfl rfl ?_
      show Steps p.tables e below (T25.setTop (mkF m 92 #[.val (.int p1), .val (.int p2), .val (.int p3), .val (.int p4), .val (.int p5), .val (.int p6), .val (.ref b1), .val (.int (1 : Int32)), .val (.int p4), .val (.int p4), .val (.int p3), .unset, .unset, .unset, .unset, .unset] [(.ref b1)])) _
      refine XS.iconst X25.here hx rfl (hb hby at_92) ?_
      show Steps p.tables e below (T25.setTop (mkF m 93 #[.val (.int p1), .val (.int p2), .val (.int p3), .val (.int p4), .val (.int p5), .val (.int p6), .val (.ref b1), .val (.int (1 : Int32)), .val (.int p4), .val (.int p4), .val (.int p3), .unset, .unset, .unset, .unset, .unset] [(.int (1 : Int32)), (.ref b1)])) _
      refine st30.trans ?_
      show Steps p.tables e below (T30.setTop (mkF m 96 #[.val (.int p1), .val (.int p2), .val (.int p3), .val (.int p4), .val (.int p5), .val (.int p6), .val (.ref b1), .val (.int (1 : Int32)), .val (.int p4), .val (.int p4), .val (.int p3), .unset, .unset, .unset, .unset, .unset] [(.int p5)])) _
      refine XS.istore X30.here hx rfl (hb hby at_96) rfl (l' := #[.val (.int p1), .val (.int p2), .val (.int p3), .val (.int p4), .val (.int p5), .val (.int p6), .val (.ref b1), .val (.int (1 : Int32)), .val (.int p4), .val (.int p4), .val (.int p3), .val (.int p5), .unset, .unset, .unset, .unset]) rfl ?_
      show Steps p.tables e below (T30.setTop (mkF m 98 #[.val (.int p1), .val (.int p2), .val (.int p3), .val (.int p4), .val (.int p5), .val (.int p6), .val (.ref b1), .val (.int (1 : Int32)), .val (.int p4), .val (.int p4), .val (.int p3), .val (.int p5), .unset, .unset, .unset, .unset] [])) _
      refine XS.aload X30.here hx rfl (hb hby at_98) rfl rfl ?_
      show Steps p.tables e below (T30.setTop (mkF m 100 #[.val (.int p1), .val (.int p2), .val (.int p3), .val (.int p4), .val (.int p5), .val (.int p6), .val (.ref b1), .val (.int (1 : Int32)), .val (.int p4), .val (.int p4), .val (.int p3), .val (.int p5), .unset, .unset, .unset, .unset] [(.ref b1)])) _
      refine XS.iconst X30.here hx rfl (hb hby at_100) ?_
      show Steps p.tables e below (T30.setTop (mkF m 101 #[.val (.int p1), .val (.int p2), .val (.int p3), .val (.int p4), .val (.int p5), .val (.int p6), .val (.ref b1), .val (.int (1 : Int32)), .val (.int p4), .val (.int p4), .val (.int p3), .val (.int p5), .unset, .unset, .unset, .unset] [(.int (2 : Int32)), (.ref b1)])) _
      refine st31.trans ?_
      show Steps p.tables e below (T31.setTop (mkF m 104 #[.val (.int p1), .val (.int p2), .val (.int p3), .val (.int p4), .val (.int p5), .val (.int p6), .val (.ref b1), .val (.int (1 : Int32)), .val (.int p4), .val (.int p4), .val (.int p3), .val (.int p5), .unset, .unset, .unset, .unset] [(.int p1)])) _
      refine XS.istore X31.here hx rfl (hb hby at_104) rfl (l' := #[.val (.int p1), .val (.int p2), .val (.int p3), .val (.int p4), .val (.int p5), .val (.int p6), .val (.ref b1), .val (.int (1 : Int32)), .val (.int p4), .val (.int p4), .val (.int p3), .val (.int p5), .val (.int p1), .unset, .unset, .unset]) rfl ?_
      show Steps p.tables e below (T31.setTop (mkF m 106 #[.val (.int p1), .val (.int p2), .val (.int p3), .val (.int p4), .val (.int p5), .val (.int p6), .val (.ref b1), .val (.int (1 : Int32)), .val (.int p4), .val (.int p4), .val (.int p3), .val (.int p5), .val (.int p1), .unset, .unset, .unset] [])) _
      refine XS.iload X31.here hx rfl (hb hby at_106) rfl ?_
      show Steps p.tables e below (T31.setTop (mkF m 108 #[.val (.int p1), .val (.int p2), .val (.int p3), .val (.int p4), .val (.int p5), .val (.int p6), .val (.ref b1), .val (.int (1 : Int32)), .val (.int p4), .val (.int p4), .val (.int p3), .val (.int p5), .val (.int p1), .unset, .unset, .unset] [(.int (1 : Int32))])) _
      refine XS.ifYes X31.here hx rfl (pc0 := 108) (pc' := 116) rfl (hb hby at_108) rfl ((if0 _ _).trans (feq (by decide : ¬ ((1 : Int32) = (0 : Int32)))).2) (by decide) (by decide) ?_
      show Steps p.tables e below (T31.setTop (mkF m 116 #[.val (.int p1), .val (.int p2), .val (.int p3), .val (.int p4), .val (.int p5), .val (.int p6), .val (.ref b1), .val (.int (1 : Int32)), .val (.int p4), .val (.int p4), .val (.int p3), .val (.int p5), .val (.int p1), .unset, .unset, .unset] [])) _
      refine XS.iloadN X31.here hx rfl (hb hby at_116) rfl ?_
      show Steps p.tables e below (T31.setTop (mkF m 117 #[.val (.int p1), .val (.int p2), .val (.int p3), .val (.int p4), .val (.int p5), .val (.int p6), .val (.ref b1), .val (.int (1 : Int32)), .val (.int p4), .val (.int p4), .val (.int p3), .val (.int p5), .val (.int p1), .unset, .unset, .unset] [(.int p3)])) _
      refine XS.istore X31.here hx rfl (hb hby at_117) rfl (l' := #[.val (.int p1), .val (.int p2), .val (.int p3), .val (.int p4), .val (.int p5), .val (.int p6), .val (.ref b1), .val (.int (1 : Int32)), .val (.int p4), .val (.int p4), .val (.int p3), .val (.int p5), .val (.int p1), .val (.int p3), .unset, .unset]) rfl ?_
      show Steps p.tables e below (T31.setTop (mkF m 119 #[.val (.int p1), .val (.int p2), .val (.int p3), .val (.int p4), .val (.int p5), .val (.int p6), .val (.ref b1), .val (.int (1 : Int32)), .val (.int p4), .val (.int p4), .val (.int p3), .val (.int p5), .val (.int p1), .val (.int p3), .unset, .unset] [])) _
      refine XS.iload X31.here hx rfl (hb hby at_119) rfl ?_
      show Steps p.tables e below (T31.setTop (mkF m 121 #[.val (.int p1), .val (.int p2), .val (.int p3), .val (.int p4), .val (.int p5), .val (.int p6), .val (.ref b1), .val (.int (1 : Int32)), .val (.int p4), .val (.int p4), .val (.int p3), .val (.int p5), .val (.int p1), .val (.int p3), .unset, .unset] [(.int (1 : Int32))])) _
      refine XS.iconst X31.here hx rfl (hb hby at_121) ?_
      show Steps p.tables e below (T31.setTop (mkF m 122 #[.val (.int p1), .val (.int p2), .val (.int p3), .val (.int p4), .val (.int p5), .val (.int p6), .val (.ref b1), .val (.int (1 : Int32)), .val (.int p4), .val (.int p4), .val (.int p3), .val (.int p5), .val (.int p1), .val (.int p3), .unset, .unset] [(.int (1 : Int32)), (.int (1 : Int32))])) _
      refine XS.icmpNo X31.here hx rfl (hb hby at_122) rfl (teq (by decide : (1 : Int32) = (1 : Int32))).2 ?_
      show Steps p.tables e below (T31.setTop (mkF m 125 #[.val (.int p1), .val (.int p2), .val (.int p3), .val (.int p4), .val (.int p5), .val (.int p6), .val (.ref b1), .val (.int (1 : Int32)), .val (.int p4), .val (.int p4), .val (.int p3), .val (.int p5), .val (.int p1), .val (.int p3), .unset, .unset] [])) _
      refine XS.iload X31.here hx rfl (hb hby at_125) rfl ?_
      show Steps p.tables e below (T31.setTop (mkF m 127 #[.val (.int p1), .val (.int p2), .val (.int p3), .val (.int p4), .val (.int p5), .val (.int p6), .val (.ref b1), .val (.int (1 : Int32)), .val (.int p4), .val (.int p4), .val (.int p3), .val (.int p5), .val (.int p1), .val (.int p3), .unset, .unset] [(.int p5)])) _
      refine XS.goto X31.here hx rfl (pc0 := 127) (pc' := 131) rfl (hb hby at_127) (by decide) (by decide) ?_
      show Steps p.tables e below (T31.setTop (mkF m 131 #[.val (.int p1), .val (.int p2), .val (.int p3), .val (.int p4), .val (.int p5), .val (.int p6), .val (.ref b1), .val (.int (1 : Int32)), .val (.int p4), .val (.int p4), .val (.int p3), .val (.int p5), .val (.int p1), .val (.int p3), .unset, .unset] [(.int p5)])) _
      refine XS.istore X31.here hx rfl (hb hby at_131) rfl (l' := #[.val (.int p1), .val (.int p2), .val (.int p3), .val (.int p4), .val (.int p5), .val (.int p6), .val (.ref b1), .val (.int (1 : Int32)), .val (.int p4), .val (.int p4), .val (.int p3), .val (.int p5), .val (.int p1), .val (.int p3), .val (.int p5), .unset]) rfl ?_
      show Steps p.tables e below (T31.setTop (mkF m 133 #[.val (.int p1), .val (.int p2), .val (.int p3), .val (.int p4), .val (.int p5), .val (.int p6), .val (.ref b1), .val (.int (1 : Int32)), .val (.int p4), .val (.int p4), .val (.int p3), .val (.int p5), .val (.int p1), .val (.int p3), .val (.int p5), .unset] [])) _
      refine XS.iload X31.here hx rfl (hb hby at_133) rfl ?_
      show Steps p.tables e below (T31.setTop (mkF m 135 #[.val (.int p1), .val (.int p2), .val (.int p3), .val (.int p4), .val (.int p5), .val (.int p6), .val (.ref b1), .val (.int (1 : Int32)), .val (.int p4), .val (.int p4), .val (.int p3), .val (.int p5), .val (.int p1), .val (.int p3), .val (.int p5), .unset] [(.int (1 : Int32))])) _
      refine XS.iconst X31.here hx rfl (hb hby at_135) ?_
      show Steps p.tables e below (T31.setTop (mkF m 136 #[.val (.int p1), .val (.int p2), .val (.int p3), .val (.int p4), .val (.int p5), .val (.int p6), .val (.ref b1), .val (.int (1 : Int32)), .val (.int p4), .val (.int p4), .val (.int p3), .val (.int p5), .val (.int p1), .val (.int p3), .val (.int p5), .unset] [(.int (2 : Int32)), (.int (1 : Int32))])) _
      refine XS.icmpYes X31.here hx rfl (pc0 := 136) (pc' := 144) rfl (hb hby at_136) rfl (feq (by decide : ¬ ((1 : Int32) = (2 : Int32)))).2 (by decide) (by decide) ?_
      show Steps p.tables e below (T31.setTop (mkF m 144 #[.val (.int p1), .val (.int p2), .val (.int p3), .val (.int p4), .val (.int p5), .val (.int p6), .val (.ref b1), .val (.int (1 : Int32)), .val (.int p4), .val (.int p4), .val (.int p3), .val (.int p5), .val (.int p1), .val (.int p3), .val (.int p5), .unset] [])) _
      refine XS.iloadN X31.here hx rfl (hb hby at_144) rfl ?_
      show Steps p.tables e below (T31.setTop (mkF m 145 #[.val (.int p1), .val (.int p2), .val (.int p3), .val (.int p4), .val (.int p5), .val (.int p6), .val (.ref b1), .val (.int (1 : Int32)), .val (.int p4), .val (.int p4), .val (.int p3), .val (.int p5), .val (.int p1), .val (.int p3), .val (.int p5), .unset] [(.int p1)])) _
      refine XS.istore X31.here hx rfl (hb hby at_145) rfl (l' := #[.val (.int p1), .val (.int p2), .val (.int p3), .val (.int p4), .val (.int p5), .val (.int p6), .val (.ref b1), .val (.int (1 : Int32)), .val (.int p4), .val (.int p4), .val (.int p3), .val (.int p5), .val (.int p1), .val (.int p3), .val (.int p5), .val (.int p1)]) rfl ?_
      show Steps p.tables e below (T31.setTop (mkF m 147 #[.val (.int p1), .val (.int p2), .val (.int p3), .val (.int p4), .val (.int p5), .val (.int p6), .val (.ref b1), .val (.int (1 : Int32)), .val (.int p4), .val (.int p4), .val (.int p3), .val (.int p5), .val (.int p1), .val (.int p3), .val (.int p5), .val (.int p1)] [])) _
      refine XS.iload X31.here hx rfl (hb hby at_147) rfl ?_
      show Steps p.tables e below (T31.setTop (mkF m 149 #[.val (.int p1), .val (.int p2), .val (.int p3), .val (.int p4), .val (.int p5), .val (.int p6), .val (.ref b1), .val (.int (1 : Int32)), .val (.int p4), .val (.int p4), .val (.int p3), .val (.int p5), .val (.int p1), .val (.int p3), .val (.int p5), .val (.int p1)] [(.int p4)])) _
      refine XS.iload X31.here hx rfl (hb hby at_149) rfl ?_
      show Steps p.tables e below (T31.setTop (mkF m 151 #[.val (.int p1), .val (.int p2), .val (.int p3), .val (.int p4), .val (.int p5), .val (.int p6), .val (.ref b1), .val (.int (1 : Int32)), .val (.int p4), .val (.int p4), .val (.int p3), .val (.int p5), .val (.int p1), .val (.int p3), .val (.int p5), .val (.int p1)] [(.int p4), (.int p4)])) _
      refine XS.icmpNo X31.here hx rfl (hb hby at_151) rfl (teq (rfl : p4 = p4)).2 ?_
      show Steps p.tables e below (T31.setTop (mkF m 154 #[.val (.int p1), .val (.int p2), .val (.int p3), .val (.int p4), .val (.int p5), .val (.int p6), .val (.ref b1), .val (.int (1 : Int32)), .val (.int p4), .val (.int p4), .val (.int p3), .val (.int p5), .val (.int p1), .val (.int p3), .val (.int p5), .val (.int p1)] [])) _
      refine XS.iload X31.here hx rfl (hb hby at_154) rfl ?_
      show Steps p.tables e below (T31.setTop (mkF m 156 #[.val (.int p1), .val (.int p2), .val (.int p3), .val (.int p4), .val (.int p5), .val (.int p6), .val (.ref b1), .val (.int (1 : Int32)), .val (.int p4), .val (.int p4), .val (.int p3), .val (.int p5), .val (.int p1), .val (.int p3), .val (.int p5), .val (.int p1)] [(.int p3)])) _
      refine XS.iload X31.here hx rfl (hb hby at_156) rfl ?_
      show Steps p.tables e below (T31.setTop (mkF m 158 #[.val (.int p1), .val (.int p2), .val (.int p3), .val (.int p4), .val (.int p5), .val (.int p6), .val (.ref b1), .val (.int (1 : Int32)), .val (.int p4), .val (.int p4), .val (.int p3), .val (.int p5), .val (.int p1), .val (.int p3), .val (.int p5), .val (.int p1)] [(.int p3), (.int p3)])) _
      refine XS.icmpNo X31.here hx rfl (hb hby at_158) rfl (teq (rfl : p3 = p3)).2 ?_
      show Steps p.tables e below (T31.setTop (mkF m 161 #[.val (.int p1), .val (.int p2), .val (.int p3), .val (.int p4), .val (.int p5), .val (.int p6), .val (.ref b1), .val (.int (1 : Int32)), .val (.int p4), .val (.int p4), .val (.int p3), .val (.int p5), .val (.int p1), .val (.int p3), .val (.int p5), .val (.int p1)] [])) _
      refine XS.iload X31.here hx rfl (hb hby at_161) rfl ?_
      show Steps p.tables e below (T31.setTop (mkF m 163 #[.val (.int p1), .val (.int p2), .val (.int p3), .val (.int p4), .val (.int p5), .val (.int p6), .val (.ref b1), .val (.int (1 : Int32)), .val (.int p4), .val (.int p4), .val (.int p3), .val (.int p5), .val (.int p1), .val (.int p3), .val (.int p5), .val (.int p1)] [(.int p5)])) _
      refine XS.iload X31.here hx rfl (hb hby at_163) rfl ?_
      show Steps p.tables e below (T31.setTop (mkF m 165 #[.val (.int p1), .val (.int p2), .val (.int p3), .val (.int p4), .val (.int p5), .val (.int p6), .val (.ref b1), .val (.int (1 : Int32)), .val (.int p4), .val (.int p4), .val (.int p3), .val (.int p5), .val (.int p1), .val (.int p3), .val (.int p5), .val (.int p1)] [(.int p5), (.int p5)])) _
      refine XS.icmpNo X31.here hx rfl (hb hby at_165) rfl (teq (rfl : p5 = p5)).2 ?_
      show Steps p.tables e below (T31.setTop (mkF m 168 #[.val (.int p1), .val (.int p2), .val (.int p3), .val (.int p4), .val (.int p5), .val (.int p6), .val (.ref b1), .val (.int (1 : Int32)), .val (.int p4), .val (.int p4), .val (.int p3), .val (.int p5), .val (.int p1), .val (.int p3), .val (.int p5), .val (.int p1)] [])) _
      refine XS.iload X31.here hx rfl (hb hby at_168) rfl ?_
      show Steps p.tables e below (T31.setTop (mkF m 170 #[.val (.int p1), .val (.int p2), .val (.int p3), .val (.int p4), .val (.int p5), .val (.int p6), .val (.ref b1), .val (.int (1 : Int32)), .val (.int p4), .val (.int p4), .val (.int p3), .val (.int p5), .val (.int p1), .val (.int p3), .val (.int p5), .val (.int p1)] [(.int p1)])) _
      refine XS.iload X31.here hx rfl (hb hby at_170) rfl ?_
      show Steps p.tables e below (T31.setTop (mkF m 172 #[.val (.int p1), .val (.int p2), .val (.int p3), .val (.int p4), .val (.int p5), .val (.int p6), .val (.ref b1), .val (.int (1 : Int32)), .val (.int p4), .val (.int p4), .val (.int p3), .val (.int p5), .val (.int p1), .val (.int p3), .val (.int p5), .val (.int p1)] [(.int p1), (.int p1)])) _
      refine XS.icmpNo X31.here hx rfl (hb hby at_172) rfl (teq (rfl : p1 = p1)).2 ?_
      show Steps p.tables e below (T31.setTop (mkF m 175 #[.val (.int p1), .val (.int p2), .val (.int p3), .val (.int p4), .val (.int p5), .val (.int p6), .val (.ref b1), .val (.int (1 : Int32)), .val (.int p4), .val (.int p4), .val (.int p3), .val (.int p5), .val (.int p1), .val (.int p3), .val (.int p5), .val (.int p1)] [])) _
      refine XS.iconst X31.here hx rfl (hb hby at_175) ?_
      show Steps p.tables e below (T31.setTop (mkF m 176 #[.val (.int p1), .val (.int p2), .val (.int p3), .val (.int p4), .val (.int p5), .val (.int p6), .val (.ref b1), .val (.int (1 : Int32)), .val (.int p4), .val (.int p4), .val (.int p3), .val (.int p5), .val (.int p1), .val (.int p3), .val (.int p5), .val (.int p1)] [(.int (1 : Int32))])) _
      refine XS.goto X31.here hx rfl (pc0 := 176) (pc' := 180) rfl (hb hby at_176) (by decide) (by decide) ?_
      show Steps p.tables e below (T31.setTop (mkF m 180 #[.val (.int p1), .val (.int p2), .val (.int p3), .val (.int p4), .val (.int p5), .val (.int p6), .val (.ref b1), .val (.int (1 : Int32)), .val (.int p4), .val (.int p4), .val (.int p3), .val (.int p5), .val (.int p1), .val (.int p3), .val (.int p5), .val (.int p1)] [(.int (1 : Int32))])) _
      exact retN X31 hx (t := .boolean) Bd.returns (by simp) (hb hby at_180) hr
    · exact ⟨rfl, N31⟩
  · have pre11 := pre10
    rw [g11] at pre11
    rw [if_neg (by rw [g11]; decide : ¬ ((v_k p6) = (0 : Int32)))] at hp
    rw [if_neg (by rw [g11]; decide : ¬ ((v_k p6) = (1 : Int32)))] at hp
    have O33 := (O9.keep K8 (allS g_b1 (allS g_c4 all0)))
    obtain ⟨cq32, kq32, q32a, q32b, q32c⟩ := isOf hZ rfl f8_0
    obtain ⟨_, _, ⟨T32, L32, k32, n32⟩, -, X32, ⟨Lc32, hQ32, l32, y32, z32⟩, st32⟩ := X8.virtualBack hx (y := (⟨"com/example/keysmith/keysmith/TripleBuffer", "object", "(I)I"⟩ : MethodName)) (z := (⟨"com/example/keysmith/keysmith/TripleBuffer", "object", "(I)I"⟩ : MethodName)) hown (mvT hZ (hw _ (List.mem_of_getElem? (i := 25) rfl))) (mvT hZ (hw _ (List.mem_of_getElem? (i := 26) rfl))) (notFace_of_selects (args := #[]) (mvT hZ (hw _ (List.mem_of_getElem? (i := 28) rfl)))) (mvT hZ (hw _ (List.mem_of_getElem? (i := 28) rfl))) (mvT hZ (hw _ (List.mem_of_getElem? (i := 27) rfl))) (by decide) (backOf (W := 0) (rm_object2 l Z a0 hw [] b1 c2 kc2 c4 kc4 p1 p2 p3 p2 p3 p4 p3 p4 p1 T8.heap n0 (own_z0 O33) O33 f8_1 f8_3 f8_5) hZ (hw _ (List.mem_of_getElem? (i := 29) rfl)) (hw _ (List.mem_of_getElem? (i := 2) rfl)) (by decide) (by decide)) q32a q32c (g := (mkF m 46 #[.val (.int p1), .val (.int p2), .val (.int p3), .val (.int p4), .val (.int p5), .val (.int p6), .val (.ref b1), .val (.int (2 : Int32)), .unset, .unset, .unset, .unset, .unset, .unset, .unset, .unset] [(.int (2 : Int32)), (.ref b1)])) rfl (by rw [hml]; rfl) (Steps.refl _) (argsL := [(.int (2 : Int32))]) (rest := []) (lenOf pd__I_I_4 rfl) rfl (by show 2 * 0 + _ ≤ _; exact Nat.le_of_eq rfl) (hb hby at_46) (fun _ _ => ⟨rfl, rfl, (by decide : 3 + 0 ≤ _), (by decide : 196626 + 0 ≤ _)⟩)
    dsimp only [Pt.U, Pt.locs, Pt.cells, Pt.slots] at X32 l32 y32 z32 st32 hQ32
    subst l32 y32 z32
    obtain ⟨rfl, N32q, e32⟩ := hQ32
    have N32 := Fr.app N8 N32q
    obtain ⟨cq34, kq34, q34a, q34b, q34c⟩ := isOf hZ e32 f8_0
    obtain ⟨_, _, ⟨T34, L34, k34, n34⟩, -, X34, ⟨Lc34, hQ34, l34, y34, z34⟩, st34⟩ := X32.virtualBack hx (y := (⟨"com/example/keysmith/keysmith/TripleBuffer", "setObject", "(II)V"⟩ : MethodName)) (z := (⟨"com/example/keysmith/keysmith/TripleBuffer", "setObject", "(II)V"⟩ : MethodName)) hown (mvT hZ (hw _ (List.mem_of_getElem? (i := 30) rfl))) (mvT hZ (hw _ (List.mem_of_getElem? (i := 31) rfl))) (notFace_of_selects (args := #[]) (mvT hZ (hw _ (List.mem_of_getElem? (i := 33) rfl)))) (mvT hZ (hw _ (List.mem_of_getElem? (i := 33) rfl))) (mvT hZ (hw _ (List.mem_of_getElem? (i := 32) rfl))) (by decide) (backOf (W := 0) (rm_set2 l Z a0 hw [] b1 p5 c2 kc2 c4 kc4 p1 p2 p3 p2 p3 p4 p3 p4 p1 T8.heap n0 (own_z0 O33) O33 f8_1 f8_3 f8_5 g_c4) hZ (hw _ (List.mem_of_getElem? (i := 34) rfl)) (hw _ (List.mem_of_getElem? (i := 2) rfl)) (by decide) (by decide)) q34a q34c (g := (mkF m 79 #[.val (.int p1), .val (.int p2), .val (.int p3), .val (.int p4), .val (.int p5), .val (.int p6), .val (.ref b1), .val (.int (2 : Int32)), .val (.int p1), .val (.int p1), .unset, .unset, .unset, .unset, .unset, .unset] [(.int p5), (.int (2 : Int32)), (.ref b1)])) rfl (by rw [hml]; rfl) (Steps.refl _) (argsL := [(.int (2 : Int32)), (.int p5)]) (rest := []) (lenOf pd__II_V_5 rfl) rfl (by show 2 * 0 + _ ≤ _; exact Nat.le_of_eq rfl) (hb hby at_79) (fun _ _ => ⟨rfl, e32, (by decide : 3 + 0 ≤ _), (by decide : 196626 + 0 ≤ _)⟩)
    dsimp only [Pt.U, Pt.locs, Pt.cells, Pt.slots] at X34 l34 y34 z34 st34 hQ34
    subst l34 y34 z34
    obtain ⟨rfl, N34q, K34, f34_0⟩ := hQ34
    have N34 := Fr.app N32 N34q
    have F36 := (f8_1.keep K34 (ninS ne_b1_c4 nin0))
    have F37 := (f8_3.keep K34 (ninS ne_c2_c4 nin0))
    have O38 := (O33.keep K34 (allS g_c4 all0))
    have F39 := (f8_0.keep K34)
    obtain ⟨cq35, kq35, q35a, q35b, q35c⟩ := isOf hZ rfl F39
    obtain ⟨_, _, ⟨T35, L35, k35, n35⟩, -, X35, ⟨Lc35, hQ35, l35, y35, z35⟩, st35⟩ := X34.virtualBack hx (y := (⟨"com/example/keysmith/keysmith/TripleBuffer", "object", "(I)I"⟩ : MethodName)) (z := (⟨"com/example/keysmith/keysmith/TripleBuffer", "object", "(I)I"⟩ : MethodName)) hown (mvT hZ (hw _ (List.mem_of_getElem? (i := 25) rfl))) (mvT hZ (hw _ (List.mem_of_getElem? (i := 26) rfl))) (notFace_of_selects (args := #[]) (mvT hZ (hw _ (List.mem_of_getElem? (i := 28) rfl)))) (mvT hZ (hw _ (List.mem_of_getElem? (i := 28) rfl))) (mvT hZ (hw _ (List.mem_of_getElem? (i := 27) rfl))) (by decide) (backOf (W := 0) (rm_object0 l Z a0 hw [] b1 c2 kc2 c4 kc4 p1 p2 p3 p2 p3 p4 p3 p4 p5 T34.heap n0 (own_z0 O38) O38 F36 F37 f34_0) hZ (hw _ (List.mem_of_getElem? (i := 29) rfl)) (hw _ (List.mem_of_getElem? (i := 2) rfl)) (by decide) (by decide)) q35a q35c (g := (mkF m 85 #[.val (.int p1), .val (.int p2), .val (.int p3), .val (.int p4), .val (.int p5), .val (.int p6), .val (.ref b1), .val (.int (2 : Int32)), .val (.int p1), .val (.int p1), .unset, .unset, .unset, .unset, .unset, .unset] [(.int (0 : Int32)), (.ref b1)])) rfl (by rw [hml]; rfl) (Steps.refl _) (argsL := [(.int (0 : Int32))]) (rest := []) (lenOf pd__I_I_4 rfl) rfl (by show 2 * 0 + _ ≤ _; exact Nat.le_of_eq rfl) (hb hby at_85) (fun _ _ => ⟨rfl, rfl, (by decide : 3 + 0 ≤ _), (by decide : 196626 + 0 ≤ _)⟩)
    dsimp only [Pt.U, Pt.locs, Pt.cells, Pt.slots] at X35 l35 y35 z35 st35 hQ35
    subst l35 y35 z35
    obtain ⟨rfl, N35q, e35⟩ := hQ35
    have N35 := Fr.app N34 N35q
    obtain ⟨cq40, kq40, q40a, q40b, q40c⟩ := isOf hZ e35 F39
    obtain ⟨_, _, ⟨T40, L40, k40, n40⟩, -, X40, ⟨Lc40, hQ40, l40, y40, z40⟩, st40⟩ := X35.virtualBack hx (y := (⟨"com/example/keysmith/keysmith/TripleBuffer", "object", "(I)I"⟩ : MethodName)) (z := (⟨"com/example/keysmith/keysmith/TripleBuffer", "object", "(I)I"⟩ : MethodName)) hown (mvT hZ (hw _ (List.mem_of_getElem? (i := 25) rfl))) (mvT hZ (hw _ (List.mem_of_getElem? (i := 26) rfl))) (notFace_of_selects (args := #[]) (mvT hZ (hw _ (List.mem_of_getElem? (i := 28) rfl)))) (mvT hZ (hw _ (List.mem_of_getElem? (i := 28) rfl))) (mvT hZ (hw _ (List.mem_of_getElem? (i := 27) rfl))) (by decide) (backOf (W := 0) (rm_object1 l Z a0 hw [] b1 c2 kc2 c4 kc4 p1 p2 p3 p2 p3 p4 p3 p4 p5 T34.heap n0 (own_z0 O38) O38 F36 F37 f34_0) hZ (hw _ (List.mem_of_getElem? (i := 29) rfl)) (hw _ (List.mem_of_getElem? (i := 2) rfl)) (by decide) (by decide)) q40a q40c (g := (mkF m 93 #[.val (.int p1), .val (.int p2), .val (.int p3), .val (.int p4), .val (.int p5), .val (.int p6), .val (.ref b1), .val (.int (2 : Int32)), .val (.int p1), .val (.int p1), .val (.int p3), .unset, .unset, .unset, .unset, .unset] [(.int (1 : Int32)), (.ref b1)])) rfl (by rw [hml]; rfl) (Steps.refl _) (argsL := [(.int (1 : Int32))]) (rest := []) (lenOf pd__I_I_4 rfl) rfl (by show 2 * 0 + _ ≤ _; exact Nat.le_of_eq rfl) (hb hby at_93) (fun _ _ => ⟨rfl, e35, (by decide : 3 + 0 ≤ _), (by decide : 196626 + 0 ≤ _)⟩)
    dsimp only [Pt.U, Pt.locs, Pt.cells, Pt.slots] at X40 l40 y40 z40 st40 hQ40
    subst l40 y40 z40
    obtain ⟨rfl, N40q, e40⟩ := hQ40
    have N40 := Fr.app N35 N40q
    obtain ⟨cq41, kq41, q41a, q41b, q41c⟩ := isOf hZ e40 F39
    obtain ⟨_, _, ⟨T41, L41, k41, n41⟩, -, X41, ⟨Lc41, hQ41, l41, y41, z41⟩, st41⟩ := X40.virtualBack hx (y := (⟨"com/example/keysmith/keysmith/TripleBuffer", "object", "(I)I"⟩ : MethodName)) (z := (⟨"com/example/keysmith/keysmith/TripleBuffer", "object", "(I)I"⟩ : MethodName)) hown (mvT hZ (hw _ (List.mem_of_getElem? (i := 25) rfl))) (mvT hZ (hw _ (List.mem_of_getElem? (i := 26) rfl))) (notFace_of_selects (args := #[]) (mvT hZ (hw _ (List.mem_of_getElem? (i := 28) rfl)))) (mvT hZ (hw _ (List.mem_of_getElem? (i := 28) rfl))) (mvT hZ (hw _ (List.mem_of_getElem? (i := 27) rfl))) (by decide) (backOf (W := 0) (rm_object2 l Z a0 hw [] b1 c2 kc2 c4 kc4 p1 p2 p3 p2 p3 p4 p3 p4 p5 T34.heap n0 (own_z0 O38) O38 F36 F37 f34_0) hZ (hw _ (List.mem_of_getElem? (i := 29) rfl)) (hw _ (List.mem_of_getElem? (i := 2) rfl)) (by decide) (by decide)) q41a q41c (g := (mkF m 101 #[.val (.int p1), .val (.int p2), .val (.int p3), .val (.int p4), .val (.int p5), .val (.int p6), .val (.ref b1), .val (.int (2 : Int32)), .val (.int p1), .val (.int p1), .val (.int p3), .val (.int p4), .unset, .unset, .unset, .unset] [(.int (2 : Int32)), (.ref b1)])) rfl (by rw [hml]; rfl) (Steps.refl _) (argsL := [(.int (2 : Int32))]) (rest := []) (lenOf pd__I_I_4 rfl) rfl (by show 2 * 0 + _ ≤ _; exact Nat.le_of_eq rfl) (hb hby at_101) (fun _ _ => ⟨rfl, e40, (by decide : 3 + 0 ≤ _), (by decide : 196626 + 0 ≤ _)⟩)
    dsimp only [Pt.U, Pt.locs, Pt.cells, Pt.slots] at X41 l41 y41 z41 st41 hQ41
    subst l41 y41 z41
    obtain ⟨rfl, N41q, e41⟩ := hQ41
    have N41 := Fr.app N40 N41q
    obtain ⟨fs, hr, hrun, hended, hW, hsame⟩ := X41.leave (v := some (.int (1 : Int32))) (fun h => by rw [Bd.returns] at h; cases h)
    refine ⟨_, _, pre11 _ ?_, hrun, hended, _, _, rfl, ?_, ⟨_, rfl⟩, hW, hsame.mono (by decide) (by decide)⟩
    · show Steps p.tables e below (T8.setTop (mkF m 42 #[.val (.int p1), .val (.int p2), .val (.int p3), .val (.int p4), .val (.int p5), .val (.int p6), .val (.ref b1), .val (.int (2 : Int32)), .unset, .unset, .unset, .unset, .unset, .unset, .unset, .unset] [])) _
      refine XS.aload X8.here hx rfl (hb hby at_42) rfl rfl ?_
      show Steps p.tables e below (T8.setTop (mkF m 44 #[.val (.int p1), .val (.int p2), .val (.int p3), .val (.int p4), .val (.int p5), .val (.int p6), .val (.ref b1), .val (.int (2 : Int32)), .unset, .unset, .unset, .unset, .unset, .unset, .unset, .unset] [(.ref b1)])) _
      refine XS.iload X8.here hx rfl (hb hby at_44) rfl ?_
      show Steps p.tables e below (T8.setTop (mkF m 46 #[.val (.int p1), .val (.int p2), .val (.int p3), .val (.int p4), .val (.int p5), .val (.int p6), .val (.ref b1), .val (.int (2 : Int32)), .unset, .unset, .unset, .unset, .unset, .unset, .unset, .unset] [(.int (2 : Int32)), (.ref b1)])) _
      refine st32.trans ?_
      show Steps p.tables e below (T32.setTop (mkF m 49 #[.val (.int p1), .val (.int p2), .val (.int p3), .val (.int p4), .val (.int p5), .val (.int p6), .val (.ref b1), .val (.int (2 : Int32)), .unset, .unset, .unset, .unset, .unset, .unset, .unset, .unset] [(.int p1)])) _
      refine XS.istore X32.here hx rfl (hb hby at_49) rfl (l' := #[.val (.int p1), .val (.int p2), .val (.int p3), .val (.int p4), .val (.int p5), .val (.int p6), .val (.ref b1), .val (.int (2 : Int32)), .val (.int p1), .unset, .unset, .unset, .unset, .unset, .unset, .unset]) rfl ?_
      show Steps p.tables e below (T32.setTop (mkF m 51 #[.val (.int p1), .val (.int p2), .val (.int p3), .val (.int p4), .val (.int p5), .val (.int p6), .val (.ref b1), .val (.int (2 : Int32)), .val (.int p1), .unset, .unset, .unset, .unset, .unset, .unset, .unset] [])) _
      refine XS.iload X32.here hx rfl (hb hby at_51) rfl ?_
      show Steps p.tables e below (T32.setTop (mkF m 53 #[.val (.int p1), .val (.int p2), .val (.int p3), .val (.int p4), .val (.int p5), .val (.int p6), .val (.ref b1), .val (.int (2 : Int32)), .val (.int p1), .unset, .unset, .unset, .unset, .unset, .unset, .unset] [(.int (2 : Int32))])) _
      refine XS.ifYes X32.here hx rfl (pc0 := 53) (pc' := 60) rfl (hb hby at_53) rfl ((if0 _ _).trans (feq (by decide : ¬ ((2 : Int32) = (0 : Int32)))).2) (by decide) (by decide) ?_
      show Steps p.tables e below (T32.setTop (mkF m 60 #[.val (.int p1), .val (.int p2), .val (.int p3), .val (.int p4), .val (.int p5), .val (.int p6), .val (.ref b1), .val (.int (2 : Int32)), .val (.int p1), .unset, .unset, .unset, .unset, .unset, .unset, .unset] [])) _
      refine XS.iload X32.here hx rfl (hb hby at_60) rfl ?_
      show Steps p.tables e below (T32.setTop (mkF m 62 #[.val (.int p1), .val (.int p2), .val (.int p3), .val (.int p4), .val (.int p5), .val (.int p6), .val (.ref b1), .val (.int (2 : Int32)), .val (.int p1), .unset, .unset, .unset, .unset, .unset, .unset, .unset] [(.int (2 : Int32))])) _
      refine XS.iconst X32.here hx rfl (hb hby at_62) ?_
      show Steps p.tables e below (T32.setTop (mkF m 63 #[.val (.int p1), .val (.int p2), .val (.int p3), .val (.int p4), .val (.int p5), .val (.int p6), .val (.ref b1), .val (.int (2 : Int32)), .val (.int p1), .unset, .unset, .unset, .unset, .unset, .unset, .unset] [(.int (1 : Int32)), (.int (2 : Int32))])) _
      refine XS.icmpYes X32.here hx rfl (pc0 := 63) (pc' := 70) rfl (hb hby at_63) rfl (feq (by decide : ¬ ((2 : Int32) = (1 : Int32)))).2 (by decide) (by decide) ?_
      show Steps p.tables e below (T32.setTop (mkF m 70 #[.val (.int p1), .val (.int p2), .val (.int p3), .val (.int p4), .val (.int p5), .val (.int p6), .val (.ref b1), .val (.int (2 : Int32)), .val (.int p1), .unset, .unset, .unset, .unset, .unset, .unset, .unset] [])) _
      refine XS.iloadN X32.here hx rfl (hb hby at_70) rfl ?_
      show Steps p.tables e below (T32.setTop (mkF m 71 #[.val (.int p1), .val (.int p2), .val (.int p3), .val (.int p4), .val (.int p5), .val (.int p6), .val (.ref b1), .val (.int (2 : Int32)), .val (.int p1), .unset, .unset, .unset, .unset, .unset, .unset, .unset] [(.int p1)])) _
      refine XS.istore X32.here hx rfl (hb hby at_71) rfl (l' := #[.val (.int p1), .val (.int p2), .val (.int p3), .val (.int p4), .val (.int p5), .val (.int p6), .val (.ref b1), .val (.int (2 : Int32)), .val (.int p1), .val (.int p1), .unset, .unset, .unset, .unset, .unset, .unset]) rfl ?_
      show Steps p.tables e below (T32.setTop (mkF m 73 #[.val (.int p1), .val (.int p2), .val (.int p3), .val (.int p4), .val (.int p5), .val (.int p6), .val (.ref b1), .val (.int (2 : Int32)), .val (.int p1), .val (.int p1), .unset, .unset, .unset, .unset, .unset, .unset] [])) _
      refine XS.aload X32.here hx rfl (hb hby at_73) rfl rfl ?_
      show Steps p.tables e below (T32.setTop (mkF m 75 #[.val (.int p1), .val (.int p2), .val (.int p3), .val (.int p4), .val (.int p5), .val (.int p6), .val (.ref b1), .val (.int (2 : Int32)), .val (.int p1), .val (.int p1), .unset, .unset, .unset, .unset, .unset, .unset] [(.ref b1)])) _
      refine XS.iload X32.here hx rfl (hb hby at_75) rfl ?_
      show Steps p.tables e below (T32.setTop (mkF m 77 #[.val (.int p1), .val (.int p2), .val (.int p3), .val (.int p4), .val (.int p5), .val (.int p6), .val (.ref b1), .val (.int (2 : Int32)), .val (.int p1), .val (.int p1), .unset, .unset, .unset, .unset, .unset, .unset] [(.int (2 : Int32)), (.ref b1)])) _
      refine XS.iload X32.here hx rfl (hb hby at_77) rfl ?_
      show Steps p.tables e below (T32.setTop (mkF m 79 #[.val (.int p1), .val (.int p2), .val (.int p3), .val (.int p4), .val (.int p5), .val (.int p6), .val (.ref b1), .val (.int (2 : Int32)), .val (.int p1), .val (.int p1), .unset, .unset, .unset, .unset, .unset, .unset] [(.int p5), (.int (2 : Int32)), (.ref b1)])) _
      refine st34.trans ?_
      show Steps p.tables e below (T34.setTop (mkF m 82 #[.val (.int p1), .val (.int p2), .val (.int p3), .val (.int p4), .val (.int p5), .val (.int p6), .val (.ref b1), .val (.int (2 : Int32)), .val (.int p1), .val (.int p1), .unset, .unset, .unset, .unset, .unset, .unset] [])) _
      refine XS.aload X34.here hx rfl (hb hby at_82) rfl rfl ?_
      show Steps p.tables e below (T34.setTop (mkF m 84 #[.val (.int p1), .val (.int p2), .val (.int p3), .val (.int p4), .val (.int p5), .val (.int p6), .val (.ref b1), .val (.int (2 : Int32)), .val (.int p1), .val (.int p1), .unset, .unset, .unset, .unset, .unset, .unset] [(.ref b1)])) _
      refine XS.iconst X34.here hx rfl (hb hby at_84) ?_
      show Steps p.tables e below (T34.setTop (mkF m 85 #[.val (.int p1), .val (.int p2), .val (.int p3), .val (.int p4), .val (.int p5), .val (.int p6), .val (.ref b1), .val (.int (2 : Int32)), .val (.int p1), .val (.int p1), .unset, .unset, .unset, .unset, .unset, .unset] [(.int (0 : Int32)), (.ref b1)])) _
      refine st35.trans ?_
      show Steps p.tables e below (T35.setTop (mkF m 88 #[.val (.int p1), .val (.int p2), .val (.int p3), .val (.int p4), .val (.int p5), .val (.int p6), .val (.ref b1), .val (.int (2 : Int32)), .val (.int p1), .val (.int p1), .unset, .unset, .unset, .unset, .unset, .unset] [(.int p3)])) _
      refine XS.istore X35.here hx rfl (hb hby at_88) rfl (l' := #[.val (.int p1), .val (.int p2), .val (.int p3), .val (.int p4), .val (.int p5), .val (.int p6), .val (.ref b1), .val (.int (2 : Int32)), .val (.int p1), .val (.int p1), .val (.int p3), .unset, .unset, .unset, .unset, .unset]) rfl ?_
      show Steps p.tables e below (T35.setTop (mkF m 90 #[.val (.int p1), .val (.int p2), .val (.int p3), .val (.int p4), .val (.int p5), .val (.int p6), .val (.ref b1), .val (.int (2 : Int32)), .val (.int p1), .val (.int p1), .val (.int p3), .unset, .unset, .unset, .unset, .unset] [])) _
      refine XS.aload X35.here hx rfl (hb hby at_90) rfl rfl ?_
      show Steps p.tables e below (T35.setTop (mkF m 92 #[.val (.int p1), .val (.int p2), .val (.int p3), .val (.int p4), .val (.int p5), .val (.int p6), .val (.ref b1), .val (.int (2 : Int32)), .val (.int p1), .val (.int p1), .val (.int p3), .unset, .unset, .unset, .unset, .unset] [(.ref b1)])) _
      refine XS.iconst X35.here hx rfl (hb hby at_92) ?_
      show Steps p.tables e below (T35.setTop (mkF m 93 #[.val (.int p1), .val (.int p2), .val (.int p3), .val (.int p4), .val (.int p5), .val (.int p6), .val (.ref b1), .val (.int (2 : Int32)), .val (.int p1), .val (.int p1), .val (.int p3), .unset, .unset, .unset, .unset, .unset] [(.int (1 : Int32)), (.ref b1)])) _
      refine st40.trans ?_
      show Steps p.tables e below (T40.setTop (mkF m 96 #[.val (.int p1), .val (.int p2), .val (.int p3), .val (.int p4), .val (.int p5), .val (.int p6), .val (.ref b1), .val (.int (2 : Int32)), .val (.int p1), .val (.int p1), .val (.int p3), .unset, .unset, .unset, .unset, .unset] [(.int p4)])) _
      refine XS.istore X40.here hx rfl (hb hby at_96) rfl (l' := #[.val (.int p1), .val (.int p2), .val (.int p3), .val (.int p4), .val (.int p5), .val (.int p6), .val (.ref b1), .val (.int (2 : Int32)), .val (.int p1), .val (.int p1), .val (.int p3), .val (.int p4), .unset, .unset, .unset, .unset]) rfl ?_
      show Steps p.tables e below (T40.setTop (mkF m 98 #[.val (.int p1), .val (.int p2), .val (.int p3), .val (.int p4), .val (.int p5), .val (.int p6), .val (.ref b1), .val (.int (2 : Int32)), .val (.int p1), .val (.int p1), .val (.int p3), .val (.int p4), .unset, .unset, .unset, .unset] [])) _
      refine XS.aload X40.here hx rfl (hb hby at_98) rfl rfl ?_
      show Steps p.tables e below (T40.setTop (mkF m 100 #[.val (.int p1), .val (.int p2), .val (.int p3), .val (.int p4), .val (.int p5), .val (.int p6), .val (.ref b1), .val (.int (2 : Int32)), .val (.int p1), .val (.int p1), .val (.int p3), .val (.int p4), .unset, .unset, .unset, .unset] [(.ref b1)])) _
      refine XS.iconst X40.here hx rfl (hb hby at_100) ?_
      show Steps p.tables e below (T40.setTop (mkF m 101 #[.val (.int p1), .val (.int p2), .val (.int p3), .val (.int p4), .val (.int p5), .val (.int p6), .val (.ref b1), .val (.int (2 : Int32)), .val (.int p1), .val (.int p1), .val (.int p3), .val (.int p4), .unset, .unset, .unset, .unset] [(.int (2 : Int32)), (.ref b1)])) _
      refine st41.trans ?_
      show Steps p.tables e below (T41.setTop (mkF m 104 #[.val (.int p1), .val (.int p2), .val (.int p3), .val (.int p4), .val (.int p5), .val (.int p6), .val (.ref b1), .val (.int (2 : Int32)), .val (.int p1), .val (.int p1), .val (.int p3), .val (.int p4), .unset, .unset, .unset, .unset] [(.int p5)])) _
      refine XS.istore X41.here hx rfl (hb hby at_104) rfl (l' := #[.val (.int p1), .val (.int p2), .val (.int p3), .val (.int p4), .val (.int p5), .val (.int p6), .val (.ref b1), .val (.int (2 : Int32)), .val (.int p1), .val (.int p1), .val (.int p3), .val (.int p4), .val (.int p5), .unset, .unset, .unset]) rfl ?_
      show Steps p.tables e below (T41.setTop (mkF m 106 #[.val (.int p1), .val (.int p2), .val (.int p3), .val (.int p4), .val (.int p5), .val (.int p6), .val (.ref b1), .val (.int (2 : Int32)), .val (.int p1), .val (.int p1), .val (.int p3), .val (.int p4), .val (.int p5), .unset, .unset, .unset] [])) _
      refine XS.iload X41.here hx rfl (hb hby at_106) rfl ?_
      show Steps p.tables e below (T41.setTop (mkF m 108 #[.val (.int p1), .val (.int p2), .val (.int p3), .val (.int p4), .val (.int p5), .val (.int p6), .val (.ref b1), .val (.int (2 : Int32)), .val (.int p1), .val (.int p1), .val (.int p3), .val (.int p4), .val (.int p5), .unset, .unset, .unset] [(.int (2 : Int32))])) _
      refine XS.ifYes X41.here hx rfl (pc0 := 108) (pc' := 116) rfl (hb hby at_108) rfl ((if0 _ _).trans (feq (by decide : ¬ ((2 : Int32) = (0 : Int32)))).2) (by decide) (by decide) ?_
      show Steps p.tables e below (T41.setTop (mkF m 116 #[.val (.int p1), .val (.int p2), .val (.int p3), .val (.int p4), .val (.int p5), .val (.int p6), .val (.ref b1), .val (.int (2 : Int32)), .val (.int p1), .val (.int p1), .val (.int p3), .val (.int p4), .val (.int p5), .unset, .unset, .unset] [])) _
      refine XS.iloadN X41.here hx rfl (hb hby at_116) rfl ?_
      show Steps p.tables e below (T41.setTop (mkF m 117 #[.val (.int p1), .val (.int p2), .val (.int p3), .val (.int p4), .val (.int p5), .val (.int p6), .val (.ref b1), .val (.int (2 : Int32)), .val (.int p1), .val (.int p1), .val (.int p3), .val (.int p4), .val (.int p5), .unset, .unset, .unset] [(.int p3)])) _
      refine XS.istore X41.here hx rfl (hb hby at_117) rfl (l' := #[.val (.int p1), .val (.int p2), .val (.int p3), .val (.int p4), .val (.int p5), .val (.int p6), .val (.ref b1), .val (.int (2 : Int32)), .val (.int p1), .val (.int p1), .val (.int p3), .val (.int p4), .val (.int p5), .val (.int p3), .unset, .unset]) rfl ?_
      show Steps p.tables e below (T41.setTop (mkF m 119 #[.val (.int p1), .val (.int p2), .val (.int p3), .val (.int p4), .val (.int p5), .val (.int p6), .val (.ref b1), .val (.int (2 : Int32)), .val (.int p1), .val (.int p1), .val (.int p3), .val (.int p4), .val (.int p5), .val (.int p3), .unset, .unset] [])) _
      refine XS.iload X41.here hx rfl (hb hby at_119) rfl ?_
      show Steps p.tables e below (T41.setTop (mkF m 121 #[.val (.int p1), .val (.int p2), .val (.int p3), .val (.int p4), .val (.int p5), .val (.int p6), .val (.ref b1), .val (.int (2 : Int32)), .val (.int p1), .val (.int p1), .val (.int p3), .val (.int p4), .val (.int p5), .val (.int p3), .unset, .unset] [(.int (2 : Int32))])) _
      refine XS.iconst X41.here hx rfl (hb hby at_121) ?_
      show Steps p.tables e below (T41.setTop (mkF m 122 #[.val (.int p1), .val (.int p2), .val (.int p3), .val (.int p4), .val (.int p5), .val (.int p6), .val (.ref b1), .val (.int (2 : Int32)), .val (.int p1), .val (.int p1), .val (.int p3), .val (.int p4), .val (.int p5), .val (.int p3), .unset, .unset] [(.int (1 : Int32)), (.int (2 : Int32))])) _
      refine XS.icmpYes X41.here hx rfl (pc0 := 122) (pc' := 130) rfl (hb hby at_122) rfl (feq (by decide : ¬ ((2 : Int32) = (1 : Int32)))).2 (by decide) (by decide) ?_
      show Steps p.tables e below (T41.setTop (mkF m 130 #[.val (.int p1), .val (.int p2), .val (.int p3), .val (.int p4), .val (.int p5), .val (.int p6), .val (.ref b1), .val (.int (2 : Int32)), .val (.int p1), .val (.int p1), .val (.int p3), .val (.int p4), .val (.int p5), .val (.int p3), .unset, .unset] [])) _
      refine XS.iloadN X41.here hx rfl (hb hby at_130) rfl ?_
      show Steps p.tables e below (T41.setTop (mkF m 131 #[.val (.int p1), .val (.int p2), .val (.int p3), .val (.int p4), .val (.int p5), .val (.int p6), .val (.ref b1), .val (.int (2 : Int32)), .val (.int p1), .val (.int p1), .val (.int p3), .val (.int p4), .val (.int p5), .val (.int p3), .unset, .unset] [(.int p4)])) _
      refine XS.istore X41.here hx rfl (hb hby at_131) rfl (l' := #[.val (.int p1), .val (.int p2), .val (.int p3), .val (.int p4), .val (.int p5), .val (.int p6), .val (.ref b1), .val (.int (2 : Int32)), .val (.int p1), .val (.int p1), .val (.int p3), .val (.int p4), .val (.int p5), .val (.int p3), .val (.int p4), .unset]) rfl ?_
      show Steps p.tables e below (T41.setTop (mkF m 133 #[.val (.int p1), .val (.int p2), .val (.int p3), .val (.int p4), .val (.int p5), .val (.int p6), .val (.ref b1), .val (.int (2 : Int32)), .val (.int p1), .val (.int p1), .val (.int p3), .val (.int p4), .val (.int p5), .val (.int p3), .val (.int p4), .unset] [])) _
      refine XS.iload X41.here hx rfl (hb hby at_133) rfl ?_
      show Steps p.tables e below (T41.setTop (mkF m 135 #[.val (.int p1), .val (.int p2), .val (.int p3), .val (.int p4), .val (.int p5), .val (.int p6), .val (.ref b1), .val (.int (2 : Int32)), .val (.int p1), .val (.int p1), .val (.int p3), .val (.int p4), .val (.int p5), .val (.int p3), .val (.int p4), .unset] [(.int (2 : Int32))])) _
      refine XS.iconst X41.here hx rfl (hb hby at_135) ?_
      show Steps p.tables e below (T41.setTop (mkF m 136 #[.val (.int p1), .val (.int p2), .val (.int p3), .val (.int p4), .val (.int p5), .val (.int p6), .val (.ref b1), .val (.int (2 : Int32)), .val (.int p1), .val (.int p1), .val (.int p3), .val (.int p4), .val (.int p5), .val (.int p3), .val (.int p4), .unset] [(.int (2 : Int32)), (.int (2 : Int32))])) _
      refine XS.icmpNo X41.here hx rfl (hb hby at_136) rfl (teq (by decide : (2 : Int32) = (2 : Int32))).2 ?_
      show Steps p.tables e below (T41.setTop (mkF m 139 #[.val (.int p1), .val (.int p2), .val (.int p3), .val (.int p4), .val (.int p5), .val (.int p6), .val (.ref b1), .val (.int (2 : Int32)), .val (.int p1), .val (.int p1), .val (.int p3), .val (.int p4), .val (.int p5), .val (.int p3), .val (.int p4), .unset] [])) _
      refine XS.iload X41.here hx rfl (hb hby at_139) rfl ?_
      show Steps p.tables e below (T41.setTop (mkF m 141 #[.val (.int p1), .val (.int p2), .val (.int p3), .val (.int p4), .val (.int p5), .val (.int p6), .val (.ref b1), .val (.int (2 : Int32)), .val (.int p1), .val (.int p1), .val (.int p3), .val (.int p4), .val (.int p5), .val (.int p3), .val (.int p4), .unset] [(.int p5)])) _
      refine XS.goto X41.here hx rfl (pc0 := 141) (pc' := 145) rfl (hb hby at_141) (by decide) (by decide) ?_
      show Steps p.tables e below (T41.setTop (mkF m 145 #[.val (.int p1), .val (.int p2), .val (.int p3), .val (.int p4), .val (.int p5), .val (.int p6), .val (.ref b1), .val (.int (2 : Int32)), .val (.int p1), .val (.int p1), .val (.int p3), .val (.int p4), .val (.int p5), .val (.int p3), .val (.int p4), .unset] [(.int p5)])) _
      refine XS.istore X41.here hx rfl (hb hby at_145) rfl (l' := #[.val (.int p1), .val (.int p2), .val (.int p3), .val (.int p4), .val (.int p5), .val (.int p6), .val (.ref b1), .val (.int (2 : Int32)), .val (.int p1), .val (.int p1), .val (.int p3), .val (.int p4), .val (.int p5), .val (.int p3), .val (.int p4), .val (.int p5)]) rfl ?_
      show Steps p.tables e below (T41.setTop (mkF m 147 #[.val (.int p1), .val (.int p2), .val (.int p3), .val (.int p4), .val (.int p5), .val (.int p6), .val (.ref b1), .val (.int (2 : Int32)), .val (.int p1), .val (.int p1), .val (.int p3), .val (.int p4), .val (.int p5), .val (.int p3), .val (.int p4), .val (.int p5)] [])) _
      refine XS.iload X41.here hx rfl (hb hby at_147) rfl ?_
      show Steps p.tables e below (T41.setTop (mkF m 149 #[.val (.int p1), .val (.int p2), .val (.int p3), .val (.int p4), .val (.int p5), .val (.int p6), .val (.ref b1), .val (.int (2 : Int32)), .val (.int p1), .val (.int p1), .val (.int p3), .val (.int p4), .val (.int p5), .val (.int p3), .val (.int p4), .val (.int p5)] [(.int p1)])) _
      refine XS.iload X41.here hx rfl (hb hby at_149) rfl ?_
      show Steps p.tables e below (T41.setTop (mkF m 151 #[.val (.int p1), .val (.int p2), .val (.int p3), .val (.int p4), .val (.int p5), .val (.int p6), .val (.ref b1), .val (.int (2 : Int32)), .val (.int p1), .val (.int p1), .val (.int p3), .val (.int p4), .val (.int p5), .val (.int p3), .val (.int p4), .val (.int p5)] [(.int p1), (.int p1)])) _
      refine XS.icmpNo X41.here hx rfl (hb hby at_151) rfl (teq (rfl : p1 = p1)).2 ?_
      show Steps p.tables e below (T41.setTop (mkF m 154 #[.val (.int p1), .val (.int p2), .val (.int p3), .val (.int p4), .val (.int p5), .val (.int p6), .val (.ref b1), .val (.int (2 : Int32)), .val (.int p1), .val (.int p1), .val (.int p3), .val (.int p4), .val (.int p5), .val (.int p3), .val (.int p4), .val (.int p5)] [])) _
      refine XS.iload X41.here hx rfl (hb hby at_154) rfl ?_
      show Steps p.tables e below (T41.setTop (mkF m 156 #[.val (.int p1), .val (.int p2), .val (.int p3), .val (.int p4), .val (.int p5), .val (.int p6), .val (.ref b1), .val (.int (2 : Int32)), .val (.int p1), .val (.int p1), .val (.int p3), .val (.int p4), .val (.int p5), .val (.int p3), .val (.int p4), .val (.int p5)] [(.int p3)])) _
      refine XS.iload X41.here hx rfl (hb hby at_156) rfl ?_
      show Steps p.tables e below (T41.setTop (mkF m 158 #[.val (.int p1), .val (.int p2), .val (.int p3), .val (.int p4), .val (.int p5), .val (.int p6), .val (.ref b1), .val (.int (2 : Int32)), .val (.int p1), .val (.int p1), .val (.int p3), .val (.int p4), .val (.int p5), .val (.int p3), .val (.int p4), .val (.int p5)] [(.int p3), (.int p3)])) _
      refine XS.icmpNo X41.here hx rfl (hb hby at_158) rfl (teq (rfl : p3 = p3)).2 ?_
      show Steps p.tables e below (T41.setTop (mkF m 161 #[.val (.int p1), .val (.int p2), .val (.int p3), .val (.int p4), .val (.int p5), .val (.int p6), .val (.ref b1), .val (.int (2 : Int32)), .val (.int p1), .val (.int p1), .val (.int p3), .val (.int p4), .val (.int p5), .val (.int p3), .val (.int p4), .val (.int p5)] [])) _
      refine XS.iload X41.here hx rfl (hb hby at_161) rfl ?_
      show Steps p.tables e below (T41.setTop (mkF m 163 #[.val (.int p1), .val (.int p2), .val (.int p3), .val (.int p4), .val (.int p5), .val (.int p6), .val (.ref b1), .val (.int (2 : Int32)), .val (.int p1), .val (.int p1), .val (.int p3), .val (.int p4), .val (.int p5), .val (.int p3), .val (.int p4), .val (.int p5)] [(.int p4)])) _
      refine XS.iload X41.here hx rfl (hb hby at_163) rfl ?_
      show Steps p.tables e below (T41.setTop (mkF m 165 #[.val (.int p1), .val (.int p2), .val (.int p3), .val (.int p4), .val (.int p5), .val (.int p6), .val (.ref b1), .val (.int (2 : Int32)), .val (.int p1), .val (.int p1), .val (.int p3), .val (.int p4), .val (.int p5), .val (.int p3), .val (.int p4), .val (.int p5)] [(.int p4), (.int p4)])) _
      refine XS.icmpNo X41.here hx rfl (hb hby at_165) rfl (teq (rfl : p4 = p4)).2 ?_
      show Steps p.tables e below (T41.setTop (mkF m 168 #[.val (.int p1), .val (.int p2), .val (.int p3), .val (.int p4), .val (.int p5), .val (.int p6), .val (.ref b1), .val (.int (2 : Int32)), .val (.int p1), .val (.int p1), .val (.int p3), .val (.int p4), .val (.int p5), .val (.int p3), .val (.int p4), .val (.int p5)] [])) _
      refine XS.iload X41.here hx rfl (hb hby at_168) rfl ?_
      show Steps p.tables e below (T41.setTop (mkF m 170 #[.val (.int p1), .val (.int p2), .val (.int p3), .val (.int p4), .val (.int p5), .val (.int p6), .val (.ref b1), .val (.int (2 : Int32)), .val (.int p1), .val (.int p1), .val (.int p3), .val (.int p4), .val (.int p5), .val (.int p3), .val (.int p4), .val (.int p5)] [(.int p5)])) _
      refine XS.iload X41.here hx rfl (hb hby at_170) rfl ?_
      show Steps p.tables e below (T41.setTop (mkF m 172 #[.val (.int p1), .val (.int p2), .val (.int p3), .val (.int p4), .val (.int p5), .val (.int p6), .val (.ref b1), .val (.int (2 : Int32)), .val (.int p1), .val (.int p1), .val (.int p3), .val (.int p4), .val (.int p5), .val (.int p3), .val (.int p4), .val (.int p5)] [(.int p5), (.int p5)])) _
      refine XS.icmpNo X41.here hx rfl (hb hby at_172) rfl (teq (rfl : p5 = p5)).2 ?_
      show Steps p.tables e below (T41.setTop (mkF m 175 #[.val (.int p1), .val (.int p2), .val (.int p3), .val (.int p4), .val (.int p5), .val (.int p6), .val (.ref b1), .val (.int (2 : Int32)), .val (.int p1), .val (.int p1), .val (.int p3), .val (.int p4), .val (.int p5), .val (.int p3), .val (.int p4), .val (.int p5)] [])) _
      refine XS.iconst X41.here hx rfl (hb hby at_175) ?_
      show Steps p.tables e below (T41.setTop (mkF m 176 #[.val (.int p1), .val (.int p2), .val (.int p3), .val (.int p4), .val (.int p5), .val (.int p6), .val (.ref b1), .val (.int (2 : Int32)), .val (.int p1), .val (.int p1), .val (.int p3), .val (.int p4), .val (.int p5), .val (.int p3), .val (.int p4), .val (.int p5)] [(.int (1 : Int32))])) _
      refine XS.goto X41.here hx rfl (pc0 := 176) (pc' := 180) rfl (hb hby at_176) (by decide) (by decide) ?_
      show Steps p.tables e below (T41.setTop (mkF m 180 #[.val (.int p1), .val (.int p2), .val (.int p3), .val (.int p4), .val (.int p5), .val (.int p6), .val (.ref b1), .val (.int (2 : Int32)), .val (.int p1), .val (.int p1), .val (.int p3), .val (.int p4), .val (.int p5), .val (.int p3), .val (.int p4), .val (.int p5)] [(.int (1 : Int32))])) _
      exact retN X41 hx (t := .boolean) Bd.returns (by simp) (hb hby at_180) hr
    · exact ⟨rfl, N41⟩
theorem own_plain {p6 : Int32} : lawP p6 := by unfold lawP; split <;> (try split) <;> trivial
set_option maxRecDepth 65536 in
set_option maxHeartbeats 40000000 in
theorem comes_1 {Post : Tables → Env → Array Value → State → Outcome → State → Prop} (hpost : ∀ tb e args s v u, (limb_1_1.after args s (.returned v) u = true ∧ limb_1_2.after args s (.returned v) u = true ∧ True) → FrameEnd s (.returned v) u (Jvm.fieldLocs frame_1_writes args s ++ Jvm.arrayLocs frame_1_arrays args s ++ Jvm.staticLocs frame_1_statics s) 16 235968 → Post tb e args s (.returned v) u) :
    ArmFor flags0 classFile x code maxLocals ret World_1 tables_1 room_1 Calls_1 rest_1 Pre_1 Post := by
  intro l hfl _ _ p e ha hc hk s m args below hf hA hF happ hP
  obtain ⟨hcalls, hrest, hpre⟩ := hP
  obtain ⟨-, -, -, hnamed, -, -, -, hat⟩ := (Spec.applies_iff hf).mp happ
  obtain ⟨hg, hn⟩ := and_e (Cond.before_iff.mp (show (Jvm.Cond.and given_1 narrow_1).before args s = true from hpre))
  obtain ⟨gv0, gr0⟩ := and_e hg
  obtain ⟨gv1, gr1⟩ := and_e gr0
  obtain ⟨gv2, gr2⟩ := and_e gr1
  obtain ⟨gv3, gr3⟩ := and_e gr2
  obtain ⟨gv4, gr4⟩ := and_e gr3
  obtain ⟨gv5, gr5⟩ := and_e gr4
  obtain ⟨w0, w1, w2, w3, w4, w5, rfl⟩ : ∃ w0 w1 w2 w3 w4 w5 : Value, args = #[w0, w1, w2, w3, w4, w5] := by
    have hs : args.size = 6 := by simpa [Cond.value, given_1] using gv0
    obtain ⟨L⟩ := args
    match L, hs with
    | [w0, w1, w2, w3, w4, w5], _ => exact ⟨w0, w1, w2, w3, w4, w5, rfl⟩
  have hw := fun d (hd : d ∈ tables_1) => atoms_spec (ws := Jvm.Cond.code x code maxLocals ret :: tables_1) hat d (List.mem_cons_of_mem _ hd)
  obtain ⟨i0, ei0⟩ := is_v gv1
  obtain rfl : w0 = (.int i0) := Option.some.inj ei0
  obtain ⟨i1, ei1⟩ := is_v gv2
  obtain rfl : w1 = (.int i1) := Option.some.inj ei1
  obtain ⟨i2, ei2⟩ := is_v gv3
  obtain rfl : w2 = (.int i2) := Option.some.inj ei2
  obtain ⟨i3, ei3⟩ := is_v gv4
  obtain rfl : w3 = (.int i3) := Option.some.inj ei3
  obtain ⟨i4, ei4⟩ := is_v gv5
  obtain rfl : w4 = (.int i4) := Option.some.inj ei4
  obtain ⟨i5, ei5⟩ := is_v gr5
  obtain rfl : w5 = (.int i5) := Option.some.inj ei5
  have O0 := Old.start s
  obtain ⟨n, o, h1, h2, h3, _, L, rfl, ⟨rfl, N⟩, hq⟩ := rm_law l s _ hw tables_1 i0 i1 i2 i3 i4 i5 s.heap s.heap.size (Nat.le_refl _) O0 own_plain p e ha hc hk s m _ below hf ((Spec.applies_iff_loose hf).mp happ).1 ⟨rfl, State.Warmed39.refl s, rfl⟩ trivial
  exact ⟨n, _, h1, h2, h3, hpost _ _ _ _ _ _ ⟨Cond.after_iff.mpr rfl, Cond.after_iff.mpr (eq_i res_at (Term.int_eval (1)) rfl), trivial⟩ ⟨hq.1, hq.2.1, (hq.2.2.sift fun y hy => Or.inr (N y hy)).mono (by decide) (by decide)⟩⟩
theorem main_1_1 : Claimed_1_1 := comes_1 fun _ _ _ _ _ _ h hF => ⟨h.1, hF⟩
theorem main_1_2 : Claimed_1_2 := comes_1 fun _ _ _ _ _ _ h hF => ⟨h.2.1, hF⟩

end Jvm.Pilot.@@N@@
namespace Jvm.Pilot.@@N@@
open Jvm Jvm.ClassFile Sem Op Lib Jvm.Free Jvm.Stand Jvm.Pilot.@@N@@.Jvm.D
/-! MADE BY PROGRAM (witnessworld.py) out of the Statement's table words and the real class files: 9 classes; the members and pool entries that the words name. The judged class is class 1, her method 1. -/
namespace start1
open Jvm.ClassFile
def u (s : String) : CpInfo := .utf8 (stringToUtf16 s)
/-- a pool by its gaps: so many unusable entries, then the entry; so many at the end -/
def gap : Nat → List CpInfo → List CpInfo
  | 0, r => r
  | n + 1, r => .unusable :: gap n r
def poolList (es : List (Nat × CpInfo)) (last : Nat) : List CpInfo := es.foldr (fun e r => gap e.1 (e.2 :: r)) (gap last [])
def pool (es : List (Nat × CpInfo)) (last : Nat) : Array CpInfo := ⟨poolList es last⟩
def fileOf (pool : Array CpInfo) (this : Nat) (attrs : Array Attribute := #[]) (ms : Array MethodInfo := #[]) (fl : Nat := 33) (sup : Nat := 0) (ifs : Array Nat := #[]) (fds : Array FieldInfo := #[]) : ClassFile where
  minorVersion := 0
  majorVersion := 65
  constantPool := pool
  accessFlags := fl
  thisClass := this
  superClass := sup
  interfaces := ifs
  fields := fds
  methods := ms
  attributes := attrs
def plain (name : String) (sup : Option ClassId) : Class where
  name := name
  kind := .ordinary
  loader := none
  accessFlags := 33
  super := sup
  interfaces := #[]
  cf := none
  fields := #[]
  methods := #[]
  instanceTypes := #[]
  staticTypes := #[]
  resolved := #[]
  callSites := []
  init := .initialized
  statics := none
  mirror := none

def pool0 : Array CpInfo := pool [(5, u "<init>"), (0, u "()V"), (1, .class_ 10), (1, u "java/lang/Object")] 113

def k0c0 : Code := { maxStack := 0, maxLocals := 1, code := object_method_1_code, exceptionTable := #[], attributes := #[] }
def k0m0 : Method := { name := "<init>", desc := "()V", sig := { parameters := [], returnType := none }, accessFlags := 1, code := some k0c0 }
/-- java/lang/Object -/
def k0 : Class := { plain "java/lang/Object" none with
  accessFlags := 33
  interfaces := #[]
  cf := some (fileOf pool0 8 #[] #[{ accessFlags := 1, nameIndex := 5, descriptorIndex := 6, attributes := #[] }] 33 0 #[] #[])
  fields := #[]
  methods := #[k0m0]
  instanceTypes := #[]
  staticTypes := #[]
  resolved := Array.replicate 124 none
  statics := none }

def pool1 : Array CpInfo := pool [(2, .class_ 4), (0, .nameAndType 5 6), (0, u "java/lang/Object"), (0, u "<init>"), (0, u "()V"), (0, .class_ 8), (0, u "com/example/keysmith/keysmith/TripleBuffer"), (0, .methodref 7 3), (0, .methodref 7 11), (0, .nameAndType 12 13), (0, u "add"), (0, u "(III)V"), (0, .integer 2147483647), (0, .methodref 7 16), (0, .nameAndType 17 18), (0, u "object"), (0, u "(I)I"), (0, .methodref 7 20), (0, .nameAndType 21 22), (0, u "setObject"), (0, u "(II)V"), (0, .class_ 24), (0, u "com/example/keysmith/keysmith/TripleBufferObjectPinLaw"), (2, u "law"), (0, u "(IIIIII)Z")] 3

def k1m0 : Method := { name := "<init>", desc := "()V", sig := { parameters := [], returnType := none }, accessFlags := 1, code := none }
def k1c1 : Code := { maxStack := 4, maxLocals := 16, code := code, exceptionTable := #[], attributes := #[] }
def k1m1 : Method := { name := "law", desc := "(IIIIII)Z", sig := { parameters := [.int, .int, .int, .int, .int, .int], returnType := some .boolean }, accessFlags := 9, code := some k1c1 }
/-- com/example/keysmith/keysmith/TripleBufferObjectPinLaw -/
def k1 : Class := { plain "com/example/keysmith/keysmith/TripleBufferObjectPinLaw" (some 0) with
  accessFlags := 49
  interfaces := #[]
  cf := some (fileOf pool1 23 #[] #[{ accessFlags := 1, nameIndex := 5, descriptorIndex := 6, attributes := #[] }, { accessFlags := 9, nameIndex := 27, descriptorIndex := 28, attributes := #[] }] 49 2 #[] #[])
  fields := #[]
  methods := #[k1m0, k1m1]
  instanceTypes := #[]
  staticTypes := #[]
  resolved := Array.replicate 32 none
  statics := none }

def pool2 : Array CpInfo := pool [(1, .class_ 2), (0, u "com/example/keysmith/keysmith/TripleBuffer"), (0, .methodref 4 5), (0, .class_ 6), (0, .nameAndType 7 8), (0, u "java/lang/Object"), (0, u "<init>"), (0, u "()V"), (0, .class_ 10), (0, u "[I"), (0, .fieldref 1 12), (0, .nameAndType 13 14), (0, u "blocks"), (0, u "[[I"), (0, .fieldref 1 16), (0, .nameAndType 17 18), (0, u "size"), (0, u "I"), (7, .integer 196608), (0, .integer 65535), (0, u "BLOCK_BITS"), (2, u "BLOCK_TRIPLES"), (1, u "IN_BLOCK"), (2, u "add"), (0, u "(III)V"), (3, u "(I)I"), (1, u "object"), (0, u "setObject"), (0, u "(II)V")] 2

def k2c0 : Code := { maxStack := 2, maxLocals := 1, code := prog_15_method_1_code, exceptionTable := #[], attributes := #[] }
def k2m0 : Method := { name := "<init>", desc := "()V", sig := { parameters := [], returnType := none }, accessFlags := 0, code := some k2c0 }
def k2c1 : Code := { maxStack := 4, maxLocals := 6, code := prog_15_method_2_code, exceptionTable := #[], attributes := #[] }
def k2m1 : Method := { name := "add", desc := "(III)V", sig := { parameters := [.int, .int, .int], returnType := none }, accessFlags := 0, code := some k2c1 }
def k2c2 : Code := { maxStack := 4, maxLocals := 2, code := prog_15_method_6_code, exceptionTable := #[], attributes := #[] }
def k2m2 : Method := { name := "object", desc := "(I)I", sig := { parameters := [.int], returnType := some .int }, accessFlags := 0, code := some k2c2 }
def k2c3 : Code := { maxStack := 4, maxLocals := 3, code := prog_15_method_7_code, exceptionTable := #[], attributes := #[] }
def k2m3 : Method := { name := "setObject", desc := "(II)V", sig := { parameters := [.int, .int], returnType := none }, accessFlags := 0, code := some k2c3 }
/-- com/example/keysmith/keysmith/TripleBuffer -/
def k2 : Class := { plain "com/example/keysmith/keysmith/TripleBuffer" (some 0) with
  accessFlags := 48
  interfaces := #[]
  cf := some (fileOf pool2 1 #[] #[{ accessFlags := 0, nameIndex := 7, descriptorIndex := 8, attributes := #[] }, { accessFlags := 0, nameIndex := 36, descriptorIndex := 37, attributes := #[] }, { accessFlags := 0, nameIndex := 43, descriptorIndex := 41, attributes := #[] }, { accessFlags := 0, nameIndex := 44, descriptorIndex := 45, attributes := #[] }] 48 4 #[] #[{ accessFlags := 26, nameIndex := 28, descriptorIndex := 18, attributes := #[] }, { accessFlags := 26, nameIndex := 31, descriptorIndex := 18, attributes := #[] }, { accessFlags := 26, nameIndex := 33, descriptorIndex := 18, attributes := #[] }, { accessFlags := 2, nameIndex := 13, descriptorIndex := 14, attributes := #[] }, { accessFlags := 2, nameIndex := 17, descriptorIndex := 18, attributes := #[] }])
  fields := #[{ name := "BLOCK_BITS", type := .int, accessFlags := 26, slot := 0, constantValue := 0 }, { name := "BLOCK_TRIPLES", type := .int, accessFlags := 26, slot := 1, constantValue := 0 }, { name := "IN_BLOCK", type := .int, accessFlags := 26, slot := 2, constantValue := 0 }, { name := "blocks", type := (.array (.array .int)), accessFlags := 2, slot := 0, constantValue := 0 }, { name := "size", type := .int, accessFlags := 2, slot := 1, constantValue := 0 }]
  methods := #[k2m0, k2m1, k2m2, k2m3]
  instanceTypes := #[(.array (.array .int)), .int]
  staticTypes := #[.int, .int, .int]
  resolved := Array.replicate 48 none
  statics := none }

def pool3 : Array CpInfo := pool [(1, u "java/lang/Cloneable"), (0, .class_ 1), (0, u "java/lang/Object"), (0, .class_ 3)] 3

/-- java/lang/Cloneable -/
def k3 : Class := { plain "java/lang/Cloneable" (some 0) with
  accessFlags := 1537
  interfaces := #[]
  cf := some (fileOf pool3 2 #[] #[] 1537 4 #[] #[])
  fields := #[]
  methods := #[]
  instanceTypes := #[]
  staticTypes := #[]
  resolved := Array.replicate 8 none
  statics := none }

def pool4 : Array CpInfo := pool [(1, u "java/io/Serializable"), (0, .class_ 1), (0, u "java/lang/Object"), (0, .class_ 3)] 3

/-- java/io/Serializable -/
def k4 : Class := { plain "java/io/Serializable" (some 0) with
  accessFlags := 1537
  interfaces := #[]
  cf := some (fileOf pool4 2 #[] #[] 1537 4 #[] #[])
  fields := #[]
  methods := #[]
  instanceTypes := #[]
  staticTypes := #[]
  resolved := Array.replicate 8 none
  statics := none }

/-- the primitive byte -/
def k5 : Class := { plain "byte" none with kind := .primitive 'B', accessFlags := 0x411 }
/-- [B -/
def k6 : Class := { plain "[B" (some 0) with kind := .array 5 .byte, interfaces := #[3, 4], accessFlags := 1041 }

/-- the primitive int -/
def k7 : Class := { plain "int" none with kind := .primitive 'I', accessFlags := 0x411 }
/-- [I -/
def k8 : Class := { plain "[I" (some 0) with kind := .array 7 .int, interfaces := #[3, 4], accessFlags := 1041 }

/-- [[I -/
def k9 : Class := { plain "[[I" (some 0) with kind := .array 8 (.array .int), interfaces := #[3, 4], accessFlags := 1041 }

def heap : Heap := #[]
def classes : Array Class := #[k0, k1, k2, k3, k4, k5, k6, k7, k8, k9]
def interned : List (Array UInt16 × Addr) := []
def slotsUsed : Nat := 0
def theMethod : MethodId := ⟨1, 1⟩
def args0 : Array Value := #[.int 5, .int 5, .int 5, .int 5, .int 5, .int 5]
def aboutOver (below : List Frame) : State where
  vm := { classes := classes, interned := interned.toArray }
  heap := heap
  slotsUsed := slotsUsed
  threads := #[{ frames := .invoking theMethod args0 :: below }]
def below0 : List Frame := [.native { method := ⟨0, 0⟩, args := #[] }]
def about1 : State := aboutOver below0
def p0 : Program := .bare "" "" ""
def e0 : Env := launch0.env 0 0 0
theorem w_frames : about1.frames = Frame.invoking theMethod args0 :: below0 := rfl
set_option maxRecDepth 65536 in
theorem w_args : argsFit about1.vm theMethod args0 = true := by decide +kernel
set_option maxRecDepth 65536 in
theorem w_heap : heapFits about1 = true := by decide +kernel
set_option maxRecDepth 65536 in
theorem w_runnable : about1.curStatus? = some .runnable := by decide +kernel
set_option maxRecDepth 65536 in
theorem w_alone : about1.alone = true := by decide +kernel
set_option maxRecDepth 65536 in
theorem w_named : about1.methodNamed? x = some theMethod := by decide +kernel
set_option maxRecDepth 65536 in
theorem w_hears : about1.hears theMethod below0 = true := by decide +kernel
set_option maxRecDepth 65536 in
theorem w_ripe : about1.ripe theMethod args0 below0 = true := by decide +kernel
theorem w_running : about1.status = .running := rfl
set_option maxRecDepth 65536 in
theorem w_room : about1.hasRoom e0.platform room_1 = true :=
  launch0.hasRoom_least _ room_1 (by decide +kernel) (by decide +kernel) (by decide +kernel) (by decide +kernel) (by decide +kernel) (by decide +kernel)
theorem allAtoms_all (ts : List Jvm.Cond) (a : Array Jvm.Value) (st : Jvm.State) : (allAtoms ts).before a st = ts.all (fun c => c.before a st) := by
  induction ts with
  | nil => rfl
  | cons c t ih =>
    show (Jvm.Cond.and c (allAtoms t)).before a st = _
    rw [Jvm.Cond.before_and, ih, List.all_cons]
def words1 : List Jvm.Cond := Jvm.Cond.code x code maxLocals ret :: tables_1
/-- a 'code' word, met by the world's own term for the bytes: nothing is compared byte by byte -/
theorem code_word {y : MethodName} {bytes : ByteArray} {mx : Nat} {rt : Option FieldType} {a : Array Value} {s : State} {m : MethodId} {meth : Method} {c : Code} (h1 : s.methodNamed? y = some m) (h2 : s.vm.method? m = some meth) (h3 : meth.code = some c) (h4 : c.code = bytes)
    (h5 : (c.maxLocals == mx && c.exceptionTable.isEmpty && decide (c.maxStack ≤ mostOperands) && decide (meth.sig.returnType = rt) && !meth.locks && decide (parseMethodDescriptor y.desc = some meth.sig)) = true) : (Jvm.Cond.code y bytes mx rt).before a s = true := by
  simp only [Bool.and_eq_true, beq_iff_eq, Bool.not_eq_true', decide_eq_true_eq] at h5
  obtain ⟨⟨⟨⟨⟨g1, g2⟩, g3⟩, g4⟩, g5⟩, g6⟩ := h5
  simp [Cond.before, Cond.holds, Cond.value, h1, h2, h3, h4, g1, g2, g3, g4, g5, g6]
def isCode : Jvm.Cond → Bool
  | .code _ _ _ _ => true
  | _ => false
theorem all_split {L : List Jvm.Cond} {P : Jvm.Cond → Bool} (h1 : L.all (fun c => isCode c || P c) = true) (h2 : ∀ c ∈ L.filter isCode, P c = true) : L.all P = true := by
  refine List.all_eq_true.mpr fun c hc => ?_
  have h := List.all_eq_true.mp h1 c hc
  rcases Bool.eq_false_or_eq_true (isCode c) with hi | hi
  · exact h2 c (List.mem_filter.mpr ⟨hc, hi⟩)
  · simpa [hi] using h
set_option maxRecDepth 65536 in
theorem w_c0 : (Jvm.Cond.code x code maxLocals ret).before args0 about1 = true := code_word (m := ⟨1, 1⟩) (meth := k1m1) (c := k1c1) (by decide +kernel) rfl rfl rfl (by decide +kernel)
set_option maxRecDepth 65536 in
theorem w_c1 : (Jvm.Cond.code ({ cls := "com/example/keysmith/keysmith/TripleBuffer", name := "<init>", desc := "()V" } : Jvm.MethodName) prog_15_method_1_code (1 : Nat) (Option.none : Option Jvm.ClassFile.FieldType)).before args0 about1 = true := code_word (m := ⟨2, 0⟩) (meth := k2m0) (c := k2c0) (by decide +kernel) rfl rfl rfl (by decide +kernel)
set_option maxRecDepth 65536 in
theorem w_c2 : (Jvm.Cond.code ({ cls := "java/lang/Object", name := "<init>", desc := "()V" } : Jvm.MethodName) object_method_1_code (1 : Nat) (Option.none : Option Jvm.ClassFile.FieldType)).before args0 about1 = true := code_word (m := ⟨0, 0⟩) (meth := k0m0) (c := k0c0) (by decide +kernel) rfl rfl rfl (by decide +kernel)
set_option maxRecDepth 65536 in
theorem w_c3 : (Jvm.Cond.code ({ cls := "com/example/keysmith/keysmith/TripleBuffer", name := "add", desc := "(III)V" } : Jvm.MethodName) prog_15_method_2_code (6 : Nat) (Option.none : Option Jvm.ClassFile.FieldType)).before args0 about1 = true := code_word (m := ⟨2, 1⟩) (meth := k2m1) (c := k2c1) (by decide +kernel) rfl rfl rfl (by decide +kernel)
set_option maxRecDepth 65536 in
theorem w_c4 : (Jvm.Cond.code ({ cls := "com/example/keysmith/keysmith/TripleBuffer", name := "object", desc := "(I)I" } : Jvm.MethodName) prog_15_method_6_code (2 : Nat) (Option.some Jvm.ClassFile.FieldType.int)).before args0 about1 = true := code_word (m := ⟨2, 2⟩) (meth := k2m2) (c := k2c2) (by decide +kernel) rfl rfl rfl (by decide +kernel)
set_option maxRecDepth 65536 in
theorem w_c5 : (Jvm.Cond.code ({ cls := "com/example/keysmith/keysmith/TripleBuffer", name := "setObject", desc := "(II)V" } : Jvm.MethodName) prog_15_method_7_code (3 : Nat) (Option.none : Option Jvm.ClassFile.FieldType)).before args0 about1 = true := code_word (m := ⟨2, 3⟩) (meth := k2m3) (c := k2c3) (by decide +kernel) rfl rfl rfl (by decide +kernel)
def codes1 : List Jvm.Cond := [Jvm.Cond.code x code maxLocals ret, Jvm.Cond.code ({ cls := "com/example/keysmith/keysmith/TripleBuffer", name := "<init>", desc := "()V" } : Jvm.MethodName) prog_15_method_1_code (1 : Nat) (Option.none : Option Jvm.ClassFile.FieldType), Jvm.Cond.code ({ cls := "java/lang/Object", name := "<init>", desc := "()V" } : Jvm.MethodName) object_method_1_code (1 : Nat) (Option.none : Option Jvm.ClassFile.FieldType), Jvm.Cond.code ({ cls := "com/example/keysmith/keysmith/TripleBuffer", name := "add", desc := "(III)V" } : Jvm.MethodName) prog_15_method_2_code (6 : Nat) (Option.none : Option Jvm.ClassFile.FieldType), Jvm.Cond.code ({ cls := "com/example/keysmith/keysmith/TripleBuffer", name := "object", desc := "(I)I" } : Jvm.MethodName) prog_15_method_6_code (2 : Nat) (Option.some Jvm.ClassFile.FieldType.int), Jvm.Cond.code ({ cls := "com/example/keysmith/keysmith/TripleBuffer", name := "setObject", desc := "(II)V" } : Jvm.MethodName) prog_15_method_7_code (3 : Nat) (Option.none : Option Jvm.ClassFile.FieldType)]
set_option maxRecDepth 65536 in
theorem codes_eq : words1.filter isCode = codes1 := rfl
theorem w_codes : ∀ c ∈ words1.filter isCode, c.before args0 about1 = true := by
  rw [codes_eq]
  intro c hc
  simp only [codes1, List.mem_cons, List.not_mem_nil, or_false] at hc
  rcases hc with rfl | rfl | rfl | rfl | rfl | rfl
  · exact w_c0
  · exact w_c1
  · exact w_c2
  · exact w_c3
  · exact w_c4
  · exact w_c5
set_option maxRecDepth 65536 in
theorem w_t1 : (words1.take 24).all (fun c => isCode c || c.before args0 about1) = true := by decide +kernel
set_option maxRecDepth 65536 in
theorem w_t2 : (words1.drop 24).all (fun c => isCode c || c.before args0 about1) = true := by decide +kernel
theorem w_tables : (allAtoms (Jvm.Cond.code x code maxLocals ret :: tables_1)).before args0 about1 = true := by
  rw [allAtoms_all]
  show words1.all (fun c => c.before args0 about1) = true
  refine all_split ?_ w_codes
  rw [← List.take_append_drop 24 words1, List.all_append, w_t1, w_t2]
  rfl
set_option maxRecDepth 65536 in
theorem w_case : (Jvm.Cond.and given_1 narrow_1).before args0 about1 = true := by decide +kernel
theorem w_applies : (headSpec (Jvm.Cond.code x code maxLocals ret :: tables_1) room_1).applies x e0.platform about1 = true :=
  (Spec.applies_iff w_frames).mpr ⟨w_running, w_runnable, w_alone, w_named, w_hears, w_ripe, w_room, w_tables⟩
theorem atStart : AtStart classFile x code maxLocals ret World_1 tables_1 room_1 Calls_1 rest_1 Pre_1 launch0 p0 e0 about1 theMethod args0 below0 :=
  ⟨lists_1, trivial, launch0.admits_env _ _ _, launch0.least_env, fairChoices_fair.cas, fairChoices_fair.clock, w_frames, w_args, w_heap, w_applies, trivial, trivial, w_case⟩
end start1
theorem witness_1 : WitnessClaimed_1 := ⟨start1.p0, start1.e0, start1.about1, start1.theMethod, start1.args0, start1.below0, start1.atStart⟩
end Jvm.Pilot.@@N@@
