import JvmDerived
import JvmDerived.Pilot.@@N@@Statement
import JvmDerived.Pilot.@@N@@Code
set_option linter.unusedVariables false
set_option linter.unusedSimpArgs false
namespace Jvm.RoadKit
open Sem ClassFile Op Lib Jvm.Stand Jvm.Free Jvm.LawKit
section New
variable {p : Program} {l : Launch} {e : Env} {R : Room} {s : State} {m : MethodId} {args : Array Value} {below : List Frame} {meth : Method} {c : Code} {T : State} {locs : List Loc} {cells slots : Nat}
theorem retI (X : Stand p l e R s m args below meth c T locs cells slots) (hx : p.tables.exec = Jvm.exec) {pc : Nat} {Ls : Array Slot} {z : Int32} {rest : List Value} (hret : meth.sig.returnType = some .int) (hd : decode c.code pc = .ok (.ireturn, 1)) {fs : List Frame}
    (hl : ∀ (f : JFrame) (acts : List Action), f.method = m → f.locked = none → f.entered = [] → (doReturn e (T.setTop f) acts (some (.int z))).1 = T.setFrames fs) : Steps p.tables e below (T.setTop (mkF m pc Ls (.int z :: rest))) (T.setFrames fs) := by
  have hm' : T.vm.method? m = some meth := X.method'
  have hn : narrow .int (.int z) = .int z := rfl
  show Steps p.tables e below (T.setTop { method := m, pc := pc, locals := Ls, stack := _ :: rest, locked := none }) _
  jvm_step X.here [X.here.top, hx, hd, hm', hret, hn]
  first | (intro acts; rw [hl _ acts rfl rfl rfl]) | rw [hl _ _ rfl rfl rfl]
  exact Steps.refl _
end New
end Jvm.RoadKit
namespace Jvm.Pilot.@@N@@
open Jvm Jvm.ClassFile Sem Op Lib Jvm.Free Jvm.Stand Jvm.LawKit Jvm.RoadKit Bundle Jvm.Pilot.@@N@@.Jvm.D
/-- what a call that writes nothing leaves -/
def PureQ (rv : Option Value) (h0 : Heap) (n0 : Nat) (v : Option Value) (h : Heap) (L : List Loc) : Prop := v = rv ∧ Fr n0 L ∧ h = h0
/-- what the law leaves -/
def LawQ (n0 : Nat) (v : Option Value) (h : Heap) (L : List Loc) : Prop := v = some (.int (1 : Int32)) ∧ Fr n0 L
theorem own_fld {Z : State} {args : Array Value} {a : Addr} {t u : Term} {C n d : String} {v : Value} (ev : t.eval args Z none [] Z = some (.ref a)) (h : (Jvm.Cond.eq (Term.field t C n d) u).value args Z none Z [] = some true) (eu : u.eval args Z none [] Z = some v) : Fld Z Z.heap a C n d v := by
  obtain ⟨x, y, h1, h2, -⟩ := cmp_v (Or.inl h)
  have e2 : y = v := Option.some.inj (h2.symm.trans eu)
  subst e2
  have e3 : x = y := by
    simp only [Jvm.Cond.value, h1, h2] at h
    cases x <;> cases y <;> simp_all
  subst e3
  exact Fld.start ((fld_at ev).symm.trans h1)
theorem own_nsroot {Z : State} {a0 : Array Value} {O K : String} {n : Nat} (w : (Jvm.Cond.noSuperclass O).before a0 Z = true) (wk : (Jvm.Cond.instantiable K n).before a0 Z = true) (hn : O ≠ K) : NS Z O K := by
  obtain ⟨c, k, h1, h2, h3, -, -⟩ := Cond.noSuperclass_spec w
  obtain ⟨t, kt, g1, -⟩ := Cond.instantiable_spec wk
  have ne := ids_ne h1 g1 hn
  refine ⟨c, t, h1, g1, fun fuel => ?_⟩
  cases fuel with
  | zero => rfl
  | succ f => simp [Vm.isSubclassAux, ne, h2, h3]
theorem own_nsno {Z : State} {a0 : Array Value} {C S K : String} {n : Nat} (w : (Jvm.Cond.superclass C S).before a0 Z = true) (wk : (Jvm.Cond.instantiable K n).before a0 Z = true) (N : NS Z C K) (hn : C ≠ K) : ∃ c t, Z.vm.findClass C = some c ∧ Z.vm.findClass K = some t ∧ Z.vm.assignable c t = false := by
  obtain ⟨c, t, h0, g0, n3⟩ := N
  obtain ⟨p, k, kp, h1, h2, h3, h4, h5, -, h7⟩ := Cond.superclass_spec h0 w
  obtain ⟨t', kt, g1, g2, g3, g4, -⟩ := Cond.instantiable_spec wk
  cases g0.symm.trans g1
  have ne := ids_ne h0 g0 hn
  have g5 : kt.isInterface = false := by
    cases hq : kt.isInterface <;> simp [hq] at g4 ⊢
  refine ⟨c, t, h0, g0, ?_⟩
  show Z.vm.assignableAux (255 + 1) c t = false
  simp [Vm.assignableAux, ne, h2, g2, h5, g3, g5, Vm.isSubclass, n3]
theorem own_z0 {Z : State} {n0 : Nat} {h : Heap} (O : Old Z n0 h) : n0 ≤ h.size := O.1 ▸ O.2.1

theorem own_wS {Z : State} {a0 : Array Value} (hw : ∀ d ∈ tables_1, d.before a0 Z = true) : ∀ a ∈ Bundle.stringAtoms, a.before a0 Z = true := by
  intro a ha
  simp only [Bundle.stringAtoms, List.mem_cons, List.not_mem_nil, or_false] at ha
  rcases ha with rfl | rfl | rfl | rfl | rfl | rfl | rfl
  · exact (hw _ (List.mem_of_getElem? (i := 18) rfl))
  · exact (hw _ (List.mem_of_getElem? (i := 19) rfl))
  · exact (hw _ (List.mem_of_getElem? (i := 20) rfl))
  · exact (hw _ (List.mem_of_getElem? (i := 21) rfl))
  · exact (hw _ (List.mem_of_getElem? (i := 22) rfl))
  · exact (hw _ (List.mem_of_getElem? (i := 23) rfl))
  · exact (hw _ (List.mem_of_getElem? (i := 24) rfl))
theorem pn_LimitCountOverPinLaw : plainName "com/example/wallclick/wallclick/LimitCountOverPinLaw" = true := by first | (simp [plainName, overriddenIn]; done) | decide +kernel
theorem ef_pick (m : MethodId) (x0 : Int32) : entryFrame m #[(.int x0)] 2 = mkF m 0 #[.val (.int x0), .unset] [] := by first | (simp [entryFrame, mkF, argsToLocals, Value.category]; done) | rfl
theorem d1_0 : decode method_2_code 0 = .ok (.iload_n 0, 1) := by decide +kernel
theorem d1_1 : decode method_2_code 1 = .ok (.iconst 3, 1) := by decide +kernel
theorem d1_2 : decode method_2_code 2 = .ok (.iand, 1) := by decide +kernel
theorem d1_3 : decode method_2_code 3 = .ok (.istore_n 1, 1) := by decide +kernel
theorem d1_4 : decode method_2_code 4 = .ok (.iload_n 1, 1) := by decide +kernel
theorem d1_5 : decode method_2_code 5 = .ok (.ifCond .ne 7, 3) := by decide +kernel
theorem d1_8 : decode method_2_code 8 = .ok (.getstatic 7, 3) := by decide +kernel
theorem d1_11 : decode method_2_code 11 = .ok (.areturn, 1) := by decide +kernel
theorem d1_12 : decode method_2_code 12 = .ok (.iload_n 1, 1) := by decide +kernel
theorem d1_13 : decode method_2_code 13 = .ok (.iconst 1, 1) := by decide +kernel
theorem d1_14 : decode method_2_code 14 = .ok (.if_icmp .ne 7, 3) := by decide +kernel
theorem d1_17 : decode method_2_code 17 = .ok (.getstatic 13, 3) := by decide +kernel
theorem d1_20 : decode method_2_code 20 = .ok (.areturn, 1) := by decide +kernel
theorem d1_21 : decode method_2_code 21 = .ok (.iload_n 1, 1) := by decide +kernel
theorem d1_22 : decode method_2_code 22 = .ok (.iconst 2, 1) := by decide +kernel
theorem d1_23 : decode method_2_code 23 = .ok (.if_icmp .ne 7, 3) := by decide +kernel
theorem d1_26 : decode method_2_code 26 = .ok (.getstatic 16, 3) := by decide +kernel
theorem d1_29 : decode method_2_code 29 = .ok (.areturn, 1) := by decide +kernel
theorem d1_30 : decode method_2_code 30 = .ok (.getstatic 19, 3) := by decide +kernel
theorem d1_33 : decode method_2_code 33 = .ok (.areturn, 1) := by decide +kernel
theorem pn_Objects : plainName "java/util/Objects" = true := by first | (simp [plainName, overriddenIn]; done) | decide +kernel
theorem ef_requireNonNull (m : MethodId) (x0 : Addr) (x1 : Addr) : entryFrame m #[(.ref x0), (.ref x1)] 2 = mkF m 0 #[.val (.ref x0), .val (.ref x1)] [] := by first | (simp [entryFrame, mkF, argsToLocals, Value.category]; done) | rfl
theorem d4_0 : decode jdk_31_method_11_code 0 = .ok (.aload_n 0, 1) := by decide +kernel
theorem d4_1 : decode jdk_31_method_11_code 1 = .ok (.ifnonnull 12, 3) := by decide +kernel
theorem d4_13 : decode jdk_31_method_11_code 13 = .ok (.aload_n 0, 1) := by decide +kernel
theorem d4_14 : decode jdk_31_method_11_code 14 = .ok (.areturn, 1) := by decide +kernel
theorem pn_Limit : plainName "com/example/wallclick/wallclick/Limit" = true := by first | (simp [plainName, overriddenIn]; done) | decide +kernel
theorem ef_liInit (m : MethodId) (x0 : Addr) (x1 : Int64) (x2 : Addr) : entryFrame m #[(.ref x0), (.long x1), (.ref x2)] 4 = mkF m 0 #[.val (.ref x0), .val (.long x1), .second, .val (.ref x2)] [] := by first | (simp [entryFrame, mkF, argsToLocals, Value.category]; done) | rfl
theorem d2_0 : decode prog_9_method_1_code 0 = .ok (.aload_n 0, 1) := by decide +kernel
theorem d2_1 : decode prog_9_method_1_code 1 = .ok (.invokespecial 1, 3) := by decide +kernel
theorem d2_4 : decode prog_9_method_1_code 4 = .ok (.aload_n 3, 1) := by decide +kernel
theorem d2_5 : decode prog_9_method_1_code 5 = .ok (.ldc 7, 2) := by decide +kernel
theorem d2_7 : decode prog_9_method_1_code 7 = .ok (.invokestatic 9, 3) := by decide +kernel
theorem pd_ct_Ljava_lang_String__Ljava_lang_Object__56 : parseMethodDescriptor "(Ljava/lang/Object;Ljava/lang/String;)Ljava/lang/Object;" = some ⟨[(.object "java/lang/Object"), (.object "java/lang/String")], some (.object "java/lang/Object")⟩ := by decide +kernel
theorem d2_10 : decode prog_9_method_1_code 10 = .ok (.pop, 1) := by decide +kernel
theorem d2_11 : decode prog_9_method_1_code 11 = .ok (.lload_n 1, 1) := by decide +kernel
theorem d2_12 : decode prog_9_method_1_code 12 = .ok (.lconst 0, 1) := by decide +kernel
theorem d2_13 : decode prog_9_method_1_code 13 = .ok (.lcmp, 1) := by decide +kernel
theorem d2_14 : decode prog_9_method_1_code 14 = .ok (.ifCond .ge 17, 3) := by decide +kernel
theorem d2_31 : decode prog_9_method_1_code 31 = .ok (.aload_n 0, 1) := by decide +kernel
theorem d2_32 : decode prog_9_method_1_code 32 = .ok (.lload_n 1, 1) := by decide +kernel
theorem d2_33 : decode prog_9_method_1_code 33 = .ok (.putfield 24, 3) := by decide +kernel
theorem d2_36 : decode prog_9_method_1_code 36 = .ok (.aload_n 0, 1) := by decide +kernel
theorem d2_37 : decode prog_9_method_1_code 37 = .ok (.aload_n 3, 1) := by decide +kernel
theorem d2_38 : decode prog_9_method_1_code 38 = .ok (.putfield 30, 3) := by decide +kernel
theorem d2_41 : decode prog_9_method_1_code 41 = .ok (.return_, 1) := by decide +kernel
theorem pn_LimitCount : plainName "com/example/wallclick/wallclick/LimitCount" = true := by first | (simp [plainName, overriddenIn]; done) | decide +kernel
theorem ef_lcInit (m : MethodId) (x0 : Addr) (x1 : Int64) (x2 : Addr) : entryFrame m #[(.ref x0), (.long x1), (.ref x2)] 4 = mkF m 0 #[.val (.ref x0), .val (.long x1), .second, .val (.ref x2)] [] := by first | (simp [entryFrame, mkF, argsToLocals, Value.category]; done) | rfl
theorem d5_0 : decode prog_10_method_1_code 0 = .ok (.aload_n 0, 1) := by decide +kernel
theorem d5_1 : decode prog_10_method_1_code 1 = .ok (.invokespecial 1, 3) := by decide +kernel
theorem d5_4 : decode prog_10_method_1_code 4 = .ok (.aload_n 0, 1) := by decide +kernel
theorem d5_5 : decode prog_10_method_1_code 5 = .ok (.lload_n 1, 1) := by decide +kernel
theorem d5_6 : decode prog_10_method_1_code 6 = .ok (.putfield 7, 3) := by decide +kernel
theorem d5_9 : decode prog_10_method_1_code 9 = .ok (.aload_n 0, 1) := by decide +kernel
theorem d5_10 : decode prog_10_method_1_code 10 = .ok (.aload_n 3, 1) := by decide +kernel
theorem d5_11 : decode prog_10_method_1_code 11 = .ok (.ldc 13, 2) := by decide +kernel
theorem d5_13 : decode prog_10_method_1_code 13 = .ok (.invokestatic 15, 3) := by decide +kernel
theorem d5_16 : decode prog_10_method_1_code 16 = .ok (.checkcast 21, 3) := by decide +kernel
theorem d5_19 : decode prog_10_method_1_code 19 = .ok (.putfield 23, 3) := by decide +kernel
theorem d5_22 : decode prog_10_method_1_code 22 = .ok (.return_, 1) := by decide +kernel
theorem ef_most (m : MethodId) (x0 : Addr) : entryFrame m #[(.ref x0)] 1 = mkF m 0 #[.val (.ref x0)] [] := by first | (simp [entryFrame, mkF, argsToLocals, Value.category]; done) | rfl
theorem d7_0 : decode prog_9_method_2_code 0 = .ok (.aload_n 0, 1) := by decide +kernel
theorem d7_1 : decode prog_9_method_2_code 1 = .ok (.getfield 24, 3) := by decide +kernel
theorem d7_4 : decode prog_9_method_2_code 4 = .ok (.lreturn, 1) := by decide +kernel
theorem ef_over (m : MethodId) (x0 : Addr) : entryFrame m #[(.ref x0)] 1 = mkF m 0 #[.val (.ref x0)] [] := by first | (simp [entryFrame, mkF, argsToLocals, Value.category]; done) | rfl
theorem d6_0 : decode prog_10_method_4_code 0 = .ok (.aload_n 0, 1) := by decide +kernel
theorem d6_1 : decode prog_10_method_4_code 1 = .ok (.getfield 7, 3) := by decide +kernel
theorem d6_4 : decode prog_10_method_4_code 4 = .ok (.aload_n 0, 1) := by decide +kernel
theorem d6_5 : decode prog_10_method_4_code 5 = .ok (.getfield 23, 3) := by decide +kernel
theorem d6_8 : decode prog_10_method_4_code 8 = .ok (.invokevirtual 26, 3) := by decide +kernel
theorem pd___J_3 : parseMethodDescriptor "()J" = some ⟨[], some .long⟩ := by decide +kernel
theorem d6_11 : decode prog_10_method_4_code 11 = .ok (.lcmp, 1) := by decide +kernel
theorem d6_12 : decode prog_10_method_4_code 12 = .ok (.ifCond .le 7, 3) := by decide +kernel
theorem d6_15 : decode prog_10_method_4_code 15 = .ok (.iconst 1, 1) := by decide +kernel
theorem d6_16 : decode prog_10_method_4_code 16 = .ok (.goto 4, 3) := by decide +kernel
theorem d6_20 : decode prog_10_method_4_code 20 = .ok (.ireturn, 1) := by decide +kernel
theorem d6_19 : decode prog_10_method_4_code 19 = .ok (.iconst 0, 1) := by decide +kernel
theorem own_mask (p : Int64) : 0 ≤ (p &&& (9223372036854775807 : Int64)).toInt := by
  have h : (p &&& (9223372036854775807 : Int64)).toInt = p.toInt % (2 ^ 63 : Nat) := c_maskL p 9223372036854775807 63 (by decide) (by decide)
  omega
theorem own_m (p : Int64) : ¬ ((lcmpW (p &&& (9223372036854775807 : Int64)) (0 : Int64)) < (0 : Int32)) := by
  rw [lw_lt, Int64.lt_iff_toInt_lt]
  have := own_mask p
  have k : (0 : Int64).toInt = 0 := rfl
  omega
theorem ef_law (m : MethodId) (x0 : Int64) (x1 : Int64) (x2 : Int32) : entryFrame m #[(.long x0), (.long x1), (.int x2)] maxLocals = mkF m 0 #[.val (.long x0), .second, .val (.long x1), .second, .val (.int x2), .unset, .unset, .unset, .unset, .unset, .unset] [] := by first | (simp [entryFrame, mkF, argsToLocals, Value.category, maxLocals]; done) | rfl
theorem pd_example_wallclick_wallclick_Granularity__48 : parseMethodDescriptor "(I)Lcom/example/wallclick/wallclick/Granularity;" = some ⟨[.int], some (.object "com/example/wallclick/wallclick/Granularity")⟩ := by decide +kernel
theorem pd_ample_wallclick_wallclick_Granularity__V_49 : parseMethodDescriptor "(JLcom/example/wallclick/wallclick/Granularity;)V" = some ⟨[.long, (.object "com/example/wallclick/wallclick/Granularity")], none⟩ := by decide +kernel
theorem pd_com_example_wallclick_wallclick_Limit__V_43 : parseMethodDescriptor "(JLcom/example/wallclick/wallclick/Limit;)V" = some ⟨[.long, (.object "com/example/wallclick/wallclick/Limit")], none⟩ := by decide +kernel
theorem pd___Z_3 : parseMethodDescriptor "()Z" = some ⟨[], some .boolean⟩ := by decide +kernel
def v_g (p1 : Int32) : Int32 := (p1 &&& (3 : Int32))
def f_pick (gS : Addr) (gM : Addr) (gH : Addr) (gD : Addr) (p1 : Int32) : Addr := (if (v_g p1) = (0 : Int32) then gS else (if (v_g p1) = (1 : Int32) then gM else (if (v_g p1) = (2 : Int32) then gH else gD)))
set_option maxRecDepth 65536 in
set_option maxHeartbeats 40000000 in
theorem rm_pick (l : Launch) (Z : State) (a0 : Array Value) (hw : ∀ d ∈ tables_1, d.before a0 Z = true) (ws : List Jvm.Cond) (gS : Addr) (gM : Addr) (gH : Addr) (gD : Addr) (p1 : Int32) (h0 : Heap) (n0 : Nat) (Z0 : n0 ≤ h0.size) (O0 : Old Z n0 h0) (S_gS : Sta Z Z.heap "com/example/wallclick/wallclick/Granularity" "SECOND" "Lcom/example/wallclick/wallclick/Granularity;" (.ref gS)) (S_gM : Sta Z Z.heap "com/example/wallclick/wallclick/Granularity" "MINUTE" "Lcom/example/wallclick/wallclick/Granularity;" (.ref gM)) (S_gH : Sta Z Z.heap "com/example/wallclick/wallclick/Granularity" "HOUR" "Lcom/example/wallclick/wallclick/Granularity;" (.ref gH)) (S_gD : Sta Z Z.heap "com/example/wallclick/wallclick/Granularity" "DAY" "Lcom/example/wallclick/wallclick/Granularity;" (.ref gD)) :
    MetFree l (⟨"com/example/wallclick/wallclick/LimitCountOverPinLaw", "pick", "(I)Lcom/example/wallclick/wallclick/Granularity;"⟩ : MethodName) (head1 (Jvm.Cond.code (⟨"com/example/wallclick/wallclick/LimitCountOverPinLaw", "pick", "(I)Lcom/example/wallclick/wallclick/Granularity;"⟩ : MethodName) method_2_code 2 (some (.object "com/example/wallclick/wallclick/Granularity")) :: ws) ({ frames := 0, cells := 0, slots := 0, locals := 0 } : Room)) (fun a U => a = #[(.int p1)] ∧ Z.Warmed39 U.vm ∧ U.heap = h0) (fun _ _ _ _ _ => True) (fun _ U o U' => ∃ v L, o = .returned v ∧ PureQ (some (.ref (f_pick gS gM gH gD p1))) h0 n0 v U'.heap L ∧ FrameEnd U o U' L ({ frames := 0, cells := 0, slots := 0, locals := 0 } : Room).cells ({ frames := 0, cells := 0, slots := 0, locals := 0 } : Room).slots) := by
  refine MetFree.of_bodySF (plainFor_of_name pn_LimitCountOverPinLaw) hisR ?_
  intro p e s m args below meth c s₁ Bd hml0 hP hK
  obtain ⟨rfl, hZ, hh⟩ := hP
  have hx := Bd.exec
  have hby := Bd.bytes
  have hml : c.maxLocals = 2 := hml0
  have hown : s.vm.findClass "com/example/wallclick/wallclick/LimitCountOverPinLaw" = some m.cls := findClass_of_methodNamed Bd.named
  have hnm := (name_of_methodNamed Bd.named Bd.method).1
  have X0 : Stand p l e ({ frames := 0, cells := 0, slots := 0, locals := 0 } : Room) s m #[(.int p1)] below meth c s₁ [] 0 0 := Stand.of_body Bd
  have e0 : s₁.heap = h0 := by rw [← hh, Bd.state]; rfl
  have N0 := Fr.nil n0
  have pre0 : ∀ t, Steps p.tables e below (s₁.setTop (mkF m 0 #[.val (.int p1), .unset] [])) t → Steps p.tables e below (s₁.setTop (entryFrame m #[(.int p1)] 2)) t := fun t k => castTop (ef_pick m p1) k
  have pre1 : ∀ t, Steps p.tables e below (s₁.setTop (mkF m 5 #[.val (.int p1), .val (.int (v_g p1))] [(.int (v_g p1))])) t → Steps p.tables e below (s₁.setTop (entryFrame m #[(.int p1)] 2)) t := fun t k => pre0 t (by
      show Steps p.tables e below (s₁.setTop (mkF m 0 #[.val (.int p1), .unset] [])) _
      refine XS.iloadN X0.here hx rfl (hb hby d1_0) rfl ?_
      show Steps p.tables e below (s₁.setTop (mkF m 1 #[.val (.int p1), .unset] [(.int p1)])) _
      refine XS.iconst X0.here hx rfl (hb hby d1_1) ?_
      show Steps p.tables e below (s₁.setTop (mkF m 2 #[.val (.int p1), .unset] [(.int (3 : Int32)), (.int p1)])) _
      refine XS.iand X0.here hx rfl (hb hby d1_2) rfl ?_
      show Steps p.tables e below (s₁.setTop (mkF m 3 #[.val (.int p1), .unset] [(.int (v_g p1))])) _
      refine XS.istoreN X0.here hx rfl (hb hby d1_3) rfl (l' := #[.val (.int p1), .val (.int (v_g p1))]) rfl ?_
      show Steps p.tables e below (s₁.setTop (mkF m 4 #[.val (.int p1), .val (.int (v_g p1))] [])) _
      refine XS.iloadN X0.here hx rfl (hb hby d1_4) rfl ?_
      exact k)
  by_cases g2 : (v_g p1) = (0 : Int32)
  · skip
    obtain ⟨T3, X3, e3, st3⟩ := getS2 X0 hx hZ hown (host := "") (Or.inl (hw _ (List.mem_of_getElem? (i := 8) rfl))) Via.refl e0 (S_gS.ext O0.2) (g := (mkF m 8 #[.val (.int p1), .val (.int (v_g p1))] [])) rfl (hb hby d1_8)
    obtain ⟨fs, hr, hrun, hended, hW, hsame⟩ := X3.leave (v := some (.ref gS)) (fun h => by rw [Bd.returns] at h; cases h)
    refine ⟨_, _, pre1 _ ?_, hrun, hended, _, _, rfl, ?_, ⟨_, rfl⟩, hW, hsame.mono (by decide) (by decide)⟩
    · show Steps p.tables e below (s₁.setTop (mkF m 5 #[.val (.int p1), .val (.int (v_g p1))] [(.int (v_g p1))])) _
      refine XS.ifNo X0.here hx rfl (hb hby d1_5) rfl ((if0 _ _).trans (teq g2).2) ?_
      show Steps p.tables e below (s₁.setTop (mkF m 8 #[.val (.int p1), .val (.int (v_g p1))] [])) _
      refine st3 _ ?_
      show Steps p.tables e below (T3.setTop (mkF m 11 #[.val (.int p1), .val (.int (v_g p1))] [(.ref gS)])) _
      jvm_step X3.here [X3.here.top, hx, (hb hby d1_11), X3.method', Bd.returns, Value.isRef, FieldType.isReference]
      first | (intro acts; rw [hr _ acts rfl rfl rfl]) | rw [hr _ _ rfl rfl rfl]
      exact Steps.refl _
    · exact ⟨by simp only [f_pick, if_pos g2], N0, e3⟩
  · skip
    have pre4 : ∀ t, Steps p.tables e below (s₁.setTop (mkF m 14 #[.val (.int p1), .val (.int (v_g p1))] [(.int (1 : Int32)), (.int (v_g p1))])) t → Steps p.tables e below (s₁.setTop (entryFrame m #[(.int p1)] 2)) t := fun t k => pre1 t (by
        show Steps p.tables e below (s₁.setTop (mkF m 5 #[.val (.int p1), .val (.int (v_g p1))] [(.int (v_g p1))])) _
        refine XS.ifYes X0.here hx rfl (pc0 := 5) (pc' := 12) rfl (hb hby d1_5) rfl ((if0 _ _).trans (feq g2).2) (by decide) (by decide) ?_
        show Steps p.tables e below (s₁.setTop (mkF m 12 #[.val (.int p1), .val (.int (v_g p1))] [])) _
        refine XS.iloadN X0.here hx rfl (hb hby d1_12) rfl ?_
        show Steps p.tables e below (s₁.setTop (mkF m 13 #[.val (.int p1), .val (.int (v_g p1))] [(.int (v_g p1))])) _
        refine XS.iconst X0.here hx rfl (hb hby d1_13) ?_
        exact k)
    by_cases g5 : (v_g p1) = (1 : Int32)
    · skip
      obtain ⟨T6, X6, e6, st6⟩ := getS2 X0 hx hZ hown (host := "") (Or.inl (hw _ (List.mem_of_getElem? (i := 60) rfl))) Via.refl e0 (S_gM.ext O0.2) (g := (mkF m 17 #[.val (.int p1), .val (.int (v_g p1))] [])) rfl (hb hby d1_17)
      obtain ⟨fs, hr, hrun, hended, hW, hsame⟩ := X6.leave (v := some (.ref gM)) (fun h => by rw [Bd.returns] at h; cases h)
      refine ⟨_, _, pre4 _ ?_, hrun, hended, _, _, rfl, ?_, ⟨_, rfl⟩, hW, hsame.mono (by decide) (by decide)⟩
      · show Steps p.tables e below (s₁.setTop (mkF m 14 #[.val (.int p1), .val (.int (v_g p1))] [(.int (1 : Int32)), (.int (v_g p1))])) _
        refine XS.icmpNo X0.here hx rfl (hb hby d1_14) rfl (teq g5).2 ?_
        show Steps p.tables e below (s₁.setTop (mkF m 17 #[.val (.int p1), .val (.int (v_g p1))] [])) _
        refine st6 _ ?_
        show Steps p.tables e below (T6.setTop (mkF m 20 #[.val (.int p1), .val (.int (v_g p1))] [(.ref gM)])) _
        jvm_step X6.here [X6.here.top, hx, (hb hby d1_20), X6.method', Bd.returns, Value.isRef, FieldType.isReference]
        first | (intro acts; rw [hr _ acts rfl rfl rfl]) | rw [hr _ _ rfl rfl rfl]
        exact Steps.refl _
      · exact ⟨by simp only [f_pick, if_neg g2, if_pos g5], N0, e6⟩
    · skip
      have pre7 : ∀ t, Steps p.tables e below (s₁.setTop (mkF m 23 #[.val (.int p1), .val (.int (v_g p1))] [(.int (2 : Int32)), (.int (v_g p1))])) t → Steps p.tables e below (s₁.setTop (entryFrame m #[(.int p1)] 2)) t := fun t k => pre4 t (by
          show Steps p.tables e below (s₁.setTop (mkF m 14 #[.val (.int p1), .val (.int (v_g p1))] [(.int (1 : Int32)), (.int (v_g p1))])) _
          refine XS.icmpYes X0.here hx rfl (pc0 := 14) (pc' := 21) rfl (hb hby d1_14) rfl (feq g5).2 (by decide) (by decide) ?_
          show Steps p.tables e below (s₁.setTop (mkF m 21 #[.val (.int p1), .val (.int (v_g p1))] [])) _
          refine XS.iloadN X0.here hx rfl (hb hby d1_21) rfl ?_
          show Steps p.tables e below (s₁.setTop (mkF m 22 #[.val (.int p1), .val (.int (v_g p1))] [(.int (v_g p1))])) _
          refine XS.iconst X0.here hx rfl (hb hby d1_22) ?_
          exact k)
      by_cases g8 : (v_g p1) = (2 : Int32)
      · skip
        obtain ⟨T9, X9, e9, st9⟩ := getS2 X0 hx hZ hown (host := "") (Or.inl (hw _ (List.mem_of_getElem? (i := 62) rfl))) Via.refl e0 (S_gH.ext O0.2) (g := (mkF m 26 #[.val (.int p1), .val (.int (v_g p1))] [])) rfl (hb hby d1_26)
        obtain ⟨fs, hr, hrun, hended, hW, hsame⟩ := X9.leave (v := some (.ref gH)) (fun h => by rw [Bd.returns] at h; cases h)
        refine ⟨_, _, pre7 _ ?_, hrun, hended, _, _, rfl, ?_, ⟨_, rfl⟩, hW, hsame.mono (by decide) (by decide)⟩
        · show Steps p.tables e below (s₁.setTop (mkF m 23 #[.val (.int p1), .val (.int (v_g p1))] [(.int (2 : Int32)), (.int (v_g p1))])) _
          refine XS.icmpNo X0.here hx rfl (hb hby d1_23) rfl (teq g8).2 ?_
          show Steps p.tables e below (s₁.setTop (mkF m 26 #[.val (.int p1), .val (.int (v_g p1))] [])) _
          refine st9 _ ?_
          show Steps p.tables e below (T9.setTop (mkF m 29 #[.val (.int p1), .val (.int (v_g p1))] [(.ref gH)])) _
          jvm_step X9.here [X9.here.top, hx, (hb hby d1_29), X9.method', Bd.returns, Value.isRef, FieldType.isReference]
          first | (intro acts; rw [hr _ acts rfl rfl rfl]) | rw [hr _ _ rfl rfl rfl]
          exact Steps.refl _
        · exact ⟨by simp only [f_pick, if_neg g2, if_neg g5, if_pos g8], N0, e9⟩
      · skip
        obtain ⟨T10, X10, e10, st10⟩ := getS2 X0 hx hZ hown (host := "") (Or.inl (hw _ (List.mem_of_getElem? (i := 58) rfl))) Via.refl e0 (S_gD.ext O0.2) (g := (mkF m 30 #[.val (.int p1), .val (.int (v_g p1))] [])) rfl (hb hby d1_30)
        obtain ⟨fs, hr, hrun, hended, hW, hsame⟩ := X10.leave (v := some (.ref gD)) (fun h => by rw [Bd.returns] at h; cases h)
        refine ⟨_, _, pre7 _ ?_, hrun, hended, _, _, rfl, ?_, ⟨_, rfl⟩, hW, hsame.mono (by decide) (by decide)⟩
        · show Steps p.tables e below (s₁.setTop (mkF m 23 #[.val (.int p1), .val (.int (v_g p1))] [(.int (2 : Int32)), (.int (v_g p1))])) _
          refine XS.icmpYes X0.here hx rfl (pc0 := 23) (pc' := 30) rfl (hb hby d1_23) rfl (feq g8).2 (by decide) (by decide) ?_
          show Steps p.tables e below (s₁.setTop (mkF m 30 #[.val (.int p1), .val (.int (v_g p1))] [])) _
          refine st10 _ ?_
          show Steps p.tables e below (T10.setTop (mkF m 33 #[.val (.int p1), .val (.int (v_g p1))] [(.ref gD)])) _
          jvm_step X10.here [X10.here.top, hx, (hb hby d1_33), X10.method', Bd.returns, Value.isRef, FieldType.isReference]
          first | (intro acts; rw [hr _ acts rfl rfl rfl]) | rw [hr _ _ rfl rfl rfl]
          exact Steps.refl _
        · exact ⟨by simp only [f_pick, if_neg g2, if_neg g5, if_neg g8], N0, e10⟩
set_option maxRecDepth 65536 in
set_option maxHeartbeats 40000000 in
theorem rm_requireNonNull (l : Launch) (Z : State) (a0 : Array Value) (hw : ∀ d ∈ tables_1, d.before a0 Z = true) (ws : List Jvm.Cond) (gS : Addr) (gM : Addr) (gH : Addr) (gD : Addr) (a1 : Addr) (a2 : Addr) (h0 : Heap) (n0 : Nat) (Z0 : n0 ≤ h0.size) (O0 : Old Z n0 h0) (S_gS : Sta Z Z.heap "com/example/wallclick/wallclick/Granularity" "SECOND" "Lcom/example/wallclick/wallclick/Granularity;" (.ref gS)) (S_gM : Sta Z Z.heap "com/example/wallclick/wallclick/Granularity" "MINUTE" "Lcom/example/wallclick/wallclick/Granularity;" (.ref gM)) (S_gH : Sta Z Z.heap "com/example/wallclick/wallclick/Granularity" "HOUR" "Lcom/example/wallclick/wallclick/Granularity;" (.ref gH)) (S_gD : Sta Z Z.heap "com/example/wallclick/wallclick/Granularity" "DAY" "Lcom/example/wallclick/wallclick/Granularity;" (.ref gD)) :
    MetFree l (⟨"java/util/Objects", "requireNonNull", "(Ljava/lang/Object;Ljava/lang/String;)Ljava/lang/Object;"⟩ : MethodName) (head1 (Jvm.Cond.code (⟨"java/util/Objects", "requireNonNull", "(Ljava/lang/Object;Ljava/lang/String;)Ljava/lang/Object;"⟩ : MethodName) jdk_31_method_11_code 2 (some (.object "java/lang/Object")) :: ws) ({ frames := 0, cells := 0, slots := 0, locals := 0 } : Room)) (fun a U => a = #[(.ref a1), (.ref a2)] ∧ Z.Warmed39 U.vm ∧ U.heap = h0) (fun _ _ _ _ _ => True) (fun _ U o U' => ∃ v L, o = .returned v ∧ PureQ (some (.ref a1)) h0 n0 v U'.heap L ∧ FrameEnd U o U' L ({ frames := 0, cells := 0, slots := 0, locals := 0 } : Room).cells ({ frames := 0, cells := 0, slots := 0, locals := 0 } : Room).slots) := by
  refine MetFree.of_bodySF (plainFor_of_name pn_Objects) hisR ?_
  intro p e s m args below meth c s₁ Bd hml0 hP hK
  obtain ⟨rfl, hZ, hh⟩ := hP
  have hx := Bd.exec
  have hby := Bd.bytes
  have hml : c.maxLocals = 2 := hml0
  have hown : s.vm.findClass "java/util/Objects" = some m.cls := findClass_of_methodNamed Bd.named
  have hnm := (name_of_methodNamed Bd.named Bd.method).1
  have X0 : Stand p l e ({ frames := 0, cells := 0, slots := 0, locals := 0 } : Room) s m #[(.ref a1), (.ref a2)] below meth c s₁ [] 0 0 := Stand.of_body Bd
  have e0 : s₁.heap = h0 := by rw [← hh, Bd.state]; rfl
  have N0 := Fr.nil n0
  have pre0 : ∀ t, Steps p.tables e below (s₁.setTop (mkF m 0 #[.val (.ref a1), .val (.ref a2)] [])) t → Steps p.tables e below (s₁.setTop (entryFrame m #[(.ref a1), (.ref a2)] 2)) t := fun t k => castTop (ef_requireNonNull m a1 a2) k
  obtain ⟨fs, hr, hrun, hended, hW, hsame⟩ := X0.leave (v := some (.ref a1)) (fun h => by rw [Bd.returns] at h; cases h)
  refine ⟨_, _, pre0 _ ?_, hrun, hended, _, _, rfl, ?_, ⟨_, rfl⟩, hW, hsame.mono (by decide) (by decide)⟩
  · show Steps p.tables e below (s₁.setTop (mkF m 0 #[.val (.ref a1), .val (.ref a2)] [])) _
    refine XS.aloadN X0.here hx rfl (hb hby d4_0) rfl rfl ?_
    show Steps p.tables e below (s₁.setTop (mkF m 1 #[.val (.ref a1), .val (.ref a2)] [(.ref a1)])) _
    refine XS.ifnonnullYes X0.here hx rfl (pc0 := 1) (pc' := 13) rfl (hb hby d4_1) rfl (by decide) (by decide) ?_
    show Steps p.tables e below (s₁.setTop (mkF m 13 #[.val (.ref a1), .val (.ref a2)] [])) _
    refine XS.aloadN X0.here hx rfl (hb hby d4_13) rfl rfl ?_
    show Steps p.tables e below (s₁.setTop (mkF m 14 #[.val (.ref a1), .val (.ref a2)] [(.ref a1)])) _
    jvm_step X0.here [X0.here.top, hx, (hb hby d4_14), X0.method', Bd.returns, Value.isRef, FieldType.isReference]
    first | (intro acts; rw [hr _ acts rfl rfl rfl]) | rw [hr _ _ rfl rfl rfl]
    exact Steps.refl _
  · exact ⟨rfl, N0, e0⟩
def Q_liInit (Z : State) (gS : Addr) (gM : Addr) (gH : Addr) (gD : Addr) (a1 : Addr) (p2 : Int64) (a3 : Addr) (h0 : Heap) (n0 : Nat) (v : Option Value) (h : Heap) (L : List Loc) : Prop := v = none ∧ Fr n0 L ∧ Keep h0 h [a1] ∧ Exa Z h a1 "com/example/wallclick/wallclick/Limit" ∧ Fld Z h a1 "com/example/wallclick/wallclick/Limit" "most" "J" (.long p2)
set_option maxRecDepth 65536 in
set_option maxHeartbeats 40000000 in
theorem rm_liInit (l : Launch) (Z : State) (a0 : Array Value) (hw : ∀ d ∈ tables_1, d.before a0 Z = true) (ws : List Jvm.Cond) (gS : Addr) (gM : Addr) (gH : Addr) (gD : Addr) (a1 : Addr) (p2 : Int64) (a3 : Addr) (h0 : Heap) (n0 : Nat) (Z0 : n0 ≤ h0.size) (O0 : Old Z n0 h0) (S_gS : Sta Z Z.heap "com/example/wallclick/wallclick/Granularity" "SECOND" "Lcom/example/wallclick/wallclick/Granularity;" (.ref gS)) (S_gM : Sta Z Z.heap "com/example/wallclick/wallclick/Granularity" "MINUTE" "Lcom/example/wallclick/wallclick/Granularity;" (.ref gM)) (S_gH : Sta Z Z.heap "com/example/wallclick/wallclick/Granularity" "HOUR" "Lcom/example/wallclick/wallclick/Granularity;" (.ref gH)) (S_gD : Sta Z Z.heap "com/example/wallclick/wallclick/Granularity" "DAY" "Lcom/example/wallclick/wallclick/Granularity;" (.ref gD)) (r0 : Exa Z h0 a1 "com/example/wallclick/wallclick/Limit") (r1 : Fld Z h0 a1 "com/example/wallclick/wallclick/Limit" "most" "J" (.long (0 : Int64))) (r2 : Fld Z h0 a1 "com/example/wallclick/wallclick/Limit" "per" "Lcom/example/wallclick/wallclick/Granularity;" .null) (g_a1 : n0 ≤ a1) (hm : ¬ ((lcmpW p2 (0 : Int64)) < (0 : Int32))) :
    MetFree l (⟨"com/example/wallclick/wallclick/Limit", "<init>", "(JLcom/example/wallclick/wallclick/Granularity;)V"⟩ : MethodName) (head1 (Jvm.Cond.code (⟨"com/example/wallclick/wallclick/Limit", "<init>", "(JLcom/example/wallclick/wallclick/Granularity;)V"⟩ : MethodName) prog_9_method_1_code 4 none :: ws) ({ frames := 1, cells := 2, slots := 16, locals := 13 } : Room)) (fun a U => a = #[(.ref a1), (.long p2), (.ref a3)] ∧ Z.Warmed39 U.vm ∧ U.heap = h0) (fun _ _ _ _ _ => True) (fun _ U o U' => ∃ v L, o = .returned v ∧ Q_liInit Z gS gM gH gD a1 p2 a3 h0 n0 v U'.heap L ∧ ReturnedEndW U o U' L ({ frames := 1, cells := 2, slots := 16, locals := 13 } : Room).cells ({ frames := 1, cells := 2, slots := 16, locals := 13 } : Room).slots) := by
  refine MetFree.of_bodySF (plainFor_of_name pn_Limit) hisR ?_
  intro p e s m args below meth c s₁ Bd hml0 hP hK
  obtain ⟨rfl, hZ, hh⟩ := hP
  have hx := Bd.exec
  have hby := Bd.bytes
  have hml : c.maxLocals = 4 := hml0
  have hown : s.vm.findClass "com/example/wallclick/wallclick/Limit" = some m.cls := findClass_of_methodNamed Bd.named
  have hnm := (name_of_methodNamed Bd.named Bd.method).1
  have X0 : Stand p l e ({ frames := 1, cells := 2, slots := 16, locals := 13 } : Room) (s.setVm s.vm) m #[(.ref a1), (.long p2), (.ref a3)] below meth c s₁ [] 0 0 := Stand.of_body Bd
  have e0 : s₁.heap = h0 := by rw [← hh, Bd.state]; rfl
  have N0 := Fr.nil n0
  have pre0 : ∀ t, Steps p.tables e below (s₁.setTop (mkF m 0 #[.val (.ref a1), .val (.long p2), .second, .val (.ref a3)] [])) t → Steps p.tables e below (s₁.setTop (entryFrame m #[(.ref a1), (.long p2), (.ref a3)] 4)) t := fun t k => castTop (ef_liInit m a1 p2 a3) k
  have hS0 : s.Since s.vm 0 := (State.WarmedH.refl s).since 0
  have hZ : Z.Warmed39 (s.setVm s.vm).vm := hZ
  have hown : (s.setVm s.vm).vm.findClass "com/example/wallclick/wallclick/Limit" = some m.cls := hown
  obtain ⟨T1, X1, e1, st1⟩ := initO X0 hx hZ hown (hw _ (List.mem_of_getElem? (i := 14) rfl)) (hw _ (List.mem_of_getElem? (i := 15) rfl)) (hw _ (List.mem_of_getElem? (i := 16) rfl)) e0 (g := (mkF m 1 #[.val (.ref a1), .val (.long p2), .second, .val (.ref a3)] [(.ref a1)])) rfl (by rw [hml]; rfl) rfl (hb hby d2_1) (by decide) (W := 0) (by show 2 * 0 + _ ≤ _; exact Nat.le_of_eq rfl) (by decide)
  have pre2 : ∀ t, Steps p.tables e below (T1.setTop (mkF m 5 #[.val (.ref a1), .val (.long p2), .second, .val (.ref a3)] [(.ref a3)])) t → Steps p.tables e below (s₁.setTop (entryFrame m #[(.ref a1), (.long p2), (.ref a3)] 4)) t := fun t k => pre0 t (by
      show Steps p.tables e below (s₁.setTop (mkF m 0 #[.val (.ref a1), .val (.long p2), .second, .val (.ref a3)] [])) _
      refine XS.aloadN X0.here hx rfl (hb hby d2_0) rfl rfl ?_
      show Steps p.tables e below (s₁.setTop (mkF m 1 #[.val (.ref a1), .val (.long p2), .second, .val (.ref a3)] [(.ref a1)])) _
      refine st1 _ ?_
      show Steps p.tables e below (T1.setTop (mkF m 4 #[.val (.ref a1), .val (.long p2), .second, .val (.ref a3)] [])) _
      refine XS.aloadN X1.here hx rfl (hb hby d2_4) rfl rfl ?_
      show Steps p.tables e below (T1.setTop (mkF m 5 #[.val (.ref a1), .val (.long p2), .second, .val (.ref a3)] [(.ref a3)])) _
      exact k)
  obtain ⟨r3, T3, h3, kk3, X3, e3, E3, hS3, hk3, hZ, hown, st3⟩ := ldcS (s := s) X1 hx hZ hown (hw _ (List.mem_of_getElem? (i := 17) rfl)) (own_wS hw) e1 hS0 (Nat.zero_le _) (g := (mkF m 5 #[.val (.ref a1), .val (.long p2), .second, .val (.ref a3)] [(.ref a3)])) rfl (hb hby d2_5) (n := 12) (by decide) (by decide) (by decide) (by decide)
  have O5 := (O0.ext E3)
  obtain ⟨_, _, ⟨T4, L4, k4, n4⟩, -, X4, ⟨Lc4, hQ4, l4, y4, z4⟩, st4⟩ := Jvm.LawKit.callS X3 hx (y := (⟨"java/util/Objects", "requireNonNull", "(Ljava/lang/Object;Ljava/lang/String;)Ljava/lang/Object;"⟩ : MethodName)) hown (mvT hZ (hw _ (List.mem_of_getElem? (i := 25) rfl))) (mvT hZ (hw _ (List.mem_of_getElem? (i := 26) rfl))) (mvT hZ (hw _ (List.mem_of_getElem? (i := 27) rfl))) (mvT hZ (hw _ (List.mem_of_getElem? (i := 28) rfl))) (by decide) (backOf (W := 0) (rm_requireNonNull l Z a0 hw [] gS gM gH gD a3 r3 h3 n0 (own_z0 O5) O5 S_gS S_gM S_gH S_gD) hZ (hw _ (List.mem_of_getElem? (i := 28) rfl)) (hw _ (List.mem_of_getElem? (i := 27) rfl)) (by decide) (by decide)) (g := (mkF m 7 #[.val (.ref a1), .val (.long p2), .second, .val (.ref a3)] [(.ref r3), (.ref a3)])) rfl (by rw [hml]; rfl) (argsL := [(.ref a3), (.ref r3)]) (rest := []) (lenOf pd_ct_Ljava_lang_String__Ljava_lang_Object__56 rfl) rfl (by show 2 * 0 + _ ≤ _; exact Nat.le_of_eq rfl) (hb hby d2_7) (fun _ _ => ⟨rfl, e3, (by decide : 2 + 0 ≤ _), (by decide : 16 + 0 ≤ _)⟩)
  dsimp only [Pt.U, Pt.locs, Pt.cells, Pt.slots] at X4 l4 y4 z4 st4 hQ4
  subst l4 y4 z4
  obtain ⟨rfl, N4q, e4⟩ := hQ4
  have N4 := Fr.app N0 N4q
  have F7 := (r1.ext E3)
  have F8 := (r0.ext E3)
  obtain ⟨T6, h6, X6, e6, W6, st6⟩ := putF X4 hx hZ hown (host := "") (Or.inl (hw _ (List.mem_of_getElem? (i := 29) rfl))) Via.refl e4 F7 F8 (Or.inr ⟨(hw _ (List.mem_of_getElem? (i := 30) rfl)), rfl, hnm⟩) (hw _ (List.mem_of_getElem? (i := 2) rfl)) (ty := .long) (by decide) rfl rfl (g := (mkF m 33 #[.val (.ref a1), .val (.long p2), .second, .val (.ref a3)] [(.long p2), (.ref a1)])) rfl rfl (hb hby d2_33)
  have Fw6 := F7.same W6
  have N6 := Fr.snoc X6 N4 g_a1
  have F10 := ((r2.ext E3).other W6 (Or.inr (slot_ne (Or.inr (hw _ (List.mem_of_getElem? (i := 32) rfl))) (Or.inr (hw _ (List.mem_of_getElem? (i := 30) rfl))) (by decide) (t := (.object "com/example/wallclick/wallclick/Granularity")) (t' := .long) (by decide) (by decide))))
  have F11 := (F8.wr W6)
  obtain ⟨T9, h9, X9, e9, W9, st9⟩ := putF X6 hx hZ hown (host := "") (Or.inl (hw _ (List.mem_of_getElem? (i := 31) rfl))) Via.refl e6 F10 F11 (Or.inr ⟨(hw _ (List.mem_of_getElem? (i := 32) rfl)), rfl, hnm⟩) (hw _ (List.mem_of_getElem? (i := 2) rfl)) (ty := (.object "com/example/wallclick/wallclick/Granularity")) (by decide) rfl rfl (g := (mkF m 38 #[.val (.ref a1), .val (.long p2), .second, .val (.ref a3)] [(.ref a3), (.ref a1)])) rfl rfl (hb hby d2_38)
  have Fw9 := F10.same W9
  have N9 := Fr.snoc X9 N6 g_a1
  have F12 := (F11.wr W9)
  have F13 := (Fw6.other W9 (Or.inr (slot_ne (Or.inr (hw _ (List.mem_of_getElem? (i := 30) rfl))) (Or.inr (hw _ (List.mem_of_getElem? (i := 32) rfl))) (by decide) (t := .long) (t' := (.object "com/example/wallclick/wallclick/Granularity")) (by decide) (by decide))))
  obtain ⟨fs, hr, hrun, hended, hRW⟩ := X9.leaveW hS3 (by rw [e9]; exact (Nat.le_trans (Nat.le_trans hk3 (Keep.of_wr W6).1) (Keep.of_wr W9).1)) (v := none) (fun _ => rfl)
  refine ⟨_, _, pre2 _ ?_, hrun, hended, _, _, rfl, ?_, hRW.1, hRW.2.1, hRW.2.2.1, hRW.2.2.2.mono (by decide) (by decide)⟩
  · refine st3 _ ?_
    show Steps p.tables e below (T3.setTop (mkF m 7 #[.val (.ref a1), .val (.long p2), .second, .val (.ref a3)] [(.ref r3), (.ref a3)])) _
    refine st4 _ ?_
    show Steps p.tables e below (T4.setTop (mkF m 10 #[.val (.ref a1), .val (.long p2), .second, .val (.ref a3)] [(.ref a3)])) _
    refine XS.pop X4.here hx rfl (hb hby d2_10) rfl rfl ?_
    show Steps p.tables e below (T4.setTop (mkF m 11 #[.val (.ref a1), .val (.long p2), .second, .val (.ref a3)] [])) _
    refine XS.lloadN X4.here hx rfl (hb hby d2_11) rfl ?_
    show Steps p.tables e below (T4.setTop (mkF m 12 #[.val (.ref a1), .val (.long p2), .second, .val (.ref a3)] [(.long p2)])) _
    refine XS.lconst X4.here hx rfl (hb hby d2_12) ?_
    show Steps p.tables e below (T4.setTop (mkF m 13 #[.val (.ref a1), .val (.long p2), .second, .val (.ref a3)] [(.long (0 : Int64)), (.long p2)])) _
    refine XS.lcmp X4.here hx rfl (hb hby d2_13) rfl ?_
    show Steps p.tables e below (T4.setTop (mkF m 14 #[.val (.ref a1), .val (.long p2), .second, .val (.ref a3)] [(.int (lcmpW p2 (0 : Int64)))])) _
    refine XS.ifYes X4.here hx rfl (pc0 := 14) (pc' := 31) rfl (hb hby d2_14) rfl ((if0 _ _).trans (flt hm).2.1) (by decide) (by decide) ?_
    show Steps p.tables e below (T4.setTop (mkF m 31 #[.val (.ref a1), .val (.long p2), .second, .val (.ref a3)] [])) _
    refine XS.aloadN X4.here hx rfl (hb hby d2_31) rfl rfl ?_
    show Steps p.tables e below (T4.setTop (mkF m 32 #[.val (.ref a1), .val (.long p2), .second, .val (.ref a3)] [(.ref a1)])) _
    refine XS.lloadN X4.here hx rfl (hb hby d2_32) rfl ?_
    show Steps p.tables e below (T4.setTop (mkF m 33 #[.val (.ref a1), .val (.long p2), .second, .val (.ref a3)] [(.long p2), (.ref a1)])) _
    refine st6 _ ?_
    show Steps p.tables e below (T6.setTop (mkF m 36 #[.val (.ref a1), .val (.long p2), .second, .val (.ref a3)] [])) _
    refine XS.aloadN X6.here hx rfl (hb hby d2_36) rfl rfl ?_
    show Steps p.tables e below (T6.setTop (mkF m 37 #[.val (.ref a1), .val (.long p2), .second, .val (.ref a3)] [(.ref a1)])) _
    refine XS.aloadN X6.here hx rfl (hb hby d2_37) rfl rfl ?_
    show Steps p.tables e below (T6.setTop (mkF m 38 #[.val (.ref a1), .val (.long p2), .second, .val (.ref a3)] [(.ref a3), (.ref a1)])) _
    refine st9 _ ?_
    show Steps p.tables e below (T9.setTop (mkF m 41 #[.val (.ref a1), .val (.long p2), .second, .val (.ref a3)] [])) _
    exact X9.returnOut hx Bd.returns (hb hby d2_41) hr
  · show Q_liInit Z gS gM gH gD a1 p2 a3 h0 n0 _ T9.heap _
    rw [e9]
    exact ⟨rfl, N9, ((((Keep.refl h0 [a1]).ext E3).wr W6 (Or.inl (List.mem_of_getElem? (i := 0) rfl))).wr W9 (Or.inl (List.mem_of_getElem? (i := 0) rfl))), F12, F13⟩
def Q_lcInit (Z : State) (gS : Addr) (gM : Addr) (gH : Addr) (gD : Addr) (a1 : Addr) (p2 : Int64) (a3 : Addr) (h0 : Heap) (n0 : Nat) (v : Option Value) (h : Heap) (L : List Loc) : Prop := v = none ∧ Fr n0 L ∧ Keep h0 h [a1] ∧ Exa Z h a1 "com/example/wallclick/wallclick/LimitCount" ∧ Fld Z h a1 "com/example/wallclick/wallclick/LimitCount" "count" "J" (.long p2) ∧ Fld Z h a1 "com/example/wallclick/wallclick/LimitCount" "limit" "Lcom/example/wallclick/wallclick/Limit;" (.ref a3)
set_option maxRecDepth 65536 in
set_option maxHeartbeats 40000000 in
theorem rm_lcInit (l : Launch) (Z : State) (a0 : Array Value) (hw : ∀ d ∈ tables_1, d.before a0 Z = true) (ws : List Jvm.Cond) (gS : Addr) (gM : Addr) (gH : Addr) (gD : Addr) (a1 : Addr) (p2 : Int64) (a3 : Addr) (h0 : Heap) (n0 : Nat) (Z0 : n0 ≤ h0.size) (O0 : Old Z n0 h0) (S_gS : Sta Z Z.heap "com/example/wallclick/wallclick/Granularity" "SECOND" "Lcom/example/wallclick/wallclick/Granularity;" (.ref gS)) (S_gM : Sta Z Z.heap "com/example/wallclick/wallclick/Granularity" "MINUTE" "Lcom/example/wallclick/wallclick/Granularity;" (.ref gM)) (S_gH : Sta Z Z.heap "com/example/wallclick/wallclick/Granularity" "HOUR" "Lcom/example/wallclick/wallclick/Granularity;" (.ref gH)) (S_gD : Sta Z Z.heap "com/example/wallclick/wallclick/Granularity" "DAY" "Lcom/example/wallclick/wallclick/Granularity;" (.ref gD)) (r0 : Exa Z h0 a1 "com/example/wallclick/wallclick/LimitCount") (r1 : Fld Z h0 a1 "com/example/wallclick/wallclick/LimitCount" "count" "J" (.long (0 : Int64))) (r2 : Fld Z h0 a1 "com/example/wallclick/wallclick/LimitCount" "limit" "Lcom/example/wallclick/wallclick/Limit;" .null) (r3 : Exa Z h0 a3 "com/example/wallclick/wallclick/Limit") (g_a1 : n0 ≤ a1) :
    MetFree l (⟨"com/example/wallclick/wallclick/LimitCount", "<init>", "(JLcom/example/wallclick/wallclick/Limit;)V"⟩ : MethodName) (head1 (Jvm.Cond.code (⟨"com/example/wallclick/wallclick/LimitCount", "<init>", "(JLcom/example/wallclick/wallclick/Limit;)V"⟩ : MethodName) prog_10_method_1_code 4 none :: ws) ({ frames := 1, cells := 2, slots := 24, locals := 14 } : Room)) (fun a U => a = #[(.ref a1), (.long p2), (.ref a3)] ∧ Z.Warmed39 U.vm ∧ U.heap = h0) (fun _ _ _ _ _ => True) (fun _ U o U' => ∃ v L, o = .returned v ∧ Q_lcInit Z gS gM gH gD a1 p2 a3 h0 n0 v U'.heap L ∧ ReturnedEndW U o U' L ({ frames := 1, cells := 2, slots := 24, locals := 14 } : Room).cells ({ frames := 1, cells := 2, slots := 24, locals := 14 } : Room).slots) := by
  refine MetFree.of_bodySF (plainFor_of_name pn_LimitCount) hisR ?_
  intro p e s m args below meth c s₁ Bd hml0 hP hK
  obtain ⟨rfl, hZ, hh⟩ := hP
  have hx := Bd.exec
  have hby := Bd.bytes
  have hml : c.maxLocals = 4 := hml0
  have hown : s.vm.findClass "com/example/wallclick/wallclick/LimitCount" = some m.cls := findClass_of_methodNamed Bd.named
  have hnm := (name_of_methodNamed Bd.named Bd.method).1
  have X0 : Stand p l e ({ frames := 1, cells := 2, slots := 24, locals := 14 } : Room) (s.setVm s.vm) m #[(.ref a1), (.long p2), (.ref a3)] below meth c s₁ [] 0 0 := Stand.of_body Bd
  have e0 : s₁.heap = h0 := by rw [← hh, Bd.state]; rfl
  have N0 := Fr.nil n0
  have pre0 : ∀ t, Steps p.tables e below (s₁.setTop (mkF m 0 #[.val (.ref a1), .val (.long p2), .second, .val (.ref a3)] [])) t → Steps p.tables e below (s₁.setTop (entryFrame m #[(.ref a1), (.long p2), (.ref a3)] 4)) t := fun t k => castTop (ef_lcInit m a1 p2 a3) k
  have hS0 : s.Since s.vm 0 := (State.WarmedH.refl s).since 0
  have hZ : Z.Warmed39 (s.setVm s.vm).vm := hZ
  have hown : (s.setVm s.vm).vm.findClass "com/example/wallclick/wallclick/LimitCount" = some m.cls := hown
  obtain ⟨T1, X1, e1, st1⟩ := initO X0 hx hZ hown (hw _ (List.mem_of_getElem? (i := 39) rfl)) (hw _ (List.mem_of_getElem? (i := 15) rfl)) (hw _ (List.mem_of_getElem? (i := 16) rfl)) e0 (g := (mkF m 1 #[.val (.ref a1), .val (.long p2), .second, .val (.ref a3)] [(.ref a1)])) rfl (by rw [hml]; rfl) rfl (hb hby d5_1) (by decide) (W := 0) (by show 2 * 0 + _ ≤ _; exact Nat.le_of_eq rfl) (by decide)
  obtain ⟨T2, h2, X2, e2, W2, st2⟩ := putF X1 hx hZ hown (host := "") (Or.inl (hw _ (List.mem_of_getElem? (i := 40) rfl))) Via.refl e1 r1 r0 (Or.inr ⟨(hw _ (List.mem_of_getElem? (i := 41) rfl)), rfl, hnm⟩) (hw _ (List.mem_of_getElem? (i := 34) rfl)) (ty := .long) (by decide) rfl rfl (g := (mkF m 6 #[.val (.ref a1), .val (.long p2), .second, .val (.ref a3)] [(.long p2), (.ref a1)])) rfl rfl (hb hby d5_6)
  have Fw2 := r1.same W2
  have N2 := Fr.snoc X2 N0 g_a1
  have pre3 : ∀ t, Steps p.tables e below (T2.setTop (mkF m 11 #[.val (.ref a1), .val (.long p2), .second, .val (.ref a3)] [(.ref a3), (.ref a1)])) t → Steps p.tables e below (s₁.setTop (entryFrame m #[(.ref a1), (.long p2), (.ref a3)] 4)) t := fun t k => pre0 t (by
      show Steps p.tables e below (s₁.setTop (mkF m 0 #[.val (.ref a1), .val (.long p2), .second, .val (.ref a3)] [])) _
      refine XS.aloadN X0.here hx rfl (hb hby d5_0) rfl rfl ?_
      show Steps p.tables e below (s₁.setTop (mkF m 1 #[.val (.ref a1), .val (.long p2), .second, .val (.ref a3)] [(.ref a1)])) _
      refine st1 _ ?_
      show Steps p.tables e below (T1.setTop (mkF m 4 #[.val (.ref a1), .val (.long p2), .second, .val (.ref a3)] [])) _
      refine XS.aloadN X1.here hx rfl (hb hby d5_4) rfl rfl ?_
      show Steps p.tables e below (T1.setTop (mkF m 5 #[.val (.ref a1), .val (.long p2), .second, .val (.ref a3)] [(.ref a1)])) _
      refine XS.lloadN X1.here hx rfl (hb hby d5_5) rfl ?_
      show Steps p.tables e below (T1.setTop (mkF m 6 #[.val (.ref a1), .val (.long p2), .second, .val (.ref a3)] [(.long p2), (.ref a1)])) _
      refine st2 _ ?_
      show Steps p.tables e below (T2.setTop (mkF m 9 #[.val (.ref a1), .val (.long p2), .second, .val (.ref a3)] [])) _
      refine XS.aloadN X2.here hx rfl (hb hby d5_9) rfl rfl ?_
      show Steps p.tables e below (T2.setTop (mkF m 10 #[.val (.ref a1), .val (.long p2), .second, .val (.ref a3)] [(.ref a1)])) _
      refine XS.aloadN X2.here hx rfl (hb hby d5_10) rfl rfl ?_
      show Steps p.tables e below (T2.setTop (mkF m 11 #[.val (.ref a1), .val (.long p2), .second, .val (.ref a3)] [(.ref a3), (.ref a1)])) _
      exact k)
  have O4 := (O0.wr W2 g_a1)
  obtain ⟨r5, T5, h5, kk5, X5, e5, E5, hS5, hk5, hZ, hown, st5⟩ := ldcS (s := s) X2 hx hZ hown (hw _ (List.mem_of_getElem? (i := 42) rfl)) (own_wS hw) e2 hS0 (Nat.le_trans (Nat.zero_le _) (Keep.of_wr W2).1) (g := (mkF m 11 #[.val (.ref a1), .val (.long p2), .second, .val (.ref a3)] [(.ref a3), (.ref a1)])) rfl (hb hby d5_11) (n := 20) (by decide) (by decide) (by decide) (by decide)
  have O7 := (O4.ext E5)
  obtain ⟨_, _, ⟨T6, L6, k6, n6⟩, -, X6, ⟨Lc6, hQ6, l6, y6, z6⟩, st6⟩ := Jvm.LawKit.callS X5 hx (y := (⟨"java/util/Objects", "requireNonNull", "(Ljava/lang/Object;Ljava/lang/String;)Ljava/lang/Object;"⟩ : MethodName)) hown (mvT hZ (hw _ (List.mem_of_getElem? (i := 43) rfl))) (mvT hZ (hw _ (List.mem_of_getElem? (i := 26) rfl))) (mvT hZ (hw _ (List.mem_of_getElem? (i := 27) rfl))) (mvT hZ (hw _ (List.mem_of_getElem? (i := 28) rfl))) (by decide) (backOf (W := 1) (rm_requireNonNull l Z a0 hw [] gS gM gH gD a3 r5 h5 n0 (own_z0 O7) O7 S_gS S_gM S_gH S_gD) hZ (hw _ (List.mem_of_getElem? (i := 28) rfl)) (hw _ (List.mem_of_getElem? (i := 27) rfl)) (by decide) (by decide)) (g := (mkF m 13 #[.val (.ref a1), .val (.long p2), .second, .val (.ref a3)] [(.ref r5), (.ref a3), (.ref a1)])) rfl (by rw [hml]; rfl) (argsL := [(.ref a3), (.ref r5)]) (rest := [(.ref a1)]) (lenOf pd_ct_Ljava_lang_String__Ljava_lang_Object__56 rfl) rfl (by show 2 * 0 + _ ≤ _; exact Nat.le_of_eq rfl) (hb hby d5_13) (fun _ _ => ⟨rfl, e5, (by decide : 2 + 0 ≤ _), (by decide : 24 + 0 ≤ _)⟩)
  dsimp only [Pt.U, Pt.locs, Pt.cells, Pt.slots] at X6 l6 y6 z6 st6 hQ6
  subst l6 y6 z6
  obtain ⟨rfl, N6q, e6⟩ := hQ6
  have N6 := Fr.app N2 N6q
  have F9 := ((r3.wr W2).ext E5)
  obtain ⟨T8, X8, e8, st8⟩ := castY X6 hx hZ hown (hw _ (List.mem_of_getElem? (i := 44) rfl)) e6 (Ins.self F9) (g := (mkF m 16 #[.val (.ref a1), .val (.long p2), .second, .val (.ref a3)] [(.ref a3), (.ref a1)])) rfl rfl (hb hby d5_16)
  have F11 := ((r2.other W2 (Or.inr (slot_ne (Or.inr (hw _ (List.mem_of_getElem? (i := 47) rfl))) (Or.inr (hw _ (List.mem_of_getElem? (i := 41) rfl))) (by decide) (t := (.object "com/example/wallclick/wallclick/Limit")) (t' := .long) (by decide) (by decide)))).ext E5)
  have F12 := ((r0.wr W2).ext E5)
  obtain ⟨T10, h10, X10, e10, W10, st10⟩ := putF X8 hx hZ hown (host := "") (Or.inl (hw _ (List.mem_of_getElem? (i := 46) rfl))) Via.refl e8 F11 F12 (Or.inr ⟨(hw _ (List.mem_of_getElem? (i := 47) rfl)), rfl, hnm⟩) (hw _ (List.mem_of_getElem? (i := 34) rfl)) (ty := (.object "com/example/wallclick/wallclick/Limit")) (by decide) rfl rfl (g := (mkF m 19 #[.val (.ref a1), .val (.long p2), .second, .val (.ref a3)] [(.ref a3), (.ref a1)])) rfl rfl (hb hby d5_19)
  have Fw10 := F11.same W10
  have N10 := Fr.snoc X10 N6 g_a1
  have F13 := (F12.wr W10)
  have F14 := ((Fw2.ext E5).other W10 (Or.inr (slot_ne (Or.inr (hw _ (List.mem_of_getElem? (i := 41) rfl))) (Or.inr (hw _ (List.mem_of_getElem? (i := 47) rfl))) (by decide) (t := .long) (t' := (.object "com/example/wallclick/wallclick/Limit")) (by decide) (by decide))))
  obtain ⟨fs, hr, hrun, hended, hRW⟩ := X10.leaveW hS5 (by rw [e10]; exact (Nat.le_trans hk5 (Keep.of_wr W10).1)) (v := none) (fun _ => rfl)
  refine ⟨_, _, pre3 _ ?_, hrun, hended, _, _, rfl, ?_, hRW.1, hRW.2.1, hRW.2.2.1, hRW.2.2.2.mono (by decide) (by decide)⟩
  · refine st5 _ ?_
    show Steps p.tables e below (T5.setTop (mkF m 13 #[.val (.ref a1), .val (.long p2), .second, .val (.ref a3)] [(.ref r5), (.ref a3), (.ref a1)])) _
    refine st6 _ ?_
    show Steps p.tables e below (T6.setTop (mkF m 16 #[.val (.ref a1), .val (.long p2), .second, .val (.ref a3)] [(.ref a3), (.ref a1)])) _
    refine st8 _ ?_
    show Steps p.tables e below (T8.setTop (mkF m 19 #[.val (.ref a1), .val (.long p2), .second, .val (.ref a3)] [(.ref a3), (.ref a1)])) _
    refine st10 _ ?_
    show Steps p.tables e below (T10.setTop (mkF m 22 #[.val (.ref a1), .val (.long p2), .second, .val (.ref a3)] [])) _
    exact X10.returnOut hx Bd.returns (hb hby d5_22) hr
  · show Q_lcInit Z gS gM gH gD a1 p2 a3 h0 n0 _ T10.heap _
    rw [e10]
    exact ⟨rfl, N10, ((((Keep.refl h0 [a1]).wr W2 (Or.inl (List.mem_of_getElem? (i := 0) rfl))).ext E5).wr W10 (Or.inl (List.mem_of_getElem? (i := 0) rfl))), F13, F14, Fw10⟩
set_option maxRecDepth 65536 in
set_option maxHeartbeats 40000000 in
theorem rm_most (l : Launch) (Z : State) (a0 : Array Value) (hw : ∀ d ∈ tables_1, d.before a0 Z = true) (ws : List Jvm.Cond) (gS : Addr) (gM : Addr) (gH : Addr) (gD : Addr) (a1 : Addr) (z : Int64) (h0 : Heap) (n0 : Nat) (Z0 : n0 ≤ h0.size) (O0 : Old Z n0 h0) (S_gS : Sta Z Z.heap "com/example/wallclick/wallclick/Granularity" "SECOND" "Lcom/example/wallclick/wallclick/Granularity;" (.ref gS)) (S_gM : Sta Z Z.heap "com/example/wallclick/wallclick/Granularity" "MINUTE" "Lcom/example/wallclick/wallclick/Granularity;" (.ref gM)) (S_gH : Sta Z Z.heap "com/example/wallclick/wallclick/Granularity" "HOUR" "Lcom/example/wallclick/wallclick/Granularity;" (.ref gH)) (S_gD : Sta Z Z.heap "com/example/wallclick/wallclick/Granularity" "DAY" "Lcom/example/wallclick/wallclick/Granularity;" (.ref gD)) (r0 : Fld Z h0 a1 "com/example/wallclick/wallclick/Limit" "most" "J" (.long z)) :
    MetFree l (⟨"com/example/wallclick/wallclick/Limit", "most", "()J"⟩ : MethodName) (head1 (Jvm.Cond.code (⟨"com/example/wallclick/wallclick/Limit", "most", "()J"⟩ : MethodName) prog_9_method_2_code 1 (some .long) :: ws) ({ frames := 0, cells := 0, slots := 0, locals := 0 } : Room)) (fun a U => a = #[(.ref a1)] ∧ Z.Warmed39 U.vm ∧ U.heap = h0) (fun _ _ _ _ _ => True) (fun _ U o U' => ∃ v L, o = .returned v ∧ PureQ (some (.long z)) h0 n0 v U'.heap L ∧ FrameEnd U o U' L ({ frames := 0, cells := 0, slots := 0, locals := 0 } : Room).cells ({ frames := 0, cells := 0, slots := 0, locals := 0 } : Room).slots) := by
  refine MetFree.of_bodySF (plainFor_of_name pn_Limit) hisR ?_
  intro p e s m args below meth c s₁ Bd hml0 hP hK
  obtain ⟨rfl, hZ, hh⟩ := hP
  have hx := Bd.exec
  have hby := Bd.bytes
  have hml : c.maxLocals = 1 := hml0
  have hown : s.vm.findClass "com/example/wallclick/wallclick/Limit" = some m.cls := findClass_of_methodNamed Bd.named
  have hnm := (name_of_methodNamed Bd.named Bd.method).1
  have X0 : Stand p l e ({ frames := 0, cells := 0, slots := 0, locals := 0 } : Room) s m #[(.ref a1)] below meth c s₁ [] 0 0 := Stand.of_body Bd
  have e0 : s₁.heap = h0 := by rw [← hh, Bd.state]; rfl
  have N0 := Fr.nil n0
  have pre0 : ∀ t, Steps p.tables e below (s₁.setTop (mkF m 0 #[.val (.ref a1)] [])) t → Steps p.tables e below (s₁.setTop (entryFrame m #[(.ref a1)] 1)) t := fun t k => castTop (ef_most m a1) k
  obtain ⟨T1, X1, e1, st1⟩ := getF X0 hx hZ hown (host := "") (Or.inl (hw _ (List.mem_of_getElem? (i := 29) rfl))) Via.refl e0 r0 (g := (mkF m 1 #[.val (.ref a1)] [(.ref a1)])) rfl rfl (hb hby d7_1)
  obtain ⟨fs, hr, hrun, hended, hW, hsame⟩ := X1.leave (v := some (.long z)) (fun h => by rw [Bd.returns] at h; cases h)
  refine ⟨_, _, pre0 _ ?_, hrun, hended, _, _, rfl, ?_, ⟨_, rfl⟩, hW, hsame.mono (by decide) (by decide)⟩
  · show Steps p.tables e below (s₁.setTop (mkF m 0 #[.val (.ref a1)] [])) _
    refine XS.aloadN X0.here hx rfl (hb hby d7_0) rfl rfl ?_
    show Steps p.tables e below (s₁.setTop (mkF m 1 #[.val (.ref a1)] [(.ref a1)])) _
    refine st1 _ ?_
    show Steps p.tables e below (T1.setTop (mkF m 4 #[.val (.ref a1)] [(.long z)])) _
    jvm_step X1.here [X1.here.top, hx, (hb hby d7_4), X1.method', Bd.returns, narrow]
    first | (intro acts; rw [hr _ acts rfl rfl rfl]) | rw [hr _ _ rfl rfl rfl]
    exact Steps.refl _
  · exact ⟨rfl, N0, e1⟩
def f_over (x : Int64) (y : Int64) : Int32 := (if (0 : Int32) < (lcmpW x y) then (1 : Int32) else (0 : Int32))
set_option maxRecDepth 65536 in
set_option maxHeartbeats 40000000 in
theorem rm_over (l : Launch) (Z : State) (a0 : Array Value) (hw : ∀ d ∈ tables_1, d.before a0 Z = true) (ws : List Jvm.Cond) (gS : Addr) (gM : Addr) (gH : Addr) (gD : Addr) (a1 : Addr) (x : Int64) (lm : Addr) (y : Int64) (h0 : Heap) (n0 : Nat) (Z0 : n0 ≤ h0.size) (O0 : Old Z n0 h0) (S_gS : Sta Z Z.heap "com/example/wallclick/wallclick/Granularity" "SECOND" "Lcom/example/wallclick/wallclick/Granularity;" (.ref gS)) (S_gM : Sta Z Z.heap "com/example/wallclick/wallclick/Granularity" "MINUTE" "Lcom/example/wallclick/wallclick/Granularity;" (.ref gM)) (S_gH : Sta Z Z.heap "com/example/wallclick/wallclick/Granularity" "HOUR" "Lcom/example/wallclick/wallclick/Granularity;" (.ref gH)) (S_gD : Sta Z Z.heap "com/example/wallclick/wallclick/Granularity" "DAY" "Lcom/example/wallclick/wallclick/Granularity;" (.ref gD)) (r0 : Fld Z h0 a1 "com/example/wallclick/wallclick/LimitCount" "count" "J" (.long x)) (r1 : Fld Z h0 a1 "com/example/wallclick/wallclick/LimitCount" "limit" "Lcom/example/wallclick/wallclick/Limit;" (.ref lm)) (r2 : Exa Z h0 lm "com/example/wallclick/wallclick/Limit") (r3 : Fld Z h0 lm "com/example/wallclick/wallclick/Limit" "most" "J" (.long y)) :
    MetFree l (⟨"com/example/wallclick/wallclick/LimitCount", "over", "()Z"⟩ : MethodName) (head1 (Jvm.Cond.code (⟨"com/example/wallclick/wallclick/LimitCount", "over", "()Z"⟩ : MethodName) prog_10_method_4_code 1 (some .boolean) :: ws) ({ frames := 1, cells := 0, slots := 0, locals := 14 } : Room)) (fun a U => a = #[(.ref a1)] ∧ Z.Warmed39 U.vm ∧ U.heap = h0) (fun _ _ _ _ _ => True) (fun _ U o U' => ∃ v L, o = .returned v ∧ PureQ (some (.int (f_over x y))) h0 n0 v U'.heap L ∧ FrameEnd U o U' L ({ frames := 1, cells := 0, slots := 0, locals := 14 } : Room).cells ({ frames := 1, cells := 0, slots := 0, locals := 14 } : Room).slots) := by
  refine MetFree.of_bodySF (plainFor_of_name pn_LimitCount) hisR ?_
  intro p e s m args below meth c s₁ Bd hml0 hP hK
  obtain ⟨rfl, hZ, hh⟩ := hP
  have hx := Bd.exec
  have hby := Bd.bytes
  have hml : c.maxLocals = 1 := hml0
  have hown : s.vm.findClass "com/example/wallclick/wallclick/LimitCount" = some m.cls := findClass_of_methodNamed Bd.named
  have hnm := (name_of_methodNamed Bd.named Bd.method).1
  have X0 : Stand p l e ({ frames := 1, cells := 0, slots := 0, locals := 14 } : Room) s m #[(.ref a1)] below meth c s₁ [] 0 0 := Stand.of_body Bd
  have e0 : s₁.heap = h0 := by rw [← hh, Bd.state]; rfl
  have N0 := Fr.nil n0
  have pre0 : ∀ t, Steps p.tables e below (s₁.setTop (mkF m 0 #[.val (.ref a1)] [])) t → Steps p.tables e below (s₁.setTop (entryFrame m #[(.ref a1)] 1)) t := fun t k => castTop (ef_over m a1) k
  obtain ⟨T1, X1, e1, st1⟩ := getF X0 hx hZ hown (host := "") (Or.inl (hw _ (List.mem_of_getElem? (i := 40) rfl))) Via.refl e0 r0 (g := (mkF m 1 #[.val (.ref a1)] [(.ref a1)])) rfl rfl (hb hby d6_1)
  obtain ⟨T2, X2, e2, st2⟩ := getF X1 hx hZ hown (host := "") (Or.inl (hw _ (List.mem_of_getElem? (i := 46) rfl))) Via.refl e1 r1 (g := (mkF m 5 #[.val (.ref a1)] [(.ref a1), (.long x)])) rfl rfl (hb hby d6_5)
  obtain ⟨cq3, kq3, q3a, q3b, q3c⟩ := isOf hZ e2 r2
  obtain ⟨_, _, ⟨T3, L3, k3, n3⟩, -, X3, ⟨Lc3, hQ3, l3, y3, z3⟩, st3⟩ := X2.virtualBack hx (y := (⟨"com/example/wallclick/wallclick/Limit", "most", "()J"⟩ : MethodName)) (z := (⟨"com/example/wallclick/wallclick/Limit", "most", "()J"⟩ : MethodName)) hown (mvT hZ (hw _ (List.mem_of_getElem? (i := 53) rfl))) (mvT hZ (hw _ (List.mem_of_getElem? (i := 54) rfl))) (notFace_of_selects (args := #[]) (mvT hZ (hw _ (List.mem_of_getElem? (i := 56) rfl)))) (mvT hZ (hw _ (List.mem_of_getElem? (i := 56) rfl))) (mvT hZ (hw _ (List.mem_of_getElem? (i := 55) rfl))) (by decide) (backOf (W := 2) (rm_most l Z a0 hw [] gS gM gH gD lm y h0 n0 (own_z0 O0) O0 S_gS S_gM S_gH S_gD r3) hZ (hw _ (List.mem_of_getElem? (i := 57) rfl)) (hw _ (List.mem_of_getElem? (i := 3) rfl)) (by decide) (by decide)) q3a q3c (g := (mkF m 8 #[.val (.ref a1)] [(.ref lm), (.long x)])) rfl (by rw [hml]; rfl) (Steps.refl _) (argsL := []) (rest := [(.long x)]) (lenOf pd___J_3 rfl) rfl (by show 2 * 0 + _ ≤ _; exact Nat.le_of_eq rfl) (hb hby d6_8) (fun _ _ => ⟨rfl, e2, (by decide : 0 + 0 ≤ _), (by decide : 0 + 0 ≤ _)⟩)
  dsimp only [Pt.U, Pt.locs, Pt.cells, Pt.slots] at X3 l3 y3 z3 st3 hQ3
  subst l3 y3 z3
  obtain ⟨rfl, N3q, e3⟩ := hQ3
  have N3 := Fr.app N0 N3q
  have pre4 : ∀ t, Steps p.tables e below (T3.setTop (mkF m 12 #[.val (.ref a1)] [(.int (lcmpW x y))])) t → Steps p.tables e below (s₁.setTop (entryFrame m #[(.ref a1)] 1)) t := fun t k => pre0 t (by
      show Steps p.tables e below (s₁.setTop (mkF m 0 #[.val (.ref a1)] [])) _
      refine XS.aloadN X0.here hx rfl (hb hby d6_0) rfl rfl ?_
      show Steps p.tables e below (s₁.setTop (mkF m 1 #[.val (.ref a1)] [(.ref a1)])) _
      refine st1 _ ?_
      show Steps p.tables e below (T1.setTop (mkF m 4 #[.val (.ref a1)] [(.long x)])) _
      refine XS.aloadN X1.here hx rfl (hb hby d6_4) rfl rfl ?_
      show Steps p.tables e below (T1.setTop (mkF m 5 #[.val (.ref a1)] [(.ref a1), (.long x)])) _
      refine st2 _ ?_
      show Steps p.tables e below (T2.setTop (mkF m 8 #[.val (.ref a1)] [(.ref lm), (.long x)])) _
      refine st3.trans ?_
      show Steps p.tables e below (T3.setTop (mkF m 11 #[.val (.ref a1)] [(.long y), (.long x)])) _
      refine XS.lcmp X3.here hx rfl (hb hby d6_11) rfl ?_
      exact k)
  by_cases g5 : (0 : Int32) < (lcmpW x y)
  · skip
    obtain ⟨fs, hr, hrun, hended, hW, hsame⟩ := X3.leave (v := some (.int (1 : Int32))) (fun h => by rw [Bd.returns] at h; cases h)
    refine ⟨_, _, pre4 _ ?_, hrun, hended, _, _, rfl, ?_, ⟨_, rfl⟩, hW, hsame.mono (by decide) (by decide)⟩
    · show Steps p.tables e below (T3.setTop (mkF m 12 #[.val (.ref a1)] [(.int (lcmpW x y))])) _
      refine XS.ifNo X3.here hx rfl (hb hby d6_12) rfl ((if0 _ _).trans (tlt g5).2.2.2) ?_
      show Steps p.tables e below (T3.setTop (mkF m 15 #[.val (.ref a1)] [])) _
      refine XS.iconst X3.here hx rfl (hb hby d6_15) ?_
      show Steps p.tables e below (T3.setTop (mkF m 16 #[.val (.ref a1)] [(.int (1 : Int32))])) _
      refine XS.goto X3.here hx rfl (pc0 := 16) (pc' := 20) rfl (hb hby d6_16) (by decide) (by decide) ?_
      show Steps p.tables e below (T3.setTop (mkF m 20 #[.val (.ref a1)] [(.int (1 : Int32))])) _
      exact retN X3 hx (t := .boolean) Bd.returns (by simp) (hb hby d6_20) hr
    · exact ⟨by simp only [f_over, if_pos g5], N3, e3⟩
  · skip
    obtain ⟨fs, hr, hrun, hended, hW, hsame⟩ := X3.leave (v := some (.int (0 : Int32))) (fun h => by rw [Bd.returns] at h; cases h)
    refine ⟨_, _, pre4 _ ?_, hrun, hended, _, _, rfl, ?_, ⟨_, rfl⟩, hW, hsame.mono (by decide) (by decide)⟩
    · show Steps p.tables e below (T3.setTop (mkF m 12 #[.val (.ref a1)] [(.int (lcmpW x y))])) _
      refine XS.ifYes X3.here hx rfl (pc0 := 12) (pc' := 19) rfl (hb hby d6_12) rfl ((if0 _ _).trans (flt g5).2.2.2) (by decide) (by decide) ?_
      show Steps p.tables e below (T3.setTop (mkF m 19 #[.val (.ref a1)] [])) _
      refine XS.iconst X3.here hx rfl (hb hby d6_19) ?_
      show Steps p.tables e below (T3.setTop (mkF m 20 #[.val (.ref a1)] [(.int (0 : Int32))])) _
      exact retN X3 hx (t := .boolean) Bd.returns (by simp) (hb hby d6_20) hr
    · exact ⟨by simp only [f_over, if_neg g5], N3, e3⟩
def v_m (p2 : Int64) : Int64 := (p2 &&& (9223372036854775807 : Int64))
def m_law_0 (p1 : Int64) (p2 : Int64) : Int32 := (if (0 : Int32) < (lcmpW p1 (v_m p2)) then (1 : Int32) else (0 : Int32))
def lawP (p1 : Int64) (p2 : Int64) : Prop := (((f_over p1 (v_m p2)) = (m_law_0 p1 p2)) ∧ (((f_over (v_m p2) (v_m p2)) = (0 : Int32)) ∧ (if (lcmpW (v_m p2) (9223372036854775807 : Int64)) = (0 : Int32) then True else ((¬ ((f_over ((v_m p2) + (1 : Int64)) (v_m p2)) = (0 : Int32))) ∧ True))))
set_option maxRecDepth 65536 in
set_option maxHeartbeats 40000000 in
theorem rm_law (l : Launch) (Z : State) (a0 : Array Value) (hw : ∀ d ∈ tables_1, d.before a0 Z = true) (ws : List Jvm.Cond) (gS : Addr) (gM : Addr) (gH : Addr) (gD : Addr) (p1 : Int64) (p2 : Int64) (p3 : Int32) (h0 : Heap) (n0 : Nat) (Z0 : n0 ≤ h0.size) (O0 : Old Z n0 h0) (S_gS : Sta Z Z.heap "com/example/wallclick/wallclick/Granularity" "SECOND" "Lcom/example/wallclick/wallclick/Granularity;" (.ref gS)) (S_gM : Sta Z Z.heap "com/example/wallclick/wallclick/Granularity" "MINUTE" "Lcom/example/wallclick/wallclick/Granularity;" (.ref gM)) (S_gH : Sta Z Z.heap "com/example/wallclick/wallclick/Granularity" "HOUR" "Lcom/example/wallclick/wallclick/Granularity;" (.ref gH)) (S_gD : Sta Z Z.heap "com/example/wallclick/wallclick/Granularity" "DAY" "Lcom/example/wallclick/wallclick/Granularity;" (.ref gD)) (hp : lawP p1 p2) :
    MetFree l x (head1 (Jvm.Cond.code x code maxLocals ret :: ws) room_1) (fun a U => a = #[(.long p1), (.long p2), (.int p3)] ∧ Z.Warmed39 U.vm ∧ U.heap = h0) (fun _ _ _ _ _ => True) (fun _ U o U' => ∃ v L, o = .returned v ∧ LawQ n0 v U'.heap L ∧ ReturnedEndW U o U' L room_1.cells room_1.slots) := by
  refine MetFree.of_bodySF (plainFor_of_name pn_LimitCountOverPinLaw) hisR ?_
  intro p e s m args below meth c s₁ Bd hml0 hP hK
  obtain ⟨rfl, hZ, hh⟩ := hP
  have hx := Bd.exec
  have hby := Bd.bytes
  have hml : c.maxLocals = 11 := hml0
  have hown : s.vm.findClass "com/example/wallclick/wallclick/LimitCountOverPinLaw" = some m.cls := findClass_of_methodNamed Bd.named
  have hnm := (name_of_methodNamed Bd.named Bd.method).1
  have X0 : Stand p l e room_1 (s.setVm s.vm) m #[(.long p1), (.long p2), (.int p3)] below meth c s₁ [] 0 0 := Stand.of_body Bd
  have e0 : s₁.heap = h0 := by rw [← hh, Bd.state]; rfl
  have N0 := Fr.nil n0
  have pre0 : ∀ t, Steps p.tables e below (s₁.setTop (mkF m 0 #[.val (.long p1), .second, .val (.long p2), .second, .val (.int p3), .unset, .unset, .unset, .unset, .unset, .unset] [])) t → Steps p.tables e below (s₁.setTop (entryFrame m #[(.long p1), (.long p2), (.int p3)] maxLocals)) t := fun t k => castTop (ef_law m p1 p2 p3) k
  have hS0 : s.Since s.vm 0 := (State.WarmedH.refl s).since 0
  have hZ : Z.Warmed39 (s.setVm s.vm).vm := hZ
  have hown : (s.setVm s.vm).vm.findClass "com/example/wallclick/wallclick/LimitCountOverPinLaw" = some m.cls := hown
  unfold lawP at hp
  obtain ⟨T1, h1, X1, e1, E1, A1, D1, -, st1⟩ := newO X0 hx hZ hown (hw _ (List.mem_of_getElem? (i := 1) rfl)) (hw _ (List.mem_of_getElem? (i := 2) rfl)) (hw _ (List.mem_of_getElem? (i := 3) rfl)) e0 (g := (mkF m 7 #[.val (.long p1), .second, .val (.long p2), .second, .val (.int p3), .val (.long (v_m p2)), .second, .unset, .unset, .unset, .unset] [])) rfl (hb hby at_7) (by decide) (by decide)
  obtain ⟨b1, q_b1⟩ : ∃ z, z = (h0).size := ⟨_, rfl⟩
  rw [← q_b1] at A1 D1 st1
  have g_b1 : n0 ≤ b1 := Nat.le_trans (own_z0 O0) (Nat.le_of_eq q_b1.symm)
  have sz_b1 : h0.size ≤ b1 := Nat.le_trans (Nat.le_refl _) (Nat.le_of_eq q_b1.symm)
  have F_most_b1 : Fld Z h1 b1 "com/example/wallclick/wallclick/Limit" "most" "J" (.long (0 : Int64)) := D1 (Or.inr (hw _ (List.mem_of_getElem? (i := 30) rfl))) (ty := .long) (by decide)
  have F_per_b1 : Fld Z h1 b1 "com/example/wallclick/wallclick/Limit" "per" "Lcom/example/wallclick/wallclick/Granularity;" .null := D1 (Or.inr (hw _ (List.mem_of_getElem? (i := 32) rfl))) (ty := (.object "com/example/wallclick/wallclick/Granularity")) (by decide)
  have O3 := (O0.ext E1)
  obtain ⟨_, _, ⟨T2, L2, k2, n2⟩, -, X2, ⟨Lc2, hQ2, l2, y2, z2⟩, st2⟩ := Jvm.LawKit.callS X1 hx (y := (⟨"com/example/wallclick/wallclick/LimitCountOverPinLaw", "pick", "(I)Lcom/example/wallclick/wallclick/Granularity;"⟩ : MethodName)) hown (mvT hZ (hw _ (List.mem_of_getElem? (i := 4) rfl))) (mvT hZ (hw _ (List.mem_of_getElem? (i := 5) rfl))) (mvT hZ (hw _ (List.mem_of_getElem? (i := 6) rfl))) (mvT hZ (hw _ (List.mem_of_getElem? (i := 7) rfl))) (by decide) (backOf (W := 4) (rm_pick l Z a0 hw [] gS gM gH gD p3 h1 n0 (own_z0 O3) O3 S_gS S_gM S_gH S_gD) hZ (hw _ (List.mem_of_getElem? (i := 7) rfl)) (hw _ (List.mem_of_getElem? (i := 6) rfl)) (by decide) (by decide)) (g := (mkF m 15 #[.val (.long p1), .second, .val (.long p2), .second, .val (.int p3), .val (.long (v_m p2)), .second, .unset, .unset, .unset, .unset] [(.int p3), (.long (v_m p2)), (.ref b1), (.ref b1)])) rfl (by rw [hml]; rfl) (argsL := [(.int p3)]) (rest := [(.long (v_m p2)), (.ref b1), (.ref b1)]) (lenOf pd_example_wallclick_wallclick_Granularity__48 rfl) rfl (by show 2 * 0 + _ ≤ _; exact Nat.le_of_eq rfl) (hb hby at_15) (fun _ _ => ⟨rfl, e1, (by decide : 1 + 0 ≤ _), (by decide : 2 + 0 ≤ _)⟩)
  dsimp only [Pt.U, Pt.locs, Pt.cells, Pt.slots] at X2 l2 y2 z2 st2 hQ2
  subst l2 y2 z2
  obtain ⟨rfl, N2q, e2⟩ := hQ2
  have N2 := Fr.app N0 N2q
  have pre5 : ∀ t, Steps p.tables e below (T2.setTop (mkF m 18 #[.val (.long p1), .second, .val (.long p2), .second, .val (.int p3), .val (.long (v_m p2)), .second, .unset, .unset, .unset, .unset] [(.ref (f_pick gS gM gH gD p3)), (.long (v_m p2)), (.ref b1), (.ref b1)])) t → Steps p.tables e below (s₁.setTop (entryFrame m #[(.long p1), (.long p2), (.int p3)] maxLocals)) t := fun t k => pre0 t (by
      show Steps p.tables e below (s₁.setTop (mkF m 0 #[.val (.long p1), .second, .val (.long p2), .second, .val (.int p3), .unset, .unset, .unset, .unset, .unset, .unset] [])) _
      refine XS.lloadN X0.here hx rfl (hb hby at_0) rfl ?_
      show Steps p.tables e below (s₁.setTop (mkF m 1 #[.val (.long p1), .second, .val (.long p2), .second, .val (.int p3), .unset, .unset, .unset, .unset, .unset, .unset] [(.long p2)])) _
      refine X0.ldc2Long hx hown (mvT hZ (hw _ (List.mem_of_getElem? (i := 0) rfl))) (g := (mkF m 1 #[.val (.long p1), .second, .val (.long p2), .second, .val (.int p3), .unset, .unset, .unset, .unset, .unset, .unset] [(.long p2)])) rfl (hb hby at_1) _ ?_
      show Steps p.tables e below (s₁.setTop (mkF m 4 #[.val (.long p1), .second, .val (.long p2), .second, .val (.int p3), .unset, .unset, .unset, .unset, .unset, .unset] [(.long (9223372036854775807 : Int64)), (.long p2)])) _
      refine XS.land X0.here hx rfl (hb hby at_4) rfl ?_
      show Steps p.tables e below (s₁.setTop (mkF m 5 #[.val (.long p1), .second, .val (.long p2), .second, .val (.int p3), .unset, .unset, .unset, .unset, .unset, .unset] [(.long (v_m p2))])) _
      refine XS.lstore X0.here hx rfl (hb hby at_5) rfl (l' := #[.val (.long p1), .second, .val (.long p2), .second, .val (.int p3), .val (.long (v_m p2)), .second, .unset, .unset, .unset, .unset]) rfl ?_
      show Steps p.tables e below (s₁.setTop (mkF m 7 #[.val (.long p1), .second, .val (.long p2), .second, .val (.int p3), .val (.long (v_m p2)), .second, .unset, .unset, .unset, .unset] [])) _
      refine st1 _ ?_
      show Steps p.tables e below (T1.setTop (mkF m 10 #[.val (.long p1), .second, .val (.long p2), .second, .val (.int p3), .val (.long (v_m p2)), .second, .unset, .unset, .unset, .unset] [(.ref b1)])) _
      refine XS.dup X1.here hx rfl (hb hby at_10) rfl rfl ?_
      show Steps p.tables e below (T1.setTop (mkF m 11 #[.val (.long p1), .second, .val (.long p2), .second, .val (.int p3), .val (.long (v_m p2)), .second, .unset, .unset, .unset, .unset] [(.ref b1), (.ref b1)])) _
      refine XS.lload X1.here hx rfl (hb hby at_11) rfl ?_
      show Steps p.tables e below (T1.setTop (mkF m 13 #[.val (.long p1), .second, .val (.long p2), .second, .val (.int p3), .val (.long (v_m p2)), .second, .unset, .unset, .unset, .unset] [(.long (v_m p2)), (.ref b1), (.ref b1)])) _
      refine XS.iload X1.here hx rfl (hb hby at_13) rfl ?_
      show Steps p.tables e below (T1.setTop (mkF m 15 #[.val (.long p1), .second, .val (.long p2), .second, .val (.int p3), .val (.long (v_m p2)), .second, .unset, .unset, .unset, .unset] [(.int p3), (.long (v_m p2)), (.ref b1), (.ref b1)])) _
      refine st2 _ ?_
      show Steps p.tables e below (T2.setTop (mkF m 18 #[.val (.long p1), .second, .val (.long p2), .second, .val (.int p3), .val (.long (v_m p2)), .second, .unset, .unset, .unset, .unset] [(.ref (f_pick gS gM gH gD p3)), (.long (v_m p2)), (.ref b1), (.ref b1)])) _
      exact k)
  obtain ⟨_, _, ⟨T4, L4, k4, n4⟩, -, X4, hSn4, gn4, ⟨Lc4, hQ4, l4, y4, z4⟩, st4⟩ := X2.specialBackS hx (y := (⟨"com/example/wallclick/wallclick/Limit", "<init>", "(JLcom/example/wallclick/wallclick/Granularity;)V"⟩ : MethodName)) rfl hown (mvT hZ (hw _ (List.mem_of_getElem? (i := 11) rfl))) (mvT hZ (hw _ (List.mem_of_getElem? (i := 12) rfl))) (mvT hZ (hw _ (List.mem_of_getElem? (i := 13) rfl))) (by decide) (backOfS (W := 1) (rm_liInit l Z a0 hw [] gS gM gH gD b1 (v_m p2) (f_pick gS gM gH gD p3) h1 n0 (own_z0 O3) O3 S_gS S_gM S_gH S_gD A1 F_most_b1 F_per_b1 g_b1 (own_m p2)) hZ (hw _ (List.mem_of_getElem? (i := 13) rfl)) (hw _ (List.mem_of_getElem? (i := 3) rfl)) (by decide) (by decide)) (g := (mkF m 18 #[.val (.long p1), .second, .val (.long p2), .second, .val (.int p3), .val (.long (v_m p2)), .second, .unset, .unset, .unset, .unset] [(.ref (f_pick gS gM gH gD p3)), (.long (v_m p2)), (.ref b1), (.ref b1)])) rfl (by rw [hml]; rfl) (Steps.refl _) (a := b1) (argsL := [(.long (v_m p2)), (.ref (f_pick gS gM gH gD p3))]) (rest := [(.ref b1)]) (lenOf pd_ample_wallclick_wallclick_Granularity__V_49 rfl) rfl (by show 2 * 0 + _ ≤ _; exact Nat.le_of_eq rfl) (hb hby at_18) (fun _ _ => ⟨rfl, e2, (by decide : 1 + 2 ≤ _), (by decide : 2 + 16 ≤ _)⟩)
  dsimp only [Pt.U, Pt.locs, Pt.cells, Pt.slots] at X4 hSn4 gn4 l4 y4 z4 st4 hQ4
  subst l4 y4 z4
  obtain ⟨X4, hS4, hZ, hown⟩ := rebS hS0 (by rw [e2]; exact (Nat.le_trans (Nat.zero_le _) E1.1)) X4 hSn4 gn4 hZ hown
  obtain ⟨rfl, N4q, K4, f4_0, f4_1⟩ := hQ4
  have N4 := Fr.app N2 N4q
  have O7 := (O3.keep K4 (allS g_b1 all0))
  obtain ⟨T6, h6, X6, e6, E6, A6, D6, -, st6⟩ := newO X4 hx hZ hown (hw _ (List.mem_of_getElem? (i := 33) rfl)) (hw _ (List.mem_of_getElem? (i := 34) rfl)) (hw _ (List.mem_of_getElem? (i := 35) rfl)) rfl (g := (mkF m 23 #[.val (.long p1), .second, .val (.long p2), .second, .val (.int p3), .val (.long (v_m p2)), .second, .val (.ref b1), .unset, .unset, .unset] [])) rfl (hb hby at_23) (by decide) (by decide)
  obtain ⟨b6, q_b6⟩ : ∃ z, z = (T4.heap).size := ⟨_, rfl⟩
  rw [← q_b6] at A6 D6 st6
  have g_b6 : n0 ≤ b6 := Nat.le_trans (own_z0 O7) (Nat.le_of_eq q_b6.symm)
  have sz_b6 : h0.size ≤ b6 := Nat.le_trans (Nat.le_trans (Nat.le_trans (Nat.le_refl _) E1.1) K4.1) (Nat.le_of_eq q_b6.symm)
  have ne_b1_b6 : b1 ≠ b6 := Nat.ne_of_lt (Nat.lt_of_lt_of_le f4_0.lt (Nat.le_of_eq q_b6.symm))
  have F_count_b6 : Fld Z h6 b6 "com/example/wallclick/wallclick/LimitCount" "count" "J" (.long (0 : Int64)) := D6 (Or.inr (hw _ (List.mem_of_getElem? (i := 41) rfl))) (ty := .long) (by decide)
  have F_limit_b6 : Fld Z h6 b6 "com/example/wallclick/wallclick/LimitCount" "limit" "Lcom/example/wallclick/wallclick/Limit;" .null := D6 (Or.inr (hw _ (List.mem_of_getElem? (i := 47) rfl))) (ty := (.object "com/example/wallclick/wallclick/Limit")) (by decide)
  have F9 := (f4_0.ext E6)
  have O10 := (O7.ext E6)
  have pre11 : ∀ t, Steps p.tables e below (T6.setTop (mkF m 30 #[.val (.long p1), .second, .val (.long p2), .second, .val (.int p3), .val (.long (v_m p2)), .second, .val (.ref b1), .unset, .unset, .unset] [(.ref b1), (.long p1), (.ref b6), (.ref b6)])) t → Steps p.tables e below (s₁.setTop (entryFrame m #[(.long p1), (.long p2), (.int p3)] maxLocals)) t := fun t k => pre5 t (by
      refine st4.trans ?_
      show Steps p.tables e below (T4.setTop (mkF m 21 #[.val (.long p1), .second, .val (.long p2), .second, .val (.int p3), .val (.long (v_m p2)), .second, .unset, .unset, .unset, .unset] [(.ref b1)])) _
      refine XS.astore X4.here hx rfl (hb hby at_21) rfl rfl (l' := #[.val (.long p1), .second, .val (.long p2), .second, .val (.int p3), .val (.long (v_m p2)), .second, .val (.ref b1), .unset, .unset, .unset]) rfl ?_
      show Steps p.tables e below (T4.setTop (mkF m 23 #[.val (.long p1), .second, .val (.long p2), .second, .val (.int p3), .val (.long (v_m p2)), .second, .val (.ref b1), .unset, .unset, .unset] [])) _
      refine st6 _ ?_
      show Steps p.tables e below (T6.setTop (mkF m 26 #[.val (.long p1), .second, .val (.long p2), .second, .val (.int p3), .val (.long (v_m p2)), .second, .val (.ref b1), .unset, .unset, .unset] [(.ref b6)])) _
      refine XS.dup X6.here hx rfl (hb hby at_26) rfl rfl ?_
      show Steps p.tables e below (T6.setTop (mkF m 27 #[.val (.long p1), .second, .val (.long p2), .second, .val (.int p3), .val (.long (v_m p2)), .second, .val (.ref b1), .unset, .unset, .unset] [(.ref b6), (.ref b6)])) _
      refine XS.lloadN X6.here hx rfl (hb hby at_27) rfl ?_
      show Steps p.tables e below (T6.setTop (mkF m 28 #[.val (.long p1), .second, .val (.long p2), .second, .val (.int p3), .val (.long (v_m p2)), .second, .val (.ref b1), .unset, .unset, .unset] [(.long p1), (.ref b6), (.ref b6)])) _
      refine XS.aload X6.here hx rfl (hb hby at_28) rfl rfl ?_
      show Steps p.tables e below (T6.setTop (mkF m 30 #[.val (.long p1), .second, .val (.long p2), .second, .val (.int p3), .val (.long (v_m p2)), .second, .val (.ref b1), .unset, .unset, .unset] [(.ref b1), (.long p1), (.ref b6), (.ref b6)])) _
      exact k)
  obtain ⟨_, _, ⟨T8, L8, k8, n8⟩, -, X8, hSn8, gn8, ⟨Lc8, hQ8, l8, y8, z8⟩, st8⟩ := X6.specialBackS hx (y := (⟨"com/example/wallclick/wallclick/LimitCount", "<init>", "(JLcom/example/wallclick/wallclick/Limit;)V"⟩ : MethodName)) rfl hown (mvT hZ (hw _ (List.mem_of_getElem? (i := 36) rfl))) (mvT hZ (hw _ (List.mem_of_getElem? (i := 37) rfl))) (mvT hZ (hw _ (List.mem_of_getElem? (i := 38) rfl))) (by decide) (backOfS (W := 1) (rm_lcInit l Z a0 hw [] gS gM gH gD b6 p1 b1 h6 n0 (own_z0 O10) O10 S_gS S_gM S_gH S_gD A6 F_count_b6 F_limit_b6 F9 g_b6) hZ (hw _ (List.mem_of_getElem? (i := 38) rfl)) (hw _ (List.mem_of_getElem? (i := 35) rfl)) (by decide) (by decide)) (g := (mkF m 30 #[.val (.long p1), .second, .val (.long p2), .second, .val (.int p3), .val (.long (v_m p2)), .second, .val (.ref b1), .unset, .unset, .unset] [(.ref b1), (.long p1), (.ref b6), (.ref b6)])) rfl (by rw [hml]; rfl) (Steps.refl _) (a := b6) (argsL := [(.long p1), (.ref b1)]) (rest := [(.ref b6)]) (lenOf pd_com_example_wallclick_wallclick_Limit__V_43 rfl) rfl (by show 2 * 0 + _ ≤ _; exact Nat.le_of_eq rfl) (hb hby at_30) (fun _ _ => ⟨rfl, e6, (by decide : 4 + 2 ≤ _), (by decide : 20 + 24 ≤ _)⟩)
  dsimp only [Pt.U, Pt.locs, Pt.cells, Pt.slots] at X8 hSn8 gn8 l8 y8 z8 st8 hQ8
  subst l8 y8 z8
  obtain ⟨X8, hS8, hZ, hown⟩ := rebS hS4 (by rw [e6]; exact (Nat.le_trans (Nat.le_refl _) E6.1)) X8 hSn8 gn8 hZ hown
  obtain ⟨rfl, N8q, K8, f8_0, f8_1, f8_2⟩ := hQ8
  have N8 := Fr.app N4 N8q
  have F13 := (F9.keep K8)
  have F14 := ((f4_1.ext E6).keep K8 (ninS ne_b1_b6 nin0))
  have O15 := (O10.keep K8 (allS g_b6 all0))
  obtain ⟨cq12, kq12, q12a, q12b, q12c⟩ := isOf hZ rfl f8_0
  obtain ⟨_, _, ⟨T12, L12, k12, n12⟩, -, X12, ⟨Lc12, hQ12, l12, y12, z12⟩, st12⟩ := X8.virtualBack hx (y := (⟨"com/example/wallclick/wallclick/LimitCount", "over", "()Z"⟩ : MethodName)) (z := (⟨"com/example/wallclick/wallclick/LimitCount", "over", "()Z"⟩ : MethodName)) hown (mvT hZ (hw _ (List.mem_of_getElem? (i := 48) rfl))) (mvT hZ (hw _ (List.mem_of_getElem? (i := 49) rfl))) (notFace_of_selects (args := #[]) (mvT hZ (hw _ (List.mem_of_getElem? (i := 51) rfl)))) (mvT hZ (hw _ (List.mem_of_getElem? (i := 51) rfl))) (mvT hZ (hw _ (List.mem_of_getElem? (i := 50) rfl))) (by decide) (backOf (W := 0) (rm_over l Z a0 hw [] gS gM gH gD b6 p1 b1 (v_m p2) T8.heap n0 (own_z0 O15) O15 S_gS S_gM S_gH S_gD f8_1 f8_2 F13 F14) hZ (hw _ (List.mem_of_getElem? (i := 52) rfl)) (hw _ (List.mem_of_getElem? (i := 35) rfl)) (by decide) (by decide)) q12a q12c (g := (mkF m 33 #[.val (.long p1), .second, .val (.long p2), .second, .val (.int p3), .val (.long (v_m p2)), .second, .val (.ref b1), .unset, .unset, .unset] [(.ref b6)])) rfl (by rw [hml]; rfl) (Steps.refl _) (argsL := []) (rest := []) (lenOf pd___Z_3 rfl) rfl (by show 2 * 0 + _ ≤ _; exact Nat.le_of_eq rfl) (hb hby at_33) (fun _ _ => ⟨rfl, rfl, (by decide : 6 + 0 ≤ _), (by decide : 44 + 0 ≤ _)⟩)
  dsimp only [Pt.U, Pt.locs, Pt.cells, Pt.slots] at X12 l12 y12 z12 st12 hQ12
  subst l12 y12 z12
  obtain ⟨rfl, N12q, e12⟩ := hQ12
  have N12 := Fr.app N8 N12q
  have pre16 : ∀ t, Steps p.tables e below (T12.setTop (mkF m 36 #[.val (.long p1), .second, .val (.long p2), .second, .val (.int p3), .val (.long (v_m p2)), .second, .val (.ref b1), .unset, .unset, .unset] [(.int (f_over p1 (v_m p2)))])) t → Steps p.tables e below (s₁.setTop (entryFrame m #[(.long p1), (.long p2), (.int p3)] maxLocals)) t := fun t k => pre11 t (by
      refine st8.trans ?_
      show Steps p.tables e below (T8.setTop (mkF m 33 #[.val (.long p1), .second, .val (.long p2), .second, .val (.int p3), .val (.long (v_m p2)), .second, .val (.ref b1), .unset, .unset, .unset] [(.ref b6)])) _
      refine st12.trans ?_
      exact k)
  obtain ⟨T17, L17, X17, e17, N17, pre17⟩ : ∃ (T' : State) (L' : List Loc), Stand p l e room_1 (s.setVm T8.vm) m #[(.long p1), (.long p2), (.int p3)] below meth c T' L' 6 44 ∧ T'.heap = T8.heap ∧ Fr n0 L' ∧ ∀ t, Steps p.tables e below (T'.setTop (mkF m 48 #[.val (.long p1), .second, .val (.long p2), .second, .val (.int p3), .val (.long (v_m p2)), .second, .val (.ref b1), .unset, .unset, .unset] [(.int (m_law_0 p1 p2)), (.int (f_over p1 (v_m p2)))])) t → Steps p.tables e below (s₁.setTop (entryFrame m #[(.long p1), (.long p2), (.int p3)] maxLocals)) t := by
    have pre18 : ∀ t, Steps p.tables e below (T12.setTop (mkF m 40 #[.val (.long p1), .second, .val (.long p2), .second, .val (.int p3), .val (.long (v_m p2)), .second, .val (.ref b1), .unset, .unset, .unset] [(.int (lcmpW p1 (v_m p2))), (.int (f_over p1 (v_m p2)))])) t → Steps p.tables e below (s₁.setTop (entryFrame m #[(.long p1), (.long p2), (.int p3)] maxLocals)) t := fun t k => pre16 t (by
        show Steps p.tables e below (T12.setTop (mkF m 36 #[.val (.long p1), .second, .val (.long p2), .second, .val (.int p3), .val (.long (v_m p2)), .second, .val (.ref b1), .unset, .unset, .unset] [(.int (f_over p1 (v_m p2)))])) _
        refine XS.lloadN X12.here hx rfl (hb hby at_36) rfl ?_
        show Steps p.tables e below (T12.setTop (mkF m 37 #[.val (.long p1), .second, .val (.long p2), .second, .val (.int p3), .val (.long (v_m p2)), .second, .val (.ref b1), .unset, .unset, .unset] [(.long p1), (.int (f_over p1 (v_m p2)))])) _
        refine XS.lload X12.here hx rfl (hb hby at_37) rfl ?_
        show Steps p.tables e below (T12.setTop (mkF m 39 #[.val (.long p1), .second, .val (.long p2), .second, .val (.int p3), .val (.long (v_m p2)), .second, .val (.ref b1), .unset, .unset, .unset] [(.long (v_m p2)), (.long p1), (.int (f_over p1 (v_m p2)))])) _
        refine XS.lcmp X12.here hx rfl (hb hby at_39) rfl ?_
        exact k)
    by_cases g19 : (0 : Int32) < (lcmpW p1 (v_m p2))
    · skip
      simp only [m_law_0, if_pos g19]
      exact ⟨T12, _, X12, e12, N12, fun t k => pre18 t (by
          show Steps p.tables e below (T12.setTop (mkF m 40 #[.val (.long p1), .second, .val (.long p2), .second, .val (.int p3), .val (.long (v_m p2)), .second, .val (.ref b1), .unset, .unset, .unset] [(.int (lcmpW p1 (v_m p2))), (.int (f_over p1 (v_m p2)))])) _
          refine XS.ifNo X12.here hx rfl (hb hby at_40) rfl ((if0 _ _).trans (tlt g19).2.2.2) ?_
          show Steps p.tables e below (T12.setTop (mkF m 43 #[.val (.long p1), .second, .val (.long p2), .second, .val (.int p3), .val (.long (v_m p2)), .second, .val (.ref b1), .unset, .unset, .unset] [(.int (f_over p1 (v_m p2)))])) _
          refine XS.iconst X12.here hx rfl (hb hby at_43) ?_
          show Steps p.tables e below (T12.setTop (mkF m 44 #[.val (.long p1), .second, .val (.long p2), .second, .val (.int p3), .val (.long (v_m p2)), .second, .val (.ref b1), .unset, .unset, .unset] [(.int (1 : Int32)), (.int (f_over p1 (v_m p2)))])) _
          refine XS.goto X12.here hx rfl (pc0 := 44) (pc' := 48) rfl (hb hby at_44) (by decide) (by decide) ?_
          exact k)⟩
    · skip
      simp only [m_law_0, if_neg g19]
      exact ⟨T12, _, X12, e12, N12, fun t k => pre18 t (by
          show Steps p.tables e below (T12.setTop (mkF m 40 #[.val (.long p1), .second, .val (.long p2), .second, .val (.int p3), .val (.long (v_m p2)), .second, .val (.ref b1), .unset, .unset, .unset] [(.int (lcmpW p1 (v_m p2))), (.int (f_over p1 (v_m p2)))])) _
          refine XS.ifYes X12.here hx rfl (pc0 := 40) (pc' := 47) rfl (hb hby at_40) rfl ((if0 _ _).trans (flt g19).2.2.2) (by decide) (by decide) ?_
          show Steps p.tables e below (T12.setTop (mkF m 47 #[.val (.long p1), .second, .val (.long p2), .second, .val (.int p3), .val (.long (v_m p2)), .second, .val (.ref b1), .unset, .unset, .unset] [(.int (f_over p1 (v_m p2)))])) _
          refine XS.iconst X12.here hx rfl (hb hby at_47) ?_
          exact k)⟩
  obtain ⟨g20, hp⟩ := hp
  obtain ⟨T21, h21, X21, e21, E21, A21, D21, -, st21⟩ := newO X17 hx hZ hown (hw _ (List.mem_of_getElem? (i := 33) rfl)) (hw _ (List.mem_of_getElem? (i := 34) rfl)) (hw _ (List.mem_of_getElem? (i := 35) rfl)) e17 (g := (mkF m 58 #[.val (.long p1), .second, .val (.long p2), .second, .val (.int p3), .val (.long (v_m p2)), .second, .val (.ref b1), .val (.int (1 : Int32)), .unset, .unset] [])) rfl (hb hby at_58) (by decide) (by decide)
  obtain ⟨b21, q_b21⟩ : ∃ z, z = (T8.heap).size := ⟨_, rfl⟩
  rw [← q_b21] at A21 D21 st21
  have g_b21 : n0 ≤ b21 := Nat.le_trans (own_z0 O15) (Nat.le_of_eq q_b21.symm)
  have sz_b21 : h0.size ≤ b21 := Nat.le_trans (Nat.le_trans (Nat.le_trans (Nat.le_trans (Nat.le_trans (Nat.le_refl _) E1.1) K4.1) E6.1) K8.1) (Nat.le_of_eq q_b21.symm)
  have ne_b1_b21 : b1 ≠ b21 := Nat.ne_of_lt (Nat.lt_of_lt_of_le F13.lt (Nat.le_of_eq q_b21.symm))
  have ne_b6_b21 : b6 ≠ b21 := Nat.ne_of_lt (Nat.lt_of_lt_of_le f8_0.lt (Nat.le_of_eq q_b21.symm))
  have F_count_b21 : Fld Z h21 b21 "com/example/wallclick/wallclick/LimitCount" "count" "J" (.long (0 : Int64)) := D21 (Or.inr (hw _ (List.mem_of_getElem? (i := 41) rfl))) (ty := .long) (by decide)
  have F_limit_b21 : Fld Z h21 b21 "com/example/wallclick/wallclick/LimitCount" "limit" "Lcom/example/wallclick/wallclick/Limit;" .null := D21 (Or.inr (hw _ (List.mem_of_getElem? (i := 47) rfl))) (ty := (.object "com/example/wallclick/wallclick/Limit")) (by decide)
  have F23 := (F13.ext E21)
  have O24 := (O15.ext E21)
  have pre25 : ∀ t, Steps p.tables e below (T21.setTop (mkF m 66 #[.val (.long p1), .second, .val (.long p2), .second, .val (.int p3), .val (.long (v_m p2)), .second, .val (.ref b1), .val (.int (1 : Int32)), .unset, .unset] [(.ref b1), (.long (v_m p2)), (.ref b21), (.ref b21)])) t → Steps p.tables e below (s₁.setTop (entryFrame m #[(.long p1), (.long p2), (.int p3)] maxLocals)) t := fun t k => pre17 t (by
      show Steps p.tables e below (T17.setTop (mkF m 48 #[.val (.long p1), .second, .val (.long p2), .second, .val (.int p3), .val (.long (v_m p2)), .second, .val (.ref b1), .unset, .unset, .unset] [(.int (m_law_0 p1 p2)), (.int (f_over p1 (v_m p2)))])) _
      refine XS.icmpNo X17.here hx rfl (hb hby at_48) rfl (teq g20).2 ?_
      show Steps p.tables e below (T17.setTop (mkF m 51 #[.val (.long p1), .second, .val (.long p2), .second, .val (.int p3), .val (.long (v_m p2)), .second, .val (.ref b1), .unset, .unset, .unset] [])) _
      refine XS.iconst X17.here hx rfl (hb hby at_51) ?_
      show Steps p.tables e below (T17.setTop (mkF m 52 #[.val (.long p1), .second, .val (.long p2), .second, .val (.int p3), .val (.long (v_m p2)), .second, .val (.ref b1), .unset, .unset, .unset] [(.int (1 : Int32))])) _
      refine XS.goto X17.here hx rfl (pc0 := 52) (pc' := 56) rfl (hb hby at_52) (by decide) (by decide) ?_
      show Steps p.tables e below (T17.setTop (mkF m 56 #[.val (.long p1), .second, .val (.long p2), .second, .val (.int p3), .val (.long (v_m p2)), .second, .val (.ref b1), .unset, .unset, .unset] [(.int (1 : Int32))])) _
      refine XS.istore X17.here hx rfl (hb hby at_56) rfl (l' := #[.val (.long p1), .second, .val (.long p2), .second, .val (.int p3), .val (.long (v_m p2)), .second, .val (.ref b1), .val (.int (1 : Int32)), .unset, .unset]) rfl ?_
      show Steps p.tables e below (T17.setTop (mkF m 58 #[.val (.long p1), .second, .val (.long p2), .second, .val (.int p3), .val (.long (v_m p2)), .second, .val (.ref b1), .val (.int (1 : Int32)), .unset, .unset] [])) _
      refine st21 _ ?_
      show Steps p.tables e below (T21.setTop (mkF m 61 #[.val (.long p1), .second, .val (.long p2), .second, .val (.int p3), .val (.long (v_m p2)), .second, .val (.ref b1), .val (.int (1 : Int32)), .unset, .unset] [(.ref b21)])) _
      refine XS.dup X21.here hx rfl (hb hby at_61) rfl rfl ?_
      show Steps p.tables e below (T21.setTop (mkF m 62 #[.val (.long p1), .second, .val (.long p2), .second, .val (.int p3), .val (.long (v_m p2)), .second, .val (.ref b1), .val (.int (1 : Int32)), .unset, .unset] [(.ref b21), (.ref b21)])) _
      refine XS.lload X21.here hx rfl (hb hby at_62) rfl ?_
      show Steps p.tables e below (T21.setTop (mkF m 64 #[.val (.long p1), .second, .val (.long p2), .second, .val (.int p3), .val (.long (v_m p2)), .second, .val (.ref b1), .val (.int (1 : Int32)), .unset, .unset] [(.long (v_m p2)), (.ref b21), (.ref b21)])) _
      refine XS.aload X21.here hx rfl (hb hby at_64) rfl rfl ?_
      show Steps p.tables e below (T21.setTop (mkF m 66 #[.val (.long p1), .second, .val (.long p2), .second, .val (.int p3), .val (.long (v_m p2)), .second, .val (.ref b1), .val (.int (1 : Int32)), .unset, .unset] [(.ref b1), (.long (v_m p2)), (.ref b21), (.ref b21)])) _
      exact k)
  obtain ⟨_, _, ⟨T22, L22, k22, n22⟩, -, X22, hSn22, gn22, ⟨Lc22, hQ22, l22, y22, z22⟩, st22⟩ := X21.specialBackS hx (y := (⟨"com/example/wallclick/wallclick/LimitCount", "<init>", "(JLcom/example/wallclick/wallclick/Limit;)V"⟩ : MethodName)) rfl hown (mvT hZ (hw _ (List.mem_of_getElem? (i := 36) rfl))) (mvT hZ (hw _ (List.mem_of_getElem? (i := 37) rfl))) (mvT hZ (hw _ (List.mem_of_getElem? (i := 38) rfl))) (by decide) (backOfS (W := 1) (rm_lcInit l Z a0 hw [] gS gM gH gD b21 (v_m p2) b1 h21 n0 (own_z0 O24) O24 S_gS S_gM S_gH S_gD A21 F_count_b21 F_limit_b21 F23 g_b21) hZ (hw _ (List.mem_of_getElem? (i := 38) rfl)) (hw _ (List.mem_of_getElem? (i := 35) rfl)) (by decide) (by decide)) (g := (mkF m 66 #[.val (.long p1), .second, .val (.long p2), .second, .val (.int p3), .val (.long (v_m p2)), .second, .val (.ref b1), .val (.int (1 : Int32)), .unset, .unset] [(.ref b1), (.long (v_m p2)), (.ref b21), (.ref b21)])) rfl (by rw [hml]; rfl) (Steps.refl _) (a := b21) (argsL := [(.long (v_m p2)), (.ref b1)]) (rest := [(.ref b21)]) (lenOf pd_com_example_wallclick_wallclick_Limit__V_43 rfl) rfl (by show 2 * 0 + _ ≤ _; exact Nat.le_of_eq rfl) (hb hby at_66) (fun _ _ => ⟨rfl, e21, (by decide : 7 + 2 ≤ _), (by decide : 46 + 24 ≤ _)⟩)
  dsimp only [Pt.U, Pt.locs, Pt.cells, Pt.slots] at X22 hSn22 gn22 l22 y22 z22 st22 hQ22
  subst l22 y22 z22
  obtain ⟨X22, hS22, hZ, hown⟩ := rebS hS8 (by rw [e21]; exact (Nat.le_trans (Nat.le_refl _) E21.1)) X22 hSn22 gn22 hZ hown
  obtain ⟨rfl, N22q, K22, f22_0, f22_1, f22_2⟩ := hQ22
  have N22 := Fr.app N17 N22q
  have F27 := (F23.keep K22)
  have F28 := ((F14.ext E21).keep K22 (ninS ne_b1_b21 nin0))
  have O29 := (O24.keep K22 (allS g_b21 all0))
  obtain ⟨cq26, kq26, q26a, q26b, q26c⟩ := isOf hZ rfl f22_0
  obtain ⟨_, _, ⟨T26, L26, k26, n26⟩, -, X26, ⟨Lc26, hQ26, l26, y26, z26⟩, st26⟩ := X22.virtualBack hx (y := (⟨"com/example/wallclick/wallclick/LimitCount", "over", "()Z"⟩ : MethodName)) (z := (⟨"com/example/wallclick/wallclick/LimitCount", "over", "()Z"⟩ : MethodName)) hown (mvT hZ (hw _ (List.mem_of_getElem? (i := 48) rfl))) (mvT hZ (hw _ (List.mem_of_getElem? (i := 49) rfl))) (notFace_of_selects (args := #[]) (mvT hZ (hw _ (List.mem_of_getElem? (i := 51) rfl)))) (mvT hZ (hw _ (List.mem_of_getElem? (i := 51) rfl))) (mvT hZ (hw _ (List.mem_of_getElem? (i := 50) rfl))) (by decide) (backOf (W := 0) (rm_over l Z a0 hw [] gS gM gH gD b21 (v_m p2) b1 (v_m p2) T22.heap n0 (own_z0 O29) O29 S_gS S_gM S_gH S_gD f22_1 f22_2 F27 F28) hZ (hw _ (List.mem_of_getElem? (i := 52) rfl)) (hw _ (List.mem_of_getElem? (i := 35) rfl)) (by decide) (by decide)) q26a q26c (g := (mkF m 69 #[.val (.long p1), .second, .val (.long p2), .second, .val (.int p3), .val (.long (v_m p2)), .second, .val (.ref b1), .val (.int (1 : Int32)), .unset, .unset] [(.ref b21)])) rfl (by rw [hml]; rfl) (Steps.refl _) (argsL := []) (rest := []) (lenOf pd___Z_3 rfl) rfl (by show 2 * 0 + _ ≤ _; exact Nat.le_of_eq rfl) (hb hby at_69) (fun _ _ => ⟨rfl, rfl, (by decide : 9 + 0 ≤ _), (by decide : 70 + 0 ≤ _)⟩)
  dsimp only [Pt.U, Pt.locs, Pt.cells, Pt.slots] at X26 l26 y26 z26 st26 hQ26
  subst l26 y26 z26
  obtain ⟨rfl, N26q, e26⟩ := hQ26
  have N26 := Fr.app N22 N26q
  obtain ⟨g30, hp⟩ := hp
  have pre31 : ∀ t, Steps p.tables e below (T26.setTop (mkF m 88 #[.val (.long p1), .second, .val (.long p2), .second, .val (.int p3), .val (.long (v_m p2)), .second, .val (.ref b1), .val (.int (1 : Int32)), .val (.int (1 : Int32)), .unset] [(.int (lcmpW (v_m p2) (9223372036854775807 : Int64)))])) t → Steps p.tables e below (s₁.setTop (entryFrame m #[(.long p1), (.long p2), (.int p3)] maxLocals)) t := fun t k => pre25 t (by
      refine st22.trans ?_
      show Steps p.tables e below (T22.setTop (mkF m 69 #[.val (.long p1), .second, .val (.long p2), .second, .val (.int p3), .val (.long (v_m p2)), .second, .val (.ref b1), .val (.int (1 : Int32)), .unset, .unset] [(.ref b21)])) _
      refine st26.trans ?_
      show Steps p.tables e below (T26.setTop (mkF m 72 #[.val (.long p1), .second, .val (.long p2), .second, .val (.int p3), .val (.long (v_m p2)), .second, .val (.ref b1), .val (.int (1 : Int32)), .unset, .unset] [(.int (f_over (v_m p2) (v_m p2)))])) _
      refine XS.ifNo X26.here hx rfl (hb hby at_72) rfl ((if0 _ _).trans (teq g30).2) ?_
      show Steps p.tables e below (T26.setTop (mkF m 75 #[.val (.long p1), .second, .val (.long p2), .second, .val (.int p3), .val (.long (v_m p2)), .second, .val (.ref b1), .val (.int (1 : Int32)), .unset, .unset] [])) _
      refine XS.iconst X26.here hx rfl (hb hby at_75) ?_
      show Steps p.tables e below (T26.setTop (mkF m 76 #[.val (.long p1), .second, .val (.long p2), .second, .val (.int p3), .val (.long (v_m p2)), .second, .val (.ref b1), .val (.int (1 : Int32)), .unset, .unset] [(.int (1 : Int32))])) _
      refine XS.goto X26.here hx rfl (pc0 := 76) (pc' := 80) rfl (hb hby at_76) (by decide) (by decide) ?_
      show Steps p.tables e below (T26.setTop (mkF m 80 #[.val (.long p1), .second, .val (.long p2), .second, .val (.int p3), .val (.long (v_m p2)), .second, .val (.ref b1), .val (.int (1 : Int32)), .unset, .unset] [(.int (1 : Int32))])) _
      refine XS.istore X26.here hx rfl (hb hby at_80) rfl (l' := #[.val (.long p1), .second, .val (.long p2), .second, .val (.int p3), .val (.long (v_m p2)), .second, .val (.ref b1), .val (.int (1 : Int32)), .val (.int (1 : Int32)), .unset]) rfl ?_
      show Steps p.tables e below (T26.setTop (mkF m 82 #[.val (.long p1), .second, .val (.long p2), .second, .val (.int p3), .val (.long (v_m p2)), .second, .val (.ref b1), .val (.int (1 : Int32)), .val (.int (1 : Int32)), .unset] [])) _
      refine XS.lload X26.here hx rfl (hb hby at_82) rfl ?_
      show Steps p.tables e below (T26.setTop (mkF m 84 #[.val (.long p1), .second, .val (.long p2), .second, .val (.int p3), .val (.long (v_m p2)), .second, .val (.ref b1), .val (.int (1 : Int32)), .val (.int (1 : Int32)), .unset] [(.long (v_m p2))])) _
      refine X26.ldc2Long hx hown (mvT hZ (hw _ (List.mem_of_getElem? (i := 0) rfl))) (g := (mkF m 84 #[.val (.long p1), .second, .val (.long p2), .second, .val (.int p3), .val (.long (v_m p2)), .second, .val (.ref b1), .val (.int (1 : Int32)), .val (.int (1 : Int32)), .unset] [(.long (v_m p2))])) rfl (hb hby at_84) _ ?_
      show Steps p.tables e below (T26.setTop (mkF m 87 #[.val (.long p1), .second, .val (.long p2), .second, .val (.int p3), .val (.long (v_m p2)), .second, .val (.ref b1), .val (.int (1 : Int32)), .val (.int (1 : Int32)), .unset] [(.long (9223372036854775807 : Int64)), (.long (v_m p2))])) _
      refine XS.lcmp X26.here hx rfl (hb hby at_87) rfl ?_
      exact k)
  by_cases g32 : (lcmpW (v_m p2) (9223372036854775807 : Int64)) = (0 : Int32)
  · skip
    rw [if_pos g32] at hp
    obtain ⟨fs, hr, hrun, hended, hRW⟩ := X26.leaveW hS22 (by rw [e26]; exact (Nat.le_refl _)) (v := some (.int (1 : Int32))) (fun h => by rw [Bd.returns] at h; cases h)
    refine ⟨_, _, pre31 _ ?_, hrun, hended, _, _, rfl, ?_, hRW.1, hRW.2.1, hRW.2.2.1, hRW.2.2.2.mono (by decide) (by decide)⟩
    · show Steps p.tables e below (T26.setTop (mkF m 88 #[.val (.long p1), .second, .val (.long p2), .second, .val (.int p3), .val (.long (v_m p2)), .second, .val (.ref b1), .val (.int (1 : Int32)), .val (.int (1 : Int32)), .unset] [(.int (lcmpW (v_m p2) (9223372036854775807 : Int64)))])) _
      refine XS.ifYes X26.here hx rfl (pc0 := 88) (pc' := 110) rfl (hb hby at_88) rfl ((if0 _ _).trans (teq g32).1) (by decide) (by decide) ?_
      show Steps p.tables e below (T26.setTop (mkF m 110 #[.val (.long p1), .second, .val (.long p2), .second, .val (.int p3), .val (.long (v_m p2)), .second, .val (.ref b1), .val (.int (1 : Int32)), .val (.int (1 : Int32)), .unset] [])) _
      refine XS.iconst X26.here hx rfl (hb hby at_110) ?_
      show Steps p.tables e below (T26.setTop (mkF m 111 #[.val (.long p1), .second, .val (.long p2), .second, .val (.int p3), .val (.long (v_m p2)), .second, .val (.ref b1), .val (.int (1 : Int32)), .val (.int (1 : Int32)), .unset] [(.int (1 : Int32))])) _
      refine XS.goto X26.here hx rfl (pc0 := 111) (pc' := 115) rfl (hb hby at_111) (by decide) (by decide) ?_
      show Steps p.tables e below (T26.setTop (mkF m 115 #[.val (.long p1), .second, .val (.long p2), .second, .val (.int p3), .val (.long (v_m p2)), .second, .val (.ref b1), .val (.int (1 : Int32)), .val (.int (1 : Int32)), .unset] [(.int (1 : Int32))])) _
      refine XS.istore X26.here hx rfl (hb hby at_115) rfl (l' := #[.val (.long p1), .second, .val (.long p2), .second, .val (.int p3), .val (.long (v_m p2)), .second, .val (.ref b1), .val (.int (1 : Int32)), .val (.int (1 : Int32)), .val (.int (1 : Int32))]) rfl ?_
      show Steps p.tables e below (T26.setTop (mkF m 117 #[.val (.long p1), .second, .val (.long p2), .second, .val (.int p3), .val (.long (v_m p2)), .second, .val (.ref b1), .val (.int (1 : Int32)), .val (.int (1 : Int32)), .val (.int (1 : Int32))] [])) _
      refine XS.iload X26.here hx rfl (hb hby at_117) rfl ?_
      show Steps p.tables e below (T26.setTop (mkF m 119 #[.val (.long p1), .second, .val (.long p2), .second, .val (.int p3), .val (.long (v_m p2)), .second, .val (.ref b1), .val (.int (1 : Int32)), .val (.int (1 : Int32)), .val (.int (1 : Int32))] [(.int (1 : Int32))])) _
      refine XS.ifNo X26.here hx rfl (hb hby at_119) rfl ((if0 _ _).trans (feq (by decide : ¬ ((1 : Int32) = (0 : Int32)))).1) ?_
      show Steps p.tables e below (T26.setTop (mkF m 122 #[.val (.long p1), .second, .val (.long p2), .second, .val (.int p3), .val (.long (v_m p2)), .second, .val (.ref b1), .val (.int (1 : Int32)), .val (.int (1 : Int32)), .val (.int (1 : Int32))] [])) _
      refine XS.iload X26.here hx rfl (hb hby at_122) rfl ?_
      show Steps p.tables e below (T26.setTop (mkF m 124 #[.val (.long p1), .second, .val (.long p2), .second, .val (.int p3), .val (.long (v_m p2)), .second, .val (.ref b1), .val (.int (1 : Int32)), .val (.int (1 : Int32)), .val (.int (1 : Int32))] [(.int (1 : Int32))])) _
      refine XS.ifNo X26.here hx rfl (hb hby at_124) rfl ((if0 _ _).trans (feq (by decide : ¬ ((1 : Int32) = (0 : Int32)))).1) ?_
      show Steps p.tables e below (T26.setTop (mkF m 127 #[.val (.long p1), .second, .val (.long p2), .second, .val (.int p3), .val (.long (v_m p2)), .second, .val (.ref b1), .val (.int (1 : Int32)), .val (.int (1 : Int32)), .val (.int (1 : Int32))] [])) _
      refine XS.iload X26.here hx rfl (hb hby at_127) rfl ?_
      show Steps p.tables e below (T26.setTop (mkF m 129 #[.val (.long p1), .second, .val (.long p2), .second, .val (.int p3), .val (.long (v_m p2)), .second, .val (.ref b1), .val (.int (1 : Int32)), .val (.int (1 : Int32)), .val (.int (1 : Int32))] [(.int (1 : Int32))])) _
      refine XS.ifNo X26.here hx rfl (hb hby at_129) rfl ((if0 _ _).trans (feq (by decide : ¬ ((1 : Int32) = (0 : Int32)))).1) ?_
      show Steps p.tables e below (T26.setTop (mkF m 132 #[.val (.long p1), .second, .val (.long p2), .second, .val (.int p3), .val (.long (v_m p2)), .second, .val (.ref b1), .val (.int (1 : Int32)), .val (.int (1 : Int32)), .val (.int (1 : Int32))] [])) _
      refine XS.iconst X26.here hx rfl (hb hby at_132) ?_
      show Steps p.tables e below (T26.setTop (mkF m 133 #[.val (.long p1), .second, .val (.long p2), .second, .val (.int p3), .val (.long (v_m p2)), .second, .val (.ref b1), .val (.int (1 : Int32)), .val (.int (1 : Int32)), .val (.int (1 : Int32))] [(.int (1 : Int32))])) _
      refine XS.goto X26.here hx rfl (pc0 := 133) (pc' := 137) rfl (hb hby at_133) (by decide) (by decide) ?_
      show Steps p.tables e below (T26.setTop (mkF m 137 #[.val (.long p1), .second, .val (.long p2), .second, .val (.int p3), .val (.long (v_m p2)), .second, .val (.ref b1), .val (.int (1 : Int32)), .val (.int (1 : Int32)), .val (.int (1 : Int32))] [(.int (1 : Int32))])) _
      exact retN X26 hx (t := .boolean) Bd.returns (by simp) (hb hby at_137) hr
    · exact ⟨rfl, N26⟩
  · skip
    rw [if_neg g32] at hp
    obtain ⟨T33, h33, X33, e33, E33, A33, D33, -, st33⟩ := newO X26 hx hZ hown (hw _ (List.mem_of_getElem? (i := 33) rfl)) (hw _ (List.mem_of_getElem? (i := 34) rfl)) (hw _ (List.mem_of_getElem? (i := 35) rfl)) e26 (g := (mkF m 91 #[.val (.long p1), .second, .val (.long p2), .second, .val (.int p3), .val (.long (v_m p2)), .second, .val (.ref b1), .val (.int (1 : Int32)), .val (.int (1 : Int32)), .unset] [])) rfl (hb hby at_91) (by decide) (by decide)
    obtain ⟨b33, q_b33⟩ : ∃ z, z = (T22.heap).size := ⟨_, rfl⟩
    rw [← q_b33] at A33 D33 st33
    have g_b33 : n0 ≤ b33 := Nat.le_trans (own_z0 O29) (Nat.le_of_eq q_b33.symm)
    have sz_b33 : h0.size ≤ b33 := Nat.le_trans (Nat.le_trans (Nat.le_trans (Nat.le_trans (Nat.le_trans (Nat.le_trans (Nat.le_trans (Nat.le_refl _) E1.1) K4.1) E6.1) K8.1) E21.1) K22.1) (Nat.le_of_eq q_b33.symm)
    have ne_b1_b33 : b1 ≠ b33 := Nat.ne_of_lt (Nat.lt_of_lt_of_le F27.lt (Nat.le_of_eq q_b33.symm))
    have F34 := ((f8_0.ext E21).keep K22)
    have ne_b6_b33 : b6 ≠ b33 := Nat.ne_of_lt (Nat.lt_of_lt_of_le F34.lt (Nat.le_of_eq q_b33.symm))
    have ne_b21_b33 : b21 ≠ b33 := Nat.ne_of_lt (Nat.lt_of_lt_of_le f22_0.lt (Nat.le_of_eq q_b33.symm))
    have F_count_b33 : Fld Z h33 b33 "com/example/wallclick/wallclick/LimitCount" "count" "J" (.long (0 : Int64)) := D33 (Or.inr (hw _ (List.mem_of_getElem? (i := 41) rfl))) (ty := .long) (by decide)
    have F_limit_b33 : Fld Z h33 b33 "com/example/wallclick/wallclick/LimitCount" "limit" "Lcom/example/wallclick/wallclick/Limit;" .null := D33 (Or.inr (hw _ (List.mem_of_getElem? (i := 47) rfl))) (ty := (.object "com/example/wallclick/wallclick/Limit")) (by decide)
    have F36 := (F27.ext E33)
    have O37 := (O29.ext E33)
    have pre38 : ∀ t, Steps p.tables e below (T33.setTop (mkF m 101 #[.val (.long p1), .second, .val (.long p2), .second, .val (.int p3), .val (.long (v_m p2)), .second, .val (.ref b1), .val (.int (1 : Int32)), .val (.int (1 : Int32)), .unset] [(.ref b1), (.long ((v_m p2) + (1 : Int64))), (.ref b33), (.ref b33)])) t → Steps p.tables e below (s₁.setTop (entryFrame m #[(.long p1), (.long p2), (.int p3)] maxLocals)) t := fun t k => pre31 t (by
        show Steps p.tables e below (T26.setTop (mkF m 88 #[.val (.long p1), .second, .val (.long p2), .second, .val (.int p3), .val (.long (v_m p2)), .second, .val (.ref b1), .val (.int (1 : Int32)), .val (.int (1 : Int32)), .unset] [(.int (lcmpW (v_m p2) (9223372036854775807 : Int64)))])) _
        refine XS.ifNo X26.here hx rfl (hb hby at_88) rfl ((if0 _ _).trans (feq g32).1) ?_
        show Steps p.tables e below (T26.setTop (mkF m 91 #[.val (.long p1), .second, .val (.long p2), .second, .val (.int p3), .val (.long (v_m p2)), .second, .val (.ref b1), .val (.int (1 : Int32)), .val (.int (1 : Int32)), .unset] [])) _
        refine st33 _ ?_
        show Steps p.tables e below (T33.setTop (mkF m 94 #[.val (.long p1), .second, .val (.long p2), .second, .val (.int p3), .val (.long (v_m p2)), .second, .val (.ref b1), .val (.int (1 : Int32)), .val (.int (1 : Int32)), .unset] [(.ref b33)])) _
        refine XS.dup X33.here hx rfl (hb hby at_94) rfl rfl ?_
        show Steps p.tables e below (T33.setTop (mkF m 95 #[.val (.long p1), .second, .val (.long p2), .second, .val (.int p3), .val (.long (v_m p2)), .second, .val (.ref b1), .val (.int (1 : Int32)), .val (.int (1 : Int32)), .unset] [(.ref b33), (.ref b33)])) _
        refine XS.lload X33.here hx rfl (hb hby at_95) rfl ?_
        show Steps p.tables e below (T33.setTop (mkF m 97 #[.val (.long p1), .second, .val (.long p2), .second, .val (.int p3), .val (.long (v_m p2)), .second, .val (.ref b1), .val (.int (1 : Int32)), .val (.int (1 : Int32)), .unset] [(.long (v_m p2)), (.ref b33), (.ref b33)])) _
        refine XS.lconst X33.here hx rfl (hb hby at_97) ?_
        show Steps p.tables e below (T33.setTop (mkF m 98 #[.val (.long p1), .second, .val (.long p2), .second, .val (.int p3), .val (.long (v_m p2)), .second, .val (.ref b1), .val (.int (1 : Int32)), .val (.int (1 : Int32)), .unset] [(.long (1 : Int64)), (.long (v_m p2)), (.ref b33), (.ref b33)])) _
        refine XS.ladd X33.here hx rfl (hb hby at_98) rfl ?_
        show Steps p.tables e below (T33.setTop (mkF m 99 #[.val (.long p1), .second, .val (.long p2), .second, .val (.int p3), .val (.long (v_m p2)), .second, .val (.ref b1), .val (.int (1 : Int32)), .val (.int (1 : Int32)), .unset] [(.long ((v_m p2) + (1 : Int64))), (.ref b33), (.ref b33)])) _
        refine XS.aload X33.here hx rfl (hb hby at_99) rfl rfl ?_
        show Steps p.tables e below (T33.setTop (mkF m 101 #[.val (.long p1), .second, .val (.long p2), .second, .val (.int p3), .val (.long (v_m p2)), .second, .val (.ref b1), .val (.int (1 : Int32)), .val (.int (1 : Int32)), .unset] [(.ref b1), (.long ((v_m p2) + (1 : Int64))), (.ref b33), (.ref b33)])) _
        exact k)
    obtain ⟨_, _, ⟨T35, L35, k35, n35⟩, -, X35, hSn35, gn35, ⟨Lc35, hQ35, l35, y35, z35⟩, st35⟩ := X33.specialBackS hx (y := (⟨"com/example/wallclick/wallclick/LimitCount", "<init>", "(JLcom/example/wallclick/wallclick/Limit;)V"⟩ : MethodName)) rfl hown (mvT hZ (hw _ (List.mem_of_getElem? (i := 36) rfl))) (mvT hZ (hw _ (List.mem_of_getElem? (i := 37) rfl))) (mvT hZ (hw _ (List.mem_of_getElem? (i := 38) rfl))) (by decide) (backOfS (W := 1) (rm_lcInit l Z a0 hw [] gS gM gH gD b33 ((v_m p2) + (1 : Int64)) b1 h33 n0 (own_z0 O37) O37 S_gS S_gM S_gH S_gD A33 F_count_b33 F_limit_b33 F36 g_b33) hZ (hw _ (List.mem_of_getElem? (i := 38) rfl)) (hw _ (List.mem_of_getElem? (i := 35) rfl)) (by decide) (by decide)) (g := (mkF m 101 #[.val (.long p1), .second, .val (.long p2), .second, .val (.int p3), .val (.long (v_m p2)), .second, .val (.ref b1), .val (.int (1 : Int32)), .val (.int (1 : Int32)), .unset] [(.ref b1), (.long ((v_m p2) + (1 : Int64))), (.ref b33), (.ref b33)])) rfl (by rw [hml]; rfl) (Steps.refl _) (a := b33) (argsL := [(.long ((v_m p2) + (1 : Int64))), (.ref b1)]) (rest := [(.ref b33)]) (lenOf pd_com_example_wallclick_wallclick_Limit__V_43 rfl) rfl (by show 2 * 0 + _ ≤ _; exact Nat.le_of_eq rfl) (hb hby at_101) (fun _ _ => ⟨rfl, e33, (by decide : 10 + 2 ≤ _), (by decide : 72 + 24 ≤ _)⟩)
    dsimp only [Pt.U, Pt.locs, Pt.cells, Pt.slots] at X35 hSn35 gn35 l35 y35 z35 st35 hQ35
    subst l35 y35 z35
    obtain ⟨X35, hS35, hZ, hown⟩ := rebS hS22 (by rw [e33]; exact (Nat.le_trans (Nat.le_refl _) E33.1)) X35 hSn35 gn35 hZ hown
    obtain ⟨rfl, N35q, K35, f35_0, f35_1, f35_2⟩ := hQ35
    have N35 := Fr.app N26 N35q
    have F40 := (F36.keep K35)
    have F41 := ((F28.ext E33).keep K35 (ninS ne_b1_b33 nin0))
    have O42 := (O37.keep K35 (allS g_b33 all0))
    obtain ⟨cq39, kq39, q39a, q39b, q39c⟩ := isOf hZ rfl f35_0
    obtain ⟨_, _, ⟨T39, L39, k39, n39⟩, -, X39, ⟨Lc39, hQ39, l39, y39, z39⟩, st39⟩ := X35.virtualBack hx (y := (⟨"com/example/wallclick/wallclick/LimitCount", "over", "()Z"⟩ : MethodName)) (z := (⟨"com/example/wallclick/wallclick/LimitCount", "over", "()Z"⟩ : MethodName)) hown (mvT hZ (hw _ (List.mem_of_getElem? (i := 48) rfl))) (mvT hZ (hw _ (List.mem_of_getElem? (i := 49) rfl))) (notFace_of_selects (args := #[]) (mvT hZ (hw _ (List.mem_of_getElem? (i := 51) rfl)))) (mvT hZ (hw _ (List.mem_of_getElem? (i := 51) rfl))) (mvT hZ (hw _ (List.mem_of_getElem? (i := 50) rfl))) (by decide) (backOf (W := 0) (rm_over l Z a0 hw [] gS gM gH gD b33 ((v_m p2) + (1 : Int64)) b1 (v_m p2) T35.heap n0 (own_z0 O42) O42 S_gS S_gM S_gH S_gD f35_1 f35_2 F40 F41) hZ (hw _ (List.mem_of_getElem? (i := 52) rfl)) (hw _ (List.mem_of_getElem? (i := 35) rfl)) (by decide) (by decide)) q39a q39c (g := (mkF m 104 #[.val (.long p1), .second, .val (.long p2), .second, .val (.int p3), .val (.long (v_m p2)), .second, .val (.ref b1), .val (.int (1 : Int32)), .val (.int (1 : Int32)), .unset] [(.ref b33)])) rfl (by rw [hml]; rfl) (Steps.refl _) (argsL := []) (rest := []) (lenOf pd___Z_3 rfl) rfl (by show 2 * 0 + _ ≤ _; exact Nat.le_of_eq rfl) (hb hby at_104) (fun _ _ => ⟨rfl, rfl, (by decide : 12 + 0 ≤ _), (by decide : 96 + 0 ≤ _)⟩)
    dsimp only [Pt.U, Pt.locs, Pt.cells, Pt.slots] at X39 l39 y39 z39 st39 hQ39
    subst l39 y39 z39
    obtain ⟨rfl, N39q, e39⟩ := hQ39
    have N39 := Fr.app N35 N39q
    obtain ⟨g43, hp⟩ := hp
    obtain ⟨fs, hr, hrun, hended, hRW⟩ := X39.leaveW hS35 (by rw [e39]; exact (Nat.le_refl _)) (v := some (.int (1 : Int32))) (fun h => by rw [Bd.returns] at h; cases h)
    refine ⟨_, _, pre38 _ ?_, hrun, hended, _, _, rfl, ?_, hRW.1, hRW.2.1, hRW.2.2.1, hRW.2.2.2.mono (by decide) (by decide)⟩
    · refine st35.trans ?_
      show Steps p.tables e below (T35.setTop (mkF m 104 #[.val (.long p1), .second, .val (.long p2), .second, .val (.int p3), .val (.long (v_m p2)), .second, .val (.ref b1), .val (.int (1 : Int32)), .val (.int (1 : Int32)), .unset] [(.ref b33)])) _
      refine st39.trans ?_
      show Steps p.tables e below (T39.setTop (mkF m 107 #[.val (.long p1), .second, .val (.long p2), .second, .val (.int p3), .val (.long (v_m p2)), .second, .val (.ref b1), .val (.int (1 : Int32)), .val (.int (1 : Int32)), .unset] [(.int (f_over ((v_m p2) + (1 : Int64)) (v_m p2)))])) _
      refine XS.ifNo X39.here hx rfl (hb hby at_107) rfl ((if0 _ _).trans (feq g43).1) ?_
      show Steps p.tables e below (T39.setTop (mkF m 110 #[.val (.long p1), .second, .val (.long p2), .second, .val (.int p3), .val (.long (v_m p2)), .second, .val (.ref b1), .val (.int (1 : Int32)), .val (.int (1 : Int32)), .unset] [])) _
      refine XS.iconst X39.here hx rfl (hb hby at_110) ?_
      show Steps p.tables e below (T39.setTop (mkF m 111 #[.val (.long p1), .second, .val (.long p2), .second, .val (.int p3), .val (.long (v_m p2)), .second, .val (.ref b1), .val (.int (1 : Int32)), .val (.int (1 : Int32)), .unset] [(.int (1 : Int32))])) _
      refine XS.goto X39.here hx rfl (pc0 := 111) (pc' := 115) rfl (hb hby at_111) (by decide) (by decide) ?_
      show Steps p.tables e below (T39.setTop (mkF m 115 #[.val (.long p1), .second, .val (.long p2), .second, .val (.int p3), .val (.long (v_m p2)), .second, .val (.ref b1), .val (.int (1 : Int32)), .val (.int (1 : Int32)), .unset] [(.int (1 : Int32))])) _
      refine XS.istore X39.here hx rfl (hb hby at_115) rfl (l' := #[.val (.long p1), .second, .val (.long p2), .second, .val (.int p3), .val (.long (v_m p2)), .second, .val (.ref b1), .val (.int (1 : Int32)), .val (.int (1 : Int32)), .val (.int (1 : Int32))]) rfl ?_
      show Steps p.tables e below (T39.setTop (mkF m 117 #[.val (.long p1), .second, .val (.long p2), .second, .val (.int p3), .val (.long (v_m p2)), .second, .val (.ref b1), .val (.int (1 : Int32)), .val (.int (1 : Int32)), .val (.int (1 : Int32))] [])) _
      refine XS.iload X39.here hx rfl (hb hby at_117) rfl ?_
      show Steps p.tables e below (T39.setTop (mkF m 119 #[.val (.long p1), .second, .val (.long p2), .second, .val (.int p3), .val (.long (v_m p2)), .second, .val (.ref b1), .val (.int (1 : Int32)), .val (.int (1 : Int32)), .val (.int (1 : Int32))] [(.int (1 : Int32))])) _
      refine XS.ifNo X39.here hx rfl (hb hby at_119) rfl ((if0 _ _).trans (feq (by decide : ¬ ((1 : Int32) = (0 : Int32)))).1) ?_
      show Steps p.tables e below (T39.setTop (mkF m 122 #[.val (.long p1), .second, .val (.long p2), .second, .val (.int p3), .val (.long (v_m p2)), .second, .val (.ref b1), .val (.int (1 : Int32)), .val (.int (1 : Int32)), .val (.int (1 : Int32))] [])) _
      refine XS.iload X39.here hx rfl (hb hby at_122) rfl ?_
      show Steps p.tables e below (T39.setTop (mkF m 124 #[.val (.long p1), .second, .val (.long p2), .second, .val (.int p3), .val (.long (v_m p2)), .second, .val (.ref b1), .val (.int (1 : Int32)), .val (.int (1 : Int32)), .val (.int (1 : Int32))] [(.int (1 : Int32))])) _
      refine XS.ifNo X39.here hx rfl (hb hby at_124) rfl ((if0 _ _).trans (feq (by decide : ¬ ((1 : Int32) = (0 : Int32)))).1) ?_
      show Steps p.tables e below (T39.setTop (mkF m 127 #[.val (.long p1), .second, .val (.long p2), .second, .val (.int p3), .val (.long (v_m p2)), .second, .val (.ref b1), .val (.int (1 : Int32)), .val (.int (1 : Int32)), .val (.int (1 : Int32))] [])) _
      refine XS.iload X39.here hx rfl (hb hby at_127) rfl ?_
      show Steps p.tables e below (T39.setTop (mkF m 129 #[.val (.long p1), .second, .val (.long p2), .second, .val (.int p3), .val (.long (v_m p2)), .second, .val (.ref b1), .val (.int (1 : Int32)), .val (.int (1 : Int32)), .val (.int (1 : Int32))] [(.int (1 : Int32))])) _
      refine XS.ifNo X39.here hx rfl (hb hby at_129) rfl ((if0 _ _).trans (feq (by decide : ¬ ((1 : Int32) = (0 : Int32)))).1) ?_
      show Steps p.tables e below (T39.setTop (mkF m 132 #[.val (.long p1), .second, .val (.long p2), .second, .val (.int p3), .val (.long (v_m p2)), .second, .val (.ref b1), .val (.int (1 : Int32)), .val (.int (1 : Int32)), .val (.int (1 : Int32))] [])) _
      refine XS.iconst X39.here hx rfl (hb hby at_132) ?_
      show Steps p.tables e below (T39.setTop (mkF m 133 #[.val (.long p1), .second, .val (.long p2), .second, .val (.int p3), .val (.long (v_m p2)), .second, .val (.ref b1), .val (.int (1 : Int32)), .val (.int (1 : Int32)), .val (.int (1 : Int32))] [(.int (1 : Int32))])) _
      refine XS.goto X39.here hx rfl (pc0 := 133) (pc' := 137) rfl (hb hby at_133) (by decide) (by decide) ?_
      show Steps p.tables e below (T39.setTop (mkF m 137 #[.val (.long p1), .second, .val (.long p2), .second, .val (.int p3), .val (.long (v_m p2)), .second, .val (.ref b1), .val (.int (1 : Int32)), .val (.int (1 : Int32)), .val (.int (1 : Int32))] [(.int (1 : Int32))])) _
      exact retN X39 hx (t := .boolean) Bd.returns (by simp) (hb hby at_137) hr
    · exact ⟨rfl, N39⟩
theorem own_plain {p1 p2 : Int64} : lawP p1 p2 := by
  have h0 : 0 ≤ (v_m p2).toInt := own_mask p2
  have k1 : (9223372036854775807 : Int64).toInt = 9223372036854775807 := rfl
  have k2 : (1 : Int64).toInt = 1 := rfl
  have r := rng64 (v_m p2)
  have r' := rng64 (v_m p2 + (1 : Int64))
  have a := c_ladd (v_m p2) 1
  unfold lawP m_law_0 f_over
  generalize v_m p2 = m at *
  refine ⟨rfl, ?_, ?_⟩
  · have : ¬ ((0 : Int32) < lcmpW m m) := by rw [lw_gt]; exact Int64.lt_irrefl
    simp [this]
  · by_cases g : lcmpW m (9223372036854775807 : Int64) = (0 : Int32)
    · simp [g]
    · have g' : ¬ (m = 9223372036854775807) := fun q => g ((lw_eq _ _).mpr q)
      have g2 : ¬ (m.toInt = 9223372036854775807) := fun q => g' (Int64.toInt_inj.mp (by rw [q, k1]))
      have : (0 : Int32) < lcmpW (m + (1 : Int64)) m := by
        rw [lw_gt, Int64.lt_iff_toInt_lt]
        omega
      simp [g, this]
set_option maxRecDepth 65536 in
set_option maxHeartbeats 40000000 in
theorem comes_1 {Post : Tables → Env → Array Value → State → Outcome → State → Prop} (hpost : ∀ tb e args s v u, (limb_1_1.after args s (.returned v) u = true ∧ limb_1_2.after args s (.returned v) u = true ∧ True) → ReturnedEndW s (.returned v) u (Jvm.fieldLocs frame_1_writes args s ++ Jvm.arrayLocs frame_1_arrays args s ++ Jvm.staticLocs frame_1_statics s) 24 2176 → Post tb e args s (.returned v) u) :
    ArmFor flags0 classFile x code maxLocals ret World_1 tables_1 room_1 Calls_1 rest_1 Pre_1 Post := by
  intro l hfl _ _ p e ha hc hk s m args below hf hA hF happ hP
  obtain ⟨hcalls, hrest, hpre⟩ := hP
  obtain ⟨-, -, -, hnamed, -, -, -, hat⟩ := (Spec.applies_iff hf).mp happ
  obtain ⟨hg, hn⟩ := and_e (Cond.before_iff.mp (show (Jvm.Cond.and given_1 narrow_1).before args s = true from hpre))
  obtain ⟨gv0, gr0⟩ := and_e hg
  obtain ⟨gv1, gr1⟩ := and_e gr0
  obtain ⟨gv2, gr2⟩ := and_e gr1
  obtain ⟨w0, w1, w2, rfl⟩ : ∃ w0 w1 w2 : Value, args = #[w0, w1, w2] := by
    have hs : args.size = 3 := by simpa [Cond.value, given_1] using gv0
    obtain ⟨L⟩ := args
    match L, hs with
    | [w0, w1, w2], _ => exact ⟨w0, w1, w2, rfl⟩
  have hw := fun d (hd : d ∈ tables_1) => atoms_spec (ws := Jvm.Cond.code x code maxLocals ret :: tables_1) hat d (List.mem_cons_of_mem _ hd)
  obtain ⟨i0, ei0⟩ := isL_v gv1
  obtain rfl : w0 = (.long i0) := Option.some.inj ei0
  obtain ⟨i1, ei1⟩ := isL_v gv2
  obtain rfl : w1 = (.long i1) := Option.some.inj ei1
  obtain ⟨i2, ei2⟩ := is_v gr2
  obtain rfl : w2 = (.int i2) := Option.some.inj ei2
  obtain ⟨nv0, nr0⟩ := and_e hn
  obtain ⟨nv1, nr1⟩ := and_e nr0
  obtain ⟨nv2, nr2⟩ := and_e nr1
  obtain ⟨gS, ev_gS⟩ := exa_v nv0
  have S_gS : Sta s s.heap "com/example/wallclick/wallclick/Granularity" "SECOND" "Lcom/example/wallclick/wallclick/Granularity;" (.ref gS) := Sta.start ev_gS (Or.inr ⟨(hw _ (List.mem_of_getElem? (i := 9) rfl)), (hw _ (List.mem_of_getElem? (i := 10) rfl))⟩)
  have E_gS : Exa s s.heap gS "com/example/wallclick/wallclick/Granularity" := Exa.start ev_gS nv0
  obtain ⟨gD, ev_gD⟩ := exa_v nv1
  have S_gD : Sta s s.heap "com/example/wallclick/wallclick/Granularity" "DAY" "Lcom/example/wallclick/wallclick/Granularity;" (.ref gD) := Sta.start ev_gD (Or.inr ⟨(hw _ (List.mem_of_getElem? (i := 9) rfl)), (hw _ (List.mem_of_getElem? (i := 59) rfl))⟩)
  have E_gD : Exa s s.heap gD "com/example/wallclick/wallclick/Granularity" := Exa.start ev_gD nv1
  obtain ⟨gM, ev_gM⟩ := exa_v nv2
  have S_gM : Sta s s.heap "com/example/wallclick/wallclick/Granularity" "MINUTE" "Lcom/example/wallclick/wallclick/Granularity;" (.ref gM) := Sta.start ev_gM (Or.inr ⟨(hw _ (List.mem_of_getElem? (i := 9) rfl)), (hw _ (List.mem_of_getElem? (i := 61) rfl))⟩)
  have E_gM : Exa s s.heap gM "com/example/wallclick/wallclick/Granularity" := Exa.start ev_gM nv2
  obtain ⟨gH, ev_gH⟩ := exa_v nr2
  have S_gH : Sta s s.heap "com/example/wallclick/wallclick/Granularity" "HOUR" "Lcom/example/wallclick/wallclick/Granularity;" (.ref gH) := Sta.start ev_gH (Or.inr ⟨(hw _ (List.mem_of_getElem? (i := 9) rfl)), (hw _ (List.mem_of_getElem? (i := 63) rfl))⟩)
  have E_gH : Exa s s.heap gH "com/example/wallclick/wallclick/Granularity" := Exa.start ev_gH nr2
  have O0 := Old.start s
  obtain ⟨n, o, h1, h2, h3, _, L, rfl, ⟨rfl, N⟩, hq⟩ := rm_law l s _ hw tables_1 gS gM gH gD i0 i1 i2 s.heap s.heap.size (Nat.le_refl _) O0 S_gS S_gM S_gH S_gD own_plain p e ha hc hk s m _ below hf ((Spec.applies_iff_loose hf).mp happ).1 ⟨rfl, State.Warmed39.refl s, rfl⟩ trivial
  exact ⟨n, _, h1, h2, h3, hpost _ _ _ _ _ _ ⟨Cond.after_iff.mpr rfl, Cond.after_iff.mpr (eq_i res_at (Term.int_eval (1)) rfl), trivial⟩ ⟨hq.1, hq.2.1, hq.2.2.1, (hq.2.2.2.sift fun y hy => Or.inr (N y hy)).mono (by decide) (by decide)⟩⟩
theorem main_1_1 : Claimed_1_1 := comes_1 fun _ _ _ _ _ _ h hF => ⟨h.1, hF⟩
theorem main_1_2 : Claimed_1_2 := comes_1 fun _ _ _ _ _ _ h hF => ⟨h.2.1, hF⟩

end Jvm.Pilot.@@N@@
namespace Jvm.Pilot.@@N@@
open Jvm Jvm.ClassFile Sem Op Lib Jvm.Free Jvm.Stand Jvm.Pilot.@@N@@.Jvm.D
/-! MADE BY PROGRAM (witnessworld.py) out of the Statement's table words and the real class files: 19 classes; the members and pool entries that the words name. The judged class is class 1, her method 2. -/
namespace start1
open Jvm.ClassFile
def u (s : String) : CpInfo := .utf8 (stringToUtf16 s)
/-- a pool by its gaps: so many unusable entries, then the entry; so many at the end -/
def gap : Nat → List CpInfo → List CpInfo
  | 0, r => r
  | n + 1, r => .unusable :: gap n r
def poolList (es : List (Nat × CpInfo)) (last : Nat) : List CpInfo := es.foldr (fun e r => gap e.1 (e.2 :: r)) (gap last [])
def pool (es : List (Nat × CpInfo)) (last : Nat) : Array CpInfo := ⟨poolList es last⟩
def fileOf (pool : Array CpInfo) (this : Nat) (attrs : Array Attribute := #[]) (ms : Array MethodInfo := #[]) (fl : Nat := 33) (sup : Nat := 0) (ifs : Array Nat := #[]) (fds : Array FieldInfo := #[]) : ClassFile where
  minorVersion := 0
  majorVersion := 65
  constantPool := pool
  accessFlags := fl
  thisClass := this
  superClass := sup
  interfaces := ifs
  fields := fds
  methods := ms
  attributes := attrs
def plain (name : String) (sup : Option ClassId) : Class where
  name := name
  kind := .ordinary
  loader := none
  accessFlags := 33
  super := sup
  interfaces := #[]
  cf := none
  fields := #[]
  methods := #[]
  instanceTypes := #[]
  staticTypes := #[]
  resolved := #[]
  callSites := []
  init := .initialized
  statics := none
  mirror := none

def pool0 : Array CpInfo := pool [(5, u "<init>"), (0, u "()V"), (1, .class_ 10), (1, u "java/lang/Object")] 113

def k0c0 : Code := { maxStack := 0, maxLocals := 1, code := object_method_1_code, exceptionTable := #[], attributes := #[] }
def k0m0 : Method := { name := "<init>", desc := "()V", sig := { parameters := [], returnType := none }, accessFlags := 1, code := some k0c0 }
/-- java/lang/Object -/
def k0 : Class := { plain "java/lang/Object" none with
  accessFlags := 33
  interfaces := #[]
  cf := some (fileOf pool0 8 #[] #[{ accessFlags := 1, nameIndex := 5, descriptorIndex := 6, attributes := #[] }] 33 0 #[] #[])
  fields := #[]
  methods := #[k0m0]
  instanceTypes := #[]
  staticTypes := #[]
  resolved := Array.replicate 124 none
  statics := none }

def pool1 : Array CpInfo := pool [(2, .class_ 4), (1, u "java/lang/Object"), (0, u "<init>"), (0, u "()V"), (0, .fieldref 8 9), (0, .class_ 10), (0, .nameAndType 11 12), (0, u "com/example/wallclick/wallclick/Granularity"), (0, u "SECOND"), (0, u "Lcom/example/wallclick/wallclick/Granularity;"), (0, .fieldref 8 14), (0, .nameAndType 15 12), (0, u "MINUTE"), (0, .fieldref 8 17), (0, .nameAndType 18 12), (0, u "HOUR"), (0, .fieldref 8 20), (0, .nameAndType 21 12), (0, u "DAY"), (2, .long 9223372036854775807), (1, .class_ 27), (0, u "com/example/wallclick/wallclick/Limit"), (0, .methodref 29 30), (0, .class_ 31), (0, .nameAndType 32 33), (0, u "com/example/wallclick/wallclick/LimitCountOverPinLaw"), (0, u "pick"), (0, u "(I)Lcom/example/wallclick/wallclick/Granularity;"), (0, .methodref 26 35), (0, .nameAndType 5 36), (0, u "(JLcom/example/wallclick/wallclick/Granularity;)V"), (0, .class_ 38), (0, u "com/example/wallclick/wallclick/LimitCount"), (0, .methodref 37 40), (0, .nameAndType 5 41), (0, u "(JLcom/example/wallclick/wallclick/Limit;)V"), (0, .methodref 37 43), (0, .nameAndType 44 45), (0, u "over"), (0, u "()Z"), (3, u "law"), (0, u "(JJI)Z")] 2

def k1m0 : Method := { name := "<init>", desc := "()V", sig := { parameters := [], returnType := none }, accessFlags := 1, code := none }
def k1c1 : Code := { maxStack := 2, maxLocals := 2, code := method_2_code, exceptionTable := #[], attributes := #[] }
def k1m1 : Method := { name := "pick", desc := "(I)Lcom/example/wallclick/wallclick/Granularity;", sig := { parameters := [.int], returnType := some (.object "com/example/wallclick/wallclick/Granularity") }, accessFlags := 10, code := some k1c1 }
def k1c2 : Code := { maxStack := 6, maxLocals := 11, code := code, exceptionTable := #[], attributes := #[] }
def k1m2 : Method := { name := "law", desc := "(JJI)Z", sig := { parameters := [.long, .long, .int], returnType := some .boolean }, accessFlags := 9, code := some k1c2 }
/-- com/example/wallclick/wallclick/LimitCountOverPinLaw -/
def k1 : Class := { plain "com/example/wallclick/wallclick/LimitCountOverPinLaw" (some 0) with
  accessFlags := 49
  interfaces := #[]
  cf := some (fileOf pool1 29 #[] #[{ accessFlags := 1, nameIndex := 5, descriptorIndex := 6, attributes := #[] }, { accessFlags := 10, nameIndex := 32, descriptorIndex := 33, attributes := #[] }, { accessFlags := 9, nameIndex := 49, descriptorIndex := 50, attributes := #[] }] 49 2 #[] #[])
  fields := #[]
  methods := #[k1m0, k1m1, k1m2]
  instanceTypes := #[]
  staticTypes := #[]
  resolved := Array.replicate 53 none
  statics := none }

def pool2 : Array CpInfo := pool [(1, .methodref 2 3), (0, .class_ 4), (0, .nameAndType 5 6), (0, u "java/lang/Object"), (0, u "<init>"), (0, u "()V"), (0, .string 8), (0, u "per"), (0, .methodref 10 11), (0, .class_ 12), (0, .nameAndType 13 14), (0, u "java/util/Objects"), (0, u "requireNonNull"), (0, u "(Ljava/lang/Object;Ljava/lang/String;)Ljava/lang/Object;"), (9, .fieldref 25 26), (0, .class_ 27), (0, .nameAndType 28 29), (0, u "com/example/wallclick/wallclick/Limit"), (0, u "most"), (0, u "J"), (0, .fieldref 25 31), (0, .nameAndType 8 32), (0, u "Lcom/example/wallclick/wallclick/Granularity;"), (9, u "(JLcom/example/wallclick/wallclick/Granularity;)V"), (3, u "()J")] 21

def k2c0 : Code := { maxStack := 4, maxLocals := 4, code := prog_9_method_1_code, exceptionTable := #[], attributes := #[] }
def k2m0 : Method := { name := "<init>", desc := "(JLcom/example/wallclick/wallclick/Granularity;)V", sig := { parameters := [.long, (.object "com/example/wallclick/wallclick/Granularity")], returnType := none }, accessFlags := 1, code := some k2c0 }
def k2c1 : Code := { maxStack := 2, maxLocals := 1, code := prog_9_method_2_code, exceptionTable := #[], attributes := #[] }
def k2m1 : Method := { name := "most", desc := "()J", sig := { parameters := [], returnType := some .long }, accessFlags := 1, code := some k2c1 }
/-- com/example/wallclick/wallclick/Limit -/
def k2 : Class := { plain "com/example/wallclick/wallclick/Limit" (some 0) with
  accessFlags := 33
  interfaces := #[]
  cf := some (fileOf pool2 25 #[] #[{ accessFlags := 1, nameIndex := 5, descriptorIndex := 42, attributes := #[] }, { accessFlags := 1, nameIndex := 28, descriptorIndex := 46, attributes := #[] }] 33 2 #[] #[{ accessFlags := 18, nameIndex := 28, descriptorIndex := 29, attributes := #[] }, { accessFlags := 18, nameIndex := 8, descriptorIndex := 32, attributes := #[] }])
  fields := #[{ name := "most", type := .long, accessFlags := 18, slot := 0, constantValue := 0 }, { name := "per", type := (.object "com/example/wallclick/wallclick/Granularity"), accessFlags := 18, slot := 1, constantValue := 0 }]
  methods := #[k2m0, k2m1]
  instanceTypes := #[.long, (.object "com/example/wallclick/wallclick/Granularity")]
  staticTypes := #[]
  resolved := Array.replicate 68 none
  statics := none }

def pool3 : Array CpInfo := pool [(1, .class_ 2), (0, u "java/lang/constant/Constable"), (0, .class_ 4), (0, u "java/lang/Object")] 6

/-- java/lang/constant/Constable -/
def k3 : Class := { plain "java/lang/constant/Constable" (some 0) with
  accessFlags := 1537
  interfaces := #[]
  cf := some (fileOf pool3 1 #[] #[] 1537 3 #[] #[])
  fields := #[]
  methods := #[]
  instanceTypes := #[]
  staticTypes := #[]
  resolved := Array.replicate 11 none
  statics := none }

def pool4 : Array CpInfo := pool [(1, .class_ 2), (0, u "java/lang/Comparable"), (0, .class_ 4), (0, u "java/lang/Object")] 7

/-- java/lang/Comparable -/
def k4 : Class := { plain "java/lang/Comparable" (some 0) with
  accessFlags := 1537
  interfaces := #[]
  cf := some (fileOf pool4 1 #[] #[] 1537 3 #[] #[])
  fields := #[]
  methods := #[]
  instanceTypes := #[]
  staticTypes := #[]
  resolved := Array.replicate 12 none
  statics := none }

def pool5 : Array CpInfo := pool [(1, .class_ 2), (0, u "java/io/Serializable"), (0, .class_ 4), (0, u "java/lang/Object")] 2

/-- java/io/Serializable -/
def k5 : Class := { plain "java/io/Serializable" (some 0) with
  accessFlags := 1537
  interfaces := #[]
  cf := some (fileOf pool5 1 #[] #[] 1537 3 #[] #[])
  fields := #[]
  methods := #[]
  instanceTypes := #[]
  staticTypes := #[]
  resolved := Array.replicate 7 none
  statics := none }

def pool6 : Array CpInfo := pool [(2, .class_ 4), (1, u "java/lang/Enum"), (0, u "name"), (0, u "Ljava/lang/String;"), (2, u "ordinal"), (0, u "I"), (1, .class_ 14), (1, u "java/lang/Object"), (4, u "hash"), (86, .class_ 108), (1, u "java/lang/Enum$EnumDesc"), (2, .class_ 112), (0, u "java/lang/constant/Constable"), (0, .class_ 114), (0, u "java/lang/Comparable"), (0, .class_ 116), (0, u "java/io/Serializable")] 87

/-- java/lang/Enum -/
def k6 : Class := { plain "java/lang/Enum" (some 0) with
  accessFlags := 1057
  interfaces := #[3, 4, 5]
  cf := some (fileOf pool6 2 #[.nestMembers #[106]] #[] 1057 12 #[111, 113, 115] #[{ accessFlags := 18, nameIndex := 5, descriptorIndex := 6, attributes := #[] }, { accessFlags := 18, nameIndex := 9, descriptorIndex := 10, attributes := #[] }, { accessFlags := 2, nameIndex := 19, descriptorIndex := 10, attributes := #[] }])
  fields := #[{ name := "name", type := (.object "java/lang/String"), accessFlags := 18, slot := 0, constantValue := 0 }, { name := "ordinal", type := .int, accessFlags := 18, slot := 1, constantValue := 0 }, { name := "hash", type := .int, accessFlags := 2, slot := 2, constantValue := 0 }]
  methods := #[]
  instanceTypes := #[(.object "java/lang/String"), .int, .int]
  staticTypes := #[]
  resolved := Array.replicate 204 none
  statics := none }

def pool7 : Array CpInfo := pool [(9, .class_ 10), (0, u "com/example/wallclick/wallclick/Labelled"), (52, .class_ 64), (0, u "java/lang/Object")] 41

/-- com/example/wallclick/wallclick/Labelled -/
def k7 : Class := { plain "com/example/wallclick/wallclick/Labelled" (some 0) with
  accessFlags := 1536
  interfaces := #[]
  cf := some (fileOf pool7 9 #[] #[] 1536 63 #[] #[])
  fields := #[]
  methods := #[]
  instanceTypes := #[]
  staticTypes := #[]
  resolved := Array.replicate 106 none
  statics := none }

def pool8 : Array CpInfo := pool [(1, .class_ 2), (0, u "com/example/wallclick/wallclick/Granularity"), (2, u "SECOND"), (0, u "Lcom/example/wallclick/wallclick/Granularity;"), (2, u "MINUTE"), (2, u "HOUR"), (2, u "DAY"), (2, u "$VALUES"), (0, u "[Lcom/example/wallclick/wallclick/Granularity;"), (6, .class_ 28), (1, u "java/lang/Enum"), (8, u "label"), (0, u "Ljava/lang/String;"), (2, u "bucketSeconds"), (0, u "J"), (2, u "groupSeconds"), (2, u "timeToLiveSeconds"), (0, u "Ljava/util/OptionalLong;"), (3, .class_ 55), (1, u "com/example/wallclick/wallclick/Labelled"), (179, u "MEMBERS"), (1, u "DISTINCT")] 63

/-- com/example/wallclick/wallclick/Granularity -/
def k8 : Class := { plain "com/example/wallclick/wallclick/Granularity" (some 6) with
  accessFlags := 16433
  interfaces := #[7]
  cf := some (fileOf pool8 1 #[] #[] 16433 26 #[53] #[{ accessFlags := 16409, nameIndex := 5, descriptorIndex := 6, attributes := #[] }, { accessFlags := 16409, nameIndex := 9, descriptorIndex := 6, attributes := #[] }, { accessFlags := 16409, nameIndex := 12, descriptorIndex := 6, attributes := #[] }, { accessFlags := 16409, nameIndex := 15, descriptorIndex := 6, attributes := #[] }, { accessFlags := 26, nameIndex := 235, descriptorIndex := 38, attributes := #[] }, { accessFlags := 26, nameIndex := 237, descriptorIndex := 38, attributes := #[] }, { accessFlags := 18, nameIndex := 37, descriptorIndex := 38, attributes := #[] }, { accessFlags := 18, nameIndex := 41, descriptorIndex := 42, attributes := #[] }, { accessFlags := 18, nameIndex := 45, descriptorIndex := 42, attributes := #[] }, { accessFlags := 18, nameIndex := 48, descriptorIndex := 49, attributes := #[] }, { accessFlags := 4122, nameIndex := 18, descriptorIndex := 19, attributes := #[] }])
  fields := #[{ name := "SECOND", type := (.object "com/example/wallclick/wallclick/Granularity"), accessFlags := 16409, slot := 0, constantValue := 0 }, { name := "MINUTE", type := (.object "com/example/wallclick/wallclick/Granularity"), accessFlags := 16409, slot := 1, constantValue := 0 }, { name := "HOUR", type := (.object "com/example/wallclick/wallclick/Granularity"), accessFlags := 16409, slot := 2, constantValue := 0 }, { name := "DAY", type := (.object "com/example/wallclick/wallclick/Granularity"), accessFlags := 16409, slot := 3, constantValue := 0 }, { name := "MEMBERS", type := (.object "java/lang/String"), accessFlags := 26, slot := 4, constantValue := 0 }, { name := "DISTINCT", type := (.object "java/lang/String"), accessFlags := 26, slot := 5, constantValue := 0 }, { name := "label", type := (.object "java/lang/String"), accessFlags := 18, slot := 3, constantValue := 0 }, { name := "bucketSeconds", type := .long, accessFlags := 18, slot := 4, constantValue := 0 }, { name := "groupSeconds", type := .long, accessFlags := 18, slot := 5, constantValue := 0 }, { name := "timeToLiveSeconds", type := (.object "java/util/OptionalLong"), accessFlags := 18, slot := 6, constantValue := 0 }, { name := "$VALUES", type := (.array (.object "com/example/wallclick/wallclick/Granularity")), accessFlags := 4122, slot := 6, constantValue := 0 }]
  methods := #[]
  instanceTypes := #[(.object "java/lang/String"), .int, .int, (.object "java/lang/String"), .long, .long, (.object "java/util/OptionalLong")]
  staticTypes := #[(.object "com/example/wallclick/wallclick/Granularity"), (.object "com/example/wallclick/wallclick/Granularity"), (.object "com/example/wallclick/wallclick/Granularity"), (.object "com/example/wallclick/wallclick/Granularity"), (.object "java/lang/String"), (.object "java/lang/String"), (.array (.object "com/example/wallclick/wallclick/Granularity"))]
  resolved := Array.replicate 301 none
  statics := some 0 }

def pool9 : Array CpInfo := pool [(2, .class_ 4), (1, u "java/lang/CharSequence"), (42, .class_ 48), (0, u "java/lang/CharSequence$1CodePointIterator"), (10, .class_ 60), (0, u "java/lang/CharSequence$1CharIterator"), (5, .class_ 67), (0, u "java/lang/Object")] 63

/-- java/lang/CharSequence -/
def k9 : Class := { plain "java/lang/CharSequence" (some 0) with
  accessFlags := 1537
  interfaces := #[]
  cf := some (fileOf pool9 2 #[.nestMembers #[47, 59]] #[] 1537 66 #[] #[])
  fields := #[]
  methods := #[]
  instanceTypes := #[]
  staticTypes := #[]
  resolved := Array.replicate 131 none
  statics := none }

def pool10 : Array CpInfo := pool [(1, .class_ 2), (0, u "java/lang/constant/ConstantDesc"), (0, .class_ 4), (0, u "java/lang/Object")] 32

/-- java/lang/constant/ConstantDesc -/
def k10 : Class := { plain "java/lang/constant/ConstantDesc" (some 0) with
  accessFlags := 1537
  interfaces := #[]
  cf := some (fileOf pool10 1 #[] #[] 1537 3 #[] #[])
  fields := #[]
  methods := #[]
  instanceTypes := #[]
  staticTypes := #[]
  resolved := Array.replicate 37 none
  statics := none }

def pool11 : Array CpInfo := pool [(2, .class_ 4), (1, u "java/lang/Object"), (0, u "<init>"), (0, u "()V"), (3, .class_ 12), (1, u "java/lang/String"), (0, u "value"), (0, u "[B"), (2, u "coder"), (0, u "B"), (2, u "hash"), (0, u "I"), (2, u "hashIsZero"), (0, u "Z"), (13, u "COMPACT_STRINGS"), (534, .class_ 576), (0, u "java/lang/CharSequence"), (22, u "CASE_INSENSITIVE_ORDER"), (0, u "Ljava/util/Comparator;"), (500, u "serialPersistentFields"), (0, u "[Ljava/io/ObjectStreamField;"), (0, .class_ 1104), (0, u "java/lang/String$CaseInsensitiveComparator"), (1, .class_ 1107), (0, u "java/io/Serializable"), (0, .class_ 1109), (0, u "java/lang/Comparable"), (0, .class_ 1111), (0, u "java/lang/constant/Constable"), (0, .class_ 1113), (0, u "java/lang/constant/ConstantDesc"), (2, u "serialVersionUID"), (0, u "J"), (3, u "REPL"), (0, u "C"), (2, u "LATIN1"), (1, u "UTF16")] 323

def k11m0 : Method := { name := "<init>", desc := "()V", sig := { parameters := [], returnType := none }, accessFlags := 1, code := none }
/-- java/lang/String -/
def k11 : Class := { plain "java/lang/String" (some 0) with
  accessFlags := 49
  interfaces := #[5, 4, 9, 3, 10]
  cf := some (fileOf pool11 10 #[.nestMembers #[1103]] #[{ accessFlags := 1, nameIndex := 5, descriptorIndex := 6, attributes := #[] }] 49 2 #[1106, 1108, 575, 1110, 1112] #[{ accessFlags := 18, nameIndex := 13, descriptorIndex := 14, attributes := #[] }, { accessFlags := 18, nameIndex := 17, descriptorIndex := 18, attributes := #[] }, { accessFlags := 2, nameIndex := 21, descriptorIndex := 22, attributes := #[] }, { accessFlags := 2, nameIndex := 25, descriptorIndex := 26, attributes := #[] }, { accessFlags := 26, nameIndex := 1116, descriptorIndex := 1117, attributes := #[] }, { accessFlags := 24, nameIndex := 40, descriptorIndex := 26, attributes := #[] }, { accessFlags := 26, nameIndex := 1101, descriptorIndex := 1102, attributes := #[] }, { accessFlags := 26, nameIndex := 1121, descriptorIndex := 1122, attributes := #[] }, { accessFlags := 25, nameIndex := 599, descriptorIndex := 600, attributes := #[] }, { accessFlags := 24, nameIndex := 1125, descriptorIndex := 18, attributes := #[] }, { accessFlags := 24, nameIndex := 1127, descriptorIndex := 18, attributes := #[] }])
  fields := #[{ name := "value", type := (.array .byte), accessFlags := 18, slot := 0, constantValue := 0 }, { name := "coder", type := .byte, accessFlags := 18, slot := 1, constantValue := 0 }, { name := "hash", type := .int, accessFlags := 2, slot := 2, constantValue := 0 }, { name := "hashIsZero", type := .boolean, accessFlags := 2, slot := 3, constantValue := 0 }, { name := "serialVersionUID", type := .long, accessFlags := 26, slot := 0, constantValue := 0 }, { name := "COMPACT_STRINGS", type := .boolean, accessFlags := 24, slot := 1, constantValue := 0 }, { name := "serialPersistentFields", type := (.array (.object "java/io/ObjectStreamField")), accessFlags := 26, slot := 2, constantValue := 0 }, { name := "REPL", type := .char, accessFlags := 26, slot := 3, constantValue := 0 }, { name := "CASE_INSENSITIVE_ORDER", type := (.object "java/util/Comparator"), accessFlags := 25, slot := 4, constantValue := 0 }, { name := "LATIN1", type := .byte, accessFlags := 24, slot := 5, constantValue := 0 }, { name := "UTF16", type := .byte, accessFlags := 24, slot := 6, constantValue := 0 }]
  methods := #[k11m0]
  instanceTypes := #[(.array .byte), .byte, .int, .boolean]
  staticTypes := #[.long, .boolean, (.array (.object "java/io/ObjectStreamField")), .char, (.object "java/util/Comparator"), .byte, .byte]
  resolved := Array.replicate 1451 none
  statics := none }

def pool12 : Array CpInfo := pool [(2, .class_ 4), (1, u "java/lang/Object"), (0, u "<init>"), (0, u "()V"), (35, .class_ 44), (1, u "java/util/Objects"), (0, u "requireNonNull"), (48, u "(Ljava/lang/Object;Ljava/lang/String;)Ljava/lang/Object;")] 89

def k12m0 : Method := { name := "<init>", desc := "()V", sig := { parameters := [], returnType := none }, accessFlags := 2, code := none }
def k12c1 : Code := { maxStack := 3, maxLocals := 2, code := jdk_31_method_11_code, exceptionTable := #[], attributes := #[] }
def k12m1 : Method := { name := "requireNonNull", desc := "(Ljava/lang/Object;Ljava/lang/String;)Ljava/lang/Object;", sig := { parameters := [(.object "java/lang/Object"), (.object "java/lang/String")], returnType := some (.object "java/lang/Object") }, accessFlags := 9, code := some k12c1 }
/-- java/util/Objects -/
def k12 : Class := { plain "java/util/Objects" (some 0) with
  accessFlags := 49
  interfaces := #[]
  cf := some (fileOf pool12 42 #[] #[{ accessFlags := 2, nameIndex := 5, descriptorIndex := 6, attributes := #[] }, { accessFlags := 9, nameIndex := 45, descriptorIndex := 94, attributes := #[] }] 49 2 #[] #[])
  fields := #[]
  methods := #[k12m0, k12m1]
  instanceTypes := #[]
  staticTypes := #[]
  resolved := Array.replicate 184 none
  statics := none }

def pool13 : Array CpInfo := pool [(1, .methodref 2 3), (0, .class_ 4), (0, .nameAndType 5 6), (0, u "java/lang/Object"), (0, u "<init>"), (0, u "()V"), (0, .fieldref 8 9), (0, .class_ 10), (0, .nameAndType 11 12), (0, u "com/example/wallclick/wallclick/LimitCount"), (0, u "count"), (0, u "J"), (0, .string 14), (0, u "limit"), (0, .methodref 16 17), (0, .class_ 18), (0, .nameAndType 19 20), (0, u "java/util/Objects"), (0, u "requireNonNull"), (0, u "(Ljava/lang/Object;Ljava/lang/String;)Ljava/lang/Object;"), (0, .class_ 22), (0, u "com/example/wallclick/wallclick/Limit"), (0, .fieldref 8 24), (0, .nameAndType 14 25), (0, u "Lcom/example/wallclick/wallclick/Limit;"), (0, .methodref 21 27), (0, .nameAndType 28 29), (0, u "most"), (0, u "()J"), (2, u "over"), (0, u "()Z"), (14, u "(JLcom/example/wallclick/wallclick/Limit;)V")] 23

def k13c0 : Code := { maxStack := 3, maxLocals := 4, code := prog_10_method_1_code, exceptionTable := #[], attributes := #[] }
def k13m0 : Method := { name := "<init>", desc := "(JLcom/example/wallclick/wallclick/Limit;)V", sig := { parameters := [.long, (.object "com/example/wallclick/wallclick/Limit")], returnType := none }, accessFlags := 1, code := some k13c0 }
def k13c1 : Code := { maxStack := 4, maxLocals := 1, code := prog_10_method_4_code, exceptionTable := #[], attributes := #[] }
def k13m1 : Method := { name := "over", desc := "()Z", sig := { parameters := [], returnType := some .boolean }, accessFlags := 1, code := some k13c1 }
/-- com/example/wallclick/wallclick/LimitCount -/
def k13 : Class := { plain "com/example/wallclick/wallclick/LimitCount" (some 0) with
  accessFlags := 33
  interfaces := #[]
  cf := some (fileOf pool13 8 #[] #[{ accessFlags := 1, nameIndex := 5, descriptorIndex := 48, attributes := #[] }, { accessFlags := 1, nameIndex := 32, descriptorIndex := 33, attributes := #[] }] 33 2 #[] #[{ accessFlags := 18, nameIndex := 11, descriptorIndex := 12, attributes := #[] }, { accessFlags := 18, nameIndex := 14, descriptorIndex := 25, attributes := #[] }])
  fields := #[{ name := "count", type := .long, accessFlags := 18, slot := 0, constantValue := 0 }, { name := "limit", type := (.object "com/example/wallclick/wallclick/Limit"), accessFlags := 18, slot := 1, constantValue := 0 }]
  methods := #[k13m0, k13m1]
  instanceTypes := #[.long, (.object "com/example/wallclick/wallclick/Limit")]
  staticTypes := #[]
  resolved := Array.replicate 72 none
  statics := none }

def pool14 : Array CpInfo := pool [(1, u "java/lang/Cloneable"), (0, .class_ 1), (0, u "java/lang/Object"), (0, .class_ 3)] 3

/-- java/lang/Cloneable -/
def k14 : Class := { plain "java/lang/Cloneable" (some 0) with
  accessFlags := 1537
  interfaces := #[]
  cf := some (fileOf pool14 2 #[] #[] 1537 4 #[] #[])
  fields := #[]
  methods := #[]
  instanceTypes := #[]
  staticTypes := #[]
  resolved := Array.replicate 8 none
  statics := none }

/-- the primitive byte -/
def k15 : Class := { plain "byte" none with kind := .primitive 'B', accessFlags := 0x411 }
/-- [B -/
def k16 : Class := { plain "[B" (some 0) with kind := .array 15 .byte, interfaces := #[14, 5], accessFlags := 1041 }

/-- the primitive int -/
def k17 : Class := { plain "int" none with kind := .primitive 'I', accessFlags := 0x411 }
/-- [I -/
def k18 : Class := { plain "[I" (some 0) with kind := .array 17 .int, interfaces := #[14, 5], accessFlags := 1041 }

def heap : Heap := #[{ cls := 8, slots := #[.ref 1, .ref 2, .ref 3, .ref 4, .null, .null, .null], vm := .statics 8 },
  { cls := 8, slots := #[.null, .int 0, .int 0, .null, .long 1, .long 1, .null], vm := .none },
  { cls := 8, slots := #[.null, .int 1, .int 0, .null, .long 1, .long 1, .null], vm := .none },
  { cls := 8, slots := #[.null, .int 2, .int 0, .null, .long 1, .long 1, .null], vm := .none },
  { cls := 8, slots := #[.null, .int 3, .int 0, .null, .long 1, .long 1, .null], vm := .none }]
def classes : Array Class := #[k0, k1, k2, k3, k4, k5, k6, k7, k8, k9, k10, k11, k12, k13, k14, k15, k16, k17, k18]
def interned : List (Array UInt16 × Addr) := []
def slotsUsed : Nat := 35
def theMethod : MethodId := ⟨1, 2⟩
def args0 : Array Value := #[.long 5, .long 6, .int 7]
def aboutOver (below : List Frame) : State where
  vm := { classes := classes, interned := interned.toArray }
  heap := heap
  slotsUsed := slotsUsed
  threads := #[{ frames := .invoking theMethod args0 :: below }]
def below0 : List Frame := [.native { method := ⟨0, 0⟩, args := #[] }]
def about1 : State := aboutOver below0
def p0 : Program := .bare "" "" ""
def e0 : Env := launch0.env 0 0 0
theorem w_frames : about1.frames = Frame.invoking theMethod args0 :: below0 := rfl
set_option maxRecDepth 65536 in
theorem w_args : argsFit about1.vm theMethod args0 = true := by decide +kernel
set_option maxRecDepth 65536 in
theorem w_heap : heapFits about1 = true := by decide +kernel
set_option maxRecDepth 65536 in
theorem w_runnable : about1.curStatus? = some .runnable := by decide +kernel
set_option maxRecDepth 65536 in
theorem w_alone : about1.alone = true := by decide +kernel
set_option maxRecDepth 65536 in
theorem w_named : about1.methodNamed? x = some theMethod := by decide +kernel
set_option maxRecDepth 65536 in
theorem w_hears : about1.hears theMethod below0 = true := by decide +kernel
set_option maxRecDepth 65536 in
theorem w_ripe : about1.ripe theMethod args0 below0 = true := by decide +kernel
theorem w_running : about1.status = .running := rfl
set_option maxRecDepth 65536 in
theorem w_room : about1.hasRoom e0.platform room_1 = true :=
  launch0.hasRoom_least _ room_1 (by decide +kernel) (by decide +kernel) (by decide +kernel) (by decide +kernel) (by decide +kernel) (by decide +kernel)
theorem allAtoms_all (ts : List Jvm.Cond) (a : Array Jvm.Value) (st : Jvm.State) : (allAtoms ts).before a st = ts.all (fun c => c.before a st) := by
  induction ts with
  | nil => rfl
  | cons c t ih =>
    show (Jvm.Cond.and c (allAtoms t)).before a st = _
    rw [Jvm.Cond.before_and, ih, List.all_cons]
def words1 : List Jvm.Cond := Jvm.Cond.code x code maxLocals ret :: tables_1
/-- a 'code' word, met by the world's own term for the bytes: nothing is compared byte by byte -/
theorem code_word {y : MethodName} {bytes : ByteArray} {mx : Nat} {rt : Option FieldType} {a : Array Value} {s : State} {m : MethodId} {meth : Method} {c : Code} (h1 : s.methodNamed? y = some m) (h2 : s.vm.method? m = some meth) (h3 : meth.code = some c) (h4 : c.code = bytes)
    (h5 : (c.maxLocals == mx && c.exceptionTable.isEmpty && decide (c.maxStack ≤ mostOperands) && decide (meth.sig.returnType = rt) && !meth.locks && decide (parseMethodDescriptor y.desc = some meth.sig)) = true) : (Jvm.Cond.code y bytes mx rt).before a s = true := by
  simp only [Bool.and_eq_true, beq_iff_eq, Bool.not_eq_true', decide_eq_true_eq] at h5
  obtain ⟨⟨⟨⟨⟨g1, g2⟩, g3⟩, g4⟩, g5⟩, g6⟩ := h5
  simp [Cond.before, Cond.holds, Cond.value, h1, h2, h3, h4, g1, g2, g3, g4, g5, g6]
def isCode : Jvm.Cond → Bool
  | .code _ _ _ _ => true
  | _ => false
theorem all_split {L : List Jvm.Cond} {P : Jvm.Cond → Bool} (h1 : L.all (fun c => isCode c || P c) = true) (h2 : ∀ c ∈ L.filter isCode, P c = true) : L.all P = true := by
  refine List.all_eq_true.mpr fun c hc => ?_
  have h := List.all_eq_true.mp h1 c hc
  rcases Bool.eq_false_or_eq_true (isCode c) with hi | hi
  · exact h2 c (List.mem_filter.mpr ⟨hc, hi⟩)
  · simpa [hi] using h
set_option maxRecDepth 65536 in
theorem w_c0 : (Jvm.Cond.code x code maxLocals ret).before args0 about1 = true := code_word (m := ⟨1, 2⟩) (meth := k1m2) (c := k1c2) (by decide +kernel) rfl rfl rfl (by decide +kernel)
set_option maxRecDepth 65536 in
theorem w_c1 : (Jvm.Cond.code ({ cls := "com/example/wallclick/wallclick/LimitCountOverPinLaw", name := "pick", desc := "(I)Lcom/example/wallclick/wallclick/Granularity;" } : Jvm.MethodName) method_2_code (2 : Nat) (Option.some (Jvm.ClassFile.FieldType.object "com/example/wallclick/wallclick/Granularity"))).before args0 about1 = true := code_word (m := ⟨1, 1⟩) (meth := k1m1) (c := k1c1) (by decide +kernel) rfl rfl rfl (by decide +kernel)
set_option maxRecDepth 65536 in
theorem w_c2 : (Jvm.Cond.code ({ cls := "com/example/wallclick/wallclick/Limit", name := "<init>", desc := "(JLcom/example/wallclick/wallclick/Granularity;)V" } : Jvm.MethodName) prog_9_method_1_code (4 : Nat) (Option.none : Option Jvm.ClassFile.FieldType)).before args0 about1 = true := code_word (m := ⟨2, 0⟩) (meth := k2m0) (c := k2c0) (by decide +kernel) rfl rfl rfl (by decide +kernel)
set_option maxRecDepth 65536 in
theorem w_c3 : (Jvm.Cond.code ({ cls := "java/lang/Object", name := "<init>", desc := "()V" } : Jvm.MethodName) object_method_1_code (1 : Nat) (Option.none : Option Jvm.ClassFile.FieldType)).before args0 about1 = true := code_word (m := ⟨0, 0⟩) (meth := k0m0) (c := k0c0) (by decide +kernel) rfl rfl rfl (by decide +kernel)
set_option maxRecDepth 65536 in
theorem w_c4 : (Jvm.Cond.code ({ cls := "java/util/Objects", name := "requireNonNull", desc := "(Ljava/lang/Object;Ljava/lang/String;)Ljava/lang/Object;" } : Jvm.MethodName) jdk_31_method_11_code (2 : Nat) (Option.some (Jvm.ClassFile.FieldType.object "java/lang/Object"))).before args0 about1 = true := code_word (m := ⟨12, 1⟩) (meth := k12m1) (c := k12c1) (by decide +kernel) rfl rfl rfl (by decide +kernel)
set_option maxRecDepth 65536 in
theorem w_c5 : (Jvm.Cond.code ({ cls := "com/example/wallclick/wallclick/LimitCount", name := "<init>", desc := "(JLcom/example/wallclick/wallclick/Limit;)V" } : Jvm.MethodName) prog_10_method_1_code (4 : Nat) (Option.none : Option Jvm.ClassFile.FieldType)).before args0 about1 = true := code_word (m := ⟨13, 0⟩) (meth := k13m0) (c := k13c0) (by decide +kernel) rfl rfl rfl (by decide +kernel)
set_option maxRecDepth 65536 in
theorem w_c6 : (Jvm.Cond.code ({ cls := "com/example/wallclick/wallclick/LimitCount", name := "over", desc := "()Z" } : Jvm.MethodName) prog_10_method_4_code (1 : Nat) (Option.some Jvm.ClassFile.FieldType.boolean)).before args0 about1 = true := code_word (m := ⟨13, 1⟩) (meth := k13m1) (c := k13c1) (by decide +kernel) rfl rfl rfl (by decide +kernel)
set_option maxRecDepth 65536 in
theorem w_c7 : (Jvm.Cond.code ({ cls := "com/example/wallclick/wallclick/Limit", name := "most", desc := "()J" } : Jvm.MethodName) prog_9_method_2_code (1 : Nat) (Option.some Jvm.ClassFile.FieldType.long)).before args0 about1 = true := code_word (m := ⟨2, 1⟩) (meth := k2m1) (c := k2c1) (by decide +kernel) rfl rfl rfl (by decide +kernel)
def codes1 : List Jvm.Cond := [Jvm.Cond.code x code maxLocals ret, Jvm.Cond.code ({ cls := "com/example/wallclick/wallclick/LimitCountOverPinLaw", name := "pick", desc := "(I)Lcom/example/wallclick/wallclick/Granularity;" } : Jvm.MethodName) method_2_code (2 : Nat) (Option.some (Jvm.ClassFile.FieldType.object "com/example/wallclick/wallclick/Granularity")), Jvm.Cond.code ({ cls := "com/example/wallclick/wallclick/Limit", name := "<init>", desc := "(JLcom/example/wallclick/wallclick/Granularity;)V" } : Jvm.MethodName) prog_9_method_1_code (4 : Nat) (Option.none : Option Jvm.ClassFile.FieldType), Jvm.Cond.code ({ cls := "java/lang/Object", name := "<init>", desc := "()V" } : Jvm.MethodName) object_method_1_code (1 : Nat) (Option.none : Option Jvm.ClassFile.FieldType), Jvm.Cond.code ({ cls := "java/util/Objects", name := "requireNonNull", desc := "(Ljava/lang/Object;Ljava/lang/String;)Ljava/lang/Object;" } : Jvm.MethodName) jdk_31_method_11_code (2 : Nat) (Option.some (Jvm.ClassFile.FieldType.object "java/lang/Object")), Jvm.Cond.code ({ cls := "com/example/wallclick/wallclick/LimitCount", name := "<init>", desc := "(JLcom/example/wallclick/wallclick/Limit;)V" } : Jvm.MethodName) prog_10_method_1_code (4 : Nat) (Option.none : Option Jvm.ClassFile.FieldType), Jvm.Cond.code ({ cls := "com/example/wallclick/wallclick/LimitCount", name := "over", desc := "()Z" } : Jvm.MethodName) prog_10_method_4_code (1 : Nat) (Option.some Jvm.ClassFile.FieldType.boolean), Jvm.Cond.code ({ cls := "com/example/wallclick/wallclick/Limit", name := "most", desc := "()J" } : Jvm.MethodName) prog_9_method_2_code (1 : Nat) (Option.some Jvm.ClassFile.FieldType.long)]
set_option maxRecDepth 65536 in
theorem codes_eq : words1.filter isCode = codes1 := rfl
theorem w_codes : ∀ c ∈ words1.filter isCode, c.before args0 about1 = true := by
  rw [codes_eq]
  intro c hc
  simp only [codes1, List.mem_cons, List.not_mem_nil, or_false] at hc
  rcases hc with rfl | rfl | rfl | rfl | rfl | rfl | rfl | rfl
  · exact w_c0
  · exact w_c1
  · exact w_c2
  · exact w_c3
  · exact w_c4
  · exact w_c5
  · exact w_c6
  · exact w_c7
set_option maxRecDepth 65536 in
theorem w_t1 : (words1.take 24).all (fun c => isCode c || c.before args0 about1) = true := by decide +kernel
set_option maxRecDepth 65536 in
theorem w_t2 : ((words1.drop 24).take 24).all (fun c => isCode c || c.before args0 about1) = true := by decide +kernel
set_option maxRecDepth 65536 in
theorem w_t3 : ((words1.drop 24).drop 24).all (fun c => isCode c || c.before args0 about1) = true := by decide +kernel
theorem w_tables : (allAtoms (Jvm.Cond.code x code maxLocals ret :: tables_1)).before args0 about1 = true := by
  rw [allAtoms_all]
  show words1.all (fun c => c.before args0 about1) = true
  refine all_split ?_ w_codes
  rw [← List.take_append_drop 24 words1, List.all_append, w_t1, ← List.take_append_drop 24 (words1.drop 24), List.all_append, w_t2, w_t3]
  rfl
set_option maxRecDepth 65536 in
theorem w_case : (Jvm.Cond.and given_1 narrow_1).before args0 about1 = true := by decide +kernel
theorem w_applies : (headSpec (Jvm.Cond.code x code maxLocals ret :: tables_1) room_1).applies x e0.platform about1 = true :=
  (Spec.applies_iff w_frames).mpr ⟨w_running, w_runnable, w_alone, w_named, w_hears, w_ripe, w_room, w_tables⟩
theorem atStart : AtStart classFile x code maxLocals ret World_1 tables_1 room_1 Calls_1 rest_1 Pre_1 launch0 p0 e0 about1 theMethod args0 below0 :=
  ⟨lists_1, trivial, launch0.admits_env _ _ _, launch0.least_env, fairChoices_fair.cas, fairChoices_fair.clock, w_frames, w_args, w_heap, w_applies, trivial, trivial, w_case⟩
end start1
theorem witness_1 : WitnessClaimed_1 := ⟨start1.p0, start1.e0, start1.about1, start1.theMethod, start1.args0, start1.below0, start1.atStart⟩
end Jvm.Pilot.@@N@@
