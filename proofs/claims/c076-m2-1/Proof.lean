import JvmDerived
import JvmDerived.Pilot.@@N@@Statement
import JvmDerived.Pilot.@@N@@Code
set_option linter.unusedVariables false
set_option linter.unusedSimpArgs false
namespace Jvm.RoadKit
open Sem ClassFile Op Lib Jvm.Stand Jvm.Free Jvm.LawKit
section New
variable {p : Program} {l : Launch} {e : Env} {R : Room} {s : State} {m : MethodId} {args : Array Value} {below : List Frame} {meth : Method} {c : Code} {T : State} {locs : List Loc} {cells slots : Nat}
theorem retI (X : Stand p l e R s m args below meth c T locs cells slots) (hx : p.tables.exec = Jvm.exec) {pc : Nat} {Ls : Array Slot} {z : Int32} {rest : List Value} (hret : meth.sig.returnType = some .int) (hd : decode c.code pc = .ok (.ireturn, 1)) {fs : List Frame}
    (hl : ∀ (f : JFrame) (acts : List Action), f.method = m → f.locked = none → f.entered = [] → (doReturn e (T.setTop f) acts (some (.int z))).1 = T.setFrames fs) : Steps p.tables e below (T.setTop (mkF m pc Ls (.int z :: rest))) (T.setFrames fs) := by
  have hm' : T.vm.method? m = some meth := X.method'
  have hn : narrow .int (.int z) = .int z := rfl
  show Steps p.tables e below (T.setTop { method := m, pc := pc, locals := Ls, stack := _ :: rest, locked := none }) _
  jvm_step X.here [X.here.top, hx, hd, hm', hret, hn]
  first | (intro acts; rw [hl _ acts rfl rfl rfl]) | rw [hl _ _ rfl rfl rfl]
  exact Steps.refl _
end New
end Jvm.RoadKit
namespace Jvm.Pilot.@@N@@
open Jvm Jvm.ClassFile Sem Op Lib Jvm.Free Jvm.Stand Jvm.LawKit Jvm.RoadKit Bundle Jvm.Pilot.@@N@@.Jvm.D
/-- what a call that writes nothing leaves -/
def PureQ (rv : Option Value) (h0 : Heap) (n0 : Nat) (v : Option Value) (h : Heap) (L : List Loc) : Prop := v = rv ∧ Fr n0 L ∧ h = h0
/-- what the law leaves -/
def LawQ (n0 : Nat) (v : Option Value) (h : Heap) (L : List Loc) : Prop := v = some (.int (1 : Int32)) ∧ Fr n0 L
theorem own_fld {Z : State} {args : Array Value} {a : Addr} {t u : Term} {C n d : String} {v : Value} (ev : t.eval args Z none [] Z = some (.ref a)) (h : (Jvm.Cond.eq (Term.field t C n d) u).value args Z none Z [] = some true) (eu : u.eval args Z none [] Z = some v) : Fld Z Z.heap a C n d v := by
  obtain ⟨x, y, h1, h2, -⟩ := cmp_v (Or.inl h)
  have e2 : y = v := Option.some.inj (h2.symm.trans eu)
  subst e2
  have e3 : x = y := by
    simp only [Jvm.Cond.value, h1, h2] at h
    cases x <;> cases y <;> simp_all
  subst e3
  exact Fld.start ((fld_at ev).symm.trans h1)
theorem pn_ParameterKindIsAllowedInPinLaw : plainName "com/example/fixtures_per_argument/fixturesperargument/engine/ParameterKindIsAllowedInPinLaw" = true := by first | (simp [plainName, overriddenIn]; done) | decide +kernel
theorem ef_kindOf (m : MethodId) (x0 : Int32) : entryFrame m #[(.int x0)] 1 = mkF m 0 #[.val (.int x0)] [] := by first | (simp [entryFrame, mkF, argsToLocals, Value.category]; done) | rfl
theorem d1_0 : decode method_2_code 0 = .ok (.iload_n 0, 1) := by decide +kernel
theorem d1_1 : decode method_2_code 1 = .ok (.ifCond .ne 7, 3) := by decide +kernel
theorem d1_4 : decode method_2_code 4 = .ok (.getstatic 7, 3) := by decide +kernel
theorem d1_7 : decode method_2_code 7 = .ok (.areturn, 1) := by decide +kernel
theorem d1_8 : decode method_2_code 8 = .ok (.iload_n 0, 1) := by decide +kernel
theorem d1_9 : decode method_2_code 9 = .ok (.iconst 1, 1) := by decide +kernel
theorem d1_10 : decode method_2_code 10 = .ok (.if_icmp .ne 7, 3) := by decide +kernel
theorem d1_13 : decode method_2_code 13 = .ok (.getstatic 13, 3) := by decide +kernel
theorem d1_16 : decode method_2_code 16 = .ok (.areturn, 1) := by decide +kernel
theorem d1_17 : decode method_2_code 17 = .ok (.iload_n 0, 1) := by decide +kernel
theorem d1_18 : decode method_2_code 18 = .ok (.iconst 2, 1) := by decide +kernel
theorem d1_19 : decode method_2_code 19 = .ok (.if_icmp .ne 7, 3) := by decide +kernel
theorem d1_22 : decode method_2_code 22 = .ok (.getstatic 16, 3) := by decide +kernel
theorem d1_25 : decode method_2_code 25 = .ok (.areturn, 1) := by decide +kernel
theorem d1_26 : decode method_2_code 26 = .ok (.getstatic 19, 3) := by decide +kernel
theorem d1_29 : decode method_2_code 29 = .ok (.areturn, 1) := by decide +kernel
theorem ef_phaseOf (m : MethodId) (x0 : Int32) : entryFrame m #[(.int x0)] 1 = mkF m 0 #[.val (.int x0)] [] := by first | (simp [entryFrame, mkF, argsToLocals, Value.category]; done) | rfl
theorem d2_0 : decode method_3_code 0 = .ok (.iload_n 0, 1) := by decide +kernel
theorem d2_1 : decode method_3_code 1 = .ok (.ifCond .ne 7, 3) := by decide +kernel
theorem d2_4 : decode method_3_code 4 = .ok (.getstatic 22, 3) := by decide +kernel
theorem d2_7 : decode method_3_code 7 = .ok (.areturn, 1) := by decide +kernel
theorem d2_8 : decode method_3_code 8 = .ok (.iload_n 0, 1) := by decide +kernel
theorem d2_9 : decode method_3_code 9 = .ok (.iconst 1, 1) := by decide +kernel
theorem d2_10 : decode method_3_code 10 = .ok (.if_icmp .ne 7, 3) := by decide +kernel
theorem d2_13 : decode method_3_code 13 = .ok (.getstatic 28, 3) := by decide +kernel
theorem d2_16 : decode method_3_code 16 = .ok (.areturn, 1) := by decide +kernel
theorem d2_17 : decode method_3_code 17 = .ok (.iload_n 0, 1) := by decide +kernel
theorem d2_18 : decode method_3_code 18 = .ok (.iconst 2, 1) := by decide +kernel
theorem d2_19 : decode method_3_code 19 = .ok (.if_icmp .ne 7, 3) := by decide +kernel
theorem d2_22 : decode method_3_code 22 = .ok (.getstatic 31, 3) := by decide +kernel
theorem d2_25 : decode method_3_code 25 = .ok (.areturn, 1) := by decide +kernel
theorem d2_26 : decode method_3_code 26 = .ok (.iload_n 0, 1) := by decide +kernel
theorem d2_27 : decode method_3_code 27 = .ok (.iconst 3, 1) := by decide +kernel
theorem d2_28 : decode method_3_code 28 = .ok (.if_icmp .ne 7, 3) := by decide +kernel
theorem d2_31 : decode method_3_code 31 = .ok (.getstatic 34, 3) := by decide +kernel
theorem d2_34 : decode method_3_code 34 = .ok (.areturn, 1) := by decide +kernel
theorem d2_35 : decode method_3_code 35 = .ok (.iload_n 0, 1) := by decide +kernel
theorem d2_36 : decode method_3_code 36 = .ok (.iconst 4, 1) := by decide +kernel
theorem d2_37 : decode method_3_code 37 = .ok (.if_icmp .ne 7, 3) := by decide +kernel
theorem d2_40 : decode method_3_code 40 = .ok (.getstatic 37, 3) := by decide +kernel
theorem d2_43 : decode method_3_code 43 = .ok (.areturn, 1) := by decide +kernel
theorem d2_44 : decode method_3_code 44 = .ok (.iload_n 0, 1) := by decide +kernel
theorem d2_45 : decode method_3_code 45 = .ok (.iconst 5, 1) := by decide +kernel
theorem d2_46 : decode method_3_code 46 = .ok (.if_icmp .ne 7, 3) := by decide +kernel
theorem d2_49 : decode method_3_code 49 = .ok (.getstatic 40, 3) := by decide +kernel
theorem d2_52 : decode method_3_code 52 = .ok (.areturn, 1) := by decide +kernel
theorem d2_53 : decode method_3_code 53 = .ok (.getstatic 43, 3) := by decide +kernel
theorem d2_56 : decode method_3_code 56 = .ok (.areturn, 1) := by decide +kernel
theorem pn_Phase : plainName "com/example/fixtures_per_argument/fixturesperargument/engine/Phase" = true := by first | (simp [plainName, overriddenIn]; done) | decide +kernel
theorem ef_isPerArgument (m : MethodId) (x0 : Addr) : entryFrame m #[(.ref x0)] 1 = mkF m 0 #[.val (.ref x0)] [] := by first | (simp [entryFrame, mkF, argsToLocals, Value.category]; done) | rfl
theorem d4_0 : decode prog_27_method_5_code 0 = .ok (.aload_n 0, 1) := by decide +kernel
theorem d4_1 : decode prog_27_method_5_code 1 = .ok (.getfield 48, 3) := by decide +kernel
theorem d4_4 : decode prog_27_method_5_code 4 = .ok (.ireturn, 1) := by decide +kernel
theorem pn_ParameterKind : plainName "com/example/fixtures_per_argument/fixturesperargument/engine/ParameterKind" = true := by first | (simp [plainName, overriddenIn]; done) | decide +kernel
theorem ef_isAllowedIn (m : MethodId) (x0 : Addr) (x1 : Addr) : entryFrame m #[(.ref x0), (.ref x1)] 2 = mkF m 0 #[.val (.ref x0), .val (.ref x1)] [] := by first | (simp [entryFrame, mkF, argsToLocals, Value.category]; done) | rfl
theorem d3_0 : decode prog_25_method_5_code 0 = .ok (.aload_n 1, 1) := by decide +kernel
theorem d3_1 : decode prog_25_method_5_code 1 = .ok (.invokevirtual 60, 3) := by decide +kernel
theorem pd___Z_3 : parseMethodDescriptor "()Z" = some ⟨[], some .boolean⟩ := by decide +kernel
theorem d3_4 : decode prog_25_method_5_code 4 = .ok (.ifCond .eq 10, 3) := by decide +kernel
theorem d3_14 : decode prog_25_method_5_code 14 = .ok (.aload_n 0, 1) := by decide +kernel
theorem d3_15 : decode prog_25_method_5_code 15 = .ok (.getfield 43, 3) := by decide +kernel
theorem d3_18 : decode prog_25_method_5_code 18 = .ok (.ireturn, 1) := by decide +kernel
theorem d3_7 : decode prog_25_method_5_code 7 = .ok (.aload_n 0, 1) := by decide +kernel
theorem d3_8 : decode prog_25_method_5_code 8 = .ok (.getfield 47, 3) := by decide +kernel
theorem d3_11 : decode prog_25_method_5_code 11 = .ok (.goto 7, 3) := by decide +kernel
theorem ef_law (m : MethodId) (x0 : Int32) (x1 : Int32) : entryFrame m #[(.int x0), (.int x1)] maxLocals = mkF m 0 #[.val (.int x0), .val (.int x1), .unset, .unset, .unset, .unset, .unset, .unset] [] := by first | (simp [entryFrame, mkF, argsToLocals, Value.category, maxLocals]; done) | rfl
theorem pd_ixturesperargument_engine_ParameterKind__79 : parseMethodDescriptor "(I)Lcom/example/fixtures_per_argument/fixturesperargument/engine/ParameterKind;" = some ⟨[.int], some (.object "com/example/fixtures_per_argument/fixturesperargument/engine/ParameterKind")⟩ := by decide +kernel
theorem pd_gument_fixturesperargument_engine_Phase__71 : parseMethodDescriptor "(I)Lcom/example/fixtures_per_argument/fixturesperargument/engine/Phase;" = some ⟨[.int], some (.object "com/example/fixtures_per_argument/fixturesperargument/engine/Phase")⟩ := by decide +kernel
theorem pd_ment_fixturesperargument_engine_Phase__Z_71 : parseMethodDescriptor "(Lcom/example/fixtures_per_argument/fixturesperargument/engine/Phase;)Z" = some ⟨[(.object "com/example/fixtures_per_argument/fixturesperargument/engine/Phase")], some .boolean⟩ := by decide +kernel
def f_kindOf (sw0 : Addr) (sw1 : Addr) (sw2 : Addr) (sw3 : Addr) (sw4 : Addr) (sw5 : Addr) (sw6 : Addr) (kw0 : Addr) (kw1 : Addr) (kw2 : Addr) (kw3 : Addr) (p1 : Int32) : Addr := (if p1 = (0 : Int32) then kw0 else (if p1 = (1 : Int32) then kw1 else (if p1 = (2 : Int32) then kw2 else kw3)))
set_option maxRecDepth 65536 in
set_option maxHeartbeats 40000000 in
theorem rm_kindOf (l : Launch) (Z : State) (a0 : Array Value) (hw : ∀ d ∈ tables_1, d.before a0 Z = true) (ws : List Jvm.Cond) (sw0 : Addr) (sw1 : Addr) (sw2 : Addr) (sw3 : Addr) (sw4 : Addr) (sw5 : Addr) (sw6 : Addr) (kw0 : Addr) (kw1 : Addr) (kw2 : Addr) (kw3 : Addr) (p1 : Int32) (h0 : Heap) (n0 : Nat) (Z0 : n0 ≤ h0.size) (S_sw0 : Sta Z h0 "com/example/fixtures_per_argument/fixturesperargument/engine/Phase" "PREPARE" "Lcom/example/fixtures_per_argument/fixturesperargument/engine/Phase;" (.ref sw0)) (S_sw1 : Sta Z h0 "com/example/fixtures_per_argument/fixturesperargument/engine/Phase" "BEFORE_ALL" "Lcom/example/fixtures_per_argument/fixturesperargument/engine/Phase;" (.ref sw1)) (S_sw2 : Sta Z h0 "com/example/fixtures_per_argument/fixturesperargument/engine/Phase" "BEFORE_EACH" "Lcom/example/fixtures_per_argument/fixturesperargument/engine/Phase;" (.ref sw2)) (S_sw3 : Sta Z h0 "com/example/fixtures_per_argument/fixturesperargument/engine/Phase" "TEST" "Lcom/example/fixtures_per_argument/fixturesperargument/engine/Phase;" (.ref sw3)) (S_sw4 : Sta Z h0 "com/example/fixtures_per_argument/fixturesperargument/engine/Phase" "AFTER_EACH" "Lcom/example/fixtures_per_argument/fixturesperargument/engine/Phase;" (.ref sw4)) (S_sw5 : Sta Z h0 "com/example/fixtures_per_argument/fixturesperargument/engine/Phase" "AFTER_ALL" "Lcom/example/fixtures_per_argument/fixturesperargument/engine/Phase;" (.ref sw5)) (S_sw6 : Sta Z h0 "com/example/fixtures_per_argument/fixturesperargument/engine/Phase" "CONCLUDE" "Lcom/example/fixtures_per_argument/fixturesperargument/engine/Phase;" (.ref sw6)) (S_kw0 : Sta Z h0 "com/example/fixtures_per_argument/fixturesperargument/engine/ParameterKind" "PAYLOAD" "Lcom/example/fixtures_per_argument/fixturesperargument/engine/ParameterKind;" (.ref kw0)) (S_kw1 : Sta Z h0 "com/example/fixtures_per_argument/fixturesperargument/engine/ParameterKind" "CLASS_CONTEXT" "Lcom/example/fixtures_per_argument/fixturesperargument/engine/ParameterKind;" (.ref kw1)) (S_kw2 : Sta Z h0 "com/example/fixtures_per_argument/fixturesperargument/engine/ParameterKind" "ARGUMENT_CONTEXT" "Lcom/example/fixtures_per_argument/fixturesperargument/engine/ParameterKind;" (.ref kw2)) (S_kw3 : Sta Z h0 "com/example/fixtures_per_argument/fixturesperargument/engine/ParameterKind" "ENGINE_CONTEXT" "Lcom/example/fixtures_per_argument/fixturesperargument/engine/ParameterKind;" (.ref kw3)) :
    MetFree l (⟨"com/example/fixtures_per_argument/fixturesperargument/engine/ParameterKindIsAllowedInPinLaw", "kindOf", "(I)Lcom/example/fixtures_per_argument/fixturesperargument/engine/ParameterKind;"⟩ : MethodName) (head1 (Jvm.Cond.code (⟨"com/example/fixtures_per_argument/fixturesperargument/engine/ParameterKindIsAllowedInPinLaw", "kindOf", "(I)Lcom/example/fixtures_per_argument/fixturesperargument/engine/ParameterKind;"⟩ : MethodName) method_2_code 1 (some (.object "com/example/fixtures_per_argument/fixturesperargument/engine/ParameterKind")) :: ws) ({ frames := 0, cells := 0, slots := 0, locals := 0 } : Room)) (fun a U => a = #[(.int p1)] ∧ Z.Warmed39 U.vm ∧ U.heap = h0) (fun _ _ _ _ _ => True) (fun _ U o U' => ∃ v L, o = .returned v ∧ PureQ (some (.ref (f_kindOf sw0 sw1 sw2 sw3 sw4 sw5 sw6 kw0 kw1 kw2 kw3 p1))) h0 n0 v U'.heap L ∧ FrameEnd U o U' L ({ frames := 0, cells := 0, slots := 0, locals := 0 } : Room).cells ({ frames := 0, cells := 0, slots := 0, locals := 0 } : Room).slots) := by
  refine MetFree.of_bodySF (plainFor_of_name pn_ParameterKindIsAllowedInPinLaw) hisR ?_
  intro p e s m args below meth c s₁ Bd hml0 hP hK
  obtain ⟨rfl, hZ, hh⟩ := hP
  have hx := Bd.exec
  have hby := Bd.bytes
  have hml : c.maxLocals = 1 := hml0
  have hown : s.vm.findClass "com/example/fixtures_per_argument/fixturesperargument/engine/ParameterKindIsAllowedInPinLaw" = some m.cls := findClass_of_methodNamed Bd.named
  have hnm := (name_of_methodNamed Bd.named Bd.method).1
  have X0 : Stand p l e ({ frames := 0, cells := 0, slots := 0, locals := 0 } : Room) s m #[(.int p1)] below meth c s₁ [] 0 0 := Stand.of_body Bd
  have e0 : s₁.heap = h0 := by rw [← hh, Bd.state]; rfl
  have N0 := Fr.nil n0
  have pre0 : ∀ t, Steps p.tables e below (s₁.setTop (mkF m 0 #[.val (.int p1)] [])) t → Steps p.tables e below (s₁.setTop (entryFrame m #[(.int p1)] 1)) t := fun t k => castTop (ef_kindOf m p1) k
  have pre1 : ∀ t, Steps p.tables e below (s₁.setTop (mkF m 1 #[.val (.int p1)] [(.int p1)])) t → Steps p.tables e below (s₁.setTop (entryFrame m #[(.int p1)] 1)) t := fun t k => pre0 t (by
      show Steps p.tables e below (s₁.setTop (mkF m 0 #[.val (.int p1)] [])) _
      refine XS.iloadN X0.here hx rfl (hb hby d1_0) rfl ?_
      exact k)
  by_cases g2 : p1 = (0 : Int32)
  · skip
    obtain ⟨T3, X3, e3, st3⟩ := getS2 X0 hx hZ hown (host := "") (Or.inl (hw _ (List.mem_of_getElem? (i := 5) rfl))) Via.refl e0 S_kw0 (g := (mkF m 4 #[.val (.int p1)] [])) rfl (hb hby d1_4)
    obtain ⟨fs, hr, hrun, hended, hW, hsame⟩ := X3.leave (v := some (.ref kw0)) (fun h => by rw [Bd.returns] at h; cases h)
    refine ⟨_, _, pre1 _ ?_, hrun, hended, _, _, rfl, ?_, ⟨_, rfl⟩, hW, hsame.mono (by decide) (by decide)⟩
    · show Steps p.tables e below (s₁.setTop (mkF m 1 #[.val (.int p1)] [(.int p1)])) _
      refine XS.ifNo X0.here hx rfl (hb hby d1_1) rfl ((if0 _ _).trans (teq g2).2) ?_
      show Steps p.tables e below (s₁.setTop (mkF m 4 #[.val (.int p1)] [])) _
      refine st3 _ ?_
      show Steps p.tables e below (T3.setTop (mkF m 7 #[.val (.int p1)] [(.ref kw0)])) _
      jvm_step X3.here [X3.here.top, hx, (hb hby d1_7), X3.method', Bd.returns, Value.isRef, FieldType.isReference]
      first | (intro acts; rw [hr _ acts rfl rfl rfl]) | rw [hr _ _ rfl rfl rfl]
      exact Steps.refl _
    · exact ⟨by simp only [f_kindOf, if_pos g2], N0, e3⟩
  · skip
    have pre4 : ∀ t, Steps p.tables e below (s₁.setTop (mkF m 10 #[.val (.int p1)] [(.int (1 : Int32)), (.int p1)])) t → Steps p.tables e below (s₁.setTop (entryFrame m #[(.int p1)] 1)) t := fun t k => pre1 t (by
        show Steps p.tables e below (s₁.setTop (mkF m 1 #[.val (.int p1)] [(.int p1)])) _
        refine XS.ifYes X0.here hx rfl (pc0 := 1) (pc' := 8) rfl (hb hby d1_1) rfl ((if0 _ _).trans (feq g2).2) (by decide) (by decide) ?_
        show Steps p.tables e below (s₁.setTop (mkF m 8 #[.val (.int p1)] [])) _
        refine XS.iloadN X0.here hx rfl (hb hby d1_8) rfl ?_
        show Steps p.tables e below (s₁.setTop (mkF m 9 #[.val (.int p1)] [(.int p1)])) _
        refine XS.iconst X0.here hx rfl (hb hby d1_9) ?_
        exact k)
    by_cases g5 : p1 = (1 : Int32)
    · skip
      obtain ⟨T6, X6, e6, st6⟩ := getS2 X0 hx hZ hown (host := "") (Or.inl (hw _ (List.mem_of_getElem? (i := 40) rfl))) Via.refl e0 S_kw1 (g := (mkF m 13 #[.val (.int p1)] [])) rfl (hb hby d1_13)
      obtain ⟨fs, hr, hrun, hended, hW, hsame⟩ := X6.leave (v := some (.ref kw1)) (fun h => by rw [Bd.returns] at h; cases h)
      refine ⟨_, _, pre4 _ ?_, hrun, hended, _, _, rfl, ?_, ⟨_, rfl⟩, hW, hsame.mono (by decide) (by decide)⟩
      · show Steps p.tables e below (s₁.setTop (mkF m 10 #[.val (.int p1)] [(.int (1 : Int32)), (.int p1)])) _
        refine XS.icmpNo X0.here hx rfl (hb hby d1_10) rfl (teq g5).2 ?_
        show Steps p.tables e below (s₁.setTop (mkF m 13 #[.val (.int p1)] [])) _
        refine st6 _ ?_
        show Steps p.tables e below (T6.setTop (mkF m 16 #[.val (.int p1)] [(.ref kw1)])) _
        jvm_step X6.here [X6.here.top, hx, (hb hby d1_16), X6.method', Bd.returns, Value.isRef, FieldType.isReference]
        first | (intro acts; rw [hr _ acts rfl rfl rfl]) | rw [hr _ _ rfl rfl rfl]
        exact Steps.refl _
      · exact ⟨by simp only [f_kindOf, if_neg g2, if_pos g5], N0, e6⟩
    · skip
      have pre7 : ∀ t, Steps p.tables e below (s₁.setTop (mkF m 19 #[.val (.int p1)] [(.int (2 : Int32)), (.int p1)])) t → Steps p.tables e below (s₁.setTop (entryFrame m #[(.int p1)] 1)) t := fun t k => pre4 t (by
          show Steps p.tables e below (s₁.setTop (mkF m 10 #[.val (.int p1)] [(.int (1 : Int32)), (.int p1)])) _
          refine XS.icmpYes X0.here hx rfl (pc0 := 10) (pc' := 17) rfl (hb hby d1_10) rfl (feq g5).2 (by decide) (by decide) ?_
          show Steps p.tables e below (s₁.setTop (mkF m 17 #[.val (.int p1)] [])) _
          refine XS.iloadN X0.here hx rfl (hb hby d1_17) rfl ?_
          show Steps p.tables e below (s₁.setTop (mkF m 18 #[.val (.int p1)] [(.int p1)])) _
          refine XS.iconst X0.here hx rfl (hb hby d1_18) ?_
          exact k)
      by_cases g8 : p1 = (2 : Int32)
      · skip
        obtain ⟨T9, X9, e9, st9⟩ := getS2 X0 hx hZ hown (host := "") (Or.inl (hw _ (List.mem_of_getElem? (i := 28) rfl))) Via.refl e0 S_kw2 (g := (mkF m 22 #[.val (.int p1)] [])) rfl (hb hby d1_22)
        obtain ⟨fs, hr, hrun, hended, hW, hsame⟩ := X9.leave (v := some (.ref kw2)) (fun h => by rw [Bd.returns] at h; cases h)
        refine ⟨_, _, pre7 _ ?_, hrun, hended, _, _, rfl, ?_, ⟨_, rfl⟩, hW, hsame.mono (by decide) (by decide)⟩
        · show Steps p.tables e below (s₁.setTop (mkF m 19 #[.val (.int p1)] [(.int (2 : Int32)), (.int p1)])) _
          refine XS.icmpNo X0.here hx rfl (hb hby d1_19) rfl (teq g8).2 ?_
          show Steps p.tables e below (s₁.setTop (mkF m 22 #[.val (.int p1)] [])) _
          refine st9 _ ?_
          show Steps p.tables e below (T9.setTop (mkF m 25 #[.val (.int p1)] [(.ref kw2)])) _
          jvm_step X9.here [X9.here.top, hx, (hb hby d1_25), X9.method', Bd.returns, Value.isRef, FieldType.isReference]
          first | (intro acts; rw [hr _ acts rfl rfl rfl]) | rw [hr _ _ rfl rfl rfl]
          exact Steps.refl _
        · exact ⟨by simp only [f_kindOf, if_neg g2, if_neg g5, if_pos g8], N0, e9⟩
      · skip
        obtain ⟨T10, X10, e10, st10⟩ := getS2 X0 hx hZ hown (host := "") (Or.inl (hw _ (List.mem_of_getElem? (i := 44) rfl))) Via.refl e0 S_kw3 (g := (mkF m 26 #[.val (.int p1)] [])) rfl (hb hby d1_26)
        obtain ⟨fs, hr, hrun, hended, hW, hsame⟩ := X10.leave (v := some (.ref kw3)) (fun h => by rw [Bd.returns] at h; cases h)
        refine ⟨_, _, pre7 _ ?_, hrun, hended, _, _, rfl, ?_, ⟨_, rfl⟩, hW, hsame.mono (by decide) (by decide)⟩
        · show Steps p.tables e below (s₁.setTop (mkF m 19 #[.val (.int p1)] [(.int (2 : Int32)), (.int p1)])) _
          refine XS.icmpYes X0.here hx rfl (pc0 := 19) (pc' := 26) rfl (hb hby d1_19) rfl (feq g8).2 (by decide) (by decide) ?_
          show Steps p.tables e below (s₁.setTop (mkF m 26 #[.val (.int p1)] [])) _
          refine st10 _ ?_
          show Steps p.tables e below (T10.setTop (mkF m 29 #[.val (.int p1)] [(.ref kw3)])) _
          jvm_step X10.here [X10.here.top, hx, (hb hby d1_29), X10.method', Bd.returns, Value.isRef, FieldType.isReference]
          first | (intro acts; rw [hr _ acts rfl rfl rfl]) | rw [hr _ _ rfl rfl rfl]
          exact Steps.refl _
        · exact ⟨by simp only [f_kindOf, if_neg g2, if_neg g5, if_neg g8], N0, e10⟩
def f_phaseOf (sw0 : Addr) (sw1 : Addr) (sw2 : Addr) (sw3 : Addr) (sw4 : Addr) (sw5 : Addr) (sw6 : Addr) (kw0 : Addr) (kw1 : Addr) (kw2 : Addr) (kw3 : Addr) (p1 : Int32) : Addr := (if p1 = (0 : Int32) then sw0 else (if p1 = (1 : Int32) then sw1 else (if p1 = (2 : Int32) then sw2 else (if p1 = (3 : Int32) then sw3 else (if p1 = (4 : Int32) then sw4 else (if p1 = (5 : Int32) then sw5 else sw6))))))
set_option maxRecDepth 65536 in
set_option maxHeartbeats 40000000 in
theorem rm_phaseOf (l : Launch) (Z : State) (a0 : Array Value) (hw : ∀ d ∈ tables_1, d.before a0 Z = true) (ws : List Jvm.Cond) (sw0 : Addr) (sw1 : Addr) (sw2 : Addr) (sw3 : Addr) (sw4 : Addr) (sw5 : Addr) (sw6 : Addr) (kw0 : Addr) (kw1 : Addr) (kw2 : Addr) (kw3 : Addr) (p1 : Int32) (h0 : Heap) (n0 : Nat) (Z0 : n0 ≤ h0.size) (S_sw0 : Sta Z h0 "com/example/fixtures_per_argument/fixturesperargument/engine/Phase" "PREPARE" "Lcom/example/fixtures_per_argument/fixturesperargument/engine/Phase;" (.ref sw0)) (S_sw1 : Sta Z h0 "com/example/fixtures_per_argument/fixturesperargument/engine/Phase" "BEFORE_ALL" "Lcom/example/fixtures_per_argument/fixturesperargument/engine/Phase;" (.ref sw1)) (S_sw2 : Sta Z h0 "com/example/fixtures_per_argument/fixturesperargument/engine/Phase" "BEFORE_EACH" "Lcom/example/fixtures_per_argument/fixturesperargument/engine/Phase;" (.ref sw2)) (S_sw3 : Sta Z h0 "com/example/fixtures_per_argument/fixturesperargument/engine/Phase" "TEST" "Lcom/example/fixtures_per_argument/fixturesperargument/engine/Phase;" (.ref sw3)) (S_sw4 : Sta Z h0 "com/example/fixtures_per_argument/fixturesperargument/engine/Phase" "AFTER_EACH" "Lcom/example/fixtures_per_argument/fixturesperargument/engine/Phase;" (.ref sw4)) (S_sw5 : Sta Z h0 "com/example/fixtures_per_argument/fixturesperargument/engine/Phase" "AFTER_ALL" "Lcom/example/fixtures_per_argument/fixturesperargument/engine/Phase;" (.ref sw5)) (S_sw6 : Sta Z h0 "com/example/fixtures_per_argument/fixturesperargument/engine/Phase" "CONCLUDE" "Lcom/example/fixtures_per_argument/fixturesperargument/engine/Phase;" (.ref sw6)) (S_kw0 : Sta Z h0 "com/example/fixtures_per_argument/fixturesperargument/engine/ParameterKind" "PAYLOAD" "Lcom/example/fixtures_per_argument/fixturesperargument/engine/ParameterKind;" (.ref kw0)) (S_kw1 : Sta Z h0 "com/example/fixtures_per_argument/fixturesperargument/engine/ParameterKind" "CLASS_CONTEXT" "Lcom/example/fixtures_per_argument/fixturesperargument/engine/ParameterKind;" (.ref kw1)) (S_kw2 : Sta Z h0 "com/example/fixtures_per_argument/fixturesperargument/engine/ParameterKind" "ARGUMENT_CONTEXT" "Lcom/example/fixtures_per_argument/fixturesperargument/engine/ParameterKind;" (.ref kw2)) (S_kw3 : Sta Z h0 "com/example/fixtures_per_argument/fixturesperargument/engine/ParameterKind" "ENGINE_CONTEXT" "Lcom/example/fixtures_per_argument/fixturesperargument/engine/ParameterKind;" (.ref kw3)) :
    MetFree l (⟨"com/example/fixtures_per_argument/fixturesperargument/engine/ParameterKindIsAllowedInPinLaw", "phaseOf", "(I)Lcom/example/fixtures_per_argument/fixturesperargument/engine/Phase;"⟩ : MethodName) (head1 (Jvm.Cond.code (⟨"com/example/fixtures_per_argument/fixturesperargument/engine/ParameterKindIsAllowedInPinLaw", "phaseOf", "(I)Lcom/example/fixtures_per_argument/fixturesperargument/engine/Phase;"⟩ : MethodName) method_3_code 1 (some (.object "com/example/fixtures_per_argument/fixturesperargument/engine/Phase")) :: ws) ({ frames := 0, cells := 0, slots := 0, locals := 0 } : Room)) (fun a U => a = #[(.int p1)] ∧ Z.Warmed39 U.vm ∧ U.heap = h0) (fun _ _ _ _ _ => True) (fun _ U o U' => ∃ v L, o = .returned v ∧ PureQ (some (.ref (f_phaseOf sw0 sw1 sw2 sw3 sw4 sw5 sw6 kw0 kw1 kw2 kw3 p1))) h0 n0 v U'.heap L ∧ FrameEnd U o U' L ({ frames := 0, cells := 0, slots := 0, locals := 0 } : Room).cells ({ frames := 0, cells := 0, slots := 0, locals := 0 } : Room).slots) := by
  refine MetFree.of_bodySF (plainFor_of_name pn_ParameterKindIsAllowedInPinLaw) hisR ?_
  intro p e s m args below meth c s₁ Bd hml0 hP hK
  obtain ⟨rfl, hZ, hh⟩ := hP
  have hx := Bd.exec
  have hby := Bd.bytes
  have hml : c.maxLocals = 1 := hml0
  have hown : s.vm.findClass "com/example/fixtures_per_argument/fixturesperargument/engine/ParameterKindIsAllowedInPinLaw" = some m.cls := findClass_of_methodNamed Bd.named
  have hnm := (name_of_methodNamed Bd.named Bd.method).1
  have X0 : Stand p l e ({ frames := 0, cells := 0, slots := 0, locals := 0 } : Room) s m #[(.int p1)] below meth c s₁ [] 0 0 := Stand.of_body Bd
  have e0 : s₁.heap = h0 := by rw [← hh, Bd.state]; rfl
  have N0 := Fr.nil n0
  have pre0 : ∀ t, Steps p.tables e below (s₁.setTop (mkF m 0 #[.val (.int p1)] [])) t → Steps p.tables e below (s₁.setTop (entryFrame m #[(.int p1)] 1)) t := fun t k => castTop (ef_phaseOf m p1) k
  have pre1 : ∀ t, Steps p.tables e below (s₁.setTop (mkF m 1 #[.val (.int p1)] [(.int p1)])) t → Steps p.tables e below (s₁.setTop (entryFrame m #[(.int p1)] 1)) t := fun t k => pre0 t (by
      show Steps p.tables e below (s₁.setTop (mkF m 0 #[.val (.int p1)] [])) _
      refine XS.iloadN X0.here hx rfl (hb hby d2_0) rfl ?_
      exact k)
  by_cases g2 : p1 = (0 : Int32)
  · skip
    obtain ⟨T3, X3, e3, st3⟩ := getS2 X0 hx hZ hown (host := "") (Or.inl (hw _ (List.mem_of_getElem? (i := 36) rfl))) Via.refl e0 S_sw0 (g := (mkF m 4 #[.val (.int p1)] [])) rfl (hb hby d2_4)
    obtain ⟨fs, hr, hrun, hended, hW, hsame⟩ := X3.leave (v := some (.ref sw0)) (fun h => by rw [Bd.returns] at h; cases h)
    refine ⟨_, _, pre1 _ ?_, hrun, hended, _, _, rfl, ?_, ⟨_, rfl⟩, hW, hsame.mono (by decide) (by decide)⟩
    · show Steps p.tables e below (s₁.setTop (mkF m 1 #[.val (.int p1)] [(.int p1)])) _
      refine XS.ifNo X0.here hx rfl (hb hby d2_1) rfl ((if0 _ _).trans (teq g2).2) ?_
      show Steps p.tables e below (s₁.setTop (mkF m 4 #[.val (.int p1)] [])) _
      refine st3 _ ?_
      show Steps p.tables e below (T3.setTop (mkF m 7 #[.val (.int p1)] [(.ref sw0)])) _
      jvm_step X3.here [X3.here.top, hx, (hb hby d2_7), X3.method', Bd.returns, Value.isRef, FieldType.isReference]
      first | (intro acts; rw [hr _ acts rfl rfl rfl]) | rw [hr _ _ rfl rfl rfl]
      exact Steps.refl _
    · exact ⟨by simp only [f_phaseOf, if_pos g2], N0, e3⟩
  · skip
    have pre4 : ∀ t, Steps p.tables e below (s₁.setTop (mkF m 10 #[.val (.int p1)] [(.int (1 : Int32)), (.int p1)])) t → Steps p.tables e below (s₁.setTop (entryFrame m #[(.int p1)] 1)) t := fun t k => pre1 t (by
        show Steps p.tables e below (s₁.setTop (mkF m 1 #[.val (.int p1)] [(.int p1)])) _
        refine XS.ifYes X0.here hx rfl (pc0 := 1) (pc' := 8) rfl (hb hby d2_1) rfl ((if0 _ _).trans (feq g2).2) (by decide) (by decide) ?_
        show Steps p.tables e below (s₁.setTop (mkF m 8 #[.val (.int p1)] [])) _
        refine XS.iloadN X0.here hx rfl (hb hby d2_8) rfl ?_
        show Steps p.tables e below (s₁.setTop (mkF m 9 #[.val (.int p1)] [(.int p1)])) _
        refine XS.iconst X0.here hx rfl (hb hby d2_9) ?_
        exact k)
    by_cases g5 : p1 = (1 : Int32)
    · skip
      obtain ⟨T6, X6, e6, st6⟩ := getS2 X0 hx hZ hown (host := "") (Or.inl (hw _ (List.mem_of_getElem? (i := 30) rfl))) Via.refl e0 S_sw1 (g := (mkF m 13 #[.val (.int p1)] [])) rfl (hb hby d2_13)
      obtain ⟨fs, hr, hrun, hended, hW, hsame⟩ := X6.leave (v := some (.ref sw1)) (fun h => by rw [Bd.returns] at h; cases h)
      refine ⟨_, _, pre4 _ ?_, hrun, hended, _, _, rfl, ?_, ⟨_, rfl⟩, hW, hsame.mono (by decide) (by decide)⟩
      · show Steps p.tables e below (s₁.setTop (mkF m 10 #[.val (.int p1)] [(.int (1 : Int32)), (.int p1)])) _
        refine XS.icmpNo X0.here hx rfl (hb hby d2_10) rfl (teq g5).2 ?_
        show Steps p.tables e below (s₁.setTop (mkF m 13 #[.val (.int p1)] [])) _
        refine st6 _ ?_
        show Steps p.tables e below (T6.setTop (mkF m 16 #[.val (.int p1)] [(.ref sw1)])) _
        jvm_step X6.here [X6.here.top, hx, (hb hby d2_16), X6.method', Bd.returns, Value.isRef, FieldType.isReference]
        first | (intro acts; rw [hr _ acts rfl rfl rfl]) | rw [hr _ _ rfl rfl rfl]
        exact Steps.refl _
      · exact ⟨by simp only [f_phaseOf, if_neg g2, if_pos g5], N0, e6⟩
    · skip
      have pre7 : ∀ t, Steps p.tables e below (s₁.setTop (mkF m 19 #[.val (.int p1)] [(.int (2 : Int32)), (.int p1)])) t → Steps p.tables e below (s₁.setTop (entryFrame m #[(.int p1)] 1)) t := fun t k => pre4 t (by
          show Steps p.tables e below (s₁.setTop (mkF m 10 #[.val (.int p1)] [(.int (1 : Int32)), (.int p1)])) _
          refine XS.icmpYes X0.here hx rfl (pc0 := 10) (pc' := 17) rfl (hb hby d2_10) rfl (feq g5).2 (by decide) (by decide) ?_
          show Steps p.tables e below (s₁.setTop (mkF m 17 #[.val (.int p1)] [])) _
          refine XS.iloadN X0.here hx rfl (hb hby d2_17) rfl ?_
          show Steps p.tables e below (s₁.setTop (mkF m 18 #[.val (.int p1)] [(.int p1)])) _
          refine XS.iconst X0.here hx rfl (hb hby d2_18) ?_
          exact k)
      by_cases g8 : p1 = (2 : Int32)
      · skip
        obtain ⟨T9, X9, e9, st9⟩ := getS2 X0 hx hZ hown (host := "") (Or.inl (hw _ (List.mem_of_getElem? (i := 34) rfl))) Via.refl e0 S_sw2 (g := (mkF m 22 #[.val (.int p1)] [])) rfl (hb hby d2_22)
        obtain ⟨fs, hr, hrun, hended, hW, hsame⟩ := X9.leave (v := some (.ref sw2)) (fun h => by rw [Bd.returns] at h; cases h)
        refine ⟨_, _, pre7 _ ?_, hrun, hended, _, _, rfl, ?_, ⟨_, rfl⟩, hW, hsame.mono (by decide) (by decide)⟩
        · show Steps p.tables e below (s₁.setTop (mkF m 19 #[.val (.int p1)] [(.int (2 : Int32)), (.int p1)])) _
          refine XS.icmpNo X0.here hx rfl (hb hby d2_19) rfl (teq g8).2 ?_
          show Steps p.tables e below (s₁.setTop (mkF m 22 #[.val (.int p1)] [])) _
          refine st9 _ ?_
          show Steps p.tables e below (T9.setTop (mkF m 25 #[.val (.int p1)] [(.ref sw2)])) _
          jvm_step X9.here [X9.here.top, hx, (hb hby d2_25), X9.method', Bd.returns, Value.isRef, FieldType.isReference]
          first | (intro acts; rw [hr _ acts rfl rfl rfl]) | rw [hr _ _ rfl rfl rfl]
          exact Steps.refl _
        · exact ⟨by simp only [f_phaseOf, if_neg g2, if_neg g5, if_pos g8], N0, e9⟩
      · skip
        have pre10 : ∀ t, Steps p.tables e below (s₁.setTop (mkF m 28 #[.val (.int p1)] [(.int (3 : Int32)), (.int p1)])) t → Steps p.tables e below (s₁.setTop (entryFrame m #[(.int p1)] 1)) t := fun t k => pre7 t (by
            show Steps p.tables e below (s₁.setTop (mkF m 19 #[.val (.int p1)] [(.int (2 : Int32)), (.int p1)])) _
            refine XS.icmpYes X0.here hx rfl (pc0 := 19) (pc' := 26) rfl (hb hby d2_19) rfl (feq g8).2 (by decide) (by decide) ?_
            show Steps p.tables e below (s₁.setTop (mkF m 26 #[.val (.int p1)] [])) _
            refine XS.iloadN X0.here hx rfl (hb hby d2_26) rfl ?_
            show Steps p.tables e below (s₁.setTop (mkF m 27 #[.val (.int p1)] [(.int p1)])) _
            refine XS.iconst X0.here hx rfl (hb hby d2_27) ?_
            exact k)
        by_cases g11 : p1 = (3 : Int32)
        · skip
          obtain ⟨T12, X12, e12, st12⟩ := getS2 X0 hx hZ hown (host := "") (Or.inl (hw _ (List.mem_of_getElem? (i := 11) rfl))) Via.refl e0 S_sw3 (g := (mkF m 31 #[.val (.int p1)] [])) rfl (hb hby d2_31)
          obtain ⟨fs, hr, hrun, hended, hW, hsame⟩ := X12.leave (v := some (.ref sw3)) (fun h => by rw [Bd.returns] at h; cases h)
          refine ⟨_, _, pre10 _ ?_, hrun, hended, _, _, rfl, ?_, ⟨_, rfl⟩, hW, hsame.mono (by decide) (by decide)⟩
          · show Steps p.tables e below (s₁.setTop (mkF m 28 #[.val (.int p1)] [(.int (3 : Int32)), (.int p1)])) _
            refine XS.icmpNo X0.here hx rfl (hb hby d2_28) rfl (teq g11).2 ?_
            show Steps p.tables e below (s₁.setTop (mkF m 31 #[.val (.int p1)] [])) _
            refine st12 _ ?_
            show Steps p.tables e below (T12.setTop (mkF m 34 #[.val (.int p1)] [(.ref sw3)])) _
            jvm_step X12.here [X12.here.top, hx, (hb hby d2_34), X12.method', Bd.returns, Value.isRef, FieldType.isReference]
            first | (intro acts; rw [hr _ acts rfl rfl rfl]) | rw [hr _ _ rfl rfl rfl]
            exact Steps.refl _
          · exact ⟨by simp only [f_phaseOf, if_neg g2, if_neg g5, if_neg g8, if_pos g11], N0, e12⟩
        · skip
          have pre13 : ∀ t, Steps p.tables e below (s₁.setTop (mkF m 37 #[.val (.int p1)] [(.int (4 : Int32)), (.int p1)])) t → Steps p.tables e below (s₁.setTop (entryFrame m #[(.int p1)] 1)) t := fun t k => pre10 t (by
              show Steps p.tables e below (s₁.setTop (mkF m 28 #[.val (.int p1)] [(.int (3 : Int32)), (.int p1)])) _
              refine XS.icmpYes X0.here hx rfl (pc0 := 28) (pc' := 35) rfl (hb hby d2_28) rfl (feq g11).2 (by decide) (by decide) ?_
              show Steps p.tables e below (s₁.setTop (mkF m 35 #[.val (.int p1)] [])) _
              refine XS.iloadN X0.here hx rfl (hb hby d2_35) rfl ?_
              show Steps p.tables e below (s₁.setTop (mkF m 36 #[.val (.int p1)] [(.int p1)])) _
              refine XS.iconst X0.here hx rfl (hb hby d2_36) ?_
              exact k)
          by_cases g14 : p1 = (4 : Int32)
          · skip
            obtain ⟨T15, X15, e15, st15⟩ := getS2 X0 hx hZ hown (host := "") (Or.inl (hw _ (List.mem_of_getElem? (i := 46) rfl))) Via.refl e0 S_sw4 (g := (mkF m 40 #[.val (.int p1)] [])) rfl (hb hby d2_40)
            obtain ⟨fs, hr, hrun, hended, hW, hsame⟩ := X15.leave (v := some (.ref sw4)) (fun h => by rw [Bd.returns] at h; cases h)
            refine ⟨_, _, pre13 _ ?_, hrun, hended, _, _, rfl, ?_, ⟨_, rfl⟩, hW, hsame.mono (by decide) (by decide)⟩
            · show Steps p.tables e below (s₁.setTop (mkF m 37 #[.val (.int p1)] [(.int (4 : Int32)), (.int p1)])) _
              refine XS.icmpNo X0.here hx rfl (hb hby d2_37) rfl (teq g14).2 ?_
              show Steps p.tables e below (s₁.setTop (mkF m 40 #[.val (.int p1)] [])) _
              refine st15 _ ?_
              show Steps p.tables e below (T15.setTop (mkF m 43 #[.val (.int p1)] [(.ref sw4)])) _
              jvm_step X15.here [X15.here.top, hx, (hb hby d2_43), X15.method', Bd.returns, Value.isRef, FieldType.isReference]
              first | (intro acts; rw [hr _ acts rfl rfl rfl]) | rw [hr _ _ rfl rfl rfl]
              exact Steps.refl _
            · exact ⟨by simp only [f_phaseOf, if_neg g2, if_neg g5, if_neg g8, if_neg g11, if_pos g14], N0, e15⟩
          · skip
            have pre16 : ∀ t, Steps p.tables e below (s₁.setTop (mkF m 46 #[.val (.int p1)] [(.int (5 : Int32)), (.int p1)])) t → Steps p.tables e below (s₁.setTop (entryFrame m #[(.int p1)] 1)) t := fun t k => pre13 t (by
                show Steps p.tables e below (s₁.setTop (mkF m 37 #[.val (.int p1)] [(.int (4 : Int32)), (.int p1)])) _
                refine XS.icmpYes X0.here hx rfl (pc0 := 37) (pc' := 44) rfl (hb hby d2_37) rfl (feq g14).2 (by decide) (by decide) ?_
                show Steps p.tables e below (s₁.setTop (mkF m 44 #[.val (.int p1)] [])) _
                refine XS.iloadN X0.here hx rfl (hb hby d2_44) rfl ?_
                show Steps p.tables e below (s₁.setTop (mkF m 45 #[.val (.int p1)] [(.int p1)])) _
                refine XS.iconst X0.here hx rfl (hb hby d2_45) ?_
                exact k)
            by_cases g17 : p1 = (5 : Int32)
            · skip
              obtain ⟨T18, X18, e18, st18⟩ := getS2 X0 hx hZ hown (host := "") (Or.inl (hw _ (List.mem_of_getElem? (i := 32) rfl))) Via.refl e0 S_sw5 (g := (mkF m 49 #[.val (.int p1)] [])) rfl (hb hby d2_49)
              obtain ⟨fs, hr, hrun, hended, hW, hsame⟩ := X18.leave (v := some (.ref sw5)) (fun h => by rw [Bd.returns] at h; cases h)
              refine ⟨_, _, pre16 _ ?_, hrun, hended, _, _, rfl, ?_, ⟨_, rfl⟩, hW, hsame.mono (by decide) (by decide)⟩
              · show Steps p.tables e below (s₁.setTop (mkF m 46 #[.val (.int p1)] [(.int (5 : Int32)), (.int p1)])) _
                refine XS.icmpNo X0.here hx rfl (hb hby d2_46) rfl (teq g17).2 ?_
                show Steps p.tables e below (s₁.setTop (mkF m 49 #[.val (.int p1)] [])) _
                refine st18 _ ?_
                show Steps p.tables e below (T18.setTop (mkF m 52 #[.val (.int p1)] [(.ref sw5)])) _
                jvm_step X18.here [X18.here.top, hx, (hb hby d2_52), X18.method', Bd.returns, Value.isRef, FieldType.isReference]
                first | (intro acts; rw [hr _ acts rfl rfl rfl]) | rw [hr _ _ rfl rfl rfl]
                exact Steps.refl _
              · exact ⟨by simp only [f_phaseOf, if_neg g2, if_neg g5, if_neg g8, if_neg g11, if_neg g14, if_pos g17], N0, e18⟩
            · skip
              obtain ⟨T19, X19, e19, st19⟩ := getS2 X0 hx hZ hown (host := "") (Or.inl (hw _ (List.mem_of_getElem? (i := 42) rfl))) Via.refl e0 S_sw6 (g := (mkF m 53 #[.val (.int p1)] [])) rfl (hb hby d2_53)
              obtain ⟨fs, hr, hrun, hended, hW, hsame⟩ := X19.leave (v := some (.ref sw6)) (fun h => by rw [Bd.returns] at h; cases h)
              refine ⟨_, _, pre16 _ ?_, hrun, hended, _, _, rfl, ?_, ⟨_, rfl⟩, hW, hsame.mono (by decide) (by decide)⟩
              · show Steps p.tables e below (s₁.setTop (mkF m 46 #[.val (.int p1)] [(.int (5 : Int32)), (.int p1)])) _
                refine XS.icmpYes X0.here hx rfl (pc0 := 46) (pc' := 53) rfl (hb hby d2_46) rfl (feq g17).2 (by decide) (by decide) ?_
                show Steps p.tables e below (s₁.setTop (mkF m 53 #[.val (.int p1)] [])) _
                refine st19 _ ?_
                show Steps p.tables e below (T19.setTop (mkF m 56 #[.val (.int p1)] [(.ref sw6)])) _
                jvm_step X19.here [X19.here.top, hx, (hb hby d2_56), X19.method', Bd.returns, Value.isRef, FieldType.isReference]
                first | (intro acts; rw [hr _ acts rfl rfl rfl]) | rw [hr _ _ rfl rfl rfl]
                exact Steps.refl _
              · exact ⟨by simp only [f_phaseOf, if_neg g2, if_neg g5, if_neg g8, if_neg g11, if_neg g14, if_neg g17], N0, e19⟩
def f_isPerArgument (sw0 : Addr) (sw1 : Addr) (sw2 : Addr) (sw3 : Addr) (sw4 : Addr) (sw5 : Addr) (sw6 : Addr) (kw0 : Addr) (kw1 : Addr) (kw2 : Addr) (kw3 : Addr) (a1 : Addr) (z : Int32) : Int32 := (nar .boolean z)
set_option maxRecDepth 65536 in
set_option maxHeartbeats 40000000 in
theorem rm_isPerArgument (l : Launch) (Z : State) (a0 : Array Value) (hw : ∀ d ∈ tables_1, d.before a0 Z = true) (ws : List Jvm.Cond) (sw0 : Addr) (sw1 : Addr) (sw2 : Addr) (sw3 : Addr) (sw4 : Addr) (sw5 : Addr) (sw6 : Addr) (kw0 : Addr) (kw1 : Addr) (kw2 : Addr) (kw3 : Addr) (a1 : Addr) (z : Int32) (h0 : Heap) (n0 : Nat) (Z0 : n0 ≤ h0.size) (S_sw0 : Sta Z h0 "com/example/fixtures_per_argument/fixturesperargument/engine/Phase" "PREPARE" "Lcom/example/fixtures_per_argument/fixturesperargument/engine/Phase;" (.ref sw0)) (S_sw1 : Sta Z h0 "com/example/fixtures_per_argument/fixturesperargument/engine/Phase" "BEFORE_ALL" "Lcom/example/fixtures_per_argument/fixturesperargument/engine/Phase;" (.ref sw1)) (S_sw2 : Sta Z h0 "com/example/fixtures_per_argument/fixturesperargument/engine/Phase" "BEFORE_EACH" "Lcom/example/fixtures_per_argument/fixturesperargument/engine/Phase;" (.ref sw2)) (S_sw3 : Sta Z h0 "com/example/fixtures_per_argument/fixturesperargument/engine/Phase" "TEST" "Lcom/example/fixtures_per_argument/fixturesperargument/engine/Phase;" (.ref sw3)) (S_sw4 : Sta Z h0 "com/example/fixtures_per_argument/fixturesperargument/engine/Phase" "AFTER_EACH" "Lcom/example/fixtures_per_argument/fixturesperargument/engine/Phase;" (.ref sw4)) (S_sw5 : Sta Z h0 "com/example/fixtures_per_argument/fixturesperargument/engine/Phase" "AFTER_ALL" "Lcom/example/fixtures_per_argument/fixturesperargument/engine/Phase;" (.ref sw5)) (S_sw6 : Sta Z h0 "com/example/fixtures_per_argument/fixturesperargument/engine/Phase" "CONCLUDE" "Lcom/example/fixtures_per_argument/fixturesperargument/engine/Phase;" (.ref sw6)) (S_kw0 : Sta Z h0 "com/example/fixtures_per_argument/fixturesperargument/engine/ParameterKind" "PAYLOAD" "Lcom/example/fixtures_per_argument/fixturesperargument/engine/ParameterKind;" (.ref kw0)) (S_kw1 : Sta Z h0 "com/example/fixtures_per_argument/fixturesperargument/engine/ParameterKind" "CLASS_CONTEXT" "Lcom/example/fixtures_per_argument/fixturesperargument/engine/ParameterKind;" (.ref kw1)) (S_kw2 : Sta Z h0 "com/example/fixtures_per_argument/fixturesperargument/engine/ParameterKind" "ARGUMENT_CONTEXT" "Lcom/example/fixtures_per_argument/fixturesperargument/engine/ParameterKind;" (.ref kw2)) (S_kw3 : Sta Z h0 "com/example/fixtures_per_argument/fixturesperargument/engine/ParameterKind" "ENGINE_CONTEXT" "Lcom/example/fixtures_per_argument/fixturesperargument/engine/ParameterKind;" (.ref kw3)) (Fz : Fld Z h0 a1 "com/example/fixtures_per_argument/fixturesperargument/engine/Phase" "perArgument" "Z" (.int z)) :
    MetFree l (⟨"com/example/fixtures_per_argument/fixturesperargument/engine/Phase", "isPerArgument", "()Z"⟩ : MethodName) (head1 (Jvm.Cond.code (⟨"com/example/fixtures_per_argument/fixturesperargument/engine/Phase", "isPerArgument", "()Z"⟩ : MethodName) prog_27_method_5_code 1 (some .boolean) :: ws) ({ frames := 0, cells := 0, slots := 0, locals := 0 } : Room)) (fun a U => a = #[(.ref a1)] ∧ Z.Warmed39 U.vm ∧ U.heap = h0) (fun _ _ _ _ _ => True) (fun _ U o U' => ∃ v L, o = .returned v ∧ PureQ (some (.int (f_isPerArgument sw0 sw1 sw2 sw3 sw4 sw5 sw6 kw0 kw1 kw2 kw3 a1 z))) h0 n0 v U'.heap L ∧ FrameEnd U o U' L ({ frames := 0, cells := 0, slots := 0, locals := 0 } : Room).cells ({ frames := 0, cells := 0, slots := 0, locals := 0 } : Room).slots) := by
  refine MetFree.of_bodySF (plainFor_of_name pn_Phase) hisR ?_
  intro p e s m args below meth c s₁ Bd hml0 hP hK
  obtain ⟨rfl, hZ, hh⟩ := hP
  have hx := Bd.exec
  have hby := Bd.bytes
  have hml : c.maxLocals = 1 := hml0
  have hown : s.vm.findClass "com/example/fixtures_per_argument/fixturesperargument/engine/Phase" = some m.cls := findClass_of_methodNamed Bd.named
  have hnm := (name_of_methodNamed Bd.named Bd.method).1
  have X0 : Stand p l e ({ frames := 0, cells := 0, slots := 0, locals := 0 } : Room) s m #[(.ref a1)] below meth c s₁ [] 0 0 := Stand.of_body Bd
  have e0 : s₁.heap = h0 := by rw [← hh, Bd.state]; rfl
  have N0 := Fr.nil n0
  have pre0 : ∀ t, Steps p.tables e below (s₁.setTop (mkF m 0 #[.val (.ref a1)] [])) t → Steps p.tables e below (s₁.setTop (entryFrame m #[(.ref a1)] 1)) t := fun t k => castTop (ef_isPerArgument m a1) k
  obtain ⟨T1, X1, e1, st1⟩ := getF X0 hx hZ hown (host := "") (Or.inl (hw _ (List.mem_of_getElem? (i := 24) rfl))) Via.refl e0 Fz (g := (mkF m 1 #[.val (.ref a1)] [(.ref a1)])) rfl rfl (hb hby d4_1)
  obtain ⟨fs, hr, hrun, hended, hW, hsame⟩ := X1.leave (v := some (.int (nar .boolean z))) (fun h => by rw [Bd.returns] at h; cases h)
  refine ⟨_, _, pre0 _ ?_, hrun, hended, _, _, rfl, ?_, ⟨_, rfl⟩, hW, hsame.mono (by decide) (by decide)⟩
  · show Steps p.tables e below (s₁.setTop (mkF m 0 #[.val (.ref a1)] [])) _
    refine XS.aloadN X0.here hx rfl (hb hby d4_0) rfl rfl ?_
    show Steps p.tables e below (s₁.setTop (mkF m 1 #[.val (.ref a1)] [(.ref a1)])) _
    refine st1 _ ?_
    show Steps p.tables e below (T1.setTop (mkF m 4 #[.val (.ref a1)] [(.int z)])) _
    exact retN X1 hx (t := .boolean) Bd.returns (by simp) (hb hby d4_4) hr
  · exact ⟨by simp only [f_isPerArgument], N0, e1⟩
def f_isAllowedIn (sw0 : Addr) (sw1 : Addr) (sw2 : Addr) (sw3 : Addr) (sw4 : Addr) (sw5 : Addr) (sw6 : Addr) (kw0 : Addr) (kw1 : Addr) (kw2 : Addr) (kw3 : Addr) (a1 : Addr) (a2 : Addr) (z : Int32) (za : Int32) (zc : Int32) : Int32 := (if (f_isPerArgument sw0 sw1 sw2 sw3 sw4 sw5 sw6 kw0 kw1 kw2 kw3 a2 z) = (0 : Int32) then (nar .boolean zc) else (nar .boolean za))
set_option maxRecDepth 65536 in
set_option maxHeartbeats 40000000 in
theorem rm_isAllowedIn (l : Launch) (Z : State) (a0 : Array Value) (hw : ∀ d ∈ tables_1, d.before a0 Z = true) (ws : List Jvm.Cond) (sw0 : Addr) (sw1 : Addr) (sw2 : Addr) (sw3 : Addr) (sw4 : Addr) (sw5 : Addr) (sw6 : Addr) (kw0 : Addr) (kw1 : Addr) (kw2 : Addr) (kw3 : Addr) (a1 : Addr) (a2 : Addr) (z : Int32) (za : Int32) (zc : Int32) (h0 : Heap) (n0 : Nat) (Z0 : n0 ≤ h0.size) (S_sw0 : Sta Z h0 "com/example/fixtures_per_argument/fixturesperargument/engine/Phase" "PREPARE" "Lcom/example/fixtures_per_argument/fixturesperargument/engine/Phase;" (.ref sw0)) (S_sw1 : Sta Z h0 "com/example/fixtures_per_argument/fixturesperargument/engine/Phase" "BEFORE_ALL" "Lcom/example/fixtures_per_argument/fixturesperargument/engine/Phase;" (.ref sw1)) (S_sw2 : Sta Z h0 "com/example/fixtures_per_argument/fixturesperargument/engine/Phase" "BEFORE_EACH" "Lcom/example/fixtures_per_argument/fixturesperargument/engine/Phase;" (.ref sw2)) (S_sw3 : Sta Z h0 "com/example/fixtures_per_argument/fixturesperargument/engine/Phase" "TEST" "Lcom/example/fixtures_per_argument/fixturesperargument/engine/Phase;" (.ref sw3)) (S_sw4 : Sta Z h0 "com/example/fixtures_per_argument/fixturesperargument/engine/Phase" "AFTER_EACH" "Lcom/example/fixtures_per_argument/fixturesperargument/engine/Phase;" (.ref sw4)) (S_sw5 : Sta Z h0 "com/example/fixtures_per_argument/fixturesperargument/engine/Phase" "AFTER_ALL" "Lcom/example/fixtures_per_argument/fixturesperargument/engine/Phase;" (.ref sw5)) (S_sw6 : Sta Z h0 "com/example/fixtures_per_argument/fixturesperargument/engine/Phase" "CONCLUDE" "Lcom/example/fixtures_per_argument/fixturesperargument/engine/Phase;" (.ref sw6)) (S_kw0 : Sta Z h0 "com/example/fixtures_per_argument/fixturesperargument/engine/ParameterKind" "PAYLOAD" "Lcom/example/fixtures_per_argument/fixturesperargument/engine/ParameterKind;" (.ref kw0)) (S_kw1 : Sta Z h0 "com/example/fixtures_per_argument/fixturesperargument/engine/ParameterKind" "CLASS_CONTEXT" "Lcom/example/fixtures_per_argument/fixturesperargument/engine/ParameterKind;" (.ref kw1)) (S_kw2 : Sta Z h0 "com/example/fixtures_per_argument/fixturesperargument/engine/ParameterKind" "ARGUMENT_CONTEXT" "Lcom/example/fixtures_per_argument/fixturesperargument/engine/ParameterKind;" (.ref kw2)) (S_kw3 : Sta Z h0 "com/example/fixtures_per_argument/fixturesperargument/engine/ParameterKind" "ENGINE_CONTEXT" "Lcom/example/fixtures_per_argument/fixturesperargument/engine/ParameterKind;" (.ref kw3)) (Ea : Exa Z h0 a2 "com/example/fixtures_per_argument/fixturesperargument/engine/Phase") (Fz : Fld Z h0 a2 "com/example/fixtures_per_argument/fixturesperargument/engine/Phase" "perArgument" "Z" (.int z)) (Fa : Fld Z h0 a1 "com/example/fixtures_per_argument/fixturesperargument/engine/ParameterKind" "inArgumentPhases" "Z" (.int za)) (Fc : Fld Z h0 a1 "com/example/fixtures_per_argument/fixturesperargument/engine/ParameterKind" "inClassPhases" "Z" (.int zc)) :
    MetFree l (⟨"com/example/fixtures_per_argument/fixturesperargument/engine/ParameterKind", "isAllowedIn", "(Lcom/example/fixtures_per_argument/fixturesperargument/engine/Phase;)Z"⟩ : MethodName) (head1 (Jvm.Cond.code (⟨"com/example/fixtures_per_argument/fixturesperargument/engine/ParameterKind", "isAllowedIn", "(Lcom/example/fixtures_per_argument/fixturesperargument/engine/Phase;)Z"⟩ : MethodName) prog_25_method_5_code 2 (some .boolean) :: ws) ({ frames := 1, cells := 0, slots := 0, locals := 12 } : Room)) (fun a U => a = #[(.ref a1), (.ref a2)] ∧ Z.Warmed39 U.vm ∧ U.heap = h0) (fun _ _ _ _ _ => True) (fun _ U o U' => ∃ v L, o = .returned v ∧ PureQ (some (.int (f_isAllowedIn sw0 sw1 sw2 sw3 sw4 sw5 sw6 kw0 kw1 kw2 kw3 a1 a2 z za zc))) h0 n0 v U'.heap L ∧ FrameEnd U o U' L ({ frames := 1, cells := 0, slots := 0, locals := 12 } : Room).cells ({ frames := 1, cells := 0, slots := 0, locals := 12 } : Room).slots) := by
  refine MetFree.of_bodySF (plainFor_of_name pn_ParameterKind) hisR ?_
  intro p e s m args below meth c s₁ Bd hml0 hP hK
  obtain ⟨rfl, hZ, hh⟩ := hP
  have hx := Bd.exec
  have hby := Bd.bytes
  have hml : c.maxLocals = 2 := hml0
  have hown : s.vm.findClass "com/example/fixtures_per_argument/fixturesperargument/engine/ParameterKind" = some m.cls := findClass_of_methodNamed Bd.named
  have hnm := (name_of_methodNamed Bd.named Bd.method).1
  have X0 : Stand p l e ({ frames := 1, cells := 0, slots := 0, locals := 12 } : Room) s m #[(.ref a1), (.ref a2)] below meth c s₁ [] 0 0 := Stand.of_body Bd
  have e0 : s₁.heap = h0 := by rw [← hh, Bd.state]; rfl
  have N0 := Fr.nil n0
  have pre0 : ∀ t, Steps p.tables e below (s₁.setTop (mkF m 0 #[.val (.ref a1), .val (.ref a2)] [])) t → Steps p.tables e below (s₁.setTop (entryFrame m #[(.ref a1), (.ref a2)] 2)) t := fun t k => castTop (ef_isAllowedIn m a1 a2) k
  obtain ⟨cq1, kq1, q1a, q1b, q1c⟩ := isOf hZ e0 Ea
  obtain ⟨_, _, ⟨T1, L1, k1, n1⟩, -, X1, ⟨Lc1, hQ1, l1, y1, z1⟩, st1⟩ := X0.virtualBack hx (y := (⟨"com/example/fixtures_per_argument/fixturesperargument/engine/Phase", "isPerArgument", "()Z"⟩ : MethodName)) (z := (⟨"com/example/fixtures_per_argument/fixturesperargument/engine/Phase", "isPerArgument", "()Z"⟩ : MethodName)) hown (mvT hZ (hw _ (List.mem_of_getElem? (i := 19) rfl))) (mvT hZ (hw _ (List.mem_of_getElem? (i := 20) rfl))) (notFace_of_selects (args := #[]) (mvT hZ (hw _ (List.mem_of_getElem? (i := 22) rfl)))) (mvT hZ (hw _ (List.mem_of_getElem? (i := 22) rfl))) (mvT hZ (hw _ (List.mem_of_getElem? (i := 21) rfl))) (by decide) (backOf (W := 0) (rm_isPerArgument l Z a0 hw [] sw0 sw1 sw2 sw3 sw4 sw5 sw6 kw0 kw1 kw2 kw3 a2 z h0 n0 Z0 S_sw0 S_sw1 S_sw2 S_sw3 S_sw4 S_sw5 S_sw6 S_kw0 S_kw1 S_kw2 S_kw3 Fz) hZ (hw _ (List.mem_of_getElem? (i := 23) rfl)) (hw _ (List.mem_of_getElem? (i := 12) rfl)) (by decide) (by decide)) q1a q1c (g := (mkF m 1 #[.val (.ref a1), .val (.ref a2)] [(.ref a2)])) rfl (by rw [hml]; rfl) (Steps.refl _) (argsL := []) (rest := []) (lenOf pd___Z_3 rfl) rfl (by show 2 * 0 + _ ≤ _; exact Nat.le_of_eq rfl) (hb hby d3_1) (fun _ _ => ⟨rfl, e0, (by decide : 0 + 0 ≤ _), (by decide : 0 + 0 ≤ _)⟩)
  dsimp only [Pt.U, Pt.locs, Pt.cells, Pt.slots] at X1 l1 y1 z1 st1 hQ1
  subst l1 y1 z1
  obtain ⟨rfl, N1q, e1⟩ := hQ1
  have N1 := Fr.app N0 N1q
  have pre2 : ∀ t, Steps p.tables e below (T1.setTop (mkF m 4 #[.val (.ref a1), .val (.ref a2)] [(.int (f_isPerArgument sw0 sw1 sw2 sw3 sw4 sw5 sw6 kw0 kw1 kw2 kw3 a2 z))])) t → Steps p.tables e below (s₁.setTop (entryFrame m #[(.ref a1), (.ref a2)] 2)) t := fun t k => pre0 t (by
      show Steps p.tables e below (s₁.setTop (mkF m 0 #[.val (.ref a1), .val (.ref a2)] [])) _
      refine XS.aloadN X0.here hx rfl (hb hby d3_0) rfl rfl ?_
      show Steps p.tables e below (s₁.setTop (mkF m 1 #[.val (.ref a1), .val (.ref a2)] [(.ref a2)])) _
      refine st1.trans ?_
      exact k)
  by_cases g3 : (f_isPerArgument sw0 sw1 sw2 sw3 sw4 sw5 sw6 kw0 kw1 kw2 kw3 a2 z) = (0 : Int32)
  · skip
    obtain ⟨T4, X4, e4, st4⟩ := getF X1 hx hZ hown (host := "") (Or.inl (hw _ (List.mem_of_getElem? (i := 38) rfl))) Via.refl e1 Fc (g := (mkF m 15 #[.val (.ref a1), .val (.ref a2)] [(.ref a1)])) rfl rfl (hb hby d3_15)
    obtain ⟨fs, hr, hrun, hended, hW, hsame⟩ := X4.leave (v := some (.int (nar .boolean zc))) (fun h => by rw [Bd.returns] at h; cases h)
    refine ⟨_, _, pre2 _ ?_, hrun, hended, _, _, rfl, ?_, ⟨_, rfl⟩, hW, hsame.mono (by decide) (by decide)⟩
    · show Steps p.tables e below (T1.setTop (mkF m 4 #[.val (.ref a1), .val (.ref a2)] [(.int (f_isPerArgument sw0 sw1 sw2 sw3 sw4 sw5 sw6 kw0 kw1 kw2 kw3 a2 z))])) _
      refine XS.ifYes X1.here hx rfl (pc0 := 4) (pc' := 14) rfl (hb hby d3_4) rfl ((if0 _ _).trans (teq g3).1) (by decide) (by decide) ?_
      show Steps p.tables e below (T1.setTop (mkF m 14 #[.val (.ref a1), .val (.ref a2)] [])) _
      refine XS.aloadN X1.here hx rfl (hb hby d3_14) rfl rfl ?_
      show Steps p.tables e below (T1.setTop (mkF m 15 #[.val (.ref a1), .val (.ref a2)] [(.ref a1)])) _
      refine st4 _ ?_
      show Steps p.tables e below (T4.setTop (mkF m 18 #[.val (.ref a1), .val (.ref a2)] [(.int zc)])) _
      exact retN X4 hx (t := .boolean) Bd.returns (by simp) (hb hby d3_18) hr
    · exact ⟨by simp only [f_isAllowedIn, if_pos g3], N1, e4⟩
  · skip
    obtain ⟨T5, X5, e5, st5⟩ := getF X1 hx hZ hown (host := "") (Or.inl (hw _ (List.mem_of_getElem? (i := 26) rfl))) Via.refl e1 Fa (g := (mkF m 8 #[.val (.ref a1), .val (.ref a2)] [(.ref a1)])) rfl rfl (hb hby d3_8)
    obtain ⟨fs, hr, hrun, hended, hW, hsame⟩ := X5.leave (v := some (.int (nar .boolean za))) (fun h => by rw [Bd.returns] at h; cases h)
    refine ⟨_, _, pre2 _ ?_, hrun, hended, _, _, rfl, ?_, ⟨_, rfl⟩, hW, hsame.mono (by decide) (by decide)⟩
    · show Steps p.tables e below (T1.setTop (mkF m 4 #[.val (.ref a1), .val (.ref a2)] [(.int (f_isPerArgument sw0 sw1 sw2 sw3 sw4 sw5 sw6 kw0 kw1 kw2 kw3 a2 z))])) _
      refine XS.ifNo X1.here hx rfl (hb hby d3_4) rfl ((if0 _ _).trans (feq g3).1) ?_
      show Steps p.tables e below (T1.setTop (mkF m 7 #[.val (.ref a1), .val (.ref a2)] [])) _
      refine XS.aloadN X1.here hx rfl (hb hby d3_7) rfl rfl ?_
      show Steps p.tables e below (T1.setTop (mkF m 8 #[.val (.ref a1), .val (.ref a2)] [(.ref a1)])) _
      refine st5 _ ?_
      show Steps p.tables e below (T5.setTop (mkF m 11 #[.val (.ref a1), .val (.ref a2)] [(.int za)])) _
      refine XS.goto X5.here hx rfl (pc0 := 11) (pc' := 18) rfl (hb hby d3_11) (by decide) (by decide) ?_
      show Steps p.tables e below (T5.setTop (mkF m 18 #[.val (.ref a1), .val (.ref a2)] [(.int za)])) _
      exact retN X5 hx (t := .boolean) Bd.returns (by simp) (hb hby d3_18) hr
    · exact ⟨by simp only [f_isAllowedIn, if_neg g3], N1, e5⟩
theorem own_e {Z : State} {h0 : Heap} {sw0 sw1 sw2 sw3 sw4 sw5 sw6 kw0 kw1 kw2 kw3 : Addr} {k : Int32} (E_sw0 : Exa Z h0 sw0 "com/example/fixtures_per_argument/fixturesperargument/engine/Phase") (E_sw1 : Exa Z h0 sw1 "com/example/fixtures_per_argument/fixturesperargument/engine/Phase") (E_sw2 : Exa Z h0 sw2 "com/example/fixtures_per_argument/fixturesperargument/engine/Phase") (E_sw3 : Exa Z h0 sw3 "com/example/fixtures_per_argument/fixturesperargument/engine/Phase") (E_sw4 : Exa Z h0 sw4 "com/example/fixtures_per_argument/fixturesperargument/engine/Phase") (E_sw5 : Exa Z h0 sw5 "com/example/fixtures_per_argument/fixturesperargument/engine/Phase") (E_sw6 : Exa Z h0 sw6 "com/example/fixtures_per_argument/fixturesperargument/engine/Phase") : Exa Z h0 (f_phaseOf sw0 sw1 sw2 sw3 sw4 sw5 sw6 kw0 kw1 kw2 kw3 k) "com/example/fixtures_per_argument/fixturesperargument/engine/Phase" := by
  unfold f_phaseOf
  split; · assumption
  split; · assumption
  split; · assumption
  split; · assumption
  split; · assumption
  split <;> assumption
theorem own_ek {Z : State} {h0 : Heap} {sw0 sw1 sw2 sw3 sw4 sw5 sw6 kw0 kw1 kw2 kw3 : Addr} {k : Int32} (E_kw0 : Exa Z h0 kw0 "com/example/fixtures_per_argument/fixturesperargument/engine/ParameterKind") (E_kw1 : Exa Z h0 kw1 "com/example/fixtures_per_argument/fixturesperargument/engine/ParameterKind") (E_kw2 : Exa Z h0 kw2 "com/example/fixtures_per_argument/fixturesperargument/engine/ParameterKind") (E_kw3 : Exa Z h0 kw3 "com/example/fixtures_per_argument/fixturesperargument/engine/ParameterKind") : Exa Z h0 (f_kindOf sw0 sw1 sw2 sw3 sw4 sw5 sw6 kw0 kw1 kw2 kw3 k) "com/example/fixtures_per_argument/fixturesperargument/engine/ParameterKind" := by
  unfold f_kindOf
  split; · assumption
  split; · assumption
  split <;> assumption
def own_per (k : Int32) : Int32 := if k = 0 then 0 else if k = 6 then 0 else 1
def own_ina (k : Int32) : Int32 := if k = 0 then 1 else if k = 2 then 1 else 0
def own_inc (k : Int32) : Int32 := if k = 1 then 1 else 0
theorem own_fp {Z : State} {h0 : Heap} {sw0 sw1 sw2 sw3 sw4 sw5 sw6 kw0 kw1 kw2 kw3 : Addr} {k : Int32} (hk : k = (0 : Int32) ∨ k = (1 : Int32) ∨ k = (2 : Int32) ∨ k = (3 : Int32) ∨ k = (4 : Int32) ∨ k = (5 : Int32) ∨ k = (6 : Int32)) (F_perArgument_sw0 : Fld Z h0 sw0 "com/example/fixtures_per_argument/fixturesperargument/engine/Phase" "perArgument" "Z" (.int (0 : Int32))) (F_perArgument_sw1 : Fld Z h0 sw1 "com/example/fixtures_per_argument/fixturesperargument/engine/Phase" "perArgument" "Z" (.int (1 : Int32))) (F_perArgument_sw2 : Fld Z h0 sw2 "com/example/fixtures_per_argument/fixturesperargument/engine/Phase" "perArgument" "Z" (.int (1 : Int32))) (F_perArgument_sw3 : Fld Z h0 sw3 "com/example/fixtures_per_argument/fixturesperargument/engine/Phase" "perArgument" "Z" (.int (1 : Int32))) (F_perArgument_sw4 : Fld Z h0 sw4 "com/example/fixtures_per_argument/fixturesperargument/engine/Phase" "perArgument" "Z" (.int (1 : Int32))) (F_perArgument_sw5 : Fld Z h0 sw5 "com/example/fixtures_per_argument/fixturesperargument/engine/Phase" "perArgument" "Z" (.int (1 : Int32))) (F_perArgument_sw6 : Fld Z h0 sw6 "com/example/fixtures_per_argument/fixturesperargument/engine/Phase" "perArgument" "Z" (.int (0 : Int32))) : Fld Z h0 (f_phaseOf sw0 sw1 sw2 sw3 sw4 sw5 sw6 kw0 kw1 kw2 kw3 k) "com/example/fixtures_per_argument/fixturesperargument/engine/Phase" "perArgument" "Z" (.int (own_per k)) := by
  rcases hk with rfl | rfl | rfl | rfl | rfl | rfl | rfl <;> simpa [f_phaseOf, own_per]
theorem own_fa {Z : State} {h0 : Heap} {sw0 sw1 sw2 sw3 sw4 sw5 sw6 kw0 kw1 kw2 kw3 : Addr} {k : Int32} (hk : k = (0 : Int32) ∨ k = (1 : Int32) ∨ k = (2 : Int32) ∨ k = (3 : Int32)) (F_inArgumentPhases_kw0 : Fld Z h0 kw0 "com/example/fixtures_per_argument/fixturesperargument/engine/ParameterKind" "inArgumentPhases" "Z" (.int (1 : Int32))) (F_inArgumentPhases_kw1 : Fld Z h0 kw1 "com/example/fixtures_per_argument/fixturesperargument/engine/ParameterKind" "inArgumentPhases" "Z" (.int (0 : Int32))) (F_inArgumentPhases_kw2 : Fld Z h0 kw2 "com/example/fixtures_per_argument/fixturesperargument/engine/ParameterKind" "inArgumentPhases" "Z" (.int (1 : Int32))) (F_inArgumentPhases_kw3 : Fld Z h0 kw3 "com/example/fixtures_per_argument/fixturesperargument/engine/ParameterKind" "inArgumentPhases" "Z" (.int (0 : Int32))) : Fld Z h0 (f_kindOf sw0 sw1 sw2 sw3 sw4 sw5 sw6 kw0 kw1 kw2 kw3 k) "com/example/fixtures_per_argument/fixturesperargument/engine/ParameterKind" "inArgumentPhases" "Z" (.int (own_ina k)) := by
  rcases hk with rfl | rfl | rfl | rfl <;> simpa [f_kindOf, own_ina]
theorem own_fc {Z : State} {h0 : Heap} {sw0 sw1 sw2 sw3 sw4 sw5 sw6 kw0 kw1 kw2 kw3 : Addr} {k : Int32} (hk : k = (0 : Int32) ∨ k = (1 : Int32) ∨ k = (2 : Int32) ∨ k = (3 : Int32)) (F_inClassPhases_kw0 : Fld Z h0 kw0 "com/example/fixtures_per_argument/fixturesperargument/engine/ParameterKind" "inClassPhases" "Z" (.int (0 : Int32))) (F_inClassPhases_kw1 : Fld Z h0 kw1 "com/example/fixtures_per_argument/fixturesperargument/engine/ParameterKind" "inClassPhases" "Z" (.int (1 : Int32))) (F_inClassPhases_kw2 : Fld Z h0 kw2 "com/example/fixtures_per_argument/fixturesperargument/engine/ParameterKind" "inClassPhases" "Z" (.int (0 : Int32))) (F_inClassPhases_kw3 : Fld Z h0 kw3 "com/example/fixtures_per_argument/fixturesperargument/engine/ParameterKind" "inClassPhases" "Z" (.int (0 : Int32))) : Fld Z h0 (f_kindOf sw0 sw1 sw2 sw3 sw4 sw5 sw6 kw0 kw1 kw2 kw3 k) "com/example/fixtures_per_argument/fixturesperargument/engine/ParameterKind" "inClassPhases" "Z" (.int (own_inc k)) := by
  rcases hk with rfl | rfl | rfl | rfl <;> simpa [f_kindOf, own_inc]
def v_qi (p1 : Int32) : Int32 := (p1 &&& (3 : Int32))
def v_qj (p1 : Int32) : Int32 := ((p1 &&& (2147483647 : Int32)) - ((p1 &&& (2147483647 : Int32)) / (7 : Int32)) * (7 : Int32))
def v_i (p1 : Int32) : Int32 := (p1 &&& (3 : Int32))
def v_j (p2 : Int32) : Int32 := ((p2 &&& (2147483647 : Int32)) - ((p2 &&& (2147483647 : Int32)) / (7 : Int32)) * (7 : Int32))
def m_law_0 (p2 : Int32) : Int32 := (if (v_j p2) = (0 : Int32) then (1 : Int32) else (if (v_j p2) = (6 : Int32) then (1 : Int32) else (0 : Int32)))
def m_law_1 (p1 : Int32) (p2 : Int32) : Int32 := (if (v_i p1) = (1 : Int32) then (m_law_0 p2) else (if (v_i p1) = (3 : Int32) then (0 : Int32) else (if (m_law_0 p2) = (0 : Int32) then (1 : Int32) else (0 : Int32))))
def lawP (sw0 : Addr) (sw1 : Addr) (sw2 : Addr) (sw3 : Addr) (sw4 : Addr) (sw5 : Addr) (sw6 : Addr) (kw0 : Addr) (kw1 : Addr) (kw2 : Addr) (kw3 : Addr) (p1 : Int32) (p2 : Int32) : Prop := (((f_isAllowedIn sw0 sw1 sw2 sw3 sw4 sw5 sw6 kw0 kw1 kw2 kw3 (f_kindOf sw0 sw1 sw2 sw3 sw4 sw5 sw6 kw0 kw1 kw2 kw3 (v_i p1)) (f_phaseOf sw0 sw1 sw2 sw3 sw4 sw5 sw6 kw0 kw1 kw2 kw3 (v_j p2)) (own_per (v_j p2)) (own_ina (v_i p1)) (own_inc (v_i p1))) = (m_law_1 p1 p2)) ∧ True)
set_option maxRecDepth 65536 in
set_option maxHeartbeats 40000000 in
theorem rm_law (l : Launch) (Z : State) (a0 : Array Value) (hw : ∀ d ∈ tables_1, d.before a0 Z = true) (ws : List Jvm.Cond) (sw0 : Addr) (sw1 : Addr) (sw2 : Addr) (sw3 : Addr) (sw4 : Addr) (sw5 : Addr) (sw6 : Addr) (kw0 : Addr) (kw1 : Addr) (kw2 : Addr) (kw3 : Addr) (p1 : Int32) (p2 : Int32) (h0 : Heap) (n0 : Nat) (Z0 : n0 ≤ h0.size) (S_sw0 : Sta Z h0 "com/example/fixtures_per_argument/fixturesperargument/engine/Phase" "PREPARE" "Lcom/example/fixtures_per_argument/fixturesperargument/engine/Phase;" (.ref sw0)) (S_sw1 : Sta Z h0 "com/example/fixtures_per_argument/fixturesperargument/engine/Phase" "BEFORE_ALL" "Lcom/example/fixtures_per_argument/fixturesperargument/engine/Phase;" (.ref sw1)) (S_sw2 : Sta Z h0 "com/example/fixtures_per_argument/fixturesperargument/engine/Phase" "BEFORE_EACH" "Lcom/example/fixtures_per_argument/fixturesperargument/engine/Phase;" (.ref sw2)) (S_sw3 : Sta Z h0 "com/example/fixtures_per_argument/fixturesperargument/engine/Phase" "TEST" "Lcom/example/fixtures_per_argument/fixturesperargument/engine/Phase;" (.ref sw3)) (S_sw4 : Sta Z h0 "com/example/fixtures_per_argument/fixturesperargument/engine/Phase" "AFTER_EACH" "Lcom/example/fixtures_per_argument/fixturesperargument/engine/Phase;" (.ref sw4)) (S_sw5 : Sta Z h0 "com/example/fixtures_per_argument/fixturesperargument/engine/Phase" "AFTER_ALL" "Lcom/example/fixtures_per_argument/fixturesperargument/engine/Phase;" (.ref sw5)) (S_sw6 : Sta Z h0 "com/example/fixtures_per_argument/fixturesperargument/engine/Phase" "CONCLUDE" "Lcom/example/fixtures_per_argument/fixturesperargument/engine/Phase;" (.ref sw6)) (S_kw0 : Sta Z h0 "com/example/fixtures_per_argument/fixturesperargument/engine/ParameterKind" "PAYLOAD" "Lcom/example/fixtures_per_argument/fixturesperargument/engine/ParameterKind;" (.ref kw0)) (S_kw1 : Sta Z h0 "com/example/fixtures_per_argument/fixturesperargument/engine/ParameterKind" "CLASS_CONTEXT" "Lcom/example/fixtures_per_argument/fixturesperargument/engine/ParameterKind;" (.ref kw1)) (S_kw2 : Sta Z h0 "com/example/fixtures_per_argument/fixturesperargument/engine/ParameterKind" "ARGUMENT_CONTEXT" "Lcom/example/fixtures_per_argument/fixturesperargument/engine/ParameterKind;" (.ref kw2)) (S_kw3 : Sta Z h0 "com/example/fixtures_per_argument/fixturesperargument/engine/ParameterKind" "ENGINE_CONTEXT" "Lcom/example/fixtures_per_argument/fixturesperargument/engine/ParameterKind;" (.ref kw3)) (hi : v_qi p1 = (0 : Int32) ∨ v_qi p1 = (1 : Int32) ∨ v_qi p1 = (2 : Int32) ∨ v_qi p1 = (3 : Int32)) (hj : v_qj p2 = (0 : Int32) ∨ v_qj p2 = (1 : Int32) ∨ v_qj p2 = (2 : Int32) ∨ v_qj p2 = (3 : Int32) ∨ v_qj p2 = (4 : Int32) ∨ v_qj p2 = (5 : Int32) ∨ v_qj p2 = (6 : Int32)) (E_sw0 : Exa Z h0 sw0 "com/example/fixtures_per_argument/fixturesperargument/engine/Phase") (E_sw1 : Exa Z h0 sw1 "com/example/fixtures_per_argument/fixturesperargument/engine/Phase") (E_sw2 : Exa Z h0 sw2 "com/example/fixtures_per_argument/fixturesperargument/engine/Phase") (E_sw3 : Exa Z h0 sw3 "com/example/fixtures_per_argument/fixturesperargument/engine/Phase") (E_sw4 : Exa Z h0 sw4 "com/example/fixtures_per_argument/fixturesperargument/engine/Phase") (E_sw5 : Exa Z h0 sw5 "com/example/fixtures_per_argument/fixturesperargument/engine/Phase") (E_sw6 : Exa Z h0 sw6 "com/example/fixtures_per_argument/fixturesperargument/engine/Phase") (E_kw0 : Exa Z h0 kw0 "com/example/fixtures_per_argument/fixturesperargument/engine/ParameterKind") (E_kw1 : Exa Z h0 kw1 "com/example/fixtures_per_argument/fixturesperargument/engine/ParameterKind") (E_kw2 : Exa Z h0 kw2 "com/example/fixtures_per_argument/fixturesperargument/engine/ParameterKind") (E_kw3 : Exa Z h0 kw3 "com/example/fixtures_per_argument/fixturesperargument/engine/ParameterKind") (F_perArgument_sw0 : Fld Z h0 sw0 "com/example/fixtures_per_argument/fixturesperargument/engine/Phase" "perArgument" "Z" (.int (0 : Int32))) (F_perArgument_sw1 : Fld Z h0 sw1 "com/example/fixtures_per_argument/fixturesperargument/engine/Phase" "perArgument" "Z" (.int (1 : Int32))) (F_perArgument_sw2 : Fld Z h0 sw2 "com/example/fixtures_per_argument/fixturesperargument/engine/Phase" "perArgument" "Z" (.int (1 : Int32))) (F_perArgument_sw3 : Fld Z h0 sw3 "com/example/fixtures_per_argument/fixturesperargument/engine/Phase" "perArgument" "Z" (.int (1 : Int32))) (F_perArgument_sw4 : Fld Z h0 sw4 "com/example/fixtures_per_argument/fixturesperargument/engine/Phase" "perArgument" "Z" (.int (1 : Int32))) (F_perArgument_sw5 : Fld Z h0 sw5 "com/example/fixtures_per_argument/fixturesperargument/engine/Phase" "perArgument" "Z" (.int (1 : Int32))) (F_perArgument_sw6 : Fld Z h0 sw6 "com/example/fixtures_per_argument/fixturesperargument/engine/Phase" "perArgument" "Z" (.int (0 : Int32))) (F_inArgumentPhases_kw0 : Fld Z h0 kw0 "com/example/fixtures_per_argument/fixturesperargument/engine/ParameterKind" "inArgumentPhases" "Z" (.int (1 : Int32))) (F_inArgumentPhases_kw1 : Fld Z h0 kw1 "com/example/fixtures_per_argument/fixturesperargument/engine/ParameterKind" "inArgumentPhases" "Z" (.int (0 : Int32))) (F_inArgumentPhases_kw2 : Fld Z h0 kw2 "com/example/fixtures_per_argument/fixturesperargument/engine/ParameterKind" "inArgumentPhases" "Z" (.int (1 : Int32))) (F_inArgumentPhases_kw3 : Fld Z h0 kw3 "com/example/fixtures_per_argument/fixturesperargument/engine/ParameterKind" "inArgumentPhases" "Z" (.int (0 : Int32))) (F_inClassPhases_kw0 : Fld Z h0 kw0 "com/example/fixtures_per_argument/fixturesperargument/engine/ParameterKind" "inClassPhases" "Z" (.int (0 : Int32))) (F_inClassPhases_kw1 : Fld Z h0 kw1 "com/example/fixtures_per_argument/fixturesperargument/engine/ParameterKind" "inClassPhases" "Z" (.int (1 : Int32))) (F_inClassPhases_kw2 : Fld Z h0 kw2 "com/example/fixtures_per_argument/fixturesperargument/engine/ParameterKind" "inClassPhases" "Z" (.int (0 : Int32))) (F_inClassPhases_kw3 : Fld Z h0 kw3 "com/example/fixtures_per_argument/fixturesperargument/engine/ParameterKind" "inClassPhases" "Z" (.int (0 : Int32))) (hp : lawP sw0 sw1 sw2 sw3 sw4 sw5 sw6 kw0 kw1 kw2 kw3 p1 p2) :
    MetFree l x (head1 (Jvm.Cond.code x code maxLocals ret :: ws) room_1) (fun a U => a = #[(.int p1), (.int p2)] ∧ Z.Warmed39 U.vm ∧ U.heap = h0) (fun _ _ _ _ _ => True) (fun _ U o U' => ∃ v L, o = .returned v ∧ LawQ n0 v U'.heap L ∧ FrameEnd U o U' L room_1.cells room_1.slots) := by
  refine MetFree.of_bodySF (plainFor_of_name pn_ParameterKindIsAllowedInPinLaw) hisR ?_
  intro p e s m args below meth c s₁ Bd hml0 hP hK
  obtain ⟨rfl, hZ, hh⟩ := hP
  have hx := Bd.exec
  have hby := Bd.bytes
  have hml : c.maxLocals = 8 := hml0
  have hown : s.vm.findClass "com/example/fixtures_per_argument/fixturesperargument/engine/ParameterKindIsAllowedInPinLaw" = some m.cls := findClass_of_methodNamed Bd.named
  have hnm := (name_of_methodNamed Bd.named Bd.method).1
  have X0 : Stand p l e room_1 s m #[(.int p1), (.int p2)] below meth c s₁ [] 0 0 := Stand.of_body Bd
  have e0 : s₁.heap = h0 := by rw [← hh, Bd.state]; rfl
  have N0 := Fr.nil n0
  have pre0 : ∀ t, Steps p.tables e below (s₁.setTop (mkF m 0 #[.val (.int p1), .val (.int p2), .unset, .unset, .unset, .unset, .unset, .unset] [])) t → Steps p.tables e below (s₁.setTop (entryFrame m #[(.int p1), (.int p2)] maxLocals)) t := fun t k => castTop (ef_law m p1 p2) k
  unfold lawP at hp
  obtain ⟨_, _, ⟨T1, L1, k1, n1⟩, -, X1, ⟨Lc1, hQ1, l1, y1, z1⟩, st1⟩ := Jvm.LawKit.callS X0 hx (y := (⟨"com/example/fixtures_per_argument/fixturesperargument/engine/ParameterKindIsAllowedInPinLaw", "kindOf", "(I)Lcom/example/fixtures_per_argument/fixturesperargument/engine/ParameterKind;"⟩ : MethodName)) hown (mvT hZ (hw _ (List.mem_of_getElem? (i := 1) rfl))) (mvT hZ (hw _ (List.mem_of_getElem? (i := 2) rfl))) (mvT hZ (hw _ (List.mem_of_getElem? (i := 3) rfl))) (mvT hZ (hw _ (List.mem_of_getElem? (i := 4) rfl))) (by decide) (backOf (W := 0) (rm_kindOf l Z a0 hw [] sw0 sw1 sw2 sw3 sw4 sw5 sw6 kw0 kw1 kw2 kw3 (v_i p1) h0 n0 Z0 S_sw0 S_sw1 S_sw2 S_sw3 S_sw4 S_sw5 S_sw6 S_kw0 S_kw1 S_kw2 S_kw3) hZ (hw _ (List.mem_of_getElem? (i := 4) rfl)) (hw _ (List.mem_of_getElem? (i := 3) rfl)) (by decide) (by decide)) (g := (mkF m 13 #[.val (.int p1), .val (.int p2), .val (.int (v_i p1)), .val (.int (v_j p2)), .unset, .unset, .unset, .unset] [(.int (v_i p1))])) rfl (by rw [hml]; rfl) (argsL := [(.int (v_i p1))]) (rest := []) (lenOf pd_ixturesperargument_engine_ParameterKind__79 rfl) rfl (by show 2 * 0 + _ ≤ _; exact Nat.le_of_eq rfl) (hb hby at_13) (fun _ _ => ⟨rfl, e0, (by decide : 0 + 0 ≤ _), (by decide : 0 + 0 ≤ _)⟩)
  dsimp only [Pt.U, Pt.locs, Pt.cells, Pt.slots] at X1 l1 y1 z1 st1 hQ1
  subst l1 y1 z1
  obtain ⟨rfl, N1q, e1⟩ := hQ1
  have N1 := Fr.app N0 N1q
  obtain ⟨_, _, ⟨T2, L2, k2, n2⟩, -, X2, ⟨Lc2, hQ2, l2, y2, z2⟩, st2⟩ := Jvm.LawKit.callS X1 hx (y := (⟨"com/example/fixtures_per_argument/fixturesperargument/engine/ParameterKindIsAllowedInPinLaw", "phaseOf", "(I)Lcom/example/fixtures_per_argument/fixturesperargument/engine/Phase;"⟩ : MethodName)) hown (mvT hZ (hw _ (List.mem_of_getElem? (i := 8) rfl))) (mvT hZ (hw _ (List.mem_of_getElem? (i := 9) rfl))) (mvT hZ (hw _ (List.mem_of_getElem? (i := 3) rfl))) (mvT hZ (hw _ (List.mem_of_getElem? (i := 10) rfl))) (by decide) (backOf (W := 0) (rm_phaseOf l Z a0 hw [] sw0 sw1 sw2 sw3 sw4 sw5 sw6 kw0 kw1 kw2 kw3 (v_j p2) h0 n0 Z0 S_sw0 S_sw1 S_sw2 S_sw3 S_sw4 S_sw5 S_sw6 S_kw0 S_kw1 S_kw2 S_kw3) hZ (hw _ (List.mem_of_getElem? (i := 10) rfl)) (hw _ (List.mem_of_getElem? (i := 3) rfl)) (by decide) (by decide)) (g := (mkF m 19 #[.val (.int p1), .val (.int p2), .val (.int (v_i p1)), .val (.int (v_j p2)), .val (.ref (f_kindOf sw0 sw1 sw2 sw3 sw4 sw5 sw6 kw0 kw1 kw2 kw3 (v_i p1))), .unset, .unset, .unset] [(.int (v_j p2))])) rfl (by rw [hml]; rfl) (argsL := [(.int (v_j p2))]) (rest := []) (lenOf pd_gument_fixturesperargument_engine_Phase__71 rfl) rfl (by show 2 * 0 + _ ≤ _; exact Nat.le_of_eq rfl) (hb hby at_19) (fun _ _ => ⟨rfl, e1, (by decide : 0 + 0 ≤ _), (by decide : 0 + 0 ≤ _)⟩)
  dsimp only [Pt.U, Pt.locs, Pt.cells, Pt.slots] at X2 l2 y2 z2 st2 hQ2
  subst l2 y2 z2
  obtain ⟨rfl, N2q, e2⟩ := hQ2
  have N2 := Fr.app N1 N2q
  have pre3 : ∀ t, Steps p.tables e below (T2.setTop (mkF m 24 #[.val (.int p1), .val (.int p2), .val (.int (v_i p1)), .val (.int (v_j p2)), .val (.ref (f_kindOf sw0 sw1 sw2 sw3 sw4 sw5 sw6 kw0 kw1 kw2 kw3 (v_i p1))), .val (.ref (f_phaseOf sw0 sw1 sw2 sw3 sw4 sw5 sw6 kw0 kw1 kw2 kw3 (v_j p2))), .unset, .unset] [])) t → Steps p.tables e below (s₁.setTop (entryFrame m #[(.int p1), (.int p2)] maxLocals)) t := fun t k => pre0 t (by
      show Steps p.tables e below (s₁.setTop (mkF m 0 #[.val (.int p1), .val (.int p2), .unset, .unset, .unset, .unset, .unset, .unset] [])) _
      refine XS.iloadN X0.here hx rfl (hb hby at_0) rfl ?_
      show Steps p.tables e below (s₁.setTop (mkF m 1 #[.val (.int p1), .val (.int p2), .unset, .unset, .unset, .unset, .unset, .unset] [(.int p1)])) _
      refine XS.iconst X0.here hx rfl (hb hby at_1) ?_
      show Steps p.tables e below (s₁.setTop (mkF m 2 #[.val (.int p1), .val (.int p2), .unset, .unset, .unset, .unset, .unset, .unset] [(.int (3 : Int32)), (.int p1)])) _
      refine XS.iand X0.here hx rfl (hb hby at_2) rfl ?_
      show Steps p.tables e below (s₁.setTop (mkF m 3 #[.val (.int p1), .val (.int p2), .unset, .unset, .unset, .unset, .unset, .unset] [(.int (v_i p1))])) _
      refine XS.istoreN X0.here hx rfl (hb hby at_3) rfl (l' := #[.val (.int p1), .val (.int p2), .val (.int (v_i p1)), .unset, .unset, .unset, .unset, .unset]) rfl ?_
      show Steps p.tables e below (s₁.setTop (mkF m 4 #[.val (.int p1), .val (.int p2), .val (.int (v_i p1)), .unset, .unset, .unset, .unset, .unset] [])) _
      refine XS.iloadN X0.here hx rfl (hb hby at_4) rfl ?_
      show Steps p.tables e below (s₁.setTop (mkF m 5 #[.val (.int p1), .val (.int p2), .val (.int (v_i p1)), .unset, .unset, .unset, .unset, .unset] [(.int p2)])) _
      refine X0.ldcInt hx hown (mvT hZ (hw _ (List.mem_of_getElem? (i := 0) rfl))) (g := (mkF m 5 #[.val (.int p1), .val (.int p2), .val (.int (v_i p1)), .unset, .unset, .unset, .unset, .unset] [(.int p2)])) rfl (hb hby at_5) _ ?_
      show Steps p.tables e below (s₁.setTop (mkF m 7 #[.val (.int p1), .val (.int p2), .val (.int (v_i p1)), .unset, .unset, .unset, .unset, .unset] [(.int (2147483647 : Int32)), (.int p2)])) _
      refine XS.iand X0.here hx rfl (hb hby at_7) rfl ?_
      show Steps p.tables e below (s₁.setTop (mkF m 8 #[.val (.int p1), .val (.int p2), .val (.int (v_i p1)), .unset, .unset, .unset, .unset, .unset] [(.int (p2 &&& (2147483647 : Int32)))])) _
      refine XS.bipush X0.here hx rfl (hb hby at_8) ?_
      show Steps p.tables e below (s₁.setTop (mkF m 10 #[.val (.int p1), .val (.int p2), .val (.int (v_i p1)), .unset, .unset, .unset, .unset, .unset] [(.int (7 : Int32)), (.int (p2 &&& (2147483647 : Int32)))])) _
      refine XS.irem X0.here hx rfl (hb hby at_10) rfl (by decide) ?_
      show Steps p.tables e below (s₁.setTop (mkF m 11 #[.val (.int p1), .val (.int p2), .val (.int (v_i p1)), .unset, .unset, .unset, .unset, .unset] [(.int (v_j p2))])) _
      refine XS.istoreN X0.here hx rfl (hb hby at_11) rfl (l' := #[.val (.int p1), .val (.int p2), .val (.int (v_i p1)), .val (.int (v_j p2)), .unset, .unset, .unset, .unset]) rfl ?_
      show Steps p.tables e below (s₁.setTop (mkF m 12 #[.val (.int p1), .val (.int p2), .val (.int (v_i p1)), .val (.int (v_j p2)), .unset, .unset, .unset, .unset] [])) _
      refine XS.iloadN X0.here hx rfl (hb hby at_12) rfl ?_
      show Steps p.tables e below (s₁.setTop (mkF m 13 #[.val (.int p1), .val (.int p2), .val (.int (v_i p1)), .val (.int (v_j p2)), .unset, .unset, .unset, .unset] [(.int (v_i p1))])) _
      refine st1 _ ?_
      show Steps p.tables e below (T1.setTop (mkF m 16 #[.val (.int p1), .val (.int p2), .val (.int (v_i p1)), .val (.int (v_j p2)), .unset, .unset, .unset, .unset] [(.ref (f_kindOf sw0 sw1 sw2 sw3 sw4 sw5 sw6 kw0 kw1 kw2 kw3 (v_i p1)))])) _
      refine XS.astore X1.here hx rfl (hb hby at_16) rfl rfl (l' := #[.val (.int p1), .val (.int p2), .val (.int (v_i p1)), .val (.int (v_j p2)), .val (.ref (f_kindOf sw0 sw1 sw2 sw3 sw4 sw5 sw6 kw0 kw1 kw2 kw3 (v_i p1))), .unset, .unset, .unset]) rfl ?_
      show Steps p.tables e below (T1.setTop (mkF m 18 #[.val (.int p1), .val (.int p2), .val (.int (v_i p1)), .val (.int (v_j p2)), .val (.ref (f_kindOf sw0 sw1 sw2 sw3 sw4 sw5 sw6 kw0 kw1 kw2 kw3 (v_i p1))), .unset, .unset, .unset] [])) _
      refine XS.iloadN X1.here hx rfl (hb hby at_18) rfl ?_
      show Steps p.tables e below (T1.setTop (mkF m 19 #[.val (.int p1), .val (.int p2), .val (.int (v_i p1)), .val (.int (v_j p2)), .val (.ref (f_kindOf sw0 sw1 sw2 sw3 sw4 sw5 sw6 kw0 kw1 kw2 kw3 (v_i p1))), .unset, .unset, .unset] [(.int (v_j p2))])) _
      refine st2 _ ?_
      show Steps p.tables e below (T2.setTop (mkF m 22 #[.val (.int p1), .val (.int p2), .val (.int (v_i p1)), .val (.int (v_j p2)), .val (.ref (f_kindOf sw0 sw1 sw2 sw3 sw4 sw5 sw6 kw0 kw1 kw2 kw3 (v_i p1))), .unset, .unset, .unset] [(.ref (f_phaseOf sw0 sw1 sw2 sw3 sw4 sw5 sw6 kw0 kw1 kw2 kw3 (v_j p2)))])) _
      refine XS.astore X2.here hx rfl (hb hby at_22) rfl rfl (l' := #[.val (.int p1), .val (.int p2), .val (.int (v_i p1)), .val (.int (v_j p2)), .val (.ref (f_kindOf sw0 sw1 sw2 sw3 sw4 sw5 sw6 kw0 kw1 kw2 kw3 (v_i p1))), .val (.ref (f_phaseOf sw0 sw1 sw2 sw3 sw4 sw5 sw6 kw0 kw1 kw2 kw3 (v_j p2))), .unset, .unset]) rfl ?_
      exact k)
  obtain ⟨T4, L4, X4, e4, N4, pre4⟩ : ∃ (T' : State) (L' : List Loc), Stand p l e room_1 s m #[(.int p1), (.int p2)] below meth c T' L' 0 0 ∧ T'.heap = h0 ∧ Fr n0 L' ∧ ∀ t, Steps p.tables e below (T'.setTop (mkF m 39 #[.val (.int p1), .val (.int p2), .val (.int (v_i p1)), .val (.int (v_j p2)), .val (.ref (f_kindOf sw0 sw1 sw2 sw3 sw4 sw5 sw6 kw0 kw1 kw2 kw3 (v_i p1))), .val (.ref (f_phaseOf sw0 sw1 sw2 sw3 sw4 sw5 sw6 kw0 kw1 kw2 kw3 (v_j p2))), .unset, .unset] [(.int (m_law_0 p2))])) t → Steps p.tables e below (s₁.setTop (entryFrame m #[(.int p1), (.int p2)] maxLocals)) t := by
    have pre5 : ∀ t, Steps p.tables e below (T2.setTop (mkF m 25 #[.val (.int p1), .val (.int p2), .val (.int (v_i p1)), .val (.int (v_j p2)), .val (.ref (f_kindOf sw0 sw1 sw2 sw3 sw4 sw5 sw6 kw0 kw1 kw2 kw3 (v_i p1))), .val (.ref (f_phaseOf sw0 sw1 sw2 sw3 sw4 sw5 sw6 kw0 kw1 kw2 kw3 (v_j p2))), .unset, .unset] [(.int (v_j p2))])) t → Steps p.tables e below (s₁.setTop (entryFrame m #[(.int p1), (.int p2)] maxLocals)) t := fun t k => pre3 t (by
        show Steps p.tables e below (T2.setTop (mkF m 24 #[.val (.int p1), .val (.int p2), .val (.int (v_i p1)), .val (.int (v_j p2)), .val (.ref (f_kindOf sw0 sw1 sw2 sw3 sw4 sw5 sw6 kw0 kw1 kw2 kw3 (v_i p1))), .val (.ref (f_phaseOf sw0 sw1 sw2 sw3 sw4 sw5 sw6 kw0 kw1 kw2 kw3 (v_j p2))), .unset, .unset] [])) _
        refine XS.iloadN X2.here hx rfl (hb hby at_24) rfl ?_
        exact k)
    by_cases g6 : (v_j p2) = (0 : Int32)
    · skip
      simp only [m_law_0, if_pos g6]
      exact ⟨T2, _, X2, e2, N2, fun t k => pre5 t (by
          show Steps p.tables e below (T2.setTop (mkF m 25 #[.val (.int p1), .val (.int p2), .val (.int (v_i p1)), .val (.int (v_j p2)), .val (.ref (f_kindOf sw0 sw1 sw2 sw3 sw4 sw5 sw6 kw0 kw1 kw2 kw3 (v_i p1))), .val (.ref (f_phaseOf sw0 sw1 sw2 sw3 sw4 sw5 sw6 kw0 kw1 kw2 kw3 (v_j p2))), .unset, .unset] [(.int (v_j p2))])) _
          refine XS.ifYes X2.here hx rfl (pc0 := 25) (pc' := 34) rfl (hb hby at_25) rfl ((if0 _ _).trans (teq g6).1) (by decide) (by decide) ?_
          show Steps p.tables e below (T2.setTop (mkF m 34 #[.val (.int p1), .val (.int p2), .val (.int (v_i p1)), .val (.int (v_j p2)), .val (.ref (f_kindOf sw0 sw1 sw2 sw3 sw4 sw5 sw6 kw0 kw1 kw2 kw3 (v_i p1))), .val (.ref (f_phaseOf sw0 sw1 sw2 sw3 sw4 sw5 sw6 kw0 kw1 kw2 kw3 (v_j p2))), .unset, .unset] [])) _
          refine XS.iconst X2.here hx rfl (hb hby at_34) ?_
          show Steps p.tables e below (T2.setTop (mkF m 35 #[.val (.int p1), .val (.int p2), .val (.int (v_i p1)), .val (.int (v_j p2)), .val (.ref (f_kindOf sw0 sw1 sw2 sw3 sw4 sw5 sw6 kw0 kw1 kw2 kw3 (v_i p1))), .val (.ref (f_phaseOf sw0 sw1 sw2 sw3 sw4 sw5 sw6 kw0 kw1 kw2 kw3 (v_j p2))), .unset, .unset] [(.int (1 : Int32))])) _
          refine XS.goto X2.here hx rfl (pc0 := 35) (pc' := 39) rfl (hb hby at_35) (by decide) (by decide) ?_
          exact k)⟩
    · skip
      have pre7 : ∀ t, Steps p.tables e below (T2.setTop (mkF m 31 #[.val (.int p1), .val (.int p2), .val (.int (v_i p1)), .val (.int (v_j p2)), .val (.ref (f_kindOf sw0 sw1 sw2 sw3 sw4 sw5 sw6 kw0 kw1 kw2 kw3 (v_i p1))), .val (.ref (f_phaseOf sw0 sw1 sw2 sw3 sw4 sw5 sw6 kw0 kw1 kw2 kw3 (v_j p2))), .unset, .unset] [(.int (6 : Int32)), (.int (v_j p2))])) t → Steps p.tables e below (s₁.setTop (entryFrame m #[(.int p1), (.int p2)] maxLocals)) t := fun t k => pre5 t (by
          show Steps p.tables e below (T2.setTop (mkF m 25 #[.val (.int p1), .val (.int p2), .val (.int (v_i p1)), .val (.int (v_j p2)), .val (.ref (f_kindOf sw0 sw1 sw2 sw3 sw4 sw5 sw6 kw0 kw1 kw2 kw3 (v_i p1))), .val (.ref (f_phaseOf sw0 sw1 sw2 sw3 sw4 sw5 sw6 kw0 kw1 kw2 kw3 (v_j p2))), .unset, .unset] [(.int (v_j p2))])) _
          refine XS.ifNo X2.here hx rfl (hb hby at_25) rfl ((if0 _ _).trans (feq g6).1) ?_
          show Steps p.tables e below (T2.setTop (mkF m 28 #[.val (.int p1), .val (.int p2), .val (.int (v_i p1)), .val (.int (v_j p2)), .val (.ref (f_kindOf sw0 sw1 sw2 sw3 sw4 sw5 sw6 kw0 kw1 kw2 kw3 (v_i p1))), .val (.ref (f_phaseOf sw0 sw1 sw2 sw3 sw4 sw5 sw6 kw0 kw1 kw2 kw3 (v_j p2))), .unset, .unset] [])) _
          refine XS.iloadN X2.here hx rfl (hb hby at_28) rfl ?_
          show Steps p.tables e below (T2.setTop (mkF m 29 #[.val (.int p1), .val (.int p2), .val (.int (v_i p1)), .val (.int (v_j p2)), .val (.ref (f_kindOf sw0 sw1 sw2 sw3 sw4 sw5 sw6 kw0 kw1 kw2 kw3 (v_i p1))), .val (.ref (f_phaseOf sw0 sw1 sw2 sw3 sw4 sw5 sw6 kw0 kw1 kw2 kw3 (v_j p2))), .unset, .unset] [(.int (v_j p2))])) _
          refine XS.bipush X2.here hx rfl (hb hby at_29) ?_
          exact k)
      by_cases g8 : (v_j p2) = (6 : Int32)
      · skip
        simp only [m_law_0, if_neg g6, if_pos g8]
        exact ⟨T2, _, X2, e2, N2, fun t k => pre7 t (by
            show Steps p.tables e below (T2.setTop (mkF m 31 #[.val (.int p1), .val (.int p2), .val (.int (v_i p1)), .val (.int (v_j p2)), .val (.ref (f_kindOf sw0 sw1 sw2 sw3 sw4 sw5 sw6 kw0 kw1 kw2 kw3 (v_i p1))), .val (.ref (f_phaseOf sw0 sw1 sw2 sw3 sw4 sw5 sw6 kw0 kw1 kw2 kw3 (v_j p2))), .unset, .unset] [(.int (6 : Int32)), (.int (v_j p2))])) _
            refine XS.icmpNo X2.here hx rfl (hb hby at_31) rfl (teq g8).2 ?_
            show Steps p.tables e below (T2.setTop (mkF m 34 #[.val (.int p1), .val (.int p2), .val (.int (v_i p1)), .val (.int (v_j p2)), .val (.ref (f_kindOf sw0 sw1 sw2 sw3 sw4 sw5 sw6 kw0 kw1 kw2 kw3 (v_i p1))), .val (.ref (f_phaseOf sw0 sw1 sw2 sw3 sw4 sw5 sw6 kw0 kw1 kw2 kw3 (v_j p2))), .unset, .unset] [])) _
            refine XS.iconst X2.here hx rfl (hb hby at_34) ?_
            show Steps p.tables e below (T2.setTop (mkF m 35 #[.val (.int p1), .val (.int p2), .val (.int (v_i p1)), .val (.int (v_j p2)), .val (.ref (f_kindOf sw0 sw1 sw2 sw3 sw4 sw5 sw6 kw0 kw1 kw2 kw3 (v_i p1))), .val (.ref (f_phaseOf sw0 sw1 sw2 sw3 sw4 sw5 sw6 kw0 kw1 kw2 kw3 (v_j p2))), .unset, .unset] [(.int (1 : Int32))])) _
            refine XS.goto X2.here hx rfl (pc0 := 35) (pc' := 39) rfl (hb hby at_35) (by decide) (by decide) ?_
            exact k)⟩
      · skip
        simp only [m_law_0, if_neg g6, if_neg g8]
        exact ⟨T2, _, X2, e2, N2, fun t k => pre7 t (by
            show Steps p.tables e below (T2.setTop (mkF m 31 #[.val (.int p1), .val (.int p2), .val (.int (v_i p1)), .val (.int (v_j p2)), .val (.ref (f_kindOf sw0 sw1 sw2 sw3 sw4 sw5 sw6 kw0 kw1 kw2 kw3 (v_i p1))), .val (.ref (f_phaseOf sw0 sw1 sw2 sw3 sw4 sw5 sw6 kw0 kw1 kw2 kw3 (v_j p2))), .unset, .unset] [(.int (6 : Int32)), (.int (v_j p2))])) _
            refine XS.icmpYes X2.here hx rfl (pc0 := 31) (pc' := 38) rfl (hb hby at_31) rfl (feq g8).2 (by decide) (by decide) ?_
            show Steps p.tables e below (T2.setTop (mkF m 38 #[.val (.int p1), .val (.int p2), .val (.int (v_i p1)), .val (.int (v_j p2)), .val (.ref (f_kindOf sw0 sw1 sw2 sw3 sw4 sw5 sw6 kw0 kw1 kw2 kw3 (v_i p1))), .val (.ref (f_phaseOf sw0 sw1 sw2 sw3 sw4 sw5 sw6 kw0 kw1 kw2 kw3 (v_j p2))), .unset, .unset] [])) _
            refine XS.iconst X2.here hx rfl (hb hby at_38) ?_
            exact k)⟩
  have pre9 : ∀ t, Steps p.tables e below (T4.setTop (mkF m 41 #[.val (.int p1), .val (.int p2), .val (.int (v_i p1)), .val (.int (v_j p2)), .val (.ref (f_kindOf sw0 sw1 sw2 sw3 sw4 sw5 sw6 kw0 kw1 kw2 kw3 (v_i p1))), .val (.ref (f_phaseOf sw0 sw1 sw2 sw3 sw4 sw5 sw6 kw0 kw1 kw2 kw3 (v_j p2))), .val (.int (m_law_0 p2)), .unset] [])) t → Steps p.tables e below (s₁.setTop (entryFrame m #[(.int p1), (.int p2)] maxLocals)) t := fun t k => pre4 t (by
      show Steps p.tables e below (T4.setTop (mkF m 39 #[.val (.int p1), .val (.int p2), .val (.int (v_i p1)), .val (.int (v_j p2)), .val (.ref (f_kindOf sw0 sw1 sw2 sw3 sw4 sw5 sw6 kw0 kw1 kw2 kw3 (v_i p1))), .val (.ref (f_phaseOf sw0 sw1 sw2 sw3 sw4 sw5 sw6 kw0 kw1 kw2 kw3 (v_j p2))), .unset, .unset] [(.int (m_law_0 p2))])) _
      refine XS.istore X4.here hx rfl (hb hby at_39) rfl (l' := #[.val (.int p1), .val (.int p2), .val (.int (v_i p1)), .val (.int (v_j p2)), .val (.ref (f_kindOf sw0 sw1 sw2 sw3 sw4 sw5 sw6 kw0 kw1 kw2 kw3 (v_i p1))), .val (.ref (f_phaseOf sw0 sw1 sw2 sw3 sw4 sw5 sw6 kw0 kw1 kw2 kw3 (v_j p2))), .val (.int (m_law_0 p2)), .unset]) rfl ?_
      exact k)
  obtain ⟨T10, L10, X10, e10, N10, pre10⟩ : ∃ (T' : State) (L' : List Loc), Stand p l e room_1 s m #[(.int p1), (.int p2)] below meth c T' L' 0 0 ∧ T'.heap = h0 ∧ Fr n0 L' ∧ ∀ t, Steps p.tables e below (T'.setTop (mkF m 76 #[.val (.int p1), .val (.int p2), .val (.int (v_i p1)), .val (.int (v_j p2)), .val (.ref (f_kindOf sw0 sw1 sw2 sw3 sw4 sw5 sw6 kw0 kw1 kw2 kw3 (v_i p1))), .val (.ref (f_phaseOf sw0 sw1 sw2 sw3 sw4 sw5 sw6 kw0 kw1 kw2 kw3 (v_j p2))), .val (.int (m_law_0 p2)), .val (.int (m_law_1 p1 p2))] [])) t → Steps p.tables e below (s₁.setTop (entryFrame m #[(.int p1), (.int p2)] maxLocals)) t := by
    have pre11 : ∀ t, Steps p.tables e below (T4.setTop (mkF m 43 #[.val (.int p1), .val (.int p2), .val (.int (v_i p1)), .val (.int (v_j p2)), .val (.ref (f_kindOf sw0 sw1 sw2 sw3 sw4 sw5 sw6 kw0 kw1 kw2 kw3 (v_i p1))), .val (.ref (f_phaseOf sw0 sw1 sw2 sw3 sw4 sw5 sw6 kw0 kw1 kw2 kw3 (v_j p2))), .val (.int (m_law_0 p2)), .unset] [(.int (1 : Int32)), (.int (v_i p1))])) t → Steps p.tables e below (s₁.setTop (entryFrame m #[(.int p1), (.int p2)] maxLocals)) t := fun t k => pre9 t (by
        show Steps p.tables e below (T4.setTop (mkF m 41 #[.val (.int p1), .val (.int p2), .val (.int (v_i p1)), .val (.int (v_j p2)), .val (.ref (f_kindOf sw0 sw1 sw2 sw3 sw4 sw5 sw6 kw0 kw1 kw2 kw3 (v_i p1))), .val (.ref (f_phaseOf sw0 sw1 sw2 sw3 sw4 sw5 sw6 kw0 kw1 kw2 kw3 (v_j p2))), .val (.int (m_law_0 p2)), .unset] [])) _
        refine XS.iloadN X4.here hx rfl (hb hby at_41) rfl ?_
        show Steps p.tables e below (T4.setTop (mkF m 42 #[.val (.int p1), .val (.int p2), .val (.int (v_i p1)), .val (.int (v_j p2)), .val (.ref (f_kindOf sw0 sw1 sw2 sw3 sw4 sw5 sw6 kw0 kw1 kw2 kw3 (v_i p1))), .val (.ref (f_phaseOf sw0 sw1 sw2 sw3 sw4 sw5 sw6 kw0 kw1 kw2 kw3 (v_j p2))), .val (.int (m_law_0 p2)), .unset] [(.int (v_i p1))])) _
        refine XS.iconst X4.here hx rfl (hb hby at_42) ?_
        exact k)
    by_cases g12 : (v_i p1) = (1 : Int32)
    · skip
      simp only [m_law_1, if_pos g12]
      exact ⟨T4, _, X4, e4, N4, fun t k => pre11 t (by
          show Steps p.tables e below (T4.setTop (mkF m 43 #[.val (.int p1), .val (.int p2), .val (.int (v_i p1)), .val (.int (v_j p2)), .val (.ref (f_kindOf sw0 sw1 sw2 sw3 sw4 sw5 sw6 kw0 kw1 kw2 kw3 (v_i p1))), .val (.ref (f_phaseOf sw0 sw1 sw2 sw3 sw4 sw5 sw6 kw0 kw1 kw2 kw3 (v_j p2))), .val (.int (m_law_0 p2)), .unset] [(.int (1 : Int32)), (.int (v_i p1))])) _
          refine XS.icmpNo X4.here hx rfl (hb hby at_43) rfl (teq g12).2 ?_
          show Steps p.tables e below (T4.setTop (mkF m 46 #[.val (.int p1), .val (.int p2), .val (.int (v_i p1)), .val (.int (v_j p2)), .val (.ref (f_kindOf sw0 sw1 sw2 sw3 sw4 sw5 sw6 kw0 kw1 kw2 kw3 (v_i p1))), .val (.ref (f_phaseOf sw0 sw1 sw2 sw3 sw4 sw5 sw6 kw0 kw1 kw2 kw3 (v_j p2))), .val (.int (m_law_0 p2)), .unset] [])) _
          refine XS.iload X4.here hx rfl (hb hby at_46) rfl ?_
          show Steps p.tables e below (T4.setTop (mkF m 48 #[.val (.int p1), .val (.int p2), .val (.int (v_i p1)), .val (.int (v_j p2)), .val (.ref (f_kindOf sw0 sw1 sw2 sw3 sw4 sw5 sw6 kw0 kw1 kw2 kw3 (v_i p1))), .val (.ref (f_phaseOf sw0 sw1 sw2 sw3 sw4 sw5 sw6 kw0 kw1 kw2 kw3 (v_j p2))), .val (.int (m_law_0 p2)), .unset] [(.int (m_law_0 p2))])) _
          refine XS.istore X4.here hx rfl (hb hby at_48) rfl (l' := #[.val (.int p1), .val (.int p2), .val (.int (v_i p1)), .val (.int (v_j p2)), .val (.ref (f_kindOf sw0 sw1 sw2 sw3 sw4 sw5 sw6 kw0 kw1 kw2 kw3 (v_i p1))), .val (.ref (f_phaseOf sw0 sw1 sw2 sw3 sw4 sw5 sw6 kw0 kw1 kw2 kw3 (v_j p2))), .val (.int (m_law_0 p2)), .val (.int (m_law_0 p2))]) rfl ?_
          show Steps p.tables e below (T4.setTop (mkF m 50 #[.val (.int p1), .val (.int p2), .val (.int (v_i p1)), .val (.int (v_j p2)), .val (.ref (f_kindOf sw0 sw1 sw2 sw3 sw4 sw5 sw6 kw0 kw1 kw2 kw3 (v_i p1))), .val (.ref (f_phaseOf sw0 sw1 sw2 sw3 sw4 sw5 sw6 kw0 kw1 kw2 kw3 (v_j p2))), .val (.int (m_law_0 p2)), .val (.int (m_law_0 p2))] [])) _
          refine XS.goto X4.here hx rfl (pc0 := 50) (pc' := 76) rfl (hb hby at_50) (by decide) (by decide) ?_
          exact k)⟩
    · skip
      have pre13 : ∀ t, Steps p.tables e below (T4.setTop (mkF m 55 #[.val (.int p1), .val (.int p2), .val (.int (v_i p1)), .val (.int (v_j p2)), .val (.ref (f_kindOf sw0 sw1 sw2 sw3 sw4 sw5 sw6 kw0 kw1 kw2 kw3 (v_i p1))), .val (.ref (f_phaseOf sw0 sw1 sw2 sw3 sw4 sw5 sw6 kw0 kw1 kw2 kw3 (v_j p2))), .val (.int (m_law_0 p2)), .unset] [(.int (3 : Int32)), (.int (v_i p1))])) t → Steps p.tables e below (s₁.setTop (entryFrame m #[(.int p1), (.int p2)] maxLocals)) t := fun t k => pre11 t (by
          show Steps p.tables e below (T4.setTop (mkF m 43 #[.val (.int p1), .val (.int p2), .val (.int (v_i p1)), .val (.int (v_j p2)), .val (.ref (f_kindOf sw0 sw1 sw2 sw3 sw4 sw5 sw6 kw0 kw1 kw2 kw3 (v_i p1))), .val (.ref (f_phaseOf sw0 sw1 sw2 sw3 sw4 sw5 sw6 kw0 kw1 kw2 kw3 (v_j p2))), .val (.int (m_law_0 p2)), .unset] [(.int (1 : Int32)), (.int (v_i p1))])) _
          refine XS.icmpYes X4.here hx rfl (pc0 := 43) (pc' := 53) rfl (hb hby at_43) rfl (feq g12).2 (by decide) (by decide) ?_
          show Steps p.tables e below (T4.setTop (mkF m 53 #[.val (.int p1), .val (.int p2), .val (.int (v_i p1)), .val (.int (v_j p2)), .val (.ref (f_kindOf sw0 sw1 sw2 sw3 sw4 sw5 sw6 kw0 kw1 kw2 kw3 (v_i p1))), .val (.ref (f_phaseOf sw0 sw1 sw2 sw3 sw4 sw5 sw6 kw0 kw1 kw2 kw3 (v_j p2))), .val (.int (m_law_0 p2)), .unset] [])) _
          refine XS.iloadN X4.here hx rfl (hb hby at_53) rfl ?_
          show Steps p.tables e below (T4.setTop (mkF m 54 #[.val (.int p1), .val (.int p2), .val (.int (v_i p1)), .val (.int (v_j p2)), .val (.ref (f_kindOf sw0 sw1 sw2 sw3 sw4 sw5 sw6 kw0 kw1 kw2 kw3 (v_i p1))), .val (.ref (f_phaseOf sw0 sw1 sw2 sw3 sw4 sw5 sw6 kw0 kw1 kw2 kw3 (v_j p2))), .val (.int (m_law_0 p2)), .unset] [(.int (v_i p1))])) _
          refine XS.iconst X4.here hx rfl (hb hby at_54) ?_
          exact k)
      by_cases g14 : (v_i p1) = (3 : Int32)
      · skip
        simp only [m_law_1, if_neg g12, if_pos g14]
        exact ⟨T4, _, X4, e4, N4, fun t k => pre13 t (by
            show Steps p.tables e below (T4.setTop (mkF m 55 #[.val (.int p1), .val (.int p2), .val (.int (v_i p1)), .val (.int (v_j p2)), .val (.ref (f_kindOf sw0 sw1 sw2 sw3 sw4 sw5 sw6 kw0 kw1 kw2 kw3 (v_i p1))), .val (.ref (f_phaseOf sw0 sw1 sw2 sw3 sw4 sw5 sw6 kw0 kw1 kw2 kw3 (v_j p2))), .val (.int (m_law_0 p2)), .unset] [(.int (3 : Int32)), (.int (v_i p1))])) _
            refine XS.icmpNo X4.here hx rfl (hb hby at_55) rfl (teq g14).2 ?_
            show Steps p.tables e below (T4.setTop (mkF m 58 #[.val (.int p1), .val (.int p2), .val (.int (v_i p1)), .val (.int (v_j p2)), .val (.ref (f_kindOf sw0 sw1 sw2 sw3 sw4 sw5 sw6 kw0 kw1 kw2 kw3 (v_i p1))), .val (.ref (f_phaseOf sw0 sw1 sw2 sw3 sw4 sw5 sw6 kw0 kw1 kw2 kw3 (v_j p2))), .val (.int (m_law_0 p2)), .unset] [])) _
            refine XS.iconst X4.here hx rfl (hb hby at_58) ?_
            show Steps p.tables e below (T4.setTop (mkF m 59 #[.val (.int p1), .val (.int p2), .val (.int (v_i p1)), .val (.int (v_j p2)), .val (.ref (f_kindOf sw0 sw1 sw2 sw3 sw4 sw5 sw6 kw0 kw1 kw2 kw3 (v_i p1))), .val (.ref (f_phaseOf sw0 sw1 sw2 sw3 sw4 sw5 sw6 kw0 kw1 kw2 kw3 (v_j p2))), .val (.int (m_law_0 p2)), .unset] [(.int (0 : Int32))])) _
            refine XS.istore X4.here hx rfl (hb hby at_59) rfl (l' := #[.val (.int p1), .val (.int p2), .val (.int (v_i p1)), .val (.int (v_j p2)), .val (.ref (f_kindOf sw0 sw1 sw2 sw3 sw4 sw5 sw6 kw0 kw1 kw2 kw3 (v_i p1))), .val (.ref (f_phaseOf sw0 sw1 sw2 sw3 sw4 sw5 sw6 kw0 kw1 kw2 kw3 (v_j p2))), .val (.int (m_law_0 p2)), .val (.int (0 : Int32))]) rfl ?_
            show Steps p.tables e below (T4.setTop (mkF m 61 #[.val (.int p1), .val (.int p2), .val (.int (v_i p1)), .val (.int (v_j p2)), .val (.ref (f_kindOf sw0 sw1 sw2 sw3 sw4 sw5 sw6 kw0 kw1 kw2 kw3 (v_i p1))), .val (.ref (f_phaseOf sw0 sw1 sw2 sw3 sw4 sw5 sw6 kw0 kw1 kw2 kw3 (v_j p2))), .val (.int (m_law_0 p2)), .val (.int (0 : Int32))] [])) _
            refine XS.goto X4.here hx rfl (pc0 := 61) (pc' := 76) rfl (hb hby at_61) (by decide) (by decide) ?_
            exact k)⟩
      · skip
        have pre15 : ∀ t, Steps p.tables e below (T4.setTop (mkF m 66 #[.val (.int p1), .val (.int p2), .val (.int (v_i p1)), .val (.int (v_j p2)), .val (.ref (f_kindOf sw0 sw1 sw2 sw3 sw4 sw5 sw6 kw0 kw1 kw2 kw3 (v_i p1))), .val (.ref (f_phaseOf sw0 sw1 sw2 sw3 sw4 sw5 sw6 kw0 kw1 kw2 kw3 (v_j p2))), .val (.int (m_law_0 p2)), .unset] [(.int (m_law_0 p2))])) t → Steps p.tables e below (s₁.setTop (entryFrame m #[(.int p1), (.int p2)] maxLocals)) t := fun t k => pre13 t (by
            show Steps p.tables e below (T4.setTop (mkF m 55 #[.val (.int p1), .val (.int p2), .val (.int (v_i p1)), .val (.int (v_j p2)), .val (.ref (f_kindOf sw0 sw1 sw2 sw3 sw4 sw5 sw6 kw0 kw1 kw2 kw3 (v_i p1))), .val (.ref (f_phaseOf sw0 sw1 sw2 sw3 sw4 sw5 sw6 kw0 kw1 kw2 kw3 (v_j p2))), .val (.int (m_law_0 p2)), .unset] [(.int (3 : Int32)), (.int (v_i p1))])) _
            refine XS.icmpYes X4.here hx rfl (pc0 := 55) (pc' := 64) rfl (hb hby at_55) rfl (feq g14).2 (by decide) (by decide) ?_
            show Steps p.tables e below (T4.setTop (mkF m 64 #[.val (.int p1), .val (.int p2), .val (.int (v_i p1)), .val (.int (v_j p2)), .val (.ref (f_kindOf sw0 sw1 sw2 sw3 sw4 sw5 sw6 kw0 kw1 kw2 kw3 (v_i p1))), .val (.ref (f_phaseOf sw0 sw1 sw2 sw3 sw4 sw5 sw6 kw0 kw1 kw2 kw3 (v_j p2))), .val (.int (m_law_0 p2)), .unset] [])) _
            refine XS.iload X4.here hx rfl (hb hby at_64) rfl ?_
            exact k)
        by_cases g16 : (m_law_0 p2) = (0 : Int32)
        · skip
          simp only [m_law_1, if_neg g12, if_neg g14, if_pos g16]
          exact ⟨T4, _, X4, e4, N4, fun t k => pre15 t (by
              show Steps p.tables e below (T4.setTop (mkF m 66 #[.val (.int p1), .val (.int p2), .val (.int (v_i p1)), .val (.int (v_j p2)), .val (.ref (f_kindOf sw0 sw1 sw2 sw3 sw4 sw5 sw6 kw0 kw1 kw2 kw3 (v_i p1))), .val (.ref (f_phaseOf sw0 sw1 sw2 sw3 sw4 sw5 sw6 kw0 kw1 kw2 kw3 (v_j p2))), .val (.int (m_law_0 p2)), .unset] [(.int (m_law_0 p2))])) _
              refine XS.ifNo X4.here hx rfl (hb hby at_66) rfl ((if0 _ _).trans (teq g16).2) ?_
              show Steps p.tables e below (T4.setTop (mkF m 69 #[.val (.int p1), .val (.int p2), .val (.int (v_i p1)), .val (.int (v_j p2)), .val (.ref (f_kindOf sw0 sw1 sw2 sw3 sw4 sw5 sw6 kw0 kw1 kw2 kw3 (v_i p1))), .val (.ref (f_phaseOf sw0 sw1 sw2 sw3 sw4 sw5 sw6 kw0 kw1 kw2 kw3 (v_j p2))), .val (.int (m_law_0 p2)), .unset] [])) _
              refine XS.iconst X4.here hx rfl (hb hby at_69) ?_
              show Steps p.tables e below (T4.setTop (mkF m 70 #[.val (.int p1), .val (.int p2), .val (.int (v_i p1)), .val (.int (v_j p2)), .val (.ref (f_kindOf sw0 sw1 sw2 sw3 sw4 sw5 sw6 kw0 kw1 kw2 kw3 (v_i p1))), .val (.ref (f_phaseOf sw0 sw1 sw2 sw3 sw4 sw5 sw6 kw0 kw1 kw2 kw3 (v_j p2))), .val (.int (m_law_0 p2)), .unset] [(.int (1 : Int32))])) _
              refine XS.goto X4.here hx rfl (pc0 := 70) (pc' := 74) rfl (hb hby at_70) (by decide) (by decide) ?_
              show Steps p.tables e below (T4.setTop (mkF m 74 #[.val (.int p1), .val (.int p2), .val (.int (v_i p1)), .val (.int (v_j p2)), .val (.ref (f_kindOf sw0 sw1 sw2 sw3 sw4 sw5 sw6 kw0 kw1 kw2 kw3 (v_i p1))), .val (.ref (f_phaseOf sw0 sw1 sw2 sw3 sw4 sw5 sw6 kw0 kw1 kw2 kw3 (v_j p2))), .val (.int (m_law_0 p2)), .unset] [(.int (1 : Int32))])) _
              refine XS.istore X4.here hx rfl (hb hby at_74) rfl (l' := #[.val (.int p1), .val (.int p2), .val (.int (v_i p1)), .val (.int (v_j p2)), .val (.ref (f_kindOf sw0 sw1 sw2 sw3 sw4 sw5 sw6 kw0 kw1 kw2 kw3 (v_i p1))), .val (.ref (f_phaseOf sw0 sw1 sw2 sw3 sw4 sw5 sw6 kw0 kw1 kw2 kw3 (v_j p2))), .val (.int (m_law_0 p2)), .val (.int (1 : Int32))]) rfl ?_
              exact k)⟩
        · skip
          simp only [m_law_1, if_neg g12, if_neg g14, if_neg g16]
          exact ⟨T4, _, X4, e4, N4, fun t k => pre15 t (by
              show Steps p.tables e below (T4.setTop (mkF m 66 #[.val (.int p1), .val (.int p2), .val (.int (v_i p1)), .val (.int (v_j p2)), .val (.ref (f_kindOf sw0 sw1 sw2 sw3 sw4 sw5 sw6 kw0 kw1 kw2 kw3 (v_i p1))), .val (.ref (f_phaseOf sw0 sw1 sw2 sw3 sw4 sw5 sw6 kw0 kw1 kw2 kw3 (v_j p2))), .val (.int (m_law_0 p2)), .unset] [(.int (m_law_0 p2))])) _
              refine XS.ifYes X4.here hx rfl (pc0 := 66) (pc' := 73) rfl (hb hby at_66) rfl ((if0 _ _).trans (feq g16).2) (by decide) (by decide) ?_
              show Steps p.tables e below (T4.setTop (mkF m 73 #[.val (.int p1), .val (.int p2), .val (.int (v_i p1)), .val (.int (v_j p2)), .val (.ref (f_kindOf sw0 sw1 sw2 sw3 sw4 sw5 sw6 kw0 kw1 kw2 kw3 (v_i p1))), .val (.ref (f_phaseOf sw0 sw1 sw2 sw3 sw4 sw5 sw6 kw0 kw1 kw2 kw3 (v_j p2))), .val (.int (m_law_0 p2)), .unset] [])) _
              refine XS.iconst X4.here hx rfl (hb hby at_73) ?_
              show Steps p.tables e below (T4.setTop (mkF m 74 #[.val (.int p1), .val (.int p2), .val (.int (v_i p1)), .val (.int (v_j p2)), .val (.ref (f_kindOf sw0 sw1 sw2 sw3 sw4 sw5 sw6 kw0 kw1 kw2 kw3 (v_i p1))), .val (.ref (f_phaseOf sw0 sw1 sw2 sw3 sw4 sw5 sw6 kw0 kw1 kw2 kw3 (v_j p2))), .val (.int (m_law_0 p2)), .unset] [(.int (0 : Int32))])) _
              refine XS.istore X4.here hx rfl (hb hby at_74) rfl (l' := #[.val (.int p1), .val (.int p2), .val (.int (v_i p1)), .val (.int (v_j p2)), .val (.ref (f_kindOf sw0 sw1 sw2 sw3 sw4 sw5 sw6 kw0 kw1 kw2 kw3 (v_i p1))), .val (.ref (f_phaseOf sw0 sw1 sw2 sw3 sw4 sw5 sw6 kw0 kw1 kw2 kw3 (v_j p2))), .val (.int (m_law_0 p2)), .val (.int (0 : Int32))]) rfl ?_
              exact k)⟩
  obtain ⟨cq17, kq17, q17a, q17b, q17c⟩ := isOf hZ e10 (own_ek E_kw0 E_kw1 E_kw2 E_kw3)
  obtain ⟨_, _, ⟨T17, L17, k17, n17⟩, -, X17, ⟨Lc17, hQ17, l17, y17, z17⟩, st17⟩ := X10.virtualBack hx (y := (⟨"com/example/fixtures_per_argument/fixturesperargument/engine/ParameterKind", "isAllowedIn", "(Lcom/example/fixtures_per_argument/fixturesperargument/engine/Phase;)Z"⟩ : MethodName)) (z := (⟨"com/example/fixtures_per_argument/fixturesperargument/engine/ParameterKind", "isAllowedIn", "(Lcom/example/fixtures_per_argument/fixturesperargument/engine/Phase;)Z"⟩ : MethodName)) hown (mvT hZ (hw _ (List.mem_of_getElem? (i := 14) rfl))) (mvT hZ (hw _ (List.mem_of_getElem? (i := 15) rfl))) (notFace_of_selects (args := #[]) (mvT hZ (hw _ (List.mem_of_getElem? (i := 17) rfl)))) (mvT hZ (hw _ (List.mem_of_getElem? (i := 17) rfl))) (mvT hZ (hw _ (List.mem_of_getElem? (i := 16) rfl))) (by decide) (backOf (W := 0) (rm_isAllowedIn l Z a0 hw [] sw0 sw1 sw2 sw3 sw4 sw5 sw6 kw0 kw1 kw2 kw3 (f_kindOf sw0 sw1 sw2 sw3 sw4 sw5 sw6 kw0 kw1 kw2 kw3 (v_i p1)) (f_phaseOf sw0 sw1 sw2 sw3 sw4 sw5 sw6 kw0 kw1 kw2 kw3 (v_j p2)) (own_per (v_j p2)) (own_ina (v_i p1)) (own_inc (v_i p1)) h0 n0 Z0 S_sw0 S_sw1 S_sw2 S_sw3 S_sw4 S_sw5 S_sw6 S_kw0 S_kw1 S_kw2 S_kw3 (own_e E_sw0 E_sw1 E_sw2 E_sw3 E_sw4 E_sw5 E_sw6) (own_fp hj F_perArgument_sw0 F_perArgument_sw1 F_perArgument_sw2 F_perArgument_sw3 F_perArgument_sw4 F_perArgument_sw5 F_perArgument_sw6) (own_fa hi F_inArgumentPhases_kw0 F_inArgumentPhases_kw1 F_inArgumentPhases_kw2 F_inArgumentPhases_kw3) (own_fc hi F_inClassPhases_kw0 F_inClassPhases_kw1 F_inClassPhases_kw2 F_inClassPhases_kw3)) hZ (hw _ (List.mem_of_getElem? (i := 18) rfl)) (hw _ (List.mem_of_getElem? (i := 6) rfl)) (by decide) (by decide)) q17a q17c (g := (mkF m 80 #[.val (.int p1), .val (.int p2), .val (.int (v_i p1)), .val (.int (v_j p2)), .val (.ref (f_kindOf sw0 sw1 sw2 sw3 sw4 sw5 sw6 kw0 kw1 kw2 kw3 (v_i p1))), .val (.ref (f_phaseOf sw0 sw1 sw2 sw3 sw4 sw5 sw6 kw0 kw1 kw2 kw3 (v_j p2))), .val (.int (m_law_0 p2)), .val (.int (m_law_1 p1 p2))] [(.ref (f_phaseOf sw0 sw1 sw2 sw3 sw4 sw5 sw6 kw0 kw1 kw2 kw3 (v_j p2))), (.ref (f_kindOf sw0 sw1 sw2 sw3 sw4 sw5 sw6 kw0 kw1 kw2 kw3 (v_i p1)))])) rfl (by rw [hml]; rfl) (Steps.refl _) (argsL := [(.ref (f_phaseOf sw0 sw1 sw2 sw3 sw4 sw5 sw6 kw0 kw1 kw2 kw3 (v_j p2)))]) (rest := []) (lenOf pd_ment_fixturesperargument_engine_Phase__Z_71 rfl) rfl (by show 2 * 0 + _ ≤ _; exact Nat.le_of_eq rfl) (hb hby at_80) (fun _ _ => ⟨rfl, e10, (by decide : 0 + 0 ≤ _), (by decide : 0 + 0 ≤ _)⟩)
  dsimp only [Pt.U, Pt.locs, Pt.cells, Pt.slots] at X17 l17 y17 z17 st17 hQ17
  subst l17 y17 z17
  obtain ⟨rfl, N17q, e17⟩ := hQ17
  have N17 := Fr.app N10 N17q
  obtain ⟨g18, hp⟩ := hp
  obtain ⟨fs, hr, hrun, hended, hW, hsame⟩ := X17.leave (v := some (.int (1 : Int32))) (fun h => by rw [Bd.returns] at h; cases h)
  refine ⟨_, _, pre10 _ ?_, hrun, hended, _, _, rfl, ?_, ⟨_, rfl⟩, hW, hsame.mono (by decide) (by decide)⟩
  · show Steps p.tables e below (T10.setTop (mkF m 76 #[.val (.int p1), .val (.int p2), .val (.int (v_i p1)), .val (.int (v_j p2)), .val (.ref (f_kindOf sw0 sw1 sw2 sw3 sw4 sw5 sw6 kw0 kw1 kw2 kw3 (v_i p1))), .val (.ref (f_phaseOf sw0 sw1 sw2 sw3 sw4 sw5 sw6 kw0 kw1 kw2 kw3 (v_j p2))), .val (.int (m_law_0 p2)), .val (.int (m_law_1 p1 p2))] [])) _
    refine XS.aload X10.here hx rfl (hb hby at_76) rfl rfl ?_
    show Steps p.tables e below (T10.setTop (mkF m 78 #[.val (.int p1), .val (.int p2), .val (.int (v_i p1)), .val (.int (v_j p2)), .val (.ref (f_kindOf sw0 sw1 sw2 sw3 sw4 sw5 sw6 kw0 kw1 kw2 kw3 (v_i p1))), .val (.ref (f_phaseOf sw0 sw1 sw2 sw3 sw4 sw5 sw6 kw0 kw1 kw2 kw3 (v_j p2))), .val (.int (m_law_0 p2)), .val (.int (m_law_1 p1 p2))] [(.ref (f_kindOf sw0 sw1 sw2 sw3 sw4 sw5 sw6 kw0 kw1 kw2 kw3 (v_i p1)))])) _
    refine XS.aload X10.here hx rfl (hb hby at_78) rfl rfl ?_
    show Steps p.tables e below (T10.setTop (mkF m 80 #[.val (.int p1), .val (.int p2), .val (.int (v_i p1)), .val (.int (v_j p2)), .val (.ref (f_kindOf sw0 sw1 sw2 sw3 sw4 sw5 sw6 kw0 kw1 kw2 kw3 (v_i p1))), .val (.ref (f_phaseOf sw0 sw1 sw2 sw3 sw4 sw5 sw6 kw0 kw1 kw2 kw3 (v_j p2))), .val (.int (m_law_0 p2)), .val (.int (m_law_1 p1 p2))] [(.ref (f_phaseOf sw0 sw1 sw2 sw3 sw4 sw5 sw6 kw0 kw1 kw2 kw3 (v_j p2))), (.ref (f_kindOf sw0 sw1 sw2 sw3 sw4 sw5 sw6 kw0 kw1 kw2 kw3 (v_i p1)))])) _
    refine st17.trans ?_
    show Steps p.tables e below (T17.setTop (mkF m 83 #[.val (.int p1), .val (.int p2), .val (.int (v_i p1)), .val (.int (v_j p2)), .val (.ref (f_kindOf sw0 sw1 sw2 sw3 sw4 sw5 sw6 kw0 kw1 kw2 kw3 (v_i p1))), .val (.ref (f_phaseOf sw0 sw1 sw2 sw3 sw4 sw5 sw6 kw0 kw1 kw2 kw3 (v_j p2))), .val (.int (m_law_0 p2)), .val (.int (m_law_1 p1 p2))] [(.int (f_isAllowedIn sw0 sw1 sw2 sw3 sw4 sw5 sw6 kw0 kw1 kw2 kw3 (f_kindOf sw0 sw1 sw2 sw3 sw4 sw5 sw6 kw0 kw1 kw2 kw3 (v_i p1)) (f_phaseOf sw0 sw1 sw2 sw3 sw4 sw5 sw6 kw0 kw1 kw2 kw3 (v_j p2)) (own_per (v_j p2)) (own_ina (v_i p1)) (own_inc (v_i p1))))])) _
    refine XS.iload X17.here hx rfl (hb hby at_83) rfl ?_
    show Steps p.tables e below (T17.setTop (mkF m 85 #[.val (.int p1), .val (.int p2), .val (.int (v_i p1)), .val (.int (v_j p2)), .val (.ref (f_kindOf sw0 sw1 sw2 sw3 sw4 sw5 sw6 kw0 kw1 kw2 kw3 (v_i p1))), .val (.ref (f_phaseOf sw0 sw1 sw2 sw3 sw4 sw5 sw6 kw0 kw1 kw2 kw3 (v_j p2))), .val (.int (m_law_0 p2)), .val (.int (m_law_1 p1 p2))] [(.int (m_law_1 p1 p2)), (.int (f_isAllowedIn sw0 sw1 sw2 sw3 sw4 sw5 sw6 kw0 kw1 kw2 kw3 (f_kindOf sw0 sw1 sw2 sw3 sw4 sw5 sw6 kw0 kw1 kw2 kw3 (v_i p1)) (f_phaseOf sw0 sw1 sw2 sw3 sw4 sw5 sw6 kw0 kw1 kw2 kw3 (v_j p2)) (own_per (v_j p2)) (own_ina (v_i p1)) (own_inc (v_i p1))))])) _
    refine XS.icmpNo X17.here hx rfl (hb hby at_85) rfl (teq g18).2 ?_
    show Steps p.tables e below (T17.setTop (mkF m 88 #[.val (.int p1), .val (.int p2), .val (.int (v_i p1)), .val (.int (v_j p2)), .val (.ref (f_kindOf sw0 sw1 sw2 sw3 sw4 sw5 sw6 kw0 kw1 kw2 kw3 (v_i p1))), .val (.ref (f_phaseOf sw0 sw1 sw2 sw3 sw4 sw5 sw6 kw0 kw1 kw2 kw3 (v_j p2))), .val (.int (m_law_0 p2)), .val (.int (m_law_1 p1 p2))] [])) _
    refine XS.iconst X17.here hx rfl (hb hby at_88) ?_
    show Steps p.tables e below (T17.setTop (mkF m 89 #[.val (.int p1), .val (.int p2), .val (.int (v_i p1)), .val (.int (v_j p2)), .val (.ref (f_kindOf sw0 sw1 sw2 sw3 sw4 sw5 sw6 kw0 kw1 kw2 kw3 (v_i p1))), .val (.ref (f_phaseOf sw0 sw1 sw2 sw3 sw4 sw5 sw6 kw0 kw1 kw2 kw3 (v_j p2))), .val (.int (m_law_0 p2)), .val (.int (m_law_1 p1 p2))] [(.int (1 : Int32))])) _
    refine XS.goto X17.here hx rfl (pc0 := 89) (pc' := 93) rfl (hb hby at_89) (by decide) (by decide) ?_
    show Steps p.tables e below (T17.setTop (mkF m 93 #[.val (.int p1), .val (.int p2), .val (.int (v_i p1)), .val (.int (v_j p2)), .val (.ref (f_kindOf sw0 sw1 sw2 sw3 sw4 sw5 sw6 kw0 kw1 kw2 kw3 (v_i p1))), .val (.ref (f_phaseOf sw0 sw1 sw2 sw3 sw4 sw5 sw6 kw0 kw1 kw2 kw3 (v_j p2))), .val (.int (m_law_0 p2)), .val (.int (m_law_1 p1 p2))] [(.int (1 : Int32))])) _
    exact retN X17 hx (t := .boolean) Bd.returns (by simp) (hb hby at_93) hr
  · exact ⟨rfl, N17⟩
theorem own_and3 (x : Int32) : (x &&& (3 : Int32)) = 0 ∨ (x &&& (3 : Int32)) = 1 ∨ (x &&& (3 : Int32)) = 2 ∨ (x &&& (3 : Int32)) = 3 := by
  have h : (x &&& (3 : Int32)).toInt = x.toInt % 4 := c_mask x 3 2 (by decide) (by decide)
  have h4 : x.toInt % 4 = 0 ∨ x.toInt % 4 = 1 ∨ x.toInt % 4 = 2 ∨ x.toInt % 4 = 3 := by omega
  rcases h4 with q | q | q | q
  · exact Or.inl (Int32.toInt_inj.mp (by rw [h, q]; rfl))
  · exact Or.inr (Or.inl (Int32.toInt_inj.mp (by rw [h, q]; rfl)))
  · exact Or.inr (Or.inr (Or.inl (Int32.toInt_inj.mp (by rw [h, q]; rfl))))
  · exact Or.inr (Or.inr (Or.inr (Int32.toInt_inj.mp (by rw [h, q]; rfl))))

theorem own_rem (p1 : Int32) : ((p1 &&& (2147483647 : Int32)) - ((p1 &&& (2147483647 : Int32)) / (7 : Int32)) * (7 : Int32)) = (0 : Int32) ∨ ((p1 &&& (2147483647 : Int32)) - ((p1 &&& (2147483647 : Int32)) / (7 : Int32)) * (7 : Int32)) = (1 : Int32) ∨ ((p1 &&& (2147483647 : Int32)) - ((p1 &&& (2147483647 : Int32)) / (7 : Int32)) * (7 : Int32)) = (2 : Int32) ∨ ((p1 &&& (2147483647 : Int32)) - ((p1 &&& (2147483647 : Int32)) / (7 : Int32)) * (7 : Int32)) = (3 : Int32) ∨ ((p1 &&& (2147483647 : Int32)) - ((p1 &&& (2147483647 : Int32)) / (7 : Int32)) * (7 : Int32)) = (4 : Int32) ∨ ((p1 &&& (2147483647 : Int32)) - ((p1 &&& (2147483647 : Int32)) / (7 : Int32)) * (7 : Int32)) = (5 : Int32) ∨ ((p1 &&& (2147483647 : Int32)) - ((p1 &&& (2147483647 : Int32)) / (7 : Int32)) * (7 : Int32)) = (6 : Int32) := by
  have h : (p1 &&& (2147483647 : Int32)).toInt = p1.toInt % 2147483648 := c_mask p1 2147483647 31 (by decide) (by decide)
  have h2 : ((p1 &&& (2147483647 : Int32)) - ((p1 &&& (2147483647 : Int32)) / (7 : Int32)) * (7 : Int32)).toInt = (p1.toInt % 2147483648) % 7 := by
    rw [irem_eq_mod, (c_irem _ (7 : Int32) 7 (by decide)).1 (by rw [h]; omega), h]
  obtain ⟨q, hq⟩ : ∃ q, q = (p1.toInt % 2147483648) % 7 := ⟨_, rfl⟩
  have h4 : q = 0 ∨ q = 1 ∨ q = 2 ∨ q = 3 ∨ q = 4 ∨ q = 5 ∨ q = 6 := by omega
  rw [← hq] at h2
  rcases h4 with rfl | rfl | rfl | rfl | rfl | rfl | rfl
  · exact (Or.inl (Int32.toInt_inj.mp (by rw [h2]; rfl)))
  · exact (Or.inr (Or.inl (Int32.toInt_inj.mp (by rw [h2]; rfl))))
  · exact (Or.inr (Or.inr (Or.inl (Int32.toInt_inj.mp (by rw [h2]; rfl)))))
  · exact (Or.inr (Or.inr (Or.inr (Or.inl (Int32.toInt_inj.mp (by rw [h2]; rfl))))))
  · exact (Or.inr (Or.inr (Or.inr (Or.inr (Or.inl (Int32.toInt_inj.mp (by rw [h2]; rfl)))))))
  · exact (Or.inr (Or.inr (Or.inr (Or.inr (Or.inr (Or.inl (Int32.toInt_inj.mp (by rw [h2]; rfl))))))))
  · exact (Or.inr (Or.inr (Or.inr (Or.inr (Or.inr (Or.inr (Int32.toInt_inj.mp (by rw [h2]; rfl))))))))

theorem own_plain {sw0 sw1 sw2 sw3 sw4 sw5 sw6 kw0 kw1 kw2 kw3 : Addr} {p1 p2 : Int32} : lawP sw0 sw1 sw2 sw3 sw4 sw5 sw6 kw0 kw1 kw2 kw3 p1 p2 := by
  refine ⟨?_, trivial⟩
  have hi : v_i p1 = (0 : Int32) ∨ v_i p1 = (1 : Int32) ∨ v_i p1 = (2 : Int32) ∨ v_i p1 = (3 : Int32) := own_and3 p1
  have hj : v_j p2 = (0 : Int32) ∨ v_j p2 = (1 : Int32) ∨ v_j p2 = (2 : Int32) ∨ v_j p2 = (3 : Int32) ∨ v_j p2 = (4 : Int32) ∨ v_j p2 = (5 : Int32) ∨ v_j p2 = (6 : Int32) := own_rem p2
  unfold m_law_1 m_law_0
  rcases hi with h | h | h | h <;> rcases hj with h' | h' | h' | h' | h' | h' | h' <;> rw [h, h'] <;> simp [f_isAllowedIn, f_isPerArgument, own_per, own_ina, own_inc, nar]
set_option maxRecDepth 65536 in
set_option maxHeartbeats 40000000 in
theorem comes_1 {Post : Tables → Env → Array Value → State → Outcome → State → Prop} (hpost : ∀ tb e args s v u, (limb_1_1.after args s (.returned v) u = true ∧ limb_1_2.after args s (.returned v) u = true ∧ True) → FrameEnd s (.returned v) u (Jvm.fieldLocs frame_1_writes args s ++ Jvm.arrayLocs frame_1_arrays args s ++ Jvm.staticLocs frame_1_statics s) 0 0 → Post tb e args s (.returned v) u) :
    ArmFor flags0 classFile x code maxLocals ret World_1 tables_1 room_1 Calls_1 rest_1 Pre_1 Post := by
  intro l hfl _ _ p e ha hc hk s m args below hf hA hF happ hP
  obtain ⟨hcalls, hrest, hpre⟩ := hP
  obtain ⟨-, -, -, hnamed, -, -, -, hat⟩ := (Spec.applies_iff hf).mp happ
  obtain ⟨hg, hn⟩ := and_e (Cond.before_iff.mp (show (Jvm.Cond.and given_1 narrow_1).before args s = true from hpre))
  obtain ⟨gv0, gr0⟩ := and_e hg
  obtain ⟨gv1, gr1⟩ := and_e gr0
  obtain ⟨w0, w1, rfl⟩ : ∃ w0 w1 : Value, args = #[w0, w1] := by
    have hs : args.size = 2 := by simpa [Cond.value, given_1] using gv0
    obtain ⟨L⟩ := args
    match L, hs with
    | [w0, w1], _ => exact ⟨w0, w1, rfl⟩
  have hw := fun d (hd : d ∈ tables_1) => atoms_spec (ws := Jvm.Cond.code x code maxLocals ret :: tables_1) hat d (List.mem_cons_of_mem _ hd)
  obtain ⟨i0, ei0⟩ := is_v gv1
  obtain rfl : w0 = (.int i0) := Option.some.inj ei0
  obtain ⟨i1, ei1⟩ := is_v gr1
  obtain rfl : w1 = (.int i1) := Option.some.inj ei1
  obtain ⟨nv0, nr0⟩ := and_e hn
  obtain ⟨nv1, nr1⟩ := and_e nr0
  obtain ⟨nv2, nr2⟩ := and_e nr1
  obtain ⟨nv3, nr3⟩ := and_e nr2
  obtain ⟨nv4, nr4⟩ := and_e nr3
  obtain ⟨nv5, nr5⟩ := and_e nr4
  obtain ⟨nv6, nr6⟩ := and_e nr5
  obtain ⟨nv7, nr7⟩ := and_e nr6
  obtain ⟨nv8, nr8⟩ := and_e nr7
  obtain ⟨nv9, nr9⟩ := and_e nr8
  obtain ⟨nv10, nr10⟩ := and_e nr9
  obtain ⟨nv11, nr11⟩ := and_e nr10
  obtain ⟨nv12, nr12⟩ := and_e nr11
  obtain ⟨nv13, nr13⟩ := and_e nr12
  obtain ⟨nv14, nr14⟩ := and_e nr13
  obtain ⟨nv15, nr15⟩ := and_e nr14
  obtain ⟨nv16, nr16⟩ := and_e nr15
  obtain ⟨nv17, nr17⟩ := and_e nr16
  obtain ⟨nv18, nr18⟩ := and_e nr17
  obtain ⟨nv19, nr19⟩ := and_e nr18
  obtain ⟨nv20, nr20⟩ := and_e nr19
  obtain ⟨nv21, nr21⟩ := and_e nr20
  obtain ⟨nv22, nr22⟩ := and_e nr21
  obtain ⟨nv23, nr23⟩ := and_e nr22
  obtain ⟨nv24, nr24⟩ := and_e nr23
  obtain ⟨kw0, ev_kw0⟩ := exa_v nv0
  have S_kw0 : Sta s s.heap "com/example/fixtures_per_argument/fixturesperargument/engine/ParameterKind" "PAYLOAD" "Lcom/example/fixtures_per_argument/fixturesperargument/engine/ParameterKind;" (.ref kw0) := Sta.start ev_kw0 (Or.inr ⟨(hw _ (List.mem_of_getElem? (i := 6) rfl)), (hw _ (List.mem_of_getElem? (i := 7) rfl))⟩)
  have E_kw0 : Exa s s.heap kw0 "com/example/fixtures_per_argument/fixturesperargument/engine/ParameterKind" := Exa.start ev_kw0 nv0
  obtain ⟨sw3, ev_sw3⟩ := exa_v nv1
  have S_sw3 : Sta s s.heap "com/example/fixtures_per_argument/fixturesperargument/engine/Phase" "TEST" "Lcom/example/fixtures_per_argument/fixturesperargument/engine/Phase;" (.ref sw3) := Sta.start ev_sw3 (Or.inr ⟨(hw _ (List.mem_of_getElem? (i := 12) rfl)), (hw _ (List.mem_of_getElem? (i := 13) rfl))⟩)
  have E_sw3 : Exa s s.heap sw3 "com/example/fixtures_per_argument/fixturesperargument/engine/Phase" := Exa.start ev_sw3 nv1
  obtain ⟨kw2, ev_kw2⟩ := exa_v nv4
  have S_kw2 : Sta s s.heap "com/example/fixtures_per_argument/fixturesperargument/engine/ParameterKind" "ARGUMENT_CONTEXT" "Lcom/example/fixtures_per_argument/fixturesperargument/engine/ParameterKind;" (.ref kw2) := Sta.start ev_kw2 (Or.inr ⟨(hw _ (List.mem_of_getElem? (i := 6) rfl)), (hw _ (List.mem_of_getElem? (i := 29) rfl))⟩)
  have E_kw2 : Exa s s.heap kw2 "com/example/fixtures_per_argument/fixturesperargument/engine/ParameterKind" := Exa.start ev_kw2 nv4
  obtain ⟨sw1, ev_sw1⟩ := exa_v nv5
  have S_sw1 : Sta s s.heap "com/example/fixtures_per_argument/fixturesperargument/engine/Phase" "BEFORE_ALL" "Lcom/example/fixtures_per_argument/fixturesperargument/engine/Phase;" (.ref sw1) := Sta.start ev_sw1 (Or.inr ⟨(hw _ (List.mem_of_getElem? (i := 12) rfl)), (hw _ (List.mem_of_getElem? (i := 31) rfl))⟩)
  have E_sw1 : Exa s s.heap sw1 "com/example/fixtures_per_argument/fixturesperargument/engine/Phase" := Exa.start ev_sw1 nv5
  obtain ⟨sw5, ev_sw5⟩ := exa_v nv8
  have S_sw5 : Sta s s.heap "com/example/fixtures_per_argument/fixturesperargument/engine/Phase" "AFTER_ALL" "Lcom/example/fixtures_per_argument/fixturesperargument/engine/Phase;" (.ref sw5) := Sta.start ev_sw5 (Or.inr ⟨(hw _ (List.mem_of_getElem? (i := 12) rfl)), (hw _ (List.mem_of_getElem? (i := 33) rfl))⟩)
  have E_sw5 : Exa s s.heap sw5 "com/example/fixtures_per_argument/fixturesperargument/engine/Phase" := Exa.start ev_sw5 nv8
  obtain ⟨sw2, ev_sw2⟩ := exa_v nv10
  have S_sw2 : Sta s s.heap "com/example/fixtures_per_argument/fixturesperargument/engine/Phase" "BEFORE_EACH" "Lcom/example/fixtures_per_argument/fixturesperargument/engine/Phase;" (.ref sw2) := Sta.start ev_sw2 (Or.inr ⟨(hw _ (List.mem_of_getElem? (i := 12) rfl)), (hw _ (List.mem_of_getElem? (i := 35) rfl))⟩)
  have E_sw2 : Exa s s.heap sw2 "com/example/fixtures_per_argument/fixturesperargument/engine/Phase" := Exa.start ev_sw2 nv10
  obtain ⟨sw0, ev_sw0⟩ := exa_v nv12
  have S_sw0 : Sta s s.heap "com/example/fixtures_per_argument/fixturesperargument/engine/Phase" "PREPARE" "Lcom/example/fixtures_per_argument/fixturesperargument/engine/Phase;" (.ref sw0) := Sta.start ev_sw0 (Or.inr ⟨(hw _ (List.mem_of_getElem? (i := 12) rfl)), (hw _ (List.mem_of_getElem? (i := 37) rfl))⟩)
  have E_sw0 : Exa s s.heap sw0 "com/example/fixtures_per_argument/fixturesperargument/engine/Phase" := Exa.start ev_sw0 nv12
  obtain ⟨kw1, ev_kw1⟩ := exa_v nv15
  have S_kw1 : Sta s s.heap "com/example/fixtures_per_argument/fixturesperargument/engine/ParameterKind" "CLASS_CONTEXT" "Lcom/example/fixtures_per_argument/fixturesperargument/engine/ParameterKind;" (.ref kw1) := Sta.start ev_kw1 (Or.inr ⟨(hw _ (List.mem_of_getElem? (i := 6) rfl)), (hw _ (List.mem_of_getElem? (i := 41) rfl))⟩)
  have E_kw1 : Exa s s.heap kw1 "com/example/fixtures_per_argument/fixturesperargument/engine/ParameterKind" := Exa.start ev_kw1 nv15
  obtain ⟨sw6, ev_sw6⟩ := exa_v nv16
  have S_sw6 : Sta s s.heap "com/example/fixtures_per_argument/fixturesperargument/engine/Phase" "CONCLUDE" "Lcom/example/fixtures_per_argument/fixturesperargument/engine/Phase;" (.ref sw6) := Sta.start ev_sw6 (Or.inr ⟨(hw _ (List.mem_of_getElem? (i := 12) rfl)), (hw _ (List.mem_of_getElem? (i := 43) rfl))⟩)
  have E_sw6 : Exa s s.heap sw6 "com/example/fixtures_per_argument/fixturesperargument/engine/Phase" := Exa.start ev_sw6 nv16
  obtain ⟨kw3, ev_kw3⟩ := exa_v nv19
  have S_kw3 : Sta s s.heap "com/example/fixtures_per_argument/fixturesperargument/engine/ParameterKind" "ENGINE_CONTEXT" "Lcom/example/fixtures_per_argument/fixturesperargument/engine/ParameterKind;" (.ref kw3) := Sta.start ev_kw3 (Or.inr ⟨(hw _ (List.mem_of_getElem? (i := 6) rfl)), (hw _ (List.mem_of_getElem? (i := 45) rfl))⟩)
  have E_kw3 : Exa s s.heap kw3 "com/example/fixtures_per_argument/fixturesperargument/engine/ParameterKind" := Exa.start ev_kw3 nv19
  obtain ⟨sw4, ev_sw4⟩ := exa_v nv22
  have S_sw4 : Sta s s.heap "com/example/fixtures_per_argument/fixturesperargument/engine/Phase" "AFTER_EACH" "Lcom/example/fixtures_per_argument/fixturesperargument/engine/Phase;" (.ref sw4) := Sta.start ev_sw4 (Or.inr ⟨(hw _ (List.mem_of_getElem? (i := 12) rfl)), (hw _ (List.mem_of_getElem? (i := 47) rfl))⟩)
  have E_sw4 : Exa s s.heap sw4 "com/example/fixtures_per_argument/fixturesperargument/engine/Phase" := Exa.start ev_sw4 nv22
  have F_perArgument_sw3 : Fld s s.heap sw3 "com/example/fixtures_per_argument/fixturesperargument/engine/Phase" "perArgument" "Z" (.int (1 : Int32)) := own_fld ev_sw3 nv2 (Term.int_eval (1))
  have F_inArgumentPhases_kw0 : Fld s s.heap kw0 "com/example/fixtures_per_argument/fixturesperargument/engine/ParameterKind" "inArgumentPhases" "Z" (.int (1 : Int32)) := own_fld ev_kw0 nv3 (Term.int_eval (1))
  have F_perArgument_sw1 : Fld s s.heap sw1 "com/example/fixtures_per_argument/fixturesperargument/engine/Phase" "perArgument" "Z" (.int (1 : Int32)) := own_fld ev_sw1 nv6 (Term.int_eval (1))
  have F_inArgumentPhases_kw2 : Fld s s.heap kw2 "com/example/fixtures_per_argument/fixturesperargument/engine/ParameterKind" "inArgumentPhases" "Z" (.int (1 : Int32)) := own_fld ev_kw2 nv7 (Term.int_eval (1))
  have F_perArgument_sw5 : Fld s s.heap sw5 "com/example/fixtures_per_argument/fixturesperargument/engine/Phase" "perArgument" "Z" (.int (1 : Int32)) := own_fld ev_sw5 nv9 (Term.int_eval (1))
  have F_perArgument_sw2 : Fld s s.heap sw2 "com/example/fixtures_per_argument/fixturesperargument/engine/Phase" "perArgument" "Z" (.int (1 : Int32)) := own_fld ev_sw2 nv11 (Term.int_eval (1))
  have F_perArgument_sw0 : Fld s s.heap sw0 "com/example/fixtures_per_argument/fixturesperargument/engine/Phase" "perArgument" "Z" (.int (0 : Int32)) := own_fld ev_sw0 nv13 (Term.int_eval (0))
  have F_inClassPhases_kw0 : Fld s s.heap kw0 "com/example/fixtures_per_argument/fixturesperargument/engine/ParameterKind" "inClassPhases" "Z" (.int (0 : Int32)) := own_fld ev_kw0 nv14 (Term.int_eval (0))
  have F_perArgument_sw6 : Fld s s.heap sw6 "com/example/fixtures_per_argument/fixturesperargument/engine/Phase" "perArgument" "Z" (.int (0 : Int32)) := own_fld ev_sw6 nv17 (Term.int_eval (0))
  have F_inClassPhases_kw1 : Fld s s.heap kw1 "com/example/fixtures_per_argument/fixturesperargument/engine/ParameterKind" "inClassPhases" "Z" (.int (1 : Int32)) := own_fld ev_kw1 nv18 (Term.int_eval (1))
  have F_inArgumentPhases_kw3 : Fld s s.heap kw3 "com/example/fixtures_per_argument/fixturesperargument/engine/ParameterKind" "inArgumentPhases" "Z" (.int (0 : Int32)) := own_fld ev_kw3 nv20 (Term.int_eval (0))
  have F_inArgumentPhases_kw1 : Fld s s.heap kw1 "com/example/fixtures_per_argument/fixturesperargument/engine/ParameterKind" "inArgumentPhases" "Z" (.int (0 : Int32)) := own_fld ev_kw1 nv21 (Term.int_eval (0))
  have F_perArgument_sw4 : Fld s s.heap sw4 "com/example/fixtures_per_argument/fixturesperargument/engine/Phase" "perArgument" "Z" (.int (1 : Int32)) := own_fld ev_sw4 nv23 (Term.int_eval (1))
  have F_inClassPhases_kw2 : Fld s s.heap kw2 "com/example/fixtures_per_argument/fixturesperargument/engine/ParameterKind" "inClassPhases" "Z" (.int (0 : Int32)) := own_fld ev_kw2 nv24 (Term.int_eval (0))
  have F_inClassPhases_kw3 : Fld s s.heap kw3 "com/example/fixtures_per_argument/fixturesperargument/engine/ParameterKind" "inClassPhases" "Z" (.int (0 : Int32)) := own_fld ev_kw3 nr24 (Term.int_eval (0))
  obtain ⟨n, o, h1, h2, h3, _, L, rfl, ⟨rfl, N⟩, hq⟩ := rm_law l s _ hw tables_1 sw0 sw1 sw2 sw3 sw4 sw5 sw6 kw0 kw1 kw2 kw3 i0 i1 s.heap s.heap.size (Nat.le_refl _) S_sw0 S_sw1 S_sw2 S_sw3 S_sw4 S_sw5 S_sw6 S_kw0 S_kw1 S_kw2 S_kw3 (own_and3 i0) (own_rem i1) E_sw0 E_sw1 E_sw2 E_sw3 E_sw4 E_sw5 E_sw6 E_kw0 E_kw1 E_kw2 E_kw3 F_perArgument_sw0 F_perArgument_sw1 F_perArgument_sw2 F_perArgument_sw3 F_perArgument_sw4 F_perArgument_sw5 F_perArgument_sw6 F_inArgumentPhases_kw0 F_inArgumentPhases_kw1 F_inArgumentPhases_kw2 F_inArgumentPhases_kw3 F_inClassPhases_kw0 F_inClassPhases_kw1 F_inClassPhases_kw2 F_inClassPhases_kw3 own_plain p e ha hc hk s m _ below hf ((Spec.applies_iff_loose hf).mp happ).1 ⟨rfl, State.Warmed39.refl s, rfl⟩ trivial
  exact ⟨n, _, h1, h2, h3, hpost _ _ _ _ _ _ ⟨Cond.after_iff.mpr rfl, Cond.after_iff.mpr (eq_i res_at (Term.int_eval (1)) rfl), trivial⟩ ⟨hq.1, hq.2.1, (hq.2.2.sift fun y hy => Or.inr (N y hy)).mono (by decide) (by decide)⟩⟩
theorem main_1_1 : Claimed_1_1 := comes_1 fun _ _ _ _ _ _ h hF => ⟨h.1, hF⟩
theorem main_1_2 : Claimed_1_2 := comes_1 fun _ _ _ _ _ _ h hF => ⟨h.2.1, hF⟩

end Jvm.Pilot.@@N@@
namespace Jvm.Pilot.@@N@@
open Jvm Jvm.ClassFile Sem Op Lib Jvm.Free Jvm.Stand Jvm.Pilot.@@N@@.Jvm.D
/-! MADE BY PROGRAM (witnessworld.py) out of the Statement's table words and the real class files: 13 classes; the members and pool entries that the words name. The judged class is class 1, her method 3. -/
namespace start1
open Jvm.ClassFile
def u (s : String) : CpInfo := .utf8 (stringToUtf16 s)
/-- a pool by its gaps: so many unusable entries, then the entry; so many at the end -/
def gap : Nat → List CpInfo → List CpInfo
  | 0, r => r
  | n + 1, r => .unusable :: gap n r
def poolList (es : List (Nat × CpInfo)) (last : Nat) : List CpInfo := es.foldr (fun e r => gap e.1 (e.2 :: r)) (gap last [])
def pool (es : List (Nat × CpInfo)) (last : Nat) : Array CpInfo := ⟨poolList es last⟩
def fileOf (pool : Array CpInfo) (this : Nat) (attrs : Array Attribute := #[]) (ms : Array MethodInfo := #[]) (fl : Nat := 33) (sup : Nat := 0) (ifs : Array Nat := #[]) (fds : Array FieldInfo := #[]) : ClassFile where
  minorVersion := 0
  majorVersion := 65
  constantPool := pool
  accessFlags := fl
  thisClass := this
  superClass := sup
  interfaces := ifs
  fields := fds
  methods := ms
  attributes := attrs
def plain (name : String) (sup : Option ClassId) : Class where
  name := name
  kind := .ordinary
  loader := none
  accessFlags := 33
  super := sup
  interfaces := #[]
  cf := none
  fields := #[]
  methods := #[]
  instanceTypes := #[]
  staticTypes := #[]
  resolved := #[]
  callSites := []
  init := .initialized
  statics := none
  mirror := none

def pool0 : Array CpInfo := pool [(5, u "<init>"), (0, u "()V"), (1, .class_ 10), (1, u "java/lang/Object")] 113

def k0m0 : Method := { name := "<init>", desc := "()V", sig := { parameters := [], returnType := none }, accessFlags := 1, code := none }
/-- java/lang/Object -/
def k0 : Class := { plain "java/lang/Object" none with
  accessFlags := 33
  interfaces := #[]
  cf := some (fileOf pool0 8 #[] #[{ accessFlags := 1, nameIndex := 5, descriptorIndex := 6, attributes := #[] }] 33 0 #[] #[])
  fields := #[]
  methods := #[k0m0]
  instanceTypes := #[]
  staticTypes := #[]
  resolved := Array.replicate 124 none
  statics := none }

def pool1 : Array CpInfo := pool [(2, .class_ 4), (1, u "java/lang/Object"), (0, u "<init>"), (0, u "()V"), (0, .fieldref 8 9), (0, .class_ 10), (0, .nameAndType 11 12), (0, u "com/example/fixtures_per_argument/fixturesperargument/engine/ParameterKind"), (0, u "PAYLOAD"), (0, u "Lcom/example/fixtures_per_argument/fixturesperargument/engine/ParameterKind;"), (0, .fieldref 8 14), (0, .nameAndType 15 12), (0, u "CLASS_CONTEXT"), (0, .fieldref 8 17), (0, .nameAndType 18 12), (0, u "ARGUMENT_CONTEXT"), (0, .fieldref 8 20), (0, .nameAndType 21 12), (0, u "ENGINE_CONTEXT"), (0, .fieldref 23 24), (0, .class_ 25), (0, .nameAndType 26 27), (0, u "com/example/fixtures_per_argument/fixturesperargument/engine/Phase"), (0, u "PREPARE"), (0, u "Lcom/example/fixtures_per_argument/fixturesperargument/engine/Phase;"), (0, .fieldref 23 29), (0, .nameAndType 30 27), (0, u "BEFORE_ALL"), (0, .fieldref 23 32), (0, .nameAndType 33 27), (0, u "BEFORE_EACH"), (0, .fieldref 23 35), (0, .nameAndType 36 27), (0, u "TEST"), (0, .fieldref 23 38), (0, .nameAndType 39 27), (0, u "AFTER_EACH"), (0, .fieldref 23 41), (0, .nameAndType 42 27), (0, u "AFTER_ALL"), (0, .fieldref 23 44), (0, .nameAndType 45 27), (0, u "CONCLUDE"), (0, .integer 2147483647), (0, .methodref 48 49), (0, .class_ 50), (0, .nameAndType 51 52), (0, u "com/example/fixtures_per_argument/fixturesperargument/engine/ParameterKindIsAllowedInPinLaw"), (0, u "kindOf"), (0, u "(I)Lcom/example/fixtures_per_argument/fixturesperargument/engine/ParameterKind;"), (0, .methodref 48 54), (0, .nameAndType 55 56), (0, u "phaseOf"), (0, u "(I)Lcom/example/fixtures_per_argument/fixturesperargument/engine/Phase;"), (0, .methodref 8 58), (0, .nameAndType 59 60), (0, u "isAllowedIn"), (0, u "(Lcom/example/fixtures_per_argument/fixturesperargument/engine/Phase;)Z"), (3, u "law"), (0, u "(II)Z")] 2

def k1m0 : Method := { name := "<init>", desc := "()V", sig := { parameters := [], returnType := none }, accessFlags := 2, code := none }
def k1c1 : Code := { maxStack := 2, maxLocals := 1, code := method_2_code, exceptionTable := #[], attributes := #[] }
def k1m1 : Method := { name := "kindOf", desc := "(I)Lcom/example/fixtures_per_argument/fixturesperargument/engine/ParameterKind;", sig := { parameters := [.int], returnType := some (.object "com/example/fixtures_per_argument/fixturesperargument/engine/ParameterKind") }, accessFlags := 10, code := some k1c1 }
def k1c2 : Code := { maxStack := 2, maxLocals := 1, code := method_3_code, exceptionTable := #[], attributes := #[] }
def k1m2 : Method := { name := "phaseOf", desc := "(I)Lcom/example/fixtures_per_argument/fixturesperargument/engine/Phase;", sig := { parameters := [.int], returnType := some (.object "com/example/fixtures_per_argument/fixturesperargument/engine/Phase") }, accessFlags := 10, code := some k1c2 }
def k1c3 : Code := { maxStack := 2, maxLocals := 8, code := code, exceptionTable := #[], attributes := #[] }
def k1m3 : Method := { name := "law", desc := "(II)Z", sig := { parameters := [.int, .int], returnType := some .boolean }, accessFlags := 9, code := some k1c3 }
/-- com/example/fixtures_per_argument/fixturesperargument/engine/ParameterKindIsAllowedInPinLaw -/
def k1 : Class := { plain "com/example/fixtures_per_argument/fixturesperargument/engine/ParameterKindIsAllowedInPinLaw" (some 0) with
  accessFlags := 49
  interfaces := #[]
  cf := some (fileOf pool1 48 #[] #[{ accessFlags := 2, nameIndex := 5, descriptorIndex := 6, attributes := #[] }, { accessFlags := 10, nameIndex := 51, descriptorIndex := 52, attributes := #[] }, { accessFlags := 10, nameIndex := 55, descriptorIndex := 56, attributes := #[] }, { accessFlags := 9, nameIndex := 64, descriptorIndex := 65, attributes := #[] }] 49 2 #[] #[])
  fields := #[]
  methods := #[k1m0, k1m1, k1m2, k1m3]
  instanceTypes := #[]
  staticTypes := #[]
  resolved := Array.replicate 68 none
  statics := none }

def pool2 : Array CpInfo := pool [(1, .class_ 2), (0, u "java/lang/constant/Constable"), (0, .class_ 4), (0, u "java/lang/Object")] 6

/-- java/lang/constant/Constable -/
def k2 : Class := { plain "java/lang/constant/Constable" (some 0) with
  accessFlags := 1537
  interfaces := #[]
  cf := some (fileOf pool2 1 #[] #[] 1537 3 #[] #[])
  fields := #[]
  methods := #[]
  instanceTypes := #[]
  staticTypes := #[]
  resolved := Array.replicate 11 none
  statics := none }

def pool3 : Array CpInfo := pool [(1, .class_ 2), (0, u "java/lang/Comparable"), (0, .class_ 4), (0, u "java/lang/Object")] 7

/-- java/lang/Comparable -/
def k3 : Class := { plain "java/lang/Comparable" (some 0) with
  accessFlags := 1537
  interfaces := #[]
  cf := some (fileOf pool3 1 #[] #[] 1537 3 #[] #[])
  fields := #[]
  methods := #[]
  instanceTypes := #[]
  staticTypes := #[]
  resolved := Array.replicate 12 none
  statics := none }

def pool4 : Array CpInfo := pool [(1, .class_ 2), (0, u "java/io/Serializable"), (0, .class_ 4), (0, u "java/lang/Object")] 2

/-- java/io/Serializable -/
def k4 : Class := { plain "java/io/Serializable" (some 0) with
  accessFlags := 1537
  interfaces := #[]
  cf := some (fileOf pool4 1 #[] #[] 1537 3 #[] #[])
  fields := #[]
  methods := #[]
  instanceTypes := #[]
  staticTypes := #[]
  resolved := Array.replicate 7 none
  statics := none }

def pool5 : Array CpInfo := pool [(2, .class_ 4), (1, u "java/lang/Enum"), (0, u "name"), (0, u "Ljava/lang/String;"), (2, u "ordinal"), (0, u "I"), (1, .class_ 14), (1, u "java/lang/Object"), (4, u "hash"), (86, .class_ 108), (1, u "java/lang/Enum$EnumDesc"), (2, .class_ 112), (0, u "java/lang/constant/Constable"), (0, .class_ 114), (0, u "java/lang/Comparable"), (0, .class_ 116), (0, u "java/io/Serializable")] 87

/-- java/lang/Enum -/
def k5 : Class := { plain "java/lang/Enum" (some 0) with
  accessFlags := 1057
  interfaces := #[2, 3, 4]
  cf := some (fileOf pool5 2 #[.nestMembers #[106]] #[] 1057 12 #[111, 113, 115] #[{ accessFlags := 18, nameIndex := 5, descriptorIndex := 6, attributes := #[] }, { accessFlags := 18, nameIndex := 9, descriptorIndex := 10, attributes := #[] }, { accessFlags := 2, nameIndex := 19, descriptorIndex := 10, attributes := #[] }])
  fields := #[{ name := "name", type := (.object "java/lang/String"), accessFlags := 18, slot := 0, constantValue := 0 }, { name := "ordinal", type := .int, accessFlags := 18, slot := 1, constantValue := 0 }, { name := "hash", type := .int, accessFlags := 2, slot := 2, constantValue := 0 }]
  methods := #[]
  instanceTypes := #[(.object "java/lang/String"), .int, .int]
  staticTypes := #[]
  resolved := Array.replicate 204 none
  statics := none }

def pool6 : Array CpInfo := pool [(1, .class_ 2), (0, u "com/example/fixtures_per_argument/fixturesperargument/engine/ParameterKind"), (2, u "PAYLOAD"), (0, u "Lcom/example/fixtures_per_argument/fixturesperargument/engine/ParameterKind;"), (2, u "CLASS_CONTEXT"), (2, u "ARGUMENT_CONTEXT"), (2, u "ENGINE_CONTEXT"), (2, u "$VALUES"), (0, u "[Lcom/example/fixtures_per_argument/fixturesperargument/engine/ParameterKind;"), (6, .class_ 28), (1, u "java/lang/Enum"), (8, u "type"), (0, u "Ljava/lang/Class;"), (2, u "description"), (0, u "Ljava/lang/String;"), (0, .fieldref 1 44), (0, .nameAndType 45 46), (0, u "inClassPhases"), (0, u "Z"), (0, .fieldref 1 48), (0, .nameAndType 49 46), (0, u "inArgumentPhases"), (10, .methodref 61 62), (0, .class_ 63), (0, .nameAndType 64 65), (0, u "com/example/fixtures_per_argument/fixturesperargument/engine/Phase"), (0, u "isPerArgument"), (0, u "()Z"), (42, u "isAllowedIn"), (0, u "(Lcom/example/fixtures_per_argument/fixturesperargument/engine/Phase;)Z")] 73

def k6c0 : Code := { maxStack := 1, maxLocals := 2, code := prog_25_method_5_code, exceptionTable := #[], attributes := #[] }
def k6m0 : Method := { name := "isAllowedIn", desc := "(Lcom/example/fixtures_per_argument/fixturesperargument/engine/Phase;)Z", sig := { parameters := [(.object "com/example/fixtures_per_argument/fixturesperargument/engine/Phase")], returnType := some .boolean }, accessFlags := 0, code := some k6c0 }
/-- com/example/fixtures_per_argument/fixturesperargument/engine/ParameterKind -/
def k6 : Class := { plain "com/example/fixtures_per_argument/fixturesperargument/engine/ParameterKind" (some 5) with
  accessFlags := 16432
  interfaces := #[]
  cf := some (fileOf pool6 1 #[] #[{ accessFlags := 0, nameIndex := 108, descriptorIndex := 109, attributes := #[] }] 16432 26 #[] #[{ accessFlags := 16409, nameIndex := 5, descriptorIndex := 6, attributes := #[] }, { accessFlags := 16409, nameIndex := 9, descriptorIndex := 6, attributes := #[] }, { accessFlags := 16409, nameIndex := 12, descriptorIndex := 6, attributes := #[] }, { accessFlags := 16409, nameIndex := 15, descriptorIndex := 6, attributes := #[] }, { accessFlags := 18, nameIndex := 37, descriptorIndex := 38, attributes := #[] }, { accessFlags := 18, nameIndex := 41, descriptorIndex := 42, attributes := #[] }, { accessFlags := 18, nameIndex := 45, descriptorIndex := 46, attributes := #[] }, { accessFlags := 18, nameIndex := 49, descriptorIndex := 46, attributes := #[] }, { accessFlags := 4122, nameIndex := 18, descriptorIndex := 19, attributes := #[] }])
  fields := #[{ name := "PAYLOAD", type := (.object "com/example/fixtures_per_argument/fixturesperargument/engine/ParameterKind"), accessFlags := 16409, slot := 0, constantValue := 0 }, { name := "CLASS_CONTEXT", type := (.object "com/example/fixtures_per_argument/fixturesperargument/engine/ParameterKind"), accessFlags := 16409, slot := 1, constantValue := 0 }, { name := "ARGUMENT_CONTEXT", type := (.object "com/example/fixtures_per_argument/fixturesperargument/engine/ParameterKind"), accessFlags := 16409, slot := 2, constantValue := 0 }, { name := "ENGINE_CONTEXT", type := (.object "com/example/fixtures_per_argument/fixturesperargument/engine/ParameterKind"), accessFlags := 16409, slot := 3, constantValue := 0 }, { name := "type", type := (.object "java/lang/Class"), accessFlags := 18, slot := 3, constantValue := 0 }, { name := "description", type := (.object "java/lang/String"), accessFlags := 18, slot := 4, constantValue := 0 }, { name := "inClassPhases", type := .boolean, accessFlags := 18, slot := 5, constantValue := 0 }, { name := "inArgumentPhases", type := .boolean, accessFlags := 18, slot := 6, constantValue := 0 }, { name := "$VALUES", type := (.array (.object "com/example/fixtures_per_argument/fixturesperargument/engine/ParameterKind")), accessFlags := 4122, slot := 4, constantValue := 0 }]
  methods := #[k6m0]
  instanceTypes := #[(.object "java/lang/String"), .int, .int, (.object "java/lang/Class"), (.object "java/lang/String"), .boolean, .boolean]
  staticTypes := #[(.object "com/example/fixtures_per_argument/fixturesperargument/engine/ParameterKind"), (.object "com/example/fixtures_per_argument/fixturesperargument/engine/ParameterKind"), (.object "com/example/fixtures_per_argument/fixturesperargument/engine/ParameterKind"), (.object "com/example/fixtures_per_argument/fixturesperargument/engine/ParameterKind"), (.array (.object "com/example/fixtures_per_argument/fixturesperargument/engine/ParameterKind"))]
  resolved := Array.replicate 183 none
  statics := some 0 }

def pool7 : Array CpInfo := pool [(1, .class_ 2), (0, u "com/example/fixtures_per_argument/fixturesperargument/engine/Phase"), (2, u "PREPARE"), (0, u "Lcom/example/fixtures_per_argument/fixturesperargument/engine/Phase;"), (2, u "BEFORE_ALL"), (2, u "BEFORE_EACH"), (2, u "TEST"), (2, u "AFTER_EACH"), (2, u "AFTER_ALL"), (2, u "CONCLUDE"), (2, u "$VALUES"), (0, u "[Lcom/example/fixtures_per_argument/fixturesperargument/engine/Phase;"), (6, .class_ 37), (1, u "java/lang/Enum"), (8, u "onwhat"), (0, u "Ljava/lang/Class;"), (0, .fieldref 1 49), (0, .nameAndType 50 51), (0, u "perArgument"), (0, u "Z"), (2, u "setUp"), (60, u "isPerArgument"), (0, u "()Z")] 35

def k7c0 : Code := { maxStack := 1, maxLocals := 1, code := prog_27_method_5_code, exceptionTable := #[], attributes := #[] }
def k7m0 : Method := { name := "isPerArgument", desc := "()Z", sig := { parameters := [], returnType := some .boolean }, accessFlags := 0, code := some k7c0 }
/-- com/example/fixtures_per_argument/fixturesperargument/engine/Phase -/
def k7 : Class := { plain "com/example/fixtures_per_argument/fixturesperargument/engine/Phase" (some 5) with
  accessFlags := 16432
  interfaces := #[]
  cf := some (fileOf pool7 1 #[] #[{ accessFlags := 0, nameIndex := 115, descriptorIndex := 116, attributes := #[] }] 16432 35 #[] #[{ accessFlags := 16409, nameIndex := 5, descriptorIndex := 6, attributes := #[] }, { accessFlags := 16409, nameIndex := 9, descriptorIndex := 6, attributes := #[] }, { accessFlags := 16409, nameIndex := 12, descriptorIndex := 6, attributes := #[] }, { accessFlags := 16409, nameIndex := 15, descriptorIndex := 6, attributes := #[] }, { accessFlags := 16409, nameIndex := 18, descriptorIndex := 6, attributes := #[] }, { accessFlags := 16409, nameIndex := 21, descriptorIndex := 6, attributes := #[] }, { accessFlags := 16409, nameIndex := 24, descriptorIndex := 6, attributes := #[] }, { accessFlags := 18, nameIndex := 46, descriptorIndex := 47, attributes := #[] }, { accessFlags := 18, nameIndex := 50, descriptorIndex := 51, attributes := #[] }, { accessFlags := 18, nameIndex := 54, descriptorIndex := 6, attributes := #[] }, { accessFlags := 4122, nameIndex := 27, descriptorIndex := 28, attributes := #[] }])
  fields := #[{ name := "PREPARE", type := (.object "com/example/fixtures_per_argument/fixturesperargument/engine/Phase"), accessFlags := 16409, slot := 0, constantValue := 0 }, { name := "BEFORE_ALL", type := (.object "com/example/fixtures_per_argument/fixturesperargument/engine/Phase"), accessFlags := 16409, slot := 1, constantValue := 0 }, { name := "BEFORE_EACH", type := (.object "com/example/fixtures_per_argument/fixturesperargument/engine/Phase"), accessFlags := 16409, slot := 2, constantValue := 0 }, { name := "TEST", type := (.object "com/example/fixtures_per_argument/fixturesperargument/engine/Phase"), accessFlags := 16409, slot := 3, constantValue := 0 }, { name := "AFTER_EACH", type := (.object "com/example/fixtures_per_argument/fixturesperargument/engine/Phase"), accessFlags := 16409, slot := 4, constantValue := 0 }, { name := "AFTER_ALL", type := (.object "com/example/fixtures_per_argument/fixturesperargument/engine/Phase"), accessFlags := 16409, slot := 5, constantValue := 0 }, { name := "CONCLUDE", type := (.object "com/example/fixtures_per_argument/fixturesperargument/engine/Phase"), accessFlags := 16409, slot := 6, constantValue := 0 }, { name := "onwhat", type := (.object "java/lang/Class"), accessFlags := 18, slot := 3, constantValue := 0 }, { name := "perArgument", type := .boolean, accessFlags := 18, slot := 4, constantValue := 0 }, { name := "setUp", type := (.object "com/example/fixtures_per_argument/fixturesperargument/engine/Phase"), accessFlags := 18, slot := 5, constantValue := 0 }, { name := "$VALUES", type := (.array (.object "com/example/fixtures_per_argument/fixturesperargument/engine/Phase")), accessFlags := 4122, slot := 7, constantValue := 0 }]
  methods := #[k7m0]
  instanceTypes := #[(.object "java/lang/String"), .int, .int, (.object "java/lang/Class"), .boolean, (.object "com/example/fixtures_per_argument/fixturesperargument/engine/Phase")]
  staticTypes := #[(.object "com/example/fixtures_per_argument/fixturesperargument/engine/Phase"), (.object "com/example/fixtures_per_argument/fixturesperargument/engine/Phase"), (.object "com/example/fixtures_per_argument/fixturesperargument/engine/Phase"), (.object "com/example/fixtures_per_argument/fixturesperargument/engine/Phase"), (.object "com/example/fixtures_per_argument/fixturesperargument/engine/Phase"), (.object "com/example/fixtures_per_argument/fixturesperargument/engine/Phase"), (.object "com/example/fixtures_per_argument/fixturesperargument/engine/Phase"), (.array (.object "com/example/fixtures_per_argument/fixturesperargument/engine/Phase"))]
  resolved := Array.replicate 152 none
  statics := some 1 }

def pool8 : Array CpInfo := pool [(1, u "java/lang/Cloneable"), (0, .class_ 1), (0, u "java/lang/Object"), (0, .class_ 3)] 3

/-- java/lang/Cloneable -/
def k8 : Class := { plain "java/lang/Cloneable" (some 0) with
  accessFlags := 1537
  interfaces := #[]
  cf := some (fileOf pool8 2 #[] #[] 1537 4 #[] #[])
  fields := #[]
  methods := #[]
  instanceTypes := #[]
  staticTypes := #[]
  resolved := Array.replicate 8 none
  statics := none }

/-- the primitive byte -/
def k9 : Class := { plain "byte" none with kind := .primitive 'B', accessFlags := 0x411 }
/-- [B -/
def k10 : Class := { plain "[B" (some 0) with kind := .array 9 .byte, interfaces := #[8, 4], accessFlags := 1041 }

/-- the primitive int -/
def k11 : Class := { plain "int" none with kind := .primitive 'I', accessFlags := 0x411 }
/-- [I -/
def k12 : Class := { plain "[I" (some 0) with kind := .array 11 .int, interfaces := #[8, 4], accessFlags := 1041 }

def heap : Heap := #[{ cls := 6, slots := #[.ref 9, .ref 10, .ref 11, .ref 12, .null], vm := .statics 6 },
  { cls := 7, slots := #[.ref 2, .ref 3, .ref 4, .ref 5, .ref 6, .ref 7, .ref 8, .null], vm := .statics 7 },
  { cls := 7, slots := #[.null, .int 0, .int 0, .null, .int 0, .null], vm := .none },
  { cls := 7, slots := #[.null, .int 1, .int 0, .null, .int 1, .null], vm := .none },
  { cls := 7, slots := #[.null, .int 2, .int 0, .null, .int 1, .null], vm := .none },
  { cls := 7, slots := #[.null, .int 3, .int 0, .null, .int 1, .null], vm := .none },
  { cls := 7, slots := #[.null, .int 4, .int 0, .null, .int 1, .ref 4], vm := .none },
  { cls := 7, slots := #[.null, .int 5, .int 0, .null, .int 1, .ref 3], vm := .none },
  { cls := 7, slots := #[.null, .int 6, .int 0, .null, .int 0, .ref 2], vm := .none },
  { cls := 6, slots := #[.null, .int 0, .int 0, .null, .null, .int 0, .int 1], vm := .none },
  { cls := 6, slots := #[.null, .int 1, .int 0, .null, .null, .int 1, .int 0], vm := .none },
  { cls := 6, slots := #[.null, .int 2, .int 0, .null, .null, .int 0, .int 1], vm := .none },
  { cls := 6, slots := #[.null, .int 3, .int 0, .null, .null, .int 0, .int 0], vm := .none }]
def classes : Array Class := #[k0, k1, k2, k3, k4, k5, k6, k7, k8, k9, k10, k11, k12]
def interned : List (Array UInt16 × Addr) := []
def slotsUsed : Nat := 83
def theMethod : MethodId := ⟨1, 3⟩
def args0 : Array Value := #[.int 5, .int 6]
def aboutOver (below : List Frame) : State where
  vm := { classes := classes, interned := interned.toArray }
  heap := heap
  slotsUsed := slotsUsed
  threads := #[{ frames := .invoking theMethod args0 :: below }]
def below0 : List Frame := [.native { method := ⟨0, 0⟩, args := #[] }]
def about1 : State := aboutOver below0
def p0 : Program := .bare "" "" ""
def e0 : Env := launch0.env 0 0 0
theorem w_frames : about1.frames = Frame.invoking theMethod args0 :: below0 := rfl
set_option maxRecDepth 65536 in
theorem w_args : argsFit about1.vm theMethod args0 = true := by decide +kernel
set_option maxRecDepth 65536 in
theorem w_heap : heapFits about1 = true := by decide +kernel
set_option maxRecDepth 65536 in
theorem w_runnable : about1.curStatus? = some .runnable := by decide +kernel
set_option maxRecDepth 65536 in
theorem w_alone : about1.alone = true := by decide +kernel
set_option maxRecDepth 65536 in
theorem w_named : about1.methodNamed? x = some theMethod := by decide +kernel
set_option maxRecDepth 65536 in
theorem w_hears : about1.hears theMethod below0 = true := by decide +kernel
set_option maxRecDepth 65536 in
theorem w_ripe : about1.ripe theMethod args0 below0 = true := by decide +kernel
theorem w_running : about1.status = .running := rfl
set_option maxRecDepth 65536 in
theorem w_room : about1.hasRoom e0.platform room_1 = true :=
  launch0.hasRoom_least _ room_1 (by decide +kernel) (by decide +kernel) (by decide +kernel) (by decide +kernel) (by decide +kernel) (by decide +kernel)
theorem allAtoms_all (ts : List Jvm.Cond) (a : Array Jvm.Value) (st : Jvm.State) : (allAtoms ts).before a st = ts.all (fun c => c.before a st) := by
  induction ts with
  | nil => rfl
  | cons c t ih =>
    show (Jvm.Cond.and c (allAtoms t)).before a st = _
    rw [Jvm.Cond.before_and, ih, List.all_cons]
def words1 : List Jvm.Cond := Jvm.Cond.code x code maxLocals ret :: tables_1
/-- a 'code' word, met by the world's own term for the bytes: nothing is compared byte by byte -/
theorem code_word {y : MethodName} {bytes : ByteArray} {mx : Nat} {rt : Option FieldType} {a : Array Value} {s : State} {m : MethodId} {meth : Method} {c : Code} (h1 : s.methodNamed? y = some m) (h2 : s.vm.method? m = some meth) (h3 : meth.code = some c) (h4 : c.code = bytes)
    (h5 : (c.maxLocals == mx && c.exceptionTable.isEmpty && decide (c.maxStack ≤ mostOperands) && decide (meth.sig.returnType = rt) && !meth.locks && decide (parseMethodDescriptor y.desc = some meth.sig)) = true) : (Jvm.Cond.code y bytes mx rt).before a s = true := by
  simp only [Bool.and_eq_true, beq_iff_eq, Bool.not_eq_true', decide_eq_true_eq] at h5
  obtain ⟨⟨⟨⟨⟨g1, g2⟩, g3⟩, g4⟩, g5⟩, g6⟩ := h5
  simp [Cond.before, Cond.holds, Cond.value, h1, h2, h3, h4, g1, g2, g3, g4, g5, g6]
def isCode : Jvm.Cond → Bool
  | .code _ _ _ _ => true
  | _ => false
theorem all_split {L : List Jvm.Cond} {P : Jvm.Cond → Bool} (h1 : L.all (fun c => isCode c || P c) = true) (h2 : ∀ c ∈ L.filter isCode, P c = true) : L.all P = true := by
  refine List.all_eq_true.mpr fun c hc => ?_
  have h := List.all_eq_true.mp h1 c hc
  rcases Bool.eq_false_or_eq_true (isCode c) with hi | hi
  · exact h2 c (List.mem_filter.mpr ⟨hc, hi⟩)
  · simpa [hi] using h
set_option maxRecDepth 65536 in
theorem w_c0 : (Jvm.Cond.code x code maxLocals ret).before args0 about1 = true := code_word (m := ⟨1, 3⟩) (meth := k1m3) (c := k1c3) (by decide +kernel) rfl rfl rfl (by decide +kernel)
set_option maxRecDepth 65536 in
theorem w_c1 : (Jvm.Cond.code ({ cls := "com/example/fixtures_per_argument/fixturesperargument/engine/ParameterKindIsAllowedInPinLaw", name := "kindOf", desc := "(I)Lcom/example/fixtures_per_argument/fixturesperargument/engine/ParameterKind;" } : Jvm.MethodName) method_2_code (1 : Nat) (Option.some (Jvm.ClassFile.FieldType.object "com/example/fixtures_per_argument/fixturesperargument/engine/ParameterKind"))).before args0 about1 = true := code_word (m := ⟨1, 1⟩) (meth := k1m1) (c := k1c1) (by decide +kernel) rfl rfl rfl (by decide +kernel)
set_option maxRecDepth 65536 in
theorem w_c2 : (Jvm.Cond.code ({ cls := "com/example/fixtures_per_argument/fixturesperargument/engine/ParameterKindIsAllowedInPinLaw", name := "phaseOf", desc := "(I)Lcom/example/fixtures_per_argument/fixturesperargument/engine/Phase;" } : Jvm.MethodName) method_3_code (1 : Nat) (Option.some (Jvm.ClassFile.FieldType.object "com/example/fixtures_per_argument/fixturesperargument/engine/Phase"))).before args0 about1 = true := code_word (m := ⟨1, 2⟩) (meth := k1m2) (c := k1c2) (by decide +kernel) rfl rfl rfl (by decide +kernel)
set_option maxRecDepth 65536 in
theorem w_c3 : (Jvm.Cond.code ({ cls := "com/example/fixtures_per_argument/fixturesperargument/engine/ParameterKind", name := "isAllowedIn", desc := "(Lcom/example/fixtures_per_argument/fixturesperargument/engine/Phase;)Z" } : Jvm.MethodName) prog_25_method_5_code (2 : Nat) (Option.some Jvm.ClassFile.FieldType.boolean)).before args0 about1 = true := code_word (m := ⟨6, 0⟩) (meth := k6m0) (c := k6c0) (by decide +kernel) rfl rfl rfl (by decide +kernel)
set_option maxRecDepth 65536 in
theorem w_c4 : (Jvm.Cond.code ({ cls := "com/example/fixtures_per_argument/fixturesperargument/engine/Phase", name := "isPerArgument", desc := "()Z" } : Jvm.MethodName) prog_27_method_5_code (1 : Nat) (Option.some Jvm.ClassFile.FieldType.boolean)).before args0 about1 = true := code_word (m := ⟨7, 0⟩) (meth := k7m0) (c := k7c0) (by decide +kernel) rfl rfl rfl (by decide +kernel)
def codes1 : List Jvm.Cond := [Jvm.Cond.code x code maxLocals ret, Jvm.Cond.code ({ cls := "com/example/fixtures_per_argument/fixturesperargument/engine/ParameterKindIsAllowedInPinLaw", name := "kindOf", desc := "(I)Lcom/example/fixtures_per_argument/fixturesperargument/engine/ParameterKind;" } : Jvm.MethodName) method_2_code (1 : Nat) (Option.some (Jvm.ClassFile.FieldType.object "com/example/fixtures_per_argument/fixturesperargument/engine/ParameterKind")), Jvm.Cond.code ({ cls := "com/example/fixtures_per_argument/fixturesperargument/engine/ParameterKindIsAllowedInPinLaw", name := "phaseOf", desc := "(I)Lcom/example/fixtures_per_argument/fixturesperargument/engine/Phase;" } : Jvm.MethodName) method_3_code (1 : Nat) (Option.some (Jvm.ClassFile.FieldType.object "com/example/fixtures_per_argument/fixturesperargument/engine/Phase")), Jvm.Cond.code ({ cls := "com/example/fixtures_per_argument/fixturesperargument/engine/ParameterKind", name := "isAllowedIn", desc := "(Lcom/example/fixtures_per_argument/fixturesperargument/engine/Phase;)Z" } : Jvm.MethodName) prog_25_method_5_code (2 : Nat) (Option.some Jvm.ClassFile.FieldType.boolean), Jvm.Cond.code ({ cls := "com/example/fixtures_per_argument/fixturesperargument/engine/Phase", name := "isPerArgument", desc := "()Z" } : Jvm.MethodName) prog_27_method_5_code (1 : Nat) (Option.some Jvm.ClassFile.FieldType.boolean)]
set_option maxRecDepth 65536 in
theorem codes_eq : words1.filter isCode = codes1 := rfl
theorem w_codes : ∀ c ∈ words1.filter isCode, c.before args0 about1 = true := by
  rw [codes_eq]
  intro c hc
  simp only [codes1, List.mem_cons, List.not_mem_nil, or_false] at hc
  rcases hc with rfl | rfl | rfl | rfl | rfl
  · exact w_c0
  · exact w_c1
  · exact w_c2
  · exact w_c3
  · exact w_c4
set_option maxRecDepth 65536 in
theorem w_t1 : (words1.take 24).all (fun c => isCode c || c.before args0 about1) = true := by decide +kernel
set_option maxRecDepth 65536 in
theorem w_t2 : ((words1.drop 24).take 24).all (fun c => isCode c || c.before args0 about1) = true := by decide +kernel
set_option maxRecDepth 65536 in
theorem w_t3 : ((words1.drop 24).drop 24).all (fun c => isCode c || c.before args0 about1) = true := by decide +kernel
theorem w_tables : (allAtoms (Jvm.Cond.code x code maxLocals ret :: tables_1)).before args0 about1 = true := by
  rw [allAtoms_all]
  show words1.all (fun c => c.before args0 about1) = true
  refine all_split ?_ w_codes
  rw [← List.take_append_drop 24 words1, List.all_append, w_t1, ← List.take_append_drop 24 (words1.drop 24), List.all_append, w_t2, w_t3]
  rfl
set_option maxRecDepth 65536 in
theorem w_case : (Jvm.Cond.and given_1 narrow_1).before args0 about1 = true := by decide +kernel
theorem w_applies : (headSpec (Jvm.Cond.code x code maxLocals ret :: tables_1) room_1).applies x e0.platform about1 = true :=
  (Spec.applies_iff w_frames).mpr ⟨w_running, w_runnable, w_alone, w_named, w_hears, w_ripe, w_room, w_tables⟩
theorem atStart : AtStart classFile x code maxLocals ret World_1 tables_1 room_1 Calls_1 rest_1 Pre_1 launch0 p0 e0 about1 theMethod args0 below0 :=
  ⟨lists_1, trivial, launch0.admits_env _ _ _, launch0.least_env, fairChoices_fair.cas, fairChoices_fair.clock, w_frames, w_args, w_heap, w_applies, trivial, trivial, w_case⟩
end start1
theorem witness_1 : WitnessClaimed_1 := ⟨start1.p0, start1.e0, start1.about1, start1.theMethod, start1.args0, start1.below0, start1.atStart⟩
end Jvm.Pilot.@@N@@
