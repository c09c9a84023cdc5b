import JvmDerived
import JvmDerived.Pilot.@@N@@Statement
import JvmDerived.Pilot.@@N@@Code
set_option linter.unusedVariables false
set_option linter.unusedSimpArgs false
namespace Jvm.RoadKit
open Sem ClassFile Op Lib Jvm.Stand Jvm.Free Jvm.LawKit
section New
variable {p : Program} {l : Launch} {e : Env} {R : Room} {s : State} {m : MethodId} {args : Array Value} {below : List Frame} {meth : Method} {c : Code} {T : State} {locs : List Loc} {cells slots : Nat}
theorem retI (X : Stand p l e R s m args below meth c T locs cells slots) (hx : p.tables.exec = Jvm.exec) {pc : Nat} {Ls : Array Slot} {z : Int32} {rest : List Value} (hret : meth.sig.returnType = some .int) (hd : decode c.code pc = .ok (.ireturn, 1)) {fs : List Frame}
    (hl : ∀ (f : JFrame) (acts : List Action), f.method = m → f.locked = none → f.entered = [] → (doReturn e (T.setTop f) acts (some (.int z))).1 = T.setFrames fs) : Steps p.tables e below (T.setTop (mkF m pc Ls (.int z :: rest))) (T.setFrames fs) := by
  have hm' : T.vm.method? m = some meth := X.method'
  have hn : narrow .int (.int z) = .int z := rfl
  show Steps p.tables e below (T.setTop { method := m, pc := pc, locals := Ls, stack := _ :: rest, locked := none }) _
  jvm_step X.here [X.here.top, hx, hd, hm', hret, hn]
  first | (intro acts; rw [hl _ acts rfl rfl rfl]) | rw [hl _ _ rfl rfl rfl]
  exact Steps.refl _
end New
end Jvm.RoadKit
namespace Jvm.Pilot.@@N@@
open Jvm Jvm.ClassFile Sem Op Lib Jvm.Free Jvm.Stand Jvm.LawKit Jvm.RoadKit Bundle Jvm.Pilot.@@N@@.Jvm.D
/-- what a call that writes nothing leaves -/
def PureQ (rv : Option Value) (h0 : Heap) (n0 : Nat) (v : Option Value) (h : Heap) (L : List Loc) : Prop := v = rv ∧ Fr n0 L ∧ h = h0
/-- what the law leaves -/
def LawQ (n0 : Nat) (v : Option Value) (h : Heap) (L : List Loc) : Prop := v = some (.int (1 : Int32)) ∧ Fr n0 L
theorem own_fld {Z : State} {args : Array Value} {a : Addr} {t u : Term} {C n d : String} {v : Value} (ev : t.eval args Z none [] Z = some (.ref a)) (h : (Jvm.Cond.eq (Term.field t C n d) u).value args Z none Z [] = some true) (eu : u.eval args Z none [] Z = some v) : Fld Z Z.heap a C n d v := by
  obtain ⟨x, y, h1, h2, -⟩ := cmp_v (Or.inl h)
  have e2 : y = v := Option.some.inj (h2.symm.trans eu)
  subst e2
  have e3 : x = y := by
    simp only [Jvm.Cond.value, h1, h2] at h
    cases x <;> cases y <;> simp_all
  subst e3
  exact Fld.start ((fld_at ev).symm.trans h1)
theorem pn_Direction : plainName "com/example/tumbleweir/tumbleweir/engine/Direction" = true := by first | (simp [plainName, overriddenIn]; done) | decide +kernel
theorem ef_moves (m : MethodId) (x0 : Addr) : entryFrame m #[(.ref x0)] 1 = mkF m 0 #[.val (.ref x0)] [] := by first | (simp [entryFrame, mkF, argsToLocals, Value.category]; done) | rfl
theorem d1_0 : decode prog_36_method_5_code 0 = .ok (.aload_n 0, 1) := by decide +kernel
theorem d1_1 : decode prog_36_method_5_code 1 = .ok (.getstatic 3, 3) := by decide +kernel
theorem d1_4 : decode prog_36_method_5_code 4 = .ok (.if_acmp .eq 10, 3) := by decide +kernel
theorem d1_14 : decode prog_36_method_5_code 14 = .ok (.iconst 1, 1) := by decide +kernel
theorem d1_15 : decode prog_36_method_5_code 15 = .ok (.goto 4, 3) := by decide +kernel
theorem d1_19 : decode prog_36_method_5_code 19 = .ok (.ireturn, 1) := by decide +kernel
theorem d1_7 : decode prog_36_method_5_code 7 = .ok (.aload_n 0, 1) := by decide +kernel
theorem d1_8 : decode prog_36_method_5_code 8 = .ok (.getstatic 7, 3) := by decide +kernel
theorem d1_11 : decode prog_36_method_5_code 11 = .ok (.if_acmp .ne 7, 3) := by decide +kernel
theorem d1_18 : decode prog_36_method_5_code 18 = .ok (.iconst 0, 1) := by decide +kernel
theorem pn_Enum : plainName "java/lang/Enum" = true := by first | (simp [plainName, overriddenIn]; done) | decide +kernel
theorem ef_ordinal (m : MethodId) (x0 : Addr) : entryFrame m #[(.ref x0)] 1 = mkF m 0 #[.val (.ref x0)] [] := by first | (simp [entryFrame, mkF, argsToLocals, Value.category]; done) | rfl
theorem d3_0 : decode jdk_37_method_2_code 0 = .ok (.aload_n 0, 1) := by decide +kernel
theorem d3_1 : decode jdk_37_method_2_code 1 = .ok (.getfield 7, 3) := by decide +kernel
theorem d3_4 : decode jdk_37_method_2_code 4 = .ok (.ireturn, 1) := by decide +kernel
theorem ef_reverse (m : MethodId) (x0 : Addr) : entryFrame m #[(.ref x0)] 1 = mkF m 0 #[.val (.ref x0)] [] := by first | (simp [entryFrame, mkF, argsToLocals, Value.category]; done) | rfl
theorem d2_0 : decode prog_36_method_7_code 0 = .ok (.aload_n 0, 1) := by decide +kernel
theorem d2_1 : decode prog_36_method_7_code 1 = .ok (.invokevirtual 35, 3) := by decide +kernel
theorem pd___I_3 : parseMethodDescriptor "()I" = some ⟨[], some .int⟩ := by decide +kernel
theorem d2_4 : decode prog_36_method_7_code 4 = .ok (.lookupswitch 40 #[(0, 28), (1, 34)], 28) := by decide +kernel
theorem d2_32 : decode prog_36_method_7_code 32 = .ok (.getstatic 7, 3) := by decide +kernel
theorem d2_35 : decode prog_36_method_7_code 35 = .ok (.goto 10, 3) := by decide +kernel
theorem d2_45 : decode prog_36_method_7_code 45 = .ok (.areturn, 1) := by decide +kernel
theorem d2_38 : decode prog_36_method_7_code 38 = .ok (.getstatic 3, 3) := by decide +kernel
theorem d2_41 : decode prog_36_method_7_code 41 = .ok (.goto 4, 3) := by decide +kernel
theorem d2_44 : decode prog_36_method_7_code 44 = .ok (.aload_n 0, 1) := by decide +kernel
theorem pn_DirectionMovesPinLaw : plainName "com/example/tumbleweir/tumbleweir/engine/DirectionMovesPinLaw" = true := by first | (simp [plainName, overriddenIn]; done) | decide +kernel
theorem ef_law (m : MethodId) (x0 : Int32) : entryFrame m #[(.int x0)] maxLocals = mkF m 0 #[.val (.int x0), .unset, .unset, .unset, .unset] [] := by first | (simp [entryFrame, mkF, argsToLocals, Value.category, maxLocals]; done) | rfl
theorem pd___Z_3 : parseMethodDescriptor "()Z" = some ⟨[], some .boolean⟩ := by decide +kernel
theorem pd__tumbleweir_tumbleweir_engine_Direction__54 : parseMethodDescriptor "()Lcom/example/tumbleweir/tumbleweir/engine/Direction;" = some ⟨[], some (.object "com/example/tumbleweir/tumbleweir/engine/Direction")⟩ := by decide +kernel
theorem own_miss2 {k : Int32} {o1 o2 : Int} (h1 : ¬ (k = (0 : Int32))) (h2 : ¬ (k = (1 : Int32))) : (#[((0 : Int), o1), ((1 : Int), o2)] : Array (Int × Int)).find? (·.1 == k.toInt) = none := by
  have e1 : ¬ (k.toInt = 0) := fun q => h1 (Int32.toInt_inj.mp (by rw [q]; rfl))
  have e2 : ¬ (k.toInt = 1) := fun q => h2 (Int32.toInt_inj.mp (by rw [q]; rfl))
  simp [Ne.symm e1, Ne.symm e2]

def f_moves (wA : Addr) (wD : Addr) (wC : Addr) (wN : Addr) (a1 : Addr) : Int32 := (if a1 = wA then (1 : Int32) else (if a1 = wD then (1 : Int32) else (0 : Int32)))
set_option maxRecDepth 65536 in
set_option maxHeartbeats 40000000 in
theorem rm_moves (l : Launch) (Z : State) (a0 : Array Value) (hw : ∀ d ∈ tables_1, d.before a0 Z = true) (ws : List Jvm.Cond) (wA : Addr) (wD : Addr) (wC : Addr) (wN : Addr) (a1 : Addr) (h0 : Heap) (n0 : Nat) (Z0 : n0 ≤ h0.size) (S_wA : Sta Z h0 "com/example/tumbleweir/tumbleweir/engine/Direction" "ASCENDING" "Lcom/example/tumbleweir/tumbleweir/engine/Direction;" (.ref wA)) (S_wD : Sta Z h0 "com/example/tumbleweir/tumbleweir/engine/Direction" "DESCENDING" "Lcom/example/tumbleweir/tumbleweir/engine/Direction;" (.ref wD)) (S_wC : Sta Z h0 "com/example/tumbleweir/tumbleweir/engine/Direction" "CONSTANT" "Lcom/example/tumbleweir/tumbleweir/engine/Direction;" (.ref wC)) (S_wN : Sta Z h0 "com/example/tumbleweir/tumbleweir/engine/Direction" "NONE" "Lcom/example/tumbleweir/tumbleweir/engine/Direction;" (.ref wN)) :
    MetFree l (⟨"com/example/tumbleweir/tumbleweir/engine/Direction", "moves", "()Z"⟩ : MethodName) (head1 (Jvm.Cond.code (⟨"com/example/tumbleweir/tumbleweir/engine/Direction", "moves", "()Z"⟩ : MethodName) prog_36_method_5_code 1 (some .boolean) :: ws) ({ frames := 0, cells := 0, slots := 0, locals := 0 } : Room)) (fun a U => a = #[(.ref a1)] ∧ Z.Warmed39 U.vm ∧ U.heap = h0) (fun _ _ _ _ _ => True) (fun _ U o U' => ∃ v L, o = .returned v ∧ PureQ (some (.int (f_moves wA wD wC wN a1))) h0 n0 v U'.heap L ∧ FrameEnd U o U' L ({ frames := 0, cells := 0, slots := 0, locals := 0 } : Room).cells ({ frames := 0, cells := 0, slots := 0, locals := 0 } : Room).slots) := by
  refine MetFree.of_bodySF (plainFor_of_name pn_Direction) hisR ?_
  intro p e s m args below meth c s₁ Bd hml0 hP hK
  obtain ⟨rfl, hZ, hh⟩ := hP
  have hx := Bd.exec
  have hby := Bd.bytes
  have hml : c.maxLocals = 1 := hml0
  have hown : s.vm.findClass "com/example/tumbleweir/tumbleweir/engine/Direction" = some m.cls := findClass_of_methodNamed Bd.named
  have hnm := (name_of_methodNamed Bd.named Bd.method).1
  have X0 : Stand p l e ({ frames := 0, cells := 0, slots := 0, locals := 0 } : Room) s m #[(.ref a1)] below meth c s₁ [] 0 0 := Stand.of_body Bd
  have e0 : s₁.heap = h0 := by rw [← hh, Bd.state]; rfl
  have N0 := Fr.nil n0
  have pre0 : ∀ t, Steps p.tables e below (s₁.setTop (mkF m 0 #[.val (.ref a1)] [])) t → Steps p.tables e below (s₁.setTop (entryFrame m #[(.ref a1)] 1)) t := fun t k => castTop (ef_moves m a1) k
  obtain ⟨T1, X1, e1, st1⟩ := getS2 X0 hx hZ hown (host := "") (Or.inl (hw _ (List.mem_of_getElem? (i := 8) rfl))) Via.refl e0 S_wA (g := (mkF m 1 #[.val (.ref a1)] [(.ref a1)])) rfl (hb hby d1_1)
  have pre2 : ∀ t, Steps p.tables e below (T1.setTop (mkF m 4 #[.val (.ref a1)] [(.ref wA), (.ref a1)])) t → Steps p.tables e below (s₁.setTop (entryFrame m #[(.ref a1)] 1)) t := fun t k => pre0 t (by
      show Steps p.tables e below (s₁.setTop (mkF m 0 #[.val (.ref a1)] [])) _
      refine XS.aloadN X0.here hx rfl (hb hby d1_0) rfl rfl ?_
      show Steps p.tables e below (s₁.setTop (mkF m 1 #[.val (.ref a1)] [(.ref a1)])) _
      refine st1 _ ?_
      exact k)
  by_cases g3 : a1 = wA
  · skip
    obtain ⟨fs, hr, hrun, hended, hW, hsame⟩ := X1.leave (v := some (.int (1 : Int32))) (fun h => by rw [Bd.returns] at h; cases h)
    refine ⟨_, _, pre2 _ ?_, hrun, hended, _, _, rfl, ?_, ⟨_, rfl⟩, hW, hsame.mono (by decide) (by decide)⟩
    · show Steps p.tables e below (T1.setTop (mkF m 4 #[.val (.ref a1)] [(.ref wA), (.ref a1)])) _
      refine Jvm.RoadKit.acmp (g := (mkF m 4 #[.val (.ref a1)] [(.ref wA), (.ref a1)])) X1 hx rfl rfl rfl (pc0 := 4) (pc' := 14) (same := true) rfl (hb hby d1_4) rfl (decide_eq_true (congrArg Value.ref g3)) (by decide) (by decide) ?_
      show Steps p.tables e below (T1.setTop (mkF m 14 #[.val (.ref a1)] [])) _
      refine XS.iconst X1.here hx rfl (hb hby d1_14) ?_
      show Steps p.tables e below (T1.setTop (mkF m 15 #[.val (.ref a1)] [(.int (1 : Int32))])) _
      refine XS.goto X1.here hx rfl (pc0 := 15) (pc' := 19) rfl (hb hby d1_15) (by decide) (by decide) ?_
      show Steps p.tables e below (T1.setTop (mkF m 19 #[.val (.ref a1)] [(.int (1 : Int32))])) _
      exact retN X1 hx (t := .boolean) Bd.returns (by simp) (hb hby d1_19) hr
    · exact ⟨by simp only [f_moves, if_pos g3], N0, e1⟩
  · skip
    obtain ⟨T4, X4, e4, st4⟩ := getS2 X1 hx hZ hown (host := "") (Or.inl (hw _ (List.mem_of_getElem? (i := 23) rfl))) Via.refl e1 S_wD (g := (mkF m 8 #[.val (.ref a1)] [(.ref a1)])) rfl (hb hby d1_8)
    have pre5 : ∀ t, Steps p.tables e below (T4.setTop (mkF m 11 #[.val (.ref a1)] [(.ref wD), (.ref a1)])) t → Steps p.tables e below (s₁.setTop (entryFrame m #[(.ref a1)] 1)) t := fun t k => pre2 t (by
        show Steps p.tables e below (T1.setTop (mkF m 4 #[.val (.ref a1)] [(.ref wA), (.ref a1)])) _
        refine Jvm.RoadKit.acmp (g := (mkF m 4 #[.val (.ref a1)] [(.ref wA), (.ref a1)])) X1 hx rfl rfl rfl (pc0 := 4) (pc' := 7) (same := false) rfl (hb hby d1_4) rfl (decide_eq_false fun q => g3 (Value.ref.inj q)) (by decide) (by decide) ?_
        show Steps p.tables e below (T1.setTop (mkF m 7 #[.val (.ref a1)] [])) _
        refine XS.aloadN X1.here hx rfl (hb hby d1_7) rfl rfl ?_
        show Steps p.tables e below (T1.setTop (mkF m 8 #[.val (.ref a1)] [(.ref a1)])) _
        refine st4 _ ?_
        exact k)
    by_cases g6 : a1 = wD
    · skip
      obtain ⟨fs, hr, hrun, hended, hW, hsame⟩ := X4.leave (v := some (.int (1 : Int32))) (fun h => by rw [Bd.returns] at h; cases h)
      refine ⟨_, _, pre5 _ ?_, hrun, hended, _, _, rfl, ?_, ⟨_, rfl⟩, hW, hsame.mono (by decide) (by decide)⟩
      · show Steps p.tables e below (T4.setTop (mkF m 11 #[.val (.ref a1)] [(.ref wD), (.ref a1)])) _
        refine Jvm.RoadKit.acmp (g := (mkF m 11 #[.val (.ref a1)] [(.ref wD), (.ref a1)])) X4 hx rfl rfl rfl (pc0 := 11) (pc' := 14) (same := true) rfl (hb hby d1_11) rfl (decide_eq_true (congrArg Value.ref g6)) (by decide) (by decide) ?_
        show Steps p.tables e below (T4.setTop (mkF m 14 #[.val (.ref a1)] [])) _
        refine XS.iconst X4.here hx rfl (hb hby d1_14) ?_
        show Steps p.tables e below (T4.setTop (mkF m 15 #[.val (.ref a1)] [(.int (1 : Int32))])) _
        refine XS.goto X4.here hx rfl (pc0 := 15) (pc' := 19) rfl (hb hby d1_15) (by decide) (by decide) ?_
        show Steps p.tables e below (T4.setTop (mkF m 19 #[.val (.ref a1)] [(.int (1 : Int32))])) _
        exact retN X4 hx (t := .boolean) Bd.returns (by simp) (hb hby d1_19) hr
      · exact ⟨by simp only [f_moves, if_neg g3, if_pos g6], N0, e4⟩
    · skip
      obtain ⟨fs, hr, hrun, hended, hW, hsame⟩ := X4.leave (v := some (.int (0 : Int32))) (fun h => by rw [Bd.returns] at h; cases h)
      refine ⟨_, _, pre5 _ ?_, hrun, hended, _, _, rfl, ?_, ⟨_, rfl⟩, hW, hsame.mono (by decide) (by decide)⟩
      · show Steps p.tables e below (T4.setTop (mkF m 11 #[.val (.ref a1)] [(.ref wD), (.ref a1)])) _
        refine Jvm.RoadKit.acmp (g := (mkF m 11 #[.val (.ref a1)] [(.ref wD), (.ref a1)])) X4 hx rfl rfl rfl (pc0 := 11) (pc' := 18) (same := false) rfl (hb hby d1_11) rfl (decide_eq_false fun q => g6 (Value.ref.inj q)) (by decide) (by decide) ?_
        show Steps p.tables e below (T4.setTop (mkF m 18 #[.val (.ref a1)] [])) _
        refine XS.iconst X4.here hx rfl (hb hby d1_18) ?_
        show Steps p.tables e below (T4.setTop (mkF m 19 #[.val (.ref a1)] [(.int (0 : Int32))])) _
        exact retN X4 hx (t := .boolean) Bd.returns (by simp) (hb hby d1_19) hr
      · exact ⟨by simp only [f_moves, if_neg g3, if_neg g6], N0, e4⟩
def f_ordinal (wA : Addr) (wD : Addr) (wC : Addr) (wN : Addr) (a1 : Addr) (z : Int32) : Int32 := z
set_option maxRecDepth 65536 in
set_option maxHeartbeats 40000000 in
theorem rm_ordinal (l : Launch) (Z : State) (a0 : Array Value) (hw : ∀ d ∈ tables_1, d.before a0 Z = true) (ws : List Jvm.Cond) (wA : Addr) (wD : Addr) (wC : Addr) (wN : Addr) (a1 : Addr) (z : Int32) (h0 : Heap) (n0 : Nat) (Z0 : n0 ≤ h0.size) (S_wA : Sta Z h0 "com/example/tumbleweir/tumbleweir/engine/Direction" "ASCENDING" "Lcom/example/tumbleweir/tumbleweir/engine/Direction;" (.ref wA)) (S_wD : Sta Z h0 "com/example/tumbleweir/tumbleweir/engine/Direction" "DESCENDING" "Lcom/example/tumbleweir/tumbleweir/engine/Direction;" (.ref wD)) (S_wC : Sta Z h0 "com/example/tumbleweir/tumbleweir/engine/Direction" "CONSTANT" "Lcom/example/tumbleweir/tumbleweir/engine/Direction;" (.ref wC)) (S_wN : Sta Z h0 "com/example/tumbleweir/tumbleweir/engine/Direction" "NONE" "Lcom/example/tumbleweir/tumbleweir/engine/Direction;" (.ref wN)) (Fz : Fld Z h0 a1 "java/lang/Enum" "ordinal" "I" (.int z)) :
    MetFree l (⟨"java/lang/Enum", "ordinal", "()I"⟩ : MethodName) (head1 (Jvm.Cond.code (⟨"java/lang/Enum", "ordinal", "()I"⟩ : MethodName) jdk_37_method_2_code 1 (some .int) :: ws) ({ frames := 0, cells := 0, slots := 0, locals := 0 } : Room)) (fun a U => a = #[(.ref a1)] ∧ Z.Warmed39 U.vm ∧ U.heap = h0) (fun _ _ _ _ _ => True) (fun _ U o U' => ∃ v L, o = .returned v ∧ PureQ (some (.int (f_ordinal wA wD wC wN a1 z))) h0 n0 v U'.heap L ∧ FrameEnd U o U' L ({ frames := 0, cells := 0, slots := 0, locals := 0 } : Room).cells ({ frames := 0, cells := 0, slots := 0, locals := 0 } : Room).slots) := by
  refine MetFree.of_bodySF (plainFor_of_name pn_Enum) hisR ?_
  intro p e s m args below meth c s₁ Bd hml0 hP hK
  obtain ⟨rfl, hZ, hh⟩ := hP
  have hx := Bd.exec
  have hby := Bd.bytes
  have hml : c.maxLocals = 1 := hml0
  have hown : s.vm.findClass "java/lang/Enum" = some m.cls := findClass_of_methodNamed Bd.named
  have hnm := (name_of_methodNamed Bd.named Bd.method).1
  have X0 : Stand p l e ({ frames := 0, cells := 0, slots := 0, locals := 0 } : Room) s m #[(.ref a1)] below meth c s₁ [] 0 0 := Stand.of_body Bd
  have e0 : s₁.heap = h0 := by rw [← hh, Bd.state]; rfl
  have N0 := Fr.nil n0
  have pre0 : ∀ t, Steps p.tables e below (s₁.setTop (mkF m 0 #[.val (.ref a1)] [])) t → Steps p.tables e below (s₁.setTop (entryFrame m #[(.ref a1)] 1)) t := fun t k => castTop (ef_ordinal m a1) k
  obtain ⟨T1, X1, e1, st1⟩ := getF X0 hx hZ hown (host := "") (Or.inl (hw _ (List.mem_of_getElem? (i := 21) rfl))) Via.refl e0 Fz (g := (mkF m 1 #[.val (.ref a1)] [(.ref a1)])) rfl rfl (hb hby d3_1)
  obtain ⟨fs, hr, hrun, hended, hW, hsame⟩ := X1.leave (v := some (.int z)) (fun h => by rw [Bd.returns] at h; cases h)
  refine ⟨_, _, pre0 _ ?_, hrun, hended, _, _, rfl, ?_, ⟨_, rfl⟩, hW, hsame.mono (by decide) (by decide)⟩
  · show Steps p.tables e below (s₁.setTop (mkF m 0 #[.val (.ref a1)] [])) _
    refine XS.aloadN X0.here hx rfl (hb hby d3_0) rfl rfl ?_
    show Steps p.tables e below (s₁.setTop (mkF m 1 #[.val (.ref a1)] [(.ref a1)])) _
    refine st1 _ ?_
    show Steps p.tables e below (T1.setTop (mkF m 4 #[.val (.ref a1)] [(.int z)])) _
    exact retI X1 hx Bd.returns (hb hby d3_4) hr
  · exact ⟨by simp only [f_ordinal], N0, e1⟩
def f_reverse (wA : Addr) (wD : Addr) (wC : Addr) (wN : Addr) (a1 : Addr) (z : Int32) : Addr := (if (f_ordinal wA wD wC wN a1 z) = (0 : Int32) then wD else (if (f_ordinal wA wD wC wN a1 z) = (1 : Int32) then wA else a1))
set_option maxRecDepth 65536 in
set_option maxHeartbeats 40000000 in
theorem rm_reverse (l : Launch) (Z : State) (a0 : Array Value) (hw : ∀ d ∈ tables_1, d.before a0 Z = true) (ws : List Jvm.Cond) (wA : Addr) (wD : Addr) (wC : Addr) (wN : Addr) (a1 : Addr) (z : Int32) (h0 : Heap) (n0 : Nat) (Z0 : n0 ≤ h0.size) (S_wA : Sta Z h0 "com/example/tumbleweir/tumbleweir/engine/Direction" "ASCENDING" "Lcom/example/tumbleweir/tumbleweir/engine/Direction;" (.ref wA)) (S_wD : Sta Z h0 "com/example/tumbleweir/tumbleweir/engine/Direction" "DESCENDING" "Lcom/example/tumbleweir/tumbleweir/engine/Direction;" (.ref wD)) (S_wC : Sta Z h0 "com/example/tumbleweir/tumbleweir/engine/Direction" "CONSTANT" "Lcom/example/tumbleweir/tumbleweir/engine/Direction;" (.ref wC)) (S_wN : Sta Z h0 "com/example/tumbleweir/tumbleweir/engine/Direction" "NONE" "Lcom/example/tumbleweir/tumbleweir/engine/Direction;" (.ref wN)) (Ea : Exa Z h0 a1 "com/example/tumbleweir/tumbleweir/engine/Direction") (Fz : Fld Z h0 a1 "java/lang/Enum" "ordinal" "I" (.int z)) :
    MetFree l (⟨"com/example/tumbleweir/tumbleweir/engine/Direction", "reverse", "()Lcom/example/tumbleweir/tumbleweir/engine/Direction;"⟩ : MethodName) (head1 (Jvm.Cond.code (⟨"com/example/tumbleweir/tumbleweir/engine/Direction", "reverse", "()Lcom/example/tumbleweir/tumbleweir/engine/Direction;"⟩ : MethodName) prog_36_method_7_code 1 (some (.object "com/example/tumbleweir/tumbleweir/engine/Direction")) :: ws) ({ frames := 1, cells := 0, slots := 0, locals := 12 } : Room)) (fun a U => a = #[(.ref a1)] ∧ Z.Warmed39 U.vm ∧ U.heap = h0) (fun _ _ _ _ _ => True) (fun _ U o U' => ∃ v L, o = .returned v ∧ PureQ (some (.ref (f_reverse wA wD wC wN a1 z))) h0 n0 v U'.heap L ∧ FrameEnd U o U' L ({ frames := 1, cells := 0, slots := 0, locals := 12 } : Room).cells ({ frames := 1, cells := 0, slots := 0, locals := 12 } : Room).slots) := by
  refine MetFree.of_bodySF (plainFor_of_name pn_Direction) hisR ?_
  intro p e s m args below meth c s₁ Bd hml0 hP hK
  obtain ⟨rfl, hZ, hh⟩ := hP
  have hx := Bd.exec
  have hby := Bd.bytes
  have hml : c.maxLocals = 1 := hml0
  have hown : s.vm.findClass "com/example/tumbleweir/tumbleweir/engine/Direction" = some m.cls := findClass_of_methodNamed Bd.named
  have hnm := (name_of_methodNamed Bd.named Bd.method).1
  have X0 : Stand p l e ({ frames := 1, cells := 0, slots := 0, locals := 12 } : Room) s m #[(.ref a1)] below meth c s₁ [] 0 0 := Stand.of_body Bd
  have e0 : s₁.heap = h0 := by rw [← hh, Bd.state]; rfl
  have N0 := Fr.nil n0
  have pre0 : ∀ t, Steps p.tables e below (s₁.setTop (mkF m 0 #[.val (.ref a1)] [])) t → Steps p.tables e below (s₁.setTop (entryFrame m #[(.ref a1)] 1)) t := fun t k => castTop (ef_reverse m a1) k
  obtain ⟨cq1, kq1, q1a, q1b, q1c⟩ := isOf hZ e0 Ea
  obtain ⟨_, _, ⟨T1, L1, k1, n1⟩, -, X1, ⟨Lc1, hQ1, l1, y1, z1⟩, st1⟩ := X0.virtualBackUp hx (owner := "java/lang/Enum") (x := (⟨"com/example/tumbleweir/tumbleweir/engine/Direction", "ordinal", "()I"⟩ : MethodName)) (y := (⟨"java/lang/Enum", "ordinal", "()I"⟩ : MethodName)) hown (mvT hZ (hw _ (List.mem_of_getElem? (i := 14) rfl))) (mvT hZ (hw _ (List.mem_of_getElem? (i := 15) rfl))) (mvT hZ (hw _ (List.mem_of_getElem? (i := 16) rfl))) (by decide) (mvT hZ (hw _ (List.mem_of_getElem? (i := 18) rfl))) (mvT hZ (hw _ (List.mem_of_getElem? (i := 17) rfl))) (backOf (W := 0) (rm_ordinal l Z a0 hw [] wA wD wC wN a1 z h0 n0 Z0 S_wA S_wD S_wC S_wN Fz) hZ (hw _ (List.mem_of_getElem? (i := 20) rfl)) (hw _ (List.mem_of_getElem? (i := 19) rfl)) (by decide) (by decide)) q1a q1c (g := (mkF m 1 #[.val (.ref a1)] [(.ref a1)])) rfl (by rw [hml]; rfl) (Steps.refl _) (argsL := []) (rest := []) (lenOf pd___I_3 rfl) rfl (by show 2 * 0 + _ ≤ _; exact Nat.le_of_eq rfl) (hb hby d2_1) (fun _ _ => ⟨rfl, e0, (by decide : 0 + 0 ≤ _), (by decide : 0 + 0 ≤ _)⟩)
  dsimp only [Pt.U, Pt.locs, Pt.cells, Pt.slots] at X1 l1 y1 z1 st1 hQ1
  subst l1 y1 z1
  obtain ⟨rfl, N1q, e1⟩ := hQ1
  have N1 := Fr.app N0 N1q
  have pre2 : ∀ t, Steps p.tables e below (T1.setTop (mkF m 4 #[.val (.ref a1)] [(.int (f_ordinal wA wD wC wN a1 z))])) t → Steps p.tables e below (s₁.setTop (entryFrame m #[(.ref a1)] 1)) t := fun t k => pre0 t (by
      show Steps p.tables e below (s₁.setTop (mkF m 0 #[.val (.ref a1)] [])) _
      refine XS.aloadN X0.here hx rfl (hb hby d2_0) rfl rfl ?_
      show Steps p.tables e below (s₁.setTop (mkF m 1 #[.val (.ref a1)] [(.ref a1)])) _
      refine st1.trans ?_
      exact k)
  by_cases g3 : (f_ordinal wA wD wC wN a1 z) = (0 : Int32)
  · skip
    obtain ⟨T4, X4, e4, st4⟩ := getS2 X1 hx hZ hown (host := "") (Or.inl (hw _ (List.mem_of_getElem? (i := 23) rfl))) Via.refl e1 S_wD (g := (mkF m 32 #[.val (.ref a1)] [])) rfl (hb hby d2_32)
    obtain ⟨fs, hr, hrun, hended, hW, hsame⟩ := X4.leave (v := some (.ref wD)) (fun h => by rw [Bd.returns] at h; cases h)
    refine ⟨_, _, pre2 _ ?_, hrun, hended, _, _, rfl, ?_, ⟨_, rfl⟩, hW, hsame.mono (by decide) (by decide)⟩
    · show Steps p.tables e below (T1.setTop (mkF m 4 #[.val (.ref a1)] [(.int (f_ordinal wA wD wC wN a1 z))])) _
      refine X1.lookupswitchHit hx (g := (mkF m 4 #[.val (.ref a1)] [(.int (f_ordinal wA wD wC wN a1 z))])) rfl (k := (f_ordinal wA wD wC wN a1 z)) rfl (hb hby d2_4) (by decide) (a := 0) (off := 28) (by rw [g3]; decide) (by show (0 : Int) ≤ ((4 : Nat) : Int) + 28; decide) _ ?_
      show Steps p.tables e below (T1.setTop (mkF m 32 #[.val (.ref a1)] [])) _
      refine st4 _ ?_
      show Steps p.tables e below (T4.setTop (mkF m 35 #[.val (.ref a1)] [(.ref wD)])) _
      refine XS.goto X4.here hx rfl (pc0 := 35) (pc' := 45) rfl (hb hby d2_35) (by decide) (by decide) ?_
      show Steps p.tables e below (T4.setTop (mkF m 45 #[.val (.ref a1)] [(.ref wD)])) _
      jvm_step X4.here [X4.here.top, hx, (hb hby d2_45), X4.method', Bd.returns, Value.isRef, FieldType.isReference]
      first | (intro acts; rw [hr _ acts rfl rfl rfl]) | rw [hr _ _ rfl rfl rfl]
      exact Steps.refl _
    · exact ⟨by simp only [f_reverse, if_pos g3], N1, e4⟩
  · skip
    by_cases g5 : (f_ordinal wA wD wC wN a1 z) = (1 : Int32)
    · skip
      obtain ⟨T6, X6, e6, st6⟩ := getS2 X1 hx hZ hown (host := "") (Or.inl (hw _ (List.mem_of_getElem? (i := 8) rfl))) Via.refl e1 S_wA (g := (mkF m 38 #[.val (.ref a1)] [])) rfl (hb hby d2_38)
      obtain ⟨fs, hr, hrun, hended, hW, hsame⟩ := X6.leave (v := some (.ref wA)) (fun h => by rw [Bd.returns] at h; cases h)
      refine ⟨_, _, pre2 _ ?_, hrun, hended, _, _, rfl, ?_, ⟨_, rfl⟩, hW, hsame.mono (by decide) (by decide)⟩
      · show Steps p.tables e below (T1.setTop (mkF m 4 #[.val (.ref a1)] [(.int (f_ordinal wA wD wC wN a1 z))])) _
        refine X1.lookupswitchHit hx (g := (mkF m 4 #[.val (.ref a1)] [(.int (f_ordinal wA wD wC wN a1 z))])) rfl (k := (f_ordinal wA wD wC wN a1 z)) rfl (hb hby d2_4) (by decide) (a := 1) (off := 34) (by rw [g5]; decide) (by show (0 : Int) ≤ ((4 : Nat) : Int) + 34; decide) _ ?_
        show Steps p.tables e below (T1.setTop (mkF m 38 #[.val (.ref a1)] [])) _
        refine st6 _ ?_
        show Steps p.tables e below (T6.setTop (mkF m 41 #[.val (.ref a1)] [(.ref wA)])) _
        refine XS.goto X6.here hx rfl (pc0 := 41) (pc' := 45) rfl (hb hby d2_41) (by decide) (by decide) ?_
        show Steps p.tables e below (T6.setTop (mkF m 45 #[.val (.ref a1)] [(.ref wA)])) _
        jvm_step X6.here [X6.here.top, hx, (hb hby d2_45), X6.method', Bd.returns, Value.isRef, FieldType.isReference]
        first | (intro acts; rw [hr _ acts rfl rfl rfl]) | rw [hr _ _ rfl rfl rfl]
        exact Steps.refl _
      · exact ⟨by simp only [f_reverse, if_neg g3, if_pos g5], N1, e6⟩
    · skip
      obtain ⟨fs, hr, hrun, hended, hW, hsame⟩ := X1.leave (v := some (.ref a1)) (fun h => by rw [Bd.returns] at h; cases h)
      refine ⟨_, _, pre2 _ ?_, hrun, hended, _, _, rfl, ?_, ⟨_, rfl⟩, hW, hsame.mono (by decide) (by decide)⟩
      · show Steps p.tables e below (T1.setTop (mkF m 4 #[.val (.ref a1)] [(.int (f_ordinal wA wD wC wN a1 z))])) _
        refine X1.lookupswitchMiss hx (g := (mkF m 4 #[.val (.ref a1)] [(.int (f_ordinal wA wD wC wN a1 z))])) rfl (k := (f_ordinal wA wD wC wN a1 z)) rfl (hb hby d2_4) (by decide) (own_miss2 g3 g5) (by show (0 : Int) ≤ ((4 : Nat) : Int) + 40; decide) _ ?_
        show Steps p.tables e below (T1.setTop (mkF m 44 #[.val (.ref a1)] [])) _
        refine XS.aloadN X1.here hx rfl (hb hby d2_44) rfl rfl ?_
        show Steps p.tables e below (T1.setTop (mkF m 45 #[.val (.ref a1)] [(.ref a1)])) _
        jvm_step X1.here [X1.here.top, hx, (hb hby d2_45), X1.method', Bd.returns, Value.isRef, FieldType.isReference]
        first | (intro acts; rw [hr _ acts rfl rfl rfl]) | rw [hr _ _ rfl rfl rfl]
        exact Steps.refl _
      · exact ⟨by simp only [f_reverse, if_neg g3, if_neg g5], N1, e1⟩
def v_q (p1 : Int32) : Int32 := (p1 &&& (3 : Int32))
def v_k (p1 : Int32) : Int32 := (p1 &&& (3 : Int32))
def m_law_0 (wA : Addr) (wD : Addr) (wC : Addr) (wN : Addr) (p1 : Int32) : Addr := (if (v_k p1) = (0 : Int32) then wA else (if (v_k p1) = (1 : Int32) then wD else (if (v_k p1) = (2 : Int32) then wC else wN)))
theorem own_e {Z : State} {h0 : Heap} {wA wD wC wN : Addr} {p1 : Int32} (E_wA : Exa Z h0 wA "com/example/tumbleweir/tumbleweir/engine/Direction") (E_wD : Exa Z h0 wD "com/example/tumbleweir/tumbleweir/engine/Direction") (E_wC : Exa Z h0 wC "com/example/tumbleweir/tumbleweir/engine/Direction") (E_wN : Exa Z h0 wN "com/example/tumbleweir/tumbleweir/engine/Direction") : Exa Z h0 (m_law_0 wA wD wC wN p1) "com/example/tumbleweir/tumbleweir/engine/Direction" := by
  unfold m_law_0
  split; · assumption
  split; · assumption
  split <;> assumption
theorem own_f {Z : State} {h0 : Heap} {wA wD wC wN : Addr} {p1 : Int32} (hk : v_k p1 = (0 : Int32) ∨ v_k p1 = (1 : Int32) ∨ v_k p1 = (2 : Int32) ∨ v_k p1 = (3 : Int32)) (F_ordinal_wA : Fld Z h0 wA "java/lang/Enum" "ordinal" "I" (.int (0 : Int32))) (F_ordinal_wD : Fld Z h0 wD "java/lang/Enum" "ordinal" "I" (.int (1 : Int32))) (F_ordinal_wC : Fld Z h0 wC "java/lang/Enum" "ordinal" "I" (.int (2 : Int32))) (F_ordinal_wN : Fld Z h0 wN "java/lang/Enum" "ordinal" "I" (.int (3 : Int32))) : Fld Z h0 (m_law_0 wA wD wC wN p1) "java/lang/Enum" "ordinal" "I" (.int (v_k p1)) := by
  unfold m_law_0
  rcases hk with h | h | h | h <;> rw [h] <;> simpa
def m_law_1 (p1 : Int32) : Int32 := (if (v_k p1) < (2 : Int32) then (1 : Int32) else (0 : Int32))
def m_law_2 (wA : Addr) (wD : Addr) (wC : Addr) (wN : Addr) (p1 : Int32) : Int32 := (if (f_reverse wA wD wC wN (m_law_0 wA wD wC wN p1) (v_k p1)) = (m_law_0 wA wD wC wN p1) then (0 : Int32) else (1 : Int32))
def lawP (wA : Addr) (wD : Addr) (wC : Addr) (wN : Addr) (p1 : Int32) : Prop := (((f_moves wA wD wC wN (m_law_0 wA wD wC wN p1)) = (m_law_1 p1)) ∧ (((f_moves wA wD wC wN (m_law_0 wA wD wC wN p1)) = (m_law_2 wA wD wC wN p1)) ∧ True))
set_option maxRecDepth 65536 in
set_option maxHeartbeats 40000000 in
theorem rm_law (l : Launch) (Z : State) (a0 : Array Value) (hw : ∀ d ∈ tables_1, d.before a0 Z = true) (ws : List Jvm.Cond) (wA : Addr) (wD : Addr) (wC : Addr) (wN : Addr) (p1 : Int32) (h0 : Heap) (n0 : Nat) (Z0 : n0 ≤ h0.size) (S_wA : Sta Z h0 "com/example/tumbleweir/tumbleweir/engine/Direction" "ASCENDING" "Lcom/example/tumbleweir/tumbleweir/engine/Direction;" (.ref wA)) (S_wD : Sta Z h0 "com/example/tumbleweir/tumbleweir/engine/Direction" "DESCENDING" "Lcom/example/tumbleweir/tumbleweir/engine/Direction;" (.ref wD)) (S_wC : Sta Z h0 "com/example/tumbleweir/tumbleweir/engine/Direction" "CONSTANT" "Lcom/example/tumbleweir/tumbleweir/engine/Direction;" (.ref wC)) (S_wN : Sta Z h0 "com/example/tumbleweir/tumbleweir/engine/Direction" "NONE" "Lcom/example/tumbleweir/tumbleweir/engine/Direction;" (.ref wN)) (hk : v_q p1 = (0 : Int32) ∨ v_q p1 = (1 : Int32) ∨ v_q p1 = (2 : Int32) ∨ v_q p1 = (3 : Int32)) (E_wA : Exa Z h0 wA "com/example/tumbleweir/tumbleweir/engine/Direction") (E_wD : Exa Z h0 wD "com/example/tumbleweir/tumbleweir/engine/Direction") (E_wC : Exa Z h0 wC "com/example/tumbleweir/tumbleweir/engine/Direction") (E_wN : Exa Z h0 wN "com/example/tumbleweir/tumbleweir/engine/Direction") (F_ordinal_wA : Fld Z h0 wA "java/lang/Enum" "ordinal" "I" (.int (0 : Int32))) (F_ordinal_wD : Fld Z h0 wD "java/lang/Enum" "ordinal" "I" (.int (1 : Int32))) (F_ordinal_wC : Fld Z h0 wC "java/lang/Enum" "ordinal" "I" (.int (2 : Int32))) (F_ordinal_wN : Fld Z h0 wN "java/lang/Enum" "ordinal" "I" (.int (3 : Int32))) (hp : lawP wA wD wC wN p1) :
    MetFree l x (head1 (Jvm.Cond.code x code maxLocals ret :: ws) room_1) (fun a U => a = #[(.int p1)] ∧ Z.Warmed39 U.vm ∧ U.heap = h0) (fun _ _ _ _ _ => True) (fun _ U o U' => ∃ v L, o = .returned v ∧ LawQ n0 v U'.heap L ∧ FrameEnd U o U' L room_1.cells room_1.slots) := by
  refine MetFree.of_bodySF (plainFor_of_name pn_DirectionMovesPinLaw) hisR ?_
  intro p e s m args below meth c s₁ Bd hml0 hP hK
  obtain ⟨rfl, hZ, hh⟩ := hP
  have hx := Bd.exec
  have hby := Bd.bytes
  have hml : c.maxLocals = 5 := hml0
  have hown : s.vm.findClass "com/example/tumbleweir/tumbleweir/engine/DirectionMovesPinLaw" = some m.cls := findClass_of_methodNamed Bd.named
  have hnm := (name_of_methodNamed Bd.named Bd.method).1
  have X0 : Stand p l e room_1 s m #[(.int p1)] below meth c s₁ [] 0 0 := Stand.of_body Bd
  have e0 : s₁.heap = h0 := by rw [← hh, Bd.state]; rfl
  have N0 := Fr.nil n0
  have pre0 : ∀ t, Steps p.tables e below (s₁.setTop (mkF m 0 #[.val (.int p1), .unset, .unset, .unset, .unset] [])) t → Steps p.tables e below (s₁.setTop (entryFrame m #[(.int p1)] maxLocals)) t := fun t k => castTop (ef_law m p1) k
  unfold lawP at hp
  have pre1 : ∀ t, Steps p.tables e below (s₁.setTop (mkF m 4 #[.val (.int p1), .val (.int (v_k p1)), .unset, .unset, .unset] [])) t → Steps p.tables e below (s₁.setTop (entryFrame m #[(.int p1)] maxLocals)) t := fun t k => pre0 t (by
      show Steps p.tables e below (s₁.setTop (mkF m 0 #[.val (.int p1), .unset, .unset, .unset, .unset] [])) _
      refine XS.iloadN X0.here hx rfl (hb hby at_0) rfl ?_
      show Steps p.tables e below (s₁.setTop (mkF m 1 #[.val (.int p1), .unset, .unset, .unset, .unset] [(.int p1)])) _
      refine XS.iconst X0.here hx rfl (hb hby at_1) ?_
      show Steps p.tables e below (s₁.setTop (mkF m 2 #[.val (.int p1), .unset, .unset, .unset, .unset] [(.int (3 : Int32)), (.int p1)])) _
      refine XS.iand X0.here hx rfl (hb hby at_2) rfl ?_
      show Steps p.tables e below (s₁.setTop (mkF m 3 #[.val (.int p1), .unset, .unset, .unset, .unset] [(.int (v_k p1))])) _
      refine XS.istoreN X0.here hx rfl (hb hby at_3) rfl (l' := #[.val (.int p1), .val (.int (v_k p1)), .unset, .unset, .unset]) rfl ?_
      exact k)
  obtain ⟨T2, L2, X2, e2, N2, pre2⟩ : ∃ (T' : State) (L' : List Loc), Stand p l e room_1 s m #[(.int p1)] below meth c T' L' 0 0 ∧ T'.heap = h0 ∧ Fr n0 L' ∧ ∀ t, Steps p.tables e below (T'.setTop (mkF m 39 #[.val (.int p1), .val (.int (v_k p1)), .unset, .unset, .unset] [(.ref (m_law_0 wA wD wC wN p1))])) t → Steps p.tables e below (s₁.setTop (entryFrame m #[(.int p1)] maxLocals)) t := by
    have pre3 : ∀ t, Steps p.tables e below (s₁.setTop (mkF m 5 #[.val (.int p1), .val (.int (v_k p1)), .unset, .unset, .unset] [(.int (v_k p1))])) t → Steps p.tables e below (s₁.setTop (entryFrame m #[(.int p1)] maxLocals)) t := fun t k => pre1 t (by
        show Steps p.tables e below (s₁.setTop (mkF m 4 #[.val (.int p1), .val (.int (v_k p1)), .unset, .unset, .unset] [])) _
        refine XS.iloadN X0.here hx rfl (hb hby at_4) rfl ?_
        exact k)
    by_cases g4 : (v_k p1) = (0 : Int32)
    · skip
      obtain ⟨T5, X5, e5, st5⟩ := getS2 X0 hx hZ hown (host := "") (Or.inl (hw _ (List.mem_of_getElem? (i := 0) rfl))) Via.refl e0 S_wA (g := (mkF m 8 #[.val (.int p1), .val (.int (v_k p1)), .unset, .unset, .unset] [])) rfl (hb hby at_8)
      simp only [m_law_0, if_pos g4]
      exact ⟨T5, _, X5, e5, N0, fun t k => pre3 t (by
          show Steps p.tables e below (s₁.setTop (mkF m 5 #[.val (.int p1), .val (.int (v_k p1)), .unset, .unset, .unset] [(.int (v_k p1))])) _
          refine XS.ifNo X0.here hx rfl (hb hby at_5) rfl ((if0 _ _).trans (teq g4).2) ?_
          show Steps p.tables e below (s₁.setTop (mkF m 8 #[.val (.int p1), .val (.int (v_k p1)), .unset, .unset, .unset] [])) _
          refine st5 _ ?_
          show Steps p.tables e below (T5.setTop (mkF m 11 #[.val (.int p1), .val (.int (v_k p1)), .unset, .unset, .unset] [(.ref wA)])) _
          refine XS.goto X5.here hx rfl (pc0 := 11) (pc' := 39) rfl (hb hby at_11) (by decide) (by decide) ?_
          exact k)⟩
    · skip
      have pre6 : ∀ t, Steps p.tables e below (s₁.setTop (mkF m 16 #[.val (.int p1), .val (.int (v_k p1)), .unset, .unset, .unset] [(.int (1 : Int32)), (.int (v_k p1))])) t → Steps p.tables e below (s₁.setTop (entryFrame m #[(.int p1)] maxLocals)) t := fun t k => pre3 t (by
          show Steps p.tables e below (s₁.setTop (mkF m 5 #[.val (.int p1), .val (.int (v_k p1)), .unset, .unset, .unset] [(.int (v_k p1))])) _
          refine XS.ifYes X0.here hx rfl (pc0 := 5) (pc' := 14) rfl (hb hby at_5) rfl ((if0 _ _).trans (feq g4).2) (by decide) (by decide) ?_
          show Steps p.tables e below (s₁.setTop (mkF m 14 #[.val (.int p1), .val (.int (v_k p1)), .unset, .unset, .unset] [])) _
          refine XS.iloadN X0.here hx rfl (hb hby at_14) rfl ?_
          show Steps p.tables e below (s₁.setTop (mkF m 15 #[.val (.int p1), .val (.int (v_k p1)), .unset, .unset, .unset] [(.int (v_k p1))])) _
          refine XS.iconst X0.here hx rfl (hb hby at_15) ?_
          exact k)
      by_cases g7 : (v_k p1) = (1 : Int32)
      · skip
        obtain ⟨T8, X8, e8, st8⟩ := getS2 X0 hx hZ hown (host := "") (Or.inl (hw _ (List.mem_of_getElem? (i := 29) rfl))) Via.refl e0 S_wD (g := (mkF m 19 #[.val (.int p1), .val (.int (v_k p1)), .unset, .unset, .unset] [])) rfl (hb hby at_19)
        simp only [m_law_0, if_neg g4, if_pos g7]
        exact ⟨T8, _, X8, e8, N0, fun t k => pre6 t (by
            show Steps p.tables e below (s₁.setTop (mkF m 16 #[.val (.int p1), .val (.int (v_k p1)), .unset, .unset, .unset] [(.int (1 : Int32)), (.int (v_k p1))])) _
            refine XS.icmpNo X0.here hx rfl (hb hby at_16) rfl (teq g7).2 ?_
            show Steps p.tables e below (s₁.setTop (mkF m 19 #[.val (.int p1), .val (.int (v_k p1)), .unset, .unset, .unset] [])) _
            refine st8 _ ?_
            show Steps p.tables e below (T8.setTop (mkF m 22 #[.val (.int p1), .val (.int (v_k p1)), .unset, .unset, .unset] [(.ref wD)])) _
            refine XS.goto X8.here hx rfl (pc0 := 22) (pc' := 39) rfl (hb hby at_22) (by decide) (by decide) ?_
            exact k)⟩
      · skip
        have pre9 : ∀ t, Steps p.tables e below (s₁.setTop (mkF m 27 #[.val (.int p1), .val (.int (v_k p1)), .unset, .unset, .unset] [(.int (2 : Int32)), (.int (v_k p1))])) t → Steps p.tables e below (s₁.setTop (entryFrame m #[(.int p1)] maxLocals)) t := fun t k => pre6 t (by
            show Steps p.tables e below (s₁.setTop (mkF m 16 #[.val (.int p1), .val (.int (v_k p1)), .unset, .unset, .unset] [(.int (1 : Int32)), (.int (v_k p1))])) _
            refine XS.icmpYes X0.here hx rfl (pc0 := 16) (pc' := 25) rfl (hb hby at_16) rfl (feq g7).2 (by decide) (by decide) ?_
            show Steps p.tables e below (s₁.setTop (mkF m 25 #[.val (.int p1), .val (.int (v_k p1)), .unset, .unset, .unset] [])) _
            refine XS.iloadN X0.here hx rfl (hb hby at_25) rfl ?_
            show Steps p.tables e below (s₁.setTop (mkF m 26 #[.val (.int p1), .val (.int (v_k p1)), .unset, .unset, .unset] [(.int (v_k p1))])) _
            refine XS.iconst X0.here hx rfl (hb hby at_26) ?_
            exact k)
        by_cases g10 : (v_k p1) = (2 : Int32)
        · skip
          obtain ⟨T11, X11, e11, st11⟩ := getS2 X0 hx hZ hown (host := "") (Or.inl (hw _ (List.mem_of_getElem? (i := 27) rfl))) Via.refl e0 S_wC (g := (mkF m 30 #[.val (.int p1), .val (.int (v_k p1)), .unset, .unset, .unset] [])) rfl (hb hby at_30)
          simp only [m_law_0, if_neg g4, if_neg g7, if_pos g10]
          exact ⟨T11, _, X11, e11, N0, fun t k => pre9 t (by
              show Steps p.tables e below (s₁.setTop (mkF m 27 #[.val (.int p1), .val (.int (v_k p1)), .unset, .unset, .unset] [(.int (2 : Int32)), (.int (v_k p1))])) _
              refine XS.icmpNo X0.here hx rfl (hb hby at_27) rfl (teq g10).2 ?_
              show Steps p.tables e below (s₁.setTop (mkF m 30 #[.val (.int p1), .val (.int (v_k p1)), .unset, .unset, .unset] [])) _
              refine st11 _ ?_
              show Steps p.tables e below (T11.setTop (mkF m 33 #[.val (.int p1), .val (.int (v_k p1)), .unset, .unset, .unset] [(.ref wC)])) _
              refine XS.goto X11.here hx rfl (pc0 := 33) (pc' := 39) rfl (hb hby at_33) (by decide) (by decide) ?_
              exact k)⟩
        · skip
          obtain ⟨T12, X12, e12, st12⟩ := getS2 X0 hx hZ hown (host := "") (Or.inl (hw _ (List.mem_of_getElem? (i := 25) rfl))) Via.refl e0 S_wN (g := (mkF m 36 #[.val (.int p1), .val (.int (v_k p1)), .unset, .unset, .unset] [])) rfl (hb hby at_36)
          simp only [m_law_0, if_neg g4, if_neg g7, if_neg g10]
          exact ⟨T12, _, X12, e12, N0, fun t k => pre9 t (by
              show Steps p.tables e below (s₁.setTop (mkF m 27 #[.val (.int p1), .val (.int (v_k p1)), .unset, .unset, .unset] [(.int (2 : Int32)), (.int (v_k p1))])) _
              refine XS.icmpYes X0.here hx rfl (pc0 := 27) (pc' := 36) rfl (hb hby at_27) rfl (feq g10).2 (by decide) (by decide) ?_
              show Steps p.tables e below (s₁.setTop (mkF m 36 #[.val (.int p1), .val (.int (v_k p1)), .unset, .unset, .unset] [])) _
              refine st12 _ ?_
              exact k)⟩
  have pre13 : ∀ t, Steps p.tables e below (T2.setTop (mkF m 40 #[.val (.int p1), .val (.int (v_k p1)), .val (.ref (m_law_0 wA wD wC wN p1)), .unset, .unset] [])) t → Steps p.tables e below (s₁.setTop (entryFrame m #[(.int p1)] maxLocals)) t := fun t k => pre2 t (by
      show Steps p.tables e below (T2.setTop (mkF m 39 #[.val (.int p1), .val (.int (v_k p1)), .unset, .unset, .unset] [(.ref (m_law_0 wA wD wC wN p1))])) _
      refine XS.astoreN X2.here hx rfl (hb hby at_39) rfl rfl (l' := #[.val (.int p1), .val (.int (v_k p1)), .val (.ref (m_law_0 wA wD wC wN p1)), .unset, .unset]) rfl ?_
      exact k)
  obtain ⟨T14, L14, X14, e14, N14, pre14⟩ : ∃ (T' : State) (L' : List Loc), Stand p l e room_1 s m #[(.int p1)] below meth c T' L' 0 0 ∧ T'.heap = h0 ∧ Fr n0 L' ∧ ∀ t, Steps p.tables e below (T'.setTop (mkF m 50 #[.val (.int p1), .val (.int (v_k p1)), .val (.ref (m_law_0 wA wD wC wN p1)), .unset, .unset] [(.int (m_law_1 p1))])) t → Steps p.tables e below (s₁.setTop (entryFrame m #[(.int p1)] maxLocals)) t := by
    have pre15 : ∀ t, Steps p.tables e below (T2.setTop (mkF m 42 #[.val (.int p1), .val (.int (v_k p1)), .val (.ref (m_law_0 wA wD wC wN p1)), .unset, .unset] [(.int (2 : Int32)), (.int (v_k p1))])) t → Steps p.tables e below (s₁.setTop (entryFrame m #[(.int p1)] maxLocals)) t := fun t k => pre13 t (by
        show Steps p.tables e below (T2.setTop (mkF m 40 #[.val (.int p1), .val (.int (v_k p1)), .val (.ref (m_law_0 wA wD wC wN p1)), .unset, .unset] [])) _
        refine XS.iloadN X2.here hx rfl (hb hby at_40) rfl ?_
        show Steps p.tables e below (T2.setTop (mkF m 41 #[.val (.int p1), .val (.int (v_k p1)), .val (.ref (m_law_0 wA wD wC wN p1)), .unset, .unset] [(.int (v_k p1))])) _
        refine XS.iconst X2.here hx rfl (hb hby at_41) ?_
        exact k)
    by_cases g16 : (v_k p1) < (2 : Int32)
    · skip
      simp only [m_law_1, if_pos g16]
      exact ⟨T2, _, X2, e2, N2, fun t k => pre15 t (by
          show Steps p.tables e below (T2.setTop (mkF m 42 #[.val (.int p1), .val (.int (v_k p1)), .val (.ref (m_law_0 wA wD wC wN p1)), .unset, .unset] [(.int (2 : Int32)), (.int (v_k p1))])) _
          refine XS.icmpNo X2.here hx rfl (hb hby at_42) rfl (tlt g16).2.1 ?_
          show Steps p.tables e below (T2.setTop (mkF m 45 #[.val (.int p1), .val (.int (v_k p1)), .val (.ref (m_law_0 wA wD wC wN p1)), .unset, .unset] [])) _
          refine XS.iconst X2.here hx rfl (hb hby at_45) ?_
          show Steps p.tables e below (T2.setTop (mkF m 46 #[.val (.int p1), .val (.int (v_k p1)), .val (.ref (m_law_0 wA wD wC wN p1)), .unset, .unset] [(.int (1 : Int32))])) _
          refine XS.goto X2.here hx rfl (pc0 := 46) (pc' := 50) rfl (hb hby at_46) (by decide) (by decide) ?_
          exact k)⟩
    · skip
      simp only [m_law_1, if_neg g16]
      exact ⟨T2, _, X2, e2, N2, fun t k => pre15 t (by
          show Steps p.tables e below (T2.setTop (mkF m 42 #[.val (.int p1), .val (.int (v_k p1)), .val (.ref (m_law_0 wA wD wC wN p1)), .unset, .unset] [(.int (2 : Int32)), (.int (v_k p1))])) _
          refine XS.icmpYes X2.here hx rfl (pc0 := 42) (pc' := 49) rfl (hb hby at_42) rfl (flt g16).2.1 (by decide) (by decide) ?_
          show Steps p.tables e below (T2.setTop (mkF m 49 #[.val (.int p1), .val (.int (v_k p1)), .val (.ref (m_law_0 wA wD wC wN p1)), .unset, .unset] [])) _
          refine XS.iconst X2.here hx rfl (hb hby at_49) ?_
          exact k)⟩
  obtain ⟨cq17, kq17, q17a, q17b, q17c⟩ := isOf hZ e14 (own_e E_wA E_wD E_wC E_wN)
  obtain ⟨_, _, ⟨T17, L17, k17, n17⟩, -, X17, ⟨Lc17, hQ17, l17, y17, z17⟩, st17⟩ := X14.virtualBack hx (y := (⟨"com/example/tumbleweir/tumbleweir/engine/Direction", "moves", "()Z"⟩ : MethodName)) (z := (⟨"com/example/tumbleweir/tumbleweir/engine/Direction", "moves", "()Z"⟩ : MethodName)) hown (mvT hZ (hw _ (List.mem_of_getElem? (i := 3) rfl))) (mvT hZ (hw _ (List.mem_of_getElem? (i := 4) rfl))) (notFace_of_selects (args := #[]) (mvT hZ (hw _ (List.mem_of_getElem? (i := 6) rfl)))) (mvT hZ (hw _ (List.mem_of_getElem? (i := 6) rfl))) (mvT hZ (hw _ (List.mem_of_getElem? (i := 5) rfl))) (by decide) (backOf (W := 0) (rm_moves l Z a0 hw [] wA wD wC wN (m_law_0 wA wD wC wN p1) h0 n0 Z0 S_wA S_wD S_wC S_wN) hZ (hw _ (List.mem_of_getElem? (i := 7) rfl)) (hw _ (List.mem_of_getElem? (i := 1) rfl)) (by decide) (by decide)) q17a q17c (g := (mkF m 52 #[.val (.int p1), .val (.int (v_k p1)), .val (.ref (m_law_0 wA wD wC wN p1)), .val (.int (m_law_1 p1)), .unset] [(.ref (m_law_0 wA wD wC wN p1))])) rfl (by rw [hml]; rfl) (Steps.refl _) (argsL := []) (rest := []) (lenOf pd___Z_3 rfl) rfl (by show 2 * 0 + _ ≤ _; exact Nat.le_of_eq rfl) (hb hby at_52) (fun _ _ => ⟨rfl, e14, (by decide : 0 + 0 ≤ _), (by decide : 0 + 0 ≤ _)⟩)
  dsimp only [Pt.U, Pt.locs, Pt.cells, Pt.slots] at X17 l17 y17 z17 st17 hQ17
  subst l17 y17 z17
  obtain ⟨rfl, N17q, e17⟩ := hQ17
  have N17 := Fr.app N14 N17q
  obtain ⟨g18, hp⟩ := hp
  obtain ⟨cq19, kq19, q19a, q19b, q19c⟩ := isOf hZ e17 (own_e E_wA E_wD E_wC E_wN)
  obtain ⟨_, _, ⟨T19, L19, k19, n19⟩, -, X19, ⟨Lc19, hQ19, l19, y19, z19⟩, st19⟩ := X17.virtualBack hx (y := (⟨"com/example/tumbleweir/tumbleweir/engine/Direction", "reverse", "()Lcom/example/tumbleweir/tumbleweir/engine/Direction;"⟩ : MethodName)) (z := (⟨"com/example/tumbleweir/tumbleweir/engine/Direction", "reverse", "()Lcom/example/tumbleweir/tumbleweir/engine/Direction;"⟩ : MethodName)) hown (mvT hZ (hw _ (List.mem_of_getElem? (i := 9) rfl))) (mvT hZ (hw _ (List.mem_of_getElem? (i := 10) rfl))) (notFace_of_selects (args := #[]) (mvT hZ (hw _ (List.mem_of_getElem? (i := 12) rfl)))) (mvT hZ (hw _ (List.mem_of_getElem? (i := 12) rfl))) (mvT hZ (hw _ (List.mem_of_getElem? (i := 11) rfl))) (by decide) (backOf (W := 1) (rm_reverse l Z a0 hw [] wA wD wC wN (m_law_0 wA wD wC wN p1) (v_k p1) h0 n0 Z0 S_wA S_wD S_wC S_wN (own_e E_wA E_wD E_wC E_wN) (own_f hk F_ordinal_wA F_ordinal_wD F_ordinal_wC F_ordinal_wN)) hZ (hw _ (List.mem_of_getElem? (i := 13) rfl)) (hw _ (List.mem_of_getElem? (i := 1) rfl)) (by decide) (by decide)) q19a q19c (g := (mkF m 66 #[.val (.int p1), .val (.int (v_k p1)), .val (.ref (m_law_0 wA wD wC wN p1)), .val (.int (m_law_1 p1)), .val (.int (f_moves wA wD wC wN (m_law_0 wA wD wC wN p1)))] [(.ref (m_law_0 wA wD wC wN p1)), (.int (f_moves wA wD wC wN (m_law_0 wA wD wC wN p1)))])) rfl (by rw [hml]; rfl) (Steps.refl _) (argsL := []) (rest := [(.int (f_moves wA wD wC wN (m_law_0 wA wD wC wN p1)))]) (lenOf pd__tumbleweir_tumbleweir_engine_Direction__54 rfl) rfl (by show 2 * 0 + _ ≤ _; exact Nat.le_of_eq rfl) (hb hby at_66) (fun _ _ => ⟨rfl, e17, (by decide : 0 + 0 ≤ _), (by decide : 0 + 0 ≤ _)⟩)
  dsimp only [Pt.U, Pt.locs, Pt.cells, Pt.slots] at X19 l19 y19 z19 st19 hQ19
  subst l19 y19 z19
  obtain ⟨rfl, N19q, e19⟩ := hQ19
  have N19 := Fr.app N17 N19q
  have pre20 : ∀ t, Steps p.tables e below (T19.setTop (mkF m 69 #[.val (.int p1), .val (.int (v_k p1)), .val (.ref (m_law_0 wA wD wC wN p1)), .val (.int (m_law_1 p1)), .val (.int (f_moves wA wD wC wN (m_law_0 wA wD wC wN p1)))] [(.ref (f_reverse wA wD wC wN (m_law_0 wA wD wC wN p1) (v_k p1))), (.int (f_moves wA wD wC wN (m_law_0 wA wD wC wN p1)))])) t → Steps p.tables e below (s₁.setTop (entryFrame m #[(.int p1)] maxLocals)) t := fun t k => pre14 t (by
      show Steps p.tables e below (T14.setTop (mkF m 50 #[.val (.int p1), .val (.int (v_k p1)), .val (.ref (m_law_0 wA wD wC wN p1)), .unset, .unset] [(.int (m_law_1 p1))])) _
      refine XS.istoreN X14.here hx rfl (hb hby at_50) rfl (l' := #[.val (.int p1), .val (.int (v_k p1)), .val (.ref (m_law_0 wA wD wC wN p1)), .val (.int (m_law_1 p1)), .unset]) rfl ?_
      show Steps p.tables e below (T14.setTop (mkF m 51 #[.val (.int p1), .val (.int (v_k p1)), .val (.ref (m_law_0 wA wD wC wN p1)), .val (.int (m_law_1 p1)), .unset] [])) _
      refine XS.aloadN X14.here hx rfl (hb hby at_51) rfl rfl ?_
      show Steps p.tables e below (T14.setTop (mkF m 52 #[.val (.int p1), .val (.int (v_k p1)), .val (.ref (m_law_0 wA wD wC wN p1)), .val (.int (m_law_1 p1)), .unset] [(.ref (m_law_0 wA wD wC wN p1))])) _
      refine st17.trans ?_
      show Steps p.tables e below (T17.setTop (mkF m 55 #[.val (.int p1), .val (.int (v_k p1)), .val (.ref (m_law_0 wA wD wC wN p1)), .val (.int (m_law_1 p1)), .unset] [(.int (f_moves wA wD wC wN (m_law_0 wA wD wC wN p1)))])) _
      refine XS.istore X17.here hx rfl (hb hby at_55) rfl (l' := #[.val (.int p1), .val (.int (v_k p1)), .val (.ref (m_law_0 wA wD wC wN p1)), .val (.int (m_law_1 p1)), .val (.int (f_moves wA wD wC wN (m_law_0 wA wD wC wN p1)))]) rfl ?_
      show Steps p.tables e below (T17.setTop (mkF m 57 #[.val (.int p1), .val (.int (v_k p1)), .val (.ref (m_law_0 wA wD wC wN p1)), .val (.int (m_law_1 p1)), .val (.int (f_moves wA wD wC wN (m_law_0 wA wD wC wN p1)))] [])) _
      refine XS.iload X17.here hx rfl (hb hby at_57) rfl ?_
      show Steps p.tables e below (T17.setTop (mkF m 59 #[.val (.int p1), .val (.int (v_k p1)), .val (.ref (m_law_0 wA wD wC wN p1)), .val (.int (m_law_1 p1)), .val (.int (f_moves wA wD wC wN (m_law_0 wA wD wC wN p1)))] [(.int (f_moves wA wD wC wN (m_law_0 wA wD wC wN p1)))])) _
      refine XS.iloadN X17.here hx rfl (hb hby at_59) rfl ?_
      show Steps p.tables e below (T17.setTop (mkF m 60 #[.val (.int p1), .val (.int (v_k p1)), .val (.ref (m_law_0 wA wD wC wN p1)), .val (.int (m_law_1 p1)), .val (.int (f_moves wA wD wC wN (m_law_0 wA wD wC wN p1)))] [(.int (m_law_1 p1)), (.int (f_moves wA wD wC wN (m_law_0 wA wD wC wN p1)))])) _
      refine XS.icmpNo X17.here hx rfl (hb hby at_60) rfl (teq g18).2 ?_
      show Steps p.tables e below (T17.setTop (mkF m 63 #[.val (.int p1), .val (.int (v_k p1)), .val (.ref (m_law_0 wA wD wC wN p1)), .val (.int (m_law_1 p1)), .val (.int (f_moves wA wD wC wN (m_law_0 wA wD wC wN p1)))] [])) _
      refine XS.iload X17.here hx rfl (hb hby at_63) rfl ?_
      show Steps p.tables e below (T17.setTop (mkF m 65 #[.val (.int p1), .val (.int (v_k p1)), .val (.ref (m_law_0 wA wD wC wN p1)), .val (.int (m_law_1 p1)), .val (.int (f_moves wA wD wC wN (m_law_0 wA wD wC wN p1)))] [(.int (f_moves wA wD wC wN (m_law_0 wA wD wC wN p1)))])) _
      refine XS.aloadN X17.here hx rfl (hb hby at_65) rfl rfl ?_
      show Steps p.tables e below (T17.setTop (mkF m 66 #[.val (.int p1), .val (.int (v_k p1)), .val (.ref (m_law_0 wA wD wC wN p1)), .val (.int (m_law_1 p1)), .val (.int (f_moves wA wD wC wN (m_law_0 wA wD wC wN p1)))] [(.ref (m_law_0 wA wD wC wN p1)), (.int (f_moves wA wD wC wN (m_law_0 wA wD wC wN p1)))])) _
      refine st19.trans ?_
      exact k)
  obtain ⟨T21, L21, X21, e21, N21, pre21⟩ : ∃ (T' : State) (L' : List Loc), Stand p l e room_1 s m #[(.int p1)] below meth c T' L' 0 0 ∧ T'.heap = h0 ∧ Fr n0 L' ∧ ∀ t, Steps p.tables e below (T'.setTop (mkF m 78 #[.val (.int p1), .val (.int (v_k p1)), .val (.ref (m_law_0 wA wD wC wN p1)), .val (.int (m_law_1 p1)), .val (.int (f_moves wA wD wC wN (m_law_0 wA wD wC wN p1)))] [(.int (m_law_2 wA wD wC wN p1)), (.int (f_moves wA wD wC wN (m_law_0 wA wD wC wN p1)))])) t → Steps p.tables e below (s₁.setTop (entryFrame m #[(.int p1)] maxLocals)) t := by
    have pre22 : ∀ t, Steps p.tables e below (T19.setTop (mkF m 70 #[.val (.int p1), .val (.int (v_k p1)), .val (.ref (m_law_0 wA wD wC wN p1)), .val (.int (m_law_1 p1)), .val (.int (f_moves wA wD wC wN (m_law_0 wA wD wC wN p1)))] [(.ref (m_law_0 wA wD wC wN p1)), (.ref (f_reverse wA wD wC wN (m_law_0 wA wD wC wN p1) (v_k p1))), (.int (f_moves wA wD wC wN (m_law_0 wA wD wC wN p1)))])) t → Steps p.tables e below (s₁.setTop (entryFrame m #[(.int p1)] maxLocals)) t := fun t k => pre20 t (by
        show Steps p.tables e below (T19.setTop (mkF m 69 #[.val (.int p1), .val (.int (v_k p1)), .val (.ref (m_law_0 wA wD wC wN p1)), .val (.int (m_law_1 p1)), .val (.int (f_moves wA wD wC wN (m_law_0 wA wD wC wN p1)))] [(.ref (f_reverse wA wD wC wN (m_law_0 wA wD wC wN p1) (v_k p1))), (.int (f_moves wA wD wC wN (m_law_0 wA wD wC wN p1)))])) _
        refine XS.aloadN X19.here hx rfl (hb hby at_69) rfl rfl ?_
        exact k)
    by_cases g23 : (f_reverse wA wD wC wN (m_law_0 wA wD wC wN p1) (v_k p1)) = (m_law_0 wA wD wC wN p1)
    · skip
      simp only [m_law_2, if_pos g18, if_pos g23]
      exact ⟨T19, _, X19, e19, N19, fun t k => pre22 t (by
          show Steps p.tables e below (T19.setTop (mkF m 70 #[.val (.int p1), .val (.int (v_k p1)), .val (.ref (m_law_0 wA wD wC wN p1)), .val (.int (m_law_1 p1)), .val (.int (f_moves wA wD wC wN (m_law_0 wA wD wC wN p1)))] [(.ref (m_law_0 wA wD wC wN p1)), (.ref (f_reverse wA wD wC wN (m_law_0 wA wD wC wN p1) (v_k p1))), (.int (f_moves wA wD wC wN (m_law_0 wA wD wC wN p1)))])) _
          refine Jvm.RoadKit.acmp (g := (mkF m 70 #[.val (.int p1), .val (.int (v_k p1)), .val (.ref (m_law_0 wA wD wC wN p1)), .val (.int (m_law_1 p1)), .val (.int (f_moves wA wD wC wN (m_law_0 wA wD wC wN p1)))] [(.ref (m_law_0 wA wD wC wN p1)), (.ref (f_reverse wA wD wC wN (m_law_0 wA wD wC wN p1) (v_k p1))), (.int (f_moves wA wD wC wN (m_law_0 wA wD wC wN p1)))])) X19 hx rfl rfl rfl (pc0 := 70) (pc' := 77) (same := true) rfl (hb hby at_70) rfl (decide_eq_true (congrArg Value.ref g23)) (by decide) (by decide) ?_
          show Steps p.tables e below (T19.setTop (mkF m 77 #[.val (.int p1), .val (.int (v_k p1)), .val (.ref (m_law_0 wA wD wC wN p1)), .val (.int (m_law_1 p1)), .val (.int (f_moves wA wD wC wN (m_law_0 wA wD wC wN p1)))] [(.int (f_moves wA wD wC wN (m_law_0 wA wD wC wN p1)))])) _
          refine XS.iconst X19.here hx rfl (hb hby at_77) ?_
          exact k)⟩
    · skip
      simp only [m_law_2, if_pos g18, if_neg g23]
      exact ⟨T19, _, X19, e19, N19, fun t k => pre22 t (by
          show Steps p.tables e below (T19.setTop (mkF m 70 #[.val (.int p1), .val (.int (v_k p1)), .val (.ref (m_law_0 wA wD wC wN p1)), .val (.int (m_law_1 p1)), .val (.int (f_moves wA wD wC wN (m_law_0 wA wD wC wN p1)))] [(.ref (m_law_0 wA wD wC wN p1)), (.ref (f_reverse wA wD wC wN (m_law_0 wA wD wC wN p1) (v_k p1))), (.int (f_moves wA wD wC wN (m_law_0 wA wD wC wN p1)))])) _
          refine Jvm.RoadKit.acmp (g := (mkF m 70 #[.val (.int p1), .val (.int (v_k p1)), .val (.ref (m_law_0 wA wD wC wN p1)), .val (.int (m_law_1 p1)), .val (.int (f_moves wA wD wC wN (m_law_0 wA wD wC wN p1)))] [(.ref (m_law_0 wA wD wC wN p1)), (.ref (f_reverse wA wD wC wN (m_law_0 wA wD wC wN p1) (v_k p1))), (.int (f_moves wA wD wC wN (m_law_0 wA wD wC wN p1)))])) X19 hx rfl rfl rfl (pc0 := 70) (pc' := 73) (same := false) rfl (hb hby at_70) rfl (decide_eq_false fun q => g23 (Value.ref.inj q)) (by decide) (by decide) ?_
          show Steps p.tables e below (T19.setTop (mkF m 73 #[.val (.int p1), .val (.int (v_k p1)), .val (.ref (m_law_0 wA wD wC wN p1)), .val (.int (m_law_1 p1)), .val (.int (f_moves wA wD wC wN (m_law_0 wA wD wC wN p1)))] [(.int (f_moves wA wD wC wN (m_law_0 wA wD wC wN p1)))])) _
          refine XS.iconst X19.here hx rfl (hb hby at_73) ?_
          show Steps p.tables e below (T19.setTop (mkF m 74 #[.val (.int p1), .val (.int (v_k p1)), .val (.ref (m_law_0 wA wD wC wN p1)), .val (.int (m_law_1 p1)), .val (.int (f_moves wA wD wC wN (m_law_0 wA wD wC wN p1)))] [(.int (1 : Int32)), (.int (f_moves wA wD wC wN (m_law_0 wA wD wC wN p1)))])) _
          refine XS.goto X19.here hx rfl (pc0 := 74) (pc' := 78) rfl (hb hby at_74) (by decide) (by decide) ?_
          exact k)⟩
  obtain ⟨g24, hp⟩ := hp
  obtain ⟨fs, hr, hrun, hended, hW, hsame⟩ := X21.leave (v := some (.int (1 : Int32))) (fun h => by rw [Bd.returns] at h; cases h)
  refine ⟨_, _, pre21 _ ?_, hrun, hended, _, _, rfl, ?_, ⟨_, rfl⟩, hW, hsame.mono (by decide) (by decide)⟩
  · show Steps p.tables e below (T21.setTop (mkF m 78 #[.val (.int p1), .val (.int (v_k p1)), .val (.ref (m_law_0 wA wD wC wN p1)), .val (.int (m_law_1 p1)), .val (.int (f_moves wA wD wC wN (m_law_0 wA wD wC wN p1)))] [(.int (m_law_2 wA wD wC wN p1)), (.int (f_moves wA wD wC wN (m_law_0 wA wD wC wN p1)))])) _
    refine XS.icmpNo X21.here hx rfl (hb hby at_78) rfl (teq g24).2 ?_
    show Steps p.tables e below (T21.setTop (mkF m 81 #[.val (.int p1), .val (.int (v_k p1)), .val (.ref (m_law_0 wA wD wC wN p1)), .val (.int (m_law_1 p1)), .val (.int (f_moves wA wD wC wN (m_law_0 wA wD wC wN p1)))] [])) _
    refine XS.iconst X21.here hx rfl (hb hby at_81) ?_
    show Steps p.tables e below (T21.setTop (mkF m 82 #[.val (.int p1), .val (.int (v_k p1)), .val (.ref (m_law_0 wA wD wC wN p1)), .val (.int (m_law_1 p1)), .val (.int (f_moves wA wD wC wN (m_law_0 wA wD wC wN p1)))] [(.int (1 : Int32))])) _
    refine XS.goto X21.here hx rfl (pc0 := 82) (pc' := 86) rfl (hb hby at_82) (by decide) (by decide) ?_
    show Steps p.tables e below (T21.setTop (mkF m 86 #[.val (.int p1), .val (.int (v_k p1)), .val (.ref (m_law_0 wA wD wC wN p1)), .val (.int (m_law_1 p1)), .val (.int (f_moves wA wD wC wN (m_law_0 wA wD wC wN p1)))] [(.int (1 : Int32))])) _
    exact retN X21 hx (t := .boolean) Bd.returns (by simp) (hb hby at_86) hr
  · exact ⟨rfl, N21⟩
theorem own_and3 (x : Int32) : (x &&& (3 : Int32)) = 0 ∨ (x &&& (3 : Int32)) = 1 ∨ (x &&& (3 : Int32)) = 2 ∨ (x &&& (3 : Int32)) = 3 := by
  have h : (x &&& (3 : Int32)).toInt = x.toInt % 4 := c_mask x 3 2 (by decide) (by decide)
  have h4 : x.toInt % 4 = 0 ∨ x.toInt % 4 = 1 ∨ x.toInt % 4 = 2 ∨ x.toInt % 4 = 3 := by omega
  rcases h4 with q | q | q | q
  · exact Or.inl (Int32.toInt_inj.mp (by rw [h, q]; rfl))
  · exact Or.inr (Or.inl (Int32.toInt_inj.mp (by rw [h, q]; rfl)))
  · exact Or.inr (Or.inr (Or.inl (Int32.toInt_inj.mp (by rw [h, q]; rfl))))
  · exact Or.inr (Or.inr (Or.inr (Int32.toInt_inj.mp (by rw [h, q]; rfl))))

theorem own_plain {wA wD wC wN : Addr} {p1 : Int32} (n0 : ¬ (wA = wD)) (n1 : ¬ (wA = wC)) (n2 : ¬ (wA = wN)) (n3 : ¬ (wD = wA)) (n4 : ¬ (wD = wC)) (n5 : ¬ (wD = wN)) (n6 : ¬ (wC = wA)) (n7 : ¬ (wC = wD)) (n8 : ¬ (wC = wN)) (n9 : ¬ (wN = wA)) (n10 : ¬ (wN = wD)) (n11 : ¬ (wN = wC)) : lawP wA wD wC wN p1 := by
  have hk : v_k p1 = (0 : Int32) ∨ v_k p1 = (1 : Int32) ∨ v_k p1 = (2 : Int32) ∨ v_k p1 = (3 : Int32) := own_and3 p1
  unfold lawP m_law_2 m_law_1 m_law_0
  rcases hk with h | h | h | h <;> simp [h, f_moves, f_reverse, f_ordinal, n0, n1, n2, n3, n4, n5, n6, n7, n8, n9, n10, n11]
set_option maxRecDepth 65536 in
set_option maxHeartbeats 40000000 in
theorem comes_1 {Post : Tables → Env → Array Value → State → Outcome → State → Prop} (hpost : ∀ tb e args s v u, (limb_1_1.after args s (.returned v) u = true ∧ limb_1_2.after args s (.returned v) u = true ∧ True) → FrameEnd s (.returned v) u (Jvm.fieldLocs frame_1_writes args s ++ Jvm.arrayLocs frame_1_arrays args s ++ Jvm.staticLocs frame_1_statics s) 0 0 → Post tb e args s (.returned v) u) :
    ArmFor flags0 classFile x code maxLocals ret World_1 tables_1 room_1 Calls_1 rest_1 Pre_1 Post := by
  intro l hfl _ _ p e ha hc hk s m args below hf hA hF happ hP
  obtain ⟨hcalls, hrest, hpre⟩ := hP
  obtain ⟨-, -, -, hnamed, -, -, -, hat⟩ := (Spec.applies_iff hf).mp happ
  obtain ⟨hg, hn⟩ := and_e (Cond.before_iff.mp (show (Jvm.Cond.and given_1 narrow_1).before args s = true from hpre))
  obtain ⟨gv0, gr0⟩ := and_e hg
  obtain ⟨w0, rfl⟩ : ∃ w0 : Value, args = #[w0] := by
    have hs : args.size = 1 := by simpa [Cond.value, given_1] using gv0
    obtain ⟨L⟩ := args
    match L, hs with
    | [w0], _ => exact ⟨w0, rfl⟩
  have hw := fun d (hd : d ∈ tables_1) => atoms_spec (ws := Jvm.Cond.code x code maxLocals ret :: tables_1) hat d (List.mem_cons_of_mem _ hd)
  obtain ⟨i0, ei0⟩ := is_v gr0
  obtain rfl : w0 = (.int i0) := Option.some.inj ei0
  obtain ⟨nv0, nr0⟩ := and_e hn
  obtain ⟨nv1, nr1⟩ := and_e nr0
  obtain ⟨nv2, nr2⟩ := and_e nr1
  obtain ⟨nv3, nr3⟩ := and_e nr2
  obtain ⟨nv4, nr4⟩ := and_e nr3
  obtain ⟨nv5, nr5⟩ := and_e nr4
  obtain ⟨nv6, nr6⟩ := and_e nr5
  obtain ⟨wA, ev_wA⟩ := exa_v nv0
  have S_wA : Sta s s.heap "com/example/tumbleweir/tumbleweir/engine/Direction" "ASCENDING" "Lcom/example/tumbleweir/tumbleweir/engine/Direction;" (.ref wA) := Sta.start ev_wA (Or.inr ⟨(hw _ (List.mem_of_getElem? (i := 1) rfl)), (hw _ (List.mem_of_getElem? (i := 2) rfl))⟩)
  have E_wA : Exa s s.heap wA "com/example/tumbleweir/tumbleweir/engine/Direction" := Exa.start ev_wA nv0
  obtain ⟨wD, ev_wD⟩ := exa_v nv2
  have S_wD : Sta s s.heap "com/example/tumbleweir/tumbleweir/engine/Direction" "DESCENDING" "Lcom/example/tumbleweir/tumbleweir/engine/Direction;" (.ref wD) := Sta.start ev_wD (Or.inr ⟨(hw _ (List.mem_of_getElem? (i := 1) rfl)), (hw _ (List.mem_of_getElem? (i := 24) rfl))⟩)
  have E_wD : Exa s s.heap wD "com/example/tumbleweir/tumbleweir/engine/Direction" := Exa.start ev_wD nv2
  obtain ⟨wN, ev_wN⟩ := exa_v nv4
  have S_wN : Sta s s.heap "com/example/tumbleweir/tumbleweir/engine/Direction" "NONE" "Lcom/example/tumbleweir/tumbleweir/engine/Direction;" (.ref wN) := Sta.start ev_wN (Or.inr ⟨(hw _ (List.mem_of_getElem? (i := 1) rfl)), (hw _ (List.mem_of_getElem? (i := 26) rfl))⟩)
  have E_wN : Exa s s.heap wN "com/example/tumbleweir/tumbleweir/engine/Direction" := Exa.start ev_wN nv4
  obtain ⟨wC, ev_wC⟩ := exa_v nv6
  have S_wC : Sta s s.heap "com/example/tumbleweir/tumbleweir/engine/Direction" "CONSTANT" "Lcom/example/tumbleweir/tumbleweir/engine/Direction;" (.ref wC) := Sta.start ev_wC (Or.inr ⟨(hw _ (List.mem_of_getElem? (i := 1) rfl)), (hw _ (List.mem_of_getElem? (i := 28) rfl))⟩)
  have E_wC : Exa s s.heap wC "com/example/tumbleweir/tumbleweir/engine/Direction" := Exa.start ev_wC nv6
  have F_ordinal_wA : Fld s s.heap wA "java/lang/Enum" "ordinal" "I" (.int (0 : Int32)) := own_fld ev_wA nv1 (Term.int_eval (0))
  have F_ordinal_wD : Fld s s.heap wD "java/lang/Enum" "ordinal" "I" (.int (1 : Int32)) := own_fld ev_wD nv3 (Term.int_eval (1))
  have F_ordinal_wN : Fld s s.heap wN "java/lang/Enum" "ordinal" "I" (.int (3 : Int32)) := own_fld ev_wN nv5 (Term.int_eval (3))
  have F_ordinal_wC : Fld s s.heap wC "java/lang/Enum" "ordinal" "I" (.int (2 : Int32)) := own_fld ev_wC nr6 (Term.int_eval (2))
  obtain ⟨n, o, h1, h2, h3, _, L, rfl, ⟨rfl, N⟩, hq⟩ := rm_law l s _ hw tables_1 wA wD wC wN i0 s.heap s.heap.size (Nat.le_refl _) S_wA S_wD S_wC S_wN (own_and3 i0) E_wA E_wD E_wC E_wN F_ordinal_wA F_ordinal_wD F_ordinal_wC F_ordinal_wN (own_plain (Fld.ne F_ordinal_wA F_ordinal_wD (by simp)) (Fld.ne F_ordinal_wA F_ordinal_wC (by simp)) (Fld.ne F_ordinal_wA F_ordinal_wN (by simp)) (Fld.ne F_ordinal_wD F_ordinal_wA (by simp)) (Fld.ne F_ordinal_wD F_ordinal_wC (by simp)) (Fld.ne F_ordinal_wD F_ordinal_wN (by simp)) (Fld.ne F_ordinal_wC F_ordinal_wA (by simp)) (Fld.ne F_ordinal_wC F_ordinal_wD (by simp)) (Fld.ne F_ordinal_wC F_ordinal_wN (by simp)) (Fld.ne F_ordinal_wN F_ordinal_wA (by simp)) (Fld.ne F_ordinal_wN F_ordinal_wD (by simp)) (Fld.ne F_ordinal_wN F_ordinal_wC (by simp))) p e ha hc hk s m _ below hf ((Spec.applies_iff_loose hf).mp happ).1 ⟨rfl, State.Warmed39.refl s, rfl⟩ trivial
  exact ⟨n, _, h1, h2, h3, hpost _ _ _ _ _ _ ⟨Cond.after_iff.mpr rfl, Cond.after_iff.mpr (eq_i res_at (Term.int_eval (1)) rfl), trivial⟩ ⟨hq.1, hq.2.1, (hq.2.2.sift fun y hy => Or.inr (N y hy)).mono (by decide) (by decide)⟩⟩
theorem main_1_1 : Claimed_1_1 := comes_1 fun _ _ _ _ _ _ h hF => ⟨h.1, hF⟩
theorem main_1_2 : Claimed_1_2 := comes_1 fun _ _ _ _ _ _ h hF => ⟨h.2.1, hF⟩

end Jvm.Pilot.@@N@@
namespace Jvm.Pilot.@@N@@
open Jvm Jvm.ClassFile Sem Op Lib Jvm.Free Jvm.Stand Jvm.Pilot.@@N@@.Jvm.D
/-! MADE BY PROGRAM (witnessworld.py) out of the Statement's table words and the real class files: 12 classes; the members and pool entries that the words name. The judged class is class 1, her method 1. -/
namespace start1
open Jvm.ClassFile
def u (s : String) : CpInfo := .utf8 (stringToUtf16 s)
/-- a pool by its gaps: so many unusable entries, then the entry; so many at the end -/
def gap : Nat → List CpInfo → List CpInfo
  | 0, r => r
  | n + 1, r => .unusable :: gap n r
def poolList (es : List (Nat × CpInfo)) (last : Nat) : List CpInfo := es.foldr (fun e r => gap e.1 (e.2 :: r)) (gap last [])
def pool (es : List (Nat × CpInfo)) (last : Nat) : Array CpInfo := ⟨poolList es last⟩
def fileOf (pool : Array CpInfo) (this : Nat) (attrs : Array Attribute := #[]) (ms : Array MethodInfo := #[]) (fl : Nat := 33) (sup : Nat := 0) (ifs : Array Nat := #[]) (fds : Array FieldInfo := #[]) : ClassFile where
  minorVersion := 0
  majorVersion := 65
  constantPool := pool
  accessFlags := fl
  thisClass := this
  superClass := sup
  interfaces := ifs
  fields := fds
  methods := ms
  attributes := attrs
def plain (name : String) (sup : Option ClassId) : Class where
  name := name
  kind := .ordinary
  loader := none
  accessFlags := 33
  super := sup
  interfaces := #[]
  cf := none
  fields := #[]
  methods := #[]
  instanceTypes := #[]
  staticTypes := #[]
  resolved := #[]
  callSites := []
  init := .initialized
  statics := none
  mirror := none

def pool0 : Array CpInfo := pool [(5, u "<init>"), (0, u "()V"), (1, .class_ 10), (1, u "java/lang/Object")] 113

def k0m0 : Method := { name := "<init>", desc := "()V", sig := { parameters := [], returnType := none }, accessFlags := 1, code := none }
/-- java/lang/Object -/
def k0 : Class := { plain "java/lang/Object" none with
  accessFlags := 33
  interfaces := #[]
  cf := some (fileOf pool0 8 #[] #[{ accessFlags := 1, nameIndex := 5, descriptorIndex := 6, attributes := #[] }] 33 0 #[] #[])
  fields := #[]
  methods := #[k0m0]
  instanceTypes := #[]
  staticTypes := #[]
  resolved := Array.replicate 124 none
  statics := none }

def pool1 : Array CpInfo := pool [(2, .class_ 4), (1, u "java/lang/Object"), (0, u "<init>"), (0, u "()V"), (0, .fieldref 8 9), (0, .class_ 10), (0, .nameAndType 11 12), (0, u "com/example/tumbleweir/tumbleweir/engine/Direction"), (0, u "ASCENDING"), (0, u "Lcom/example/tumbleweir/tumbleweir/engine/Direction;"), (0, .fieldref 8 14), (0, .nameAndType 15 12), (0, u "DESCENDING"), (0, .fieldref 8 17), (0, .nameAndType 18 12), (0, u "CONSTANT"), (0, .fieldref 8 20), (0, .nameAndType 21 12), (0, u "NONE"), (0, .methodref 8 23), (0, .nameAndType 24 25), (0, u "moves"), (0, u "()Z"), (0, .methodref 8 27), (0, .nameAndType 28 29), (0, u "reverse"), (0, u "()Lcom/example/tumbleweir/tumbleweir/engine/Direction;"), (0, .class_ 31), (0, u "com/example/tumbleweir/tumbleweir/engine/DirectionMovesPinLaw"), (2, u "law"), (0, u "(I)Z")] 3

def k1m0 : Method := { name := "<init>", desc := "()V", sig := { parameters := [], returnType := none }, accessFlags := 1, code := none }
def k1c1 : Code := { maxStack := 3, maxLocals := 5, code := code, exceptionTable := #[], attributes := #[] }
def k1m1 : Method := { name := "law", desc := "(I)Z", sig := { parameters := [.int], returnType := some .boolean }, accessFlags := 9, code := some k1c1 }
/-- com/example/tumbleweir/tumbleweir/engine/DirectionMovesPinLaw -/
def k1 : Class := { plain "com/example/tumbleweir/tumbleweir/engine/DirectionMovesPinLaw" (some 0) with
  accessFlags := 49
  interfaces := #[]
  cf := some (fileOf pool1 30 #[] #[{ accessFlags := 1, nameIndex := 5, descriptorIndex := 6, attributes := #[] }, { accessFlags := 9, nameIndex := 34, descriptorIndex := 35, attributes := #[] }] 49 2 #[] #[])
  fields := #[]
  methods := #[k1m0, k1m1]
  instanceTypes := #[]
  staticTypes := #[]
  resolved := Array.replicate 39 none
  statics := none }

def pool2 : Array CpInfo := pool [(1, .class_ 2), (0, u "java/lang/constant/Constable"), (0, .class_ 4), (0, u "java/lang/Object")] 6

/-- java/lang/constant/Constable -/
def k2 : Class := { plain "java/lang/constant/Constable" (some 0) with
  accessFlags := 1537
  interfaces := #[]
  cf := some (fileOf pool2 1 #[] #[] 1537 3 #[] #[])
  fields := #[]
  methods := #[]
  instanceTypes := #[]
  staticTypes := #[]
  resolved := Array.replicate 11 none
  statics := none }

def pool3 : Array CpInfo := pool [(1, .class_ 2), (0, u "java/lang/Comparable"), (0, .class_ 4), (0, u "java/lang/Object")] 7

/-- java/lang/Comparable -/
def k3 : Class := { plain "java/lang/Comparable" (some 0) with
  accessFlags := 1537
  interfaces := #[]
  cf := some (fileOf pool3 1 #[] #[] 1537 3 #[] #[])
  fields := #[]
  methods := #[]
  instanceTypes := #[]
  staticTypes := #[]
  resolved := Array.replicate 12 none
  statics := none }

def pool4 : Array CpInfo := pool [(1, .class_ 2), (0, u "java/io/Serializable"), (0, .class_ 4), (0, u "java/lang/Object")] 2

/-- java/io/Serializable -/
def k4 : Class := { plain "java/io/Serializable" (some 0) with
  accessFlags := 1537
  interfaces := #[]
  cf := some (fileOf pool4 1 #[] #[] 1537 3 #[] #[])
  fields := #[]
  methods := #[]
  instanceTypes := #[]
  staticTypes := #[]
  resolved := Array.replicate 7 none
  statics := none }

def pool5 : Array CpInfo := pool [(2, .class_ 4), (1, u "java/lang/Enum"), (0, u "name"), (0, u "Ljava/lang/String;"), (0, .fieldref 2 8), (0, .nameAndType 9 10), (0, u "ordinal"), (0, u "I"), (1, .class_ 14), (1, u "java/lang/Object"), (4, u "hash"), (86, .class_ 108), (1, u "java/lang/Enum$EnumDesc"), (2, .class_ 112), (0, u "java/lang/constant/Constable"), (0, .class_ 114), (0, u "java/lang/Comparable"), (0, .class_ 116), (0, u "java/io/Serializable"), (9, u "()I")] 77

def k5c0 : Code := { maxStack := 1, maxLocals := 1, code := jdk_37_method_2_code, exceptionTable := #[], attributes := #[] }
def k5m0 : Method := { name := "ordinal", desc := "()I", sig := { parameters := [], returnType := some .int }, accessFlags := 17, code := some k5c0 }
/-- java/lang/Enum -/
def k5 : Class := { plain "java/lang/Enum" (some 0) with
  accessFlags := 1057
  interfaces := #[2, 3, 4]
  cf := some (fileOf pool5 2 #[.nestMembers #[106]] #[{ accessFlags := 17, nameIndex := 9, descriptorIndex := 126, attributes := #[] }] 1057 12 #[111, 113, 115] #[{ accessFlags := 18, nameIndex := 5, descriptorIndex := 6, attributes := #[] }, { accessFlags := 18, nameIndex := 9, descriptorIndex := 10, attributes := #[] }, { accessFlags := 2, nameIndex := 19, descriptorIndex := 10, attributes := #[] }])
  fields := #[{ name := "name", type := (.object "java/lang/String"), accessFlags := 18, slot := 0, constantValue := 0 }, { name := "ordinal", type := .int, accessFlags := 18, slot := 1, constantValue := 0 }, { name := "hash", type := .int, accessFlags := 2, slot := 2, constantValue := 0 }]
  methods := #[k5m0]
  instanceTypes := #[(.object "java/lang/String"), .int, .int]
  staticTypes := #[]
  resolved := Array.replicate 204 none
  statics := none }

def pool6 : Array CpInfo := pool [(1, .class_ 2), (0, u "com/example/tumbleweir/tumbleweir/engine/Direction"), (0, .fieldref 1 4), (0, .nameAndType 5 6), (0, u "ASCENDING"), (0, u "Lcom/example/tumbleweir/tumbleweir/engine/Direction;"), (0, .fieldref 1 8), (0, .nameAndType 9 6), (0, u "DESCENDING"), (2, u "CONSTANT"), (2, u "NONE"), (2, u "$VALUES"), (0, u "[Lcom/example/tumbleweir/tumbleweir/engine/Direction;"), (6, .class_ 28), (1, u "java/lang/Enum"), (6, .methodref 1 36), (0, .nameAndType 37 38), (0, u "ordinal"), (0, u "()I"), (16, u "()Z"), (2, u "reverse"), (0, u "()Lcom/example/tumbleweir/tumbleweir/engine/Direction;"), (17, u "moves")] 12

def k6c0 : Code := { maxStack := 2, maxLocals := 1, code := prog_36_method_5_code, exceptionTable := #[], attributes := #[] }
def k6m0 : Method := { name := "moves", desc := "()Z", sig := { parameters := [], returnType := some .boolean }, accessFlags := 0, code := some k6c0 }
def k6c1 : Code := { maxStack := 1, maxLocals := 1, code := prog_36_method_7_code, exceptionTable := #[], attributes := #[] }
def k6m1 : Method := { name := "reverse", desc := "()Lcom/example/tumbleweir/tumbleweir/engine/Direction;", sig := { parameters := [], returnType := some (.object "com/example/tumbleweir/tumbleweir/engine/Direction") }, accessFlags := 0, code := some k6c1 }
/-- com/example/tumbleweir/tumbleweir/engine/Direction -/
def k6 : Class := { plain "com/example/tumbleweir/tumbleweir/engine/Direction" (some 5) with
  accessFlags := 16432
  interfaces := #[]
  cf := some (fileOf pool6 1 #[] #[{ accessFlags := 0, nameIndex := 77, descriptorIndex := 55, attributes := #[] }, { accessFlags := 0, nameIndex := 58, descriptorIndex := 59, attributes := #[] }] 16432 26 #[] #[{ accessFlags := 16409, nameIndex := 5, descriptorIndex := 6, attributes := #[] }, { accessFlags := 16409, nameIndex := 9, descriptorIndex := 6, attributes := #[] }, { accessFlags := 16409, nameIndex := 12, descriptorIndex := 6, attributes := #[] }, { accessFlags := 16409, nameIndex := 15, descriptorIndex := 6, attributes := #[] }, { accessFlags := 4122, nameIndex := 18, descriptorIndex := 19, attributes := #[] }])
  fields := #[{ name := "ASCENDING", type := (.object "com/example/tumbleweir/tumbleweir/engine/Direction"), accessFlags := 16409, slot := 0, constantValue := 0 }, { name := "DESCENDING", type := (.object "com/example/tumbleweir/tumbleweir/engine/Direction"), accessFlags := 16409, slot := 1, constantValue := 0 }, { name := "CONSTANT", type := (.object "com/example/tumbleweir/tumbleweir/engine/Direction"), accessFlags := 16409, slot := 2, constantValue := 0 }, { name := "NONE", type := (.object "com/example/tumbleweir/tumbleweir/engine/Direction"), accessFlags := 16409, slot := 3, constantValue := 0 }, { name := "$VALUES", type := (.array (.object "com/example/tumbleweir/tumbleweir/engine/Direction")), accessFlags := 4122, slot := 4, constantValue := 0 }]
  methods := #[k6m0, k6m1]
  instanceTypes := #[(.object "java/lang/String"), .int, .int]
  staticTypes := #[(.object "com/example/tumbleweir/tumbleweir/engine/Direction"), (.object "com/example/tumbleweir/tumbleweir/engine/Direction"), (.object "com/example/tumbleweir/tumbleweir/engine/Direction"), (.object "com/example/tumbleweir/tumbleweir/engine/Direction"), (.array (.object "com/example/tumbleweir/tumbleweir/engine/Direction"))]
  resolved := Array.replicate 90 none
  statics := some 0 }

def pool7 : Array CpInfo := pool [(1, u "java/lang/Cloneable"), (0, .class_ 1), (0, u "java/lang/Object"), (0, .class_ 3)] 3

/-- java/lang/Cloneable -/
def k7 : Class := { plain "java/lang/Cloneable" (some 0) with
  accessFlags := 1537
  interfaces := #[]
  cf := some (fileOf pool7 2 #[] #[] 1537 4 #[] #[])
  fields := #[]
  methods := #[]
  instanceTypes := #[]
  staticTypes := #[]
  resolved := Array.replicate 8 none
  statics := none }

/-- the primitive byte -/
def k8 : Class := { plain "byte" none with kind := .primitive 'B', accessFlags := 0x411 }
/-- [B -/
def k9 : Class := { plain "[B" (some 0) with kind := .array 8 .byte, interfaces := #[7, 4], accessFlags := 1041 }

/-- the primitive int -/
def k10 : Class := { plain "int" none with kind := .primitive 'I', accessFlags := 0x411 }
/-- [I -/
def k11 : Class := { plain "[I" (some 0) with kind := .array 10 .int, interfaces := #[7, 4], accessFlags := 1041 }

def heap : Heap := #[{ cls := 6, slots := #[.ref 1, .ref 2, .ref 3, .ref 4, .null], vm := .statics 6 },
  { cls := 6, slots := #[.null, .int 0, .int 0], vm := .none },
  { cls := 6, slots := #[.null, .int 1, .int 0], vm := .none },
  { cls := 6, slots := #[.null, .int 2, .int 0], vm := .none },
  { cls := 6, slots := #[.null, .int 3, .int 0], vm := .none }]
def classes : Array Class := #[k0, k1, k2, k3, k4, k5, k6, k7, k8, k9, k10, k11]
def interned : List (Array UInt16 × Addr) := []
def slotsUsed : Nat := 17
def theMethod : MethodId := ⟨1, 1⟩
def args0 : Array Value := #[.int 5]
def aboutOver (below : List Frame) : State where
  vm := { classes := classes, interned := interned.toArray }
  heap := heap
  slotsUsed := slotsUsed
  threads := #[{ frames := .invoking theMethod args0 :: below }]
def below0 : List Frame := [.native { method := ⟨0, 0⟩, args := #[] }]
def about1 : State := aboutOver below0
def p0 : Program := .bare "" "" ""
def e0 : Env := launch0.env 0 0 0
theorem w_frames : about1.frames = Frame.invoking theMethod args0 :: below0 := rfl
set_option maxRecDepth 65536 in
theorem w_args : argsFit about1.vm theMethod args0 = true := by decide +kernel
set_option maxRecDepth 65536 in
theorem w_heap : heapFits about1 = true := by decide +kernel
set_option maxRecDepth 65536 in
theorem w_runnable : about1.curStatus? = some .runnable := by decide +kernel
set_option maxRecDepth 65536 in
theorem w_alone : about1.alone = true := by decide +kernel
set_option maxRecDepth 65536 in
theorem w_named : about1.methodNamed? x = some theMethod := by decide +kernel
set_option maxRecDepth 65536 in
theorem w_hears : about1.hears theMethod below0 = true := by decide +kernel
set_option maxRecDepth 65536 in
theorem w_ripe : about1.ripe theMethod args0 below0 = true := by decide +kernel
theorem w_running : about1.status = .running := rfl
set_option maxRecDepth 65536 in
theorem w_room : about1.hasRoom e0.platform room_1 = true :=
  launch0.hasRoom_least _ room_1 (by decide +kernel) (by decide +kernel) (by decide +kernel) (by decide +kernel) (by decide +kernel) (by decide +kernel)
theorem allAtoms_all (ts : List Jvm.Cond) (a : Array Jvm.Value) (st : Jvm.State) : (allAtoms ts).before a st = ts.all (fun c => c.before a st) := by
  induction ts with
  | nil => rfl
  | cons c t ih =>
    show (Jvm.Cond.and c (allAtoms t)).before a st = _
    rw [Jvm.Cond.before_and, ih, List.all_cons]
def words1 : List Jvm.Cond := Jvm.Cond.code x code maxLocals ret :: tables_1
/-- a 'code' word, met by the world's own term for the bytes: nothing is compared byte by byte -/
theorem code_word {y : MethodName} {bytes : ByteArray} {mx : Nat} {rt : Option FieldType} {a : Array Value} {s : State} {m : MethodId} {meth : Method} {c : Code} (h1 : s.methodNamed? y = some m) (h2 : s.vm.method? m = some meth) (h3 : meth.code = some c) (h4 : c.code = bytes)
    (h5 : (c.maxLocals == mx && c.exceptionTable.isEmpty && decide (c.maxStack ≤ mostOperands) && decide (meth.sig.returnType = rt) && !meth.locks && decide (parseMethodDescriptor y.desc = some meth.sig)) = true) : (Jvm.Cond.code y bytes mx rt).before a s = true := by
  simp only [Bool.and_eq_true, beq_iff_eq, Bool.not_eq_true', decide_eq_true_eq] at h5
  obtain ⟨⟨⟨⟨⟨g1, g2⟩, g3⟩, g4⟩, g5⟩, g6⟩ := h5
  simp [Cond.before, Cond.holds, Cond.value, h1, h2, h3, h4, g1, g2, g3, g4, g5, g6]
def isCode : Jvm.Cond → Bool
  | .code _ _ _ _ => true
  | _ => false
theorem all_split {L : List Jvm.Cond} {P : Jvm.Cond → Bool} (h1 : L.all (fun c => isCode c || P c) = true) (h2 : ∀ c ∈ L.filter isCode, P c = true) : L.all P = true := by
  refine List.all_eq_true.mpr fun c hc => ?_
  have h := List.all_eq_true.mp h1 c hc
  rcases Bool.eq_false_or_eq_true (isCode c) with hi | hi
  · exact h2 c (List.mem_filter.mpr ⟨hc, hi⟩)
  · simpa [hi] using h
set_option maxRecDepth 65536 in
theorem w_c0 : (Jvm.Cond.code x code maxLocals ret).before args0 about1 = true := code_word (m := ⟨1, 1⟩) (meth := k1m1) (c := k1c1) (by decide +kernel) rfl rfl rfl (by decide +kernel)
set_option maxRecDepth 65536 in
theorem w_c1 : (Jvm.Cond.code ({ cls := "com/example/tumbleweir/tumbleweir/engine/Direction", name := "moves", desc := "()Z" } : Jvm.MethodName) prog_36_method_5_code (1 : Nat) (Option.some Jvm.ClassFile.FieldType.boolean)).before args0 about1 = true := code_word (m := ⟨6, 0⟩) (meth := k6m0) (c := k6c0) (by decide +kernel) rfl rfl rfl (by decide +kernel)
set_option maxRecDepth 65536 in
theorem w_c2 : (Jvm.Cond.code ({ cls := "com/example/tumbleweir/tumbleweir/engine/Direction", name := "reverse", desc := "()Lcom/example/tumbleweir/tumbleweir/engine/Direction;" } : Jvm.MethodName) prog_36_method_7_code (1 : Nat) (Option.some (Jvm.ClassFile.FieldType.object "com/example/tumbleweir/tumbleweir/engine/Direction"))).before args0 about1 = true := code_word (m := ⟨6, 1⟩) (meth := k6m1) (c := k6c1) (by decide +kernel) rfl rfl rfl (by decide +kernel)
set_option maxRecDepth 65536 in
theorem w_c3 : (Jvm.Cond.code ({ cls := "java/lang/Enum", name := "ordinal", desc := "()I" } : Jvm.MethodName) jdk_37_method_2_code (1 : Nat) (Option.some Jvm.ClassFile.FieldType.int)).before args0 about1 = true := code_word (m := ⟨5, 0⟩) (meth := k5m0) (c := k5c0) (by decide +kernel) rfl rfl rfl (by decide +kernel)
def codes1 : List Jvm.Cond := [Jvm.Cond.code x code maxLocals ret, Jvm.Cond.code ({ cls := "com/example/tumbleweir/tumbleweir/engine/Direction", name := "moves", desc := "()Z" } : Jvm.MethodName) prog_36_method_5_code (1 : Nat) (Option.some Jvm.ClassFile.FieldType.boolean), Jvm.Cond.code ({ cls := "com/example/tumbleweir/tumbleweir/engine/Direction", name := "reverse", desc := "()Lcom/example/tumbleweir/tumbleweir/engine/Direction;" } : Jvm.MethodName) prog_36_method_7_code (1 : Nat) (Option.some (Jvm.ClassFile.FieldType.object "com/example/tumbleweir/tumbleweir/engine/Direction")), Jvm.Cond.code ({ cls := "java/lang/Enum", name := "ordinal", desc := "()I" } : Jvm.MethodName) jdk_37_method_2_code (1 : Nat) (Option.some Jvm.ClassFile.FieldType.int)]
set_option maxRecDepth 65536 in
theorem codes_eq : words1.filter isCode = codes1 := rfl
theorem w_codes : ∀ c ∈ words1.filter isCode, c.before args0 about1 = true := by
  rw [codes_eq]
  intro c hc
  simp only [codes1, List.mem_cons, List.not_mem_nil, or_false] at hc
  rcases hc with rfl | rfl | rfl | rfl
  · exact w_c0
  · exact w_c1
  · exact w_c2
  · exact w_c3
set_option maxRecDepth 65536 in
theorem w_t1 : (words1.take 24).all (fun c => isCode c || c.before args0 about1) = true := by decide +kernel
set_option maxRecDepth 65536 in
theorem w_t2 : (words1.drop 24).all (fun c => isCode c || c.before args0 about1) = true := by decide +kernel
theorem w_tables : (allAtoms (Jvm.Cond.code x code maxLocals ret :: tables_1)).before args0 about1 = true := by
  rw [allAtoms_all]
  show words1.all (fun c => c.before args0 about1) = true
  refine all_split ?_ w_codes
  rw [← List.take_append_drop 24 words1, List.all_append, w_t1, w_t2]
  rfl
set_option maxRecDepth 65536 in
theorem w_case : (Jvm.Cond.and given_1 narrow_1).before args0 about1 = true := by decide +kernel
theorem w_applies : (headSpec (Jvm.Cond.code x code maxLocals ret :: tables_1) room_1).applies x e0.platform about1 = true :=
  (Spec.applies_iff w_frames).mpr ⟨w_running, w_runnable, w_alone, w_named, w_hears, w_ripe, w_room, w_tables⟩
theorem atStart : AtStart classFile x code maxLocals ret World_1 tables_1 room_1 Calls_1 rest_1 Pre_1 launch0 p0 e0 about1 theMethod args0 below0 :=
  ⟨lists_1, trivial, launch0.admits_env _ _ _, launch0.least_env, fairChoices_fair.cas, fairChoices_fair.clock, w_frames, w_args, w_heap, w_applies, trivial, trivial, w_case⟩
end start1
theorem witness_1 : WitnessClaimed_1 := ⟨start1.p0, start1.e0, start1.about1, start1.theMethod, start1.args0, start1.below0, start1.atStart⟩
end Jvm.Pilot.@@N@@
