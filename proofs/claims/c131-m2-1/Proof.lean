import JvmDerived
import JvmDerived.Pilot.@@N@@Statement
import JvmDerived.Pilot.@@N@@Code
set_option linter.unusedVariables false
set_option linter.unusedSimpArgs false
namespace Jvm.RoadKit
open Sem ClassFile Op Lib Jvm.Stand Jvm.Free Jvm.LawKit
section New
variable {p : Program} {l : Launch} {e : Env} {R : Room} {s : State} {m : MethodId} {args : Array Value} {below : List Frame} {meth : Method} {c : Code} {T : State} {locs : List Loc} {cells slots : Nat}
theorem retI (X : Stand p l e R s m args below meth c T locs cells slots) (hx : p.tables.exec = Jvm.exec) {pc : Nat} {Ls : Array Slot} {z : Int32} {rest : List Value} (hret : meth.sig.returnType = some .int) (hd : decode c.code pc = .ok (.ireturn, 1)) {fs : List Frame}
    (hl : ∀ (f : JFrame) (acts : List Action), f.method = m → f.locked = none → f.entered = [] → (doReturn e (T.setTop f) acts (some (.int z))).1 = T.setFrames fs) : Steps p.tables e below (T.setTop (mkF m pc Ls (.int z :: rest))) (T.setFrames fs) := by
  have hm' : T.vm.method? m = some meth := X.method'
  have hn : narrow .int (.int z) = .int z := rfl
  show Steps p.tables e below (T.setTop { method := m, pc := pc, locals := Ls, stack := _ :: rest, locked := none }) _
  jvm_step X.here [X.here.top, hx, hd, hm', hret, hn]
  first | (intro acts; rw [hl _ acts rfl rfl rfl]) | rw [hl _ _ rfl rfl rfl]
  exact Steps.refl _
end New
end Jvm.RoadKit
namespace Jvm.Pilot.@@N@@
open Jvm Jvm.ClassFile Sem Op Lib Jvm.Free Jvm.Stand Jvm.LawKit Jvm.RoadKit Bundle Jvm.Pilot.@@N@@.Jvm.D
/-- what a call that writes nothing leaves -/
def PureQ (rv : Option Value) (h0 : Heap) (n0 : Nat) (v : Option Value) (h : Heap) (L : List Loc) : Prop := v = rv ∧ Fr n0 L ∧ h = h0
/-- what the law leaves -/
def LawQ (n0 : Nat) (v : Option Value) (h : Heap) (L : List Loc) : Prop := v = some (.int (1 : Int32)) ∧ Fr n0 L
theorem own_fld {Z : State} {args : Array Value} {a : Addr} {t u : Term} {C n d : String} {v : Value} (ev : t.eval args Z none [] Z = some (.ref a)) (h : (Jvm.Cond.eq (Term.field t C n d) u).value args Z none Z [] = some true) (eu : u.eval args Z none [] Z = some v) : Fld Z Z.heap a C n d v := by
  obtain ⟨x, y, h1, h2, -⟩ := cmp_v (Or.inl h)
  have e2 : y = v := Option.some.inj (h2.symm.trans eu)
  subst e2
  have e3 : x = y := by
    simp only [Jvm.Cond.value, h1, h2] at h
    cases x <;> cases y <;> simp_all
  subst e3
  exact Fld.start ((fld_at ev).symm.trans h1)
theorem pn_TrendJoinPinLaw : plainName "com/example/egret/egret/language/TrendJoinPinLaw" = true := by first | (simp [plainName, overriddenIn]; done) | decide +kernel
theorem ef_trend (m : MethodId) (x0 : Int32) : entryFrame m #[(.int x0)] 1 = mkF m 0 #[.val (.int x0)] [] := by first | (simp [entryFrame, mkF, argsToLocals, Value.category]; done) | rfl
theorem d1_0 : decode method_2_code 0 = .ok (.iload_n 0, 1) := by decide +kernel
theorem d1_1 : decode method_2_code 1 = .ok (.ifCond .ne 7, 3) := by decide +kernel
theorem d1_4 : decode method_2_code 4 = .ok (.getstatic 7, 3) := by decide +kernel
theorem d1_7 : decode method_2_code 7 = .ok (.areturn, 1) := by decide +kernel
theorem d1_8 : decode method_2_code 8 = .ok (.iload_n 0, 1) := by decide +kernel
theorem d1_9 : decode method_2_code 9 = .ok (.iconst 1, 1) := by decide +kernel
theorem d1_10 : decode method_2_code 10 = .ok (.if_icmp .ne 7, 3) := by decide +kernel
theorem d1_13 : decode method_2_code 13 = .ok (.getstatic 13, 3) := by decide +kernel
theorem d1_16 : decode method_2_code 16 = .ok (.areturn, 1) := by decide +kernel
theorem d1_17 : decode method_2_code 17 = .ok (.iload_n 0, 1) := by decide +kernel
theorem d1_18 : decode method_2_code 18 = .ok (.iconst 2, 1) := by decide +kernel
theorem d1_19 : decode method_2_code 19 = .ok (.if_icmp .ne 7, 3) := by decide +kernel
theorem d1_22 : decode method_2_code 22 = .ok (.getstatic 16, 3) := by decide +kernel
theorem d1_25 : decode method_2_code 25 = .ok (.areturn, 1) := by decide +kernel
theorem d1_26 : decode method_2_code 26 = .ok (.getstatic 19, 3) := by decide +kernel
theorem d1_29 : decode method_2_code 29 = .ok (.areturn, 1) := by decide +kernel
theorem pn_ScoreTrend_Trend : plainName "com/example/egret/egret/language/ScoreTrend$Trend" = true := by first | (simp [plainName, overriddenIn]; done) | decide +kernel
theorem ef_join (m : MethodId) (x0 : Addr) (x1 : Addr) : entryFrame m #[(.ref x0), (.ref x1)] 2 = mkF m 0 #[.val (.ref x0), .val (.ref x1)] [] := by first | (simp [entryFrame, mkF, argsToLocals, Value.category]; done) | rfl
theorem d2_0 : decode prog_120_method_4_code 0 = .ok (.aload_n 0, 1) := by decide +kernel
theorem d2_1 : decode prog_120_method_4_code 1 = .ok (.getstatic 3, 3) := by decide +kernel
theorem d2_4 : decode prog_120_method_4_code 4 = .ok (.if_acmp .eq 8, 3) := by decide +kernel
theorem d2_12 : decode prog_120_method_4_code 12 = .ok (.aload_n 1, 1) := by decide +kernel
theorem d2_13 : decode prog_120_method_4_code 13 = .ok (.areturn, 1) := by decide +kernel
theorem d2_7 : decode prog_120_method_4_code 7 = .ok (.aload_n 0, 1) := by decide +kernel
theorem d2_8 : decode prog_120_method_4_code 8 = .ok (.aload_n 1, 1) := by decide +kernel
theorem d2_9 : decode prog_120_method_4_code 9 = .ok (.if_acmp .ne 5, 3) := by decide +kernel
theorem d2_14 : decode prog_120_method_4_code 14 = .ok (.aload_n 1, 1) := by decide +kernel
theorem d2_15 : decode prog_120_method_4_code 15 = .ok (.getstatic 3, 3) := by decide +kernel
theorem d2_18 : decode prog_120_method_4_code 18 = .ok (.if_acmp .ne 7, 3) := by decide +kernel
theorem d2_21 : decode prog_120_method_4_code 21 = .ok (.aload_n 0, 1) := by decide +kernel
theorem d2_22 : decode prog_120_method_4_code 22 = .ok (.goto 6, 3) := by decide +kernel
theorem d2_28 : decode prog_120_method_4_code 28 = .ok (.areturn, 1) := by decide +kernel
theorem d2_25 : decode prog_120_method_4_code 25 = .ok (.getstatic 13, 3) := by decide +kernel
theorem ef_law (m : MethodId) (x0 : Int32) (x1 : Int32) : entryFrame m #[(.int x0), (.int x1)] maxLocals = mkF m 0 #[.val (.int x0), .val (.int x1), .unset, .unset, .unset, .unset, .unset] [] := by first | (simp [entryFrame, mkF, argsToLocals, Value.category, maxLocals]; done) | rfl
theorem pd_e_egret_egret_language_ScoreTrend_Trend__54 : parseMethodDescriptor "(I)Lcom/example/egret/egret/language/ScoreTrend$Trend;" = some ⟨[.int], some (.object "com/example/egret/egret/language/ScoreTrend$Trend")⟩ := by decide +kernel
theorem pd_e_egret_egret_language_ScoreTrend_Trend__104 : parseMethodDescriptor "(Lcom/example/egret/egret/language/ScoreTrend$Trend;)Lcom/example/egret/egret/language/ScoreTrend$Trend;" = some ⟨[(.object "com/example/egret/egret/language/ScoreTrend$Trend")], some (.object "com/example/egret/egret/language/ScoreTrend$Trend")⟩ := by decide +kernel
def f_trend (wC : Addr) (wR : Addr) (wF : Addr) (wA : Addr) (p1 : Int32) : Addr := (if p1 = (0 : Int32) then wC else (if p1 = (1 : Int32) then wR else (if p1 = (2 : Int32) then wF else wA)))
set_option maxRecDepth 65536 in
set_option maxHeartbeats 40000000 in
theorem rm_trend (l : Launch) (Z : State) (a0 : Array Value) (hw : ∀ d ∈ tables_1, d.before a0 Z = true) (ws : List Jvm.Cond) (wC : Addr) (wR : Addr) (wF : Addr) (wA : Addr) (p1 : Int32) (h0 : Heap) (n0 : Nat) (Z0 : n0 ≤ h0.size) (S_wC : Sta Z h0 "com/example/egret/egret/language/ScoreTrend$Trend" "CONSTANT" "Lcom/example/egret/egret/language/ScoreTrend$Trend;" (.ref wC)) (S_wR : Sta Z h0 "com/example/egret/egret/language/ScoreTrend$Trend" "RISING" "Lcom/example/egret/egret/language/ScoreTrend$Trend;" (.ref wR)) (S_wF : Sta Z h0 "com/example/egret/egret/language/ScoreTrend$Trend" "FALLING" "Lcom/example/egret/egret/language/ScoreTrend$Trend;" (.ref wF)) (S_wA : Sta Z h0 "com/example/egret/egret/language/ScoreTrend$Trend" "ANY" "Lcom/example/egret/egret/language/ScoreTrend$Trend;" (.ref wA)) :
    MetFree l (⟨"com/example/egret/egret/language/TrendJoinPinLaw", "trend", "(I)Lcom/example/egret/egret/language/ScoreTrend$Trend;"⟩ : MethodName) (head1 (Jvm.Cond.code (⟨"com/example/egret/egret/language/TrendJoinPinLaw", "trend", "(I)Lcom/example/egret/egret/language/ScoreTrend$Trend;"⟩ : MethodName) method_2_code 1 (some (.object "com/example/egret/egret/language/ScoreTrend$Trend")) :: ws) ({ frames := 0, cells := 0, slots := 0, locals := 0 } : Room)) (fun a U => a = #[(.int p1)] ∧ Z.Warmed39 U.vm ∧ U.heap = h0) (fun _ _ _ _ _ => True) (fun _ U o U' => ∃ v L, o = .returned v ∧ PureQ (some (.ref (f_trend wC wR wF wA p1))) h0 n0 v U'.heap L ∧ FrameEnd U o U' L ({ frames := 0, cells := 0, slots := 0, locals := 0 } : Room).cells ({ frames := 0, cells := 0, slots := 0, locals := 0 } : Room).slots) := by
  refine MetFree.of_bodySF (plainFor_of_name pn_TrendJoinPinLaw) hisR ?_
  intro p e s m args below meth c s₁ Bd hml0 hP hK
  obtain ⟨rfl, hZ, hh⟩ := hP
  have hx := Bd.exec
  have hby := Bd.bytes
  have hml : c.maxLocals = 1 := hml0
  have hown : s.vm.findClass "com/example/egret/egret/language/TrendJoinPinLaw" = some m.cls := findClass_of_methodNamed Bd.named
  have hnm := (name_of_methodNamed Bd.named Bd.method).1
  have X0 : Stand p l e ({ frames := 0, cells := 0, slots := 0, locals := 0 } : Room) s m #[(.int p1)] below meth c s₁ [] 0 0 := Stand.of_body Bd
  have e0 : s₁.heap = h0 := by rw [← hh, Bd.state]; rfl
  have N0 := Fr.nil n0
  have pre0 : ∀ t, Steps p.tables e below (s₁.setTop (mkF m 0 #[.val (.int p1)] [])) t → Steps p.tables e below (s₁.setTop (entryFrame m #[(.int p1)] 1)) t := fun t k => castTop (ef_trend m p1) k
  have pre1 : ∀ t, Steps p.tables e below (s₁.setTop (mkF m 1 #[.val (.int p1)] [(.int p1)])) t → Steps p.tables e below (s₁.setTop (entryFrame m #[(.int p1)] 1)) t := fun t k => pre0 t (by
      show Steps p.tables e below (s₁.setTop (mkF m 0 #[.val (.int p1)] [])) _
      refine XS.iloadN X0.here hx rfl (hb hby d1_0) rfl ?_
      exact k)
  by_cases g2 : p1 = (0 : Int32)
  · skip
    obtain ⟨T3, X3, e3, st3⟩ := getS2 X0 hx hZ hown (host := "") (Or.inl (hw _ (List.mem_of_getElem? (i := 4) rfl))) Via.refl e0 S_wC (g := (mkF m 4 #[.val (.int p1)] [])) rfl (hb hby d1_4)
    obtain ⟨fs, hr, hrun, hended, hW, hsame⟩ := X3.leave (v := some (.ref wC)) (fun h => by rw [Bd.returns] at h; cases h)
    refine ⟨_, _, pre1 _ ?_, hrun, hended, _, _, rfl, ?_, ⟨_, rfl⟩, hW, hsame.mono (by decide) (by decide)⟩
    · show Steps p.tables e below (s₁.setTop (mkF m 1 #[.val (.int p1)] [(.int p1)])) _
      refine XS.ifNo X0.here hx rfl (hb hby d1_1) rfl ((if0 _ _).trans (teq g2).2) ?_
      show Steps p.tables e below (s₁.setTop (mkF m 4 #[.val (.int p1)] [])) _
      refine st3 _ ?_
      show Steps p.tables e below (T3.setTop (mkF m 7 #[.val (.int p1)] [(.ref wC)])) _
      jvm_step X3.here [X3.here.top, hx, (hb hby d1_7), X3.method', Bd.returns, Value.isRef, FieldType.isReference]
      first | (intro acts; rw [hr _ acts rfl rfl rfl]) | rw [hr _ _ rfl rfl rfl]
      exact Steps.refl _
    · exact ⟨by simp only [f_trend, if_pos g2], N0, e3⟩
  · skip
    have pre4 : ∀ t, Steps p.tables e below (s₁.setTop (mkF m 10 #[.val (.int p1)] [(.int (1 : Int32)), (.int p1)])) t → Steps p.tables e below (s₁.setTop (entryFrame m #[(.int p1)] 1)) t := fun t k => pre1 t (by
        show Steps p.tables e below (s₁.setTop (mkF m 1 #[.val (.int p1)] [(.int p1)])) _
        refine XS.ifYes X0.here hx rfl (pc0 := 1) (pc' := 8) rfl (hb hby d1_1) rfl ((if0 _ _).trans (feq g2).2) (by decide) (by decide) ?_
        show Steps p.tables e below (s₁.setTop (mkF m 8 #[.val (.int p1)] [])) _
        refine XS.iloadN X0.here hx rfl (hb hby d1_8) rfl ?_
        show Steps p.tables e below (s₁.setTop (mkF m 9 #[.val (.int p1)] [(.int p1)])) _
        refine XS.iconst X0.here hx rfl (hb hby d1_9) ?_
        exact k)
    by_cases g5 : p1 = (1 : Int32)
    · skip
      obtain ⟨T6, X6, e6, st6⟩ := getS2 X0 hx hZ hown (host := "") (Or.inl (hw _ (List.mem_of_getElem? (i := 17) rfl))) Via.refl e0 S_wR (g := (mkF m 13 #[.val (.int p1)] [])) rfl (hb hby d1_13)
      obtain ⟨fs, hr, hrun, hended, hW, hsame⟩ := X6.leave (v := some (.ref wR)) (fun h => by rw [Bd.returns] at h; cases h)
      refine ⟨_, _, pre4 _ ?_, hrun, hended, _, _, rfl, ?_, ⟨_, rfl⟩, hW, hsame.mono (by decide) (by decide)⟩
      · show Steps p.tables e below (s₁.setTop (mkF m 10 #[.val (.int p1)] [(.int (1 : Int32)), (.int p1)])) _
        refine XS.icmpNo X0.here hx rfl (hb hby d1_10) rfl (teq g5).2 ?_
        show Steps p.tables e below (s₁.setTop (mkF m 13 #[.val (.int p1)] [])) _
        refine st6 _ ?_
        show Steps p.tables e below (T6.setTop (mkF m 16 #[.val (.int p1)] [(.ref wR)])) _
        jvm_step X6.here [X6.here.top, hx, (hb hby d1_16), X6.method', Bd.returns, Value.isRef, FieldType.isReference]
        first | (intro acts; rw [hr _ acts rfl rfl rfl]) | rw [hr _ _ rfl rfl rfl]
        exact Steps.refl _
      · exact ⟨by simp only [f_trend, if_neg g2, if_pos g5], N0, e6⟩
    · skip
      have pre7 : ∀ t, Steps p.tables e below (s₁.setTop (mkF m 19 #[.val (.int p1)] [(.int (2 : Int32)), (.int p1)])) t → Steps p.tables e below (s₁.setTop (entryFrame m #[(.int p1)] 1)) t := fun t k => pre4 t (by
          show Steps p.tables e below (s₁.setTop (mkF m 10 #[.val (.int p1)] [(.int (1 : Int32)), (.int p1)])) _
          refine XS.icmpYes X0.here hx rfl (pc0 := 10) (pc' := 17) rfl (hb hby d1_10) rfl (feq g5).2 (by decide) (by decide) ?_
          show Steps p.tables e below (s₁.setTop (mkF m 17 #[.val (.int p1)] [])) _
          refine XS.iloadN X0.here hx rfl (hb hby d1_17) rfl ?_
          show Steps p.tables e below (s₁.setTop (mkF m 18 #[.val (.int p1)] [(.int p1)])) _
          refine XS.iconst X0.here hx rfl (hb hby d1_18) ?_
          exact k)
      by_cases g8 : p1 = (2 : Int32)
      · skip
        obtain ⟨T9, X9, e9, st9⟩ := getS2 X0 hx hZ hown (host := "") (Or.inl (hw _ (List.mem_of_getElem? (i := 15) rfl))) Via.refl e0 S_wF (g := (mkF m 22 #[.val (.int p1)] [])) rfl (hb hby d1_22)
        obtain ⟨fs, hr, hrun, hended, hW, hsame⟩ := X9.leave (v := some (.ref wF)) (fun h => by rw [Bd.returns] at h; cases h)
        refine ⟨_, _, pre7 _ ?_, hrun, hended, _, _, rfl, ?_, ⟨_, rfl⟩, hW, hsame.mono (by decide) (by decide)⟩
        · show Steps p.tables e below (s₁.setTop (mkF m 19 #[.val (.int p1)] [(.int (2 : Int32)), (.int p1)])) _
          refine XS.icmpNo X0.here hx rfl (hb hby d1_19) rfl (teq g8).2 ?_
          show Steps p.tables e below (s₁.setTop (mkF m 22 #[.val (.int p1)] [])) _
          refine st9 _ ?_
          show Steps p.tables e below (T9.setTop (mkF m 25 #[.val (.int p1)] [(.ref wF)])) _
          jvm_step X9.here [X9.here.top, hx, (hb hby d1_25), X9.method', Bd.returns, Value.isRef, FieldType.isReference]
          first | (intro acts; rw [hr _ acts rfl rfl rfl]) | rw [hr _ _ rfl rfl rfl]
          exact Steps.refl _
        · exact ⟨by simp only [f_trend, if_neg g2, if_neg g5, if_pos g8], N0, e9⟩
      · skip
        obtain ⟨T10, X10, e10, st10⟩ := getS2 X0 hx hZ hown (host := "") (Or.inl (hw _ (List.mem_of_getElem? (i := 7) rfl))) Via.refl e0 S_wA (g := (mkF m 26 #[.val (.int p1)] [])) rfl (hb hby d1_26)
        obtain ⟨fs, hr, hrun, hended, hW, hsame⟩ := X10.leave (v := some (.ref wA)) (fun h => by rw [Bd.returns] at h; cases h)
        refine ⟨_, _, pre7 _ ?_, hrun, hended, _, _, rfl, ?_, ⟨_, rfl⟩, hW, hsame.mono (by decide) (by decide)⟩
        · show Steps p.tables e below (s₁.setTop (mkF m 19 #[.val (.int p1)] [(.int (2 : Int32)), (.int p1)])) _
          refine XS.icmpYes X0.here hx rfl (pc0 := 19) (pc' := 26) rfl (hb hby d1_19) rfl (feq g8).2 (by decide) (by decide) ?_
          show Steps p.tables e below (s₁.setTop (mkF m 26 #[.val (.int p1)] [])) _
          refine st10 _ ?_
          show Steps p.tables e below (T10.setTop (mkF m 29 #[.val (.int p1)] [(.ref wA)])) _
          jvm_step X10.here [X10.here.top, hx, (hb hby d1_29), X10.method', Bd.returns, Value.isRef, FieldType.isReference]
          first | (intro acts; rw [hr _ acts rfl rfl rfl]) | rw [hr _ _ rfl rfl rfl]
          exact Steps.refl _
        · exact ⟨by simp only [f_trend, if_neg g2, if_neg g5, if_neg g8], N0, e10⟩
def f_join (wC : Addr) (wR : Addr) (wF : Addr) (wA : Addr) (a1 : Addr) (a2 : Addr) : Addr := (if a1 = wC then a2 else (if a1 = a2 then a2 else (if a2 = wC then a1 else wA)))
set_option maxRecDepth 65536 in
set_option maxHeartbeats 40000000 in
theorem rm_join (l : Launch) (Z : State) (a0 : Array Value) (hw : ∀ d ∈ tables_1, d.before a0 Z = true) (ws : List Jvm.Cond) (wC : Addr) (wR : Addr) (wF : Addr) (wA : Addr) (a1 : Addr) (a2 : Addr) (h0 : Heap) (n0 : Nat) (Z0 : n0 ≤ h0.size) (S_wC : Sta Z h0 "com/example/egret/egret/language/ScoreTrend$Trend" "CONSTANT" "Lcom/example/egret/egret/language/ScoreTrend$Trend;" (.ref wC)) (S_wR : Sta Z h0 "com/example/egret/egret/language/ScoreTrend$Trend" "RISING" "Lcom/example/egret/egret/language/ScoreTrend$Trend;" (.ref wR)) (S_wF : Sta Z h0 "com/example/egret/egret/language/ScoreTrend$Trend" "FALLING" "Lcom/example/egret/egret/language/ScoreTrend$Trend;" (.ref wF)) (S_wA : Sta Z h0 "com/example/egret/egret/language/ScoreTrend$Trend" "ANY" "Lcom/example/egret/egret/language/ScoreTrend$Trend;" (.ref wA)) :
    MetFree l (⟨"com/example/egret/egret/language/ScoreTrend$Trend", "join", "(Lcom/example/egret/egret/language/ScoreTrend$Trend;)Lcom/example/egret/egret/language/ScoreTrend$Trend;"⟩ : MethodName) (head1 (Jvm.Cond.code (⟨"com/example/egret/egret/language/ScoreTrend$Trend", "join", "(Lcom/example/egret/egret/language/ScoreTrend$Trend;)Lcom/example/egret/egret/language/ScoreTrend$Trend;"⟩ : MethodName) prog_120_method_4_code 2 (some (.object "com/example/egret/egret/language/ScoreTrend$Trend")) :: ws) ({ frames := 0, cells := 0, slots := 0, locals := 0 } : Room)) (fun a U => a = #[(.ref a1), (.ref a2)] ∧ Z.Warmed39 U.vm ∧ U.heap = h0) (fun _ _ _ _ _ => True) (fun _ U o U' => ∃ v L, o = .returned v ∧ PureQ (some (.ref (f_join wC wR wF wA a1 a2))) h0 n0 v U'.heap L ∧ FrameEnd U o U' L ({ frames := 0, cells := 0, slots := 0, locals := 0 } : Room).cells ({ frames := 0, cells := 0, slots := 0, locals := 0 } : Room).slots) := by
  refine MetFree.of_bodySF (plainFor_of_name pn_ScoreTrend_Trend) hisR ?_
  intro p e s m args below meth c s₁ Bd hml0 hP hK
  obtain ⟨rfl, hZ, hh⟩ := hP
  have hx := Bd.exec
  have hby := Bd.bytes
  have hml : c.maxLocals = 2 := hml0
  have hown : s.vm.findClass "com/example/egret/egret/language/ScoreTrend$Trend" = some m.cls := findClass_of_methodNamed Bd.named
  have hnm := (name_of_methodNamed Bd.named Bd.method).1
  have X0 : Stand p l e ({ frames := 0, cells := 0, slots := 0, locals := 0 } : Room) s m #[(.ref a1), (.ref a2)] below meth c s₁ [] 0 0 := Stand.of_body Bd
  have e0 : s₁.heap = h0 := by rw [← hh, Bd.state]; rfl
  have N0 := Fr.nil n0
  have pre0 : ∀ t, Steps p.tables e below (s₁.setTop (mkF m 0 #[.val (.ref a1), .val (.ref a2)] [])) t → Steps p.tables e below (s₁.setTop (entryFrame m #[(.ref a1), (.ref a2)] 2)) t := fun t k => castTop (ef_join m a1 a2) k
  obtain ⟨T1, X1, e1, st1⟩ := getS2 X0 hx hZ hown (host := "") (Or.inl (hw _ (List.mem_of_getElem? (i := 14) rfl))) Via.refl e0 S_wC (g := (mkF m 1 #[.val (.ref a1), .val (.ref a2)] [(.ref a1)])) rfl (hb hby d2_1)
  have pre2 : ∀ t, Steps p.tables e below (T1.setTop (mkF m 4 #[.val (.ref a1), .val (.ref a2)] [(.ref wC), (.ref a1)])) t → Steps p.tables e below (s₁.setTop (entryFrame m #[(.ref a1), (.ref a2)] 2)) t := fun t k => pre0 t (by
      show Steps p.tables e below (s₁.setTop (mkF m 0 #[.val (.ref a1), .val (.ref a2)] [])) _
      refine XS.aloadN X0.here hx rfl (hb hby d2_0) rfl rfl ?_
      show Steps p.tables e below (s₁.setTop (mkF m 1 #[.val (.ref a1), .val (.ref a2)] [(.ref a1)])) _
      refine st1 _ ?_
      exact k)
  by_cases g3 : a1 = wC
  · skip
    obtain ⟨fs, hr, hrun, hended, hW, hsame⟩ := X1.leave (v := some (.ref a2)) (fun h => by rw [Bd.returns] at h; cases h)
    refine ⟨_, _, pre2 _ ?_, hrun, hended, _, _, rfl, ?_, ⟨_, rfl⟩, hW, hsame.mono (by decide) (by decide)⟩
    · show Steps p.tables e below (T1.setTop (mkF m 4 #[.val (.ref a1), .val (.ref a2)] [(.ref wC), (.ref a1)])) _
      refine Jvm.RoadKit.acmp (g := (mkF m 4 #[.val (.ref a1), .val (.ref a2)] [(.ref wC), (.ref a1)])) X1 hx rfl rfl rfl (pc0 := 4) (pc' := 12) (same := true) rfl (hb hby d2_4) rfl (decide_eq_true (congrArg Value.ref g3)) (by decide) (by decide) ?_
      show Steps p.tables e below (T1.setTop (mkF m 12 #[.val (.ref a1), .val (.ref a2)] [])) _
      refine XS.aloadN X1.here hx rfl (hb hby d2_12) rfl rfl ?_
      show Steps p.tables e below (T1.setTop (mkF m 13 #[.val (.ref a1), .val (.ref a2)] [(.ref a2)])) _
      jvm_step X1.here [X1.here.top, hx, (hb hby d2_13), X1.method', Bd.returns, Value.isRef, FieldType.isReference]
      first | (intro acts; rw [hr _ acts rfl rfl rfl]) | rw [hr _ _ rfl rfl rfl]
      exact Steps.refl _
    · exact ⟨by simp only [f_join, if_pos g3], N0, e1⟩
  · skip
    have pre4 : ∀ t, Steps p.tables e below (T1.setTop (mkF m 9 #[.val (.ref a1), .val (.ref a2)] [(.ref a2), (.ref a1)])) t → Steps p.tables e below (s₁.setTop (entryFrame m #[(.ref a1), (.ref a2)] 2)) t := fun t k => pre2 t (by
        show Steps p.tables e below (T1.setTop (mkF m 4 #[.val (.ref a1), .val (.ref a2)] [(.ref wC), (.ref a1)])) _
        refine Jvm.RoadKit.acmp (g := (mkF m 4 #[.val (.ref a1), .val (.ref a2)] [(.ref wC), (.ref a1)])) X1 hx rfl rfl rfl (pc0 := 4) (pc' := 7) (same := false) rfl (hb hby d2_4) rfl (decide_eq_false fun q => g3 (Value.ref.inj q)) (by decide) (by decide) ?_
        show Steps p.tables e below (T1.setTop (mkF m 7 #[.val (.ref a1), .val (.ref a2)] [])) _
        refine XS.aloadN X1.here hx rfl (hb hby d2_7) rfl rfl ?_
        show Steps p.tables e below (T1.setTop (mkF m 8 #[.val (.ref a1), .val (.ref a2)] [(.ref a1)])) _
        refine XS.aloadN X1.here hx rfl (hb hby d2_8) rfl rfl ?_
        exact k)
    by_cases g5 : a1 = a2
    · skip
      obtain ⟨fs, hr, hrun, hended, hW, hsame⟩ := X1.leave (v := some (.ref a2)) (fun h => by rw [Bd.returns] at h; cases h)
      refine ⟨_, _, pre4 _ ?_, hrun, hended, _, _, rfl, ?_, ⟨_, rfl⟩, hW, hsame.mono (by decide) (by decide)⟩
      · show Steps p.tables e below (T1.setTop (mkF m 9 #[.val (.ref a1), .val (.ref a2)] [(.ref a2), (.ref a1)])) _
        refine Jvm.RoadKit.acmp (g := (mkF m 9 #[.val (.ref a1), .val (.ref a2)] [(.ref a2), (.ref a1)])) X1 hx rfl rfl rfl (pc0 := 9) (pc' := 12) (same := true) rfl (hb hby d2_9) rfl (decide_eq_true (congrArg Value.ref g5)) (by decide) (by decide) ?_
        show Steps p.tables e below (T1.setTop (mkF m 12 #[.val (.ref a1), .val (.ref a2)] [])) _
        refine XS.aloadN X1.here hx rfl (hb hby d2_12) rfl rfl ?_
        show Steps p.tables e below (T1.setTop (mkF m 13 #[.val (.ref a1), .val (.ref a2)] [(.ref a2)])) _
        jvm_step X1.here [X1.here.top, hx, (hb hby d2_13), X1.method', Bd.returns, Value.isRef, FieldType.isReference]
        first | (intro acts; rw [hr _ acts rfl rfl rfl]) | rw [hr _ _ rfl rfl rfl]
        exact Steps.refl _
      · exact ⟨by simp only [f_join, if_neg g3, if_pos g5], N0, e1⟩
    · skip
      obtain ⟨T6, X6, e6, st6⟩ := getS2 X1 hx hZ hown (host := "") (Or.inl (hw _ (List.mem_of_getElem? (i := 14) rfl))) Via.refl e1 S_wC (g := (mkF m 15 #[.val (.ref a1), .val (.ref a2)] [(.ref a2)])) rfl (hb hby d2_15)
      have pre7 : ∀ t, Steps p.tables e below (T6.setTop (mkF m 18 #[.val (.ref a1), .val (.ref a2)] [(.ref wC), (.ref a2)])) t → Steps p.tables e below (s₁.setTop (entryFrame m #[(.ref a1), (.ref a2)] 2)) t := fun t k => pre4 t (by
          show Steps p.tables e below (T1.setTop (mkF m 9 #[.val (.ref a1), .val (.ref a2)] [(.ref a2), (.ref a1)])) _
          refine Jvm.RoadKit.acmp (g := (mkF m 9 #[.val (.ref a1), .val (.ref a2)] [(.ref a2), (.ref a1)])) X1 hx rfl rfl rfl (pc0 := 9) (pc' := 14) (same := false) rfl (hb hby d2_9) rfl (decide_eq_false fun q => g5 (Value.ref.inj q)) (by decide) (by decide) ?_
          show Steps p.tables e below (T1.setTop (mkF m 14 #[.val (.ref a1), .val (.ref a2)] [])) _
          refine XS.aloadN X1.here hx rfl (hb hby d2_14) rfl rfl ?_
          show Steps p.tables e below (T1.setTop (mkF m 15 #[.val (.ref a1), .val (.ref a2)] [(.ref a2)])) _
          refine st6 _ ?_
          exact k)
      by_cases g8 : a2 = wC
      · skip
        obtain ⟨fs, hr, hrun, hended, hW, hsame⟩ := X6.leave (v := some (.ref a1)) (fun h => by rw [Bd.returns] at h; cases h)
        refine ⟨_, _, pre7 _ ?_, hrun, hended, _, _, rfl, ?_, ⟨_, rfl⟩, hW, hsame.mono (by decide) (by decide)⟩
        · show Steps p.tables e below (T6.setTop (mkF m 18 #[.val (.ref a1), .val (.ref a2)] [(.ref wC), (.ref a2)])) _
          refine Jvm.RoadKit.acmp (g := (mkF m 18 #[.val (.ref a1), .val (.ref a2)] [(.ref wC), (.ref a2)])) X6 hx rfl rfl rfl (pc0 := 18) (pc' := 21) (same := true) rfl (hb hby d2_18) rfl (decide_eq_true (congrArg Value.ref g8)) (by decide) (by decide) ?_
          show Steps p.tables e below (T6.setTop (mkF m 21 #[.val (.ref a1), .val (.ref a2)] [])) _
          refine XS.aloadN X6.here hx rfl (hb hby d2_21) rfl rfl ?_
          show Steps p.tables e below (T6.setTop (mkF m 22 #[.val (.ref a1), .val (.ref a2)] [(.ref a1)])) _
          refine XS.goto X6.here hx rfl (pc0 := 22) (pc' := 28) rfl (hb hby d2_22) (by decide) (by decide) ?_
          show Steps p.tables e below (T6.setTop (mkF m 28 #[.val (.ref a1), .val (.ref a2)] [(.ref a1)])) _
          jvm_step X6.here [X6.here.top, hx, (hb hby d2_28), X6.method', Bd.returns, Value.isRef, FieldType.isReference]
          first | (intro acts; rw [hr _ acts rfl rfl rfl]) | rw [hr _ _ rfl rfl rfl]
          exact Steps.refl _
        · exact ⟨by simp only [f_join, if_neg g3, if_neg g5, if_pos g8], N0, e6⟩
      · skip
        obtain ⟨T9, X9, e9, st9⟩ := getS2 X6 hx hZ hown (host := "") (Or.inl (hw _ (List.mem_of_getElem? (i := 19) rfl))) Via.refl e6 S_wA (g := (mkF m 25 #[.val (.ref a1), .val (.ref a2)] [])) rfl (hb hby d2_25)
        obtain ⟨fs, hr, hrun, hended, hW, hsame⟩ := X9.leave (v := some (.ref wA)) (fun h => by rw [Bd.returns] at h; cases h)
        refine ⟨_, _, pre7 _ ?_, hrun, hended, _, _, rfl, ?_, ⟨_, rfl⟩, hW, hsame.mono (by decide) (by decide)⟩
        · show Steps p.tables e below (T6.setTop (mkF m 18 #[.val (.ref a1), .val (.ref a2)] [(.ref wC), (.ref a2)])) _
          refine Jvm.RoadKit.acmp (g := (mkF m 18 #[.val (.ref a1), .val (.ref a2)] [(.ref wC), (.ref a2)])) X6 hx rfl rfl rfl (pc0 := 18) (pc' := 25) (same := false) rfl (hb hby d2_18) rfl (decide_eq_false fun q => g8 (Value.ref.inj q)) (by decide) (by decide) ?_
          show Steps p.tables e below (T6.setTop (mkF m 25 #[.val (.ref a1), .val (.ref a2)] [])) _
          refine st9 _ ?_
          show Steps p.tables e below (T9.setTop (mkF m 28 #[.val (.ref a1), .val (.ref a2)] [(.ref wA)])) _
          jvm_step X9.here [X9.here.top, hx, (hb hby d2_28), X9.method', Bd.returns, Value.isRef, FieldType.isReference]
          first | (intro acts; rw [hr _ acts rfl rfl rfl]) | rw [hr _ _ rfl rfl rfl]
          exact Steps.refl _
        · exact ⟨by simp only [f_join, if_neg g3, if_neg g5, if_neg g8], N0, e9⟩
theorem own_e {Z : State} {h0 : Heap} {wC wR wF wA : Addr} {k : Int32} (E_wC : Exa Z h0 wC "com/example/egret/egret/language/ScoreTrend$Trend") (E_wR : Exa Z h0 wR "com/example/egret/egret/language/ScoreTrend$Trend") (E_wF : Exa Z h0 wF "com/example/egret/egret/language/ScoreTrend$Trend") (E_wA : Exa Z h0 wA "com/example/egret/egret/language/ScoreTrend$Trend") : Exa Z h0 (f_trend wC wR wF wA k) "com/example/egret/egret/language/ScoreTrend$Trend" := by
  unfold f_trend; split; · assumption
  split; · assumption
  split <;> assumption
def v_i (p1 : Int32) : Int32 := (p1 &&& (3 : Int32))
def v_j (p2 : Int32) : Int32 := (p2 &&& (3 : Int32))
def lawP (wC : Addr) (wR : Addr) (wF : Addr) (wA : Addr) (p1 : Int32) (p2 : Int32) : Prop := (((f_join wC wR wF wA (f_trend wC wR wF wA (v_i p1)) (f_trend wC wR wF wA (v_j p2))) = (f_trend wC wR wF wA ((v_i p1) ||| (v_j p2)))) ∧ True)
set_option maxRecDepth 65536 in
set_option maxHeartbeats 40000000 in
theorem rm_law (l : Launch) (Z : State) (a0 : Array Value) (hw : ∀ d ∈ tables_1, d.before a0 Z = true) (ws : List Jvm.Cond) (wC : Addr) (wR : Addr) (wF : Addr) (wA : Addr) (p1 : Int32) (p2 : Int32) (h0 : Heap) (n0 : Nat) (Z0 : n0 ≤ h0.size) (S_wC : Sta Z h0 "com/example/egret/egret/language/ScoreTrend$Trend" "CONSTANT" "Lcom/example/egret/egret/language/ScoreTrend$Trend;" (.ref wC)) (S_wR : Sta Z h0 "com/example/egret/egret/language/ScoreTrend$Trend" "RISING" "Lcom/example/egret/egret/language/ScoreTrend$Trend;" (.ref wR)) (S_wF : Sta Z h0 "com/example/egret/egret/language/ScoreTrend$Trend" "FALLING" "Lcom/example/egret/egret/language/ScoreTrend$Trend;" (.ref wF)) (S_wA : Sta Z h0 "com/example/egret/egret/language/ScoreTrend$Trend" "ANY" "Lcom/example/egret/egret/language/ScoreTrend$Trend;" (.ref wA)) (E_wC : Exa Z h0 wC "com/example/egret/egret/language/ScoreTrend$Trend") (E_wR : Exa Z h0 wR "com/example/egret/egret/language/ScoreTrend$Trend") (E_wF : Exa Z h0 wF "com/example/egret/egret/language/ScoreTrend$Trend") (E_wA : Exa Z h0 wA "com/example/egret/egret/language/ScoreTrend$Trend") (hp : lawP wC wR wF wA p1 p2) :
    MetFree l x (head1 (Jvm.Cond.code x code maxLocals ret :: ws) room_1) (fun a U => a = #[(.int p1), (.int p2)] ∧ Z.Warmed39 U.vm ∧ U.heap = h0) (fun _ _ _ _ _ => True) (fun _ U o U' => ∃ v L, o = .returned v ∧ LawQ n0 v U'.heap L ∧ FrameEnd U o U' L room_1.cells room_1.slots) := by
  refine MetFree.of_bodySF (plainFor_of_name pn_TrendJoinPinLaw) hisR ?_
  intro p e s m args below meth c s₁ Bd hml0 hP hK
  obtain ⟨rfl, hZ, hh⟩ := hP
  have hx := Bd.exec
  have hby := Bd.bytes
  have hml : c.maxLocals = 7 := hml0
  have hown : s.vm.findClass "com/example/egret/egret/language/TrendJoinPinLaw" = some m.cls := findClass_of_methodNamed Bd.named
  have hnm := (name_of_methodNamed Bd.named Bd.method).1
  have X0 : Stand p l e room_1 s m #[(.int p1), (.int p2)] below meth c s₁ [] 0 0 := Stand.of_body Bd
  have e0 : s₁.heap = h0 := by rw [← hh, Bd.state]; rfl
  have N0 := Fr.nil n0
  have pre0 : ∀ t, Steps p.tables e below (s₁.setTop (mkF m 0 #[.val (.int p1), .val (.int p2), .unset, .unset, .unset, .unset, .unset] [])) t → Steps p.tables e below (s₁.setTop (entryFrame m #[(.int p1), (.int p2)] maxLocals)) t := fun t k => castTop (ef_law m p1 p2) k
  unfold lawP at hp
  obtain ⟨_, _, ⟨T1, L1, k1, n1⟩, -, X1, ⟨Lc1, hQ1, l1, y1, z1⟩, st1⟩ := Jvm.LawKit.callS X0 hx (y := (⟨"com/example/egret/egret/language/TrendJoinPinLaw", "trend", "(I)Lcom/example/egret/egret/language/ScoreTrend$Trend;"⟩ : MethodName)) hown (mvT hZ (hw _ (List.mem_of_getElem? (i := 0) rfl))) (mvT hZ (hw _ (List.mem_of_getElem? (i := 1) rfl))) (mvT hZ (hw _ (List.mem_of_getElem? (i := 2) rfl))) (mvT hZ (hw _ (List.mem_of_getElem? (i := 3) rfl))) (by decide) (backOf (W := 0) (rm_trend l Z a0 hw [] wC wR wF wA (v_i p1) h0 n0 Z0 S_wC S_wR S_wF S_wA) hZ (hw _ (List.mem_of_getElem? (i := 3) rfl)) (hw _ (List.mem_of_getElem? (i := 2) rfl)) (by decide) (by decide)) (g := (mkF m 9 #[.val (.int p1), .val (.int p2), .val (.int (v_i p1)), .val (.int (v_j p2)), .unset, .unset, .unset] [(.int (v_i p1))])) rfl (by rw [hml]; rfl) (argsL := [(.int (v_i p1))]) (rest := []) (lenOf pd_e_egret_egret_language_ScoreTrend_Trend__54 rfl) rfl (by show 2 * 0 + _ ≤ _; exact Nat.le_of_eq rfl) (hb hby at_9) (fun _ _ => ⟨rfl, e0, (by decide : 0 + 0 ≤ _), (by decide : 0 + 0 ≤ _)⟩)
  dsimp only [Pt.U, Pt.locs, Pt.cells, Pt.slots] at X1 l1 y1 z1 st1 hQ1
  subst l1 y1 z1
  obtain ⟨rfl, N1q, e1⟩ := hQ1
  have N1 := Fr.app N0 N1q
  obtain ⟨_, _, ⟨T2, L2, k2, n2⟩, -, X2, ⟨Lc2, hQ2, l2, y2, z2⟩, st2⟩ := Jvm.LawKit.callS X1 hx (y := (⟨"com/example/egret/egret/language/TrendJoinPinLaw", "trend", "(I)Lcom/example/egret/egret/language/ScoreTrend$Trend;"⟩ : MethodName)) hown (mvT hZ (hw _ (List.mem_of_getElem? (i := 0) rfl))) (mvT hZ (hw _ (List.mem_of_getElem? (i := 1) rfl))) (mvT hZ (hw _ (List.mem_of_getElem? (i := 2) rfl))) (mvT hZ (hw _ (List.mem_of_getElem? (i := 3) rfl))) (by decide) (backOf (W := 0) (rm_trend l Z a0 hw [] wC wR wF wA (v_j p2) h0 n0 Z0 S_wC S_wR S_wF S_wA) hZ (hw _ (List.mem_of_getElem? (i := 3) rfl)) (hw _ (List.mem_of_getElem? (i := 2) rfl)) (by decide) (by decide)) (g := (mkF m 15 #[.val (.int p1), .val (.int p2), .val (.int (v_i p1)), .val (.int (v_j p2)), .val (.ref (f_trend wC wR wF wA (v_i p1))), .unset, .unset] [(.int (v_j p2))])) rfl (by rw [hml]; rfl) (argsL := [(.int (v_j p2))]) (rest := []) (lenOf pd_e_egret_egret_language_ScoreTrend_Trend__54 rfl) rfl (by show 2 * 0 + _ ≤ _; exact Nat.le_of_eq rfl) (hb hby at_15) (fun _ _ => ⟨rfl, e1, (by decide : 0 + 0 ≤ _), (by decide : 0 + 0 ≤ _)⟩)
  dsimp only [Pt.U, Pt.locs, Pt.cells, Pt.slots] at X2 l2 y2 z2 st2 hQ2
  subst l2 y2 z2
  obtain ⟨rfl, N2q, e2⟩ := hQ2
  have N2 := Fr.app N1 N2q
  obtain ⟨cq3, kq3, q3a, q3b, q3c⟩ := isOf hZ e2 (own_e E_wC E_wR E_wF E_wA)
  obtain ⟨_, _, ⟨T3, L3, k3, n3⟩, -, X3, ⟨Lc3, hQ3, l3, y3, z3⟩, st3⟩ := X2.virtualBack hx (y := (⟨"com/example/egret/egret/language/ScoreTrend$Trend", "join", "(Lcom/example/egret/egret/language/ScoreTrend$Trend;)Lcom/example/egret/egret/language/ScoreTrend$Trend;"⟩ : MethodName)) (z := (⟨"com/example/egret/egret/language/ScoreTrend$Trend", "join", "(Lcom/example/egret/egret/language/ScoreTrend$Trend;)Lcom/example/egret/egret/language/ScoreTrend$Trend;"⟩ : MethodName)) hown (mvT hZ (hw _ (List.mem_of_getElem? (i := 9) rfl))) (mvT hZ (hw _ (List.mem_of_getElem? (i := 10) rfl))) (notFace_of_selects (args := #[]) (mvT hZ (hw _ (List.mem_of_getElem? (i := 12) rfl)))) (mvT hZ (hw _ (List.mem_of_getElem? (i := 12) rfl))) (mvT hZ (hw _ (List.mem_of_getElem? (i := 11) rfl))) (by decide) (backOf (W := 0) (rm_join l Z a0 hw [] wC wR wF wA (f_trend wC wR wF wA (v_i p1)) (f_trend wC wR wF wA (v_j p2)) h0 n0 Z0 S_wC S_wR S_wF S_wA) hZ (hw _ (List.mem_of_getElem? (i := 13) rfl)) (hw _ (List.mem_of_getElem? (i := 5) rfl)) (by decide) (by decide)) q3a q3c (g := (mkF m 24 #[.val (.int p1), .val (.int p2), .val (.int (v_i p1)), .val (.int (v_j p2)), .val (.ref (f_trend wC wR wF wA (v_i p1))), .val (.ref (f_trend wC wR wF wA (v_j p2))), .unset] [(.ref (f_trend wC wR wF wA (v_j p2))), (.ref (f_trend wC wR wF wA (v_i p1)))])) rfl (by rw [hml]; rfl) (Steps.refl _) (argsL := [(.ref (f_trend wC wR wF wA (v_j p2)))]) (rest := []) (lenOf pd_e_egret_egret_language_ScoreTrend_Trend__104 rfl) rfl (by show 2 * 0 + _ ≤ _; exact Nat.le_of_eq rfl) (hb hby at_24) (fun _ _ => ⟨rfl, e2, (by decide : 0 + 0 ≤ _), (by decide : 0 + 0 ≤ _)⟩)
  dsimp only [Pt.U, Pt.locs, Pt.cells, Pt.slots] at X3 l3 y3 z3 st3 hQ3
  subst l3 y3 z3
  obtain ⟨rfl, N3q, e3⟩ := hQ3
  have N3 := Fr.app N2 N3q
  obtain ⟨_, _, ⟨T4, L4, k4, n4⟩, -, X4, ⟨Lc4, hQ4, l4, y4, z4⟩, st4⟩ := Jvm.LawKit.callS X3 hx (y := (⟨"com/example/egret/egret/language/TrendJoinPinLaw", "trend", "(I)Lcom/example/egret/egret/language/ScoreTrend$Trend;"⟩ : MethodName)) hown (mvT hZ (hw _ (List.mem_of_getElem? (i := 0) rfl))) (mvT hZ (hw _ (List.mem_of_getElem? (i := 1) rfl))) (mvT hZ (hw _ (List.mem_of_getElem? (i := 2) rfl))) (mvT hZ (hw _ (List.mem_of_getElem? (i := 3) rfl))) (by decide) (backOf (W := 1) (rm_trend l Z a0 hw [] wC wR wF wA ((v_i p1) ||| (v_j p2)) h0 n0 Z0 S_wC S_wR S_wF S_wA) hZ (hw _ (List.mem_of_getElem? (i := 3) rfl)) (hw _ (List.mem_of_getElem? (i := 2) rfl)) (by decide) (by decide)) (g := (mkF m 34 #[.val (.int p1), .val (.int p2), .val (.int (v_i p1)), .val (.int (v_j p2)), .val (.ref (f_trend wC wR wF wA (v_i p1))), .val (.ref (f_trend wC wR wF wA (v_j p2))), .val (.ref (f_join wC wR wF wA (f_trend wC wR wF wA (v_i p1)) (f_trend wC wR wF wA (v_j p2))))] [(.int ((v_i p1) ||| (v_j p2))), (.ref (f_join wC wR wF wA (f_trend wC wR wF wA (v_i p1)) (f_trend wC wR wF wA (v_j p2))))])) rfl (by rw [hml]; rfl) (argsL := [(.int ((v_i p1) ||| (v_j p2)))]) (rest := [(.ref (f_join wC wR wF wA (f_trend wC wR wF wA (v_i p1)) (f_trend wC wR wF wA (v_j p2))))]) (lenOf pd_e_egret_egret_language_ScoreTrend_Trend__54 rfl) rfl (by show 2 * 0 + _ ≤ _; exact Nat.le_of_eq rfl) (hb hby at_34) (fun _ _ => ⟨rfl, e3, (by decide : 0 + 0 ≤ _), (by decide : 0 + 0 ≤ _)⟩)
  dsimp only [Pt.U, Pt.locs, Pt.cells, Pt.slots] at X4 l4 y4 z4 st4 hQ4
  subst l4 y4 z4
  obtain ⟨rfl, N4q, e4⟩ := hQ4
  have N4 := Fr.app N3 N4q
  obtain ⟨g5, hp⟩ := hp
  obtain ⟨fs, hr, hrun, hended, hW, hsame⟩ := X4.leave (v := some (.int (1 : Int32))) (fun h => by rw [Bd.returns] at h; cases h)
  refine ⟨_, _, pre0 _ ?_, hrun, hended, _, _, rfl, ?_, ⟨_, rfl⟩, hW, hsame.mono (by decide) (by decide)⟩
  · show Steps p.tables e below (s₁.setTop (mkF m 0 #[.val (.int p1), .val (.int p2), .unset, .unset, .unset, .unset, .unset] [])) _
    refine XS.iloadN X0.here hx rfl (hb hby at_0) rfl ?_
    show Steps p.tables e below (s₁.setTop (mkF m 1 #[.val (.int p1), .val (.int p2), .unset, .unset, .unset, .unset, .unset] [(.int p1)])) _
    refine XS.iconst X0.here hx rfl (hb hby at_1) ?_
    show Steps p.tables e below (s₁.setTop (mkF m 2 #[.val (.int p1), .val (.int p2), .unset, .unset, .unset, .unset, .unset] [(.int (3 : Int32)), (.int p1)])) _
    refine XS.iand X0.here hx rfl (hb hby at_2) rfl ?_
    show Steps p.tables e below (s₁.setTop (mkF m 3 #[.val (.int p1), .val (.int p2), .unset, .unset, .unset, .unset, .unset] [(.int (v_i p1))])) _
    refine XS.istoreN X0.here hx rfl (hb hby at_3) rfl (l' := #[.val (.int p1), .val (.int p2), .val (.int (v_i p1)), .unset, .unset, .unset, .unset]) rfl ?_
    show Steps p.tables e below (s₁.setTop (mkF m 4 #[.val (.int p1), .val (.int p2), .val (.int (v_i p1)), .unset, .unset, .unset, .unset] [])) _
    refine XS.iloadN X0.here hx rfl (hb hby at_4) rfl ?_
    show Steps p.tables e below (s₁.setTop (mkF m 5 #[.val (.int p1), .val (.int p2), .val (.int (v_i p1)), .unset, .unset, .unset, .unset] [(.int p2)])) _
    refine XS.iconst X0.here hx rfl (hb hby at_5) ?_
    show Steps p.tables e below (s₁.setTop (mkF m 6 #[.val (.int p1), .val (.int p2), .val (.int (v_i p1)), .unset, .unset, .unset, .unset] [(.int (3 : Int32)), (.int p2)])) _
    refine XS.iand X0.here hx rfl (hb hby at_6) rfl ?_
    show Steps p.tables e below (s₁.setTop (mkF m 7 #[.val (.int p1), .val (.int p2), .val (.int (v_i p1)), .unset, .unset, .unset, .unset] [(.int (v_j p2))])) _
    refine XS.istoreN X0.here hx rfl (hb hby at_7) rfl (l' := #[.val (.int p1), .val (.int p2), .val (.int (v_i p1)), .val (.int (v_j p2)), .unset, .unset, .unset]) rfl ?_
    show Steps p.tables e below (s₁.setTop (mkF m 8 #[.val (.int p1), .val (.int p2), .val (.int (v_i p1)), .val (.int (v_j p2)), .unset, .unset, .unset] [])) _
    refine XS.iloadN X0.here hx rfl (hb hby at_8) rfl ?_
    show Steps p.tables e below (s₁.setTop (mkF m 9 #[.val (.int p1), .val (.int p2), .val (.int (v_i p1)), .val (.int (v_j p2)), .unset, .unset, .unset] [(.int (v_i p1))])) _
    refine st1 _ ?_
    show Steps p.tables e below (T1.setTop (mkF m 12 #[.val (.int p1), .val (.int p2), .val (.int (v_i p1)), .val (.int (v_j p2)), .unset, .unset, .unset] [(.ref (f_trend wC wR wF wA (v_i p1)))])) _
    refine XS.astore X1.here hx rfl (hb hby at_12) rfl rfl (l' := #[.val (.int p1), .val (.int p2), .val (.int (v_i p1)), .val (.int (v_j p2)), .val (.ref (f_trend wC wR wF wA (v_i p1))), .unset, .unset]) rfl ?_
    show Steps p.tables e below (T1.setTop (mkF m 14 #[.val (.int p1), .val (.int p2), .val (.int (v_i p1)), .val (.int (v_j p2)), .val (.ref (f_trend wC wR wF wA (v_i p1))), .unset, .unset] [])) _
    refine XS.iloadN X1.here hx rfl (hb hby at_14) rfl ?_
    show Steps p.tables e below (T1.setTop (mkF m 15 #[.val (.int p1), .val (.int p2), .val (.int (v_i p1)), .val (.int (v_j p2)), .val (.ref (f_trend wC wR wF wA (v_i p1))), .unset, .unset] [(.int (v_j p2))])) _
    refine st2 _ ?_
    show Steps p.tables e below (T2.setTop (mkF m 18 #[.val (.int p1), .val (.int p2), .val (.int (v_i p1)), .val (.int (v_j p2)), .val (.ref (f_trend wC wR wF wA (v_i p1))), .unset, .unset] [(.ref (f_trend wC wR wF wA (v_j p2)))])) _
    refine XS.astore X2.here hx rfl (hb hby at_18) rfl rfl (l' := #[.val (.int p1), .val (.int p2), .val (.int (v_i p1)), .val (.int (v_j p2)), .val (.ref (f_trend wC wR wF wA (v_i p1))), .val (.ref (f_trend wC wR wF wA (v_j p2))), .unset]) rfl ?_
    show Steps p.tables e below (T2.setTop (mkF m 20 #[.val (.int p1), .val (.int p2), .val (.int (v_i p1)), .val (.int (v_j p2)), .val (.ref (f_trend wC wR wF wA (v_i p1))), .val (.ref (f_trend wC wR wF wA (v_j p2))), .unset] [])) _
    refine XS.aload X2.here hx rfl (hb hby at_20) rfl rfl ?_
    show Steps p.tables e below (T2.setTop (mkF m 22 #[.val (.int p1), .val (.int p2), .val (.int (v_i p1)), .val (.int (v_j p2)), .val (.ref (f_trend wC wR wF wA (v_i p1))), .val (.ref (f_trend wC wR wF wA (v_j p2))), .unset] [(.ref (f_trend wC wR wF wA (v_i p1)))])) _
    refine XS.aload X2.here hx rfl (hb hby at_22) rfl rfl ?_
    show Steps p.tables e below (T2.setTop (mkF m 24 #[.val (.int p1), .val (.int p2), .val (.int (v_i p1)), .val (.int (v_j p2)), .val (.ref (f_trend wC wR wF wA (v_i p1))), .val (.ref (f_trend wC wR wF wA (v_j p2))), .unset] [(.ref (f_trend wC wR wF wA (v_j p2))), (.ref (f_trend wC wR wF wA (v_i p1)))])) _
    refine st3.trans ?_
    show Steps p.tables e below (T3.setTop (mkF m 27 #[.val (.int p1), .val (.int p2), .val (.int (v_i p1)), .val (.int (v_j p2)), .val (.ref (f_trend wC wR wF wA (v_i p1))), .val (.ref (f_trend wC wR wF wA (v_j p2))), .unset] [(.ref (f_join wC wR wF wA (f_trend wC wR wF wA (v_i p1)) (f_trend wC wR wF wA (v_j p2))))])) _
    refine XS.astore X3.here hx rfl (hb hby at_27) rfl rfl (l' := #[.val (.int p1), .val (.int p2), .val (.int (v_i p1)), .val (.int (v_j p2)), .val (.ref (f_trend wC wR wF wA (v_i p1))), .val (.ref (f_trend wC wR wF wA (v_j p2))), .val (.ref (f_join wC wR wF wA (f_trend wC wR wF wA (v_i p1)) (f_trend wC wR wF wA (v_j p2))))]) rfl ?_
    show Steps p.tables e below (T3.setTop (mkF m 29 #[.val (.int p1), .val (.int p2), .val (.int (v_i p1)), .val (.int (v_j p2)), .val (.ref (f_trend wC wR wF wA (v_i p1))), .val (.ref (f_trend wC wR wF wA (v_j p2))), .val (.ref (f_join wC wR wF wA (f_trend wC wR wF wA (v_i p1)) (f_trend wC wR wF wA (v_j p2))))] [])) _
    refine XS.aload X3.here hx rfl (hb hby at_29) rfl rfl ?_
    show Steps p.tables e below (T3.setTop (mkF m 31 #[.val (.int p1), .val (.int p2), .val (.int (v_i p1)), .val (.int (v_j p2)), .val (.ref (f_trend wC wR wF wA (v_i p1))), .val (.ref (f_trend wC wR wF wA (v_j p2))), .val (.ref (f_join wC wR wF wA (f_trend wC wR wF wA (v_i p1)) (f_trend wC wR wF wA (v_j p2))))] [(.ref (f_join wC wR wF wA (f_trend wC wR wF wA (v_i p1)) (f_trend wC wR wF wA (v_j p2))))])) _
    refine XS.iloadN X3.here hx rfl (hb hby at_31) rfl ?_
    show Steps p.tables e below (T3.setTop (mkF m 32 #[.val (.int p1), .val (.int p2), .val (.int (v_i p1)), .val (.int (v_j p2)), .val (.ref (f_trend wC wR wF wA (v_i p1))), .val (.ref (f_trend wC wR wF wA (v_j p2))), .val (.ref (f_join wC wR wF wA (f_trend wC wR wF wA (v_i p1)) (f_trend wC wR wF wA (v_j p2))))] [(.int (v_i p1)), (.ref (f_join wC wR wF wA (f_trend wC wR wF wA (v_i p1)) (f_trend wC wR wF wA (v_j p2))))])) _
    refine XS.iloadN X3.here hx rfl (hb hby at_32) rfl ?_
    show Steps p.tables e below (T3.setTop (mkF m 33 #[.val (.int p1), .val (.int p2), .val (.int (v_i p1)), .val (.int (v_j p2)), .val (.ref (f_trend wC wR wF wA (v_i p1))), .val (.ref (f_trend wC wR wF wA (v_j p2))), .val (.ref (f_join wC wR wF wA (f_trend wC wR wF wA (v_i p1)) (f_trend wC wR wF wA (v_j p2))))] [(.int (v_j p2)), (.int (v_i p1)), (.ref (f_join wC wR wF wA (f_trend wC wR wF wA (v_i p1)) (f_trend wC wR wF wA (v_j p2))))])) _
    refine XS.ior X3.here hx rfl (hb hby at_33) rfl ?_
    show Steps p.tables e below (T3.setTop (mkF m 34 #[.val (.int p1), .val (.int p2), .val (.int (v_i p1)), .val (.int (v_j p2)), .val (.ref (f_trend wC wR wF wA (v_i p1))), .val (.ref (f_trend wC wR wF wA (v_j p2))), .val (.ref (f_join wC wR wF wA (f_trend wC wR wF wA (v_i p1)) (f_trend wC wR wF wA (v_j p2))))] [(.int ((v_i p1) ||| (v_j p2))), (.ref (f_join wC wR wF wA (f_trend wC wR wF wA (v_i p1)) (f_trend wC wR wF wA (v_j p2))))])) _
    refine st4 _ ?_
    show Steps p.tables e below (T4.setTop (mkF m 37 #[.val (.int p1), .val (.int p2), .val (.int (v_i p1)), .val (.int (v_j p2)), .val (.ref (f_trend wC wR wF wA (v_i p1))), .val (.ref (f_trend wC wR wF wA (v_j p2))), .val (.ref (f_join wC wR wF wA (f_trend wC wR wF wA (v_i p1)) (f_trend wC wR wF wA (v_j p2))))] [(.ref (f_trend wC wR wF wA ((v_i p1) ||| (v_j p2)))), (.ref (f_join wC wR wF wA (f_trend wC wR wF wA (v_i p1)) (f_trend wC wR wF wA (v_j p2))))])) _
    refine Jvm.RoadKit.acmp (g := (mkF m 37 #[.val (.int p1), .val (.int p2), .val (.int (v_i p1)), .val (.int (v_j p2)), .val (.ref (f_trend wC wR wF wA (v_i p1))), .val (.ref (f_trend wC wR wF wA (v_j p2))), .val (.ref (f_join wC wR wF wA (f_trend wC wR wF wA (v_i p1)) (f_trend wC wR wF wA (v_j p2))))] [(.ref (f_trend wC wR wF wA ((v_i p1) ||| (v_j p2)))), (.ref (f_join wC wR wF wA (f_trend wC wR wF wA (v_i p1)) (f_trend wC wR wF wA (v_j p2))))])) X4 hx rfl rfl rfl (pc0 := 37) (pc' := 40) (same := true) rfl (hb hby at_37) rfl (decide_eq_true (congrArg Value.ref g5)) (by decide) (by decide) ?_
    show Steps p.tables e below (T4.setTop (mkF m 40 #[.val (.int p1), .val (.int p2), .val (.int (v_i p1)), .val (.int (v_j p2)), .val (.ref (f_trend wC wR wF wA (v_i p1))), .val (.ref (f_trend wC wR wF wA (v_j p2))), .val (.ref (f_join wC wR wF wA (f_trend wC wR wF wA (v_i p1)) (f_trend wC wR wF wA (v_j p2))))] [])) _
    refine XS.iconst X4.here hx rfl (hb hby at_40) ?_
    show Steps p.tables e below (T4.setTop (mkF m 41 #[.val (.int p1), .val (.int p2), .val (.int (v_i p1)), .val (.int (v_j p2)), .val (.ref (f_trend wC wR wF wA (v_i p1))), .val (.ref (f_trend wC wR wF wA (v_j p2))), .val (.ref (f_join wC wR wF wA (f_trend wC wR wF wA (v_i p1)) (f_trend wC wR wF wA (v_j p2))))] [(.int (1 : Int32))])) _
    refine XS.goto X4.here hx rfl (pc0 := 41) (pc' := 45) rfl (hb hby at_41) (by decide) (by decide) ?_
    show Steps p.tables e below (T4.setTop (mkF m 45 #[.val (.int p1), .val (.int p2), .val (.int (v_i p1)), .val (.int (v_j p2)), .val (.ref (f_trend wC wR wF wA (v_i p1))), .val (.ref (f_trend wC wR wF wA (v_j p2))), .val (.ref (f_join wC wR wF wA (f_trend wC wR wF wA (v_i p1)) (f_trend wC wR wF wA (v_j p2))))] [(.int (1 : Int32))])) _
    exact retN X4 hx (t := .boolean) Bd.returns (by simp) (hb hby at_45) hr
  · exact ⟨rfl, N4⟩
theorem own_and3 (x : Int32) : (x &&& (3 : Int32)) = 0 ∨ (x &&& (3 : Int32)) = 1 ∨ (x &&& (3 : Int32)) = 2 ∨ (x &&& (3 : Int32)) = 3 := by
  have h : (x &&& (3 : Int32)).toInt = x.toInt % 4 := c_mask x 3 2 (by decide) (by decide)
  have h4 : x.toInt % 4 = 0 ∨ x.toInt % 4 = 1 ∨ x.toInt % 4 = 2 ∨ x.toInt % 4 = 3 := by omega
  rcases h4 with q | q | q | q
  · exact Or.inl (Int32.toInt_inj.mp (by rw [h, q]; rfl))
  · exact Or.inr (Or.inl (Int32.toInt_inj.mp (by rw [h, q]; rfl)))
  · exact Or.inr (Or.inr (Or.inl (Int32.toInt_inj.mp (by rw [h, q]; rfl))))
  · exact Or.inr (Or.inr (Or.inr (Int32.toInt_inj.mp (by rw [h, q]; rfl))))

theorem own_plain {wC wR wF wA : Addr} {p1 p2 : Int32} (n1 : ¬ (wC = wR)) (n2 : ¬ (wC = wF)) (n3 : ¬ (wC = wA)) (n4 : ¬ (wR = wF)) (n5 : ¬ (wR = wA)) (n6 : ¬ (wF = wA)) : lawP wC wR wF wA p1 p2 := by
  have m1 : ¬ (wR = wC) := fun q => n1 q.symm
  have m2 : ¬ (wF = wC) := fun q => n2 q.symm
  have m3 : ¬ (wA = wC) := fun q => n3 q.symm
  have m4 : ¬ (wF = wR) := fun q => n4 q.symm
  have m5 : ¬ (wA = wR) := fun q => n5 q.symm
  have m6 : ¬ (wA = wF) := fun q => n6 q.symm
  have o00 : ((0 : Int32) ||| (0 : Int32)) = 0 := by decide
  have o01 : ((0 : Int32) ||| (1 : Int32)) = 1 := by decide
  have o02 : ((0 : Int32) ||| (2 : Int32)) = 2 := by decide
  have o03 : ((0 : Int32) ||| (3 : Int32)) = 3 := by decide
  have o10 : ((1 : Int32) ||| (0 : Int32)) = 1 := by decide
  have o11 : ((1 : Int32) ||| (1 : Int32)) = 1 := by decide
  have o12 : ((1 : Int32) ||| (2 : Int32)) = 3 := by decide
  have o13 : ((1 : Int32) ||| (3 : Int32)) = 3 := by decide
  have o20 : ((2 : Int32) ||| (0 : Int32)) = 2 := by decide
  have o21 : ((2 : Int32) ||| (1 : Int32)) = 3 := by decide
  have o22 : ((2 : Int32) ||| (2 : Int32)) = 2 := by decide
  have o23 : ((2 : Int32) ||| (3 : Int32)) = 3 := by decide
  have o30 : ((3 : Int32) ||| (0 : Int32)) = 3 := by decide
  have o31 : ((3 : Int32) ||| (1 : Int32)) = 3 := by decide
  have o32 : ((3 : Int32) ||| (2 : Int32)) = 3 := by decide
  have o33 : ((3 : Int32) ||| (3 : Int32)) = 3 := by decide
  refine ⟨?_, trivial⟩
  unfold v_i v_j
  rcases own_and3 p1 with h | h | h | h <;> rcases own_and3 p2 with h' | h' | h' | h' <;> rw [h, h'] <;> simp [f_join, f_trend, n1, n2, n3, n4, n5, n6, m1, m2, m3, m4, m5, m6, o00, o01, o02, o03, o10, o11, o12, o13, o20, o21, o22, o23, o30, o31, o32, o33]
set_option maxRecDepth 65536 in
set_option maxHeartbeats 40000000 in
theorem comes_1 {Post : Tables → Env → Array Value → State → Outcome → State → Prop} (hpost : ∀ tb e args s v u, (limb_1_1.after args s (.returned v) u = true ∧ limb_1_2.after args s (.returned v) u = true ∧ True) → FrameEnd s (.returned v) u (Jvm.fieldLocs frame_1_writes args s ++ Jvm.arrayLocs frame_1_arrays args s ++ Jvm.staticLocs frame_1_statics s) 0 0 → Post tb e args s (.returned v) u) :
    ArmFor flags0 classFile x code maxLocals ret World_1 tables_1 room_1 Calls_1 rest_1 Pre_1 Post := by
  intro l hfl _ _ p e ha hc hk s m args below hf hA hF happ hP
  obtain ⟨hcalls, hrest, hpre⟩ := hP
  obtain ⟨-, -, -, hnamed, -, -, -, hat⟩ := (Spec.applies_iff hf).mp happ
  obtain ⟨hg, hn⟩ := and_e (Cond.before_iff.mp (show (Jvm.Cond.and given_1 narrow_1).before args s = true from hpre))
  obtain ⟨gv0, gr0⟩ := and_e hg
  obtain ⟨gv1, gr1⟩ := and_e gr0
  obtain ⟨w0, w1, rfl⟩ : ∃ w0 w1 : Value, args = #[w0, w1] := by
    have hs : args.size = 2 := by simpa [Cond.value, given_1] using gv0
    obtain ⟨L⟩ := args
    match L, hs with
    | [w0, w1], _ => exact ⟨w0, w1, rfl⟩
  have hw := fun d (hd : d ∈ tables_1) => atoms_spec (ws := Jvm.Cond.code x code maxLocals ret :: tables_1) hat d (List.mem_cons_of_mem _ hd)
  obtain ⟨i0, ei0⟩ := is_v gv1
  obtain rfl : w0 = (.int i0) := Option.some.inj ei0
  obtain ⟨i1, ei1⟩ := is_v gr1
  obtain rfl : w1 = (.int i1) := Option.some.inj ei1
  obtain ⟨nv0, nr0⟩ := and_e hn
  obtain ⟨nv1, nr1⟩ := and_e nr0
  obtain ⟨nv2, nr2⟩ := and_e nr1
  obtain ⟨nv3, nr3⟩ := and_e nr2
  obtain ⟨nv4, nr4⟩ := and_e nr3
  obtain ⟨nv5, nr5⟩ := and_e nr4
  obtain ⟨nv6, nr6⟩ := and_e nr5
  obtain ⟨wC, ev_wC⟩ := exa_v nv0
  have S_wC : Sta s s.heap "com/example/egret/egret/language/ScoreTrend$Trend" "CONSTANT" "Lcom/example/egret/egret/language/ScoreTrend$Trend;" (.ref wC) := Sta.start ev_wC (Or.inr ⟨(hw _ (List.mem_of_getElem? (i := 5) rfl)), (hw _ (List.mem_of_getElem? (i := 6) rfl))⟩)
  have E_wC : Exa s s.heap wC "com/example/egret/egret/language/ScoreTrend$Trend" := Exa.start ev_wC nv0
  obtain ⟨wA, ev_wA⟩ := exa_v nv1
  have S_wA : Sta s s.heap "com/example/egret/egret/language/ScoreTrend$Trend" "ANY" "Lcom/example/egret/egret/language/ScoreTrend$Trend;" (.ref wA) := Sta.start ev_wA (Or.inr ⟨(hw _ (List.mem_of_getElem? (i := 5) rfl)), (hw _ (List.mem_of_getElem? (i := 8) rfl))⟩)
  have E_wA : Exa s s.heap wA "com/example/egret/egret/language/ScoreTrend$Trend" := Exa.start ev_wA nv1
  obtain ⟨wF, ev_wF⟩ := exa_v nv2
  have S_wF : Sta s s.heap "com/example/egret/egret/language/ScoreTrend$Trend" "FALLING" "Lcom/example/egret/egret/language/ScoreTrend$Trend;" (.ref wF) := Sta.start ev_wF (Or.inr ⟨(hw _ (List.mem_of_getElem? (i := 5) rfl)), (hw _ (List.mem_of_getElem? (i := 16) rfl))⟩)
  have E_wF : Exa s s.heap wF "com/example/egret/egret/language/ScoreTrend$Trend" := Exa.start ev_wF nv2
  obtain ⟨wR, ev_wR⟩ := exa_v nv3
  have S_wR : Sta s s.heap "com/example/egret/egret/language/ScoreTrend$Trend" "RISING" "Lcom/example/egret/egret/language/ScoreTrend$Trend;" (.ref wR) := Sta.start ev_wR (Or.inr ⟨(hw _ (List.mem_of_getElem? (i := 5) rfl)), (hw _ (List.mem_of_getElem? (i := 18) rfl))⟩)
  have E_wR : Exa s s.heap wR "com/example/egret/egret/language/ScoreTrend$Trend" := Exa.start ev_wR nv3
  have F_ordinal_wF : Fld s s.heap wF "java/lang/Enum" "ordinal" "I" (.int (2 : Int32)) := own_fld ev_wF nv4 (Term.int_eval (2))
  have F_ordinal_wC : Fld s s.heap wC "java/lang/Enum" "ordinal" "I" (.int (0 : Int32)) := own_fld ev_wC nv5 (Term.int_eval (0))
  have F_ordinal_wR : Fld s s.heap wR "java/lang/Enum" "ordinal" "I" (.int (1 : Int32)) := own_fld ev_wR nv6 (Term.int_eval (1))
  have F_ordinal_wA : Fld s s.heap wA "java/lang/Enum" "ordinal" "I" (.int (3 : Int32)) := own_fld ev_wA nr6 (Term.int_eval (3))
  obtain ⟨n, o, h1, h2, h3, _, L, rfl, ⟨rfl, N⟩, hq⟩ := rm_law l s _ hw tables_1 wC wR wF wA i0 i1 s.heap s.heap.size (Nat.le_refl _) S_wC S_wR S_wF S_wA E_wC E_wR E_wF E_wA (own_plain (Fld.ne F_ordinal_wC F_ordinal_wR (by simp)) (Fld.ne F_ordinal_wC F_ordinal_wF (by simp)) (Fld.ne F_ordinal_wC F_ordinal_wA (by simp)) (Fld.ne F_ordinal_wR F_ordinal_wF (by simp)) (Fld.ne F_ordinal_wR F_ordinal_wA (by simp)) (Fld.ne F_ordinal_wF F_ordinal_wA (by simp))) p e ha hc hk s m _ below hf ((Spec.applies_iff_loose hf).mp happ).1 ⟨rfl, State.Warmed39.refl s, rfl⟩ trivial
  exact ⟨n, _, h1, h2, h3, hpost _ _ _ _ _ _ ⟨Cond.after_iff.mpr rfl, Cond.after_iff.mpr (eq_i res_at (Term.int_eval (1)) rfl), trivial⟩ ⟨hq.1, hq.2.1, (hq.2.2.sift fun y hy => Or.inr (N y hy)).mono (by decide) (by decide)⟩⟩
theorem main_1_1 : Claimed_1_1 := comes_1 fun _ _ _ _ _ _ h hF => ⟨h.1, hF⟩
theorem main_1_2 : Claimed_1_2 := comes_1 fun _ _ _ _ _ _ h hF => ⟨h.2.1, hF⟩

end Jvm.Pilot.@@N@@
namespace Jvm.Pilot.@@N@@
open Jvm Jvm.ClassFile Sem Op Lib Jvm.Free Jvm.Stand Jvm.Pilot.@@N@@.Jvm.D
/-! MADE BY PROGRAM (witnessworld.py) out of the Statement's table words and the real class files: 12 classes; the members and pool entries that the words name. The judged class is class 1, her method 2. -/
namespace start1
open Jvm.ClassFile
def u (s : String) : CpInfo := .utf8 (stringToUtf16 s)
/-- a pool by its gaps: so many unusable entries, then the entry; so many at the end -/
def gap : Nat → List CpInfo → List CpInfo
  | 0, r => r
  | n + 1, r => .unusable :: gap n r
def poolList (es : List (Nat × CpInfo)) (last : Nat) : List CpInfo := es.foldr (fun e r => gap e.1 (e.2 :: r)) (gap last [])
def pool (es : List (Nat × CpInfo)) (last : Nat) : Array CpInfo := ⟨poolList es last⟩
def fileOf (pool : Array CpInfo) (this : Nat) (attrs : Array Attribute := #[]) (ms : Array MethodInfo := #[]) (fl : Nat := 33) (sup : Nat := 0) (ifs : Array Nat := #[]) (fds : Array FieldInfo := #[]) : ClassFile where
  minorVersion := 0
  majorVersion := 65
  constantPool := pool
  accessFlags := fl
  thisClass := this
  superClass := sup
  interfaces := ifs
  fields := fds
  methods := ms
  attributes := attrs
def plain (name : String) (sup : Option ClassId) : Class where
  name := name
  kind := .ordinary
  loader := none
  accessFlags := 33
  super := sup
  interfaces := #[]
  cf := none
  fields := #[]
  methods := #[]
  instanceTypes := #[]
  staticTypes := #[]
  resolved := #[]
  callSites := []
  init := .initialized
  statics := none
  mirror := none

def pool0 : Array CpInfo := pool [(5, u "<init>"), (0, u "()V"), (1, .class_ 10), (1, u "java/lang/Object")] 113

def k0m0 : Method := { name := "<init>", desc := "()V", sig := { parameters := [], returnType := none }, accessFlags := 1, code := none }
/-- java/lang/Object -/
def k0 : Class := { plain "java/lang/Object" none with
  accessFlags := 33
  interfaces := #[]
  cf := some (fileOf pool0 8 #[] #[{ accessFlags := 1, nameIndex := 5, descriptorIndex := 6, attributes := #[] }] 33 0 #[] #[])
  fields := #[]
  methods := #[k0m0]
  instanceTypes := #[]
  staticTypes := #[]
  resolved := Array.replicate 124 none
  statics := none }

def pool1 : Array CpInfo := pool [(2, .class_ 4), (1, u "java/lang/Object"), (0, u "<init>"), (0, u "()V"), (0, .fieldref 8 9), (0, .class_ 10), (0, .nameAndType 11 12), (0, u "com/example/egret/egret/language/ScoreTrend$Trend"), (0, u "CONSTANT"), (0, u "Lcom/example/egret/egret/language/ScoreTrend$Trend;"), (0, .fieldref 8 14), (0, .nameAndType 15 12), (0, u "RISING"), (0, .fieldref 8 17), (0, .nameAndType 18 12), (0, u "FALLING"), (0, .fieldref 8 20), (0, .nameAndType 21 12), (0, u "ANY"), (0, .methodref 23 24), (0, .class_ 25), (0, .nameAndType 26 27), (0, u "com/example/egret/egret/language/TrendJoinPinLaw"), (0, u "trend"), (0, u "(I)Lcom/example/egret/egret/language/ScoreTrend$Trend;"), (0, .methodref 8 29), (0, .nameAndType 30 31), (0, u "join"), (0, u "(Lcom/example/egret/egret/language/ScoreTrend$Trend;)Lcom/example/egret/egret/language/ScoreTrend$Trend;"), (3, u "law"), (0, u "(II)Z")] 6

def k1m0 : Method := { name := "<init>", desc := "()V", sig := { parameters := [], returnType := none }, accessFlags := 1, code := none }
def k1c1 : Code := { maxStack := 2, maxLocals := 1, code := method_2_code, exceptionTable := #[], attributes := #[] }
def k1m1 : Method := { name := "trend", desc := "(I)Lcom/example/egret/egret/language/ScoreTrend$Trend;", sig := { parameters := [.int], returnType := some (.object "com/example/egret/egret/language/ScoreTrend$Trend") }, accessFlags := 10, code := some k1c1 }
def k1c2 : Code := { maxStack := 3, maxLocals := 7, code := code, exceptionTable := #[], attributes := #[] }
def k1m2 : Method := { name := "law", desc := "(II)Z", sig := { parameters := [.int, .int], returnType := some .boolean }, accessFlags := 9, code := some k1c2 }
/-- com/example/egret/egret/language/TrendJoinPinLaw -/
def k1 : Class := { plain "com/example/egret/egret/language/TrendJoinPinLaw" (some 0) with
  accessFlags := 49
  interfaces := #[]
  cf := some (fileOf pool1 23 #[] #[{ accessFlags := 1, nameIndex := 5, descriptorIndex := 6, attributes := #[] }, { accessFlags := 10, nameIndex := 26, descriptorIndex := 27, attributes := #[] }, { accessFlags := 9, nameIndex := 35, descriptorIndex := 36, attributes := #[] }] 49 2 #[] #[])
  fields := #[]
  methods := #[k1m0, k1m1, k1m2]
  instanceTypes := #[]
  staticTypes := #[]
  resolved := Array.replicate 43 none
  statics := none }

def pool2 : Array CpInfo := pool [(1, .class_ 2), (0, u "java/lang/constant/Constable"), (0, .class_ 4), (0, u "java/lang/Object")] 6

/-- java/lang/constant/Constable -/
def k2 : Class := { plain "java/lang/constant/Constable" (some 0) with
  accessFlags := 1537
  interfaces := #[]
  cf := some (fileOf pool2 1 #[] #[] 1537 3 #[] #[])
  fields := #[]
  methods := #[]
  instanceTypes := #[]
  staticTypes := #[]
  resolved := Array.replicate 11 none
  statics := none }

def pool3 : Array CpInfo := pool [(1, .class_ 2), (0, u "java/lang/Comparable"), (0, .class_ 4), (0, u "java/lang/Object")] 7

/-- java/lang/Comparable -/
def k3 : Class := { plain "java/lang/Comparable" (some 0) with
  accessFlags := 1537
  interfaces := #[]
  cf := some (fileOf pool3 1 #[] #[] 1537 3 #[] #[])
  fields := #[]
  methods := #[]
  instanceTypes := #[]
  staticTypes := #[]
  resolved := Array.replicate 12 none
  statics := none }

def pool4 : Array CpInfo := pool [(1, .class_ 2), (0, u "java/io/Serializable"), (0, .class_ 4), (0, u "java/lang/Object")] 2

/-- java/io/Serializable -/
def k4 : Class := { plain "java/io/Serializable" (some 0) with
  accessFlags := 1537
  interfaces := #[]
  cf := some (fileOf pool4 1 #[] #[] 1537 3 #[] #[])
  fields := #[]
  methods := #[]
  instanceTypes := #[]
  staticTypes := #[]
  resolved := Array.replicate 7 none
  statics := none }

def pool5 : Array CpInfo := pool [(2, .class_ 4), (1, u "java/lang/Enum"), (0, u "name"), (0, u "Ljava/lang/String;"), (2, u "ordinal"), (0, u "I"), (1, .class_ 14), (1, u "java/lang/Object"), (4, u "hash"), (86, .class_ 108), (1, u "java/lang/Enum$EnumDesc"), (2, .class_ 112), (0, u "java/lang/constant/Constable"), (0, .class_ 114), (0, u "java/lang/Comparable"), (0, .class_ 116), (0, u "java/io/Serializable")] 87

/-- java/lang/Enum -/
def k5 : Class := { plain "java/lang/Enum" (some 0) with
  accessFlags := 1057
  interfaces := #[2, 3, 4]
  cf := some (fileOf pool5 2 #[.nestMembers #[106]] #[] 1057 12 #[111, 113, 115] #[{ accessFlags := 18, nameIndex := 5, descriptorIndex := 6, attributes := #[] }, { accessFlags := 18, nameIndex := 9, descriptorIndex := 10, attributes := #[] }, { accessFlags := 2, nameIndex := 19, descriptorIndex := 10, attributes := #[] }])
  fields := #[{ name := "name", type := (.object "java/lang/String"), accessFlags := 18, slot := 0, constantValue := 0 }, { name := "ordinal", type := .int, accessFlags := 18, slot := 1, constantValue := 0 }, { name := "hash", type := .int, accessFlags := 2, slot := 2, constantValue := 0 }]
  methods := #[]
  instanceTypes := #[(.object "java/lang/String"), .int, .int]
  staticTypes := #[]
  resolved := Array.replicate 204 none
  statics := none }

def pool6 : Array CpInfo := pool [(1, .class_ 2), (0, u "com/example/egret/egret/language/ScoreTrend$Trend"), (0, .fieldref 1 4), (0, .nameAndType 5 6), (0, u "CONSTANT"), (0, u "Lcom/example/egret/egret/language/ScoreTrend$Trend;"), (2, u "RISING"), (2, u "FALLING"), (0, .fieldref 1 14), (0, .nameAndType 15 6), (0, u "ANY"), (2, u "$VALUES"), (0, u "[Lcom/example/egret/egret/language/ScoreTrend$Trend;"), (6, .class_ 28), (1, u "java/lang/Enum"), (26, u "join"), (0, u "(Lcom/example/egret/egret/language/ScoreTrend$Trend;)Lcom/example/egret/egret/language/ScoreTrend$Trend;"), (8, .class_ 66), (0, u "com/example/egret/egret/language/ScoreTrend")] 2

def k6c0 : Code := { maxStack := 2, maxLocals := 2, code := prog_120_method_4_code, exceptionTable := #[], attributes := #[] }
def k6m0 : Method := { name := "join", desc := "(Lcom/example/egret/egret/language/ScoreTrend$Trend;)Lcom/example/egret/egret/language/ScoreTrend$Trend;", sig := { parameters := [(.object "com/example/egret/egret/language/ScoreTrend$Trend")], returnType := some (.object "com/example/egret/egret/language/ScoreTrend$Trend") }, accessFlags := 0, code := some k6c0 }
/-- com/example/egret/egret/language/ScoreTrend$Trend -/
def k6 : Class := { plain "com/example/egret/egret/language/ScoreTrend$Trend" (some 5) with
  accessFlags := 16433
  interfaces := #[]
  cf := some (fileOf pool6 1 #[.nestHost 65] #[{ accessFlags := 0, nameIndex := 55, descriptorIndex := 56, attributes := #[] }] 16433 26 #[] #[{ accessFlags := 16409, nameIndex := 5, descriptorIndex := 6, attributes := #[] }, { accessFlags := 16409, nameIndex := 9, descriptorIndex := 6, attributes := #[] }, { accessFlags := 16409, nameIndex := 12, descriptorIndex := 6, attributes := #[] }, { accessFlags := 16409, nameIndex := 15, descriptorIndex := 6, attributes := #[] }, { accessFlags := 4122, nameIndex := 18, descriptorIndex := 19, attributes := #[] }])
  fields := #[{ name := "CONSTANT", type := (.object "com/example/egret/egret/language/ScoreTrend$Trend"), accessFlags := 16409, slot := 0, constantValue := 0 }, { name := "RISING", type := (.object "com/example/egret/egret/language/ScoreTrend$Trend"), accessFlags := 16409, slot := 1, constantValue := 0 }, { name := "FALLING", type := (.object "com/example/egret/egret/language/ScoreTrend$Trend"), accessFlags := 16409, slot := 2, constantValue := 0 }, { name := "ANY", type := (.object "com/example/egret/egret/language/ScoreTrend$Trend"), accessFlags := 16409, slot := 3, constantValue := 0 }, { name := "$VALUES", type := (.array (.object "com/example/egret/egret/language/ScoreTrend$Trend")), accessFlags := 4122, slot := 4, constantValue := 0 }]
  methods := #[k6m0]
  instanceTypes := #[(.object "java/lang/String"), .int, .int]
  staticTypes := #[(.object "com/example/egret/egret/language/ScoreTrend$Trend"), (.object "com/example/egret/egret/language/ScoreTrend$Trend"), (.object "com/example/egret/egret/language/ScoreTrend$Trend"), (.object "com/example/egret/egret/language/ScoreTrend$Trend"), (.array (.object "com/example/egret/egret/language/ScoreTrend$Trend"))]
  resolved := Array.replicate 69 none
  statics := some 0 }

def pool7 : Array CpInfo := pool [(1, u "java/lang/Cloneable"), (0, .class_ 1), (0, u "java/lang/Object"), (0, .class_ 3)] 3

/-- java/lang/Cloneable -/
def k7 : Class := { plain "java/lang/Cloneable" (some 0) with
  accessFlags := 1537
  interfaces := #[]
  cf := some (fileOf pool7 2 #[] #[] 1537 4 #[] #[])
  fields := #[]
  methods := #[]
  instanceTypes := #[]
  staticTypes := #[]
  resolved := Array.replicate 8 none
  statics := none }

/-- the primitive byte -/
def k8 : Class := { plain "byte" none with kind := .primitive 'B', accessFlags := 0x411 }
/-- [B -/
def k9 : Class := { plain "[B" (some 0) with kind := .array 8 .byte, interfaces := #[7, 4], accessFlags := 1041 }

/-- the primitive int -/
def k10 : Class := { plain "int" none with kind := .primitive 'I', accessFlags := 0x411 }
/-- [I -/
def k11 : Class := { plain "[I" (some 0) with kind := .array 10 .int, interfaces := #[7, 4], accessFlags := 1041 }

def heap : Heap := #[{ cls := 6, slots := #[.ref 1, .ref 2, .ref 3, .ref 4, .null], vm := .statics 6 },
  { cls := 6, slots := #[.null, .int 0, .int 0], vm := .none },
  { cls := 6, slots := #[.null, .int 1, .int 0], vm := .none },
  { cls := 6, slots := #[.null, .int 2, .int 0], vm := .none },
  { cls := 6, slots := #[.null, .int 3, .int 0], vm := .none }]
def classes : Array Class := #[k0, k1, k2, k3, k4, k5, k6, k7, k8, k9, k10, k11]
def interned : List (Array UInt16 × Addr) := []
def slotsUsed : Nat := 17
def theMethod : MethodId := ⟨1, 2⟩
def args0 : Array Value := #[.int 5, .int 6]
def aboutOver (below : List Frame) : State where
  vm := { classes := classes, interned := interned.toArray }
  heap := heap
  slotsUsed := slotsUsed
  threads := #[{ frames := .invoking theMethod args0 :: below }]
def below0 : List Frame := [.native { method := ⟨0, 0⟩, args := #[] }]
def about1 : State := aboutOver below0
def p0 : Program := .bare "" "" ""
def e0 : Env := launch0.env 0 0 0
theorem w_frames : about1.frames = Frame.invoking theMethod args0 :: below0 := rfl
set_option maxRecDepth 65536 in
theorem w_args : argsFit about1.vm theMethod args0 = true := by decide +kernel
set_option maxRecDepth 65536 in
theorem w_heap : heapFits about1 = true := by decide +kernel
set_option maxRecDepth 65536 in
theorem w_runnable : about1.curStatus? = some .runnable := by decide +kernel
set_option maxRecDepth 65536 in
theorem w_alone : about1.alone = true := by decide +kernel
set_option maxRecDepth 65536 in
theorem w_named : about1.methodNamed? x = some theMethod := by decide +kernel
set_option maxRecDepth 65536 in
theorem w_hears : about1.hears theMethod below0 = true := by decide +kernel
set_option maxRecDepth 65536 in
theorem w_ripe : about1.ripe theMethod args0 below0 = true := by decide +kernel
theorem w_running : about1.status = .running := rfl
set_option maxRecDepth 65536 in
theorem w_room : about1.hasRoom e0.platform room_1 = true :=
  launch0.hasRoom_least _ room_1 (by decide +kernel) (by decide +kernel) (by decide +kernel) (by decide +kernel) (by decide +kernel) (by decide +kernel)
theorem allAtoms_all (ts : List Jvm.Cond) (a : Array Jvm.Value) (st : Jvm.State) : (allAtoms ts).before a st = ts.all (fun c => c.before a st) := by
  induction ts with
  | nil => rfl
  | cons c t ih =>
    show (Jvm.Cond.and c (allAtoms t)).before a st = _
    rw [Jvm.Cond.before_and, ih, List.all_cons]
def words1 : List Jvm.Cond := Jvm.Cond.code x code maxLocals ret :: tables_1
/-- a 'code' word, met by the world's own term for the bytes: nothing is compared byte by byte -/
theorem code_word {y : MethodName} {bytes : ByteArray} {mx : Nat} {rt : Option FieldType} {a : Array Value} {s : State} {m : MethodId} {meth : Method} {c : Code} (h1 : s.methodNamed? y = some m) (h2 : s.vm.method? m = some meth) (h3 : meth.code = some c) (h4 : c.code = bytes)
    (h5 : (c.maxLocals == mx && c.exceptionTable.isEmpty && decide (c.maxStack ≤ mostOperands) && decide (meth.sig.returnType = rt) && !meth.locks && decide (parseMethodDescriptor y.desc = some meth.sig)) = true) : (Jvm.Cond.code y bytes mx rt).before a s = true := by
  simp only [Bool.and_eq_true, beq_iff_eq, Bool.not_eq_true', decide_eq_true_eq] at h5
  obtain ⟨⟨⟨⟨⟨g1, g2⟩, g3⟩, g4⟩, g5⟩, g6⟩ := h5
  simp [Cond.before, Cond.holds, Cond.value, h1, h2, h3, h4, g1, g2, g3, g4, g5, g6]
def isCode : Jvm.Cond → Bool
  | .code _ _ _ _ => true
  | _ => false
theorem all_split {L : List Jvm.Cond} {P : Jvm.Cond → Bool} (h1 : L.all (fun c => isCode c || P c) = true) (h2 : ∀ c ∈ L.filter isCode, P c = true) : L.all P = true := by
  refine List.all_eq_true.mpr fun c hc => ?_
  have h := List.all_eq_true.mp h1 c hc
  rcases Bool.eq_false_or_eq_true (isCode c) with hi | hi
  · exact h2 c (List.mem_filter.mpr ⟨hc, hi⟩)
  · simpa [hi] using h
set_option maxRecDepth 65536 in
theorem w_c0 : (Jvm.Cond.code x code maxLocals ret).before args0 about1 = true := code_word (m := ⟨1, 2⟩) (meth := k1m2) (c := k1c2) (by decide +kernel) rfl rfl rfl (by decide +kernel)
set_option maxRecDepth 65536 in
theorem w_c1 : (Jvm.Cond.code ({ cls := "com/example/egret/egret/language/TrendJoinPinLaw", name := "trend", desc := "(I)Lcom/example/egret/egret/language/ScoreTrend$Trend;" } : Jvm.MethodName) method_2_code (1 : Nat) (Option.some (Jvm.ClassFile.FieldType.object "com/example/egret/egret/language/ScoreTrend$Trend"))).before args0 about1 = true := code_word (m := ⟨1, 1⟩) (meth := k1m1) (c := k1c1) (by decide +kernel) rfl rfl rfl (by decide +kernel)
set_option maxRecDepth 65536 in
theorem w_c2 : (Jvm.Cond.code ({ cls := "com/example/egret/egret/language/ScoreTrend$Trend", name := "join", desc := "(Lcom/example/egret/egret/language/ScoreTrend$Trend;)Lcom/example/egret/egret/language/ScoreTrend$Trend;" } : Jvm.MethodName) prog_120_method_4_code (2 : Nat) (Option.some (Jvm.ClassFile.FieldType.object "com/example/egret/egret/language/ScoreTrend$Trend"))).before args0 about1 = true := code_word (m := ⟨6, 0⟩) (meth := k6m0) (c := k6c0) (by decide +kernel) rfl rfl rfl (by decide +kernel)
def codes1 : List Jvm.Cond := [Jvm.Cond.code x code maxLocals ret, Jvm.Cond.code ({ cls := "com/example/egret/egret/language/TrendJoinPinLaw", name := "trend", desc := "(I)Lcom/example/egret/egret/language/ScoreTrend$Trend;" } : Jvm.MethodName) method_2_code (1 : Nat) (Option.some (Jvm.ClassFile.FieldType.object "com/example/egret/egret/language/ScoreTrend$Trend")), Jvm.Cond.code ({ cls := "com/example/egret/egret/language/ScoreTrend$Trend", name := "join", desc := "(Lcom/example/egret/egret/language/ScoreTrend$Trend;)Lcom/example/egret/egret/language/ScoreTrend$Trend;" } : Jvm.MethodName) prog_120_method_4_code (2 : Nat) (Option.some (Jvm.ClassFile.FieldType.object "com/example/egret/egret/language/ScoreTrend$Trend"))]
set_option maxRecDepth 65536 in
theorem codes_eq : words1.filter isCode = codes1 := rfl
theorem w_codes : ∀ c ∈ words1.filter isCode, c.before args0 about1 = true := by
  rw [codes_eq]
  intro c hc
  simp only [codes1, List.mem_cons, List.not_mem_nil, or_false] at hc
  rcases hc with rfl | rfl | rfl
  · exact w_c0
  · exact w_c1
  · exact w_c2
set_option maxRecDepth 65536 in
theorem w_t1 : words1.all (fun c => isCode c || c.before args0 about1) = true := by decide +kernel
theorem w_tables : (allAtoms (Jvm.Cond.code x code maxLocals ret :: tables_1)).before args0 about1 = true := by
  rw [allAtoms_all]
  show words1.all (fun c => c.before args0 about1) = true
  refine all_split ?_ w_codes
  rw [w_t1]
set_option maxRecDepth 65536 in
theorem w_case : (Jvm.Cond.and given_1 narrow_1).before args0 about1 = true := by decide +kernel
theorem w_applies : (headSpec (Jvm.Cond.code x code maxLocals ret :: tables_1) room_1).applies x e0.platform about1 = true :=
  (Spec.applies_iff w_frames).mpr ⟨w_running, w_runnable, w_alone, w_named, w_hears, w_ripe, w_room, w_tables⟩
theorem atStart : AtStart classFile x code maxLocals ret World_1 tables_1 room_1 Calls_1 rest_1 Pre_1 launch0 p0 e0 about1 theMethod args0 below0 :=
  ⟨lists_1, trivial, launch0.admits_env _ _ _, launch0.least_env, fairChoices_fair.cas, fairChoices_fair.clock, w_frames, w_args, w_heap, w_applies, trivial, trivial, w_case⟩
end start1
theorem witness_1 : WitnessClaimed_1 := ⟨start1.p0, start1.e0, start1.about1, start1.theMethod, start1.args0, start1.below0, start1.atStart⟩
end Jvm.Pilot.@@N@@
