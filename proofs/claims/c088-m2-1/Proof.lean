import JvmDerived
import JvmDerived.Pilot.@@N@@Statement
import JvmDerived.Pilot.@@N@@Code
set_option linter.unusedVariables false
set_option linter.unusedSimpArgs false
namespace Jvm.RoadKit
open Sem ClassFile Op Lib Jvm.Stand Jvm.Free Jvm.LawKit
section New
variable {p : Program} {l : Launch} {e : Env} {R : Room} {s : State} {m : MethodId} {args : Array Value} {below : List Frame} {meth : Method} {c : Code} {T : State} {locs : List Loc} {cells slots : Nat}
theorem retI (X : Stand p l e R s m args below meth c T locs cells slots) (hx : p.tables.exec = Jvm.exec) {pc : Nat} {Ls : Array Slot} {z : Int32} {rest : List Value} (hret : meth.sig.returnType = some .int) (hd : decode c.code pc = .ok (.ireturn, 1)) {fs : List Frame}
    (hl : ∀ (f : JFrame) (acts : List Action), f.method = m → f.locked = none → f.entered = [] → (doReturn e (T.setTop f) acts (some (.int z))).1 = T.setFrames fs) : Steps p.tables e below (T.setTop (mkF m pc Ls (.int z :: rest))) (T.setFrames fs) := by
  have hm' : T.vm.method? m = some meth := X.method'
  have hn : narrow .int (.int z) = .int z := rfl
  show Steps p.tables e below (T.setTop { method := m, pc := pc, locals := Ls, stack := _ :: rest, locked := none }) _
  jvm_step X.here [X.here.top, hx, hd, hm', hret, hn]
  first | (intro acts; rw [hl _ acts rfl rfl rfl]) | rw [hl _ _ rfl rfl rfl]
  exact Steps.refl _
end New
end Jvm.RoadKit
namespace Jvm.Pilot.@@N@@
open Jvm Jvm.ClassFile Sem Op Lib Jvm.Free Jvm.Stand Jvm.LawKit Jvm.RoadKit Bundle Jvm.Pilot.@@N@@.Jvm.D
/-- what a call that writes nothing leaves -/
def PureQ (rv : Option Value) (h0 : Heap) (n0 : Nat) (v : Option Value) (h : Heap) (L : List Loc) : Prop := v = rv ∧ Fr n0 L ∧ h = h0
/-- what the law leaves -/
def LawQ (n0 : Nat) (v : Option Value) (h : Heap) (L : List Loc) : Prop := v = some (.int (1 : Int32)) ∧ Fr n0 L
theorem own_fld {Z : State} {args : Array Value} {a : Addr} {t u : Term} {C n d : String} {v : Value} (ev : t.eval args Z none [] Z = some (.ref a)) (h : (Jvm.Cond.eq (Term.field t C n d) u).value args Z none Z [] = some true) (eu : u.eval args Z none [] Z = some v) : Fld Z Z.heap a C n d v := by
  obtain ⟨x, y, h1, h2, -⟩ := cmp_v (Or.inl h)
  have e2 : y = v := Option.some.inj (h2.symm.trans eu)
  subst e2
  have e3 : x = y := by
    simp only [Jvm.Cond.value, h1, h2] at h
    cases x <;> cases y <;> simp_all
  subst e3
  exact Fld.start ((fld_at ev).symm.trans h1)
theorem pn_SqlType : plainName "com/example/tumbleweir/tumbleweir/value/SqlType" = true := by first | (simp [plainName, overriddenIn]; done) | decide +kernel
theorem ef_isNumeric (m : MethodId) (x0 : Addr) : entryFrame m #[(.ref x0)] 1 = mkF m 0 #[.val (.ref x0)] [] := by first | (simp [entryFrame, mkF, argsToLocals, Value.category]; done) | rfl
theorem d1_0 : decode prog_192_method_4_code 0 = .ok (.aload_n 0, 1) := by decide +kernel
theorem d1_1 : decode prog_192_method_4_code 1 = .ok (.getstatic 10, 3) := by decide +kernel
theorem d1_4 : decode prog_192_method_4_code 4 = .ok (.if_acmp .eq 17, 3) := by decide +kernel
theorem d1_21 : decode prog_192_method_4_code 21 = .ok (.iconst 1, 1) := by decide +kernel
theorem d1_22 : decode prog_192_method_4_code 22 = .ok (.goto 4, 3) := by decide +kernel
theorem d1_26 : decode prog_192_method_4_code 26 = .ok (.ireturn, 1) := by decide +kernel
theorem d1_7 : decode prog_192_method_4_code 7 = .ok (.aload_n 0, 1) := by decide +kernel
theorem d1_8 : decode prog_192_method_4_code 8 = .ok (.getstatic 13, 3) := by decide +kernel
theorem d1_11 : decode prog_192_method_4_code 11 = .ok (.if_acmp .eq 10, 3) := by decide +kernel
theorem d1_14 : decode prog_192_method_4_code 14 = .ok (.aload_n 0, 1) := by decide +kernel
theorem d1_15 : decode prog_192_method_4_code 15 = .ok (.getstatic 16, 3) := by decide +kernel
theorem d1_18 : decode prog_192_method_4_code 18 = .ok (.if_acmp .ne 7, 3) := by decide +kernel
theorem d1_25 : decode prog_192_method_4_code 25 = .ok (.iconst 0, 1) := by decide +kernel
theorem pn_SqlTypeIsNumericPinLaw : plainName "com/example/tumbleweir/tumbleweir/value/SqlTypeIsNumericPinLaw" = true := by first | (simp [plainName, overriddenIn]; done) | decide +kernel
theorem ef_law (m : MethodId) (x0 : Int32) : entryFrame m #[(.int x0)] maxLocals = mkF m 0 #[.val (.int x0), .unset, .unset, .unset] [] := by first | (simp [entryFrame, mkF, argsToLocals, Value.category, maxLocals]; done) | rfl
theorem pd___Z_3 : parseMethodDescriptor "()Z" = some ⟨[], some .boolean⟩ := by decide +kernel
def f_isNumeric (sw0 : Addr) (sw1 : Addr) (sw2 : Addr) (sw3 : Addr) (sw4 : Addr) (sw5 : Addr) (sw6 : Addr) (sw7 : Addr) (sw8 : Addr) (a1 : Addr) : Int32 := (if a1 = sw2 then (1 : Int32) else (if a1 = sw3 then (1 : Int32) else (if a1 = sw4 then (1 : Int32) else (0 : Int32))))
set_option maxRecDepth 65536 in
set_option maxHeartbeats 40000000 in
theorem rm_isNumeric (l : Launch) (Z : State) (a0 : Array Value) (hw : ∀ d ∈ tables_1, d.before a0 Z = true) (ws : List Jvm.Cond) (sw0 : Addr) (sw1 : Addr) (sw2 : Addr) (sw3 : Addr) (sw4 : Addr) (sw5 : Addr) (sw6 : Addr) (sw7 : Addr) (sw8 : Addr) (a1 : Addr) (h0 : Heap) (n0 : Nat) (Z0 : n0 ≤ h0.size) (S_sw0 : Sta Z h0 "com/example/tumbleweir/tumbleweir/value/SqlType" "NULL" "Lcom/example/tumbleweir/tumbleweir/value/SqlType;" (.ref sw0)) (S_sw1 : Sta Z h0 "com/example/tumbleweir/tumbleweir/value/SqlType" "BOOLEAN" "Lcom/example/tumbleweir/tumbleweir/value/SqlType;" (.ref sw1)) (S_sw2 : Sta Z h0 "com/example/tumbleweir/tumbleweir/value/SqlType" "INTEGER" "Lcom/example/tumbleweir/tumbleweir/value/SqlType;" (.ref sw2)) (S_sw3 : Sta Z h0 "com/example/tumbleweir/tumbleweir/value/SqlType" "BIGINT" "Lcom/example/tumbleweir/tumbleweir/value/SqlType;" (.ref sw3)) (S_sw4 : Sta Z h0 "com/example/tumbleweir/tumbleweir/value/SqlType" "DOUBLE" "Lcom/example/tumbleweir/tumbleweir/value/SqlType;" (.ref sw4)) (S_sw5 : Sta Z h0 "com/example/tumbleweir/tumbleweir/value/SqlType" "VARCHAR" "Lcom/example/tumbleweir/tumbleweir/value/SqlType;" (.ref sw5)) (S_sw6 : Sta Z h0 "com/example/tumbleweir/tumbleweir/value/SqlType" "TIMESTAMP" "Lcom/example/tumbleweir/tumbleweir/value/SqlType;" (.ref sw6)) (S_sw7 : Sta Z h0 "com/example/tumbleweir/tumbleweir/value/SqlType" "INTERVAL" "Lcom/example/tumbleweir/tumbleweir/value/SqlType;" (.ref sw7)) (S_sw8 : Sta Z h0 "com/example/tumbleweir/tumbleweir/value/SqlType" "INTERVAL_YEAR_TO_MONTH" "Lcom/example/tumbleweir/tumbleweir/value/SqlType;" (.ref sw8)) :
    MetFree l (⟨"com/example/tumbleweir/tumbleweir/value/SqlType", "isNumeric", "()Z"⟩ : MethodName) (head1 (Jvm.Cond.code (⟨"com/example/tumbleweir/tumbleweir/value/SqlType", "isNumeric", "()Z"⟩ : MethodName) prog_192_method_4_code 1 (some .boolean) :: ws) ({ frames := 0, cells := 0, slots := 0, locals := 0 } : Room)) (fun a U => a = #[(.ref a1)] ∧ Z.Warmed39 U.vm ∧ U.heap = h0) (fun _ _ _ _ _ => True) (fun _ U o U' => ∃ v L, o = .returned v ∧ PureQ (some (.int (f_isNumeric sw0 sw1 sw2 sw3 sw4 sw5 sw6 sw7 sw8 a1))) h0 n0 v U'.heap L ∧ FrameEnd U o U' L ({ frames := 0, cells := 0, slots := 0, locals := 0 } : Room).cells ({ frames := 0, cells := 0, slots := 0, locals := 0 } : Room).slots) := by
  refine MetFree.of_bodySF (plainFor_of_name pn_SqlType) hisR ?_
  intro p e s m args below meth c s₁ Bd hml0 hP hK
  obtain ⟨rfl, hZ, hh⟩ := hP
  have hx := Bd.exec
  have hby := Bd.bytes
  have hml : c.maxLocals = 1 := hml0
  have hown : s.vm.findClass "com/example/tumbleweir/tumbleweir/value/SqlType" = some m.cls := findClass_of_methodNamed Bd.named
  have hnm := (name_of_methodNamed Bd.named Bd.method).1
  have X0 : Stand p l e ({ frames := 0, cells := 0, slots := 0, locals := 0 } : Room) s m #[(.ref a1)] below meth c s₁ [] 0 0 := Stand.of_body Bd
  have e0 : s₁.heap = h0 := by rw [← hh, Bd.state]; rfl
  have N0 := Fr.nil n0
  have pre0 : ∀ t, Steps p.tables e below (s₁.setTop (mkF m 0 #[.val (.ref a1)] [])) t → Steps p.tables e below (s₁.setTop (entryFrame m #[(.ref a1)] 1)) t := fun t k => castTop (ef_isNumeric m a1) k
  obtain ⟨T1, X1, e1, st1⟩ := getS2 X0 hx hZ hown (host := "") (Or.inl (hw _ (List.mem_of_getElem? (i := 9) rfl))) Via.refl e0 S_sw2 (g := (mkF m 1 #[.val (.ref a1)] [(.ref a1)])) rfl (hb hby d1_1)
  have pre2 : ∀ t, Steps p.tables e below (T1.setTop (mkF m 4 #[.val (.ref a1)] [(.ref sw2), (.ref a1)])) t → Steps p.tables e below (s₁.setTop (entryFrame m #[(.ref a1)] 1)) t := fun t k => pre0 t (by
      show Steps p.tables e below (s₁.setTop (mkF m 0 #[.val (.ref a1)] [])) _
      refine XS.aloadN X0.here hx rfl (hb hby d1_0) rfl rfl ?_
      show Steps p.tables e below (s₁.setTop (mkF m 1 #[.val (.ref a1)] [(.ref a1)])) _
      refine st1 _ ?_
      exact k)
  by_cases g3 : a1 = sw2
  · skip
    obtain ⟨fs, hr, hrun, hended, hW, hsame⟩ := X1.leave (v := some (.int (1 : Int32))) (fun h => by rw [Bd.returns] at h; cases h)
    refine ⟨_, _, pre2 _ ?_, hrun, hended, _, _, rfl, ?_, ⟨_, rfl⟩, hW, hsame.mono (by decide) (by decide)⟩
    · show Steps p.tables e below (T1.setTop (mkF m 4 #[.val (.ref a1)] [(.ref sw2), (.ref a1)])) _
      refine Jvm.RoadKit.acmp (g := (mkF m 4 #[.val (.ref a1)] [(.ref sw2), (.ref a1)])) X1 hx rfl rfl rfl (pc0 := 4) (pc' := 21) (same := true) rfl (hb hby d1_4) rfl (decide_eq_true (congrArg Value.ref g3)) (by decide) (by decide) ?_
      show Steps p.tables e below (T1.setTop (mkF m 21 #[.val (.ref a1)] [])) _
      refine XS.iconst X1.here hx rfl (hb hby d1_21) ?_
      show Steps p.tables e below (T1.setTop (mkF m 22 #[.val (.ref a1)] [(.int (1 : Int32))])) _
      refine XS.goto X1.here hx rfl (pc0 := 22) (pc' := 26) rfl (hb hby d1_22) (by decide) (by decide) ?_
      show Steps p.tables e below (T1.setTop (mkF m 26 #[.val (.ref a1)] [(.int (1 : Int32))])) _
      exact retN X1 hx (t := .boolean) Bd.returns (by simp) (hb hby d1_26) hr
    · exact ⟨by simp only [f_isNumeric, if_pos g3], N0, e1⟩
  · skip
    obtain ⟨T4, X4, e4, st4⟩ := getS2 X1 hx hZ hown (host := "") (Or.inl (hw _ (List.mem_of_getElem? (i := 11) rfl))) Via.refl e1 S_sw3 (g := (mkF m 8 #[.val (.ref a1)] [(.ref a1)])) rfl (hb hby d1_8)
    have pre5 : ∀ t, Steps p.tables e below (T4.setTop (mkF m 11 #[.val (.ref a1)] [(.ref sw3), (.ref a1)])) t → Steps p.tables e below (s₁.setTop (entryFrame m #[(.ref a1)] 1)) t := fun t k => pre2 t (by
        show Steps p.tables e below (T1.setTop (mkF m 4 #[.val (.ref a1)] [(.ref sw2), (.ref a1)])) _
        refine Jvm.RoadKit.acmp (g := (mkF m 4 #[.val (.ref a1)] [(.ref sw2), (.ref a1)])) X1 hx rfl rfl rfl (pc0 := 4) (pc' := 7) (same := false) rfl (hb hby d1_4) rfl (decide_eq_false fun q => g3 (Value.ref.inj q)) (by decide) (by decide) ?_
        show Steps p.tables e below (T1.setTop (mkF m 7 #[.val (.ref a1)] [])) _
        refine XS.aloadN X1.here hx rfl (hb hby d1_7) rfl rfl ?_
        show Steps p.tables e below (T1.setTop (mkF m 8 #[.val (.ref a1)] [(.ref a1)])) _
        refine st4 _ ?_
        exact k)
    by_cases g6 : a1 = sw3
    · skip
      obtain ⟨fs, hr, hrun, hended, hW, hsame⟩ := X4.leave (v := some (.int (1 : Int32))) (fun h => by rw [Bd.returns] at h; cases h)
      refine ⟨_, _, pre5 _ ?_, hrun, hended, _, _, rfl, ?_, ⟨_, rfl⟩, hW, hsame.mono (by decide) (by decide)⟩
      · show Steps p.tables e below (T4.setTop (mkF m 11 #[.val (.ref a1)] [(.ref sw3), (.ref a1)])) _
        refine Jvm.RoadKit.acmp (g := (mkF m 11 #[.val (.ref a1)] [(.ref sw3), (.ref a1)])) X4 hx rfl rfl rfl (pc0 := 11) (pc' := 21) (same := true) rfl (hb hby d1_11) rfl (decide_eq_true (congrArg Value.ref g6)) (by decide) (by decide) ?_
        show Steps p.tables e below (T4.setTop (mkF m 21 #[.val (.ref a1)] [])) _
        refine XS.iconst X4.here hx rfl (hb hby d1_21) ?_
        show Steps p.tables e below (T4.setTop (mkF m 22 #[.val (.ref a1)] [(.int (1 : Int32))])) _
        refine XS.goto X4.here hx rfl (pc0 := 22) (pc' := 26) rfl (hb hby d1_22) (by decide) (by decide) ?_
        show Steps p.tables e below (T4.setTop (mkF m 26 #[.val (.ref a1)] [(.int (1 : Int32))])) _
        exact retN X4 hx (t := .boolean) Bd.returns (by simp) (hb hby d1_26) hr
      · exact ⟨by simp only [f_isNumeric, if_neg g3, if_pos g6], N0, e4⟩
    · skip
      obtain ⟨T7, X7, e7, st7⟩ := getS2 X4 hx hZ hown (host := "") (Or.inl (hw _ (List.mem_of_getElem? (i := 13) rfl))) Via.refl e4 S_sw4 (g := (mkF m 15 #[.val (.ref a1)] [(.ref a1)])) rfl (hb hby d1_15)
      have pre8 : ∀ t, Steps p.tables e below (T7.setTop (mkF m 18 #[.val (.ref a1)] [(.ref sw4), (.ref a1)])) t → Steps p.tables e below (s₁.setTop (entryFrame m #[(.ref a1)] 1)) t := fun t k => pre5 t (by
          show Steps p.tables e below (T4.setTop (mkF m 11 #[.val (.ref a1)] [(.ref sw3), (.ref a1)])) _
          refine Jvm.RoadKit.acmp (g := (mkF m 11 #[.val (.ref a1)] [(.ref sw3), (.ref a1)])) X4 hx rfl rfl rfl (pc0 := 11) (pc' := 14) (same := false) rfl (hb hby d1_11) rfl (decide_eq_false fun q => g6 (Value.ref.inj q)) (by decide) (by decide) ?_
          show Steps p.tables e below (T4.setTop (mkF m 14 #[.val (.ref a1)] [])) _
          refine XS.aloadN X4.here hx rfl (hb hby d1_14) rfl rfl ?_
          show Steps p.tables e below (T4.setTop (mkF m 15 #[.val (.ref a1)] [(.ref a1)])) _
          refine st7 _ ?_
          exact k)
      by_cases g9 : a1 = sw4
      · skip
        obtain ⟨fs, hr, hrun, hended, hW, hsame⟩ := X7.leave (v := some (.int (1 : Int32))) (fun h => by rw [Bd.returns] at h; cases h)
        refine ⟨_, _, pre8 _ ?_, hrun, hended, _, _, rfl, ?_, ⟨_, rfl⟩, hW, hsame.mono (by decide) (by decide)⟩
        · show Steps p.tables e below (T7.setTop (mkF m 18 #[.val (.ref a1)] [(.ref sw4), (.ref a1)])) _
          refine Jvm.RoadKit.acmp (g := (mkF m 18 #[.val (.ref a1)] [(.ref sw4), (.ref a1)])) X7 hx rfl rfl rfl (pc0 := 18) (pc' := 21) (same := true) rfl (hb hby d1_18) rfl (decide_eq_true (congrArg Value.ref g9)) (by decide) (by decide) ?_
          show Steps p.tables e below (T7.setTop (mkF m 21 #[.val (.ref a1)] [])) _
          refine XS.iconst X7.here hx rfl (hb hby d1_21) ?_
          show Steps p.tables e below (T7.setTop (mkF m 22 #[.val (.ref a1)] [(.int (1 : Int32))])) _
          refine XS.goto X7.here hx rfl (pc0 := 22) (pc' := 26) rfl (hb hby d1_22) (by decide) (by decide) ?_
          show Steps p.tables e below (T7.setTop (mkF m 26 #[.val (.ref a1)] [(.int (1 : Int32))])) _
          exact retN X7 hx (t := .boolean) Bd.returns (by simp) (hb hby d1_26) hr
        · exact ⟨by simp only [f_isNumeric, if_neg g3, if_neg g6, if_pos g9], N0, e7⟩
      · skip
        obtain ⟨fs, hr, hrun, hended, hW, hsame⟩ := X7.leave (v := some (.int (0 : Int32))) (fun h => by rw [Bd.returns] at h; cases h)
        refine ⟨_, _, pre8 _ ?_, hrun, hended, _, _, rfl, ?_, ⟨_, rfl⟩, hW, hsame.mono (by decide) (by decide)⟩
        · show Steps p.tables e below (T7.setTop (mkF m 18 #[.val (.ref a1)] [(.ref sw4), (.ref a1)])) _
          refine Jvm.RoadKit.acmp (g := (mkF m 18 #[.val (.ref a1)] [(.ref sw4), (.ref a1)])) X7 hx rfl rfl rfl (pc0 := 18) (pc' := 25) (same := false) rfl (hb hby d1_18) rfl (decide_eq_false fun q => g9 (Value.ref.inj q)) (by decide) (by decide) ?_
          show Steps p.tables e below (T7.setTop (mkF m 25 #[.val (.ref a1)] [])) _
          refine XS.iconst X7.here hx rfl (hb hby d1_25) ?_
          show Steps p.tables e below (T7.setTop (mkF m 26 #[.val (.ref a1)] [(.int (0 : Int32))])) _
          exact retN X7 hx (t := .boolean) Bd.returns (by simp) (hb hby d1_26) hr
        · exact ⟨by simp only [f_isNumeric, if_neg g3, if_neg g6, if_neg g9], N0, e7⟩
def v_k (p1 : Int32) : Int32 := ((p1 &&& (2147483647 : Int32)) - ((p1 &&& (2147483647 : Int32)) / (9 : Int32)) * (9 : Int32))
def m_law_0 (sw0 : Addr) (sw1 : Addr) (sw2 : Addr) (sw3 : Addr) (sw4 : Addr) (sw5 : Addr) (sw6 : Addr) (sw7 : Addr) (sw8 : Addr) (p1 : Int32) : Addr := (if (v_k p1) = (0 : Int32) then sw0 else (if (v_k p1) = (1 : Int32) then sw1 else (if (v_k p1) = (2 : Int32) then sw2 else (if (v_k p1) = (3 : Int32) then sw3 else (if (v_k p1) = (4 : Int32) then sw4 else (if (v_k p1) = (5 : Int32) then sw5 else (if (v_k p1) = (6 : Int32) then sw6 else (if (v_k p1) = (7 : Int32) then sw7 else sw8))))))))
def m_law_1 (p1 : Int32) : Int32 := (if (v_k p1) = (0 : Int32) then (0 : Int32) else (if (v_k p1) = (1 : Int32) then (0 : Int32) else (if (v_k p1) = (2 : Int32) then (1 : Int32) else (if (v_k p1) = (3 : Int32) then (1 : Int32) else (if (v_k p1) = (4 : Int32) then (1 : Int32) else (if (v_k p1) = (5 : Int32) then (0 : Int32) else (if (v_k p1) = (6 : Int32) then (0 : Int32) else (if (v_k p1) = (7 : Int32) then (0 : Int32) else (0 : Int32)))))))))
theorem own_e {Z : State} {h0 : Heap} {sw0 sw1 sw2 sw3 sw4 sw5 sw6 sw7 sw8 : Addr} {p1 : Int32} (E_sw0 : Exa Z h0 sw0 "com/example/tumbleweir/tumbleweir/value/SqlType") (E_sw1 : Exa Z h0 sw1 "com/example/tumbleweir/tumbleweir/value/SqlType") (E_sw2 : Exa Z h0 sw2 "com/example/tumbleweir/tumbleweir/value/SqlType") (E_sw3 : Exa Z h0 sw3 "com/example/tumbleweir/tumbleweir/value/SqlType") (E_sw4 : Exa Z h0 sw4 "com/example/tumbleweir/tumbleweir/value/SqlType") (E_sw5 : Exa Z h0 sw5 "com/example/tumbleweir/tumbleweir/value/SqlType") (E_sw6 : Exa Z h0 sw6 "com/example/tumbleweir/tumbleweir/value/SqlType") (E_sw7 : Exa Z h0 sw7 "com/example/tumbleweir/tumbleweir/value/SqlType") (E_sw8 : Exa Z h0 sw8 "com/example/tumbleweir/tumbleweir/value/SqlType") : Exa Z h0 (m_law_0 sw0 sw1 sw2 sw3 sw4 sw5 sw6 sw7 sw8 p1) "com/example/tumbleweir/tumbleweir/value/SqlType" := by
  unfold m_law_0
  split; · assumption
  split; · assumption
  split; · assumption
  split; · assumption
  split; · assumption
  split; · assumption
  split; · assumption
  split <;> assumption
def lawP (sw0 : Addr) (sw1 : Addr) (sw2 : Addr) (sw3 : Addr) (sw4 : Addr) (sw5 : Addr) (sw6 : Addr) (sw7 : Addr) (sw8 : Addr) (p1 : Int32) : Prop := (((f_isNumeric sw0 sw1 sw2 sw3 sw4 sw5 sw6 sw7 sw8 (m_law_0 sw0 sw1 sw2 sw3 sw4 sw5 sw6 sw7 sw8 p1)) = (m_law_1 p1)) ∧ True)
set_option maxRecDepth 65536 in
set_option maxHeartbeats 40000000 in
theorem rm_law (l : Launch) (Z : State) (a0 : Array Value) (hw : ∀ d ∈ tables_1, d.before a0 Z = true) (ws : List Jvm.Cond) (sw0 : Addr) (sw1 : Addr) (sw2 : Addr) (sw3 : Addr) (sw4 : Addr) (sw5 : Addr) (sw6 : Addr) (sw7 : Addr) (sw8 : Addr) (p1 : Int32) (h0 : Heap) (n0 : Nat) (Z0 : n0 ≤ h0.size) (S_sw0 : Sta Z h0 "com/example/tumbleweir/tumbleweir/value/SqlType" "NULL" "Lcom/example/tumbleweir/tumbleweir/value/SqlType;" (.ref sw0)) (S_sw1 : Sta Z h0 "com/example/tumbleweir/tumbleweir/value/SqlType" "BOOLEAN" "Lcom/example/tumbleweir/tumbleweir/value/SqlType;" (.ref sw1)) (S_sw2 : Sta Z h0 "com/example/tumbleweir/tumbleweir/value/SqlType" "INTEGER" "Lcom/example/tumbleweir/tumbleweir/value/SqlType;" (.ref sw2)) (S_sw3 : Sta Z h0 "com/example/tumbleweir/tumbleweir/value/SqlType" "BIGINT" "Lcom/example/tumbleweir/tumbleweir/value/SqlType;" (.ref sw3)) (S_sw4 : Sta Z h0 "com/example/tumbleweir/tumbleweir/value/SqlType" "DOUBLE" "Lcom/example/tumbleweir/tumbleweir/value/SqlType;" (.ref sw4)) (S_sw5 : Sta Z h0 "com/example/tumbleweir/tumbleweir/value/SqlType" "VARCHAR" "Lcom/example/tumbleweir/tumbleweir/value/SqlType;" (.ref sw5)) (S_sw6 : Sta Z h0 "com/example/tumbleweir/tumbleweir/value/SqlType" "TIMESTAMP" "Lcom/example/tumbleweir/tumbleweir/value/SqlType;" (.ref sw6)) (S_sw7 : Sta Z h0 "com/example/tumbleweir/tumbleweir/value/SqlType" "INTERVAL" "Lcom/example/tumbleweir/tumbleweir/value/SqlType;" (.ref sw7)) (S_sw8 : Sta Z h0 "com/example/tumbleweir/tumbleweir/value/SqlType" "INTERVAL_YEAR_TO_MONTH" "Lcom/example/tumbleweir/tumbleweir/value/SqlType;" (.ref sw8)) (E_sw0 : Exa Z h0 sw0 "com/example/tumbleweir/tumbleweir/value/SqlType") (E_sw1 : Exa Z h0 sw1 "com/example/tumbleweir/tumbleweir/value/SqlType") (E_sw2 : Exa Z h0 sw2 "com/example/tumbleweir/tumbleweir/value/SqlType") (E_sw3 : Exa Z h0 sw3 "com/example/tumbleweir/tumbleweir/value/SqlType") (E_sw4 : Exa Z h0 sw4 "com/example/tumbleweir/tumbleweir/value/SqlType") (E_sw5 : Exa Z h0 sw5 "com/example/tumbleweir/tumbleweir/value/SqlType") (E_sw6 : Exa Z h0 sw6 "com/example/tumbleweir/tumbleweir/value/SqlType") (E_sw7 : Exa Z h0 sw7 "com/example/tumbleweir/tumbleweir/value/SqlType") (E_sw8 : Exa Z h0 sw8 "com/example/tumbleweir/tumbleweir/value/SqlType") (hp : lawP sw0 sw1 sw2 sw3 sw4 sw5 sw6 sw7 sw8 p1) :
    MetFree l x (head1 (Jvm.Cond.code x code maxLocals ret :: ws) room_1) (fun a U => a = #[(.int p1)] ∧ Z.Warmed39 U.vm ∧ U.heap = h0) (fun _ _ _ _ _ => True) (fun _ U o U' => ∃ v L, o = .returned v ∧ LawQ n0 v U'.heap L ∧ FrameEnd U o U' L room_1.cells room_1.slots) := by
  refine MetFree.of_bodySF (plainFor_of_name pn_SqlTypeIsNumericPinLaw) hisR ?_
  intro p e s m args below meth c s₁ Bd hml0 hP hK
  obtain ⟨rfl, hZ, hh⟩ := hP
  have hx := Bd.exec
  have hby := Bd.bytes
  have hml : c.maxLocals = 4 := hml0
  have hown : s.vm.findClass "com/example/tumbleweir/tumbleweir/value/SqlTypeIsNumericPinLaw" = some m.cls := findClass_of_methodNamed Bd.named
  have hnm := (name_of_methodNamed Bd.named Bd.method).1
  have X0 : Stand p l e room_1 s m #[(.int p1)] below meth c s₁ [] 0 0 := Stand.of_body Bd
  have e0 : s₁.heap = h0 := by rw [← hh, Bd.state]; rfl
  have N0 := Fr.nil n0
  have pre0 : ∀ t, Steps p.tables e below (s₁.setTop (mkF m 0 #[.val (.int p1), .unset, .unset, .unset] [])) t → Steps p.tables e below (s₁.setTop (entryFrame m #[(.int p1)] maxLocals)) t := fun t k => castTop (ef_law m p1) k
  unfold lawP at hp
  have pre1 : ∀ t, Steps p.tables e below (s₁.setTop (mkF m 8 #[.val (.int p1), .val (.int (v_k p1)), .unset, .unset] [])) t → Steps p.tables e below (s₁.setTop (entryFrame m #[(.int p1)] maxLocals)) t := fun t k => pre0 t (by
      show Steps p.tables e below (s₁.setTop (mkF m 0 #[.val (.int p1), .unset, .unset, .unset] [])) _
      refine XS.iloadN X0.here hx rfl (hb hby at_0) rfl ?_
      show Steps p.tables e below (s₁.setTop (mkF m 1 #[.val (.int p1), .unset, .unset, .unset] [(.int p1)])) _
      refine X0.ldcInt hx hown (mvT hZ (hw _ (List.mem_of_getElem? (i := 0) rfl))) (g := (mkF m 1 #[.val (.int p1), .unset, .unset, .unset] [(.int p1)])) rfl (hb hby at_1) _ ?_
      show Steps p.tables e below (s₁.setTop (mkF m 3 #[.val (.int p1), .unset, .unset, .unset] [(.int (2147483647 : Int32)), (.int p1)])) _
      refine XS.iand X0.here hx rfl (hb hby at_3) rfl ?_
      show Steps p.tables e below (s₁.setTop (mkF m 4 #[.val (.int p1), .unset, .unset, .unset] [(.int (p1 &&& (2147483647 : Int32)))])) _
      refine XS.bipush X0.here hx rfl (hb hby at_4) ?_
      show Steps p.tables e below (s₁.setTop (mkF m 6 #[.val (.int p1), .unset, .unset, .unset] [(.int (9 : Int32)), (.int (p1 &&& (2147483647 : Int32)))])) _
      refine XS.irem X0.here hx rfl (hb hby at_6) rfl (by decide) ?_
      show Steps p.tables e below (s₁.setTop (mkF m 7 #[.val (.int p1), .unset, .unset, .unset] [(.int (v_k p1))])) _
      refine XS.istoreN X0.here hx rfl (hb hby at_7) rfl (l' := #[.val (.int p1), .val (.int (v_k p1)), .unset, .unset]) rfl ?_
      exact k)
  obtain ⟨T2, L2, X2, e2, N2, pre2⟩ : ∃ (T' : State) (L' : List Loc), Stand p l e room_1 s m #[(.int p1)] below meth c T' L' 0 0 ∧ T'.heap = h0 ∧ Fr n0 L' ∧ ∀ t, Steps p.tables e below (T'.setTop (mkF m 127 #[.val (.int p1), .val (.int (v_k p1)), .val (.ref (m_law_0 sw0 sw1 sw2 sw3 sw4 sw5 sw6 sw7 sw8 p1)), .val (.int (m_law_1 p1))] [])) t → Steps p.tables e below (s₁.setTop (entryFrame m #[(.int p1)] maxLocals)) t := by
    have pre3 : ∀ t, Steps p.tables e below (s₁.setTop (mkF m 9 #[.val (.int p1), .val (.int (v_k p1)), .unset, .unset] [(.int (v_k p1))])) t → Steps p.tables e below (s₁.setTop (entryFrame m #[(.int p1)] maxLocals)) t := fun t k => pre1 t (by
        show Steps p.tables e below (s₁.setTop (mkF m 8 #[.val (.int p1), .val (.int (v_k p1)), .unset, .unset] [])) _
        refine XS.iloadN X0.here hx rfl (hb hby at_8) rfl ?_
        exact k)
    by_cases g4 : (v_k p1) = (0 : Int32)
    · skip
      obtain ⟨T5, X5, e5, st5⟩ := getS2 X0 hx hZ hown (host := "") (Or.inl (hw _ (List.mem_of_getElem? (i := 1) rfl))) Via.refl e0 S_sw0 (g := (mkF m 12 #[.val (.int p1), .val (.int (v_k p1)), .unset, .unset] [])) rfl (hb hby at_12)
      simp only [m_law_0, if_pos g4]
      simp only [m_law_1, if_pos g4]
      exact ⟨T5, _, X5, e5, N0, fun t k => pre3 t (by
          show Steps p.tables e below (s₁.setTop (mkF m 9 #[.val (.int p1), .val (.int (v_k p1)), .unset, .unset] [(.int (v_k p1))])) _
          refine XS.ifNo X0.here hx rfl (hb hby at_9) rfl ((if0 _ _).trans (teq g4).2) ?_
          show Steps p.tables e below (s₁.setTop (mkF m 12 #[.val (.int p1), .val (.int (v_k p1)), .unset, .unset] [])) _
          refine st5 _ ?_
          show Steps p.tables e below (T5.setTop (mkF m 15 #[.val (.int p1), .val (.int (v_k p1)), .unset, .unset] [(.ref sw0)])) _
          refine XS.astoreN X5.here hx rfl (hb hby at_15) rfl rfl (l' := #[.val (.int p1), .val (.int (v_k p1)), .val (.ref sw0), .unset]) rfl ?_
          show Steps p.tables e below (T5.setTop (mkF m 16 #[.val (.int p1), .val (.int (v_k p1)), .val (.ref sw0), .unset] [])) _
          refine XS.iconst X5.here hx rfl (hb hby at_16) ?_
          show Steps p.tables e below (T5.setTop (mkF m 17 #[.val (.int p1), .val (.int (v_k p1)), .val (.ref sw0), .unset] [(.int (0 : Int32))])) _
          refine XS.istoreN X5.here hx rfl (hb hby at_17) rfl (l' := #[.val (.int p1), .val (.int (v_k p1)), .val (.ref sw0), .val (.int (0 : Int32))]) rfl ?_
          show Steps p.tables e below (T5.setTop (mkF m 18 #[.val (.int p1), .val (.int (v_k p1)), .val (.ref sw0), .val (.int (0 : Int32))] [])) _
          refine XS.goto X5.here hx rfl (pc0 := 18) (pc' := 127) rfl (hb hby at_18) (by decide) (by decide) ?_
          exact k)⟩
    · skip
      have pre6 : ∀ t, Steps p.tables e below (s₁.setTop (mkF m 23 #[.val (.int p1), .val (.int (v_k p1)), .unset, .unset] [(.int (1 : Int32)), (.int (v_k p1))])) t → Steps p.tables e below (s₁.setTop (entryFrame m #[(.int p1)] maxLocals)) t := fun t k => pre3 t (by
          show Steps p.tables e below (s₁.setTop (mkF m 9 #[.val (.int p1), .val (.int (v_k p1)), .unset, .unset] [(.int (v_k p1))])) _
          refine XS.ifYes X0.here hx rfl (pc0 := 9) (pc' := 21) rfl (hb hby at_9) rfl ((if0 _ _).trans (feq g4).2) (by decide) (by decide) ?_
          show Steps p.tables e below (s₁.setTop (mkF m 21 #[.val (.int p1), .val (.int (v_k p1)), .unset, .unset] [])) _
          refine XS.iloadN X0.here hx rfl (hb hby at_21) rfl ?_
          show Steps p.tables e below (s₁.setTop (mkF m 22 #[.val (.int p1), .val (.int (v_k p1)), .unset, .unset] [(.int (v_k p1))])) _
          refine XS.iconst X0.here hx rfl (hb hby at_22) ?_
          exact k)
      by_cases g7 : (v_k p1) = (1 : Int32)
      · skip
        obtain ⟨T8, X8, e8, st8⟩ := getS2 X0 hx hZ hown (host := "") (Or.inl (hw _ (List.mem_of_getElem? (i := 17) rfl))) Via.refl e0 S_sw1 (g := (mkF m 26 #[.val (.int p1), .val (.int (v_k p1)), .unset, .unset] [])) rfl (hb hby at_26)
        simp only [m_law_0, if_neg g4, if_pos g7]
        simp only [m_law_1, if_neg g4, if_pos g7]
        exact ⟨T8, _, X8, e8, N0, fun t k => pre6 t (by
            show Steps p.tables e below (s₁.setTop (mkF m 23 #[.val (.int p1), .val (.int (v_k p1)), .unset, .unset] [(.int (1 : Int32)), (.int (v_k p1))])) _
            refine XS.icmpNo X0.here hx rfl (hb hby at_23) rfl (teq g7).2 ?_
            show Steps p.tables e below (s₁.setTop (mkF m 26 #[.val (.int p1), .val (.int (v_k p1)), .unset, .unset] [])) _
            refine st8 _ ?_
            show Steps p.tables e below (T8.setTop (mkF m 29 #[.val (.int p1), .val (.int (v_k p1)), .unset, .unset] [(.ref sw1)])) _
            refine XS.astoreN X8.here hx rfl (hb hby at_29) rfl rfl (l' := #[.val (.int p1), .val (.int (v_k p1)), .val (.ref sw1), .unset]) rfl ?_
            show Steps p.tables e below (T8.setTop (mkF m 30 #[.val (.int p1), .val (.int (v_k p1)), .val (.ref sw1), .unset] [])) _
            refine XS.iconst X8.here hx rfl (hb hby at_30) ?_
            show Steps p.tables e below (T8.setTop (mkF m 31 #[.val (.int p1), .val (.int (v_k p1)), .val (.ref sw1), .unset] [(.int (0 : Int32))])) _
            refine XS.istoreN X8.here hx rfl (hb hby at_31) rfl (l' := #[.val (.int p1), .val (.int (v_k p1)), .val (.ref sw1), .val (.int (0 : Int32))]) rfl ?_
            show Steps p.tables e below (T8.setTop (mkF m 32 #[.val (.int p1), .val (.int (v_k p1)), .val (.ref sw1), .val (.int (0 : Int32))] [])) _
            refine XS.goto X8.here hx rfl (pc0 := 32) (pc' := 127) rfl (hb hby at_32) (by decide) (by decide) ?_
            exact k)⟩
      · skip
        have pre9 : ∀ t, Steps p.tables e below (s₁.setTop (mkF m 37 #[.val (.int p1), .val (.int (v_k p1)), .unset, .unset] [(.int (2 : Int32)), (.int (v_k p1))])) t → Steps p.tables e below (s₁.setTop (entryFrame m #[(.int p1)] maxLocals)) t := fun t k => pre6 t (by
            show Steps p.tables e below (s₁.setTop (mkF m 23 #[.val (.int p1), .val (.int (v_k p1)), .unset, .unset] [(.int (1 : Int32)), (.int (v_k p1))])) _
            refine XS.icmpYes X0.here hx rfl (pc0 := 23) (pc' := 35) rfl (hb hby at_23) rfl (feq g7).2 (by decide) (by decide) ?_
            show Steps p.tables e below (s₁.setTop (mkF m 35 #[.val (.int p1), .val (.int (v_k p1)), .unset, .unset] [])) _
            refine XS.iloadN X0.here hx rfl (hb hby at_35) rfl ?_
            show Steps p.tables e below (s₁.setTop (mkF m 36 #[.val (.int p1), .val (.int (v_k p1)), .unset, .unset] [(.int (v_k p1))])) _
            refine XS.iconst X0.here hx rfl (hb hby at_36) ?_
            exact k)
        by_cases g10 : (v_k p1) = (2 : Int32)
        · skip
          obtain ⟨T11, X11, e11, st11⟩ := getS2 X0 hx hZ hown (host := "") (Or.inl (hw _ (List.mem_of_getElem? (i := 16) rfl))) Via.refl e0 S_sw2 (g := (mkF m 40 #[.val (.int p1), .val (.int (v_k p1)), .unset, .unset] [])) rfl (hb hby at_40)
          simp only [m_law_0, if_neg g4, if_neg g7, if_pos g10]
          simp only [m_law_1, if_neg g4, if_neg g7, if_pos g10]
          exact ⟨T11, _, X11, e11, N0, fun t k => pre9 t (by
              show Steps p.tables e below (s₁.setTop (mkF m 37 #[.val (.int p1), .val (.int (v_k p1)), .unset, .unset] [(.int (2 : Int32)), (.int (v_k p1))])) _
              refine XS.icmpNo X0.here hx rfl (hb hby at_37) rfl (teq g10).2 ?_
              show Steps p.tables e below (s₁.setTop (mkF m 40 #[.val (.int p1), .val (.int (v_k p1)), .unset, .unset] [])) _
              refine st11 _ ?_
              show Steps p.tables e below (T11.setTop (mkF m 43 #[.val (.int p1), .val (.int (v_k p1)), .unset, .unset] [(.ref sw2)])) _
              refine XS.astoreN X11.here hx rfl (hb hby at_43) rfl rfl (l' := #[.val (.int p1), .val (.int (v_k p1)), .val (.ref sw2), .unset]) rfl ?_
              show Steps p.tables e below (T11.setTop (mkF m 44 #[.val (.int p1), .val (.int (v_k p1)), .val (.ref sw2), .unset] [])) _
              refine XS.iconst X11.here hx rfl (hb hby at_44) ?_
              show Steps p.tables e below (T11.setTop (mkF m 45 #[.val (.int p1), .val (.int (v_k p1)), .val (.ref sw2), .unset] [(.int (1 : Int32))])) _
              refine XS.istoreN X11.here hx rfl (hb hby at_45) rfl (l' := #[.val (.int p1), .val (.int (v_k p1)), .val (.ref sw2), .val (.int (1 : Int32))]) rfl ?_
              show Steps p.tables e below (T11.setTop (mkF m 46 #[.val (.int p1), .val (.int (v_k p1)), .val (.ref sw2), .val (.int (1 : Int32))] [])) _
              refine XS.goto X11.here hx rfl (pc0 := 46) (pc' := 127) rfl (hb hby at_46) (by decide) (by decide) ?_
              exact k)⟩
        · skip
          have pre12 : ∀ t, Steps p.tables e below (s₁.setTop (mkF m 51 #[.val (.int p1), .val (.int (v_k p1)), .unset, .unset] [(.int (3 : Int32)), (.int (v_k p1))])) t → Steps p.tables e below (s₁.setTop (entryFrame m #[(.int p1)] maxLocals)) t := fun t k => pre9 t (by
              show Steps p.tables e below (s₁.setTop (mkF m 37 #[.val (.int p1), .val (.int (v_k p1)), .unset, .unset] [(.int (2 : Int32)), (.int (v_k p1))])) _
              refine XS.icmpYes X0.here hx rfl (pc0 := 37) (pc' := 49) rfl (hb hby at_37) rfl (feq g10).2 (by decide) (by decide) ?_
              show Steps p.tables e below (s₁.setTop (mkF m 49 #[.val (.int p1), .val (.int (v_k p1)), .unset, .unset] [])) _
              refine XS.iloadN X0.here hx rfl (hb hby at_49) rfl ?_
              show Steps p.tables e below (s₁.setTop (mkF m 50 #[.val (.int p1), .val (.int (v_k p1)), .unset, .unset] [(.int (v_k p1))])) _
              refine XS.iconst X0.here hx rfl (hb hby at_50) ?_
              exact k)
          by_cases g13 : (v_k p1) = (3 : Int32)
          · skip
            obtain ⟨T14, X14, e14, st14⟩ := getS2 X0 hx hZ hown (host := "") (Or.inl (hw _ (List.mem_of_getElem? (i := 15) rfl))) Via.refl e0 S_sw3 (g := (mkF m 54 #[.val (.int p1), .val (.int (v_k p1)), .unset, .unset] [])) rfl (hb hby at_54)
            simp only [m_law_0, if_neg g4, if_neg g7, if_neg g10, if_pos g13]
            simp only [m_law_1, if_neg g4, if_neg g7, if_neg g10, if_pos g13]
            exact ⟨T14, _, X14, e14, N0, fun t k => pre12 t (by
                show Steps p.tables e below (s₁.setTop (mkF m 51 #[.val (.int p1), .val (.int (v_k p1)), .unset, .unset] [(.int (3 : Int32)), (.int (v_k p1))])) _
                refine XS.icmpNo X0.here hx rfl (hb hby at_51) rfl (teq g13).2 ?_
                show Steps p.tables e below (s₁.setTop (mkF m 54 #[.val (.int p1), .val (.int (v_k p1)), .unset, .unset] [])) _
                refine st14 _ ?_
                show Steps p.tables e below (T14.setTop (mkF m 57 #[.val (.int p1), .val (.int (v_k p1)), .unset, .unset] [(.ref sw3)])) _
                refine XS.astoreN X14.here hx rfl (hb hby at_57) rfl rfl (l' := #[.val (.int p1), .val (.int (v_k p1)), .val (.ref sw3), .unset]) rfl ?_
                show Steps p.tables e below (T14.setTop (mkF m 58 #[.val (.int p1), .val (.int (v_k p1)), .val (.ref sw3), .unset] [])) _
                refine XS.iconst X14.here hx rfl (hb hby at_58) ?_
                show Steps p.tables e below (T14.setTop (mkF m 59 #[.val (.int p1), .val (.int (v_k p1)), .val (.ref sw3), .unset] [(.int (1 : Int32))])) _
                refine XS.istoreN X14.here hx rfl (hb hby at_59) rfl (l' := #[.val (.int p1), .val (.int (v_k p1)), .val (.ref sw3), .val (.int (1 : Int32))]) rfl ?_
                show Steps p.tables e below (T14.setTop (mkF m 60 #[.val (.int p1), .val (.int (v_k p1)), .val (.ref sw3), .val (.int (1 : Int32))] [])) _
                refine XS.goto X14.here hx rfl (pc0 := 60) (pc' := 127) rfl (hb hby at_60) (by decide) (by decide) ?_
                exact k)⟩
          · skip
            have pre15 : ∀ t, Steps p.tables e below (s₁.setTop (mkF m 65 #[.val (.int p1), .val (.int (v_k p1)), .unset, .unset] [(.int (4 : Int32)), (.int (v_k p1))])) t → Steps p.tables e below (s₁.setTop (entryFrame m #[(.int p1)] maxLocals)) t := fun t k => pre12 t (by
                show Steps p.tables e below (s₁.setTop (mkF m 51 #[.val (.int p1), .val (.int (v_k p1)), .unset, .unset] [(.int (3 : Int32)), (.int (v_k p1))])) _
                refine XS.icmpYes X0.here hx rfl (pc0 := 51) (pc' := 63) rfl (hb hby at_51) rfl (feq g13).2 (by decide) (by decide) ?_
                show Steps p.tables e below (s₁.setTop (mkF m 63 #[.val (.int p1), .val (.int (v_k p1)), .unset, .unset] [])) _
                refine XS.iloadN X0.here hx rfl (hb hby at_63) rfl ?_
                show Steps p.tables e below (s₁.setTop (mkF m 64 #[.val (.int p1), .val (.int (v_k p1)), .unset, .unset] [(.int (v_k p1))])) _
                refine XS.iconst X0.here hx rfl (hb hby at_64) ?_
                exact k)
            by_cases g16 : (v_k p1) = (4 : Int32)
            · skip
              obtain ⟨T17, X17, e17, st17⟩ := getS2 X0 hx hZ hown (host := "") (Or.inl (hw _ (List.mem_of_getElem? (i := 21) rfl))) Via.refl e0 S_sw4 (g := (mkF m 68 #[.val (.int p1), .val (.int (v_k p1)), .unset, .unset] [])) rfl (hb hby at_68)
              simp only [m_law_0, if_neg g4, if_neg g7, if_neg g10, if_neg g13, if_pos g16]
              simp only [m_law_1, if_neg g4, if_neg g7, if_neg g10, if_neg g13, if_pos g16]
              exact ⟨T17, _, X17, e17, N0, fun t k => pre15 t (by
                  show Steps p.tables e below (s₁.setTop (mkF m 65 #[.val (.int p1), .val (.int (v_k p1)), .unset, .unset] [(.int (4 : Int32)), (.int (v_k p1))])) _
                  refine XS.icmpNo X0.here hx rfl (hb hby at_65) rfl (teq g16).2 ?_
                  show Steps p.tables e below (s₁.setTop (mkF m 68 #[.val (.int p1), .val (.int (v_k p1)), .unset, .unset] [])) _
                  refine st17 _ ?_
                  show Steps p.tables e below (T17.setTop (mkF m 71 #[.val (.int p1), .val (.int (v_k p1)), .unset, .unset] [(.ref sw4)])) _
                  refine XS.astoreN X17.here hx rfl (hb hby at_71) rfl rfl (l' := #[.val (.int p1), .val (.int (v_k p1)), .val (.ref sw4), .unset]) rfl ?_
                  show Steps p.tables e below (T17.setTop (mkF m 72 #[.val (.int p1), .val (.int (v_k p1)), .val (.ref sw4), .unset] [])) _
                  refine XS.iconst X17.here hx rfl (hb hby at_72) ?_
                  show Steps p.tables e below (T17.setTop (mkF m 73 #[.val (.int p1), .val (.int (v_k p1)), .val (.ref sw4), .unset] [(.int (1 : Int32))])) _
                  refine XS.istoreN X17.here hx rfl (hb hby at_73) rfl (l' := #[.val (.int p1), .val (.int (v_k p1)), .val (.ref sw4), .val (.int (1 : Int32))]) rfl ?_
                  show Steps p.tables e below (T17.setTop (mkF m 74 #[.val (.int p1), .val (.int (v_k p1)), .val (.ref sw4), .val (.int (1 : Int32))] [])) _
                  refine XS.goto X17.here hx rfl (pc0 := 74) (pc' := 127) rfl (hb hby at_74) (by decide) (by decide) ?_
                  exact k)⟩
            · skip
              have pre18 : ∀ t, Steps p.tables e below (s₁.setTop (mkF m 79 #[.val (.int p1), .val (.int (v_k p1)), .unset, .unset] [(.int (5 : Int32)), (.int (v_k p1))])) t → Steps p.tables e below (s₁.setTop (entryFrame m #[(.int p1)] maxLocals)) t := fun t k => pre15 t (by
                  show Steps p.tables e below (s₁.setTop (mkF m 65 #[.val (.int p1), .val (.int (v_k p1)), .unset, .unset] [(.int (4 : Int32)), (.int (v_k p1))])) _
                  refine XS.icmpYes X0.here hx rfl (pc0 := 65) (pc' := 77) rfl (hb hby at_65) rfl (feq g16).2 (by decide) (by decide) ?_
                  show Steps p.tables e below (s₁.setTop (mkF m 77 #[.val (.int p1), .val (.int (v_k p1)), .unset, .unset] [])) _
                  refine XS.iloadN X0.here hx rfl (hb hby at_77) rfl ?_
                  show Steps p.tables e below (s₁.setTop (mkF m 78 #[.val (.int p1), .val (.int (v_k p1)), .unset, .unset] [(.int (v_k p1))])) _
                  refine XS.iconst X0.here hx rfl (hb hby at_78) ?_
                  exact k)
              by_cases g19 : (v_k p1) = (5 : Int32)
              · skip
                obtain ⟨T20, X20, e20, st20⟩ := getS2 X0 hx hZ hown (host := "") (Or.inl (hw _ (List.mem_of_getElem? (i := 26) rfl))) Via.refl e0 S_sw5 (g := (mkF m 82 #[.val (.int p1), .val (.int (v_k p1)), .unset, .unset] [])) rfl (hb hby at_82)
                simp only [m_law_0, if_neg g4, if_neg g7, if_neg g10, if_neg g13, if_neg g16, if_pos g19]
                simp only [m_law_1, if_neg g4, if_neg g7, if_neg g10, if_neg g13, if_neg g16, if_pos g19]
                exact ⟨T20, _, X20, e20, N0, fun t k => pre18 t (by
                    show Steps p.tables e below (s₁.setTop (mkF m 79 #[.val (.int p1), .val (.int (v_k p1)), .unset, .unset] [(.int (5 : Int32)), (.int (v_k p1))])) _
                    refine XS.icmpNo X0.here hx rfl (hb hby at_79) rfl (teq g19).2 ?_
                    show Steps p.tables e below (s₁.setTop (mkF m 82 #[.val (.int p1), .val (.int (v_k p1)), .unset, .unset] [])) _
                    refine st20 _ ?_
                    show Steps p.tables e below (T20.setTop (mkF m 85 #[.val (.int p1), .val (.int (v_k p1)), .unset, .unset] [(.ref sw5)])) _
                    refine XS.astoreN X20.here hx rfl (hb hby at_85) rfl rfl (l' := #[.val (.int p1), .val (.int (v_k p1)), .val (.ref sw5), .unset]) rfl ?_
                    show Steps p.tables e below (T20.setTop (mkF m 86 #[.val (.int p1), .val (.int (v_k p1)), .val (.ref sw5), .unset] [])) _
                    refine XS.iconst X20.here hx rfl (hb hby at_86) ?_
                    show Steps p.tables e below (T20.setTop (mkF m 87 #[.val (.int p1), .val (.int (v_k p1)), .val (.ref sw5), .unset] [(.int (0 : Int32))])) _
                    refine XS.istoreN X20.here hx rfl (hb hby at_87) rfl (l' := #[.val (.int p1), .val (.int (v_k p1)), .val (.ref sw5), .val (.int (0 : Int32))]) rfl ?_
                    show Steps p.tables e below (T20.setTop (mkF m 88 #[.val (.int p1), .val (.int (v_k p1)), .val (.ref sw5), .val (.int (0 : Int32))] [])) _
                    refine XS.goto X20.here hx rfl (pc0 := 88) (pc' := 127) rfl (hb hby at_88) (by decide) (by decide) ?_
                    exact k)⟩
              · skip
                have pre21 : ∀ t, Steps p.tables e below (s₁.setTop (mkF m 94 #[.val (.int p1), .val (.int (v_k p1)), .unset, .unset] [(.int (6 : Int32)), (.int (v_k p1))])) t → Steps p.tables e below (s₁.setTop (entryFrame m #[(.int p1)] maxLocals)) t := fun t k => pre18 t (by
                    show Steps p.tables e below (s₁.setTop (mkF m 79 #[.val (.int p1), .val (.int (v_k p1)), .unset, .unset] [(.int (5 : Int32)), (.int (v_k p1))])) _
                    refine XS.icmpYes X0.here hx rfl (pc0 := 79) (pc' := 91) rfl (hb hby at_79) rfl (feq g19).2 (by decide) (by decide) ?_
                    show Steps p.tables e below (s₁.setTop (mkF m 91 #[.val (.int p1), .val (.int (v_k p1)), .unset, .unset] [])) _
                    refine XS.iloadN X0.here hx rfl (hb hby at_91) rfl ?_
                    show Steps p.tables e below (s₁.setTop (mkF m 92 #[.val (.int p1), .val (.int (v_k p1)), .unset, .unset] [(.int (v_k p1))])) _
                    refine XS.bipush X0.here hx rfl (hb hby at_92) ?_
                    exact k)
                by_cases g22 : (v_k p1) = (6 : Int32)
                · skip
                  obtain ⟨T23, X23, e23, st23⟩ := getS2 X0 hx hZ hown (host := "") (Or.inl (hw _ (List.mem_of_getElem? (i := 24) rfl))) Via.refl e0 S_sw6 (g := (mkF m 97 #[.val (.int p1), .val (.int (v_k p1)), .unset, .unset] [])) rfl (hb hby at_97)
                  simp only [m_law_0, if_neg g4, if_neg g7, if_neg g10, if_neg g13, if_neg g16, if_neg g19, if_pos g22]
                  simp only [m_law_1, if_neg g4, if_neg g7, if_neg g10, if_neg g13, if_neg g16, if_neg g19, if_pos g22]
                  exact ⟨T23, _, X23, e23, N0, fun t k => pre21 t (by
                      show Steps p.tables e below (s₁.setTop (mkF m 94 #[.val (.int p1), .val (.int (v_k p1)), .unset, .unset] [(.int (6 : Int32)), (.int (v_k p1))])) _
                      refine XS.icmpNo X0.here hx rfl (hb hby at_94) rfl (teq g22).2 ?_
                      show Steps p.tables e below (s₁.setTop (mkF m 97 #[.val (.int p1), .val (.int (v_k p1)), .unset, .unset] [])) _
                      refine st23 _ ?_
                      show Steps p.tables e below (T23.setTop (mkF m 100 #[.val (.int p1), .val (.int (v_k p1)), .unset, .unset] [(.ref sw6)])) _
                      refine XS.astoreN X23.here hx rfl (hb hby at_100) rfl rfl (l' := #[.val (.int p1), .val (.int (v_k p1)), .val (.ref sw6), .unset]) rfl ?_
                      show Steps p.tables e below (T23.setTop (mkF m 101 #[.val (.int p1), .val (.int (v_k p1)), .val (.ref sw6), .unset] [])) _
                      refine XS.iconst X23.here hx rfl (hb hby at_101) ?_
                      show Steps p.tables e below (T23.setTop (mkF m 102 #[.val (.int p1), .val (.int (v_k p1)), .val (.ref sw6), .unset] [(.int (0 : Int32))])) _
                      refine XS.istoreN X23.here hx rfl (hb hby at_102) rfl (l' := #[.val (.int p1), .val (.int (v_k p1)), .val (.ref sw6), .val (.int (0 : Int32))]) rfl ?_
                      show Steps p.tables e below (T23.setTop (mkF m 103 #[.val (.int p1), .val (.int (v_k p1)), .val (.ref sw6), .val (.int (0 : Int32))] [])) _
                      refine XS.goto X23.here hx rfl (pc0 := 103) (pc' := 127) rfl (hb hby at_103) (by decide) (by decide) ?_
                      exact k)⟩
                · skip
                  have pre24 : ∀ t, Steps p.tables e below (s₁.setTop (mkF m 109 #[.val (.int p1), .val (.int (v_k p1)), .unset, .unset] [(.int (7 : Int32)), (.int (v_k p1))])) t → Steps p.tables e below (s₁.setTop (entryFrame m #[(.int p1)] maxLocals)) t := fun t k => pre21 t (by
                      show Steps p.tables e below (s₁.setTop (mkF m 94 #[.val (.int p1), .val (.int (v_k p1)), .unset, .unset] [(.int (6 : Int32)), (.int (v_k p1))])) _
                      refine XS.icmpYes X0.here hx rfl (pc0 := 94) (pc' := 106) rfl (hb hby at_94) rfl (feq g22).2 (by decide) (by decide) ?_
                      show Steps p.tables e below (s₁.setTop (mkF m 106 #[.val (.int p1), .val (.int (v_k p1)), .unset, .unset] [])) _
                      refine XS.iloadN X0.here hx rfl (hb hby at_106) rfl ?_
                      show Steps p.tables e below (s₁.setTop (mkF m 107 #[.val (.int p1), .val (.int (v_k p1)), .unset, .unset] [(.int (v_k p1))])) _
                      refine XS.bipush X0.here hx rfl (hb hby at_107) ?_
                      exact k)
                  by_cases g25 : (v_k p1) = (7 : Int32)
                  · skip
                    obtain ⟨T26, X26, e26, st26⟩ := getS2 X0 hx hZ hown (host := "") (Or.inl (hw _ (List.mem_of_getElem? (i := 19) rfl))) Via.refl e0 S_sw7 (g := (mkF m 112 #[.val (.int p1), .val (.int (v_k p1)), .unset, .unset] [])) rfl (hb hby at_112)
                    simp only [m_law_0, if_neg g4, if_neg g7, if_neg g10, if_neg g13, if_neg g16, if_neg g19, if_neg g22, if_pos g25]
                    simp only [m_law_1, if_neg g4, if_neg g7, if_neg g10, if_neg g13, if_neg g16, if_neg g19, if_neg g22, if_pos g25]
                    exact ⟨T26, _, X26, e26, N0, fun t k => pre24 t (by
                        show Steps p.tables e below (s₁.setTop (mkF m 109 #[.val (.int p1), .val (.int (v_k p1)), .unset, .unset] [(.int (7 : Int32)), (.int (v_k p1))])) _
                        refine XS.icmpNo X0.here hx rfl (hb hby at_109) rfl (teq g25).2 ?_
                        show Steps p.tables e below (s₁.setTop (mkF m 112 #[.val (.int p1), .val (.int (v_k p1)), .unset, .unset] [])) _
                        refine st26 _ ?_
                        show Steps p.tables e below (T26.setTop (mkF m 115 #[.val (.int p1), .val (.int (v_k p1)), .unset, .unset] [(.ref sw7)])) _
                        refine XS.astoreN X26.here hx rfl (hb hby at_115) rfl rfl (l' := #[.val (.int p1), .val (.int (v_k p1)), .val (.ref sw7), .unset]) rfl ?_
                        show Steps p.tables e below (T26.setTop (mkF m 116 #[.val (.int p1), .val (.int (v_k p1)), .val (.ref sw7), .unset] [])) _
                        refine XS.iconst X26.here hx rfl (hb hby at_116) ?_
                        show Steps p.tables e below (T26.setTop (mkF m 117 #[.val (.int p1), .val (.int (v_k p1)), .val (.ref sw7), .unset] [(.int (0 : Int32))])) _
                        refine XS.istoreN X26.here hx rfl (hb hby at_117) rfl (l' := #[.val (.int p1), .val (.int (v_k p1)), .val (.ref sw7), .val (.int (0 : Int32))]) rfl ?_
                        show Steps p.tables e below (T26.setTop (mkF m 118 #[.val (.int p1), .val (.int (v_k p1)), .val (.ref sw7), .val (.int (0 : Int32))] [])) _
                        refine XS.goto X26.here hx rfl (pc0 := 118) (pc' := 127) rfl (hb hby at_118) (by decide) (by decide) ?_
                        exact k)⟩
                  · skip
                    obtain ⟨T27, X27, e27, st27⟩ := getS2 X0 hx hZ hown (host := "") (Or.inl (hw _ (List.mem_of_getElem? (i := 22) rfl))) Via.refl e0 S_sw8 (g := (mkF m 121 #[.val (.int p1), .val (.int (v_k p1)), .unset, .unset] [])) rfl (hb hby at_121)
                    simp only [m_law_0, if_neg g4, if_neg g7, if_neg g10, if_neg g13, if_neg g16, if_neg g19, if_neg g22, if_neg g25]
                    simp only [m_law_1, if_neg g4, if_neg g7, if_neg g10, if_neg g13, if_neg g16, if_neg g19, if_neg g22, if_neg g25]
                    exact ⟨T27, _, X27, e27, N0, fun t k => pre24 t (by
                        show Steps p.tables e below (s₁.setTop (mkF m 109 #[.val (.int p1), .val (.int (v_k p1)), .unset, .unset] [(.int (7 : Int32)), (.int (v_k p1))])) _
                        refine XS.icmpYes X0.here hx rfl (pc0 := 109) (pc' := 121) rfl (hb hby at_109) rfl (feq g25).2 (by decide) (by decide) ?_
                        show Steps p.tables e below (s₁.setTop (mkF m 121 #[.val (.int p1), .val (.int (v_k p1)), .unset, .unset] [])) _
                        refine st27 _ ?_
                        show Steps p.tables e below (T27.setTop (mkF m 124 #[.val (.int p1), .val (.int (v_k p1)), .unset, .unset] [(.ref sw8)])) _
                        refine XS.astoreN X27.here hx rfl (hb hby at_124) rfl rfl (l' := #[.val (.int p1), .val (.int (v_k p1)), .val (.ref sw8), .unset]) rfl ?_
                        show Steps p.tables e below (T27.setTop (mkF m 125 #[.val (.int p1), .val (.int (v_k p1)), .val (.ref sw8), .unset] [])) _
                        refine XS.iconst X27.here hx rfl (hb hby at_125) ?_
                        show Steps p.tables e below (T27.setTop (mkF m 126 #[.val (.int p1), .val (.int (v_k p1)), .val (.ref sw8), .unset] [(.int (0 : Int32))])) _
                        refine XS.istoreN X27.here hx rfl (hb hby at_126) rfl (l' := #[.val (.int p1), .val (.int (v_k p1)), .val (.ref sw8), .val (.int (0 : Int32))]) rfl ?_
                        exact k)⟩
  obtain ⟨cq28, kq28, q28a, q28b, q28c⟩ := isOf hZ e2 (own_e E_sw0 E_sw1 E_sw2 E_sw3 E_sw4 E_sw5 E_sw6 E_sw7 E_sw8)
  obtain ⟨_, _, ⟨T28, L28, k28, n28⟩, -, X28, ⟨Lc28, hQ28, l28, y28, z28⟩, st28⟩ := X2.virtualBack hx (y := (⟨"com/example/tumbleweir/tumbleweir/value/SqlType", "isNumeric", "()Z"⟩ : MethodName)) (z := (⟨"com/example/tumbleweir/tumbleweir/value/SqlType", "isNumeric", "()Z"⟩ : MethodName)) hown (mvT hZ (hw _ (List.mem_of_getElem? (i := 4) rfl))) (mvT hZ (hw _ (List.mem_of_getElem? (i := 5) rfl))) (notFace_of_selects (args := #[]) (mvT hZ (hw _ (List.mem_of_getElem? (i := 7) rfl)))) (mvT hZ (hw _ (List.mem_of_getElem? (i := 7) rfl))) (mvT hZ (hw _ (List.mem_of_getElem? (i := 6) rfl))) (by decide) (backOf (W := 0) (rm_isNumeric l Z a0 hw [] sw0 sw1 sw2 sw3 sw4 sw5 sw6 sw7 sw8 (m_law_0 sw0 sw1 sw2 sw3 sw4 sw5 sw6 sw7 sw8 p1) h0 n0 Z0 S_sw0 S_sw1 S_sw2 S_sw3 S_sw4 S_sw5 S_sw6 S_sw7 S_sw8) hZ (hw _ (List.mem_of_getElem? (i := 8) rfl)) (hw _ (List.mem_of_getElem? (i := 2) rfl)) (by decide) (by decide)) q28a q28c (g := (mkF m 128 #[.val (.int p1), .val (.int (v_k p1)), .val (.ref (m_law_0 sw0 sw1 sw2 sw3 sw4 sw5 sw6 sw7 sw8 p1)), .val (.int (m_law_1 p1))] [(.ref (m_law_0 sw0 sw1 sw2 sw3 sw4 sw5 sw6 sw7 sw8 p1))])) rfl (by rw [hml]; rfl) (Steps.refl _) (argsL := []) (rest := []) (lenOf pd___Z_3 rfl) rfl (by show 2 * 0 + _ ≤ _; exact Nat.le_of_eq rfl) (hb hby at_128) (fun _ _ => ⟨rfl, e2, (by decide : 0 + 0 ≤ _), (by decide : 0 + 0 ≤ _)⟩)
  dsimp only [Pt.U, Pt.locs, Pt.cells, Pt.slots] at X28 l28 y28 z28 st28 hQ28
  subst l28 y28 z28
  obtain ⟨rfl, N28q, e28⟩ := hQ28
  have N28 := Fr.app N2 N28q
  obtain ⟨g29, hp⟩ := hp
  obtain ⟨fs, hr, hrun, hended, hW, hsame⟩ := X28.leave (v := some (.int (1 : Int32))) (fun h => by rw [Bd.returns] at h; cases h)
  refine ⟨_, _, pre2 _ ?_, hrun, hended, _, _, rfl, ?_, ⟨_, rfl⟩, hW, hsame.mono (by decide) (by decide)⟩
  · show Steps p.tables e below (T2.setTop (mkF m 127 #[.val (.int p1), .val (.int (v_k p1)), .val (.ref (m_law_0 sw0 sw1 sw2 sw3 sw4 sw5 sw6 sw7 sw8 p1)), .val (.int (m_law_1 p1))] [])) _
    refine XS.aloadN X2.here hx rfl (hb hby at_127) rfl rfl ?_
    show Steps p.tables e below (T2.setTop (mkF m 128 #[.val (.int p1), .val (.int (v_k p1)), .val (.ref (m_law_0 sw0 sw1 sw2 sw3 sw4 sw5 sw6 sw7 sw8 p1)), .val (.int (m_law_1 p1))] [(.ref (m_law_0 sw0 sw1 sw2 sw3 sw4 sw5 sw6 sw7 sw8 p1))])) _
    refine st28.trans ?_
    show Steps p.tables e below (T28.setTop (mkF m 131 #[.val (.int p1), .val (.int (v_k p1)), .val (.ref (m_law_0 sw0 sw1 sw2 sw3 sw4 sw5 sw6 sw7 sw8 p1)), .val (.int (m_law_1 p1))] [(.int (f_isNumeric sw0 sw1 sw2 sw3 sw4 sw5 sw6 sw7 sw8 (m_law_0 sw0 sw1 sw2 sw3 sw4 sw5 sw6 sw7 sw8 p1)))])) _
    refine XS.iloadN X28.here hx rfl (hb hby at_131) rfl ?_
    show Steps p.tables e below (T28.setTop (mkF m 132 #[.val (.int p1), .val (.int (v_k p1)), .val (.ref (m_law_0 sw0 sw1 sw2 sw3 sw4 sw5 sw6 sw7 sw8 p1)), .val (.int (m_law_1 p1))] [(.int (m_law_1 p1)), (.int (f_isNumeric sw0 sw1 sw2 sw3 sw4 sw5 sw6 sw7 sw8 (m_law_0 sw0 sw1 sw2 sw3 sw4 sw5 sw6 sw7 sw8 p1)))])) _
    refine XS.icmpNo X28.here hx rfl (hb hby at_132) rfl (teq g29).2 ?_
    show Steps p.tables e below (T28.setTop (mkF m 135 #[.val (.int p1), .val (.int (v_k p1)), .val (.ref (m_law_0 sw0 sw1 sw2 sw3 sw4 sw5 sw6 sw7 sw8 p1)), .val (.int (m_law_1 p1))] [])) _
    refine XS.iconst X28.here hx rfl (hb hby at_135) ?_
    show Steps p.tables e below (T28.setTop (mkF m 136 #[.val (.int p1), .val (.int (v_k p1)), .val (.ref (m_law_0 sw0 sw1 sw2 sw3 sw4 sw5 sw6 sw7 sw8 p1)), .val (.int (m_law_1 p1))] [(.int (1 : Int32))])) _
    refine XS.goto X28.here hx rfl (pc0 := 136) (pc' := 140) rfl (hb hby at_136) (by decide) (by decide) ?_
    show Steps p.tables e below (T28.setTop (mkF m 140 #[.val (.int p1), .val (.int (v_k p1)), .val (.ref (m_law_0 sw0 sw1 sw2 sw3 sw4 sw5 sw6 sw7 sw8 p1)), .val (.int (m_law_1 p1))] [(.int (1 : Int32))])) _
    exact retN X28 hx (t := .boolean) Bd.returns (by simp) (hb hby at_140) hr
  · exact ⟨rfl, N28⟩
theorem own_rem (p1 : Int32) : ((p1 &&& (2147483647 : Int32)) - ((p1 &&& (2147483647 : Int32)) / (9 : Int32)) * (9 : Int32)) = (0 : Int32) ∨ ((p1 &&& (2147483647 : Int32)) - ((p1 &&& (2147483647 : Int32)) / (9 : Int32)) * (9 : Int32)) = (1 : Int32) ∨ ((p1 &&& (2147483647 : Int32)) - ((p1 &&& (2147483647 : Int32)) / (9 : Int32)) * (9 : Int32)) = (2 : Int32) ∨ ((p1 &&& (2147483647 : Int32)) - ((p1 &&& (2147483647 : Int32)) / (9 : Int32)) * (9 : Int32)) = (3 : Int32) ∨ ((p1 &&& (2147483647 : Int32)) - ((p1 &&& (2147483647 : Int32)) / (9 : Int32)) * (9 : Int32)) = (4 : Int32) ∨ ((p1 &&& (2147483647 : Int32)) - ((p1 &&& (2147483647 : Int32)) / (9 : Int32)) * (9 : Int32)) = (5 : Int32) ∨ ((p1 &&& (2147483647 : Int32)) - ((p1 &&& (2147483647 : Int32)) / (9 : Int32)) * (9 : Int32)) = (6 : Int32) ∨ ((p1 &&& (2147483647 : Int32)) - ((p1 &&& (2147483647 : Int32)) / (9 : Int32)) * (9 : Int32)) = (7 : Int32) ∨ ((p1 &&& (2147483647 : Int32)) - ((p1 &&& (2147483647 : Int32)) / (9 : Int32)) * (9 : Int32)) = (8 : Int32) := by
  have h : (p1 &&& (2147483647 : Int32)).toInt = p1.toInt % 2147483648 := c_mask p1 2147483647 31 (by decide) (by decide)
  have h2 : ((p1 &&& (2147483647 : Int32)) - ((p1 &&& (2147483647 : Int32)) / (9 : Int32)) * (9 : Int32)).toInt = (p1.toInt % 2147483648) % 9 := by
    rw [irem_eq_mod, (c_irem _ (9 : Int32) 9 (by decide)).1 (by rw [h]; omega), h]
  obtain ⟨q, hq⟩ : ∃ q, q = (p1.toInt % 2147483648) % 9 := ⟨_, rfl⟩
  have h4 : q = 0 ∨ q = 1 ∨ q = 2 ∨ q = 3 ∨ q = 4 ∨ q = 5 ∨ q = 6 ∨ q = 7 ∨ q = 8 := by omega
  rw [← hq] at h2
  rcases h4 with rfl | rfl | rfl | rfl | rfl | rfl | rfl | rfl | rfl
  · exact (Or.inl (Int32.toInt_inj.mp (by rw [h2]; rfl)))
  · exact (Or.inr (Or.inl (Int32.toInt_inj.mp (by rw [h2]; rfl))))
  · exact (Or.inr (Or.inr (Or.inl (Int32.toInt_inj.mp (by rw [h2]; rfl)))))
  · exact (Or.inr (Or.inr (Or.inr (Or.inl (Int32.toInt_inj.mp (by rw [h2]; rfl))))))
  · exact (Or.inr (Or.inr (Or.inr (Or.inr (Or.inl (Int32.toInt_inj.mp (by rw [h2]; rfl)))))))
  · exact (Or.inr (Or.inr (Or.inr (Or.inr (Or.inr (Or.inl (Int32.toInt_inj.mp (by rw [h2]; rfl))))))))
  · exact (Or.inr (Or.inr (Or.inr (Or.inr (Or.inr (Or.inr (Or.inl (Int32.toInt_inj.mp (by rw [h2]; rfl)))))))))
  · exact (Or.inr (Or.inr (Or.inr (Or.inr (Or.inr (Or.inr (Or.inr (Or.inl (Int32.toInt_inj.mp (by rw [h2]; rfl))))))))))
  · exact (Or.inr (Or.inr (Or.inr (Or.inr (Or.inr (Or.inr (Or.inr (Or.inr (Int32.toInt_inj.mp (by rw [h2]; rfl))))))))))

theorem own_plain {sw0 sw1 sw2 sw3 sw4 sw5 sw6 sw7 sw8 : Addr} {p1 : Int32} (n02 : ¬ (sw0 = sw2)) (n03 : ¬ (sw0 = sw3)) (n04 : ¬ (sw0 = sw4)) (n12 : ¬ (sw1 = sw2)) (n13 : ¬ (sw1 = sw3)) (n14 : ¬ (sw1 = sw4)) (n52 : ¬ (sw5 = sw2)) (n53 : ¬ (sw5 = sw3)) (n54 : ¬ (sw5 = sw4)) (n62 : ¬ (sw6 = sw2)) (n63 : ¬ (sw6 = sw3)) (n64 : ¬ (sw6 = sw4)) (n72 : ¬ (sw7 = sw2)) (n73 : ¬ (sw7 = sw3)) (n74 : ¬ (sw7 = sw4)) (n82 : ¬ (sw8 = sw2)) (n83 : ¬ (sw8 = sw3)) (n84 : ¬ (sw8 = sw4)) : lawP sw0 sw1 sw2 sw3 sw4 sw5 sw6 sw7 sw8 p1 := by
  refine ⟨?_, trivial⟩
  have hk : v_k p1 = (0 : Int32) ∨ v_k p1 = (1 : Int32) ∨ v_k p1 = (2 : Int32) ∨ v_k p1 = (3 : Int32) ∨ v_k p1 = (4 : Int32) ∨ v_k p1 = (5 : Int32) ∨ v_k p1 = (6 : Int32) ∨ v_k p1 = (7 : Int32) ∨ v_k p1 = (8 : Int32) := own_rem p1
  unfold m_law_0 m_law_1
  rcases hk with h | h | h | h | h | h | h | h | h <;> rw [h] <;> simp [f_isNumeric, n02, n03, n04, n12, n13, n14, n52, n53, n54, n62, n63, n64, n72, n73, n74, n82, n83, n84]
set_option maxRecDepth 65536 in
set_option maxHeartbeats 40000000 in
theorem comes_1 {Post : Tables → Env → Array Value → State → Outcome → State → Prop} (hpost : ∀ tb e args s v u, (limb_1_1.after args s (.returned v) u = true ∧ limb_1_2.after args s (.returned v) u = true ∧ True) → FrameEnd s (.returned v) u (Jvm.fieldLocs frame_1_writes args s ++ Jvm.arrayLocs frame_1_arrays args s ++ Jvm.staticLocs frame_1_statics s) 0 0 → Post tb e args s (.returned v) u) :
    ArmFor flags0 classFile x code maxLocals ret World_1 tables_1 room_1 Calls_1 rest_1 Pre_1 Post := by
  intro l hfl _ _ p e ha hc hk s m args below hf hA hF happ hP
  obtain ⟨hcalls, hrest, hpre⟩ := hP
  obtain ⟨-, -, -, hnamed, -, -, -, hat⟩ := (Spec.applies_iff hf).mp happ
  obtain ⟨hg, hn⟩ := and_e (Cond.before_iff.mp (show (Jvm.Cond.and given_1 narrow_1).before args s = true from hpre))
  obtain ⟨gv0, gr0⟩ := and_e hg
  obtain ⟨w0, rfl⟩ : ∃ w0 : Value, args = #[w0] := by
    have hs : args.size = 1 := by simpa [Cond.value, given_1] using gv0
    obtain ⟨L⟩ := args
    match L, hs with
    | [w0], _ => exact ⟨w0, rfl⟩
  have hw := fun d (hd : d ∈ tables_1) => atoms_spec (ws := Jvm.Cond.code x code maxLocals ret :: tables_1) hat d (List.mem_cons_of_mem _ hd)
  obtain ⟨i0, ei0⟩ := is_v gr0
  obtain rfl : w0 = (.int i0) := Option.some.inj ei0
  obtain ⟨nv0, nr0⟩ := and_e hn
  obtain ⟨nv1, nr1⟩ := and_e nr0
  obtain ⟨nv2, nr2⟩ := and_e nr1
  obtain ⟨nv3, nr3⟩ := and_e nr2
  obtain ⟨nv4, nr4⟩ := and_e nr3
  obtain ⟨nv5, nr5⟩ := and_e nr4
  obtain ⟨nv6, nr6⟩ := and_e nr5
  obtain ⟨nv7, nr7⟩ := and_e nr6
  obtain ⟨nv8, nr8⟩ := and_e nr7
  obtain ⟨nv9, nr9⟩ := and_e nr8
  obtain ⟨nv10, nr10⟩ := and_e nr9
  obtain ⟨nv11, nr11⟩ := and_e nr10
  obtain ⟨nv12, nr12⟩ := and_e nr11
  obtain ⟨nv13, nr13⟩ := and_e nr12
  obtain ⟨nv14, nr14⟩ := and_e nr13
  obtain ⟨nv15, nr15⟩ := and_e nr14
  obtain ⟨nv16, nr16⟩ := and_e nr15
  obtain ⟨sw0, ev_sw0⟩ := exa_v nv0
  have S_sw0 : Sta s s.heap "com/example/tumbleweir/tumbleweir/value/SqlType" "NULL" "Lcom/example/tumbleweir/tumbleweir/value/SqlType;" (.ref sw0) := Sta.start ev_sw0 (Or.inr ⟨(hw _ (List.mem_of_getElem? (i := 2) rfl)), (hw _ (List.mem_of_getElem? (i := 3) rfl))⟩)
  have E_sw0 : Exa s s.heap sw0 "com/example/tumbleweir/tumbleweir/value/SqlType" := Exa.start ev_sw0 nv0
  obtain ⟨sw2, ev_sw2⟩ := exa_v nv1
  have S_sw2 : Sta s s.heap "com/example/tumbleweir/tumbleweir/value/SqlType" "INTEGER" "Lcom/example/tumbleweir/tumbleweir/value/SqlType;" (.ref sw2) := Sta.start ev_sw2 (Or.inr ⟨(hw _ (List.mem_of_getElem? (i := 2) rfl)), (hw _ (List.mem_of_getElem? (i := 10) rfl))⟩)
  have E_sw2 : Exa s s.heap sw2 "com/example/tumbleweir/tumbleweir/value/SqlType" := Exa.start ev_sw2 nv1
  obtain ⟨sw3, ev_sw3⟩ := exa_v nv4
  have S_sw3 : Sta s s.heap "com/example/tumbleweir/tumbleweir/value/SqlType" "BIGINT" "Lcom/example/tumbleweir/tumbleweir/value/SqlType;" (.ref sw3) := Sta.start ev_sw3 (Or.inr ⟨(hw _ (List.mem_of_getElem? (i := 2) rfl)), (hw _ (List.mem_of_getElem? (i := 12) rfl))⟩)
  have E_sw3 : Exa s s.heap sw3 "com/example/tumbleweir/tumbleweir/value/SqlType" := Exa.start ev_sw3 nv4
  obtain ⟨sw4, ev_sw4⟩ := exa_v nv6
  have S_sw4 : Sta s s.heap "com/example/tumbleweir/tumbleweir/value/SqlType" "DOUBLE" "Lcom/example/tumbleweir/tumbleweir/value/SqlType;" (.ref sw4) := Sta.start ev_sw4 (Or.inr ⟨(hw _ (List.mem_of_getElem? (i := 2) rfl)), (hw _ (List.mem_of_getElem? (i := 14) rfl))⟩)
  have E_sw4 : Exa s s.heap sw4 "com/example/tumbleweir/tumbleweir/value/SqlType" := Exa.start ev_sw4 nv6
  obtain ⟨sw1, ev_sw1⟩ := exa_v nv8
  have S_sw1 : Sta s s.heap "com/example/tumbleweir/tumbleweir/value/SqlType" "BOOLEAN" "Lcom/example/tumbleweir/tumbleweir/value/SqlType;" (.ref sw1) := Sta.start ev_sw1 (Or.inr ⟨(hw _ (List.mem_of_getElem? (i := 2) rfl)), (hw _ (List.mem_of_getElem? (i := 18) rfl))⟩)
  have E_sw1 : Exa s s.heap sw1 "com/example/tumbleweir/tumbleweir/value/SqlType" := Exa.start ev_sw1 nv8
  obtain ⟨sw7, ev_sw7⟩ := exa_v nv10
  have S_sw7 : Sta s s.heap "com/example/tumbleweir/tumbleweir/value/SqlType" "INTERVAL" "Lcom/example/tumbleweir/tumbleweir/value/SqlType;" (.ref sw7) := Sta.start ev_sw7 (Or.inr ⟨(hw _ (List.mem_of_getElem? (i := 2) rfl)), (hw _ (List.mem_of_getElem? (i := 20) rfl))⟩)
  have E_sw7 : Exa s s.heap sw7 "com/example/tumbleweir/tumbleweir/value/SqlType" := Exa.start ev_sw7 nv10
  obtain ⟨sw8, ev_sw8⟩ := exa_v nv12
  have S_sw8 : Sta s s.heap "com/example/tumbleweir/tumbleweir/value/SqlType" "INTERVAL_YEAR_TO_MONTH" "Lcom/example/tumbleweir/tumbleweir/value/SqlType;" (.ref sw8) := Sta.start ev_sw8 (Or.inr ⟨(hw _ (List.mem_of_getElem? (i := 2) rfl)), (hw _ (List.mem_of_getElem? (i := 23) rfl))⟩)
  have E_sw8 : Exa s s.heap sw8 "com/example/tumbleweir/tumbleweir/value/SqlType" := Exa.start ev_sw8 nv12
  obtain ⟨sw6, ev_sw6⟩ := exa_v nv14
  have S_sw6 : Sta s s.heap "com/example/tumbleweir/tumbleweir/value/SqlType" "TIMESTAMP" "Lcom/example/tumbleweir/tumbleweir/value/SqlType;" (.ref sw6) := Sta.start ev_sw6 (Or.inr ⟨(hw _ (List.mem_of_getElem? (i := 2) rfl)), (hw _ (List.mem_of_getElem? (i := 25) rfl))⟩)
  have E_sw6 : Exa s s.heap sw6 "com/example/tumbleweir/tumbleweir/value/SqlType" := Exa.start ev_sw6 nv14
  obtain ⟨sw5, ev_sw5⟩ := exa_v nv16
  have S_sw5 : Sta s s.heap "com/example/tumbleweir/tumbleweir/value/SqlType" "VARCHAR" "Lcom/example/tumbleweir/tumbleweir/value/SqlType;" (.ref sw5) := Sta.start ev_sw5 (Or.inr ⟨(hw _ (List.mem_of_getElem? (i := 2) rfl)), (hw _ (List.mem_of_getElem? (i := 27) rfl))⟩)
  have E_sw5 : Exa s s.heap sw5 "com/example/tumbleweir/tumbleweir/value/SqlType" := Exa.start ev_sw5 nv16
  have F_ordinal_sw0 : Fld s s.heap sw0 "java/lang/Enum" "ordinal" "I" (.int (0 : Int32)) := own_fld ev_sw0 nv2 (Term.int_eval (0))
  have F_ordinal_sw2 : Fld s s.heap sw2 "java/lang/Enum" "ordinal" "I" (.int (2 : Int32)) := own_fld ev_sw2 nv3 (Term.int_eval (2))
  have F_ordinal_sw3 : Fld s s.heap sw3 "java/lang/Enum" "ordinal" "I" (.int (3 : Int32)) := own_fld ev_sw3 nv5 (Term.int_eval (3))
  have F_ordinal_sw4 : Fld s s.heap sw4 "java/lang/Enum" "ordinal" "I" (.int (4 : Int32)) := own_fld ev_sw4 nv7 (Term.int_eval (4))
  have F_ordinal_sw1 : Fld s s.heap sw1 "java/lang/Enum" "ordinal" "I" (.int (1 : Int32)) := own_fld ev_sw1 nv9 (Term.int_eval (1))
  have F_ordinal_sw7 : Fld s s.heap sw7 "java/lang/Enum" "ordinal" "I" (.int (7 : Int32)) := own_fld ev_sw7 nv11 (Term.int_eval (7))
  have F_ordinal_sw8 : Fld s s.heap sw8 "java/lang/Enum" "ordinal" "I" (.int (8 : Int32)) := own_fld ev_sw8 nv13 (Term.int_eval (8))
  have F_ordinal_sw6 : Fld s s.heap sw6 "java/lang/Enum" "ordinal" "I" (.int (6 : Int32)) := own_fld ev_sw6 nv15 (Term.int_eval (6))
  have F_ordinal_sw5 : Fld s s.heap sw5 "java/lang/Enum" "ordinal" "I" (.int (5 : Int32)) := own_fld ev_sw5 nr16 (Term.int_eval (5))
  obtain ⟨n, o, h1, h2, h3, _, L, rfl, ⟨rfl, N⟩, hq⟩ := rm_law l s _ hw tables_1 sw0 sw1 sw2 sw3 sw4 sw5 sw6 sw7 sw8 i0 s.heap s.heap.size (Nat.le_refl _) S_sw0 S_sw1 S_sw2 S_sw3 S_sw4 S_sw5 S_sw6 S_sw7 S_sw8 E_sw0 E_sw1 E_sw2 E_sw3 E_sw4 E_sw5 E_sw6 E_sw7 E_sw8 (own_plain (Fld.ne F_ordinal_sw0 F_ordinal_sw2 (by simp)) (Fld.ne F_ordinal_sw0 F_ordinal_sw3 (by simp)) (Fld.ne F_ordinal_sw0 F_ordinal_sw4 (by simp)) (Fld.ne F_ordinal_sw1 F_ordinal_sw2 (by simp)) (Fld.ne F_ordinal_sw1 F_ordinal_sw3 (by simp)) (Fld.ne F_ordinal_sw1 F_ordinal_sw4 (by simp)) (Fld.ne F_ordinal_sw5 F_ordinal_sw2 (by simp)) (Fld.ne F_ordinal_sw5 F_ordinal_sw3 (by simp)) (Fld.ne F_ordinal_sw5 F_ordinal_sw4 (by simp)) (Fld.ne F_ordinal_sw6 F_ordinal_sw2 (by simp)) (Fld.ne F_ordinal_sw6 F_ordinal_sw3 (by simp)) (Fld.ne F_ordinal_sw6 F_ordinal_sw4 (by simp)) (Fld.ne F_ordinal_sw7 F_ordinal_sw2 (by simp)) (Fld.ne F_ordinal_sw7 F_ordinal_sw3 (by simp)) (Fld.ne F_ordinal_sw7 F_ordinal_sw4 (by simp)) (Fld.ne F_ordinal_sw8 F_ordinal_sw2 (by simp)) (Fld.ne F_ordinal_sw8 F_ordinal_sw3 (by simp)) (Fld.ne F_ordinal_sw8 F_ordinal_sw4 (by simp))) p e ha hc hk s m _ below hf ((Spec.applies_iff_loose hf).mp happ).1 ⟨rfl, State.Warmed39.refl s, rfl⟩ trivial
  exact ⟨n, _, h1, h2, h3, hpost _ _ _ _ _ _ ⟨Cond.after_iff.mpr rfl, Cond.after_iff.mpr (eq_i res_at (Term.int_eval (1)) rfl), trivial⟩ ⟨hq.1, hq.2.1, (hq.2.2.sift fun y hy => Or.inr (N y hy)).mono (by decide) (by decide)⟩⟩
theorem main_1_1 : Claimed_1_1 := comes_1 fun _ _ _ _ _ _ h hF => ⟨h.1, hF⟩
theorem main_1_2 : Claimed_1_2 := comes_1 fun _ _ _ _ _ _ h hF => ⟨h.2.1, hF⟩

end Jvm.Pilot.@@N@@
namespace Jvm.Pilot.@@N@@
open Jvm Jvm.ClassFile Sem Op Lib Jvm.Free Jvm.Stand Jvm.Pilot.@@N@@.Jvm.D
/-! MADE BY PROGRAM (witnessworld.py) out of the Statement's table words and the real class files: 12 classes; the members and pool entries that the words name. The judged class is class 1, her method 1. -/
namespace start1
open Jvm.ClassFile
def u (s : String) : CpInfo := .utf8 (stringToUtf16 s)
/-- a pool by its gaps: so many unusable entries, then the entry; so many at the end -/
def gap : Nat → List CpInfo → List CpInfo
  | 0, r => r
  | n + 1, r => .unusable :: gap n r
def poolList (es : List (Nat × CpInfo)) (last : Nat) : List CpInfo := es.foldr (fun e r => gap e.1 (e.2 :: r)) (gap last [])
def pool (es : List (Nat × CpInfo)) (last : Nat) : Array CpInfo := ⟨poolList es last⟩
def fileOf (pool : Array CpInfo) (this : Nat) (attrs : Array Attribute := #[]) (ms : Array MethodInfo := #[]) (fl : Nat := 33) (sup : Nat := 0) (ifs : Array Nat := #[]) (fds : Array FieldInfo := #[]) : ClassFile where
  minorVersion := 0
  majorVersion := 65
  constantPool := pool
  accessFlags := fl
  thisClass := this
  superClass := sup
  interfaces := ifs
  fields := fds
  methods := ms
  attributes := attrs
def plain (name : String) (sup : Option ClassId) : Class where
  name := name
  kind := .ordinary
  loader := none
  accessFlags := 33
  super := sup
  interfaces := #[]
  cf := none
  fields := #[]
  methods := #[]
  instanceTypes := #[]
  staticTypes := #[]
  resolved := #[]
  callSites := []
  init := .initialized
  statics := none
  mirror := none

def pool0 : Array CpInfo := pool [(5, u "<init>"), (0, u "()V"), (1, .class_ 10), (1, u "java/lang/Object")] 113

def k0m0 : Method := { name := "<init>", desc := "()V", sig := { parameters := [], returnType := none }, accessFlags := 1, code := none }
/-- java/lang/Object -/
def k0 : Class := { plain "java/lang/Object" none with
  accessFlags := 33
  interfaces := #[]
  cf := some (fileOf pool0 8 #[] #[{ accessFlags := 1, nameIndex := 5, descriptorIndex := 6, attributes := #[] }] 33 0 #[] #[])
  fields := #[]
  methods := #[k0m0]
  instanceTypes := #[]
  staticTypes := #[]
  resolved := Array.replicate 124 none
  statics := none }

def pool1 : Array CpInfo := pool [(2, .class_ 4), (1, u "java/lang/Object"), (0, u "<init>"), (0, u "()V"), (0, .integer 2147483647), (0, .fieldref 9 10), (0, .class_ 11), (0, .nameAndType 12 13), (0, u "com/example/tumbleweir/tumbleweir/value/SqlType"), (0, u "NULL"), (0, u "Lcom/example/tumbleweir/tumbleweir/value/SqlType;"), (0, .fieldref 9 15), (0, .nameAndType 16 13), (0, u "BOOLEAN"), (0, .fieldref 9 18), (0, .nameAndType 19 13), (0, u "INTEGER"), (0, .fieldref 9 21), (0, .nameAndType 22 13), (0, u "BIGINT"), (0, .fieldref 9 24), (0, .nameAndType 25 13), (0, u "DOUBLE"), (0, .fieldref 9 27), (0, .nameAndType 28 13), (0, u "VARCHAR"), (0, .fieldref 9 30), (0, .nameAndType 31 13), (0, u "TIMESTAMP"), (0, .fieldref 9 33), (0, .nameAndType 34 13), (0, u "INTERVAL"), (0, .fieldref 9 36), (0, .nameAndType 37 13), (0, u "INTERVAL_YEAR_TO_MONTH"), (0, .methodref 9 39), (0, .nameAndType 40 41), (0, u "isNumeric"), (0, u "()Z"), (0, .class_ 43), (0, u "com/example/tumbleweir/tumbleweir/value/SqlTypeIsNumericPinLaw"), (2, u "law"), (0, u "(I)Z")] 3

def k1m0 : Method := { name := "<init>", desc := "()V", sig := { parameters := [], returnType := none }, accessFlags := 1, code := none }
def k1c1 : Code := { maxStack := 2, maxLocals := 4, code := code, exceptionTable := #[], attributes := #[] }
def k1m1 : Method := { name := "law", desc := "(I)Z", sig := { parameters := [.int], returnType := some .boolean }, accessFlags := 9, code := some k1c1 }
/-- com/example/tumbleweir/tumbleweir/value/SqlTypeIsNumericPinLaw -/
def k1 : Class := { plain "com/example/tumbleweir/tumbleweir/value/SqlTypeIsNumericPinLaw" (some 0) with
  accessFlags := 49
  interfaces := #[]
  cf := some (fileOf pool1 42 #[] #[{ accessFlags := 1, nameIndex := 5, descriptorIndex := 6, attributes := #[] }, { accessFlags := 9, nameIndex := 46, descriptorIndex := 47, attributes := #[] }] 49 2 #[] #[])
  fields := #[]
  methods := #[k1m0, k1m1]
  instanceTypes := #[]
  staticTypes := #[]
  resolved := Array.replicate 51 none
  statics := none }

def pool2 : Array CpInfo := pool [(1, .class_ 2), (0, u "java/lang/constant/Constable"), (0, .class_ 4), (0, u "java/lang/Object")] 6

/-- java/lang/constant/Constable -/
def k2 : Class := { plain "java/lang/constant/Constable" (some 0) with
  accessFlags := 1537
  interfaces := #[]
  cf := some (fileOf pool2 1 #[] #[] 1537 3 #[] #[])
  fields := #[]
  methods := #[]
  instanceTypes := #[]
  staticTypes := #[]
  resolved := Array.replicate 11 none
  statics := none }

def pool3 : Array CpInfo := pool [(1, .class_ 2), (0, u "java/lang/Comparable"), (0, .class_ 4), (0, u "java/lang/Object")] 7

/-- java/lang/Comparable -/
def k3 : Class := { plain "java/lang/Comparable" (some 0) with
  accessFlags := 1537
  interfaces := #[]
  cf := some (fileOf pool3 1 #[] #[] 1537 3 #[] #[])
  fields := #[]
  methods := #[]
  instanceTypes := #[]
  staticTypes := #[]
  resolved := Array.replicate 12 none
  statics := none }

def pool4 : Array CpInfo := pool [(1, .class_ 2), (0, u "java/io/Serializable"), (0, .class_ 4), (0, u "java/lang/Object")] 2

/-- java/io/Serializable -/
def k4 : Class := { plain "java/io/Serializable" (some 0) with
  accessFlags := 1537
  interfaces := #[]
  cf := some (fileOf pool4 1 #[] #[] 1537 3 #[] #[])
  fields := #[]
  methods := #[]
  instanceTypes := #[]
  staticTypes := #[]
  resolved := Array.replicate 7 none
  statics := none }

def pool5 : Array CpInfo := pool [(2, .class_ 4), (1, u "java/lang/Enum"), (0, u "name"), (0, u "Ljava/lang/String;"), (2, u "ordinal"), (0, u "I"), (1, .class_ 14), (1, u "java/lang/Object"), (4, u "hash"), (86, .class_ 108), (1, u "java/lang/Enum$EnumDesc"), (2, .class_ 112), (0, u "java/lang/constant/Constable"), (0, .class_ 114), (0, u "java/lang/Comparable"), (0, .class_ 116), (0, u "java/io/Serializable")] 87

/-- java/lang/Enum -/
def k5 : Class := { plain "java/lang/Enum" (some 0) with
  accessFlags := 1057
  interfaces := #[2, 3, 4]
  cf := some (fileOf pool5 2 #[.nestMembers #[106]] #[] 1057 12 #[111, 113, 115] #[{ accessFlags := 18, nameIndex := 5, descriptorIndex := 6, attributes := #[] }, { accessFlags := 18, nameIndex := 9, descriptorIndex := 10, attributes := #[] }, { accessFlags := 2, nameIndex := 19, descriptorIndex := 10, attributes := #[] }])
  fields := #[{ name := "name", type := (.object "java/lang/String"), accessFlags := 18, slot := 0, constantValue := 0 }, { name := "ordinal", type := .int, accessFlags := 18, slot := 1, constantValue := 0 }, { name := "hash", type := .int, accessFlags := 2, slot := 2, constantValue := 0 }]
  methods := #[]
  instanceTypes := #[(.object "java/lang/String"), .int, .int]
  staticTypes := #[]
  resolved := Array.replicate 204 none
  statics := none }

def pool6 : Array CpInfo := pool [(1, .class_ 2), (0, u "com/example/tumbleweir/tumbleweir/value/SqlType"), (2, u "NULL"), (0, u "Lcom/example/tumbleweir/tumbleweir/value/SqlType;"), (2, u "BOOLEAN"), (0, .fieldref 1 11), (0, .nameAndType 12 6), (0, u "INTEGER"), (0, .fieldref 1 14), (0, .nameAndType 15 6), (0, u "BIGINT"), (0, .fieldref 1 17), (0, .nameAndType 18 6), (0, u "DOUBLE"), (2, u "VARCHAR"), (2, u "TIMESTAMP"), (2, u "INTERVAL"), (2, u "INTERVAL_YEAR_TO_MONTH"), (2, u "$VALUES"), (0, u "[Lcom/example/tumbleweir/tumbleweir/value/SqlType;"), (6, .class_ 43), (1, u "java/lang/Enum"), (37, u "isNumeric"), (0, u "()Z")] 7

def k6c0 : Code := { maxStack := 2, maxLocals := 1, code := prog_192_method_4_code, exceptionTable := #[], attributes := #[] }
def k6m0 : Method := { name := "isNumeric", desc := "()Z", sig := { parameters := [], returnType := some .boolean }, accessFlags := 1, code := some k6c0 }
/-- com/example/tumbleweir/tumbleweir/value/SqlType -/
def k6 : Class := { plain "com/example/tumbleweir/tumbleweir/value/SqlType" (some 5) with
  accessFlags := 16433
  interfaces := #[]
  cf := some (fileOf pool6 1 #[] #[{ accessFlags := 1, nameIndex := 81, descriptorIndex := 82, attributes := #[] }] 16433 41 #[] #[{ accessFlags := 16409, nameIndex := 5, descriptorIndex := 6, attributes := #[] }, { accessFlags := 16409, nameIndex := 9, descriptorIndex := 6, attributes := #[] }, { accessFlags := 16409, nameIndex := 12, descriptorIndex := 6, attributes := #[] }, { accessFlags := 16409, nameIndex := 15, descriptorIndex := 6, attributes := #[] }, { accessFlags := 16409, nameIndex := 18, descriptorIndex := 6, attributes := #[] }, { accessFlags := 16409, nameIndex := 21, descriptorIndex := 6, attributes := #[] }, { accessFlags := 16409, nameIndex := 24, descriptorIndex := 6, attributes := #[] }, { accessFlags := 16409, nameIndex := 27, descriptorIndex := 6, attributes := #[] }, { accessFlags := 16409, nameIndex := 30, descriptorIndex := 6, attributes := #[] }, { accessFlags := 4122, nameIndex := 33, descriptorIndex := 34, attributes := #[] }])
  fields := #[{ name := "NULL", type := (.object "com/example/tumbleweir/tumbleweir/value/SqlType"), accessFlags := 16409, slot := 0, constantValue := 0 }, { name := "BOOLEAN", type := (.object "com/example/tumbleweir/tumbleweir/value/SqlType"), accessFlags := 16409, slot := 1, constantValue := 0 }, { name := "INTEGER", type := (.object "com/example/tumbleweir/tumbleweir/value/SqlType"), accessFlags := 16409, slot := 2, constantValue := 0 }, { name := "BIGINT", type := (.object "com/example/tumbleweir/tumbleweir/value/SqlType"), accessFlags := 16409, slot := 3, constantValue := 0 }, { name := "DOUBLE", type := (.object "com/example/tumbleweir/tumbleweir/value/SqlType"), accessFlags := 16409, slot := 4, constantValue := 0 }, { name := "VARCHAR", type := (.object "com/example/tumbleweir/tumbleweir/value/SqlType"), accessFlags := 16409, slot := 5, constantValue := 0 }, { name := "TIMESTAMP", type := (.object "com/example/tumbleweir/tumbleweir/value/SqlType"), accessFlags := 16409, slot := 6, constantValue := 0 }, { name := "INTERVAL", type := (.object "com/example/tumbleweir/tumbleweir/value/SqlType"), accessFlags := 16409, slot := 7, constantValue := 0 }, { name := "INTERVAL_YEAR_TO_MONTH", type := (.object "com/example/tumbleweir/tumbleweir/value/SqlType"), accessFlags := 16409, slot := 8, constantValue := 0 }, { name := "$VALUES", type := (.array (.object "com/example/tumbleweir/tumbleweir/value/SqlType")), accessFlags := 4122, slot := 9, constantValue := 0 }]
  methods := #[k6m0]
  instanceTypes := #[(.object "java/lang/String"), .int, .int]
  staticTypes := #[(.object "com/example/tumbleweir/tumbleweir/value/SqlType"), (.object "com/example/tumbleweir/tumbleweir/value/SqlType"), (.object "com/example/tumbleweir/tumbleweir/value/SqlType"), (.object "com/example/tumbleweir/tumbleweir/value/SqlType"), (.object "com/example/tumbleweir/tumbleweir/value/SqlType"), (.object "com/example/tumbleweir/tumbleweir/value/SqlType"), (.object "com/example/tumbleweir/tumbleweir/value/SqlType"), (.object "com/example/tumbleweir/tumbleweir/value/SqlType"), (.object "com/example/tumbleweir/tumbleweir/value/SqlType"), (.array (.object "com/example/tumbleweir/tumbleweir/value/SqlType"))]
  resolved := Array.replicate 90 none
  statics := some 0 }

def pool7 : Array CpInfo := pool [(1, u "java/lang/Cloneable"), (0, .class_ 1), (0, u "java/lang/Object"), (0, .class_ 3)] 3

/-- java/lang/Cloneable -/
def k7 : Class := { plain "java/lang/Cloneable" (some 0) with
  accessFlags := 1537
  interfaces := #[]
  cf := some (fileOf pool7 2 #[] #[] 1537 4 #[] #[])
  fields := #[]
  methods := #[]
  instanceTypes := #[]
  staticTypes := #[]
  resolved := Array.replicate 8 none
  statics := none }

/-- the primitive byte -/
def k8 : Class := { plain "byte" none with kind := .primitive 'B', accessFlags := 0x411 }
/-- [B -/
def k9 : Class := { plain "[B" (some 0) with kind := .array 8 .byte, interfaces := #[7, 4], accessFlags := 1041 }

/-- the primitive int -/
def k10 : Class := { plain "int" none with kind := .primitive 'I', accessFlags := 0x411 }
/-- [I -/
def k11 : Class := { plain "[I" (some 0) with kind := .array 10 .int, interfaces := #[7, 4], accessFlags := 1041 }

def heap : Heap := #[{ cls := 6, slots := #[.ref 1, .ref 2, .ref 3, .ref 4, .ref 5, .ref 6, .ref 7, .ref 8, .ref 9, .null], vm := .statics 6 },
  { cls := 6, slots := #[.null, .int 0, .int 0], vm := .none },
  { cls := 6, slots := #[.null, .int 1, .int 0], vm := .none },
  { cls := 6, slots := #[.null, .int 2, .int 0], vm := .none },
  { cls := 6, slots := #[.null, .int 3, .int 0], vm := .none },
  { cls := 6, slots := #[.null, .int 4, .int 0], vm := .none },
  { cls := 6, slots := #[.null, .int 5, .int 0], vm := .none },
  { cls := 6, slots := #[.null, .int 6, .int 0], vm := .none },
  { cls := 6, slots := #[.null, .int 7, .int 0], vm := .none },
  { cls := 6, slots := #[.null, .int 8, .int 0], vm := .none }]
def classes : Array Class := #[k0, k1, k2, k3, k4, k5, k6, k7, k8, k9, k10, k11]
def interned : List (Array UInt16 × Addr) := []
def slotsUsed : Nat := 37
def theMethod : MethodId := ⟨1, 1⟩
def args0 : Array Value := #[.int 5]
def aboutOver (below : List Frame) : State where
  vm := { classes := classes, interned := interned.toArray }
  heap := heap
  slotsUsed := slotsUsed
  threads := #[{ frames := .invoking theMethod args0 :: below }]
def below0 : List Frame := [.native { method := ⟨0, 0⟩, args := #[] }]
def about1 : State := aboutOver below0
def p0 : Program := .bare "" "" ""
def e0 : Env := launch0.env 0 0 0
theorem w_frames : about1.frames = Frame.invoking theMethod args0 :: below0 := rfl
set_option maxRecDepth 65536 in
theorem w_args : argsFit about1.vm theMethod args0 = true := by decide +kernel
set_option maxRecDepth 65536 in
theorem w_heap : heapFits about1 = true := by decide +kernel
set_option maxRecDepth 65536 in
theorem w_runnable : about1.curStatus? = some .runnable := by decide +kernel
set_option maxRecDepth 65536 in
theorem w_alone : about1.alone = true := by decide +kernel
set_option maxRecDepth 65536 in
theorem w_named : about1.methodNamed? x = some theMethod := by decide +kernel
set_option maxRecDepth 65536 in
theorem w_hears : about1.hears theMethod below0 = true := by decide +kernel
set_option maxRecDepth 65536 in
theorem w_ripe : about1.ripe theMethod args0 below0 = true := by decide +kernel
theorem w_running : about1.status = .running := rfl
set_option maxRecDepth 65536 in
theorem w_room : about1.hasRoom e0.platform room_1 = true :=
  launch0.hasRoom_least _ room_1 (by decide +kernel) (by decide +kernel) (by decide +kernel) (by decide +kernel) (by decide +kernel) (by decide +kernel)
theorem allAtoms_all (ts : List Jvm.Cond) (a : Array Jvm.Value) (st : Jvm.State) : (allAtoms ts).before a st = ts.all (fun c => c.before a st) := by
  induction ts with
  | nil => rfl
  | cons c t ih =>
    show (Jvm.Cond.and c (allAtoms t)).before a st = _
    rw [Jvm.Cond.before_and, ih, List.all_cons]
def words1 : List Jvm.Cond := Jvm.Cond.code x code maxLocals ret :: tables_1
/-- a 'code' word, met by the world's own term for the bytes: nothing is compared byte by byte -/
theorem code_word {y : MethodName} {bytes : ByteArray} {mx : Nat} {rt : Option FieldType} {a : Array Value} {s : State} {m : MethodId} {meth : Method} {c : Code} (h1 : s.methodNamed? y = some m) (h2 : s.vm.method? m = some meth) (h3 : meth.code = some c) (h4 : c.code = bytes)
    (h5 : (c.maxLocals == mx && c.exceptionTable.isEmpty && decide (c.maxStack ≤ mostOperands) && decide (meth.sig.returnType = rt) && !meth.locks && decide (parseMethodDescriptor y.desc = some meth.sig)) = true) : (Jvm.Cond.code y bytes mx rt).before a s = true := by
  simp only [Bool.and_eq_true, beq_iff_eq, Bool.not_eq_true', decide_eq_true_eq] at h5
  obtain ⟨⟨⟨⟨⟨g1, g2⟩, g3⟩, g4⟩, g5⟩, g6⟩ := h5
  simp [Cond.before, Cond.holds, Cond.value, h1, h2, h3, h4, g1, g2, g3, g4, g5, g6]
def isCode : Jvm.Cond → Bool
  | .code _ _ _ _ => true
  | _ => false
theorem all_split {L : List Jvm.Cond} {P : Jvm.Cond → Bool} (h1 : L.all (fun c => isCode c || P c) = true) (h2 : ∀ c ∈ L.filter isCode, P c = true) : L.all P = true := by
  refine List.all_eq_true.mpr fun c hc => ?_
  have h := List.all_eq_true.mp h1 c hc
  rcases Bool.eq_false_or_eq_true (isCode c) with hi | hi
  · exact h2 c (List.mem_filter.mpr ⟨hc, hi⟩)
  · simpa [hi] using h
set_option maxRecDepth 65536 in
theorem w_c0 : (Jvm.Cond.code x code maxLocals ret).before args0 about1 = true := code_word (m := ⟨1, 1⟩) (meth := k1m1) (c := k1c1) (by decide +kernel) rfl rfl rfl (by decide +kernel)
set_option maxRecDepth 65536 in
theorem w_c1 : (Jvm.Cond.code ({ cls := "com/example/tumbleweir/tumbleweir/value/SqlType", name := "isNumeric", desc := "()Z" } : Jvm.MethodName) prog_192_method_4_code (1 : Nat) (Option.some Jvm.ClassFile.FieldType.boolean)).before args0 about1 = true := code_word (m := ⟨6, 0⟩) (meth := k6m0) (c := k6c0) (by decide +kernel) rfl rfl rfl (by decide +kernel)
def codes1 : List Jvm.Cond := [Jvm.Cond.code x code maxLocals ret, Jvm.Cond.code ({ cls := "com/example/tumbleweir/tumbleweir/value/SqlType", name := "isNumeric", desc := "()Z" } : Jvm.MethodName) prog_192_method_4_code (1 : Nat) (Option.some Jvm.ClassFile.FieldType.boolean)]
set_option maxRecDepth 65536 in
theorem codes_eq : words1.filter isCode = codes1 := rfl
theorem w_codes : ∀ c ∈ words1.filter isCode, c.before args0 about1 = true := by
  rw [codes_eq]
  intro c hc
  simp only [codes1, List.mem_cons, List.not_mem_nil, or_false] at hc
  rcases hc with rfl | rfl
  · exact w_c0
  · exact w_c1
set_option maxRecDepth 65536 in
theorem w_t1 : (words1.take 24).all (fun c => isCode c || c.before args0 about1) = true := by decide +kernel
set_option maxRecDepth 65536 in
theorem w_t2 : (words1.drop 24).all (fun c => isCode c || c.before args0 about1) = true := by decide +kernel
theorem w_tables : (allAtoms (Jvm.Cond.code x code maxLocals ret :: tables_1)).before args0 about1 = true := by
  rw [allAtoms_all]
  show words1.all (fun c => c.before args0 about1) = true
  refine all_split ?_ w_codes
  rw [← List.take_append_drop 24 words1, List.all_append, w_t1, w_t2]
  rfl
set_option maxRecDepth 65536 in
theorem w_case : (Jvm.Cond.and given_1 narrow_1).before args0 about1 = true := by decide +kernel
theorem w_applies : (headSpec (Jvm.Cond.code x code maxLocals ret :: tables_1) room_1).applies x e0.platform about1 = true :=
  (Spec.applies_iff w_frames).mpr ⟨w_running, w_runnable, w_alone, w_named, w_hears, w_ripe, w_room, w_tables⟩
theorem atStart : AtStart classFile x code maxLocals ret World_1 tables_1 room_1 Calls_1 rest_1 Pre_1 launch0 p0 e0 about1 theMethod args0 below0 :=
  ⟨lists_1, trivial, launch0.admits_env _ _ _, launch0.least_env, fairChoices_fair.cas, fairChoices_fair.clock, w_frames, w_args, w_heap, w_applies, trivial, trivial, w_case⟩
end start1
theorem witness_1 : WitnessClaimed_1 := ⟨start1.p0, start1.e0, start1.about1, start1.theMethod, start1.args0, start1.below0, start1.atStart⟩
end Jvm.Pilot.@@N@@
