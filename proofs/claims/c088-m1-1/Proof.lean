import JvmDerived
import JvmDerived.Pilot.@@N@@Statement
import JvmDerived.Pilot.@@N@@Code
set_option linter.unusedVariables false
set_option linter.unusedSimpArgs false
namespace Jvm.RoadKit
open Sem ClassFile Op Lib Jvm.Stand Jvm.Free Jvm.LawKit
section New
variable {p : Program} {l : Launch} {e : Env} {R : Room} {s : State} {m : MethodId} {args : Array Value} {below : List Frame} {meth : Method} {c : Code} {T : State} {locs : List Loc} {cells slots : Nat}
theorem retI (X : Stand p l e R s m args below meth c T locs cells slots) (hx : p.tables.exec = Jvm.exec) {pc : Nat} {Ls : Array Slot} {z : Int32} {rest : List Value} (hret : meth.sig.returnType = some .int) (hd : decode c.code pc = .ok (.ireturn, 1)) {fs : List Frame}
    (hl : ∀ (f : JFrame) (acts : List Action), f.method = m → f.locked = none → f.entered = [] → (doReturn e (T.setTop f) acts (some (.int z))).1 = T.setFrames fs) : Steps p.tables e below (T.setTop (mkF m pc Ls (.int z :: rest))) (T.setFrames fs) := by
  have hm' : T.vm.method? m = some meth := X.method'
  have hn : narrow .int (.int z) = .int z := rfl
  show Steps p.tables e below (T.setTop { method := m, pc := pc, locals := Ls, stack := _ :: rest, locked := none }) _
  jvm_step X.here [X.here.top, hx, hd, hm', hret, hn]
  first | (intro acts; rw [hl _ acts rfl rfl rfl]) | rw [hl _ _ rfl rfl rfl]
  exact Steps.refl _
end New
end Jvm.RoadKit
namespace Jvm.Pilot.@@N@@
open Jvm Jvm.ClassFile Sem Op Lib Jvm.Free Jvm.Stand Jvm.LawKit Jvm.RoadKit Bundle Jvm.Pilot.@@N@@.Jvm.D
/-- what a call that writes nothing leaves -/
def PureQ (rv : Option Value) (h0 : Heap) (n0 : Nat) (v : Option Value) (h : Heap) (L : List Loc) : Prop := v = rv ∧ Fr n0 L ∧ h = h0
/-- what the law leaves -/
def LawQ (n0 : Nat) (v : Option Value) (h : Heap) (L : List Loc) : Prop := v = some (.int (1 : Int32)) ∧ Fr n0 L
theorem own_fld {Z : State} {args : Array Value} {a : Addr} {t u : Term} {C n d : String} {v : Value} (ev : t.eval args Z none [] Z = some (.ref a)) (h : (Jvm.Cond.eq (Term.field t C n d) u).value args Z none Z [] = some true) (eu : u.eval args Z none [] Z = some v) : Fld Z Z.heap a C n d v := by
  obtain ⟨x, y, h1, h2, -⟩ := cmp_v (Or.inl h)
  have e2 : y = v := Option.some.inj (h2.symm.trans eu)
  subst e2
  have e3 : x = y := by
    simp only [Jvm.Cond.value, h1, h2] at h
    cases x <;> cases y <;> simp_all
  subst e3
  exact Fld.start ((fld_at ev).symm.trans h1)
theorem pn_DirectionPlusPinLaw : plainName "com/example/tumbleweir/tumbleweir/engine/DirectionPlusPinLaw" = true := by first | (simp [plainName, overriddenIn]; done) | decide +kernel
theorem ef_mayGoUp (m : MethodId) (x0 : Int32) : entryFrame m #[(.int x0)] 1 = mkF m 0 #[.val (.int x0)] [] := by first | (simp [entryFrame, mkF, argsToLocals, Value.category]; done) | rfl
theorem d1_0 : decode method_3_code 0 = .ok (.iload_n 0, 1) := by decide +kernel
theorem d1_1 : decode method_3_code 1 = .ok (.ifCond .eq 8, 3) := by decide +kernel
theorem d1_9 : decode method_3_code 9 = .ok (.iconst 1, 1) := by decide +kernel
theorem d1_10 : decode method_3_code 10 = .ok (.goto 4, 3) := by decide +kernel
theorem d1_14 : decode method_3_code 14 = .ok (.ireturn, 1) := by decide +kernel
theorem d1_4 : decode method_3_code 4 = .ok (.iload_n 0, 1) := by decide +kernel
theorem d1_5 : decode method_3_code 5 = .ok (.iconst 3, 1) := by decide +kernel
theorem d1_6 : decode method_3_code 6 = .ok (.if_icmp .ne 7, 3) := by decide +kernel
theorem d1_13 : decode method_3_code 13 = .ok (.iconst 0, 1) := by decide +kernel
theorem ef_mayGoDown (m : MethodId) (x0 : Int32) : entryFrame m #[(.int x0)] 1 = mkF m 0 #[.val (.int x0)] [] := by first | (simp [entryFrame, mkF, argsToLocals, Value.category]; done) | rfl
theorem d2_0 : decode method_4_code 0 = .ok (.iload_n 0, 1) := by decide +kernel
theorem d2_1 : decode method_4_code 1 = .ok (.iconst 1, 1) := by decide +kernel
theorem d2_2 : decode method_4_code 2 = .ok (.if_icmp .eq 8, 3) := by decide +kernel
theorem d2_10 : decode method_4_code 10 = .ok (.iconst 1, 1) := by decide +kernel
theorem d2_11 : decode method_4_code 11 = .ok (.goto 4, 3) := by decide +kernel
theorem d2_15 : decode method_4_code 15 = .ok (.ireturn, 1) := by decide +kernel
theorem d2_5 : decode method_4_code 5 = .ok (.iload_n 0, 1) := by decide +kernel
theorem d2_6 : decode method_4_code 6 = .ok (.iconst 3, 1) := by decide +kernel
theorem d2_7 : decode method_4_code 7 = .ok (.if_icmp .ne 7, 3) := by decide +kernel
theorem d2_14 : decode method_4_code 14 = .ok (.iconst 0, 1) := by decide +kernel
theorem ef_of (m : MethodId) (x0 : Int32) : entryFrame m #[(.int x0)] 1 = mkF m 0 #[.val (.int x0)] [] := by first | (simp [entryFrame, mkF, argsToLocals, Value.category]; done) | rfl
theorem d3_0 : decode method_2_code 0 = .ok (.iload_n 0, 1) := by decide +kernel
theorem d3_1 : decode method_2_code 1 = .ok (.ifCond .ne 7, 3) := by decide +kernel
theorem d3_4 : decode method_2_code 4 = .ok (.getstatic 7, 3) := by decide +kernel
theorem d3_7 : decode method_2_code 7 = .ok (.areturn, 1) := by decide +kernel
theorem d3_8 : decode method_2_code 8 = .ok (.iload_n 0, 1) := by decide +kernel
theorem d3_9 : decode method_2_code 9 = .ok (.iconst 1, 1) := by decide +kernel
theorem d3_10 : decode method_2_code 10 = .ok (.if_icmp .ne 7, 3) := by decide +kernel
theorem d3_13 : decode method_2_code 13 = .ok (.getstatic 13, 3) := by decide +kernel
theorem d3_16 : decode method_2_code 16 = .ok (.areturn, 1) := by decide +kernel
theorem d3_17 : decode method_2_code 17 = .ok (.iload_n 0, 1) := by decide +kernel
theorem d3_18 : decode method_2_code 18 = .ok (.iconst 2, 1) := by decide +kernel
theorem d3_19 : decode method_2_code 19 = .ok (.if_icmp .ne 7, 3) := by decide +kernel
theorem d3_22 : decode method_2_code 22 = .ok (.getstatic 16, 3) := by decide +kernel
theorem d3_25 : decode method_2_code 25 = .ok (.areturn, 1) := by decide +kernel
theorem d3_26 : decode method_2_code 26 = .ok (.getstatic 19, 3) := by decide +kernel
theorem d3_29 : decode method_2_code 29 = .ok (.areturn, 1) := by decide +kernel
theorem pn_Direction : plainName "com/example/tumbleweir/tumbleweir/engine/Direction" = true := by first | (simp [plainName, overriddenIn]; done) | decide +kernel
theorem ef_plus (m : MethodId) (x0 : Addr) (x1 : Addr) : entryFrame m #[(.ref x0), (.ref x1)] 2 = mkF m 0 #[.val (.ref x0), .val (.ref x1)] [] := by first | (simp [entryFrame, mkF, argsToLocals, Value.category]; done) | rfl
theorem d4_0 : decode prog_36_method_8_code 0 = .ok (.aload_n 0, 1) := by decide +kernel
theorem d4_1 : decode prog_36_method_8_code 1 = .ok (.getstatic 10, 3) := by decide +kernel
theorem d4_4 : decode prog_36_method_8_code 4 = .ok (.if_acmp .ne 5, 3) := by decide +kernel
theorem d4_7 : decode prog_36_method_8_code 7 = .ok (.aload_n 1, 1) := by decide +kernel
theorem d4_8 : decode prog_36_method_8_code 8 = .ok (.areturn, 1) := by decide +kernel
theorem d4_9 : decode prog_36_method_8_code 9 = .ok (.aload_n 1, 1) := by decide +kernel
theorem d4_10 : decode prog_36_method_8_code 10 = .ok (.getstatic 10, 3) := by decide +kernel
theorem d4_13 : decode prog_36_method_8_code 13 = .ok (.if_acmp .eq 8, 3) := by decide +kernel
theorem d4_21 : decode prog_36_method_8_code 21 = .ok (.aload_n 0, 1) := by decide +kernel
theorem d4_22 : decode prog_36_method_8_code 22 = .ok (.goto 6, 3) := by decide +kernel
theorem d4_28 : decode prog_36_method_8_code 28 = .ok (.areturn, 1) := by decide +kernel
theorem d4_16 : decode prog_36_method_8_code 16 = .ok (.aload_n 1, 1) := by decide +kernel
theorem d4_17 : decode prog_36_method_8_code 17 = .ok (.aload_n 0, 1) := by decide +kernel
theorem d4_18 : decode prog_36_method_8_code 18 = .ok (.if_acmp .ne 7, 3) := by decide +kernel
theorem d4_25 : decode prog_36_method_8_code 25 = .ok (.getstatic 13, 3) := by decide +kernel
theorem ef_law (m : MethodId) (x0 : Int32) (x1 : Int32) : entryFrame m #[(.int x0), (.int x1)] maxLocals = mkF m 0 #[.val (.int x0), .val (.int x1), .unset, .unset, .unset, .unset, .unset, .unset] [] := by first | (simp [entryFrame, mkF, argsToLocals, Value.category, maxLocals]; done) | rfl
theorem pd__I_Z_4 : parseMethodDescriptor "(I)Z" = some ⟨[.int], some .boolean⟩ := by decide +kernel
theorem pd__tumbleweir_tumbleweir_engine_Direction__55 : parseMethodDescriptor "(I)Lcom/example/tumbleweir/tumbleweir/engine/Direction;" = some ⟨[.int], some (.object "com/example/tumbleweir/tumbleweir/engine/Direction")⟩ := by decide +kernel
theorem pd__tumbleweir_tumbleweir_engine_Direction__106 : parseMethodDescriptor "(Lcom/example/tumbleweir/tumbleweir/engine/Direction;)Lcom/example/tumbleweir/tumbleweir/engine/Direction;" = some ⟨[(.object "com/example/tumbleweir/tumbleweir/engine/Direction")], some (.object "com/example/tumbleweir/tumbleweir/engine/Direction")⟩ := by decide +kernel
def f_mayGoUp (wA : Addr) (wD : Addr) (wC : Addr) (wN : Addr) (p1 : Int32) : Int32 := (if p1 = (0 : Int32) then (1 : Int32) else (if p1 = (3 : Int32) then (1 : Int32) else (0 : Int32)))
set_option maxRecDepth 65536 in
set_option maxHeartbeats 40000000 in
theorem rm_mayGoUp (l : Launch) (Z : State) (a0 : Array Value) (hw : ∀ d ∈ tables_1, d.before a0 Z = true) (ws : List Jvm.Cond) (wA : Addr) (wD : Addr) (wC : Addr) (wN : Addr) (p1 : Int32) (h0 : Heap) (n0 : Nat) (Z0 : n0 ≤ h0.size) (S_wA : Sta Z h0 "com/example/tumbleweir/tumbleweir/engine/Direction" "ASCENDING" "Lcom/example/tumbleweir/tumbleweir/engine/Direction;" (.ref wA)) (S_wD : Sta Z h0 "com/example/tumbleweir/tumbleweir/engine/Direction" "DESCENDING" "Lcom/example/tumbleweir/tumbleweir/engine/Direction;" (.ref wD)) (S_wC : Sta Z h0 "com/example/tumbleweir/tumbleweir/engine/Direction" "CONSTANT" "Lcom/example/tumbleweir/tumbleweir/engine/Direction;" (.ref wC)) (S_wN : Sta Z h0 "com/example/tumbleweir/tumbleweir/engine/Direction" "NONE" "Lcom/example/tumbleweir/tumbleweir/engine/Direction;" (.ref wN)) :
    MetFree l (⟨"com/example/tumbleweir/tumbleweir/engine/DirectionPlusPinLaw", "mayGoUp", "(I)Z"⟩ : MethodName) (head1 (Jvm.Cond.code (⟨"com/example/tumbleweir/tumbleweir/engine/DirectionPlusPinLaw", "mayGoUp", "(I)Z"⟩ : MethodName) method_3_code 1 (some .boolean) :: ws) ({ frames := 0, cells := 0, slots := 0, locals := 0 } : Room)) (fun a U => a = #[(.int p1)] ∧ Z.Warmed39 U.vm ∧ U.heap = h0) (fun _ _ _ _ _ => True) (fun _ U o U' => ∃ v L, o = .returned v ∧ PureQ (some (.int (f_mayGoUp wA wD wC wN p1))) h0 n0 v U'.heap L ∧ FrameEnd U o U' L ({ frames := 0, cells := 0, slots := 0, locals := 0 } : Room).cells ({ frames := 0, cells := 0, slots := 0, locals := 0 } : Room).slots) := by
  refine MetFree.of_bodySF (plainFor_of_name pn_DirectionPlusPinLaw) hisR ?_
  intro p e s m args below meth c s₁ Bd hml0 hP hK
  obtain ⟨rfl, hZ, hh⟩ := hP
  have hx := Bd.exec
  have hby := Bd.bytes
  have hml : c.maxLocals = 1 := hml0
  have hown : s.vm.findClass "com/example/tumbleweir/tumbleweir/engine/DirectionPlusPinLaw" = some m.cls := findClass_of_methodNamed Bd.named
  have hnm := (name_of_methodNamed Bd.named Bd.method).1
  have X0 : Stand p l e ({ frames := 0, cells := 0, slots := 0, locals := 0 } : Room) s m #[(.int p1)] below meth c s₁ [] 0 0 := Stand.of_body Bd
  have e0 : s₁.heap = h0 := by rw [← hh, Bd.state]; rfl
  have N0 := Fr.nil n0
  have pre0 : ∀ t, Steps p.tables e below (s₁.setTop (mkF m 0 #[.val (.int p1)] [])) t → Steps p.tables e below (s₁.setTop (entryFrame m #[(.int p1)] 1)) t := fun t k => castTop (ef_mayGoUp m p1) k
  have pre1 : ∀ t, Steps p.tables e below (s₁.setTop (mkF m 1 #[.val (.int p1)] [(.int p1)])) t → Steps p.tables e below (s₁.setTop (entryFrame m #[(.int p1)] 1)) t := fun t k => pre0 t (by
      show Steps p.tables e below (s₁.setTop (mkF m 0 #[.val (.int p1)] [])) _
      refine XS.iloadN X0.here hx rfl (hb hby d1_0) rfl ?_
      exact k)
  by_cases g2 : p1 = (0 : Int32)
  · skip
    obtain ⟨fs, hr, hrun, hended, hW, hsame⟩ := X0.leave (v := some (.int (1 : Int32))) (fun h => by rw [Bd.returns] at h; cases h)
    refine ⟨_, _, pre1 _ ?_, hrun, hended, _, _, rfl, ?_, ⟨_, rfl⟩, hW, hsame.mono (by decide) (by decide)⟩
    · show Steps p.tables e below (s₁.setTop (mkF m 1 #[.val (.int p1)] [(.int p1)])) _
      refine XS.ifYes X0.here hx rfl (pc0 := 1) (pc' := 9) rfl (hb hby d1_1) rfl ((if0 _ _).trans (teq g2).1) (by decide) (by decide) ?_
      show Steps p.tables e below (s₁.setTop (mkF m 9 #[.val (.int p1)] [])) _
      refine XS.iconst X0.here hx rfl (hb hby d1_9) ?_
      show Steps p.tables e below (s₁.setTop (mkF m 10 #[.val (.int p1)] [(.int (1 : Int32))])) _
      refine XS.goto X0.here hx rfl (pc0 := 10) (pc' := 14) rfl (hb hby d1_10) (by decide) (by decide) ?_
      show Steps p.tables e below (s₁.setTop (mkF m 14 #[.val (.int p1)] [(.int (1 : Int32))])) _
      exact retN X0 hx (t := .boolean) Bd.returns (by simp) (hb hby d1_14) hr
    · exact ⟨by simp only [f_mayGoUp, if_pos g2], N0, e0⟩
  · skip
    have pre3 : ∀ t, Steps p.tables e below (s₁.setTop (mkF m 6 #[.val (.int p1)] [(.int (3 : Int32)), (.int p1)])) t → Steps p.tables e below (s₁.setTop (entryFrame m #[(.int p1)] 1)) t := fun t k => pre1 t (by
        show Steps p.tables e below (s₁.setTop (mkF m 1 #[.val (.int p1)] [(.int p1)])) _
        refine XS.ifNo X0.here hx rfl (hb hby d1_1) rfl ((if0 _ _).trans (feq g2).1) ?_
        show Steps p.tables e below (s₁.setTop (mkF m 4 #[.val (.int p1)] [])) _
        refine XS.iloadN X0.here hx rfl (hb hby d1_4) rfl ?_
        show Steps p.tables e below (s₁.setTop (mkF m 5 #[.val (.int p1)] [(.int p1)])) _
        refine XS.iconst X0.here hx rfl (hb hby d1_5) ?_
        exact k)
    by_cases g4 : p1 = (3 : Int32)
    · skip
      obtain ⟨fs, hr, hrun, hended, hW, hsame⟩ := X0.leave (v := some (.int (1 : Int32))) (fun h => by rw [Bd.returns] at h; cases h)
      refine ⟨_, _, pre3 _ ?_, hrun, hended, _, _, rfl, ?_, ⟨_, rfl⟩, hW, hsame.mono (by decide) (by decide)⟩
      · show Steps p.tables e below (s₁.setTop (mkF m 6 #[.val (.int p1)] [(.int (3 : Int32)), (.int p1)])) _
        refine XS.icmpNo X0.here hx rfl (hb hby d1_6) rfl (teq g4).2 ?_
        show Steps p.tables e below (s₁.setTop (mkF m 9 #[.val (.int p1)] [])) _
        refine XS.iconst X0.here hx rfl (hb hby d1_9) ?_
        show Steps p.tables e below (s₁.setTop (mkF m 10 #[.val (.int p1)] [(.int (1 : Int32))])) _
        refine XS.goto X0.here hx rfl (pc0 := 10) (pc' := 14) rfl (hb hby d1_10) (by decide) (by decide) ?_
        show Steps p.tables e below (s₁.setTop (mkF m 14 #[.val (.int p1)] [(.int (1 : Int32))])) _
        exact retN X0 hx (t := .boolean) Bd.returns (by simp) (hb hby d1_14) hr
      · exact ⟨by simp only [f_mayGoUp, if_neg g2, if_pos g4], N0, e0⟩
    · skip
      obtain ⟨fs, hr, hrun, hended, hW, hsame⟩ := X0.leave (v := some (.int (0 : Int32))) (fun h => by rw [Bd.returns] at h; cases h)
      refine ⟨_, _, pre3 _ ?_, hrun, hended, _, _, rfl, ?_, ⟨_, rfl⟩, hW, hsame.mono (by decide) (by decide)⟩
      · show Steps p.tables e below (s₁.setTop (mkF m 6 #[.val (.int p1)] [(.int (3 : Int32)), (.int p1)])) _
        refine XS.icmpYes X0.here hx rfl (pc0 := 6) (pc' := 13) rfl (hb hby d1_6) rfl (feq g4).2 (by decide) (by decide) ?_
        show Steps p.tables e below (s₁.setTop (mkF m 13 #[.val (.int p1)] [])) _
        refine XS.iconst X0.here hx rfl (hb hby d1_13) ?_
        show Steps p.tables e below (s₁.setTop (mkF m 14 #[.val (.int p1)] [(.int (0 : Int32))])) _
        exact retN X0 hx (t := .boolean) Bd.returns (by simp) (hb hby d1_14) hr
      · exact ⟨by simp only [f_mayGoUp, if_neg g2, if_neg g4], N0, e0⟩
def f_mayGoDown (wA : Addr) (wD : Addr) (wC : Addr) (wN : Addr) (p1 : Int32) : Int32 := (if p1 = (1 : Int32) then (1 : Int32) else (if p1 = (3 : Int32) then (1 : Int32) else (0 : Int32)))
set_option maxRecDepth 65536 in
set_option maxHeartbeats 40000000 in
theorem rm_mayGoDown (l : Launch) (Z : State) (a0 : Array Value) (hw : ∀ d ∈ tables_1, d.before a0 Z = true) (ws : List Jvm.Cond) (wA : Addr) (wD : Addr) (wC : Addr) (wN : Addr) (p1 : Int32) (h0 : Heap) (n0 : Nat) (Z0 : n0 ≤ h0.size) (S_wA : Sta Z h0 "com/example/tumbleweir/tumbleweir/engine/Direction" "ASCENDING" "Lcom/example/tumbleweir/tumbleweir/engine/Direction;" (.ref wA)) (S_wD : Sta Z h0 "com/example/tumbleweir/tumbleweir/engine/Direction" "DESCENDING" "Lcom/example/tumbleweir/tumbleweir/engine/Direction;" (.ref wD)) (S_wC : Sta Z h0 "com/example/tumbleweir/tumbleweir/engine/Direction" "CONSTANT" "Lcom/example/tumbleweir/tumbleweir/engine/Direction;" (.ref wC)) (S_wN : Sta Z h0 "com/example/tumbleweir/tumbleweir/engine/Direction" "NONE" "Lcom/example/tumbleweir/tumbleweir/engine/Direction;" (.ref wN)) :
    MetFree l (⟨"com/example/tumbleweir/tumbleweir/engine/DirectionPlusPinLaw", "mayGoDown", "(I)Z"⟩ : MethodName) (head1 (Jvm.Cond.code (⟨"com/example/tumbleweir/tumbleweir/engine/DirectionPlusPinLaw", "mayGoDown", "(I)Z"⟩ : MethodName) method_4_code 1 (some .boolean) :: ws) ({ frames := 0, cells := 0, slots := 0, locals := 0 } : Room)) (fun a U => a = #[(.int p1)] ∧ Z.Warmed39 U.vm ∧ U.heap = h0) (fun _ _ _ _ _ => True) (fun _ U o U' => ∃ v L, o = .returned v ∧ PureQ (some (.int (f_mayGoDown wA wD wC wN p1))) h0 n0 v U'.heap L ∧ FrameEnd U o U' L ({ frames := 0, cells := 0, slots := 0, locals := 0 } : Room).cells ({ frames := 0, cells := 0, slots := 0, locals := 0 } : Room).slots) := by
  refine MetFree.of_bodySF (plainFor_of_name pn_DirectionPlusPinLaw) hisR ?_
  intro p e s m args below meth c s₁ Bd hml0 hP hK
  obtain ⟨rfl, hZ, hh⟩ := hP
  have hx := Bd.exec
  have hby := Bd.bytes
  have hml : c.maxLocals = 1 := hml0
  have hown : s.vm.findClass "com/example/tumbleweir/tumbleweir/engine/DirectionPlusPinLaw" = some m.cls := findClass_of_methodNamed Bd.named
  have hnm := (name_of_methodNamed Bd.named Bd.method).1
  have X0 : Stand p l e ({ frames := 0, cells := 0, slots := 0, locals := 0 } : Room) s m #[(.int p1)] below meth c s₁ [] 0 0 := Stand.of_body Bd
  have e0 : s₁.heap = h0 := by rw [← hh, Bd.state]; rfl
  have N0 := Fr.nil n0
  have pre0 : ∀ t, Steps p.tables e below (s₁.setTop (mkF m 0 #[.val (.int p1)] [])) t → Steps p.tables e below (s₁.setTop (entryFrame m #[(.int p1)] 1)) t := fun t k => castTop (ef_mayGoDown m p1) k
  have pre1 : ∀ t, Steps p.tables e below (s₁.setTop (mkF m 2 #[.val (.int p1)] [(.int (1 : Int32)), (.int p1)])) t → Steps p.tables e below (s₁.setTop (entryFrame m #[(.int p1)] 1)) t := fun t k => pre0 t (by
      show Steps p.tables e below (s₁.setTop (mkF m 0 #[.val (.int p1)] [])) _
      refine XS.iloadN X0.here hx rfl (hb hby d2_0) rfl ?_
      show Steps p.tables e below (s₁.setTop (mkF m 1 #[.val (.int p1)] [(.int p1)])) _
      refine XS.iconst X0.here hx rfl (hb hby d2_1) ?_
      exact k)
  by_cases g2 : p1 = (1 : Int32)
  · skip
    obtain ⟨fs, hr, hrun, hended, hW, hsame⟩ := X0.leave (v := some (.int (1 : Int32))) (fun h => by rw [Bd.returns] at h; cases h)
    refine ⟨_, _, pre1 _ ?_, hrun, hended, _, _, rfl, ?_, ⟨_, rfl⟩, hW, hsame.mono (by decide) (by decide)⟩
    · show Steps p.tables e below (s₁.setTop (mkF m 2 #[.val (.int p1)] [(.int (1 : Int32)), (.int p1)])) _
      refine XS.icmpYes X0.here hx rfl (pc0 := 2) (pc' := 10) rfl (hb hby d2_2) rfl (teq g2).1 (by decide) (by decide) ?_
      show Steps p.tables e below (s₁.setTop (mkF m 10 #[.val (.int p1)] [])) _
      refine XS.iconst X0.here hx rfl (hb hby d2_10) ?_
      show Steps p.tables e below (s₁.setTop (mkF m 11 #[.val (.int p1)] [(.int (1 : Int32))])) _
      refine XS.goto X0.here hx rfl (pc0 := 11) (pc' := 15) rfl (hb hby d2_11) (by decide) (by decide) ?_
      show Steps p.tables e below (s₁.setTop (mkF m 15 #[.val (.int p1)] [(.int (1 : Int32))])) _
      exact retN X0 hx (t := .boolean) Bd.returns (by simp) (hb hby d2_15) hr
    · exact ⟨by simp only [f_mayGoDown, if_pos g2], N0, e0⟩
  · skip
    have pre3 : ∀ t, Steps p.tables e below (s₁.setTop (mkF m 7 #[.val (.int p1)] [(.int (3 : Int32)), (.int p1)])) t → Steps p.tables e below (s₁.setTop (entryFrame m #[(.int p1)] 1)) t := fun t k => pre1 t (by
        show Steps p.tables e below (s₁.setTop (mkF m 2 #[.val (.int p1)] [(.int (1 : Int32)), (.int p1)])) _
        refine XS.icmpNo X0.here hx rfl (hb hby d2_2) rfl (feq g2).1 ?_
        show Steps p.tables e below (s₁.setTop (mkF m 5 #[.val (.int p1)] [])) _
        refine XS.iloadN X0.here hx rfl (hb hby d2_5) rfl ?_
        show Steps p.tables e below (s₁.setTop (mkF m 6 #[.val (.int p1)] [(.int p1)])) _
        refine XS.iconst X0.here hx rfl (hb hby d2_6) ?_
        exact k)
    by_cases g4 : p1 = (3 : Int32)
    · skip
      obtain ⟨fs, hr, hrun, hended, hW, hsame⟩ := X0.leave (v := some (.int (1 : Int32))) (fun h => by rw [Bd.returns] at h; cases h)
      refine ⟨_, _, pre3 _ ?_, hrun, hended, _, _, rfl, ?_, ⟨_, rfl⟩, hW, hsame.mono (by decide) (by decide)⟩
      · show Steps p.tables e below (s₁.setTop (mkF m 7 #[.val (.int p1)] [(.int (3 : Int32)), (.int p1)])) _
        refine XS.icmpNo X0.here hx rfl (hb hby d2_7) rfl (teq g4).2 ?_
        show Steps p.tables e below (s₁.setTop (mkF m 10 #[.val (.int p1)] [])) _
        refine XS.iconst X0.here hx rfl (hb hby d2_10) ?_
        show Steps p.tables e below (s₁.setTop (mkF m 11 #[.val (.int p1)] [(.int (1 : Int32))])) _
        refine XS.goto X0.here hx rfl (pc0 := 11) (pc' := 15) rfl (hb hby d2_11) (by decide) (by decide) ?_
        show Steps p.tables e below (s₁.setTop (mkF m 15 #[.val (.int p1)] [(.int (1 : Int32))])) _
        exact retN X0 hx (t := .boolean) Bd.returns (by simp) (hb hby d2_15) hr
      · exact ⟨by simp only [f_mayGoDown, if_neg g2, if_pos g4], N0, e0⟩
    · skip
      obtain ⟨fs, hr, hrun, hended, hW, hsame⟩ := X0.leave (v := some (.int (0 : Int32))) (fun h => by rw [Bd.returns] at h; cases h)
      refine ⟨_, _, pre3 _ ?_, hrun, hended, _, _, rfl, ?_, ⟨_, rfl⟩, hW, hsame.mono (by decide) (by decide)⟩
      · show Steps p.tables e below (s₁.setTop (mkF m 7 #[.val (.int p1)] [(.int (3 : Int32)), (.int p1)])) _
        refine XS.icmpYes X0.here hx rfl (pc0 := 7) (pc' := 14) rfl (hb hby d2_7) rfl (feq g4).2 (by decide) (by decide) ?_
        show Steps p.tables e below (s₁.setTop (mkF m 14 #[.val (.int p1)] [])) _
        refine XS.iconst X0.here hx rfl (hb hby d2_14) ?_
        show Steps p.tables e below (s₁.setTop (mkF m 15 #[.val (.int p1)] [(.int (0 : Int32))])) _
        exact retN X0 hx (t := .boolean) Bd.returns (by simp) (hb hby d2_15) hr
      · exact ⟨by simp only [f_mayGoDown, if_neg g2, if_neg g4], N0, e0⟩
def f_of (wA : Addr) (wD : Addr) (wC : Addr) (wN : Addr) (p1 : Int32) : Addr := (if p1 = (0 : Int32) then wA else (if p1 = (1 : Int32) then wD else (if p1 = (2 : Int32) then wC else wN)))
set_option maxRecDepth 65536 in
set_option maxHeartbeats 40000000 in
theorem rm_of (l : Launch) (Z : State) (a0 : Array Value) (hw : ∀ d ∈ tables_1, d.before a0 Z = true) (ws : List Jvm.Cond) (wA : Addr) (wD : Addr) (wC : Addr) (wN : Addr) (p1 : Int32) (h0 : Heap) (n0 : Nat) (Z0 : n0 ≤ h0.size) (S_wA : Sta Z h0 "com/example/tumbleweir/tumbleweir/engine/Direction" "ASCENDING" "Lcom/example/tumbleweir/tumbleweir/engine/Direction;" (.ref wA)) (S_wD : Sta Z h0 "com/example/tumbleweir/tumbleweir/engine/Direction" "DESCENDING" "Lcom/example/tumbleweir/tumbleweir/engine/Direction;" (.ref wD)) (S_wC : Sta Z h0 "com/example/tumbleweir/tumbleweir/engine/Direction" "CONSTANT" "Lcom/example/tumbleweir/tumbleweir/engine/Direction;" (.ref wC)) (S_wN : Sta Z h0 "com/example/tumbleweir/tumbleweir/engine/Direction" "NONE" "Lcom/example/tumbleweir/tumbleweir/engine/Direction;" (.ref wN)) :
    MetFree l (⟨"com/example/tumbleweir/tumbleweir/engine/DirectionPlusPinLaw", "of", "(I)Lcom/example/tumbleweir/tumbleweir/engine/Direction;"⟩ : MethodName) (head1 (Jvm.Cond.code (⟨"com/example/tumbleweir/tumbleweir/engine/DirectionPlusPinLaw", "of", "(I)Lcom/example/tumbleweir/tumbleweir/engine/Direction;"⟩ : MethodName) method_2_code 1 (some (.object "com/example/tumbleweir/tumbleweir/engine/Direction")) :: ws) ({ frames := 0, cells := 0, slots := 0, locals := 0 } : Room)) (fun a U => a = #[(.int p1)] ∧ Z.Warmed39 U.vm ∧ U.heap = h0) (fun _ _ _ _ _ => True) (fun _ U o U' => ∃ v L, o = .returned v ∧ PureQ (some (.ref (f_of wA wD wC wN p1))) h0 n0 v U'.heap L ∧ FrameEnd U o U' L ({ frames := 0, cells := 0, slots := 0, locals := 0 } : Room).cells ({ frames := 0, cells := 0, slots := 0, locals := 0 } : Room).slots) := by
  refine MetFree.of_bodySF (plainFor_of_name pn_DirectionPlusPinLaw) hisR ?_
  intro p e s m args below meth c s₁ Bd hml0 hP hK
  obtain ⟨rfl, hZ, hh⟩ := hP
  have hx := Bd.exec
  have hby := Bd.bytes
  have hml : c.maxLocals = 1 := hml0
  have hown : s.vm.findClass "com/example/tumbleweir/tumbleweir/engine/DirectionPlusPinLaw" = some m.cls := findClass_of_methodNamed Bd.named
  have hnm := (name_of_methodNamed Bd.named Bd.method).1
  have X0 : Stand p l e ({ frames := 0, cells := 0, slots := 0, locals := 0 } : Room) s m #[(.int p1)] below meth c s₁ [] 0 0 := Stand.of_body Bd
  have e0 : s₁.heap = h0 := by rw [← hh, Bd.state]; rfl
  have N0 := Fr.nil n0
  have pre0 : ∀ t, Steps p.tables e below (s₁.setTop (mkF m 0 #[.val (.int p1)] [])) t → Steps p.tables e below (s₁.setTop (entryFrame m #[(.int p1)] 1)) t := fun t k => castTop (ef_of m p1) k
  have pre1 : ∀ t, Steps p.tables e below (s₁.setTop (mkF m 1 #[.val (.int p1)] [(.int p1)])) t → Steps p.tables e below (s₁.setTop (entryFrame m #[(.int p1)] 1)) t := fun t k => pre0 t (by
      show Steps p.tables e below (s₁.setTop (mkF m 0 #[.val (.int p1)] [])) _
      refine XS.iloadN X0.here hx rfl (hb hby d3_0) rfl ?_
      exact k)
  by_cases g2 : p1 = (0 : Int32)
  · skip
    obtain ⟨T3, X3, e3, st3⟩ := getS2 X0 hx hZ hown (host := "") (Or.inl (hw _ (List.mem_of_getElem? (i := 13) rfl))) Via.refl e0 S_wA (g := (mkF m 4 #[.val (.int p1)] [])) rfl (hb hby d3_4)
    obtain ⟨fs, hr, hrun, hended, hW, hsame⟩ := X3.leave (v := some (.ref wA)) (fun h => by rw [Bd.returns] at h; cases h)
    refine ⟨_, _, pre1 _ ?_, hrun, hended, _, _, rfl, ?_, ⟨_, rfl⟩, hW, hsame.mono (by decide) (by decide)⟩
    · show Steps p.tables e below (s₁.setTop (mkF m 1 #[.val (.int p1)] [(.int p1)])) _
      refine XS.ifNo X0.here hx rfl (hb hby d3_1) rfl ((if0 _ _).trans (teq g2).2) ?_
      show Steps p.tables e below (s₁.setTop (mkF m 4 #[.val (.int p1)] [])) _
      refine st3 _ ?_
      show Steps p.tables e below (T3.setTop (mkF m 7 #[.val (.int p1)] [(.ref wA)])) _
      jvm_step X3.here [X3.here.top, hx, (hb hby d3_7), X3.method', Bd.returns, Value.isRef, FieldType.isReference]
      first | (intro acts; rw [hr _ acts rfl rfl rfl]) | rw [hr _ _ rfl rfl rfl]
      exact Steps.refl _
    · exact ⟨by simp only [f_of, if_pos g2], N0, e3⟩
  · skip
    have pre4 : ∀ t, Steps p.tables e below (s₁.setTop (mkF m 10 #[.val (.int p1)] [(.int (1 : Int32)), (.int p1)])) t → Steps p.tables e below (s₁.setTop (entryFrame m #[(.int p1)] 1)) t := fun t k => pre1 t (by
        show Steps p.tables e below (s₁.setTop (mkF m 1 #[.val (.int p1)] [(.int p1)])) _
        refine XS.ifYes X0.here hx rfl (pc0 := 1) (pc' := 8) rfl (hb hby d3_1) rfl ((if0 _ _).trans (feq g2).2) (by decide) (by decide) ?_
        show Steps p.tables e below (s₁.setTop (mkF m 8 #[.val (.int p1)] [])) _
        refine XS.iloadN X0.here hx rfl (hb hby d3_8) rfl ?_
        show Steps p.tables e below (s₁.setTop (mkF m 9 #[.val (.int p1)] [(.int p1)])) _
        refine XS.iconst X0.here hx rfl (hb hby d3_9) ?_
        exact k)
    by_cases g5 : p1 = (1 : Int32)
    · skip
      obtain ⟨T6, X6, e6, st6⟩ := getS2 X0 hx hZ hown (host := "") (Or.inl (hw _ (List.mem_of_getElem? (i := 23) rfl))) Via.refl e0 S_wD (g := (mkF m 13 #[.val (.int p1)] [])) rfl (hb hby d3_13)
      obtain ⟨fs, hr, hrun, hended, hW, hsame⟩ := X6.leave (v := some (.ref wD)) (fun h => by rw [Bd.returns] at h; cases h)
      refine ⟨_, _, pre4 _ ?_, hrun, hended, _, _, rfl, ?_, ⟨_, rfl⟩, hW, hsame.mono (by decide) (by decide)⟩
      · show Steps p.tables e below (s₁.setTop (mkF m 10 #[.val (.int p1)] [(.int (1 : Int32)), (.int p1)])) _
        refine XS.icmpNo X0.here hx rfl (hb hby d3_10) rfl (teq g5).2 ?_
        show Steps p.tables e below (s₁.setTop (mkF m 13 #[.val (.int p1)] [])) _
        refine st6 _ ?_
        show Steps p.tables e below (T6.setTop (mkF m 16 #[.val (.int p1)] [(.ref wD)])) _
        jvm_step X6.here [X6.here.top, hx, (hb hby d3_16), X6.method', Bd.returns, Value.isRef, FieldType.isReference]
        first | (intro acts; rw [hr _ acts rfl rfl rfl]) | rw [hr _ _ rfl rfl rfl]
        exact Steps.refl _
      · exact ⟨by simp only [f_of, if_neg g2, if_pos g5], N0, e6⟩
    · skip
      have pre7 : ∀ t, Steps p.tables e below (s₁.setTop (mkF m 19 #[.val (.int p1)] [(.int (2 : Int32)), (.int p1)])) t → Steps p.tables e below (s₁.setTop (entryFrame m #[(.int p1)] 1)) t := fun t k => pre4 t (by
          show Steps p.tables e below (s₁.setTop (mkF m 10 #[.val (.int p1)] [(.int (1 : Int32)), (.int p1)])) _
          refine XS.icmpYes X0.here hx rfl (pc0 := 10) (pc' := 17) rfl (hb hby d3_10) rfl (feq g5).2 (by decide) (by decide) ?_
          show Steps p.tables e below (s₁.setTop (mkF m 17 #[.val (.int p1)] [])) _
          refine XS.iloadN X0.here hx rfl (hb hby d3_17) rfl ?_
          show Steps p.tables e below (s₁.setTop (mkF m 18 #[.val (.int p1)] [(.int p1)])) _
          refine XS.iconst X0.here hx rfl (hb hby d3_18) ?_
          exact k)
      by_cases g8 : p1 = (2 : Int32)
      · skip
        obtain ⟨T9, X9, e9, st9⟩ := getS2 X0 hx hZ hown (host := "") (Or.inl (hw _ (List.mem_of_getElem? (i := 25) rfl))) Via.refl e0 S_wC (g := (mkF m 22 #[.val (.int p1)] [])) rfl (hb hby d3_22)
        obtain ⟨fs, hr, hrun, hended, hW, hsame⟩ := X9.leave (v := some (.ref wC)) (fun h => by rw [Bd.returns] at h; cases h)
        refine ⟨_, _, pre7 _ ?_, hrun, hended, _, _, rfl, ?_, ⟨_, rfl⟩, hW, hsame.mono (by decide) (by decide)⟩
        · show Steps p.tables e below (s₁.setTop (mkF m 19 #[.val (.int p1)] [(.int (2 : Int32)), (.int p1)])) _
          refine XS.icmpNo X0.here hx rfl (hb hby d3_19) rfl (teq g8).2 ?_
          show Steps p.tables e below (s₁.setTop (mkF m 22 #[.val (.int p1)] [])) _
          refine st9 _ ?_
          show Steps p.tables e below (T9.setTop (mkF m 25 #[.val (.int p1)] [(.ref wC)])) _
          jvm_step X9.here [X9.here.top, hx, (hb hby d3_25), X9.method', Bd.returns, Value.isRef, FieldType.isReference]
          first | (intro acts; rw [hr _ acts rfl rfl rfl]) | rw [hr _ _ rfl rfl rfl]
          exact Steps.refl _
        · exact ⟨by simp only [f_of, if_neg g2, if_neg g5, if_pos g8], N0, e9⟩
      · skip
        obtain ⟨T10, X10, e10, st10⟩ := getS2 X0 hx hZ hown (host := "") (Or.inl (hw _ (List.mem_of_getElem? (i := 7) rfl))) Via.refl e0 S_wN (g := (mkF m 26 #[.val (.int p1)] [])) rfl (hb hby d3_26)
        obtain ⟨fs, hr, hrun, hended, hW, hsame⟩ := X10.leave (v := some (.ref wN)) (fun h => by rw [Bd.returns] at h; cases h)
        refine ⟨_, _, pre7 _ ?_, hrun, hended, _, _, rfl, ?_, ⟨_, rfl⟩, hW, hsame.mono (by decide) (by decide)⟩
        · show Steps p.tables e below (s₁.setTop (mkF m 19 #[.val (.int p1)] [(.int (2 : Int32)), (.int p1)])) _
          refine XS.icmpYes X0.here hx rfl (pc0 := 19) (pc' := 26) rfl (hb hby d3_19) rfl (feq g8).2 (by decide) (by decide) ?_
          show Steps p.tables e below (s₁.setTop (mkF m 26 #[.val (.int p1)] [])) _
          refine st10 _ ?_
          show Steps p.tables e below (T10.setTop (mkF m 29 #[.val (.int p1)] [(.ref wN)])) _
          jvm_step X10.here [X10.here.top, hx, (hb hby d3_29), X10.method', Bd.returns, Value.isRef, FieldType.isReference]
          first | (intro acts; rw [hr _ acts rfl rfl rfl]) | rw [hr _ _ rfl rfl rfl]
          exact Steps.refl _
        · exact ⟨by simp only [f_of, if_neg g2, if_neg g5, if_neg g8], N0, e10⟩
def f_plus (wA : Addr) (wD : Addr) (wC : Addr) (wN : Addr) (a1 : Addr) (a2 : Addr) : Addr := (if a1 = wC then a2 else (if a2 = wC then a1 else (if a2 = a1 then a1 else wN)))
set_option maxRecDepth 65536 in
set_option maxHeartbeats 40000000 in
theorem rm_plus (l : Launch) (Z : State) (a0 : Array Value) (hw : ∀ d ∈ tables_1, d.before a0 Z = true) (ws : List Jvm.Cond) (wA : Addr) (wD : Addr) (wC : Addr) (wN : Addr) (a1 : Addr) (a2 : Addr) (h0 : Heap) (n0 : Nat) (Z0 : n0 ≤ h0.size) (S_wA : Sta Z h0 "com/example/tumbleweir/tumbleweir/engine/Direction" "ASCENDING" "Lcom/example/tumbleweir/tumbleweir/engine/Direction;" (.ref wA)) (S_wD : Sta Z h0 "com/example/tumbleweir/tumbleweir/engine/Direction" "DESCENDING" "Lcom/example/tumbleweir/tumbleweir/engine/Direction;" (.ref wD)) (S_wC : Sta Z h0 "com/example/tumbleweir/tumbleweir/engine/Direction" "CONSTANT" "Lcom/example/tumbleweir/tumbleweir/engine/Direction;" (.ref wC)) (S_wN : Sta Z h0 "com/example/tumbleweir/tumbleweir/engine/Direction" "NONE" "Lcom/example/tumbleweir/tumbleweir/engine/Direction;" (.ref wN)) :
    MetFree l (⟨"com/example/tumbleweir/tumbleweir/engine/Direction", "plus", "(Lcom/example/tumbleweir/tumbleweir/engine/Direction;)Lcom/example/tumbleweir/tumbleweir/engine/Direction;"⟩ : MethodName) (head1 (Jvm.Cond.code (⟨"com/example/tumbleweir/tumbleweir/engine/Direction", "plus", "(Lcom/example/tumbleweir/tumbleweir/engine/Direction;)Lcom/example/tumbleweir/tumbleweir/engine/Direction;"⟩ : MethodName) prog_36_method_8_code 2 (some (.object "com/example/tumbleweir/tumbleweir/engine/Direction")) :: ws) ({ frames := 0, cells := 0, slots := 0, locals := 0 } : Room)) (fun a U => a = #[(.ref a1), (.ref a2)] ∧ Z.Warmed39 U.vm ∧ U.heap = h0) (fun _ _ _ _ _ => True) (fun _ U o U' => ∃ v L, o = .returned v ∧ PureQ (some (.ref (f_plus wA wD wC wN a1 a2))) h0 n0 v U'.heap L ∧ FrameEnd U o U' L ({ frames := 0, cells := 0, slots := 0, locals := 0 } : Room).cells ({ frames := 0, cells := 0, slots := 0, locals := 0 } : Room).slots) := by
  refine MetFree.of_bodySF (plainFor_of_name pn_Direction) hisR ?_
  intro p e s m args below meth c s₁ Bd hml0 hP hK
  obtain ⟨rfl, hZ, hh⟩ := hP
  have hx := Bd.exec
  have hby := Bd.bytes
  have hml : c.maxLocals = 2 := hml0
  have hown : s.vm.findClass "com/example/tumbleweir/tumbleweir/engine/Direction" = some m.cls := findClass_of_methodNamed Bd.named
  have hnm := (name_of_methodNamed Bd.named Bd.method).1
  have X0 : Stand p l e ({ frames := 0, cells := 0, slots := 0, locals := 0 } : Room) s m #[(.ref a1), (.ref a2)] below meth c s₁ [] 0 0 := Stand.of_body Bd
  have e0 : s₁.heap = h0 := by rw [← hh, Bd.state]; rfl
  have N0 := Fr.nil n0
  have pre0 : ∀ t, Steps p.tables e below (s₁.setTop (mkF m 0 #[.val (.ref a1), .val (.ref a2)] [])) t → Steps p.tables e below (s₁.setTop (entryFrame m #[(.ref a1), (.ref a2)] 2)) t := fun t k => castTop (ef_plus m a1 a2) k
  obtain ⟨T1, X1, e1, st1⟩ := getS2 X0 hx hZ hown (host := "") (Or.inl (hw _ (List.mem_of_getElem? (i := 20) rfl))) Via.refl e0 S_wC (g := (mkF m 1 #[.val (.ref a1), .val (.ref a2)] [(.ref a1)])) rfl (hb hby d4_1)
  have pre2 : ∀ t, Steps p.tables e below (T1.setTop (mkF m 4 #[.val (.ref a1), .val (.ref a2)] [(.ref wC), (.ref a1)])) t → Steps p.tables e below (s₁.setTop (entryFrame m #[(.ref a1), (.ref a2)] 2)) t := fun t k => pre0 t (by
      show Steps p.tables e below (s₁.setTop (mkF m 0 #[.val (.ref a1), .val (.ref a2)] [])) _
      refine XS.aloadN X0.here hx rfl (hb hby d4_0) rfl rfl ?_
      show Steps p.tables e below (s₁.setTop (mkF m 1 #[.val (.ref a1), .val (.ref a2)] [(.ref a1)])) _
      refine st1 _ ?_
      exact k)
  by_cases g3 : a1 = wC
  · skip
    obtain ⟨fs, hr, hrun, hended, hW, hsame⟩ := X1.leave (v := some (.ref a2)) (fun h => by rw [Bd.returns] at h; cases h)
    refine ⟨_, _, pre2 _ ?_, hrun, hended, _, _, rfl, ?_, ⟨_, rfl⟩, hW, hsame.mono (by decide) (by decide)⟩
    · show Steps p.tables e below (T1.setTop (mkF m 4 #[.val (.ref a1), .val (.ref a2)] [(.ref wC), (.ref a1)])) _
      refine Jvm.RoadKit.acmp (g := (mkF m 4 #[.val (.ref a1), .val (.ref a2)] [(.ref wC), (.ref a1)])) X1 hx rfl rfl rfl (pc0 := 4) (pc' := 7) (same := true) rfl (hb hby d4_4) rfl (decide_eq_true (congrArg Value.ref g3)) (by decide) (by decide) ?_
      show Steps p.tables e below (T1.setTop (mkF m 7 #[.val (.ref a1), .val (.ref a2)] [])) _
      refine XS.aloadN X1.here hx rfl (hb hby d4_7) rfl rfl ?_
      show Steps p.tables e below (T1.setTop (mkF m 8 #[.val (.ref a1), .val (.ref a2)] [(.ref a2)])) _
      jvm_step X1.here [X1.here.top, hx, (hb hby d4_8), X1.method', Bd.returns, Value.isRef, FieldType.isReference]
      first | (intro acts; rw [hr _ acts rfl rfl rfl]) | rw [hr _ _ rfl rfl rfl]
      exact Steps.refl _
    · exact ⟨by simp only [f_plus, if_pos g3], N0, e1⟩
  · skip
    obtain ⟨T4, X4, e4, st4⟩ := getS2 X1 hx hZ hown (host := "") (Or.inl (hw _ (List.mem_of_getElem? (i := 20) rfl))) Via.refl e1 S_wC (g := (mkF m 10 #[.val (.ref a1), .val (.ref a2)] [(.ref a2)])) rfl (hb hby d4_10)
    have pre5 : ∀ t, Steps p.tables e below (T4.setTop (mkF m 13 #[.val (.ref a1), .val (.ref a2)] [(.ref wC), (.ref a2)])) t → Steps p.tables e below (s₁.setTop (entryFrame m #[(.ref a1), (.ref a2)] 2)) t := fun t k => pre2 t (by
        show Steps p.tables e below (T1.setTop (mkF m 4 #[.val (.ref a1), .val (.ref a2)] [(.ref wC), (.ref a1)])) _
        refine Jvm.RoadKit.acmp (g := (mkF m 4 #[.val (.ref a1), .val (.ref a2)] [(.ref wC), (.ref a1)])) X1 hx rfl rfl rfl (pc0 := 4) (pc' := 9) (same := false) rfl (hb hby d4_4) rfl (decide_eq_false fun q => g3 (Value.ref.inj q)) (by decide) (by decide) ?_
        show Steps p.tables e below (T1.setTop (mkF m 9 #[.val (.ref a1), .val (.ref a2)] [])) _
        refine XS.aloadN X1.here hx rfl (hb hby d4_9) rfl rfl ?_
        show Steps p.tables e below (T1.setTop (mkF m 10 #[.val (.ref a1), .val (.ref a2)] [(.ref a2)])) _
        refine st4 _ ?_
        exact k)
    by_cases g6 : a2 = wC
    · skip
      obtain ⟨fs, hr, hrun, hended, hW, hsame⟩ := X4.leave (v := some (.ref a1)) (fun h => by rw [Bd.returns] at h; cases h)
      refine ⟨_, _, pre5 _ ?_, hrun, hended, _, _, rfl, ?_, ⟨_, rfl⟩, hW, hsame.mono (by decide) (by decide)⟩
      · show Steps p.tables e below (T4.setTop (mkF m 13 #[.val (.ref a1), .val (.ref a2)] [(.ref wC), (.ref a2)])) _
        refine Jvm.RoadKit.acmp (g := (mkF m 13 #[.val (.ref a1), .val (.ref a2)] [(.ref wC), (.ref a2)])) X4 hx rfl rfl rfl (pc0 := 13) (pc' := 21) (same := true) rfl (hb hby d4_13) rfl (decide_eq_true (congrArg Value.ref g6)) (by decide) (by decide) ?_
        show Steps p.tables e below (T4.setTop (mkF m 21 #[.val (.ref a1), .val (.ref a2)] [])) _
        refine XS.aloadN X4.here hx rfl (hb hby d4_21) rfl rfl ?_
        show Steps p.tables e below (T4.setTop (mkF m 22 #[.val (.ref a1), .val (.ref a2)] [(.ref a1)])) _
        refine XS.goto X4.here hx rfl (pc0 := 22) (pc' := 28) rfl (hb hby d4_22) (by decide) (by decide) ?_
        show Steps p.tables e below (T4.setTop (mkF m 28 #[.val (.ref a1), .val (.ref a2)] [(.ref a1)])) _
        jvm_step X4.here [X4.here.top, hx, (hb hby d4_28), X4.method', Bd.returns, Value.isRef, FieldType.isReference]
        first | (intro acts; rw [hr _ acts rfl rfl rfl]) | rw [hr _ _ rfl rfl rfl]
        exact Steps.refl _
      · exact ⟨by simp only [f_plus, if_neg g3, if_pos g6], N0, e4⟩
    · skip
      have pre7 : ∀ t, Steps p.tables e below (T4.setTop (mkF m 18 #[.val (.ref a1), .val (.ref a2)] [(.ref a1), (.ref a2)])) t → Steps p.tables e below (s₁.setTop (entryFrame m #[(.ref a1), (.ref a2)] 2)) t := fun t k => pre5 t (by
          show Steps p.tables e below (T4.setTop (mkF m 13 #[.val (.ref a1), .val (.ref a2)] [(.ref wC), (.ref a2)])) _
          refine Jvm.RoadKit.acmp (g := (mkF m 13 #[.val (.ref a1), .val (.ref a2)] [(.ref wC), (.ref a2)])) X4 hx rfl rfl rfl (pc0 := 13) (pc' := 16) (same := false) rfl (hb hby d4_13) rfl (decide_eq_false fun q => g6 (Value.ref.inj q)) (by decide) (by decide) ?_
          show Steps p.tables e below (T4.setTop (mkF m 16 #[.val (.ref a1), .val (.ref a2)] [])) _
          refine XS.aloadN X4.here hx rfl (hb hby d4_16) rfl rfl ?_
          show Steps p.tables e below (T4.setTop (mkF m 17 #[.val (.ref a1), .val (.ref a2)] [(.ref a2)])) _
          refine XS.aloadN X4.here hx rfl (hb hby d4_17) rfl rfl ?_
          exact k)
      by_cases g8 : a2 = a1
      · skip
        obtain ⟨fs, hr, hrun, hended, hW, hsame⟩ := X4.leave (v := some (.ref a1)) (fun h => by rw [Bd.returns] at h; cases h)
        refine ⟨_, _, pre7 _ ?_, hrun, hended, _, _, rfl, ?_, ⟨_, rfl⟩, hW, hsame.mono (by decide) (by decide)⟩
        · show Steps p.tables e below (T4.setTop (mkF m 18 #[.val (.ref a1), .val (.ref a2)] [(.ref a1), (.ref a2)])) _
          refine Jvm.RoadKit.acmp (g := (mkF m 18 #[.val (.ref a1), .val (.ref a2)] [(.ref a1), (.ref a2)])) X4 hx rfl rfl rfl (pc0 := 18) (pc' := 21) (same := true) rfl (hb hby d4_18) rfl (decide_eq_true (congrArg Value.ref g8)) (by decide) (by decide) ?_
          show Steps p.tables e below (T4.setTop (mkF m 21 #[.val (.ref a1), .val (.ref a2)] [])) _
          refine XS.aloadN X4.here hx rfl (hb hby d4_21) rfl rfl ?_
          show Steps p.tables e below (T4.setTop (mkF m 22 #[.val (.ref a1), .val (.ref a2)] [(.ref a1)])) _
          refine XS.goto X4.here hx rfl (pc0 := 22) (pc' := 28) rfl (hb hby d4_22) (by decide) (by decide) ?_
          show Steps p.tables e below (T4.setTop (mkF m 28 #[.val (.ref a1), .val (.ref a2)] [(.ref a1)])) _
          jvm_step X4.here [X4.here.top, hx, (hb hby d4_28), X4.method', Bd.returns, Value.isRef, FieldType.isReference]
          first | (intro acts; rw [hr _ acts rfl rfl rfl]) | rw [hr _ _ rfl rfl rfl]
          exact Steps.refl _
        · exact ⟨by simp only [f_plus, if_neg g3, if_neg g6, if_pos g8], N0, e4⟩
      · skip
        obtain ⟨T9, X9, e9, st9⟩ := getS2 X4 hx hZ hown (host := "") (Or.inl (hw _ (List.mem_of_getElem? (i := 22) rfl))) Via.refl e4 S_wN (g := (mkF m 25 #[.val (.ref a1), .val (.ref a2)] [])) rfl (hb hby d4_25)
        obtain ⟨fs, hr, hrun, hended, hW, hsame⟩ := X9.leave (v := some (.ref wN)) (fun h => by rw [Bd.returns] at h; cases h)
        refine ⟨_, _, pre7 _ ?_, hrun, hended, _, _, rfl, ?_, ⟨_, rfl⟩, hW, hsame.mono (by decide) (by decide)⟩
        · show Steps p.tables e below (T4.setTop (mkF m 18 #[.val (.ref a1), .val (.ref a2)] [(.ref a1), (.ref a2)])) _
          refine Jvm.RoadKit.acmp (g := (mkF m 18 #[.val (.ref a1), .val (.ref a2)] [(.ref a1), (.ref a2)])) X4 hx rfl rfl rfl (pc0 := 18) (pc' := 25) (same := false) rfl (hb hby d4_18) rfl (decide_eq_false fun q => g8 (Value.ref.inj q)) (by decide) (by decide) ?_
          show Steps p.tables e below (T4.setTop (mkF m 25 #[.val (.ref a1), .val (.ref a2)] [])) _
          refine st9 _ ?_
          show Steps p.tables e below (T9.setTop (mkF m 28 #[.val (.ref a1), .val (.ref a2)] [(.ref wN)])) _
          jvm_step X9.here [X9.here.top, hx, (hb hby d4_28), X9.method', Bd.returns, Value.isRef, FieldType.isReference]
          first | (intro acts; rw [hr _ acts rfl rfl rfl]) | rw [hr _ _ rfl rfl rfl]
          exact Steps.refl _
        · exact ⟨by simp only [f_plus, if_neg g3, if_neg g6, if_neg g8], N0, e9⟩
theorem own_e {Z : State} {h0 : Heap} {wA wD wC wN : Addr} {k : Int32} (E_wA : Exa Z h0 wA "com/example/tumbleweir/tumbleweir/engine/Direction") (E_wD : Exa Z h0 wD "com/example/tumbleweir/tumbleweir/engine/Direction") (E_wC : Exa Z h0 wC "com/example/tumbleweir/tumbleweir/engine/Direction") (E_wN : Exa Z h0 wN "com/example/tumbleweir/tumbleweir/engine/Direction") : Exa Z h0 (f_of wA wD wC wN k) "com/example/tumbleweir/tumbleweir/engine/Direction" := by
  unfold f_of; split; · assumption
  split; · assumption
  split <;> assumption
def v_i (p1 : Int32) : Int32 := (p1 &&& (3 : Int32))
def v_j (p2 : Int32) : Int32 := (p2 &&& (3 : Int32))
def m_law_0 (wA : Addr) (wD : Addr) (wC : Addr) (wN : Addr) (p1 : Int32) (p2 : Int32) : Int32 := (if (f_mayGoUp wA wD wC wN (v_i p1)) = (0 : Int32) then (if (f_mayGoUp wA wD wC wN (v_j p2)) = (0 : Int32) then (0 : Int32) else (1 : Int32)) else (1 : Int32))
def m_law_1 (wA : Addr) (wD : Addr) (wC : Addr) (wN : Addr) (p1 : Int32) (p2 : Int32) : Int32 := (if (f_mayGoDown wA wD wC wN (v_i p1)) = (0 : Int32) then (if (f_mayGoDown wA wD wC wN (v_j p2)) = (0 : Int32) then (0 : Int32) else (1 : Int32)) else (1 : Int32))
def m_law_2 (wA : Addr) (wD : Addr) (wC : Addr) (wN : Addr) (p1 : Int32) (p2 : Int32) : Addr := (if (m_law_0 wA wD wC wN p1 p2) = (0 : Int32) then (if (m_law_1 wA wD wC wN p1 p2) = (0 : Int32) then wC else wD) else (if (m_law_1 wA wD wC wN p1 p2) = (0 : Int32) then wA else wN))
def lawP (wA : Addr) (wD : Addr) (wC : Addr) (wN : Addr) (p1 : Int32) (p2 : Int32) : Prop := (((f_plus wA wD wC wN (f_of wA wD wC wN (v_i p1)) (f_of wA wD wC wN (v_j p2))) = (m_law_2 wA wD wC wN p1 p2)) ∧ True)
set_option maxRecDepth 65536 in
set_option maxHeartbeats 40000000 in
theorem rm_law (l : Launch) (Z : State) (a0 : Array Value) (hw : ∀ d ∈ tables_1, d.before a0 Z = true) (ws : List Jvm.Cond) (wA : Addr) (wD : Addr) (wC : Addr) (wN : Addr) (p1 : Int32) (p2 : Int32) (h0 : Heap) (n0 : Nat) (Z0 : n0 ≤ h0.size) (S_wA : Sta Z h0 "com/example/tumbleweir/tumbleweir/engine/Direction" "ASCENDING" "Lcom/example/tumbleweir/tumbleweir/engine/Direction;" (.ref wA)) (S_wD : Sta Z h0 "com/example/tumbleweir/tumbleweir/engine/Direction" "DESCENDING" "Lcom/example/tumbleweir/tumbleweir/engine/Direction;" (.ref wD)) (S_wC : Sta Z h0 "com/example/tumbleweir/tumbleweir/engine/Direction" "CONSTANT" "Lcom/example/tumbleweir/tumbleweir/engine/Direction;" (.ref wC)) (S_wN : Sta Z h0 "com/example/tumbleweir/tumbleweir/engine/Direction" "NONE" "Lcom/example/tumbleweir/tumbleweir/engine/Direction;" (.ref wN)) (E_wA : Exa Z h0 wA "com/example/tumbleweir/tumbleweir/engine/Direction") (E_wD : Exa Z h0 wD "com/example/tumbleweir/tumbleweir/engine/Direction") (E_wC : Exa Z h0 wC "com/example/tumbleweir/tumbleweir/engine/Direction") (E_wN : Exa Z h0 wN "com/example/tumbleweir/tumbleweir/engine/Direction") (hp : lawP wA wD wC wN p1 p2) :
    MetFree l x (head1 (Jvm.Cond.code x code maxLocals ret :: ws) room_1) (fun a U => a = #[(.int p1), (.int p2)] ∧ Z.Warmed39 U.vm ∧ U.heap = h0) (fun _ _ _ _ _ => True) (fun _ U o U' => ∃ v L, o = .returned v ∧ LawQ n0 v U'.heap L ∧ FrameEnd U o U' L room_1.cells room_1.slots) := by
  refine MetFree.of_bodySF (plainFor_of_name pn_DirectionPlusPinLaw) hisR ?_
  intro p e s m args below meth c s₁ Bd hml0 hP hK
  obtain ⟨rfl, hZ, hh⟩ := hP
  have hx := Bd.exec
  have hby := Bd.bytes
  have hml : c.maxLocals = 8 := hml0
  have hown : s.vm.findClass "com/example/tumbleweir/tumbleweir/engine/DirectionPlusPinLaw" = some m.cls := findClass_of_methodNamed Bd.named
  have hnm := (name_of_methodNamed Bd.named Bd.method).1
  have X0 : Stand p l e room_1 s m #[(.int p1), (.int p2)] below meth c s₁ [] 0 0 := Stand.of_body Bd
  have e0 : s₁.heap = h0 := by rw [← hh, Bd.state]; rfl
  have N0 := Fr.nil n0
  have pre0 : ∀ t, Steps p.tables e below (s₁.setTop (mkF m 0 #[.val (.int p1), .val (.int p2), .unset, .unset, .unset, .unset, .unset, .unset] [])) t → Steps p.tables e below (s₁.setTop (entryFrame m #[(.int p1), (.int p2)] maxLocals)) t := fun t k => castTop (ef_law m p1 p2) k
  unfold lawP at hp
  have pre1 : ∀ t, Steps p.tables e below (s₁.setTop (mkF m 8 #[.val (.int p1), .val (.int p2), .val (.int (v_i p1)), .val (.int (v_j p2)), .unset, .unset, .unset, .unset] [])) t → Steps p.tables e below (s₁.setTop (entryFrame m #[(.int p1), (.int p2)] maxLocals)) t := fun t k => pre0 t (by
      show Steps p.tables e below (s₁.setTop (mkF m 0 #[.val (.int p1), .val (.int p2), .unset, .unset, .unset, .unset, .unset, .unset] [])) _
      refine XS.iloadN X0.here hx rfl (hb hby at_0) rfl ?_
      show Steps p.tables e below (s₁.setTop (mkF m 1 #[.val (.int p1), .val (.int p2), .unset, .unset, .unset, .unset, .unset, .unset] [(.int p1)])) _
      refine XS.iconst X0.here hx rfl (hb hby at_1) ?_
      show Steps p.tables e below (s₁.setTop (mkF m 2 #[.val (.int p1), .val (.int p2), .unset, .unset, .unset, .unset, .unset, .unset] [(.int (3 : Int32)), (.int p1)])) _
      refine XS.iand X0.here hx rfl (hb hby at_2) rfl ?_
      show Steps p.tables e below (s₁.setTop (mkF m 3 #[.val (.int p1), .val (.int p2), .unset, .unset, .unset, .unset, .unset, .unset] [(.int (v_i p1))])) _
      refine XS.istoreN X0.here hx rfl (hb hby at_3) rfl (l' := #[.val (.int p1), .val (.int p2), .val (.int (v_i p1)), .unset, .unset, .unset, .unset, .unset]) rfl ?_
      show Steps p.tables e below (s₁.setTop (mkF m 4 #[.val (.int p1), .val (.int p2), .val (.int (v_i p1)), .unset, .unset, .unset, .unset, .unset] [])) _
      refine XS.iloadN X0.here hx rfl (hb hby at_4) rfl ?_
      show Steps p.tables e below (s₁.setTop (mkF m 5 #[.val (.int p1), .val (.int p2), .val (.int (v_i p1)), .unset, .unset, .unset, .unset, .unset] [(.int p2)])) _
      refine XS.iconst X0.here hx rfl (hb hby at_5) ?_
      show Steps p.tables e below (s₁.setTop (mkF m 6 #[.val (.int p1), .val (.int p2), .val (.int (v_i p1)), .unset, .unset, .unset, .unset, .unset] [(.int (3 : Int32)), (.int p2)])) _
      refine XS.iand X0.here hx rfl (hb hby at_6) rfl ?_
      show Steps p.tables e below (s₁.setTop (mkF m 7 #[.val (.int p1), .val (.int p2), .val (.int (v_i p1)), .unset, .unset, .unset, .unset, .unset] [(.int (v_j p2))])) _
      refine XS.istoreN X0.here hx rfl (hb hby at_7) rfl (l' := #[.val (.int p1), .val (.int p2), .val (.int (v_i p1)), .val (.int (v_j p2)), .unset, .unset, .unset, .unset]) rfl ?_
      exact k)
  obtain ⟨T2, L2, X2, e2, N2, pre2⟩ : ∃ (T' : State) (L' : List Loc), Stand p l e room_1 s m #[(.int p1), (.int p2)] below meth c T' L' 0 0 ∧ T'.heap = h0 ∧ Fr n0 L' ∧ ∀ t, Steps p.tables e below (T'.setTop (mkF m 27 #[.val (.int p1), .val (.int p2), .val (.int (v_i p1)), .val (.int (v_j p2)), .unset, .unset, .unset, .unset] [(.int (m_law_0 wA wD wC wN p1 p2))])) t → Steps p.tables e below (s₁.setTop (entryFrame m #[(.int p1), (.int p2)] maxLocals)) t := by
    obtain ⟨_, _, ⟨T3, L3, k3, n3⟩, -, X3, ⟨Lc3, hQ3, l3, y3, z3⟩, st3⟩ := Jvm.LawKit.callS X0 hx (y := (⟨"com/example/tumbleweir/tumbleweir/engine/DirectionPlusPinLaw", "mayGoUp", "(I)Z"⟩ : MethodName)) hown (mvT hZ (hw _ (List.mem_of_getElem? (i := 0) rfl))) (mvT hZ (hw _ (List.mem_of_getElem? (i := 1) rfl))) (mvT hZ (hw _ (List.mem_of_getElem? (i := 2) rfl))) (mvT hZ (hw _ (List.mem_of_getElem? (i := 3) rfl))) (by decide) (backOf (W := 0) (rm_mayGoUp l Z a0 hw [] wA wD wC wN (v_i p1) h0 n0 Z0 S_wA S_wD S_wC S_wN) hZ (hw _ (List.mem_of_getElem? (i := 3) rfl)) (hw _ (List.mem_of_getElem? (i := 2) rfl)) (by decide) (by decide)) (g := (mkF m 9 #[.val (.int p1), .val (.int p2), .val (.int (v_i p1)), .val (.int (v_j p2)), .unset, .unset, .unset, .unset] [(.int (v_i p1))])) rfl (by rw [hml]; rfl) (argsL := [(.int (v_i p1))]) (rest := []) (lenOf pd__I_Z_4 rfl) rfl (by show 2 * 0 + _ ≤ _; exact Nat.le_of_eq rfl) (hb hby at_9) (fun _ _ => ⟨rfl, e0, (by decide : 0 + 0 ≤ _), (by decide : 0 + 0 ≤ _)⟩)
    dsimp only [Pt.U, Pt.locs, Pt.cells, Pt.slots] at X3 l3 y3 z3 st3 hQ3
    subst l3 y3 z3
    obtain ⟨rfl, N3q, e3⟩ := hQ3
    have N3 := Fr.app N0 N3q
    have pre4 : ∀ t, Steps p.tables e below (T3.setTop (mkF m 12 #[.val (.int p1), .val (.int p2), .val (.int (v_i p1)), .val (.int (v_j p2)), .unset, .unset, .unset, .unset] [(.int (f_mayGoUp wA wD wC wN (v_i p1)))])) t → Steps p.tables e below (s₁.setTop (entryFrame m #[(.int p1), (.int p2)] maxLocals)) t := fun t k => pre1 t (by
        show Steps p.tables e below (s₁.setTop (mkF m 8 #[.val (.int p1), .val (.int p2), .val (.int (v_i p1)), .val (.int (v_j p2)), .unset, .unset, .unset, .unset] [])) _
        refine XS.iloadN X0.here hx rfl (hb hby at_8) rfl ?_
        show Steps p.tables e below (s₁.setTop (mkF m 9 #[.val (.int p1), .val (.int p2), .val (.int (v_i p1)), .val (.int (v_j p2)), .unset, .unset, .unset, .unset] [(.int (v_i p1))])) _
        refine st3 _ ?_
        exact k)
    by_cases g5 : (f_mayGoUp wA wD wC wN (v_i p1)) = (0 : Int32)
    · skip
      obtain ⟨_, _, ⟨T6, L6, k6, n6⟩, -, X6, ⟨Lc6, hQ6, l6, y6, z6⟩, st6⟩ := Jvm.LawKit.callS X3 hx (y := (⟨"com/example/tumbleweir/tumbleweir/engine/DirectionPlusPinLaw", "mayGoUp", "(I)Z"⟩ : MethodName)) hown (mvT hZ (hw _ (List.mem_of_getElem? (i := 0) rfl))) (mvT hZ (hw _ (List.mem_of_getElem? (i := 1) rfl))) (mvT hZ (hw _ (List.mem_of_getElem? (i := 2) rfl))) (mvT hZ (hw _ (List.mem_of_getElem? (i := 3) rfl))) (by decide) (backOf (W := 0) (rm_mayGoUp l Z a0 hw [] wA wD wC wN (v_j p2) h0 n0 Z0 S_wA S_wD S_wC S_wN) hZ (hw _ (List.mem_of_getElem? (i := 3) rfl)) (hw _ (List.mem_of_getElem? (i := 2) rfl)) (by decide) (by decide)) (g := (mkF m 16 #[.val (.int p1), .val (.int p2), .val (.int (v_i p1)), .val (.int (v_j p2)), .unset, .unset, .unset, .unset] [(.int (v_j p2))])) rfl (by rw [hml]; rfl) (argsL := [(.int (v_j p2))]) (rest := []) (lenOf pd__I_Z_4 rfl) rfl (by show 2 * 0 + _ ≤ _; exact Nat.le_of_eq rfl) (hb hby at_16) (fun _ _ => ⟨rfl, e3, (by decide : 0 + 0 ≤ _), (by decide : 0 + 0 ≤ _)⟩)
      dsimp only [Pt.U, Pt.locs, Pt.cells, Pt.slots] at X6 l6 y6 z6 st6 hQ6
      subst l6 y6 z6
      obtain ⟨rfl, N6q, e6⟩ := hQ6
      have N6 := Fr.app N3 N6q
      have pre7 : ∀ t, Steps p.tables e below (T6.setTop (mkF m 19 #[.val (.int p1), .val (.int p2), .val (.int (v_i p1)), .val (.int (v_j p2)), .unset, .unset, .unset, .unset] [(.int (f_mayGoUp wA wD wC wN (v_j p2)))])) t → Steps p.tables e below (s₁.setTop (entryFrame m #[(.int p1), (.int p2)] maxLocals)) t := fun t k => pre4 t (by
          show Steps p.tables e below (T3.setTop (mkF m 12 #[.val (.int p1), .val (.int p2), .val (.int (v_i p1)), .val (.int (v_j p2)), .unset, .unset, .unset, .unset] [(.int (f_mayGoUp wA wD wC wN (v_i p1)))])) _
          refine XS.ifNo X3.here hx rfl (hb hby at_12) rfl ((if0 _ _).trans (teq g5).2) ?_
          show Steps p.tables e below (T3.setTop (mkF m 15 #[.val (.int p1), .val (.int p2), .val (.int (v_i p1)), .val (.int (v_j p2)), .unset, .unset, .unset, .unset] [])) _
          refine XS.iloadN X3.here hx rfl (hb hby at_15) rfl ?_
          show Steps p.tables e below (T3.setTop (mkF m 16 #[.val (.int p1), .val (.int p2), .val (.int (v_i p1)), .val (.int (v_j p2)), .unset, .unset, .unset, .unset] [(.int (v_j p2))])) _
          refine st6 _ ?_
          exact k)
      by_cases g8 : (f_mayGoUp wA wD wC wN (v_j p2)) = (0 : Int32)
      · skip
        simp only [m_law_0, if_pos g5, if_pos g8]
        exact ⟨T6, _, X6, e6, N6, fun t k => pre7 t (by
            show Steps p.tables e below (T6.setTop (mkF m 19 #[.val (.int p1), .val (.int p2), .val (.int (v_i p1)), .val (.int (v_j p2)), .unset, .unset, .unset, .unset] [(.int (f_mayGoUp wA wD wC wN (v_j p2)))])) _
            refine XS.ifYes X6.here hx rfl (pc0 := 19) (pc' := 26) rfl (hb hby at_19) rfl ((if0 _ _).trans (teq g8).1) (by decide) (by decide) ?_
            show Steps p.tables e below (T6.setTop (mkF m 26 #[.val (.int p1), .val (.int p2), .val (.int (v_i p1)), .val (.int (v_j p2)), .unset, .unset, .unset, .unset] [])) _
            refine XS.iconst X6.here hx rfl (hb hby at_26) ?_
            exact k)⟩
      · skip
        simp only [m_law_0, if_pos g5, if_neg g8]
        exact ⟨T6, _, X6, e6, N6, fun t k => pre7 t (by
            show Steps p.tables e below (T6.setTop (mkF m 19 #[.val (.int p1), .val (.int p2), .val (.int (v_i p1)), .val (.int (v_j p2)), .unset, .unset, .unset, .unset] [(.int (f_mayGoUp wA wD wC wN (v_j p2)))])) _
            refine XS.ifNo X6.here hx rfl (hb hby at_19) rfl ((if0 _ _).trans (feq g8).1) ?_
            show Steps p.tables e below (T6.setTop (mkF m 22 #[.val (.int p1), .val (.int p2), .val (.int (v_i p1)), .val (.int (v_j p2)), .unset, .unset, .unset, .unset] [])) _
            refine XS.iconst X6.here hx rfl (hb hby at_22) ?_
            show Steps p.tables e below (T6.setTop (mkF m 23 #[.val (.int p1), .val (.int p2), .val (.int (v_i p1)), .val (.int (v_j p2)), .unset, .unset, .unset, .unset] [(.int (1 : Int32))])) _
            refine XS.goto X6.here hx rfl (pc0 := 23) (pc' := 27) rfl (hb hby at_23) (by decide) (by decide) ?_
            exact k)⟩
    · skip
      simp only [m_law_0, if_neg g5]
      exact ⟨T3, _, X3, e3, N3, fun t k => pre4 t (by
          show Steps p.tables e below (T3.setTop (mkF m 12 #[.val (.int p1), .val (.int p2), .val (.int (v_i p1)), .val (.int (v_j p2)), .unset, .unset, .unset, .unset] [(.int (f_mayGoUp wA wD wC wN (v_i p1)))])) _
          refine XS.ifYes X3.here hx rfl (pc0 := 12) (pc' := 22) rfl (hb hby at_12) rfl ((if0 _ _).trans (feq g5).2) (by decide) (by decide) ?_
          show Steps p.tables e below (T3.setTop (mkF m 22 #[.val (.int p1), .val (.int p2), .val (.int (v_i p1)), .val (.int (v_j p2)), .unset, .unset, .unset, .unset] [])) _
          refine XS.iconst X3.here hx rfl (hb hby at_22) ?_
          show Steps p.tables e below (T3.setTop (mkF m 23 #[.val (.int p1), .val (.int p2), .val (.int (v_i p1)), .val (.int (v_j p2)), .unset, .unset, .unset, .unset] [(.int (1 : Int32))])) _
          refine XS.goto X3.here hx rfl (pc0 := 23) (pc' := 27) rfl (hb hby at_23) (by decide) (by decide) ?_
          exact k)⟩
  have pre9 : ∀ t, Steps p.tables e below (T2.setTop (mkF m 29 #[.val (.int p1), .val (.int p2), .val (.int (v_i p1)), .val (.int (v_j p2)), .val (.int (m_law_0 wA wD wC wN p1 p2)), .unset, .unset, .unset] [])) t → Steps p.tables e below (s₁.setTop (entryFrame m #[(.int p1), (.int p2)] maxLocals)) t := fun t k => pre2 t (by
      show Steps p.tables e below (T2.setTop (mkF m 27 #[.val (.int p1), .val (.int p2), .val (.int (v_i p1)), .val (.int (v_j p2)), .unset, .unset, .unset, .unset] [(.int (m_law_0 wA wD wC wN p1 p2))])) _
      refine XS.istore X2.here hx rfl (hb hby at_27) rfl (l' := #[.val (.int p1), .val (.int p2), .val (.int (v_i p1)), .val (.int (v_j p2)), .val (.int (m_law_0 wA wD wC wN p1 p2)), .unset, .unset, .unset]) rfl ?_
      exact k)
  obtain ⟨T10, L10, X10, e10, N10, pre10⟩ : ∃ (T' : State) (L' : List Loc), Stand p l e room_1 s m #[(.int p1), (.int p2)] below meth c T' L' 0 0 ∧ T'.heap = h0 ∧ Fr n0 L' ∧ ∀ t, Steps p.tables e below (T'.setTop (mkF m 48 #[.val (.int p1), .val (.int p2), .val (.int (v_i p1)), .val (.int (v_j p2)), .val (.int (m_law_0 wA wD wC wN p1 p2)), .unset, .unset, .unset] [(.int (m_law_1 wA wD wC wN p1 p2))])) t → Steps p.tables e below (s₁.setTop (entryFrame m #[(.int p1), (.int p2)] maxLocals)) t := by
    obtain ⟨_, _, ⟨T11, L11, k11, n11⟩, -, X11, ⟨Lc11, hQ11, l11, y11, z11⟩, st11⟩ := Jvm.LawKit.callS X2 hx (y := (⟨"com/example/tumbleweir/tumbleweir/engine/DirectionPlusPinLaw", "mayGoDown", "(I)Z"⟩ : MethodName)) hown (mvT hZ (hw _ (List.mem_of_getElem? (i := 4) rfl))) (mvT hZ (hw _ (List.mem_of_getElem? (i := 5) rfl))) (mvT hZ (hw _ (List.mem_of_getElem? (i := 2) rfl))) (mvT hZ (hw _ (List.mem_of_getElem? (i := 6) rfl))) (by decide) (backOf (W := 0) (rm_mayGoDown l Z a0 hw [] wA wD wC wN (v_i p1) h0 n0 Z0 S_wA S_wD S_wC S_wN) hZ (hw _ (List.mem_of_getElem? (i := 6) rfl)) (hw _ (List.mem_of_getElem? (i := 2) rfl)) (by decide) (by decide)) (g := (mkF m 30 #[.val (.int p1), .val (.int p2), .val (.int (v_i p1)), .val (.int (v_j p2)), .val (.int (m_law_0 wA wD wC wN p1 p2)), .unset, .unset, .unset] [(.int (v_i p1))])) rfl (by rw [hml]; rfl) (argsL := [(.int (v_i p1))]) (rest := []) (lenOf pd__I_Z_4 rfl) rfl (by show 2 * 0 + _ ≤ _; exact Nat.le_of_eq rfl) (hb hby at_30) (fun _ _ => ⟨rfl, e2, (by decide : 0 + 0 ≤ _), (by decide : 0 + 0 ≤ _)⟩)
    dsimp only [Pt.U, Pt.locs, Pt.cells, Pt.slots] at X11 l11 y11 z11 st11 hQ11
    subst l11 y11 z11
    obtain ⟨rfl, N11q, e11⟩ := hQ11
    have N11 := Fr.app N2 N11q
    have pre12 : ∀ t, Steps p.tables e below (T11.setTop (mkF m 33 #[.val (.int p1), .val (.int p2), .val (.int (v_i p1)), .val (.int (v_j p2)), .val (.int (m_law_0 wA wD wC wN p1 p2)), .unset, .unset, .unset] [(.int (f_mayGoDown wA wD wC wN (v_i p1)))])) t → Steps p.tables e below (s₁.setTop (entryFrame m #[(.int p1), (.int p2)] maxLocals)) t := fun t k => pre9 t (by
        show Steps p.tables e below (T2.setTop (mkF m 29 #[.val (.int p1), .val (.int p2), .val (.int (v_i p1)), .val (.int (v_j p2)), .val (.int (m_law_0 wA wD wC wN p1 p2)), .unset, .unset, .unset] [])) _
        refine XS.iloadN X2.here hx rfl (hb hby at_29) rfl ?_
        show Steps p.tables e below (T2.setTop (mkF m 30 #[.val (.int p1), .val (.int p2), .val (.int (v_i p1)), .val (.int (v_j p2)), .val (.int (m_law_0 wA wD wC wN p1 p2)), .unset, .unset, .unset] [(.int (v_i p1))])) _
        refine st11 _ ?_
        exact k)
    by_cases g13 : (f_mayGoDown wA wD wC wN (v_i p1)) = (0 : Int32)
    · skip
      obtain ⟨_, _, ⟨T14, L14, k14, n14⟩, -, X14, ⟨Lc14, hQ14, l14, y14, z14⟩, st14⟩ := Jvm.LawKit.callS X11 hx (y := (⟨"com/example/tumbleweir/tumbleweir/engine/DirectionPlusPinLaw", "mayGoDown", "(I)Z"⟩ : MethodName)) hown (mvT hZ (hw _ (List.mem_of_getElem? (i := 4) rfl))) (mvT hZ (hw _ (List.mem_of_getElem? (i := 5) rfl))) (mvT hZ (hw _ (List.mem_of_getElem? (i := 2) rfl))) (mvT hZ (hw _ (List.mem_of_getElem? (i := 6) rfl))) (by decide) (backOf (W := 0) (rm_mayGoDown l Z a0 hw [] wA wD wC wN (v_j p2) h0 n0 Z0 S_wA S_wD S_wC S_wN) hZ (hw _ (List.mem_of_getElem? (i := 6) rfl)) (hw _ (List.mem_of_getElem? (i := 2) rfl)) (by decide) (by decide)) (g := (mkF m 37 #[.val (.int p1), .val (.int p2), .val (.int (v_i p1)), .val (.int (v_j p2)), .val (.int (m_law_0 wA wD wC wN p1 p2)), .unset, .unset, .unset] [(.int (v_j p2))])) rfl (by rw [hml]; rfl) (argsL := [(.int (v_j p2))]) (rest := []) (lenOf pd__I_Z_4 rfl) rfl (by show 2 * 0 + _ ≤ _; exact Nat.le_of_eq rfl) (hb hby at_37) (fun _ _ => ⟨rfl, e11, (by decide : 0 + 0 ≤ _), (by decide : 0 + 0 ≤ _)⟩)
      dsimp only [Pt.U, Pt.locs, Pt.cells, Pt.slots] at X14 l14 y14 z14 st14 hQ14
      subst l14 y14 z14
      obtain ⟨rfl, N14q, e14⟩ := hQ14
      have N14 := Fr.app N11 N14q
      have pre15 : ∀ t, Steps p.tables e below (T14.setTop (mkF m 40 #[.val (.int p1), .val (.int p2), .val (.int (v_i p1)), .val (.int (v_j p2)), .val (.int (m_law_0 wA wD wC wN p1 p2)), .unset, .unset, .unset] [(.int (f_mayGoDown wA wD wC wN (v_j p2)))])) t → Steps p.tables e below (s₁.setTop (entryFrame m #[(.int p1), (.int p2)] maxLocals)) t := fun t k => pre12 t (by
          show Steps p.tables e below (T11.setTop (mkF m 33 #[.val (.int p1), .val (.int p2), .val (.int (v_i p1)), .val (.int (v_j p2)), .val (.int (m_law_0 wA wD wC wN p1 p2)), .unset, .unset, .unset] [(.int (f_mayGoDown wA wD wC wN (v_i p1)))])) _
          refine XS.ifNo X11.here hx rfl (hb hby at_33) rfl ((if0 _ _).trans (teq g13).2) ?_
          show Steps p.tables e below (T11.setTop (mkF m 36 #[.val (.int p1), .val (.int p2), .val (.int (v_i p1)), .val (.int (v_j p2)), .val (.int (m_law_0 wA wD wC wN p1 p2)), .unset, .unset, .unset] [])) _
          refine XS.iloadN X11.here hx rfl (hb hby at_36) rfl ?_
          show Steps p.tables e below (T11.setTop (mkF m 37 #[.val (.int p1), .val (.int p2), .val (.int (v_i p1)), .val (.int (v_j p2)), .val (.int (m_law_0 wA wD wC wN p1 p2)), .unset, .unset, .unset] [(.int (v_j p2))])) _
          refine st14 _ ?_
          exact k)
      by_cases g16 : (f_mayGoDown wA wD wC wN (v_j p2)) = (0 : Int32)
      · skip
        simp only [m_law_1, if_pos g13, if_pos g16]
        exact ⟨T14, _, X14, e14, N14, fun t k => pre15 t (by
            show Steps p.tables e below (T14.setTop (mkF m 40 #[.val (.int p1), .val (.int p2), .val (.int (v_i p1)), .val (.int (v_j p2)), .val (.int (m_law_0 wA wD wC wN p1 p2)), .unset, .unset, .unset] [(.int (f_mayGoDown wA wD wC wN (v_j p2)))])) _
            refine XS.ifYes X14.here hx rfl (pc0 := 40) (pc' := 47) rfl (hb hby at_40) rfl ((if0 _ _).trans (teq g16).1) (by decide) (by decide) ?_
            show Steps p.tables e below (T14.setTop (mkF m 47 #[.val (.int p1), .val (.int p2), .val (.int (v_i p1)), .val (.int (v_j p2)), .val (.int (m_law_0 wA wD wC wN p1 p2)), .unset, .unset, .unset] [])) _
            refine XS.iconst X14.here hx rfl (hb hby at_47) ?_
            exact k)⟩
      · skip
        simp only [m_law_1, if_pos g13, if_neg g16]
        exact ⟨T14, _, X14, e14, N14, fun t k => pre15 t (by
            show Steps p.tables e below (T14.setTop (mkF m 40 #[.val (.int p1), .val (.int p2), .val (.int (v_i p1)), .val (.int (v_j p2)), .val (.int (m_law_0 wA wD wC wN p1 p2)), .unset, .unset, .unset] [(.int (f_mayGoDown wA wD wC wN (v_j p2)))])) _
            refine XS.ifNo X14.here hx rfl (hb hby at_40) rfl ((if0 _ _).trans (feq g16).1) ?_
            show Steps p.tables e below (T14.setTop (mkF m 43 #[.val (.int p1), .val (.int p2), .val (.int (v_i p1)), .val (.int (v_j p2)), .val (.int (m_law_0 wA wD wC wN p1 p2)), .unset, .unset, .unset] [])) _
            refine XS.iconst X14.here hx rfl (hb hby at_43) ?_
            show Steps p.tables e below (T14.setTop (mkF m 44 #[.val (.int p1), .val (.int p2), .val (.int (v_i p1)), .val (.int (v_j p2)), .val (.int (m_law_0 wA wD wC wN p1 p2)), .unset, .unset, .unset] [(.int (1 : Int32))])) _
            refine XS.goto X14.here hx rfl (pc0 := 44) (pc' := 48) rfl (hb hby at_44) (by decide) (by decide) ?_
            exact k)⟩
    · skip
      simp only [m_law_1, if_neg g13]
      exact ⟨T11, _, X11, e11, N11, fun t k => pre12 t (by
          show Steps p.tables e below (T11.setTop (mkF m 33 #[.val (.int p1), .val (.int p2), .val (.int (v_i p1)), .val (.int (v_j p2)), .val (.int (m_law_0 wA wD wC wN p1 p2)), .unset, .unset, .unset] [(.int (f_mayGoDown wA wD wC wN (v_i p1)))])) _
          refine XS.ifYes X11.here hx rfl (pc0 := 33) (pc' := 43) rfl (hb hby at_33) rfl ((if0 _ _).trans (feq g13).2) (by decide) (by decide) ?_
          show Steps p.tables e below (T11.setTop (mkF m 43 #[.val (.int p1), .val (.int p2), .val (.int (v_i p1)), .val (.int (v_j p2)), .val (.int (m_law_0 wA wD wC wN p1 p2)), .unset, .unset, .unset] [])) _
          refine XS.iconst X11.here hx rfl (hb hby at_43) ?_
          show Steps p.tables e below (T11.setTop (mkF m 44 #[.val (.int p1), .val (.int p2), .val (.int (v_i p1)), .val (.int (v_j p2)), .val (.int (m_law_0 wA wD wC wN p1 p2)), .unset, .unset, .unset] [(.int (1 : Int32))])) _
          refine XS.goto X11.here hx rfl (pc0 := 44) (pc' := 48) rfl (hb hby at_44) (by decide) (by decide) ?_
          exact k)⟩
  have pre17 : ∀ t, Steps p.tables e below (T10.setTop (mkF m 50 #[.val (.int p1), .val (.int p2), .val (.int (v_i p1)), .val (.int (v_j p2)), .val (.int (m_law_0 wA wD wC wN p1 p2)), .val (.int (m_law_1 wA wD wC wN p1 p2)), .unset, .unset] [])) t → Steps p.tables e below (s₁.setTop (entryFrame m #[(.int p1), (.int p2)] maxLocals)) t := fun t k => pre10 t (by
      show Steps p.tables e below (T10.setTop (mkF m 48 #[.val (.int p1), .val (.int p2), .val (.int (v_i p1)), .val (.int (v_j p2)), .val (.int (m_law_0 wA wD wC wN p1 p2)), .unset, .unset, .unset] [(.int (m_law_1 wA wD wC wN p1 p2))])) _
      refine XS.istore X10.here hx rfl (hb hby at_48) rfl (l' := #[.val (.int p1), .val (.int p2), .val (.int (v_i p1)), .val (.int (v_j p2)), .val (.int (m_law_0 wA wD wC wN p1 p2)), .val (.int (m_law_1 wA wD wC wN p1 p2)), .unset, .unset]) rfl ?_
      exact k)
  obtain ⟨T18, L18, X18, e18, N18, pre18⟩ : ∃ (T' : State) (L' : List Loc), Stand p l e room_1 s m #[(.int p1), (.int p2)] below meth c T' L' 0 0 ∧ T'.heap = h0 ∧ Fr n0 L' ∧ ∀ t, Steps p.tables e below (T'.setTop (mkF m 90 #[.val (.int p1), .val (.int p2), .val (.int (v_i p1)), .val (.int (v_j p2)), .val (.int (m_law_0 wA wD wC wN p1 p2)), .val (.int (m_law_1 wA wD wC wN p1 p2)), .val (.ref (m_law_2 wA wD wC wN p1 p2)), .unset] [])) t → Steps p.tables e below (s₁.setTop (entryFrame m #[(.int p1), (.int p2)] maxLocals)) t := by
    have pre19 : ∀ t, Steps p.tables e below (T10.setTop (mkF m 52 #[.val (.int p1), .val (.int p2), .val (.int (v_i p1)), .val (.int (v_j p2)), .val (.int (m_law_0 wA wD wC wN p1 p2)), .val (.int (m_law_1 wA wD wC wN p1 p2)), .unset, .unset] [(.int (m_law_0 wA wD wC wN p1 p2))])) t → Steps p.tables e below (s₁.setTop (entryFrame m #[(.int p1), (.int p2)] maxLocals)) t := fun t k => pre17 t (by
        show Steps p.tables e below (T10.setTop (mkF m 50 #[.val (.int p1), .val (.int p2), .val (.int (v_i p1)), .val (.int (v_j p2)), .val (.int (m_law_0 wA wD wC wN p1 p2)), .val (.int (m_law_1 wA wD wC wN p1 p2)), .unset, .unset] [])) _
        refine XS.iload X10.here hx rfl (hb hby at_50) rfl ?_
        exact k)
    by_cases g20 : (m_law_0 wA wD wC wN p1 p2) = (0 : Int32)
    · skip
      have pre21 : ∀ t, Steps p.tables e below (T10.setTop (mkF m 76 #[.val (.int p1), .val (.int p2), .val (.int (v_i p1)), .val (.int (v_j p2)), .val (.int (m_law_0 wA wD wC wN p1 p2)), .val (.int (m_law_1 wA wD wC wN p1 p2)), .unset, .unset] [(.int (m_law_1 wA wD wC wN p1 p2))])) t → Steps p.tables e below (s₁.setTop (entryFrame m #[(.int p1), (.int p2)] maxLocals)) t := fun t k => pre19 t (by
          show Steps p.tables e below (T10.setTop (mkF m 52 #[.val (.int p1), .val (.int p2), .val (.int (v_i p1)), .val (.int (v_j p2)), .val (.int (m_law_0 wA wD wC wN p1 p2)), .val (.int (m_law_1 wA wD wC wN p1 p2)), .unset, .unset] [(.int (m_law_0 wA wD wC wN p1 p2))])) _
          refine XS.ifYes X10.here hx rfl (pc0 := 52) (pc' := 74) rfl (hb hby at_52) rfl ((if0 _ _).trans (teq g20).1) (by decide) (by decide) ?_
          show Steps p.tables e below (T10.setTop (mkF m 74 #[.val (.int p1), .val (.int p2), .val (.int (v_i p1)), .val (.int (v_j p2)), .val (.int (m_law_0 wA wD wC wN p1 p2)), .val (.int (m_law_1 wA wD wC wN p1 p2)), .unset, .unset] [])) _
          refine XS.iload X10.here hx rfl (hb hby at_74) rfl ?_
          exact k)
      by_cases g22 : (m_law_1 wA wD wC wN p1 p2) = (0 : Int32)
      · skip
        obtain ⟨T23, X23, e23, st23⟩ := getS2 X10 hx hZ hown (host := "") (Or.inl (hw _ (List.mem_of_getElem? (i := 25) rfl))) Via.refl e10 S_wC (g := (mkF m 85 #[.val (.int p1), .val (.int p2), .val (.int (v_i p1)), .val (.int (v_j p2)), .val (.int (m_law_0 wA wD wC wN p1 p2)), .val (.int (m_law_1 wA wD wC wN p1 p2)), .unset, .unset] [])) rfl (hb hby at_85)
        simp only [m_law_2, if_pos g20, if_pos g22]
        exact ⟨T23, _, X23, e23, N10, fun t k => pre21 t (by
            show Steps p.tables e below (T10.setTop (mkF m 76 #[.val (.int p1), .val (.int p2), .val (.int (v_i p1)), .val (.int (v_j p2)), .val (.int (m_law_0 wA wD wC wN p1 p2)), .val (.int (m_law_1 wA wD wC wN p1 p2)), .unset, .unset] [(.int (m_law_1 wA wD wC wN p1 p2))])) _
            refine XS.ifYes X10.here hx rfl (pc0 := 76) (pc' := 85) rfl (hb hby at_76) rfl ((if0 _ _).trans (teq g22).1) (by decide) (by decide) ?_
            show Steps p.tables e below (T10.setTop (mkF m 85 #[.val (.int p1), .val (.int p2), .val (.int (v_i p1)), .val (.int (v_j p2)), .val (.int (m_law_0 wA wD wC wN p1 p2)), .val (.int (m_law_1 wA wD wC wN p1 p2)), .unset, .unset] [])) _
            refine st23 _ ?_
            show Steps p.tables e below (T23.setTop (mkF m 88 #[.val (.int p1), .val (.int p2), .val (.int (v_i p1)), .val (.int (v_j p2)), .val (.int (m_law_0 wA wD wC wN p1 p2)), .val (.int (m_law_1 wA wD wC wN p1 p2)), .unset, .unset] [(.ref wC)])) _
            refine XS.astore X23.here hx rfl (hb hby at_88) rfl rfl (l' := #[.val (.int p1), .val (.int p2), .val (.int (v_i p1)), .val (.int (v_j p2)), .val (.int (m_law_0 wA wD wC wN p1 p2)), .val (.int (m_law_1 wA wD wC wN p1 p2)), .val (.ref wC), .unset]) rfl ?_
            exact k)⟩
      · skip
        obtain ⟨T24, X24, e24, st24⟩ := getS2 X10 hx hZ hown (host := "") (Or.inl (hw _ (List.mem_of_getElem? (i := 23) rfl))) Via.refl e10 S_wD (g := (mkF m 79 #[.val (.int p1), .val (.int p2), .val (.int (v_i p1)), .val (.int (v_j p2)), .val (.int (m_law_0 wA wD wC wN p1 p2)), .val (.int (m_law_1 wA wD wC wN p1 p2)), .unset, .unset] [])) rfl (hb hby at_79)
        simp only [m_law_2, if_pos g20, if_neg g22]
        exact ⟨T24, _, X24, e24, N10, fun t k => pre21 t (by
            show Steps p.tables e below (T10.setTop (mkF m 76 #[.val (.int p1), .val (.int p2), .val (.int (v_i p1)), .val (.int (v_j p2)), .val (.int (m_law_0 wA wD wC wN p1 p2)), .val (.int (m_law_1 wA wD wC wN p1 p2)), .unset, .unset] [(.int (m_law_1 wA wD wC wN p1 p2))])) _
            refine XS.ifNo X10.here hx rfl (hb hby at_76) rfl ((if0 _ _).trans (feq g22).1) ?_
            show Steps p.tables e below (T10.setTop (mkF m 79 #[.val (.int p1), .val (.int p2), .val (.int (v_i p1)), .val (.int (v_j p2)), .val (.int (m_law_0 wA wD wC wN p1 p2)), .val (.int (m_law_1 wA wD wC wN p1 p2)), .unset, .unset] [])) _
            refine st24 _ ?_
            show Steps p.tables e below (T24.setTop (mkF m 82 #[.val (.int p1), .val (.int p2), .val (.int (v_i p1)), .val (.int (v_j p2)), .val (.int (m_law_0 wA wD wC wN p1 p2)), .val (.int (m_law_1 wA wD wC wN p1 p2)), .unset, .unset] [(.ref wD)])) _
            refine XS.goto X24.here hx rfl (pc0 := 82) (pc' := 88) rfl (hb hby at_82) (by decide) (by decide) ?_
            show Steps p.tables e below (T24.setTop (mkF m 88 #[.val (.int p1), .val (.int p2), .val (.int (v_i p1)), .val (.int (v_j p2)), .val (.int (m_law_0 wA wD wC wN p1 p2)), .val (.int (m_law_1 wA wD wC wN p1 p2)), .unset, .unset] [(.ref wD)])) _
            refine XS.astore X24.here hx rfl (hb hby at_88) rfl rfl (l' := #[.val (.int p1), .val (.int p2), .val (.int (v_i p1)), .val (.int (v_j p2)), .val (.int (m_law_0 wA wD wC wN p1 p2)), .val (.int (m_law_1 wA wD wC wN p1 p2)), .val (.ref wD), .unset]) rfl ?_
            exact k)⟩
    · skip
      have pre25 : ∀ t, Steps p.tables e below (T10.setTop (mkF m 57 #[.val (.int p1), .val (.int p2), .val (.int (v_i p1)), .val (.int (v_j p2)), .val (.int (m_law_0 wA wD wC wN p1 p2)), .val (.int (m_law_1 wA wD wC wN p1 p2)), .unset, .unset] [(.int (m_law_1 wA wD wC wN p1 p2))])) t → Steps p.tables e below (s₁.setTop (entryFrame m #[(.int p1), (.int p2)] maxLocals)) t := fun t k => pre19 t (by
          show Steps p.tables e below (T10.setTop (mkF m 52 #[.val (.int p1), .val (.int p2), .val (.int (v_i p1)), .val (.int (v_j p2)), .val (.int (m_law_0 wA wD wC wN p1 p2)), .val (.int (m_law_1 wA wD wC wN p1 p2)), .unset, .unset] [(.int (m_law_0 wA wD wC wN p1 p2))])) _
          refine XS.ifNo X10.here hx rfl (hb hby at_52) rfl ((if0 _ _).trans (feq g20).1) ?_
          show Steps p.tables e below (T10.setTop (mkF m 55 #[.val (.int p1), .val (.int p2), .val (.int (v_i p1)), .val (.int (v_j p2)), .val (.int (m_law_0 wA wD wC wN p1 p2)), .val (.int (m_law_1 wA wD wC wN p1 p2)), .unset, .unset] [])) _
          refine XS.iload X10.here hx rfl (hb hby at_55) rfl ?_
          exact k)
      by_cases g26 : (m_law_1 wA wD wC wN p1 p2) = (0 : Int32)
      · skip
        obtain ⟨T27, X27, e27, st27⟩ := getS2 X10 hx hZ hown (host := "") (Or.inl (hw _ (List.mem_of_getElem? (i := 13) rfl))) Via.refl e10 S_wA (g := (mkF m 66 #[.val (.int p1), .val (.int p2), .val (.int (v_i p1)), .val (.int (v_j p2)), .val (.int (m_law_0 wA wD wC wN p1 p2)), .val (.int (m_law_1 wA wD wC wN p1 p2)), .unset, .unset] [])) rfl (hb hby at_66)
        simp only [m_law_2, if_neg g20, if_pos g26]
        exact ⟨T27, _, X27, e27, N10, fun t k => pre25 t (by
            show Steps p.tables e below (T10.setTop (mkF m 57 #[.val (.int p1), .val (.int p2), .val (.int (v_i p1)), .val (.int (v_j p2)), .val (.int (m_law_0 wA wD wC wN p1 p2)), .val (.int (m_law_1 wA wD wC wN p1 p2)), .unset, .unset] [(.int (m_law_1 wA wD wC wN p1 p2))])) _
            refine XS.ifYes X10.here hx rfl (pc0 := 57) (pc' := 66) rfl (hb hby at_57) rfl ((if0 _ _).trans (teq g26).1) (by decide) (by decide) ?_
            show Steps p.tables e below (T10.setTop (mkF m 66 #[.val (.int p1), .val (.int p2), .val (.int (v_i p1)), .val (.int (v_j p2)), .val (.int (m_law_0 wA wD wC wN p1 p2)), .val (.int (m_law_1 wA wD wC wN p1 p2)), .unset, .unset] [])) _
            refine st27 _ ?_
            show Steps p.tables e below (T27.setTop (mkF m 69 #[.val (.int p1), .val (.int p2), .val (.int (v_i p1)), .val (.int (v_j p2)), .val (.int (m_law_0 wA wD wC wN p1 p2)), .val (.int (m_law_1 wA wD wC wN p1 p2)), .unset, .unset] [(.ref wA)])) _
            refine XS.astore X27.here hx rfl (hb hby at_69) rfl rfl (l' := #[.val (.int p1), .val (.int p2), .val (.int (v_i p1)), .val (.int (v_j p2)), .val (.int (m_law_0 wA wD wC wN p1 p2)), .val (.int (m_law_1 wA wD wC wN p1 p2)), .val (.ref wA), .unset]) rfl ?_
            show Steps p.tables e below (T27.setTop (mkF m 71 #[.val (.int p1), .val (.int p2), .val (.int (v_i p1)), .val (.int (v_j p2)), .val (.int (m_law_0 wA wD wC wN p1 p2)), .val (.int (m_law_1 wA wD wC wN p1 p2)), .val (.ref wA), .unset] [])) _
            refine XS.goto X27.here hx rfl (pc0 := 71) (pc' := 90) rfl (hb hby at_71) (by decide) (by decide) ?_
            exact k)⟩
      · skip
        obtain ⟨T28, X28, e28, st28⟩ := getS2 X10 hx hZ hown (host := "") (Or.inl (hw _ (List.mem_of_getElem? (i := 7) rfl))) Via.refl e10 S_wN (g := (mkF m 60 #[.val (.int p1), .val (.int p2), .val (.int (v_i p1)), .val (.int (v_j p2)), .val (.int (m_law_0 wA wD wC wN p1 p2)), .val (.int (m_law_1 wA wD wC wN p1 p2)), .unset, .unset] [])) rfl (hb hby at_60)
        simp only [m_law_2, if_neg g20, if_neg g26]
        exact ⟨T28, _, X28, e28, N10, fun t k => pre25 t (by
            show Steps p.tables e below (T10.setTop (mkF m 57 #[.val (.int p1), .val (.int p2), .val (.int (v_i p1)), .val (.int (v_j p2)), .val (.int (m_law_0 wA wD wC wN p1 p2)), .val (.int (m_law_1 wA wD wC wN p1 p2)), .unset, .unset] [(.int (m_law_1 wA wD wC wN p1 p2))])) _
            refine XS.ifNo X10.here hx rfl (hb hby at_57) rfl ((if0 _ _).trans (feq g26).1) ?_
            show Steps p.tables e below (T10.setTop (mkF m 60 #[.val (.int p1), .val (.int p2), .val (.int (v_i p1)), .val (.int (v_j p2)), .val (.int (m_law_0 wA wD wC wN p1 p2)), .val (.int (m_law_1 wA wD wC wN p1 p2)), .unset, .unset] [])) _
            refine st28 _ ?_
            show Steps p.tables e below (T28.setTop (mkF m 63 #[.val (.int p1), .val (.int p2), .val (.int (v_i p1)), .val (.int (v_j p2)), .val (.int (m_law_0 wA wD wC wN p1 p2)), .val (.int (m_law_1 wA wD wC wN p1 p2)), .unset, .unset] [(.ref wN)])) _
            refine XS.goto X28.here hx rfl (pc0 := 63) (pc' := 69) rfl (hb hby at_63) (by decide) (by decide) ?_
            show Steps p.tables e below (T28.setTop (mkF m 69 #[.val (.int p1), .val (.int p2), .val (.int (v_i p1)), .val (.int (v_j p2)), .val (.int (m_law_0 wA wD wC wN p1 p2)), .val (.int (m_law_1 wA wD wC wN p1 p2)), .unset, .unset] [(.ref wN)])) _
            refine XS.astore X28.here hx rfl (hb hby at_69) rfl rfl (l' := #[.val (.int p1), .val (.int p2), .val (.int (v_i p1)), .val (.int (v_j p2)), .val (.int (m_law_0 wA wD wC wN p1 p2)), .val (.int (m_law_1 wA wD wC wN p1 p2)), .val (.ref wN), .unset]) rfl ?_
            show Steps p.tables e below (T28.setTop (mkF m 71 #[.val (.int p1), .val (.int p2), .val (.int (v_i p1)), .val (.int (v_j p2)), .val (.int (m_law_0 wA wD wC wN p1 p2)), .val (.int (m_law_1 wA wD wC wN p1 p2)), .val (.ref wN), .unset] [])) _
            refine XS.goto X28.here hx rfl (pc0 := 71) (pc' := 90) rfl (hb hby at_71) (by decide) (by decide) ?_
            exact k)⟩
  obtain ⟨_, _, ⟨T29, L29, k29, n29⟩, -, X29, ⟨Lc29, hQ29, l29, y29, z29⟩, st29⟩ := Jvm.LawKit.callS X18 hx (y := (⟨"com/example/tumbleweir/tumbleweir/engine/DirectionPlusPinLaw", "of", "(I)Lcom/example/tumbleweir/tumbleweir/engine/Direction;"⟩ : MethodName)) hown (mvT hZ (hw _ (List.mem_of_getElem? (i := 10) rfl))) (mvT hZ (hw _ (List.mem_of_getElem? (i := 11) rfl))) (mvT hZ (hw _ (List.mem_of_getElem? (i := 2) rfl))) (mvT hZ (hw _ (List.mem_of_getElem? (i := 12) rfl))) (by decide) (backOf (W := 0) (rm_of l Z a0 hw [] wA wD wC wN (v_i p1) h0 n0 Z0 S_wA S_wD S_wC S_wN) hZ (hw _ (List.mem_of_getElem? (i := 12) rfl)) (hw _ (List.mem_of_getElem? (i := 2) rfl)) (by decide) (by decide)) (g := (mkF m 91 #[.val (.int p1), .val (.int p2), .val (.int (v_i p1)), .val (.int (v_j p2)), .val (.int (m_law_0 wA wD wC wN p1 p2)), .val (.int (m_law_1 wA wD wC wN p1 p2)), .val (.ref (m_law_2 wA wD wC wN p1 p2)), .unset] [(.int (v_i p1))])) rfl (by rw [hml]; rfl) (argsL := [(.int (v_i p1))]) (rest := []) (lenOf pd__tumbleweir_tumbleweir_engine_Direction__55 rfl) rfl (by show 2 * 0 + _ ≤ _; exact Nat.le_of_eq rfl) (hb hby at_91) (fun _ _ => ⟨rfl, e18, (by decide : 0 + 0 ≤ _), (by decide : 0 + 0 ≤ _)⟩)
  dsimp only [Pt.U, Pt.locs, Pt.cells, Pt.slots] at X29 l29 y29 z29 st29 hQ29
  subst l29 y29 z29
  obtain ⟨rfl, N29q, e29⟩ := hQ29
  have N29 := Fr.app N18 N29q
  obtain ⟨_, _, ⟨T30, L30, k30, n30⟩, -, X30, ⟨Lc30, hQ30, l30, y30, z30⟩, st30⟩ := Jvm.LawKit.callS X29 hx (y := (⟨"com/example/tumbleweir/tumbleweir/engine/DirectionPlusPinLaw", "of", "(I)Lcom/example/tumbleweir/tumbleweir/engine/Direction;"⟩ : MethodName)) hown (mvT hZ (hw _ (List.mem_of_getElem? (i := 10) rfl))) (mvT hZ (hw _ (List.mem_of_getElem? (i := 11) rfl))) (mvT hZ (hw _ (List.mem_of_getElem? (i := 2) rfl))) (mvT hZ (hw _ (List.mem_of_getElem? (i := 12) rfl))) (by decide) (backOf (W := 1) (rm_of l Z a0 hw [] wA wD wC wN (v_j p2) h0 n0 Z0 S_wA S_wD S_wC S_wN) hZ (hw _ (List.mem_of_getElem? (i := 12) rfl)) (hw _ (List.mem_of_getElem? (i := 2) rfl)) (by decide) (by decide)) (g := (mkF m 95 #[.val (.int p1), .val (.int p2), .val (.int (v_i p1)), .val (.int (v_j p2)), .val (.int (m_law_0 wA wD wC wN p1 p2)), .val (.int (m_law_1 wA wD wC wN p1 p2)), .val (.ref (m_law_2 wA wD wC wN p1 p2)), .unset] [(.int (v_j p2)), (.ref (f_of wA wD wC wN (v_i p1)))])) rfl (by rw [hml]; rfl) (argsL := [(.int (v_j p2))]) (rest := [(.ref (f_of wA wD wC wN (v_i p1)))]) (lenOf pd__tumbleweir_tumbleweir_engine_Direction__55 rfl) rfl (by show 2 * 0 + _ ≤ _; exact Nat.le_of_eq rfl) (hb hby at_95) (fun _ _ => ⟨rfl, e29, (by decide : 0 + 0 ≤ _), (by decide : 0 + 0 ≤ _)⟩)
  dsimp only [Pt.U, Pt.locs, Pt.cells, Pt.slots] at X30 l30 y30 z30 st30 hQ30
  subst l30 y30 z30
  obtain ⟨rfl, N30q, e30⟩ := hQ30
  have N30 := Fr.app N29 N30q
  obtain ⟨cq31, kq31, q31a, q31b, q31c⟩ := isOf hZ e30 (own_e E_wA E_wD E_wC E_wN)
  obtain ⟨_, _, ⟨T31, L31, k31, n31⟩, -, X31, ⟨Lc31, hQ31, l31, y31, z31⟩, st31⟩ := X30.virtualBack hx (y := (⟨"com/example/tumbleweir/tumbleweir/engine/Direction", "plus", "(Lcom/example/tumbleweir/tumbleweir/engine/Direction;)Lcom/example/tumbleweir/tumbleweir/engine/Direction;"⟩ : MethodName)) (z := (⟨"com/example/tumbleweir/tumbleweir/engine/Direction", "plus", "(Lcom/example/tumbleweir/tumbleweir/engine/Direction;)Lcom/example/tumbleweir/tumbleweir/engine/Direction;"⟩ : MethodName)) hown (mvT hZ (hw _ (List.mem_of_getElem? (i := 15) rfl))) (mvT hZ (hw _ (List.mem_of_getElem? (i := 16) rfl))) (notFace_of_selects (args := #[]) (mvT hZ (hw _ (List.mem_of_getElem? (i := 18) rfl)))) (mvT hZ (hw _ (List.mem_of_getElem? (i := 18) rfl))) (mvT hZ (hw _ (List.mem_of_getElem? (i := 17) rfl))) (by decide) (backOf (W := 0) (rm_plus l Z a0 hw [] wA wD wC wN (f_of wA wD wC wN (v_i p1)) (f_of wA wD wC wN (v_j p2)) h0 n0 Z0 S_wA S_wD S_wC S_wN) hZ (hw _ (List.mem_of_getElem? (i := 19) rfl)) (hw _ (List.mem_of_getElem? (i := 8) rfl)) (by decide) (by decide)) q31a q31c (g := (mkF m 98 #[.val (.int p1), .val (.int p2), .val (.int (v_i p1)), .val (.int (v_j p2)), .val (.int (m_law_0 wA wD wC wN p1 p2)), .val (.int (m_law_1 wA wD wC wN p1 p2)), .val (.ref (m_law_2 wA wD wC wN p1 p2)), .unset] [(.ref (f_of wA wD wC wN (v_j p2))), (.ref (f_of wA wD wC wN (v_i p1)))])) rfl (by rw [hml]; rfl) (Steps.refl _) (argsL := [(.ref (f_of wA wD wC wN (v_j p2)))]) (rest := []) (lenOf pd__tumbleweir_tumbleweir_engine_Direction__106 rfl) rfl (by show 2 * 0 + _ ≤ _; exact Nat.le_of_eq rfl) (hb hby at_98) (fun _ _ => ⟨rfl, e30, (by decide : 0 + 0 ≤ _), (by decide : 0 + 0 ≤ _)⟩)
  dsimp only [Pt.U, Pt.locs, Pt.cells, Pt.slots] at X31 l31 y31 z31 st31 hQ31
  subst l31 y31 z31
  obtain ⟨rfl, N31q, e31⟩ := hQ31
  have N31 := Fr.app N30 N31q
  obtain ⟨g32, hp⟩ := hp
  obtain ⟨fs, hr, hrun, hended, hW, hsame⟩ := X31.leave (v := some (.int (1 : Int32))) (fun h => by rw [Bd.returns] at h; cases h)
  refine ⟨_, _, pre18 _ ?_, hrun, hended, _, _, rfl, ?_, ⟨_, rfl⟩, hW, hsame.mono (by decide) (by decide)⟩
  · show Steps p.tables e below (T18.setTop (mkF m 90 #[.val (.int p1), .val (.int p2), .val (.int (v_i p1)), .val (.int (v_j p2)), .val (.int (m_law_0 wA wD wC wN p1 p2)), .val (.int (m_law_1 wA wD wC wN p1 p2)), .val (.ref (m_law_2 wA wD wC wN p1 p2)), .unset] [])) _
    refine XS.iloadN X18.here hx rfl (hb hby at_90) rfl ?_
    show Steps p.tables e below (T18.setTop (mkF m 91 #[.val (.int p1), .val (.int p2), .val (.int (v_i p1)), .val (.int (v_j p2)), .val (.int (m_law_0 wA wD wC wN p1 p2)), .val (.int (m_law_1 wA wD wC wN p1 p2)), .val (.ref (m_law_2 wA wD wC wN p1 p2)), .unset] [(.int (v_i p1))])) _
    refine st29 _ ?_
    show Steps p.tables e below (T29.setTop (mkF m 94 #[.val (.int p1), .val (.int p2), .val (.int (v_i p1)), .val (.int (v_j p2)), .val (.int (m_law_0 wA wD wC wN p1 p2)), .val (.int (m_law_1 wA wD wC wN p1 p2)), .val (.ref (m_law_2 wA wD wC wN p1 p2)), .unset] [(.ref (f_of wA wD wC wN (v_i p1)))])) _
    refine XS.iloadN X29.here hx rfl (hb hby at_94) rfl ?_
    show Steps p.tables e below (T29.setTop (mkF m 95 #[.val (.int p1), .val (.int p2), .val (.int (v_i p1)), .val (.int (v_j p2)), .val (.int (m_law_0 wA wD wC wN p1 p2)), .val (.int (m_law_1 wA wD wC wN p1 p2)), .val (.ref (m_law_2 wA wD wC wN p1 p2)), .unset] [(.int (v_j p2)), (.ref (f_of wA wD wC wN (v_i p1)))])) _
    refine st30 _ ?_
    show Steps p.tables e below (T30.setTop (mkF m 98 #[.val (.int p1), .val (.int p2), .val (.int (v_i p1)), .val (.int (v_j p2)), .val (.int (m_law_0 wA wD wC wN p1 p2)), .val (.int (m_law_1 wA wD wC wN p1 p2)), .val (.ref (m_law_2 wA wD wC wN p1 p2)), .unset] [(.ref (f_of wA wD wC wN (v_j p2))), (.ref (f_of wA wD wC wN (v_i p1)))])) _
    refine st31.trans ?_
    show Steps p.tables e below (T31.setTop (mkF m 101 #[.val (.int p1), .val (.int p2), .val (.int (v_i p1)), .val (.int (v_j p2)), .val (.int (m_law_0 wA wD wC wN p1 p2)), .val (.int (m_law_1 wA wD wC wN p1 p2)), .val (.ref (m_law_2 wA wD wC wN p1 p2)), .unset] [(.ref (f_plus wA wD wC wN (f_of wA wD wC wN (v_i p1)) (f_of wA wD wC wN (v_j p2))))])) _
    refine XS.astore X31.here hx rfl (hb hby at_101) rfl rfl (l' := #[.val (.int p1), .val (.int p2), .val (.int (v_i p1)), .val (.int (v_j p2)), .val (.int (m_law_0 wA wD wC wN p1 p2)), .val (.int (m_law_1 wA wD wC wN p1 p2)), .val (.ref (m_law_2 wA wD wC wN p1 p2)), .val (.ref (f_plus wA wD wC wN (f_of wA wD wC wN (v_i p1)) (f_of wA wD wC wN (v_j p2))))]) rfl ?_
    show Steps p.tables e below (T31.setTop (mkF m 103 #[.val (.int p1), .val (.int p2), .val (.int (v_i p1)), .val (.int (v_j p2)), .val (.int (m_law_0 wA wD wC wN p1 p2)), .val (.int (m_law_1 wA wD wC wN p1 p2)), .val (.ref (m_law_2 wA wD wC wN p1 p2)), .val (.ref (f_plus wA wD wC wN (f_of wA wD wC wN (v_i p1)) (f_of wA wD wC wN (v_j p2))))] [])) _
    refine XS.aload X31.here hx rfl (hb hby at_103) rfl rfl ?_
    show Steps p.tables e below (T31.setTop (mkF m 105 #[.val (.int p1), .val (.int p2), .val (.int (v_i p1)), .val (.int (v_j p2)), .val (.int (m_law_0 wA wD wC wN p1 p2)), .val (.int (m_law_1 wA wD wC wN p1 p2)), .val (.ref (m_law_2 wA wD wC wN p1 p2)), .val (.ref (f_plus wA wD wC wN (f_of wA wD wC wN (v_i p1)) (f_of wA wD wC wN (v_j p2))))] [(.ref (f_plus wA wD wC wN (f_of wA wD wC wN (v_i p1)) (f_of wA wD wC wN (v_j p2))))])) _
    refine XS.aload X31.here hx rfl (hb hby at_105) rfl rfl ?_
    show Steps p.tables e below (T31.setTop (mkF m 107 #[.val (.int p1), .val (.int p2), .val (.int (v_i p1)), .val (.int (v_j p2)), .val (.int (m_law_0 wA wD wC wN p1 p2)), .val (.int (m_law_1 wA wD wC wN p1 p2)), .val (.ref (m_law_2 wA wD wC wN p1 p2)), .val (.ref (f_plus wA wD wC wN (f_of wA wD wC wN (v_i p1)) (f_of wA wD wC wN (v_j p2))))] [(.ref (m_law_2 wA wD wC wN p1 p2)), (.ref (f_plus wA wD wC wN (f_of wA wD wC wN (v_i p1)) (f_of wA wD wC wN (v_j p2))))])) _
    refine Jvm.RoadKit.acmp (g := (mkF m 107 #[.val (.int p1), .val (.int p2), .val (.int (v_i p1)), .val (.int (v_j p2)), .val (.int (m_law_0 wA wD wC wN p1 p2)), .val (.int (m_law_1 wA wD wC wN p1 p2)), .val (.ref (m_law_2 wA wD wC wN p1 p2)), .val (.ref (f_plus wA wD wC wN (f_of wA wD wC wN (v_i p1)) (f_of wA wD wC wN (v_j p2))))] [(.ref (m_law_2 wA wD wC wN p1 p2)), (.ref (f_plus wA wD wC wN (f_of wA wD wC wN (v_i p1)) (f_of wA wD wC wN (v_j p2))))])) X31 hx rfl rfl rfl (pc0 := 107) (pc' := 110) (same := true) rfl (hb hby at_107) rfl (decide_eq_true (congrArg Value.ref g32)) (by decide) (by decide) ?_
    show Steps p.tables e below (T31.setTop (mkF m 110 #[.val (.int p1), .val (.int p2), .val (.int (v_i p1)), .val (.int (v_j p2)), .val (.int (m_law_0 wA wD wC wN p1 p2)), .val (.int (m_law_1 wA wD wC wN p1 p2)), .val (.ref (m_law_2 wA wD wC wN p1 p2)), .val (.ref (f_plus wA wD wC wN (f_of wA wD wC wN (v_i p1)) (f_of wA wD wC wN (v_j p2))))] [])) _
    refine XS.iconst X31.here hx rfl (hb hby at_110) ?_
    show Steps p.tables e below (T31.setTop (mkF m 111 #[.val (.int p1), .val (.int p2), .val (.int (v_i p1)), .val (.int (v_j p2)), .val (.int (m_law_0 wA wD wC wN p1 p2)), .val (.int (m_law_1 wA wD wC wN p1 p2)), .val (.ref (m_law_2 wA wD wC wN p1 p2)), .val (.ref (f_plus wA wD wC wN (f_of wA wD wC wN (v_i p1)) (f_of wA wD wC wN (v_j p2))))] [(.int (1 : Int32))])) _
    refine XS.goto X31.here hx rfl (pc0 := 111) (pc' := 115) rfl (hb hby at_111) (by decide) (by decide) ?_
    show Steps p.tables e below (T31.setTop (mkF m 115 #[.val (.int p1), .val (.int p2), .val (.int (v_i p1)), .val (.int (v_j p2)), .val (.int (m_law_0 wA wD wC wN p1 p2)), .val (.int (m_law_1 wA wD wC wN p1 p2)), .val (.ref (m_law_2 wA wD wC wN p1 p2)), .val (.ref (f_plus wA wD wC wN (f_of wA wD wC wN (v_i p1)) (f_of wA wD wC wN (v_j p2))))] [(.int (1 : Int32))])) _
    exact retN X31 hx (t := .boolean) Bd.returns (by simp) (hb hby at_115) hr
  · exact ⟨rfl, N31⟩
theorem own_and3 (x : Int32) : (x &&& (3 : Int32)) = 0 ∨ (x &&& (3 : Int32)) = 1 ∨ (x &&& (3 : Int32)) = 2 ∨ (x &&& (3 : Int32)) = 3 := by
  have h : (x &&& (3 : Int32)).toInt = x.toInt % 4 := c_mask x 3 2 (by decide) (by decide)
  have h4 : x.toInt % 4 = 0 ∨ x.toInt % 4 = 1 ∨ x.toInt % 4 = 2 ∨ x.toInt % 4 = 3 := by omega
  rcases h4 with q | q | q | q
  · exact Or.inl (Int32.toInt_inj.mp (by rw [h, q]; rfl))
  · exact Or.inr (Or.inl (Int32.toInt_inj.mp (by rw [h, q]; rfl)))
  · exact Or.inr (Or.inr (Or.inl (Int32.toInt_inj.mp (by rw [h, q]; rfl))))
  · exact Or.inr (Or.inr (Or.inr (Int32.toInt_inj.mp (by rw [h, q]; rfl))))

theorem own_plain {wA wD wC wN : Addr} {p1 p2 : Int32} (n0 : ¬ (wA = wD)) (n1 : ¬ (wA = wC)) (n2 : ¬ (wA = wN)) (n3 : ¬ (wD = wC)) (n4 : ¬ (wD = wN)) (n5 : ¬ (wC = wN)) : lawP wA wD wC wN p1 p2 := by
  have m0 : ¬ (wD = wA) := fun q => n0 q.symm
  have m1 : ¬ (wC = wA) := fun q => n1 q.symm
  have m2 : ¬ (wN = wA) := fun q => n2 q.symm
  have m3 : ¬ (wC = wD) := fun q => n3 q.symm
  have m4 : ¬ (wN = wD) := fun q => n4 q.symm
  have m5 : ¬ (wN = wC) := fun q => n5 q.symm
  refine ⟨?_, trivial⟩
  unfold m_law_2 m_law_1 m_law_0 v_i v_j
  rcases own_and3 p1 with h | h | h | h <;> rcases own_and3 p2 with h' | h' | h' | h' <;> rw [h, h'] <;> simp [f_plus, f_of, f_mayGoUp, f_mayGoDown, n0, m0, n1, m1, n2, m2, n3, m3, n4, m4, n5, m5]
set_option maxRecDepth 65536 in
set_option maxHeartbeats 40000000 in
theorem comes_1 {Post : Tables → Env → Array Value → State → Outcome → State → Prop} (hpost : ∀ tb e args s v u, (limb_1_1.after args s (.returned v) u = true ∧ limb_1_2.after args s (.returned v) u = true ∧ True) → FrameEnd s (.returned v) u (Jvm.fieldLocs frame_1_writes args s ++ Jvm.arrayLocs frame_1_arrays args s ++ Jvm.staticLocs frame_1_statics s) 0 0 → Post tb e args s (.returned v) u) :
    ArmFor flags0 classFile x code maxLocals ret World_1 tables_1 room_1 Calls_1 rest_1 Pre_1 Post := by
  intro l hfl _ _ p e ha hc hk s m args below hf hA hF happ hP
  obtain ⟨hcalls, hrest, hpre⟩ := hP
  obtain ⟨-, -, -, hnamed, -, -, -, hat⟩ := (Spec.applies_iff hf).mp happ
  obtain ⟨hg, hn⟩ := and_e (Cond.before_iff.mp (show (Jvm.Cond.and given_1 narrow_1).before args s = true from hpre))
  obtain ⟨gv0, gr0⟩ := and_e hg
  obtain ⟨gv1, gr1⟩ := and_e gr0
  obtain ⟨w0, w1, rfl⟩ : ∃ w0 w1 : Value, args = #[w0, w1] := by
    have hs : args.size = 2 := by simpa [Cond.value, given_1] using gv0
    obtain ⟨L⟩ := args
    match L, hs with
    | [w0, w1], _ => exact ⟨w0, w1, rfl⟩
  have hw := fun d (hd : d ∈ tables_1) => atoms_spec (ws := Jvm.Cond.code x code maxLocals ret :: tables_1) hat d (List.mem_cons_of_mem _ hd)
  obtain ⟨i0, ei0⟩ := is_v gv1
  obtain rfl : w0 = (.int i0) := Option.some.inj ei0
  obtain ⟨i1, ei1⟩ := is_v gr1
  obtain rfl : w1 = (.int i1) := Option.some.inj ei1
  obtain ⟨nv0, nr0⟩ := and_e hn
  obtain ⟨nv1, nr1⟩ := and_e nr0
  obtain ⟨nv2, nr2⟩ := and_e nr1
  obtain ⟨nv3, nr3⟩ := and_e nr2
  obtain ⟨nv4, nr4⟩ := and_e nr3
  obtain ⟨nv5, nr5⟩ := and_e nr4
  obtain ⟨nv6, nr6⟩ := and_e nr5
  obtain ⟨wN, ev_wN⟩ := exa_v nv0
  have S_wN : Sta s s.heap "com/example/tumbleweir/tumbleweir/engine/Direction" "NONE" "Lcom/example/tumbleweir/tumbleweir/engine/Direction;" (.ref wN) := Sta.start ev_wN (Or.inr ⟨(hw _ (List.mem_of_getElem? (i := 8) rfl)), (hw _ (List.mem_of_getElem? (i := 9) rfl))⟩)
  have E_wN : Exa s s.heap wN "com/example/tumbleweir/tumbleweir/engine/Direction" := Exa.start ev_wN nv0
  obtain ⟨wA, ev_wA⟩ := exa_v nv1
  have S_wA : Sta s s.heap "com/example/tumbleweir/tumbleweir/engine/Direction" "ASCENDING" "Lcom/example/tumbleweir/tumbleweir/engine/Direction;" (.ref wA) := Sta.start ev_wA (Or.inr ⟨(hw _ (List.mem_of_getElem? (i := 8) rfl)), (hw _ (List.mem_of_getElem? (i := 14) rfl))⟩)
  have E_wA : Exa s s.heap wA "com/example/tumbleweir/tumbleweir/engine/Direction" := Exa.start ev_wA nv1
  obtain ⟨wC, ev_wC⟩ := exa_v nv2
  have S_wC : Sta s s.heap "com/example/tumbleweir/tumbleweir/engine/Direction" "CONSTANT" "Lcom/example/tumbleweir/tumbleweir/engine/Direction;" (.ref wC) := Sta.start ev_wC (Or.inr ⟨(hw _ (List.mem_of_getElem? (i := 8) rfl)), (hw _ (List.mem_of_getElem? (i := 21) rfl))⟩)
  have E_wC : Exa s s.heap wC "com/example/tumbleweir/tumbleweir/engine/Direction" := Exa.start ev_wC nv2
  obtain ⟨wD, ev_wD⟩ := exa_v nv6
  have S_wD : Sta s s.heap "com/example/tumbleweir/tumbleweir/engine/Direction" "DESCENDING" "Lcom/example/tumbleweir/tumbleweir/engine/Direction;" (.ref wD) := Sta.start ev_wD (Or.inr ⟨(hw _ (List.mem_of_getElem? (i := 8) rfl)), (hw _ (List.mem_of_getElem? (i := 24) rfl))⟩)
  have E_wD : Exa s s.heap wD "com/example/tumbleweir/tumbleweir/engine/Direction" := Exa.start ev_wD nv6
  have F_ordinal_wA : Fld s s.heap wA "java/lang/Enum" "ordinal" "I" (.int (0 : Int32)) := own_fld ev_wA nv3 (Term.int_eval (0))
  have F_ordinal_wC : Fld s s.heap wC "java/lang/Enum" "ordinal" "I" (.int (2 : Int32)) := own_fld ev_wC nv4 (Term.int_eval (2))
  have F_ordinal_wN : Fld s s.heap wN "java/lang/Enum" "ordinal" "I" (.int (3 : Int32)) := own_fld ev_wN nv5 (Term.int_eval (3))
  have F_ordinal_wD : Fld s s.heap wD "java/lang/Enum" "ordinal" "I" (.int (1 : Int32)) := own_fld ev_wD nr6 (Term.int_eval (1))
  obtain ⟨n, o, h1, h2, h3, _, L, rfl, ⟨rfl, N⟩, hq⟩ := rm_law l s _ hw tables_1 wA wD wC wN i0 i1 s.heap s.heap.size (Nat.le_refl _) S_wA S_wD S_wC S_wN E_wA E_wD E_wC E_wN (own_plain (Fld.ne F_ordinal_wA F_ordinal_wD (by simp)) (Fld.ne F_ordinal_wA F_ordinal_wC (by simp)) (Fld.ne F_ordinal_wA F_ordinal_wN (by simp)) (Fld.ne F_ordinal_wD F_ordinal_wC (by simp)) (Fld.ne F_ordinal_wD F_ordinal_wN (by simp)) (Fld.ne F_ordinal_wC F_ordinal_wN (by simp))) p e ha hc hk s m _ below hf ((Spec.applies_iff_loose hf).mp happ).1 ⟨rfl, State.Warmed39.refl s, rfl⟩ trivial
  exact ⟨n, _, h1, h2, h3, hpost _ _ _ _ _ _ ⟨Cond.after_iff.mpr rfl, Cond.after_iff.mpr (eq_i res_at (Term.int_eval (1)) rfl), trivial⟩ ⟨hq.1, hq.2.1, (hq.2.2.sift fun y hy => Or.inr (N y hy)).mono (by decide) (by decide)⟩⟩
theorem main_1_1 : Claimed_1_1 := comes_1 fun _ _ _ _ _ _ h hF => ⟨h.1, hF⟩
theorem main_1_2 : Claimed_1_2 := comes_1 fun _ _ _ _ _ _ h hF => ⟨h.2.1, hF⟩

end Jvm.Pilot.@@N@@
namespace Jvm.Pilot.@@N@@
open Jvm Jvm.ClassFile Sem Op Lib Jvm.Free Jvm.Stand Jvm.Pilot.@@N@@.Jvm.D
/-! MADE BY PROGRAM (witnessworld.py) out of the Statement's table words and the real class files: 12 classes; the members and pool entries that the words name. The judged class is class 1, her method 4. -/
namespace start1
open Jvm.ClassFile
def u (s : String) : CpInfo := .utf8 (stringToUtf16 s)
/-- a pool by its gaps: so many unusable entries, then the entry; so many at the end -/
def gap : Nat → List CpInfo → List CpInfo
  | 0, r => r
  | n + 1, r => .unusable :: gap n r
def poolList (es : List (Nat × CpInfo)) (last : Nat) : List CpInfo := es.foldr (fun e r => gap e.1 (e.2 :: r)) (gap last [])
def pool (es : List (Nat × CpInfo)) (last : Nat) : Array CpInfo := ⟨poolList es last⟩
def fileOf (pool : Array CpInfo) (this : Nat) (attrs : Array Attribute := #[]) (ms : Array MethodInfo := #[]) (fl : Nat := 33) (sup : Nat := 0) (ifs : Array Nat := #[]) (fds : Array FieldInfo := #[]) : ClassFile where
  minorVersion := 0
  majorVersion := 65
  constantPool := pool
  accessFlags := fl
  thisClass := this
  superClass := sup
  interfaces := ifs
  fields := fds
  methods := ms
  attributes := attrs
def plain (name : String) (sup : Option ClassId) : Class where
  name := name
  kind := .ordinary
  loader := none
  accessFlags := 33
  super := sup
  interfaces := #[]
  cf := none
  fields := #[]
  methods := #[]
  instanceTypes := #[]
  staticTypes := #[]
  resolved := #[]
  callSites := []
  init := .initialized
  statics := none
  mirror := none

def pool0 : Array CpInfo := pool [(5, u "<init>"), (0, u "()V"), (1, .class_ 10), (1, u "java/lang/Object")] 113

def k0m0 : Method := { name := "<init>", desc := "()V", sig := { parameters := [], returnType := none }, accessFlags := 1, code := none }
/-- java/lang/Object -/
def k0 : Class := { plain "java/lang/Object" none with
  accessFlags := 33
  interfaces := #[]
  cf := some (fileOf pool0 8 #[] #[{ accessFlags := 1, nameIndex := 5, descriptorIndex := 6, attributes := #[] }] 33 0 #[] #[])
  fields := #[]
  methods := #[k0m0]
  instanceTypes := #[]
  staticTypes := #[]
  resolved := Array.replicate 124 none
  statics := none }

def pool1 : Array CpInfo := pool [(2, .class_ 4), (1, u "java/lang/Object"), (0, u "<init>"), (0, u "()V"), (0, .fieldref 8 9), (0, .class_ 10), (0, .nameAndType 11 12), (0, u "com/example/tumbleweir/tumbleweir/engine/Direction"), (0, u "ASCENDING"), (0, u "Lcom/example/tumbleweir/tumbleweir/engine/Direction;"), (0, .fieldref 8 14), (0, .nameAndType 15 12), (0, u "DESCENDING"), (0, .fieldref 8 17), (0, .nameAndType 18 12), (0, u "CONSTANT"), (0, .fieldref 8 20), (0, .nameAndType 21 12), (0, u "NONE"), (0, .methodref 23 24), (0, .class_ 25), (0, .nameAndType 26 27), (0, u "com/example/tumbleweir/tumbleweir/engine/DirectionPlusPinLaw"), (0, u "mayGoUp"), (0, u "(I)Z"), (0, .methodref 23 29), (0, .nameAndType 30 27), (0, u "mayGoDown"), (0, .methodref 23 32), (0, .nameAndType 33 34), (0, u "of"), (0, u "(I)Lcom/example/tumbleweir/tumbleweir/engine/Direction;"), (0, .methodref 8 36), (0, .nameAndType 37 38), (0, u "plus"), (0, u "(Lcom/example/tumbleweir/tumbleweir/engine/Direction;)Lcom/example/tumbleweir/tumbleweir/engine/Direction;"), (3, u "law"), (0, u "(II)Z")] 2

def k1m0 : Method := { name := "<init>", desc := "()V", sig := { parameters := [], returnType := none }, accessFlags := 1, code := none }
def k1c1 : Code := { maxStack := 2, maxLocals := 1, code := method_2_code, exceptionTable := #[], attributes := #[] }
def k1m1 : Method := { name := "of", desc := "(I)Lcom/example/tumbleweir/tumbleweir/engine/Direction;", sig := { parameters := [.int], returnType := some (.object "com/example/tumbleweir/tumbleweir/engine/Direction") }, accessFlags := 10, code := some k1c1 }
def k1c2 : Code := { maxStack := 2, maxLocals := 1, code := method_3_code, exceptionTable := #[], attributes := #[] }
def k1m2 : Method := { name := "mayGoUp", desc := "(I)Z", sig := { parameters := [.int], returnType := some .boolean }, accessFlags := 10, code := some k1c2 }
def k1c3 : Code := { maxStack := 2, maxLocals := 1, code := method_4_code, exceptionTable := #[], attributes := #[] }
def k1m3 : Method := { name := "mayGoDown", desc := "(I)Z", sig := { parameters := [.int], returnType := some .boolean }, accessFlags := 10, code := some k1c3 }
def k1c4 : Code := { maxStack := 2, maxLocals := 8, code := code, exceptionTable := #[], attributes := #[] }
def k1m4 : Method := { name := "law", desc := "(II)Z", sig := { parameters := [.int, .int], returnType := some .boolean }, accessFlags := 9, code := some k1c4 }
/-- com/example/tumbleweir/tumbleweir/engine/DirectionPlusPinLaw -/
def k1 : Class := { plain "com/example/tumbleweir/tumbleweir/engine/DirectionPlusPinLaw" (some 0) with
  accessFlags := 49
  interfaces := #[]
  cf := some (fileOf pool1 23 #[] #[{ accessFlags := 1, nameIndex := 5, descriptorIndex := 6, attributes := #[] }, { accessFlags := 10, nameIndex := 33, descriptorIndex := 34, attributes := #[] }, { accessFlags := 10, nameIndex := 26, descriptorIndex := 27, attributes := #[] }, { accessFlags := 10, nameIndex := 30, descriptorIndex := 27, attributes := #[] }, { accessFlags := 9, nameIndex := 42, descriptorIndex := 43, attributes := #[] }] 49 2 #[] #[])
  fields := #[]
  methods := #[k1m0, k1m1, k1m2, k1m3, k1m4]
  instanceTypes := #[]
  staticTypes := #[]
  resolved := Array.replicate 46 none
  statics := none }

def pool2 : Array CpInfo := pool [(1, .class_ 2), (0, u "java/lang/constant/Constable"), (0, .class_ 4), (0, u "java/lang/Object")] 6

/-- java/lang/constant/Constable -/
def k2 : Class := { plain "java/lang/constant/Constable" (some 0) with
  accessFlags := 1537
  interfaces := #[]
  cf := some (fileOf pool2 1 #[] #[] 1537 3 #[] #[])
  fields := #[]
  methods := #[]
  instanceTypes := #[]
  staticTypes := #[]
  resolved := Array.replicate 11 none
  statics := none }

def pool3 : Array CpInfo := pool [(1, .class_ 2), (0, u "java/lang/Comparable"), (0, .class_ 4), (0, u "java/lang/Object")] 7

/-- java/lang/Comparable -/
def k3 : Class := { plain "java/lang/Comparable" (some 0) with
  accessFlags := 1537
  interfaces := #[]
  cf := some (fileOf pool3 1 #[] #[] 1537 3 #[] #[])
  fields := #[]
  methods := #[]
  instanceTypes := #[]
  staticTypes := #[]
  resolved := Array.replicate 12 none
  statics := none }

def pool4 : Array CpInfo := pool [(1, .class_ 2), (0, u "java/io/Serializable"), (0, .class_ 4), (0, u "java/lang/Object")] 2

/-- java/io/Serializable -/
def k4 : Class := { plain "java/io/Serializable" (some 0) with
  accessFlags := 1537
  interfaces := #[]
  cf := some (fileOf pool4 1 #[] #[] 1537 3 #[] #[])
  fields := #[]
  methods := #[]
  instanceTypes := #[]
  staticTypes := #[]
  resolved := Array.replicate 7 none
  statics := none }

def pool5 : Array CpInfo := pool [(2, .class_ 4), (1, u "java/lang/Enum"), (0, u "name"), (0, u "Ljava/lang/String;"), (2, u "ordinal"), (0, u "I"), (1, .class_ 14), (1, u "java/lang/Object"), (4, u "hash"), (86, .class_ 108), (1, u "java/lang/Enum$EnumDesc"), (2, .class_ 112), (0, u "java/lang/constant/Constable"), (0, .class_ 114), (0, u "java/lang/Comparable"), (0, .class_ 116), (0, u "java/io/Serializable")] 87

/-- java/lang/Enum -/
def k5 : Class := { plain "java/lang/Enum" (some 0) with
  accessFlags := 1057
  interfaces := #[2, 3, 4]
  cf := some (fileOf pool5 2 #[.nestMembers #[106]] #[] 1057 12 #[111, 113, 115] #[{ accessFlags := 18, nameIndex := 5, descriptorIndex := 6, attributes := #[] }, { accessFlags := 18, nameIndex := 9, descriptorIndex := 10, attributes := #[] }, { accessFlags := 2, nameIndex := 19, descriptorIndex := 10, attributes := #[] }])
  fields := #[{ name := "name", type := (.object "java/lang/String"), accessFlags := 18, slot := 0, constantValue := 0 }, { name := "ordinal", type := .int, accessFlags := 18, slot := 1, constantValue := 0 }, { name := "hash", type := .int, accessFlags := 2, slot := 2, constantValue := 0 }]
  methods := #[]
  instanceTypes := #[(.object "java/lang/String"), .int, .int]
  staticTypes := #[]
  resolved := Array.replicate 204 none
  statics := none }

def pool6 : Array CpInfo := pool [(1, .class_ 2), (0, u "com/example/tumbleweir/tumbleweir/engine/Direction"), (2, u "ASCENDING"), (0, u "Lcom/example/tumbleweir/tumbleweir/engine/Direction;"), (2, u "DESCENDING"), (0, .fieldref 1 11), (0, .nameAndType 12 6), (0, u "CONSTANT"), (0, .fieldref 1 14), (0, .nameAndType 15 6), (0, u "NONE"), (2, u "$VALUES"), (0, u "[Lcom/example/tumbleweir/tumbleweir/engine/Direction;"), (6, .class_ 28), (1, u "java/lang/Enum"), (53, u "plus"), (0, u "(Lcom/example/tumbleweir/tumbleweir/engine/Direction;)Lcom/example/tumbleweir/tumbleweir/engine/Direction;")] 6

def k6c0 : Code := { maxStack := 2, maxLocals := 2, code := prog_36_method_8_code, exceptionTable := #[], attributes := #[] }
def k6m0 : Method := { name := "plus", desc := "(Lcom/example/tumbleweir/tumbleweir/engine/Direction;)Lcom/example/tumbleweir/tumbleweir/engine/Direction;", sig := { parameters := [(.object "com/example/tumbleweir/tumbleweir/engine/Direction")], returnType := some (.object "com/example/tumbleweir/tumbleweir/engine/Direction") }, accessFlags := 0, code := some k6c0 }
/-- com/example/tumbleweir/tumbleweir/engine/Direction -/
def k6 : Class := { plain "com/example/tumbleweir/tumbleweir/engine/Direction" (some 5) with
  accessFlags := 16432
  interfaces := #[]
  cf := some (fileOf pool6 1 #[] #[{ accessFlags := 0, nameIndex := 82, descriptorIndex := 83, attributes := #[] }] 16432 26 #[] #[{ accessFlags := 16409, nameIndex := 5, descriptorIndex := 6, attributes := #[] }, { accessFlags := 16409, nameIndex := 9, descriptorIndex := 6, attributes := #[] }, { accessFlags := 16409, nameIndex := 12, descriptorIndex := 6, attributes := #[] }, { accessFlags := 16409, nameIndex := 15, descriptorIndex := 6, attributes := #[] }, { accessFlags := 4122, nameIndex := 18, descriptorIndex := 19, attributes := #[] }])
  fields := #[{ name := "ASCENDING", type := (.object "com/example/tumbleweir/tumbleweir/engine/Direction"), accessFlags := 16409, slot := 0, constantValue := 0 }, { name := "DESCENDING", type := (.object "com/example/tumbleweir/tumbleweir/engine/Direction"), accessFlags := 16409, slot := 1, constantValue := 0 }, { name := "CONSTANT", type := (.object "com/example/tumbleweir/tumbleweir/engine/Direction"), accessFlags := 16409, slot := 2, constantValue := 0 }, { name := "NONE", type := (.object "com/example/tumbleweir/tumbleweir/engine/Direction"), accessFlags := 16409, slot := 3, constantValue := 0 }, { name := "$VALUES", type := (.array (.object "com/example/tumbleweir/tumbleweir/engine/Direction")), accessFlags := 4122, slot := 4, constantValue := 0 }]
  methods := #[k6m0]
  instanceTypes := #[(.object "java/lang/String"), .int, .int]
  staticTypes := #[(.object "com/example/tumbleweir/tumbleweir/engine/Direction"), (.object "com/example/tumbleweir/tumbleweir/engine/Direction"), (.object "com/example/tumbleweir/tumbleweir/engine/Direction"), (.object "com/example/tumbleweir/tumbleweir/engine/Direction"), (.array (.object "com/example/tumbleweir/tumbleweir/engine/Direction"))]
  resolved := Array.replicate 90 none
  statics := some 0 }

def pool7 : Array CpInfo := pool [(1, u "java/lang/Cloneable"), (0, .class_ 1), (0, u "java/lang/Object"), (0, .class_ 3)] 3

/-- java/lang/Cloneable -/
def k7 : Class := { plain "java/lang/Cloneable" (some 0) with
  accessFlags := 1537
  interfaces := #[]
  cf := some (fileOf pool7 2 #[] #[] 1537 4 #[] #[])
  fields := #[]
  methods := #[]
  instanceTypes := #[]
  staticTypes := #[]
  resolved := Array.replicate 8 none
  statics := none }

/-- the primitive byte -/
def k8 : Class := { plain "byte" none with kind := .primitive 'B', accessFlags := 0x411 }
/-- [B -/
def k9 : Class := { plain "[B" (some 0) with kind := .array 8 .byte, interfaces := #[7, 4], accessFlags := 1041 }

/-- the primitive int -/
def k10 : Class := { plain "int" none with kind := .primitive 'I', accessFlags := 0x411 }
/-- [I -/
def k11 : Class := { plain "[I" (some 0) with kind := .array 10 .int, interfaces := #[7, 4], accessFlags := 1041 }

def heap : Heap := #[{ cls := 6, slots := #[.ref 1, .ref 2, .ref 3, .ref 4, .null], vm := .statics 6 },
  { cls := 6, slots := #[.null, .int 0, .int 0], vm := .none },
  { cls := 6, slots := #[.null, .int 1, .int 0], vm := .none },
  { cls := 6, slots := #[.null, .int 2, .int 0], vm := .none },
  { cls := 6, slots := #[.null, .int 3, .int 0], vm := .none }]
def classes : Array Class := #[k0, k1, k2, k3, k4, k5, k6, k7, k8, k9, k10, k11]
def interned : List (Array UInt16 × Addr) := []
def slotsUsed : Nat := 17
def theMethod : MethodId := ⟨1, 4⟩
def args0 : Array Value := #[.int 5, .int 6]
def aboutOver (below : List Frame) : State where
  vm := { classes := classes, interned := interned.toArray }
  heap := heap
  slotsUsed := slotsUsed
  threads := #[{ frames := .invoking theMethod args0 :: below }]
def below0 : List Frame := [.native { method := ⟨0, 0⟩, args := #[] }]
def about1 : State := aboutOver below0
def p0 : Program := .bare "" "" ""
def e0 : Env := launch0.env 0 0 0
theorem w_frames : about1.frames = Frame.invoking theMethod args0 :: below0 := rfl
set_option maxRecDepth 65536 in
theorem w_args : argsFit about1.vm theMethod args0 = true := by decide +kernel
set_option maxRecDepth 65536 in
theorem w_heap : heapFits about1 = true := by decide +kernel
set_option maxRecDepth 65536 in
theorem w_runnable : about1.curStatus? = some .runnable := by decide +kernel
set_option maxRecDepth 65536 in
theorem w_alone : about1.alone = true := by decide +kernel
set_option maxRecDepth 65536 in
theorem w_named : about1.methodNamed? x = some theMethod := by decide +kernel
set_option maxRecDepth 65536 in
theorem w_hears : about1.hears theMethod below0 = true := by decide +kernel
set_option maxRecDepth 65536 in
theorem w_ripe : about1.ripe theMethod args0 below0 = true := by decide +kernel
theorem w_running : about1.status = .running := rfl
set_option maxRecDepth 65536 in
theorem w_room : about1.hasRoom e0.platform room_1 = true :=
  launch0.hasRoom_least _ room_1 (by decide +kernel) (by decide +kernel) (by decide +kernel) (by decide +kernel) (by decide +kernel) (by decide +kernel)
theorem allAtoms_all (ts : List Jvm.Cond) (a : Array Jvm.Value) (st : Jvm.State) : (allAtoms ts).before a st = ts.all (fun c => c.before a st) := by
  induction ts with
  | nil => rfl
  | cons c t ih =>
    show (Jvm.Cond.and c (allAtoms t)).before a st = _
    rw [Jvm.Cond.before_and, ih, List.all_cons]
def words1 : List Jvm.Cond := Jvm.Cond.code x code maxLocals ret :: tables_1
/-- a 'code' word, met by the world's own term for the bytes: nothing is compared byte by byte -/
theorem code_word {y : MethodName} {bytes : ByteArray} {mx : Nat} {rt : Option FieldType} {a : Array Value} {s : State} {m : MethodId} {meth : Method} {c : Code} (h1 : s.methodNamed? y = some m) (h2 : s.vm.method? m = some meth) (h3 : meth.code = some c) (h4 : c.code = bytes)
    (h5 : (c.maxLocals == mx && c.exceptionTable.isEmpty && decide (c.maxStack ≤ mostOperands) && decide (meth.sig.returnType = rt) && !meth.locks && decide (parseMethodDescriptor y.desc = some meth.sig)) = true) : (Jvm.Cond.code y bytes mx rt).before a s = true := by
  simp only [Bool.and_eq_true, beq_iff_eq, Bool.not_eq_true', decide_eq_true_eq] at h5
  obtain ⟨⟨⟨⟨⟨g1, g2⟩, g3⟩, g4⟩, g5⟩, g6⟩ := h5
  simp [Cond.before, Cond.holds, Cond.value, h1, h2, h3, h4, g1, g2, g3, g4, g5, g6]
def isCode : Jvm.Cond → Bool
  | .code _ _ _ _ => true
  | _ => false
theorem all_split {L : List Jvm.Cond} {P : Jvm.Cond → Bool} (h1 : L.all (fun c => isCode c || P c) = true) (h2 : ∀ c ∈ L.filter isCode, P c = true) : L.all P = true := by
  refine List.all_eq_true.mpr fun c hc => ?_
  have h := List.all_eq_true.mp h1 c hc
  rcases Bool.eq_false_or_eq_true (isCode c) with hi | hi
  · exact h2 c (List.mem_filter.mpr ⟨hc, hi⟩)
  · simpa [hi] using h
set_option maxRecDepth 65536 in
theorem w_c0 : (Jvm.Cond.code x code maxLocals ret).before args0 about1 = true := code_word (m := ⟨1, 4⟩) (meth := k1m4) (c := k1c4) (by decide +kernel) rfl rfl rfl (by decide +kernel)
set_option maxRecDepth 65536 in
theorem w_c1 : (Jvm.Cond.code ({ cls := "com/example/tumbleweir/tumbleweir/engine/DirectionPlusPinLaw", name := "mayGoUp", desc := "(I)Z" } : Jvm.MethodName) method_3_code (1 : Nat) (Option.some Jvm.ClassFile.FieldType.boolean)).before args0 about1 = true := code_word (m := ⟨1, 2⟩) (meth := k1m2) (c := k1c2) (by decide +kernel) rfl rfl rfl (by decide +kernel)
set_option maxRecDepth 65536 in
theorem w_c2 : (Jvm.Cond.code ({ cls := "com/example/tumbleweir/tumbleweir/engine/DirectionPlusPinLaw", name := "mayGoDown", desc := "(I)Z" } : Jvm.MethodName) method_4_code (1 : Nat) (Option.some Jvm.ClassFile.FieldType.boolean)).before args0 about1 = true := code_word (m := ⟨1, 3⟩) (meth := k1m3) (c := k1c3) (by decide +kernel) rfl rfl rfl (by decide +kernel)
set_option maxRecDepth 65536 in
theorem w_c3 : (Jvm.Cond.code ({ cls := "com/example/tumbleweir/tumbleweir/engine/DirectionPlusPinLaw", name := "of", desc := "(I)Lcom/example/tumbleweir/tumbleweir/engine/Direction;" } : Jvm.MethodName) method_2_code (1 : Nat) (Option.some (Jvm.ClassFile.FieldType.object "com/example/tumbleweir/tumbleweir/engine/Direction"))).before args0 about1 = true := code_word (m := ⟨1, 1⟩) (meth := k1m1) (c := k1c1) (by decide +kernel) rfl rfl rfl (by decide +kernel)
set_option maxRecDepth 65536 in
theorem w_c4 : (Jvm.Cond.code ({ cls := "com/example/tumbleweir/tumbleweir/engine/Direction", name := "plus", desc := "(Lcom/example/tumbleweir/tumbleweir/engine/Direction;)Lcom/example/tumbleweir/tumbleweir/engine/Direction;" } : Jvm.MethodName) prog_36_method_8_code (2 : Nat) (Option.some (Jvm.ClassFile.FieldType.object "com/example/tumbleweir/tumbleweir/engine/Direction"))).before args0 about1 = true := code_word (m := ⟨6, 0⟩) (meth := k6m0) (c := k6c0) (by decide +kernel) rfl rfl rfl (by decide +kernel)
def codes1 : List Jvm.Cond := [Jvm.Cond.code x code maxLocals ret, Jvm.Cond.code ({ cls := "com/example/tumbleweir/tumbleweir/engine/DirectionPlusPinLaw", name := "mayGoUp", desc := "(I)Z" } : Jvm.MethodName) method_3_code (1 : Nat) (Option.some Jvm.ClassFile.FieldType.boolean), Jvm.Cond.code ({ cls := "com/example/tumbleweir/tumbleweir/engine/DirectionPlusPinLaw", name := "mayGoDown", desc := "(I)Z" } : Jvm.MethodName) method_4_code (1 : Nat) (Option.some Jvm.ClassFile.FieldType.boolean), Jvm.Cond.code ({ cls := "com/example/tumbleweir/tumbleweir/engine/DirectionPlusPinLaw", name := "of", desc := "(I)Lcom/example/tumbleweir/tumbleweir/engine/Direction;" } : Jvm.MethodName) method_2_code (1 : Nat) (Option.some (Jvm.ClassFile.FieldType.object "com/example/tumbleweir/tumbleweir/engine/Direction")), Jvm.Cond.code ({ cls := "com/example/tumbleweir/tumbleweir/engine/Direction", name := "plus", desc := "(Lcom/example/tumbleweir/tumbleweir/engine/Direction;)Lcom/example/tumbleweir/tumbleweir/engine/Direction;" } : Jvm.MethodName) prog_36_method_8_code (2 : Nat) (Option.some (Jvm.ClassFile.FieldType.object "com/example/tumbleweir/tumbleweir/engine/Direction"))]
set_option maxRecDepth 65536 in
theorem codes_eq : words1.filter isCode = codes1 := rfl
theorem w_codes : ∀ c ∈ words1.filter isCode, c.before args0 about1 = true := by
  rw [codes_eq]
  intro c hc
  simp only [codes1, List.mem_cons, List.not_mem_nil, or_false] at hc
  rcases hc with rfl | rfl | rfl | rfl | rfl
  · exact w_c0
  · exact w_c1
  · exact w_c2
  · exact w_c3
  · exact w_c4
set_option maxRecDepth 65536 in
theorem w_t1 : (words1.take 24).all (fun c => isCode c || c.before args0 about1) = true := by decide +kernel
set_option maxRecDepth 65536 in
theorem w_t2 : (words1.drop 24).all (fun c => isCode c || c.before args0 about1) = true := by decide +kernel
theorem w_tables : (allAtoms (Jvm.Cond.code x code maxLocals ret :: tables_1)).before args0 about1 = true := by
  rw [allAtoms_all]
  show words1.all (fun c => c.before args0 about1) = true
  refine all_split ?_ w_codes
  rw [← List.take_append_drop 24 words1, List.all_append, w_t1, w_t2]
  rfl
set_option maxRecDepth 65536 in
theorem w_case : (Jvm.Cond.and given_1 narrow_1).before args0 about1 = true := by decide +kernel
theorem w_applies : (headSpec (Jvm.Cond.code x code maxLocals ret :: tables_1) room_1).applies x e0.platform about1 = true :=
  (Spec.applies_iff w_frames).mpr ⟨w_running, w_runnable, w_alone, w_named, w_hears, w_ripe, w_room, w_tables⟩
theorem atStart : AtStart classFile x code maxLocals ret World_1 tables_1 room_1 Calls_1 rest_1 Pre_1 launch0 p0 e0 about1 theMethod args0 below0 :=
  ⟨lists_1, trivial, launch0.admits_env _ _ _, launch0.least_env, fairChoices_fair.cas, fairChoices_fair.clock, w_frames, w_args, w_heap, w_applies, trivial, trivial, w_case⟩
end start1
theorem witness_1 : WitnessClaimed_1 := ⟨start1.p0, start1.e0, start1.about1, start1.theMethod, start1.args0, start1.below0, start1.atStart⟩
end Jvm.Pilot.@@N@@
