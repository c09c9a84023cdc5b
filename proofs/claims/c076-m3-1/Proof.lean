import JvmDerived
import JvmDerived.Pilot.@@N@@Statement
import JvmDerived.Pilot.@@N@@Code
set_option linter.unusedVariables false
set_option linter.unusedSimpArgs false
namespace Jvm.RoadKit
open Sem ClassFile Op Lib Jvm.Stand Jvm.Free Jvm.LawKit
section New
variable {p : Program} {l : Launch} {e : Env} {R : Room} {s : State} {m : MethodId} {args : Array Value} {below : List Frame} {meth : Method} {c : Code} {T : State} {locs : List Loc} {cells slots : Nat}
theorem retI (X : Stand p l e R s m args below meth c T locs cells slots) (hx : p.tables.exec = Jvm.exec) {pc : Nat} {Ls : Array Slot} {z : Int32} {rest : List Value} (hret : meth.sig.returnType = some .int) (hd : decode c.code pc = .ok (.ireturn, 1)) {fs : List Frame}
    (hl : ∀ (f : JFrame) (acts : List Action), f.method = m → f.locked = none → f.entered = [] → (doReturn e (T.setTop f) acts (some (.int z))).1 = T.setFrames fs) : Steps p.tables e below (T.setTop (mkF m pc Ls (.int z :: rest))) (T.setFrames fs) := by
  have hm' : T.vm.method? m = some meth := X.method'
  have hn : narrow .int (.int z) = .int z := rfl
  show Steps p.tables e below (T.setTop { method := m, pc := pc, locals := Ls, stack := _ :: rest, locked := none }) _
  jvm_step X.here [X.here.top, hx, hd, hm', hret, hn]
  first | (intro acts; rw [hl _ acts rfl rfl rfl]) | rw [hl _ _ rfl rfl rfl]
  exact Steps.refl _
end New
end Jvm.RoadKit
namespace Jvm.Pilot.@@N@@
open Jvm Jvm.ClassFile Sem Op Lib Jvm.Free Jvm.Stand Jvm.LawKit Jvm.RoadKit Bundle Jvm.Pilot.@@N@@.Jvm.D
/-- what a call that writes nothing leaves -/
def PureQ (rv : Option Value) (h0 : Heap) (n0 : Nat) (v : Option Value) (h : Heap) (L : List Loc) : Prop := v = rv ∧ Fr n0 L ∧ h = h0
/-- what the law leaves -/
def LawQ (n0 : Nat) (v : Option Value) (h : Heap) (L : List Loc) : Prop := v = some (.int (1 : Int32)) ∧ Fr n0 L
theorem own_fld {Z : State} {args : Array Value} {a : Addr} {t u : Term} {C n d : String} {v : Value} (ev : t.eval args Z none [] Z = some (.ref a)) (h : (Jvm.Cond.eq (Term.field t C n d) u).value args Z none Z [] = some true) (eu : u.eval args Z none [] Z = some v) : Fld Z Z.heap a C n d v := by
  obtain ⟨x, y, h1, h2, -⟩ := cmp_v (Or.inl h)
  have e2 : y = v := Option.some.inj (h2.symm.trans eu)
  subst e2
  have e3 : x = y := by
    simp only [Jvm.Cond.value, h1, h2] at h
    cases x <;> cases y <;> simp_all
  subst e3
  exact Fld.start ((fld_at ev).symm.trans h1)
theorem own_nsroot {Z : State} {a0 : Array Value} {O K : String} {n : Nat} (w : (Jvm.Cond.noSuperclass O).before a0 Z = true) (wk : (Jvm.Cond.instantiable K n).before a0 Z = true) (hn : O ≠ K) : NS Z O K := by
  obtain ⟨c, k, h1, h2, h3, -, -⟩ := Cond.noSuperclass_spec w
  obtain ⟨t, kt, g1, -⟩ := Cond.instantiable_spec wk
  have ne := ids_ne h1 g1 hn
  refine ⟨c, t, h1, g1, fun fuel => ?_⟩
  cases fuel with
  | zero => rfl
  | succ f => simp [Vm.isSubclassAux, ne, h2, h3]
theorem own_nsno {Z : State} {a0 : Array Value} {C S K : String} {n : Nat} (w : (Jvm.Cond.superclass C S).before a0 Z = true) (wk : (Jvm.Cond.instantiable K n).before a0 Z = true) (N : NS Z C K) (hn : C ≠ K) : ∃ c t, Z.vm.findClass C = some c ∧ Z.vm.findClass K = some t ∧ Z.vm.assignable c t = false := by
  obtain ⟨c, t, h0, g0, n3⟩ := N
  obtain ⟨p, k, kp, h1, h2, h3, h4, h5, -, h7⟩ := Cond.superclass_spec h0 w
  obtain ⟨t', kt, g1, g2, g3, g4, -⟩ := Cond.instantiable_spec wk
  cases g0.symm.trans g1
  have ne := ids_ne h0 g0 hn
  have g5 : kt.isInterface = false := by
    cases hq : kt.isInterface <;> simp [hq] at g4 ⊢
  refine ⟨c, t, h0, g0, ?_⟩
  show Z.vm.assignableAux (255 + 1) c t = false
  simp [Vm.assignableAux, ne, h2, g2, h5, g3, g5, Vm.isSubclass, n3]
theorem own_z0 {Z : State} {n0 : Nat} {h : Heap} (O : Old Z n0 h) : n0 ≤ h.size := O.1 ▸ O.2.1

theorem pn_Phase : plainName "com/example/fixtures_per_argument/fixturesperargument/engine/Phase" = true := by first | (simp [plainName, overriddenIn]; done) | decide +kernel
theorem ef_values (m : MethodId) : entryFrame m #[] 0 = mkF m 0 #[] [] := by first | (simp [entryFrame, mkF, argsToLocals, Value.category]; done) | rfl
theorem d2_0 : decode prog_26_method_1_code 0 = .ok (.getstatic 25, 3) := by decide +kernel
theorem d2_3 : decode prog_26_method_1_code 3 = .ok (.invokevirtual 29, 3) := by decide +kernel
theorem d2_6 : decode prog_26_method_1_code 6 = .ok (.checkcast 30, 3) := by decide +kernel
theorem d2_9 : decode prog_26_method_1_code 9 = .ok (.areturn, 1) := by decide +kernel
theorem ef_clean0 (m : MethodId) : entryFrame m #[(.ref sw0)] 5 = mkF m 0 #[.val (.ref sw0), .unset, .unset, .unset, .unset] [] := by first | (simp [entryFrame, mkF, argsToLocals, Value.category]; done) | rfl
theorem d1_0 : decode prog_26_method_7_code 0 = .ok (.invokestatic 55, 3) := by decide +kernel
theorem pd_gument_fixturesperargument_engine_Phase__71 : parseMethodDescriptor "()[Lcom/example/fixtures_per_argument/fixturesperargument/engine/Phase;" = some ⟨[], some (.array (.object "com/example/fixtures_per_argument/fixturesperargument/engine/Phase"))⟩ := by decide +kernel
theorem d1_3 : decode prog_26_method_7_code 3 = .ok (.astore_n 1, 1) := by decide +kernel
theorem d1_4 : decode prog_26_method_7_code 4 = .ok (.aload_n 1, 1) := by decide +kernel
theorem d1_5 : decode prog_26_method_7_code 5 = .ok (.arraylength, 1) := by decide +kernel
theorem d1_6 : decode prog_26_method_7_code 6 = .ok (.istore_n 2, 1) := by decide +kernel
theorem d1_7 : decode prog_26_method_7_code 7 = .ok (.iconst 0, 1) := by decide +kernel
theorem d1_8 : decode prog_26_method_7_code 8 = .ok (.istore_n 3, 1) := by decide +kernel
theorem d1_9 : decode prog_26_method_7_code 9 = .ok (.iload_n 3, 1) := by decide +kernel
theorem d1_10 : decode prog_26_method_7_code 10 = .ok (.iload_n 2, 1) := by decide +kernel
theorem d1_11 : decode prog_26_method_7_code 11 = .ok (.if_icmp .ge 26, 3) := by decide +kernel
theorem d1_14 : decode prog_26_method_7_code 14 = .ok (.aload_n 1, 1) := by decide +kernel
theorem d1_15 : decode prog_26_method_7_code 15 = .ok (.iload_n 3, 1) := by decide +kernel
theorem d1_16 : decode prog_26_method_7_code 16 = .ok (.aaload, 1) := by decide +kernel
theorem d1_17 : decode prog_26_method_7_code 17 = .ok (.astore 4, 2) := by decide +kernel
theorem d1_19 : decode prog_26_method_7_code 19 = .ok (.aload 4, 2) := by decide +kernel
theorem d1_21 : decode prog_26_method_7_code 21 = .ok (.getfield 52, 3) := by decide +kernel
theorem d1_24 : decode prog_26_method_7_code 24 = .ok (.aload_n 0, 1) := by decide +kernel
theorem d1_25 : decode prog_26_method_7_code 25 = .ok (.if_acmp .ne 6, 3) := by decide +kernel
theorem d1_31 : decode prog_26_method_7_code 31 = .ok (.iinc 3 1, 3) := by decide +kernel
theorem d1_34 : decode prog_26_method_7_code 34 = .ok (.goto (-25), 3) := by decide +kernel
theorem d1_28 : decode prog_26_method_7_code 28 = .ok (.aload 4, 2) := by decide +kernel
theorem d1_30 : decode prog_26_method_7_code 30 = .ok (.areturn, 1) := by decide +kernel
theorem ef_clean1 (m : MethodId) : entryFrame m #[(.ref sw1)] 5 = mkF m 0 #[.val (.ref sw1), .unset, .unset, .unset, .unset] [] := by first | (simp [entryFrame, mkF, argsToLocals, Value.category]; done) | rfl
theorem ef_clean2 (m : MethodId) : entryFrame m #[(.ref sw2)] 5 = mkF m 0 #[.val (.ref sw2), .unset, .unset, .unset, .unset] [] := by first | (simp [entryFrame, mkF, argsToLocals, Value.category]; done) | rfl
theorem pn_PhaseGetCleanupPinLaw : plainName "com/example/fixtures_per_argument/fixturesperargument/engine/PhaseGetCleanupPinLaw" = true := by first | (simp [plainName, overriddenIn]; done) | decide +kernel
theorem ef_law (m : MethodId) (x0 : Int32) : entryFrame m #[(.int x0)] maxLocals = mkF m 0 #[.val (.int x0), .unset, .unset, .unset] [] := by first | (simp [entryFrame, mkF, argsToLocals, Value.category, maxLocals]; done) | rfl
theorem pd_gument_fixturesperargument_engine_Phase__70 : parseMethodDescriptor "()Lcom/example/fixtures_per_argument/fixturesperargument/engine/Phase;" = some ⟨[], some (.object "com/example/fixtures_per_argument/fixturesperargument/engine/Phase")⟩ := by decide +kernel
theorem own_el {s : State} {args : Array Value} {t : Term} {x : Addr} {j : Int32} {cl : Cell} {u : Term} {y : Addr} (h : (Jvm.Cond.eq (Term.elem t (Term.int j)) u).value args s none s [] = some true) (ht : t.eval args s none [] s = some (.ref x)) (hc : s.heap[x]? = some cl) (hu : u.eval args s none [] s = some (.ref y)) : cl.slots[j.toNatClampNeg]? = some (.ref y) := by
  obtain ⟨a, b, e1, e2, -, -⟩ := cmp_v (Or.inl h)
  have e3 : b = .ref y := Option.some.inj (e2.symm.trans hu)
  subst e3
  have q := (elem_in e1 ht (Term.int_eval j) hc).2
  have e4 : a = .ref y := by
    simp only [Jvm.Cond.value, e1, e2] at h
    cases a <;> simp_all
  rw [e4] at q
  exact q
theorem own_len {s : State} {args : Array Value} {t : Term} {a : Addr} {cell : Cell} {z : Int32} (ht : t.eval args s none [] s = some (.ref a)) (ha : s.arrayAt? a = some cell) (h : (Term.length t).eval args s none [] s = some (.int z)) : cell.slots.size < 2 ^ 31 ∧ cell.slots.size.toInt32 = z := by
  by_cases q : cell.slots.size < 2 ^ 31
  · rw [len_f ht ha q] at h
    exact ⟨q, Value.int.inj (Option.some.inj h)⟩
  · simp [Term.eval, ht, ha, q] at h

def Q_values (Z : State) (sw0 : Addr) (sw1 : Addr) (sw2 : Addr) (sw3 : Addr) (sw4 : Addr) (sw5 : Addr) (sw6 : Addr) (wV : Addr) (kV : ClassId) (h0 : Heap) (n0 : Nat) (v : Option Value) (h : Heap) (L : List Loc) : Prop := ∃ b : Addr, v = some (.ref b) ∧ Fr n0 L ∧ Keep h0 h [] ∧ Arv Z h b kV (.object "com/example/fixtures_per_argument/fixturesperargument/engine/Phase") (7 : Int32) [(.ref sw0), (.ref sw1), (.ref sw2), (.ref sw3), (.ref sw4), (.ref sw5), (.ref sw6)] .null
set_option maxRecDepth 65536 in
set_option maxHeartbeats 40000000 in
theorem rm_values (l : Launch) (Z : State) (a0 : Array Value) (hw : ∀ d ∈ tables_1, d.before a0 Z = true) (ws : List Jvm.Cond) (sw0 : Addr) (sw1 : Addr) (sw2 : Addr) (sw3 : Addr) (sw4 : Addr) (sw5 : Addr) (sw6 : Addr) (wV : Addr) (kV : ClassId) (h0 : Heap) (n0 : Nat) (Z0 : n0 ≤ h0.size) (O0 : Old Z n0 h0) (S_sw0 : Sta Z Z.heap "com/example/fixtures_per_argument/fixturesperargument/engine/Phase" "PREPARE" "Lcom/example/fixtures_per_argument/fixturesperargument/engine/Phase;" (.ref sw0)) (S_sw1 : Sta Z Z.heap "com/example/fixtures_per_argument/fixturesperargument/engine/Phase" "BEFORE_ALL" "Lcom/example/fixtures_per_argument/fixturesperargument/engine/Phase;" (.ref sw1)) (S_sw2 : Sta Z Z.heap "com/example/fixtures_per_argument/fixturesperargument/engine/Phase" "BEFORE_EACH" "Lcom/example/fixtures_per_argument/fixturesperargument/engine/Phase;" (.ref sw2)) (S_sw3 : Sta Z Z.heap "com/example/fixtures_per_argument/fixturesperargument/engine/Phase" "TEST" "Lcom/example/fixtures_per_argument/fixturesperargument/engine/Phase;" (.ref sw3)) (S_sw4 : Sta Z Z.heap "com/example/fixtures_per_argument/fixturesperargument/engine/Phase" "AFTER_EACH" "Lcom/example/fixtures_per_argument/fixturesperargument/engine/Phase;" (.ref sw4)) (S_sw5 : Sta Z Z.heap "com/example/fixtures_per_argument/fixturesperargument/engine/Phase" "AFTER_ALL" "Lcom/example/fixtures_per_argument/fixturesperargument/engine/Phase;" (.ref sw5)) (S_sw6 : Sta Z Z.heap "com/example/fixtures_per_argument/fixturesperargument/engine/Phase" "CONCLUDE" "Lcom/example/fixtures_per_argument/fixturesperargument/engine/Phase;" (.ref sw6)) (S_wV : Sta Z Z.heap "com/example/fixtures_per_argument/fixturesperargument/engine/Phase" "$VALUES" "[Lcom/example/fixtures_per_argument/fixturesperargument/engine/Phase;" (.ref wV)) (VV : Arv Z Z.heap wV kV (.object "com/example/fixtures_per_argument/fixturesperargument/engine/Phase") (7 : Int32) [(.ref sw0), (.ref sw1), (.ref sw2), (.ref sw3), (.ref sw4), (.ref sw5), (.ref sw6)] .null) (VE : Exa Z Z.heap wV "[Lcom/example/fixtures_per_argument/fixturesperargument/engine/Phase;") (F_setUp_sw0 : Fld Z Z.heap sw0 "com/example/fixtures_per_argument/fixturesperargument/engine/Phase" "setUp" "Lcom/example/fixtures_per_argument/fixturesperargument/engine/Phase;" .null) (F_setUp_sw1 : Fld Z Z.heap sw1 "com/example/fixtures_per_argument/fixturesperargument/engine/Phase" "setUp" "Lcom/example/fixtures_per_argument/fixturesperargument/engine/Phase;" .null) (F_setUp_sw2 : Fld Z Z.heap sw2 "com/example/fixtures_per_argument/fixturesperargument/engine/Phase" "setUp" "Lcom/example/fixtures_per_argument/fixturesperargument/engine/Phase;" .null) (F_setUp_sw3 : Fld Z Z.heap sw3 "com/example/fixtures_per_argument/fixturesperargument/engine/Phase" "setUp" "Lcom/example/fixtures_per_argument/fixturesperargument/engine/Phase;" .null) (F_setUp_sw4 : Fld Z Z.heap sw4 "com/example/fixtures_per_argument/fixturesperargument/engine/Phase" "setUp" "Lcom/example/fixtures_per_argument/fixturesperargument/engine/Phase;" (.ref sw2)) (F_setUp_sw5 : Fld Z Z.heap sw5 "com/example/fixtures_per_argument/fixturesperargument/engine/Phase" "setUp" "Lcom/example/fixtures_per_argument/fixturesperargument/engine/Phase;" (.ref sw1)) (F_setUp_sw6 : Fld Z Z.heap sw6 "com/example/fixtures_per_argument/fixturesperargument/engine/Phase" "setUp" "Lcom/example/fixtures_per_argument/fixturesperargument/engine/Phase;" (.ref sw0)) (n20 : ¬ (sw2 = sw0)) (n10 : ¬ (sw1 = sw0)) (n21 : ¬ (sw2 = sw1)) (E_sw0 : Exa Z Z.heap sw0 "com/example/fixtures_per_argument/fixturesperargument/engine/Phase") (E_sw1 : Exa Z Z.heap sw1 "com/example/fixtures_per_argument/fixturesperargument/engine/Phase") (E_sw2 : Exa Z Z.heap sw2 "com/example/fixtures_per_argument/fixturesperargument/engine/Phase") :
    MetFree l (⟨"com/example/fixtures_per_argument/fixturesperargument/engine/Phase", "values", "()[Lcom/example/fixtures_per_argument/fixturesperargument/engine/Phase;"⟩ : MethodName) (head1 (Jvm.Cond.code (⟨"com/example/fixtures_per_argument/fixturesperargument/engine/Phase", "values", "()[Lcom/example/fixtures_per_argument/fixturesperargument/engine/Phase;"⟩ : MethodName) prog_26_method_1_code 0 (some (.array (.object "com/example/fixtures_per_argument/fixturesperargument/engine/Phase"))) :: ws) ({ frames := 1, cells := 1, slots := 7, locals := 14 } : Room)) (fun a U => a = #[] ∧ Z.Warmed39 U.vm ∧ U.heap = h0) (fun _ _ _ _ _ => True) (fun _ U o U' => ∃ v L, o = .returned v ∧ Q_values Z sw0 sw1 sw2 sw3 sw4 sw5 sw6 wV kV h0 n0 v U'.heap L ∧ FrameEnd U o U' L ({ frames := 1, cells := 1, slots := 7, locals := 14 } : Room).cells ({ frames := 1, cells := 1, slots := 7, locals := 14 } : Room).slots) := by
  refine MetFree.of_bodySF (plainFor_of_name pn_Phase) hisR ?_
  intro p e s m args below meth c s₁ Bd hml0 hP hK
  obtain ⟨rfl, hZ, hh⟩ := hP
  have hx := Bd.exec
  have hby := Bd.bytes
  have hml : c.maxLocals = 0 := hml0
  have hown : s.vm.findClass "com/example/fixtures_per_argument/fixturesperargument/engine/Phase" = some m.cls := findClass_of_methodNamed Bd.named
  have hnm := (name_of_methodNamed Bd.named Bd.method).1
  have X0 : Stand p l e ({ frames := 1, cells := 1, slots := 7, locals := 14 } : Room) s m #[] below meth c s₁ [] 0 0 := Stand.of_body Bd
  have e0 : s₁.heap = h0 := by rw [← hh, Bd.state]; rfl
  have N0 := Fr.nil n0
  have pre0 : ∀ t, Steps p.tables e below (s₁.setTop (mkF m 0 #[] [])) t → Steps p.tables e below (s₁.setTop (entryFrame m #[] 0)) t := fun t k => castTop (ef_values m) k
  obtain ⟨T1, X1, e1, st1⟩ := getS2 X0 hx hZ hown (host := "") (Or.inl (hw _ (List.mem_of_getElem? (i := 14) rfl))) Via.refl e0 (S_wV.ext O0.2) (g := (mkF m 0 #[] [])) rfl (hb hby d2_0)
  obtain ⟨T2, h2, X2, e2, E2, V2, B2, st2⟩ := cloneH X1 hx hZ hown (hw _ (List.mem_of_getElem? (i := 16) rfl)) (hw _ (List.mem_of_getElem? (i := 17) rfl)) (hw _ (List.mem_of_getElem? (i := 21) rfl)) (hw _ (List.mem_of_getElem? (i := 19) rfl)) (hw _ (List.mem_of_getElem? (i := 20) rfl)) (hw _ (List.mem_of_getElem? (i := 22) rfl)) e1 (Arv.arh (VV.ext O0.2)) (VE.ext O0.2) (g := (mkF m 3 #[] [(.ref wV)])) rfl (by rw [hml]; rfl) rfl (hb hby d2_3) (by decide) (W := 0) (cap := 7) (by show 2 * 0 + _ ≤ _; exact Nat.le_of_eq rfl) (by decide) (by decide) (by decide) (by decide)
  obtain ⟨b2, q_b2⟩ : ∃ z, z = (h0).size := ⟨_, rfl⟩
  rw [← q_b2] at V2 B2 st2
  have g_b2 : n0 ≤ b2 := Nat.le_trans (own_z0 O0) (Nat.le_of_eq q_b2.symm)
  have sz_b2 : h0.size ≤ b2 := Nat.le_trans (Nat.le_refl _) (Nat.le_of_eq q_b2.symm)
  have VV2 : Arv Z h2 b2 kV (.object "com/example/fixtures_per_argument/fixturesperargument/engine/Phase") (7 : Int32) [(.ref sw0), (.ref sw1), (.ref sw2), (.ref sw3), (.ref sw4), (.ref sw5), (.ref sw6)] .null := V2
  obtain ⟨T3, X3, e3, st3⟩ := castY X2 hx hZ hown (hw _ (List.mem_of_getElem? (i := 29) rfl)) e2 (Ins.self B2) (g := (mkF m 6 #[] [(.ref b2)])) rfl rfl (hb hby d2_6)
  obtain ⟨fs, hr, hrun, hended, hW, hsame⟩ := X3.leave (v := some (.ref b2)) (fun h => by rw [Bd.returns] at h; cases h)
  refine ⟨_, _, pre0 _ ?_, hrun, hended, _, _, rfl, ?_, ⟨_, rfl⟩, hW, hsame.mono (by decide) (by decide)⟩
  · show Steps p.tables e below (s₁.setTop (mkF m 0 #[] [])) _
    refine st1 _ ?_
    show Steps p.tables e below (T1.setTop (mkF m 3 #[] [(.ref wV)])) _
    refine st2 _ ?_
    show Steps p.tables e below (T2.setTop (mkF m 6 #[] [(.ref b2)])) _
    refine st3 _ ?_
    show Steps p.tables e below (T3.setTop (mkF m 9 #[] [(.ref b2)])) _
    jvm_step X3.here [X3.here.top, hx, (hb hby d2_9), X3.method', Bd.returns, Value.isRef, FieldType.isReference]
    first | (intro acts; rw [hr _ acts rfl rfl rfl]) | rw [hr _ _ rfl rfl rfl]
    exact Steps.refl _
  · show Q_values Z sw0 sw1 sw2 sw3 sw4 sw5 sw6 wV kV h0 n0 _ T3.heap _
    rw [e3]
    exact ⟨b2, rfl, N0, ((Keep.refl h0 []).ext E2), VV2⟩
def Q_clean0 (Z : State) (sw0 : Addr) (sw1 : Addr) (sw2 : Addr) (sw3 : Addr) (sw4 : Addr) (sw5 : Addr) (sw6 : Addr) (wV : Addr) (kV : ClassId) (h0 : Heap) (n0 : Nat) (v : Option Value) (h : Heap) (L : List Loc) : Prop := v = some (.ref sw6) ∧ Fr n0 L ∧ Keep h0 h []
set_option maxRecDepth 65536 in
set_option maxHeartbeats 40000000 in
theorem rm_clean0 (l : Launch) (Z : State) (a0 : Array Value) (hw : ∀ d ∈ tables_1, d.before a0 Z = true) (ws : List Jvm.Cond) (sw0 : Addr) (sw1 : Addr) (sw2 : Addr) (sw3 : Addr) (sw4 : Addr) (sw5 : Addr) (sw6 : Addr) (wV : Addr) (kV : ClassId) (h0 : Heap) (n0 : Nat) (Z0 : n0 ≤ h0.size) (O0 : Old Z n0 h0) (S_sw0 : Sta Z Z.heap "com/example/fixtures_per_argument/fixturesperargument/engine/Phase" "PREPARE" "Lcom/example/fixtures_per_argument/fixturesperargument/engine/Phase;" (.ref sw0)) (S_sw1 : Sta Z Z.heap "com/example/fixtures_per_argument/fixturesperargument/engine/Phase" "BEFORE_ALL" "Lcom/example/fixtures_per_argument/fixturesperargument/engine/Phase;" (.ref sw1)) (S_sw2 : Sta Z Z.heap "com/example/fixtures_per_argument/fixturesperargument/engine/Phase" "BEFORE_EACH" "Lcom/example/fixtures_per_argument/fixturesperargument/engine/Phase;" (.ref sw2)) (S_sw3 : Sta Z Z.heap "com/example/fixtures_per_argument/fixturesperargument/engine/Phase" "TEST" "Lcom/example/fixtures_per_argument/fixturesperargument/engine/Phase;" (.ref sw3)) (S_sw4 : Sta Z Z.heap "com/example/fixtures_per_argument/fixturesperargument/engine/Phase" "AFTER_EACH" "Lcom/example/fixtures_per_argument/fixturesperargument/engine/Phase;" (.ref sw4)) (S_sw5 : Sta Z Z.heap "com/example/fixtures_per_argument/fixturesperargument/engine/Phase" "AFTER_ALL" "Lcom/example/fixtures_per_argument/fixturesperargument/engine/Phase;" (.ref sw5)) (S_sw6 : Sta Z Z.heap "com/example/fixtures_per_argument/fixturesperargument/engine/Phase" "CONCLUDE" "Lcom/example/fixtures_per_argument/fixturesperargument/engine/Phase;" (.ref sw6)) (S_wV : Sta Z Z.heap "com/example/fixtures_per_argument/fixturesperargument/engine/Phase" "$VALUES" "[Lcom/example/fixtures_per_argument/fixturesperargument/engine/Phase;" (.ref wV)) (VV : Arv Z Z.heap wV kV (.object "com/example/fixtures_per_argument/fixturesperargument/engine/Phase") (7 : Int32) [(.ref sw0), (.ref sw1), (.ref sw2), (.ref sw3), (.ref sw4), (.ref sw5), (.ref sw6)] .null) (VE : Exa Z Z.heap wV "[Lcom/example/fixtures_per_argument/fixturesperargument/engine/Phase;") (F_setUp_sw0 : Fld Z Z.heap sw0 "com/example/fixtures_per_argument/fixturesperargument/engine/Phase" "setUp" "Lcom/example/fixtures_per_argument/fixturesperargument/engine/Phase;" .null) (F_setUp_sw1 : Fld Z Z.heap sw1 "com/example/fixtures_per_argument/fixturesperargument/engine/Phase" "setUp" "Lcom/example/fixtures_per_argument/fixturesperargument/engine/Phase;" .null) (F_setUp_sw2 : Fld Z Z.heap sw2 "com/example/fixtures_per_argument/fixturesperargument/engine/Phase" "setUp" "Lcom/example/fixtures_per_argument/fixturesperargument/engine/Phase;" .null) (F_setUp_sw3 : Fld Z Z.heap sw3 "com/example/fixtures_per_argument/fixturesperargument/engine/Phase" "setUp" "Lcom/example/fixtures_per_argument/fixturesperargument/engine/Phase;" .null) (F_setUp_sw4 : Fld Z Z.heap sw4 "com/example/fixtures_per_argument/fixturesperargument/engine/Phase" "setUp" "Lcom/example/fixtures_per_argument/fixturesperargument/engine/Phase;" (.ref sw2)) (F_setUp_sw5 : Fld Z Z.heap sw5 "com/example/fixtures_per_argument/fixturesperargument/engine/Phase" "setUp" "Lcom/example/fixtures_per_argument/fixturesperargument/engine/Phase;" (.ref sw1)) (F_setUp_sw6 : Fld Z Z.heap sw6 "com/example/fixtures_per_argument/fixturesperargument/engine/Phase" "setUp" "Lcom/example/fixtures_per_argument/fixturesperargument/engine/Phase;" (.ref sw0)) (n20 : ¬ (sw2 = sw0)) (n10 : ¬ (sw1 = sw0)) (n21 : ¬ (sw2 = sw1)) (E_sw0 : Exa Z Z.heap sw0 "com/example/fixtures_per_argument/fixturesperargument/engine/Phase") (E_sw1 : Exa Z Z.heap sw1 "com/example/fixtures_per_argument/fixturesperargument/engine/Phase") (E_sw2 : Exa Z Z.heap sw2 "com/example/fixtures_per_argument/fixturesperargument/engine/Phase") :
    MetFree l (⟨"com/example/fixtures_per_argument/fixturesperargument/engine/Phase", "getCleanup", "()Lcom/example/fixtures_per_argument/fixturesperargument/engine/Phase;"⟩ : MethodName) (head1 (Jvm.Cond.code (⟨"com/example/fixtures_per_argument/fixturesperargument/engine/Phase", "getCleanup", "()Lcom/example/fixtures_per_argument/fixturesperargument/engine/Phase;"⟩ : MethodName) prog_26_method_7_code 5 (some (.object "com/example/fixtures_per_argument/fixturesperargument/engine/Phase")) :: ws) ({ frames := 2, cells := 1, slots := 7, locals := 25 } : Room)) (fun a U => a = #[(.ref sw0)] ∧ Z.Warmed39 U.vm ∧ U.heap = h0) (fun _ _ _ _ _ => True) (fun _ U o U' => ∃ v L, o = .returned v ∧ Q_clean0 Z sw0 sw1 sw2 sw3 sw4 sw5 sw6 wV kV h0 n0 v U'.heap L ∧ FrameEnd U o U' L ({ frames := 2, cells := 1, slots := 7, locals := 25 } : Room).cells ({ frames := 2, cells := 1, slots := 7, locals := 25 } : Room).slots) := by
  refine MetFree.of_bodySF (plainFor_of_name pn_Phase) hisR ?_
  intro p e s m args below meth c s₁ Bd hml0 hP hK
  obtain ⟨rfl, hZ, hh⟩ := hP
  have hx := Bd.exec
  have hby := Bd.bytes
  have hml : c.maxLocals = 5 := hml0
  have hown : s.vm.findClass "com/example/fixtures_per_argument/fixturesperargument/engine/Phase" = some m.cls := findClass_of_methodNamed Bd.named
  have hnm := (name_of_methodNamed Bd.named Bd.method).1
  have X0 : Stand p l e ({ frames := 2, cells := 1, slots := 7, locals := 25 } : Room) s m #[(.ref sw0)] below meth c s₁ [] 0 0 := Stand.of_body Bd
  have e0 : s₁.heap = h0 := by rw [← hh, Bd.state]; rfl
  have N0 := Fr.nil n0
  have pre0 : ∀ t, Steps p.tables e below (s₁.setTop (mkF m 0 #[.val (.ref sw0), .unset, .unset, .unset, .unset] [])) t → Steps p.tables e below (s₁.setTop (entryFrame m #[(.ref sw0)] 5)) t := fun t k => castTop (ef_clean0 m) k
  obtain ⟨_, _, ⟨T1, L1, k1, n1⟩, -, X1, ⟨Lc1, hQ1, l1, y1, z1⟩, st1⟩ := Jvm.LawKit.callS X0 hx (y := (⟨"com/example/fixtures_per_argument/fixturesperargument/engine/Phase", "values", "()[Lcom/example/fixtures_per_argument/fixturesperargument/engine/Phase;"⟩ : MethodName)) hown (mvT hZ (hw _ (List.mem_of_getElem? (i := 11) rfl))) (mvT hZ (hw _ (List.mem_of_getElem? (i := 12) rfl))) (mvT hZ (hw _ (List.mem_of_getElem? (i := 2) rfl))) (mvT hZ (hw _ (List.mem_of_getElem? (i := 13) rfl))) (by decide) (backOf (W := 0) (rm_values l Z a0 hw [] sw0 sw1 sw2 sw3 sw4 sw5 sw6 wV kV h0 n0 (own_z0 O0) O0 S_sw0 S_sw1 S_sw2 S_sw3 S_sw4 S_sw5 S_sw6 S_wV VV VE F_setUp_sw0 F_setUp_sw1 F_setUp_sw2 F_setUp_sw3 F_setUp_sw4 F_setUp_sw5 F_setUp_sw6 n20 n10 n21 E_sw0 E_sw1 E_sw2) hZ (hw _ (List.mem_of_getElem? (i := 13) rfl)) (hw _ (List.mem_of_getElem? (i := 2) rfl)) (by decide) (by decide)) (g := (mkF m 0 #[.val (.ref sw0), .unset, .unset, .unset, .unset] [])) rfl (by rw [hml]; rfl) (argsL := []) (rest := []) (lenOf pd_gument_fixturesperargument_engine_Phase__71 rfl) rfl (by show 2 * 0 + _ ≤ _; exact Nat.le_of_eq rfl) (hb hby d1_0) (fun _ _ => ⟨rfl, e0, (by decide : 0 + 1 ≤ _), (by decide : 0 + 7 ≤ _)⟩)
  dsimp only [Pt.U, Pt.locs, Pt.cells, Pt.slots] at X1 l1 y1 z1 st1 hQ1
  subst l1 y1 z1
  obtain ⟨r1, rfl, N1q, K1, f1⟩ := hQ1
  have N1 := Fr.app N0 N1q
  obtain ⟨cl2, Ar2, vq2, vS2, vN2, vH2, vG2⟩ := id f1
  obtain ⟨cl3, Ar3, vq3, vS3, vN3, vH3, vG3⟩ := id f1
  have hin3 : ¬ (((0 : Int32) : Int32) < 0 ∨ cl3.slots.size ≤ ((0 : Int32) : Int32).toNatClampNeg) := inb_of vS3 ⟨by decide, by decide⟩
  have O5 := (O0.keep K1 all0)
  obtain ⟨T4, X4, e4, st4⟩ := getF X1 hx hZ hown (host := "") (Or.inl (hw _ (List.mem_of_getElem? (i := 31) rfl))) Via.refl rfl (F_setUp_sw0.ext O5.2) (g := (mkF m 21 #[.val (.ref sw0), .val (.ref r1), .val (.int (7 : Int32)), .val (.int (0 : Int32)), .val (.ref sw0)] [(.ref sw0)])) rfl rfl (hb hby d1_21)
  obtain ⟨cl6, Ar6, vq6, vS6, vN6, vH6, vG6⟩ := id f1
  have hin6 : ¬ (((1 : Int32) : Int32) < 0 ∨ cl6.slots.size ≤ ((1 : Int32) : Int32).toNatClampNeg) := inb_of vS6 ⟨by decide, by decide⟩
  obtain ⟨T7, X7, e7, st7⟩ := getF X4 hx hZ hown (host := "") (Or.inl (hw _ (List.mem_of_getElem? (i := 31) rfl))) Via.refl e4 (F_setUp_sw1.ext O5.2) (g := (mkF m 21 #[.val (.ref sw0), .val (.ref r1), .val (.int (7 : Int32)), .val (.int (1 : Int32)), .val (.ref sw1)] [(.ref sw1)])) rfl rfl (hb hby d1_21)
  obtain ⟨cl8, Ar8, vq8, vS8, vN8, vH8, vG8⟩ := id f1
  have hin8 : ¬ (((2 : Int32) : Int32) < 0 ∨ cl8.slots.size ≤ ((2 : Int32) : Int32).toNatClampNeg) := inb_of vS8 ⟨by decide, by decide⟩
  obtain ⟨T9, X9, e9, st9⟩ := getF X7 hx hZ hown (host := "") (Or.inl (hw _ (List.mem_of_getElem? (i := 31) rfl))) Via.refl e7 (F_setUp_sw2.ext O5.2) (g := (mkF m 21 #[.val (.ref sw0), .val (.ref r1), .val (.int (7 : Int32)), .val (.int (2 : Int32)), .val (.ref sw2)] [(.ref sw2)])) rfl rfl (hb hby d1_21)
  obtain ⟨cl10, Ar10, vq10, vS10, vN10, vH10, vG10⟩ := id f1
  have hin10 : ¬ (((3 : Int32) : Int32) < 0 ∨ cl10.slots.size ≤ ((3 : Int32) : Int32).toNatClampNeg) := inb_of vS10 ⟨by decide, by decide⟩
  obtain ⟨T11, X11, e11, st11⟩ := getF X9 hx hZ hown (host := "") (Or.inl (hw _ (List.mem_of_getElem? (i := 31) rfl))) Via.refl e9 (F_setUp_sw3.ext O5.2) (g := (mkF m 21 #[.val (.ref sw0), .val (.ref r1), .val (.int (7 : Int32)), .val (.int (3 : Int32)), .val (.ref sw3)] [(.ref sw3)])) rfl rfl (hb hby d1_21)
  obtain ⟨cl12, Ar12, vq12, vS12, vN12, vH12, vG12⟩ := id f1
  have hin12 : ¬ (((4 : Int32) : Int32) < 0 ∨ cl12.slots.size ≤ ((4 : Int32) : Int32).toNatClampNeg) := inb_of vS12 ⟨by decide, by decide⟩
  obtain ⟨T13, X13, e13, st13⟩ := getF X11 hx hZ hown (host := "") (Or.inl (hw _ (List.mem_of_getElem? (i := 31) rfl))) Via.refl e11 (F_setUp_sw4.ext O5.2) (g := (mkF m 21 #[.val (.ref sw0), .val (.ref r1), .val (.int (7 : Int32)), .val (.int (4 : Int32)), .val (.ref sw4)] [(.ref sw4)])) rfl rfl (hb hby d1_21)
  obtain ⟨cl14, Ar14, vq14, vS14, vN14, vH14, vG14⟩ := id f1
  have hin14 : ¬ (((5 : Int32) : Int32) < 0 ∨ cl14.slots.size ≤ ((5 : Int32) : Int32).toNatClampNeg) := inb_of vS14 ⟨by decide, by decide⟩
  obtain ⟨T15, X15, e15, st15⟩ := getF X13 hx hZ hown (host := "") (Or.inl (hw _ (List.mem_of_getElem? (i := 31) rfl))) Via.refl e13 (F_setUp_sw5.ext O5.2) (g := (mkF m 21 #[.val (.ref sw0), .val (.ref r1), .val (.int (7 : Int32)), .val (.int (5 : Int32)), .val (.ref sw5)] [(.ref sw5)])) rfl rfl (hb hby d1_21)
  obtain ⟨cl16, Ar16, vq16, vS16, vN16, vH16, vG16⟩ := id f1
  have hin16 : ¬ (((6 : Int32) : Int32) < 0 ∨ cl16.slots.size ≤ ((6 : Int32) : Int32).toNatClampNeg) := inb_of vS16 ⟨by decide, by decide⟩
  obtain ⟨T17, X17, e17, st17⟩ := getF X15 hx hZ hown (host := "") (Or.inl (hw _ (List.mem_of_getElem? (i := 31) rfl))) Via.refl e15 (F_setUp_sw6.ext O5.2) (g := (mkF m 21 #[.val (.ref sw0), .val (.ref r1), .val (.int (7 : Int32)), .val (.int (6 : Int32)), .val (.ref sw6)] [(.ref sw6)])) rfl rfl (hb hby d1_21)
  obtain ⟨fs, hr, hrun, hended, hW, hsame⟩ := X17.leave (v := some (.ref sw6)) (fun h => by rw [Bd.returns] at h; cases h)
  refine ⟨_, _, pre0 _ ?_, hrun, hended, _, _, rfl, ?_, ⟨_, rfl⟩, hW, hsame.mono (by decide) (by decide)⟩
  · show Steps p.tables e below (s₁.setTop (mkF m 0 #[.val (.ref sw0), .unset, .unset, .unset, .unset] [])) _
    refine st1 _ ?_
    show Steps p.tables e below (T1.setTop (mkF m 3 #[.val (.ref sw0), .unset, .unset, .unset, .unset] [(.ref r1)])) _
    refine XS.astoreN X1.here hx rfl (hb hby d1_3) rfl rfl (l' := #[.val (.ref sw0), .val (.ref r1), .unset, .unset, .unset]) rfl ?_
    show Steps p.tables e below (T1.setTop (mkF m 4 #[.val (.ref sw0), .val (.ref r1), .unset, .unset, .unset] [])) _
    refine XS.aloadN X1.here hx rfl (hb hby d1_4) rfl rfl ?_
    show Steps p.tables e below (T1.setTop (mkF m 5 #[.val (.ref sw0), .val (.ref r1), .unset, .unset, .unset] [(.ref r1)])) _
    refine X1.arraylength hx Ar2.1 (State.isArrayOf_alike hZ.alike Ar2.2.1) (g := (mkF m 5 #[.val (.ref sw0), .val (.ref r1), .unset, .unset, .unset] [(.ref r1)])) rfl rfl (hb hby d1_5) _ ?_
    rw [len_of vS2 vN2]
    show Steps p.tables e below (T1.setTop (mkF m 6 #[.val (.ref sw0), .val (.ref r1), .unset, .unset, .unset] [(.int (7 : Int32))])) _
    refine XS.istoreN X1.here hx rfl (hb hby d1_6) rfl (l' := #[.val (.ref sw0), .val (.ref r1), .val (.int (7 : Int32)), .unset, .unset]) rfl ?_
    show Steps p.tables e below (T1.setTop (mkF m 7 #[.val (.ref sw0), .val (.ref r1), .val (.int (7 : Int32)), .unset, .unset] [])) _
    refine XS.iconst X1.here hx rfl (hb hby d1_7) ?_
    show Steps p.tables e below (T1.setTop (mkF m 8 #[.val (.ref sw0), .val (.ref r1), .val (.int (7 : Int32)), .unset, .unset] [(.int (0 : Int32))])) _
    refine XS.istoreN X1.here hx rfl (hb hby d1_8) rfl (l' := #[.val (.ref sw0), .val (.ref r1), .val (.int (7 : Int32)), .val (.int (0 : Int32)), .unset]) rfl ?_
    show Steps p.tables e below (T1.setTop (mkF m 9 #[.val (.ref sw0), .val (.ref r1), .val (.int (7 : Int32)), .val (.int (0 : Int32)), .unset] [])) _
    refine XS.iloadN X1.here hx rfl (hb hby d1_9) rfl ?_
    show Steps p.tables e below (T1.setTop (mkF m 10 #[.val (.ref sw0), .val (.ref r1), .val (.int (7 : Int32)), .val (.int (0 : Int32)), .unset] [(.int (0 : Int32))])) _
    refine XS.iloadN X1.here hx rfl (hb hby d1_10) rfl ?_
    show Steps p.tables e below (T1.setTop (mkF m 11 #[.val (.ref sw0), .val (.ref r1), .val (.int (7 : Int32)), .val (.int (0 : Int32)), .unset] [(.int (7 : Int32)), (.int (0 : Int32))])) _
    refine XS.icmpNo X1.here hx rfl (hb hby d1_11) rfl (tlt (by decide : (0 : Int32) < (7 : Int32))).2.1 ?_
    show Steps p.tables e below (T1.setTop (mkF m 14 #[.val (.ref sw0), .val (.ref r1), .val (.int (7 : Int32)), .val (.int (0 : Int32)), .unset] [])) _
    refine XS.aloadN X1.here hx rfl (hb hby d1_14) rfl rfl ?_
    show Steps p.tables e below (T1.setTop (mkF m 15 #[.val (.ref sw0), .val (.ref r1), .val (.int (7 : Int32)), .val (.int (0 : Int32)), .unset] [(.ref r1)])) _
    refine XS.iloadN X1.here hx rfl (hb hby d1_15) rfl ?_
    show Steps p.tables e below (T1.setTop (mkF m 16 #[.val (.ref sw0), .val (.ref r1), .val (.int (7 : Int32)), .val (.int (0 : Int32)), .unset] [(.int (0 : Int32)), (.ref r1)])) _
    refine X1.aaload hx (j := (0 : Int32)) (v := (.ref sw0)) Ar3.1 (State.isArrayOf_alike hZ.alike Ar3.2.1) rfl Ar3.2.2 hin3 (vH3.at hin3 rfl) (g := (mkF m 16 #[.val (.ref sw0), .val (.ref r1), .val (.int (7 : Int32)), .val (.int (0 : Int32)), .unset] [(.int (0 : Int32)), (.ref r1)])) rfl rfl (hb hby d1_16) _ ?_
    show Steps p.tables e below (T1.setTop (mkF m 17 #[.val (.ref sw0), .val (.ref r1), .val (.int (7 : Int32)), .val (.int (0 : Int32)), .unset] [(.ref sw0)])) _
    refine XS.astore X1.here hx rfl (hb hby d1_17) rfl rfl (l' := #[.val (.ref sw0), .val (.ref r1), .val (.int (7 : Int32)), .val (.int (0 : Int32)), .val (.ref sw0)]) rfl ?_
    show Steps p.tables e below (T1.setTop (mkF m 19 #[.val (.ref sw0), .val (.ref r1), .val (.int (7 : Int32)), .val (.int (0 : Int32)), .val (.ref sw0)] [])) _
    refine XS.aload X1.here hx rfl (hb hby d1_19) rfl rfl ?_
    show Steps p.tables e below (T1.setTop (mkF m 21 #[.val (.ref sw0), .val (.ref r1), .val (.int (7 : Int32)), .val (.int (0 : Int32)), .val (.ref sw0)] [(.ref sw0)])) _
    refine st4 _ ?_
    show Steps p.tables e below (T4.setTop (mkF m 24 #[.val (.ref sw0), .val (.ref r1), .val (.int (7 : Int32)), .val (.int (0 : Int32)), .val (.ref sw0)] [.null])) _
    refine XS.aloadN X4.here hx rfl (hb hby d1_24) rfl rfl ?_
    show Steps p.tables e below (T4.setTop (mkF m 25 #[.val (.ref sw0), .val (.ref r1), .val (.int (7 : Int32)), .val (.int (0 : Int32)), .val (.ref sw0)] [(.ref sw0), .null])) _
    refine Jvm.RoadKit.acmp (g := (mkF m 25 #[.val (.ref sw0), .val (.ref r1), .val (.int (7 : Int32)), .val (.int (0 : Int32)), .val (.ref sw0)] [(.ref sw0), .null])) X4 hx rfl rfl rfl (pc0 := 25) (pc' := 31) (same := false) rfl (hb hby d1_25) rfl (decide_eq_false nofun) (by decide) (by decide) ?_
    show Steps p.tables e below (T4.setTop (mkF m 31 #[.val (.ref sw0), .val (.ref r1), .val (.int (7 : Int32)), .val (.int (0 : Int32)), .val (.ref sw0)] [])) _
    refine XS.iinc X4.here hx rfl (hb hby d1_31) rfl (l' := #[.val (.ref sw0), .val (.ref r1), .val (.int (7 : Int32)), .val (.int (1 : Int32)), .val (.ref sw0)]) rfl ?_
    show Steps p.tables e below (T4.setTop (mkF m 34 #[.val (.ref sw0), .val (.ref r1), .val (.int (7 : Int32)), .val (.int (1 : Int32)), .val (.ref sw0)] [])) _
    refine XS.goto X4.here hx rfl (pc0 := 34) (pc' := 9) rfl (hb hby d1_34) (by decide) (by decide) ?_
    show Steps p.tables e below (T4.setTop (mkF m 9 #[.val (.ref sw0), .val (.ref r1), .val (.int (7 : Int32)), .val (.int (1 : Int32)), .val (.ref sw0)] [])) _
    refine XS.iloadN X4.here hx rfl (hb hby d1_9) rfl ?_
    show Steps p.tables e below (T4.setTop (mkF m 10 #[.val (.ref sw0), .val (.ref r1), .val (.int (7 : Int32)), .val (.int (1 : Int32)), .val (.ref sw0)] [(.int (1 : Int32))])) _
    refine XS.iloadN X4.here hx rfl (hb hby d1_10) rfl ?_
    show Steps p.tables e below (T4.setTop (mkF m 11 #[.val (.ref sw0), .val (.ref r1), .val (.int (7 : Int32)), .val (.int (1 : Int32)), .val (.ref sw0)] [(.int (7 : Int32)), (.int (1 : Int32))])) _
    refine XS.icmpNo X4.here hx rfl (hb hby d1_11) rfl (tlt (by decide : (1 : Int32) < (7 : Int32))).2.1 ?_
    show Steps p.tables e below (T4.setTop (mkF m 14 #[.val (.ref sw0), .val (.ref r1), .val (.int (7 : Int32)), .val (.int (1 : Int32)), .val (.ref sw0)] [])) _
    refine XS.aloadN X4.here hx rfl (hb hby d1_14) rfl rfl ?_
    show Steps p.tables e below (T4.setTop (mkF m 15 #[.val (.ref sw0), .val (.ref r1), .val (.int (7 : Int32)), .val (.int (1 : Int32)), .val (.ref sw0)] [(.ref r1)])) _
    refine XS.iloadN X4.here hx rfl (hb hby d1_15) rfl ?_
    show Steps p.tables e below (T4.setTop (mkF m 16 #[.val (.ref sw0), .val (.ref r1), .val (.int (7 : Int32)), .val (.int (1 : Int32)), .val (.ref sw0)] [(.int (1 : Int32)), (.ref r1)])) _
    refine X4.aaload hx (j := (1 : Int32)) (v := (.ref sw1)) (by rw [e4]; exact Ar6.1) (State.isArrayOf_alike hZ.alike Ar6.2.1) rfl Ar6.2.2 hin6 (vH6.at hin6 rfl) (g := (mkF m 16 #[.val (.ref sw0), .val (.ref r1), .val (.int (7 : Int32)), .val (.int (1 : Int32)), .val (.ref sw0)] [(.int (1 : Int32)), (.ref r1)])) rfl rfl (hb hby d1_16) _ ?_
    show Steps p.tables e below (T4.setTop (mkF m 17 #[.val (.ref sw0), .val (.ref r1), .val (.int (7 : Int32)), .val (.int (1 : Int32)), .val (.ref sw0)] [(.ref sw1)])) _
    refine XS.astore X4.here hx rfl (hb hby d1_17) rfl rfl (l' := #[.val (.ref sw0), .val (.ref r1), .val (.int (7 : Int32)), .val (.int (1 : Int32)), .val (.ref sw1)]) rfl ?_
    show Steps p.tables e below (T4.setTop (mkF m 19 #[.val (.ref sw0), .val (.ref r1), .val (.int (7 : Int32)), .val (.int (1 : Int32)), .val (.ref sw1)] [])) _
    refine XS.aload X4.here hx rfl (hb hby d1_19) rfl rfl ?_
    show Steps p.tables e below (T4.setTop (mkF m 21 #[.val (.ref sw0), .val (.ref r1), .val (.int (7 : Int32)), .val (.int (1 : Int32)), .val (.ref sw1)] [(.ref sw1)])) _
    refine st7 _ ?_
    show Steps p.tables e below (T7.setTop (mkF m 24 #[.val (.ref sw0), .val (.ref r1), .val (.int (7 : Int32)), .val (.int (1 : Int32)), .val (.ref sw1)] [.null])) _
    refine XS.aloadN X7.here hx rfl (hb hby d1_24) rfl rfl ?_
    show Steps p.tables e below (T7.setTop (mkF m 25 #[.val (.ref sw0), .val (.ref r1), .val (.int (7 : Int32)), .val (.int (1 : Int32)), .val (.ref sw1)] [(.ref sw0), .null])) _
    refine Jvm.RoadKit.acmp (g := (mkF m 25 #[.val (.ref sw0), .val (.ref r1), .val (.int (7 : Int32)), .val (.int (1 : Int32)), .val (.ref sw1)] [(.ref sw0), .null])) X7 hx rfl rfl rfl (pc0 := 25) (pc' := 31) (same := false) rfl (hb hby d1_25) rfl (decide_eq_false nofun) (by decide) (by decide) ?_
    show Steps p.tables e below (T7.setTop (mkF m 31 #[.val (.ref sw0), .val (.ref r1), .val (.int (7 : Int32)), .val (.int (1 : Int32)), .val (.ref sw1)] [])) _
    refine XS.iinc X7.here hx rfl (hb hby d1_31) rfl (l' := #[.val (.ref sw0), .val (.ref r1), .val (.int (7 : Int32)), .val (.int (2 : Int32)), .val (.ref sw1)]) rfl ?_
    show Steps p.tables e below (T7.setTop (mkF m 34 #[.val (.ref sw0), .val (.ref r1), .val (.int (7 : Int32)), .val (.int (2 : Int32)), .val (.ref sw1)] [])) _
    refine XS.goto X7.here hx rfl (pc0 := 34) (pc' := 9) rfl (hb hby d1_34) (by decide) (by decide) ?_
    show Steps p.tables e below (T7.setTop (mkF m 9 #[.val (.ref sw0), .val (.ref r1), .val (.int (7 : Int32)), .val (.int (2 : Int32)), .val (.ref sw1)] [])) _
    refine XS.iloadN X7.here hx rfl (hb hby d1_9) rfl ?_
    show Steps p.tables e below (T7.setTop (mkF m 10 #[.val (.ref sw0), .val (.ref r1), .val (.int (7 : Int32)), .val (.int (2 : Int32)), .val (.ref sw1)] [(.int (2 : Int32))])) _
    refine XS.iloadN X7.here hx rfl (hb hby d1_10) rfl ?_
    show Steps p.tables e below (T7.setTop (mkF m 11 #[.val (.ref sw0), .val (.ref r1), .val (.int (7 : Int32)), .val (.int (2 : Int32)), .val (.ref sw1)] [(.int (7 : Int32)), (.int (2 : Int32))])) _
    refine XS.icmpNo X7.here hx rfl (hb hby d1_11) rfl (tlt (by decide : (2 : Int32) < (7 : Int32))).2.1 ?_
    show Steps p.tables e below (T7.setTop (mkF m 14 #[.val (.ref sw0), .val (.ref r1), .val (.int (7 : Int32)), .val (.int (2 : Int32)), .val (.ref sw1)] [])) _
    refine XS.aloadN X7.here hx rfl (hb hby d1_14) rfl rfl ?_
    show Steps p.tables e below (T7.setTop (mkF m 15 #[.val (.ref sw0), .val (.ref r1), .val (.int (7 : Int32)), .val (.int (2 : Int32)), .val (.ref sw1)] [(.ref r1)])) _
    refine XS.iloadN X7.here hx rfl (hb hby d1_15) rfl ?_
    show Steps p.tables e below (T7.setTop (mkF m 16 #[.val (.ref sw0), .val (.ref r1), .val (.int (7 : Int32)), .val (.int (2 : Int32)), .val (.ref sw1)] [(.int (2 : Int32)), (.ref r1)])) _
    refine X7.aaload hx (j := (2 : Int32)) (v := (.ref sw2)) (by rw [e7]; exact Ar8.1) (State.isArrayOf_alike hZ.alike Ar8.2.1) rfl Ar8.2.2 hin8 (vH8.at hin8 rfl) (g := (mkF m 16 #[.val (.ref sw0), .val (.ref r1), .val (.int (7 : Int32)), .val (.int (2 : Int32)), .val (.ref sw1)] [(.int (2 : Int32)), (.ref r1)])) rfl rfl (hb hby d1_16) _ ?_
    show Steps p.tables e below (T7.setTop (mkF m 17 #[.val (.ref sw0), .val (.ref r1), .val (.int (7 : Int32)), .val (.int (2 : Int32)), .val (.ref sw1)] [(.ref sw2)])) _
    refine XS.astore X7.here hx rfl (hb hby d1_17) rfl rfl (l' := #[.val (.ref sw0), .val (.ref r1), .val (.int (7 : Int32)), .val (.int (2 : Int32)), .val (.ref sw2)]) rfl ?_
    show Steps p.tables e below (T7.setTop (mkF m 19 #[.val (.ref sw0), .val (.ref r1), .val (.int (7 : Int32)), .val (.int (2 : Int32)), .val (.ref sw2)] [])) _
    refine XS.aload X7.here hx rfl (hb hby d1_19) rfl rfl ?_
    show Steps p.tables e below (T7.setTop (mkF m 21 #[.val (.ref sw0), .val (.ref r1), .val (.int (7 : Int32)), .val (.int (2 : Int32)), .val (.ref sw2)] [(.ref sw2)])) _
    refine st9 _ ?_
    show Steps p.tables e below (T9.setTop (mkF m 24 #[.val (.ref sw0), .val (.ref r1), .val (.int (7 : Int32)), .val (.int (2 : Int32)), .val (.ref sw2)] [.null])) _
    refine XS.aloadN X9.here hx rfl (hb hby d1_24) rfl rfl ?_
    show Steps p.tables e below (T9.setTop (mkF m 25 #[.val (.ref sw0), .val (.ref r1), .val (.int (7 : Int32)), .val (.int (2 : Int32)), .val (.ref sw2)] [(.ref sw0), .null])) _
    refine Jvm.RoadKit.acmp (g := (mkF m 25 #[.val (.ref sw0), .val (.ref r1), .val (.int (7 : Int32)), .val (.int (2 : Int32)), .val (.ref sw2)] [(.ref sw0), .null])) X9 hx rfl rfl rfl (pc0 := 25) (pc' := 31) (same := false) rfl (hb hby d1_25) rfl (decide_eq_false nofun) (by decide) (by decide) ?_
    show Steps p.tables e below (T9.setTop (mkF m 31 #[.val (.ref sw0), .val (.ref r1), .val (.int (7 : Int32)), .val (.int (2 : Int32)), .val (.ref sw2)] [])) _
    refine XS.iinc X9.here hx rfl (hb hby d1_31) rfl (l' := #[.val (.ref sw0), .val (.ref r1), .val (.int (7 : Int32)), .val (.int (3 : Int32)), .val (.ref sw2)]) rfl ?_
    show Steps p.tables e below (T9.setTop (mkF m 34 #[.val (.ref sw0), .val (.ref r1), .val (.int (7 : Int32)), .val (.int (3 : Int32)), .val (.ref sw2)] [])) _
    refine XS.goto X9.here hx rfl (pc0 := 34) (pc' := 9) rfl (hb hby d1_34) (by decide) (by decide) ?_
    show Steps p.tables e below (T9.setTop (mkF m 9 #[.val (.ref sw0), .val (.ref r1), .val (.int (7 : Int32)), .val (.int (3 : Int32)), .val (.ref sw2)] [])) _
    refine XS.iloadN X9.here hx rfl (hb hby d1_9) rfl ?_
    show Steps p.tables e below (T9.setTop (mkF m 10 #[.val (.ref sw0), .val (.ref r1), .val (.int (7 : Int32)), .val (.int (3 : Int32)), .val (.ref sw2)] [(.int (3 : Int32))])) _
    refine XS.iloadN X9.here hx rfl (hb hby d1_10) rfl ?_
    show Steps p.tables e below (T9.setTop (mkF m 11 #[.val (.ref sw0), .val (.ref r1), .val (.int (7 : Int32)), .val (.int (3 : Int32)), .val (.ref sw2)] [(.int (7 : Int32)), (.int (3 : Int32))])) _
    refine XS.icmpNo X9.here hx rfl (hb hby d1_11) rfl (tlt (by decide : (3 : Int32) < (7 : Int32))).2.1 ?_
    show Steps p.tables e below (T9.setTop (mkF m 14 #[.val (.ref sw0), .val (.ref r1), .val (.int (7 : Int32)), .val (.int (3 : Int32)), .val (.ref sw2)] [])) _
    refine XS.aloadN X9.here hx rfl (hb hby d1_14) rfl rfl ?_
    show Steps p.tables e below (T9.setTop (mkF m 15 #[.val (.ref sw0), .val (.ref r1), .val (.int (7 : Int32)), .val (.int (3 : Int32)), .val (.ref sw2)] [(.ref r1)])) _
    refine XS.iloadN X9.here hx rfl (hb hby d1_15) rfl ?_
    show Steps p.tables e below (T9.setTop (mkF m 16 #[.val (.ref sw0), .val (.ref r1), .val (.int (7 : Int32)), .val (.int (3 : Int32)), .val (.ref sw2)] [(.int (3 : Int32)), (.ref r1)])) _
    refine X9.aaload hx (j := (3 : Int32)) (v := (.ref sw3)) (by rw [e9]; exact Ar10.1) (State.isArrayOf_alike hZ.alike Ar10.2.1) rfl Ar10.2.2 hin10 (vH10.at hin10 rfl) (g := (mkF m 16 #[.val (.ref sw0), .val (.ref r1), .val (.int (7 : Int32)), .val (.int (3 : Int32)), .val (.ref sw2)] [(.int (3 : Int32)), (.ref r1)])) rfl rfl (hb hby d1_16) _ ?_
    show Steps p.tables e below (T9.setTop (mkF m 17 #[.val (.ref sw0), .val (.ref r1), .val (.int (7 : Int32)), .val (.int (3 : Int32)), .val (.ref sw2)] [(.ref sw3)])) _
    refine XS.astore X9.here hx rfl (hb hby d1_17) rfl rfl (l' := #[.val (.ref sw0), .val (.ref r1), .val (.int (7 : Int32)), .val (.int (3 : Int32)), .val (.ref sw3)]) rfl ?_
    show Steps p.tables e below (T9.setTop (mkF m 19 #[.val (.ref sw0), .val (.ref r1), .val (.int (7 : Int32)), .val (.int (3 : Int32)), .val (.ref sw3)] [])) _
    refine XS.aload X9.here hx rfl (hb hby d1_19) rfl rfl ?_
    show Steps p.tables e below (T9.setTop (mkF m 21 #[.val (.ref sw0), .val (.ref r1), .val (.int (7 : Int32)), .val (.int (3 : Int32)), .val (.ref sw3)] [(.ref sw3)])) _
    refine st11 _ ?_
    show Steps p.tables e below (T11.setTop (mkF m 24 #[.val (.ref sw0), .val (.ref r1), .val (.int (7 : Int32)), .val (.int (3 : Int32)), .val (.ref sw3)] [.null])) _
    refine XS.aloadN X11.here hx rfl (hb hby d1_24) rfl rfl ?_
    show Steps p.tables e below (T11.setTop (mkF m 25 #[.val (.ref sw0), .val (.ref r1), .val (.int (7 : Int32)), .val (.int (3 : Int32)), .val (.ref sw3)] [(.ref sw0), .null])) _
    refine Jvm.RoadKit.acmp (g := (mkF m 25 #[.val (.ref sw0), .val (.ref r1), .val (.int (7 : Int32)), .val (.int (3 : Int32)), .val (.ref sw3)] [(.ref sw0), .null])) X11 hx rfl rfl rfl (pc0 := 25) (pc' := 31) (same := false) rfl (hb hby d1_25) rfl (decide_eq_false nofun) (by decide) (by decide) ?_
    show Steps p.tables e below (T11.setTop (mkF m 31 #[.val (.ref sw0), .val (.ref r1), .val (.int (7 : Int32)), .val (.int (3 : Int32)), .val (.ref sw3)] [])) _
    refine XS.iinc X11.here hx rfl (hb hby d1_31) rfl (l' := #[.val (.ref sw0), .val (.ref r1), .val (.int (7 : Int32)), .val (.int (4 : Int32)), .val (.ref sw3)]) rfl ?_
    show Steps p.tables e below (T11.setTop (mkF m 34 #[.val (.ref sw0), .val (.ref r1), .val (.int (7 : Int32)), .val (.int (4 : Int32)), .val (.ref sw3)] [])) _
    refine XS.goto X11.here hx rfl (pc0 := 34) (pc' := 9) rfl (hb hby d1_34) (by decide) (by decide) ?_
    show Steps p.tables e below (T11.setTop (mkF m 9 #[.val (.ref sw0), .val (.ref r1), .val (.int (7 : Int32)), .val (.int (4 : Int32)), .val (.ref sw3)] [])) _
    refine XS.iloadN X11.here hx rfl (hb hby d1_9) rfl ?_
    show Steps p.tables e below (T11.setTop (mkF m 10 #[.val (.ref sw0), .val (.ref r1), .val (.int (7 : Int32)), .val (.int (4 : Int32)), .val (.ref sw3)] [(.int (4 : Int32))])) _
    refine XS.iloadN X11.here hx rfl (hb hby d1_10) rfl ?_
    show Steps p.tables e below (T11.setTop (mkF m 11 #[.val (.ref sw0), .val (.ref r1), .val (.int (7 : Int32)), .val (.int (4 : Int32)), .val (.ref sw3)] [(.int (7 : Int32)), (.int (4 : Int32))])) _
    refine XS.icmpNo X11.here hx rfl (hb hby d1_11) rfl (tlt (by decide : (4 : Int32) < (7 : Int32))).2.1 ?_
    show Steps p.tables e below (T11.setTop (mkF m 14 #[.val (.ref sw0), .val (.ref r1), .val (.int (7 : Int32)), .val (.int (4 : Int32)), .val (.ref sw3)] [])) _
    refine XS.aloadN X11.here hx rfl (hb hby d1_14) rfl rfl ?_
    show Steps p.tables e below (T11.setTop (mkF m 15 #[.val (.ref sw0), .val (.ref r1), .val (.int (7 : Int32)), .val (.int (4 : Int32)), .val (.ref sw3)] [(.ref r1)])) _
    refine XS.iloadN X11.here hx rfl (hb hby d1_15) rfl ?_
    show Steps p.tables e below (T11.setTop (mkF m 16 #[.val (.ref sw0), .val (.ref r1), .val (.int (7 : Int32)), .val (.int (4 : Int32)), .val (.ref sw3)] [(.int (4 : Int32)), (.ref r1)])) _
    refine X11.aaload hx (j := (4 : Int32)) (v := (.ref sw4)) (by rw [e11]; exact Ar12.1) (State.isArrayOf_alike hZ.alike Ar12.2.1) rfl Ar12.2.2 hin12 (vH12.at hin12 rfl) (g := (mkF m 16 #[.val (.ref sw0), .val (.ref r1), .val (.int (7 : Int32)), .val (.int (4 : Int32)), .val (.ref sw3)] [(.int (4 : Int32)), (.ref r1)])) rfl rfl (hb hby d1_16) _ ?_
    show Steps p.tables e below (T11.setTop (mkF m 17 #[.val (.ref sw0), .val (.ref r1), .val (.int (7 : Int32)), .val (.int (4 : Int32)), .val (.ref sw3)] [(.ref sw4)])) _
    refine XS.astore X11.here hx rfl (hb hby d1_17) rfl rfl (l' := #[.val (.ref sw0), .val (.ref r1), .val (.int (7 : Int32)), .val (.int (4 : Int32)), .val (.ref sw4)]) rfl ?_
    show Steps p.tables e below (T11.setTop (mkF m 19 #[.val (.ref sw0), .val (.ref r1), .val (.int (7 : Int32)), .val (.int (4 : Int32)), .val (.ref sw4)] [])) _
    refine XS.aload X11.here hx rfl (hb hby d1_19) rfl rfl ?_
    show Steps p.tables e below (T11.setTop (mkF m 21 #[.val (.ref sw0), .val (.ref r1), .val (.int (7 : Int32)), .val (.int (4 : Int32)), .val (.ref sw4)] [(.ref sw4)])) _
    refine st13 _ ?_
    show Steps p.tables e below (T13.setTop (mkF m 24 #[.val (.ref sw0), .val (.ref r1), .val (.int (7 : Int32)), .val (.int (4 : Int32)), .val (.ref sw4)] [(.ref sw2)])) _
    refine XS.aloadN X13.here hx rfl (hb hby d1_24) rfl rfl ?_
    show Steps p.tables e below (T13.setTop (mkF m 25 #[.val (.ref sw0), .val (.ref r1), .val (.int (7 : Int32)), .val (.int (4 : Int32)), .val (.ref sw4)] [(.ref sw0), (.ref sw2)])) _
    refine Jvm.RoadKit.acmp (g := (mkF m 25 #[.val (.ref sw0), .val (.ref r1), .val (.int (7 : Int32)), .val (.int (4 : Int32)), .val (.ref sw4)] [(.ref sw0), (.ref sw2)])) X13 hx rfl rfl rfl (pc0 := 25) (pc' := 31) (same := false) rfl (hb hby d1_25) rfl (decide_eq_false fun q => n20 (Value.ref.inj q)) (by decide) (by decide) ?_
    show Steps p.tables e below (T13.setTop (mkF m 31 #[.val (.ref sw0), .val (.ref r1), .val (.int (7 : Int32)), .val (.int (4 : Int32)), .val (.ref sw4)] [])) _
    refine XS.iinc X13.here hx rfl (hb hby d1_31) rfl (l' := #[.val (.ref sw0), .val (.ref r1), .val (.int (7 : Int32)), .val (.int (5 : Int32)), .val (.ref sw4)]) rfl ?_
    show Steps p.tables e below (T13.setTop (mkF m 34 #[.val (.ref sw0), .val (.ref r1), .val (.int (7 : Int32)), .val (.int (5 : Int32)), .val (.ref sw4)] [])) _
    refine XS.goto X13.here hx rfl (pc0 := 34) (pc' := 9) rfl (hb hby d1_34) (by decide) (by decide) ?_
    show Steps p.tables e below (T13.setTop (mkF m 9 #[.val (.ref sw0), .val (.ref r1), .val (.int (7 : Int32)), .val (.int (5 : Int32)), .val (.ref sw4)] [])) _
    refine XS.iloadN X13.here hx rfl (hb hby d1_9) rfl ?_
    show Steps p.tables e below (T13.setTop (mkF m 10 #[.val (.ref sw0), .val (.ref r1), .val (.int (7 : Int32)), .val (.int (5 : Int32)), .val (.ref sw4)] [(.int (5 : Int32))])) _
    refine XS.iloadN X13.here hx rfl (hb hby d1_10) rfl ?_
    show Steps p.tables e below (T13.setTop (mkF m 11 #[.val (.ref sw0), .val (.ref r1), .val (.int (7 : Int32)), .val (.int (5 : Int32)), .val (.ref sw4)] [(.int (7 : Int32)), (.int (5 : Int32))])) _
    refine XS.icmpNo X13.here hx rfl (hb hby d1_11) rfl (tlt (by decide : (5 : Int32) < (7 : Int32))).2.1 ?_
    show Steps p.tables e below (T13.setTop (mkF m 14 #[.val (.ref sw0), .val (.ref r1), .val (.int (7 : Int32)), .val (.int (5 : Int32)), .val (.ref sw4)] [])) _
    refine XS.aloadN X13.here hx rfl (hb hby d1_14) rfl rfl ?_
    show Steps p.tables e below (T13.setTop (mkF m 15 #[.val (.ref sw0), .val (.ref r1), .val (.int (7 : Int32)), .val (.int (5 : Int32)), .val (.ref sw4)] [(.ref r1)])) _
    refine XS.iloadN X13.here hx rfl (hb hby d1_15) rfl ?_
    show Steps p.tables e below (T13.setTop (mkF m 16 #[.val (.ref sw0), .val (.ref r1), .val (.int (7 : Int32)), .val (.int (5 : Int32)), .val (.ref sw4)] [(.int (5 : Int32)), (.ref r1)])) _
    refine X13.aaload hx (j := (5 : Int32)) (v := (.ref sw5)) (by rw [e13]; exact Ar14.1) (State.isArrayOf_alike hZ.alike Ar14.2.1) rfl Ar14.2.2 hin14 (vH14.at hin14 rfl) (g := (mkF m 16 #[.val (.ref sw0), .val (.ref r1), .val (.int (7 : Int32)), .val (.int (5 : Int32)), .val (.ref sw4)] [(.int (5 : Int32)), (.ref r1)])) rfl rfl (hb hby d1_16) _ ?_
    show Steps p.tables e below (T13.setTop (mkF m 17 #[.val (.ref sw0), .val (.ref r1), .val (.int (7 : Int32)), .val (.int (5 : Int32)), .val (.ref sw4)] [(.ref sw5)])) _
    refine XS.astore X13.here hx rfl (hb hby d1_17) rfl rfl (l' := #[.val (.ref sw0), .val (.ref r1), .val (.int (7 : Int32)), .val (.int (5 : Int32)), .val (.ref sw5)]) rfl ?_
    show Steps p.tables e below (T13.setTop (mkF m 19 #[.val (.ref sw0), .val (.ref r1), .val (.int (7 : Int32)), .val (.int (5 : Int32)), .val (.ref sw5)] [])) _
    refine XS.aload X13.here hx rfl (hb hby d1_19) rfl rfl ?_
    show Steps p.tables e below (T13.setTop (mkF m 21 #[.val (.ref sw0), .val (.ref r1), .val (.int (7 : Int32)), .val (.int (5 : Int32)), .val (.ref sw5)] [(.ref sw5)])) _
    refine st15 _ ?_
    show Steps p.tables e below (T15.setTop (mkF m 24 #[.val (.ref sw0), .val (.ref r1), .val (.int (7 : Int32)), .val (.int (5 : Int32)), .val (.ref sw5)] [(.ref sw1)])) _
    refine XS.aloadN X15.here hx rfl (hb hby d1_24) rfl rfl ?_
    show Steps p.tables e below (T15.setTop (mkF m 25 #[.val (.ref sw0), .val (.ref r1), .val (.int (7 : Int32)), .val (.int (5 : Int32)), .val (.ref sw5)] [(.ref sw0), (.ref sw1)])) _
    refine Jvm.RoadKit.acmp (g := (mkF m 25 #[.val (.ref sw0), .val (.ref r1), .val (.int (7 : Int32)), .val (.int (5 : Int32)), .val (.ref sw5)] [(.ref sw0), (.ref sw1)])) X15 hx rfl rfl rfl (pc0 := 25) (pc' := 31) (same := false) rfl (hb hby d1_25) rfl (decide_eq_false fun q => n10 (Value.ref.inj q)) (by decide) (by decide) ?_
    show Steps p.tables e below (T15.setTop (mkF m 31 #[.val (.ref sw0), .val (.ref r1), .val (.int (7 : Int32)), .val (.int (5 : Int32)), .val (.ref sw5)] [])) _
    refine XS.iinc X15.here hx rfl (hb hby d1_31) rfl (l' := #[.val (.ref sw0), .val (.ref r1), .val (.int (7 : Int32)), .val (.int (6 : Int32)), .val (.ref sw5)]) rfl ?_
    show Steps p.tables e below (T15.setTop (mkF m 34 #[.val (.ref sw0), .val (.ref r1), .val (.int (7 : Int32)), .val (.int (6 : Int32)), .val (.ref sw5)] [])) _
    refine XS.goto X15.here hx rfl (pc0 := 34) (pc' := 9) rfl (hb hby d1_34) (by decide) (by decide) ?_
    show Steps p.tables e below (T15.setTop (mkF m 9 #[.val (.ref sw0), .val (.ref r1), .val (.int (7 : Int32)), .val (.int (6 : Int32)), .val (.ref sw5)] [])) _
    refine XS.iloadN X15.here hx rfl (hb hby d1_9) rfl ?_
    show Steps p.tables e below (T15.setTop (mkF m 10 #[.val (.ref sw0), .val (.ref r1), .val (.int (7 : Int32)), .val (.int (6 : Int32)), .val (.ref sw5)] [(.int (6 : Int32))])) _
    refine XS.iloadN X15.here hx rfl (hb hby d1_10) rfl ?_
    show Steps p.tables e below (T15.setTop (mkF m 11 #[.val (.ref sw0), .val (.ref r1), .val (.int (7 : Int32)), .val (.int (6 : Int32)), .val (.ref sw5)] [(.int (7 : Int32)), (.int (6 : Int32))])) _
    refine XS.icmpNo X15.here hx rfl (hb hby d1_11) rfl (tlt (by decide : (6 : Int32) < (7 : Int32))).2.1 ?_
    show Steps p.tables e below (T15.setTop (mkF m 14 #[.val (.ref sw0), .val (.ref r1), .val (.int (7 : Int32)), .val (.int (6 : Int32)), .val (.ref sw5)] [])) _
    refine XS.aloadN X15.here hx rfl (hb hby d1_14) rfl rfl ?_
    show Steps p.tables e below (T15.setTop (mkF m 15 #[.val (.ref sw0), .val (.ref r1), .val (.int (7 : Int32)), .val (.int (6 : Int32)), .val (.ref sw5)] [(.ref r1)])) _
    refine XS.iloadN X15.here hx rfl (hb hby d1_15) rfl ?_
    show Steps p.tables e below (T15.setTop (mkF m 16 #[.val (.ref sw0), .val (.ref r1), .val (.int (7 : Int32)), .val (.int (6 : Int32)), .val (.ref sw5)] [(.int (6 : Int32)), (.ref r1)])) _
    refine X15.aaload hx (j := (6 : Int32)) (v := (.ref sw6)) (by rw [e15]; exact Ar16.1) (State.isArrayOf_alike hZ.alike Ar16.2.1) rfl Ar16.2.2 hin16 (vH16.at hin16 rfl) (g := (mkF m 16 #[.val (.ref sw0), .val (.ref r1), .val (.int (7 : Int32)), .val (.int (6 : Int32)), .val (.ref sw5)] [(.int (6 : Int32)), (.ref r1)])) rfl rfl (hb hby d1_16) _ ?_
    show Steps p.tables e below (T15.setTop (mkF m 17 #[.val (.ref sw0), .val (.ref r1), .val (.int (7 : Int32)), .val (.int (6 : Int32)), .val (.ref sw5)] [(.ref sw6)])) _
    refine XS.astore X15.here hx rfl (hb hby d1_17) rfl rfl (l' := #[.val (.ref sw0), .val (.ref r1), .val (.int (7 : Int32)), .val (.int (6 : Int32)), .val (.ref sw6)]) rfl ?_
    show Steps p.tables e below (T15.setTop (mkF m 19 #[.val (.ref sw0), .val (.ref r1), .val (.int (7 : Int32)), .val (.int (6 : Int32)), .val (.ref sw6)] [])) _
    refine XS.aload X15.here hx rfl (hb hby d1_19) rfl rfl ?_
    show Steps p.tables e below (T15.setTop (mkF m 21 #[.val (.ref sw0), .val (.ref r1), .val (.int (7 : Int32)), .val (.int (6 : Int32)), .val (.ref sw6)] [(.ref sw6)])) _
    refine st17 _ ?_
    show Steps p.tables e below (T17.setTop (mkF m 24 #[.val (.ref sw0), .val (.ref r1), .val (.int (7 : Int32)), .val (.int (6 : Int32)), .val (.ref sw6)] [(.ref sw0)])) _
    refine XS.aloadN X17.here hx rfl (hb hby d1_24) rfl rfl ?_
    show Steps p.tables e below (T17.setTop (mkF m 25 #[.val (.ref sw0), .val (.ref r1), .val (.int (7 : Int32)), .val (.int (6 : Int32)), .val (.ref sw6)] [(.ref sw0), (.ref sw0)])) _
    refine Jvm.RoadKit.acmp (g := (mkF m 25 #[.val (.ref sw0), .val (.ref r1), .val (.int (7 : Int32)), .val (.int (6 : Int32)), .val (.ref sw6)] [(.ref sw0), (.ref sw0)])) X17 hx rfl rfl rfl (pc0 := 25) (pc' := 28) (same := true) rfl (hb hby d1_25) rfl (decide_eq_true rfl) (by decide) (by decide) ?_
    show Steps p.tables e below (T17.setTop (mkF m 28 #[.val (.ref sw0), .val (.ref r1), .val (.int (7 : Int32)), .val (.int (6 : Int32)), .val (.ref sw6)] [])) _
    refine XS.aload X17.here hx rfl (hb hby d1_28) rfl rfl ?_
    show Steps p.tables e below (T17.setTop (mkF m 30 #[.val (.ref sw0), .val (.ref r1), .val (.int (7 : Int32)), .val (.int (6 : Int32)), .val (.ref sw6)] [(.ref sw6)])) _
    jvm_step X17.here [X17.here.top, hx, (hb hby d1_30), X17.method', Bd.returns, Value.isRef, FieldType.isReference]
    first | (intro acts; rw [hr _ acts rfl rfl rfl]) | rw [hr _ _ rfl rfl rfl]
    exact Steps.refl _
  · show Q_clean0 Z sw0 sw1 sw2 sw3 sw4 sw5 sw6 wV kV h0 n0 _ T17.heap _
    rw [e17]
    exact ⟨rfl, N1, ((Keep.refl h0 []).trans K1 all0)⟩
def Q_clean1 (Z : State) (sw0 : Addr) (sw1 : Addr) (sw2 : Addr) (sw3 : Addr) (sw4 : Addr) (sw5 : Addr) (sw6 : Addr) (wV : Addr) (kV : ClassId) (h0 : Heap) (n0 : Nat) (v : Option Value) (h : Heap) (L : List Loc) : Prop := v = some (.ref sw5) ∧ Fr n0 L ∧ Keep h0 h []
set_option maxRecDepth 65536 in
set_option maxHeartbeats 40000000 in
theorem rm_clean1 (l : Launch) (Z : State) (a0 : Array Value) (hw : ∀ d ∈ tables_1, d.before a0 Z = true) (ws : List Jvm.Cond) (sw0 : Addr) (sw1 : Addr) (sw2 : Addr) (sw3 : Addr) (sw4 : Addr) (sw5 : Addr) (sw6 : Addr) (wV : Addr) (kV : ClassId) (h0 : Heap) (n0 : Nat) (Z0 : n0 ≤ h0.size) (O0 : Old Z n0 h0) (S_sw0 : Sta Z Z.heap "com/example/fixtures_per_argument/fixturesperargument/engine/Phase" "PREPARE" "Lcom/example/fixtures_per_argument/fixturesperargument/engine/Phase;" (.ref sw0)) (S_sw1 : Sta Z Z.heap "com/example/fixtures_per_argument/fixturesperargument/engine/Phase" "BEFORE_ALL" "Lcom/example/fixtures_per_argument/fixturesperargument/engine/Phase;" (.ref sw1)) (S_sw2 : Sta Z Z.heap "com/example/fixtures_per_argument/fixturesperargument/engine/Phase" "BEFORE_EACH" "Lcom/example/fixtures_per_argument/fixturesperargument/engine/Phase;" (.ref sw2)) (S_sw3 : Sta Z Z.heap "com/example/fixtures_per_argument/fixturesperargument/engine/Phase" "TEST" "Lcom/example/fixtures_per_argument/fixturesperargument/engine/Phase;" (.ref sw3)) (S_sw4 : Sta Z Z.heap "com/example/fixtures_per_argument/fixturesperargument/engine/Phase" "AFTER_EACH" "Lcom/example/fixtures_per_argument/fixturesperargument/engine/Phase;" (.ref sw4)) (S_sw5 : Sta Z Z.heap "com/example/fixtures_per_argument/fixturesperargument/engine/Phase" "AFTER_ALL" "Lcom/example/fixtures_per_argument/fixturesperargument/engine/Phase;" (.ref sw5)) (S_sw6 : Sta Z Z.heap "com/example/fixtures_per_argument/fixturesperargument/engine/Phase" "CONCLUDE" "Lcom/example/fixtures_per_argument/fixturesperargument/engine/Phase;" (.ref sw6)) (S_wV : Sta Z Z.heap "com/example/fixtures_per_argument/fixturesperargument/engine/Phase" "$VALUES" "[Lcom/example/fixtures_per_argument/fixturesperargument/engine/Phase;" (.ref wV)) (VV : Arv Z Z.heap wV kV (.object "com/example/fixtures_per_argument/fixturesperargument/engine/Phase") (7 : Int32) [(.ref sw0), (.ref sw1), (.ref sw2), (.ref sw3), (.ref sw4), (.ref sw5), (.ref sw6)] .null) (VE : Exa Z Z.heap wV "[Lcom/example/fixtures_per_argument/fixturesperargument/engine/Phase;") (F_setUp_sw0 : Fld Z Z.heap sw0 "com/example/fixtures_per_argument/fixturesperargument/engine/Phase" "setUp" "Lcom/example/fixtures_per_argument/fixturesperargument/engine/Phase;" .null) (F_setUp_sw1 : Fld Z Z.heap sw1 "com/example/fixtures_per_argument/fixturesperargument/engine/Phase" "setUp" "Lcom/example/fixtures_per_argument/fixturesperargument/engine/Phase;" .null) (F_setUp_sw2 : Fld Z Z.heap sw2 "com/example/fixtures_per_argument/fixturesperargument/engine/Phase" "setUp" "Lcom/example/fixtures_per_argument/fixturesperargument/engine/Phase;" .null) (F_setUp_sw3 : Fld Z Z.heap sw3 "com/example/fixtures_per_argument/fixturesperargument/engine/Phase" "setUp" "Lcom/example/fixtures_per_argument/fixturesperargument/engine/Phase;" .null) (F_setUp_sw4 : Fld Z Z.heap sw4 "com/example/fixtures_per_argument/fixturesperargument/engine/Phase" "setUp" "Lcom/example/fixtures_per_argument/fixturesperargument/engine/Phase;" (.ref sw2)) (F_setUp_sw5 : Fld Z Z.heap sw5 "com/example/fixtures_per_argument/fixturesperargument/engine/Phase" "setUp" "Lcom/example/fixtures_per_argument/fixturesperargument/engine/Phase;" (.ref sw1)) (F_setUp_sw6 : Fld Z Z.heap sw6 "com/example/fixtures_per_argument/fixturesperargument/engine/Phase" "setUp" "Lcom/example/fixtures_per_argument/fixturesperargument/engine/Phase;" (.ref sw0)) (n20 : ¬ (sw2 = sw0)) (n10 : ¬ (sw1 = sw0)) (n21 : ¬ (sw2 = sw1)) (E_sw0 : Exa Z Z.heap sw0 "com/example/fixtures_per_argument/fixturesperargument/engine/Phase") (E_sw1 : Exa Z Z.heap sw1 "com/example/fixtures_per_argument/fixturesperargument/engine/Phase") (E_sw2 : Exa Z Z.heap sw2 "com/example/fixtures_per_argument/fixturesperargument/engine/Phase") :
    MetFree l (⟨"com/example/fixtures_per_argument/fixturesperargument/engine/Phase", "getCleanup", "()Lcom/example/fixtures_per_argument/fixturesperargument/engine/Phase;"⟩ : MethodName) (head1 (Jvm.Cond.code (⟨"com/example/fixtures_per_argument/fixturesperargument/engine/Phase", "getCleanup", "()Lcom/example/fixtures_per_argument/fixturesperargument/engine/Phase;"⟩ : MethodName) prog_26_method_7_code 5 (some (.object "com/example/fixtures_per_argument/fixturesperargument/engine/Phase")) :: ws) ({ frames := 2, cells := 1, slots := 7, locals := 25 } : Room)) (fun a U => a = #[(.ref sw1)] ∧ Z.Warmed39 U.vm ∧ U.heap = h0) (fun _ _ _ _ _ => True) (fun _ U o U' => ∃ v L, o = .returned v ∧ Q_clean1 Z sw0 sw1 sw2 sw3 sw4 sw5 sw6 wV kV h0 n0 v U'.heap L ∧ FrameEnd U o U' L ({ frames := 2, cells := 1, slots := 7, locals := 25 } : Room).cells ({ frames := 2, cells := 1, slots := 7, locals := 25 } : Room).slots) := by
  refine MetFree.of_bodySF (plainFor_of_name pn_Phase) hisR ?_
  intro p e s m args below meth c s₁ Bd hml0 hP hK
  obtain ⟨rfl, hZ, hh⟩ := hP
  have hx := Bd.exec
  have hby := Bd.bytes
  have hml : c.maxLocals = 5 := hml0
  have hown : s.vm.findClass "com/example/fixtures_per_argument/fixturesperargument/engine/Phase" = some m.cls := findClass_of_methodNamed Bd.named
  have hnm := (name_of_methodNamed Bd.named Bd.method).1
  have X0 : Stand p l e ({ frames := 2, cells := 1, slots := 7, locals := 25 } : Room) s m #[(.ref sw1)] below meth c s₁ [] 0 0 := Stand.of_body Bd
  have e0 : s₁.heap = h0 := by rw [← hh, Bd.state]; rfl
  have N0 := Fr.nil n0
  have pre0 : ∀ t, Steps p.tables e below (s₁.setTop (mkF m 0 #[.val (.ref sw1), .unset, .unset, .unset, .unset] [])) t → Steps p.tables e below (s₁.setTop (entryFrame m #[(.ref sw1)] 5)) t := fun t k => castTop (ef_clean1 m) k
  obtain ⟨_, _, ⟨T1, L1, k1, n1⟩, -, X1, ⟨Lc1, hQ1, l1, y1, z1⟩, st1⟩ := Jvm.LawKit.callS X0 hx (y := (⟨"com/example/fixtures_per_argument/fixturesperargument/engine/Phase", "values", "()[Lcom/example/fixtures_per_argument/fixturesperargument/engine/Phase;"⟩ : MethodName)) hown (mvT hZ (hw _ (List.mem_of_getElem? (i := 11) rfl))) (mvT hZ (hw _ (List.mem_of_getElem? (i := 12) rfl))) (mvT hZ (hw _ (List.mem_of_getElem? (i := 2) rfl))) (mvT hZ (hw _ (List.mem_of_getElem? (i := 13) rfl))) (by decide) (backOf (W := 0) (rm_values l Z a0 hw [] sw0 sw1 sw2 sw3 sw4 sw5 sw6 wV kV h0 n0 (own_z0 O0) O0 S_sw0 S_sw1 S_sw2 S_sw3 S_sw4 S_sw5 S_sw6 S_wV VV VE F_setUp_sw0 F_setUp_sw1 F_setUp_sw2 F_setUp_sw3 F_setUp_sw4 F_setUp_sw5 F_setUp_sw6 n20 n10 n21 E_sw0 E_sw1 E_sw2) hZ (hw _ (List.mem_of_getElem? (i := 13) rfl)) (hw _ (List.mem_of_getElem? (i := 2) rfl)) (by decide) (by decide)) (g := (mkF m 0 #[.val (.ref sw1), .unset, .unset, .unset, .unset] [])) rfl (by rw [hml]; rfl) (argsL := []) (rest := []) (lenOf pd_gument_fixturesperargument_engine_Phase__71 rfl) rfl (by show 2 * 0 + _ ≤ _; exact Nat.le_of_eq rfl) (hb hby d1_0) (fun _ _ => ⟨rfl, e0, (by decide : 0 + 1 ≤ _), (by decide : 0 + 7 ≤ _)⟩)
  dsimp only [Pt.U, Pt.locs, Pt.cells, Pt.slots] at X1 l1 y1 z1 st1 hQ1
  subst l1 y1 z1
  obtain ⟨r1, rfl, N1q, K1, f1⟩ := hQ1
  have N1 := Fr.app N0 N1q
  obtain ⟨cl2, Ar2, vq2, vS2, vN2, vH2, vG2⟩ := id f1
  obtain ⟨cl3, Ar3, vq3, vS3, vN3, vH3, vG3⟩ := id f1
  have hin3 : ¬ (((0 : Int32) : Int32) < 0 ∨ cl3.slots.size ≤ ((0 : Int32) : Int32).toNatClampNeg) := inb_of vS3 ⟨by decide, by decide⟩
  have O5 := (O0.keep K1 all0)
  obtain ⟨T4, X4, e4, st4⟩ := getF X1 hx hZ hown (host := "") (Or.inl (hw _ (List.mem_of_getElem? (i := 31) rfl))) Via.refl rfl (F_setUp_sw0.ext O5.2) (g := (mkF m 21 #[.val (.ref sw1), .val (.ref r1), .val (.int (7 : Int32)), .val (.int (0 : Int32)), .val (.ref sw0)] [(.ref sw0)])) rfl rfl (hb hby d1_21)
  obtain ⟨cl6, Ar6, vq6, vS6, vN6, vH6, vG6⟩ := id f1
  have hin6 : ¬ (((1 : Int32) : Int32) < 0 ∨ cl6.slots.size ≤ ((1 : Int32) : Int32).toNatClampNeg) := inb_of vS6 ⟨by decide, by decide⟩
  obtain ⟨T7, X7, e7, st7⟩ := getF X4 hx hZ hown (host := "") (Or.inl (hw _ (List.mem_of_getElem? (i := 31) rfl))) Via.refl e4 (F_setUp_sw1.ext O5.2) (g := (mkF m 21 #[.val (.ref sw1), .val (.ref r1), .val (.int (7 : Int32)), .val (.int (1 : Int32)), .val (.ref sw1)] [(.ref sw1)])) rfl rfl (hb hby d1_21)
  obtain ⟨cl8, Ar8, vq8, vS8, vN8, vH8, vG8⟩ := id f1
  have hin8 : ¬ (((2 : Int32) : Int32) < 0 ∨ cl8.slots.size ≤ ((2 : Int32) : Int32).toNatClampNeg) := inb_of vS8 ⟨by decide, by decide⟩
  obtain ⟨T9, X9, e9, st9⟩ := getF X7 hx hZ hown (host := "") (Or.inl (hw _ (List.mem_of_getElem? (i := 31) rfl))) Via.refl e7 (F_setUp_sw2.ext O5.2) (g := (mkF m 21 #[.val (.ref sw1), .val (.ref r1), .val (.int (7 : Int32)), .val (.int (2 : Int32)), .val (.ref sw2)] [(.ref sw2)])) rfl rfl (hb hby d1_21)
  obtain ⟨cl10, Ar10, vq10, vS10, vN10, vH10, vG10⟩ := id f1
  have hin10 : ¬ (((3 : Int32) : Int32) < 0 ∨ cl10.slots.size ≤ ((3 : Int32) : Int32).toNatClampNeg) := inb_of vS10 ⟨by decide, by decide⟩
  obtain ⟨T11, X11, e11, st11⟩ := getF X9 hx hZ hown (host := "") (Or.inl (hw _ (List.mem_of_getElem? (i := 31) rfl))) Via.refl e9 (F_setUp_sw3.ext O5.2) (g := (mkF m 21 #[.val (.ref sw1), .val (.ref r1), .val (.int (7 : Int32)), .val (.int (3 : Int32)), .val (.ref sw3)] [(.ref sw3)])) rfl rfl (hb hby d1_21)
  obtain ⟨cl12, Ar12, vq12, vS12, vN12, vH12, vG12⟩ := id f1
  have hin12 : ¬ (((4 : Int32) : Int32) < 0 ∨ cl12.slots.size ≤ ((4 : Int32) : Int32).toNatClampNeg) := inb_of vS12 ⟨by decide, by decide⟩
  obtain ⟨T13, X13, e13, st13⟩ := getF X11 hx hZ hown (host := "") (Or.inl (hw _ (List.mem_of_getElem? (i := 31) rfl))) Via.refl e11 (F_setUp_sw4.ext O5.2) (g := (mkF m 21 #[.val (.ref sw1), .val (.ref r1), .val (.int (7 : Int32)), .val (.int (4 : Int32)), .val (.ref sw4)] [(.ref sw4)])) rfl rfl (hb hby d1_21)
  obtain ⟨cl14, Ar14, vq14, vS14, vN14, vH14, vG14⟩ := id f1
  have hin14 : ¬ (((5 : Int32) : Int32) < 0 ∨ cl14.slots.size ≤ ((5 : Int32) : Int32).toNatClampNeg) := inb_of vS14 ⟨by decide, by decide⟩
  obtain ⟨T15, X15, e15, st15⟩ := getF X13 hx hZ hown (host := "") (Or.inl (hw _ (List.mem_of_getElem? (i := 31) rfl))) Via.refl e13 (F_setUp_sw5.ext O5.2) (g := (mkF m 21 #[.val (.ref sw1), .val (.ref r1), .val (.int (7 : Int32)), .val (.int (5 : Int32)), .val (.ref sw5)] [(.ref sw5)])) rfl rfl (hb hby d1_21)
  obtain ⟨fs, hr, hrun, hended, hW, hsame⟩ := X15.leave (v := some (.ref sw5)) (fun h => by rw [Bd.returns] at h; cases h)
  refine ⟨_, _, pre0 _ ?_, hrun, hended, _, _, rfl, ?_, ⟨_, rfl⟩, hW, hsame.mono (by decide) (by decide)⟩
  · show Steps p.tables e below (s₁.setTop (mkF m 0 #[.val (.ref sw1), .unset, .unset, .unset, .unset] [])) _
    refine st1 _ ?_
    show Steps p.tables e below (T1.setTop (mkF m 3 #[.val (.ref sw1), .unset, .unset, .unset, .unset] [(.ref r1)])) _
    refine XS.astoreN X1.here hx rfl (hb hby d1_3) rfl rfl (l' := #[.val (.ref sw1), .val (.ref r1), .unset, .unset, .unset]) rfl ?_
    show Steps p.tables e below (T1.setTop (mkF m 4 #[.val (.ref sw1), .val (.ref r1), .unset, .unset, .unset] [])) _
    refine XS.aloadN X1.here hx rfl (hb hby d1_4) rfl rfl ?_
    show Steps p.tables e below (T1.setTop (mkF m 5 #[.val (.ref sw1), .val (.ref r1), .unset, .unset, .unset] [(.ref r1)])) _
    refine X1.arraylength hx Ar2.1 (State.isArrayOf_alike hZ.alike Ar2.2.1) (g := (mkF m 5 #[.val (.ref sw1), .val (.ref r1), .unset, .unset, .unset] [(.ref r1)])) rfl rfl (hb hby d1_5) _ ?_
    rw [len_of vS2 vN2]
    show Steps p.tables e below (T1.setTop (mkF m 6 #[.val (.ref sw1), .val (.ref r1), .unset, .unset, .unset] [(.int (7 : Int32))])) _
    refine XS.istoreN X1.here hx rfl (hb hby d1_6) rfl (l' := #[.val (.ref sw1), .val (.ref r1), .val (.int (7 : Int32)), .unset, .unset]) rfl ?_
    show Steps p.tables e below (T1.setTop (mkF m 7 #[.val (.ref sw1), .val (.ref r1), .val (.int (7 : Int32)), .unset, .unset] [])) _
    refine XS.iconst X1.here hx rfl (hb hby d1_7) ?_
    show Steps p.tables e below (T1.setTop (mkF m 8 #[.val (.ref sw1), .val (.ref r1), .val (.int (7 : Int32)), .unset, .unset] [(.int (0 : Int32))])) _
    refine XS.istoreN X1.here hx rfl (hb hby d1_8) rfl (l' := #[.val (.ref sw1), .val (.ref r1), .val (.int (7 : Int32)), .val (.int (0 : Int32)), .unset]) rfl ?_
    show Steps p.tables e below (T1.setTop (mkF m 9 #[.val (.ref sw1), .val (.ref r1), .val (.int (7 : Int32)), .val (.int (0 : Int32)), .unset] [])) _
    refine XS.iloadN X1.here hx rfl (hb hby d1_9) rfl ?_
    show Steps p.tables e below (T1.setTop (mkF m 10 #[.val (.ref sw1), .val (.ref r1), .val (.int (7 : Int32)), .val (.int (0 : Int32)), .unset] [(.int (0 : Int32))])) _
    refine XS.iloadN X1.here hx rfl (hb hby d1_10) rfl ?_
    show Steps p.tables e below (T1.setTop (mkF m 11 #[.val (.ref sw1), .val (.ref r1), .val (.int (7 : Int32)), .val (.int (0 : Int32)), .unset] [(.int (7 : Int32)), (.int (0 : Int32))])) _
    refine XS.icmpNo X1.here hx rfl (hb hby d1_11) rfl (tlt (by decide : (0 : Int32) < (7 : Int32))).2.1 ?_
    show Steps p.tables e below (T1.setTop (mkF m 14 #[.val (.ref sw1), .val (.ref r1), .val (.int (7 : Int32)), .val (.int (0 : Int32)), .unset] [])) _
    refine XS.aloadN X1.here hx rfl (hb hby d1_14) rfl rfl ?_
    show Steps p.tables e below (T1.setTop (mkF m 15 #[.val (.ref sw1), .val (.ref r1), .val (.int (7 : Int32)), .val (.int (0 : Int32)), .unset] [(.ref r1)])) _
    refine XS.iloadN X1.here hx rfl (hb hby d1_15) rfl ?_
    show Steps p.tables e below (T1.setTop (mkF m 16 #[.val (.ref sw1), .val (.ref r1), .val (.int (7 : Int32)), .val (.int (0 : Int32)), .unset] [(.int (0 : Int32)), (.ref r1)])) _
    refine X1.aaload hx (j := (0 : Int32)) (v := (.ref sw0)) Ar3.1 (State.isArrayOf_alike hZ.alike Ar3.2.1) rfl Ar3.2.2 hin3 (vH3.at hin3 rfl) (g := (mkF m 16 #[.val (.ref sw1), .val (.ref r1), .val (.int (7 : Int32)), .val (.int (0 : Int32)), .unset] [(.int (0 : Int32)), (.ref r1)])) rfl rfl (hb hby d1_16) _ ?_
    show Steps p.tables e below (T1.setTop (mkF m 17 #[.val (.ref sw1), .val (.ref r1), .val (.int (7 : Int32)), .val (.int (0 : Int32)), .unset] [(.ref sw0)])) _
    refine XS.astore X1.here hx rfl (hb hby d1_17) rfl rfl (l' := #[.val (.ref sw1), .val (.ref r1), .val (.int (7 : Int32)), .val (.int (0 : Int32)), .val (.ref sw0)]) rfl ?_
    show Steps p.tables e below (T1.setTop (mkF m 19 #[.val (.ref sw1), .val (.ref r1), .val (.int (7 : Int32)), .val (.int (0 : Int32)), .val (.ref sw0)] [])) _
    refine XS.aload X1.here hx rfl (hb hby d1_19) rfl rfl ?_
    show Steps p.tables e below (T1.setTop (mkF m 21 #[.val (.ref sw1), .val (.ref r1), .val (.int (7 : Int32)), .val (.int (0 : Int32)), .val (.ref sw0)] [(.ref sw0)])) _
    refine st4 _ ?_
    show Steps p.tables e below (T4.setTop (mkF m 24 #[.val (.ref sw1), .val (.ref r1), .val (.int (7 : Int32)), .val (.int (0 : Int32)), .val (.ref sw0)] [.null])) _
    refine XS.aloadN X4.here hx rfl (hb hby d1_24) rfl rfl ?_
    show Steps p.tables e below (T4.setTop (mkF m 25 #[.val (.ref sw1), .val (.ref r1), .val (.int (7 : Int32)), .val (.int (0 : Int32)), .val (.ref sw0)] [(.ref sw1), .null])) _
    refine Jvm.RoadKit.acmp (g := (mkF m 25 #[.val (.ref sw1), .val (.ref r1), .val (.int (7 : Int32)), .val (.int (0 : Int32)), .val (.ref sw0)] [(.ref sw1), .null])) X4 hx rfl rfl rfl (pc0 := 25) (pc' := 31) (same := false) rfl (hb hby d1_25) rfl (decide_eq_false nofun) (by decide) (by decide) ?_
    show Steps p.tables e below (T4.setTop (mkF m 31 #[.val (.ref sw1), .val (.ref r1), .val (.int (7 : Int32)), .val (.int (0 : Int32)), .val (.ref sw0)] [])) _
    refine XS.iinc X4.here hx rfl (hb hby d1_31) rfl (l' := #[.val (.ref sw1), .val (.ref r1), .val (.int (7 : Int32)), .val (.int (1 : Int32)), .val (.ref sw0)]) rfl ?_
    show Steps p.tables e below (T4.setTop (mkF m 34 #[.val (.ref sw1), .val (.ref r1), .val (.int (7 : Int32)), .val (.int (1 : Int32)), .val (.ref sw0)] [])) _
    refine XS.goto X4.here hx rfl (pc0 := 34) (pc' := 9) rfl (hb hby d1_34) (by decide) (by decide) ?_
    show Steps p.tables e below (T4.setTop (mkF m 9 #[.val (.ref sw1), .val (.ref r1), .val (.int (7 : Int32)), .val (.int (1 : Int32)), .val (.ref sw0)] [])) _
    refine XS.iloadN X4.here hx rfl (hb hby d1_9) rfl ?_
    show Steps p.tables e below (T4.setTop (mkF m 10 #[.val (.ref sw1), .val (.ref r1), .val (.int (7 : Int32)), .val (.int (1 : Int32)), .val (.ref sw0)] [(.int (1 : Int32))])) _
    refine XS.iloadN X4.here hx rfl (hb hby d1_10) rfl ?_
    show Steps p.tables e below (T4.setTop (mkF m 11 #[.val (.ref sw1), .val (.ref r1), .val (.int (7 : Int32)), .val (.int (1 : Int32)), .val (.ref sw0)] [(.int (7 : Int32)), (.int (1 : Int32))])) _
    refine XS.icmpNo X4.here hx rfl (hb hby d1_11) rfl (tlt (by decide : (1 : Int32) < (7 : Int32))).2.1 ?_
    show Steps p.tables e below (T4.setTop (mkF m 14 #[.val (.ref sw1), .val (.ref r1), .val (.int (7 : Int32)), .val (.int (1 : Int32)), .val (.ref sw0)] [])) _
    refine XS.aloadN X4.here hx rfl (hb hby d1_14) rfl rfl ?_
    show Steps p.tables e below (T4.setTop (mkF m 15 #[.val (.ref sw1), .val (.ref r1), .val (.int (7 : Int32)), .val (.int (1 : Int32)), .val (.ref sw0)] [(.ref r1)])) _
    refine XS.iloadN X4.here hx rfl (hb hby d1_15) rfl ?_
    show Steps p.tables e below (T4.setTop (mkF m 16 #[.val (.ref sw1), .val (.ref r1), .val (.int (7 : Int32)), .val (.int (1 : Int32)), .val (.ref sw0)] [(.int (1 : Int32)), (.ref r1)])) _
    refine X4.aaload hx (j := (1 : Int32)) (v := (.ref sw1)) (by rw [e4]; exact Ar6.1) (State.isArrayOf_alike hZ.alike Ar6.2.1) rfl Ar6.2.2 hin6 (vH6.at hin6 rfl) (g := (mkF m 16 #[.val (.ref sw1), .val (.ref r1), .val (.int (7 : Int32)), .val (.int (1 : Int32)), .val (.ref sw0)] [(.int (1 : Int32)), (.ref r1)])) rfl rfl (hb hby d1_16) _ ?_
    show Steps p.tables e below (T4.setTop (mkF m 17 #[.val (.ref sw1), .val (.ref r1), .val (.int (7 : Int32)), .val (.int (1 : Int32)), .val (.ref sw0)] [(.ref sw1)])) _
    refine XS.astore X4.here hx rfl (hb hby d1_17) rfl rfl (l' := #[.val (.ref sw1), .val (.ref r1), .val (.int (7 : Int32)), .val (.int (1 : Int32)), .val (.ref sw1)]) rfl ?_
    show Steps p.tables e below (T4.setTop (mkF m 19 #[.val (.ref sw1), .val (.ref r1), .val (.int (7 : Int32)), .val (.int (1 : Int32)), .val (.ref sw1)] [])) _
    refine XS.aload X4.here hx rfl (hb hby d1_19) rfl rfl ?_
    show Steps p.tables e below (T4.setTop (mkF m 21 #[.val (.ref sw1), .val (.ref r1), .val (.int (7 : Int32)), .val (.int (1 : Int32)), .val (.ref sw1)] [(.ref sw1)])) _
    refine st7 _ ?_
    show Steps p.tables e below (T7.setTop (mkF m 24 #[.val (.ref sw1), .val (.ref r1), .val (.int (7 : Int32)), .val (.int (1 : Int32)), .val (.ref sw1)] [.null])) _
    refine XS.aloadN X7.here hx rfl (hb hby d1_24) rfl rfl ?_
    show Steps p.tables e below (T7.setTop (mkF m 25 #[.val (.ref sw1), .val (.ref r1), .val (.int (7 : Int32)), .val (.int (1 : Int32)), .val (.ref sw1)] [(.ref sw1), .null])) _
    refine Jvm.RoadKit.acmp (g := (mkF m 25 #[.val (.ref sw1), .val (.ref r1), .val (.int (7 : Int32)), .val (.int (1 : Int32)), .val (.ref sw1)] [(.ref sw1), .null])) X7 hx rfl rfl rfl (pc0 := 25) (pc' := 31) (same := false) rfl (hb hby d1_25) rfl (decide_eq_false nofun) (by decide) (by decide) ?_
    show Steps p.tables e below (T7.setTop (mkF m 31 #[.val (.ref sw1), .val (.ref r1), .val (.int (7 : Int32)), .val (.int (1 : Int32)), .val (.ref sw1)] [])) _
    refine XS.iinc X7.here hx rfl (hb hby d1_31) rfl (l' := #[.val (.ref sw1), .val (.ref r1), .val (.int (7 : Int32)), .val (.int (2 : Int32)), .val (.ref sw1)]) rfl ?_
    show Steps p.tables e below (T7.setTop (mkF m 34 #[.val (.ref sw1), .val (.ref r1), .val (.int (7 : Int32)), .val (.int (2 : Int32)), .val (.ref sw1)] [])) _
    refine XS.goto X7.here hx rfl (pc0 := 34) (pc' := 9) rfl (hb hby d1_34) (by decide) (by decide) ?_
    show Steps p.tables e below (T7.setTop (mkF m 9 #[.val (.ref sw1), .val (.ref r1), .val (.int (7 : Int32)), .val (.int (2 : Int32)), .val (.ref sw1)] [])) _
    refine XS.iloadN X7.here hx rfl (hb hby d1_9) rfl ?_
    show Steps p.tables e below (T7.setTop (mkF m 10 #[.val (.ref sw1), .val (.ref r1), .val (.int (7 : Int32)), .val (.int (2 : Int32)), .val (.ref sw1)] [(.int (2 : Int32))])) _
    refine XS.iloadN X7.here hx rfl (hb hby d1_10) rfl ?_
    show Steps p.tables e below (T7.setTop (mkF m 11 #[.val (.ref sw1), .val (.ref r1), .val (.int (7 : Int32)), .val (.int (2 : Int32)), .val (.ref sw1)] [(.int (7 : Int32)), (.int (2 : Int32))])) _
    refine XS.icmpNo X7.here hx rfl (hb hby d1_11) rfl (tlt (by decide : (2 : Int32) < (7 : Int32))).2.1 ?_
    show Steps p.tables e below (T7.setTop (mkF m 14 #[.val (.ref sw1), .val (.ref r1), .val (.int (7 : Int32)), .val (.int (2 : Int32)), .val (.ref sw1)] [])) _
    refine XS.aloadN X7.here hx rfl (hb hby d1_14) rfl rfl ?_
    show Steps p.tables e below (T7.setTop (mkF m 15 #[.val (.ref sw1), .val (.ref r1), .val (.int (7 : Int32)), .val (.int (2 : Int32)), .val (.ref sw1)] [(.ref r1)])) _
    refine XS.iloadN X7.here hx rfl (hb hby d1_15) rfl ?_
    show Steps p.tables e below (T7.setTop (mkF m 16 #[.val (.ref sw1), .val (.ref r1), .val (.int (7 : Int32)), .val (.int (2 : Int32)), .val (.ref sw1)] [(.int (2 : Int32)), (.ref r1)])) _
    refine X7.aaload hx (j := (2 : Int32)) (v := (.ref sw2)) (by rw [e7]; exact Ar8.1) (State.isArrayOf_alike hZ.alike Ar8.2.1) rfl Ar8.2.2 hin8 (vH8.at hin8 rfl) (g := (mkF m 16 #[.val (.ref sw1), .val (.ref r1), .val (.int (7 : Int32)), .val (.int (2 : Int32)), .val (.ref sw1)] [(.int (2 : Int32)), (.ref r1)])) rfl rfl (hb hby d1_16) _ ?_
    show Steps p.tables e below (T7.setTop (mkF m 17 #[.val (.ref sw1), .val (.ref r1), .val (.int (7 : Int32)), .val (.int (2 : Int32)), .val (.ref sw1)] [(.ref sw2)])) _
    refine XS.astore X7.here hx rfl (hb hby d1_17) rfl rfl (l' := #[.val (.ref sw1), .val (.ref r1), .val (.int (7 : Int32)), .val (.int (2 : Int32)), .val (.ref sw2)]) rfl ?_
    show Steps p.tables e below (T7.setTop (mkF m 19 #[.val (.ref sw1), .val (.ref r1), .val (.int (7 : Int32)), .val (.int (2 : Int32)), .val (.ref sw2)] [])) _
    refine XS.aload X7.here hx rfl (hb hby d1_19) rfl rfl ?_
    show Steps p.tables e below (T7.setTop (mkF m 21 #[.val (.ref sw1), .val (.ref r1), .val (.int (7 : Int32)), .val (.int (2 : Int32)), .val (.ref sw2)] [(.ref sw2)])) _
    refine st9 _ ?_
    show Steps p.tables e below (T9.setTop (mkF m 24 #[.val (.ref sw1), .val (.ref r1), .val (.int (7 : Int32)), .val (.int (2 : Int32)), .val (.ref sw2)] [.null])) _
    refine XS.aloadN X9.here hx rfl (hb hby d1_24) rfl rfl ?_
    show Steps p.tables e below (T9.setTop (mkF m 25 #[.val (.ref sw1), .val (.ref r1), .val (.int (7 : Int32)), .val (.int (2 : Int32)), .val (.ref sw2)] [(.ref sw1), .null])) _
    refine Jvm.RoadKit.acmp (g := (mkF m 25 #[.val (.ref sw1), .val (.ref r1), .val (.int (7 : Int32)), .val (.int (2 : Int32)), .val (.ref sw2)] [(.ref sw1), .null])) X9 hx rfl rfl rfl (pc0 := 25) (pc' := 31) (same := false) rfl (hb hby d1_25) rfl (decide_eq_false nofun) (by decide) (by decide) ?_
    show Steps p.tables e below (T9.setTop (mkF m 31 #[.val (.ref sw1), .val (.ref r1), .val (.int (7 : Int32)), .val (.int (2 : Int32)), .val (.ref sw2)] [])) _
    refine XS.iinc X9.here hx rfl (hb hby d1_31) rfl (l' := #[.val (.ref sw1), .val (.ref r1), .val (.int (7 : Int32)), .val (.int (3 : Int32)), .val (.ref sw2)]) rfl ?_
    show Steps p.tables e below (T9.setTop (mkF m 34 #[.val (.ref sw1), .val (.ref r1), .val (.int (7 : Int32)), .val (.int (3 : Int32)), .val (.ref sw2)] [])) _
    refine XS.goto X9.here hx rfl (pc0 := 34) (pc' := 9) rfl (hb hby d1_34) (by decide) (by decide) ?_
    show Steps p.tables e below (T9.setTop (mkF m 9 #[.val (.ref sw1), .val (.ref r1), .val (.int (7 : Int32)), .val (.int (3 : Int32)), .val (.ref sw2)] [])) _
    refine XS.iloadN X9.here hx rfl (hb hby d1_9) rfl ?_
    show Steps p.tables e below (T9.setTop (mkF m 10 #[.val (.ref sw1), .val (.ref r1), .val (.int (7 : Int32)), .val (.int (3 : Int32)), .val (.ref sw2)] [(.int (3 : Int32))])) _
    refine XS.iloadN X9.here hx rfl (hb hby d1_10) rfl ?_
    show Steps p.tables e below (T9.setTop (mkF m 11 #[.val (.ref sw1), .val (.ref r1), .val (.int (7 : Int32)), .val (.int (3 : Int32)), .val (.ref sw2)] [(.int (7 : Int32)), (.int (3 : Int32))])) _
    refine XS.icmpNo X9.here hx rfl (hb hby d1_11) rfl (tlt (by decide : (3 : Int32) < (7 : Int32))).2.1 ?_
    show Steps p.tables e below (T9.setTop (mkF m 14 #[.val (.ref sw1), .val (.ref r1), .val (.int (7 : Int32)), .val (.int (3 : Int32)), .val (.ref sw2)] [])) _
    refine XS.aloadN X9.here hx rfl (hb hby d1_14) rfl rfl ?_
    show Steps p.tables e below (T9.setTop (mkF m 15 #[.val (.ref sw1), .val (.ref r1), .val (.int (7 : Int32)), .val (.int (3 : Int32)), .val (.ref sw2)] [(.ref r1)])) _
    refine XS.iloadN X9.here hx rfl (hb hby d1_15) rfl ?_
    show Steps p.tables e below (T9.setTop (mkF m 16 #[.val (.ref sw1), .val (.ref r1), .val (.int (7 : Int32)), .val (.int (3 : Int32)), .val (.ref sw2)] [(.int (3 : Int32)), (.ref r1)])) _
    refine X9.aaload hx (j := (3 : Int32)) (v := (.ref sw3)) (by rw [e9]; exact Ar10.1) (State.isArrayOf_alike hZ.alike Ar10.2.1) rfl Ar10.2.2 hin10 (vH10.at hin10 rfl) (g := (mkF m 16 #[.val (.ref sw1), .val (.ref r1), .val (.int (7 : Int32)), .val (.int (3 : Int32)), .val (.ref sw2)] [(.int (3 : Int32)), (.ref r1)])) rfl rfl (hb hby d1_16) _ ?_
    show Steps p.tables e below (T9.setTop (mkF m 17 #[.val (.ref sw1), .val (.ref r1), .val (.int (7 : Int32)), .val (.int (3 : Int32)), .val (.ref sw2)] [(.ref sw3)])) _
    refine XS.astore X9.here hx rfl (hb hby d1_17) rfl rfl (l' := #[.val (.ref sw1), .val (.ref r1), .val (.int (7 : Int32)), .val (.int (3 : Int32)), .val (.ref sw3)]) rfl ?_
    show Steps p.tables e below (T9.setTop (mkF m 19 #[.val (.ref sw1), .val (.ref r1), .val (.int (7 : Int32)), .val (.int (3 : Int32)), .val (.ref sw3)] [])) _
    refine XS.aload X9.here hx rfl (hb hby d1_19) rfl rfl ?_
    show Steps p.tables e below (T9.setTop (mkF m 21 #[.val (.ref sw1), .val (.ref r1), .val (.int (7 : Int32)), .val (.int (3 : Int32)), .val (.ref sw3)] [(.ref sw3)])) _
    refine st11 _ ?_
    show Steps p.tables e below (T11.setTop (mkF m 24 #[.val (.ref sw1), .val (.ref r1), .val (.int (7 : Int32)), .val (.int (3 : Int32)), .val (.ref sw3)] [.null])) _
    refine XS.aloadN X11.here hx rfl (hb hby d1_24) rfl rfl ?_
    show Steps p.tables e below (T11.setTop (mkF m 25 #[.val (.ref sw1), .val (.ref r1), .val (.int (7 : Int32)), .val (.int (3 : Int32)), .val (.ref sw3)] [(.ref sw1), .null])) _
    refine Jvm.RoadKit.acmp (g := (mkF m 25 #[.val (.ref sw1), .val (.ref r1), .val (.int (7 : Int32)), .val (.int (3 : Int32)), .val (.ref sw3)] [(.ref sw1), .null])) X11 hx rfl rfl rfl (pc0 := 25) (pc' := 31) (same := false) rfl (hb hby d1_25) rfl (decide_eq_false nofun) (by decide) (by decide) ?_
    show Steps p.tables e below (T11.setTop (mkF m 31 #[.val (.ref sw1), .val (.ref r1), .val (.int (7 : Int32)), .val (.int (3 : Int32)), .val (.ref sw3)] [])) _
    refine XS.iinc X11.here hx rfl (hb hby d1_31) rfl (l' := #[.val (.ref sw1), .val (.ref r1), .val (.int (7 : Int32)), .val (.int (4 : Int32)), .val (.ref sw3)]) rfl ?_
    show Steps p.tables e below (T11.setTop (mkF m 34 #[.val (.ref sw1), .val (.ref r1), .val (.int (7 : Int32)), .val (.int (4 : Int32)), .val (.ref sw3)] [])) _
    refine XS.goto X11.here hx rfl (pc0 := 34) (pc' := 9) rfl (hb hby d1_34) (by decide) (by decide) ?_
    show Steps p.tables e below (T11.setTop (mkF m 9 #[.val (.ref sw1), .val (.ref r1), .val (.int (7 : Int32)), .val (.int (4 : Int32)), .val (.ref sw3)] [])) _
    refine XS.iloadN X11.here hx rfl (hb hby d1_9) rfl ?_
    show Steps p.tables e below (T11.setTop (mkF m 10 #[.val (.ref sw1), .val (.ref r1), .val (.int (7 : Int32)), .val (.int (4 : Int32)), .val (.ref sw3)] [(.int (4 : Int32))])) _
    refine XS.iloadN X11.here hx rfl (hb hby d1_10) rfl ?_
    show Steps p.tables e below (T11.setTop (mkF m 11 #[.val (.ref sw1), .val (.ref r1), .val (.int (7 : Int32)), .val (.int (4 : Int32)), .val (.ref sw3)] [(.int (7 : Int32)), (.int (4 : Int32))])) _
    refine XS.icmpNo X11.here hx rfl (hb hby d1_11) rfl (tlt (by decide : (4 : Int32) < (7 : Int32))).2.1 ?_
    show Steps p.tables e below (T11.setTop (mkF m 14 #[.val (.ref sw1), .val (.ref r1), .val (.int (7 : Int32)), .val (.int (4 : Int32)), .val (.ref sw3)] [])) _
    refine XS.aloadN X11.here hx rfl (hb hby d1_14) rfl rfl ?_
    show Steps p.tables e below (T11.setTop (mkF m 15 #[.val (.ref sw1), .val (.ref r1), .val (.int (7 : Int32)), .val (.int (4 : Int32)), .val (.ref sw3)] [(.ref r1)])) _
    refine XS.iloadN X11.here hx rfl (hb hby d1_15) rfl ?_
    show Steps p.tables e below (T11.setTop (mkF m 16 #[.val (.ref sw1), .val (.ref r1), .val (.int (7 : Int32)), .val (.int (4 : Int32)), .val (.ref sw3)] [(.int (4 : Int32)), (.ref r1)])) _
    refine X11.aaload hx (j := (4 : Int32)) (v := (.ref sw4)) (by rw [e11]; exact Ar12.1) (State.isArrayOf_alike hZ.alike Ar12.2.1) rfl Ar12.2.2 hin12 (vH12.at hin12 rfl) (g := (mkF m 16 #[.val (.ref sw1), .val (.ref r1), .val (.int (7 : Int32)), .val (.int (4 : Int32)), .val (.ref sw3)] [(.int (4 : Int32)), (.ref r1)])) rfl rfl (hb hby d1_16) _ ?_
    show Steps p.tables e below (T11.setTop (mkF m 17 #[.val (.ref sw1), .val (.ref r1), .val (.int (7 : Int32)), .val (.int (4 : Int32)), .val (.ref sw3)] [(.ref sw4)])) _
    refine XS.astore X11.here hx rfl (hb hby d1_17) rfl rfl (l' := #[.val (.ref sw1), .val (.ref r1), .val (.int (7 : Int32)), .val (.int (4 : Int32)), .val (.ref sw4)]) rfl ?_
    show Steps p.tables e below (T11.setTop (mkF m 19 #[.val (.ref sw1), .val (.ref r1), .val (.int (7 : Int32)), .val (.int (4 : Int32)), .val (.ref sw4)] [])) _
    refine XS.aload X11.here hx rfl (hb hby d1_19) rfl rfl ?_
    show Steps p.tables e below (T11.setTop (mkF m 21 #[.val (.ref sw1), .val (.ref r1), .val (.int (7 : Int32)), .val (.int (4 : Int32)), .val (.ref sw4)] [(.ref sw4)])) _
    refine st13 _ ?_
    show Steps p.tables e below (T13.setTop (mkF m 24 #[.val (.ref sw1), .val (.ref r1), .val (.int (7 : Int32)), .val (.int (4 : Int32)), .val (.ref sw4)] [(.ref sw2)])) _
    refine XS.aloadN X13.here hx rfl (hb hby d1_24) rfl rfl ?_
    show Steps p.tables e below (T13.setTop (mkF m 25 #[.val (.ref sw1), .val (.ref r1), .val (.int (7 : Int32)), .val (.int (4 : Int32)), .val (.ref sw4)] [(.ref sw1), (.ref sw2)])) _
    refine Jvm.RoadKit.acmp (g := (mkF m 25 #[.val (.ref sw1), .val (.ref r1), .val (.int (7 : Int32)), .val (.int (4 : Int32)), .val (.ref sw4)] [(.ref sw1), (.ref sw2)])) X13 hx rfl rfl rfl (pc0 := 25) (pc' := 31) (same := false) rfl (hb hby d1_25) rfl (decide_eq_false fun q => n21 (Value.ref.inj q)) (by decide) (by decide) ?_
    show Steps p.tables e below (T13.setTop (mkF m 31 #[.val (.ref sw1), .val (.ref r1), .val (.int (7 : Int32)), .val (.int (4 : Int32)), .val (.ref sw4)] [])) _
    refine XS.iinc X13.here hx rfl (hb hby d1_31) rfl (l' := #[.val (.ref sw1), .val (.ref r1), .val (.int (7 : Int32)), .val (.int (5 : Int32)), .val (.ref sw4)]) rfl ?_
    show Steps p.tables e below (T13.setTop (mkF m 34 #[.val (.ref sw1), .val (.ref r1), .val (.int (7 : Int32)), .val (.int (5 : Int32)), .val (.ref sw4)] [])) _
    refine XS.goto X13.here hx rfl (pc0 := 34) (pc' := 9) rfl (hb hby d1_34) (by decide) (by decide) ?_
    show Steps p.tables e below (T13.setTop (mkF m 9 #[.val (.ref sw1), .val (.ref r1), .val (.int (7 : Int32)), .val (.int (5 : Int32)), .val (.ref sw4)] [])) _
    refine XS.iloadN X13.here hx rfl (hb hby d1_9) rfl ?_
    show Steps p.tables e below (T13.setTop (mkF m 10 #[.val (.ref sw1), .val (.ref r1), .val (.int (7 : Int32)), .val (.int (5 : Int32)), .val (.ref sw4)] [(.int (5 : Int32))])) _
    refine XS.iloadN X13.here hx rfl (hb hby d1_10) rfl ?_
    show Steps p.tables e below (T13.setTop (mkF m 11 #[.val (.ref sw1), .val (.ref r1), .val (.int (7 : Int32)), .val (.int (5 : Int32)), .val (.ref sw4)] [(.int (7 : Int32)), (.int (5 : Int32))])) _
    refine XS.icmpNo X13.here hx rfl (hb hby d1_11) rfl (tlt (by decide : (5 : Int32) < (7 : Int32))).2.1 ?_
    show Steps p.tables e below (T13.setTop (mkF m 14 #[.val (.ref sw1), .val (.ref r1), .val (.int (7 : Int32)), .val (.int (5 : Int32)), .val (.ref sw4)] [])) _
    refine XS.aloadN X13.here hx rfl (hb hby d1_14) rfl rfl ?_
    show Steps p.tables e below (T13.setTop (mkF m 15 #[.val (.ref sw1), .val (.ref r1), .val (.int (7 : Int32)), .val (.int (5 : Int32)), .val (.ref sw4)] [(.ref r1)])) _
    refine XS.iloadN X13.here hx rfl (hb hby d1_15) rfl ?_
    show Steps p.tables e below (T13.setTop (mkF m 16 #[.val (.ref sw1), .val (.ref r1), .val (.int (7 : Int32)), .val (.int (5 : Int32)), .val (.ref sw4)] [(.int (5 : Int32)), (.ref r1)])) _
    refine X13.aaload hx (j := (5 : Int32)) (v := (.ref sw5)) (by rw [e13]; exact Ar14.1) (State.isArrayOf_alike hZ.alike Ar14.2.1) rfl Ar14.2.2 hin14 (vH14.at hin14 rfl) (g := (mkF m 16 #[.val (.ref sw1), .val (.ref r1), .val (.int (7 : Int32)), .val (.int (5 : Int32)), .val (.ref sw4)] [(.int (5 : Int32)), (.ref r1)])) rfl rfl (hb hby d1_16) _ ?_
    show Steps p.tables e below (T13.setTop (mkF m 17 #[.val (.ref sw1), .val (.ref r1), .val (.int (7 : Int32)), .val (.int (5 : Int32)), .val (.ref sw4)] [(.ref sw5)])) _
    refine XS.astore X13.here hx rfl (hb hby d1_17) rfl rfl (l' := #[.val (.ref sw1), .val (.ref r1), .val (.int (7 : Int32)), .val (.int (5 : Int32)), .val (.ref sw5)]) rfl ?_
    show Steps p.tables e below (T13.setTop (mkF m 19 #[.val (.ref sw1), .val (.ref r1), .val (.int (7 : Int32)), .val (.int (5 : Int32)), .val (.ref sw5)] [])) _
    refine XS.aload X13.here hx rfl (hb hby d1_19) rfl rfl ?_
    show Steps p.tables e below (T13.setTop (mkF m 21 #[.val (.ref sw1), .val (.ref r1), .val (.int (7 : Int32)), .val (.int (5 : Int32)), .val (.ref sw5)] [(.ref sw5)])) _
    refine st15 _ ?_
    show Steps p.tables e below (T15.setTop (mkF m 24 #[.val (.ref sw1), .val (.ref r1), .val (.int (7 : Int32)), .val (.int (5 : Int32)), .val (.ref sw5)] [(.ref sw1)])) _
    refine XS.aloadN X15.here hx rfl (hb hby d1_24) rfl rfl ?_
    show Steps p.tables e below (T15.setTop (mkF m 25 #[.val (.ref sw1), .val (.ref r1), .val (.int (7 : Int32)), .val (.int (5 : Int32)), .val (.ref sw5)] [(.ref sw1), (.ref sw1)])) _
    refine Jvm.RoadKit.acmp (g := (mkF m 25 #[.val (.ref sw1), .val (.ref r1), .val (.int (7 : Int32)), .val (.int (5 : Int32)), .val (.ref sw5)] [(.ref sw1), (.ref sw1)])) X15 hx rfl rfl rfl (pc0 := 25) (pc' := 28) (same := true) rfl (hb hby d1_25) rfl (decide_eq_true rfl) (by decide) (by decide) ?_
    show Steps p.tables e below (T15.setTop (mkF m 28 #[.val (.ref sw1), .val (.ref r1), .val (.int (7 : Int32)), .val (.int (5 : Int32)), .val (.ref sw5)] [])) _
    refine XS.aload X15.here hx rfl (hb hby d1_28) rfl rfl ?_
    show Steps p.tables e below (T15.setTop (mkF m 30 #[.val (.ref sw1), .val (.ref r1), .val (.int (7 : Int32)), .val (.int (5 : Int32)), .val (.ref sw5)] [(.ref sw5)])) _
    jvm_step X15.here [X15.here.top, hx, (hb hby d1_30), X15.method', Bd.returns, Value.isRef, FieldType.isReference]
    first | (intro acts; rw [hr _ acts rfl rfl rfl]) | rw [hr _ _ rfl rfl rfl]
    exact Steps.refl _
  · show Q_clean1 Z sw0 sw1 sw2 sw3 sw4 sw5 sw6 wV kV h0 n0 _ T15.heap _
    rw [e15]
    exact ⟨rfl, N1, ((Keep.refl h0 []).trans K1 all0)⟩
def Q_clean2 (Z : State) (sw0 : Addr) (sw1 : Addr) (sw2 : Addr) (sw3 : Addr) (sw4 : Addr) (sw5 : Addr) (sw6 : Addr) (wV : Addr) (kV : ClassId) (h0 : Heap) (n0 : Nat) (v : Option Value) (h : Heap) (L : List Loc) : Prop := v = some (.ref sw4) ∧ Fr n0 L ∧ Keep h0 h []
set_option maxRecDepth 65536 in
set_option maxHeartbeats 40000000 in
theorem rm_clean2 (l : Launch) (Z : State) (a0 : Array Value) (hw : ∀ d ∈ tables_1, d.before a0 Z = true) (ws : List Jvm.Cond) (sw0 : Addr) (sw1 : Addr) (sw2 : Addr) (sw3 : Addr) (sw4 : Addr) (sw5 : Addr) (sw6 : Addr) (wV : Addr) (kV : ClassId) (h0 : Heap) (n0 : Nat) (Z0 : n0 ≤ h0.size) (O0 : Old Z n0 h0) (S_sw0 : Sta Z Z.heap "com/example/fixtures_per_argument/fixturesperargument/engine/Phase" "PREPARE" "Lcom/example/fixtures_per_argument/fixturesperargument/engine/Phase;" (.ref sw0)) (S_sw1 : Sta Z Z.heap "com/example/fixtures_per_argument/fixturesperargument/engine/Phase" "BEFORE_ALL" "Lcom/example/fixtures_per_argument/fixturesperargument/engine/Phase;" (.ref sw1)) (S_sw2 : Sta Z Z.heap "com/example/fixtures_per_argument/fixturesperargument/engine/Phase" "BEFORE_EACH" "Lcom/example/fixtures_per_argument/fixturesperargument/engine/Phase;" (.ref sw2)) (S_sw3 : Sta Z Z.heap "com/example/fixtures_per_argument/fixturesperargument/engine/Phase" "TEST" "Lcom/example/fixtures_per_argument/fixturesperargument/engine/Phase;" (.ref sw3)) (S_sw4 : Sta Z Z.heap "com/example/fixtures_per_argument/fixturesperargument/engine/Phase" "AFTER_EACH" "Lcom/example/fixtures_per_argument/fixturesperargument/engine/Phase;" (.ref sw4)) (S_sw5 : Sta Z Z.heap "com/example/fixtures_per_argument/fixturesperargument/engine/Phase" "AFTER_ALL" "Lcom/example/fixtures_per_argument/fixturesperargument/engine/Phase;" (.ref sw5)) (S_sw6 : Sta Z Z.heap "com/example/fixtures_per_argument/fixturesperargument/engine/Phase" "CONCLUDE" "Lcom/example/fixtures_per_argument/fixturesperargument/engine/Phase;" (.ref sw6)) (S_wV : Sta Z Z.heap "com/example/fixtures_per_argument/fixturesperargument/engine/Phase" "$VALUES" "[Lcom/example/fixtures_per_argument/fixturesperargument/engine/Phase;" (.ref wV)) (VV : Arv Z Z.heap wV kV (.object "com/example/fixtures_per_argument/fixturesperargument/engine/Phase") (7 : Int32) [(.ref sw0), (.ref sw1), (.ref sw2), (.ref sw3), (.ref sw4), (.ref sw5), (.ref sw6)] .null) (VE : Exa Z Z.heap wV "[Lcom/example/fixtures_per_argument/fixturesperargument/engine/Phase;") (F_setUp_sw0 : Fld Z Z.heap sw0 "com/example/fixtures_per_argument/fixturesperargument/engine/Phase" "setUp" "Lcom/example/fixtures_per_argument/fixturesperargument/engine/Phase;" .null) (F_setUp_sw1 : Fld Z Z.heap sw1 "com/example/fixtures_per_argument/fixturesperargument/engine/Phase" "setUp" "Lcom/example/fixtures_per_argument/fixturesperargument/engine/Phase;" .null) (F_setUp_sw2 : Fld Z Z.heap sw2 "com/example/fixtures_per_argument/fixturesperargument/engine/Phase" "setUp" "Lcom/example/fixtures_per_argument/fixturesperargument/engine/Phase;" .null) (F_setUp_sw3 : Fld Z Z.heap sw3 "com/example/fixtures_per_argument/fixturesperargument/engine/Phase" "setUp" "Lcom/example/fixtures_per_argument/fixturesperargument/engine/Phase;" .null) (F_setUp_sw4 : Fld Z Z.heap sw4 "com/example/fixtures_per_argument/fixturesperargument/engine/Phase" "setUp" "Lcom/example/fixtures_per_argument/fixturesperargument/engine/Phase;" (.ref sw2)) (F_setUp_sw5 : Fld Z Z.heap sw5 "com/example/fixtures_per_argument/fixturesperargument/engine/Phase" "setUp" "Lcom/example/fixtures_per_argument/fixturesperargument/engine/Phase;" (.ref sw1)) (F_setUp_sw6 : Fld Z Z.heap sw6 "com/example/fixtures_per_argument/fixturesperargument/engine/Phase" "setUp" "Lcom/example/fixtures_per_argument/fixturesperargument/engine/Phase;" (.ref sw0)) (n20 : ¬ (sw2 = sw0)) (n10 : ¬ (sw1 = sw0)) (n21 : ¬ (sw2 = sw1)) (E_sw0 : Exa Z Z.heap sw0 "com/example/fixtures_per_argument/fixturesperargument/engine/Phase") (E_sw1 : Exa Z Z.heap sw1 "com/example/fixtures_per_argument/fixturesperargument/engine/Phase") (E_sw2 : Exa Z Z.heap sw2 "com/example/fixtures_per_argument/fixturesperargument/engine/Phase") :
    MetFree l (⟨"com/example/fixtures_per_argument/fixturesperargument/engine/Phase", "getCleanup", "()Lcom/example/fixtures_per_argument/fixturesperargument/engine/Phase;"⟩ : MethodName) (head1 (Jvm.Cond.code (⟨"com/example/fixtures_per_argument/fixturesperargument/engine/Phase", "getCleanup", "()Lcom/example/fixtures_per_argument/fixturesperargument/engine/Phase;"⟩ : MethodName) prog_26_method_7_code 5 (some (.object "com/example/fixtures_per_argument/fixturesperargument/engine/Phase")) :: ws) ({ frames := 2, cells := 1, slots := 7, locals := 25 } : Room)) (fun a U => a = #[(.ref sw2)] ∧ Z.Warmed39 U.vm ∧ U.heap = h0) (fun _ _ _ _ _ => True) (fun _ U o U' => ∃ v L, o = .returned v ∧ Q_clean2 Z sw0 sw1 sw2 sw3 sw4 sw5 sw6 wV kV h0 n0 v U'.heap L ∧ FrameEnd U o U' L ({ frames := 2, cells := 1, slots := 7, locals := 25 } : Room).cells ({ frames := 2, cells := 1, slots := 7, locals := 25 } : Room).slots) := by
  refine MetFree.of_bodySF (plainFor_of_name pn_Phase) hisR ?_
  intro p e s m args below meth c s₁ Bd hml0 hP hK
  obtain ⟨rfl, hZ, hh⟩ := hP
  have hx := Bd.exec
  have hby := Bd.bytes
  have hml : c.maxLocals = 5 := hml0
  have hown : s.vm.findClass "com/example/fixtures_per_argument/fixturesperargument/engine/Phase" = some m.cls := findClass_of_methodNamed Bd.named
  have hnm := (name_of_methodNamed Bd.named Bd.method).1
  have X0 : Stand p l e ({ frames := 2, cells := 1, slots := 7, locals := 25 } : Room) s m #[(.ref sw2)] below meth c s₁ [] 0 0 := Stand.of_body Bd
  have e0 : s₁.heap = h0 := by rw [← hh, Bd.state]; rfl
  have N0 := Fr.nil n0
  have pre0 : ∀ t, Steps p.tables e below (s₁.setTop (mkF m 0 #[.val (.ref sw2), .unset, .unset, .unset, .unset] [])) t → Steps p.tables e below (s₁.setTop (entryFrame m #[(.ref sw2)] 5)) t := fun t k => castTop (ef_clean2 m) k
  obtain ⟨_, _, ⟨T1, L1, k1, n1⟩, -, X1, ⟨Lc1, hQ1, l1, y1, z1⟩, st1⟩ := Jvm.LawKit.callS X0 hx (y := (⟨"com/example/fixtures_per_argument/fixturesperargument/engine/Phase", "values", "()[Lcom/example/fixtures_per_argument/fixturesperargument/engine/Phase;"⟩ : MethodName)) hown (mvT hZ (hw _ (List.mem_of_getElem? (i := 11) rfl))) (mvT hZ (hw _ (List.mem_of_getElem? (i := 12) rfl))) (mvT hZ (hw _ (List.mem_of_getElem? (i := 2) rfl))) (mvT hZ (hw _ (List.mem_of_getElem? (i := 13) rfl))) (by decide) (backOf (W := 0) (rm_values l Z a0 hw [] sw0 sw1 sw2 sw3 sw4 sw5 sw6 wV kV h0 n0 (own_z0 O0) O0 S_sw0 S_sw1 S_sw2 S_sw3 S_sw4 S_sw5 S_sw6 S_wV VV VE F_setUp_sw0 F_setUp_sw1 F_setUp_sw2 F_setUp_sw3 F_setUp_sw4 F_setUp_sw5 F_setUp_sw6 n20 n10 n21 E_sw0 E_sw1 E_sw2) hZ (hw _ (List.mem_of_getElem? (i := 13) rfl)) (hw _ (List.mem_of_getElem? (i := 2) rfl)) (by decide) (by decide)) (g := (mkF m 0 #[.val (.ref sw2), .unset, .unset, .unset, .unset] [])) rfl (by rw [hml]; rfl) (argsL := []) (rest := []) (lenOf pd_gument_fixturesperargument_engine_Phase__71 rfl) rfl (by show 2 * 0 + _ ≤ _; exact Nat.le_of_eq rfl) (hb hby d1_0) (fun _ _ => ⟨rfl, e0, (by decide : 0 + 1 ≤ _), (by decide : 0 + 7 ≤ _)⟩)
  dsimp only [Pt.U, Pt.locs, Pt.cells, Pt.slots] at X1 l1 y1 z1 st1 hQ1
  subst l1 y1 z1
  obtain ⟨r1, rfl, N1q, K1, f1⟩ := hQ1
  have N1 := Fr.app N0 N1q
  obtain ⟨cl2, Ar2, vq2, vS2, vN2, vH2, vG2⟩ := id f1
  obtain ⟨cl3, Ar3, vq3, vS3, vN3, vH3, vG3⟩ := id f1
  have hin3 : ¬ (((0 : Int32) : Int32) < 0 ∨ cl3.slots.size ≤ ((0 : Int32) : Int32).toNatClampNeg) := inb_of vS3 ⟨by decide, by decide⟩
  have O5 := (O0.keep K1 all0)
  obtain ⟨T4, X4, e4, st4⟩ := getF X1 hx hZ hown (host := "") (Or.inl (hw _ (List.mem_of_getElem? (i := 31) rfl))) Via.refl rfl (F_setUp_sw0.ext O5.2) (g := (mkF m 21 #[.val (.ref sw2), .val (.ref r1), .val (.int (7 : Int32)), .val (.int (0 : Int32)), .val (.ref sw0)] [(.ref sw0)])) rfl rfl (hb hby d1_21)
  obtain ⟨cl6, Ar6, vq6, vS6, vN6, vH6, vG6⟩ := id f1
  have hin6 : ¬ (((1 : Int32) : Int32) < 0 ∨ cl6.slots.size ≤ ((1 : Int32) : Int32).toNatClampNeg) := inb_of vS6 ⟨by decide, by decide⟩
  obtain ⟨T7, X7, e7, st7⟩ := getF X4 hx hZ hown (host := "") (Or.inl (hw _ (List.mem_of_getElem? (i := 31) rfl))) Via.refl e4 (F_setUp_sw1.ext O5.2) (g := (mkF m 21 #[.val (.ref sw2), .val (.ref r1), .val (.int (7 : Int32)), .val (.int (1 : Int32)), .val (.ref sw1)] [(.ref sw1)])) rfl rfl (hb hby d1_21)
  obtain ⟨cl8, Ar8, vq8, vS8, vN8, vH8, vG8⟩ := id f1
  have hin8 : ¬ (((2 : Int32) : Int32) < 0 ∨ cl8.slots.size ≤ ((2 : Int32) : Int32).toNatClampNeg) := inb_of vS8 ⟨by decide, by decide⟩
  obtain ⟨T9, X9, e9, st9⟩ := getF X7 hx hZ hown (host := "") (Or.inl (hw _ (List.mem_of_getElem? (i := 31) rfl))) Via.refl e7 (F_setUp_sw2.ext O5.2) (g := (mkF m 21 #[.val (.ref sw2), .val (.ref r1), .val (.int (7 : Int32)), .val (.int (2 : Int32)), .val (.ref sw2)] [(.ref sw2)])) rfl rfl (hb hby d1_21)
  obtain ⟨cl10, Ar10, vq10, vS10, vN10, vH10, vG10⟩ := id f1
  have hin10 : ¬ (((3 : Int32) : Int32) < 0 ∨ cl10.slots.size ≤ ((3 : Int32) : Int32).toNatClampNeg) := inb_of vS10 ⟨by decide, by decide⟩
  obtain ⟨T11, X11, e11, st11⟩ := getF X9 hx hZ hown (host := "") (Or.inl (hw _ (List.mem_of_getElem? (i := 31) rfl))) Via.refl e9 (F_setUp_sw3.ext O5.2) (g := (mkF m 21 #[.val (.ref sw2), .val (.ref r1), .val (.int (7 : Int32)), .val (.int (3 : Int32)), .val (.ref sw3)] [(.ref sw3)])) rfl rfl (hb hby d1_21)
  obtain ⟨cl12, Ar12, vq12, vS12, vN12, vH12, vG12⟩ := id f1
  have hin12 : ¬ (((4 : Int32) : Int32) < 0 ∨ cl12.slots.size ≤ ((4 : Int32) : Int32).toNatClampNeg) := inb_of vS12 ⟨by decide, by decide⟩
  obtain ⟨T13, X13, e13, st13⟩ := getF X11 hx hZ hown (host := "") (Or.inl (hw _ (List.mem_of_getElem? (i := 31) rfl))) Via.refl e11 (F_setUp_sw4.ext O5.2) (g := (mkF m 21 #[.val (.ref sw2), .val (.ref r1), .val (.int (7 : Int32)), .val (.int (4 : Int32)), .val (.ref sw4)] [(.ref sw4)])) rfl rfl (hb hby d1_21)
  obtain ⟨fs, hr, hrun, hended, hW, hsame⟩ := X13.leave (v := some (.ref sw4)) (fun h => by rw [Bd.returns] at h; cases h)
  refine ⟨_, _, pre0 _ ?_, hrun, hended, _, _, rfl, ?_, ⟨_, rfl⟩, hW, hsame.mono (by decide) (by decide)⟩
  · show Steps p.tables e below (s₁.setTop (mkF m 0 #[.val (.ref sw2), .unset, .unset, .unset, .unset] [])) _
    refine st1 _ ?_
    show Steps p.tables e below (T1.setTop (mkF m 3 #[.val (.ref sw2), .unset, .unset, .unset, .unset] [(.ref r1)])) _
    refine XS.astoreN X1.here hx rfl (hb hby d1_3) rfl rfl (l' := #[.val (.ref sw2), .val (.ref r1), .unset, .unset, .unset]) rfl ?_
    show Steps p.tables e below (T1.setTop (mkF m 4 #[.val (.ref sw2), .val (.ref r1), .unset, .unset, .unset] [])) _
    refine XS.aloadN X1.here hx rfl (hb hby d1_4) rfl rfl ?_
    show Steps p.tables e below (T1.setTop (mkF m 5 #[.val (.ref sw2), .val (.ref r1), .unset, .unset, .unset] [(.ref r1)])) _
    refine X1.arraylength hx Ar2.1 (State.isArrayOf_alike hZ.alike Ar2.2.1) (g := (mkF m 5 #[.val (.ref sw2), .val (.ref r1), .unset, .unset, .unset] [(.ref r1)])) rfl rfl (hb hby d1_5) _ ?_
    rw [len_of vS2 vN2]
    show Steps p.tables e below (T1.setTop (mkF m 6 #[.val (.ref sw2), .val (.ref r1), .unset, .unset, .unset] [(.int (7 : Int32))])) _
    refine XS.istoreN X1.here hx rfl (hb hby d1_6) rfl (l' := #[.val (.ref sw2), .val (.ref r1), .val (.int (7 : Int32)), .unset, .unset]) rfl ?_
    show Steps p.tables e below (T1.setTop (mkF m 7 #[.val (.ref sw2), .val (.ref r1), .val (.int (7 : Int32)), .unset, .unset] [])) _
    refine XS.iconst X1.here hx rfl (hb hby d1_7) ?_
    show Steps p.tables e below (T1.setTop (mkF m 8 #[.val (.ref sw2), .val (.ref r1), .val (.int (7 : Int32)), .unset, .unset] [(.int (0 : Int32))])) _
    refine XS.istoreN X1.here hx rfl (hb hby d1_8) rfl (l' := #[.val (.ref sw2), .val (.ref r1), .val (.int (7 : Int32)), .val (.int (0 : Int32)), .unset]) rfl ?_
    show Steps p.tables e below (T1.setTop (mkF m 9 #[.val (.ref sw2), .val (.ref r1), .val (.int (7 : Int32)), .val (.int (0 : Int32)), .unset] [])) _
    refine XS.iloadN X1.here hx rfl (hb hby d1_9) rfl ?_
    show Steps p.tables e below (T1.setTop (mkF m 10 #[.val (.ref sw2), .val (.ref r1), .val (.int (7 : Int32)), .val (.int (0 : Int32)), .unset] [(.int (0 : Int32))])) _
    refine XS.iloadN X1.here hx rfl (hb hby d1_10) rfl ?_
    show Steps p.tables e below (T1.setTop (mkF m 11 #[.val (.ref sw2), .val (.ref r1), .val (.int (7 : Int32)), .val (.int (0 : Int32)), .unset] [(.int (7 : Int32)), (.int (0 : Int32))])) _
    refine XS.icmpNo X1.here hx rfl (hb hby d1_11) rfl (tlt (by decide : (0 : Int32) < (7 : Int32))).2.1 ?_
    show Steps p.tables e below (T1.setTop (mkF m 14 #[.val (.ref sw2), .val (.ref r1), .val (.int (7 : Int32)), .val (.int (0 : Int32)), .unset] [])) _
    refine XS.aloadN X1.here hx rfl (hb hby d1_14) rfl rfl ?_
    show Steps p.tables e below (T1.setTop (mkF m 15 #[.val (.ref sw2), .val (.ref r1), .val (.int (7 : Int32)), .val (.int (0 : Int32)), .unset] [(.ref r1)])) _
    refine XS.iloadN X1.here hx rfl (hb hby d1_15) rfl ?_
    show Steps p.tables e below (T1.setTop (mkF m 16 #[.val (.ref sw2), .val (.ref r1), .val (.int (7 : Int32)), .val (.int (0 : Int32)), .unset] [(.int (0 : Int32)), (.ref r1)])) _
    refine X1.aaload hx (j := (0 : Int32)) (v := (.ref sw0)) Ar3.1 (State.isArrayOf_alike hZ.alike Ar3.2.1) rfl Ar3.2.2 hin3 (vH3.at hin3 rfl) (g := (mkF m 16 #[.val (.ref sw2), .val (.ref r1), .val (.int (7 : Int32)), .val (.int (0 : Int32)), .unset] [(.int (0 : Int32)), (.ref r1)])) rfl rfl (hb hby d1_16) _ ?_
    show Steps p.tables e below (T1.setTop (mkF m 17 #[.val (.ref sw2), .val (.ref r1), .val (.int (7 : Int32)), .val (.int (0 : Int32)), .unset] [(.ref sw0)])) _
    refine XS.astore X1.here hx rfl (hb hby d1_17) rfl rfl (l' := #[.val (.ref sw2), .val (.ref r1), .val (.int (7 : Int32)), .val (.int (0 : Int32)), .val (.ref sw0)]) rfl ?_
    show Steps p.tables e below (T1.setTop (mkF m 19 #[.val (.ref sw2), .val (.ref r1), .val (.int (7 : Int32)), .val (.int (0 : Int32)), .val (.ref sw0)] [])) _
    refine XS.aload X1.here hx rfl (hb hby d1_19) rfl rfl ?_
    show Steps p.tables e below (T1.setTop (mkF m 21 #[.val (.ref sw2), .val (.ref r1), .val (.int (7 : Int32)), .val (.int (0 : Int32)), .val (.ref sw0)] [(.ref sw0)])) _
    refine st4 _ ?_
    show Steps p.tables e below (T4.setTop (mkF m 24 #[.val (.ref sw2), .val (.ref r1), .val (.int (7 : Int32)), .val (.int (0 : Int32)), .val (.ref sw0)] [.null])) _
    refine XS.aloadN X4.here hx rfl (hb hby d1_24) rfl rfl ?_
    show Steps p.tables e below (T4.setTop (mkF m 25 #[.val (.ref sw2), .val (.ref r1), .val (.int (7 : Int32)), .val (.int (0 : Int32)), .val (.ref sw0)] [(.ref sw2), .null])) _
    refine Jvm.RoadKit.acmp (g := (mkF m 25 #[.val (.ref sw2), .val (.ref r1), .val (.int (7 : Int32)), .val (.int (0 : Int32)), .val (.ref sw0)] [(.ref sw2), .null])) X4 hx rfl rfl rfl (pc0 := 25) (pc' := 31) (same := false) rfl (hb hby d1_25) rfl (decide_eq_false nofun) (by decide) (by decide) ?_
    show Steps p.tables e below (T4.setTop (mkF m 31 #[.val (.ref sw2), .val (.ref r1), .val (.int (7 : Int32)), .val (.int (0 : Int32)), .val (.ref sw0)] [])) _
    refine XS.iinc X4.here hx rfl (hb hby d1_31) rfl (l' := #[.val (.ref sw2), .val (.ref r1), .val (.int (7 : Int32)), .val (.int (1 : Int32)), .val (.ref sw0)]) rfl ?_
    show Steps p.tables e below (T4.setTop (mkF m 34 #[.val (.ref sw2), .val (.ref r1), .val (.int (7 : Int32)), .val (.int (1 : Int32)), .val (.ref sw0)] [])) _
    refine XS.goto X4.here hx rfl (pc0 := 34) (pc' := 9) rfl (hb hby d1_34) (by decide) (by decide) ?_
    show Steps p.tables e below (T4.setTop (mkF m 9 #[.val (.ref sw2), .val (.ref r1), .val (.int (7 : Int32)), .val (.int (1 : Int32)), .val (.ref sw0)] [])) _
    refine XS.iloadN X4.here hx rfl (hb hby d1_9) rfl ?_
    show Steps p.tables e below (T4.setTop (mkF m 10 #[.val (.ref sw2), .val (.ref r1), .val (.int (7 : Int32)), .val (.int (1 : Int32)), .val (.ref sw0)] [(.int (1 : Int32))])) _
    refine XS.iloadN X4.here hx rfl (hb hby d1_10) rfl ?_
    show Steps p.tables e below (T4.setTop (mkF m 11 #[.val (.ref sw2), .val (.ref r1), .val (.int (7 : Int32)), .val (.int (1 : Int32)), .val (.ref sw0)] [(.int (7 : Int32)), (.int (1 : Int32))])) _
    refine XS.icmpNo X4.here hx rfl (hb hby d1_11) rfl (tlt (by decide : (1 : Int32) < (7 : Int32))).2.1 ?_
    show Steps p.tables e below (T4.setTop (mkF m 14 #[.val (.ref sw2), .val (.ref r1), .val (.int (7 : Int32)), .val (.int (1 : Int32)), .val (.ref sw0)] [])) _
    refine XS.aloadN X4.here hx rfl (hb hby d1_14) rfl rfl ?_
    show Steps p.tables e below (T4.setTop (mkF m 15 #[.val (.ref sw2), .val (.ref r1), .val (.int (7 : Int32)), .val (.int (1 : Int32)), .val (.ref sw0)] [(.ref r1)])) _
    refine XS.iloadN X4.here hx rfl (hb hby d1_15) rfl ?_
    show Steps p.tables e below (T4.setTop (mkF m 16 #[.val (.ref sw2), .val (.ref r1), .val (.int (7 : Int32)), .val (.int (1 : Int32)), .val (.ref sw0)] [(.int (1 : Int32)), (.ref r1)])) _
    refine X4.aaload hx (j := (1 : Int32)) (v := (.ref sw1)) (by rw [e4]; exact Ar6.1) (State.isArrayOf_alike hZ.alike Ar6.2.1) rfl Ar6.2.2 hin6 (vH6.at hin6 rfl) (g := (mkF m 16 #[.val (.ref sw2), .val (.ref r1), .val (.int (7 : Int32)), .val (.int (1 : Int32)), .val (.ref sw0)] [(.int (1 : Int32)), (.ref r1)])) rfl rfl (hb hby d1_16) _ ?_
    show Steps p.tables e below (T4.setTop (mkF m 17 #[.val (.ref sw2), .val (.ref r1), .val (.int (7 : Int32)), .val (.int (1 : Int32)), .val (.ref sw0)] [(.ref sw1)])) _
    refine XS.astore X4.here hx rfl (hb hby d1_17) rfl rfl (l' := #[.val (.ref sw2), .val (.ref r1), .val (.int (7 : Int32)), .val (.int (1 : Int32)), .val (.ref sw1)]) rfl ?_
    show Steps p.tables e below (T4.setTop (mkF m 19 #[.val (.ref sw2), .val (.ref r1), .val (.int (7 : Int32)), .val (.int (1 : Int32)), .val (.ref sw1)] [])) _
    refine XS.aload X4.here hx rfl (hb hby d1_19) rfl rfl ?_
    show Steps p.tables e below (T4.setTop (mkF m 21 #[.val (.ref sw2), .val (.ref r1), .val (.int (7 : Int32)), .val (.int (1 : Int32)), .val (.ref sw1)] [(.ref sw1)])) _
    refine st7 _ ?_
    show Steps p.tables e below (T7.setTop (mkF m 24 #[.val (.ref sw2), .val (.ref r1), .val (.int (7 : Int32)), .val (.int (1 : Int32)), .val (.ref sw1)] [.null])) _
    refine XS.aloadN X7.here hx rfl (hb hby d1_24) rfl rfl ?_
    show Steps p.tables e below (T7.setTop (mkF m 25 #[.val (.ref sw2), .val (.ref r1), .val (.int (7 : Int32)), .val (.int (1 : Int32)), .val (.ref sw1)] [(.ref sw2), .null])) _
    refine Jvm.RoadKit.acmp (g := (mkF m 25 #[.val (.ref sw2), .val (.ref r1), .val (.int (7 : Int32)), .val (.int (1 : Int32)), .val (.ref sw1)] [(.ref sw2), .null])) X7 hx rfl rfl rfl (pc0 := 25) (pc' := 31) (same := false) rfl (hb hby d1_25) rfl (decide_eq_false nofun) (by decide) (by decide) ?_
    show Steps p.tables e below (T7.setTop (mkF m 31 #[.val (.ref sw2), .val (.ref r1), .val (.int (7 : Int32)), .val (.int (1 : Int32)), .val (.ref sw1)] [])) _
    refine XS.iinc X7.here hx rfl (hb hby d1_31) rfl (l' := #[.val (.ref sw2), .val (.ref r1), .val (.int (7 : Int32)), .val (.int (2 : Int32)), .val (.ref sw1)]) rfl ?_
    show Steps p.tables e below (T7.setTop (mkF m 34 #[.val (.ref sw2), .val (.ref r1), .val (.int (7 : Int32)), .val (.int (2 : Int32)), .val (.ref sw1)] [])) _
    refine XS.goto X7.here hx rfl (pc0 := 34) (pc' := 9) rfl (hb hby d1_34) (by decide) (by decide) ?_
    show Steps p.tables e below (T7.setTop (mkF m 9 #[.val (.ref sw2), .val (.ref r1), .val (.int (7 : Int32)), .val (.int (2 : Int32)), .val (.ref sw1)] [])) _
    refine XS.iloadN X7.here hx rfl (hb hby d1_9) rfl ?_
    show Steps p.tables e below (T7.setTop (mkF m 10 #[.val (.ref sw2), .val (.ref r1), .val (.int (7 : Int32)), .val (.int (2 : Int32)), .val (.ref sw1)] [(.int (2 : Int32))])) _
    refine XS.iloadN X7.here hx rfl (hb hby d1_10) rfl ?_
    show Steps p.tables e below (T7.setTop (mkF m 11 #[.val (.ref sw2), .val (.ref r1), .val (.int (7 : Int32)), .val (.int (2 : Int32)), .val (.ref sw1)] [(.int (7 : Int32)), (.int (2 : Int32))])) _
    refine XS.icmpNo X7.here hx rfl (hb hby d1_11) rfl (tlt (by decide : (2 : Int32) < (7 : Int32))).2.1 ?_
    show Steps p.tables e below (T7.setTop (mkF m 14 #[.val (.ref sw2), .val (.ref r1), .val (.int (7 : Int32)), .val (.int (2 : Int32)), .val (.ref sw1)] [])) _
    refine XS.aloadN X7.here hx rfl (hb hby d1_14) rfl rfl ?_
    show Steps p.tables e below (T7.setTop (mkF m 15 #[.val (.ref sw2), .val (.ref r1), .val (.int (7 : Int32)), .val (.int (2 : Int32)), .val (.ref sw1)] [(.ref r1)])) _
    refine XS.iloadN X7.here hx rfl (hb hby d1_15) rfl ?_
    show Steps p.tables e below (T7.setTop (mkF m 16 #[.val (.ref sw2), .val (.ref r1), .val (.int (7 : Int32)), .val (.int (2 : Int32)), .val (.ref sw1)] [(.int (2 : Int32)), (.ref r1)])) _
    refine X7.aaload hx (j := (2 : Int32)) (v := (.ref sw2)) (by rw [e7]; exact Ar8.1) (State.isArrayOf_alike hZ.alike Ar8.2.1) rfl Ar8.2.2 hin8 (vH8.at hin8 rfl) (g := (mkF m 16 #[.val (.ref sw2), .val (.ref r1), .val (.int (7 : Int32)), .val (.int (2 : Int32)), .val (.ref sw1)] [(.int (2 : Int32)), (.ref r1)])) rfl rfl (hb hby d1_16) _ ?_
    show Steps p.tables e below (T7.setTop (mkF m 17 #[.val (.ref sw2), .val (.ref r1), .val (.int (7 : Int32)), .val (.int (2 : Int32)), .val (.ref sw1)] [(.ref sw2)])) _
    refine XS.astore X7.here hx rfl (hb hby d1_17) rfl rfl (l' := #[.val (.ref sw2), .val (.ref r1), .val (.int (7 : Int32)), .val (.int (2 : Int32)), .val (.ref sw2)]) rfl ?_
    show Steps p.tables e below (T7.setTop (mkF m 19 #[.val (.ref sw2), .val (.ref r1), .val (.int (7 : Int32)), .val (.int (2 : Int32)), .val (.ref sw2)] [])) _
    refine XS.aload X7.here hx rfl (hb hby d1_19) rfl rfl ?_
    show Steps p.tables e below (T7.setTop (mkF m 21 #[.val (.ref sw2), .val (.ref r1), .val (.int (7 : Int32)), .val (.int (2 : Int32)), .val (.ref sw2)] [(.ref sw2)])) _
    refine st9 _ ?_
    show Steps p.tables e below (T9.setTop (mkF m 24 #[.val (.ref sw2), .val (.ref r1), .val (.int (7 : Int32)), .val (.int (2 : Int32)), .val (.ref sw2)] [.null])) _
    refine XS.aloadN X9.here hx rfl (hb hby d1_24) rfl rfl ?_
    show Steps p.tables e below (T9.setTop (mkF m 25 #[.val (.ref sw2), .val (.ref r1), .val (.int (7 : Int32)), .val (.int (2 : Int32)), .val (.ref sw2)] [(.ref sw2), .null])) _
    refine Jvm.RoadKit.acmp (g := (mkF m 25 #[.val (.ref sw2), .val (.ref r1), .val (.int (7 : Int32)), .val (.int (2 : Int32)), .val (.ref sw2)] [(.ref sw2), .null])) X9 hx rfl rfl rfl (pc0 := 25) (pc' := 31) (same := false) rfl (hb hby d1_25) rfl (decide_eq_false nofun) (by decide) (by decide) ?_
    show Steps p.tables e below (T9.setTop (mkF m 31 #[.val (.ref sw2), .val (.ref r1), .val (.int (7 : Int32)), .val (.int (2 : Int32)), .val (.ref sw2)] [])) _
    refine XS.iinc X9.here hx rfl (hb hby d1_31) rfl (l' := #[.val (.ref sw2), .val (.ref r1), .val (.int (7 : Int32)), .val (.int (3 : Int32)), .val (.ref sw2)]) rfl ?_
    show Steps p.tables e below (T9.setTop (mkF m 34 #[.val (.ref sw2), .val (.ref r1), .val (.int (7 : Int32)), .val (.int (3 : Int32)), .val (.ref sw2)] [])) _
    refine XS.goto X9.here hx rfl (pc0 := 34) (pc' := 9) rfl (hb hby d1_34) (by decide) (by decide) ?_
    show Steps p.tables e below (T9.setTop (mkF m 9 #[.val (.ref sw2), .val (.ref r1), .val (.int (7 : Int32)), .val (.int (3 : Int32)), .val (.ref sw2)] [])) _
    refine XS.iloadN X9.here hx rfl (hb hby d1_9) rfl ?_
    show Steps p.tables e below (T9.setTop (mkF m 10 #[.val (.ref sw2), .val (.ref r1), .val (.int (7 : Int32)), .val (.int (3 : Int32)), .val (.ref sw2)] [(.int (3 : Int32))])) _
    refine XS.iloadN X9.here hx rfl (hb hby d1_10) rfl ?_
    show Steps p.tables e below (T9.setTop (mkF m 11 #[.val (.ref sw2), .val (.ref r1), .val (.int (7 : Int32)), .val (.int (3 : Int32)), .val (.ref sw2)] [(.int (7 : Int32)), (.int (3 : Int32))])) _
    refine XS.icmpNo X9.here hx rfl (hb hby d1_11) rfl (tlt (by decide : (3 : Int32) < (7 : Int32))).2.1 ?_
    show Steps p.tables e below (T9.setTop (mkF m 14 #[.val (.ref sw2), .val (.ref r1), .val (.int (7 : Int32)), .val (.int (3 : Int32)), .val (.ref sw2)] [])) _
    refine XS.aloadN X9.here hx rfl (hb hby d1_14) rfl rfl ?_
    show Steps p.tables e below (T9.setTop (mkF m 15 #[.val (.ref sw2), .val (.ref r1), .val (.int (7 : Int32)), .val (.int (3 : Int32)), .val (.ref sw2)] [(.ref r1)])) _
    refine XS.iloadN X9.here hx rfl (hb hby d1_15) rfl ?_
    show Steps p.tables e below (T9.setTop (mkF m 16 #[.val (.ref sw2), .val (.ref r1), .val (.int (7 : Int32)), .val (.int (3 : Int32)), .val (.ref sw2)] [(.int (3 : Int32)), (.ref r1)])) _
    refine X9.aaload hx (j := (3 : Int32)) (v := (.ref sw3)) (by rw [e9]; exact Ar10.1) (State.isArrayOf_alike hZ.alike Ar10.2.1) rfl Ar10.2.2 hin10 (vH10.at hin10 rfl) (g := (mkF m 16 #[.val (.ref sw2), .val (.ref r1), .val (.int (7 : Int32)), .val (.int (3 : Int32)), .val (.ref sw2)] [(.int (3 : Int32)), (.ref r1)])) rfl rfl (hb hby d1_16) _ ?_
    show Steps p.tables e below (T9.setTop (mkF m 17 #[.val (.ref sw2), .val (.ref r1), .val (.int (7 : Int32)), .val (.int (3 : Int32)), .val (.ref sw2)] [(.ref sw3)])) _
    refine XS.astore X9.here hx rfl (hb hby d1_17) rfl rfl (l' := #[.val (.ref sw2), .val (.ref r1), .val (.int (7 : Int32)), .val (.int (3 : Int32)), .val (.ref sw3)]) rfl ?_
    show Steps p.tables e below (T9.setTop (mkF m 19 #[.val (.ref sw2), .val (.ref r1), .val (.int (7 : Int32)), .val (.int (3 : Int32)), .val (.ref sw3)] [])) _
    refine XS.aload X9.here hx rfl (hb hby d1_19) rfl rfl ?_
    show Steps p.tables e below (T9.setTop (mkF m 21 #[.val (.ref sw2), .val (.ref r1), .val (.int (7 : Int32)), .val (.int (3 : Int32)), .val (.ref sw3)] [(.ref sw3)])) _
    refine st11 _ ?_
    show Steps p.tables e below (T11.setTop (mkF m 24 #[.val (.ref sw2), .val (.ref r1), .val (.int (7 : Int32)), .val (.int (3 : Int32)), .val (.ref sw3)] [.null])) _
    refine XS.aloadN X11.here hx rfl (hb hby d1_24) rfl rfl ?_
    show Steps p.tables e below (T11.setTop (mkF m 25 #[.val (.ref sw2), .val (.ref r1), .val (.int (7 : Int32)), .val (.int (3 : Int32)), .val (.ref sw3)] [(.ref sw2), .null])) _
    refine Jvm.RoadKit.acmp (g := (mkF m 25 #[.val (.ref sw2), .val (.ref r1), .val (.int (7 : Int32)), .val (.int (3 : Int32)), .val (.ref sw3)] [(.ref sw2), .null])) X11 hx rfl rfl rfl (pc0 := 25) (pc' := 31) (same := false) rfl (hb hby d1_25) rfl (decide_eq_false nofun) (by decide) (by decide) ?_
    show Steps p.tables e below (T11.setTop (mkF m 31 #[.val (.ref sw2), .val (.ref r1), .val (.int (7 : Int32)), .val (.int (3 : Int32)), .val (.ref sw3)] [])) _
    refine XS.iinc X11.here hx rfl (hb hby d1_31) rfl (l' := #[.val (.ref sw2), .val (.ref r1), .val (.int (7 : Int32)), .val (.int (4 : Int32)), .val (.ref sw3)]) rfl ?_
    show Steps p.tables e below (T11.setTop (mkF m 34 #[.val (.ref sw2), .val (.ref r1), .val (.int (7 : Int32)), .val (.int (4 : Int32)), .val (.ref sw3)] [])) _
    refine XS.goto X11.here hx rfl (pc0 := 34) (pc' := 9) rfl (hb hby d1_34) (by decide) (by decide) ?_
    show Steps p.tables e below (T11.setTop (mkF m 9 #[.val (.ref sw2), .val (.ref r1), .val (.int (7 : Int32)), .val (.int (4 : Int32)), .val (.ref sw3)] [])) _
    refine XS.iloadN X11.here hx rfl (hb hby d1_9) rfl ?_
    show Steps p.tables e below (T11.setTop (mkF m 10 #[.val (.ref sw2), .val (.ref r1), .val (.int (7 : Int32)), .val (.int (4 : Int32)), .val (.ref sw3)] [(.int (4 : Int32))])) _
    refine XS.iloadN X11.here hx rfl (hb hby d1_10) rfl ?_
    show Steps p.tables e below (T11.setTop (mkF m 11 #[.val (.ref sw2), .val (.ref r1), .val (.int (7 : Int32)), .val (.int (4 : Int32)), .val (.ref sw3)] [(.int (7 : Int32)), (.int (4 : Int32))])) _
    refine XS.icmpNo X11.here hx rfl (hb hby d1_11) rfl (tlt (by decide : (4 : Int32) < (7 : Int32))).2.1 ?_
    show Steps p.tables e below (T11.setTop (mkF m 14 #[.val (.ref sw2), .val (.ref r1), .val (.int (7 : Int32)), .val (.int (4 : Int32)), .val (.ref sw3)] [])) _
    refine XS.aloadN X11.here hx rfl (hb hby d1_14) rfl rfl ?_
    show Steps p.tables e below (T11.setTop (mkF m 15 #[.val (.ref sw2), .val (.ref r1), .val (.int (7 : Int32)), .val (.int (4 : Int32)), .val (.ref sw3)] [(.ref r1)])) _
    refine XS.iloadN X11.here hx rfl (hb hby d1_15) rfl ?_
    show Steps p.tables e below (T11.setTop (mkF m 16 #[.val (.ref sw2), .val (.ref r1), .val (.int (7 : Int32)), .val (.int (4 : Int32)), .val (.ref sw3)] [(.int (4 : Int32)), (.ref r1)])) _
    refine X11.aaload hx (j := (4 : Int32)) (v := (.ref sw4)) (by rw [e11]; exact Ar12.1) (State.isArrayOf_alike hZ.alike Ar12.2.1) rfl Ar12.2.2 hin12 (vH12.at hin12 rfl) (g := (mkF m 16 #[.val (.ref sw2), .val (.ref r1), .val (.int (7 : Int32)), .val (.int (4 : Int32)), .val (.ref sw3)] [(.int (4 : Int32)), (.ref r1)])) rfl rfl (hb hby d1_16) _ ?_
    show Steps p.tables e below (T11.setTop (mkF m 17 #[.val (.ref sw2), .val (.ref r1), .val (.int (7 : Int32)), .val (.int (4 : Int32)), .val (.ref sw3)] [(.ref sw4)])) _
    refine XS.astore X11.here hx rfl (hb hby d1_17) rfl rfl (l' := #[.val (.ref sw2), .val (.ref r1), .val (.int (7 : Int32)), .val (.int (4 : Int32)), .val (.ref sw4)]) rfl ?_
    show Steps p.tables e below (T11.setTop (mkF m 19 #[.val (.ref sw2), .val (.ref r1), .val (.int (7 : Int32)), .val (.int (4 : Int32)), .val (.ref sw4)] [])) _
    refine XS.aload X11.here hx rfl (hb hby d1_19) rfl rfl ?_
    show Steps p.tables e below (T11.setTop (mkF m 21 #[.val (.ref sw2), .val (.ref r1), .val (.int (7 : Int32)), .val (.int (4 : Int32)), .val (.ref sw4)] [(.ref sw4)])) _
    refine st13 _ ?_
    show Steps p.tables e below (T13.setTop (mkF m 24 #[.val (.ref sw2), .val (.ref r1), .val (.int (7 : Int32)), .val (.int (4 : Int32)), .val (.ref sw4)] [(.ref sw2)])) _
    refine XS.aloadN X13.here hx rfl (hb hby d1_24) rfl rfl ?_
    show Steps p.tables e below (T13.setTop (mkF m 25 #[.val (.ref sw2), .val (.ref r1), .val (.int (7 : Int32)), .val (.int (4 : Int32)), .val (.ref sw4)] [(.ref sw2), (.ref sw2)])) _
    refine Jvm.RoadKit.acmp (g := (mkF m 25 #[.val (.ref sw2), .val (.ref r1), .val (.int (7 : Int32)), .val (.int (4 : Int32)), .val (.ref sw4)] [(.ref sw2), (.ref sw2)])) X13 hx rfl rfl rfl (pc0 := 25) (pc' := 28) (same := true) rfl (hb hby d1_25) rfl (decide_eq_true rfl) (by decide) (by decide) ?_
    show Steps p.tables e below (T13.setTop (mkF m 28 #[.val (.ref sw2), .val (.ref r1), .val (.int (7 : Int32)), .val (.int (4 : Int32)), .val (.ref sw4)] [])) _
    refine XS.aload X13.here hx rfl (hb hby d1_28) rfl rfl ?_
    show Steps p.tables e below (T13.setTop (mkF m 30 #[.val (.ref sw2), .val (.ref r1), .val (.int (7 : Int32)), .val (.int (4 : Int32)), .val (.ref sw4)] [(.ref sw4)])) _
    jvm_step X13.here [X13.here.top, hx, (hb hby d1_30), X13.method', Bd.returns, Value.isRef, FieldType.isReference]
    first | (intro acts; rw [hr _ acts rfl rfl rfl]) | rw [hr _ _ rfl rfl rfl]
    exact Steps.refl _
  · show Q_clean2 Z sw0 sw1 sw2 sw3 sw4 sw5 sw6 wV kV h0 n0 _ T13.heap _
    rw [e13]
    exact ⟨rfl, N1, ((Keep.refl h0 []).trans K1 all0)⟩
def v_k (p1 : Int32) : Int32 := ((p1 &&& (2147483647 : Int32)) - ((p1 &&& (2147483647 : Int32)) / (3 : Int32)) * (3 : Int32))
def lawP (p1 : Int32) : Prop := (if (v_k p1) = (0 : Int32) then True else (if (v_k p1) = (1 : Int32) then True else True))
set_option maxRecDepth 65536 in
set_option maxHeartbeats 40000000 in
theorem rm_law (l : Launch) (Z : State) (a0 : Array Value) (hw : ∀ d ∈ tables_1, d.before a0 Z = true) (ws : List Jvm.Cond) (sw0 : Addr) (sw1 : Addr) (sw2 : Addr) (sw3 : Addr) (sw4 : Addr) (sw5 : Addr) (sw6 : Addr) (wV : Addr) (kV : ClassId) (p1 : Int32) (h0 : Heap) (n0 : Nat) (Z0 : n0 ≤ h0.size) (O0 : Old Z n0 h0) (S_sw0 : Sta Z Z.heap "com/example/fixtures_per_argument/fixturesperargument/engine/Phase" "PREPARE" "Lcom/example/fixtures_per_argument/fixturesperargument/engine/Phase;" (.ref sw0)) (S_sw1 : Sta Z Z.heap "com/example/fixtures_per_argument/fixturesperargument/engine/Phase" "BEFORE_ALL" "Lcom/example/fixtures_per_argument/fixturesperargument/engine/Phase;" (.ref sw1)) (S_sw2 : Sta Z Z.heap "com/example/fixtures_per_argument/fixturesperargument/engine/Phase" "BEFORE_EACH" "Lcom/example/fixtures_per_argument/fixturesperargument/engine/Phase;" (.ref sw2)) (S_sw3 : Sta Z Z.heap "com/example/fixtures_per_argument/fixturesperargument/engine/Phase" "TEST" "Lcom/example/fixtures_per_argument/fixturesperargument/engine/Phase;" (.ref sw3)) (S_sw4 : Sta Z Z.heap "com/example/fixtures_per_argument/fixturesperargument/engine/Phase" "AFTER_EACH" "Lcom/example/fixtures_per_argument/fixturesperargument/engine/Phase;" (.ref sw4)) (S_sw5 : Sta Z Z.heap "com/example/fixtures_per_argument/fixturesperargument/engine/Phase" "AFTER_ALL" "Lcom/example/fixtures_per_argument/fixturesperargument/engine/Phase;" (.ref sw5)) (S_sw6 : Sta Z Z.heap "com/example/fixtures_per_argument/fixturesperargument/engine/Phase" "CONCLUDE" "Lcom/example/fixtures_per_argument/fixturesperargument/engine/Phase;" (.ref sw6)) (S_wV : Sta Z Z.heap "com/example/fixtures_per_argument/fixturesperargument/engine/Phase" "$VALUES" "[Lcom/example/fixtures_per_argument/fixturesperargument/engine/Phase;" (.ref wV)) (VV : Arv Z Z.heap wV kV (.object "com/example/fixtures_per_argument/fixturesperargument/engine/Phase") (7 : Int32) [(.ref sw0), (.ref sw1), (.ref sw2), (.ref sw3), (.ref sw4), (.ref sw5), (.ref sw6)] .null) (VE : Exa Z Z.heap wV "[Lcom/example/fixtures_per_argument/fixturesperargument/engine/Phase;") (F_setUp_sw0 : Fld Z Z.heap sw0 "com/example/fixtures_per_argument/fixturesperargument/engine/Phase" "setUp" "Lcom/example/fixtures_per_argument/fixturesperargument/engine/Phase;" .null) (F_setUp_sw1 : Fld Z Z.heap sw1 "com/example/fixtures_per_argument/fixturesperargument/engine/Phase" "setUp" "Lcom/example/fixtures_per_argument/fixturesperargument/engine/Phase;" .null) (F_setUp_sw2 : Fld Z Z.heap sw2 "com/example/fixtures_per_argument/fixturesperargument/engine/Phase" "setUp" "Lcom/example/fixtures_per_argument/fixturesperargument/engine/Phase;" .null) (F_setUp_sw3 : Fld Z Z.heap sw3 "com/example/fixtures_per_argument/fixturesperargument/engine/Phase" "setUp" "Lcom/example/fixtures_per_argument/fixturesperargument/engine/Phase;" .null) (F_setUp_sw4 : Fld Z Z.heap sw4 "com/example/fixtures_per_argument/fixturesperargument/engine/Phase" "setUp" "Lcom/example/fixtures_per_argument/fixturesperargument/engine/Phase;" (.ref sw2)) (F_setUp_sw5 : Fld Z Z.heap sw5 "com/example/fixtures_per_argument/fixturesperargument/engine/Phase" "setUp" "Lcom/example/fixtures_per_argument/fixturesperargument/engine/Phase;" (.ref sw1)) (F_setUp_sw6 : Fld Z Z.heap sw6 "com/example/fixtures_per_argument/fixturesperargument/engine/Phase" "setUp" "Lcom/example/fixtures_per_argument/fixturesperargument/engine/Phase;" (.ref sw0)) (n20 : ¬ (sw2 = sw0)) (n10 : ¬ (sw1 = sw0)) (n21 : ¬ (sw2 = sw1)) (E_sw0 : Exa Z Z.heap sw0 "com/example/fixtures_per_argument/fixturesperargument/engine/Phase") (E_sw1 : Exa Z Z.heap sw1 "com/example/fixtures_per_argument/fixturesperargument/engine/Phase") (E_sw2 : Exa Z Z.heap sw2 "com/example/fixtures_per_argument/fixturesperargument/engine/Phase") (hp : lawP p1) :
    MetFree l x (head1 (Jvm.Cond.code x code maxLocals ret :: ws) room_1) (fun a U => a = #[(.int p1)] ∧ Z.Warmed39 U.vm ∧ U.heap = h0) (fun _ _ _ _ _ => True) (fun _ U o U' => ∃ v L, o = .returned v ∧ LawQ n0 v U'.heap L ∧ FrameEnd U o U' L room_1.cells room_1.slots) := by
  refine MetFree.of_bodySF (plainFor_of_name pn_PhaseGetCleanupPinLaw) hisR ?_
  intro p e s m args below meth c s₁ Bd hml0 hP hK
  obtain ⟨rfl, hZ, hh⟩ := hP
  have hx := Bd.exec
  have hby := Bd.bytes
  have hml : c.maxLocals = 4 := hml0
  have hown : s.vm.findClass "com/example/fixtures_per_argument/fixturesperargument/engine/PhaseGetCleanupPinLaw" = some m.cls := findClass_of_methodNamed Bd.named
  have hnm := (name_of_methodNamed Bd.named Bd.method).1
  have X0 : Stand p l e room_1 s m #[(.int p1)] below meth c s₁ [] 0 0 := Stand.of_body Bd
  have e0 : s₁.heap = h0 := by rw [← hh, Bd.state]; rfl
  have N0 := Fr.nil n0
  have pre0 : ∀ t, Steps p.tables e below (s₁.setTop (mkF m 0 #[.val (.int p1), .unset, .unset, .unset] [])) t → Steps p.tables e below (s₁.setTop (entryFrame m #[(.int p1)] maxLocals)) t := fun t k => castTop (ef_law m p1) k
  unfold lawP at hp
  have pre1 : ∀ t, Steps p.tables e below (s₁.setTop (mkF m 8 #[.val (.int p1), .val (.int (v_k p1)), .unset, .unset] [(.int (v_k p1))])) t → Steps p.tables e below (s₁.setTop (entryFrame m #[(.int p1)] maxLocals)) t := fun t k => pre0 t (by
      show Steps p.tables e below (s₁.setTop (mkF m 0 #[.val (.int p1), .unset, .unset, .unset] [])) _
      refine XS.iloadN X0.here hx rfl (hb hby at_0) rfl ?_
      show Steps p.tables e below (s₁.setTop (mkF m 1 #[.val (.int p1), .unset, .unset, .unset] [(.int p1)])) _
      refine X0.ldcInt hx hown (mvT hZ (hw _ (List.mem_of_getElem? (i := 0) rfl))) (g := (mkF m 1 #[.val (.int p1), .unset, .unset, .unset] [(.int p1)])) rfl (hb hby at_1) _ ?_
      show Steps p.tables e below (s₁.setTop (mkF m 3 #[.val (.int p1), .unset, .unset, .unset] [(.int (2147483647 : Int32)), (.int p1)])) _
      refine XS.iand X0.here hx rfl (hb hby at_3) rfl ?_
      show Steps p.tables e below (s₁.setTop (mkF m 4 #[.val (.int p1), .unset, .unset, .unset] [(.int (p1 &&& (2147483647 : Int32)))])) _
      refine XS.iconst X0.here hx rfl (hb hby at_4) ?_
      show Steps p.tables e below (s₁.setTop (mkF m 5 #[.val (.int p1), .unset, .unset, .unset] [(.int (3 : Int32)), (.int (p1 &&& (2147483647 : Int32)))])) _
      refine XS.irem X0.here hx rfl (hb hby at_5) rfl (by decide) ?_
      show Steps p.tables e below (s₁.setTop (mkF m 6 #[.val (.int p1), .unset, .unset, .unset] [(.int (v_k p1))])) _
      refine XS.istoreN X0.here hx rfl (hb hby at_6) rfl (l' := #[.val (.int p1), .val (.int (v_k p1)), .unset, .unset]) rfl ?_
      show Steps p.tables e below (s₁.setTop (mkF m 7 #[.val (.int p1), .val (.int (v_k p1)), .unset, .unset] [])) _
      refine XS.iloadN X0.here hx rfl (hb hby at_7) rfl ?_
      exact k)
  by_cases g2 : (v_k p1) = (0 : Int32)
  · skip
    rw [if_pos g2] at hp
    obtain ⟨T3, X3, e3, st3⟩ := getS2 X0 hx hZ hown (host := "") (Or.inl (hw _ (List.mem_of_getElem? (i := 1) rfl))) Via.refl e0 (S_sw0.ext O0.2) (g := (mkF m 11 #[.val (.int p1), .val (.int (v_k p1)), .unset, .unset] [])) rfl (hb hby at_11)
    obtain ⟨T4, X4, e4, st4⟩ := getS2 X3 hx hZ hown (host := "") (Or.inl (hw _ (List.mem_of_getElem? (i := 4) rfl))) Via.refl e3 (S_sw6.ext O0.2) (g := (mkF m 15 #[.val (.int p1), .val (.int (v_k p1)), .val (.ref sw0), .unset] [])) rfl (hb hby at_15)
    obtain ⟨cq5, kq5, q5a, q5b, q5c⟩ := isOf hZ e4 (E_sw0.ext O0.2)
    obtain ⟨_, _, ⟨T5, L5, k5, n5⟩, -, X5, ⟨Lc5, hQ5, l5, y5, z5⟩, st5⟩ := X4.virtualBack hx (y := (⟨"com/example/fixtures_per_argument/fixturesperargument/engine/Phase", "getCleanup", "()Lcom/example/fixtures_per_argument/fixturesperargument/engine/Phase;"⟩ : MethodName)) (z := (⟨"com/example/fixtures_per_argument/fixturesperargument/engine/Phase", "getCleanup", "()Lcom/example/fixtures_per_argument/fixturesperargument/engine/Phase;"⟩ : MethodName)) hown (mvT hZ (hw _ (List.mem_of_getElem? (i := 6) rfl))) (mvT hZ (hw _ (List.mem_of_getElem? (i := 7) rfl))) (notFace_of_selects (args := #[]) (mvT hZ (hw _ (List.mem_of_getElem? (i := 9) rfl)))) (mvT hZ (hw _ (List.mem_of_getElem? (i := 9) rfl))) (mvT hZ (hw _ (List.mem_of_getElem? (i := 8) rfl))) (by decide) (backOf (W := 0) (rm_clean0 l Z a0 hw [] sw0 sw1 sw2 sw3 sw4 sw5 sw6 wV kV h0 n0 (own_z0 O0) O0 S_sw0 S_sw1 S_sw2 S_sw3 S_sw4 S_sw5 S_sw6 S_wV VV VE F_setUp_sw0 F_setUp_sw1 F_setUp_sw2 F_setUp_sw3 F_setUp_sw4 F_setUp_sw5 F_setUp_sw6 n20 n10 n21 E_sw0 E_sw1 E_sw2) hZ (hw _ (List.mem_of_getElem? (i := 10) rfl)) (hw _ (List.mem_of_getElem? (i := 2) rfl)) (by decide) (by decide)) q5a q5c (g := (mkF m 47 #[.val (.int p1), .val (.int (v_k p1)), .val (.ref sw0), .val (.ref sw6)] [(.ref sw0)])) rfl (by rw [hml]; rfl) (Steps.refl _) (argsL := []) (rest := []) (lenOf pd_gument_fixturesperargument_engine_Phase__70 rfl) rfl (by show 2 * 0 + _ ≤ _; exact Nat.le_of_eq rfl) (hb hby at_47) (fun _ _ => ⟨rfl, e4, (by decide : 0 + 1 ≤ _), (by decide : 0 + 7 ≤ _)⟩)
    dsimp only [Pt.U, Pt.locs, Pt.cells, Pt.slots] at X5 l5 y5 z5 st5 hQ5
    subst l5 y5 z5
    obtain ⟨rfl, N5q, K5⟩ := hQ5
    have N5 := Fr.app N0 N5q
    obtain ⟨fs, hr, hrun, hended, hW, hsame⟩ := X5.leave (v := some (.int (1 : Int32))) (fun h => by rw [Bd.returns] at h; cases h)
    refine ⟨_, _, pre1 _ ?_, hrun, hended, _, _, rfl, ?_, ⟨_, rfl⟩, hW, hsame.mono (by decide) (by decide)⟩
    · show Steps p.tables e below (s₁.setTop (mkF m 8 #[.val (.int p1), .val (.int (v_k p1)), .unset, .unset] [(.int (v_k p1))])) _
      refine XS.ifNo X0.here hx rfl (hb hby at_8) rfl ((if0 _ _).trans (teq g2).2) ?_
      show Steps p.tables e below (s₁.setTop (mkF m 11 #[.val (.int p1), .val (.int (v_k p1)), .unset, .unset] [])) _
      refine st3 _ ?_
      show Steps p.tables e below (T3.setTop (mkF m 14 #[.val (.int p1), .val (.int (v_k p1)), .unset, .unset] [(.ref sw0)])) _
      refine XS.astoreN X3.here hx rfl (hb hby at_14) rfl rfl (l' := #[.val (.int p1), .val (.int (v_k p1)), .val (.ref sw0), .unset]) rfl ?_
      show Steps p.tables e below (T3.setTop (mkF m 15 #[.val (.int p1), .val (.int (v_k p1)), .val (.ref sw0), .unset] [])) _
      refine st4 _ ?_
      show Steps p.tables e below (T4.setTop (mkF m 18 #[.val (.int p1), .val (.int (v_k p1)), .val (.ref sw0), .unset] [(.ref sw6)])) _
      refine XS.astoreN X4.here hx rfl (hb hby at_18) rfl rfl (l' := #[.val (.int p1), .val (.int (v_k p1)), .val (.ref sw0), .val (.ref sw6)]) rfl ?_
      show Steps p.tables e below (T4.setTop (mkF m 19 #[.val (.int p1), .val (.int (v_k p1)), .val (.ref sw0), .val (.ref sw6)] [])) _
      refine XS.goto X4.here hx rfl (pc0 := 19) (pc' := 46) rfl (hb hby at_19) (by decide) (by decide) ?_
      show Steps p.tables e below (T4.setTop (mkF m 46 #[.val (.int p1), .val (.int (v_k p1)), .val (.ref sw0), .val (.ref sw6)] [])) _
      refine XS.aloadN X4.here hx rfl (hb hby at_46) rfl rfl ?_
      show Steps p.tables e below (T4.setTop (mkF m 47 #[.val (.int p1), .val (.int (v_k p1)), .val (.ref sw0), .val (.ref sw6)] [(.ref sw0)])) _
      refine st5.trans ?_
      show Steps p.tables e below (T5.setTop (mkF m 50 #[.val (.int p1), .val (.int (v_k p1)), .val (.ref sw0), .val (.ref sw6)] [(.ref sw6)])) _
      refine XS.aloadN X5.here hx rfl (hb hby at_50) rfl rfl ?_
      show Steps p.tables e below (T5.setTop (mkF m 51 #[.val (.int p1), .val (.int (v_k p1)), .val (.ref sw0), .val (.ref sw6)] [(.ref sw6), (.ref sw6)])) _
      refine Jvm.RoadKit.acmp (g := (mkF m 51 #[.val (.int p1), .val (.int (v_k p1)), .val (.ref sw0), .val (.ref sw6)] [(.ref sw6), (.ref sw6)])) X5 hx rfl rfl rfl (pc0 := 51) (pc' := 54) (same := true) rfl (hb hby at_51) rfl (decide_eq_true rfl) (by decide) (by decide) ?_
      show Steps p.tables e below (T5.setTop (mkF m 54 #[.val (.int p1), .val (.int (v_k p1)), .val (.ref sw0), .val (.ref sw6)] [])) _
      refine XS.iconst X5.here hx rfl (hb hby at_54) ?_
      show Steps p.tables e below (T5.setTop (mkF m 55 #[.val (.int p1), .val (.int (v_k p1)), .val (.ref sw0), .val (.ref sw6)] [(.int (1 : Int32))])) _
      refine XS.goto X5.here hx rfl (pc0 := 55) (pc' := 59) rfl (hb hby at_55) (by decide) (by decide) ?_
      show Steps p.tables e below (T5.setTop (mkF m 59 #[.val (.int p1), .val (.int (v_k p1)), .val (.ref sw0), .val (.ref sw6)] [(.int (1 : Int32))])) _
      exact retN X5 hx (t := .boolean) Bd.returns (by simp) (hb hby at_59) hr
    · exact ⟨rfl, N5⟩
  · skip
    rw [if_neg g2] at hp
    have pre6 : ∀ t, Steps p.tables e below (s₁.setTop (mkF m 24 #[.val (.int p1), .val (.int (v_k p1)), .unset, .unset] [(.int (1 : Int32)), (.int (v_k p1))])) t → Steps p.tables e below (s₁.setTop (entryFrame m #[(.int p1)] maxLocals)) t := fun t k => pre1 t (by
        show Steps p.tables e below (s₁.setTop (mkF m 8 #[.val (.int p1), .val (.int (v_k p1)), .unset, .unset] [(.int (v_k p1))])) _
        refine XS.ifYes X0.here hx rfl (pc0 := 8) (pc' := 22) rfl (hb hby at_8) rfl ((if0 _ _).trans (feq g2).2) (by decide) (by decide) ?_
        show Steps p.tables e below (s₁.setTop (mkF m 22 #[.val (.int p1), .val (.int (v_k p1)), .unset, .unset] [])) _
        refine XS.iloadN X0.here hx rfl (hb hby at_22) rfl ?_
        show Steps p.tables e below (s₁.setTop (mkF m 23 #[.val (.int p1), .val (.int (v_k p1)), .unset, .unset] [(.int (v_k p1))])) _
        refine XS.iconst X0.here hx rfl (hb hby at_23) ?_
        exact k)
    by_cases g7 : (v_k p1) = (1 : Int32)
    · skip
      rw [if_pos g7] at hp
      obtain ⟨T8, X8, e8, st8⟩ := getS2 X0 hx hZ hown (host := "") (Or.inl (hw _ (List.mem_of_getElem? (i := 35) rfl))) Via.refl e0 (S_sw1.ext O0.2) (g := (mkF m 27 #[.val (.int p1), .val (.int (v_k p1)), .unset, .unset] [])) rfl (hb hby at_27)
      obtain ⟨T9, X9, e9, st9⟩ := getS2 X8 hx hZ hown (host := "") (Or.inl (hw _ (List.mem_of_getElem? (i := 36) rfl))) Via.refl e8 (S_sw5.ext O0.2) (g := (mkF m 31 #[.val (.int p1), .val (.int (v_k p1)), .val (.ref sw1), .unset] [])) rfl (hb hby at_31)
      obtain ⟨cq10, kq10, q10a, q10b, q10c⟩ := isOf hZ e9 (E_sw1.ext O0.2)
      obtain ⟨_, _, ⟨T10, L10, k10, n10⟩, -, X10, ⟨Lc10, hQ10, l10, y10, z10⟩, st10⟩ := X9.virtualBack hx (y := (⟨"com/example/fixtures_per_argument/fixturesperargument/engine/Phase", "getCleanup", "()Lcom/example/fixtures_per_argument/fixturesperargument/engine/Phase;"⟩ : MethodName)) (z := (⟨"com/example/fixtures_per_argument/fixturesperargument/engine/Phase", "getCleanup", "()Lcom/example/fixtures_per_argument/fixturesperargument/engine/Phase;"⟩ : MethodName)) hown (mvT hZ (hw _ (List.mem_of_getElem? (i := 6) rfl))) (mvT hZ (hw _ (List.mem_of_getElem? (i := 7) rfl))) (notFace_of_selects (args := #[]) (mvT hZ (hw _ (List.mem_of_getElem? (i := 9) rfl)))) (mvT hZ (hw _ (List.mem_of_getElem? (i := 9) rfl))) (mvT hZ (hw _ (List.mem_of_getElem? (i := 8) rfl))) (by decide) (backOf (W := 0) (rm_clean1 l Z a0 hw [] sw0 sw1 sw2 sw3 sw4 sw5 sw6 wV kV h0 n0 (own_z0 O0) O0 S_sw0 S_sw1 S_sw2 S_sw3 S_sw4 S_sw5 S_sw6 S_wV VV VE F_setUp_sw0 F_setUp_sw1 F_setUp_sw2 F_setUp_sw3 F_setUp_sw4 F_setUp_sw5 F_setUp_sw6 n20 n10 n21 E_sw0 E_sw1 E_sw2) hZ (hw _ (List.mem_of_getElem? (i := 10) rfl)) (hw _ (List.mem_of_getElem? (i := 2) rfl)) (by decide) (by decide)) q10a q10c (g := (mkF m 47 #[.val (.int p1), .val (.int (v_k p1)), .val (.ref sw1), .val (.ref sw5)] [(.ref sw1)])) rfl (by rw [hml]; rfl) (Steps.refl _) (argsL := []) (rest := []) (lenOf pd_gument_fixturesperargument_engine_Phase__70 rfl) rfl (by show 2 * 0 + _ ≤ _; exact Nat.le_of_eq rfl) (hb hby at_47) (fun _ _ => ⟨rfl, e9, (by decide : 0 + 1 ≤ _), (by decide : 0 + 7 ≤ _)⟩)
      dsimp only [Pt.U, Pt.locs, Pt.cells, Pt.slots] at X10 l10 y10 z10 st10 hQ10
      subst l10 y10 z10
      obtain ⟨rfl, N10q, K10⟩ := hQ10
      have N10 := Fr.app N0 N10q
      obtain ⟨fs, hr, hrun, hended, hW, hsame⟩ := X10.leave (v := some (.int (1 : Int32))) (fun h => by rw [Bd.returns] at h; cases h)
      refine ⟨_, _, pre6 _ ?_, hrun, hended, _, _, rfl, ?_, ⟨_, rfl⟩, hW, hsame.mono (by decide) (by decide)⟩
      · show Steps p.tables e below (s₁.setTop (mkF m 24 #[.val (.int p1), .val (.int (v_k p1)), .unset, .unset] [(.int (1 : Int32)), (.int (v_k p1))])) _
        refine XS.icmpNo X0.here hx rfl (hb hby at_24) rfl (teq g7).2 ?_
        show Steps p.tables e below (s₁.setTop (mkF m 27 #[.val (.int p1), .val (.int (v_k p1)), .unset, .unset] [])) _
        refine st8 _ ?_
        show Steps p.tables e below (T8.setTop (mkF m 30 #[.val (.int p1), .val (.int (v_k p1)), .unset, .unset] [(.ref sw1)])) _
        refine XS.astoreN X8.here hx rfl (hb hby at_30) rfl rfl (l' := #[.val (.int p1), .val (.int (v_k p1)), .val (.ref sw1), .unset]) rfl ?_
        show Steps p.tables e below (T8.setTop (mkF m 31 #[.val (.int p1), .val (.int (v_k p1)), .val (.ref sw1), .unset] [])) _
        refine st9 _ ?_
        show Steps p.tables e below (T9.setTop (mkF m 34 #[.val (.int p1), .val (.int (v_k p1)), .val (.ref sw1), .unset] [(.ref sw5)])) _
        refine XS.astoreN X9.here hx rfl (hb hby at_34) rfl rfl (l' := #[.val (.int p1), .val (.int (v_k p1)), .val (.ref sw1), .val (.ref sw5)]) rfl ?_
        show Steps p.tables e below (T9.setTop (mkF m 35 #[.val (.int p1), .val (.int (v_k p1)), .val (.ref sw1), .val (.ref sw5)] [])) _
        refine XS.goto X9.here hx rfl (pc0 := 35) (pc' := 46) rfl (hb hby at_35) (by decide) (by decide) ?_
        show Steps p.tables e below (T9.setTop (mkF m 46 #[.val (.int p1), .val (.int (v_k p1)), .val (.ref sw1), .val (.ref sw5)] [])) _
        refine XS.aloadN X9.here hx rfl (hb hby at_46) rfl rfl ?_
        show Steps p.tables e below (T9.setTop (mkF m 47 #[.val (.int p1), .val (.int (v_k p1)), .val (.ref sw1), .val (.ref sw5)] [(.ref sw1)])) _
        refine st10.trans ?_
        show Steps p.tables e below (T10.setTop (mkF m 50 #[.val (.int p1), .val (.int (v_k p1)), .val (.ref sw1), .val (.ref sw5)] [(.ref sw5)])) _
        refine XS.aloadN X10.here hx rfl (hb hby at_50) rfl rfl ?_
        show Steps p.tables e below (T10.setTop (mkF m 51 #[.val (.int p1), .val (.int (v_k p1)), .val (.ref sw1), .val (.ref sw5)] [(.ref sw5), (.ref sw5)])) _
        refine Jvm.RoadKit.acmp (g := (mkF m 51 #[.val (.int p1), .val (.int (v_k p1)), .val (.ref sw1), .val (.ref sw5)] [(.ref sw5), (.ref sw5)])) X10 hx rfl rfl rfl (pc0 := 51) (pc' := 54) (same := true) rfl (hb hby at_51) rfl (decide_eq_true rfl) (by decide) (by decide) ?_
        show Steps p.tables e below (T10.setTop (mkF m 54 #[.val (.int p1), .val (.int (v_k p1)), .val (.ref sw1), .val (.ref sw5)] [])) _
        refine XS.iconst X10.here hx rfl (hb hby at_54) ?_
        show Steps p.tables e below (T10.setTop (mkF m 55 #[.val (.int p1), .val (.int (v_k p1)), .val (.ref sw1), .val (.ref sw5)] [(.int (1 : Int32))])) _
        refine XS.goto X10.here hx rfl (pc0 := 55) (pc' := 59) rfl (hb hby at_55) (by decide) (by decide) ?_
        show Steps p.tables e below (T10.setTop (mkF m 59 #[.val (.int p1), .val (.int (v_k p1)), .val (.ref sw1), .val (.ref sw5)] [(.int (1 : Int32))])) _
        exact retN X10 hx (t := .boolean) Bd.returns (by simp) (hb hby at_59) hr
      · exact ⟨rfl, N10⟩
    · skip
      rw [if_neg g7] at hp
      obtain ⟨T11, X11, e11, st11⟩ := getS2 X0 hx hZ hown (host := "") (Or.inl (hw _ (List.mem_of_getElem? (i := 33) rfl))) Via.refl e0 (S_sw2.ext O0.2) (g := (mkF m 38 #[.val (.int p1), .val (.int (v_k p1)), .unset, .unset] [])) rfl (hb hby at_38)
      obtain ⟨T12, X12, e12, st12⟩ := getS2 X11 hx hZ hown (host := "") (Or.inl (hw _ (List.mem_of_getElem? (i := 34) rfl))) Via.refl e11 (S_sw4.ext O0.2) (g := (mkF m 42 #[.val (.int p1), .val (.int (v_k p1)), .val (.ref sw2), .unset] [])) rfl (hb hby at_42)
      obtain ⟨cq13, kq13, q13a, q13b, q13c⟩ := isOf hZ e12 (E_sw2.ext O0.2)
      obtain ⟨_, _, ⟨T13, L13, k13, n13⟩, -, X13, ⟨Lc13, hQ13, l13, y13, z13⟩, st13⟩ := X12.virtualBack hx (y := (⟨"com/example/fixtures_per_argument/fixturesperargument/engine/Phase", "getCleanup", "()Lcom/example/fixtures_per_argument/fixturesperargument/engine/Phase;"⟩ : MethodName)) (z := (⟨"com/example/fixtures_per_argument/fixturesperargument/engine/Phase", "getCleanup", "()Lcom/example/fixtures_per_argument/fixturesperargument/engine/Phase;"⟩ : MethodName)) hown (mvT hZ (hw _ (List.mem_of_getElem? (i := 6) rfl))) (mvT hZ (hw _ (List.mem_of_getElem? (i := 7) rfl))) (notFace_of_selects (args := #[]) (mvT hZ (hw _ (List.mem_of_getElem? (i := 9) rfl)))) (mvT hZ (hw _ (List.mem_of_getElem? (i := 9) rfl))) (mvT hZ (hw _ (List.mem_of_getElem? (i := 8) rfl))) (by decide) (backOf (W := 0) (rm_clean2 l Z a0 hw [] sw0 sw1 sw2 sw3 sw4 sw5 sw6 wV kV h0 n0 (own_z0 O0) O0 S_sw0 S_sw1 S_sw2 S_sw3 S_sw4 S_sw5 S_sw6 S_wV VV VE F_setUp_sw0 F_setUp_sw1 F_setUp_sw2 F_setUp_sw3 F_setUp_sw4 F_setUp_sw5 F_setUp_sw6 n20 n10 n21 E_sw0 E_sw1 E_sw2) hZ (hw _ (List.mem_of_getElem? (i := 10) rfl)) (hw _ (List.mem_of_getElem? (i := 2) rfl)) (by decide) (by decide)) q13a q13c (g := (mkF m 47 #[.val (.int p1), .val (.int (v_k p1)), .val (.ref sw2), .val (.ref sw4)] [(.ref sw2)])) rfl (by rw [hml]; rfl) (Steps.refl _) (argsL := []) (rest := []) (lenOf pd_gument_fixturesperargument_engine_Phase__70 rfl) rfl (by show 2 * 0 + _ ≤ _; exact Nat.le_of_eq rfl) (hb hby at_47) (fun _ _ => ⟨rfl, e12, (by decide : 0 + 1 ≤ _), (by decide : 0 + 7 ≤ _)⟩)
      dsimp only [Pt.U, Pt.locs, Pt.cells, Pt.slots] at X13 l13 y13 z13 st13 hQ13
      subst l13 y13 z13
      obtain ⟨rfl, N13q, K13⟩ := hQ13
      have N13 := Fr.app N0 N13q
      obtain ⟨fs, hr, hrun, hended, hW, hsame⟩ := X13.leave (v := some (.int (1 : Int32))) (fun h => by rw [Bd.returns] at h; cases h)
      refine ⟨_, _, pre6 _ ?_, hrun, hended, _, _, rfl, ?_, ⟨_, rfl⟩, hW, hsame.mono (by decide) (by decide)⟩
      · show Steps p.tables e below (s₁.setTop (mkF m 24 #[.val (.int p1), .val (.int (v_k p1)), .unset, .unset] [(.int (1 : Int32)), (.int (v_k p1))])) _
        refine XS.icmpYes X0.here hx rfl (pc0 := 24) (pc' := 38) rfl (hb hby at_24) rfl (feq g7).2 (by decide) (by decide) ?_
        show Steps p.tables e below (s₁.setTop (mkF m 38 #[.val (.int p1), .val (.int (v_k p1)), .unset, .unset] [])) _
        refine st11 _ ?_
        show Steps p.tables e below (T11.setTop (mkF m 41 #[.val (.int p1), .val (.int (v_k p1)), .unset, .unset] [(.ref sw2)])) _
        refine XS.astoreN X11.here hx rfl (hb hby at_41) rfl rfl (l' := #[.val (.int p1), .val (.int (v_k p1)), .val (.ref sw2), .unset]) rfl ?_
        show Steps p.tables e below (T11.setTop (mkF m 42 #[.val (.int p1), .val (.int (v_k p1)), .val (.ref sw2), .unset] [])) _
        refine st12 _ ?_
        show Steps p.tables e below (T12.setTop (mkF m 45 #[.val (.int p1), .val (.int (v_k p1)), .val (.ref sw2), .unset] [(.ref sw4)])) _
        refine XS.astoreN X12.here hx rfl (hb hby at_45) rfl rfl (l' := #[.val (.int p1), .val (.int (v_k p1)), .val (.ref sw2), .val (.ref sw4)]) rfl ?_
        show Steps p.tables e below (T12.setTop (mkF m 46 #[.val (.int p1), .val (.int (v_k p1)), .val (.ref sw2), .val (.ref sw4)] [])) _
        refine XS.aloadN X12.here hx rfl (hb hby at_46) rfl rfl ?_
        show Steps p.tables e below (T12.setTop (mkF m 47 #[.val (.int p1), .val (.int (v_k p1)), .val (.ref sw2), .val (.ref sw4)] [(.ref sw2)])) _
        refine st13.trans ?_
        show Steps p.tables e below (T13.setTop (mkF m 50 #[.val (.int p1), .val (.int (v_k p1)), .val (.ref sw2), .val (.ref sw4)] [(.ref sw4)])) _
        refine XS.aloadN X13.here hx rfl (hb hby at_50) rfl rfl ?_
        show Steps p.tables e below (T13.setTop (mkF m 51 #[.val (.int p1), .val (.int (v_k p1)), .val (.ref sw2), .val (.ref sw4)] [(.ref sw4), (.ref sw4)])) _
        refine Jvm.RoadKit.acmp (g := (mkF m 51 #[.val (.int p1), .val (.int (v_k p1)), .val (.ref sw2), .val (.ref sw4)] [(.ref sw4), (.ref sw4)])) X13 hx rfl rfl rfl (pc0 := 51) (pc' := 54) (same := true) rfl (hb hby at_51) rfl (decide_eq_true rfl) (by decide) (by decide) ?_
        show Steps p.tables e below (T13.setTop (mkF m 54 #[.val (.int p1), .val (.int (v_k p1)), .val (.ref sw2), .val (.ref sw4)] [])) _
        refine XS.iconst X13.here hx rfl (hb hby at_54) ?_
        show Steps p.tables e below (T13.setTop (mkF m 55 #[.val (.int p1), .val (.int (v_k p1)), .val (.ref sw2), .val (.ref sw4)] [(.int (1 : Int32))])) _
        refine XS.goto X13.here hx rfl (pc0 := 55) (pc' := 59) rfl (hb hby at_55) (by decide) (by decide) ?_
        show Steps p.tables e below (T13.setTop (mkF m 59 #[.val (.int p1), .val (.int (v_k p1)), .val (.ref sw2), .val (.ref sw4)] [(.int (1 : Int32))])) _
        exact retN X13 hx (t := .boolean) Bd.returns (by simp) (hb hby at_59) hr
      · exact ⟨rfl, N13⟩
theorem own_plain {p1 : Int32} : lawP p1 := by unfold lawP; split <;> (try split) <;> trivial
set_option maxRecDepth 65536 in
set_option maxHeartbeats 40000000 in
theorem comes_1 {Post : Tables → Env → Array Value → State → Outcome → State → Prop} (hpost : ∀ tb e args s v u, (limb_1_1.after args s (.returned v) u = true ∧ limb_1_2.after args s (.returned v) u = true ∧ True) → FrameEnd s (.returned v) u (Jvm.fieldLocs frame_1_writes args s ++ Jvm.arrayLocs frame_1_arrays args s ++ Jvm.staticLocs frame_1_statics s) 16 128 → Post tb e args s (.returned v) u) :
    ArmFor flags0 classFile x code maxLocals ret World_1 tables_1 room_1 Calls_1 rest_1 Pre_1 Post := by
  intro l hfl _ _ p e ha hc hk s m args below hf hA hF happ hP
  obtain ⟨hcalls, hrest, hpre⟩ := hP
  obtain ⟨-, -, -, hnamed, -, -, -, hat⟩ := (Spec.applies_iff hf).mp happ
  obtain ⟨hg, hn⟩ := and_e (Cond.before_iff.mp (show (Jvm.Cond.and given_1 narrow_1).before args s = true from hpre))
  obtain ⟨gv0, gr0⟩ := and_e hg
  obtain ⟨w0, rfl⟩ : ∃ w0 : Value, args = #[w0] := by
    have hs : args.size = 1 := by simpa [Cond.value, given_1] using gv0
    obtain ⟨L⟩ := args
    match L, hs with
    | [w0], _ => exact ⟨w0, rfl⟩
  have hw := fun d (hd : d ∈ tables_1) => atoms_spec (ws := Jvm.Cond.code x code maxLocals ret :: tables_1) hat d (List.mem_cons_of_mem _ hd)
  obtain ⟨i0, ei0⟩ := is_v gr0
  obtain rfl : w0 = (.int i0) := Option.some.inj ei0
  obtain ⟨nv0, nr0⟩ := and_e hn
  obtain ⟨nv1, nr1⟩ := and_e nr0
  obtain ⟨nv2, nr2⟩ := and_e nr1
  obtain ⟨nv3, nr3⟩ := and_e nr2
  obtain ⟨nv4, nr4⟩ := and_e nr3
  obtain ⟨nv5, nr5⟩ := and_e nr4
  obtain ⟨nv6, nr6⟩ := and_e nr5
  obtain ⟨nv7, nr7⟩ := and_e nr6
  obtain ⟨nv8, nr8⟩ := and_e nr7
  obtain ⟨nv9, nr9⟩ := and_e nr8
  obtain ⟨nv10, nr10⟩ := and_e nr9
  obtain ⟨nv11, nr11⟩ := and_e nr10
  obtain ⟨nv12, nr12⟩ := and_e nr11
  obtain ⟨nv13, nr13⟩ := and_e nr12
  obtain ⟨nv14, nr14⟩ := and_e nr13
  obtain ⟨nv15, nr15⟩ := and_e nr14
  obtain ⟨nv16, nr16⟩ := and_e nr15
  obtain ⟨nv17, nr17⟩ := and_e nr16
  obtain ⟨nv18, nr18⟩ := and_e nr17
  obtain ⟨nv19, nr19⟩ := and_e nr18
  obtain ⟨nv20, nr20⟩ := and_e nr19
  obtain ⟨nv21, nr21⟩ := and_e nr20
  obtain ⟨nv22, nr22⟩ := and_e nr21
  obtain ⟨nv23, nr23⟩ := and_e nr22
  obtain ⟨nv24, nr24⟩ := and_e nr23
  obtain ⟨nv25, nr25⟩ := and_e nr24
  obtain ⟨sw0, ev_sw0⟩ := exa_v nv0
  have S_sw0 : Sta s s.heap "com/example/fixtures_per_argument/fixturesperargument/engine/Phase" "PREPARE" "Lcom/example/fixtures_per_argument/fixturesperargument/engine/Phase;" (.ref sw0) := Sta.start ev_sw0 (Or.inr ⟨(hw _ (List.mem_of_getElem? (i := 2) rfl)), (hw _ (List.mem_of_getElem? (i := 3) rfl))⟩)
  have E_sw0 : Exa s s.heap sw0 "com/example/fixtures_per_argument/fixturesperargument/engine/Phase" := Exa.start ev_sw0 nv0
  obtain ⟨sw6, ev_sw6⟩ := exa_v nv1
  have S_sw6 : Sta s s.heap "com/example/fixtures_per_argument/fixturesperargument/engine/Phase" "CONCLUDE" "Lcom/example/fixtures_per_argument/fixturesperargument/engine/Phase;" (.ref sw6) := Sta.start ev_sw6 (Or.inr ⟨(hw _ (List.mem_of_getElem? (i := 2) rfl)), (hw _ (List.mem_of_getElem? (i := 5) rfl))⟩)
  have E_sw6 : Exa s s.heap sw6 "com/example/fixtures_per_argument/fixturesperargument/engine/Phase" := Exa.start ev_sw6 nv1
  -- nv2 says: (Jvm.Cond.arrayOf (Jvm.Term.static "com/example/fixtures_per_argument/fixturesperargument/engine/Phase" "$VALUES" "[Lcom/example/fixtures_per_argument
  -- nv3 says: (Jvm.Cond.exactly (Jvm.Term.static "com/example/fixtures_per_argument/fixturesperargument/engine/Phase" "$VALUES" "[Lcom/example/fixtures_per_argument
  -- nv4 says: (Jvm.Cond.eq (Jvm.Term.length (Jvm.Term.static "com/example/fixtures_per_argument/fixturesperargument/engine/Phase" "$VALUES" "[Lcom/example/fixtures_
  -- nv5 says: (Jvm.Cond.eq (Jvm.Term.elem (Jvm.Term.static "com/example/fixtures_per_argument/fixturesperargument/engine/Phase" "$VALUES" "[Lcom/example/fixtures_pe
  obtain ⟨sw1, ev_sw1⟩ := exa_v nv6
  have S_sw1 : Sta s s.heap "com/example/fixtures_per_argument/fixturesperargument/engine/Phase" "BEFORE_ALL" "Lcom/example/fixtures_per_argument/fixturesperargument/engine/Phase;" (.ref sw1) := Sta.start ev_sw1 (Or.inr ⟨(hw _ (List.mem_of_getElem? (i := 2) rfl)), (hw _ (List.mem_of_getElem? (i := 23) rfl))⟩)
  have E_sw1 : Exa s s.heap sw1 "com/example/fixtures_per_argument/fixturesperargument/engine/Phase" := Exa.start ev_sw1 nv6
  -- nv7 says: (Jvm.Cond.eq (Jvm.Term.elem (Jvm.Term.static "com/example/fixtures_per_argument/fixturesperargument/engine/Phase" "$VALUES" "[Lcom/example/fixtures_pe
  obtain ⟨sw2, ev_sw2⟩ := exa_v nv8
  have S_sw2 : Sta s s.heap "com/example/fixtures_per_argument/fixturesperargument/engine/Phase" "BEFORE_EACH" "Lcom/example/fixtures_per_argument/fixturesperargument/engine/Phase;" (.ref sw2) := Sta.start ev_sw2 (Or.inr ⟨(hw _ (List.mem_of_getElem? (i := 2) rfl)), (hw _ (List.mem_of_getElem? (i := 24) rfl))⟩)
  have E_sw2 : Exa s s.heap sw2 "com/example/fixtures_per_argument/fixturesperargument/engine/Phase" := Exa.start ev_sw2 nv8
  -- nv9 says: (Jvm.Cond.eq (Jvm.Term.elem (Jvm.Term.static "com/example/fixtures_per_argument/fixturesperargument/engine/Phase" "$VALUES" "[Lcom/example/fixtures_pe
  obtain ⟨sw3, ev_sw3⟩ := exa_v nv10
  have S_sw3 : Sta s s.heap "com/example/fixtures_per_argument/fixturesperargument/engine/Phase" "TEST" "Lcom/example/fixtures_per_argument/fixturesperargument/engine/Phase;" (.ref sw3) := Sta.start ev_sw3 (Or.inr ⟨(hw _ (List.mem_of_getElem? (i := 2) rfl)), (hw _ (List.mem_of_getElem? (i := 25) rfl))⟩)
  have E_sw3 : Exa s s.heap sw3 "com/example/fixtures_per_argument/fixturesperargument/engine/Phase" := Exa.start ev_sw3 nv10
  -- nv11 says: (Jvm.Cond.eq (Jvm.Term.elem (Jvm.Term.static "com/example/fixtures_per_argument/fixturesperargument/engine/Phase" "$VALUES" "[Lcom/example/fixtures_pe
  obtain ⟨sw4, ev_sw4⟩ := exa_v nv12
  have S_sw4 : Sta s s.heap "com/example/fixtures_per_argument/fixturesperargument/engine/Phase" "AFTER_EACH" "Lcom/example/fixtures_per_argument/fixturesperargument/engine/Phase;" (.ref sw4) := Sta.start ev_sw4 (Or.inr ⟨(hw _ (List.mem_of_getElem? (i := 2) rfl)), (hw _ (List.mem_of_getElem? (i := 26) rfl))⟩)
  have E_sw4 : Exa s s.heap sw4 "com/example/fixtures_per_argument/fixturesperargument/engine/Phase" := Exa.start ev_sw4 nv12
  -- nv13 says: (Jvm.Cond.eq (Jvm.Term.elem (Jvm.Term.static "com/example/fixtures_per_argument/fixturesperargument/engine/Phase" "$VALUES" "[Lcom/example/fixtures_pe
  obtain ⟨sw5, ev_sw5⟩ := exa_v nv14
  have S_sw5 : Sta s s.heap "com/example/fixtures_per_argument/fixturesperargument/engine/Phase" "AFTER_ALL" "Lcom/example/fixtures_per_argument/fixturesperargument/engine/Phase;" (.ref sw5) := Sta.start ev_sw5 (Or.inr ⟨(hw _ (List.mem_of_getElem? (i := 2) rfl)), (hw _ (List.mem_of_getElem? (i := 27) rfl))⟩)
  have E_sw5 : Exa s s.heap sw5 "com/example/fixtures_per_argument/fixturesperargument/engine/Phase" := Exa.start ev_sw5 nv14
  -- nv15 says: (Jvm.Cond.eq (Jvm.Term.elem (Jvm.Term.static "com/example/fixtures_per_argument/fixturesperargument/engine/Phase" "$VALUES" "[Lcom/example/fixtures_pe
  -- nv16 says: (Jvm.Cond.eq (Jvm.Term.elem (Jvm.Term.static "com/example/fixtures_per_argument/fixturesperargument/engine/Phase" "$VALUES" "[Lcom/example/fixtures_pe
  have F_setUp_sw0 : Fld s s.heap sw0 "com/example/fixtures_per_argument/fixturesperargument/engine/Phase" "setUp" "Lcom/example/fixtures_per_argument/fixturesperargument/engine/Phase;" .null := own_fld ev_sw0 nv17 rfl
  have F_setUp_sw1 : Fld s s.heap sw1 "com/example/fixtures_per_argument/fixturesperargument/engine/Phase" "setUp" "Lcom/example/fixtures_per_argument/fixturesperargument/engine/Phase;" .null := own_fld ev_sw1 nv18 rfl
  have F_setUp_sw2 : Fld s s.heap sw2 "com/example/fixtures_per_argument/fixturesperargument/engine/Phase" "setUp" "Lcom/example/fixtures_per_argument/fixturesperargument/engine/Phase;" .null := own_fld ev_sw2 nv19 rfl
  have F_setUp_sw3 : Fld s s.heap sw3 "com/example/fixtures_per_argument/fixturesperargument/engine/Phase" "setUp" "Lcom/example/fixtures_per_argument/fixturesperargument/engine/Phase;" .null := own_fld ev_sw3 nv20 rfl
  have F_setUp_sw4 : Fld s s.heap sw4 "com/example/fixtures_per_argument/fixturesperargument/engine/Phase" "setUp" "Lcom/example/fixtures_per_argument/fixturesperargument/engine/Phase;" (.ref sw2) := own_fld ev_sw4 nv21 ev_sw2
  have F_ordinal_sw2 : Fld s s.heap sw2 "java/lang/Enum" "ordinal" "I" (.int (2 : Int32)) := own_fld ev_sw2 nv22 (Term.int_eval (2))
  have F_ordinal_sw0 : Fld s s.heap sw0 "java/lang/Enum" "ordinal" "I" (.int (0 : Int32)) := own_fld ev_sw0 nv23 (Term.int_eval (0))
  have F_setUp_sw5 : Fld s s.heap sw5 "com/example/fixtures_per_argument/fixturesperargument/engine/Phase" "setUp" "Lcom/example/fixtures_per_argument/fixturesperargument/engine/Phase;" (.ref sw1) := own_fld ev_sw5 nv24 ev_sw1
  have F_ordinal_sw1 : Fld s s.heap sw1 "java/lang/Enum" "ordinal" "I" (.int (1 : Int32)) := own_fld ev_sw1 nv25 (Term.int_eval (1))
  have F_setUp_sw6 : Fld s s.heap sw6 "com/example/fixtures_per_argument/fixturesperargument/engine/Phase" "setUp" "Lcom/example/fixtures_per_argument/fixturesperargument/engine/Phase;" (.ref sw0) := own_fld ev_sw6 nr25 ev_sw0
  have O0 := Old.start s
  obtain ⟨wV, ev_V⟩ := exa_v nv3
  have S_wV : Sta s s.heap "com/example/fixtures_per_argument/fixturesperargument/engine/Phase" "$VALUES" "[Lcom/example/fixtures_per_argument/fixturesperargument/engine/Phase;" (.ref wV) := Sta.start ev_V (Or.inl (hw _ (List.mem_of_getElem? (i := 28) rfl)))
  have VE : Exa s s.heap wV "[Lcom/example/fixtures_per_argument/fixturesperargument/engine/Phase;" := Exa.start ev_V nv3
  obtain ⟨clV, AV⟩ := Arr.start ev_V nv2
  obtain ⟨l3, l4⟩ := own_len ev_V (AV.fin (Vm.Alike.refl _)) (eqv_i (Term.int_eval (7)) nv4)
  have hfit : Fit s := fun {y c} hc i hi => by
    obtain ⟨ha, rfl⟩ := Array.getElem?_eq_some_iff.mp hc
    have q := List.all_eq_true.mp ((Array.all_eq_true_iff_forall_mem.mp hF) _ (Array.getElem_mem ha)) i (List.mem_range.mpr hi)
    simpa [Array.getElem?_eq_getElem hi] using q
  have VV : Arv s s.heap wV clV.cls (.object "com/example/fixtures_per_argument/fixturesperargument/engine/Phase") (7 : Int32) [(.ref sw0), (.ref sw1), (.ref sw2), (.ref sw3), (.ref sw4), (.ref sw5), (.ref sw6)] .null := Arv.start hfit AV l3 l4 (by decide) rfl ⟨own_el nv5 ev_V AV.1 ev_sw0, own_el nv7 ev_V AV.1 ev_sw1, own_el nv9 ev_V AV.1 ev_sw2, own_el nv11 ev_V AV.1 ev_sw3, own_el nv13 ev_V AV.1 ev_sw4, own_el nv15 ev_V AV.1 ev_sw5, own_el nv16 ev_V AV.1 ev_sw6, trivial⟩
  have n20 : ¬ (sw2 = sw0) := Fld.ne F_ordinal_sw2 F_ordinal_sw0 (by simp)
  have n10 : ¬ (sw1 = sw0) := Fld.ne F_ordinal_sw1 F_ordinal_sw0 (by simp)
  have n21 : ¬ (sw2 = sw1) := Fld.ne F_ordinal_sw2 F_ordinal_sw1 (by simp)
  obtain ⟨n, o, h1, h2, h3, _, L, rfl, ⟨rfl, N⟩, hq⟩ := rm_law l s _ hw tables_1 sw0 sw1 sw2 sw3 sw4 sw5 sw6 wV clV.cls i0 s.heap s.heap.size (Nat.le_refl _) O0 S_sw0 S_sw1 S_sw2 S_sw3 S_sw4 S_sw5 S_sw6 S_wV VV VE F_setUp_sw0 F_setUp_sw1 F_setUp_sw2 F_setUp_sw3 F_setUp_sw4 F_setUp_sw5 F_setUp_sw6 n20 n10 n21 E_sw0 E_sw1 E_sw2 own_plain p e ha hc hk s m _ below hf ((Spec.applies_iff_loose hf).mp happ).1 ⟨rfl, State.Warmed39.refl s, rfl⟩ trivial
  exact ⟨n, _, h1, h2, h3, hpost _ _ _ _ _ _ ⟨Cond.after_iff.mpr rfl, Cond.after_iff.mpr (eq_i res_at (Term.int_eval (1)) rfl), trivial⟩ ⟨hq.1, hq.2.1, (hq.2.2.sift fun y hy => Or.inr (N y hy)).mono (by decide) (by decide)⟩⟩
theorem main_1_1 : Claimed_1_1 := comes_1 fun _ _ _ _ _ _ h hF => ⟨h.1, hF⟩
theorem main_1_2 : Claimed_1_2 := comes_1 fun _ _ _ _ _ _ h hF => ⟨h.2.1, hF⟩

end Jvm.Pilot.@@N@@
namespace Jvm.Pilot.@@N@@
open Jvm Jvm.ClassFile Sem Op Lib Jvm.Free Jvm.Stand Jvm.Pilot.@@N@@.Jvm.D
/-! MADE BY PROGRAM (witnessworld.py) out of the Statement's table words and the real class files: 13 classes; the members and pool entries that the words name. The judged class is class 1, her method 1. -/
namespace start1
open Jvm.ClassFile
def u (s : String) : CpInfo := .utf8 (stringToUtf16 s)
/-- a pool by its gaps: so many unusable entries, then the entry; so many at the end -/
def gap : Nat → List CpInfo → List CpInfo
  | 0, r => r
  | n + 1, r => .unusable :: gap n r
def poolList (es : List (Nat × CpInfo)) (last : Nat) : List CpInfo := es.foldr (fun e r => gap e.1 (e.2 :: r)) (gap last [])
def pool (es : List (Nat × CpInfo)) (last : Nat) : Array CpInfo := ⟨poolList es last⟩
def fileOf (pool : Array CpInfo) (this : Nat) (attrs : Array Attribute := #[]) (ms : Array MethodInfo := #[]) (fl : Nat := 33) (sup : Nat := 0) (ifs : Array Nat := #[]) (fds : Array FieldInfo := #[]) : ClassFile where
  minorVersion := 0
  majorVersion := 65
  constantPool := pool
  accessFlags := fl
  thisClass := this
  superClass := sup
  interfaces := ifs
  fields := fds
  methods := ms
  attributes := attrs
def plain (name : String) (sup : Option ClassId) : Class where
  name := name
  kind := .ordinary
  loader := none
  accessFlags := 33
  super := sup
  interfaces := #[]
  cf := none
  fields := #[]
  methods := #[]
  instanceTypes := #[]
  staticTypes := #[]
  resolved := #[]
  callSites := []
  init := .initialized
  statics := none
  mirror := none

def pool0 : Array CpInfo := pool [(5, u "<init>"), (0, u "()V"), (1, .class_ 10), (1, u "java/lang/Object"), (85, u "clone"), (0, u "()Ljava/lang/Object;")] 26

def k0m0 : Method := { name := "<init>", desc := "()V", sig := { parameters := [], returnType := none }, accessFlags := 1, code := none }
def k0m1 : Method := { name := "clone", desc := "()Ljava/lang/Object;", sig := { parameters := [], returnType := some (.object "java/lang/Object") }, accessFlags := 260, code := none }
/-- java/lang/Object -/
def k0 : Class := { plain "java/lang/Object" none with
  accessFlags := 33
  interfaces := #[]
  cf := some (fileOf pool0 8 #[] #[{ accessFlags := 1, nameIndex := 5, descriptorIndex := 6, attributes := #[] }, { accessFlags := 260, nameIndex := 96, descriptorIndex := 97, attributes := #[] }] 33 0 #[] #[])
  fields := #[]
  methods := #[k0m0, k0m1]
  instanceTypes := #[]
  staticTypes := #[]
  resolved := Array.replicate 124 none
  statics := none }

def pool1 : Array CpInfo := pool [(2, .class_ 4), (1, u "java/lang/Object"), (0, u "<init>"), (0, u "()V"), (0, .integer 2147483647), (0, .fieldref 9 10), (0, .class_ 11), (0, .nameAndType 12 13), (0, u "com/example/fixtures_per_argument/fixturesperargument/engine/Phase"), (0, u "PREPARE"), (0, u "Lcom/example/fixtures_per_argument/fixturesperargument/engine/Phase;"), (0, .fieldref 9 15), (0, .nameAndType 16 13), (0, u "CONCLUDE"), (0, .fieldref 9 18), (0, .nameAndType 19 13), (0, u "BEFORE_ALL"), (0, .fieldref 9 21), (0, .nameAndType 22 13), (0, u "AFTER_ALL"), (0, .fieldref 9 24), (0, .nameAndType 25 13), (0, u "BEFORE_EACH"), (0, .fieldref 9 27), (0, .nameAndType 28 13), (0, u "AFTER_EACH"), (0, .methodref 9 30), (0, .nameAndType 31 32), (0, u "getCleanup"), (0, u "()Lcom/example/fixtures_per_argument/fixturesperargument/engine/Phase;"), (0, .class_ 34), (0, u "com/example/fixtures_per_argument/fixturesperargument/engine/PhaseGetCleanupPinLaw"), (2, u "law"), (0, u "(I)Z")] 3

def k1m0 : Method := { name := "<init>", desc := "()V", sig := { parameters := [], returnType := none }, accessFlags := 2, code := none }
def k1c1 : Code := { maxStack := 2, maxLocals := 4, code := code, exceptionTable := #[], attributes := #[] }
def k1m1 : Method := { name := "law", desc := "(I)Z", sig := { parameters := [.int], returnType := some .boolean }, accessFlags := 9, code := some k1c1 }
/-- com/example/fixtures_per_argument/fixturesperargument/engine/PhaseGetCleanupPinLaw -/
def k1 : Class := { plain "com/example/fixtures_per_argument/fixturesperargument/engine/PhaseGetCleanupPinLaw" (some 0) with
  accessFlags := 49
  interfaces := #[]
  cf := some (fileOf pool1 33 #[] #[{ accessFlags := 2, nameIndex := 5, descriptorIndex := 6, attributes := #[] }, { accessFlags := 9, nameIndex := 37, descriptorIndex := 38, attributes := #[] }] 49 2 #[] #[])
  fields := #[]
  methods := #[k1m0, k1m1]
  instanceTypes := #[]
  staticTypes := #[]
  resolved := Array.replicate 42 none
  statics := none }

def pool2 : Array CpInfo := pool [(1, .class_ 2), (0, u "java/lang/constant/Constable"), (0, .class_ 4), (0, u "java/lang/Object")] 6

/-- java/lang/constant/Constable -/
def k2 : Class := { plain "java/lang/constant/Constable" (some 0) with
  accessFlags := 1537
  interfaces := #[]
  cf := some (fileOf pool2 1 #[] #[] 1537 3 #[] #[])
  fields := #[]
  methods := #[]
  instanceTypes := #[]
  staticTypes := #[]
  resolved := Array.replicate 11 none
  statics := none }

def pool3 : Array CpInfo := pool [(1, .class_ 2), (0, u "java/lang/Comparable"), (0, .class_ 4), (0, u "java/lang/Object")] 7

/-- java/lang/Comparable -/
def k3 : Class := { plain "java/lang/Comparable" (some 0) with
  accessFlags := 1537
  interfaces := #[]
  cf := some (fileOf pool3 1 #[] #[] 1537 3 #[] #[])
  fields := #[]
  methods := #[]
  instanceTypes := #[]
  staticTypes := #[]
  resolved := Array.replicate 12 none
  statics := none }

def pool4 : Array CpInfo := pool [(1, .class_ 2), (0, u "java/io/Serializable"), (0, .class_ 4), (0, u "java/lang/Object")] 2

/-- java/io/Serializable -/
def k4 : Class := { plain "java/io/Serializable" (some 0) with
  accessFlags := 1537
  interfaces := #[]
  cf := some (fileOf pool4 1 #[] #[] 1537 3 #[] #[])
  fields := #[]
  methods := #[]
  instanceTypes := #[]
  staticTypes := #[]
  resolved := Array.replicate 7 none
  statics := none }

def pool5 : Array CpInfo := pool [(2, .class_ 4), (1, u "java/lang/Enum"), (0, u "name"), (0, u "Ljava/lang/String;"), (2, u "ordinal"), (0, u "I"), (1, .class_ 14), (1, u "java/lang/Object"), (4, u "hash"), (86, .class_ 108), (1, u "java/lang/Enum$EnumDesc"), (2, .class_ 112), (0, u "java/lang/constant/Constable"), (0, .class_ 114), (0, u "java/lang/Comparable"), (0, .class_ 116), (0, u "java/io/Serializable")] 87

/-- java/lang/Enum -/
def k5 : Class := { plain "java/lang/Enum" (some 0) with
  accessFlags := 1057
  interfaces := #[2, 3, 4]
  cf := some (fileOf pool5 2 #[.nestMembers #[106]] #[] 1057 12 #[111, 113, 115] #[{ accessFlags := 18, nameIndex := 5, descriptorIndex := 6, attributes := #[] }, { accessFlags := 18, nameIndex := 9, descriptorIndex := 10, attributes := #[] }, { accessFlags := 2, nameIndex := 19, descriptorIndex := 10, attributes := #[] }])
  fields := #[{ name := "name", type := (.object "java/lang/String"), accessFlags := 18, slot := 0, constantValue := 0 }, { name := "ordinal", type := .int, accessFlags := 18, slot := 1, constantValue := 0 }, { name := "hash", type := .int, accessFlags := 2, slot := 2, constantValue := 0 }]
  methods := #[]
  instanceTypes := #[(.object "java/lang/String"), .int, .int]
  staticTypes := #[]
  resolved := Array.replicate 204 none
  statics := none }

def pool6 : Array CpInfo := pool [(1, .class_ 2), (0, u "com/example/fixtures_per_argument/fixturesperargument/engine/Phase"), (2, u "PREPARE"), (0, u "Lcom/example/fixtures_per_argument/fixturesperargument/engine/Phase;"), (2, u "BEFORE_ALL"), (2, u "BEFORE_EACH"), (2, u "TEST"), (2, u "AFTER_EACH"), (2, u "AFTER_ALL"), (2, u "CONCLUDE"), (0, .fieldref 1 26), (0, .nameAndType 27 28), (0, u "$VALUES"), (0, u "[Lcom/example/fixtures_per_argument/fixturesperargument/engine/Phase;"), (0, .methodref 30 31), (0, .class_ 28), (0, .nameAndType 32 33), (0, u "clone"), (0, u "()Ljava/lang/Object;"), (1, .class_ 37), (1, u "java/lang/Enum"), (8, u "onwhat"), (0, u "Ljava/lang/Class;"), (2, u "perArgument"), (0, u "Z"), (0, .fieldref 1 53), (0, .nameAndType 54 6), (0, u "setUp"), (0, .methodref 1 56), (0, .nameAndType 57 58), (0, u "values"), (0, u "()[Lcom/example/fixtures_per_argument/fixturesperargument/engine/Phase;"), (60, u "getCleanup"), (0, u "()Lcom/example/fixtures_per_argument/fixturesperargument/engine/Phase;")] 31

def k6c0 : Code := { maxStack := 1, maxLocals := 0, code := prog_26_method_1_code, exceptionTable := #[], attributes := #[] }
def k6m0 : Method := { name := "values", desc := "()[Lcom/example/fixtures_per_argument/fixturesperargument/engine/Phase;", sig := { parameters := [], returnType := some (.array (.object "com/example/fixtures_per_argument/fixturesperargument/engine/Phase")) }, accessFlags := 9, code := some k6c0 }
def k6c1 : Code := { maxStack := 3, maxLocals := 5, code := prog_26_method_7_code, exceptionTable := #[], attributes := #[] }
def k6m1 : Method := { name := "getCleanup", desc := "()Lcom/example/fixtures_per_argument/fixturesperargument/engine/Phase;", sig := { parameters := [], returnType := some (.object "com/example/fixtures_per_argument/fixturesperargument/engine/Phase") }, accessFlags := 0, code := some k6c1 }
/-- com/example/fixtures_per_argument/fixturesperargument/engine/Phase -/
def k6 : Class := { plain "com/example/fixtures_per_argument/fixturesperargument/engine/Phase" (some 5) with
  accessFlags := 16432
  interfaces := #[]
  cf := some (fileOf pool6 1 #[] #[{ accessFlags := 9, nameIndex := 57, descriptorIndex := 58, attributes := #[] }, { accessFlags := 0, nameIndex := 119, descriptorIndex := 120, attributes := #[] }] 16432 35 #[] #[{ accessFlags := 16409, nameIndex := 5, descriptorIndex := 6, attributes := #[] }, { accessFlags := 16409, nameIndex := 9, descriptorIndex := 6, attributes := #[] }, { accessFlags := 16409, nameIndex := 12, descriptorIndex := 6, attributes := #[] }, { accessFlags := 16409, nameIndex := 15, descriptorIndex := 6, attributes := #[] }, { accessFlags := 16409, nameIndex := 18, descriptorIndex := 6, attributes := #[] }, { accessFlags := 16409, nameIndex := 21, descriptorIndex := 6, attributes := #[] }, { accessFlags := 16409, nameIndex := 24, descriptorIndex := 6, attributes := #[] }, { accessFlags := 18, nameIndex := 46, descriptorIndex := 47, attributes := #[] }, { accessFlags := 18, nameIndex := 50, descriptorIndex := 51, attributes := #[] }, { accessFlags := 18, nameIndex := 54, descriptorIndex := 6, attributes := #[] }, { accessFlags := 4122, nameIndex := 27, descriptorIndex := 28, attributes := #[] }])
  fields := #[{ name := "PREPARE", type := (.object "com/example/fixtures_per_argument/fixturesperargument/engine/Phase"), accessFlags := 16409, slot := 0, constantValue := 0 }, { name := "BEFORE_ALL", type := (.object "com/example/fixtures_per_argument/fixturesperargument/engine/Phase"), accessFlags := 16409, slot := 1, constantValue := 0 }, { name := "BEFORE_EACH", type := (.object "com/example/fixtures_per_argument/fixturesperargument/engine/Phase"), accessFlags := 16409, slot := 2, constantValue := 0 }, { name := "TEST", type := (.object "com/example/fixtures_per_argument/fixturesperargument/engine/Phase"), accessFlags := 16409, slot := 3, constantValue := 0 }, { name := "AFTER_EACH", type := (.object "com/example/fixtures_per_argument/fixturesperargument/engine/Phase"), accessFlags := 16409, slot := 4, constantValue := 0 }, { name := "AFTER_ALL", type := (.object "com/example/fixtures_per_argument/fixturesperargument/engine/Phase"), accessFlags := 16409, slot := 5, constantValue := 0 }, { name := "CONCLUDE", type := (.object "com/example/fixtures_per_argument/fixturesperargument/engine/Phase"), accessFlags := 16409, slot := 6, constantValue := 0 }, { name := "onwhat", type := (.object "java/lang/Class"), accessFlags := 18, slot := 3, constantValue := 0 }, { name := "perArgument", type := .boolean, accessFlags := 18, slot := 4, constantValue := 0 }, { name := "setUp", type := (.object "com/example/fixtures_per_argument/fixturesperargument/engine/Phase"), accessFlags := 18, slot := 5, constantValue := 0 }, { name := "$VALUES", type := (.array (.object "com/example/fixtures_per_argument/fixturesperargument/engine/Phase")), accessFlags := 4122, slot := 7, constantValue := 0 }]
  methods := #[k6m0, k6m1]
  instanceTypes := #[(.object "java/lang/String"), .int, .int, (.object "java/lang/Class"), .boolean, (.object "com/example/fixtures_per_argument/fixturesperargument/engine/Phase")]
  staticTypes := #[(.object "com/example/fixtures_per_argument/fixturesperargument/engine/Phase"), (.object "com/example/fixtures_per_argument/fixturesperargument/engine/Phase"), (.object "com/example/fixtures_per_argument/fixturesperargument/engine/Phase"), (.object "com/example/fixtures_per_argument/fixturesperargument/engine/Phase"), (.object "com/example/fixtures_per_argument/fixturesperargument/engine/Phase"), (.object "com/example/fixtures_per_argument/fixturesperargument/engine/Phase"), (.object "com/example/fixtures_per_argument/fixturesperargument/engine/Phase"), (.array (.object "com/example/fixtures_per_argument/fixturesperargument/engine/Phase"))]
  resolved := Array.replicate 152 none
  statics := some 0 }

def pool7 : Array CpInfo := pool [(1, .class_ 2), (0, u "java/lang/Cloneable"), (0, .class_ 4), (0, u "java/lang/Object")] 2

/-- java/lang/Cloneable -/
def k7 : Class := { plain "java/lang/Cloneable" (some 0) with
  accessFlags := 1537
  interfaces := #[]
  cf := some (fileOf pool7 1 #[] #[] 1537 3 #[] #[])
  fields := #[]
  methods := #[]
  instanceTypes := #[]
  staticTypes := #[]
  resolved := Array.replicate 7 none
  statics := none }

/-- the primitive byte -/
def k8 : Class := { plain "byte" none with kind := .primitive 'B', accessFlags := 0x411 }
/-- [B -/
def k9 : Class := { plain "[B" (some 0) with kind := .array 8 .byte, interfaces := #[7, 4], accessFlags := 1041 }

/-- the primitive int -/
def k10 : Class := { plain "int" none with kind := .primitive 'I', accessFlags := 0x411 }
/-- [I -/
def k11 : Class := { plain "[I" (some 0) with kind := .array 10 .int, interfaces := #[7, 4], accessFlags := 1041 }

/-- [Lcom/example/fixtures_per_argument/fixturesperargument/engine/Phase; -/
def k12 : Class := { plain "[Lcom/example/fixtures_per_argument/fixturesperargument/engine/Phase;" (some 0) with kind := .array 6 (.object "com/example/fixtures_per_argument/fixturesperargument/engine/Phase"), interfaces := #[7, 4], accessFlags := 1041 }

def heap : Heap := #[{ cls := 6, slots := #[.ref 2, .ref 3, .ref 4, .ref 5, .ref 6, .ref 7, .ref 8, .ref 1], vm := .statics 6 },
  { cls := 12, slots := #[.ref 2, .ref 3, .ref 4, .ref 5, .ref 6, .ref 7, .ref 8], vm := .none },
  { cls := 6, slots := #[.null, .int 0, .int 0, .null, .int 0, .null], vm := .none },
  { cls := 6, slots := #[.null, .int 1, .int 0, .null, .int 0, .null], vm := .none },
  { cls := 6, slots := #[.null, .int 2, .int 0, .null, .int 0, .null], vm := .none },
  { cls := 6, slots := #[.null, .int 3, .int 0, .null, .int 0, .null], vm := .none },
  { cls := 6, slots := #[.null, .int 4, .int 0, .null, .int 0, .ref 4], vm := .none },
  { cls := 6, slots := #[.null, .int 5, .int 0, .null, .int 0, .ref 3], vm := .none },
  { cls := 6, slots := #[.null, .int 6, .int 0, .null, .int 0, .ref 2], vm := .none }]
def classes : Array Class := #[k0, k1, k2, k3, k4, k5, k6, k7, k8, k9, k10, k11, k12]
def interned : List (Array UInt16 × Addr) := []
def slotsUsed : Nat := 57
def theMethod : MethodId := ⟨1, 1⟩
def args0 : Array Value := #[.int 5]
def aboutOver (below : List Frame) : State where
  vm := { classes := classes, interned := interned.toArray }
  heap := heap
  slotsUsed := slotsUsed
  threads := #[{ frames := .invoking theMethod args0 :: below }]
def below0 : List Frame := [.native { method := ⟨0, 0⟩, args := #[] }]
def about1 : State := aboutOver below0
def p0 : Program := .bare "" "" ""
def e0 : Env := launch0.env 0 0 0
theorem w_frames : about1.frames = Frame.invoking theMethod args0 :: below0 := rfl
set_option maxRecDepth 65536 in
theorem w_args : argsFit about1.vm theMethod args0 = true := by decide +kernel
set_option maxRecDepth 65536 in
theorem w_heap : heapFits about1 = true := by decide +kernel
set_option maxRecDepth 65536 in
theorem w_runnable : about1.curStatus? = some .runnable := by decide +kernel
set_option maxRecDepth 65536 in
theorem w_alone : about1.alone = true := by decide +kernel
set_option maxRecDepth 65536 in
theorem w_named : about1.methodNamed? x = some theMethod := by decide +kernel
set_option maxRecDepth 65536 in
theorem w_hears : about1.hears theMethod below0 = true := by decide +kernel
set_option maxRecDepth 65536 in
theorem w_ripe : about1.ripe theMethod args0 below0 = true := by decide +kernel
theorem w_running : about1.status = .running := rfl
set_option maxRecDepth 65536 in
theorem w_room : about1.hasRoom e0.platform room_1 = true :=
  launch0.hasRoom_least _ room_1 (by decide +kernel) (by decide +kernel) (by decide +kernel) (by decide +kernel) (by decide +kernel) (by decide +kernel)
theorem allAtoms_all (ts : List Jvm.Cond) (a : Array Jvm.Value) (st : Jvm.State) : (allAtoms ts).before a st = ts.all (fun c => c.before a st) := by
  induction ts with
  | nil => rfl
  | cons c t ih =>
    show (Jvm.Cond.and c (allAtoms t)).before a st = _
    rw [Jvm.Cond.before_and, ih, List.all_cons]
def words1 : List Jvm.Cond := Jvm.Cond.code x code maxLocals ret :: tables_1
/-- a 'code' word, met by the world's own term for the bytes: nothing is compared byte by byte -/
theorem code_word {y : MethodName} {bytes : ByteArray} {mx : Nat} {rt : Option FieldType} {a : Array Value} {s : State} {m : MethodId} {meth : Method} {c : Code} (h1 : s.methodNamed? y = some m) (h2 : s.vm.method? m = some meth) (h3 : meth.code = some c) (h4 : c.code = bytes)
    (h5 : (c.maxLocals == mx && c.exceptionTable.isEmpty && decide (c.maxStack ≤ mostOperands) && decide (meth.sig.returnType = rt) && !meth.locks && decide (parseMethodDescriptor y.desc = some meth.sig)) = true) : (Jvm.Cond.code y bytes mx rt).before a s = true := by
  simp only [Bool.and_eq_true, beq_iff_eq, Bool.not_eq_true', decide_eq_true_eq] at h5
  obtain ⟨⟨⟨⟨⟨g1, g2⟩, g3⟩, g4⟩, g5⟩, g6⟩ := h5
  simp [Cond.before, Cond.holds, Cond.value, h1, h2, h3, h4, g1, g2, g3, g4, g5, g6]
def isCode : Jvm.Cond → Bool
  | .code _ _ _ _ => true
  | _ => false
theorem all_split {L : List Jvm.Cond} {P : Jvm.Cond → Bool} (h1 : L.all (fun c => isCode c || P c) = true) (h2 : ∀ c ∈ L.filter isCode, P c = true) : L.all P = true := by
  refine List.all_eq_true.mpr fun c hc => ?_
  have h := List.all_eq_true.mp h1 c hc
  rcases Bool.eq_false_or_eq_true (isCode c) with hi | hi
  · exact h2 c (List.mem_filter.mpr ⟨hc, hi⟩)
  · simpa [hi] using h
set_option maxRecDepth 65536 in
theorem w_c0 : (Jvm.Cond.code x code maxLocals ret).before args0 about1 = true := code_word (m := ⟨1, 1⟩) (meth := k1m1) (c := k1c1) (by decide +kernel) rfl rfl rfl (by decide +kernel)
set_option maxRecDepth 65536 in
theorem w_c1 : (Jvm.Cond.code ({ cls := "com/example/fixtures_per_argument/fixturesperargument/engine/Phase", name := "getCleanup", desc := "()Lcom/example/fixtures_per_argument/fixturesperargument/engine/Phase;" } : Jvm.MethodName) prog_26_method_7_code (5 : Nat) (Option.some (Jvm.ClassFile.FieldType.object "com/example/fixtures_per_argument/fixturesperargument/engine/Phase"))).before args0 about1 = true := code_word (m := ⟨6, 1⟩) (meth := k6m1) (c := k6c1) (by decide +kernel) rfl rfl rfl (by decide +kernel)
set_option maxRecDepth 65536 in
theorem w_c2 : (Jvm.Cond.code ({ cls := "com/example/fixtures_per_argument/fixturesperargument/engine/Phase", name := "values", desc := "()[Lcom/example/fixtures_per_argument/fixturesperargument/engine/Phase;" } : Jvm.MethodName) prog_26_method_1_code (0 : Nat) (Option.some (Jvm.ClassFile.FieldType.array (Jvm.ClassFile.FieldType.object "com/example/fixtures_per_argument/fixturesperargument/engine/Phase")))).before args0 about1 = true := code_word (m := ⟨6, 0⟩) (meth := k6m0) (c := k6c0) (by decide +kernel) rfl rfl rfl (by decide +kernel)
def codes1 : List Jvm.Cond := [Jvm.Cond.code x code maxLocals ret, Jvm.Cond.code ({ cls := "com/example/fixtures_per_argument/fixturesperargument/engine/Phase", name := "getCleanup", desc := "()Lcom/example/fixtures_per_argument/fixturesperargument/engine/Phase;" } : Jvm.MethodName) prog_26_method_7_code (5 : Nat) (Option.some (Jvm.ClassFile.FieldType.object "com/example/fixtures_per_argument/fixturesperargument/engine/Phase")), Jvm.Cond.code ({ cls := "com/example/fixtures_per_argument/fixturesperargument/engine/Phase", name := "values", desc := "()[Lcom/example/fixtures_per_argument/fixturesperargument/engine/Phase;" } : Jvm.MethodName) prog_26_method_1_code (0 : Nat) (Option.some (Jvm.ClassFile.FieldType.array (Jvm.ClassFile.FieldType.object "com/example/fixtures_per_argument/fixturesperargument/engine/Phase")))]
set_option maxRecDepth 65536 in
theorem codes_eq : words1.filter isCode = codes1 := rfl
theorem w_codes : ∀ c ∈ words1.filter isCode, c.before args0 about1 = true := by
  rw [codes_eq]
  intro c hc
  simp only [codes1, List.mem_cons, List.not_mem_nil, or_false] at hc
  rcases hc with rfl | rfl | rfl
  · exact w_c0
  · exact w_c1
  · exact w_c2
set_option maxRecDepth 65536 in
theorem w_t1 : (words1.take 24).all (fun c => isCode c || c.before args0 about1) = true := by decide +kernel
set_option maxRecDepth 65536 in
theorem w_t2 : (words1.drop 24).all (fun c => isCode c || c.before args0 about1) = true := by decide +kernel
theorem w_tables : (allAtoms (Jvm.Cond.code x code maxLocals ret :: tables_1)).before args0 about1 = true := by
  rw [allAtoms_all]
  show words1.all (fun c => c.before args0 about1) = true
  refine all_split ?_ w_codes
  rw [← List.take_append_drop 24 words1, List.all_append, w_t1, w_t2]
  rfl
set_option maxRecDepth 65536 in
theorem w_case : (Jvm.Cond.and given_1 narrow_1).before args0 about1 = true := by decide +kernel
theorem w_applies : (headSpec (Jvm.Cond.code x code maxLocals ret :: tables_1) room_1).applies x e0.platform about1 = true :=
  (Spec.applies_iff w_frames).mpr ⟨w_running, w_runnable, w_alone, w_named, w_hears, w_ripe, w_room, w_tables⟩
theorem atStart : AtStart classFile x code maxLocals ret World_1 tables_1 room_1 Calls_1 rest_1 Pre_1 launch0 p0 e0 about1 theMethod args0 below0 :=
  ⟨lists_1, trivial, launch0.admits_env _ _ _, launch0.least_env, fairChoices_fair.cas, fairChoices_fair.clock, w_frames, w_args, w_heap, w_applies, trivial, trivial, w_case⟩
end start1
theorem witness_1 : WitnessClaimed_1 := ⟨start1.p0, start1.e0, start1.about1, start1.theMethod, start1.args0, start1.below0, start1.atStart⟩
end Jvm.Pilot.@@N@@
