import JvmDerived
import JvmDerived.Pilot.@@N@@Statement
import JvmDerived.Pilot.@@N@@Code
set_option linter.unusedVariables false
set_option linter.unusedSimpArgs false
namespace Jvm.RoadKit
open Sem ClassFile Op Lib Jvm.Stand Jvm.Free Jvm.LawKit
section New
variable {p : Program} {l : Launch} {e : Env} {R : Room} {s : State} {m : MethodId} {args : Array Value} {below : List Frame} {meth : Method} {c : Code} {T : State} {locs : List Loc} {cells slots : Nat}
theorem retI (X : Stand p l e R s m args below meth c T locs cells slots) (hx : p.tables.exec = Jvm.exec) {pc : Nat} {Ls : Array Slot} {z : Int32} {rest : List Value} (hret : meth.sig.returnType = some .int) (hd : decode c.code pc = .ok (.ireturn, 1)) {fs : List Frame}
    (hl : ∀ (f : JFrame) (acts : List Action), f.method = m → f.locked = none → f.entered = [] → (doReturn e (T.setTop f) acts (some (.int z))).1 = T.setFrames fs) : Steps p.tables e below (T.setTop (mkF m pc Ls (.int z :: rest))) (T.setFrames fs) := by
  have hm' : T.vm.method? m = some meth := X.method'
  have hn : narrow .int (.int z) = .int z := rfl
  show Steps p.tables e below (T.setTop { method := m, pc := pc, locals := Ls, stack := _ :: rest, locked := none }) _
  jvm_step X.here [X.here.top, hx, hd, hm', hret, hn]
  first | (intro acts; rw [hl _ acts rfl rfl rfl]) | rw [hl _ _ rfl rfl rfl]
  exact Steps.refl _
end New
end Jvm.RoadKit
namespace Jvm.RoadKit
open Sem ClassFile Op Lib Jvm.Stand Jvm.Free Jvm.LawKit
/-- from here the run ends as R says -/
def Gl (p : Program) (e : Env) (b : List Frame) (R : Outcome → State → Prop) (T : State) (f : JFrame) : Prop := ∃ u o, Steps p.tables e b (T.setTop f) u ∧ u.status = .running ∧ Ended u b o ∧ R o u
section Goal
variable {p : Program} {l : Launch} {e : Env} {R : Room} {s : State} {m : MethodId} {args : Array Value} {below : List Frame} {meth : Method} {c : Code} {T : State} {locs : List Loc} {cells slots : Nat} {Q : Outcome → State → Prop} {Z : State} {h : Heap} {a0 : Array Value}
theorem gkey {f f' : JFrame} (hf : f = f') (k : ∀ R0, R0 = Q → Gl p e below R0 T f') : ∃ u o, Steps p.tables e below (T.setTop f) u ∧ u.status = .running ∧ Ended u below o ∧ Q o u := by subst hf; exact k _ rfl
theorem gl {T' : State} {f f' : JFrame} (h : ∀ t, Steps p.tables e below (T'.setTop f') t → Steps p.tables e below (T.setTop f) t) (k : Gl p e below Q T' f') : Gl p e below Q T f := by
  obtain ⟨u, o, k1, k2⟩ := k
  exact ⟨u, o, h u k1, k2⟩
theorem gLi {k : ClassId} {z : Int32} {vs : List Value} {dv v : Value} {a : Addr} {j : Int32} {pc pc1 : Nat} {L : Array Slot} {rest : List Value} (X : Stand p l e R s m args below meth c T locs cells slots) (hx : p.tables.exec = Jvm.exec) (hZ : Z.Warmed39 s.vm) (eT : T.heap = h) (F : Arv Z h a k .int z vs dv) (hj : ¬ j < 0 ∧ j < z) (hv : vs.getD j.toNatClampNeg dv = v) (hd : decode c.code pc = .ok (.iaload, 1)) (q : Gl p e below Q T (mkF m (pc + 1) L (v :: rest))) (hpc : pc1 = pc := by rfl) : Gl p e below Q T (mkF m pc1 L (.int j :: .ref a :: rest)) := by
  rw [hpc]
  obtain ⟨cl, A, -, S, -, H, -⟩ := F
  have hin := inb_of S hj
  exact gl (fun t => X.iaload hx (by rw [eT]; exact A.1) (State.isArrayOf_alike hZ.alike A.2.1) A.2.2 hin (H.at hin hv) (g := mkF m pc L (.int j :: .ref a :: rest)) rfl rfl hd t) q
theorem gLc {k : ClassId} {z : Int32} {vs : List Value} {dv v : Value} {a : Addr} {j : Int32} {pc pc1 : Nat} {L : Array Slot} {rest : List Value} (X : Stand p l e R s m args below meth c T locs cells slots) (hx : p.tables.exec = Jvm.exec) (hZ : Z.Warmed39 s.vm) (eT : T.heap = h) (F : Arv Z h a k .char z vs dv) (hj : ¬ j < 0 ∧ j < z) (hv : vs.getD j.toNatClampNeg dv = v) (hd : decode c.code pc = .ok (.caload, 1)) (q : Gl p e below Q T (mkF m (pc + 1) L (v :: rest))) (hpc : pc1 = pc := by rfl) : Gl p e below Q T (mkF m pc1 L (.int j :: .ref a :: rest)) := by
  rw [hpc]
  obtain ⟨cl, A, -, S, -, H, -⟩ := F
  have hin := inb_of S hj
  exact gl (fun t => X.caload hx (by rw [eT]; exact A.1) (State.isArrayOf_alike hZ.alike A.2.1) A.2.2 hin (H.at hin hv) (g := mkF m pc L (.int j :: .ref a :: rest)) rfl rfl hd t) q
theorem gLj {k : ClassId} {z : Int32} {vs : List Value} {dv v : Value} {a : Addr} {j : Int32} {pc pc1 : Nat} {L : Array Slot} {rest : List Value} (X : Stand p l e R s m args below meth c T locs cells slots) (hx : p.tables.exec = Jvm.exec) (hZ : Z.Warmed39 s.vm) (eT : T.heap = h) (F : Arv Z h a k .long z vs dv) (hj : ¬ j < 0 ∧ j < z) (hv : vs.getD j.toNatClampNeg dv = v) (hd : decode c.code pc = .ok (.laload, 1)) (q : Gl p e below Q T (mkF m (pc + 1) L (v :: rest))) (hpc : pc1 = pc := by rfl) : Gl p e below Q T (mkF m pc1 L (.int j :: .ref a :: rest)) := by
  rw [hpc]
  obtain ⟨cl, A, -, S, -, H, -⟩ := F
  have hin := inb_of S hj
  exact gl (fun t => X.laload hx (by rw [eT]; exact A.1) (State.isArrayOf_alike hZ.alike A.2.1) A.2.2 hin (H.at hin hv) (g := mkF m pc L (.int j :: .ref a :: rest)) rfl rfl hd t) q
theorem gLr {k : ClassId} {z : Int32} {vs : List Value} {dv v : Value} {a : Addr} {j : Int32} {pc pc1 : Nat} {L : Array Slot} {rest : List Value} {ty : FieldType} (hty : ty.isReference = true) (X : Stand p l e R s m args below meth c T locs cells slots) (hx : p.tables.exec = Jvm.exec) (hZ : Z.Warmed39 s.vm) (eT : T.heap = h) (F : Arv Z h a k ty z vs dv) (hj : ¬ j < 0 ∧ j < z) (hv : vs.getD j.toNatClampNeg dv = v) (hd : decode c.code pc = .ok (.aaload, 1)) (q : Gl p e below Q T (mkF m (pc + 1) L (v :: rest))) (hpc : pc1 = pc := by rfl) : Gl p e below Q T (mkF m pc1 L (.int j :: .ref a :: rest)) := by
  rw [hpc]
  obtain ⟨cl, A, -, S, -, H, -⟩ := F
  have hin := inb_of S hj
  exact gl (fun t => X.aaload hx (by rw [eT]; exact A.1) (State.isArrayOf_alike hZ.alike A.2.1) hty A.2.2 hin (H.at hin hv) (g := mkF m pc L (.int j :: .ref a :: rest)) rfl rfl hd t) q
theorem gF {own O n d : String} {index pc pc1 : Nat} {a : Addr} {v : Value} {L : Array Slot} {rest : List Value} (X : Stand p l e R s m args below meth c T locs cells slots) (hx : p.tables.exec = Jvm.exec) (hZ : Z.Warmed39 s.vm) (hown : s.vm.findClass own = some m.cls) (w : (Cond.fieldLink own index O n d).before a0 Z = true) (eT : T.heap = h) (F : Fld Z h a O n d v) (hd : decode c.code pc = .ok (.getfield index, 3)) (q : ∀ T', Stand p l e R s m args below meth c T' locs cells slots → T'.heap = h → Gl p e below Q T' (mkF m (pc + 3) L (v :: rest))) (hpc : pc1 = pc := by rfl) : Gl p e below Q T (mkF m pc1 L (.ref a :: rest)) := by
  rw [hpc]
  obtain ⟨T', X', e', st⟩ := getF X hx hZ hown (host := "") (Or.inl w) Via.refl eT F (g := mkF m pc L (.ref a :: rest)) rfl rfl hd
  exact gl st (q T' X' e')
theorem g_aloadN {pc pc1 : Nat} {L : Array Slot} {k : Fin 4} {v : Value} {rest : List Value} (X : Stand p l e R s m args below meth c T locs cells slots) (hx : p.tables.exec = Jvm.exec) (hd : decode c.code pc = .ok (.aload_n k, 1)) (hl : L[k.val]? = some (.val v)) (hv : v.isRef = true) (q : Gl p e below Q T (mkF m (pc + 1) L (v :: rest))) (hpc : pc1 = pc := by rfl) : Gl p e below Q T (mkF m pc1 L (rest)) := hpc ▸ gl (fun _ => XS.aloadN X.here hx (g := mkF m pc L (rest)) rfl hd hl hv) q
theorem g_iloadN {pc pc1 : Nat} {L : Array Slot} {k : Fin 4} {v : Int32} {rest : List Value} (X : Stand p l e R s m args below meth c T locs cells slots) (hx : p.tables.exec = Jvm.exec) (hd : decode c.code pc = .ok (.iload_n k, 1)) (hl : L[k.val]? = some (.val (.int v))) (q : Gl p e below Q T (mkF m (pc + 1) L (.int v :: rest))) (hpc : pc1 = pc := by rfl) : Gl p e below Q T (mkF m pc1 L (rest)) := hpc ▸ gl (fun _ => XS.iloadN X.here hx (g := mkF m pc L (rest)) rfl hd hl) q
theorem g_istoreN {pc pc1 : Nat} {L : Array Slot} {k : Fin 4} {x : Int32} {rest : List Value} {l' : Array Slot} (X : Stand p l e R s m args below meth c T locs cells slots) (hx : p.tables.exec = Jvm.exec) (hd : decode c.code pc = .ok (.istore_n k, 1)) (hl : storeLocals L k.val (.int x) = some l') (q : Gl p e below Q T (mkF m (pc + 1) l' (rest))) (hpc : pc1 = pc := by rfl) : Gl p e below Q T (mkF m pc1 L (.int x :: rest)) := hpc ▸ gl (fun _ => XS.istoreN X.here hx (g := mkF m pc L (.int x :: rest)) rfl hd rfl hl) q
theorem g_astoreN {pc pc1 : Nat} {L : Array Slot} {k : Fin 4} {x : Value} {rest : List Value} {l' : Array Slot} (X : Stand p l e R s m args below meth c T locs cells slots) (hx : p.tables.exec = Jvm.exec) (hd : decode c.code pc = .ok (.astore_n k, 1)) (hv : x.isRef = true) (hl : storeLocals L k.val x = some l') (q : Gl p e below Q T (mkF m (pc + 1) l' (rest))) (hpc : pc1 = pc := by rfl) : Gl p e below Q T (mkF m pc1 L (x :: rest)) := hpc ▸ gl (fun _ => XS.astoreN X.here hx (g := mkF m pc L (x :: rest)) rfl hd rfl hv hl) q
theorem g_aload {pc pc1 : Nat} {L : Array Slot} {k : Nat} {v : Value} {rest : List Value} (X : Stand p l e R s m args below meth c T locs cells slots) (hx : p.tables.exec = Jvm.exec) (hd : decode c.code pc = .ok (.aload k, 2)) (hl : L[k]? = some (.val v)) (hv : v.isRef = true) (q : Gl p e below Q T (mkF m (pc + 2) L (v :: rest))) (hpc : pc1 = pc := by rfl) : Gl p e below Q T (mkF m pc1 L (rest)) := hpc ▸ gl (fun _ => XS.aload X.here hx (g := mkF m pc L (rest)) rfl hd hl hv) q
theorem g_iload {pc pc1 : Nat} {L : Array Slot} {k : Nat} {v : Int32} {rest : List Value} (X : Stand p l e R s m args below meth c T locs cells slots) (hx : p.tables.exec = Jvm.exec) (hd : decode c.code pc = .ok (.iload k, 2)) (hl : L[k]? = some (.val (.int v))) (q : Gl p e below Q T (mkF m (pc + 2) L (.int v :: rest))) (hpc : pc1 = pc := by rfl) : Gl p e below Q T (mkF m pc1 L (rest)) := hpc ▸ gl (fun _ => XS.iload X.here hx (g := mkF m pc L (rest)) rfl hd hl) q
theorem g_istore {pc pc1 : Nat} {L : Array Slot} {k : Nat} {x : Int32} {rest : List Value} {l' : Array Slot} (X : Stand p l e R s m args below meth c T locs cells slots) (hx : p.tables.exec = Jvm.exec) (hd : decode c.code pc = .ok (.istore k, 2)) (hl : storeLocals L k (.int x) = some l') (q : Gl p e below Q T (mkF m (pc + 2) l' (rest))) (hpc : pc1 = pc := by rfl) : Gl p e below Q T (mkF m pc1 L (.int x :: rest)) := hpc ▸ gl (fun _ => XS.istore X.here hx (g := mkF m pc L (.int x :: rest)) rfl hd rfl hl) q
theorem g_astore {pc pc1 : Nat} {L : Array Slot} {k : Nat} {x : Value} {rest : List Value} {l' : Array Slot} (X : Stand p l e R s m args below meth c T locs cells slots) (hx : p.tables.exec = Jvm.exec) (hd : decode c.code pc = .ok (.astore k, 2)) (hv : x.isRef = true) (hl : storeLocals L k x = some l') (q : Gl p e below Q T (mkF m (pc + 2) l' (rest))) (hpc : pc1 = pc := by rfl) : Gl p e below Q T (mkF m pc1 L (x :: rest)) := hpc ▸ gl (fun _ => XS.astore X.here hx (g := mkF m pc L (x :: rest)) rfl hd rfl hv hl) q
theorem g_iconst {pc pc1 : Nat} {L : Array Slot} {i : Int} {rest : List Value} (X : Stand p l e R s m args below meth c T locs cells slots) (hx : p.tables.exec = Jvm.exec) (hd : decode c.code pc = .ok (.iconst i, 1)) (q : Gl p e below Q T (mkF m (pc + 1) L (.int (Int32.ofInt i) :: rest))) (hpc : pc1 = pc := by rfl) : Gl p e below Q T (mkF m pc1 L (rest)) := hpc ▸ gl (fun _ => XS.iconst X.here hx (g := mkF m pc L (rest)) rfl hd) q
theorem g_bipush {pc pc1 : Nat} {L : Array Slot} {i : Int} {rest : List Value} (X : Stand p l e R s m args below meth c T locs cells slots) (hx : p.tables.exec = Jvm.exec) (hd : decode c.code pc = .ok (.bipush i, 2)) (q : Gl p e below Q T (mkF m (pc + 2) L (.int ((Int8.ofInt i).toInt32) :: rest))) (hpc : pc1 = pc := by rfl) : Gl p e below Q T (mkF m pc1 L (rest)) := hpc ▸ gl (fun _ => XS.bipush X.here hx (g := mkF m pc L (rest)) rfl hd) q
theorem g_sipush {pc pc1 : Nat} {L : Array Slot} {i : Int} {rest : List Value} (X : Stand p l e R s m args below meth c T locs cells slots) (hx : p.tables.exec = Jvm.exec) (hd : decode c.code pc = .ok (.sipush i, 3)) (q : Gl p e below Q T (mkF m (pc + 3) L (.int ((Int16.ofInt i).toInt32) :: rest))) (hpc : pc1 = pc := by rfl) : Gl p e below Q T (mkF m pc1 L (rest)) := hpc ▸ gl (fun _ => XS.sipush X.here hx (g := mkF m pc L (rest)) rfl hd) q
theorem g_aconstNull {pc pc1 : Nat} {L : Array Slot} {rest : List Value} (X : Stand p l e R s m args below meth c T locs cells slots) (hx : p.tables.exec = Jvm.exec) (hd : decode c.code pc = .ok (.aconst_null, 1)) (q : Gl p e below Q T (mkF m (pc + 1) L (.null :: rest))) (hpc : pc1 = pc := by rfl) : Gl p e below Q T (mkF m pc1 L (rest)) := hpc ▸ gl (fun _ => XS.aconstNull X.here hx (g := mkF m pc L (rest)) rfl hd) q
theorem g_iadd {pc pc1 : Nat} {L : Array Slot} {x y : Int32} {rest : List Value} (X : Stand p l e R s m args below meth c T locs cells slots) (hx : p.tables.exec = Jvm.exec) (hd : decode c.code pc = .ok (.iadd, 1)) (q : Gl p e below Q T (mkF m (pc + 1) L (.int (x + y) :: rest))) (hpc : pc1 = pc := by rfl) : Gl p e below Q T (mkF m pc1 L (.int y :: .int x :: rest)) := hpc ▸ gl (fun _ => XS.iadd X.here hx (g := mkF m pc L (.int y :: .int x :: rest)) rfl hd rfl) q
theorem g_isub {pc pc1 : Nat} {L : Array Slot} {x y : Int32} {rest : List Value} (X : Stand p l e R s m args below meth c T locs cells slots) (hx : p.tables.exec = Jvm.exec) (hd : decode c.code pc = .ok (.isub, 1)) (q : Gl p e below Q T (mkF m (pc + 1) L (.int (x - y) :: rest))) (hpc : pc1 = pc := by rfl) : Gl p e below Q T (mkF m pc1 L (.int y :: .int x :: rest)) := hpc ▸ gl (fun _ => XS.isub X.here hx (g := mkF m pc L (.int y :: .int x :: rest)) rfl hd rfl) q
theorem g_iand {pc pc1 : Nat} {L : Array Slot} {x y : Int32} {rest : List Value} (X : Stand p l e R s m args below meth c T locs cells slots) (hx : p.tables.exec = Jvm.exec) (hd : decode c.code pc = .ok (.iand, 1)) (q : Gl p e below Q T (mkF m (pc + 1) L (.int (x &&& y) :: rest))) (hpc : pc1 = pc := by rfl) : Gl p e below Q T (mkF m pc1 L (.int y :: .int x :: rest)) := hpc ▸ gl (fun _ => XS.iand X.here hx (g := mkF m pc L (.int y :: .int x :: rest)) rfl hd rfl) q
theorem g_imul {pc pc1 : Nat} {L : Array Slot} {x y : Int32} {rest : List Value} (X : Stand p l e R s m args below meth c T locs cells slots) (hx : p.tables.exec = Jvm.exec) (hd : decode c.code pc = .ok (.imul, 1)) (q : Gl p e below Q T (mkF m (pc + 1) L (.int (x * y) :: rest))) (hpc : pc1 = pc := by rfl) : Gl p e below Q T (mkF m pc1 L (.int y :: .int x :: rest)) := hpc ▸ gl (fun _ => XS.imul X.here hx (g := mkF m pc L (.int y :: .int x :: rest)) rfl hd rfl) q
theorem g_ixor {pc pc1 : Nat} {L : Array Slot} {x y : Int32} {rest : List Value} (X : Stand p l e R s m args below meth c T locs cells slots) (hx : p.tables.exec = Jvm.exec) (hd : decode c.code pc = .ok (.ixor, 1)) (q : Gl p e below Q T (mkF m (pc + 1) L (.int (x ^^^ y) :: rest))) (hpc : pc1 = pc := by rfl) : Gl p e below Q T (mkF m pc1 L (.int y :: .int x :: rest)) := hpc ▸ gl (fun _ => XS.ixor X.here hx (g := mkF m pc L (.int y :: .int x :: rest)) rfl hd rfl) q
theorem g_dup {pc pc1 : Nat} {L : Array Slot} {x : Value} {rest : List Value} (X : Stand p l e R s m args below meth c T locs cells slots) (hx : p.tables.exec = Jvm.exec) (hd : decode c.code pc = .ok (.dup, 1)) (hc : x.category = 1) (q : Gl p e below Q T (mkF m (pc + 1) L (x :: x :: rest))) (hpc : pc1 = pc := by rfl) : Gl p e below Q T (mkF m pc1 L (x :: rest)) := hpc ▸ gl (fun _ => XS.dup X.here hx (g := mkF m pc L (x :: rest)) rfl hd rfl hc) q
theorem g_icmpNo {pc pc1 : Nat} {L : Array Slot} {cd : ClassFile.Cond} {o : Int} {x y : Int32} {rest : List Value} (X : Stand p l e R s m args below meth c T locs cells slots) (hx : p.tables.exec = Jvm.exec) (hd : decode c.code pc = .ok (.if_icmp cd o, 3)) (hc : if_icmp.holds cd x y = false) (q : Gl p e below Q T (mkF m (pc + 3) L (rest))) (hpc : pc1 = pc := by rfl) : Gl p e below Q T (mkF m pc1 L (.int y :: .int x :: rest)) := hpc ▸ gl (fun _ => XS.icmpNo X.here hx (g := mkF m pc L (.int y :: .int x :: rest)) rfl hd rfl hc) q
theorem g_ifNo {pc pc1 : Nat} {L : Array Slot} {cd : ClassFile.Cond} {o : Int} {x : Int32} {rest : List Value} (X : Stand p l e R s m args below meth c T locs cells slots) (hx : p.tables.exec = Jvm.exec) (hd : decode c.code pc = .ok (.ifCond cd o, 3)) (hc : ifCond.holds cd x = false) (q : Gl p e below Q T (mkF m (pc + 3) L (rest))) (hpc : pc1 = pc := by rfl) : Gl p e below Q T (mkF m pc1 L (.int x :: rest)) := hpc ▸ gl (fun _ => XS.ifNo X.here hx (g := mkF m pc L (.int x :: rest)) rfl hd rfl hc) q
theorem g_ifnullNo {pc pc1 : Nat} {L : Array Slot} {o : Int} {b : Addr} {rest : List Value} (X : Stand p l e R s m args below meth c T locs cells slots) (hx : p.tables.exec = Jvm.exec) (hd : decode c.code pc = .ok (.ifnull o, 3)) (q : Gl p e below Q T (mkF m (pc + 3) L (rest))) (hpc : pc1 = pc := by rfl) : Gl p e below Q T (mkF m pc1 L (.ref b :: rest)) := hpc ▸ gl (fun _ => XS.ifnullNo X.here hx (g := mkF m pc L (.ref b :: rest)) rfl hd rfl) q
theorem g_goto {pc pc1 : Nat} {L : Array Slot} {o : Int} {pc' : Nat} {rest : List Value} (X : Stand p l e R s m args below meth c T locs cells slots) (hx : p.tables.exec = Jvm.exec) (hd : decode c.code pc = .ok (.goto o, 3)) (ho : 0 ≤ (pc : Int) + o) (hp : ((pc : Int) + o).toNat = pc') (q : Gl p e below Q T (mkF m pc' L (rest))) (hpc : pc1 = pc := by rfl) : Gl p e below Q T (mkF m pc1 L (rest)) := hpc ▸ gl (fun _ => XS.goto X.here hx (g := mkF m pc L (rest)) rfl rfl hd ho hp) q
theorem g_icmpYes {pc pc1 : Nat} {L : Array Slot} {cd : ClassFile.Cond} {x y : Int32} {o : Int} {pc' : Nat} {rest : List Value} (X : Stand p l e R s m args below meth c T locs cells slots) (hx : p.tables.exec = Jvm.exec) (hd : decode c.code pc = .ok (.if_icmp cd o, 3)) (hc : if_icmp.holds cd x y = true) (ho : 0 ≤ (pc : Int) + o) (hp : ((pc : Int) + o).toNat = pc') (q : Gl p e below Q T (mkF m pc' L (rest))) (hpc : pc1 = pc := by rfl) : Gl p e below Q T (mkF m pc1 L (.int y :: .int x :: rest)) := hpc ▸ gl (fun _ => XS.icmpYes X.here hx (g := mkF m pc L (.int y :: .int x :: rest)) rfl rfl hd rfl hc ho hp) q
theorem g_ifYes {pc pc1 : Nat} {L : Array Slot} {cd : ClassFile.Cond} {x : Int32} {o : Int} {pc' : Nat} {rest : List Value} (X : Stand p l e R s m args below meth c T locs cells slots) (hx : p.tables.exec = Jvm.exec) (hd : decode c.code pc = .ok (.ifCond cd o, 3)) (hc : ifCond.holds cd x = true) (ho : 0 ≤ (pc : Int) + o) (hp : ((pc : Int) + o).toNat = pc') (q : Gl p e below Q T (mkF m pc' L (rest))) (hpc : pc1 = pc := by rfl) : Gl p e below Q T (mkF m pc1 L (.int x :: rest)) := hpc ▸ gl (fun _ => XS.ifYes X.here hx (g := mkF m pc L (.int x :: rest)) rfl rfl hd rfl hc ho hp) q
theorem g_ifnullYes {pc pc1 : Nat} {L : Array Slot} {o : Int} {pc' : Nat} {rest : List Value} (X : Stand p l e R s m args below meth c T locs cells slots) (hx : p.tables.exec = Jvm.exec) (hd : decode c.code pc = .ok (.ifnull o, 3)) (ho : 0 ≤ (pc : Int) + o) (hp : ((pc : Int) + o).toNat = pc') (q : Gl p e below Q T (mkF m pc' L (rest))) (hpc : pc1 = pc := by rfl) : Gl p e below Q T (mkF m pc1 L (.null :: rest)) := hpc ▸ gl (fun _ => XS.ifnullYes X.here hx (g := mkF m pc L (.null :: rest)) rfl rfl hd rfl ho hp) q
theorem g_iinc {pc pc1 : Nat} {L : Array Slot} {k : Nat} {cst : Int} {x : Int32} {l' : Array Slot} {rest : List Value} (X : Stand p l e R s m args below meth c T locs cells slots) (hx : p.tables.exec = Jvm.exec) (hd : decode c.code pc = .ok (.iinc k cst, 3)) (hl : L[k]? = some (.val (.int x))) (hl' : storeLocals L k (.int (x + Int32.ofInt cst)) = some l') (q : Gl p e below Q T (mkF m (pc + 3) l' (rest))) (hpc : pc1 = pc := by rfl) : Gl p e below Q T (mkF m pc1 L (rest)) := hpc ▸ gl (fun _ => XS.iinc X.here hx (g := mkF m pc L (rest)) rfl hd hl hl') q
theorem g_i2l {pc pc1 : Nat} {L : Array Slot} {x : Int32} {rest : List Value} (X : Stand p l e R s m args below meth c T locs cells slots) (hx : p.tables.exec = Jvm.exec) (hd : decode c.code pc = .ok (.i2l, 1)) (q : Gl p e below Q T (mkF m (pc + 1) L (.long x.toInt64 :: rest))) (hpc : pc1 = pc := by rfl) : Gl p e below Q T (mkF m pc1 L (.int x :: rest)) := hpc ▸ gl (fun _ => XS.i2l X.here hx (g := mkF m pc L (.int x :: rest)) rfl hd rfl) q
theorem g_i2c {pc pc1 : Nat} {L : Array Slot} {x : Int32} {rest : List Value} (X : Stand p l e R s m args below meth c T locs cells slots) (hx : p.tables.exec = Jvm.exec) (hd : decode c.code pc = .ok (.i2c, 1)) (q : Gl p e below Q T (mkF m (pc + 1) L (.int x.toUInt32.toUInt16.toUInt32.toInt32 :: rest))) (hpc : pc1 = pc := by rfl) : Gl p e below Q T (mkF m pc1 L (.int x :: rest)) := hpc ▸ gl (fun _ => XS.i2c X.here hx (g := mkF m pc L (.int x :: rest)) rfl hd rfl) q
theorem g_lcmp {pc pc1 : Nat} {L : Array Slot} {x y : Int64} {rest : List Value} (X : Stand p l e R s m args below meth c T locs cells slots) (hx : p.tables.exec = Jvm.exec) (hd : decode c.code pc = .ok (.lcmp, 1)) (q : Gl p e below Q T (mkF m (pc + 1) L (.int (lcmpW x y) :: rest))) (hpc : pc1 = pc := by rfl) : Gl p e below Q T (mkF m pc1 L (.long y :: .long x :: rest)) := hpc ▸ gl (fun _ => XS.lcmp X.here hx (g := mkF m pc L (.long y :: .long x :: rest)) rfl hd rfl) q
theorem g_lsub {pc pc1 : Nat} {L : Array Slot} {x y : Int64} {rest : List Value} (X : Stand p l e R s m args below meth c T locs cells slots) (hx : p.tables.exec = Jvm.exec) (hd : decode c.code pc = .ok (.lsub, 1)) (q : Gl p e below Q T (mkF m (pc + 1) L (.long (x - y) :: rest))) (hpc : pc1 = pc := by rfl) : Gl p e below Q T (mkF m pc1 L (.long y :: .long x :: rest)) := hpc ▸ gl (fun _ => XS.lsub X.here hx (g := mkF m pc L (.long y :: .long x :: rest)) rfl hd rfl) q
theorem g_ldiv {pc pc1 : Nat} {L : Array Slot} {x y : Int64} {rest : List Value} (X : Stand p l e R s m args below meth c T locs cells slots) (hx : p.tables.exec = Jvm.exec) (hd : decode c.code pc = .ok (.ldiv, 1)) (hy : y ≠ 0) (q : Gl p e below Q T (mkF m (pc + 1) L (.long (x / y) :: rest))) (hpc : pc1 = pc := by rfl) : Gl p e below Q T (mkF m pc1 L (.long y :: .long x :: rest)) := hpc ▸ gl (fun _ => XS.ldiv X.here hx (g := mkF m pc L (.long y :: .long x :: rest)) rfl hd rfl hy) q
theorem g_l2i {pc pc1 : Nat} {L : Array Slot} {x : Int64} {rest : List Value} (X : Stand p l e R s m args below meth c T locs cells slots) (hx : p.tables.exec = Jvm.exec) (hd : decode c.code pc = .ok (.l2i, 1)) (q : Gl p e below Q T (mkF m (pc + 1) L (.int x.toInt32 :: rest))) (hpc : pc1 = pc := by rfl) : Gl p e below Q T (mkF m pc1 L (.long x :: rest)) := hpc ▸ gl (fun _ => XS.l2i X.here hx (g := mkF m pc L (.long x :: rest)) rfl hd rfl) q
theorem g_ifnonnullNo {pc pc1 : Nat} {L : Array Slot} {o : Int} {rest : List Value} (X : Stand p l e R s m args below meth c T locs cells slots) (hx : p.tables.exec = Jvm.exec) (hd : decode c.code pc = .ok (.ifnonnull o, 3)) (q : Gl p e below Q T (mkF m (pc + 3) L (rest))) (hpc : pc1 = pc := by rfl) : Gl p e below Q T (mkF m pc1 L (.null :: rest)) := hpc ▸ gl (fun _ => XS.ifnonnullNo X.here hx (g := mkF m pc L (.null :: rest)) rfl hd rfl) q
theorem g_ifnonnullYes {pc pc1 : Nat} {L : Array Slot} {o : Int} {pc' : Nat} {b : Addr} {rest : List Value} (X : Stand p l e R s m args below meth c T locs cells slots) (hx : p.tables.exec = Jvm.exec) (hd : decode c.code pc = .ok (.ifnonnull o, 3)) (ho : 0 ≤ (pc : Int) + o) (hp : ((pc : Int) + o).toNat = pc') (q : Gl p e below Q T (mkF m pc' L (rest))) (hpc : pc1 = pc := by rfl) : Gl p e below Q T (mkF m pc1 L (.ref b :: rest)) := hpc ▸ gl (fun _ => XS.ifnonnullYes X.here hx (g := mkF m pc L (.ref b :: rest)) rfl rfl hd rfl ho hp) q
theorem g_iushr {pc pc1 : Nat} {L : Array Slot} {x y : Int32} {rest : List Value} (X : Stand p l e R s m args below meth c T locs cells slots) (hx : p.tables.exec = Jvm.exec) (hd : decode c.code pc = .ok (.iushr, 1)) (q : Gl p e below Q T (mkF m (pc + 1) L (.int (x.toUInt32 >>> (y &&& 31).toUInt32).toInt32 :: rest))) (hpc : pc1 = pc := by rfl) : Gl p e below Q T (mkF m pc1 L (.int y :: .int x :: rest)) := hpc ▸ gl (fun _ => XS.iushr X.here hx (g := mkF m pc L (.int y :: .int x :: rest)) rfl hd rfl) q
theorem g_lloadN {pc pc1 : Nat} {L : Array Slot} {k : Fin 4} {v : Int64} {rest : List Value} (X : Stand p l e R s m args below meth c T locs cells slots) (hx : p.tables.exec = Jvm.exec) (hd : decode c.code pc = .ok (.lload_n k, 1)) (hl : L[k.val]? = some (.val (.long v))) (q : Gl p e below Q T (mkF m (pc + 1) L (.long v :: rest))) (hpc : pc1 = pc := by rfl) : Gl p e below Q T (mkF m pc1 L (rest)) := hpc ▸ gl (fun _ => XS.lloadN X.here hx (g := mkF m pc L (rest)) rfl hd hl) q
theorem g_lstoreN {pc pc1 : Nat} {L : Array Slot} {k : Fin 4} {x : Int64} {rest : List Value} {l' : Array Slot} (X : Stand p l e R s m args below meth c T locs cells slots) (hx : p.tables.exec = Jvm.exec) (hd : decode c.code pc = .ok (.lstore_n k, 1)) (hl : storeLocals L k.val (.long x) = some l') (q : Gl p e below Q T (mkF m (pc + 1) l' (rest))) (hpc : pc1 = pc := by rfl) : Gl p e below Q T (mkF m pc1 L (.long x :: rest)) := hpc ▸ gl (fun _ => XS.lstoreN X.here hx (g := mkF m pc L (.long x :: rest)) rfl hd rfl hl) q
theorem g_lload {pc pc1 : Nat} {L : Array Slot} {k : Nat} {v : Int64} {rest : List Value} (X : Stand p l e R s m args below meth c T locs cells slots) (hx : p.tables.exec = Jvm.exec) (hd : decode c.code pc = .ok (.lload k, 2)) (hl : L[k]? = some (.val (.long v))) (q : Gl p e below Q T (mkF m (pc + 2) L (.long v :: rest))) (hpc : pc1 = pc := by rfl) : Gl p e below Q T (mkF m pc1 L (rest)) := hpc ▸ gl (fun _ => XS.lload X.here hx (g := mkF m pc L (rest)) rfl hd hl) q
theorem g_lstore {pc pc1 : Nat} {L : Array Slot} {k : Nat} {x : Int64} {rest : List Value} {l' : Array Slot} (X : Stand p l e R s m args below meth c T locs cells slots) (hx : p.tables.exec = Jvm.exec) (hd : decode c.code pc = .ok (.lstore k, 2)) (hl : storeLocals L k (.long x) = some l') (q : Gl p e below Q T (mkF m (pc + 2) l' (rest))) (hpc : pc1 = pc := by rfl) : Gl p e below Q T (mkF m pc1 L (.long x :: rest)) := hpc ▸ gl (fun _ => XS.lstore X.here hx (g := mkF m pc L (.long x :: rest)) rfl hd rfl hl) q
theorem g_lconst {pc pc1 : Nat} {L : Array Slot} {k : Fin 2} {rest : List Value} (X : Stand p l e R s m args below meth c T locs cells slots) (hx : p.tables.exec = Jvm.exec) (hd : decode c.code pc = .ok (.lconst k, 1)) (q : Gl p e below Q T (mkF m (pc + 1) L (.long (Int64.ofNat k) :: rest))) (hpc : pc1 = pc := by rfl) : Gl p e below Q T (mkF m pc1 L (rest)) := hpc ▸ gl (fun _ => XS.lconst X.here hx (g := mkF m pc L (rest)) rfl hd) q
theorem g_istoreS {pc pc1 : Nat} {L : Array Slot} {k : Nat} {x : Int32} {o : Slot} {rest : List Value} (X : Stand p l e R s m args below meth c T locs cells slots) (hx : p.tables.exec = Jvm.exec) (hd : decode c.code pc = .ok (.istore k, 2)) (hold : L[k]? = some o) (ho : o = .unset ∨ ∃ w, o = .val w ∧ w.category = 1) (q : Gl p e below Q T (mkF m (pc + 2) (L.setIfInBounds k (.val (.int x))) (rest))) (hpc : pc1 = pc := by rfl) : Gl p e below Q T (mkF m pc1 L (.int x :: rest)) := hpc ▸ gl (fun _ => XS.istoreS X.here hx (g := mkF m pc L (.int x :: rest)) rfl hd rfl hold ho) q
theorem g_astoreS {pc pc1 : Nat} {L : Array Slot} {k : Nat} {x : Value} {o : Slot} {rest : List Value} (X : Stand p l e R s m args below meth c T locs cells slots) (hx : p.tables.exec = Jvm.exec) (hd : decode c.code pc = .ok (.astore k, 2)) (hv : x.isRef = true) (hc : x.category = 1) (hold : L[k]? = some o) (ho : o = .unset ∨ ∃ w, o = .val w ∧ w.category = 1) (q : Gl p e below Q T (mkF m (pc + 2) (L.setIfInBounds k (.val x)) (rest))) (hpc : pc1 = pc := by rfl) : Gl p e below Q T (mkF m pc1 L (x :: rest)) := hpc ▸ gl (fun _ => XS.astoreS X.here hx (g := mkF m pc L (x :: rest)) rfl hd rfl hv hc hold ho) q
theorem g_dup2 {pc pc1 : Nat} {L : Array Slot} {x y : Value} {rest : List Value} (X : Stand p l e R s m args below meth c T locs cells slots) (hx : p.tables.exec = Jvm.exec) (hd : decode c.code pc = .ok (.dup2, 1)) (hc : x.category = 1) (hc' : y.category = 1) (q : Gl p e below Q T (mkF m (pc + 1) L (x :: y :: x :: y :: rest))) (hpc : pc1 = pc := by rfl) : Gl p e below Q T (mkF m pc1 L (x :: y :: rest)) := hpc ▸ gl (fun _ => Jvm.Free.XT.dup2 X.here hx (g := mkF m pc L (x :: y :: rest)) rfl hd rfl hc hc') q
theorem gJ {own : String} {index pc pc1 : Nat} {v : Int64} {L : Array Slot} {rest : List Value} (X : Stand p l e R s m args below meth c T locs cells slots) (hx : p.tables.exec = Jvm.exec) (hZ : Z.Warmed39 s.vm) (hown : s.vm.findClass own = some m.cls) (w : (Cond.constantLong own index v).before a0 Z = true) (hd : decode c.code pc = .ok (.ldc2_w index, 3)) (q : Gl p e below Q T (mkF m (pc + 3) L (.long v :: rest))) (hpc : pc1 = pc := by rfl) : Gl p e below Q T (mkF m pc1 L rest) := hpc ▸ gl (fun t => X.ldc2Long hx hown (mvT hZ w) (g := mkF m pc L rest) rfl hd t) q
theorem gA {k : ClassId} {ty : FieldType} {z : Int32} {vs : List Value} {dv : Value} {a : Addr} {pc pc1 : Nat} {L : Array Slot} {rest : List Value} (X : Stand p l e R s m args below meth c T locs cells slots) (hx : p.tables.exec = Jvm.exec) (hZ : Z.Warmed39 s.vm) (eT : T.heap = h) (F : Arv Z h a k ty z vs dv) (hd : decode c.code pc = .ok (.arraylength, 1)) (q : Gl p e below Q T (mkF m (pc + 1) L (.int z :: rest))) (hpc : pc1 = pc := by rfl) : Gl p e below Q T (mkF m pc1 L (.ref a :: rest)) := by
  rw [hpc]
  obtain ⟨cl, A, -, S, N, H, -⟩ := F
  refine gl (fun t => X.arraylength hx (by rw [eT]; exact A.1) (State.isArrayOf_alike hZ.alike A.2.1) (g := mkF m pc L (.ref a :: rest)) rfl rfl hd t) ?_
  rw [len_of S N]
  exact q
theorem gS {own O n d : String} {index pc pc1 : Nat} {v : Value} {L : Array Slot} {rest : List Value} (X : Stand p l e R s m args below meth c T locs cells slots) (hx : p.tables.exec = Jvm.exec) (hZ : Z.Warmed39 s.vm) (hown : s.vm.findClass own = some m.cls) (w : (Cond.fieldLink own index O n d).before a0 Z = true) (eT : T.heap = h) (F : Sta Z h O n d v) (hd : decode c.code pc = .ok (.getstatic index, 3)) (q : ∀ T', Stand p l e R s m args below meth c T' locs cells slots → T'.heap = h → Gl p e below Q T' (mkF m (pc + 3) L (v :: rest))) (hpc : pc1 = pc := by rfl) : Gl p e below Q T (mkF m pc1 L rest) := by
  rw [hpc]
  obtain ⟨T', X', e', st⟩ := getS2 X hx hZ hown (host := "") (Or.inl w) Via.refl eT F (g := mkF m pc L rest) rfl hd
  exact gl st (q T' X' e')
theorem gSi {k : ClassId} {z x : Int32} {vs : List Value} {dv : Value} {a : Addr} {j : Int32} {n0 pc pc1 : Nat} {L : Array Slot} {rest : List Value} (X : Stand p l e R s m args below meth c T locs cells slots) (hx : p.tables.exec = Jvm.exec) (hZ : Z.Warmed39 s.vm) (eT : T.heap = h) (F : Arv Z h a k .int z vs dv) (hj : ¬ j < 0 ∧ j < z) (i : Nat) (hi : j.toNatClampNeg = i) (hl : i < vs.length) (hn : Fr n0 locs) (hg : n0 ≤ a) (hd : decode c.code pc = .ok (.iastore, 1)) (q : ∀ T' h', Stand p l e R s m args below meth c T' (locs ++ [⟨a, j.toNatClampNeg⟩]) cells slots → T'.heap = h' → Wr h h' a j.toNatClampNeg (.int x) → Arv Z h' a k .int z (vs.set i (.int x)) dv → Fr n0 (locs ++ [⟨a, j.toNatClampNeg⟩]) → Gl p e below Q T' (mkF m (pc + 1) L rest)) (hpc : pc1 = pc := by rfl) : Gl p e below Q T (mkF m pc1 L (.int x :: .int j :: .ref a :: rest)) := by
  rw [hpc]
  obtain ⟨cl, A, q1, S, q3, H, G⟩ := F
  have hin := inb_of S hj
  obtain ⟨T', h', X', e', W, st⟩ := stI X hx hZ eT A (j := j) hin (g := mkF m pc L (.int x :: .int j :: .ref a :: rest)) rfl rfl hd
  exact gl st (q T' h' X' e' W (Arv.set A q1 S q3 H G rfl W i hi hl) (Fr.snoc X' hn hg))
theorem gSc {k : ClassId} {z x : Int32} {vs : List Value} {dv : Value} {a : Addr} {j : Int32} {n0 pc pc1 : Nat} {L : Array Slot} {rest : List Value} (X : Stand p l e R s m args below meth c T locs cells slots) (hx : p.tables.exec = Jvm.exec) (hZ : Z.Warmed39 s.vm) (eT : T.heap = h) (F : Arv Z h a k .char z vs dv) (hj : ¬ j < 0 ∧ j < z) (i : Nat) (hi : j.toNatClampNeg = i) (hl : i < vs.length) (hn : Fr n0 locs) (hg : n0 ≤ a) (hd : decode c.code pc = .ok (.castore, 1)) (q : ∀ T' h', Stand p l e R s m args below meth c T' (locs ++ [⟨a, j.toNatClampNeg⟩]) cells slots → T'.heap = h' → Wr h h' a j.toNatClampNeg (.int (nar .char x)) → Arv Z h' a k .char z (vs.set i (.int (nar .char x))) dv → Fr n0 (locs ++ [⟨a, j.toNatClampNeg⟩]) → Gl p e below Q T' (mkF m (pc + 1) L rest)) (hpc : pc1 = pc := by rfl) : Gl p e below Q T (mkF m pc1 L (.int x :: .int j :: .ref a :: rest)) := by
  rw [hpc]
  obtain ⟨cl, A, q1, S, q3, H, G⟩ := F
  have hin := inb_of S hj
  obtain ⟨T', h', X', e', W, st⟩ := stC X hx hZ eT A (j := j) hin (g := mkF m pc L (.int x :: .int j :: .ref a :: rest)) rfl rfl hd
  exact gl st (q T' h' X' e' W (Arv.set A q1 S q3 H G (fits_nar_char _) W i hi hl) (Fr.snoc X' hn hg))
end Goal
end Jvm.RoadKit
namespace Jvm.Pilot.@@N@@
open Jvm Jvm.ClassFile Sem Op Lib Jvm.Free Jvm.Stand Jvm.LawKit Jvm.RoadKit Bundle Jvm.Pilot.@@N@@.Jvm.D
/-- what a call that writes nothing leaves -/
def PureQ (rv : Option Value) (h0 : Heap) (n0 : Nat) (v : Option Value) (h : Heap) (L : List Loc) : Prop := v = rv ∧ Fr n0 L ∧ h = h0
/-- what the law leaves -/
def LawQ (n0 : Nat) (v : Option Value) (h : Heap) (L : List Loc) : Prop := v = some (.int (1 : Int32)) ∧ Fr n0 L
theorem own_fld {Z : State} {args : Array Value} {a : Addr} {t u : Term} {C n d : String} {v : Value} (ev : t.eval args Z none [] Z = some (.ref a)) (h : (Jvm.Cond.eq (Term.field t C n d) u).value args Z none Z [] = some true) (eu : u.eval args Z none [] Z = some v) : Fld Z Z.heap a C n d v := by
  obtain ⟨x, y, h1, h2, -⟩ := cmp_v (Or.inl h)
  have e2 : y = v := Option.some.inj (h2.symm.trans eu)
  subst e2
  have e3 : x = y := by
    simp only [Jvm.Cond.value, h1, h2] at h
    cases x <;> cases y <;> simp_all
  subst e3
  exact Fld.start ((fld_at ev).symm.trans h1)
abbrev vI (x : Int32) : Slot := .val (.int x)
abbrev vJ (x : Int64) : Slot := .val (.long x)
abbrev vR (x : Addr) : Slot := .val (.ref x)
abbrev GG (p : Program) (e : Env) (b : List Frame) (T : State) (f : JFrame) (t : State) : Prop := Steps p.tables e b (T.setTop f) t
abbrev cRV : String := "com/example/chaseward/chaseward/engine/RowValues"
theorem own_nsroot {Z : State} {a0 : Array Value} {O K : String} {n : Nat} (w : (Jvm.Cond.noSuperclass O).before a0 Z = true) (wk : (Jvm.Cond.instantiable K n).before a0 Z = true) (hn : O ≠ K) : NS Z O K := by
  obtain ⟨c, k, h1, h2, h3, -, -⟩ := Cond.noSuperclass_spec w
  obtain ⟨t, kt, g1, -⟩ := Cond.instantiable_spec wk
  have ne := ids_ne h1 g1 hn
  refine ⟨c, t, h1, g1, fun fuel => ?_⟩
  cases fuel with
  | zero => rfl
  | succ f => simp [Vm.isSubclassAux, ne, h2, h3]
theorem own_nsno {Z : State} {a0 : Array Value} {C S K : String} {n : Nat} (w : (Jvm.Cond.superclass C S).before a0 Z = true) (wk : (Jvm.Cond.instantiable K n).before a0 Z = true) (N : NS Z C K) (hn : C ≠ K) : ∃ c t, Z.vm.findClass C = some c ∧ Z.vm.findClass K = some t ∧ Z.vm.assignable c t = false := by
  obtain ⟨c, t, h0, g0, n3⟩ := N
  obtain ⟨p, k, kp, h1, h2, h3, h4, h5, -, h7⟩ := Cond.superclass_spec h0 w
  obtain ⟨t', kt, g1, g2, g3, g4, -⟩ := Cond.instantiable_spec wk
  cases g0.symm.trans g1
  have ne := ids_ne h0 g0 hn
  have g5 : kt.isInterface = false := by
    cases hq : kt.isInterface <;> simp [hq] at g4 ⊢
  refine ⟨c, t, h0, g0, ?_⟩
  show Z.vm.assignableAux (255 + 1) c t = false
  simp [Vm.assignableAux, ne, h2, g2, h5, g3, g5, Vm.isSubclass, n3]
theorem own_z0 {Z : State} {n0 : Nat} {h : Heap} (O : Old Z n0 h) : n0 ≤ h.size := O.1 ▸ O.2.1

theorem own_sel {s : State} {args : Array Value} {y : MethodName} {n : Nat} (wi : (Jvm.Cond.instantiable y.cls n).before args s = true) (wm : (Jvm.Cond.instanceMethod y).before args s = true) (wp : (Jvm.Cond.privateMethod y).before args s = true) (hy : y.cls ≠ "java/lang/invoke/MethodHandle" ∧ y.cls ≠ "java/lang/invoke/VarHandle") : (Jvm.Cond.selects y.cls y y).before args s = true := by
  obtain ⟨mk, methM, hnamed, hmethM, -, -⟩ := Cond.instanceMethod_spec wm
  obtain ⟨c, k, i1, i2, i3, i4, -⟩ := Cond.instantiable_spec wi
  have hsel : ∀ c', selectMethod {} s.vm c' mk = .method mk := fun c' => selectMethod_private hmethM (Cond.privateMethod_at wp mk methM hnamed hmethM)
  have hf := State.methodFound?_of_named hnamed hy
  have hcl := findClass_of_methodNamed hnamed
  cases i1.symm.trans hcl
  have hi : k.isInterface = false := by
    cases hq : k.isInterface <;> simp [hq] at i4 ⊢
  simp [Jvm.Cond.before, Jvm.Cond.holds, Jvm.Cond.value, i1, hf, hnamed, hsel, i2, hi]

abbrev WW (a0 : Array Value) (Z : State) : Prop := ∀ (i : Nat) {d : Jvm.Cond}, tables_1[i]? = some d → d.before a0 Z = true
/-- a method's contract: called with as' at the heap h it returns, and Q' tells of the value, the heap and the places -/
abbrev MF (l : Launch) (Z : State) (y : MethodName) (bytes : ByteArray) (maxL : Nat) (ret : Option FieldType) (ws : List Jvm.Cond) (rm : Room) (as' : Array Value) (h : Heap) (Q' : Option Value → Heap → List Loc → Prop) : Prop := MetFree l y (head1 (Jvm.Cond.code y bytes maxL ret :: ws) rm) (fun a U => a = as' ∧ Z.Warmed39 U.vm ∧ U.heap = h) (fun _ _ _ _ _ => True) (fun _ U o U' => ∃ v L, o = .returned v ∧ Q' v U'.heap L ∧ FrameEnd U o U' L rm.cells rm.slots)
section GCall
variable {p : Program} {l : Launch} {e : Env} {R : Room} {s : State} {m : MethodId} {args : Array Value} {below : List Frame} {meth : Method} {c : Code} {T : State} {locs : List Loc} {cells slots : Nat} {Q : Outcome → State → Prop} {Z : State} {h : Heap} {a0 : Array Value} {own C : String} {index n : Nat} {y : MethodName} {bytes : ByteArray} {maxL ml pc pc1 : Nat} {ret : Option FieldType} {rm : Room} {as' : Array Value} {Q' : Option Value → Heap → List Loc → Prop} {ps : List FieldType} {rr : Option FieldType} {rest stk : List Value} {L : Array Slot} {a : Addr}
theorem gopen {ws : List Jvm.Cond} {f' : MethodId → JFrame} (hpl : plainFor y = true) (hf : ∀ m, entryFrame m as' maxL = f' m)
    (k : ∀ (p : Program) (e : Env) (s : State) (m : MethodId) (below : List Frame) (meth : Method) (c : Code) (s₁ : State), meth.locks = false → meth.sig.returnType = ret → p.tables.exec = Jvm.exec → (∀ {pc : Nat} {r : Except DecodeError (Instr × Nat)}, decode bytes pc = r → decode c.code pc = r) → c.maxLocals = maxL → s.vm.findClass y.cls = some m.cls → meth.name = y.name → Z.Warmed39 s.vm → Stand p l e rm s m as' below meth c s₁ [] 0 0 → s₁.heap = h →
      ∀ R0, R0 = (fun o u => ∃ v L, o = .returned v ∧ Q' v u.heap L ∧ FrameEnd s o u L rm.cells rm.slots) → Gl p e below R0 s₁ (f' m)) : MF l Z y bytes maxL ret ws rm as' h Q' := by
  refine MetFree.of_bodySF hpl hisR ?_
  intro p e s m args below meth c s₁ Bd hml0 hP hK
  obtain ⟨rfl, hZ, hh⟩ := hP
  exact gkey (hf m) (fun R0 hR0 => k p e s m below meth c s₁ Bd.notSynchronized Bd.returns Bd.exec (fun h2 => hb Bd.bytes h2) hml0 (findClass_of_methodNamed Bd.named) (name_of_methodNamed Bd.named Bd.method).1 hZ (Stand.of_body Bd) (by rw [← hh, Bd.state]; rfl) R0 hR0)
theorem gcS (X : Stand p l e R s m args below meth c T locs cells slots) (hx : p.tables.exec = Jvm.exec) (hZ : Z.Warmed39 s.vm) (hml : c.maxLocals = ml) (hown : s.vm.findClass own = some m.cls) (lk : (Jvm.Cond.methodLink own index y).before a0 Z = true) (wz : (Jvm.Cond.initialized y.cls).before a0 Z = true) (cw : (Jvm.Cond.code y bytes maxL ret).before a0 Z = true) (wt : (Jvm.Cond.static y).before a0 Z = true) (eT : T.heap = h) (hM : MF l Z y bytes maxL ret [] rm as' h Q') (pd : parseMethodDescriptor y.desc = some ⟨ps, rr⟩) (hd : decode c.code pc = .ok (.invokestatic index, 3)) (W : Nat) (hs : stk = as'.toList.reverse ++ rest)
    (q : ∀ T' L' v, Stand p l e R s m args below meth c T' (locs ++ L') (cells + rm.cells) (slots + rm.slots) → Q' v T'.heap L' → Gl p e below Q T' (mkF m (pc + 3) L (v.toList ++ rest))) (hW : (rest.map fun v => v.category).sum = W := by rfl) (hn : as'.toList.length = ps.length := by rfl) (hL : L.size = ml := by rfl) (hpc : pc1 = pc := by rfl) (hy : y.cls ≠ "java/lang/invoke/MethodHandle" ∧ y.cls ≠ "java/lang/invoke/VarHandle" := by decide) (h1 : rm.frames + 1 ≤ R.frames := by decide) (h2 : W + (maxL + 11) + rm.locals ≤ R.locals := by decide) (h3 : cells + rm.cells ≤ R.cells := by decide) (h4 : slots + rm.slots ≤ R.slots := by decide) :
    Gl p e below Q T (mkF m pc1 L stk) := by
  rw [hpc]
  have hW2 : 2 * (mkF m pc L stk).monitorRoom + (rest.map fun v => v.category).sum ≤ W := by show 2 * 0 + _ ≤ _; omega
  have hBk := backOf (args := args) (p := p) (e := e) (below := below) (len := 3) hM hZ cw wz h1 h2
  have hPr : as'.toList.toArray = as' := by simp
  obtain ⟨v, _, ⟨T', L', k', n'⟩, -, X', ⟨Lc, hQ, e1, e2, e3⟩, st⟩ := Jvm.LawKit.callS X hx (y := y) hown (mvT hZ lk) (mvT hZ wt) (mvT hZ wz) (mvT hZ cw) hy hBk (g := mkF m pc L stk) rfl (by rw [hml]; exact hL) (argsL := as'.toList) (rest := rest) (lenOf pd hn) hs hW2 hd (fun _ _ => ⟨hPr, eT, h3, h4⟩)
  dsimp only [Pt.U, Pt.locs, Pt.cells, Pt.slots] at X' e1 e2 e3 st hQ
  subst e1 e2 e3
  exact gl st (q T' Lc v X' hQ)
theorem gcP (X : Stand p l e R s m args below meth c T locs cells slots) (hx : p.tables.exec = Jvm.exec) (hZ : Z.Warmed39 s.vm) (hml : c.maxLocals = ml) (hown : s.vm.findClass own = some m.cls) (lk : (Jvm.Cond.methodLink own index y).before a0 Z = true) (wz : (Jvm.Cond.initialized y.cls).before a0 Z = true) (cw : (Jvm.Cond.code y bytes maxL ret).before a0 Z = true) (wi : (Jvm.Cond.instantiable y.cls n).before a0 Z = true) (wm : (Jvm.Cond.instanceMethod y).before a0 Z = true) (wp : (Jvm.Cond.privateMethod y).before a0 Z = true) (eT : T.heap = h) (E : Exa Z h a C) (hM : MF l Z y bytes maxL ret [] rm as' h Q') (pd : parseMethodDescriptor y.desc = some ⟨ps, rr⟩) (hd : decode c.code pc = .ok (.invokevirtual index, 3)) (W : Nat) (hs : stk = as'.toList.tail.reverse ++ .ref a :: rest)
    (q : ∀ T' L' v, Stand p l e R s m args below meth c T' (locs ++ L') (cells + rm.cells) (slots + rm.slots) → Q' v T'.heap L' → Gl p e below Q T' (mkF m (pc + 3) L (v.toList ++ rest))) (hW : (rest.map fun v => v.category).sum = W := by rfl) (hn : as'.toList.tail.length = ps.length := by rfl) (ha : as' = (.ref a :: as'.toList.tail).toArray := by rfl) (hL : L.size = ml := by rfl) (hpc : pc1 = pc := by rfl) (hy : y.cls ≠ "java/lang/invoke/MethodHandle" ∧ y.cls ≠ "java/lang/invoke/VarHandle" := by decide) (h1 : rm.frames + 1 ≤ R.frames := by decide) (h2 : W + (maxL + 11) + rm.locals ≤ R.locals := by decide) (h3 : cells + rm.cells ≤ R.cells := by decide) (h4 : slots + rm.slots ≤ R.slots := by decide) :
    Gl p e below Q T (mkF m pc1 L stk) := by
  rw [hpc]
  have hW2 : 2 * (mkF m pc L stk).monitorRoom + (rest.map fun v => v.category).sum ≤ W := by show 2 * 0 + _ ≤ _; omega
  have hBk := backOf (args := args) (p := p) (e := e) (below := below) (len := 3) hM hZ cw wz h1 h2
  have hPr : (.ref a :: as'.toList.tail).toArray = as' := ha.symm
  obtain ⟨cq, q1, q2⟩ := E.cell
  obtain ⟨v, _, ⟨T', L', k', n'⟩, -, X', ⟨Lc, hQ, e1, e2, e3⟩, st⟩ := X.privateBack hx (y := y) hown (mvT hZ lk) (mvT hZ wm) (own_sel (mvT hZ wi) (mvT hZ wm) (mvP hZ wp) hy) (Cond.privateMethod_at (mvP hZ wp (args := #[]))) (mvT hZ cw) hy hBk (g := mkF m pc L stk) rfl (by rw [hml]; exact hL) (Steps.refl _) (a := a) (by rw [eT]; exact q1) q2 (argsL := as'.toList.tail) (rest := rest) (lenOf pd hn) hs hW2 hd (fun _ _ => ⟨hPr, eT, h3, h4⟩)
  dsimp only [Pt.U, Pt.locs, Pt.cells, Pt.slots] at X' e1 e2 e3 st hQ
  subst e1 e2 e3
  exact gl (fun _ => st.trans) (q T' Lc v X' hQ)
theorem gcV (X : Stand p l e R s m args below meth c T locs cells slots) (hx : p.tables.exec = Jvm.exec) (hZ : Z.Warmed39 s.vm) (hml : c.maxLocals = ml) (hown : s.vm.findClass own = some m.cls) (lk : (Jvm.Cond.methodLink own index y).before a0 Z = true) (wz : (Jvm.Cond.initialized y.cls).before a0 Z = true) (cw : (Jvm.Cond.code y bytes maxL ret).before a0 Z = true) (wd : (Jvm.Cond.declares y).before a0 Z = true) (ws : (Jvm.Cond.selects C y y).before a0 Z = true) (wm : (Jvm.Cond.instanceMethod y).before a0 Z = true) (eT : T.heap = h) (E : Exa Z h a C) (hM : MF l Z y bytes maxL ret [] rm as' h Q') (pd : parseMethodDescriptor y.desc = some ⟨ps, rr⟩) (hd : decode c.code pc = .ok (.invokevirtual index, 3)) (W : Nat) (hs : stk = as'.toList.tail.reverse ++ .ref a :: rest)
    (q : ∀ T' L' v, Stand p l e R s m args below meth c T' (locs ++ L') (cells + rm.cells) (slots + rm.slots) → Q' v T'.heap L' → Gl p e below Q T' (mkF m (pc + 3) L (v.toList ++ rest))) (hW : (rest.map fun v => v.category).sum = W := by rfl) (hn : as'.toList.tail.length = ps.length := by rfl) (ha : as' = (.ref a :: as'.toList.tail).toArray := by rfl) (hL : L.size = ml := by rfl) (hpc : pc1 = pc := by rfl) (hy : y.cls ≠ "java/lang/invoke/MethodHandle" ∧ y.cls ≠ "java/lang/invoke/VarHandle" := by decide) (h1 : rm.frames + 1 ≤ R.frames := by decide) (h2 : W + (maxL + 11) + rm.locals ≤ R.locals := by decide) (h3 : cells + rm.cells ≤ R.cells := by decide) (h4 : slots + rm.slots ≤ R.slots := by decide) :
    Gl p e below Q T (mkF m pc1 L stk) := by
  rw [hpc]
  have hW2 : 2 * (mkF m pc L stk).monitorRoom + (rest.map fun v => v.category).sum ≤ W := by show 2 * 0 + _ ≤ _; omega
  have hBk := backOf (args := args) (p := p) (e := e) (below := below) (len := 3) hM hZ cw wz h1 h2
  have hPr : (.ref a :: as'.toList.tail).toArray = as' := ha.symm
  obtain ⟨cq, kq, q1, q2, q3⟩ := isOf hZ eT E
  obtain ⟨v, _, ⟨T', L', k', n'⟩, -, X', ⟨Lc, hQ, e1, e2, e3⟩, st⟩ := X.virtualBack hx (y := y) (z := y) hown (mvT hZ lk) (mvT hZ wd) (notFace_of_selects (args := #[]) (mvT hZ ws)) (mvT hZ ws) (mvT hZ wm) hy hBk q1 q3 (g := mkF m pc L stk) rfl (by rw [hml]; exact hL) (Steps.refl _) (argsL := as'.toList.tail) (rest := rest) (lenOf pd hn) hs hW2 hd (fun _ _ => ⟨hPr, eT, h3, h4⟩)
  dsimp only [Pt.U, Pt.locs, Pt.cells, Pt.slots] at X' e1 e2 e3 st hQ
  subst e1 e2 e3
  exact gl (fun _ => st.trans) (q T' Lc v X' hQ)
theorem gcI (X : Stand p l e R s m args below meth c T locs cells slots) (hx : p.tables.exec = Jvm.exec) (hZ : Z.Warmed39 s.vm) (hml : c.maxLocals = ml) (hown : s.vm.findClass own = some m.cls) (lk : (Jvm.Cond.methodLink own index y).before a0 Z = true) (wz : (Jvm.Cond.initialized y.cls).before a0 Z = true) (cw : (Jvm.Cond.code y bytes maxL none).before a0 Z = true) (wm : (Jvm.Cond.instanceMethod y).before a0 Z = true) (eT : T.heap = h) (hM : MF l Z y bytes maxL none [] rm as' h Q') (pd : parseMethodDescriptor y.desc = some ⟨ps, rr⟩) (hnm : y.name = "<init>") (hd : decode c.code pc = .ok (.invokespecial index, 3)) (W : Nat) (hs : stk = as'.toList.tail.reverse ++ .ref a :: rest)
    (q : ∀ T' L' v, Stand p l e R s m args below meth c T' (locs ++ L') (cells + rm.cells) (slots + rm.slots) → Q' v T'.heap L' → Gl p e below Q T' (mkF m (pc + 3) L (v.toList ++ rest))) (hW : (rest.map fun v => v.category).sum = W := by rfl) (hn : as'.toList.tail.length = ps.length := by rfl) (ha : as' = (.ref a :: as'.toList.tail).toArray := by rfl) (hL : L.size = ml := by rfl) (hpc : pc1 = pc := by rfl) (hy : y.cls ≠ "java/lang/invoke/MethodHandle" ∧ y.cls ≠ "java/lang/invoke/VarHandle" := by decide) (h1 : rm.frames + 1 ≤ R.frames := by decide) (h2 : W + (maxL + 11) + rm.locals ≤ R.locals := by decide) (h3 : cells + rm.cells ≤ R.cells := by decide) (h4 : slots + rm.slots ≤ R.slots := by decide) :
    Gl p e below Q T (mkF m pc1 L stk) := by
  rw [hpc]
  have hW2 : 2 * (mkF m pc L stk).monitorRoom + (rest.map fun v => v.category).sum ≤ W := by show 2 * 0 + _ ≤ _; omega
  have hBk := backOf (args := args) (p := p) (e := e) (below := below) (len := 3) hM hZ cw wz h1 h2
  have hPr : (.ref a :: as'.toList.tail).toArray = as' := ha.symm
  obtain ⟨v, _, ⟨T', L', k', n'⟩, -, X', ⟨Lc, hQ, e1, e2, e3⟩, st⟩ := X.specialBack hx (y := y) hnm hown (mvT hZ lk) (mvT hZ wm) (mvT hZ cw) hy hBk (g := mkF m pc L stk) rfl (by rw [hml]; exact hL) (Steps.refl _) (a := a) (argsL := as'.toList.tail) (rest := rest) (lenOf pd hn) hs hW2 hd (fun _ _ => ⟨hPr, eT, h3, h4⟩)
  dsimp only [Pt.U, Pt.locs, Pt.cells, Pt.slots] at X' e1 e2 e3 st hQ
  subst e1 e2 e3
  exact gl (fun _ => st.trans) (q T' Lc v X' hQ)
end GCall

def ownIn (b v : Int32) : Prop := b.toInt ≤ v.toInt ∧ v.toInt < b.toInt + 65536
def ownBt (l u v : Int32) : Prop := l.toInt ≤ v.toInt ∧ v.toInt ≤ u.toInt
theorem own_nar (x : Int32) : ((nar .char x).toInt - x.toInt) % 65536 = 0 ∧ 0 ≤ (nar .char x).toInt ∧ (nar .char x).toInt < 65536 := c_i2c x
theorem own_get {b v : Int32} (h : ownIn b v) : (b + (nar .char (v - b))) = v := by
  apply Int32.toInt_inj.mp
  obtain ⟨h1, h2⟩ := h
  have e1 := own_nar (v - b)
  have e2 := c_isub v b
  have e3 := c_iadd b (nar .char (v - b))
  have r1 := rng32 (b + nar .char (v - b))
  have r2 := rng32 v
  omega
theorem own_ch (v b b' : Int32) : (nar .char (((nar .char (v - b)) + ((b - b').toUInt32.toUInt16.toUInt32.toInt32)).toUInt32.toUInt16.toUInt32.toInt32)) = (nar .char (v - b')) := by
  apply Int32.toInt_inj.mp
  have e1 := own_nar (v - b)
  have e2 := c_isub v b
  have e3 := c_i2c (b - b')
  have e4 := c_isub b b'
  have e5 := c_iadd (nar .char (v - b)) ((b - b').toUInt32.toUInt16.toUInt32.toInt32)
  have e6 := c_i2c ((nar .char (v - b)) + ((b - b').toUInt32.toUInt16.toUInt32.toInt32))
  have e7 := own_nar (((nar .char (v - b)) + ((b - b').toUInt32.toUInt16.toUInt32.toInt32)).toUInt32.toUInt16.toUInt32.toInt32)
  have e8 := own_nar (v - b')
  have e9 := c_isub v b'
  omega
theorem own_c1 (x : Int32) : (nar .char (x.toUInt32.toUInt16.toUInt32.toInt32)) = (nar .char x) := by
  apply Int32.toInt_inj.mp
  have e1 := own_nar x
  have e2 := c_i2c x
  have e3 := own_nar (x.toUInt32.toUInt16.toUInt32.toInt32)
  omega

theorem ef_maxI (m : MethodId) (x0 : Int32) (x1 : Int32) : entryFrame m #[(.int x0), (.int x1)] 2 = mkF m 0 #[vI x0, vI x1] [] := by first | (simp [entryFrame, mkF, argsToLocals, Value.category]; done) | rfl
abbrev c12 := jdk_29_method_65_code
theorem d12_0 : decode c12 0 = .ok (.iload_n 0, 1) := by decide +kernel
theorem d12_1 : decode c12 1 = .ok (.iload_n 1, 1) := by decide +kernel
theorem d12_2 : decode c12 2 = .ok (.if_icmp .lt 7, 3) := by decide +kernel
theorem d12_9 : decode c12 9 = .ok (.iload_n 1, 1) := by decide +kernel
theorem d12_10 : decode c12 10 = .ok (.ireturn, 1) := by decide +kernel
theorem d12_5 : decode c12 5 = .ok (.iload_n 0, 1) := by decide +kernel
theorem d12_6 : decode c12 6 = .ok (.goto 4, 3) := by decide +kernel
theorem ef_minI (m : MethodId) (x0 : Int32) (x1 : Int32) : entryFrame m #[(.int x0), (.int x1)] 2 = mkF m 0 #[vI x0, vI x1] [] := by first | (simp [entryFrame, mkF, argsToLocals, Value.category]; done) | rfl
abbrev c10 := jdk_29_method_69_code
theorem d10_0 : decode c10 0 = .ok (.iload_n 0, 1) := by decide +kernel
theorem d10_1 : decode c10 1 = .ok (.iload_n 1, 1) := by decide +kernel
theorem d10_2 : decode c10 2 = .ok (.if_icmp .gt 7, 3) := by decide +kernel
theorem d10_9 : decode c10 9 = .ok (.iload_n 1, 1) := by decide +kernel
theorem d10_10 : decode c10 10 = .ok (.ireturn, 1) := by decide +kernel
theorem d10_5 : decode c10 5 = .ok (.iload_n 0, 1) := by decide +kernel
theorem d10_6 : decode c10 6 = .ok (.goto 4, 3) := by decide +kernel
theorem ef_maxL (m : MethodId) (x0 : Int64) (x1 : Int64) : entryFrame m #[(.long x0), (.long x1)] 4 = mkF m 0 #[vJ x0, .second, vJ x1, .second] [] := by first | (simp [entryFrame, mkF, argsToLocals, Value.category]; done) | rfl
abbrev c8 := jdk_29_method_66_code
theorem d8_0 : decode c8 0 = .ok (.lload_n 0, 1) := by decide +kernel
theorem d8_1 : decode c8 1 = .ok (.lload_n 2, 1) := by decide +kernel
theorem d8_2 : decode c8 2 = .ok (.lcmp, 1) := by decide +kernel
theorem d8_3 : decode c8 3 = .ok (.ifCond .lt 7, 3) := by decide +kernel
theorem d8_10 : decode c8 10 = .ok (.lload_n 2, 1) := by decide +kernel
theorem d8_11 : decode c8 11 = .ok (.lreturn, 1) := by decide +kernel
theorem d8_6 : decode c8 6 = .ok (.lload_n 0, 1) := by decide +kernel
theorem d8_7 : decode c8 7 = .ok (.goto 4, 3) := by decide +kernel
theorem pn_RowValues : plainName "com/example/chaseward/chaseward/engine/RowValues" = true := by first | (simp [plainName, overriddenIn]; done) | decide +kernel
theorem ef_base (m : MethodId) (x0 : Int32) (x1 : Int32) : entryFrame m #[(.int x0), (.int x1)] 4 = mkF m 0 #[vI x0, vI x1, .unset, .unset] [] := by first | (simp [entryFrame, mkF, argsToLocals, Value.category]; done) | rfl
abbrev c7 := prog_47_method_8_code
theorem d7_0 : decode c7 0 = .ok (.ldc2_w 89, 3) := by decide +kernel
theorem d7_3 : decode c7 3 = .ok (.iload_n 1, 1) := by decide +kernel
theorem d7_4 : decode c7 4 = .ok (.i2l, 1) := by decide +kernel
theorem d7_5 : decode c7 5 = .ok (.iload_n 0, 1) := by decide +kernel
theorem d7_6 : decode c7 6 = .ok (.i2l, 1) := by decide +kernel
theorem d7_7 : decode c7 7 = .ok (.lsub, 1) := by decide +kernel
theorem d7_8 : decode c7 8 = .ok (.lsub, 1) := by decide +kernel
theorem d7_9 : decode c7 9 = .ok (.lstore_n 2, 1) := by decide +kernel
theorem d7_10 : decode c7 10 = .ok (.ldc2_w 93, 3) := by decide +kernel
theorem d7_13 : decode c7 13 = .ok (.iload_n 0, 1) := by decide +kernel
theorem d7_14 : decode c7 14 = .ok (.i2l, 1) := by decide +kernel
theorem d7_15 : decode c7 15 = .ok (.lload_n 2, 1) := by decide +kernel
theorem d7_16 : decode c7 16 = .ok (.ldc2_w 95, 3) := by decide +kernel
theorem d7_19 : decode c7 19 = .ok (.ldiv, 1) := by decide +kernel
theorem d7_20 : decode c7 20 = .ok (.lsub, 1) := by decide +kernel
theorem d7_21 : decode c7 21 = .ok (.invokestatic 97, 3) := by decide +kernel
theorem pd__JJ_J_5 : parseMethodDescriptor "(JJ)J" = some ⟨[.long, .long], some .long⟩ := by decide +kernel
theorem d7_24 : decode c7 24 = .ok (.l2i, 1) := by decide +kernel
theorem d7_25 : decode c7 25 = .ok (.ireturn, 1) := by decide +kernel
theorem ef_rvInit1 (m : MethodId) (x0 : Addr) : entryFrame m #[(.ref x0), (.int 1)] 2 = mkF m 0 #[vR x0, vI 1] [] := by first | (simp [entryFrame, mkF, argsToLocals, Value.category]; done) | rfl
abbrev c2 := prog_47_method_1_code
theorem d2_0 : decode c2 0 = .ok (.aload_n 0, 1) := by decide +kernel
theorem d2_1 : decode c2 1 = .ok (.invokespecial 1, 3) := by decide +kernel
theorem d2_4 : decode c2 4 = .ok (.aload_n 0, 1) := by decide +kernel
theorem d2_5 : decode c2 5 = .ok (.iconst 1, 1) := by decide +kernel
theorem d2_6 : decode c2 6 = .ok (.anewarray 7, 3) := by decide +kernel
theorem d2_9 : decode c2 9 = .ok (.putfield 9, 3) := by decide +kernel
theorem d2_12 : decode c2 12 = .ok (.aload_n 0, 1) := by decide +kernel
theorem d2_13 : decode c2 13 = .ok (.iconst 1, 1) := by decide +kernel
theorem d2_14 : decode c2 14 = .ok (.anewarray 15, 3) := by decide +kernel
theorem d2_17 : decode c2 17 = .ok (.putfield 17, 3) := by decide +kernel
theorem d2_20 : decode c2 20 = .ok (.aload_n 0, 1) := by decide +kernel
theorem d2_21 : decode c2 21 = .ok (.iload_n 1, 1) := by decide +kernel
theorem d2_22 : decode c2 22 = .ok (.putfield 21, 3) := by decide +kernel
theorem d2_25 : decode c2 25 = .ok (.aload_n 0, 1) := by decide +kernel
theorem d2_26 : decode c2 26 = .ok (.iload_n 1, 1) := by decide +kernel
theorem d2_27 : decode c2 27 = .ok (.newarray .int, 2) := by decide +kernel
theorem d2_29 : decode c2 29 = .ok (.putfield 25, 3) := by decide +kernel
theorem d2_32 : decode c2 32 = .ok (.aload_n 0, 1) := by decide +kernel
theorem d2_33 : decode c2 33 = .ok (.iload_n 1, 1) := by decide +kernel
theorem d2_34 : decode c2 34 = .ok (.newarray .int, 2) := by decide +kernel
theorem d2_36 : decode c2 36 = .ok (.putfield 28, 3) := by decide +kernel
theorem d2_39 : decode c2 39 = .ok (.aload_n 0, 1) := by decide +kernel
theorem d2_40 : decode c2 40 = .ok (.iload_n 1, 1) := by decide +kernel
theorem d2_41 : decode c2 41 = .ok (.newarray .int, 2) := by decide +kernel
theorem d2_43 : decode c2 43 = .ok (.putfield 31, 3) := by decide +kernel
theorem d2_46 : decode c2 46 = .ok (.aload_n 0, 1) := by decide +kernel
theorem d2_47 : decode c2 47 = .ok (.getfield 17, 3) := by decide +kernel
theorem d2_50 : decode c2 50 = .ok (.iconst 0, 1) := by decide +kernel
theorem d2_51 : decode c2 51 = .ok (.bipush 8, 2) := by decide +kernel
theorem d2_53 : decode c2 53 = .ok (.iload_n 1, 1) := by decide +kernel
theorem d2_54 : decode c2 54 = .ok (.imul, 1) := by decide +kernel
theorem d2_55 : decode c2 55 = .ok (.newarray .char, 2) := by decide +kernel
theorem d2_57 : decode c2 57 = .ok (.aastore, 1) := by decide +kernel
theorem d2_58 : decode c2 58 = .ok (.return_, 1) := by decide +kernel
theorem ef_start1 (m : MethodId) (x0 : Addr) (x2 : Addr) : entryFrame m #[(.ref x0), (.int 0), (.ref x2)] 4 = mkF m 0 #[vR x0, vI 0, vR x2, .unset] [] := by first | (simp [entryFrame, mkF, argsToLocals, Value.category]; done) | rfl
abbrev c6 := prog_47_method_5_code
theorem d6_0 : decode c6 0 = .ok (.iload_n 1, 1) := by decide +kernel
theorem d6_1 : decode c6 1 = .ok (.aload_n 0, 1) := by decide +kernel
theorem d6_2 : decode c6 2 = .ok (.getfield 9, 3) := by decide +kernel
theorem d6_5 : decode c6 5 = .ok (.arraylength, 1) := by decide +kernel
theorem d6_6 : decode c6 6 = .ok (.if_icmp .ne 56, 3) := by decide +kernel
theorem d6_62 : decode c6 62 = .ok (.iload_n 1, 1) := by decide +kernel
theorem d6_63 : decode c6 63 = .ok (.ifCond .le 19, 3) := by decide +kernel
theorem d6_82 : decode c6 82 = .ok (.iconst 0, 1) := by decide +kernel
theorem d6_83 : decode c6 83 = .ok (.istore_n 3, 1) := by decide +kernel
theorem d6_84 : decode c6 84 = .ok (.iload_n 3, 1) := by decide +kernel
theorem d6_85 : decode c6 85 = .ok (.aload_n 0, 1) := by decide +kernel
theorem d6_86 : decode c6 86 = .ok (.getfield 21, 3) := by decide +kernel
theorem d6_89 : decode c6 89 = .ok (.if_icmp .ge 31, 3) := by decide +kernel
theorem d6_92 : decode c6 92 = .ok (.aload_n 0, 1) := by decide +kernel
theorem d6_93 : decode c6 93 = .ok (.getfield 25, 3) := by decide +kernel
theorem d6_96 : decode c6 96 = .ok (.iload_n 1, 1) := by decide +kernel
theorem d6_97 : decode c6 97 = .ok (.aload_n 0, 1) := by decide +kernel
theorem d6_98 : decode c6 98 = .ok (.getfield 21, 3) := by decide +kernel
theorem d6_101 : decode c6 101 = .ok (.imul, 1) := by decide +kernel
theorem d6_102 : decode c6 102 = .ok (.iload_n 3, 1) := by decide +kernel
theorem d6_103 : decode c6 103 = .ok (.iadd, 1) := by decide +kernel
theorem d6_104 : decode c6 104 = .ok (.aload_n 2, 1) := by decide +kernel
theorem d6_105 : decode c6 105 = .ok (.iload_n 3, 1) := by decide +kernel
theorem d6_106 : decode c6 106 = .ok (.iaload, 1) := by decide +kernel
theorem d6_107 : decode c6 107 = .ok (.aload_n 2, 1) := by decide +kernel
theorem d6_108 : decode c6 108 = .ok (.iload_n 3, 1) := by decide +kernel
theorem d6_109 : decode c6 109 = .ok (.iaload, 1) := by decide +kernel
theorem d6_110 : decode c6 110 = .ok (.invokestatic 63, 3) := by decide +kernel
theorem pd__II_I_5 : parseMethodDescriptor "(II)I" = some ⟨[.int, .int], some .int⟩ := by decide +kernel
theorem d6_113 : decode c6 113 = .ok (.iastore, 1) := by decide +kernel
theorem d6_114 : decode c6 114 = .ok (.iinc 3 1, 3) := by decide +kernel
theorem d6_117 : decode c6 117 = .ok (.goto (-33), 3) := by decide +kernel
theorem d6_120 : decode c6 120 = .ok (.aload_n 2, 1) := by decide +kernel
theorem d6_121 : decode c6 121 = .ok (.iconst 0, 1) := by decide +kernel
theorem d6_122 : decode c6 122 = .ok (.aload_n 0, 1) := by decide +kernel
theorem d6_123 : decode c6 123 = .ok (.getfield 28, 3) := by decide +kernel
theorem d6_126 : decode c6 126 = .ok (.iconst 0, 1) := by decide +kernel
theorem d6_127 : decode c6 127 = .ok (.aload_n 0, 1) := by decide +kernel
theorem d6_128 : decode c6 128 = .ok (.getfield 21, 3) := by decide +kernel
theorem d6_131 : decode c6 131 = .ok (.invokestatic 67, 3) := by decide +kernel
theorem d6_134 : decode c6 134 = .ok (.aload_n 2, 1) := by decide +kernel
theorem d6_135 : decode c6 135 = .ok (.iconst 0, 1) := by decide +kernel
theorem d6_136 : decode c6 136 = .ok (.aload_n 0, 1) := by decide +kernel
theorem d6_137 : decode c6 137 = .ok (.getfield 31, 3) := by decide +kernel
theorem d6_140 : decode c6 140 = .ok (.iconst 0, 1) := by decide +kernel
theorem d6_141 : decode c6 141 = .ok (.aload_n 0, 1) := by decide +kernel
theorem d6_142 : decode c6 142 = .ok (.getfield 21, 3) := by decide +kernel
theorem d6_145 : decode c6 145 = .ok (.invokestatic 67, 3) := by decide +kernel
theorem d6_148 : decode c6 148 = .ok (.return_, 1) := by decide +kernel
theorem ef_room1N0 (m : MethodId) (x0 : Addr) : entryFrame m #[(.ref x0), (.int 0), (.int 0)] 5 = mkF m 0 #[vR x0, vI 0, vI 0, .unset, .unset] [] := by first | (simp [entryFrame, mkF, argsToLocals, Value.category]; done) | rfl
abbrev c9 := prog_47_method_6_code
theorem d9_0 : decode c9 0 = .ok (.iload_n 2, 1) := by decide +kernel
theorem d9_1 : decode c9 1 = .ok (.iconst 1, 1) := by decide +kernel
theorem d9_2 : decode c9 2 = .ok (.iadd, 1) := by decide +kernel
theorem d9_3 : decode c9 3 = .ok (.aload_n 0, 1) := by decide +kernel
theorem d9_4 : decode c9 4 = .ok (.getfield 21, 3) := by decide +kernel
theorem d9_7 : decode c9 7 = .ok (.imul, 1) := by decide +kernel
theorem d9_8 : decode c9 8 = .ok (.istore_n 3, 1) := by decide +kernel
theorem d9_9 : decode c9 9 = .ok (.iconst 2, 1) := by decide +kernel
theorem d9_10 : decode c9 10 = .ok (.iload_n 2, 1) := by decide +kernel
theorem d9_11 : decode c9 11 = .ok (.imul, 1) := by decide +kernel
theorem d9_12 : decode c9 12 = .ok (.sipush 4096, 3) := by decide +kernel
theorem d9_15 : decode c9 15 = .ok (.invokestatic 73, 3) := by decide +kernel
theorem d9_18 : decode c9 18 = .ok (.aload_n 0, 1) := by decide +kernel
theorem d9_19 : decode c9 19 = .ok (.getfield 21, 3) := by decide +kernel
theorem d9_22 : decode c9 22 = .ok (.imul, 1) := by decide +kernel
theorem d9_23 : decode c9 23 = .ok (.istore 4, 2) := by decide +kernel
theorem d9_25 : decode c9 25 = .ok (.aload_n 0, 1) := by decide +kernel
theorem d9_26 : decode c9 26 = .ok (.getfield 17, 3) := by decide +kernel
theorem d9_29 : decode c9 29 = .ok (.iload_n 1, 1) := by decide +kernel
theorem d9_30 : decode c9 30 = .ok (.aaload, 1) := by decide +kernel
theorem d9_31 : decode c9 31 = .ok (.ifnull 34, 3) := by decide +kernel
theorem d9_34 : decode c9 34 = .ok (.iload_n 3, 1) := by decide +kernel
theorem d9_35 : decode c9 35 = .ok (.aload_n 0, 1) := by decide +kernel
theorem d9_36 : decode c9 36 = .ok (.getfield 17, 3) := by decide +kernel
theorem d9_39 : decode c9 39 = .ok (.iload_n 1, 1) := by decide +kernel
theorem d9_40 : decode c9 40 = .ok (.aaload, 1) := by decide +kernel
theorem d9_41 : decode c9 41 = .ok (.arraylength, 1) := by decide +kernel
theorem d9_42 : decode c9 42 = .ok (.if_icmp .le 23, 3) := by decide +kernel
theorem d9_65 : decode c9 65 = .ok (.aload_n 0, 1) := by decide +kernel
theorem d9_66 : decode c9 66 = .ok (.getfield 9, 3) := by decide +kernel
theorem d9_69 : decode c9 69 = .ok (.iload_n 1, 1) := by decide +kernel
theorem d9_70 : decode c9 70 = .ok (.aaload, 1) := by decide +kernel
theorem d9_71 : decode c9 71 = .ok (.ifnull 31, 3) := by decide +kernel
theorem d9_102 : decode c9 102 = .ok (.return_, 1) := by decide +kernel
theorem ef_room1N1 (m : MethodId) (x0 : Addr) : entryFrame m #[(.ref x0), (.int 0), (.int 1)] 5 = mkF m 0 #[vR x0, vI 0, vI 1, .unset, .unset] [] := by first | (simp [entryFrame, mkF, argsToLocals, Value.category]; done) | rfl
theorem ef_room1N2 (m : MethodId) (x0 : Addr) : entryFrame m #[(.ref x0), (.int 0), (.int 2)] 5 = mkF m 0 #[vR x0, vI 0, vI 2, .unset, .unset] [] := by first | (simp [entryFrame, mkF, argsToLocals, Value.category]; done) | rfl
theorem ef_room1W2 (m : MethodId) (x0 : Addr) : entryFrame m #[(.ref x0), (.int 0), (.int 2)] 5 = mkF m 0 #[vR x0, vI 0, vI 2, .unset, .unset] [] := by first | (simp [entryFrame, mkF, argsToLocals, Value.category]; done) | rfl
theorem d9_74 : decode c9 74 = .ok (.iload_n 3, 1) := by decide +kernel
theorem d9_75 : decode c9 75 = .ok (.aload_n 0, 1) := by decide +kernel
theorem d9_76 : decode c9 76 = .ok (.getfield 9, 3) := by decide +kernel
theorem d9_79 : decode c9 79 = .ok (.iload_n 1, 1) := by decide +kernel
theorem d9_80 : decode c9 80 = .ok (.aaload, 1) := by decide +kernel
theorem d9_81 : decode c9 81 = .ok (.arraylength, 1) := by decide +kernel
theorem d9_82 : decode c9 82 = .ok (.if_icmp .le 20, 3) := by decide +kernel
theorem ef_fit1_0 (m : MethodId) (x0 : Addr) (x3 : Addr) : entryFrame m #[(.ref x0), (.int 0), (.int 0), (.ref x3)] 11 = mkF m 0 #[vR x0, vI 0, vI 0, vR x3, .unset, .unset, .unset, .unset, .unset, .unset, .unset] [] := by first | (simp [entryFrame, mkF, argsToLocals, Value.category]; done) | rfl
abbrev c11 := prog_47_method_7_code
theorem d11_0 : decode c11 0 = .ok (.iconst 0, 1) := by decide +kernel
theorem d11_1 : decode c11 1 = .ok (.istore 4, 2) := by decide +kernel
theorem d11_3 : decode c11 3 = .ok (.iload 4, 2) := by decide +kernel
theorem d11_5 : decode c11 5 = .ok (.aload_n 0, 1) := by decide +kernel
theorem d11_6 : decode c11 6 = .ok (.getfield 21, 3) := by decide +kernel
theorem d11_9 : decode c11 9 = .ok (.if_icmp .ge 58, 3) := by decide +kernel
theorem d11_12 : decode c11 12 = .ok (.aload_n 3, 1) := by decide +kernel
theorem d11_13 : decode c11 13 = .ok (.iload 4, 2) := by decide +kernel
theorem d11_15 : decode c11 15 = .ok (.iaload, 1) := by decide +kernel
theorem d11_16 : decode c11 16 = .ok (.aload_n 0, 1) := by decide +kernel
theorem d11_17 : decode c11 17 = .ok (.getfield 31, 3) := by decide +kernel
theorem d11_20 : decode c11 20 = .ok (.iload 4, 2) := by decide +kernel
theorem d11_22 : decode c11 22 = .ok (.iaload, 1) := by decide +kernel
theorem d11_23 : decode c11 23 = .ok (.invokestatic 81, 3) := by decide +kernel
theorem d11_26 : decode c11 26 = .ok (.i2l, 1) := by decide +kernel
theorem d11_27 : decode c11 27 = .ok (.aload_n 3, 1) := by decide +kernel
theorem d11_28 : decode c11 28 = .ok (.iload 4, 2) := by decide +kernel
theorem d11_30 : decode c11 30 = .ok (.iaload, 1) := by decide +kernel
theorem d11_31 : decode c11 31 = .ok (.aload_n 0, 1) := by decide +kernel
theorem d11_32 : decode c11 32 = .ok (.getfield 28, 3) := by decide +kernel
theorem d11_35 : decode c11 35 = .ok (.iload 4, 2) := by decide +kernel
theorem d11_37 : decode c11 37 = .ok (.iaload, 1) := by decide +kernel
theorem d11_38 : decode c11 38 = .ok (.invokestatic 73, 3) := by decide +kernel
theorem d11_41 : decode c11 41 = .ok (.i2l, 1) := by decide +kernel
theorem d11_42 : decode c11 42 = .ok (.lsub, 1) := by decide +kernel
theorem d11_43 : decode c11 43 = .ok (.lstore 5, 2) := by decide +kernel
theorem d11_45 : decode c11 45 = .ok (.lload 5, 2) := by decide +kernel
theorem d11_47 : decode c11 47 = .ok (.ldc2_w 84, 3) := by decide +kernel
theorem d11_50 : decode c11 50 = .ok (.lcmp, 1) := by decide +kernel
theorem d11_51 : decode c11 51 = .ok (.ifCond .lt 10, 3) := by decide +kernel
theorem d11_61 : decode c11 61 = .ok (.iinc 4 1, 3) := by decide +kernel
theorem d11_64 : decode c11 64 = .ok (.goto (-61), 3) := by decide +kernel
theorem d11_67 : decode c11 67 = .ok (.iconst 0, 1) := by decide +kernel
theorem d11_68 : decode c11 68 = .ok (.istore 4, 2) := by decide +kernel
theorem d11_70 : decode c11 70 = .ok (.iload 4, 2) := by decide +kernel
theorem d11_72 : decode c11 72 = .ok (.aload_n 0, 1) := by decide +kernel
theorem d11_73 : decode c11 73 = .ok (.getfield 21, 3) := by decide +kernel
theorem d11_76 : decode c11 76 = .ok (.if_icmp .ge 179, 3) := by decide +kernel
theorem d11_79 : decode c11 79 = .ok (.aload_n 0, 1) := by decide +kernel
theorem d11_80 : decode c11 80 = .ok (.getfield 28, 3) := by decide +kernel
theorem d11_83 : decode c11 83 = .ok (.iload 4, 2) := by decide +kernel
theorem d11_85 : decode c11 85 = .ok (.aload_n 3, 1) := by decide +kernel
theorem d11_86 : decode c11 86 = .ok (.iload 4, 2) := by decide +kernel
theorem d11_88 : decode c11 88 = .ok (.iaload, 1) := by decide +kernel
theorem d11_89 : decode c11 89 = .ok (.aload_n 0, 1) := by decide +kernel
theorem d11_90 : decode c11 90 = .ok (.getfield 28, 3) := by decide +kernel
theorem d11_93 : decode c11 93 = .ok (.iload 4, 2) := by decide +kernel
theorem d11_95 : decode c11 95 = .ok (.iaload, 1) := by decide +kernel
theorem d11_96 : decode c11 96 = .ok (.invokestatic 73, 3) := by decide +kernel
theorem d11_99 : decode c11 99 = .ok (.iastore, 1) := by decide +kernel
theorem d11_100 : decode c11 100 = .ok (.aload_n 0, 1) := by decide +kernel
theorem d11_101 : decode c11 101 = .ok (.getfield 31, 3) := by decide +kernel
theorem d11_104 : decode c11 104 = .ok (.iload 4, 2) := by decide +kernel
theorem d11_106 : decode c11 106 = .ok (.aload_n 3, 1) := by decide +kernel
theorem d11_107 : decode c11 107 = .ok (.iload 4, 2) := by decide +kernel
theorem d11_109 : decode c11 109 = .ok (.iaload, 1) := by decide +kernel
theorem d11_110 : decode c11 110 = .ok (.aload_n 0, 1) := by decide +kernel
theorem d11_111 : decode c11 111 = .ok (.getfield 31, 3) := by decide +kernel
theorem d11_114 : decode c11 114 = .ok (.iload 4, 2) := by decide +kernel
theorem d11_116 : decode c11 116 = .ok (.iaload, 1) := by decide +kernel
theorem d11_117 : decode c11 117 = .ok (.invokestatic 81, 3) := by decide +kernel
theorem d11_120 : decode c11 120 = .ok (.iastore, 1) := by decide +kernel
theorem d11_121 : decode c11 121 = .ok (.aload_n 0, 1) := by decide +kernel
theorem d11_122 : decode c11 122 = .ok (.getfield 25, 3) := by decide +kernel
theorem d11_125 : decode c11 125 = .ok (.iload_n 1, 1) := by decide +kernel
theorem d11_126 : decode c11 126 = .ok (.aload_n 0, 1) := by decide +kernel
theorem d11_127 : decode c11 127 = .ok (.getfield 21, 3) := by decide +kernel
theorem d11_130 : decode c11 130 = .ok (.imul, 1) := by decide +kernel
theorem d11_131 : decode c11 131 = .ok (.iload 4, 2) := by decide +kernel
theorem d11_133 : decode c11 133 = .ok (.iadd, 1) := by decide +kernel
theorem d11_134 : decode c11 134 = .ok (.iaload, 1) := by decide +kernel
theorem d11_135 : decode c11 135 = .ok (.istore 5, 2) := by decide +kernel
theorem d11_137 : decode c11 137 = .ok (.aload_n 3, 1) := by decide +kernel
theorem d11_138 : decode c11 138 = .ok (.iload 4, 2) := by decide +kernel
theorem d11_140 : decode c11 140 = .ok (.iaload, 1) := by decide +kernel
theorem d11_141 : decode c11 141 = .ok (.i2l, 1) := by decide +kernel
theorem d11_142 : decode c11 142 = .ok (.iload 5, 2) := by decide +kernel
theorem d11_144 : decode c11 144 = .ok (.i2l, 1) := by decide +kernel
theorem d11_145 : decode c11 145 = .ok (.lsub, 1) := by decide +kernel
theorem d11_146 : decode c11 146 = .ok (.lstore 6, 2) := by decide +kernel
theorem d11_148 : decode c11 148 = .ok (.lload 6, 2) := by decide +kernel
theorem d11_150 : decode c11 150 = .ok (.lconst 0, 1) := by decide +kernel
theorem d11_151 : decode c11 151 = .ok (.lcmp, 1) := by decide +kernel
theorem d11_152 : decode c11 152 = .ok (.ifCond .lt 12, 3) := by decide +kernel
theorem d11_155 : decode c11 155 = .ok (.lload 6, 2) := by decide +kernel
theorem d11_157 : decode c11 157 = .ok (.ldc2_w 84, 3) := by decide +kernel
theorem d11_160 : decode c11 160 = .ok (.lcmp, 1) := by decide +kernel
theorem d11_161 : decode c11 161 = .ok (.ifCond .lt 88, 3) := by decide +kernel
theorem d11_249 : decode c11 249 = .ok (.iinc 4 1, 3) := by decide +kernel
theorem d11_252 : decode c11 252 = .ok (.goto (-182), 3) := by decide +kernel
theorem d11_255 : decode c11 255 = .ok (.return_, 1) := by decide +kernel
theorem ef_fit1_1 (m : MethodId) (x0 : Addr) (x3 : Addr) : entryFrame m #[(.ref x0), (.int 0), (.int 1), (.ref x3)] 11 = mkF m 0 #[vR x0, vI 0, vI 1, vR x3, .unset, .unset, .unset, .unset, .unset, .unset, .unset] [] := by first | (simp [entryFrame, mkF, argsToLocals, Value.category]; done) | rfl
theorem d11_164 : decode c11 164 = .ok (.aload_n 0, 1) := by decide +kernel
theorem d11_165 : decode c11 165 = .ok (.getfield 28, 3) := by decide +kernel
theorem d11_168 : decode c11 168 = .ok (.iload 4, 2) := by decide +kernel
theorem d11_170 : decode c11 170 = .ok (.iaload, 1) := by decide +kernel
theorem d11_171 : decode c11 171 = .ok (.aload_n 0, 1) := by decide +kernel
theorem d11_172 : decode c11 172 = .ok (.getfield 31, 3) := by decide +kernel
theorem d11_175 : decode c11 175 = .ok (.iload 4, 2) := by decide +kernel
theorem d11_177 : decode c11 177 = .ok (.iaload, 1) := by decide +kernel
theorem d11_178 : decode c11 178 = .ok (.invokestatic 63, 3) := by decide +kernel
theorem d11_181 : decode c11 181 = .ok (.istore 8, 2) := by decide +kernel
theorem d11_183 : decode c11 183 = .ok (.aload_n 0, 1) := by decide +kernel
theorem d11_184 : decode c11 184 = .ok (.getfield 17, 3) := by decide +kernel
theorem d11_187 : decode c11 187 = .ok (.iload_n 1, 1) := by decide +kernel
theorem d11_188 : decode c11 188 = .ok (.aaload, 1) := by decide +kernel
theorem d11_189 : decode c11 189 = .ok (.astore 9, 2) := by decide +kernel
theorem d11_191 : decode c11 191 = .ok (.iload 4, 2) := by decide +kernel
theorem d11_193 : decode c11 193 = .ok (.istore 10, 2) := by decide +kernel
theorem d11_195 : decode c11 195 = .ok (.iload 10, 2) := by decide +kernel
theorem d11_197 : decode c11 197 = .ok (.iload_n 2, 1) := by decide +kernel
theorem d11_198 : decode c11 198 = .ok (.aload_n 0, 1) := by decide +kernel
theorem d11_199 : decode c11 199 = .ok (.getfield 21, 3) := by decide +kernel
theorem d11_202 : decode c11 202 = .ok (.imul, 1) := by decide +kernel
theorem d11_203 : decode c11 203 = .ok (.if_icmp .ge 30, 3) := by decide +kernel
theorem d11_206 : decode c11 206 = .ok (.aload 9, 2) := by decide +kernel
theorem d11_208 : decode c11 208 = .ok (.iload 10, 2) := by decide +kernel
theorem d11_210 : decode c11 210 = .ok (.dup2, 1) := by decide +kernel
theorem d11_211 : decode c11 211 = .ok (.caload, 1) := by decide +kernel
theorem d11_212 : decode c11 212 = .ok (.iload 5, 2) := by decide +kernel
theorem d11_214 : decode c11 214 = .ok (.iload 8, 2) := by decide +kernel
theorem d11_216 : decode c11 216 = .ok (.isub, 1) := by decide +kernel
theorem d11_217 : decode c11 217 = .ok (.i2c, 1) := by decide +kernel
theorem d11_218 : decode c11 218 = .ok (.iadd, 1) := by decide +kernel
theorem d11_219 : decode c11 219 = .ok (.i2c, 1) := by decide +kernel
theorem d11_220 : decode c11 220 = .ok (.castore, 1) := by decide +kernel
theorem d11_221 : decode c11 221 = .ok (.iload 10, 2) := by decide +kernel
theorem d11_223 : decode c11 223 = .ok (.aload_n 0, 1) := by decide +kernel
theorem d11_224 : decode c11 224 = .ok (.getfield 21, 3) := by decide +kernel
theorem d11_227 : decode c11 227 = .ok (.iadd, 1) := by decide +kernel
theorem d11_228 : decode c11 228 = .ok (.istore 10, 2) := by decide +kernel
theorem d11_230 : decode c11 230 = .ok (.goto (-35), 3) := by decide +kernel
theorem d11_233 : decode c11 233 = .ok (.aload_n 0, 1) := by decide +kernel
theorem d11_234 : decode c11 234 = .ok (.getfield 25, 3) := by decide +kernel
theorem d11_237 : decode c11 237 = .ok (.iload_n 1, 1) := by decide +kernel
theorem d11_238 : decode c11 238 = .ok (.aload_n 0, 1) := by decide +kernel
theorem d11_239 : decode c11 239 = .ok (.getfield 21, 3) := by decide +kernel
theorem d11_242 : decode c11 242 = .ok (.imul, 1) := by decide +kernel
theorem d11_243 : decode c11 243 = .ok (.iload 4, 2) := by decide +kernel
theorem d11_245 : decode c11 245 = .ok (.iadd, 1) := by decide +kernel
theorem d11_246 : decode c11 246 = .ok (.iload 8, 2) := by decide +kernel
theorem d11_248 : decode c11 248 = .ok (.iastore, 1) := by decide +kernel
theorem ef_fit1_2 (m : MethodId) (x0 : Addr) (x3 : Addr) : entryFrame m #[(.ref x0), (.int 0), (.int 2), (.ref x3)] 11 = mkF m 0 #[vR x0, vI 0, vI 2, vR x3, .unset, .unset, .unset, .unset, .unset, .unset, .unset] [] := by first | (simp [entryFrame, mkF, argsToLocals, Value.category]; done) | rfl
theorem ef_get1N (m : MethodId) (x0 : Addr) (x1 : Int32) (x2 : Int32) : entryFrame m #[(.ref x0), (.int x1), (.int x2)] 6 = mkF m 0 #[vR x0, vI x1, vI x2, .unset, .unset, .unset] [] := by first | (simp [entryFrame, mkF, argsToLocals, Value.category]; done) | rfl
abbrev c13 := prog_47_method_3_code
theorem d13_0 : decode c13 0 = .ok (.iload_n 1, 1) := by decide +kernel
theorem d13_1 : decode c13 1 = .ok (.getstatic 37, 3) := by decide +kernel
theorem d13_4 : decode c13 4 = .ok (.iushr, 1) := by decide +kernel
theorem d13_5 : decode c13 5 = .ok (.istore_n 3, 1) := by decide +kernel
theorem d13_6 : decode c13 6 = .ok (.iload_n 1, 1) := by decide +kernel
theorem d13_7 : decode c13 7 = .ok (.sipush 4095, 3) := by decide +kernel
theorem d13_10 : decode c13 10 = .ok (.iand, 1) := by decide +kernel
theorem d13_11 : decode c13 11 = .ok (.aload_n 0, 1) := by decide +kernel
theorem d13_12 : decode c13 12 = .ok (.getfield 21, 3) := by decide +kernel
theorem d13_15 : decode c13 15 = .ok (.imul, 1) := by decide +kernel
theorem d13_16 : decode c13 16 = .ok (.iload_n 2, 1) := by decide +kernel
theorem d13_17 : decode c13 17 = .ok (.iadd, 1) := by decide +kernel
theorem d13_18 : decode c13 18 = .ok (.istore 4, 2) := by decide +kernel
theorem d13_20 : decode c13 20 = .ok (.aload_n 0, 1) := by decide +kernel
theorem d13_21 : decode c13 21 = .ok (.getfield 17, 3) := by decide +kernel
theorem d13_24 : decode c13 24 = .ok (.iload_n 3, 1) := by decide +kernel
theorem d13_25 : decode c13 25 = .ok (.aaload, 1) := by decide +kernel
theorem d13_26 : decode c13 26 = .ok (.astore 5, 2) := by decide +kernel
theorem d13_28 : decode c13 28 = .ok (.aload 5, 2) := by decide +kernel
theorem d13_30 : decode c13 30 = .ok (.ifnull 25, 3) := by decide +kernel
theorem d13_33 : decode c13 33 = .ok (.aload_n 0, 1) := by decide +kernel
theorem d13_34 : decode c13 34 = .ok (.getfield 25, 3) := by decide +kernel
theorem d13_37 : decode c13 37 = .ok (.iload_n 3, 1) := by decide +kernel
theorem d13_38 : decode c13 38 = .ok (.aload_n 0, 1) := by decide +kernel
theorem d13_39 : decode c13 39 = .ok (.getfield 21, 3) := by decide +kernel
theorem d13_42 : decode c13 42 = .ok (.imul, 1) := by decide +kernel
theorem d13_43 : decode c13 43 = .ok (.iload_n 2, 1) := by decide +kernel
theorem d13_44 : decode c13 44 = .ok (.iadd, 1) := by decide +kernel
theorem d13_45 : decode c13 45 = .ok (.iaload, 1) := by decide +kernel
theorem d13_46 : decode c13 46 = .ok (.aload 5, 2) := by decide +kernel
theorem d13_48 : decode c13 48 = .ok (.iload 4, 2) := by decide +kernel
theorem d13_50 : decode c13 50 = .ok (.caload, 1) := by decide +kernel
theorem d13_51 : decode c13 51 = .ok (.iadd, 1) := by decide +kernel
theorem d13_52 : decode c13 52 = .ok (.goto 12, 3) := by decide +kernel
theorem d13_64 : decode c13 64 = .ok (.ireturn, 1) := by decide +kernel
theorem ef_get1W (m : MethodId) (x0 : Addr) (x1 : Int32) (x2 : Int32) : entryFrame m #[(.ref x0), (.int x1), (.int x2)] 6 = mkF m 0 #[vR x0, vI x1, vI x2, .unset, .unset, .unset] [] := by first | (simp [entryFrame, mkF, argsToLocals, Value.category]; done) | rfl
theorem d13_55 : decode c13 55 = .ok (.aload_n 0, 1) := by decide +kernel
theorem d13_56 : decode c13 56 = .ok (.getfield 9, 3) := by decide +kernel
theorem d13_59 : decode c13 59 = .ok (.iload_n 3, 1) := by decide +kernel
theorem d13_60 : decode c13 60 = .ok (.aaload, 1) := by decide +kernel
theorem d13_61 : decode c13 61 = .ok (.iload 4, 2) := by decide +kernel
theorem d13_63 : decode c13 63 = .ok (.iaload, 1) := by decide +kernel
theorem ef_widen1_1 (m : MethodId) (x0 : Addr) : entryFrame m #[(.ref x0), (.int 0), (.int 1)] 6 = mkF m 0 #[vR x0, vI 0, vI 1, .unset, .unset, .unset] [] := by first | (simp [entryFrame, mkF, argsToLocals, Value.category]; done) | rfl
abbrev c14 := prog_47_method_9_code
theorem d14_0 : decode c14 0 = .ok (.aload_n 0, 1) := by decide +kernel
theorem d14_1 : decode c14 1 = .ok (.getfield 17, 3) := by decide +kernel
theorem d14_4 : decode c14 4 = .ok (.iload_n 1, 1) := by decide +kernel
theorem d14_5 : decode c14 5 = .ok (.aaload, 1) := by decide +kernel
theorem d14_6 : decode c14 6 = .ok (.arraylength, 1) := by decide +kernel
theorem d14_7 : decode c14 7 = .ok (.newarray .int, 2) := by decide +kernel
theorem d14_9 : decode c14 9 = .ok (.astore_n 3, 1) := by decide +kernel
theorem d14_10 : decode c14 10 = .ok (.iconst 0, 1) := by decide +kernel
theorem d14_11 : decode c14 11 = .ok (.istore 4, 2) := by decide +kernel
theorem d14_13 : decode c14 13 = .ok (.iload 4, 2) := by decide +kernel
theorem d14_15 : decode c14 15 = .ok (.iload_n 2, 1) := by decide +kernel
theorem d14_16 : decode c14 16 = .ok (.if_icmp .ge 53, 3) := by decide +kernel
theorem d14_19 : decode c14 19 = .ok (.iconst 0, 1) := by decide +kernel
theorem d14_20 : decode c14 20 = .ok (.istore 5, 2) := by decide +kernel
theorem d14_22 : decode c14 22 = .ok (.iload 5, 2) := by decide +kernel
theorem d14_24 : decode c14 24 = .ok (.aload_n 0, 1) := by decide +kernel
theorem d14_25 : decode c14 25 = .ok (.getfield 21, 3) := by decide +kernel
theorem d14_28 : decode c14 28 = .ok (.if_icmp .ge 35, 3) := by decide +kernel
theorem d14_31 : decode c14 31 = .ok (.aload_n 3, 1) := by decide +kernel
theorem d14_32 : decode c14 32 = .ok (.iload 4, 2) := by decide +kernel
theorem d14_34 : decode c14 34 = .ok (.aload_n 0, 1) := by decide +kernel
theorem d14_35 : decode c14 35 = .ok (.getfield 21, 3) := by decide +kernel
theorem d14_38 : decode c14 38 = .ok (.imul, 1) := by decide +kernel
theorem d14_39 : decode c14 39 = .ok (.iload 5, 2) := by decide +kernel
theorem d14_41 : decode c14 41 = .ok (.iadd, 1) := by decide +kernel
theorem d14_42 : decode c14 42 = .ok (.aload_n 0, 1) := by decide +kernel
theorem d14_43 : decode c14 43 = .ok (.iload_n 1, 1) := by decide +kernel
theorem d14_44 : decode c14 44 = .ok (.sipush 4096, 3) := by decide +kernel
theorem d14_47 : decode c14 47 = .ok (.imul, 1) := by decide +kernel
theorem d14_48 : decode c14 48 = .ok (.iload 4, 2) := by decide +kernel
theorem d14_50 : decode c14 50 = .ok (.iadd, 1) := by decide +kernel
theorem d14_51 : decode c14 51 = .ok (.iload 5, 2) := by decide +kernel
theorem d14_53 : decode c14 53 = .ok (.invokevirtual 100, 3) := by decide +kernel
theorem d14_56 : decode c14 56 = .ok (.iastore, 1) := by decide +kernel
theorem d14_57 : decode c14 57 = .ok (.iinc 5 1, 3) := by decide +kernel
theorem d14_60 : decode c14 60 = .ok (.goto (-38), 3) := by decide +kernel
theorem d14_63 : decode c14 63 = .ok (.iinc 4 1, 3) := by decide +kernel
theorem d14_66 : decode c14 66 = .ok (.goto (-53), 3) := by decide +kernel
theorem d14_69 : decode c14 69 = .ok (.aload_n 0, 1) := by decide +kernel
theorem d14_70 : decode c14 70 = .ok (.getfield 9, 3) := by decide +kernel
theorem d14_73 : decode c14 73 = .ok (.iload_n 1, 1) := by decide +kernel
theorem d14_74 : decode c14 74 = .ok (.aload_n 3, 1) := by decide +kernel
theorem d14_75 : decode c14 75 = .ok (.aastore, 1) := by decide +kernel
theorem d14_76 : decode c14 76 = .ok (.aload_n 0, 1) := by decide +kernel
theorem d14_77 : decode c14 77 = .ok (.getfield 17, 3) := by decide +kernel
theorem d14_80 : decode c14 80 = .ok (.iload_n 1, 1) := by decide +kernel
theorem d14_81 : decode c14 81 = .ok (.aconst_null, 1) := by decide +kernel
theorem d14_82 : decode c14 82 = .ok (.aastore, 1) := by decide +kernel
theorem d14_83 : decode c14 83 = .ok (.return_, 1) := by decide +kernel
theorem ef_fitW1_1 (m : MethodId) (x0 : Addr) (x3 : Addr) : entryFrame m #[(.ref x0), (.int 0), (.int 1), (.ref x3)] 11 = mkF m 0 #[vR x0, vI 0, vI 1, vR x3, .unset, .unset, .unset, .unset, .unset, .unset, .unset] [] := by first | (simp [entryFrame, mkF, argsToLocals, Value.category]; done) | rfl
theorem d11_54 : decode c11 54 = .ok (.aload_n 0, 1) := by decide +kernel
theorem d11_55 : decode c11 55 = .ok (.iload_n 1, 1) := by decide +kernel
theorem d11_56 : decode c11 56 = .ok (.iload_n 2, 1) := by decide +kernel
theorem d11_57 : decode c11 57 = .ok (.invokevirtual 86, 3) := by decide +kernel
theorem pd__II_V_5 : parseMethodDescriptor "(II)V" = some ⟨[.int, .int], none⟩ := by decide +kernel
theorem d11_60 : decode c11 60 = .ok (.return_, 1) := by decide +kernel
theorem ef_widen1_2 (m : MethodId) (x0 : Addr) : entryFrame m #[(.ref x0), (.int 0), (.int 2)] 6 = mkF m 0 #[vR x0, vI 0, vI 2, .unset, .unset, .unset] [] := by first | (simp [entryFrame, mkF, argsToLocals, Value.category]; done) | rfl
theorem ef_fitW1_2 (m : MethodId) (x0 : Addr) (x3 : Addr) : entryFrame m #[(.ref x0), (.int 0), (.int 2), (.ref x3)] 11 = mkF m 0 #[vR x0, vI 0, vI 2, vR x3, .unset, .unset, .unset, .unset, .unset, .unset, .unset] [] := by first | (simp [entryFrame, mkF, argsToLocals, Value.category]; done) | rfl
theorem ef_add1N0 (m : MethodId) (x0 : Addr) (x1 : Addr) : entryFrame m #[(.ref x0), (.ref x1)] 7 = mkF m 0 #[vR x0, vR x1, .unset, .unset, .unset, .unset, .unset] [] := by first | (simp [entryFrame, mkF, argsToLocals, Value.category]; done) | rfl
abbrev c5 := prog_47_method_4_code
theorem d5_0 : decode c5 0 = .ok (.aload_n 0, 1) := by decide +kernel
theorem d5_1 : decode c5 1 = .ok (.getfield 34, 3) := by decide +kernel
theorem d5_4 : decode c5 4 = .ok (.getstatic 37, 3) := by decide +kernel
theorem d5_7 : decode c5 7 = .ok (.iushr, 1) := by decide +kernel
theorem d5_8 : decode c5 8 = .ok (.istore_n 2, 1) := by decide +kernel
theorem d5_9 : decode c5 9 = .ok (.aload_n 0, 1) := by decide +kernel
theorem d5_10 : decode c5 10 = .ok (.getfield 34, 3) := by decide +kernel
theorem d5_13 : decode c5 13 = .ok (.sipush 4095, 3) := by decide +kernel
theorem d5_16 : decode c5 16 = .ok (.iand, 1) := by decide +kernel
theorem d5_17 : decode c5 17 = .ok (.istore_n 3, 1) := by decide +kernel
theorem d5_18 : decode c5 18 = .ok (.iload_n 3, 1) := by decide +kernel
theorem d5_19 : decode c5 19 = .ok (.ifCond .ne 9, 3) := by decide +kernel
theorem d5_22 : decode c5 22 = .ok (.aload_n 0, 1) := by decide +kernel
theorem d5_23 : decode c5 23 = .ok (.iload_n 2, 1) := by decide +kernel
theorem d5_24 : decode c5 24 = .ok (.aload_n 1, 1) := by decide +kernel
theorem d5_25 : decode c5 25 = .ok (.invokevirtual 40, 3) := by decide +kernel
theorem pd__I_I_V_6 : parseMethodDescriptor "(I[I)V" = some ⟨[.int, (.array .int)], none⟩ := by decide +kernel
theorem d5_28 : decode c5 28 = .ok (.aload_n 0, 1) := by decide +kernel
theorem d5_29 : decode c5 29 = .ok (.iload_n 2, 1) := by decide +kernel
theorem d5_30 : decode c5 30 = .ok (.iload_n 3, 1) := by decide +kernel
theorem d5_31 : decode c5 31 = .ok (.invokevirtual 44, 3) := by decide +kernel
theorem d5_34 : decode c5 34 = .ok (.aload_n 0, 1) := by decide +kernel
theorem d5_35 : decode c5 35 = .ok (.getfield 17, 3) := by decide +kernel
theorem d5_38 : decode c5 38 = .ok (.iload_n 2, 1) := by decide +kernel
theorem d5_39 : decode c5 39 = .ok (.aaload, 1) := by decide +kernel
theorem d5_40 : decode c5 40 = .ok (.ifnull 10, 3) := by decide +kernel
theorem d5_43 : decode c5 43 = .ok (.aload_n 0, 1) := by decide +kernel
theorem d5_44 : decode c5 44 = .ok (.iload_n 2, 1) := by decide +kernel
theorem d5_45 : decode c5 45 = .ok (.iload_n 3, 1) := by decide +kernel
theorem d5_46 : decode c5 46 = .ok (.aload_n 1, 1) := by decide +kernel
theorem d5_47 : decode c5 47 = .ok (.invokevirtual 48, 3) := by decide +kernel
theorem pd__II_I_V_7 : parseMethodDescriptor "(II[I)V" = some ⟨[.int, .int, (.array .int)], none⟩ := by decide +kernel
theorem d5_50 : decode c5 50 = .ok (.iload_n 3, 1) := by decide +kernel
theorem d5_51 : decode c5 51 = .ok (.aload_n 0, 1) := by decide +kernel
theorem d5_52 : decode c5 52 = .ok (.getfield 21, 3) := by decide +kernel
theorem d5_55 : decode c5 55 = .ok (.imul, 1) := by decide +kernel
theorem d5_56 : decode c5 56 = .ok (.istore 4, 2) := by decide +kernel
theorem d5_58 : decode c5 58 = .ok (.aload_n 0, 1) := by decide +kernel
theorem d5_59 : decode c5 59 = .ok (.getfield 17, 3) := by decide +kernel
theorem d5_62 : decode c5 62 = .ok (.iload_n 2, 1) := by decide +kernel
theorem d5_63 : decode c5 63 = .ok (.aaload, 1) := by decide +kernel
theorem d5_64 : decode c5 64 = .ok (.astore 5, 2) := by decide +kernel
theorem d5_66 : decode c5 66 = .ok (.iconst 0, 1) := by decide +kernel
theorem d5_67 : decode c5 67 = .ok (.istore 6, 2) := by decide +kernel
theorem d5_69 : decode c5 69 = .ok (.iload 6, 2) := by decide +kernel
theorem d5_71 : decode c5 71 = .ok (.aload_n 0, 1) := by decide +kernel
theorem d5_72 : decode c5 72 = .ok (.getfield 21, 3) := by decide +kernel
theorem d5_75 : decode c5 75 = .ok (.if_icmp .ge 61, 3) := by decide +kernel
theorem d5_78 : decode c5 78 = .ok (.aload 5, 2) := by decide +kernel
theorem d5_80 : decode c5 80 = .ok (.ifnull 34, 3) := by decide +kernel
theorem d5_83 : decode c5 83 = .ok (.aload 5, 2) := by decide +kernel
theorem d5_85 : decode c5 85 = .ok (.iload 4, 2) := by decide +kernel
theorem d5_87 : decode c5 87 = .ok (.iload 6, 2) := by decide +kernel
theorem d5_89 : decode c5 89 = .ok (.iadd, 1) := by decide +kernel
theorem d5_90 : decode c5 90 = .ok (.aload_n 1, 1) := by decide +kernel
theorem d5_91 : decode c5 91 = .ok (.iload 6, 2) := by decide +kernel
theorem d5_93 : decode c5 93 = .ok (.iaload, 1) := by decide +kernel
theorem d5_94 : decode c5 94 = .ok (.aload_n 0, 1) := by decide +kernel
theorem d5_95 : decode c5 95 = .ok (.getfield 25, 3) := by decide +kernel
theorem d5_98 : decode c5 98 = .ok (.iload_n 2, 1) := by decide +kernel
theorem d5_99 : decode c5 99 = .ok (.aload_n 0, 1) := by decide +kernel
theorem d5_100 : decode c5 100 = .ok (.getfield 21, 3) := by decide +kernel
theorem d5_103 : decode c5 103 = .ok (.imul, 1) := by decide +kernel
theorem d5_104 : decode c5 104 = .ok (.iload 6, 2) := by decide +kernel
theorem d5_106 : decode c5 106 = .ok (.iadd, 1) := by decide +kernel
theorem d5_107 : decode c5 107 = .ok (.iaload, 1) := by decide +kernel
theorem d5_108 : decode c5 108 = .ok (.isub, 1) := by decide +kernel
theorem d5_109 : decode c5 109 = .ok (.i2c, 1) := by decide +kernel
theorem d5_110 : decode c5 110 = .ok (.castore, 1) := by decide +kernel
theorem d5_111 : decode c5 111 = .ok (.goto 19, 3) := by decide +kernel
theorem d5_130 : decode c5 130 = .ok (.iinc 6 1, 3) := by decide +kernel
theorem d5_133 : decode c5 133 = .ok (.goto (-64), 3) := by decide +kernel
theorem d5_136 : decode c5 136 = .ok (.aload_n 0, 1) := by decide +kernel
theorem d5_137 : decode c5 137 = .ok (.dup, 1) := by decide +kernel
theorem d5_138 : decode c5 138 = .ok (.getfield 34, 3) := by decide +kernel
theorem d5_141 : decode c5 141 = .ok (.iconst 1, 1) := by decide +kernel
theorem d5_142 : decode c5 142 = .ok (.iadd, 1) := by decide +kernel
theorem d5_143 : decode c5 143 = .ok (.putfield 34, 3) := by decide +kernel
theorem d5_146 : decode c5 146 = .ok (.return_, 1) := by decide +kernel
theorem ef_add1N1 (m : MethodId) (x0 : Addr) (x1 : Addr) : entryFrame m #[(.ref x0), (.ref x1)] 7 = mkF m 0 #[vR x0, vR x1, .unset, .unset, .unset, .unset, .unset] [] := by first | (simp [entryFrame, mkF, argsToLocals, Value.category]; done) | rfl
theorem ef_add1N2 (m : MethodId) (x0 : Addr) (x1 : Addr) : entryFrame m #[(.ref x0), (.ref x1)] 7 = mkF m 0 #[vR x0, vR x1, .unset, .unset, .unset, .unset, .unset] [] := by first | (simp [entryFrame, mkF, argsToLocals, Value.category]; done) | rfl
theorem ef_add1W1 (m : MethodId) (x0 : Addr) (x1 : Addr) : entryFrame m #[(.ref x0), (.ref x1)] 7 = mkF m 0 #[vR x0, vR x1, .unset, .unset, .unset, .unset, .unset] [] := by first | (simp [entryFrame, mkF, argsToLocals, Value.category]; done) | rfl
theorem d5_114 : decode c5 114 = .ok (.aload_n 0, 1) := by decide +kernel
theorem d5_115 : decode c5 115 = .ok (.getfield 9, 3) := by decide +kernel
theorem d5_118 : decode c5 118 = .ok (.iload_n 2, 1) := by decide +kernel
theorem d5_119 : decode c5 119 = .ok (.aaload, 1) := by decide +kernel
theorem d5_120 : decode c5 120 = .ok (.iload 4, 2) := by decide +kernel
theorem d5_122 : decode c5 122 = .ok (.iload 6, 2) := by decide +kernel
theorem d5_124 : decode c5 124 = .ok (.iadd, 1) := by decide +kernel
theorem d5_125 : decode c5 125 = .ok (.aload_n 1, 1) := by decide +kernel
theorem d5_126 : decode c5 126 = .ok (.iload 6, 2) := by decide +kernel
theorem d5_128 : decode c5 128 = .ok (.iaload, 1) := by decide +kernel
theorem d5_129 : decode c5 129 = .ok (.iastore, 1) := by decide +kernel
theorem ef_add1W2 (m : MethodId) (x0 : Addr) (x1 : Addr) : entryFrame m #[(.ref x0), (.ref x1)] 7 = mkF m 0 #[vR x0, vR x1, .unset, .unset, .unset, .unset, .unset] [] := by first | (simp [entryFrame, mkF, argsToLocals, Value.category]; done) | rfl
theorem ef_add1WW2 (m : MethodId) (x0 : Addr) (x1 : Addr) : entryFrame m #[(.ref x0), (.ref x1)] 7 = mkF m 0 #[vR x0, vR x1, .unset, .unset, .unset, .unset, .unset] [] := by first | (simp [entryFrame, mkF, argsToLocals, Value.category]; done) | rfl
theorem pn_RowValuesClearPinLaw : plainName "com/example/chaseward/chaseward/engine/RowValuesClearPinLaw" = true := by first | (simp [plainName, overriddenIn]; done) | decide +kernel
theorem ef_tuple1 (m : MethodId) (x1 : Int32) : entryFrame m #[(.int 0), (.int x1)] 2 = mkF m 0 #[vI 0, vI x1] [] := by first | (simp [entryFrame, mkF, argsToLocals, Value.category]; done) | rfl
abbrev c1 := method_3_code
theorem d1_0 : decode c1 0 = .ok (.iload_n 0, 1) := by decide +kernel
theorem d1_1 : decode c1 1 = .ok (.ifCond .eq 17, 3) := by decide +kernel
theorem d1_18 : decode c1 18 = .ok (.iconst 1, 1) := by decide +kernel
theorem d1_19 : decode c1 19 = .ok (.newarray .int, 2) := by decide +kernel
theorem d1_21 : decode c1 21 = .ok (.dup, 1) := by decide +kernel
theorem d1_22 : decode c1 22 = .ok (.iconst 0, 1) := by decide +kernel
theorem d1_23 : decode c1 23 = .ok (.iload_n 1, 1) := by decide +kernel
theorem d1_24 : decode c1 24 = .ok (.iastore, 1) := by decide +kernel
theorem d1_25 : decode c1 25 = .ok (.areturn, 1) := by decide +kernel
theorem ef_clear1N (m : MethodId) (x0 : Addr) : entryFrame m #[(.ref x0)] 2 = mkF m 0 #[vR x0, .unset] [] := by first | (simp [entryFrame, mkF, argsToLocals, Value.category]; done) | rfl
abbrev c4 := prog_47_method_2_code
theorem d4_0 : decode c4 0 = .ok (.aload_n 0, 1) := by decide +kernel
theorem d4_1 : decode c4 1 = .ok (.iconst 0, 1) := by decide +kernel
theorem d4_2 : decode c4 2 = .ok (.putfield 34, 3) := by decide +kernel
theorem d4_5 : decode c4 5 = .ok (.aload_n 0, 1) := by decide +kernel
theorem d4_6 : decode c4 6 = .ok (.getfield 17, 3) := by decide +kernel
theorem d4_9 : decode c4 9 = .ok (.iconst 0, 1) := by decide +kernel
theorem d4_10 : decode c4 10 = .ok (.aaload, 1) := by decide +kernel
theorem d4_11 : decode c4 11 = .ok (.ifnonnull 25, 3) := by decide +kernel
theorem d4_36 : decode c4 36 = .ok (.iconst 1, 1) := by decide +kernel
theorem d4_37 : decode c4 37 = .ok (.istore_n 1, 1) := by decide +kernel
theorem d4_38 : decode c4 38 = .ok (.iload_n 1, 1) := by decide +kernel
theorem d4_39 : decode c4 39 = .ok (.aload_n 0, 1) := by decide +kernel
theorem d4_40 : decode c4 40 = .ok (.getfield 9, 3) := by decide +kernel
theorem d4_43 : decode c4 43 = .ok (.arraylength, 1) := by decide +kernel
theorem d4_44 : decode c4 44 = .ok (.if_icmp .ge 23, 3) := by decide +kernel
theorem d4_67 : decode c4 67 = .ok (.return_, 1) := by decide +kernel
theorem ef_clear1W (m : MethodId) (x0 : Addr) : entryFrame m #[(.ref x0)] 2 = mkF m 0 #[vR x0, .unset] [] := by first | (simp [entryFrame, mkF, argsToLocals, Value.category]; done) | rfl
theorem d4_14 : decode c4 14 = .ok (.aload_n 0, 1) := by decide +kernel
theorem d4_15 : decode c4 15 = .ok (.getfield 17, 3) := by decide +kernel
theorem d4_18 : decode c4 18 = .ok (.iconst 0, 1) := by decide +kernel
theorem d4_19 : decode c4 19 = .ok (.aload_n 0, 1) := by decide +kernel
theorem d4_20 : decode c4 20 = .ok (.getfield 9, 3) := by decide +kernel
theorem d4_23 : decode c4 23 = .ok (.iconst 0, 1) := by decide +kernel
theorem d4_24 : decode c4 24 = .ok (.aaload, 1) := by decide +kernel
theorem d4_25 : decode c4 25 = .ok (.arraylength, 1) := by decide +kernel
theorem d4_26 : decode c4 26 = .ok (.newarray .char, 2) := by decide +kernel
theorem d4_28 : decode c4 28 = .ok (.aastore, 1) := by decide +kernel
theorem d4_29 : decode c4 29 = .ok (.aload_n 0, 1) := by decide +kernel
theorem d4_30 : decode c4 30 = .ok (.getfield 9, 3) := by decide +kernel
theorem d4_33 : decode c4 33 = .ok (.iconst 0, 1) := by decide +kernel
theorem d4_34 : decode c4 34 = .ok (.aconst_null, 1) := by decide +kernel
theorem d4_35 : decode c4 35 = .ok (.aastore, 1) := by decide +kernel
theorem ef_rvInit2 (m : MethodId) (x0 : Addr) : entryFrame m #[(.ref x0), (.int 2)] 2 = mkF m 0 #[vR x0, vI 2] [] := by first | (simp [entryFrame, mkF, argsToLocals, Value.category]; done) | rfl
theorem ef_start2 (m : MethodId) (x0 : Addr) (x2 : Addr) : entryFrame m #[(.ref x0), (.int 0), (.ref x2)] 4 = mkF m 0 #[vR x0, vI 0, vR x2, .unset] [] := by first | (simp [entryFrame, mkF, argsToLocals, Value.category]; done) | rfl
theorem ef_room2N0 (m : MethodId) (x0 : Addr) : entryFrame m #[(.ref x0), (.int 0), (.int 0)] 5 = mkF m 0 #[vR x0, vI 0, vI 0, .unset, .unset] [] := by first | (simp [entryFrame, mkF, argsToLocals, Value.category]; done) | rfl
theorem ef_room2N1 (m : MethodId) (x0 : Addr) : entryFrame m #[(.ref x0), (.int 0), (.int 1)] 5 = mkF m 0 #[vR x0, vI 0, vI 1, .unset, .unset] [] := by first | (simp [entryFrame, mkF, argsToLocals, Value.category]; done) | rfl
theorem ef_room2N2 (m : MethodId) (x0 : Addr) : entryFrame m #[(.ref x0), (.int 0), (.int 2)] 5 = mkF m 0 #[vR x0, vI 0, vI 2, .unset, .unset] [] := by first | (simp [entryFrame, mkF, argsToLocals, Value.category]; done) | rfl
theorem ef_room2W2 (m : MethodId) (x0 : Addr) : entryFrame m #[(.ref x0), (.int 0), (.int 2)] 5 = mkF m 0 #[vR x0, vI 0, vI 2, .unset, .unset] [] := by first | (simp [entryFrame, mkF, argsToLocals, Value.category]; done) | rfl
theorem ef_fit2_0 (m : MethodId) (x0 : Addr) (x3 : Addr) : entryFrame m #[(.ref x0), (.int 0), (.int 0), (.ref x3)] 11 = mkF m 0 #[vR x0, vI 0, vI 0, vR x3, .unset, .unset, .unset, .unset, .unset, .unset, .unset] [] := by first | (simp [entryFrame, mkF, argsToLocals, Value.category]; done) | rfl
theorem ef_fit2_1 (m : MethodId) (x0 : Addr) (x3 : Addr) : entryFrame m #[(.ref x0), (.int 0), (.int 1), (.ref x3)] 11 = mkF m 0 #[vR x0, vI 0, vI 1, vR x3, .unset, .unset, .unset, .unset, .unset, .unset, .unset] [] := by first | (simp [entryFrame, mkF, argsToLocals, Value.category]; done) | rfl
theorem ef_fit2_2 (m : MethodId) (x0 : Addr) (x3 : Addr) : entryFrame m #[(.ref x0), (.int 0), (.int 2), (.ref x3)] 11 = mkF m 0 #[vR x0, vI 0, vI 2, vR x3, .unset, .unset, .unset, .unset, .unset, .unset, .unset] [] := by first | (simp [entryFrame, mkF, argsToLocals, Value.category]; done) | rfl
theorem ef_get2N (m : MethodId) (x0 : Addr) (x1 : Int32) (x2 : Int32) : entryFrame m #[(.ref x0), (.int x1), (.int x2)] 6 = mkF m 0 #[vR x0, vI x1, vI x2, .unset, .unset, .unset] [] := by first | (simp [entryFrame, mkF, argsToLocals, Value.category]; done) | rfl
theorem ef_get2W (m : MethodId) (x0 : Addr) (x1 : Int32) (x2 : Int32) : entryFrame m #[(.ref x0), (.int x1), (.int x2)] 6 = mkF m 0 #[vR x0, vI x1, vI x2, .unset, .unset, .unset] [] := by first | (simp [entryFrame, mkF, argsToLocals, Value.category]; done) | rfl
theorem ef_widen2_1 (m : MethodId) (x0 : Addr) : entryFrame m #[(.ref x0), (.int 0), (.int 1)] 6 = mkF m 0 #[vR x0, vI 0, vI 1, .unset, .unset, .unset] [] := by first | (simp [entryFrame, mkF, argsToLocals, Value.category]; done) | rfl
theorem ef_fitW2_1 (m : MethodId) (x0 : Addr) (x3 : Addr) : entryFrame m #[(.ref x0), (.int 0), (.int 1), (.ref x3)] 11 = mkF m 0 #[vR x0, vI 0, vI 1, vR x3, .unset, .unset, .unset, .unset, .unset, .unset, .unset] [] := by first | (simp [entryFrame, mkF, argsToLocals, Value.category]; done) | rfl
theorem ef_widen2_2 (m : MethodId) (x0 : Addr) : entryFrame m #[(.ref x0), (.int 0), (.int 2)] 6 = mkF m 0 #[vR x0, vI 0, vI 2, .unset, .unset, .unset] [] := by first | (simp [entryFrame, mkF, argsToLocals, Value.category]; done) | rfl
theorem ef_fitW2_2 (m : MethodId) (x0 : Addr) (x3 : Addr) : entryFrame m #[(.ref x0), (.int 0), (.int 2), (.ref x3)] 11 = mkF m 0 #[vR x0, vI 0, vI 2, vR x3, .unset, .unset, .unset, .unset, .unset, .unset, .unset] [] := by first | (simp [entryFrame, mkF, argsToLocals, Value.category]; done) | rfl
theorem ef_add2N0 (m : MethodId) (x0 : Addr) (x1 : Addr) : entryFrame m #[(.ref x0), (.ref x1)] 7 = mkF m 0 #[vR x0, vR x1, .unset, .unset, .unset, .unset, .unset] [] := by first | (simp [entryFrame, mkF, argsToLocals, Value.category]; done) | rfl
theorem ef_add2N1 (m : MethodId) (x0 : Addr) (x1 : Addr) : entryFrame m #[(.ref x0), (.ref x1)] 7 = mkF m 0 #[vR x0, vR x1, .unset, .unset, .unset, .unset, .unset] [] := by first | (simp [entryFrame, mkF, argsToLocals, Value.category]; done) | rfl
theorem ef_add2N2 (m : MethodId) (x0 : Addr) (x1 : Addr) : entryFrame m #[(.ref x0), (.ref x1)] 7 = mkF m 0 #[vR x0, vR x1, .unset, .unset, .unset, .unset, .unset] [] := by first | (simp [entryFrame, mkF, argsToLocals, Value.category]; done) | rfl
theorem ef_add2W1 (m : MethodId) (x0 : Addr) (x1 : Addr) : entryFrame m #[(.ref x0), (.ref x1)] 7 = mkF m 0 #[vR x0, vR x1, .unset, .unset, .unset, .unset, .unset] [] := by first | (simp [entryFrame, mkF, argsToLocals, Value.category]; done) | rfl
theorem ef_add2W2 (m : MethodId) (x0 : Addr) (x1 : Addr) : entryFrame m #[(.ref x0), (.ref x1)] 7 = mkF m 0 #[vR x0, vR x1, .unset, .unset, .unset, .unset, .unset] [] := by first | (simp [entryFrame, mkF, argsToLocals, Value.category]; done) | rfl
theorem ef_add2WW2 (m : MethodId) (x0 : Addr) (x1 : Addr) : entryFrame m #[(.ref x0), (.ref x1)] 7 = mkF m 0 #[vR x0, vR x1, .unset, .unset, .unset, .unset, .unset] [] := by first | (simp [entryFrame, mkF, argsToLocals, Value.category]; done) | rfl
theorem ef_tuple2 (m : MethodId) (x1 : Int32) : entryFrame m #[(.int 1), (.int x1)] 2 = mkF m 0 #[vI 1, vI x1] [] := by first | (simp [entryFrame, mkF, argsToLocals, Value.category]; done) | rfl
theorem d1_4 : decode c1 4 = .ok (.iconst 2, 1) := by decide +kernel
theorem d1_5 : decode c1 5 = .ok (.newarray .int, 2) := by decide +kernel
theorem d1_7 : decode c1 7 = .ok (.dup, 1) := by decide +kernel
theorem d1_8 : decode c1 8 = .ok (.iconst 0, 1) := by decide +kernel
theorem d1_9 : decode c1 9 = .ok (.iload_n 1, 1) := by decide +kernel
theorem d1_10 : decode c1 10 = .ok (.iastore, 1) := by decide +kernel
theorem d1_11 : decode c1 11 = .ok (.dup, 1) := by decide +kernel
theorem d1_12 : decode c1 12 = .ok (.iconst 1, 1) := by decide +kernel
theorem d1_13 : decode c1 13 = .ok (.iload_n 1, 1) := by decide +kernel
theorem d1_14 : decode c1 14 = .ok (.iconst (-1), 1) := by decide +kernel
theorem d1_15 : decode c1 15 = .ok (.ixor, 1) := by decide +kernel
theorem d1_16 : decode c1 16 = .ok (.iastore, 1) := by decide +kernel
theorem d1_17 : decode c1 17 = .ok (.areturn, 1) := by decide +kernel
theorem ef_clear2N (m : MethodId) (x0 : Addr) : entryFrame m #[(.ref x0)] 2 = mkF m 0 #[vR x0, .unset] [] := by first | (simp [entryFrame, mkF, argsToLocals, Value.category]; done) | rfl
theorem ef_clear2W (m : MethodId) (x0 : Addr) : entryFrame m #[(.ref x0)] 2 = mkF m 0 #[vR x0, .unset] [] := by first | (simp [entryFrame, mkF, argsToLocals, Value.category]; done) | rfl
theorem ef_law (m : MethodId) (x0 : Int32) (x1 : Int32) (x2 : Int32) (x3 : Int32) (x4 : Int32) (x5 : Int32) : entryFrame m #[(.int x0), (.int x1), (.int x2), (.int x3), (.int x4), (.int x5)] maxLocals = mkF m 0 #[vI x0, vI x1, vI x2, vI x3, vI x4, vI x5, .unset, .unset, .unset, .unset, .unset, .unset, .unset, .unset, .unset, .unset] [] := by first | (simp [entryFrame, mkF, argsToLocals, Value.category, maxLocals]; done) | rfl
theorem pd__ZI__I_6 : parseMethodDescriptor "(ZI)[I" = some ⟨[.boolean, .int], some (.array .int)⟩ := by decide +kernel
theorem pd__I_V_4 : parseMethodDescriptor "(I)V" = some ⟨[.int], none⟩ := by decide +kernel
theorem pd___V_3 : parseMethodDescriptor "()V" = some ⟨[], none⟩ := by decide +kernel
theorem pd___I_V_5 : parseMethodDescriptor "([I)V" = some ⟨[(.array .int)], none⟩ := by decide +kernel
def f_maxI (p1 : Int32) (p2 : Int32) : Int32 := (if p1 < p2 then p2 else p1)
set_option maxRecDepth 65536 in
set_option maxHeartbeats 40000000 in
theorem rm_maxI (l : Launch) (Z : State) (a0 : Array Value) (ww : WW a0 Z) (ws : List Jvm.Cond) (p1 p2 : Int32) (h0 : Heap) (n0 : Nat) (Z0 : n0 ≤ h0.size) (O0 : Old Z n0 h0) (S_CS : Sta Z Z.heap cRV "CHUNK_SHIFT" "I" (.int (12 : Int32))) :
    MF l Z (⟨"java/lang/Math", "max", "(II)I"⟩ : MethodName) jdk_29_method_65_code 2 (some .int) ws ({ frames := 0, cells := 0, slots := 0, locals := 0 } : Room) #[(.int p1), (.int p2)] h0 (PureQ (some (.int (f_maxI p1 p2))) h0 n0) := by
  refine gopen (Jvm.Free.JP.mathPlain rfl (by decide +kernel)) (fun m => ef_maxI m p1 p2) (fun p e s m below meth c s₁ hlk hret hx bb hml hown hnm hZ X0 e0 R0 hR0 => ?_)
  have N0 := Fr.nil n0
  refine g_iloadN X0 hx (bb d12_0) rfl ?_
  refine g_iloadN X0 hx (bb d12_1) rfl ?_
  by_cases g1 : p1 < p2
  · skip
    refine g_icmpYes X0 hx (pc' := 9) (bb d12_2) (tlt g1).1 (by decide) (by decide) ?_
    refine g_iloadN X0 hx (bb d12_9) rfl ?_
    obtain ⟨fs, hr, hrun, hended, hW, hsame⟩ := X0.leave (v := some (.int p2)) (fun h => by rw [hret] at h; cases h)
    subst hR0
    refine ⟨_, _, ?_, hrun, hended, _, _, rfl, ?_, ⟨_, rfl⟩, hW, hsame.mono (by decide) (by decide)⟩
    · exact retI X0 hx hret (bb d12_10) hr
    · exact ⟨by simp only [f_maxI, if_pos g1], N0, e0⟩
  · skip
    refine g_icmpNo X0 hx (bb d12_2) (flt g1).1 ?_
    refine g_iloadN X0 hx (bb d12_5) rfl ?_
    refine g_goto X0 hx (pc' := 10) (bb d12_6) (by decide) (by decide) ?_
    obtain ⟨fs, hr, hrun, hended, hW, hsame⟩ := X0.leave (v := some (.int p1)) (fun h => by rw [hret] at h; cases h)
    subst hR0
    refine ⟨_, _, ?_, hrun, hended, _, _, rfl, ?_, ⟨_, rfl⟩, hW, hsame.mono (by decide) (by decide)⟩
    · exact retI X0 hx hret (bb d12_10) hr
    · exact ⟨by simp only [f_maxI, if_neg g1], N0, e0⟩
def f_minI (p1 : Int32) (p2 : Int32) : Int32 := (if p2 < p1 then p2 else p1)
set_option maxRecDepth 65536 in
set_option maxHeartbeats 40000000 in
theorem rm_minI (l : Launch) (Z : State) (a0 : Array Value) (ww : WW a0 Z) (ws : List Jvm.Cond) (p1 p2 : Int32) (h0 : Heap) (n0 : Nat) (Z0 : n0 ≤ h0.size) (O0 : Old Z n0 h0) (S_CS : Sta Z Z.heap cRV "CHUNK_SHIFT" "I" (.int (12 : Int32))) :
    MF l Z (⟨"java/lang/Math", "min", "(II)I"⟩ : MethodName) jdk_29_method_69_code 2 (some .int) ws ({ frames := 0, cells := 0, slots := 0, locals := 0 } : Room) #[(.int p1), (.int p2)] h0 (PureQ (some (.int (f_minI p1 p2))) h0 n0) := by
  refine gopen (Jvm.Free.JP.mathPlain rfl (by decide +kernel)) (fun m => ef_minI m p1 p2) (fun p e s m below meth c s₁ hlk hret hx bb hml hown hnm hZ X0 e0 R0 hR0 => ?_)
  have N0 := Fr.nil n0
  refine g_iloadN X0 hx (bb d10_0) rfl ?_
  refine g_iloadN X0 hx (bb d10_1) rfl ?_
  by_cases g1 : p2 < p1
  · skip
    refine g_icmpYes X0 hx (pc' := 9) (bb d10_2) (tlt g1).2.2.1 (by decide) (by decide) ?_
    refine g_iloadN X0 hx (bb d10_9) rfl ?_
    obtain ⟨fs, hr, hrun, hended, hW, hsame⟩ := X0.leave (v := some (.int p2)) (fun h => by rw [hret] at h; cases h)
    subst hR0
    refine ⟨_, _, ?_, hrun, hended, _, _, rfl, ?_, ⟨_, rfl⟩, hW, hsame.mono (by decide) (by decide)⟩
    · exact retI X0 hx hret (bb d10_10) hr
    · exact ⟨by simp only [f_minI, if_pos g1], N0, e0⟩
  · skip
    refine g_icmpNo X0 hx (bb d10_2) (flt g1).2.2.1 ?_
    refine g_iloadN X0 hx (bb d10_5) rfl ?_
    refine g_goto X0 hx (pc' := 10) (bb d10_6) (by decide) (by decide) ?_
    obtain ⟨fs, hr, hrun, hended, hW, hsame⟩ := X0.leave (v := some (.int p1)) (fun h => by rw [hret] at h; cases h)
    subst hR0
    refine ⟨_, _, ?_, hrun, hended, _, _, rfl, ?_, ⟨_, rfl⟩, hW, hsame.mono (by decide) (by decide)⟩
    · exact retI X0 hx hret (bb d10_10) hr
    · exact ⟨by simp only [f_minI, if_neg g1], N0, e0⟩
def f_maxL (p1 : Int64) (p2 : Int64) : Int64 := (if (lcmpW p1 p2) < (0 : Int32) then p2 else p1)
set_option maxRecDepth 65536 in
set_option maxHeartbeats 40000000 in
theorem rm_maxL (l : Launch) (Z : State) (a0 : Array Value) (ww : WW a0 Z) (ws : List Jvm.Cond) (p1 p2 : Int64) (h0 : Heap) (n0 : Nat) (Z0 : n0 ≤ h0.size) (O0 : Old Z n0 h0) (S_CS : Sta Z Z.heap cRV "CHUNK_SHIFT" "I" (.int (12 : Int32))) :
    MF l Z (⟨"java/lang/Math", "max", "(JJ)J"⟩ : MethodName) jdk_29_method_66_code 4 (some .long) ws ({ frames := 0, cells := 0, slots := 0, locals := 0 } : Room) #[(.long p1), (.long p2)] h0 (PureQ (some (.long (f_maxL p1 p2))) h0 n0) := by
  refine gopen (Jvm.Free.JP.mathPlain rfl (by decide +kernel)) (fun m => ef_maxL m p1 p2) (fun p e s m below meth c s₁ hlk hret hx bb hml hown hnm hZ X0 e0 R0 hR0 => ?_)
  have N0 := Fr.nil n0
  refine g_lloadN X0 hx (bb d8_0) rfl ?_
  refine g_lloadN X0 hx (bb d8_1) rfl ?_
  refine g_lcmp X0 hx (bb d8_2) ?_
  by_cases g1 : (lcmpW p1 p2) < (0 : Int32)
  · skip
    refine g_ifYes X0 hx (pc' := 10) (bb d8_3) ((if0 _ _).trans (tlt g1).1) (by decide) (by decide) ?_
    refine g_lloadN X0 hx (bb d8_10) rfl ?_
    obtain ⟨fs, hr, hrun, hended, hW, hsame⟩ := X0.leave (v := some (.long p2)) (fun h => by rw [hret] at h; cases h)
    subst hR0
    refine ⟨_, _, ?_, hrun, hended, _, _, rfl, ?_, ⟨_, rfl⟩, hW, hsame.mono (by decide) (by decide)⟩
    · exact retOut X0 hx hret rfl (Or.inr (Or.inl ⟨rfl, rfl, _, rfl⟩)) (bb d8_11) hr
    · exact ⟨by simp only [f_maxL, if_pos g1], N0, e0⟩
  · skip
    refine g_ifNo X0 hx (bb d8_3) ((if0 _ _).trans (flt g1).1) ?_
    refine g_lloadN X0 hx (bb d8_6) rfl ?_
    refine g_goto X0 hx (pc' := 11) (bb d8_7) (by decide) (by decide) ?_
    obtain ⟨fs, hr, hrun, hended, hW, hsame⟩ := X0.leave (v := some (.long p1)) (fun h => by rw [hret] at h; cases h)
    subst hR0
    refine ⟨_, _, ?_, hrun, hended, _, _, rfl, ?_, ⟨_, rfl⟩, hW, hsame.mono (by decide) (by decide)⟩
    · exact retOut X0 hx hret rfl (Or.inr (Or.inl ⟨rfl, rfl, _, rfl⟩)) (bb d8_11) hr
    · exact ⟨by simp only [f_maxL, if_neg g1], N0, e0⟩
def f_base (p1 : Int32) (p2 : Int32) : Int32 := ((f_maxL (-2147483648 : Int64) ((p1.toInt64) - (((65535 : Int64) - ((p2.toInt64) - (p1.toInt64))) / (2 : Int64)))).toInt32)
set_option maxRecDepth 65536 in
set_option maxHeartbeats 40000000 in
theorem rm_base (l : Launch) (Z : State) (a0 : Array Value) (ww : WW a0 Z) (ws : List Jvm.Cond) (p1 p2 : Int32) (h0 : Heap) (n0 : Nat) (Z0 : n0 ≤ h0.size) (O0 : Old Z n0 h0) (S_CS : Sta Z Z.heap cRV "CHUNK_SHIFT" "I" (.int (12 : Int32))) :
    MF l Z (⟨cRV, "base", "(II)I"⟩ : MethodName) prog_47_method_8_code 4 (some .int) ws ({ frames := 1, cells := 0, slots := 0, locals := 15 } : Room) #[(.int p1), (.int p2)] h0 (PureQ (some (.int (f_base p1 p2))) h0 n0) := by
  refine gopen (plainFor_of_name pn_RowValues) (fun m => ef_base m p1 p2) (fun p e s m below meth c s₁ hlk hret hx bb hml hown hnm hZ X0 e0 R0 hR0 => ?_)
  have N0 := Fr.nil n0
  refine gJ X0 hx hZ hown (ww 53 rfl) (bb d7_0) ?_
  refine g_iloadN X0 hx (bb d7_3) rfl ?_
  refine g_i2l X0 hx (bb d7_4) ?_
  refine g_iloadN X0 hx (bb d7_5) rfl ?_
  refine g_i2l X0 hx (bb d7_6) ?_
  refine g_lsub X0 hx (bb d7_7) ?_
  refine g_lsub X0 hx (bb d7_8) ?_
  refine g_lstoreN X0 hx (bb d7_9) (l' := #[vI p1, vI p2, vJ ((65535 : Int64) - ((p2.toInt64) - (p1.toInt64))), .second]) rfl ?_
  refine gJ X0 hx hZ hown (ww 54 rfl) (bb d7_10) ?_
  refine g_iloadN X0 hx (bb d7_13) rfl ?_
  refine g_i2l X0 hx (bb d7_14) ?_
  refine g_lloadN X0 hx (bb d7_15) rfl ?_
  refine gJ X0 hx hZ hown (ww 55 rfl) (bb d7_16) ?_
  refine g_ldiv X0 hx (bb d7_19) (by decide) ?_
  refine g_lsub X0 hx (bb d7_20) ?_
  refine gcS X0 hx hZ hml hown (ww 56 rfl) (ww 58 rfl) (ww 59 rfl) (ww 57 rfl) e0 (rm_maxL l Z a0 ww [] (-2147483648 : Int64) ((p1.toInt64) - (((65535 : Int64) - ((p2.toInt64) - (p1.toInt64))) / (2 : Int64))) h0 n0 (own_z0 O0) O0 S_CS) pd__JJ_J_5 (bb d7_21) 0 rfl (fun T1 L1 v1 X1 hQ1 => ?_)
  obtain ⟨rfl, N1q, e1⟩ := hQ1
  have N1 := Fr.app N0 N1q
  refine g_l2i X1 hx (bb d7_24) ?_
  obtain ⟨fs, hr, hrun, hended, hW, hsame⟩ := X1.leave (v := some (.int ((f_maxL (-2147483648 : Int64) ((p1.toInt64) - (((65535 : Int64) - ((p2.toInt64) - (p1.toInt64))) / (2 : Int64)))).toInt32))) (fun h => by rw [hret] at h; cases h)
  subst hR0
  refine ⟨_, _, ?_, hrun, hended, _, _, rfl, ?_, ⟨_, rfl⟩, hW, hsame.mono (by decide) (by decide)⟩
  · exact retI X1 hx hret (bb d7_25) hr
  · exact ⟨by simp only [f_base], N1, e1⟩
theorem own_max (x y : Int32) : (f_maxI x y).toInt = max x.toInt y.toInt := by
  unfold f_maxI
  split
  · rename_i h; rw [Int32.lt_iff_toInt_lt] at h; omega
  · rename_i h; rw [Int32.lt_iff_toInt_lt] at h; omega
theorem own_min (x y : Int32) : (f_minI x y).toInt = min x.toInt y.toInt := by
  unfold f_minI
  split
  · rename_i h; rw [Int32.lt_iff_toInt_lt] at h; omega
  · rename_i h; rw [Int32.lt_iff_toInt_lt] at h; omega
theorem own_maxS (x : Int32) : f_maxI x x = x := by unfold f_maxI; split <;> rfl
theorem own_minS (x : Int32) : f_minI x x = x := by unfold f_minI; split <;> rfl
theorem own_base {l u : Int32} (h0 : l.toInt ≤ u.toInt) (h : u.toInt - l.toInt < 65536) : (f_base l u).toInt ≤ l.toInt ∧ u.toInt < (f_base l u).toInt + 65536 := by
  unfold f_base f_maxL
  have rl := rng32 l
  have ru := rng32 u
  have el := c_i2l l
  have eu := c_i2l u
  have k1 : (65535 : Int64).toInt = 65535 := rfl
  have k2 : (-2147483648 : Int64).toInt = -2147483648 := rfl
  have a1 := c_lsub u.toInt64 l.toInt64
  have r1 := rng64 (u.toInt64 - l.toInt64)
  have a2 := c_lsub (65535 : Int64) (u.toInt64 - l.toInt64)
  have r2 := rng64 ((65535 : Int64) - (u.toInt64 - l.toInt64))
  generalize hx : ((65535 : Int64) - (u.toInt64 - l.toInt64)) = x at *
  have a3 := (c_ldiv x (2 : Int64) 2 rfl (by decide)).1 (by omega)
  have a4 := c_lsub l.toInt64 (x / 2)
  have r4 := rng64 (l.toInt64 - x / 2)
  generalize hy : (l.toInt64 - x / 2) = y at *
  split
  · rename_i g
    rw [lw_lt, Int64.lt_iff_toInt_lt] at g
    have e := c_l2i y
    have r := rng32 y.toInt32
    omega
  · rename_i g
    rw [lw_lt, Int64.lt_iff_toInt_lt] at g
    have e := c_l2i (-2147483648 : Int64)
    have r := rng32 (-2147483648 : Int64).toInt32
    omega
theorem own_dif (x y : Int32) : ((x.toInt64) - (y.toInt64)).toInt = x.toInt - y.toInt := by
  have rx := rng32 x
  have ry := rng32 y
  have ex := c_i2l x
  have ey := c_i2l y
  have a1 := c_lsub x.toInt64 y.toInt64
  have r1 := rng64 (x.toInt64 - y.toInt64)
  omega
theorem own_lt (x : Int64) (k : Int64) (K : Int) (hk : k.toInt = K) : (lcmpW x k) < (0 : Int32) ↔ x.toInt < K := by rw [lw_lt, Int64.lt_iff_toInt_lt, hk]
def nbase (b l u t : Int32) : Int32 := (if ((lcmpW ((t.toInt64) - (b.toInt64)) (0 : Int64)) < (0 : Int32)) ∨ ¬ ((lcmpW ((t.toInt64) - (b.toInt64)) (65536 : Int64)) < (0 : Int32)) then (f_base (f_minI t l) (f_maxI t u)) else b)
theorem own_sp {t l u : Int32} (h : (lcmpW (((f_maxI t u).toInt64) - ((f_minI t l).toInt64)) (65536 : Int64)) < (0 : Int32)) : (f_maxI t u).toInt - (f_minI t l).toInt < 65536 := by
  rw [own_lt _ _ 65536 rfl, own_dif] at h; exact h
theorem own_inT {b l u t : Int32} (h : (lcmpW (((f_maxI t u).toInt64) - ((f_minI t l).toInt64)) (65536 : Int64)) < (0 : Int32)) : ownIn (nbase b l u t) t := by
  have hs := own_sp h
  have m1 := own_max t u
  have m2 := own_min t l
  have q := own_base (l := f_minI t l) (u := f_maxI t u) (by omega) hs
  unfold nbase ownIn
  split
  · omega
  · rename_i g1
    rw [own_lt _ _ 0 rfl, own_lt _ _ 65536 rfl, own_dif] at g1
    omega
theorem own_inN {b l u t v : Int32} (i : ownIn b v) (j : ownBt l u v) (h : (lcmpW (((f_maxI t u).toInt64) - ((f_minI t l).toInt64)) (65536 : Int64)) < (0 : Int32)) : ownIn (nbase b l u t) v := by
  have hs := own_sp h
  have m1 := own_max t u
  have m2 := own_min t l
  obtain ⟨j1, j2⟩ := j
  have q := own_base (l := f_minI t l) (u := f_maxI t u) (by omega) hs
  unfold nbase
  split
  · unfold ownIn; omega
  · exact i
theorem own_inS (t : Int32) : ownIn (f_base t t) t := own_base (Int.le_refl _) (by omega)
theorem own_btS (t : Int32) : ownBt t t t := ⟨Int.le_refl _, Int.le_refl _⟩
theorem own_btT {l u t : Int32} : ownBt (f_minI t l) (f_maxI t u) t := by
  have m1 := own_max t u
  have m2 := own_min t l
  unfold ownBt; omega
theorem own_btN {l u t v : Int32} (j : ownBt l u v) : ownBt (f_minI t l) (f_maxI t u) v := by
  have m1 := own_max t u
  have m2 := own_min t l
  unfold ownBt at *; omega
theorem own_s0 (t : Int32) : (lcmpW (((f_maxI t t).toInt64) - ((f_minI t t).toInt64)) (65536 : Int64)) < (0 : Int32) := by rw [own_lt _ _ 65536 rfl, own_dif, own_maxS, own_minS]; omega
theorem own_d0 (t : Int32) : ¬ ((lcmpW ((t.toInt64) - ((f_base t t).toInt64)) (0 : Int64)) < (0 : Int32)) := by
  have q := own_inS t
  rw [own_lt _ _ 0 rfl, own_dif]; unfold ownIn at q; omega
theorem own_e0 (t : Int32) : (lcmpW ((t.toInt64) - ((f_base t t).toInt64)) (65536 : Int64)) < (0 : Int32) := by
  have q := own_inS t
  rw [own_lt _ _ 65536 rfl, own_dif]; unfold ownIn at q; omega

def Q_rvInit1 (Z : State) (a1 : Addr) (h0 : Heap) (n0 : Nat) (v : Option Value) (h : Heap) (L : List Loc) : Prop := ∃ (ow on ob ol oh ov : Addr) (kw_ kn_ kb_ kl_ kh_ kv_ : ClassId), v = none ∧ Fr n0 L ∧ Keep h0 h [a1] ∧ h0.size ≤ ow ∧ h0.size ≤ on ∧ h0.size ≤ ob ∧ h0.size ≤ ol ∧ h0.size ≤ oh ∧ h0.size ≤ ov ∧ ow ≠ on ∧ ow ≠ ob ∧ ow ≠ ol ∧ ow ≠ oh ∧ ow ≠ ov ∧ on ≠ ob ∧ on ≠ ol ∧ on ≠ oh ∧ on ≠ ov ∧ ob ≠ ol ∧ ob ≠ oh ∧ ob ≠ ov ∧ ol ≠ oh ∧ ol ≠ ov ∧ oh ≠ ov ∧ Exa Z h a1 cRV ∧ Fld Z h a1 cRV "arity" "I" (.int 1) ∧ Fld Z h a1 cRV "rows" "I" (.int 0) ∧ Fld Z h a1 cRV "wide" "[[I" (.ref ow) ∧ Fld Z h a1 cRV "narrow" "[[C" (.ref on) ∧ Fld Z h a1 cRV "bases" "[I" (.ref ob) ∧ Fld Z h a1 cRV "lowest" "[I" (.ref ol) ∧ Fld Z h a1 cRV "highest" "[I" (.ref oh) ∧ Arv Z h ow kw_ (.array .int) (1 : Int32) [.null] .null ∧ OvrA Z kw_ .int "[I" ∧ Arv Z h on kn_ (.array .char) (1 : Int32) [(.ref ov)] .null ∧ OvrA Z kn_ .char "[C" ∧ Arv Z h ob kb_ .int (1 : Int32) [(.int 0)] (.int 0) ∧ Arv Z h ol kl_ .int (1 : Int32) [(.int 0)] (.int 0) ∧ Arv Z h oh kh_ .int (1 : Int32) [(.int 0)] (.int 0) ∧ Arv Z h ov kv_ .char (8 : Int32) [(.int 0), (.int 0), (.int 0), (.int 0), (.int 0), (.int 0), (.int 0), (.int 0)] (.int 0)
set_option maxRecDepth 65536 in
set_option maxHeartbeats 40000000 in
theorem rm_rvInit1 (l : Launch) (Z : State) (a0 : Array Value) (ww : WW a0 Z) (ws : List Jvm.Cond) (a1 : Addr) (h0 : Heap) (n0 : Nat) (Z0 : n0 ≤ h0.size) (O0 : Old Z n0 h0) (S_CS : Sta Z Z.heap cRV "CHUNK_SHIFT" "I" (.int (12 : Int32))) (r0 : Exa Z h0 a1 cRV) (r1 : Fld Z h0 a1 cRV "arity" "I" (.int 0)) (r2 : Fld Z h0 a1 cRV "rows" "I" (.int 0)) (r3 : Fld Z h0 a1 cRV "wide" "[[I" .null) (r4 : Fld Z h0 a1 cRV "narrow" "[[C" .null) (r5 : Fld Z h0 a1 cRV "bases" "[I" .null) (r6 : Fld Z h0 a1 cRV "lowest" "[I" .null) (r7 : Fld Z h0 a1 cRV "highest" "[I" .null) (g_a1 : n0 ≤ a1) :
    MF l Z (⟨cRV, "<init>", "(I)V"⟩ : MethodName) prog_47_method_1_code 2 none ws ({ frames := 1, cells := 6, slots := 13, locals := 12 } : Room) #[(.ref a1), (.int 1)] h0 (Q_rvInit1 Z a1 h0 n0) := by
  refine gopen (plainFor_of_name pn_RowValues) (fun m => ef_rvInit1 m a1) (fun p e s m below meth c s₁ hlk hret hx bb hml hown hnm hZ X0 e0 R0 hR0 => ?_)
  have N0 := Fr.nil n0
  refine g_aloadN X0 hx (bb d2_0) rfl rfl ?_
  obtain ⟨T1, X1, e1, st1⟩ := initO X0 hx hZ hown (ww 11 rfl) (ww 12 rfl) (ww 13 rfl) e0 (g := (mkF m 1 #[vR a1, vI 1] [(.ref a1)])) rfl (by rw [hml]; rfl) rfl (bb d2_1) (by decide) (W := 0) (by show 2 * 0 + _ ≤ _; exact Nat.le_of_eq rfl) (by decide)
  refine gl st1 ?_
  refine g_aloadN X1 hx (bb d2_4) rfl rfl ?_
  refine g_iconst X1 hx (bb d2_5) ?_
  obtain ⟨T2, h2, k2, X2, e2, E2, A2, B2, R2, st2⟩ := newRA X1 hx hZ hown (C := "[I") (ty := .int) (by decide) (ww 14 rfl) (ww 15 rfl) e1 (g := (mkF m 6 #[vR a1, vI 1] [(.int 1), (.ref a1)])) rfl (bb d2_6) rfl (by decide) (cap := 1) (by decide) (by decide) (by decide) (by decide) (ad := "[[I") (by decide)
  obtain ⟨b2, q_b2⟩ : ∃ z, z = (h0).size := ⟨_, rfl⟩
  rw [← q_b2] at A2 B2 st2
  have g_b2 : n0 ≤ b2 := Nat.le_trans (own_z0 O0) (Nat.le_of_eq q_b2.symm)
  have sz_b2 : h0.size ≤ b2 := Nat.le_trans (Nat.le_refl _) (Nat.le_of_eq q_b2.symm)
  have ne_a1_b2 : a1 ≠ b2 := Nat.ne_of_lt (Nat.lt_of_lt_of_le r0.lt (Nat.le_of_eq q_b2.symm))
  refine gl st2 ?_
  have V_b2 : Arv Z h2 b2 k2 (.array .int) (1 : Int32) [.null] .null := (Arv.new A2 (by decide)).pad (pad_rep [] .null 1)
  have F4 := (r3.ext E2)
  have F5 := (r0.ext E2)
  obtain ⟨T3, h3, X3, e3, W3, st3⟩ := putF X2 hx hZ hown (host := "") (Or.inl (ww 16 rfl)) Via.refl e2 F4 F5 (Or.inl (ww 17 rfl)) (ww 6 rfl) (ty := (.array (.array .int))) (by decide) rfl rfl (g := (mkF m 9 #[vR a1, vI 1] [(.ref b2), (.ref a1)])) rfl rfl (bb d2_9)
  have Fw3 := F4.same W3
  refine gl st3 ?_
  have N3 := Fr.snoc X3 N0 g_a1
  refine g_aloadN X3 hx (bb d2_12) rfl rfl ?_
  refine g_iconst X3 hx (bb d2_13) ?_
  have O7 := ((O0.ext E2).wr W3 g_a1)
  obtain ⟨T6, h6, k6, X6, e6, E6, A6, B6, R6, st6⟩ := newRA X3 hx hZ hown (C := "[C") (ty := .char) (by decide) (ww 18 rfl) (ww 19 rfl) e3 (g := (mkF m 14 #[vR a1, vI 1] [(.int 1), (.ref a1)])) rfl (bb d2_14) rfl (by decide) (cap := 1) (by decide) (by decide) (by decide) (by decide) (ad := "[[C") (by decide)
  obtain ⟨b6, q_b6⟩ : ∃ z, z = (h3).size := ⟨_, rfl⟩
  rw [← q_b6] at A6 B6 st6
  have g_b6 : n0 ≤ b6 := Nat.le_trans (own_z0 O7) (Nat.le_of_eq q_b6.symm)
  have sz_b6 : h0.size ≤ b6 := Nat.le_trans (Nat.le_trans (Nat.le_trans (Nat.le_refl _) E2.1) (Keep.of_wr W3).1) (Nat.le_of_eq q_b6.symm)
  have F8 := (F5.wr W3)
  have ne_a1_b6 : a1 ≠ b6 := Nat.ne_of_lt (Nat.lt_of_lt_of_le F8.lt (Nat.le_of_eq q_b6.symm))
  have F9 := (V_b2.other W3 (Ne.symm ne_a1_b2))
  have ne_b2_b6 : b2 ≠ b6 := Nat.ne_of_lt (Nat.lt_of_lt_of_le F9.lt (Nat.le_of_eq q_b6.symm))
  refine gl st6 ?_
  have V_b6 : Arv Z h6 b6 k6 (.array .char) (1 : Int32) [.null] .null := (Arv.new A6 (by decide)).pad (pad_rep [] .null 1)
  have F11 := (((r4.ext E2).other W3 (Or.inr (slot_ne (Or.inl (ww 21 rfl)) (Or.inl (ww 17 rfl)) (by decide) (t := (.array (.array .char))) (t' := (.array (.array .int))) (by decide) (by decide)))).ext E6)
  have F12 := (F8.ext E6)
  obtain ⟨T10, h10, X10, e10, W10, st10⟩ := putF X6 hx hZ hown (host := "") (Or.inl (ww 20 rfl)) Via.refl e6 F11 F12 (Or.inl (ww 21 rfl)) (ww 6 rfl) (ty := (.array (.array .char))) (by decide) rfl rfl (g := (mkF m 17 #[vR a1, vI 1] [(.ref b6), (.ref a1)])) rfl rfl (bb d2_17)
  have Fw10 := F11.same W10
  refine gl st10 ?_
  have N10 := Fr.snoc X10 N3 g_a1
  refine g_aloadN X10 hx (bb d2_20) rfl rfl ?_
  refine g_iloadN X10 hx (bb d2_21) rfl ?_
  have F14 := ((((r1.ext E2).other W3 (Or.inr (slot_ne (Or.inr (ww 23 rfl)) (Or.inl (ww 17 rfl)) (by decide) (t := .int) (t' := (.array (.array .int))) (by decide) (by decide)))).ext E6).other W10 (Or.inr (slot_ne (Or.inr (ww 23 rfl)) (Or.inl (ww 21 rfl)) (by decide) (t := .int) (t' := (.array (.array .char))) (by decide) (by decide))))
  have F15 := (F12.wr W10)
  obtain ⟨T13, h13, X13, e13, W13, st13⟩ := putF X10 hx hZ hown (host := "") (Or.inl (ww 22 rfl)) Via.refl e10 F14 F15 (Or.inr ⟨(ww 23 rfl), rfl, hnm⟩) (ww 6 rfl) (ty := .int) (by decide) rfl rfl (g := (mkF m 22 #[vR a1, vI 1] [(.int 1), (.ref a1)])) rfl rfl (bb d2_22)
  have Fw13 := F14.same W13
  refine gl st13 ?_
  have N13 := Fr.snoc X13 N10 g_a1
  refine g_aloadN X13 hx (bb d2_25) rfl rfl ?_
  refine g_iloadN X13 hx (bb d2_26) rfl ?_
  have O17 := (((O7.ext E6).wr W10 g_a1).wr W13 g_a1)
  obtain ⟨T16, h16, k16, X16, e16, E16, A16, B16, st16⟩ := newPE (aty := .int) X13 hx hZ (ww 4 rfl) e13 (g := (mkF m 27 #[vR a1, vI 1] [(.int 1), (.ref a1)])) rfl (bb d2_27) rfl (by decide) (cap := 1) (by decide) (by decide) (by decide) (by decide) (ad := "[I") (by decide)
  obtain ⟨b16, q_b16⟩ : ∃ z, z = (h13).size := ⟨_, rfl⟩
  rw [← q_b16] at A16 B16 st16
  have g_b16 : n0 ≤ b16 := Nat.le_trans (own_z0 O17) (Nat.le_of_eq q_b16.symm)
  have sz_b16 : h0.size ≤ b16 := Nat.le_trans (Nat.le_trans (Nat.le_trans (Nat.le_trans (Nat.le_trans (Nat.le_trans (Nat.le_refl _) E2.1) (Keep.of_wr W3).1) E6.1) (Keep.of_wr W10).1) (Keep.of_wr W13).1) (Nat.le_of_eq q_b16.symm)
  have F18 := (F15.wr W13)
  have ne_a1_b16 : a1 ≠ b16 := Nat.ne_of_lt (Nat.lt_of_lt_of_le F18.lt (Nat.le_of_eq q_b16.symm))
  have F19 := (((F9.ext E6).other W10 (Ne.symm ne_a1_b2)).other W13 (Ne.symm ne_a1_b2))
  have ne_b2_b16 : b2 ≠ b16 := Nat.ne_of_lt (Nat.lt_of_lt_of_le F19.lt (Nat.le_of_eq q_b16.symm))
  have F20 := ((V_b6.other W10 (Ne.symm ne_a1_b6)).other W13 (Ne.symm ne_a1_b6))
  have ne_b6_b16 : b6 ≠ b16 := Nat.ne_of_lt (Nat.lt_of_lt_of_le F20.lt (Nat.le_of_eq q_b16.symm))
  refine gl st16 ?_
  have V_b16 : Arv Z h16 b16 k16 .int (1 : Int32) [(.int 0)] (.int 0) := (Arv.new A16 (by decide)).pad (pad_rep [] (.int 0) 1)
  have F22 := ((((((r5.ext E2).other W3 (Or.inr (slot_ne (Or.inl (ww 25 rfl)) (Or.inl (ww 17 rfl)) (by decide) (t := (.array .int)) (t' := (.array (.array .int))) (by decide) (by decide)))).ext E6).other W10 (Or.inr (slot_ne (Or.inl (ww 25 rfl)) (Or.inl (ww 21 rfl)) (by decide) (t := (.array .int)) (t' := (.array (.array .char))) (by decide) (by decide)))).other W13 (Or.inr (slot_ne (Or.inl (ww 25 rfl)) (Or.inr (ww 23 rfl)) (by decide) (t := (.array .int)) (t' := .int) (by decide) (by decide)))).ext E16)
  have F23 := (F18.ext E16)
  obtain ⟨T21, h21, X21, e21, W21, st21⟩ := putF X16 hx hZ hown (host := "") (Or.inl (ww 24 rfl)) Via.refl e16 F22 F23 (Or.inl (ww 25 rfl)) (ww 6 rfl) (ty := (.array .int)) (by decide) rfl rfl (g := (mkF m 29 #[vR a1, vI 1] [(.ref b16), (.ref a1)])) rfl rfl (bb d2_29)
  have Fw21 := F22.same W21
  refine gl st21 ?_
  have N21 := Fr.snoc X21 N13 g_a1
  refine g_aloadN X21 hx (bb d2_32) rfl rfl ?_
  refine g_iloadN X21 hx (bb d2_33) rfl ?_
  have O25 := ((O17.ext E16).wr W21 g_a1)
  obtain ⟨T24, h24, k24, X24, e24, E24, A24, B24, st24⟩ := newPE (aty := .int) X21 hx hZ (ww 4 rfl) e21 (g := (mkF m 34 #[vR a1, vI 1] [(.int 1), (.ref a1)])) rfl (bb d2_34) rfl (by decide) (cap := 1) (by decide) (by decide) (by decide) (by decide) (ad := "[I") (by decide)
  obtain ⟨b24, q_b24⟩ : ∃ z, z = (h21).size := ⟨_, rfl⟩
  rw [← q_b24] at A24 B24 st24
  have g_b24 : n0 ≤ b24 := Nat.le_trans (own_z0 O25) (Nat.le_of_eq q_b24.symm)
  have sz_b24 : h0.size ≤ b24 := Nat.le_trans (Nat.le_trans (Nat.le_trans (Nat.le_trans (Nat.le_trans (Nat.le_trans (Nat.le_trans (Nat.le_trans (Nat.le_refl _) E2.1) (Keep.of_wr W3).1) E6.1) (Keep.of_wr W10).1) (Keep.of_wr W13).1) E16.1) (Keep.of_wr W21).1) (Nat.le_of_eq q_b24.symm)
  have F26 := (F23.wr W21)
  have ne_a1_b24 : a1 ≠ b24 := Nat.ne_of_lt (Nat.lt_of_lt_of_le F26.lt (Nat.le_of_eq q_b24.symm))
  have F27 := ((F19.ext E16).other W21 (Ne.symm ne_a1_b2))
  have ne_b2_b24 : b2 ≠ b24 := Nat.ne_of_lt (Nat.lt_of_lt_of_le F27.lt (Nat.le_of_eq q_b24.symm))
  have F28 := ((F20.ext E16).other W21 (Ne.symm ne_a1_b6))
  have ne_b6_b24 : b6 ≠ b24 := Nat.ne_of_lt (Nat.lt_of_lt_of_le F28.lt (Nat.le_of_eq q_b24.symm))
  have F29 := (V_b16.other W21 (Ne.symm ne_a1_b16))
  have ne_b16_b24 : b16 ≠ b24 := Nat.ne_of_lt (Nat.lt_of_lt_of_le F29.lt (Nat.le_of_eq q_b24.symm))
  refine gl st24 ?_
  have V_b24 : Arv Z h24 b24 k24 .int (1 : Int32) [(.int 0)] (.int 0) := (Arv.new A24 (by decide)).pad (pad_rep [] (.int 0) 1)
  have F31 := ((((((((r6.ext E2).other W3 (Or.inr (slot_ne (Or.inr (ww 27 rfl)) (Or.inl (ww 17 rfl)) (by decide) (t := (.array .int)) (t' := (.array (.array .int))) (by decide) (by decide)))).ext E6).other W10 (Or.inr (slot_ne (Or.inr (ww 27 rfl)) (Or.inl (ww 21 rfl)) (by decide) (t := (.array .int)) (t' := (.array (.array .char))) (by decide) (by decide)))).other W13 (Or.inr (slot_ne (Or.inr (ww 27 rfl)) (Or.inr (ww 23 rfl)) (by decide) (t := (.array .int)) (t' := .int) (by decide) (by decide)))).ext E16).other W21 (Or.inr (slot_ne (Or.inr (ww 27 rfl)) (Or.inl (ww 25 rfl)) (by decide) (t := (.array .int)) (t' := (.array .int)) (by decide) (by decide)))).ext E24)
  have F32 := (F26.ext E24)
  obtain ⟨T30, h30, X30, e30, W30, st30⟩ := putF X24 hx hZ hown (host := "") (Or.inl (ww 26 rfl)) Via.refl e24 F31 F32 (Or.inr ⟨(ww 27 rfl), rfl, hnm⟩) (ww 6 rfl) (ty := (.array .int)) (by decide) rfl rfl (g := (mkF m 36 #[vR a1, vI 1] [(.ref b24), (.ref a1)])) rfl rfl (bb d2_36)
  have Fw30 := F31.same W30
  refine gl st30 ?_
  have N30 := Fr.snoc X30 N21 g_a1
  refine g_aloadN X30 hx (bb d2_39) rfl rfl ?_
  refine g_iloadN X30 hx (bb d2_40) rfl ?_
  have O34 := ((O25.ext E24).wr W30 g_a1)
  obtain ⟨T33, h33, k33, X33, e33, E33, A33, B33, st33⟩ := newPE (aty := .int) X30 hx hZ (ww 4 rfl) e30 (g := (mkF m 41 #[vR a1, vI 1] [(.int 1), (.ref a1)])) rfl (bb d2_41) rfl (by decide) (cap := 1) (by decide) (by decide) (by decide) (by decide) (ad := "[I") (by decide)
  obtain ⟨b33, q_b33⟩ : ∃ z, z = (h30).size := ⟨_, rfl⟩
  rw [← q_b33] at A33 B33 st33
  have g_b33 : n0 ≤ b33 := Nat.le_trans (own_z0 O34) (Nat.le_of_eq q_b33.symm)
  have sz_b33 : h0.size ≤ b33 := Nat.le_trans (Nat.le_trans (Nat.le_trans (Nat.le_trans (Nat.le_trans (Nat.le_trans (Nat.le_trans (Nat.le_trans (Nat.le_trans (Nat.le_trans (Nat.le_refl _) E2.1) (Keep.of_wr W3).1) E6.1) (Keep.of_wr W10).1) (Keep.of_wr W13).1) E16.1) (Keep.of_wr W21).1) E24.1) (Keep.of_wr W30).1) (Nat.le_of_eq q_b33.symm)
  have F35 := (F32.wr W30)
  have ne_a1_b33 : a1 ≠ b33 := Nat.ne_of_lt (Nat.lt_of_lt_of_le F35.lt (Nat.le_of_eq q_b33.symm))
  have F36 := ((F27.ext E24).other W30 (Ne.symm ne_a1_b2))
  have ne_b2_b33 : b2 ≠ b33 := Nat.ne_of_lt (Nat.lt_of_lt_of_le F36.lt (Nat.le_of_eq q_b33.symm))
  have F37 := ((F28.ext E24).other W30 (Ne.symm ne_a1_b6))
  have ne_b6_b33 : b6 ≠ b33 := Nat.ne_of_lt (Nat.lt_of_lt_of_le F37.lt (Nat.le_of_eq q_b33.symm))
  have F38 := ((F29.ext E24).other W30 (Ne.symm ne_a1_b16))
  have ne_b16_b33 : b16 ≠ b33 := Nat.ne_of_lt (Nat.lt_of_lt_of_le F38.lt (Nat.le_of_eq q_b33.symm))
  have F39 := (V_b24.other W30 (Ne.symm ne_a1_b24))
  have ne_b24_b33 : b24 ≠ b33 := Nat.ne_of_lt (Nat.lt_of_lt_of_le F39.lt (Nat.le_of_eq q_b33.symm))
  refine gl st33 ?_
  have V_b33 : Arv Z h33 b33 k33 .int (1 : Int32) [(.int 0)] (.int 0) := (Arv.new A33 (by decide)).pad (pad_rep [] (.int 0) 1)
  have F41 := ((((((((((r7.ext E2).other W3 (Or.inr (slot_ne (Or.inr (ww 29 rfl)) (Or.inl (ww 17 rfl)) (by decide) (t := (.array .int)) (t' := (.array (.array .int))) (by decide) (by decide)))).ext E6).other W10 (Or.inr (slot_ne (Or.inr (ww 29 rfl)) (Or.inl (ww 21 rfl)) (by decide) (t := (.array .int)) (t' := (.array (.array .char))) (by decide) (by decide)))).other W13 (Or.inr (slot_ne (Or.inr (ww 29 rfl)) (Or.inr (ww 23 rfl)) (by decide) (t := (.array .int)) (t' := .int) (by decide) (by decide)))).ext E16).other W21 (Or.inr (slot_ne (Or.inr (ww 29 rfl)) (Or.inl (ww 25 rfl)) (by decide) (t := (.array .int)) (t' := (.array .int)) (by decide) (by decide)))).ext E24).other W30 (Or.inr (slot_ne (Or.inr (ww 29 rfl)) (Or.inr (ww 27 rfl)) (by decide) (t := (.array .int)) (t' := (.array .int)) (by decide) (by decide)))).ext E33)
  have F42 := (F35.ext E33)
  obtain ⟨T40, h40, X40, e40, W40, st40⟩ := putF X33 hx hZ hown (host := "") (Or.inl (ww 28 rfl)) Via.refl e33 F41 F42 (Or.inr ⟨(ww 29 rfl), rfl, hnm⟩) (ww 6 rfl) (ty := (.array .int)) (by decide) rfl rfl (g := (mkF m 43 #[vR a1, vI 1] [(.ref b33), (.ref a1)])) rfl rfl (bb d2_43)
  have Fw40 := F41.same W40
  refine gl st40 ?_
  have N40 := Fr.snoc X40 N30 g_a1
  refine g_aloadN X40 hx (bb d2_46) rfl rfl ?_
  have F44 := (((((((Fw10.other W13 (Or.inr (slot_ne (Or.inl (ww 21 rfl)) (Or.inr (ww 23 rfl)) (by decide) (t := (.array (.array .char))) (t' := .int) (by decide) (by decide)))).ext E16).other W21 (Or.inr (slot_ne (Or.inl (ww 21 rfl)) (Or.inl (ww 25 rfl)) (by decide) (t := (.array (.array .char))) (t' := (.array .int)) (by decide) (by decide)))).ext E24).other W30 (Or.inr (slot_ne (Or.inl (ww 21 rfl)) (Or.inr (ww 27 rfl)) (by decide) (t := (.array (.array .char))) (t' := (.array .int)) (by decide) (by decide)))).ext E33).other W40 (Or.inr (slot_ne (Or.inl (ww 21 rfl)) (Or.inr (ww 29 rfl)) (by decide) (t := (.array (.array .char))) (t' := (.array .int)) (by decide) (by decide))))
  refine gF X40 hx hZ hown (ww 20 rfl) e40 F44 (bb d2_47) (fun T43 X43 e43 => ?_)
  refine g_iconst X43 hx (bb d2_50) ?_
  refine g_bipush X43 hx (bb d2_51) ?_
  refine g_iloadN X43 hx (bb d2_53) rfl ?_
  refine g_imul X43 hx (bb d2_54) ?_
  have O46 := ((O34.ext E33).wr W40 g_a1)
  obtain ⟨T45, h45, k45, X45, e45, E45, A45, B45, st45⟩ := newPE (aty := .char) X43 hx hZ (ww 30 rfl) e43 (g := (mkF m 55 #[vR a1, vI 1] [(.int 8), (.int 0), (.ref b6)])) rfl (bb d2_55) rfl (by decide) (cap := 8) (by decide) (by decide) (by decide) (by decide) (ad := "[C") (by decide)
  obtain ⟨b45, q_b45⟩ : ∃ z, z = (h40).size := ⟨_, rfl⟩
  rw [← q_b45] at A45 B45 st45
  have g_b45 : n0 ≤ b45 := Nat.le_trans (own_z0 O46) (Nat.le_of_eq q_b45.symm)
  have sz_b45 : h0.size ≤ b45 := Nat.le_trans (Nat.le_trans (Nat.le_trans (Nat.le_trans (Nat.le_trans (Nat.le_trans (Nat.le_trans (Nat.le_trans (Nat.le_trans (Nat.le_trans (Nat.le_trans (Nat.le_trans (Nat.le_refl _) E2.1) (Keep.of_wr W3).1) E6.1) (Keep.of_wr W10).1) (Keep.of_wr W13).1) E16.1) (Keep.of_wr W21).1) E24.1) (Keep.of_wr W30).1) E33.1) (Keep.of_wr W40).1) (Nat.le_of_eq q_b45.symm)
  have F47 := (F42.wr W40)
  have ne_a1_b45 : a1 ≠ b45 := Nat.ne_of_lt (Nat.lt_of_lt_of_le F47.lt (Nat.le_of_eq q_b45.symm))
  have F48 := ((F36.ext E33).other W40 (Ne.symm ne_a1_b2))
  have ne_b2_b45 : b2 ≠ b45 := Nat.ne_of_lt (Nat.lt_of_lt_of_le F48.lt (Nat.le_of_eq q_b45.symm))
  have F49 := ((F37.ext E33).other W40 (Ne.symm ne_a1_b6))
  have ne_b6_b45 : b6 ≠ b45 := Nat.ne_of_lt (Nat.lt_of_lt_of_le F49.lt (Nat.le_of_eq q_b45.symm))
  have F50 := ((F38.ext E33).other W40 (Ne.symm ne_a1_b16))
  have ne_b16_b45 : b16 ≠ b45 := Nat.ne_of_lt (Nat.lt_of_lt_of_le F50.lt (Nat.le_of_eq q_b45.symm))
  have F51 := ((F39.ext E33).other W40 (Ne.symm ne_a1_b24))
  have ne_b24_b45 : b24 ≠ b45 := Nat.ne_of_lt (Nat.lt_of_lt_of_le F51.lt (Nat.le_of_eq q_b45.symm))
  have F52 := (V_b33.other W40 (Ne.symm ne_a1_b33))
  have ne_b33_b45 : b33 ≠ b45 := Nat.ne_of_lt (Nat.lt_of_lt_of_le F52.lt (Nat.le_of_eq q_b45.symm))
  refine gl st45 ?_
  have V_b45 : Arv Z h45 b45 k45 .char (8 : Int32) [(.int 0), (.int 0), (.int 0), (.int 0), (.int 0), (.int 0), (.int 0), (.int 0)] (.int 0) := (Arv.new A45 (by decide)).pad (pad_rep [] (.int 0) 8)
  have F53 := (F49.ext E45)
  obtain ⟨cl54, Ar54, vq54, vS54, vN54, vH54, vG54⟩ := id F53
  have hin54 : ¬ (((0 : Int32) : Int32) < 0 ∨ cl54.slots.size ≤ ((0 : Int32) : Int32).toNatClampNeg) := inb_of vS54 ⟨by decide, by decide⟩
  obtain ⟨T54, h54, X54, e54, W54, st54⟩ := stR X45 hx hZ e45 Ar54 (j := (0 : Int32)) hin54 rfl (Sto.ofVA Ar54 vq54 R6 (Ins.self B45)) (g := (mkF m 57 #[vR a1, vI 1] [(.ref b45), (.int 0), (.ref b6)])) rfl rfl (bb d2_57)
  refine gl st54 ?_
  have V54 : Arv Z h54 b6 k6 (.array .char) (1 : Int32) [(.ref b45)] .null := Arv.set Ar54 vq54 vS54 vN54 vH54 vG54 rfl W54 0 rfl (Nat.le_of_ble_eq_true rfl)
  have N54 := Fr.snoc X54 N40 g_b6
  have F55 := ((F47.ext E45).wr W54)
  have F56 := ((((((((Fw13.ext E16).other W21 (Or.inr (slot_ne (Or.inr (ww 23 rfl)) (Or.inl (ww 25 rfl)) (by decide) (t := .int) (t' := (.array .int)) (by decide) (by decide)))).ext E24).other W30 (Or.inr (slot_ne (Or.inr (ww 23 rfl)) (Or.inr (ww 27 rfl)) (by decide) (t := .int) (t' := (.array .int)) (by decide) (by decide)))).ext E33).other W40 (Or.inr (slot_ne (Or.inr (ww 23 rfl)) (Or.inr (ww 29 rfl)) (by decide) (t := .int) (t' := (.array .int)) (by decide) (by decide)))).ext E45).other W54 (Or.inl ne_a1_b6))
  have F57 := (((((((((((((r2.ext E2).other W3 (Or.inr (slot_ne (Or.inl (ww 38 rfl)) (Or.inl (ww 17 rfl)) (by decide) (t := .int) (t' := (.array (.array .int))) (by decide) (by decide)))).ext E6).other W10 (Or.inr (slot_ne (Or.inl (ww 38 rfl)) (Or.inl (ww 21 rfl)) (by decide) (t := .int) (t' := (.array (.array .char))) (by decide) (by decide)))).other W13 (Or.inr (slot_ne (Or.inl (ww 38 rfl)) (Or.inr (ww 23 rfl)) (by decide) (t := .int) (t' := .int) (by decide) (by decide)))).ext E16).other W21 (Or.inr (slot_ne (Or.inl (ww 38 rfl)) (Or.inl (ww 25 rfl)) (by decide) (t := .int) (t' := (.array .int)) (by decide) (by decide)))).ext E24).other W30 (Or.inr (slot_ne (Or.inl (ww 38 rfl)) (Or.inr (ww 27 rfl)) (by decide) (t := .int) (t' := (.array .int)) (by decide) (by decide)))).ext E33).other W40 (Or.inr (slot_ne (Or.inl (ww 38 rfl)) (Or.inr (ww 29 rfl)) (by decide) (t := .int) (t' := (.array .int)) (by decide) (by decide)))).ext E45).other W54 (Or.inl ne_a1_b6))
  have F58 := (((((((((((Fw3.ext E6).other W10 (Or.inr (slot_ne (Or.inl (ww 17 rfl)) (Or.inl (ww 21 rfl)) (by decide) (t := (.array (.array .int))) (t' := (.array (.array .char))) (by decide) (by decide)))).other W13 (Or.inr (slot_ne (Or.inl (ww 17 rfl)) (Or.inr (ww 23 rfl)) (by decide) (t := (.array (.array .int))) (t' := .int) (by decide) (by decide)))).ext E16).other W21 (Or.inr (slot_ne (Or.inl (ww 17 rfl)) (Or.inl (ww 25 rfl)) (by decide) (t := (.array (.array .int))) (t' := (.array .int)) (by decide) (by decide)))).ext E24).other W30 (Or.inr (slot_ne (Or.inl (ww 17 rfl)) (Or.inr (ww 27 rfl)) (by decide) (t := (.array (.array .int))) (t' := (.array .int)) (by decide) (by decide)))).ext E33).other W40 (Or.inr (slot_ne (Or.inl (ww 17 rfl)) (Or.inr (ww 29 rfl)) (by decide) (t := (.array (.array .int))) (t' := (.array .int)) (by decide) (by decide)))).ext E45).other W54 (Or.inl ne_a1_b6))
  have F59 := ((F44.ext E45).other W54 (Or.inl ne_a1_b6))
  have F60 := ((((((Fw21.ext E24).other W30 (Or.inr (slot_ne (Or.inl (ww 25 rfl)) (Or.inr (ww 27 rfl)) (by decide) (t := (.array .int)) (t' := (.array .int)) (by decide) (by decide)))).ext E33).other W40 (Or.inr (slot_ne (Or.inl (ww 25 rfl)) (Or.inr (ww 29 rfl)) (by decide) (t := (.array .int)) (t' := (.array .int)) (by decide) (by decide)))).ext E45).other W54 (Or.inl ne_a1_b6))
  have F61 := ((((Fw30.ext E33).other W40 (Or.inr (slot_ne (Or.inr (ww 27 rfl)) (Or.inr (ww 29 rfl)) (by decide) (t := (.array .int)) (t' := (.array .int)) (by decide) (by decide)))).ext E45).other W54 (Or.inl ne_a1_b6))
  have F62 := ((Fw40.ext E45).other W54 (Or.inl ne_a1_b6))
  have F63 := ((F48.ext E45).other W54 ne_b2_b6)
  have F64 := ((F50.ext E45).other W54 (Ne.symm ne_b6_b16))
  have F65 := ((F51.ext E45).other W54 (Ne.symm ne_b6_b24))
  have F66 := ((F52.ext E45).other W54 (Ne.symm ne_b6_b33))
  have F67 := (V_b45.other W54 (Ne.symm ne_b6_b45))
  obtain ⟨fs, hr, hrun, hended, hW, hsame⟩ := X54.leave (v := none) (fun _ => rfl)
  subst hR0
  refine ⟨_, _, ?_, hrun, hended, _, _, rfl, ?_, ⟨_, rfl⟩, hW, hsame.mono (by decide) (by decide)⟩
  · exact X54.returnOut hx hret (bb d2_58) hr
  · show Q_rvInit1 Z a1 h0 n0 _ T54.heap _
    rw [e54]
    exact ⟨b2, b6, b16, b24, b33, b45, k2, k6, k16, k24, k33, k45, rfl, N54, ((((((((((((((Keep.refl h0 [a1]).ext E2).wr W3 (Or.inl (List.mem_of_getElem? (i := 0) rfl))).ext E6).wr W10 (Or.inl (List.mem_of_getElem? (i := 0) rfl))).wr W13 (Or.inl (List.mem_of_getElem? (i := 0) rfl))).ext E16).wr W21 (Or.inl (List.mem_of_getElem? (i := 0) rfl))).ext E24).wr W30 (Or.inl (List.mem_of_getElem? (i := 0) rfl))).ext E33).wr W40 (Or.inl (List.mem_of_getElem? (i := 0) rfl))).ext E45).wr W54 (Or.inr sz_b6)), sz_b2, sz_b6, sz_b16, sz_b24, sz_b33, sz_b45, ne_b2_b6, ne_b2_b16, ne_b2_b24, ne_b2_b33, ne_b2_b45, ne_b6_b16, ne_b6_b24, ne_b6_b33, ne_b6_b45, ne_b16_b24, ne_b16_b33, ne_b16_b45, ne_b24_b33, ne_b24_b45, ne_b33_b45, F55, F56, F57, F58, F59, F60, F61, F62, F63, R2, V54, R6, F64, F65, F66, F67⟩
def Q_start1 (Z : State) (a1 at_ ow on ob ol oh ov : Addr) (kw_ kn_ kb_ kl_ kh_ kv_ : ClassId) (eb0 el0 eu0 ex0 ex1 ex2 ex3 ex4 ex5 ex6 ex7 : Int32) (kt_ : ClassId) (et0 : Int32) (h0 : Heap) (n0 : Nat) (v : Option Value) (h : Heap) (L : List Loc) : Prop := v = none ∧ Fr n0 L ∧ Keep h0 h [ob, ol, oh] ∧ Arv Z h ob kb_ .int (1 : Int32) [(.int (f_base et0 et0))] (.int 0) ∧ Arv Z h ol kl_ .int (1 : Int32) [(.int et0)] (.int 0) ∧ Arv Z h oh kh_ .int (1 : Int32) [(.int et0)] (.int 0)
set_option maxRecDepth 65536 in
set_option maxHeartbeats 40000000 in
theorem rm_start1 (l : Launch) (Z : State) (a0 : Array Value) (ww : WW a0 Z) (ws : List Jvm.Cond) (a1 at_ ow on ob ol oh ov : Addr) (kw_ kn_ kb_ kl_ kh_ kv_ : ClassId) (eb0 el0 eu0 ex0 ex1 ex2 ex3 ex4 ex5 ex6 ex7 : Int32) (kt_ : ClassId) (et0 : Int32) (h0 : Heap) (n0 : Nat) (Z0 : n0 ≤ h0.size) (O0 : Old Z n0 h0) (S_CS : Sta Z Z.heap cRV "CHUNK_SHIFT" "I" (.int (12 : Int32))) (r0 : Exa Z h0 a1 cRV) (r1 : Fld Z h0 a1 cRV "arity" "I" (.int 1)) (r2 : Fld Z h0 a1 cRV "rows" "I" (.int 0)) (r3 : Fld Z h0 a1 cRV "wide" "[[I" (.ref ow)) (r4 : Fld Z h0 a1 cRV "narrow" "[[C" (.ref on)) (r5 : Fld Z h0 a1 cRV "bases" "[I" (.ref ob)) (r6 : Fld Z h0 a1 cRV "lowest" "[I" (.ref ol)) (r7 : Fld Z h0 a1 cRV "highest" "[I" (.ref oh)) (r8 : Arv Z h0 ow kw_ (.array .int) (1 : Int32) [.null] .null) (r9 : OvrA Z kw_ .int "[I") (r10 : Arv Z h0 on kn_ (.array .char) (1 : Int32) [(.ref ov)] .null) (r11 : OvrA Z kn_ .char "[C") (r12 : Arv Z h0 ob kb_ .int (1 : Int32) [(.int eb0)] (.int 0)) (r13 : Arv Z h0 ol kl_ .int (1 : Int32) [(.int el0)] (.int 0)) (r14 : Arv Z h0 oh kh_ .int (1 : Int32) [(.int eu0)] (.int 0)) (r15 : Arv Z h0 ov kv_ .char (8 : Int32) [(.int ex0), (.int ex1), (.int ex2), (.int ex3), (.int ex4), (.int ex5), (.int ex6), (.int ex7)] (.int 0)) (r16 : Arv Z h0 at_ kt_ .int (1 : Int32) [(.int et0)] (.int 0)) (g_ob : n0 ≤ ob) (g_ol : n0 ≤ ol) (g_oh : n0 ≤ oh) (ne_a1_ow : a1 ≠ ow) (ne_a1_on : a1 ≠ on) (ne_a1_ob : a1 ≠ ob) (ne_a1_ol : a1 ≠ ol) (ne_a1_oh : a1 ≠ oh) (ne_a1_ov : a1 ≠ ov) (ne_ow_on : ow ≠ on) (ne_ow_ob : ow ≠ ob) (ne_ow_ol : ow ≠ ol) (ne_ow_oh : ow ≠ oh) (ne_ow_ov : ow ≠ ov) (ne_on_ob : on ≠ ob) (ne_on_ol : on ≠ ol) (ne_on_oh : on ≠ oh) (ne_on_ov : on ≠ ov) (ne_ob_ol : ob ≠ ol) (ne_ob_oh : ob ≠ oh) (ne_ob_ov : ob ≠ ov) (ne_ol_oh : ol ≠ oh) (ne_ol_ov : ol ≠ ov) (ne_oh_ov : oh ≠ ov) (ne_at__a1 : at_ ≠ a1) (ne_at__ow : at_ ≠ ow) (ne_at__on : at_ ≠ on) (ne_at__ob : at_ ≠ ob) (ne_at__ol : at_ ≠ ol) (ne_at__oh : at_ ≠ oh) (ne_at__ov : at_ ≠ ov) :
    MF l Z (⟨cRV, "start", "(I[I)V"⟩ : MethodName) prog_47_method_5_code 4 none ws ({ frames := 2, cells := 0, slots := 0, locals := 32 } : Room) #[(.ref a1), (.int 0), (.ref at_)] h0 (Q_start1 Z a1 at_ ow on ob ol oh ov kw_ kn_ kb_ kl_ kh_ kv_ eb0 el0 eu0 ex0 ex1 ex2 ex3 ex4 ex5 ex6 ex7 kt_ et0 h0 n0) := by
  refine gopen (plainFor_of_name pn_RowValues) (fun m => ef_start1 m a1 at_) (fun p e s m below meth c s₁ hlk hret hx bb hml hown hnm hZ X0 e0 R0 hR0 => ?_)
  have N0 := Fr.nil n0
  refine g_iloadN X0 hx (bb d6_0) rfl ?_
  refine g_aloadN X0 hx (bb d6_1) rfl rfl ?_
  refine gF X0 hx hZ hown (ww 16 rfl) e0 r3 (bb d6_2) (fun T1 X1 e1 => ?_)
  refine gA X1 hx hZ e1 r8 (bb d6_5) ?_
  refine g_icmpYes X1 hx (pc' := 62) (bb d6_6) (feq (by decide : ¬ ((0 : Int32) = (1 : Int32)))).2 (by decide) (by decide) ?_
  refine g_iloadN X1 hx (bb d6_62) rfl ?_
  refine g_ifYes X1 hx (pc' := 82) (bb d6_63) ((if0 _ _).trans (flt (by decide : ¬ ((0 : Int32) < (0 : Int32)))).2.2.2) (by decide) (by decide) ?_
  refine g_iconst X1 hx (bb d6_82) ?_
  refine g_istoreN X1 hx (bb d6_83) (l' := #[vR a1, vI 0, vR at_, vI 0]) rfl ?_
  refine g_iloadN X1 hx (bb d6_84) rfl ?_
  refine g_aloadN X1 hx (bb d6_85) rfl rfl ?_
  refine gF X1 hx hZ hown (ww 22 rfl) e1 r1 (bb d6_86) (fun T2 X2 e2 => ?_)
  refine g_icmpNo X2 hx (bb d6_89) (tlt (by decide : (0 : Int32) < (1 : Int32))).2.1 ?_
  refine g_aloadN X2 hx (bb d6_92) rfl rfl ?_
  refine gF X2 hx hZ hown (ww 24 rfl) e2 r5 (bb d6_93) (fun T3 X3 e3 => ?_)
  refine g_iloadN X3 hx (bb d6_96) rfl ?_
  refine g_aloadN X3 hx (bb d6_97) rfl rfl ?_
  refine gF X3 hx hZ hown (ww 22 rfl) e3 r1 (bb d6_98) (fun T4 X4 e4 => ?_)
  refine g_imul X4 hx (bb d6_101) ?_
  refine g_iloadN X4 hx (bb d6_102) rfl ?_
  refine g_iadd X4 hx (bb d6_103) ?_
  refine g_aloadN X4 hx (bb d6_104) rfl rfl ?_
  refine g_iloadN X4 hx (bb d6_105) rfl ?_
  refine gLi X4 hx hZ e4 r16 (v := (.int et0)) ⟨by decide, by decide⟩ rfl (bb d6_106) ?_
  refine g_aloadN X4 hx (bb d6_107) rfl rfl ?_
  refine g_iloadN X4 hx (bb d6_108) rfl ?_
  refine gLi X4 hx hZ e4 r16 (v := (.int et0)) ⟨by decide, by decide⟩ rfl (bb d6_109) ?_
  refine gcS X4 hx hZ hml hown (ww 50 rfl) (ww 7 rfl) (ww 52 rfl) (ww 51 rfl) e4 (rm_base l Z a0 ww [] et0 et0 h0 n0 (own_z0 O0) O0 S_CS) pd__II_I_5 (bb d6_110) 2 rfl (fun T5 L5 v5 X5 hQ5 => ?_)
  obtain ⟨rfl, N5q, e5⟩ := hQ5
  have N5 := Fr.app N0 N5q
  refine gSi X5 hx hZ e5 r12 ⟨by decide, by decide⟩ 0 rfl (Nat.le_of_ble_eq_true rfl) N5 g_ob (bb d6_113) (fun T6 h6 X6 e6 W6 V6 N6 => ?_)
  refine g_iinc X6 hx (bb d6_114) rfl (l' := #[vR a1, vI 0, vR at_, vI 1]) rfl ?_
  refine g_goto X6 hx (pc' := 84) (bb d6_117) (by decide) (by decide) ?_
  refine g_iloadN X6 hx (bb d6_84) rfl ?_
  refine g_aloadN X6 hx (bb d6_85) rfl rfl ?_
  have F8 := (r1.other W6 (Or.inl ne_a1_ob))
  refine gF X6 hx hZ hown (ww 22 rfl) e6 F8 (bb d6_86) (fun T7 X7 e7 => ?_)
  refine g_icmpYes X7 hx (pc' := 120) (bb d6_89) (flt (by decide : ¬ ((1 : Int32) < (1 : Int32)))).2.1 (by decide) (by decide) ?_
  refine g_aloadN X7 hx (bb d6_120) rfl rfl ?_
  refine g_iconst X7 hx (bb d6_121) ?_
  refine g_aloadN X7 hx (bb d6_122) rfl rfl ?_
  have F10 := (r6.other W6 (Or.inl ne_a1_ob))
  refine gF X7 hx hZ hown (ww 26 rfl) e7 F10 (bb d6_123) (fun T9 X9 e9 => ?_)
  refine g_iconst X9 hx (bb d6_126) ?_
  refine g_aloadN X9 hx (bb d6_127) rfl rfl ?_
  refine gF X9 hx hZ hown (ww 22 rfl) e9 F8 (bb d6_128) (fun T11 X11 e11 => ?_)
  have F13 := (r16.other W6 ne_at__ob)
  have F14 := (r13.other W6 (Ne.symm ne_ob_ol))
  obtain ⟨T12, h12, L12, X12, e12, N12, K12, Vc12, st12⟩ := cpA X11 hx hZ hown (ww 60 rfl) (ww 63 rfl) (ww 61 rfl) (ww 62 rfl) e11 F13 F14 (us := [(.int et0)]) (Or.inl ⟨rfl, rfl⟩) (by decide) (by decide) (by decide) (by decide) (by decide) rfl (Nat.le_of_ble_eq_true rfl) N6 g_ol (g := (mkF m 131 #[vR a1, vI 0, vR at_, vI 1] [(.int 1), (.int 0), (.ref ol), (.int 0), (.ref at_)])) rfl (by rw [hml]; rfl) rfl (bb d6_131) (by decide) (W := 0) (by show 2 * 0 + _ ≤ _; exact Nat.le_of_eq rfl) (by decide)
  refine gl st12 ?_
  have V12 : Arv Z h12 ol kl_ .int (1 : Int32) [(.int et0)] (.int 0) := Vc12
  refine g_aloadN X12 hx (bb d6_134) rfl rfl ?_
  refine g_iconst X12 hx (bb d6_135) ?_
  refine g_aloadN X12 hx (bb d6_136) rfl rfl ?_
  have F16 := ((r7.other W6 (Or.inl ne_a1_ob)).keep K12 (ninS ne_a1_ol nin0))
  refine gF X12 hx hZ hown (ww 28 rfl) e12 F16 (bb d6_137) (fun T15 X15 e15 => ?_)
  refine g_iconst X15 hx (bb d6_140) ?_
  refine g_aloadN X15 hx (bb d6_141) rfl rfl ?_
  have F18 := (F8.keep K12 (ninS ne_a1_ol nin0))
  refine gF X15 hx hZ hown (ww 22 rfl) e15 F18 (bb d6_142) (fun T17 X17 e17 => ?_)
  have F20 := (F13.keep K12 (ninS ne_at__ol nin0))
  have F21 := ((r14.other W6 (Ne.symm ne_ob_oh)).keep K12 (ninS (Ne.symm ne_ol_oh) nin0))
  obtain ⟨T19, h19, L19, X19, e19, N19, K19, Vc19, st19⟩ := cpA X17 hx hZ hown (ww 60 rfl) (ww 63 rfl) (ww 61 rfl) (ww 62 rfl) e17 F20 F21 (us := [(.int et0)]) (Or.inl ⟨rfl, rfl⟩) (by decide) (by decide) (by decide) (by decide) (by decide) rfl (Nat.le_of_ble_eq_true rfl) N12 g_oh (g := (mkF m 145 #[vR a1, vI 0, vR at_, vI 1] [(.int 1), (.int 0), (.ref oh), (.int 0), (.ref at_)])) rfl (by rw [hml]; rfl) rfl (bb d6_145) (by decide) (W := 0) (by show 2 * 0 + _ ≤ _; exact Nat.le_of_eq rfl) (by decide)
  refine gl st19 ?_
  have V19 : Arv Z h19 oh kh_ .int (1 : Int32) [(.int et0)] (.int 0) := Vc19
  have F22 := ((V6.keep K12 (ninS ne_ob_ol nin0)).keep K19 (ninS ne_ob_oh nin0))
  have F23 := (V12.keep K19 (ninS ne_ol_oh nin0))
  obtain ⟨fs, hr, hrun, hended, hW, hsame⟩ := X19.leave (v := none) (fun _ => rfl)
  subst hR0
  refine ⟨_, _, ?_, hrun, hended, _, _, rfl, ?_, ⟨_, rfl⟩, hW, hsame.mono (by decide) (by decide)⟩
  · exact X19.returnOut hx hret (bb d6_148) hr
  · show Q_start1 Z a1 at_ ow on ob ol oh ov kw_ kn_ kb_ kl_ kh_ kv_ eb0 el0 eu0 ex0 ex1 ex2 ex3 ex4 ex5 ex6 ex7 kt_ et0 h0 n0 _ T19.heap _
    rw [e19]
    exact ⟨rfl, N19, ((((Keep.refl h0 [ob, ol, oh]).wr W6 (Or.inl (List.mem_of_getElem? (i := 0) rfl))).trans K12 (allS (Or.inl (List.mem_of_getElem? (i := 1) rfl)) all0)).trans K19 (allS (Or.inl (List.mem_of_getElem? (i := 2) rfl)) all0)), F22, F23, V19⟩
set_option maxRecDepth 65536 in
set_option maxHeartbeats 40000000 in
theorem rm_room1N0 (l : Launch) (Z : State) (a0 : Array Value) (ww : WW a0 Z) (ws : List Jvm.Cond) (a1 ow on ob ol oh ov : Addr) (kw_ kn_ kb_ kl_ kh_ kv_ : ClassId) (eb0 el0 eu0 ex0 ex1 ex2 ex3 ex4 ex5 ex6 ex7 : Int32) (h0 : Heap) (n0 : Nat) (Z0 : n0 ≤ h0.size) (O0 : Old Z n0 h0) (S_CS : Sta Z Z.heap cRV "CHUNK_SHIFT" "I" (.int (12 : Int32))) (r0 : Exa Z h0 a1 cRV) (r1 : Fld Z h0 a1 cRV "arity" "I" (.int 1)) (r2 : Fld Z h0 a1 cRV "wide" "[[I" (.ref ow)) (r3 : Fld Z h0 a1 cRV "narrow" "[[C" (.ref on)) (r4 : Arv Z h0 ow kw_ (.array .int) (1 : Int32) [.null] .null) (r5 : Arv Z h0 on kn_ (.array .char) (1 : Int32) [(.ref ov)] .null) (r6 : Arv Z h0 ov kv_ .char (8 : Int32) [(.int ex0), (.int ex1), (.int ex2), (.int ex3), (.int ex4), (.int ex5), (.int ex6), (.int ex7)] (.int 0)) :
    MF l Z (⟨cRV, "makeRoom", "(II)V"⟩ : MethodName) prog_47_method_6_code 5 none ws ({ frames := 1, cells := 0, slots := 0, locals := 13 } : Room) #[(.ref a1), (.int 0), (.int 0)] h0 (PureQ (none) h0 n0) := by
  refine gopen (plainFor_of_name pn_RowValues) (fun m => ef_room1N0 m a1) (fun p e s m below meth c s₁ hlk hret hx bb hml hown hnm hZ X0 e0 R0 hR0 => ?_)
  have N0 := Fr.nil n0
  refine g_iloadN X0 hx (bb d9_0) rfl ?_
  refine g_iconst X0 hx (bb d9_1) ?_
  refine g_iadd X0 hx (bb d9_2) ?_
  refine g_aloadN X0 hx (bb d9_3) rfl rfl ?_
  refine gF X0 hx hZ hown (ww 22 rfl) e0 r1 (bb d9_4) (fun T1 X1 e1 => ?_)
  refine g_imul X1 hx (bb d9_7) ?_
  refine g_istoreN X1 hx (bb d9_8) (l' := #[vR a1, vI 0, vI 0, vI 1, .unset]) rfl ?_
  refine g_iconst X1 hx (bb d9_9) ?_
  refine g_iloadN X1 hx (bb d9_10) rfl ?_
  refine g_imul X1 hx (bb d9_11) ?_
  refine g_sipush X1 hx (bb d9_12) ?_
  refine gcS X1 hx hZ hml hown (ww 68 rfl) (ww 58 rfl) (ww 70 rfl) (ww 69 rfl) e1 (rm_minI l Z a0 ww [] (0 : Int32) (4096 : Int32) h0 n0 (own_z0 O0) O0 S_CS) pd__II_I_5 (bb d9_15) 0 rfl (fun T2 L2 v2 X2 hQ2 => ?_)
  obtain ⟨rfl, N2q, e2⟩ := hQ2
  have N2 := Fr.app N0 N2q
  refine g_aloadN X2 hx (bb d9_18) rfl rfl ?_
  refine gF X2 hx hZ hown (ww 22 rfl) e2 r1 (bb d9_19) (fun T3 X3 e3 => ?_)
  refine g_imul X3 hx (bb d9_22) ?_
  refine g_istore X3 hx (bb d9_23) (l' := #[vR a1, vI 0, vI 0, vI 1, vI ((f_minI (0 : Int32) (4096 : Int32)) * (1 : Int32))]) rfl ?_
  refine g_aloadN X3 hx (bb d9_25) rfl rfl ?_
  refine gF X3 hx hZ hown (ww 20 rfl) e3 r3 (bb d9_26) (fun T4 X4 e4 => ?_)
  refine g_iloadN X4 hx (bb d9_29) rfl ?_
  refine gLr rfl X4 hx hZ e4 r5 (v := (.ref ov)) ⟨by decide, by decide⟩ rfl (bb d9_30) ?_
  refine g_ifnullNo X4 hx (bb d9_31) ?_
  refine g_iloadN X4 hx (bb d9_34) rfl ?_
  refine g_aloadN X4 hx (bb d9_35) rfl rfl ?_
  refine gF X4 hx hZ hown (ww 20 rfl) e4 r3 (bb d9_36) (fun T5 X5 e5 => ?_)
  refine g_iloadN X5 hx (bb d9_39) rfl ?_
  refine gLr rfl X5 hx hZ e5 r5 (v := (.ref ov)) ⟨by decide, by decide⟩ rfl (bb d9_40) ?_
  refine gA X5 hx hZ e5 r6 (bb d9_41) ?_
  refine g_icmpYes X5 hx (pc' := 65) (bb d9_42) (flt (by decide : ¬ ((8 : Int32) < (1 : Int32)))).2.2.2 (by decide) (by decide) ?_
  refine g_aloadN X5 hx (bb d9_65) rfl rfl ?_
  refine gF X5 hx hZ hown (ww 16 rfl) e5 r2 (bb d9_66) (fun T6 X6 e6 => ?_)
  refine g_iloadN X6 hx (bb d9_69) rfl ?_
  refine gLr rfl X6 hx hZ e6 r4 (v := .null) ⟨by decide, by decide⟩ rfl (bb d9_70) ?_
  refine g_ifnullYes X6 hx (pc' := 102) (bb d9_71) (by decide) (by decide) ?_
  obtain ⟨fs, hr, hrun, hended, hW, hsame⟩ := X6.leave (v := none) (fun _ => rfl)
  subst hR0
  refine ⟨_, _, ?_, hrun, hended, _, _, rfl, ?_, ⟨_, rfl⟩, hW, hsame.mono (by decide) (by decide)⟩
  · exact X6.returnOut hx hret (bb d9_102) hr
  · exact ⟨rfl, N2, e6⟩
set_option maxRecDepth 65536 in
set_option maxHeartbeats 40000000 in
theorem rm_room1N1 (l : Launch) (Z : State) (a0 : Array Value) (ww : WW a0 Z) (ws : List Jvm.Cond) (a1 ow on ob ol oh ov : Addr) (kw_ kn_ kb_ kl_ kh_ kv_ : ClassId) (eb0 el0 eu0 ev0_0 ex1 ex2 ex3 ex4 ex5 ex6 ex7 : Int32) (h0 : Heap) (n0 : Nat) (Z0 : n0 ≤ h0.size) (O0 : Old Z n0 h0) (S_CS : Sta Z Z.heap cRV "CHUNK_SHIFT" "I" (.int (12 : Int32))) (r0 : Exa Z h0 a1 cRV) (r1 : Fld Z h0 a1 cRV "arity" "I" (.int 1)) (r2 : Fld Z h0 a1 cRV "wide" "[[I" (.ref ow)) (r3 : Fld Z h0 a1 cRV "narrow" "[[C" (.ref on)) (r4 : Arv Z h0 ow kw_ (.array .int) (1 : Int32) [.null] .null) (r5 : Arv Z h0 on kn_ (.array .char) (1 : Int32) [(.ref ov)] .null) (r6 : Arv Z h0 ov kv_ .char (8 : Int32) [(.int (nar .char (ev0_0 - eb0))), (.int ex1), (.int ex2), (.int ex3), (.int ex4), (.int ex5), (.int ex6), (.int ex7)] (.int 0)) :
    MF l Z (⟨cRV, "makeRoom", "(II)V"⟩ : MethodName) prog_47_method_6_code 5 none ws ({ frames := 1, cells := 0, slots := 0, locals := 13 } : Room) #[(.ref a1), (.int 0), (.int 1)] h0 (PureQ (none) h0 n0) := by
  refine gopen (plainFor_of_name pn_RowValues) (fun m => ef_room1N1 m a1) (fun p e s m below meth c s₁ hlk hret hx bb hml hown hnm hZ X0 e0 R0 hR0 => ?_)
  have N0 := Fr.nil n0
  refine g_iloadN X0 hx (bb d9_0) rfl ?_
  refine g_iconst X0 hx (bb d9_1) ?_
  refine g_iadd X0 hx (bb d9_2) ?_
  refine g_aloadN X0 hx (bb d9_3) rfl rfl ?_
  refine gF X0 hx hZ hown (ww 22 rfl) e0 r1 (bb d9_4) (fun T1 X1 e1 => ?_)
  refine g_imul X1 hx (bb d9_7) ?_
  refine g_istoreN X1 hx (bb d9_8) (l' := #[vR a1, vI 0, vI 1, vI 2, .unset]) rfl ?_
  refine g_iconst X1 hx (bb d9_9) ?_
  refine g_iloadN X1 hx (bb d9_10) rfl ?_
  refine g_imul X1 hx (bb d9_11) ?_
  refine g_sipush X1 hx (bb d9_12) ?_
  refine gcS X1 hx hZ hml hown (ww 68 rfl) (ww 58 rfl) (ww 70 rfl) (ww 69 rfl) e1 (rm_minI l Z a0 ww [] (2 : Int32) (4096 : Int32) h0 n0 (own_z0 O0) O0 S_CS) pd__II_I_5 (bb d9_15) 0 rfl (fun T2 L2 v2 X2 hQ2 => ?_)
  obtain ⟨rfl, N2q, e2⟩ := hQ2
  have N2 := Fr.app N0 N2q
  refine g_aloadN X2 hx (bb d9_18) rfl rfl ?_
  refine gF X2 hx hZ hown (ww 22 rfl) e2 r1 (bb d9_19) (fun T3 X3 e3 => ?_)
  refine g_imul X3 hx (bb d9_22) ?_
  refine g_istore X3 hx (bb d9_23) (l' := #[vR a1, vI 0, vI 1, vI 2, vI ((f_minI (2 : Int32) (4096 : Int32)) * (1 : Int32))]) rfl ?_
  refine g_aloadN X3 hx (bb d9_25) rfl rfl ?_
  refine gF X3 hx hZ hown (ww 20 rfl) e3 r3 (bb d9_26) (fun T4 X4 e4 => ?_)
  refine g_iloadN X4 hx (bb d9_29) rfl ?_
  refine gLr rfl X4 hx hZ e4 r5 (v := (.ref ov)) ⟨by decide, by decide⟩ rfl (bb d9_30) ?_
  refine g_ifnullNo X4 hx (bb d9_31) ?_
  refine g_iloadN X4 hx (bb d9_34) rfl ?_
  refine g_aloadN X4 hx (bb d9_35) rfl rfl ?_
  refine gF X4 hx hZ hown (ww 20 rfl) e4 r3 (bb d9_36) (fun T5 X5 e5 => ?_)
  refine g_iloadN X5 hx (bb d9_39) rfl ?_
  refine gLr rfl X5 hx hZ e5 r5 (v := (.ref ov)) ⟨by decide, by decide⟩ rfl (bb d9_40) ?_
  refine gA X5 hx hZ e5 r6 (bb d9_41) ?_
  refine g_icmpYes X5 hx (pc' := 65) (bb d9_42) (flt (by decide : ¬ ((8 : Int32) < (2 : Int32)))).2.2.2 (by decide) (by decide) ?_
  refine g_aloadN X5 hx (bb d9_65) rfl rfl ?_
  refine gF X5 hx hZ hown (ww 16 rfl) e5 r2 (bb d9_66) (fun T6 X6 e6 => ?_)
  refine g_iloadN X6 hx (bb d9_69) rfl ?_
  refine gLr rfl X6 hx hZ e6 r4 (v := .null) ⟨by decide, by decide⟩ rfl (bb d9_70) ?_
  refine g_ifnullYes X6 hx (pc' := 102) (bb d9_71) (by decide) (by decide) ?_
  obtain ⟨fs, hr, hrun, hended, hW, hsame⟩ := X6.leave (v := none) (fun _ => rfl)
  subst hR0
  refine ⟨_, _, ?_, hrun, hended, _, _, rfl, ?_, ⟨_, rfl⟩, hW, hsame.mono (by decide) (by decide)⟩
  · exact X6.returnOut hx hret (bb d9_102) hr
  · exact ⟨rfl, N2, e6⟩
set_option maxRecDepth 65536 in
set_option maxHeartbeats 40000000 in
theorem rm_room1N2 (l : Launch) (Z : State) (a0 : Array Value) (ww : WW a0 Z) (ws : List Jvm.Cond) (a1 ow on ob ol oh ov : Addr) (kw_ kn_ kb_ kl_ kh_ kv_ : ClassId) (eb0 el0 eu0 ev0_0 ev1_0 ex2 ex3 ex4 ex5 ex6 ex7 : Int32) (h0 : Heap) (n0 : Nat) (Z0 : n0 ≤ h0.size) (O0 : Old Z n0 h0) (S_CS : Sta Z Z.heap cRV "CHUNK_SHIFT" "I" (.int (12 : Int32))) (r0 : Exa Z h0 a1 cRV) (r1 : Fld Z h0 a1 cRV "arity" "I" (.int 1)) (r2 : Fld Z h0 a1 cRV "wide" "[[I" (.ref ow)) (r3 : Fld Z h0 a1 cRV "narrow" "[[C" (.ref on)) (r4 : Arv Z h0 ow kw_ (.array .int) (1 : Int32) [.null] .null) (r5 : Arv Z h0 on kn_ (.array .char) (1 : Int32) [(.ref ov)] .null) (r6 : Arv Z h0 ov kv_ .char (8 : Int32) [(.int (nar .char (ev0_0 - eb0))), (.int (nar .char (ev1_0 - eb0))), (.int ex2), (.int ex3), (.int ex4), (.int ex5), (.int ex6), (.int ex7)] (.int 0)) :
    MF l Z (⟨cRV, "makeRoom", "(II)V"⟩ : MethodName) prog_47_method_6_code 5 none ws ({ frames := 1, cells := 0, slots := 0, locals := 13 } : Room) #[(.ref a1), (.int 0), (.int 2)] h0 (PureQ (none) h0 n0) := by
  refine gopen (plainFor_of_name pn_RowValues) (fun m => ef_room1N2 m a1) (fun p e s m below meth c s₁ hlk hret hx bb hml hown hnm hZ X0 e0 R0 hR0 => ?_)
  have N0 := Fr.nil n0
  refine g_iloadN X0 hx (bb d9_0) rfl ?_
  refine g_iconst X0 hx (bb d9_1) ?_
  refine g_iadd X0 hx (bb d9_2) ?_
  refine g_aloadN X0 hx (bb d9_3) rfl rfl ?_
  refine gF X0 hx hZ hown (ww 22 rfl) e0 r1 (bb d9_4) (fun T1 X1 e1 => ?_)
  refine g_imul X1 hx (bb d9_7) ?_
  refine g_istoreN X1 hx (bb d9_8) (l' := #[vR a1, vI 0, vI 2, vI 3, .unset]) rfl ?_
  refine g_iconst X1 hx (bb d9_9) ?_
  refine g_iloadN X1 hx (bb d9_10) rfl ?_
  refine g_imul X1 hx (bb d9_11) ?_
  refine g_sipush X1 hx (bb d9_12) ?_
  refine gcS X1 hx hZ hml hown (ww 68 rfl) (ww 58 rfl) (ww 70 rfl) (ww 69 rfl) e1 (rm_minI l Z a0 ww [] (4 : Int32) (4096 : Int32) h0 n0 (own_z0 O0) O0 S_CS) pd__II_I_5 (bb d9_15) 0 rfl (fun T2 L2 v2 X2 hQ2 => ?_)
  obtain ⟨rfl, N2q, e2⟩ := hQ2
  have N2 := Fr.app N0 N2q
  refine g_aloadN X2 hx (bb d9_18) rfl rfl ?_
  refine gF X2 hx hZ hown (ww 22 rfl) e2 r1 (bb d9_19) (fun T3 X3 e3 => ?_)
  refine g_imul X3 hx (bb d9_22) ?_
  refine g_istore X3 hx (bb d9_23) (l' := #[vR a1, vI 0, vI 2, vI 3, vI ((f_minI (4 : Int32) (4096 : Int32)) * (1 : Int32))]) rfl ?_
  refine g_aloadN X3 hx (bb d9_25) rfl rfl ?_
  refine gF X3 hx hZ hown (ww 20 rfl) e3 r3 (bb d9_26) (fun T4 X4 e4 => ?_)
  refine g_iloadN X4 hx (bb d9_29) rfl ?_
  refine gLr rfl X4 hx hZ e4 r5 (v := (.ref ov)) ⟨by decide, by decide⟩ rfl (bb d9_30) ?_
  refine g_ifnullNo X4 hx (bb d9_31) ?_
  refine g_iloadN X4 hx (bb d9_34) rfl ?_
  refine g_aloadN X4 hx (bb d9_35) rfl rfl ?_
  refine gF X4 hx hZ hown (ww 20 rfl) e4 r3 (bb d9_36) (fun T5 X5 e5 => ?_)
  refine g_iloadN X5 hx (bb d9_39) rfl ?_
  refine gLr rfl X5 hx hZ e5 r5 (v := (.ref ov)) ⟨by decide, by decide⟩ rfl (bb d9_40) ?_
  refine gA X5 hx hZ e5 r6 (bb d9_41) ?_
  refine g_icmpYes X5 hx (pc' := 65) (bb d9_42) (flt (by decide : ¬ ((8 : Int32) < (3 : Int32)))).2.2.2 (by decide) (by decide) ?_
  refine g_aloadN X5 hx (bb d9_65) rfl rfl ?_
  refine gF X5 hx hZ hown (ww 16 rfl) e5 r2 (bb d9_66) (fun T6 X6 e6 => ?_)
  refine g_iloadN X6 hx (bb d9_69) rfl ?_
  refine gLr rfl X6 hx hZ e6 r4 (v := .null) ⟨by decide, by decide⟩ rfl (bb d9_70) ?_
  refine g_ifnullYes X6 hx (pc' := 102) (bb d9_71) (by decide) (by decide) ?_
  obtain ⟨fs, hr, hrun, hended, hW, hsame⟩ := X6.leave (v := none) (fun _ => rfl)
  subst hR0
  refine ⟨_, _, ?_, hrun, hended, _, _, rfl, ?_, ⟨_, rfl⟩, hW, hsame.mono (by decide) (by decide)⟩
  · exact X6.returnOut hx hret (bb d9_102) hr
  · exact ⟨rfl, N2, e6⟩
set_option maxRecDepth 65536 in
set_option maxHeartbeats 40000000 in
theorem rm_room1W2 (l : Launch) (Z : State) (a0 : Array Value) (ww : WW a0 Z) (ws : List Jvm.Cond) (a1 ow on ob ol oh oz : Addr) (kw_ kn_ kb_ kl_ kh_ kz_ : ClassId) (eb0 el0 eu0 ev0_0 ev1_0 ex2 ex3 ex4 ex5 ex6 ex7 : Int32) (h0 : Heap) (n0 : Nat) (Z0 : n0 ≤ h0.size) (O0 : Old Z n0 h0) (S_CS : Sta Z Z.heap cRV "CHUNK_SHIFT" "I" (.int (12 : Int32))) (r0 : Exa Z h0 a1 cRV) (r1 : Fld Z h0 a1 cRV "arity" "I" (.int 1)) (r2 : Fld Z h0 a1 cRV "wide" "[[I" (.ref ow)) (r3 : Fld Z h0 a1 cRV "narrow" "[[C" (.ref on)) (r4 : Arv Z h0 ow kw_ (.array .int) (1 : Int32) [(.ref oz)] .null) (r5 : Arv Z h0 on kn_ (.array .char) (1 : Int32) [.null] .null) (r6 : Arv Z h0 oz kz_ .int (8 : Int32) [(.int ev0_0), (.int ev1_0), (.int ex2), (.int ex3), (.int ex4), (.int ex5), (.int ex6), (.int ex7)] (.int 0)) :
    MF l Z (⟨cRV, "makeRoom", "(II)V"⟩ : MethodName) prog_47_method_6_code 5 none ws ({ frames := 1, cells := 0, slots := 0, locals := 13 } : Room) #[(.ref a1), (.int 0), (.int 2)] h0 (PureQ (none) h0 n0) := by
  refine gopen (plainFor_of_name pn_RowValues) (fun m => ef_room1W2 m a1) (fun p e s m below meth c s₁ hlk hret hx bb hml hown hnm hZ X0 e0 R0 hR0 => ?_)
  have N0 := Fr.nil n0
  refine g_iloadN X0 hx (bb d9_0) rfl ?_
  refine g_iconst X0 hx (bb d9_1) ?_
  refine g_iadd X0 hx (bb d9_2) ?_
  refine g_aloadN X0 hx (bb d9_3) rfl rfl ?_
  refine gF X0 hx hZ hown (ww 22 rfl) e0 r1 (bb d9_4) (fun T1 X1 e1 => ?_)
  refine g_imul X1 hx (bb d9_7) ?_
  refine g_istoreN X1 hx (bb d9_8) (l' := #[vR a1, vI 0, vI 2, vI 3, .unset]) rfl ?_
  refine g_iconst X1 hx (bb d9_9) ?_
  refine g_iloadN X1 hx (bb d9_10) rfl ?_
  refine g_imul X1 hx (bb d9_11) ?_
  refine g_sipush X1 hx (bb d9_12) ?_
  refine gcS X1 hx hZ hml hown (ww 68 rfl) (ww 58 rfl) (ww 70 rfl) (ww 69 rfl) e1 (rm_minI l Z a0 ww [] (4 : Int32) (4096 : Int32) h0 n0 (own_z0 O0) O0 S_CS) pd__II_I_5 (bb d9_15) 0 rfl (fun T2 L2 v2 X2 hQ2 => ?_)
  obtain ⟨rfl, N2q, e2⟩ := hQ2
  have N2 := Fr.app N0 N2q
  refine g_aloadN X2 hx (bb d9_18) rfl rfl ?_
  refine gF X2 hx hZ hown (ww 22 rfl) e2 r1 (bb d9_19) (fun T3 X3 e3 => ?_)
  refine g_imul X3 hx (bb d9_22) ?_
  refine g_istore X3 hx (bb d9_23) (l' := #[vR a1, vI 0, vI 2, vI 3, vI ((f_minI (4 : Int32) (4096 : Int32)) * (1 : Int32))]) rfl ?_
  refine g_aloadN X3 hx (bb d9_25) rfl rfl ?_
  refine gF X3 hx hZ hown (ww 20 rfl) e3 r3 (bb d9_26) (fun T4 X4 e4 => ?_)
  refine g_iloadN X4 hx (bb d9_29) rfl ?_
  refine gLr rfl X4 hx hZ e4 r5 (v := .null) ⟨by decide, by decide⟩ rfl (bb d9_30) ?_
  refine g_ifnullYes X4 hx (pc' := 65) (bb d9_31) (by decide) (by decide) ?_
  refine g_aloadN X4 hx (bb d9_65) rfl rfl ?_
  refine gF X4 hx hZ hown (ww 16 rfl) e4 r2 (bb d9_66) (fun T5 X5 e5 => ?_)
  refine g_iloadN X5 hx (bb d9_69) rfl ?_
  refine gLr rfl X5 hx hZ e5 r4 (v := (.ref oz)) ⟨by decide, by decide⟩ rfl (bb d9_70) ?_
  refine g_ifnullNo X5 hx (bb d9_71) ?_
  refine g_iloadN X5 hx (bb d9_74) rfl ?_
  refine g_aloadN X5 hx (bb d9_75) rfl rfl ?_
  refine gF X5 hx hZ hown (ww 16 rfl) e5 r2 (bb d9_76) (fun T6 X6 e6 => ?_)
  refine g_iloadN X6 hx (bb d9_79) rfl ?_
  refine gLr rfl X6 hx hZ e6 r4 (v := (.ref oz)) ⟨by decide, by decide⟩ rfl (bb d9_80) ?_
  refine gA X6 hx hZ e6 r6 (bb d9_81) ?_
  refine g_icmpYes X6 hx (pc' := 102) (bb d9_82) (flt (by decide : ¬ ((8 : Int32) < (3 : Int32)))).2.2.2 (by decide) (by decide) ?_
  obtain ⟨fs, hr, hrun, hended, hW, hsame⟩ := X6.leave (v := none) (fun _ => rfl)
  subst hR0
  refine ⟨_, _, ?_, hrun, hended, _, _, rfl, ?_, ⟨_, rfl⟩, hW, hsame.mono (by decide) (by decide)⟩
  · exact X6.returnOut hx hret (bb d9_102) hr
  · exact ⟨rfl, N2, e6⟩
def Q_fit1_0 (Z : State) (a1 at_ ow on ob ol oh ov : Addr) (kw_ kn_ kb_ kl_ kh_ kv_ : ClassId) (eb0 el0 eu0 ex0 ex1 ex2 ex3 ex4 ex5 ex6 ex7 : Int32) (kt_ : ClassId) (et0 : Int32) (h0 : Heap) (n0 : Nat) (v : Option Value) (h : Heap) (L : List Loc) : Prop := v = none ∧ Fr n0 L ∧ Keep h0 h [ol, oh] ∧ Arv Z h ol kl_ .int (1 : Int32) [(.int et0)] (.int 0) ∧ Arv Z h oh kh_ .int (1 : Int32) [(.int et0)] (.int 0)
set_option maxRecDepth 65536 in
set_option maxHeartbeats 40000000 in
theorem rm_fit1_0 (l : Launch) (Z : State) (a0 : Array Value) (ww : WW a0 Z) (ws : List Jvm.Cond) (a1 at_ ow on ob ol oh ov : Addr) (kw_ kn_ kb_ kl_ kh_ kv_ : ClassId) (eb0 el0 eu0 ex0 ex1 ex2 ex3 ex4 ex5 ex6 ex7 : Int32) (kt_ : ClassId) (et0 : Int32) (h0 : Heap) (n0 : Nat) (Z0 : n0 ≤ h0.size) (O0 : Old Z n0 h0) (S_CS : Sta Z Z.heap cRV "CHUNK_SHIFT" "I" (.int (12 : Int32))) (r0 : Exa Z h0 a1 cRV) (r1 : Fld Z h0 a1 cRV "arity" "I" (.int 1)) (r2 : Fld Z h0 a1 cRV "rows" "I" (.int 0)) (r3 : Fld Z h0 a1 cRV "wide" "[[I" (.ref ow)) (r4 : Fld Z h0 a1 cRV "narrow" "[[C" (.ref on)) (r5 : Fld Z h0 a1 cRV "bases" "[I" (.ref ob)) (r6 : Fld Z h0 a1 cRV "lowest" "[I" (.ref ol)) (r7 : Fld Z h0 a1 cRV "highest" "[I" (.ref oh)) (r8 : Arv Z h0 ow kw_ (.array .int) (1 : Int32) [.null] .null) (r9 : OvrA Z kw_ .int "[I") (r10 : Arv Z h0 on kn_ (.array .char) (1 : Int32) [(.ref ov)] .null) (r11 : OvrA Z kn_ .char "[C") (r12 : Arv Z h0 ob kb_ .int (1 : Int32) [(.int (f_base et0 et0))] (.int 0)) (r13 : Arv Z h0 ol kl_ .int (1 : Int32) [(.int et0)] (.int 0)) (r14 : Arv Z h0 oh kh_ .int (1 : Int32) [(.int et0)] (.int 0)) (r15 : Arv Z h0 ov kv_ .char (8 : Int32) [(.int ex0), (.int ex1), (.int ex2), (.int ex3), (.int ex4), (.int ex5), (.int ex6), (.int ex7)] (.int 0)) (r16 : Arv Z h0 at_ kt_ .int (1 : Int32) [(.int et0)] (.int 0)) (g_ol : n0 ≤ ol) (g_oh : n0 ≤ oh) (ne_a1_ow : a1 ≠ ow) (ne_a1_on : a1 ≠ on) (ne_a1_ob : a1 ≠ ob) (ne_a1_ol : a1 ≠ ol) (ne_a1_oh : a1 ≠ oh) (ne_a1_ov : a1 ≠ ov) (ne_ow_on : ow ≠ on) (ne_ow_ob : ow ≠ ob) (ne_ow_ol : ow ≠ ol) (ne_ow_oh : ow ≠ oh) (ne_ow_ov : ow ≠ ov) (ne_on_ob : on ≠ ob) (ne_on_ol : on ≠ ol) (ne_on_oh : on ≠ oh) (ne_on_ov : on ≠ ov) (ne_ob_ol : ob ≠ ol) (ne_ob_oh : ob ≠ oh) (ne_ob_ov : ob ≠ ov) (ne_ol_oh : ol ≠ oh) (ne_ol_ov : ol ≠ ov) (ne_oh_ov : oh ≠ ov) (ne_at__a1 : at_ ≠ a1) (ne_at__ow : at_ ≠ ow) (ne_at__on : at_ ≠ on) (ne_at__ob : at_ ≠ ob) (ne_at__ol : at_ ≠ ol) (ne_at__oh : at_ ≠ oh) (ne_at__ov : at_ ≠ ov) :
    MF l Z (⟨cRV, "fit", "(II[I)V"⟩ : MethodName) prog_47_method_7_code 11 none ws ({ frames := 1, cells := 0, slots := 0, locals := 15 } : Room) #[(.ref a1), (.int 0), (.int 0), (.ref at_)] h0 (Q_fit1_0 Z a1 at_ ow on ob ol oh ov kw_ kn_ kb_ kl_ kh_ kv_ eb0 el0 eu0 ex0 ex1 ex2 ex3 ex4 ex5 ex6 ex7 kt_ et0 h0 n0) := by
  refine gopen (plainFor_of_name pn_RowValues) (fun m => ef_fit1_0 m a1 at_) (fun p e s m below meth c s₁ hlk hret hx bb hml hown hnm hZ X0 e0 R0 hR0 => ?_)
  have N0 := Fr.nil n0
  refine g_iconst X0 hx (bb d11_0) ?_
  refine g_istore X0 hx (bb d11_1) (l' := #[vR a1, vI 0, vI 0, vR at_, vI 0, .unset, .unset, .unset, .unset, .unset, .unset]) rfl ?_
  refine g_iload X0 hx (bb d11_3) rfl ?_
  refine g_aloadN X0 hx (bb d11_5) rfl rfl ?_
  refine gF X0 hx hZ hown (ww 22 rfl) e0 r1 (bb d11_6) (fun T1 X1 e1 => ?_)
  refine g_icmpNo X1 hx (bb d11_9) (tlt (by decide : (0 : Int32) < (1 : Int32))).2.1 ?_
  refine g_aloadN X1 hx (bb d11_12) rfl rfl ?_
  refine g_iload X1 hx (bb d11_13) rfl ?_
  refine gLi X1 hx hZ e1 r16 (v := (.int et0)) ⟨by decide, by decide⟩ rfl (bb d11_15) ?_
  refine g_aloadN X1 hx (bb d11_16) rfl rfl ?_
  refine gF X1 hx hZ hown (ww 28 rfl) e1 r7 (bb d11_17) (fun T2 X2 e2 => ?_)
  refine g_iload X2 hx (bb d11_20) rfl ?_
  refine gLi X2 hx hZ e2 r14 (v := (.int et0)) ⟨by decide, by decide⟩ rfl (bb d11_22) ?_
  refine gcS X2 hx hZ hml hown (ww 75 rfl) (ww 58 rfl) (ww 77 rfl) (ww 76 rfl) e2 (rm_maxI l Z a0 ww [] et0 et0 h0 n0 (own_z0 O0) O0 S_CS) pd__II_I_5 (bb d11_23) 0 rfl (fun T3 L3 v3 X3 hQ3 => ?_)
  obtain ⟨rfl, N3q, e3⟩ := hQ3
  have N3 := Fr.app N0 N3q
  refine g_i2l X3 hx (bb d11_26) ?_
  refine g_aloadN X3 hx (bb d11_27) rfl rfl ?_
  refine g_iload X3 hx (bb d11_28) rfl ?_
  refine gLi X3 hx hZ e3 r16 (v := (.int et0)) ⟨by decide, by decide⟩ rfl (bb d11_30) ?_
  refine g_aloadN X3 hx (bb d11_31) rfl rfl ?_
  refine gF X3 hx hZ hown (ww 26 rfl) e3 r6 (bb d11_32) (fun T4 X4 e4 => ?_)
  refine g_iload X4 hx (bb d11_35) rfl ?_
  refine gLi X4 hx hZ e4 r13 (v := (.int et0)) ⟨by decide, by decide⟩ rfl (bb d11_37) ?_
  refine gcS X4 hx hZ hml hown (ww 68 rfl) (ww 58 rfl) (ww 70 rfl) (ww 69 rfl) e4 (rm_minI l Z a0 ww [] et0 et0 h0 n0 (own_z0 O0) O0 S_CS) pd__II_I_5 (bb d11_38) 2 rfl (fun T5 L5 v5 X5 hQ5 => ?_)
  obtain ⟨rfl, N5q, e5⟩ := hQ5
  have N5 := Fr.app N3 N5q
  refine g_i2l X5 hx (bb d11_41) ?_
  refine g_lsub X5 hx (bb d11_42) ?_
  refine g_lstore X5 hx (bb d11_43) (l' := #[vR a1, vI 0, vI 0, vR at_, vI 0, vJ (((f_maxI et0 et0).toInt64) - ((f_minI et0 et0).toInt64)), .second, .unset, .unset, .unset, .unset]) rfl ?_
  refine g_lload X5 hx (bb d11_45) rfl ?_
  refine gJ X5 hx hZ hown (ww 78 rfl) (bb d11_47) ?_
  refine g_lcmp X5 hx (bb d11_50) ?_
  refine g_ifYes X5 hx (pc' := 61) (bb d11_51) ((if0 _ _).trans (tlt (own_s0 et0)).1) (by decide) (by decide) ?_
  refine g_iinc X5 hx (bb d11_61) rfl (l' := #[vR a1, vI 0, vI 0, vR at_, vI 1, vJ (((f_maxI et0 et0).toInt64) - ((f_minI et0 et0).toInt64)), .second, .unset, .unset, .unset, .unset]) rfl ?_
  refine g_goto X5 hx (pc' := 3) (bb d11_64) (by decide) (by decide) ?_
  refine g_iload X5 hx (bb d11_3) rfl ?_
  refine g_aloadN X5 hx (bb d11_5) rfl rfl ?_
  refine gF X5 hx hZ hown (ww 22 rfl) e5 r1 (bb d11_6) (fun T6 X6 e6 => ?_)
  refine g_icmpYes X6 hx (pc' := 67) (bb d11_9) (flt (by decide : ¬ ((1 : Int32) < (1 : Int32)))).2.1 (by decide) (by decide) ?_
  refine g_iconst X6 hx (bb d11_67) ?_
  refine g_istore X6 hx (bb d11_68) (l' := #[vR a1, vI 0, vI 0, vR at_, vI 0, vJ (((f_maxI et0 et0).toInt64) - ((f_minI et0 et0).toInt64)), .second, .unset, .unset, .unset, .unset]) rfl ?_
  refine g_iload X6 hx (bb d11_70) rfl ?_
  refine g_aloadN X6 hx (bb d11_72) rfl rfl ?_
  refine gF X6 hx hZ hown (ww 22 rfl) e6 r1 (bb d11_73) (fun T7 X7 e7 => ?_)
  refine g_icmpNo X7 hx (bb d11_76) (tlt (by decide : (0 : Int32) < (1 : Int32))).2.1 ?_
  refine g_aloadN X7 hx (bb d11_79) rfl rfl ?_
  refine gF X7 hx hZ hown (ww 26 rfl) e7 r6 (bb d11_80) (fun T8 X8 e8 => ?_)
  refine g_iload X8 hx (bb d11_83) rfl ?_
  refine g_aloadN X8 hx (bb d11_85) rfl rfl ?_
  refine g_iload X8 hx (bb d11_86) rfl ?_
  refine gLi X8 hx hZ e8 r16 (v := (.int et0)) ⟨by decide, by decide⟩ rfl (bb d11_88) ?_
  refine g_aloadN X8 hx (bb d11_89) rfl rfl ?_
  refine gF X8 hx hZ hown (ww 26 rfl) e8 r6 (bb d11_90) (fun T9 X9 e9 => ?_)
  refine g_iload X9 hx (bb d11_93) rfl ?_
  refine gLi X9 hx hZ e9 r13 (v := (.int et0)) ⟨by decide, by decide⟩ rfl (bb d11_95) ?_
  refine gcS X9 hx hZ hml hown (ww 68 rfl) (ww 58 rfl) (ww 70 rfl) (ww 69 rfl) e9 (rm_minI l Z a0 ww [] et0 et0 h0 n0 (own_z0 O0) O0 S_CS) pd__II_I_5 (bb d11_96) 2 rfl (fun T10 L10 v10 X10 hQ10 => ?_)
  obtain ⟨rfl, N10q, e10⟩ := hQ10
  have N10 := Fr.app N5 N10q
  refine gSi X10 hx hZ e10 r13 ⟨by decide, by decide⟩ 0 rfl (Nat.le_of_ble_eq_true rfl) N10 g_ol (bb d11_99) (fun T11 h11 X11 e11 W11 V11 N11 => ?_)
  refine g_aloadN X11 hx (bb d11_100) rfl rfl ?_
  have F13 := (r7.other W11 (Or.inl ne_a1_ol))
  refine gF X11 hx hZ hown (ww 28 rfl) e11 F13 (bb d11_101) (fun T12 X12 e12 => ?_)
  refine g_iload X12 hx (bb d11_104) rfl ?_
  refine g_aloadN X12 hx (bb d11_106) rfl rfl ?_
  refine g_iload X12 hx (bb d11_107) rfl ?_
  have F14 := (r16.other W11 ne_at__ol)
  refine gLi X12 hx hZ e12 F14 (v := (.int et0)) ⟨by decide, by decide⟩ rfl (bb d11_109) ?_
  refine g_aloadN X12 hx (bb d11_110) rfl rfl ?_
  refine gF X12 hx hZ hown (ww 28 rfl) e12 F13 (bb d11_111) (fun T15 X15 e15 => ?_)
  refine g_iload X15 hx (bb d11_114) rfl ?_
  have F16 := (r14.other W11 (Ne.symm ne_ol_oh))
  refine gLi X15 hx hZ e15 F16 (v := (.int et0)) ⟨by decide, by decide⟩ rfl (bb d11_116) ?_
  have O18 := (O0.wr W11 g_ol)
  refine gcS X15 hx hZ hml hown (ww 75 rfl) (ww 58 rfl) (ww 77 rfl) (ww 76 rfl) e15 (rm_maxI l Z a0 ww [] et0 et0 h11 n0 (own_z0 O18) O18 S_CS) pd__II_I_5 (bb d11_117) 2 rfl (fun T17 L17 v17 X17 hQ17 => ?_)
  obtain ⟨rfl, N17q, e17⟩ := hQ17
  have N17 := Fr.app N11 N17q
  refine gSi X17 hx hZ e17 F16 ⟨by decide, by decide⟩ 0 rfl (Nat.le_of_ble_eq_true rfl) N17 g_oh (bb d11_120) (fun T19 h19 X19 e19 W19 V19 N19 => ?_)
  refine g_aloadN X19 hx (bb d11_121) rfl rfl ?_
  have F21 := ((r5.other W11 (Or.inl ne_a1_ol)).other W19 (Or.inl ne_a1_oh))
  refine gF X19 hx hZ hown (ww 24 rfl) e19 F21 (bb d11_122) (fun T20 X20 e20 => ?_)
  refine g_iloadN X20 hx (bb d11_125) rfl ?_
  refine g_aloadN X20 hx (bb d11_126) rfl rfl ?_
  have F23 := ((r1.other W11 (Or.inl ne_a1_ol)).other W19 (Or.inl ne_a1_oh))
  refine gF X20 hx hZ hown (ww 22 rfl) e20 F23 (bb d11_127) (fun T22 X22 e22 => ?_)
  refine g_imul X22 hx (bb d11_130) ?_
  refine g_iload X22 hx (bb d11_131) rfl ?_
  refine g_iadd X22 hx (bb d11_133) ?_
  have F24 := ((r12.other W11 ne_ob_ol).other W19 ne_ob_oh)
  refine gLi X22 hx hZ e22 F24 (v := (.int (f_base et0 et0))) ⟨by decide, by decide⟩ rfl (bb d11_134) ?_
  refine g_istore X22 hx (bb d11_135) (l' := #[vR a1, vI 0, vI 0, vR at_, vI 0, vI (f_base et0 et0), .unset, .unset, .unset, .unset, .unset]) rfl ?_
  refine g_aloadN X22 hx (bb d11_137) rfl rfl ?_
  refine g_iload X22 hx (bb d11_138) rfl ?_
  have F25 := (F14.other W19 ne_at__oh)
  refine gLi X22 hx hZ e22 F25 (v := (.int et0)) ⟨by decide, by decide⟩ rfl (bb d11_140) ?_
  refine g_i2l X22 hx (bb d11_141) ?_
  refine g_iload X22 hx (bb d11_142) rfl ?_
  refine g_i2l X22 hx (bb d11_144) ?_
  refine g_lsub X22 hx (bb d11_145) ?_
  refine g_lstore X22 hx (bb d11_146) (l' := #[vR a1, vI 0, vI 0, vR at_, vI 0, vI (f_base et0 et0), vJ ((et0.toInt64) - ((f_base et0 et0).toInt64)), .second, .unset, .unset, .unset]) rfl ?_
  refine g_lload X22 hx (bb d11_148) rfl ?_
  refine g_lconst X22 hx (bb d11_150) ?_
  refine g_lcmp X22 hx (bb d11_151) ?_
  refine g_ifNo X22 hx (bb d11_152) ((if0 _ _).trans (flt (own_d0 et0)).1) ?_
  refine g_lload X22 hx (bb d11_155) rfl ?_
  refine gJ X22 hx hZ hown (ww 78 rfl) (bb d11_157) ?_
  refine g_lcmp X22 hx (bb d11_160) ?_
  refine g_ifYes X22 hx (pc' := 249) (bb d11_161) ((if0 _ _).trans (tlt (own_e0 et0)).1) (by decide) (by decide) ?_
  refine g_iinc X22 hx (bb d11_249) rfl (l' := #[vR a1, vI 0, vI 0, vR at_, vI 1, vI (f_base et0 et0), vJ ((et0.toInt64) - ((f_base et0 et0).toInt64)), .second, .unset, .unset, .unset]) rfl ?_
  refine g_goto X22 hx (pc' := 70) (bb d11_252) (by decide) (by decide) ?_
  refine g_iload X22 hx (bb d11_70) rfl ?_
  refine g_aloadN X22 hx (bb d11_72) rfl rfl ?_
  refine gF X22 hx hZ hown (ww 22 rfl) e22 F23 (bb d11_73) (fun T26 X26 e26 => ?_)
  refine g_icmpYes X26 hx (pc' := 255) (bb d11_76) (flt (by decide : ¬ ((1 : Int32) < (1 : Int32)))).2.1 (by decide) (by decide) ?_
  have F27 := (V11.other W19 ne_ol_oh)
  obtain ⟨fs, hr, hrun, hended, hW, hsame⟩ := X26.leave (v := none) (fun _ => rfl)
  subst hR0
  refine ⟨_, _, ?_, hrun, hended, _, _, rfl, ?_, ⟨_, rfl⟩, hW, hsame.mono (by decide) (by decide)⟩
  · exact X26.returnOut hx hret (bb d11_255) hr
  · show Q_fit1_0 Z a1 at_ ow on ob ol oh ov kw_ kn_ kb_ kl_ kh_ kv_ eb0 el0 eu0 ex0 ex1 ex2 ex3 ex4 ex5 ex6 ex7 kt_ et0 h0 n0 _ T26.heap _
    rw [e26]
    exact ⟨rfl, N19, (((Keep.refl h0 [ol, oh]).wr W11 (Or.inl (List.mem_of_getElem? (i := 0) rfl))).wr W19 (Or.inl (List.mem_of_getElem? (i := 1) rfl))), (by have q := F27; simp only [own_maxS, own_minS] at q; exact q), (by have q := V19; simp only [own_maxS, own_minS] at q; exact q)⟩
def Q_fit1_1 (Z : State) (a1 at_ ow on ob ol oh ov : Addr) (kw_ kn_ kb_ kl_ kh_ kv_ : ClassId) (eb0 el0 eu0 ev0_0 ex1 ex2 ex3 ex4 ex5 ex6 ex7 : Int32) (kt_ : ClassId) (et0 : Int32) (h0 : Heap) (n0 : Nat) (v : Option Value) (h : Heap) (L : List Loc) : Prop := v = none ∧ Fr n0 L ∧ Keep h0 h [ob, ol, oh, ov] ∧ Arv Z h ol kl_ .int (1 : Int32) [(.int (f_minI et0 el0))] (.int 0) ∧ Arv Z h oh kh_ .int (1 : Int32) [(.int (f_maxI et0 eu0))] (.int 0) ∧ Arv Z h ob kb_ .int (1 : Int32) [(.int (nbase eb0 el0 eu0 et0))] (.int 0) ∧ Arv Z h ov kv_ .char (8 : Int32) [(.int (nar .char (ev0_0 - (nbase eb0 el0 eu0 et0)))), (.int ex1), (.int ex2), (.int ex3), (.int ex4), (.int ex5), (.int ex6), (.int ex7)] (.int 0)
set_option maxRecDepth 65536 in
set_option maxHeartbeats 40000000 in
theorem rm_fit1_1 (l : Launch) (Z : State) (a0 : Array Value) (ww : WW a0 Z) (ws : List Jvm.Cond) (a1 at_ ow on ob ol oh ov : Addr) (kw_ kn_ kb_ kl_ kh_ kv_ : ClassId) (eb0 el0 eu0 ev0_0 ex1 ex2 ex3 ex4 ex5 ex6 ex7 : Int32) (kt_ : ClassId) (et0 : Int32) (h0 : Heap) (n0 : Nat) (Z0 : n0 ≤ h0.size) (O0 : Old Z n0 h0) (S_CS : Sta Z Z.heap cRV "CHUNK_SHIFT" "I" (.int (12 : Int32))) (r0 : Exa Z h0 a1 cRV) (r1 : Fld Z h0 a1 cRV "arity" "I" (.int 1)) (r2 : Fld Z h0 a1 cRV "rows" "I" (.int 1)) (r3 : Fld Z h0 a1 cRV "wide" "[[I" (.ref ow)) (r4 : Fld Z h0 a1 cRV "narrow" "[[C" (.ref on)) (r5 : Fld Z h0 a1 cRV "bases" "[I" (.ref ob)) (r6 : Fld Z h0 a1 cRV "lowest" "[I" (.ref ol)) (r7 : Fld Z h0 a1 cRV "highest" "[I" (.ref oh)) (r8 : Arv Z h0 ow kw_ (.array .int) (1 : Int32) [.null] .null) (r9 : OvrA Z kw_ .int "[I") (r10 : Arv Z h0 on kn_ (.array .char) (1 : Int32) [(.ref ov)] .null) (r11 : OvrA Z kn_ .char "[C") (r12 : Arv Z h0 ob kb_ .int (1 : Int32) [(.int eb0)] (.int 0)) (r13 : Arv Z h0 ol kl_ .int (1 : Int32) [(.int el0)] (.int 0)) (r14 : Arv Z h0 oh kh_ .int (1 : Int32) [(.int eu0)] (.int 0)) (r15 : Arv Z h0 ov kv_ .char (8 : Int32) [(.int (nar .char (ev0_0 - eb0))), (.int ex1), (.int ex2), (.int ex3), (.int ex4), (.int ex5), (.int ex6), (.int ex7)] (.int 0)) (r16 : Arv Z h0 at_ kt_ .int (1 : Int32) [(.int et0)] (.int 0)) (g_ob : n0 ≤ ob) (g_ol : n0 ≤ ol) (g_oh : n0 ≤ oh) (g_ov : n0 ≤ ov) (ne_a1_ow : a1 ≠ ow) (ne_a1_on : a1 ≠ on) (ne_a1_ob : a1 ≠ ob) (ne_a1_ol : a1 ≠ ol) (ne_a1_oh : a1 ≠ oh) (ne_a1_ov : a1 ≠ ov) (ne_ow_on : ow ≠ on) (ne_ow_ob : ow ≠ ob) (ne_ow_ol : ow ≠ ol) (ne_ow_oh : ow ≠ oh) (ne_ow_ov : ow ≠ ov) (ne_on_ob : on ≠ ob) (ne_on_ol : on ≠ ol) (ne_on_oh : on ≠ oh) (ne_on_ov : on ≠ ov) (ne_ob_ol : ob ≠ ol) (ne_ob_oh : ob ≠ oh) (ne_ob_ov : ob ≠ ov) (ne_ol_oh : ol ≠ oh) (ne_ol_ov : ol ≠ ov) (ne_oh_ov : oh ≠ ov) (ne_at__a1 : at_ ≠ a1) (ne_at__ow : at_ ≠ ow) (ne_at__on : at_ ≠ on) (ne_at__ob : at_ ≠ ob) (ne_at__ol : at_ ≠ ol) (ne_at__oh : at_ ≠ oh) (ne_at__ov : at_ ≠ ov) (hs0 : (lcmpW (((f_maxI et0 eu0).toInt64) - ((f_minI et0 el0).toInt64)) (65536 : Int64)) < (0 : Int32)) :
    MF l Z (⟨cRV, "fit", "(II[I)V"⟩ : MethodName) prog_47_method_7_code 11 none ws ({ frames := 2, cells := 0, slots := 0, locals := 30 } : Room) #[(.ref a1), (.int 0), (.int 1), (.ref at_)] h0 (Q_fit1_1 Z a1 at_ ow on ob ol oh ov kw_ kn_ kb_ kl_ kh_ kv_ eb0 el0 eu0 ev0_0 ex1 ex2 ex3 ex4 ex5 ex6 ex7 kt_ et0 h0 n0) := by
  refine gopen (plainFor_of_name pn_RowValues) (fun m => ef_fit1_1 m a1 at_) (fun p e s m below meth c s₁ hlk hret hx bb hml hown hnm hZ X0 e0 R0 hR0 => ?_)
  have N0 := Fr.nil n0
  refine g_iconst X0 hx (bb d11_0) ?_
  refine g_istore X0 hx (bb d11_1) (l' := #[vR a1, vI 0, vI 1, vR at_, vI 0, .unset, .unset, .unset, .unset, .unset, .unset]) rfl ?_
  refine g_iload X0 hx (bb d11_3) rfl ?_
  refine g_aloadN X0 hx (bb d11_5) rfl rfl ?_
  refine gF X0 hx hZ hown (ww 22 rfl) e0 r1 (bb d11_6) (fun T1 X1 e1 => ?_)
  refine g_icmpNo X1 hx (bb d11_9) (tlt (by decide : (0 : Int32) < (1 : Int32))).2.1 ?_
  refine g_aloadN X1 hx (bb d11_12) rfl rfl ?_
  refine g_iload X1 hx (bb d11_13) rfl ?_
  refine gLi X1 hx hZ e1 r16 (v := (.int et0)) ⟨by decide, by decide⟩ rfl (bb d11_15) ?_
  refine g_aloadN X1 hx (bb d11_16) rfl rfl ?_
  refine gF X1 hx hZ hown (ww 28 rfl) e1 r7 (bb d11_17) (fun T2 X2 e2 => ?_)
  refine g_iload X2 hx (bb d11_20) rfl ?_
  refine gLi X2 hx hZ e2 r14 (v := (.int eu0)) ⟨by decide, by decide⟩ rfl (bb d11_22) ?_
  refine gcS X2 hx hZ hml hown (ww 75 rfl) (ww 58 rfl) (ww 77 rfl) (ww 76 rfl) e2 (rm_maxI l Z a0 ww [] et0 eu0 h0 n0 (own_z0 O0) O0 S_CS) pd__II_I_5 (bb d11_23) 0 rfl (fun T3 L3 v3 X3 hQ3 => ?_)
  obtain ⟨rfl, N3q, e3⟩ := hQ3
  have N3 := Fr.app N0 N3q
  refine g_i2l X3 hx (bb d11_26) ?_
  refine g_aloadN X3 hx (bb d11_27) rfl rfl ?_
  refine g_iload X3 hx (bb d11_28) rfl ?_
  refine gLi X3 hx hZ e3 r16 (v := (.int et0)) ⟨by decide, by decide⟩ rfl (bb d11_30) ?_
  refine g_aloadN X3 hx (bb d11_31) rfl rfl ?_
  refine gF X3 hx hZ hown (ww 26 rfl) e3 r6 (bb d11_32) (fun T4 X4 e4 => ?_)
  refine g_iload X4 hx (bb d11_35) rfl ?_
  refine gLi X4 hx hZ e4 r13 (v := (.int el0)) ⟨by decide, by decide⟩ rfl (bb d11_37) ?_
  refine gcS X4 hx hZ hml hown (ww 68 rfl) (ww 58 rfl) (ww 70 rfl) (ww 69 rfl) e4 (rm_minI l Z a0 ww [] et0 el0 h0 n0 (own_z0 O0) O0 S_CS) pd__II_I_5 (bb d11_38) 2 rfl (fun T5 L5 v5 X5 hQ5 => ?_)
  obtain ⟨rfl, N5q, e5⟩ := hQ5
  have N5 := Fr.app N3 N5q
  refine g_i2l X5 hx (bb d11_41) ?_
  refine g_lsub X5 hx (bb d11_42) ?_
  refine g_lstore X5 hx (bb d11_43) (l' := #[vR a1, vI 0, vI 1, vR at_, vI 0, vJ (((f_maxI et0 eu0).toInt64) - ((f_minI et0 el0).toInt64)), .second, .unset, .unset, .unset, .unset]) rfl ?_
  refine g_lload X5 hx (bb d11_45) rfl ?_
  refine gJ X5 hx hZ hown (ww 78 rfl) (bb d11_47) ?_
  refine g_lcmp X5 hx (bb d11_50) ?_
  refine g_ifYes X5 hx (pc' := 61) (bb d11_51) ((if0 _ _).trans (tlt hs0).1) (by decide) (by decide) ?_
  refine g_iinc X5 hx (bb d11_61) rfl (l' := #[vR a1, vI 0, vI 1, vR at_, vI 1, vJ (((f_maxI et0 eu0).toInt64) - ((f_minI et0 el0).toInt64)), .second, .unset, .unset, .unset, .unset]) rfl ?_
  refine g_goto X5 hx (pc' := 3) (bb d11_64) (by decide) (by decide) ?_
  refine g_iload X5 hx (bb d11_3) rfl ?_
  refine g_aloadN X5 hx (bb d11_5) rfl rfl ?_
  refine gF X5 hx hZ hown (ww 22 rfl) e5 r1 (bb d11_6) (fun T6 X6 e6 => ?_)
  refine g_icmpYes X6 hx (pc' := 67) (bb d11_9) (flt (by decide : ¬ ((1 : Int32) < (1 : Int32)))).2.1 (by decide) (by decide) ?_
  refine g_iconst X6 hx (bb d11_67) ?_
  refine g_istore X6 hx (bb d11_68) (l' := #[vR a1, vI 0, vI 1, vR at_, vI 0, vJ (((f_maxI et0 eu0).toInt64) - ((f_minI et0 el0).toInt64)), .second, .unset, .unset, .unset, .unset]) rfl ?_
  refine g_iload X6 hx (bb d11_70) rfl ?_
  refine g_aloadN X6 hx (bb d11_72) rfl rfl ?_
  refine gF X6 hx hZ hown (ww 22 rfl) e6 r1 (bb d11_73) (fun T7 X7 e7 => ?_)
  refine g_icmpNo X7 hx (bb d11_76) (tlt (by decide : (0 : Int32) < (1 : Int32))).2.1 ?_
  refine g_aloadN X7 hx (bb d11_79) rfl rfl ?_
  refine gF X7 hx hZ hown (ww 26 rfl) e7 r6 (bb d11_80) (fun T8 X8 e8 => ?_)
  refine g_iload X8 hx (bb d11_83) rfl ?_
  refine g_aloadN X8 hx (bb d11_85) rfl rfl ?_
  refine g_iload X8 hx (bb d11_86) rfl ?_
  refine gLi X8 hx hZ e8 r16 (v := (.int et0)) ⟨by decide, by decide⟩ rfl (bb d11_88) ?_
  refine g_aloadN X8 hx (bb d11_89) rfl rfl ?_
  refine gF X8 hx hZ hown (ww 26 rfl) e8 r6 (bb d11_90) (fun T9 X9 e9 => ?_)
  refine g_iload X9 hx (bb d11_93) rfl ?_
  refine gLi X9 hx hZ e9 r13 (v := (.int el0)) ⟨by decide, by decide⟩ rfl (bb d11_95) ?_
  refine gcS X9 hx hZ hml hown (ww 68 rfl) (ww 58 rfl) (ww 70 rfl) (ww 69 rfl) e9 (rm_minI l Z a0 ww [] et0 el0 h0 n0 (own_z0 O0) O0 S_CS) pd__II_I_5 (bb d11_96) 2 rfl (fun T10 L10 v10 X10 hQ10 => ?_)
  obtain ⟨rfl, N10q, e10⟩ := hQ10
  have N10 := Fr.app N5 N10q
  refine gSi X10 hx hZ e10 r13 ⟨by decide, by decide⟩ 0 rfl (Nat.le_of_ble_eq_true rfl) N10 g_ol (bb d11_99) (fun T11 h11 X11 e11 W11 V11 N11 => ?_)
  refine g_aloadN X11 hx (bb d11_100) rfl rfl ?_
  have F13 := (r7.other W11 (Or.inl ne_a1_ol))
  refine gF X11 hx hZ hown (ww 28 rfl) e11 F13 (bb d11_101) (fun T12 X12 e12 => ?_)
  refine g_iload X12 hx (bb d11_104) rfl ?_
  refine g_aloadN X12 hx (bb d11_106) rfl rfl ?_
  refine g_iload X12 hx (bb d11_107) rfl ?_
  have F14 := (r16.other W11 ne_at__ol)
  refine gLi X12 hx hZ e12 F14 (v := (.int et0)) ⟨by decide, by decide⟩ rfl (bb d11_109) ?_
  refine g_aloadN X12 hx (bb d11_110) rfl rfl ?_
  refine gF X12 hx hZ hown (ww 28 rfl) e12 F13 (bb d11_111) (fun T15 X15 e15 => ?_)
  refine g_iload X15 hx (bb d11_114) rfl ?_
  have F16 := (r14.other W11 (Ne.symm ne_ol_oh))
  refine gLi X15 hx hZ e15 F16 (v := (.int eu0)) ⟨by decide, by decide⟩ rfl (bb d11_116) ?_
  have O18 := (O0.wr W11 g_ol)
  refine gcS X15 hx hZ hml hown (ww 75 rfl) (ww 58 rfl) (ww 77 rfl) (ww 76 rfl) e15 (rm_maxI l Z a0 ww [] et0 eu0 h11 n0 (own_z0 O18) O18 S_CS) pd__II_I_5 (bb d11_117) 2 rfl (fun T17 L17 v17 X17 hQ17 => ?_)
  obtain ⟨rfl, N17q, e17⟩ := hQ17
  have N17 := Fr.app N11 N17q
  refine gSi X17 hx hZ e17 F16 ⟨by decide, by decide⟩ 0 rfl (Nat.le_of_ble_eq_true rfl) N17 g_oh (bb d11_120) (fun T19 h19 X19 e19 W19 V19 N19 => ?_)
  refine g_aloadN X19 hx (bb d11_121) rfl rfl ?_
  have F21 := ((r5.other W11 (Or.inl ne_a1_ol)).other W19 (Or.inl ne_a1_oh))
  refine gF X19 hx hZ hown (ww 24 rfl) e19 F21 (bb d11_122) (fun T20 X20 e20 => ?_)
  refine g_iloadN X20 hx (bb d11_125) rfl ?_
  refine g_aloadN X20 hx (bb d11_126) rfl rfl ?_
  have F23 := ((r1.other W11 (Or.inl ne_a1_ol)).other W19 (Or.inl ne_a1_oh))
  refine gF X20 hx hZ hown (ww 22 rfl) e20 F23 (bb d11_127) (fun T22 X22 e22 => ?_)
  refine g_imul X22 hx (bb d11_130) ?_
  refine g_iload X22 hx (bb d11_131) rfl ?_
  refine g_iadd X22 hx (bb d11_133) ?_
  have F24 := ((r12.other W11 ne_ob_ol).other W19 ne_ob_oh)
  refine gLi X22 hx hZ e22 F24 (v := (.int eb0)) ⟨by decide, by decide⟩ rfl (bb d11_134) ?_
  refine g_istore X22 hx (bb d11_135) (l' := #[vR a1, vI 0, vI 1, vR at_, vI 0, vI eb0, .unset, .unset, .unset, .unset, .unset]) rfl ?_
  refine g_aloadN X22 hx (bb d11_137) rfl rfl ?_
  refine g_iload X22 hx (bb d11_138) rfl ?_
  have F25 := (F14.other W19 ne_at__oh)
  refine gLi X22 hx hZ e22 F25 (v := (.int et0)) ⟨by decide, by decide⟩ rfl (bb d11_140) ?_
  refine g_i2l X22 hx (bb d11_141) ?_
  refine g_iload X22 hx (bb d11_142) rfl ?_
  refine g_i2l X22 hx (bb d11_144) ?_
  refine g_lsub X22 hx (bb d11_145) ?_
  refine g_lstore X22 hx (bb d11_146) (l' := #[vR a1, vI 0, vI 1, vR at_, vI 0, vI eb0, vJ ((et0.toInt64) - (eb0.toInt64)), .second, .unset, .unset, .unset]) rfl ?_
  suffices hm26 : ∀ (T' : State) (L' : List Loc) (h' : Heap) (s8_26 : Slot) (s9_26 : Slot) (s10_26 : Slot), Stand p l e ({ frames := 2, cells := 0, slots := 0, locals := 30 } : Room) s m #[(.ref a1), (.int 0), (.int 1), (.ref at_)] below meth c T' L' 0 0 → T'.heap = h' → Fr n0 L' → Keep h19 h' [ob, ov] → Arv Z h' ob kb_ .int (1 : Int32) [(.int (nbase eb0 el0 eu0 et0))] (.int 0) → Arv Z h' ov kv_ .char (8 : Int32) [(.int (nar .char (ev0_0 - (nbase eb0 el0 eu0 et0)))), (.int ex1), (.int ex2), (.int ex3), (.int ex4), (.int ex5), (.int ex6), (.int ex7)] (.int 0) → One s8_26 → One s9_26 → One s10_26 → Gl p e below R0 T' (mkF m 249 #[vR a1, vI 0, vI 1, vR at_, vI 0, vI eb0, vJ ((et0.toInt64) - (eb0.toInt64)), .second, s8_26, s9_26, s10_26] []) by
    by_cases g26 : ((lcmpW ((et0.toInt64) - (eb0.toInt64)) (0 : Int64)) < (0 : Int32)) ∨ ¬ ((lcmpW ((et0.toInt64) - (eb0.toInt64)) (65536 : Int64)) < (0 : Int32))
    · skip
      suffices hm27 : ∀ (T' : State) (L' : List Loc), Stand p l e ({ frames := 2, cells := 0, slots := 0, locals := 30 } : Room) s m #[(.ref a1), (.int 0), (.int 1), (.ref at_)] below meth c T' L' 0 0 → T'.heap = h19 → Fr n0 L' → Gl p e below R0 T' (mkF m 164 #[vR a1, vI 0, vI 1, vR at_, vI 0, vI eb0, vJ ((et0.toInt64) - (eb0.toInt64)), .second, .unset, .unset, .unset] []) by
        refine g_lload X22 hx (bb d11_148) rfl ?_
        refine g_lconst X22 hx (bb d11_150) ?_
        refine g_lcmp X22 hx (bb d11_151) ?_
        by_cases g28 : (lcmpW ((et0.toInt64) - (eb0.toInt64)) (0 : Int64)) < (0 : Int32)
        · skip
          refine g_ifYes X22 hx (pc' := 164) (bb d11_152) ((if0 _ _).trans (tlt g28).1) (by decide) (by decide) ?_
          have q := hm27 _ _ X22 e22 N19
          exact q
        · skip
          refine g_ifNo X22 hx (bb d11_152) ((if0 _ _).trans (flt g28).1) ?_
          refine g_lload X22 hx (bb d11_155) rfl ?_
          refine gJ X22 hx hZ hown (ww 78 rfl) (bb d11_157) ?_
          refine g_lcmp X22 hx (bb d11_160) ?_
          refine g_ifNo X22 hx (bb d11_161) ((if0 _ _).trans (flt (g26.resolve_left g28)).1) ?_
          have q := hm27 _ _ X22 e22 N19
          exact q
      intro T27 L27 X27 e27 N27
      refine g_aloadN X27 hx (bb d11_164) rfl rfl ?_
      have F30 := ((r6.other W11 (Or.inl ne_a1_ol)).other W19 (Or.inl ne_a1_oh))
      refine gF X27 hx hZ hown (ww 26 rfl) e27 F30 (bb d11_165) (fun T29 X29 e29 => ?_)
      refine g_iload X29 hx (bb d11_168) rfl ?_
      have F31 := (V11.other W19 ne_ol_oh)
      refine gLi X29 hx hZ e29 F31 (v := (.int (f_minI et0 el0))) ⟨by decide, by decide⟩ rfl (bb d11_170) ?_
      refine g_aloadN X29 hx (bb d11_171) rfl rfl ?_
      have F33 := (F13.other W19 (Or.inl ne_a1_oh))
      refine gF X29 hx hZ hown (ww 28 rfl) e29 F33 (bb d11_172) (fun T32 X32 e32 => ?_)
      refine g_iload X32 hx (bb d11_175) rfl ?_
      refine gLi X32 hx hZ e32 V19 (v := (.int (f_maxI et0 eu0))) ⟨by decide, by decide⟩ rfl (bb d11_177) ?_
      have O35 := (O18.wr W19 g_oh)
      refine gcS X32 hx hZ hml hown (ww 50 rfl) (ww 7 rfl) (ww 52 rfl) (ww 51 rfl) e32 (rm_base l Z a0 ww [] (f_minI et0 el0) (f_maxI et0 eu0) h19 n0 (own_z0 O35) O35 S_CS) pd__II_I_5 (bb d11_178) 0 rfl (fun T34 L34 v34 X34 hQ34 => ?_)
      obtain ⟨rfl, N34q, e34⟩ := hQ34
      have N34 := Fr.app N27 N34q
      refine g_istore X34 hx (bb d11_181) (l' := #[vR a1, vI 0, vI 1, vR at_, vI 0, vI eb0, vJ ((et0.toInt64) - (eb0.toInt64)), .second, vI (f_base (f_minI et0 el0) (f_maxI et0 eu0)), .unset, .unset]) rfl ?_
      refine g_aloadN X34 hx (bb d11_183) rfl rfl ?_
      have F37 := ((r4.other W11 (Or.inl ne_a1_ol)).other W19 (Or.inl ne_a1_oh))
      refine gF X34 hx hZ hown (ww 20 rfl) e34 F37 (bb d11_184) (fun T36 X36 e36 => ?_)
      refine g_iloadN X36 hx (bb d11_187) rfl ?_
      have F38 := ((r10.other W11 ne_on_ol).other W19 ne_on_oh)
      refine gLr rfl X36 hx hZ e36 F38 (v := (.ref ov)) ⟨by decide, by decide⟩ rfl (bb d11_188) ?_
      refine g_astore X36 hx (bb d11_189) rfl (l' := #[vR a1, vI 0, vI 1, vR at_, vI 0, vI eb0, vJ ((et0.toInt64) - (eb0.toInt64)), .second, vI (f_base (f_minI et0 el0) (f_maxI et0 eu0)), vR ov, .unset]) rfl ?_
      refine g_iload X36 hx (bb d11_191) rfl ?_
      refine g_istore X36 hx (bb d11_193) (l' := #[vR a1, vI 0, vI 1, vR at_, vI 0, vI eb0, vJ ((et0.toInt64) - (eb0.toInt64)), .second, vI (f_base (f_minI et0 el0) (f_maxI et0 eu0)), vR ov, vI 0]) rfl ?_
      refine g_iload X36 hx (bb d11_195) rfl ?_
      refine g_iloadN X36 hx (bb d11_197) rfl ?_
      refine g_aloadN X36 hx (bb d11_198) rfl rfl ?_
      refine gF X36 hx hZ hown (ww 22 rfl) e36 F23 (bb d11_199) (fun T39 X39 e39 => ?_)
      refine g_imul X39 hx (bb d11_202) ?_
      refine g_icmpNo X39 hx (bb d11_203) (tlt (by decide : (0 : Int32) < (1 : Int32))).2.1 ?_
      refine g_aload X39 hx (bb d11_206) rfl rfl ?_
      refine g_iload X39 hx (bb d11_208) rfl ?_
      refine g_dup2 X39 hx (bb d11_210) rfl rfl ?_
      have F40 := ((r15.other W11 (Ne.symm ne_ol_ov)).other W19 (Ne.symm ne_oh_ov))
      refine gLc X39 hx hZ e39 F40 (v := (.int (nar .char (ev0_0 - eb0)))) ⟨by decide, by decide⟩ rfl (bb d11_211) ?_
      refine g_iload X39 hx (bb d11_212) rfl ?_
      refine g_iload X39 hx (bb d11_214) rfl ?_
      refine g_isub X39 hx (bb d11_216) ?_
      refine g_i2c X39 hx (bb d11_217) ?_
      refine g_iadd X39 hx (bb d11_218) ?_
      refine g_i2c X39 hx (bb d11_219) ?_
      refine gSc X39 hx hZ e39 F40 ⟨by decide, by decide⟩ 0 rfl (Nat.le_of_ble_eq_true rfl) N34 g_ov (bb d11_220) (fun T41 h41 X41 e41 W41 V41 N41 => ?_)
      refine g_iload X41 hx (bb d11_221) rfl ?_
      refine g_aloadN X41 hx (bb d11_223) rfl rfl ?_
      have F43 := (F23.other W41 (Or.inl ne_a1_ov))
      refine gF X41 hx hZ hown (ww 22 rfl) e41 F43 (bb d11_224) (fun T42 X42 e42 => ?_)
      refine g_iadd X42 hx (bb d11_227) ?_
      refine g_istore X42 hx (bb d11_228) (l' := #[vR a1, vI 0, vI 1, vR at_, vI 0, vI eb0, vJ ((et0.toInt64) - (eb0.toInt64)), .second, vI (f_base (f_minI et0 el0) (f_maxI et0 eu0)), vR ov, vI 1]) rfl ?_
      refine g_goto X42 hx (pc' := 195) (bb d11_230) (by decide) (by decide) ?_
      refine g_iload X42 hx (bb d11_195) rfl ?_
      refine g_iloadN X42 hx (bb d11_197) rfl ?_
      refine g_aloadN X42 hx (bb d11_198) rfl rfl ?_
      refine gF X42 hx hZ hown (ww 22 rfl) e42 F43 (bb d11_199) (fun T44 X44 e44 => ?_)
      refine g_imul X44 hx (bb d11_202) ?_
      refine g_icmpYes X44 hx (pc' := 233) (bb d11_203) (flt (by decide : ¬ ((1 : Int32) < (1 : Int32)))).2.1 (by decide) (by decide) ?_
      refine g_aloadN X44 hx (bb d11_233) rfl rfl ?_
      have F46 := (F21.other W41 (Or.inl ne_a1_ov))
      refine gF X44 hx hZ hown (ww 24 rfl) e44 F46 (bb d11_234) (fun T45 X45 e45 => ?_)
      refine g_iloadN X45 hx (bb d11_237) rfl ?_
      refine g_aloadN X45 hx (bb d11_238) rfl rfl ?_
      refine gF X45 hx hZ hown (ww 22 rfl) e45 F43 (bb d11_239) (fun T47 X47 e47 => ?_)
      refine g_imul X47 hx (bb d11_242) ?_
      refine g_iload X47 hx (bb d11_243) rfl ?_
      refine g_iadd X47 hx (bb d11_245) ?_
      refine g_iload X47 hx (bb d11_246) rfl ?_
      have F48 := (F24.other W41 ne_ob_ov)
      refine gSi X47 hx hZ e47 F48 ⟨by decide, by decide⟩ 0 rfl (Nat.le_of_ble_eq_true rfl) N41 g_ob (bb d11_248) (fun T49 h49 X49 e49 W49 V49 N49 => ?_)
      have F50 := (V41.other W49 (Ne.symm ne_ob_ov))
      exact hm26 _ _ _ (vI (f_base (f_minI et0 el0) (f_maxI et0 eu0))) (vR ov) (vI 1) X49 e49 N49 (((Keep.refl h19 [ob, ov]).wr W41 (Or.inl (List.mem_of_getElem? (i := 1) rfl))).wr W49 (Or.inl (List.mem_of_getElem? (i := 0) rfl))) (by simp only [nbase, if_pos g26]; exact V49) (by simp only [nbase, if_pos g26]; have q := F50; simp only [own_ch] at q; exact q) (One.val rfl) (One.val rfl) (One.val rfl)
    · skip
      refine g_lload X22 hx (bb d11_148) rfl ?_
      refine g_lconst X22 hx (bb d11_150) ?_
      refine g_lcmp X22 hx (bb d11_151) ?_
      refine g_ifNo X22 hx (bb d11_152) ((if0 _ _).trans (flt (fun q => g26 (Or.inl q))).1) ?_
      refine g_lload X22 hx (bb d11_155) rfl ?_
      refine gJ X22 hx hZ hown (ww 78 rfl) (bb d11_157) ?_
      refine g_lcmp X22 hx (bb d11_160) ?_
      refine g_ifYes X22 hx (pc' := 249) (bb d11_161) ((if0 _ _).trans (tlt (Decidable.of_not_not fun q => g26 (Or.inr q))).1) (by decide) (by decide) ?_
      have F51 := ((r15.other W11 (Ne.symm ne_ol_ov)).other W19 (Ne.symm ne_oh_ov))
      exact hm26 _ _ _ (.unset) (.unset) (.unset) X22 e22 N19 (Keep.refl h19 [ob, ov]) (by simp only [nbase, if_neg g26]; exact F24) (by simp only [nbase, if_neg g26]; have q := F51; exact q) One.u One.u One.u
  intro T26 L26 h26 s8_26 s9_26 s10_26 X26 e26 N26 K26 f26_0 f26_1 o_s8_26 o_s9_26 o_s10_26
  refine g_iinc X26 hx (bb d11_249) rfl (l' := #[vR a1, vI 0, vI 1, vR at_, vI 1, vI eb0, vJ ((et0.toInt64) - (eb0.toInt64)), .second, s8_26, s9_26, s10_26]) rfl ?_
  refine g_goto X26 hx (pc' := 70) (bb d11_252) (by decide) (by decide) ?_
  refine g_iload X26 hx (bb d11_70) rfl ?_
  refine g_aloadN X26 hx (bb d11_72) rfl rfl ?_
  have F53 := (F23.keep K26 (ninS ne_a1_ob (ninS ne_a1_ov nin0)))
  refine gF X26 hx hZ hown (ww 22 rfl) e26 F53 (bb d11_73) (fun T52 X52 e52 => ?_)
  refine g_icmpYes X52 hx (pc' := 255) (bb d11_76) (flt (by decide : ¬ ((1 : Int32) < (1 : Int32)))).2.1 (by decide) (by decide) ?_
  have F54 := ((V11.other W19 ne_ol_oh).keep K26 (ninS (Ne.symm ne_ob_ol) (ninS ne_ol_ov nin0)))
  have F55 := (V19.keep K26 (ninS (Ne.symm ne_ob_oh) (ninS ne_oh_ov nin0)))
  obtain ⟨fs, hr, hrun, hended, hW, hsame⟩ := X52.leave (v := none) (fun _ => rfl)
  subst hR0
  refine ⟨_, _, ?_, hrun, hended, _, _, rfl, ?_, ⟨_, rfl⟩, hW, hsame.mono (by decide) (by decide)⟩
  · exact X52.returnOut hx hret (bb d11_255) hr
  · show Q_fit1_1 Z a1 at_ ow on ob ol oh ov kw_ kn_ kb_ kl_ kh_ kv_ eb0 el0 eu0 ev0_0 ex1 ex2 ex3 ex4 ex5 ex6 ex7 kt_ et0 h0 n0 _ T52.heap _
    rw [e52]
    exact ⟨rfl, N26, ((((Keep.refl h0 [ob, ol, oh, ov]).wr W11 (Or.inl (List.mem_of_getElem? (i := 1) rfl))).wr W19 (Or.inl (List.mem_of_getElem? (i := 2) rfl))).trans K26 (allS (Or.inl (List.mem_of_getElem? (i := 0) rfl)) (allS (Or.inl (List.mem_of_getElem? (i := 3) rfl)) all0))), F54, F55, f26_0, f26_1⟩
def Q_fit1_2 (Z : State) (a1 at_ ow on ob ol oh ov : Addr) (kw_ kn_ kb_ kl_ kh_ kv_ : ClassId) (eb0 el0 eu0 ev0_0 ev1_0 ex2 ex3 ex4 ex5 ex6 ex7 : Int32) (kt_ : ClassId) (et0 : Int32) (h0 : Heap) (n0 : Nat) (v : Option Value) (h : Heap) (L : List Loc) : Prop := v = none ∧ Fr n0 L ∧ Keep h0 h [ob, ol, oh, ov] ∧ Arv Z h ol kl_ .int (1 : Int32) [(.int (f_minI et0 el0))] (.int 0) ∧ Arv Z h oh kh_ .int (1 : Int32) [(.int (f_maxI et0 eu0))] (.int 0) ∧ Arv Z h ob kb_ .int (1 : Int32) [(.int (nbase eb0 el0 eu0 et0))] (.int 0) ∧ Arv Z h ov kv_ .char (8 : Int32) [(.int (nar .char (ev0_0 - (nbase eb0 el0 eu0 et0)))), (.int (nar .char (ev1_0 - (nbase eb0 el0 eu0 et0)))), (.int ex2), (.int ex3), (.int ex4), (.int ex5), (.int ex6), (.int ex7)] (.int 0)
set_option maxRecDepth 65536 in
set_option maxHeartbeats 40000000 in
theorem rm_fit1_2 (l : Launch) (Z : State) (a0 : Array Value) (ww : WW a0 Z) (ws : List Jvm.Cond) (a1 at_ ow on ob ol oh ov : Addr) (kw_ kn_ kb_ kl_ kh_ kv_ : ClassId) (eb0 el0 eu0 ev0_0 ev1_0 ex2 ex3 ex4 ex5 ex6 ex7 : Int32) (kt_ : ClassId) (et0 : Int32) (h0 : Heap) (n0 : Nat) (Z0 : n0 ≤ h0.size) (O0 : Old Z n0 h0) (S_CS : Sta Z Z.heap cRV "CHUNK_SHIFT" "I" (.int (12 : Int32))) (r0 : Exa Z h0 a1 cRV) (r1 : Fld Z h0 a1 cRV "arity" "I" (.int 1)) (r2 : Fld Z h0 a1 cRV "rows" "I" (.int 2)) (r3 : Fld Z h0 a1 cRV "wide" "[[I" (.ref ow)) (r4 : Fld Z h0 a1 cRV "narrow" "[[C" (.ref on)) (r5 : Fld Z h0 a1 cRV "bases" "[I" (.ref ob)) (r6 : Fld Z h0 a1 cRV "lowest" "[I" (.ref ol)) (r7 : Fld Z h0 a1 cRV "highest" "[I" (.ref oh)) (r8 : Arv Z h0 ow kw_ (.array .int) (1 : Int32) [.null] .null) (r9 : OvrA Z kw_ .int "[I") (r10 : Arv Z h0 on kn_ (.array .char) (1 : Int32) [(.ref ov)] .null) (r11 : OvrA Z kn_ .char "[C") (r12 : Arv Z h0 ob kb_ .int (1 : Int32) [(.int eb0)] (.int 0)) (r13 : Arv Z h0 ol kl_ .int (1 : Int32) [(.int el0)] (.int 0)) (r14 : Arv Z h0 oh kh_ .int (1 : Int32) [(.int eu0)] (.int 0)) (r15 : Arv Z h0 ov kv_ .char (8 : Int32) [(.int (nar .char (ev0_0 - eb0))), (.int (nar .char (ev1_0 - eb0))), (.int ex2), (.int ex3), (.int ex4), (.int ex5), (.int ex6), (.int ex7)] (.int 0)) (r16 : Arv Z h0 at_ kt_ .int (1 : Int32) [(.int et0)] (.int 0)) (g_ob : n0 ≤ ob) (g_ol : n0 ≤ ol) (g_oh : n0 ≤ oh) (g_ov : n0 ≤ ov) (ne_a1_ow : a1 ≠ ow) (ne_a1_on : a1 ≠ on) (ne_a1_ob : a1 ≠ ob) (ne_a1_ol : a1 ≠ ol) (ne_a1_oh : a1 ≠ oh) (ne_a1_ov : a1 ≠ ov) (ne_ow_on : ow ≠ on) (ne_ow_ob : ow ≠ ob) (ne_ow_ol : ow ≠ ol) (ne_ow_oh : ow ≠ oh) (ne_ow_ov : ow ≠ ov) (ne_on_ob : on ≠ ob) (ne_on_ol : on ≠ ol) (ne_on_oh : on ≠ oh) (ne_on_ov : on ≠ ov) (ne_ob_ol : ob ≠ ol) (ne_ob_oh : ob ≠ oh) (ne_ob_ov : ob ≠ ov) (ne_ol_oh : ol ≠ oh) (ne_ol_ov : ol ≠ ov) (ne_oh_ov : oh ≠ ov) (ne_at__a1 : at_ ≠ a1) (ne_at__ow : at_ ≠ ow) (ne_at__on : at_ ≠ on) (ne_at__ob : at_ ≠ ob) (ne_at__ol : at_ ≠ ol) (ne_at__oh : at_ ≠ oh) (ne_at__ov : at_ ≠ ov) (hs0 : (lcmpW (((f_maxI et0 eu0).toInt64) - ((f_minI et0 el0).toInt64)) (65536 : Int64)) < (0 : Int32)) :
    MF l Z (⟨cRV, "fit", "(II[I)V"⟩ : MethodName) prog_47_method_7_code 11 none ws ({ frames := 2, cells := 0, slots := 0, locals := 30 } : Room) #[(.ref a1), (.int 0), (.int 2), (.ref at_)] h0 (Q_fit1_2 Z a1 at_ ow on ob ol oh ov kw_ kn_ kb_ kl_ kh_ kv_ eb0 el0 eu0 ev0_0 ev1_0 ex2 ex3 ex4 ex5 ex6 ex7 kt_ et0 h0 n0) := by
  refine gopen (plainFor_of_name pn_RowValues) (fun m => ef_fit1_2 m a1 at_) (fun p e s m below meth c s₁ hlk hret hx bb hml hown hnm hZ X0 e0 R0 hR0 => ?_)
  have N0 := Fr.nil n0
  refine g_iconst X0 hx (bb d11_0) ?_
  refine g_istore X0 hx (bb d11_1) (l' := #[vR a1, vI 0, vI 2, vR at_, vI 0, .unset, .unset, .unset, .unset, .unset, .unset]) rfl ?_
  refine g_iload X0 hx (bb d11_3) rfl ?_
  refine g_aloadN X0 hx (bb d11_5) rfl rfl ?_
  refine gF X0 hx hZ hown (ww 22 rfl) e0 r1 (bb d11_6) (fun T1 X1 e1 => ?_)
  refine g_icmpNo X1 hx (bb d11_9) (tlt (by decide : (0 : Int32) < (1 : Int32))).2.1 ?_
  refine g_aloadN X1 hx (bb d11_12) rfl rfl ?_
  refine g_iload X1 hx (bb d11_13) rfl ?_
  refine gLi X1 hx hZ e1 r16 (v := (.int et0)) ⟨by decide, by decide⟩ rfl (bb d11_15) ?_
  refine g_aloadN X1 hx (bb d11_16) rfl rfl ?_
  refine gF X1 hx hZ hown (ww 28 rfl) e1 r7 (bb d11_17) (fun T2 X2 e2 => ?_)
  refine g_iload X2 hx (bb d11_20) rfl ?_
  refine gLi X2 hx hZ e2 r14 (v := (.int eu0)) ⟨by decide, by decide⟩ rfl (bb d11_22) ?_
  refine gcS X2 hx hZ hml hown (ww 75 rfl) (ww 58 rfl) (ww 77 rfl) (ww 76 rfl) e2 (rm_maxI l Z a0 ww [] et0 eu0 h0 n0 (own_z0 O0) O0 S_CS) pd__II_I_5 (bb d11_23) 0 rfl (fun T3 L3 v3 X3 hQ3 => ?_)
  obtain ⟨rfl, N3q, e3⟩ := hQ3
  have N3 := Fr.app N0 N3q
  refine g_i2l X3 hx (bb d11_26) ?_
  refine g_aloadN X3 hx (bb d11_27) rfl rfl ?_
  refine g_iload X3 hx (bb d11_28) rfl ?_
  refine gLi X3 hx hZ e3 r16 (v := (.int et0)) ⟨by decide, by decide⟩ rfl (bb d11_30) ?_
  refine g_aloadN X3 hx (bb d11_31) rfl rfl ?_
  refine gF X3 hx hZ hown (ww 26 rfl) e3 r6 (bb d11_32) (fun T4 X4 e4 => ?_)
  refine g_iload X4 hx (bb d11_35) rfl ?_
  refine gLi X4 hx hZ e4 r13 (v := (.int el0)) ⟨by decide, by decide⟩ rfl (bb d11_37) ?_
  refine gcS X4 hx hZ hml hown (ww 68 rfl) (ww 58 rfl) (ww 70 rfl) (ww 69 rfl) e4 (rm_minI l Z a0 ww [] et0 el0 h0 n0 (own_z0 O0) O0 S_CS) pd__II_I_5 (bb d11_38) 2 rfl (fun T5 L5 v5 X5 hQ5 => ?_)
  obtain ⟨rfl, N5q, e5⟩ := hQ5
  have N5 := Fr.app N3 N5q
  refine g_i2l X5 hx (bb d11_41) ?_
  refine g_lsub X5 hx (bb d11_42) ?_
  refine g_lstore X5 hx (bb d11_43) (l' := #[vR a1, vI 0, vI 2, vR at_, vI 0, vJ (((f_maxI et0 eu0).toInt64) - ((f_minI et0 el0).toInt64)), .second, .unset, .unset, .unset, .unset]) rfl ?_
  refine g_lload X5 hx (bb d11_45) rfl ?_
  refine gJ X5 hx hZ hown (ww 78 rfl) (bb d11_47) ?_
  refine g_lcmp X5 hx (bb d11_50) ?_
  refine g_ifYes X5 hx (pc' := 61) (bb d11_51) ((if0 _ _).trans (tlt hs0).1) (by decide) (by decide) ?_
  refine g_iinc X5 hx (bb d11_61) rfl (l' := #[vR a1, vI 0, vI 2, vR at_, vI 1, vJ (((f_maxI et0 eu0).toInt64) - ((f_minI et0 el0).toInt64)), .second, .unset, .unset, .unset, .unset]) rfl ?_
  refine g_goto X5 hx (pc' := 3) (bb d11_64) (by decide) (by decide) ?_
  refine g_iload X5 hx (bb d11_3) rfl ?_
  refine g_aloadN X5 hx (bb d11_5) rfl rfl ?_
  refine gF X5 hx hZ hown (ww 22 rfl) e5 r1 (bb d11_6) (fun T6 X6 e6 => ?_)
  refine g_icmpYes X6 hx (pc' := 67) (bb d11_9) (flt (by decide : ¬ ((1 : Int32) < (1 : Int32)))).2.1 (by decide) (by decide) ?_
  refine g_iconst X6 hx (bb d11_67) ?_
  refine g_istore X6 hx (bb d11_68) (l' := #[vR a1, vI 0, vI 2, vR at_, vI 0, vJ (((f_maxI et0 eu0).toInt64) - ((f_minI et0 el0).toInt64)), .second, .unset, .unset, .unset, .unset]) rfl ?_
  refine g_iload X6 hx (bb d11_70) rfl ?_
  refine g_aloadN X6 hx (bb d11_72) rfl rfl ?_
  refine gF X6 hx hZ hown (ww 22 rfl) e6 r1 (bb d11_73) (fun T7 X7 e7 => ?_)
  refine g_icmpNo X7 hx (bb d11_76) (tlt (by decide : (0 : Int32) < (1 : Int32))).2.1 ?_
  refine g_aloadN X7 hx (bb d11_79) rfl rfl ?_
  refine gF X7 hx hZ hown (ww 26 rfl) e7 r6 (bb d11_80) (fun T8 X8 e8 => ?_)
  refine g_iload X8 hx (bb d11_83) rfl ?_
  refine g_aloadN X8 hx (bb d11_85) rfl rfl ?_
  refine g_iload X8 hx (bb d11_86) rfl ?_
  refine gLi X8 hx hZ e8 r16 (v := (.int et0)) ⟨by decide, by decide⟩ rfl (bb d11_88) ?_
  refine g_aloadN X8 hx (bb d11_89) rfl rfl ?_
  refine gF X8 hx hZ hown (ww 26 rfl) e8 r6 (bb d11_90) (fun T9 X9 e9 => ?_)
  refine g_iload X9 hx (bb d11_93) rfl ?_
  refine gLi X9 hx hZ e9 r13 (v := (.int el0)) ⟨by decide, by decide⟩ rfl (bb d11_95) ?_
  refine gcS X9 hx hZ hml hown (ww 68 rfl) (ww 58 rfl) (ww 70 rfl) (ww 69 rfl) e9 (rm_minI l Z a0 ww [] et0 el0 h0 n0 (own_z0 O0) O0 S_CS) pd__II_I_5 (bb d11_96) 2 rfl (fun T10 L10 v10 X10 hQ10 => ?_)
  obtain ⟨rfl, N10q, e10⟩ := hQ10
  have N10 := Fr.app N5 N10q
  refine gSi X10 hx hZ e10 r13 ⟨by decide, by decide⟩ 0 rfl (Nat.le_of_ble_eq_true rfl) N10 g_ol (bb d11_99) (fun T11 h11 X11 e11 W11 V11 N11 => ?_)
  refine g_aloadN X11 hx (bb d11_100) rfl rfl ?_
  have F13 := (r7.other W11 (Or.inl ne_a1_ol))
  refine gF X11 hx hZ hown (ww 28 rfl) e11 F13 (bb d11_101) (fun T12 X12 e12 => ?_)
  refine g_iload X12 hx (bb d11_104) rfl ?_
  refine g_aloadN X12 hx (bb d11_106) rfl rfl ?_
  refine g_iload X12 hx (bb d11_107) rfl ?_
  have F14 := (r16.other W11 ne_at__ol)
  refine gLi X12 hx hZ e12 F14 (v := (.int et0)) ⟨by decide, by decide⟩ rfl (bb d11_109) ?_
  refine g_aloadN X12 hx (bb d11_110) rfl rfl ?_
  refine gF X12 hx hZ hown (ww 28 rfl) e12 F13 (bb d11_111) (fun T15 X15 e15 => ?_)
  refine g_iload X15 hx (bb d11_114) rfl ?_
  have F16 := (r14.other W11 (Ne.symm ne_ol_oh))
  refine gLi X15 hx hZ e15 F16 (v := (.int eu0)) ⟨by decide, by decide⟩ rfl (bb d11_116) ?_
  have O18 := (O0.wr W11 g_ol)
  refine gcS X15 hx hZ hml hown (ww 75 rfl) (ww 58 rfl) (ww 77 rfl) (ww 76 rfl) e15 (rm_maxI l Z a0 ww [] et0 eu0 h11 n0 (own_z0 O18) O18 S_CS) pd__II_I_5 (bb d11_117) 2 rfl (fun T17 L17 v17 X17 hQ17 => ?_)
  obtain ⟨rfl, N17q, e17⟩ := hQ17
  have N17 := Fr.app N11 N17q
  refine gSi X17 hx hZ e17 F16 ⟨by decide, by decide⟩ 0 rfl (Nat.le_of_ble_eq_true rfl) N17 g_oh (bb d11_120) (fun T19 h19 X19 e19 W19 V19 N19 => ?_)
  refine g_aloadN X19 hx (bb d11_121) rfl rfl ?_
  have F21 := ((r5.other W11 (Or.inl ne_a1_ol)).other W19 (Or.inl ne_a1_oh))
  refine gF X19 hx hZ hown (ww 24 rfl) e19 F21 (bb d11_122) (fun T20 X20 e20 => ?_)
  refine g_iloadN X20 hx (bb d11_125) rfl ?_
  refine g_aloadN X20 hx (bb d11_126) rfl rfl ?_
  have F23 := ((r1.other W11 (Or.inl ne_a1_ol)).other W19 (Or.inl ne_a1_oh))
  refine gF X20 hx hZ hown (ww 22 rfl) e20 F23 (bb d11_127) (fun T22 X22 e22 => ?_)
  refine g_imul X22 hx (bb d11_130) ?_
  refine g_iload X22 hx (bb d11_131) rfl ?_
  refine g_iadd X22 hx (bb d11_133) ?_
  have F24 := ((r12.other W11 ne_ob_ol).other W19 ne_ob_oh)
  refine gLi X22 hx hZ e22 F24 (v := (.int eb0)) ⟨by decide, by decide⟩ rfl (bb d11_134) ?_
  refine g_istore X22 hx (bb d11_135) (l' := #[vR a1, vI 0, vI 2, vR at_, vI 0, vI eb0, .unset, .unset, .unset, .unset, .unset]) rfl ?_
  refine g_aloadN X22 hx (bb d11_137) rfl rfl ?_
  refine g_iload X22 hx (bb d11_138) rfl ?_
  have F25 := (F14.other W19 ne_at__oh)
  refine gLi X22 hx hZ e22 F25 (v := (.int et0)) ⟨by decide, by decide⟩ rfl (bb d11_140) ?_
  refine g_i2l X22 hx (bb d11_141) ?_
  refine g_iload X22 hx (bb d11_142) rfl ?_
  refine g_i2l X22 hx (bb d11_144) ?_
  refine g_lsub X22 hx (bb d11_145) ?_
  refine g_lstore X22 hx (bb d11_146) (l' := #[vR a1, vI 0, vI 2, vR at_, vI 0, vI eb0, vJ ((et0.toInt64) - (eb0.toInt64)), .second, .unset, .unset, .unset]) rfl ?_
  suffices hm26 : ∀ (T' : State) (L' : List Loc) (h' : Heap) (s8_26 : Slot) (s9_26 : Slot) (s10_26 : Slot), Stand p l e ({ frames := 2, cells := 0, slots := 0, locals := 30 } : Room) s m #[(.ref a1), (.int 0), (.int 2), (.ref at_)] below meth c T' L' 0 0 → T'.heap = h' → Fr n0 L' → Keep h19 h' [ob, ov] → Arv Z h' ob kb_ .int (1 : Int32) [(.int (nbase eb0 el0 eu0 et0))] (.int 0) → Arv Z h' ov kv_ .char (8 : Int32) [(.int (nar .char (ev0_0 - (nbase eb0 el0 eu0 et0)))), (.int (nar .char (ev1_0 - (nbase eb0 el0 eu0 et0)))), (.int ex2), (.int ex3), (.int ex4), (.int ex5), (.int ex6), (.int ex7)] (.int 0) → One s8_26 → One s9_26 → One s10_26 → Gl p e below R0 T' (mkF m 249 #[vR a1, vI 0, vI 2, vR at_, vI 0, vI eb0, vJ ((et0.toInt64) - (eb0.toInt64)), .second, s8_26, s9_26, s10_26] []) by
    by_cases g26 : ((lcmpW ((et0.toInt64) - (eb0.toInt64)) (0 : Int64)) < (0 : Int32)) ∨ ¬ ((lcmpW ((et0.toInt64) - (eb0.toInt64)) (65536 : Int64)) < (0 : Int32))
    · skip
      suffices hm27 : ∀ (T' : State) (L' : List Loc), Stand p l e ({ frames := 2, cells := 0, slots := 0, locals := 30 } : Room) s m #[(.ref a1), (.int 0), (.int 2), (.ref at_)] below meth c T' L' 0 0 → T'.heap = h19 → Fr n0 L' → Gl p e below R0 T' (mkF m 164 #[vR a1, vI 0, vI 2, vR at_, vI 0, vI eb0, vJ ((et0.toInt64) - (eb0.toInt64)), .second, .unset, .unset, .unset] []) by
        refine g_lload X22 hx (bb d11_148) rfl ?_
        refine g_lconst X22 hx (bb d11_150) ?_
        refine g_lcmp X22 hx (bb d11_151) ?_
        by_cases g28 : (lcmpW ((et0.toInt64) - (eb0.toInt64)) (0 : Int64)) < (0 : Int32)
        · skip
          refine g_ifYes X22 hx (pc' := 164) (bb d11_152) ((if0 _ _).trans (tlt g28).1) (by decide) (by decide) ?_
          have q := hm27 _ _ X22 e22 N19
          exact q
        · skip
          refine g_ifNo X22 hx (bb d11_152) ((if0 _ _).trans (flt g28).1) ?_
          refine g_lload X22 hx (bb d11_155) rfl ?_
          refine gJ X22 hx hZ hown (ww 78 rfl) (bb d11_157) ?_
          refine g_lcmp X22 hx (bb d11_160) ?_
          refine g_ifNo X22 hx (bb d11_161) ((if0 _ _).trans (flt (g26.resolve_left g28)).1) ?_
          have q := hm27 _ _ X22 e22 N19
          exact q
      intro T27 L27 X27 e27 N27
      refine g_aloadN X27 hx (bb d11_164) rfl rfl ?_
      have F30 := ((r6.other W11 (Or.inl ne_a1_ol)).other W19 (Or.inl ne_a1_oh))
      refine gF X27 hx hZ hown (ww 26 rfl) e27 F30 (bb d11_165) (fun T29 X29 e29 => ?_)
      refine g_iload X29 hx (bb d11_168) rfl ?_
      have F31 := (V11.other W19 ne_ol_oh)
      refine gLi X29 hx hZ e29 F31 (v := (.int (f_minI et0 el0))) ⟨by decide, by decide⟩ rfl (bb d11_170) ?_
      refine g_aloadN X29 hx (bb d11_171) rfl rfl ?_
      have F33 := (F13.other W19 (Or.inl ne_a1_oh))
      refine gF X29 hx hZ hown (ww 28 rfl) e29 F33 (bb d11_172) (fun T32 X32 e32 => ?_)
      refine g_iload X32 hx (bb d11_175) rfl ?_
      refine gLi X32 hx hZ e32 V19 (v := (.int (f_maxI et0 eu0))) ⟨by decide, by decide⟩ rfl (bb d11_177) ?_
      have O35 := (O18.wr W19 g_oh)
      refine gcS X32 hx hZ hml hown (ww 50 rfl) (ww 7 rfl) (ww 52 rfl) (ww 51 rfl) e32 (rm_base l Z a0 ww [] (f_minI et0 el0) (f_maxI et0 eu0) h19 n0 (own_z0 O35) O35 S_CS) pd__II_I_5 (bb d11_178) 0 rfl (fun T34 L34 v34 X34 hQ34 => ?_)
      obtain ⟨rfl, N34q, e34⟩ := hQ34
      have N34 := Fr.app N27 N34q
      refine g_istore X34 hx (bb d11_181) (l' := #[vR a1, vI 0, vI 2, vR at_, vI 0, vI eb0, vJ ((et0.toInt64) - (eb0.toInt64)), .second, vI (f_base (f_minI et0 el0) (f_maxI et0 eu0)), .unset, .unset]) rfl ?_
      refine g_aloadN X34 hx (bb d11_183) rfl rfl ?_
      have F37 := ((r4.other W11 (Or.inl ne_a1_ol)).other W19 (Or.inl ne_a1_oh))
      refine gF X34 hx hZ hown (ww 20 rfl) e34 F37 (bb d11_184) (fun T36 X36 e36 => ?_)
      refine g_iloadN X36 hx (bb d11_187) rfl ?_
      have F38 := ((r10.other W11 ne_on_ol).other W19 ne_on_oh)
      refine gLr rfl X36 hx hZ e36 F38 (v := (.ref ov)) ⟨by decide, by decide⟩ rfl (bb d11_188) ?_
      refine g_astore X36 hx (bb d11_189) rfl (l' := #[vR a1, vI 0, vI 2, vR at_, vI 0, vI eb0, vJ ((et0.toInt64) - (eb0.toInt64)), .second, vI (f_base (f_minI et0 el0) (f_maxI et0 eu0)), vR ov, .unset]) rfl ?_
      refine g_iload X36 hx (bb d11_191) rfl ?_
      refine g_istore X36 hx (bb d11_193) (l' := #[vR a1, vI 0, vI 2, vR at_, vI 0, vI eb0, vJ ((et0.toInt64) - (eb0.toInt64)), .second, vI (f_base (f_minI et0 el0) (f_maxI et0 eu0)), vR ov, vI 0]) rfl ?_
      refine g_iload X36 hx (bb d11_195) rfl ?_
      refine g_iloadN X36 hx (bb d11_197) rfl ?_
      refine g_aloadN X36 hx (bb d11_198) rfl rfl ?_
      refine gF X36 hx hZ hown (ww 22 rfl) e36 F23 (bb d11_199) (fun T39 X39 e39 => ?_)
      refine g_imul X39 hx (bb d11_202) ?_
      refine g_icmpNo X39 hx (bb d11_203) (tlt (by decide : (0 : Int32) < (2 : Int32))).2.1 ?_
      refine g_aload X39 hx (bb d11_206) rfl rfl ?_
      refine g_iload X39 hx (bb d11_208) rfl ?_
      refine g_dup2 X39 hx (bb d11_210) rfl rfl ?_
      have F40 := ((r15.other W11 (Ne.symm ne_ol_ov)).other W19 (Ne.symm ne_oh_ov))
      refine gLc X39 hx hZ e39 F40 (v := (.int (nar .char (ev0_0 - eb0)))) ⟨by decide, by decide⟩ rfl (bb d11_211) ?_
      refine g_iload X39 hx (bb d11_212) rfl ?_
      refine g_iload X39 hx (bb d11_214) rfl ?_
      refine g_isub X39 hx (bb d11_216) ?_
      refine g_i2c X39 hx (bb d11_217) ?_
      refine g_iadd X39 hx (bb d11_218) ?_
      refine g_i2c X39 hx (bb d11_219) ?_
      refine gSc X39 hx hZ e39 F40 ⟨by decide, by decide⟩ 0 rfl (Nat.le_of_ble_eq_true rfl) N34 g_ov (bb d11_220) (fun T41 h41 X41 e41 W41 V41 N41 => ?_)
      refine g_iload X41 hx (bb d11_221) rfl ?_
      refine g_aloadN X41 hx (bb d11_223) rfl rfl ?_
      have F43 := (F23.other W41 (Or.inl ne_a1_ov))
      refine gF X41 hx hZ hown (ww 22 rfl) e41 F43 (bb d11_224) (fun T42 X42 e42 => ?_)
      refine g_iadd X42 hx (bb d11_227) ?_
      refine g_istore X42 hx (bb d11_228) (l' := #[vR a1, vI 0, vI 2, vR at_, vI 0, vI eb0, vJ ((et0.toInt64) - (eb0.toInt64)), .second, vI (f_base (f_minI et0 el0) (f_maxI et0 eu0)), vR ov, vI 1]) rfl ?_
      refine g_goto X42 hx (pc' := 195) (bb d11_230) (by decide) (by decide) ?_
      refine g_iload X42 hx (bb d11_195) rfl ?_
      refine g_iloadN X42 hx (bb d11_197) rfl ?_
      refine g_aloadN X42 hx (bb d11_198) rfl rfl ?_
      refine gF X42 hx hZ hown (ww 22 rfl) e42 F43 (bb d11_199) (fun T44 X44 e44 => ?_)
      refine g_imul X44 hx (bb d11_202) ?_
      refine g_icmpNo X44 hx (bb d11_203) (tlt (by decide : (1 : Int32) < (2 : Int32))).2.1 ?_
      refine g_aload X44 hx (bb d11_206) rfl rfl ?_
      refine g_iload X44 hx (bb d11_208) rfl ?_
      refine g_dup2 X44 hx (bb d11_210) rfl rfl ?_
      refine gLc X44 hx hZ e44 V41 (v := (.int (nar .char (ev1_0 - eb0)))) ⟨by decide, by decide⟩ rfl (bb d11_211) ?_
      refine g_iload X44 hx (bb d11_212) rfl ?_
      refine g_iload X44 hx (bb d11_214) rfl ?_
      refine g_isub X44 hx (bb d11_216) ?_
      refine g_i2c X44 hx (bb d11_217) ?_
      refine g_iadd X44 hx (bb d11_218) ?_
      refine g_i2c X44 hx (bb d11_219) ?_
      refine gSc X44 hx hZ e44 V41 ⟨by decide, by decide⟩ 1 rfl (Nat.le_of_ble_eq_true rfl) N41 g_ov (bb d11_220) (fun T45 h45 X45 e45 W45 V45 N45 => ?_)
      refine g_iload X45 hx (bb d11_221) rfl ?_
      refine g_aloadN X45 hx (bb d11_223) rfl rfl ?_
      have F47 := (F43.other W45 (Or.inl ne_a1_ov))
      refine gF X45 hx hZ hown (ww 22 rfl) e45 F47 (bb d11_224) (fun T46 X46 e46 => ?_)
      refine g_iadd X46 hx (bb d11_227) ?_
      refine g_istore X46 hx (bb d11_228) (l' := #[vR a1, vI 0, vI 2, vR at_, vI 0, vI eb0, vJ ((et0.toInt64) - (eb0.toInt64)), .second, vI (f_base (f_minI et0 el0) (f_maxI et0 eu0)), vR ov, vI 2]) rfl ?_
      refine g_goto X46 hx (pc' := 195) (bb d11_230) (by decide) (by decide) ?_
      refine g_iload X46 hx (bb d11_195) rfl ?_
      refine g_iloadN X46 hx (bb d11_197) rfl ?_
      refine g_aloadN X46 hx (bb d11_198) rfl rfl ?_
      refine gF X46 hx hZ hown (ww 22 rfl) e46 F47 (bb d11_199) (fun T48 X48 e48 => ?_)
      refine g_imul X48 hx (bb d11_202) ?_
      refine g_icmpYes X48 hx (pc' := 233) (bb d11_203) (flt (by decide : ¬ ((2 : Int32) < (2 : Int32)))).2.1 (by decide) (by decide) ?_
      refine g_aloadN X48 hx (bb d11_233) rfl rfl ?_
      have F50 := ((F21.other W41 (Or.inl ne_a1_ov)).other W45 (Or.inl ne_a1_ov))
      refine gF X48 hx hZ hown (ww 24 rfl) e48 F50 (bb d11_234) (fun T49 X49 e49 => ?_)
      refine g_iloadN X49 hx (bb d11_237) rfl ?_
      refine g_aloadN X49 hx (bb d11_238) rfl rfl ?_
      refine gF X49 hx hZ hown (ww 22 rfl) e49 F47 (bb d11_239) (fun T51 X51 e51 => ?_)
      refine g_imul X51 hx (bb d11_242) ?_
      refine g_iload X51 hx (bb d11_243) rfl ?_
      refine g_iadd X51 hx (bb d11_245) ?_
      refine g_iload X51 hx (bb d11_246) rfl ?_
      have F52 := ((F24.other W41 ne_ob_ov).other W45 ne_ob_ov)
      refine gSi X51 hx hZ e51 F52 ⟨by decide, by decide⟩ 0 rfl (Nat.le_of_ble_eq_true rfl) N45 g_ob (bb d11_248) (fun T53 h53 X53 e53 W53 V53 N53 => ?_)
      have F54 := (V45.other W53 (Ne.symm ne_ob_ov))
      exact hm26 _ _ _ (vI (f_base (f_minI et0 el0) (f_maxI et0 eu0))) (vR ov) (vI 2) X53 e53 N53 ((((Keep.refl h19 [ob, ov]).wr W41 (Or.inl (List.mem_of_getElem? (i := 1) rfl))).wr W45 (Or.inl (List.mem_of_getElem? (i := 1) rfl))).wr W53 (Or.inl (List.mem_of_getElem? (i := 0) rfl))) (by simp only [nbase, if_pos g26]; exact V53) (by simp only [nbase, if_pos g26]; have q := F54; simp only [own_ch] at q; exact q) (One.val rfl) (One.val rfl) (One.val rfl)
    · skip
      refine g_lload X22 hx (bb d11_148) rfl ?_
      refine g_lconst X22 hx (bb d11_150) ?_
      refine g_lcmp X22 hx (bb d11_151) ?_
      refine g_ifNo X22 hx (bb d11_152) ((if0 _ _).trans (flt (fun q => g26 (Or.inl q))).1) ?_
      refine g_lload X22 hx (bb d11_155) rfl ?_
      refine gJ X22 hx hZ hown (ww 78 rfl) (bb d11_157) ?_
      refine g_lcmp X22 hx (bb d11_160) ?_
      refine g_ifYes X22 hx (pc' := 249) (bb d11_161) ((if0 _ _).trans (tlt (Decidable.of_not_not fun q => g26 (Or.inr q))).1) (by decide) (by decide) ?_
      have F55 := ((r15.other W11 (Ne.symm ne_ol_ov)).other W19 (Ne.symm ne_oh_ov))
      exact hm26 _ _ _ (.unset) (.unset) (.unset) X22 e22 N19 (Keep.refl h19 [ob, ov]) (by simp only [nbase, if_neg g26]; exact F24) (by simp only [nbase, if_neg g26]; have q := F55; exact q) One.u One.u One.u
  intro T26 L26 h26 s8_26 s9_26 s10_26 X26 e26 N26 K26 f26_0 f26_1 o_s8_26 o_s9_26 o_s10_26
  refine g_iinc X26 hx (bb d11_249) rfl (l' := #[vR a1, vI 0, vI 2, vR at_, vI 1, vI eb0, vJ ((et0.toInt64) - (eb0.toInt64)), .second, s8_26, s9_26, s10_26]) rfl ?_
  refine g_goto X26 hx (pc' := 70) (bb d11_252) (by decide) (by decide) ?_
  refine g_iload X26 hx (bb d11_70) rfl ?_
  refine g_aloadN X26 hx (bb d11_72) rfl rfl ?_
  have F57 := (F23.keep K26 (ninS ne_a1_ob (ninS ne_a1_ov nin0)))
  refine gF X26 hx hZ hown (ww 22 rfl) e26 F57 (bb d11_73) (fun T56 X56 e56 => ?_)
  refine g_icmpYes X56 hx (pc' := 255) (bb d11_76) (flt (by decide : ¬ ((1 : Int32) < (1 : Int32)))).2.1 (by decide) (by decide) ?_
  have F58 := ((V11.other W19 ne_ol_oh).keep K26 (ninS (Ne.symm ne_ob_ol) (ninS ne_ol_ov nin0)))
  have F59 := (V19.keep K26 (ninS (Ne.symm ne_ob_oh) (ninS ne_oh_ov nin0)))
  obtain ⟨fs, hr, hrun, hended, hW, hsame⟩ := X56.leave (v := none) (fun _ => rfl)
  subst hR0
  refine ⟨_, _, ?_, hrun, hended, _, _, rfl, ?_, ⟨_, rfl⟩, hW, hsame.mono (by decide) (by decide)⟩
  · exact X56.returnOut hx hret (bb d11_255) hr
  · show Q_fit1_2 Z a1 at_ ow on ob ol oh ov kw_ kn_ kb_ kl_ kh_ kv_ eb0 el0 eu0 ev0_0 ev1_0 ex2 ex3 ex4 ex5 ex6 ex7 kt_ et0 h0 n0 _ T56.heap _
    rw [e56]
    exact ⟨rfl, N26, ((((Keep.refl h0 [ob, ol, oh, ov]).wr W11 (Or.inl (List.mem_of_getElem? (i := 1) rfl))).wr W19 (Or.inl (List.mem_of_getElem? (i := 2) rfl))).trans K26 (allS (Or.inl (List.mem_of_getElem? (i := 0) rfl)) (allS (Or.inl (List.mem_of_getElem? (i := 3) rfl)) all0))), F58, F59, f26_0, f26_1⟩
set_option maxRecDepth 65536 in
set_option maxHeartbeats 40000000 in
theorem rm_get1N (l : Launch) (Z : State) (a0 : Array Value) (ww : WW a0 Z) (ws : List Jvm.Cond) (a1 : Addr) (p2 p3 : Int32) (on ob ov : Addr) (cn cb cv : Cell) (eb ev : Int32) (h0 : Heap) (n0 : Nat) (Z0 : n0 ≤ h0.size) (O0 : Old Z n0 h0) (S_CS : Sta Z Z.heap cRV "CHUNK_SHIFT" "I" (.int (12 : Int32))) (r0 : Fld Z h0 a1 cRV "arity" "I" (.int 1)) (r1 : Fld Z h0 a1 cRV "narrow" "[[C" (.ref on)) (r2 : Fld Z h0 a1 cRV "bases" "[I" (.ref ob)) (A_on : Arr Z h0 on cn (.array .char)) (i_on : ¬ (((p2.toUInt32 >>> ((12 : Int32) &&& 31).toUInt32).toInt32) < 0 ∨ cn.slots.size ≤ (((p2.toUInt32 >>> ((12 : Int32) &&& 31).toUInt32).toInt32)).toNatClampNeg)) (t_on : cn.slots[(((p2.toUInt32 >>> ((12 : Int32) &&& 31).toUInt32).toInt32)).toNatClampNeg]? = some (.ref ov)) (A_ob : Arr Z h0 ob cb .int) (i_ob : ¬ (((((p2.toUInt32 >>> ((12 : Int32) &&& 31).toUInt32).toInt32) * (1 : Int32)) + p3) < 0 ∨ cb.slots.size ≤ (((((p2.toUInt32 >>> ((12 : Int32) &&& 31).toUInt32).toInt32) * (1 : Int32)) + p3)).toNatClampNeg)) (t_ob : cb.slots[(((((p2.toUInt32 >>> ((12 : Int32) &&& 31).toUInt32).toInt32) * (1 : Int32)) + p3)).toNatClampNeg]? = some (.int eb)) (A_ov : Arr Z h0 ov cv .char) (i_ov : ¬ ((((p2 &&& (4095 : Int32)) * (1 : Int32)) + p3) < 0 ∨ cv.slots.size ≤ ((((p2 &&& (4095 : Int32)) * (1 : Int32)) + p3)).toNatClampNeg)) (t_ov : cv.slots[((((p2 &&& (4095 : Int32)) * (1 : Int32)) + p3)).toNatClampNeg]? = some (.int (nar .char (ev - eb)))) (hIn : ownIn eb ev) :
    MF l Z (⟨cRV, "get", "(II)I"⟩ : MethodName) prog_47_method_3_code 6 (some .int) ws ({ frames := 0, cells := 0, slots := 0, locals := 0 } : Room) #[(.ref a1), (.int p2), (.int p3)] h0 (PureQ (some (.int ev)) h0 n0) := by
  refine gopen (plainFor_of_name pn_RowValues) (fun m => ef_get1N m a1 p2 p3) (fun p e s m below meth c s₁ hlk hret hx bb hml hown hnm hZ X0 e0 R0 hR0 => ?_)
  have N0 := Fr.nil n0
  refine g_iloadN X0 hx (bb d13_0) rfl ?_
  refine gS X0 hx hZ hown (ww 44 rfl) e0 (S_CS.ext O0.2) (bb d13_1) (fun T1 X1 e1 => ?_)
  refine g_iushr X1 hx (bb d13_4) ?_
  refine g_istoreN X1 hx (bb d13_5) (l' := #[vR a1, vI p2, vI p3, vI ((p2.toUInt32 >>> ((12 : Int32) &&& 31).toUInt32).toInt32), .unset, .unset]) rfl ?_
  refine g_iloadN X1 hx (bb d13_6) rfl ?_
  refine g_sipush X1 hx (bb d13_7) ?_
  refine g_iand X1 hx (bb d13_10) ?_
  refine g_aloadN X1 hx (bb d13_11) rfl rfl ?_
  refine gF X1 hx hZ hown (ww 22 rfl) e1 r0 (bb d13_12) (fun T2 X2 e2 => ?_)
  refine g_imul X2 hx (bb d13_15) ?_
  refine g_iloadN X2 hx (bb d13_16) rfl ?_
  refine g_iadd X2 hx (bb d13_17) ?_
  refine g_istore X2 hx (bb d13_18) (l' := #[vR a1, vI p2, vI p3, vI ((p2.toUInt32 >>> ((12 : Int32) &&& 31).toUInt32).toInt32), vI (((p2 &&& (4095 : Int32)) * (1 : Int32)) + p3), .unset]) rfl ?_
  refine g_aloadN X2 hx (bb d13_20) rfl rfl ?_
  refine gF X2 hx hZ hown (ww 20 rfl) e2 r1 (bb d13_21) (fun T3 X3 e3 => ?_)
  refine g_iloadN X3 hx (bb d13_24) rfl ?_
  refine gl (fun t => X3.aaload hx (j := ((p2.toUInt32 >>> ((12 : Int32) &&& 31).toUInt32).toInt32)) (v := (.ref ov)) (by rw [e3]; exact A_on.1) (State.isArrayOf_alike hZ.alike A_on.2.1) rfl A_on.2.2 i_on t_on (g := (mkF m 25 #[vR a1, vI p2, vI p3, vI ((p2.toUInt32 >>> ((12 : Int32) &&& 31).toUInt32).toInt32), vI (((p2 &&& (4095 : Int32)) * (1 : Int32)) + p3), .unset] [(.int ((p2.toUInt32 >>> ((12 : Int32) &&& 31).toUInt32).toInt32)), (.ref on)])) rfl rfl (bb d13_25) t) ?_
  refine g_astore X3 hx (bb d13_26) rfl (l' := #[vR a1, vI p2, vI p3, vI ((p2.toUInt32 >>> ((12 : Int32) &&& 31).toUInt32).toInt32), vI (((p2 &&& (4095 : Int32)) * (1 : Int32)) + p3), vR ov]) rfl ?_
  refine g_aload X3 hx (bb d13_28) rfl rfl ?_
  refine g_ifnullNo X3 hx (bb d13_30) ?_
  refine g_aloadN X3 hx (bb d13_33) rfl rfl ?_
  refine gF X3 hx hZ hown (ww 24 rfl) e3 r2 (bb d13_34) (fun T4 X4 e4 => ?_)
  refine g_iloadN X4 hx (bb d13_37) rfl ?_
  refine g_aloadN X4 hx (bb d13_38) rfl rfl ?_
  refine gF X4 hx hZ hown (ww 22 rfl) e4 r0 (bb d13_39) (fun T5 X5 e5 => ?_)
  refine g_imul X5 hx (bb d13_42) ?_
  refine g_iloadN X5 hx (bb d13_43) rfl ?_
  refine g_iadd X5 hx (bb d13_44) ?_
  refine gl (fun t => X5.iaload hx (j := ((((p2.toUInt32 >>> ((12 : Int32) &&& 31).toUInt32).toInt32) * (1 : Int32)) + p3)) (v := (.int eb)) (by rw [e5]; exact A_ob.1) (State.isArrayOf_alike hZ.alike A_ob.2.1) A_ob.2.2 i_ob t_ob (g := (mkF m 45 #[vR a1, vI p2, vI p3, vI ((p2.toUInt32 >>> ((12 : Int32) &&& 31).toUInt32).toInt32), vI (((p2 &&& (4095 : Int32)) * (1 : Int32)) + p3), vR ov] [(.int ((((p2.toUInt32 >>> ((12 : Int32) &&& 31).toUInt32).toInt32) * (1 : Int32)) + p3)), (.ref ob)])) rfl rfl (bb d13_45) t) ?_
  refine g_aload X5 hx (bb d13_46) rfl rfl ?_
  refine g_iload X5 hx (bb d13_48) rfl ?_
  refine gl (fun t => X5.caload hx (j := (((p2 &&& (4095 : Int32)) * (1 : Int32)) + p3)) (v := (.int (nar .char (ev - eb)))) (by rw [e5]; exact A_ov.1) (State.isArrayOf_alike hZ.alike A_ov.2.1) A_ov.2.2 i_ov t_ov (g := (mkF m 50 #[vR a1, vI p2, vI p3, vI ((p2.toUInt32 >>> ((12 : Int32) &&& 31).toUInt32).toInt32), vI (((p2 &&& (4095 : Int32)) * (1 : Int32)) + p3), vR ov] [(.int (((p2 &&& (4095 : Int32)) * (1 : Int32)) + p3)), (.ref ov), (.int eb)])) rfl rfl (bb d13_50) t) ?_
  refine g_iadd X5 hx (bb d13_51) ?_
  refine g_goto X5 hx (pc' := 64) (bb d13_52) (by decide) (by decide) ?_
  obtain ⟨fs, hr, hrun, hended, hW, hsame⟩ := X5.leave (v := some (.int (eb + (nar .char (ev - eb))))) (fun h => by rw [hret] at h; cases h)
  subst hR0
  refine ⟨_, _, ?_, hrun, hended, _, _, rfl, ?_, ⟨_, rfl⟩, hW, hsame.mono (by decide) (by decide)⟩
  · exact retI X5 hx hret (bb d13_64) hr
  · exact ⟨congrArg (fun z => some (Value.int z)) (own_get hIn), N0, e5⟩
set_option maxRecDepth 65536 in
set_option maxHeartbeats 40000000 in
theorem rm_get1W (l : Launch) (Z : State) (a0 : Array Value) (ww : WW a0 Z) (ws : List Jvm.Cond) (a1 : Addr) (p2 p3 : Int32) (on ow oz : Addr) (cn cb cv : Cell) (ev : Int32) (h0 : Heap) (n0 : Nat) (Z0 : n0 ≤ h0.size) (O0 : Old Z n0 h0) (S_CS : Sta Z Z.heap cRV "CHUNK_SHIFT" "I" (.int (12 : Int32))) (r0 : Fld Z h0 a1 cRV "arity" "I" (.int 1)) (r1 : Fld Z h0 a1 cRV "narrow" "[[C" (.ref on)) (r2 : Fld Z h0 a1 cRV "wide" "[[I" (.ref ow)) (A_on : Arr Z h0 on cn (.array .char)) (i_on : ¬ (((p2.toUInt32 >>> ((12 : Int32) &&& 31).toUInt32).toInt32) < 0 ∨ cn.slots.size ≤ (((p2.toUInt32 >>> ((12 : Int32) &&& 31).toUInt32).toInt32)).toNatClampNeg)) (t_on : cn.slots[(((p2.toUInt32 >>> ((12 : Int32) &&& 31).toUInt32).toInt32)).toNatClampNeg]? = some .null) (A_ow : Arr Z h0 ow cb (.array .int)) (i_ow : ¬ (((p2.toUInt32 >>> ((12 : Int32) &&& 31).toUInt32).toInt32) < 0 ∨ cb.slots.size ≤ (((p2.toUInt32 >>> ((12 : Int32) &&& 31).toUInt32).toInt32)).toNatClampNeg)) (t_ow : cb.slots[(((p2.toUInt32 >>> ((12 : Int32) &&& 31).toUInt32).toInt32)).toNatClampNeg]? = some (.ref oz)) (A_oz : Arr Z h0 oz cv .int) (i_oz : ¬ ((((p2 &&& (4095 : Int32)) * (1 : Int32)) + p3) < 0 ∨ cv.slots.size ≤ ((((p2 &&& (4095 : Int32)) * (1 : Int32)) + p3)).toNatClampNeg)) (t_oz : cv.slots[((((p2 &&& (4095 : Int32)) * (1 : Int32)) + p3)).toNatClampNeg]? = some (.int ev)) :
    MF l Z (⟨cRV, "get", "(II)I"⟩ : MethodName) prog_47_method_3_code 6 (some .int) ws ({ frames := 0, cells := 0, slots := 0, locals := 0 } : Room) #[(.ref a1), (.int p2), (.int p3)] h0 (PureQ (some (.int ev)) h0 n0) := by
  refine gopen (plainFor_of_name pn_RowValues) (fun m => ef_get1W m a1 p2 p3) (fun p e s m below meth c s₁ hlk hret hx bb hml hown hnm hZ X0 e0 R0 hR0 => ?_)
  have N0 := Fr.nil n0
  refine g_iloadN X0 hx (bb d13_0) rfl ?_
  refine gS X0 hx hZ hown (ww 44 rfl) e0 (S_CS.ext O0.2) (bb d13_1) (fun T1 X1 e1 => ?_)
  refine g_iushr X1 hx (bb d13_4) ?_
  refine g_istoreN X1 hx (bb d13_5) (l' := #[vR a1, vI p2, vI p3, vI ((p2.toUInt32 >>> ((12 : Int32) &&& 31).toUInt32).toInt32), .unset, .unset]) rfl ?_
  refine g_iloadN X1 hx (bb d13_6) rfl ?_
  refine g_sipush X1 hx (bb d13_7) ?_
  refine g_iand X1 hx (bb d13_10) ?_
  refine g_aloadN X1 hx (bb d13_11) rfl rfl ?_
  refine gF X1 hx hZ hown (ww 22 rfl) e1 r0 (bb d13_12) (fun T2 X2 e2 => ?_)
  refine g_imul X2 hx (bb d13_15) ?_
  refine g_iloadN X2 hx (bb d13_16) rfl ?_
  refine g_iadd X2 hx (bb d13_17) ?_
  refine g_istore X2 hx (bb d13_18) (l' := #[vR a1, vI p2, vI p3, vI ((p2.toUInt32 >>> ((12 : Int32) &&& 31).toUInt32).toInt32), vI (((p2 &&& (4095 : Int32)) * (1 : Int32)) + p3), .unset]) rfl ?_
  refine g_aloadN X2 hx (bb d13_20) rfl rfl ?_
  refine gF X2 hx hZ hown (ww 20 rfl) e2 r1 (bb d13_21) (fun T3 X3 e3 => ?_)
  refine g_iloadN X3 hx (bb d13_24) rfl ?_
  refine gl (fun t => X3.aaload hx (j := ((p2.toUInt32 >>> ((12 : Int32) &&& 31).toUInt32).toInt32)) (v := .null) (by rw [e3]; exact A_on.1) (State.isArrayOf_alike hZ.alike A_on.2.1) rfl A_on.2.2 i_on t_on (g := (mkF m 25 #[vR a1, vI p2, vI p3, vI ((p2.toUInt32 >>> ((12 : Int32) &&& 31).toUInt32).toInt32), vI (((p2 &&& (4095 : Int32)) * (1 : Int32)) + p3), .unset] [(.int ((p2.toUInt32 >>> ((12 : Int32) &&& 31).toUInt32).toInt32)), (.ref on)])) rfl rfl (bb d13_25) t) ?_
  refine g_astore X3 hx (bb d13_26) rfl (l' := #[vR a1, vI p2, vI p3, vI ((p2.toUInt32 >>> ((12 : Int32) &&& 31).toUInt32).toInt32), vI (((p2 &&& (4095 : Int32)) * (1 : Int32)) + p3), .val .null]) rfl ?_
  refine g_aload X3 hx (bb d13_28) rfl rfl ?_
  refine g_ifnullYes X3 hx (pc' := 55) (bb d13_30) (by decide) (by decide) ?_
  refine g_aloadN X3 hx (bb d13_55) rfl rfl ?_
  refine gF X3 hx hZ hown (ww 16 rfl) e3 r2 (bb d13_56) (fun T4 X4 e4 => ?_)
  refine g_iloadN X4 hx (bb d13_59) rfl ?_
  refine gl (fun t => X4.aaload hx (j := ((p2.toUInt32 >>> ((12 : Int32) &&& 31).toUInt32).toInt32)) (v := (.ref oz)) (by rw [e4]; exact A_ow.1) (State.isArrayOf_alike hZ.alike A_ow.2.1) rfl A_ow.2.2 i_ow t_ow (g := (mkF m 60 #[vR a1, vI p2, vI p3, vI ((p2.toUInt32 >>> ((12 : Int32) &&& 31).toUInt32).toInt32), vI (((p2 &&& (4095 : Int32)) * (1 : Int32)) + p3), .val .null] [(.int ((p2.toUInt32 >>> ((12 : Int32) &&& 31).toUInt32).toInt32)), (.ref ow)])) rfl rfl (bb d13_60) t) ?_
  refine g_iload X4 hx (bb d13_61) rfl ?_
  refine gl (fun t => X4.iaload hx (j := (((p2 &&& (4095 : Int32)) * (1 : Int32)) + p3)) (v := (.int ev)) (by rw [e4]; exact A_oz.1) (State.isArrayOf_alike hZ.alike A_oz.2.1) A_oz.2.2 i_oz t_oz (g := (mkF m 63 #[vR a1, vI p2, vI p3, vI ((p2.toUInt32 >>> ((12 : Int32) &&& 31).toUInt32).toInt32), vI (((p2 &&& (4095 : Int32)) * (1 : Int32)) + p3), .val .null] [(.int (((p2 &&& (4095 : Int32)) * (1 : Int32)) + p3)), (.ref oz)])) rfl rfl (bb d13_63) t) ?_
  obtain ⟨fs, hr, hrun, hended, hW, hsame⟩ := X4.leave (v := some (.int ev)) (fun h => by rw [hret] at h; cases h)
  subst hR0
  refine ⟨_, _, ?_, hrun, hended, _, _, rfl, ?_, ⟨_, rfl⟩, hW, hsame.mono (by decide) (by decide)⟩
  · exact retI X4 hx hret (bb d13_64) hr
  · exact ⟨rfl, N0, e4⟩
def Q_widen1_1 (Z : State) (a1 ow on ob ol oh ov : Addr) (kw_ kn_ kb_ kl_ kh_ kv_ : ClassId) (eb0 el0 eu0 ev0_0 ex1 ex2 ex3 ex4 ex5 ex6 ex7 : Int32) (h0 : Heap) (n0 : Nat) (v : Option Value) (h : Heap) (L : List Loc) : Prop := ∃ (oz : Addr) (kz_ : ClassId), v = none ∧ Fr n0 L ∧ Keep h0 h [ow, on] ∧ h0.size ≤ oz ∧ Arv Z h ow kw_ (.array .int) (1 : Int32) [(.ref oz)] .null ∧ Arv Z h on kn_ (.array .char) (1 : Int32) [.null] .null ∧ Arv Z h oz kz_ .int (8 : Int32) [(.int ev0_0), (.int 0), (.int 0), (.int 0), (.int 0), (.int 0), (.int 0), (.int 0)] (.int 0)
set_option maxRecDepth 65536 in
set_option maxHeartbeats 40000000 in
theorem rm_widen1_1 (l : Launch) (Z : State) (a0 : Array Value) (ww : WW a0 Z) (ws : List Jvm.Cond) (a1 ow on ob ol oh ov : Addr) (kw_ kn_ kb_ kl_ kh_ kv_ : ClassId) (eb0 el0 eu0 ev0_0 ex1 ex2 ex3 ex4 ex5 ex6 ex7 : Int32) (h0 : Heap) (n0 : Nat) (Z0 : n0 ≤ h0.size) (O0 : Old Z n0 h0) (S_CS : Sta Z Z.heap cRV "CHUNK_SHIFT" "I" (.int (12 : Int32))) (r0 : Exa Z h0 a1 cRV) (r1 : Fld Z h0 a1 cRV "arity" "I" (.int 1)) (r2 : Fld Z h0 a1 cRV "rows" "I" (.int 1)) (r3 : Fld Z h0 a1 cRV "wide" "[[I" (.ref ow)) (r4 : Fld Z h0 a1 cRV "narrow" "[[C" (.ref on)) (r5 : Fld Z h0 a1 cRV "bases" "[I" (.ref ob)) (r6 : Fld Z h0 a1 cRV "lowest" "[I" (.ref ol)) (r7 : Fld Z h0 a1 cRV "highest" "[I" (.ref oh)) (r8 : Arv Z h0 ow kw_ (.array .int) (1 : Int32) [.null] .null) (r9 : OvrA Z kw_ .int "[I") (r10 : Arv Z h0 on kn_ (.array .char) (1 : Int32) [(.ref ov)] .null) (r11 : OvrA Z kn_ .char "[C") (r12 : Arv Z h0 ob kb_ .int (1 : Int32) [(.int eb0)] (.int 0)) (r13 : Arv Z h0 ol kl_ .int (1 : Int32) [(.int el0)] (.int 0)) (r14 : Arv Z h0 oh kh_ .int (1 : Int32) [(.int eu0)] (.int 0)) (r15 : Arv Z h0 ov kv_ .char (8 : Int32) [(.int (nar .char (ev0_0 - eb0))), (.int ex1), (.int ex2), (.int ex3), (.int ex4), (.int ex5), (.int ex6), (.int ex7)] (.int 0)) (g_ow : n0 ≤ ow) (g_on : n0 ≤ on) (ne_a1_ow : a1 ≠ ow) (ne_a1_on : a1 ≠ on) (ne_a1_ob : a1 ≠ ob) (ne_a1_ol : a1 ≠ ol) (ne_a1_oh : a1 ≠ oh) (ne_a1_ov : a1 ≠ ov) (ne_ow_on : ow ≠ on) (ne_ow_ob : ow ≠ ob) (ne_ow_ol : ow ≠ ol) (ne_ow_oh : ow ≠ oh) (ne_ow_ov : ow ≠ ov) (ne_on_ob : on ≠ ob) (ne_on_ol : on ≠ ol) (ne_on_oh : on ≠ oh) (ne_on_ov : on ≠ ov) (ne_ob_ol : ob ≠ ol) (ne_ob_oh : ob ≠ oh) (ne_ob_ov : ob ≠ ov) (ne_ol_oh : ol ≠ oh) (ne_ol_ov : ol ≠ ov) (ne_oh_ov : oh ≠ ov) (hIn0_0 : ownIn eb0 ev0_0) :
    MF l Z (⟨cRV, "widen", "(II)V"⟩ : MethodName) prog_47_method_9_code 6 none ws ({ frames := 1, cells := 1, slots := 8, locals := 19 } : Room) #[(.ref a1), (.int 0), (.int 1)] h0 (Q_widen1_1 Z a1 ow on ob ol oh ov kw_ kn_ kb_ kl_ kh_ kv_ eb0 el0 eu0 ev0_0 ex1 ex2 ex3 ex4 ex5 ex6 ex7 h0 n0) := by
  refine gopen (plainFor_of_name pn_RowValues) (fun m => ef_widen1_1 m a1) (fun p e s m below meth c s₁ hlk hret hx bb hml hown hnm hZ X0 e0 R0 hR0 => ?_)
  have N0 := Fr.nil n0
  refine g_aloadN X0 hx (bb d14_0) rfl rfl ?_
  refine gF X0 hx hZ hown (ww 20 rfl) e0 r4 (bb d14_1) (fun T1 X1 e1 => ?_)
  refine g_iloadN X1 hx (bb d14_4) rfl ?_
  refine gLr rfl X1 hx hZ e1 r10 (v := (.ref ov)) ⟨by decide, by decide⟩ rfl (bb d14_5) ?_
  refine gA X1 hx hZ e1 r15 (bb d14_6) ?_
  obtain ⟨T2, h2, k2, X2, e2, E2, A2, B2, st2⟩ := newPE (aty := .int) X1 hx hZ (ww 4 rfl) e1 (g := (mkF m 7 #[vR a1, vI 0, vI 1, .unset, .unset, .unset] [(.int 8)])) rfl (bb d14_7) rfl (by decide) (cap := 8) (by decide) (by decide) (by decide) (by decide) (ad := "[I") (by decide)
  obtain ⟨b2, q_b2⟩ : ∃ z, z = (h0).size := ⟨_, rfl⟩
  rw [← q_b2] at A2 B2 st2
  have g_b2 : n0 ≤ b2 := Nat.le_trans (own_z0 O0) (Nat.le_of_eq q_b2.symm)
  have sz_b2 : h0.size ≤ b2 := Nat.le_trans (Nat.le_refl _) (Nat.le_of_eq q_b2.symm)
  have ne_a1_b2 : a1 ≠ b2 := Nat.ne_of_lt (Nat.lt_of_lt_of_le r0.lt (Nat.le_of_eq q_b2.symm))
  have ne_ow_b2 : ow ≠ b2 := Nat.ne_of_lt (Nat.lt_of_lt_of_le r8.lt (Nat.le_of_eq q_b2.symm))
  have ne_on_b2 : on ≠ b2 := Nat.ne_of_lt (Nat.lt_of_lt_of_le r10.lt (Nat.le_of_eq q_b2.symm))
  have ne_ob_b2 : ob ≠ b2 := Nat.ne_of_lt (Nat.lt_of_lt_of_le r12.lt (Nat.le_of_eq q_b2.symm))
  have ne_ol_b2 : ol ≠ b2 := Nat.ne_of_lt (Nat.lt_of_lt_of_le r13.lt (Nat.le_of_eq q_b2.symm))
  have ne_oh_b2 : oh ≠ b2 := Nat.ne_of_lt (Nat.lt_of_lt_of_le r14.lt (Nat.le_of_eq q_b2.symm))
  have ne_ov_b2 : ov ≠ b2 := Nat.ne_of_lt (Nat.lt_of_lt_of_le r15.lt (Nat.le_of_eq q_b2.symm))
  refine gl st2 ?_
  have V_b2 : Arv Z h2 b2 k2 .int (8 : Int32) [(.int 0), (.int 0), (.int 0), (.int 0), (.int 0), (.int 0), (.int 0), (.int 0)] (.int 0) := (Arv.new A2 (by decide)).pad (pad_rep [] (.int 0) 8)
  refine g_astoreN X2 hx (bb d14_9) rfl (l' := #[vR a1, vI 0, vI 1, vR b2, .unset, .unset]) rfl ?_
  refine g_iconst X2 hx (bb d14_10) ?_
  refine g_istore X2 hx (bb d14_11) (l' := #[vR a1, vI 0, vI 1, vR b2, vI 0, .unset]) rfl ?_
  refine g_iload X2 hx (bb d14_13) rfl ?_
  refine g_iloadN X2 hx (bb d14_15) rfl ?_
  refine g_icmpNo X2 hx (bb d14_16) (tlt (by decide : (0 : Int32) < (1 : Int32))).2.1 ?_
  refine g_iconst X2 hx (bb d14_19) ?_
  refine g_istore X2 hx (bb d14_20) (l' := #[vR a1, vI 0, vI 1, vR b2, vI 0, vI 0]) rfl ?_
  refine g_iload X2 hx (bb d14_22) rfl ?_
  refine g_aloadN X2 hx (bb d14_24) rfl rfl ?_
  have F4 := (r1.ext E2)
  refine gF X2 hx hZ hown (ww 22 rfl) e2 F4 (bb d14_25) (fun T3 X3 e3 => ?_)
  refine g_icmpNo X3 hx (bb d14_28) (tlt (by decide : (0 : Int32) < (1 : Int32))).2.1 ?_
  refine g_aloadN X3 hx (bb d14_31) rfl rfl ?_
  refine g_iload X3 hx (bb d14_32) rfl ?_
  refine g_aloadN X3 hx (bb d14_34) rfl rfl ?_
  refine gF X3 hx hZ hown (ww 22 rfl) e3 F4 (bb d14_35) (fun T5 X5 e5 => ?_)
  refine g_imul X5 hx (bb d14_38) ?_
  refine g_iload X5 hx (bb d14_39) rfl ?_
  refine g_iadd X5 hx (bb d14_41) ?_
  refine g_aloadN X5 hx (bb d14_42) rfl rfl ?_
  refine g_iloadN X5 hx (bb d14_43) rfl ?_
  refine g_sipush X5 hx (bb d14_44) ?_
  refine g_imul X5 hx (bb d14_47) ?_
  refine g_iload X5 hx (bb d14_48) rfl ?_
  refine g_iadd X5 hx (bb d14_50) ?_
  refine g_iload X5 hx (bb d14_51) rfl ?_
  have F6 := (r10.ext E2)
  obtain ⟨cl7, Ar7, vq7, vS7, vN7, vH7, vG7⟩ := id F6
  have F8 := (r12.ext E2)
  obtain ⟨cl9, Ar9, vq9, vS9, vN9, vH9, vG9⟩ := id F8
  have F10 := (r15.ext E2)
  obtain ⟨cl11, Ar11, vq11, vS11, vN11, vH11, vG11⟩ := id F10
  have F12 := (r4.ext E2)
  have F13 := (r5.ext E2)
  have O15 := (O0.ext E2)
  have F16 := (r0.ext E2)
  refine gcV X5 hx hZ hml hown (ww 88 rfl) (ww 7 rfl) (ww 83 rfl) (ww 80 rfl) (ww 82 rfl) (ww 81 rfl) e5 F16 (rm_get1N l Z a0 ww [] a1 (0 : Int32) (0 : Int32) on ob ov cl7 cl9 cl11 eb0 ev0_0 h2 n0 (own_z0 O15) O15 S_CS F4 F12 F13 Ar7 (inb_of vS7 ⟨by decide, by decide⟩) (vH7.at (inb_of vS7 ⟨by decide, by decide⟩) rfl) Ar9 (inb_of vS9 ⟨by decide, by decide⟩) (vH9.at (inb_of vS9 ⟨by decide, by decide⟩) rfl) Ar11 (inb_of vS11 ⟨by decide, by decide⟩) (vH11.at (inb_of vS11 ⟨by decide, by decide⟩) rfl) hIn0_0) pd__II_I_5 (bb d14_53) 2 rfl (fun T14 L14 v14 X14 hQ14 => ?_)
  obtain ⟨rfl, N14q, e14⟩ := hQ14
  have N14 := Fr.app N0 N14q
  refine gSi X14 hx hZ e14 V_b2 ⟨by decide, by decide⟩ 0 rfl (Nat.le_of_ble_eq_true rfl) N14 g_b2 (bb d14_56) (fun T17 h17 X17 e17 W17 V17 N17 => ?_)
  refine g_iinc X17 hx (bb d14_57) rfl (l' := #[vR a1, vI 0, vI 1, vR b2, vI 0, vI 1]) rfl ?_
  refine g_goto X17 hx (pc' := 22) (bb d14_60) (by decide) (by decide) ?_
  refine g_iload X17 hx (bb d14_22) rfl ?_
  refine g_aloadN X17 hx (bb d14_24) rfl rfl ?_
  have F19 := (F4.other W17 (Or.inl ne_a1_b2))
  refine gF X17 hx hZ hown (ww 22 rfl) e17 F19 (bb d14_25) (fun T18 X18 e18 => ?_)
  refine g_icmpYes X18 hx (pc' := 63) (bb d14_28) (flt (by decide : ¬ ((1 : Int32) < (1 : Int32)))).2.1 (by decide) (by decide) ?_
  refine g_iinc X18 hx (bb d14_63) rfl (l' := #[vR a1, vI 0, vI 1, vR b2, vI 1, vI 1]) rfl ?_
  refine g_goto X18 hx (pc' := 13) (bb d14_66) (by decide) (by decide) ?_
  refine g_iload X18 hx (bb d14_13) rfl ?_
  refine g_iloadN X18 hx (bb d14_15) rfl ?_
  refine g_icmpYes X18 hx (pc' := 69) (bb d14_16) (flt (by decide : ¬ ((1 : Int32) < (1 : Int32)))).2.1 (by decide) (by decide) ?_
  refine g_aloadN X18 hx (bb d14_69) rfl rfl ?_
  have F21 := ((r3.ext E2).other W17 (Or.inl ne_a1_b2))
  refine gF X18 hx hZ hown (ww 16 rfl) e18 F21 (bb d14_70) (fun T20 X20 e20 => ?_)
  refine g_iloadN X20 hx (bb d14_73) rfl ?_
  refine g_aloadN X20 hx (bb d14_74) rfl rfl ?_
  have F22 := ((r8.ext E2).other W17 ne_ow_b2)
  obtain ⟨cl23, Ar23, vq23, vS23, vN23, vH23, vG23⟩ := id F22
  have hin23 : ¬ (((0 : Int32) : Int32) < 0 ∨ cl23.slots.size ≤ ((0 : Int32) : Int32).toNatClampNeg) := inb_of vS23 ⟨by decide, by decide⟩
  have F24 := (B2.wr W17)
  obtain ⟨T23, h23, X23, e23, W23, st23⟩ := stR X20 hx hZ e20 Ar23 (j := (0 : Int32)) hin23 rfl (Sto.ofVA Ar23 vq23 r9 (Ins.self F24)) (g := (mkF m 75 #[vR a1, vI 0, vI 1, vR b2, vI 1, vI 1] [(.ref b2), (.int 0), (.ref ow)])) rfl rfl (bb d14_75)
  refine gl st23 ?_
  have V23 : Arv Z h23 ow kw_ (.array .int) (1 : Int32) [(.ref b2)] .null := Arv.set Ar23 vq23 vS23 vN23 vH23 vG23 rfl W23 0 rfl (Nat.le_of_ble_eq_true rfl)
  have N23 := Fr.snoc X23 N17 g_ow
  refine g_aloadN X23 hx (bb d14_76) rfl rfl ?_
  have F26 := ((F12.other W17 (Or.inl ne_a1_b2)).other W23 (Or.inl ne_a1_ow))
  refine gF X23 hx hZ hown (ww 20 rfl) e23 F26 (bb d14_77) (fun T25 X25 e25 => ?_)
  refine g_iloadN X25 hx (bb d14_80) rfl ?_
  refine g_aconstNull X25 hx (bb d14_81) ?_
  have F27 := ((F6.other W17 ne_on_b2).other W23 (Ne.symm ne_ow_on))
  obtain ⟨cl28, Ar28, vq28, vS28, vN28, vH28, vG28⟩ := id F27
  have hin28 : ¬ (((0 : Int32) : Int32) < 0 ∨ cl28.slots.size ≤ ((0 : Int32) : Int32).toNatClampNeg) := inb_of vS28 ⟨by decide, by decide⟩
  obtain ⟨T28, h28, X28, e28, W28, st28⟩ := stR X25 hx hZ e25 Ar28 (j := (0 : Int32)) hin28 rfl (Or.inl rfl) (g := (mkF m 82 #[vR a1, vI 0, vI 1, vR b2, vI 1, vI 1] [.null, (.int 0), (.ref on)])) rfl rfl (bb d14_82)
  refine gl st28 ?_
  have V28 : Arv Z h28 on kn_ (.array .char) (1 : Int32) [.null] .null := Arv.set Ar28 vq28 vS28 vN28 vH28 vG28 rfl W28 0 rfl (Nat.le_of_ble_eq_true rfl)
  have N28 := Fr.snoc X28 N23 g_on
  have F29 := (V23.other W28 ne_ow_on)
  have F30 := ((V17.other W23 (Ne.symm ne_ow_b2)).other W28 (Ne.symm ne_on_b2))
  obtain ⟨fs, hr, hrun, hended, hW, hsame⟩ := X28.leave (v := none) (fun _ => rfl)
  subst hR0
  refine ⟨_, _, ?_, hrun, hended, _, _, rfl, ?_, ⟨_, rfl⟩, hW, hsame.mono (by decide) (by decide)⟩
  · exact X28.returnOut hx hret (bb d14_83) hr
  · show Q_widen1_1 Z a1 ow on ob ol oh ov kw_ kn_ kb_ kl_ kh_ kv_ eb0 el0 eu0 ev0_0 ex1 ex2 ex3 ex4 ex5 ex6 ex7 h0 n0 _ T28.heap _
    rw [e28]
    exact ⟨b2, k2, rfl, N28, (((((Keep.refl h0 [ow, on]).ext E2).wr W17 (Or.inr sz_b2)).wr W23 (Or.inl (List.mem_of_getElem? (i := 0) rfl))).wr W28 (Or.inl (List.mem_of_getElem? (i := 1) rfl))), sz_b2, F29, V28, F30⟩
def Q_fitW1_1 (Z : State) (a1 at_ ow on ob ol oh ov : Addr) (kw_ kn_ kb_ kl_ kh_ kv_ : ClassId) (eb0 el0 eu0 ev0_0 ex1 ex2 ex3 ex4 ex5 ex6 ex7 : Int32) (kt_ : ClassId) (et0 : Int32) (h0 : Heap) (n0 : Nat) (v : Option Value) (h : Heap) (L : List Loc) : Prop := ∃ (oz : Addr) (kz_ : ClassId), v = none ∧ Fr n0 L ∧ Keep h0 h [ow, on] ∧ h0.size ≤ oz ∧ Arv Z h ow kw_ (.array .int) (1 : Int32) [(.ref oz)] .null ∧ Arv Z h on kn_ (.array .char) (1 : Int32) [.null] .null ∧ Arv Z h oz kz_ .int (8 : Int32) [(.int ev0_0), (.int 0), (.int 0), (.int 0), (.int 0), (.int 0), (.int 0), (.int 0)] (.int 0)
set_option maxRecDepth 65536 in
set_option maxHeartbeats 40000000 in
theorem rm_fitW1_1 (l : Launch) (Z : State) (a0 : Array Value) (ww : WW a0 Z) (ws : List Jvm.Cond) (a1 at_ ow on ob ol oh ov : Addr) (kw_ kn_ kb_ kl_ kh_ kv_ : ClassId) (eb0 el0 eu0 ev0_0 ex1 ex2 ex3 ex4 ex5 ex6 ex7 : Int32) (kt_ : ClassId) (et0 : Int32) (h0 : Heap) (n0 : Nat) (Z0 : n0 ≤ h0.size) (O0 : Old Z n0 h0) (S_CS : Sta Z Z.heap cRV "CHUNK_SHIFT" "I" (.int (12 : Int32))) (r0 : Exa Z h0 a1 cRV) (r1 : Fld Z h0 a1 cRV "arity" "I" (.int 1)) (r2 : Fld Z h0 a1 cRV "rows" "I" (.int 1)) (r3 : Fld Z h0 a1 cRV "wide" "[[I" (.ref ow)) (r4 : Fld Z h0 a1 cRV "narrow" "[[C" (.ref on)) (r5 : Fld Z h0 a1 cRV "bases" "[I" (.ref ob)) (r6 : Fld Z h0 a1 cRV "lowest" "[I" (.ref ol)) (r7 : Fld Z h0 a1 cRV "highest" "[I" (.ref oh)) (r8 : Arv Z h0 ow kw_ (.array .int) (1 : Int32) [.null] .null) (r9 : OvrA Z kw_ .int "[I") (r10 : Arv Z h0 on kn_ (.array .char) (1 : Int32) [(.ref ov)] .null) (r11 : OvrA Z kn_ .char "[C") (r12 : Arv Z h0 ob kb_ .int (1 : Int32) [(.int eb0)] (.int 0)) (r13 : Arv Z h0 ol kl_ .int (1 : Int32) [(.int el0)] (.int 0)) (r14 : Arv Z h0 oh kh_ .int (1 : Int32) [(.int eu0)] (.int 0)) (r15 : Arv Z h0 ov kv_ .char (8 : Int32) [(.int (nar .char (ev0_0 - eb0))), (.int ex1), (.int ex2), (.int ex3), (.int ex4), (.int ex5), (.int ex6), (.int ex7)] (.int 0)) (r16 : Arv Z h0 at_ kt_ .int (1 : Int32) [(.int et0)] (.int 0)) (g_ow : n0 ≤ ow) (g_on : n0 ≤ on) (ne_a1_ow : a1 ≠ ow) (ne_a1_on : a1 ≠ on) (ne_a1_ob : a1 ≠ ob) (ne_a1_ol : a1 ≠ ol) (ne_a1_oh : a1 ≠ oh) (ne_a1_ov : a1 ≠ ov) (ne_ow_on : ow ≠ on) (ne_ow_ob : ow ≠ ob) (ne_ow_ol : ow ≠ ol) (ne_ow_oh : ow ≠ oh) (ne_ow_ov : ow ≠ ov) (ne_on_ob : on ≠ ob) (ne_on_ol : on ≠ ol) (ne_on_oh : on ≠ oh) (ne_on_ov : on ≠ ov) (ne_ob_ol : ob ≠ ol) (ne_ob_oh : ob ≠ oh) (ne_ob_ov : ob ≠ ov) (ne_ol_oh : ol ≠ oh) (ne_ol_ov : ol ≠ ov) (ne_oh_ov : oh ≠ ov) (ne_at__a1 : at_ ≠ a1) (ne_at__ow : at_ ≠ ow) (ne_at__on : at_ ≠ on) (ne_at__ob : at_ ≠ ob) (ne_at__ol : at_ ≠ ol) (ne_at__oh : at_ ≠ oh) (ne_at__ov : at_ ≠ ov) (hIn0_0 : ownIn eb0 ev0_0) (hWd : ¬ ((lcmpW (((f_maxI et0 eu0).toInt64) - ((f_minI et0 el0).toInt64)) (65536 : Int64)) < (0 : Int32))) :
    MF l Z (⟨cRV, "fit", "(II[I)V"⟩ : MethodName) prog_47_method_7_code 11 none ws ({ frames := 2, cells := 1, slots := 8, locals := 36 } : Room) #[(.ref a1), (.int 0), (.int 1), (.ref at_)] h0 (Q_fitW1_1 Z a1 at_ ow on ob ol oh ov kw_ kn_ kb_ kl_ kh_ kv_ eb0 el0 eu0 ev0_0 ex1 ex2 ex3 ex4 ex5 ex6 ex7 kt_ et0 h0 n0) := by
  refine gopen (plainFor_of_name pn_RowValues) (fun m => ef_fitW1_1 m a1 at_) (fun p e s m below meth c s₁ hlk hret hx bb hml hown hnm hZ X0 e0 R0 hR0 => ?_)
  have N0 := Fr.nil n0
  refine g_iconst X0 hx (bb d11_0) ?_
  refine g_istore X0 hx (bb d11_1) (l' := #[vR a1, vI 0, vI 1, vR at_, vI 0, .unset, .unset, .unset, .unset, .unset, .unset]) rfl ?_
  refine g_iload X0 hx (bb d11_3) rfl ?_
  refine g_aloadN X0 hx (bb d11_5) rfl rfl ?_
  refine gF X0 hx hZ hown (ww 22 rfl) e0 r1 (bb d11_6) (fun T1 X1 e1 => ?_)
  refine g_icmpNo X1 hx (bb d11_9) (tlt (by decide : (0 : Int32) < (1 : Int32))).2.1 ?_
  refine g_aloadN X1 hx (bb d11_12) rfl rfl ?_
  refine g_iload X1 hx (bb d11_13) rfl ?_
  refine gLi X1 hx hZ e1 r16 (v := (.int et0)) ⟨by decide, by decide⟩ rfl (bb d11_15) ?_
  refine g_aloadN X1 hx (bb d11_16) rfl rfl ?_
  refine gF X1 hx hZ hown (ww 28 rfl) e1 r7 (bb d11_17) (fun T2 X2 e2 => ?_)
  refine g_iload X2 hx (bb d11_20) rfl ?_
  refine gLi X2 hx hZ e2 r14 (v := (.int eu0)) ⟨by decide, by decide⟩ rfl (bb d11_22) ?_
  refine gcS X2 hx hZ hml hown (ww 75 rfl) (ww 58 rfl) (ww 77 rfl) (ww 76 rfl) e2 (rm_maxI l Z a0 ww [] et0 eu0 h0 n0 (own_z0 O0) O0 S_CS) pd__II_I_5 (bb d11_23) 0 rfl (fun T3 L3 v3 X3 hQ3 => ?_)
  obtain ⟨rfl, N3q, e3⟩ := hQ3
  have N3 := Fr.app N0 N3q
  refine g_i2l X3 hx (bb d11_26) ?_
  refine g_aloadN X3 hx (bb d11_27) rfl rfl ?_
  refine g_iload X3 hx (bb d11_28) rfl ?_
  refine gLi X3 hx hZ e3 r16 (v := (.int et0)) ⟨by decide, by decide⟩ rfl (bb d11_30) ?_
  refine g_aloadN X3 hx (bb d11_31) rfl rfl ?_
  refine gF X3 hx hZ hown (ww 26 rfl) e3 r6 (bb d11_32) (fun T4 X4 e4 => ?_)
  refine g_iload X4 hx (bb d11_35) rfl ?_
  refine gLi X4 hx hZ e4 r13 (v := (.int el0)) ⟨by decide, by decide⟩ rfl (bb d11_37) ?_
  refine gcS X4 hx hZ hml hown (ww 68 rfl) (ww 58 rfl) (ww 70 rfl) (ww 69 rfl) e4 (rm_minI l Z a0 ww [] et0 el0 h0 n0 (own_z0 O0) O0 S_CS) pd__II_I_5 (bb d11_38) 2 rfl (fun T5 L5 v5 X5 hQ5 => ?_)
  obtain ⟨rfl, N5q, e5⟩ := hQ5
  have N5 := Fr.app N3 N5q
  refine g_i2l X5 hx (bb d11_41) ?_
  refine g_lsub X5 hx (bb d11_42) ?_
  refine g_lstore X5 hx (bb d11_43) (l' := #[vR a1, vI 0, vI 1, vR at_, vI 0, vJ (((f_maxI et0 eu0).toInt64) - ((f_minI et0 el0).toInt64)), .second, .unset, .unset, .unset, .unset]) rfl ?_
  refine g_lload X5 hx (bb d11_45) rfl ?_
  refine gJ X5 hx hZ hown (ww 78 rfl) (bb d11_47) ?_
  refine g_lcmp X5 hx (bb d11_50) ?_
  refine g_ifNo X5 hx (bb d11_51) ((if0 _ _).trans (flt hWd).1) ?_
  refine g_aloadN X5 hx (bb d11_54) rfl rfl ?_
  refine g_iloadN X5 hx (bb d11_55) rfl ?_
  refine g_iloadN X5 hx (bb d11_56) rfl ?_
  refine gcP X5 hx hZ hml hown (ww 84 rfl) (ww 7 rfl) (ww 87 rfl) (ww 6 rfl) (ww 85 rfl) (ww 86 rfl) e5 r0 (rm_widen1_1 l Z a0 ww [] a1 ow on ob ol oh ov kw_ kn_ kb_ kl_ kh_ kv_ eb0 el0 eu0 ev0_0 ex1 ex2 ex3 ex4 ex5 ex6 ex7 h0 n0 (own_z0 O0) O0 S_CS r0 r1 r2 r3 r4 r5 r6 r7 r8 r9 r10 r11 r12 r13 r14 r15 g_ow g_on ne_a1_ow ne_a1_on ne_a1_ob ne_a1_ol ne_a1_oh ne_a1_ov ne_ow_on ne_ow_ob ne_ow_ol ne_ow_oh ne_ow_ov ne_on_ob ne_on_ol ne_on_oh ne_on_ov ne_ob_ol ne_ob_oh ne_ob_ov ne_ol_oh ne_ol_ov ne_oh_ov hIn0_0) pd__II_V_5 (bb d11_57) 0 rfl (fun T6 L6 v6 X6 hQ6 => ?_)
  obtain ⟨oz6, kz_6, rfl, N6q, K6, szz_oz6, f6_0, f6_1, f6_2⟩ := hQ6
  have N6 := Fr.app N5 N6q
  have g_oz6 : n0 ≤ oz6 := Nat.le_trans (own_z0 O0) szz_oz6
  have sz_oz6 : h0.size ≤ oz6 := Nat.le_trans (Nat.le_refl _) szz_oz6
  have ne_a1_oz6 : a1 ≠ oz6 := Nat.ne_of_lt (Nat.lt_of_lt_of_le r0.lt szz_oz6)
  have ne_ow_oz6 : ow ≠ oz6 := Nat.ne_of_lt (Nat.lt_of_lt_of_le r8.lt szz_oz6)
  have ne_on_oz6 : on ≠ oz6 := Nat.ne_of_lt (Nat.lt_of_lt_of_le r10.lt szz_oz6)
  have ne_ob_oz6 : ob ≠ oz6 := Nat.ne_of_lt (Nat.lt_of_lt_of_le r12.lt szz_oz6)
  have ne_ol_oz6 : ol ≠ oz6 := Nat.ne_of_lt (Nat.lt_of_lt_of_le r13.lt szz_oz6)
  have ne_oh_oz6 : oh ≠ oz6 := Nat.ne_of_lt (Nat.lt_of_lt_of_le r14.lt szz_oz6)
  have ne_ov_oz6 : ov ≠ oz6 := Nat.ne_of_lt (Nat.lt_of_lt_of_le r15.lt szz_oz6)
  have ne_at__oz6 : at_ ≠ oz6 := Nat.ne_of_lt (Nat.lt_of_lt_of_le r16.lt szz_oz6)
  obtain ⟨fs, hr, hrun, hended, hW, hsame⟩ := X6.leave (v := none) (fun _ => rfl)
  subst hR0
  refine ⟨_, _, ?_, hrun, hended, _, _, rfl, ?_, ⟨_, rfl⟩, hW, hsame.mono (by decide) (by decide)⟩
  · exact X6.returnOut hx hret (bb d11_60) hr
  · show Q_fitW1_1 Z a1 at_ ow on ob ol oh ov kw_ kn_ kb_ kl_ kh_ kv_ eb0 el0 eu0 ev0_0 ex1 ex2 ex3 ex4 ex5 ex6 ex7 kt_ et0 h0 n0 _ T6.heap _
    exact ⟨oz6, kz_6, rfl, N6, ((Keep.refl h0 [ow, on]).trans K6 (allS (Or.inl (List.mem_of_getElem? (i := 0) rfl)) (allS (Or.inl (List.mem_of_getElem? (i := 1) rfl)) all0))), sz_oz6, f6_0, f6_1, f6_2⟩
def Q_widen1_2 (Z : State) (a1 ow on ob ol oh ov : Addr) (kw_ kn_ kb_ kl_ kh_ kv_ : ClassId) (eb0 el0 eu0 ev0_0 ev1_0 ex2 ex3 ex4 ex5 ex6 ex7 : Int32) (h0 : Heap) (n0 : Nat) (v : Option Value) (h : Heap) (L : List Loc) : Prop := ∃ (oz : Addr) (kz_ : ClassId), v = none ∧ Fr n0 L ∧ Keep h0 h [ow, on] ∧ h0.size ≤ oz ∧ Arv Z h ow kw_ (.array .int) (1 : Int32) [(.ref oz)] .null ∧ Arv Z h on kn_ (.array .char) (1 : Int32) [.null] .null ∧ Arv Z h oz kz_ .int (8 : Int32) [(.int ev0_0), (.int ev1_0), (.int 0), (.int 0), (.int 0), (.int 0), (.int 0), (.int 0)] (.int 0)
set_option maxRecDepth 65536 in
set_option maxHeartbeats 40000000 in
theorem rm_widen1_2 (l : Launch) (Z : State) (a0 : Array Value) (ww : WW a0 Z) (ws : List Jvm.Cond) (a1 ow on ob ol oh ov : Addr) (kw_ kn_ kb_ kl_ kh_ kv_ : ClassId) (eb0 el0 eu0 ev0_0 ev1_0 ex2 ex3 ex4 ex5 ex6 ex7 : Int32) (h0 : Heap) (n0 : Nat) (Z0 : n0 ≤ h0.size) (O0 : Old Z n0 h0) (S_CS : Sta Z Z.heap cRV "CHUNK_SHIFT" "I" (.int (12 : Int32))) (r0 : Exa Z h0 a1 cRV) (r1 : Fld Z h0 a1 cRV "arity" "I" (.int 1)) (r2 : Fld Z h0 a1 cRV "rows" "I" (.int 2)) (r3 : Fld Z h0 a1 cRV "wide" "[[I" (.ref ow)) (r4 : Fld Z h0 a1 cRV "narrow" "[[C" (.ref on)) (r5 : Fld Z h0 a1 cRV "bases" "[I" (.ref ob)) (r6 : Fld Z h0 a1 cRV "lowest" "[I" (.ref ol)) (r7 : Fld Z h0 a1 cRV "highest" "[I" (.ref oh)) (r8 : Arv Z h0 ow kw_ (.array .int) (1 : Int32) [.null] .null) (r9 : OvrA Z kw_ .int "[I") (r10 : Arv Z h0 on kn_ (.array .char) (1 : Int32) [(.ref ov)] .null) (r11 : OvrA Z kn_ .char "[C") (r12 : Arv Z h0 ob kb_ .int (1 : Int32) [(.int eb0)] (.int 0)) (r13 : Arv Z h0 ol kl_ .int (1 : Int32) [(.int el0)] (.int 0)) (r14 : Arv Z h0 oh kh_ .int (1 : Int32) [(.int eu0)] (.int 0)) (r15 : Arv Z h0 ov kv_ .char (8 : Int32) [(.int (nar .char (ev0_0 - eb0))), (.int (nar .char (ev1_0 - eb0))), (.int ex2), (.int ex3), (.int ex4), (.int ex5), (.int ex6), (.int ex7)] (.int 0)) (g_ow : n0 ≤ ow) (g_on : n0 ≤ on) (ne_a1_ow : a1 ≠ ow) (ne_a1_on : a1 ≠ on) (ne_a1_ob : a1 ≠ ob) (ne_a1_ol : a1 ≠ ol) (ne_a1_oh : a1 ≠ oh) (ne_a1_ov : a1 ≠ ov) (ne_ow_on : ow ≠ on) (ne_ow_ob : ow ≠ ob) (ne_ow_ol : ow ≠ ol) (ne_ow_oh : ow ≠ oh) (ne_ow_ov : ow ≠ ov) (ne_on_ob : on ≠ ob) (ne_on_ol : on ≠ ol) (ne_on_oh : on ≠ oh) (ne_on_ov : on ≠ ov) (ne_ob_ol : ob ≠ ol) (ne_ob_oh : ob ≠ oh) (ne_ob_ov : ob ≠ ov) (ne_ol_oh : ol ≠ oh) (ne_ol_ov : ol ≠ ov) (ne_oh_ov : oh ≠ ov) (hIn0_0 : ownIn eb0 ev0_0) (hIn1_0 : ownIn eb0 ev1_0) :
    MF l Z (⟨cRV, "widen", "(II)V"⟩ : MethodName) prog_47_method_9_code 6 none ws ({ frames := 1, cells := 1, slots := 8, locals := 19 } : Room) #[(.ref a1), (.int 0), (.int 2)] h0 (Q_widen1_2 Z a1 ow on ob ol oh ov kw_ kn_ kb_ kl_ kh_ kv_ eb0 el0 eu0 ev0_0 ev1_0 ex2 ex3 ex4 ex5 ex6 ex7 h0 n0) := by
  refine gopen (plainFor_of_name pn_RowValues) (fun m => ef_widen1_2 m a1) (fun p e s m below meth c s₁ hlk hret hx bb hml hown hnm hZ X0 e0 R0 hR0 => ?_)
  have N0 := Fr.nil n0
  refine g_aloadN X0 hx (bb d14_0) rfl rfl ?_
  refine gF X0 hx hZ hown (ww 20 rfl) e0 r4 (bb d14_1) (fun T1 X1 e1 => ?_)
  refine g_iloadN X1 hx (bb d14_4) rfl ?_
  refine gLr rfl X1 hx hZ e1 r10 (v := (.ref ov)) ⟨by decide, by decide⟩ rfl (bb d14_5) ?_
  refine gA X1 hx hZ e1 r15 (bb d14_6) ?_
  obtain ⟨T2, h2, k2, X2, e2, E2, A2, B2, st2⟩ := newPE (aty := .int) X1 hx hZ (ww 4 rfl) e1 (g := (mkF m 7 #[vR a1, vI 0, vI 2, .unset, .unset, .unset] [(.int 8)])) rfl (bb d14_7) rfl (by decide) (cap := 8) (by decide) (by decide) (by decide) (by decide) (ad := "[I") (by decide)
  obtain ⟨b2, q_b2⟩ : ∃ z, z = (h0).size := ⟨_, rfl⟩
  rw [← q_b2] at A2 B2 st2
  have g_b2 : n0 ≤ b2 := Nat.le_trans (own_z0 O0) (Nat.le_of_eq q_b2.symm)
  have sz_b2 : h0.size ≤ b2 := Nat.le_trans (Nat.le_refl _) (Nat.le_of_eq q_b2.symm)
  have ne_a1_b2 : a1 ≠ b2 := Nat.ne_of_lt (Nat.lt_of_lt_of_le r0.lt (Nat.le_of_eq q_b2.symm))
  have ne_ow_b2 : ow ≠ b2 := Nat.ne_of_lt (Nat.lt_of_lt_of_le r8.lt (Nat.le_of_eq q_b2.symm))
  have ne_on_b2 : on ≠ b2 := Nat.ne_of_lt (Nat.lt_of_lt_of_le r10.lt (Nat.le_of_eq q_b2.symm))
  have ne_ob_b2 : ob ≠ b2 := Nat.ne_of_lt (Nat.lt_of_lt_of_le r12.lt (Nat.le_of_eq q_b2.symm))
  have ne_ol_b2 : ol ≠ b2 := Nat.ne_of_lt (Nat.lt_of_lt_of_le r13.lt (Nat.le_of_eq q_b2.symm))
  have ne_oh_b2 : oh ≠ b2 := Nat.ne_of_lt (Nat.lt_of_lt_of_le r14.lt (Nat.le_of_eq q_b2.symm))
  have ne_ov_b2 : ov ≠ b2 := Nat.ne_of_lt (Nat.lt_of_lt_of_le r15.lt (Nat.le_of_eq q_b2.symm))
  refine gl st2 ?_
  have V_b2 : Arv Z h2 b2 k2 .int (8 : Int32) [(.int 0), (.int 0), (.int 0), (.int 0), (.int 0), (.int 0), (.int 0), (.int 0)] (.int 0) := (Arv.new A2 (by decide)).pad (pad_rep [] (.int 0) 8)
  refine g_astoreN X2 hx (bb d14_9) rfl (l' := #[vR a1, vI 0, vI 2, vR b2, .unset, .unset]) rfl ?_
  refine g_iconst X2 hx (bb d14_10) ?_
  refine g_istore X2 hx (bb d14_11) (l' := #[vR a1, vI 0, vI 2, vR b2, vI 0, .unset]) rfl ?_
  refine g_iload X2 hx (bb d14_13) rfl ?_
  refine g_iloadN X2 hx (bb d14_15) rfl ?_
  refine g_icmpNo X2 hx (bb d14_16) (tlt (by decide : (0 : Int32) < (2 : Int32))).2.1 ?_
  refine g_iconst X2 hx (bb d14_19) ?_
  refine g_istore X2 hx (bb d14_20) (l' := #[vR a1, vI 0, vI 2, vR b2, vI 0, vI 0]) rfl ?_
  refine g_iload X2 hx (bb d14_22) rfl ?_
  refine g_aloadN X2 hx (bb d14_24) rfl rfl ?_
  have F4 := (r1.ext E2)
  refine gF X2 hx hZ hown (ww 22 rfl) e2 F4 (bb d14_25) (fun T3 X3 e3 => ?_)
  refine g_icmpNo X3 hx (bb d14_28) (tlt (by decide : (0 : Int32) < (1 : Int32))).2.1 ?_
  refine g_aloadN X3 hx (bb d14_31) rfl rfl ?_
  refine g_iload X3 hx (bb d14_32) rfl ?_
  refine g_aloadN X3 hx (bb d14_34) rfl rfl ?_
  refine gF X3 hx hZ hown (ww 22 rfl) e3 F4 (bb d14_35) (fun T5 X5 e5 => ?_)
  refine g_imul X5 hx (bb d14_38) ?_
  refine g_iload X5 hx (bb d14_39) rfl ?_
  refine g_iadd X5 hx (bb d14_41) ?_
  refine g_aloadN X5 hx (bb d14_42) rfl rfl ?_
  refine g_iloadN X5 hx (bb d14_43) rfl ?_
  refine g_sipush X5 hx (bb d14_44) ?_
  refine g_imul X5 hx (bb d14_47) ?_
  refine g_iload X5 hx (bb d14_48) rfl ?_
  refine g_iadd X5 hx (bb d14_50) ?_
  refine g_iload X5 hx (bb d14_51) rfl ?_
  have F6 := (r10.ext E2)
  obtain ⟨cl7, Ar7, vq7, vS7, vN7, vH7, vG7⟩ := id F6
  have F8 := (r12.ext E2)
  obtain ⟨cl9, Ar9, vq9, vS9, vN9, vH9, vG9⟩ := id F8
  have F10 := (r15.ext E2)
  obtain ⟨cl11, Ar11, vq11, vS11, vN11, vH11, vG11⟩ := id F10
  have F12 := (r4.ext E2)
  have F13 := (r5.ext E2)
  have O15 := (O0.ext E2)
  have F16 := (r0.ext E2)
  refine gcV X5 hx hZ hml hown (ww 88 rfl) (ww 7 rfl) (ww 83 rfl) (ww 80 rfl) (ww 82 rfl) (ww 81 rfl) e5 F16 (rm_get1N l Z a0 ww [] a1 (0 : Int32) (0 : Int32) on ob ov cl7 cl9 cl11 eb0 ev0_0 h2 n0 (own_z0 O15) O15 S_CS F4 F12 F13 Ar7 (inb_of vS7 ⟨by decide, by decide⟩) (vH7.at (inb_of vS7 ⟨by decide, by decide⟩) rfl) Ar9 (inb_of vS9 ⟨by decide, by decide⟩) (vH9.at (inb_of vS9 ⟨by decide, by decide⟩) rfl) Ar11 (inb_of vS11 ⟨by decide, by decide⟩) (vH11.at (inb_of vS11 ⟨by decide, by decide⟩) rfl) hIn0_0) pd__II_I_5 (bb d14_53) 2 rfl (fun T14 L14 v14 X14 hQ14 => ?_)
  obtain ⟨rfl, N14q, e14⟩ := hQ14
  have N14 := Fr.app N0 N14q
  refine gSi X14 hx hZ e14 V_b2 ⟨by decide, by decide⟩ 0 rfl (Nat.le_of_ble_eq_true rfl) N14 g_b2 (bb d14_56) (fun T17 h17 X17 e17 W17 V17 N17 => ?_)
  refine g_iinc X17 hx (bb d14_57) rfl (l' := #[vR a1, vI 0, vI 2, vR b2, vI 0, vI 1]) rfl ?_
  refine g_goto X17 hx (pc' := 22) (bb d14_60) (by decide) (by decide) ?_
  refine g_iload X17 hx (bb d14_22) rfl ?_
  refine g_aloadN X17 hx (bb d14_24) rfl rfl ?_
  have F19 := (F4.other W17 (Or.inl ne_a1_b2))
  refine gF X17 hx hZ hown (ww 22 rfl) e17 F19 (bb d14_25) (fun T18 X18 e18 => ?_)
  refine g_icmpYes X18 hx (pc' := 63) (bb d14_28) (flt (by decide : ¬ ((1 : Int32) < (1 : Int32)))).2.1 (by decide) (by decide) ?_
  refine g_iinc X18 hx (bb d14_63) rfl (l' := #[vR a1, vI 0, vI 2, vR b2, vI 1, vI 1]) rfl ?_
  refine g_goto X18 hx (pc' := 13) (bb d14_66) (by decide) (by decide) ?_
  refine g_iload X18 hx (bb d14_13) rfl ?_
  refine g_iloadN X18 hx (bb d14_15) rfl ?_
  refine g_icmpNo X18 hx (bb d14_16) (tlt (by decide : (1 : Int32) < (2 : Int32))).2.1 ?_
  refine g_iconst X18 hx (bb d14_19) ?_
  refine g_istore X18 hx (bb d14_20) (l' := #[vR a1, vI 0, vI 2, vR b2, vI 1, vI 0]) rfl ?_
  refine g_iload X18 hx (bb d14_22) rfl ?_
  refine g_aloadN X18 hx (bb d14_24) rfl rfl ?_
  refine gF X18 hx hZ hown (ww 22 rfl) e18 F19 (bb d14_25) (fun T20 X20 e20 => ?_)
  refine g_icmpNo X20 hx (bb d14_28) (tlt (by decide : (0 : Int32) < (1 : Int32))).2.1 ?_
  refine g_aloadN X20 hx (bb d14_31) rfl rfl ?_
  refine g_iload X20 hx (bb d14_32) rfl ?_
  refine g_aloadN X20 hx (bb d14_34) rfl rfl ?_
  refine gF X20 hx hZ hown (ww 22 rfl) e20 F19 (bb d14_35) (fun T21 X21 e21 => ?_)
  refine g_imul X21 hx (bb d14_38) ?_
  refine g_iload X21 hx (bb d14_39) rfl ?_
  refine g_iadd X21 hx (bb d14_41) ?_
  refine g_aloadN X21 hx (bb d14_42) rfl rfl ?_
  refine g_iloadN X21 hx (bb d14_43) rfl ?_
  refine g_sipush X21 hx (bb d14_44) ?_
  refine g_imul X21 hx (bb d14_47) ?_
  refine g_iload X21 hx (bb d14_48) rfl ?_
  refine g_iadd X21 hx (bb d14_50) ?_
  refine g_iload X21 hx (bb d14_51) rfl ?_
  have F22 := (F6.other W17 ne_on_b2)
  obtain ⟨cl23, Ar23, vq23, vS23, vN23, vH23, vG23⟩ := id F22
  have F24 := (F8.other W17 ne_ob_b2)
  obtain ⟨cl25, Ar25, vq25, vS25, vN25, vH25, vG25⟩ := id F24
  have F26 := (F10.other W17 ne_ov_b2)
  obtain ⟨cl27, Ar27, vq27, vS27, vN27, vH27, vG27⟩ := id F26
  have F28 := (F12.other W17 (Or.inl ne_a1_b2))
  have F29 := (F13.other W17 (Or.inl ne_a1_b2))
  have O31 := (O15.wr W17 g_b2)
  have F32 := (F16.wr W17)
  refine gcV X21 hx hZ hml hown (ww 88 rfl) (ww 7 rfl) (ww 83 rfl) (ww 80 rfl) (ww 82 rfl) (ww 81 rfl) e21 F32 (rm_get1N l Z a0 ww [] a1 (1 : Int32) (0 : Int32) on ob ov cl23 cl25 cl27 eb0 ev1_0 h17 n0 (own_z0 O31) O31 S_CS F19 F28 F29 Ar23 (inb_of vS23 ⟨by decide, by decide⟩) (vH23.at (inb_of vS23 ⟨by decide, by decide⟩) rfl) Ar25 (inb_of vS25 ⟨by decide, by decide⟩) (vH25.at (inb_of vS25 ⟨by decide, by decide⟩) rfl) Ar27 (inb_of vS27 ⟨by decide, by decide⟩) (vH27.at (inb_of vS27 ⟨by decide, by decide⟩) rfl) hIn1_0) pd__II_I_5 (bb d14_53) 2 rfl (fun T30 L30 v30 X30 hQ30 => ?_)
  obtain ⟨rfl, N30q, e30⟩ := hQ30
  have N30 := Fr.app N17 N30q
  refine gSi X30 hx hZ e30 V17 ⟨by decide, by decide⟩ 1 rfl (Nat.le_of_ble_eq_true rfl) N30 g_b2 (bb d14_56) (fun T33 h33 X33 e33 W33 V33 N33 => ?_)
  refine g_iinc X33 hx (bb d14_57) rfl (l' := #[vR a1, vI 0, vI 2, vR b2, vI 1, vI 1]) rfl ?_
  refine g_goto X33 hx (pc' := 22) (bb d14_60) (by decide) (by decide) ?_
  refine g_iload X33 hx (bb d14_22) rfl ?_
  refine g_aloadN X33 hx (bb d14_24) rfl rfl ?_
  have F35 := (F19.other W33 (Or.inl ne_a1_b2))
  refine gF X33 hx hZ hown (ww 22 rfl) e33 F35 (bb d14_25) (fun T34 X34 e34 => ?_)
  refine g_icmpYes X34 hx (pc' := 63) (bb d14_28) (flt (by decide : ¬ ((1 : Int32) < (1 : Int32)))).2.1 (by decide) (by decide) ?_
  refine g_iinc X34 hx (bb d14_63) rfl (l' := #[vR a1, vI 0, vI 2, vR b2, vI 2, vI 1]) rfl ?_
  refine g_goto X34 hx (pc' := 13) (bb d14_66) (by decide) (by decide) ?_
  refine g_iload X34 hx (bb d14_13) rfl ?_
  refine g_iloadN X34 hx (bb d14_15) rfl ?_
  refine g_icmpYes X34 hx (pc' := 69) (bb d14_16) (flt (by decide : ¬ ((2 : Int32) < (2 : Int32)))).2.1 (by decide) (by decide) ?_
  refine g_aloadN X34 hx (bb d14_69) rfl rfl ?_
  have F37 := (((r3.ext E2).other W17 (Or.inl ne_a1_b2)).other W33 (Or.inl ne_a1_b2))
  refine gF X34 hx hZ hown (ww 16 rfl) e34 F37 (bb d14_70) (fun T36 X36 e36 => ?_)
  refine g_iloadN X36 hx (bb d14_73) rfl ?_
  refine g_aloadN X36 hx (bb d14_74) rfl rfl ?_
  have F38 := (((r8.ext E2).other W17 ne_ow_b2).other W33 ne_ow_b2)
  obtain ⟨cl39, Ar39, vq39, vS39, vN39, vH39, vG39⟩ := id F38
  have hin39 : ¬ (((0 : Int32) : Int32) < 0 ∨ cl39.slots.size ≤ ((0 : Int32) : Int32).toNatClampNeg) := inb_of vS39 ⟨by decide, by decide⟩
  have F40 := ((B2.wr W17).wr W33)
  obtain ⟨T39, h39, X39, e39, W39, st39⟩ := stR X36 hx hZ e36 Ar39 (j := (0 : Int32)) hin39 rfl (Sto.ofVA Ar39 vq39 r9 (Ins.self F40)) (g := (mkF m 75 #[vR a1, vI 0, vI 2, vR b2, vI 2, vI 1] [(.ref b2), (.int 0), (.ref ow)])) rfl rfl (bb d14_75)
  refine gl st39 ?_
  have V39 : Arv Z h39 ow kw_ (.array .int) (1 : Int32) [(.ref b2)] .null := Arv.set Ar39 vq39 vS39 vN39 vH39 vG39 rfl W39 0 rfl (Nat.le_of_ble_eq_true rfl)
  have N39 := Fr.snoc X39 N33 g_ow
  refine g_aloadN X39 hx (bb d14_76) rfl rfl ?_
  have F42 := ((F28.other W33 (Or.inl ne_a1_b2)).other W39 (Or.inl ne_a1_ow))
  refine gF X39 hx hZ hown (ww 20 rfl) e39 F42 (bb d14_77) (fun T41 X41 e41 => ?_)
  refine g_iloadN X41 hx (bb d14_80) rfl ?_
  refine g_aconstNull X41 hx (bb d14_81) ?_
  have F43 := ((F22.other W33 ne_on_b2).other W39 (Ne.symm ne_ow_on))
  obtain ⟨cl44, Ar44, vq44, vS44, vN44, vH44, vG44⟩ := id F43
  have hin44 : ¬ (((0 : Int32) : Int32) < 0 ∨ cl44.slots.size ≤ ((0 : Int32) : Int32).toNatClampNeg) := inb_of vS44 ⟨by decide, by decide⟩
  obtain ⟨T44, h44, X44, e44, W44, st44⟩ := stR X41 hx hZ e41 Ar44 (j := (0 : Int32)) hin44 rfl (Or.inl rfl) (g := (mkF m 82 #[vR a1, vI 0, vI 2, vR b2, vI 2, vI 1] [.null, (.int 0), (.ref on)])) rfl rfl (bb d14_82)
  refine gl st44 ?_
  have V44 : Arv Z h44 on kn_ (.array .char) (1 : Int32) [.null] .null := Arv.set Ar44 vq44 vS44 vN44 vH44 vG44 rfl W44 0 rfl (Nat.le_of_ble_eq_true rfl)
  have N44 := Fr.snoc X44 N39 g_on
  have F45 := (V39.other W44 ne_ow_on)
  have F46 := ((V33.other W39 (Ne.symm ne_ow_b2)).other W44 (Ne.symm ne_on_b2))
  obtain ⟨fs, hr, hrun, hended, hW, hsame⟩ := X44.leave (v := none) (fun _ => rfl)
  subst hR0
  refine ⟨_, _, ?_, hrun, hended, _, _, rfl, ?_, ⟨_, rfl⟩, hW, hsame.mono (by decide) (by decide)⟩
  · exact X44.returnOut hx hret (bb d14_83) hr
  · show Q_widen1_2 Z a1 ow on ob ol oh ov kw_ kn_ kb_ kl_ kh_ kv_ eb0 el0 eu0 ev0_0 ev1_0 ex2 ex3 ex4 ex5 ex6 ex7 h0 n0 _ T44.heap _
    rw [e44]
    exact ⟨b2, k2, rfl, N44, ((((((Keep.refl h0 [ow, on]).ext E2).wr W17 (Or.inr sz_b2)).wr W33 (Or.inr sz_b2)).wr W39 (Or.inl (List.mem_of_getElem? (i := 0) rfl))).wr W44 (Or.inl (List.mem_of_getElem? (i := 1) rfl))), sz_b2, F45, V44, F46⟩
def Q_fitW1_2 (Z : State) (a1 at_ ow on ob ol oh ov : Addr) (kw_ kn_ kb_ kl_ kh_ kv_ : ClassId) (eb0 el0 eu0 ev0_0 ev1_0 ex2 ex3 ex4 ex5 ex6 ex7 : Int32) (kt_ : ClassId) (et0 : Int32) (h0 : Heap) (n0 : Nat) (v : Option Value) (h : Heap) (L : List Loc) : Prop := ∃ (oz : Addr) (kz_ : ClassId), v = none ∧ Fr n0 L ∧ Keep h0 h [ow, on] ∧ h0.size ≤ oz ∧ Arv Z h ow kw_ (.array .int) (1 : Int32) [(.ref oz)] .null ∧ Arv Z h on kn_ (.array .char) (1 : Int32) [.null] .null ∧ Arv Z h oz kz_ .int (8 : Int32) [(.int ev0_0), (.int ev1_0), (.int 0), (.int 0), (.int 0), (.int 0), (.int 0), (.int 0)] (.int 0)
set_option maxRecDepth 65536 in
set_option maxHeartbeats 40000000 in
theorem rm_fitW1_2 (l : Launch) (Z : State) (a0 : Array Value) (ww : WW a0 Z) (ws : List Jvm.Cond) (a1 at_ ow on ob ol oh ov : Addr) (kw_ kn_ kb_ kl_ kh_ kv_ : ClassId) (eb0 el0 eu0 ev0_0 ev1_0 ex2 ex3 ex4 ex5 ex6 ex7 : Int32) (kt_ : ClassId) (et0 : Int32) (h0 : Heap) (n0 : Nat) (Z0 : n0 ≤ h0.size) (O0 : Old Z n0 h0) (S_CS : Sta Z Z.heap cRV "CHUNK_SHIFT" "I" (.int (12 : Int32))) (r0 : Exa Z h0 a1 cRV) (r1 : Fld Z h0 a1 cRV "arity" "I" (.int 1)) (r2 : Fld Z h0 a1 cRV "rows" "I" (.int 2)) (r3 : Fld Z h0 a1 cRV "wide" "[[I" (.ref ow)) (r4 : Fld Z h0 a1 cRV "narrow" "[[C" (.ref on)) (r5 : Fld Z h0 a1 cRV "bases" "[I" (.ref ob)) (r6 : Fld Z h0 a1 cRV "lowest" "[I" (.ref ol)) (r7 : Fld Z h0 a1 cRV "highest" "[I" (.ref oh)) (r8 : Arv Z h0 ow kw_ (.array .int) (1 : Int32) [.null] .null) (r9 : OvrA Z kw_ .int "[I") (r10 : Arv Z h0 on kn_ (.array .char) (1 : Int32) [(.ref ov)] .null) (r11 : OvrA Z kn_ .char "[C") (r12 : Arv Z h0 ob kb_ .int (1 : Int32) [(.int eb0)] (.int 0)) (r13 : Arv Z h0 ol kl_ .int (1 : Int32) [(.int el0)] (.int 0)) (r14 : Arv Z h0 oh kh_ .int (1 : Int32) [(.int eu0)] (.int 0)) (r15 : Arv Z h0 ov kv_ .char (8 : Int32) [(.int (nar .char (ev0_0 - eb0))), (.int (nar .char (ev1_0 - eb0))), (.int ex2), (.int ex3), (.int ex4), (.int ex5), (.int ex6), (.int ex7)] (.int 0)) (r16 : Arv Z h0 at_ kt_ .int (1 : Int32) [(.int et0)] (.int 0)) (g_ow : n0 ≤ ow) (g_on : n0 ≤ on) (ne_a1_ow : a1 ≠ ow) (ne_a1_on : a1 ≠ on) (ne_a1_ob : a1 ≠ ob) (ne_a1_ol : a1 ≠ ol) (ne_a1_oh : a1 ≠ oh) (ne_a1_ov : a1 ≠ ov) (ne_ow_on : ow ≠ on) (ne_ow_ob : ow ≠ ob) (ne_ow_ol : ow ≠ ol) (ne_ow_oh : ow ≠ oh) (ne_ow_ov : ow ≠ ov) (ne_on_ob : on ≠ ob) (ne_on_ol : on ≠ ol) (ne_on_oh : on ≠ oh) (ne_on_ov : on ≠ ov) (ne_ob_ol : ob ≠ ol) (ne_ob_oh : ob ≠ oh) (ne_ob_ov : ob ≠ ov) (ne_ol_oh : ol ≠ oh) (ne_ol_ov : ol ≠ ov) (ne_oh_ov : oh ≠ ov) (ne_at__a1 : at_ ≠ a1) (ne_at__ow : at_ ≠ ow) (ne_at__on : at_ ≠ on) (ne_at__ob : at_ ≠ ob) (ne_at__ol : at_ ≠ ol) (ne_at__oh : at_ ≠ oh) (ne_at__ov : at_ ≠ ov) (hIn0_0 : ownIn eb0 ev0_0) (hIn1_0 : ownIn eb0 ev1_0) (hWd : ¬ ((lcmpW (((f_maxI et0 eu0).toInt64) - ((f_minI et0 el0).toInt64)) (65536 : Int64)) < (0 : Int32))) :
    MF l Z (⟨cRV, "fit", "(II[I)V"⟩ : MethodName) prog_47_method_7_code 11 none ws ({ frames := 2, cells := 1, slots := 8, locals := 36 } : Room) #[(.ref a1), (.int 0), (.int 2), (.ref at_)] h0 (Q_fitW1_2 Z a1 at_ ow on ob ol oh ov kw_ kn_ kb_ kl_ kh_ kv_ eb0 el0 eu0 ev0_0 ev1_0 ex2 ex3 ex4 ex5 ex6 ex7 kt_ et0 h0 n0) := by
  refine gopen (plainFor_of_name pn_RowValues) (fun m => ef_fitW1_2 m a1 at_) (fun p e s m below meth c s₁ hlk hret hx bb hml hown hnm hZ X0 e0 R0 hR0 => ?_)
  have N0 := Fr.nil n0
  refine g_iconst X0 hx (bb d11_0) ?_
  refine g_istore X0 hx (bb d11_1) (l' := #[vR a1, vI 0, vI 2, vR at_, vI 0, .unset, .unset, .unset, .unset, .unset, .unset]) rfl ?_
  refine g_iload X0 hx (bb d11_3) rfl ?_
  refine g_aloadN X0 hx (bb d11_5) rfl rfl ?_
  refine gF X0 hx hZ hown (ww 22 rfl) e0 r1 (bb d11_6) (fun T1 X1 e1 => ?_)
  refine g_icmpNo X1 hx (bb d11_9) (tlt (by decide : (0 : Int32) < (1 : Int32))).2.1 ?_
  refine g_aloadN X1 hx (bb d11_12) rfl rfl ?_
  refine g_iload X1 hx (bb d11_13) rfl ?_
  refine gLi X1 hx hZ e1 r16 (v := (.int et0)) ⟨by decide, by decide⟩ rfl (bb d11_15) ?_
  refine g_aloadN X1 hx (bb d11_16) rfl rfl ?_
  refine gF X1 hx hZ hown (ww 28 rfl) e1 r7 (bb d11_17) (fun T2 X2 e2 => ?_)
  refine g_iload X2 hx (bb d11_20) rfl ?_
  refine gLi X2 hx hZ e2 r14 (v := (.int eu0)) ⟨by decide, by decide⟩ rfl (bb d11_22) ?_
  refine gcS X2 hx hZ hml hown (ww 75 rfl) (ww 58 rfl) (ww 77 rfl) (ww 76 rfl) e2 (rm_maxI l Z a0 ww [] et0 eu0 h0 n0 (own_z0 O0) O0 S_CS) pd__II_I_5 (bb d11_23) 0 rfl (fun T3 L3 v3 X3 hQ3 => ?_)
  obtain ⟨rfl, N3q, e3⟩ := hQ3
  have N3 := Fr.app N0 N3q
  refine g_i2l X3 hx (bb d11_26) ?_
  refine g_aloadN X3 hx (bb d11_27) rfl rfl ?_
  refine g_iload X3 hx (bb d11_28) rfl ?_
  refine gLi X3 hx hZ e3 r16 (v := (.int et0)) ⟨by decide, by decide⟩ rfl (bb d11_30) ?_
  refine g_aloadN X3 hx (bb d11_31) rfl rfl ?_
  refine gF X3 hx hZ hown (ww 26 rfl) e3 r6 (bb d11_32) (fun T4 X4 e4 => ?_)
  refine g_iload X4 hx (bb d11_35) rfl ?_
  refine gLi X4 hx hZ e4 r13 (v := (.int el0)) ⟨by decide, by decide⟩ rfl (bb d11_37) ?_
  refine gcS X4 hx hZ hml hown (ww 68 rfl) (ww 58 rfl) (ww 70 rfl) (ww 69 rfl) e4 (rm_minI l Z a0 ww [] et0 el0 h0 n0 (own_z0 O0) O0 S_CS) pd__II_I_5 (bb d11_38) 2 rfl (fun T5 L5 v5 X5 hQ5 => ?_)
  obtain ⟨rfl, N5q, e5⟩ := hQ5
  have N5 := Fr.app N3 N5q
  refine g_i2l X5 hx (bb d11_41) ?_
  refine g_lsub X5 hx (bb d11_42) ?_
  refine g_lstore X5 hx (bb d11_43) (l' := #[vR a1, vI 0, vI 2, vR at_, vI 0, vJ (((f_maxI et0 eu0).toInt64) - ((f_minI et0 el0).toInt64)), .second, .unset, .unset, .unset, .unset]) rfl ?_
  refine g_lload X5 hx (bb d11_45) rfl ?_
  refine gJ X5 hx hZ hown (ww 78 rfl) (bb d11_47) ?_
  refine g_lcmp X5 hx (bb d11_50) ?_
  refine g_ifNo X5 hx (bb d11_51) ((if0 _ _).trans (flt hWd).1) ?_
  refine g_aloadN X5 hx (bb d11_54) rfl rfl ?_
  refine g_iloadN X5 hx (bb d11_55) rfl ?_
  refine g_iloadN X5 hx (bb d11_56) rfl ?_
  refine gcP X5 hx hZ hml hown (ww 84 rfl) (ww 7 rfl) (ww 87 rfl) (ww 6 rfl) (ww 85 rfl) (ww 86 rfl) e5 r0 (rm_widen1_2 l Z a0 ww [] a1 ow on ob ol oh ov kw_ kn_ kb_ kl_ kh_ kv_ eb0 el0 eu0 ev0_0 ev1_0 ex2 ex3 ex4 ex5 ex6 ex7 h0 n0 (own_z0 O0) O0 S_CS r0 r1 r2 r3 r4 r5 r6 r7 r8 r9 r10 r11 r12 r13 r14 r15 g_ow g_on ne_a1_ow ne_a1_on ne_a1_ob ne_a1_ol ne_a1_oh ne_a1_ov ne_ow_on ne_ow_ob ne_ow_ol ne_ow_oh ne_ow_ov ne_on_ob ne_on_ol ne_on_oh ne_on_ov ne_ob_ol ne_ob_oh ne_ob_ov ne_ol_oh ne_ol_ov ne_oh_ov hIn0_0 hIn1_0) pd__II_V_5 (bb d11_57) 0 rfl (fun T6 L6 v6 X6 hQ6 => ?_)
  obtain ⟨oz6, kz_6, rfl, N6q, K6, szz_oz6, f6_0, f6_1, f6_2⟩ := hQ6
  have N6 := Fr.app N5 N6q
  have g_oz6 : n0 ≤ oz6 := Nat.le_trans (own_z0 O0) szz_oz6
  have sz_oz6 : h0.size ≤ oz6 := Nat.le_trans (Nat.le_refl _) szz_oz6
  have ne_a1_oz6 : a1 ≠ oz6 := Nat.ne_of_lt (Nat.lt_of_lt_of_le r0.lt szz_oz6)
  have ne_ow_oz6 : ow ≠ oz6 := Nat.ne_of_lt (Nat.lt_of_lt_of_le r8.lt szz_oz6)
  have ne_on_oz6 : on ≠ oz6 := Nat.ne_of_lt (Nat.lt_of_lt_of_le r10.lt szz_oz6)
  have ne_ob_oz6 : ob ≠ oz6 := Nat.ne_of_lt (Nat.lt_of_lt_of_le r12.lt szz_oz6)
  have ne_ol_oz6 : ol ≠ oz6 := Nat.ne_of_lt (Nat.lt_of_lt_of_le r13.lt szz_oz6)
  have ne_oh_oz6 : oh ≠ oz6 := Nat.ne_of_lt (Nat.lt_of_lt_of_le r14.lt szz_oz6)
  have ne_ov_oz6 : ov ≠ oz6 := Nat.ne_of_lt (Nat.lt_of_lt_of_le r15.lt szz_oz6)
  have ne_at__oz6 : at_ ≠ oz6 := Nat.ne_of_lt (Nat.lt_of_lt_of_le r16.lt szz_oz6)
  obtain ⟨fs, hr, hrun, hended, hW, hsame⟩ := X6.leave (v := none) (fun _ => rfl)
  subst hR0
  refine ⟨_, _, ?_, hrun, hended, _, _, rfl, ?_, ⟨_, rfl⟩, hW, hsame.mono (by decide) (by decide)⟩
  · exact X6.returnOut hx hret (bb d11_60) hr
  · show Q_fitW1_2 Z a1 at_ ow on ob ol oh ov kw_ kn_ kb_ kl_ kh_ kv_ eb0 el0 eu0 ev0_0 ev1_0 ex2 ex3 ex4 ex5 ex6 ex7 kt_ et0 h0 n0 _ T6.heap _
    exact ⟨oz6, kz_6, rfl, N6, ((Keep.refl h0 [ow, on]).trans K6 (allS (Or.inl (List.mem_of_getElem? (i := 0) rfl)) (allS (Or.inl (List.mem_of_getElem? (i := 1) rfl)) all0))), sz_oz6, f6_0, f6_1, f6_2⟩
def Q_add1N0 (Z : State) (a1 at_ ow on ob ol oh ov : Addr) (kw_ kn_ kb_ kl_ kh_ kv_ : ClassId) (eb0 el0 eu0 ex0 ex1 ex2 ex3 ex4 ex5 ex6 ex7 : Int32) (kt_ : ClassId) (et0 : Int32) (h0 : Heap) (n0 : Nat) (v : Option Value) (h : Heap) (L : List Loc) : Prop := v = none ∧ Fr n0 L ∧ Keep h0 h [a1, ob, ol, oh, ov] ∧ Exa Z h a1 cRV ∧ Fld Z h a1 cRV "arity" "I" (.int 1) ∧ Fld Z h a1 cRV "rows" "I" (.int 1) ∧ Fld Z h a1 cRV "wide" "[[I" (.ref ow) ∧ Fld Z h a1 cRV "narrow" "[[C" (.ref on) ∧ Fld Z h a1 cRV "bases" "[I" (.ref ob) ∧ Fld Z h a1 cRV "lowest" "[I" (.ref ol) ∧ Fld Z h a1 cRV "highest" "[I" (.ref oh) ∧ Arv Z h ow kw_ (.array .int) (1 : Int32) [.null] .null ∧ OvrA Z kw_ .int "[I" ∧ Arv Z h on kn_ (.array .char) (1 : Int32) [(.ref ov)] .null ∧ OvrA Z kn_ .char "[C" ∧ Arv Z h ob kb_ .int (1 : Int32) [(.int (f_base et0 et0))] (.int 0) ∧ Arv Z h ol kl_ .int (1 : Int32) [(.int et0)] (.int 0) ∧ Arv Z h oh kh_ .int (1 : Int32) [(.int et0)] (.int 0) ∧ Arv Z h ov kv_ .char (8 : Int32) [(.int (nar .char (et0 - (f_base et0 et0)))), (.int ex1), (.int ex2), (.int ex3), (.int ex4), (.int ex5), (.int ex6), (.int ex7)] (.int 0)
set_option maxRecDepth 65536 in
set_option maxHeartbeats 40000000 in
theorem rm_add1N0 (l : Launch) (Z : State) (a0 : Array Value) (ww : WW a0 Z) (ws : List Jvm.Cond) (a1 at_ ow on ob ol oh ov : Addr) (kw_ kn_ kb_ kl_ kh_ kv_ : ClassId) (eb0 el0 eu0 ex0 ex1 ex2 ex3 ex4 ex5 ex6 ex7 : Int32) (kt_ : ClassId) (et0 : Int32) (h0 : Heap) (n0 : Nat) (Z0 : n0 ≤ h0.size) (O0 : Old Z n0 h0) (S_CS : Sta Z Z.heap cRV "CHUNK_SHIFT" "I" (.int (12 : Int32))) (r0 : Exa Z h0 a1 cRV) (r1 : Fld Z h0 a1 cRV "arity" "I" (.int 1)) (r2 : Fld Z h0 a1 cRV "rows" "I" (.int 0)) (r3 : Fld Z h0 a1 cRV "wide" "[[I" (.ref ow)) (r4 : Fld Z h0 a1 cRV "narrow" "[[C" (.ref on)) (r5 : Fld Z h0 a1 cRV "bases" "[I" (.ref ob)) (r6 : Fld Z h0 a1 cRV "lowest" "[I" (.ref ol)) (r7 : Fld Z h0 a1 cRV "highest" "[I" (.ref oh)) (r8 : Arv Z h0 ow kw_ (.array .int) (1 : Int32) [.null] .null) (r9 : OvrA Z kw_ .int "[I") (r10 : Arv Z h0 on kn_ (.array .char) (1 : Int32) [(.ref ov)] .null) (r11 : OvrA Z kn_ .char "[C") (r12 : Arv Z h0 ob kb_ .int (1 : Int32) [(.int eb0)] (.int 0)) (r13 : Arv Z h0 ol kl_ .int (1 : Int32) [(.int el0)] (.int 0)) (r14 : Arv Z h0 oh kh_ .int (1 : Int32) [(.int eu0)] (.int 0)) (r15 : Arv Z h0 ov kv_ .char (8 : Int32) [(.int ex0), (.int ex1), (.int ex2), (.int ex3), (.int ex4), (.int ex5), (.int ex6), (.int ex7)] (.int 0)) (r16 : Arv Z h0 at_ kt_ .int (1 : Int32) [(.int et0)] (.int 0)) (g_a1 : n0 ≤ a1) (g_ob : n0 ≤ ob) (g_ol : n0 ≤ ol) (g_oh : n0 ≤ oh) (g_ov : n0 ≤ ov) (ne_a1_ow : a1 ≠ ow) (ne_a1_on : a1 ≠ on) (ne_a1_ob : a1 ≠ ob) (ne_a1_ol : a1 ≠ ol) (ne_a1_oh : a1 ≠ oh) (ne_a1_ov : a1 ≠ ov) (ne_ow_on : ow ≠ on) (ne_ow_ob : ow ≠ ob) (ne_ow_ol : ow ≠ ol) (ne_ow_oh : ow ≠ oh) (ne_ow_ov : ow ≠ ov) (ne_on_ob : on ≠ ob) (ne_on_ol : on ≠ ol) (ne_on_oh : on ≠ oh) (ne_on_ov : on ≠ ov) (ne_ob_ol : ob ≠ ol) (ne_ob_oh : ob ≠ oh) (ne_ob_ov : ob ≠ ov) (ne_ol_oh : ol ≠ oh) (ne_ol_ov : ol ≠ ov) (ne_oh_ov : oh ≠ ov) (ne_at__a1 : at_ ≠ a1) (ne_at__ow : at_ ≠ ow) (ne_at__on : at_ ≠ on) (ne_at__ob : at_ ≠ ob) (ne_at__ol : at_ ≠ ol) (ne_at__oh : at_ ≠ oh) (ne_at__ov : at_ ≠ ov) :
    MF l Z (⟨cRV, "add", "([I)V"⟩ : MethodName) prog_47_method_4_code 7 none ws ({ frames := 3, cells := 0, slots := 0, locals := 47 } : Room) #[(.ref a1), (.ref at_)] h0 (Q_add1N0 Z a1 at_ ow on ob ol oh ov kw_ kn_ kb_ kl_ kh_ kv_ eb0 el0 eu0 ex0 ex1 ex2 ex3 ex4 ex5 ex6 ex7 kt_ et0 h0 n0) := by
  refine gopen (plainFor_of_name pn_RowValues) (fun m => ef_add1N0 m a1 at_) (fun p e s m below meth c s₁ hlk hret hx bb hml hown hnm hZ X0 e0 R0 hR0 => ?_)
  have N0 := Fr.nil n0
  refine g_aloadN X0 hx (bb d5_0) rfl rfl ?_
  refine gF X0 hx hZ hown (ww 37 rfl) e0 r2 (bb d5_1) (fun T1 X1 e1 => ?_)
  refine gS X1 hx hZ hown (ww 44 rfl) e1 (S_CS.ext O0.2) (bb d5_4) (fun T2 X2 e2 => ?_)
  refine g_iushr X2 hx (bb d5_7) ?_
  refine g_istoreN X2 hx (bb d5_8) (l' := #[vR a1, vR at_, vI 0, .unset, .unset, .unset, .unset]) rfl ?_
  refine g_aloadN X2 hx (bb d5_9) rfl rfl ?_
  refine gF X2 hx hZ hown (ww 37 rfl) e2 r2 (bb d5_10) (fun T3 X3 e3 => ?_)
  refine g_sipush X3 hx (bb d5_13) ?_
  refine g_iand X3 hx (bb d5_16) ?_
  refine g_istoreN X3 hx (bb d5_17) (l' := #[vR a1, vR at_, vI 0, vI 0, .unset, .unset, .unset]) rfl ?_
  refine g_iloadN X3 hx (bb d5_18) rfl ?_
  refine g_ifNo X3 hx (bb d5_19) ((if0 _ _).trans (teq (by decide : (0 : Int32) = (0 : Int32))).2) ?_
  refine g_aloadN X3 hx (bb d5_22) rfl rfl ?_
  refine g_iloadN X3 hx (bb d5_23) rfl ?_
  refine g_aloadN X3 hx (bb d5_24) rfl rfl ?_
  refine gcP X3 hx hZ hml hown (ww 46 rfl) (ww 7 rfl) (ww 49 rfl) (ww 6 rfl) (ww 47 rfl) (ww 48 rfl) e3 r0 (rm_start1 l Z a0 ww [] a1 at_ ow on ob ol oh ov kw_ kn_ kb_ kl_ kh_ kv_ eb0 el0 eu0 ex0 ex1 ex2 ex3 ex4 ex5 ex6 ex7 kt_ et0 h0 n0 (own_z0 O0) O0 S_CS r0 r1 r2 r3 r4 r5 r6 r7 r8 r9 r10 r11 r12 r13 r14 r15 r16 g_ob g_ol g_oh ne_a1_ow ne_a1_on ne_a1_ob ne_a1_ol ne_a1_oh ne_a1_ov ne_ow_on ne_ow_ob ne_ow_ol ne_ow_oh ne_ow_ov ne_on_ob ne_on_ol ne_on_oh ne_on_ov ne_ob_ol ne_ob_oh ne_ob_ov ne_ol_oh ne_ol_ov ne_oh_ov ne_at__a1 ne_at__ow ne_at__on ne_at__ob ne_at__ol ne_at__oh ne_at__ov) pd__I_I_V_6 (bb d5_25) 0 rfl (fun T4 L4 v4 X4 hQ4 => ?_)
  obtain ⟨rfl, N4q, K4, f4_0, f4_1, f4_2⟩ := hQ4
  have N4 := Fr.app N0 N4q
  refine g_aloadN X4 hx (bb d5_28) rfl rfl ?_
  refine g_iloadN X4 hx (bb d5_29) rfl ?_
  refine g_iloadN X4 hx (bb d5_30) rfl ?_
  have F6 := (r0.keep K4)
  have F7 := (r1.keep K4 (ninS ne_a1_ob (ninS ne_a1_ol (ninS ne_a1_oh nin0))))
  have F8 := (r3.keep K4 (ninS ne_a1_ob (ninS ne_a1_ol (ninS ne_a1_oh nin0))))
  have F9 := (r4.keep K4 (ninS ne_a1_ob (ninS ne_a1_ol (ninS ne_a1_oh nin0))))
  have F10 := (r8.keep K4 (ninS ne_ow_ob (ninS ne_ow_ol (ninS ne_ow_oh nin0))))
  have F11 := (r10.keep K4 (ninS ne_on_ob (ninS ne_on_ol (ninS ne_on_oh nin0))))
  have F12 := (r15.keep K4 (ninS (Ne.symm ne_ob_ov) (ninS (Ne.symm ne_ol_ov) (ninS (Ne.symm ne_oh_ov) nin0))))
  have O13 := (O0.keep K4 (allS g_ob (allS g_ol (allS g_oh all0))))
  refine gcP X4 hx hZ hml hown (ww 64 rfl) (ww 7 rfl) (ww 67 rfl) (ww 6 rfl) (ww 65 rfl) (ww 66 rfl) rfl F6 (rm_room1N0 l Z a0 ww [] a1 ow on ob ol oh ov kw_ kn_ kb_ kl_ kh_ kv_ (f_base et0 et0) et0 et0 ex0 ex1 ex2 ex3 ex4 ex5 ex6 ex7 T4.heap n0 (own_z0 O13) O13 S_CS F6 F7 F8 F9 F10 F11 F12) pd__II_V_5 (bb d5_31) 0 rfl (fun T5 L5 v5 X5 hQ5 => ?_)
  obtain ⟨rfl, N5q, e5⟩ := hQ5
  have N5 := Fr.app N4 N5q
  refine g_aloadN X5 hx (bb d5_34) rfl rfl ?_
  refine gF X5 hx hZ hown (ww 20 rfl) e5 F9 (bb d5_35) (fun T14 X14 e14 => ?_)
  refine g_iloadN X14 hx (bb d5_38) rfl ?_
  refine gLr rfl X14 hx hZ e14 F11 (v := (.ref ov)) ⟨by decide, by decide⟩ rfl (bb d5_39) ?_
  refine g_ifnullNo X14 hx (bb d5_40) ?_
  refine g_aloadN X14 hx (bb d5_43) rfl rfl ?_
  refine g_iloadN X14 hx (bb d5_44) rfl ?_
  refine g_iloadN X14 hx (bb d5_45) rfl ?_
  refine g_aloadN X14 hx (bb d5_46) rfl rfl ?_
  have F16 := (r2.keep K4 (ninS ne_a1_ob (ninS ne_a1_ol (ninS ne_a1_oh nin0))))
  have F17 := (r5.keep K4 (ninS ne_a1_ob (ninS ne_a1_ol (ninS ne_a1_oh nin0))))
  have F18 := (r6.keep K4 (ninS ne_a1_ob (ninS ne_a1_ol (ninS ne_a1_oh nin0))))
  have F19 := (r7.keep K4 (ninS ne_a1_ob (ninS ne_a1_ol (ninS ne_a1_oh nin0))))
  have F20 := (r16.keep K4 (ninS ne_at__ob (ninS ne_at__ol (ninS ne_at__oh nin0))))
  refine gcP X14 hx hZ hml hown (ww 71 rfl) (ww 7 rfl) (ww 74 rfl) (ww 6 rfl) (ww 72 rfl) (ww 73 rfl) e14 F6 (rm_fit1_0 l Z a0 ww [] a1 at_ ow on ob ol oh ov kw_ kn_ kb_ kl_ kh_ kv_ (f_base et0 et0) et0 et0 ex0 ex1 ex2 ex3 ex4 ex5 ex6 ex7 kt_ et0 T4.heap n0 (own_z0 O13) O13 S_CS F6 F7 F16 F8 F9 F17 F18 F19 F10 r9 F11 r11 f4_0 f4_1 f4_2 F12 F20 g_ol g_oh ne_a1_ow ne_a1_on ne_a1_ob ne_a1_ol ne_a1_oh ne_a1_ov ne_ow_on ne_ow_ob ne_ow_ol ne_ow_oh ne_ow_ov ne_on_ob ne_on_ol ne_on_oh ne_on_ov ne_ob_ol ne_ob_oh ne_ob_ov ne_ol_oh ne_ol_ov ne_oh_ov ne_at__a1 ne_at__ow ne_at__on ne_at__ob ne_at__ol ne_at__oh ne_at__ov) pd__II_I_V_7 (bb d5_47) 0 rfl (fun T15 L15 v15 X15 hQ15 => ?_)
  obtain ⟨rfl, N15q, K15, f15_0, f15_1⟩ := hQ15
  have N15 := Fr.app N5 N15q
  refine g_iloadN X15 hx (bb d5_50) rfl ?_
  refine g_aloadN X15 hx (bb d5_51) rfl rfl ?_
  have F22 := (F7.keep K15 (ninS ne_a1_ol (ninS ne_a1_oh nin0)))
  refine gF X15 hx hZ hown (ww 22 rfl) rfl F22 (bb d5_52) (fun T21 X21 e21 => ?_)
  refine g_imul X21 hx (bb d5_55) ?_
  refine g_istore X21 hx (bb d5_56) (l' := #[vR a1, vR at_, vI 0, vI 0, vI 0, .unset, .unset]) rfl ?_
  refine g_aloadN X21 hx (bb d5_58) rfl rfl ?_
  have F24 := (F9.keep K15 (ninS ne_a1_ol (ninS ne_a1_oh nin0)))
  refine gF X21 hx hZ hown (ww 20 rfl) e21 F24 (bb d5_59) (fun T23 X23 e23 => ?_)
  refine g_iloadN X23 hx (bb d5_62) rfl ?_
  have F25 := (F11.keep K15 (ninS ne_on_ol (ninS ne_on_oh nin0)))
  refine gLr rfl X23 hx hZ e23 F25 (v := (.ref ov)) ⟨by decide, by decide⟩ rfl (bb d5_63) ?_
  refine g_astore X23 hx (bb d5_64) rfl (l' := #[vR a1, vR at_, vI 0, vI 0, vI 0, vR ov, .unset]) rfl ?_
  refine g_iconst X23 hx (bb d5_66) ?_
  refine g_istore X23 hx (bb d5_67) (l' := #[vR a1, vR at_, vI 0, vI 0, vI 0, vR ov, vI 0]) rfl ?_
  refine g_iload X23 hx (bb d5_69) rfl ?_
  refine g_aloadN X23 hx (bb d5_71) rfl rfl ?_
  refine gF X23 hx hZ hown (ww 22 rfl) e23 F22 (bb d5_72) (fun T26 X26 e26 => ?_)
  refine g_icmpNo X26 hx (bb d5_75) (tlt (by decide : (0 : Int32) < (1 : Int32))).2.1 ?_
  refine g_aload X26 hx (bb d5_78) rfl rfl ?_
  refine g_ifnullNo X26 hx (bb d5_80) ?_
  refine g_aload X26 hx (bb d5_83) rfl rfl ?_
  refine g_iload X26 hx (bb d5_85) rfl ?_
  refine g_iload X26 hx (bb d5_87) rfl ?_
  refine g_iadd X26 hx (bb d5_89) ?_
  refine g_aloadN X26 hx (bb d5_90) rfl rfl ?_
  refine g_iload X26 hx (bb d5_91) rfl ?_
  have F27 := (F20.keep K15 (ninS ne_at__ol (ninS ne_at__oh nin0)))
  refine gLi X26 hx hZ e26 F27 (v := (.int et0)) ⟨by decide, by decide⟩ rfl (bb d5_93) ?_
  refine g_aloadN X26 hx (bb d5_94) rfl rfl ?_
  have F29 := (F17.keep K15 (ninS ne_a1_ol (ninS ne_a1_oh nin0)))
  refine gF X26 hx hZ hown (ww 24 rfl) e26 F29 (bb d5_95) (fun T28 X28 e28 => ?_)
  refine g_iloadN X28 hx (bb d5_98) rfl ?_
  refine g_aloadN X28 hx (bb d5_99) rfl rfl ?_
  refine gF X28 hx hZ hown (ww 22 rfl) e28 F22 (bb d5_100) (fun T30 X30 e30 => ?_)
  refine g_imul X30 hx (bb d5_103) ?_
  refine g_iload X30 hx (bb d5_104) rfl ?_
  refine g_iadd X30 hx (bb d5_106) ?_
  have F31 := (f4_0.keep K15 (ninS ne_ob_ol (ninS ne_ob_oh nin0)))
  refine gLi X30 hx hZ e30 F31 (v := (.int (f_base et0 et0))) ⟨by decide, by decide⟩ rfl (bb d5_107) ?_
  refine g_isub X30 hx (bb d5_108) ?_
  refine g_i2c X30 hx (bb d5_109) ?_
  have F32 := (F12.keep K15 (ninS (Ne.symm ne_ol_ov) (ninS (Ne.symm ne_oh_ov) nin0)))
  refine gSc X30 hx hZ e30 F32 ⟨by decide, by decide⟩ 0 rfl (Nat.le_of_ble_eq_true rfl) N15 g_ov (bb d5_110) (fun T33 h33 X33 e33 W33 V33 N33 => ?_)
  refine g_goto X33 hx (pc' := 130) (bb d5_111) (by decide) (by decide) ?_
  refine g_iinc X33 hx (bb d5_130) rfl (l' := #[vR a1, vR at_, vI 0, vI 0, vI 0, vR ov, vI 1]) rfl ?_
  refine g_goto X33 hx (pc' := 69) (bb d5_133) (by decide) (by decide) ?_
  refine g_iload X33 hx (bb d5_69) rfl ?_
  refine g_aloadN X33 hx (bb d5_71) rfl rfl ?_
  have F35 := (F22.other W33 (Or.inl ne_a1_ov))
  refine gF X33 hx hZ hown (ww 22 rfl) e33 F35 (bb d5_72) (fun T34 X34 e34 => ?_)
  refine g_icmpYes X34 hx (pc' := 136) (bb d5_75) (flt (by decide : ¬ ((1 : Int32) < (1 : Int32)))).2.1 (by decide) (by decide) ?_
  refine g_aloadN X34 hx (bb d5_136) rfl rfl ?_
  refine g_dup X34 hx (bb d5_137) rfl ?_
  have F37 := ((F16.keep K15 (ninS ne_a1_ol (ninS ne_a1_oh nin0))).other W33 (Or.inl ne_a1_ov))
  refine gF X34 hx hZ hown (ww 37 rfl) e34 F37 (bb d5_138) (fun T36 X36 e36 => ?_)
  refine g_iconst X36 hx (bb d5_141) ?_
  refine g_iadd X36 hx (bb d5_142) ?_
  have F39 := ((F6.keep K15).wr W33)
  obtain ⟨T38, h38, X38, e38, W38, st38⟩ := putF X36 hx hZ hown (host := "") (Or.inl (ww 37 rfl)) Via.refl e36 F37 F39 (Or.inl (ww 38 rfl)) (ww 6 rfl) (ty := .int) (by decide) rfl rfl (g := (mkF m 143 #[vR a1, vR at_, vI 0, vI 0, vI 0, vR ov, vI 1] [(.int 1), (.ref a1)])) rfl rfl (bb d5_143)
  have Fw38 := F37.same W38
  refine gl st38 ?_
  have N38 := Fr.snoc X38 N33 g_a1
  have F40 := (F39.wr W38)
  have F41 := (F35.other W38 (Or.inr (slot_ne (Or.inr (ww 23 rfl)) (Or.inl (ww 38 rfl)) (by decide) (t := .int) (t' := .int) (by decide) (by decide))))
  have F42 := (((F8.keep K15 (ninS ne_a1_ol (ninS ne_a1_oh nin0))).other W33 (Or.inl ne_a1_ov)).other W38 (Or.inr (slot_ne (Or.inl (ww 17 rfl)) (Or.inl (ww 38 rfl)) (by decide) (t := (.array (.array .int))) (t' := .int) (by decide) (by decide))))
  have F43 := ((F24.other W33 (Or.inl ne_a1_ov)).other W38 (Or.inr (slot_ne (Or.inl (ww 21 rfl)) (Or.inl (ww 38 rfl)) (by decide) (t := (.array (.array .char))) (t' := .int) (by decide) (by decide))))
  have F44 := ((F29.other W33 (Or.inl ne_a1_ov)).other W38 (Or.inr (slot_ne (Or.inl (ww 25 rfl)) (Or.inl (ww 38 rfl)) (by decide) (t := (.array .int)) (t' := .int) (by decide) (by decide))))
  have F45 := (((F18.keep K15 (ninS ne_a1_ol (ninS ne_a1_oh nin0))).other W33 (Or.inl ne_a1_ov)).other W38 (Or.inr (slot_ne (Or.inr (ww 27 rfl)) (Or.inl (ww 38 rfl)) (by decide) (t := (.array .int)) (t' := .int) (by decide) (by decide))))
  have F46 := (((F19.keep K15 (ninS ne_a1_ol (ninS ne_a1_oh nin0))).other W33 (Or.inl ne_a1_ov)).other W38 (Or.inr (slot_ne (Or.inr (ww 29 rfl)) (Or.inl (ww 38 rfl)) (by decide) (t := (.array .int)) (t' := .int) (by decide) (by decide))))
  have F47 := (((F10.keep K15 (ninS ne_ow_ol (ninS ne_ow_oh nin0))).other W33 ne_ow_ov).other W38 (Ne.symm ne_a1_ow))
  have F48 := ((F25.other W33 ne_on_ov).other W38 (Ne.symm ne_a1_on))
  have F49 := ((F31.other W33 ne_ob_ov).other W38 (Ne.symm ne_a1_ob))
  have F50 := ((f15_0.other W33 ne_ol_ov).other W38 (Ne.symm ne_a1_ol))
  have F51 := ((f15_1.other W33 ne_oh_ov).other W38 (Ne.symm ne_a1_oh))
  have F52 := (V33.other W38 (Ne.symm ne_a1_ov))
  obtain ⟨fs, hr, hrun, hended, hW, hsame⟩ := X38.leave (v := none) (fun _ => rfl)
  subst hR0
  refine ⟨_, _, ?_, hrun, hended, _, _, rfl, ?_, ⟨_, rfl⟩, hW, hsame.mono (by decide) (by decide)⟩
  · exact X38.returnOut hx hret (bb d5_146) hr
  · show Q_add1N0 Z a1 at_ ow on ob ol oh ov kw_ kn_ kb_ kl_ kh_ kv_ eb0 el0 eu0 ex0 ex1 ex2 ex3 ex4 ex5 ex6 ex7 kt_ et0 h0 n0 _ T38.heap _
    rw [e38]
    exact ⟨rfl, N38, (((((Keep.refl h0 [a1, ob, ol, oh, ov]).trans K4 (allS (Or.inl (List.mem_of_getElem? (i := 1) rfl)) (allS (Or.inl (List.mem_of_getElem? (i := 2) rfl)) (allS (Or.inl (List.mem_of_getElem? (i := 3) rfl)) all0)))).trans K15 (allS (Or.inl (List.mem_of_getElem? (i := 2) rfl)) (allS (Or.inl (List.mem_of_getElem? (i := 3) rfl)) all0))).wr W33 (Or.inl (List.mem_of_getElem? (i := 4) rfl))).wr W38 (Or.inl (List.mem_of_getElem? (i := 0) rfl))), F40, F41, Fw38, F42, F43, F44, F45, F46, F47, r9, F48, r11, F49, F50, F51, (by have q := F52; (try simp only [own_c1] at q); exact q)⟩
def Q_add1N1 (Z : State) (a1 at_ ow on ob ol oh ov : Addr) (kw_ kn_ kb_ kl_ kh_ kv_ : ClassId) (eb0 el0 eu0 ev0_0 ex1 ex2 ex3 ex4 ex5 ex6 ex7 : Int32) (kt_ : ClassId) (et0 : Int32) (h0 : Heap) (n0 : Nat) (v : Option Value) (h : Heap) (L : List Loc) : Prop := v = none ∧ Fr n0 L ∧ Keep h0 h [a1, ob, ol, oh, ov] ∧ Exa Z h a1 cRV ∧ Fld Z h a1 cRV "arity" "I" (.int 1) ∧ Fld Z h a1 cRV "rows" "I" (.int 2) ∧ Fld Z h a1 cRV "wide" "[[I" (.ref ow) ∧ Fld Z h a1 cRV "narrow" "[[C" (.ref on) ∧ Fld Z h a1 cRV "bases" "[I" (.ref ob) ∧ Fld Z h a1 cRV "lowest" "[I" (.ref ol) ∧ Fld Z h a1 cRV "highest" "[I" (.ref oh) ∧ Arv Z h ow kw_ (.array .int) (1 : Int32) [.null] .null ∧ OvrA Z kw_ .int "[I" ∧ Arv Z h on kn_ (.array .char) (1 : Int32) [(.ref ov)] .null ∧ OvrA Z kn_ .char "[C" ∧ Arv Z h ob kb_ .int (1 : Int32) [(.int (nbase eb0 el0 eu0 et0))] (.int 0) ∧ Arv Z h ol kl_ .int (1 : Int32) [(.int (f_minI et0 el0))] (.int 0) ∧ Arv Z h oh kh_ .int (1 : Int32) [(.int (f_maxI et0 eu0))] (.int 0) ∧ Arv Z h ov kv_ .char (8 : Int32) [(.int (nar .char (ev0_0 - (nbase eb0 el0 eu0 et0)))), (.int (nar .char (et0 - (nbase eb0 el0 eu0 et0)))), (.int ex2), (.int ex3), (.int ex4), (.int ex5), (.int ex6), (.int ex7)] (.int 0)
set_option maxRecDepth 65536 in
set_option maxHeartbeats 40000000 in
theorem rm_add1N1 (l : Launch) (Z : State) (a0 : Array Value) (ww : WW a0 Z) (ws : List Jvm.Cond) (a1 at_ ow on ob ol oh ov : Addr) (kw_ kn_ kb_ kl_ kh_ kv_ : ClassId) (eb0 el0 eu0 ev0_0 ex1 ex2 ex3 ex4 ex5 ex6 ex7 : Int32) (kt_ : ClassId) (et0 : Int32) (h0 : Heap) (n0 : Nat) (Z0 : n0 ≤ h0.size) (O0 : Old Z n0 h0) (S_CS : Sta Z Z.heap cRV "CHUNK_SHIFT" "I" (.int (12 : Int32))) (r0 : Exa Z h0 a1 cRV) (r1 : Fld Z h0 a1 cRV "arity" "I" (.int 1)) (r2 : Fld Z h0 a1 cRV "rows" "I" (.int 1)) (r3 : Fld Z h0 a1 cRV "wide" "[[I" (.ref ow)) (r4 : Fld Z h0 a1 cRV "narrow" "[[C" (.ref on)) (r5 : Fld Z h0 a1 cRV "bases" "[I" (.ref ob)) (r6 : Fld Z h0 a1 cRV "lowest" "[I" (.ref ol)) (r7 : Fld Z h0 a1 cRV "highest" "[I" (.ref oh)) (r8 : Arv Z h0 ow kw_ (.array .int) (1 : Int32) [.null] .null) (r9 : OvrA Z kw_ .int "[I") (r10 : Arv Z h0 on kn_ (.array .char) (1 : Int32) [(.ref ov)] .null) (r11 : OvrA Z kn_ .char "[C") (r12 : Arv Z h0 ob kb_ .int (1 : Int32) [(.int eb0)] (.int 0)) (r13 : Arv Z h0 ol kl_ .int (1 : Int32) [(.int el0)] (.int 0)) (r14 : Arv Z h0 oh kh_ .int (1 : Int32) [(.int eu0)] (.int 0)) (r15 : Arv Z h0 ov kv_ .char (8 : Int32) [(.int (nar .char (ev0_0 - eb0))), (.int ex1), (.int ex2), (.int ex3), (.int ex4), (.int ex5), (.int ex6), (.int ex7)] (.int 0)) (r16 : Arv Z h0 at_ kt_ .int (1 : Int32) [(.int et0)] (.int 0)) (g_a1 : n0 ≤ a1) (g_ob : n0 ≤ ob) (g_ol : n0 ≤ ol) (g_oh : n0 ≤ oh) (g_ov : n0 ≤ ov) (ne_a1_ow : a1 ≠ ow) (ne_a1_on : a1 ≠ on) (ne_a1_ob : a1 ≠ ob) (ne_a1_ol : a1 ≠ ol) (ne_a1_oh : a1 ≠ oh) (ne_a1_ov : a1 ≠ ov) (ne_ow_on : ow ≠ on) (ne_ow_ob : ow ≠ ob) (ne_ow_ol : ow ≠ ol) (ne_ow_oh : ow ≠ oh) (ne_ow_ov : ow ≠ ov) (ne_on_ob : on ≠ ob) (ne_on_ol : on ≠ ol) (ne_on_oh : on ≠ oh) (ne_on_ov : on ≠ ov) (ne_ob_ol : ob ≠ ol) (ne_ob_oh : ob ≠ oh) (ne_ob_ov : ob ≠ ov) (ne_ol_oh : ol ≠ oh) (ne_ol_ov : ol ≠ ov) (ne_oh_ov : oh ≠ ov) (ne_at__a1 : at_ ≠ a1) (ne_at__ow : at_ ≠ ow) (ne_at__on : at_ ≠ on) (ne_at__ob : at_ ≠ ob) (ne_at__ol : at_ ≠ ol) (ne_at__oh : at_ ≠ oh) (ne_at__ov : at_ ≠ ov) (hs0 : (lcmpW (((f_maxI et0 eu0).toInt64) - ((f_minI et0 el0).toInt64)) (65536 : Int64)) < (0 : Int32)) :
    MF l Z (⟨cRV, "add", "([I)V"⟩ : MethodName) prog_47_method_4_code 7 none ws ({ frames := 3, cells := 0, slots := 0, locals := 52 } : Room) #[(.ref a1), (.ref at_)] h0 (Q_add1N1 Z a1 at_ ow on ob ol oh ov kw_ kn_ kb_ kl_ kh_ kv_ eb0 el0 eu0 ev0_0 ex1 ex2 ex3 ex4 ex5 ex6 ex7 kt_ et0 h0 n0) := by
  refine gopen (plainFor_of_name pn_RowValues) (fun m => ef_add1N1 m a1 at_) (fun p e s m below meth c s₁ hlk hret hx bb hml hown hnm hZ X0 e0 R0 hR0 => ?_)
  have N0 := Fr.nil n0
  refine g_aloadN X0 hx (bb d5_0) rfl rfl ?_
  refine gF X0 hx hZ hown (ww 37 rfl) e0 r2 (bb d5_1) (fun T1 X1 e1 => ?_)
  refine gS X1 hx hZ hown (ww 44 rfl) e1 (S_CS.ext O0.2) (bb d5_4) (fun T2 X2 e2 => ?_)
  refine g_iushr X2 hx (bb d5_7) ?_
  refine g_istoreN X2 hx (bb d5_8) (l' := #[vR a1, vR at_, vI 0, .unset, .unset, .unset, .unset]) rfl ?_
  refine g_aloadN X2 hx (bb d5_9) rfl rfl ?_
  refine gF X2 hx hZ hown (ww 37 rfl) e2 r2 (bb d5_10) (fun T3 X3 e3 => ?_)
  refine g_sipush X3 hx (bb d5_13) ?_
  refine g_iand X3 hx (bb d5_16) ?_
  refine g_istoreN X3 hx (bb d5_17) (l' := #[vR a1, vR at_, vI 0, vI 1, .unset, .unset, .unset]) rfl ?_
  refine g_iloadN X3 hx (bb d5_18) rfl ?_
  refine g_ifYes X3 hx (pc' := 28) (bb d5_19) ((if0 _ _).trans (feq (by decide : ¬ ((1 : Int32) = (0 : Int32)))).2) (by decide) (by decide) ?_
  refine g_aloadN X3 hx (bb d5_28) rfl rfl ?_
  refine g_iloadN X3 hx (bb d5_29) rfl ?_
  refine g_iloadN X3 hx (bb d5_30) rfl ?_
  refine gcP X3 hx hZ hml hown (ww 64 rfl) (ww 7 rfl) (ww 67 rfl) (ww 6 rfl) (ww 65 rfl) (ww 66 rfl) e3 r0 (rm_room1N1 l Z a0 ww [] a1 ow on ob ol oh ov kw_ kn_ kb_ kl_ kh_ kv_ eb0 el0 eu0 ev0_0 ex1 ex2 ex3 ex4 ex5 ex6 ex7 h0 n0 (own_z0 O0) O0 S_CS r0 r1 r3 r4 r8 r10 r15) pd__II_V_5 (bb d5_31) 0 rfl (fun T4 L4 v4 X4 hQ4 => ?_)
  obtain ⟨rfl, N4q, e4⟩ := hQ4
  have N4 := Fr.app N0 N4q
  refine g_aloadN X4 hx (bb d5_34) rfl rfl ?_
  refine gF X4 hx hZ hown (ww 20 rfl) e4 r4 (bb d5_35) (fun T5 X5 e5 => ?_)
  refine g_iloadN X5 hx (bb d5_38) rfl ?_
  refine gLr rfl X5 hx hZ e5 r10 (v := (.ref ov)) ⟨by decide, by decide⟩ rfl (bb d5_39) ?_
  refine g_ifnullNo X5 hx (bb d5_40) ?_
  refine g_aloadN X5 hx (bb d5_43) rfl rfl ?_
  refine g_iloadN X5 hx (bb d5_44) rfl ?_
  refine g_iloadN X5 hx (bb d5_45) rfl ?_
  refine g_aloadN X5 hx (bb d5_46) rfl rfl ?_
  refine gcP X5 hx hZ hml hown (ww 71 rfl) (ww 7 rfl) (ww 74 rfl) (ww 6 rfl) (ww 72 rfl) (ww 73 rfl) e5 r0 (rm_fit1_1 l Z a0 ww [] a1 at_ ow on ob ol oh ov kw_ kn_ kb_ kl_ kh_ kv_ eb0 el0 eu0 ev0_0 ex1 ex2 ex3 ex4 ex5 ex6 ex7 kt_ et0 h0 n0 (own_z0 O0) O0 S_CS r0 r1 r2 r3 r4 r5 r6 r7 r8 r9 r10 r11 r12 r13 r14 r15 r16 g_ob g_ol g_oh g_ov ne_a1_ow ne_a1_on ne_a1_ob ne_a1_ol ne_a1_oh ne_a1_ov ne_ow_on ne_ow_ob ne_ow_ol ne_ow_oh ne_ow_ov ne_on_ob ne_on_ol ne_on_oh ne_on_ov ne_ob_ol ne_ob_oh ne_ob_ov ne_ol_oh ne_ol_ov ne_oh_ov ne_at__a1 ne_at__ow ne_at__on ne_at__ob ne_at__ol ne_at__oh ne_at__ov hs0) pd__II_I_V_7 (bb d5_47) 0 rfl (fun T6 L6 v6 X6 hQ6 => ?_)
  obtain ⟨rfl, N6q, K6, f6_0, f6_1, f6_2, f6_3⟩ := hQ6
  have N6 := Fr.app N4 N6q
  refine g_iloadN X6 hx (bb d5_50) rfl ?_
  refine g_aloadN X6 hx (bb d5_51) rfl rfl ?_
  have F8 := (r1.keep K6 (ninS ne_a1_ob (ninS ne_a1_ol (ninS ne_a1_oh (ninS ne_a1_ov nin0)))))
  refine gF X6 hx hZ hown (ww 22 rfl) rfl F8 (bb d5_52) (fun T7 X7 e7 => ?_)
  refine g_imul X7 hx (bb d5_55) ?_
  refine g_istore X7 hx (bb d5_56) (l' := #[vR a1, vR at_, vI 0, vI 1, vI 1, .unset, .unset]) rfl ?_
  refine g_aloadN X7 hx (bb d5_58) rfl rfl ?_
  have F10 := (r4.keep K6 (ninS ne_a1_ob (ninS ne_a1_ol (ninS ne_a1_oh (ninS ne_a1_ov nin0)))))
  refine gF X7 hx hZ hown (ww 20 rfl) e7 F10 (bb d5_59) (fun T9 X9 e9 => ?_)
  refine g_iloadN X9 hx (bb d5_62) rfl ?_
  have F11 := (r10.keep K6 (ninS ne_on_ob (ninS ne_on_ol (ninS ne_on_oh (ninS ne_on_ov nin0)))))
  refine gLr rfl X9 hx hZ e9 F11 (v := (.ref ov)) ⟨by decide, by decide⟩ rfl (bb d5_63) ?_
  refine g_astore X9 hx (bb d5_64) rfl (l' := #[vR a1, vR at_, vI 0, vI 1, vI 1, vR ov, .unset]) rfl ?_
  refine g_iconst X9 hx (bb d5_66) ?_
  refine g_istore X9 hx (bb d5_67) (l' := #[vR a1, vR at_, vI 0, vI 1, vI 1, vR ov, vI 0]) rfl ?_
  refine g_iload X9 hx (bb d5_69) rfl ?_
  refine g_aloadN X9 hx (bb d5_71) rfl rfl ?_
  refine gF X9 hx hZ hown (ww 22 rfl) e9 F8 (bb d5_72) (fun T12 X12 e12 => ?_)
  refine g_icmpNo X12 hx (bb d5_75) (tlt (by decide : (0 : Int32) < (1 : Int32))).2.1 ?_
  refine g_aload X12 hx (bb d5_78) rfl rfl ?_
  refine g_ifnullNo X12 hx (bb d5_80) ?_
  refine g_aload X12 hx (bb d5_83) rfl rfl ?_
  refine g_iload X12 hx (bb d5_85) rfl ?_
  refine g_iload X12 hx (bb d5_87) rfl ?_
  refine g_iadd X12 hx (bb d5_89) ?_
  refine g_aloadN X12 hx (bb d5_90) rfl rfl ?_
  refine g_iload X12 hx (bb d5_91) rfl ?_
  have F13 := (r16.keep K6 (ninS ne_at__ob (ninS ne_at__ol (ninS ne_at__oh (ninS ne_at__ov nin0)))))
  refine gLi X12 hx hZ e12 F13 (v := (.int et0)) ⟨by decide, by decide⟩ rfl (bb d5_93) ?_
  refine g_aloadN X12 hx (bb d5_94) rfl rfl ?_
  have F15 := (r5.keep K6 (ninS ne_a1_ob (ninS ne_a1_ol (ninS ne_a1_oh (ninS ne_a1_ov nin0)))))
  refine gF X12 hx hZ hown (ww 24 rfl) e12 F15 (bb d5_95) (fun T14 X14 e14 => ?_)
  refine g_iloadN X14 hx (bb d5_98) rfl ?_
  refine g_aloadN X14 hx (bb d5_99) rfl rfl ?_
  refine gF X14 hx hZ hown (ww 22 rfl) e14 F8 (bb d5_100) (fun T16 X16 e16 => ?_)
  refine g_imul X16 hx (bb d5_103) ?_
  refine g_iload X16 hx (bb d5_104) rfl ?_
  refine g_iadd X16 hx (bb d5_106) ?_
  refine gLi X16 hx hZ e16 f6_2 (v := (.int (nbase eb0 el0 eu0 et0))) ⟨by decide, by decide⟩ rfl (bb d5_107) ?_
  refine g_isub X16 hx (bb d5_108) ?_
  refine g_i2c X16 hx (bb d5_109) ?_
  refine gSc X16 hx hZ e16 f6_3 ⟨by decide, by decide⟩ 1 rfl (Nat.le_of_ble_eq_true rfl) N6 g_ov (bb d5_110) (fun T17 h17 X17 e17 W17 V17 N17 => ?_)
  refine g_goto X17 hx (pc' := 130) (bb d5_111) (by decide) (by decide) ?_
  refine g_iinc X17 hx (bb d5_130) rfl (l' := #[vR a1, vR at_, vI 0, vI 1, vI 1, vR ov, vI 1]) rfl ?_
  refine g_goto X17 hx (pc' := 69) (bb d5_133) (by decide) (by decide) ?_
  refine g_iload X17 hx (bb d5_69) rfl ?_
  refine g_aloadN X17 hx (bb d5_71) rfl rfl ?_
  have F19 := (F8.other W17 (Or.inl ne_a1_ov))
  refine gF X17 hx hZ hown (ww 22 rfl) e17 F19 (bb d5_72) (fun T18 X18 e18 => ?_)
  refine g_icmpYes X18 hx (pc' := 136) (bb d5_75) (flt (by decide : ¬ ((1 : Int32) < (1 : Int32)))).2.1 (by decide) (by decide) ?_
  refine g_aloadN X18 hx (bb d5_136) rfl rfl ?_
  refine g_dup X18 hx (bb d5_137) rfl ?_
  have F21 := ((r2.keep K6 (ninS ne_a1_ob (ninS ne_a1_ol (ninS ne_a1_oh (ninS ne_a1_ov nin0))))).other W17 (Or.inl ne_a1_ov))
  refine gF X18 hx hZ hown (ww 37 rfl) e18 F21 (bb d5_138) (fun T20 X20 e20 => ?_)
  refine g_iconst X20 hx (bb d5_141) ?_
  refine g_iadd X20 hx (bb d5_142) ?_
  have F23 := ((r0.keep K6).wr W17)
  obtain ⟨T22, h22, X22, e22, W22, st22⟩ := putF X20 hx hZ hown (host := "") (Or.inl (ww 37 rfl)) Via.refl e20 F21 F23 (Or.inl (ww 38 rfl)) (ww 6 rfl) (ty := .int) (by decide) rfl rfl (g := (mkF m 143 #[vR a1, vR at_, vI 0, vI 1, vI 1, vR ov, vI 1] [(.int 2), (.ref a1)])) rfl rfl (bb d5_143)
  have Fw22 := F21.same W22
  refine gl st22 ?_
  have N22 := Fr.snoc X22 N17 g_a1
  have F24 := (F23.wr W22)
  have F25 := (F19.other W22 (Or.inr (slot_ne (Or.inr (ww 23 rfl)) (Or.inl (ww 38 rfl)) (by decide) (t := .int) (t' := .int) (by decide) (by decide))))
  have F26 := (((r3.keep K6 (ninS ne_a1_ob (ninS ne_a1_ol (ninS ne_a1_oh (ninS ne_a1_ov nin0))))).other W17 (Or.inl ne_a1_ov)).other W22 (Or.inr (slot_ne (Or.inl (ww 17 rfl)) (Or.inl (ww 38 rfl)) (by decide) (t := (.array (.array .int))) (t' := .int) (by decide) (by decide))))
  have F27 := ((F10.other W17 (Or.inl ne_a1_ov)).other W22 (Or.inr (slot_ne (Or.inl (ww 21 rfl)) (Or.inl (ww 38 rfl)) (by decide) (t := (.array (.array .char))) (t' := .int) (by decide) (by decide))))
  have F28 := ((F15.other W17 (Or.inl ne_a1_ov)).other W22 (Or.inr (slot_ne (Or.inl (ww 25 rfl)) (Or.inl (ww 38 rfl)) (by decide) (t := (.array .int)) (t' := .int) (by decide) (by decide))))
  have F29 := (((r6.keep K6 (ninS ne_a1_ob (ninS ne_a1_ol (ninS ne_a1_oh (ninS ne_a1_ov nin0))))).other W17 (Or.inl ne_a1_ov)).other W22 (Or.inr (slot_ne (Or.inr (ww 27 rfl)) (Or.inl (ww 38 rfl)) (by decide) (t := (.array .int)) (t' := .int) (by decide) (by decide))))
  have F30 := (((r7.keep K6 (ninS ne_a1_ob (ninS ne_a1_ol (ninS ne_a1_oh (ninS ne_a1_ov nin0))))).other W17 (Or.inl ne_a1_ov)).other W22 (Or.inr (slot_ne (Or.inr (ww 29 rfl)) (Or.inl (ww 38 rfl)) (by decide) (t := (.array .int)) (t' := .int) (by decide) (by decide))))
  have F31 := (((r8.keep K6 (ninS ne_ow_ob (ninS ne_ow_ol (ninS ne_ow_oh (ninS ne_ow_ov nin0))))).other W17 ne_ow_ov).other W22 (Ne.symm ne_a1_ow))
  have F32 := ((F11.other W17 ne_on_ov).other W22 (Ne.symm ne_a1_on))
  have F33 := ((f6_2.other W17 ne_ob_ov).other W22 (Ne.symm ne_a1_ob))
  have F34 := ((f6_0.other W17 ne_ol_ov).other W22 (Ne.symm ne_a1_ol))
  have F35 := ((f6_1.other W17 ne_oh_ov).other W22 (Ne.symm ne_a1_oh))
  have F36 := (V17.other W22 (Ne.symm ne_a1_ov))
  obtain ⟨fs, hr, hrun, hended, hW, hsame⟩ := X22.leave (v := none) (fun _ => rfl)
  subst hR0
  refine ⟨_, _, ?_, hrun, hended, _, _, rfl, ?_, ⟨_, rfl⟩, hW, hsame.mono (by decide) (by decide)⟩
  · exact X22.returnOut hx hret (bb d5_146) hr
  · show Q_add1N1 Z a1 at_ ow on ob ol oh ov kw_ kn_ kb_ kl_ kh_ kv_ eb0 el0 eu0 ev0_0 ex1 ex2 ex3 ex4 ex5 ex6 ex7 kt_ et0 h0 n0 _ T22.heap _
    rw [e22]
    exact ⟨rfl, N22, ((((Keep.refl h0 [a1, ob, ol, oh, ov]).trans K6 (allS (Or.inl (List.mem_of_getElem? (i := 1) rfl)) (allS (Or.inl (List.mem_of_getElem? (i := 2) rfl)) (allS (Or.inl (List.mem_of_getElem? (i := 3) rfl)) (allS (Or.inl (List.mem_of_getElem? (i := 4) rfl)) all0))))).wr W17 (Or.inl (List.mem_of_getElem? (i := 4) rfl))).wr W22 (Or.inl (List.mem_of_getElem? (i := 0) rfl))), F24, F25, Fw22, F26, F27, F28, F29, F30, F31, r9, F32, r11, F33, F34, F35, (by have q := F36; (try simp only [own_c1] at q); exact q)⟩
def Q_add1N2 (Z : State) (a1 at_ ow on ob ol oh ov : Addr) (kw_ kn_ kb_ kl_ kh_ kv_ : ClassId) (eb0 el0 eu0 ev0_0 ev1_0 ex2 ex3 ex4 ex5 ex6 ex7 : Int32) (kt_ : ClassId) (et0 : Int32) (h0 : Heap) (n0 : Nat) (v : Option Value) (h : Heap) (L : List Loc) : Prop := v = none ∧ Fr n0 L ∧ Keep h0 h [a1, ob, ol, oh, ov] ∧ Exa Z h a1 cRV ∧ Fld Z h a1 cRV "arity" "I" (.int 1) ∧ Fld Z h a1 cRV "rows" "I" (.int 3) ∧ Fld Z h a1 cRV "wide" "[[I" (.ref ow) ∧ Fld Z h a1 cRV "narrow" "[[C" (.ref on) ∧ Fld Z h a1 cRV "bases" "[I" (.ref ob) ∧ Fld Z h a1 cRV "lowest" "[I" (.ref ol) ∧ Fld Z h a1 cRV "highest" "[I" (.ref oh) ∧ Arv Z h ow kw_ (.array .int) (1 : Int32) [.null] .null ∧ OvrA Z kw_ .int "[I" ∧ Arv Z h on kn_ (.array .char) (1 : Int32) [(.ref ov)] .null ∧ OvrA Z kn_ .char "[C" ∧ Arv Z h ob kb_ .int (1 : Int32) [(.int (nbase eb0 el0 eu0 et0))] (.int 0) ∧ Arv Z h ol kl_ .int (1 : Int32) [(.int (f_minI et0 el0))] (.int 0) ∧ Arv Z h oh kh_ .int (1 : Int32) [(.int (f_maxI et0 eu0))] (.int 0) ∧ Arv Z h ov kv_ .char (8 : Int32) [(.int (nar .char (ev0_0 - (nbase eb0 el0 eu0 et0)))), (.int (nar .char (ev1_0 - (nbase eb0 el0 eu0 et0)))), (.int (nar .char (et0 - (nbase eb0 el0 eu0 et0)))), (.int ex3), (.int ex4), (.int ex5), (.int ex6), (.int ex7)] (.int 0)
set_option maxRecDepth 65536 in
set_option maxHeartbeats 40000000 in
theorem rm_add1N2 (l : Launch) (Z : State) (a0 : Array Value) (ww : WW a0 Z) (ws : List Jvm.Cond) (a1 at_ ow on ob ol oh ov : Addr) (kw_ kn_ kb_ kl_ kh_ kv_ : ClassId) (eb0 el0 eu0 ev0_0 ev1_0 ex2 ex3 ex4 ex5 ex6 ex7 : Int32) (kt_ : ClassId) (et0 : Int32) (h0 : Heap) (n0 : Nat) (Z0 : n0 ≤ h0.size) (O0 : Old Z n0 h0) (S_CS : Sta Z Z.heap cRV "CHUNK_SHIFT" "I" (.int (12 : Int32))) (r0 : Exa Z h0 a1 cRV) (r1 : Fld Z h0 a1 cRV "arity" "I" (.int 1)) (r2 : Fld Z h0 a1 cRV "rows" "I" (.int 2)) (r3 : Fld Z h0 a1 cRV "wide" "[[I" (.ref ow)) (r4 : Fld Z h0 a1 cRV "narrow" "[[C" (.ref on)) (r5 : Fld Z h0 a1 cRV "bases" "[I" (.ref ob)) (r6 : Fld Z h0 a1 cRV "lowest" "[I" (.ref ol)) (r7 : Fld Z h0 a1 cRV "highest" "[I" (.ref oh)) (r8 : Arv Z h0 ow kw_ (.array .int) (1 : Int32) [.null] .null) (r9 : OvrA Z kw_ .int "[I") (r10 : Arv Z h0 on kn_ (.array .char) (1 : Int32) [(.ref ov)] .null) (r11 : OvrA Z kn_ .char "[C") (r12 : Arv Z h0 ob kb_ .int (1 : Int32) [(.int eb0)] (.int 0)) (r13 : Arv Z h0 ol kl_ .int (1 : Int32) [(.int el0)] (.int 0)) (r14 : Arv Z h0 oh kh_ .int (1 : Int32) [(.int eu0)] (.int 0)) (r15 : Arv Z h0 ov kv_ .char (8 : Int32) [(.int (nar .char (ev0_0 - eb0))), (.int (nar .char (ev1_0 - eb0))), (.int ex2), (.int ex3), (.int ex4), (.int ex5), (.int ex6), (.int ex7)] (.int 0)) (r16 : Arv Z h0 at_ kt_ .int (1 : Int32) [(.int et0)] (.int 0)) (g_a1 : n0 ≤ a1) (g_ob : n0 ≤ ob) (g_ol : n0 ≤ ol) (g_oh : n0 ≤ oh) (g_ov : n0 ≤ ov) (ne_a1_ow : a1 ≠ ow) (ne_a1_on : a1 ≠ on) (ne_a1_ob : a1 ≠ ob) (ne_a1_ol : a1 ≠ ol) (ne_a1_oh : a1 ≠ oh) (ne_a1_ov : a1 ≠ ov) (ne_ow_on : ow ≠ on) (ne_ow_ob : ow ≠ ob) (ne_ow_ol : ow ≠ ol) (ne_ow_oh : ow ≠ oh) (ne_ow_ov : ow ≠ ov) (ne_on_ob : on ≠ ob) (ne_on_ol : on ≠ ol) (ne_on_oh : on ≠ oh) (ne_on_ov : on ≠ ov) (ne_ob_ol : ob ≠ ol) (ne_ob_oh : ob ≠ oh) (ne_ob_ov : ob ≠ ov) (ne_ol_oh : ol ≠ oh) (ne_ol_ov : ol ≠ ov) (ne_oh_ov : oh ≠ ov) (ne_at__a1 : at_ ≠ a1) (ne_at__ow : at_ ≠ ow) (ne_at__on : at_ ≠ on) (ne_at__ob : at_ ≠ ob) (ne_at__ol : at_ ≠ ol) (ne_at__oh : at_ ≠ oh) (ne_at__ov : at_ ≠ ov) (hs0 : (lcmpW (((f_maxI et0 eu0).toInt64) - ((f_minI et0 el0).toInt64)) (65536 : Int64)) < (0 : Int32)) :
    MF l Z (⟨cRV, "add", "([I)V"⟩ : MethodName) prog_47_method_4_code 7 none ws ({ frames := 3, cells := 0, slots := 0, locals := 52 } : Room) #[(.ref a1), (.ref at_)] h0 (Q_add1N2 Z a1 at_ ow on ob ol oh ov kw_ kn_ kb_ kl_ kh_ kv_ eb0 el0 eu0 ev0_0 ev1_0 ex2 ex3 ex4 ex5 ex6 ex7 kt_ et0 h0 n0) := by
  refine gopen (plainFor_of_name pn_RowValues) (fun m => ef_add1N2 m a1 at_) (fun p e s m below meth c s₁ hlk hret hx bb hml hown hnm hZ X0 e0 R0 hR0 => ?_)
  have N0 := Fr.nil n0
  refine g_aloadN X0 hx (bb d5_0) rfl rfl ?_
  refine gF X0 hx hZ hown (ww 37 rfl) e0 r2 (bb d5_1) (fun T1 X1 e1 => ?_)
  refine gS X1 hx hZ hown (ww 44 rfl) e1 (S_CS.ext O0.2) (bb d5_4) (fun T2 X2 e2 => ?_)
  refine g_iushr X2 hx (bb d5_7) ?_
  refine g_istoreN X2 hx (bb d5_8) (l' := #[vR a1, vR at_, vI 0, .unset, .unset, .unset, .unset]) rfl ?_
  refine g_aloadN X2 hx (bb d5_9) rfl rfl ?_
  refine gF X2 hx hZ hown (ww 37 rfl) e2 r2 (bb d5_10) (fun T3 X3 e3 => ?_)
  refine g_sipush X3 hx (bb d5_13) ?_
  refine g_iand X3 hx (bb d5_16) ?_
  refine g_istoreN X3 hx (bb d5_17) (l' := #[vR a1, vR at_, vI 0, vI 2, .unset, .unset, .unset]) rfl ?_
  refine g_iloadN X3 hx (bb d5_18) rfl ?_
  refine g_ifYes X3 hx (pc' := 28) (bb d5_19) ((if0 _ _).trans (feq (by decide : ¬ ((2 : Int32) = (0 : Int32)))).2) (by decide) (by decide) ?_
  refine g_aloadN X3 hx (bb d5_28) rfl rfl ?_
  refine g_iloadN X3 hx (bb d5_29) rfl ?_
  refine g_iloadN X3 hx (bb d5_30) rfl ?_
  refine gcP X3 hx hZ hml hown (ww 64 rfl) (ww 7 rfl) (ww 67 rfl) (ww 6 rfl) (ww 65 rfl) (ww 66 rfl) e3 r0 (rm_room1N2 l Z a0 ww [] a1 ow on ob ol oh ov kw_ kn_ kb_ kl_ kh_ kv_ eb0 el0 eu0 ev0_0 ev1_0 ex2 ex3 ex4 ex5 ex6 ex7 h0 n0 (own_z0 O0) O0 S_CS r0 r1 r3 r4 r8 r10 r15) pd__II_V_5 (bb d5_31) 0 rfl (fun T4 L4 v4 X4 hQ4 => ?_)
  obtain ⟨rfl, N4q, e4⟩ := hQ4
  have N4 := Fr.app N0 N4q
  refine g_aloadN X4 hx (bb d5_34) rfl rfl ?_
  refine gF X4 hx hZ hown (ww 20 rfl) e4 r4 (bb d5_35) (fun T5 X5 e5 => ?_)
  refine g_iloadN X5 hx (bb d5_38) rfl ?_
  refine gLr rfl X5 hx hZ e5 r10 (v := (.ref ov)) ⟨by decide, by decide⟩ rfl (bb d5_39) ?_
  refine g_ifnullNo X5 hx (bb d5_40) ?_
  refine g_aloadN X5 hx (bb d5_43) rfl rfl ?_
  refine g_iloadN X5 hx (bb d5_44) rfl ?_
  refine g_iloadN X5 hx (bb d5_45) rfl ?_
  refine g_aloadN X5 hx (bb d5_46) rfl rfl ?_
  refine gcP X5 hx hZ hml hown (ww 71 rfl) (ww 7 rfl) (ww 74 rfl) (ww 6 rfl) (ww 72 rfl) (ww 73 rfl) e5 r0 (rm_fit1_2 l Z a0 ww [] a1 at_ ow on ob ol oh ov kw_ kn_ kb_ kl_ kh_ kv_ eb0 el0 eu0 ev0_0 ev1_0 ex2 ex3 ex4 ex5 ex6 ex7 kt_ et0 h0 n0 (own_z0 O0) O0 S_CS r0 r1 r2 r3 r4 r5 r6 r7 r8 r9 r10 r11 r12 r13 r14 r15 r16 g_ob g_ol g_oh g_ov ne_a1_ow ne_a1_on ne_a1_ob ne_a1_ol ne_a1_oh ne_a1_ov ne_ow_on ne_ow_ob ne_ow_ol ne_ow_oh ne_ow_ov ne_on_ob ne_on_ol ne_on_oh ne_on_ov ne_ob_ol ne_ob_oh ne_ob_ov ne_ol_oh ne_ol_ov ne_oh_ov ne_at__a1 ne_at__ow ne_at__on ne_at__ob ne_at__ol ne_at__oh ne_at__ov hs0) pd__II_I_V_7 (bb d5_47) 0 rfl (fun T6 L6 v6 X6 hQ6 => ?_)
  obtain ⟨rfl, N6q, K6, f6_0, f6_1, f6_2, f6_3⟩ := hQ6
  have N6 := Fr.app N4 N6q
  refine g_iloadN X6 hx (bb d5_50) rfl ?_
  refine g_aloadN X6 hx (bb d5_51) rfl rfl ?_
  have F8 := (r1.keep K6 (ninS ne_a1_ob (ninS ne_a1_ol (ninS ne_a1_oh (ninS ne_a1_ov nin0)))))
  refine gF X6 hx hZ hown (ww 22 rfl) rfl F8 (bb d5_52) (fun T7 X7 e7 => ?_)
  refine g_imul X7 hx (bb d5_55) ?_
  refine g_istore X7 hx (bb d5_56) (l' := #[vR a1, vR at_, vI 0, vI 2, vI 2, .unset, .unset]) rfl ?_
  refine g_aloadN X7 hx (bb d5_58) rfl rfl ?_
  have F10 := (r4.keep K6 (ninS ne_a1_ob (ninS ne_a1_ol (ninS ne_a1_oh (ninS ne_a1_ov nin0)))))
  refine gF X7 hx hZ hown (ww 20 rfl) e7 F10 (bb d5_59) (fun T9 X9 e9 => ?_)
  refine g_iloadN X9 hx (bb d5_62) rfl ?_
  have F11 := (r10.keep K6 (ninS ne_on_ob (ninS ne_on_ol (ninS ne_on_oh (ninS ne_on_ov nin0)))))
  refine gLr rfl X9 hx hZ e9 F11 (v := (.ref ov)) ⟨by decide, by decide⟩ rfl (bb d5_63) ?_
  refine g_astore X9 hx (bb d5_64) rfl (l' := #[vR a1, vR at_, vI 0, vI 2, vI 2, vR ov, .unset]) rfl ?_
  refine g_iconst X9 hx (bb d5_66) ?_
  refine g_istore X9 hx (bb d5_67) (l' := #[vR a1, vR at_, vI 0, vI 2, vI 2, vR ov, vI 0]) rfl ?_
  refine g_iload X9 hx (bb d5_69) rfl ?_
  refine g_aloadN X9 hx (bb d5_71) rfl rfl ?_
  refine gF X9 hx hZ hown (ww 22 rfl) e9 F8 (bb d5_72) (fun T12 X12 e12 => ?_)
  refine g_icmpNo X12 hx (bb d5_75) (tlt (by decide : (0 : Int32) < (1 : Int32))).2.1 ?_
  refine g_aload X12 hx (bb d5_78) rfl rfl ?_
  refine g_ifnullNo X12 hx (bb d5_80) ?_
  refine g_aload X12 hx (bb d5_83) rfl rfl ?_
  refine g_iload X12 hx (bb d5_85) rfl ?_
  refine g_iload X12 hx (bb d5_87) rfl ?_
  refine g_iadd X12 hx (bb d5_89) ?_
  refine g_aloadN X12 hx (bb d5_90) rfl rfl ?_
  refine g_iload X12 hx (bb d5_91) rfl ?_
  have F13 := (r16.keep K6 (ninS ne_at__ob (ninS ne_at__ol (ninS ne_at__oh (ninS ne_at__ov nin0)))))
  refine gLi X12 hx hZ e12 F13 (v := (.int et0)) ⟨by decide, by decide⟩ rfl (bb d5_93) ?_
  refine g_aloadN X12 hx (bb d5_94) rfl rfl ?_
  have F15 := (r5.keep K6 (ninS ne_a1_ob (ninS ne_a1_ol (ninS ne_a1_oh (ninS ne_a1_ov nin0)))))
  refine gF X12 hx hZ hown (ww 24 rfl) e12 F15 (bb d5_95) (fun T14 X14 e14 => ?_)
  refine g_iloadN X14 hx (bb d5_98) rfl ?_
  refine g_aloadN X14 hx (bb d5_99) rfl rfl ?_
  refine gF X14 hx hZ hown (ww 22 rfl) e14 F8 (bb d5_100) (fun T16 X16 e16 => ?_)
  refine g_imul X16 hx (bb d5_103) ?_
  refine g_iload X16 hx (bb d5_104) rfl ?_
  refine g_iadd X16 hx (bb d5_106) ?_
  refine gLi X16 hx hZ e16 f6_2 (v := (.int (nbase eb0 el0 eu0 et0))) ⟨by decide, by decide⟩ rfl (bb d5_107) ?_
  refine g_isub X16 hx (bb d5_108) ?_
  refine g_i2c X16 hx (bb d5_109) ?_
  refine gSc X16 hx hZ e16 f6_3 ⟨by decide, by decide⟩ 2 rfl (Nat.le_of_ble_eq_true rfl) N6 g_ov (bb d5_110) (fun T17 h17 X17 e17 W17 V17 N17 => ?_)
  refine g_goto X17 hx (pc' := 130) (bb d5_111) (by decide) (by decide) ?_
  refine g_iinc X17 hx (bb d5_130) rfl (l' := #[vR a1, vR at_, vI 0, vI 2, vI 2, vR ov, vI 1]) rfl ?_
  refine g_goto X17 hx (pc' := 69) (bb d5_133) (by decide) (by decide) ?_
  refine g_iload X17 hx (bb d5_69) rfl ?_
  refine g_aloadN X17 hx (bb d5_71) rfl rfl ?_
  have F19 := (F8.other W17 (Or.inl ne_a1_ov))
  refine gF X17 hx hZ hown (ww 22 rfl) e17 F19 (bb d5_72) (fun T18 X18 e18 => ?_)
  refine g_icmpYes X18 hx (pc' := 136) (bb d5_75) (flt (by decide : ¬ ((1 : Int32) < (1 : Int32)))).2.1 (by decide) (by decide) ?_
  refine g_aloadN X18 hx (bb d5_136) rfl rfl ?_
  refine g_dup X18 hx (bb d5_137) rfl ?_
  have F21 := ((r2.keep K6 (ninS ne_a1_ob (ninS ne_a1_ol (ninS ne_a1_oh (ninS ne_a1_ov nin0))))).other W17 (Or.inl ne_a1_ov))
  refine gF X18 hx hZ hown (ww 37 rfl) e18 F21 (bb d5_138) (fun T20 X20 e20 => ?_)
  refine g_iconst X20 hx (bb d5_141) ?_
  refine g_iadd X20 hx (bb d5_142) ?_
  have F23 := ((r0.keep K6).wr W17)
  obtain ⟨T22, h22, X22, e22, W22, st22⟩ := putF X20 hx hZ hown (host := "") (Or.inl (ww 37 rfl)) Via.refl e20 F21 F23 (Or.inl (ww 38 rfl)) (ww 6 rfl) (ty := .int) (by decide) rfl rfl (g := (mkF m 143 #[vR a1, vR at_, vI 0, vI 2, vI 2, vR ov, vI 1] [(.int 3), (.ref a1)])) rfl rfl (bb d5_143)
  have Fw22 := F21.same W22
  refine gl st22 ?_
  have N22 := Fr.snoc X22 N17 g_a1
  have F24 := (F23.wr W22)
  have F25 := (F19.other W22 (Or.inr (slot_ne (Or.inr (ww 23 rfl)) (Or.inl (ww 38 rfl)) (by decide) (t := .int) (t' := .int) (by decide) (by decide))))
  have F26 := (((r3.keep K6 (ninS ne_a1_ob (ninS ne_a1_ol (ninS ne_a1_oh (ninS ne_a1_ov nin0))))).other W17 (Or.inl ne_a1_ov)).other W22 (Or.inr (slot_ne (Or.inl (ww 17 rfl)) (Or.inl (ww 38 rfl)) (by decide) (t := (.array (.array .int))) (t' := .int) (by decide) (by decide))))
  have F27 := ((F10.other W17 (Or.inl ne_a1_ov)).other W22 (Or.inr (slot_ne (Or.inl (ww 21 rfl)) (Or.inl (ww 38 rfl)) (by decide) (t := (.array (.array .char))) (t' := .int) (by decide) (by decide))))
  have F28 := ((F15.other W17 (Or.inl ne_a1_ov)).other W22 (Or.inr (slot_ne (Or.inl (ww 25 rfl)) (Or.inl (ww 38 rfl)) (by decide) (t := (.array .int)) (t' := .int) (by decide) (by decide))))
  have F29 := (((r6.keep K6 (ninS ne_a1_ob (ninS ne_a1_ol (ninS ne_a1_oh (ninS ne_a1_ov nin0))))).other W17 (Or.inl ne_a1_ov)).other W22 (Or.inr (slot_ne (Or.inr (ww 27 rfl)) (Or.inl (ww 38 rfl)) (by decide) (t := (.array .int)) (t' := .int) (by decide) (by decide))))
  have F30 := (((r7.keep K6 (ninS ne_a1_ob (ninS ne_a1_ol (ninS ne_a1_oh (ninS ne_a1_ov nin0))))).other W17 (Or.inl ne_a1_ov)).other W22 (Or.inr (slot_ne (Or.inr (ww 29 rfl)) (Or.inl (ww 38 rfl)) (by decide) (t := (.array .int)) (t' := .int) (by decide) (by decide))))
  have F31 := (((r8.keep K6 (ninS ne_ow_ob (ninS ne_ow_ol (ninS ne_ow_oh (ninS ne_ow_ov nin0))))).other W17 ne_ow_ov).other W22 (Ne.symm ne_a1_ow))
  have F32 := ((F11.other W17 ne_on_ov).other W22 (Ne.symm ne_a1_on))
  have F33 := ((f6_2.other W17 ne_ob_ov).other W22 (Ne.symm ne_a1_ob))
  have F34 := ((f6_0.other W17 ne_ol_ov).other W22 (Ne.symm ne_a1_ol))
  have F35 := ((f6_1.other W17 ne_oh_ov).other W22 (Ne.symm ne_a1_oh))
  have F36 := (V17.other W22 (Ne.symm ne_a1_ov))
  obtain ⟨fs, hr, hrun, hended, hW, hsame⟩ := X22.leave (v := none) (fun _ => rfl)
  subst hR0
  refine ⟨_, _, ?_, hrun, hended, _, _, rfl, ?_, ⟨_, rfl⟩, hW, hsame.mono (by decide) (by decide)⟩
  · exact X22.returnOut hx hret (bb d5_146) hr
  · show Q_add1N2 Z a1 at_ ow on ob ol oh ov kw_ kn_ kb_ kl_ kh_ kv_ eb0 el0 eu0 ev0_0 ev1_0 ex2 ex3 ex4 ex5 ex6 ex7 kt_ et0 h0 n0 _ T22.heap _
    rw [e22]
    exact ⟨rfl, N22, ((((Keep.refl h0 [a1, ob, ol, oh, ov]).trans K6 (allS (Or.inl (List.mem_of_getElem? (i := 1) rfl)) (allS (Or.inl (List.mem_of_getElem? (i := 2) rfl)) (allS (Or.inl (List.mem_of_getElem? (i := 3) rfl)) (allS (Or.inl (List.mem_of_getElem? (i := 4) rfl)) all0))))).wr W17 (Or.inl (List.mem_of_getElem? (i := 4) rfl))).wr W22 (Or.inl (List.mem_of_getElem? (i := 0) rfl))), F24, F25, Fw22, F26, F27, F28, F29, F30, F31, r9, F32, r11, F33, F34, F35, (by have q := F36; (try simp only [own_c1] at q); exact q)⟩
def Q_add1W1 (Z : State) (a1 at_ ow on ob ol oh ov : Addr) (kw_ kn_ kb_ kl_ kh_ kv_ : ClassId) (eb0 el0 eu0 ev0_0 ex1 ex2 ex3 ex4 ex5 ex6 ex7 : Int32) (kt_ : ClassId) (et0 : Int32) (h0 : Heap) (n0 : Nat) (v : Option Value) (h : Heap) (L : List Loc) : Prop := ∃ (oz : Addr) (kz_ : ClassId), v = none ∧ Fr n0 L ∧ Keep h0 h [a1, ow, on] ∧ h0.size ≤ oz ∧ Exa Z h a1 cRV ∧ Fld Z h a1 cRV "arity" "I" (.int 1) ∧ Fld Z h a1 cRV "rows" "I" (.int 2) ∧ Fld Z h a1 cRV "wide" "[[I" (.ref ow) ∧ Fld Z h a1 cRV "narrow" "[[C" (.ref on) ∧ Fld Z h a1 cRV "bases" "[I" (.ref ob) ∧ Fld Z h a1 cRV "lowest" "[I" (.ref ol) ∧ Fld Z h a1 cRV "highest" "[I" (.ref oh) ∧ Arv Z h ow kw_ (.array .int) (1 : Int32) [(.ref oz)] .null ∧ OvrA Z kw_ .int "[I" ∧ Arv Z h on kn_ (.array .char) (1 : Int32) [.null] .null ∧ OvrA Z kn_ .char "[C" ∧ Arv Z h ob kb_ .int (1 : Int32) [(.int eb0)] (.int 0) ∧ Arv Z h ol kl_ .int (1 : Int32) [(.int el0)] (.int 0) ∧ Arv Z h oh kh_ .int (1 : Int32) [(.int eu0)] (.int 0) ∧ Arv Z h oz kz_ .int (8 : Int32) [(.int ev0_0), (.int et0), (.int (0 : Int32)), (.int (0 : Int32)), (.int (0 : Int32)), (.int (0 : Int32)), (.int (0 : Int32)), (.int (0 : Int32))] (.int 0)
set_option maxRecDepth 65536 in
set_option maxHeartbeats 40000000 in
theorem rm_add1W1 (l : Launch) (Z : State) (a0 : Array Value) (ww : WW a0 Z) (ws : List Jvm.Cond) (a1 at_ ow on ob ol oh ov : Addr) (kw_ kn_ kb_ kl_ kh_ kv_ : ClassId) (eb0 el0 eu0 ev0_0 ex1 ex2 ex3 ex4 ex5 ex6 ex7 : Int32) (kt_ : ClassId) (et0 : Int32) (h0 : Heap) (n0 : Nat) (Z0 : n0 ≤ h0.size) (O0 : Old Z n0 h0) (S_CS : Sta Z Z.heap cRV "CHUNK_SHIFT" "I" (.int (12 : Int32))) (r0 : Exa Z h0 a1 cRV) (r1 : Fld Z h0 a1 cRV "arity" "I" (.int 1)) (r2 : Fld Z h0 a1 cRV "rows" "I" (.int 1)) (r3 : Fld Z h0 a1 cRV "wide" "[[I" (.ref ow)) (r4 : Fld Z h0 a1 cRV "narrow" "[[C" (.ref on)) (r5 : Fld Z h0 a1 cRV "bases" "[I" (.ref ob)) (r6 : Fld Z h0 a1 cRV "lowest" "[I" (.ref ol)) (r7 : Fld Z h0 a1 cRV "highest" "[I" (.ref oh)) (r8 : Arv Z h0 ow kw_ (.array .int) (1 : Int32) [.null] .null) (r9 : OvrA Z kw_ .int "[I") (r10 : Arv Z h0 on kn_ (.array .char) (1 : Int32) [(.ref ov)] .null) (r11 : OvrA Z kn_ .char "[C") (r12 : Arv Z h0 ob kb_ .int (1 : Int32) [(.int eb0)] (.int 0)) (r13 : Arv Z h0 ol kl_ .int (1 : Int32) [(.int el0)] (.int 0)) (r14 : Arv Z h0 oh kh_ .int (1 : Int32) [(.int eu0)] (.int 0)) (r15 : Arv Z h0 ov kv_ .char (8 : Int32) [(.int (nar .char (ev0_0 - eb0))), (.int ex1), (.int ex2), (.int ex3), (.int ex4), (.int ex5), (.int ex6), (.int ex7)] (.int 0)) (r16 : Arv Z h0 at_ kt_ .int (1 : Int32) [(.int et0)] (.int 0)) (g_a1 : n0 ≤ a1) (g_ow : n0 ≤ ow) (g_on : n0 ≤ on) (ne_a1_ow : a1 ≠ ow) (ne_a1_on : a1 ≠ on) (ne_a1_ob : a1 ≠ ob) (ne_a1_ol : a1 ≠ ol) (ne_a1_oh : a1 ≠ oh) (ne_a1_ov : a1 ≠ ov) (ne_ow_on : ow ≠ on) (ne_ow_ob : ow ≠ ob) (ne_ow_ol : ow ≠ ol) (ne_ow_oh : ow ≠ oh) (ne_ow_ov : ow ≠ ov) (ne_on_ob : on ≠ ob) (ne_on_ol : on ≠ ol) (ne_on_oh : on ≠ oh) (ne_on_ov : on ≠ ov) (ne_ob_ol : ob ≠ ol) (ne_ob_oh : ob ≠ oh) (ne_ob_ov : ob ≠ ov) (ne_ol_oh : ol ≠ oh) (ne_ol_ov : ol ≠ ov) (ne_oh_ov : oh ≠ ov) (ne_at__a1 : at_ ≠ a1) (ne_at__ow : at_ ≠ ow) (ne_at__on : at_ ≠ on) (ne_at__ob : at_ ≠ ob) (ne_at__ol : at_ ≠ ol) (ne_at__oh : at_ ≠ oh) (ne_at__ov : at_ ≠ ov) (hIn0_0 : ownIn eb0 ev0_0) (hWd : ¬ ((lcmpW (((f_maxI et0 eu0).toInt64) - ((f_minI et0 el0).toInt64)) (65536 : Int64)) < (0 : Int32))) :
    MF l Z (⟨cRV, "add", "([I)V"⟩ : MethodName) prog_47_method_4_code 7 none ws ({ frames := 3, cells := 1, slots := 8, locals := 58 } : Room) #[(.ref a1), (.ref at_)] h0 (Q_add1W1 Z a1 at_ ow on ob ol oh ov kw_ kn_ kb_ kl_ kh_ kv_ eb0 el0 eu0 ev0_0 ex1 ex2 ex3 ex4 ex5 ex6 ex7 kt_ et0 h0 n0) := by
  refine gopen (plainFor_of_name pn_RowValues) (fun m => ef_add1W1 m a1 at_) (fun p e s m below meth c s₁ hlk hret hx bb hml hown hnm hZ X0 e0 R0 hR0 => ?_)
  have N0 := Fr.nil n0
  refine g_aloadN X0 hx (bb d5_0) rfl rfl ?_
  refine gF X0 hx hZ hown (ww 37 rfl) e0 r2 (bb d5_1) (fun T1 X1 e1 => ?_)
  refine gS X1 hx hZ hown (ww 44 rfl) e1 (S_CS.ext O0.2) (bb d5_4) (fun T2 X2 e2 => ?_)
  refine g_iushr X2 hx (bb d5_7) ?_
  refine g_istoreN X2 hx (bb d5_8) (l' := #[vR a1, vR at_, vI 0, .unset, .unset, .unset, .unset]) rfl ?_
  refine g_aloadN X2 hx (bb d5_9) rfl rfl ?_
  refine gF X2 hx hZ hown (ww 37 rfl) e2 r2 (bb d5_10) (fun T3 X3 e3 => ?_)
  refine g_sipush X3 hx (bb d5_13) ?_
  refine g_iand X3 hx (bb d5_16) ?_
  refine g_istoreN X3 hx (bb d5_17) (l' := #[vR a1, vR at_, vI 0, vI 1, .unset, .unset, .unset]) rfl ?_
  refine g_iloadN X3 hx (bb d5_18) rfl ?_
  refine g_ifYes X3 hx (pc' := 28) (bb d5_19) ((if0 _ _).trans (feq (by decide : ¬ ((1 : Int32) = (0 : Int32)))).2) (by decide) (by decide) ?_
  refine g_aloadN X3 hx (bb d5_28) rfl rfl ?_
  refine g_iloadN X3 hx (bb d5_29) rfl ?_
  refine g_iloadN X3 hx (bb d5_30) rfl ?_
  refine gcP X3 hx hZ hml hown (ww 64 rfl) (ww 7 rfl) (ww 67 rfl) (ww 6 rfl) (ww 65 rfl) (ww 66 rfl) e3 r0 (rm_room1N1 l Z a0 ww [] a1 ow on ob ol oh ov kw_ kn_ kb_ kl_ kh_ kv_ eb0 el0 eu0 ev0_0 ex1 ex2 ex3 ex4 ex5 ex6 ex7 h0 n0 (own_z0 O0) O0 S_CS r0 r1 r3 r4 r8 r10 r15) pd__II_V_5 (bb d5_31) 0 rfl (fun T4 L4 v4 X4 hQ4 => ?_)
  obtain ⟨rfl, N4q, e4⟩ := hQ4
  have N4 := Fr.app N0 N4q
  refine g_aloadN X4 hx (bb d5_34) rfl rfl ?_
  refine gF X4 hx hZ hown (ww 20 rfl) e4 r4 (bb d5_35) (fun T5 X5 e5 => ?_)
  refine g_iloadN X5 hx (bb d5_38) rfl ?_
  refine gLr rfl X5 hx hZ e5 r10 (v := (.ref ov)) ⟨by decide, by decide⟩ rfl (bb d5_39) ?_
  refine g_ifnullNo X5 hx (bb d5_40) ?_
  refine g_aloadN X5 hx (bb d5_43) rfl rfl ?_
  refine g_iloadN X5 hx (bb d5_44) rfl ?_
  refine g_iloadN X5 hx (bb d5_45) rfl ?_
  refine g_aloadN X5 hx (bb d5_46) rfl rfl ?_
  refine gcP X5 hx hZ hml hown (ww 71 rfl) (ww 7 rfl) (ww 74 rfl) (ww 6 rfl) (ww 72 rfl) (ww 73 rfl) e5 r0 (rm_fitW1_1 l Z a0 ww [] a1 at_ ow on ob ol oh ov kw_ kn_ kb_ kl_ kh_ kv_ eb0 el0 eu0 ev0_0 ex1 ex2 ex3 ex4 ex5 ex6 ex7 kt_ et0 h0 n0 (own_z0 O0) O0 S_CS r0 r1 r2 r3 r4 r5 r6 r7 r8 r9 r10 r11 r12 r13 r14 r15 r16 g_ow g_on ne_a1_ow ne_a1_on ne_a1_ob ne_a1_ol ne_a1_oh ne_a1_ov ne_ow_on ne_ow_ob ne_ow_ol ne_ow_oh ne_ow_ov ne_on_ob ne_on_ol ne_on_oh ne_on_ov ne_ob_ol ne_ob_oh ne_ob_ov ne_ol_oh ne_ol_ov ne_oh_ov ne_at__a1 ne_at__ow ne_at__on ne_at__ob ne_at__ol ne_at__oh ne_at__ov hIn0_0 hWd) pd__II_I_V_7 (bb d5_47) 0 rfl (fun T6 L6 v6 X6 hQ6 => ?_)
  obtain ⟨oz6, kz_6, rfl, N6q, K6, szz_oz6, f6_0, f6_1, f6_2⟩ := hQ6
  have N6 := Fr.app N4 N6q
  have g_oz6 : n0 ≤ oz6 := Nat.le_trans (own_z0 O0) szz_oz6
  have sz_oz6 : h0.size ≤ oz6 := Nat.le_trans (Nat.le_refl _) szz_oz6
  have ne_a1_oz6 : a1 ≠ oz6 := Nat.ne_of_lt (Nat.lt_of_lt_of_le r0.lt szz_oz6)
  have ne_ow_oz6 : ow ≠ oz6 := Nat.ne_of_lt (Nat.lt_of_lt_of_le r8.lt szz_oz6)
  have ne_on_oz6 : on ≠ oz6 := Nat.ne_of_lt (Nat.lt_of_lt_of_le r10.lt szz_oz6)
  have ne_ob_oz6 : ob ≠ oz6 := Nat.ne_of_lt (Nat.lt_of_lt_of_le r12.lt szz_oz6)
  have ne_ol_oz6 : ol ≠ oz6 := Nat.ne_of_lt (Nat.lt_of_lt_of_le r13.lt szz_oz6)
  have ne_oh_oz6 : oh ≠ oz6 := Nat.ne_of_lt (Nat.lt_of_lt_of_le r14.lt szz_oz6)
  have ne_ov_oz6 : ov ≠ oz6 := Nat.ne_of_lt (Nat.lt_of_lt_of_le r15.lt szz_oz6)
  have ne_at__oz6 : at_ ≠ oz6 := Nat.ne_of_lt (Nat.lt_of_lt_of_le r16.lt szz_oz6)
  refine g_iloadN X6 hx (bb d5_50) rfl ?_
  refine g_aloadN X6 hx (bb d5_51) rfl rfl ?_
  have F8 := (r1.keep K6 (ninS ne_a1_ow (ninS ne_a1_on nin0)))
  refine gF X6 hx hZ hown (ww 22 rfl) rfl F8 (bb d5_52) (fun T7 X7 e7 => ?_)
  refine g_imul X7 hx (bb d5_55) ?_
  refine g_istore X7 hx (bb d5_56) (l' := #[vR a1, vR at_, vI 0, vI 1, vI 1, .unset, .unset]) rfl ?_
  refine g_aloadN X7 hx (bb d5_58) rfl rfl ?_
  have F10 := (r4.keep K6 (ninS ne_a1_ow (ninS ne_a1_on nin0)))
  refine gF X7 hx hZ hown (ww 20 rfl) e7 F10 (bb d5_59) (fun T9 X9 e9 => ?_)
  refine g_iloadN X9 hx (bb d5_62) rfl ?_
  refine gLr rfl X9 hx hZ e9 f6_1 (v := .null) ⟨by decide, by decide⟩ rfl (bb d5_63) ?_
  refine g_astore X9 hx (bb d5_64) rfl (l' := #[vR a1, vR at_, vI 0, vI 1, vI 1, .val .null, .unset]) rfl ?_
  refine g_iconst X9 hx (bb d5_66) ?_
  refine g_istore X9 hx (bb d5_67) (l' := #[vR a1, vR at_, vI 0, vI 1, vI 1, .val .null, vI 0]) rfl ?_
  refine g_iload X9 hx (bb d5_69) rfl ?_
  refine g_aloadN X9 hx (bb d5_71) rfl rfl ?_
  refine gF X9 hx hZ hown (ww 22 rfl) e9 F8 (bb d5_72) (fun T11 X11 e11 => ?_)
  refine g_icmpNo X11 hx (bb d5_75) (tlt (by decide : (0 : Int32) < (1 : Int32))).2.1 ?_
  refine g_aload X11 hx (bb d5_78) rfl rfl ?_
  refine g_ifnullYes X11 hx (pc' := 114) (bb d5_80) (by decide) (by decide) ?_
  refine g_aloadN X11 hx (bb d5_114) rfl rfl ?_
  have F13 := (r3.keep K6 (ninS ne_a1_ow (ninS ne_a1_on nin0)))
  refine gF X11 hx hZ hown (ww 16 rfl) e11 F13 (bb d5_115) (fun T12 X12 e12 => ?_)
  refine g_iloadN X12 hx (bb d5_118) rfl ?_
  refine gLr rfl X12 hx hZ e12 f6_0 (v := (.ref oz6)) ⟨by decide, by decide⟩ rfl (bb d5_119) ?_
  refine g_iload X12 hx (bb d5_120) rfl ?_
  refine g_iload X12 hx (bb d5_122) rfl ?_
  refine g_iadd X12 hx (bb d5_124) ?_
  refine g_aloadN X12 hx (bb d5_125) rfl rfl ?_
  refine g_iload X12 hx (bb d5_126) rfl ?_
  have F14 := (r16.keep K6 (ninS ne_at__ow (ninS ne_at__on nin0)))
  refine gLi X12 hx hZ e12 F14 (v := (.int et0)) ⟨by decide, by decide⟩ rfl (bb d5_128) ?_
  refine gSi X12 hx hZ e12 f6_2 ⟨by decide, by decide⟩ 1 rfl (Nat.le_of_ble_eq_true rfl) N6 g_oz6 (bb d5_129) (fun T15 h15 X15 e15 W15 V15 N15 => ?_)
  refine g_iinc X15 hx (bb d5_130) rfl (l' := #[vR a1, vR at_, vI 0, vI 1, vI 1, .val .null, vI 1]) rfl ?_
  refine g_goto X15 hx (pc' := 69) (bb d5_133) (by decide) (by decide) ?_
  refine g_iload X15 hx (bb d5_69) rfl ?_
  refine g_aloadN X15 hx (bb d5_71) rfl rfl ?_
  have F17 := (F8.other W15 (Or.inl ne_a1_oz6))
  refine gF X15 hx hZ hown (ww 22 rfl) e15 F17 (bb d5_72) (fun T16 X16 e16 => ?_)
  refine g_icmpYes X16 hx (pc' := 136) (bb d5_75) (flt (by decide : ¬ ((1 : Int32) < (1 : Int32)))).2.1 (by decide) (by decide) ?_
  refine g_aloadN X16 hx (bb d5_136) rfl rfl ?_
  refine g_dup X16 hx (bb d5_137) rfl ?_
  have F19 := ((r2.keep K6 (ninS ne_a1_ow (ninS ne_a1_on nin0))).other W15 (Or.inl ne_a1_oz6))
  refine gF X16 hx hZ hown (ww 37 rfl) e16 F19 (bb d5_138) (fun T18 X18 e18 => ?_)
  refine g_iconst X18 hx (bb d5_141) ?_
  refine g_iadd X18 hx (bb d5_142) ?_
  have F21 := ((r0.keep K6).wr W15)
  obtain ⟨T20, h20, X20, e20, W20, st20⟩ := putF X18 hx hZ hown (host := "") (Or.inl (ww 37 rfl)) Via.refl e18 F19 F21 (Or.inl (ww 38 rfl)) (ww 6 rfl) (ty := .int) (by decide) rfl rfl (g := (mkF m 143 #[vR a1, vR at_, vI 0, vI 1, vI 1, .val .null, vI 1] [(.int 2), (.ref a1)])) rfl rfl (bb d5_143)
  have Fw20 := F19.same W20
  refine gl st20 ?_
  have N20 := Fr.snoc X20 N15 g_a1
  have F22 := (F21.wr W20)
  have F23 := (F17.other W20 (Or.inr (slot_ne (Or.inr (ww 23 rfl)) (Or.inl (ww 38 rfl)) (by decide) (t := .int) (t' := .int) (by decide) (by decide))))
  have F24 := ((F13.other W15 (Or.inl ne_a1_oz6)).other W20 (Or.inr (slot_ne (Or.inl (ww 17 rfl)) (Or.inl (ww 38 rfl)) (by decide) (t := (.array (.array .int))) (t' := .int) (by decide) (by decide))))
  have F25 := ((F10.other W15 (Or.inl ne_a1_oz6)).other W20 (Or.inr (slot_ne (Or.inl (ww 21 rfl)) (Or.inl (ww 38 rfl)) (by decide) (t := (.array (.array .char))) (t' := .int) (by decide) (by decide))))
  have F26 := (((r5.keep K6 (ninS ne_a1_ow (ninS ne_a1_on nin0))).other W15 (Or.inl ne_a1_oz6)).other W20 (Or.inr (slot_ne (Or.inl (ww 25 rfl)) (Or.inl (ww 38 rfl)) (by decide) (t := (.array .int)) (t' := .int) (by decide) (by decide))))
  have F27 := (((r6.keep K6 (ninS ne_a1_ow (ninS ne_a1_on nin0))).other W15 (Or.inl ne_a1_oz6)).other W20 (Or.inr (slot_ne (Or.inr (ww 27 rfl)) (Or.inl (ww 38 rfl)) (by decide) (t := (.array .int)) (t' := .int) (by decide) (by decide))))
  have F28 := (((r7.keep K6 (ninS ne_a1_ow (ninS ne_a1_on nin0))).other W15 (Or.inl ne_a1_oz6)).other W20 (Or.inr (slot_ne (Or.inr (ww 29 rfl)) (Or.inl (ww 38 rfl)) (by decide) (t := (.array .int)) (t' := .int) (by decide) (by decide))))
  have F29 := ((f6_0.other W15 ne_ow_oz6).other W20 (Ne.symm ne_a1_ow))
  have F30 := ((f6_1.other W15 ne_on_oz6).other W20 (Ne.symm ne_a1_on))
  have F31 := (((r12.keep K6 (ninS (Ne.symm ne_ow_ob) (ninS (Ne.symm ne_on_ob) nin0))).other W15 ne_ob_oz6).other W20 (Ne.symm ne_a1_ob))
  have F32 := (((r13.keep K6 (ninS (Ne.symm ne_ow_ol) (ninS (Ne.symm ne_on_ol) nin0))).other W15 ne_ol_oz6).other W20 (Ne.symm ne_a1_ol))
  have F33 := (((r14.keep K6 (ninS (Ne.symm ne_ow_oh) (ninS (Ne.symm ne_on_oh) nin0))).other W15 ne_oh_oz6).other W20 (Ne.symm ne_a1_oh))
  have F34 := (V15.other W20 (Ne.symm ne_a1_oz6))
  obtain ⟨fs, hr, hrun, hended, hW, hsame⟩ := X20.leave (v := none) (fun _ => rfl)
  subst hR0
  refine ⟨_, _, ?_, hrun, hended, _, _, rfl, ?_, ⟨_, rfl⟩, hW, hsame.mono (by decide) (by decide)⟩
  · exact X20.returnOut hx hret (bb d5_146) hr
  · show Q_add1W1 Z a1 at_ ow on ob ol oh ov kw_ kn_ kb_ kl_ kh_ kv_ eb0 el0 eu0 ev0_0 ex1 ex2 ex3 ex4 ex5 ex6 ex7 kt_ et0 h0 n0 _ T20.heap _
    rw [e20]
    exact ⟨oz6, kz_6, rfl, N20, ((((Keep.refl h0 [a1, ow, on]).trans K6 (allS (Or.inl (List.mem_of_getElem? (i := 1) rfl)) (allS (Or.inl (List.mem_of_getElem? (i := 2) rfl)) all0))).wr W15 (Or.inr sz_oz6)).wr W20 (Or.inl (List.mem_of_getElem? (i := 0) rfl))), sz_oz6, F22, F23, Fw20, F24, F25, F26, F27, F28, F29, r9, F30, r11, F31, F32, F33, F34⟩
def Q_add1W2 (Z : State) (a1 at_ ow on ob ol oh ov : Addr) (kw_ kn_ kb_ kl_ kh_ kv_ : ClassId) (eb0 el0 eu0 ev0_0 ev1_0 ex2 ex3 ex4 ex5 ex6 ex7 : Int32) (kt_ : ClassId) (et0 : Int32) (h0 : Heap) (n0 : Nat) (v : Option Value) (h : Heap) (L : List Loc) : Prop := ∃ (oz : Addr) (kz_ : ClassId), v = none ∧ Fr n0 L ∧ Keep h0 h [a1, ow, on] ∧ h0.size ≤ oz ∧ Exa Z h a1 cRV ∧ Fld Z h a1 cRV "arity" "I" (.int 1) ∧ Fld Z h a1 cRV "rows" "I" (.int 3) ∧ Fld Z h a1 cRV "wide" "[[I" (.ref ow) ∧ Fld Z h a1 cRV "narrow" "[[C" (.ref on) ∧ Fld Z h a1 cRV "bases" "[I" (.ref ob) ∧ Fld Z h a1 cRV "lowest" "[I" (.ref ol) ∧ Fld Z h a1 cRV "highest" "[I" (.ref oh) ∧ Arv Z h ow kw_ (.array .int) (1 : Int32) [(.ref oz)] .null ∧ OvrA Z kw_ .int "[I" ∧ Arv Z h on kn_ (.array .char) (1 : Int32) [.null] .null ∧ OvrA Z kn_ .char "[C" ∧ Arv Z h ob kb_ .int (1 : Int32) [(.int eb0)] (.int 0) ∧ Arv Z h ol kl_ .int (1 : Int32) [(.int el0)] (.int 0) ∧ Arv Z h oh kh_ .int (1 : Int32) [(.int eu0)] (.int 0) ∧ Arv Z h oz kz_ .int (8 : Int32) [(.int ev0_0), (.int ev1_0), (.int et0), (.int (0 : Int32)), (.int (0 : Int32)), (.int (0 : Int32)), (.int (0 : Int32)), (.int (0 : Int32))] (.int 0)
set_option maxRecDepth 65536 in
set_option maxHeartbeats 40000000 in
theorem rm_add1W2 (l : Launch) (Z : State) (a0 : Array Value) (ww : WW a0 Z) (ws : List Jvm.Cond) (a1 at_ ow on ob ol oh ov : Addr) (kw_ kn_ kb_ kl_ kh_ kv_ : ClassId) (eb0 el0 eu0 ev0_0 ev1_0 ex2 ex3 ex4 ex5 ex6 ex7 : Int32) (kt_ : ClassId) (et0 : Int32) (h0 : Heap) (n0 : Nat) (Z0 : n0 ≤ h0.size) (O0 : Old Z n0 h0) (S_CS : Sta Z Z.heap cRV "CHUNK_SHIFT" "I" (.int (12 : Int32))) (r0 : Exa Z h0 a1 cRV) (r1 : Fld Z h0 a1 cRV "arity" "I" (.int 1)) (r2 : Fld Z h0 a1 cRV "rows" "I" (.int 2)) (r3 : Fld Z h0 a1 cRV "wide" "[[I" (.ref ow)) (r4 : Fld Z h0 a1 cRV "narrow" "[[C" (.ref on)) (r5 : Fld Z h0 a1 cRV "bases" "[I" (.ref ob)) (r6 : Fld Z h0 a1 cRV "lowest" "[I" (.ref ol)) (r7 : Fld Z h0 a1 cRV "highest" "[I" (.ref oh)) (r8 : Arv Z h0 ow kw_ (.array .int) (1 : Int32) [.null] .null) (r9 : OvrA Z kw_ .int "[I") (r10 : Arv Z h0 on kn_ (.array .char) (1 : Int32) [(.ref ov)] .null) (r11 : OvrA Z kn_ .char "[C") (r12 : Arv Z h0 ob kb_ .int (1 : Int32) [(.int eb0)] (.int 0)) (r13 : Arv Z h0 ol kl_ .int (1 : Int32) [(.int el0)] (.int 0)) (r14 : Arv Z h0 oh kh_ .int (1 : Int32) [(.int eu0)] (.int 0)) (r15 : Arv Z h0 ov kv_ .char (8 : Int32) [(.int (nar .char (ev0_0 - eb0))), (.int (nar .char (ev1_0 - eb0))), (.int ex2), (.int ex3), (.int ex4), (.int ex5), (.int ex6), (.int ex7)] (.int 0)) (r16 : Arv Z h0 at_ kt_ .int (1 : Int32) [(.int et0)] (.int 0)) (g_a1 : n0 ≤ a1) (g_ow : n0 ≤ ow) (g_on : n0 ≤ on) (ne_a1_ow : a1 ≠ ow) (ne_a1_on : a1 ≠ on) (ne_a1_ob : a1 ≠ ob) (ne_a1_ol : a1 ≠ ol) (ne_a1_oh : a1 ≠ oh) (ne_a1_ov : a1 ≠ ov) (ne_ow_on : ow ≠ on) (ne_ow_ob : ow ≠ ob) (ne_ow_ol : ow ≠ ol) (ne_ow_oh : ow ≠ oh) (ne_ow_ov : ow ≠ ov) (ne_on_ob : on ≠ ob) (ne_on_ol : on ≠ ol) (ne_on_oh : on ≠ oh) (ne_on_ov : on ≠ ov) (ne_ob_ol : ob ≠ ol) (ne_ob_oh : ob ≠ oh) (ne_ob_ov : ob ≠ ov) (ne_ol_oh : ol ≠ oh) (ne_ol_ov : ol ≠ ov) (ne_oh_ov : oh ≠ ov) (ne_at__a1 : at_ ≠ a1) (ne_at__ow : at_ ≠ ow) (ne_at__on : at_ ≠ on) (ne_at__ob : at_ ≠ ob) (ne_at__ol : at_ ≠ ol) (ne_at__oh : at_ ≠ oh) (ne_at__ov : at_ ≠ ov) (hIn0_0 : ownIn eb0 ev0_0) (hIn1_0 : ownIn eb0 ev1_0) (hWd : ¬ ((lcmpW (((f_maxI et0 eu0).toInt64) - ((f_minI et0 el0).toInt64)) (65536 : Int64)) < (0 : Int32))) :
    MF l Z (⟨cRV, "add", "([I)V"⟩ : MethodName) prog_47_method_4_code 7 none ws ({ frames := 3, cells := 1, slots := 8, locals := 58 } : Room) #[(.ref a1), (.ref at_)] h0 (Q_add1W2 Z a1 at_ ow on ob ol oh ov kw_ kn_ kb_ kl_ kh_ kv_ eb0 el0 eu0 ev0_0 ev1_0 ex2 ex3 ex4 ex5 ex6 ex7 kt_ et0 h0 n0) := by
  refine gopen (plainFor_of_name pn_RowValues) (fun m => ef_add1W2 m a1 at_) (fun p e s m below meth c s₁ hlk hret hx bb hml hown hnm hZ X0 e0 R0 hR0 => ?_)
  have N0 := Fr.nil n0
  refine g_aloadN X0 hx (bb d5_0) rfl rfl ?_
  refine gF X0 hx hZ hown (ww 37 rfl) e0 r2 (bb d5_1) (fun T1 X1 e1 => ?_)
  refine gS X1 hx hZ hown (ww 44 rfl) e1 (S_CS.ext O0.2) (bb d5_4) (fun T2 X2 e2 => ?_)
  refine g_iushr X2 hx (bb d5_7) ?_
  refine g_istoreN X2 hx (bb d5_8) (l' := #[vR a1, vR at_, vI 0, .unset, .unset, .unset, .unset]) rfl ?_
  refine g_aloadN X2 hx (bb d5_9) rfl rfl ?_
  refine gF X2 hx hZ hown (ww 37 rfl) e2 r2 (bb d5_10) (fun T3 X3 e3 => ?_)
  refine g_sipush X3 hx (bb d5_13) ?_
  refine g_iand X3 hx (bb d5_16) ?_
  refine g_istoreN X3 hx (bb d5_17) (l' := #[vR a1, vR at_, vI 0, vI 2, .unset, .unset, .unset]) rfl ?_
  refine g_iloadN X3 hx (bb d5_18) rfl ?_
  refine g_ifYes X3 hx (pc' := 28) (bb d5_19) ((if0 _ _).trans (feq (by decide : ¬ ((2 : Int32) = (0 : Int32)))).2) (by decide) (by decide) ?_
  refine g_aloadN X3 hx (bb d5_28) rfl rfl ?_
  refine g_iloadN X3 hx (bb d5_29) rfl ?_
  refine g_iloadN X3 hx (bb d5_30) rfl ?_
  refine gcP X3 hx hZ hml hown (ww 64 rfl) (ww 7 rfl) (ww 67 rfl) (ww 6 rfl) (ww 65 rfl) (ww 66 rfl) e3 r0 (rm_room1N2 l Z a0 ww [] a1 ow on ob ol oh ov kw_ kn_ kb_ kl_ kh_ kv_ eb0 el0 eu0 ev0_0 ev1_0 ex2 ex3 ex4 ex5 ex6 ex7 h0 n0 (own_z0 O0) O0 S_CS r0 r1 r3 r4 r8 r10 r15) pd__II_V_5 (bb d5_31) 0 rfl (fun T4 L4 v4 X4 hQ4 => ?_)
  obtain ⟨rfl, N4q, e4⟩ := hQ4
  have N4 := Fr.app N0 N4q
  refine g_aloadN X4 hx (bb d5_34) rfl rfl ?_
  refine gF X4 hx hZ hown (ww 20 rfl) e4 r4 (bb d5_35) (fun T5 X5 e5 => ?_)
  refine g_iloadN X5 hx (bb d5_38) rfl ?_
  refine gLr rfl X5 hx hZ e5 r10 (v := (.ref ov)) ⟨by decide, by decide⟩ rfl (bb d5_39) ?_
  refine g_ifnullNo X5 hx (bb d5_40) ?_
  refine g_aloadN X5 hx (bb d5_43) rfl rfl ?_
  refine g_iloadN X5 hx (bb d5_44) rfl ?_
  refine g_iloadN X5 hx (bb d5_45) rfl ?_
  refine g_aloadN X5 hx (bb d5_46) rfl rfl ?_
  refine gcP X5 hx hZ hml hown (ww 71 rfl) (ww 7 rfl) (ww 74 rfl) (ww 6 rfl) (ww 72 rfl) (ww 73 rfl) e5 r0 (rm_fitW1_2 l Z a0 ww [] a1 at_ ow on ob ol oh ov kw_ kn_ kb_ kl_ kh_ kv_ eb0 el0 eu0 ev0_0 ev1_0 ex2 ex3 ex4 ex5 ex6 ex7 kt_ et0 h0 n0 (own_z0 O0) O0 S_CS r0 r1 r2 r3 r4 r5 r6 r7 r8 r9 r10 r11 r12 r13 r14 r15 r16 g_ow g_on ne_a1_ow ne_a1_on ne_a1_ob ne_a1_ol ne_a1_oh ne_a1_ov ne_ow_on ne_ow_ob ne_ow_ol ne_ow_oh ne_ow_ov ne_on_ob ne_on_ol ne_on_oh ne_on_ov ne_ob_ol ne_ob_oh ne_ob_ov ne_ol_oh ne_ol_ov ne_oh_ov ne_at__a1 ne_at__ow ne_at__on ne_at__ob ne_at__ol ne_at__oh ne_at__ov hIn0_0 hIn1_0 hWd) pd__II_I_V_7 (bb d5_47) 0 rfl (fun T6 L6 v6 X6 hQ6 => ?_)
  obtain ⟨oz6, kz_6, rfl, N6q, K6, szz_oz6, f6_0, f6_1, f6_2⟩ := hQ6
  have N6 := Fr.app N4 N6q
  have g_oz6 : n0 ≤ oz6 := Nat.le_trans (own_z0 O0) szz_oz6
  have sz_oz6 : h0.size ≤ oz6 := Nat.le_trans (Nat.le_refl _) szz_oz6
  have ne_a1_oz6 : a1 ≠ oz6 := Nat.ne_of_lt (Nat.lt_of_lt_of_le r0.lt szz_oz6)
  have ne_ow_oz6 : ow ≠ oz6 := Nat.ne_of_lt (Nat.lt_of_lt_of_le r8.lt szz_oz6)
  have ne_on_oz6 : on ≠ oz6 := Nat.ne_of_lt (Nat.lt_of_lt_of_le r10.lt szz_oz6)
  have ne_ob_oz6 : ob ≠ oz6 := Nat.ne_of_lt (Nat.lt_of_lt_of_le r12.lt szz_oz6)
  have ne_ol_oz6 : ol ≠ oz6 := Nat.ne_of_lt (Nat.lt_of_lt_of_le r13.lt szz_oz6)
  have ne_oh_oz6 : oh ≠ oz6 := Nat.ne_of_lt (Nat.lt_of_lt_of_le r14.lt szz_oz6)
  have ne_ov_oz6 : ov ≠ oz6 := Nat.ne_of_lt (Nat.lt_of_lt_of_le r15.lt szz_oz6)
  have ne_at__oz6 : at_ ≠ oz6 := Nat.ne_of_lt (Nat.lt_of_lt_of_le r16.lt szz_oz6)
  refine g_iloadN X6 hx (bb d5_50) rfl ?_
  refine g_aloadN X6 hx (bb d5_51) rfl rfl ?_
  have F8 := (r1.keep K6 (ninS ne_a1_ow (ninS ne_a1_on nin0)))
  refine gF X6 hx hZ hown (ww 22 rfl) rfl F8 (bb d5_52) (fun T7 X7 e7 => ?_)
  refine g_imul X7 hx (bb d5_55) ?_
  refine g_istore X7 hx (bb d5_56) (l' := #[vR a1, vR at_, vI 0, vI 2, vI 2, .unset, .unset]) rfl ?_
  refine g_aloadN X7 hx (bb d5_58) rfl rfl ?_
  have F10 := (r4.keep K6 (ninS ne_a1_ow (ninS ne_a1_on nin0)))
  refine gF X7 hx hZ hown (ww 20 rfl) e7 F10 (bb d5_59) (fun T9 X9 e9 => ?_)
  refine g_iloadN X9 hx (bb d5_62) rfl ?_
  refine gLr rfl X9 hx hZ e9 f6_1 (v := .null) ⟨by decide, by decide⟩ rfl (bb d5_63) ?_
  refine g_astore X9 hx (bb d5_64) rfl (l' := #[vR a1, vR at_, vI 0, vI 2, vI 2, .val .null, .unset]) rfl ?_
  refine g_iconst X9 hx (bb d5_66) ?_
  refine g_istore X9 hx (bb d5_67) (l' := #[vR a1, vR at_, vI 0, vI 2, vI 2, .val .null, vI 0]) rfl ?_
  refine g_iload X9 hx (bb d5_69) rfl ?_
  refine g_aloadN X9 hx (bb d5_71) rfl rfl ?_
  refine gF X9 hx hZ hown (ww 22 rfl) e9 F8 (bb d5_72) (fun T11 X11 e11 => ?_)
  refine g_icmpNo X11 hx (bb d5_75) (tlt (by decide : (0 : Int32) < (1 : Int32))).2.1 ?_
  refine g_aload X11 hx (bb d5_78) rfl rfl ?_
  refine g_ifnullYes X11 hx (pc' := 114) (bb d5_80) (by decide) (by decide) ?_
  refine g_aloadN X11 hx (bb d5_114) rfl rfl ?_
  have F13 := (r3.keep K6 (ninS ne_a1_ow (ninS ne_a1_on nin0)))
  refine gF X11 hx hZ hown (ww 16 rfl) e11 F13 (bb d5_115) (fun T12 X12 e12 => ?_)
  refine g_iloadN X12 hx (bb d5_118) rfl ?_
  refine gLr rfl X12 hx hZ e12 f6_0 (v := (.ref oz6)) ⟨by decide, by decide⟩ rfl (bb d5_119) ?_
  refine g_iload X12 hx (bb d5_120) rfl ?_
  refine g_iload X12 hx (bb d5_122) rfl ?_
  refine g_iadd X12 hx (bb d5_124) ?_
  refine g_aloadN X12 hx (bb d5_125) rfl rfl ?_
  refine g_iload X12 hx (bb d5_126) rfl ?_
  have F14 := (r16.keep K6 (ninS ne_at__ow (ninS ne_at__on nin0)))
  refine gLi X12 hx hZ e12 F14 (v := (.int et0)) ⟨by decide, by decide⟩ rfl (bb d5_128) ?_
  refine gSi X12 hx hZ e12 f6_2 ⟨by decide, by decide⟩ 2 rfl (Nat.le_of_ble_eq_true rfl) N6 g_oz6 (bb d5_129) (fun T15 h15 X15 e15 W15 V15 N15 => ?_)
  refine g_iinc X15 hx (bb d5_130) rfl (l' := #[vR a1, vR at_, vI 0, vI 2, vI 2, .val .null, vI 1]) rfl ?_
  refine g_goto X15 hx (pc' := 69) (bb d5_133) (by decide) (by decide) ?_
  refine g_iload X15 hx (bb d5_69) rfl ?_
  refine g_aloadN X15 hx (bb d5_71) rfl rfl ?_
  have F17 := (F8.other W15 (Or.inl ne_a1_oz6))
  refine gF X15 hx hZ hown (ww 22 rfl) e15 F17 (bb d5_72) (fun T16 X16 e16 => ?_)
  refine g_icmpYes X16 hx (pc' := 136) (bb d5_75) (flt (by decide : ¬ ((1 : Int32) < (1 : Int32)))).2.1 (by decide) (by decide) ?_
  refine g_aloadN X16 hx (bb d5_136) rfl rfl ?_
  refine g_dup X16 hx (bb d5_137) rfl ?_
  have F19 := ((r2.keep K6 (ninS ne_a1_ow (ninS ne_a1_on nin0))).other W15 (Or.inl ne_a1_oz6))
  refine gF X16 hx hZ hown (ww 37 rfl) e16 F19 (bb d5_138) (fun T18 X18 e18 => ?_)
  refine g_iconst X18 hx (bb d5_141) ?_
  refine g_iadd X18 hx (bb d5_142) ?_
  have F21 := ((r0.keep K6).wr W15)
  obtain ⟨T20, h20, X20, e20, W20, st20⟩ := putF X18 hx hZ hown (host := "") (Or.inl (ww 37 rfl)) Via.refl e18 F19 F21 (Or.inl (ww 38 rfl)) (ww 6 rfl) (ty := .int) (by decide) rfl rfl (g := (mkF m 143 #[vR a1, vR at_, vI 0, vI 2, vI 2, .val .null, vI 1] [(.int 3), (.ref a1)])) rfl rfl (bb d5_143)
  have Fw20 := F19.same W20
  refine gl st20 ?_
  have N20 := Fr.snoc X20 N15 g_a1
  have F22 := (F21.wr W20)
  have F23 := (F17.other W20 (Or.inr (slot_ne (Or.inr (ww 23 rfl)) (Or.inl (ww 38 rfl)) (by decide) (t := .int) (t' := .int) (by decide) (by decide))))
  have F24 := ((F13.other W15 (Or.inl ne_a1_oz6)).other W20 (Or.inr (slot_ne (Or.inl (ww 17 rfl)) (Or.inl (ww 38 rfl)) (by decide) (t := (.array (.array .int))) (t' := .int) (by decide) (by decide))))
  have F25 := ((F10.other W15 (Or.inl ne_a1_oz6)).other W20 (Or.inr (slot_ne (Or.inl (ww 21 rfl)) (Or.inl (ww 38 rfl)) (by decide) (t := (.array (.array .char))) (t' := .int) (by decide) (by decide))))
  have F26 := (((r5.keep K6 (ninS ne_a1_ow (ninS ne_a1_on nin0))).other W15 (Or.inl ne_a1_oz6)).other W20 (Or.inr (slot_ne (Or.inl (ww 25 rfl)) (Or.inl (ww 38 rfl)) (by decide) (t := (.array .int)) (t' := .int) (by decide) (by decide))))
  have F27 := (((r6.keep K6 (ninS ne_a1_ow (ninS ne_a1_on nin0))).other W15 (Or.inl ne_a1_oz6)).other W20 (Or.inr (slot_ne (Or.inr (ww 27 rfl)) (Or.inl (ww 38 rfl)) (by decide) (t := (.array .int)) (t' := .int) (by decide) (by decide))))
  have F28 := (((r7.keep K6 (ninS ne_a1_ow (ninS ne_a1_on nin0))).other W15 (Or.inl ne_a1_oz6)).other W20 (Or.inr (slot_ne (Or.inr (ww 29 rfl)) (Or.inl (ww 38 rfl)) (by decide) (t := (.array .int)) (t' := .int) (by decide) (by decide))))
  have F29 := ((f6_0.other W15 ne_ow_oz6).other W20 (Ne.symm ne_a1_ow))
  have F30 := ((f6_1.other W15 ne_on_oz6).other W20 (Ne.symm ne_a1_on))
  have F31 := (((r12.keep K6 (ninS (Ne.symm ne_ow_ob) (ninS (Ne.symm ne_on_ob) nin0))).other W15 ne_ob_oz6).other W20 (Ne.symm ne_a1_ob))
  have F32 := (((r13.keep K6 (ninS (Ne.symm ne_ow_ol) (ninS (Ne.symm ne_on_ol) nin0))).other W15 ne_ol_oz6).other W20 (Ne.symm ne_a1_ol))
  have F33 := (((r14.keep K6 (ninS (Ne.symm ne_ow_oh) (ninS (Ne.symm ne_on_oh) nin0))).other W15 ne_oh_oz6).other W20 (Ne.symm ne_a1_oh))
  have F34 := (V15.other W20 (Ne.symm ne_a1_oz6))
  obtain ⟨fs, hr, hrun, hended, hW, hsame⟩ := X20.leave (v := none) (fun _ => rfl)
  subst hR0
  refine ⟨_, _, ?_, hrun, hended, _, _, rfl, ?_, ⟨_, rfl⟩, hW, hsame.mono (by decide) (by decide)⟩
  · exact X20.returnOut hx hret (bb d5_146) hr
  · show Q_add1W2 Z a1 at_ ow on ob ol oh ov kw_ kn_ kb_ kl_ kh_ kv_ eb0 el0 eu0 ev0_0 ev1_0 ex2 ex3 ex4 ex5 ex6 ex7 kt_ et0 h0 n0 _ T20.heap _
    rw [e20]
    exact ⟨oz6, kz_6, rfl, N20, ((((Keep.refl h0 [a1, ow, on]).trans K6 (allS (Or.inl (List.mem_of_getElem? (i := 1) rfl)) (allS (Or.inl (List.mem_of_getElem? (i := 2) rfl)) all0))).wr W15 (Or.inr sz_oz6)).wr W20 (Or.inl (List.mem_of_getElem? (i := 0) rfl))), sz_oz6, F22, F23, Fw20, F24, F25, F26, F27, F28, F29, r9, F30, r11, F31, F32, F33, F34⟩
def Q_add1WW2 (Z : State) (a1 at_ ow on ob ol oh oz : Addr) (kw_ kn_ kb_ kl_ kh_ kz_ : ClassId) (eb0 el0 eu0 ev0_0 ev1_0 ex2 ex3 ex4 ex5 ex6 ex7 : Int32) (kt_ : ClassId) (et0 : Int32) (h0 : Heap) (n0 : Nat) (v : Option Value) (h : Heap) (L : List Loc) : Prop := v = none ∧ Fr n0 L ∧ Keep h0 h [a1, oz] ∧ Exa Z h a1 cRV ∧ Fld Z h a1 cRV "arity" "I" (.int 1) ∧ Fld Z h a1 cRV "rows" "I" (.int 3) ∧ Fld Z h a1 cRV "wide" "[[I" (.ref ow) ∧ Fld Z h a1 cRV "narrow" "[[C" (.ref on) ∧ Fld Z h a1 cRV "bases" "[I" (.ref ob) ∧ Fld Z h a1 cRV "lowest" "[I" (.ref ol) ∧ Fld Z h a1 cRV "highest" "[I" (.ref oh) ∧ Arv Z h ow kw_ (.array .int) (1 : Int32) [(.ref oz)] .null ∧ OvrA Z kw_ .int "[I" ∧ Arv Z h on kn_ (.array .char) (1 : Int32) [.null] .null ∧ OvrA Z kn_ .char "[C" ∧ Arv Z h ob kb_ .int (1 : Int32) [(.int eb0)] (.int 0) ∧ Arv Z h ol kl_ .int (1 : Int32) [(.int el0)] (.int 0) ∧ Arv Z h oh kh_ .int (1 : Int32) [(.int eu0)] (.int 0) ∧ Arv Z h oz kz_ .int (8 : Int32) [(.int ev0_0), (.int ev1_0), (.int et0), (.int ex3), (.int ex4), (.int ex5), (.int ex6), (.int ex7)] (.int 0)
set_option maxRecDepth 65536 in
set_option maxHeartbeats 40000000 in
theorem rm_add1WW2 (l : Launch) (Z : State) (a0 : Array Value) (ww : WW a0 Z) (ws : List Jvm.Cond) (a1 at_ ow on ob ol oh oz : Addr) (kw_ kn_ kb_ kl_ kh_ kz_ : ClassId) (eb0 el0 eu0 ev0_0 ev1_0 ex2 ex3 ex4 ex5 ex6 ex7 : Int32) (kt_ : ClassId) (et0 : Int32) (h0 : Heap) (n0 : Nat) (Z0 : n0 ≤ h0.size) (O0 : Old Z n0 h0) (S_CS : Sta Z Z.heap cRV "CHUNK_SHIFT" "I" (.int (12 : Int32))) (r0 : Exa Z h0 a1 cRV) (r1 : Fld Z h0 a1 cRV "arity" "I" (.int 1)) (r2 : Fld Z h0 a1 cRV "rows" "I" (.int 2)) (r3 : Fld Z h0 a1 cRV "wide" "[[I" (.ref ow)) (r4 : Fld Z h0 a1 cRV "narrow" "[[C" (.ref on)) (r5 : Fld Z h0 a1 cRV "bases" "[I" (.ref ob)) (r6 : Fld Z h0 a1 cRV "lowest" "[I" (.ref ol)) (r7 : Fld Z h0 a1 cRV "highest" "[I" (.ref oh)) (r8 : Arv Z h0 ow kw_ (.array .int) (1 : Int32) [(.ref oz)] .null) (r9 : OvrA Z kw_ .int "[I") (r10 : Arv Z h0 on kn_ (.array .char) (1 : Int32) [.null] .null) (r11 : OvrA Z kn_ .char "[C") (r12 : Arv Z h0 ob kb_ .int (1 : Int32) [(.int eb0)] (.int 0)) (r13 : Arv Z h0 ol kl_ .int (1 : Int32) [(.int el0)] (.int 0)) (r14 : Arv Z h0 oh kh_ .int (1 : Int32) [(.int eu0)] (.int 0)) (r15 : Arv Z h0 oz kz_ .int (8 : Int32) [(.int ev0_0), (.int ev1_0), (.int ex2), (.int ex3), (.int ex4), (.int ex5), (.int ex6), (.int ex7)] (.int 0)) (r16 : Arv Z h0 at_ kt_ .int (1 : Int32) [(.int et0)] (.int 0)) (g_a1 : n0 ≤ a1) (g_oz : n0 ≤ oz) (ne_a1_ow : a1 ≠ ow) (ne_a1_on : a1 ≠ on) (ne_a1_ob : a1 ≠ ob) (ne_a1_ol : a1 ≠ ol) (ne_a1_oh : a1 ≠ oh) (ne_a1_oz : a1 ≠ oz) (ne_ow_on : ow ≠ on) (ne_ow_ob : ow ≠ ob) (ne_ow_ol : ow ≠ ol) (ne_ow_oh : ow ≠ oh) (ne_ow_oz : ow ≠ oz) (ne_on_ob : on ≠ ob) (ne_on_ol : on ≠ ol) (ne_on_oh : on ≠ oh) (ne_on_oz : on ≠ oz) (ne_ob_ol : ob ≠ ol) (ne_ob_oh : ob ≠ oh) (ne_ob_oz : ob ≠ oz) (ne_ol_oh : ol ≠ oh) (ne_ol_oz : ol ≠ oz) (ne_oh_oz : oh ≠ oz) (ne_at__a1 : at_ ≠ a1) (ne_at__ow : at_ ≠ ow) (ne_at__on : at_ ≠ on) (ne_at__ob : at_ ≠ ob) (ne_at__ol : at_ ≠ ol) (ne_at__oh : at_ ≠ oh) (ne_at__oz : at_ ≠ oz) :
    MF l Z (⟨cRV, "add", "([I)V"⟩ : MethodName) prog_47_method_4_code 7 none ws ({ frames := 2, cells := 0, slots := 0, locals := 29 } : Room) #[(.ref a1), (.ref at_)] h0 (Q_add1WW2 Z a1 at_ ow on ob ol oh oz kw_ kn_ kb_ kl_ kh_ kz_ eb0 el0 eu0 ev0_0 ev1_0 ex2 ex3 ex4 ex5 ex6 ex7 kt_ et0 h0 n0) := by
  refine gopen (plainFor_of_name pn_RowValues) (fun m => ef_add1WW2 m a1 at_) (fun p e s m below meth c s₁ hlk hret hx bb hml hown hnm hZ X0 e0 R0 hR0 => ?_)
  have N0 := Fr.nil n0
  refine g_aloadN X0 hx (bb d5_0) rfl rfl ?_
  refine gF X0 hx hZ hown (ww 37 rfl) e0 r2 (bb d5_1) (fun T1 X1 e1 => ?_)
  refine gS X1 hx hZ hown (ww 44 rfl) e1 (S_CS.ext O0.2) (bb d5_4) (fun T2 X2 e2 => ?_)
  refine g_iushr X2 hx (bb d5_7) ?_
  refine g_istoreN X2 hx (bb d5_8) (l' := #[vR a1, vR at_, vI 0, .unset, .unset, .unset, .unset]) rfl ?_
  refine g_aloadN X2 hx (bb d5_9) rfl rfl ?_
  refine gF X2 hx hZ hown (ww 37 rfl) e2 r2 (bb d5_10) (fun T3 X3 e3 => ?_)
  refine g_sipush X3 hx (bb d5_13) ?_
  refine g_iand X3 hx (bb d5_16) ?_
  refine g_istoreN X3 hx (bb d5_17) (l' := #[vR a1, vR at_, vI 0, vI 2, .unset, .unset, .unset]) rfl ?_
  refine g_iloadN X3 hx (bb d5_18) rfl ?_
  refine g_ifYes X3 hx (pc' := 28) (bb d5_19) ((if0 _ _).trans (feq (by decide : ¬ ((2 : Int32) = (0 : Int32)))).2) (by decide) (by decide) ?_
  refine g_aloadN X3 hx (bb d5_28) rfl rfl ?_
  refine g_iloadN X3 hx (bb d5_29) rfl ?_
  refine g_iloadN X3 hx (bb d5_30) rfl ?_
  refine gcP X3 hx hZ hml hown (ww 64 rfl) (ww 7 rfl) (ww 67 rfl) (ww 6 rfl) (ww 65 rfl) (ww 66 rfl) e3 r0 (rm_room1W2 l Z a0 ww [] a1 ow on ob ol oh oz kw_ kn_ kb_ kl_ kh_ kz_ eb0 el0 eu0 ev0_0 ev1_0 ex2 ex3 ex4 ex5 ex6 ex7 h0 n0 (own_z0 O0) O0 S_CS r0 r1 r3 r4 r8 r10 r15) pd__II_V_5 (bb d5_31) 0 rfl (fun T4 L4 v4 X4 hQ4 => ?_)
  obtain ⟨rfl, N4q, e4⟩ := hQ4
  have N4 := Fr.app N0 N4q
  refine g_aloadN X4 hx (bb d5_34) rfl rfl ?_
  refine gF X4 hx hZ hown (ww 20 rfl) e4 r4 (bb d5_35) (fun T5 X5 e5 => ?_)
  refine g_iloadN X5 hx (bb d5_38) rfl ?_
  refine gLr rfl X5 hx hZ e5 r10 (v := .null) ⟨by decide, by decide⟩ rfl (bb d5_39) ?_
  refine g_ifnullYes X5 hx (pc' := 50) (bb d5_40) (by decide) (by decide) ?_
  refine g_iloadN X5 hx (bb d5_50) rfl ?_
  refine g_aloadN X5 hx (bb d5_51) rfl rfl ?_
  refine gF X5 hx hZ hown (ww 22 rfl) e5 r1 (bb d5_52) (fun T6 X6 e6 => ?_)
  refine g_imul X6 hx (bb d5_55) ?_
  refine g_istore X6 hx (bb d5_56) (l' := #[vR a1, vR at_, vI 0, vI 2, vI 2, .unset, .unset]) rfl ?_
  refine g_aloadN X6 hx (bb d5_58) rfl rfl ?_
  refine gF X6 hx hZ hown (ww 20 rfl) e6 r4 (bb d5_59) (fun T7 X7 e7 => ?_)
  refine g_iloadN X7 hx (bb d5_62) rfl ?_
  refine gLr rfl X7 hx hZ e7 r10 (v := .null) ⟨by decide, by decide⟩ rfl (bb d5_63) ?_
  refine g_astore X7 hx (bb d5_64) rfl (l' := #[vR a1, vR at_, vI 0, vI 2, vI 2, .val .null, .unset]) rfl ?_
  refine g_iconst X7 hx (bb d5_66) ?_
  refine g_istore X7 hx (bb d5_67) (l' := #[vR a1, vR at_, vI 0, vI 2, vI 2, .val .null, vI 0]) rfl ?_
  refine g_iload X7 hx (bb d5_69) rfl ?_
  refine g_aloadN X7 hx (bb d5_71) rfl rfl ?_
  refine gF X7 hx hZ hown (ww 22 rfl) e7 r1 (bb d5_72) (fun T8 X8 e8 => ?_)
  refine g_icmpNo X8 hx (bb d5_75) (tlt (by decide : (0 : Int32) < (1 : Int32))).2.1 ?_
  refine g_aload X8 hx (bb d5_78) rfl rfl ?_
  refine g_ifnullYes X8 hx (pc' := 114) (bb d5_80) (by decide) (by decide) ?_
  refine g_aloadN X8 hx (bb d5_114) rfl rfl ?_
  refine gF X8 hx hZ hown (ww 16 rfl) e8 r3 (bb d5_115) (fun T9 X9 e9 => ?_)
  refine g_iloadN X9 hx (bb d5_118) rfl ?_
  refine gLr rfl X9 hx hZ e9 r8 (v := (.ref oz)) ⟨by decide, by decide⟩ rfl (bb d5_119) ?_
  refine g_iload X9 hx (bb d5_120) rfl ?_
  refine g_iload X9 hx (bb d5_122) rfl ?_
  refine g_iadd X9 hx (bb d5_124) ?_
  refine g_aloadN X9 hx (bb d5_125) rfl rfl ?_
  refine g_iload X9 hx (bb d5_126) rfl ?_
  refine gLi X9 hx hZ e9 r16 (v := (.int et0)) ⟨by decide, by decide⟩ rfl (bb d5_128) ?_
  refine gSi X9 hx hZ e9 r15 ⟨by decide, by decide⟩ 2 rfl (Nat.le_of_ble_eq_true rfl) N4 g_oz (bb d5_129) (fun T10 h10 X10 e10 W10 V10 N10 => ?_)
  refine g_iinc X10 hx (bb d5_130) rfl (l' := #[vR a1, vR at_, vI 0, vI 2, vI 2, .val .null, vI 1]) rfl ?_
  refine g_goto X10 hx (pc' := 69) (bb d5_133) (by decide) (by decide) ?_
  refine g_iload X10 hx (bb d5_69) rfl ?_
  refine g_aloadN X10 hx (bb d5_71) rfl rfl ?_
  have F12 := (r1.other W10 (Or.inl ne_a1_oz))
  refine gF X10 hx hZ hown (ww 22 rfl) e10 F12 (bb d5_72) (fun T11 X11 e11 => ?_)
  refine g_icmpYes X11 hx (pc' := 136) (bb d5_75) (flt (by decide : ¬ ((1 : Int32) < (1 : Int32)))).2.1 (by decide) (by decide) ?_
  refine g_aloadN X11 hx (bb d5_136) rfl rfl ?_
  refine g_dup X11 hx (bb d5_137) rfl ?_
  have F14 := (r2.other W10 (Or.inl ne_a1_oz))
  refine gF X11 hx hZ hown (ww 37 rfl) e11 F14 (bb d5_138) (fun T13 X13 e13 => ?_)
  refine g_iconst X13 hx (bb d5_141) ?_
  refine g_iadd X13 hx (bb d5_142) ?_
  have F16 := (r0.wr W10)
  obtain ⟨T15, h15, X15, e15, W15, st15⟩ := putF X13 hx hZ hown (host := "") (Or.inl (ww 37 rfl)) Via.refl e13 F14 F16 (Or.inl (ww 38 rfl)) (ww 6 rfl) (ty := .int) (by decide) rfl rfl (g := (mkF m 143 #[vR a1, vR at_, vI 0, vI 2, vI 2, .val .null, vI 1] [(.int 3), (.ref a1)])) rfl rfl (bb d5_143)
  have Fw15 := F14.same W15
  refine gl st15 ?_
  have N15 := Fr.snoc X15 N10 g_a1
  have F17 := (F16.wr W15)
  have F18 := (F12.other W15 (Or.inr (slot_ne (Or.inr (ww 23 rfl)) (Or.inl (ww 38 rfl)) (by decide) (t := .int) (t' := .int) (by decide) (by decide))))
  have F19 := ((r3.other W10 (Or.inl ne_a1_oz)).other W15 (Or.inr (slot_ne (Or.inl (ww 17 rfl)) (Or.inl (ww 38 rfl)) (by decide) (t := (.array (.array .int))) (t' := .int) (by decide) (by decide))))
  have F20 := ((r4.other W10 (Or.inl ne_a1_oz)).other W15 (Or.inr (slot_ne (Or.inl (ww 21 rfl)) (Or.inl (ww 38 rfl)) (by decide) (t := (.array (.array .char))) (t' := .int) (by decide) (by decide))))
  have F21 := ((r5.other W10 (Or.inl ne_a1_oz)).other W15 (Or.inr (slot_ne (Or.inl (ww 25 rfl)) (Or.inl (ww 38 rfl)) (by decide) (t := (.array .int)) (t' := .int) (by decide) (by decide))))
  have F22 := ((r6.other W10 (Or.inl ne_a1_oz)).other W15 (Or.inr (slot_ne (Or.inr (ww 27 rfl)) (Or.inl (ww 38 rfl)) (by decide) (t := (.array .int)) (t' := .int) (by decide) (by decide))))
  have F23 := ((r7.other W10 (Or.inl ne_a1_oz)).other W15 (Or.inr (slot_ne (Or.inr (ww 29 rfl)) (Or.inl (ww 38 rfl)) (by decide) (t := (.array .int)) (t' := .int) (by decide) (by decide))))
  have F24 := ((r8.other W10 ne_ow_oz).other W15 (Ne.symm ne_a1_ow))
  have F25 := ((r10.other W10 ne_on_oz).other W15 (Ne.symm ne_a1_on))
  have F26 := ((r12.other W10 ne_ob_oz).other W15 (Ne.symm ne_a1_ob))
  have F27 := ((r13.other W10 ne_ol_oz).other W15 (Ne.symm ne_a1_ol))
  have F28 := ((r14.other W10 ne_oh_oz).other W15 (Ne.symm ne_a1_oh))
  have F29 := (V10.other W15 (Ne.symm ne_a1_oz))
  obtain ⟨fs, hr, hrun, hended, hW, hsame⟩ := X15.leave (v := none) (fun _ => rfl)
  subst hR0
  refine ⟨_, _, ?_, hrun, hended, _, _, rfl, ?_, ⟨_, rfl⟩, hW, hsame.mono (by decide) (by decide)⟩
  · exact X15.returnOut hx hret (bb d5_146) hr
  · show Q_add1WW2 Z a1 at_ ow on ob ol oh oz kw_ kn_ kb_ kl_ kh_ kz_ eb0 el0 eu0 ev0_0 ev1_0 ex2 ex3 ex4 ex5 ex6 ex7 kt_ et0 h0 n0 _ T15.heap _
    rw [e15]
    exact ⟨rfl, N15, (((Keep.refl h0 [a1, oz]).wr W10 (Or.inl (List.mem_of_getElem? (i := 1) rfl))).wr W15 (Or.inl (List.mem_of_getElem? (i := 0) rfl))), F17, F18, Fw15, F19, F20, F21, F22, F23, F24, r9, F25, r11, F26, F27, F28, F29⟩
def Q_tuple1 (Z : State) (p1 : Int32) (h0 : Heap) (n0 : Nat) (v : Option Value) (h : Heap) (L : List Loc) : Prop := ∃ (ot : Addr) (kt : ClassId), v = some (.ref ot) ∧ Fr n0 L ∧ Keep h0 h [] ∧ h0.size ≤ ot ∧ Arv Z h ot kt .int (1 : Int32) [(.int p1)] (.int 0)
set_option maxRecDepth 65536 in
set_option maxHeartbeats 40000000 in
theorem rm_tuple1 (l : Launch) (Z : State) (a0 : Array Value) (ww : WW a0 Z) (ws : List Jvm.Cond) (p1 : Int32) (h0 : Heap) (n0 : Nat) (Z0 : n0 ≤ h0.size) (O0 : Old Z n0 h0) (S_CS : Sta Z Z.heap cRV "CHUNK_SHIFT" "I" (.int (12 : Int32))) :
    MF l Z (⟨"com/example/chaseward/chaseward/engine/RowValuesClearPinLaw", "tuple", "(ZI)[I"⟩ : MethodName) method_3_code 2 (some (.array .int)) ws ({ frames := 0, cells := 1, slots := 1, locals := 0 } : Room) #[(.int 0), (.int p1)] h0 (Q_tuple1 Z p1 h0 n0) := by
  refine gopen (plainFor_of_name pn_RowValuesClearPinLaw) (fun m => ef_tuple1 m p1) (fun p e s m below meth c s₁ hlk hret hx bb hml hown hnm hZ X0 e0 R0 hR0 => ?_)
  have N0 := Fr.nil n0
  refine g_iloadN X0 hx (bb d1_0) rfl ?_
  refine g_ifYes X0 hx (pc' := 18) (bb d1_1) ((if0 _ _).trans (teq (by decide : (0 : Int32) = (0 : Int32))).1) (by decide) (by decide) ?_
  refine g_iconst X0 hx (bb d1_18) ?_
  obtain ⟨T1, h1, k1, X1, e1, E1, A1, B1, st1⟩ := newPE (aty := .int) X0 hx hZ (ww 4 rfl) e0 (g := (mkF m 19 #[vI 0, vI p1] [(.int 1)])) rfl (bb d1_19) rfl (by decide) (cap := 1) (by decide) (by decide) (by decide) (by decide) (ad := "[I") (by decide)
  obtain ⟨b1, q_b1⟩ : ∃ z, z = (h0).size := ⟨_, rfl⟩
  rw [← q_b1] at A1 B1 st1
  have g_b1 : n0 ≤ b1 := Nat.le_trans (own_z0 O0) (Nat.le_of_eq q_b1.symm)
  have sz_b1 : h0.size ≤ b1 := Nat.le_trans (Nat.le_refl _) (Nat.le_of_eq q_b1.symm)
  refine gl st1 ?_
  have V_b1 : Arv Z h1 b1 k1 .int (1 : Int32) [(.int 0)] (.int 0) := (Arv.new A1 (by decide)).pad (pad_rep [] (.int 0) 1)
  refine g_dup X1 hx (bb d1_21) rfl ?_
  refine g_iconst X1 hx (bb d1_22) ?_
  refine g_iloadN X1 hx (bb d1_23) rfl ?_
  refine gSi X1 hx hZ e1 V_b1 ⟨by decide, by decide⟩ 0 rfl (Nat.le_of_ble_eq_true rfl) N0 g_b1 (bb d1_24) (fun T2 h2 X2 e2 W2 V2 N2 => ?_)
  obtain ⟨fs, hr, hrun, hended, hW, hsame⟩ := X2.leave (v := some (.ref b1)) (fun h => by rw [hret] at h; cases h)
  subst hR0
  refine ⟨_, _, ?_, hrun, hended, _, _, rfl, ?_, ⟨_, rfl⟩, hW, hsame.mono (by decide) (by decide)⟩
  · exact retOut X2 hx hret rfl (Or.inr (Or.inr (Or.inr (Or.inr ⟨rfl, rfl, rfl⟩)))) (bb d1_25) hr
  · show Q_tuple1 Z p1 h0 n0 _ T2.heap _
    rw [e2]
    exact ⟨b1, k1, rfl, N2, (((Keep.refl h0 []).ext E1).wr W2 (Or.inr sz_b1)), sz_b1, V2⟩
def Q_clear1N (Z : State) (a1 ow on ob ol oh ov : Addr) (kw_ kn_ : ClassId) (er : Int32) (h0 : Heap) (n0 : Nat) (v : Option Value) (h : Heap) (L : List Loc) : Prop := v = none ∧ Fr n0 L ∧ Keep h0 h [a1] ∧ Fld Z h a1 cRV "arity" "I" (.int 1) ∧ Fld Z h a1 cRV "rows" "I" (.int 0) ∧ Fld Z h a1 cRV "wide" "[[I" (.ref ow) ∧ Fld Z h a1 cRV "narrow" "[[C" (.ref on) ∧ Fld Z h a1 cRV "bases" "[I" (.ref ob) ∧ Fld Z h a1 cRV "lowest" "[I" (.ref ol) ∧ Fld Z h a1 cRV "highest" "[I" (.ref oh)
set_option maxRecDepth 65536 in
set_option maxHeartbeats 40000000 in
theorem rm_clear1N (l : Launch) (Z : State) (a0 : Array Value) (ww : WW a0 Z) (ws : List Jvm.Cond) (a1 ow on ob ol oh ov : Addr) (kw_ kn_ : ClassId) (er : Int32) (h0 : Heap) (n0 : Nat) (Z0 : n0 ≤ h0.size) (O0 : Old Z n0 h0) (S_CS : Sta Z Z.heap cRV "CHUNK_SHIFT" "I" (.int (12 : Int32))) (r0 : Exa Z h0 a1 cRV) (r1 : Fld Z h0 a1 cRV "arity" "I" (.int 1)) (r2 : Fld Z h0 a1 cRV "rows" "I" (.int er)) (r3 : Fld Z h0 a1 cRV "wide" "[[I" (.ref ow)) (r4 : Fld Z h0 a1 cRV "narrow" "[[C" (.ref on)) (r5 : Fld Z h0 a1 cRV "bases" "[I" (.ref ob)) (r6 : Fld Z h0 a1 cRV "lowest" "[I" (.ref ol)) (r7 : Fld Z h0 a1 cRV "highest" "[I" (.ref oh)) (r8 : Arv Z h0 ow kw_ (.array .int) (1 : Int32) [.null] .null) (r9 : Arv Z h0 on kn_ (.array .char) (1 : Int32) [(.ref ov)] .null) (g_a1 : n0 ≤ a1) (ne_a1_ow : a1 ≠ ow) (ne_a1_on : a1 ≠ on) :
    MF l Z (⟨cRV, "clear", "()V"⟩ : MethodName) prog_47_method_2_code 2 none ws ({ frames := 0, cells := 0, slots := 0, locals := 0 } : Room) #[(.ref a1)] h0 (Q_clear1N Z a1 ow on ob ol oh ov kw_ kn_ er h0 n0) := by
  refine gopen (plainFor_of_name pn_RowValues) (fun m => ef_clear1N m a1) (fun p e s m below meth c s₁ hlk hret hx bb hml hown hnm hZ X0 e0 R0 hR0 => ?_)
  have N0 := Fr.nil n0
  refine g_aloadN X0 hx (bb d4_0) rfl rfl ?_
  refine g_iconst X0 hx (bb d4_1) ?_
  obtain ⟨T1, h1, X1, e1, W1, st1⟩ := putF X0 hx hZ hown (host := "") (Or.inl (ww 37 rfl)) Via.refl e0 r2 r0 (Or.inl (ww 38 rfl)) (ww 6 rfl) (ty := .int) (by decide) rfl rfl (g := (mkF m 2 #[vR a1, .unset] [(.int 0), (.ref a1)])) rfl rfl (bb d4_2)
  have Fw1 := r2.same W1
  refine gl st1 ?_
  have N1 := Fr.snoc X1 N0 g_a1
  refine g_aloadN X1 hx (bb d4_5) rfl rfl ?_
  have F3 := (r4.other W1 (Or.inr (slot_ne (Or.inl (ww 21 rfl)) (Or.inl (ww 38 rfl)) (by decide) (t := (.array (.array .char))) (t' := .int) (by decide) (by decide))))
  refine gF X1 hx hZ hown (ww 20 rfl) e1 F3 (bb d4_6) (fun T2 X2 e2 => ?_)
  refine g_iconst X2 hx (bb d4_9) ?_
  have F4 := (r9.other W1 (Ne.symm ne_a1_on))
  refine gLr rfl X2 hx hZ e2 F4 (v := (.ref ov)) ⟨by decide, by decide⟩ rfl (bb d4_10) ?_
  refine g_ifnonnullYes X2 hx (pc' := 36) (bb d4_11) (by decide) (by decide) ?_
  refine g_iconst X2 hx (bb d4_36) ?_
  refine g_istoreN X2 hx (bb d4_37) (l' := #[vR a1, vI 1]) rfl ?_
  refine g_iloadN X2 hx (bb d4_38) rfl ?_
  refine g_aloadN X2 hx (bb d4_39) rfl rfl ?_
  have F6 := (r3.other W1 (Or.inr (slot_ne (Or.inl (ww 17 rfl)) (Or.inl (ww 38 rfl)) (by decide) (t := (.array (.array .int))) (t' := .int) (by decide) (by decide))))
  refine gF X2 hx hZ hown (ww 16 rfl) e2 F6 (bb d4_40) (fun T5 X5 e5 => ?_)
  have F7 := (r8.other W1 (Ne.symm ne_a1_ow))
  refine gA X5 hx hZ e5 F7 (bb d4_43) ?_
  refine g_icmpYes X5 hx (pc' := 67) (bb d4_44) (flt (by decide : ¬ ((1 : Int32) < (1 : Int32)))).2.1 (by decide) (by decide) ?_
  have F8 := (r1.other W1 (Or.inr (slot_ne (Or.inr (ww 23 rfl)) (Or.inl (ww 38 rfl)) (by decide) (t := .int) (t' := .int) (by decide) (by decide))))
  have F9 := (r5.other W1 (Or.inr (slot_ne (Or.inl (ww 25 rfl)) (Or.inl (ww 38 rfl)) (by decide) (t := (.array .int)) (t' := .int) (by decide) (by decide))))
  have F10 := (r6.other W1 (Or.inr (slot_ne (Or.inr (ww 27 rfl)) (Or.inl (ww 38 rfl)) (by decide) (t := (.array .int)) (t' := .int) (by decide) (by decide))))
  have F11 := (r7.other W1 (Or.inr (slot_ne (Or.inr (ww 29 rfl)) (Or.inl (ww 38 rfl)) (by decide) (t := (.array .int)) (t' := .int) (by decide) (by decide))))
  obtain ⟨fs, hr, hrun, hended, hW, hsame⟩ := X5.leave (v := none) (fun _ => rfl)
  subst hR0
  refine ⟨_, _, ?_, hrun, hended, _, _, rfl, ?_, ⟨_, rfl⟩, hW, hsame.mono (by decide) (by decide)⟩
  · exact X5.returnOut hx hret (bb d4_67) hr
  · show Q_clear1N Z a1 ow on ob ol oh ov kw_ kn_ er h0 n0 _ T5.heap _
    rw [e5]
    exact ⟨rfl, N1, ((Keep.refl h0 [a1]).wr W1 (Or.inl (List.mem_of_getElem? (i := 0) rfl))), F8, Fw1, F6, F3, F9, F10, F11⟩
def Q_clear1W (Z : State) (a1 ow on ob ol oh oz : Addr) (kw_ kn_ kz_ : ClassId) (er ex0 ex1 ex2 ex3 ex4 ex5 ex6 ex7 : Int32) (h0 : Heap) (n0 : Nat) (v : Option Value) (h : Heap) (L : List Loc) : Prop := ∃ (ov : Addr) (kv_ : ClassId), v = none ∧ Fr n0 L ∧ Keep h0 h [a1, ow, on] ∧ h0.size ≤ ov ∧ Fld Z h a1 cRV "arity" "I" (.int 1) ∧ Fld Z h a1 cRV "rows" "I" (.int 0) ∧ Fld Z h a1 cRV "wide" "[[I" (.ref ow) ∧ Fld Z h a1 cRV "narrow" "[[C" (.ref on) ∧ Fld Z h a1 cRV "bases" "[I" (.ref ob) ∧ Fld Z h a1 cRV "lowest" "[I" (.ref ol) ∧ Fld Z h a1 cRV "highest" "[I" (.ref oh) ∧ Arv Z h ow kw_ (.array .int) (1 : Int32) [.null] .null ∧ Arv Z h on kn_ (.array .char) (1 : Int32) [(.ref ov)] .null ∧ Arv Z h ov kv_ .char (8 : Int32) [(.int 0), (.int 0), (.int 0), (.int 0), (.int 0), (.int 0), (.int 0), (.int 0)] (.int 0)
set_option maxRecDepth 65536 in
set_option maxHeartbeats 40000000 in
theorem rm_clear1W (l : Launch) (Z : State) (a0 : Array Value) (ww : WW a0 Z) (ws : List Jvm.Cond) (a1 ow on ob ol oh oz : Addr) (kw_ kn_ kz_ : ClassId) (er ex0 ex1 ex2 ex3 ex4 ex5 ex6 ex7 : Int32) (h0 : Heap) (n0 : Nat) (Z0 : n0 ≤ h0.size) (O0 : Old Z n0 h0) (S_CS : Sta Z Z.heap cRV "CHUNK_SHIFT" "I" (.int (12 : Int32))) (r0 : Exa Z h0 a1 cRV) (r1 : Fld Z h0 a1 cRV "arity" "I" (.int 1)) (r2 : Fld Z h0 a1 cRV "rows" "I" (.int er)) (r3 : Fld Z h0 a1 cRV "wide" "[[I" (.ref ow)) (r4 : Fld Z h0 a1 cRV "narrow" "[[C" (.ref on)) (r5 : Fld Z h0 a1 cRV "bases" "[I" (.ref ob)) (r6 : Fld Z h0 a1 cRV "lowest" "[I" (.ref ol)) (r7 : Fld Z h0 a1 cRV "highest" "[I" (.ref oh)) (r8 : Arv Z h0 ow kw_ (.array .int) (1 : Int32) [(.ref oz)] .null) (r9 : OvrA Z kw_ .int "[I") (r10 : Arv Z h0 on kn_ (.array .char) (1 : Int32) [.null] .null) (r11 : OvrA Z kn_ .char "[C") (r12 : Arv Z h0 oz kz_ .int (8 : Int32) [(.int ex0), (.int ex1), (.int ex2), (.int ex3), (.int ex4), (.int ex5), (.int ex6), (.int ex7)] (.int 0)) (g_a1 : n0 ≤ a1) (g_ow : n0 ≤ ow) (g_on : n0 ≤ on) (ne_a1_ow : a1 ≠ ow) (ne_a1_on : a1 ≠ on) (ne_a1_oz : a1 ≠ oz) (ne_ow_on : ow ≠ on) (ne_ow_oz : ow ≠ oz) (ne_on_oz : on ≠ oz) :
    MF l Z (⟨cRV, "clear", "()V"⟩ : MethodName) prog_47_method_2_code 2 none ws ({ frames := 0, cells := 1, slots := 8, locals := 0 } : Room) #[(.ref a1)] h0 (Q_clear1W Z a1 ow on ob ol oh oz kw_ kn_ kz_ er ex0 ex1 ex2 ex3 ex4 ex5 ex6 ex7 h0 n0) := by
  refine gopen (plainFor_of_name pn_RowValues) (fun m => ef_clear1W m a1) (fun p e s m below meth c s₁ hlk hret hx bb hml hown hnm hZ X0 e0 R0 hR0 => ?_)
  have N0 := Fr.nil n0
  refine g_aloadN X0 hx (bb d4_0) rfl rfl ?_
  refine g_iconst X0 hx (bb d4_1) ?_
  obtain ⟨T1, h1, X1, e1, W1, st1⟩ := putF X0 hx hZ hown (host := "") (Or.inl (ww 37 rfl)) Via.refl e0 r2 r0 (Or.inl (ww 38 rfl)) (ww 6 rfl) (ty := .int) (by decide) rfl rfl (g := (mkF m 2 #[vR a1, .unset] [(.int 0), (.ref a1)])) rfl rfl (bb d4_2)
  have Fw1 := r2.same W1
  refine gl st1 ?_
  have N1 := Fr.snoc X1 N0 g_a1
  refine g_aloadN X1 hx (bb d4_5) rfl rfl ?_
  have F3 := (r4.other W1 (Or.inr (slot_ne (Or.inl (ww 21 rfl)) (Or.inl (ww 38 rfl)) (by decide) (t := (.array (.array .char))) (t' := .int) (by decide) (by decide))))
  refine gF X1 hx hZ hown (ww 20 rfl) e1 F3 (bb d4_6) (fun T2 X2 e2 => ?_)
  refine g_iconst X2 hx (bb d4_9) ?_
  have F4 := (r10.other W1 (Ne.symm ne_a1_on))
  refine gLr rfl X2 hx hZ e2 F4 (v := .null) ⟨by decide, by decide⟩ rfl (bb d4_10) ?_
  refine g_ifnonnullNo X2 hx (bb d4_11) ?_
  refine g_aloadN X2 hx (bb d4_14) rfl rfl ?_
  refine gF X2 hx hZ hown (ww 20 rfl) e2 F3 (bb d4_15) (fun T5 X5 e5 => ?_)
  refine g_iconst X5 hx (bb d4_18) ?_
  refine g_aloadN X5 hx (bb d4_19) rfl rfl ?_
  have F7 := (r3.other W1 (Or.inr (slot_ne (Or.inl (ww 17 rfl)) (Or.inl (ww 38 rfl)) (by decide) (t := (.array (.array .int))) (t' := .int) (by decide) (by decide))))
  refine gF X5 hx hZ hown (ww 16 rfl) e5 F7 (bb d4_20) (fun T6 X6 e6 => ?_)
  refine g_iconst X6 hx (bb d4_23) ?_
  have F8 := (r8.other W1 (Ne.symm ne_a1_ow))
  refine gLr rfl X6 hx hZ e6 F8 (v := (.ref oz)) ⟨by decide, by decide⟩ rfl (bb d4_24) ?_
  have F9 := (r12.other W1 (Ne.symm ne_a1_oz))
  refine gA X6 hx hZ e6 F9 (bb d4_25) ?_
  have O11 := (O0.wr W1 g_a1)
  obtain ⟨T10, h10, k10, X10, e10, E10, A10, B10, st10⟩ := newPE (aty := .char) X6 hx hZ (ww 30 rfl) e6 (g := (mkF m 26 #[vR a1, .unset] [(.int 8), (.int 0), (.ref on)])) rfl (bb d4_26) rfl (by decide) (cap := 8) (by decide) (by decide) (by decide) (by decide) (ad := "[C") (by decide)
  obtain ⟨b10, q_b10⟩ : ∃ z, z = (h1).size := ⟨_, rfl⟩
  rw [← q_b10] at A10 B10 st10
  have g_b10 : n0 ≤ b10 := Nat.le_trans (own_z0 O11) (Nat.le_of_eq q_b10.symm)
  have sz_b10 : h0.size ≤ b10 := Nat.le_trans (Nat.le_trans (Nat.le_refl _) (Keep.of_wr W1).1) (Nat.le_of_eq q_b10.symm)
  have F12 := (r0.wr W1)
  have ne_a1_b10 : a1 ≠ b10 := Nat.ne_of_lt (Nat.lt_of_lt_of_le F12.lt (Nat.le_of_eq q_b10.symm))
  have ne_ow_b10 : ow ≠ b10 := Nat.ne_of_lt (Nat.lt_of_lt_of_le F8.lt (Nat.le_of_eq q_b10.symm))
  have ne_on_b10 : on ≠ b10 := Nat.ne_of_lt (Nat.lt_of_lt_of_le F4.lt (Nat.le_of_eq q_b10.symm))
  have ne_oz_b10 : oz ≠ b10 := Nat.ne_of_lt (Nat.lt_of_lt_of_le F9.lt (Nat.le_of_eq q_b10.symm))
  refine gl st10 ?_
  have V_b10 : Arv Z h10 b10 k10 .char (8 : Int32) [(.int 0), (.int 0), (.int 0), (.int 0), (.int 0), (.int 0), (.int 0), (.int 0)] (.int 0) := (Arv.new A10 (by decide)).pad (pad_rep [] (.int 0) 8)
  have F13 := (F4.ext E10)
  obtain ⟨cl14, Ar14, vq14, vS14, vN14, vH14, vG14⟩ := id F13
  have hin14 : ¬ (((0 : Int32) : Int32) < 0 ∨ cl14.slots.size ≤ ((0 : Int32) : Int32).toNatClampNeg) := inb_of vS14 ⟨by decide, by decide⟩
  obtain ⟨T14, h14, X14, e14, W14, st14⟩ := stR X10 hx hZ e10 Ar14 (j := (0 : Int32)) hin14 rfl (Sto.ofVA Ar14 vq14 r11 (Ins.self B10)) (g := (mkF m 28 #[vR a1, .unset] [(.ref b10), (.int 0), (.ref on)])) rfl rfl (bb d4_28)
  refine gl st14 ?_
  have V14 : Arv Z h14 on kn_ (.array .char) (1 : Int32) [(.ref b10)] .null := Arv.set Ar14 vq14 vS14 vN14 vH14 vG14 rfl W14 0 rfl (Nat.le_of_ble_eq_true rfl)
  have N14 := Fr.snoc X14 N1 g_on
  refine g_aloadN X14 hx (bb d4_29) rfl rfl ?_
  have F16 := ((F7.ext E10).other W14 (Or.inl ne_a1_on))
  refine gF X14 hx hZ hown (ww 16 rfl) e14 F16 (bb d4_30) (fun T15 X15 e15 => ?_)
  refine g_iconst X15 hx (bb d4_33) ?_
  refine g_aconstNull X15 hx (bb d4_34) ?_
  have F17 := ((F8.ext E10).other W14 ne_ow_on)
  obtain ⟨cl18, Ar18, vq18, vS18, vN18, vH18, vG18⟩ := id F17
  have hin18 : ¬ (((0 : Int32) : Int32) < 0 ∨ cl18.slots.size ≤ ((0 : Int32) : Int32).toNatClampNeg) := inb_of vS18 ⟨by decide, by decide⟩
  obtain ⟨T18, h18, X18, e18, W18, st18⟩ := stR X15 hx hZ e15 Ar18 (j := (0 : Int32)) hin18 rfl (Or.inl rfl) (g := (mkF m 35 #[vR a1, .unset] [.null, (.int 0), (.ref ow)])) rfl rfl (bb d4_35)
  refine gl st18 ?_
  have V18 : Arv Z h18 ow kw_ (.array .int) (1 : Int32) [.null] .null := Arv.set Ar18 vq18 vS18 vN18 vH18 vG18 rfl W18 0 rfl (Nat.le_of_ble_eq_true rfl)
  have N18 := Fr.snoc X18 N14 g_ow
  refine g_iconst X18 hx (bb d4_36) ?_
  refine g_istoreN X18 hx (bb d4_37) (l' := #[vR a1, vI 1]) rfl ?_
  refine g_iloadN X18 hx (bb d4_38) rfl ?_
  refine g_aloadN X18 hx (bb d4_39) rfl rfl ?_
  have F20 := (F16.other W18 (Or.inl ne_a1_ow))
  refine gF X18 hx hZ hown (ww 16 rfl) e18 F20 (bb d4_40) (fun T19 X19 e19 => ?_)
  refine gA X19 hx hZ e19 V18 (bb d4_43) ?_
  refine g_icmpYes X19 hx (pc' := 67) (bb d4_44) (flt (by decide : ¬ ((1 : Int32) < (1 : Int32)))).2.1 (by decide) (by decide) ?_
  have F21 := ((((r1.other W1 (Or.inr (slot_ne (Or.inr (ww 23 rfl)) (Or.inl (ww 38 rfl)) (by decide) (t := .int) (t' := .int) (by decide) (by decide)))).ext E10).other W14 (Or.inl ne_a1_on)).other W18 (Or.inl ne_a1_ow))
  have F22 := (((Fw1.ext E10).other W14 (Or.inl ne_a1_on)).other W18 (Or.inl ne_a1_ow))
  have F23 := (((F3.ext E10).other W14 (Or.inl ne_a1_on)).other W18 (Or.inl ne_a1_ow))
  have F24 := ((((r5.other W1 (Or.inr (slot_ne (Or.inl (ww 25 rfl)) (Or.inl (ww 38 rfl)) (by decide) (t := (.array .int)) (t' := .int) (by decide) (by decide)))).ext E10).other W14 (Or.inl ne_a1_on)).other W18 (Or.inl ne_a1_ow))
  have F25 := ((((r6.other W1 (Or.inr (slot_ne (Or.inr (ww 27 rfl)) (Or.inl (ww 38 rfl)) (by decide) (t := (.array .int)) (t' := .int) (by decide) (by decide)))).ext E10).other W14 (Or.inl ne_a1_on)).other W18 (Or.inl ne_a1_ow))
  have F26 := ((((r7.other W1 (Or.inr (slot_ne (Or.inr (ww 29 rfl)) (Or.inl (ww 38 rfl)) (by decide) (t := (.array .int)) (t' := .int) (by decide) (by decide)))).ext E10).other W14 (Or.inl ne_a1_on)).other W18 (Or.inl ne_a1_ow))
  have F27 := (V14.other W18 (Ne.symm ne_ow_on))
  have F28 := ((V_b10.other W14 (Ne.symm ne_on_b10)).other W18 (Ne.symm ne_ow_b10))
  obtain ⟨fs, hr, hrun, hended, hW, hsame⟩ := X19.leave (v := none) (fun _ => rfl)
  subst hR0
  refine ⟨_, _, ?_, hrun, hended, _, _, rfl, ?_, ⟨_, rfl⟩, hW, hsame.mono (by decide) (by decide)⟩
  · exact X19.returnOut hx hret (bb d4_67) hr
  · show Q_clear1W Z a1 ow on ob ol oh oz kw_ kn_ kz_ er ex0 ex1 ex2 ex3 ex4 ex5 ex6 ex7 h0 n0 _ T19.heap _
    rw [e19]
    exact ⟨b10, k10, rfl, N18, (((((Keep.refl h0 [a1, ow, on]).wr W1 (Or.inl (List.mem_of_getElem? (i := 0) rfl))).ext E10).wr W14 (Or.inl (List.mem_of_getElem? (i := 2) rfl))).wr W18 (Or.inl (List.mem_of_getElem? (i := 1) rfl))), sz_b10, F21, F22, F20, F23, F24, F25, F26, V18, F27, F28⟩
def Q_rvInit2 (Z : State) (a1 : Addr) (h0 : Heap) (n0 : Nat) (v : Option Value) (h : Heap) (L : List Loc) : Prop := ∃ (ow on ob ol oh ov : Addr) (kw_ kn_ kb_ kl_ kh_ kv_ : ClassId), v = none ∧ Fr n0 L ∧ Keep h0 h [a1] ∧ h0.size ≤ ow ∧ h0.size ≤ on ∧ h0.size ≤ ob ∧ h0.size ≤ ol ∧ h0.size ≤ oh ∧ h0.size ≤ ov ∧ ow ≠ on ∧ ow ≠ ob ∧ ow ≠ ol ∧ ow ≠ oh ∧ ow ≠ ov ∧ on ≠ ob ∧ on ≠ ol ∧ on ≠ oh ∧ on ≠ ov ∧ ob ≠ ol ∧ ob ≠ oh ∧ ob ≠ ov ∧ ol ≠ oh ∧ ol ≠ ov ∧ oh ≠ ov ∧ Exa Z h a1 cRV ∧ Fld Z h a1 cRV "arity" "I" (.int 2) ∧ Fld Z h a1 cRV "rows" "I" (.int 0) ∧ Fld Z h a1 cRV "wide" "[[I" (.ref ow) ∧ Fld Z h a1 cRV "narrow" "[[C" (.ref on) ∧ Fld Z h a1 cRV "bases" "[I" (.ref ob) ∧ Fld Z h a1 cRV "lowest" "[I" (.ref ol) ∧ Fld Z h a1 cRV "highest" "[I" (.ref oh) ∧ Arv Z h ow kw_ (.array .int) (1 : Int32) [.null] .null ∧ OvrA Z kw_ .int "[I" ∧ Arv Z h on kn_ (.array .char) (1 : Int32) [(.ref ov)] .null ∧ OvrA Z kn_ .char "[C" ∧ Arv Z h ob kb_ .int (2 : Int32) [(.int 0), (.int 0)] (.int 0) ∧ Arv Z h ol kl_ .int (2 : Int32) [(.int 0), (.int 0)] (.int 0) ∧ Arv Z h oh kh_ .int (2 : Int32) [(.int 0), (.int 0)] (.int 0) ∧ Arv Z h ov kv_ .char (16 : Int32) [(.int 0), (.int 0), (.int 0), (.int 0), (.int 0), (.int 0), (.int 0), (.int 0), (.int 0), (.int 0), (.int 0), (.int 0), (.int 0), (.int 0), (.int 0), (.int 0)] (.int 0)
set_option maxRecDepth 65536 in
set_option maxHeartbeats 40000000 in
theorem rm_rvInit2 (l : Launch) (Z : State) (a0 : Array Value) (ww : WW a0 Z) (ws : List Jvm.Cond) (a1 : Addr) (h0 : Heap) (n0 : Nat) (Z0 : n0 ≤ h0.size) (O0 : Old Z n0 h0) (S_CS : Sta Z Z.heap cRV "CHUNK_SHIFT" "I" (.int (12 : Int32))) (r0 : Exa Z h0 a1 cRV) (r1 : Fld Z h0 a1 cRV "arity" "I" (.int 0)) (r2 : Fld Z h0 a1 cRV "rows" "I" (.int 0)) (r3 : Fld Z h0 a1 cRV "wide" "[[I" .null) (r4 : Fld Z h0 a1 cRV "narrow" "[[C" .null) (r5 : Fld Z h0 a1 cRV "bases" "[I" .null) (r6 : Fld Z h0 a1 cRV "lowest" "[I" .null) (r7 : Fld Z h0 a1 cRV "highest" "[I" .null) (g_a1 : n0 ≤ a1) :
    MF l Z (⟨cRV, "<init>", "(I)V"⟩ : MethodName) prog_47_method_1_code 2 none ws ({ frames := 1, cells := 6, slots := 24, locals := 12 } : Room) #[(.ref a1), (.int 2)] h0 (Q_rvInit2 Z a1 h0 n0) := by
  refine gopen (plainFor_of_name pn_RowValues) (fun m => ef_rvInit2 m a1) (fun p e s m below meth c s₁ hlk hret hx bb hml hown hnm hZ X0 e0 R0 hR0 => ?_)
  have N0 := Fr.nil n0
  refine g_aloadN X0 hx (bb d2_0) rfl rfl ?_
  obtain ⟨T1, X1, e1, st1⟩ := initO X0 hx hZ hown (ww 11 rfl) (ww 12 rfl) (ww 13 rfl) e0 (g := (mkF m 1 #[vR a1, vI 2] [(.ref a1)])) rfl (by rw [hml]; rfl) rfl (bb d2_1) (by decide) (W := 0) (by show 2 * 0 + _ ≤ _; exact Nat.le_of_eq rfl) (by decide)
  refine gl st1 ?_
  refine g_aloadN X1 hx (bb d2_4) rfl rfl ?_
  refine g_iconst X1 hx (bb d2_5) ?_
  obtain ⟨T2, h2, k2, X2, e2, E2, A2, B2, R2, st2⟩ := newRA X1 hx hZ hown (C := "[I") (ty := .int) (by decide) (ww 14 rfl) (ww 15 rfl) e1 (g := (mkF m 6 #[vR a1, vI 2] [(.int 1), (.ref a1)])) rfl (bb d2_6) rfl (by decide) (cap := 1) (by decide) (by decide) (by decide) (by decide) (ad := "[[I") (by decide)
  obtain ⟨b2, q_b2⟩ : ∃ z, z = (h0).size := ⟨_, rfl⟩
  rw [← q_b2] at A2 B2 st2
  have g_b2 : n0 ≤ b2 := Nat.le_trans (own_z0 O0) (Nat.le_of_eq q_b2.symm)
  have sz_b2 : h0.size ≤ b2 := Nat.le_trans (Nat.le_refl _) (Nat.le_of_eq q_b2.symm)
  have ne_a1_b2 : a1 ≠ b2 := Nat.ne_of_lt (Nat.lt_of_lt_of_le r0.lt (Nat.le_of_eq q_b2.symm))
  refine gl st2 ?_
  have V_b2 : Arv Z h2 b2 k2 (.array .int) (1 : Int32) [.null] .null := (Arv.new A2 (by decide)).pad (pad_rep [] .null 1)
  have F4 := (r3.ext E2)
  have F5 := (r0.ext E2)
  obtain ⟨T3, h3, X3, e3, W3, st3⟩ := putF X2 hx hZ hown (host := "") (Or.inl (ww 16 rfl)) Via.refl e2 F4 F5 (Or.inl (ww 17 rfl)) (ww 6 rfl) (ty := (.array (.array .int))) (by decide) rfl rfl (g := (mkF m 9 #[vR a1, vI 2] [(.ref b2), (.ref a1)])) rfl rfl (bb d2_9)
  have Fw3 := F4.same W3
  refine gl st3 ?_
  have N3 := Fr.snoc X3 N0 g_a1
  refine g_aloadN X3 hx (bb d2_12) rfl rfl ?_
  refine g_iconst X3 hx (bb d2_13) ?_
  have O7 := ((O0.ext E2).wr W3 g_a1)
  obtain ⟨T6, h6, k6, X6, e6, E6, A6, B6, R6, st6⟩ := newRA X3 hx hZ hown (C := "[C") (ty := .char) (by decide) (ww 18 rfl) (ww 19 rfl) e3 (g := (mkF m 14 #[vR a1, vI 2] [(.int 1), (.ref a1)])) rfl (bb d2_14) rfl (by decide) (cap := 1) (by decide) (by decide) (by decide) (by decide) (ad := "[[C") (by decide)
  obtain ⟨b6, q_b6⟩ : ∃ z, z = (h3).size := ⟨_, rfl⟩
  rw [← q_b6] at A6 B6 st6
  have g_b6 : n0 ≤ b6 := Nat.le_trans (own_z0 O7) (Nat.le_of_eq q_b6.symm)
  have sz_b6 : h0.size ≤ b6 := Nat.le_trans (Nat.le_trans (Nat.le_trans (Nat.le_refl _) E2.1) (Keep.of_wr W3).1) (Nat.le_of_eq q_b6.symm)
  have F8 := (F5.wr W3)
  have ne_a1_b6 : a1 ≠ b6 := Nat.ne_of_lt (Nat.lt_of_lt_of_le F8.lt (Nat.le_of_eq q_b6.symm))
  have F9 := (V_b2.other W3 (Ne.symm ne_a1_b2))
  have ne_b2_b6 : b2 ≠ b6 := Nat.ne_of_lt (Nat.lt_of_lt_of_le F9.lt (Nat.le_of_eq q_b6.symm))
  refine gl st6 ?_
  have V_b6 : Arv Z h6 b6 k6 (.array .char) (1 : Int32) [.null] .null := (Arv.new A6 (by decide)).pad (pad_rep [] .null 1)
  have F11 := (((r4.ext E2).other W3 (Or.inr (slot_ne (Or.inl (ww 21 rfl)) (Or.inl (ww 17 rfl)) (by decide) (t := (.array (.array .char))) (t' := (.array (.array .int))) (by decide) (by decide)))).ext E6)
  have F12 := (F8.ext E6)
  obtain ⟨T10, h10, X10, e10, W10, st10⟩ := putF X6 hx hZ hown (host := "") (Or.inl (ww 20 rfl)) Via.refl e6 F11 F12 (Or.inl (ww 21 rfl)) (ww 6 rfl) (ty := (.array (.array .char))) (by decide) rfl rfl (g := (mkF m 17 #[vR a1, vI 2] [(.ref b6), (.ref a1)])) rfl rfl (bb d2_17)
  have Fw10 := F11.same W10
  refine gl st10 ?_
  have N10 := Fr.snoc X10 N3 g_a1
  refine g_aloadN X10 hx (bb d2_20) rfl rfl ?_
  refine g_iloadN X10 hx (bb d2_21) rfl ?_
  have F14 := ((((r1.ext E2).other W3 (Or.inr (slot_ne (Or.inr (ww 23 rfl)) (Or.inl (ww 17 rfl)) (by decide) (t := .int) (t' := (.array (.array .int))) (by decide) (by decide)))).ext E6).other W10 (Or.inr (slot_ne (Or.inr (ww 23 rfl)) (Or.inl (ww 21 rfl)) (by decide) (t := .int) (t' := (.array (.array .char))) (by decide) (by decide))))
  have F15 := (F12.wr W10)
  obtain ⟨T13, h13, X13, e13, W13, st13⟩ := putF X10 hx hZ hown (host := "") (Or.inl (ww 22 rfl)) Via.refl e10 F14 F15 (Or.inr ⟨(ww 23 rfl), rfl, hnm⟩) (ww 6 rfl) (ty := .int) (by decide) rfl rfl (g := (mkF m 22 #[vR a1, vI 2] [(.int 2), (.ref a1)])) rfl rfl (bb d2_22)
  have Fw13 := F14.same W13
  refine gl st13 ?_
  have N13 := Fr.snoc X13 N10 g_a1
  refine g_aloadN X13 hx (bb d2_25) rfl rfl ?_
  refine g_iloadN X13 hx (bb d2_26) rfl ?_
  have O17 := (((O7.ext E6).wr W10 g_a1).wr W13 g_a1)
  obtain ⟨T16, h16, k16, X16, e16, E16, A16, B16, st16⟩ := newPE (aty := .int) X13 hx hZ (ww 4 rfl) e13 (g := (mkF m 27 #[vR a1, vI 2] [(.int 2), (.ref a1)])) rfl (bb d2_27) rfl (by decide) (cap := 2) (by decide) (by decide) (by decide) (by decide) (ad := "[I") (by decide)
  obtain ⟨b16, q_b16⟩ : ∃ z, z = (h13).size := ⟨_, rfl⟩
  rw [← q_b16] at A16 B16 st16
  have g_b16 : n0 ≤ b16 := Nat.le_trans (own_z0 O17) (Nat.le_of_eq q_b16.symm)
  have sz_b16 : h0.size ≤ b16 := Nat.le_trans (Nat.le_trans (Nat.le_trans (Nat.le_trans (Nat.le_trans (Nat.le_trans (Nat.le_refl _) E2.1) (Keep.of_wr W3).1) E6.1) (Keep.of_wr W10).1) (Keep.of_wr W13).1) (Nat.le_of_eq q_b16.symm)
  have F18 := (F15.wr W13)
  have ne_a1_b16 : a1 ≠ b16 := Nat.ne_of_lt (Nat.lt_of_lt_of_le F18.lt (Nat.le_of_eq q_b16.symm))
  have F19 := (((F9.ext E6).other W10 (Ne.symm ne_a1_b2)).other W13 (Ne.symm ne_a1_b2))
  have ne_b2_b16 : b2 ≠ b16 := Nat.ne_of_lt (Nat.lt_of_lt_of_le F19.lt (Nat.le_of_eq q_b16.symm))
  have F20 := ((V_b6.other W10 (Ne.symm ne_a1_b6)).other W13 (Ne.symm ne_a1_b6))
  have ne_b6_b16 : b6 ≠ b16 := Nat.ne_of_lt (Nat.lt_of_lt_of_le F20.lt (Nat.le_of_eq q_b16.symm))
  refine gl st16 ?_
  have V_b16 : Arv Z h16 b16 k16 .int (2 : Int32) [(.int 0), (.int 0)] (.int 0) := (Arv.new A16 (by decide)).pad (pad_rep [] (.int 0) 2)
  have F22 := ((((((r5.ext E2).other W3 (Or.inr (slot_ne (Or.inl (ww 25 rfl)) (Or.inl (ww 17 rfl)) (by decide) (t := (.array .int)) (t' := (.array (.array .int))) (by decide) (by decide)))).ext E6).other W10 (Or.inr (slot_ne (Or.inl (ww 25 rfl)) (Or.inl (ww 21 rfl)) (by decide) (t := (.array .int)) (t' := (.array (.array .char))) (by decide) (by decide)))).other W13 (Or.inr (slot_ne (Or.inl (ww 25 rfl)) (Or.inr (ww 23 rfl)) (by decide) (t := (.array .int)) (t' := .int) (by decide) (by decide)))).ext E16)
  have F23 := (F18.ext E16)
  obtain ⟨T21, h21, X21, e21, W21, st21⟩ := putF X16 hx hZ hown (host := "") (Or.inl (ww 24 rfl)) Via.refl e16 F22 F23 (Or.inl (ww 25 rfl)) (ww 6 rfl) (ty := (.array .int)) (by decide) rfl rfl (g := (mkF m 29 #[vR a1, vI 2] [(.ref b16), (.ref a1)])) rfl rfl (bb d2_29)
  have Fw21 := F22.same W21
  refine gl st21 ?_
  have N21 := Fr.snoc X21 N13 g_a1
  refine g_aloadN X21 hx (bb d2_32) rfl rfl ?_
  refine g_iloadN X21 hx (bb d2_33) rfl ?_
  have O25 := ((O17.ext E16).wr W21 g_a1)
  obtain ⟨T24, h24, k24, X24, e24, E24, A24, B24, st24⟩ := newPE (aty := .int) X21 hx hZ (ww 4 rfl) e21 (g := (mkF m 34 #[vR a1, vI 2] [(.int 2), (.ref a1)])) rfl (bb d2_34) rfl (by decide) (cap := 2) (by decide) (by decide) (by decide) (by decide) (ad := "[I") (by decide)
  obtain ⟨b24, q_b24⟩ : ∃ z, z = (h21).size := ⟨_, rfl⟩
  rw [← q_b24] at A24 B24 st24
  have g_b24 : n0 ≤ b24 := Nat.le_trans (own_z0 O25) (Nat.le_of_eq q_b24.symm)
  have sz_b24 : h0.size ≤ b24 := Nat.le_trans (Nat.le_trans (Nat.le_trans (Nat.le_trans (Nat.le_trans (Nat.le_trans (Nat.le_trans (Nat.le_trans (Nat.le_refl _) E2.1) (Keep.of_wr W3).1) E6.1) (Keep.of_wr W10).1) (Keep.of_wr W13).1) E16.1) (Keep.of_wr W21).1) (Nat.le_of_eq q_b24.symm)
  have F26 := (F23.wr W21)
  have ne_a1_b24 : a1 ≠ b24 := Nat.ne_of_lt (Nat.lt_of_lt_of_le F26.lt (Nat.le_of_eq q_b24.symm))
  have F27 := ((F19.ext E16).other W21 (Ne.symm ne_a1_b2))
  have ne_b2_b24 : b2 ≠ b24 := Nat.ne_of_lt (Nat.lt_of_lt_of_le F27.lt (Nat.le_of_eq q_b24.symm))
  have F28 := ((F20.ext E16).other W21 (Ne.symm ne_a1_b6))
  have ne_b6_b24 : b6 ≠ b24 := Nat.ne_of_lt (Nat.lt_of_lt_of_le F28.lt (Nat.le_of_eq q_b24.symm))
  have F29 := (V_b16.other W21 (Ne.symm ne_a1_b16))
  have ne_b16_b24 : b16 ≠ b24 := Nat.ne_of_lt (Nat.lt_of_lt_of_le F29.lt (Nat.le_of_eq q_b24.symm))
  refine gl st24 ?_
  have V_b24 : Arv Z h24 b24 k24 .int (2 : Int32) [(.int 0), (.int 0)] (.int 0) := (Arv.new A24 (by decide)).pad (pad_rep [] (.int 0) 2)
  have F31 := ((((((((r6.ext E2).other W3 (Or.inr (slot_ne (Or.inr (ww 27 rfl)) (Or.inl (ww 17 rfl)) (by decide) (t := (.array .int)) (t' := (.array (.array .int))) (by decide) (by decide)))).ext E6).other W10 (Or.inr (slot_ne (Or.inr (ww 27 rfl)) (Or.inl (ww 21 rfl)) (by decide) (t := (.array .int)) (t' := (.array (.array .char))) (by decide) (by decide)))).other W13 (Or.inr (slot_ne (Or.inr (ww 27 rfl)) (Or.inr (ww 23 rfl)) (by decide) (t := (.array .int)) (t' := .int) (by decide) (by decide)))).ext E16).other W21 (Or.inr (slot_ne (Or.inr (ww 27 rfl)) (Or.inl (ww 25 rfl)) (by decide) (t := (.array .int)) (t' := (.array .int)) (by decide) (by decide)))).ext E24)
  have F32 := (F26.ext E24)
  obtain ⟨T30, h30, X30, e30, W30, st30⟩ := putF X24 hx hZ hown (host := "") (Or.inl (ww 26 rfl)) Via.refl e24 F31 F32 (Or.inr ⟨(ww 27 rfl), rfl, hnm⟩) (ww 6 rfl) (ty := (.array .int)) (by decide) rfl rfl (g := (mkF m 36 #[vR a1, vI 2] [(.ref b24), (.ref a1)])) rfl rfl (bb d2_36)
  have Fw30 := F31.same W30
  refine gl st30 ?_
  have N30 := Fr.snoc X30 N21 g_a1
  refine g_aloadN X30 hx (bb d2_39) rfl rfl ?_
  refine g_iloadN X30 hx (bb d2_40) rfl ?_
  have O34 := ((O25.ext E24).wr W30 g_a1)
  obtain ⟨T33, h33, k33, X33, e33, E33, A33, B33, st33⟩ := newPE (aty := .int) X30 hx hZ (ww 4 rfl) e30 (g := (mkF m 41 #[vR a1, vI 2] [(.int 2), (.ref a1)])) rfl (bb d2_41) rfl (by decide) (cap := 2) (by decide) (by decide) (by decide) (by decide) (ad := "[I") (by decide)
  obtain ⟨b33, q_b33⟩ : ∃ z, z = (h30).size := ⟨_, rfl⟩
  rw [← q_b33] at A33 B33 st33
  have g_b33 : n0 ≤ b33 := Nat.le_trans (own_z0 O34) (Nat.le_of_eq q_b33.symm)
  have sz_b33 : h0.size ≤ b33 := Nat.le_trans (Nat.le_trans (Nat.le_trans (Nat.le_trans (Nat.le_trans (Nat.le_trans (Nat.le_trans (Nat.le_trans (Nat.le_trans (Nat.le_trans (Nat.le_refl _) E2.1) (Keep.of_wr W3).1) E6.1) (Keep.of_wr W10).1) (Keep.of_wr W13).1) E16.1) (Keep.of_wr W21).1) E24.1) (Keep.of_wr W30).1) (Nat.le_of_eq q_b33.symm)
  have F35 := (F32.wr W30)
  have ne_a1_b33 : a1 ≠ b33 := Nat.ne_of_lt (Nat.lt_of_lt_of_le F35.lt (Nat.le_of_eq q_b33.symm))
  have F36 := ((F27.ext E24).other W30 (Ne.symm ne_a1_b2))
  have ne_b2_b33 : b2 ≠ b33 := Nat.ne_of_lt (Nat.lt_of_lt_of_le F36.lt (Nat.le_of_eq q_b33.symm))
  have F37 := ((F28.ext E24).other W30 (Ne.symm ne_a1_b6))
  have ne_b6_b33 : b6 ≠ b33 := Nat.ne_of_lt (Nat.lt_of_lt_of_le F37.lt (Nat.le_of_eq q_b33.symm))
  have F38 := ((F29.ext E24).other W30 (Ne.symm ne_a1_b16))
  have ne_b16_b33 : b16 ≠ b33 := Nat.ne_of_lt (Nat.lt_of_lt_of_le F38.lt (Nat.le_of_eq q_b33.symm))
  have F39 := (V_b24.other W30 (Ne.symm ne_a1_b24))
  have ne_b24_b33 : b24 ≠ b33 := Nat.ne_of_lt (Nat.lt_of_lt_of_le F39.lt (Nat.le_of_eq q_b33.symm))
  refine gl st33 ?_
  have V_b33 : Arv Z h33 b33 k33 .int (2 : Int32) [(.int 0), (.int 0)] (.int 0) := (Arv.new A33 (by decide)).pad (pad_rep [] (.int 0) 2)
  have F41 := ((((((((((r7.ext E2).other W3 (Or.inr (slot_ne (Or.inr (ww 29 rfl)) (Or.inl (ww 17 rfl)) (by decide) (t := (.array .int)) (t' := (.array (.array .int))) (by decide) (by decide)))).ext E6).other W10 (Or.inr (slot_ne (Or.inr (ww 29 rfl)) (Or.inl (ww 21 rfl)) (by decide) (t := (.array .int)) (t' := (.array (.array .char))) (by decide) (by decide)))).other W13 (Or.inr (slot_ne (Or.inr (ww 29 rfl)) (Or.inr (ww 23 rfl)) (by decide) (t := (.array .int)) (t' := .int) (by decide) (by decide)))).ext E16).other W21 (Or.inr (slot_ne (Or.inr (ww 29 rfl)) (Or.inl (ww 25 rfl)) (by decide) (t := (.array .int)) (t' := (.array .int)) (by decide) (by decide)))).ext E24).other W30 (Or.inr (slot_ne (Or.inr (ww 29 rfl)) (Or.inr (ww 27 rfl)) (by decide) (t := (.array .int)) (t' := (.array .int)) (by decide) (by decide)))).ext E33)
  have F42 := (F35.ext E33)
  obtain ⟨T40, h40, X40, e40, W40, st40⟩ := putF X33 hx hZ hown (host := "") (Or.inl (ww 28 rfl)) Via.refl e33 F41 F42 (Or.inr ⟨(ww 29 rfl), rfl, hnm⟩) (ww 6 rfl) (ty := (.array .int)) (by decide) rfl rfl (g := (mkF m 43 #[vR a1, vI 2] [(.ref b33), (.ref a1)])) rfl rfl (bb d2_43)
  have Fw40 := F41.same W40
  refine gl st40 ?_
  have N40 := Fr.snoc X40 N30 g_a1
  refine g_aloadN X40 hx (bb d2_46) rfl rfl ?_
  have F44 := (((((((Fw10.other W13 (Or.inr (slot_ne (Or.inl (ww 21 rfl)) (Or.inr (ww 23 rfl)) (by decide) (t := (.array (.array .char))) (t' := .int) (by decide) (by decide)))).ext E16).other W21 (Or.inr (slot_ne (Or.inl (ww 21 rfl)) (Or.inl (ww 25 rfl)) (by decide) (t := (.array (.array .char))) (t' := (.array .int)) (by decide) (by decide)))).ext E24).other W30 (Or.inr (slot_ne (Or.inl (ww 21 rfl)) (Or.inr (ww 27 rfl)) (by decide) (t := (.array (.array .char))) (t' := (.array .int)) (by decide) (by decide)))).ext E33).other W40 (Or.inr (slot_ne (Or.inl (ww 21 rfl)) (Or.inr (ww 29 rfl)) (by decide) (t := (.array (.array .char))) (t' := (.array .int)) (by decide) (by decide))))
  refine gF X40 hx hZ hown (ww 20 rfl) e40 F44 (bb d2_47) (fun T43 X43 e43 => ?_)
  refine g_iconst X43 hx (bb d2_50) ?_
  refine g_bipush X43 hx (bb d2_51) ?_
  refine g_iloadN X43 hx (bb d2_53) rfl ?_
  refine g_imul X43 hx (bb d2_54) ?_
  have O46 := ((O34.ext E33).wr W40 g_a1)
  obtain ⟨T45, h45, k45, X45, e45, E45, A45, B45, st45⟩ := newPE (aty := .char) X43 hx hZ (ww 30 rfl) e43 (g := (mkF m 55 #[vR a1, vI 2] [(.int 16), (.int 0), (.ref b6)])) rfl (bb d2_55) rfl (by decide) (cap := 16) (by decide) (by decide) (by decide) (by decide) (ad := "[C") (by decide)
  obtain ⟨b45, q_b45⟩ : ∃ z, z = (h40).size := ⟨_, rfl⟩
  rw [← q_b45] at A45 B45 st45
  have g_b45 : n0 ≤ b45 := Nat.le_trans (own_z0 O46) (Nat.le_of_eq q_b45.symm)
  have sz_b45 : h0.size ≤ b45 := Nat.le_trans (Nat.le_trans (Nat.le_trans (Nat.le_trans (Nat.le_trans (Nat.le_trans (Nat.le_trans (Nat.le_trans (Nat.le_trans (Nat.le_trans (Nat.le_trans (Nat.le_trans (Nat.le_refl _) E2.1) (Keep.of_wr W3).1) E6.1) (Keep.of_wr W10).1) (Keep.of_wr W13).1) E16.1) (Keep.of_wr W21).1) E24.1) (Keep.of_wr W30).1) E33.1) (Keep.of_wr W40).1) (Nat.le_of_eq q_b45.symm)
  have F47 := (F42.wr W40)
  have ne_a1_b45 : a1 ≠ b45 := Nat.ne_of_lt (Nat.lt_of_lt_of_le F47.lt (Nat.le_of_eq q_b45.symm))
  have F48 := ((F36.ext E33).other W40 (Ne.symm ne_a1_b2))
  have ne_b2_b45 : b2 ≠ b45 := Nat.ne_of_lt (Nat.lt_of_lt_of_le F48.lt (Nat.le_of_eq q_b45.symm))
  have F49 := ((F37.ext E33).other W40 (Ne.symm ne_a1_b6))
  have ne_b6_b45 : b6 ≠ b45 := Nat.ne_of_lt (Nat.lt_of_lt_of_le F49.lt (Nat.le_of_eq q_b45.symm))
  have F50 := ((F38.ext E33).other W40 (Ne.symm ne_a1_b16))
  have ne_b16_b45 : b16 ≠ b45 := Nat.ne_of_lt (Nat.lt_of_lt_of_le F50.lt (Nat.le_of_eq q_b45.symm))
  have F51 := ((F39.ext E33).other W40 (Ne.symm ne_a1_b24))
  have ne_b24_b45 : b24 ≠ b45 := Nat.ne_of_lt (Nat.lt_of_lt_of_le F51.lt (Nat.le_of_eq q_b45.symm))
  have F52 := (V_b33.other W40 (Ne.symm ne_a1_b33))
  have ne_b33_b45 : b33 ≠ b45 := Nat.ne_of_lt (Nat.lt_of_lt_of_le F52.lt (Nat.le_of_eq q_b45.symm))
  refine gl st45 ?_
  have V_b45 : Arv Z h45 b45 k45 .char (16 : Int32) [(.int 0), (.int 0), (.int 0), (.int 0), (.int 0), (.int 0), (.int 0), (.int 0), (.int 0), (.int 0), (.int 0), (.int 0), (.int 0), (.int 0), (.int 0), (.int 0)] (.int 0) := (Arv.new A45 (by decide)).pad (pad_rep [] (.int 0) 16)
  have F53 := (F49.ext E45)
  obtain ⟨cl54, Ar54, vq54, vS54, vN54, vH54, vG54⟩ := id F53
  have hin54 : ¬ (((0 : Int32) : Int32) < 0 ∨ cl54.slots.size ≤ ((0 : Int32) : Int32).toNatClampNeg) := inb_of vS54 ⟨by decide, by decide⟩
  obtain ⟨T54, h54, X54, e54, W54, st54⟩ := stR X45 hx hZ e45 Ar54 (j := (0 : Int32)) hin54 rfl (Sto.ofVA Ar54 vq54 R6 (Ins.self B45)) (g := (mkF m 57 #[vR a1, vI 2] [(.ref b45), (.int 0), (.ref b6)])) rfl rfl (bb d2_57)
  refine gl st54 ?_
  have V54 : Arv Z h54 b6 k6 (.array .char) (1 : Int32) [(.ref b45)] .null := Arv.set Ar54 vq54 vS54 vN54 vH54 vG54 rfl W54 0 rfl (Nat.le_of_ble_eq_true rfl)
  have N54 := Fr.snoc X54 N40 g_b6
  have F55 := ((F47.ext E45).wr W54)
  have F56 := ((((((((Fw13.ext E16).other W21 (Or.inr (slot_ne (Or.inr (ww 23 rfl)) (Or.inl (ww 25 rfl)) (by decide) (t := .int) (t' := (.array .int)) (by decide) (by decide)))).ext E24).other W30 (Or.inr (slot_ne (Or.inr (ww 23 rfl)) (Or.inr (ww 27 rfl)) (by decide) (t := .int) (t' := (.array .int)) (by decide) (by decide)))).ext E33).other W40 (Or.inr (slot_ne (Or.inr (ww 23 rfl)) (Or.inr (ww 29 rfl)) (by decide) (t := .int) (t' := (.array .int)) (by decide) (by decide)))).ext E45).other W54 (Or.inl ne_a1_b6))
  have F57 := (((((((((((((r2.ext E2).other W3 (Or.inr (slot_ne (Or.inl (ww 38 rfl)) (Or.inl (ww 17 rfl)) (by decide) (t := .int) (t' := (.array (.array .int))) (by decide) (by decide)))).ext E6).other W10 (Or.inr (slot_ne (Or.inl (ww 38 rfl)) (Or.inl (ww 21 rfl)) (by decide) (t := .int) (t' := (.array (.array .char))) (by decide) (by decide)))).other W13 (Or.inr (slot_ne (Or.inl (ww 38 rfl)) (Or.inr (ww 23 rfl)) (by decide) (t := .int) (t' := .int) (by decide) (by decide)))).ext E16).other W21 (Or.inr (slot_ne (Or.inl (ww 38 rfl)) (Or.inl (ww 25 rfl)) (by decide) (t := .int) (t' := (.array .int)) (by decide) (by decide)))).ext E24).other W30 (Or.inr (slot_ne (Or.inl (ww 38 rfl)) (Or.inr (ww 27 rfl)) (by decide) (t := .int) (t' := (.array .int)) (by decide) (by decide)))).ext E33).other W40 (Or.inr (slot_ne (Or.inl (ww 38 rfl)) (Or.inr (ww 29 rfl)) (by decide) (t := .int) (t' := (.array .int)) (by decide) (by decide)))).ext E45).other W54 (Or.inl ne_a1_b6))
  have F58 := (((((((((((Fw3.ext E6).other W10 (Or.inr (slot_ne (Or.inl (ww 17 rfl)) (Or.inl (ww 21 rfl)) (by decide) (t := (.array (.array .int))) (t' := (.array (.array .char))) (by decide) (by decide)))).other W13 (Or.inr (slot_ne (Or.inl (ww 17 rfl)) (Or.inr (ww 23 rfl)) (by decide) (t := (.array (.array .int))) (t' := .int) (by decide) (by decide)))).ext E16).other W21 (Or.inr (slot_ne (Or.inl (ww 17 rfl)) (Or.inl (ww 25 rfl)) (by decide) (t := (.array (.array .int))) (t' := (.array .int)) (by decide) (by decide)))).ext E24).other W30 (Or.inr (slot_ne (Or.inl (ww 17 rfl)) (Or.inr (ww 27 rfl)) (by decide) (t := (.array (.array .int))) (t' := (.array .int)) (by decide) (by decide)))).ext E33).other W40 (Or.inr (slot_ne (Or.inl (ww 17 rfl)) (Or.inr (ww 29 rfl)) (by decide) (t := (.array (.array .int))) (t' := (.array .int)) (by decide) (by decide)))).ext E45).other W54 (Or.inl ne_a1_b6))
  have F59 := ((F44.ext E45).other W54 (Or.inl ne_a1_b6))
  have F60 := ((((((Fw21.ext E24).other W30 (Or.inr (slot_ne (Or.inl (ww 25 rfl)) (Or.inr (ww 27 rfl)) (by decide) (t := (.array .int)) (t' := (.array .int)) (by decide) (by decide)))).ext E33).other W40 (Or.inr (slot_ne (Or.inl (ww 25 rfl)) (Or.inr (ww 29 rfl)) (by decide) (t := (.array .int)) (t' := (.array .int)) (by decide) (by decide)))).ext E45).other W54 (Or.inl ne_a1_b6))
  have F61 := ((((Fw30.ext E33).other W40 (Or.inr (slot_ne (Or.inr (ww 27 rfl)) (Or.inr (ww 29 rfl)) (by decide) (t := (.array .int)) (t' := (.array .int)) (by decide) (by decide)))).ext E45).other W54 (Or.inl ne_a1_b6))
  have F62 := ((Fw40.ext E45).other W54 (Or.inl ne_a1_b6))
  have F63 := ((F48.ext E45).other W54 ne_b2_b6)
  have F64 := ((F50.ext E45).other W54 (Ne.symm ne_b6_b16))
  have F65 := ((F51.ext E45).other W54 (Ne.symm ne_b6_b24))
  have F66 := ((F52.ext E45).other W54 (Ne.symm ne_b6_b33))
  have F67 := (V_b45.other W54 (Ne.symm ne_b6_b45))
  obtain ⟨fs, hr, hrun, hended, hW, hsame⟩ := X54.leave (v := none) (fun _ => rfl)
  subst hR0
  refine ⟨_, _, ?_, hrun, hended, _, _, rfl, ?_, ⟨_, rfl⟩, hW, hsame.mono (by decide) (by decide)⟩
  · exact X54.returnOut hx hret (bb d2_58) hr
  · show Q_rvInit2 Z a1 h0 n0 _ T54.heap _
    rw [e54]
    exact ⟨b2, b6, b16, b24, b33, b45, k2, k6, k16, k24, k33, k45, rfl, N54, ((((((((((((((Keep.refl h0 [a1]).ext E2).wr W3 (Or.inl (List.mem_of_getElem? (i := 0) rfl))).ext E6).wr W10 (Or.inl (List.mem_of_getElem? (i := 0) rfl))).wr W13 (Or.inl (List.mem_of_getElem? (i := 0) rfl))).ext E16).wr W21 (Or.inl (List.mem_of_getElem? (i := 0) rfl))).ext E24).wr W30 (Or.inl (List.mem_of_getElem? (i := 0) rfl))).ext E33).wr W40 (Or.inl (List.mem_of_getElem? (i := 0) rfl))).ext E45).wr W54 (Or.inr sz_b6)), sz_b2, sz_b6, sz_b16, sz_b24, sz_b33, sz_b45, ne_b2_b6, ne_b2_b16, ne_b2_b24, ne_b2_b33, ne_b2_b45, ne_b6_b16, ne_b6_b24, ne_b6_b33, ne_b6_b45, ne_b16_b24, ne_b16_b33, ne_b16_b45, ne_b24_b33, ne_b24_b45, ne_b33_b45, F55, F56, F57, F58, F59, F60, F61, F62, F63, R2, V54, R6, F64, F65, F66, F67⟩
def Q_start2 (Z : State) (a1 at_ ow on ob ol oh ov : Addr) (kw_ kn_ kb_ kl_ kh_ kv_ : ClassId) (eb0 eb1 el0 el1 eu0 eu1 ex0 ex1 ex2 ex3 ex4 ex5 ex6 ex7 ex8 ex9 ex10 ex11 ex12 ex13 ex14 ex15 : Int32) (kt_ : ClassId) (et0 et1 : Int32) (h0 : Heap) (n0 : Nat) (v : Option Value) (h : Heap) (L : List Loc) : Prop := v = none ∧ Fr n0 L ∧ Keep h0 h [ob, ol, oh] ∧ Arv Z h ob kb_ .int (2 : Int32) [(.int (f_base et0 et0)), (.int (f_base et1 et1))] (.int 0) ∧ Arv Z h ol kl_ .int (2 : Int32) [(.int et0), (.int et1)] (.int 0) ∧ Arv Z h oh kh_ .int (2 : Int32) [(.int et0), (.int et1)] (.int 0)
set_option maxRecDepth 65536 in
set_option maxHeartbeats 40000000 in
theorem rm_start2 (l : Launch) (Z : State) (a0 : Array Value) (ww : WW a0 Z) (ws : List Jvm.Cond) (a1 at_ ow on ob ol oh ov : Addr) (kw_ kn_ kb_ kl_ kh_ kv_ : ClassId) (eb0 eb1 el0 el1 eu0 eu1 ex0 ex1 ex2 ex3 ex4 ex5 ex6 ex7 ex8 ex9 ex10 ex11 ex12 ex13 ex14 ex15 : Int32) (kt_ : ClassId) (et0 et1 : Int32) (h0 : Heap) (n0 : Nat) (Z0 : n0 ≤ h0.size) (O0 : Old Z n0 h0) (S_CS : Sta Z Z.heap cRV "CHUNK_SHIFT" "I" (.int (12 : Int32))) (r0 : Exa Z h0 a1 cRV) (r1 : Fld Z h0 a1 cRV "arity" "I" (.int 2)) (r2 : Fld Z h0 a1 cRV "rows" "I" (.int 0)) (r3 : Fld Z h0 a1 cRV "wide" "[[I" (.ref ow)) (r4 : Fld Z h0 a1 cRV "narrow" "[[C" (.ref on)) (r5 : Fld Z h0 a1 cRV "bases" "[I" (.ref ob)) (r6 : Fld Z h0 a1 cRV "lowest" "[I" (.ref ol)) (r7 : Fld Z h0 a1 cRV "highest" "[I" (.ref oh)) (r8 : Arv Z h0 ow kw_ (.array .int) (1 : Int32) [.null] .null) (r9 : OvrA Z kw_ .int "[I") (r10 : Arv Z h0 on kn_ (.array .char) (1 : Int32) [(.ref ov)] .null) (r11 : OvrA Z kn_ .char "[C") (r12 : Arv Z h0 ob kb_ .int (2 : Int32) [(.int eb0), (.int eb1)] (.int 0)) (r13 : Arv Z h0 ol kl_ .int (2 : Int32) [(.int el0), (.int el1)] (.int 0)) (r14 : Arv Z h0 oh kh_ .int (2 : Int32) [(.int eu0), (.int eu1)] (.int 0)) (r15 : Arv Z h0 ov kv_ .char (16 : Int32) [(.int ex0), (.int ex1), (.int ex2), (.int ex3), (.int ex4), (.int ex5), (.int ex6), (.int ex7), (.int ex8), (.int ex9), (.int ex10), (.int ex11), (.int ex12), (.int ex13), (.int ex14), (.int ex15)] (.int 0)) (r16 : Arv Z h0 at_ kt_ .int (2 : Int32) [(.int et0), (.int et1)] (.int 0)) (g_ob : n0 ≤ ob) (g_ol : n0 ≤ ol) (g_oh : n0 ≤ oh) (ne_a1_ow : a1 ≠ ow) (ne_a1_on : a1 ≠ on) (ne_a1_ob : a1 ≠ ob) (ne_a1_ol : a1 ≠ ol) (ne_a1_oh : a1 ≠ oh) (ne_a1_ov : a1 ≠ ov) (ne_ow_on : ow ≠ on) (ne_ow_ob : ow ≠ ob) (ne_ow_ol : ow ≠ ol) (ne_ow_oh : ow ≠ oh) (ne_ow_ov : ow ≠ ov) (ne_on_ob : on ≠ ob) (ne_on_ol : on ≠ ol) (ne_on_oh : on ≠ oh) (ne_on_ov : on ≠ ov) (ne_ob_ol : ob ≠ ol) (ne_ob_oh : ob ≠ oh) (ne_ob_ov : ob ≠ ov) (ne_ol_oh : ol ≠ oh) (ne_ol_ov : ol ≠ ov) (ne_oh_ov : oh ≠ ov) (ne_at__a1 : at_ ≠ a1) (ne_at__ow : at_ ≠ ow) (ne_at__on : at_ ≠ on) (ne_at__ob : at_ ≠ ob) (ne_at__ol : at_ ≠ ol) (ne_at__oh : at_ ≠ oh) (ne_at__ov : at_ ≠ ov) :
    MF l Z (⟨cRV, "start", "(I[I)V"⟩ : MethodName) prog_47_method_5_code 4 none ws ({ frames := 2, cells := 0, slots := 0, locals := 32 } : Room) #[(.ref a1), (.int 0), (.ref at_)] h0 (Q_start2 Z a1 at_ ow on ob ol oh ov kw_ kn_ kb_ kl_ kh_ kv_ eb0 eb1 el0 el1 eu0 eu1 ex0 ex1 ex2 ex3 ex4 ex5 ex6 ex7 ex8 ex9 ex10 ex11 ex12 ex13 ex14 ex15 kt_ et0 et1 h0 n0) := by
  refine gopen (plainFor_of_name pn_RowValues) (fun m => ef_start2 m a1 at_) (fun p e s m below meth c s₁ hlk hret hx bb hml hown hnm hZ X0 e0 R0 hR0 => ?_)
  have N0 := Fr.nil n0
  refine g_iloadN X0 hx (bb d6_0) rfl ?_
  refine g_aloadN X0 hx (bb d6_1) rfl rfl ?_
  refine gF X0 hx hZ hown (ww 16 rfl) e0 r3 (bb d6_2) (fun T1 X1 e1 => ?_)
  refine gA X1 hx hZ e1 r8 (bb d6_5) ?_
  refine g_icmpYes X1 hx (pc' := 62) (bb d6_6) (feq (by decide : ¬ ((0 : Int32) = (1 : Int32)))).2 (by decide) (by decide) ?_
  refine g_iloadN X1 hx (bb d6_62) rfl ?_
  refine g_ifYes X1 hx (pc' := 82) (bb d6_63) ((if0 _ _).trans (flt (by decide : ¬ ((0 : Int32) < (0 : Int32)))).2.2.2) (by decide) (by decide) ?_
  refine g_iconst X1 hx (bb d6_82) ?_
  refine g_istoreN X1 hx (bb d6_83) (l' := #[vR a1, vI 0, vR at_, vI 0]) rfl ?_
  refine g_iloadN X1 hx (bb d6_84) rfl ?_
  refine g_aloadN X1 hx (bb d6_85) rfl rfl ?_
  refine gF X1 hx hZ hown (ww 22 rfl) e1 r1 (bb d6_86) (fun T2 X2 e2 => ?_)
  refine g_icmpNo X2 hx (bb d6_89) (tlt (by decide : (0 : Int32) < (2 : Int32))).2.1 ?_
  refine g_aloadN X2 hx (bb d6_92) rfl rfl ?_
  refine gF X2 hx hZ hown (ww 24 rfl) e2 r5 (bb d6_93) (fun T3 X3 e3 => ?_)
  refine g_iloadN X3 hx (bb d6_96) rfl ?_
  refine g_aloadN X3 hx (bb d6_97) rfl rfl ?_
  refine gF X3 hx hZ hown (ww 22 rfl) e3 r1 (bb d6_98) (fun T4 X4 e4 => ?_)
  refine g_imul X4 hx (bb d6_101) ?_
  refine g_iloadN X4 hx (bb d6_102) rfl ?_
  refine g_iadd X4 hx (bb d6_103) ?_
  refine g_aloadN X4 hx (bb d6_104) rfl rfl ?_
  refine g_iloadN X4 hx (bb d6_105) rfl ?_
  refine gLi X4 hx hZ e4 r16 (v := (.int et0)) ⟨by decide, by decide⟩ rfl (bb d6_106) ?_
  refine g_aloadN X4 hx (bb d6_107) rfl rfl ?_
  refine g_iloadN X4 hx (bb d6_108) rfl ?_
  refine gLi X4 hx hZ e4 r16 (v := (.int et0)) ⟨by decide, by decide⟩ rfl (bb d6_109) ?_
  refine gcS X4 hx hZ hml hown (ww 50 rfl) (ww 7 rfl) (ww 52 rfl) (ww 51 rfl) e4 (rm_base l Z a0 ww [] et0 et0 h0 n0 (own_z0 O0) O0 S_CS) pd__II_I_5 (bb d6_110) 2 rfl (fun T5 L5 v5 X5 hQ5 => ?_)
  obtain ⟨rfl, N5q, e5⟩ := hQ5
  have N5 := Fr.app N0 N5q
  refine gSi X5 hx hZ e5 r12 ⟨by decide, by decide⟩ 0 rfl (Nat.le_of_ble_eq_true rfl) N5 g_ob (bb d6_113) (fun T6 h6 X6 e6 W6 V6 N6 => ?_)
  refine g_iinc X6 hx (bb d6_114) rfl (l' := #[vR a1, vI 0, vR at_, vI 1]) rfl ?_
  refine g_goto X6 hx (pc' := 84) (bb d6_117) (by decide) (by decide) ?_
  refine g_iloadN X6 hx (bb d6_84) rfl ?_
  refine g_aloadN X6 hx (bb d6_85) rfl rfl ?_
  have F8 := (r1.other W6 (Or.inl ne_a1_ob))
  refine gF X6 hx hZ hown (ww 22 rfl) e6 F8 (bb d6_86) (fun T7 X7 e7 => ?_)
  refine g_icmpNo X7 hx (bb d6_89) (tlt (by decide : (1 : Int32) < (2 : Int32))).2.1 ?_
  refine g_aloadN X7 hx (bb d6_92) rfl rfl ?_
  have F10 := (r5.other W6 (Or.inl ne_a1_ob))
  refine gF X7 hx hZ hown (ww 24 rfl) e7 F10 (bb d6_93) (fun T9 X9 e9 => ?_)
  refine g_iloadN X9 hx (bb d6_96) rfl ?_
  refine g_aloadN X9 hx (bb d6_97) rfl rfl ?_
  refine gF X9 hx hZ hown (ww 22 rfl) e9 F8 (bb d6_98) (fun T11 X11 e11 => ?_)
  refine g_imul X11 hx (bb d6_101) ?_
  refine g_iloadN X11 hx (bb d6_102) rfl ?_
  refine g_iadd X11 hx (bb d6_103) ?_
  refine g_aloadN X11 hx (bb d6_104) rfl rfl ?_
  refine g_iloadN X11 hx (bb d6_105) rfl ?_
  have F12 := (r16.other W6 ne_at__ob)
  refine gLi X11 hx hZ e11 F12 (v := (.int et1)) ⟨by decide, by decide⟩ rfl (bb d6_106) ?_
  refine g_aloadN X11 hx (bb d6_107) rfl rfl ?_
  refine g_iloadN X11 hx (bb d6_108) rfl ?_
  refine gLi X11 hx hZ e11 F12 (v := (.int et1)) ⟨by decide, by decide⟩ rfl (bb d6_109) ?_
  have O14 := (O0.wr W6 g_ob)
  refine gcS X11 hx hZ hml hown (ww 50 rfl) (ww 7 rfl) (ww 52 rfl) (ww 51 rfl) e11 (rm_base l Z a0 ww [] et1 et1 h6 n0 (own_z0 O14) O14 S_CS) pd__II_I_5 (bb d6_110) 2 rfl (fun T13 L13 v13 X13 hQ13 => ?_)
  obtain ⟨rfl, N13q, e13⟩ := hQ13
  have N13 := Fr.app N6 N13q
  refine gSi X13 hx hZ e13 V6 ⟨by decide, by decide⟩ 1 rfl (Nat.le_of_ble_eq_true rfl) N13 g_ob (bb d6_113) (fun T15 h15 X15 e15 W15 V15 N15 => ?_)
  refine g_iinc X15 hx (bb d6_114) rfl (l' := #[vR a1, vI 0, vR at_, vI 2]) rfl ?_
  refine g_goto X15 hx (pc' := 84) (bb d6_117) (by decide) (by decide) ?_
  refine g_iloadN X15 hx (bb d6_84) rfl ?_
  refine g_aloadN X15 hx (bb d6_85) rfl rfl ?_
  have F17 := (F8.other W15 (Or.inl ne_a1_ob))
  refine gF X15 hx hZ hown (ww 22 rfl) e15 F17 (bb d6_86) (fun T16 X16 e16 => ?_)
  refine g_icmpYes X16 hx (pc' := 120) (bb d6_89) (flt (by decide : ¬ ((2 : Int32) < (2 : Int32)))).2.1 (by decide) (by decide) ?_
  refine g_aloadN X16 hx (bb d6_120) rfl rfl ?_
  refine g_iconst X16 hx (bb d6_121) ?_
  refine g_aloadN X16 hx (bb d6_122) rfl rfl ?_
  have F19 := ((r6.other W6 (Or.inl ne_a1_ob)).other W15 (Or.inl ne_a1_ob))
  refine gF X16 hx hZ hown (ww 26 rfl) e16 F19 (bb d6_123) (fun T18 X18 e18 => ?_)
  refine g_iconst X18 hx (bb d6_126) ?_
  refine g_aloadN X18 hx (bb d6_127) rfl rfl ?_
  refine gF X18 hx hZ hown (ww 22 rfl) e18 F17 (bb d6_128) (fun T20 X20 e20 => ?_)
  have F22 := (F12.other W15 ne_at__ob)
  have F23 := ((r13.other W6 (Ne.symm ne_ob_ol)).other W15 (Ne.symm ne_ob_ol))
  obtain ⟨T21, h21, L21, X21, e21, N21, K21, Vc21, st21⟩ := cpA X20 hx hZ hown (ww 60 rfl) (ww 63 rfl) (ww 61 rfl) (ww 62 rfl) e20 F22 F23 (us := [(.int et0), (.int et1)]) (Or.inl ⟨rfl, rfl⟩) (by decide) (by decide) (by decide) (by decide) (by decide) rfl (Nat.le_of_ble_eq_true rfl) N15 g_ol (g := (mkF m 131 #[vR a1, vI 0, vR at_, vI 2] [(.int 2), (.int 0), (.ref ol), (.int 0), (.ref at_)])) rfl (by rw [hml]; rfl) rfl (bb d6_131) (by decide) (W := 0) (by show 2 * 0 + _ ≤ _; exact Nat.le_of_eq rfl) (by decide)
  refine gl st21 ?_
  have V21 : Arv Z h21 ol kl_ .int (2 : Int32) [(.int et0), (.int et1)] (.int 0) := Vc21
  refine g_aloadN X21 hx (bb d6_134) rfl rfl ?_
  refine g_iconst X21 hx (bb d6_135) ?_
  refine g_aloadN X21 hx (bb d6_136) rfl rfl ?_
  have F25 := (((r7.other W6 (Or.inl ne_a1_ob)).other W15 (Or.inl ne_a1_ob)).keep K21 (ninS ne_a1_ol nin0))
  refine gF X21 hx hZ hown (ww 28 rfl) e21 F25 (bb d6_137) (fun T24 X24 e24 => ?_)
  refine g_iconst X24 hx (bb d6_140) ?_
  refine g_aloadN X24 hx (bb d6_141) rfl rfl ?_
  have F27 := (F17.keep K21 (ninS ne_a1_ol nin0))
  refine gF X24 hx hZ hown (ww 22 rfl) e24 F27 (bb d6_142) (fun T26 X26 e26 => ?_)
  have F29 := (F22.keep K21 (ninS ne_at__ol nin0))
  have F30 := (((r14.other W6 (Ne.symm ne_ob_oh)).other W15 (Ne.symm ne_ob_oh)).keep K21 (ninS (Ne.symm ne_ol_oh) nin0))
  obtain ⟨T28, h28, L28, X28, e28, N28, K28, Vc28, st28⟩ := cpA X26 hx hZ hown (ww 60 rfl) (ww 63 rfl) (ww 61 rfl) (ww 62 rfl) e26 F29 F30 (us := [(.int et0), (.int et1)]) (Or.inl ⟨rfl, rfl⟩) (by decide) (by decide) (by decide) (by decide) (by decide) rfl (Nat.le_of_ble_eq_true rfl) N21 g_oh (g := (mkF m 145 #[vR a1, vI 0, vR at_, vI 2] [(.int 2), (.int 0), (.ref oh), (.int 0), (.ref at_)])) rfl (by rw [hml]; rfl) rfl (bb d6_145) (by decide) (W := 0) (by show 2 * 0 + _ ≤ _; exact Nat.le_of_eq rfl) (by decide)
  refine gl st28 ?_
  have V28 : Arv Z h28 oh kh_ .int (2 : Int32) [(.int et0), (.int et1)] (.int 0) := Vc28
  have F31 := ((V15.keep K21 (ninS ne_ob_ol nin0)).keep K28 (ninS ne_ob_oh nin0))
  have F32 := (V21.keep K28 (ninS ne_ol_oh nin0))
  obtain ⟨fs, hr, hrun, hended, hW, hsame⟩ := X28.leave (v := none) (fun _ => rfl)
  subst hR0
  refine ⟨_, _, ?_, hrun, hended, _, _, rfl, ?_, ⟨_, rfl⟩, hW, hsame.mono (by decide) (by decide)⟩
  · exact X28.returnOut hx hret (bb d6_148) hr
  · show Q_start2 Z a1 at_ ow on ob ol oh ov kw_ kn_ kb_ kl_ kh_ kv_ eb0 eb1 el0 el1 eu0 eu1 ex0 ex1 ex2 ex3 ex4 ex5 ex6 ex7 ex8 ex9 ex10 ex11 ex12 ex13 ex14 ex15 kt_ et0 et1 h0 n0 _ T28.heap _
    rw [e28]
    exact ⟨rfl, N28, (((((Keep.refl h0 [ob, ol, oh]).wr W6 (Or.inl (List.mem_of_getElem? (i := 0) rfl))).wr W15 (Or.inl (List.mem_of_getElem? (i := 0) rfl))).trans K21 (allS (Or.inl (List.mem_of_getElem? (i := 1) rfl)) all0)).trans K28 (allS (Or.inl (List.mem_of_getElem? (i := 2) rfl)) all0)), F31, F32, V28⟩
set_option maxRecDepth 65536 in
set_option maxHeartbeats 40000000 in
theorem rm_room2N0 (l : Launch) (Z : State) (a0 : Array Value) (ww : WW a0 Z) (ws : List Jvm.Cond) (a1 ow on ob ol oh ov : Addr) (kw_ kn_ kb_ kl_ kh_ kv_ : ClassId) (eb0 eb1 el0 el1 eu0 eu1 ex0 ex1 ex2 ex3 ex4 ex5 ex6 ex7 ex8 ex9 ex10 ex11 ex12 ex13 ex14 ex15 : Int32) (h0 : Heap) (n0 : Nat) (Z0 : n0 ≤ h0.size) (O0 : Old Z n0 h0) (S_CS : Sta Z Z.heap cRV "CHUNK_SHIFT" "I" (.int (12 : Int32))) (r0 : Exa Z h0 a1 cRV) (r1 : Fld Z h0 a1 cRV "arity" "I" (.int 2)) (r2 : Fld Z h0 a1 cRV "wide" "[[I" (.ref ow)) (r3 : Fld Z h0 a1 cRV "narrow" "[[C" (.ref on)) (r4 : Arv Z h0 ow kw_ (.array .int) (1 : Int32) [.null] .null) (r5 : Arv Z h0 on kn_ (.array .char) (1 : Int32) [(.ref ov)] .null) (r6 : Arv Z h0 ov kv_ .char (16 : Int32) [(.int ex0), (.int ex1), (.int ex2), (.int ex3), (.int ex4), (.int ex5), (.int ex6), (.int ex7), (.int ex8), (.int ex9), (.int ex10), (.int ex11), (.int ex12), (.int ex13), (.int ex14), (.int ex15)] (.int 0)) :
    MF l Z (⟨cRV, "makeRoom", "(II)V"⟩ : MethodName) prog_47_method_6_code 5 none ws ({ frames := 1, cells := 0, slots := 0, locals := 13 } : Room) #[(.ref a1), (.int 0), (.int 0)] h0 (PureQ (none) h0 n0) := by
  refine gopen (plainFor_of_name pn_RowValues) (fun m => ef_room2N0 m a1) (fun p e s m below meth c s₁ hlk hret hx bb hml hown hnm hZ X0 e0 R0 hR0 => ?_)
  have N0 := Fr.nil n0
  refine g_iloadN X0 hx (bb d9_0) rfl ?_
  refine g_iconst X0 hx (bb d9_1) ?_
  refine g_iadd X0 hx (bb d9_2) ?_
  refine g_aloadN X0 hx (bb d9_3) rfl rfl ?_
  refine gF X0 hx hZ hown (ww 22 rfl) e0 r1 (bb d9_4) (fun T1 X1 e1 => ?_)
  refine g_imul X1 hx (bb d9_7) ?_
  refine g_istoreN X1 hx (bb d9_8) (l' := #[vR a1, vI 0, vI 0, vI 2, .unset]) rfl ?_
  refine g_iconst X1 hx (bb d9_9) ?_
  refine g_iloadN X1 hx (bb d9_10) rfl ?_
  refine g_imul X1 hx (bb d9_11) ?_
  refine g_sipush X1 hx (bb d9_12) ?_
  refine gcS X1 hx hZ hml hown (ww 68 rfl) (ww 58 rfl) (ww 70 rfl) (ww 69 rfl) e1 (rm_minI l Z a0 ww [] (0 : Int32) (4096 : Int32) h0 n0 (own_z0 O0) O0 S_CS) pd__II_I_5 (bb d9_15) 0 rfl (fun T2 L2 v2 X2 hQ2 => ?_)
  obtain ⟨rfl, N2q, e2⟩ := hQ2
  have N2 := Fr.app N0 N2q
  refine g_aloadN X2 hx (bb d9_18) rfl rfl ?_
  refine gF X2 hx hZ hown (ww 22 rfl) e2 r1 (bb d9_19) (fun T3 X3 e3 => ?_)
  refine g_imul X3 hx (bb d9_22) ?_
  refine g_istore X3 hx (bb d9_23) (l' := #[vR a1, vI 0, vI 0, vI 2, vI ((f_minI (0 : Int32) (4096 : Int32)) * (2 : Int32))]) rfl ?_
  refine g_aloadN X3 hx (bb d9_25) rfl rfl ?_
  refine gF X3 hx hZ hown (ww 20 rfl) e3 r3 (bb d9_26) (fun T4 X4 e4 => ?_)
  refine g_iloadN X4 hx (bb d9_29) rfl ?_
  refine gLr rfl X4 hx hZ e4 r5 (v := (.ref ov)) ⟨by decide, by decide⟩ rfl (bb d9_30) ?_
  refine g_ifnullNo X4 hx (bb d9_31) ?_
  refine g_iloadN X4 hx (bb d9_34) rfl ?_
  refine g_aloadN X4 hx (bb d9_35) rfl rfl ?_
  refine gF X4 hx hZ hown (ww 20 rfl) e4 r3 (bb d9_36) (fun T5 X5 e5 => ?_)
  refine g_iloadN X5 hx (bb d9_39) rfl ?_
  refine gLr rfl X5 hx hZ e5 r5 (v := (.ref ov)) ⟨by decide, by decide⟩ rfl (bb d9_40) ?_
  refine gA X5 hx hZ e5 r6 (bb d9_41) ?_
  refine g_icmpYes X5 hx (pc' := 65) (bb d9_42) (flt (by decide : ¬ ((16 : Int32) < (2 : Int32)))).2.2.2 (by decide) (by decide) ?_
  refine g_aloadN X5 hx (bb d9_65) rfl rfl ?_
  refine gF X5 hx hZ hown (ww 16 rfl) e5 r2 (bb d9_66) (fun T6 X6 e6 => ?_)
  refine g_iloadN X6 hx (bb d9_69) rfl ?_
  refine gLr rfl X6 hx hZ e6 r4 (v := .null) ⟨by decide, by decide⟩ rfl (bb d9_70) ?_
  refine g_ifnullYes X6 hx (pc' := 102) (bb d9_71) (by decide) (by decide) ?_
  obtain ⟨fs, hr, hrun, hended, hW, hsame⟩ := X6.leave (v := none) (fun _ => rfl)
  subst hR0
  refine ⟨_, _, ?_, hrun, hended, _, _, rfl, ?_, ⟨_, rfl⟩, hW, hsame.mono (by decide) (by decide)⟩
  · exact X6.returnOut hx hret (bb d9_102) hr
  · exact ⟨rfl, N2, e6⟩
set_option maxRecDepth 65536 in
set_option maxHeartbeats 40000000 in
theorem rm_room2N1 (l : Launch) (Z : State) (a0 : Array Value) (ww : WW a0 Z) (ws : List Jvm.Cond) (a1 ow on ob ol oh ov : Addr) (kw_ kn_ kb_ kl_ kh_ kv_ : ClassId) (eb0 eb1 el0 el1 eu0 eu1 ev0_0 ev0_1 ex2 ex3 ex4 ex5 ex6 ex7 ex8 ex9 ex10 ex11 ex12 ex13 ex14 ex15 : Int32) (h0 : Heap) (n0 : Nat) (Z0 : n0 ≤ h0.size) (O0 : Old Z n0 h0) (S_CS : Sta Z Z.heap cRV "CHUNK_SHIFT" "I" (.int (12 : Int32))) (r0 : Exa Z h0 a1 cRV) (r1 : Fld Z h0 a1 cRV "arity" "I" (.int 2)) (r2 : Fld Z h0 a1 cRV "wide" "[[I" (.ref ow)) (r3 : Fld Z h0 a1 cRV "narrow" "[[C" (.ref on)) (r4 : Arv Z h0 ow kw_ (.array .int) (1 : Int32) [.null] .null) (r5 : Arv Z h0 on kn_ (.array .char) (1 : Int32) [(.ref ov)] .null) (r6 : Arv Z h0 ov kv_ .char (16 : Int32) [(.int (nar .char (ev0_0 - eb0))), (.int (nar .char (ev0_1 - eb1))), (.int ex2), (.int ex3), (.int ex4), (.int ex5), (.int ex6), (.int ex7), (.int ex8), (.int ex9), (.int ex10), (.int ex11), (.int ex12), (.int ex13), (.int ex14), (.int ex15)] (.int 0)) :
    MF l Z (⟨cRV, "makeRoom", "(II)V"⟩ : MethodName) prog_47_method_6_code 5 none ws ({ frames := 1, cells := 0, slots := 0, locals := 13 } : Room) #[(.ref a1), (.int 0), (.int 1)] h0 (PureQ (none) h0 n0) := by
  refine gopen (plainFor_of_name pn_RowValues) (fun m => ef_room2N1 m a1) (fun p e s m below meth c s₁ hlk hret hx bb hml hown hnm hZ X0 e0 R0 hR0 => ?_)
  have N0 := Fr.nil n0
  refine g_iloadN X0 hx (bb d9_0) rfl ?_
  refine g_iconst X0 hx (bb d9_1) ?_
  refine g_iadd X0 hx (bb d9_2) ?_
  refine g_aloadN X0 hx (bb d9_3) rfl rfl ?_
  refine gF X0 hx hZ hown (ww 22 rfl) e0 r1 (bb d9_4) (fun T1 X1 e1 => ?_)
  refine g_imul X1 hx (bb d9_7) ?_
  refine g_istoreN X1 hx (bb d9_8) (l' := #[vR a1, vI 0, vI 1, vI 4, .unset]) rfl ?_
  refine g_iconst X1 hx (bb d9_9) ?_
  refine g_iloadN X1 hx (bb d9_10) rfl ?_
  refine g_imul X1 hx (bb d9_11) ?_
  refine g_sipush X1 hx (bb d9_12) ?_
  refine gcS X1 hx hZ hml hown (ww 68 rfl) (ww 58 rfl) (ww 70 rfl) (ww 69 rfl) e1 (rm_minI l Z a0 ww [] (2 : Int32) (4096 : Int32) h0 n0 (own_z0 O0) O0 S_CS) pd__II_I_5 (bb d9_15) 0 rfl (fun T2 L2 v2 X2 hQ2 => ?_)
  obtain ⟨rfl, N2q, e2⟩ := hQ2
  have N2 := Fr.app N0 N2q
  refine g_aloadN X2 hx (bb d9_18) rfl rfl ?_
  refine gF X2 hx hZ hown (ww 22 rfl) e2 r1 (bb d9_19) (fun T3 X3 e3 => ?_)
  refine g_imul X3 hx (bb d9_22) ?_
  refine g_istore X3 hx (bb d9_23) (l' := #[vR a1, vI 0, vI 1, vI 4, vI ((f_minI (2 : Int32) (4096 : Int32)) * (2 : Int32))]) rfl ?_
  refine g_aloadN X3 hx (bb d9_25) rfl rfl ?_
  refine gF X3 hx hZ hown (ww 20 rfl) e3 r3 (bb d9_26) (fun T4 X4 e4 => ?_)
  refine g_iloadN X4 hx (bb d9_29) rfl ?_
  refine gLr rfl X4 hx hZ e4 r5 (v := (.ref ov)) ⟨by decide, by decide⟩ rfl (bb d9_30) ?_
  refine g_ifnullNo X4 hx (bb d9_31) ?_
  refine g_iloadN X4 hx (bb d9_34) rfl ?_
  refine g_aloadN X4 hx (bb d9_35) rfl rfl ?_
  refine gF X4 hx hZ hown (ww 20 rfl) e4 r3 (bb d9_36) (fun T5 X5 e5 => ?_)
  refine g_iloadN X5 hx (bb d9_39) rfl ?_
  refine gLr rfl X5 hx hZ e5 r5 (v := (.ref ov)) ⟨by decide, by decide⟩ rfl (bb d9_40) ?_
  refine gA X5 hx hZ e5 r6 (bb d9_41) ?_
  refine g_icmpYes X5 hx (pc' := 65) (bb d9_42) (flt (by decide : ¬ ((16 : Int32) < (4 : Int32)))).2.2.2 (by decide) (by decide) ?_
  refine g_aloadN X5 hx (bb d9_65) rfl rfl ?_
  refine gF X5 hx hZ hown (ww 16 rfl) e5 r2 (bb d9_66) (fun T6 X6 e6 => ?_)
  refine g_iloadN X6 hx (bb d9_69) rfl ?_
  refine gLr rfl X6 hx hZ e6 r4 (v := .null) ⟨by decide, by decide⟩ rfl (bb d9_70) ?_
  refine g_ifnullYes X6 hx (pc' := 102) (bb d9_71) (by decide) (by decide) ?_
  obtain ⟨fs, hr, hrun, hended, hW, hsame⟩ := X6.leave (v := none) (fun _ => rfl)
  subst hR0
  refine ⟨_, _, ?_, hrun, hended, _, _, rfl, ?_, ⟨_, rfl⟩, hW, hsame.mono (by decide) (by decide)⟩
  · exact X6.returnOut hx hret (bb d9_102) hr
  · exact ⟨rfl, N2, e6⟩
set_option maxRecDepth 65536 in
set_option maxHeartbeats 40000000 in
theorem rm_room2N2 (l : Launch) (Z : State) (a0 : Array Value) (ww : WW a0 Z) (ws : List Jvm.Cond) (a1 ow on ob ol oh ov : Addr) (kw_ kn_ kb_ kl_ kh_ kv_ : ClassId) (eb0 eb1 el0 el1 eu0 eu1 ev0_0 ev0_1 ev1_0 ev1_1 ex4 ex5 ex6 ex7 ex8 ex9 ex10 ex11 ex12 ex13 ex14 ex15 : Int32) (h0 : Heap) (n0 : Nat) (Z0 : n0 ≤ h0.size) (O0 : Old Z n0 h0) (S_CS : Sta Z Z.heap cRV "CHUNK_SHIFT" "I" (.int (12 : Int32))) (r0 : Exa Z h0 a1 cRV) (r1 : Fld Z h0 a1 cRV "arity" "I" (.int 2)) (r2 : Fld Z h0 a1 cRV "wide" "[[I" (.ref ow)) (r3 : Fld Z h0 a1 cRV "narrow" "[[C" (.ref on)) (r4 : Arv Z h0 ow kw_ (.array .int) (1 : Int32) [.null] .null) (r5 : Arv Z h0 on kn_ (.array .char) (1 : Int32) [(.ref ov)] .null) (r6 : Arv Z h0 ov kv_ .char (16 : Int32) [(.int (nar .char (ev0_0 - eb0))), (.int (nar .char (ev0_1 - eb1))), (.int (nar .char (ev1_0 - eb0))), (.int (nar .char (ev1_1 - eb1))), (.int ex4), (.int ex5), (.int ex6), (.int ex7), (.int ex8), (.int ex9), (.int ex10), (.int ex11), (.int ex12), (.int ex13), (.int ex14), (.int ex15)] (.int 0)) :
    MF l Z (⟨cRV, "makeRoom", "(II)V"⟩ : MethodName) prog_47_method_6_code 5 none ws ({ frames := 1, cells := 0, slots := 0, locals := 13 } : Room) #[(.ref a1), (.int 0), (.int 2)] h0 (PureQ (none) h0 n0) := by
  refine gopen (plainFor_of_name pn_RowValues) (fun m => ef_room2N2 m a1) (fun p e s m below meth c s₁ hlk hret hx bb hml hown hnm hZ X0 e0 R0 hR0 => ?_)
  have N0 := Fr.nil n0
  refine g_iloadN X0 hx (bb d9_0) rfl ?_
  refine g_iconst X0 hx (bb d9_1) ?_
  refine g_iadd X0 hx (bb d9_2) ?_
  refine g_aloadN X0 hx (bb d9_3) rfl rfl ?_
  refine gF X0 hx hZ hown (ww 22 rfl) e0 r1 (bb d9_4) (fun T1 X1 e1 => ?_)
  refine g_imul X1 hx (bb d9_7) ?_
  refine g_istoreN X1 hx (bb d9_8) (l' := #[vR a1, vI 0, vI 2, vI 6, .unset]) rfl ?_
  refine g_iconst X1 hx (bb d9_9) ?_
  refine g_iloadN X1 hx (bb d9_10) rfl ?_
  refine g_imul X1 hx (bb d9_11) ?_
  refine g_sipush X1 hx (bb d9_12) ?_
  refine gcS X1 hx hZ hml hown (ww 68 rfl) (ww 58 rfl) (ww 70 rfl) (ww 69 rfl) e1 (rm_minI l Z a0 ww [] (4 : Int32) (4096 : Int32) h0 n0 (own_z0 O0) O0 S_CS) pd__II_I_5 (bb d9_15) 0 rfl (fun T2 L2 v2 X2 hQ2 => ?_)
  obtain ⟨rfl, N2q, e2⟩ := hQ2
  have N2 := Fr.app N0 N2q
  refine g_aloadN X2 hx (bb d9_18) rfl rfl ?_
  refine gF X2 hx hZ hown (ww 22 rfl) e2 r1 (bb d9_19) (fun T3 X3 e3 => ?_)
  refine g_imul X3 hx (bb d9_22) ?_
  refine g_istore X3 hx (bb d9_23) (l' := #[vR a1, vI 0, vI 2, vI 6, vI ((f_minI (4 : Int32) (4096 : Int32)) * (2 : Int32))]) rfl ?_
  refine g_aloadN X3 hx (bb d9_25) rfl rfl ?_
  refine gF X3 hx hZ hown (ww 20 rfl) e3 r3 (bb d9_26) (fun T4 X4 e4 => ?_)
  refine g_iloadN X4 hx (bb d9_29) rfl ?_
  refine gLr rfl X4 hx hZ e4 r5 (v := (.ref ov)) ⟨by decide, by decide⟩ rfl (bb d9_30) ?_
  refine g_ifnullNo X4 hx (bb d9_31) ?_
  refine g_iloadN X4 hx (bb d9_34) rfl ?_
  refine g_aloadN X4 hx (bb d9_35) rfl rfl ?_
  refine gF X4 hx hZ hown (ww 20 rfl) e4 r3 (bb d9_36) (fun T5 X5 e5 => ?_)
  refine g_iloadN X5 hx (bb d9_39) rfl ?_
  refine gLr rfl X5 hx hZ e5 r5 (v := (.ref ov)) ⟨by decide, by decide⟩ rfl (bb d9_40) ?_
  refine gA X5 hx hZ e5 r6 (bb d9_41) ?_
  refine g_icmpYes X5 hx (pc' := 65) (bb d9_42) (flt (by decide : ¬ ((16 : Int32) < (6 : Int32)))).2.2.2 (by decide) (by decide) ?_
  refine g_aloadN X5 hx (bb d9_65) rfl rfl ?_
  refine gF X5 hx hZ hown (ww 16 rfl) e5 r2 (bb d9_66) (fun T6 X6 e6 => ?_)
  refine g_iloadN X6 hx (bb d9_69) rfl ?_
  refine gLr rfl X6 hx hZ e6 r4 (v := .null) ⟨by decide, by decide⟩ rfl (bb d9_70) ?_
  refine g_ifnullYes X6 hx (pc' := 102) (bb d9_71) (by decide) (by decide) ?_
  obtain ⟨fs, hr, hrun, hended, hW, hsame⟩ := X6.leave (v := none) (fun _ => rfl)
  subst hR0
  refine ⟨_, _, ?_, hrun, hended, _, _, rfl, ?_, ⟨_, rfl⟩, hW, hsame.mono (by decide) (by decide)⟩
  · exact X6.returnOut hx hret (bb d9_102) hr
  · exact ⟨rfl, N2, e6⟩
set_option maxRecDepth 65536 in
set_option maxHeartbeats 40000000 in
theorem rm_room2W2 (l : Launch) (Z : State) (a0 : Array Value) (ww : WW a0 Z) (ws : List Jvm.Cond) (a1 ow on ob ol oh oz : Addr) (kw_ kn_ kb_ kl_ kh_ kz_ : ClassId) (eb0 eb1 el0 el1 eu0 eu1 ev0_0 ev0_1 ev1_0 ev1_1 ex4 ex5 ex6 ex7 ex8 ex9 ex10 ex11 ex12 ex13 ex14 ex15 : Int32) (h0 : Heap) (n0 : Nat) (Z0 : n0 ≤ h0.size) (O0 : Old Z n0 h0) (S_CS : Sta Z Z.heap cRV "CHUNK_SHIFT" "I" (.int (12 : Int32))) (r0 : Exa Z h0 a1 cRV) (r1 : Fld Z h0 a1 cRV "arity" "I" (.int 2)) (r2 : Fld Z h0 a1 cRV "wide" "[[I" (.ref ow)) (r3 : Fld Z h0 a1 cRV "narrow" "[[C" (.ref on)) (r4 : Arv Z h0 ow kw_ (.array .int) (1 : Int32) [(.ref oz)] .null) (r5 : Arv Z h0 on kn_ (.array .char) (1 : Int32) [.null] .null) (r6 : Arv Z h0 oz kz_ .int (16 : Int32) [(.int ev0_0), (.int ev0_1), (.int ev1_0), (.int ev1_1), (.int ex4), (.int ex5), (.int ex6), (.int ex7), (.int ex8), (.int ex9), (.int ex10), (.int ex11), (.int ex12), (.int ex13), (.int ex14), (.int ex15)] (.int 0)) :
    MF l Z (⟨cRV, "makeRoom", "(II)V"⟩ : MethodName) prog_47_method_6_code 5 none ws ({ frames := 1, cells := 0, slots := 0, locals := 13 } : Room) #[(.ref a1), (.int 0), (.int 2)] h0 (PureQ (none) h0 n0) := by
  refine gopen (plainFor_of_name pn_RowValues) (fun m => ef_room2W2 m a1) (fun p e s m below meth c s₁ hlk hret hx bb hml hown hnm hZ X0 e0 R0 hR0 => ?_)
  have N0 := Fr.nil n0
  refine g_iloadN X0 hx (bb d9_0) rfl ?_
  refine g_iconst X0 hx (bb d9_1) ?_
  refine g_iadd X0 hx (bb d9_2) ?_
  refine g_aloadN X0 hx (bb d9_3) rfl rfl ?_
  refine gF X0 hx hZ hown (ww 22 rfl) e0 r1 (bb d9_4) (fun T1 X1 e1 => ?_)
  refine g_imul X1 hx (bb d9_7) ?_
  refine g_istoreN X1 hx (bb d9_8) (l' := #[vR a1, vI 0, vI 2, vI 6, .unset]) rfl ?_
  refine g_iconst X1 hx (bb d9_9) ?_
  refine g_iloadN X1 hx (bb d9_10) rfl ?_
  refine g_imul X1 hx (bb d9_11) ?_
  refine g_sipush X1 hx (bb d9_12) ?_
  refine gcS X1 hx hZ hml hown (ww 68 rfl) (ww 58 rfl) (ww 70 rfl) (ww 69 rfl) e1 (rm_minI l Z a0 ww [] (4 : Int32) (4096 : Int32) h0 n0 (own_z0 O0) O0 S_CS) pd__II_I_5 (bb d9_15) 0 rfl (fun T2 L2 v2 X2 hQ2 => ?_)
  obtain ⟨rfl, N2q, e2⟩ := hQ2
  have N2 := Fr.app N0 N2q
  refine g_aloadN X2 hx (bb d9_18) rfl rfl ?_
  refine gF X2 hx hZ hown (ww 22 rfl) e2 r1 (bb d9_19) (fun T3 X3 e3 => ?_)
  refine g_imul X3 hx (bb d9_22) ?_
  refine g_istore X3 hx (bb d9_23) (l' := #[vR a1, vI 0, vI 2, vI 6, vI ((f_minI (4 : Int32) (4096 : Int32)) * (2 : Int32))]) rfl ?_
  refine g_aloadN X3 hx (bb d9_25) rfl rfl ?_
  refine gF X3 hx hZ hown (ww 20 rfl) e3 r3 (bb d9_26) (fun T4 X4 e4 => ?_)
  refine g_iloadN X4 hx (bb d9_29) rfl ?_
  refine gLr rfl X4 hx hZ e4 r5 (v := .null) ⟨by decide, by decide⟩ rfl (bb d9_30) ?_
  refine g_ifnullYes X4 hx (pc' := 65) (bb d9_31) (by decide) (by decide) ?_
  refine g_aloadN X4 hx (bb d9_65) rfl rfl ?_
  refine gF X4 hx hZ hown (ww 16 rfl) e4 r2 (bb d9_66) (fun T5 X5 e5 => ?_)
  refine g_iloadN X5 hx (bb d9_69) rfl ?_
  refine gLr rfl X5 hx hZ e5 r4 (v := (.ref oz)) ⟨by decide, by decide⟩ rfl (bb d9_70) ?_
  refine g_ifnullNo X5 hx (bb d9_71) ?_
  refine g_iloadN X5 hx (bb d9_74) rfl ?_
  refine g_aloadN X5 hx (bb d9_75) rfl rfl ?_
  refine gF X5 hx hZ hown (ww 16 rfl) e5 r2 (bb d9_76) (fun T6 X6 e6 => ?_)
  refine g_iloadN X6 hx (bb d9_79) rfl ?_
  refine gLr rfl X6 hx hZ e6 r4 (v := (.ref oz)) ⟨by decide, by decide⟩ rfl (bb d9_80) ?_
  refine gA X6 hx hZ e6 r6 (bb d9_81) ?_
  refine g_icmpYes X6 hx (pc' := 102) (bb d9_82) (flt (by decide : ¬ ((16 : Int32) < (6 : Int32)))).2.2.2 (by decide) (by decide) ?_
  obtain ⟨fs, hr, hrun, hended, hW, hsame⟩ := X6.leave (v := none) (fun _ => rfl)
  subst hR0
  refine ⟨_, _, ?_, hrun, hended, _, _, rfl, ?_, ⟨_, rfl⟩, hW, hsame.mono (by decide) (by decide)⟩
  · exact X6.returnOut hx hret (bb d9_102) hr
  · exact ⟨rfl, N2, e6⟩
def Q_fit2_0 (Z : State) (a1 at_ ow on ob ol oh ov : Addr) (kw_ kn_ kb_ kl_ kh_ kv_ : ClassId) (eb0 eb1 el0 el1 eu0 eu1 ex0 ex1 ex2 ex3 ex4 ex5 ex6 ex7 ex8 ex9 ex10 ex11 ex12 ex13 ex14 ex15 : Int32) (kt_ : ClassId) (et0 et1 : Int32) (h0 : Heap) (n0 : Nat) (v : Option Value) (h : Heap) (L : List Loc) : Prop := v = none ∧ Fr n0 L ∧ Keep h0 h [ol, oh] ∧ Arv Z h ol kl_ .int (2 : Int32) [(.int et0), (.int et1)] (.int 0) ∧ Arv Z h oh kh_ .int (2 : Int32) [(.int et0), (.int et1)] (.int 0)
set_option maxRecDepth 65536 in
set_option maxHeartbeats 40000000 in
theorem rm_fit2_0 (l : Launch) (Z : State) (a0 : Array Value) (ww : WW a0 Z) (ws : List Jvm.Cond) (a1 at_ ow on ob ol oh ov : Addr) (kw_ kn_ kb_ kl_ kh_ kv_ : ClassId) (eb0 eb1 el0 el1 eu0 eu1 ex0 ex1 ex2 ex3 ex4 ex5 ex6 ex7 ex8 ex9 ex10 ex11 ex12 ex13 ex14 ex15 : Int32) (kt_ : ClassId) (et0 et1 : Int32) (h0 : Heap) (n0 : Nat) (Z0 : n0 ≤ h0.size) (O0 : Old Z n0 h0) (S_CS : Sta Z Z.heap cRV "CHUNK_SHIFT" "I" (.int (12 : Int32))) (r0 : Exa Z h0 a1 cRV) (r1 : Fld Z h0 a1 cRV "arity" "I" (.int 2)) (r2 : Fld Z h0 a1 cRV "rows" "I" (.int 0)) (r3 : Fld Z h0 a1 cRV "wide" "[[I" (.ref ow)) (r4 : Fld Z h0 a1 cRV "narrow" "[[C" (.ref on)) (r5 : Fld Z h0 a1 cRV "bases" "[I" (.ref ob)) (r6 : Fld Z h0 a1 cRV "lowest" "[I" (.ref ol)) (r7 : Fld Z h0 a1 cRV "highest" "[I" (.ref oh)) (r8 : Arv Z h0 ow kw_ (.array .int) (1 : Int32) [.null] .null) (r9 : OvrA Z kw_ .int "[I") (r10 : Arv Z h0 on kn_ (.array .char) (1 : Int32) [(.ref ov)] .null) (r11 : OvrA Z kn_ .char "[C") (r12 : Arv Z h0 ob kb_ .int (2 : Int32) [(.int (f_base et0 et0)), (.int (f_base et1 et1))] (.int 0)) (r13 : Arv Z h0 ol kl_ .int (2 : Int32) [(.int et0), (.int et1)] (.int 0)) (r14 : Arv Z h0 oh kh_ .int (2 : Int32) [(.int et0), (.int et1)] (.int 0)) (r15 : Arv Z h0 ov kv_ .char (16 : Int32) [(.int ex0), (.int ex1), (.int ex2), (.int ex3), (.int ex4), (.int ex5), (.int ex6), (.int ex7), (.int ex8), (.int ex9), (.int ex10), (.int ex11), (.int ex12), (.int ex13), (.int ex14), (.int ex15)] (.int 0)) (r16 : Arv Z h0 at_ kt_ .int (2 : Int32) [(.int et0), (.int et1)] (.int 0)) (g_ol : n0 ≤ ol) (g_oh : n0 ≤ oh) (ne_a1_ow : a1 ≠ ow) (ne_a1_on : a1 ≠ on) (ne_a1_ob : a1 ≠ ob) (ne_a1_ol : a1 ≠ ol) (ne_a1_oh : a1 ≠ oh) (ne_a1_ov : a1 ≠ ov) (ne_ow_on : ow ≠ on) (ne_ow_ob : ow ≠ ob) (ne_ow_ol : ow ≠ ol) (ne_ow_oh : ow ≠ oh) (ne_ow_ov : ow ≠ ov) (ne_on_ob : on ≠ ob) (ne_on_ol : on ≠ ol) (ne_on_oh : on ≠ oh) (ne_on_ov : on ≠ ov) (ne_ob_ol : ob ≠ ol) (ne_ob_oh : ob ≠ oh) (ne_ob_ov : ob ≠ ov) (ne_ol_oh : ol ≠ oh) (ne_ol_ov : ol ≠ ov) (ne_oh_ov : oh ≠ ov) (ne_at__a1 : at_ ≠ a1) (ne_at__ow : at_ ≠ ow) (ne_at__on : at_ ≠ on) (ne_at__ob : at_ ≠ ob) (ne_at__ol : at_ ≠ ol) (ne_at__oh : at_ ≠ oh) (ne_at__ov : at_ ≠ ov) :
    MF l Z (⟨cRV, "fit", "(II[I)V"⟩ : MethodName) prog_47_method_7_code 11 none ws ({ frames := 1, cells := 0, slots := 0, locals := 15 } : Room) #[(.ref a1), (.int 0), (.int 0), (.ref at_)] h0 (Q_fit2_0 Z a1 at_ ow on ob ol oh ov kw_ kn_ kb_ kl_ kh_ kv_ eb0 eb1 el0 el1 eu0 eu1 ex0 ex1 ex2 ex3 ex4 ex5 ex6 ex7 ex8 ex9 ex10 ex11 ex12 ex13 ex14 ex15 kt_ et0 et1 h0 n0) := by
  refine gopen (plainFor_of_name pn_RowValues) (fun m => ef_fit2_0 m a1 at_) (fun p e s m below meth c s₁ hlk hret hx bb hml hown hnm hZ X0 e0 R0 hR0 => ?_)
  have N0 := Fr.nil n0
  refine g_iconst X0 hx (bb d11_0) ?_
  refine g_istore X0 hx (bb d11_1) (l' := #[vR a1, vI 0, vI 0, vR at_, vI 0, .unset, .unset, .unset, .unset, .unset, .unset]) rfl ?_
  refine g_iload X0 hx (bb d11_3) rfl ?_
  refine g_aloadN X0 hx (bb d11_5) rfl rfl ?_
  refine gF X0 hx hZ hown (ww 22 rfl) e0 r1 (bb d11_6) (fun T1 X1 e1 => ?_)
  refine g_icmpNo X1 hx (bb d11_9) (tlt (by decide : (0 : Int32) < (2 : Int32))).2.1 ?_
  refine g_aloadN X1 hx (bb d11_12) rfl rfl ?_
  refine g_iload X1 hx (bb d11_13) rfl ?_
  refine gLi X1 hx hZ e1 r16 (v := (.int et0)) ⟨by decide, by decide⟩ rfl (bb d11_15) ?_
  refine g_aloadN X1 hx (bb d11_16) rfl rfl ?_
  refine gF X1 hx hZ hown (ww 28 rfl) e1 r7 (bb d11_17) (fun T2 X2 e2 => ?_)
  refine g_iload X2 hx (bb d11_20) rfl ?_
  refine gLi X2 hx hZ e2 r14 (v := (.int et0)) ⟨by decide, by decide⟩ rfl (bb d11_22) ?_
  refine gcS X2 hx hZ hml hown (ww 75 rfl) (ww 58 rfl) (ww 77 rfl) (ww 76 rfl) e2 (rm_maxI l Z a0 ww [] et0 et0 h0 n0 (own_z0 O0) O0 S_CS) pd__II_I_5 (bb d11_23) 0 rfl (fun T3 L3 v3 X3 hQ3 => ?_)
  obtain ⟨rfl, N3q, e3⟩ := hQ3
  have N3 := Fr.app N0 N3q
  refine g_i2l X3 hx (bb d11_26) ?_
  refine g_aloadN X3 hx (bb d11_27) rfl rfl ?_
  refine g_iload X3 hx (bb d11_28) rfl ?_
  refine gLi X3 hx hZ e3 r16 (v := (.int et0)) ⟨by decide, by decide⟩ rfl (bb d11_30) ?_
  refine g_aloadN X3 hx (bb d11_31) rfl rfl ?_
  refine gF X3 hx hZ hown (ww 26 rfl) e3 r6 (bb d11_32) (fun T4 X4 e4 => ?_)
  refine g_iload X4 hx (bb d11_35) rfl ?_
  refine gLi X4 hx hZ e4 r13 (v := (.int et0)) ⟨by decide, by decide⟩ rfl (bb d11_37) ?_
  refine gcS X4 hx hZ hml hown (ww 68 rfl) (ww 58 rfl) (ww 70 rfl) (ww 69 rfl) e4 (rm_minI l Z a0 ww [] et0 et0 h0 n0 (own_z0 O0) O0 S_CS) pd__II_I_5 (bb d11_38) 2 rfl (fun T5 L5 v5 X5 hQ5 => ?_)
  obtain ⟨rfl, N5q, e5⟩ := hQ5
  have N5 := Fr.app N3 N5q
  refine g_i2l X5 hx (bb d11_41) ?_
  refine g_lsub X5 hx (bb d11_42) ?_
  refine g_lstore X5 hx (bb d11_43) (l' := #[vR a1, vI 0, vI 0, vR at_, vI 0, vJ (((f_maxI et0 et0).toInt64) - ((f_minI et0 et0).toInt64)), .second, .unset, .unset, .unset, .unset]) rfl ?_
  refine g_lload X5 hx (bb d11_45) rfl ?_
  refine gJ X5 hx hZ hown (ww 78 rfl) (bb d11_47) ?_
  refine g_lcmp X5 hx (bb d11_50) ?_
  refine g_ifYes X5 hx (pc' := 61) (bb d11_51) ((if0 _ _).trans (tlt (own_s0 et0)).1) (by decide) (by decide) ?_
  refine g_iinc X5 hx (bb d11_61) rfl (l' := #[vR a1, vI 0, vI 0, vR at_, vI 1, vJ (((f_maxI et0 et0).toInt64) - ((f_minI et0 et0).toInt64)), .second, .unset, .unset, .unset, .unset]) rfl ?_
  refine g_goto X5 hx (pc' := 3) (bb d11_64) (by decide) (by decide) ?_
  refine g_iload X5 hx (bb d11_3) rfl ?_
  refine g_aloadN X5 hx (bb d11_5) rfl rfl ?_
  refine gF X5 hx hZ hown (ww 22 rfl) e5 r1 (bb d11_6) (fun T6 X6 e6 => ?_)
  refine g_icmpNo X6 hx (bb d11_9) (tlt (by decide : (1 : Int32) < (2 : Int32))).2.1 ?_
  refine g_aloadN X6 hx (bb d11_12) rfl rfl ?_
  refine g_iload X6 hx (bb d11_13) rfl ?_
  refine gLi X6 hx hZ e6 r16 (v := (.int et1)) ⟨by decide, by decide⟩ rfl (bb d11_15) ?_
  refine g_aloadN X6 hx (bb d11_16) rfl rfl ?_
  refine gF X6 hx hZ hown (ww 28 rfl) e6 r7 (bb d11_17) (fun T7 X7 e7 => ?_)
  refine g_iload X7 hx (bb d11_20) rfl ?_
  refine gLi X7 hx hZ e7 r14 (v := (.int et1)) ⟨by decide, by decide⟩ rfl (bb d11_22) ?_
  refine gcS X7 hx hZ hml hown (ww 75 rfl) (ww 58 rfl) (ww 77 rfl) (ww 76 rfl) e7 (rm_maxI l Z a0 ww [] et1 et1 h0 n0 (own_z0 O0) O0 S_CS) pd__II_I_5 (bb d11_23) 0 rfl (fun T8 L8 v8 X8 hQ8 => ?_)
  obtain ⟨rfl, N8q, e8⟩ := hQ8
  have N8 := Fr.app N5 N8q
  refine g_i2l X8 hx (bb d11_26) ?_
  refine g_aloadN X8 hx (bb d11_27) rfl rfl ?_
  refine g_iload X8 hx (bb d11_28) rfl ?_
  refine gLi X8 hx hZ e8 r16 (v := (.int et1)) ⟨by decide, by decide⟩ rfl (bb d11_30) ?_
  refine g_aloadN X8 hx (bb d11_31) rfl rfl ?_
  refine gF X8 hx hZ hown (ww 26 rfl) e8 r6 (bb d11_32) (fun T9 X9 e9 => ?_)
  refine g_iload X9 hx (bb d11_35) rfl ?_
  refine gLi X9 hx hZ e9 r13 (v := (.int et1)) ⟨by decide, by decide⟩ rfl (bb d11_37) ?_
  refine gcS X9 hx hZ hml hown (ww 68 rfl) (ww 58 rfl) (ww 70 rfl) (ww 69 rfl) e9 (rm_minI l Z a0 ww [] et1 et1 h0 n0 (own_z0 O0) O0 S_CS) pd__II_I_5 (bb d11_38) 2 rfl (fun T10 L10 v10 X10 hQ10 => ?_)
  obtain ⟨rfl, N10q, e10⟩ := hQ10
  have N10 := Fr.app N8 N10q
  refine g_i2l X10 hx (bb d11_41) ?_
  refine g_lsub X10 hx (bb d11_42) ?_
  refine g_lstore X10 hx (bb d11_43) (l' := #[vR a1, vI 0, vI 0, vR at_, vI 1, vJ (((f_maxI et1 et1).toInt64) - ((f_minI et1 et1).toInt64)), .second, .unset, .unset, .unset, .unset]) rfl ?_
  refine g_lload X10 hx (bb d11_45) rfl ?_
  refine gJ X10 hx hZ hown (ww 78 rfl) (bb d11_47) ?_
  refine g_lcmp X10 hx (bb d11_50) ?_
  refine g_ifYes X10 hx (pc' := 61) (bb d11_51) ((if0 _ _).trans (tlt (own_s0 et1)).1) (by decide) (by decide) ?_
  refine g_iinc X10 hx (bb d11_61) rfl (l' := #[vR a1, vI 0, vI 0, vR at_, vI 2, vJ (((f_maxI et1 et1).toInt64) - ((f_minI et1 et1).toInt64)), .second, .unset, .unset, .unset, .unset]) rfl ?_
  refine g_goto X10 hx (pc' := 3) (bb d11_64) (by decide) (by decide) ?_
  refine g_iload X10 hx (bb d11_3) rfl ?_
  refine g_aloadN X10 hx (bb d11_5) rfl rfl ?_
  refine gF X10 hx hZ hown (ww 22 rfl) e10 r1 (bb d11_6) (fun T11 X11 e11 => ?_)
  refine g_icmpYes X11 hx (pc' := 67) (bb d11_9) (flt (by decide : ¬ ((2 : Int32) < (2 : Int32)))).2.1 (by decide) (by decide) ?_
  refine g_iconst X11 hx (bb d11_67) ?_
  refine g_istore X11 hx (bb d11_68) (l' := #[vR a1, vI 0, vI 0, vR at_, vI 0, vJ (((f_maxI et1 et1).toInt64) - ((f_minI et1 et1).toInt64)), .second, .unset, .unset, .unset, .unset]) rfl ?_
  refine g_iload X11 hx (bb d11_70) rfl ?_
  refine g_aloadN X11 hx (bb d11_72) rfl rfl ?_
  refine gF X11 hx hZ hown (ww 22 rfl) e11 r1 (bb d11_73) (fun T12 X12 e12 => ?_)
  refine g_icmpNo X12 hx (bb d11_76) (tlt (by decide : (0 : Int32) < (2 : Int32))).2.1 ?_
  refine g_aloadN X12 hx (bb d11_79) rfl rfl ?_
  refine gF X12 hx hZ hown (ww 26 rfl) e12 r6 (bb d11_80) (fun T13 X13 e13 => ?_)
  refine g_iload X13 hx (bb d11_83) rfl ?_
  refine g_aloadN X13 hx (bb d11_85) rfl rfl ?_
  refine g_iload X13 hx (bb d11_86) rfl ?_
  refine gLi X13 hx hZ e13 r16 (v := (.int et0)) ⟨by decide, by decide⟩ rfl (bb d11_88) ?_
  refine g_aloadN X13 hx (bb d11_89) rfl rfl ?_
  refine gF X13 hx hZ hown (ww 26 rfl) e13 r6 (bb d11_90) (fun T14 X14 e14 => ?_)
  refine g_iload X14 hx (bb d11_93) rfl ?_
  refine gLi X14 hx hZ e14 r13 (v := (.int et0)) ⟨by decide, by decide⟩ rfl (bb d11_95) ?_
  refine gcS X14 hx hZ hml hown (ww 68 rfl) (ww 58 rfl) (ww 70 rfl) (ww 69 rfl) e14 (rm_minI l Z a0 ww [] et0 et0 h0 n0 (own_z0 O0) O0 S_CS) pd__II_I_5 (bb d11_96) 2 rfl (fun T15 L15 v15 X15 hQ15 => ?_)
  obtain ⟨rfl, N15q, e15⟩ := hQ15
  have N15 := Fr.app N10 N15q
  refine gSi X15 hx hZ e15 r13 ⟨by decide, by decide⟩ 0 rfl (Nat.le_of_ble_eq_true rfl) N15 g_ol (bb d11_99) (fun T16 h16 X16 e16 W16 V16 N16 => ?_)
  refine g_aloadN X16 hx (bb d11_100) rfl rfl ?_
  have F18 := (r7.other W16 (Or.inl ne_a1_ol))
  refine gF X16 hx hZ hown (ww 28 rfl) e16 F18 (bb d11_101) (fun T17 X17 e17 => ?_)
  refine g_iload X17 hx (bb d11_104) rfl ?_
  refine g_aloadN X17 hx (bb d11_106) rfl rfl ?_
  refine g_iload X17 hx (bb d11_107) rfl ?_
  have F19 := (r16.other W16 ne_at__ol)
  refine gLi X17 hx hZ e17 F19 (v := (.int et0)) ⟨by decide, by decide⟩ rfl (bb d11_109) ?_
  refine g_aloadN X17 hx (bb d11_110) rfl rfl ?_
  refine gF X17 hx hZ hown (ww 28 rfl) e17 F18 (bb d11_111) (fun T20 X20 e20 => ?_)
  refine g_iload X20 hx (bb d11_114) rfl ?_
  have F21 := (r14.other W16 (Ne.symm ne_ol_oh))
  refine gLi X20 hx hZ e20 F21 (v := (.int et0)) ⟨by decide, by decide⟩ rfl (bb d11_116) ?_
  have O23 := (O0.wr W16 g_ol)
  refine gcS X20 hx hZ hml hown (ww 75 rfl) (ww 58 rfl) (ww 77 rfl) (ww 76 rfl) e20 (rm_maxI l Z a0 ww [] et0 et0 h16 n0 (own_z0 O23) O23 S_CS) pd__II_I_5 (bb d11_117) 2 rfl (fun T22 L22 v22 X22 hQ22 => ?_)
  obtain ⟨rfl, N22q, e22⟩ := hQ22
  have N22 := Fr.app N16 N22q
  refine gSi X22 hx hZ e22 F21 ⟨by decide, by decide⟩ 0 rfl (Nat.le_of_ble_eq_true rfl) N22 g_oh (bb d11_120) (fun T24 h24 X24 e24 W24 V24 N24 => ?_)
  refine g_aloadN X24 hx (bb d11_121) rfl rfl ?_
  have F26 := ((r5.other W16 (Or.inl ne_a1_ol)).other W24 (Or.inl ne_a1_oh))
  refine gF X24 hx hZ hown (ww 24 rfl) e24 F26 (bb d11_122) (fun T25 X25 e25 => ?_)
  refine g_iloadN X25 hx (bb d11_125) rfl ?_
  refine g_aloadN X25 hx (bb d11_126) rfl rfl ?_
  have F28 := ((r1.other W16 (Or.inl ne_a1_ol)).other W24 (Or.inl ne_a1_oh))
  refine gF X25 hx hZ hown (ww 22 rfl) e25 F28 (bb d11_127) (fun T27 X27 e27 => ?_)
  refine g_imul X27 hx (bb d11_130) ?_
  refine g_iload X27 hx (bb d11_131) rfl ?_
  refine g_iadd X27 hx (bb d11_133) ?_
  have F29 := ((r12.other W16 ne_ob_ol).other W24 ne_ob_oh)
  refine gLi X27 hx hZ e27 F29 (v := (.int (f_base et0 et0))) ⟨by decide, by decide⟩ rfl (bb d11_134) ?_
  refine g_istore X27 hx (bb d11_135) (l' := #[vR a1, vI 0, vI 0, vR at_, vI 0, vI (f_base et0 et0), .unset, .unset, .unset, .unset, .unset]) rfl ?_
  refine g_aloadN X27 hx (bb d11_137) rfl rfl ?_
  refine g_iload X27 hx (bb d11_138) rfl ?_
  have F30 := (F19.other W24 ne_at__oh)
  refine gLi X27 hx hZ e27 F30 (v := (.int et0)) ⟨by decide, by decide⟩ rfl (bb d11_140) ?_
  refine g_i2l X27 hx (bb d11_141) ?_
  refine g_iload X27 hx (bb d11_142) rfl ?_
  refine g_i2l X27 hx (bb d11_144) ?_
  refine g_lsub X27 hx (bb d11_145) ?_
  refine g_lstore X27 hx (bb d11_146) (l' := #[vR a1, vI 0, vI 0, vR at_, vI 0, vI (f_base et0 et0), vJ ((et0.toInt64) - ((f_base et0 et0).toInt64)), .second, .unset, .unset, .unset]) rfl ?_
  refine g_lload X27 hx (bb d11_148) rfl ?_
  refine g_lconst X27 hx (bb d11_150) ?_
  refine g_lcmp X27 hx (bb d11_151) ?_
  refine g_ifNo X27 hx (bb d11_152) ((if0 _ _).trans (flt (own_d0 et0)).1) ?_
  refine g_lload X27 hx (bb d11_155) rfl ?_
  refine gJ X27 hx hZ hown (ww 78 rfl) (bb d11_157) ?_
  refine g_lcmp X27 hx (bb d11_160) ?_
  refine g_ifYes X27 hx (pc' := 249) (bb d11_161) ((if0 _ _).trans (tlt (own_e0 et0)).1) (by decide) (by decide) ?_
  refine g_iinc X27 hx (bb d11_249) rfl (l' := #[vR a1, vI 0, vI 0, vR at_, vI 1, vI (f_base et0 et0), vJ ((et0.toInt64) - ((f_base et0 et0).toInt64)), .second, .unset, .unset, .unset]) rfl ?_
  refine g_goto X27 hx (pc' := 70) (bb d11_252) (by decide) (by decide) ?_
  refine g_iload X27 hx (bb d11_70) rfl ?_
  refine g_aloadN X27 hx (bb d11_72) rfl rfl ?_
  refine gF X27 hx hZ hown (ww 22 rfl) e27 F28 (bb d11_73) (fun T31 X31 e31 => ?_)
  refine g_icmpNo X31 hx (bb d11_76) (tlt (by decide : (1 : Int32) < (2 : Int32))).2.1 ?_
  refine g_aloadN X31 hx (bb d11_79) rfl rfl ?_
  have F33 := ((r6.other W16 (Or.inl ne_a1_ol)).other W24 (Or.inl ne_a1_oh))
  refine gF X31 hx hZ hown (ww 26 rfl) e31 F33 (bb d11_80) (fun T32 X32 e32 => ?_)
  refine g_iload X32 hx (bb d11_83) rfl ?_
  refine g_aloadN X32 hx (bb d11_85) rfl rfl ?_
  refine g_iload X32 hx (bb d11_86) rfl ?_
  refine gLi X32 hx hZ e32 F30 (v := (.int et1)) ⟨by decide, by decide⟩ rfl (bb d11_88) ?_
  refine g_aloadN X32 hx (bb d11_89) rfl rfl ?_
  refine gF X32 hx hZ hown (ww 26 rfl) e32 F33 (bb d11_90) (fun T34 X34 e34 => ?_)
  refine g_iload X34 hx (bb d11_93) rfl ?_
  have F35 := (V16.other W24 ne_ol_oh)
  refine gLi X34 hx hZ e34 F35 (v := (.int et1)) ⟨by decide, by decide⟩ rfl (bb d11_95) ?_
  have O37 := (O23.wr W24 g_oh)
  refine gcS X34 hx hZ hml hown (ww 68 rfl) (ww 58 rfl) (ww 70 rfl) (ww 69 rfl) e34 (rm_minI l Z a0 ww [] et1 et1 h24 n0 (own_z0 O37) O37 S_CS) pd__II_I_5 (bb d11_96) 2 rfl (fun T36 L36 v36 X36 hQ36 => ?_)
  obtain ⟨rfl, N36q, e36⟩ := hQ36
  have N36 := Fr.app N24 N36q
  refine gSi X36 hx hZ e36 F35 ⟨by decide, by decide⟩ 1 rfl (Nat.le_of_ble_eq_true rfl) N36 g_ol (bb d11_99) (fun T38 h38 X38 e38 W38 V38 N38 => ?_)
  refine g_aloadN X38 hx (bb d11_100) rfl rfl ?_
  have F40 := ((F18.other W24 (Or.inl ne_a1_oh)).other W38 (Or.inl ne_a1_ol))
  refine gF X38 hx hZ hown (ww 28 rfl) e38 F40 (bb d11_101) (fun T39 X39 e39 => ?_)
  refine g_iload X39 hx (bb d11_104) rfl ?_
  refine g_aloadN X39 hx (bb d11_106) rfl rfl ?_
  refine g_iload X39 hx (bb d11_107) rfl ?_
  have F41 := (F30.other W38 ne_at__ol)
  refine gLi X39 hx hZ e39 F41 (v := (.int et1)) ⟨by decide, by decide⟩ rfl (bb d11_109) ?_
  refine g_aloadN X39 hx (bb d11_110) rfl rfl ?_
  refine gF X39 hx hZ hown (ww 28 rfl) e39 F40 (bb d11_111) (fun T42 X42 e42 => ?_)
  refine g_iload X42 hx (bb d11_114) rfl ?_
  have F43 := (V24.other W38 (Ne.symm ne_ol_oh))
  refine gLi X42 hx hZ e42 F43 (v := (.int et1)) ⟨by decide, by decide⟩ rfl (bb d11_116) ?_
  have O45 := (O37.wr W38 g_ol)
  refine gcS X42 hx hZ hml hown (ww 75 rfl) (ww 58 rfl) (ww 77 rfl) (ww 76 rfl) e42 (rm_maxI l Z a0 ww [] et1 et1 h38 n0 (own_z0 O45) O45 S_CS) pd__II_I_5 (bb d11_117) 2 rfl (fun T44 L44 v44 X44 hQ44 => ?_)
  obtain ⟨rfl, N44q, e44⟩ := hQ44
  have N44 := Fr.app N38 N44q
  refine gSi X44 hx hZ e44 F43 ⟨by decide, by decide⟩ 1 rfl (Nat.le_of_ble_eq_true rfl) N44 g_oh (bb d11_120) (fun T46 h46 X46 e46 W46 V46 N46 => ?_)
  refine g_aloadN X46 hx (bb d11_121) rfl rfl ?_
  have F48 := ((F26.other W38 (Or.inl ne_a1_ol)).other W46 (Or.inl ne_a1_oh))
  refine gF X46 hx hZ hown (ww 24 rfl) e46 F48 (bb d11_122) (fun T47 X47 e47 => ?_)
  refine g_iloadN X47 hx (bb d11_125) rfl ?_
  refine g_aloadN X47 hx (bb d11_126) rfl rfl ?_
  have F50 := ((F28.other W38 (Or.inl ne_a1_ol)).other W46 (Or.inl ne_a1_oh))
  refine gF X47 hx hZ hown (ww 22 rfl) e47 F50 (bb d11_127) (fun T49 X49 e49 => ?_)
  refine g_imul X49 hx (bb d11_130) ?_
  refine g_iload X49 hx (bb d11_131) rfl ?_
  refine g_iadd X49 hx (bb d11_133) ?_
  have F51 := ((F29.other W38 ne_ob_ol).other W46 ne_ob_oh)
  refine gLi X49 hx hZ e49 F51 (v := (.int (f_base et1 et1))) ⟨by decide, by decide⟩ rfl (bb d11_134) ?_
  refine g_istore X49 hx (bb d11_135) (l' := #[vR a1, vI 0, vI 0, vR at_, vI 1, vI (f_base et1 et1), vJ ((et0.toInt64) - ((f_base et0 et0).toInt64)), .second, .unset, .unset, .unset]) rfl ?_
  refine g_aloadN X49 hx (bb d11_137) rfl rfl ?_
  refine g_iload X49 hx (bb d11_138) rfl ?_
  have F52 := (F41.other W46 ne_at__oh)
  refine gLi X49 hx hZ e49 F52 (v := (.int et1)) ⟨by decide, by decide⟩ rfl (bb d11_140) ?_
  refine g_i2l X49 hx (bb d11_141) ?_
  refine g_iload X49 hx (bb d11_142) rfl ?_
  refine g_i2l X49 hx (bb d11_144) ?_
  refine g_lsub X49 hx (bb d11_145) ?_
  refine g_lstore X49 hx (bb d11_146) (l' := #[vR a1, vI 0, vI 0, vR at_, vI 1, vI (f_base et1 et1), vJ ((et1.toInt64) - ((f_base et1 et1).toInt64)), .second, .unset, .unset, .unset]) rfl ?_
  refine g_lload X49 hx (bb d11_148) rfl ?_
  refine g_lconst X49 hx (bb d11_150) ?_
  refine g_lcmp X49 hx (bb d11_151) ?_
  refine g_ifNo X49 hx (bb d11_152) ((if0 _ _).trans (flt (own_d0 et1)).1) ?_
  refine g_lload X49 hx (bb d11_155) rfl ?_
  refine gJ X49 hx hZ hown (ww 78 rfl) (bb d11_157) ?_
  refine g_lcmp X49 hx (bb d11_160) ?_
  refine g_ifYes X49 hx (pc' := 249) (bb d11_161) ((if0 _ _).trans (tlt (own_e0 et1)).1) (by decide) (by decide) ?_
  refine g_iinc X49 hx (bb d11_249) rfl (l' := #[vR a1, vI 0, vI 0, vR at_, vI 2, vI (f_base et1 et1), vJ ((et1.toInt64) - ((f_base et1 et1).toInt64)), .second, .unset, .unset, .unset]) rfl ?_
  refine g_goto X49 hx (pc' := 70) (bb d11_252) (by decide) (by decide) ?_
  refine g_iload X49 hx (bb d11_70) rfl ?_
  refine g_aloadN X49 hx (bb d11_72) rfl rfl ?_
  refine gF X49 hx hZ hown (ww 22 rfl) e49 F50 (bb d11_73) (fun T53 X53 e53 => ?_)
  refine g_icmpYes X53 hx (pc' := 255) (bb d11_76) (flt (by decide : ¬ ((2 : Int32) < (2 : Int32)))).2.1 (by decide) (by decide) ?_
  have F54 := (V38.other W46 ne_ol_oh)
  obtain ⟨fs, hr, hrun, hended, hW, hsame⟩ := X53.leave (v := none) (fun _ => rfl)
  subst hR0
  refine ⟨_, _, ?_, hrun, hended, _, _, rfl, ?_, ⟨_, rfl⟩, hW, hsame.mono (by decide) (by decide)⟩
  · exact X53.returnOut hx hret (bb d11_255) hr
  · show Q_fit2_0 Z a1 at_ ow on ob ol oh ov kw_ kn_ kb_ kl_ kh_ kv_ eb0 eb1 el0 el1 eu0 eu1 ex0 ex1 ex2 ex3 ex4 ex5 ex6 ex7 ex8 ex9 ex10 ex11 ex12 ex13 ex14 ex15 kt_ et0 et1 h0 n0 _ T53.heap _
    rw [e53]
    exact ⟨rfl, N46, (((((Keep.refl h0 [ol, oh]).wr W16 (Or.inl (List.mem_of_getElem? (i := 0) rfl))).wr W24 (Or.inl (List.mem_of_getElem? (i := 1) rfl))).wr W38 (Or.inl (List.mem_of_getElem? (i := 0) rfl))).wr W46 (Or.inl (List.mem_of_getElem? (i := 1) rfl))), (by have q := F54; simp only [own_maxS, own_minS] at q; exact q), (by have q := V46; simp only [own_maxS, own_minS] at q; exact q)⟩
def Q_fit2_1 (Z : State) (a1 at_ ow on ob ol oh ov : Addr) (kw_ kn_ kb_ kl_ kh_ kv_ : ClassId) (eb0 eb1 el0 el1 eu0 eu1 ev0_0 ev0_1 ex2 ex3 ex4 ex5 ex6 ex7 ex8 ex9 ex10 ex11 ex12 ex13 ex14 ex15 : Int32) (kt_ : ClassId) (et0 et1 : Int32) (h0 : Heap) (n0 : Nat) (v : Option Value) (h : Heap) (L : List Loc) : Prop := v = none ∧ Fr n0 L ∧ Keep h0 h [ob, ol, oh, ov] ∧ Arv Z h ol kl_ .int (2 : Int32) [(.int (f_minI et0 el0)), (.int (f_minI et1 el1))] (.int 0) ∧ Arv Z h oh kh_ .int (2 : Int32) [(.int (f_maxI et0 eu0)), (.int (f_maxI et1 eu1))] (.int 0) ∧ Arv Z h ob kb_ .int (2 : Int32) [(.int (nbase eb0 el0 eu0 et0)), (.int (nbase eb1 el1 eu1 et1))] (.int 0) ∧ Arv Z h ov kv_ .char (16 : Int32) [(.int (nar .char (ev0_0 - (nbase eb0 el0 eu0 et0)))), (.int (nar .char (ev0_1 - (nbase eb1 el1 eu1 et1)))), (.int ex2), (.int ex3), (.int ex4), (.int ex5), (.int ex6), (.int ex7), (.int ex8), (.int ex9), (.int ex10), (.int ex11), (.int ex12), (.int ex13), (.int ex14), (.int ex15)] (.int 0)
set_option maxRecDepth 65536 in
set_option maxHeartbeats 40000000 in
theorem rm_fit2_1 (l : Launch) (Z : State) (a0 : Array Value) (ww : WW a0 Z) (ws : List Jvm.Cond) (a1 at_ ow on ob ol oh ov : Addr) (kw_ kn_ kb_ kl_ kh_ kv_ : ClassId) (eb0 eb1 el0 el1 eu0 eu1 ev0_0 ev0_1 ex2 ex3 ex4 ex5 ex6 ex7 ex8 ex9 ex10 ex11 ex12 ex13 ex14 ex15 : Int32) (kt_ : ClassId) (et0 et1 : Int32) (h0 : Heap) (n0 : Nat) (Z0 : n0 ≤ h0.size) (O0 : Old Z n0 h0) (S_CS : Sta Z Z.heap cRV "CHUNK_SHIFT" "I" (.int (12 : Int32))) (r0 : Exa Z h0 a1 cRV) (r1 : Fld Z h0 a1 cRV "arity" "I" (.int 2)) (r2 : Fld Z h0 a1 cRV "rows" "I" (.int 1)) (r3 : Fld Z h0 a1 cRV "wide" "[[I" (.ref ow)) (r4 : Fld Z h0 a1 cRV "narrow" "[[C" (.ref on)) (r5 : Fld Z h0 a1 cRV "bases" "[I" (.ref ob)) (r6 : Fld Z h0 a1 cRV "lowest" "[I" (.ref ol)) (r7 : Fld Z h0 a1 cRV "highest" "[I" (.ref oh)) (r8 : Arv Z h0 ow kw_ (.array .int) (1 : Int32) [.null] .null) (r9 : OvrA Z kw_ .int "[I") (r10 : Arv Z h0 on kn_ (.array .char) (1 : Int32) [(.ref ov)] .null) (r11 : OvrA Z kn_ .char "[C") (r12 : Arv Z h0 ob kb_ .int (2 : Int32) [(.int eb0), (.int eb1)] (.int 0)) (r13 : Arv Z h0 ol kl_ .int (2 : Int32) [(.int el0), (.int el1)] (.int 0)) (r14 : Arv Z h0 oh kh_ .int (2 : Int32) [(.int eu0), (.int eu1)] (.int 0)) (r15 : Arv Z h0 ov kv_ .char (16 : Int32) [(.int (nar .char (ev0_0 - eb0))), (.int (nar .char (ev0_1 - eb1))), (.int ex2), (.int ex3), (.int ex4), (.int ex5), (.int ex6), (.int ex7), (.int ex8), (.int ex9), (.int ex10), (.int ex11), (.int ex12), (.int ex13), (.int ex14), (.int ex15)] (.int 0)) (r16 : Arv Z h0 at_ kt_ .int (2 : Int32) [(.int et0), (.int et1)] (.int 0)) (g_ob : n0 ≤ ob) (g_ol : n0 ≤ ol) (g_oh : n0 ≤ oh) (g_ov : n0 ≤ ov) (ne_a1_ow : a1 ≠ ow) (ne_a1_on : a1 ≠ on) (ne_a1_ob : a1 ≠ ob) (ne_a1_ol : a1 ≠ ol) (ne_a1_oh : a1 ≠ oh) (ne_a1_ov : a1 ≠ ov) (ne_ow_on : ow ≠ on) (ne_ow_ob : ow ≠ ob) (ne_ow_ol : ow ≠ ol) (ne_ow_oh : ow ≠ oh) (ne_ow_ov : ow ≠ ov) (ne_on_ob : on ≠ ob) (ne_on_ol : on ≠ ol) (ne_on_oh : on ≠ oh) (ne_on_ov : on ≠ ov) (ne_ob_ol : ob ≠ ol) (ne_ob_oh : ob ≠ oh) (ne_ob_ov : ob ≠ ov) (ne_ol_oh : ol ≠ oh) (ne_ol_ov : ol ≠ ov) (ne_oh_ov : oh ≠ ov) (ne_at__a1 : at_ ≠ a1) (ne_at__ow : at_ ≠ ow) (ne_at__on : at_ ≠ on) (ne_at__ob : at_ ≠ ob) (ne_at__ol : at_ ≠ ol) (ne_at__oh : at_ ≠ oh) (ne_at__ov : at_ ≠ ov) (hs0 : (lcmpW (((f_maxI et0 eu0).toInt64) - ((f_minI et0 el0).toInt64)) (65536 : Int64)) < (0 : Int32)) (hs1 : (lcmpW (((f_maxI et1 eu1).toInt64) - ((f_minI et1 el1).toInt64)) (65536 : Int64)) < (0 : Int32)) :
    MF l Z (⟨cRV, "fit", "(II[I)V"⟩ : MethodName) prog_47_method_7_code 11 none ws ({ frames := 2, cells := 0, slots := 0, locals := 30 } : Room) #[(.ref a1), (.int 0), (.int 1), (.ref at_)] h0 (Q_fit2_1 Z a1 at_ ow on ob ol oh ov kw_ kn_ kb_ kl_ kh_ kv_ eb0 eb1 el0 el1 eu0 eu1 ev0_0 ev0_1 ex2 ex3 ex4 ex5 ex6 ex7 ex8 ex9 ex10 ex11 ex12 ex13 ex14 ex15 kt_ et0 et1 h0 n0) := by
  refine gopen (plainFor_of_name pn_RowValues) (fun m => ef_fit2_1 m a1 at_) (fun p e s m below meth c s₁ hlk hret hx bb hml hown hnm hZ X0 e0 R0 hR0 => ?_)
  have N0 := Fr.nil n0
  refine g_iconst X0 hx (bb d11_0) ?_
  refine g_istore X0 hx (bb d11_1) (l' := #[vR a1, vI 0, vI 1, vR at_, vI 0, .unset, .unset, .unset, .unset, .unset, .unset]) rfl ?_
  refine g_iload X0 hx (bb d11_3) rfl ?_
  refine g_aloadN X0 hx (bb d11_5) rfl rfl ?_
  refine gF X0 hx hZ hown (ww 22 rfl) e0 r1 (bb d11_6) (fun T1 X1 e1 => ?_)
  refine g_icmpNo X1 hx (bb d11_9) (tlt (by decide : (0 : Int32) < (2 : Int32))).2.1 ?_
  refine g_aloadN X1 hx (bb d11_12) rfl rfl ?_
  refine g_iload X1 hx (bb d11_13) rfl ?_
  refine gLi X1 hx hZ e1 r16 (v := (.int et0)) ⟨by decide, by decide⟩ rfl (bb d11_15) ?_
  refine g_aloadN X1 hx (bb d11_16) rfl rfl ?_
  refine gF X1 hx hZ hown (ww 28 rfl) e1 r7 (bb d11_17) (fun T2 X2 e2 => ?_)
  refine g_iload X2 hx (bb d11_20) rfl ?_
  refine gLi X2 hx hZ e2 r14 (v := (.int eu0)) ⟨by decide, by decide⟩ rfl (bb d11_22) ?_
  refine gcS X2 hx hZ hml hown (ww 75 rfl) (ww 58 rfl) (ww 77 rfl) (ww 76 rfl) e2 (rm_maxI l Z a0 ww [] et0 eu0 h0 n0 (own_z0 O0) O0 S_CS) pd__II_I_5 (bb d11_23) 0 rfl (fun T3 L3 v3 X3 hQ3 => ?_)
  obtain ⟨rfl, N3q, e3⟩ := hQ3
  have N3 := Fr.app N0 N3q
  refine g_i2l X3 hx (bb d11_26) ?_
  refine g_aloadN X3 hx (bb d11_27) rfl rfl ?_
  refine g_iload X3 hx (bb d11_28) rfl ?_
  refine gLi X3 hx hZ e3 r16 (v := (.int et0)) ⟨by decide, by decide⟩ rfl (bb d11_30) ?_
  refine g_aloadN X3 hx (bb d11_31) rfl rfl ?_
  refine gF X3 hx hZ hown (ww 26 rfl) e3 r6 (bb d11_32) (fun T4 X4 e4 => ?_)
  refine g_iload X4 hx (bb d11_35) rfl ?_
  refine gLi X4 hx hZ e4 r13 (v := (.int el0)) ⟨by decide, by decide⟩ rfl (bb d11_37) ?_
  refine gcS X4 hx hZ hml hown (ww 68 rfl) (ww 58 rfl) (ww 70 rfl) (ww 69 rfl) e4 (rm_minI l Z a0 ww [] et0 el0 h0 n0 (own_z0 O0) O0 S_CS) pd__II_I_5 (bb d11_38) 2 rfl (fun T5 L5 v5 X5 hQ5 => ?_)
  obtain ⟨rfl, N5q, e5⟩ := hQ5
  have N5 := Fr.app N3 N5q
  refine g_i2l X5 hx (bb d11_41) ?_
  refine g_lsub X5 hx (bb d11_42) ?_
  refine g_lstore X5 hx (bb d11_43) (l' := #[vR a1, vI 0, vI 1, vR at_, vI 0, vJ (((f_maxI et0 eu0).toInt64) - ((f_minI et0 el0).toInt64)), .second, .unset, .unset, .unset, .unset]) rfl ?_
  refine g_lload X5 hx (bb d11_45) rfl ?_
  refine gJ X5 hx hZ hown (ww 78 rfl) (bb d11_47) ?_
  refine g_lcmp X5 hx (bb d11_50) ?_
  refine g_ifYes X5 hx (pc' := 61) (bb d11_51) ((if0 _ _).trans (tlt hs0).1) (by decide) (by decide) ?_
  refine g_iinc X5 hx (bb d11_61) rfl (l' := #[vR a1, vI 0, vI 1, vR at_, vI 1, vJ (((f_maxI et0 eu0).toInt64) - ((f_minI et0 el0).toInt64)), .second, .unset, .unset, .unset, .unset]) rfl ?_
  refine g_goto X5 hx (pc' := 3) (bb d11_64) (by decide) (by decide) ?_
  refine g_iload X5 hx (bb d11_3) rfl ?_
  refine g_aloadN X5 hx (bb d11_5) rfl rfl ?_
  refine gF X5 hx hZ hown (ww 22 rfl) e5 r1 (bb d11_6) (fun T6 X6 e6 => ?_)
  refine g_icmpNo X6 hx (bb d11_9) (tlt (by decide : (1 : Int32) < (2 : Int32))).2.1 ?_
  refine g_aloadN X6 hx (bb d11_12) rfl rfl ?_
  refine g_iload X6 hx (bb d11_13) rfl ?_
  refine gLi X6 hx hZ e6 r16 (v := (.int et1)) ⟨by decide, by decide⟩ rfl (bb d11_15) ?_
  refine g_aloadN X6 hx (bb d11_16) rfl rfl ?_
  refine gF X6 hx hZ hown (ww 28 rfl) e6 r7 (bb d11_17) (fun T7 X7 e7 => ?_)
  refine g_iload X7 hx (bb d11_20) rfl ?_
  refine gLi X7 hx hZ e7 r14 (v := (.int eu1)) ⟨by decide, by decide⟩ rfl (bb d11_22) ?_
  refine gcS X7 hx hZ hml hown (ww 75 rfl) (ww 58 rfl) (ww 77 rfl) (ww 76 rfl) e7 (rm_maxI l Z a0 ww [] et1 eu1 h0 n0 (own_z0 O0) O0 S_CS) pd__II_I_5 (bb d11_23) 0 rfl (fun T8 L8 v8 X8 hQ8 => ?_)
  obtain ⟨rfl, N8q, e8⟩ := hQ8
  have N8 := Fr.app N5 N8q
  refine g_i2l X8 hx (bb d11_26) ?_
  refine g_aloadN X8 hx (bb d11_27) rfl rfl ?_
  refine g_iload X8 hx (bb d11_28) rfl ?_
  refine gLi X8 hx hZ e8 r16 (v := (.int et1)) ⟨by decide, by decide⟩ rfl (bb d11_30) ?_
  refine g_aloadN X8 hx (bb d11_31) rfl rfl ?_
  refine gF X8 hx hZ hown (ww 26 rfl) e8 r6 (bb d11_32) (fun T9 X9 e9 => ?_)
  refine g_iload X9 hx (bb d11_35) rfl ?_
  refine gLi X9 hx hZ e9 r13 (v := (.int el1)) ⟨by decide, by decide⟩ rfl (bb d11_37) ?_
  refine gcS X9 hx hZ hml hown (ww 68 rfl) (ww 58 rfl) (ww 70 rfl) (ww 69 rfl) e9 (rm_minI l Z a0 ww [] et1 el1 h0 n0 (own_z0 O0) O0 S_CS) pd__II_I_5 (bb d11_38) 2 rfl (fun T10 L10 v10 X10 hQ10 => ?_)
  obtain ⟨rfl, N10q, e10⟩ := hQ10
  have N10 := Fr.app N8 N10q
  refine g_i2l X10 hx (bb d11_41) ?_
  refine g_lsub X10 hx (bb d11_42) ?_
  refine g_lstore X10 hx (bb d11_43) (l' := #[vR a1, vI 0, vI 1, vR at_, vI 1, vJ (((f_maxI et1 eu1).toInt64) - ((f_minI et1 el1).toInt64)), .second, .unset, .unset, .unset, .unset]) rfl ?_
  refine g_lload X10 hx (bb d11_45) rfl ?_
  refine gJ X10 hx hZ hown (ww 78 rfl) (bb d11_47) ?_
  refine g_lcmp X10 hx (bb d11_50) ?_
  refine g_ifYes X10 hx (pc' := 61) (bb d11_51) ((if0 _ _).trans (tlt hs1).1) (by decide) (by decide) ?_
  refine g_iinc X10 hx (bb d11_61) rfl (l' := #[vR a1, vI 0, vI 1, vR at_, vI 2, vJ (((f_maxI et1 eu1).toInt64) - ((f_minI et1 el1).toInt64)), .second, .unset, .unset, .unset, .unset]) rfl ?_
  refine g_goto X10 hx (pc' := 3) (bb d11_64) (by decide) (by decide) ?_
  refine g_iload X10 hx (bb d11_3) rfl ?_
  refine g_aloadN X10 hx (bb d11_5) rfl rfl ?_
  refine gF X10 hx hZ hown (ww 22 rfl) e10 r1 (bb d11_6) (fun T11 X11 e11 => ?_)
  refine g_icmpYes X11 hx (pc' := 67) (bb d11_9) (flt (by decide : ¬ ((2 : Int32) < (2 : Int32)))).2.1 (by decide) (by decide) ?_
  refine g_iconst X11 hx (bb d11_67) ?_
  refine g_istore X11 hx (bb d11_68) (l' := #[vR a1, vI 0, vI 1, vR at_, vI 0, vJ (((f_maxI et1 eu1).toInt64) - ((f_minI et1 el1).toInt64)), .second, .unset, .unset, .unset, .unset]) rfl ?_
  refine g_iload X11 hx (bb d11_70) rfl ?_
  refine g_aloadN X11 hx (bb d11_72) rfl rfl ?_
  refine gF X11 hx hZ hown (ww 22 rfl) e11 r1 (bb d11_73) (fun T12 X12 e12 => ?_)
  refine g_icmpNo X12 hx (bb d11_76) (tlt (by decide : (0 : Int32) < (2 : Int32))).2.1 ?_
  refine g_aloadN X12 hx (bb d11_79) rfl rfl ?_
  refine gF X12 hx hZ hown (ww 26 rfl) e12 r6 (bb d11_80) (fun T13 X13 e13 => ?_)
  refine g_iload X13 hx (bb d11_83) rfl ?_
  refine g_aloadN X13 hx (bb d11_85) rfl rfl ?_
  refine g_iload X13 hx (bb d11_86) rfl ?_
  refine gLi X13 hx hZ e13 r16 (v := (.int et0)) ⟨by decide, by decide⟩ rfl (bb d11_88) ?_
  refine g_aloadN X13 hx (bb d11_89) rfl rfl ?_
  refine gF X13 hx hZ hown (ww 26 rfl) e13 r6 (bb d11_90) (fun T14 X14 e14 => ?_)
  refine g_iload X14 hx (bb d11_93) rfl ?_
  refine gLi X14 hx hZ e14 r13 (v := (.int el0)) ⟨by decide, by decide⟩ rfl (bb d11_95) ?_
  refine gcS X14 hx hZ hml hown (ww 68 rfl) (ww 58 rfl) (ww 70 rfl) (ww 69 rfl) e14 (rm_minI l Z a0 ww [] et0 el0 h0 n0 (own_z0 O0) O0 S_CS) pd__II_I_5 (bb d11_96) 2 rfl (fun T15 L15 v15 X15 hQ15 => ?_)
  obtain ⟨rfl, N15q, e15⟩ := hQ15
  have N15 := Fr.app N10 N15q
  refine gSi X15 hx hZ e15 r13 ⟨by decide, by decide⟩ 0 rfl (Nat.le_of_ble_eq_true rfl) N15 g_ol (bb d11_99) (fun T16 h16 X16 e16 W16 V16 N16 => ?_)
  refine g_aloadN X16 hx (bb d11_100) rfl rfl ?_
  have F18 := (r7.other W16 (Or.inl ne_a1_ol))
  refine gF X16 hx hZ hown (ww 28 rfl) e16 F18 (bb d11_101) (fun T17 X17 e17 => ?_)
  refine g_iload X17 hx (bb d11_104) rfl ?_
  refine g_aloadN X17 hx (bb d11_106) rfl rfl ?_
  refine g_iload X17 hx (bb d11_107) rfl ?_
  have F19 := (r16.other W16 ne_at__ol)
  refine gLi X17 hx hZ e17 F19 (v := (.int et0)) ⟨by decide, by decide⟩ rfl (bb d11_109) ?_
  refine g_aloadN X17 hx (bb d11_110) rfl rfl ?_
  refine gF X17 hx hZ hown (ww 28 rfl) e17 F18 (bb d11_111) (fun T20 X20 e20 => ?_)
  refine g_iload X20 hx (bb d11_114) rfl ?_
  have F21 := (r14.other W16 (Ne.symm ne_ol_oh))
  refine gLi X20 hx hZ e20 F21 (v := (.int eu0)) ⟨by decide, by decide⟩ rfl (bb d11_116) ?_
  have O23 := (O0.wr W16 g_ol)
  refine gcS X20 hx hZ hml hown (ww 75 rfl) (ww 58 rfl) (ww 77 rfl) (ww 76 rfl) e20 (rm_maxI l Z a0 ww [] et0 eu0 h16 n0 (own_z0 O23) O23 S_CS) pd__II_I_5 (bb d11_117) 2 rfl (fun T22 L22 v22 X22 hQ22 => ?_)
  obtain ⟨rfl, N22q, e22⟩ := hQ22
  have N22 := Fr.app N16 N22q
  refine gSi X22 hx hZ e22 F21 ⟨by decide, by decide⟩ 0 rfl (Nat.le_of_ble_eq_true rfl) N22 g_oh (bb d11_120) (fun T24 h24 X24 e24 W24 V24 N24 => ?_)
  refine g_aloadN X24 hx (bb d11_121) rfl rfl ?_
  have F26 := ((r5.other W16 (Or.inl ne_a1_ol)).other W24 (Or.inl ne_a1_oh))
  refine gF X24 hx hZ hown (ww 24 rfl) e24 F26 (bb d11_122) (fun T25 X25 e25 => ?_)
  refine g_iloadN X25 hx (bb d11_125) rfl ?_
  refine g_aloadN X25 hx (bb d11_126) rfl rfl ?_
  have F28 := ((r1.other W16 (Or.inl ne_a1_ol)).other W24 (Or.inl ne_a1_oh))
  refine gF X25 hx hZ hown (ww 22 rfl) e25 F28 (bb d11_127) (fun T27 X27 e27 => ?_)
  refine g_imul X27 hx (bb d11_130) ?_
  refine g_iload X27 hx (bb d11_131) rfl ?_
  refine g_iadd X27 hx (bb d11_133) ?_
  have F29 := ((r12.other W16 ne_ob_ol).other W24 ne_ob_oh)
  refine gLi X27 hx hZ e27 F29 (v := (.int eb0)) ⟨by decide, by decide⟩ rfl (bb d11_134) ?_
  refine g_istore X27 hx (bb d11_135) (l' := #[vR a1, vI 0, vI 1, vR at_, vI 0, vI eb0, .unset, .unset, .unset, .unset, .unset]) rfl ?_
  refine g_aloadN X27 hx (bb d11_137) rfl rfl ?_
  refine g_iload X27 hx (bb d11_138) rfl ?_
  have F30 := (F19.other W24 ne_at__oh)
  refine gLi X27 hx hZ e27 F30 (v := (.int et0)) ⟨by decide, by decide⟩ rfl (bb d11_140) ?_
  refine g_i2l X27 hx (bb d11_141) ?_
  refine g_iload X27 hx (bb d11_142) rfl ?_
  refine g_i2l X27 hx (bb d11_144) ?_
  refine g_lsub X27 hx (bb d11_145) ?_
  refine g_lstore X27 hx (bb d11_146) (l' := #[vR a1, vI 0, vI 1, vR at_, vI 0, vI eb0, vJ ((et0.toInt64) - (eb0.toInt64)), .second, .unset, .unset, .unset]) rfl ?_
  suffices hm31 : ∀ (T' : State) (L' : List Loc) (h' : Heap) (s8_31 : Slot) (s9_31 : Slot) (s10_31 : Slot), Stand p l e ({ frames := 2, cells := 0, slots := 0, locals := 30 } : Room) s m #[(.ref a1), (.int 0), (.int 1), (.ref at_)] below meth c T' L' 0 0 → T'.heap = h' → Fr n0 L' → Keep h24 h' [ob, ov] → Arv Z h' ob kb_ .int (2 : Int32) [(.int (nbase eb0 el0 eu0 et0)), (.int eb1)] (.int 0) → Arv Z h' ov kv_ .char (16 : Int32) [(.int (nar .char (ev0_0 - (nbase eb0 el0 eu0 et0)))), (.int (nar .char (ev0_1 - eb1))), (.int ex2), (.int ex3), (.int ex4), (.int ex5), (.int ex6), (.int ex7), (.int ex8), (.int ex9), (.int ex10), (.int ex11), (.int ex12), (.int ex13), (.int ex14), (.int ex15)] (.int 0) → One s8_31 → One s9_31 → One s10_31 → Gl p e below R0 T' (mkF m 249 #[vR a1, vI 0, vI 1, vR at_, vI 0, vI eb0, vJ ((et0.toInt64) - (eb0.toInt64)), .second, s8_31, s9_31, s10_31] []) by
    by_cases g31 : ((lcmpW ((et0.toInt64) - (eb0.toInt64)) (0 : Int64)) < (0 : Int32)) ∨ ¬ ((lcmpW ((et0.toInt64) - (eb0.toInt64)) (65536 : Int64)) < (0 : Int32))
    · skip
      suffices hm32 : ∀ (T' : State) (L' : List Loc), Stand p l e ({ frames := 2, cells := 0, slots := 0, locals := 30 } : Room) s m #[(.ref a1), (.int 0), (.int 1), (.ref at_)] below meth c T' L' 0 0 → T'.heap = h24 → Fr n0 L' → Gl p e below R0 T' (mkF m 164 #[vR a1, vI 0, vI 1, vR at_, vI 0, vI eb0, vJ ((et0.toInt64) - (eb0.toInt64)), .second, .unset, .unset, .unset] []) by
        refine g_lload X27 hx (bb d11_148) rfl ?_
        refine g_lconst X27 hx (bb d11_150) ?_
        refine g_lcmp X27 hx (bb d11_151) ?_
        by_cases g33 : (lcmpW ((et0.toInt64) - (eb0.toInt64)) (0 : Int64)) < (0 : Int32)
        · skip
          refine g_ifYes X27 hx (pc' := 164) (bb d11_152) ((if0 _ _).trans (tlt g33).1) (by decide) (by decide) ?_
          have q := hm32 _ _ X27 e27 N24
          exact q
        · skip
          refine g_ifNo X27 hx (bb d11_152) ((if0 _ _).trans (flt g33).1) ?_
          refine g_lload X27 hx (bb d11_155) rfl ?_
          refine gJ X27 hx hZ hown (ww 78 rfl) (bb d11_157) ?_
          refine g_lcmp X27 hx (bb d11_160) ?_
          refine g_ifNo X27 hx (bb d11_161) ((if0 _ _).trans (flt (g31.resolve_left g33)).1) ?_
          have q := hm32 _ _ X27 e27 N24
          exact q
      intro T32 L32 X32 e32 N32
      refine g_aloadN X32 hx (bb d11_164) rfl rfl ?_
      have F35 := ((r6.other W16 (Or.inl ne_a1_ol)).other W24 (Or.inl ne_a1_oh))
      refine gF X32 hx hZ hown (ww 26 rfl) e32 F35 (bb d11_165) (fun T34 X34 e34 => ?_)
      refine g_iload X34 hx (bb d11_168) rfl ?_
      have F36 := (V16.other W24 ne_ol_oh)
      refine gLi X34 hx hZ e34 F36 (v := (.int (f_minI et0 el0))) ⟨by decide, by decide⟩ rfl (bb d11_170) ?_
      refine g_aloadN X34 hx (bb d11_171) rfl rfl ?_
      have F38 := (F18.other W24 (Or.inl ne_a1_oh))
      refine gF X34 hx hZ hown (ww 28 rfl) e34 F38 (bb d11_172) (fun T37 X37 e37 => ?_)
      refine g_iload X37 hx (bb d11_175) rfl ?_
      refine gLi X37 hx hZ e37 V24 (v := (.int (f_maxI et0 eu0))) ⟨by decide, by decide⟩ rfl (bb d11_177) ?_
      have O40 := (O23.wr W24 g_oh)
      refine gcS X37 hx hZ hml hown (ww 50 rfl) (ww 7 rfl) (ww 52 rfl) (ww 51 rfl) e37 (rm_base l Z a0 ww [] (f_minI et0 el0) (f_maxI et0 eu0) h24 n0 (own_z0 O40) O40 S_CS) pd__II_I_5 (bb d11_178) 0 rfl (fun T39 L39 v39 X39 hQ39 => ?_)
      obtain ⟨rfl, N39q, e39⟩ := hQ39
      have N39 := Fr.app N32 N39q
      refine g_istore X39 hx (bb d11_181) (l' := #[vR a1, vI 0, vI 1, vR at_, vI 0, vI eb0, vJ ((et0.toInt64) - (eb0.toInt64)), .second, vI (f_base (f_minI et0 el0) (f_maxI et0 eu0)), .unset, .unset]) rfl ?_
      refine g_aloadN X39 hx (bb d11_183) rfl rfl ?_
      have F42 := ((r4.other W16 (Or.inl ne_a1_ol)).other W24 (Or.inl ne_a1_oh))
      refine gF X39 hx hZ hown (ww 20 rfl) e39 F42 (bb d11_184) (fun T41 X41 e41 => ?_)
      refine g_iloadN X41 hx (bb d11_187) rfl ?_
      have F43 := ((r10.other W16 ne_on_ol).other W24 ne_on_oh)
      refine gLr rfl X41 hx hZ e41 F43 (v := (.ref ov)) ⟨by decide, by decide⟩ rfl (bb d11_188) ?_
      refine g_astore X41 hx (bb d11_189) rfl (l' := #[vR a1, vI 0, vI 1, vR at_, vI 0, vI eb0, vJ ((et0.toInt64) - (eb0.toInt64)), .second, vI (f_base (f_minI et0 el0) (f_maxI et0 eu0)), vR ov, .unset]) rfl ?_
      refine g_iload X41 hx (bb d11_191) rfl ?_
      refine g_istore X41 hx (bb d11_193) (l' := #[vR a1, vI 0, vI 1, vR at_, vI 0, vI eb0, vJ ((et0.toInt64) - (eb0.toInt64)), .second, vI (f_base (f_minI et0 el0) (f_maxI et0 eu0)), vR ov, vI 0]) rfl ?_
      refine g_iload X41 hx (bb d11_195) rfl ?_
      refine g_iloadN X41 hx (bb d11_197) rfl ?_
      refine g_aloadN X41 hx (bb d11_198) rfl rfl ?_
      refine gF X41 hx hZ hown (ww 22 rfl) e41 F28 (bb d11_199) (fun T44 X44 e44 => ?_)
      refine g_imul X44 hx (bb d11_202) ?_
      refine g_icmpNo X44 hx (bb d11_203) (tlt (by decide : (0 : Int32) < (2 : Int32))).2.1 ?_
      refine g_aload X44 hx (bb d11_206) rfl rfl ?_
      refine g_iload X44 hx (bb d11_208) rfl ?_
      refine g_dup2 X44 hx (bb d11_210) rfl rfl ?_
      have F45 := ((r15.other W16 (Ne.symm ne_ol_ov)).other W24 (Ne.symm ne_oh_ov))
      refine gLc X44 hx hZ e44 F45 (v := (.int (nar .char (ev0_0 - eb0)))) ⟨by decide, by decide⟩ rfl (bb d11_211) ?_
      refine g_iload X44 hx (bb d11_212) rfl ?_
      refine g_iload X44 hx (bb d11_214) rfl ?_
      refine g_isub X44 hx (bb d11_216) ?_
      refine g_i2c X44 hx (bb d11_217) ?_
      refine g_iadd X44 hx (bb d11_218) ?_
      refine g_i2c X44 hx (bb d11_219) ?_
      refine gSc X44 hx hZ e44 F45 ⟨by decide, by decide⟩ 0 rfl (Nat.le_of_ble_eq_true rfl) N39 g_ov (bb d11_220) (fun T46 h46 X46 e46 W46 V46 N46 => ?_)
      refine g_iload X46 hx (bb d11_221) rfl ?_
      refine g_aloadN X46 hx (bb d11_223) rfl rfl ?_
      have F48 := (F28.other W46 (Or.inl ne_a1_ov))
      refine gF X46 hx hZ hown (ww 22 rfl) e46 F48 (bb d11_224) (fun T47 X47 e47 => ?_)
      refine g_iadd X47 hx (bb d11_227) ?_
      refine g_istore X47 hx (bb d11_228) (l' := #[vR a1, vI 0, vI 1, vR at_, vI 0, vI eb0, vJ ((et0.toInt64) - (eb0.toInt64)), .second, vI (f_base (f_minI et0 el0) (f_maxI et0 eu0)), vR ov, vI 2]) rfl ?_
      refine g_goto X47 hx (pc' := 195) (bb d11_230) (by decide) (by decide) ?_
      refine g_iload X47 hx (bb d11_195) rfl ?_
      refine g_iloadN X47 hx (bb d11_197) rfl ?_
      refine g_aloadN X47 hx (bb d11_198) rfl rfl ?_
      refine gF X47 hx hZ hown (ww 22 rfl) e47 F48 (bb d11_199) (fun T49 X49 e49 => ?_)
      refine g_imul X49 hx (bb d11_202) ?_
      refine g_icmpYes X49 hx (pc' := 233) (bb d11_203) (flt (by decide : ¬ ((2 : Int32) < (2 : Int32)))).2.1 (by decide) (by decide) ?_
      refine g_aloadN X49 hx (bb d11_233) rfl rfl ?_
      have F51 := (F26.other W46 (Or.inl ne_a1_ov))
      refine gF X49 hx hZ hown (ww 24 rfl) e49 F51 (bb d11_234) (fun T50 X50 e50 => ?_)
      refine g_iloadN X50 hx (bb d11_237) rfl ?_
      refine g_aloadN X50 hx (bb d11_238) rfl rfl ?_
      refine gF X50 hx hZ hown (ww 22 rfl) e50 F48 (bb d11_239) (fun T52 X52 e52 => ?_)
      refine g_imul X52 hx (bb d11_242) ?_
      refine g_iload X52 hx (bb d11_243) rfl ?_
      refine g_iadd X52 hx (bb d11_245) ?_
      refine g_iload X52 hx (bb d11_246) rfl ?_
      have F53 := (F29.other W46 ne_ob_ov)
      refine gSi X52 hx hZ e52 F53 ⟨by decide, by decide⟩ 0 rfl (Nat.le_of_ble_eq_true rfl) N46 g_ob (bb d11_248) (fun T54 h54 X54 e54 W54 V54 N54 => ?_)
      have F55 := (V46.other W54 (Ne.symm ne_ob_ov))
      exact hm31 _ _ _ (vI (f_base (f_minI et0 el0) (f_maxI et0 eu0))) (vR ov) (vI 2) X54 e54 N54 (((Keep.refl h24 [ob, ov]).wr W46 (Or.inl (List.mem_of_getElem? (i := 1) rfl))).wr W54 (Or.inl (List.mem_of_getElem? (i := 0) rfl))) (by simp only [nbase, if_pos g31]; exact V54) (by simp only [nbase, if_pos g31]; have q := F55; simp only [own_ch] at q; exact q) (One.val rfl) (One.val rfl) (One.val rfl)
    · skip
      refine g_lload X27 hx (bb d11_148) rfl ?_
      refine g_lconst X27 hx (bb d11_150) ?_
      refine g_lcmp X27 hx (bb d11_151) ?_
      refine g_ifNo X27 hx (bb d11_152) ((if0 _ _).trans (flt (fun q => g31 (Or.inl q))).1) ?_
      refine g_lload X27 hx (bb d11_155) rfl ?_
      refine gJ X27 hx hZ hown (ww 78 rfl) (bb d11_157) ?_
      refine g_lcmp X27 hx (bb d11_160) ?_
      refine g_ifYes X27 hx (pc' := 249) (bb d11_161) ((if0 _ _).trans (tlt (Decidable.of_not_not fun q => g31 (Or.inr q))).1) (by decide) (by decide) ?_
      have F56 := ((r15.other W16 (Ne.symm ne_ol_ov)).other W24 (Ne.symm ne_oh_ov))
      exact hm31 _ _ _ (.unset) (.unset) (.unset) X27 e27 N24 (Keep.refl h24 [ob, ov]) (by simp only [nbase, if_neg g31]; exact F29) (by simp only [nbase, if_neg g31]; have q := F56; exact q) One.u One.u One.u
  intro T31 L31 h31 s8_31 s9_31 s10_31 X31 e31 N31 K31 f31_0 f31_1 o_s8_31 o_s9_31 o_s10_31
  refine g_iinc X31 hx (bb d11_249) rfl (l' := #[vR a1, vI 0, vI 1, vR at_, vI 1, vI eb0, vJ ((et0.toInt64) - (eb0.toInt64)), .second, s8_31, s9_31, s10_31]) rfl ?_
  refine g_goto X31 hx (pc' := 70) (bb d11_252) (by decide) (by decide) ?_
  refine g_iload X31 hx (bb d11_70) rfl ?_
  refine g_aloadN X31 hx (bb d11_72) rfl rfl ?_
  have F58 := (F28.keep K31 (ninS ne_a1_ob (ninS ne_a1_ov nin0)))
  refine gF X31 hx hZ hown (ww 22 rfl) e31 F58 (bb d11_73) (fun T57 X57 e57 => ?_)
  refine g_icmpNo X57 hx (bb d11_76) (tlt (by decide : (1 : Int32) < (2 : Int32))).2.1 ?_
  refine g_aloadN X57 hx (bb d11_79) rfl rfl ?_
  have F60 := (((r6.other W16 (Or.inl ne_a1_ol)).other W24 (Or.inl ne_a1_oh)).keep K31 (ninS ne_a1_ob (ninS ne_a1_ov nin0)))
  refine gF X57 hx hZ hown (ww 26 rfl) e57 F60 (bb d11_80) (fun T59 X59 e59 => ?_)
  refine g_iload X59 hx (bb d11_83) rfl ?_
  refine g_aloadN X59 hx (bb d11_85) rfl rfl ?_
  refine g_iload X59 hx (bb d11_86) rfl ?_
  have F61 := (F30.keep K31 (ninS ne_at__ob (ninS ne_at__ov nin0)))
  refine gLi X59 hx hZ e59 F61 (v := (.int et1)) ⟨by decide, by decide⟩ rfl (bb d11_88) ?_
  refine g_aloadN X59 hx (bb d11_89) rfl rfl ?_
  refine gF X59 hx hZ hown (ww 26 rfl) e59 F60 (bb d11_90) (fun T62 X62 e62 => ?_)
  refine g_iload X62 hx (bb d11_93) rfl ?_
  have F63 := ((V16.other W24 ne_ol_oh).keep K31 (ninS (Ne.symm ne_ob_ol) (ninS ne_ol_ov nin0)))
  refine gLi X62 hx hZ e62 F63 (v := (.int el1)) ⟨by decide, by decide⟩ rfl (bb d11_95) ?_
  have O65 := ((O23.wr W24 g_oh).keep K31 (allS g_ob (allS g_ov all0)))
  refine gcS X62 hx hZ hml hown (ww 68 rfl) (ww 58 rfl) (ww 70 rfl) (ww 69 rfl) e62 (rm_minI l Z a0 ww [] et1 el1 h31 n0 (own_z0 O65) O65 S_CS) pd__II_I_5 (bb d11_96) 2 rfl (fun T64 L64 v64 X64 hQ64 => ?_)
  obtain ⟨rfl, N64q, e64⟩ := hQ64
  have N64 := Fr.app N31 N64q
  refine gSi X64 hx hZ e64 F63 ⟨by decide, by decide⟩ 1 rfl (Nat.le_of_ble_eq_true rfl) N64 g_ol (bb d11_99) (fun T66 h66 X66 e66 W66 V66 N66 => ?_)
  refine g_aloadN X66 hx (bb d11_100) rfl rfl ?_
  have F68 := (((F18.other W24 (Or.inl ne_a1_oh)).keep K31 (ninS ne_a1_ob (ninS ne_a1_ov nin0))).other W66 (Or.inl ne_a1_ol))
  refine gF X66 hx hZ hown (ww 28 rfl) e66 F68 (bb d11_101) (fun T67 X67 e67 => ?_)
  refine g_iload X67 hx (bb d11_104) rfl ?_
  refine g_aloadN X67 hx (bb d11_106) rfl rfl ?_
  refine g_iload X67 hx (bb d11_107) rfl ?_
  have F69 := (F61.other W66 ne_at__ol)
  refine gLi X67 hx hZ e67 F69 (v := (.int et1)) ⟨by decide, by decide⟩ rfl (bb d11_109) ?_
  refine g_aloadN X67 hx (bb d11_110) rfl rfl ?_
  refine gF X67 hx hZ hown (ww 28 rfl) e67 F68 (bb d11_111) (fun T70 X70 e70 => ?_)
  refine g_iload X70 hx (bb d11_114) rfl ?_
  have F71 := ((V24.keep K31 (ninS (Ne.symm ne_ob_oh) (ninS ne_oh_ov nin0))).other W66 (Ne.symm ne_ol_oh))
  refine gLi X70 hx hZ e70 F71 (v := (.int eu1)) ⟨by decide, by decide⟩ rfl (bb d11_116) ?_
  have O73 := (O65.wr W66 g_ol)
  refine gcS X70 hx hZ hml hown (ww 75 rfl) (ww 58 rfl) (ww 77 rfl) (ww 76 rfl) e70 (rm_maxI l Z a0 ww [] et1 eu1 h66 n0 (own_z0 O73) O73 S_CS) pd__II_I_5 (bb d11_117) 2 rfl (fun T72 L72 v72 X72 hQ72 => ?_)
  obtain ⟨rfl, N72q, e72⟩ := hQ72
  have N72 := Fr.app N66 N72q
  refine gSi X72 hx hZ e72 F71 ⟨by decide, by decide⟩ 1 rfl (Nat.le_of_ble_eq_true rfl) N72 g_oh (bb d11_120) (fun T74 h74 X74 e74 W74 V74 N74 => ?_)
  refine g_aloadN X74 hx (bb d11_121) rfl rfl ?_
  have F76 := (((F26.keep K31 (ninS ne_a1_ob (ninS ne_a1_ov nin0))).other W66 (Or.inl ne_a1_ol)).other W74 (Or.inl ne_a1_oh))
  refine gF X74 hx hZ hown (ww 24 rfl) e74 F76 (bb d11_122) (fun T75 X75 e75 => ?_)
  refine g_iloadN X75 hx (bb d11_125) rfl ?_
  refine g_aloadN X75 hx (bb d11_126) rfl rfl ?_
  have F78 := ((F58.other W66 (Or.inl ne_a1_ol)).other W74 (Or.inl ne_a1_oh))
  refine gF X75 hx hZ hown (ww 22 rfl) e75 F78 (bb d11_127) (fun T77 X77 e77 => ?_)
  refine g_imul X77 hx (bb d11_130) ?_
  refine g_iload X77 hx (bb d11_131) rfl ?_
  refine g_iadd X77 hx (bb d11_133) ?_
  have F79 := ((f31_0.other W66 ne_ob_ol).other W74 ne_ob_oh)
  refine gLi X77 hx hZ e77 F79 (v := (.int eb1)) ⟨by decide, by decide⟩ rfl (bb d11_134) ?_
  refine g_istore X77 hx (bb d11_135) (l' := #[vR a1, vI 0, vI 1, vR at_, vI 1, vI eb1, vJ ((et0.toInt64) - (eb0.toInt64)), .second, s8_31, s9_31, s10_31]) rfl ?_
  refine g_aloadN X77 hx (bb d11_137) rfl rfl ?_
  refine g_iload X77 hx (bb d11_138) rfl ?_
  have F80 := (F69.other W74 ne_at__oh)
  refine gLi X77 hx hZ e77 F80 (v := (.int et1)) ⟨by decide, by decide⟩ rfl (bb d11_140) ?_
  refine g_i2l X77 hx (bb d11_141) ?_
  refine g_iload X77 hx (bb d11_142) rfl ?_
  refine g_i2l X77 hx (bb d11_144) ?_
  refine g_lsub X77 hx (bb d11_145) ?_
  refine g_lstore X77 hx (bb d11_146) (l' := #[vR a1, vI 0, vI 1, vR at_, vI 1, vI eb1, vJ ((et1.toInt64) - (eb1.toInt64)), .second, s8_31, s9_31, s10_31]) rfl ?_
  suffices hm81 : ∀ (T' : State) (L' : List Loc) (h' : Heap) (s8_81 : Slot) (s9_81 : Slot) (s10_81 : Slot), Stand p l e ({ frames := 2, cells := 0, slots := 0, locals := 30 } : Room) s m #[(.ref a1), (.int 0), (.int 1), (.ref at_)] below meth c T' L' 0 0 → T'.heap = h' → Fr n0 L' → Keep h74 h' [ob, ov] → Arv Z h' ob kb_ .int (2 : Int32) [(.int (nbase eb0 el0 eu0 et0)), (.int (nbase eb1 el1 eu1 et1))] (.int 0) → Arv Z h' ov kv_ .char (16 : Int32) [(.int (nar .char (ev0_0 - (nbase eb0 el0 eu0 et0)))), (.int (nar .char (ev0_1 - (nbase eb1 el1 eu1 et1)))), (.int ex2), (.int ex3), (.int ex4), (.int ex5), (.int ex6), (.int ex7), (.int ex8), (.int ex9), (.int ex10), (.int ex11), (.int ex12), (.int ex13), (.int ex14), (.int ex15)] (.int 0) → One s8_81 → One s9_81 → One s10_81 → Gl p e below R0 T' (mkF m 249 #[vR a1, vI 0, vI 1, vR at_, vI 1, vI eb1, vJ ((et1.toInt64) - (eb1.toInt64)), .second, s8_81, s9_81, s10_81] []) by
    by_cases g81 : ((lcmpW ((et1.toInt64) - (eb1.toInt64)) (0 : Int64)) < (0 : Int32)) ∨ ¬ ((lcmpW ((et1.toInt64) - (eb1.toInt64)) (65536 : Int64)) < (0 : Int32))
    · skip
      suffices hm82 : ∀ (T' : State) (L' : List Loc), Stand p l e ({ frames := 2, cells := 0, slots := 0, locals := 30 } : Room) s m #[(.ref a1), (.int 0), (.int 1), (.ref at_)] below meth c T' L' 0 0 → T'.heap = h74 → Fr n0 L' → Gl p e below R0 T' (mkF m 164 #[vR a1, vI 0, vI 1, vR at_, vI 1, vI eb1, vJ ((et1.toInt64) - (eb1.toInt64)), .second, s8_31, s9_31, s10_31] []) by
        refine g_lload X77 hx (bb d11_148) rfl ?_
        refine g_lconst X77 hx (bb d11_150) ?_
        refine g_lcmp X77 hx (bb d11_151) ?_
        by_cases g83 : (lcmpW ((et1.toInt64) - (eb1.toInt64)) (0 : Int64)) < (0 : Int32)
        · skip
          refine g_ifYes X77 hx (pc' := 164) (bb d11_152) ((if0 _ _).trans (tlt g83).1) (by decide) (by decide) ?_
          have q := hm82 _ _ X77 e77 N74
          exact q
        · skip
          refine g_ifNo X77 hx (bb d11_152) ((if0 _ _).trans (flt g83).1) ?_
          refine g_lload X77 hx (bb d11_155) rfl ?_
          refine gJ X77 hx hZ hown (ww 78 rfl) (bb d11_157) ?_
          refine g_lcmp X77 hx (bb d11_160) ?_
          refine g_ifNo X77 hx (bb d11_161) ((if0 _ _).trans (flt (g81.resolve_left g83)).1) ?_
          have q := hm82 _ _ X77 e77 N74
          exact q
      intro T82 L82 X82 e82 N82
      refine g_aloadN X82 hx (bb d11_164) rfl rfl ?_
      have F85 := ((F60.other W66 (Or.inl ne_a1_ol)).other W74 (Or.inl ne_a1_oh))
      refine gF X82 hx hZ hown (ww 26 rfl) e82 F85 (bb d11_165) (fun T84 X84 e84 => ?_)
      refine g_iload X84 hx (bb d11_168) rfl ?_
      have F86 := (V66.other W74 ne_ol_oh)
      refine gLi X84 hx hZ e84 F86 (v := (.int (f_minI et1 el1))) ⟨by decide, by decide⟩ rfl (bb d11_170) ?_
      refine g_aloadN X84 hx (bb d11_171) rfl rfl ?_
      have F88 := (F68.other W74 (Or.inl ne_a1_oh))
      refine gF X84 hx hZ hown (ww 28 rfl) e84 F88 (bb d11_172) (fun T87 X87 e87 => ?_)
      refine g_iload X87 hx (bb d11_175) rfl ?_
      refine gLi X87 hx hZ e87 V74 (v := (.int (f_maxI et1 eu1))) ⟨by decide, by decide⟩ rfl (bb d11_177) ?_
      have O90 := (O73.wr W74 g_oh)
      refine gcS X87 hx hZ hml hown (ww 50 rfl) (ww 7 rfl) (ww 52 rfl) (ww 51 rfl) e87 (rm_base l Z a0 ww [] (f_minI et1 el1) (f_maxI et1 eu1) h74 n0 (own_z0 O90) O90 S_CS) pd__II_I_5 (bb d11_178) 0 rfl (fun T89 L89 v89 X89 hQ89 => ?_)
      obtain ⟨rfl, N89q, e89⟩ := hQ89
      have N89 := Fr.app N82 N89q
      refine g_istoreS X89 hx (bb d11_181) rfl o_s8_31 ?_
      refine g_aloadN X89 hx (bb d11_183) rfl rfl ?_
      have F92 := (((((r4.other W16 (Or.inl ne_a1_ol)).other W24 (Or.inl ne_a1_oh)).keep K31 (ninS ne_a1_ob (ninS ne_a1_ov nin0))).other W66 (Or.inl ne_a1_ol)).other W74 (Or.inl ne_a1_oh))
      refine gF X89 hx hZ hown (ww 20 rfl) e89 F92 (bb d11_184) (fun T91 X91 e91 => ?_)
      refine g_iloadN X91 hx (bb d11_187) rfl ?_
      have F93 := (((((r10.other W16 ne_on_ol).other W24 ne_on_oh).keep K31 (ninS ne_on_ob (ninS ne_on_ov nin0))).other W66 ne_on_ol).other W74 ne_on_oh)
      refine gLr rfl X91 hx hZ e91 F93 (v := (.ref ov)) ⟨by decide, by decide⟩ rfl (bb d11_188) ?_
      refine g_astoreS X91 hx (bb d11_189) rfl rfl rfl o_s9_31 ?_
      refine g_iload X91 hx (bb d11_191) rfl ?_
      refine g_istoreS X91 hx (bb d11_193) rfl o_s10_31 ?_
      refine g_iload X91 hx (bb d11_195) rfl ?_
      refine g_iloadN X91 hx (bb d11_197) rfl ?_
      refine g_aloadN X91 hx (bb d11_198) rfl rfl ?_
      refine gF X91 hx hZ hown (ww 22 rfl) e91 F78 (bb d11_199) (fun T94 X94 e94 => ?_)
      refine g_imul X94 hx (bb d11_202) ?_
      refine g_icmpNo X94 hx (bb d11_203) (tlt (by decide : (1 : Int32) < (2 : Int32))).2.1 ?_
      refine g_aload X94 hx (bb d11_206) rfl rfl ?_
      refine g_iload X94 hx (bb d11_208) rfl ?_
      refine g_dup2 X94 hx (bb d11_210) rfl rfl ?_
      have F95 := ((f31_1.other W66 (Ne.symm ne_ol_ov)).other W74 (Ne.symm ne_oh_ov))
      refine gLc X94 hx hZ e94 F95 (v := (.int (nar .char (ev0_1 - eb1)))) ⟨by decide, by decide⟩ rfl (bb d11_211) ?_
      refine g_iload X94 hx (bb d11_212) rfl ?_
      refine g_iload X94 hx (bb d11_214) rfl ?_
      refine g_isub X94 hx (bb d11_216) ?_
      refine g_i2c X94 hx (bb d11_217) ?_
      refine g_iadd X94 hx (bb d11_218) ?_
      refine g_i2c X94 hx (bb d11_219) ?_
      refine gSc X94 hx hZ e94 F95 ⟨by decide, by decide⟩ 1 rfl (Nat.le_of_ble_eq_true rfl) N89 g_ov (bb d11_220) (fun T96 h96 X96 e96 W96 V96 N96 => ?_)
      refine g_iload X96 hx (bb d11_221) rfl ?_
      refine g_aloadN X96 hx (bb d11_223) rfl rfl ?_
      have F98 := (F78.other W96 (Or.inl ne_a1_ov))
      refine gF X96 hx hZ hown (ww 22 rfl) e96 F98 (bb d11_224) (fun T97 X97 e97 => ?_)
      refine g_iadd X97 hx (bb d11_227) ?_
      refine g_istore X97 hx (bb d11_228) (l' := #[vR a1, vI 0, vI 1, vR at_, vI 1, vI eb1, vJ ((et1.toInt64) - (eb1.toInt64)), .second, vI (f_base (f_minI et1 el1) (f_maxI et1 eu1)), vR ov, vI 3]) rfl ?_
      refine g_goto X97 hx (pc' := 195) (bb d11_230) (by decide) (by decide) ?_
      refine g_iload X97 hx (bb d11_195) rfl ?_
      refine g_iloadN X97 hx (bb d11_197) rfl ?_
      refine g_aloadN X97 hx (bb d11_198) rfl rfl ?_
      refine gF X97 hx hZ hown (ww 22 rfl) e97 F98 (bb d11_199) (fun T99 X99 e99 => ?_)
      refine g_imul X99 hx (bb d11_202) ?_
      refine g_icmpYes X99 hx (pc' := 233) (bb d11_203) (flt (by decide : ¬ ((3 : Int32) < (2 : Int32)))).2.1 (by decide) (by decide) ?_
      refine g_aloadN X99 hx (bb d11_233) rfl rfl ?_
      have F101 := (F76.other W96 (Or.inl ne_a1_ov))
      refine gF X99 hx hZ hown (ww 24 rfl) e99 F101 (bb d11_234) (fun T100 X100 e100 => ?_)
      refine g_iloadN X100 hx (bb d11_237) rfl ?_
      refine g_aloadN X100 hx (bb d11_238) rfl rfl ?_
      refine gF X100 hx hZ hown (ww 22 rfl) e100 F98 (bb d11_239) (fun T102 X102 e102 => ?_)
      refine g_imul X102 hx (bb d11_242) ?_
      refine g_iload X102 hx (bb d11_243) rfl ?_
      refine g_iadd X102 hx (bb d11_245) ?_
      refine g_iload X102 hx (bb d11_246) rfl ?_
      have F103 := (F79.other W96 ne_ob_ov)
      refine gSi X102 hx hZ e102 F103 ⟨by decide, by decide⟩ 1 rfl (Nat.le_of_ble_eq_true rfl) N96 g_ob (bb d11_248) (fun T104 h104 X104 e104 W104 V104 N104 => ?_)
      have F105 := (V96.other W104 (Ne.symm ne_ob_ov))
      exact hm81 _ _ _ (vI (f_base (f_minI et1 el1) (f_maxI et1 eu1))) (vR ov) (vI 3) X104 e104 N104 (((Keep.refl h74 [ob, ov]).wr W96 (Or.inl (List.mem_of_getElem? (i := 1) rfl))).wr W104 (Or.inl (List.mem_of_getElem? (i := 0) rfl))) (by simp only [nbase, if_pos g81]; exact V104) (by simp only [nbase, if_pos g81]; have q := F105; simp only [own_ch] at q; exact q) (One.val rfl) (One.val rfl) (One.val rfl)
    · skip
      refine g_lload X77 hx (bb d11_148) rfl ?_
      refine g_lconst X77 hx (bb d11_150) ?_
      refine g_lcmp X77 hx (bb d11_151) ?_
      refine g_ifNo X77 hx (bb d11_152) ((if0 _ _).trans (flt (fun q => g81 (Or.inl q))).1) ?_
      refine g_lload X77 hx (bb d11_155) rfl ?_
      refine gJ X77 hx hZ hown (ww 78 rfl) (bb d11_157) ?_
      refine g_lcmp X77 hx (bb d11_160) ?_
      refine g_ifYes X77 hx (pc' := 249) (bb d11_161) ((if0 _ _).trans (tlt (Decidable.of_not_not fun q => g81 (Or.inr q))).1) (by decide) (by decide) ?_
      have F106 := ((f31_1.other W66 (Ne.symm ne_ol_ov)).other W74 (Ne.symm ne_oh_ov))
      exact hm81 _ _ _ (s8_31) (s9_31) (s10_31) X77 e77 N74 (Keep.refl h74 [ob, ov]) (by simp only [nbase, if_neg g81]; exact F79) (by simp only [nbase, if_neg g81]; have q := F106; exact q) o_s8_31 o_s9_31 o_s10_31
  intro T81 L81 h81 s8_81 s9_81 s10_81 X81 e81 N81 K81 f81_0 f81_1 o_s8_81 o_s9_81 o_s10_81
  refine g_iinc X81 hx (bb d11_249) rfl (l' := #[vR a1, vI 0, vI 1, vR at_, vI 2, vI eb1, vJ ((et1.toInt64) - (eb1.toInt64)), .second, s8_81, s9_81, s10_81]) rfl ?_
  refine g_goto X81 hx (pc' := 70) (bb d11_252) (by decide) (by decide) ?_
  refine g_iload X81 hx (bb d11_70) rfl ?_
  refine g_aloadN X81 hx (bb d11_72) rfl rfl ?_
  have F108 := (F78.keep K81 (ninS ne_a1_ob (ninS ne_a1_ov nin0)))
  refine gF X81 hx hZ hown (ww 22 rfl) e81 F108 (bb d11_73) (fun T107 X107 e107 => ?_)
  refine g_icmpYes X107 hx (pc' := 255) (bb d11_76) (flt (by decide : ¬ ((2 : Int32) < (2 : Int32)))).2.1 (by decide) (by decide) ?_
  have F109 := ((V66.other W74 ne_ol_oh).keep K81 (ninS (Ne.symm ne_ob_ol) (ninS ne_ol_ov nin0)))
  have F110 := (V74.keep K81 (ninS (Ne.symm ne_ob_oh) (ninS ne_oh_ov nin0)))
  obtain ⟨fs, hr, hrun, hended, hW, hsame⟩ := X107.leave (v := none) (fun _ => rfl)
  subst hR0
  refine ⟨_, _, ?_, hrun, hended, _, _, rfl, ?_, ⟨_, rfl⟩, hW, hsame.mono (by decide) (by decide)⟩
  · exact X107.returnOut hx hret (bb d11_255) hr
  · show Q_fit2_1 Z a1 at_ ow on ob ol oh ov kw_ kn_ kb_ kl_ kh_ kv_ eb0 eb1 el0 el1 eu0 eu1 ev0_0 ev0_1 ex2 ex3 ex4 ex5 ex6 ex7 ex8 ex9 ex10 ex11 ex12 ex13 ex14 ex15 kt_ et0 et1 h0 n0 _ T107.heap _
    rw [e107]
    exact ⟨rfl, N81, (((((((Keep.refl h0 [ob, ol, oh, ov]).wr W16 (Or.inl (List.mem_of_getElem? (i := 1) rfl))).wr W24 (Or.inl (List.mem_of_getElem? (i := 2) rfl))).trans K31 (allS (Or.inl (List.mem_of_getElem? (i := 0) rfl)) (allS (Or.inl (List.mem_of_getElem? (i := 3) rfl)) all0))).wr W66 (Or.inl (List.mem_of_getElem? (i := 1) rfl))).wr W74 (Or.inl (List.mem_of_getElem? (i := 2) rfl))).trans K81 (allS (Or.inl (List.mem_of_getElem? (i := 0) rfl)) (allS (Or.inl (List.mem_of_getElem? (i := 3) rfl)) all0))), F109, F110, f81_0, f81_1⟩
def Q_fit2_2 (Z : State) (a1 at_ ow on ob ol oh ov : Addr) (kw_ kn_ kb_ kl_ kh_ kv_ : ClassId) (eb0 eb1 el0 el1 eu0 eu1 ev0_0 ev0_1 ev1_0 ev1_1 ex4 ex5 ex6 ex7 ex8 ex9 ex10 ex11 ex12 ex13 ex14 ex15 : Int32) (kt_ : ClassId) (et0 et1 : Int32) (h0 : Heap) (n0 : Nat) (v : Option Value) (h : Heap) (L : List Loc) : Prop := v = none ∧ Fr n0 L ∧ Keep h0 h [ob, ol, oh, ov] ∧ Arv Z h ol kl_ .int (2 : Int32) [(.int (f_minI et0 el0)), (.int (f_minI et1 el1))] (.int 0) ∧ Arv Z h oh kh_ .int (2 : Int32) [(.int (f_maxI et0 eu0)), (.int (f_maxI et1 eu1))] (.int 0) ∧ Arv Z h ob kb_ .int (2 : Int32) [(.int (nbase eb0 el0 eu0 et0)), (.int (nbase eb1 el1 eu1 et1))] (.int 0) ∧ Arv Z h ov kv_ .char (16 : Int32) [(.int (nar .char (ev0_0 - (nbase eb0 el0 eu0 et0)))), (.int (nar .char (ev0_1 - (nbase eb1 el1 eu1 et1)))), (.int (nar .char (ev1_0 - (nbase eb0 el0 eu0 et0)))), (.int (nar .char (ev1_1 - (nbase eb1 el1 eu1 et1)))), (.int ex4), (.int ex5), (.int ex6), (.int ex7), (.int ex8), (.int ex9), (.int ex10), (.int ex11), (.int ex12), (.int ex13), (.int ex14), (.int ex15)] (.int 0)
set_option maxRecDepth 65536 in
set_option maxHeartbeats 40000000 in
theorem rm_fit2_2 (l : Launch) (Z : State) (a0 : Array Value) (ww : WW a0 Z) (ws : List Jvm.Cond) (a1 at_ ow on ob ol oh ov : Addr) (kw_ kn_ kb_ kl_ kh_ kv_ : ClassId) (eb0 eb1 el0 el1 eu0 eu1 ev0_0 ev0_1 ev1_0 ev1_1 ex4 ex5 ex6 ex7 ex8 ex9 ex10 ex11 ex12 ex13 ex14 ex15 : Int32) (kt_ : ClassId) (et0 et1 : Int32) (h0 : Heap) (n0 : Nat) (Z0 : n0 ≤ h0.size) (O0 : Old Z n0 h0) (S_CS : Sta Z Z.heap cRV "CHUNK_SHIFT" "I" (.int (12 : Int32))) (r0 : Exa Z h0 a1 cRV) (r1 : Fld Z h0 a1 cRV "arity" "I" (.int 2)) (r2 : Fld Z h0 a1 cRV "rows" "I" (.int 2)) (r3 : Fld Z h0 a1 cRV "wide" "[[I" (.ref ow)) (r4 : Fld Z h0 a1 cRV "narrow" "[[C" (.ref on)) (r5 : Fld Z h0 a1 cRV "bases" "[I" (.ref ob)) (r6 : Fld Z h0 a1 cRV "lowest" "[I" (.ref ol)) (r7 : Fld Z h0 a1 cRV "highest" "[I" (.ref oh)) (r8 : Arv Z h0 ow kw_ (.array .int) (1 : Int32) [.null] .null) (r9 : OvrA Z kw_ .int "[I") (r10 : Arv Z h0 on kn_ (.array .char) (1 : Int32) [(.ref ov)] .null) (r11 : OvrA Z kn_ .char "[C") (r12 : Arv Z h0 ob kb_ .int (2 : Int32) [(.int eb0), (.int eb1)] (.int 0)) (r13 : Arv Z h0 ol kl_ .int (2 : Int32) [(.int el0), (.int el1)] (.int 0)) (r14 : Arv Z h0 oh kh_ .int (2 : Int32) [(.int eu0), (.int eu1)] (.int 0)) (r15 : Arv Z h0 ov kv_ .char (16 : Int32) [(.int (nar .char (ev0_0 - eb0))), (.int (nar .char (ev0_1 - eb1))), (.int (nar .char (ev1_0 - eb0))), (.int (nar .char (ev1_1 - eb1))), (.int ex4), (.int ex5), (.int ex6), (.int ex7), (.int ex8), (.int ex9), (.int ex10), (.int ex11), (.int ex12), (.int ex13), (.int ex14), (.int ex15)] (.int 0)) (r16 : Arv Z h0 at_ kt_ .int (2 : Int32) [(.int et0), (.int et1)] (.int 0)) (g_ob : n0 ≤ ob) (g_ol : n0 ≤ ol) (g_oh : n0 ≤ oh) (g_ov : n0 ≤ ov) (ne_a1_ow : a1 ≠ ow) (ne_a1_on : a1 ≠ on) (ne_a1_ob : a1 ≠ ob) (ne_a1_ol : a1 ≠ ol) (ne_a1_oh : a1 ≠ oh) (ne_a1_ov : a1 ≠ ov) (ne_ow_on : ow ≠ on) (ne_ow_ob : ow ≠ ob) (ne_ow_ol : ow ≠ ol) (ne_ow_oh : ow ≠ oh) (ne_ow_ov : ow ≠ ov) (ne_on_ob : on ≠ ob) (ne_on_ol : on ≠ ol) (ne_on_oh : on ≠ oh) (ne_on_ov : on ≠ ov) (ne_ob_ol : ob ≠ ol) (ne_ob_oh : ob ≠ oh) (ne_ob_ov : ob ≠ ov) (ne_ol_oh : ol ≠ oh) (ne_ol_ov : ol ≠ ov) (ne_oh_ov : oh ≠ ov) (ne_at__a1 : at_ ≠ a1) (ne_at__ow : at_ ≠ ow) (ne_at__on : at_ ≠ on) (ne_at__ob : at_ ≠ ob) (ne_at__ol : at_ ≠ ol) (ne_at__oh : at_ ≠ oh) (ne_at__ov : at_ ≠ ov) (hs0 : (lcmpW (((f_maxI et0 eu0).toInt64) - ((f_minI et0 el0).toInt64)) (65536 : Int64)) < (0 : Int32)) (hs1 : (lcmpW (((f_maxI et1 eu1).toInt64) - ((f_minI et1 el1).toInt64)) (65536 : Int64)) < (0 : Int32)) :
    MF l Z (⟨cRV, "fit", "(II[I)V"⟩ : MethodName) prog_47_method_7_code 11 none ws ({ frames := 2, cells := 0, slots := 0, locals := 30 } : Room) #[(.ref a1), (.int 0), (.int 2), (.ref at_)] h0 (Q_fit2_2 Z a1 at_ ow on ob ol oh ov kw_ kn_ kb_ kl_ kh_ kv_ eb0 eb1 el0 el1 eu0 eu1 ev0_0 ev0_1 ev1_0 ev1_1 ex4 ex5 ex6 ex7 ex8 ex9 ex10 ex11 ex12 ex13 ex14 ex15 kt_ et0 et1 h0 n0) := by
  refine gopen (plainFor_of_name pn_RowValues) (fun m => ef_fit2_2 m a1 at_) (fun p e s m below meth c s₁ hlk hret hx bb hml hown hnm hZ X0 e0 R0 hR0 => ?_)
  have N0 := Fr.nil n0
  refine g_iconst X0 hx (bb d11_0) ?_
  refine g_istore X0 hx (bb d11_1) (l' := #[vR a1, vI 0, vI 2, vR at_, vI 0, .unset, .unset, .unset, .unset, .unset, .unset]) rfl ?_
  refine g_iload X0 hx (bb d11_3) rfl ?_
  refine g_aloadN X0 hx (bb d11_5) rfl rfl ?_
  refine gF X0 hx hZ hown (ww 22 rfl) e0 r1 (bb d11_6) (fun T1 X1 e1 => ?_)
  refine g_icmpNo X1 hx (bb d11_9) (tlt (by decide : (0 : Int32) < (2 : Int32))).2.1 ?_
  refine g_aloadN X1 hx (bb d11_12) rfl rfl ?_
  refine g_iload X1 hx (bb d11_13) rfl ?_
  refine gLi X1 hx hZ e1 r16 (v := (.int et0)) ⟨by decide, by decide⟩ rfl (bb d11_15) ?_
  refine g_aloadN X1 hx (bb d11_16) rfl rfl ?_
  refine gF X1 hx hZ hown (ww 28 rfl) e1 r7 (bb d11_17) (fun T2 X2 e2 => ?_)
  refine g_iload X2 hx (bb d11_20) rfl ?_
  refine gLi X2 hx hZ e2 r14 (v := (.int eu0)) ⟨by decide, by decide⟩ rfl (bb d11_22) ?_
  refine gcS X2 hx hZ hml hown (ww 75 rfl) (ww 58 rfl) (ww 77 rfl) (ww 76 rfl) e2 (rm_maxI l Z a0 ww [] et0 eu0 h0 n0 (own_z0 O0) O0 S_CS) pd__II_I_5 (bb d11_23) 0 rfl (fun T3 L3 v3 X3 hQ3 => ?_)
  obtain ⟨rfl, N3q, e3⟩ := hQ3
  have N3 := Fr.app N0 N3q
  refine g_i2l X3 hx (bb d11_26) ?_
  refine g_aloadN X3 hx (bb d11_27) rfl rfl ?_
  refine g_iload X3 hx (bb d11_28) rfl ?_
  refine gLi X3 hx hZ e3 r16 (v := (.int et0)) ⟨by decide, by decide⟩ rfl (bb d11_30) ?_
  refine g_aloadN X3 hx (bb d11_31) rfl rfl ?_
  refine gF X3 hx hZ hown (ww 26 rfl) e3 r6 (bb d11_32) (fun T4 X4 e4 => ?_)
  refine g_iload X4 hx (bb d11_35) rfl ?_
  refine gLi X4 hx hZ e4 r13 (v := (.int el0)) ⟨by decide, by decide⟩ rfl (bb d11_37) ?_
  refine gcS X4 hx hZ hml hown (ww 68 rfl) (ww 58 rfl) (ww 70 rfl) (ww 69 rfl) e4 (rm_minI l Z a0 ww [] et0 el0 h0 n0 (own_z0 O0) O0 S_CS) pd__II_I_5 (bb d11_38) 2 rfl (fun T5 L5 v5 X5 hQ5 => ?_)
  obtain ⟨rfl, N5q, e5⟩ := hQ5
  have N5 := Fr.app N3 N5q
  refine g_i2l X5 hx (bb d11_41) ?_
  refine g_lsub X5 hx (bb d11_42) ?_
  refine g_lstore X5 hx (bb d11_43) (l' := #[vR a1, vI 0, vI 2, vR at_, vI 0, vJ (((f_maxI et0 eu0).toInt64) - ((f_minI et0 el0).toInt64)), .second, .unset, .unset, .unset, .unset]) rfl ?_
  refine g_lload X5 hx (bb d11_45) rfl ?_
  refine gJ X5 hx hZ hown (ww 78 rfl) (bb d11_47) ?_
  refine g_lcmp X5 hx (bb d11_50) ?_
  refine g_ifYes X5 hx (pc' := 61) (bb d11_51) ((if0 _ _).trans (tlt hs0).1) (by decide) (by decide) ?_
  refine g_iinc X5 hx (bb d11_61) rfl (l' := #[vR a1, vI 0, vI 2, vR at_, vI 1, vJ (((f_maxI et0 eu0).toInt64) - ((f_minI et0 el0).toInt64)), .second, .unset, .unset, .unset, .unset]) rfl ?_
  refine g_goto X5 hx (pc' := 3) (bb d11_64) (by decide) (by decide) ?_
  refine g_iload X5 hx (bb d11_3) rfl ?_
  refine g_aloadN X5 hx (bb d11_5) rfl rfl ?_
  refine gF X5 hx hZ hown (ww 22 rfl) e5 r1 (bb d11_6) (fun T6 X6 e6 => ?_)
  refine g_icmpNo X6 hx (bb d11_9) (tlt (by decide : (1 : Int32) < (2 : Int32))).2.1 ?_
  refine g_aloadN X6 hx (bb d11_12) rfl rfl ?_
  refine g_iload X6 hx (bb d11_13) rfl ?_
  refine gLi X6 hx hZ e6 r16 (v := (.int et1)) ⟨by decide, by decide⟩ rfl (bb d11_15) ?_
  refine g_aloadN X6 hx (bb d11_16) rfl rfl ?_
  refine gF X6 hx hZ hown (ww 28 rfl) e6 r7 (bb d11_17) (fun T7 X7 e7 => ?_)
  refine g_iload X7 hx (bb d11_20) rfl ?_
  refine gLi X7 hx hZ e7 r14 (v := (.int eu1)) ⟨by decide, by decide⟩ rfl (bb d11_22) ?_
  refine gcS X7 hx hZ hml hown (ww 75 rfl) (ww 58 rfl) (ww 77 rfl) (ww 76 rfl) e7 (rm_maxI l Z a0 ww [] et1 eu1 h0 n0 (own_z0 O0) O0 S_CS) pd__II_I_5 (bb d11_23) 0 rfl (fun T8 L8 v8 X8 hQ8 => ?_)
  obtain ⟨rfl, N8q, e8⟩ := hQ8
  have N8 := Fr.app N5 N8q
  refine g_i2l X8 hx (bb d11_26) ?_
  refine g_aloadN X8 hx (bb d11_27) rfl rfl ?_
  refine g_iload X8 hx (bb d11_28) rfl ?_
  refine gLi X8 hx hZ e8 r16 (v := (.int et1)) ⟨by decide, by decide⟩ rfl (bb d11_30) ?_
  refine g_aloadN X8 hx (bb d11_31) rfl rfl ?_
  refine gF X8 hx hZ hown (ww 26 rfl) e8 r6 (bb d11_32) (fun T9 X9 e9 => ?_)
  refine g_iload X9 hx (bb d11_35) rfl ?_
  refine gLi X9 hx hZ e9 r13 (v := (.int el1)) ⟨by decide, by decide⟩ rfl (bb d11_37) ?_
  refine gcS X9 hx hZ hml hown (ww 68 rfl) (ww 58 rfl) (ww 70 rfl) (ww 69 rfl) e9 (rm_minI l Z a0 ww [] et1 el1 h0 n0 (own_z0 O0) O0 S_CS) pd__II_I_5 (bb d11_38) 2 rfl (fun T10 L10 v10 X10 hQ10 => ?_)
  obtain ⟨rfl, N10q, e10⟩ := hQ10
  have N10 := Fr.app N8 N10q
  refine g_i2l X10 hx (bb d11_41) ?_
  refine g_lsub X10 hx (bb d11_42) ?_
  refine g_lstore X10 hx (bb d11_43) (l' := #[vR a1, vI 0, vI 2, vR at_, vI 1, vJ (((f_maxI et1 eu1).toInt64) - ((f_minI et1 el1).toInt64)), .second, .unset, .unset, .unset, .unset]) rfl ?_
  refine g_lload X10 hx (bb d11_45) rfl ?_
  refine gJ X10 hx hZ hown (ww 78 rfl) (bb d11_47) ?_
  refine g_lcmp X10 hx (bb d11_50) ?_
  refine g_ifYes X10 hx (pc' := 61) (bb d11_51) ((if0 _ _).trans (tlt hs1).1) (by decide) (by decide) ?_
  refine g_iinc X10 hx (bb d11_61) rfl (l' := #[vR a1, vI 0, vI 2, vR at_, vI 2, vJ (((f_maxI et1 eu1).toInt64) - ((f_minI et1 el1).toInt64)), .second, .unset, .unset, .unset, .unset]) rfl ?_
  refine g_goto X10 hx (pc' := 3) (bb d11_64) (by decide) (by decide) ?_
  refine g_iload X10 hx (bb d11_3) rfl ?_
  refine g_aloadN X10 hx (bb d11_5) rfl rfl ?_
  refine gF X10 hx hZ hown (ww 22 rfl) e10 r1 (bb d11_6) (fun T11 X11 e11 => ?_)
  refine g_icmpYes X11 hx (pc' := 67) (bb d11_9) (flt (by decide : ¬ ((2 : Int32) < (2 : Int32)))).2.1 (by decide) (by decide) ?_
  refine g_iconst X11 hx (bb d11_67) ?_
  refine g_istore X11 hx (bb d11_68) (l' := #[vR a1, vI 0, vI 2, vR at_, vI 0, vJ (((f_maxI et1 eu1).toInt64) - ((f_minI et1 el1).toInt64)), .second, .unset, .unset, .unset, .unset]) rfl ?_
  refine g_iload X11 hx (bb d11_70) rfl ?_
  refine g_aloadN X11 hx (bb d11_72) rfl rfl ?_
  refine gF X11 hx hZ hown (ww 22 rfl) e11 r1 (bb d11_73) (fun T12 X12 e12 => ?_)
  refine g_icmpNo X12 hx (bb d11_76) (tlt (by decide : (0 : Int32) < (2 : Int32))).2.1 ?_
  refine g_aloadN X12 hx (bb d11_79) rfl rfl ?_
  refine gF X12 hx hZ hown (ww 26 rfl) e12 r6 (bb d11_80) (fun T13 X13 e13 => ?_)
  refine g_iload X13 hx (bb d11_83) rfl ?_
  refine g_aloadN X13 hx (bb d11_85) rfl rfl ?_
  refine g_iload X13 hx (bb d11_86) rfl ?_
  refine gLi X13 hx hZ e13 r16 (v := (.int et0)) ⟨by decide, by decide⟩ rfl (bb d11_88) ?_
  refine g_aloadN X13 hx (bb d11_89) rfl rfl ?_
  refine gF X13 hx hZ hown (ww 26 rfl) e13 r6 (bb d11_90) (fun T14 X14 e14 => ?_)
  refine g_iload X14 hx (bb d11_93) rfl ?_
  refine gLi X14 hx hZ e14 r13 (v := (.int el0)) ⟨by decide, by decide⟩ rfl (bb d11_95) ?_
  refine gcS X14 hx hZ hml hown (ww 68 rfl) (ww 58 rfl) (ww 70 rfl) (ww 69 rfl) e14 (rm_minI l Z a0 ww [] et0 el0 h0 n0 (own_z0 O0) O0 S_CS) pd__II_I_5 (bb d11_96) 2 rfl (fun T15 L15 v15 X15 hQ15 => ?_)
  obtain ⟨rfl, N15q, e15⟩ := hQ15
  have N15 := Fr.app N10 N15q
  refine gSi X15 hx hZ e15 r13 ⟨by decide, by decide⟩ 0 rfl (Nat.le_of_ble_eq_true rfl) N15 g_ol (bb d11_99) (fun T16 h16 X16 e16 W16 V16 N16 => ?_)
  refine g_aloadN X16 hx (bb d11_100) rfl rfl ?_
  have F18 := (r7.other W16 (Or.inl ne_a1_ol))
  refine gF X16 hx hZ hown (ww 28 rfl) e16 F18 (bb d11_101) (fun T17 X17 e17 => ?_)
  refine g_iload X17 hx (bb d11_104) rfl ?_
  refine g_aloadN X17 hx (bb d11_106) rfl rfl ?_
  refine g_iload X17 hx (bb d11_107) rfl ?_
  have F19 := (r16.other W16 ne_at__ol)
  refine gLi X17 hx hZ e17 F19 (v := (.int et0)) ⟨by decide, by decide⟩ rfl (bb d11_109) ?_
  refine g_aloadN X17 hx (bb d11_110) rfl rfl ?_
  refine gF X17 hx hZ hown (ww 28 rfl) e17 F18 (bb d11_111) (fun T20 X20 e20 => ?_)
  refine g_iload X20 hx (bb d11_114) rfl ?_
  have F21 := (r14.other W16 (Ne.symm ne_ol_oh))
  refine gLi X20 hx hZ e20 F21 (v := (.int eu0)) ⟨by decide, by decide⟩ rfl (bb d11_116) ?_
  have O23 := (O0.wr W16 g_ol)
  refine gcS X20 hx hZ hml hown (ww 75 rfl) (ww 58 rfl) (ww 77 rfl) (ww 76 rfl) e20 (rm_maxI l Z a0 ww [] et0 eu0 h16 n0 (own_z0 O23) O23 S_CS) pd__II_I_5 (bb d11_117) 2 rfl (fun T22 L22 v22 X22 hQ22 => ?_)
  obtain ⟨rfl, N22q, e22⟩ := hQ22
  have N22 := Fr.app N16 N22q
  refine gSi X22 hx hZ e22 F21 ⟨by decide, by decide⟩ 0 rfl (Nat.le_of_ble_eq_true rfl) N22 g_oh (bb d11_120) (fun T24 h24 X24 e24 W24 V24 N24 => ?_)
  refine g_aloadN X24 hx (bb d11_121) rfl rfl ?_
  have F26 := ((r5.other W16 (Or.inl ne_a1_ol)).other W24 (Or.inl ne_a1_oh))
  refine gF X24 hx hZ hown (ww 24 rfl) e24 F26 (bb d11_122) (fun T25 X25 e25 => ?_)
  refine g_iloadN X25 hx (bb d11_125) rfl ?_
  refine g_aloadN X25 hx (bb d11_126) rfl rfl ?_
  have F28 := ((r1.other W16 (Or.inl ne_a1_ol)).other W24 (Or.inl ne_a1_oh))
  refine gF X25 hx hZ hown (ww 22 rfl) e25 F28 (bb d11_127) (fun T27 X27 e27 => ?_)
  refine g_imul X27 hx (bb d11_130) ?_
  refine g_iload X27 hx (bb d11_131) rfl ?_
  refine g_iadd X27 hx (bb d11_133) ?_
  have F29 := ((r12.other W16 ne_ob_ol).other W24 ne_ob_oh)
  refine gLi X27 hx hZ e27 F29 (v := (.int eb0)) ⟨by decide, by decide⟩ rfl (bb d11_134) ?_
  refine g_istore X27 hx (bb d11_135) (l' := #[vR a1, vI 0, vI 2, vR at_, vI 0, vI eb0, .unset, .unset, .unset, .unset, .unset]) rfl ?_
  refine g_aloadN X27 hx (bb d11_137) rfl rfl ?_
  refine g_iload X27 hx (bb d11_138) rfl ?_
  have F30 := (F19.other W24 ne_at__oh)
  refine gLi X27 hx hZ e27 F30 (v := (.int et0)) ⟨by decide, by decide⟩ rfl (bb d11_140) ?_
  refine g_i2l X27 hx (bb d11_141) ?_
  refine g_iload X27 hx (bb d11_142) rfl ?_
  refine g_i2l X27 hx (bb d11_144) ?_
  refine g_lsub X27 hx (bb d11_145) ?_
  refine g_lstore X27 hx (bb d11_146) (l' := #[vR a1, vI 0, vI 2, vR at_, vI 0, vI eb0, vJ ((et0.toInt64) - (eb0.toInt64)), .second, .unset, .unset, .unset]) rfl ?_
  suffices hm31 : ∀ (T' : State) (L' : List Loc) (h' : Heap) (s8_31 : Slot) (s9_31 : Slot) (s10_31 : Slot), Stand p l e ({ frames := 2, cells := 0, slots := 0, locals := 30 } : Room) s m #[(.ref a1), (.int 0), (.int 2), (.ref at_)] below meth c T' L' 0 0 → T'.heap = h' → Fr n0 L' → Keep h24 h' [ob, ov] → Arv Z h' ob kb_ .int (2 : Int32) [(.int (nbase eb0 el0 eu0 et0)), (.int eb1)] (.int 0) → Arv Z h' ov kv_ .char (16 : Int32) [(.int (nar .char (ev0_0 - (nbase eb0 el0 eu0 et0)))), (.int (nar .char (ev0_1 - eb1))), (.int (nar .char (ev1_0 - (nbase eb0 el0 eu0 et0)))), (.int (nar .char (ev1_1 - eb1))), (.int ex4), (.int ex5), (.int ex6), (.int ex7), (.int ex8), (.int ex9), (.int ex10), (.int ex11), (.int ex12), (.int ex13), (.int ex14), (.int ex15)] (.int 0) → One s8_31 → One s9_31 → One s10_31 → Gl p e below R0 T' (mkF m 249 #[vR a1, vI 0, vI 2, vR at_, vI 0, vI eb0, vJ ((et0.toInt64) - (eb0.toInt64)), .second, s8_31, s9_31, s10_31] []) by
    by_cases g31 : ((lcmpW ((et0.toInt64) - (eb0.toInt64)) (0 : Int64)) < (0 : Int32)) ∨ ¬ ((lcmpW ((et0.toInt64) - (eb0.toInt64)) (65536 : Int64)) < (0 : Int32))
    · skip
      suffices hm32 : ∀ (T' : State) (L' : List Loc), Stand p l e ({ frames := 2, cells := 0, slots := 0, locals := 30 } : Room) s m #[(.ref a1), (.int 0), (.int 2), (.ref at_)] below meth c T' L' 0 0 → T'.heap = h24 → Fr n0 L' → Gl p e below R0 T' (mkF m 164 #[vR a1, vI 0, vI 2, vR at_, vI 0, vI eb0, vJ ((et0.toInt64) - (eb0.toInt64)), .second, .unset, .unset, .unset] []) by
        refine g_lload X27 hx (bb d11_148) rfl ?_
        refine g_lconst X27 hx (bb d11_150) ?_
        refine g_lcmp X27 hx (bb d11_151) ?_
        by_cases g33 : (lcmpW ((et0.toInt64) - (eb0.toInt64)) (0 : Int64)) < (0 : Int32)
        · skip
          refine g_ifYes X27 hx (pc' := 164) (bb d11_152) ((if0 _ _).trans (tlt g33).1) (by decide) (by decide) ?_
          have q := hm32 _ _ X27 e27 N24
          exact q
        · skip
          refine g_ifNo X27 hx (bb d11_152) ((if0 _ _).trans (flt g33).1) ?_
          refine g_lload X27 hx (bb d11_155) rfl ?_
          refine gJ X27 hx hZ hown (ww 78 rfl) (bb d11_157) ?_
          refine g_lcmp X27 hx (bb d11_160) ?_
          refine g_ifNo X27 hx (bb d11_161) ((if0 _ _).trans (flt (g31.resolve_left g33)).1) ?_
          have q := hm32 _ _ X27 e27 N24
          exact q
      intro T32 L32 X32 e32 N32
      refine g_aloadN X32 hx (bb d11_164) rfl rfl ?_
      have F35 := ((r6.other W16 (Or.inl ne_a1_ol)).other W24 (Or.inl ne_a1_oh))
      refine gF X32 hx hZ hown (ww 26 rfl) e32 F35 (bb d11_165) (fun T34 X34 e34 => ?_)
      refine g_iload X34 hx (bb d11_168) rfl ?_
      have F36 := (V16.other W24 ne_ol_oh)
      refine gLi X34 hx hZ e34 F36 (v := (.int (f_minI et0 el0))) ⟨by decide, by decide⟩ rfl (bb d11_170) ?_
      refine g_aloadN X34 hx (bb d11_171) rfl rfl ?_
      have F38 := (F18.other W24 (Or.inl ne_a1_oh))
      refine gF X34 hx hZ hown (ww 28 rfl) e34 F38 (bb d11_172) (fun T37 X37 e37 => ?_)
      refine g_iload X37 hx (bb d11_175) rfl ?_
      refine gLi X37 hx hZ e37 V24 (v := (.int (f_maxI et0 eu0))) ⟨by decide, by decide⟩ rfl (bb d11_177) ?_
      have O40 := (O23.wr W24 g_oh)
      refine gcS X37 hx hZ hml hown (ww 50 rfl) (ww 7 rfl) (ww 52 rfl) (ww 51 rfl) e37 (rm_base l Z a0 ww [] (f_minI et0 el0) (f_maxI et0 eu0) h24 n0 (own_z0 O40) O40 S_CS) pd__II_I_5 (bb d11_178) 0 rfl (fun T39 L39 v39 X39 hQ39 => ?_)
      obtain ⟨rfl, N39q, e39⟩ := hQ39
      have N39 := Fr.app N32 N39q
      refine g_istore X39 hx (bb d11_181) (l' := #[vR a1, vI 0, vI 2, vR at_, vI 0, vI eb0, vJ ((et0.toInt64) - (eb0.toInt64)), .second, vI (f_base (f_minI et0 el0) (f_maxI et0 eu0)), .unset, .unset]) rfl ?_
      refine g_aloadN X39 hx (bb d11_183) rfl rfl ?_
      have F42 := ((r4.other W16 (Or.inl ne_a1_ol)).other W24 (Or.inl ne_a1_oh))
      refine gF X39 hx hZ hown (ww 20 rfl) e39 F42 (bb d11_184) (fun T41 X41 e41 => ?_)
      refine g_iloadN X41 hx (bb d11_187) rfl ?_
      have F43 := ((r10.other W16 ne_on_ol).other W24 ne_on_oh)
      refine gLr rfl X41 hx hZ e41 F43 (v := (.ref ov)) ⟨by decide, by decide⟩ rfl (bb d11_188) ?_
      refine g_astore X41 hx (bb d11_189) rfl (l' := #[vR a1, vI 0, vI 2, vR at_, vI 0, vI eb0, vJ ((et0.toInt64) - (eb0.toInt64)), .second, vI (f_base (f_minI et0 el0) (f_maxI et0 eu0)), vR ov, .unset]) rfl ?_
      refine g_iload X41 hx (bb d11_191) rfl ?_
      refine g_istore X41 hx (bb d11_193) (l' := #[vR a1, vI 0, vI 2, vR at_, vI 0, vI eb0, vJ ((et0.toInt64) - (eb0.toInt64)), .second, vI (f_base (f_minI et0 el0) (f_maxI et0 eu0)), vR ov, vI 0]) rfl ?_
      refine g_iload X41 hx (bb d11_195) rfl ?_
      refine g_iloadN X41 hx (bb d11_197) rfl ?_
      refine g_aloadN X41 hx (bb d11_198) rfl rfl ?_
      refine gF X41 hx hZ hown (ww 22 rfl) e41 F28 (bb d11_199) (fun T44 X44 e44 => ?_)
      refine g_imul X44 hx (bb d11_202) ?_
      refine g_icmpNo X44 hx (bb d11_203) (tlt (by decide : (0 : Int32) < (4 : Int32))).2.1 ?_
      refine g_aload X44 hx (bb d11_206) rfl rfl ?_
      refine g_iload X44 hx (bb d11_208) rfl ?_
      refine g_dup2 X44 hx (bb d11_210) rfl rfl ?_
      have F45 := ((r15.other W16 (Ne.symm ne_ol_ov)).other W24 (Ne.symm ne_oh_ov))
      refine gLc X44 hx hZ e44 F45 (v := (.int (nar .char (ev0_0 - eb0)))) ⟨by decide, by decide⟩ rfl (bb d11_211) ?_
      refine g_iload X44 hx (bb d11_212) rfl ?_
      refine g_iload X44 hx (bb d11_214) rfl ?_
      refine g_isub X44 hx (bb d11_216) ?_
      refine g_i2c X44 hx (bb d11_217) ?_
      refine g_iadd X44 hx (bb d11_218) ?_
      refine g_i2c X44 hx (bb d11_219) ?_
      refine gSc X44 hx hZ e44 F45 ⟨by decide, by decide⟩ 0 rfl (Nat.le_of_ble_eq_true rfl) N39 g_ov (bb d11_220) (fun T46 h46 X46 e46 W46 V46 N46 => ?_)
      refine g_iload X46 hx (bb d11_221) rfl ?_
      refine g_aloadN X46 hx (bb d11_223) rfl rfl ?_
      have F48 := (F28.other W46 (Or.inl ne_a1_ov))
      refine gF X46 hx hZ hown (ww 22 rfl) e46 F48 (bb d11_224) (fun T47 X47 e47 => ?_)
      refine g_iadd X47 hx (bb d11_227) ?_
      refine g_istore X47 hx (bb d11_228) (l' := #[vR a1, vI 0, vI 2, vR at_, vI 0, vI eb0, vJ ((et0.toInt64) - (eb0.toInt64)), .second, vI (f_base (f_minI et0 el0) (f_maxI et0 eu0)), vR ov, vI 2]) rfl ?_
      refine g_goto X47 hx (pc' := 195) (bb d11_230) (by decide) (by decide) ?_
      refine g_iload X47 hx (bb d11_195) rfl ?_
      refine g_iloadN X47 hx (bb d11_197) rfl ?_
      refine g_aloadN X47 hx (bb d11_198) rfl rfl ?_
      refine gF X47 hx hZ hown (ww 22 rfl) e47 F48 (bb d11_199) (fun T49 X49 e49 => ?_)
      refine g_imul X49 hx (bb d11_202) ?_
      refine g_icmpNo X49 hx (bb d11_203) (tlt (by decide : (2 : Int32) < (4 : Int32))).2.1 ?_
      refine g_aload X49 hx (bb d11_206) rfl rfl ?_
      refine g_iload X49 hx (bb d11_208) rfl ?_
      refine g_dup2 X49 hx (bb d11_210) rfl rfl ?_
      refine gLc X49 hx hZ e49 V46 (v := (.int (nar .char (ev1_0 - eb0)))) ⟨by decide, by decide⟩ rfl (bb d11_211) ?_
      refine g_iload X49 hx (bb d11_212) rfl ?_
      refine g_iload X49 hx (bb d11_214) rfl ?_
      refine g_isub X49 hx (bb d11_216) ?_
      refine g_i2c X49 hx (bb d11_217) ?_
      refine g_iadd X49 hx (bb d11_218) ?_
      refine g_i2c X49 hx (bb d11_219) ?_
      refine gSc X49 hx hZ e49 V46 ⟨by decide, by decide⟩ 2 rfl (Nat.le_of_ble_eq_true rfl) N46 g_ov (bb d11_220) (fun T50 h50 X50 e50 W50 V50 N50 => ?_)
      refine g_iload X50 hx (bb d11_221) rfl ?_
      refine g_aloadN X50 hx (bb d11_223) rfl rfl ?_
      have F52 := (F48.other W50 (Or.inl ne_a1_ov))
      refine gF X50 hx hZ hown (ww 22 rfl) e50 F52 (bb d11_224) (fun T51 X51 e51 => ?_)
      refine g_iadd X51 hx (bb d11_227) ?_
      refine g_istore X51 hx (bb d11_228) (l' := #[vR a1, vI 0, vI 2, vR at_, vI 0, vI eb0, vJ ((et0.toInt64) - (eb0.toInt64)), .second, vI (f_base (f_minI et0 el0) (f_maxI et0 eu0)), vR ov, vI 4]) rfl ?_
      refine g_goto X51 hx (pc' := 195) (bb d11_230) (by decide) (by decide) ?_
      refine g_iload X51 hx (bb d11_195) rfl ?_
      refine g_iloadN X51 hx (bb d11_197) rfl ?_
      refine g_aloadN X51 hx (bb d11_198) rfl rfl ?_
      refine gF X51 hx hZ hown (ww 22 rfl) e51 F52 (bb d11_199) (fun T53 X53 e53 => ?_)
      refine g_imul X53 hx (bb d11_202) ?_
      refine g_icmpYes X53 hx (pc' := 233) (bb d11_203) (flt (by decide : ¬ ((4 : Int32) < (4 : Int32)))).2.1 (by decide) (by decide) ?_
      refine g_aloadN X53 hx (bb d11_233) rfl rfl ?_
      have F55 := ((F26.other W46 (Or.inl ne_a1_ov)).other W50 (Or.inl ne_a1_ov))
      refine gF X53 hx hZ hown (ww 24 rfl) e53 F55 (bb d11_234) (fun T54 X54 e54 => ?_)
      refine g_iloadN X54 hx (bb d11_237) rfl ?_
      refine g_aloadN X54 hx (bb d11_238) rfl rfl ?_
      refine gF X54 hx hZ hown (ww 22 rfl) e54 F52 (bb d11_239) (fun T56 X56 e56 => ?_)
      refine g_imul X56 hx (bb d11_242) ?_
      refine g_iload X56 hx (bb d11_243) rfl ?_
      refine g_iadd X56 hx (bb d11_245) ?_
      refine g_iload X56 hx (bb d11_246) rfl ?_
      have F57 := ((F29.other W46 ne_ob_ov).other W50 ne_ob_ov)
      refine gSi X56 hx hZ e56 F57 ⟨by decide, by decide⟩ 0 rfl (Nat.le_of_ble_eq_true rfl) N50 g_ob (bb d11_248) (fun T58 h58 X58 e58 W58 V58 N58 => ?_)
      have F59 := (V50.other W58 (Ne.symm ne_ob_ov))
      exact hm31 _ _ _ (vI (f_base (f_minI et0 el0) (f_maxI et0 eu0))) (vR ov) (vI 4) X58 e58 N58 ((((Keep.refl h24 [ob, ov]).wr W46 (Or.inl (List.mem_of_getElem? (i := 1) rfl))).wr W50 (Or.inl (List.mem_of_getElem? (i := 1) rfl))).wr W58 (Or.inl (List.mem_of_getElem? (i := 0) rfl))) (by simp only [nbase, if_pos g31]; exact V58) (by simp only [nbase, if_pos g31]; have q := F59; simp only [own_ch] at q; exact q) (One.val rfl) (One.val rfl) (One.val rfl)
    · skip
      refine g_lload X27 hx (bb d11_148) rfl ?_
      refine g_lconst X27 hx (bb d11_150) ?_
      refine g_lcmp X27 hx (bb d11_151) ?_
      refine g_ifNo X27 hx (bb d11_152) ((if0 _ _).trans (flt (fun q => g31 (Or.inl q))).1) ?_
      refine g_lload X27 hx (bb d11_155) rfl ?_
      refine gJ X27 hx hZ hown (ww 78 rfl) (bb d11_157) ?_
      refine g_lcmp X27 hx (bb d11_160) ?_
      refine g_ifYes X27 hx (pc' := 249) (bb d11_161) ((if0 _ _).trans (tlt (Decidable.of_not_not fun q => g31 (Or.inr q))).1) (by decide) (by decide) ?_
      have F60 := ((r15.other W16 (Ne.symm ne_ol_ov)).other W24 (Ne.symm ne_oh_ov))
      exact hm31 _ _ _ (.unset) (.unset) (.unset) X27 e27 N24 (Keep.refl h24 [ob, ov]) (by simp only [nbase, if_neg g31]; exact F29) (by simp only [nbase, if_neg g31]; have q := F60; exact q) One.u One.u One.u
  intro T31 L31 h31 s8_31 s9_31 s10_31 X31 e31 N31 K31 f31_0 f31_1 o_s8_31 o_s9_31 o_s10_31
  refine g_iinc X31 hx (bb d11_249) rfl (l' := #[vR a1, vI 0, vI 2, vR at_, vI 1, vI eb0, vJ ((et0.toInt64) - (eb0.toInt64)), .second, s8_31, s9_31, s10_31]) rfl ?_
  refine g_goto X31 hx (pc' := 70) (bb d11_252) (by decide) (by decide) ?_
  refine g_iload X31 hx (bb d11_70) rfl ?_
  refine g_aloadN X31 hx (bb d11_72) rfl rfl ?_
  have F62 := (F28.keep K31 (ninS ne_a1_ob (ninS ne_a1_ov nin0)))
  refine gF X31 hx hZ hown (ww 22 rfl) e31 F62 (bb d11_73) (fun T61 X61 e61 => ?_)
  refine g_icmpNo X61 hx (bb d11_76) (tlt (by decide : (1 : Int32) < (2 : Int32))).2.1 ?_
  refine g_aloadN X61 hx (bb d11_79) rfl rfl ?_
  have F64 := (((r6.other W16 (Or.inl ne_a1_ol)).other W24 (Or.inl ne_a1_oh)).keep K31 (ninS ne_a1_ob (ninS ne_a1_ov nin0)))
  refine gF X61 hx hZ hown (ww 26 rfl) e61 F64 (bb d11_80) (fun T63 X63 e63 => ?_)
  refine g_iload X63 hx (bb d11_83) rfl ?_
  refine g_aloadN X63 hx (bb d11_85) rfl rfl ?_
  refine g_iload X63 hx (bb d11_86) rfl ?_
  have F65 := (F30.keep K31 (ninS ne_at__ob (ninS ne_at__ov nin0)))
  refine gLi X63 hx hZ e63 F65 (v := (.int et1)) ⟨by decide, by decide⟩ rfl (bb d11_88) ?_
  refine g_aloadN X63 hx (bb d11_89) rfl rfl ?_
  refine gF X63 hx hZ hown (ww 26 rfl) e63 F64 (bb d11_90) (fun T66 X66 e66 => ?_)
  refine g_iload X66 hx (bb d11_93) rfl ?_
  have F67 := ((V16.other W24 ne_ol_oh).keep K31 (ninS (Ne.symm ne_ob_ol) (ninS ne_ol_ov nin0)))
  refine gLi X66 hx hZ e66 F67 (v := (.int el1)) ⟨by decide, by decide⟩ rfl (bb d11_95) ?_
  have O69 := ((O23.wr W24 g_oh).keep K31 (allS g_ob (allS g_ov all0)))
  refine gcS X66 hx hZ hml hown (ww 68 rfl) (ww 58 rfl) (ww 70 rfl) (ww 69 rfl) e66 (rm_minI l Z a0 ww [] et1 el1 h31 n0 (own_z0 O69) O69 S_CS) pd__II_I_5 (bb d11_96) 2 rfl (fun T68 L68 v68 X68 hQ68 => ?_)
  obtain ⟨rfl, N68q, e68⟩ := hQ68
  have N68 := Fr.app N31 N68q
  refine gSi X68 hx hZ e68 F67 ⟨by decide, by decide⟩ 1 rfl (Nat.le_of_ble_eq_true rfl) N68 g_ol (bb d11_99) (fun T70 h70 X70 e70 W70 V70 N70 => ?_)
  refine g_aloadN X70 hx (bb d11_100) rfl rfl ?_
  have F72 := (((F18.other W24 (Or.inl ne_a1_oh)).keep K31 (ninS ne_a1_ob (ninS ne_a1_ov nin0))).other W70 (Or.inl ne_a1_ol))
  refine gF X70 hx hZ hown (ww 28 rfl) e70 F72 (bb d11_101) (fun T71 X71 e71 => ?_)
  refine g_iload X71 hx (bb d11_104) rfl ?_
  refine g_aloadN X71 hx (bb d11_106) rfl rfl ?_
  refine g_iload X71 hx (bb d11_107) rfl ?_
  have F73 := (F65.other W70 ne_at__ol)
  refine gLi X71 hx hZ e71 F73 (v := (.int et1)) ⟨by decide, by decide⟩ rfl (bb d11_109) ?_
  refine g_aloadN X71 hx (bb d11_110) rfl rfl ?_
  refine gF X71 hx hZ hown (ww 28 rfl) e71 F72 (bb d11_111) (fun T74 X74 e74 => ?_)
  refine g_iload X74 hx (bb d11_114) rfl ?_
  have F75 := ((V24.keep K31 (ninS (Ne.symm ne_ob_oh) (ninS ne_oh_ov nin0))).other W70 (Ne.symm ne_ol_oh))
  refine gLi X74 hx hZ e74 F75 (v := (.int eu1)) ⟨by decide, by decide⟩ rfl (bb d11_116) ?_
  have O77 := (O69.wr W70 g_ol)
  refine gcS X74 hx hZ hml hown (ww 75 rfl) (ww 58 rfl) (ww 77 rfl) (ww 76 rfl) e74 (rm_maxI l Z a0 ww [] et1 eu1 h70 n0 (own_z0 O77) O77 S_CS) pd__II_I_5 (bb d11_117) 2 rfl (fun T76 L76 v76 X76 hQ76 => ?_)
  obtain ⟨rfl, N76q, e76⟩ := hQ76
  have N76 := Fr.app N70 N76q
  refine gSi X76 hx hZ e76 F75 ⟨by decide, by decide⟩ 1 rfl (Nat.le_of_ble_eq_true rfl) N76 g_oh (bb d11_120) (fun T78 h78 X78 e78 W78 V78 N78 => ?_)
  refine g_aloadN X78 hx (bb d11_121) rfl rfl ?_
  have F80 := (((F26.keep K31 (ninS ne_a1_ob (ninS ne_a1_ov nin0))).other W70 (Or.inl ne_a1_ol)).other W78 (Or.inl ne_a1_oh))
  refine gF X78 hx hZ hown (ww 24 rfl) e78 F80 (bb d11_122) (fun T79 X79 e79 => ?_)
  refine g_iloadN X79 hx (bb d11_125) rfl ?_
  refine g_aloadN X79 hx (bb d11_126) rfl rfl ?_
  have F82 := ((F62.other W70 (Or.inl ne_a1_ol)).other W78 (Or.inl ne_a1_oh))
  refine gF X79 hx hZ hown (ww 22 rfl) e79 F82 (bb d11_127) (fun T81 X81 e81 => ?_)
  refine g_imul X81 hx (bb d11_130) ?_
  refine g_iload X81 hx (bb d11_131) rfl ?_
  refine g_iadd X81 hx (bb d11_133) ?_
  have F83 := ((f31_0.other W70 ne_ob_ol).other W78 ne_ob_oh)
  refine gLi X81 hx hZ e81 F83 (v := (.int eb1)) ⟨by decide, by decide⟩ rfl (bb d11_134) ?_
  refine g_istore X81 hx (bb d11_135) (l' := #[vR a1, vI 0, vI 2, vR at_, vI 1, vI eb1, vJ ((et0.toInt64) - (eb0.toInt64)), .second, s8_31, s9_31, s10_31]) rfl ?_
  refine g_aloadN X81 hx (bb d11_137) rfl rfl ?_
  refine g_iload X81 hx (bb d11_138) rfl ?_
  have F84 := (F73.other W78 ne_at__oh)
  refine gLi X81 hx hZ e81 F84 (v := (.int et1)) ⟨by decide, by decide⟩ rfl (bb d11_140) ?_
  refine g_i2l X81 hx (bb d11_141) ?_
  refine g_iload X81 hx (bb d11_142) rfl ?_
  refine g_i2l X81 hx (bb d11_144) ?_
  refine g_lsub X81 hx (bb d11_145) ?_
  refine g_lstore X81 hx (bb d11_146) (l' := #[vR a1, vI 0, vI 2, vR at_, vI 1, vI eb1, vJ ((et1.toInt64) - (eb1.toInt64)), .second, s8_31, s9_31, s10_31]) rfl ?_
  suffices hm85 : ∀ (T' : State) (L' : List Loc) (h' : Heap) (s8_85 : Slot) (s9_85 : Slot) (s10_85 : Slot), Stand p l e ({ frames := 2, cells := 0, slots := 0, locals := 30 } : Room) s m #[(.ref a1), (.int 0), (.int 2), (.ref at_)] below meth c T' L' 0 0 → T'.heap = h' → Fr n0 L' → Keep h78 h' [ob, ov] → Arv Z h' ob kb_ .int (2 : Int32) [(.int (nbase eb0 el0 eu0 et0)), (.int (nbase eb1 el1 eu1 et1))] (.int 0) → Arv Z h' ov kv_ .char (16 : Int32) [(.int (nar .char (ev0_0 - (nbase eb0 el0 eu0 et0)))), (.int (nar .char (ev0_1 - (nbase eb1 el1 eu1 et1)))), (.int (nar .char (ev1_0 - (nbase eb0 el0 eu0 et0)))), (.int (nar .char (ev1_1 - (nbase eb1 el1 eu1 et1)))), (.int ex4), (.int ex5), (.int ex6), (.int ex7), (.int ex8), (.int ex9), (.int ex10), (.int ex11), (.int ex12), (.int ex13), (.int ex14), (.int ex15)] (.int 0) → One s8_85 → One s9_85 → One s10_85 → Gl p e below R0 T' (mkF m 249 #[vR a1, vI 0, vI 2, vR at_, vI 1, vI eb1, vJ ((et1.toInt64) - (eb1.toInt64)), .second, s8_85, s9_85, s10_85] []) by
    by_cases g85 : ((lcmpW ((et1.toInt64) - (eb1.toInt64)) (0 : Int64)) < (0 : Int32)) ∨ ¬ ((lcmpW ((et1.toInt64) - (eb1.toInt64)) (65536 : Int64)) < (0 : Int32))
    · skip
      suffices hm86 : ∀ (T' : State) (L' : List Loc), Stand p l e ({ frames := 2, cells := 0, slots := 0, locals := 30 } : Room) s m #[(.ref a1), (.int 0), (.int 2), (.ref at_)] below meth c T' L' 0 0 → T'.heap = h78 → Fr n0 L' → Gl p e below R0 T' (mkF m 164 #[vR a1, vI 0, vI 2, vR at_, vI 1, vI eb1, vJ ((et1.toInt64) - (eb1.toInt64)), .second, s8_31, s9_31, s10_31] []) by
        refine g_lload X81 hx (bb d11_148) rfl ?_
        refine g_lconst X81 hx (bb d11_150) ?_
        refine g_lcmp X81 hx (bb d11_151) ?_
        by_cases g87 : (lcmpW ((et1.toInt64) - (eb1.toInt64)) (0 : Int64)) < (0 : Int32)
        · skip
          refine g_ifYes X81 hx (pc' := 164) (bb d11_152) ((if0 _ _).trans (tlt g87).1) (by decide) (by decide) ?_
          have q := hm86 _ _ X81 e81 N78
          exact q
        · skip
          refine g_ifNo X81 hx (bb d11_152) ((if0 _ _).trans (flt g87).1) ?_
          refine g_lload X81 hx (bb d11_155) rfl ?_
          refine gJ X81 hx hZ hown (ww 78 rfl) (bb d11_157) ?_
          refine g_lcmp X81 hx (bb d11_160) ?_
          refine g_ifNo X81 hx (bb d11_161) ((if0 _ _).trans (flt (g85.resolve_left g87)).1) ?_
          have q := hm86 _ _ X81 e81 N78
          exact q
      intro T86 L86 X86 e86 N86
      refine g_aloadN X86 hx (bb d11_164) rfl rfl ?_
      have F89 := ((F64.other W70 (Or.inl ne_a1_ol)).other W78 (Or.inl ne_a1_oh))
      refine gF X86 hx hZ hown (ww 26 rfl) e86 F89 (bb d11_165) (fun T88 X88 e88 => ?_)
      refine g_iload X88 hx (bb d11_168) rfl ?_
      have F90 := (V70.other W78 ne_ol_oh)
      refine gLi X88 hx hZ e88 F90 (v := (.int (f_minI et1 el1))) ⟨by decide, by decide⟩ rfl (bb d11_170) ?_
      refine g_aloadN X88 hx (bb d11_171) rfl rfl ?_
      have F92 := (F72.other W78 (Or.inl ne_a1_oh))
      refine gF X88 hx hZ hown (ww 28 rfl) e88 F92 (bb d11_172) (fun T91 X91 e91 => ?_)
      refine g_iload X91 hx (bb d11_175) rfl ?_
      refine gLi X91 hx hZ e91 V78 (v := (.int (f_maxI et1 eu1))) ⟨by decide, by decide⟩ rfl (bb d11_177) ?_
      have O94 := (O77.wr W78 g_oh)
      refine gcS X91 hx hZ hml hown (ww 50 rfl) (ww 7 rfl) (ww 52 rfl) (ww 51 rfl) e91 (rm_base l Z a0 ww [] (f_minI et1 el1) (f_maxI et1 eu1) h78 n0 (own_z0 O94) O94 S_CS) pd__II_I_5 (bb d11_178) 0 rfl (fun T93 L93 v93 X93 hQ93 => ?_)
      obtain ⟨rfl, N93q, e93⟩ := hQ93
      have N93 := Fr.app N86 N93q
      refine g_istoreS X93 hx (bb d11_181) rfl o_s8_31 ?_
      refine g_aloadN X93 hx (bb d11_183) rfl rfl ?_
      have F96 := (((((r4.other W16 (Or.inl ne_a1_ol)).other W24 (Or.inl ne_a1_oh)).keep K31 (ninS ne_a1_ob (ninS ne_a1_ov nin0))).other W70 (Or.inl ne_a1_ol)).other W78 (Or.inl ne_a1_oh))
      refine gF X93 hx hZ hown (ww 20 rfl) e93 F96 (bb d11_184) (fun T95 X95 e95 => ?_)
      refine g_iloadN X95 hx (bb d11_187) rfl ?_
      have F97 := (((((r10.other W16 ne_on_ol).other W24 ne_on_oh).keep K31 (ninS ne_on_ob (ninS ne_on_ov nin0))).other W70 ne_on_ol).other W78 ne_on_oh)
      refine gLr rfl X95 hx hZ e95 F97 (v := (.ref ov)) ⟨by decide, by decide⟩ rfl (bb d11_188) ?_
      refine g_astoreS X95 hx (bb d11_189) rfl rfl rfl o_s9_31 ?_
      refine g_iload X95 hx (bb d11_191) rfl ?_
      refine g_istoreS X95 hx (bb d11_193) rfl o_s10_31 ?_
      refine g_iload X95 hx (bb d11_195) rfl ?_
      refine g_iloadN X95 hx (bb d11_197) rfl ?_
      refine g_aloadN X95 hx (bb d11_198) rfl rfl ?_
      refine gF X95 hx hZ hown (ww 22 rfl) e95 F82 (bb d11_199) (fun T98 X98 e98 => ?_)
      refine g_imul X98 hx (bb d11_202) ?_
      refine g_icmpNo X98 hx (bb d11_203) (tlt (by decide : (1 : Int32) < (4 : Int32))).2.1 ?_
      refine g_aload X98 hx (bb d11_206) rfl rfl ?_
      refine g_iload X98 hx (bb d11_208) rfl ?_
      refine g_dup2 X98 hx (bb d11_210) rfl rfl ?_
      have F99 := ((f31_1.other W70 (Ne.symm ne_ol_ov)).other W78 (Ne.symm ne_oh_ov))
      refine gLc X98 hx hZ e98 F99 (v := (.int (nar .char (ev0_1 - eb1)))) ⟨by decide, by decide⟩ rfl (bb d11_211) ?_
      refine g_iload X98 hx (bb d11_212) rfl ?_
      refine g_iload X98 hx (bb d11_214) rfl ?_
      refine g_isub X98 hx (bb d11_216) ?_
      refine g_i2c X98 hx (bb d11_217) ?_
      refine g_iadd X98 hx (bb d11_218) ?_
      refine g_i2c X98 hx (bb d11_219) ?_
      refine gSc X98 hx hZ e98 F99 ⟨by decide, by decide⟩ 1 rfl (Nat.le_of_ble_eq_true rfl) N93 g_ov (bb d11_220) (fun T100 h100 X100 e100 W100 V100 N100 => ?_)
      refine g_iload X100 hx (bb d11_221) rfl ?_
      refine g_aloadN X100 hx (bb d11_223) rfl rfl ?_
      have F102 := (F82.other W100 (Or.inl ne_a1_ov))
      refine gF X100 hx hZ hown (ww 22 rfl) e100 F102 (bb d11_224) (fun T101 X101 e101 => ?_)
      refine g_iadd X101 hx (bb d11_227) ?_
      refine g_istore X101 hx (bb d11_228) (l' := #[vR a1, vI 0, vI 2, vR at_, vI 1, vI eb1, vJ ((et1.toInt64) - (eb1.toInt64)), .second, vI (f_base (f_minI et1 el1) (f_maxI et1 eu1)), vR ov, vI 3]) rfl ?_
      refine g_goto X101 hx (pc' := 195) (bb d11_230) (by decide) (by decide) ?_
      refine g_iload X101 hx (bb d11_195) rfl ?_
      refine g_iloadN X101 hx (bb d11_197) rfl ?_
      refine g_aloadN X101 hx (bb d11_198) rfl rfl ?_
      refine gF X101 hx hZ hown (ww 22 rfl) e101 F102 (bb d11_199) (fun T103 X103 e103 => ?_)
      refine g_imul X103 hx (bb d11_202) ?_
      refine g_icmpNo X103 hx (bb d11_203) (tlt (by decide : (3 : Int32) < (4 : Int32))).2.1 ?_
      refine g_aload X103 hx (bb d11_206) rfl rfl ?_
      refine g_iload X103 hx (bb d11_208) rfl ?_
      refine g_dup2 X103 hx (bb d11_210) rfl rfl ?_
      refine gLc X103 hx hZ e103 V100 (v := (.int (nar .char (ev1_1 - eb1)))) ⟨by decide, by decide⟩ rfl (bb d11_211) ?_
      refine g_iload X103 hx (bb d11_212) rfl ?_
      refine g_iload X103 hx (bb d11_214) rfl ?_
      refine g_isub X103 hx (bb d11_216) ?_
      refine g_i2c X103 hx (bb d11_217) ?_
      refine g_iadd X103 hx (bb d11_218) ?_
      refine g_i2c X103 hx (bb d11_219) ?_
      refine gSc X103 hx hZ e103 V100 ⟨by decide, by decide⟩ 3 rfl (Nat.le_of_ble_eq_true rfl) N100 g_ov (bb d11_220) (fun T104 h104 X104 e104 W104 V104 N104 => ?_)
      refine g_iload X104 hx (bb d11_221) rfl ?_
      refine g_aloadN X104 hx (bb d11_223) rfl rfl ?_
      have F106 := (F102.other W104 (Or.inl ne_a1_ov))
      refine gF X104 hx hZ hown (ww 22 rfl) e104 F106 (bb d11_224) (fun T105 X105 e105 => ?_)
      refine g_iadd X105 hx (bb d11_227) ?_
      refine g_istore X105 hx (bb d11_228) (l' := #[vR a1, vI 0, vI 2, vR at_, vI 1, vI eb1, vJ ((et1.toInt64) - (eb1.toInt64)), .second, vI (f_base (f_minI et1 el1) (f_maxI et1 eu1)), vR ov, vI 5]) rfl ?_
      refine g_goto X105 hx (pc' := 195) (bb d11_230) (by decide) (by decide) ?_
      refine g_iload X105 hx (bb d11_195) rfl ?_
      refine g_iloadN X105 hx (bb d11_197) rfl ?_
      refine g_aloadN X105 hx (bb d11_198) rfl rfl ?_
      refine gF X105 hx hZ hown (ww 22 rfl) e105 F106 (bb d11_199) (fun T107 X107 e107 => ?_)
      refine g_imul X107 hx (bb d11_202) ?_
      refine g_icmpYes X107 hx (pc' := 233) (bb d11_203) (flt (by decide : ¬ ((5 : Int32) < (4 : Int32)))).2.1 (by decide) (by decide) ?_
      refine g_aloadN X107 hx (bb d11_233) rfl rfl ?_
      have F109 := ((F80.other W100 (Or.inl ne_a1_ov)).other W104 (Or.inl ne_a1_ov))
      refine gF X107 hx hZ hown (ww 24 rfl) e107 F109 (bb d11_234) (fun T108 X108 e108 => ?_)
      refine g_iloadN X108 hx (bb d11_237) rfl ?_
      refine g_aloadN X108 hx (bb d11_238) rfl rfl ?_
      refine gF X108 hx hZ hown (ww 22 rfl) e108 F106 (bb d11_239) (fun T110 X110 e110 => ?_)
      refine g_imul X110 hx (bb d11_242) ?_
      refine g_iload X110 hx (bb d11_243) rfl ?_
      refine g_iadd X110 hx (bb d11_245) ?_
      refine g_iload X110 hx (bb d11_246) rfl ?_
      have F111 := ((F83.other W100 ne_ob_ov).other W104 ne_ob_ov)
      refine gSi X110 hx hZ e110 F111 ⟨by decide, by decide⟩ 1 rfl (Nat.le_of_ble_eq_true rfl) N104 g_ob (bb d11_248) (fun T112 h112 X112 e112 W112 V112 N112 => ?_)
      have F113 := (V104.other W112 (Ne.symm ne_ob_ov))
      exact hm85 _ _ _ (vI (f_base (f_minI et1 el1) (f_maxI et1 eu1))) (vR ov) (vI 5) X112 e112 N112 ((((Keep.refl h78 [ob, ov]).wr W100 (Or.inl (List.mem_of_getElem? (i := 1) rfl))).wr W104 (Or.inl (List.mem_of_getElem? (i := 1) rfl))).wr W112 (Or.inl (List.mem_of_getElem? (i := 0) rfl))) (by simp only [nbase, if_pos g85]; exact V112) (by simp only [nbase, if_pos g85]; have q := F113; simp only [own_ch] at q; exact q) (One.val rfl) (One.val rfl) (One.val rfl)
    · skip
      refine g_lload X81 hx (bb d11_148) rfl ?_
      refine g_lconst X81 hx (bb d11_150) ?_
      refine g_lcmp X81 hx (bb d11_151) ?_
      refine g_ifNo X81 hx (bb d11_152) ((if0 _ _).trans (flt (fun q => g85 (Or.inl q))).1) ?_
      refine g_lload X81 hx (bb d11_155) rfl ?_
      refine gJ X81 hx hZ hown (ww 78 rfl) (bb d11_157) ?_
      refine g_lcmp X81 hx (bb d11_160) ?_
      refine g_ifYes X81 hx (pc' := 249) (bb d11_161) ((if0 _ _).trans (tlt (Decidable.of_not_not fun q => g85 (Or.inr q))).1) (by decide) (by decide) ?_
      have F114 := ((f31_1.other W70 (Ne.symm ne_ol_ov)).other W78 (Ne.symm ne_oh_ov))
      exact hm85 _ _ _ (s8_31) (s9_31) (s10_31) X81 e81 N78 (Keep.refl h78 [ob, ov]) (by simp only [nbase, if_neg g85]; exact F83) (by simp only [nbase, if_neg g85]; have q := F114; exact q) o_s8_31 o_s9_31 o_s10_31
  intro T85 L85 h85 s8_85 s9_85 s10_85 X85 e85 N85 K85 f85_0 f85_1 o_s8_85 o_s9_85 o_s10_85
  refine g_iinc X85 hx (bb d11_249) rfl (l' := #[vR a1, vI 0, vI 2, vR at_, vI 2, vI eb1, vJ ((et1.toInt64) - (eb1.toInt64)), .second, s8_85, s9_85, s10_85]) rfl ?_
  refine g_goto X85 hx (pc' := 70) (bb d11_252) (by decide) (by decide) ?_
  refine g_iload X85 hx (bb d11_70) rfl ?_
  refine g_aloadN X85 hx (bb d11_72) rfl rfl ?_
  have F116 := (F82.keep K85 (ninS ne_a1_ob (ninS ne_a1_ov nin0)))
  refine gF X85 hx hZ hown (ww 22 rfl) e85 F116 (bb d11_73) (fun T115 X115 e115 => ?_)
  refine g_icmpYes X115 hx (pc' := 255) (bb d11_76) (flt (by decide : ¬ ((2 : Int32) < (2 : Int32)))).2.1 (by decide) (by decide) ?_
  have F117 := ((V70.other W78 ne_ol_oh).keep K85 (ninS (Ne.symm ne_ob_ol) (ninS ne_ol_ov nin0)))
  have F118 := (V78.keep K85 (ninS (Ne.symm ne_ob_oh) (ninS ne_oh_ov nin0)))
  obtain ⟨fs, hr, hrun, hended, hW, hsame⟩ := X115.leave (v := none) (fun _ => rfl)
  subst hR0
  refine ⟨_, _, ?_, hrun, hended, _, _, rfl, ?_, ⟨_, rfl⟩, hW, hsame.mono (by decide) (by decide)⟩
  · exact X115.returnOut hx hret (bb d11_255) hr
  · show Q_fit2_2 Z a1 at_ ow on ob ol oh ov kw_ kn_ kb_ kl_ kh_ kv_ eb0 eb1 el0 el1 eu0 eu1 ev0_0 ev0_1 ev1_0 ev1_1 ex4 ex5 ex6 ex7 ex8 ex9 ex10 ex11 ex12 ex13 ex14 ex15 kt_ et0 et1 h0 n0 _ T115.heap _
    rw [e115]
    exact ⟨rfl, N85, (((((((Keep.refl h0 [ob, ol, oh, ov]).wr W16 (Or.inl (List.mem_of_getElem? (i := 1) rfl))).wr W24 (Or.inl (List.mem_of_getElem? (i := 2) rfl))).trans K31 (allS (Or.inl (List.mem_of_getElem? (i := 0) rfl)) (allS (Or.inl (List.mem_of_getElem? (i := 3) rfl)) all0))).wr W70 (Or.inl (List.mem_of_getElem? (i := 1) rfl))).wr W78 (Or.inl (List.mem_of_getElem? (i := 2) rfl))).trans K85 (allS (Or.inl (List.mem_of_getElem? (i := 0) rfl)) (allS (Or.inl (List.mem_of_getElem? (i := 3) rfl)) all0))), F117, F118, f85_0, f85_1⟩
set_option maxRecDepth 65536 in
set_option maxHeartbeats 40000000 in
theorem rm_get2N (l : Launch) (Z : State) (a0 : Array Value) (ww : WW a0 Z) (ws : List Jvm.Cond) (a1 : Addr) (p2 p3 : Int32) (on ob ov : Addr) (cn cb cv : Cell) (eb ev : Int32) (h0 : Heap) (n0 : Nat) (Z0 : n0 ≤ h0.size) (O0 : Old Z n0 h0) (S_CS : Sta Z Z.heap cRV "CHUNK_SHIFT" "I" (.int (12 : Int32))) (r0 : Fld Z h0 a1 cRV "arity" "I" (.int 2)) (r1 : Fld Z h0 a1 cRV "narrow" "[[C" (.ref on)) (r2 : Fld Z h0 a1 cRV "bases" "[I" (.ref ob)) (A_on : Arr Z h0 on cn (.array .char)) (i_on : ¬ (((p2.toUInt32 >>> ((12 : Int32) &&& 31).toUInt32).toInt32) < 0 ∨ cn.slots.size ≤ (((p2.toUInt32 >>> ((12 : Int32) &&& 31).toUInt32).toInt32)).toNatClampNeg)) (t_on : cn.slots[(((p2.toUInt32 >>> ((12 : Int32) &&& 31).toUInt32).toInt32)).toNatClampNeg]? = some (.ref ov)) (A_ob : Arr Z h0 ob cb .int) (i_ob : ¬ (((((p2.toUInt32 >>> ((12 : Int32) &&& 31).toUInt32).toInt32) * (2 : Int32)) + p3) < 0 ∨ cb.slots.size ≤ (((((p2.toUInt32 >>> ((12 : Int32) &&& 31).toUInt32).toInt32) * (2 : Int32)) + p3)).toNatClampNeg)) (t_ob : cb.slots[(((((p2.toUInt32 >>> ((12 : Int32) &&& 31).toUInt32).toInt32) * (2 : Int32)) + p3)).toNatClampNeg]? = some (.int eb)) (A_ov : Arr Z h0 ov cv .char) (i_ov : ¬ ((((p2 &&& (4095 : Int32)) * (2 : Int32)) + p3) < 0 ∨ cv.slots.size ≤ ((((p2 &&& (4095 : Int32)) * (2 : Int32)) + p3)).toNatClampNeg)) (t_ov : cv.slots[((((p2 &&& (4095 : Int32)) * (2 : Int32)) + p3)).toNatClampNeg]? = some (.int (nar .char (ev - eb)))) (hIn : ownIn eb ev) :
    MF l Z (⟨cRV, "get", "(II)I"⟩ : MethodName) prog_47_method_3_code 6 (some .int) ws ({ frames := 0, cells := 0, slots := 0, locals := 0 } : Room) #[(.ref a1), (.int p2), (.int p3)] h0 (PureQ (some (.int ev)) h0 n0) := by
  refine gopen (plainFor_of_name pn_RowValues) (fun m => ef_get2N m a1 p2 p3) (fun p e s m below meth c s₁ hlk hret hx bb hml hown hnm hZ X0 e0 R0 hR0 => ?_)
  have N0 := Fr.nil n0
  refine g_iloadN X0 hx (bb d13_0) rfl ?_
  refine gS X0 hx hZ hown (ww 44 rfl) e0 (S_CS.ext O0.2) (bb d13_1) (fun T1 X1 e1 => ?_)
  refine g_iushr X1 hx (bb d13_4) ?_
  refine g_istoreN X1 hx (bb d13_5) (l' := #[vR a1, vI p2, vI p3, vI ((p2.toUInt32 >>> ((12 : Int32) &&& 31).toUInt32).toInt32), .unset, .unset]) rfl ?_
  refine g_iloadN X1 hx (bb d13_6) rfl ?_
  refine g_sipush X1 hx (bb d13_7) ?_
  refine g_iand X1 hx (bb d13_10) ?_
  refine g_aloadN X1 hx (bb d13_11) rfl rfl ?_
  refine gF X1 hx hZ hown (ww 22 rfl) e1 r0 (bb d13_12) (fun T2 X2 e2 => ?_)
  refine g_imul X2 hx (bb d13_15) ?_
  refine g_iloadN X2 hx (bb d13_16) rfl ?_
  refine g_iadd X2 hx (bb d13_17) ?_
  refine g_istore X2 hx (bb d13_18) (l' := #[vR a1, vI p2, vI p3, vI ((p2.toUInt32 >>> ((12 : Int32) &&& 31).toUInt32).toInt32), vI (((p2 &&& (4095 : Int32)) * (2 : Int32)) + p3), .unset]) rfl ?_
  refine g_aloadN X2 hx (bb d13_20) rfl rfl ?_
  refine gF X2 hx hZ hown (ww 20 rfl) e2 r1 (bb d13_21) (fun T3 X3 e3 => ?_)
  refine g_iloadN X3 hx (bb d13_24) rfl ?_
  refine gl (fun t => X3.aaload hx (j := ((p2.toUInt32 >>> ((12 : Int32) &&& 31).toUInt32).toInt32)) (v := (.ref ov)) (by rw [e3]; exact A_on.1) (State.isArrayOf_alike hZ.alike A_on.2.1) rfl A_on.2.2 i_on t_on (g := (mkF m 25 #[vR a1, vI p2, vI p3, vI ((p2.toUInt32 >>> ((12 : Int32) &&& 31).toUInt32).toInt32), vI (((p2 &&& (4095 : Int32)) * (2 : Int32)) + p3), .unset] [(.int ((p2.toUInt32 >>> ((12 : Int32) &&& 31).toUInt32).toInt32)), (.ref on)])) rfl rfl (bb d13_25) t) ?_
  refine g_astore X3 hx (bb d13_26) rfl (l' := #[vR a1, vI p2, vI p3, vI ((p2.toUInt32 >>> ((12 : Int32) &&& 31).toUInt32).toInt32), vI (((p2 &&& (4095 : Int32)) * (2 : Int32)) + p3), vR ov]) rfl ?_
  refine g_aload X3 hx (bb d13_28) rfl rfl ?_
  refine g_ifnullNo X3 hx (bb d13_30) ?_
  refine g_aloadN X3 hx (bb d13_33) rfl rfl ?_
  refine gF X3 hx hZ hown (ww 24 rfl) e3 r2 (bb d13_34) (fun T4 X4 e4 => ?_)
  refine g_iloadN X4 hx (bb d13_37) rfl ?_
  refine g_aloadN X4 hx (bb d13_38) rfl rfl ?_
  refine gF X4 hx hZ hown (ww 22 rfl) e4 r0 (bb d13_39) (fun T5 X5 e5 => ?_)
  refine g_imul X5 hx (bb d13_42) ?_
  refine g_iloadN X5 hx (bb d13_43) rfl ?_
  refine g_iadd X5 hx (bb d13_44) ?_
  refine gl (fun t => X5.iaload hx (j := ((((p2.toUInt32 >>> ((12 : Int32) &&& 31).toUInt32).toInt32) * (2 : Int32)) + p3)) (v := (.int eb)) (by rw [e5]; exact A_ob.1) (State.isArrayOf_alike hZ.alike A_ob.2.1) A_ob.2.2 i_ob t_ob (g := (mkF m 45 #[vR a1, vI p2, vI p3, vI ((p2.toUInt32 >>> ((12 : Int32) &&& 31).toUInt32).toInt32), vI (((p2 &&& (4095 : Int32)) * (2 : Int32)) + p3), vR ov] [(.int ((((p2.toUInt32 >>> ((12 : Int32) &&& 31).toUInt32).toInt32) * (2 : Int32)) + p3)), (.ref ob)])) rfl rfl (bb d13_45) t) ?_
  refine g_aload X5 hx (bb d13_46) rfl rfl ?_
  refine g_iload X5 hx (bb d13_48) rfl ?_
  refine gl (fun t => X5.caload hx (j := (((p2 &&& (4095 : Int32)) * (2 : Int32)) + p3)) (v := (.int (nar .char (ev - eb)))) (by rw [e5]; exact A_ov.1) (State.isArrayOf_alike hZ.alike A_ov.2.1) A_ov.2.2 i_ov t_ov (g := (mkF m 50 #[vR a1, vI p2, vI p3, vI ((p2.toUInt32 >>> ((12 : Int32) &&& 31).toUInt32).toInt32), vI (((p2 &&& (4095 : Int32)) * (2 : Int32)) + p3), vR ov] [(.int (((p2 &&& (4095 : Int32)) * (2 : Int32)) + p3)), (.ref ov), (.int eb)])) rfl rfl (bb d13_50) t) ?_
  refine g_iadd X5 hx (bb d13_51) ?_
  refine g_goto X5 hx (pc' := 64) (bb d13_52) (by decide) (by decide) ?_
  obtain ⟨fs, hr, hrun, hended, hW, hsame⟩ := X5.leave (v := some (.int (eb + (nar .char (ev - eb))))) (fun h => by rw [hret] at h; cases h)
  subst hR0
  refine ⟨_, _, ?_, hrun, hended, _, _, rfl, ?_, ⟨_, rfl⟩, hW, hsame.mono (by decide) (by decide)⟩
  · exact retI X5 hx hret (bb d13_64) hr
  · exact ⟨congrArg (fun z => some (Value.int z)) (own_get hIn), N0, e5⟩
set_option maxRecDepth 65536 in
set_option maxHeartbeats 40000000 in
theorem rm_get2W (l : Launch) (Z : State) (a0 : Array Value) (ww : WW a0 Z) (ws : List Jvm.Cond) (a1 : Addr) (p2 p3 : Int32) (on ow oz : Addr) (cn cb cv : Cell) (ev : Int32) (h0 : Heap) (n0 : Nat) (Z0 : n0 ≤ h0.size) (O0 : Old Z n0 h0) (S_CS : Sta Z Z.heap cRV "CHUNK_SHIFT" "I" (.int (12 : Int32))) (r0 : Fld Z h0 a1 cRV "arity" "I" (.int 2)) (r1 : Fld Z h0 a1 cRV "narrow" "[[C" (.ref on)) (r2 : Fld Z h0 a1 cRV "wide" "[[I" (.ref ow)) (A_on : Arr Z h0 on cn (.array .char)) (i_on : ¬ (((p2.toUInt32 >>> ((12 : Int32) &&& 31).toUInt32).toInt32) < 0 ∨ cn.slots.size ≤ (((p2.toUInt32 >>> ((12 : Int32) &&& 31).toUInt32).toInt32)).toNatClampNeg)) (t_on : cn.slots[(((p2.toUInt32 >>> ((12 : Int32) &&& 31).toUInt32).toInt32)).toNatClampNeg]? = some .null) (A_ow : Arr Z h0 ow cb (.array .int)) (i_ow : ¬ (((p2.toUInt32 >>> ((12 : Int32) &&& 31).toUInt32).toInt32) < 0 ∨ cb.slots.size ≤ (((p2.toUInt32 >>> ((12 : Int32) &&& 31).toUInt32).toInt32)).toNatClampNeg)) (t_ow : cb.slots[(((p2.toUInt32 >>> ((12 : Int32) &&& 31).toUInt32).toInt32)).toNatClampNeg]? = some (.ref oz)) (A_oz : Arr Z h0 oz cv .int) (i_oz : ¬ ((((p2 &&& (4095 : Int32)) * (2 : Int32)) + p3) < 0 ∨ cv.slots.size ≤ ((((p2 &&& (4095 : Int32)) * (2 : Int32)) + p3)).toNatClampNeg)) (t_oz : cv.slots[((((p2 &&& (4095 : Int32)) * (2 : Int32)) + p3)).toNatClampNeg]? = some (.int ev)) :
    MF l Z (⟨cRV, "get", "(II)I"⟩ : MethodName) prog_47_method_3_code 6 (some .int) ws ({ frames := 0, cells := 0, slots := 0, locals := 0 } : Room) #[(.ref a1), (.int p2), (.int p3)] h0 (PureQ (some (.int ev)) h0 n0) := by
  refine gopen (plainFor_of_name pn_RowValues) (fun m => ef_get2W m a1 p2 p3) (fun p e s m below meth c s₁ hlk hret hx bb hml hown hnm hZ X0 e0 R0 hR0 => ?_)
  have N0 := Fr.nil n0
  refine g_iloadN X0 hx (bb d13_0) rfl ?_
  refine gS X0 hx hZ hown (ww 44 rfl) e0 (S_CS.ext O0.2) (bb d13_1) (fun T1 X1 e1 => ?_)
  refine g_iushr X1 hx (bb d13_4) ?_
  refine g_istoreN X1 hx (bb d13_5) (l' := #[vR a1, vI p2, vI p3, vI ((p2.toUInt32 >>> ((12 : Int32) &&& 31).toUInt32).toInt32), .unset, .unset]) rfl ?_
  refine g_iloadN X1 hx (bb d13_6) rfl ?_
  refine g_sipush X1 hx (bb d13_7) ?_
  refine g_iand X1 hx (bb d13_10) ?_
  refine g_aloadN X1 hx (bb d13_11) rfl rfl ?_
  refine gF X1 hx hZ hown (ww 22 rfl) e1 r0 (bb d13_12) (fun T2 X2 e2 => ?_)
  refine g_imul X2 hx (bb d13_15) ?_
  refine g_iloadN X2 hx (bb d13_16) rfl ?_
  refine g_iadd X2 hx (bb d13_17) ?_
  refine g_istore X2 hx (bb d13_18) (l' := #[vR a1, vI p2, vI p3, vI ((p2.toUInt32 >>> ((12 : Int32) &&& 31).toUInt32).toInt32), vI (((p2 &&& (4095 : Int32)) * (2 : Int32)) + p3), .unset]) rfl ?_
  refine g_aloadN X2 hx (bb d13_20) rfl rfl ?_
  refine gF X2 hx hZ hown (ww 20 rfl) e2 r1 (bb d13_21) (fun T3 X3 e3 => ?_)
  refine g_iloadN X3 hx (bb d13_24) rfl ?_
  refine gl (fun t => X3.aaload hx (j := ((p2.toUInt32 >>> ((12 : Int32) &&& 31).toUInt32).toInt32)) (v := .null) (by rw [e3]; exact A_on.1) (State.isArrayOf_alike hZ.alike A_on.2.1) rfl A_on.2.2 i_on t_on (g := (mkF m 25 #[vR a1, vI p2, vI p3, vI ((p2.toUInt32 >>> ((12 : Int32) &&& 31).toUInt32).toInt32), vI (((p2 &&& (4095 : Int32)) * (2 : Int32)) + p3), .unset] [(.int ((p2.toUInt32 >>> ((12 : Int32) &&& 31).toUInt32).toInt32)), (.ref on)])) rfl rfl (bb d13_25) t) ?_
  refine g_astore X3 hx (bb d13_26) rfl (l' := #[vR a1, vI p2, vI p3, vI ((p2.toUInt32 >>> ((12 : Int32) &&& 31).toUInt32).toInt32), vI (((p2 &&& (4095 : Int32)) * (2 : Int32)) + p3), .val .null]) rfl ?_
  refine g_aload X3 hx (bb d13_28) rfl rfl ?_
  refine g_ifnullYes X3 hx (pc' := 55) (bb d13_30) (by decide) (by decide) ?_
  refine g_aloadN X3 hx (bb d13_55) rfl rfl ?_
  refine gF X3 hx hZ hown (ww 16 rfl) e3 r2 (bb d13_56) (fun T4 X4 e4 => ?_)
  refine g_iloadN X4 hx (bb d13_59) rfl ?_
  refine gl (fun t => X4.aaload hx (j := ((p2.toUInt32 >>> ((12 : Int32) &&& 31).toUInt32).toInt32)) (v := (.ref oz)) (by rw [e4]; exact A_ow.1) (State.isArrayOf_alike hZ.alike A_ow.2.1) rfl A_ow.2.2 i_ow t_ow (g := (mkF m 60 #[vR a1, vI p2, vI p3, vI ((p2.toUInt32 >>> ((12 : Int32) &&& 31).toUInt32).toInt32), vI (((p2 &&& (4095 : Int32)) * (2 : Int32)) + p3), .val .null] [(.int ((p2.toUInt32 >>> ((12 : Int32) &&& 31).toUInt32).toInt32)), (.ref ow)])) rfl rfl (bb d13_60) t) ?_
  refine g_iload X4 hx (bb d13_61) rfl ?_
  refine gl (fun t => X4.iaload hx (j := (((p2 &&& (4095 : Int32)) * (2 : Int32)) + p3)) (v := (.int ev)) (by rw [e4]; exact A_oz.1) (State.isArrayOf_alike hZ.alike A_oz.2.1) A_oz.2.2 i_oz t_oz (g := (mkF m 63 #[vR a1, vI p2, vI p3, vI ((p2.toUInt32 >>> ((12 : Int32) &&& 31).toUInt32).toInt32), vI (((p2 &&& (4095 : Int32)) * (2 : Int32)) + p3), .val .null] [(.int (((p2 &&& (4095 : Int32)) * (2 : Int32)) + p3)), (.ref oz)])) rfl rfl (bb d13_63) t) ?_
  obtain ⟨fs, hr, hrun, hended, hW, hsame⟩ := X4.leave (v := some (.int ev)) (fun h => by rw [hret] at h; cases h)
  subst hR0
  refine ⟨_, _, ?_, hrun, hended, _, _, rfl, ?_, ⟨_, rfl⟩, hW, hsame.mono (by decide) (by decide)⟩
  · exact retI X4 hx hret (bb d13_64) hr
  · exact ⟨rfl, N0, e4⟩
def Q_widen2_1 (Z : State) (a1 ow on ob ol oh ov : Addr) (kw_ kn_ kb_ kl_ kh_ kv_ : ClassId) (eb0 eb1 el0 el1 eu0 eu1 ev0_0 ev0_1 ex2 ex3 ex4 ex5 ex6 ex7 ex8 ex9 ex10 ex11 ex12 ex13 ex14 ex15 : Int32) (h0 : Heap) (n0 : Nat) (v : Option Value) (h : Heap) (L : List Loc) : Prop := ∃ (oz : Addr) (kz_ : ClassId), v = none ∧ Fr n0 L ∧ Keep h0 h [ow, on] ∧ h0.size ≤ oz ∧ Arv Z h ow kw_ (.array .int) (1 : Int32) [(.ref oz)] .null ∧ Arv Z h on kn_ (.array .char) (1 : Int32) [.null] .null ∧ Arv Z h oz kz_ .int (16 : Int32) [(.int ev0_0), (.int ev0_1), (.int 0), (.int 0), (.int 0), (.int 0), (.int 0), (.int 0), (.int 0), (.int 0), (.int 0), (.int 0), (.int 0), (.int 0), (.int 0), (.int 0)] (.int 0)
set_option maxRecDepth 65536 in
set_option maxHeartbeats 40000000 in
theorem rm_widen2_1 (l : Launch) (Z : State) (a0 : Array Value) (ww : WW a0 Z) (ws : List Jvm.Cond) (a1 ow on ob ol oh ov : Addr) (kw_ kn_ kb_ kl_ kh_ kv_ : ClassId) (eb0 eb1 el0 el1 eu0 eu1 ev0_0 ev0_1 ex2 ex3 ex4 ex5 ex6 ex7 ex8 ex9 ex10 ex11 ex12 ex13 ex14 ex15 : Int32) (h0 : Heap) (n0 : Nat) (Z0 : n0 ≤ h0.size) (O0 : Old Z n0 h0) (S_CS : Sta Z Z.heap cRV "CHUNK_SHIFT" "I" (.int (12 : Int32))) (r0 : Exa Z h0 a1 cRV) (r1 : Fld Z h0 a1 cRV "arity" "I" (.int 2)) (r2 : Fld Z h0 a1 cRV "rows" "I" (.int 1)) (r3 : Fld Z h0 a1 cRV "wide" "[[I" (.ref ow)) (r4 : Fld Z h0 a1 cRV "narrow" "[[C" (.ref on)) (r5 : Fld Z h0 a1 cRV "bases" "[I" (.ref ob)) (r6 : Fld Z h0 a1 cRV "lowest" "[I" (.ref ol)) (r7 : Fld Z h0 a1 cRV "highest" "[I" (.ref oh)) (r8 : Arv Z h0 ow kw_ (.array .int) (1 : Int32) [.null] .null) (r9 : OvrA Z kw_ .int "[I") (r10 : Arv Z h0 on kn_ (.array .char) (1 : Int32) [(.ref ov)] .null) (r11 : OvrA Z kn_ .char "[C") (r12 : Arv Z h0 ob kb_ .int (2 : Int32) [(.int eb0), (.int eb1)] (.int 0)) (r13 : Arv Z h0 ol kl_ .int (2 : Int32) [(.int el0), (.int el1)] (.int 0)) (r14 : Arv Z h0 oh kh_ .int (2 : Int32) [(.int eu0), (.int eu1)] (.int 0)) (r15 : Arv Z h0 ov kv_ .char (16 : Int32) [(.int (nar .char (ev0_0 - eb0))), (.int (nar .char (ev0_1 - eb1))), (.int ex2), (.int ex3), (.int ex4), (.int ex5), (.int ex6), (.int ex7), (.int ex8), (.int ex9), (.int ex10), (.int ex11), (.int ex12), (.int ex13), (.int ex14), (.int ex15)] (.int 0)) (g_ow : n0 ≤ ow) (g_on : n0 ≤ on) (ne_a1_ow : a1 ≠ ow) (ne_a1_on : a1 ≠ on) (ne_a1_ob : a1 ≠ ob) (ne_a1_ol : a1 ≠ ol) (ne_a1_oh : a1 ≠ oh) (ne_a1_ov : a1 ≠ ov) (ne_ow_on : ow ≠ on) (ne_ow_ob : ow ≠ ob) (ne_ow_ol : ow ≠ ol) (ne_ow_oh : ow ≠ oh) (ne_ow_ov : ow ≠ ov) (ne_on_ob : on ≠ ob) (ne_on_ol : on ≠ ol) (ne_on_oh : on ≠ oh) (ne_on_ov : on ≠ ov) (ne_ob_ol : ob ≠ ol) (ne_ob_oh : ob ≠ oh) (ne_ob_ov : ob ≠ ov) (ne_ol_oh : ol ≠ oh) (ne_ol_ov : ol ≠ ov) (ne_oh_ov : oh ≠ ov) (hIn0_0 : ownIn eb0 ev0_0) (hIn0_1 : ownIn eb1 ev0_1) :
    MF l Z (⟨cRV, "widen", "(II)V"⟩ : MethodName) prog_47_method_9_code 6 none ws ({ frames := 1, cells := 1, slots := 16, locals := 19 } : Room) #[(.ref a1), (.int 0), (.int 1)] h0 (Q_widen2_1 Z a1 ow on ob ol oh ov kw_ kn_ kb_ kl_ kh_ kv_ eb0 eb1 el0 el1 eu0 eu1 ev0_0 ev0_1 ex2 ex3 ex4 ex5 ex6 ex7 ex8 ex9 ex10 ex11 ex12 ex13 ex14 ex15 h0 n0) := by
  refine gopen (plainFor_of_name pn_RowValues) (fun m => ef_widen2_1 m a1) (fun p e s m below meth c s₁ hlk hret hx bb hml hown hnm hZ X0 e0 R0 hR0 => ?_)
  have N0 := Fr.nil n0
  refine g_aloadN X0 hx (bb d14_0) rfl rfl ?_
  refine gF X0 hx hZ hown (ww 20 rfl) e0 r4 (bb d14_1) (fun T1 X1 e1 => ?_)
  refine g_iloadN X1 hx (bb d14_4) rfl ?_
  refine gLr rfl X1 hx hZ e1 r10 (v := (.ref ov)) ⟨by decide, by decide⟩ rfl (bb d14_5) ?_
  refine gA X1 hx hZ e1 r15 (bb d14_6) ?_
  obtain ⟨T2, h2, k2, X2, e2, E2, A2, B2, st2⟩ := newPE (aty := .int) X1 hx hZ (ww 4 rfl) e1 (g := (mkF m 7 #[vR a1, vI 0, vI 1, .unset, .unset, .unset] [(.int 16)])) rfl (bb d14_7) rfl (by decide) (cap := 16) (by decide) (by decide) (by decide) (by decide) (ad := "[I") (by decide)
  obtain ⟨b2, q_b2⟩ : ∃ z, z = (h0).size := ⟨_, rfl⟩
  rw [← q_b2] at A2 B2 st2
  have g_b2 : n0 ≤ b2 := Nat.le_trans (own_z0 O0) (Nat.le_of_eq q_b2.symm)
  have sz_b2 : h0.size ≤ b2 := Nat.le_trans (Nat.le_refl _) (Nat.le_of_eq q_b2.symm)
  have ne_a1_b2 : a1 ≠ b2 := Nat.ne_of_lt (Nat.lt_of_lt_of_le r0.lt (Nat.le_of_eq q_b2.symm))
  have ne_ow_b2 : ow ≠ b2 := Nat.ne_of_lt (Nat.lt_of_lt_of_le r8.lt (Nat.le_of_eq q_b2.symm))
  have ne_on_b2 : on ≠ b2 := Nat.ne_of_lt (Nat.lt_of_lt_of_le r10.lt (Nat.le_of_eq q_b2.symm))
  have ne_ob_b2 : ob ≠ b2 := Nat.ne_of_lt (Nat.lt_of_lt_of_le r12.lt (Nat.le_of_eq q_b2.symm))
  have ne_ol_b2 : ol ≠ b2 := Nat.ne_of_lt (Nat.lt_of_lt_of_le r13.lt (Nat.le_of_eq q_b2.symm))
  have ne_oh_b2 : oh ≠ b2 := Nat.ne_of_lt (Nat.lt_of_lt_of_le r14.lt (Nat.le_of_eq q_b2.symm))
  have ne_ov_b2 : ov ≠ b2 := Nat.ne_of_lt (Nat.lt_of_lt_of_le r15.lt (Nat.le_of_eq q_b2.symm))
  refine gl st2 ?_
  have V_b2 : Arv Z h2 b2 k2 .int (16 : Int32) [(.int 0), (.int 0), (.int 0), (.int 0), (.int 0), (.int 0), (.int 0), (.int 0), (.int 0), (.int 0), (.int 0), (.int 0), (.int 0), (.int 0), (.int 0), (.int 0)] (.int 0) := (Arv.new A2 (by decide)).pad (pad_rep [] (.int 0) 16)
  refine g_astoreN X2 hx (bb d14_9) rfl (l' := #[vR a1, vI 0, vI 1, vR b2, .unset, .unset]) rfl ?_
  refine g_iconst X2 hx (bb d14_10) ?_
  refine g_istore X2 hx (bb d14_11) (l' := #[vR a1, vI 0, vI 1, vR b2, vI 0, .unset]) rfl ?_
  refine g_iload X2 hx (bb d14_13) rfl ?_
  refine g_iloadN X2 hx (bb d14_15) rfl ?_
  refine g_icmpNo X2 hx (bb d14_16) (tlt (by decide : (0 : Int32) < (1 : Int32))).2.1 ?_
  refine g_iconst X2 hx (bb d14_19) ?_
  refine g_istore X2 hx (bb d14_20) (l' := #[vR a1, vI 0, vI 1, vR b2, vI 0, vI 0]) rfl ?_
  refine g_iload X2 hx (bb d14_22) rfl ?_
  refine g_aloadN X2 hx (bb d14_24) rfl rfl ?_
  have F4 := (r1.ext E2)
  refine gF X2 hx hZ hown (ww 22 rfl) e2 F4 (bb d14_25) (fun T3 X3 e3 => ?_)
  refine g_icmpNo X3 hx (bb d14_28) (tlt (by decide : (0 : Int32) < (2 : Int32))).2.1 ?_
  refine g_aloadN X3 hx (bb d14_31) rfl rfl ?_
  refine g_iload X3 hx (bb d14_32) rfl ?_
  refine g_aloadN X3 hx (bb d14_34) rfl rfl ?_
  refine gF X3 hx hZ hown (ww 22 rfl) e3 F4 (bb d14_35) (fun T5 X5 e5 => ?_)
  refine g_imul X5 hx (bb d14_38) ?_
  refine g_iload X5 hx (bb d14_39) rfl ?_
  refine g_iadd X5 hx (bb d14_41) ?_
  refine g_aloadN X5 hx (bb d14_42) rfl rfl ?_
  refine g_iloadN X5 hx (bb d14_43) rfl ?_
  refine g_sipush X5 hx (bb d14_44) ?_
  refine g_imul X5 hx (bb d14_47) ?_
  refine g_iload X5 hx (bb d14_48) rfl ?_
  refine g_iadd X5 hx (bb d14_50) ?_
  refine g_iload X5 hx (bb d14_51) rfl ?_
  have F6 := (r10.ext E2)
  obtain ⟨cl7, Ar7, vq7, vS7, vN7, vH7, vG7⟩ := id F6
  have F8 := (r12.ext E2)
  obtain ⟨cl9, Ar9, vq9, vS9, vN9, vH9, vG9⟩ := id F8
  have F10 := (r15.ext E2)
  obtain ⟨cl11, Ar11, vq11, vS11, vN11, vH11, vG11⟩ := id F10
  have F12 := (r4.ext E2)
  have F13 := (r5.ext E2)
  have O15 := (O0.ext E2)
  have F16 := (r0.ext E2)
  refine gcV X5 hx hZ hml hown (ww 88 rfl) (ww 7 rfl) (ww 83 rfl) (ww 80 rfl) (ww 82 rfl) (ww 81 rfl) e5 F16 (rm_get2N l Z a0 ww [] a1 (0 : Int32) (0 : Int32) on ob ov cl7 cl9 cl11 eb0 ev0_0 h2 n0 (own_z0 O15) O15 S_CS F4 F12 F13 Ar7 (inb_of vS7 ⟨by decide, by decide⟩) (vH7.at (inb_of vS7 ⟨by decide, by decide⟩) rfl) Ar9 (inb_of vS9 ⟨by decide, by decide⟩) (vH9.at (inb_of vS9 ⟨by decide, by decide⟩) rfl) Ar11 (inb_of vS11 ⟨by decide, by decide⟩) (vH11.at (inb_of vS11 ⟨by decide, by decide⟩) rfl) hIn0_0) pd__II_I_5 (bb d14_53) 2 rfl (fun T14 L14 v14 X14 hQ14 => ?_)
  obtain ⟨rfl, N14q, e14⟩ := hQ14
  have N14 := Fr.app N0 N14q
  refine gSi X14 hx hZ e14 V_b2 ⟨by decide, by decide⟩ 0 rfl (Nat.le_of_ble_eq_true rfl) N14 g_b2 (bb d14_56) (fun T17 h17 X17 e17 W17 V17 N17 => ?_)
  refine g_iinc X17 hx (bb d14_57) rfl (l' := #[vR a1, vI 0, vI 1, vR b2, vI 0, vI 1]) rfl ?_
  refine g_goto X17 hx (pc' := 22) (bb d14_60) (by decide) (by decide) ?_
  refine g_iload X17 hx (bb d14_22) rfl ?_
  refine g_aloadN X17 hx (bb d14_24) rfl rfl ?_
  have F19 := (F4.other W17 (Or.inl ne_a1_b2))
  refine gF X17 hx hZ hown (ww 22 rfl) e17 F19 (bb d14_25) (fun T18 X18 e18 => ?_)
  refine g_icmpNo X18 hx (bb d14_28) (tlt (by decide : (1 : Int32) < (2 : Int32))).2.1 ?_
  refine g_aloadN X18 hx (bb d14_31) rfl rfl ?_
  refine g_iload X18 hx (bb d14_32) rfl ?_
  refine g_aloadN X18 hx (bb d14_34) rfl rfl ?_
  refine gF X18 hx hZ hown (ww 22 rfl) e18 F19 (bb d14_35) (fun T20 X20 e20 => ?_)
  refine g_imul X20 hx (bb d14_38) ?_
  refine g_iload X20 hx (bb d14_39) rfl ?_
  refine g_iadd X20 hx (bb d14_41) ?_
  refine g_aloadN X20 hx (bb d14_42) rfl rfl ?_
  refine g_iloadN X20 hx (bb d14_43) rfl ?_
  refine g_sipush X20 hx (bb d14_44) ?_
  refine g_imul X20 hx (bb d14_47) ?_
  refine g_iload X20 hx (bb d14_48) rfl ?_
  refine g_iadd X20 hx (bb d14_50) ?_
  refine g_iload X20 hx (bb d14_51) rfl ?_
  have F21 := (F6.other W17 ne_on_b2)
  obtain ⟨cl22, Ar22, vq22, vS22, vN22, vH22, vG22⟩ := id F21
  have F23 := (F8.other W17 ne_ob_b2)
  obtain ⟨cl24, Ar24, vq24, vS24, vN24, vH24, vG24⟩ := id F23
  have F25 := (F10.other W17 ne_ov_b2)
  obtain ⟨cl26, Ar26, vq26, vS26, vN26, vH26, vG26⟩ := id F25
  have F27 := (F12.other W17 (Or.inl ne_a1_b2))
  have F28 := (F13.other W17 (Or.inl ne_a1_b2))
  have O30 := (O15.wr W17 g_b2)
  have F31 := (F16.wr W17)
  refine gcV X20 hx hZ hml hown (ww 88 rfl) (ww 7 rfl) (ww 83 rfl) (ww 80 rfl) (ww 82 rfl) (ww 81 rfl) e20 F31 (rm_get2N l Z a0 ww [] a1 (0 : Int32) (1 : Int32) on ob ov cl22 cl24 cl26 eb1 ev0_1 h17 n0 (own_z0 O30) O30 S_CS F19 F27 F28 Ar22 (inb_of vS22 ⟨by decide, by decide⟩) (vH22.at (inb_of vS22 ⟨by decide, by decide⟩) rfl) Ar24 (inb_of vS24 ⟨by decide, by decide⟩) (vH24.at (inb_of vS24 ⟨by decide, by decide⟩) rfl) Ar26 (inb_of vS26 ⟨by decide, by decide⟩) (vH26.at (inb_of vS26 ⟨by decide, by decide⟩) rfl) hIn0_1) pd__II_I_5 (bb d14_53) 2 rfl (fun T29 L29 v29 X29 hQ29 => ?_)
  obtain ⟨rfl, N29q, e29⟩ := hQ29
  have N29 := Fr.app N17 N29q
  refine gSi X29 hx hZ e29 V17 ⟨by decide, by decide⟩ 1 rfl (Nat.le_of_ble_eq_true rfl) N29 g_b2 (bb d14_56) (fun T32 h32 X32 e32 W32 V32 N32 => ?_)
  refine g_iinc X32 hx (bb d14_57) rfl (l' := #[vR a1, vI 0, vI 1, vR b2, vI 0, vI 2]) rfl ?_
  refine g_goto X32 hx (pc' := 22) (bb d14_60) (by decide) (by decide) ?_
  refine g_iload X32 hx (bb d14_22) rfl ?_
  refine g_aloadN X32 hx (bb d14_24) rfl rfl ?_
  have F34 := (F19.other W32 (Or.inl ne_a1_b2))
  refine gF X32 hx hZ hown (ww 22 rfl) e32 F34 (bb d14_25) (fun T33 X33 e33 => ?_)
  refine g_icmpYes X33 hx (pc' := 63) (bb d14_28) (flt (by decide : ¬ ((2 : Int32) < (2 : Int32)))).2.1 (by decide) (by decide) ?_
  refine g_iinc X33 hx (bb d14_63) rfl (l' := #[vR a1, vI 0, vI 1, vR b2, vI 1, vI 2]) rfl ?_
  refine g_goto X33 hx (pc' := 13) (bb d14_66) (by decide) (by decide) ?_
  refine g_iload X33 hx (bb d14_13) rfl ?_
  refine g_iloadN X33 hx (bb d14_15) rfl ?_
  refine g_icmpYes X33 hx (pc' := 69) (bb d14_16) (flt (by decide : ¬ ((1 : Int32) < (1 : Int32)))).2.1 (by decide) (by decide) ?_
  refine g_aloadN X33 hx (bb d14_69) rfl rfl ?_
  have F36 := (((r3.ext E2).other W17 (Or.inl ne_a1_b2)).other W32 (Or.inl ne_a1_b2))
  refine gF X33 hx hZ hown (ww 16 rfl) e33 F36 (bb d14_70) (fun T35 X35 e35 => ?_)
  refine g_iloadN X35 hx (bb d14_73) rfl ?_
  refine g_aloadN X35 hx (bb d14_74) rfl rfl ?_
  have F37 := (((r8.ext E2).other W17 ne_ow_b2).other W32 ne_ow_b2)
  obtain ⟨cl38, Ar38, vq38, vS38, vN38, vH38, vG38⟩ := id F37
  have hin38 : ¬ (((0 : Int32) : Int32) < 0 ∨ cl38.slots.size ≤ ((0 : Int32) : Int32).toNatClampNeg) := inb_of vS38 ⟨by decide, by decide⟩
  have F39 := ((B2.wr W17).wr W32)
  obtain ⟨T38, h38, X38, e38, W38, st38⟩ := stR X35 hx hZ e35 Ar38 (j := (0 : Int32)) hin38 rfl (Sto.ofVA Ar38 vq38 r9 (Ins.self F39)) (g := (mkF m 75 #[vR a1, vI 0, vI 1, vR b2, vI 1, vI 2] [(.ref b2), (.int 0), (.ref ow)])) rfl rfl (bb d14_75)
  refine gl st38 ?_
  have V38 : Arv Z h38 ow kw_ (.array .int) (1 : Int32) [(.ref b2)] .null := Arv.set Ar38 vq38 vS38 vN38 vH38 vG38 rfl W38 0 rfl (Nat.le_of_ble_eq_true rfl)
  have N38 := Fr.snoc X38 N32 g_ow
  refine g_aloadN X38 hx (bb d14_76) rfl rfl ?_
  have F41 := ((F27.other W32 (Or.inl ne_a1_b2)).other W38 (Or.inl ne_a1_ow))
  refine gF X38 hx hZ hown (ww 20 rfl) e38 F41 (bb d14_77) (fun T40 X40 e40 => ?_)
  refine g_iloadN X40 hx (bb d14_80) rfl ?_
  refine g_aconstNull X40 hx (bb d14_81) ?_
  have F42 := ((F21.other W32 ne_on_b2).other W38 (Ne.symm ne_ow_on))
  obtain ⟨cl43, Ar43, vq43, vS43, vN43, vH43, vG43⟩ := id F42
  have hin43 : ¬ (((0 : Int32) : Int32) < 0 ∨ cl43.slots.size ≤ ((0 : Int32) : Int32).toNatClampNeg) := inb_of vS43 ⟨by decide, by decide⟩
  obtain ⟨T43, h43, X43, e43, W43, st43⟩ := stR X40 hx hZ e40 Ar43 (j := (0 : Int32)) hin43 rfl (Or.inl rfl) (g := (mkF m 82 #[vR a1, vI 0, vI 1, vR b2, vI 1, vI 2] [.null, (.int 0), (.ref on)])) rfl rfl (bb d14_82)
  refine gl st43 ?_
  have V43 : Arv Z h43 on kn_ (.array .char) (1 : Int32) [.null] .null := Arv.set Ar43 vq43 vS43 vN43 vH43 vG43 rfl W43 0 rfl (Nat.le_of_ble_eq_true rfl)
  have N43 := Fr.snoc X43 N38 g_on
  have F44 := (V38.other W43 ne_ow_on)
  have F45 := ((V32.other W38 (Ne.symm ne_ow_b2)).other W43 (Ne.symm ne_on_b2))
  obtain ⟨fs, hr, hrun, hended, hW, hsame⟩ := X43.leave (v := none) (fun _ => rfl)
  subst hR0
  refine ⟨_, _, ?_, hrun, hended, _, _, rfl, ?_, ⟨_, rfl⟩, hW, hsame.mono (by decide) (by decide)⟩
  · exact X43.returnOut hx hret (bb d14_83) hr
  · show Q_widen2_1 Z a1 ow on ob ol oh ov kw_ kn_ kb_ kl_ kh_ kv_ eb0 eb1 el0 el1 eu0 eu1 ev0_0 ev0_1 ex2 ex3 ex4 ex5 ex6 ex7 ex8 ex9 ex10 ex11 ex12 ex13 ex14 ex15 h0 n0 _ T43.heap _
    rw [e43]
    exact ⟨b2, k2, rfl, N43, ((((((Keep.refl h0 [ow, on]).ext E2).wr W17 (Or.inr sz_b2)).wr W32 (Or.inr sz_b2)).wr W38 (Or.inl (List.mem_of_getElem? (i := 0) rfl))).wr W43 (Or.inl (List.mem_of_getElem? (i := 1) rfl))), sz_b2, F44, V43, F45⟩
def Q_fitW2_1 (Z : State) (a1 at_ ow on ob ol oh ov : Addr) (kw_ kn_ kb_ kl_ kh_ kv_ : ClassId) (eb0 eb1 el0 el1 eu0 eu1 ev0_0 ev0_1 ex2 ex3 ex4 ex5 ex6 ex7 ex8 ex9 ex10 ex11 ex12 ex13 ex14 ex15 : Int32) (kt_ : ClassId) (et0 et1 : Int32) (h0 : Heap) (n0 : Nat) (v : Option Value) (h : Heap) (L : List Loc) : Prop := ∃ (oz : Addr) (kz_ : ClassId), v = none ∧ Fr n0 L ∧ Keep h0 h [ow, on] ∧ h0.size ≤ oz ∧ Arv Z h ow kw_ (.array .int) (1 : Int32) [(.ref oz)] .null ∧ Arv Z h on kn_ (.array .char) (1 : Int32) [.null] .null ∧ Arv Z h oz kz_ .int (16 : Int32) [(.int ev0_0), (.int ev0_1), (.int 0), (.int 0), (.int 0), (.int 0), (.int 0), (.int 0), (.int 0), (.int 0), (.int 0), (.int 0), (.int 0), (.int 0), (.int 0), (.int 0)] (.int 0)
set_option maxRecDepth 65536 in
set_option maxHeartbeats 40000000 in
theorem rm_fitW2_1 (l : Launch) (Z : State) (a0 : Array Value) (ww : WW a0 Z) (ws : List Jvm.Cond) (a1 at_ ow on ob ol oh ov : Addr) (kw_ kn_ kb_ kl_ kh_ kv_ : ClassId) (eb0 eb1 el0 el1 eu0 eu1 ev0_0 ev0_1 ex2 ex3 ex4 ex5 ex6 ex7 ex8 ex9 ex10 ex11 ex12 ex13 ex14 ex15 : Int32) (kt_ : ClassId) (et0 et1 : Int32) (h0 : Heap) (n0 : Nat) (Z0 : n0 ≤ h0.size) (O0 : Old Z n0 h0) (S_CS : Sta Z Z.heap cRV "CHUNK_SHIFT" "I" (.int (12 : Int32))) (r0 : Exa Z h0 a1 cRV) (r1 : Fld Z h0 a1 cRV "arity" "I" (.int 2)) (r2 : Fld Z h0 a1 cRV "rows" "I" (.int 1)) (r3 : Fld Z h0 a1 cRV "wide" "[[I" (.ref ow)) (r4 : Fld Z h0 a1 cRV "narrow" "[[C" (.ref on)) (r5 : Fld Z h0 a1 cRV "bases" "[I" (.ref ob)) (r6 : Fld Z h0 a1 cRV "lowest" "[I" (.ref ol)) (r7 : Fld Z h0 a1 cRV "highest" "[I" (.ref oh)) (r8 : Arv Z h0 ow kw_ (.array .int) (1 : Int32) [.null] .null) (r9 : OvrA Z kw_ .int "[I") (r10 : Arv Z h0 on kn_ (.array .char) (1 : Int32) [(.ref ov)] .null) (r11 : OvrA Z kn_ .char "[C") (r12 : Arv Z h0 ob kb_ .int (2 : Int32) [(.int eb0), (.int eb1)] (.int 0)) (r13 : Arv Z h0 ol kl_ .int (2 : Int32) [(.int el0), (.int el1)] (.int 0)) (r14 : Arv Z h0 oh kh_ .int (2 : Int32) [(.int eu0), (.int eu1)] (.int 0)) (r15 : Arv Z h0 ov kv_ .char (16 : Int32) [(.int (nar .char (ev0_0 - eb0))), (.int (nar .char (ev0_1 - eb1))), (.int ex2), (.int ex3), (.int ex4), (.int ex5), (.int ex6), (.int ex7), (.int ex8), (.int ex9), (.int ex10), (.int ex11), (.int ex12), (.int ex13), (.int ex14), (.int ex15)] (.int 0)) (r16 : Arv Z h0 at_ kt_ .int (2 : Int32) [(.int et0), (.int et1)] (.int 0)) (g_ow : n0 ≤ ow) (g_on : n0 ≤ on) (ne_a1_ow : a1 ≠ ow) (ne_a1_on : a1 ≠ on) (ne_a1_ob : a1 ≠ ob) (ne_a1_ol : a1 ≠ ol) (ne_a1_oh : a1 ≠ oh) (ne_a1_ov : a1 ≠ ov) (ne_ow_on : ow ≠ on) (ne_ow_ob : ow ≠ ob) (ne_ow_ol : ow ≠ ol) (ne_ow_oh : ow ≠ oh) (ne_ow_ov : ow ≠ ov) (ne_on_ob : on ≠ ob) (ne_on_ol : on ≠ ol) (ne_on_oh : on ≠ oh) (ne_on_ov : on ≠ ov) (ne_ob_ol : ob ≠ ol) (ne_ob_oh : ob ≠ oh) (ne_ob_ov : ob ≠ ov) (ne_ol_oh : ol ≠ oh) (ne_ol_ov : ol ≠ ov) (ne_oh_ov : oh ≠ ov) (ne_at__a1 : at_ ≠ a1) (ne_at__ow : at_ ≠ ow) (ne_at__on : at_ ≠ on) (ne_at__ob : at_ ≠ ob) (ne_at__ol : at_ ≠ ol) (ne_at__oh : at_ ≠ oh) (ne_at__ov : at_ ≠ ov) (hIn0_0 : ownIn eb0 ev0_0) (hIn0_1 : ownIn eb1 ev0_1) (hWd : ¬ (((lcmpW (((f_maxI et0 eu0).toInt64) - ((f_minI et0 el0).toInt64)) (65536 : Int64)) < (0 : Int32)) ∧ ((lcmpW (((f_maxI et1 eu1).toInt64) - ((f_minI et1 el1).toInt64)) (65536 : Int64)) < (0 : Int32)))) :
    MF l Z (⟨cRV, "fit", "(II[I)V"⟩ : MethodName) prog_47_method_7_code 11 none ws ({ frames := 2, cells := 1, slots := 16, locals := 36 } : Room) #[(.ref a1), (.int 0), (.int 1), (.ref at_)] h0 (Q_fitW2_1 Z a1 at_ ow on ob ol oh ov kw_ kn_ kb_ kl_ kh_ kv_ eb0 eb1 el0 el1 eu0 eu1 ev0_0 ev0_1 ex2 ex3 ex4 ex5 ex6 ex7 ex8 ex9 ex10 ex11 ex12 ex13 ex14 ex15 kt_ et0 et1 h0 n0) := by
  refine gopen (plainFor_of_name pn_RowValues) (fun m => ef_fitW2_1 m a1 at_) (fun p e s m below meth c s₁ hlk hret hx bb hml hown hnm hZ X0 e0 R0 hR0 => ?_)
  have N0 := Fr.nil n0
  refine g_iconst X0 hx (bb d11_0) ?_
  refine g_istore X0 hx (bb d11_1) (l' := #[vR a1, vI 0, vI 1, vR at_, vI 0, .unset, .unset, .unset, .unset, .unset, .unset]) rfl ?_
  refine g_iload X0 hx (bb d11_3) rfl ?_
  refine g_aloadN X0 hx (bb d11_5) rfl rfl ?_
  refine gF X0 hx hZ hown (ww 22 rfl) e0 r1 (bb d11_6) (fun T1 X1 e1 => ?_)
  refine g_icmpNo X1 hx (bb d11_9) (tlt (by decide : (0 : Int32) < (2 : Int32))).2.1 ?_
  refine g_aloadN X1 hx (bb d11_12) rfl rfl ?_
  refine g_iload X1 hx (bb d11_13) rfl ?_
  refine gLi X1 hx hZ e1 r16 (v := (.int et0)) ⟨by decide, by decide⟩ rfl (bb d11_15) ?_
  refine g_aloadN X1 hx (bb d11_16) rfl rfl ?_
  refine gF X1 hx hZ hown (ww 28 rfl) e1 r7 (bb d11_17) (fun T2 X2 e2 => ?_)
  refine g_iload X2 hx (bb d11_20) rfl ?_
  refine gLi X2 hx hZ e2 r14 (v := (.int eu0)) ⟨by decide, by decide⟩ rfl (bb d11_22) ?_
  refine gcS X2 hx hZ hml hown (ww 75 rfl) (ww 58 rfl) (ww 77 rfl) (ww 76 rfl) e2 (rm_maxI l Z a0 ww [] et0 eu0 h0 n0 (own_z0 O0) O0 S_CS) pd__II_I_5 (bb d11_23) 0 rfl (fun T3 L3 v3 X3 hQ3 => ?_)
  obtain ⟨rfl, N3q, e3⟩ := hQ3
  have N3 := Fr.app N0 N3q
  refine g_i2l X3 hx (bb d11_26) ?_
  refine g_aloadN X3 hx (bb d11_27) rfl rfl ?_
  refine g_iload X3 hx (bb d11_28) rfl ?_
  refine gLi X3 hx hZ e3 r16 (v := (.int et0)) ⟨by decide, by decide⟩ rfl (bb d11_30) ?_
  refine g_aloadN X3 hx (bb d11_31) rfl rfl ?_
  refine gF X3 hx hZ hown (ww 26 rfl) e3 r6 (bb d11_32) (fun T4 X4 e4 => ?_)
  refine g_iload X4 hx (bb d11_35) rfl ?_
  refine gLi X4 hx hZ e4 r13 (v := (.int el0)) ⟨by decide, by decide⟩ rfl (bb d11_37) ?_
  refine gcS X4 hx hZ hml hown (ww 68 rfl) (ww 58 rfl) (ww 70 rfl) (ww 69 rfl) e4 (rm_minI l Z a0 ww [] et0 el0 h0 n0 (own_z0 O0) O0 S_CS) pd__II_I_5 (bb d11_38) 2 rfl (fun T5 L5 v5 X5 hQ5 => ?_)
  obtain ⟨rfl, N5q, e5⟩ := hQ5
  have N5 := Fr.app N3 N5q
  refine g_i2l X5 hx (bb d11_41) ?_
  refine g_lsub X5 hx (bb d11_42) ?_
  refine g_lstore X5 hx (bb d11_43) (l' := #[vR a1, vI 0, vI 1, vR at_, vI 0, vJ (((f_maxI et0 eu0).toInt64) - ((f_minI et0 el0).toInt64)), .second, .unset, .unset, .unset, .unset]) rfl ?_
  refine g_lload X5 hx (bb d11_45) rfl ?_
  refine gJ X5 hx hZ hown (ww 78 rfl) (bb d11_47) ?_
  refine g_lcmp X5 hx (bb d11_50) ?_
  by_cases g6 : (lcmpW (((f_maxI et0 eu0).toInt64) - ((f_minI et0 el0).toInt64)) (65536 : Int64)) < (0 : Int32)
  · skip
    refine g_ifYes X5 hx (pc' := 61) (bb d11_51) ((if0 _ _).trans (tlt g6).1) (by decide) (by decide) ?_
    refine g_iinc X5 hx (bb d11_61) rfl (l' := #[vR a1, vI 0, vI 1, vR at_, vI 1, vJ (((f_maxI et0 eu0).toInt64) - ((f_minI et0 el0).toInt64)), .second, .unset, .unset, .unset, .unset]) rfl ?_
    refine g_goto X5 hx (pc' := 3) (bb d11_64) (by decide) (by decide) ?_
    refine g_iload X5 hx (bb d11_3) rfl ?_
    refine g_aloadN X5 hx (bb d11_5) rfl rfl ?_
    refine gF X5 hx hZ hown (ww 22 rfl) e5 r1 (bb d11_6) (fun T7 X7 e7 => ?_)
    refine g_icmpNo X7 hx (bb d11_9) (tlt (by decide : (1 : Int32) < (2 : Int32))).2.1 ?_
    refine g_aloadN X7 hx (bb d11_12) rfl rfl ?_
    refine g_iload X7 hx (bb d11_13) rfl ?_
    refine gLi X7 hx hZ e7 r16 (v := (.int et1)) ⟨by decide, by decide⟩ rfl (bb d11_15) ?_
    refine g_aloadN X7 hx (bb d11_16) rfl rfl ?_
    refine gF X7 hx hZ hown (ww 28 rfl) e7 r7 (bb d11_17) (fun T8 X8 e8 => ?_)
    refine g_iload X8 hx (bb d11_20) rfl ?_
    refine gLi X8 hx hZ e8 r14 (v := (.int eu1)) ⟨by decide, by decide⟩ rfl (bb d11_22) ?_
    refine gcS X8 hx hZ hml hown (ww 75 rfl) (ww 58 rfl) (ww 77 rfl) (ww 76 rfl) e8 (rm_maxI l Z a0 ww [] et1 eu1 h0 n0 (own_z0 O0) O0 S_CS) pd__II_I_5 (bb d11_23) 0 rfl (fun T9 L9 v9 X9 hQ9 => ?_)
    obtain ⟨rfl, N9q, e9⟩ := hQ9
    have N9 := Fr.app N5 N9q
    refine g_i2l X9 hx (bb d11_26) ?_
    refine g_aloadN X9 hx (bb d11_27) rfl rfl ?_
    refine g_iload X9 hx (bb d11_28) rfl ?_
    refine gLi X9 hx hZ e9 r16 (v := (.int et1)) ⟨by decide, by decide⟩ rfl (bb d11_30) ?_
    refine g_aloadN X9 hx (bb d11_31) rfl rfl ?_
    refine gF X9 hx hZ hown (ww 26 rfl) e9 r6 (bb d11_32) (fun T10 X10 e10 => ?_)
    refine g_iload X10 hx (bb d11_35) rfl ?_
    refine gLi X10 hx hZ e10 r13 (v := (.int el1)) ⟨by decide, by decide⟩ rfl (bb d11_37) ?_
    refine gcS X10 hx hZ hml hown (ww 68 rfl) (ww 58 rfl) (ww 70 rfl) (ww 69 rfl) e10 (rm_minI l Z a0 ww [] et1 el1 h0 n0 (own_z0 O0) O0 S_CS) pd__II_I_5 (bb d11_38) 2 rfl (fun T11 L11 v11 X11 hQ11 => ?_)
    obtain ⟨rfl, N11q, e11⟩ := hQ11
    have N11 := Fr.app N9 N11q
    refine g_i2l X11 hx (bb d11_41) ?_
    refine g_lsub X11 hx (bb d11_42) ?_
    refine g_lstore X11 hx (bb d11_43) (l' := #[vR a1, vI 0, vI 1, vR at_, vI 1, vJ (((f_maxI et1 eu1).toInt64) - ((f_minI et1 el1).toInt64)), .second, .unset, .unset, .unset, .unset]) rfl ?_
    refine g_lload X11 hx (bb d11_45) rfl ?_
    refine gJ X11 hx hZ hown (ww 78 rfl) (bb d11_47) ?_
    refine g_lcmp X11 hx (bb d11_50) ?_
    refine g_ifNo X11 hx (bb d11_51) ((if0 _ _).trans (flt (fun q => hWd ⟨g6, q⟩)).1) ?_
    refine g_aloadN X11 hx (bb d11_54) rfl rfl ?_
    refine g_iloadN X11 hx (bb d11_55) rfl ?_
    refine g_iloadN X11 hx (bb d11_56) rfl ?_
    refine gcP X11 hx hZ hml hown (ww 84 rfl) (ww 7 rfl) (ww 87 rfl) (ww 6 rfl) (ww 85 rfl) (ww 86 rfl) e11 r0 (rm_widen2_1 l Z a0 ww [] a1 ow on ob ol oh ov kw_ kn_ kb_ kl_ kh_ kv_ eb0 eb1 el0 el1 eu0 eu1 ev0_0 ev0_1 ex2 ex3 ex4 ex5 ex6 ex7 ex8 ex9 ex10 ex11 ex12 ex13 ex14 ex15 h0 n0 (own_z0 O0) O0 S_CS r0 r1 r2 r3 r4 r5 r6 r7 r8 r9 r10 r11 r12 r13 r14 r15 g_ow g_on ne_a1_ow ne_a1_on ne_a1_ob ne_a1_ol ne_a1_oh ne_a1_ov ne_ow_on ne_ow_ob ne_ow_ol ne_ow_oh ne_ow_ov ne_on_ob ne_on_ol ne_on_oh ne_on_ov ne_ob_ol ne_ob_oh ne_ob_ov ne_ol_oh ne_ol_ov ne_oh_ov hIn0_0 hIn0_1) pd__II_V_5 (bb d11_57) 0 rfl (fun T12 L12 v12 X12 hQ12 => ?_)
    obtain ⟨oz12, kz_12, rfl, N12q, K12, szz_oz12, f12_0, f12_1, f12_2⟩ := hQ12
    have N12 := Fr.app N11 N12q
    have g_oz12 : n0 ≤ oz12 := Nat.le_trans (own_z0 O0) szz_oz12
    have sz_oz12 : h0.size ≤ oz12 := Nat.le_trans (Nat.le_refl _) szz_oz12
    have ne_a1_oz12 : a1 ≠ oz12 := Nat.ne_of_lt (Nat.lt_of_lt_of_le r0.lt szz_oz12)
    have ne_ow_oz12 : ow ≠ oz12 := Nat.ne_of_lt (Nat.lt_of_lt_of_le r8.lt szz_oz12)
    have ne_on_oz12 : on ≠ oz12 := Nat.ne_of_lt (Nat.lt_of_lt_of_le r10.lt szz_oz12)
    have ne_ob_oz12 : ob ≠ oz12 := Nat.ne_of_lt (Nat.lt_of_lt_of_le r12.lt szz_oz12)
    have ne_ol_oz12 : ol ≠ oz12 := Nat.ne_of_lt (Nat.lt_of_lt_of_le r13.lt szz_oz12)
    have ne_oh_oz12 : oh ≠ oz12 := Nat.ne_of_lt (Nat.lt_of_lt_of_le r14.lt szz_oz12)
    have ne_ov_oz12 : ov ≠ oz12 := Nat.ne_of_lt (Nat.lt_of_lt_of_le r15.lt szz_oz12)
    have ne_at__oz12 : at_ ≠ oz12 := Nat.ne_of_lt (Nat.lt_of_lt_of_le r16.lt szz_oz12)
    obtain ⟨fs, hr, hrun, hended, hW, hsame⟩ := X12.leave (v := none) (fun _ => rfl)
    subst hR0
    refine ⟨_, _, ?_, hrun, hended, _, _, rfl, ?_, ⟨_, rfl⟩, hW, hsame.mono (by decide) (by decide)⟩
    · exact X12.returnOut hx hret (bb d11_60) hr
    · show Q_fitW2_1 Z a1 at_ ow on ob ol oh ov kw_ kn_ kb_ kl_ kh_ kv_ eb0 eb1 el0 el1 eu0 eu1 ev0_0 ev0_1 ex2 ex3 ex4 ex5 ex6 ex7 ex8 ex9 ex10 ex11 ex12 ex13 ex14 ex15 kt_ et0 et1 h0 n0 _ T12.heap _
      exact ⟨oz12, kz_12, rfl, N12, ((Keep.refl h0 [ow, on]).trans K12 (allS (Or.inl (List.mem_of_getElem? (i := 0) rfl)) (allS (Or.inl (List.mem_of_getElem? (i := 1) rfl)) all0))), sz_oz12, f12_0, f12_1, f12_2⟩
  · skip
    refine g_ifNo X5 hx (bb d11_51) ((if0 _ _).trans (flt g6).1) ?_
    refine g_aloadN X5 hx (bb d11_54) rfl rfl ?_
    refine g_iloadN X5 hx (bb d11_55) rfl ?_
    refine g_iloadN X5 hx (bb d11_56) rfl ?_
    refine gcP X5 hx hZ hml hown (ww 84 rfl) (ww 7 rfl) (ww 87 rfl) (ww 6 rfl) (ww 85 rfl) (ww 86 rfl) e5 r0 (rm_widen2_1 l Z a0 ww [] a1 ow on ob ol oh ov kw_ kn_ kb_ kl_ kh_ kv_ eb0 eb1 el0 el1 eu0 eu1 ev0_0 ev0_1 ex2 ex3 ex4 ex5 ex6 ex7 ex8 ex9 ex10 ex11 ex12 ex13 ex14 ex15 h0 n0 (own_z0 O0) O0 S_CS r0 r1 r2 r3 r4 r5 r6 r7 r8 r9 r10 r11 r12 r13 r14 r15 g_ow g_on ne_a1_ow ne_a1_on ne_a1_ob ne_a1_ol ne_a1_oh ne_a1_ov ne_ow_on ne_ow_ob ne_ow_ol ne_ow_oh ne_ow_ov ne_on_ob ne_on_ol ne_on_oh ne_on_ov ne_ob_ol ne_ob_oh ne_ob_ov ne_ol_oh ne_ol_ov ne_oh_ov hIn0_0 hIn0_1) pd__II_V_5 (bb d11_57) 0 rfl (fun T13 L13 v13 X13 hQ13 => ?_)
    obtain ⟨oz13, kz_13, rfl, N13q, K13, szz_oz13, f13_0, f13_1, f13_2⟩ := hQ13
    have N13 := Fr.app N5 N13q
    have g_oz13 : n0 ≤ oz13 := Nat.le_trans (own_z0 O0) szz_oz13
    have sz_oz13 : h0.size ≤ oz13 := Nat.le_trans (Nat.le_refl _) szz_oz13
    have ne_a1_oz13 : a1 ≠ oz13 := Nat.ne_of_lt (Nat.lt_of_lt_of_le r0.lt szz_oz13)
    have ne_ow_oz13 : ow ≠ oz13 := Nat.ne_of_lt (Nat.lt_of_lt_of_le r8.lt szz_oz13)
    have ne_on_oz13 : on ≠ oz13 := Nat.ne_of_lt (Nat.lt_of_lt_of_le r10.lt szz_oz13)
    have ne_ob_oz13 : ob ≠ oz13 := Nat.ne_of_lt (Nat.lt_of_lt_of_le r12.lt szz_oz13)
    have ne_ol_oz13 : ol ≠ oz13 := Nat.ne_of_lt (Nat.lt_of_lt_of_le r13.lt szz_oz13)
    have ne_oh_oz13 : oh ≠ oz13 := Nat.ne_of_lt (Nat.lt_of_lt_of_le r14.lt szz_oz13)
    have ne_ov_oz13 : ov ≠ oz13 := Nat.ne_of_lt (Nat.lt_of_lt_of_le r15.lt szz_oz13)
    have ne_at__oz13 : at_ ≠ oz13 := Nat.ne_of_lt (Nat.lt_of_lt_of_le r16.lt szz_oz13)
    obtain ⟨fs, hr, hrun, hended, hW, hsame⟩ := X13.leave (v := none) (fun _ => rfl)
    subst hR0
    refine ⟨_, _, ?_, hrun, hended, _, _, rfl, ?_, ⟨_, rfl⟩, hW, hsame.mono (by decide) (by decide)⟩
    · exact X13.returnOut hx hret (bb d11_60) hr
    · show Q_fitW2_1 Z a1 at_ ow on ob ol oh ov kw_ kn_ kb_ kl_ kh_ kv_ eb0 eb1 el0 el1 eu0 eu1 ev0_0 ev0_1 ex2 ex3 ex4 ex5 ex6 ex7 ex8 ex9 ex10 ex11 ex12 ex13 ex14 ex15 kt_ et0 et1 h0 n0 _ T13.heap _
      exact ⟨oz13, kz_13, rfl, N13, ((Keep.refl h0 [ow, on]).trans K13 (allS (Or.inl (List.mem_of_getElem? (i := 0) rfl)) (allS (Or.inl (List.mem_of_getElem? (i := 1) rfl)) all0))), sz_oz13, f13_0, f13_1, f13_2⟩
def Q_widen2_2 (Z : State) (a1 ow on ob ol oh ov : Addr) (kw_ kn_ kb_ kl_ kh_ kv_ : ClassId) (eb0 eb1 el0 el1 eu0 eu1 ev0_0 ev0_1 ev1_0 ev1_1 ex4 ex5 ex6 ex7 ex8 ex9 ex10 ex11 ex12 ex13 ex14 ex15 : Int32) (h0 : Heap) (n0 : Nat) (v : Option Value) (h : Heap) (L : List Loc) : Prop := ∃ (oz : Addr) (kz_ : ClassId), v = none ∧ Fr n0 L ∧ Keep h0 h [ow, on] ∧ h0.size ≤ oz ∧ Arv Z h ow kw_ (.array .int) (1 : Int32) [(.ref oz)] .null ∧ Arv Z h on kn_ (.array .char) (1 : Int32) [.null] .null ∧ Arv Z h oz kz_ .int (16 : Int32) [(.int ev0_0), (.int ev0_1), (.int ev1_0), (.int ev1_1), (.int 0), (.int 0), (.int 0), (.int 0), (.int 0), (.int 0), (.int 0), (.int 0), (.int 0), (.int 0), (.int 0), (.int 0)] (.int 0)
set_option maxRecDepth 65536 in
set_option maxHeartbeats 40000000 in
theorem rm_widen2_2 (l : Launch) (Z : State) (a0 : Array Value) (ww : WW a0 Z) (ws : List Jvm.Cond) (a1 ow on ob ol oh ov : Addr) (kw_ kn_ kb_ kl_ kh_ kv_ : ClassId) (eb0 eb1 el0 el1 eu0 eu1 ev0_0 ev0_1 ev1_0 ev1_1 ex4 ex5 ex6 ex7 ex8 ex9 ex10 ex11 ex12 ex13 ex14 ex15 : Int32) (h0 : Heap) (n0 : Nat) (Z0 : n0 ≤ h0.size) (O0 : Old Z n0 h0) (S_CS : Sta Z Z.heap cRV "CHUNK_SHIFT" "I" (.int (12 : Int32))) (r0 : Exa Z h0 a1 cRV) (r1 : Fld Z h0 a1 cRV "arity" "I" (.int 2)) (r2 : Fld Z h0 a1 cRV "rows" "I" (.int 2)) (r3 : Fld Z h0 a1 cRV "wide" "[[I" (.ref ow)) (r4 : Fld Z h0 a1 cRV "narrow" "[[C" (.ref on)) (r5 : Fld Z h0 a1 cRV "bases" "[I" (.ref ob)) (r6 : Fld Z h0 a1 cRV "lowest" "[I" (.ref ol)) (r7 : Fld Z h0 a1 cRV "highest" "[I" (.ref oh)) (r8 : Arv Z h0 ow kw_ (.array .int) (1 : Int32) [.null] .null) (r9 : OvrA Z kw_ .int "[I") (r10 : Arv Z h0 on kn_ (.array .char) (1 : Int32) [(.ref ov)] .null) (r11 : OvrA Z kn_ .char "[C") (r12 : Arv Z h0 ob kb_ .int (2 : Int32) [(.int eb0), (.int eb1)] (.int 0)) (r13 : Arv Z h0 ol kl_ .int (2 : Int32) [(.int el0), (.int el1)] (.int 0)) (r14 : Arv Z h0 oh kh_ .int (2 : Int32) [(.int eu0), (.int eu1)] (.int 0)) (r15 : Arv Z h0 ov kv_ .char (16 : Int32) [(.int (nar .char (ev0_0 - eb0))), (.int (nar .char (ev0_1 - eb1))), (.int (nar .char (ev1_0 - eb0))), (.int (nar .char (ev1_1 - eb1))), (.int ex4), (.int ex5), (.int ex6), (.int ex7), (.int ex8), (.int ex9), (.int ex10), (.int ex11), (.int ex12), (.int ex13), (.int ex14), (.int ex15)] (.int 0)) (g_ow : n0 ≤ ow) (g_on : n0 ≤ on) (ne_a1_ow : a1 ≠ ow) (ne_a1_on : a1 ≠ on) (ne_a1_ob : a1 ≠ ob) (ne_a1_ol : a1 ≠ ol) (ne_a1_oh : a1 ≠ oh) (ne_a1_ov : a1 ≠ ov) (ne_ow_on : ow ≠ on) (ne_ow_ob : ow ≠ ob) (ne_ow_ol : ow ≠ ol) (ne_ow_oh : ow ≠ oh) (ne_ow_ov : ow ≠ ov) (ne_on_ob : on ≠ ob) (ne_on_ol : on ≠ ol) (ne_on_oh : on ≠ oh) (ne_on_ov : on ≠ ov) (ne_ob_ol : ob ≠ ol) (ne_ob_oh : ob ≠ oh) (ne_ob_ov : ob ≠ ov) (ne_ol_oh : ol ≠ oh) (ne_ol_ov : ol ≠ ov) (ne_oh_ov : oh ≠ ov) (hIn0_0 : ownIn eb0 ev0_0) (hIn0_1 : ownIn eb1 ev0_1) (hIn1_0 : ownIn eb0 ev1_0) (hIn1_1 : ownIn eb1 ev1_1) :
    MF l Z (⟨cRV, "widen", "(II)V"⟩ : MethodName) prog_47_method_9_code 6 none ws ({ frames := 1, cells := 1, slots := 16, locals := 19 } : Room) #[(.ref a1), (.int 0), (.int 2)] h0 (Q_widen2_2 Z a1 ow on ob ol oh ov kw_ kn_ kb_ kl_ kh_ kv_ eb0 eb1 el0 el1 eu0 eu1 ev0_0 ev0_1 ev1_0 ev1_1 ex4 ex5 ex6 ex7 ex8 ex9 ex10 ex11 ex12 ex13 ex14 ex15 h0 n0) := by
  refine gopen (plainFor_of_name pn_RowValues) (fun m => ef_widen2_2 m a1) (fun p e s m below meth c s₁ hlk hret hx bb hml hown hnm hZ X0 e0 R0 hR0 => ?_)
  have N0 := Fr.nil n0
  refine g_aloadN X0 hx (bb d14_0) rfl rfl ?_
  refine gF X0 hx hZ hown (ww 20 rfl) e0 r4 (bb d14_1) (fun T1 X1 e1 => ?_)
  refine g_iloadN X1 hx (bb d14_4) rfl ?_
  refine gLr rfl X1 hx hZ e1 r10 (v := (.ref ov)) ⟨by decide, by decide⟩ rfl (bb d14_5) ?_
  refine gA X1 hx hZ e1 r15 (bb d14_6) ?_
  obtain ⟨T2, h2, k2, X2, e2, E2, A2, B2, st2⟩ := newPE (aty := .int) X1 hx hZ (ww 4 rfl) e1 (g := (mkF m 7 #[vR a1, vI 0, vI 2, .unset, .unset, .unset] [(.int 16)])) rfl (bb d14_7) rfl (by decide) (cap := 16) (by decide) (by decide) (by decide) (by decide) (ad := "[I") (by decide)
  obtain ⟨b2, q_b2⟩ : ∃ z, z = (h0).size := ⟨_, rfl⟩
  rw [← q_b2] at A2 B2 st2
  have g_b2 : n0 ≤ b2 := Nat.le_trans (own_z0 O0) (Nat.le_of_eq q_b2.symm)
  have sz_b2 : h0.size ≤ b2 := Nat.le_trans (Nat.le_refl _) (Nat.le_of_eq q_b2.symm)
  have ne_a1_b2 : a1 ≠ b2 := Nat.ne_of_lt (Nat.lt_of_lt_of_le r0.lt (Nat.le_of_eq q_b2.symm))
  have ne_ow_b2 : ow ≠ b2 := Nat.ne_of_lt (Nat.lt_of_lt_of_le r8.lt (Nat.le_of_eq q_b2.symm))
  have ne_on_b2 : on ≠ b2 := Nat.ne_of_lt (Nat.lt_of_lt_of_le r10.lt (Nat.le_of_eq q_b2.symm))
  have ne_ob_b2 : ob ≠ b2 := Nat.ne_of_lt (Nat.lt_of_lt_of_le r12.lt (Nat.le_of_eq q_b2.symm))
  have ne_ol_b2 : ol ≠ b2 := Nat.ne_of_lt (Nat.lt_of_lt_of_le r13.lt (Nat.le_of_eq q_b2.symm))
  have ne_oh_b2 : oh ≠ b2 := Nat.ne_of_lt (Nat.lt_of_lt_of_le r14.lt (Nat.le_of_eq q_b2.symm))
  have ne_ov_b2 : ov ≠ b2 := Nat.ne_of_lt (Nat.lt_of_lt_of_le r15.lt (Nat.le_of_eq q_b2.symm))
  refine gl st2 ?_
  have V_b2 : Arv Z h2 b2 k2 .int (16 : Int32) [(.int 0), (.int 0), (.int 0), (.int 0), (.int 0), (.int 0), (.int 0), (.int 0), (.int 0), (.int 0), (.int 0), (.int 0), (.int 0), (.int 0), (.int 0), (.int 0)] (.int 0) := (Arv.new A2 (by decide)).pad (pad_rep [] (.int 0) 16)
  refine g_astoreN X2 hx (bb d14_9) rfl (l' := #[vR a1, vI 0, vI 2, vR b2, .unset, .unset]) rfl ?_
  refine g_iconst X2 hx (bb d14_10) ?_
  refine g_istore X2 hx (bb d14_11) (l' := #[vR a1, vI 0, vI 2, vR b2, vI 0, .unset]) rfl ?_
  refine g_iload X2 hx (bb d14_13) rfl ?_
  refine g_iloadN X2 hx (bb d14_15) rfl ?_
  refine g_icmpNo X2 hx (bb d14_16) (tlt (by decide : (0 : Int32) < (2 : Int32))).2.1 ?_
  refine g_iconst X2 hx (bb d14_19) ?_
  refine g_istore X2 hx (bb d14_20) (l' := #[vR a1, vI 0, vI 2, vR b2, vI 0, vI 0]) rfl ?_
  refine g_iload X2 hx (bb d14_22) rfl ?_
  refine g_aloadN X2 hx (bb d14_24) rfl rfl ?_
  have F4 := (r1.ext E2)
  refine gF X2 hx hZ hown (ww 22 rfl) e2 F4 (bb d14_25) (fun T3 X3 e3 => ?_)
  refine g_icmpNo X3 hx (bb d14_28) (tlt (by decide : (0 : Int32) < (2 : Int32))).2.1 ?_
  refine g_aloadN X3 hx (bb d14_31) rfl rfl ?_
  refine g_iload X3 hx (bb d14_32) rfl ?_
  refine g_aloadN X3 hx (bb d14_34) rfl rfl ?_
  refine gF X3 hx hZ hown (ww 22 rfl) e3 F4 (bb d14_35) (fun T5 X5 e5 => ?_)
  refine g_imul X5 hx (bb d14_38) ?_
  refine g_iload X5 hx (bb d14_39) rfl ?_
  refine g_iadd X5 hx (bb d14_41) ?_
  refine g_aloadN X5 hx (bb d14_42) rfl rfl ?_
  refine g_iloadN X5 hx (bb d14_43) rfl ?_
  refine g_sipush X5 hx (bb d14_44) ?_
  refine g_imul X5 hx (bb d14_47) ?_
  refine g_iload X5 hx (bb d14_48) rfl ?_
  refine g_iadd X5 hx (bb d14_50) ?_
  refine g_iload X5 hx (bb d14_51) rfl ?_
  have F6 := (r10.ext E2)
  obtain ⟨cl7, Ar7, vq7, vS7, vN7, vH7, vG7⟩ := id F6
  have F8 := (r12.ext E2)
  obtain ⟨cl9, Ar9, vq9, vS9, vN9, vH9, vG9⟩ := id F8
  have F10 := (r15.ext E2)
  obtain ⟨cl11, Ar11, vq11, vS11, vN11, vH11, vG11⟩ := id F10
  have F12 := (r4.ext E2)
  have F13 := (r5.ext E2)
  have O15 := (O0.ext E2)
  have F16 := (r0.ext E2)
  refine gcV X5 hx hZ hml hown (ww 88 rfl) (ww 7 rfl) (ww 83 rfl) (ww 80 rfl) (ww 82 rfl) (ww 81 rfl) e5 F16 (rm_get2N l Z a0 ww [] a1 (0 : Int32) (0 : Int32) on ob ov cl7 cl9 cl11 eb0 ev0_0 h2 n0 (own_z0 O15) O15 S_CS F4 F12 F13 Ar7 (inb_of vS7 ⟨by decide, by decide⟩) (vH7.at (inb_of vS7 ⟨by decide, by decide⟩) rfl) Ar9 (inb_of vS9 ⟨by decide, by decide⟩) (vH9.at (inb_of vS9 ⟨by decide, by decide⟩) rfl) Ar11 (inb_of vS11 ⟨by decide, by decide⟩) (vH11.at (inb_of vS11 ⟨by decide, by decide⟩) rfl) hIn0_0) pd__II_I_5 (bb d14_53) 2 rfl (fun T14 L14 v14 X14 hQ14 => ?_)
  obtain ⟨rfl, N14q, e14⟩ := hQ14
  have N14 := Fr.app N0 N14q
  refine gSi X14 hx hZ e14 V_b2 ⟨by decide, by decide⟩ 0 rfl (Nat.le_of_ble_eq_true rfl) N14 g_b2 (bb d14_56) (fun T17 h17 X17 e17 W17 V17 N17 => ?_)
  refine g_iinc X17 hx (bb d14_57) rfl (l' := #[vR a1, vI 0, vI 2, vR b2, vI 0, vI 1]) rfl ?_
  refine g_goto X17 hx (pc' := 22) (bb d14_60) (by decide) (by decide) ?_
  refine g_iload X17 hx (bb d14_22) rfl ?_
  refine g_aloadN X17 hx (bb d14_24) rfl rfl ?_
  have F19 := (F4.other W17 (Or.inl ne_a1_b2))
  refine gF X17 hx hZ hown (ww 22 rfl) e17 F19 (bb d14_25) (fun T18 X18 e18 => ?_)
  refine g_icmpNo X18 hx (bb d14_28) (tlt (by decide : (1 : Int32) < (2 : Int32))).2.1 ?_
  refine g_aloadN X18 hx (bb d14_31) rfl rfl ?_
  refine g_iload X18 hx (bb d14_32) rfl ?_
  refine g_aloadN X18 hx (bb d14_34) rfl rfl ?_
  refine gF X18 hx hZ hown (ww 22 rfl) e18 F19 (bb d14_35) (fun T20 X20 e20 => ?_)
  refine g_imul X20 hx (bb d14_38) ?_
  refine g_iload X20 hx (bb d14_39) rfl ?_
  refine g_iadd X20 hx (bb d14_41) ?_
  refine g_aloadN X20 hx (bb d14_42) rfl rfl ?_
  refine g_iloadN X20 hx (bb d14_43) rfl ?_
  refine g_sipush X20 hx (bb d14_44) ?_
  refine g_imul X20 hx (bb d14_47) ?_
  refine g_iload X20 hx (bb d14_48) rfl ?_
  refine g_iadd X20 hx (bb d14_50) ?_
  refine g_iload X20 hx (bb d14_51) rfl ?_
  have F21 := (F6.other W17 ne_on_b2)
  obtain ⟨cl22, Ar22, vq22, vS22, vN22, vH22, vG22⟩ := id F21
  have F23 := (F8.other W17 ne_ob_b2)
  obtain ⟨cl24, Ar24, vq24, vS24, vN24, vH24, vG24⟩ := id F23
  have F25 := (F10.other W17 ne_ov_b2)
  obtain ⟨cl26, Ar26, vq26, vS26, vN26, vH26, vG26⟩ := id F25
  have F27 := (F12.other W17 (Or.inl ne_a1_b2))
  have F28 := (F13.other W17 (Or.inl ne_a1_b2))
  have O30 := (O15.wr W17 g_b2)
  have F31 := (F16.wr W17)
  refine gcV X20 hx hZ hml hown (ww 88 rfl) (ww 7 rfl) (ww 83 rfl) (ww 80 rfl) (ww 82 rfl) (ww 81 rfl) e20 F31 (rm_get2N l Z a0 ww [] a1 (0 : Int32) (1 : Int32) on ob ov cl22 cl24 cl26 eb1 ev0_1 h17 n0 (own_z0 O30) O30 S_CS F19 F27 F28 Ar22 (inb_of vS22 ⟨by decide, by decide⟩) (vH22.at (inb_of vS22 ⟨by decide, by decide⟩) rfl) Ar24 (inb_of vS24 ⟨by decide, by decide⟩) (vH24.at (inb_of vS24 ⟨by decide, by decide⟩) rfl) Ar26 (inb_of vS26 ⟨by decide, by decide⟩) (vH26.at (inb_of vS26 ⟨by decide, by decide⟩) rfl) hIn0_1) pd__II_I_5 (bb d14_53) 2 rfl (fun T29 L29 v29 X29 hQ29 => ?_)
  obtain ⟨rfl, N29q, e29⟩ := hQ29
  have N29 := Fr.app N17 N29q
  refine gSi X29 hx hZ e29 V17 ⟨by decide, by decide⟩ 1 rfl (Nat.le_of_ble_eq_true rfl) N29 g_b2 (bb d14_56) (fun T32 h32 X32 e32 W32 V32 N32 => ?_)
  refine g_iinc X32 hx (bb d14_57) rfl (l' := #[vR a1, vI 0, vI 2, vR b2, vI 0, vI 2]) rfl ?_
  refine g_goto X32 hx (pc' := 22) (bb d14_60) (by decide) (by decide) ?_
  refine g_iload X32 hx (bb d14_22) rfl ?_
  refine g_aloadN X32 hx (bb d14_24) rfl rfl ?_
  have F34 := (F19.other W32 (Or.inl ne_a1_b2))
  refine gF X32 hx hZ hown (ww 22 rfl) e32 F34 (bb d14_25) (fun T33 X33 e33 => ?_)
  refine g_icmpYes X33 hx (pc' := 63) (bb d14_28) (flt (by decide : ¬ ((2 : Int32) < (2 : Int32)))).2.1 (by decide) (by decide) ?_
  refine g_iinc X33 hx (bb d14_63) rfl (l' := #[vR a1, vI 0, vI 2, vR b2, vI 1, vI 2]) rfl ?_
  refine g_goto X33 hx (pc' := 13) (bb d14_66) (by decide) (by decide) ?_
  refine g_iload X33 hx (bb d14_13) rfl ?_
  refine g_iloadN X33 hx (bb d14_15) rfl ?_
  refine g_icmpNo X33 hx (bb d14_16) (tlt (by decide : (1 : Int32) < (2 : Int32))).2.1 ?_
  refine g_iconst X33 hx (bb d14_19) ?_
  refine g_istore X33 hx (bb d14_20) (l' := #[vR a1, vI 0, vI 2, vR b2, vI 1, vI 0]) rfl ?_
  refine g_iload X33 hx (bb d14_22) rfl ?_
  refine g_aloadN X33 hx (bb d14_24) rfl rfl ?_
  refine gF X33 hx hZ hown (ww 22 rfl) e33 F34 (bb d14_25) (fun T35 X35 e35 => ?_)
  refine g_icmpNo X35 hx (bb d14_28) (tlt (by decide : (0 : Int32) < (2 : Int32))).2.1 ?_
  refine g_aloadN X35 hx (bb d14_31) rfl rfl ?_
  refine g_iload X35 hx (bb d14_32) rfl ?_
  refine g_aloadN X35 hx (bb d14_34) rfl rfl ?_
  refine gF X35 hx hZ hown (ww 22 rfl) e35 F34 (bb d14_35) (fun T36 X36 e36 => ?_)
  refine g_imul X36 hx (bb d14_38) ?_
  refine g_iload X36 hx (bb d14_39) rfl ?_
  refine g_iadd X36 hx (bb d14_41) ?_
  refine g_aloadN X36 hx (bb d14_42) rfl rfl ?_
  refine g_iloadN X36 hx (bb d14_43) rfl ?_
  refine g_sipush X36 hx (bb d14_44) ?_
  refine g_imul X36 hx (bb d14_47) ?_
  refine g_iload X36 hx (bb d14_48) rfl ?_
  refine g_iadd X36 hx (bb d14_50) ?_
  refine g_iload X36 hx (bb d14_51) rfl ?_
  have F37 := (F21.other W32 ne_on_b2)
  obtain ⟨cl38, Ar38, vq38, vS38, vN38, vH38, vG38⟩ := id F37
  have F39 := (F23.other W32 ne_ob_b2)
  obtain ⟨cl40, Ar40, vq40, vS40, vN40, vH40, vG40⟩ := id F39
  have F41 := (F25.other W32 ne_ov_b2)
  obtain ⟨cl42, Ar42, vq42, vS42, vN42, vH42, vG42⟩ := id F41
  have F43 := (F27.other W32 (Or.inl ne_a1_b2))
  have F44 := (F28.other W32 (Or.inl ne_a1_b2))
  have O46 := (O30.wr W32 g_b2)
  have F47 := (F31.wr W32)
  refine gcV X36 hx hZ hml hown (ww 88 rfl) (ww 7 rfl) (ww 83 rfl) (ww 80 rfl) (ww 82 rfl) (ww 81 rfl) e36 F47 (rm_get2N l Z a0 ww [] a1 (1 : Int32) (0 : Int32) on ob ov cl38 cl40 cl42 eb0 ev1_0 h32 n0 (own_z0 O46) O46 S_CS F34 F43 F44 Ar38 (inb_of vS38 ⟨by decide, by decide⟩) (vH38.at (inb_of vS38 ⟨by decide, by decide⟩) rfl) Ar40 (inb_of vS40 ⟨by decide, by decide⟩) (vH40.at (inb_of vS40 ⟨by decide, by decide⟩) rfl) Ar42 (inb_of vS42 ⟨by decide, by decide⟩) (vH42.at (inb_of vS42 ⟨by decide, by decide⟩) rfl) hIn1_0) pd__II_I_5 (bb d14_53) 2 rfl (fun T45 L45 v45 X45 hQ45 => ?_)
  obtain ⟨rfl, N45q, e45⟩ := hQ45
  have N45 := Fr.app N32 N45q
  refine gSi X45 hx hZ e45 V32 ⟨by decide, by decide⟩ 2 rfl (Nat.le_of_ble_eq_true rfl) N45 g_b2 (bb d14_56) (fun T48 h48 X48 e48 W48 V48 N48 => ?_)
  refine g_iinc X48 hx (bb d14_57) rfl (l' := #[vR a1, vI 0, vI 2, vR b2, vI 1, vI 1]) rfl ?_
  refine g_goto X48 hx (pc' := 22) (bb d14_60) (by decide) (by decide) ?_
  refine g_iload X48 hx (bb d14_22) rfl ?_
  refine g_aloadN X48 hx (bb d14_24) rfl rfl ?_
  have F50 := (F34.other W48 (Or.inl ne_a1_b2))
  refine gF X48 hx hZ hown (ww 22 rfl) e48 F50 (bb d14_25) (fun T49 X49 e49 => ?_)
  refine g_icmpNo X49 hx (bb d14_28) (tlt (by decide : (1 : Int32) < (2 : Int32))).2.1 ?_
  refine g_aloadN X49 hx (bb d14_31) rfl rfl ?_
  refine g_iload X49 hx (bb d14_32) rfl ?_
  refine g_aloadN X49 hx (bb d14_34) rfl rfl ?_
  refine gF X49 hx hZ hown (ww 22 rfl) e49 F50 (bb d14_35) (fun T51 X51 e51 => ?_)
  refine g_imul X51 hx (bb d14_38) ?_
  refine g_iload X51 hx (bb d14_39) rfl ?_
  refine g_iadd X51 hx (bb d14_41) ?_
  refine g_aloadN X51 hx (bb d14_42) rfl rfl ?_
  refine g_iloadN X51 hx (bb d14_43) rfl ?_
  refine g_sipush X51 hx (bb d14_44) ?_
  refine g_imul X51 hx (bb d14_47) ?_
  refine g_iload X51 hx (bb d14_48) rfl ?_
  refine g_iadd X51 hx (bb d14_50) ?_
  refine g_iload X51 hx (bb d14_51) rfl ?_
  have F52 := (F37.other W48 ne_on_b2)
  obtain ⟨cl53, Ar53, vq53, vS53, vN53, vH53, vG53⟩ := id F52
  have F54 := (F39.other W48 ne_ob_b2)
  obtain ⟨cl55, Ar55, vq55, vS55, vN55, vH55, vG55⟩ := id F54
  have F56 := (F41.other W48 ne_ov_b2)
  obtain ⟨cl57, Ar57, vq57, vS57, vN57, vH57, vG57⟩ := id F56
  have F58 := (F43.other W48 (Or.inl ne_a1_b2))
  have F59 := (F44.other W48 (Or.inl ne_a1_b2))
  have O61 := (O46.wr W48 g_b2)
  have F62 := (F47.wr W48)
  refine gcV X51 hx hZ hml hown (ww 88 rfl) (ww 7 rfl) (ww 83 rfl) (ww 80 rfl) (ww 82 rfl) (ww 81 rfl) e51 F62 (rm_get2N l Z a0 ww [] a1 (1 : Int32) (1 : Int32) on ob ov cl53 cl55 cl57 eb1 ev1_1 h48 n0 (own_z0 O61) O61 S_CS F50 F58 F59 Ar53 (inb_of vS53 ⟨by decide, by decide⟩) (vH53.at (inb_of vS53 ⟨by decide, by decide⟩) rfl) Ar55 (inb_of vS55 ⟨by decide, by decide⟩) (vH55.at (inb_of vS55 ⟨by decide, by decide⟩) rfl) Ar57 (inb_of vS57 ⟨by decide, by decide⟩) (vH57.at (inb_of vS57 ⟨by decide, by decide⟩) rfl) hIn1_1) pd__II_I_5 (bb d14_53) 2 rfl (fun T60 L60 v60 X60 hQ60 => ?_)
  obtain ⟨rfl, N60q, e60⟩ := hQ60
  have N60 := Fr.app N48 N60q
  refine gSi X60 hx hZ e60 V48 ⟨by decide, by decide⟩ 3 rfl (Nat.le_of_ble_eq_true rfl) N60 g_b2 (bb d14_56) (fun T63 h63 X63 e63 W63 V63 N63 => ?_)
  refine g_iinc X63 hx (bb d14_57) rfl (l' := #[vR a1, vI 0, vI 2, vR b2, vI 1, vI 2]) rfl ?_
  refine g_goto X63 hx (pc' := 22) (bb d14_60) (by decide) (by decide) ?_
  refine g_iload X63 hx (bb d14_22) rfl ?_
  refine g_aloadN X63 hx (bb d14_24) rfl rfl ?_
  have F65 := (F50.other W63 (Or.inl ne_a1_b2))
  refine gF X63 hx hZ hown (ww 22 rfl) e63 F65 (bb d14_25) (fun T64 X64 e64 => ?_)
  refine g_icmpYes X64 hx (pc' := 63) (bb d14_28) (flt (by decide : ¬ ((2 : Int32) < (2 : Int32)))).2.1 (by decide) (by decide) ?_
  refine g_iinc X64 hx (bb d14_63) rfl (l' := #[vR a1, vI 0, vI 2, vR b2, vI 2, vI 2]) rfl ?_
  refine g_goto X64 hx (pc' := 13) (bb d14_66) (by decide) (by decide) ?_
  refine g_iload X64 hx (bb d14_13) rfl ?_
  refine g_iloadN X64 hx (bb d14_15) rfl ?_
  refine g_icmpYes X64 hx (pc' := 69) (bb d14_16) (flt (by decide : ¬ ((2 : Int32) < (2 : Int32)))).2.1 (by decide) (by decide) ?_
  refine g_aloadN X64 hx (bb d14_69) rfl rfl ?_
  have F67 := (((((r3.ext E2).other W17 (Or.inl ne_a1_b2)).other W32 (Or.inl ne_a1_b2)).other W48 (Or.inl ne_a1_b2)).other W63 (Or.inl ne_a1_b2))
  refine gF X64 hx hZ hown (ww 16 rfl) e64 F67 (bb d14_70) (fun T66 X66 e66 => ?_)
  refine g_iloadN X66 hx (bb d14_73) rfl ?_
  refine g_aloadN X66 hx (bb d14_74) rfl rfl ?_
  have F68 := (((((r8.ext E2).other W17 ne_ow_b2).other W32 ne_ow_b2).other W48 ne_ow_b2).other W63 ne_ow_b2)
  obtain ⟨cl69, Ar69, vq69, vS69, vN69, vH69, vG69⟩ := id F68
  have hin69 : ¬ (((0 : Int32) : Int32) < 0 ∨ cl69.slots.size ≤ ((0 : Int32) : Int32).toNatClampNeg) := inb_of vS69 ⟨by decide, by decide⟩
  have F70 := ((((B2.wr W17).wr W32).wr W48).wr W63)
  obtain ⟨T69, h69, X69, e69, W69, st69⟩ := stR X66 hx hZ e66 Ar69 (j := (0 : Int32)) hin69 rfl (Sto.ofVA Ar69 vq69 r9 (Ins.self F70)) (g := (mkF m 75 #[vR a1, vI 0, vI 2, vR b2, vI 2, vI 2] [(.ref b2), (.int 0), (.ref ow)])) rfl rfl (bb d14_75)
  refine gl st69 ?_
  have V69 : Arv Z h69 ow kw_ (.array .int) (1 : Int32) [(.ref b2)] .null := Arv.set Ar69 vq69 vS69 vN69 vH69 vG69 rfl W69 0 rfl (Nat.le_of_ble_eq_true rfl)
  have N69 := Fr.snoc X69 N63 g_ow
  refine g_aloadN X69 hx (bb d14_76) rfl rfl ?_
  have F72 := ((F58.other W63 (Or.inl ne_a1_b2)).other W69 (Or.inl ne_a1_ow))
  refine gF X69 hx hZ hown (ww 20 rfl) e69 F72 (bb d14_77) (fun T71 X71 e71 => ?_)
  refine g_iloadN X71 hx (bb d14_80) rfl ?_
  refine g_aconstNull X71 hx (bb d14_81) ?_
  have F73 := ((F52.other W63 ne_on_b2).other W69 (Ne.symm ne_ow_on))
  obtain ⟨cl74, Ar74, vq74, vS74, vN74, vH74, vG74⟩ := id F73
  have hin74 : ¬ (((0 : Int32) : Int32) < 0 ∨ cl74.slots.size ≤ ((0 : Int32) : Int32).toNatClampNeg) := inb_of vS74 ⟨by decide, by decide⟩
  obtain ⟨T74, h74, X74, e74, W74, st74⟩ := stR X71 hx hZ e71 Ar74 (j := (0 : Int32)) hin74 rfl (Or.inl rfl) (g := (mkF m 82 #[vR a1, vI 0, vI 2, vR b2, vI 2, vI 2] [.null, (.int 0), (.ref on)])) rfl rfl (bb d14_82)
  refine gl st74 ?_
  have V74 : Arv Z h74 on kn_ (.array .char) (1 : Int32) [.null] .null := Arv.set Ar74 vq74 vS74 vN74 vH74 vG74 rfl W74 0 rfl (Nat.le_of_ble_eq_true rfl)
  have N74 := Fr.snoc X74 N69 g_on
  have F75 := (V69.other W74 ne_ow_on)
  have F76 := ((V63.other W69 (Ne.symm ne_ow_b2)).other W74 (Ne.symm ne_on_b2))
  obtain ⟨fs, hr, hrun, hended, hW, hsame⟩ := X74.leave (v := none) (fun _ => rfl)
  subst hR0
  refine ⟨_, _, ?_, hrun, hended, _, _, rfl, ?_, ⟨_, rfl⟩, hW, hsame.mono (by decide) (by decide)⟩
  · exact X74.returnOut hx hret (bb d14_83) hr
  · show Q_widen2_2 Z a1 ow on ob ol oh ov kw_ kn_ kb_ kl_ kh_ kv_ eb0 eb1 el0 el1 eu0 eu1 ev0_0 ev0_1 ev1_0 ev1_1 ex4 ex5 ex6 ex7 ex8 ex9 ex10 ex11 ex12 ex13 ex14 ex15 h0 n0 _ T74.heap _
    rw [e74]
    exact ⟨b2, k2, rfl, N74, ((((((((Keep.refl h0 [ow, on]).ext E2).wr W17 (Or.inr sz_b2)).wr W32 (Or.inr sz_b2)).wr W48 (Or.inr sz_b2)).wr W63 (Or.inr sz_b2)).wr W69 (Or.inl (List.mem_of_getElem? (i := 0) rfl))).wr W74 (Or.inl (List.mem_of_getElem? (i := 1) rfl))), sz_b2, F75, V74, F76⟩
def Q_fitW2_2 (Z : State) (a1 at_ ow on ob ol oh ov : Addr) (kw_ kn_ kb_ kl_ kh_ kv_ : ClassId) (eb0 eb1 el0 el1 eu0 eu1 ev0_0 ev0_1 ev1_0 ev1_1 ex4 ex5 ex6 ex7 ex8 ex9 ex10 ex11 ex12 ex13 ex14 ex15 : Int32) (kt_ : ClassId) (et0 et1 : Int32) (h0 : Heap) (n0 : Nat) (v : Option Value) (h : Heap) (L : List Loc) : Prop := ∃ (oz : Addr) (kz_ : ClassId), v = none ∧ Fr n0 L ∧ Keep h0 h [ow, on] ∧ h0.size ≤ oz ∧ Arv Z h ow kw_ (.array .int) (1 : Int32) [(.ref oz)] .null ∧ Arv Z h on kn_ (.array .char) (1 : Int32) [.null] .null ∧ Arv Z h oz kz_ .int (16 : Int32) [(.int ev0_0), (.int ev0_1), (.int ev1_0), (.int ev1_1), (.int 0), (.int 0), (.int 0), (.int 0), (.int 0), (.int 0), (.int 0), (.int 0), (.int 0), (.int 0), (.int 0), (.int 0)] (.int 0)
set_option maxRecDepth 65536 in
set_option maxHeartbeats 40000000 in
theorem rm_fitW2_2 (l : Launch) (Z : State) (a0 : Array Value) (ww : WW a0 Z) (ws : List Jvm.Cond) (a1 at_ ow on ob ol oh ov : Addr) (kw_ kn_ kb_ kl_ kh_ kv_ : ClassId) (eb0 eb1 el0 el1 eu0 eu1 ev0_0 ev0_1 ev1_0 ev1_1 ex4 ex5 ex6 ex7 ex8 ex9 ex10 ex11 ex12 ex13 ex14 ex15 : Int32) (kt_ : ClassId) (et0 et1 : Int32) (h0 : Heap) (n0 : Nat) (Z0 : n0 ≤ h0.size) (O0 : Old Z n0 h0) (S_CS : Sta Z Z.heap cRV "CHUNK_SHIFT" "I" (.int (12 : Int32))) (r0 : Exa Z h0 a1 cRV) (r1 : Fld Z h0 a1 cRV "arity" "I" (.int 2)) (r2 : Fld Z h0 a1 cRV "rows" "I" (.int 2)) (r3 : Fld Z h0 a1 cRV "wide" "[[I" (.ref ow)) (r4 : Fld Z h0 a1 cRV "narrow" "[[C" (.ref on)) (r5 : Fld Z h0 a1 cRV "bases" "[I" (.ref ob)) (r6 : Fld Z h0 a1 cRV "lowest" "[I" (.ref ol)) (r7 : Fld Z h0 a1 cRV "highest" "[I" (.ref oh)) (r8 : Arv Z h0 ow kw_ (.array .int) (1 : Int32) [.null] .null) (r9 : OvrA Z kw_ .int "[I") (r10 : Arv Z h0 on kn_ (.array .char) (1 : Int32) [(.ref ov)] .null) (r11 : OvrA Z kn_ .char "[C") (r12 : Arv Z h0 ob kb_ .int (2 : Int32) [(.int eb0), (.int eb1)] (.int 0)) (r13 : Arv Z h0 ol kl_ .int (2 : Int32) [(.int el0), (.int el1)] (.int 0)) (r14 : Arv Z h0 oh kh_ .int (2 : Int32) [(.int eu0), (.int eu1)] (.int 0)) (r15 : Arv Z h0 ov kv_ .char (16 : Int32) [(.int (nar .char (ev0_0 - eb0))), (.int (nar .char (ev0_1 - eb1))), (.int (nar .char (ev1_0 - eb0))), (.int (nar .char (ev1_1 - eb1))), (.int ex4), (.int ex5), (.int ex6), (.int ex7), (.int ex8), (.int ex9), (.int ex10), (.int ex11), (.int ex12), (.int ex13), (.int ex14), (.int ex15)] (.int 0)) (r16 : Arv Z h0 at_ kt_ .int (2 : Int32) [(.int et0), (.int et1)] (.int 0)) (g_ow : n0 ≤ ow) (g_on : n0 ≤ on) (ne_a1_ow : a1 ≠ ow) (ne_a1_on : a1 ≠ on) (ne_a1_ob : a1 ≠ ob) (ne_a1_ol : a1 ≠ ol) (ne_a1_oh : a1 ≠ oh) (ne_a1_ov : a1 ≠ ov) (ne_ow_on : ow ≠ on) (ne_ow_ob : ow ≠ ob) (ne_ow_ol : ow ≠ ol) (ne_ow_oh : ow ≠ oh) (ne_ow_ov : ow ≠ ov) (ne_on_ob : on ≠ ob) (ne_on_ol : on ≠ ol) (ne_on_oh : on ≠ oh) (ne_on_ov : on ≠ ov) (ne_ob_ol : ob ≠ ol) (ne_ob_oh : ob ≠ oh) (ne_ob_ov : ob ≠ ov) (ne_ol_oh : ol ≠ oh) (ne_ol_ov : ol ≠ ov) (ne_oh_ov : oh ≠ ov) (ne_at__a1 : at_ ≠ a1) (ne_at__ow : at_ ≠ ow) (ne_at__on : at_ ≠ on) (ne_at__ob : at_ ≠ ob) (ne_at__ol : at_ ≠ ol) (ne_at__oh : at_ ≠ oh) (ne_at__ov : at_ ≠ ov) (hIn0_0 : ownIn eb0 ev0_0) (hIn0_1 : ownIn eb1 ev0_1) (hIn1_0 : ownIn eb0 ev1_0) (hIn1_1 : ownIn eb1 ev1_1) (hWd : ¬ (((lcmpW (((f_maxI et0 eu0).toInt64) - ((f_minI et0 el0).toInt64)) (65536 : Int64)) < (0 : Int32)) ∧ ((lcmpW (((f_maxI et1 eu1).toInt64) - ((f_minI et1 el1).toInt64)) (65536 : Int64)) < (0 : Int32)))) :
    MF l Z (⟨cRV, "fit", "(II[I)V"⟩ : MethodName) prog_47_method_7_code 11 none ws ({ frames := 2, cells := 1, slots := 16, locals := 36 } : Room) #[(.ref a1), (.int 0), (.int 2), (.ref at_)] h0 (Q_fitW2_2 Z a1 at_ ow on ob ol oh ov kw_ kn_ kb_ kl_ kh_ kv_ eb0 eb1 el0 el1 eu0 eu1 ev0_0 ev0_1 ev1_0 ev1_1 ex4 ex5 ex6 ex7 ex8 ex9 ex10 ex11 ex12 ex13 ex14 ex15 kt_ et0 et1 h0 n0) := by
  refine gopen (plainFor_of_name pn_RowValues) (fun m => ef_fitW2_2 m a1 at_) (fun p e s m below meth c s₁ hlk hret hx bb hml hown hnm hZ X0 e0 R0 hR0 => ?_)
  have N0 := Fr.nil n0
  refine g_iconst X0 hx (bb d11_0) ?_
  refine g_istore X0 hx (bb d11_1) (l' := #[vR a1, vI 0, vI 2, vR at_, vI 0, .unset, .unset, .unset, .unset, .unset, .unset]) rfl ?_
  refine g_iload X0 hx (bb d11_3) rfl ?_
  refine g_aloadN X0 hx (bb d11_5) rfl rfl ?_
  refine gF X0 hx hZ hown (ww 22 rfl) e0 r1 (bb d11_6) (fun T1 X1 e1 => ?_)
  refine g_icmpNo X1 hx (bb d11_9) (tlt (by decide : (0 : Int32) < (2 : Int32))).2.1 ?_
  refine g_aloadN X1 hx (bb d11_12) rfl rfl ?_
  refine g_iload X1 hx (bb d11_13) rfl ?_
  refine gLi X1 hx hZ e1 r16 (v := (.int et0)) ⟨by decide, by decide⟩ rfl (bb d11_15) ?_
  refine g_aloadN X1 hx (bb d11_16) rfl rfl ?_
  refine gF X1 hx hZ hown (ww 28 rfl) e1 r7 (bb d11_17) (fun T2 X2 e2 => ?_)
  refine g_iload X2 hx (bb d11_20) rfl ?_
  refine gLi X2 hx hZ e2 r14 (v := (.int eu0)) ⟨by decide, by decide⟩ rfl (bb d11_22) ?_
  refine gcS X2 hx hZ hml hown (ww 75 rfl) (ww 58 rfl) (ww 77 rfl) (ww 76 rfl) e2 (rm_maxI l Z a0 ww [] et0 eu0 h0 n0 (own_z0 O0) O0 S_CS) pd__II_I_5 (bb d11_23) 0 rfl (fun T3 L3 v3 X3 hQ3 => ?_)
  obtain ⟨rfl, N3q, e3⟩ := hQ3
  have N3 := Fr.app N0 N3q
  refine g_i2l X3 hx (bb d11_26) ?_
  refine g_aloadN X3 hx (bb d11_27) rfl rfl ?_
  refine g_iload X3 hx (bb d11_28) rfl ?_
  refine gLi X3 hx hZ e3 r16 (v := (.int et0)) ⟨by decide, by decide⟩ rfl (bb d11_30) ?_
  refine g_aloadN X3 hx (bb d11_31) rfl rfl ?_
  refine gF X3 hx hZ hown (ww 26 rfl) e3 r6 (bb d11_32) (fun T4 X4 e4 => ?_)
  refine g_iload X4 hx (bb d11_35) rfl ?_
  refine gLi X4 hx hZ e4 r13 (v := (.int el0)) ⟨by decide, by decide⟩ rfl (bb d11_37) ?_
  refine gcS X4 hx hZ hml hown (ww 68 rfl) (ww 58 rfl) (ww 70 rfl) (ww 69 rfl) e4 (rm_minI l Z a0 ww [] et0 el0 h0 n0 (own_z0 O0) O0 S_CS) pd__II_I_5 (bb d11_38) 2 rfl (fun T5 L5 v5 X5 hQ5 => ?_)
  obtain ⟨rfl, N5q, e5⟩ := hQ5
  have N5 := Fr.app N3 N5q
  refine g_i2l X5 hx (bb d11_41) ?_
  refine g_lsub X5 hx (bb d11_42) ?_
  refine g_lstore X5 hx (bb d11_43) (l' := #[vR a1, vI 0, vI 2, vR at_, vI 0, vJ (((f_maxI et0 eu0).toInt64) - ((f_minI et0 el0).toInt64)), .second, .unset, .unset, .unset, .unset]) rfl ?_
  refine g_lload X5 hx (bb d11_45) rfl ?_
  refine gJ X5 hx hZ hown (ww 78 rfl) (bb d11_47) ?_
  refine g_lcmp X5 hx (bb d11_50) ?_
  by_cases g6 : (lcmpW (((f_maxI et0 eu0).toInt64) - ((f_minI et0 el0).toInt64)) (65536 : Int64)) < (0 : Int32)
  · skip
    refine g_ifYes X5 hx (pc' := 61) (bb d11_51) ((if0 _ _).trans (tlt g6).1) (by decide) (by decide) ?_
    refine g_iinc X5 hx (bb d11_61) rfl (l' := #[vR a1, vI 0, vI 2, vR at_, vI 1, vJ (((f_maxI et0 eu0).toInt64) - ((f_minI et0 el0).toInt64)), .second, .unset, .unset, .unset, .unset]) rfl ?_
    refine g_goto X5 hx (pc' := 3) (bb d11_64) (by decide) (by decide) ?_
    refine g_iload X5 hx (bb d11_3) rfl ?_
    refine g_aloadN X5 hx (bb d11_5) rfl rfl ?_
    refine gF X5 hx hZ hown (ww 22 rfl) e5 r1 (bb d11_6) (fun T7 X7 e7 => ?_)
    refine g_icmpNo X7 hx (bb d11_9) (tlt (by decide : (1 : Int32) < (2 : Int32))).2.1 ?_
    refine g_aloadN X7 hx (bb d11_12) rfl rfl ?_
    refine g_iload X7 hx (bb d11_13) rfl ?_
    refine gLi X7 hx hZ e7 r16 (v := (.int et1)) ⟨by decide, by decide⟩ rfl (bb d11_15) ?_
    refine g_aloadN X7 hx (bb d11_16) rfl rfl ?_
    refine gF X7 hx hZ hown (ww 28 rfl) e7 r7 (bb d11_17) (fun T8 X8 e8 => ?_)
    refine g_iload X8 hx (bb d11_20) rfl ?_
    refine gLi X8 hx hZ e8 r14 (v := (.int eu1)) ⟨by decide, by decide⟩ rfl (bb d11_22) ?_
    refine gcS X8 hx hZ hml hown (ww 75 rfl) (ww 58 rfl) (ww 77 rfl) (ww 76 rfl) e8 (rm_maxI l Z a0 ww [] et1 eu1 h0 n0 (own_z0 O0) O0 S_CS) pd__II_I_5 (bb d11_23) 0 rfl (fun T9 L9 v9 X9 hQ9 => ?_)
    obtain ⟨rfl, N9q, e9⟩ := hQ9
    have N9 := Fr.app N5 N9q
    refine g_i2l X9 hx (bb d11_26) ?_
    refine g_aloadN X9 hx (bb d11_27) rfl rfl ?_
    refine g_iload X9 hx (bb d11_28) rfl ?_
    refine gLi X9 hx hZ e9 r16 (v := (.int et1)) ⟨by decide, by decide⟩ rfl (bb d11_30) ?_
    refine g_aloadN X9 hx (bb d11_31) rfl rfl ?_
    refine gF X9 hx hZ hown (ww 26 rfl) e9 r6 (bb d11_32) (fun T10 X10 e10 => ?_)
    refine g_iload X10 hx (bb d11_35) rfl ?_
    refine gLi X10 hx hZ e10 r13 (v := (.int el1)) ⟨by decide, by decide⟩ rfl (bb d11_37) ?_
    refine gcS X10 hx hZ hml hown (ww 68 rfl) (ww 58 rfl) (ww 70 rfl) (ww 69 rfl) e10 (rm_minI l Z a0 ww [] et1 el1 h0 n0 (own_z0 O0) O0 S_CS) pd__II_I_5 (bb d11_38) 2 rfl (fun T11 L11 v11 X11 hQ11 => ?_)
    obtain ⟨rfl, N11q, e11⟩ := hQ11
    have N11 := Fr.app N9 N11q
    refine g_i2l X11 hx (bb d11_41) ?_
    refine g_lsub X11 hx (bb d11_42) ?_
    refine g_lstore X11 hx (bb d11_43) (l' := #[vR a1, vI 0, vI 2, vR at_, vI 1, vJ (((f_maxI et1 eu1).toInt64) - ((f_minI et1 el1).toInt64)), .second, .unset, .unset, .unset, .unset]) rfl ?_
    refine g_lload X11 hx (bb d11_45) rfl ?_
    refine gJ X11 hx hZ hown (ww 78 rfl) (bb d11_47) ?_
    refine g_lcmp X11 hx (bb d11_50) ?_
    refine g_ifNo X11 hx (bb d11_51) ((if0 _ _).trans (flt (fun q => hWd ⟨g6, q⟩)).1) ?_
    refine g_aloadN X11 hx (bb d11_54) rfl rfl ?_
    refine g_iloadN X11 hx (bb d11_55) rfl ?_
    refine g_iloadN X11 hx (bb d11_56) rfl ?_
    refine gcP X11 hx hZ hml hown (ww 84 rfl) (ww 7 rfl) (ww 87 rfl) (ww 6 rfl) (ww 85 rfl) (ww 86 rfl) e11 r0 (rm_widen2_2 l Z a0 ww [] a1 ow on ob ol oh ov kw_ kn_ kb_ kl_ kh_ kv_ eb0 eb1 el0 el1 eu0 eu1 ev0_0 ev0_1 ev1_0 ev1_1 ex4 ex5 ex6 ex7 ex8 ex9 ex10 ex11 ex12 ex13 ex14 ex15 h0 n0 (own_z0 O0) O0 S_CS r0 r1 r2 r3 r4 r5 r6 r7 r8 r9 r10 r11 r12 r13 r14 r15 g_ow g_on ne_a1_ow ne_a1_on ne_a1_ob ne_a1_ol ne_a1_oh ne_a1_ov ne_ow_on ne_ow_ob ne_ow_ol ne_ow_oh ne_ow_ov ne_on_ob ne_on_ol ne_on_oh ne_on_ov ne_ob_ol ne_ob_oh ne_ob_ov ne_ol_oh ne_ol_ov ne_oh_ov hIn0_0 hIn0_1 hIn1_0 hIn1_1) pd__II_V_5 (bb d11_57) 0 rfl (fun T12 L12 v12 X12 hQ12 => ?_)
    obtain ⟨oz12, kz_12, rfl, N12q, K12, szz_oz12, f12_0, f12_1, f12_2⟩ := hQ12
    have N12 := Fr.app N11 N12q
    have g_oz12 : n0 ≤ oz12 := Nat.le_trans (own_z0 O0) szz_oz12
    have sz_oz12 : h0.size ≤ oz12 := Nat.le_trans (Nat.le_refl _) szz_oz12
    have ne_a1_oz12 : a1 ≠ oz12 := Nat.ne_of_lt (Nat.lt_of_lt_of_le r0.lt szz_oz12)
    have ne_ow_oz12 : ow ≠ oz12 := Nat.ne_of_lt (Nat.lt_of_lt_of_le r8.lt szz_oz12)
    have ne_on_oz12 : on ≠ oz12 := Nat.ne_of_lt (Nat.lt_of_lt_of_le r10.lt szz_oz12)
    have ne_ob_oz12 : ob ≠ oz12 := Nat.ne_of_lt (Nat.lt_of_lt_of_le r12.lt szz_oz12)
    have ne_ol_oz12 : ol ≠ oz12 := Nat.ne_of_lt (Nat.lt_of_lt_of_le r13.lt szz_oz12)
    have ne_oh_oz12 : oh ≠ oz12 := Nat.ne_of_lt (Nat.lt_of_lt_of_le r14.lt szz_oz12)
    have ne_ov_oz12 : ov ≠ oz12 := Nat.ne_of_lt (Nat.lt_of_lt_of_le r15.lt szz_oz12)
    have ne_at__oz12 : at_ ≠ oz12 := Nat.ne_of_lt (Nat.lt_of_lt_of_le r16.lt szz_oz12)
    obtain ⟨fs, hr, hrun, hended, hW, hsame⟩ := X12.leave (v := none) (fun _ => rfl)
    subst hR0
    refine ⟨_, _, ?_, hrun, hended, _, _, rfl, ?_, ⟨_, rfl⟩, hW, hsame.mono (by decide) (by decide)⟩
    · exact X12.returnOut hx hret (bb d11_60) hr
    · show Q_fitW2_2 Z a1 at_ ow on ob ol oh ov kw_ kn_ kb_ kl_ kh_ kv_ eb0 eb1 el0 el1 eu0 eu1 ev0_0 ev0_1 ev1_0 ev1_1 ex4 ex5 ex6 ex7 ex8 ex9 ex10 ex11 ex12 ex13 ex14 ex15 kt_ et0 et1 h0 n0 _ T12.heap _
      exact ⟨oz12, kz_12, rfl, N12, ((Keep.refl h0 [ow, on]).trans K12 (allS (Or.inl (List.mem_of_getElem? (i := 0) rfl)) (allS (Or.inl (List.mem_of_getElem? (i := 1) rfl)) all0))), sz_oz12, f12_0, f12_1, f12_2⟩
  · skip
    refine g_ifNo X5 hx (bb d11_51) ((if0 _ _).trans (flt g6).1) ?_
    refine g_aloadN X5 hx (bb d11_54) rfl rfl ?_
    refine g_iloadN X5 hx (bb d11_55) rfl ?_
    refine g_iloadN X5 hx (bb d11_56) rfl ?_
    refine gcP X5 hx hZ hml hown (ww 84 rfl) (ww 7 rfl) (ww 87 rfl) (ww 6 rfl) (ww 85 rfl) (ww 86 rfl) e5 r0 (rm_widen2_2 l Z a0 ww [] a1 ow on ob ol oh ov kw_ kn_ kb_ kl_ kh_ kv_ eb0 eb1 el0 el1 eu0 eu1 ev0_0 ev0_1 ev1_0 ev1_1 ex4 ex5 ex6 ex7 ex8 ex9 ex10 ex11 ex12 ex13 ex14 ex15 h0 n0 (own_z0 O0) O0 S_CS r0 r1 r2 r3 r4 r5 r6 r7 r8 r9 r10 r11 r12 r13 r14 r15 g_ow g_on ne_a1_ow ne_a1_on ne_a1_ob ne_a1_ol ne_a1_oh ne_a1_ov ne_ow_on ne_ow_ob ne_ow_ol ne_ow_oh ne_ow_ov ne_on_ob ne_on_ol ne_on_oh ne_on_ov ne_ob_ol ne_ob_oh ne_ob_ov ne_ol_oh ne_ol_ov ne_oh_ov hIn0_0 hIn0_1 hIn1_0 hIn1_1) pd__II_V_5 (bb d11_57) 0 rfl (fun T13 L13 v13 X13 hQ13 => ?_)
    obtain ⟨oz13, kz_13, rfl, N13q, K13, szz_oz13, f13_0, f13_1, f13_2⟩ := hQ13
    have N13 := Fr.app N5 N13q
    have g_oz13 : n0 ≤ oz13 := Nat.le_trans (own_z0 O0) szz_oz13
    have sz_oz13 : h0.size ≤ oz13 := Nat.le_trans (Nat.le_refl _) szz_oz13
    have ne_a1_oz13 : a1 ≠ oz13 := Nat.ne_of_lt (Nat.lt_of_lt_of_le r0.lt szz_oz13)
    have ne_ow_oz13 : ow ≠ oz13 := Nat.ne_of_lt (Nat.lt_of_lt_of_le r8.lt szz_oz13)
    have ne_on_oz13 : on ≠ oz13 := Nat.ne_of_lt (Nat.lt_of_lt_of_le r10.lt szz_oz13)
    have ne_ob_oz13 : ob ≠ oz13 := Nat.ne_of_lt (Nat.lt_of_lt_of_le r12.lt szz_oz13)
    have ne_ol_oz13 : ol ≠ oz13 := Nat.ne_of_lt (Nat.lt_of_lt_of_le r13.lt szz_oz13)
    have ne_oh_oz13 : oh ≠ oz13 := Nat.ne_of_lt (Nat.lt_of_lt_of_le r14.lt szz_oz13)
    have ne_ov_oz13 : ov ≠ oz13 := Nat.ne_of_lt (Nat.lt_of_lt_of_le r15.lt szz_oz13)
    have ne_at__oz13 : at_ ≠ oz13 := Nat.ne_of_lt (Nat.lt_of_lt_of_le r16.lt szz_oz13)
    obtain ⟨fs, hr, hrun, hended, hW, hsame⟩ := X13.leave (v := none) (fun _ => rfl)
    subst hR0
    refine ⟨_, _, ?_, hrun, hended, _, _, rfl, ?_, ⟨_, rfl⟩, hW, hsame.mono (by decide) (by decide)⟩
    · exact X13.returnOut hx hret (bb d11_60) hr
    · show Q_fitW2_2 Z a1 at_ ow on ob ol oh ov kw_ kn_ kb_ kl_ kh_ kv_ eb0 eb1 el0 el1 eu0 eu1 ev0_0 ev0_1 ev1_0 ev1_1 ex4 ex5 ex6 ex7 ex8 ex9 ex10 ex11 ex12 ex13 ex14 ex15 kt_ et0 et1 h0 n0 _ T13.heap _
      exact ⟨oz13, kz_13, rfl, N13, ((Keep.refl h0 [ow, on]).trans K13 (allS (Or.inl (List.mem_of_getElem? (i := 0) rfl)) (allS (Or.inl (List.mem_of_getElem? (i := 1) rfl)) all0))), sz_oz13, f13_0, f13_1, f13_2⟩
def Q_add2N0 (Z : State) (a1 at_ ow on ob ol oh ov : Addr) (kw_ kn_ kb_ kl_ kh_ kv_ : ClassId) (eb0 eb1 el0 el1 eu0 eu1 ex0 ex1 ex2 ex3 ex4 ex5 ex6 ex7 ex8 ex9 ex10 ex11 ex12 ex13 ex14 ex15 : Int32) (kt_ : ClassId) (et0 et1 : Int32) (h0 : Heap) (n0 : Nat) (v : Option Value) (h : Heap) (L : List Loc) : Prop := v = none ∧ Fr n0 L ∧ Keep h0 h [a1, ob, ol, oh, ov] ∧ Exa Z h a1 cRV ∧ Fld Z h a1 cRV "arity" "I" (.int 2) ∧ Fld Z h a1 cRV "rows" "I" (.int 1) ∧ Fld Z h a1 cRV "wide" "[[I" (.ref ow) ∧ Fld Z h a1 cRV "narrow" "[[C" (.ref on) ∧ Fld Z h a1 cRV "bases" "[I" (.ref ob) ∧ Fld Z h a1 cRV "lowest" "[I" (.ref ol) ∧ Fld Z h a1 cRV "highest" "[I" (.ref oh) ∧ Arv Z h ow kw_ (.array .int) (1 : Int32) [.null] .null ∧ OvrA Z kw_ .int "[I" ∧ Arv Z h on kn_ (.array .char) (1 : Int32) [(.ref ov)] .null ∧ OvrA Z kn_ .char "[C" ∧ Arv Z h ob kb_ .int (2 : Int32) [(.int (f_base et0 et0)), (.int (f_base et1 et1))] (.int 0) ∧ Arv Z h ol kl_ .int (2 : Int32) [(.int et0), (.int et1)] (.int 0) ∧ Arv Z h oh kh_ .int (2 : Int32) [(.int et0), (.int et1)] (.int 0) ∧ Arv Z h ov kv_ .char (16 : Int32) [(.int (nar .char (et0 - (f_base et0 et0)))), (.int (nar .char (et1 - (f_base et1 et1)))), (.int ex2), (.int ex3), (.int ex4), (.int ex5), (.int ex6), (.int ex7), (.int ex8), (.int ex9), (.int ex10), (.int ex11), (.int ex12), (.int ex13), (.int ex14), (.int ex15)] (.int 0)
set_option maxRecDepth 65536 in
set_option maxHeartbeats 40000000 in
theorem rm_add2N0 (l : Launch) (Z : State) (a0 : Array Value) (ww : WW a0 Z) (ws : List Jvm.Cond) (a1 at_ ow on ob ol oh ov : Addr) (kw_ kn_ kb_ kl_ kh_ kv_ : ClassId) (eb0 eb1 el0 el1 eu0 eu1 ex0 ex1 ex2 ex3 ex4 ex5 ex6 ex7 ex8 ex9 ex10 ex11 ex12 ex13 ex14 ex15 : Int32) (kt_ : ClassId) (et0 et1 : Int32) (h0 : Heap) (n0 : Nat) (Z0 : n0 ≤ h0.size) (O0 : Old Z n0 h0) (S_CS : Sta Z Z.heap cRV "CHUNK_SHIFT" "I" (.int (12 : Int32))) (r0 : Exa Z h0 a1 cRV) (r1 : Fld Z h0 a1 cRV "arity" "I" (.int 2)) (r2 : Fld Z h0 a1 cRV "rows" "I" (.int 0)) (r3 : Fld Z h0 a1 cRV "wide" "[[I" (.ref ow)) (r4 : Fld Z h0 a1 cRV "narrow" "[[C" (.ref on)) (r5 : Fld Z h0 a1 cRV "bases" "[I" (.ref ob)) (r6 : Fld Z h0 a1 cRV "lowest" "[I" (.ref ol)) (r7 : Fld Z h0 a1 cRV "highest" "[I" (.ref oh)) (r8 : Arv Z h0 ow kw_ (.array .int) (1 : Int32) [.null] .null) (r9 : OvrA Z kw_ .int "[I") (r10 : Arv Z h0 on kn_ (.array .char) (1 : Int32) [(.ref ov)] .null) (r11 : OvrA Z kn_ .char "[C") (r12 : Arv Z h0 ob kb_ .int (2 : Int32) [(.int eb0), (.int eb1)] (.int 0)) (r13 : Arv Z h0 ol kl_ .int (2 : Int32) [(.int el0), (.int el1)] (.int 0)) (r14 : Arv Z h0 oh kh_ .int (2 : Int32) [(.int eu0), (.int eu1)] (.int 0)) (r15 : Arv Z h0 ov kv_ .char (16 : Int32) [(.int ex0), (.int ex1), (.int ex2), (.int ex3), (.int ex4), (.int ex5), (.int ex6), (.int ex7), (.int ex8), (.int ex9), (.int ex10), (.int ex11), (.int ex12), (.int ex13), (.int ex14), (.int ex15)] (.int 0)) (r16 : Arv Z h0 at_ kt_ .int (2 : Int32) [(.int et0), (.int et1)] (.int 0)) (g_a1 : n0 ≤ a1) (g_ob : n0 ≤ ob) (g_ol : n0 ≤ ol) (g_oh : n0 ≤ oh) (g_ov : n0 ≤ ov) (ne_a1_ow : a1 ≠ ow) (ne_a1_on : a1 ≠ on) (ne_a1_ob : a1 ≠ ob) (ne_a1_ol : a1 ≠ ol) (ne_a1_oh : a1 ≠ oh) (ne_a1_ov : a1 ≠ ov) (ne_ow_on : ow ≠ on) (ne_ow_ob : ow ≠ ob) (ne_ow_ol : ow ≠ ol) (ne_ow_oh : ow ≠ oh) (ne_ow_ov : ow ≠ ov) (ne_on_ob : on ≠ ob) (ne_on_ol : on ≠ ol) (ne_on_oh : on ≠ oh) (ne_on_ov : on ≠ ov) (ne_ob_ol : ob ≠ ol) (ne_ob_oh : ob ≠ oh) (ne_ob_ov : ob ≠ ov) (ne_ol_oh : ol ≠ oh) (ne_ol_ov : ol ≠ ov) (ne_oh_ov : oh ≠ ov) (ne_at__a1 : at_ ≠ a1) (ne_at__ow : at_ ≠ ow) (ne_at__on : at_ ≠ on) (ne_at__ob : at_ ≠ ob) (ne_at__ol : at_ ≠ ol) (ne_at__oh : at_ ≠ oh) (ne_at__ov : at_ ≠ ov) :
    MF l Z (⟨cRV, "add", "([I)V"⟩ : MethodName) prog_47_method_4_code 7 none ws ({ frames := 3, cells := 0, slots := 0, locals := 47 } : Room) #[(.ref a1), (.ref at_)] h0 (Q_add2N0 Z a1 at_ ow on ob ol oh ov kw_ kn_ kb_ kl_ kh_ kv_ eb0 eb1 el0 el1 eu0 eu1 ex0 ex1 ex2 ex3 ex4 ex5 ex6 ex7 ex8 ex9 ex10 ex11 ex12 ex13 ex14 ex15 kt_ et0 et1 h0 n0) := by
  refine gopen (plainFor_of_name pn_RowValues) (fun m => ef_add2N0 m a1 at_) (fun p e s m below meth c s₁ hlk hret hx bb hml hown hnm hZ X0 e0 R0 hR0 => ?_)
  have N0 := Fr.nil n0
  refine g_aloadN X0 hx (bb d5_0) rfl rfl ?_
  refine gF X0 hx hZ hown (ww 37 rfl) e0 r2 (bb d5_1) (fun T1 X1 e1 => ?_)
  refine gS X1 hx hZ hown (ww 44 rfl) e1 (S_CS.ext O0.2) (bb d5_4) (fun T2 X2 e2 => ?_)
  refine g_iushr X2 hx (bb d5_7) ?_
  refine g_istoreN X2 hx (bb d5_8) (l' := #[vR a1, vR at_, vI 0, .unset, .unset, .unset, .unset]) rfl ?_
  refine g_aloadN X2 hx (bb d5_9) rfl rfl ?_
  refine gF X2 hx hZ hown (ww 37 rfl) e2 r2 (bb d5_10) (fun T3 X3 e3 => ?_)
  refine g_sipush X3 hx (bb d5_13) ?_
  refine g_iand X3 hx (bb d5_16) ?_
  refine g_istoreN X3 hx (bb d5_17) (l' := #[vR a1, vR at_, vI 0, vI 0, .unset, .unset, .unset]) rfl ?_
  refine g_iloadN X3 hx (bb d5_18) rfl ?_
  refine g_ifNo X3 hx (bb d5_19) ((if0 _ _).trans (teq (by decide : (0 : Int32) = (0 : Int32))).2) ?_
  refine g_aloadN X3 hx (bb d5_22) rfl rfl ?_
  refine g_iloadN X3 hx (bb d5_23) rfl ?_
  refine g_aloadN X3 hx (bb d5_24) rfl rfl ?_
  refine gcP X3 hx hZ hml hown (ww 46 rfl) (ww 7 rfl) (ww 49 rfl) (ww 6 rfl) (ww 47 rfl) (ww 48 rfl) e3 r0 (rm_start2 l Z a0 ww [] a1 at_ ow on ob ol oh ov kw_ kn_ kb_ kl_ kh_ kv_ eb0 eb1 el0 el1 eu0 eu1 ex0 ex1 ex2 ex3 ex4 ex5 ex6 ex7 ex8 ex9 ex10 ex11 ex12 ex13 ex14 ex15 kt_ et0 et1 h0 n0 (own_z0 O0) O0 S_CS r0 r1 r2 r3 r4 r5 r6 r7 r8 r9 r10 r11 r12 r13 r14 r15 r16 g_ob g_ol g_oh ne_a1_ow ne_a1_on ne_a1_ob ne_a1_ol ne_a1_oh ne_a1_ov ne_ow_on ne_ow_ob ne_ow_ol ne_ow_oh ne_ow_ov ne_on_ob ne_on_ol ne_on_oh ne_on_ov ne_ob_ol ne_ob_oh ne_ob_ov ne_ol_oh ne_ol_ov ne_oh_ov ne_at__a1 ne_at__ow ne_at__on ne_at__ob ne_at__ol ne_at__oh ne_at__ov) pd__I_I_V_6 (bb d5_25) 0 rfl (fun T4 L4 v4 X4 hQ4 => ?_)
  obtain ⟨rfl, N4q, K4, f4_0, f4_1, f4_2⟩ := hQ4
  have N4 := Fr.app N0 N4q
  refine g_aloadN X4 hx (bb d5_28) rfl rfl ?_
  refine g_iloadN X4 hx (bb d5_29) rfl ?_
  refine g_iloadN X4 hx (bb d5_30) rfl ?_
  have F6 := (r0.keep K4)
  have F7 := (r1.keep K4 (ninS ne_a1_ob (ninS ne_a1_ol (ninS ne_a1_oh nin0))))
  have F8 := (r3.keep K4 (ninS ne_a1_ob (ninS ne_a1_ol (ninS ne_a1_oh nin0))))
  have F9 := (r4.keep K4 (ninS ne_a1_ob (ninS ne_a1_ol (ninS ne_a1_oh nin0))))
  have F10 := (r8.keep K4 (ninS ne_ow_ob (ninS ne_ow_ol (ninS ne_ow_oh nin0))))
  have F11 := (r10.keep K4 (ninS ne_on_ob (ninS ne_on_ol (ninS ne_on_oh nin0))))
  have F12 := (r15.keep K4 (ninS (Ne.symm ne_ob_ov) (ninS (Ne.symm ne_ol_ov) (ninS (Ne.symm ne_oh_ov) nin0))))
  have O13 := (O0.keep K4 (allS g_ob (allS g_ol (allS g_oh all0))))
  refine gcP X4 hx hZ hml hown (ww 64 rfl) (ww 7 rfl) (ww 67 rfl) (ww 6 rfl) (ww 65 rfl) (ww 66 rfl) rfl F6 (rm_room2N0 l Z a0 ww [] a1 ow on ob ol oh ov kw_ kn_ kb_ kl_ kh_ kv_ (f_base et0 et0) (f_base et1 et1) et0 et1 et0 et1 ex0 ex1 ex2 ex3 ex4 ex5 ex6 ex7 ex8 ex9 ex10 ex11 ex12 ex13 ex14 ex15 T4.heap n0 (own_z0 O13) O13 S_CS F6 F7 F8 F9 F10 F11 F12) pd__II_V_5 (bb d5_31) 0 rfl (fun T5 L5 v5 X5 hQ5 => ?_)
  obtain ⟨rfl, N5q, e5⟩ := hQ5
  have N5 := Fr.app N4 N5q
  refine g_aloadN X5 hx (bb d5_34) rfl rfl ?_
  refine gF X5 hx hZ hown (ww 20 rfl) e5 F9 (bb d5_35) (fun T14 X14 e14 => ?_)
  refine g_iloadN X14 hx (bb d5_38) rfl ?_
  refine gLr rfl X14 hx hZ e14 F11 (v := (.ref ov)) ⟨by decide, by decide⟩ rfl (bb d5_39) ?_
  refine g_ifnullNo X14 hx (bb d5_40) ?_
  refine g_aloadN X14 hx (bb d5_43) rfl rfl ?_
  refine g_iloadN X14 hx (bb d5_44) rfl ?_
  refine g_iloadN X14 hx (bb d5_45) rfl ?_
  refine g_aloadN X14 hx (bb d5_46) rfl rfl ?_
  have F16 := (r2.keep K4 (ninS ne_a1_ob (ninS ne_a1_ol (ninS ne_a1_oh nin0))))
  have F17 := (r5.keep K4 (ninS ne_a1_ob (ninS ne_a1_ol (ninS ne_a1_oh nin0))))
  have F18 := (r6.keep K4 (ninS ne_a1_ob (ninS ne_a1_ol (ninS ne_a1_oh nin0))))
  have F19 := (r7.keep K4 (ninS ne_a1_ob (ninS ne_a1_ol (ninS ne_a1_oh nin0))))
  have F20 := (r16.keep K4 (ninS ne_at__ob (ninS ne_at__ol (ninS ne_at__oh nin0))))
  refine gcP X14 hx hZ hml hown (ww 71 rfl) (ww 7 rfl) (ww 74 rfl) (ww 6 rfl) (ww 72 rfl) (ww 73 rfl) e14 F6 (rm_fit2_0 l Z a0 ww [] a1 at_ ow on ob ol oh ov kw_ kn_ kb_ kl_ kh_ kv_ (f_base et0 et0) (f_base et1 et1) et0 et1 et0 et1 ex0 ex1 ex2 ex3 ex4 ex5 ex6 ex7 ex8 ex9 ex10 ex11 ex12 ex13 ex14 ex15 kt_ et0 et1 T4.heap n0 (own_z0 O13) O13 S_CS F6 F7 F16 F8 F9 F17 F18 F19 F10 r9 F11 r11 f4_0 f4_1 f4_2 F12 F20 g_ol g_oh ne_a1_ow ne_a1_on ne_a1_ob ne_a1_ol ne_a1_oh ne_a1_ov ne_ow_on ne_ow_ob ne_ow_ol ne_ow_oh ne_ow_ov ne_on_ob ne_on_ol ne_on_oh ne_on_ov ne_ob_ol ne_ob_oh ne_ob_ov ne_ol_oh ne_ol_ov ne_oh_ov ne_at__a1 ne_at__ow ne_at__on ne_at__ob ne_at__ol ne_at__oh ne_at__ov) pd__II_I_V_7 (bb d5_47) 0 rfl (fun T15 L15 v15 X15 hQ15 => ?_)
  obtain ⟨rfl, N15q, K15, f15_0, f15_1⟩ := hQ15
  have N15 := Fr.app N5 N15q
  refine g_iloadN X15 hx (bb d5_50) rfl ?_
  refine g_aloadN X15 hx (bb d5_51) rfl rfl ?_
  have F22 := (F7.keep K15 (ninS ne_a1_ol (ninS ne_a1_oh nin0)))
  refine gF X15 hx hZ hown (ww 22 rfl) rfl F22 (bb d5_52) (fun T21 X21 e21 => ?_)
  refine g_imul X21 hx (bb d5_55) ?_
  refine g_istore X21 hx (bb d5_56) (l' := #[vR a1, vR at_, vI 0, vI 0, vI 0, .unset, .unset]) rfl ?_
  refine g_aloadN X21 hx (bb d5_58) rfl rfl ?_
  have F24 := (F9.keep K15 (ninS ne_a1_ol (ninS ne_a1_oh nin0)))
  refine gF X21 hx hZ hown (ww 20 rfl) e21 F24 (bb d5_59) (fun T23 X23 e23 => ?_)
  refine g_iloadN X23 hx (bb d5_62) rfl ?_
  have F25 := (F11.keep K15 (ninS ne_on_ol (ninS ne_on_oh nin0)))
  refine gLr rfl X23 hx hZ e23 F25 (v := (.ref ov)) ⟨by decide, by decide⟩ rfl (bb d5_63) ?_
  refine g_astore X23 hx (bb d5_64) rfl (l' := #[vR a1, vR at_, vI 0, vI 0, vI 0, vR ov, .unset]) rfl ?_
  refine g_iconst X23 hx (bb d5_66) ?_
  refine g_istore X23 hx (bb d5_67) (l' := #[vR a1, vR at_, vI 0, vI 0, vI 0, vR ov, vI 0]) rfl ?_
  refine g_iload X23 hx (bb d5_69) rfl ?_
  refine g_aloadN X23 hx (bb d5_71) rfl rfl ?_
  refine gF X23 hx hZ hown (ww 22 rfl) e23 F22 (bb d5_72) (fun T26 X26 e26 => ?_)
  refine g_icmpNo X26 hx (bb d5_75) (tlt (by decide : (0 : Int32) < (2 : Int32))).2.1 ?_
  refine g_aload X26 hx (bb d5_78) rfl rfl ?_
  refine g_ifnullNo X26 hx (bb d5_80) ?_
  refine g_aload X26 hx (bb d5_83) rfl rfl ?_
  refine g_iload X26 hx (bb d5_85) rfl ?_
  refine g_iload X26 hx (bb d5_87) rfl ?_
  refine g_iadd X26 hx (bb d5_89) ?_
  refine g_aloadN X26 hx (bb d5_90) rfl rfl ?_
  refine g_iload X26 hx (bb d5_91) rfl ?_
  have F27 := (F20.keep K15 (ninS ne_at__ol (ninS ne_at__oh nin0)))
  refine gLi X26 hx hZ e26 F27 (v := (.int et0)) ⟨by decide, by decide⟩ rfl (bb d5_93) ?_
  refine g_aloadN X26 hx (bb d5_94) rfl rfl ?_
  have F29 := (F17.keep K15 (ninS ne_a1_ol (ninS ne_a1_oh nin0)))
  refine gF X26 hx hZ hown (ww 24 rfl) e26 F29 (bb d5_95) (fun T28 X28 e28 => ?_)
  refine g_iloadN X28 hx (bb d5_98) rfl ?_
  refine g_aloadN X28 hx (bb d5_99) rfl rfl ?_
  refine gF X28 hx hZ hown (ww 22 rfl) e28 F22 (bb d5_100) (fun T30 X30 e30 => ?_)
  refine g_imul X30 hx (bb d5_103) ?_
  refine g_iload X30 hx (bb d5_104) rfl ?_
  refine g_iadd X30 hx (bb d5_106) ?_
  have F31 := (f4_0.keep K15 (ninS ne_ob_ol (ninS ne_ob_oh nin0)))
  refine gLi X30 hx hZ e30 F31 (v := (.int (f_base et0 et0))) ⟨by decide, by decide⟩ rfl (bb d5_107) ?_
  refine g_isub X30 hx (bb d5_108) ?_
  refine g_i2c X30 hx (bb d5_109) ?_
  have F32 := (F12.keep K15 (ninS (Ne.symm ne_ol_ov) (ninS (Ne.symm ne_oh_ov) nin0)))
  refine gSc X30 hx hZ e30 F32 ⟨by decide, by decide⟩ 0 rfl (Nat.le_of_ble_eq_true rfl) N15 g_ov (bb d5_110) (fun T33 h33 X33 e33 W33 V33 N33 => ?_)
  refine g_goto X33 hx (pc' := 130) (bb d5_111) (by decide) (by decide) ?_
  refine g_iinc X33 hx (bb d5_130) rfl (l' := #[vR a1, vR at_, vI 0, vI 0, vI 0, vR ov, vI 1]) rfl ?_
  refine g_goto X33 hx (pc' := 69) (bb d5_133) (by decide) (by decide) ?_
  refine g_iload X33 hx (bb d5_69) rfl ?_
  refine g_aloadN X33 hx (bb d5_71) rfl rfl ?_
  have F35 := (F22.other W33 (Or.inl ne_a1_ov))
  refine gF X33 hx hZ hown (ww 22 rfl) e33 F35 (bb d5_72) (fun T34 X34 e34 => ?_)
  refine g_icmpNo X34 hx (bb d5_75) (tlt (by decide : (1 : Int32) < (2 : Int32))).2.1 ?_
  refine g_aload X34 hx (bb d5_78) rfl rfl ?_
  refine g_ifnullNo X34 hx (bb d5_80) ?_
  refine g_aload X34 hx (bb d5_83) rfl rfl ?_
  refine g_iload X34 hx (bb d5_85) rfl ?_
  refine g_iload X34 hx (bb d5_87) rfl ?_
  refine g_iadd X34 hx (bb d5_89) ?_
  refine g_aloadN X34 hx (bb d5_90) rfl rfl ?_
  refine g_iload X34 hx (bb d5_91) rfl ?_
  have F36 := (F27.other W33 ne_at__ov)
  refine gLi X34 hx hZ e34 F36 (v := (.int et1)) ⟨by decide, by decide⟩ rfl (bb d5_93) ?_
  refine g_aloadN X34 hx (bb d5_94) rfl rfl ?_
  have F38 := (F29.other W33 (Or.inl ne_a1_ov))
  refine gF X34 hx hZ hown (ww 24 rfl) e34 F38 (bb d5_95) (fun T37 X37 e37 => ?_)
  refine g_iloadN X37 hx (bb d5_98) rfl ?_
  refine g_aloadN X37 hx (bb d5_99) rfl rfl ?_
  refine gF X37 hx hZ hown (ww 22 rfl) e37 F35 (bb d5_100) (fun T39 X39 e39 => ?_)
  refine g_imul X39 hx (bb d5_103) ?_
  refine g_iload X39 hx (bb d5_104) rfl ?_
  refine g_iadd X39 hx (bb d5_106) ?_
  have F40 := (F31.other W33 ne_ob_ov)
  refine gLi X39 hx hZ e39 F40 (v := (.int (f_base et1 et1))) ⟨by decide, by decide⟩ rfl (bb d5_107) ?_
  refine g_isub X39 hx (bb d5_108) ?_
  refine g_i2c X39 hx (bb d5_109) ?_
  refine gSc X39 hx hZ e39 V33 ⟨by decide, by decide⟩ 1 rfl (Nat.le_of_ble_eq_true rfl) N33 g_ov (bb d5_110) (fun T41 h41 X41 e41 W41 V41 N41 => ?_)
  refine g_goto X41 hx (pc' := 130) (bb d5_111) (by decide) (by decide) ?_
  refine g_iinc X41 hx (bb d5_130) rfl (l' := #[vR a1, vR at_, vI 0, vI 0, vI 0, vR ov, vI 2]) rfl ?_
  refine g_goto X41 hx (pc' := 69) (bb d5_133) (by decide) (by decide) ?_
  refine g_iload X41 hx (bb d5_69) rfl ?_
  refine g_aloadN X41 hx (bb d5_71) rfl rfl ?_
  have F43 := (F35.other W41 (Or.inl ne_a1_ov))
  refine gF X41 hx hZ hown (ww 22 rfl) e41 F43 (bb d5_72) (fun T42 X42 e42 => ?_)
  refine g_icmpYes X42 hx (pc' := 136) (bb d5_75) (flt (by decide : ¬ ((2 : Int32) < (2 : Int32)))).2.1 (by decide) (by decide) ?_
  refine g_aloadN X42 hx (bb d5_136) rfl rfl ?_
  refine g_dup X42 hx (bb d5_137) rfl ?_
  have F45 := (((F16.keep K15 (ninS ne_a1_ol (ninS ne_a1_oh nin0))).other W33 (Or.inl ne_a1_ov)).other W41 (Or.inl ne_a1_ov))
  refine gF X42 hx hZ hown (ww 37 rfl) e42 F45 (bb d5_138) (fun T44 X44 e44 => ?_)
  refine g_iconst X44 hx (bb d5_141) ?_
  refine g_iadd X44 hx (bb d5_142) ?_
  have F47 := (((F6.keep K15).wr W33).wr W41)
  obtain ⟨T46, h46, X46, e46, W46, st46⟩ := putF X44 hx hZ hown (host := "") (Or.inl (ww 37 rfl)) Via.refl e44 F45 F47 (Or.inl (ww 38 rfl)) (ww 6 rfl) (ty := .int) (by decide) rfl rfl (g := (mkF m 143 #[vR a1, vR at_, vI 0, vI 0, vI 0, vR ov, vI 2] [(.int 1), (.ref a1)])) rfl rfl (bb d5_143)
  have Fw46 := F45.same W46
  refine gl st46 ?_
  have N46 := Fr.snoc X46 N41 g_a1
  have F48 := (F47.wr W46)
  have F49 := (F43.other W46 (Or.inr (slot_ne (Or.inr (ww 23 rfl)) (Or.inl (ww 38 rfl)) (by decide) (t := .int) (t' := .int) (by decide) (by decide))))
  have F50 := ((((F8.keep K15 (ninS ne_a1_ol (ninS ne_a1_oh nin0))).other W33 (Or.inl ne_a1_ov)).other W41 (Or.inl ne_a1_ov)).other W46 (Or.inr (slot_ne (Or.inl (ww 17 rfl)) (Or.inl (ww 38 rfl)) (by decide) (t := (.array (.array .int))) (t' := .int) (by decide) (by decide))))
  have F51 := (((F24.other W33 (Or.inl ne_a1_ov)).other W41 (Or.inl ne_a1_ov)).other W46 (Or.inr (slot_ne (Or.inl (ww 21 rfl)) (Or.inl (ww 38 rfl)) (by decide) (t := (.array (.array .char))) (t' := .int) (by decide) (by decide))))
  have F52 := ((F38.other W41 (Or.inl ne_a1_ov)).other W46 (Or.inr (slot_ne (Or.inl (ww 25 rfl)) (Or.inl (ww 38 rfl)) (by decide) (t := (.array .int)) (t' := .int) (by decide) (by decide))))
  have F53 := ((((F18.keep K15 (ninS ne_a1_ol (ninS ne_a1_oh nin0))).other W33 (Or.inl ne_a1_ov)).other W41 (Or.inl ne_a1_ov)).other W46 (Or.inr (slot_ne (Or.inr (ww 27 rfl)) (Or.inl (ww 38 rfl)) (by decide) (t := (.array .int)) (t' := .int) (by decide) (by decide))))
  have F54 := ((((F19.keep K15 (ninS ne_a1_ol (ninS ne_a1_oh nin0))).other W33 (Or.inl ne_a1_ov)).other W41 (Or.inl ne_a1_ov)).other W46 (Or.inr (slot_ne (Or.inr (ww 29 rfl)) (Or.inl (ww 38 rfl)) (by decide) (t := (.array .int)) (t' := .int) (by decide) (by decide))))
  have F55 := ((((F10.keep K15 (ninS ne_ow_ol (ninS ne_ow_oh nin0))).other W33 ne_ow_ov).other W41 ne_ow_ov).other W46 (Ne.symm ne_a1_ow))
  have F56 := (((F25.other W33 ne_on_ov).other W41 ne_on_ov).other W46 (Ne.symm ne_a1_on))
  have F57 := ((F40.other W41 ne_ob_ov).other W46 (Ne.symm ne_a1_ob))
  have F58 := (((f15_0.other W33 ne_ol_ov).other W41 ne_ol_ov).other W46 (Ne.symm ne_a1_ol))
  have F59 := (((f15_1.other W33 ne_oh_ov).other W41 ne_oh_ov).other W46 (Ne.symm ne_a1_oh))
  have F60 := (V41.other W46 (Ne.symm ne_a1_ov))
  obtain ⟨fs, hr, hrun, hended, hW, hsame⟩ := X46.leave (v := none) (fun _ => rfl)
  subst hR0
  refine ⟨_, _, ?_, hrun, hended, _, _, rfl, ?_, ⟨_, rfl⟩, hW, hsame.mono (by decide) (by decide)⟩
  · exact X46.returnOut hx hret (bb d5_146) hr
  · show Q_add2N0 Z a1 at_ ow on ob ol oh ov kw_ kn_ kb_ kl_ kh_ kv_ eb0 eb1 el0 el1 eu0 eu1 ex0 ex1 ex2 ex3 ex4 ex5 ex6 ex7 ex8 ex9 ex10 ex11 ex12 ex13 ex14 ex15 kt_ et0 et1 h0 n0 _ T46.heap _
    rw [e46]
    exact ⟨rfl, N46, ((((((Keep.refl h0 [a1, ob, ol, oh, ov]).trans K4 (allS (Or.inl (List.mem_of_getElem? (i := 1) rfl)) (allS (Or.inl (List.mem_of_getElem? (i := 2) rfl)) (allS (Or.inl (List.mem_of_getElem? (i := 3) rfl)) all0)))).trans K15 (allS (Or.inl (List.mem_of_getElem? (i := 2) rfl)) (allS (Or.inl (List.mem_of_getElem? (i := 3) rfl)) all0))).wr W33 (Or.inl (List.mem_of_getElem? (i := 4) rfl))).wr W41 (Or.inl (List.mem_of_getElem? (i := 4) rfl))).wr W46 (Or.inl (List.mem_of_getElem? (i := 0) rfl))), F48, F49, Fw46, F50, F51, F52, F53, F54, F55, r9, F56, r11, F57, F58, F59, (by have q := F60; (try simp only [own_c1] at q); exact q)⟩
def Q_add2N1 (Z : State) (a1 at_ ow on ob ol oh ov : Addr) (kw_ kn_ kb_ kl_ kh_ kv_ : ClassId) (eb0 eb1 el0 el1 eu0 eu1 ev0_0 ev0_1 ex2 ex3 ex4 ex5 ex6 ex7 ex8 ex9 ex10 ex11 ex12 ex13 ex14 ex15 : Int32) (kt_ : ClassId) (et0 et1 : Int32) (h0 : Heap) (n0 : Nat) (v : Option Value) (h : Heap) (L : List Loc) : Prop := v = none ∧ Fr n0 L ∧ Keep h0 h [a1, ob, ol, oh, ov] ∧ Exa Z h a1 cRV ∧ Fld Z h a1 cRV "arity" "I" (.int 2) ∧ Fld Z h a1 cRV "rows" "I" (.int 2) ∧ Fld Z h a1 cRV "wide" "[[I" (.ref ow) ∧ Fld Z h a1 cRV "narrow" "[[C" (.ref on) ∧ Fld Z h a1 cRV "bases" "[I" (.ref ob) ∧ Fld Z h a1 cRV "lowest" "[I" (.ref ol) ∧ Fld Z h a1 cRV "highest" "[I" (.ref oh) ∧ Arv Z h ow kw_ (.array .int) (1 : Int32) [.null] .null ∧ OvrA Z kw_ .int "[I" ∧ Arv Z h on kn_ (.array .char) (1 : Int32) [(.ref ov)] .null ∧ OvrA Z kn_ .char "[C" ∧ Arv Z h ob kb_ .int (2 : Int32) [(.int (nbase eb0 el0 eu0 et0)), (.int (nbase eb1 el1 eu1 et1))] (.int 0) ∧ Arv Z h ol kl_ .int (2 : Int32) [(.int (f_minI et0 el0)), (.int (f_minI et1 el1))] (.int 0) ∧ Arv Z h oh kh_ .int (2 : Int32) [(.int (f_maxI et0 eu0)), (.int (f_maxI et1 eu1))] (.int 0) ∧ Arv Z h ov kv_ .char (16 : Int32) [(.int (nar .char (ev0_0 - (nbase eb0 el0 eu0 et0)))), (.int (nar .char (ev0_1 - (nbase eb1 el1 eu1 et1)))), (.int (nar .char (et0 - (nbase eb0 el0 eu0 et0)))), (.int (nar .char (et1 - (nbase eb1 el1 eu1 et1)))), (.int ex4), (.int ex5), (.int ex6), (.int ex7), (.int ex8), (.int ex9), (.int ex10), (.int ex11), (.int ex12), (.int ex13), (.int ex14), (.int ex15)] (.int 0)
set_option maxRecDepth 65536 in
set_option maxHeartbeats 40000000 in
theorem rm_add2N1 (l : Launch) (Z : State) (a0 : Array Value) (ww : WW a0 Z) (ws : List Jvm.Cond) (a1 at_ ow on ob ol oh ov : Addr) (kw_ kn_ kb_ kl_ kh_ kv_ : ClassId) (eb0 eb1 el0 el1 eu0 eu1 ev0_0 ev0_1 ex2 ex3 ex4 ex5 ex6 ex7 ex8 ex9 ex10 ex11 ex12 ex13 ex14 ex15 : Int32) (kt_ : ClassId) (et0 et1 : Int32) (h0 : Heap) (n0 : Nat) (Z0 : n0 ≤ h0.size) (O0 : Old Z n0 h0) (S_CS : Sta Z Z.heap cRV "CHUNK_SHIFT" "I" (.int (12 : Int32))) (r0 : Exa Z h0 a1 cRV) (r1 : Fld Z h0 a1 cRV "arity" "I" (.int 2)) (r2 : Fld Z h0 a1 cRV "rows" "I" (.int 1)) (r3 : Fld Z h0 a1 cRV "wide" "[[I" (.ref ow)) (r4 : Fld Z h0 a1 cRV "narrow" "[[C" (.ref on)) (r5 : Fld Z h0 a1 cRV "bases" "[I" (.ref ob)) (r6 : Fld Z h0 a1 cRV "lowest" "[I" (.ref ol)) (r7 : Fld Z h0 a1 cRV "highest" "[I" (.ref oh)) (r8 : Arv Z h0 ow kw_ (.array .int) (1 : Int32) [.null] .null) (r9 : OvrA Z kw_ .int "[I") (r10 : Arv Z h0 on kn_ (.array .char) (1 : Int32) [(.ref ov)] .null) (r11 : OvrA Z kn_ .char "[C") (r12 : Arv Z h0 ob kb_ .int (2 : Int32) [(.int eb0), (.int eb1)] (.int 0)) (r13 : Arv Z h0 ol kl_ .int (2 : Int32) [(.int el0), (.int el1)] (.int 0)) (r14 : Arv Z h0 oh kh_ .int (2 : Int32) [(.int eu0), (.int eu1)] (.int 0)) (r15 : Arv Z h0 ov kv_ .char (16 : Int32) [(.int (nar .char (ev0_0 - eb0))), (.int (nar .char (ev0_1 - eb1))), (.int ex2), (.int ex3), (.int ex4), (.int ex5), (.int ex6), (.int ex7), (.int ex8), (.int ex9), (.int ex10), (.int ex11), (.int ex12), (.int ex13), (.int ex14), (.int ex15)] (.int 0)) (r16 : Arv Z h0 at_ kt_ .int (2 : Int32) [(.int et0), (.int et1)] (.int 0)) (g_a1 : n0 ≤ a1) (g_ob : n0 ≤ ob) (g_ol : n0 ≤ ol) (g_oh : n0 ≤ oh) (g_ov : n0 ≤ ov) (ne_a1_ow : a1 ≠ ow) (ne_a1_on : a1 ≠ on) (ne_a1_ob : a1 ≠ ob) (ne_a1_ol : a1 ≠ ol) (ne_a1_oh : a1 ≠ oh) (ne_a1_ov : a1 ≠ ov) (ne_ow_on : ow ≠ on) (ne_ow_ob : ow ≠ ob) (ne_ow_ol : ow ≠ ol) (ne_ow_oh : ow ≠ oh) (ne_ow_ov : ow ≠ ov) (ne_on_ob : on ≠ ob) (ne_on_ol : on ≠ ol) (ne_on_oh : on ≠ oh) (ne_on_ov : on ≠ ov) (ne_ob_ol : ob ≠ ol) (ne_ob_oh : ob ≠ oh) (ne_ob_ov : ob ≠ ov) (ne_ol_oh : ol ≠ oh) (ne_ol_ov : ol ≠ ov) (ne_oh_ov : oh ≠ ov) (ne_at__a1 : at_ ≠ a1) (ne_at__ow : at_ ≠ ow) (ne_at__on : at_ ≠ on) (ne_at__ob : at_ ≠ ob) (ne_at__ol : at_ ≠ ol) (ne_at__oh : at_ ≠ oh) (ne_at__ov : at_ ≠ ov) (hs0 : (lcmpW (((f_maxI et0 eu0).toInt64) - ((f_minI et0 el0).toInt64)) (65536 : Int64)) < (0 : Int32)) (hs1 : (lcmpW (((f_maxI et1 eu1).toInt64) - ((f_minI et1 el1).toInt64)) (65536 : Int64)) < (0 : Int32)) :
    MF l Z (⟨cRV, "add", "([I)V"⟩ : MethodName) prog_47_method_4_code 7 none ws ({ frames := 3, cells := 0, slots := 0, locals := 52 } : Room) #[(.ref a1), (.ref at_)] h0 (Q_add2N1 Z a1 at_ ow on ob ol oh ov kw_ kn_ kb_ kl_ kh_ kv_ eb0 eb1 el0 el1 eu0 eu1 ev0_0 ev0_1 ex2 ex3 ex4 ex5 ex6 ex7 ex8 ex9 ex10 ex11 ex12 ex13 ex14 ex15 kt_ et0 et1 h0 n0) := by
  refine gopen (plainFor_of_name pn_RowValues) (fun m => ef_add2N1 m a1 at_) (fun p e s m below meth c s₁ hlk hret hx bb hml hown hnm hZ X0 e0 R0 hR0 => ?_)
  have N0 := Fr.nil n0
  refine g_aloadN X0 hx (bb d5_0) rfl rfl ?_
  refine gF X0 hx hZ hown (ww 37 rfl) e0 r2 (bb d5_1) (fun T1 X1 e1 => ?_)
  refine gS X1 hx hZ hown (ww 44 rfl) e1 (S_CS.ext O0.2) (bb d5_4) (fun T2 X2 e2 => ?_)
  refine g_iushr X2 hx (bb d5_7) ?_
  refine g_istoreN X2 hx (bb d5_8) (l' := #[vR a1, vR at_, vI 0, .unset, .unset, .unset, .unset]) rfl ?_
  refine g_aloadN X2 hx (bb d5_9) rfl rfl ?_
  refine gF X2 hx hZ hown (ww 37 rfl) e2 r2 (bb d5_10) (fun T3 X3 e3 => ?_)
  refine g_sipush X3 hx (bb d5_13) ?_
  refine g_iand X3 hx (bb d5_16) ?_
  refine g_istoreN X3 hx (bb d5_17) (l' := #[vR a1, vR at_, vI 0, vI 1, .unset, .unset, .unset]) rfl ?_
  refine g_iloadN X3 hx (bb d5_18) rfl ?_
  refine g_ifYes X3 hx (pc' := 28) (bb d5_19) ((if0 _ _).trans (feq (by decide : ¬ ((1 : Int32) = (0 : Int32)))).2) (by decide) (by decide) ?_
  refine g_aloadN X3 hx (bb d5_28) rfl rfl ?_
  refine g_iloadN X3 hx (bb d5_29) rfl ?_
  refine g_iloadN X3 hx (bb d5_30) rfl ?_
  refine gcP X3 hx hZ hml hown (ww 64 rfl) (ww 7 rfl) (ww 67 rfl) (ww 6 rfl) (ww 65 rfl) (ww 66 rfl) e3 r0 (rm_room2N1 l Z a0 ww [] a1 ow on ob ol oh ov kw_ kn_ kb_ kl_ kh_ kv_ eb0 eb1 el0 el1 eu0 eu1 ev0_0 ev0_1 ex2 ex3 ex4 ex5 ex6 ex7 ex8 ex9 ex10 ex11 ex12 ex13 ex14 ex15 h0 n0 (own_z0 O0) O0 S_CS r0 r1 r3 r4 r8 r10 r15) pd__II_V_5 (bb d5_31) 0 rfl (fun T4 L4 v4 X4 hQ4 => ?_)
  obtain ⟨rfl, N4q, e4⟩ := hQ4
  have N4 := Fr.app N0 N4q
  refine g_aloadN X4 hx (bb d5_34) rfl rfl ?_
  refine gF X4 hx hZ hown (ww 20 rfl) e4 r4 (bb d5_35) (fun T5 X5 e5 => ?_)
  refine g_iloadN X5 hx (bb d5_38) rfl ?_
  refine gLr rfl X5 hx hZ e5 r10 (v := (.ref ov)) ⟨by decide, by decide⟩ rfl (bb d5_39) ?_
  refine g_ifnullNo X5 hx (bb d5_40) ?_
  refine g_aloadN X5 hx (bb d5_43) rfl rfl ?_
  refine g_iloadN X5 hx (bb d5_44) rfl ?_
  refine g_iloadN X5 hx (bb d5_45) rfl ?_
  refine g_aloadN X5 hx (bb d5_46) rfl rfl ?_
  refine gcP X5 hx hZ hml hown (ww 71 rfl) (ww 7 rfl) (ww 74 rfl) (ww 6 rfl) (ww 72 rfl) (ww 73 rfl) e5 r0 (rm_fit2_1 l Z a0 ww [] a1 at_ ow on ob ol oh ov kw_ kn_ kb_ kl_ kh_ kv_ eb0 eb1 el0 el1 eu0 eu1 ev0_0 ev0_1 ex2 ex3 ex4 ex5 ex6 ex7 ex8 ex9 ex10 ex11 ex12 ex13 ex14 ex15 kt_ et0 et1 h0 n0 (own_z0 O0) O0 S_CS r0 r1 r2 r3 r4 r5 r6 r7 r8 r9 r10 r11 r12 r13 r14 r15 r16 g_ob g_ol g_oh g_ov ne_a1_ow ne_a1_on ne_a1_ob ne_a1_ol ne_a1_oh ne_a1_ov ne_ow_on ne_ow_ob ne_ow_ol ne_ow_oh ne_ow_ov ne_on_ob ne_on_ol ne_on_oh ne_on_ov ne_ob_ol ne_ob_oh ne_ob_ov ne_ol_oh ne_ol_ov ne_oh_ov ne_at__a1 ne_at__ow ne_at__on ne_at__ob ne_at__ol ne_at__oh ne_at__ov hs0 hs1) pd__II_I_V_7 (bb d5_47) 0 rfl (fun T6 L6 v6 X6 hQ6 => ?_)
  obtain ⟨rfl, N6q, K6, f6_0, f6_1, f6_2, f6_3⟩ := hQ6
  have N6 := Fr.app N4 N6q
  refine g_iloadN X6 hx (bb d5_50) rfl ?_
  refine g_aloadN X6 hx (bb d5_51) rfl rfl ?_
  have F8 := (r1.keep K6 (ninS ne_a1_ob (ninS ne_a1_ol (ninS ne_a1_oh (ninS ne_a1_ov nin0)))))
  refine gF X6 hx hZ hown (ww 22 rfl) rfl F8 (bb d5_52) (fun T7 X7 e7 => ?_)
  refine g_imul X7 hx (bb d5_55) ?_
  refine g_istore X7 hx (bb d5_56) (l' := #[vR a1, vR at_, vI 0, vI 1, vI 2, .unset, .unset]) rfl ?_
  refine g_aloadN X7 hx (bb d5_58) rfl rfl ?_
  have F10 := (r4.keep K6 (ninS ne_a1_ob (ninS ne_a1_ol (ninS ne_a1_oh (ninS ne_a1_ov nin0)))))
  refine gF X7 hx hZ hown (ww 20 rfl) e7 F10 (bb d5_59) (fun T9 X9 e9 => ?_)
  refine g_iloadN X9 hx (bb d5_62) rfl ?_
  have F11 := (r10.keep K6 (ninS ne_on_ob (ninS ne_on_ol (ninS ne_on_oh (ninS ne_on_ov nin0)))))
  refine gLr rfl X9 hx hZ e9 F11 (v := (.ref ov)) ⟨by decide, by decide⟩ rfl (bb d5_63) ?_
  refine g_astore X9 hx (bb d5_64) rfl (l' := #[vR a1, vR at_, vI 0, vI 1, vI 2, vR ov, .unset]) rfl ?_
  refine g_iconst X9 hx (bb d5_66) ?_
  refine g_istore X9 hx (bb d5_67) (l' := #[vR a1, vR at_, vI 0, vI 1, vI 2, vR ov, vI 0]) rfl ?_
  refine g_iload X9 hx (bb d5_69) rfl ?_
  refine g_aloadN X9 hx (bb d5_71) rfl rfl ?_
  refine gF X9 hx hZ hown (ww 22 rfl) e9 F8 (bb d5_72) (fun T12 X12 e12 => ?_)
  refine g_icmpNo X12 hx (bb d5_75) (tlt (by decide : (0 : Int32) < (2 : Int32))).2.1 ?_
  refine g_aload X12 hx (bb d5_78) rfl rfl ?_
  refine g_ifnullNo X12 hx (bb d5_80) ?_
  refine g_aload X12 hx (bb d5_83) rfl rfl ?_
  refine g_iload X12 hx (bb d5_85) rfl ?_
  refine g_iload X12 hx (bb d5_87) rfl ?_
  refine g_iadd X12 hx (bb d5_89) ?_
  refine g_aloadN X12 hx (bb d5_90) rfl rfl ?_
  refine g_iload X12 hx (bb d5_91) rfl ?_
  have F13 := (r16.keep K6 (ninS ne_at__ob (ninS ne_at__ol (ninS ne_at__oh (ninS ne_at__ov nin0)))))
  refine gLi X12 hx hZ e12 F13 (v := (.int et0)) ⟨by decide, by decide⟩ rfl (bb d5_93) ?_
  refine g_aloadN X12 hx (bb d5_94) rfl rfl ?_
  have F15 := (r5.keep K6 (ninS ne_a1_ob (ninS ne_a1_ol (ninS ne_a1_oh (ninS ne_a1_ov nin0)))))
  refine gF X12 hx hZ hown (ww 24 rfl) e12 F15 (bb d5_95) (fun T14 X14 e14 => ?_)
  refine g_iloadN X14 hx (bb d5_98) rfl ?_
  refine g_aloadN X14 hx (bb d5_99) rfl rfl ?_
  refine gF X14 hx hZ hown (ww 22 rfl) e14 F8 (bb d5_100) (fun T16 X16 e16 => ?_)
  refine g_imul X16 hx (bb d5_103) ?_
  refine g_iload X16 hx (bb d5_104) rfl ?_
  refine g_iadd X16 hx (bb d5_106) ?_
  refine gLi X16 hx hZ e16 f6_2 (v := (.int (nbase eb0 el0 eu0 et0))) ⟨by decide, by decide⟩ rfl (bb d5_107) ?_
  refine g_isub X16 hx (bb d5_108) ?_
  refine g_i2c X16 hx (bb d5_109) ?_
  refine gSc X16 hx hZ e16 f6_3 ⟨by decide, by decide⟩ 2 rfl (Nat.le_of_ble_eq_true rfl) N6 g_ov (bb d5_110) (fun T17 h17 X17 e17 W17 V17 N17 => ?_)
  refine g_goto X17 hx (pc' := 130) (bb d5_111) (by decide) (by decide) ?_
  refine g_iinc X17 hx (bb d5_130) rfl (l' := #[vR a1, vR at_, vI 0, vI 1, vI 2, vR ov, vI 1]) rfl ?_
  refine g_goto X17 hx (pc' := 69) (bb d5_133) (by decide) (by decide) ?_
  refine g_iload X17 hx (bb d5_69) rfl ?_
  refine g_aloadN X17 hx (bb d5_71) rfl rfl ?_
  have F19 := (F8.other W17 (Or.inl ne_a1_ov))
  refine gF X17 hx hZ hown (ww 22 rfl) e17 F19 (bb d5_72) (fun T18 X18 e18 => ?_)
  refine g_icmpNo X18 hx (bb d5_75) (tlt (by decide : (1 : Int32) < (2 : Int32))).2.1 ?_
  refine g_aload X18 hx (bb d5_78) rfl rfl ?_
  refine g_ifnullNo X18 hx (bb d5_80) ?_
  refine g_aload X18 hx (bb d5_83) rfl rfl ?_
  refine g_iload X18 hx (bb d5_85) rfl ?_
  refine g_iload X18 hx (bb d5_87) rfl ?_
  refine g_iadd X18 hx (bb d5_89) ?_
  refine g_aloadN X18 hx (bb d5_90) rfl rfl ?_
  refine g_iload X18 hx (bb d5_91) rfl ?_
  have F20 := (F13.other W17 ne_at__ov)
  refine gLi X18 hx hZ e18 F20 (v := (.int et1)) ⟨by decide, by decide⟩ rfl (bb d5_93) ?_
  refine g_aloadN X18 hx (bb d5_94) rfl rfl ?_
  have F22 := (F15.other W17 (Or.inl ne_a1_ov))
  refine gF X18 hx hZ hown (ww 24 rfl) e18 F22 (bb d5_95) (fun T21 X21 e21 => ?_)
  refine g_iloadN X21 hx (bb d5_98) rfl ?_
  refine g_aloadN X21 hx (bb d5_99) rfl rfl ?_
  refine gF X21 hx hZ hown (ww 22 rfl) e21 F19 (bb d5_100) (fun T23 X23 e23 => ?_)
  refine g_imul X23 hx (bb d5_103) ?_
  refine g_iload X23 hx (bb d5_104) rfl ?_
  refine g_iadd X23 hx (bb d5_106) ?_
  have F24 := (f6_2.other W17 ne_ob_ov)
  refine gLi X23 hx hZ e23 F24 (v := (.int (nbase eb1 el1 eu1 et1))) ⟨by decide, by decide⟩ rfl (bb d5_107) ?_
  refine g_isub X23 hx (bb d5_108) ?_
  refine g_i2c X23 hx (bb d5_109) ?_
  refine gSc X23 hx hZ e23 V17 ⟨by decide, by decide⟩ 3 rfl (Nat.le_of_ble_eq_true rfl) N17 g_ov (bb d5_110) (fun T25 h25 X25 e25 W25 V25 N25 => ?_)
  refine g_goto X25 hx (pc' := 130) (bb d5_111) (by decide) (by decide) ?_
  refine g_iinc X25 hx (bb d5_130) rfl (l' := #[vR a1, vR at_, vI 0, vI 1, vI 2, vR ov, vI 2]) rfl ?_
  refine g_goto X25 hx (pc' := 69) (bb d5_133) (by decide) (by decide) ?_
  refine g_iload X25 hx (bb d5_69) rfl ?_
  refine g_aloadN X25 hx (bb d5_71) rfl rfl ?_
  have F27 := (F19.other W25 (Or.inl ne_a1_ov))
  refine gF X25 hx hZ hown (ww 22 rfl) e25 F27 (bb d5_72) (fun T26 X26 e26 => ?_)
  refine g_icmpYes X26 hx (pc' := 136) (bb d5_75) (flt (by decide : ¬ ((2 : Int32) < (2 : Int32)))).2.1 (by decide) (by decide) ?_
  refine g_aloadN X26 hx (bb d5_136) rfl rfl ?_
  refine g_dup X26 hx (bb d5_137) rfl ?_
  have F29 := (((r2.keep K6 (ninS ne_a1_ob (ninS ne_a1_ol (ninS ne_a1_oh (ninS ne_a1_ov nin0))))).other W17 (Or.inl ne_a1_ov)).other W25 (Or.inl ne_a1_ov))
  refine gF X26 hx hZ hown (ww 37 rfl) e26 F29 (bb d5_138) (fun T28 X28 e28 => ?_)
  refine g_iconst X28 hx (bb d5_141) ?_
  refine g_iadd X28 hx (bb d5_142) ?_
  have F31 := (((r0.keep K6).wr W17).wr W25)
  obtain ⟨T30, h30, X30, e30, W30, st30⟩ := putF X28 hx hZ hown (host := "") (Or.inl (ww 37 rfl)) Via.refl e28 F29 F31 (Or.inl (ww 38 rfl)) (ww 6 rfl) (ty := .int) (by decide) rfl rfl (g := (mkF m 143 #[vR a1, vR at_, vI 0, vI 1, vI 2, vR ov, vI 2] [(.int 2), (.ref a1)])) rfl rfl (bb d5_143)
  have Fw30 := F29.same W30
  refine gl st30 ?_
  have N30 := Fr.snoc X30 N25 g_a1
  have F32 := (F31.wr W30)
  have F33 := (F27.other W30 (Or.inr (slot_ne (Or.inr (ww 23 rfl)) (Or.inl (ww 38 rfl)) (by decide) (t := .int) (t' := .int) (by decide) (by decide))))
  have F34 := ((((r3.keep K6 (ninS ne_a1_ob (ninS ne_a1_ol (ninS ne_a1_oh (ninS ne_a1_ov nin0))))).other W17 (Or.inl ne_a1_ov)).other W25 (Or.inl ne_a1_ov)).other W30 (Or.inr (slot_ne (Or.inl (ww 17 rfl)) (Or.inl (ww 38 rfl)) (by decide) (t := (.array (.array .int))) (t' := .int) (by decide) (by decide))))
  have F35 := (((F10.other W17 (Or.inl ne_a1_ov)).other W25 (Or.inl ne_a1_ov)).other W30 (Or.inr (slot_ne (Or.inl (ww 21 rfl)) (Or.inl (ww 38 rfl)) (by decide) (t := (.array (.array .char))) (t' := .int) (by decide) (by decide))))
  have F36 := ((F22.other W25 (Or.inl ne_a1_ov)).other W30 (Or.inr (slot_ne (Or.inl (ww 25 rfl)) (Or.inl (ww 38 rfl)) (by decide) (t := (.array .int)) (t' := .int) (by decide) (by decide))))
  have F37 := ((((r6.keep K6 (ninS ne_a1_ob (ninS ne_a1_ol (ninS ne_a1_oh (ninS ne_a1_ov nin0))))).other W17 (Or.inl ne_a1_ov)).other W25 (Or.inl ne_a1_ov)).other W30 (Or.inr (slot_ne (Or.inr (ww 27 rfl)) (Or.inl (ww 38 rfl)) (by decide) (t := (.array .int)) (t' := .int) (by decide) (by decide))))
  have F38 := ((((r7.keep K6 (ninS ne_a1_ob (ninS ne_a1_ol (ninS ne_a1_oh (ninS ne_a1_ov nin0))))).other W17 (Or.inl ne_a1_ov)).other W25 (Or.inl ne_a1_ov)).other W30 (Or.inr (slot_ne (Or.inr (ww 29 rfl)) (Or.inl (ww 38 rfl)) (by decide) (t := (.array .int)) (t' := .int) (by decide) (by decide))))
  have F39 := ((((r8.keep K6 (ninS ne_ow_ob (ninS ne_ow_ol (ninS ne_ow_oh (ninS ne_ow_ov nin0))))).other W17 ne_ow_ov).other W25 ne_ow_ov).other W30 (Ne.symm ne_a1_ow))
  have F40 := (((F11.other W17 ne_on_ov).other W25 ne_on_ov).other W30 (Ne.symm ne_a1_on))
  have F41 := ((F24.other W25 ne_ob_ov).other W30 (Ne.symm ne_a1_ob))
  have F42 := (((f6_0.other W17 ne_ol_ov).other W25 ne_ol_ov).other W30 (Ne.symm ne_a1_ol))
  have F43 := (((f6_1.other W17 ne_oh_ov).other W25 ne_oh_ov).other W30 (Ne.symm ne_a1_oh))
  have F44 := (V25.other W30 (Ne.symm ne_a1_ov))
  obtain ⟨fs, hr, hrun, hended, hW, hsame⟩ := X30.leave (v := none) (fun _ => rfl)
  subst hR0
  refine ⟨_, _, ?_, hrun, hended, _, _, rfl, ?_, ⟨_, rfl⟩, hW, hsame.mono (by decide) (by decide)⟩
  · exact X30.returnOut hx hret (bb d5_146) hr
  · show Q_add2N1 Z a1 at_ ow on ob ol oh ov kw_ kn_ kb_ kl_ kh_ kv_ eb0 eb1 el0 el1 eu0 eu1 ev0_0 ev0_1 ex2 ex3 ex4 ex5 ex6 ex7 ex8 ex9 ex10 ex11 ex12 ex13 ex14 ex15 kt_ et0 et1 h0 n0 _ T30.heap _
    rw [e30]
    exact ⟨rfl, N30, (((((Keep.refl h0 [a1, ob, ol, oh, ov]).trans K6 (allS (Or.inl (List.mem_of_getElem? (i := 1) rfl)) (allS (Or.inl (List.mem_of_getElem? (i := 2) rfl)) (allS (Or.inl (List.mem_of_getElem? (i := 3) rfl)) (allS (Or.inl (List.mem_of_getElem? (i := 4) rfl)) all0))))).wr W17 (Or.inl (List.mem_of_getElem? (i := 4) rfl))).wr W25 (Or.inl (List.mem_of_getElem? (i := 4) rfl))).wr W30 (Or.inl (List.mem_of_getElem? (i := 0) rfl))), F32, F33, Fw30, F34, F35, F36, F37, F38, F39, r9, F40, r11, F41, F42, F43, (by have q := F44; (try simp only [own_c1] at q); exact q)⟩
def Q_add2N2 (Z : State) (a1 at_ ow on ob ol oh ov : Addr) (kw_ kn_ kb_ kl_ kh_ kv_ : ClassId) (eb0 eb1 el0 el1 eu0 eu1 ev0_0 ev0_1 ev1_0 ev1_1 ex4 ex5 ex6 ex7 ex8 ex9 ex10 ex11 ex12 ex13 ex14 ex15 : Int32) (kt_ : ClassId) (et0 et1 : Int32) (h0 : Heap) (n0 : Nat) (v : Option Value) (h : Heap) (L : List Loc) : Prop := v = none ∧ Fr n0 L ∧ Keep h0 h [a1, ob, ol, oh, ov] ∧ Exa Z h a1 cRV ∧ Fld Z h a1 cRV "arity" "I" (.int 2) ∧ Fld Z h a1 cRV "rows" "I" (.int 3) ∧ Fld Z h a1 cRV "wide" "[[I" (.ref ow) ∧ Fld Z h a1 cRV "narrow" "[[C" (.ref on) ∧ Fld Z h a1 cRV "bases" "[I" (.ref ob) ∧ Fld Z h a1 cRV "lowest" "[I" (.ref ol) ∧ Fld Z h a1 cRV "highest" "[I" (.ref oh) ∧ Arv Z h ow kw_ (.array .int) (1 : Int32) [.null] .null ∧ OvrA Z kw_ .int "[I" ∧ Arv Z h on kn_ (.array .char) (1 : Int32) [(.ref ov)] .null ∧ OvrA Z kn_ .char "[C" ∧ Arv Z h ob kb_ .int (2 : Int32) [(.int (nbase eb0 el0 eu0 et0)), (.int (nbase eb1 el1 eu1 et1))] (.int 0) ∧ Arv Z h ol kl_ .int (2 : Int32) [(.int (f_minI et0 el0)), (.int (f_minI et1 el1))] (.int 0) ∧ Arv Z h oh kh_ .int (2 : Int32) [(.int (f_maxI et0 eu0)), (.int (f_maxI et1 eu1))] (.int 0) ∧ Arv Z h ov kv_ .char (16 : Int32) [(.int (nar .char (ev0_0 - (nbase eb0 el0 eu0 et0)))), (.int (nar .char (ev0_1 - (nbase eb1 el1 eu1 et1)))), (.int (nar .char (ev1_0 - (nbase eb0 el0 eu0 et0)))), (.int (nar .char (ev1_1 - (nbase eb1 el1 eu1 et1)))), (.int (nar .char (et0 - (nbase eb0 el0 eu0 et0)))), (.int (nar .char (et1 - (nbase eb1 el1 eu1 et1)))), (.int ex6), (.int ex7), (.int ex8), (.int ex9), (.int ex10), (.int ex11), (.int ex12), (.int ex13), (.int ex14), (.int ex15)] (.int 0)
set_option maxRecDepth 65536 in
set_option maxHeartbeats 40000000 in
theorem rm_add2N2 (l : Launch) (Z : State) (a0 : Array Value) (ww : WW a0 Z) (ws : List Jvm.Cond) (a1 at_ ow on ob ol oh ov : Addr) (kw_ kn_ kb_ kl_ kh_ kv_ : ClassId) (eb0 eb1 el0 el1 eu0 eu1 ev0_0 ev0_1 ev1_0 ev1_1 ex4 ex5 ex6 ex7 ex8 ex9 ex10 ex11 ex12 ex13 ex14 ex15 : Int32) (kt_ : ClassId) (et0 et1 : Int32) (h0 : Heap) (n0 : Nat) (Z0 : n0 ≤ h0.size) (O0 : Old Z n0 h0) (S_CS : Sta Z Z.heap cRV "CHUNK_SHIFT" "I" (.int (12 : Int32))) (r0 : Exa Z h0 a1 cRV) (r1 : Fld Z h0 a1 cRV "arity" "I" (.int 2)) (r2 : Fld Z h0 a1 cRV "rows" "I" (.int 2)) (r3 : Fld Z h0 a1 cRV "wide" "[[I" (.ref ow)) (r4 : Fld Z h0 a1 cRV "narrow" "[[C" (.ref on)) (r5 : Fld Z h0 a1 cRV "bases" "[I" (.ref ob)) (r6 : Fld Z h0 a1 cRV "lowest" "[I" (.ref ol)) (r7 : Fld Z h0 a1 cRV "highest" "[I" (.ref oh)) (r8 : Arv Z h0 ow kw_ (.array .int) (1 : Int32) [.null] .null) (r9 : OvrA Z kw_ .int "[I") (r10 : Arv Z h0 on kn_ (.array .char) (1 : Int32) [(.ref ov)] .null) (r11 : OvrA Z kn_ .char "[C") (r12 : Arv Z h0 ob kb_ .int (2 : Int32) [(.int eb0), (.int eb1)] (.int 0)) (r13 : Arv Z h0 ol kl_ .int (2 : Int32) [(.int el0), (.int el1)] (.int 0)) (r14 : Arv Z h0 oh kh_ .int (2 : Int32) [(.int eu0), (.int eu1)] (.int 0)) (r15 : Arv Z h0 ov kv_ .char (16 : Int32) [(.int (nar .char (ev0_0 - eb0))), (.int (nar .char (ev0_1 - eb1))), (.int (nar .char (ev1_0 - eb0))), (.int (nar .char (ev1_1 - eb1))), (.int ex4), (.int ex5), (.int ex6), (.int ex7), (.int ex8), (.int ex9), (.int ex10), (.int ex11), (.int ex12), (.int ex13), (.int ex14), (.int ex15)] (.int 0)) (r16 : Arv Z h0 at_ kt_ .int (2 : Int32) [(.int et0), (.int et1)] (.int 0)) (g_a1 : n0 ≤ a1) (g_ob : n0 ≤ ob) (g_ol : n0 ≤ ol) (g_oh : n0 ≤ oh) (g_ov : n0 ≤ ov) (ne_a1_ow : a1 ≠ ow) (ne_a1_on : a1 ≠ on) (ne_a1_ob : a1 ≠ ob) (ne_a1_ol : a1 ≠ ol) (ne_a1_oh : a1 ≠ oh) (ne_a1_ov : a1 ≠ ov) (ne_ow_on : ow ≠ on) (ne_ow_ob : ow ≠ ob) (ne_ow_ol : ow ≠ ol) (ne_ow_oh : ow ≠ oh) (ne_ow_ov : ow ≠ ov) (ne_on_ob : on ≠ ob) (ne_on_ol : on ≠ ol) (ne_on_oh : on ≠ oh) (ne_on_ov : on ≠ ov) (ne_ob_ol : ob ≠ ol) (ne_ob_oh : ob ≠ oh) (ne_ob_ov : ob ≠ ov) (ne_ol_oh : ol ≠ oh) (ne_ol_ov : ol ≠ ov) (ne_oh_ov : oh ≠ ov) (ne_at__a1 : at_ ≠ a1) (ne_at__ow : at_ ≠ ow) (ne_at__on : at_ ≠ on) (ne_at__ob : at_ ≠ ob) (ne_at__ol : at_ ≠ ol) (ne_at__oh : at_ ≠ oh) (ne_at__ov : at_ ≠ ov) (hs0 : (lcmpW (((f_maxI et0 eu0).toInt64) - ((f_minI et0 el0).toInt64)) (65536 : Int64)) < (0 : Int32)) (hs1 : (lcmpW (((f_maxI et1 eu1).toInt64) - ((f_minI et1 el1).toInt64)) (65536 : Int64)) < (0 : Int32)) :
    MF l Z (⟨cRV, "add", "([I)V"⟩ : MethodName) prog_47_method_4_code 7 none ws ({ frames := 3, cells := 0, slots := 0, locals := 52 } : Room) #[(.ref a1), (.ref at_)] h0 (Q_add2N2 Z a1 at_ ow on ob ol oh ov kw_ kn_ kb_ kl_ kh_ kv_ eb0 eb1 el0 el1 eu0 eu1 ev0_0 ev0_1 ev1_0 ev1_1 ex4 ex5 ex6 ex7 ex8 ex9 ex10 ex11 ex12 ex13 ex14 ex15 kt_ et0 et1 h0 n0) := by
  refine gopen (plainFor_of_name pn_RowValues) (fun m => ef_add2N2 m a1 at_) (fun p e s m below meth c s₁ hlk hret hx bb hml hown hnm hZ X0 e0 R0 hR0 => ?_)
  have N0 := Fr.nil n0
  refine g_aloadN X0 hx (bb d5_0) rfl rfl ?_
  refine gF X0 hx hZ hown (ww 37 rfl) e0 r2 (bb d5_1) (fun T1 X1 e1 => ?_)
  refine gS X1 hx hZ hown (ww 44 rfl) e1 (S_CS.ext O0.2) (bb d5_4) (fun T2 X2 e2 => ?_)
  refine g_iushr X2 hx (bb d5_7) ?_
  refine g_istoreN X2 hx (bb d5_8) (l' := #[vR a1, vR at_, vI 0, .unset, .unset, .unset, .unset]) rfl ?_
  refine g_aloadN X2 hx (bb d5_9) rfl rfl ?_
  refine gF X2 hx hZ hown (ww 37 rfl) e2 r2 (bb d5_10) (fun T3 X3 e3 => ?_)
  refine g_sipush X3 hx (bb d5_13) ?_
  refine g_iand X3 hx (bb d5_16) ?_
  refine g_istoreN X3 hx (bb d5_17) (l' := #[vR a1, vR at_, vI 0, vI 2, .unset, .unset, .unset]) rfl ?_
  refine g_iloadN X3 hx (bb d5_18) rfl ?_
  refine g_ifYes X3 hx (pc' := 28) (bb d5_19) ((if0 _ _).trans (feq (by decide : ¬ ((2 : Int32) = (0 : Int32)))).2) (by decide) (by decide) ?_
  refine g_aloadN X3 hx (bb d5_28) rfl rfl ?_
  refine g_iloadN X3 hx (bb d5_29) rfl ?_
  refine g_iloadN X3 hx (bb d5_30) rfl ?_
  refine gcP X3 hx hZ hml hown (ww 64 rfl) (ww 7 rfl) (ww 67 rfl) (ww 6 rfl) (ww 65 rfl) (ww 66 rfl) e3 r0 (rm_room2N2 l Z a0 ww [] a1 ow on ob ol oh ov kw_ kn_ kb_ kl_ kh_ kv_ eb0 eb1 el0 el1 eu0 eu1 ev0_0 ev0_1 ev1_0 ev1_1 ex4 ex5 ex6 ex7 ex8 ex9 ex10 ex11 ex12 ex13 ex14 ex15 h0 n0 (own_z0 O0) O0 S_CS r0 r1 r3 r4 r8 r10 r15) pd__II_V_5 (bb d5_31) 0 rfl (fun T4 L4 v4 X4 hQ4 => ?_)
  obtain ⟨rfl, N4q, e4⟩ := hQ4
  have N4 := Fr.app N0 N4q
  refine g_aloadN X4 hx (bb d5_34) rfl rfl ?_
  refine gF X4 hx hZ hown (ww 20 rfl) e4 r4 (bb d5_35) (fun T5 X5 e5 => ?_)
  refine g_iloadN X5 hx (bb d5_38) rfl ?_
  refine gLr rfl X5 hx hZ e5 r10 (v := (.ref ov)) ⟨by decide, by decide⟩ rfl (bb d5_39) ?_
  refine g_ifnullNo X5 hx (bb d5_40) ?_
  refine g_aloadN X5 hx (bb d5_43) rfl rfl ?_
  refine g_iloadN X5 hx (bb d5_44) rfl ?_
  refine g_iloadN X5 hx (bb d5_45) rfl ?_
  refine g_aloadN X5 hx (bb d5_46) rfl rfl ?_
  refine gcP X5 hx hZ hml hown (ww 71 rfl) (ww 7 rfl) (ww 74 rfl) (ww 6 rfl) (ww 72 rfl) (ww 73 rfl) e5 r0 (rm_fit2_2 l Z a0 ww [] a1 at_ ow on ob ol oh ov kw_ kn_ kb_ kl_ kh_ kv_ eb0 eb1 el0 el1 eu0 eu1 ev0_0 ev0_1 ev1_0 ev1_1 ex4 ex5 ex6 ex7 ex8 ex9 ex10 ex11 ex12 ex13 ex14 ex15 kt_ et0 et1 h0 n0 (own_z0 O0) O0 S_CS r0 r1 r2 r3 r4 r5 r6 r7 r8 r9 r10 r11 r12 r13 r14 r15 r16 g_ob g_ol g_oh g_ov ne_a1_ow ne_a1_on ne_a1_ob ne_a1_ol ne_a1_oh ne_a1_ov ne_ow_on ne_ow_ob ne_ow_ol ne_ow_oh ne_ow_ov ne_on_ob ne_on_ol ne_on_oh ne_on_ov ne_ob_ol ne_ob_oh ne_ob_ov ne_ol_oh ne_ol_ov ne_oh_ov ne_at__a1 ne_at__ow ne_at__on ne_at__ob ne_at__ol ne_at__oh ne_at__ov hs0 hs1) pd__II_I_V_7 (bb d5_47) 0 rfl (fun T6 L6 v6 X6 hQ6 => ?_)
  obtain ⟨rfl, N6q, K6, f6_0, f6_1, f6_2, f6_3⟩ := hQ6
  have N6 := Fr.app N4 N6q
  refine g_iloadN X6 hx (bb d5_50) rfl ?_
  refine g_aloadN X6 hx (bb d5_51) rfl rfl ?_
  have F8 := (r1.keep K6 (ninS ne_a1_ob (ninS ne_a1_ol (ninS ne_a1_oh (ninS ne_a1_ov nin0)))))
  refine gF X6 hx hZ hown (ww 22 rfl) rfl F8 (bb d5_52) (fun T7 X7 e7 => ?_)
  refine g_imul X7 hx (bb d5_55) ?_
  refine g_istore X7 hx (bb d5_56) (l' := #[vR a1, vR at_, vI 0, vI 2, vI 4, .unset, .unset]) rfl ?_
  refine g_aloadN X7 hx (bb d5_58) rfl rfl ?_
  have F10 := (r4.keep K6 (ninS ne_a1_ob (ninS ne_a1_ol (ninS ne_a1_oh (ninS ne_a1_ov nin0)))))
  refine gF X7 hx hZ hown (ww 20 rfl) e7 F10 (bb d5_59) (fun T9 X9 e9 => ?_)
  refine g_iloadN X9 hx (bb d5_62) rfl ?_
  have F11 := (r10.keep K6 (ninS ne_on_ob (ninS ne_on_ol (ninS ne_on_oh (ninS ne_on_ov nin0)))))
  refine gLr rfl X9 hx hZ e9 F11 (v := (.ref ov)) ⟨by decide, by decide⟩ rfl (bb d5_63) ?_
  refine g_astore X9 hx (bb d5_64) rfl (l' := #[vR a1, vR at_, vI 0, vI 2, vI 4, vR ov, .unset]) rfl ?_
  refine g_iconst X9 hx (bb d5_66) ?_
  refine g_istore X9 hx (bb d5_67) (l' := #[vR a1, vR at_, vI 0, vI 2, vI 4, vR ov, vI 0]) rfl ?_
  refine g_iload X9 hx (bb d5_69) rfl ?_
  refine g_aloadN X9 hx (bb d5_71) rfl rfl ?_
  refine gF X9 hx hZ hown (ww 22 rfl) e9 F8 (bb d5_72) (fun T12 X12 e12 => ?_)
  refine g_icmpNo X12 hx (bb d5_75) (tlt (by decide : (0 : Int32) < (2 : Int32))).2.1 ?_
  refine g_aload X12 hx (bb d5_78) rfl rfl ?_
  refine g_ifnullNo X12 hx (bb d5_80) ?_
  refine g_aload X12 hx (bb d5_83) rfl rfl ?_
  refine g_iload X12 hx (bb d5_85) rfl ?_
  refine g_iload X12 hx (bb d5_87) rfl ?_
  refine g_iadd X12 hx (bb d5_89) ?_
  refine g_aloadN X12 hx (bb d5_90) rfl rfl ?_
  refine g_iload X12 hx (bb d5_91) rfl ?_
  have F13 := (r16.keep K6 (ninS ne_at__ob (ninS ne_at__ol (ninS ne_at__oh (ninS ne_at__ov nin0)))))
  refine gLi X12 hx hZ e12 F13 (v := (.int et0)) ⟨by decide, by decide⟩ rfl (bb d5_93) ?_
  refine g_aloadN X12 hx (bb d5_94) rfl rfl ?_
  have F15 := (r5.keep K6 (ninS ne_a1_ob (ninS ne_a1_ol (ninS ne_a1_oh (ninS ne_a1_ov nin0)))))
  refine gF X12 hx hZ hown (ww 24 rfl) e12 F15 (bb d5_95) (fun T14 X14 e14 => ?_)
  refine g_iloadN X14 hx (bb d5_98) rfl ?_
  refine g_aloadN X14 hx (bb d5_99) rfl rfl ?_
  refine gF X14 hx hZ hown (ww 22 rfl) e14 F8 (bb d5_100) (fun T16 X16 e16 => ?_)
  refine g_imul X16 hx (bb d5_103) ?_
  refine g_iload X16 hx (bb d5_104) rfl ?_
  refine g_iadd X16 hx (bb d5_106) ?_
  refine gLi X16 hx hZ e16 f6_2 (v := (.int (nbase eb0 el0 eu0 et0))) ⟨by decide, by decide⟩ rfl (bb d5_107) ?_
  refine g_isub X16 hx (bb d5_108) ?_
  refine g_i2c X16 hx (bb d5_109) ?_
  refine gSc X16 hx hZ e16 f6_3 ⟨by decide, by decide⟩ 4 rfl (Nat.le_of_ble_eq_true rfl) N6 g_ov (bb d5_110) (fun T17 h17 X17 e17 W17 V17 N17 => ?_)
  refine g_goto X17 hx (pc' := 130) (bb d5_111) (by decide) (by decide) ?_
  refine g_iinc X17 hx (bb d5_130) rfl (l' := #[vR a1, vR at_, vI 0, vI 2, vI 4, vR ov, vI 1]) rfl ?_
  refine g_goto X17 hx (pc' := 69) (bb d5_133) (by decide) (by decide) ?_
  refine g_iload X17 hx (bb d5_69) rfl ?_
  refine g_aloadN X17 hx (bb d5_71) rfl rfl ?_
  have F19 := (F8.other W17 (Or.inl ne_a1_ov))
  refine gF X17 hx hZ hown (ww 22 rfl) e17 F19 (bb d5_72) (fun T18 X18 e18 => ?_)
  refine g_icmpNo X18 hx (bb d5_75) (tlt (by decide : (1 : Int32) < (2 : Int32))).2.1 ?_
  refine g_aload X18 hx (bb d5_78) rfl rfl ?_
  refine g_ifnullNo X18 hx (bb d5_80) ?_
  refine g_aload X18 hx (bb d5_83) rfl rfl ?_
  refine g_iload X18 hx (bb d5_85) rfl ?_
  refine g_iload X18 hx (bb d5_87) rfl ?_
  refine g_iadd X18 hx (bb d5_89) ?_
  refine g_aloadN X18 hx (bb d5_90) rfl rfl ?_
  refine g_iload X18 hx (bb d5_91) rfl ?_
  have F20 := (F13.other W17 ne_at__ov)
  refine gLi X18 hx hZ e18 F20 (v := (.int et1)) ⟨by decide, by decide⟩ rfl (bb d5_93) ?_
  refine g_aloadN X18 hx (bb d5_94) rfl rfl ?_
  have F22 := (F15.other W17 (Or.inl ne_a1_ov))
  refine gF X18 hx hZ hown (ww 24 rfl) e18 F22 (bb d5_95) (fun T21 X21 e21 => ?_)
  refine g_iloadN X21 hx (bb d5_98) rfl ?_
  refine g_aloadN X21 hx (bb d5_99) rfl rfl ?_
  refine gF X21 hx hZ hown (ww 22 rfl) e21 F19 (bb d5_100) (fun T23 X23 e23 => ?_)
  refine g_imul X23 hx (bb d5_103) ?_
  refine g_iload X23 hx (bb d5_104) rfl ?_
  refine g_iadd X23 hx (bb d5_106) ?_
  have F24 := (f6_2.other W17 ne_ob_ov)
  refine gLi X23 hx hZ e23 F24 (v := (.int (nbase eb1 el1 eu1 et1))) ⟨by decide, by decide⟩ rfl (bb d5_107) ?_
  refine g_isub X23 hx (bb d5_108) ?_
  refine g_i2c X23 hx (bb d5_109) ?_
  refine gSc X23 hx hZ e23 V17 ⟨by decide, by decide⟩ 5 rfl (Nat.le_of_ble_eq_true rfl) N17 g_ov (bb d5_110) (fun T25 h25 X25 e25 W25 V25 N25 => ?_)
  refine g_goto X25 hx (pc' := 130) (bb d5_111) (by decide) (by decide) ?_
  refine g_iinc X25 hx (bb d5_130) rfl (l' := #[vR a1, vR at_, vI 0, vI 2, vI 4, vR ov, vI 2]) rfl ?_
  refine g_goto X25 hx (pc' := 69) (bb d5_133) (by decide) (by decide) ?_
  refine g_iload X25 hx (bb d5_69) rfl ?_
  refine g_aloadN X25 hx (bb d5_71) rfl rfl ?_
  have F27 := (F19.other W25 (Or.inl ne_a1_ov))
  refine gF X25 hx hZ hown (ww 22 rfl) e25 F27 (bb d5_72) (fun T26 X26 e26 => ?_)
  refine g_icmpYes X26 hx (pc' := 136) (bb d5_75) (flt (by decide : ¬ ((2 : Int32) < (2 : Int32)))).2.1 (by decide) (by decide) ?_
  refine g_aloadN X26 hx (bb d5_136) rfl rfl ?_
  refine g_dup X26 hx (bb d5_137) rfl ?_
  have F29 := (((r2.keep K6 (ninS ne_a1_ob (ninS ne_a1_ol (ninS ne_a1_oh (ninS ne_a1_ov nin0))))).other W17 (Or.inl ne_a1_ov)).other W25 (Or.inl ne_a1_ov))
  refine gF X26 hx hZ hown (ww 37 rfl) e26 F29 (bb d5_138) (fun T28 X28 e28 => ?_)
  refine g_iconst X28 hx (bb d5_141) ?_
  refine g_iadd X28 hx (bb d5_142) ?_
  have F31 := (((r0.keep K6).wr W17).wr W25)
  obtain ⟨T30, h30, X30, e30, W30, st30⟩ := putF X28 hx hZ hown (host := "") (Or.inl (ww 37 rfl)) Via.refl e28 F29 F31 (Or.inl (ww 38 rfl)) (ww 6 rfl) (ty := .int) (by decide) rfl rfl (g := (mkF m 143 #[vR a1, vR at_, vI 0, vI 2, vI 4, vR ov, vI 2] [(.int 3), (.ref a1)])) rfl rfl (bb d5_143)
  have Fw30 := F29.same W30
  refine gl st30 ?_
  have N30 := Fr.snoc X30 N25 g_a1
  have F32 := (F31.wr W30)
  have F33 := (F27.other W30 (Or.inr (slot_ne (Or.inr (ww 23 rfl)) (Or.inl (ww 38 rfl)) (by decide) (t := .int) (t' := .int) (by decide) (by decide))))
  have F34 := ((((r3.keep K6 (ninS ne_a1_ob (ninS ne_a1_ol (ninS ne_a1_oh (ninS ne_a1_ov nin0))))).other W17 (Or.inl ne_a1_ov)).other W25 (Or.inl ne_a1_ov)).other W30 (Or.inr (slot_ne (Or.inl (ww 17 rfl)) (Or.inl (ww 38 rfl)) (by decide) (t := (.array (.array .int))) (t' := .int) (by decide) (by decide))))
  have F35 := (((F10.other W17 (Or.inl ne_a1_ov)).other W25 (Or.inl ne_a1_ov)).other W30 (Or.inr (slot_ne (Or.inl (ww 21 rfl)) (Or.inl (ww 38 rfl)) (by decide) (t := (.array (.array .char))) (t' := .int) (by decide) (by decide))))
  have F36 := ((F22.other W25 (Or.inl ne_a1_ov)).other W30 (Or.inr (slot_ne (Or.inl (ww 25 rfl)) (Or.inl (ww 38 rfl)) (by decide) (t := (.array .int)) (t' := .int) (by decide) (by decide))))
  have F37 := ((((r6.keep K6 (ninS ne_a1_ob (ninS ne_a1_ol (ninS ne_a1_oh (ninS ne_a1_ov nin0))))).other W17 (Or.inl ne_a1_ov)).other W25 (Or.inl ne_a1_ov)).other W30 (Or.inr (slot_ne (Or.inr (ww 27 rfl)) (Or.inl (ww 38 rfl)) (by decide) (t := (.array .int)) (t' := .int) (by decide) (by decide))))
  have F38 := ((((r7.keep K6 (ninS ne_a1_ob (ninS ne_a1_ol (ninS ne_a1_oh (ninS ne_a1_ov nin0))))).other W17 (Or.inl ne_a1_ov)).other W25 (Or.inl ne_a1_ov)).other W30 (Or.inr (slot_ne (Or.inr (ww 29 rfl)) (Or.inl (ww 38 rfl)) (by decide) (t := (.array .int)) (t' := .int) (by decide) (by decide))))
  have F39 := ((((r8.keep K6 (ninS ne_ow_ob (ninS ne_ow_ol (ninS ne_ow_oh (ninS ne_ow_ov nin0))))).other W17 ne_ow_ov).other W25 ne_ow_ov).other W30 (Ne.symm ne_a1_ow))
  have F40 := (((F11.other W17 ne_on_ov).other W25 ne_on_ov).other W30 (Ne.symm ne_a1_on))
  have F41 := ((F24.other W25 ne_ob_ov).other W30 (Ne.symm ne_a1_ob))
  have F42 := (((f6_0.other W17 ne_ol_ov).other W25 ne_ol_ov).other W30 (Ne.symm ne_a1_ol))
  have F43 := (((f6_1.other W17 ne_oh_ov).other W25 ne_oh_ov).other W30 (Ne.symm ne_a1_oh))
  have F44 := (V25.other W30 (Ne.symm ne_a1_ov))
  obtain ⟨fs, hr, hrun, hended, hW, hsame⟩ := X30.leave (v := none) (fun _ => rfl)
  subst hR0
  refine ⟨_, _, ?_, hrun, hended, _, _, rfl, ?_, ⟨_, rfl⟩, hW, hsame.mono (by decide) (by decide)⟩
  · exact X30.returnOut hx hret (bb d5_146) hr
  · show Q_add2N2 Z a1 at_ ow on ob ol oh ov kw_ kn_ kb_ kl_ kh_ kv_ eb0 eb1 el0 el1 eu0 eu1 ev0_0 ev0_1 ev1_0 ev1_1 ex4 ex5 ex6 ex7 ex8 ex9 ex10 ex11 ex12 ex13 ex14 ex15 kt_ et0 et1 h0 n0 _ T30.heap _
    rw [e30]
    exact ⟨rfl, N30, (((((Keep.refl h0 [a1, ob, ol, oh, ov]).trans K6 (allS (Or.inl (List.mem_of_getElem? (i := 1) rfl)) (allS (Or.inl (List.mem_of_getElem? (i := 2) rfl)) (allS (Or.inl (List.mem_of_getElem? (i := 3) rfl)) (allS (Or.inl (List.mem_of_getElem? (i := 4) rfl)) all0))))).wr W17 (Or.inl (List.mem_of_getElem? (i := 4) rfl))).wr W25 (Or.inl (List.mem_of_getElem? (i := 4) rfl))).wr W30 (Or.inl (List.mem_of_getElem? (i := 0) rfl))), F32, F33, Fw30, F34, F35, F36, F37, F38, F39, r9, F40, r11, F41, F42, F43, (by have q := F44; (try simp only [own_c1] at q); exact q)⟩
def Q_add2W1 (Z : State) (a1 at_ ow on ob ol oh ov : Addr) (kw_ kn_ kb_ kl_ kh_ kv_ : ClassId) (eb0 eb1 el0 el1 eu0 eu1 ev0_0 ev0_1 ex2 ex3 ex4 ex5 ex6 ex7 ex8 ex9 ex10 ex11 ex12 ex13 ex14 ex15 : Int32) (kt_ : ClassId) (et0 et1 : Int32) (h0 : Heap) (n0 : Nat) (v : Option Value) (h : Heap) (L : List Loc) : Prop := ∃ (oz : Addr) (kz_ : ClassId), v = none ∧ Fr n0 L ∧ Keep h0 h [a1, ow, on] ∧ h0.size ≤ oz ∧ Exa Z h a1 cRV ∧ Fld Z h a1 cRV "arity" "I" (.int 2) ∧ Fld Z h a1 cRV "rows" "I" (.int 2) ∧ Fld Z h a1 cRV "wide" "[[I" (.ref ow) ∧ Fld Z h a1 cRV "narrow" "[[C" (.ref on) ∧ Fld Z h a1 cRV "bases" "[I" (.ref ob) ∧ Fld Z h a1 cRV "lowest" "[I" (.ref ol) ∧ Fld Z h a1 cRV "highest" "[I" (.ref oh) ∧ Arv Z h ow kw_ (.array .int) (1 : Int32) [(.ref oz)] .null ∧ OvrA Z kw_ .int "[I" ∧ Arv Z h on kn_ (.array .char) (1 : Int32) [.null] .null ∧ OvrA Z kn_ .char "[C" ∧ Arv Z h ob kb_ .int (2 : Int32) [(.int eb0), (.int eb1)] (.int 0) ∧ Arv Z h ol kl_ .int (2 : Int32) [(.int el0), (.int el1)] (.int 0) ∧ Arv Z h oh kh_ .int (2 : Int32) [(.int eu0), (.int eu1)] (.int 0) ∧ Arv Z h oz kz_ .int (16 : Int32) [(.int ev0_0), (.int ev0_1), (.int et0), (.int et1), (.int (0 : Int32)), (.int (0 : Int32)), (.int (0 : Int32)), (.int (0 : Int32)), (.int (0 : Int32)), (.int (0 : Int32)), (.int (0 : Int32)), (.int (0 : Int32)), (.int (0 : Int32)), (.int (0 : Int32)), (.int (0 : Int32)), (.int (0 : Int32))] (.int 0)
set_option maxRecDepth 65536 in
set_option maxHeartbeats 40000000 in
theorem rm_add2W1 (l : Launch) (Z : State) (a0 : Array Value) (ww : WW a0 Z) (ws : List Jvm.Cond) (a1 at_ ow on ob ol oh ov : Addr) (kw_ kn_ kb_ kl_ kh_ kv_ : ClassId) (eb0 eb1 el0 el1 eu0 eu1 ev0_0 ev0_1 ex2 ex3 ex4 ex5 ex6 ex7 ex8 ex9 ex10 ex11 ex12 ex13 ex14 ex15 : Int32) (kt_ : ClassId) (et0 et1 : Int32) (h0 : Heap) (n0 : Nat) (Z0 : n0 ≤ h0.size) (O0 : Old Z n0 h0) (S_CS : Sta Z Z.heap cRV "CHUNK_SHIFT" "I" (.int (12 : Int32))) (r0 : Exa Z h0 a1 cRV) (r1 : Fld Z h0 a1 cRV "arity" "I" (.int 2)) (r2 : Fld Z h0 a1 cRV "rows" "I" (.int 1)) (r3 : Fld Z h0 a1 cRV "wide" "[[I" (.ref ow)) (r4 : Fld Z h0 a1 cRV "narrow" "[[C" (.ref on)) (r5 : Fld Z h0 a1 cRV "bases" "[I" (.ref ob)) (r6 : Fld Z h0 a1 cRV "lowest" "[I" (.ref ol)) (r7 : Fld Z h0 a1 cRV "highest" "[I" (.ref oh)) (r8 : Arv Z h0 ow kw_ (.array .int) (1 : Int32) [.null] .null) (r9 : OvrA Z kw_ .int "[I") (r10 : Arv Z h0 on kn_ (.array .char) (1 : Int32) [(.ref ov)] .null) (r11 : OvrA Z kn_ .char "[C") (r12 : Arv Z h0 ob kb_ .int (2 : Int32) [(.int eb0), (.int eb1)] (.int 0)) (r13 : Arv Z h0 ol kl_ .int (2 : Int32) [(.int el0), (.int el1)] (.int 0)) (r14 : Arv Z h0 oh kh_ .int (2 : Int32) [(.int eu0), (.int eu1)] (.int 0)) (r15 : Arv Z h0 ov kv_ .char (16 : Int32) [(.int (nar .char (ev0_0 - eb0))), (.int (nar .char (ev0_1 - eb1))), (.int ex2), (.int ex3), (.int ex4), (.int ex5), (.int ex6), (.int ex7), (.int ex8), (.int ex9), (.int ex10), (.int ex11), (.int ex12), (.int ex13), (.int ex14), (.int ex15)] (.int 0)) (r16 : Arv Z h0 at_ kt_ .int (2 : Int32) [(.int et0), (.int et1)] (.int 0)) (g_a1 : n0 ≤ a1) (g_ow : n0 ≤ ow) (g_on : n0 ≤ on) (ne_a1_ow : a1 ≠ ow) (ne_a1_on : a1 ≠ on) (ne_a1_ob : a1 ≠ ob) (ne_a1_ol : a1 ≠ ol) (ne_a1_oh : a1 ≠ oh) (ne_a1_ov : a1 ≠ ov) (ne_ow_on : ow ≠ on) (ne_ow_ob : ow ≠ ob) (ne_ow_ol : ow ≠ ol) (ne_ow_oh : ow ≠ oh) (ne_ow_ov : ow ≠ ov) (ne_on_ob : on ≠ ob) (ne_on_ol : on ≠ ol) (ne_on_oh : on ≠ oh) (ne_on_ov : on ≠ ov) (ne_ob_ol : ob ≠ ol) (ne_ob_oh : ob ≠ oh) (ne_ob_ov : ob ≠ ov) (ne_ol_oh : ol ≠ oh) (ne_ol_ov : ol ≠ ov) (ne_oh_ov : oh ≠ ov) (ne_at__a1 : at_ ≠ a1) (ne_at__ow : at_ ≠ ow) (ne_at__on : at_ ≠ on) (ne_at__ob : at_ ≠ ob) (ne_at__ol : at_ ≠ ol) (ne_at__oh : at_ ≠ oh) (ne_at__ov : at_ ≠ ov) (hIn0_0 : ownIn eb0 ev0_0) (hIn0_1 : ownIn eb1 ev0_1) (hWd : ¬ (((lcmpW (((f_maxI et0 eu0).toInt64) - ((f_minI et0 el0).toInt64)) (65536 : Int64)) < (0 : Int32)) ∧ ((lcmpW (((f_maxI et1 eu1).toInt64) - ((f_minI et1 el1).toInt64)) (65536 : Int64)) < (0 : Int32)))) :
    MF l Z (⟨cRV, "add", "([I)V"⟩ : MethodName) prog_47_method_4_code 7 none ws ({ frames := 3, cells := 1, slots := 16, locals := 58 } : Room) #[(.ref a1), (.ref at_)] h0 (Q_add2W1 Z a1 at_ ow on ob ol oh ov kw_ kn_ kb_ kl_ kh_ kv_ eb0 eb1 el0 el1 eu0 eu1 ev0_0 ev0_1 ex2 ex3 ex4 ex5 ex6 ex7 ex8 ex9 ex10 ex11 ex12 ex13 ex14 ex15 kt_ et0 et1 h0 n0) := by
  refine gopen (plainFor_of_name pn_RowValues) (fun m => ef_add2W1 m a1 at_) (fun p e s m below meth c s₁ hlk hret hx bb hml hown hnm hZ X0 e0 R0 hR0 => ?_)
  have N0 := Fr.nil n0
  refine g_aloadN X0 hx (bb d5_0) rfl rfl ?_
  refine gF X0 hx hZ hown (ww 37 rfl) e0 r2 (bb d5_1) (fun T1 X1 e1 => ?_)
  refine gS X1 hx hZ hown (ww 44 rfl) e1 (S_CS.ext O0.2) (bb d5_4) (fun T2 X2 e2 => ?_)
  refine g_iushr X2 hx (bb d5_7) ?_
  refine g_istoreN X2 hx (bb d5_8) (l' := #[vR a1, vR at_, vI 0, .unset, .unset, .unset, .unset]) rfl ?_
  refine g_aloadN X2 hx (bb d5_9) rfl rfl ?_
  refine gF X2 hx hZ hown (ww 37 rfl) e2 r2 (bb d5_10) (fun T3 X3 e3 => ?_)
  refine g_sipush X3 hx (bb d5_13) ?_
  refine g_iand X3 hx (bb d5_16) ?_
  refine g_istoreN X3 hx (bb d5_17) (l' := #[vR a1, vR at_, vI 0, vI 1, .unset, .unset, .unset]) rfl ?_
  refine g_iloadN X3 hx (bb d5_18) rfl ?_
  refine g_ifYes X3 hx (pc' := 28) (bb d5_19) ((if0 _ _).trans (feq (by decide : ¬ ((1 : Int32) = (0 : Int32)))).2) (by decide) (by decide) ?_
  refine g_aloadN X3 hx (bb d5_28) rfl rfl ?_
  refine g_iloadN X3 hx (bb d5_29) rfl ?_
  refine g_iloadN X3 hx (bb d5_30) rfl ?_
  refine gcP X3 hx hZ hml hown (ww 64 rfl) (ww 7 rfl) (ww 67 rfl) (ww 6 rfl) (ww 65 rfl) (ww 66 rfl) e3 r0 (rm_room2N1 l Z a0 ww [] a1 ow on ob ol oh ov kw_ kn_ kb_ kl_ kh_ kv_ eb0 eb1 el0 el1 eu0 eu1 ev0_0 ev0_1 ex2 ex3 ex4 ex5 ex6 ex7 ex8 ex9 ex10 ex11 ex12 ex13 ex14 ex15 h0 n0 (own_z0 O0) O0 S_CS r0 r1 r3 r4 r8 r10 r15) pd__II_V_5 (bb d5_31) 0 rfl (fun T4 L4 v4 X4 hQ4 => ?_)
  obtain ⟨rfl, N4q, e4⟩ := hQ4
  have N4 := Fr.app N0 N4q
  refine g_aloadN X4 hx (bb d5_34) rfl rfl ?_
  refine gF X4 hx hZ hown (ww 20 rfl) e4 r4 (bb d5_35) (fun T5 X5 e5 => ?_)
  refine g_iloadN X5 hx (bb d5_38) rfl ?_
  refine gLr rfl X5 hx hZ e5 r10 (v := (.ref ov)) ⟨by decide, by decide⟩ rfl (bb d5_39) ?_
  refine g_ifnullNo X5 hx (bb d5_40) ?_
  refine g_aloadN X5 hx (bb d5_43) rfl rfl ?_
  refine g_iloadN X5 hx (bb d5_44) rfl ?_
  refine g_iloadN X5 hx (bb d5_45) rfl ?_
  refine g_aloadN X5 hx (bb d5_46) rfl rfl ?_
  refine gcP X5 hx hZ hml hown (ww 71 rfl) (ww 7 rfl) (ww 74 rfl) (ww 6 rfl) (ww 72 rfl) (ww 73 rfl) e5 r0 (rm_fitW2_1 l Z a0 ww [] a1 at_ ow on ob ol oh ov kw_ kn_ kb_ kl_ kh_ kv_ eb0 eb1 el0 el1 eu0 eu1 ev0_0 ev0_1 ex2 ex3 ex4 ex5 ex6 ex7 ex8 ex9 ex10 ex11 ex12 ex13 ex14 ex15 kt_ et0 et1 h0 n0 (own_z0 O0) O0 S_CS r0 r1 r2 r3 r4 r5 r6 r7 r8 r9 r10 r11 r12 r13 r14 r15 r16 g_ow g_on ne_a1_ow ne_a1_on ne_a1_ob ne_a1_ol ne_a1_oh ne_a1_ov ne_ow_on ne_ow_ob ne_ow_ol ne_ow_oh ne_ow_ov ne_on_ob ne_on_ol ne_on_oh ne_on_ov ne_ob_ol ne_ob_oh ne_ob_ov ne_ol_oh ne_ol_ov ne_oh_ov ne_at__a1 ne_at__ow ne_at__on ne_at__ob ne_at__ol ne_at__oh ne_at__ov hIn0_0 hIn0_1 hWd) pd__II_I_V_7 (bb d5_47) 0 rfl (fun T6 L6 v6 X6 hQ6 => ?_)
  obtain ⟨oz6, kz_6, rfl, N6q, K6, szz_oz6, f6_0, f6_1, f6_2⟩ := hQ6
  have N6 := Fr.app N4 N6q
  have g_oz6 : n0 ≤ oz6 := Nat.le_trans (own_z0 O0) szz_oz6
  have sz_oz6 : h0.size ≤ oz6 := Nat.le_trans (Nat.le_refl _) szz_oz6
  have ne_a1_oz6 : a1 ≠ oz6 := Nat.ne_of_lt (Nat.lt_of_lt_of_le r0.lt szz_oz6)
  have ne_ow_oz6 : ow ≠ oz6 := Nat.ne_of_lt (Nat.lt_of_lt_of_le r8.lt szz_oz6)
  have ne_on_oz6 : on ≠ oz6 := Nat.ne_of_lt (Nat.lt_of_lt_of_le r10.lt szz_oz6)
  have ne_ob_oz6 : ob ≠ oz6 := Nat.ne_of_lt (Nat.lt_of_lt_of_le r12.lt szz_oz6)
  have ne_ol_oz6 : ol ≠ oz6 := Nat.ne_of_lt (Nat.lt_of_lt_of_le r13.lt szz_oz6)
  have ne_oh_oz6 : oh ≠ oz6 := Nat.ne_of_lt (Nat.lt_of_lt_of_le r14.lt szz_oz6)
  have ne_ov_oz6 : ov ≠ oz6 := Nat.ne_of_lt (Nat.lt_of_lt_of_le r15.lt szz_oz6)
  have ne_at__oz6 : at_ ≠ oz6 := Nat.ne_of_lt (Nat.lt_of_lt_of_le r16.lt szz_oz6)
  refine g_iloadN X6 hx (bb d5_50) rfl ?_
  refine g_aloadN X6 hx (bb d5_51) rfl rfl ?_
  have F8 := (r1.keep K6 (ninS ne_a1_ow (ninS ne_a1_on nin0)))
  refine gF X6 hx hZ hown (ww 22 rfl) rfl F8 (bb d5_52) (fun T7 X7 e7 => ?_)
  refine g_imul X7 hx (bb d5_55) ?_
  refine g_istore X7 hx (bb d5_56) (l' := #[vR a1, vR at_, vI 0, vI 1, vI 2, .unset, .unset]) rfl ?_
  refine g_aloadN X7 hx (bb d5_58) rfl rfl ?_
  have F10 := (r4.keep K6 (ninS ne_a1_ow (ninS ne_a1_on nin0)))
  refine gF X7 hx hZ hown (ww 20 rfl) e7 F10 (bb d5_59) (fun T9 X9 e9 => ?_)
  refine g_iloadN X9 hx (bb d5_62) rfl ?_
  refine gLr rfl X9 hx hZ e9 f6_1 (v := .null) ⟨by decide, by decide⟩ rfl (bb d5_63) ?_
  refine g_astore X9 hx (bb d5_64) rfl (l' := #[vR a1, vR at_, vI 0, vI 1, vI 2, .val .null, .unset]) rfl ?_
  refine g_iconst X9 hx (bb d5_66) ?_
  refine g_istore X9 hx (bb d5_67) (l' := #[vR a1, vR at_, vI 0, vI 1, vI 2, .val .null, vI 0]) rfl ?_
  refine g_iload X9 hx (bb d5_69) rfl ?_
  refine g_aloadN X9 hx (bb d5_71) rfl rfl ?_
  refine gF X9 hx hZ hown (ww 22 rfl) e9 F8 (bb d5_72) (fun T11 X11 e11 => ?_)
  refine g_icmpNo X11 hx (bb d5_75) (tlt (by decide : (0 : Int32) < (2 : Int32))).2.1 ?_
  refine g_aload X11 hx (bb d5_78) rfl rfl ?_
  refine g_ifnullYes X11 hx (pc' := 114) (bb d5_80) (by decide) (by decide) ?_
  refine g_aloadN X11 hx (bb d5_114) rfl rfl ?_
  have F13 := (r3.keep K6 (ninS ne_a1_ow (ninS ne_a1_on nin0)))
  refine gF X11 hx hZ hown (ww 16 rfl) e11 F13 (bb d5_115) (fun T12 X12 e12 => ?_)
  refine g_iloadN X12 hx (bb d5_118) rfl ?_
  refine gLr rfl X12 hx hZ e12 f6_0 (v := (.ref oz6)) ⟨by decide, by decide⟩ rfl (bb d5_119) ?_
  refine g_iload X12 hx (bb d5_120) rfl ?_
  refine g_iload X12 hx (bb d5_122) rfl ?_
  refine g_iadd X12 hx (bb d5_124) ?_
  refine g_aloadN X12 hx (bb d5_125) rfl rfl ?_
  refine g_iload X12 hx (bb d5_126) rfl ?_
  have F14 := (r16.keep K6 (ninS ne_at__ow (ninS ne_at__on nin0)))
  refine gLi X12 hx hZ e12 F14 (v := (.int et0)) ⟨by decide, by decide⟩ rfl (bb d5_128) ?_
  refine gSi X12 hx hZ e12 f6_2 ⟨by decide, by decide⟩ 2 rfl (Nat.le_of_ble_eq_true rfl) N6 g_oz6 (bb d5_129) (fun T15 h15 X15 e15 W15 V15 N15 => ?_)
  refine g_iinc X15 hx (bb d5_130) rfl (l' := #[vR a1, vR at_, vI 0, vI 1, vI 2, .val .null, vI 1]) rfl ?_
  refine g_goto X15 hx (pc' := 69) (bb d5_133) (by decide) (by decide) ?_
  refine g_iload X15 hx (bb d5_69) rfl ?_
  refine g_aloadN X15 hx (bb d5_71) rfl rfl ?_
  have F17 := (F8.other W15 (Or.inl ne_a1_oz6))
  refine gF X15 hx hZ hown (ww 22 rfl) e15 F17 (bb d5_72) (fun T16 X16 e16 => ?_)
  refine g_icmpNo X16 hx (bb d5_75) (tlt (by decide : (1 : Int32) < (2 : Int32))).2.1 ?_
  refine g_aload X16 hx (bb d5_78) rfl rfl ?_
  refine g_ifnullYes X16 hx (pc' := 114) (bb d5_80) (by decide) (by decide) ?_
  refine g_aloadN X16 hx (bb d5_114) rfl rfl ?_
  have F19 := (F13.other W15 (Or.inl ne_a1_oz6))
  refine gF X16 hx hZ hown (ww 16 rfl) e16 F19 (bb d5_115) (fun T18 X18 e18 => ?_)
  refine g_iloadN X18 hx (bb d5_118) rfl ?_
  have F20 := (f6_0.other W15 ne_ow_oz6)
  refine gLr rfl X18 hx hZ e18 F20 (v := (.ref oz6)) ⟨by decide, by decide⟩ rfl (bb d5_119) ?_
  refine g_iload X18 hx (bb d5_120) rfl ?_
  refine g_iload X18 hx (bb d5_122) rfl ?_
  refine g_iadd X18 hx (bb d5_124) ?_
  refine g_aloadN X18 hx (bb d5_125) rfl rfl ?_
  refine g_iload X18 hx (bb d5_126) rfl ?_
  have F21 := (F14.other W15 ne_at__oz6)
  refine gLi X18 hx hZ e18 F21 (v := (.int et1)) ⟨by decide, by decide⟩ rfl (bb d5_128) ?_
  refine gSi X18 hx hZ e18 V15 ⟨by decide, by decide⟩ 3 rfl (Nat.le_of_ble_eq_true rfl) N15 g_oz6 (bb d5_129) (fun T22 h22 X22 e22 W22 V22 N22 => ?_)
  refine g_iinc X22 hx (bb d5_130) rfl (l' := #[vR a1, vR at_, vI 0, vI 1, vI 2, .val .null, vI 2]) rfl ?_
  refine g_goto X22 hx (pc' := 69) (bb d5_133) (by decide) (by decide) ?_
  refine g_iload X22 hx (bb d5_69) rfl ?_
  refine g_aloadN X22 hx (bb d5_71) rfl rfl ?_
  have F24 := (F17.other W22 (Or.inl ne_a1_oz6))
  refine gF X22 hx hZ hown (ww 22 rfl) e22 F24 (bb d5_72) (fun T23 X23 e23 => ?_)
  refine g_icmpYes X23 hx (pc' := 136) (bb d5_75) (flt (by decide : ¬ ((2 : Int32) < (2 : Int32)))).2.1 (by decide) (by decide) ?_
  refine g_aloadN X23 hx (bb d5_136) rfl rfl ?_
  refine g_dup X23 hx (bb d5_137) rfl ?_
  have F26 := (((r2.keep K6 (ninS ne_a1_ow (ninS ne_a1_on nin0))).other W15 (Or.inl ne_a1_oz6)).other W22 (Or.inl ne_a1_oz6))
  refine gF X23 hx hZ hown (ww 37 rfl) e23 F26 (bb d5_138) (fun T25 X25 e25 => ?_)
  refine g_iconst X25 hx (bb d5_141) ?_
  refine g_iadd X25 hx (bb d5_142) ?_
  have F28 := (((r0.keep K6).wr W15).wr W22)
  obtain ⟨T27, h27, X27, e27, W27, st27⟩ := putF X25 hx hZ hown (host := "") (Or.inl (ww 37 rfl)) Via.refl e25 F26 F28 (Or.inl (ww 38 rfl)) (ww 6 rfl) (ty := .int) (by decide) rfl rfl (g := (mkF m 143 #[vR a1, vR at_, vI 0, vI 1, vI 2, .val .null, vI 2] [(.int 2), (.ref a1)])) rfl rfl (bb d5_143)
  have Fw27 := F26.same W27
  refine gl st27 ?_
  have N27 := Fr.snoc X27 N22 g_a1
  have F29 := (F28.wr W27)
  have F30 := (F24.other W27 (Or.inr (slot_ne (Or.inr (ww 23 rfl)) (Or.inl (ww 38 rfl)) (by decide) (t := .int) (t' := .int) (by decide) (by decide))))
  have F31 := ((F19.other W22 (Or.inl ne_a1_oz6)).other W27 (Or.inr (slot_ne (Or.inl (ww 17 rfl)) (Or.inl (ww 38 rfl)) (by decide) (t := (.array (.array .int))) (t' := .int) (by decide) (by decide))))
  have F32 := (((F10.other W15 (Or.inl ne_a1_oz6)).other W22 (Or.inl ne_a1_oz6)).other W27 (Or.inr (slot_ne (Or.inl (ww 21 rfl)) (Or.inl (ww 38 rfl)) (by decide) (t := (.array (.array .char))) (t' := .int) (by decide) (by decide))))
  have F33 := ((((r5.keep K6 (ninS ne_a1_ow (ninS ne_a1_on nin0))).other W15 (Or.inl ne_a1_oz6)).other W22 (Or.inl ne_a1_oz6)).other W27 (Or.inr (slot_ne (Or.inl (ww 25 rfl)) (Or.inl (ww 38 rfl)) (by decide) (t := (.array .int)) (t' := .int) (by decide) (by decide))))
  have F34 := ((((r6.keep K6 (ninS ne_a1_ow (ninS ne_a1_on nin0))).other W15 (Or.inl ne_a1_oz6)).other W22 (Or.inl ne_a1_oz6)).other W27 (Or.inr (slot_ne (Or.inr (ww 27 rfl)) (Or.inl (ww 38 rfl)) (by decide) (t := (.array .int)) (t' := .int) (by decide) (by decide))))
  have F35 := ((((r7.keep K6 (ninS ne_a1_ow (ninS ne_a1_on nin0))).other W15 (Or.inl ne_a1_oz6)).other W22 (Or.inl ne_a1_oz6)).other W27 (Or.inr (slot_ne (Or.inr (ww 29 rfl)) (Or.inl (ww 38 rfl)) (by decide) (t := (.array .int)) (t' := .int) (by decide) (by decide))))
  have F36 := ((F20.other W22 ne_ow_oz6).other W27 (Ne.symm ne_a1_ow))
  have F37 := (((f6_1.other W15 ne_on_oz6).other W22 ne_on_oz6).other W27 (Ne.symm ne_a1_on))
  have F38 := ((((r12.keep K6 (ninS (Ne.symm ne_ow_ob) (ninS (Ne.symm ne_on_ob) nin0))).other W15 ne_ob_oz6).other W22 ne_ob_oz6).other W27 (Ne.symm ne_a1_ob))
  have F39 := ((((r13.keep K6 (ninS (Ne.symm ne_ow_ol) (ninS (Ne.symm ne_on_ol) nin0))).other W15 ne_ol_oz6).other W22 ne_ol_oz6).other W27 (Ne.symm ne_a1_ol))
  have F40 := ((((r14.keep K6 (ninS (Ne.symm ne_ow_oh) (ninS (Ne.symm ne_on_oh) nin0))).other W15 ne_oh_oz6).other W22 ne_oh_oz6).other W27 (Ne.symm ne_a1_oh))
  have F41 := (V22.other W27 (Ne.symm ne_a1_oz6))
  obtain ⟨fs, hr, hrun, hended, hW, hsame⟩ := X27.leave (v := none) (fun _ => rfl)
  subst hR0
  refine ⟨_, _, ?_, hrun, hended, _, _, rfl, ?_, ⟨_, rfl⟩, hW, hsame.mono (by decide) (by decide)⟩
  · exact X27.returnOut hx hret (bb d5_146) hr
  · show Q_add2W1 Z a1 at_ ow on ob ol oh ov kw_ kn_ kb_ kl_ kh_ kv_ eb0 eb1 el0 el1 eu0 eu1 ev0_0 ev0_1 ex2 ex3 ex4 ex5 ex6 ex7 ex8 ex9 ex10 ex11 ex12 ex13 ex14 ex15 kt_ et0 et1 h0 n0 _ T27.heap _
    rw [e27]
    exact ⟨oz6, kz_6, rfl, N27, (((((Keep.refl h0 [a1, ow, on]).trans K6 (allS (Or.inl (List.mem_of_getElem? (i := 1) rfl)) (allS (Or.inl (List.mem_of_getElem? (i := 2) rfl)) all0))).wr W15 (Or.inr sz_oz6)).wr W22 (Or.inr sz_oz6)).wr W27 (Or.inl (List.mem_of_getElem? (i := 0) rfl))), sz_oz6, F29, F30, Fw27, F31, F32, F33, F34, F35, F36, r9, F37, r11, F38, F39, F40, F41⟩
def Q_add2W2 (Z : State) (a1 at_ ow on ob ol oh ov : Addr) (kw_ kn_ kb_ kl_ kh_ kv_ : ClassId) (eb0 eb1 el0 el1 eu0 eu1 ev0_0 ev0_1 ev1_0 ev1_1 ex4 ex5 ex6 ex7 ex8 ex9 ex10 ex11 ex12 ex13 ex14 ex15 : Int32) (kt_ : ClassId) (et0 et1 : Int32) (h0 : Heap) (n0 : Nat) (v : Option Value) (h : Heap) (L : List Loc) : Prop := ∃ (oz : Addr) (kz_ : ClassId), v = none ∧ Fr n0 L ∧ Keep h0 h [a1, ow, on] ∧ h0.size ≤ oz ∧ Exa Z h a1 cRV ∧ Fld Z h a1 cRV "arity" "I" (.int 2) ∧ Fld Z h a1 cRV "rows" "I" (.int 3) ∧ Fld Z h a1 cRV "wide" "[[I" (.ref ow) ∧ Fld Z h a1 cRV "narrow" "[[C" (.ref on) ∧ Fld Z h a1 cRV "bases" "[I" (.ref ob) ∧ Fld Z h a1 cRV "lowest" "[I" (.ref ol) ∧ Fld Z h a1 cRV "highest" "[I" (.ref oh) ∧ Arv Z h ow kw_ (.array .int) (1 : Int32) [(.ref oz)] .null ∧ OvrA Z kw_ .int "[I" ∧ Arv Z h on kn_ (.array .char) (1 : Int32) [.null] .null ∧ OvrA Z kn_ .char "[C" ∧ Arv Z h ob kb_ .int (2 : Int32) [(.int eb0), (.int eb1)] (.int 0) ∧ Arv Z h ol kl_ .int (2 : Int32) [(.int el0), (.int el1)] (.int 0) ∧ Arv Z h oh kh_ .int (2 : Int32) [(.int eu0), (.int eu1)] (.int 0) ∧ Arv Z h oz kz_ .int (16 : Int32) [(.int ev0_0), (.int ev0_1), (.int ev1_0), (.int ev1_1), (.int et0), (.int et1), (.int (0 : Int32)), (.int (0 : Int32)), (.int (0 : Int32)), (.int (0 : Int32)), (.int (0 : Int32)), (.int (0 : Int32)), (.int (0 : Int32)), (.int (0 : Int32)), (.int (0 : Int32)), (.int (0 : Int32))] (.int 0)
set_option maxRecDepth 65536 in
set_option maxHeartbeats 40000000 in
theorem rm_add2W2 (l : Launch) (Z : State) (a0 : Array Value) (ww : WW a0 Z) (ws : List Jvm.Cond) (a1 at_ ow on ob ol oh ov : Addr) (kw_ kn_ kb_ kl_ kh_ kv_ : ClassId) (eb0 eb1 el0 el1 eu0 eu1 ev0_0 ev0_1 ev1_0 ev1_1 ex4 ex5 ex6 ex7 ex8 ex9 ex10 ex11 ex12 ex13 ex14 ex15 : Int32) (kt_ : ClassId) (et0 et1 : Int32) (h0 : Heap) (n0 : Nat) (Z0 : n0 ≤ h0.size) (O0 : Old Z n0 h0) (S_CS : Sta Z Z.heap cRV "CHUNK_SHIFT" "I" (.int (12 : Int32))) (r0 : Exa Z h0 a1 cRV) (r1 : Fld Z h0 a1 cRV "arity" "I" (.int 2)) (r2 : Fld Z h0 a1 cRV "rows" "I" (.int 2)) (r3 : Fld Z h0 a1 cRV "wide" "[[I" (.ref ow)) (r4 : Fld Z h0 a1 cRV "narrow" "[[C" (.ref on)) (r5 : Fld Z h0 a1 cRV "bases" "[I" (.ref ob)) (r6 : Fld Z h0 a1 cRV "lowest" "[I" (.ref ol)) (r7 : Fld Z h0 a1 cRV "highest" "[I" (.ref oh)) (r8 : Arv Z h0 ow kw_ (.array .int) (1 : Int32) [.null] .null) (r9 : OvrA Z kw_ .int "[I") (r10 : Arv Z h0 on kn_ (.array .char) (1 : Int32) [(.ref ov)] .null) (r11 : OvrA Z kn_ .char "[C") (r12 : Arv Z h0 ob kb_ .int (2 : Int32) [(.int eb0), (.int eb1)] (.int 0)) (r13 : Arv Z h0 ol kl_ .int (2 : Int32) [(.int el0), (.int el1)] (.int 0)) (r14 : Arv Z h0 oh kh_ .int (2 : Int32) [(.int eu0), (.int eu1)] (.int 0)) (r15 : Arv Z h0 ov kv_ .char (16 : Int32) [(.int (nar .char (ev0_0 - eb0))), (.int (nar .char (ev0_1 - eb1))), (.int (nar .char (ev1_0 - eb0))), (.int (nar .char (ev1_1 - eb1))), (.int ex4), (.int ex5), (.int ex6), (.int ex7), (.int ex8), (.int ex9), (.int ex10), (.int ex11), (.int ex12), (.int ex13), (.int ex14), (.int ex15)] (.int 0)) (r16 : Arv Z h0 at_ kt_ .int (2 : Int32) [(.int et0), (.int et1)] (.int 0)) (g_a1 : n0 ≤ a1) (g_ow : n0 ≤ ow) (g_on : n0 ≤ on) (ne_a1_ow : a1 ≠ ow) (ne_a1_on : a1 ≠ on) (ne_a1_ob : a1 ≠ ob) (ne_a1_ol : a1 ≠ ol) (ne_a1_oh : a1 ≠ oh) (ne_a1_ov : a1 ≠ ov) (ne_ow_on : ow ≠ on) (ne_ow_ob : ow ≠ ob) (ne_ow_ol : ow ≠ ol) (ne_ow_oh : ow ≠ oh) (ne_ow_ov : ow ≠ ov) (ne_on_ob : on ≠ ob) (ne_on_ol : on ≠ ol) (ne_on_oh : on ≠ oh) (ne_on_ov : on ≠ ov) (ne_ob_ol : ob ≠ ol) (ne_ob_oh : ob ≠ oh) (ne_ob_ov : ob ≠ ov) (ne_ol_oh : ol ≠ oh) (ne_ol_ov : ol ≠ ov) (ne_oh_ov : oh ≠ ov) (ne_at__a1 : at_ ≠ a1) (ne_at__ow : at_ ≠ ow) (ne_at__on : at_ ≠ on) (ne_at__ob : at_ ≠ ob) (ne_at__ol : at_ ≠ ol) (ne_at__oh : at_ ≠ oh) (ne_at__ov : at_ ≠ ov) (hIn0_0 : ownIn eb0 ev0_0) (hIn0_1 : ownIn eb1 ev0_1) (hIn1_0 : ownIn eb0 ev1_0) (hIn1_1 : ownIn eb1 ev1_1) (hWd : ¬ (((lcmpW (((f_maxI et0 eu0).toInt64) - ((f_minI et0 el0).toInt64)) (65536 : Int64)) < (0 : Int32)) ∧ ((lcmpW (((f_maxI et1 eu1).toInt64) - ((f_minI et1 el1).toInt64)) (65536 : Int64)) < (0 : Int32)))) :
    MF l Z (⟨cRV, "add", "([I)V"⟩ : MethodName) prog_47_method_4_code 7 none ws ({ frames := 3, cells := 1, slots := 16, locals := 58 } : Room) #[(.ref a1), (.ref at_)] h0 (Q_add2W2 Z a1 at_ ow on ob ol oh ov kw_ kn_ kb_ kl_ kh_ kv_ eb0 eb1 el0 el1 eu0 eu1 ev0_0 ev0_1 ev1_0 ev1_1 ex4 ex5 ex6 ex7 ex8 ex9 ex10 ex11 ex12 ex13 ex14 ex15 kt_ et0 et1 h0 n0) := by
  refine gopen (plainFor_of_name pn_RowValues) (fun m => ef_add2W2 m a1 at_) (fun p e s m below meth c s₁ hlk hret hx bb hml hown hnm hZ X0 e0 R0 hR0 => ?_)
  have N0 := Fr.nil n0
  refine g_aloadN X0 hx (bb d5_0) rfl rfl ?_
  refine gF X0 hx hZ hown (ww 37 rfl) e0 r2 (bb d5_1) (fun T1 X1 e1 => ?_)
  refine gS X1 hx hZ hown (ww 44 rfl) e1 (S_CS.ext O0.2) (bb d5_4) (fun T2 X2 e2 => ?_)
  refine g_iushr X2 hx (bb d5_7) ?_
  refine g_istoreN X2 hx (bb d5_8) (l' := #[vR a1, vR at_, vI 0, .unset, .unset, .unset, .unset]) rfl ?_
  refine g_aloadN X2 hx (bb d5_9) rfl rfl ?_
  refine gF X2 hx hZ hown (ww 37 rfl) e2 r2 (bb d5_10) (fun T3 X3 e3 => ?_)
  refine g_sipush X3 hx (bb d5_13) ?_
  refine g_iand X3 hx (bb d5_16) ?_
  refine g_istoreN X3 hx (bb d5_17) (l' := #[vR a1, vR at_, vI 0, vI 2, .unset, .unset, .unset]) rfl ?_
  refine g_iloadN X3 hx (bb d5_18) rfl ?_
  refine g_ifYes X3 hx (pc' := 28) (bb d5_19) ((if0 _ _).trans (feq (by decide : ¬ ((2 : Int32) = (0 : Int32)))).2) (by decide) (by decide) ?_
  refine g_aloadN X3 hx (bb d5_28) rfl rfl ?_
  refine g_iloadN X3 hx (bb d5_29) rfl ?_
  refine g_iloadN X3 hx (bb d5_30) rfl ?_
  refine gcP X3 hx hZ hml hown (ww 64 rfl) (ww 7 rfl) (ww 67 rfl) (ww 6 rfl) (ww 65 rfl) (ww 66 rfl) e3 r0 (rm_room2N2 l Z a0 ww [] a1 ow on ob ol oh ov kw_ kn_ kb_ kl_ kh_ kv_ eb0 eb1 el0 el1 eu0 eu1 ev0_0 ev0_1 ev1_0 ev1_1 ex4 ex5 ex6 ex7 ex8 ex9 ex10 ex11 ex12 ex13 ex14 ex15 h0 n0 (own_z0 O0) O0 S_CS r0 r1 r3 r4 r8 r10 r15) pd__II_V_5 (bb d5_31) 0 rfl (fun T4 L4 v4 X4 hQ4 => ?_)
  obtain ⟨rfl, N4q, e4⟩ := hQ4
  have N4 := Fr.app N0 N4q
  refine g_aloadN X4 hx (bb d5_34) rfl rfl ?_
  refine gF X4 hx hZ hown (ww 20 rfl) e4 r4 (bb d5_35) (fun T5 X5 e5 => ?_)
  refine g_iloadN X5 hx (bb d5_38) rfl ?_
  refine gLr rfl X5 hx hZ e5 r10 (v := (.ref ov)) ⟨by decide, by decide⟩ rfl (bb d5_39) ?_
  refine g_ifnullNo X5 hx (bb d5_40) ?_
  refine g_aloadN X5 hx (bb d5_43) rfl rfl ?_
  refine g_iloadN X5 hx (bb d5_44) rfl ?_
  refine g_iloadN X5 hx (bb d5_45) rfl ?_
  refine g_aloadN X5 hx (bb d5_46) rfl rfl ?_
  refine gcP X5 hx hZ hml hown (ww 71 rfl) (ww 7 rfl) (ww 74 rfl) (ww 6 rfl) (ww 72 rfl) (ww 73 rfl) e5 r0 (rm_fitW2_2 l Z a0 ww [] a1 at_ ow on ob ol oh ov kw_ kn_ kb_ kl_ kh_ kv_ eb0 eb1 el0 el1 eu0 eu1 ev0_0 ev0_1 ev1_0 ev1_1 ex4 ex5 ex6 ex7 ex8 ex9 ex10 ex11 ex12 ex13 ex14 ex15 kt_ et0 et1 h0 n0 (own_z0 O0) O0 S_CS r0 r1 r2 r3 r4 r5 r6 r7 r8 r9 r10 r11 r12 r13 r14 r15 r16 g_ow g_on ne_a1_ow ne_a1_on ne_a1_ob ne_a1_ol ne_a1_oh ne_a1_ov ne_ow_on ne_ow_ob ne_ow_ol ne_ow_oh ne_ow_ov ne_on_ob ne_on_ol ne_on_oh ne_on_ov ne_ob_ol ne_ob_oh ne_ob_ov ne_ol_oh ne_ol_ov ne_oh_ov ne_at__a1 ne_at__ow ne_at__on ne_at__ob ne_at__ol ne_at__oh ne_at__ov hIn0_0 hIn0_1 hIn1_0 hIn1_1 hWd) pd__II_I_V_7 (bb d5_47) 0 rfl (fun T6 L6 v6 X6 hQ6 => ?_)
  obtain ⟨oz6, kz_6, rfl, N6q, K6, szz_oz6, f6_0, f6_1, f6_2⟩ := hQ6
  have N6 := Fr.app N4 N6q
  have g_oz6 : n0 ≤ oz6 := Nat.le_trans (own_z0 O0) szz_oz6
  have sz_oz6 : h0.size ≤ oz6 := Nat.le_trans (Nat.le_refl _) szz_oz6
  have ne_a1_oz6 : a1 ≠ oz6 := Nat.ne_of_lt (Nat.lt_of_lt_of_le r0.lt szz_oz6)
  have ne_ow_oz6 : ow ≠ oz6 := Nat.ne_of_lt (Nat.lt_of_lt_of_le r8.lt szz_oz6)
  have ne_on_oz6 : on ≠ oz6 := Nat.ne_of_lt (Nat.lt_of_lt_of_le r10.lt szz_oz6)
  have ne_ob_oz6 : ob ≠ oz6 := Nat.ne_of_lt (Nat.lt_of_lt_of_le r12.lt szz_oz6)
  have ne_ol_oz6 : ol ≠ oz6 := Nat.ne_of_lt (Nat.lt_of_lt_of_le r13.lt szz_oz6)
  have ne_oh_oz6 : oh ≠ oz6 := Nat.ne_of_lt (Nat.lt_of_lt_of_le r14.lt szz_oz6)
  have ne_ov_oz6 : ov ≠ oz6 := Nat.ne_of_lt (Nat.lt_of_lt_of_le r15.lt szz_oz6)
  have ne_at__oz6 : at_ ≠ oz6 := Nat.ne_of_lt (Nat.lt_of_lt_of_le r16.lt szz_oz6)
  refine g_iloadN X6 hx (bb d5_50) rfl ?_
  refine g_aloadN X6 hx (bb d5_51) rfl rfl ?_
  have F8 := (r1.keep K6 (ninS ne_a1_ow (ninS ne_a1_on nin0)))
  refine gF X6 hx hZ hown (ww 22 rfl) rfl F8 (bb d5_52) (fun T7 X7 e7 => ?_)
  refine g_imul X7 hx (bb d5_55) ?_
  refine g_istore X7 hx (bb d5_56) (l' := #[vR a1, vR at_, vI 0, vI 2, vI 4, .unset, .unset]) rfl ?_
  refine g_aloadN X7 hx (bb d5_58) rfl rfl ?_
  have F10 := (r4.keep K6 (ninS ne_a1_ow (ninS ne_a1_on nin0)))
  refine gF X7 hx hZ hown (ww 20 rfl) e7 F10 (bb d5_59) (fun T9 X9 e9 => ?_)
  refine g_iloadN X9 hx (bb d5_62) rfl ?_
  refine gLr rfl X9 hx hZ e9 f6_1 (v := .null) ⟨by decide, by decide⟩ rfl (bb d5_63) ?_
  refine g_astore X9 hx (bb d5_64) rfl (l' := #[vR a1, vR at_, vI 0, vI 2, vI 4, .val .null, .unset]) rfl ?_
  refine g_iconst X9 hx (bb d5_66) ?_
  refine g_istore X9 hx (bb d5_67) (l' := #[vR a1, vR at_, vI 0, vI 2, vI 4, .val .null, vI 0]) rfl ?_
  refine g_iload X9 hx (bb d5_69) rfl ?_
  refine g_aloadN X9 hx (bb d5_71) rfl rfl ?_
  refine gF X9 hx hZ hown (ww 22 rfl) e9 F8 (bb d5_72) (fun T11 X11 e11 => ?_)
  refine g_icmpNo X11 hx (bb d5_75) (tlt (by decide : (0 : Int32) < (2 : Int32))).2.1 ?_
  refine g_aload X11 hx (bb d5_78) rfl rfl ?_
  refine g_ifnullYes X11 hx (pc' := 114) (bb d5_80) (by decide) (by decide) ?_
  refine g_aloadN X11 hx (bb d5_114) rfl rfl ?_
  have F13 := (r3.keep K6 (ninS ne_a1_ow (ninS ne_a1_on nin0)))
  refine gF X11 hx hZ hown (ww 16 rfl) e11 F13 (bb d5_115) (fun T12 X12 e12 => ?_)
  refine g_iloadN X12 hx (bb d5_118) rfl ?_
  refine gLr rfl X12 hx hZ e12 f6_0 (v := (.ref oz6)) ⟨by decide, by decide⟩ rfl (bb d5_119) ?_
  refine g_iload X12 hx (bb d5_120) rfl ?_
  refine g_iload X12 hx (bb d5_122) rfl ?_
  refine g_iadd X12 hx (bb d5_124) ?_
  refine g_aloadN X12 hx (bb d5_125) rfl rfl ?_
  refine g_iload X12 hx (bb d5_126) rfl ?_
  have F14 := (r16.keep K6 (ninS ne_at__ow (ninS ne_at__on nin0)))
  refine gLi X12 hx hZ e12 F14 (v := (.int et0)) ⟨by decide, by decide⟩ rfl (bb d5_128) ?_
  refine gSi X12 hx hZ e12 f6_2 ⟨by decide, by decide⟩ 4 rfl (Nat.le_of_ble_eq_true rfl) N6 g_oz6 (bb d5_129) (fun T15 h15 X15 e15 W15 V15 N15 => ?_)
  refine g_iinc X15 hx (bb d5_130) rfl (l' := #[vR a1, vR at_, vI 0, vI 2, vI 4, .val .null, vI 1]) rfl ?_
  refine g_goto X15 hx (pc' := 69) (bb d5_133) (by decide) (by decide) ?_
  refine g_iload X15 hx (bb d5_69) rfl ?_
  refine g_aloadN X15 hx (bb d5_71) rfl rfl ?_
  have F17 := (F8.other W15 (Or.inl ne_a1_oz6))
  refine gF X15 hx hZ hown (ww 22 rfl) e15 F17 (bb d5_72) (fun T16 X16 e16 => ?_)
  refine g_icmpNo X16 hx (bb d5_75) (tlt (by decide : (1 : Int32) < (2 : Int32))).2.1 ?_
  refine g_aload X16 hx (bb d5_78) rfl rfl ?_
  refine g_ifnullYes X16 hx (pc' := 114) (bb d5_80) (by decide) (by decide) ?_
  refine g_aloadN X16 hx (bb d5_114) rfl rfl ?_
  have F19 := (F13.other W15 (Or.inl ne_a1_oz6))
  refine gF X16 hx hZ hown (ww 16 rfl) e16 F19 (bb d5_115) (fun T18 X18 e18 => ?_)
  refine g_iloadN X18 hx (bb d5_118) rfl ?_
  have F20 := (f6_0.other W15 ne_ow_oz6)
  refine gLr rfl X18 hx hZ e18 F20 (v := (.ref oz6)) ⟨by decide, by decide⟩ rfl (bb d5_119) ?_
  refine g_iload X18 hx (bb d5_120) rfl ?_
  refine g_iload X18 hx (bb d5_122) rfl ?_
  refine g_iadd X18 hx (bb d5_124) ?_
  refine g_aloadN X18 hx (bb d5_125) rfl rfl ?_
  refine g_iload X18 hx (bb d5_126) rfl ?_
  have F21 := (F14.other W15 ne_at__oz6)
  refine gLi X18 hx hZ e18 F21 (v := (.int et1)) ⟨by decide, by decide⟩ rfl (bb d5_128) ?_
  refine gSi X18 hx hZ e18 V15 ⟨by decide, by decide⟩ 5 rfl (Nat.le_of_ble_eq_true rfl) N15 g_oz6 (bb d5_129) (fun T22 h22 X22 e22 W22 V22 N22 => ?_)
  refine g_iinc X22 hx (bb d5_130) rfl (l' := #[vR a1, vR at_, vI 0, vI 2, vI 4, .val .null, vI 2]) rfl ?_
  refine g_goto X22 hx (pc' := 69) (bb d5_133) (by decide) (by decide) ?_
  refine g_iload X22 hx (bb d5_69) rfl ?_
  refine g_aloadN X22 hx (bb d5_71) rfl rfl ?_
  have F24 := (F17.other W22 (Or.inl ne_a1_oz6))
  refine gF X22 hx hZ hown (ww 22 rfl) e22 F24 (bb d5_72) (fun T23 X23 e23 => ?_)
  refine g_icmpYes X23 hx (pc' := 136) (bb d5_75) (flt (by decide : ¬ ((2 : Int32) < (2 : Int32)))).2.1 (by decide) (by decide) ?_
  refine g_aloadN X23 hx (bb d5_136) rfl rfl ?_
  refine g_dup X23 hx (bb d5_137) rfl ?_
  have F26 := (((r2.keep K6 (ninS ne_a1_ow (ninS ne_a1_on nin0))).other W15 (Or.inl ne_a1_oz6)).other W22 (Or.inl ne_a1_oz6))
  refine gF X23 hx hZ hown (ww 37 rfl) e23 F26 (bb d5_138) (fun T25 X25 e25 => ?_)
  refine g_iconst X25 hx (bb d5_141) ?_
  refine g_iadd X25 hx (bb d5_142) ?_
  have F28 := (((r0.keep K6).wr W15).wr W22)
  obtain ⟨T27, h27, X27, e27, W27, st27⟩ := putF X25 hx hZ hown (host := "") (Or.inl (ww 37 rfl)) Via.refl e25 F26 F28 (Or.inl (ww 38 rfl)) (ww 6 rfl) (ty := .int) (by decide) rfl rfl (g := (mkF m 143 #[vR a1, vR at_, vI 0, vI 2, vI 4, .val .null, vI 2] [(.int 3), (.ref a1)])) rfl rfl (bb d5_143)
  have Fw27 := F26.same W27
  refine gl st27 ?_
  have N27 := Fr.snoc X27 N22 g_a1
  have F29 := (F28.wr W27)
  have F30 := (F24.other W27 (Or.inr (slot_ne (Or.inr (ww 23 rfl)) (Or.inl (ww 38 rfl)) (by decide) (t := .int) (t' := .int) (by decide) (by decide))))
  have F31 := ((F19.other W22 (Or.inl ne_a1_oz6)).other W27 (Or.inr (slot_ne (Or.inl (ww 17 rfl)) (Or.inl (ww 38 rfl)) (by decide) (t := (.array (.array .int))) (t' := .int) (by decide) (by decide))))
  have F32 := (((F10.other W15 (Or.inl ne_a1_oz6)).other W22 (Or.inl ne_a1_oz6)).other W27 (Or.inr (slot_ne (Or.inl (ww 21 rfl)) (Or.inl (ww 38 rfl)) (by decide) (t := (.array (.array .char))) (t' := .int) (by decide) (by decide))))
  have F33 := ((((r5.keep K6 (ninS ne_a1_ow (ninS ne_a1_on nin0))).other W15 (Or.inl ne_a1_oz6)).other W22 (Or.inl ne_a1_oz6)).other W27 (Or.inr (slot_ne (Or.inl (ww 25 rfl)) (Or.inl (ww 38 rfl)) (by decide) (t := (.array .int)) (t' := .int) (by decide) (by decide))))
  have F34 := ((((r6.keep K6 (ninS ne_a1_ow (ninS ne_a1_on nin0))).other W15 (Or.inl ne_a1_oz6)).other W22 (Or.inl ne_a1_oz6)).other W27 (Or.inr (slot_ne (Or.inr (ww 27 rfl)) (Or.inl (ww 38 rfl)) (by decide) (t := (.array .int)) (t' := .int) (by decide) (by decide))))
  have F35 := ((((r7.keep K6 (ninS ne_a1_ow (ninS ne_a1_on nin0))).other W15 (Or.inl ne_a1_oz6)).other W22 (Or.inl ne_a1_oz6)).other W27 (Or.inr (slot_ne (Or.inr (ww 29 rfl)) (Or.inl (ww 38 rfl)) (by decide) (t := (.array .int)) (t' := .int) (by decide) (by decide))))
  have F36 := ((F20.other W22 ne_ow_oz6).other W27 (Ne.symm ne_a1_ow))
  have F37 := (((f6_1.other W15 ne_on_oz6).other W22 ne_on_oz6).other W27 (Ne.symm ne_a1_on))
  have F38 := ((((r12.keep K6 (ninS (Ne.symm ne_ow_ob) (ninS (Ne.symm ne_on_ob) nin0))).other W15 ne_ob_oz6).other W22 ne_ob_oz6).other W27 (Ne.symm ne_a1_ob))
  have F39 := ((((r13.keep K6 (ninS (Ne.symm ne_ow_ol) (ninS (Ne.symm ne_on_ol) nin0))).other W15 ne_ol_oz6).other W22 ne_ol_oz6).other W27 (Ne.symm ne_a1_ol))
  have F40 := ((((r14.keep K6 (ninS (Ne.symm ne_ow_oh) (ninS (Ne.symm ne_on_oh) nin0))).other W15 ne_oh_oz6).other W22 ne_oh_oz6).other W27 (Ne.symm ne_a1_oh))
  have F41 := (V22.other W27 (Ne.symm ne_a1_oz6))
  obtain ⟨fs, hr, hrun, hended, hW, hsame⟩ := X27.leave (v := none) (fun _ => rfl)
  subst hR0
  refine ⟨_, _, ?_, hrun, hended, _, _, rfl, ?_, ⟨_, rfl⟩, hW, hsame.mono (by decide) (by decide)⟩
  · exact X27.returnOut hx hret (bb d5_146) hr
  · show Q_add2W2 Z a1 at_ ow on ob ol oh ov kw_ kn_ kb_ kl_ kh_ kv_ eb0 eb1 el0 el1 eu0 eu1 ev0_0 ev0_1 ev1_0 ev1_1 ex4 ex5 ex6 ex7 ex8 ex9 ex10 ex11 ex12 ex13 ex14 ex15 kt_ et0 et1 h0 n0 _ T27.heap _
    rw [e27]
    exact ⟨oz6, kz_6, rfl, N27, (((((Keep.refl h0 [a1, ow, on]).trans K6 (allS (Or.inl (List.mem_of_getElem? (i := 1) rfl)) (allS (Or.inl (List.mem_of_getElem? (i := 2) rfl)) all0))).wr W15 (Or.inr sz_oz6)).wr W22 (Or.inr sz_oz6)).wr W27 (Or.inl (List.mem_of_getElem? (i := 0) rfl))), sz_oz6, F29, F30, Fw27, F31, F32, F33, F34, F35, F36, r9, F37, r11, F38, F39, F40, F41⟩
def Q_add2WW2 (Z : State) (a1 at_ ow on ob ol oh oz : Addr) (kw_ kn_ kb_ kl_ kh_ kz_ : ClassId) (eb0 eb1 el0 el1 eu0 eu1 ev0_0 ev0_1 ev1_0 ev1_1 ex4 ex5 ex6 ex7 ex8 ex9 ex10 ex11 ex12 ex13 ex14 ex15 : Int32) (kt_ : ClassId) (et0 et1 : Int32) (h0 : Heap) (n0 : Nat) (v : Option Value) (h : Heap) (L : List Loc) : Prop := v = none ∧ Fr n0 L ∧ Keep h0 h [a1, oz] ∧ Exa Z h a1 cRV ∧ Fld Z h a1 cRV "arity" "I" (.int 2) ∧ Fld Z h a1 cRV "rows" "I" (.int 3) ∧ Fld Z h a1 cRV "wide" "[[I" (.ref ow) ∧ Fld Z h a1 cRV "narrow" "[[C" (.ref on) ∧ Fld Z h a1 cRV "bases" "[I" (.ref ob) ∧ Fld Z h a1 cRV "lowest" "[I" (.ref ol) ∧ Fld Z h a1 cRV "highest" "[I" (.ref oh) ∧ Arv Z h ow kw_ (.array .int) (1 : Int32) [(.ref oz)] .null ∧ OvrA Z kw_ .int "[I" ∧ Arv Z h on kn_ (.array .char) (1 : Int32) [.null] .null ∧ OvrA Z kn_ .char "[C" ∧ Arv Z h ob kb_ .int (2 : Int32) [(.int eb0), (.int eb1)] (.int 0) ∧ Arv Z h ol kl_ .int (2 : Int32) [(.int el0), (.int el1)] (.int 0) ∧ Arv Z h oh kh_ .int (2 : Int32) [(.int eu0), (.int eu1)] (.int 0) ∧ Arv Z h oz kz_ .int (16 : Int32) [(.int ev0_0), (.int ev0_1), (.int ev1_0), (.int ev1_1), (.int et0), (.int et1), (.int ex6), (.int ex7), (.int ex8), (.int ex9), (.int ex10), (.int ex11), (.int ex12), (.int ex13), (.int ex14), (.int ex15)] (.int 0)
set_option maxRecDepth 65536 in
set_option maxHeartbeats 40000000 in
theorem rm_add2WW2 (l : Launch) (Z : State) (a0 : Array Value) (ww : WW a0 Z) (ws : List Jvm.Cond) (a1 at_ ow on ob ol oh oz : Addr) (kw_ kn_ kb_ kl_ kh_ kz_ : ClassId) (eb0 eb1 el0 el1 eu0 eu1 ev0_0 ev0_1 ev1_0 ev1_1 ex4 ex5 ex6 ex7 ex8 ex9 ex10 ex11 ex12 ex13 ex14 ex15 : Int32) (kt_ : ClassId) (et0 et1 : Int32) (h0 : Heap) (n0 : Nat) (Z0 : n0 ≤ h0.size) (O0 : Old Z n0 h0) (S_CS : Sta Z Z.heap cRV "CHUNK_SHIFT" "I" (.int (12 : Int32))) (r0 : Exa Z h0 a1 cRV) (r1 : Fld Z h0 a1 cRV "arity" "I" (.int 2)) (r2 : Fld Z h0 a1 cRV "rows" "I" (.int 2)) (r3 : Fld Z h0 a1 cRV "wide" "[[I" (.ref ow)) (r4 : Fld Z h0 a1 cRV "narrow" "[[C" (.ref on)) (r5 : Fld Z h0 a1 cRV "bases" "[I" (.ref ob)) (r6 : Fld Z h0 a1 cRV "lowest" "[I" (.ref ol)) (r7 : Fld Z h0 a1 cRV "highest" "[I" (.ref oh)) (r8 : Arv Z h0 ow kw_ (.array .int) (1 : Int32) [(.ref oz)] .null) (r9 : OvrA Z kw_ .int "[I") (r10 : Arv Z h0 on kn_ (.array .char) (1 : Int32) [.null] .null) (r11 : OvrA Z kn_ .char "[C") (r12 : Arv Z h0 ob kb_ .int (2 : Int32) [(.int eb0), (.int eb1)] (.int 0)) (r13 : Arv Z h0 ol kl_ .int (2 : Int32) [(.int el0), (.int el1)] (.int 0)) (r14 : Arv Z h0 oh kh_ .int (2 : Int32) [(.int eu0), (.int eu1)] (.int 0)) (r15 : Arv Z h0 oz kz_ .int (16 : Int32) [(.int ev0_0), (.int ev0_1), (.int ev1_0), (.int ev1_1), (.int ex4), (.int ex5), (.int ex6), (.int ex7), (.int ex8), (.int ex9), (.int ex10), (.int ex11), (.int ex12), (.int ex13), (.int ex14), (.int ex15)] (.int 0)) (r16 : Arv Z h0 at_ kt_ .int (2 : Int32) [(.int et0), (.int et1)] (.int 0)) (g_a1 : n0 ≤ a1) (g_oz : n0 ≤ oz) (ne_a1_ow : a1 ≠ ow) (ne_a1_on : a1 ≠ on) (ne_a1_ob : a1 ≠ ob) (ne_a1_ol : a1 ≠ ol) (ne_a1_oh : a1 ≠ oh) (ne_a1_oz : a1 ≠ oz) (ne_ow_on : ow ≠ on) (ne_ow_ob : ow ≠ ob) (ne_ow_ol : ow ≠ ol) (ne_ow_oh : ow ≠ oh) (ne_ow_oz : ow ≠ oz) (ne_on_ob : on ≠ ob) (ne_on_ol : on ≠ ol) (ne_on_oh : on ≠ oh) (ne_on_oz : on ≠ oz) (ne_ob_ol : ob ≠ ol) (ne_ob_oh : ob ≠ oh) (ne_ob_oz : ob ≠ oz) (ne_ol_oh : ol ≠ oh) (ne_ol_oz : ol ≠ oz) (ne_oh_oz : oh ≠ oz) (ne_at__a1 : at_ ≠ a1) (ne_at__ow : at_ ≠ ow) (ne_at__on : at_ ≠ on) (ne_at__ob : at_ ≠ ob) (ne_at__ol : at_ ≠ ol) (ne_at__oh : at_ ≠ oh) (ne_at__oz : at_ ≠ oz) :
    MF l Z (⟨cRV, "add", "([I)V"⟩ : MethodName) prog_47_method_4_code 7 none ws ({ frames := 2, cells := 0, slots := 0, locals := 29 } : Room) #[(.ref a1), (.ref at_)] h0 (Q_add2WW2 Z a1 at_ ow on ob ol oh oz kw_ kn_ kb_ kl_ kh_ kz_ eb0 eb1 el0 el1 eu0 eu1 ev0_0 ev0_1 ev1_0 ev1_1 ex4 ex5 ex6 ex7 ex8 ex9 ex10 ex11 ex12 ex13 ex14 ex15 kt_ et0 et1 h0 n0) := by
  refine gopen (plainFor_of_name pn_RowValues) (fun m => ef_add2WW2 m a1 at_) (fun p e s m below meth c s₁ hlk hret hx bb hml hown hnm hZ X0 e0 R0 hR0 => ?_)
  have N0 := Fr.nil n0
  refine g_aloadN X0 hx (bb d5_0) rfl rfl ?_
  refine gF X0 hx hZ hown (ww 37 rfl) e0 r2 (bb d5_1) (fun T1 X1 e1 => ?_)
  refine gS X1 hx hZ hown (ww 44 rfl) e1 (S_CS.ext O0.2) (bb d5_4) (fun T2 X2 e2 => ?_)
  refine g_iushr X2 hx (bb d5_7) ?_
  refine g_istoreN X2 hx (bb d5_8) (l' := #[vR a1, vR at_, vI 0, .unset, .unset, .unset, .unset]) rfl ?_
  refine g_aloadN X2 hx (bb d5_9) rfl rfl ?_
  refine gF X2 hx hZ hown (ww 37 rfl) e2 r2 (bb d5_10) (fun T3 X3 e3 => ?_)
  refine g_sipush X3 hx (bb d5_13) ?_
  refine g_iand X3 hx (bb d5_16) ?_
  refine g_istoreN X3 hx (bb d5_17) (l' := #[vR a1, vR at_, vI 0, vI 2, .unset, .unset, .unset]) rfl ?_
  refine g_iloadN X3 hx (bb d5_18) rfl ?_
  refine g_ifYes X3 hx (pc' := 28) (bb d5_19) ((if0 _ _).trans (feq (by decide : ¬ ((2 : Int32) = (0 : Int32)))).2) (by decide) (by decide) ?_
  refine g_aloadN X3 hx (bb d5_28) rfl rfl ?_
  refine g_iloadN X3 hx (bb d5_29) rfl ?_
  refine g_iloadN X3 hx (bb d5_30) rfl ?_
  refine gcP X3 hx hZ hml hown (ww 64 rfl) (ww 7 rfl) (ww 67 rfl) (ww 6 rfl) (ww 65 rfl) (ww 66 rfl) e3 r0 (rm_room2W2 l Z a0 ww [] a1 ow on ob ol oh oz kw_ kn_ kb_ kl_ kh_ kz_ eb0 eb1 el0 el1 eu0 eu1 ev0_0 ev0_1 ev1_0 ev1_1 ex4 ex5 ex6 ex7 ex8 ex9 ex10 ex11 ex12 ex13 ex14 ex15 h0 n0 (own_z0 O0) O0 S_CS r0 r1 r3 r4 r8 r10 r15) pd__II_V_5 (bb d5_31) 0 rfl (fun T4 L4 v4 X4 hQ4 => ?_)
  obtain ⟨rfl, N4q, e4⟩ := hQ4
  have N4 := Fr.app N0 N4q
  refine g_aloadN X4 hx (bb d5_34) rfl rfl ?_
  refine gF X4 hx hZ hown (ww 20 rfl) e4 r4 (bb d5_35) (fun T5 X5 e5 => ?_)
  refine g_iloadN X5 hx (bb d5_38) rfl ?_
  refine gLr rfl X5 hx hZ e5 r10 (v := .null) ⟨by decide, by decide⟩ rfl (bb d5_39) ?_
  refine g_ifnullYes X5 hx (pc' := 50) (bb d5_40) (by decide) (by decide) ?_
  refine g_iloadN X5 hx (bb d5_50) rfl ?_
  refine g_aloadN X5 hx (bb d5_51) rfl rfl ?_
  refine gF X5 hx hZ hown (ww 22 rfl) e5 r1 (bb d5_52) (fun T6 X6 e6 => ?_)
  refine g_imul X6 hx (bb d5_55) ?_
  refine g_istore X6 hx (bb d5_56) (l' := #[vR a1, vR at_, vI 0, vI 2, vI 4, .unset, .unset]) rfl ?_
  refine g_aloadN X6 hx (bb d5_58) rfl rfl ?_
  refine gF X6 hx hZ hown (ww 20 rfl) e6 r4 (bb d5_59) (fun T7 X7 e7 => ?_)
  refine g_iloadN X7 hx (bb d5_62) rfl ?_
  refine gLr rfl X7 hx hZ e7 r10 (v := .null) ⟨by decide, by decide⟩ rfl (bb d5_63) ?_
  refine g_astore X7 hx (bb d5_64) rfl (l' := #[vR a1, vR at_, vI 0, vI 2, vI 4, .val .null, .unset]) rfl ?_
  refine g_iconst X7 hx (bb d5_66) ?_
  refine g_istore X7 hx (bb d5_67) (l' := #[vR a1, vR at_, vI 0, vI 2, vI 4, .val .null, vI 0]) rfl ?_
  refine g_iload X7 hx (bb d5_69) rfl ?_
  refine g_aloadN X7 hx (bb d5_71) rfl rfl ?_
  refine gF X7 hx hZ hown (ww 22 rfl) e7 r1 (bb d5_72) (fun T8 X8 e8 => ?_)
  refine g_icmpNo X8 hx (bb d5_75) (tlt (by decide : (0 : Int32) < (2 : Int32))).2.1 ?_
  refine g_aload X8 hx (bb d5_78) rfl rfl ?_
  refine g_ifnullYes X8 hx (pc' := 114) (bb d5_80) (by decide) (by decide) ?_
  refine g_aloadN X8 hx (bb d5_114) rfl rfl ?_
  refine gF X8 hx hZ hown (ww 16 rfl) e8 r3 (bb d5_115) (fun T9 X9 e9 => ?_)
  refine g_iloadN X9 hx (bb d5_118) rfl ?_
  refine gLr rfl X9 hx hZ e9 r8 (v := (.ref oz)) ⟨by decide, by decide⟩ rfl (bb d5_119) ?_
  refine g_iload X9 hx (bb d5_120) rfl ?_
  refine g_iload X9 hx (bb d5_122) rfl ?_
  refine g_iadd X9 hx (bb d5_124) ?_
  refine g_aloadN X9 hx (bb d5_125) rfl rfl ?_
  refine g_iload X9 hx (bb d5_126) rfl ?_
  refine gLi X9 hx hZ e9 r16 (v := (.int et0)) ⟨by decide, by decide⟩ rfl (bb d5_128) ?_
  refine gSi X9 hx hZ e9 r15 ⟨by decide, by decide⟩ 4 rfl (Nat.le_of_ble_eq_true rfl) N4 g_oz (bb d5_129) (fun T10 h10 X10 e10 W10 V10 N10 => ?_)
  refine g_iinc X10 hx (bb d5_130) rfl (l' := #[vR a1, vR at_, vI 0, vI 2, vI 4, .val .null, vI 1]) rfl ?_
  refine g_goto X10 hx (pc' := 69) (bb d5_133) (by decide) (by decide) ?_
  refine g_iload X10 hx (bb d5_69) rfl ?_
  refine g_aloadN X10 hx (bb d5_71) rfl rfl ?_
  have F12 := (r1.other W10 (Or.inl ne_a1_oz))
  refine gF X10 hx hZ hown (ww 22 rfl) e10 F12 (bb d5_72) (fun T11 X11 e11 => ?_)
  refine g_icmpNo X11 hx (bb d5_75) (tlt (by decide : (1 : Int32) < (2 : Int32))).2.1 ?_
  refine g_aload X11 hx (bb d5_78) rfl rfl ?_
  refine g_ifnullYes X11 hx (pc' := 114) (bb d5_80) (by decide) (by decide) ?_
  refine g_aloadN X11 hx (bb d5_114) rfl rfl ?_
  have F14 := (r3.other W10 (Or.inl ne_a1_oz))
  refine gF X11 hx hZ hown (ww 16 rfl) e11 F14 (bb d5_115) (fun T13 X13 e13 => ?_)
  refine g_iloadN X13 hx (bb d5_118) rfl ?_
  have F15 := (r8.other W10 ne_ow_oz)
  refine gLr rfl X13 hx hZ e13 F15 (v := (.ref oz)) ⟨by decide, by decide⟩ rfl (bb d5_119) ?_
  refine g_iload X13 hx (bb d5_120) rfl ?_
  refine g_iload X13 hx (bb d5_122) rfl ?_
  refine g_iadd X13 hx (bb d5_124) ?_
  refine g_aloadN X13 hx (bb d5_125) rfl rfl ?_
  refine g_iload X13 hx (bb d5_126) rfl ?_
  have F16 := (r16.other W10 ne_at__oz)
  refine gLi X13 hx hZ e13 F16 (v := (.int et1)) ⟨by decide, by decide⟩ rfl (bb d5_128) ?_
  refine gSi X13 hx hZ e13 V10 ⟨by decide, by decide⟩ 5 rfl (Nat.le_of_ble_eq_true rfl) N10 g_oz (bb d5_129) (fun T17 h17 X17 e17 W17 V17 N17 => ?_)
  refine g_iinc X17 hx (bb d5_130) rfl (l' := #[vR a1, vR at_, vI 0, vI 2, vI 4, .val .null, vI 2]) rfl ?_
  refine g_goto X17 hx (pc' := 69) (bb d5_133) (by decide) (by decide) ?_
  refine g_iload X17 hx (bb d5_69) rfl ?_
  refine g_aloadN X17 hx (bb d5_71) rfl rfl ?_
  have F19 := (F12.other W17 (Or.inl ne_a1_oz))
  refine gF X17 hx hZ hown (ww 22 rfl) e17 F19 (bb d5_72) (fun T18 X18 e18 => ?_)
  refine g_icmpYes X18 hx (pc' := 136) (bb d5_75) (flt (by decide : ¬ ((2 : Int32) < (2 : Int32)))).2.1 (by decide) (by decide) ?_
  refine g_aloadN X18 hx (bb d5_136) rfl rfl ?_
  refine g_dup X18 hx (bb d5_137) rfl ?_
  have F21 := ((r2.other W10 (Or.inl ne_a1_oz)).other W17 (Or.inl ne_a1_oz))
  refine gF X18 hx hZ hown (ww 37 rfl) e18 F21 (bb d5_138) (fun T20 X20 e20 => ?_)
  refine g_iconst X20 hx (bb d5_141) ?_
  refine g_iadd X20 hx (bb d5_142) ?_
  have F23 := ((r0.wr W10).wr W17)
  obtain ⟨T22, h22, X22, e22, W22, st22⟩ := putF X20 hx hZ hown (host := "") (Or.inl (ww 37 rfl)) Via.refl e20 F21 F23 (Or.inl (ww 38 rfl)) (ww 6 rfl) (ty := .int) (by decide) rfl rfl (g := (mkF m 143 #[vR a1, vR at_, vI 0, vI 2, vI 4, .val .null, vI 2] [(.int 3), (.ref a1)])) rfl rfl (bb d5_143)
  have Fw22 := F21.same W22
  refine gl st22 ?_
  have N22 := Fr.snoc X22 N17 g_a1
  have F24 := (F23.wr W22)
  have F25 := (F19.other W22 (Or.inr (slot_ne (Or.inr (ww 23 rfl)) (Or.inl (ww 38 rfl)) (by decide) (t := .int) (t' := .int) (by decide) (by decide))))
  have F26 := ((F14.other W17 (Or.inl ne_a1_oz)).other W22 (Or.inr (slot_ne (Or.inl (ww 17 rfl)) (Or.inl (ww 38 rfl)) (by decide) (t := (.array (.array .int))) (t' := .int) (by decide) (by decide))))
  have F27 := (((r4.other W10 (Or.inl ne_a1_oz)).other W17 (Or.inl ne_a1_oz)).other W22 (Or.inr (slot_ne (Or.inl (ww 21 rfl)) (Or.inl (ww 38 rfl)) (by decide) (t := (.array (.array .char))) (t' := .int) (by decide) (by decide))))
  have F28 := (((r5.other W10 (Or.inl ne_a1_oz)).other W17 (Or.inl ne_a1_oz)).other W22 (Or.inr (slot_ne (Or.inl (ww 25 rfl)) (Or.inl (ww 38 rfl)) (by decide) (t := (.array .int)) (t' := .int) (by decide) (by decide))))
  have F29 := (((r6.other W10 (Or.inl ne_a1_oz)).other W17 (Or.inl ne_a1_oz)).other W22 (Or.inr (slot_ne (Or.inr (ww 27 rfl)) (Or.inl (ww 38 rfl)) (by decide) (t := (.array .int)) (t' := .int) (by decide) (by decide))))
  have F30 := (((r7.other W10 (Or.inl ne_a1_oz)).other W17 (Or.inl ne_a1_oz)).other W22 (Or.inr (slot_ne (Or.inr (ww 29 rfl)) (Or.inl (ww 38 rfl)) (by decide) (t := (.array .int)) (t' := .int) (by decide) (by decide))))
  have F31 := ((F15.other W17 ne_ow_oz).other W22 (Ne.symm ne_a1_ow))
  have F32 := (((r10.other W10 ne_on_oz).other W17 ne_on_oz).other W22 (Ne.symm ne_a1_on))
  have F33 := (((r12.other W10 ne_ob_oz).other W17 ne_ob_oz).other W22 (Ne.symm ne_a1_ob))
  have F34 := (((r13.other W10 ne_ol_oz).other W17 ne_ol_oz).other W22 (Ne.symm ne_a1_ol))
  have F35 := (((r14.other W10 ne_oh_oz).other W17 ne_oh_oz).other W22 (Ne.symm ne_a1_oh))
  have F36 := (V17.other W22 (Ne.symm ne_a1_oz))
  obtain ⟨fs, hr, hrun, hended, hW, hsame⟩ := X22.leave (v := none) (fun _ => rfl)
  subst hR0
  refine ⟨_, _, ?_, hrun, hended, _, _, rfl, ?_, ⟨_, rfl⟩, hW, hsame.mono (by decide) (by decide)⟩
  · exact X22.returnOut hx hret (bb d5_146) hr
  · show Q_add2WW2 Z a1 at_ ow on ob ol oh oz kw_ kn_ kb_ kl_ kh_ kz_ eb0 eb1 el0 el1 eu0 eu1 ev0_0 ev0_1 ev1_0 ev1_1 ex4 ex5 ex6 ex7 ex8 ex9 ex10 ex11 ex12 ex13 ex14 ex15 kt_ et0 et1 h0 n0 _ T22.heap _
    rw [e22]
    exact ⟨rfl, N22, ((((Keep.refl h0 [a1, oz]).wr W10 (Or.inl (List.mem_of_getElem? (i := 1) rfl))).wr W17 (Or.inl (List.mem_of_getElem? (i := 1) rfl))).wr W22 (Or.inl (List.mem_of_getElem? (i := 0) rfl))), F24, F25, Fw22, F26, F27, F28, F29, F30, F31, r9, F32, r11, F33, F34, F35, F36⟩
def Q_tuple2 (Z : State) (p1 : Int32) (h0 : Heap) (n0 : Nat) (v : Option Value) (h : Heap) (L : List Loc) : Prop := ∃ (ot : Addr) (kt : ClassId), v = some (.ref ot) ∧ Fr n0 L ∧ Keep h0 h [] ∧ h0.size ≤ ot ∧ Arv Z h ot kt .int (2 : Int32) [(.int p1), (.int (p1 ^^^ (-1 : Int32)))] (.int 0)
set_option maxRecDepth 65536 in
set_option maxHeartbeats 40000000 in
theorem rm_tuple2 (l : Launch) (Z : State) (a0 : Array Value) (ww : WW a0 Z) (ws : List Jvm.Cond) (p1 : Int32) (h0 : Heap) (n0 : Nat) (Z0 : n0 ≤ h0.size) (O0 : Old Z n0 h0) (S_CS : Sta Z Z.heap cRV "CHUNK_SHIFT" "I" (.int (12 : Int32))) :
    MF l Z (⟨"com/example/chaseward/chaseward/engine/RowValuesClearPinLaw", "tuple", "(ZI)[I"⟩ : MethodName) method_3_code 2 (some (.array .int)) ws ({ frames := 0, cells := 1, slots := 2, locals := 0 } : Room) #[(.int 1), (.int p1)] h0 (Q_tuple2 Z p1 h0 n0) := by
  refine gopen (plainFor_of_name pn_RowValuesClearPinLaw) (fun m => ef_tuple2 m p1) (fun p e s m below meth c s₁ hlk hret hx bb hml hown hnm hZ X0 e0 R0 hR0 => ?_)
  have N0 := Fr.nil n0
  refine g_iloadN X0 hx (bb d1_0) rfl ?_
  refine g_ifNo X0 hx (bb d1_1) ((if0 _ _).trans (feq (by decide : ¬ ((1 : Int32) = (0 : Int32)))).1) ?_
  refine g_iconst X0 hx (bb d1_4) ?_
  obtain ⟨T1, h1, k1, X1, e1, E1, A1, B1, st1⟩ := newPE (aty := .int) X0 hx hZ (ww 4 rfl) e0 (g := (mkF m 5 #[vI 1, vI p1] [(.int 2)])) rfl (bb d1_5) rfl (by decide) (cap := 2) (by decide) (by decide) (by decide) (by decide) (ad := "[I") (by decide)
  obtain ⟨b1, q_b1⟩ : ∃ z, z = (h0).size := ⟨_, rfl⟩
  rw [← q_b1] at A1 B1 st1
  have g_b1 : n0 ≤ b1 := Nat.le_trans (own_z0 O0) (Nat.le_of_eq q_b1.symm)
  have sz_b1 : h0.size ≤ b1 := Nat.le_trans (Nat.le_refl _) (Nat.le_of_eq q_b1.symm)
  refine gl st1 ?_
  have V_b1 : Arv Z h1 b1 k1 .int (2 : Int32) [(.int 0), (.int 0)] (.int 0) := (Arv.new A1 (by decide)).pad (pad_rep [] (.int 0) 2)
  refine g_dup X1 hx (bb d1_7) rfl ?_
  refine g_iconst X1 hx (bb d1_8) ?_
  refine g_iloadN X1 hx (bb d1_9) rfl ?_
  refine gSi X1 hx hZ e1 V_b1 ⟨by decide, by decide⟩ 0 rfl (Nat.le_of_ble_eq_true rfl) N0 g_b1 (bb d1_10) (fun T2 h2 X2 e2 W2 V2 N2 => ?_)
  refine g_dup X2 hx (bb d1_11) rfl ?_
  refine g_iconst X2 hx (bb d1_12) ?_
  refine g_iloadN X2 hx (bb d1_13) rfl ?_
  refine g_iconst X2 hx (bb d1_14) ?_
  refine g_ixor X2 hx (bb d1_15) ?_
  refine gSi X2 hx hZ e2 V2 ⟨by decide, by decide⟩ 1 rfl (Nat.le_of_ble_eq_true rfl) N2 g_b1 (bb d1_16) (fun T3 h3 X3 e3 W3 V3 N3 => ?_)
  obtain ⟨fs, hr, hrun, hended, hW, hsame⟩ := X3.leave (v := some (.ref b1)) (fun h => by rw [hret] at h; cases h)
  subst hR0
  refine ⟨_, _, ?_, hrun, hended, _, _, rfl, ?_, ⟨_, rfl⟩, hW, hsame.mono (by decide) (by decide)⟩
  · exact retOut X3 hx hret rfl (Or.inr (Or.inr (Or.inr (Or.inr ⟨rfl, rfl, rfl⟩)))) (bb d1_17) hr
  · show Q_tuple2 Z p1 h0 n0 _ T3.heap _
    rw [e3]
    exact ⟨b1, k1, rfl, N3, ((((Keep.refl h0 []).ext E1).wr W2 (Or.inr sz_b1)).wr W3 (Or.inr sz_b1)), sz_b1, V3⟩
def Q_clear2N (Z : State) (a1 ow on ob ol oh ov : Addr) (kw_ kn_ : ClassId) (er : Int32) (h0 : Heap) (n0 : Nat) (v : Option Value) (h : Heap) (L : List Loc) : Prop := v = none ∧ Fr n0 L ∧ Keep h0 h [a1] ∧ Fld Z h a1 cRV "arity" "I" (.int 2) ∧ Fld Z h a1 cRV "rows" "I" (.int 0) ∧ Fld Z h a1 cRV "wide" "[[I" (.ref ow) ∧ Fld Z h a1 cRV "narrow" "[[C" (.ref on) ∧ Fld Z h a1 cRV "bases" "[I" (.ref ob) ∧ Fld Z h a1 cRV "lowest" "[I" (.ref ol) ∧ Fld Z h a1 cRV "highest" "[I" (.ref oh)
set_option maxRecDepth 65536 in
set_option maxHeartbeats 40000000 in
theorem rm_clear2N (l : Launch) (Z : State) (a0 : Array Value) (ww : WW a0 Z) (ws : List Jvm.Cond) (a1 ow on ob ol oh ov : Addr) (kw_ kn_ : ClassId) (er : Int32) (h0 : Heap) (n0 : Nat) (Z0 : n0 ≤ h0.size) (O0 : Old Z n0 h0) (S_CS : Sta Z Z.heap cRV "CHUNK_SHIFT" "I" (.int (12 : Int32))) (r0 : Exa Z h0 a1 cRV) (r1 : Fld Z h0 a1 cRV "arity" "I" (.int 2)) (r2 : Fld Z h0 a1 cRV "rows" "I" (.int er)) (r3 : Fld Z h0 a1 cRV "wide" "[[I" (.ref ow)) (r4 : Fld Z h0 a1 cRV "narrow" "[[C" (.ref on)) (r5 : Fld Z h0 a1 cRV "bases" "[I" (.ref ob)) (r6 : Fld Z h0 a1 cRV "lowest" "[I" (.ref ol)) (r7 : Fld Z h0 a1 cRV "highest" "[I" (.ref oh)) (r8 : Arv Z h0 ow kw_ (.array .int) (1 : Int32) [.null] .null) (r9 : Arv Z h0 on kn_ (.array .char) (1 : Int32) [(.ref ov)] .null) (g_a1 : n0 ≤ a1) (ne_a1_ow : a1 ≠ ow) (ne_a1_on : a1 ≠ on) :
    MF l Z (⟨cRV, "clear", "()V"⟩ : MethodName) prog_47_method_2_code 2 none ws ({ frames := 0, cells := 0, slots := 0, locals := 0 } : Room) #[(.ref a1)] h0 (Q_clear2N Z a1 ow on ob ol oh ov kw_ kn_ er h0 n0) := by
  refine gopen (plainFor_of_name pn_RowValues) (fun m => ef_clear2N m a1) (fun p e s m below meth c s₁ hlk hret hx bb hml hown hnm hZ X0 e0 R0 hR0 => ?_)
  have N0 := Fr.nil n0
  refine g_aloadN X0 hx (bb d4_0) rfl rfl ?_
  refine g_iconst X0 hx (bb d4_1) ?_
  obtain ⟨T1, h1, X1, e1, W1, st1⟩ := putF X0 hx hZ hown (host := "") (Or.inl (ww 37 rfl)) Via.refl e0 r2 r0 (Or.inl (ww 38 rfl)) (ww 6 rfl) (ty := .int) (by decide) rfl rfl (g := (mkF m 2 #[vR a1, .unset] [(.int 0), (.ref a1)])) rfl rfl (bb d4_2)
  have Fw1 := r2.same W1
  refine gl st1 ?_
  have N1 := Fr.snoc X1 N0 g_a1
  refine g_aloadN X1 hx (bb d4_5) rfl rfl ?_
  have F3 := (r4.other W1 (Or.inr (slot_ne (Or.inl (ww 21 rfl)) (Or.inl (ww 38 rfl)) (by decide) (t := (.array (.array .char))) (t' := .int) (by decide) (by decide))))
  refine gF X1 hx hZ hown (ww 20 rfl) e1 F3 (bb d4_6) (fun T2 X2 e2 => ?_)
  refine g_iconst X2 hx (bb d4_9) ?_
  have F4 := (r9.other W1 (Ne.symm ne_a1_on))
  refine gLr rfl X2 hx hZ e2 F4 (v := (.ref ov)) ⟨by decide, by decide⟩ rfl (bb d4_10) ?_
  refine g_ifnonnullYes X2 hx (pc' := 36) (bb d4_11) (by decide) (by decide) ?_
  refine g_iconst X2 hx (bb d4_36) ?_
  refine g_istoreN X2 hx (bb d4_37) (l' := #[vR a1, vI 1]) rfl ?_
  refine g_iloadN X2 hx (bb d4_38) rfl ?_
  refine g_aloadN X2 hx (bb d4_39) rfl rfl ?_
  have F6 := (r3.other W1 (Or.inr (slot_ne (Or.inl (ww 17 rfl)) (Or.inl (ww 38 rfl)) (by decide) (t := (.array (.array .int))) (t' := .int) (by decide) (by decide))))
  refine gF X2 hx hZ hown (ww 16 rfl) e2 F6 (bb d4_40) (fun T5 X5 e5 => ?_)
  have F7 := (r8.other W1 (Ne.symm ne_a1_ow))
  refine gA X5 hx hZ e5 F7 (bb d4_43) ?_
  refine g_icmpYes X5 hx (pc' := 67) (bb d4_44) (flt (by decide : ¬ ((1 : Int32) < (1 : Int32)))).2.1 (by decide) (by decide) ?_
  have F8 := (r1.other W1 (Or.inr (slot_ne (Or.inr (ww 23 rfl)) (Or.inl (ww 38 rfl)) (by decide) (t := .int) (t' := .int) (by decide) (by decide))))
  have F9 := (r5.other W1 (Or.inr (slot_ne (Or.inl (ww 25 rfl)) (Or.inl (ww 38 rfl)) (by decide) (t := (.array .int)) (t' := .int) (by decide) (by decide))))
  have F10 := (r6.other W1 (Or.inr (slot_ne (Or.inr (ww 27 rfl)) (Or.inl (ww 38 rfl)) (by decide) (t := (.array .int)) (t' := .int) (by decide) (by decide))))
  have F11 := (r7.other W1 (Or.inr (slot_ne (Or.inr (ww 29 rfl)) (Or.inl (ww 38 rfl)) (by decide) (t := (.array .int)) (t' := .int) (by decide) (by decide))))
  obtain ⟨fs, hr, hrun, hended, hW, hsame⟩ := X5.leave (v := none) (fun _ => rfl)
  subst hR0
  refine ⟨_, _, ?_, hrun, hended, _, _, rfl, ?_, ⟨_, rfl⟩, hW, hsame.mono (by decide) (by decide)⟩
  · exact X5.returnOut hx hret (bb d4_67) hr
  · show Q_clear2N Z a1 ow on ob ol oh ov kw_ kn_ er h0 n0 _ T5.heap _
    rw [e5]
    exact ⟨rfl, N1, ((Keep.refl h0 [a1]).wr W1 (Or.inl (List.mem_of_getElem? (i := 0) rfl))), F8, Fw1, F6, F3, F9, F10, F11⟩
def Q_clear2W (Z : State) (a1 ow on ob ol oh oz : Addr) (kw_ kn_ kz_ : ClassId) (er ex0 ex1 ex2 ex3 ex4 ex5 ex6 ex7 ex8 ex9 ex10 ex11 ex12 ex13 ex14 ex15 : Int32) (h0 : Heap) (n0 : Nat) (v : Option Value) (h : Heap) (L : List Loc) : Prop := ∃ (ov : Addr) (kv_ : ClassId), v = none ∧ Fr n0 L ∧ Keep h0 h [a1, ow, on] ∧ h0.size ≤ ov ∧ Fld Z h a1 cRV "arity" "I" (.int 2) ∧ Fld Z h a1 cRV "rows" "I" (.int 0) ∧ Fld Z h a1 cRV "wide" "[[I" (.ref ow) ∧ Fld Z h a1 cRV "narrow" "[[C" (.ref on) ∧ Fld Z h a1 cRV "bases" "[I" (.ref ob) ∧ Fld Z h a1 cRV "lowest" "[I" (.ref ol) ∧ Fld Z h a1 cRV "highest" "[I" (.ref oh) ∧ Arv Z h ow kw_ (.array .int) (1 : Int32) [.null] .null ∧ Arv Z h on kn_ (.array .char) (1 : Int32) [(.ref ov)] .null ∧ Arv Z h ov kv_ .char (16 : Int32) [(.int 0), (.int 0), (.int 0), (.int 0), (.int 0), (.int 0), (.int 0), (.int 0), (.int 0), (.int 0), (.int 0), (.int 0), (.int 0), (.int 0), (.int 0), (.int 0)] (.int 0)
set_option maxRecDepth 65536 in
set_option maxHeartbeats 40000000 in
theorem rm_clear2W (l : Launch) (Z : State) (a0 : Array Value) (ww : WW a0 Z) (ws : List Jvm.Cond) (a1 ow on ob ol oh oz : Addr) (kw_ kn_ kz_ : ClassId) (er ex0 ex1 ex2 ex3 ex4 ex5 ex6 ex7 ex8 ex9 ex10 ex11 ex12 ex13 ex14 ex15 : Int32) (h0 : Heap) (n0 : Nat) (Z0 : n0 ≤ h0.size) (O0 : Old Z n0 h0) (S_CS : Sta Z Z.heap cRV "CHUNK_SHIFT" "I" (.int (12 : Int32))) (r0 : Exa Z h0 a1 cRV) (r1 : Fld Z h0 a1 cRV "arity" "I" (.int 2)) (r2 : Fld Z h0 a1 cRV "rows" "I" (.int er)) (r3 : Fld Z h0 a1 cRV "wide" "[[I" (.ref ow)) (r4 : Fld Z h0 a1 cRV "narrow" "[[C" (.ref on)) (r5 : Fld Z h0 a1 cRV "bases" "[I" (.ref ob)) (r6 : Fld Z h0 a1 cRV "lowest" "[I" (.ref ol)) (r7 : Fld Z h0 a1 cRV "highest" "[I" (.ref oh)) (r8 : Arv Z h0 ow kw_ (.array .int) (1 : Int32) [(.ref oz)] .null) (r9 : OvrA Z kw_ .int "[I") (r10 : Arv Z h0 on kn_ (.array .char) (1 : Int32) [.null] .null) (r11 : OvrA Z kn_ .char "[C") (r12 : Arv Z h0 oz kz_ .int (16 : Int32) [(.int ex0), (.int ex1), (.int ex2), (.int ex3), (.int ex4), (.int ex5), (.int ex6), (.int ex7), (.int ex8), (.int ex9), (.int ex10), (.int ex11), (.int ex12), (.int ex13), (.int ex14), (.int ex15)] (.int 0)) (g_a1 : n0 ≤ a1) (g_ow : n0 ≤ ow) (g_on : n0 ≤ on) (ne_a1_ow : a1 ≠ ow) (ne_a1_on : a1 ≠ on) (ne_a1_oz : a1 ≠ oz) (ne_ow_on : ow ≠ on) (ne_ow_oz : ow ≠ oz) (ne_on_oz : on ≠ oz) :
    MF l Z (⟨cRV, "clear", "()V"⟩ : MethodName) prog_47_method_2_code 2 none ws ({ frames := 0, cells := 1, slots := 16, locals := 0 } : Room) #[(.ref a1)] h0 (Q_clear2W Z a1 ow on ob ol oh oz kw_ kn_ kz_ er ex0 ex1 ex2 ex3 ex4 ex5 ex6 ex7 ex8 ex9 ex10 ex11 ex12 ex13 ex14 ex15 h0 n0) := by
  refine gopen (plainFor_of_name pn_RowValues) (fun m => ef_clear2W m a1) (fun p e s m below meth c s₁ hlk hret hx bb hml hown hnm hZ X0 e0 R0 hR0 => ?_)
  have N0 := Fr.nil n0
  refine g_aloadN X0 hx (bb d4_0) rfl rfl ?_
  refine g_iconst X0 hx (bb d4_1) ?_
  obtain ⟨T1, h1, X1, e1, W1, st1⟩ := putF X0 hx hZ hown (host := "") (Or.inl (ww 37 rfl)) Via.refl e0 r2 r0 (Or.inl (ww 38 rfl)) (ww 6 rfl) (ty := .int) (by decide) rfl rfl (g := (mkF m 2 #[vR a1, .unset] [(.int 0), (.ref a1)])) rfl rfl (bb d4_2)
  have Fw1 := r2.same W1
  refine gl st1 ?_
  have N1 := Fr.snoc X1 N0 g_a1
  refine g_aloadN X1 hx (bb d4_5) rfl rfl ?_
  have F3 := (r4.other W1 (Or.inr (slot_ne (Or.inl (ww 21 rfl)) (Or.inl (ww 38 rfl)) (by decide) (t := (.array (.array .char))) (t' := .int) (by decide) (by decide))))
  refine gF X1 hx hZ hown (ww 20 rfl) e1 F3 (bb d4_6) (fun T2 X2 e2 => ?_)
  refine g_iconst X2 hx (bb d4_9) ?_
  have F4 := (r10.other W1 (Ne.symm ne_a1_on))
  refine gLr rfl X2 hx hZ e2 F4 (v := .null) ⟨by decide, by decide⟩ rfl (bb d4_10) ?_
  refine g_ifnonnullNo X2 hx (bb d4_11) ?_
  refine g_aloadN X2 hx (bb d4_14) rfl rfl ?_
  refine gF X2 hx hZ hown (ww 20 rfl) e2 F3 (bb d4_15) (fun T5 X5 e5 => ?_)
  refine g_iconst X5 hx (bb d4_18) ?_
  refine g_aloadN X5 hx (bb d4_19) rfl rfl ?_
  have F7 := (r3.other W1 (Or.inr (slot_ne (Or.inl (ww 17 rfl)) (Or.inl (ww 38 rfl)) (by decide) (t := (.array (.array .int))) (t' := .int) (by decide) (by decide))))
  refine gF X5 hx hZ hown (ww 16 rfl) e5 F7 (bb d4_20) (fun T6 X6 e6 => ?_)
  refine g_iconst X6 hx (bb d4_23) ?_
  have F8 := (r8.other W1 (Ne.symm ne_a1_ow))
  refine gLr rfl X6 hx hZ e6 F8 (v := (.ref oz)) ⟨by decide, by decide⟩ rfl (bb d4_24) ?_
  have F9 := (r12.other W1 (Ne.symm ne_a1_oz))
  refine gA X6 hx hZ e6 F9 (bb d4_25) ?_
  have O11 := (O0.wr W1 g_a1)
  obtain ⟨T10, h10, k10, X10, e10, E10, A10, B10, st10⟩ := newPE (aty := .char) X6 hx hZ (ww 30 rfl) e6 (g := (mkF m 26 #[vR a1, .unset] [(.int 16), (.int 0), (.ref on)])) rfl (bb d4_26) rfl (by decide) (cap := 16) (by decide) (by decide) (by decide) (by decide) (ad := "[C") (by decide)
  obtain ⟨b10, q_b10⟩ : ∃ z, z = (h1).size := ⟨_, rfl⟩
  rw [← q_b10] at A10 B10 st10
  have g_b10 : n0 ≤ b10 := Nat.le_trans (own_z0 O11) (Nat.le_of_eq q_b10.symm)
  have sz_b10 : h0.size ≤ b10 := Nat.le_trans (Nat.le_trans (Nat.le_refl _) (Keep.of_wr W1).1) (Nat.le_of_eq q_b10.symm)
  have F12 := (r0.wr W1)
  have ne_a1_b10 : a1 ≠ b10 := Nat.ne_of_lt (Nat.lt_of_lt_of_le F12.lt (Nat.le_of_eq q_b10.symm))
  have ne_ow_b10 : ow ≠ b10 := Nat.ne_of_lt (Nat.lt_of_lt_of_le F8.lt (Nat.le_of_eq q_b10.symm))
  have ne_on_b10 : on ≠ b10 := Nat.ne_of_lt (Nat.lt_of_lt_of_le F4.lt (Nat.le_of_eq q_b10.symm))
  have ne_oz_b10 : oz ≠ b10 := Nat.ne_of_lt (Nat.lt_of_lt_of_le F9.lt (Nat.le_of_eq q_b10.symm))
  refine gl st10 ?_
  have V_b10 : Arv Z h10 b10 k10 .char (16 : Int32) [(.int 0), (.int 0), (.int 0), (.int 0), (.int 0), (.int 0), (.int 0), (.int 0), (.int 0), (.int 0), (.int 0), (.int 0), (.int 0), (.int 0), (.int 0), (.int 0)] (.int 0) := (Arv.new A10 (by decide)).pad (pad_rep [] (.int 0) 16)
  have F13 := (F4.ext E10)
  obtain ⟨cl14, Ar14, vq14, vS14, vN14, vH14, vG14⟩ := id F13
  have hin14 : ¬ (((0 : Int32) : Int32) < 0 ∨ cl14.slots.size ≤ ((0 : Int32) : Int32).toNatClampNeg) := inb_of vS14 ⟨by decide, by decide⟩
  obtain ⟨T14, h14, X14, e14, W14, st14⟩ := stR X10 hx hZ e10 Ar14 (j := (0 : Int32)) hin14 rfl (Sto.ofVA Ar14 vq14 r11 (Ins.self B10)) (g := (mkF m 28 #[vR a1, .unset] [(.ref b10), (.int 0), (.ref on)])) rfl rfl (bb d4_28)
  refine gl st14 ?_
  have V14 : Arv Z h14 on kn_ (.array .char) (1 : Int32) [(.ref b10)] .null := Arv.set Ar14 vq14 vS14 vN14 vH14 vG14 rfl W14 0 rfl (Nat.le_of_ble_eq_true rfl)
  have N14 := Fr.snoc X14 N1 g_on
  refine g_aloadN X14 hx (bb d4_29) rfl rfl ?_
  have F16 := ((F7.ext E10).other W14 (Or.inl ne_a1_on))
  refine gF X14 hx hZ hown (ww 16 rfl) e14 F16 (bb d4_30) (fun T15 X15 e15 => ?_)
  refine g_iconst X15 hx (bb d4_33) ?_
  refine g_aconstNull X15 hx (bb d4_34) ?_
  have F17 := ((F8.ext E10).other W14 ne_ow_on)
  obtain ⟨cl18, Ar18, vq18, vS18, vN18, vH18, vG18⟩ := id F17
  have hin18 : ¬ (((0 : Int32) : Int32) < 0 ∨ cl18.slots.size ≤ ((0 : Int32) : Int32).toNatClampNeg) := inb_of vS18 ⟨by decide, by decide⟩
  obtain ⟨T18, h18, X18, e18, W18, st18⟩ := stR X15 hx hZ e15 Ar18 (j := (0 : Int32)) hin18 rfl (Or.inl rfl) (g := (mkF m 35 #[vR a1, .unset] [.null, (.int 0), (.ref ow)])) rfl rfl (bb d4_35)
  refine gl st18 ?_
  have V18 : Arv Z h18 ow kw_ (.array .int) (1 : Int32) [.null] .null := Arv.set Ar18 vq18 vS18 vN18 vH18 vG18 rfl W18 0 rfl (Nat.le_of_ble_eq_true rfl)
  have N18 := Fr.snoc X18 N14 g_ow
  refine g_iconst X18 hx (bb d4_36) ?_
  refine g_istoreN X18 hx (bb d4_37) (l' := #[vR a1, vI 1]) rfl ?_
  refine g_iloadN X18 hx (bb d4_38) rfl ?_
  refine g_aloadN X18 hx (bb d4_39) rfl rfl ?_
  have F20 := (F16.other W18 (Or.inl ne_a1_ow))
  refine gF X18 hx hZ hown (ww 16 rfl) e18 F20 (bb d4_40) (fun T19 X19 e19 => ?_)
  refine gA X19 hx hZ e19 V18 (bb d4_43) ?_
  refine g_icmpYes X19 hx (pc' := 67) (bb d4_44) (flt (by decide : ¬ ((1 : Int32) < (1 : Int32)))).2.1 (by decide) (by decide) ?_
  have F21 := ((((r1.other W1 (Or.inr (slot_ne (Or.inr (ww 23 rfl)) (Or.inl (ww 38 rfl)) (by decide) (t := .int) (t' := .int) (by decide) (by decide)))).ext E10).other W14 (Or.inl ne_a1_on)).other W18 (Or.inl ne_a1_ow))
  have F22 := (((Fw1.ext E10).other W14 (Or.inl ne_a1_on)).other W18 (Or.inl ne_a1_ow))
  have F23 := (((F3.ext E10).other W14 (Or.inl ne_a1_on)).other W18 (Or.inl ne_a1_ow))
  have F24 := ((((r5.other W1 (Or.inr (slot_ne (Or.inl (ww 25 rfl)) (Or.inl (ww 38 rfl)) (by decide) (t := (.array .int)) (t' := .int) (by decide) (by decide)))).ext E10).other W14 (Or.inl ne_a1_on)).other W18 (Or.inl ne_a1_ow))
  have F25 := ((((r6.other W1 (Or.inr (slot_ne (Or.inr (ww 27 rfl)) (Or.inl (ww 38 rfl)) (by decide) (t := (.array .int)) (t' := .int) (by decide) (by decide)))).ext E10).other W14 (Or.inl ne_a1_on)).other W18 (Or.inl ne_a1_ow))
  have F26 := ((((r7.other W1 (Or.inr (slot_ne (Or.inr (ww 29 rfl)) (Or.inl (ww 38 rfl)) (by decide) (t := (.array .int)) (t' := .int) (by decide) (by decide)))).ext E10).other W14 (Or.inl ne_a1_on)).other W18 (Or.inl ne_a1_ow))
  have F27 := (V14.other W18 (Ne.symm ne_ow_on))
  have F28 := ((V_b10.other W14 (Ne.symm ne_on_b10)).other W18 (Ne.symm ne_ow_b10))
  obtain ⟨fs, hr, hrun, hended, hW, hsame⟩ := X19.leave (v := none) (fun _ => rfl)
  subst hR0
  refine ⟨_, _, ?_, hrun, hended, _, _, rfl, ?_, ⟨_, rfl⟩, hW, hsame.mono (by decide) (by decide)⟩
  · exact X19.returnOut hx hret (bb d4_67) hr
  · show Q_clear2W Z a1 ow on ob ol oh oz kw_ kn_ kz_ er ex0 ex1 ex2 ex3 ex4 ex5 ex6 ex7 ex8 ex9 ex10 ex11 ex12 ex13 ex14 ex15 h0 n0 _ T19.heap _
    rw [e19]
    exact ⟨b10, k10, rfl, N18, (((((Keep.refl h0 [a1, ow, on]).wr W1 (Or.inl (List.mem_of_getElem? (i := 0) rfl))).ext E10).wr W14 (Or.inl (List.mem_of_getElem? (i := 2) rfl))).wr W18 (Or.inl (List.mem_of_getElem? (i := 1) rfl))), sz_b10, F21, F22, F20, F23, F24, F25, F26, V18, F27, F28⟩
theorem own_more {p : Program} {l : Launch} {e : Env} {R : Room} {s : State} {m : MethodId} {args : Array Value} {below : List Frame} {meth : Method} {c : Code} {T : State} {L : List Loc} {c0 s0 c1 s1 : Nat} (X : Stand p l e R s m args below meth c T L c0 s0) (h1 : c0 ≤ c1) (h2 : s0 ≤ s1) : Stand p l e R s m args below meth c T L c1 s1 := { X with same := X.same.mono h1 h2 }
theorem own_l12 {x : Int32} (h : x < (1 : Int32)) : x < (2 : Int32) := Int32.lt_trans h (by decide)
theorem own_l23 {x : Int32} (h : x < (2 : Int32)) : x < (3 : Int32) := Int32.lt_trans h (by decide)
def lawP (p1 : Int32) (p5 : Int32) (p6 : Int32) : Prop := (if (p1 &&& (1 : Int32)) = (0 : Int32) then (if (lcmpW (((f_maxI p6 p5).toInt64) - ((f_minI p6 p5).toInt64)) (65536 : Int64)) < (0 : Int32) then True else True) else (if ((lcmpW (((f_maxI p6 p5).toInt64) - ((f_minI p6 p5).toInt64)) (65536 : Int64)) < (0 : Int32)) ∧ ((lcmpW (((f_maxI (p6 ^^^ (-1 : Int32)) (p5 ^^^ (-1 : Int32))).toInt64) - ((f_minI (p6 ^^^ (-1 : Int32)) (p5 ^^^ (-1 : Int32))).toInt64)) (65536 : Int64)) < (0 : Int32)) then True else True))
set_option maxRecDepth 65536 in
set_option maxHeartbeats 40000000 in
theorem rm_law (l : Launch) (Z : State) (a0 : Array Value) (ww : WW a0 Z) (ws : List Jvm.Cond) (p1 p2 p3 p4 p5 p6 : Int32) (h0 : Heap) (n0 : Nat) (Z0 : n0 ≤ h0.size) (O0 : Old Z n0 h0) (S_CS : Sta Z Z.heap cRV "CHUNK_SHIFT" "I" (.int (12 : Int32))) (hp : lawP p1 p5 p6) :
    MF l Z x code maxLocals ret ws room_1 #[(.int p1), (.int p2), (.int p3), (.int p4), (.int p5), (.int p6)] h0 (LawQ n0) := by
  refine gopen (plainFor_of_name pn_RowValuesClearPinLaw) (fun m => ef_law m p1 p2 p3 p4 p5 p6) (fun p e s m below meth c s₁ hlk hret hx bb hml hown hnm hZ X0 e0 R0 hR0 => ?_)
  have N0 := Fr.nil n0
  unfold lawP at hp
  refine g_iloadN X0 hx (bb at_0) rfl ?_
  refine g_iconst X0 hx (bb at_1) ?_
  refine g_iand X0 hx (bb at_2) ?_
  by_cases g1 : (p1 &&& (1 : Int32)) = (0 : Int32)
  · skip
    rw [if_pos g1] at hp
    refine g_ifYes X0 hx (pc' := 10) (bb at_3) ((if0 _ _).trans (teq g1).1) (by decide) (by decide) ?_
    refine g_iconst X0 hx (bb at_10) ?_
    refine g_istore X0 hx (bb at_11) (l' := #[vI p1, vI p2, vI p3, vI p4, vI p5, vI p6, vI 0, .unset, .unset, .unset, .unset, .unset, .unset, .unset, .unset, .unset]) rfl ?_
    refine g_iload X0 hx (bb at_13) rfl ?_
    refine g_ifYes X0 hx (pc' := 22) (bb at_15) ((if0 _ _).trans (teq (by decide : (0 : Int32) = (0 : Int32))).1) (by decide) (by decide) ?_
    refine g_iconst X0 hx (bb at_22) ?_
    refine g_istore X0 hx (bb at_23) (l' := #[vI p1, vI p2, vI p3, vI p4, vI p5, vI p6, vI 0, vI 1, .unset, .unset, .unset, .unset, .unset, .unset, .unset, .unset]) rfl ?_
    refine g_iloadN X0 hx (bb at_25) rfl ?_
    refine g_iconst X0 hx (bb at_26) ?_
    refine g_iushr X0 hx (bb at_27) ?_
    refine g_iconst X0 hx (bb at_28) ?_
    refine g_iand X0 hx (bb at_29) ?_
    refine g_istore X0 hx (bb at_30) (l' := #[vI p1, vI p2, vI p3, vI p4, vI p5, vI p6, vI 0, vI 1, vI (((p1.toUInt32 >>> ((1 : Int32) &&& 31).toUInt32).toInt32) &&& (3 : Int32)), .unset, .unset, .unset, .unset, .unset, .unset, .unset]) rfl ?_
    refine g_iload X0 hx (bb at_32) rfl ?_
    refine g_iloadN X0 hx (bb at_34) rfl ?_
    refine gcS X0 hx hZ hml hown (ww 0 rfl) (ww 2 rfl) (ww 3 rfl) (ww 1 rfl) e0 (rm_tuple1 l Z a0 ww [] p2 h0 n0 (own_z0 O0) O0 S_CS) pd__ZI__I_6 (bb at_35) 0 rfl (fun T2 L2 v2 X2 hQ2 => ?_)
    obtain ⟨ot2, kt2, rfl, N2q, K2, szz_ot2, f2_0⟩ := hQ2
    have N2 := Fr.app N0 N2q
    have g_ot2 : n0 ≤ ot2 := Nat.le_trans (own_z0 O0) szz_ot2
    have sz_ot2 : h0.size ≤ ot2 := Nat.le_trans (Nat.le_refl _) szz_ot2
    refine g_astore X2 hx (bb at_38) rfl (l' := #[vI p1, vI p2, vI p3, vI p4, vI p5, vI p6, vI 0, vI 1, vI (((p1.toUInt32 >>> ((1 : Int32) &&& 31).toUInt32).toInt32) &&& (3 : Int32)), vR ot2, .unset, .unset, .unset, .unset, .unset, .unset]) rfl ?_
    refine g_iload X2 hx (bb at_40) rfl ?_
    refine g_iloadN X2 hx (bb at_42) rfl ?_
    have O4 := (O0.keep K2 all0)
    refine gcS X2 hx hZ hml hown (ww 0 rfl) (ww 2 rfl) (ww 3 rfl) (ww 1 rfl) rfl (rm_tuple1 l Z a0 ww [] p3 T2.heap n0 (own_z0 O4) O4 S_CS) pd__ZI__I_6 (bb at_43) 0 rfl (fun T3 L3 v3 X3 hQ3 => ?_)
    obtain ⟨ot3, kt3, rfl, N3q, K3, szz_ot3, f3_0⟩ := hQ3
    have N3 := Fr.app N2 N3q
    have g_ot3 : n0 ≤ ot3 := Nat.le_trans (own_z0 O4) szz_ot3
    have sz_ot3 : h0.size ≤ ot3 := Nat.le_trans (Nat.le_trans (Nat.le_refl _) K2.1) szz_ot3
    have ne_ot2_ot3 : ot2 ≠ ot3 := Nat.ne_of_lt (Nat.lt_of_lt_of_le f2_0.lt szz_ot3)
    refine g_astore X3 hx (bb at_46) rfl (l' := #[vI p1, vI p2, vI p3, vI p4, vI p5, vI p6, vI 0, vI 1, vI (((p1.toUInt32 >>> ((1 : Int32) &&& 31).toUInt32).toInt32) &&& (3 : Int32)), vR ot2, vR ot3, .unset, .unset, .unset, .unset, .unset]) rfl ?_
    refine g_iload X3 hx (bb at_48) rfl ?_
    refine g_iloadN X3 hx (bb at_50) rfl ?_
    have O6 := (O4.keep K3 all0)
    refine gcS X3 hx hZ hml hown (ww 0 rfl) (ww 2 rfl) (ww 3 rfl) (ww 1 rfl) rfl (rm_tuple1 l Z a0 ww [] p4 T3.heap n0 (own_z0 O6) O6 S_CS) pd__ZI__I_6 (bb at_51) 0 rfl (fun T5 L5 v5 X5 hQ5 => ?_)
    obtain ⟨ot5, kt5, rfl, N5q, K5, szz_ot5, f5_0⟩ := hQ5
    have N5 := Fr.app N3 N5q
    have g_ot5 : n0 ≤ ot5 := Nat.le_trans (own_z0 O6) szz_ot5
    have sz_ot5 : h0.size ≤ ot5 := Nat.le_trans (Nat.le_trans (Nat.le_trans (Nat.le_refl _) K2.1) K3.1) szz_ot5
    have F7 := (f2_0.keep K3 nin0)
    have ne_ot2_ot5 : ot2 ≠ ot5 := Nat.ne_of_lt (Nat.lt_of_lt_of_le F7.lt szz_ot5)
    have ne_ot3_ot5 : ot3 ≠ ot5 := Nat.ne_of_lt (Nat.lt_of_lt_of_le f3_0.lt szz_ot5)
    refine g_astore X5 hx (bb at_54) rfl (l' := #[vI p1, vI p2, vI p3, vI p4, vI p5, vI p6, vI 0, vI 1, vI (((p1.toUInt32 >>> ((1 : Int32) &&& 31).toUInt32).toInt32) &&& (3 : Int32)), vR ot2, vR ot3, vR ot5, .unset, .unset, .unset, .unset]) rfl ?_
    refine g_iload X5 hx (bb at_56) rfl ?_
    refine g_iload X5 hx (bb at_58) rfl ?_
    have O9 := (O6.keep K5 all0)
    refine gcS X5 hx hZ hml hown (ww 0 rfl) (ww 2 rfl) (ww 3 rfl) (ww 1 rfl) rfl (rm_tuple1 l Z a0 ww [] p5 T5.heap n0 (own_z0 O9) O9 S_CS) pd__ZI__I_6 (bb at_60) 0 rfl (fun T8 L8 v8 X8 hQ8 => ?_)
    obtain ⟨ot8, kt8, rfl, N8q, K8, szz_ot8, f8_0⟩ := hQ8
    have N8 := Fr.app N5 N8q
    have g_ot8 : n0 ≤ ot8 := Nat.le_trans (own_z0 O9) szz_ot8
    have sz_ot8 : h0.size ≤ ot8 := Nat.le_trans (Nat.le_trans (Nat.le_trans (Nat.le_trans (Nat.le_refl _) K2.1) K3.1) K5.1) szz_ot8
    have F10 := (F7.keep K5 nin0)
    have ne_ot2_ot8 : ot2 ≠ ot8 := Nat.ne_of_lt (Nat.lt_of_lt_of_le F10.lt szz_ot8)
    have F11 := (f3_0.keep K5 nin0)
    have ne_ot3_ot8 : ot3 ≠ ot8 := Nat.ne_of_lt (Nat.lt_of_lt_of_le F11.lt szz_ot8)
    have ne_ot5_ot8 : ot5 ≠ ot8 := Nat.ne_of_lt (Nat.lt_of_lt_of_le f5_0.lt szz_ot8)
    refine g_astore X8 hx (bb at_63) rfl (l' := #[vI p1, vI p2, vI p3, vI p4, vI p5, vI p6, vI 0, vI 1, vI (((p1.toUInt32 >>> ((1 : Int32) &&& 31).toUInt32).toInt32) &&& (3 : Int32)), vR ot2, vR ot3, vR ot5, vR ot8, .unset, .unset, .unset]) rfl ?_
    refine g_iload X8 hx (bb at_65) rfl ?_
    refine g_iload X8 hx (bb at_67) rfl ?_
    have O13 := (O9.keep K8 all0)
    refine gcS X8 hx hZ hml hown (ww 0 rfl) (ww 2 rfl) (ww 3 rfl) (ww 1 rfl) rfl (rm_tuple1 l Z a0 ww [] p6 T8.heap n0 (own_z0 O13) O13 S_CS) pd__ZI__I_6 (bb at_69) 0 rfl (fun T12 L12 v12 X12 hQ12 => ?_)
    obtain ⟨ot12, kt12, rfl, N12q, K12, szz_ot12, f12_0⟩ := hQ12
    have N12 := Fr.app N8 N12q
    have g_ot12 : n0 ≤ ot12 := Nat.le_trans (own_z0 O13) szz_ot12
    have sz_ot12 : h0.size ≤ ot12 := Nat.le_trans (Nat.le_trans (Nat.le_trans (Nat.le_trans (Nat.le_trans (Nat.le_refl _) K2.1) K3.1) K5.1) K8.1) szz_ot12
    have F14 := (F10.keep K8 nin0)
    have ne_ot2_ot12 : ot2 ≠ ot12 := Nat.ne_of_lt (Nat.lt_of_lt_of_le F14.lt szz_ot12)
    have F15 := (F11.keep K8 nin0)
    have ne_ot3_ot12 : ot3 ≠ ot12 := Nat.ne_of_lt (Nat.lt_of_lt_of_le F15.lt szz_ot12)
    have F16 := (f5_0.keep K8 nin0)
    have ne_ot5_ot12 : ot5 ≠ ot12 := Nat.ne_of_lt (Nat.lt_of_lt_of_le F16.lt szz_ot12)
    have ne_ot8_ot12 : ot8 ≠ ot12 := Nat.ne_of_lt (Nat.lt_of_lt_of_le f8_0.lt szz_ot12)
    refine g_astore X12 hx (bb at_72) rfl (l' := #[vI p1, vI p2, vI p3, vI p4, vI p5, vI p6, vI 0, vI 1, vI (((p1.toUInt32 >>> ((1 : Int32) &&& 31).toUInt32).toInt32) &&& (3 : Int32)), vR ot2, vR ot3, vR ot5, vR ot8, vR ot12, .unset, .unset]) rfl ?_
    have O18 := (O13.keep K12 all0)
    obtain ⟨T17, h17, X17, e17, E17, A17, D17, -, st17⟩ := newO X12 hx hZ hown (ww 5 rfl) (ww 6 rfl) (ww 7 rfl) rfl (g := (mkF m 74 #[vI p1, vI p2, vI p3, vI p4, vI p5, vI p6, vI 0, vI 1, vI (((p1.toUInt32 >>> ((1 : Int32) &&& 31).toUInt32).toInt32) &&& (3 : Int32)), vR ot2, vR ot3, vR ot5, vR ot8, vR ot12, .unset, .unset] [])) rfl (bb at_74) (by decide) (by decide)
    obtain ⟨b17, q_b17⟩ : ∃ z, z = (T12.heap).size := ⟨_, rfl⟩
    rw [← q_b17] at A17 D17 st17
    have g_b17 : n0 ≤ b17 := Nat.le_trans (own_z0 O18) (Nat.le_of_eq q_b17.symm)
    have sz_b17 : h0.size ≤ b17 := Nat.le_trans (Nat.le_trans (Nat.le_trans (Nat.le_trans (Nat.le_trans (Nat.le_trans (Nat.le_refl _) K2.1) K3.1) K5.1) K8.1) K12.1) (Nat.le_of_eq q_b17.symm)
    have F19 := (F14.keep K12 nin0)
    have ne_ot2_b17 : ot2 ≠ b17 := Nat.ne_of_lt (Nat.lt_of_lt_of_le F19.lt (Nat.le_of_eq q_b17.symm))
    have F20 := (F15.keep K12 nin0)
    have ne_ot3_b17 : ot3 ≠ b17 := Nat.ne_of_lt (Nat.lt_of_lt_of_le F20.lt (Nat.le_of_eq q_b17.symm))
    have F21 := (F16.keep K12 nin0)
    have ne_ot5_b17 : ot5 ≠ b17 := Nat.ne_of_lt (Nat.lt_of_lt_of_le F21.lt (Nat.le_of_eq q_b17.symm))
    have F22 := (f8_0.keep K12 nin0)
    have ne_ot8_b17 : ot8 ≠ b17 := Nat.ne_of_lt (Nat.lt_of_lt_of_le F22.lt (Nat.le_of_eq q_b17.symm))
    have ne_ot12_b17 : ot12 ≠ b17 := Nat.ne_of_lt (Nat.lt_of_lt_of_le f12_0.lt (Nat.le_of_eq q_b17.symm))
    refine gl st17 ?_
    have F_wide_b17 : Fld Z h17 b17 cRV "wide" "[[I" .null := D17 (Or.inl (ww 17 rfl)) (ty := (.array (.array .int))) (by decide)
    have F_narrow_b17 : Fld Z h17 b17 cRV "narrow" "[[C" .null := D17 (Or.inl (ww 21 rfl)) (ty := (.array (.array .char))) (by decide)
    have F_arity_b17 : Fld Z h17 b17 cRV "arity" "I" (.int 0) := D17 (Or.inr (ww 23 rfl)) (ty := .int) (by decide)
    have F_bases_b17 : Fld Z h17 b17 cRV "bases" "[I" .null := D17 (Or.inl (ww 25 rfl)) (ty := (.array .int)) (by decide)
    have F_lowest_b17 : Fld Z h17 b17 cRV "lowest" "[I" .null := D17 (Or.inr (ww 27 rfl)) (ty := (.array .int)) (by decide)
    have F_highest_b17 : Fld Z h17 b17 cRV "highest" "[I" .null := D17 (Or.inr (ww 29 rfl)) (ty := (.array .int)) (by decide)
    have F_rows_b17 : Fld Z h17 b17 cRV "rows" "I" (.int 0) := D17 (Or.inl (ww 38 rfl)) (ty := .int) (by decide)
    refine g_dup X17 hx (bb at_77) rfl ?_
    refine g_iload X17 hx (bb at_78) rfl ?_
    have O24 := (O18.ext E17)
    refine gcI X17 hx hZ hml hown (ww 8 rfl) (ww 7 rfl) (ww 10 rfl) (ww 9 rfl) e17 (rm_rvInit1 l Z a0 ww [] b17 h17 n0 (own_z0 O24) O24 S_CS A17 F_arity_b17 F_rows_b17 F_wide_b17 F_narrow_b17 F_bases_b17 F_lowest_b17 F_highest_b17 g_b17) pd__I_V_4 rfl (bb at_80) 1 rfl (fun T23 L23 v23 X23 hQ23 => ?_)
    obtain ⟨ow23, on23, ob23, ol23, oh23, ov23, kw_23, kn_23, kb_23, kl_23, kh_23, kv_23, rfl, N23q, K23, sz_ow23, sz_on23, sz_ob23, sz_ol23, sz_oh23, sz_ov23, ne_ow23_on23, ne_ow23_ob23, ne_ow23_ol23, ne_ow23_oh23, ne_ow23_ov23, ne_on23_ob23, ne_on23_ol23, ne_on23_oh23, ne_on23_ov23, ne_ob23_ol23, ne_ob23_oh23, ne_ob23_ov23, ne_ol23_oh23, ne_ol23_ov23, ne_oh23_ov23, f23_0, f23_1, f23_2, f23_3, f23_4, f23_5, f23_6, f23_7, f23_8, f23_9, f23_10, f23_11, f23_12, f23_13, f23_14, f23_15⟩ := hQ23
    have N23 := Fr.app N12 N23q
    have szz_ow23 := sz_ow23
    have g_ow23 : n0 ≤ ow23 := Nat.le_trans (own_z0 O24) szz_ow23
    have sz_ow23 : h0.size ≤ ow23 := Nat.le_trans (Nat.le_trans (Nat.le_trans (Nat.le_trans (Nat.le_trans (Nat.le_trans (Nat.le_trans (Nat.le_refl _) K2.1) K3.1) K5.1) K8.1) K12.1) E17.1) szz_ow23
    have F25 := (F19.ext E17)
    have ne_ot2_ow23 : ot2 ≠ ow23 := Nat.ne_of_lt (Nat.lt_of_lt_of_le F25.lt szz_ow23)
    have F26 := (F20.ext E17)
    have ne_ot3_ow23 : ot3 ≠ ow23 := Nat.ne_of_lt (Nat.lt_of_lt_of_le F26.lt szz_ow23)
    have F27 := (F21.ext E17)
    have ne_ot5_ow23 : ot5 ≠ ow23 := Nat.ne_of_lt (Nat.lt_of_lt_of_le F27.lt szz_ow23)
    have F28 := (F22.ext E17)
    have ne_ot8_ow23 : ot8 ≠ ow23 := Nat.ne_of_lt (Nat.lt_of_lt_of_le F28.lt szz_ow23)
    have F29 := (f12_0.ext E17)
    have ne_ot12_ow23 : ot12 ≠ ow23 := Nat.ne_of_lt (Nat.lt_of_lt_of_le F29.lt szz_ow23)
    have ne_b17_ow23 : b17 ≠ ow23 := Nat.ne_of_lt (Nat.lt_of_lt_of_le A17.lt szz_ow23)
    have szz_on23 := sz_on23
    have g_on23 : n0 ≤ on23 := Nat.le_trans (own_z0 O24) szz_on23
    have sz_on23 : h0.size ≤ on23 := Nat.le_trans (Nat.le_trans (Nat.le_trans (Nat.le_trans (Nat.le_trans (Nat.le_trans (Nat.le_trans (Nat.le_refl _) K2.1) K3.1) K5.1) K8.1) K12.1) E17.1) szz_on23
    have ne_ot2_on23 : ot2 ≠ on23 := Nat.ne_of_lt (Nat.lt_of_lt_of_le F25.lt szz_on23)
    have ne_ot3_on23 : ot3 ≠ on23 := Nat.ne_of_lt (Nat.lt_of_lt_of_le F26.lt szz_on23)
    have ne_ot5_on23 : ot5 ≠ on23 := Nat.ne_of_lt (Nat.lt_of_lt_of_le F27.lt szz_on23)
    have ne_ot8_on23 : ot8 ≠ on23 := Nat.ne_of_lt (Nat.lt_of_lt_of_le F28.lt szz_on23)
    have ne_ot12_on23 : ot12 ≠ on23 := Nat.ne_of_lt (Nat.lt_of_lt_of_le F29.lt szz_on23)
    have ne_b17_on23 : b17 ≠ on23 := Nat.ne_of_lt (Nat.lt_of_lt_of_le A17.lt szz_on23)
    have szz_ob23 := sz_ob23
    have g_ob23 : n0 ≤ ob23 := Nat.le_trans (own_z0 O24) szz_ob23
    have sz_ob23 : h0.size ≤ ob23 := Nat.le_trans (Nat.le_trans (Nat.le_trans (Nat.le_trans (Nat.le_trans (Nat.le_trans (Nat.le_trans (Nat.le_refl _) K2.1) K3.1) K5.1) K8.1) K12.1) E17.1) szz_ob23
    have ne_ot2_ob23 : ot2 ≠ ob23 := Nat.ne_of_lt (Nat.lt_of_lt_of_le F25.lt szz_ob23)
    have ne_ot3_ob23 : ot3 ≠ ob23 := Nat.ne_of_lt (Nat.lt_of_lt_of_le F26.lt szz_ob23)
    have ne_ot5_ob23 : ot5 ≠ ob23 := Nat.ne_of_lt (Nat.lt_of_lt_of_le F27.lt szz_ob23)
    have ne_ot8_ob23 : ot8 ≠ ob23 := Nat.ne_of_lt (Nat.lt_of_lt_of_le F28.lt szz_ob23)
    have ne_ot12_ob23 : ot12 ≠ ob23 := Nat.ne_of_lt (Nat.lt_of_lt_of_le F29.lt szz_ob23)
    have ne_b17_ob23 : b17 ≠ ob23 := Nat.ne_of_lt (Nat.lt_of_lt_of_le A17.lt szz_ob23)
    have szz_ol23 := sz_ol23
    have g_ol23 : n0 ≤ ol23 := Nat.le_trans (own_z0 O24) szz_ol23
    have sz_ol23 : h0.size ≤ ol23 := Nat.le_trans (Nat.le_trans (Nat.le_trans (Nat.le_trans (Nat.le_trans (Nat.le_trans (Nat.le_trans (Nat.le_refl _) K2.1) K3.1) K5.1) K8.1) K12.1) E17.1) szz_ol23
    have ne_ot2_ol23 : ot2 ≠ ol23 := Nat.ne_of_lt (Nat.lt_of_lt_of_le F25.lt szz_ol23)
    have ne_ot3_ol23 : ot3 ≠ ol23 := Nat.ne_of_lt (Nat.lt_of_lt_of_le F26.lt szz_ol23)
    have ne_ot5_ol23 : ot5 ≠ ol23 := Nat.ne_of_lt (Nat.lt_of_lt_of_le F27.lt szz_ol23)
    have ne_ot8_ol23 : ot8 ≠ ol23 := Nat.ne_of_lt (Nat.lt_of_lt_of_le F28.lt szz_ol23)
    have ne_ot12_ol23 : ot12 ≠ ol23 := Nat.ne_of_lt (Nat.lt_of_lt_of_le F29.lt szz_ol23)
    have ne_b17_ol23 : b17 ≠ ol23 := Nat.ne_of_lt (Nat.lt_of_lt_of_le A17.lt szz_ol23)
    have szz_oh23 := sz_oh23
    have g_oh23 : n0 ≤ oh23 := Nat.le_trans (own_z0 O24) szz_oh23
    have sz_oh23 : h0.size ≤ oh23 := Nat.le_trans (Nat.le_trans (Nat.le_trans (Nat.le_trans (Nat.le_trans (Nat.le_trans (Nat.le_trans (Nat.le_refl _) K2.1) K3.1) K5.1) K8.1) K12.1) E17.1) szz_oh23
    have ne_ot2_oh23 : ot2 ≠ oh23 := Nat.ne_of_lt (Nat.lt_of_lt_of_le F25.lt szz_oh23)
    have ne_ot3_oh23 : ot3 ≠ oh23 := Nat.ne_of_lt (Nat.lt_of_lt_of_le F26.lt szz_oh23)
    have ne_ot5_oh23 : ot5 ≠ oh23 := Nat.ne_of_lt (Nat.lt_of_lt_of_le F27.lt szz_oh23)
    have ne_ot8_oh23 : ot8 ≠ oh23 := Nat.ne_of_lt (Nat.lt_of_lt_of_le F28.lt szz_oh23)
    have ne_ot12_oh23 : ot12 ≠ oh23 := Nat.ne_of_lt (Nat.lt_of_lt_of_le F29.lt szz_oh23)
    have ne_b17_oh23 : b17 ≠ oh23 := Nat.ne_of_lt (Nat.lt_of_lt_of_le A17.lt szz_oh23)
    have szz_ov23 := sz_ov23
    have g_ov23 : n0 ≤ ov23 := Nat.le_trans (own_z0 O24) szz_ov23
    have sz_ov23 : h0.size ≤ ov23 := Nat.le_trans (Nat.le_trans (Nat.le_trans (Nat.le_trans (Nat.le_trans (Nat.le_trans (Nat.le_trans (Nat.le_refl _) K2.1) K3.1) K5.1) K8.1) K12.1) E17.1) szz_ov23
    have ne_ot2_ov23 : ot2 ≠ ov23 := Nat.ne_of_lt (Nat.lt_of_lt_of_le F25.lt szz_ov23)
    have ne_ot3_ov23 : ot3 ≠ ov23 := Nat.ne_of_lt (Nat.lt_of_lt_of_le F26.lt szz_ov23)
    have ne_ot5_ov23 : ot5 ≠ ov23 := Nat.ne_of_lt (Nat.lt_of_lt_of_le F27.lt szz_ov23)
    have ne_ot8_ov23 : ot8 ≠ ov23 := Nat.ne_of_lt (Nat.lt_of_lt_of_le F28.lt szz_ov23)
    have ne_ot12_ov23 : ot12 ≠ ov23 := Nat.ne_of_lt (Nat.lt_of_lt_of_le F29.lt szz_ov23)
    have ne_b17_ov23 : b17 ≠ ov23 := Nat.ne_of_lt (Nat.lt_of_lt_of_le A17.lt szz_ov23)
    refine g_astore X23 hx (bb at_83) rfl (l' := #[vI p1, vI p2, vI p3, vI p4, vI p5, vI p6, vI 0, vI 1, vI (((p1.toUInt32 >>> ((1 : Int32) &&& 31).toUInt32).toInt32) &&& (3 : Int32)), vR ot2, vR ot3, vR ot5, vR ot8, vR ot12, vR b17, .unset]) rfl ?_
    suffices hm30 : ∀ (T' : State) (L' : List Loc) (h' : Heap) (ov_30 : Addr) (kv_30 : ClassId) (mb0_30 ml0_30 mu0_30 mx0_30 mx1_30 mx2_30 mx3_30 mx4_30 mx5_30 mx6_30 mx7_30 : Int32), Stand p l e room_1 s m #[(.int p1), (.int p2), (.int p3), (.int p4), (.int p5), (.int p6)] below meth c T' L' 14 41 → T'.heap = h' → Fr n0 L' → Old Z n0 h' → h0.size ≤ h'.size → n0 ≤ ov_30 → b17 ≠ ov_30 → ow23 ≠ ov_30 → on23 ≠ ov_30 → ob23 ≠ ov_30 → ol23 ≠ ov_30 → oh23 ≠ ov_30 → ot8 ≠ ov_30 → ot12 ≠ ov_30 → Exa Z h' b17 cRV → Fld Z h' b17 cRV "arity" "I" (.int 1) → Fld Z h' b17 cRV "rows" "I" (.int 0) → Fld Z h' b17 cRV "wide" "[[I" (.ref ow23) → Fld Z h' b17 cRV "narrow" "[[C" (.ref on23) → Fld Z h' b17 cRV "bases" "[I" (.ref ob23) → Fld Z h' b17 cRV "lowest" "[I" (.ref ol23) → Fld Z h' b17 cRV "highest" "[I" (.ref oh23) → Arv Z h' ow23 kw_23 (.array .int) (1 : Int32) [.null] .null → Arv Z h' on23 kn_23 (.array .char) (1 : Int32) [(.ref ov_30)] .null → Arv Z h' ob23 kb_23 .int (1 : Int32) [(.int mb0_30)] (.int 0) → Arv Z h' ol23 kl_23 .int (1 : Int32) [(.int ml0_30)] (.int 0) → Arv Z h' oh23 kh_23 .int (1 : Int32) [(.int mu0_30)] (.int 0) → Arv Z h' ov_30 kv_30 .char (8 : Int32) [(.int mx0_30), (.int mx1_30), (.int mx2_30), (.int mx3_30), (.int mx4_30), (.int mx5_30), (.int mx6_30), (.int mx7_30)] (.int 0) → Arv Z h' ot8 kt8 .int (1 : Int32) [(.int p5)] (.int 0) → Arv Z h' ot12 kt12 .int (1 : Int32) [(.int p6)] (.int 0) → Gl p e below R0 T' (mkF m 129 #[vI p1, vI p2, vI p3, vI p4, vI p5, vI p6, vI 0, vI 1, vI (((p1.toUInt32 >>> ((1 : Int32) &&& 31).toUInt32).toInt32) &&& (3 : Int32)), vR ot2, vR ot3, vR ot5, vR ot8, vR ot12, vR b17, .unset] []) by
      refine g_iload X23 hx (bb at_85) rfl ?_
      refine g_iconst X23 hx (bb at_87) ?_
      by_cases g31 : (((p1.toUInt32 >>> ((1 : Int32) &&& 31).toUInt32).toInt32) &&& (3 : Int32)) < (1 : Int32)
      · skip
        refine g_icmpYes X23 hx (pc' := 98) (bb at_88) (tlt g31).1 (by decide) (by decide) ?_
        refine g_iload X23 hx (bb at_98) rfl ?_
        refine g_iconst X23 hx (bb at_100) ?_
        refine g_icmpYes X23 hx (pc' := 111) (bb at_101) (tlt (own_l12 g31)).1 (by decide) (by decide) ?_
        refine g_iload X23 hx (bb at_111) rfl ?_
        refine g_iconst X23 hx (bb at_113) ?_
        refine g_icmpYes X23 hx (pc' := 124) (bb at_114) (tlt (own_l23 (own_l12 g31))).1 (by decide) (by decide) ?_
        refine g_aload X23 hx (bb at_124) rfl rfl ?_
        have O33 := (O24.keep K23 (allS g_b17 all0))
        refine gcV X23 hx hZ hml hown (ww 32 rfl) (ww 7 rfl) (ww 36 rfl) (ww 33 rfl) (ww 35 rfl) (ww 34 rfl) rfl f23_0 (rm_clear1N l Z a0 ww [] b17 ow23 on23 ob23 ol23 oh23 ov23 kw_23 kn_23 (0 : Int32) T23.heap n0 (own_z0 O33) O33 S_CS f23_0 f23_1 f23_2 f23_3 f23_4 f23_5 f23_6 f23_7 f23_8 f23_10 g_b17 ne_b17_ow23 ne_b17_on23) pd___V_3 (bb at_126) 0 rfl (fun T32 L32 v32 X32 hQ32 => ?_)
        obtain ⟨rfl, N32q, K32, f32_0, f32_1, f32_2, f32_3, f32_4, f32_5, f32_6⟩ := hQ32
        have N32 := Fr.app N23 N32q
        have O34 := (O33.keep K32 (allS g_b17 all0))
        have F35 := (f23_0.keep K32)
        have F36 := (f23_8.keep K32 (ninS (Ne.symm ne_b17_ow23) nin0))
        have F37 := (f23_10.keep K32 (ninS (Ne.symm ne_b17_on23) nin0))
        have F38 := (f23_12.keep K32 (ninS (Ne.symm ne_b17_ob23) nin0))
        have F39 := (f23_13.keep K32 (ninS (Ne.symm ne_b17_ol23) nin0))
        have F40 := (f23_14.keep K32 (ninS (Ne.symm ne_b17_oh23) nin0))
        have F41 := (f23_15.keep K32 (ninS (Ne.symm ne_b17_ov23) nin0))
        have F42 := ((F28.keep K23 (ninS ne_ot8_b17 nin0)).keep K32 (ninS ne_ot8_b17 nin0))
        have F43 := ((F29.keep K23 (ninS ne_ot12_b17 nin0)).keep K32 (ninS ne_ot12_b17 nin0))
        exact hm30 _ _ _ ov23 kv_23 (0 : Int32) (0 : Int32) (0 : Int32) (0 : Int32) (0 : Int32) (0 : Int32) (0 : Int32) (0 : Int32) (0 : Int32) (0 : Int32) (0 : Int32) (own_more X32 (by decide) (by decide)) rfl N32 O34 (Nat.le_trans (Nat.le_trans (Nat.le_trans (Nat.le_trans (Nat.le_trans (Nat.le_trans (Nat.le_trans (Nat.le_trans (Nat.le_refl _) K2.1) K3.1) K5.1) K8.1) K12.1) E17.1) K23.1) K32.1) g_ov23 ne_b17_ov23 ne_ow23_ov23 ne_on23_ov23 ne_ob23_ov23 ne_ol23_ov23 ne_oh23_ov23 ne_ot8_ov23 ne_ot12_ov23 F35 f32_0 f32_1 f32_2 f32_3 f32_4 f32_5 f32_6 F36 F37 F38 F39 F40 F41 F42 F43
      · skip
        refine g_icmpNo X23 hx (bb at_88) (flt g31).1 ?_
        refine g_aload X23 hx (bb at_91) rfl rfl ?_
        refine g_aload X23 hx (bb at_93) rfl rfl ?_
        have F45 := (F25.keep K23 (ninS ne_ot2_b17 nin0))
        have O46 := (O24.keep K23 (allS g_b17 all0))
        refine gcV X23 hx hZ hml hown (ww 39 rfl) (ww 7 rfl) (ww 43 rfl) (ww 40 rfl) (ww 42 rfl) (ww 41 rfl) rfl f23_0 (rm_add1N0 l Z a0 ww [] b17 ot2 ow23 on23 ob23 ol23 oh23 ov23 kw_23 kn_23 kb_23 kl_23 kh_23 kv_23 (0 : Int32) (0 : Int32) (0 : Int32) (0 : Int32) (0 : Int32) (0 : Int32) (0 : Int32) (0 : Int32) (0 : Int32) (0 : Int32) (0 : Int32) kt2 p2 T23.heap n0 (own_z0 O46) O46 S_CS f23_0 f23_1 f23_2 f23_3 f23_4 f23_5 f23_6 f23_7 f23_8 f23_9 f23_10 f23_11 f23_12 f23_13 f23_14 f23_15 F45 g_b17 g_ob23 g_ol23 g_oh23 g_ov23 ne_b17_ow23 ne_b17_on23 ne_b17_ob23 ne_b17_ol23 ne_b17_oh23 ne_b17_ov23 ne_ow23_on23 ne_ow23_ob23 ne_ow23_ol23 ne_ow23_oh23 ne_ow23_ov23 ne_on23_ob23 ne_on23_ol23 ne_on23_oh23 ne_on23_ov23 ne_ob23_ol23 ne_ob23_oh23 ne_ob23_ov23 ne_ol23_oh23 ne_ol23_ov23 ne_oh23_ov23 ne_ot2_b17 ne_ot2_ow23 ne_ot2_on23 ne_ot2_ob23 ne_ot2_ol23 ne_ot2_oh23 ne_ot2_ov23) pd___I_V_5 (bb at_95) 0 rfl (fun T44 L44 v44 X44 hQ44 => ?_)
        obtain ⟨rfl, N44q, K44, f44_0, f44_1, f44_2, f44_3, f44_4, f44_5, f44_6, f44_7, f44_8, f44_9, f44_10, f44_11, f44_12, f44_13, f44_14, f44_15⟩ := hQ44
        have N44 := Fr.app N23 N44q
        refine g_iload X44 hx (bb at_98) rfl ?_
        refine g_iconst X44 hx (bb at_100) ?_
        by_cases g47 : (((p1.toUInt32 >>> ((1 : Int32) &&& 31).toUInt32).toInt32) &&& (3 : Int32)) < (2 : Int32)
        · skip
          refine g_icmpYes X44 hx (pc' := 111) (bb at_101) (tlt g47).1 (by decide) (by decide) ?_
          refine g_iload X44 hx (bb at_111) rfl ?_
          refine g_iconst X44 hx (bb at_113) ?_
          refine g_icmpYes X44 hx (pc' := 124) (bb at_114) (tlt (own_l23 g47)).1 (by decide) (by decide) ?_
          refine g_aload X44 hx (bb at_124) rfl rfl ?_
          have O49 := (O46.keep K44 (allS g_b17 (allS g_ob23 (allS g_ol23 (allS g_oh23 (allS g_ov23 all0))))))
          refine gcV X44 hx hZ hml hown (ww 32 rfl) (ww 7 rfl) (ww 36 rfl) (ww 33 rfl) (ww 35 rfl) (ww 34 rfl) rfl f44_0 (rm_clear1N l Z a0 ww [] b17 ow23 on23 ob23 ol23 oh23 ov23 kw_23 kn_23 (1 : Int32) T44.heap n0 (own_z0 O49) O49 S_CS f44_0 f44_1 f44_2 f44_3 f44_4 f44_5 f44_6 f44_7 f44_8 f44_10 g_b17 ne_b17_ow23 ne_b17_on23) pd___V_3 (bb at_126) 0 rfl (fun T48 L48 v48 X48 hQ48 => ?_)
          obtain ⟨rfl, N48q, K48, f48_0, f48_1, f48_2, f48_3, f48_4, f48_5, f48_6⟩ := hQ48
          have N48 := Fr.app N44 N48q
          have O50 := (O49.keep K48 (allS g_b17 all0))
          have F51 := (f44_0.keep K48)
          have F52 := (f44_8.keep K48 (ninS (Ne.symm ne_b17_ow23) nin0))
          have F53 := (f44_10.keep K48 (ninS (Ne.symm ne_b17_on23) nin0))
          have F54 := (f44_12.keep K48 (ninS (Ne.symm ne_b17_ob23) nin0))
          have F55 := (f44_13.keep K48 (ninS (Ne.symm ne_b17_ol23) nin0))
          have F56 := (f44_14.keep K48 (ninS (Ne.symm ne_b17_oh23) nin0))
          have F57 := (f44_15.keep K48 (ninS (Ne.symm ne_b17_ov23) nin0))
          have F58 := (((F28.keep K23 (ninS ne_ot8_b17 nin0)).keep K44 (ninS ne_ot8_b17 (ninS ne_ot8_ob23 (ninS ne_ot8_ol23 (ninS ne_ot8_oh23 (ninS ne_ot8_ov23 nin0)))))).keep K48 (ninS ne_ot8_b17 nin0))
          have F59 := (((F29.keep K23 (ninS ne_ot12_b17 nin0)).keep K44 (ninS ne_ot12_b17 (ninS ne_ot12_ob23 (ninS ne_ot12_ol23 (ninS ne_ot12_oh23 (ninS ne_ot12_ov23 nin0)))))).keep K48 (ninS ne_ot12_b17 nin0))
          exact hm30 _ _ _ ov23 kv_23 (f_base p2 p2) p2 p2 (nar .char (p2 - (f_base p2 p2))) (0 : Int32) (0 : Int32) (0 : Int32) (0 : Int32) (0 : Int32) (0 : Int32) (0 : Int32) (own_more X48 (by decide) (by decide)) rfl N48 O50 (Nat.le_trans (Nat.le_trans (Nat.le_trans (Nat.le_trans (Nat.le_trans (Nat.le_trans (Nat.le_trans (Nat.le_trans (Nat.le_trans (Nat.le_refl _) K2.1) K3.1) K5.1) K8.1) K12.1) E17.1) K23.1) K44.1) K48.1) g_ov23 ne_b17_ov23 ne_ow23_ov23 ne_on23_ov23 ne_ob23_ov23 ne_ol23_ov23 ne_oh23_ov23 ne_ot8_ov23 ne_ot12_ov23 F51 f48_0 f48_1 f48_2 f48_3 f48_4 f48_5 f48_6 F52 F53 F54 F55 F56 F57 F58 F59
        · skip
          refine g_icmpNo X44 hx (bb at_101) (flt g47).1 ?_
          refine g_aload X44 hx (bb at_104) rfl rfl ?_
          refine g_aload X44 hx (bb at_106) rfl rfl ?_
          by_cases g60 : (lcmpW (((f_maxI p3 p2).toInt64) - ((f_minI p3 p2).toInt64)) (65536 : Int64)) < (0 : Int32)
          · skip
            have F62 := ((F26.keep K23 (ninS ne_ot3_b17 nin0)).keep K44 (ninS ne_ot3_b17 (ninS ne_ot3_ob23 (ninS ne_ot3_ol23 (ninS ne_ot3_oh23 (ninS ne_ot3_ov23 nin0))))))
            have O63 := (O46.keep K44 (allS g_b17 (allS g_ob23 (allS g_ol23 (allS g_oh23 (allS g_ov23 all0))))))
            refine gcV X44 hx hZ hml hown (ww 39 rfl) (ww 7 rfl) (ww 43 rfl) (ww 40 rfl) (ww 42 rfl) (ww 41 rfl) rfl f44_0 (rm_add1N1 l Z a0 ww [] b17 ot3 ow23 on23 ob23 ol23 oh23 ov23 kw_23 kn_23 kb_23 kl_23 kh_23 kv_23 (f_base p2 p2) p2 p2 p2 (0 : Int32) (0 : Int32) (0 : Int32) (0 : Int32) (0 : Int32) (0 : Int32) (0 : Int32) kt3 p3 T44.heap n0 (own_z0 O63) O63 S_CS f44_0 f44_1 f44_2 f44_3 f44_4 f44_5 f44_6 f44_7 f44_8 f44_9 f44_10 f44_11 f44_12 f44_13 f44_14 f44_15 F62 g_b17 g_ob23 g_ol23 g_oh23 g_ov23 ne_b17_ow23 ne_b17_on23 ne_b17_ob23 ne_b17_ol23 ne_b17_oh23 ne_b17_ov23 ne_ow23_on23 ne_ow23_ob23 ne_ow23_ol23 ne_ow23_oh23 ne_ow23_ov23 ne_on23_ob23 ne_on23_ol23 ne_on23_oh23 ne_on23_ov23 ne_ob23_ol23 ne_ob23_oh23 ne_ob23_ov23 ne_ol23_oh23 ne_ol23_ov23 ne_oh23_ov23 ne_ot3_b17 ne_ot3_ow23 ne_ot3_on23 ne_ot3_ob23 ne_ot3_ol23 ne_ot3_oh23 ne_ot3_ov23 g60) pd___I_V_5 (bb at_108) 0 rfl (fun T61 L61 v61 X61 hQ61 => ?_)
            obtain ⟨rfl, N61q, K61, f61_0, f61_1, f61_2, f61_3, f61_4, f61_5, f61_6, f61_7, f61_8, f61_9, f61_10, f61_11, f61_12, f61_13, f61_14, f61_15⟩ := hQ61
            have N61 := Fr.app N44 N61q
            refine g_iload X61 hx (bb at_111) rfl ?_
            refine g_iconst X61 hx (bb at_113) ?_
            by_cases g64 : (((p1.toUInt32 >>> ((1 : Int32) &&& 31).toUInt32).toInt32) &&& (3 : Int32)) < (3 : Int32)
            · skip
              refine g_icmpYes X61 hx (pc' := 124) (bb at_114) (tlt g64).1 (by decide) (by decide) ?_
              refine g_aload X61 hx (bb at_124) rfl rfl ?_
              have O66 := (O63.keep K61 (allS g_b17 (allS g_ob23 (allS g_ol23 (allS g_oh23 (allS g_ov23 all0))))))
              refine gcV X61 hx hZ hml hown (ww 32 rfl) (ww 7 rfl) (ww 36 rfl) (ww 33 rfl) (ww 35 rfl) (ww 34 rfl) rfl f61_0 (rm_clear1N l Z a0 ww [] b17 ow23 on23 ob23 ol23 oh23 ov23 kw_23 kn_23 (2 : Int32) T61.heap n0 (own_z0 O66) O66 S_CS f61_0 f61_1 f61_2 f61_3 f61_4 f61_5 f61_6 f61_7 f61_8 f61_10 g_b17 ne_b17_ow23 ne_b17_on23) pd___V_3 (bb at_126) 0 rfl (fun T65 L65 v65 X65 hQ65 => ?_)
              obtain ⟨rfl, N65q, K65, f65_0, f65_1, f65_2, f65_3, f65_4, f65_5, f65_6⟩ := hQ65
              have N65 := Fr.app N61 N65q
              have O67 := (O66.keep K65 (allS g_b17 all0))
              have F68 := (f61_0.keep K65)
              have F69 := (f61_8.keep K65 (ninS (Ne.symm ne_b17_ow23) nin0))
              have F70 := (f61_10.keep K65 (ninS (Ne.symm ne_b17_on23) nin0))
              have F71 := (f61_12.keep K65 (ninS (Ne.symm ne_b17_ob23) nin0))
              have F72 := (f61_13.keep K65 (ninS (Ne.symm ne_b17_ol23) nin0))
              have F73 := (f61_14.keep K65 (ninS (Ne.symm ne_b17_oh23) nin0))
              have F74 := (f61_15.keep K65 (ninS (Ne.symm ne_b17_ov23) nin0))
              have F75 := ((((F28.keep K23 (ninS ne_ot8_b17 nin0)).keep K44 (ninS ne_ot8_b17 (ninS ne_ot8_ob23 (ninS ne_ot8_ol23 (ninS ne_ot8_oh23 (ninS ne_ot8_ov23 nin0)))))).keep K61 (ninS ne_ot8_b17 (ninS ne_ot8_ob23 (ninS ne_ot8_ol23 (ninS ne_ot8_oh23 (ninS ne_ot8_ov23 nin0)))))).keep K65 (ninS ne_ot8_b17 nin0))
              have F76 := ((((F29.keep K23 (ninS ne_ot12_b17 nin0)).keep K44 (ninS ne_ot12_b17 (ninS ne_ot12_ob23 (ninS ne_ot12_ol23 (ninS ne_ot12_oh23 (ninS ne_ot12_ov23 nin0)))))).keep K61 (ninS ne_ot12_b17 (ninS ne_ot12_ob23 (ninS ne_ot12_ol23 (ninS ne_ot12_oh23 (ninS ne_ot12_ov23 nin0)))))).keep K65 (ninS ne_ot12_b17 nin0))
              exact hm30 _ _ _ ov23 kv_23 (nbase (f_base p2 p2) p2 p2 p3) (f_minI p3 p2) (f_maxI p3 p2) (nar .char (p2 - (nbase (f_base p2 p2) p2 p2 p3))) (nar .char (p3 - (nbase (f_base p2 p2) p2 p2 p3))) (0 : Int32) (0 : Int32) (0 : Int32) (0 : Int32) (0 : Int32) (0 : Int32) (own_more X65 (by decide) (by decide)) rfl N65 O67 (Nat.le_trans (Nat.le_trans (Nat.le_trans (Nat.le_trans (Nat.le_trans (Nat.le_trans (Nat.le_trans (Nat.le_trans (Nat.le_trans (Nat.le_trans (Nat.le_refl _) K2.1) K3.1) K5.1) K8.1) K12.1) E17.1) K23.1) K44.1) K61.1) K65.1) g_ov23 ne_b17_ov23 ne_ow23_ov23 ne_on23_ov23 ne_ob23_ov23 ne_ol23_ov23 ne_oh23_ov23 ne_ot8_ov23 ne_ot12_ov23 F68 f65_0 f65_1 f65_2 f65_3 f65_4 f65_5 f65_6 F69 F70 F71 F72 F73 F74 F75 F76
            · skip
              refine g_icmpNo X61 hx (bb at_114) (flt g64).1 ?_
              refine g_aload X61 hx (bb at_117) rfl rfl ?_
              refine g_aload X61 hx (bb at_119) rfl rfl ?_
              by_cases g77 : (lcmpW (((f_maxI p4 (f_maxI p3 p2)).toInt64) - ((f_minI p4 (f_minI p3 p2)).toInt64)) (65536 : Int64)) < (0 : Int32)
              · skip
                have F79 := (((F27.keep K23 (ninS ne_ot5_b17 nin0)).keep K44 (ninS ne_ot5_b17 (ninS ne_ot5_ob23 (ninS ne_ot5_ol23 (ninS ne_ot5_oh23 (ninS ne_ot5_ov23 nin0)))))).keep K61 (ninS ne_ot5_b17 (ninS ne_ot5_ob23 (ninS ne_ot5_ol23 (ninS ne_ot5_oh23 (ninS ne_ot5_ov23 nin0))))))
                have O80 := (O63.keep K61 (allS g_b17 (allS g_ob23 (allS g_ol23 (allS g_oh23 (allS g_ov23 all0))))))
                refine gcV X61 hx hZ hml hown (ww 39 rfl) (ww 7 rfl) (ww 43 rfl) (ww 40 rfl) (ww 42 rfl) (ww 41 rfl) rfl f61_0 (rm_add1N2 l Z a0 ww [] b17 ot5 ow23 on23 ob23 ol23 oh23 ov23 kw_23 kn_23 kb_23 kl_23 kh_23 kv_23 (nbase (f_base p2 p2) p2 p2 p3) (f_minI p3 p2) (f_maxI p3 p2) p2 p3 (0 : Int32) (0 : Int32) (0 : Int32) (0 : Int32) (0 : Int32) (0 : Int32) kt5 p4 T61.heap n0 (own_z0 O80) O80 S_CS f61_0 f61_1 f61_2 f61_3 f61_4 f61_5 f61_6 f61_7 f61_8 f61_9 f61_10 f61_11 f61_12 f61_13 f61_14 f61_15 F79 g_b17 g_ob23 g_ol23 g_oh23 g_ov23 ne_b17_ow23 ne_b17_on23 ne_b17_ob23 ne_b17_ol23 ne_b17_oh23 ne_b17_ov23 ne_ow23_on23 ne_ow23_ob23 ne_ow23_ol23 ne_ow23_oh23 ne_ow23_ov23 ne_on23_ob23 ne_on23_ol23 ne_on23_oh23 ne_on23_ov23 ne_ob23_ol23 ne_ob23_oh23 ne_ob23_ov23 ne_ol23_oh23 ne_ol23_ov23 ne_oh23_ov23 ne_ot5_b17 ne_ot5_ow23 ne_ot5_on23 ne_ot5_ob23 ne_ot5_ol23 ne_ot5_oh23 ne_ot5_ov23 g77) pd___I_V_5 (bb at_121) 0 rfl (fun T78 L78 v78 X78 hQ78 => ?_)
                obtain ⟨rfl, N78q, K78, f78_0, f78_1, f78_2, f78_3, f78_4, f78_5, f78_6, f78_7, f78_8, f78_9, f78_10, f78_11, f78_12, f78_13, f78_14, f78_15⟩ := hQ78
                have N78 := Fr.app N61 N78q
                refine g_aload X78 hx (bb at_124) rfl rfl ?_
                have O82 := (O80.keep K78 (allS g_b17 (allS g_ob23 (allS g_ol23 (allS g_oh23 (allS g_ov23 all0))))))
                refine gcV X78 hx hZ hml hown (ww 32 rfl) (ww 7 rfl) (ww 36 rfl) (ww 33 rfl) (ww 35 rfl) (ww 34 rfl) rfl f78_0 (rm_clear1N l Z a0 ww [] b17 ow23 on23 ob23 ol23 oh23 ov23 kw_23 kn_23 (3 : Int32) T78.heap n0 (own_z0 O82) O82 S_CS f78_0 f78_1 f78_2 f78_3 f78_4 f78_5 f78_6 f78_7 f78_8 f78_10 g_b17 ne_b17_ow23 ne_b17_on23) pd___V_3 (bb at_126) 0 rfl (fun T81 L81 v81 X81 hQ81 => ?_)
                obtain ⟨rfl, N81q, K81, f81_0, f81_1, f81_2, f81_3, f81_4, f81_5, f81_6⟩ := hQ81
                have N81 := Fr.app N78 N81q
                have O83 := (O82.keep K81 (allS g_b17 all0))
                have F84 := (f78_0.keep K81)
                have F85 := (f78_8.keep K81 (ninS (Ne.symm ne_b17_ow23) nin0))
                have F86 := (f78_10.keep K81 (ninS (Ne.symm ne_b17_on23) nin0))
                have F87 := (f78_12.keep K81 (ninS (Ne.symm ne_b17_ob23) nin0))
                have F88 := (f78_13.keep K81 (ninS (Ne.symm ne_b17_ol23) nin0))
                have F89 := (f78_14.keep K81 (ninS (Ne.symm ne_b17_oh23) nin0))
                have F90 := (f78_15.keep K81 (ninS (Ne.symm ne_b17_ov23) nin0))
                have F91 := (((((F28.keep K23 (ninS ne_ot8_b17 nin0)).keep K44 (ninS ne_ot8_b17 (ninS ne_ot8_ob23 (ninS ne_ot8_ol23 (ninS ne_ot8_oh23 (ninS ne_ot8_ov23 nin0)))))).keep K61 (ninS ne_ot8_b17 (ninS ne_ot8_ob23 (ninS ne_ot8_ol23 (ninS ne_ot8_oh23 (ninS ne_ot8_ov23 nin0)))))).keep K78 (ninS ne_ot8_b17 (ninS ne_ot8_ob23 (ninS ne_ot8_ol23 (ninS ne_ot8_oh23 (ninS ne_ot8_ov23 nin0)))))).keep K81 (ninS ne_ot8_b17 nin0))
                have F92 := (((((F29.keep K23 (ninS ne_ot12_b17 nin0)).keep K44 (ninS ne_ot12_b17 (ninS ne_ot12_ob23 (ninS ne_ot12_ol23 (ninS ne_ot12_oh23 (ninS ne_ot12_ov23 nin0)))))).keep K61 (ninS ne_ot12_b17 (ninS ne_ot12_ob23 (ninS ne_ot12_ol23 (ninS ne_ot12_oh23 (ninS ne_ot12_ov23 nin0)))))).keep K78 (ninS ne_ot12_b17 (ninS ne_ot12_ob23 (ninS ne_ot12_ol23 (ninS ne_ot12_oh23 (ninS ne_ot12_ov23 nin0)))))).keep K81 (ninS ne_ot12_b17 nin0))
                exact hm30 _ _ _ ov23 kv_23 (nbase (nbase (f_base p2 p2) p2 p2 p3) (f_minI p3 p2) (f_maxI p3 p2) p4) (f_minI p4 (f_minI p3 p2)) (f_maxI p4 (f_maxI p3 p2)) (nar .char (p2 - (nbase (nbase (f_base p2 p2) p2 p2 p3) (f_minI p3 p2) (f_maxI p3 p2) p4))) (nar .char (p3 - (nbase (nbase (f_base p2 p2) p2 p2 p3) (f_minI p3 p2) (f_maxI p3 p2) p4))) (nar .char (p4 - (nbase (nbase (f_base p2 p2) p2 p2 p3) (f_minI p3 p2) (f_maxI p3 p2) p4))) (0 : Int32) (0 : Int32) (0 : Int32) (0 : Int32) (0 : Int32) (own_more X81 (by decide) (by decide)) rfl N81 O83 (Nat.le_trans (Nat.le_trans (Nat.le_trans (Nat.le_trans (Nat.le_trans (Nat.le_trans (Nat.le_trans (Nat.le_trans (Nat.le_trans (Nat.le_trans (Nat.le_trans (Nat.le_refl _) K2.1) K3.1) K5.1) K8.1) K12.1) E17.1) K23.1) K44.1) K61.1) K78.1) K81.1) g_ov23 ne_b17_ov23 ne_ow23_ov23 ne_on23_ov23 ne_ob23_ov23 ne_ol23_ov23 ne_oh23_ov23 ne_ot8_ov23 ne_ot12_ov23 F84 f81_0 f81_1 f81_2 f81_3 f81_4 f81_5 f81_6 F85 F86 F87 F88 F89 F90 F91 F92
              · skip
                have F94 := (((F27.keep K23 (ninS ne_ot5_b17 nin0)).keep K44 (ninS ne_ot5_b17 (ninS ne_ot5_ob23 (ninS ne_ot5_ol23 (ninS ne_ot5_oh23 (ninS ne_ot5_ov23 nin0)))))).keep K61 (ninS ne_ot5_b17 (ninS ne_ot5_ob23 (ninS ne_ot5_ol23 (ninS ne_ot5_oh23 (ninS ne_ot5_ov23 nin0))))))
                have O95 := (O63.keep K61 (allS g_b17 (allS g_ob23 (allS g_ol23 (allS g_oh23 (allS g_ov23 all0))))))
                refine gcV X61 hx hZ hml hown (ww 39 rfl) (ww 7 rfl) (ww 43 rfl) (ww 40 rfl) (ww 42 rfl) (ww 41 rfl) rfl f61_0 (rm_add1W2 l Z a0 ww [] b17 ot5 ow23 on23 ob23 ol23 oh23 ov23 kw_23 kn_23 kb_23 kl_23 kh_23 kv_23 (nbase (f_base p2 p2) p2 p2 p3) (f_minI p3 p2) (f_maxI p3 p2) p2 p3 (0 : Int32) (0 : Int32) (0 : Int32) (0 : Int32) (0 : Int32) (0 : Int32) kt5 p4 T61.heap n0 (own_z0 O95) O95 S_CS f61_0 f61_1 f61_2 f61_3 f61_4 f61_5 f61_6 f61_7 f61_8 f61_9 f61_10 f61_11 f61_12 f61_13 f61_14 f61_15 F94 g_b17 g_ow23 g_on23 ne_b17_ow23 ne_b17_on23 ne_b17_ob23 ne_b17_ol23 ne_b17_oh23 ne_b17_ov23 ne_ow23_on23 ne_ow23_ob23 ne_ow23_ol23 ne_ow23_oh23 ne_ow23_ov23 ne_on23_ob23 ne_on23_ol23 ne_on23_oh23 ne_on23_ov23 ne_ob23_ol23 ne_ob23_oh23 ne_ob23_ov23 ne_ol23_oh23 ne_ol23_ov23 ne_oh23_ov23 ne_ot5_b17 ne_ot5_ow23 ne_ot5_on23 ne_ot5_ob23 ne_ot5_ol23 ne_ot5_oh23 ne_ot5_ov23 (own_inN (own_inS p2) (own_btS p2) g60) (own_inT g60) g77) pd___I_V_5 (bb at_121) 0 rfl (fun T93 L93 v93 X93 hQ93 => ?_)
                obtain ⟨oz93, kz_93, rfl, N93q, K93, szz_oz93, f93_0, f93_1, f93_2, f93_3, f93_4, f93_5, f93_6, f93_7, f93_8, f93_9, f93_10, f93_11, f93_12, f93_13, f93_14, f93_15⟩ := hQ93
                have N93 := Fr.app N61 N93q
                have g_oz93 : n0 ≤ oz93 := Nat.le_trans (own_z0 O95) szz_oz93
                have sz_oz93 : h0.size ≤ oz93 := Nat.le_trans (Nat.le_trans (Nat.le_trans (Nat.le_trans (Nat.le_trans (Nat.le_trans (Nat.le_trans (Nat.le_trans (Nat.le_trans (Nat.le_trans (Nat.le_refl _) K2.1) K3.1) K5.1) K8.1) K12.1) E17.1) K23.1) K44.1) K61.1) szz_oz93
                have F96 := ((F45.keep K44 (ninS ne_ot2_b17 (ninS ne_ot2_ob23 (ninS ne_ot2_ol23 (ninS ne_ot2_oh23 (ninS ne_ot2_ov23 nin0)))))).keep K61 (ninS ne_ot2_b17 (ninS ne_ot2_ob23 (ninS ne_ot2_ol23 (ninS ne_ot2_oh23 (ninS ne_ot2_ov23 nin0))))))
                have ne_ot2_oz93 : ot2 ≠ oz93 := Nat.ne_of_lt (Nat.lt_of_lt_of_le F96.lt szz_oz93)
                have F97 := (F62.keep K61 (ninS ne_ot3_b17 (ninS ne_ot3_ob23 (ninS ne_ot3_ol23 (ninS ne_ot3_oh23 (ninS ne_ot3_ov23 nin0))))))
                have ne_ot3_oz93 : ot3 ≠ oz93 := Nat.ne_of_lt (Nat.lt_of_lt_of_le F97.lt szz_oz93)
                have ne_ot5_oz93 : ot5 ≠ oz93 := Nat.ne_of_lt (Nat.lt_of_lt_of_le F94.lt szz_oz93)
                have F98 := (((F28.keep K23 (ninS ne_ot8_b17 nin0)).keep K44 (ninS ne_ot8_b17 (ninS ne_ot8_ob23 (ninS ne_ot8_ol23 (ninS ne_ot8_oh23 (ninS ne_ot8_ov23 nin0)))))).keep K61 (ninS ne_ot8_b17 (ninS ne_ot8_ob23 (ninS ne_ot8_ol23 (ninS ne_ot8_oh23 (ninS ne_ot8_ov23 nin0))))))
                have ne_ot8_oz93 : ot8 ≠ oz93 := Nat.ne_of_lt (Nat.lt_of_lt_of_le F98.lt szz_oz93)
                have F99 := (((F29.keep K23 (ninS ne_ot12_b17 nin0)).keep K44 (ninS ne_ot12_b17 (ninS ne_ot12_ob23 (ninS ne_ot12_ol23 (ninS ne_ot12_oh23 (ninS ne_ot12_ov23 nin0)))))).keep K61 (ninS ne_ot12_b17 (ninS ne_ot12_ob23 (ninS ne_ot12_ol23 (ninS ne_ot12_oh23 (ninS ne_ot12_ov23 nin0))))))
                have ne_ot12_oz93 : ot12 ≠ oz93 := Nat.ne_of_lt (Nat.lt_of_lt_of_le F99.lt szz_oz93)
                have ne_b17_oz93 : b17 ≠ oz93 := Nat.ne_of_lt (Nat.lt_of_lt_of_le f61_0.lt szz_oz93)
                have ne_ow23_oz93 : ow23 ≠ oz93 := Nat.ne_of_lt (Nat.lt_of_lt_of_le f61_8.lt szz_oz93)
                have ne_on23_oz93 : on23 ≠ oz93 := Nat.ne_of_lt (Nat.lt_of_lt_of_le f61_10.lt szz_oz93)
                have ne_ob23_oz93 : ob23 ≠ oz93 := Nat.ne_of_lt (Nat.lt_of_lt_of_le f61_12.lt szz_oz93)
                have ne_ol23_oz93 : ol23 ≠ oz93 := Nat.ne_of_lt (Nat.lt_of_lt_of_le f61_13.lt szz_oz93)
                have ne_oh23_oz93 : oh23 ≠ oz93 := Nat.ne_of_lt (Nat.lt_of_lt_of_le f61_14.lt szz_oz93)
                have ne_ov23_oz93 : ov23 ≠ oz93 := Nat.ne_of_lt (Nat.lt_of_lt_of_le f61_15.lt szz_oz93)
                refine g_aload X93 hx (bb at_124) rfl rfl ?_
                have O101 := (O95.keep K93 (allS g_b17 (allS g_ow23 (allS g_on23 all0))))
                refine gcV X93 hx hZ hml hown (ww 32 rfl) (ww 7 rfl) (ww 36 rfl) (ww 33 rfl) (ww 35 rfl) (ww 34 rfl) rfl f93_0 (rm_clear1W l Z a0 ww [] b17 ow23 on23 ob23 ol23 oh23 oz93 kw_23 kn_23 kz_93 (3 : Int32) p2 p3 p4 (0 : Int32) (0 : Int32) (0 : Int32) (0 : Int32) (0 : Int32) T93.heap n0 (own_z0 O101) O101 S_CS f93_0 f93_1 f93_2 f93_3 f93_4 f93_5 f93_6 f93_7 f93_8 f93_9 f93_10 f93_11 f93_15 g_b17 g_ow23 g_on23 ne_b17_ow23 ne_b17_on23 ne_b17_oz93 ne_ow23_on23 ne_ow23_oz93 ne_on23_oz93) pd___V_3 (bb at_126) 0 rfl (fun T100 L100 v100 X100 hQ100 => ?_)
                obtain ⟨ov100, kv_100, rfl, N100q, K100, szz_ov100, f100_0, f100_1, f100_2, f100_3, f100_4, f100_5, f100_6, f100_7, f100_8, f100_9⟩ := hQ100
                have N100 := Fr.app N93 N100q
                have g_ov100 : n0 ≤ ov100 := Nat.le_trans (own_z0 O101) szz_ov100
                have sz_ov100 : h0.size ≤ ov100 := Nat.le_trans (Nat.le_trans (Nat.le_trans (Nat.le_trans (Nat.le_trans (Nat.le_trans (Nat.le_trans (Nat.le_trans (Nat.le_trans (Nat.le_trans (Nat.le_trans (Nat.le_refl _) K2.1) K3.1) K5.1) K8.1) K12.1) E17.1) K23.1) K44.1) K61.1) K93.1) szz_ov100
                have F102 := (F96.keep K93 (ninS ne_ot2_b17 (ninS ne_ot2_ow23 (ninS ne_ot2_on23 nin0))))
                have ne_ot2_ov100 : ot2 ≠ ov100 := Nat.ne_of_lt (Nat.lt_of_lt_of_le F102.lt szz_ov100)
                have F103 := (F97.keep K93 (ninS ne_ot3_b17 (ninS ne_ot3_ow23 (ninS ne_ot3_on23 nin0))))
                have ne_ot3_ov100 : ot3 ≠ ov100 := Nat.ne_of_lt (Nat.lt_of_lt_of_le F103.lt szz_ov100)
                have F104 := (F94.keep K93 (ninS ne_ot5_b17 (ninS ne_ot5_ow23 (ninS ne_ot5_on23 nin0))))
                have ne_ot5_ov100 : ot5 ≠ ov100 := Nat.ne_of_lt (Nat.lt_of_lt_of_le F104.lt szz_ov100)
                have F105 := (F98.keep K93 (ninS ne_ot8_b17 (ninS ne_ot8_ow23 (ninS ne_ot8_on23 nin0))))
                have ne_ot8_ov100 : ot8 ≠ ov100 := Nat.ne_of_lt (Nat.lt_of_lt_of_le F105.lt szz_ov100)
                have F106 := (F99.keep K93 (ninS ne_ot12_b17 (ninS ne_ot12_ow23 (ninS ne_ot12_on23 nin0))))
                have ne_ot12_ov100 : ot12 ≠ ov100 := Nat.ne_of_lt (Nat.lt_of_lt_of_le F106.lt szz_ov100)
                have ne_b17_ov100 : b17 ≠ ov100 := Nat.ne_of_lt (Nat.lt_of_lt_of_le f93_0.lt szz_ov100)
                have ne_ob23_ov100 : ob23 ≠ ov100 := Nat.ne_of_lt (Nat.lt_of_lt_of_le f93_12.lt szz_ov100)
                have ne_ol23_ov100 : ol23 ≠ ov100 := Nat.ne_of_lt (Nat.lt_of_lt_of_le f93_13.lt szz_ov100)
                have ne_oh23_ov100 : oh23 ≠ ov100 := Nat.ne_of_lt (Nat.lt_of_lt_of_le f93_14.lt szz_ov100)
                have F107 := (f61_15.keep K93 (ninS (Ne.symm ne_b17_ov23) (ninS (Ne.symm ne_ow23_ov23) (ninS (Ne.symm ne_on23_ov23) nin0))))
                have ne_ov23_ov100 : ov23 ≠ ov100 := Nat.ne_of_lt (Nat.lt_of_lt_of_le F107.lt szz_ov100)
                have ne_ow23_ov100 : ow23 ≠ ov100 := Nat.ne_of_lt (Nat.lt_of_lt_of_le f93_8.lt szz_ov100)
                have ne_on23_ov100 : on23 ≠ ov100 := Nat.ne_of_lt (Nat.lt_of_lt_of_le f93_10.lt szz_ov100)
                have ne_oz93_ov100 : oz93 ≠ ov100 := Nat.ne_of_lt (Nat.lt_of_lt_of_le f93_15.lt szz_ov100)
                have O108 := (O101.keep K100 (allS g_b17 (allS g_ow23 (allS g_on23 all0))))
                have F109 := (f93_0.keep K100)
                have F110 := (f93_12.keep K100 (ninS (Ne.symm ne_b17_ob23) (ninS (Ne.symm ne_ow23_ob23) (ninS (Ne.symm ne_on23_ob23) nin0))))
                have F111 := (f93_13.keep K100 (ninS (Ne.symm ne_b17_ol23) (ninS (Ne.symm ne_ow23_ol23) (ninS (Ne.symm ne_on23_ol23) nin0))))
                have F112 := (f93_14.keep K100 (ninS (Ne.symm ne_b17_oh23) (ninS (Ne.symm ne_ow23_oh23) (ninS (Ne.symm ne_on23_oh23) nin0))))
                have F113 := (F105.keep K100 (ninS ne_ot8_b17 (ninS ne_ot8_ow23 (ninS ne_ot8_on23 nin0))))
                have F114 := (F106.keep K100 (ninS ne_ot12_b17 (ninS ne_ot12_ow23 (ninS ne_ot12_on23 nin0))))
                exact hm30 _ _ _ ov100 kv_100 (nbase (f_base p2 p2) p2 p2 p3) (f_minI p3 p2) (f_maxI p3 p2) (0 : Int32) (0 : Int32) (0 : Int32) (0 : Int32) (0 : Int32) (0 : Int32) (0 : Int32) (0 : Int32) (own_more X100 (by decide) (by decide)) rfl N100 O108 (Nat.le_trans (Nat.le_trans (Nat.le_trans (Nat.le_trans (Nat.le_trans (Nat.le_trans (Nat.le_trans (Nat.le_trans (Nat.le_trans (Nat.le_trans (Nat.le_trans (Nat.le_refl _) K2.1) K3.1) K5.1) K8.1) K12.1) E17.1) K23.1) K44.1) K61.1) K93.1) K100.1) g_ov100 ne_b17_ov100 ne_ow23_ov100 ne_on23_ov100 ne_ob23_ov100 ne_ol23_ov100 ne_oh23_ov100 ne_ot8_ov100 ne_ot12_ov100 F109 f100_0 f100_1 f100_2 f100_3 f100_4 f100_5 f100_6 f100_7 f100_8 F110 F111 F112 f100_9 F113 F114
          · skip
            have F116 := ((F26.keep K23 (ninS ne_ot3_b17 nin0)).keep K44 (ninS ne_ot3_b17 (ninS ne_ot3_ob23 (ninS ne_ot3_ol23 (ninS ne_ot3_oh23 (ninS ne_ot3_ov23 nin0))))))
            have O117 := (O46.keep K44 (allS g_b17 (allS g_ob23 (allS g_ol23 (allS g_oh23 (allS g_ov23 all0))))))
            refine gcV X44 hx hZ hml hown (ww 39 rfl) (ww 7 rfl) (ww 43 rfl) (ww 40 rfl) (ww 42 rfl) (ww 41 rfl) rfl f44_0 (rm_add1W1 l Z a0 ww [] b17 ot3 ow23 on23 ob23 ol23 oh23 ov23 kw_23 kn_23 kb_23 kl_23 kh_23 kv_23 (f_base p2 p2) p2 p2 p2 (0 : Int32) (0 : Int32) (0 : Int32) (0 : Int32) (0 : Int32) (0 : Int32) (0 : Int32) kt3 p3 T44.heap n0 (own_z0 O117) O117 S_CS f44_0 f44_1 f44_2 f44_3 f44_4 f44_5 f44_6 f44_7 f44_8 f44_9 f44_10 f44_11 f44_12 f44_13 f44_14 f44_15 F116 g_b17 g_ow23 g_on23 ne_b17_ow23 ne_b17_on23 ne_b17_ob23 ne_b17_ol23 ne_b17_oh23 ne_b17_ov23 ne_ow23_on23 ne_ow23_ob23 ne_ow23_ol23 ne_ow23_oh23 ne_ow23_ov23 ne_on23_ob23 ne_on23_ol23 ne_on23_oh23 ne_on23_ov23 ne_ob23_ol23 ne_ob23_oh23 ne_ob23_ov23 ne_ol23_oh23 ne_ol23_ov23 ne_oh23_ov23 ne_ot3_b17 ne_ot3_ow23 ne_ot3_on23 ne_ot3_ob23 ne_ot3_ol23 ne_ot3_oh23 ne_ot3_ov23 (own_inS p2) g60) pd___I_V_5 (bb at_108) 0 rfl (fun T115 L115 v115 X115 hQ115 => ?_)
            obtain ⟨oz115, kz_115, rfl, N115q, K115, szz_oz115, f115_0, f115_1, f115_2, f115_3, f115_4, f115_5, f115_6, f115_7, f115_8, f115_9, f115_10, f115_11, f115_12, f115_13, f115_14, f115_15⟩ := hQ115
            have N115 := Fr.app N44 N115q
            have g_oz115 : n0 ≤ oz115 := Nat.le_trans (own_z0 O117) szz_oz115
            have sz_oz115 : h0.size ≤ oz115 := Nat.le_trans (Nat.le_trans (Nat.le_trans (Nat.le_trans (Nat.le_trans (Nat.le_trans (Nat.le_trans (Nat.le_trans (Nat.le_trans (Nat.le_refl _) K2.1) K3.1) K5.1) K8.1) K12.1) E17.1) K23.1) K44.1) szz_oz115
            have F118 := (F45.keep K44 (ninS ne_ot2_b17 (ninS ne_ot2_ob23 (ninS ne_ot2_ol23 (ninS ne_ot2_oh23 (ninS ne_ot2_ov23 nin0))))))
            have ne_ot2_oz115 : ot2 ≠ oz115 := Nat.ne_of_lt (Nat.lt_of_lt_of_le F118.lt szz_oz115)
            have ne_ot3_oz115 : ot3 ≠ oz115 := Nat.ne_of_lt (Nat.lt_of_lt_of_le F116.lt szz_oz115)
            have F119 := ((F27.keep K23 (ninS ne_ot5_b17 nin0)).keep K44 (ninS ne_ot5_b17 (ninS ne_ot5_ob23 (ninS ne_ot5_ol23 (ninS ne_ot5_oh23 (ninS ne_ot5_ov23 nin0))))))
            have ne_ot5_oz115 : ot5 ≠ oz115 := Nat.ne_of_lt (Nat.lt_of_lt_of_le F119.lt szz_oz115)
            have F120 := ((F28.keep K23 (ninS ne_ot8_b17 nin0)).keep K44 (ninS ne_ot8_b17 (ninS ne_ot8_ob23 (ninS ne_ot8_ol23 (ninS ne_ot8_oh23 (ninS ne_ot8_ov23 nin0))))))
            have ne_ot8_oz115 : ot8 ≠ oz115 := Nat.ne_of_lt (Nat.lt_of_lt_of_le F120.lt szz_oz115)
            have F121 := ((F29.keep K23 (ninS ne_ot12_b17 nin0)).keep K44 (ninS ne_ot12_b17 (ninS ne_ot12_ob23 (ninS ne_ot12_ol23 (ninS ne_ot12_oh23 (ninS ne_ot12_ov23 nin0))))))
            have ne_ot12_oz115 : ot12 ≠ oz115 := Nat.ne_of_lt (Nat.lt_of_lt_of_le F121.lt szz_oz115)
            have ne_b17_oz115 : b17 ≠ oz115 := Nat.ne_of_lt (Nat.lt_of_lt_of_le f44_0.lt szz_oz115)
            have ne_ow23_oz115 : ow23 ≠ oz115 := Nat.ne_of_lt (Nat.lt_of_lt_of_le f44_8.lt szz_oz115)
            have ne_on23_oz115 : on23 ≠ oz115 := Nat.ne_of_lt (Nat.lt_of_lt_of_le f44_10.lt szz_oz115)
            have ne_ob23_oz115 : ob23 ≠ oz115 := Nat.ne_of_lt (Nat.lt_of_lt_of_le f44_12.lt szz_oz115)
            have ne_ol23_oz115 : ol23 ≠ oz115 := Nat.ne_of_lt (Nat.lt_of_lt_of_le f44_13.lt szz_oz115)
            have ne_oh23_oz115 : oh23 ≠ oz115 := Nat.ne_of_lt (Nat.lt_of_lt_of_le f44_14.lt szz_oz115)
            have ne_ov23_oz115 : ov23 ≠ oz115 := Nat.ne_of_lt (Nat.lt_of_lt_of_le f44_15.lt szz_oz115)
            refine g_iload X115 hx (bb at_111) rfl ?_
            refine g_iconst X115 hx (bb at_113) ?_
            by_cases g122 : (((p1.toUInt32 >>> ((1 : Int32) &&& 31).toUInt32).toInt32) &&& (3 : Int32)) < (3 : Int32)
            · skip
              refine g_icmpYes X115 hx (pc' := 124) (bb at_114) (tlt g122).1 (by decide) (by decide) ?_
              refine g_aload X115 hx (bb at_124) rfl rfl ?_
              have O124 := (O117.keep K115 (allS g_b17 (allS g_ow23 (allS g_on23 all0))))
              refine gcV X115 hx hZ hml hown (ww 32 rfl) (ww 7 rfl) (ww 36 rfl) (ww 33 rfl) (ww 35 rfl) (ww 34 rfl) rfl f115_0 (rm_clear1W l Z a0 ww [] b17 ow23 on23 ob23 ol23 oh23 oz115 kw_23 kn_23 kz_115 (2 : Int32) p2 p3 (0 : Int32) (0 : Int32) (0 : Int32) (0 : Int32) (0 : Int32) (0 : Int32) T115.heap n0 (own_z0 O124) O124 S_CS f115_0 f115_1 f115_2 f115_3 f115_4 f115_5 f115_6 f115_7 f115_8 f115_9 f115_10 f115_11 f115_15 g_b17 g_ow23 g_on23 ne_b17_ow23 ne_b17_on23 ne_b17_oz115 ne_ow23_on23 ne_ow23_oz115 ne_on23_oz115) pd___V_3 (bb at_126) 0 rfl (fun T123 L123 v123 X123 hQ123 => ?_)
              obtain ⟨ov123, kv_123, rfl, N123q, K123, szz_ov123, f123_0, f123_1, f123_2, f123_3, f123_4, f123_5, f123_6, f123_7, f123_8, f123_9⟩ := hQ123
              have N123 := Fr.app N115 N123q
              have g_ov123 : n0 ≤ ov123 := Nat.le_trans (own_z0 O124) szz_ov123
              have sz_ov123 : h0.size ≤ ov123 := Nat.le_trans (Nat.le_trans (Nat.le_trans (Nat.le_trans (Nat.le_trans (Nat.le_trans (Nat.le_trans (Nat.le_trans (Nat.le_trans (Nat.le_trans (Nat.le_refl _) K2.1) K3.1) K5.1) K8.1) K12.1) E17.1) K23.1) K44.1) K115.1) szz_ov123
              have F125 := (F118.keep K115 (ninS ne_ot2_b17 (ninS ne_ot2_ow23 (ninS ne_ot2_on23 nin0))))
              have ne_ot2_ov123 : ot2 ≠ ov123 := Nat.ne_of_lt (Nat.lt_of_lt_of_le F125.lt szz_ov123)
              have F126 := (F116.keep K115 (ninS ne_ot3_b17 (ninS ne_ot3_ow23 (ninS ne_ot3_on23 nin0))))
              have ne_ot3_ov123 : ot3 ≠ ov123 := Nat.ne_of_lt (Nat.lt_of_lt_of_le F126.lt szz_ov123)
              have F127 := (F119.keep K115 (ninS ne_ot5_b17 (ninS ne_ot5_ow23 (ninS ne_ot5_on23 nin0))))
              have ne_ot5_ov123 : ot5 ≠ ov123 := Nat.ne_of_lt (Nat.lt_of_lt_of_le F127.lt szz_ov123)
              have F128 := (F120.keep K115 (ninS ne_ot8_b17 (ninS ne_ot8_ow23 (ninS ne_ot8_on23 nin0))))
              have ne_ot8_ov123 : ot8 ≠ ov123 := Nat.ne_of_lt (Nat.lt_of_lt_of_le F128.lt szz_ov123)
              have F129 := (F121.keep K115 (ninS ne_ot12_b17 (ninS ne_ot12_ow23 (ninS ne_ot12_on23 nin0))))
              have ne_ot12_ov123 : ot12 ≠ ov123 := Nat.ne_of_lt (Nat.lt_of_lt_of_le F129.lt szz_ov123)
              have ne_b17_ov123 : b17 ≠ ov123 := Nat.ne_of_lt (Nat.lt_of_lt_of_le f115_0.lt szz_ov123)
              have ne_ob23_ov123 : ob23 ≠ ov123 := Nat.ne_of_lt (Nat.lt_of_lt_of_le f115_12.lt szz_ov123)
              have ne_ol23_ov123 : ol23 ≠ ov123 := Nat.ne_of_lt (Nat.lt_of_lt_of_le f115_13.lt szz_ov123)
              have ne_oh23_ov123 : oh23 ≠ ov123 := Nat.ne_of_lt (Nat.lt_of_lt_of_le f115_14.lt szz_ov123)
              have F130 := (f44_15.keep K115 (ninS (Ne.symm ne_b17_ov23) (ninS (Ne.symm ne_ow23_ov23) (ninS (Ne.symm ne_on23_ov23) nin0))))
              have ne_ov23_ov123 : ov23 ≠ ov123 := Nat.ne_of_lt (Nat.lt_of_lt_of_le F130.lt szz_ov123)
              have ne_ow23_ov123 : ow23 ≠ ov123 := Nat.ne_of_lt (Nat.lt_of_lt_of_le f115_8.lt szz_ov123)
              have ne_on23_ov123 : on23 ≠ ov123 := Nat.ne_of_lt (Nat.lt_of_lt_of_le f115_10.lt szz_ov123)
              have ne_oz115_ov123 : oz115 ≠ ov123 := Nat.ne_of_lt (Nat.lt_of_lt_of_le f115_15.lt szz_ov123)
              have O131 := (O124.keep K123 (allS g_b17 (allS g_ow23 (allS g_on23 all0))))
              have F132 := (f115_0.keep K123)
              have F133 := (f115_12.keep K123 (ninS (Ne.symm ne_b17_ob23) (ninS (Ne.symm ne_ow23_ob23) (ninS (Ne.symm ne_on23_ob23) nin0))))
              have F134 := (f115_13.keep K123 (ninS (Ne.symm ne_b17_ol23) (ninS (Ne.symm ne_ow23_ol23) (ninS (Ne.symm ne_on23_ol23) nin0))))
              have F135 := (f115_14.keep K123 (ninS (Ne.symm ne_b17_oh23) (ninS (Ne.symm ne_ow23_oh23) (ninS (Ne.symm ne_on23_oh23) nin0))))
              have F136 := (F128.keep K123 (ninS ne_ot8_b17 (ninS ne_ot8_ow23 (ninS ne_ot8_on23 nin0))))
              have F137 := (F129.keep K123 (ninS ne_ot12_b17 (ninS ne_ot12_ow23 (ninS ne_ot12_on23 nin0))))
              exact hm30 _ _ _ ov123 kv_123 (f_base p2 p2) p2 p2 (0 : Int32) (0 : Int32) (0 : Int32) (0 : Int32) (0 : Int32) (0 : Int32) (0 : Int32) (0 : Int32) (own_more X123 (by decide) (by decide)) rfl N123 O131 (Nat.le_trans (Nat.le_trans (Nat.le_trans (Nat.le_trans (Nat.le_trans (Nat.le_trans (Nat.le_trans (Nat.le_trans (Nat.le_trans (Nat.le_trans (Nat.le_refl _) K2.1) K3.1) K5.1) K8.1) K12.1) E17.1) K23.1) K44.1) K115.1) K123.1) g_ov123 ne_b17_ov123 ne_ow23_ov123 ne_on23_ov123 ne_ob23_ov123 ne_ol23_ov123 ne_oh23_ov123 ne_ot8_ov123 ne_ot12_ov123 F132 f123_0 f123_1 f123_2 f123_3 f123_4 f123_5 f123_6 f123_7 f123_8 F133 F134 F135 f123_9 F136 F137
            · skip
              refine g_icmpNo X115 hx (bb at_114) (flt g122).1 ?_
              refine g_aload X115 hx (bb at_117) rfl rfl ?_
              refine g_aload X115 hx (bb at_119) rfl rfl ?_
              have F139 := (F119.keep K115 (ninS ne_ot5_b17 (ninS ne_ot5_ow23 (ninS ne_ot5_on23 nin0))))
              have O140 := (O117.keep K115 (allS g_b17 (allS g_ow23 (allS g_on23 all0))))
              refine gcV X115 hx hZ hml hown (ww 39 rfl) (ww 7 rfl) (ww 43 rfl) (ww 40 rfl) (ww 42 rfl) (ww 41 rfl) rfl f115_0 (rm_add1WW2 l Z a0 ww [] b17 ot5 ow23 on23 ob23 ol23 oh23 oz115 kw_23 kn_23 kb_23 kl_23 kh_23 kz_115 (f_base p2 p2) p2 p2 p2 p3 (0 : Int32) (0 : Int32) (0 : Int32) (0 : Int32) (0 : Int32) (0 : Int32) kt5 p4 T115.heap n0 (own_z0 O140) O140 S_CS f115_0 f115_1 f115_2 f115_3 f115_4 f115_5 f115_6 f115_7 f115_8 f115_9 f115_10 f115_11 f115_12 f115_13 f115_14 f115_15 F139 g_b17 g_oz115 ne_b17_ow23 ne_b17_on23 ne_b17_ob23 ne_b17_ol23 ne_b17_oh23 ne_b17_oz115 ne_ow23_on23 ne_ow23_ob23 ne_ow23_ol23 ne_ow23_oh23 ne_ow23_oz115 ne_on23_ob23 ne_on23_ol23 ne_on23_oh23 ne_on23_oz115 ne_ob23_ol23 ne_ob23_oh23 ne_ob23_oz115 ne_ol23_oh23 ne_ol23_oz115 ne_oh23_oz115 ne_ot5_b17 ne_ot5_ow23 ne_ot5_on23 ne_ot5_ob23 ne_ot5_ol23 ne_ot5_oh23 ne_ot5_oz115) pd___I_V_5 (bb at_121) 0 rfl (fun T138 L138 v138 X138 hQ138 => ?_)
              obtain ⟨rfl, N138q, K138, f138_0, f138_1, f138_2, f138_3, f138_4, f138_5, f138_6, f138_7, f138_8, f138_9, f138_10, f138_11, f138_12, f138_13, f138_14, f138_15⟩ := hQ138
              have N138 := Fr.app N115 N138q
              refine g_aload X138 hx (bb at_124) rfl rfl ?_
              have O142 := (O140.keep K138 (allS g_b17 (allS g_oz115 all0)))
              refine gcV X138 hx hZ hml hown (ww 32 rfl) (ww 7 rfl) (ww 36 rfl) (ww 33 rfl) (ww 35 rfl) (ww 34 rfl) rfl f138_0 (rm_clear1W l Z a0 ww [] b17 ow23 on23 ob23 ol23 oh23 oz115 kw_23 kn_23 kz_115 (3 : Int32) p2 p3 p4 (0 : Int32) (0 : Int32) (0 : Int32) (0 : Int32) (0 : Int32) T138.heap n0 (own_z0 O142) O142 S_CS f138_0 f138_1 f138_2 f138_3 f138_4 f138_5 f138_6 f138_7 f138_8 f138_9 f138_10 f138_11 f138_15 g_b17 g_ow23 g_on23 ne_b17_ow23 ne_b17_on23 ne_b17_oz115 ne_ow23_on23 ne_ow23_oz115 ne_on23_oz115) pd___V_3 (bb at_126) 0 rfl (fun T141 L141 v141 X141 hQ141 => ?_)
              obtain ⟨ov141, kv_141, rfl, N141q, K141, szz_ov141, f141_0, f141_1, f141_2, f141_3, f141_4, f141_5, f141_6, f141_7, f141_8, f141_9⟩ := hQ141
              have N141 := Fr.app N138 N141q
              have g_ov141 : n0 ≤ ov141 := Nat.le_trans (own_z0 O142) szz_ov141
              have sz_ov141 : h0.size ≤ ov141 := Nat.le_trans (Nat.le_trans (Nat.le_trans (Nat.le_trans (Nat.le_trans (Nat.le_trans (Nat.le_trans (Nat.le_trans (Nat.le_trans (Nat.le_trans (Nat.le_trans (Nat.le_refl _) K2.1) K3.1) K5.1) K8.1) K12.1) E17.1) K23.1) K44.1) K115.1) K138.1) szz_ov141
              have F143 := ((F118.keep K115 (ninS ne_ot2_b17 (ninS ne_ot2_ow23 (ninS ne_ot2_on23 nin0)))).keep K138 (ninS ne_ot2_b17 (ninS ne_ot2_oz115 nin0)))
              have ne_ot2_ov141 : ot2 ≠ ov141 := Nat.ne_of_lt (Nat.lt_of_lt_of_le F143.lt szz_ov141)
              have F144 := ((F116.keep K115 (ninS ne_ot3_b17 (ninS ne_ot3_ow23 (ninS ne_ot3_on23 nin0)))).keep K138 (ninS ne_ot3_b17 (ninS ne_ot3_oz115 nin0)))
              have ne_ot3_ov141 : ot3 ≠ ov141 := Nat.ne_of_lt (Nat.lt_of_lt_of_le F144.lt szz_ov141)
              have F145 := (F139.keep K138 (ninS ne_ot5_b17 (ninS ne_ot5_oz115 nin0)))
              have ne_ot5_ov141 : ot5 ≠ ov141 := Nat.ne_of_lt (Nat.lt_of_lt_of_le F145.lt szz_ov141)
              have F146 := ((F120.keep K115 (ninS ne_ot8_b17 (ninS ne_ot8_ow23 (ninS ne_ot8_on23 nin0)))).keep K138 (ninS ne_ot8_b17 (ninS ne_ot8_oz115 nin0)))
              have ne_ot8_ov141 : ot8 ≠ ov141 := Nat.ne_of_lt (Nat.lt_of_lt_of_le F146.lt szz_ov141)
              have F147 := ((F121.keep K115 (ninS ne_ot12_b17 (ninS ne_ot12_ow23 (ninS ne_ot12_on23 nin0)))).keep K138 (ninS ne_ot12_b17 (ninS ne_ot12_oz115 nin0)))
              have ne_ot12_ov141 : ot12 ≠ ov141 := Nat.ne_of_lt (Nat.lt_of_lt_of_le F147.lt szz_ov141)
              have ne_b17_ov141 : b17 ≠ ov141 := Nat.ne_of_lt (Nat.lt_of_lt_of_le f138_0.lt szz_ov141)
              have ne_ob23_ov141 : ob23 ≠ ov141 := Nat.ne_of_lt (Nat.lt_of_lt_of_le f138_12.lt szz_ov141)
              have ne_ol23_ov141 : ol23 ≠ ov141 := Nat.ne_of_lt (Nat.lt_of_lt_of_le f138_13.lt szz_ov141)
              have ne_oh23_ov141 : oh23 ≠ ov141 := Nat.ne_of_lt (Nat.lt_of_lt_of_le f138_14.lt szz_ov141)
              have F148 := ((f44_15.keep K115 (ninS (Ne.symm ne_b17_ov23) (ninS (Ne.symm ne_ow23_ov23) (ninS (Ne.symm ne_on23_ov23) nin0)))).keep K138 (ninS (Ne.symm ne_b17_ov23) (ninS ne_ov23_oz115 nin0)))
              have ne_ov23_ov141 : ov23 ≠ ov141 := Nat.ne_of_lt (Nat.lt_of_lt_of_le F148.lt szz_ov141)
              have ne_ow23_ov141 : ow23 ≠ ov141 := Nat.ne_of_lt (Nat.lt_of_lt_of_le f138_8.lt szz_ov141)
              have ne_on23_ov141 : on23 ≠ ov141 := Nat.ne_of_lt (Nat.lt_of_lt_of_le f138_10.lt szz_ov141)
              have ne_oz115_ov141 : oz115 ≠ ov141 := Nat.ne_of_lt (Nat.lt_of_lt_of_le f138_15.lt szz_ov141)
              have O149 := (O142.keep K141 (allS g_b17 (allS g_ow23 (allS g_on23 all0))))
              have F150 := (f138_0.keep K141)
              have F151 := (f138_12.keep K141 (ninS (Ne.symm ne_b17_ob23) (ninS (Ne.symm ne_ow23_ob23) (ninS (Ne.symm ne_on23_ob23) nin0))))
              have F152 := (f138_13.keep K141 (ninS (Ne.symm ne_b17_ol23) (ninS (Ne.symm ne_ow23_ol23) (ninS (Ne.symm ne_on23_ol23) nin0))))
              have F153 := (f138_14.keep K141 (ninS (Ne.symm ne_b17_oh23) (ninS (Ne.symm ne_ow23_oh23) (ninS (Ne.symm ne_on23_oh23) nin0))))
              have F154 := (F146.keep K141 (ninS ne_ot8_b17 (ninS ne_ot8_ow23 (ninS ne_ot8_on23 nin0))))
              have F155 := (F147.keep K141 (ninS ne_ot12_b17 (ninS ne_ot12_ow23 (ninS ne_ot12_on23 nin0))))
              exact hm30 _ _ _ ov141 kv_141 (f_base p2 p2) p2 p2 (0 : Int32) (0 : Int32) (0 : Int32) (0 : Int32) (0 : Int32) (0 : Int32) (0 : Int32) (0 : Int32) (own_more X141 (by decide) (by decide)) rfl N141 O149 (Nat.le_trans (Nat.le_trans (Nat.le_trans (Nat.le_trans (Nat.le_trans (Nat.le_trans (Nat.le_trans (Nat.le_trans (Nat.le_trans (Nat.le_trans (Nat.le_trans (Nat.le_refl _) K2.1) K3.1) K5.1) K8.1) K12.1) E17.1) K23.1) K44.1) K115.1) K138.1) K141.1) g_ov141 ne_b17_ov141 ne_ow23_ov141 ne_on23_ov141 ne_ob23_ov141 ne_ol23_ov141 ne_oh23_ov141 ne_ot8_ov141 ne_ot12_ov141 F150 f141_0 f141_1 f141_2 f141_3 f141_4 f141_5 f141_6 f141_7 f141_8 F151 F152 F153 f141_9 F154 F155
    intro T30 L30 h30 ov_30 kv_30 mb0_30 ml0_30 mu0_30 mx0_30 mx1_30 mx2_30 mx3_30 mx4_30 mx5_30 mx6_30 mx7_30 X30 e30 N30 O30 hz30 gv30 n30_0 n30_1 n30_2 n30_3 n30_4 n30_5 n30_6 n30_7 f30_0 f30_1 f30_2 f30_3 f30_4 f30_5 f30_6 f30_7 f30_8 f30_9 f30_10 f30_11 f30_12 f30_13 f30_14 f30_15
    refine g_aload X30 hx (bb at_129) rfl rfl ?_
    refine g_aload X30 hx (bb at_131) rfl rfl ?_
    refine gcV X30 hx hZ hml hown (ww 39 rfl) (ww 7 rfl) (ww 43 rfl) (ww 40 rfl) (ww 42 rfl) (ww 41 rfl) e30 f30_0 (rm_add1N0 l Z a0 ww [] b17 ot8 ow23 on23 ob23 ol23 oh23 ov_30 kw_23 kn_23 kb_23 kl_23 kh_23 kv_30 mb0_30 ml0_30 mu0_30 mx0_30 mx1_30 mx2_30 mx3_30 mx4_30 mx5_30 mx6_30 mx7_30 kt8 p5 h30 n0 (own_z0 O30) O30 S_CS f30_0 f30_1 f30_2 f30_3 f30_4 f30_5 f30_6 f30_7 f30_8 f23_9 f30_9 f23_11 f30_10 f30_11 f30_12 f30_13 f30_14 g_b17 g_ob23 g_ol23 g_oh23 gv30 ne_b17_ow23 ne_b17_on23 ne_b17_ob23 ne_b17_ol23 ne_b17_oh23 n30_0 ne_ow23_on23 ne_ow23_ob23 ne_ow23_ol23 ne_ow23_oh23 n30_1 ne_on23_ob23 ne_on23_ol23 ne_on23_oh23 n30_2 ne_ob23_ol23 ne_ob23_oh23 n30_3 ne_ol23_oh23 n30_4 n30_5 ne_ot8_b17 ne_ot8_ow23 ne_ot8_on23 ne_ot8_ob23 ne_ot8_ol23 ne_ot8_oh23 n30_6) pd___I_V_5 (bb at_133) 0 rfl (fun T156 L156 v156 X156 hQ156 => ?_)
    obtain ⟨rfl, N156q, K156, f156_0, f156_1, f156_2, f156_3, f156_4, f156_5, f156_6, f156_7, f156_8, f156_9, f156_10, f156_11, f156_12, f156_13, f156_14, f156_15⟩ := hQ156
    have N156 := Fr.app N30 N156q
    refine g_aload X156 hx (bb at_136) rfl rfl ?_
    refine g_aload X156 hx (bb at_138) rfl rfl ?_
    by_cases g157 : (lcmpW (((f_maxI p6 p5).toInt64) - ((f_minI p6 p5).toInt64)) (65536 : Int64)) < (0 : Int32)
    · skip
      rw [if_pos g157] at hp
      have F159 := (f30_15.keep K156 (ninS ne_ot12_b17 (ninS ne_ot12_ob23 (ninS ne_ot12_ol23 (ninS ne_ot12_oh23 (ninS n30_7 nin0))))))
      have O160 := (O30.keep K156 (allS g_b17 (allS g_ob23 (allS g_ol23 (allS g_oh23 (allS gv30 all0))))))
      refine gcV X156 hx hZ hml hown (ww 39 rfl) (ww 7 rfl) (ww 43 rfl) (ww 40 rfl) (ww 42 rfl) (ww 41 rfl) rfl f156_0 (rm_add1N1 l Z a0 ww [] b17 ot12 ow23 on23 ob23 ol23 oh23 ov_30 kw_23 kn_23 kb_23 kl_23 kh_23 kv_30 (f_base p5 p5) p5 p5 p5 mx1_30 mx2_30 mx3_30 mx4_30 mx5_30 mx6_30 mx7_30 kt12 p6 T156.heap n0 (own_z0 O160) O160 S_CS f156_0 f156_1 f156_2 f156_3 f156_4 f156_5 f156_6 f156_7 f156_8 f156_9 f156_10 f156_11 f156_12 f156_13 f156_14 f156_15 F159 g_b17 g_ob23 g_ol23 g_oh23 gv30 ne_b17_ow23 ne_b17_on23 ne_b17_ob23 ne_b17_ol23 ne_b17_oh23 n30_0 ne_ow23_on23 ne_ow23_ob23 ne_ow23_ol23 ne_ow23_oh23 n30_1 ne_on23_ob23 ne_on23_ol23 ne_on23_oh23 n30_2 ne_ob23_ol23 ne_ob23_oh23 n30_3 ne_ol23_oh23 n30_4 n30_5 ne_ot12_b17 ne_ot12_ow23 ne_ot12_on23 ne_ot12_ob23 ne_ot12_ol23 ne_ot12_oh23 n30_7 g157) pd___I_V_5 (bb at_140) 0 rfl (fun T158 L158 v158 X158 hQ158 => ?_)
      obtain ⟨rfl, N158q, K158, f158_0, f158_1, f158_2, f158_3, f158_4, f158_5, f158_6, f158_7, f158_8, f158_9, f158_10, f158_11, f158_12, f158_13, f158_14, f158_15⟩ := hQ158
      have N158 := Fr.app N156 N158q
      refine g_aload X158 hx (bb at_143) rfl rfl ?_
      refine g_iconst X158 hx (bb at_145) ?_
      refine g_iconst X158 hx (bb at_146) ?_
      obtain ⟨cl161, Ar161, vq161, vS161, vN161, vH161, vG161⟩ := id f158_10
      obtain ⟨cl162, Ar162, vq162, vS162, vN162, vH162, vG162⟩ := id f158_12
      obtain ⟨cl163, Ar163, vq163, vS163, vN163, vH163, vG163⟩ := id f158_15
      have O165 := (O160.keep K158 (allS g_b17 (allS g_ob23 (allS g_ol23 (allS g_oh23 (allS gv30 all0))))))
      refine gcV X158 hx hZ hml hown (ww 79 rfl) (ww 7 rfl) (ww 83 rfl) (ww 80 rfl) (ww 82 rfl) (ww 81 rfl) rfl f158_0 (rm_get1N l Z a0 ww [] b17 (0 : Int32) (0 : Int32) on23 ob23 ov_30 cl161 cl162 cl163 (nbase (f_base p5 p5) p5 p5 p6) p5 T158.heap n0 (own_z0 O165) O165 S_CS f158_1 f158_4 f158_5 Ar161 (inb_of vS161 ⟨by decide, by decide⟩) (vH161.at (inb_of vS161 ⟨by decide, by decide⟩) rfl) Ar162 (inb_of vS162 ⟨by decide, by decide⟩) (vH162.at (inb_of vS162 ⟨by decide, by decide⟩) rfl) Ar163 (inb_of vS163 ⟨by decide, by decide⟩) (vH163.at (inb_of vS163 ⟨by decide, by decide⟩) rfl) (own_inN (own_inS p5) (own_btS p5) g157)) pd__II_I_5 (bb at_147) 0 rfl (fun T164 L164 v164 X164 hQ164 => ?_)
      obtain ⟨rfl, N164q, e164⟩ := hQ164
      have N164 := Fr.app N158 N164q
      refine g_iload X164 hx (bb at_150) rfl ?_
      refine g_icmpNo X164 hx (bb at_152) (teq (rfl : p5 = p5)).2 ?_
      refine g_aload X164 hx (bb at_155) rfl rfl ?_
      refine g_iconst X164 hx (bb at_157) ?_
      refine g_iconst X164 hx (bb at_158) ?_
      obtain ⟨cl166, Ar166, vq166, vS166, vN166, vH166, vG166⟩ := id f158_10
      obtain ⟨cl167, Ar167, vq167, vS167, vN167, vH167, vG167⟩ := id f158_12
      obtain ⟨cl168, Ar168, vq168, vS168, vN168, vH168, vG168⟩ := id f158_15
      refine gcV X164 hx hZ hml hown (ww 79 rfl) (ww 7 rfl) (ww 83 rfl) (ww 80 rfl) (ww 82 rfl) (ww 81 rfl) e164 f158_0 (rm_get1N l Z a0 ww [] b17 (1 : Int32) (0 : Int32) on23 ob23 ov_30 cl166 cl167 cl168 (nbase (f_base p5 p5) p5 p5 p6) p6 T158.heap n0 (own_z0 O165) O165 S_CS f158_1 f158_4 f158_5 Ar166 (inb_of vS166 ⟨by decide, by decide⟩) (vH166.at (inb_of vS166 ⟨by decide, by decide⟩) rfl) Ar167 (inb_of vS167 ⟨by decide, by decide⟩) (vH167.at (inb_of vS167 ⟨by decide, by decide⟩) rfl) Ar168 (inb_of vS168 ⟨by decide, by decide⟩) (vH168.at (inb_of vS168 ⟨by decide, by decide⟩) rfl) (own_inT g157)) pd__II_I_5 (bb at_159) 0 rfl (fun T169 L169 v169 X169 hQ169 => ?_)
      obtain ⟨rfl, N169q, e169⟩ := hQ169
      have N169 := Fr.app N164 N169q
      refine g_iload X169 hx (bb at_162) rfl ?_
      refine g_icmpNo X169 hx (bb at_164) (teq (rfl : p6 = p6)).2 ?_
      refine g_iconst X169 hx (bb at_167) ?_
      refine g_goto X169 hx (pc' := 172) (bb at_168) (by decide) (by decide) ?_
      refine g_istore X169 hx (bb at_172) (l' := #[vI p1, vI p2, vI p3, vI p4, vI p5, vI p6, vI 0, vI 1, vI (((p1.toUInt32 >>> ((1 : Int32) &&& 31).toUInt32).toInt32) &&& (3 : Int32)), vR ot2, vR ot3, vR ot5, vR ot8, vR ot12, vR b17, vI 1]) rfl ?_
      refine g_iload X169 hx (bb at_174) rfl ?_
      refine g_ifYes X169 hx (pc' := 219) (bb at_176) ((if0 _ _).trans (teq (by decide : (0 : Int32) = (0 : Int32))).1) (by decide) (by decide) ?_
      refine g_iload X169 hx (bb at_219) rfl ?_
      obtain ⟨fs, hr, hrun, hended, hW, hsame⟩ := X169.leave (v := some (.int 1)) (fun h => by rw [hret] at h; cases h)
      subst hR0
      refine ⟨_, _, ?_, hrun, hended, _, _, rfl, ?_, ⟨_, rfl⟩, hW, hsame.mono (by decide) (by decide)⟩
      · exact retN X169 hx (t := .boolean) hret (by simp) (bb at_221) hr
      · exact ⟨rfl, N169⟩
    · skip
      rw [if_neg g157] at hp
      have F171 := (f30_15.keep K156 (ninS ne_ot12_b17 (ninS ne_ot12_ob23 (ninS ne_ot12_ol23 (ninS ne_ot12_oh23 (ninS n30_7 nin0))))))
      have O172 := (O30.keep K156 (allS g_b17 (allS g_ob23 (allS g_ol23 (allS g_oh23 (allS gv30 all0))))))
      refine gcV X156 hx hZ hml hown (ww 39 rfl) (ww 7 rfl) (ww 43 rfl) (ww 40 rfl) (ww 42 rfl) (ww 41 rfl) rfl f156_0 (rm_add1W1 l Z a0 ww [] b17 ot12 ow23 on23 ob23 ol23 oh23 ov_30 kw_23 kn_23 kb_23 kl_23 kh_23 kv_30 (f_base p5 p5) p5 p5 p5 mx1_30 mx2_30 mx3_30 mx4_30 mx5_30 mx6_30 mx7_30 kt12 p6 T156.heap n0 (own_z0 O172) O172 S_CS f156_0 f156_1 f156_2 f156_3 f156_4 f156_5 f156_6 f156_7 f156_8 f156_9 f156_10 f156_11 f156_12 f156_13 f156_14 f156_15 F171 g_b17 g_ow23 g_on23 ne_b17_ow23 ne_b17_on23 ne_b17_ob23 ne_b17_ol23 ne_b17_oh23 n30_0 ne_ow23_on23 ne_ow23_ob23 ne_ow23_ol23 ne_ow23_oh23 n30_1 ne_on23_ob23 ne_on23_ol23 ne_on23_oh23 n30_2 ne_ob23_ol23 ne_ob23_oh23 n30_3 ne_ol23_oh23 n30_4 n30_5 ne_ot12_b17 ne_ot12_ow23 ne_ot12_on23 ne_ot12_ob23 ne_ot12_ol23 ne_ot12_oh23 n30_7 (own_inS p5) g157) pd___I_V_5 (bb at_140) 0 rfl (fun T170 L170 v170 X170 hQ170 => ?_)
      obtain ⟨oz170, kz_170, rfl, N170q, K170, szz_oz170, f170_0, f170_1, f170_2, f170_3, f170_4, f170_5, f170_6, f170_7, f170_8, f170_9, f170_10, f170_11, f170_12, f170_13, f170_14, f170_15⟩ := hQ170
      have N170 := Fr.app N156 N170q
      have g_oz170 : n0 ≤ oz170 := Nat.le_trans (own_z0 O172) szz_oz170
      have sz_oz170 : h0.size ≤ oz170 := Nat.le_trans (Nat.le_trans hz30 K156.1) szz_oz170
      have ne_b17_oz170 : b17 ≠ oz170 := Nat.ne_of_lt (Nat.lt_of_lt_of_le f156_0.lt szz_oz170)
      have ne_ow23_oz170 : ow23 ≠ oz170 := Nat.ne_of_lt (Nat.lt_of_lt_of_le f156_8.lt szz_oz170)
      have ne_on23_oz170 : on23 ≠ oz170 := Nat.ne_of_lt (Nat.lt_of_lt_of_le f156_10.lt szz_oz170)
      have F173 := (f30_14.keep K156 (ninS ne_ot8_b17 (ninS ne_ot8_ob23 (ninS ne_ot8_ol23 (ninS ne_ot8_oh23 (ninS n30_6 nin0))))))
      have ne_ot8_oz170 : ot8 ≠ oz170 := Nat.ne_of_lt (Nat.lt_of_lt_of_le F173.lt szz_oz170)
      have ne_ot12_oz170 : ot12 ≠ oz170 := Nat.ne_of_lt (Nat.lt_of_lt_of_le F171.lt szz_oz170)
      have ne_ob23_oz170 : ob23 ≠ oz170 := Nat.ne_of_lt (Nat.lt_of_lt_of_le f156_12.lt szz_oz170)
      have ne_ol23_oz170 : ol23 ≠ oz170 := Nat.ne_of_lt (Nat.lt_of_lt_of_le f156_13.lt szz_oz170)
      have ne_oh23_oz170 : oh23 ≠ oz170 := Nat.ne_of_lt (Nat.lt_of_lt_of_le f156_14.lt szz_oz170)
      have ne_ov_30_oz170 : ov_30 ≠ oz170 := Nat.ne_of_lt (Nat.lt_of_lt_of_le f156_15.lt szz_oz170)
      refine g_aload X170 hx (bb at_143) rfl rfl ?_
      refine g_iconst X170 hx (bb at_145) ?_
      refine g_iconst X170 hx (bb at_146) ?_
      obtain ⟨cl174, Ar174, vq174, vS174, vN174, vH174, vG174⟩ := id f170_10
      obtain ⟨cl175, Ar175, vq175, vS175, vN175, vH175, vG175⟩ := id f170_8
      obtain ⟨cl176, Ar176, vq176, vS176, vN176, vH176, vG176⟩ := id f170_15
      have O178 := (O172.keep K170 (allS g_b17 (allS g_ow23 (allS g_on23 all0))))
      refine gcV X170 hx hZ hml hown (ww 79 rfl) (ww 7 rfl) (ww 83 rfl) (ww 80 rfl) (ww 82 rfl) (ww 81 rfl) rfl f170_0 (rm_get1W l Z a0 ww [] b17 (0 : Int32) (0 : Int32) on23 ow23 oz170 cl174 cl175 cl176 p5 T170.heap n0 (own_z0 O178) O178 S_CS f170_1 f170_4 f170_3 Ar174 (inb_of vS174 ⟨by decide, by decide⟩) (vH174.at (inb_of vS174 ⟨by decide, by decide⟩) rfl) Ar175 (inb_of vS175 ⟨by decide, by decide⟩) (vH175.at (inb_of vS175 ⟨by decide, by decide⟩) rfl) Ar176 (inb_of vS176 ⟨by decide, by decide⟩) (vH176.at (inb_of vS176 ⟨by decide, by decide⟩) rfl)) pd__II_I_5 (bb at_147) 0 rfl (fun T177 L177 v177 X177 hQ177 => ?_)
      obtain ⟨rfl, N177q, e177⟩ := hQ177
      have N177 := Fr.app N170 N177q
      refine g_iload X177 hx (bb at_150) rfl ?_
      refine g_icmpNo X177 hx (bb at_152) (teq (rfl : p5 = p5)).2 ?_
      refine g_aload X177 hx (bb at_155) rfl rfl ?_
      refine g_iconst X177 hx (bb at_157) ?_
      refine g_iconst X177 hx (bb at_158) ?_
      obtain ⟨cl179, Ar179, vq179, vS179, vN179, vH179, vG179⟩ := id f170_10
      obtain ⟨cl180, Ar180, vq180, vS180, vN180, vH180, vG180⟩ := id f170_8
      obtain ⟨cl181, Ar181, vq181, vS181, vN181, vH181, vG181⟩ := id f170_15
      refine gcV X177 hx hZ hml hown (ww 79 rfl) (ww 7 rfl) (ww 83 rfl) (ww 80 rfl) (ww 82 rfl) (ww 81 rfl) e177 f170_0 (rm_get1W l Z a0 ww [] b17 (1 : Int32) (0 : Int32) on23 ow23 oz170 cl179 cl180 cl181 p6 T170.heap n0 (own_z0 O178) O178 S_CS f170_1 f170_4 f170_3 Ar179 (inb_of vS179 ⟨by decide, by decide⟩) (vH179.at (inb_of vS179 ⟨by decide, by decide⟩) rfl) Ar180 (inb_of vS180 ⟨by decide, by decide⟩) (vH180.at (inb_of vS180 ⟨by decide, by decide⟩) rfl) Ar181 (inb_of vS181 ⟨by decide, by decide⟩) (vH181.at (inb_of vS181 ⟨by decide, by decide⟩) rfl)) pd__II_I_5 (bb at_159) 0 rfl (fun T182 L182 v182 X182 hQ182 => ?_)
      obtain ⟨rfl, N182q, e182⟩ := hQ182
      have N182 := Fr.app N177 N182q
      refine g_iload X182 hx (bb at_162) rfl ?_
      refine g_icmpNo X182 hx (bb at_164) (teq (rfl : p6 = p6)).2 ?_
      refine g_iconst X182 hx (bb at_167) ?_
      refine g_goto X182 hx (pc' := 172) (bb at_168) (by decide) (by decide) ?_
      refine g_istore X182 hx (bb at_172) (l' := #[vI p1, vI p2, vI p3, vI p4, vI p5, vI p6, vI 0, vI 1, vI (((p1.toUInt32 >>> ((1 : Int32) &&& 31).toUInt32).toInt32) &&& (3 : Int32)), vR ot2, vR ot3, vR ot5, vR ot8, vR ot12, vR b17, vI 1]) rfl ?_
      refine g_iload X182 hx (bb at_174) rfl ?_
      refine g_ifYes X182 hx (pc' := 219) (bb at_176) ((if0 _ _).trans (teq (by decide : (0 : Int32) = (0 : Int32))).1) (by decide) (by decide) ?_
      refine g_iload X182 hx (bb at_219) rfl ?_
      obtain ⟨fs, hr, hrun, hended, hW, hsame⟩ := X182.leave (v := some (.int 1)) (fun h => by rw [hret] at h; cases h)
      subst hR0
      refine ⟨_, _, ?_, hrun, hended, _, _, rfl, ?_, ⟨_, rfl⟩, hW, hsame.mono (by decide) (by decide)⟩
      · exact retN X182 hx (t := .boolean) hret (by simp) (bb at_221) hr
      · exact ⟨rfl, N182⟩
  · skip
    rw [if_neg g1] at hp
    refine g_ifNo X0 hx (bb at_3) ((if0 _ _).trans (feq g1).1) ?_
    refine g_iconst X0 hx (bb at_6) ?_
    refine g_goto X0 hx (pc' := 11) (bb at_7) (by decide) (by decide) ?_
    refine g_istore X0 hx (bb at_11) (l' := #[vI p1, vI p2, vI p3, vI p4, vI p5, vI p6, vI 1, .unset, .unset, .unset, .unset, .unset, .unset, .unset, .unset, .unset]) rfl ?_
    refine g_iload X0 hx (bb at_13) rfl ?_
    refine g_ifNo X0 hx (bb at_15) ((if0 _ _).trans (feq (by decide : ¬ ((1 : Int32) = (0 : Int32)))).1) ?_
    refine g_iconst X0 hx (bb at_18) ?_
    refine g_goto X0 hx (pc' := 23) (bb at_19) (by decide) (by decide) ?_
    refine g_istore X0 hx (bb at_23) (l' := #[vI p1, vI p2, vI p3, vI p4, vI p5, vI p6, vI 1, vI 2, .unset, .unset, .unset, .unset, .unset, .unset, .unset, .unset]) rfl ?_
    refine g_iloadN X0 hx (bb at_25) rfl ?_
    refine g_iconst X0 hx (bb at_26) ?_
    refine g_iushr X0 hx (bb at_27) ?_
    refine g_iconst X0 hx (bb at_28) ?_
    refine g_iand X0 hx (bb at_29) ?_
    refine g_istore X0 hx (bb at_30) (l' := #[vI p1, vI p2, vI p3, vI p4, vI p5, vI p6, vI 1, vI 2, vI (((p1.toUInt32 >>> ((1 : Int32) &&& 31).toUInt32).toInt32) &&& (3 : Int32)), .unset, .unset, .unset, .unset, .unset, .unset, .unset]) rfl ?_
    refine g_iload X0 hx (bb at_32) rfl ?_
    refine g_iloadN X0 hx (bb at_34) rfl ?_
    refine gcS X0 hx hZ hml hown (ww 0 rfl) (ww 2 rfl) (ww 3 rfl) (ww 1 rfl) e0 (rm_tuple2 l Z a0 ww [] p2 h0 n0 (own_z0 O0) O0 S_CS) pd__ZI__I_6 (bb at_35) 0 rfl (fun T183 L183 v183 X183 hQ183 => ?_)
    obtain ⟨ot183, kt183, rfl, N183q, K183, szz_ot183, f183_0⟩ := hQ183
    have N183 := Fr.app N0 N183q
    have g_ot183 : n0 ≤ ot183 := Nat.le_trans (own_z0 O0) szz_ot183
    have sz_ot183 : h0.size ≤ ot183 := Nat.le_trans (Nat.le_refl _) szz_ot183
    refine g_astore X183 hx (bb at_38) rfl (l' := #[vI p1, vI p2, vI p3, vI p4, vI p5, vI p6, vI 1, vI 2, vI (((p1.toUInt32 >>> ((1 : Int32) &&& 31).toUInt32).toInt32) &&& (3 : Int32)), vR ot183, .unset, .unset, .unset, .unset, .unset, .unset]) rfl ?_
    refine g_iload X183 hx (bb at_40) rfl ?_
    refine g_iloadN X183 hx (bb at_42) rfl ?_
    have O185 := (O0.keep K183 all0)
    refine gcS X183 hx hZ hml hown (ww 0 rfl) (ww 2 rfl) (ww 3 rfl) (ww 1 rfl) rfl (rm_tuple2 l Z a0 ww [] p3 T183.heap n0 (own_z0 O185) O185 S_CS) pd__ZI__I_6 (bb at_43) 0 rfl (fun T184 L184 v184 X184 hQ184 => ?_)
    obtain ⟨ot184, kt184, rfl, N184q, K184, szz_ot184, f184_0⟩ := hQ184
    have N184 := Fr.app N183 N184q
    have g_ot184 : n0 ≤ ot184 := Nat.le_trans (own_z0 O185) szz_ot184
    have sz_ot184 : h0.size ≤ ot184 := Nat.le_trans (Nat.le_trans (Nat.le_refl _) K183.1) szz_ot184
    have ne_ot183_ot184 : ot183 ≠ ot184 := Nat.ne_of_lt (Nat.lt_of_lt_of_le f183_0.lt szz_ot184)
    refine g_astore X184 hx (bb at_46) rfl (l' := #[vI p1, vI p2, vI p3, vI p4, vI p5, vI p6, vI 1, vI 2, vI (((p1.toUInt32 >>> ((1 : Int32) &&& 31).toUInt32).toInt32) &&& (3 : Int32)), vR ot183, vR ot184, .unset, .unset, .unset, .unset, .unset]) rfl ?_
    refine g_iload X184 hx (bb at_48) rfl ?_
    refine g_iloadN X184 hx (bb at_50) rfl ?_
    have O187 := (O185.keep K184 all0)
    refine gcS X184 hx hZ hml hown (ww 0 rfl) (ww 2 rfl) (ww 3 rfl) (ww 1 rfl) rfl (rm_tuple2 l Z a0 ww [] p4 T184.heap n0 (own_z0 O187) O187 S_CS) pd__ZI__I_6 (bb at_51) 0 rfl (fun T186 L186 v186 X186 hQ186 => ?_)
    obtain ⟨ot186, kt186, rfl, N186q, K186, szz_ot186, f186_0⟩ := hQ186
    have N186 := Fr.app N184 N186q
    have g_ot186 : n0 ≤ ot186 := Nat.le_trans (own_z0 O187) szz_ot186
    have sz_ot186 : h0.size ≤ ot186 := Nat.le_trans (Nat.le_trans (Nat.le_trans (Nat.le_refl _) K183.1) K184.1) szz_ot186
    have F188 := (f183_0.keep K184 nin0)
    have ne_ot183_ot186 : ot183 ≠ ot186 := Nat.ne_of_lt (Nat.lt_of_lt_of_le F188.lt szz_ot186)
    have ne_ot184_ot186 : ot184 ≠ ot186 := Nat.ne_of_lt (Nat.lt_of_lt_of_le f184_0.lt szz_ot186)
    refine g_astore X186 hx (bb at_54) rfl (l' := #[vI p1, vI p2, vI p3, vI p4, vI p5, vI p6, vI 1, vI 2, vI (((p1.toUInt32 >>> ((1 : Int32) &&& 31).toUInt32).toInt32) &&& (3 : Int32)), vR ot183, vR ot184, vR ot186, .unset, .unset, .unset, .unset]) rfl ?_
    refine g_iload X186 hx (bb at_56) rfl ?_
    refine g_iload X186 hx (bb at_58) rfl ?_
    have O190 := (O187.keep K186 all0)
    refine gcS X186 hx hZ hml hown (ww 0 rfl) (ww 2 rfl) (ww 3 rfl) (ww 1 rfl) rfl (rm_tuple2 l Z a0 ww [] p5 T186.heap n0 (own_z0 O190) O190 S_CS) pd__ZI__I_6 (bb at_60) 0 rfl (fun T189 L189 v189 X189 hQ189 => ?_)
    obtain ⟨ot189, kt189, rfl, N189q, K189, szz_ot189, f189_0⟩ := hQ189
    have N189 := Fr.app N186 N189q
    have g_ot189 : n0 ≤ ot189 := Nat.le_trans (own_z0 O190) szz_ot189
    have sz_ot189 : h0.size ≤ ot189 := Nat.le_trans (Nat.le_trans (Nat.le_trans (Nat.le_trans (Nat.le_refl _) K183.1) K184.1) K186.1) szz_ot189
    have F191 := (F188.keep K186 nin0)
    have ne_ot183_ot189 : ot183 ≠ ot189 := Nat.ne_of_lt (Nat.lt_of_lt_of_le F191.lt szz_ot189)
    have F192 := (f184_0.keep K186 nin0)
    have ne_ot184_ot189 : ot184 ≠ ot189 := Nat.ne_of_lt (Nat.lt_of_lt_of_le F192.lt szz_ot189)
    have ne_ot186_ot189 : ot186 ≠ ot189 := Nat.ne_of_lt (Nat.lt_of_lt_of_le f186_0.lt szz_ot189)
    refine g_astore X189 hx (bb at_63) rfl (l' := #[vI p1, vI p2, vI p3, vI p4, vI p5, vI p6, vI 1, vI 2, vI (((p1.toUInt32 >>> ((1 : Int32) &&& 31).toUInt32).toInt32) &&& (3 : Int32)), vR ot183, vR ot184, vR ot186, vR ot189, .unset, .unset, .unset]) rfl ?_
    refine g_iload X189 hx (bb at_65) rfl ?_
    refine g_iload X189 hx (bb at_67) rfl ?_
    have O194 := (O190.keep K189 all0)
    refine gcS X189 hx hZ hml hown (ww 0 rfl) (ww 2 rfl) (ww 3 rfl) (ww 1 rfl) rfl (rm_tuple2 l Z a0 ww [] p6 T189.heap n0 (own_z0 O194) O194 S_CS) pd__ZI__I_6 (bb at_69) 0 rfl (fun T193 L193 v193 X193 hQ193 => ?_)
    obtain ⟨ot193, kt193, rfl, N193q, K193, szz_ot193, f193_0⟩ := hQ193
    have N193 := Fr.app N189 N193q
    have g_ot193 : n0 ≤ ot193 := Nat.le_trans (own_z0 O194) szz_ot193
    have sz_ot193 : h0.size ≤ ot193 := Nat.le_trans (Nat.le_trans (Nat.le_trans (Nat.le_trans (Nat.le_trans (Nat.le_refl _) K183.1) K184.1) K186.1) K189.1) szz_ot193
    have F195 := (F191.keep K189 nin0)
    have ne_ot183_ot193 : ot183 ≠ ot193 := Nat.ne_of_lt (Nat.lt_of_lt_of_le F195.lt szz_ot193)
    have F196 := (F192.keep K189 nin0)
    have ne_ot184_ot193 : ot184 ≠ ot193 := Nat.ne_of_lt (Nat.lt_of_lt_of_le F196.lt szz_ot193)
    have F197 := (f186_0.keep K189 nin0)
    have ne_ot186_ot193 : ot186 ≠ ot193 := Nat.ne_of_lt (Nat.lt_of_lt_of_le F197.lt szz_ot193)
    have ne_ot189_ot193 : ot189 ≠ ot193 := Nat.ne_of_lt (Nat.lt_of_lt_of_le f189_0.lt szz_ot193)
    refine g_astore X193 hx (bb at_72) rfl (l' := #[vI p1, vI p2, vI p3, vI p4, vI p5, vI p6, vI 1, vI 2, vI (((p1.toUInt32 >>> ((1 : Int32) &&& 31).toUInt32).toInt32) &&& (3 : Int32)), vR ot183, vR ot184, vR ot186, vR ot189, vR ot193, .unset, .unset]) rfl ?_
    have O199 := (O194.keep K193 all0)
    obtain ⟨T198, h198, X198, e198, E198, A198, D198, -, st198⟩ := newO X193 hx hZ hown (ww 5 rfl) (ww 6 rfl) (ww 7 rfl) rfl (g := (mkF m 74 #[vI p1, vI p2, vI p3, vI p4, vI p5, vI p6, vI 1, vI 2, vI (((p1.toUInt32 >>> ((1 : Int32) &&& 31).toUInt32).toInt32) &&& (3 : Int32)), vR ot183, vR ot184, vR ot186, vR ot189, vR ot193, .unset, .unset] [])) rfl (bb at_74) (by decide) (by decide)
    obtain ⟨b198, q_b198⟩ : ∃ z, z = (T193.heap).size := ⟨_, rfl⟩
    rw [← q_b198] at A198 D198 st198
    have g_b198 : n0 ≤ b198 := Nat.le_trans (own_z0 O199) (Nat.le_of_eq q_b198.symm)
    have sz_b198 : h0.size ≤ b198 := Nat.le_trans (Nat.le_trans (Nat.le_trans (Nat.le_trans (Nat.le_trans (Nat.le_trans (Nat.le_refl _) K183.1) K184.1) K186.1) K189.1) K193.1) (Nat.le_of_eq q_b198.symm)
    have F200 := (F195.keep K193 nin0)
    have ne_ot183_b198 : ot183 ≠ b198 := Nat.ne_of_lt (Nat.lt_of_lt_of_le F200.lt (Nat.le_of_eq q_b198.symm))
    have F201 := (F196.keep K193 nin0)
    have ne_ot184_b198 : ot184 ≠ b198 := Nat.ne_of_lt (Nat.lt_of_lt_of_le F201.lt (Nat.le_of_eq q_b198.symm))
    have F202 := (F197.keep K193 nin0)
    have ne_ot186_b198 : ot186 ≠ b198 := Nat.ne_of_lt (Nat.lt_of_lt_of_le F202.lt (Nat.le_of_eq q_b198.symm))
    have F203 := (f189_0.keep K193 nin0)
    have ne_ot189_b198 : ot189 ≠ b198 := Nat.ne_of_lt (Nat.lt_of_lt_of_le F203.lt (Nat.le_of_eq q_b198.symm))
    have ne_ot193_b198 : ot193 ≠ b198 := Nat.ne_of_lt (Nat.lt_of_lt_of_le f193_0.lt (Nat.le_of_eq q_b198.symm))
    refine gl st198 ?_
    have F_wide_b198 : Fld Z h198 b198 cRV "wide" "[[I" .null := D198 (Or.inl (ww 17 rfl)) (ty := (.array (.array .int))) (by decide)
    have F_narrow_b198 : Fld Z h198 b198 cRV "narrow" "[[C" .null := D198 (Or.inl (ww 21 rfl)) (ty := (.array (.array .char))) (by decide)
    have F_arity_b198 : Fld Z h198 b198 cRV "arity" "I" (.int 0) := D198 (Or.inr (ww 23 rfl)) (ty := .int) (by decide)
    have F_bases_b198 : Fld Z h198 b198 cRV "bases" "[I" .null := D198 (Or.inl (ww 25 rfl)) (ty := (.array .int)) (by decide)
    have F_lowest_b198 : Fld Z h198 b198 cRV "lowest" "[I" .null := D198 (Or.inr (ww 27 rfl)) (ty := (.array .int)) (by decide)
    have F_highest_b198 : Fld Z h198 b198 cRV "highest" "[I" .null := D198 (Or.inr (ww 29 rfl)) (ty := (.array .int)) (by decide)
    have F_rows_b198 : Fld Z h198 b198 cRV "rows" "I" (.int 0) := D198 (Or.inl (ww 38 rfl)) (ty := .int) (by decide)
    refine g_dup X198 hx (bb at_77) rfl ?_
    refine g_iload X198 hx (bb at_78) rfl ?_
    have O205 := (O199.ext E198)
    refine gcI X198 hx hZ hml hown (ww 8 rfl) (ww 7 rfl) (ww 10 rfl) (ww 9 rfl) e198 (rm_rvInit2 l Z a0 ww [] b198 h198 n0 (own_z0 O205) O205 S_CS A198 F_arity_b198 F_rows_b198 F_wide_b198 F_narrow_b198 F_bases_b198 F_lowest_b198 F_highest_b198 g_b198) pd__I_V_4 rfl (bb at_80) 1 rfl (fun T204 L204 v204 X204 hQ204 => ?_)
    obtain ⟨ow204, on204, ob204, ol204, oh204, ov204, kw_204, kn_204, kb_204, kl_204, kh_204, kv_204, rfl, N204q, K204, sz_ow204, sz_on204, sz_ob204, sz_ol204, sz_oh204, sz_ov204, ne_ow204_on204, ne_ow204_ob204, ne_ow204_ol204, ne_ow204_oh204, ne_ow204_ov204, ne_on204_ob204, ne_on204_ol204, ne_on204_oh204, ne_on204_ov204, ne_ob204_ol204, ne_ob204_oh204, ne_ob204_ov204, ne_ol204_oh204, ne_ol204_ov204, ne_oh204_ov204, f204_0, f204_1, f204_2, f204_3, f204_4, f204_5, f204_6, f204_7, f204_8, f204_9, f204_10, f204_11, f204_12, f204_13, f204_14, f204_15⟩ := hQ204
    have N204 := Fr.app N193 N204q
    have szz_ow204 := sz_ow204
    have g_ow204 : n0 ≤ ow204 := Nat.le_trans (own_z0 O205) szz_ow204
    have sz_ow204 : h0.size ≤ ow204 := Nat.le_trans (Nat.le_trans (Nat.le_trans (Nat.le_trans (Nat.le_trans (Nat.le_trans (Nat.le_trans (Nat.le_refl _) K183.1) K184.1) K186.1) K189.1) K193.1) E198.1) szz_ow204
    have F206 := (F200.ext E198)
    have ne_ot183_ow204 : ot183 ≠ ow204 := Nat.ne_of_lt (Nat.lt_of_lt_of_le F206.lt szz_ow204)
    have F207 := (F201.ext E198)
    have ne_ot184_ow204 : ot184 ≠ ow204 := Nat.ne_of_lt (Nat.lt_of_lt_of_le F207.lt szz_ow204)
    have F208 := (F202.ext E198)
    have ne_ot186_ow204 : ot186 ≠ ow204 := Nat.ne_of_lt (Nat.lt_of_lt_of_le F208.lt szz_ow204)
    have F209 := (F203.ext E198)
    have ne_ot189_ow204 : ot189 ≠ ow204 := Nat.ne_of_lt (Nat.lt_of_lt_of_le F209.lt szz_ow204)
    have F210 := (f193_0.ext E198)
    have ne_ot193_ow204 : ot193 ≠ ow204 := Nat.ne_of_lt (Nat.lt_of_lt_of_le F210.lt szz_ow204)
    have ne_b198_ow204 : b198 ≠ ow204 := Nat.ne_of_lt (Nat.lt_of_lt_of_le A198.lt szz_ow204)
    have szz_on204 := sz_on204
    have g_on204 : n0 ≤ on204 := Nat.le_trans (own_z0 O205) szz_on204
    have sz_on204 : h0.size ≤ on204 := Nat.le_trans (Nat.le_trans (Nat.le_trans (Nat.le_trans (Nat.le_trans (Nat.le_trans (Nat.le_trans (Nat.le_refl _) K183.1) K184.1) K186.1) K189.1) K193.1) E198.1) szz_on204
    have ne_ot183_on204 : ot183 ≠ on204 := Nat.ne_of_lt (Nat.lt_of_lt_of_le F206.lt szz_on204)
    have ne_ot184_on204 : ot184 ≠ on204 := Nat.ne_of_lt (Nat.lt_of_lt_of_le F207.lt szz_on204)
    have ne_ot186_on204 : ot186 ≠ on204 := Nat.ne_of_lt (Nat.lt_of_lt_of_le F208.lt szz_on204)
    have ne_ot189_on204 : ot189 ≠ on204 := Nat.ne_of_lt (Nat.lt_of_lt_of_le F209.lt szz_on204)
    have ne_ot193_on204 : ot193 ≠ on204 := Nat.ne_of_lt (Nat.lt_of_lt_of_le F210.lt szz_on204)
    have ne_b198_on204 : b198 ≠ on204 := Nat.ne_of_lt (Nat.lt_of_lt_of_le A198.lt szz_on204)
    have szz_ob204 := sz_ob204
    have g_ob204 : n0 ≤ ob204 := Nat.le_trans (own_z0 O205) szz_ob204
    have sz_ob204 : h0.size ≤ ob204 := Nat.le_trans (Nat.le_trans (Nat.le_trans (Nat.le_trans (Nat.le_trans (Nat.le_trans (Nat.le_trans (Nat.le_refl _) K183.1) K184.1) K186.1) K189.1) K193.1) E198.1) szz_ob204
    have ne_ot183_ob204 : ot183 ≠ ob204 := Nat.ne_of_lt (Nat.lt_of_lt_of_le F206.lt szz_ob204)
    have ne_ot184_ob204 : ot184 ≠ ob204 := Nat.ne_of_lt (Nat.lt_of_lt_of_le F207.lt szz_ob204)
    have ne_ot186_ob204 : ot186 ≠ ob204 := Nat.ne_of_lt (Nat.lt_of_lt_of_le F208.lt szz_ob204)
    have ne_ot189_ob204 : ot189 ≠ ob204 := Nat.ne_of_lt (Nat.lt_of_lt_of_le F209.lt szz_ob204)
    have ne_ot193_ob204 : ot193 ≠ ob204 := Nat.ne_of_lt (Nat.lt_of_lt_of_le F210.lt szz_ob204)
    have ne_b198_ob204 : b198 ≠ ob204 := Nat.ne_of_lt (Nat.lt_of_lt_of_le A198.lt szz_ob204)
    have szz_ol204 := sz_ol204
    have g_ol204 : n0 ≤ ol204 := Nat.le_trans (own_z0 O205) szz_ol204
    have sz_ol204 : h0.size ≤ ol204 := Nat.le_trans (Nat.le_trans (Nat.le_trans (Nat.le_trans (Nat.le_trans (Nat.le_trans (Nat.le_trans (Nat.le_refl _) K183.1) K184.1) K186.1) K189.1) K193.1) E198.1) szz_ol204
    have ne_ot183_ol204 : ot183 ≠ ol204 := Nat.ne_of_lt (Nat.lt_of_lt_of_le F206.lt szz_ol204)
    have ne_ot184_ol204 : ot184 ≠ ol204 := Nat.ne_of_lt (Nat.lt_of_lt_of_le F207.lt szz_ol204)
    have ne_ot186_ol204 : ot186 ≠ ol204 := Nat.ne_of_lt (Nat.lt_of_lt_of_le F208.lt szz_ol204)
    have ne_ot189_ol204 : ot189 ≠ ol204 := Nat.ne_of_lt (Nat.lt_of_lt_of_le F209.lt szz_ol204)
    have ne_ot193_ol204 : ot193 ≠ ol204 := Nat.ne_of_lt (Nat.lt_of_lt_of_le F210.lt szz_ol204)
    have ne_b198_ol204 : b198 ≠ ol204 := Nat.ne_of_lt (Nat.lt_of_lt_of_le A198.lt szz_ol204)
    have szz_oh204 := sz_oh204
    have g_oh204 : n0 ≤ oh204 := Nat.le_trans (own_z0 O205) szz_oh204
    have sz_oh204 : h0.size ≤ oh204 := Nat.le_trans (Nat.le_trans (Nat.le_trans (Nat.le_trans (Nat.le_trans (Nat.le_trans (Nat.le_trans (Nat.le_refl _) K183.1) K184.1) K186.1) K189.1) K193.1) E198.1) szz_oh204
    have ne_ot183_oh204 : ot183 ≠ oh204 := Nat.ne_of_lt (Nat.lt_of_lt_of_le F206.lt szz_oh204)
    have ne_ot184_oh204 : ot184 ≠ oh204 := Nat.ne_of_lt (Nat.lt_of_lt_of_le F207.lt szz_oh204)
    have ne_ot186_oh204 : ot186 ≠ oh204 := Nat.ne_of_lt (Nat.lt_of_lt_of_le F208.lt szz_oh204)
    have ne_ot189_oh204 : ot189 ≠ oh204 := Nat.ne_of_lt (Nat.lt_of_lt_of_le F209.lt szz_oh204)
    have ne_ot193_oh204 : ot193 ≠ oh204 := Nat.ne_of_lt (Nat.lt_of_lt_of_le F210.lt szz_oh204)
    have ne_b198_oh204 : b198 ≠ oh204 := Nat.ne_of_lt (Nat.lt_of_lt_of_le A198.lt szz_oh204)
    have szz_ov204 := sz_ov204
    have g_ov204 : n0 ≤ ov204 := Nat.le_trans (own_z0 O205) szz_ov204
    have sz_ov204 : h0.size ≤ ov204 := Nat.le_trans (Nat.le_trans (Nat.le_trans (Nat.le_trans (Nat.le_trans (Nat.le_trans (Nat.le_trans (Nat.le_refl _) K183.1) K184.1) K186.1) K189.1) K193.1) E198.1) szz_ov204
    have ne_ot183_ov204 : ot183 ≠ ov204 := Nat.ne_of_lt (Nat.lt_of_lt_of_le F206.lt szz_ov204)
    have ne_ot184_ov204 : ot184 ≠ ov204 := Nat.ne_of_lt (Nat.lt_of_lt_of_le F207.lt szz_ov204)
    have ne_ot186_ov204 : ot186 ≠ ov204 := Nat.ne_of_lt (Nat.lt_of_lt_of_le F208.lt szz_ov204)
    have ne_ot189_ov204 : ot189 ≠ ov204 := Nat.ne_of_lt (Nat.lt_of_lt_of_le F209.lt szz_ov204)
    have ne_ot193_ov204 : ot193 ≠ ov204 := Nat.ne_of_lt (Nat.lt_of_lt_of_le F210.lt szz_ov204)
    have ne_b198_ov204 : b198 ≠ ov204 := Nat.ne_of_lt (Nat.lt_of_lt_of_le A198.lt szz_ov204)
    refine g_astore X204 hx (bb at_83) rfl (l' := #[vI p1, vI p2, vI p3, vI p4, vI p5, vI p6, vI 1, vI 2, vI (((p1.toUInt32 >>> ((1 : Int32) &&& 31).toUInt32).toInt32) &&& (3 : Int32)), vR ot183, vR ot184, vR ot186, vR ot189, vR ot193, vR b198, .unset]) rfl ?_
    suffices hm211 : ∀ (T' : State) (L' : List Loc) (h' : Heap) (ov_211 : Addr) (kv_211 : ClassId) (mb0_211 mb1_211 ml0_211 ml1_211 mu0_211 mu1_211 mx0_211 mx1_211 mx2_211 mx3_211 mx4_211 mx5_211 mx6_211 mx7_211 mx8_211 mx9_211 mx10_211 mx11_211 mx12_211 mx13_211 mx14_211 mx15_211 : Int32), Stand p l e room_1 s m #[(.int p1), (.int p2), (.int p3), (.int p4), (.int p5), (.int p6)] below meth c T' L' 14 73 → T'.heap = h' → Fr n0 L' → Old Z n0 h' → h0.size ≤ h'.size → n0 ≤ ov_211 → b198 ≠ ov_211 → ow204 ≠ ov_211 → on204 ≠ ov_211 → ob204 ≠ ov_211 → ol204 ≠ ov_211 → oh204 ≠ ov_211 → ot189 ≠ ov_211 → ot193 ≠ ov_211 → Exa Z h' b198 cRV → Fld Z h' b198 cRV "arity" "I" (.int 2) → Fld Z h' b198 cRV "rows" "I" (.int 0) → Fld Z h' b198 cRV "wide" "[[I" (.ref ow204) → Fld Z h' b198 cRV "narrow" "[[C" (.ref on204) → Fld Z h' b198 cRV "bases" "[I" (.ref ob204) → Fld Z h' b198 cRV "lowest" "[I" (.ref ol204) → Fld Z h' b198 cRV "highest" "[I" (.ref oh204) → Arv Z h' ow204 kw_204 (.array .int) (1 : Int32) [.null] .null → Arv Z h' on204 kn_204 (.array .char) (1 : Int32) [(.ref ov_211)] .null → Arv Z h' ob204 kb_204 .int (2 : Int32) [(.int mb0_211), (.int mb1_211)] (.int 0) → Arv Z h' ol204 kl_204 .int (2 : Int32) [(.int ml0_211), (.int ml1_211)] (.int 0) → Arv Z h' oh204 kh_204 .int (2 : Int32) [(.int mu0_211), (.int mu1_211)] (.int 0) → Arv Z h' ov_211 kv_211 .char (16 : Int32) [(.int mx0_211), (.int mx1_211), (.int mx2_211), (.int mx3_211), (.int mx4_211), (.int mx5_211), (.int mx6_211), (.int mx7_211), (.int mx8_211), (.int mx9_211), (.int mx10_211), (.int mx11_211), (.int mx12_211), (.int mx13_211), (.int mx14_211), (.int mx15_211)] (.int 0) → Arv Z h' ot189 kt189 .int (2 : Int32) [(.int p5), (.int (p5 ^^^ (-1 : Int32)))] (.int 0) → Arv Z h' ot193 kt193 .int (2 : Int32) [(.int p6), (.int (p6 ^^^ (-1 : Int32)))] (.int 0) → Gl p e below R0 T' (mkF m 129 #[vI p1, vI p2, vI p3, vI p4, vI p5, vI p6, vI 1, vI 2, vI (((p1.toUInt32 >>> ((1 : Int32) &&& 31).toUInt32).toInt32) &&& (3 : Int32)), vR ot183, vR ot184, vR ot186, vR ot189, vR ot193, vR b198, .unset] []) by
      refine g_iload X204 hx (bb at_85) rfl ?_
      refine g_iconst X204 hx (bb at_87) ?_
      by_cases g212 : (((p1.toUInt32 >>> ((1 : Int32) &&& 31).toUInt32).toInt32) &&& (3 : Int32)) < (1 : Int32)
      · skip
        refine g_icmpYes X204 hx (pc' := 98) (bb at_88) (tlt g212).1 (by decide) (by decide) ?_
        refine g_iload X204 hx (bb at_98) rfl ?_
        refine g_iconst X204 hx (bb at_100) ?_
        refine g_icmpYes X204 hx (pc' := 111) (bb at_101) (tlt (own_l12 g212)).1 (by decide) (by decide) ?_
        refine g_iload X204 hx (bb at_111) rfl ?_
        refine g_iconst X204 hx (bb at_113) ?_
        refine g_icmpYes X204 hx (pc' := 124) (bb at_114) (tlt (own_l23 (own_l12 g212))).1 (by decide) (by decide) ?_
        refine g_aload X204 hx (bb at_124) rfl rfl ?_
        have O214 := (O205.keep K204 (allS g_b198 all0))
        refine gcV X204 hx hZ hml hown (ww 32 rfl) (ww 7 rfl) (ww 36 rfl) (ww 33 rfl) (ww 35 rfl) (ww 34 rfl) rfl f204_0 (rm_clear2N l Z a0 ww [] b198 ow204 on204 ob204 ol204 oh204 ov204 kw_204 kn_204 (0 : Int32) T204.heap n0 (own_z0 O214) O214 S_CS f204_0 f204_1 f204_2 f204_3 f204_4 f204_5 f204_6 f204_7 f204_8 f204_10 g_b198 ne_b198_ow204 ne_b198_on204) pd___V_3 (bb at_126) 0 rfl (fun T213 L213 v213 X213 hQ213 => ?_)
        obtain ⟨rfl, N213q, K213, f213_0, f213_1, f213_2, f213_3, f213_4, f213_5, f213_6⟩ := hQ213
        have N213 := Fr.app N204 N213q
        have O215 := (O214.keep K213 (allS g_b198 all0))
        have F216 := (f204_0.keep K213)
        have F217 := (f204_8.keep K213 (ninS (Ne.symm ne_b198_ow204) nin0))
        have F218 := (f204_10.keep K213 (ninS (Ne.symm ne_b198_on204) nin0))
        have F219 := (f204_12.keep K213 (ninS (Ne.symm ne_b198_ob204) nin0))
        have F220 := (f204_13.keep K213 (ninS (Ne.symm ne_b198_ol204) nin0))
        have F221 := (f204_14.keep K213 (ninS (Ne.symm ne_b198_oh204) nin0))
        have F222 := (f204_15.keep K213 (ninS (Ne.symm ne_b198_ov204) nin0))
        have F223 := ((F209.keep K204 (ninS ne_ot189_b198 nin0)).keep K213 (ninS ne_ot189_b198 nin0))
        have F224 := ((F210.keep K204 (ninS ne_ot193_b198 nin0)).keep K213 (ninS ne_ot193_b198 nin0))
        exact hm211 _ _ _ ov204 kv_204 (0 : Int32) (0 : Int32) (0 : Int32) (0 : Int32) (0 : Int32) (0 : Int32) (0 : Int32) (0 : Int32) (0 : Int32) (0 : Int32) (0 : Int32) (0 : Int32) (0 : Int32) (0 : Int32) (0 : Int32) (0 : Int32) (0 : Int32) (0 : Int32) (0 : Int32) (0 : Int32) (0 : Int32) (0 : Int32) (own_more X213 (by decide) (by decide)) rfl N213 O215 (Nat.le_trans (Nat.le_trans (Nat.le_trans (Nat.le_trans (Nat.le_trans (Nat.le_trans (Nat.le_trans (Nat.le_trans (Nat.le_refl _) K183.1) K184.1) K186.1) K189.1) K193.1) E198.1) K204.1) K213.1) g_ov204 ne_b198_ov204 ne_ow204_ov204 ne_on204_ov204 ne_ob204_ov204 ne_ol204_ov204 ne_oh204_ov204 ne_ot189_ov204 ne_ot193_ov204 F216 f213_0 f213_1 f213_2 f213_3 f213_4 f213_5 f213_6 F217 F218 F219 F220 F221 F222 F223 F224
      · skip
        refine g_icmpNo X204 hx (bb at_88) (flt g212).1 ?_
        refine g_aload X204 hx (bb at_91) rfl rfl ?_
        refine g_aload X204 hx (bb at_93) rfl rfl ?_
        have F226 := (F206.keep K204 (ninS ne_ot183_b198 nin0))
        have O227 := (O205.keep K204 (allS g_b198 all0))
        refine gcV X204 hx hZ hml hown (ww 39 rfl) (ww 7 rfl) (ww 43 rfl) (ww 40 rfl) (ww 42 rfl) (ww 41 rfl) rfl f204_0 (rm_add2N0 l Z a0 ww [] b198 ot183 ow204 on204 ob204 ol204 oh204 ov204 kw_204 kn_204 kb_204 kl_204 kh_204 kv_204 (0 : Int32) (0 : Int32) (0 : Int32) (0 : Int32) (0 : Int32) (0 : Int32) (0 : Int32) (0 : Int32) (0 : Int32) (0 : Int32) (0 : Int32) (0 : Int32) (0 : Int32) (0 : Int32) (0 : Int32) (0 : Int32) (0 : Int32) (0 : Int32) (0 : Int32) (0 : Int32) (0 : Int32) (0 : Int32) kt183 p2 (p2 ^^^ (-1 : Int32)) T204.heap n0 (own_z0 O227) O227 S_CS f204_0 f204_1 f204_2 f204_3 f204_4 f204_5 f204_6 f204_7 f204_8 f204_9 f204_10 f204_11 f204_12 f204_13 f204_14 f204_15 F226 g_b198 g_ob204 g_ol204 g_oh204 g_ov204 ne_b198_ow204 ne_b198_on204 ne_b198_ob204 ne_b198_ol204 ne_b198_oh204 ne_b198_ov204 ne_ow204_on204 ne_ow204_ob204 ne_ow204_ol204 ne_ow204_oh204 ne_ow204_ov204 ne_on204_ob204 ne_on204_ol204 ne_on204_oh204 ne_on204_ov204 ne_ob204_ol204 ne_ob204_oh204 ne_ob204_ov204 ne_ol204_oh204 ne_ol204_ov204 ne_oh204_ov204 ne_ot183_b198 ne_ot183_ow204 ne_ot183_on204 ne_ot183_ob204 ne_ot183_ol204 ne_ot183_oh204 ne_ot183_ov204) pd___I_V_5 (bb at_95) 0 rfl (fun T225 L225 v225 X225 hQ225 => ?_)
        obtain ⟨rfl, N225q, K225, f225_0, f225_1, f225_2, f225_3, f225_4, f225_5, f225_6, f225_7, f225_8, f225_9, f225_10, f225_11, f225_12, f225_13, f225_14, f225_15⟩ := hQ225
        have N225 := Fr.app N204 N225q
        refine g_iload X225 hx (bb at_98) rfl ?_
        refine g_iconst X225 hx (bb at_100) ?_
        by_cases g228 : (((p1.toUInt32 >>> ((1 : Int32) &&& 31).toUInt32).toInt32) &&& (3 : Int32)) < (2 : Int32)
        · skip
          refine g_icmpYes X225 hx (pc' := 111) (bb at_101) (tlt g228).1 (by decide) (by decide) ?_
          refine g_iload X225 hx (bb at_111) rfl ?_
          refine g_iconst X225 hx (bb at_113) ?_
          refine g_icmpYes X225 hx (pc' := 124) (bb at_114) (tlt (own_l23 g228)).1 (by decide) (by decide) ?_
          refine g_aload X225 hx (bb at_124) rfl rfl ?_
          have O230 := (O227.keep K225 (allS g_b198 (allS g_ob204 (allS g_ol204 (allS g_oh204 (allS g_ov204 all0))))))
          refine gcV X225 hx hZ hml hown (ww 32 rfl) (ww 7 rfl) (ww 36 rfl) (ww 33 rfl) (ww 35 rfl) (ww 34 rfl) rfl f225_0 (rm_clear2N l Z a0 ww [] b198 ow204 on204 ob204 ol204 oh204 ov204 kw_204 kn_204 (1 : Int32) T225.heap n0 (own_z0 O230) O230 S_CS f225_0 f225_1 f225_2 f225_3 f225_4 f225_5 f225_6 f225_7 f225_8 f225_10 g_b198 ne_b198_ow204 ne_b198_on204) pd___V_3 (bb at_126) 0 rfl (fun T229 L229 v229 X229 hQ229 => ?_)
          obtain ⟨rfl, N229q, K229, f229_0, f229_1, f229_2, f229_3, f229_4, f229_5, f229_6⟩ := hQ229
          have N229 := Fr.app N225 N229q
          have O231 := (O230.keep K229 (allS g_b198 all0))
          have F232 := (f225_0.keep K229)
          have F233 := (f225_8.keep K229 (ninS (Ne.symm ne_b198_ow204) nin0))
          have F234 := (f225_10.keep K229 (ninS (Ne.symm ne_b198_on204) nin0))
          have F235 := (f225_12.keep K229 (ninS (Ne.symm ne_b198_ob204) nin0))
          have F236 := (f225_13.keep K229 (ninS (Ne.symm ne_b198_ol204) nin0))
          have F237 := (f225_14.keep K229 (ninS (Ne.symm ne_b198_oh204) nin0))
          have F238 := (f225_15.keep K229 (ninS (Ne.symm ne_b198_ov204) nin0))
          have F239 := (((F209.keep K204 (ninS ne_ot189_b198 nin0)).keep K225 (ninS ne_ot189_b198 (ninS ne_ot189_ob204 (ninS ne_ot189_ol204 (ninS ne_ot189_oh204 (ninS ne_ot189_ov204 nin0)))))).keep K229 (ninS ne_ot189_b198 nin0))
          have F240 := (((F210.keep K204 (ninS ne_ot193_b198 nin0)).keep K225 (ninS ne_ot193_b198 (ninS ne_ot193_ob204 (ninS ne_ot193_ol204 (ninS ne_ot193_oh204 (ninS ne_ot193_ov204 nin0)))))).keep K229 (ninS ne_ot193_b198 nin0))
          exact hm211 _ _ _ ov204 kv_204 (f_base p2 p2) (f_base (p2 ^^^ (-1 : Int32)) (p2 ^^^ (-1 : Int32))) p2 (p2 ^^^ (-1 : Int32)) p2 (p2 ^^^ (-1 : Int32)) (nar .char (p2 - (f_base p2 p2))) (nar .char ((p2 ^^^ (-1 : Int32)) - (f_base (p2 ^^^ (-1 : Int32)) (p2 ^^^ (-1 : Int32))))) (0 : Int32) (0 : Int32) (0 : Int32) (0 : Int32) (0 : Int32) (0 : Int32) (0 : Int32) (0 : Int32) (0 : Int32) (0 : Int32) (0 : Int32) (0 : Int32) (0 : Int32) (0 : Int32) (own_more X229 (by decide) (by decide)) rfl N229 O231 (Nat.le_trans (Nat.le_trans (Nat.le_trans (Nat.le_trans (Nat.le_trans (Nat.le_trans (Nat.le_trans (Nat.le_trans (Nat.le_trans (Nat.le_refl _) K183.1) K184.1) K186.1) K189.1) K193.1) E198.1) K204.1) K225.1) K229.1) g_ov204 ne_b198_ov204 ne_ow204_ov204 ne_on204_ov204 ne_ob204_ov204 ne_ol204_ov204 ne_oh204_ov204 ne_ot189_ov204 ne_ot193_ov204 F232 f229_0 f229_1 f229_2 f229_3 f229_4 f229_5 f229_6 F233 F234 F235 F236 F237 F238 F239 F240
        · skip
          refine g_icmpNo X225 hx (bb at_101) (flt g228).1 ?_
          refine g_aload X225 hx (bb at_104) rfl rfl ?_
          refine g_aload X225 hx (bb at_106) rfl rfl ?_
          by_cases g241 : ((lcmpW (((f_maxI p3 p2).toInt64) - ((f_minI p3 p2).toInt64)) (65536 : Int64)) < (0 : Int32)) ∧ ((lcmpW (((f_maxI (p3 ^^^ (-1 : Int32)) (p2 ^^^ (-1 : Int32))).toInt64) - ((f_minI (p3 ^^^ (-1 : Int32)) (p2 ^^^ (-1 : Int32))).toInt64)) (65536 : Int64)) < (0 : Int32))
          · skip
            have F243 := ((F207.keep K204 (ninS ne_ot184_b198 nin0)).keep K225 (ninS ne_ot184_b198 (ninS ne_ot184_ob204 (ninS ne_ot184_ol204 (ninS ne_ot184_oh204 (ninS ne_ot184_ov204 nin0))))))
            have O244 := (O227.keep K225 (allS g_b198 (allS g_ob204 (allS g_ol204 (allS g_oh204 (allS g_ov204 all0))))))
            refine gcV X225 hx hZ hml hown (ww 39 rfl) (ww 7 rfl) (ww 43 rfl) (ww 40 rfl) (ww 42 rfl) (ww 41 rfl) rfl f225_0 (rm_add2N1 l Z a0 ww [] b198 ot184 ow204 on204 ob204 ol204 oh204 ov204 kw_204 kn_204 kb_204 kl_204 kh_204 kv_204 (f_base p2 p2) (f_base (p2 ^^^ (-1 : Int32)) (p2 ^^^ (-1 : Int32))) p2 (p2 ^^^ (-1 : Int32)) p2 (p2 ^^^ (-1 : Int32)) p2 (p2 ^^^ (-1 : Int32)) (0 : Int32) (0 : Int32) (0 : Int32) (0 : Int32) (0 : Int32) (0 : Int32) (0 : Int32) (0 : Int32) (0 : Int32) (0 : Int32) (0 : Int32) (0 : Int32) (0 : Int32) (0 : Int32) kt184 p3 (p3 ^^^ (-1 : Int32)) T225.heap n0 (own_z0 O244) O244 S_CS f225_0 f225_1 f225_2 f225_3 f225_4 f225_5 f225_6 f225_7 f225_8 f225_9 f225_10 f225_11 f225_12 f225_13 f225_14 f225_15 F243 g_b198 g_ob204 g_ol204 g_oh204 g_ov204 ne_b198_ow204 ne_b198_on204 ne_b198_ob204 ne_b198_ol204 ne_b198_oh204 ne_b198_ov204 ne_ow204_on204 ne_ow204_ob204 ne_ow204_ol204 ne_ow204_oh204 ne_ow204_ov204 ne_on204_ob204 ne_on204_ol204 ne_on204_oh204 ne_on204_ov204 ne_ob204_ol204 ne_ob204_oh204 ne_ob204_ov204 ne_ol204_oh204 ne_ol204_ov204 ne_oh204_ov204 ne_ot184_b198 ne_ot184_ow204 ne_ot184_on204 ne_ot184_ob204 ne_ot184_ol204 ne_ot184_oh204 ne_ot184_ov204 g241.1 g241.2) pd___I_V_5 (bb at_108) 0 rfl (fun T242 L242 v242 X242 hQ242 => ?_)
            obtain ⟨rfl, N242q, K242, f242_0, f242_1, f242_2, f242_3, f242_4, f242_5, f242_6, f242_7, f242_8, f242_9, f242_10, f242_11, f242_12, f242_13, f242_14, f242_15⟩ := hQ242
            have N242 := Fr.app N225 N242q
            refine g_iload X242 hx (bb at_111) rfl ?_
            refine g_iconst X242 hx (bb at_113) ?_
            by_cases g245 : (((p1.toUInt32 >>> ((1 : Int32) &&& 31).toUInt32).toInt32) &&& (3 : Int32)) < (3 : Int32)
            · skip
              refine g_icmpYes X242 hx (pc' := 124) (bb at_114) (tlt g245).1 (by decide) (by decide) ?_
              refine g_aload X242 hx (bb at_124) rfl rfl ?_
              have O247 := (O244.keep K242 (allS g_b198 (allS g_ob204 (allS g_ol204 (allS g_oh204 (allS g_ov204 all0))))))
              refine gcV X242 hx hZ hml hown (ww 32 rfl) (ww 7 rfl) (ww 36 rfl) (ww 33 rfl) (ww 35 rfl) (ww 34 rfl) rfl f242_0 (rm_clear2N l Z a0 ww [] b198 ow204 on204 ob204 ol204 oh204 ov204 kw_204 kn_204 (2 : Int32) T242.heap n0 (own_z0 O247) O247 S_CS f242_0 f242_1 f242_2 f242_3 f242_4 f242_5 f242_6 f242_7 f242_8 f242_10 g_b198 ne_b198_ow204 ne_b198_on204) pd___V_3 (bb at_126) 0 rfl (fun T246 L246 v246 X246 hQ246 => ?_)
              obtain ⟨rfl, N246q, K246, f246_0, f246_1, f246_2, f246_3, f246_4, f246_5, f246_6⟩ := hQ246
              have N246 := Fr.app N242 N246q
              have O248 := (O247.keep K246 (allS g_b198 all0))
              have F249 := (f242_0.keep K246)
              have F250 := (f242_8.keep K246 (ninS (Ne.symm ne_b198_ow204) nin0))
              have F251 := (f242_10.keep K246 (ninS (Ne.symm ne_b198_on204) nin0))
              have F252 := (f242_12.keep K246 (ninS (Ne.symm ne_b198_ob204) nin0))
              have F253 := (f242_13.keep K246 (ninS (Ne.symm ne_b198_ol204) nin0))
              have F254 := (f242_14.keep K246 (ninS (Ne.symm ne_b198_oh204) nin0))
              have F255 := (f242_15.keep K246 (ninS (Ne.symm ne_b198_ov204) nin0))
              have F256 := ((((F209.keep K204 (ninS ne_ot189_b198 nin0)).keep K225 (ninS ne_ot189_b198 (ninS ne_ot189_ob204 (ninS ne_ot189_ol204 (ninS ne_ot189_oh204 (ninS ne_ot189_ov204 nin0)))))).keep K242 (ninS ne_ot189_b198 (ninS ne_ot189_ob204 (ninS ne_ot189_ol204 (ninS ne_ot189_oh204 (ninS ne_ot189_ov204 nin0)))))).keep K246 (ninS ne_ot189_b198 nin0))
              have F257 := ((((F210.keep K204 (ninS ne_ot193_b198 nin0)).keep K225 (ninS ne_ot193_b198 (ninS ne_ot193_ob204 (ninS ne_ot193_ol204 (ninS ne_ot193_oh204 (ninS ne_ot193_ov204 nin0)))))).keep K242 (ninS ne_ot193_b198 (ninS ne_ot193_ob204 (ninS ne_ot193_ol204 (ninS ne_ot193_oh204 (ninS ne_ot193_ov204 nin0)))))).keep K246 (ninS ne_ot193_b198 nin0))
              exact hm211 _ _ _ ov204 kv_204 (nbase (f_base p2 p2) p2 p2 p3) (nbase (f_base (p2 ^^^ (-1 : Int32)) (p2 ^^^ (-1 : Int32))) (p2 ^^^ (-1 : Int32)) (p2 ^^^ (-1 : Int32)) (p3 ^^^ (-1 : Int32))) (f_minI p3 p2) (f_minI (p3 ^^^ (-1 : Int32)) (p2 ^^^ (-1 : Int32))) (f_maxI p3 p2) (f_maxI (p3 ^^^ (-1 : Int32)) (p2 ^^^ (-1 : Int32))) (nar .char (p2 - (nbase (f_base p2 p2) p2 p2 p3))) (nar .char ((p2 ^^^ (-1 : Int32)) - (nbase (f_base (p2 ^^^ (-1 : Int32)) (p2 ^^^ (-1 : Int32))) (p2 ^^^ (-1 : Int32)) (p2 ^^^ (-1 : Int32)) (p3 ^^^ (-1 : Int32))))) (nar .char (p3 - (nbase (f_base p2 p2) p2 p2 p3))) (nar .char ((p3 ^^^ (-1 : Int32)) - (nbase (f_base (p2 ^^^ (-1 : Int32)) (p2 ^^^ (-1 : Int32))) (p2 ^^^ (-1 : Int32)) (p2 ^^^ (-1 : Int32)) (p3 ^^^ (-1 : Int32))))) (0 : Int32) (0 : Int32) (0 : Int32) (0 : Int32) (0 : Int32) (0 : Int32) (0 : Int32) (0 : Int32) (0 : Int32) (0 : Int32) (0 : Int32) (0 : Int32) (own_more X246 (by decide) (by decide)) rfl N246 O248 (Nat.le_trans (Nat.le_trans (Nat.le_trans (Nat.le_trans (Nat.le_trans (Nat.le_trans (Nat.le_trans (Nat.le_trans (Nat.le_trans (Nat.le_trans (Nat.le_refl _) K183.1) K184.1) K186.1) K189.1) K193.1) E198.1) K204.1) K225.1) K242.1) K246.1) g_ov204 ne_b198_ov204 ne_ow204_ov204 ne_on204_ov204 ne_ob204_ov204 ne_ol204_ov204 ne_oh204_ov204 ne_ot189_ov204 ne_ot193_ov204 F249 f246_0 f246_1 f246_2 f246_3 f246_4 f246_5 f246_6 F250 F251 F252 F253 F254 F255 F256 F257
            · skip
              refine g_icmpNo X242 hx (bb at_114) (flt g245).1 ?_
              refine g_aload X242 hx (bb at_117) rfl rfl ?_
              refine g_aload X242 hx (bb at_119) rfl rfl ?_
              by_cases g258 : ((lcmpW (((f_maxI p4 (f_maxI p3 p2)).toInt64) - ((f_minI p4 (f_minI p3 p2)).toInt64)) (65536 : Int64)) < (0 : Int32)) ∧ ((lcmpW (((f_maxI (p4 ^^^ (-1 : Int32)) (f_maxI (p3 ^^^ (-1 : Int32)) (p2 ^^^ (-1 : Int32)))).toInt64) - ((f_minI (p4 ^^^ (-1 : Int32)) (f_minI (p3 ^^^ (-1 : Int32)) (p2 ^^^ (-1 : Int32)))).toInt64)) (65536 : Int64)) < (0 : Int32))
              · skip
                have F260 := (((F208.keep K204 (ninS ne_ot186_b198 nin0)).keep K225 (ninS ne_ot186_b198 (ninS ne_ot186_ob204 (ninS ne_ot186_ol204 (ninS ne_ot186_oh204 (ninS ne_ot186_ov204 nin0)))))).keep K242 (ninS ne_ot186_b198 (ninS ne_ot186_ob204 (ninS ne_ot186_ol204 (ninS ne_ot186_oh204 (ninS ne_ot186_ov204 nin0))))))
                have O261 := (O244.keep K242 (allS g_b198 (allS g_ob204 (allS g_ol204 (allS g_oh204 (allS g_ov204 all0))))))
                refine gcV X242 hx hZ hml hown (ww 39 rfl) (ww 7 rfl) (ww 43 rfl) (ww 40 rfl) (ww 42 rfl) (ww 41 rfl) rfl f242_0 (rm_add2N2 l Z a0 ww [] b198 ot186 ow204 on204 ob204 ol204 oh204 ov204 kw_204 kn_204 kb_204 kl_204 kh_204 kv_204 (nbase (f_base p2 p2) p2 p2 p3) (nbase (f_base (p2 ^^^ (-1 : Int32)) (p2 ^^^ (-1 : Int32))) (p2 ^^^ (-1 : Int32)) (p2 ^^^ (-1 : Int32)) (p3 ^^^ (-1 : Int32))) (f_minI p3 p2) (f_minI (p3 ^^^ (-1 : Int32)) (p2 ^^^ (-1 : Int32))) (f_maxI p3 p2) (f_maxI (p3 ^^^ (-1 : Int32)) (p2 ^^^ (-1 : Int32))) p2 (p2 ^^^ (-1 : Int32)) p3 (p3 ^^^ (-1 : Int32)) (0 : Int32) (0 : Int32) (0 : Int32) (0 : Int32) (0 : Int32) (0 : Int32) (0 : Int32) (0 : Int32) (0 : Int32) (0 : Int32) (0 : Int32) (0 : Int32) kt186 p4 (p4 ^^^ (-1 : Int32)) T242.heap n0 (own_z0 O261) O261 S_CS f242_0 f242_1 f242_2 f242_3 f242_4 f242_5 f242_6 f242_7 f242_8 f242_9 f242_10 f242_11 f242_12 f242_13 f242_14 f242_15 F260 g_b198 g_ob204 g_ol204 g_oh204 g_ov204 ne_b198_ow204 ne_b198_on204 ne_b198_ob204 ne_b198_ol204 ne_b198_oh204 ne_b198_ov204 ne_ow204_on204 ne_ow204_ob204 ne_ow204_ol204 ne_ow204_oh204 ne_ow204_ov204 ne_on204_ob204 ne_on204_ol204 ne_on204_oh204 ne_on204_ov204 ne_ob204_ol204 ne_ob204_oh204 ne_ob204_ov204 ne_ol204_oh204 ne_ol204_ov204 ne_oh204_ov204 ne_ot186_b198 ne_ot186_ow204 ne_ot186_on204 ne_ot186_ob204 ne_ot186_ol204 ne_ot186_oh204 ne_ot186_ov204 g258.1 g258.2) pd___I_V_5 (bb at_121) 0 rfl (fun T259 L259 v259 X259 hQ259 => ?_)
                obtain ⟨rfl, N259q, K259, f259_0, f259_1, f259_2, f259_3, f259_4, f259_5, f259_6, f259_7, f259_8, f259_9, f259_10, f259_11, f259_12, f259_13, f259_14, f259_15⟩ := hQ259
                have N259 := Fr.app N242 N259q
                refine g_aload X259 hx (bb at_124) rfl rfl ?_
                have O263 := (O261.keep K259 (allS g_b198 (allS g_ob204 (allS g_ol204 (allS g_oh204 (allS g_ov204 all0))))))
                refine gcV X259 hx hZ hml hown (ww 32 rfl) (ww 7 rfl) (ww 36 rfl) (ww 33 rfl) (ww 35 rfl) (ww 34 rfl) rfl f259_0 (rm_clear2N l Z a0 ww [] b198 ow204 on204 ob204 ol204 oh204 ov204 kw_204 kn_204 (3 : Int32) T259.heap n0 (own_z0 O263) O263 S_CS f259_0 f259_1 f259_2 f259_3 f259_4 f259_5 f259_6 f259_7 f259_8 f259_10 g_b198 ne_b198_ow204 ne_b198_on204) pd___V_3 (bb at_126) 0 rfl (fun T262 L262 v262 X262 hQ262 => ?_)
                obtain ⟨rfl, N262q, K262, f262_0, f262_1, f262_2, f262_3, f262_4, f262_5, f262_6⟩ := hQ262
                have N262 := Fr.app N259 N262q
                have O264 := (O263.keep K262 (allS g_b198 all0))
                have F265 := (f259_0.keep K262)
                have F266 := (f259_8.keep K262 (ninS (Ne.symm ne_b198_ow204) nin0))
                have F267 := (f259_10.keep K262 (ninS (Ne.symm ne_b198_on204) nin0))
                have F268 := (f259_12.keep K262 (ninS (Ne.symm ne_b198_ob204) nin0))
                have F269 := (f259_13.keep K262 (ninS (Ne.symm ne_b198_ol204) nin0))
                have F270 := (f259_14.keep K262 (ninS (Ne.symm ne_b198_oh204) nin0))
                have F271 := (f259_15.keep K262 (ninS (Ne.symm ne_b198_ov204) nin0))
                have F272 := (((((F209.keep K204 (ninS ne_ot189_b198 nin0)).keep K225 (ninS ne_ot189_b198 (ninS ne_ot189_ob204 (ninS ne_ot189_ol204 (ninS ne_ot189_oh204 (ninS ne_ot189_ov204 nin0)))))).keep K242 (ninS ne_ot189_b198 (ninS ne_ot189_ob204 (ninS ne_ot189_ol204 (ninS ne_ot189_oh204 (ninS ne_ot189_ov204 nin0)))))).keep K259 (ninS ne_ot189_b198 (ninS ne_ot189_ob204 (ninS ne_ot189_ol204 (ninS ne_ot189_oh204 (ninS ne_ot189_ov204 nin0)))))).keep K262 (ninS ne_ot189_b198 nin0))
                have F273 := (((((F210.keep K204 (ninS ne_ot193_b198 nin0)).keep K225 (ninS ne_ot193_b198 (ninS ne_ot193_ob204 (ninS ne_ot193_ol204 (ninS ne_ot193_oh204 (ninS ne_ot193_ov204 nin0)))))).keep K242 (ninS ne_ot193_b198 (ninS ne_ot193_ob204 (ninS ne_ot193_ol204 (ninS ne_ot193_oh204 (ninS ne_ot193_ov204 nin0)))))).keep K259 (ninS ne_ot193_b198 (ninS ne_ot193_ob204 (ninS ne_ot193_ol204 (ninS ne_ot193_oh204 (ninS ne_ot193_ov204 nin0)))))).keep K262 (ninS ne_ot193_b198 nin0))
                exact hm211 _ _ _ ov204 kv_204 (nbase (nbase (f_base p2 p2) p2 p2 p3) (f_minI p3 p2) (f_maxI p3 p2) p4) (nbase (nbase (f_base (p2 ^^^ (-1 : Int32)) (p2 ^^^ (-1 : Int32))) (p2 ^^^ (-1 : Int32)) (p2 ^^^ (-1 : Int32)) (p3 ^^^ (-1 : Int32))) (f_minI (p3 ^^^ (-1 : Int32)) (p2 ^^^ (-1 : Int32))) (f_maxI (p3 ^^^ (-1 : Int32)) (p2 ^^^ (-1 : Int32))) (p4 ^^^ (-1 : Int32))) (f_minI p4 (f_minI p3 p2)) (f_minI (p4 ^^^ (-1 : Int32)) (f_minI (p3 ^^^ (-1 : Int32)) (p2 ^^^ (-1 : Int32)))) (f_maxI p4 (f_maxI p3 p2)) (f_maxI (p4 ^^^ (-1 : Int32)) (f_maxI (p3 ^^^ (-1 : Int32)) (p2 ^^^ (-1 : Int32)))) (nar .char (p2 - (nbase (nbase (f_base p2 p2) p2 p2 p3) (f_minI p3 p2) (f_maxI p3 p2) p4))) (nar .char ((p2 ^^^ (-1 : Int32)) - (nbase (nbase (f_base (p2 ^^^ (-1 : Int32)) (p2 ^^^ (-1 : Int32))) (p2 ^^^ (-1 : Int32)) (p2 ^^^ (-1 : Int32)) (p3 ^^^ (-1 : Int32))) (f_minI (p3 ^^^ (-1 : Int32)) (p2 ^^^ (-1 : Int32))) (f_maxI (p3 ^^^ (-1 : Int32)) (p2 ^^^ (-1 : Int32))) (p4 ^^^ (-1 : Int32))))) (nar .char (p3 - (nbase (nbase (f_base p2 p2) p2 p2 p3) (f_minI p3 p2) (f_maxI p3 p2) p4))) (nar .char ((p3 ^^^ (-1 : Int32)) - (nbase (nbase (f_base (p2 ^^^ (-1 : Int32)) (p2 ^^^ (-1 : Int32))) (p2 ^^^ (-1 : Int32)) (p2 ^^^ (-1 : Int32)) (p3 ^^^ (-1 : Int32))) (f_minI (p3 ^^^ (-1 : Int32)) (p2 ^^^ (-1 : Int32))) (f_maxI (p3 ^^^ (-1 : Int32)) (p2 ^^^ (-1 : Int32))) (p4 ^^^ (-1 : Int32))))) (nar .char (p4 - (nbase (nbase (f_base p2 p2) p2 p2 p3) (f_minI p3 p2) (f_maxI p3 p2) p4))) (nar .char ((p4 ^^^ (-1 : Int32)) - (nbase (nbase (f_base (p2 ^^^ (-1 : Int32)) (p2 ^^^ (-1 : Int32))) (p2 ^^^ (-1 : Int32)) (p2 ^^^ (-1 : Int32)) (p3 ^^^ (-1 : Int32))) (f_minI (p3 ^^^ (-1 : Int32)) (p2 ^^^ (-1 : Int32))) (f_maxI (p3 ^^^ (-1 : Int32)) (p2 ^^^ (-1 : Int32))) (p4 ^^^ (-1 : Int32))))) (0 : Int32) (0 : Int32) (0 : Int32) (0 : Int32) (0 : Int32) (0 : Int32) (0 : Int32) (0 : Int32) (0 : Int32) (0 : Int32) (own_more X262 (by decide) (by decide)) rfl N262 O264 (Nat.le_trans (Nat.le_trans (Nat.le_trans (Nat.le_trans (Nat.le_trans (Nat.le_trans (Nat.le_trans (Nat.le_trans (Nat.le_trans (Nat.le_trans (Nat.le_trans (Nat.le_refl _) K183.1) K184.1) K186.1) K189.1) K193.1) E198.1) K204.1) K225.1) K242.1) K259.1) K262.1) g_ov204 ne_b198_ov204 ne_ow204_ov204 ne_on204_ov204 ne_ob204_ov204 ne_ol204_ov204 ne_oh204_ov204 ne_ot189_ov204 ne_ot193_ov204 F265 f262_0 f262_1 f262_2 f262_3 f262_4 f262_5 f262_6 F266 F267 F268 F269 F270 F271 F272 F273
              · skip
                have F275 := (((F208.keep K204 (ninS ne_ot186_b198 nin0)).keep K225 (ninS ne_ot186_b198 (ninS ne_ot186_ob204 (ninS ne_ot186_ol204 (ninS ne_ot186_oh204 (ninS ne_ot186_ov204 nin0)))))).keep K242 (ninS ne_ot186_b198 (ninS ne_ot186_ob204 (ninS ne_ot186_ol204 (ninS ne_ot186_oh204 (ninS ne_ot186_ov204 nin0))))))
                have O276 := (O244.keep K242 (allS g_b198 (allS g_ob204 (allS g_ol204 (allS g_oh204 (allS g_ov204 all0))))))
                refine gcV X242 hx hZ hml hown (ww 39 rfl) (ww 7 rfl) (ww 43 rfl) (ww 40 rfl) (ww 42 rfl) (ww 41 rfl) rfl f242_0 (rm_add2W2 l Z a0 ww [] b198 ot186 ow204 on204 ob204 ol204 oh204 ov204 kw_204 kn_204 kb_204 kl_204 kh_204 kv_204 (nbase (f_base p2 p2) p2 p2 p3) (nbase (f_base (p2 ^^^ (-1 : Int32)) (p2 ^^^ (-1 : Int32))) (p2 ^^^ (-1 : Int32)) (p2 ^^^ (-1 : Int32)) (p3 ^^^ (-1 : Int32))) (f_minI p3 p2) (f_minI (p3 ^^^ (-1 : Int32)) (p2 ^^^ (-1 : Int32))) (f_maxI p3 p2) (f_maxI (p3 ^^^ (-1 : Int32)) (p2 ^^^ (-1 : Int32))) p2 (p2 ^^^ (-1 : Int32)) p3 (p3 ^^^ (-1 : Int32)) (0 : Int32) (0 : Int32) (0 : Int32) (0 : Int32) (0 : Int32) (0 : Int32) (0 : Int32) (0 : Int32) (0 : Int32) (0 : Int32) (0 : Int32) (0 : Int32) kt186 p4 (p4 ^^^ (-1 : Int32)) T242.heap n0 (own_z0 O276) O276 S_CS f242_0 f242_1 f242_2 f242_3 f242_4 f242_5 f242_6 f242_7 f242_8 f242_9 f242_10 f242_11 f242_12 f242_13 f242_14 f242_15 F275 g_b198 g_ow204 g_on204 ne_b198_ow204 ne_b198_on204 ne_b198_ob204 ne_b198_ol204 ne_b198_oh204 ne_b198_ov204 ne_ow204_on204 ne_ow204_ob204 ne_ow204_ol204 ne_ow204_oh204 ne_ow204_ov204 ne_on204_ob204 ne_on204_ol204 ne_on204_oh204 ne_on204_ov204 ne_ob204_ol204 ne_ob204_oh204 ne_ob204_ov204 ne_ol204_oh204 ne_ol204_ov204 ne_oh204_ov204 ne_ot186_b198 ne_ot186_ow204 ne_ot186_on204 ne_ot186_ob204 ne_ot186_ol204 ne_ot186_oh204 ne_ot186_ov204 (own_inN (own_inS p2) (own_btS p2) g241.1) (own_inN (own_inS (p2 ^^^ (-1 : Int32))) (own_btS (p2 ^^^ (-1 : Int32))) g241.2) (own_inT g241.1) (own_inT g241.2) g258) pd___I_V_5 (bb at_121) 0 rfl (fun T274 L274 v274 X274 hQ274 => ?_)
                obtain ⟨oz274, kz_274, rfl, N274q, K274, szz_oz274, f274_0, f274_1, f274_2, f274_3, f274_4, f274_5, f274_6, f274_7, f274_8, f274_9, f274_10, f274_11, f274_12, f274_13, f274_14, f274_15⟩ := hQ274
                have N274 := Fr.app N242 N274q
                have g_oz274 : n0 ≤ oz274 := Nat.le_trans (own_z0 O276) szz_oz274
                have sz_oz274 : h0.size ≤ oz274 := Nat.le_trans (Nat.le_trans (Nat.le_trans (Nat.le_trans (Nat.le_trans (Nat.le_trans (Nat.le_trans (Nat.le_trans (Nat.le_trans (Nat.le_trans (Nat.le_refl _) K183.1) K184.1) K186.1) K189.1) K193.1) E198.1) K204.1) K225.1) K242.1) szz_oz274
                have F277 := ((F226.keep K225 (ninS ne_ot183_b198 (ninS ne_ot183_ob204 (ninS ne_ot183_ol204 (ninS ne_ot183_oh204 (ninS ne_ot183_ov204 nin0)))))).keep K242 (ninS ne_ot183_b198 (ninS ne_ot183_ob204 (ninS ne_ot183_ol204 (ninS ne_ot183_oh204 (ninS ne_ot183_ov204 nin0))))))
                have ne_ot183_oz274 : ot183 ≠ oz274 := Nat.ne_of_lt (Nat.lt_of_lt_of_le F277.lt szz_oz274)
                have F278 := (F243.keep K242 (ninS ne_ot184_b198 (ninS ne_ot184_ob204 (ninS ne_ot184_ol204 (ninS ne_ot184_oh204 (ninS ne_ot184_ov204 nin0))))))
                have ne_ot184_oz274 : ot184 ≠ oz274 := Nat.ne_of_lt (Nat.lt_of_lt_of_le F278.lt szz_oz274)
                have ne_ot186_oz274 : ot186 ≠ oz274 := Nat.ne_of_lt (Nat.lt_of_lt_of_le F275.lt szz_oz274)
                have F279 := (((F209.keep K204 (ninS ne_ot189_b198 nin0)).keep K225 (ninS ne_ot189_b198 (ninS ne_ot189_ob204 (ninS ne_ot189_ol204 (ninS ne_ot189_oh204 (ninS ne_ot189_ov204 nin0)))))).keep K242 (ninS ne_ot189_b198 (ninS ne_ot189_ob204 (ninS ne_ot189_ol204 (ninS ne_ot189_oh204 (ninS ne_ot189_ov204 nin0))))))
                have ne_ot189_oz274 : ot189 ≠ oz274 := Nat.ne_of_lt (Nat.lt_of_lt_of_le F279.lt szz_oz274)
                have F280 := (((F210.keep K204 (ninS ne_ot193_b198 nin0)).keep K225 (ninS ne_ot193_b198 (ninS ne_ot193_ob204 (ninS ne_ot193_ol204 (ninS ne_ot193_oh204 (ninS ne_ot193_ov204 nin0)))))).keep K242 (ninS ne_ot193_b198 (ninS ne_ot193_ob204 (ninS ne_ot193_ol204 (ninS ne_ot193_oh204 (ninS ne_ot193_ov204 nin0))))))
                have ne_ot193_oz274 : ot193 ≠ oz274 := Nat.ne_of_lt (Nat.lt_of_lt_of_le F280.lt szz_oz274)
                have ne_b198_oz274 : b198 ≠ oz274 := Nat.ne_of_lt (Nat.lt_of_lt_of_le f242_0.lt szz_oz274)
                have ne_ow204_oz274 : ow204 ≠ oz274 := Nat.ne_of_lt (Nat.lt_of_lt_of_le f242_8.lt szz_oz274)
                have ne_on204_oz274 : on204 ≠ oz274 := Nat.ne_of_lt (Nat.lt_of_lt_of_le f242_10.lt szz_oz274)
                have ne_ob204_oz274 : ob204 ≠ oz274 := Nat.ne_of_lt (Nat.lt_of_lt_of_le f242_12.lt szz_oz274)
                have ne_ol204_oz274 : ol204 ≠ oz274 := Nat.ne_of_lt (Nat.lt_of_lt_of_le f242_13.lt szz_oz274)
                have ne_oh204_oz274 : oh204 ≠ oz274 := Nat.ne_of_lt (Nat.lt_of_lt_of_le f242_14.lt szz_oz274)
                have ne_ov204_oz274 : ov204 ≠ oz274 := Nat.ne_of_lt (Nat.lt_of_lt_of_le f242_15.lt szz_oz274)
                refine g_aload X274 hx (bb at_124) rfl rfl ?_
                have O282 := (O276.keep K274 (allS g_b198 (allS g_ow204 (allS g_on204 all0))))
                refine gcV X274 hx hZ hml hown (ww 32 rfl) (ww 7 rfl) (ww 36 rfl) (ww 33 rfl) (ww 35 rfl) (ww 34 rfl) rfl f274_0 (rm_clear2W l Z a0 ww [] b198 ow204 on204 ob204 ol204 oh204 oz274 kw_204 kn_204 kz_274 (3 : Int32) p2 (p2 ^^^ (-1 : Int32)) p3 (p3 ^^^ (-1 : Int32)) p4 (p4 ^^^ (-1 : Int32)) (0 : Int32) (0 : Int32) (0 : Int32) (0 : Int32) (0 : Int32) (0 : Int32) (0 : Int32) (0 : Int32) (0 : Int32) (0 : Int32) T274.heap n0 (own_z0 O282) O282 S_CS f274_0 f274_1 f274_2 f274_3 f274_4 f274_5 f274_6 f274_7 f274_8 f274_9 f274_10 f274_11 f274_15 g_b198 g_ow204 g_on204 ne_b198_ow204 ne_b198_on204 ne_b198_oz274 ne_ow204_on204 ne_ow204_oz274 ne_on204_oz274) pd___V_3 (bb at_126) 0 rfl (fun T281 L281 v281 X281 hQ281 => ?_)
                obtain ⟨ov281, kv_281, rfl, N281q, K281, szz_ov281, f281_0, f281_1, f281_2, f281_3, f281_4, f281_5, f281_6, f281_7, f281_8, f281_9⟩ := hQ281
                have N281 := Fr.app N274 N281q
                have g_ov281 : n0 ≤ ov281 := Nat.le_trans (own_z0 O282) szz_ov281
                have sz_ov281 : h0.size ≤ ov281 := Nat.le_trans (Nat.le_trans (Nat.le_trans (Nat.le_trans (Nat.le_trans (Nat.le_trans (Nat.le_trans (Nat.le_trans (Nat.le_trans (Nat.le_trans (Nat.le_trans (Nat.le_refl _) K183.1) K184.1) K186.1) K189.1) K193.1) E198.1) K204.1) K225.1) K242.1) K274.1) szz_ov281
                have F283 := (F277.keep K274 (ninS ne_ot183_b198 (ninS ne_ot183_ow204 (ninS ne_ot183_on204 nin0))))
                have ne_ot183_ov281 : ot183 ≠ ov281 := Nat.ne_of_lt (Nat.lt_of_lt_of_le F283.lt szz_ov281)
                have F284 := (F278.keep K274 (ninS ne_ot184_b198 (ninS ne_ot184_ow204 (ninS ne_ot184_on204 nin0))))
                have ne_ot184_ov281 : ot184 ≠ ov281 := Nat.ne_of_lt (Nat.lt_of_lt_of_le F284.lt szz_ov281)
                have F285 := (F275.keep K274 (ninS ne_ot186_b198 (ninS ne_ot186_ow204 (ninS ne_ot186_on204 nin0))))
                have ne_ot186_ov281 : ot186 ≠ ov281 := Nat.ne_of_lt (Nat.lt_of_lt_of_le F285.lt szz_ov281)
                have F286 := (F279.keep K274 (ninS ne_ot189_b198 (ninS ne_ot189_ow204 (ninS ne_ot189_on204 nin0))))
                have ne_ot189_ov281 : ot189 ≠ ov281 := Nat.ne_of_lt (Nat.lt_of_lt_of_le F286.lt szz_ov281)
                have F287 := (F280.keep K274 (ninS ne_ot193_b198 (ninS ne_ot193_ow204 (ninS ne_ot193_on204 nin0))))
                have ne_ot193_ov281 : ot193 ≠ ov281 := Nat.ne_of_lt (Nat.lt_of_lt_of_le F287.lt szz_ov281)
                have ne_b198_ov281 : b198 ≠ ov281 := Nat.ne_of_lt (Nat.lt_of_lt_of_le f274_0.lt szz_ov281)
                have ne_ob204_ov281 : ob204 ≠ ov281 := Nat.ne_of_lt (Nat.lt_of_lt_of_le f274_12.lt szz_ov281)
                have ne_ol204_ov281 : ol204 ≠ ov281 := Nat.ne_of_lt (Nat.lt_of_lt_of_le f274_13.lt szz_ov281)
                have ne_oh204_ov281 : oh204 ≠ ov281 := Nat.ne_of_lt (Nat.lt_of_lt_of_le f274_14.lt szz_ov281)
                have F288 := (f242_15.keep K274 (ninS (Ne.symm ne_b198_ov204) (ninS (Ne.symm ne_ow204_ov204) (ninS (Ne.symm ne_on204_ov204) nin0))))
                have ne_ov204_ov281 : ov204 ≠ ov281 := Nat.ne_of_lt (Nat.lt_of_lt_of_le F288.lt szz_ov281)
                have ne_ow204_ov281 : ow204 ≠ ov281 := Nat.ne_of_lt (Nat.lt_of_lt_of_le f274_8.lt szz_ov281)
                have ne_on204_ov281 : on204 ≠ ov281 := Nat.ne_of_lt (Nat.lt_of_lt_of_le f274_10.lt szz_ov281)
                have ne_oz274_ov281 : oz274 ≠ ov281 := Nat.ne_of_lt (Nat.lt_of_lt_of_le f274_15.lt szz_ov281)
                have O289 := (O282.keep K281 (allS g_b198 (allS g_ow204 (allS g_on204 all0))))
                have F290 := (f274_0.keep K281)
                have F291 := (f274_12.keep K281 (ninS (Ne.symm ne_b198_ob204) (ninS (Ne.symm ne_ow204_ob204) (ninS (Ne.symm ne_on204_ob204) nin0))))
                have F292 := (f274_13.keep K281 (ninS (Ne.symm ne_b198_ol204) (ninS (Ne.symm ne_ow204_ol204) (ninS (Ne.symm ne_on204_ol204) nin0))))
                have F293 := (f274_14.keep K281 (ninS (Ne.symm ne_b198_oh204) (ninS (Ne.symm ne_ow204_oh204) (ninS (Ne.symm ne_on204_oh204) nin0))))
                have F294 := (F286.keep K281 (ninS ne_ot189_b198 (ninS ne_ot189_ow204 (ninS ne_ot189_on204 nin0))))
                have F295 := (F287.keep K281 (ninS ne_ot193_b198 (ninS ne_ot193_ow204 (ninS ne_ot193_on204 nin0))))
                exact hm211 _ _ _ ov281 kv_281 (nbase (f_base p2 p2) p2 p2 p3) (nbase (f_base (p2 ^^^ (-1 : Int32)) (p2 ^^^ (-1 : Int32))) (p2 ^^^ (-1 : Int32)) (p2 ^^^ (-1 : Int32)) (p3 ^^^ (-1 : Int32))) (f_minI p3 p2) (f_minI (p3 ^^^ (-1 : Int32)) (p2 ^^^ (-1 : Int32))) (f_maxI p3 p2) (f_maxI (p3 ^^^ (-1 : Int32)) (p2 ^^^ (-1 : Int32))) (0 : Int32) (0 : Int32) (0 : Int32) (0 : Int32) (0 : Int32) (0 : Int32) (0 : Int32) (0 : Int32) (0 : Int32) (0 : Int32) (0 : Int32) (0 : Int32) (0 : Int32) (0 : Int32) (0 : Int32) (0 : Int32) (own_more X281 (by decide) (by decide)) rfl N281 O289 (Nat.le_trans (Nat.le_trans (Nat.le_trans (Nat.le_trans (Nat.le_trans (Nat.le_trans (Nat.le_trans (Nat.le_trans (Nat.le_trans (Nat.le_trans (Nat.le_trans (Nat.le_refl _) K183.1) K184.1) K186.1) K189.1) K193.1) E198.1) K204.1) K225.1) K242.1) K274.1) K281.1) g_ov281 ne_b198_ov281 ne_ow204_ov281 ne_on204_ov281 ne_ob204_ov281 ne_ol204_ov281 ne_oh204_ov281 ne_ot189_ov281 ne_ot193_ov281 F290 f281_0 f281_1 f281_2 f281_3 f281_4 f281_5 f281_6 f281_7 f281_8 F291 F292 F293 f281_9 F294 F295
          · skip
            have F297 := ((F207.keep K204 (ninS ne_ot184_b198 nin0)).keep K225 (ninS ne_ot184_b198 (ninS ne_ot184_ob204 (ninS ne_ot184_ol204 (ninS ne_ot184_oh204 (ninS ne_ot184_ov204 nin0))))))
            have O298 := (O227.keep K225 (allS g_b198 (allS g_ob204 (allS g_ol204 (allS g_oh204 (allS g_ov204 all0))))))
            refine gcV X225 hx hZ hml hown (ww 39 rfl) (ww 7 rfl) (ww 43 rfl) (ww 40 rfl) (ww 42 rfl) (ww 41 rfl) rfl f225_0 (rm_add2W1 l Z a0 ww [] b198 ot184 ow204 on204 ob204 ol204 oh204 ov204 kw_204 kn_204 kb_204 kl_204 kh_204 kv_204 (f_base p2 p2) (f_base (p2 ^^^ (-1 : Int32)) (p2 ^^^ (-1 : Int32))) p2 (p2 ^^^ (-1 : Int32)) p2 (p2 ^^^ (-1 : Int32)) p2 (p2 ^^^ (-1 : Int32)) (0 : Int32) (0 : Int32) (0 : Int32) (0 : Int32) (0 : Int32) (0 : Int32) (0 : Int32) (0 : Int32) (0 : Int32) (0 : Int32) (0 : Int32) (0 : Int32) (0 : Int32) (0 : Int32) kt184 p3 (p3 ^^^ (-1 : Int32)) T225.heap n0 (own_z0 O298) O298 S_CS f225_0 f225_1 f225_2 f225_3 f225_4 f225_5 f225_6 f225_7 f225_8 f225_9 f225_10 f225_11 f225_12 f225_13 f225_14 f225_15 F297 g_b198 g_ow204 g_on204 ne_b198_ow204 ne_b198_on204 ne_b198_ob204 ne_b198_ol204 ne_b198_oh204 ne_b198_ov204 ne_ow204_on204 ne_ow204_ob204 ne_ow204_ol204 ne_ow204_oh204 ne_ow204_ov204 ne_on204_ob204 ne_on204_ol204 ne_on204_oh204 ne_on204_ov204 ne_ob204_ol204 ne_ob204_oh204 ne_ob204_ov204 ne_ol204_oh204 ne_ol204_ov204 ne_oh204_ov204 ne_ot184_b198 ne_ot184_ow204 ne_ot184_on204 ne_ot184_ob204 ne_ot184_ol204 ne_ot184_oh204 ne_ot184_ov204 (own_inS p2) (own_inS (p2 ^^^ (-1 : Int32))) g241) pd___I_V_5 (bb at_108) 0 rfl (fun T296 L296 v296 X296 hQ296 => ?_)
            obtain ⟨oz296, kz_296, rfl, N296q, K296, szz_oz296, f296_0, f296_1, f296_2, f296_3, f296_4, f296_5, f296_6, f296_7, f296_8, f296_9, f296_10, f296_11, f296_12, f296_13, f296_14, f296_15⟩ := hQ296
            have N296 := Fr.app N225 N296q
            have g_oz296 : n0 ≤ oz296 := Nat.le_trans (own_z0 O298) szz_oz296
            have sz_oz296 : h0.size ≤ oz296 := Nat.le_trans (Nat.le_trans (Nat.le_trans (Nat.le_trans (Nat.le_trans (Nat.le_trans (Nat.le_trans (Nat.le_trans (Nat.le_trans (Nat.le_refl _) K183.1) K184.1) K186.1) K189.1) K193.1) E198.1) K204.1) K225.1) szz_oz296
            have F299 := (F226.keep K225 (ninS ne_ot183_b198 (ninS ne_ot183_ob204 (ninS ne_ot183_ol204 (ninS ne_ot183_oh204 (ninS ne_ot183_ov204 nin0))))))
            have ne_ot183_oz296 : ot183 ≠ oz296 := Nat.ne_of_lt (Nat.lt_of_lt_of_le F299.lt szz_oz296)
            have ne_ot184_oz296 : ot184 ≠ oz296 := Nat.ne_of_lt (Nat.lt_of_lt_of_le F297.lt szz_oz296)
            have F300 := ((F208.keep K204 (ninS ne_ot186_b198 nin0)).keep K225 (ninS ne_ot186_b198 (ninS ne_ot186_ob204 (ninS ne_ot186_ol204 (ninS ne_ot186_oh204 (ninS ne_ot186_ov204 nin0))))))
            have ne_ot186_oz296 : ot186 ≠ oz296 := Nat.ne_of_lt (Nat.lt_of_lt_of_le F300.lt szz_oz296)
            have F301 := ((F209.keep K204 (ninS ne_ot189_b198 nin0)).keep K225 (ninS ne_ot189_b198 (ninS ne_ot189_ob204 (ninS ne_ot189_ol204 (ninS ne_ot189_oh204 (ninS ne_ot189_ov204 nin0))))))
            have ne_ot189_oz296 : ot189 ≠ oz296 := Nat.ne_of_lt (Nat.lt_of_lt_of_le F301.lt szz_oz296)
            have F302 := ((F210.keep K204 (ninS ne_ot193_b198 nin0)).keep K225 (ninS ne_ot193_b198 (ninS ne_ot193_ob204 (ninS ne_ot193_ol204 (ninS ne_ot193_oh204 (ninS ne_ot193_ov204 nin0))))))
            have ne_ot193_oz296 : ot193 ≠ oz296 := Nat.ne_of_lt (Nat.lt_of_lt_of_le F302.lt szz_oz296)
            have ne_b198_oz296 : b198 ≠ oz296 := Nat.ne_of_lt (Nat.lt_of_lt_of_le f225_0.lt szz_oz296)
            have ne_ow204_oz296 : ow204 ≠ oz296 := Nat.ne_of_lt (Nat.lt_of_lt_of_le f225_8.lt szz_oz296)
            have ne_on204_oz296 : on204 ≠ oz296 := Nat.ne_of_lt (Nat.lt_of_lt_of_le f225_10.lt szz_oz296)
            have ne_ob204_oz296 : ob204 ≠ oz296 := Nat.ne_of_lt (Nat.lt_of_lt_of_le f225_12.lt szz_oz296)
            have ne_ol204_oz296 : ol204 ≠ oz296 := Nat.ne_of_lt (Nat.lt_of_lt_of_le f225_13.lt szz_oz296)
            have ne_oh204_oz296 : oh204 ≠ oz296 := Nat.ne_of_lt (Nat.lt_of_lt_of_le f225_14.lt szz_oz296)
            have ne_ov204_oz296 : ov204 ≠ oz296 := Nat.ne_of_lt (Nat.lt_of_lt_of_le f225_15.lt szz_oz296)
            refine g_iload X296 hx (bb at_111) rfl ?_
            refine g_iconst X296 hx (bb at_113) ?_
            by_cases g303 : (((p1.toUInt32 >>> ((1 : Int32) &&& 31).toUInt32).toInt32) &&& (3 : Int32)) < (3 : Int32)
            · skip
              refine g_icmpYes X296 hx (pc' := 124) (bb at_114) (tlt g303).1 (by decide) (by decide) ?_
              refine g_aload X296 hx (bb at_124) rfl rfl ?_
              have O305 := (O298.keep K296 (allS g_b198 (allS g_ow204 (allS g_on204 all0))))
              refine gcV X296 hx hZ hml hown (ww 32 rfl) (ww 7 rfl) (ww 36 rfl) (ww 33 rfl) (ww 35 rfl) (ww 34 rfl) rfl f296_0 (rm_clear2W l Z a0 ww [] b198 ow204 on204 ob204 ol204 oh204 oz296 kw_204 kn_204 kz_296 (2 : Int32) p2 (p2 ^^^ (-1 : Int32)) p3 (p3 ^^^ (-1 : Int32)) (0 : Int32) (0 : Int32) (0 : Int32) (0 : Int32) (0 : Int32) (0 : Int32) (0 : Int32) (0 : Int32) (0 : Int32) (0 : Int32) (0 : Int32) (0 : Int32) T296.heap n0 (own_z0 O305) O305 S_CS f296_0 f296_1 f296_2 f296_3 f296_4 f296_5 f296_6 f296_7 f296_8 f296_9 f296_10 f296_11 f296_15 g_b198 g_ow204 g_on204 ne_b198_ow204 ne_b198_on204 ne_b198_oz296 ne_ow204_on204 ne_ow204_oz296 ne_on204_oz296) pd___V_3 (bb at_126) 0 rfl (fun T304 L304 v304 X304 hQ304 => ?_)
              obtain ⟨ov304, kv_304, rfl, N304q, K304, szz_ov304, f304_0, f304_1, f304_2, f304_3, f304_4, f304_5, f304_6, f304_7, f304_8, f304_9⟩ := hQ304
              have N304 := Fr.app N296 N304q
              have g_ov304 : n0 ≤ ov304 := Nat.le_trans (own_z0 O305) szz_ov304
              have sz_ov304 : h0.size ≤ ov304 := Nat.le_trans (Nat.le_trans (Nat.le_trans (Nat.le_trans (Nat.le_trans (Nat.le_trans (Nat.le_trans (Nat.le_trans (Nat.le_trans (Nat.le_trans (Nat.le_refl _) K183.1) K184.1) K186.1) K189.1) K193.1) E198.1) K204.1) K225.1) K296.1) szz_ov304
              have F306 := (F299.keep K296 (ninS ne_ot183_b198 (ninS ne_ot183_ow204 (ninS ne_ot183_on204 nin0))))
              have ne_ot183_ov304 : ot183 ≠ ov304 := Nat.ne_of_lt (Nat.lt_of_lt_of_le F306.lt szz_ov304)
              have F307 := (F297.keep K296 (ninS ne_ot184_b198 (ninS ne_ot184_ow204 (ninS ne_ot184_on204 nin0))))
              have ne_ot184_ov304 : ot184 ≠ ov304 := Nat.ne_of_lt (Nat.lt_of_lt_of_le F307.lt szz_ov304)
              have F308 := (F300.keep K296 (ninS ne_ot186_b198 (ninS ne_ot186_ow204 (ninS ne_ot186_on204 nin0))))
              have ne_ot186_ov304 : ot186 ≠ ov304 := Nat.ne_of_lt (Nat.lt_of_lt_of_le F308.lt szz_ov304)
              have F309 := (F301.keep K296 (ninS ne_ot189_b198 (ninS ne_ot189_ow204 (ninS ne_ot189_on204 nin0))))
              have ne_ot189_ov304 : ot189 ≠ ov304 := Nat.ne_of_lt (Nat.lt_of_lt_of_le F309.lt szz_ov304)
              have F310 := (F302.keep K296 (ninS ne_ot193_b198 (ninS ne_ot193_ow204 (ninS ne_ot193_on204 nin0))))
              have ne_ot193_ov304 : ot193 ≠ ov304 := Nat.ne_of_lt (Nat.lt_of_lt_of_le F310.lt szz_ov304)
              have ne_b198_ov304 : b198 ≠ ov304 := Nat.ne_of_lt (Nat.lt_of_lt_of_le f296_0.lt szz_ov304)
              have ne_ob204_ov304 : ob204 ≠ ov304 := Nat.ne_of_lt (Nat.lt_of_lt_of_le f296_12.lt szz_ov304)
              have ne_ol204_ov304 : ol204 ≠ ov304 := Nat.ne_of_lt (Nat.lt_of_lt_of_le f296_13.lt szz_ov304)
              have ne_oh204_ov304 : oh204 ≠ ov304 := Nat.ne_of_lt (Nat.lt_of_lt_of_le f296_14.lt szz_ov304)
              have F311 := (f225_15.keep K296 (ninS (Ne.symm ne_b198_ov204) (ninS (Ne.symm ne_ow204_ov204) (ninS (Ne.symm ne_on204_ov204) nin0))))
              have ne_ov204_ov304 : ov204 ≠ ov304 := Nat.ne_of_lt (Nat.lt_of_lt_of_le F311.lt szz_ov304)
              have ne_ow204_ov304 : ow204 ≠ ov304 := Nat.ne_of_lt (Nat.lt_of_lt_of_le f296_8.lt szz_ov304)
              have ne_on204_ov304 : on204 ≠ ov304 := Nat.ne_of_lt (Nat.lt_of_lt_of_le f296_10.lt szz_ov304)
              have ne_oz296_ov304 : oz296 ≠ ov304 := Nat.ne_of_lt (Nat.lt_of_lt_of_le f296_15.lt szz_ov304)
              have O312 := (O305.keep K304 (allS g_b198 (allS g_ow204 (allS g_on204 all0))))
              have F313 := (f296_0.keep K304)
              have F314 := (f296_12.keep K304 (ninS (Ne.symm ne_b198_ob204) (ninS (Ne.symm ne_ow204_ob204) (ninS (Ne.symm ne_on204_ob204) nin0))))
              have F315 := (f296_13.keep K304 (ninS (Ne.symm ne_b198_ol204) (ninS (Ne.symm ne_ow204_ol204) (ninS (Ne.symm ne_on204_ol204) nin0))))
              have F316 := (f296_14.keep K304 (ninS (Ne.symm ne_b198_oh204) (ninS (Ne.symm ne_ow204_oh204) (ninS (Ne.symm ne_on204_oh204) nin0))))
              have F317 := (F309.keep K304 (ninS ne_ot189_b198 (ninS ne_ot189_ow204 (ninS ne_ot189_on204 nin0))))
              have F318 := (F310.keep K304 (ninS ne_ot193_b198 (ninS ne_ot193_ow204 (ninS ne_ot193_on204 nin0))))
              exact hm211 _ _ _ ov304 kv_304 (f_base p2 p2) (f_base (p2 ^^^ (-1 : Int32)) (p2 ^^^ (-1 : Int32))) p2 (p2 ^^^ (-1 : Int32)) p2 (p2 ^^^ (-1 : Int32)) (0 : Int32) (0 : Int32) (0 : Int32) (0 : Int32) (0 : Int32) (0 : Int32) (0 : Int32) (0 : Int32) (0 : Int32) (0 : Int32) (0 : Int32) (0 : Int32) (0 : Int32) (0 : Int32) (0 : Int32) (0 : Int32) (own_more X304 (by decide) (by decide)) rfl N304 O312 (Nat.le_trans (Nat.le_trans (Nat.le_trans (Nat.le_trans (Nat.le_trans (Nat.le_trans (Nat.le_trans (Nat.le_trans (Nat.le_trans (Nat.le_trans (Nat.le_refl _) K183.1) K184.1) K186.1) K189.1) K193.1) E198.1) K204.1) K225.1) K296.1) K304.1) g_ov304 ne_b198_ov304 ne_ow204_ov304 ne_on204_ov304 ne_ob204_ov304 ne_ol204_ov304 ne_oh204_ov304 ne_ot189_ov304 ne_ot193_ov304 F313 f304_0 f304_1 f304_2 f304_3 f304_4 f304_5 f304_6 f304_7 f304_8 F314 F315 F316 f304_9 F317 F318
            · skip
              refine g_icmpNo X296 hx (bb at_114) (flt g303).1 ?_
              refine g_aload X296 hx (bb at_117) rfl rfl ?_
              refine g_aload X296 hx (bb at_119) rfl rfl ?_
              have F320 := (F300.keep K296 (ninS ne_ot186_b198 (ninS ne_ot186_ow204 (ninS ne_ot186_on204 nin0))))
              have O321 := (O298.keep K296 (allS g_b198 (allS g_ow204 (allS g_on204 all0))))
              refine gcV X296 hx hZ hml hown (ww 39 rfl) (ww 7 rfl) (ww 43 rfl) (ww 40 rfl) (ww 42 rfl) (ww 41 rfl) rfl f296_0 (rm_add2WW2 l Z a0 ww [] b198 ot186 ow204 on204 ob204 ol204 oh204 oz296 kw_204 kn_204 kb_204 kl_204 kh_204 kz_296 (f_base p2 p2) (f_base (p2 ^^^ (-1 : Int32)) (p2 ^^^ (-1 : Int32))) p2 (p2 ^^^ (-1 : Int32)) p2 (p2 ^^^ (-1 : Int32)) p2 (p2 ^^^ (-1 : Int32)) p3 (p3 ^^^ (-1 : Int32)) (0 : Int32) (0 : Int32) (0 : Int32) (0 : Int32) (0 : Int32) (0 : Int32) (0 : Int32) (0 : Int32) (0 : Int32) (0 : Int32) (0 : Int32) (0 : Int32) kt186 p4 (p4 ^^^ (-1 : Int32)) T296.heap n0 (own_z0 O321) O321 S_CS f296_0 f296_1 f296_2 f296_3 f296_4 f296_5 f296_6 f296_7 f296_8 f296_9 f296_10 f296_11 f296_12 f296_13 f296_14 f296_15 F320 g_b198 g_oz296 ne_b198_ow204 ne_b198_on204 ne_b198_ob204 ne_b198_ol204 ne_b198_oh204 ne_b198_oz296 ne_ow204_on204 ne_ow204_ob204 ne_ow204_ol204 ne_ow204_oh204 ne_ow204_oz296 ne_on204_ob204 ne_on204_ol204 ne_on204_oh204 ne_on204_oz296 ne_ob204_ol204 ne_ob204_oh204 ne_ob204_oz296 ne_ol204_oh204 ne_ol204_oz296 ne_oh204_oz296 ne_ot186_b198 ne_ot186_ow204 ne_ot186_on204 ne_ot186_ob204 ne_ot186_ol204 ne_ot186_oh204 ne_ot186_oz296) pd___I_V_5 (bb at_121) 0 rfl (fun T319 L319 v319 X319 hQ319 => ?_)
              obtain ⟨rfl, N319q, K319, f319_0, f319_1, f319_2, f319_3, f319_4, f319_5, f319_6, f319_7, f319_8, f319_9, f319_10, f319_11, f319_12, f319_13, f319_14, f319_15⟩ := hQ319
              have N319 := Fr.app N296 N319q
              refine g_aload X319 hx (bb at_124) rfl rfl ?_
              have O323 := (O321.keep K319 (allS g_b198 (allS g_oz296 all0)))
              refine gcV X319 hx hZ hml hown (ww 32 rfl) (ww 7 rfl) (ww 36 rfl) (ww 33 rfl) (ww 35 rfl) (ww 34 rfl) rfl f319_0 (rm_clear2W l Z a0 ww [] b198 ow204 on204 ob204 ol204 oh204 oz296 kw_204 kn_204 kz_296 (3 : Int32) p2 (p2 ^^^ (-1 : Int32)) p3 (p3 ^^^ (-1 : Int32)) p4 (p4 ^^^ (-1 : Int32)) (0 : Int32) (0 : Int32) (0 : Int32) (0 : Int32) (0 : Int32) (0 : Int32) (0 : Int32) (0 : Int32) (0 : Int32) (0 : Int32) T319.heap n0 (own_z0 O323) O323 S_CS f319_0 f319_1 f319_2 f319_3 f319_4 f319_5 f319_6 f319_7 f319_8 f319_9 f319_10 f319_11 f319_15 g_b198 g_ow204 g_on204 ne_b198_ow204 ne_b198_on204 ne_b198_oz296 ne_ow204_on204 ne_ow204_oz296 ne_on204_oz296) pd___V_3 (bb at_126) 0 rfl (fun T322 L322 v322 X322 hQ322 => ?_)
              obtain ⟨ov322, kv_322, rfl, N322q, K322, szz_ov322, f322_0, f322_1, f322_2, f322_3, f322_4, f322_5, f322_6, f322_7, f322_8, f322_9⟩ := hQ322
              have N322 := Fr.app N319 N322q
              have g_ov322 : n0 ≤ ov322 := Nat.le_trans (own_z0 O323) szz_ov322
              have sz_ov322 : h0.size ≤ ov322 := Nat.le_trans (Nat.le_trans (Nat.le_trans (Nat.le_trans (Nat.le_trans (Nat.le_trans (Nat.le_trans (Nat.le_trans (Nat.le_trans (Nat.le_trans (Nat.le_trans (Nat.le_refl _) K183.1) K184.1) K186.1) K189.1) K193.1) E198.1) K204.1) K225.1) K296.1) K319.1) szz_ov322
              have F324 := ((F299.keep K296 (ninS ne_ot183_b198 (ninS ne_ot183_ow204 (ninS ne_ot183_on204 nin0)))).keep K319 (ninS ne_ot183_b198 (ninS ne_ot183_oz296 nin0)))
              have ne_ot183_ov322 : ot183 ≠ ov322 := Nat.ne_of_lt (Nat.lt_of_lt_of_le F324.lt szz_ov322)
              have F325 := ((F297.keep K296 (ninS ne_ot184_b198 (ninS ne_ot184_ow204 (ninS ne_ot184_on204 nin0)))).keep K319 (ninS ne_ot184_b198 (ninS ne_ot184_oz296 nin0)))
              have ne_ot184_ov322 : ot184 ≠ ov322 := Nat.ne_of_lt (Nat.lt_of_lt_of_le F325.lt szz_ov322)
              have F326 := (F320.keep K319 (ninS ne_ot186_b198 (ninS ne_ot186_oz296 nin0)))
              have ne_ot186_ov322 : ot186 ≠ ov322 := Nat.ne_of_lt (Nat.lt_of_lt_of_le F326.lt szz_ov322)
              have F327 := ((F301.keep K296 (ninS ne_ot189_b198 (ninS ne_ot189_ow204 (ninS ne_ot189_on204 nin0)))).keep K319 (ninS ne_ot189_b198 (ninS ne_ot189_oz296 nin0)))
              have ne_ot189_ov322 : ot189 ≠ ov322 := Nat.ne_of_lt (Nat.lt_of_lt_of_le F327.lt szz_ov322)
              have F328 := ((F302.keep K296 (ninS ne_ot193_b198 (ninS ne_ot193_ow204 (ninS ne_ot193_on204 nin0)))).keep K319 (ninS ne_ot193_b198 (ninS ne_ot193_oz296 nin0)))
              have ne_ot193_ov322 : ot193 ≠ ov322 := Nat.ne_of_lt (Nat.lt_of_lt_of_le F328.lt szz_ov322)
              have ne_b198_ov322 : b198 ≠ ov322 := Nat.ne_of_lt (Nat.lt_of_lt_of_le f319_0.lt szz_ov322)
              have ne_ob204_ov322 : ob204 ≠ ov322 := Nat.ne_of_lt (Nat.lt_of_lt_of_le f319_12.lt szz_ov322)
              have ne_ol204_ov322 : ol204 ≠ ov322 := Nat.ne_of_lt (Nat.lt_of_lt_of_le f319_13.lt szz_ov322)
              have ne_oh204_ov322 : oh204 ≠ ov322 := Nat.ne_of_lt (Nat.lt_of_lt_of_le f319_14.lt szz_ov322)
              have F329 := ((f225_15.keep K296 (ninS (Ne.symm ne_b198_ov204) (ninS (Ne.symm ne_ow204_ov204) (ninS (Ne.symm ne_on204_ov204) nin0)))).keep K319 (ninS (Ne.symm ne_b198_ov204) (ninS ne_ov204_oz296 nin0)))
              have ne_ov204_ov322 : ov204 ≠ ov322 := Nat.ne_of_lt (Nat.lt_of_lt_of_le F329.lt szz_ov322)
              have ne_ow204_ov322 : ow204 ≠ ov322 := Nat.ne_of_lt (Nat.lt_of_lt_of_le f319_8.lt szz_ov322)
              have ne_on204_ov322 : on204 ≠ ov322 := Nat.ne_of_lt (Nat.lt_of_lt_of_le f319_10.lt szz_ov322)
              have ne_oz296_ov322 : oz296 ≠ ov322 := Nat.ne_of_lt (Nat.lt_of_lt_of_le f319_15.lt szz_ov322)
              have O330 := (O323.keep K322 (allS g_b198 (allS g_ow204 (allS g_on204 all0))))
              have F331 := (f319_0.keep K322)
              have F332 := (f319_12.keep K322 (ninS (Ne.symm ne_b198_ob204) (ninS (Ne.symm ne_ow204_ob204) (ninS (Ne.symm ne_on204_ob204) nin0))))
              have F333 := (f319_13.keep K322 (ninS (Ne.symm ne_b198_ol204) (ninS (Ne.symm ne_ow204_ol204) (ninS (Ne.symm ne_on204_ol204) nin0))))
              have F334 := (f319_14.keep K322 (ninS (Ne.symm ne_b198_oh204) (ninS (Ne.symm ne_ow204_oh204) (ninS (Ne.symm ne_on204_oh204) nin0))))
              have F335 := (F327.keep K322 (ninS ne_ot189_b198 (ninS ne_ot189_ow204 (ninS ne_ot189_on204 nin0))))
              have F336 := (F328.keep K322 (ninS ne_ot193_b198 (ninS ne_ot193_ow204 (ninS ne_ot193_on204 nin0))))
              exact hm211 _ _ _ ov322 kv_322 (f_base p2 p2) (f_base (p2 ^^^ (-1 : Int32)) (p2 ^^^ (-1 : Int32))) p2 (p2 ^^^ (-1 : Int32)) p2 (p2 ^^^ (-1 : Int32)) (0 : Int32) (0 : Int32) (0 : Int32) (0 : Int32) (0 : Int32) (0 : Int32) (0 : Int32) (0 : Int32) (0 : Int32) (0 : Int32) (0 : Int32) (0 : Int32) (0 : Int32) (0 : Int32) (0 : Int32) (0 : Int32) (own_more X322 (by decide) (by decide)) rfl N322 O330 (Nat.le_trans (Nat.le_trans (Nat.le_trans (Nat.le_trans (Nat.le_trans (Nat.le_trans (Nat.le_trans (Nat.le_trans (Nat.le_trans (Nat.le_trans (Nat.le_trans (Nat.le_refl _) K183.1) K184.1) K186.1) K189.1) K193.1) E198.1) K204.1) K225.1) K296.1) K319.1) K322.1) g_ov322 ne_b198_ov322 ne_ow204_ov322 ne_on204_ov322 ne_ob204_ov322 ne_ol204_ov322 ne_oh204_ov322 ne_ot189_ov322 ne_ot193_ov322 F331 f322_0 f322_1 f322_2 f322_3 f322_4 f322_5 f322_6 f322_7 f322_8 F332 F333 F334 f322_9 F335 F336
    intro T211 L211 h211 ov_211 kv_211 mb0_211 mb1_211 ml0_211 ml1_211 mu0_211 mu1_211 mx0_211 mx1_211 mx2_211 mx3_211 mx4_211 mx5_211 mx6_211 mx7_211 mx8_211 mx9_211 mx10_211 mx11_211 mx12_211 mx13_211 mx14_211 mx15_211 X211 e211 N211 O211 hz211 gv211 n211_0 n211_1 n211_2 n211_3 n211_4 n211_5 n211_6 n211_7 f211_0 f211_1 f211_2 f211_3 f211_4 f211_5 f211_6 f211_7 f211_8 f211_9 f211_10 f211_11 f211_12 f211_13 f211_14 f211_15
    refine g_aload X211 hx (bb at_129) rfl rfl ?_
    refine g_aload X211 hx (bb at_131) rfl rfl ?_
    refine gcV X211 hx hZ hml hown (ww 39 rfl) (ww 7 rfl) (ww 43 rfl) (ww 40 rfl) (ww 42 rfl) (ww 41 rfl) e211 f211_0 (rm_add2N0 l Z a0 ww [] b198 ot189 ow204 on204 ob204 ol204 oh204 ov_211 kw_204 kn_204 kb_204 kl_204 kh_204 kv_211 mb0_211 mb1_211 ml0_211 ml1_211 mu0_211 mu1_211 mx0_211 mx1_211 mx2_211 mx3_211 mx4_211 mx5_211 mx6_211 mx7_211 mx8_211 mx9_211 mx10_211 mx11_211 mx12_211 mx13_211 mx14_211 mx15_211 kt189 p5 (p5 ^^^ (-1 : Int32)) h211 n0 (own_z0 O211) O211 S_CS f211_0 f211_1 f211_2 f211_3 f211_4 f211_5 f211_6 f211_7 f211_8 f204_9 f211_9 f204_11 f211_10 f211_11 f211_12 f211_13 f211_14 g_b198 g_ob204 g_ol204 g_oh204 gv211 ne_b198_ow204 ne_b198_on204 ne_b198_ob204 ne_b198_ol204 ne_b198_oh204 n211_0 ne_ow204_on204 ne_ow204_ob204 ne_ow204_ol204 ne_ow204_oh204 n211_1 ne_on204_ob204 ne_on204_ol204 ne_on204_oh204 n211_2 ne_ob204_ol204 ne_ob204_oh204 n211_3 ne_ol204_oh204 n211_4 n211_5 ne_ot189_b198 ne_ot189_ow204 ne_ot189_on204 ne_ot189_ob204 ne_ot189_ol204 ne_ot189_oh204 n211_6) pd___I_V_5 (bb at_133) 0 rfl (fun T337 L337 v337 X337 hQ337 => ?_)
    obtain ⟨rfl, N337q, K337, f337_0, f337_1, f337_2, f337_3, f337_4, f337_5, f337_6, f337_7, f337_8, f337_9, f337_10, f337_11, f337_12, f337_13, f337_14, f337_15⟩ := hQ337
    have N337 := Fr.app N211 N337q
    refine g_aload X337 hx (bb at_136) rfl rfl ?_
    refine g_aload X337 hx (bb at_138) rfl rfl ?_
    by_cases g338 : ((lcmpW (((f_maxI p6 p5).toInt64) - ((f_minI p6 p5).toInt64)) (65536 : Int64)) < (0 : Int32)) ∧ ((lcmpW (((f_maxI (p6 ^^^ (-1 : Int32)) (p5 ^^^ (-1 : Int32))).toInt64) - ((f_minI (p6 ^^^ (-1 : Int32)) (p5 ^^^ (-1 : Int32))).toInt64)) (65536 : Int64)) < (0 : Int32))
    · skip
      rw [if_pos g338] at hp
      have F340 := (f211_15.keep K337 (ninS ne_ot193_b198 (ninS ne_ot193_ob204 (ninS ne_ot193_ol204 (ninS ne_ot193_oh204 (ninS n211_7 nin0))))))
      have O341 := (O211.keep K337 (allS g_b198 (allS g_ob204 (allS g_ol204 (allS g_oh204 (allS gv211 all0))))))
      refine gcV X337 hx hZ hml hown (ww 39 rfl) (ww 7 rfl) (ww 43 rfl) (ww 40 rfl) (ww 42 rfl) (ww 41 rfl) rfl f337_0 (rm_add2N1 l Z a0 ww [] b198 ot193 ow204 on204 ob204 ol204 oh204 ov_211 kw_204 kn_204 kb_204 kl_204 kh_204 kv_211 (f_base p5 p5) (f_base (p5 ^^^ (-1 : Int32)) (p5 ^^^ (-1 : Int32))) p5 (p5 ^^^ (-1 : Int32)) p5 (p5 ^^^ (-1 : Int32)) p5 (p5 ^^^ (-1 : Int32)) mx2_211 mx3_211 mx4_211 mx5_211 mx6_211 mx7_211 mx8_211 mx9_211 mx10_211 mx11_211 mx12_211 mx13_211 mx14_211 mx15_211 kt193 p6 (p6 ^^^ (-1 : Int32)) T337.heap n0 (own_z0 O341) O341 S_CS f337_0 f337_1 f337_2 f337_3 f337_4 f337_5 f337_6 f337_7 f337_8 f337_9 f337_10 f337_11 f337_12 f337_13 f337_14 f337_15 F340 g_b198 g_ob204 g_ol204 g_oh204 gv211 ne_b198_ow204 ne_b198_on204 ne_b198_ob204 ne_b198_ol204 ne_b198_oh204 n211_0 ne_ow204_on204 ne_ow204_ob204 ne_ow204_ol204 ne_ow204_oh204 n211_1 ne_on204_ob204 ne_on204_ol204 ne_on204_oh204 n211_2 ne_ob204_ol204 ne_ob204_oh204 n211_3 ne_ol204_oh204 n211_4 n211_5 ne_ot193_b198 ne_ot193_ow204 ne_ot193_on204 ne_ot193_ob204 ne_ot193_ol204 ne_ot193_oh204 n211_7 g338.1 g338.2) pd___I_V_5 (bb at_140) 0 rfl (fun T339 L339 v339 X339 hQ339 => ?_)
      obtain ⟨rfl, N339q, K339, f339_0, f339_1, f339_2, f339_3, f339_4, f339_5, f339_6, f339_7, f339_8, f339_9, f339_10, f339_11, f339_12, f339_13, f339_14, f339_15⟩ := hQ339
      have N339 := Fr.app N337 N339q
      refine g_aload X339 hx (bb at_143) rfl rfl ?_
      refine g_iconst X339 hx (bb at_145) ?_
      refine g_iconst X339 hx (bb at_146) ?_
      obtain ⟨cl342, Ar342, vq342, vS342, vN342, vH342, vG342⟩ := id f339_10
      obtain ⟨cl343, Ar343, vq343, vS343, vN343, vH343, vG343⟩ := id f339_12
      obtain ⟨cl344, Ar344, vq344, vS344, vN344, vH344, vG344⟩ := id f339_15
      have O346 := (O341.keep K339 (allS g_b198 (allS g_ob204 (allS g_ol204 (allS g_oh204 (allS gv211 all0))))))
      refine gcV X339 hx hZ hml hown (ww 79 rfl) (ww 7 rfl) (ww 83 rfl) (ww 80 rfl) (ww 82 rfl) (ww 81 rfl) rfl f339_0 (rm_get2N l Z a0 ww [] b198 (0 : Int32) (0 : Int32) on204 ob204 ov_211 cl342 cl343 cl344 (nbase (f_base p5 p5) p5 p5 p6) p5 T339.heap n0 (own_z0 O346) O346 S_CS f339_1 f339_4 f339_5 Ar342 (inb_of vS342 ⟨by decide, by decide⟩) (vH342.at (inb_of vS342 ⟨by decide, by decide⟩) rfl) Ar343 (inb_of vS343 ⟨by decide, by decide⟩) (vH343.at (inb_of vS343 ⟨by decide, by decide⟩) rfl) Ar344 (inb_of vS344 ⟨by decide, by decide⟩) (vH344.at (inb_of vS344 ⟨by decide, by decide⟩) rfl) (own_inN (own_inS p5) (own_btS p5) g338.1)) pd__II_I_5 (bb at_147) 0 rfl (fun T345 L345 v345 X345 hQ345 => ?_)
      obtain ⟨rfl, N345q, e345⟩ := hQ345
      have N345 := Fr.app N339 N345q
      refine g_iload X345 hx (bb at_150) rfl ?_
      refine g_icmpNo X345 hx (bb at_152) (teq (rfl : p5 = p5)).2 ?_
      refine g_aload X345 hx (bb at_155) rfl rfl ?_
      refine g_iconst X345 hx (bb at_157) ?_
      refine g_iconst X345 hx (bb at_158) ?_
      obtain ⟨cl347, Ar347, vq347, vS347, vN347, vH347, vG347⟩ := id f339_10
      obtain ⟨cl348, Ar348, vq348, vS348, vN348, vH348, vG348⟩ := id f339_12
      obtain ⟨cl349, Ar349, vq349, vS349, vN349, vH349, vG349⟩ := id f339_15
      refine gcV X345 hx hZ hml hown (ww 79 rfl) (ww 7 rfl) (ww 83 rfl) (ww 80 rfl) (ww 82 rfl) (ww 81 rfl) e345 f339_0 (rm_get2N l Z a0 ww [] b198 (1 : Int32) (0 : Int32) on204 ob204 ov_211 cl347 cl348 cl349 (nbase (f_base p5 p5) p5 p5 p6) p6 T339.heap n0 (own_z0 O346) O346 S_CS f339_1 f339_4 f339_5 Ar347 (inb_of vS347 ⟨by decide, by decide⟩) (vH347.at (inb_of vS347 ⟨by decide, by decide⟩) rfl) Ar348 (inb_of vS348 ⟨by decide, by decide⟩) (vH348.at (inb_of vS348 ⟨by decide, by decide⟩) rfl) Ar349 (inb_of vS349 ⟨by decide, by decide⟩) (vH349.at (inb_of vS349 ⟨by decide, by decide⟩) rfl) (own_inT g338.1)) pd__II_I_5 (bb at_159) 0 rfl (fun T350 L350 v350 X350 hQ350 => ?_)
      obtain ⟨rfl, N350q, e350⟩ := hQ350
      have N350 := Fr.app N345 N350q
      refine g_iload X350 hx (bb at_162) rfl ?_
      refine g_icmpNo X350 hx (bb at_164) (teq (rfl : p6 = p6)).2 ?_
      refine g_iconst X350 hx (bb at_167) ?_
      refine g_goto X350 hx (pc' := 172) (bb at_168) (by decide) (by decide) ?_
      refine g_istore X350 hx (bb at_172) (l' := #[vI p1, vI p2, vI p3, vI p4, vI p5, vI p6, vI 1, vI 2, vI (((p1.toUInt32 >>> ((1 : Int32) &&& 31).toUInt32).toInt32) &&& (3 : Int32)), vR ot183, vR ot184, vR ot186, vR ot189, vR ot193, vR b198, vI 1]) rfl ?_
      refine g_iload X350 hx (bb at_174) rfl ?_
      refine g_ifNo X350 hx (bb at_176) ((if0 _ _).trans (feq (by decide : ¬ ((1 : Int32) = (0 : Int32)))).1) ?_
      refine g_iload X350 hx (bb at_179) rfl ?_
      refine g_ifNo X350 hx (bb at_181) ((if0 _ _).trans (feq (by decide : ¬ ((1 : Int32) = (0 : Int32)))).1) ?_
      refine g_aload X350 hx (bb at_184) rfl rfl ?_
      refine g_iconst X350 hx (bb at_186) ?_
      refine g_iconst X350 hx (bb at_187) ?_
      obtain ⟨cl351, Ar351, vq351, vS351, vN351, vH351, vG351⟩ := id f339_10
      obtain ⟨cl352, Ar352, vq352, vS352, vN352, vH352, vG352⟩ := id f339_12
      obtain ⟨cl353, Ar353, vq353, vS353, vN353, vH353, vG353⟩ := id f339_15
      refine gcV X350 hx hZ hml hown (ww 79 rfl) (ww 7 rfl) (ww 83 rfl) (ww 80 rfl) (ww 82 rfl) (ww 81 rfl) e350 f339_0 (rm_get2N l Z a0 ww [] b198 (0 : Int32) (1 : Int32) on204 ob204 ov_211 cl351 cl352 cl353 (nbase (f_base (p5 ^^^ (-1 : Int32)) (p5 ^^^ (-1 : Int32))) (p5 ^^^ (-1 : Int32)) (p5 ^^^ (-1 : Int32)) (p6 ^^^ (-1 : Int32))) (p5 ^^^ (-1 : Int32)) T339.heap n0 (own_z0 O346) O346 S_CS f339_1 f339_4 f339_5 Ar351 (inb_of vS351 ⟨by decide, by decide⟩) (vH351.at (inb_of vS351 ⟨by decide, by decide⟩) rfl) Ar352 (inb_of vS352 ⟨by decide, by decide⟩) (vH352.at (inb_of vS352 ⟨by decide, by decide⟩) rfl) Ar353 (inb_of vS353 ⟨by decide, by decide⟩) (vH353.at (inb_of vS353 ⟨by decide, by decide⟩) rfl) (own_inN (own_inS (p5 ^^^ (-1 : Int32))) (own_btS (p5 ^^^ (-1 : Int32))) g338.2)) pd__II_I_5 (bb at_188) 0 rfl (fun T354 L354 v354 X354 hQ354 => ?_)
      obtain ⟨rfl, N354q, e354⟩ := hQ354
      have N354 := Fr.app N350 N354q
      refine g_iload X354 hx (bb at_191) rfl ?_
      refine g_iconst X354 hx (bb at_193) ?_
      refine g_ixor X354 hx (bb at_194) ?_
      refine g_icmpNo X354 hx (bb at_195) (teq (rfl : (p5 ^^^ (-1 : Int32)) = (p5 ^^^ (-1 : Int32)))).2 ?_
      refine g_aload X354 hx (bb at_198) rfl rfl ?_
      refine g_iconst X354 hx (bb at_200) ?_
      refine g_iconst X354 hx (bb at_201) ?_
      obtain ⟨cl355, Ar355, vq355, vS355, vN355, vH355, vG355⟩ := id f339_10
      obtain ⟨cl356, Ar356, vq356, vS356, vN356, vH356, vG356⟩ := id f339_12
      obtain ⟨cl357, Ar357, vq357, vS357, vN357, vH357, vG357⟩ := id f339_15
      refine gcV X354 hx hZ hml hown (ww 79 rfl) (ww 7 rfl) (ww 83 rfl) (ww 80 rfl) (ww 82 rfl) (ww 81 rfl) e354 f339_0 (rm_get2N l Z a0 ww [] b198 (1 : Int32) (1 : Int32) on204 ob204 ov_211 cl355 cl356 cl357 (nbase (f_base (p5 ^^^ (-1 : Int32)) (p5 ^^^ (-1 : Int32))) (p5 ^^^ (-1 : Int32)) (p5 ^^^ (-1 : Int32)) (p6 ^^^ (-1 : Int32))) (p6 ^^^ (-1 : Int32)) T339.heap n0 (own_z0 O346) O346 S_CS f339_1 f339_4 f339_5 Ar355 (inb_of vS355 ⟨by decide, by decide⟩) (vH355.at (inb_of vS355 ⟨by decide, by decide⟩) rfl) Ar356 (inb_of vS356 ⟨by decide, by decide⟩) (vH356.at (inb_of vS356 ⟨by decide, by decide⟩) rfl) Ar357 (inb_of vS357 ⟨by decide, by decide⟩) (vH357.at (inb_of vS357 ⟨by decide, by decide⟩) rfl) (own_inT g338.2)) pd__II_I_5 (bb at_202) 0 rfl (fun T358 L358 v358 X358 hQ358 => ?_)
      obtain ⟨rfl, N358q, e358⟩ := hQ358
      have N358 := Fr.app N354 N358q
      refine g_iload X358 hx (bb at_205) rfl ?_
      refine g_iconst X358 hx (bb at_207) ?_
      refine g_ixor X358 hx (bb at_208) ?_
      refine g_icmpNo X358 hx (bb at_209) (teq (rfl : (p6 ^^^ (-1 : Int32)) = (p6 ^^^ (-1 : Int32)))).2 ?_
      refine g_iconst X358 hx (bb at_212) ?_
      refine g_goto X358 hx (pc' := 217) (bb at_213) (by decide) (by decide) ?_
      refine g_istore X358 hx (bb at_217) (l' := #[vI p1, vI p2, vI p3, vI p4, vI p5, vI p6, vI 1, vI 2, vI (((p1.toUInt32 >>> ((1 : Int32) &&& 31).toUInt32).toInt32) &&& (3 : Int32)), vR ot183, vR ot184, vR ot186, vR ot189, vR ot193, vR b198, vI 1]) rfl ?_
      refine g_iload X358 hx (bb at_219) rfl ?_
      obtain ⟨fs, hr, hrun, hended, hW, hsame⟩ := X358.leave (v := some (.int 1)) (fun h => by rw [hret] at h; cases h)
      subst hR0
      refine ⟨_, _, ?_, hrun, hended, _, _, rfl, ?_, ⟨_, rfl⟩, hW, hsame.mono (by decide) (by decide)⟩
      · exact retN X358 hx (t := .boolean) hret (by simp) (bb at_221) hr
      · exact ⟨rfl, N358⟩
    · skip
      rw [if_neg g338] at hp
      have F360 := (f211_15.keep K337 (ninS ne_ot193_b198 (ninS ne_ot193_ob204 (ninS ne_ot193_ol204 (ninS ne_ot193_oh204 (ninS n211_7 nin0))))))
      have O361 := (O211.keep K337 (allS g_b198 (allS g_ob204 (allS g_ol204 (allS g_oh204 (allS gv211 all0))))))
      refine gcV X337 hx hZ hml hown (ww 39 rfl) (ww 7 rfl) (ww 43 rfl) (ww 40 rfl) (ww 42 rfl) (ww 41 rfl) rfl f337_0 (rm_add2W1 l Z a0 ww [] b198 ot193 ow204 on204 ob204 ol204 oh204 ov_211 kw_204 kn_204 kb_204 kl_204 kh_204 kv_211 (f_base p5 p5) (f_base (p5 ^^^ (-1 : Int32)) (p5 ^^^ (-1 : Int32))) p5 (p5 ^^^ (-1 : Int32)) p5 (p5 ^^^ (-1 : Int32)) p5 (p5 ^^^ (-1 : Int32)) mx2_211 mx3_211 mx4_211 mx5_211 mx6_211 mx7_211 mx8_211 mx9_211 mx10_211 mx11_211 mx12_211 mx13_211 mx14_211 mx15_211 kt193 p6 (p6 ^^^ (-1 : Int32)) T337.heap n0 (own_z0 O361) O361 S_CS f337_0 f337_1 f337_2 f337_3 f337_4 f337_5 f337_6 f337_7 f337_8 f337_9 f337_10 f337_11 f337_12 f337_13 f337_14 f337_15 F360 g_b198 g_ow204 g_on204 ne_b198_ow204 ne_b198_on204 ne_b198_ob204 ne_b198_ol204 ne_b198_oh204 n211_0 ne_ow204_on204 ne_ow204_ob204 ne_ow204_ol204 ne_ow204_oh204 n211_1 ne_on204_ob204 ne_on204_ol204 ne_on204_oh204 n211_2 ne_ob204_ol204 ne_ob204_oh204 n211_3 ne_ol204_oh204 n211_4 n211_5 ne_ot193_b198 ne_ot193_ow204 ne_ot193_on204 ne_ot193_ob204 ne_ot193_ol204 ne_ot193_oh204 n211_7 (own_inS p5) (own_inS (p5 ^^^ (-1 : Int32))) g338) pd___I_V_5 (bb at_140) 0 rfl (fun T359 L359 v359 X359 hQ359 => ?_)
      obtain ⟨oz359, kz_359, rfl, N359q, K359, szz_oz359, f359_0, f359_1, f359_2, f359_3, f359_4, f359_5, f359_6, f359_7, f359_8, f359_9, f359_10, f359_11, f359_12, f359_13, f359_14, f359_15⟩ := hQ359
      have N359 := Fr.app N337 N359q
      have g_oz359 : n0 ≤ oz359 := Nat.le_trans (own_z0 O361) szz_oz359
      have sz_oz359 : h0.size ≤ oz359 := Nat.le_trans (Nat.le_trans hz211 K337.1) szz_oz359
      have ne_b198_oz359 : b198 ≠ oz359 := Nat.ne_of_lt (Nat.lt_of_lt_of_le f337_0.lt szz_oz359)
      have ne_ow204_oz359 : ow204 ≠ oz359 := Nat.ne_of_lt (Nat.lt_of_lt_of_le f337_8.lt szz_oz359)
      have ne_on204_oz359 : on204 ≠ oz359 := Nat.ne_of_lt (Nat.lt_of_lt_of_le f337_10.lt szz_oz359)
      have F362 := (f211_14.keep K337 (ninS ne_ot189_b198 (ninS ne_ot189_ob204 (ninS ne_ot189_ol204 (ninS ne_ot189_oh204 (ninS n211_6 nin0))))))
      have ne_ot189_oz359 : ot189 ≠ oz359 := Nat.ne_of_lt (Nat.lt_of_lt_of_le F362.lt szz_oz359)
      have ne_ot193_oz359 : ot193 ≠ oz359 := Nat.ne_of_lt (Nat.lt_of_lt_of_le F360.lt szz_oz359)
      have ne_ob204_oz359 : ob204 ≠ oz359 := Nat.ne_of_lt (Nat.lt_of_lt_of_le f337_12.lt szz_oz359)
      have ne_ol204_oz359 : ol204 ≠ oz359 := Nat.ne_of_lt (Nat.lt_of_lt_of_le f337_13.lt szz_oz359)
      have ne_oh204_oz359 : oh204 ≠ oz359 := Nat.ne_of_lt (Nat.lt_of_lt_of_le f337_14.lt szz_oz359)
      have ne_ov_211_oz359 : ov_211 ≠ oz359 := Nat.ne_of_lt (Nat.lt_of_lt_of_le f337_15.lt szz_oz359)
      refine g_aload X359 hx (bb at_143) rfl rfl ?_
      refine g_iconst X359 hx (bb at_145) ?_
      refine g_iconst X359 hx (bb at_146) ?_
      obtain ⟨cl363, Ar363, vq363, vS363, vN363, vH363, vG363⟩ := id f359_10
      obtain ⟨cl364, Ar364, vq364, vS364, vN364, vH364, vG364⟩ := id f359_8
      obtain ⟨cl365, Ar365, vq365, vS365, vN365, vH365, vG365⟩ := id f359_15
      have O367 := (O361.keep K359 (allS g_b198 (allS g_ow204 (allS g_on204 all0))))
      refine gcV X359 hx hZ hml hown (ww 79 rfl) (ww 7 rfl) (ww 83 rfl) (ww 80 rfl) (ww 82 rfl) (ww 81 rfl) rfl f359_0 (rm_get2W l Z a0 ww [] b198 (0 : Int32) (0 : Int32) on204 ow204 oz359 cl363 cl364 cl365 p5 T359.heap n0 (own_z0 O367) O367 S_CS f359_1 f359_4 f359_3 Ar363 (inb_of vS363 ⟨by decide, by decide⟩) (vH363.at (inb_of vS363 ⟨by decide, by decide⟩) rfl) Ar364 (inb_of vS364 ⟨by decide, by decide⟩) (vH364.at (inb_of vS364 ⟨by decide, by decide⟩) rfl) Ar365 (inb_of vS365 ⟨by decide, by decide⟩) (vH365.at (inb_of vS365 ⟨by decide, by decide⟩) rfl)) pd__II_I_5 (bb at_147) 0 rfl (fun T366 L366 v366 X366 hQ366 => ?_)
      obtain ⟨rfl, N366q, e366⟩ := hQ366
      have N366 := Fr.app N359 N366q
      refine g_iload X366 hx (bb at_150) rfl ?_
      refine g_icmpNo X366 hx (bb at_152) (teq (rfl : p5 = p5)).2 ?_
      refine g_aload X366 hx (bb at_155) rfl rfl ?_
      refine g_iconst X366 hx (bb at_157) ?_
      refine g_iconst X366 hx (bb at_158) ?_
      obtain ⟨cl368, Ar368, vq368, vS368, vN368, vH368, vG368⟩ := id f359_10
      obtain ⟨cl369, Ar369, vq369, vS369, vN369, vH369, vG369⟩ := id f359_8
      obtain ⟨cl370, Ar370, vq370, vS370, vN370, vH370, vG370⟩ := id f359_15
      refine gcV X366 hx hZ hml hown (ww 79 rfl) (ww 7 rfl) (ww 83 rfl) (ww 80 rfl) (ww 82 rfl) (ww 81 rfl) e366 f359_0 (rm_get2W l Z a0 ww [] b198 (1 : Int32) (0 : Int32) on204 ow204 oz359 cl368 cl369 cl370 p6 T359.heap n0 (own_z0 O367) O367 S_CS f359_1 f359_4 f359_3 Ar368 (inb_of vS368 ⟨by decide, by decide⟩) (vH368.at (inb_of vS368 ⟨by decide, by decide⟩) rfl) Ar369 (inb_of vS369 ⟨by decide, by decide⟩) (vH369.at (inb_of vS369 ⟨by decide, by decide⟩) rfl) Ar370 (inb_of vS370 ⟨by decide, by decide⟩) (vH370.at (inb_of vS370 ⟨by decide, by decide⟩) rfl)) pd__II_I_5 (bb at_159) 0 rfl (fun T371 L371 v371 X371 hQ371 => ?_)
      obtain ⟨rfl, N371q, e371⟩ := hQ371
      have N371 := Fr.app N366 N371q
      refine g_iload X371 hx (bb at_162) rfl ?_
      refine g_icmpNo X371 hx (bb at_164) (teq (rfl : p6 = p6)).2 ?_
      refine g_iconst X371 hx (bb at_167) ?_
      refine g_goto X371 hx (pc' := 172) (bb at_168) (by decide) (by decide) ?_
      refine g_istore X371 hx (bb at_172) (l' := #[vI p1, vI p2, vI p3, vI p4, vI p5, vI p6, vI 1, vI 2, vI (((p1.toUInt32 >>> ((1 : Int32) &&& 31).toUInt32).toInt32) &&& (3 : Int32)), vR ot183, vR ot184, vR ot186, vR ot189, vR ot193, vR b198, vI 1]) rfl ?_
      refine g_iload X371 hx (bb at_174) rfl ?_
      refine g_ifNo X371 hx (bb at_176) ((if0 _ _).trans (feq (by decide : ¬ ((1 : Int32) = (0 : Int32)))).1) ?_
      refine g_iload X371 hx (bb at_179) rfl ?_
      refine g_ifNo X371 hx (bb at_181) ((if0 _ _).trans (feq (by decide : ¬ ((1 : Int32) = (0 : Int32)))).1) ?_
      refine g_aload X371 hx (bb at_184) rfl rfl ?_
      refine g_iconst X371 hx (bb at_186) ?_
      refine g_iconst X371 hx (bb at_187) ?_
      obtain ⟨cl372, Ar372, vq372, vS372, vN372, vH372, vG372⟩ := id f359_10
      obtain ⟨cl373, Ar373, vq373, vS373, vN373, vH373, vG373⟩ := id f359_8
      obtain ⟨cl374, Ar374, vq374, vS374, vN374, vH374, vG374⟩ := id f359_15
      refine gcV X371 hx hZ hml hown (ww 79 rfl) (ww 7 rfl) (ww 83 rfl) (ww 80 rfl) (ww 82 rfl) (ww 81 rfl) e371 f359_0 (rm_get2W l Z a0 ww [] b198 (0 : Int32) (1 : Int32) on204 ow204 oz359 cl372 cl373 cl374 (p5 ^^^ (-1 : Int32)) T359.heap n0 (own_z0 O367) O367 S_CS f359_1 f359_4 f359_3 Ar372 (inb_of vS372 ⟨by decide, by decide⟩) (vH372.at (inb_of vS372 ⟨by decide, by decide⟩) rfl) Ar373 (inb_of vS373 ⟨by decide, by decide⟩) (vH373.at (inb_of vS373 ⟨by decide, by decide⟩) rfl) Ar374 (inb_of vS374 ⟨by decide, by decide⟩) (vH374.at (inb_of vS374 ⟨by decide, by decide⟩) rfl)) pd__II_I_5 (bb at_188) 0 rfl (fun T375 L375 v375 X375 hQ375 => ?_)
      obtain ⟨rfl, N375q, e375⟩ := hQ375
      have N375 := Fr.app N371 N375q
      refine g_iload X375 hx (bb at_191) rfl ?_
      refine g_iconst X375 hx (bb at_193) ?_
      refine g_ixor X375 hx (bb at_194) ?_
      refine g_icmpNo X375 hx (bb at_195) (teq (rfl : (p5 ^^^ (-1 : Int32)) = (p5 ^^^ (-1 : Int32)))).2 ?_
      refine g_aload X375 hx (bb at_198) rfl rfl ?_
      refine g_iconst X375 hx (bb at_200) ?_
      refine g_iconst X375 hx (bb at_201) ?_
      obtain ⟨cl376, Ar376, vq376, vS376, vN376, vH376, vG376⟩ := id f359_10
      obtain ⟨cl377, Ar377, vq377, vS377, vN377, vH377, vG377⟩ := id f359_8
      obtain ⟨cl378, Ar378, vq378, vS378, vN378, vH378, vG378⟩ := id f359_15
      refine gcV X375 hx hZ hml hown (ww 79 rfl) (ww 7 rfl) (ww 83 rfl) (ww 80 rfl) (ww 82 rfl) (ww 81 rfl) e375 f359_0 (rm_get2W l Z a0 ww [] b198 (1 : Int32) (1 : Int32) on204 ow204 oz359 cl376 cl377 cl378 (p6 ^^^ (-1 : Int32)) T359.heap n0 (own_z0 O367) O367 S_CS f359_1 f359_4 f359_3 Ar376 (inb_of vS376 ⟨by decide, by decide⟩) (vH376.at (inb_of vS376 ⟨by decide, by decide⟩) rfl) Ar377 (inb_of vS377 ⟨by decide, by decide⟩) (vH377.at (inb_of vS377 ⟨by decide, by decide⟩) rfl) Ar378 (inb_of vS378 ⟨by decide, by decide⟩) (vH378.at (inb_of vS378 ⟨by decide, by decide⟩) rfl)) pd__II_I_5 (bb at_202) 0 rfl (fun T379 L379 v379 X379 hQ379 => ?_)
      obtain ⟨rfl, N379q, e379⟩ := hQ379
      have N379 := Fr.app N375 N379q
      refine g_iload X379 hx (bb at_205) rfl ?_
      refine g_iconst X379 hx (bb at_207) ?_
      refine g_ixor X379 hx (bb at_208) ?_
      refine g_icmpNo X379 hx (bb at_209) (teq (rfl : (p6 ^^^ (-1 : Int32)) = (p6 ^^^ (-1 : Int32)))).2 ?_
      refine g_iconst X379 hx (bb at_212) ?_
      refine g_goto X379 hx (pc' := 217) (bb at_213) (by decide) (by decide) ?_
      refine g_istore X379 hx (bb at_217) (l' := #[vI p1, vI p2, vI p3, vI p4, vI p5, vI p6, vI 1, vI 2, vI (((p1.toUInt32 >>> ((1 : Int32) &&& 31).toUInt32).toInt32) &&& (3 : Int32)), vR ot183, vR ot184, vR ot186, vR ot189, vR ot193, vR b198, vI 1]) rfl ?_
      refine g_iload X379 hx (bb at_219) rfl ?_
      obtain ⟨fs, hr, hrun, hended, hW, hsame⟩ := X379.leave (v := some (.int 1)) (fun h => by rw [hret] at h; cases h)
      subst hR0
      refine ⟨_, _, ?_, hrun, hended, _, _, rfl, ?_, ⟨_, rfl⟩, hW, hsame.mono (by decide) (by decide)⟩
      · exact retN X379 hx (t := .boolean) hret (by simp) (bb at_221) hr
      · exact ⟨rfl, N379⟩
theorem own_plain {p1 : Int32} {p5 : Int32} {p6 : Int32} : lawP p1 p5 p6 := by
  unfold lawP
  repeat' split
  all_goals trivial
set_option maxRecDepth 65536 in
set_option maxHeartbeats 40000000 in
theorem comes_1 {Post : Tables → Env → Array Value → State → Outcome → State → Prop} (hpost : ∀ tb e args s v u, (limb_1_1.after args s (.returned v) u = true ∧ limb_1_2.after args s (.returned v) u = true ∧ True) → FrameEnd s (.returned v) u (Jvm.fieldLocs frame_1_writes args s ++ Jvm.arrayLocs frame_1_arrays args s ++ Jvm.staticLocs frame_1_statics s) 40 256 → Post tb e args s (.returned v) u) :
    ArmFor flags0 classFile x code maxLocals ret World_1 tables_1 room_1 Calls_1 rest_1 Pre_1 Post := by
  intro l hfl _ _ p e ha hc hk s m args below hf hA hF happ hP
  obtain ⟨hcalls, hrest, hpre⟩ := hP
  obtain ⟨-, -, -, hnamed, -, -, -, hat⟩ := (Spec.applies_iff hf).mp happ
  obtain ⟨hg, hn⟩ := and_e (Cond.before_iff.mp (show (Jvm.Cond.and given_1 narrow_1).before args s = true from hpre))
  obtain ⟨gv0, gr0⟩ := and_e hg
  obtain ⟨gv1, gr1⟩ := and_e gr0
  obtain ⟨gv2, gr2⟩ := and_e gr1
  obtain ⟨gv3, gr3⟩ := and_e gr2
  obtain ⟨gv4, gr4⟩ := and_e gr3
  obtain ⟨gv5, gr5⟩ := and_e gr4
  obtain ⟨w0, w1, w2, w3, w4, w5, rfl⟩ : ∃ w0 w1 w2 w3 w4 w5 : Value, args = #[w0, w1, w2, w3, w4, w5] := by
    have hs : args.size = 6 := by simpa [Cond.value, given_1] using gv0
    obtain ⟨L⟩ := args
    match L, hs with
    | [w0, w1, w2, w3, w4, w5], _ => exact ⟨w0, w1, w2, w3, w4, w5, rfl⟩
  have hw := fun d (hd : d ∈ tables_1) => atoms_spec (ws := Jvm.Cond.code x code maxLocals ret :: tables_1) hat d (List.mem_cons_of_mem _ hd)
  have ww := fun (i : Nat) {d : Jvm.Cond} (h : tables_1[i]? = some d) => hw d (List.mem_of_getElem? h)
  obtain ⟨i0, ei0⟩ := is_v gv1
  obtain rfl : w0 = (.int i0) := Option.some.inj ei0
  obtain ⟨i1, ei1⟩ := is_v gv2
  obtain rfl : w1 = (.int i1) := Option.some.inj ei1
  obtain ⟨i2, ei2⟩ := is_v gv3
  obtain rfl : w2 = (.int i2) := Option.some.inj ei2
  obtain ⟨i3, ei3⟩ := is_v gv4
  obtain rfl : w3 = (.int i3) := Option.some.inj ei3
  obtain ⟨i4, ei4⟩ := is_v gv5
  obtain rfl : w4 = (.int i4) := Option.some.inj ei4
  obtain ⟨i5, ei5⟩ := is_v gr5
  obtain rfl : w5 = (.int i5) := Option.some.inj ei5
  -- hn says: (Jvm.Cond.eq (Jvm.Term.static cRV "CHUNK_SHIFT" "I") (Jvm.Term.int (12 : Int32)))
  have O0 := Old.start s
  have S_CS : Sta s s.heap cRV "CHUNK_SHIFT" "I" (.int (12 : Int32)) := Sta.start (eqv_i (Term.int_eval (12)) hn) (Or.inr ⟨(ww 7 rfl), (ww 45 rfl)⟩)
  obtain ⟨n, o, h1, h2, h3, _, L, rfl, ⟨rfl, N⟩, hq⟩ := rm_law l s _ ww tables_1 i0 i1 i2 i3 i4 i5 s.heap s.heap.size (Nat.le_refl _) O0 S_CS own_plain p e ha hc hk s m _ below hf ((Spec.applies_iff_loose hf).mp happ).1 ⟨rfl, State.Warmed39.refl s, rfl⟩ trivial
  exact ⟨n, _, h1, h2, h3, hpost _ _ _ _ _ _ ⟨Cond.after_iff.mpr rfl, Cond.after_iff.mpr (eq_i res_at (Term.int_eval (1)) rfl), trivial⟩ ⟨hq.1, hq.2.1, (hq.2.2.sift fun y hy => Or.inr (N y hy)).mono (by decide) (by decide)⟩⟩
theorem main_1_1 : Claimed_1_1 := comes_1 fun _ _ _ _ _ _ h hF => ⟨h.1, hF⟩
theorem main_1_2 : Claimed_1_2 := comes_1 fun _ _ _ _ _ _ h hF => ⟨h.2.1, hF⟩

end Jvm.Pilot.@@N@@
namespace Jvm.Pilot.@@N@@
open Jvm Jvm.ClassFile Sem Op Lib Jvm.Free Jvm.Stand Jvm.Pilot.@@N@@.Jvm.D
/-! MADE BY PROGRAM (witnessworld.py) out of the Statement's table words and the real class files: 13 classes; the members and pool entries that the words name. The judged class is class 1, her method 1. -/
namespace start1
open Jvm.ClassFile
def u (s : String) : CpInfo := .utf8 (stringToUtf16 s)
/-- a pool by its gaps: so many unusable entries, then the entry; so many at the end -/
def gap : Nat → List CpInfo → List CpInfo
  | 0, r => r
  | n + 1, r => .unusable :: gap n r
def poolList (es : List (Nat × CpInfo)) (last : Nat) : List CpInfo := es.foldr (fun e r => gap e.1 (e.2 :: r)) (gap last [])
def pool (es : List (Nat × CpInfo)) (last : Nat) : Array CpInfo := ⟨poolList es last⟩
def fileOf (pool : Array CpInfo) (this : Nat) (attrs : Array Attribute := #[]) (ms : Array MethodInfo := #[]) (fl : Nat := 33) (sup : Nat := 0) (ifs : Array Nat := #[]) (fds : Array FieldInfo := #[]) : ClassFile where
  minorVersion := 0
  majorVersion := 65
  constantPool := pool
  accessFlags := fl
  thisClass := this
  superClass := sup
  interfaces := ifs
  fields := fds
  methods := ms
  attributes := attrs
def plain (name : String) (sup : Option ClassId) : Class where
  name := name
  kind := .ordinary
  loader := none
  accessFlags := 33
  super := sup
  interfaces := #[]
  cf := none
  fields := #[]
  methods := #[]
  instanceTypes := #[]
  staticTypes := #[]
  resolved := #[]
  callSites := []
  init := .initialized
  statics := none
  mirror := none

def pool0 : Array CpInfo := pool [(5, u "<init>"), (0, u "()V"), (1, .class_ 10), (1, u "java/lang/Object")] 113

def k0c0 : Code := { maxStack := 0, maxLocals := 1, code := object_method_1_code, exceptionTable := #[], attributes := #[] }
def k0m0 : Method := { name := "<init>", desc := "()V", sig := { parameters := [], returnType := none }, accessFlags := 1, code := some k0c0 }
/-- java/lang/Object -/
def k0 : Class := { plain "java/lang/Object" none with
  accessFlags := 33
  interfaces := #[]
  cf := some (fileOf pool0 8 #[] #[{ accessFlags := 1, nameIndex := 5, descriptorIndex := 6, attributes := #[] }] 33 0 #[] #[])
  fields := #[]
  methods := #[k0m0]
  instanceTypes := #[]
  staticTypes := #[]
  resolved := Array.replicate 124 none
  statics := none }

def pool1 : Array CpInfo := pool [(2, .class_ 4), (1, u "java/lang/Object"), (0, u "<init>"), (0, u "()V"), (0, .methodref 8 9), (0, .class_ 10), (0, .nameAndType 11 12), (0, u "com/example/chaseward/chaseward/engine/RowValuesClearPinLaw"), (0, u "tuple"), (0, u "(ZI)[I"), (0, .class_ 14), (0, u "com/example/chaseward/chaseward/engine/RowValues"), (0, .methodref 13 16), (0, .nameAndType 5 17), (0, u "(I)V"), (0, .methodref 13 19), (0, .nameAndType 20 21), (0, u "add"), (0, u "([I)V"), (0, .methodref 13 23), (0, .nameAndType 24 6), (0, u "clear"), (0, .methodref 13 26), (0, .nameAndType 27 28), (0, u "get"), (0, u "(II)I"), (2, u "law"), (0, u "(IIIIII)Z")] 5

def k1m0 : Method := { name := "<init>", desc := "()V", sig := { parameters := [], returnType := none }, accessFlags := 1, code := none }
def k1c1 : Code := { maxStack := 3, maxLocals := 16, code := code, exceptionTable := #[], attributes := #[] }
def k1m1 : Method := { name := "law", desc := "(IIIIII)Z", sig := { parameters := [.int, .int, .int, .int, .int, .int], returnType := some .boolean }, accessFlags := 9, code := some k1c1 }
def k1c2 : Code := { maxStack := 5, maxLocals := 2, code := method_3_code, exceptionTable := #[], attributes := #[] }
def k1m2 : Method := { name := "tuple", desc := "(ZI)[I", sig := { parameters := [.boolean, .int], returnType := some (.array .int) }, accessFlags := 10, code := some k1c2 }
/-- com/example/chaseward/chaseward/engine/RowValuesClearPinLaw -/
def k1 : Class := { plain "com/example/chaseward/chaseward/engine/RowValuesClearPinLaw" (some 0) with
  accessFlags := 49
  interfaces := #[]
  cf := some (fileOf pool1 8 #[] #[{ accessFlags := 1, nameIndex := 5, descriptorIndex := 6, attributes := #[] }, { accessFlags := 9, nameIndex := 31, descriptorIndex := 32, attributes := #[] }, { accessFlags := 10, nameIndex := 11, descriptorIndex := 12, attributes := #[] }] 49 2 #[] #[])
  fields := #[]
  methods := #[k1m0, k1m1, k1m2]
  instanceTypes := #[]
  staticTypes := #[]
  resolved := Array.replicate 38 none
  statics := none }

def pool2 : Array CpInfo := pool [(1, .methodref 2 3), (0, .class_ 4), (0, .nameAndType 5 6), (0, u "java/lang/Object"), (0, u "<init>"), (0, u "()V"), (0, .class_ 8), (0, u "[I"), (0, .fieldref 10 11), (0, .class_ 12), (0, .nameAndType 13 14), (0, u "com/example/chaseward/chaseward/engine/RowValues"), (0, u "wide"), (0, u "[[I"), (0, .class_ 16), (0, u "[C"), (0, .fieldref 10 18), (0, .nameAndType 19 20), (0, u "narrow"), (0, u "[[C"), (0, .fieldref 10 22), (0, .nameAndType 23 24), (0, u "arity"), (0, u "I"), (0, .fieldref 10 26), (0, .nameAndType 27 8), (0, u "bases"), (0, .fieldref 10 29), (0, .nameAndType 30 8), (0, u "lowest"), (0, .fieldref 10 32), (0, .nameAndType 33 8), (0, u "highest"), (0, .fieldref 10 35), (0, .nameAndType 36 24), (0, u "rows"), (0, .fieldref 10 38), (0, .nameAndType 39 24), (0, u "CHUNK_SHIFT"), (0, .methodref 10 41), (0, .nameAndType 42 43), (0, u "start"), (0, u "(I[I)V"), (0, .methodref 10 45), (0, .nameAndType 46 47), (0, u "makeRoom"), (0, u "(II)V"), (0, .methodref 10 49), (0, .nameAndType 50 51), (0, u "fit"), (0, u "(II[I)V"), (11, .methodref 10 64), (0, .nameAndType 65 66), (0, u "base"), (0, u "(II)I"), (0, .methodref 68 69), (0, .class_ 70), (0, .nameAndType 71 72), (0, u "java/lang/System"), (0, u "arraycopy"), (0, u "(Ljava/lang/Object;ILjava/lang/Object;II)V"), (0, .methodref 74 75), (0, .class_ 76), (0, .nameAndType 77 66), (0, u "java/lang/Math"), (0, u "min"), (3, .methodref 74 82), (0, .nameAndType 83 66), (0, u "max"), (0, .long 65536), (1, .methodref 10 87), (0, .nameAndType 88 47), (0, u "widen"), (0, .long 65535), (3, .long 18446744071562067968), (1, .long 2), (1, .methodref 74 98), (0, .nameAndType 83 99), (0, u "(JJ)J"), (0, .methodref 10 101), (0, .nameAndType 102 66), (0, u "get"), (4, u "CHUNK_ROWS"), (2, u "SPAN"), (1, u "(I)V"), (2, u "clear"), (1, u "add"), (0, u "([I)V")] 3

def k2c0 : Code := { maxStack := 4, maxLocals := 2, code := prog_47_method_1_code, exceptionTable := #[], attributes := #[] }
def k2m0 : Method := { name := "<init>", desc := "(I)V", sig := { parameters := [.int], returnType := none }, accessFlags := 0, code := some k2c0 }
def k2c1 : Code := { maxStack := 4, maxLocals := 2, code := prog_47_method_2_code, exceptionTable := #[], attributes := #[] }
def k2m1 : Method := { name := "clear", desc := "()V", sig := { parameters := [], returnType := none }, accessFlags := 0, code := some k2c1 }
def k2c2 : Code := { maxStack := 3, maxLocals := 6, code := prog_47_method_3_code, exceptionTable := #[], attributes := #[] }
def k2m2 : Method := { name := "get", desc := "(II)I", sig := { parameters := [.int, .int], returnType := some .int }, accessFlags := 0, code := some k2c2 }
def k2c3 : Code := { maxStack := 6, maxLocals := 7, code := prog_47_method_4_code, exceptionTable := #[], attributes := #[] }
def k2m3 : Method := { name := "add", desc := "([I)V", sig := { parameters := [(.array .int)], returnType := none }, accessFlags := 0, code := some k2c3 }
def k2c4 : Code := { maxStack := 5, maxLocals := 4, code := prog_47_method_5_code, exceptionTable := #[], attributes := #[] }
def k2m4 : Method := { name := "start", desc := "(I[I)V", sig := { parameters := [.int, (.array .int)], returnType := none }, accessFlags := 2, code := some k2c4 }
def k2c5 : Code := { maxStack := 4, maxLocals := 5, code := prog_47_method_6_code, exceptionTable := #[], attributes := #[] }
def k2m5 : Method := { name := "makeRoom", desc := "(II)V", sig := { parameters := [.int, .int], returnType := none }, accessFlags := 2, code := some k2c5 }
def k2c6 : Code := { maxStack := 5, maxLocals := 11, code := prog_47_method_7_code, exceptionTable := #[], attributes := #[] }
def k2m6 : Method := { name := "fit", desc := "(II[I)V", sig := { parameters := [.int, .int, (.array .int)], returnType := none }, accessFlags := 2, code := some k2c6 }
def k2c7 : Code := { maxStack := 8, maxLocals := 4, code := prog_47_method_8_code, exceptionTable := #[], attributes := #[] }
def k2m7 : Method := { name := "base", desc := "(II)I", sig := { parameters := [.int, .int], returnType := some .int }, accessFlags := 10, code := some k2c7 }
def k2c8 : Code := { maxStack := 5, maxLocals := 6, code := prog_47_method_9_code, exceptionTable := #[], attributes := #[] }
def k2m8 : Method := { name := "widen", desc := "(II)V", sig := { parameters := [.int, .int], returnType := none }, accessFlags := 2, code := some k2c8 }
/-- com/example/chaseward/chaseward/engine/RowValues -/
def k2 : Class := { plain "com/example/chaseward/chaseward/engine/RowValues" (some 0) with
  accessFlags := 48
  interfaces := #[]
  cf := some (fileOf pool2 10 #[] #[{ accessFlags := 0, nameIndex := 5, descriptorIndex := 112, attributes := #[] }, { accessFlags := 0, nameIndex := 115, descriptorIndex := 6, attributes := #[] }, { accessFlags := 0, nameIndex := 102, descriptorIndex := 66, attributes := #[] }, { accessFlags := 0, nameIndex := 117, descriptorIndex := 118, attributes := #[] }, { accessFlags := 2, nameIndex := 42, descriptorIndex := 43, attributes := #[] }, { accessFlags := 2, nameIndex := 46, descriptorIndex := 47, attributes := #[] }, { accessFlags := 2, nameIndex := 50, descriptorIndex := 51, attributes := #[] }, { accessFlags := 10, nameIndex := 65, descriptorIndex := 66, attributes := #[] }, { accessFlags := 2, nameIndex := 88, descriptorIndex := 47, attributes := #[] }] 48 2 #[] #[{ accessFlags := 26, nameIndex := 107, descriptorIndex := 24, attributes := #[] }, { accessFlags := 26, nameIndex := 39, descriptorIndex := 24, attributes := #[] }, { accessFlags := 26, nameIndex := 110, descriptorIndex := 24, attributes := #[] }, { accessFlags := 18, nameIndex := 23, descriptorIndex := 24, attributes := #[] }, { accessFlags := 2, nameIndex := 36, descriptorIndex := 24, attributes := #[] }, { accessFlags := 2, nameIndex := 13, descriptorIndex := 14, attributes := #[] }, { accessFlags := 2, nameIndex := 19, descriptorIndex := 20, attributes := #[] }, { accessFlags := 2, nameIndex := 27, descriptorIndex := 8, attributes := #[] }, { accessFlags := 18, nameIndex := 30, descriptorIndex := 8, attributes := #[] }, { accessFlags := 18, nameIndex := 33, descriptorIndex := 8, attributes := #[] }])
  fields := #[{ name := "CHUNK_ROWS", type := .int, accessFlags := 26, slot := 0, constantValue := 0 }, { name := "CHUNK_SHIFT", type := .int, accessFlags := 26, slot := 1, constantValue := 0 }, { name := "SPAN", type := .int, accessFlags := 26, slot := 2, constantValue := 0 }, { name := "arity", type := .int, accessFlags := 18, slot := 0, constantValue := 0 }, { name := "rows", type := .int, accessFlags := 2, slot := 1, constantValue := 0 }, { name := "wide", type := (.array (.array .int)), accessFlags := 2, slot := 2, constantValue := 0 }, { name := "narrow", type := (.array (.array .char)), accessFlags := 2, slot := 3, constantValue := 0 }, { name := "bases", type := (.array .int), accessFlags := 2, slot := 4, constantValue := 0 }, { name := "lowest", type := (.array .int), accessFlags := 18, slot := 5, constantValue := 0 }, { name := "highest", type := (.array .int), accessFlags := 18, slot := 6, constantValue := 0 }]
  methods := #[k2m0, k2m1, k2m2, k2m3, k2m4, k2m5, k2m6, k2m7, k2m8]
  instanceTypes := #[.int, .int, (.array (.array .int)), (.array (.array .char)), (.array .int), (.array .int), (.array .int)]
  staticTypes := #[.int, .int, .int]
  resolved := Array.replicate 122 none
  statics := some 0 }

def pool3 : Array CpInfo := pool [(1, .class_ 2), (0, u "java/lang/Math"), (1, .class_ 6), (1, u "java/lang/Object"), (0, u "<init>"), (0, u "()V"), (89, .class_ 100), (1, u "java/lang/Math$RandomNumberGeneratorHolder"), (20, u "(JJ)J"), (50, u "negativeZeroFloatBits"), (0, u "J"), (2, u "negativeZeroDoubleBits"), (21, u "max"), (2, u "min"), (43, u "$assertionsDisabled"), (0, u "Z"), (88, u "(II)I"), (2, u "twoToTheDoubleScaleDown"), (0, u "D"), (4, u "twoToTheDoubleScaleUp"), (9, u "E"), (3, u "PI"), (2, u "TAU"), (2, u "DEGREES_TO_RADIANS"), (0, u "RADIANS_TO_DEGREES")] 94

def k3m0 : Method := { name := "<init>", desc := "()V", sig := { parameters := [], returnType := none }, accessFlags := 2, code := none }
def k3c1 : Code := { maxStack := 2, maxLocals := 2, code := jdk_29_method_65_code, exceptionTable := #[], attributes := #[] }
def k3m1 : Method := { name := "max", desc := "(II)I", sig := { parameters := [.int, .int], returnType := some .int }, accessFlags := 9, code := some k3c1 }
def k3c2 : Code := { maxStack := 4, maxLocals := 4, code := jdk_29_method_66_code, exceptionTable := #[], attributes := #[] }
def k3m2 : Method := { name := "max", desc := "(JJ)J", sig := { parameters := [.long, .long], returnType := some .long }, accessFlags := 9, code := some k3c2 }
def k3c3 : Code := { maxStack := 2, maxLocals := 2, code := jdk_29_method_69_code, exceptionTable := #[], attributes := #[] }
def k3m3 : Method := { name := "min", desc := "(II)I", sig := { parameters := [.int, .int], returnType := some .int }, accessFlags := 9, code := some k3c3 }
/-- java/lang/Math -/
def k3 : Class := { plain "java/lang/Math" (some 0) with
  accessFlags := 49
  interfaces := #[]
  cf := some (fileOf pool3 1 #[.nestMembers #[98]] #[{ accessFlags := 2, nameIndex := 7, descriptorIndex := 8, attributes := #[] }, { accessFlags := 9, nameIndex := 198, descriptorIndex := 335, attributes := #[] }, { accessFlags := 9, nameIndex := 198, descriptorIndex := 121, attributes := #[] }, { accessFlags := 9, nameIndex := 201, descriptorIndex := 335, attributes := #[] }] 49 4 #[] #[{ accessFlags := 25, nameIndex := 354, descriptorIndex := 339, attributes := #[] }, { accessFlags := 25, nameIndex := 358, descriptorIndex := 339, attributes := #[] }, { accessFlags := 25, nameIndex := 361, descriptorIndex := 339, attributes := #[] }, { accessFlags := 26, nameIndex := 364, descriptorIndex := 339, attributes := #[] }, { accessFlags := 26, nameIndex := 365, descriptorIndex := 339, attributes := #[] }, { accessFlags := 26, nameIndex := 172, descriptorIndex := 173, attributes := #[] }, { accessFlags := 26, nameIndex := 176, descriptorIndex := 173, attributes := #[] }, { accessFlags := 8, nameIndex := 344, descriptorIndex := 339, attributes := #[] }, { accessFlags := 8, nameIndex := 338, descriptorIndex := 339, attributes := #[] }, { accessFlags := 4120, nameIndex := 245, descriptorIndex := 246, attributes := #[] }])
  fields := #[{ name := "E", type := .double, accessFlags := 25, slot := 0, constantValue := 0 }, { name := "PI", type := .double, accessFlags := 25, slot := 1, constantValue := 0 }, { name := "TAU", type := .double, accessFlags := 25, slot := 2, constantValue := 0 }, { name := "DEGREES_TO_RADIANS", type := .double, accessFlags := 26, slot := 3, constantValue := 0 }, { name := "RADIANS_TO_DEGREES", type := .double, accessFlags := 26, slot := 4, constantValue := 0 }, { name := "negativeZeroFloatBits", type := .long, accessFlags := 26, slot := 5, constantValue := 0 }, { name := "negativeZeroDoubleBits", type := .long, accessFlags := 26, slot := 6, constantValue := 0 }, { name := "twoToTheDoubleScaleUp", type := .double, accessFlags := 8, slot := 7, constantValue := 0 }, { name := "twoToTheDoubleScaleDown", type := .double, accessFlags := 8, slot := 8, constantValue := 0 }, { name := "$assertionsDisabled", type := .boolean, accessFlags := 4120, slot := 9, constantValue := 0 }]
  methods := #[k3m0, k3m1, k3m2, k3m3]
  instanceTypes := #[]
  staticTypes := #[.double, .double, .double, .double, .double, .long, .long, .double, .double, .boolean]
  resolved := Array.replicate 460 none
  statics := none }

def pool4 : Array CpInfo := pool [(2, .class_ 4), (1, u "java/lang/Object"), (0, u "<init>"), (0, u "()V"), (1, .class_ 10), (1, u "java/lang/System"), (0, u "allowSecurityManager"), (0, u "I"), (16, u "cons"), (0, u "Ljava/io/Console;"), (77, .class_ 110), (1, u "java/lang/System$CallersHolder"), (43, u "initialErrStream"), (0, u "Ljava/io/PrintStream;"), (19, u "security"), (0, u "Ljava/lang/SecurityManager;"), (31, .class_ 209), (0, u "java/lang/System$1"), (7, u "props"), (0, u "Ljava/util/Properties;"), (2, u "lineSeparator"), (0, u "Ljava/lang/String;"), (96, .class_ 321), (1, u "java/lang/System$LoggerFinder"), (5, .class_ 328), (0, u "java/lang/System$Logger"), (67, u "err"), (2, u "out"), (91, u "notSupportedJnuEncoding"), (15, u "in"), (17, u "initialIn"), (0, u "Ljava/io/InputStream;"), (35, u "bootLayer"), (0, u "Ljava/lang/ModuleLayer;"), (99, .class_ 664), (0, u "java/lang/System$2"), (9, u "NEVER"), (2, u "MAYBE"), (49, u "arraycopy"), (0, u "(Ljava/lang/Object;ILjava/lang/Object;II)V"), (72, .class_ 802), (0, u "java/lang/System$Logger$Level")] 31

def k4m0 : Method := { name := "<init>", desc := "()V", sig := { parameters := [], returnType := none }, accessFlags := 2, code := none }
def k4m1 : Method := { name := "arraycopy", desc := "(Ljava/lang/Object;ILjava/lang/Object;II)V", sig := { parameters := [(.object "java/lang/Object"), .int, (.object "java/lang/Object"), .int, .int], returnType := none }, accessFlags := 265, code := none }
/-- java/lang/System -/
def k4 : Class := { plain "java/lang/System" (some 0) with
  accessFlags := 49
  interfaces := #[]
  cf := some (fileOf pool4 8 #[.nestMembers #[319, 327, 801, 108, 663, 208]] #[{ accessFlags := 2, nameIndex := 5, descriptorIndex := 6, attributes := #[] }, { accessFlags := 265, nameIndex := 727, descriptorIndex := 728, attributes := #[] }] 49 2 #[] #[{ accessFlags := 25, nameIndex := 507, descriptorIndex := 526, attributes := #[] }, { accessFlags := 25, nameIndex := 399, descriptorIndex := 155, attributes := #[] }, { accessFlags := 25, nameIndex := 396, descriptorIndex := 155, attributes := #[] }, { accessFlags := 10, nameIndex := 525, descriptorIndex := 526, attributes := #[] }, { accessFlags := 26, nameIndex := 674, descriptorIndex := 12, attributes := #[] }, { accessFlags := 26, nameIndex := 677, descriptorIndex := 12, attributes := #[] }, { accessFlags := 10, nameIndex := 11, descriptorIndex := 12, attributes := #[] }, { accessFlags := 74, nameIndex := 175, descriptorIndex := 176, attributes := #[] }, { accessFlags := 10, nameIndex := 491, descriptorIndex := 222, attributes := #[] }, { accessFlags := 74, nameIndex := 29, descriptorIndex := 30, attributes := #[] }, { accessFlags := 74, nameIndex := 154, descriptorIndex := 155, attributes := #[] }, { accessFlags := 10, nameIndex := 217, descriptorIndex := 218, attributes := #[] }, { accessFlags := 10, nameIndex := 221, descriptorIndex := 222, attributes := #[] }, { accessFlags := 8, nameIndex := 562, descriptorIndex := 563, attributes := #[] }])
  fields := #[{ name := "in", type := (.object "java/io/InputStream"), accessFlags := 25, slot := 0, constantValue := 0 }, { name := "out", type := (.object "java/io/PrintStream"), accessFlags := 25, slot := 1, constantValue := 0 }, { name := "err", type := (.object "java/io/PrintStream"), accessFlags := 25, slot := 2, constantValue := 0 }, { name := "initialIn", type := (.object "java/io/InputStream"), accessFlags := 10, slot := 3, constantValue := 0 }, { name := "NEVER", type := .int, accessFlags := 26, slot := 4, constantValue := 0 }, { name := "MAYBE", type := .int, accessFlags := 26, slot := 5, constantValue := 0 }, { name := "allowSecurityManager", type := .int, accessFlags := 10, slot := 6, constantValue := 0 }, { name := "security", type := (.object "java/lang/SecurityManager"), accessFlags := 74, slot := 7, constantValue := 0 }, { name := "notSupportedJnuEncoding", type := (.object "java/lang/String"), accessFlags := 10, slot := 8, constantValue := 0 }, { name := "cons", type := (.object "java/io/Console"), accessFlags := 74, slot := 9, constantValue := 0 }, { name := "initialErrStream", type := (.object "java/io/PrintStream"), accessFlags := 74, slot := 10, constantValue := 0 }, { name := "props", type := (.object "java/util/Properties"), accessFlags := 10, slot := 11, constantValue := 0 }, { name := "lineSeparator", type := (.object "java/lang/String"), accessFlags := 10, slot := 12, constantValue := 0 }, { name := "bootLayer", type := (.object "java/lang/ModuleLayer"), accessFlags := 8, slot := 13, constantValue := 0 }]
  methods := #[k4m0, k4m1]
  instanceTypes := #[]
  staticTypes := #[(.object "java/io/InputStream"), (.object "java/io/PrintStream"), (.object "java/io/PrintStream"), (.object "java/io/InputStream"), .int, .int, .int, (.object "java/lang/SecurityManager"), (.object "java/lang/String"), (.object "java/io/Console"), (.object "java/io/PrintStream"), (.object "java/util/Properties"), (.object "java/lang/String"), (.object "java/lang/ModuleLayer")]
  resolved := Array.replicate 834 none
  statics := none }

def pool5 : Array CpInfo := pool [(1, u "java/lang/Cloneable"), (0, .class_ 1), (0, u "java/lang/Object"), (0, .class_ 3)] 3

/-- java/lang/Cloneable -/
def k5 : Class := { plain "java/lang/Cloneable" (some 0) with
  accessFlags := 1537
  interfaces := #[]
  cf := some (fileOf pool5 2 #[] #[] 1537 4 #[] #[])
  fields := #[]
  methods := #[]
  instanceTypes := #[]
  staticTypes := #[]
  resolved := Array.replicate 8 none
  statics := none }

def pool6 : Array CpInfo := pool [(1, u "java/io/Serializable"), (0, .class_ 1), (0, u "java/lang/Object"), (0, .class_ 3)] 3

/-- java/io/Serializable -/
def k6 : Class := { plain "java/io/Serializable" (some 0) with
  accessFlags := 1537
  interfaces := #[]
  cf := some (fileOf pool6 2 #[] #[] 1537 4 #[] #[])
  fields := #[]
  methods := #[]
  instanceTypes := #[]
  staticTypes := #[]
  resolved := Array.replicate 8 none
  statics := none }

/-- the primitive byte -/
def k7 : Class := { plain "byte" none with kind := .primitive 'B', accessFlags := 0x411 }
/-- [B -/
def k8 : Class := { plain "[B" (some 0) with kind := .array 7 .byte, interfaces := #[5, 6], accessFlags := 1041 }

/-- the primitive char -/
def k9 : Class := { plain "char" none with kind := .primitive 'C', accessFlags := 0x411 }
/-- [C -/
def k10 : Class := { plain "[C" (some 0) with kind := .array 9 .char, interfaces := #[5, 6], accessFlags := 1041 }

/-- the primitive int -/
def k11 : Class := { plain "int" none with kind := .primitive 'I', accessFlags := 0x411 }
/-- [I -/
def k12 : Class := { plain "[I" (some 0) with kind := .array 11 .int, interfaces := #[5, 6], accessFlags := 1041 }

/-- [[I -/
def k13 : Class := { plain "[[I" (some 0) with kind := .array 12 (.array .int), interfaces := #[5, 6], accessFlags := 1041 }
/-- [[C -/
def k14 : Class := { plain "[[C" (some 0) with kind := .array 10 (.array .char), interfaces := #[5, 6], accessFlags := 1041 }

def heap : Heap := #[{ cls := 2, slots := #[.int 0, .int 12, .int 0], vm := .statics 2 }]
def classes : Array Class := #[k0, k1, k2, k3, k4, k5, k6, k7, k8, k9, k10, k11, k12, k13, k14]
def interned : List (Array UInt16 × Addr) := []
def slotsUsed : Nat := 3
def theMethod : MethodId := ⟨1, 1⟩
def args0 : Array Value := #[.int 7, .int 6, .int 7, .int 8, .int 9, .int 10]
def aboutOver (below : List Frame) : State where
  vm := { classes := classes, interned := interned.toArray }
  heap := heap
  slotsUsed := slotsUsed
  threads := #[{ frames := .invoking theMethod args0 :: below }]
def below0 : List Frame := [.native { method := ⟨0, 0⟩, args := #[] }]
def about1 : State := aboutOver below0
def p0 : Program := .bare "" "" ""
def e0 : Env := launch0.env 0 0 0
theorem w_frames : about1.frames = Frame.invoking theMethod args0 :: below0 := rfl
set_option maxRecDepth 65536 in
theorem w_args : argsFit about1.vm theMethod args0 = true := by decide +kernel
set_option maxRecDepth 65536 in
theorem w_heap : heapFits about1 = true := by decide +kernel
set_option maxRecDepth 65536 in
theorem w_runnable : about1.curStatus? = some .runnable := by decide +kernel
set_option maxRecDepth 65536 in
theorem w_alone : about1.alone = true := by decide +kernel
set_option maxRecDepth 65536 in
theorem w_named : about1.methodNamed? x = some theMethod := by decide +kernel
set_option maxRecDepth 65536 in
theorem w_hears : about1.hears theMethod below0 = true := by decide +kernel
set_option maxRecDepth 65536 in
theorem w_ripe : about1.ripe theMethod args0 below0 = true := by decide +kernel
theorem w_running : about1.status = .running := rfl
set_option maxRecDepth 65536 in
theorem w_room : about1.hasRoom e0.platform room_1 = true :=
  launch0.hasRoom_least _ room_1 (by decide +kernel) (by decide +kernel) (by decide +kernel) (by decide +kernel) (by decide +kernel) (by decide +kernel)
theorem allAtoms_all (ts : List Jvm.Cond) (a : Array Jvm.Value) (st : Jvm.State) : (allAtoms ts).before a st = ts.all (fun c => c.before a st) := by
  induction ts with
  | nil => rfl
  | cons c t ih =>
    show (Jvm.Cond.and c (allAtoms t)).before a st = _
    rw [Jvm.Cond.before_and, ih, List.all_cons]
def words1 : List Jvm.Cond := Jvm.Cond.code x code maxLocals ret :: tables_1
/-- a 'code' word, met by the world's own term for the bytes: nothing is compared byte by byte -/
theorem code_word {y : MethodName} {bytes : ByteArray} {mx : Nat} {rt : Option FieldType} {a : Array Value} {s : State} {m : MethodId} {meth : Method} {c : Code} (h1 : s.methodNamed? y = some m) (h2 : s.vm.method? m = some meth) (h3 : meth.code = some c) (h4 : c.code = bytes)
    (h5 : (c.maxLocals == mx && c.exceptionTable.isEmpty && decide (c.maxStack ≤ mostOperands) && decide (meth.sig.returnType = rt) && !meth.locks && decide (parseMethodDescriptor y.desc = some meth.sig)) = true) : (Jvm.Cond.code y bytes mx rt).before a s = true := by
  simp only [Bool.and_eq_true, beq_iff_eq, Bool.not_eq_true', decide_eq_true_eq] at h5
  obtain ⟨⟨⟨⟨⟨g1, g2⟩, g3⟩, g4⟩, g5⟩, g6⟩ := h5
  simp [Cond.before, Cond.holds, Cond.value, h1, h2, h3, h4, g1, g2, g3, g4, g5, g6]
def isCode : Jvm.Cond → Bool
  | .code _ _ _ _ => true
  | _ => false
theorem all_split {L : List Jvm.Cond} {P : Jvm.Cond → Bool} (h1 : L.all (fun c => isCode c || P c) = true) (h2 : ∀ c ∈ L.filter isCode, P c = true) : L.all P = true := by
  refine List.all_eq_true.mpr fun c hc => ?_
  have h := List.all_eq_true.mp h1 c hc
  rcases Bool.eq_false_or_eq_true (isCode c) with hi | hi
  · exact h2 c (List.mem_filter.mpr ⟨hc, hi⟩)
  · simpa [hi] using h
set_option maxRecDepth 65536 in
theorem w_c0 : (Jvm.Cond.code x code maxLocals ret).before args0 about1 = true := code_word (m := ⟨1, 1⟩) (meth := k1m1) (c := k1c1) (by decide +kernel) rfl rfl rfl (by decide +kernel)
set_option maxRecDepth 65536 in
theorem w_c1 : (Jvm.Cond.code ({ cls := "com/example/chaseward/chaseward/engine/RowValuesClearPinLaw", name := "tuple", desc := "(ZI)[I" } : Jvm.MethodName) method_3_code (2 : Nat) (Option.some (Jvm.ClassFile.FieldType.array Jvm.ClassFile.FieldType.int))).before args0 about1 = true := code_word (m := ⟨1, 2⟩) (meth := k1m2) (c := k1c2) (by decide +kernel) rfl rfl rfl (by decide +kernel)
set_option maxRecDepth 65536 in
theorem w_c2 : (Jvm.Cond.code ({ cls := "com/example/chaseward/chaseward/engine/RowValues", name := "<init>", desc := "(I)V" } : Jvm.MethodName) prog_47_method_1_code (2 : Nat) (Option.none : Option Jvm.ClassFile.FieldType)).before args0 about1 = true := code_word (m := ⟨2, 0⟩) (meth := k2m0) (c := k2c0) (by decide +kernel) rfl rfl rfl (by decide +kernel)
set_option maxRecDepth 65536 in
theorem w_c3 : (Jvm.Cond.code ({ cls := "java/lang/Object", name := "<init>", desc := "()V" } : Jvm.MethodName) object_method_1_code (1 : Nat) (Option.none : Option Jvm.ClassFile.FieldType)).before args0 about1 = true := code_word (m := ⟨0, 0⟩) (meth := k0m0) (c := k0c0) (by decide +kernel) rfl rfl rfl (by decide +kernel)
set_option maxRecDepth 65536 in
theorem w_c4 : (Jvm.Cond.code ({ cls := "com/example/chaseward/chaseward/engine/RowValues", name := "clear", desc := "()V" } : Jvm.MethodName) prog_47_method_2_code (2 : Nat) (Option.none : Option Jvm.ClassFile.FieldType)).before args0 about1 = true := code_word (m := ⟨2, 1⟩) (meth := k2m1) (c := k2c1) (by decide +kernel) rfl rfl rfl (by decide +kernel)
set_option maxRecDepth 65536 in
theorem w_c5 : (Jvm.Cond.code ({ cls := "com/example/chaseward/chaseward/engine/RowValues", name := "add", desc := "([I)V" } : Jvm.MethodName) prog_47_method_4_code (7 : Nat) (Option.none : Option Jvm.ClassFile.FieldType)).before args0 about1 = true := code_word (m := ⟨2, 3⟩) (meth := k2m3) (c := k2c3) (by decide +kernel) rfl rfl rfl (by decide +kernel)
set_option maxRecDepth 65536 in
theorem w_c6 : (Jvm.Cond.code ({ cls := "com/example/chaseward/chaseward/engine/RowValues", name := "start", desc := "(I[I)V" } : Jvm.MethodName) prog_47_method_5_code (4 : Nat) (Option.none : Option Jvm.ClassFile.FieldType)).before args0 about1 = true := code_word (m := ⟨2, 4⟩) (meth := k2m4) (c := k2c4) (by decide +kernel) rfl rfl rfl (by decide +kernel)
set_option maxRecDepth 65536 in
theorem w_c7 : (Jvm.Cond.code ({ cls := "com/example/chaseward/chaseward/engine/RowValues", name := "base", desc := "(II)I" } : Jvm.MethodName) prog_47_method_8_code (4 : Nat) (Option.some Jvm.ClassFile.FieldType.int)).before args0 about1 = true := code_word (m := ⟨2, 7⟩) (meth := k2m7) (c := k2c7) (by decide +kernel) rfl rfl rfl (by decide +kernel)
set_option maxRecDepth 65536 in
theorem w_c8 : (Jvm.Cond.code ({ cls := "java/lang/Math", name := "max", desc := "(JJ)J" } : Jvm.MethodName) jdk_29_method_66_code (4 : Nat) (Option.some Jvm.ClassFile.FieldType.long)).before args0 about1 = true := code_word (m := ⟨3, 2⟩) (meth := k3m2) (c := k3c2) (by decide +kernel) rfl rfl rfl (by decide +kernel)
set_option maxRecDepth 65536 in
theorem w_c9 : (Jvm.Cond.code ({ cls := "com/example/chaseward/chaseward/engine/RowValues", name := "makeRoom", desc := "(II)V" } : Jvm.MethodName) prog_47_method_6_code (5 : Nat) (Option.none : Option Jvm.ClassFile.FieldType)).before args0 about1 = true := code_word (m := ⟨2, 5⟩) (meth := k2m5) (c := k2c5) (by decide +kernel) rfl rfl rfl (by decide +kernel)
set_option maxRecDepth 65536 in
theorem w_c10 : (Jvm.Cond.code ({ cls := "java/lang/Math", name := "min", desc := "(II)I" } : Jvm.MethodName) jdk_29_method_69_code (2 : Nat) (Option.some Jvm.ClassFile.FieldType.int)).before args0 about1 = true := code_word (m := ⟨3, 3⟩) (meth := k3m3) (c := k3c3) (by decide +kernel) rfl rfl rfl (by decide +kernel)
set_option maxRecDepth 65536 in
theorem w_c11 : (Jvm.Cond.code ({ cls := "com/example/chaseward/chaseward/engine/RowValues", name := "fit", desc := "(II[I)V" } : Jvm.MethodName) prog_47_method_7_code (11 : Nat) (Option.none : Option Jvm.ClassFile.FieldType)).before args0 about1 = true := code_word (m := ⟨2, 6⟩) (meth := k2m6) (c := k2c6) (by decide +kernel) rfl rfl rfl (by decide +kernel)
set_option maxRecDepth 65536 in
theorem w_c12 : (Jvm.Cond.code ({ cls := "java/lang/Math", name := "max", desc := "(II)I" } : Jvm.MethodName) jdk_29_method_65_code (2 : Nat) (Option.some Jvm.ClassFile.FieldType.int)).before args0 about1 = true := code_word (m := ⟨3, 1⟩) (meth := k3m1) (c := k3c1) (by decide +kernel) rfl rfl rfl (by decide +kernel)
set_option maxRecDepth 65536 in
theorem w_c13 : (Jvm.Cond.code ({ cls := "com/example/chaseward/chaseward/engine/RowValues", name := "get", desc := "(II)I" } : Jvm.MethodName) prog_47_method_3_code (6 : Nat) (Option.some Jvm.ClassFile.FieldType.int)).before args0 about1 = true := code_word (m := ⟨2, 2⟩) (meth := k2m2) (c := k2c2) (by decide +kernel) rfl rfl rfl (by decide +kernel)
set_option maxRecDepth 65536 in
theorem w_c14 : (Jvm.Cond.code ({ cls := "com/example/chaseward/chaseward/engine/RowValues", name := "widen", desc := "(II)V" } : Jvm.MethodName) prog_47_method_9_code (6 : Nat) (Option.none : Option Jvm.ClassFile.FieldType)).before args0 about1 = true := code_word (m := ⟨2, 8⟩) (meth := k2m8) (c := k2c8) (by decide +kernel) rfl rfl rfl (by decide +kernel)
def codes1 : List Jvm.Cond := [Jvm.Cond.code x code maxLocals ret, Jvm.Cond.code ({ cls := "com/example/chaseward/chaseward/engine/RowValuesClearPinLaw", name := "tuple", desc := "(ZI)[I" } : Jvm.MethodName) method_3_code (2 : Nat) (Option.some (Jvm.ClassFile.FieldType.array Jvm.ClassFile.FieldType.int)), Jvm.Cond.code ({ cls := "com/example/chaseward/chaseward/engine/RowValues", name := "<init>", desc := "(I)V" } : Jvm.MethodName) prog_47_method_1_code (2 : Nat) (Option.none : Option Jvm.ClassFile.FieldType), Jvm.Cond.code ({ cls := "java/lang/Object", name := "<init>", desc := "()V" } : Jvm.MethodName) object_method_1_code (1 : Nat) (Option.none : Option Jvm.ClassFile.FieldType), Jvm.Cond.code ({ cls := "com/example/chaseward/chaseward/engine/RowValues", name := "clear", desc := "()V" } : Jvm.MethodName) prog_47_method_2_code (2 : Nat) (Option.none : Option Jvm.ClassFile.FieldType), Jvm.Cond.code ({ cls := "com/example/chaseward/chaseward/engine/RowValues", name := "add", desc := "([I)V" } : Jvm.MethodName) prog_47_method_4_code (7 : Nat) (Option.none : Option Jvm.ClassFile.FieldType), Jvm.Cond.code ({ cls := "com/example/chaseward/chaseward/engine/RowValues", name := "start", desc := "(I[I)V" } : Jvm.MethodName) prog_47_method_5_code (4 : Nat) (Option.none : Option Jvm.ClassFile.FieldType), Jvm.Cond.code ({ cls := "com/example/chaseward/chaseward/engine/RowValues", name := "base", desc := "(II)I" } : Jvm.MethodName) prog_47_method_8_code (4 : Nat) (Option.some Jvm.ClassFile.FieldType.int), Jvm.Cond.code ({ cls := "java/lang/Math", name := "max", desc := "(JJ)J" } : Jvm.MethodName) jdk_29_method_66_code (4 : Nat) (Option.some Jvm.ClassFile.FieldType.long), Jvm.Cond.code ({ cls := "com/example/chaseward/chaseward/engine/RowValues", name := "makeRoom", desc := "(II)V" } : Jvm.MethodName) prog_47_method_6_code (5 : Nat) (Option.none : Option Jvm.ClassFile.FieldType), Jvm.Cond.code ({ cls := "java/lang/Math", name := "min", desc := "(II)I" } : Jvm.MethodName) jdk_29_method_69_code (2 : Nat) (Option.some Jvm.ClassFile.FieldType.int), Jvm.Cond.code ({ cls := "com/example/chaseward/chaseward/engine/RowValues", name := "fit", desc := "(II[I)V" } : Jvm.MethodName) prog_47_method_7_code (11 : Nat) (Option.none : Option Jvm.ClassFile.FieldType), Jvm.Cond.code ({ cls := "java/lang/Math", name := "max", desc := "(II)I" } : Jvm.MethodName) jdk_29_method_65_code (2 : Nat) (Option.some Jvm.ClassFile.FieldType.int), Jvm.Cond.code ({ cls := "com/example/chaseward/chaseward/engine/RowValues", name := "get", desc := "(II)I" } : Jvm.MethodName) prog_47_method_3_code (6 : Nat) (Option.some Jvm.ClassFile.FieldType.int), Jvm.Cond.code ({ cls := "com/example/chaseward/chaseward/engine/RowValues", name := "widen", desc := "(II)V" } : Jvm.MethodName) prog_47_method_9_code (6 : Nat) (Option.none : Option Jvm.ClassFile.FieldType)]
set_option maxRecDepth 65536 in
theorem codes_eq : words1.filter isCode = codes1 := rfl
theorem w_codes : ∀ c ∈ words1.filter isCode, c.before args0 about1 = true := by
  rw [codes_eq]
  intro c hc
  simp only [codes1, List.mem_cons, List.not_mem_nil, or_false] at hc
  rcases hc with rfl | rfl | rfl | rfl | rfl | rfl | rfl | rfl | rfl | rfl | rfl | rfl | rfl | rfl | rfl
  · exact w_c0
  · exact w_c1
  · exact w_c2
  · exact w_c3
  · exact w_c4
  · exact w_c5
  · exact w_c6
  · exact w_c7
  · exact w_c8
  · exact w_c9
  · exact w_c10
  · exact w_c11
  · exact w_c12
  · exact w_c13
  · exact w_c14
set_option maxRecDepth 65536 in
theorem w_t1 : (words1.take 24).all (fun c => isCode c || c.before args0 about1) = true := by decide +kernel
set_option maxRecDepth 65536 in
theorem w_t2 : ((words1.drop 24).take 24).all (fun c => isCode c || c.before args0 about1) = true := by decide +kernel
set_option maxRecDepth 65536 in
theorem w_t3 : (((words1.drop 24).drop 24).take 24).all (fun c => isCode c || c.before args0 about1) = true := by decide +kernel
set_option maxRecDepth 65536 in
theorem w_t4 : (((words1.drop 24).drop 24).drop 24).all (fun c => isCode c || c.before args0 about1) = true := by decide +kernel
theorem w_tables : (allAtoms (Jvm.Cond.code x code maxLocals ret :: tables_1)).before args0 about1 = true := by
  rw [allAtoms_all]
  show words1.all (fun c => c.before args0 about1) = true
  refine all_split ?_ w_codes
  rw [← List.take_append_drop 24 words1, List.all_append, w_t1, ← List.take_append_drop 24 (words1.drop 24), List.all_append, w_t2, ← List.take_append_drop 24 ((words1.drop 24).drop 24), List.all_append, w_t3, w_t4]
  rfl
set_option maxRecDepth 65536 in
theorem w_case : (Jvm.Cond.and given_1 narrow_1).before args0 about1 = true := by decide +kernel
theorem w_applies : (headSpec (Jvm.Cond.code x code maxLocals ret :: tables_1) room_1).applies x e0.platform about1 = true :=
  (Spec.applies_iff w_frames).mpr ⟨w_running, w_runnable, w_alone, w_named, w_hears, w_ripe, w_room, w_tables⟩
theorem atStart : AtStart classFile x code maxLocals ret World_1 tables_1 room_1 Calls_1 rest_1 Pre_1 launch0 p0 e0 about1 theMethod args0 below0 :=
  ⟨lists_1, trivial, launch0.admits_env _ _ _, launch0.least_env, fairChoices_fair.cas, fairChoices_fair.clock, w_frames, w_args, w_heap, w_applies, trivial, trivial, w_case⟩
end start1
theorem witness_1 : WitnessClaimed_1 := ⟨start1.p0, start1.e0, start1.about1, start1.theMethod, start1.args0, start1.below0, start1.atStart⟩
end Jvm.Pilot.@@N@@
