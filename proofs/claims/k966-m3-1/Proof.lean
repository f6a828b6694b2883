import JvmDerived
import JvmDerived.Pilot.@@N@@Statement
import JvmDerived.Pilot.@@N@@Code
set_option linter.unusedVariables false
set_option linter.unusedSimpArgs false
namespace Jvm.RoadKit
open Sem ClassFile Op Lib Jvm.Stand Jvm.Free Jvm.LawKit
section New
variable {p : Program} {l : Launch} {e : Env} {R : Room} {s : State} {m : MethodId} {args : Array Value} {below : List Frame} {meth : Method} {c : Code} {T : State} {locs : List Loc} {cells slots : Nat}
theorem retI (X : Stand p l e R s m args below meth c T locs cells slots) (hx : p.tables.exec = Jvm.exec) {pc : Nat} {Ls : Array Slot} {z : Int32} {rest : List Value} (hret : meth.sig.returnType = some .int) (hd : decode c.code pc = .ok (.ireturn, 1)) {fs : List Frame}
    (hl : ∀ (f : JFrame) (acts : List Action), f.method = m → f.locked = none → f.entered = [] → (doReturn e (T.setTop f) acts (some (.int z))).1 = T.setFrames fs) : Steps p.tables e below (T.setTop (mkF m pc Ls (.int z :: rest))) (T.setFrames fs) := by
  have hm' : T.vm.method? m = some meth := X.method'
  have hn : narrow .int (.int z) = .int z := rfl
  show Steps p.tables e below (T.setTop { method := m, pc := pc, locals := Ls, stack := _ :: rest, locked := none }) _
  jvm_step X.here [X.here.top, hx, hd, hm', hret, hn]
  first | (intro acts; rw [hl _ acts rfl rfl rfl]) | rw [hl _ _ rfl rfl rfl]
  exact Steps.refl _
end New
end Jvm.RoadKit
namespace Jvm.Pilot.@@N@@
open Jvm Jvm.ClassFile Sem Op Lib Jvm.Free Jvm.Stand Jvm.LawKit Jvm.RoadKit Bundle Jvm.Pilot.@@N@@.Jvm.D
theorem own_retb (z : Int32) (h : z = 0 ∨ z = 1) : narrow .boolean (.int z) = .int z := by rcases h with rfl | rfl <;> rfl
theorem own_rem (x n : Int32) (hn : 0 < n.toInt) : 0 ≤ ((x &&& (2147483647 : Int32)) % n).toInt ∧ ((x &&& (2147483647 : Int32)) % n).toInt < n.toInt := by
  have h1 := c_mask x (2147483647 : Int32) 31 (by decide) (by decide)
  have h2 := (c_iremV (x &&& (2147483647 : Int32)) n).1 (by omega) hn
  exact ⟨h2.1, h2.2.1⟩
theorem own_of3 {k : Int32} (h : 0 ≤ k.toInt ∧ k.toInt < 3) : k = 0 ∨ k = 1 ∨ k = 2 := by
  have h2 : k.toInt = (0 : Int32).toInt ∨ k.toInt = (1 : Int32).toInt ∨ k.toInt = (2 : Int32).toInt := by simp; omega
  simpa only [Int32.toInt_inj] using h2
theorem own_of5 {k : Int32} (h : 0 ≤ k.toInt ∧ k.toInt < 5) : k = 0 ∨ k = 1 ∨ k = 2 ∨ k = 3 ∨ k = 4 := by
  have h2 : k.toInt = (0 : Int32).toInt ∨ k.toInt = (1 : Int32).toInt ∨ k.toInt = (2 : Int32).toInt ∨ k.toInt = (3 : Int32).toInt ∨ k.toInt = (4 : Int32).toInt := by simp; omega
  simpa only [Int32.toInt_inj] using h2
theorem own_of6 {k : Int32} (h : 0 ≤ k.toInt ∧ k.toInt < 6) : k = 0 ∨ k = 1 ∨ k = 2 ∨ k = 3 ∨ k = 4 ∨ k = 5 := by
  have h2 : k.toInt = (0 : Int32).toInt ∨ k.toInt = (1 : Int32).toInt ∨ k.toInt = (2 : Int32).toInt ∨ k.toInt = (3 : Int32).toInt ∨ k.toInt = (4 : Int32).toInt ∨ k.toInt = (5 : Int32).toInt := by simp; omega
  simpa only [Int32.toInt_inj] using h2
theorem own_eqI {args : Array Value} {s : State} {t : Term} {k : Int32} (h : (Jvm.Cond.eq t (.int k)).value args s none s [] = some true) : t.eval args s none [] s = some (.int k) := by
  obtain ⟨u, v, hu, hv, k1, k2⟩ := cmp_v (Or.inl h)
  have hv2 : v = .int k := Option.some.inj (hv.symm.trans (Term.int_eval k))
  subst hv2
  cases u <;> simp [Cond.value, hu, hv] at h
  subst h; exact hu
theorem own_fld {args : Array Value} {s : State} {t : Term} {a : Addr} {C n d : String} {k : Int32} (ev : t.eval args s none [] s = some (.ref a)) (h : (Jvm.Cond.eq (.field t C n d) (.int k)).value args s none s [] = some true) : Fld s s.heap a C n d (.int k) :=
  Fld.start ((fld_at ev).symm.trans (own_eqI h))
theorem own_len {args : Array Value} {s : State} {t : Term} {a : Addr} {cl : Cell} {ty : FieldType} {k : Int32} (ev : t.eval args s none [] s = some (.ref a)) (A : Arr s s.heap a cl ty) (h : (Jvm.Cond.eq (.length t) (.int k)).value args s none s [] = some true) : cl.slots.size.toInt32 = k := by
  obtain ⟨b, c, e1, e2, e3⟩ := Term.length_spec (own_eqI h)
  cases ev.symm.trans e1
  cases (A.fin (Vm.Alike.refl _)).symm.trans e2
  exact (Value.int.inj e3).symm
theorem own_lenlt {args : Array Value} {s : State} {t : Term} {a : Addr} {cl : Cell} {ty : FieldType} {k : Int32} (ev : t.eval args s none [] s = some (.ref a)) (A : Arr s s.heap a cl ty) (h : (Jvm.Cond.eq (.length t) (.int k)).value args s none s [] = some true) : cl.slots.size < 2 ^ 31 := by
  have h1 := own_eqI h
  have h2 := A.fin (Vm.Alike.refl _)
  apply Classical.byContradiction
  intro h3
  simp [Term.eval, ev, h2, h3] at h1
theorem own_elem {args : Array Value} {s : State} {t u : Term} {a b : Addr} {cl : Cell} {ty : FieldType} {j : Int32} (ev : t.eval args s none [] s = some (.ref a)) (A : Arr s s.heap a cl ty) (hu : u.eval args s none [] s = some (.ref b)) (h : (Jvm.Cond.eq (.elem t (.int j)) u).value args s none s [] = some true) : cl.slots[j.toNatClampNeg]? = some (.ref b) := by
  obtain ⟨x, y, hx, hy, -, -⟩ := cmp_v (Or.inl h)
  cases hu.symm.trans hy
  have h2 := (elem_in hx ev (Term.int_eval j) A.1).2
  cases x <;> simp [Cond.value, hx, hy] at h
  subst h; exact h2
theorem own_fldN {args : Array Value} {s : State} {t : Term} {a : Addr} {C n d : String} (ev : t.eval args s none [] s = some (.ref a)) (h : (Jvm.Cond.eq (.field t C n d) .null).value args s none s [] = some true) : Fld s s.heap a C n d .null :=
  Fld.start ((fld_at ev).symm.trans (null_v h))
def QI (Z : State) (r : Int32) (h0 : Heap) (n0 : Nat) (v : Option Value) (h : Heap) (L : List Loc) : Prop := v = some (.int r) ∧ Fr n0 L ∧ h = h0
theorem d3_0 : decode prog_59_method_4_code 0 = .ok (.aload_n 0, 1) := by decide +kernel
theorem d3_1 : decode prog_59_method_4_code 1 = .ok (.getfield 35, 3) := by decide +kernel
theorem d3_4 : decode prog_59_method_4_code 4 = .ok (.ireturn, 1) := by decide +kernel
theorem pn_rm_consumed : plainName "com/example/driftwell/driftwell/Roles$Role" = true := by first | (simp [plainName, overriddenIn]; done) | decide +kernel
theorem ef_rm_consumed (m : MethodId) (a1 : Addr) : entryFrame m #[(.ref a1)] 1 = mkF m 0 #[.val (.ref a1)] [] := by first | (simp [entryFrame, mkF, argsToLocals, Value.category]; done) | rfl
set_option maxRecDepth 65536 in
set_option maxHeartbeats 40000000 in
theorem rm_consumed (l : Launch) (Z : State) (a0 : Array Value) (hw : ∀ d ∈ tables_1, d.before a0 Z = true) (ws : List Jvm.Cond) (a1 : Addr) (c1 : Int32) (h0 : Heap) (n0 : Nat) (Z0 : n0 ≤ h0.size) (F_a1 : Fld Z h0 a1 "com/example/driftwell/driftwell/Roles$Role" "consumed" "Z" (.int c1)) (hc1 : c1 = 0 ∨ c1 = 1) :
    MetFree l (⟨"com/example/driftwell/driftwell/Roles$Role", "consumed", "()Z"⟩ : MethodName) (head1 (Jvm.Cond.code (⟨"com/example/driftwell/driftwell/Roles$Role", "consumed", "()Z"⟩ : MethodName) prog_59_method_4_code 1 (some .boolean) :: ws) ({ frames := 0, cells := 0, slots := 0, locals := 0 } : Room)) (fun a U => a = #[(.ref a1)] ∧ Z.Warmed39 U.vm ∧ U.heap = h0) (fun _ _ _ _ _ => True) (fun _ U o U' => ∃ v L, o = .returned v ∧ QI Z c1 h0 n0 v U'.heap L ∧ FrameEnd U o U' L ({ frames := 0, cells := 0, slots := 0, locals := 0 } : Room).cells ({ frames := 0, cells := 0, slots := 0, locals := 0 } : Room).slots) := by
  refine MetFree.of_bodySF (plainFor_of_name pn_rm_consumed) hisR ?_
  intro p e s m args below meth c s₁ Bd hml0 hP hK
  obtain ⟨rfl, hZ, hh⟩ := hP
  have hx := Bd.exec
  have hby := Bd.bytes
  have hml : c.maxLocals = 1 := hml0
  have hown : s.vm.findClass "com/example/driftwell/driftwell/Roles$Role" = some m.cls := findClass_of_methodNamed Bd.named
  have hnm := (name_of_methodNamed Bd.named Bd.method).1
  have X0 : Stand p l e ({ frames := 0, cells := 0, slots := 0, locals := 0 } : Room) s m #[(.ref a1)] below meth c s₁ [] 0 0 := Stand.of_body Bd
  have e0 : s₁.heap = h0 := by rw [← hh, Bd.state]; rfl
  have N0 := Fr.nil n0
  have pre0 : ∀ tt, Steps p.tables e below (s₁.setTop (mkF m 0 #[.val (.ref a1)] [])) tt → Steps p.tables e below (s₁.setTop (entryFrame m #[(.ref a1)] 1)) tt := fun tt kt => castTop (ef_rm_consumed m a1) kt
  obtain ⟨T1, X1, e1, st1⟩ := getF X0 hx hZ hown (host := "") (Or.inl (hw _ (List.mem_of_getElem? (i := 25) rfl))) Via.refl e0 F_a1 (g := (mkF m 1 #[.val (.ref a1)] [(.ref a1)])) rfl rfl (hb hby d3_1)
  have pre2 : ∀ tt, Steps p.tables e below (T1.setTop (mkF m 4 #[.val (.ref a1)] [(.int c1)])) tt → Steps p.tables e below (s₁.setTop (entryFrame m #[(.ref a1)] 1)) tt := by
    intro tt kt
    refine pre0 tt ?_
    show Steps p.tables e below (s₁.setTop (mkF m 0 #[.val (.ref a1)] [])) _
    refine XS.aloadN X0.here hx rfl (hb hby d3_0) rfl rfl ?_
    show Steps p.tables e below (s₁.setTop (mkF m 1 #[.val (.ref a1)] [(.ref a1)])) _
    refine st1 _ ?_
    exact kt
  obtain ⟨fs, hr, hrun, hended, hW, hsame⟩ := X1.leave (v := some (.int c1)) (fun h => by rw [Bd.returns] at h; cases h)
  refine ⟨_, _, pre2 _ ?_, hrun, hended, _, _, rfl, ?_, ⟨_, rfl⟩, hW, hsame.mono (by decide) (by decide)⟩
  · show Steps p.tables e below (T1.setTop (mkF m 4 #[.val (.ref a1)] [(.int c1)])) _
    exact retOut X1 hx Bd.returns (own_retb _ hc1) (Or.inl ⟨rfl, by simp, _, rfl⟩) (hb hby d3_4) hr
  · show QI Z c1 h0 n0 _ T1.heap _
    rw [e1]
    exact ⟨rfl, N0, rfl⟩
theorem d4_0 : decode prog_59_method_5_code 0 = .ok (.aload_n 0, 1) := by decide +kernel
theorem d4_1 : decode prog_59_method_5_code 1 = .ok (.getfield 39, 3) := by decide +kernel
theorem d4_4 : decode prog_59_method_5_code 4 = .ok (.ireturn, 1) := by decide +kernel
theorem pn_rm_produced : plainName "com/example/driftwell/driftwell/Roles$Role" = true := by first | (simp [plainName, overriddenIn]; done) | decide +kernel
theorem ef_rm_produced (m : MethodId) (a1 : Addr) : entryFrame m #[(.ref a1)] 1 = mkF m 0 #[.val (.ref a1)] [] := by first | (simp [entryFrame, mkF, argsToLocals, Value.category]; done) | rfl
set_option maxRecDepth 65536 in
set_option maxHeartbeats 40000000 in
theorem rm_produced (l : Launch) (Z : State) (a0 : Array Value) (hw : ∀ d ∈ tables_1, d.before a0 Z = true) (ws : List Jvm.Cond) (a1 : Addr) (c1 : Int32) (h0 : Heap) (n0 : Nat) (Z0 : n0 ≤ h0.size) (F_a1 : Fld Z h0 a1 "com/example/driftwell/driftwell/Roles$Role" "produced" "Z" (.int c1)) (hc1 : c1 = 0 ∨ c1 = 1) :
    MetFree l (⟨"com/example/driftwell/driftwell/Roles$Role", "produced", "()Z"⟩ : MethodName) (head1 (Jvm.Cond.code (⟨"com/example/driftwell/driftwell/Roles$Role", "produced", "()Z"⟩ : MethodName) prog_59_method_5_code 1 (some .boolean) :: ws) ({ frames := 0, cells := 0, slots := 0, locals := 0 } : Room)) (fun a U => a = #[(.ref a1)] ∧ Z.Warmed39 U.vm ∧ U.heap = h0) (fun _ _ _ _ _ => True) (fun _ U o U' => ∃ v L, o = .returned v ∧ QI Z c1 h0 n0 v U'.heap L ∧ FrameEnd U o U' L ({ frames := 0, cells := 0, slots := 0, locals := 0 } : Room).cells ({ frames := 0, cells := 0, slots := 0, locals := 0 } : Room).slots) := by
  refine MetFree.of_bodySF (plainFor_of_name pn_rm_produced) hisR ?_
  intro p e s m args below meth c s₁ Bd hml0 hP hK
  obtain ⟨rfl, hZ, hh⟩ := hP
  have hx := Bd.exec
  have hby := Bd.bytes
  have hml : c.maxLocals = 1 := hml0
  have hown : s.vm.findClass "com/example/driftwell/driftwell/Roles$Role" = some m.cls := findClass_of_methodNamed Bd.named
  have hnm := (name_of_methodNamed Bd.named Bd.method).1
  have X0 : Stand p l e ({ frames := 0, cells := 0, slots := 0, locals := 0 } : Room) s m #[(.ref a1)] below meth c s₁ [] 0 0 := Stand.of_body Bd
  have e0 : s₁.heap = h0 := by rw [← hh, Bd.state]; rfl
  have N0 := Fr.nil n0
  have pre0 : ∀ tt, Steps p.tables e below (s₁.setTop (mkF m 0 #[.val (.ref a1)] [])) tt → Steps p.tables e below (s₁.setTop (entryFrame m #[(.ref a1)] 1)) tt := fun tt kt => castTop (ef_rm_produced m a1) kt
  obtain ⟨T1, X1, e1, st1⟩ := getF X0 hx hZ hown (host := "") (Or.inl (hw _ (List.mem_of_getElem? (i := 27) rfl))) Via.refl e0 F_a1 (g := (mkF m 1 #[.val (.ref a1)] [(.ref a1)])) rfl rfl (hb hby d4_1)
  have pre2 : ∀ tt, Steps p.tables e below (T1.setTop (mkF m 4 #[.val (.ref a1)] [(.int c1)])) tt → Steps p.tables e below (s₁.setTop (entryFrame m #[(.ref a1)] 1)) tt := by
    intro tt kt
    refine pre0 tt ?_
    show Steps p.tables e below (s₁.setTop (mkF m 0 #[.val (.ref a1)] [])) _
    refine XS.aloadN X0.here hx rfl (hb hby d4_0) rfl rfl ?_
    show Steps p.tables e below (s₁.setTop (mkF m 1 #[.val (.ref a1)] [(.ref a1)])) _
    refine st1 _ ?_
    exact kt
  obtain ⟨fs, hr, hrun, hended, hW, hsame⟩ := X1.leave (v := some (.int c1)) (fun h => by rw [Bd.returns] at h; cases h)
  refine ⟨_, _, pre2 _ ?_, hrun, hended, _, _, rfl, ?_, ⟨_, rfl⟩, hW, hsame.mono (by decide) (by decide)⟩
  · show Steps p.tables e below (T1.setTop (mkF m 4 #[.val (.ref a1)] [(.int c1)])) _
    exact retOut X1 hx Bd.returns (own_retb _ hc1) (Or.inl ⟨rfl, by simp, _, rfl⟩) (hb hby d4_4) hr
  · show QI Z c1 h0 n0 _ T1.heap _
    rw [e1]
    exact ⟨rfl, N0, rfl⟩
def QV (Z : State) (kV : ClassId) (w_UNUSED w_CONSUMED w_PRODUCED w_BOTH r : Addr) (h0 : Heap) (n0 : Nat) (v : Option Value) (h : Heap) (L : List Loc) : Prop := v = some (.ref r) ∧ Fr n0 L ∧ Ext h0 h ∧ Arv Z h r kV (.object "com/example/driftwell/driftwell/Roles$Role") (4 : Int32) [(.ref w_UNUSED), (.ref w_CONSUMED), (.ref w_PRODUCED), (.ref w_BOTH)] .null
theorem d2_0 : decode prog_59_method_1_code 0 = .ok (.getstatic 16, 3) := by decide +kernel
theorem d2_3 : decode prog_59_method_1_code 3 = .ok (.invokevirtual 20, 3) := by decide +kernel
theorem d2_6 : decode prog_59_method_1_code 6 = .ok (.checkcast 21, 3) := by decide +kernel
theorem d2_9 : decode prog_59_method_1_code 9 = .ok (.areturn, 1) := by decide +kernel
theorem pn_rm_values : plainName "com/example/driftwell/driftwell/Roles$Role" = true := by first | (simp [plainName, overriddenIn]; done) | decide +kernel
theorem ef_rm_values (m : MethodId)  : entryFrame m #[] 0 = mkF m 0 #[] [] := by first | (simp [entryFrame, mkF, argsToLocals, Value.category]; done) | rfl
set_option maxRecDepth 65536 in
set_option maxHeartbeats 40000000 in
theorem rm_values (l : Launch) (Z : State) (a0 : Array Value) (hw : ∀ d ∈ tables_1, d.before a0 Z = true) (ws : List Jvm.Cond) (w_VALUES : Addr) (kV : ClassId) (w_UNUSED w_CONSUMED w_PRODUCED w_BOTH r : Addr) (h0 : Heap) (n0 : Nat) (Z0 : n0 ≤ h0.size) (S_VALUES : Sta Z h0 "com/example/driftwell/driftwell/Roles$Role" "$VALUES" "[Lcom/example/driftwell/driftwell/Roles$Role;" (.ref w_VALUES)) (V_VALUES : Arv Z h0 w_VALUES kV (.object "com/example/driftwell/driftwell/Roles$Role") (4 : Int32) [(.ref w_UNUSED), (.ref w_CONSUMED), (.ref w_PRODUCED), (.ref w_BOTH)] .null) (E_VALUES : Exa Z h0 w_VALUES "[Lcom/example/driftwell/driftwell/Roles$Role;") (hr0 : r = h0.size) :
    MetFree l (⟨"com/example/driftwell/driftwell/Roles$Role", "values", "()[Lcom/example/driftwell/driftwell/Roles$Role;"⟩ : MethodName) (head1 (Jvm.Cond.code (⟨"com/example/driftwell/driftwell/Roles$Role", "values", "()[Lcom/example/driftwell/driftwell/Roles$Role;"⟩ : MethodName) prog_59_method_1_code 0 (some (.array (.object "com/example/driftwell/driftwell/Roles$Role"))) :: ws) ({ frames := 1, cells := 1, slots := 4, locals := 14 } : Room)) (fun a U => a = #[] ∧ Z.Warmed39 U.vm ∧ U.heap = h0) (fun _ _ _ _ _ => True) (fun _ U o U' => ∃ v L, o = .returned v ∧ QV Z kV w_UNUSED w_CONSUMED w_PRODUCED w_BOTH r h0 n0 v U'.heap L ∧ FrameEnd U o U' L ({ frames := 1, cells := 1, slots := 4, locals := 14 } : Room).cells ({ frames := 1, cells := 1, slots := 4, locals := 14 } : Room).slots) := by
  refine MetFree.of_bodySF (plainFor_of_name pn_rm_values) hisR ?_
  intro p e s m args below meth c s₁ Bd hml0 hP hK
  obtain ⟨rfl, hZ, hh⟩ := hP
  have hx := Bd.exec
  have hby := Bd.bytes
  have hml : c.maxLocals = 0 := hml0
  have hown : s.vm.findClass "com/example/driftwell/driftwell/Roles$Role" = some m.cls := findClass_of_methodNamed Bd.named
  have hnm := (name_of_methodNamed Bd.named Bd.method).1
  have X0 : Stand p l e ({ frames := 1, cells := 1, slots := 4, locals := 14 } : Room) s m #[] below meth c s₁ [] 0 0 := Stand.of_body Bd
  have e0 : s₁.heap = h0 := by rw [← hh, Bd.state]; rfl
  have N0 := Fr.nil n0
  have pre0 : ∀ tt, Steps p.tables e below (s₁.setTop (mkF m 0 #[] [])) tt → Steps p.tables e below (s₁.setTop (entryFrame m #[] 0)) tt := fun tt kt => castTop (ef_rm_values m ) kt
  obtain ⟨T1, X1, e1, st1⟩ := getS2 X0 hx hZ hown (host := "") (Or.inl (hw _ (List.mem_of_getElem? (i := 10) rfl))) Via.refl e0 S_VALUES (g := (mkF m 0 #[] [])) rfl (hb hby d2_0)
  obtain ⟨T2, h2, X2, e2, E2, V2, A2, st2⟩ := cloneH X1 hx hZ hown (hw _ (List.mem_of_getElem? (i := 12) rfl)) (hw _ (List.mem_of_getElem? (i := 13) rfl)) (hw _ (List.mem_of_getElem? (i := 17) rfl)) (hw _ (List.mem_of_getElem? (i := 15) rfl)) (hw _ (List.mem_of_getElem? (i := 16) rfl)) (hw _ (List.mem_of_getElem? (i := 18) rfl)) e1 V_VALUES.arh E_VALUES (g := (mkF m 3 #[] [(.ref w_VALUES)])) rfl (by rw [hml]; rfl) rfl (hb hby d2_3) (by decide) (W := 0) (by show 2 * 0 + _ ≤ _; exact Nat.le_of_eq rfl) (by decide) (cap := 4) (by decide) (by decide) (by decide)
  obtain ⟨b2, g2⟩ : ∃ z, z = h0.size := ⟨_, rfl⟩
  rw [← g2] at V2 A2 st2
  have g_b2 : n0 ≤ b2 := Nat.le_trans Z0 (Nat.le_of_eq g2.symm)
  obtain ⟨T3, X3, e3, st3⟩ := castY X2 hx hZ hown (hw _ (List.mem_of_getElem? (i := 23) rfl)) e2 (Ins.self A2) (g := (mkF m 6 #[] [(.ref b2)])) rfl rfl (hb hby d2_6)
  have pre4 : ∀ tt, Steps p.tables e below (T3.setTop (mkF m 9 #[] [(.ref b2)])) tt → Steps p.tables e below (s₁.setTop (entryFrame m #[] 0)) tt := by
    intro tt kt
    refine pre0 tt ?_
    show Steps p.tables e below (s₁.setTop (mkF m 0 #[] [])) _
    refine st1 _ ?_
    show Steps p.tables e below (T1.setTop (mkF m 3 #[] [(.ref w_VALUES)])) _
    refine st2 _ ?_
    show Steps p.tables e below (T2.setTop (mkF m 6 #[] [(.ref b2)])) _
    refine st3 _ ?_
    exact kt
  obtain ⟨fs, hr, hrun, hended, hW, hsame⟩ := X3.leave (v := some (.ref b2)) (fun h => by rw [Bd.returns] at h; cases h)
  refine ⟨_, _, pre4 _ ?_, hrun, hended, _, _, rfl, ?_, ⟨_, rfl⟩, hW, hsame.mono (by decide) (by decide)⟩
  · show Steps p.tables e below (T3.setTop (mkF m 9 #[] [(.ref b2)])) _
    jvm_step X3.here [X3.here.top, hx, (hb hby d2_9), X3.method', Bd.returns, Value.isRef, FieldType.isReference]
    first | (intro acts; rw [hr _ acts rfl rfl rfl]) | rw [hr _ _ rfl rfl rfl]
    exact Steps.refl _
  · show QV Z kV w_UNUSED w_CONSUMED w_PRODUCED w_BOTH r h0 n0 _ T3.heap _
    rw [e3]
    exact ⟨by rw [hr0, ← g2], N0, E2, by rw [hr0, ← g2]; exact V2⟩
def QO (Z : State) (r : Addr) (h0 : Heap) (n0 : Nat) (v : Option Value) (h : Heap) (L : List Loc) : Prop := v = some (.ref r) ∧ Fr n0 L ∧ Ext h0 h
theorem d1_0 : decode prog_59_method_6_code 0 = .ok (.getstatic 3, 3) := by decide +kernel
theorem d1_3 : decode prog_59_method_6_code 3 = .ok (.astore_n 2, 1) := by decide +kernel
theorem d1_4 : decode prog_59_method_6_code 4 = .ok (.invokestatic 42, 3) := by decide +kernel
theorem d1_7 : decode prog_59_method_6_code 7 = .ok (.astore_n 3, 1) := by decide +kernel
theorem d1_8 : decode prog_59_method_6_code 8 = .ok (.aload_n 3, 1) := by decide +kernel
theorem d1_9 : decode prog_59_method_6_code 9 = .ok (.arraylength, 1) := by decide +kernel
theorem d1_10 : decode prog_59_method_6_code 10 = .ok (.istore 4, 2) := by decide +kernel
theorem d1_12 : decode prog_59_method_6_code 12 = .ok (.iconst 0, 1) := by decide +kernel
theorem d1_13 : decode prog_59_method_6_code 13 = .ok (.istore 5, 2) := by decide +kernel
theorem d1_15 : decode prog_59_method_6_code 15 = .ok (.iload 5, 2) := by decide +kernel
theorem d1_17 : decode prog_59_method_6_code 17 = .ok (.iload 4, 2) := by decide +kernel
theorem d1_19 : decode prog_59_method_6_code 19 = .ok (.if_icmp .ge 36, 3) := by decide +kernel
theorem d1_22 : decode prog_59_method_6_code 22 = .ok (.aload_n 3, 1) := by decide +kernel
theorem d1_23 : decode prog_59_method_6_code 23 = .ok (.iload 5, 2) := by decide +kernel
theorem d1_25 : decode prog_59_method_6_code 25 = .ok (.aaload, 1) := by decide +kernel
theorem d1_26 : decode prog_59_method_6_code 26 = .ok (.astore 6, 2) := by decide +kernel
theorem d1_28 : decode prog_59_method_6_code 28 = .ok (.aload 6, 2) := by decide +kernel
theorem d1_30 : decode prog_59_method_6_code 30 = .ok (.getfield 35, 3) := by decide +kernel
theorem d1_33 : decode prog_59_method_6_code 33 = .ok (.iload_n 0, 1) := by decide +kernel
theorem d1_34 : decode prog_59_method_6_code 34 = .ok (.if_icmp .ne 15, 3) := by decide +kernel
theorem d1_37 : decode prog_59_method_6_code 37 = .ok (.aload 6, 2) := by decide +kernel
theorem d1_39 : decode prog_59_method_6_code 39 = .ok (.getfield 39, 3) := by decide +kernel
theorem d1_42 : decode prog_59_method_6_code 42 = .ok (.iload_n 1, 1) := by decide +kernel
theorem d1_43 : decode prog_59_method_6_code 43 = .ok (.if_icmp .ne 6, 3) := by decide +kernel
theorem d1_46 : decode prog_59_method_6_code 46 = .ok (.aload 6, 2) := by decide +kernel
theorem d1_48 : decode prog_59_method_6_code 48 = .ok (.astore_n 2, 1) := by decide +kernel
theorem d1_49 : decode prog_59_method_6_code 49 = .ok (.iinc 5 1, 3) := by decide +kernel
theorem d1_52 : decode prog_59_method_6_code 52 = .ok (.goto (-37), 3) := by decide +kernel
theorem d1_55 : decode prog_59_method_6_code 55 = .ok (.aload_n 2, 1) := by decide +kernel
theorem d1_56 : decode prog_59_method_6_code 56 = .ok (.areturn, 1) := by decide +kernel
theorem pn_rm_of : plainName "com/example/driftwell/driftwell/Roles$Role" = true := by first | (simp [plainName, overriddenIn]; done) | decide +kernel
theorem pd_rm_of_0 : parseMethodDescriptor "()[Lcom/example/driftwell/driftwell/Roles$Role;" = some ⟨[], some (.array (.object "com/example/driftwell/driftwell/Roles$Role"))⟩ := by decide +kernel
theorem ef_rm_of (m : MethodId) (p1 : Int32) (p2 : Int32) : entryFrame m #[(.int p1), (.int p2)] 7 = mkF m 0 #[.val (.int p1), .val (.int p2), .unset, .unset, .unset, .unset, .unset] [] := by first | (simp [entryFrame, mkF, argsToLocals, Value.category]; done) | rfl
set_option maxRecDepth 65536 in
set_option maxHeartbeats 40000000 in
theorem rm_of (l : Launch) (Z : State) (a0 : Array Value) (hw : ∀ d ∈ tables_1, d.before a0 Z = true) (ws : List Jvm.Cond) (p1 p2 : Int32) (w_VALUES : Addr) (kV : ClassId) (w_UNUSED w_CONSUMED w_PRODUCED w_BOTH r : Addr) (h0 : Heap) (n0 : Nat) (Z0 : n0 ≤ h0.size) (S_UNUSED : Sta Z h0 "com/example/driftwell/driftwell/Roles$Role" "UNUSED" "Lcom/example/driftwell/driftwell/Roles$Role;" (.ref w_UNUSED)) (S_VALUES : Sta Z h0 "com/example/driftwell/driftwell/Roles$Role" "$VALUES" "[Lcom/example/driftwell/driftwell/Roles$Role;" (.ref w_VALUES)) (V_VALUES : Arv Z h0 w_VALUES kV (.object "com/example/driftwell/driftwell/Roles$Role") (4 : Int32) [(.ref w_UNUSED), (.ref w_CONSUMED), (.ref w_PRODUCED), (.ref w_BOTH)] .null) (E_VALUES : Exa Z h0 w_VALUES "[Lcom/example/driftwell/driftwell/Roles$Role;") (F_UNUSED_consumed : Fld Z h0 w_UNUSED "com/example/driftwell/driftwell/Roles$Role" "consumed" "Z" (.int (0 : Int32))) (F_UNUSED_produced : Fld Z h0 w_UNUSED "com/example/driftwell/driftwell/Roles$Role" "produced" "Z" (.int (0 : Int32))) (F_CONSUMED_consumed : Fld Z h0 w_CONSUMED "com/example/driftwell/driftwell/Roles$Role" "consumed" "Z" (.int (1 : Int32))) (F_CONSUMED_produced : Fld Z h0 w_CONSUMED "com/example/driftwell/driftwell/Roles$Role" "produced" "Z" (.int (0 : Int32))) (F_PRODUCED_consumed : Fld Z h0 w_PRODUCED "com/example/driftwell/driftwell/Roles$Role" "consumed" "Z" (.int (0 : Int32))) (F_PRODUCED_produced : Fld Z h0 w_PRODUCED "com/example/driftwell/driftwell/Roles$Role" "produced" "Z" (.int (1 : Int32))) (F_BOTH_consumed : Fld Z h0 w_BOTH "com/example/driftwell/driftwell/Roles$Role" "consumed" "Z" (.int (1 : Int32))) (F_BOTH_produced : Fld Z h0 w_BOTH "com/example/driftwell/driftwell/Roles$Role" "produced" "Z" (.int (1 : Int32))) (h1 : p1 = 0 ∨ p1 = 1) (h2 : p2 = 0 ∨ p2 = 1) (hr0 : r = if p1 = 0 then (if p2 = 0 then w_UNUSED else w_PRODUCED) else (if p2 = 0 then w_CONSUMED else w_BOTH)) :
    MetFree l (⟨"com/example/driftwell/driftwell/Roles$Role", "of", "(ZZ)Lcom/example/driftwell/driftwell/Roles$Role;"⟩ : MethodName) (head1 (Jvm.Cond.code (⟨"com/example/driftwell/driftwell/Roles$Role", "of", "(ZZ)Lcom/example/driftwell/driftwell/Roles$Role;"⟩ : MethodName) prog_59_method_6_code 7 (some (.object "com/example/driftwell/driftwell/Roles$Role")) :: ws) ({ frames := 2, cells := 1, slots := 4, locals := 25 } : Room)) (fun a U => a = #[(.int p1), (.int p2)] ∧ Z.Warmed39 U.vm ∧ U.heap = h0) (fun _ _ _ _ _ => True) (fun _ U o U' => ∃ v L, o = .returned v ∧ QO Z r h0 n0 v U'.heap L ∧ FrameEnd U o U' L ({ frames := 2, cells := 1, slots := 4, locals := 25 } : Room).cells ({ frames := 2, cells := 1, slots := 4, locals := 25 } : Room).slots) := by
  refine MetFree.of_bodySF (plainFor_of_name pn_rm_of) hisR ?_
  intro p e s m args below meth c s₁ Bd hml0 hP hK
  obtain ⟨rfl, hZ, hh⟩ := hP
  have hx := Bd.exec
  have hby := Bd.bytes
  have hml : c.maxLocals = 7 := hml0
  have hown : s.vm.findClass "com/example/driftwell/driftwell/Roles$Role" = some m.cls := findClass_of_methodNamed Bd.named
  have hnm := (name_of_methodNamed Bd.named Bd.method).1
  have X0 : Stand p l e ({ frames := 2, cells := 1, slots := 4, locals := 25 } : Room) s m #[(.int p1), (.int p2)] below meth c s₁ [] 0 0 := Stand.of_body Bd
  have e0 : s₁.heap = h0 := by rw [← hh, Bd.state]; rfl
  have N0 := Fr.nil n0
  have pre0 : ∀ tt, Steps p.tables e below (s₁.setTop (mkF m 0 #[.val (.int p1), .val (.int p2), .unset, .unset, .unset, .unset, .unset] [])) tt → Steps p.tables e below (s₁.setTop (entryFrame m #[(.int p1), (.int p2)] 7)) tt := fun tt kt => castTop (ef_rm_of m p1 p2) kt
  obtain ⟨T1, X1, e1, st1⟩ := getS2 X0 hx hZ hown (host := "") (Or.inl (hw _ (List.mem_of_getElem? (i := 6) rfl))) Via.refl e0 S_UNUSED (g := (mkF m 0 #[.val (.int p1), .val (.int p2), .unset, .unset, .unset, .unset, .unset] [])) rfl (hb hby d1_0)
  have pre2 : ∀ tt, Steps p.tables e below (T1.setTop (mkF m 4 #[.val (.int p1), .val (.int p2), .val (.ref w_UNUSED), .unset, .unset, .unset, .unset] [])) tt → Steps p.tables e below (s₁.setTop (entryFrame m #[(.int p1), (.int p2)] 7)) tt := by
    intro tt kt
    refine pre0 tt ?_
    show Steps p.tables e below (s₁.setTop (mkF m 0 #[.val (.int p1), .val (.int p2), .unset, .unset, .unset, .unset, .unset] [])) _
    refine st1 _ ?_
    show Steps p.tables e below (T1.setTop (mkF m 3 #[.val (.int p1), .val (.int p2), .unset, .unset, .unset, .unset, .unset] [(.ref w_UNUSED)])) _
    refine XS.astoreN X1.here hx rfl (hb hby d1_3) rfl rfl (l' := #[.val (.int p1), .val (.int p2), .val (.ref w_UNUSED), .unset, .unset, .unset, .unset]) rfl ?_
    exact kt
  rcases h1 with h1 | h1
  · rcases h2 with h2 | h2
    · have hz : True := trivial
      obtain ⟨bv, hbv⟩ : ∃ z, z = h0.size := ⟨_, rfl⟩
      obtain ⟨_, _, ⟨T3, L3, k3, n3⟩, -, X3, ⟨Lc3, hQ3, l3, y3, z3⟩, st3⟩ := Jvm.LawKit.callS X1 hx (y := (⟨"com/example/driftwell/driftwell/Roles$Role", "values", "()[Lcom/example/driftwell/driftwell/Roles$Role;"⟩ : MethodName)) hown (mvT hZ (hw _ (List.mem_of_getElem? (i := 7) rfl))) (mvT hZ (hw _ (List.mem_of_getElem? (i := 8) rfl))) (mvT hZ (hw _ (List.mem_of_getElem? (i := 1) rfl))) (mvT hZ (hw _ (List.mem_of_getElem? (i := 9) rfl))) (by decide) (backOf (W := 0) (rm_values l Z a0 hw [] w_VALUES kV w_UNUSED w_CONSUMED w_PRODUCED w_BOTH bv h0 n0 Z0 S_VALUES V_VALUES E_VALUES hbv) hZ (hw _ (List.mem_of_getElem? (i := 9) rfl)) (hw _ (List.mem_of_getElem? (i := 1) rfl)) (by decide) (by decide)) (g := (mkF m 4 #[.val (.int p1), .val (.int p2), .val (.ref w_UNUSED), .unset, .unset, .unset, .unset] [])) rfl (by rw [hml]; rfl) (argsL := []) (rest := []) (lenOf pd_rm_of_0 rfl) rfl (by show 2 * 0 + _ ≤ _; exact Nat.le_of_eq rfl) (hb hby d1_4) (fun _ _ => ⟨rfl, e1, (by decide : 0 + 1 ≤ _), (by decide : 0 + 4 ≤ _)⟩)
      dsimp only [Pt.U, Pt.locs, Pt.cells, Pt.slots] at X3 l3 y3 z3 st3 hQ3
      subst l3 y3 z3
      obtain ⟨rfl, N3q, Ex3, V3⟩ := hQ3
      have N3 := Fr.app N0 N3q
      have VO4 := V3
      obtain ⟨cl4, Ar4, q4, S4, M4, H4, G4⟩ := VO4
      have VO5 := V3
      obtain ⟨cl5, Ar5, q5, S5, M5, H5, G5⟩ := VO5
      have hin5 : ¬ ((0 : Int32) < 0 ∨ cl5.slots.size ≤ ((0 : Int32)).toNatClampNeg) := inb_of S5 ⟨by decide, by decide⟩
      have hat5 : cl5.slots[((0 : Int32)).toNatClampNeg]? = some (.ref w_UNUSED) := H5.at hin5 rfl
      obtain ⟨T6, X6, e6, st6⟩ := getF X3 hx hZ hown (host := "") (Or.inl (hw _ (List.mem_of_getElem? (i := 25) rfl))) Via.refl rfl (Fld.ext Ex3 F_UNUSED_consumed) (g := (mkF m 30 #[.val (.int p1), .val (.int p2), .val (.ref w_UNUSED), .val (.ref bv), .val (.int (4 : Int32)), .val (.int (0 : Int32)), .val (.ref w_UNUSED)] [(.ref w_UNUSED)])) rfl rfl (hb hby d1_30)
      obtain ⟨T7, X7, e7, st7⟩ := getF X6 hx hZ hown (host := "") (Or.inl (hw _ (List.mem_of_getElem? (i := 27) rfl))) Via.refl e6 (Fld.ext Ex3 F_UNUSED_produced) (g := (mkF m 39 #[.val (.int p1), .val (.int p2), .val (.ref w_UNUSED), .val (.ref bv), .val (.int (4 : Int32)), .val (.int (0 : Int32)), .val (.ref w_UNUSED)] [(.ref w_UNUSED)])) rfl rfl (hb hby d1_39)
      have VO8 := V3
      obtain ⟨cl8, Ar8, q8, S8, M8, H8, G8⟩ := VO8
      have hin8 : ¬ ((1 : Int32) < 0 ∨ cl8.slots.size ≤ ((1 : Int32)).toNatClampNeg) := inb_of S8 ⟨by decide, by decide⟩
      have hat8 : cl8.slots[((1 : Int32)).toNatClampNeg]? = some (.ref w_CONSUMED) := H8.at hin8 rfl
      obtain ⟨T9, X9, e9, st9⟩ := getF X7 hx hZ hown (host := "") (Or.inl (hw _ (List.mem_of_getElem? (i := 25) rfl))) Via.refl e7 (Fld.ext Ex3 F_CONSUMED_consumed) (g := (mkF m 30 #[.val (.int p1), .val (.int p2), .val (.ref w_UNUSED), .val (.ref bv), .val (.int (4 : Int32)), .val (.int (1 : Int32)), .val (.ref w_CONSUMED)] [(.ref w_CONSUMED)])) rfl rfl (hb hby d1_30)
      have VO10 := V3
      obtain ⟨cl10, Ar10, q10, S10, M10, H10, G10⟩ := VO10
      have hin10 : ¬ ((2 : Int32) < 0 ∨ cl10.slots.size ≤ ((2 : Int32)).toNatClampNeg) := inb_of S10 ⟨by decide, by decide⟩
      have hat10 : cl10.slots[((2 : Int32)).toNatClampNeg]? = some (.ref w_PRODUCED) := H10.at hin10 rfl
      obtain ⟨T11, X11, e11, st11⟩ := getF X9 hx hZ hown (host := "") (Or.inl (hw _ (List.mem_of_getElem? (i := 25) rfl))) Via.refl e9 (Fld.ext Ex3 F_PRODUCED_consumed) (g := (mkF m 30 #[.val (.int p1), .val (.int p2), .val (.ref w_UNUSED), .val (.ref bv), .val (.int (4 : Int32)), .val (.int (2 : Int32)), .val (.ref w_PRODUCED)] [(.ref w_PRODUCED)])) rfl rfl (hb hby d1_30)
      obtain ⟨T12, X12, e12, st12⟩ := getF X11 hx hZ hown (host := "") (Or.inl (hw _ (List.mem_of_getElem? (i := 27) rfl))) Via.refl e11 (Fld.ext Ex3 F_PRODUCED_produced) (g := (mkF m 39 #[.val (.int p1), .val (.int p2), .val (.ref w_UNUSED), .val (.ref bv), .val (.int (4 : Int32)), .val (.int (2 : Int32)), .val (.ref w_PRODUCED)] [(.ref w_PRODUCED)])) rfl rfl (hb hby d1_39)
      have VO13 := V3
      obtain ⟨cl13, Ar13, q13, S13, M13, H13, G13⟩ := VO13
      have hin13 : ¬ ((3 : Int32) < 0 ∨ cl13.slots.size ≤ ((3 : Int32)).toNatClampNeg) := inb_of S13 ⟨by decide, by decide⟩
      have hat13 : cl13.slots[((3 : Int32)).toNatClampNeg]? = some (.ref w_BOTH) := H13.at hin13 rfl
      obtain ⟨T14, X14, e14, st14⟩ := getF X12 hx hZ hown (host := "") (Or.inl (hw _ (List.mem_of_getElem? (i := 25) rfl))) Via.refl e12 (Fld.ext Ex3 F_BOTH_consumed) (g := (mkF m 30 #[.val (.int p1), .val (.int p2), .val (.ref w_UNUSED), .val (.ref bv), .val (.int (4 : Int32)), .val (.int (3 : Int32)), .val (.ref w_BOTH)] [(.ref w_BOTH)])) rfl rfl (hb hby d1_30)
      have pre15 : ∀ tt, Steps p.tables e below (T14.setTop (mkF m 56 #[.val (.int p1), .val (.int p2), .val (.ref w_UNUSED), .val (.ref bv), .val (.int (4 : Int32)), .val (.int (4 : Int32)), .val (.ref w_BOTH)] [(.ref w_UNUSED)])) tt → Steps p.tables e below (s₁.setTop (entryFrame m #[(.int p1), (.int p2)] 7)) tt := by
        intro tt kt
        refine pre2 tt ?_
        show Steps p.tables e below (T1.setTop (mkF m 4 #[.val (.int p1), .val (.int p2), .val (.ref w_UNUSED), .unset, .unset, .unset, .unset] [])) _
        refine st3 _ ?_
        show Steps p.tables e below (T3.setTop (mkF m 7 #[.val (.int p1), .val (.int p2), .val (.ref w_UNUSED), .unset, .unset, .unset, .unset] [(.ref bv)])) _
        refine XS.astoreN X3.here hx rfl (hb hby d1_7) rfl rfl (l' := #[.val (.int p1), .val (.int p2), .val (.ref w_UNUSED), .val (.ref bv), .unset, .unset, .unset]) rfl ?_
        show Steps p.tables e below (T3.setTop (mkF m 8 #[.val (.int p1), .val (.int p2), .val (.ref w_UNUSED), .val (.ref bv), .unset, .unset, .unset] [])) _
        refine XS.aloadN X3.here hx rfl (hb hby d1_8) rfl rfl ?_
        show Steps p.tables e below (T3.setTop (mkF m 9 #[.val (.int p1), .val (.int p2), .val (.ref w_UNUSED), .val (.ref bv), .unset, .unset, .unset] [(.ref bv)])) _
        refine X3.arraylength hx Ar4.1 (State.isArrayOf_alike hZ.alike Ar4.2.1) (g := (mkF m 9 #[.val (.int p1), .val (.int p2), .val (.ref w_UNUSED), .val (.ref bv), .unset, .unset, .unset] [(.ref bv)])) rfl rfl (hb hby d1_9) _ ?_
        rw [len_of S4 M4]
        show Steps p.tables e below (T3.setTop (mkF m 10 #[.val (.int p1), .val (.int p2), .val (.ref w_UNUSED), .val (.ref bv), .unset, .unset, .unset] [(.int (4 : Int32))])) _
        refine XS.istore X3.here hx rfl (hb hby d1_10) rfl (l' := #[.val (.int p1), .val (.int p2), .val (.ref w_UNUSED), .val (.ref bv), .val (.int (4 : Int32)), .unset, .unset]) rfl ?_
        show Steps p.tables e below (T3.setTop (mkF m 12 #[.val (.int p1), .val (.int p2), .val (.ref w_UNUSED), .val (.ref bv), .val (.int (4 : Int32)), .unset, .unset] [])) _
        refine XS.iconst X3.here hx rfl (hb hby d1_12) ?_
        show Steps p.tables e below (T3.setTop (mkF m 13 #[.val (.int p1), .val (.int p2), .val (.ref w_UNUSED), .val (.ref bv), .val (.int (4 : Int32)), .unset, .unset] [(.int (0 : Int32))])) _
        refine XS.istore X3.here hx rfl (hb hby d1_13) rfl (l' := #[.val (.int p1), .val (.int p2), .val (.ref w_UNUSED), .val (.ref bv), .val (.int (4 : Int32)), .val (.int (0 : Int32)), .unset]) rfl ?_
        show Steps p.tables e below (T3.setTop (mkF m 15 #[.val (.int p1), .val (.int p2), .val (.ref w_UNUSED), .val (.ref bv), .val (.int (4 : Int32)), .val (.int (0 : Int32)), .unset] [])) _
        refine XS.iload X3.here hx rfl (hb hby d1_15) rfl ?_
        show Steps p.tables e below (T3.setTop (mkF m 17 #[.val (.int p1), .val (.int p2), .val (.ref w_UNUSED), .val (.ref bv), .val (.int (4 : Int32)), .val (.int (0 : Int32)), .unset] [(.int (0 : Int32))])) _
        refine XS.iload X3.here hx rfl (hb hby d1_17) rfl ?_
        show Steps p.tables e below (T3.setTop (mkF m 19 #[.val (.int p1), .val (.int p2), .val (.ref w_UNUSED), .val (.ref bv), .val (.int (4 : Int32)), .val (.int (0 : Int32)), .unset] [(.int (4 : Int32)), (.int (0 : Int32))])) _
        refine XS.icmpNo X3.here hx rfl (hb hby d1_19) rfl (tlt (by decide : (0 : Int32) < (4 : Int32))).2.1 ?_
        show Steps p.tables e below (T3.setTop (mkF m 22 #[.val (.int p1), .val (.int p2), .val (.ref w_UNUSED), .val (.ref bv), .val (.int (4 : Int32)), .val (.int (0 : Int32)), .unset] [])) _
        refine XS.aloadN X3.here hx rfl (hb hby d1_22) rfl rfl ?_
        show Steps p.tables e below (T3.setTop (mkF m 23 #[.val (.int p1), .val (.int p2), .val (.ref w_UNUSED), .val (.ref bv), .val (.int (4 : Int32)), .val (.int (0 : Int32)), .unset] [(.ref bv)])) _
        refine XS.iload X3.here hx rfl (hb hby d1_23) rfl ?_
        show Steps p.tables e below (T3.setTop (mkF m 25 #[.val (.int p1), .val (.int p2), .val (.ref w_UNUSED), .val (.ref bv), .val (.int (4 : Int32)), .val (.int (0 : Int32)), .unset] [(.int (0 : Int32)), (.ref bv)])) _
        refine X3.aaload hx (j := (0 : Int32)) (v := (.ref w_UNUSED)) Ar5.1 (State.isArrayOf_alike hZ.alike Ar5.2.1) rfl Ar5.2.2 hin5 hat5 (g := (mkF m 25 #[.val (.int p1), .val (.int p2), .val (.ref w_UNUSED), .val (.ref bv), .val (.int (4 : Int32)), .val (.int (0 : Int32)), .unset] [(.int (0 : Int32)), (.ref bv)])) rfl rfl (hb hby d1_25) _ ?_
        show Steps p.tables e below (T3.setTop (mkF m 26 #[.val (.int p1), .val (.int p2), .val (.ref w_UNUSED), .val (.ref bv), .val (.int (4 : Int32)), .val (.int (0 : Int32)), .unset] [(.ref w_UNUSED)])) _
        refine XS.astore X3.here hx rfl (hb hby d1_26) rfl rfl (l' := #[.val (.int p1), .val (.int p2), .val (.ref w_UNUSED), .val (.ref bv), .val (.int (4 : Int32)), .val (.int (0 : Int32)), .val (.ref w_UNUSED)]) rfl ?_
        show Steps p.tables e below (T3.setTop (mkF m 28 #[.val (.int p1), .val (.int p2), .val (.ref w_UNUSED), .val (.ref bv), .val (.int (4 : Int32)), .val (.int (0 : Int32)), .val (.ref w_UNUSED)] [])) _
        refine XS.aload X3.here hx rfl (hb hby d1_28) rfl rfl ?_
        show Steps p.tables e below (T3.setTop (mkF m 30 #[.val (.int p1), .val (.int p2), .val (.ref w_UNUSED), .val (.ref bv), .val (.int (4 : Int32)), .val (.int (0 : Int32)), .val (.ref w_UNUSED)] [(.ref w_UNUSED)])) _
        refine st6 _ ?_
        show Steps p.tables e below (T6.setTop (mkF m 33 #[.val (.int p1), .val (.int p2), .val (.ref w_UNUSED), .val (.ref bv), .val (.int (4 : Int32)), .val (.int (0 : Int32)), .val (.ref w_UNUSED)] [(.int (0 : Int32))])) _
        refine XS.iloadN X6.here hx rfl (hb hby d1_33) rfl ?_
        show Steps p.tables e below (T6.setTop (mkF m 34 #[.val (.int p1), .val (.int p2), .val (.ref w_UNUSED), .val (.ref bv), .val (.int (4 : Int32)), .val (.int (0 : Int32)), .val (.ref w_UNUSED)] [(.int p1), (.int (0 : Int32))])) _
        refine XS.icmpNo X6.here hx rfl (hb hby d1_34) rfl (teq h1.symm).2 ?_
        show Steps p.tables e below (T6.setTop (mkF m 37 #[.val (.int p1), .val (.int p2), .val (.ref w_UNUSED), .val (.ref bv), .val (.int (4 : Int32)), .val (.int (0 : Int32)), .val (.ref w_UNUSED)] [])) _
        refine XS.aload X6.here hx rfl (hb hby d1_37) rfl rfl ?_
        show Steps p.tables e below (T6.setTop (mkF m 39 #[.val (.int p1), .val (.int p2), .val (.ref w_UNUSED), .val (.ref bv), .val (.int (4 : Int32)), .val (.int (0 : Int32)), .val (.ref w_UNUSED)] [(.ref w_UNUSED)])) _
        refine st7 _ ?_
        show Steps p.tables e below (T7.setTop (mkF m 42 #[.val (.int p1), .val (.int p2), .val (.ref w_UNUSED), .val (.ref bv), .val (.int (4 : Int32)), .val (.int (0 : Int32)), .val (.ref w_UNUSED)] [(.int (0 : Int32))])) _
        refine XS.iloadN X7.here hx rfl (hb hby d1_42) rfl ?_
        show Steps p.tables e below (T7.setTop (mkF m 43 #[.val (.int p1), .val (.int p2), .val (.ref w_UNUSED), .val (.ref bv), .val (.int (4 : Int32)), .val (.int (0 : Int32)), .val (.ref w_UNUSED)] [(.int p2), (.int (0 : Int32))])) _
        refine XS.icmpNo X7.here hx rfl (hb hby d1_43) rfl (teq h2.symm).2 ?_
        show Steps p.tables e below (T7.setTop (mkF m 46 #[.val (.int p1), .val (.int p2), .val (.ref w_UNUSED), .val (.ref bv), .val (.int (4 : Int32)), .val (.int (0 : Int32)), .val (.ref w_UNUSED)] [])) _
        refine XS.aload X7.here hx rfl (hb hby d1_46) rfl rfl ?_
        show Steps p.tables e below (T7.setTop (mkF m 48 #[.val (.int p1), .val (.int p2), .val (.ref w_UNUSED), .val (.ref bv), .val (.int (4 : Int32)), .val (.int (0 : Int32)), .val (.ref w_UNUSED)] [(.ref w_UNUSED)])) _
        refine XS.astoreN X7.here hx rfl (hb hby d1_48) rfl rfl (l' := #[.val (.int p1), .val (.int p2), .val (.ref w_UNUSED), .val (.ref bv), .val (.int (4 : Int32)), .val (.int (0 : Int32)), .val (.ref w_UNUSED)]) rfl ?_
        show Steps p.tables e below (T7.setTop (mkF m 49 #[.val (.int p1), .val (.int p2), .val (.ref w_UNUSED), .val (.ref bv), .val (.int (4 : Int32)), .val (.int (0 : Int32)), .val (.ref w_UNUSED)] [])) _
        refine XS.iinc X7.here hx rfl (hb hby d1_49) rfl (l' := #[.val (.int p1), .val (.int p2), .val (.ref w_UNUSED), .val (.ref bv), .val (.int (4 : Int32)), .val (.int (1 : Int32)), .val (.ref w_UNUSED)]) rfl ?_
        show Steps p.tables e below (T7.setTop (mkF m 52 #[.val (.int p1), .val (.int p2), .val (.ref w_UNUSED), .val (.ref bv), .val (.int (4 : Int32)), .val (.int (1 : Int32)), .val (.ref w_UNUSED)] [])) _
        refine XS.goto X7.here hx rfl (pc0 := 52) (pc' := 15) rfl (hb hby d1_52) (by decide) (by decide) ?_
        show Steps p.tables e below (T7.setTop (mkF m 15 #[.val (.int p1), .val (.int p2), .val (.ref w_UNUSED), .val (.ref bv), .val (.int (4 : Int32)), .val (.int (1 : Int32)), .val (.ref w_UNUSED)] [])) _
        refine XS.iload X7.here hx rfl (hb hby d1_15) rfl ?_
        show Steps p.tables e below (T7.setTop (mkF m 17 #[.val (.int p1), .val (.int p2), .val (.ref w_UNUSED), .val (.ref bv), .val (.int (4 : Int32)), .val (.int (1 : Int32)), .val (.ref w_UNUSED)] [(.int (1 : Int32))])) _
        refine XS.iload X7.here hx rfl (hb hby d1_17) rfl ?_
        show Steps p.tables e below (T7.setTop (mkF m 19 #[.val (.int p1), .val (.int p2), .val (.ref w_UNUSED), .val (.ref bv), .val (.int (4 : Int32)), .val (.int (1 : Int32)), .val (.ref w_UNUSED)] [(.int (4 : Int32)), (.int (1 : Int32))])) _
        refine XS.icmpNo X7.here hx rfl (hb hby d1_19) rfl (tlt (by decide : (1 : Int32) < (4 : Int32))).2.1 ?_
        show Steps p.tables e below (T7.setTop (mkF m 22 #[.val (.int p1), .val (.int p2), .val (.ref w_UNUSED), .val (.ref bv), .val (.int (4 : Int32)), .val (.int (1 : Int32)), .val (.ref w_UNUSED)] [])) _
        refine XS.aloadN X7.here hx rfl (hb hby d1_22) rfl rfl ?_
        show Steps p.tables e below (T7.setTop (mkF m 23 #[.val (.int p1), .val (.int p2), .val (.ref w_UNUSED), .val (.ref bv), .val (.int (4 : Int32)), .val (.int (1 : Int32)), .val (.ref w_UNUSED)] [(.ref bv)])) _
        refine XS.iload X7.here hx rfl (hb hby d1_23) rfl ?_
        show Steps p.tables e below (T7.setTop (mkF m 25 #[.val (.int p1), .val (.int p2), .val (.ref w_UNUSED), .val (.ref bv), .val (.int (4 : Int32)), .val (.int (1 : Int32)), .val (.ref w_UNUSED)] [(.int (1 : Int32)), (.ref bv)])) _
        refine X7.aaload hx (j := (1 : Int32)) (v := (.ref w_CONSUMED)) (by rw [e7]; exact Ar8.1) (State.isArrayOf_alike hZ.alike Ar8.2.1) rfl Ar8.2.2 hin8 hat8 (g := (mkF m 25 #[.val (.int p1), .val (.int p2), .val (.ref w_UNUSED), .val (.ref bv), .val (.int (4 : Int32)), .val (.int (1 : Int32)), .val (.ref w_UNUSED)] [(.int (1 : Int32)), (.ref bv)])) rfl rfl (hb hby d1_25) _ ?_
        show Steps p.tables e below (T7.setTop (mkF m 26 #[.val (.int p1), .val (.int p2), .val (.ref w_UNUSED), .val (.ref bv), .val (.int (4 : Int32)), .val (.int (1 : Int32)), .val (.ref w_UNUSED)] [(.ref w_CONSUMED)])) _
        refine XS.astore X7.here hx rfl (hb hby d1_26) rfl rfl (l' := #[.val (.int p1), .val (.int p2), .val (.ref w_UNUSED), .val (.ref bv), .val (.int (4 : Int32)), .val (.int (1 : Int32)), .val (.ref w_CONSUMED)]) rfl ?_
        show Steps p.tables e below (T7.setTop (mkF m 28 #[.val (.int p1), .val (.int p2), .val (.ref w_UNUSED), .val (.ref bv), .val (.int (4 : Int32)), .val (.int (1 : Int32)), .val (.ref w_CONSUMED)] [])) _
        refine XS.aload X7.here hx rfl (hb hby d1_28) rfl rfl ?_
        show Steps p.tables e below (T7.setTop (mkF m 30 #[.val (.int p1), .val (.int p2), .val (.ref w_UNUSED), .val (.ref bv), .val (.int (4 : Int32)), .val (.int (1 : Int32)), .val (.ref w_CONSUMED)] [(.ref w_CONSUMED)])) _
        refine st9 _ ?_
        show Steps p.tables e below (T9.setTop (mkF m 33 #[.val (.int p1), .val (.int p2), .val (.ref w_UNUSED), .val (.ref bv), .val (.int (4 : Int32)), .val (.int (1 : Int32)), .val (.ref w_CONSUMED)] [(.int (1 : Int32))])) _
        refine XS.iloadN X9.here hx rfl (hb hby d1_33) rfl ?_
        show Steps p.tables e below (T9.setTop (mkF m 34 #[.val (.int p1), .val (.int p2), .val (.ref w_UNUSED), .val (.ref bv), .val (.int (4 : Int32)), .val (.int (1 : Int32)), .val (.ref w_CONSUMED)] [(.int p1), (.int (1 : Int32))])) _
        refine XS.icmpYes X9.here hx rfl (pc0 := 34) (pc' := 49) rfl (hb hby d1_34) rfl (feq (by rw [h1]; decide)).2 (by decide) (by decide) ?_
        show Steps p.tables e below (T9.setTop (mkF m 49 #[.val (.int p1), .val (.int p2), .val (.ref w_UNUSED), .val (.ref bv), .val (.int (4 : Int32)), .val (.int (1 : Int32)), .val (.ref w_CONSUMED)] [])) _
        refine XS.iinc X9.here hx rfl (hb hby d1_49) rfl (l' := #[.val (.int p1), .val (.int p2), .val (.ref w_UNUSED), .val (.ref bv), .val (.int (4 : Int32)), .val (.int (2 : Int32)), .val (.ref w_CONSUMED)]) rfl ?_
        show Steps p.tables e below (T9.setTop (mkF m 52 #[.val (.int p1), .val (.int p2), .val (.ref w_UNUSED), .val (.ref bv), .val (.int (4 : Int32)), .val (.int (2 : Int32)), .val (.ref w_CONSUMED)] [])) _
        refine XS.goto X9.here hx rfl (pc0 := 52) (pc' := 15) rfl (hb hby d1_52) (by decide) (by decide) ?_
        show Steps p.tables e below (T9.setTop (mkF m 15 #[.val (.int p1), .val (.int p2), .val (.ref w_UNUSED), .val (.ref bv), .val (.int (4 : Int32)), .val (.int (2 : Int32)), .val (.ref w_CONSUMED)] [])) _
        refine XS.iload X9.here hx rfl (hb hby d1_15) rfl ?_
        show Steps p.tables e below (T9.setTop (mkF m 17 #[.val (.int p1), .val (.int p2), .val (.ref w_UNUSED), .val (.ref bv), .val (.int (4 : Int32)), .val (.int (2 : Int32)), .val (.ref w_CONSUMED)] [(.int (2 : Int32))])) _
        refine XS.iload X9.here hx rfl (hb hby d1_17) rfl ?_
        show Steps p.tables e below (T9.setTop (mkF m 19 #[.val (.int p1), .val (.int p2), .val (.ref w_UNUSED), .val (.ref bv), .val (.int (4 : Int32)), .val (.int (2 : Int32)), .val (.ref w_CONSUMED)] [(.int (4 : Int32)), (.int (2 : Int32))])) _
        refine XS.icmpNo X9.here hx rfl (hb hby d1_19) rfl (tlt (by decide : (2 : Int32) < (4 : Int32))).2.1 ?_
        show Steps p.tables e below (T9.setTop (mkF m 22 #[.val (.int p1), .val (.int p2), .val (.ref w_UNUSED), .val (.ref bv), .val (.int (4 : Int32)), .val (.int (2 : Int32)), .val (.ref w_CONSUMED)] [])) _
        refine XS.aloadN X9.here hx rfl (hb hby d1_22) rfl rfl ?_
        show Steps p.tables e below (T9.setTop (mkF m 23 #[.val (.int p1), .val (.int p2), .val (.ref w_UNUSED), .val (.ref bv), .val (.int (4 : Int32)), .val (.int (2 : Int32)), .val (.ref w_CONSUMED)] [(.ref bv)])) _
        refine XS.iload X9.here hx rfl (hb hby d1_23) rfl ?_
        show Steps p.tables e below (T9.setTop (mkF m 25 #[.val (.int p1), .val (.int p2), .val (.ref w_UNUSED), .val (.ref bv), .val (.int (4 : Int32)), .val (.int (2 : Int32)), .val (.ref w_CONSUMED)] [(.int (2 : Int32)), (.ref bv)])) _
        refine X9.aaload hx (j := (2 : Int32)) (v := (.ref w_PRODUCED)) (by rw [e9]; exact Ar10.1) (State.isArrayOf_alike hZ.alike Ar10.2.1) rfl Ar10.2.2 hin10 hat10 (g := (mkF m 25 #[.val (.int p1), .val (.int p2), .val (.ref w_UNUSED), .val (.ref bv), .val (.int (4 : Int32)), .val (.int (2 : Int32)), .val (.ref w_CONSUMED)] [(.int (2 : Int32)), (.ref bv)])) rfl rfl (hb hby d1_25) _ ?_
        show Steps p.tables e below (T9.setTop (mkF m 26 #[.val (.int p1), .val (.int p2), .val (.ref w_UNUSED), .val (.ref bv), .val (.int (4 : Int32)), .val (.int (2 : Int32)), .val (.ref w_CONSUMED)] [(.ref w_PRODUCED)])) _
        refine XS.astore X9.here hx rfl (hb hby d1_26) rfl rfl (l' := #[.val (.int p1), .val (.int p2), .val (.ref w_UNUSED), .val (.ref bv), .val (.int (4 : Int32)), .val (.int (2 : Int32)), .val (.ref w_PRODUCED)]) rfl ?_
        show Steps p.tables e below (T9.setTop (mkF m 28 #[.val (.int p1), .val (.int p2), .val (.ref w_UNUSED), .val (.ref bv), .val (.int (4 : Int32)), .val (.int (2 : Int32)), .val (.ref w_PRODUCED)] [])) _
        refine XS.aload X9.here hx rfl (hb hby d1_28) rfl rfl ?_
        show Steps p.tables e below (T9.setTop (mkF m 30 #[.val (.int p1), .val (.int p2), .val (.ref w_UNUSED), .val (.ref bv), .val (.int (4 : Int32)), .val (.int (2 : Int32)), .val (.ref w_PRODUCED)] [(.ref w_PRODUCED)])) _
        refine st11 _ ?_
        show Steps p.tables e below (T11.setTop (mkF m 33 #[.val (.int p1), .val (.int p2), .val (.ref w_UNUSED), .val (.ref bv), .val (.int (4 : Int32)), .val (.int (2 : Int32)), .val (.ref w_PRODUCED)] [(.int (0 : Int32))])) _
        refine XS.iloadN X11.here hx rfl (hb hby d1_33) rfl ?_
        show Steps p.tables e below (T11.setTop (mkF m 34 #[.val (.int p1), .val (.int p2), .val (.ref w_UNUSED), .val (.ref bv), .val (.int (4 : Int32)), .val (.int (2 : Int32)), .val (.ref w_PRODUCED)] [(.int p1), (.int (0 : Int32))])) _
        refine XS.icmpNo X11.here hx rfl (hb hby d1_34) rfl (teq h1.symm).2 ?_
        show Steps p.tables e below (T11.setTop (mkF m 37 #[.val (.int p1), .val (.int p2), .val (.ref w_UNUSED), .val (.ref bv), .val (.int (4 : Int32)), .val (.int (2 : Int32)), .val (.ref w_PRODUCED)] [])) _
        refine XS.aload X11.here hx rfl (hb hby d1_37) rfl rfl ?_
        show Steps p.tables e below (T11.setTop (mkF m 39 #[.val (.int p1), .val (.int p2), .val (.ref w_UNUSED), .val (.ref bv), .val (.int (4 : Int32)), .val (.int (2 : Int32)), .val (.ref w_PRODUCED)] [(.ref w_PRODUCED)])) _
        refine st12 _ ?_
        show Steps p.tables e below (T12.setTop (mkF m 42 #[.val (.int p1), .val (.int p2), .val (.ref w_UNUSED), .val (.ref bv), .val (.int (4 : Int32)), .val (.int (2 : Int32)), .val (.ref w_PRODUCED)] [(.int (1 : Int32))])) _
        refine XS.iloadN X12.here hx rfl (hb hby d1_42) rfl ?_
        show Steps p.tables e below (T12.setTop (mkF m 43 #[.val (.int p1), .val (.int p2), .val (.ref w_UNUSED), .val (.ref bv), .val (.int (4 : Int32)), .val (.int (2 : Int32)), .val (.ref w_PRODUCED)] [(.int p2), (.int (1 : Int32))])) _
        refine XS.icmpYes X12.here hx rfl (pc0 := 43) (pc' := 49) rfl (hb hby d1_43) rfl (feq (by rw [h2]; decide)).2 (by decide) (by decide) ?_
        show Steps p.tables e below (T12.setTop (mkF m 49 #[.val (.int p1), .val (.int p2), .val (.ref w_UNUSED), .val (.ref bv), .val (.int (4 : Int32)), .val (.int (2 : Int32)), .val (.ref w_PRODUCED)] [])) _
        refine XS.iinc X12.here hx rfl (hb hby d1_49) rfl (l' := #[.val (.int p1), .val (.int p2), .val (.ref w_UNUSED), .val (.ref bv), .val (.int (4 : Int32)), .val (.int (3 : Int32)), .val (.ref w_PRODUCED)]) rfl ?_
        show Steps p.tables e below (T12.setTop (mkF m 52 #[.val (.int p1), .val (.int p2), .val (.ref w_UNUSED), .val (.ref bv), .val (.int (4 : Int32)), .val (.int (3 : Int32)), .val (.ref w_PRODUCED)] [])) _
        refine XS.goto X12.here hx rfl (pc0 := 52) (pc' := 15) rfl (hb hby d1_52) (by decide) (by decide) ?_
        show Steps p.tables e below (T12.setTop (mkF m 15 #[.val (.int p1), .val (.int p2), .val (.ref w_UNUSED), .val (.ref bv), .val (.int (4 : Int32)), .val (.int (3 : Int32)), .val (.ref w_PRODUCED)] [])) _
        refine XS.iload X12.here hx rfl (hb hby d1_15) rfl ?_
        show Steps p.tables e below (T12.setTop (mkF m 17 #[.val (.int p1), .val (.int p2), .val (.ref w_UNUSED), .val (.ref bv), .val (.int (4 : Int32)), .val (.int (3 : Int32)), .val (.ref w_PRODUCED)] [(.int (3 : Int32))])) _
        refine XS.iload X12.here hx rfl (hb hby d1_17) rfl ?_
        show Steps p.tables e below (T12.setTop (mkF m 19 #[.val (.int p1), .val (.int p2), .val (.ref w_UNUSED), .val (.ref bv), .val (.int (4 : Int32)), .val (.int (3 : Int32)), .val (.ref w_PRODUCED)] [(.int (4 : Int32)), (.int (3 : Int32))])) _
        refine XS.icmpNo X12.here hx rfl (hb hby d1_19) rfl (tlt (by decide : (3 : Int32) < (4 : Int32))).2.1 ?_
        show Steps p.tables e below (T12.setTop (mkF m 22 #[.val (.int p1), .val (.int p2), .val (.ref w_UNUSED), .val (.ref bv), .val (.int (4 : Int32)), .val (.int (3 : Int32)), .val (.ref w_PRODUCED)] [])) _
        refine XS.aloadN X12.here hx rfl (hb hby d1_22) rfl rfl ?_
        show Steps p.tables e below (T12.setTop (mkF m 23 #[.val (.int p1), .val (.int p2), .val (.ref w_UNUSED), .val (.ref bv), .val (.int (4 : Int32)), .val (.int (3 : Int32)), .val (.ref w_PRODUCED)] [(.ref bv)])) _
        refine XS.iload X12.here hx rfl (hb hby d1_23) rfl ?_
        show Steps p.tables e below (T12.setTop (mkF m 25 #[.val (.int p1), .val (.int p2), .val (.ref w_UNUSED), .val (.ref bv), .val (.int (4 : Int32)), .val (.int (3 : Int32)), .val (.ref w_PRODUCED)] [(.int (3 : Int32)), (.ref bv)])) _
        refine X12.aaload hx (j := (3 : Int32)) (v := (.ref w_BOTH)) (by rw [e12]; exact Ar13.1) (State.isArrayOf_alike hZ.alike Ar13.2.1) rfl Ar13.2.2 hin13 hat13 (g := (mkF m 25 #[.val (.int p1), .val (.int p2), .val (.ref w_UNUSED), .val (.ref bv), .val (.int (4 : Int32)), .val (.int (3 : Int32)), .val (.ref w_PRODUCED)] [(.int (3 : Int32)), (.ref bv)])) rfl rfl (hb hby d1_25) _ ?_
        show Steps p.tables e below (T12.setTop (mkF m 26 #[.val (.int p1), .val (.int p2), .val (.ref w_UNUSED), .val (.ref bv), .val (.int (4 : Int32)), .val (.int (3 : Int32)), .val (.ref w_PRODUCED)] [(.ref w_BOTH)])) _
        refine XS.astore X12.here hx rfl (hb hby d1_26) rfl rfl (l' := #[.val (.int p1), .val (.int p2), .val (.ref w_UNUSED), .val (.ref bv), .val (.int (4 : Int32)), .val (.int (3 : Int32)), .val (.ref w_BOTH)]) rfl ?_
        show Steps p.tables e below (T12.setTop (mkF m 28 #[.val (.int p1), .val (.int p2), .val (.ref w_UNUSED), .val (.ref bv), .val (.int (4 : Int32)), .val (.int (3 : Int32)), .val (.ref w_BOTH)] [])) _
        refine XS.aload X12.here hx rfl (hb hby d1_28) rfl rfl ?_
        show Steps p.tables e below (T12.setTop (mkF m 30 #[.val (.int p1), .val (.int p2), .val (.ref w_UNUSED), .val (.ref bv), .val (.int (4 : Int32)), .val (.int (3 : Int32)), .val (.ref w_BOTH)] [(.ref w_BOTH)])) _
        refine st14 _ ?_
        show Steps p.tables e below (T14.setTop (mkF m 33 #[.val (.int p1), .val (.int p2), .val (.ref w_UNUSED), .val (.ref bv), .val (.int (4 : Int32)), .val (.int (3 : Int32)), .val (.ref w_BOTH)] [(.int (1 : Int32))])) _
        refine XS.iloadN X14.here hx rfl (hb hby d1_33) rfl ?_
        show Steps p.tables e below (T14.setTop (mkF m 34 #[.val (.int p1), .val (.int p2), .val (.ref w_UNUSED), .val (.ref bv), .val (.int (4 : Int32)), .val (.int (3 : Int32)), .val (.ref w_BOTH)] [(.int p1), (.int (1 : Int32))])) _
        refine XS.icmpYes X14.here hx rfl (pc0 := 34) (pc' := 49) rfl (hb hby d1_34) rfl (feq (by rw [h1]; decide)).2 (by decide) (by decide) ?_
        show Steps p.tables e below (T14.setTop (mkF m 49 #[.val (.int p1), .val (.int p2), .val (.ref w_UNUSED), .val (.ref bv), .val (.int (4 : Int32)), .val (.int (3 : Int32)), .val (.ref w_BOTH)] [])) _
        refine XS.iinc X14.here hx rfl (hb hby d1_49) rfl (l' := #[.val (.int p1), .val (.int p2), .val (.ref w_UNUSED), .val (.ref bv), .val (.int (4 : Int32)), .val (.int (4 : Int32)), .val (.ref w_BOTH)]) rfl ?_
        show Steps p.tables e below (T14.setTop (mkF m 52 #[.val (.int p1), .val (.int p2), .val (.ref w_UNUSED), .val (.ref bv), .val (.int (4 : Int32)), .val (.int (4 : Int32)), .val (.ref w_BOTH)] [])) _
        refine XS.goto X14.here hx rfl (pc0 := 52) (pc' := 15) rfl (hb hby d1_52) (by decide) (by decide) ?_
        show Steps p.tables e below (T14.setTop (mkF m 15 #[.val (.int p1), .val (.int p2), .val (.ref w_UNUSED), .val (.ref bv), .val (.int (4 : Int32)), .val (.int (4 : Int32)), .val (.ref w_BOTH)] [])) _
        refine XS.iload X14.here hx rfl (hb hby d1_15) rfl ?_
        show Steps p.tables e below (T14.setTop (mkF m 17 #[.val (.int p1), .val (.int p2), .val (.ref w_UNUSED), .val (.ref bv), .val (.int (4 : Int32)), .val (.int (4 : Int32)), .val (.ref w_BOTH)] [(.int (4 : Int32))])) _
        refine XS.iload X14.here hx rfl (hb hby d1_17) rfl ?_
        show Steps p.tables e below (T14.setTop (mkF m 19 #[.val (.int p1), .val (.int p2), .val (.ref w_UNUSED), .val (.ref bv), .val (.int (4 : Int32)), .val (.int (4 : Int32)), .val (.ref w_BOTH)] [(.int (4 : Int32)), (.int (4 : Int32))])) _
        refine XS.icmpYes X14.here hx rfl (pc0 := 19) (pc' := 55) rfl (hb hby d1_19) rfl (flt (by decide : ¬ ((4 : Int32) < (4 : Int32)))).2.1 (by decide) (by decide) ?_
        show Steps p.tables e below (T14.setTop (mkF m 55 #[.val (.int p1), .val (.int p2), .val (.ref w_UNUSED), .val (.ref bv), .val (.int (4 : Int32)), .val (.int (4 : Int32)), .val (.ref w_BOTH)] [])) _
        refine XS.aloadN X14.here hx rfl (hb hby d1_55) rfl rfl ?_
        exact kt
      obtain ⟨fs, hr, hrun, hended, hW, hsame⟩ := X14.leave (v := some (.ref w_UNUSED)) (fun h => by rw [Bd.returns] at h; cases h)
      refine ⟨_, _, pre15 _ ?_, hrun, hended, _, _, rfl, ?_, ⟨_, rfl⟩, hW, hsame.mono (by decide) (by decide)⟩
      · show Steps p.tables e below (T14.setTop (mkF m 56 #[.val (.int p1), .val (.int p2), .val (.ref w_UNUSED), .val (.ref bv), .val (.int (4 : Int32)), .val (.int (4 : Int32)), .val (.ref w_BOTH)] [(.ref w_UNUSED)])) _
        jvm_step X14.here [X14.here.top, hx, (hb hby d1_56), X14.method', Bd.returns, Value.isRef, FieldType.isReference]
        first | (intro acts; rw [hr _ acts rfl rfl rfl]) | rw [hr _ _ rfl rfl rfl]
        exact Steps.refl _
      · show QO Z r h0 n0 _ T14.heap _
        rw [e14]
        exact ⟨by rw [hr0]; simp [h1, h2], N3, Ex3⟩
    · have hz : True := trivial
      obtain ⟨bv, hbv⟩ : ∃ z, z = h0.size := ⟨_, rfl⟩
      obtain ⟨_, _, ⟨T16, L16, k16, n16⟩, -, X16, ⟨Lc16, hQ16, l16, y16, z16⟩, st16⟩ := Jvm.LawKit.callS X1 hx (y := (⟨"com/example/driftwell/driftwell/Roles$Role", "values", "()[Lcom/example/driftwell/driftwell/Roles$Role;"⟩ : MethodName)) hown (mvT hZ (hw _ (List.mem_of_getElem? (i := 7) rfl))) (mvT hZ (hw _ (List.mem_of_getElem? (i := 8) rfl))) (mvT hZ (hw _ (List.mem_of_getElem? (i := 1) rfl))) (mvT hZ (hw _ (List.mem_of_getElem? (i := 9) rfl))) (by decide) (backOf (W := 0) (rm_values l Z a0 hw [] w_VALUES kV w_UNUSED w_CONSUMED w_PRODUCED w_BOTH bv h0 n0 Z0 S_VALUES V_VALUES E_VALUES hbv) hZ (hw _ (List.mem_of_getElem? (i := 9) rfl)) (hw _ (List.mem_of_getElem? (i := 1) rfl)) (by decide) (by decide)) (g := (mkF m 4 #[.val (.int p1), .val (.int p2), .val (.ref w_UNUSED), .unset, .unset, .unset, .unset] [])) rfl (by rw [hml]; rfl) (argsL := []) (rest := []) (lenOf pd_rm_of_0 rfl) rfl (by show 2 * 0 + _ ≤ _; exact Nat.le_of_eq rfl) (hb hby d1_4) (fun _ _ => ⟨rfl, e1, (by decide : 0 + 1 ≤ _), (by decide : 0 + 4 ≤ _)⟩)
      dsimp only [Pt.U, Pt.locs, Pt.cells, Pt.slots] at X16 l16 y16 z16 st16 hQ16
      subst l16 y16 z16
      obtain ⟨rfl, N16q, Ex16, V16⟩ := hQ16
      have N16 := Fr.app N0 N16q
      have VO17 := V16
      obtain ⟨cl17, Ar17, q17, S17, M17, H17, G17⟩ := VO17
      have VO18 := V16
      obtain ⟨cl18, Ar18, q18, S18, M18, H18, G18⟩ := VO18
      have hin18 : ¬ ((0 : Int32) < 0 ∨ cl18.slots.size ≤ ((0 : Int32)).toNatClampNeg) := inb_of S18 ⟨by decide, by decide⟩
      have hat18 : cl18.slots[((0 : Int32)).toNatClampNeg]? = some (.ref w_UNUSED) := H18.at hin18 rfl
      obtain ⟨T19, X19, e19, st19⟩ := getF X16 hx hZ hown (host := "") (Or.inl (hw _ (List.mem_of_getElem? (i := 25) rfl))) Via.refl rfl (Fld.ext Ex16 F_UNUSED_consumed) (g := (mkF m 30 #[.val (.int p1), .val (.int p2), .val (.ref w_UNUSED), .val (.ref bv), .val (.int (4 : Int32)), .val (.int (0 : Int32)), .val (.ref w_UNUSED)] [(.ref w_UNUSED)])) rfl rfl (hb hby d1_30)
      obtain ⟨T20, X20, e20, st20⟩ := getF X19 hx hZ hown (host := "") (Or.inl (hw _ (List.mem_of_getElem? (i := 27) rfl))) Via.refl e19 (Fld.ext Ex16 F_UNUSED_produced) (g := (mkF m 39 #[.val (.int p1), .val (.int p2), .val (.ref w_UNUSED), .val (.ref bv), .val (.int (4 : Int32)), .val (.int (0 : Int32)), .val (.ref w_UNUSED)] [(.ref w_UNUSED)])) rfl rfl (hb hby d1_39)
      have VO21 := V16
      obtain ⟨cl21, Ar21, q21, S21, M21, H21, G21⟩ := VO21
      have hin21 : ¬ ((1 : Int32) < 0 ∨ cl21.slots.size ≤ ((1 : Int32)).toNatClampNeg) := inb_of S21 ⟨by decide, by decide⟩
      have hat21 : cl21.slots[((1 : Int32)).toNatClampNeg]? = some (.ref w_CONSUMED) := H21.at hin21 rfl
      obtain ⟨T22, X22, e22, st22⟩ := getF X20 hx hZ hown (host := "") (Or.inl (hw _ (List.mem_of_getElem? (i := 25) rfl))) Via.refl e20 (Fld.ext Ex16 F_CONSUMED_consumed) (g := (mkF m 30 #[.val (.int p1), .val (.int p2), .val (.ref w_UNUSED), .val (.ref bv), .val (.int (4 : Int32)), .val (.int (1 : Int32)), .val (.ref w_CONSUMED)] [(.ref w_CONSUMED)])) rfl rfl (hb hby d1_30)
      have VO23 := V16
      obtain ⟨cl23, Ar23, q23, S23, M23, H23, G23⟩ := VO23
      have hin23 : ¬ ((2 : Int32) < 0 ∨ cl23.slots.size ≤ ((2 : Int32)).toNatClampNeg) := inb_of S23 ⟨by decide, by decide⟩
      have hat23 : cl23.slots[((2 : Int32)).toNatClampNeg]? = some (.ref w_PRODUCED) := H23.at hin23 rfl
      obtain ⟨T24, X24, e24, st24⟩ := getF X22 hx hZ hown (host := "") (Or.inl (hw _ (List.mem_of_getElem? (i := 25) rfl))) Via.refl e22 (Fld.ext Ex16 F_PRODUCED_consumed) (g := (mkF m 30 #[.val (.int p1), .val (.int p2), .val (.ref w_UNUSED), .val (.ref bv), .val (.int (4 : Int32)), .val (.int (2 : Int32)), .val (.ref w_PRODUCED)] [(.ref w_PRODUCED)])) rfl rfl (hb hby d1_30)
      obtain ⟨T25, X25, e25, st25⟩ := getF X24 hx hZ hown (host := "") (Or.inl (hw _ (List.mem_of_getElem? (i := 27) rfl))) Via.refl e24 (Fld.ext Ex16 F_PRODUCED_produced) (g := (mkF m 39 #[.val (.int p1), .val (.int p2), .val (.ref w_UNUSED), .val (.ref bv), .val (.int (4 : Int32)), .val (.int (2 : Int32)), .val (.ref w_PRODUCED)] [(.ref w_PRODUCED)])) rfl rfl (hb hby d1_39)
      have VO26 := V16
      obtain ⟨cl26, Ar26, q26, S26, M26, H26, G26⟩ := VO26
      have hin26 : ¬ ((3 : Int32) < 0 ∨ cl26.slots.size ≤ ((3 : Int32)).toNatClampNeg) := inb_of S26 ⟨by decide, by decide⟩
      have hat26 : cl26.slots[((3 : Int32)).toNatClampNeg]? = some (.ref w_BOTH) := H26.at hin26 rfl
      obtain ⟨T27, X27, e27, st27⟩ := getF X25 hx hZ hown (host := "") (Or.inl (hw _ (List.mem_of_getElem? (i := 25) rfl))) Via.refl e25 (Fld.ext Ex16 F_BOTH_consumed) (g := (mkF m 30 #[.val (.int p1), .val (.int p2), .val (.ref w_PRODUCED), .val (.ref bv), .val (.int (4 : Int32)), .val (.int (3 : Int32)), .val (.ref w_BOTH)] [(.ref w_BOTH)])) rfl rfl (hb hby d1_30)
      have pre28 : ∀ tt, Steps p.tables e below (T27.setTop (mkF m 56 #[.val (.int p1), .val (.int p2), .val (.ref w_PRODUCED), .val (.ref bv), .val (.int (4 : Int32)), .val (.int (4 : Int32)), .val (.ref w_BOTH)] [(.ref w_PRODUCED)])) tt → Steps p.tables e below (s₁.setTop (entryFrame m #[(.int p1), (.int p2)] 7)) tt := by
        intro tt kt
        refine pre2 tt ?_
        show Steps p.tables e below (T1.setTop (mkF m 4 #[.val (.int p1), .val (.int p2), .val (.ref w_UNUSED), .unset, .unset, .unset, .unset] [])) _
        refine st16 _ ?_
        show Steps p.tables e below (T16.setTop (mkF m 7 #[.val (.int p1), .val (.int p2), .val (.ref w_UNUSED), .unset, .unset, .unset, .unset] [(.ref bv)])) _
        refine XS.astoreN X16.here hx rfl (hb hby d1_7) rfl rfl (l' := #[.val (.int p1), .val (.int p2), .val (.ref w_UNUSED), .val (.ref bv), .unset, .unset, .unset]) rfl ?_
        show Steps p.tables e below (T16.setTop (mkF m 8 #[.val (.int p1), .val (.int p2), .val (.ref w_UNUSED), .val (.ref bv), .unset, .unset, .unset] [])) _
        refine XS.aloadN X16.here hx rfl (hb hby d1_8) rfl rfl ?_
        show Steps p.tables e below (T16.setTop (mkF m 9 #[.val (.int p1), .val (.int p2), .val (.ref w_UNUSED), .val (.ref bv), .unset, .unset, .unset] [(.ref bv)])) _
        refine X16.arraylength hx Ar17.1 (State.isArrayOf_alike hZ.alike Ar17.2.1) (g := (mkF m 9 #[.val (.int p1), .val (.int p2), .val (.ref w_UNUSED), .val (.ref bv), .unset, .unset, .unset] [(.ref bv)])) rfl rfl (hb hby d1_9) _ ?_
        rw [len_of S17 M17]
        show Steps p.tables e below (T16.setTop (mkF m 10 #[.val (.int p1), .val (.int p2), .val (.ref w_UNUSED), .val (.ref bv), .unset, .unset, .unset] [(.int (4 : Int32))])) _
        refine XS.istore X16.here hx rfl (hb hby d1_10) rfl (l' := #[.val (.int p1), .val (.int p2), .val (.ref w_UNUSED), .val (.ref bv), .val (.int (4 : Int32)), .unset, .unset]) rfl ?_
        show Steps p.tables e below (T16.setTop (mkF m 12 #[.val (.int p1), .val (.int p2), .val (.ref w_UNUSED), .val (.ref bv), .val (.int (4 : Int32)), .unset, .unset] [])) _
        refine XS.iconst X16.here hx rfl (hb hby d1_12) ?_
        show Steps p.tables e below (T16.setTop (mkF m 13 #[.val (.int p1), .val (.int p2), .val (.ref w_UNUSED), .val (.ref bv), .val (.int (4 : Int32)), .unset, .unset] [(.int (0 : Int32))])) _
        refine XS.istore X16.here hx rfl (hb hby d1_13) rfl (l' := #[.val (.int p1), .val (.int p2), .val (.ref w_UNUSED), .val (.ref bv), .val (.int (4 : Int32)), .val (.int (0 : Int32)), .unset]) rfl ?_
        show Steps p.tables e below (T16.setTop (mkF m 15 #[.val (.int p1), .val (.int p2), .val (.ref w_UNUSED), .val (.ref bv), .val (.int (4 : Int32)), .val (.int (0 : Int32)), .unset] [])) _
        refine XS.iload X16.here hx rfl (hb hby d1_15) rfl ?_
        show Steps p.tables e below (T16.setTop (mkF m 17 #[.val (.int p1), .val (.int p2), .val (.ref w_UNUSED), .val (.ref bv), .val (.int (4 : Int32)), .val (.int (0 : Int32)), .unset] [(.int (0 : Int32))])) _
        refine XS.iload X16.here hx rfl (hb hby d1_17) rfl ?_
        show Steps p.tables e below (T16.setTop (mkF m 19 #[.val (.int p1), .val (.int p2), .val (.ref w_UNUSED), .val (.ref bv), .val (.int (4 : Int32)), .val (.int (0 : Int32)), .unset] [(.int (4 : Int32)), (.int (0 : Int32))])) _
        refine XS.icmpNo X16.here hx rfl (hb hby d1_19) rfl (tlt (by decide : (0 : Int32) < (4 : Int32))).2.1 ?_
        show Steps p.tables e below (T16.setTop (mkF m 22 #[.val (.int p1), .val (.int p2), .val (.ref w_UNUSED), .val (.ref bv), .val (.int (4 : Int32)), .val (.int (0 : Int32)), .unset] [])) _
        refine XS.aloadN X16.here hx rfl (hb hby d1_22) rfl rfl ?_
        show Steps p.tables e below (T16.setTop (mkF m 23 #[.val (.int p1), .val (.int p2), .val (.ref w_UNUSED), .val (.ref bv), .val (.int (4 : Int32)), .val (.int (0 : Int32)), .unset] [(.ref bv)])) _
        refine XS.iload X16.here hx rfl (hb hby d1_23) rfl ?_
        show Steps p.tables e below (T16.setTop (mkF m 25 #[.val (.int p1), .val (.int p2), .val (.ref w_UNUSED), .val (.ref bv), .val (.int (4 : Int32)), .val (.int (0 : Int32)), .unset] [(.int (0 : Int32)), (.ref bv)])) _
        refine X16.aaload hx (j := (0 : Int32)) (v := (.ref w_UNUSED)) Ar18.1 (State.isArrayOf_alike hZ.alike Ar18.2.1) rfl Ar18.2.2 hin18 hat18 (g := (mkF m 25 #[.val (.int p1), .val (.int p2), .val (.ref w_UNUSED), .val (.ref bv), .val (.int (4 : Int32)), .val (.int (0 : Int32)), .unset] [(.int (0 : Int32)), (.ref bv)])) rfl rfl (hb hby d1_25) _ ?_
        show Steps p.tables e below (T16.setTop (mkF m 26 #[.val (.int p1), .val (.int p2), .val (.ref w_UNUSED), .val (.ref bv), .val (.int (4 : Int32)), .val (.int (0 : Int32)), .unset] [(.ref w_UNUSED)])) _
        refine XS.astore X16.here hx rfl (hb hby d1_26) rfl rfl (l' := #[.val (.int p1), .val (.int p2), .val (.ref w_UNUSED), .val (.ref bv), .val (.int (4 : Int32)), .val (.int (0 : Int32)), .val (.ref w_UNUSED)]) rfl ?_
        show Steps p.tables e below (T16.setTop (mkF m 28 #[.val (.int p1), .val (.int p2), .val (.ref w_UNUSED), .val (.ref bv), .val (.int (4 : Int32)), .val (.int (0 : Int32)), .val (.ref w_UNUSED)] [])) _
        refine XS.aload X16.here hx rfl (hb hby d1_28) rfl rfl ?_
        show Steps p.tables e below (T16.setTop (mkF m 30 #[.val (.int p1), .val (.int p2), .val (.ref w_UNUSED), .val (.ref bv), .val (.int (4 : Int32)), .val (.int (0 : Int32)), .val (.ref w_UNUSED)] [(.ref w_UNUSED)])) _
        refine st19 _ ?_
        show Steps p.tables e below (T19.setTop (mkF m 33 #[.val (.int p1), .val (.int p2), .val (.ref w_UNUSED), .val (.ref bv), .val (.int (4 : Int32)), .val (.int (0 : Int32)), .val (.ref w_UNUSED)] [(.int (0 : Int32))])) _
        refine XS.iloadN X19.here hx rfl (hb hby d1_33) rfl ?_
        show Steps p.tables e below (T19.setTop (mkF m 34 #[.val (.int p1), .val (.int p2), .val (.ref w_UNUSED), .val (.ref bv), .val (.int (4 : Int32)), .val (.int (0 : Int32)), .val (.ref w_UNUSED)] [(.int p1), (.int (0 : Int32))])) _
        refine XS.icmpNo X19.here hx rfl (hb hby d1_34) rfl (teq h1.symm).2 ?_
        show Steps p.tables e below (T19.setTop (mkF m 37 #[.val (.int p1), .val (.int p2), .val (.ref w_UNUSED), .val (.ref bv), .val (.int (4 : Int32)), .val (.int (0 : Int32)), .val (.ref w_UNUSED)] [])) _
        refine XS.aload X19.here hx rfl (hb hby d1_37) rfl rfl ?_
        show Steps p.tables e below (T19.setTop (mkF m 39 #[.val (.int p1), .val (.int p2), .val (.ref w_UNUSED), .val (.ref bv), .val (.int (4 : Int32)), .val (.int (0 : Int32)), .val (.ref w_UNUSED)] [(.ref w_UNUSED)])) _
        refine st20 _ ?_
        show Steps p.tables e below (T20.setTop (mkF m 42 #[.val (.int p1), .val (.int p2), .val (.ref w_UNUSED), .val (.ref bv), .val (.int (4 : Int32)), .val (.int (0 : Int32)), .val (.ref w_UNUSED)] [(.int (0 : Int32))])) _
        refine XS.iloadN X20.here hx rfl (hb hby d1_42) rfl ?_
        show Steps p.tables e below (T20.setTop (mkF m 43 #[.val (.int p1), .val (.int p2), .val (.ref w_UNUSED), .val (.ref bv), .val (.int (4 : Int32)), .val (.int (0 : Int32)), .val (.ref w_UNUSED)] [(.int p2), (.int (0 : Int32))])) _
        refine XS.icmpYes X20.here hx rfl (pc0 := 43) (pc' := 49) rfl (hb hby d1_43) rfl (feq (by rw [h2]; decide)).2 (by decide) (by decide) ?_
        show Steps p.tables e below (T20.setTop (mkF m 49 #[.val (.int p1), .val (.int p2), .val (.ref w_UNUSED), .val (.ref bv), .val (.int (4 : Int32)), .val (.int (0 : Int32)), .val (.ref w_UNUSED)] [])) _
        refine XS.iinc X20.here hx rfl (hb hby d1_49) rfl (l' := #[.val (.int p1), .val (.int p2), .val (.ref w_UNUSED), .val (.ref bv), .val (.int (4 : Int32)), .val (.int (1 : Int32)), .val (.ref w_UNUSED)]) rfl ?_
        show Steps p.tables e below (T20.setTop (mkF m 52 #[.val (.int p1), .val (.int p2), .val (.ref w_UNUSED), .val (.ref bv), .val (.int (4 : Int32)), .val (.int (1 : Int32)), .val (.ref w_UNUSED)] [])) _
        refine XS.goto X20.here hx rfl (pc0 := 52) (pc' := 15) rfl (hb hby d1_52) (by decide) (by decide) ?_
        show Steps p.tables e below (T20.setTop (mkF m 15 #[.val (.int p1), .val (.int p2), .val (.ref w_UNUSED), .val (.ref bv), .val (.int (4 : Int32)), .val (.int (1 : Int32)), .val (.ref w_UNUSED)] [])) _
        refine XS.iload X20.here hx rfl (hb hby d1_15) rfl ?_
        show Steps p.tables e below (T20.setTop (mkF m 17 #[.val (.int p1), .val (.int p2), .val (.ref w_UNUSED), .val (.ref bv), .val (.int (4 : Int32)), .val (.int (1 : Int32)), .val (.ref w_UNUSED)] [(.int (1 : Int32))])) _
        refine XS.iload X20.here hx rfl (hb hby d1_17) rfl ?_
        show Steps p.tables e below (T20.setTop (mkF m 19 #[.val (.int p1), .val (.int p2), .val (.ref w_UNUSED), .val (.ref bv), .val (.int (4 : Int32)), .val (.int (1 : Int32)), .val (.ref w_UNUSED)] [(.int (4 : Int32)), (.int (1 : Int32))])) _
        refine XS.icmpNo X20.here hx rfl (hb hby d1_19) rfl (tlt (by decide : (1 : Int32) < (4 : Int32))).2.1 ?_
        show Steps p.tables e below (T20.setTop (mkF m 22 #[.val (.int p1), .val (.int p2), .val (.ref w_UNUSED), .val (.ref bv), .val (.int (4 : Int32)), .val (.int (1 : Int32)), .val (.ref w_UNUSED)] [])) _
        refine XS.aloadN X20.here hx rfl (hb hby d1_22) rfl rfl ?_
        show Steps p.tables e below (T20.setTop (mkF m 23 #[.val (.int p1), .val (.int p2), .val (.ref w_UNUSED), .val (.ref bv), .val (.int (4 : Int32)), .val (.int (1 : Int32)), .val (.ref w_UNUSED)] [(.ref bv)])) _
        refine XS.iload X20.here hx rfl (hb hby d1_23) rfl ?_
        show Steps p.tables e below (T20.setTop (mkF m 25 #[.val (.int p1), .val (.int p2), .val (.ref w_UNUSED), .val (.ref bv), .val (.int (4 : Int32)), .val (.int (1 : Int32)), .val (.ref w_UNUSED)] [(.int (1 : Int32)), (.ref bv)])) _
        refine X20.aaload hx (j := (1 : Int32)) (v := (.ref w_CONSUMED)) (by rw [e20]; exact Ar21.1) (State.isArrayOf_alike hZ.alike Ar21.2.1) rfl Ar21.2.2 hin21 hat21 (g := (mkF m 25 #[.val (.int p1), .val (.int p2), .val (.ref w_UNUSED), .val (.ref bv), .val (.int (4 : Int32)), .val (.int (1 : Int32)), .val (.ref w_UNUSED)] [(.int (1 : Int32)), (.ref bv)])) rfl rfl (hb hby d1_25) _ ?_
        show Steps p.tables e below (T20.setTop (mkF m 26 #[.val (.int p1), .val (.int p2), .val (.ref w_UNUSED), .val (.ref bv), .val (.int (4 : Int32)), .val (.int (1 : Int32)), .val (.ref w_UNUSED)] [(.ref w_CONSUMED)])) _
        refine XS.astore X20.here hx rfl (hb hby d1_26) rfl rfl (l' := #[.val (.int p1), .val (.int p2), .val (.ref w_UNUSED), .val (.ref bv), .val (.int (4 : Int32)), .val (.int (1 : Int32)), .val (.ref w_CONSUMED)]) rfl ?_
        show Steps p.tables e below (T20.setTop (mkF m 28 #[.val (.int p1), .val (.int p2), .val (.ref w_UNUSED), .val (.ref bv), .val (.int (4 : Int32)), .val (.int (1 : Int32)), .val (.ref w_CONSUMED)] [])) _
        refine XS.aload X20.here hx rfl (hb hby d1_28) rfl rfl ?_
        show Steps p.tables e below (T20.setTop (mkF m 30 #[.val (.int p1), .val (.int p2), .val (.ref w_UNUSED), .val (.ref bv), .val (.int (4 : Int32)), .val (.int (1 : Int32)), .val (.ref w_CONSUMED)] [(.ref w_CONSUMED)])) _
        refine st22 _ ?_
        show Steps p.tables e below (T22.setTop (mkF m 33 #[.val (.int p1), .val (.int p2), .val (.ref w_UNUSED), .val (.ref bv), .val (.int (4 : Int32)), .val (.int (1 : Int32)), .val (.ref w_CONSUMED)] [(.int (1 : Int32))])) _
        refine XS.iloadN X22.here hx rfl (hb hby d1_33) rfl ?_
        show Steps p.tables e below (T22.setTop (mkF m 34 #[.val (.int p1), .val (.int p2), .val (.ref w_UNUSED), .val (.ref bv), .val (.int (4 : Int32)), .val (.int (1 : Int32)), .val (.ref w_CONSUMED)] [(.int p1), (.int (1 : Int32))])) _
        refine XS.icmpYes X22.here hx rfl (pc0 := 34) (pc' := 49) rfl (hb hby d1_34) rfl (feq (by rw [h1]; decide)).2 (by decide) (by decide) ?_
        show Steps p.tables e below (T22.setTop (mkF m 49 #[.val (.int p1), .val (.int p2), .val (.ref w_UNUSED), .val (.ref bv), .val (.int (4 : Int32)), .val (.int (1 : Int32)), .val (.ref w_CONSUMED)] [])) _
        refine XS.iinc X22.here hx rfl (hb hby d1_49) rfl (l' := #[.val (.int p1), .val (.int p2), .val (.ref w_UNUSED), .val (.ref bv), .val (.int (4 : Int32)), .val (.int (2 : Int32)), .val (.ref w_CONSUMED)]) rfl ?_
        show Steps p.tables e below (T22.setTop (mkF m 52 #[.val (.int p1), .val (.int p2), .val (.ref w_UNUSED), .val (.ref bv), .val (.int (4 : Int32)), .val (.int (2 : Int32)), .val (.ref w_CONSUMED)] [])) _
        refine XS.goto X22.here hx rfl (pc0 := 52) (pc' := 15) rfl (hb hby d1_52) (by decide) (by decide) ?_
        show Steps p.tables e below (T22.setTop (mkF m 15 #[.val (.int p1), .val (.int p2), .val (.ref w_UNUSED), .val (.ref bv), .val (.int (4 : Int32)), .val (.int (2 : Int32)), .val (.ref w_CONSUMED)] [])) _
        refine XS.iload X22.here hx rfl (hb hby d1_15) rfl ?_
        show Steps p.tables e below (T22.setTop (mkF m 17 #[.val (.int p1), .val (.int p2), .val (.ref w_UNUSED), .val (.ref bv), .val (.int (4 : Int32)), .val (.int (2 : Int32)), .val (.ref w_CONSUMED)] [(.int (2 : Int32))])) _
        refine XS.iload X22.here hx rfl (hb hby d1_17) rfl ?_
        show Steps p.tables e below (T22.setTop (mkF m 19 #[.val (.int p1), .val (.int p2), .val (.ref w_UNUSED), .val (.ref bv), .val (.int (4 : Int32)), .val (.int (2 : Int32)), .val (.ref w_CONSUMED)] [(.int (4 : Int32)), (.int (2 : Int32))])) _
        refine XS.icmpNo X22.here hx rfl (hb hby d1_19) rfl (tlt (by decide : (2 : Int32) < (4 : Int32))).2.1 ?_
        show Steps p.tables e below (T22.setTop (mkF m 22 #[.val (.int p1), .val (.int p2), .val (.ref w_UNUSED), .val (.ref bv), .val (.int (4 : Int32)), .val (.int (2 : Int32)), .val (.ref w_CONSUMED)] [])) _
        refine XS.aloadN X22.here hx rfl (hb hby d1_22) rfl rfl ?_
        show Steps p.tables e below (T22.setTop (mkF m 23 #[.val (.int p1), .val (.int p2), .val (.ref w_UNUSED), .val (.ref bv), .val (.int (4 : Int32)), .val (.int (2 : Int32)), .val (.ref w_CONSUMED)] [(.ref bv)])) _
        refine XS.iload X22.here hx rfl (hb hby d1_23) rfl ?_
        show Steps p.tables e below (T22.setTop (mkF m 25 #[.val (.int p1), .val (.int p2), .val (.ref w_UNUSED), .val (.ref bv), .val (.int (4 : Int32)), .val (.int (2 : Int32)), .val (.ref w_CONSUMED)] [(.int (2 : Int32)), (.ref bv)])) _
        refine X22.aaload hx (j := (2 : Int32)) (v := (.ref w_PRODUCED)) (by rw [e22]; exact Ar23.1) (State.isArrayOf_alike hZ.alike Ar23.2.1) rfl Ar23.2.2 hin23 hat23 (g := (mkF m 25 #[.val (.int p1), .val (.int p2), .val (.ref w_UNUSED), .val (.ref bv), .val (.int (4 : Int32)), .val (.int (2 : Int32)), .val (.ref w_CONSUMED)] [(.int (2 : Int32)), (.ref bv)])) rfl rfl (hb hby d1_25) _ ?_
        show Steps p.tables e below (T22.setTop (mkF m 26 #[.val (.int p1), .val (.int p2), .val (.ref w_UNUSED), .val (.ref bv), .val (.int (4 : Int32)), .val (.int (2 : Int32)), .val (.ref w_CONSUMED)] [(.ref w_PRODUCED)])) _
        refine XS.astore X22.here hx rfl (hb hby d1_26) rfl rfl (l' := #[.val (.int p1), .val (.int p2), .val (.ref w_UNUSED), .val (.ref bv), .val (.int (4 : Int32)), .val (.int (2 : Int32)), .val (.ref w_PRODUCED)]) rfl ?_
        show Steps p.tables e below (T22.setTop (mkF m 28 #[.val (.int p1), .val (.int p2), .val (.ref w_UNUSED), .val (.ref bv), .val (.int (4 : Int32)), .val (.int (2 : Int32)), .val (.ref w_PRODUCED)] [])) _
        refine XS.aload X22.here hx rfl (hb hby d1_28) rfl rfl ?_
        show Steps p.tables e below (T22.setTop (mkF m 30 #[.val (.int p1), .val (.int p2), .val (.ref w_UNUSED), .val (.ref bv), .val (.int (4 : Int32)), .val (.int (2 : Int32)), .val (.ref w_PRODUCED)] [(.ref w_PRODUCED)])) _
        refine st24 _ ?_
        show Steps p.tables e below (T24.setTop (mkF m 33 #[.val (.int p1), .val (.int p2), .val (.ref w_UNUSED), .val (.ref bv), .val (.int (4 : Int32)), .val (.int (2 : Int32)), .val (.ref w_PRODUCED)] [(.int (0 : Int32))])) _
        refine XS.iloadN X24.here hx rfl (hb hby d1_33) rfl ?_
        show Steps p.tables e below (T24.setTop (mkF m 34 #[.val (.int p1), .val (.int p2), .val (.ref w_UNUSED), .val (.ref bv), .val (.int (4 : Int32)), .val (.int (2 : Int32)), .val (.ref w_PRODUCED)] [(.int p1), (.int (0 : Int32))])) _
        refine XS.icmpNo X24.here hx rfl (hb hby d1_34) rfl (teq h1.symm).2 ?_
        show Steps p.tables e below (T24.setTop (mkF m 37 #[.val (.int p1), .val (.int p2), .val (.ref w_UNUSED), .val (.ref bv), .val (.int (4 : Int32)), .val (.int (2 : Int32)), .val (.ref w_PRODUCED)] [])) _
        refine XS.aload X24.here hx rfl (hb hby d1_37) rfl rfl ?_
        show Steps p.tables e below (T24.setTop (mkF m 39 #[.val (.int p1), .val (.int p2), .val (.ref w_UNUSED), .val (.ref bv), .val (.int (4 : Int32)), .val (.int (2 : Int32)), .val (.ref w_PRODUCED)] [(.ref w_PRODUCED)])) _
        refine st25 _ ?_
        show Steps p.tables e below (T25.setTop (mkF m 42 #[.val (.int p1), .val (.int p2), .val (.ref w_UNUSED), .val (.ref bv), .val (.int (4 : Int32)), .val (.int (2 : Int32)), .val (.ref w_PRODUCED)] [(.int (1 : Int32))])) _
        refine XS.iloadN X25.here hx rfl (hb hby d1_42) rfl ?_
        show Steps p.tables e below (T25.setTop (mkF m 43 #[.val (.int p1), .val (.int p2), .val (.ref w_UNUSED), .val (.ref bv), .val (.int (4 : Int32)), .val (.int (2 : Int32)), .val (.ref w_PRODUCED)] [(.int p2), (.int (1 : Int32))])) _
        refine XS.icmpNo X25.here hx rfl (hb hby d1_43) rfl (teq h2.symm).2 ?_
        show Steps p.tables e below (T25.setTop (mkF m 46 #[.val (.int p1), .val (.int p2), .val (.ref w_UNUSED), .val (.ref bv), .val (.int (4 : Int32)), .val (.int (2 : Int32)), .val (.ref w_PRODUCED)] [])) _
        refine XS.aload X25.here hx rfl (hb hby d1_46) rfl rfl ?_
        show Steps p.tables e below (T25.setTop (mkF m 48 #[.val (.int p1), .val (.int p2), .val (.ref w_UNUSED), .val (.ref bv), .val (.int (4 : Int32)), .val (.int (2 : Int32)), .val (.ref w_PRODUCED)] [(.ref w_PRODUCED)])) _
        refine XS.astoreN X25.here hx rfl (hb hby d1_48) rfl rfl (l' := #[.val (.int p1), .val (.int p2), .val (.ref w_PRODUCED), .val (.ref bv), .val (.int (4 : Int32)), .val (.int (2 : Int32)), .val (.ref w_PRODUCED)]) rfl ?_
        show Steps p.tables e below (T25.setTop (mkF m 49 #[.val (.int p1), .val (.int p2), .val (.ref w_PRODUCED), .val (.ref bv), .val (.int (4 : Int32)), .val (.int (2 : Int32)), .val (.ref w_PRODUCED)] [])) _
        refine XS.iinc X25.here hx rfl (hb hby d1_49) rfl (l' := #[.val (.int p1), .val (.int p2), .val (.ref w_PRODUCED), .val (.ref bv), .val (.int (4 : Int32)), .val (.int (3 : Int32)), .val (.ref w_PRODUCED)]) rfl ?_
        show Steps p.tables e below (T25.setTop (mkF m 52 #[.val (.int p1), .val (.int p2), .val (.ref w_PRODUCED), .val (.ref bv), .val (.int (4 : Int32)), .val (.int (3 : Int32)), .val (.ref w_PRODUCED)] [])) _
        refine XS.goto X25.here hx rfl (pc0 := 52) (pc' := 15) rfl (hb hby d1_52) (by decide) (by decide) ?_
        show Steps p.tables e below (T25.setTop (mkF m 15 #[.val (.int p1), .val (.int p2), .val (.ref w_PRODUCED), .val (.ref bv), .val (.int (4 : Int32)), .val (.int (3 : Int32)), .val (.ref w_PRODUCED)] [])) _
        refine XS.iload X25.here hx rfl (hb hby d1_15) rfl ?_
        show Steps p.tables e below (T25.setTop (mkF m 17 #[.val (.int p1), .val (.int p2), .val (.ref w_PRODUCED), .val (.ref bv), .val (.int (4 : Int32)), .val (.int (3 : Int32)), .val (.ref w_PRODUCED)] [(.int (3 : Int32))])) _
        refine XS.iload X25.here hx rfl (hb hby d1_17) rfl ?_
        show Steps p.tables e below (T25.setTop (mkF m 19 #[.val (.int p1), .val (.int p2), .val (.ref w_PRODUCED), .val (.ref bv), .val (.int (4 : Int32)), .val (.int (3 : Int32)), .val (.ref w_PRODUCED)] [(.int (4 : Int32)), (.int (3 : Int32))])) _
        refine XS.icmpNo X25.here hx rfl (hb hby d1_19) rfl (tlt (by decide : (3 : Int32) < (4 : Int32))).2.1 ?_
        show Steps p.tables e below (T25.setTop (mkF m 22 #[.val (.int p1), .val (.int p2), .val (.ref w_PRODUCED), .val (.ref bv), .val (.int (4 : Int32)), .val (.int (3 : Int32)), .val (.ref w_PRODUCED)] [])) _
        refine XS.aloadN X25.here hx rfl (hb hby d1_22) rfl rfl ?_
        show Steps p.tables e below (T25.setTop (mkF m 23 #[.val (.int p1), .val (.int p2), .val (.ref w_PRODUCED), .val (.ref bv), .val (.int (4 : Int32)), .val (.int (3 : Int32)), .val (.ref w_PRODUCED)] [(.ref bv)])) _
        refine XS.iload X25.here hx rfl (hb hby d1_23) rfl ?_
        show Steps p.tables e below (T25.setTop (mkF m 25 #[.val (.int p1), .val (.int p2), .val (.ref w_PRODUCED), .val (.ref bv), .val (.int (4 : Int32)), .val (.int (3 : Int32)), .val (.ref w_PRODUCED)] [(.int (3 : Int32)), (.ref bv)])) _
        refine X25.aaload hx (j := (3 : Int32)) (v := (.ref w_BOTH)) (by rw [e25]; exact Ar26.1) (State.isArrayOf_alike hZ.alike Ar26.2.1) rfl Ar26.2.2 hin26 hat26 (g := (mkF m 25 #[.val (.int p1), .val (.int p2), .val (.ref w_PRODUCED), .val (.ref bv), .val (.int (4 : Int32)), .val (.int (3 : Int32)), .val (.ref w_PRODUCED)] [(.int (3 : Int32)), (.ref bv)])) rfl rfl (hb hby d1_25) _ ?_
        show Steps p.tables e below (T25.setTop (mkF m 26 #[.val (.int p1), .val (.int p2), .val (.ref w_PRODUCED), .val (.ref bv), .val (.int (4 : Int32)), .val (.int (3 : Int32)), .val (.ref w_PRODUCED)] [(.ref w_BOTH)])) _
        refine XS.astore X25.here hx rfl (hb hby d1_26) rfl rfl (l' := #[.val (.int p1), .val (.int p2), .val (.ref w_PRODUCED), .val (.ref bv), .val (.int (4 : Int32)), .val (.int (3 : Int32)), .val (.ref w_BOTH)]) rfl ?_
        show Steps p.tables e below (T25.setTop (mkF m 28 #[.val (.int p1), .val (.int p2), .val (.ref w_PRODUCED), .val (.ref bv), .val (.int (4 : Int32)), .val (.int (3 : Int32)), .val (.ref w_BOTH)] [])) _
        refine XS.aload X25.here hx rfl (hb hby d1_28) rfl rfl ?_
        show Steps p.tables e below (T25.setTop (mkF m 30 #[.val (.int p1), .val (.int p2), .val (.ref w_PRODUCED), .val (.ref bv), .val (.int (4 : Int32)), .val (.int (3 : Int32)), .val (.ref w_BOTH)] [(.ref w_BOTH)])) _
        refine st27 _ ?_
        show Steps p.tables e below (T27.setTop (mkF m 33 #[.val (.int p1), .val (.int p2), .val (.ref w_PRODUCED), .val (.ref bv), .val (.int (4 : Int32)), .val (.int (3 : Int32)), .val (.ref w_BOTH)] [(.int (1 : Int32))])) _
        refine XS.iloadN X27.here hx rfl (hb hby d1_33) rfl ?_
        show Steps p.tables e below (T27.setTop (mkF m 34 #[.val (.int p1), .val (.int p2), .val (.ref w_PRODUCED), .val (.ref bv), .val (.int (4 : Int32)), .val (.int (3 : Int32)), .val (.ref w_BOTH)] [(.int p1), (.int (1 : Int32))])) _
        refine XS.icmpYes X27.here hx rfl (pc0 := 34) (pc' := 49) rfl (hb hby d1_34) rfl (feq (by rw [h1]; decide)).2 (by decide) (by decide) ?_
        show Steps p.tables e below (T27.setTop (mkF m 49 #[.val (.int p1), .val (.int p2), .val (.ref w_PRODUCED), .val (.ref bv), .val (.int (4 : Int32)), .val (.int (3 : Int32)), .val (.ref w_BOTH)] [])) _
        refine XS.iinc X27.here hx rfl (hb hby d1_49) rfl (l' := #[.val (.int p1), .val (.int p2), .val (.ref w_PRODUCED), .val (.ref bv), .val (.int (4 : Int32)), .val (.int (4 : Int32)), .val (.ref w_BOTH)]) rfl ?_
        show Steps p.tables e below (T27.setTop (mkF m 52 #[.val (.int p1), .val (.int p2), .val (.ref w_PRODUCED), .val (.ref bv), .val (.int (4 : Int32)), .val (.int (4 : Int32)), .val (.ref w_BOTH)] [])) _
        refine XS.goto X27.here hx rfl (pc0 := 52) (pc' := 15) rfl (hb hby d1_52) (by decide) (by decide) ?_
        show Steps p.tables e below (T27.setTop (mkF m 15 #[.val (.int p1), .val (.int p2), .val (.ref w_PRODUCED), .val (.ref bv), .val (.int (4 : Int32)), .val (.int (4 : Int32)), .val (.ref w_BOTH)] [])) _
        refine XS.iload X27.here hx rfl (hb hby d1_15) rfl ?_
        show Steps p.tables e below (T27.setTop (mkF m 17 #[.val (.int p1), .val (.int p2), .val (.ref w_PRODUCED), .val (.ref bv), .val (.int (4 : Int32)), .val (.int (4 : Int32)), .val (.ref w_BOTH)] [(.int (4 : Int32))])) _
        refine XS.iload X27.here hx rfl (hb hby d1_17) rfl ?_
        show Steps p.tables e below (T27.setTop (mkF m 19 #[.val (.int p1), .val (.int p2), .val (.ref w_PRODUCED), .val (.ref bv), .val (.int (4 : Int32)), .val (.int (4 : Int32)), .val (.ref w_BOTH)] [(.int (4 : Int32)), (.int (4 : Int32))])) _
        refine XS.icmpYes X27.here hx rfl (pc0 := 19) (pc' := 55) rfl (hb hby d1_19) rfl (flt (by decide : ¬ ((4 : Int32) < (4 : Int32)))).2.1 (by decide) (by decide) ?_
        show Steps p.tables e below (T27.setTop (mkF m 55 #[.val (.int p1), .val (.int p2), .val (.ref w_PRODUCED), .val (.ref bv), .val (.int (4 : Int32)), .val (.int (4 : Int32)), .val (.ref w_BOTH)] [])) _
        refine XS.aloadN X27.here hx rfl (hb hby d1_55) rfl rfl ?_
        exact kt
      obtain ⟨fs, hr, hrun, hended, hW, hsame⟩ := X27.leave (v := some (.ref w_PRODUCED)) (fun h => by rw [Bd.returns] at h; cases h)
      refine ⟨_, _, pre28 _ ?_, hrun, hended, _, _, rfl, ?_, ⟨_, rfl⟩, hW, hsame.mono (by decide) (by decide)⟩
      · show Steps p.tables e below (T27.setTop (mkF m 56 #[.val (.int p1), .val (.int p2), .val (.ref w_PRODUCED), .val (.ref bv), .val (.int (4 : Int32)), .val (.int (4 : Int32)), .val (.ref w_BOTH)] [(.ref w_PRODUCED)])) _
        jvm_step X27.here [X27.here.top, hx, (hb hby d1_56), X27.method', Bd.returns, Value.isRef, FieldType.isReference]
        first | (intro acts; rw [hr _ acts rfl rfl rfl]) | rw [hr _ _ rfl rfl rfl]
        exact Steps.refl _
      · show QO Z r h0 n0 _ T27.heap _
        rw [e27]
        exact ⟨by rw [hr0]; simp [h1, h2], N16, Ex16⟩
  · rcases h2 with h2 | h2
    · have hz : True := trivial
      obtain ⟨bv, hbv⟩ : ∃ z, z = h0.size := ⟨_, rfl⟩
      obtain ⟨_, _, ⟨T29, L29, k29, n29⟩, -, X29, ⟨Lc29, hQ29, l29, y29, z29⟩, st29⟩ := Jvm.LawKit.callS X1 hx (y := (⟨"com/example/driftwell/driftwell/Roles$Role", "values", "()[Lcom/example/driftwell/driftwell/Roles$Role;"⟩ : MethodName)) hown (mvT hZ (hw _ (List.mem_of_getElem? (i := 7) rfl))) (mvT hZ (hw _ (List.mem_of_getElem? (i := 8) rfl))) (mvT hZ (hw _ (List.mem_of_getElem? (i := 1) rfl))) (mvT hZ (hw _ (List.mem_of_getElem? (i := 9) rfl))) (by decide) (backOf (W := 0) (rm_values l Z a0 hw [] w_VALUES kV w_UNUSED w_CONSUMED w_PRODUCED w_BOTH bv h0 n0 Z0 S_VALUES V_VALUES E_VALUES hbv) hZ (hw _ (List.mem_of_getElem? (i := 9) rfl)) (hw _ (List.mem_of_getElem? (i := 1) rfl)) (by decide) (by decide)) (g := (mkF m 4 #[.val (.int p1), .val (.int p2), .val (.ref w_UNUSED), .unset, .unset, .unset, .unset] [])) rfl (by rw [hml]; rfl) (argsL := []) (rest := []) (lenOf pd_rm_of_0 rfl) rfl (by show 2 * 0 + _ ≤ _; exact Nat.le_of_eq rfl) (hb hby d1_4) (fun _ _ => ⟨rfl, e1, (by decide : 0 + 1 ≤ _), (by decide : 0 + 4 ≤ _)⟩)
      dsimp only [Pt.U, Pt.locs, Pt.cells, Pt.slots] at X29 l29 y29 z29 st29 hQ29
      subst l29 y29 z29
      obtain ⟨rfl, N29q, Ex29, V29⟩ := hQ29
      have N29 := Fr.app N0 N29q
      have VO30 := V29
      obtain ⟨cl30, Ar30, q30, S30, M30, H30, G30⟩ := VO30
      have VO31 := V29
      obtain ⟨cl31, Ar31, q31, S31, M31, H31, G31⟩ := VO31
      have hin31 : ¬ ((0 : Int32) < 0 ∨ cl31.slots.size ≤ ((0 : Int32)).toNatClampNeg) := inb_of S31 ⟨by decide, by decide⟩
      have hat31 : cl31.slots[((0 : Int32)).toNatClampNeg]? = some (.ref w_UNUSED) := H31.at hin31 rfl
      obtain ⟨T32, X32, e32, st32⟩ := getF X29 hx hZ hown (host := "") (Or.inl (hw _ (List.mem_of_getElem? (i := 25) rfl))) Via.refl rfl (Fld.ext Ex29 F_UNUSED_consumed) (g := (mkF m 30 #[.val (.int p1), .val (.int p2), .val (.ref w_UNUSED), .val (.ref bv), .val (.int (4 : Int32)), .val (.int (0 : Int32)), .val (.ref w_UNUSED)] [(.ref w_UNUSED)])) rfl rfl (hb hby d1_30)
      have VO33 := V29
      obtain ⟨cl33, Ar33, q33, S33, M33, H33, G33⟩ := VO33
      have hin33 : ¬ ((1 : Int32) < 0 ∨ cl33.slots.size ≤ ((1 : Int32)).toNatClampNeg) := inb_of S33 ⟨by decide, by decide⟩
      have hat33 : cl33.slots[((1 : Int32)).toNatClampNeg]? = some (.ref w_CONSUMED) := H33.at hin33 rfl
      obtain ⟨T34, X34, e34, st34⟩ := getF X32 hx hZ hown (host := "") (Or.inl (hw _ (List.mem_of_getElem? (i := 25) rfl))) Via.refl e32 (Fld.ext Ex29 F_CONSUMED_consumed) (g := (mkF m 30 #[.val (.int p1), .val (.int p2), .val (.ref w_UNUSED), .val (.ref bv), .val (.int (4 : Int32)), .val (.int (1 : Int32)), .val (.ref w_CONSUMED)] [(.ref w_CONSUMED)])) rfl rfl (hb hby d1_30)
      obtain ⟨T35, X35, e35, st35⟩ := getF X34 hx hZ hown (host := "") (Or.inl (hw _ (List.mem_of_getElem? (i := 27) rfl))) Via.refl e34 (Fld.ext Ex29 F_CONSUMED_produced) (g := (mkF m 39 #[.val (.int p1), .val (.int p2), .val (.ref w_UNUSED), .val (.ref bv), .val (.int (4 : Int32)), .val (.int (1 : Int32)), .val (.ref w_CONSUMED)] [(.ref w_CONSUMED)])) rfl rfl (hb hby d1_39)
      have VO36 := V29
      obtain ⟨cl36, Ar36, q36, S36, M36, H36, G36⟩ := VO36
      have hin36 : ¬ ((2 : Int32) < 0 ∨ cl36.slots.size ≤ ((2 : Int32)).toNatClampNeg) := inb_of S36 ⟨by decide, by decide⟩
      have hat36 : cl36.slots[((2 : Int32)).toNatClampNeg]? = some (.ref w_PRODUCED) := H36.at hin36 rfl
      obtain ⟨T37, X37, e37, st37⟩ := getF X35 hx hZ hown (host := "") (Or.inl (hw _ (List.mem_of_getElem? (i := 25) rfl))) Via.refl e35 (Fld.ext Ex29 F_PRODUCED_consumed) (g := (mkF m 30 #[.val (.int p1), .val (.int p2), .val (.ref w_CONSUMED), .val (.ref bv), .val (.int (4 : Int32)), .val (.int (2 : Int32)), .val (.ref w_PRODUCED)] [(.ref w_PRODUCED)])) rfl rfl (hb hby d1_30)
      have VO38 := V29
      obtain ⟨cl38, Ar38, q38, S38, M38, H38, G38⟩ := VO38
      have hin38 : ¬ ((3 : Int32) < 0 ∨ cl38.slots.size ≤ ((3 : Int32)).toNatClampNeg) := inb_of S38 ⟨by decide, by decide⟩
      have hat38 : cl38.slots[((3 : Int32)).toNatClampNeg]? = some (.ref w_BOTH) := H38.at hin38 rfl
      obtain ⟨T39, X39, e39, st39⟩ := getF X37 hx hZ hown (host := "") (Or.inl (hw _ (List.mem_of_getElem? (i := 25) rfl))) Via.refl e37 (Fld.ext Ex29 F_BOTH_consumed) (g := (mkF m 30 #[.val (.int p1), .val (.int p2), .val (.ref w_CONSUMED), .val (.ref bv), .val (.int (4 : Int32)), .val (.int (3 : Int32)), .val (.ref w_BOTH)] [(.ref w_BOTH)])) rfl rfl (hb hby d1_30)
      obtain ⟨T40, X40, e40, st40⟩ := getF X39 hx hZ hown (host := "") (Or.inl (hw _ (List.mem_of_getElem? (i := 27) rfl))) Via.refl e39 (Fld.ext Ex29 F_BOTH_produced) (g := (mkF m 39 #[.val (.int p1), .val (.int p2), .val (.ref w_CONSUMED), .val (.ref bv), .val (.int (4 : Int32)), .val (.int (3 : Int32)), .val (.ref w_BOTH)] [(.ref w_BOTH)])) rfl rfl (hb hby d1_39)
      have pre41 : ∀ tt, Steps p.tables e below (T40.setTop (mkF m 56 #[.val (.int p1), .val (.int p2), .val (.ref w_CONSUMED), .val (.ref bv), .val (.int (4 : Int32)), .val (.int (4 : Int32)), .val (.ref w_BOTH)] [(.ref w_CONSUMED)])) tt → Steps p.tables e below (s₁.setTop (entryFrame m #[(.int p1), (.int p2)] 7)) tt := by
        intro tt kt
        refine pre2 tt ?_
        show Steps p.tables e below (T1.setTop (mkF m 4 #[.val (.int p1), .val (.int p2), .val (.ref w_UNUSED), .unset, .unset, .unset, .unset] [])) _
        refine st29 _ ?_
        show Steps p.tables e below (T29.setTop (mkF m 7 #[.val (.int p1), .val (.int p2), .val (.ref w_UNUSED), .unset, .unset, .unset, .unset] [(.ref bv)])) _
        refine XS.astoreN X29.here hx rfl (hb hby d1_7) rfl rfl (l' := #[.val (.int p1), .val (.int p2), .val (.ref w_UNUSED), .val (.ref bv), .unset, .unset, .unset]) rfl ?_
        show Steps p.tables e below (T29.setTop (mkF m 8 #[.val (.int p1), .val (.int p2), .val (.ref w_UNUSED), .val (.ref bv), .unset, .unset, .unset] [])) _
        refine XS.aloadN X29.here hx rfl (hb hby d1_8) rfl rfl ?_
        show Steps p.tables e below (T29.setTop (mkF m 9 #[.val (.int p1), .val (.int p2), .val (.ref w_UNUSED), .val (.ref bv), .unset, .unset, .unset] [(.ref bv)])) _
        refine X29.arraylength hx Ar30.1 (State.isArrayOf_alike hZ.alike Ar30.2.1) (g := (mkF m 9 #[.val (.int p1), .val (.int p2), .val (.ref w_UNUSED), .val (.ref bv), .unset, .unset, .unset] [(.ref bv)])) rfl rfl (hb hby d1_9) _ ?_
        rw [len_of S30 M30]
        show Steps p.tables e below (T29.setTop (mkF m 10 #[.val (.int p1), .val (.int p2), .val (.ref w_UNUSED), .val (.ref bv), .unset, .unset, .unset] [(.int (4 : Int32))])) _
        refine XS.istore X29.here hx rfl (hb hby d1_10) rfl (l' := #[.val (.int p1), .val (.int p2), .val (.ref w_UNUSED), .val (.ref bv), .val (.int (4 : Int32)), .unset, .unset]) rfl ?_
        show Steps p.tables e below (T29.setTop (mkF m 12 #[.val (.int p1), .val (.int p2), .val (.ref w_UNUSED), .val (.ref bv), .val (.int (4 : Int32)), .unset, .unset] [])) _
        refine XS.iconst X29.here hx rfl (hb hby d1_12) ?_
        show Steps p.tables e below (T29.setTop (mkF m 13 #[.val (.int p1), .val (.int p2), .val (.ref w_UNUSED), .val (.ref bv), .val (.int (4 : Int32)), .unset, .unset] [(.int (0 : Int32))])) _
        refine XS.istore X29.here hx rfl (hb hby d1_13) rfl (l' := #[.val (.int p1), .val (.int p2), .val (.ref w_UNUSED), .val (.ref bv), .val (.int (4 : Int32)), .val (.int (0 : Int32)), .unset]) rfl ?_
        show Steps p.tables e below (T29.setTop (mkF m 15 #[.val (.int p1), .val (.int p2), .val (.ref w_UNUSED), .val (.ref bv), .val (.int (4 : Int32)), .val (.int (0 : Int32)), .unset] [])) _
        refine XS.iload X29.here hx rfl (hb hby d1_15) rfl ?_
        show Steps p.tables e below (T29.setTop (mkF m 17 #[.val (.int p1), .val (.int p2), .val (.ref w_UNUSED), .val (.ref bv), .val (.int (4 : Int32)), .val (.int (0 : Int32)), .unset] [(.int (0 : Int32))])) _
        refine XS.iload X29.here hx rfl (hb hby d1_17) rfl ?_
        show Steps p.tables e below (T29.setTop (mkF m 19 #[.val (.int p1), .val (.int p2), .val (.ref w_UNUSED), .val (.ref bv), .val (.int (4 : Int32)), .val (.int (0 : Int32)), .unset] [(.int (4 : Int32)), (.int (0 : Int32))])) _
        refine XS.icmpNo X29.here hx rfl (hb hby d1_19) rfl (tlt (by decide : (0 : Int32) < (4 : Int32))).2.1 ?_
        show Steps p.tables e below (T29.setTop (mkF m 22 #[.val (.int p1), .val (.int p2), .val (.ref w_UNUSED), .val (.ref bv), .val (.int (4 : Int32)), .val (.int (0 : Int32)), .unset] [])) _
        refine XS.aloadN X29.here hx rfl (hb hby d1_22) rfl rfl ?_
        show Steps p.tables e below (T29.setTop (mkF m 23 #[.val (.int p1), .val (.int p2), .val (.ref w_UNUSED), .val (.ref bv), .val (.int (4 : Int32)), .val (.int (0 : Int32)), .unset] [(.ref bv)])) _
        refine XS.iload X29.here hx rfl (hb hby d1_23) rfl ?_
        show Steps p.tables e below (T29.setTop (mkF m 25 #[.val (.int p1), .val (.int p2), .val (.ref w_UNUSED), .val (.ref bv), .val (.int (4 : Int32)), .val (.int (0 : Int32)), .unset] [(.int (0 : Int32)), (.ref bv)])) _
        refine X29.aaload hx (j := (0 : Int32)) (v := (.ref w_UNUSED)) Ar31.1 (State.isArrayOf_alike hZ.alike Ar31.2.1) rfl Ar31.2.2 hin31 hat31 (g := (mkF m 25 #[.val (.int p1), .val (.int p2), .val (.ref w_UNUSED), .val (.ref bv), .val (.int (4 : Int32)), .val (.int (0 : Int32)), .unset] [(.int (0 : Int32)), (.ref bv)])) rfl rfl (hb hby d1_25) _ ?_
        show Steps p.tables e below (T29.setTop (mkF m 26 #[.val (.int p1), .val (.int p2), .val (.ref w_UNUSED), .val (.ref bv), .val (.int (4 : Int32)), .val (.int (0 : Int32)), .unset] [(.ref w_UNUSED)])) _
        refine XS.astore X29.here hx rfl (hb hby d1_26) rfl rfl (l' := #[.val (.int p1), .val (.int p2), .val (.ref w_UNUSED), .val (.ref bv), .val (.int (4 : Int32)), .val (.int (0 : Int32)), .val (.ref w_UNUSED)]) rfl ?_
        show Steps p.tables e below (T29.setTop (mkF m 28 #[.val (.int p1), .val (.int p2), .val (.ref w_UNUSED), .val (.ref bv), .val (.int (4 : Int32)), .val (.int (0 : Int32)), .val (.ref w_UNUSED)] [])) _
        refine XS.aload X29.here hx rfl (hb hby d1_28) rfl rfl ?_
        show Steps p.tables e below (T29.setTop (mkF m 30 #[.val (.int p1), .val (.int p2), .val (.ref w_UNUSED), .val (.ref bv), .val (.int (4 : Int32)), .val (.int (0 : Int32)), .val (.ref w_UNUSED)] [(.ref w_UNUSED)])) _
        refine st32 _ ?_
        show Steps p.tables e below (T32.setTop (mkF m 33 #[.val (.int p1), .val (.int p2), .val (.ref w_UNUSED), .val (.ref bv), .val (.int (4 : Int32)), .val (.int (0 : Int32)), .val (.ref w_UNUSED)] [(.int (0 : Int32))])) _
        refine XS.iloadN X32.here hx rfl (hb hby d1_33) rfl ?_
        show Steps p.tables e below (T32.setTop (mkF m 34 #[.val (.int p1), .val (.int p2), .val (.ref w_UNUSED), .val (.ref bv), .val (.int (4 : Int32)), .val (.int (0 : Int32)), .val (.ref w_UNUSED)] [(.int p1), (.int (0 : Int32))])) _
        refine XS.icmpYes X32.here hx rfl (pc0 := 34) (pc' := 49) rfl (hb hby d1_34) rfl (feq (by rw [h1]; decide)).2 (by decide) (by decide) ?_
        show Steps p.tables e below (T32.setTop (mkF m 49 #[.val (.int p1), .val (.int p2), .val (.ref w_UNUSED), .val (.ref bv), .val (.int (4 : Int32)), .val (.int (0 : Int32)), .val (.ref w_UNUSED)] [])) _
        refine XS.iinc X32.here hx rfl (hb hby d1_49) rfl (l' := #[.val (.int p1), .val (.int p2), .val (.ref w_UNUSED), .val (.ref bv), .val (.int (4 : Int32)), .val (.int (1 : Int32)), .val (.ref w_UNUSED)]) rfl ?_
        show Steps p.tables e below (T32.setTop (mkF m 52 #[.val (.int p1), .val (.int p2), .val (.ref w_UNUSED), .val (.ref bv), .val (.int (4 : Int32)), .val (.int (1 : Int32)), .val (.ref w_UNUSED)] [])) _
        refine XS.goto X32.here hx rfl (pc0 := 52) (pc' := 15) rfl (hb hby d1_52) (by decide) (by decide) ?_
        show Steps p.tables e below (T32.setTop (mkF m 15 #[.val (.int p1), .val (.int p2), .val (.ref w_UNUSED), .val (.ref bv), .val (.int (4 : Int32)), .val (.int (1 : Int32)), .val (.ref w_UNUSED)] [])) _
        refine XS.iload X32.here hx rfl (hb hby d1_15) rfl ?_
        show Steps p.tables e below (T32.setTop (mkF m 17 #[.val (.int p1), .val (.int p2), .val (.ref w_UNUSED), .val (.ref bv), .val (.int (4 : Int32)), .val (.int (1 : Int32)), .val (.ref w_UNUSED)] [(.int (1 : Int32))])) _
        refine XS.iload X32.here hx rfl (hb hby d1_17) rfl ?_
        show Steps p.tables e below (T32.setTop (mkF m 19 #[.val (.int p1), .val (.int p2), .val (.ref w_UNUSED), .val (.ref bv), .val (.int (4 : Int32)), .val (.int (1 : Int32)), .val (.ref w_UNUSED)] [(.int (4 : Int32)), (.int (1 : Int32))])) _
        refine XS.icmpNo X32.here hx rfl (hb hby d1_19) rfl (tlt (by decide : (1 : Int32) < (4 : Int32))).2.1 ?_
        show Steps p.tables e below (T32.setTop (mkF m 22 #[.val (.int p1), .val (.int p2), .val (.ref w_UNUSED), .val (.ref bv), .val (.int (4 : Int32)), .val (.int (1 : Int32)), .val (.ref w_UNUSED)] [])) _
        refine XS.aloadN X32.here hx rfl (hb hby d1_22) rfl rfl ?_
        show Steps p.tables e below (T32.setTop (mkF m 23 #[.val (.int p1), .val (.int p2), .val (.ref w_UNUSED), .val (.ref bv), .val (.int (4 : Int32)), .val (.int (1 : Int32)), .val (.ref w_UNUSED)] [(.ref bv)])) _
        refine XS.iload X32.here hx rfl (hb hby d1_23) rfl ?_
        show Steps p.tables e below (T32.setTop (mkF m 25 #[.val (.int p1), .val (.int p2), .val (.ref w_UNUSED), .val (.ref bv), .val (.int (4 : Int32)), .val (.int (1 : Int32)), .val (.ref w_UNUSED)] [(.int (1 : Int32)), (.ref bv)])) _
        refine X32.aaload hx (j := (1 : Int32)) (v := (.ref w_CONSUMED)) (by rw [e32]; exact Ar33.1) (State.isArrayOf_alike hZ.alike Ar33.2.1) rfl Ar33.2.2 hin33 hat33 (g := (mkF m 25 #[.val (.int p1), .val (.int p2), .val (.ref w_UNUSED), .val (.ref bv), .val (.int (4 : Int32)), .val (.int (1 : Int32)), .val (.ref w_UNUSED)] [(.int (1 : Int32)), (.ref bv)])) rfl rfl (hb hby d1_25) _ ?_
        show Steps p.tables e below (T32.setTop (mkF m 26 #[.val (.int p1), .val (.int p2), .val (.ref w_UNUSED), .val (.ref bv), .val (.int (4 : Int32)), .val (.int (1 : Int32)), .val (.ref w_UNUSED)] [(.ref w_CONSUMED)])) _
        refine XS.astore X32.here hx rfl (hb hby d1_26) rfl rfl (l' := #[.val (.int p1), .val (.int p2), .val (.ref w_UNUSED), .val (.ref bv), .val (.int (4 : Int32)), .val (.int (1 : Int32)), .val (.ref w_CONSUMED)]) rfl ?_
        show Steps p.tables e below (T32.setTop (mkF m 28 #[.val (.int p1), .val (.int p2), .val (.ref w_UNUSED), .val (.ref bv), .val (.int (4 : Int32)), .val (.int (1 : Int32)), .val (.ref w_CONSUMED)] [])) _
        refine XS.aload X32.here hx rfl (hb hby d1_28) rfl rfl ?_
        show Steps p.tables e below (T32.setTop (mkF m 30 #[.val (.int p1), .val (.int p2), .val (.ref w_UNUSED), .val (.ref bv), .val (.int (4 : Int32)), .val (.int (1 : Int32)), .val (.ref w_CONSUMED)] [(.ref w_CONSUMED)])) _
        refine st34 _ ?_
        show Steps p.tables e below (T34.setTop (mkF m 33 #[.val (.int p1), .val (.int p2), .val (.ref w_UNUSED), .val (.ref bv), .val (.int (4 : Int32)), .val (.int (1 : Int32)), .val (.ref w_CONSUMED)] [(.int (1 : Int32))])) _
        refine XS.iloadN X34.here hx rfl (hb hby d1_33) rfl ?_
        show Steps p.tables e below (T34.setTop (mkF m 34 #[.val (.int p1), .val (.int p2), .val (.ref w_UNUSED), .val (.ref bv), .val (.int (4 : Int32)), .val (.int (1 : Int32)), .val (.ref w_CONSUMED)] [(.int p1), (.int (1 : Int32))])) _
        refine XS.icmpNo X34.here hx rfl (hb hby d1_34) rfl (teq h1.symm).2 ?_
        show Steps p.tables e below (T34.setTop (mkF m 37 #[.val (.int p1), .val (.int p2), .val (.ref w_UNUSED), .val (.ref bv), .val (.int (4 : Int32)), .val (.int (1 : Int32)), .val (.ref w_CONSUMED)] [])) _
        refine XS.aload X34.here hx rfl (hb hby d1_37) rfl rfl ?_
        show Steps p.tables e below (T34.setTop (mkF m 39 #[.val (.int p1), .val (.int p2), .val (.ref w_UNUSED), .val (.ref bv), .val (.int (4 : Int32)), .val (.int (1 : Int32)), .val (.ref w_CONSUMED)] [(.ref w_CONSUMED)])) _
        refine st35 _ ?_
        show Steps p.tables e below (T35.setTop (mkF m 42 #[.val (.int p1), .val (.int p2), .val (.ref w_UNUSED), .val (.ref bv), .val (.int (4 : Int32)), .val (.int (1 : Int32)), .val (.ref w_CONSUMED)] [(.int (0 : Int32))])) _
        refine XS.iloadN X35.here hx rfl (hb hby d1_42) rfl ?_
        show Steps p.tables e below (T35.setTop (mkF m 43 #[.val (.int p1), .val (.int p2), .val (.ref w_UNUSED), .val (.ref bv), .val (.int (4 : Int32)), .val (.int (1 : Int32)), .val (.ref w_CONSUMED)] [(.int p2), (.int (0 : Int32))])) _
        refine XS.icmpNo X35.here hx rfl (hb hby d1_43) rfl (teq h2.symm).2 ?_
        show Steps p.tables e below (T35.setTop (mkF m 46 #[.val (.int p1), .val (.int p2), .val (.ref w_UNUSED), .val (.ref bv), .val (.int (4 : Int32)), .val (.int (1 : Int32)), .val (.ref w_CONSUMED)] [])) _
        refine XS.aload X35.here hx rfl (hb hby d1_46) rfl rfl ?_
        show Steps p.tables e below (T35.setTop (mkF m 48 #[.val (.int p1), .val (.int p2), .val (.ref w_UNUSED), .val (.ref bv), .val (.int (4 : Int32)), .val (.int (1 : Int32)), .val (.ref w_CONSUMED)] [(.ref w_CONSUMED)])) _
        refine XS.astoreN X35.here hx rfl (hb hby d1_48) rfl rfl (l' := #[.val (.int p1), .val (.int p2), .val (.ref w_CONSUMED), .val (.ref bv), .val (.int (4 : Int32)), .val (.int (1 : Int32)), .val (.ref w_CONSUMED)]) rfl ?_
        show Steps p.tables e below (T35.setTop (mkF m 49 #[.val (.int p1), .val (.int p2), .val (.ref w_CONSUMED), .val (.ref bv), .val (.int (4 : Int32)), .val (.int (1 : Int32)), .val (.ref w_CONSUMED)] [])) _
        refine XS.iinc X35.here hx rfl (hb hby d1_49) rfl (l' := #[.val (.int p1), .val (.int p2), .val (.ref w_CONSUMED), .val (.ref bv), .val (.int (4 : Int32)), .val (.int (2 : Int32)), .val (.ref w_CONSUMED)]) rfl ?_
        show Steps p.tables e below (T35.setTop (mkF m 52 #[.val (.int p1), .val (.int p2), .val (.ref w_CONSUMED), .val (.ref bv), .val (.int (4 : Int32)), .val (.int (2 : Int32)), .val (.ref w_CONSUMED)] [])) _
        refine XS.goto X35.here hx rfl (pc0 := 52) (pc' := 15) rfl (hb hby d1_52) (by decide) (by decide) ?_
        show Steps p.tables e below (T35.setTop (mkF m 15 #[.val (.int p1), .val (.int p2), .val (.ref w_CONSUMED), .val (.ref bv), .val (.int (4 : Int32)), .val (.int (2 : Int32)), .val (.ref w_CONSUMED)] [])) _
        refine XS.iload X35.here hx rfl (hb hby d1_15) rfl ?_
        show Steps p.tables e below (T35.setTop (mkF m 17 #[.val (.int p1), .val (.int p2), .val (.ref w_CONSUMED), .val (.ref bv), .val (.int (4 : Int32)), .val (.int (2 : Int32)), .val (.ref w_CONSUMED)] [(.int (2 : Int32))])) _
        refine XS.iload X35.here hx rfl (hb hby d1_17) rfl ?_
        show Steps p.tables e below (T35.setTop (mkF m 19 #[.val (.int p1), .val (.int p2), .val (.ref w_CONSUMED), .val (.ref bv), .val (.int (4 : Int32)), .val (.int (2 : Int32)), .val (.ref w_CONSUMED)] [(.int (4 : Int32)), (.int (2 : Int32))])) _
        refine XS.icmpNo X35.here hx rfl (hb hby d1_19) rfl (tlt (by decide : (2 : Int32) < (4 : Int32))).2.1 ?_
        show Steps p.tables e below (T35.setTop (mkF m 22 #[.val (.int p1), .val (.int p2), .val (.ref w_CONSUMED), .val (.ref bv), .val (.int (4 : Int32)), .val (.int (2 : Int32)), .val (.ref w_CONSUMED)] [])) _
        refine XS.aloadN X35.here hx rfl (hb hby d1_22) rfl rfl ?_
        show Steps p.tables e below (T35.setTop (mkF m 23 #[.val (.int p1), .val (.int p2), .val (.ref w_CONSUMED), .val (.ref bv), .val (.int (4 : Int32)), .val (.int (2 : Int32)), .val (.ref w_CONSUMED)] [(.ref bv)])) _
        refine XS.iload X35.here hx rfl (hb hby d1_23) rfl ?_
        show Steps p.tables e below (T35.setTop (mkF m 25 #[.val (.int p1), .val (.int p2), .val (.ref w_CONSUMED), .val (.ref bv), .val (.int (4 : Int32)), .val (.int (2 : Int32)), .val (.ref w_CONSUMED)] [(.int (2 : Int32)), (.ref bv)])) _
        refine X35.aaload hx (j := (2 : Int32)) (v := (.ref w_PRODUCED)) (by rw [e35]; exact Ar36.1) (State.isArrayOf_alike hZ.alike Ar36.2.1) rfl Ar36.2.2 hin36 hat36 (g := (mkF m 25 #[.val (.int p1), .val (.int p2), .val (.ref w_CONSUMED), .val (.ref bv), .val (.int (4 : Int32)), .val (.int (2 : Int32)), .val (.ref w_CONSUMED)] [(.int (2 : Int32)), (.ref bv)])) rfl rfl (hb hby d1_25) _ ?_
        show Steps p.tables e below (T35.setTop (mkF m 26 #[.val (.int p1), .val (.int p2), .val (.ref w_CONSUMED), .val (.ref bv), .val (.int (4 : Int32)), .val (.int (2 : Int32)), .val (.ref w_CONSUMED)] [(.ref w_PRODUCED)])) _
        refine XS.astore X35.here hx rfl (hb hby d1_26) rfl rfl (l' := #[.val (.int p1), .val (.int p2), .val (.ref w_CONSUMED), .val (.ref bv), .val (.int (4 : Int32)), .val (.int (2 : Int32)), .val (.ref w_PRODUCED)]) rfl ?_
        show Steps p.tables e below (T35.setTop (mkF m 28 #[.val (.int p1), .val (.int p2), .val (.ref w_CONSUMED), .val (.ref bv), .val (.int (4 : Int32)), .val (.int (2 : Int32)), .val (.ref w_PRODUCED)] [])) _
        refine XS.aload X35.here hx rfl (hb hby d1_28) rfl rfl ?_
        show Steps p.tables e below (T35.setTop (mkF m 30 #[.val (.int p1), .val (.int p2), .val (.ref w_CONSUMED), .val (.ref bv), .val (.int (4 : Int32)), .val (.int (2 : Int32)), .val (.ref w_PRODUCED)] [(.ref w_PRODUCED)])) _
        refine st37 _ ?_
        show Steps p.tables e below (T37.setTop (mkF m 33 #[.val (.int p1), .val (.int p2), .val (.ref w_CONSUMED), .val (.ref bv), .val (.int (4 : Int32)), .val (.int (2 : Int32)), .val (.ref w_PRODUCED)] [(.int (0 : Int32))])) _
        refine XS.iloadN X37.here hx rfl (hb hby d1_33) rfl ?_
        show Steps p.tables e below (T37.setTop (mkF m 34 #[.val (.int p1), .val (.int p2), .val (.ref w_CONSUMED), .val (.ref bv), .val (.int (4 : Int32)), .val (.int (2 : Int32)), .val (.ref w_PRODUCED)] [(.int p1), (.int (0 : Int32))])) _
        refine XS.icmpYes X37.here hx rfl (pc0 := 34) (pc' := 49) rfl (hb hby d1_34) rfl (feq (by rw [h1]; decide)).2 (by decide) (by decide) ?_
        show Steps p.tables e below (T37.setTop (mkF m 49 #[.val (.int p1), .val (.int p2), .val (.ref w_CONSUMED), .val (.ref bv), .val (.int (4 : Int32)), .val (.int (2 : Int32)), .val (.ref w_PRODUCED)] [])) _
        refine XS.iinc X37.here hx rfl (hb hby d1_49) rfl (l' := #[.val (.int p1), .val (.int p2), .val (.ref w_CONSUMED), .val (.ref bv), .val (.int (4 : Int32)), .val (.int (3 : Int32)), .val (.ref w_PRODUCED)]) rfl ?_
        show Steps p.tables e below (T37.setTop (mkF m 52 #[.val (.int p1), .val (.int p2), .val (.ref w_CONSUMED), .val (.ref bv), .val (.int (4 : Int32)), .val (.int (3 : Int32)), .val (.ref w_PRODUCED)] [])) _
        refine XS.goto X37.here hx rfl (pc0 := 52) (pc' := 15) rfl (hb hby d1_52) (by decide) (by decide) ?_
        show Steps p.tables e below (T37.setTop (mkF m 15 #[.val (.int p1), .val (.int p2), .val (.ref w_CONSUMED), .val (.ref bv), .val (.int (4 : Int32)), .val (.int (3 : Int32)), .val (.ref w_PRODUCED)] [])) _
        refine XS.iload X37.here hx rfl (hb hby d1_15) rfl ?_
        show Steps p.tables e below (T37.setTop (mkF m 17 #[.val (.int p1), .val (.int p2), .val (.ref w_CONSUMED), .val (.ref bv), .val (.int (4 : Int32)), .val (.int (3 : Int32)), .val (.ref w_PRODUCED)] [(.int (3 : Int32))])) _
        refine XS.iload X37.here hx rfl (hb hby d1_17) rfl ?_
        show Steps p.tables e below (T37.setTop (mkF m 19 #[.val (.int p1), .val (.int p2), .val (.ref w_CONSUMED), .val (.ref bv), .val (.int (4 : Int32)), .val (.int (3 : Int32)), .val (.ref w_PRODUCED)] [(.int (4 : Int32)), (.int (3 : Int32))])) _
        refine XS.icmpNo X37.here hx rfl (hb hby d1_19) rfl (tlt (by decide : (3 : Int32) < (4 : Int32))).2.1 ?_
        show Steps p.tables e below (T37.setTop (mkF m 22 #[.val (.int p1), .val (.int p2), .val (.ref w_CONSUMED), .val (.ref bv), .val (.int (4 : Int32)), .val (.int (3 : Int32)), .val (.ref w_PRODUCED)] [])) _
        refine XS.aloadN X37.here hx rfl (hb hby d1_22) rfl rfl ?_
        show Steps p.tables e below (T37.setTop (mkF m 23 #[.val (.int p1), .val (.int p2), .val (.ref w_CONSUMED), .val (.ref bv), .val (.int (4 : Int32)), .val (.int (3 : Int32)), .val (.ref w_PRODUCED)] [(.ref bv)])) _
        refine XS.iload X37.here hx rfl (hb hby d1_23) rfl ?_
        show Steps p.tables e below (T37.setTop (mkF m 25 #[.val (.int p1), .val (.int p2), .val (.ref w_CONSUMED), .val (.ref bv), .val (.int (4 : Int32)), .val (.int (3 : Int32)), .val (.ref w_PRODUCED)] [(.int (3 : Int32)), (.ref bv)])) _
        refine X37.aaload hx (j := (3 : Int32)) (v := (.ref w_BOTH)) (by rw [e37]; exact Ar38.1) (State.isArrayOf_alike hZ.alike Ar38.2.1) rfl Ar38.2.2 hin38 hat38 (g := (mkF m 25 #[.val (.int p1), .val (.int p2), .val (.ref w_CONSUMED), .val (.ref bv), .val (.int (4 : Int32)), .val (.int (3 : Int32)), .val (.ref w_PRODUCED)] [(.int (3 : Int32)), (.ref bv)])) rfl rfl (hb hby d1_25) _ ?_
        show Steps p.tables e below (T37.setTop (mkF m 26 #[.val (.int p1), .val (.int p2), .val (.ref w_CONSUMED), .val (.ref bv), .val (.int (4 : Int32)), .val (.int (3 : Int32)), .val (.ref w_PRODUCED)] [(.ref w_BOTH)])) _
        refine XS.astore X37.here hx rfl (hb hby d1_26) rfl rfl (l' := #[.val (.int p1), .val (.int p2), .val (.ref w_CONSUMED), .val (.ref bv), .val (.int (4 : Int32)), .val (.int (3 : Int32)), .val (.ref w_BOTH)]) rfl ?_
        show Steps p.tables e below (T37.setTop (mkF m 28 #[.val (.int p1), .val (.int p2), .val (.ref w_CONSUMED), .val (.ref bv), .val (.int (4 : Int32)), .val (.int (3 : Int32)), .val (.ref w_BOTH)] [])) _
        refine XS.aload X37.here hx rfl (hb hby d1_28) rfl rfl ?_
        show Steps p.tables e below (T37.setTop (mkF m 30 #[.val (.int p1), .val (.int p2), .val (.ref w_CONSUMED), .val (.ref bv), .val (.int (4 : Int32)), .val (.int (3 : Int32)), .val (.ref w_BOTH)] [(.ref w_BOTH)])) _
        refine st39 _ ?_
        show Steps p.tables e below (T39.setTop (mkF m 33 #[.val (.int p1), .val (.int p2), .val (.ref w_CONSUMED), .val (.ref bv), .val (.int (4 : Int32)), .val (.int (3 : Int32)), .val (.ref w_BOTH)] [(.int (1 : Int32))])) _
        refine XS.iloadN X39.here hx rfl (hb hby d1_33) rfl ?_
        show Steps p.tables e below (T39.setTop (mkF m 34 #[.val (.int p1), .val (.int p2), .val (.ref w_CONSUMED), .val (.ref bv), .val (.int (4 : Int32)), .val (.int (3 : Int32)), .val (.ref w_BOTH)] [(.int p1), (.int (1 : Int32))])) _
        refine XS.icmpNo X39.here hx rfl (hb hby d1_34) rfl (teq h1.symm).2 ?_
        show Steps p.tables e below (T39.setTop (mkF m 37 #[.val (.int p1), .val (.int p2), .val (.ref w_CONSUMED), .val (.ref bv), .val (.int (4 : Int32)), .val (.int (3 : Int32)), .val (.ref w_BOTH)] [])) _
        refine XS.aload X39.here hx rfl (hb hby d1_37) rfl rfl ?_
        show Steps p.tables e below (T39.setTop (mkF m 39 #[.val (.int p1), .val (.int p2), .val (.ref w_CONSUMED), .val (.ref bv), .val (.int (4 : Int32)), .val (.int (3 : Int32)), .val (.ref w_BOTH)] [(.ref w_BOTH)])) _
        refine st40 _ ?_
        show Steps p.tables e below (T40.setTop (mkF m 42 #[.val (.int p1), .val (.int p2), .val (.ref w_CONSUMED), .val (.ref bv), .val (.int (4 : Int32)), .val (.int (3 : Int32)), .val (.ref w_BOTH)] [(.int (1 : Int32))])) _
        refine XS.iloadN X40.here hx rfl (hb hby d1_42) rfl ?_
        show Steps p.tables e below (T40.setTop (mkF m 43 #[.val (.int p1), .val (.int p2), .val (.ref w_CONSUMED), .val (.ref bv), .val (.int (4 : Int32)), .val (.int (3 : Int32)), .val (.ref w_BOTH)] [(.int p2), (.int (1 : Int32))])) _
        refine XS.icmpYes X40.here hx rfl (pc0 := 43) (pc' := 49) rfl (hb hby d1_43) rfl (feq (by rw [h2]; decide)).2 (by decide) (by decide) ?_
        show Steps p.tables e below (T40.setTop (mkF m 49 #[.val (.int p1), .val (.int p2), .val (.ref w_CONSUMED), .val (.ref bv), .val (.int (4 : Int32)), .val (.int (3 : Int32)), .val (.ref w_BOTH)] [])) _
        refine XS.iinc X40.here hx rfl (hb hby d1_49) rfl (l' := #[.val (.int p1), .val (.int p2), .val (.ref w_CONSUMED), .val (.ref bv), .val (.int (4 : Int32)), .val (.int (4 : Int32)), .val (.ref w_BOTH)]) rfl ?_
        show Steps p.tables e below (T40.setTop (mkF m 52 #[.val (.int p1), .val (.int p2), .val (.ref w_CONSUMED), .val (.ref bv), .val (.int (4 : Int32)), .val (.int (4 : Int32)), .val (.ref w_BOTH)] [])) _
        refine XS.goto X40.here hx rfl (pc0 := 52) (pc' := 15) rfl (hb hby d1_52) (by decide) (by decide) ?_
        show Steps p.tables e below (T40.setTop (mkF m 15 #[.val (.int p1), .val (.int p2), .val (.ref w_CONSUMED), .val (.ref bv), .val (.int (4 : Int32)), .val (.int (4 : Int32)), .val (.ref w_BOTH)] [])) _
        refine XS.iload X40.here hx rfl (hb hby d1_15) rfl ?_
        show Steps p.tables e below (T40.setTop (mkF m 17 #[.val (.int p1), .val (.int p2), .val (.ref w_CONSUMED), .val (.ref bv), .val (.int (4 : Int32)), .val (.int (4 : Int32)), .val (.ref w_BOTH)] [(.int (4 : Int32))])) _
        refine XS.iload X40.here hx rfl (hb hby d1_17) rfl ?_
        show Steps p.tables e below (T40.setTop (mkF m 19 #[.val (.int p1), .val (.int p2), .val (.ref w_CONSUMED), .val (.ref bv), .val (.int (4 : Int32)), .val (.int (4 : Int32)), .val (.ref w_BOTH)] [(.int (4 : Int32)), (.int (4 : Int32))])) _
        refine XS.icmpYes X40.here hx rfl (pc0 := 19) (pc' := 55) rfl (hb hby d1_19) rfl (flt (by decide : ¬ ((4 : Int32) < (4 : Int32)))).2.1 (by decide) (by decide) ?_
        show Steps p.tables e below (T40.setTop (mkF m 55 #[.val (.int p1), .val (.int p2), .val (.ref w_CONSUMED), .val (.ref bv), .val (.int (4 : Int32)), .val (.int (4 : Int32)), .val (.ref w_BOTH)] [])) _
        refine XS.aloadN X40.here hx rfl (hb hby d1_55) rfl rfl ?_
        exact kt
      obtain ⟨fs, hr, hrun, hended, hW, hsame⟩ := X40.leave (v := some (.ref w_CONSUMED)) (fun h => by rw [Bd.returns] at h; cases h)
      refine ⟨_, _, pre41 _ ?_, hrun, hended, _, _, rfl, ?_, ⟨_, rfl⟩, hW, hsame.mono (by decide) (by decide)⟩
      · show Steps p.tables e below (T40.setTop (mkF m 56 #[.val (.int p1), .val (.int p2), .val (.ref w_CONSUMED), .val (.ref bv), .val (.int (4 : Int32)), .val (.int (4 : Int32)), .val (.ref w_BOTH)] [(.ref w_CONSUMED)])) _
        jvm_step X40.here [X40.here.top, hx, (hb hby d1_56), X40.method', Bd.returns, Value.isRef, FieldType.isReference]
        first | (intro acts; rw [hr _ acts rfl rfl rfl]) | rw [hr _ _ rfl rfl rfl]
        exact Steps.refl _
      · show QO Z r h0 n0 _ T40.heap _
        rw [e40]
        exact ⟨by rw [hr0]; simp [h1, h2], N29, Ex29⟩
    · have hz : True := trivial
      obtain ⟨bv, hbv⟩ : ∃ z, z = h0.size := ⟨_, rfl⟩
      obtain ⟨_, _, ⟨T42, L42, k42, n42⟩, -, X42, ⟨Lc42, hQ42, l42, y42, z42⟩, st42⟩ := Jvm.LawKit.callS X1 hx (y := (⟨"com/example/driftwell/driftwell/Roles$Role", "values", "()[Lcom/example/driftwell/driftwell/Roles$Role;"⟩ : MethodName)) hown (mvT hZ (hw _ (List.mem_of_getElem? (i := 7) rfl))) (mvT hZ (hw _ (List.mem_of_getElem? (i := 8) rfl))) (mvT hZ (hw _ (List.mem_of_getElem? (i := 1) rfl))) (mvT hZ (hw _ (List.mem_of_getElem? (i := 9) rfl))) (by decide) (backOf (W := 0) (rm_values l Z a0 hw [] w_VALUES kV w_UNUSED w_CONSUMED w_PRODUCED w_BOTH bv h0 n0 Z0 S_VALUES V_VALUES E_VALUES hbv) hZ (hw _ (List.mem_of_getElem? (i := 9) rfl)) (hw _ (List.mem_of_getElem? (i := 1) rfl)) (by decide) (by decide)) (g := (mkF m 4 #[.val (.int p1), .val (.int p2), .val (.ref w_UNUSED), .unset, .unset, .unset, .unset] [])) rfl (by rw [hml]; rfl) (argsL := []) (rest := []) (lenOf pd_rm_of_0 rfl) rfl (by show 2 * 0 + _ ≤ _; exact Nat.le_of_eq rfl) (hb hby d1_4) (fun _ _ => ⟨rfl, e1, (by decide : 0 + 1 ≤ _), (by decide : 0 + 4 ≤ _)⟩)
      dsimp only [Pt.U, Pt.locs, Pt.cells, Pt.slots] at X42 l42 y42 z42 st42 hQ42
      subst l42 y42 z42
      obtain ⟨rfl, N42q, Ex42, V42⟩ := hQ42
      have N42 := Fr.app N0 N42q
      have VO43 := V42
      obtain ⟨cl43, Ar43, q43, S43, M43, H43, G43⟩ := VO43
      have VO44 := V42
      obtain ⟨cl44, Ar44, q44, S44, M44, H44, G44⟩ := VO44
      have hin44 : ¬ ((0 : Int32) < 0 ∨ cl44.slots.size ≤ ((0 : Int32)).toNatClampNeg) := inb_of S44 ⟨by decide, by decide⟩
      have hat44 : cl44.slots[((0 : Int32)).toNatClampNeg]? = some (.ref w_UNUSED) := H44.at hin44 rfl
      obtain ⟨T45, X45, e45, st45⟩ := getF X42 hx hZ hown (host := "") (Or.inl (hw _ (List.mem_of_getElem? (i := 25) rfl))) Via.refl rfl (Fld.ext Ex42 F_UNUSED_consumed) (g := (mkF m 30 #[.val (.int p1), .val (.int p2), .val (.ref w_UNUSED), .val (.ref bv), .val (.int (4 : Int32)), .val (.int (0 : Int32)), .val (.ref w_UNUSED)] [(.ref w_UNUSED)])) rfl rfl (hb hby d1_30)
      have VO46 := V42
      obtain ⟨cl46, Ar46, q46, S46, M46, H46, G46⟩ := VO46
      have hin46 : ¬ ((1 : Int32) < 0 ∨ cl46.slots.size ≤ ((1 : Int32)).toNatClampNeg) := inb_of S46 ⟨by decide, by decide⟩
      have hat46 : cl46.slots[((1 : Int32)).toNatClampNeg]? = some (.ref w_CONSUMED) := H46.at hin46 rfl
      obtain ⟨T47, X47, e47, st47⟩ := getF X45 hx hZ hown (host := "") (Or.inl (hw _ (List.mem_of_getElem? (i := 25) rfl))) Via.refl e45 (Fld.ext Ex42 F_CONSUMED_consumed) (g := (mkF m 30 #[.val (.int p1), .val (.int p2), .val (.ref w_UNUSED), .val (.ref bv), .val (.int (4 : Int32)), .val (.int (1 : Int32)), .val (.ref w_CONSUMED)] [(.ref w_CONSUMED)])) rfl rfl (hb hby d1_30)
      obtain ⟨T48, X48, e48, st48⟩ := getF X47 hx hZ hown (host := "") (Or.inl (hw _ (List.mem_of_getElem? (i := 27) rfl))) Via.refl e47 (Fld.ext Ex42 F_CONSUMED_produced) (g := (mkF m 39 #[.val (.int p1), .val (.int p2), .val (.ref w_UNUSED), .val (.ref bv), .val (.int (4 : Int32)), .val (.int (1 : Int32)), .val (.ref w_CONSUMED)] [(.ref w_CONSUMED)])) rfl rfl (hb hby d1_39)
      have VO49 := V42
      obtain ⟨cl49, Ar49, q49, S49, M49, H49, G49⟩ := VO49
      have hin49 : ¬ ((2 : Int32) < 0 ∨ cl49.slots.size ≤ ((2 : Int32)).toNatClampNeg) := inb_of S49 ⟨by decide, by decide⟩
      have hat49 : cl49.slots[((2 : Int32)).toNatClampNeg]? = some (.ref w_PRODUCED) := H49.at hin49 rfl
      obtain ⟨T50, X50, e50, st50⟩ := getF X48 hx hZ hown (host := "") (Or.inl (hw _ (List.mem_of_getElem? (i := 25) rfl))) Via.refl e48 (Fld.ext Ex42 F_PRODUCED_consumed) (g := (mkF m 30 #[.val (.int p1), .val (.int p2), .val (.ref w_UNUSED), .val (.ref bv), .val (.int (4 : Int32)), .val (.int (2 : Int32)), .val (.ref w_PRODUCED)] [(.ref w_PRODUCED)])) rfl rfl (hb hby d1_30)
      have VO51 := V42
      obtain ⟨cl51, Ar51, q51, S51, M51, H51, G51⟩ := VO51
      have hin51 : ¬ ((3 : Int32) < 0 ∨ cl51.slots.size ≤ ((3 : Int32)).toNatClampNeg) := inb_of S51 ⟨by decide, by decide⟩
      have hat51 : cl51.slots[((3 : Int32)).toNatClampNeg]? = some (.ref w_BOTH) := H51.at hin51 rfl
      obtain ⟨T52, X52, e52, st52⟩ := getF X50 hx hZ hown (host := "") (Or.inl (hw _ (List.mem_of_getElem? (i := 25) rfl))) Via.refl e50 (Fld.ext Ex42 F_BOTH_consumed) (g := (mkF m 30 #[.val (.int p1), .val (.int p2), .val (.ref w_UNUSED), .val (.ref bv), .val (.int (4 : Int32)), .val (.int (3 : Int32)), .val (.ref w_BOTH)] [(.ref w_BOTH)])) rfl rfl (hb hby d1_30)
      obtain ⟨T53, X53, e53, st53⟩ := getF X52 hx hZ hown (host := "") (Or.inl (hw _ (List.mem_of_getElem? (i := 27) rfl))) Via.refl e52 (Fld.ext Ex42 F_BOTH_produced) (g := (mkF m 39 #[.val (.int p1), .val (.int p2), .val (.ref w_UNUSED), .val (.ref bv), .val (.int (4 : Int32)), .val (.int (3 : Int32)), .val (.ref w_BOTH)] [(.ref w_BOTH)])) rfl rfl (hb hby d1_39)
      have pre54 : ∀ tt, Steps p.tables e below (T53.setTop (mkF m 56 #[.val (.int p1), .val (.int p2), .val (.ref w_BOTH), .val (.ref bv), .val (.int (4 : Int32)), .val (.int (4 : Int32)), .val (.ref w_BOTH)] [(.ref w_BOTH)])) tt → Steps p.tables e below (s₁.setTop (entryFrame m #[(.int p1), (.int p2)] 7)) tt := by
        intro tt kt
        refine pre2 tt ?_
        show Steps p.tables e below (T1.setTop (mkF m 4 #[.val (.int p1), .val (.int p2), .val (.ref w_UNUSED), .unset, .unset, .unset, .unset] [])) _
        refine st42 _ ?_
        show Steps p.tables e below (T42.setTop (mkF m 7 #[.val (.int p1), .val (.int p2), .val (.ref w_UNUSED), .unset, .unset, .unset, .unset] [(.ref bv)])) _
        refine XS.astoreN X42.here hx rfl (hb hby d1_7) rfl rfl (l' := #[.val (.int p1), .val (.int p2), .val (.ref w_UNUSED), .val (.ref bv), .unset, .unset, .unset]) rfl ?_
        show Steps p.tables e below (T42.setTop (mkF m 8 #[.val (.int p1), .val (.int p2), .val (.ref w_UNUSED), .val (.ref bv), .unset, .unset, .unset] [])) _
        refine XS.aloadN X42.here hx rfl (hb hby d1_8) rfl rfl ?_
        show Steps p.tables e below (T42.setTop (mkF m 9 #[.val (.int p1), .val (.int p2), .val (.ref w_UNUSED), .val (.ref bv), .unset, .unset, .unset] [(.ref bv)])) _
        refine X42.arraylength hx Ar43.1 (State.isArrayOf_alike hZ.alike Ar43.2.1) (g := (mkF m 9 #[.val (.int p1), .val (.int p2), .val (.ref w_UNUSED), .val (.ref bv), .unset, .unset, .unset] [(.ref bv)])) rfl rfl (hb hby d1_9) _ ?_
        rw [len_of S43 M43]
        show Steps p.tables e below (T42.setTop (mkF m 10 #[.val (.int p1), .val (.int p2), .val (.ref w_UNUSED), .val (.ref bv), .unset, .unset, .unset] [(.int (4 : Int32))])) _
        refine XS.istore X42.here hx rfl (hb hby d1_10) rfl (l' := #[.val (.int p1), .val (.int p2), .val (.ref w_UNUSED), .val (.ref bv), .val (.int (4 : Int32)), .unset, .unset]) rfl ?_
        show Steps p.tables e below (T42.setTop (mkF m 12 #[.val (.int p1), .val (.int p2), .val (.ref w_UNUSED), .val (.ref bv), .val (.int (4 : Int32)), .unset, .unset] [])) _
        refine XS.iconst X42.here hx rfl (hb hby d1_12) ?_
        show Steps p.tables e below (T42.setTop (mkF m 13 #[.val (.int p1), .val (.int p2), .val (.ref w_UNUSED), .val (.ref bv), .val (.int (4 : Int32)), .unset, .unset] [(.int (0 : Int32))])) _
        refine XS.istore X42.here hx rfl (hb hby d1_13) rfl (l' := #[.val (.int p1), .val (.int p2), .val (.ref w_UNUSED), .val (.ref bv), .val (.int (4 : Int32)), .val (.int (0 : Int32)), .unset]) rfl ?_
        show Steps p.tables e below (T42.setTop (mkF m 15 #[.val (.int p1), .val (.int p2), .val (.ref w_UNUSED), .val (.ref bv), .val (.int (4 : Int32)), .val (.int (0 : Int32)), .unset] [])) _
        refine XS.iload X42.here hx rfl (hb hby d1_15) rfl ?_
        show Steps p.tables e below (T42.setTop (mkF m 17 #[.val (.int p1), .val (.int p2), .val (.ref w_UNUSED), .val (.ref bv), .val (.int (4 : Int32)), .val (.int (0 : Int32)), .unset] [(.int (0 : Int32))])) _
        refine XS.iload X42.here hx rfl (hb hby d1_17) rfl ?_
        show Steps p.tables e below (T42.setTop (mkF m 19 #[.val (.int p1), .val (.int p2), .val (.ref w_UNUSED), .val (.ref bv), .val (.int (4 : Int32)), .val (.int (0 : Int32)), .unset] [(.int (4 : Int32)), (.int (0 : Int32))])) _
        refine XS.icmpNo X42.here hx rfl (hb hby d1_19) rfl (tlt (by decide : (0 : Int32) < (4 : Int32))).2.1 ?_
        show Steps p.tables e below (T42.setTop (mkF m 22 #[.val (.int p1), .val (.int p2), .val (.ref w_UNUSED), .val (.ref bv), .val (.int (4 : Int32)), .val (.int (0 : Int32)), .unset] [])) _
        refine XS.aloadN X42.here hx rfl (hb hby d1_22) rfl rfl ?_
        show Steps p.tables e below (T42.setTop (mkF m 23 #[.val (.int p1), .val (.int p2), .val (.ref w_UNUSED), .val (.ref bv), .val (.int (4 : Int32)), .val (.int (0 : Int32)), .unset] [(.ref bv)])) _
        refine XS.iload X42.here hx rfl (hb hby d1_23) rfl ?_
        show Steps p.tables e below (T42.setTop (mkF m 25 #[.val (.int p1), .val (.int p2), .val (.ref w_UNUSED), .val (.ref bv), .val (.int (4 : Int32)), .val (.int (0 : Int32)), .unset] [(.int (0 : Int32)), (.ref bv)])) _
        refine X42.aaload hx (j := (0 : Int32)) (v := (.ref w_UNUSED)) Ar44.1 (State.isArrayOf_alike hZ.alike Ar44.2.1) rfl Ar44.2.2 hin44 hat44 (g := (mkF m 25 #[.val (.int p1), .val (.int p2), .val (.ref w_UNUSED), .val (.ref bv), .val (.int (4 : Int32)), .val (.int (0 : Int32)), .unset] [(.int (0 : Int32)), (.ref bv)])) rfl rfl (hb hby d1_25) _ ?_
        show Steps p.tables e below (T42.setTop (mkF m 26 #[.val (.int p1), .val (.int p2), .val (.ref w_UNUSED), .val (.ref bv), .val (.int (4 : Int32)), .val (.int (0 : Int32)), .unset] [(.ref w_UNUSED)])) _
        refine XS.astore X42.here hx rfl (hb hby d1_26) rfl rfl (l' := #[.val (.int p1), .val (.int p2), .val (.ref w_UNUSED), .val (.ref bv), .val (.int (4 : Int32)), .val (.int (0 : Int32)), .val (.ref w_UNUSED)]) rfl ?_
        show Steps p.tables e below (T42.setTop (mkF m 28 #[.val (.int p1), .val (.int p2), .val (.ref w_UNUSED), .val (.ref bv), .val (.int (4 : Int32)), .val (.int (0 : Int32)), .val (.ref w_UNUSED)] [])) _
        refine XS.aload X42.here hx rfl (hb hby d1_28) rfl rfl ?_
        show Steps p.tables e below (T42.setTop (mkF m 30 #[.val (.int p1), .val (.int p2), .val (.ref w_UNUSED), .val (.ref bv), .val (.int (4 : Int32)), .val (.int (0 : Int32)), .val (.ref w_UNUSED)] [(.ref w_UNUSED)])) _
        refine st45 _ ?_
        show Steps p.tables e below (T45.setTop (mkF m 33 #[.val (.int p1), .val (.int p2), .val (.ref w_UNUSED), .val (.ref bv), .val (.int (4 : Int32)), .val (.int (0 : Int32)), .val (.ref w_UNUSED)] [(.int (0 : Int32))])) _
        refine XS.iloadN X45.here hx rfl (hb hby d1_33) rfl ?_
        show Steps p.tables e below (T45.setTop (mkF m 34 #[.val (.int p1), .val (.int p2), .val (.ref w_UNUSED), .val (.ref bv), .val (.int (4 : Int32)), .val (.int (0 : Int32)), .val (.ref w_UNUSED)] [(.int p1), (.int (0 : Int32))])) _
        refine XS.icmpYes X45.here hx rfl (pc0 := 34) (pc' := 49) rfl (hb hby d1_34) rfl (feq (by rw [h1]; decide)).2 (by decide) (by decide) ?_
        show Steps p.tables e below (T45.setTop (mkF m 49 #[.val (.int p1), .val (.int p2), .val (.ref w_UNUSED), .val (.ref bv), .val (.int (4 : Int32)), .val (.int (0 : Int32)), .val (.ref w_UNUSED)] [])) _
        refine XS.iinc X45.here hx rfl (hb hby d1_49) rfl (l' := #[.val (.int p1), .val (.int p2), .val (.ref w_UNUSED), .val (.ref bv), .val (.int (4 : Int32)), .val (.int (1 : Int32)), .val (.ref w_UNUSED)]) rfl ?_
        show Steps p.tables e below (T45.setTop (mkF m 52 #[.val (.int p1), .val (.int p2), .val (.ref w_UNUSED), .val (.ref bv), .val (.int (4 : Int32)), .val (.int (1 : Int32)), .val (.ref w_UNUSED)] [])) _
        refine XS.goto X45.here hx rfl (pc0 := 52) (pc' := 15) rfl (hb hby d1_52) (by decide) (by decide) ?_
        show Steps p.tables e below (T45.setTop (mkF m 15 #[.val (.int p1), .val (.int p2), .val (.ref w_UNUSED), .val (.ref bv), .val (.int (4 : Int32)), .val (.int (1 : Int32)), .val (.ref w_UNUSED)] [])) _
        refine XS.iload X45.here hx rfl (hb hby d1_15) rfl ?_
        show Steps p.tables e below (T45.setTop (mkF m 17 #[.val (.int p1), .val (.int p2), .val (.ref w_UNUSED), .val (.ref bv), .val (.int (4 : Int32)), .val (.int (1 : Int32)), .val (.ref w_UNUSED)] [(.int (1 : Int32))])) _
        refine XS.iload X45.here hx rfl (hb hby d1_17) rfl ?_
        show Steps p.tables e below (T45.setTop (mkF m 19 #[.val (.int p1), .val (.int p2), .val (.ref w_UNUSED), .val (.ref bv), .val (.int (4 : Int32)), .val (.int (1 : Int32)), .val (.ref w_UNUSED)] [(.int (4 : Int32)), (.int (1 : Int32))])) _
        refine XS.icmpNo X45.here hx rfl (hb hby d1_19) rfl (tlt (by decide : (1 : Int32) < (4 : Int32))).2.1 ?_
        show Steps p.tables e below (T45.setTop (mkF m 22 #[.val (.int p1), .val (.int p2), .val (.ref w_UNUSED), .val (.ref bv), .val (.int (4 : Int32)), .val (.int (1 : Int32)), .val (.ref w_UNUSED)] [])) _
        refine XS.aloadN X45.here hx rfl (hb hby d1_22) rfl rfl ?_
        show Steps p.tables e below (T45.setTop (mkF m 23 #[.val (.int p1), .val (.int p2), .val (.ref w_UNUSED), .val (.ref bv), .val (.int (4 : Int32)), .val (.int (1 : Int32)), .val (.ref w_UNUSED)] [(.ref bv)])) _
        refine XS.iload X45.here hx rfl (hb hby d1_23) rfl ?_
        show Steps p.tables e below (T45.setTop (mkF m 25 #[.val (.int p1), .val (.int p2), .val (.ref w_UNUSED), .val (.ref bv), .val (.int (4 : Int32)), .val (.int (1 : Int32)), .val (.ref w_UNUSED)] [(.int (1 : Int32)), (.ref bv)])) _
        refine X45.aaload hx (j := (1 : Int32)) (v := (.ref w_CONSUMED)) (by rw [e45]; exact Ar46.1) (State.isArrayOf_alike hZ.alike Ar46.2.1) rfl Ar46.2.2 hin46 hat46 (g := (mkF m 25 #[.val (.int p1), .val (.int p2), .val (.ref w_UNUSED), .val (.ref bv), .val (.int (4 : Int32)), .val (.int (1 : Int32)), .val (.ref w_UNUSED)] [(.int (1 : Int32)), (.ref bv)])) rfl rfl (hb hby d1_25) _ ?_
        show Steps p.tables e below (T45.setTop (mkF m 26 #[.val (.int p1), .val (.int p2), .val (.ref w_UNUSED), .val (.ref bv), .val (.int (4 : Int32)), .val (.int (1 : Int32)), .val (.ref w_UNUSED)] [(.ref w_CONSUMED)])) _
        refine XS.astore X45.here hx rfl (hb hby d1_26) rfl rfl (l' := #[.val (.int p1), .val (.int p2), .val (.ref w_UNUSED), .val (.ref bv), .val (.int (4 : Int32)), .val (.int (1 : Int32)), .val (.ref w_CONSUMED)]) rfl ?_
        show Steps p.tables e below (T45.setTop (mkF m 28 #[.val (.int p1), .val (.int p2), .val (.ref w_UNUSED), .val (.ref bv), .val (.int (4 : Int32)), .val (.int (1 : Int32)), .val (.ref w_CONSUMED)] [])) _
        refine XS.aload X45.here hx rfl (hb hby d1_28) rfl rfl ?_
        show Steps p.tables e below (T45.setTop (mkF m 30 #[.val (.int p1), .val (.int p2), .val (.ref w_UNUSED), .val (.ref bv), .val (.int (4 : Int32)), .val (.int (1 : Int32)), .val (.ref w_CONSUMED)] [(.ref w_CONSUMED)])) _
        refine st47 _ ?_
        show Steps p.tables e below (T47.setTop (mkF m 33 #[.val (.int p1), .val (.int p2), .val (.ref w_UNUSED), .val (.ref bv), .val (.int (4 : Int32)), .val (.int (1 : Int32)), .val (.ref w_CONSUMED)] [(.int (1 : Int32))])) _
        refine XS.iloadN X47.here hx rfl (hb hby d1_33) rfl ?_
        show Steps p.tables e below (T47.setTop (mkF m 34 #[.val (.int p1), .val (.int p2), .val (.ref w_UNUSED), .val (.ref bv), .val (.int (4 : Int32)), .val (.int (1 : Int32)), .val (.ref w_CONSUMED)] [(.int p1), (.int (1 : Int32))])) _
        refine XS.icmpNo X47.here hx rfl (hb hby d1_34) rfl (teq h1.symm).2 ?_
        show Steps p.tables e below (T47.setTop (mkF m 37 #[.val (.int p1), .val (.int p2), .val (.ref w_UNUSED), .val (.ref bv), .val (.int (4 : Int32)), .val (.int (1 : Int32)), .val (.ref w_CONSUMED)] [])) _
        refine XS.aload X47.here hx rfl (hb hby d1_37) rfl rfl ?_
        show Steps p.tables e below (T47.setTop (mkF m 39 #[.val (.int p1), .val (.int p2), .val (.ref w_UNUSED), .val (.ref bv), .val (.int (4 : Int32)), .val (.int (1 : Int32)), .val (.ref w_CONSUMED)] [(.ref w_CONSUMED)])) _
        refine st48 _ ?_
        show Steps p.tables e below (T48.setTop (mkF m 42 #[.val (.int p1), .val (.int p2), .val (.ref w_UNUSED), .val (.ref bv), .val (.int (4 : Int32)), .val (.int (1 : Int32)), .val (.ref w_CONSUMED)] [(.int (0 : Int32))])) _
        refine XS.iloadN X48.here hx rfl (hb hby d1_42) rfl ?_
        show Steps p.tables e below (T48.setTop (mkF m 43 #[.val (.int p1), .val (.int p2), .val (.ref w_UNUSED), .val (.ref bv), .val (.int (4 : Int32)), .val (.int (1 : Int32)), .val (.ref w_CONSUMED)] [(.int p2), (.int (0 : Int32))])) _
        refine XS.icmpYes X48.here hx rfl (pc0 := 43) (pc' := 49) rfl (hb hby d1_43) rfl (feq (by rw [h2]; decide)).2 (by decide) (by decide) ?_
        show Steps p.tables e below (T48.setTop (mkF m 49 #[.val (.int p1), .val (.int p2), .val (.ref w_UNUSED), .val (.ref bv), .val (.int (4 : Int32)), .val (.int (1 : Int32)), .val (.ref w_CONSUMED)] [])) _
        refine XS.iinc X48.here hx rfl (hb hby d1_49) rfl (l' := #[.val (.int p1), .val (.int p2), .val (.ref w_UNUSED), .val (.ref bv), .val (.int (4 : Int32)), .val (.int (2 : Int32)), .val (.ref w_CONSUMED)]) rfl ?_
        show Steps p.tables e below (T48.setTop (mkF m 52 #[.val (.int p1), .val (.int p2), .val (.ref w_UNUSED), .val (.ref bv), .val (.int (4 : Int32)), .val (.int (2 : Int32)), .val (.ref w_CONSUMED)] [])) _
        refine XS.goto X48.here hx rfl (pc0 := 52) (pc' := 15) rfl (hb hby d1_52) (by decide) (by decide) ?_
        show Steps p.tables e below (T48.setTop (mkF m 15 #[.val (.int p1), .val (.int p2), .val (.ref w_UNUSED), .val (.ref bv), .val (.int (4 : Int32)), .val (.int (2 : Int32)), .val (.ref w_CONSUMED)] [])) _
        refine XS.iload X48.here hx rfl (hb hby d1_15) rfl ?_
        show Steps p.tables e below (T48.setTop (mkF m 17 #[.val (.int p1), .val (.int p2), .val (.ref w_UNUSED), .val (.ref bv), .val (.int (4 : Int32)), .val (.int (2 : Int32)), .val (.ref w_CONSUMED)] [(.int (2 : Int32))])) _
        refine XS.iload X48.here hx rfl (hb hby d1_17) rfl ?_
        show Steps p.tables e below (T48.setTop (mkF m 19 #[.val (.int p1), .val (.int p2), .val (.ref w_UNUSED), .val (.ref bv), .val (.int (4 : Int32)), .val (.int (2 : Int32)), .val (.ref w_CONSUMED)] [(.int (4 : Int32)), (.int (2 : Int32))])) _
        refine XS.icmpNo X48.here hx rfl (hb hby d1_19) rfl (tlt (by decide : (2 : Int32) < (4 : Int32))).2.1 ?_
        show Steps p.tables e below (T48.setTop (mkF m 22 #[.val (.int p1), .val (.int p2), .val (.ref w_UNUSED), .val (.ref bv), .val (.int (4 : Int32)), .val (.int (2 : Int32)), .val (.ref w_CONSUMED)] [])) _
        refine XS.aloadN X48.here hx rfl (hb hby d1_22) rfl rfl ?_
        show Steps p.tables e below (T48.setTop (mkF m 23 #[.val (.int p1), .val (.int p2), .val (.ref w_UNUSED), .val (.ref bv), .val (.int (4 : Int32)), .val (.int (2 : Int32)), .val (.ref w_CONSUMED)] [(.ref bv)])) _
        refine XS.iload X48.here hx rfl (hb hby d1_23) rfl ?_
        show Steps p.tables e below (T48.setTop (mkF m 25 #[.val (.int p1), .val (.int p2), .val (.ref w_UNUSED), .val (.ref bv), .val (.int (4 : Int32)), .val (.int (2 : Int32)), .val (.ref w_CONSUMED)] [(.int (2 : Int32)), (.ref bv)])) _
        refine X48.aaload hx (j := (2 : Int32)) (v := (.ref w_PRODUCED)) (by rw [e48]; exact Ar49.1) (State.isArrayOf_alike hZ.alike Ar49.2.1) rfl Ar49.2.2 hin49 hat49 (g := (mkF m 25 #[.val (.int p1), .val (.int p2), .val (.ref w_UNUSED), .val (.ref bv), .val (.int (4 : Int32)), .val (.int (2 : Int32)), .val (.ref w_CONSUMED)] [(.int (2 : Int32)), (.ref bv)])) rfl rfl (hb hby d1_25) _ ?_
        show Steps p.tables e below (T48.setTop (mkF m 26 #[.val (.int p1), .val (.int p2), .val (.ref w_UNUSED), .val (.ref bv), .val (.int (4 : Int32)), .val (.int (2 : Int32)), .val (.ref w_CONSUMED)] [(.ref w_PRODUCED)])) _
        refine XS.astore X48.here hx rfl (hb hby d1_26) rfl rfl (l' := #[.val (.int p1), .val (.int p2), .val (.ref w_UNUSED), .val (.ref bv), .val (.int (4 : Int32)), .val (.int (2 : Int32)), .val (.ref w_PRODUCED)]) rfl ?_
        show Steps p.tables e below (T48.setTop (mkF m 28 #[.val (.int p1), .val (.int p2), .val (.ref w_UNUSED), .val (.ref bv), .val (.int (4 : Int32)), .val (.int (2 : Int32)), .val (.ref w_PRODUCED)] [])) _
        refine XS.aload X48.here hx rfl (hb hby d1_28) rfl rfl ?_
        show Steps p.tables e below (T48.setTop (mkF m 30 #[.val (.int p1), .val (.int p2), .val (.ref w_UNUSED), .val (.ref bv), .val (.int (4 : Int32)), .val (.int (2 : Int32)), .val (.ref w_PRODUCED)] [(.ref w_PRODUCED)])) _
        refine st50 _ ?_
        show Steps p.tables e below (T50.setTop (mkF m 33 #[.val (.int p1), .val (.int p2), .val (.ref w_UNUSED), .val (.ref bv), .val (.int (4 : Int32)), .val (.int (2 : Int32)), .val (.ref w_PRODUCED)] [(.int (0 : Int32))])) _
        refine XS.iloadN X50.here hx rfl (hb hby d1_33) rfl ?_
        show Steps p.tables e below (T50.setTop (mkF m 34 #[.val (.int p1), .val (.int p2), .val (.ref w_UNUSED), .val (.ref bv), .val (.int (4 : Int32)), .val (.int (2 : Int32)), .val (.ref w_PRODUCED)] [(.int p1), (.int (0 : Int32))])) _
        refine XS.icmpYes X50.here hx rfl (pc0 := 34) (pc' := 49) rfl (hb hby d1_34) rfl (feq (by rw [h1]; decide)).2 (by decide) (by decide) ?_
        show Steps p.tables e below (T50.setTop (mkF m 49 #[.val (.int p1), .val (.int p2), .val (.ref w_UNUSED), .val (.ref bv), .val (.int (4 : Int32)), .val (.int (2 : Int32)), .val (.ref w_PRODUCED)] [])) _
        refine XS.iinc X50.here hx rfl (hb hby d1_49) rfl (l' := #[.val (.int p1), .val (.int p2), .val (.ref w_UNUSED), .val (.ref bv), .val (.int (4 : Int32)), .val (.int (3 : Int32)), .val (.ref w_PRODUCED)]) rfl ?_
        show Steps p.tables e below (T50.setTop (mkF m 52 #[.val (.int p1), .val (.int p2), .val (.ref w_UNUSED), .val (.ref bv), .val (.int (4 : Int32)), .val (.int (3 : Int32)), .val (.ref w_PRODUCED)] [])) _
        refine XS.goto X50.here hx rfl (pc0 := 52) (pc' := 15) rfl (hb hby d1_52) (by decide) (by decide) ?_
        show Steps p.tables e below (T50.setTop (mkF m 15 #[.val (.int p1), .val (.int p2), .val (.ref w_UNUSED), .val (.ref bv), .val (.int (4 : Int32)), .val (.int (3 : Int32)), .val (.ref w_PRODUCED)] [])) _
        refine XS.iload X50.here hx rfl (hb hby d1_15) rfl ?_
        show Steps p.tables e below (T50.setTop (mkF m 17 #[.val (.int p1), .val (.int p2), .val (.ref w_UNUSED), .val (.ref bv), .val (.int (4 : Int32)), .val (.int (3 : Int32)), .val (.ref w_PRODUCED)] [(.int (3 : Int32))])) _
        refine XS.iload X50.here hx rfl (hb hby d1_17) rfl ?_
        show Steps p.tables e below (T50.setTop (mkF m 19 #[.val (.int p1), .val (.int p2), .val (.ref w_UNUSED), .val (.ref bv), .val (.int (4 : Int32)), .val (.int (3 : Int32)), .val (.ref w_PRODUCED)] [(.int (4 : Int32)), (.int (3 : Int32))])) _
        refine XS.icmpNo X50.here hx rfl (hb hby d1_19) rfl (tlt (by decide : (3 : Int32) < (4 : Int32))).2.1 ?_
        show Steps p.tables e below (T50.setTop (mkF m 22 #[.val (.int p1), .val (.int p2), .val (.ref w_UNUSED), .val (.ref bv), .val (.int (4 : Int32)), .val (.int (3 : Int32)), .val (.ref w_PRODUCED)] [])) _
        refine XS.aloadN X50.here hx rfl (hb hby d1_22) rfl rfl ?_
        show Steps p.tables e below (T50.setTop (mkF m 23 #[.val (.int p1), .val (.int p2), .val (.ref w_UNUSED), .val (.ref bv), .val (.int (4 : Int32)), .val (.int (3 : Int32)), .val (.ref w_PRODUCED)] [(.ref bv)])) _
        refine XS.iload X50.here hx rfl (hb hby d1_23) rfl ?_
        show Steps p.tables e below (T50.setTop (mkF m 25 #[.val (.int p1), .val (.int p2), .val (.ref w_UNUSED), .val (.ref bv), .val (.int (4 : Int32)), .val (.int (3 : Int32)), .val (.ref w_PRODUCED)] [(.int (3 : Int32)), (.ref bv)])) _
        refine X50.aaload hx (j := (3 : Int32)) (v := (.ref w_BOTH)) (by rw [e50]; exact Ar51.1) (State.isArrayOf_alike hZ.alike Ar51.2.1) rfl Ar51.2.2 hin51 hat51 (g := (mkF m 25 #[.val (.int p1), .val (.int p2), .val (.ref w_UNUSED), .val (.ref bv), .val (.int (4 : Int32)), .val (.int (3 : Int32)), .val (.ref w_PRODUCED)] [(.int (3 : Int32)), (.ref bv)])) rfl rfl (hb hby d1_25) _ ?_
        show Steps p.tables e below (T50.setTop (mkF m 26 #[.val (.int p1), .val (.int p2), .val (.ref w_UNUSED), .val (.ref bv), .val (.int (4 : Int32)), .val (.int (3 : Int32)), .val (.ref w_PRODUCED)] [(.ref w_BOTH)])) _
        refine XS.astore X50.here hx rfl (hb hby d1_26) rfl rfl (l' := #[.val (.int p1), .val (.int p2), .val (.ref w_UNUSED), .val (.ref bv), .val (.int (4 : Int32)), .val (.int (3 : Int32)), .val (.ref w_BOTH)]) rfl ?_
        show Steps p.tables e below (T50.setTop (mkF m 28 #[.val (.int p1), .val (.int p2), .val (.ref w_UNUSED), .val (.ref bv), .val (.int (4 : Int32)), .val (.int (3 : Int32)), .val (.ref w_BOTH)] [])) _
        refine XS.aload X50.here hx rfl (hb hby d1_28) rfl rfl ?_
        show Steps p.tables e below (T50.setTop (mkF m 30 #[.val (.int p1), .val (.int p2), .val (.ref w_UNUSED), .val (.ref bv), .val (.int (4 : Int32)), .val (.int (3 : Int32)), .val (.ref w_BOTH)] [(.ref w_BOTH)])) _
        refine st52 _ ?_
        show Steps p.tables e below (T52.setTop (mkF m 33 #[.val (.int p1), .val (.int p2), .val (.ref w_UNUSED), .val (.ref bv), .val (.int (4 : Int32)), .val (.int (3 : Int32)), .val (.ref w_BOTH)] [(.int (1 : Int32))])) _
        refine XS.iloadN X52.here hx rfl (hb hby d1_33) rfl ?_
        show Steps p.tables e below (T52.setTop (mkF m 34 #[.val (.int p1), .val (.int p2), .val (.ref w_UNUSED), .val (.ref bv), .val (.int (4 : Int32)), .val (.int (3 : Int32)), .val (.ref w_BOTH)] [(.int p1), (.int (1 : Int32))])) _
        refine XS.icmpNo X52.here hx rfl (hb hby d1_34) rfl (teq h1.symm).2 ?_
        show Steps p.tables e below (T52.setTop (mkF m 37 #[.val (.int p1), .val (.int p2), .val (.ref w_UNUSED), .val (.ref bv), .val (.int (4 : Int32)), .val (.int (3 : Int32)), .val (.ref w_BOTH)] [])) _
        refine XS.aload X52.here hx rfl (hb hby d1_37) rfl rfl ?_
        show Steps p.tables e below (T52.setTop (mkF m 39 #[.val (.int p1), .val (.int p2), .val (.ref w_UNUSED), .val (.ref bv), .val (.int (4 : Int32)), .val (.int (3 : Int32)), .val (.ref w_BOTH)] [(.ref w_BOTH)])) _
        refine st53 _ ?_
        show Steps p.tables e below (T53.setTop (mkF m 42 #[.val (.int p1), .val (.int p2), .val (.ref w_UNUSED), .val (.ref bv), .val (.int (4 : Int32)), .val (.int (3 : Int32)), .val (.ref w_BOTH)] [(.int (1 : Int32))])) _
        refine XS.iloadN X53.here hx rfl (hb hby d1_42) rfl ?_
        show Steps p.tables e below (T53.setTop (mkF m 43 #[.val (.int p1), .val (.int p2), .val (.ref w_UNUSED), .val (.ref bv), .val (.int (4 : Int32)), .val (.int (3 : Int32)), .val (.ref w_BOTH)] [(.int p2), (.int (1 : Int32))])) _
        refine XS.icmpNo X53.here hx rfl (hb hby d1_43) rfl (teq h2.symm).2 ?_
        show Steps p.tables e below (T53.setTop (mkF m 46 #[.val (.int p1), .val (.int p2), .val (.ref w_UNUSED), .val (.ref bv), .val (.int (4 : Int32)), .val (.int (3 : Int32)), .val (.ref w_BOTH)] [])) _
        refine XS.aload X53.here hx rfl (hb hby d1_46) rfl rfl ?_
        show Steps p.tables e below (T53.setTop (mkF m 48 #[.val (.int p1), .val (.int p2), .val (.ref w_UNUSED), .val (.ref bv), .val (.int (4 : Int32)), .val (.int (3 : Int32)), .val (.ref w_BOTH)] [(.ref w_BOTH)])) _
        refine XS.astoreN X53.here hx rfl (hb hby d1_48) rfl rfl (l' := #[.val (.int p1), .val (.int p2), .val (.ref w_BOTH), .val (.ref bv), .val (.int (4 : Int32)), .val (.int (3 : Int32)), .val (.ref w_BOTH)]) rfl ?_
        show Steps p.tables e below (T53.setTop (mkF m 49 #[.val (.int p1), .val (.int p2), .val (.ref w_BOTH), .val (.ref bv), .val (.int (4 : Int32)), .val (.int (3 : Int32)), .val (.ref w_BOTH)] [])) _
        refine XS.iinc X53.here hx rfl (hb hby d1_49) rfl (l' := #[.val (.int p1), .val (.int p2), .val (.ref w_BOTH), .val (.ref bv), .val (.int (4 : Int32)), .val (.int (4 : Int32)), .val (.ref w_BOTH)]) rfl ?_
        show Steps p.tables e below (T53.setTop (mkF m 52 #[.val (.int p1), .val (.int p2), .val (.ref w_BOTH), .val (.ref bv), .val (.int (4 : Int32)), .val (.int (4 : Int32)), .val (.ref w_BOTH)] [])) _
        refine XS.goto X53.here hx rfl (pc0 := 52) (pc' := 15) rfl (hb hby d1_52) (by decide) (by decide) ?_
        show Steps p.tables e below (T53.setTop (mkF m 15 #[.val (.int p1), .val (.int p2), .val (.ref w_BOTH), .val (.ref bv), .val (.int (4 : Int32)), .val (.int (4 : Int32)), .val (.ref w_BOTH)] [])) _
        refine XS.iload X53.here hx rfl (hb hby d1_15) rfl ?_
        show Steps p.tables e below (T53.setTop (mkF m 17 #[.val (.int p1), .val (.int p2), .val (.ref w_BOTH), .val (.ref bv), .val (.int (4 : Int32)), .val (.int (4 : Int32)), .val (.ref w_BOTH)] [(.int (4 : Int32))])) _
        refine XS.iload X53.here hx rfl (hb hby d1_17) rfl ?_
        show Steps p.tables e below (T53.setTop (mkF m 19 #[.val (.int p1), .val (.int p2), .val (.ref w_BOTH), .val (.ref bv), .val (.int (4 : Int32)), .val (.int (4 : Int32)), .val (.ref w_BOTH)] [(.int (4 : Int32)), (.int (4 : Int32))])) _
        refine XS.icmpYes X53.here hx rfl (pc0 := 19) (pc' := 55) rfl (hb hby d1_19) rfl (flt (by decide : ¬ ((4 : Int32) < (4 : Int32)))).2.1 (by decide) (by decide) ?_
        show Steps p.tables e below (T53.setTop (mkF m 55 #[.val (.int p1), .val (.int p2), .val (.ref w_BOTH), .val (.ref bv), .val (.int (4 : Int32)), .val (.int (4 : Int32)), .val (.ref w_BOTH)] [])) _
        refine XS.aloadN X53.here hx rfl (hb hby d1_55) rfl rfl ?_
        exact kt
      obtain ⟨fs, hr, hrun, hended, hW, hsame⟩ := X53.leave (v := some (.ref w_BOTH)) (fun h => by rw [Bd.returns] at h; cases h)
      refine ⟨_, _, pre54 _ ?_, hrun, hended, _, _, rfl, ?_, ⟨_, rfl⟩, hW, hsame.mono (by decide) (by decide)⟩
      · show Steps p.tables e below (T53.setTop (mkF m 56 #[.val (.int p1), .val (.int p2), .val (.ref w_BOTH), .val (.ref bv), .val (.int (4 : Int32)), .val (.int (4 : Int32)), .val (.ref w_BOTH)] [(.ref w_BOTH)])) _
        jvm_step X53.here [X53.here.top, hx, (hb hby d1_56), X53.method', Bd.returns, Value.isRef, FieldType.isReference]
        first | (intro acts; rw [hr _ acts rfl rfl rfl]) | rw [hr _ _ rfl rfl rfl]
        exact Steps.refl _
      · show QO Z r h0 n0 _ T53.heap _
        rw [e53]
        exact ⟨by rw [hr0]; simp [h1, h2], N42, Ex42⟩
def Q0 (Z : State) (h0 : Heap) (n0 : Nat) (v : Option Value) (h : Heap) (L : List Loc) : Prop := v = some (.int (1 : Int32)) ∧ Fr n0 L
theorem pn_rm0 : plainName "com/example/driftwell/driftwell/RoleOfPinLaw" = true := by first | (simp [plainName, overriddenIn]; done) | decide +kernel
theorem pd_rm0_0 : parseMethodDescriptor "(ZZ)Lcom/example/driftwell/driftwell/Roles$Role;" = some ⟨[.boolean, .boolean], some (.object "com/example/driftwell/driftwell/Roles$Role")⟩ := by decide +kernel
theorem pd_rm0_1 : parseMethodDescriptor "()Z" = some ⟨[], some .boolean⟩ := by decide +kernel
theorem ef_rm0 (m : MethodId) (p1 : Int32) : entryFrame m #[(.int p1)] maxLocals = mkF m 0 #[.val (.int p1), .unset, .unset, .unset, .unset] [] := by first | (simp [entryFrame, mkF, argsToLocals, Value.category, maxLocals]; done) | rfl
set_option maxRecDepth 65536 in
set_option maxHeartbeats 40000000 in
theorem rm0 (l : Launch) (Z : State) (a0 : Array Value) (hw : ∀ d ∈ tables_1, d.before a0 Z = true) (ws : List Jvm.Cond) (p1 : Int32) (w_VALUES : Addr) (kV : ClassId) (w_UNUSED w_CONSUMED w_PRODUCED w_BOTH : Addr) (h0 : Heap) (n0 : Nat) (Z0 : n0 ≤ h0.size) (S_UNUSED : Sta Z h0 "com/example/driftwell/driftwell/Roles$Role" "UNUSED" "Lcom/example/driftwell/driftwell/Roles$Role;" (.ref w_UNUSED)) (S_CONSUMED : Sta Z h0 "com/example/driftwell/driftwell/Roles$Role" "CONSUMED" "Lcom/example/driftwell/driftwell/Roles$Role;" (.ref w_CONSUMED)) (S_PRODUCED : Sta Z h0 "com/example/driftwell/driftwell/Roles$Role" "PRODUCED" "Lcom/example/driftwell/driftwell/Roles$Role;" (.ref w_PRODUCED)) (S_BOTH : Sta Z h0 "com/example/driftwell/driftwell/Roles$Role" "BOTH" "Lcom/example/driftwell/driftwell/Roles$Role;" (.ref w_BOTH)) (S_VALUES : Sta Z h0 "com/example/driftwell/driftwell/Roles$Role" "$VALUES" "[Lcom/example/driftwell/driftwell/Roles$Role;" (.ref w_VALUES)) (V_VALUES : Arv Z h0 w_VALUES kV (.object "com/example/driftwell/driftwell/Roles$Role") (4 : Int32) [(.ref w_UNUSED), (.ref w_CONSUMED), (.ref w_PRODUCED), (.ref w_BOTH)] .null) (E_VALUES : Exa Z h0 w_VALUES "[Lcom/example/driftwell/driftwell/Roles$Role;") (F_UNUSED_consumed : Fld Z h0 w_UNUSED "com/example/driftwell/driftwell/Roles$Role" "consumed" "Z" (.int (0 : Int32))) (F_UNUSED_produced : Fld Z h0 w_UNUSED "com/example/driftwell/driftwell/Roles$Role" "produced" "Z" (.int (0 : Int32))) (F_CONSUMED_consumed : Fld Z h0 w_CONSUMED "com/example/driftwell/driftwell/Roles$Role" "consumed" "Z" (.int (1 : Int32))) (F_CONSUMED_produced : Fld Z h0 w_CONSUMED "com/example/driftwell/driftwell/Roles$Role" "produced" "Z" (.int (0 : Int32))) (F_PRODUCED_consumed : Fld Z h0 w_PRODUCED "com/example/driftwell/driftwell/Roles$Role" "consumed" "Z" (.int (0 : Int32))) (F_PRODUCED_produced : Fld Z h0 w_PRODUCED "com/example/driftwell/driftwell/Roles$Role" "produced" "Z" (.int (1 : Int32))) (F_BOTH_consumed : Fld Z h0 w_BOTH "com/example/driftwell/driftwell/Roles$Role" "consumed" "Z" (.int (1 : Int32))) (F_BOTH_produced : Fld Z h0 w_BOTH "com/example/driftwell/driftwell/Roles$Role" "produced" "Z" (.int (1 : Int32))) (E_UNUSED : Exa Z h0 w_UNUSED "com/example/driftwell/driftwell/Roles$Role") (E_CONSUMED : Exa Z h0 w_CONSUMED "com/example/driftwell/driftwell/Roles$Role") (E_PRODUCED : Exa Z h0 w_PRODUCED "com/example/driftwell/driftwell/Roles$Role") (E_BOTH : Exa Z h0 w_BOTH "com/example/driftwell/driftwell/Roles$Role") :
    MetFree l x (head1 (Jvm.Cond.code x code maxLocals ret :: ws) room_1) (fun a U => a = #[(.int p1)] ∧ Z.Warmed39 U.vm ∧ U.heap = h0) (fun _ _ _ _ _ => True) (fun _ U o U' => ∃ v L, o = .returned v ∧ Q0 Z h0 n0 v U'.heap L ∧ FrameEnd U o U' L room_1.cells room_1.slots) := by
  refine MetFree.of_bodySF (plainFor_of_name pn_rm0) hisR ?_
  intro p e s m args below meth c s₁ Bd hml0 hP hK
  obtain ⟨rfl, hZ, hh⟩ := hP
  have hx := Bd.exec
  have hby := Bd.bytes
  have hml : c.maxLocals = 5 := hml0
  have hown : s.vm.findClass "com/example/driftwell/driftwell/RoleOfPinLaw" = some m.cls := findClass_of_methodNamed Bd.named
  have hnm := (name_of_methodNamed Bd.named Bd.method).1
  have X0 : Stand p l e room_1 s m #[(.int p1)] below meth c s₁ [] 0 0 := Stand.of_body Bd
  have e0 : s₁.heap = h0 := by rw [← hh, Bd.state]; rfl
  have N0 := Fr.nil n0
  have pre0 : ∀ tt, Steps p.tables e below (s₁.setTop (mkF m 0 #[.val (.int p1), .unset, .unset, .unset, .unset] [])) tt → Steps p.tables e below (s₁.setTop (entryFrame m #[(.int p1)] maxLocals)) tt := fun tt kt => castTop (ef_rm0 m p1) kt
  have pre1 : ∀ tt, Steps p.tables e below (s₁.setTop (mkF m 3 #[.val (.int p1), .unset, .unset, .unset, .unset] [(.int (p1 &&& (1 : Int32)))])) tt → Steps p.tables e below (s₁.setTop (entryFrame m #[(.int p1)] maxLocals)) tt := by
    intro tt kt
    refine pre0 tt ?_
    show Steps p.tables e below (s₁.setTop (mkF m 0 #[.val (.int p1), .unset, .unset, .unset, .unset] [])) _
    refine XS.iloadN X0.here hx rfl (hb hby at_0) rfl ?_
    show Steps p.tables e below (s₁.setTop (mkF m 1 #[.val (.int p1), .unset, .unset, .unset, .unset] [(.int p1)])) _
    refine XS.iconst X0.here hx rfl (hb hby at_1) ?_
    show Steps p.tables e below (s₁.setTop (mkF m 2 #[.val (.int p1), .unset, .unset, .unset, .unset] [(.int (1 : Int32)), (.int p1)])) _
    refine XS.iand X0.here hx rfl (hb hby at_2) rfl ?_
    exact kt
  by_cases c3_2 : (p1 &&& (1 : Int32)) = (0 : Int32)
  · have pre3 : ∀ tt, Steps p.tables e below (s₁.setTop (mkF m 15 #[.val (.int p1), .val (.int (0 : Int32)), .unset, .unset, .unset] [(.int (p1 &&& (2 : Int32)))])) tt → Steps p.tables e below (s₁.setTop (entryFrame m #[(.int p1)] maxLocals)) tt := by
      intro tt kt
      refine pre1 tt ?_
      show Steps p.tables e below (s₁.setTop (mkF m 3 #[.val (.int p1), .unset, .unset, .unset, .unset] [(.int (p1 &&& (1 : Int32)))])) _
      refine XS.ifYes X0.here hx rfl (pc0 := 3) (pc' := 10) rfl (hb hby at_3) rfl ((if0 _ _).trans (teq c3_2).1) (by decide) (by decide) ?_
      show Steps p.tables e below (s₁.setTop (mkF m 10 #[.val (.int p1), .unset, .unset, .unset, .unset] [])) _
      refine XS.iconst X0.here hx rfl (hb hby at_10) ?_
      show Steps p.tables e below (s₁.setTop (mkF m 11 #[.val (.int p1), .unset, .unset, .unset, .unset] [(.int (0 : Int32))])) _
      refine XS.istoreN X0.here hx rfl (hb hby at_11) rfl (l' := #[.val (.int p1), .val (.int (0 : Int32)), .unset, .unset, .unset]) rfl ?_
      show Steps p.tables e below (s₁.setTop (mkF m 12 #[.val (.int p1), .val (.int (0 : Int32)), .unset, .unset, .unset] [])) _
      refine XS.iloadN X0.here hx rfl (hb hby at_12) rfl ?_
      show Steps p.tables e below (s₁.setTop (mkF m 13 #[.val (.int p1), .val (.int (0 : Int32)), .unset, .unset, .unset] [(.int p1)])) _
      refine XS.iconst X0.here hx rfl (hb hby at_13) ?_
      show Steps p.tables e below (s₁.setTop (mkF m 14 #[.val (.int p1), .val (.int (0 : Int32)), .unset, .unset, .unset] [(.int (2 : Int32)), (.int p1)])) _
      refine XS.iand X0.here hx rfl (hb hby at_14) rfl ?_
      exact kt
    by_cases c15_4 : (p1 &&& (2 : Int32)) = (0 : Int32)
    · obtain ⟨T5, X5, e5, st5⟩ := getS2 X0 hx hZ hown (host := "") (Or.inl (hw _ (List.mem_of_getElem? (i := 0) rfl))) Via.refl e0 S_UNUSED (g := (mkF m 57 #[.val (.int p1), .val (.int (0 : Int32)), .val (.int (0 : Int32)), .unset, .unset] [])) rfl (hb hby at_57)
      obtain ⟨_, _, ⟨T6, L6, k6, n6⟩, -, X6, ⟨Lc6, hQ6, l6, y6, z6⟩, st6⟩ := Jvm.LawKit.callS X5 hx (y := (⟨"com/example/driftwell/driftwell/Roles$Role", "of", "(ZZ)Lcom/example/driftwell/driftwell/Roles$Role;"⟩ : MethodName)) hown (mvT hZ (hw _ (List.mem_of_getElem? (i := 3) rfl))) (mvT hZ (hw _ (List.mem_of_getElem? (i := 4) rfl))) (mvT hZ (hw _ (List.mem_of_getElem? (i := 1) rfl))) (mvT hZ (hw _ (List.mem_of_getElem? (i := 5) rfl))) (by decide) (backOf (W := 0) (rm_of l Z a0 hw [] (0 : Int32) (0 : Int32) w_VALUES kV w_UNUSED w_CONSUMED w_PRODUCED w_BOTH w_UNUSED h0 n0 Z0 S_UNUSED S_VALUES V_VALUES E_VALUES F_UNUSED_consumed F_UNUSED_produced F_CONSUMED_consumed F_CONSUMED_produced F_PRODUCED_consumed F_PRODUCED_produced F_BOTH_consumed F_BOTH_produced (by decide) (by decide) (by simp)) hZ (hw _ (List.mem_of_getElem? (i := 5) rfl)) (hw _ (List.mem_of_getElem? (i := 1) rfl)) (by decide) (by decide)) (g := (mkF m 63 #[.val (.int p1), .val (.int (0 : Int32)), .val (.int (0 : Int32)), .val (.ref w_UNUSED), .unset] [(.int (0 : Int32)), (.int (0 : Int32))])) rfl (by rw [hml]; rfl) (argsL := [(.int (0 : Int32)), (.int (0 : Int32))]) (rest := []) (lenOf pd_rm0_0 rfl) rfl (by show 2 * 0 + _ ≤ _; exact Nat.le_of_eq rfl) (hb hby at_63) (fun _ _ => ⟨rfl, e5, (by decide : 0 + 1 ≤ _), (by decide : 0 + 4 ≤ _)⟩)
      dsimp only [Pt.U, Pt.locs, Pt.cells, Pt.slots] at X6 l6 y6 z6 st6 hQ6
      subst l6 y6 z6
      obtain ⟨rfl, N6q, Ex6⟩ := hQ6
      have N6 := Fr.app N0 N6q
      obtain ⟨cq7, kq7, q7a, q7b, q7c⟩ := isOf hZ rfl (Exa.ext Ex6 E_UNUSED)
      obtain ⟨_, _, ⟨T7, L7, k7, n7⟩, -, X7, ⟨Lc7, hQ7, l7, y7, z7⟩, st7⟩ := X6.virtualBack hx (y := (⟨"com/example/driftwell/driftwell/Roles$Role", "consumed", "()Z"⟩ : MethodName)) (z := (⟨"com/example/driftwell/driftwell/Roles$Role", "consumed", "()Z"⟩ : MethodName)) hown (mvT hZ (hw _ (List.mem_of_getElem? (i := 29) rfl))) (mvT hZ (hw _ (List.mem_of_getElem? (i := 30) rfl))) (notFace_of_selects (args := #[]) (mvT hZ (hw _ (List.mem_of_getElem? (i := 32) rfl)))) (mvT hZ (hw _ (List.mem_of_getElem? (i := 32) rfl))) (mvT hZ (hw _ (List.mem_of_getElem? (i := 31) rfl))) (by decide) (backOf (W := 0) (rm_consumed l Z a0 hw [] w_UNUSED (0 : Int32) T6.heap n0 (Nat.le_trans Z0 Ex6.1) (Fld.ext Ex6 F_UNUSED_consumed) (by decide)) hZ (hw _ (List.mem_of_getElem? (i := 33) rfl)) (hw _ (List.mem_of_getElem? (i := 1) rfl)) (by decide) (by decide)) q7a q7c (g := (mkF m 76 #[.val (.int p1), .val (.int (0 : Int32)), .val (.int (0 : Int32)), .val (.ref w_UNUSED), .val (.ref w_UNUSED)] [(.ref w_UNUSED)])) rfl (by rw [hml]; rfl) (Steps.refl _) (argsL := []) (rest := []) (lenOf pd_rm0_1 rfl) rfl (by show 2 * 0 + _ ≤ _; exact Nat.le_of_eq rfl) (hb hby at_76) (fun _ _ => ⟨rfl, rfl, (by decide : 1 + 0 ≤ _), (by decide : 4 + 0 ≤ _)⟩)
      dsimp only [Pt.U, Pt.locs, Pt.cells, Pt.slots] at X7 l7 y7 z7 st7 hQ7
      subst l7 y7 z7
      obtain ⟨rfl, N7q, hE7⟩ := hQ7
      have N7 := Fr.app N6 N7q
      obtain ⟨cq8, kq8, q8a, q8b, q8c⟩ := isOf hZ hE7 (Exa.ext Ex6 E_UNUSED)
      obtain ⟨_, _, ⟨T8, L8, k8, n8⟩, -, X8, ⟨Lc8, hQ8, l8, y8, z8⟩, st8⟩ := X7.virtualBack hx (y := (⟨"com/example/driftwell/driftwell/Roles$Role", "produced", "()Z"⟩ : MethodName)) (z := (⟨"com/example/driftwell/driftwell/Roles$Role", "produced", "()Z"⟩ : MethodName)) hown (mvT hZ (hw _ (List.mem_of_getElem? (i := 34) rfl))) (mvT hZ (hw _ (List.mem_of_getElem? (i := 35) rfl))) (notFace_of_selects (args := #[]) (mvT hZ (hw _ (List.mem_of_getElem? (i := 37) rfl)))) (mvT hZ (hw _ (List.mem_of_getElem? (i := 37) rfl))) (mvT hZ (hw _ (List.mem_of_getElem? (i := 36) rfl))) (by decide) (backOf (W := 0) (rm_produced l Z a0 hw [] w_UNUSED (0 : Int32) T6.heap n0 (Nat.le_trans Z0 Ex6.1) (Fld.ext Ex6 F_UNUSED_produced) (by decide)) hZ (hw _ (List.mem_of_getElem? (i := 38) rfl)) (hw _ (List.mem_of_getElem? (i := 1) rfl)) (by decide) (by decide)) q8a q8c (g := (mkF m 85 #[.val (.int p1), .val (.int (0 : Int32)), .val (.int (0 : Int32)), .val (.ref w_UNUSED), .val (.ref w_UNUSED)] [(.ref w_UNUSED)])) rfl (by rw [hml]; rfl) (Steps.refl _) (argsL := []) (rest := []) (lenOf pd_rm0_1 rfl) rfl (by show 2 * 0 + _ ≤ _; exact Nat.le_of_eq rfl) (hb hby at_85) (fun _ _ => ⟨rfl, hE7, (by decide : 1 + 0 ≤ _), (by decide : 4 + 0 ≤ _)⟩)
      dsimp only [Pt.U, Pt.locs, Pt.cells, Pt.slots] at X8 l8 y8 z8 st8 hQ8
      subst l8 y8 z8
      obtain ⟨rfl, N8q, hE8⟩ := hQ8
      have N8 := Fr.app N7 N8q
      have pre9 : ∀ tt, Steps p.tables e below (T8.setTop (mkF m 97 #[.val (.int p1), .val (.int (0 : Int32)), .val (.int (0 : Int32)), .val (.ref w_UNUSED), .val (.ref w_UNUSED)] [(.int (1 : Int32))])) tt → Steps p.tables e below (s₁.setTop (entryFrame m #[(.int p1)] maxLocals)) tt := by
        intro tt kt
        refine pre3 tt ?_
        show Steps p.tables e below (s₁.setTop (mkF m 15 #[.val (.int p1), .val (.int (0 : Int32)), .unset, .unset, .unset] [(.int (p1 &&& (2 : Int32)))])) _
        refine XS.ifYes X0.here hx rfl (pc0 := 15) (pc' := 22) rfl (hb hby at_15) rfl ((if0 _ _).trans (teq c15_4).1) (by decide) (by decide) ?_
        show Steps p.tables e below (s₁.setTop (mkF m 22 #[.val (.int p1), .val (.int (0 : Int32)), .unset, .unset, .unset] [])) _
        refine XS.iconst X0.here hx rfl (hb hby at_22) ?_
        show Steps p.tables e below (s₁.setTop (mkF m 23 #[.val (.int p1), .val (.int (0 : Int32)), .unset, .unset, .unset] [(.int (0 : Int32))])) _
        refine XS.istoreN X0.here hx rfl (hb hby at_23) rfl (l' := #[.val (.int p1), .val (.int (0 : Int32)), .val (.int (0 : Int32)), .unset, .unset]) rfl ?_
        show Steps p.tables e below (s₁.setTop (mkF m 24 #[.val (.int p1), .val (.int (0 : Int32)), .val (.int (0 : Int32)), .unset, .unset] [])) _
        refine XS.iloadN X0.here hx rfl (hb hby at_24) rfl ?_
        show Steps p.tables e below (s₁.setTop (mkF m 25 #[.val (.int p1), .val (.int (0 : Int32)), .val (.int (0 : Int32)), .unset, .unset] [(.int (0 : Int32))])) _
        refine XS.ifYes X0.here hx rfl (pc0 := 25) (pc' := 46) rfl (hb hby at_25) rfl ((if0 _ _).trans (teq (rfl : (0 : Int32) = (0 : Int32))).1) (by decide) (by decide) ?_
        show Steps p.tables e below (s₁.setTop (mkF m 46 #[.val (.int p1), .val (.int (0 : Int32)), .val (.int (0 : Int32)), .unset, .unset] [])) _
        refine XS.iloadN X0.here hx rfl (hb hby at_46) rfl ?_
        show Steps p.tables e below (s₁.setTop (mkF m 47 #[.val (.int p1), .val (.int (0 : Int32)), .val (.int (0 : Int32)), .unset, .unset] [(.int (0 : Int32))])) _
        refine XS.ifYes X0.here hx rfl (pc0 := 47) (pc' := 57) rfl (hb hby at_47) rfl ((if0 _ _).trans (teq (rfl : (0 : Int32) = (0 : Int32))).1) (by decide) (by decide) ?_
        show Steps p.tables e below (s₁.setTop (mkF m 57 #[.val (.int p1), .val (.int (0 : Int32)), .val (.int (0 : Int32)), .unset, .unset] [])) _
        refine st5 _ ?_
        show Steps p.tables e below (T5.setTop (mkF m 60 #[.val (.int p1), .val (.int (0 : Int32)), .val (.int (0 : Int32)), .unset, .unset] [(.ref w_UNUSED)])) _
        refine XS.astoreN X5.here hx rfl (hb hby at_60) rfl rfl (l' := #[.val (.int p1), .val (.int (0 : Int32)), .val (.int (0 : Int32)), .val (.ref w_UNUSED), .unset]) rfl ?_
        show Steps p.tables e below (T5.setTop (mkF m 61 #[.val (.int p1), .val (.int (0 : Int32)), .val (.int (0 : Int32)), .val (.ref w_UNUSED), .unset] [])) _
        refine XS.iloadN X5.here hx rfl (hb hby at_61) rfl ?_
        show Steps p.tables e below (T5.setTop (mkF m 62 #[.val (.int p1), .val (.int (0 : Int32)), .val (.int (0 : Int32)), .val (.ref w_UNUSED), .unset] [(.int (0 : Int32))])) _
        refine XS.iloadN X5.here hx rfl (hb hby at_62) rfl ?_
        show Steps p.tables e below (T5.setTop (mkF m 63 #[.val (.int p1), .val (.int (0 : Int32)), .val (.int (0 : Int32)), .val (.ref w_UNUSED), .unset] [(.int (0 : Int32)), (.int (0 : Int32))])) _
        refine st6 _ ?_
        show Steps p.tables e below (T6.setTop (mkF m 66 #[.val (.int p1), .val (.int (0 : Int32)), .val (.int (0 : Int32)), .val (.ref w_UNUSED), .unset] [(.ref w_UNUSED)])) _
        refine XS.astore X6.here hx rfl (hb hby at_66) rfl rfl (l' := #[.val (.int p1), .val (.int (0 : Int32)), .val (.int (0 : Int32)), .val (.ref w_UNUSED), .val (.ref w_UNUSED)]) rfl ?_
        show Steps p.tables e below (T6.setTop (mkF m 68 #[.val (.int p1), .val (.int (0 : Int32)), .val (.int (0 : Int32)), .val (.ref w_UNUSED), .val (.ref w_UNUSED)] [])) _
        refine XS.aload X6.here hx rfl (hb hby at_68) rfl rfl ?_
        show Steps p.tables e below (T6.setTop (mkF m 70 #[.val (.int p1), .val (.int (0 : Int32)), .val (.int (0 : Int32)), .val (.ref w_UNUSED), .val (.ref w_UNUSED)] [(.ref w_UNUSED)])) _
        refine XS.aloadN X6.here hx rfl (hb hby at_70) rfl rfl ?_
        show Steps p.tables e below (T6.setTop (mkF m 71 #[.val (.int p1), .val (.int (0 : Int32)), .val (.int (0 : Int32)), .val (.ref w_UNUSED), .val (.ref w_UNUSED)] [(.ref w_UNUSED), (.ref w_UNUSED)])) _
        refine Jvm.RoadKit.acmp (g := (mkF m 71 #[.val (.int p1), .val (.int (0 : Int32)), .val (.int (0 : Int32)), .val (.ref w_UNUSED), .val (.ref w_UNUSED)] [(.ref w_UNUSED), (.ref w_UNUSED)])) X6 hx rfl rfl rfl (pc0 := 71) (pc' := 74) (same := true) rfl (hb hby at_71) rfl (decide_eq_true rfl) (by decide) (by decide) ?_
        show Steps p.tables e below (T6.setTop (mkF m 74 #[.val (.int p1), .val (.int (0 : Int32)), .val (.int (0 : Int32)), .val (.ref w_UNUSED), .val (.ref w_UNUSED)] [])) _
        refine XS.aload X6.here hx rfl (hb hby at_74) rfl rfl ?_
        show Steps p.tables e below (T6.setTop (mkF m 76 #[.val (.int p1), .val (.int (0 : Int32)), .val (.int (0 : Int32)), .val (.ref w_UNUSED), .val (.ref w_UNUSED)] [(.ref w_UNUSED)])) _
        refine st7.trans ?_
        show Steps p.tables e below (T7.setTop (mkF m 79 #[.val (.int p1), .val (.int (0 : Int32)), .val (.int (0 : Int32)), .val (.ref w_UNUSED), .val (.ref w_UNUSED)] [(.int (0 : Int32))])) _
        refine XS.iloadN X7.here hx rfl (hb hby at_79) rfl ?_
        show Steps p.tables e below (T7.setTop (mkF m 80 #[.val (.int p1), .val (.int (0 : Int32)), .val (.int (0 : Int32)), .val (.ref w_UNUSED), .val (.ref w_UNUSED)] [(.int (0 : Int32)), (.int (0 : Int32))])) _
        refine XS.icmpNo X7.here hx rfl (hb hby at_80) rfl (teq (rfl : (0 : Int32) = (0 : Int32))).2 ?_
        show Steps p.tables e below (T7.setTop (mkF m 83 #[.val (.int p1), .val (.int (0 : Int32)), .val (.int (0 : Int32)), .val (.ref w_UNUSED), .val (.ref w_UNUSED)] [])) _
        refine XS.aload X7.here hx rfl (hb hby at_83) rfl rfl ?_
        show Steps p.tables e below (T7.setTop (mkF m 85 #[.val (.int p1), .val (.int (0 : Int32)), .val (.int (0 : Int32)), .val (.ref w_UNUSED), .val (.ref w_UNUSED)] [(.ref w_UNUSED)])) _
        refine st8.trans ?_
        show Steps p.tables e below (T8.setTop (mkF m 88 #[.val (.int p1), .val (.int (0 : Int32)), .val (.int (0 : Int32)), .val (.ref w_UNUSED), .val (.ref w_UNUSED)] [(.int (0 : Int32))])) _
        refine XS.iloadN X8.here hx rfl (hb hby at_88) rfl ?_
        show Steps p.tables e below (T8.setTop (mkF m 89 #[.val (.int p1), .val (.int (0 : Int32)), .val (.int (0 : Int32)), .val (.ref w_UNUSED), .val (.ref w_UNUSED)] [(.int (0 : Int32)), (.int (0 : Int32))])) _
        refine XS.icmpNo X8.here hx rfl (hb hby at_89) rfl (teq (rfl : (0 : Int32) = (0 : Int32))).2 ?_
        show Steps p.tables e below (T8.setTop (mkF m 92 #[.val (.int p1), .val (.int (0 : Int32)), .val (.int (0 : Int32)), .val (.ref w_UNUSED), .val (.ref w_UNUSED)] [])) _
        refine XS.iconst X8.here hx rfl (hb hby at_92) ?_
        show Steps p.tables e below (T8.setTop (mkF m 93 #[.val (.int p1), .val (.int (0 : Int32)), .val (.int (0 : Int32)), .val (.ref w_UNUSED), .val (.ref w_UNUSED)] [(.int (1 : Int32))])) _
        refine XS.goto X8.here hx rfl (pc0 := 93) (pc' := 97) rfl (hb hby at_93) (by decide) (by decide) ?_
        exact kt
      obtain ⟨fs, hr, hrun, hended, hW, hsame⟩ := X8.leave (v := some (.int (1 : Int32))) (fun h => by rw [Bd.returns] at h; cases h)
      refine ⟨_, _, pre9 _ ?_, hrun, hended, _, _, rfl, ?_, ⟨_, rfl⟩, hW, hsame.mono (by decide) (by decide)⟩
      · show Steps p.tables e below (T8.setTop (mkF m 97 #[.val (.int p1), .val (.int (0 : Int32)), .val (.int (0 : Int32)), .val (.ref w_UNUSED), .val (.ref w_UNUSED)] [(.int (1 : Int32))])) _
        exact retN X8 hx (t := .boolean) Bd.returns (by simp) (hb hby at_97) hr
      · show Q0 Z h0 n0 _ T8.heap _
        rw [hE8]
        exact ⟨rfl, N8⟩
    · obtain ⟨T10, X10, e10, st10⟩ := getS2 X0 hx hZ hown (host := "") (Or.inl (hw _ (List.mem_of_getElem? (i := 40) rfl))) Via.refl e0 S_PRODUCED (g := (mkF m 50 #[.val (.int p1), .val (.int (0 : Int32)), .val (.int (1 : Int32)), .unset, .unset] [])) rfl (hb hby at_50)
      obtain ⟨_, _, ⟨T11, L11, k11, n11⟩, -, X11, ⟨Lc11, hQ11, l11, y11, z11⟩, st11⟩ := Jvm.LawKit.callS X10 hx (y := (⟨"com/example/driftwell/driftwell/Roles$Role", "of", "(ZZ)Lcom/example/driftwell/driftwell/Roles$Role;"⟩ : MethodName)) hown (mvT hZ (hw _ (List.mem_of_getElem? (i := 3) rfl))) (mvT hZ (hw _ (List.mem_of_getElem? (i := 4) rfl))) (mvT hZ (hw _ (List.mem_of_getElem? (i := 1) rfl))) (mvT hZ (hw _ (List.mem_of_getElem? (i := 5) rfl))) (by decide) (backOf (W := 0) (rm_of l Z a0 hw [] (0 : Int32) (1 : Int32) w_VALUES kV w_UNUSED w_CONSUMED w_PRODUCED w_BOTH w_PRODUCED h0 n0 Z0 S_UNUSED S_VALUES V_VALUES E_VALUES F_UNUSED_consumed F_UNUSED_produced F_CONSUMED_consumed F_CONSUMED_produced F_PRODUCED_consumed F_PRODUCED_produced F_BOTH_consumed F_BOTH_produced (by decide) (by decide) (by simp)) hZ (hw _ (List.mem_of_getElem? (i := 5) rfl)) (hw _ (List.mem_of_getElem? (i := 1) rfl)) (by decide) (by decide)) (g := (mkF m 63 #[.val (.int p1), .val (.int (0 : Int32)), .val (.int (1 : Int32)), .val (.ref w_PRODUCED), .unset] [(.int (1 : Int32)), (.int (0 : Int32))])) rfl (by rw [hml]; rfl) (argsL := [(.int (0 : Int32)), (.int (1 : Int32))]) (rest := []) (lenOf pd_rm0_0 rfl) rfl (by show 2 * 0 + _ ≤ _; exact Nat.le_of_eq rfl) (hb hby at_63) (fun _ _ => ⟨rfl, e10, (by decide : 0 + 1 ≤ _), (by decide : 0 + 4 ≤ _)⟩)
      dsimp only [Pt.U, Pt.locs, Pt.cells, Pt.slots] at X11 l11 y11 z11 st11 hQ11
      subst l11 y11 z11
      obtain ⟨rfl, N11q, Ex11⟩ := hQ11
      have N11 := Fr.app N0 N11q
      obtain ⟨cq12, kq12, q12a, q12b, q12c⟩ := isOf hZ rfl (Exa.ext Ex11 E_PRODUCED)
      obtain ⟨_, _, ⟨T12, L12, k12, n12⟩, -, X12, ⟨Lc12, hQ12, l12, y12, z12⟩, st12⟩ := X11.virtualBack hx (y := (⟨"com/example/driftwell/driftwell/Roles$Role", "consumed", "()Z"⟩ : MethodName)) (z := (⟨"com/example/driftwell/driftwell/Roles$Role", "consumed", "()Z"⟩ : MethodName)) hown (mvT hZ (hw _ (List.mem_of_getElem? (i := 29) rfl))) (mvT hZ (hw _ (List.mem_of_getElem? (i := 30) rfl))) (notFace_of_selects (args := #[]) (mvT hZ (hw _ (List.mem_of_getElem? (i := 32) rfl)))) (mvT hZ (hw _ (List.mem_of_getElem? (i := 32) rfl))) (mvT hZ (hw _ (List.mem_of_getElem? (i := 31) rfl))) (by decide) (backOf (W := 0) (rm_consumed l Z a0 hw [] w_PRODUCED (0 : Int32) T11.heap n0 (Nat.le_trans Z0 Ex11.1) (Fld.ext Ex11 F_PRODUCED_consumed) (by decide)) hZ (hw _ (List.mem_of_getElem? (i := 33) rfl)) (hw _ (List.mem_of_getElem? (i := 1) rfl)) (by decide) (by decide)) q12a q12c (g := (mkF m 76 #[.val (.int p1), .val (.int (0 : Int32)), .val (.int (1 : Int32)), .val (.ref w_PRODUCED), .val (.ref w_PRODUCED)] [(.ref w_PRODUCED)])) rfl (by rw [hml]; rfl) (Steps.refl _) (argsL := []) (rest := []) (lenOf pd_rm0_1 rfl) rfl (by show 2 * 0 + _ ≤ _; exact Nat.le_of_eq rfl) (hb hby at_76) (fun _ _ => ⟨rfl, rfl, (by decide : 1 + 0 ≤ _), (by decide : 4 + 0 ≤ _)⟩)
      dsimp only [Pt.U, Pt.locs, Pt.cells, Pt.slots] at X12 l12 y12 z12 st12 hQ12
      subst l12 y12 z12
      obtain ⟨rfl, N12q, hE12⟩ := hQ12
      have N12 := Fr.app N11 N12q
      obtain ⟨cq13, kq13, q13a, q13b, q13c⟩ := isOf hZ hE12 (Exa.ext Ex11 E_PRODUCED)
      obtain ⟨_, _, ⟨T13, L13, k13, n13⟩, -, X13, ⟨Lc13, hQ13, l13, y13, z13⟩, st13⟩ := X12.virtualBack hx (y := (⟨"com/example/driftwell/driftwell/Roles$Role", "produced", "()Z"⟩ : MethodName)) (z := (⟨"com/example/driftwell/driftwell/Roles$Role", "produced", "()Z"⟩ : MethodName)) hown (mvT hZ (hw _ (List.mem_of_getElem? (i := 34) rfl))) (mvT hZ (hw _ (List.mem_of_getElem? (i := 35) rfl))) (notFace_of_selects (args := #[]) (mvT hZ (hw _ (List.mem_of_getElem? (i := 37) rfl)))) (mvT hZ (hw _ (List.mem_of_getElem? (i := 37) rfl))) (mvT hZ (hw _ (List.mem_of_getElem? (i := 36) rfl))) (by decide) (backOf (W := 0) (rm_produced l Z a0 hw [] w_PRODUCED (1 : Int32) T11.heap n0 (Nat.le_trans Z0 Ex11.1) (Fld.ext Ex11 F_PRODUCED_produced) (by decide)) hZ (hw _ (List.mem_of_getElem? (i := 38) rfl)) (hw _ (List.mem_of_getElem? (i := 1) rfl)) (by decide) (by decide)) q13a q13c (g := (mkF m 85 #[.val (.int p1), .val (.int (0 : Int32)), .val (.int (1 : Int32)), .val (.ref w_PRODUCED), .val (.ref w_PRODUCED)] [(.ref w_PRODUCED)])) rfl (by rw [hml]; rfl) (Steps.refl _) (argsL := []) (rest := []) (lenOf pd_rm0_1 rfl) rfl (by show 2 * 0 + _ ≤ _; exact Nat.le_of_eq rfl) (hb hby at_85) (fun _ _ => ⟨rfl, hE12, (by decide : 1 + 0 ≤ _), (by decide : 4 + 0 ≤ _)⟩)
      dsimp only [Pt.U, Pt.locs, Pt.cells, Pt.slots] at X13 l13 y13 z13 st13 hQ13
      subst l13 y13 z13
      obtain ⟨rfl, N13q, hE13⟩ := hQ13
      have N13 := Fr.app N12 N13q
      have pre14 : ∀ tt, Steps p.tables e below (T13.setTop (mkF m 97 #[.val (.int p1), .val (.int (0 : Int32)), .val (.int (1 : Int32)), .val (.ref w_PRODUCED), .val (.ref w_PRODUCED)] [(.int (1 : Int32))])) tt → Steps p.tables e below (s₁.setTop (entryFrame m #[(.int p1)] maxLocals)) tt := by
        intro tt kt
        refine pre3 tt ?_
        show Steps p.tables e below (s₁.setTop (mkF m 15 #[.val (.int p1), .val (.int (0 : Int32)), .unset, .unset, .unset] [(.int (p1 &&& (2 : Int32)))])) _
        refine XS.ifNo X0.here hx rfl (hb hby at_15) rfl ((if0 _ _).trans (feq c15_4).1) ?_
        show Steps p.tables e below (s₁.setTop (mkF m 18 #[.val (.int p1), .val (.int (0 : Int32)), .unset, .unset, .unset] [])) _
        refine XS.iconst X0.here hx rfl (hb hby at_18) ?_
        show Steps p.tables e below (s₁.setTop (mkF m 19 #[.val (.int p1), .val (.int (0 : Int32)), .unset, .unset, .unset] [(.int (1 : Int32))])) _
        refine XS.goto X0.here hx rfl (pc0 := 19) (pc' := 23) rfl (hb hby at_19) (by decide) (by decide) ?_
        show Steps p.tables e below (s₁.setTop (mkF m 23 #[.val (.int p1), .val (.int (0 : Int32)), .unset, .unset, .unset] [(.int (1 : Int32))])) _
        refine XS.istoreN X0.here hx rfl (hb hby at_23) rfl (l' := #[.val (.int p1), .val (.int (0 : Int32)), .val (.int (1 : Int32)), .unset, .unset]) rfl ?_
        show Steps p.tables e below (s₁.setTop (mkF m 24 #[.val (.int p1), .val (.int (0 : Int32)), .val (.int (1 : Int32)), .unset, .unset] [])) _
        refine XS.iloadN X0.here hx rfl (hb hby at_24) rfl ?_
        show Steps p.tables e below (s₁.setTop (mkF m 25 #[.val (.int p1), .val (.int (0 : Int32)), .val (.int (1 : Int32)), .unset, .unset] [(.int (0 : Int32))])) _
        refine XS.ifYes X0.here hx rfl (pc0 := 25) (pc' := 46) rfl (hb hby at_25) rfl ((if0 _ _).trans (teq (rfl : (0 : Int32) = (0 : Int32))).1) (by decide) (by decide) ?_
        show Steps p.tables e below (s₁.setTop (mkF m 46 #[.val (.int p1), .val (.int (0 : Int32)), .val (.int (1 : Int32)), .unset, .unset] [])) _
        refine XS.iloadN X0.here hx rfl (hb hby at_46) rfl ?_
        show Steps p.tables e below (s₁.setTop (mkF m 47 #[.val (.int p1), .val (.int (0 : Int32)), .val (.int (1 : Int32)), .unset, .unset] [(.int (1 : Int32))])) _
        refine XS.ifNo X0.here hx rfl (hb hby at_47) rfl ((if0 _ _).trans (feq (by decide : ¬ ((1 : Int32) = (0 : Int32)))).1) ?_
        show Steps p.tables e below (s₁.setTop (mkF m 50 #[.val (.int p1), .val (.int (0 : Int32)), .val (.int (1 : Int32)), .unset, .unset] [])) _
        refine st10 _ ?_
        show Steps p.tables e below (T10.setTop (mkF m 53 #[.val (.int p1), .val (.int (0 : Int32)), .val (.int (1 : Int32)), .unset, .unset] [(.ref w_PRODUCED)])) _
        refine XS.astoreN X10.here hx rfl (hb hby at_53) rfl rfl (l' := #[.val (.int p1), .val (.int (0 : Int32)), .val (.int (1 : Int32)), .val (.ref w_PRODUCED), .unset]) rfl ?_
        show Steps p.tables e below (T10.setTop (mkF m 54 #[.val (.int p1), .val (.int (0 : Int32)), .val (.int (1 : Int32)), .val (.ref w_PRODUCED), .unset] [])) _
        refine XS.goto X10.here hx rfl (pc0 := 54) (pc' := 61) rfl (hb hby at_54) (by decide) (by decide) ?_
        show Steps p.tables e below (T10.setTop (mkF m 61 #[.val (.int p1), .val (.int (0 : Int32)), .val (.int (1 : Int32)), .val (.ref w_PRODUCED), .unset] [])) _
        refine XS.iloadN X10.here hx rfl (hb hby at_61) rfl ?_
        show Steps p.tables e below (T10.setTop (mkF m 62 #[.val (.int p1), .val (.int (0 : Int32)), .val (.int (1 : Int32)), .val (.ref w_PRODUCED), .unset] [(.int (0 : Int32))])) _
        refine XS.iloadN X10.here hx rfl (hb hby at_62) rfl ?_
        show Steps p.tables e below (T10.setTop (mkF m 63 #[.val (.int p1), .val (.int (0 : Int32)), .val (.int (1 : Int32)), .val (.ref w_PRODUCED), .unset] [(.int (1 : Int32)), (.int (0 : Int32))])) _
        refine st11 _ ?_
        show Steps p.tables e below (T11.setTop (mkF m 66 #[.val (.int p1), .val (.int (0 : Int32)), .val (.int (1 : Int32)), .val (.ref w_PRODUCED), .unset] [(.ref w_PRODUCED)])) _
        refine XS.astore X11.here hx rfl (hb hby at_66) rfl rfl (l' := #[.val (.int p1), .val (.int (0 : Int32)), .val (.int (1 : Int32)), .val (.ref w_PRODUCED), .val (.ref w_PRODUCED)]) rfl ?_
        show Steps p.tables e below (T11.setTop (mkF m 68 #[.val (.int p1), .val (.int (0 : Int32)), .val (.int (1 : Int32)), .val (.ref w_PRODUCED), .val (.ref w_PRODUCED)] [])) _
        refine XS.aload X11.here hx rfl (hb hby at_68) rfl rfl ?_
        show Steps p.tables e below (T11.setTop (mkF m 70 #[.val (.int p1), .val (.int (0 : Int32)), .val (.int (1 : Int32)), .val (.ref w_PRODUCED), .val (.ref w_PRODUCED)] [(.ref w_PRODUCED)])) _
        refine XS.aloadN X11.here hx rfl (hb hby at_70) rfl rfl ?_
        show Steps p.tables e below (T11.setTop (mkF m 71 #[.val (.int p1), .val (.int (0 : Int32)), .val (.int (1 : Int32)), .val (.ref w_PRODUCED), .val (.ref w_PRODUCED)] [(.ref w_PRODUCED), (.ref w_PRODUCED)])) _
        refine Jvm.RoadKit.acmp (g := (mkF m 71 #[.val (.int p1), .val (.int (0 : Int32)), .val (.int (1 : Int32)), .val (.ref w_PRODUCED), .val (.ref w_PRODUCED)] [(.ref w_PRODUCED), (.ref w_PRODUCED)])) X11 hx rfl rfl rfl (pc0 := 71) (pc' := 74) (same := true) rfl (hb hby at_71) rfl (decide_eq_true rfl) (by decide) (by decide) ?_
        show Steps p.tables e below (T11.setTop (mkF m 74 #[.val (.int p1), .val (.int (0 : Int32)), .val (.int (1 : Int32)), .val (.ref w_PRODUCED), .val (.ref w_PRODUCED)] [])) _
        refine XS.aload X11.here hx rfl (hb hby at_74) rfl rfl ?_
        show Steps p.tables e below (T11.setTop (mkF m 76 #[.val (.int p1), .val (.int (0 : Int32)), .val (.int (1 : Int32)), .val (.ref w_PRODUCED), .val (.ref w_PRODUCED)] [(.ref w_PRODUCED)])) _
        refine st12.trans ?_
        show Steps p.tables e below (T12.setTop (mkF m 79 #[.val (.int p1), .val (.int (0 : Int32)), .val (.int (1 : Int32)), .val (.ref w_PRODUCED), .val (.ref w_PRODUCED)] [(.int (0 : Int32))])) _
        refine XS.iloadN X12.here hx rfl (hb hby at_79) rfl ?_
        show Steps p.tables e below (T12.setTop (mkF m 80 #[.val (.int p1), .val (.int (0 : Int32)), .val (.int (1 : Int32)), .val (.ref w_PRODUCED), .val (.ref w_PRODUCED)] [(.int (0 : Int32)), (.int (0 : Int32))])) _
        refine XS.icmpNo X12.here hx rfl (hb hby at_80) rfl (teq (rfl : (0 : Int32) = (0 : Int32))).2 ?_
        show Steps p.tables e below (T12.setTop (mkF m 83 #[.val (.int p1), .val (.int (0 : Int32)), .val (.int (1 : Int32)), .val (.ref w_PRODUCED), .val (.ref w_PRODUCED)] [])) _
        refine XS.aload X12.here hx rfl (hb hby at_83) rfl rfl ?_
        show Steps p.tables e below (T12.setTop (mkF m 85 #[.val (.int p1), .val (.int (0 : Int32)), .val (.int (1 : Int32)), .val (.ref w_PRODUCED), .val (.ref w_PRODUCED)] [(.ref w_PRODUCED)])) _
        refine st13.trans ?_
        show Steps p.tables e below (T13.setTop (mkF m 88 #[.val (.int p1), .val (.int (0 : Int32)), .val (.int (1 : Int32)), .val (.ref w_PRODUCED), .val (.ref w_PRODUCED)] [(.int (1 : Int32))])) _
        refine XS.iloadN X13.here hx rfl (hb hby at_88) rfl ?_
        show Steps p.tables e below (T13.setTop (mkF m 89 #[.val (.int p1), .val (.int (0 : Int32)), .val (.int (1 : Int32)), .val (.ref w_PRODUCED), .val (.ref w_PRODUCED)] [(.int (1 : Int32)), (.int (1 : Int32))])) _
        refine XS.icmpNo X13.here hx rfl (hb hby at_89) rfl (teq (rfl : (1 : Int32) = (1 : Int32))).2 ?_
        show Steps p.tables e below (T13.setTop (mkF m 92 #[.val (.int p1), .val (.int (0 : Int32)), .val (.int (1 : Int32)), .val (.ref w_PRODUCED), .val (.ref w_PRODUCED)] [])) _
        refine XS.iconst X13.here hx rfl (hb hby at_92) ?_
        show Steps p.tables e below (T13.setTop (mkF m 93 #[.val (.int p1), .val (.int (0 : Int32)), .val (.int (1 : Int32)), .val (.ref w_PRODUCED), .val (.ref w_PRODUCED)] [(.int (1 : Int32))])) _
        refine XS.goto X13.here hx rfl (pc0 := 93) (pc' := 97) rfl (hb hby at_93) (by decide) (by decide) ?_
        exact kt
      obtain ⟨fs, hr, hrun, hended, hW, hsame⟩ := X13.leave (v := some (.int (1 : Int32))) (fun h => by rw [Bd.returns] at h; cases h)
      refine ⟨_, _, pre14 _ ?_, hrun, hended, _, _, rfl, ?_, ⟨_, rfl⟩, hW, hsame.mono (by decide) (by decide)⟩
      · show Steps p.tables e below (T13.setTop (mkF m 97 #[.val (.int p1), .val (.int (0 : Int32)), .val (.int (1 : Int32)), .val (.ref w_PRODUCED), .val (.ref w_PRODUCED)] [(.int (1 : Int32))])) _
        exact retN X13 hx (t := .boolean) Bd.returns (by simp) (hb hby at_97) hr
      · show Q0 Z h0 n0 _ T13.heap _
        rw [hE13]
        exact ⟨rfl, N13⟩
  · have pre15 : ∀ tt, Steps p.tables e below (s₁.setTop (mkF m 15 #[.val (.int p1), .val (.int (1 : Int32)), .unset, .unset, .unset] [(.int (p1 &&& (2 : Int32)))])) tt → Steps p.tables e below (s₁.setTop (entryFrame m #[(.int p1)] maxLocals)) tt := by
      intro tt kt
      refine pre1 tt ?_
      show Steps p.tables e below (s₁.setTop (mkF m 3 #[.val (.int p1), .unset, .unset, .unset, .unset] [(.int (p1 &&& (1 : Int32)))])) _
      refine XS.ifNo X0.here hx rfl (hb hby at_3) rfl ((if0 _ _).trans (feq c3_2).1) ?_
      show Steps p.tables e below (s₁.setTop (mkF m 6 #[.val (.int p1), .unset, .unset, .unset, .unset] [])) _
      refine XS.iconst X0.here hx rfl (hb hby at_6) ?_
      show Steps p.tables e below (s₁.setTop (mkF m 7 #[.val (.int p1), .unset, .unset, .unset, .unset] [(.int (1 : Int32))])) _
      refine XS.goto X0.here hx rfl (pc0 := 7) (pc' := 11) rfl (hb hby at_7) (by decide) (by decide) ?_
      show Steps p.tables e below (s₁.setTop (mkF m 11 #[.val (.int p1), .unset, .unset, .unset, .unset] [(.int (1 : Int32))])) _
      refine XS.istoreN X0.here hx rfl (hb hby at_11) rfl (l' := #[.val (.int p1), .val (.int (1 : Int32)), .unset, .unset, .unset]) rfl ?_
      show Steps p.tables e below (s₁.setTop (mkF m 12 #[.val (.int p1), .val (.int (1 : Int32)), .unset, .unset, .unset] [])) _
      refine XS.iloadN X0.here hx rfl (hb hby at_12) rfl ?_
      show Steps p.tables e below (s₁.setTop (mkF m 13 #[.val (.int p1), .val (.int (1 : Int32)), .unset, .unset, .unset] [(.int p1)])) _
      refine XS.iconst X0.here hx rfl (hb hby at_13) ?_
      show Steps p.tables e below (s₁.setTop (mkF m 14 #[.val (.int p1), .val (.int (1 : Int32)), .unset, .unset, .unset] [(.int (2 : Int32)), (.int p1)])) _
      refine XS.iand X0.here hx rfl (hb hby at_14) rfl ?_
      exact kt
    by_cases c15_16 : (p1 &&& (2 : Int32)) = (0 : Int32)
    · obtain ⟨T17, X17, e17, st17⟩ := getS2 X0 hx hZ hown (host := "") (Or.inl (hw _ (List.mem_of_getElem? (i := 41) rfl))) Via.refl e0 S_CONSUMED (g := (mkF m 39 #[.val (.int p1), .val (.int (1 : Int32)), .val (.int (0 : Int32)), .unset, .unset] [])) rfl (hb hby at_39)
      obtain ⟨_, _, ⟨T18, L18, k18, n18⟩, -, X18, ⟨Lc18, hQ18, l18, y18, z18⟩, st18⟩ := Jvm.LawKit.callS X17 hx (y := (⟨"com/example/driftwell/driftwell/Roles$Role", "of", "(ZZ)Lcom/example/driftwell/driftwell/Roles$Role;"⟩ : MethodName)) hown (mvT hZ (hw _ (List.mem_of_getElem? (i := 3) rfl))) (mvT hZ (hw _ (List.mem_of_getElem? (i := 4) rfl))) (mvT hZ (hw _ (List.mem_of_getElem? (i := 1) rfl))) (mvT hZ (hw _ (List.mem_of_getElem? (i := 5) rfl))) (by decide) (backOf (W := 0) (rm_of l Z a0 hw [] (1 : Int32) (0 : Int32) w_VALUES kV w_UNUSED w_CONSUMED w_PRODUCED w_BOTH w_CONSUMED h0 n0 Z0 S_UNUSED S_VALUES V_VALUES E_VALUES F_UNUSED_consumed F_UNUSED_produced F_CONSUMED_consumed F_CONSUMED_produced F_PRODUCED_consumed F_PRODUCED_produced F_BOTH_consumed F_BOTH_produced (by decide) (by decide) (by simp)) hZ (hw _ (List.mem_of_getElem? (i := 5) rfl)) (hw _ (List.mem_of_getElem? (i := 1) rfl)) (by decide) (by decide)) (g := (mkF m 63 #[.val (.int p1), .val (.int (1 : Int32)), .val (.int (0 : Int32)), .val (.ref w_CONSUMED), .unset] [(.int (0 : Int32)), (.int (1 : Int32))])) rfl (by rw [hml]; rfl) (argsL := [(.int (1 : Int32)), (.int (0 : Int32))]) (rest := []) (lenOf pd_rm0_0 rfl) rfl (by show 2 * 0 + _ ≤ _; exact Nat.le_of_eq rfl) (hb hby at_63) (fun _ _ => ⟨rfl, e17, (by decide : 0 + 1 ≤ _), (by decide : 0 + 4 ≤ _)⟩)
      dsimp only [Pt.U, Pt.locs, Pt.cells, Pt.slots] at X18 l18 y18 z18 st18 hQ18
      subst l18 y18 z18
      obtain ⟨rfl, N18q, Ex18⟩ := hQ18
      have N18 := Fr.app N0 N18q
      obtain ⟨cq19, kq19, q19a, q19b, q19c⟩ := isOf hZ rfl (Exa.ext Ex18 E_CONSUMED)
      obtain ⟨_, _, ⟨T19, L19, k19, n19⟩, -, X19, ⟨Lc19, hQ19, l19, y19, z19⟩, st19⟩ := X18.virtualBack hx (y := (⟨"com/example/driftwell/driftwell/Roles$Role", "consumed", "()Z"⟩ : MethodName)) (z := (⟨"com/example/driftwell/driftwell/Roles$Role", "consumed", "()Z"⟩ : MethodName)) hown (mvT hZ (hw _ (List.mem_of_getElem? (i := 29) rfl))) (mvT hZ (hw _ (List.mem_of_getElem? (i := 30) rfl))) (notFace_of_selects (args := #[]) (mvT hZ (hw _ (List.mem_of_getElem? (i := 32) rfl)))) (mvT hZ (hw _ (List.mem_of_getElem? (i := 32) rfl))) (mvT hZ (hw _ (List.mem_of_getElem? (i := 31) rfl))) (by decide) (backOf (W := 0) (rm_consumed l Z a0 hw [] w_CONSUMED (1 : Int32) T18.heap n0 (Nat.le_trans Z0 Ex18.1) (Fld.ext Ex18 F_CONSUMED_consumed) (by decide)) hZ (hw _ (List.mem_of_getElem? (i := 33) rfl)) (hw _ (List.mem_of_getElem? (i := 1) rfl)) (by decide) (by decide)) q19a q19c (g := (mkF m 76 #[.val (.int p1), .val (.int (1 : Int32)), .val (.int (0 : Int32)), .val (.ref w_CONSUMED), .val (.ref w_CONSUMED)] [(.ref w_CONSUMED)])) rfl (by rw [hml]; rfl) (Steps.refl _) (argsL := []) (rest := []) (lenOf pd_rm0_1 rfl) rfl (by show 2 * 0 + _ ≤ _; exact Nat.le_of_eq rfl) (hb hby at_76) (fun _ _ => ⟨rfl, rfl, (by decide : 1 + 0 ≤ _), (by decide : 4 + 0 ≤ _)⟩)
      dsimp only [Pt.U, Pt.locs, Pt.cells, Pt.slots] at X19 l19 y19 z19 st19 hQ19
      subst l19 y19 z19
      obtain ⟨rfl, N19q, hE19⟩ := hQ19
      have N19 := Fr.app N18 N19q
      obtain ⟨cq20, kq20, q20a, q20b, q20c⟩ := isOf hZ hE19 (Exa.ext Ex18 E_CONSUMED)
      obtain ⟨_, _, ⟨T20, L20, k20, n20⟩, -, X20, ⟨Lc20, hQ20, l20, y20, z20⟩, st20⟩ := X19.virtualBack hx (y := (⟨"com/example/driftwell/driftwell/Roles$Role", "produced", "()Z"⟩ : MethodName)) (z := (⟨"com/example/driftwell/driftwell/Roles$Role", "produced", "()Z"⟩ : MethodName)) hown (mvT hZ (hw _ (List.mem_of_getElem? (i := 34) rfl))) (mvT hZ (hw _ (List.mem_of_getElem? (i := 35) rfl))) (notFace_of_selects (args := #[]) (mvT hZ (hw _ (List.mem_of_getElem? (i := 37) rfl)))) (mvT hZ (hw _ (List.mem_of_getElem? (i := 37) rfl))) (mvT hZ (hw _ (List.mem_of_getElem? (i := 36) rfl))) (by decide) (backOf (W := 0) (rm_produced l Z a0 hw [] w_CONSUMED (0 : Int32) T18.heap n0 (Nat.le_trans Z0 Ex18.1) (Fld.ext Ex18 F_CONSUMED_produced) (by decide)) hZ (hw _ (List.mem_of_getElem? (i := 38) rfl)) (hw _ (List.mem_of_getElem? (i := 1) rfl)) (by decide) (by decide)) q20a q20c (g := (mkF m 85 #[.val (.int p1), .val (.int (1 : Int32)), .val (.int (0 : Int32)), .val (.ref w_CONSUMED), .val (.ref w_CONSUMED)] [(.ref w_CONSUMED)])) rfl (by rw [hml]; rfl) (Steps.refl _) (argsL := []) (rest := []) (lenOf pd_rm0_1 rfl) rfl (by show 2 * 0 + _ ≤ _; exact Nat.le_of_eq rfl) (hb hby at_85) (fun _ _ => ⟨rfl, hE19, (by decide : 1 + 0 ≤ _), (by decide : 4 + 0 ≤ _)⟩)
      dsimp only [Pt.U, Pt.locs, Pt.cells, Pt.slots] at X20 l20 y20 z20 st20 hQ20
      subst l20 y20 z20
      obtain ⟨rfl, N20q, hE20⟩ := hQ20
      have N20 := Fr.app N19 N20q
      have pre21 : ∀ tt, Steps p.tables e below (T20.setTop (mkF m 97 #[.val (.int p1), .val (.int (1 : Int32)), .val (.int (0 : Int32)), .val (.ref w_CONSUMED), .val (.ref w_CONSUMED)] [(.int (1 : Int32))])) tt → Steps p.tables e below (s₁.setTop (entryFrame m #[(.int p1)] maxLocals)) tt := by
        intro tt kt
        refine pre15 tt ?_
        show Steps p.tables e below (s₁.setTop (mkF m 15 #[.val (.int p1), .val (.int (1 : Int32)), .unset, .unset, .unset] [(.int (p1 &&& (2 : Int32)))])) _
        refine XS.ifYes X0.here hx rfl (pc0 := 15) (pc' := 22) rfl (hb hby at_15) rfl ((if0 _ _).trans (teq c15_16).1) (by decide) (by decide) ?_
        show Steps p.tables e below (s₁.setTop (mkF m 22 #[.val (.int p1), .val (.int (1 : Int32)), .unset, .unset, .unset] [])) _
        refine XS.iconst X0.here hx rfl (hb hby at_22) ?_
        show Steps p.tables e below (s₁.setTop (mkF m 23 #[.val (.int p1), .val (.int (1 : Int32)), .unset, .unset, .unset] [(.int (0 : Int32))])) _
        refine XS.istoreN X0.here hx rfl (hb hby at_23) rfl (l' := #[.val (.int p1), .val (.int (1 : Int32)), .val (.int (0 : Int32)), .unset, .unset]) rfl ?_
        show Steps p.tables e below (s₁.setTop (mkF m 24 #[.val (.int p1), .val (.int (1 : Int32)), .val (.int (0 : Int32)), .unset, .unset] [])) _
        refine XS.iloadN X0.here hx rfl (hb hby at_24) rfl ?_
        show Steps p.tables e below (s₁.setTop (mkF m 25 #[.val (.int p1), .val (.int (1 : Int32)), .val (.int (0 : Int32)), .unset, .unset] [(.int (1 : Int32))])) _
        refine XS.ifNo X0.here hx rfl (hb hby at_25) rfl ((if0 _ _).trans (feq (by decide : ¬ ((1 : Int32) = (0 : Int32)))).1) ?_
        show Steps p.tables e below (s₁.setTop (mkF m 28 #[.val (.int p1), .val (.int (1 : Int32)), .val (.int (0 : Int32)), .unset, .unset] [])) _
        refine XS.iloadN X0.here hx rfl (hb hby at_28) rfl ?_
        show Steps p.tables e below (s₁.setTop (mkF m 29 #[.val (.int p1), .val (.int (1 : Int32)), .val (.int (0 : Int32)), .unset, .unset] [(.int (0 : Int32))])) _
        refine XS.ifYes X0.here hx rfl (pc0 := 29) (pc' := 39) rfl (hb hby at_29) rfl ((if0 _ _).trans (teq (rfl : (0 : Int32) = (0 : Int32))).1) (by decide) (by decide) ?_
        show Steps p.tables e below (s₁.setTop (mkF m 39 #[.val (.int p1), .val (.int (1 : Int32)), .val (.int (0 : Int32)), .unset, .unset] [])) _
        refine st17 _ ?_
        show Steps p.tables e below (T17.setTop (mkF m 42 #[.val (.int p1), .val (.int (1 : Int32)), .val (.int (0 : Int32)), .unset, .unset] [(.ref w_CONSUMED)])) _
        refine XS.astoreN X17.here hx rfl (hb hby at_42) rfl rfl (l' := #[.val (.int p1), .val (.int (1 : Int32)), .val (.int (0 : Int32)), .val (.ref w_CONSUMED), .unset]) rfl ?_
        show Steps p.tables e below (T17.setTop (mkF m 43 #[.val (.int p1), .val (.int (1 : Int32)), .val (.int (0 : Int32)), .val (.ref w_CONSUMED), .unset] [])) _
        refine XS.goto X17.here hx rfl (pc0 := 43) (pc' := 61) rfl (hb hby at_43) (by decide) (by decide) ?_
        show Steps p.tables e below (T17.setTop (mkF m 61 #[.val (.int p1), .val (.int (1 : Int32)), .val (.int (0 : Int32)), .val (.ref w_CONSUMED), .unset] [])) _
        refine XS.iloadN X17.here hx rfl (hb hby at_61) rfl ?_
        show Steps p.tables e below (T17.setTop (mkF m 62 #[.val (.int p1), .val (.int (1 : Int32)), .val (.int (0 : Int32)), .val (.ref w_CONSUMED), .unset] [(.int (1 : Int32))])) _
        refine XS.iloadN X17.here hx rfl (hb hby at_62) rfl ?_
        show Steps p.tables e below (T17.setTop (mkF m 63 #[.val (.int p1), .val (.int (1 : Int32)), .val (.int (0 : Int32)), .val (.ref w_CONSUMED), .unset] [(.int (0 : Int32)), (.int (1 : Int32))])) _
        refine st18 _ ?_
        show Steps p.tables e below (T18.setTop (mkF m 66 #[.val (.int p1), .val (.int (1 : Int32)), .val (.int (0 : Int32)), .val (.ref w_CONSUMED), .unset] [(.ref w_CONSUMED)])) _
        refine XS.astore X18.here hx rfl (hb hby at_66) rfl rfl (l' := #[.val (.int p1), .val (.int (1 : Int32)), .val (.int (0 : Int32)), .val (.ref w_CONSUMED), .val (.ref w_CONSUMED)]) rfl ?_
        show Steps p.tables e below (T18.setTop (mkF m 68 #[.val (.int p1), .val (.int (1 : Int32)), .val (.int (0 : Int32)), .val (.ref w_CONSUMED), .val (.ref w_CONSUMED)] [])) _
        refine XS.aload X18.here hx rfl (hb hby at_68) rfl rfl ?_
        show Steps p.tables e below (T18.setTop (mkF m 70 #[.val (.int p1), .val (.int (1 : Int32)), .val (.int (0 : Int32)), .val (.ref w_CONSUMED), .val (.ref w_CONSUMED)] [(.ref w_CONSUMED)])) _
        refine XS.aloadN X18.here hx rfl (hb hby at_70) rfl rfl ?_
        show Steps p.tables e below (T18.setTop (mkF m 71 #[.val (.int p1), .val (.int (1 : Int32)), .val (.int (0 : Int32)), .val (.ref w_CONSUMED), .val (.ref w_CONSUMED)] [(.ref w_CONSUMED), (.ref w_CONSUMED)])) _
        refine Jvm.RoadKit.acmp (g := (mkF m 71 #[.val (.int p1), .val (.int (1 : Int32)), .val (.int (0 : Int32)), .val (.ref w_CONSUMED), .val (.ref w_CONSUMED)] [(.ref w_CONSUMED), (.ref w_CONSUMED)])) X18 hx rfl rfl rfl (pc0 := 71) (pc' := 74) (same := true) rfl (hb hby at_71) rfl (decide_eq_true rfl) (by decide) (by decide) ?_
        show Steps p.tables e below (T18.setTop (mkF m 74 #[.val (.int p1), .val (.int (1 : Int32)), .val (.int (0 : Int32)), .val (.ref w_CONSUMED), .val (.ref w_CONSUMED)] [])) _
        refine XS.aload X18.here hx rfl (hb hby at_74) rfl rfl ?_
        show Steps p.tables e below (T18.setTop (mkF m 76 #[.val (.int p1), .val (.int (1 : Int32)), .val (.int (0 : Int32)), .val (.ref w_CONSUMED), .val (.ref w_CONSUMED)] [(.ref w_CONSUMED)])) _
        refine st19.trans ?_
        show Steps p.tables e below (T19.setTop (mkF m 79 #[.val (.int p1), .val (.int (1 : Int32)), .val (.int (0 : Int32)), .val (.ref w_CONSUMED), .val (.ref w_CONSUMED)] [(.int (1 : Int32))])) _
        refine XS.iloadN X19.here hx rfl (hb hby at_79) rfl ?_
        show Steps p.tables e below (T19.setTop (mkF m 80 #[.val (.int p1), .val (.int (1 : Int32)), .val (.int (0 : Int32)), .val (.ref w_CONSUMED), .val (.ref w_CONSUMED)] [(.int (1 : Int32)), (.int (1 : Int32))])) _
        refine XS.icmpNo X19.here hx rfl (hb hby at_80) rfl (teq (rfl : (1 : Int32) = (1 : Int32))).2 ?_
        show Steps p.tables e below (T19.setTop (mkF m 83 #[.val (.int p1), .val (.int (1 : Int32)), .val (.int (0 : Int32)), .val (.ref w_CONSUMED), .val (.ref w_CONSUMED)] [])) _
        refine XS.aload X19.here hx rfl (hb hby at_83) rfl rfl ?_
        show Steps p.tables e below (T19.setTop (mkF m 85 #[.val (.int p1), .val (.int (1 : Int32)), .val (.int (0 : Int32)), .val (.ref w_CONSUMED), .val (.ref w_CONSUMED)] [(.ref w_CONSUMED)])) _
        refine st20.trans ?_
        show Steps p.tables e below (T20.setTop (mkF m 88 #[.val (.int p1), .val (.int (1 : Int32)), .val (.int (0 : Int32)), .val (.ref w_CONSUMED), .val (.ref w_CONSUMED)] [(.int (0 : Int32))])) _
        refine XS.iloadN X20.here hx rfl (hb hby at_88) rfl ?_
        show Steps p.tables e below (T20.setTop (mkF m 89 #[.val (.int p1), .val (.int (1 : Int32)), .val (.int (0 : Int32)), .val (.ref w_CONSUMED), .val (.ref w_CONSUMED)] [(.int (0 : Int32)), (.int (0 : Int32))])) _
        refine XS.icmpNo X20.here hx rfl (hb hby at_89) rfl (teq (rfl : (0 : Int32) = (0 : Int32))).2 ?_
        show Steps p.tables e below (T20.setTop (mkF m 92 #[.val (.int p1), .val (.int (1 : Int32)), .val (.int (0 : Int32)), .val (.ref w_CONSUMED), .val (.ref w_CONSUMED)] [])) _
        refine XS.iconst X20.here hx rfl (hb hby at_92) ?_
        show Steps p.tables e below (T20.setTop (mkF m 93 #[.val (.int p1), .val (.int (1 : Int32)), .val (.int (0 : Int32)), .val (.ref w_CONSUMED), .val (.ref w_CONSUMED)] [(.int (1 : Int32))])) _
        refine XS.goto X20.here hx rfl (pc0 := 93) (pc' := 97) rfl (hb hby at_93) (by decide) (by decide) ?_
        exact kt
      obtain ⟨fs, hr, hrun, hended, hW, hsame⟩ := X20.leave (v := some (.int (1 : Int32))) (fun h => by rw [Bd.returns] at h; cases h)
      refine ⟨_, _, pre21 _ ?_, hrun, hended, _, _, rfl, ?_, ⟨_, rfl⟩, hW, hsame.mono (by decide) (by decide)⟩
      · show Steps p.tables e below (T20.setTop (mkF m 97 #[.val (.int p1), .val (.int (1 : Int32)), .val (.int (0 : Int32)), .val (.ref w_CONSUMED), .val (.ref w_CONSUMED)] [(.int (1 : Int32))])) _
        exact retN X20 hx (t := .boolean) Bd.returns (by simp) (hb hby at_97) hr
      · show Q0 Z h0 n0 _ T20.heap _
        rw [hE20]
        exact ⟨rfl, N20⟩
    · obtain ⟨T22, X22, e22, st22⟩ := getS2 X0 hx hZ hown (host := "") (Or.inl (hw _ (List.mem_of_getElem? (i := 39) rfl))) Via.refl e0 S_BOTH (g := (mkF m 32 #[.val (.int p1), .val (.int (1 : Int32)), .val (.int (1 : Int32)), .unset, .unset] [])) rfl (hb hby at_32)
      obtain ⟨_, _, ⟨T23, L23, k23, n23⟩, -, X23, ⟨Lc23, hQ23, l23, y23, z23⟩, st23⟩ := Jvm.LawKit.callS X22 hx (y := (⟨"com/example/driftwell/driftwell/Roles$Role", "of", "(ZZ)Lcom/example/driftwell/driftwell/Roles$Role;"⟩ : MethodName)) hown (mvT hZ (hw _ (List.mem_of_getElem? (i := 3) rfl))) (mvT hZ (hw _ (List.mem_of_getElem? (i := 4) rfl))) (mvT hZ (hw _ (List.mem_of_getElem? (i := 1) rfl))) (mvT hZ (hw _ (List.mem_of_getElem? (i := 5) rfl))) (by decide) (backOf (W := 0) (rm_of l Z a0 hw [] (1 : Int32) (1 : Int32) w_VALUES kV w_UNUSED w_CONSUMED w_PRODUCED w_BOTH w_BOTH h0 n0 Z0 S_UNUSED S_VALUES V_VALUES E_VALUES F_UNUSED_consumed F_UNUSED_produced F_CONSUMED_consumed F_CONSUMED_produced F_PRODUCED_consumed F_PRODUCED_produced F_BOTH_consumed F_BOTH_produced (by decide) (by decide) (by simp)) hZ (hw _ (List.mem_of_getElem? (i := 5) rfl)) (hw _ (List.mem_of_getElem? (i := 1) rfl)) (by decide) (by decide)) (g := (mkF m 63 #[.val (.int p1), .val (.int (1 : Int32)), .val (.int (1 : Int32)), .val (.ref w_BOTH), .unset] [(.int (1 : Int32)), (.int (1 : Int32))])) rfl (by rw [hml]; rfl) (argsL := [(.int (1 : Int32)), (.int (1 : Int32))]) (rest := []) (lenOf pd_rm0_0 rfl) rfl (by show 2 * 0 + _ ≤ _; exact Nat.le_of_eq rfl) (hb hby at_63) (fun _ _ => ⟨rfl, e22, (by decide : 0 + 1 ≤ _), (by decide : 0 + 4 ≤ _)⟩)
      dsimp only [Pt.U, Pt.locs, Pt.cells, Pt.slots] at X23 l23 y23 z23 st23 hQ23
      subst l23 y23 z23
      obtain ⟨rfl, N23q, Ex23⟩ := hQ23
      have N23 := Fr.app N0 N23q
      obtain ⟨cq24, kq24, q24a, q24b, q24c⟩ := isOf hZ rfl (Exa.ext Ex23 E_BOTH)
      obtain ⟨_, _, ⟨T24, L24, k24, n24⟩, -, X24, ⟨Lc24, hQ24, l24, y24, z24⟩, st24⟩ := X23.virtualBack hx (y := (⟨"com/example/driftwell/driftwell/Roles$Role", "consumed", "()Z"⟩ : MethodName)) (z := (⟨"com/example/driftwell/driftwell/Roles$Role", "consumed", "()Z"⟩ : MethodName)) hown (mvT hZ (hw _ (List.mem_of_getElem? (i := 29) rfl))) (mvT hZ (hw _ (List.mem_of_getElem? (i := 30) rfl))) (notFace_of_selects (args := #[]) (mvT hZ (hw _ (List.mem_of_getElem? (i := 32) rfl)))) (mvT hZ (hw _ (List.mem_of_getElem? (i := 32) rfl))) (mvT hZ (hw _ (List.mem_of_getElem? (i := 31) rfl))) (by decide) (backOf (W := 0) (rm_consumed l Z a0 hw [] w_BOTH (1 : Int32) T23.heap n0 (Nat.le_trans Z0 Ex23.1) (Fld.ext Ex23 F_BOTH_consumed) (by decide)) hZ (hw _ (List.mem_of_getElem? (i := 33) rfl)) (hw _ (List.mem_of_getElem? (i := 1) rfl)) (by decide) (by decide)) q24a q24c (g := (mkF m 76 #[.val (.int p1), .val (.int (1 : Int32)), .val (.int (1 : Int32)), .val (.ref w_BOTH), .val (.ref w_BOTH)] [(.ref w_BOTH)])) rfl (by rw [hml]; rfl) (Steps.refl _) (argsL := []) (rest := []) (lenOf pd_rm0_1 rfl) rfl (by show 2 * 0 + _ ≤ _; exact Nat.le_of_eq rfl) (hb hby at_76) (fun _ _ => ⟨rfl, rfl, (by decide : 1 + 0 ≤ _), (by decide : 4 + 0 ≤ _)⟩)
      dsimp only [Pt.U, Pt.locs, Pt.cells, Pt.slots] at X24 l24 y24 z24 st24 hQ24
      subst l24 y24 z24
      obtain ⟨rfl, N24q, hE24⟩ := hQ24
      have N24 := Fr.app N23 N24q
      obtain ⟨cq25, kq25, q25a, q25b, q25c⟩ := isOf hZ hE24 (Exa.ext Ex23 E_BOTH)
      obtain ⟨_, _, ⟨T25, L25, k25, n25⟩, -, X25, ⟨Lc25, hQ25, l25, y25, z25⟩, st25⟩ := X24.virtualBack hx (y := (⟨"com/example/driftwell/driftwell/Roles$Role", "produced", "()Z"⟩ : MethodName)) (z := (⟨"com/example/driftwell/driftwell/Roles$Role", "produced", "()Z"⟩ : MethodName)) hown (mvT hZ (hw _ (List.mem_of_getElem? (i := 34) rfl))) (mvT hZ (hw _ (List.mem_of_getElem? (i := 35) rfl))) (notFace_of_selects (args := #[]) (mvT hZ (hw _ (List.mem_of_getElem? (i := 37) rfl)))) (mvT hZ (hw _ (List.mem_of_getElem? (i := 37) rfl))) (mvT hZ (hw _ (List.mem_of_getElem? (i := 36) rfl))) (by decide) (backOf (W := 0) (rm_produced l Z a0 hw [] w_BOTH (1 : Int32) T23.heap n0 (Nat.le_trans Z0 Ex23.1) (Fld.ext Ex23 F_BOTH_produced) (by decide)) hZ (hw _ (List.mem_of_getElem? (i := 38) rfl)) (hw _ (List.mem_of_getElem? (i := 1) rfl)) (by decide) (by decide)) q25a q25c (g := (mkF m 85 #[.val (.int p1), .val (.int (1 : Int32)), .val (.int (1 : Int32)), .val (.ref w_BOTH), .val (.ref w_BOTH)] [(.ref w_BOTH)])) rfl (by rw [hml]; rfl) (Steps.refl _) (argsL := []) (rest := []) (lenOf pd_rm0_1 rfl) rfl (by show 2 * 0 + _ ≤ _; exact Nat.le_of_eq rfl) (hb hby at_85) (fun _ _ => ⟨rfl, hE24, (by decide : 1 + 0 ≤ _), (by decide : 4 + 0 ≤ _)⟩)
      dsimp only [Pt.U, Pt.locs, Pt.cells, Pt.slots] at X25 l25 y25 z25 st25 hQ25
      subst l25 y25 z25
      obtain ⟨rfl, N25q, hE25⟩ := hQ25
      have N25 := Fr.app N24 N25q
      have pre26 : ∀ tt, Steps p.tables e below (T25.setTop (mkF m 97 #[.val (.int p1), .val (.int (1 : Int32)), .val (.int (1 : Int32)), .val (.ref w_BOTH), .val (.ref w_BOTH)] [(.int (1 : Int32))])) tt → Steps p.tables e below (s₁.setTop (entryFrame m #[(.int p1)] maxLocals)) tt := by
        intro tt kt
        refine pre15 tt ?_
        show Steps p.tables e below (s₁.setTop (mkF m 15 #[.val (.int p1), .val (.int (1 : Int32)), .unset, .unset, .unset] [(.int (p1 &&& (2 : Int32)))])) _
        refine XS.ifNo X0.here hx rfl (hb hby at_15) rfl ((if0 _ _).trans (feq c15_16).1) ?_
        show Steps p.tables e below (s₁.setTop (mkF m 18 #[.val (.int p1), .val (.int (1 : Int32)), .unset, .unset, .unset] [])) _
        refine XS.iconst X0.here hx rfl (hb hby at_18) ?_
        show Steps p.tables e below (s₁.setTop (mkF m 19 #[.val (.int p1), .val (.int (1 : Int32)), .unset, .unset, .unset] [(.int (1 : Int32))])) _
        refine XS.goto X0.here hx rfl (pc0 := 19) (pc' := 23) rfl (hb hby at_19) (by decide) (by decide) ?_
        show Steps p.tables e below (s₁.setTop (mkF m 23 #[.val (.int p1), .val (.int (1 : Int32)), .unset, .unset, .unset] [(.int (1 : Int32))])) _
        refine XS.istoreN X0.here hx rfl (hb hby at_23) rfl (l' := #[.val (.int p1), .val (.int (1 : Int32)), .val (.int (1 : Int32)), .unset, .unset]) rfl ?_
        show Steps p.tables e below (s₁.setTop (mkF m 24 #[.val (.int p1), .val (.int (1 : Int32)), .val (.int (1 : Int32)), .unset, .unset] [])) _
        refine XS.iloadN X0.here hx rfl (hb hby at_24) rfl ?_
        show Steps p.tables e below (s₁.setTop (mkF m 25 #[.val (.int p1), .val (.int (1 : Int32)), .val (.int (1 : Int32)), .unset, .unset] [(.int (1 : Int32))])) _
        refine XS.ifNo X0.here hx rfl (hb hby at_25) rfl ((if0 _ _).trans (feq (by decide : ¬ ((1 : Int32) = (0 : Int32)))).1) ?_
        show Steps p.tables e below (s₁.setTop (mkF m 28 #[.val (.int p1), .val (.int (1 : Int32)), .val (.int (1 : Int32)), .unset, .unset] [])) _
        refine XS.iloadN X0.here hx rfl (hb hby at_28) rfl ?_
        show Steps p.tables e below (s₁.setTop (mkF m 29 #[.val (.int p1), .val (.int (1 : Int32)), .val (.int (1 : Int32)), .unset, .unset] [(.int (1 : Int32))])) _
        refine XS.ifNo X0.here hx rfl (hb hby at_29) rfl ((if0 _ _).trans (feq (by decide : ¬ ((1 : Int32) = (0 : Int32)))).1) ?_
        show Steps p.tables e below (s₁.setTop (mkF m 32 #[.val (.int p1), .val (.int (1 : Int32)), .val (.int (1 : Int32)), .unset, .unset] [])) _
        refine st22 _ ?_
        show Steps p.tables e below (T22.setTop (mkF m 35 #[.val (.int p1), .val (.int (1 : Int32)), .val (.int (1 : Int32)), .unset, .unset] [(.ref w_BOTH)])) _
        refine XS.astoreN X22.here hx rfl (hb hby at_35) rfl rfl (l' := #[.val (.int p1), .val (.int (1 : Int32)), .val (.int (1 : Int32)), .val (.ref w_BOTH), .unset]) rfl ?_
        show Steps p.tables e below (T22.setTop (mkF m 36 #[.val (.int p1), .val (.int (1 : Int32)), .val (.int (1 : Int32)), .val (.ref w_BOTH), .unset] [])) _
        refine XS.goto X22.here hx rfl (pc0 := 36) (pc' := 61) rfl (hb hby at_36) (by decide) (by decide) ?_
        show Steps p.tables e below (T22.setTop (mkF m 61 #[.val (.int p1), .val (.int (1 : Int32)), .val (.int (1 : Int32)), .val (.ref w_BOTH), .unset] [])) _
        refine XS.iloadN X22.here hx rfl (hb hby at_61) rfl ?_
        show Steps p.tables e below (T22.setTop (mkF m 62 #[.val (.int p1), .val (.int (1 : Int32)), .val (.int (1 : Int32)), .val (.ref w_BOTH), .unset] [(.int (1 : Int32))])) _
        refine XS.iloadN X22.here hx rfl (hb hby at_62) rfl ?_
        show Steps p.tables e below (T22.setTop (mkF m 63 #[.val (.int p1), .val (.int (1 : Int32)), .val (.int (1 : Int32)), .val (.ref w_BOTH), .unset] [(.int (1 : Int32)), (.int (1 : Int32))])) _
        refine st23 _ ?_
        show Steps p.tables e below (T23.setTop (mkF m 66 #[.val (.int p1), .val (.int (1 : Int32)), .val (.int (1 : Int32)), .val (.ref w_BOTH), .unset] [(.ref w_BOTH)])) _
        refine XS.astore X23.here hx rfl (hb hby at_66) rfl rfl (l' := #[.val (.int p1), .val (.int (1 : Int32)), .val (.int (1 : Int32)), .val (.ref w_BOTH), .val (.ref w_BOTH)]) rfl ?_
        show Steps p.tables e below (T23.setTop (mkF m 68 #[.val (.int p1), .val (.int (1 : Int32)), .val (.int (1 : Int32)), .val (.ref w_BOTH), .val (.ref w_BOTH)] [])) _
        refine XS.aload X23.here hx rfl (hb hby at_68) rfl rfl ?_
        show Steps p.tables e below (T23.setTop (mkF m 70 #[.val (.int p1), .val (.int (1 : Int32)), .val (.int (1 : Int32)), .val (.ref w_BOTH), .val (.ref w_BOTH)] [(.ref w_BOTH)])) _
        refine XS.aloadN X23.here hx rfl (hb hby at_70) rfl rfl ?_
        show Steps p.tables e below (T23.setTop (mkF m 71 #[.val (.int p1), .val (.int (1 : Int32)), .val (.int (1 : Int32)), .val (.ref w_BOTH), .val (.ref w_BOTH)] [(.ref w_BOTH), (.ref w_BOTH)])) _
        refine Jvm.RoadKit.acmp (g := (mkF m 71 #[.val (.int p1), .val (.int (1 : Int32)), .val (.int (1 : Int32)), .val (.ref w_BOTH), .val (.ref w_BOTH)] [(.ref w_BOTH), (.ref w_BOTH)])) X23 hx rfl rfl rfl (pc0 := 71) (pc' := 74) (same := true) rfl (hb hby at_71) rfl (decide_eq_true rfl) (by decide) (by decide) ?_
        show Steps p.tables e below (T23.setTop (mkF m 74 #[.val (.int p1), .val (.int (1 : Int32)), .val (.int (1 : Int32)), .val (.ref w_BOTH), .val (.ref w_BOTH)] [])) _
        refine XS.aload X23.here hx rfl (hb hby at_74) rfl rfl ?_
        show Steps p.tables e below (T23.setTop (mkF m 76 #[.val (.int p1), .val (.int (1 : Int32)), .val (.int (1 : Int32)), .val (.ref w_BOTH), .val (.ref w_BOTH)] [(.ref w_BOTH)])) _
        refine st24.trans ?_
        show Steps p.tables e below (T24.setTop (mkF m 79 #[.val (.int p1), .val (.int (1 : Int32)), .val (.int (1 : Int32)), .val (.ref w_BOTH), .val (.ref w_BOTH)] [(.int (1 : Int32))])) _
        refine XS.iloadN X24.here hx rfl (hb hby at_79) rfl ?_
        show Steps p.tables e below (T24.setTop (mkF m 80 #[.val (.int p1), .val (.int (1 : Int32)), .val (.int (1 : Int32)), .val (.ref w_BOTH), .val (.ref w_BOTH)] [(.int (1 : Int32)), (.int (1 : Int32))])) _
        refine XS.icmpNo X24.here hx rfl (hb hby at_80) rfl (teq (rfl : (1 : Int32) = (1 : Int32))).2 ?_
        show Steps p.tables e below (T24.setTop (mkF m 83 #[.val (.int p1), .val (.int (1 : Int32)), .val (.int (1 : Int32)), .val (.ref w_BOTH), .val (.ref w_BOTH)] [])) _
        refine XS.aload X24.here hx rfl (hb hby at_83) rfl rfl ?_
        show Steps p.tables e below (T24.setTop (mkF m 85 #[.val (.int p1), .val (.int (1 : Int32)), .val (.int (1 : Int32)), .val (.ref w_BOTH), .val (.ref w_BOTH)] [(.ref w_BOTH)])) _
        refine st25.trans ?_
        show Steps p.tables e below (T25.setTop (mkF m 88 #[.val (.int p1), .val (.int (1 : Int32)), .val (.int (1 : Int32)), .val (.ref w_BOTH), .val (.ref w_BOTH)] [(.int (1 : Int32))])) _
        refine XS.iloadN X25.here hx rfl (hb hby at_88) rfl ?_
        show Steps p.tables e below (T25.setTop (mkF m 89 #[.val (.int p1), .val (.int (1 : Int32)), .val (.int (1 : Int32)), .val (.ref w_BOTH), .val (.ref w_BOTH)] [(.int (1 : Int32)), (.int (1 : Int32))])) _
        refine XS.icmpNo X25.here hx rfl (hb hby at_89) rfl (teq (rfl : (1 : Int32) = (1 : Int32))).2 ?_
        show Steps p.tables e below (T25.setTop (mkF m 92 #[.val (.int p1), .val (.int (1 : Int32)), .val (.int (1 : Int32)), .val (.ref w_BOTH), .val (.ref w_BOTH)] [])) _
        refine XS.iconst X25.here hx rfl (hb hby at_92) ?_
        show Steps p.tables e below (T25.setTop (mkF m 93 #[.val (.int p1), .val (.int (1 : Int32)), .val (.int (1 : Int32)), .val (.ref w_BOTH), .val (.ref w_BOTH)] [(.int (1 : Int32))])) _
        refine XS.goto X25.here hx rfl (pc0 := 93) (pc' := 97) rfl (hb hby at_93) (by decide) (by decide) ?_
        exact kt
      obtain ⟨fs, hr, hrun, hended, hW, hsame⟩ := X25.leave (v := some (.int (1 : Int32))) (fun h => by rw [Bd.returns] at h; cases h)
      refine ⟨_, _, pre26 _ ?_, hrun, hended, _, _, rfl, ?_, ⟨_, rfl⟩, hW, hsame.mono (by decide) (by decide)⟩
      · show Steps p.tables e below (T25.setTop (mkF m 97 #[.val (.int p1), .val (.int (1 : Int32)), .val (.int (1 : Int32)), .val (.ref w_BOTH), .val (.ref w_BOTH)] [(.int (1 : Int32))])) _
        exact retN X25 hx (t := .boolean) Bd.returns (by simp) (hb hby at_97) hr
      · show Q0 Z h0 n0 _ T25.heap _
        rw [hE25]
        exact ⟨rfl, N25⟩
set_option maxRecDepth 65536 in
set_option maxHeartbeats 40000000 in
theorem comes_1 {Post : Tables → Env → Array Value → State → Outcome → State → Prop} (hpost : ∀ tb e args s v u, (limb_1_1.after args s (.returned v) u = true ∧ limb_1_2.after args s (.returned v) u = true ∧ True) → FrameEnd s (.returned v) u (Jvm.fieldLocs frame_1_writes args s ++ Jvm.arrayLocs frame_1_arrays args s ++ Jvm.staticLocs frame_1_statics s) 16 128 → Post tb e args s (.returned v) u) :
    ArmFor flags0 classFile x code maxLocals ret World_1 tables_1 room_1 Calls_1 rest_1 Pre_1 Post := by
  intro l hfl _ _ p e ha hc hk s m args below hf hA hF happ hP
  obtain ⟨hcalls, hrest, hpre⟩ := hP
  obtain ⟨-, -, -, hnamed, -, -, -, hat⟩ := (Spec.applies_iff hf).mp happ
  obtain ⟨hg, hn⟩ := and_e (Cond.before_iff.mp (show (Jvm.Cond.and given_1 narrow_1).before args s = true from hpre))
  have hw := fun d (hd : d ∈ tables_1) => atoms_spec (ws := Jvm.Cond.code x code maxLocals ret :: tables_1) hat d (List.mem_cons_of_mem _ hd)
  obtain ⟨g1a, g1b⟩ := and_e hg
  obtain ⟨w0, rfl⟩ : ∃ w0 : Value, args = #[w0] := by
    have hs : args.size = 1 := by simpa [Cond.value, given_1] using g1a
    obtain ⟨L⟩ := args
    match L, hs with
    | [w0], _ => exact ⟨w0, rfl⟩
  have hfit : Fit s := fun {y c} hc i hi => by
    obtain ⟨ha, rfl⟩ := Array.getElem?_eq_some_iff.mp hc
    have q := List.all_eq_true.mp ((Array.all_eq_true_iff_forall_mem.mp hF) _ (Array.getElem_mem ha)) i (List.mem_range.mpr hi)
    simpa [Array.getElem?_eq_getElem hi] using q
  obtain ⟨i0, ei0⟩ := is_v g1b
  obtain rfl : w0 = (.int i0) := Option.some.inj ei0
  obtain ⟨n1a, n1b⟩ := and_e hn
  obtain ⟨w_UNUSED, ev_UNUSED⟩ := exa_v n1a
  have S_UNUSED := Sta.start ev_UNUSED (Or.inr ⟨(hw _ (List.mem_of_getElem? (i := 1) rfl)), (hw _ (List.mem_of_getElem? (i := 2) rfl))⟩)
  have E_UNUSED := Exa.start ev_UNUSED n1a
  obtain ⟨n2a, n2b⟩ := and_e n1b
  obtain ⟨w__VALUES, ev__VALUES⟩ := arr_v n2a
  have S__VALUES := Sta.start ev__VALUES (Or.inr ⟨(hw _ (List.mem_of_getElem? (i := 1) rfl)), (hw _ (List.mem_of_getElem? (i := 11) rfl))⟩)
  obtain ⟨cl__VALUES, A__VALUES⟩ := Arr.start ev__VALUES n2a
  obtain ⟨n3a, n3b⟩ := and_e n2b
  have E__VALUES := Exa.start ev__VALUES n3a
  obtain ⟨n4a, n4b⟩ := and_e n3b
  have l__VALUES := own_len ev__VALUES A__VALUES n4a
  obtain ⟨n5a, n5b⟩ := and_e n4b
  obtain ⟨n6a, n6b⟩ := and_e n5b
  obtain ⟨w_CONSUMED, ev_CONSUMED⟩ := exa_v n6a
  have S_CONSUMED := Sta.start ev_CONSUMED (Or.inr ⟨(hw _ (List.mem_of_getElem? (i := 1) rfl)), (hw _ (List.mem_of_getElem? (i := 19) rfl))⟩)
  have E_CONSUMED := Exa.start ev_CONSUMED n6a
  obtain ⟨n7a, n7b⟩ := and_e n6b
  obtain ⟨n8a, n8b⟩ := and_e n7b
  obtain ⟨w_PRODUCED, ev_PRODUCED⟩ := exa_v n8a
  have S_PRODUCED := Sta.start ev_PRODUCED (Or.inr ⟨(hw _ (List.mem_of_getElem? (i := 1) rfl)), (hw _ (List.mem_of_getElem? (i := 20) rfl))⟩)
  have E_PRODUCED := Exa.start ev_PRODUCED n8a
  obtain ⟨n9a, n9b⟩ := and_e n8b
  obtain ⟨n10a, n10b⟩ := and_e n9b
  obtain ⟨w_BOTH, ev_BOTH⟩ := exa_v n10a
  have S_BOTH := Sta.start ev_BOTH (Or.inr ⟨(hw _ (List.mem_of_getElem? (i := 1) rfl)), (hw _ (List.mem_of_getElem? (i := 21) rfl))⟩)
  have E_BOTH := Exa.start ev_BOTH n10a
  obtain ⟨n11a, n11b⟩ := and_e n10b
  obtain ⟨n12a, n12b⟩ := and_e n11b
  have F_UNUSED_consumed := own_fld ev_UNUSED n12a
  obtain ⟨n13a, n13b⟩ := and_e n12b
  have F_UNUSED_produced := own_fld ev_UNUSED n13a
  obtain ⟨n14a, n14b⟩ := and_e n13b
  have F_CONSUMED_consumed := own_fld ev_CONSUMED n14a
  obtain ⟨n15a, n15b⟩ := and_e n14b
  have F_PRODUCED_consumed := own_fld ev_PRODUCED n15a
  obtain ⟨n16a, n16b⟩ := and_e n15b
  have F_PRODUCED_produced := own_fld ev_PRODUCED n16a
  obtain ⟨n17a, n17b⟩ := and_e n16b
  have F_BOTH_consumed := own_fld ev_BOTH n17a
  obtain ⟨n18a, n18b⟩ := and_e n17b
  have F_CONSUMED_produced := own_fld ev_CONSUMED n18a
  have F_BOTH_produced := own_fld ev_BOTH n18b
  have lt__VALUES := own_lenlt ev__VALUES A__VALUES n4a
  have e0 : cl__VALUES.slots[0]? = some (.ref w_UNUSED) := own_elem ev__VALUES A__VALUES ev_UNUSED n5a
  have e1 : cl__VALUES.slots[1]? = some (.ref w_CONSUMED) := own_elem ev__VALUES A__VALUES ev_CONSUMED n7a
  have e2 : cl__VALUES.slots[2]? = some (.ref w_PRODUCED) := own_elem ev__VALUES A__VALUES ev_PRODUCED n9a
  have e3 : cl__VALUES.slots[3]? = some (.ref w_BOTH) := own_elem ev__VALUES A__VALUES ev_BOTH n11a
  have V_VALUES : Arv s s.heap w__VALUES cl__VALUES.cls (.object "com/example/driftwell/driftwell/Roles$Role") (4 : Int32) [(.ref w_UNUSED), (.ref w_CONSUMED), (.ref w_PRODUCED), (.ref w_BOTH)] .null := Arv.start hfit A__VALUES lt__VALUES l__VALUES (by decide) rfl ⟨e0, e1, e2, e3, trivial⟩
  obtain ⟨n, o, h1, h2, h3, _, L, rfl, ⟨rfl, N⟩, hq⟩ := rm0 l s _ hw tables_1 i0 w__VALUES cl__VALUES.cls w_UNUSED w_CONSUMED w_PRODUCED w_BOTH s.heap s.heap.size (Nat.le_refl _) S_UNUSED S_CONSUMED S_PRODUCED S_BOTH S__VALUES V_VALUES E__VALUES F_UNUSED_consumed F_UNUSED_produced F_CONSUMED_consumed F_CONSUMED_produced F_PRODUCED_consumed F_PRODUCED_produced F_BOTH_consumed F_BOTH_produced E_UNUSED E_CONSUMED E_PRODUCED E_BOTH p e ha hc hk s m _ below hf ((Spec.applies_iff_loose hf).mp happ).1 ⟨rfl, State.Warmed39.refl s, rfl⟩ trivial
  refine ⟨n, _, h1, h2, h3, hpost _ _ _ _ _ _ ⟨Cond.after_iff.mpr rfl, Cond.after_iff.mpr (eq_i res_at (Term.int_eval (1)) rfl), trivial⟩ ⟨hq.1, hq.2.1, (hq.2.2.sift fun y hy => Or.inr (N y hy)).mono (by decide) (by decide)⟩⟩
theorem main_1_1 : Claimed_1_1 := comes_1 fun _ _ _ _ _ _ h hF => ⟨h.1, hF⟩
theorem main_1_2 : Claimed_1_2 := comes_1 fun _ _ _ _ _ _ h hF => ⟨h.2.1, hF⟩
end Jvm.Pilot.@@N@@
namespace Jvm.Pilot.@@N@@
open Jvm Jvm.ClassFile Sem Op Lib Jvm.Free Jvm.Stand Jvm.Pilot.@@N@@.Jvm.D
/-! MADE BY PROGRAM (witnessworld.py) out of the Statement's table words and the real class files: 13 classes; the members and pool entries that the words name. The judged class is class 1, her method 1. -/
namespace start1
open Jvm.ClassFile
def u (s : String) : CpInfo := .utf8 (stringToUtf16 s)
/-- a pool by its gaps: so many unusable entries, then the entry; so many at the end -/
def gap : Nat → List CpInfo → List CpInfo
  | 0, r => r
  | n + 1, r => .unusable :: gap n r
def poolList (es : List (Nat × CpInfo)) (last : Nat) : List CpInfo := es.foldr (fun e r => gap e.1 (e.2 :: r)) (gap last [])
def pool (es : List (Nat × CpInfo)) (last : Nat) : Array CpInfo := ⟨poolList es last⟩
def fileOf (pool : Array CpInfo) (this : Nat) (attrs : Array Attribute := #[]) (ms : Array MethodInfo := #[]) (fl : Nat := 33) (sup : Nat := 0) (ifs : Array Nat := #[]) (fds : Array FieldInfo := #[]) : ClassFile where
  minorVersion := 0
  majorVersion := 65
  constantPool := pool
  accessFlags := fl
  thisClass := this
  superClass := sup
  interfaces := ifs
  fields := fds
  methods := ms
  attributes := attrs
def plain (name : String) (sup : Option ClassId) : Class where
  name := name
  kind := .ordinary
  loader := none
  accessFlags := 33
  super := sup
  interfaces := #[]
  cf := none
  fields := #[]
  methods := #[]
  instanceTypes := #[]
  staticTypes := #[]
  resolved := #[]
  callSites := []
  init := .initialized
  statics := none
  mirror := none

def pool0 : Array CpInfo := pool [(5, u "<init>"), (0, u "()V"), (1, .class_ 10), (1, u "java/lang/Object"), (85, u "clone"), (0, u "()Ljava/lang/Object;")] 26

def k0m0 : Method := { name := "<init>", desc := "()V", sig := { parameters := [], returnType := none }, accessFlags := 1, code := none }
def k0m1 : Method := { name := "clone", desc := "()Ljava/lang/Object;", sig := { parameters := [], returnType := some (.object "java/lang/Object") }, accessFlags := 260, code := none }
/-- java/lang/Object -/
def k0 : Class := { plain "java/lang/Object" none with
  accessFlags := 33
  interfaces := #[]
  cf := some (fileOf pool0 8 #[] #[{ accessFlags := 1, nameIndex := 5, descriptorIndex := 6, attributes := #[] }, { accessFlags := 260, nameIndex := 96, descriptorIndex := 97, attributes := #[] }] 33 0 #[] #[])
  fields := #[]
  methods := #[k0m0, k0m1]
  instanceTypes := #[]
  staticTypes := #[]
  resolved := Array.replicate 124 none
  statics := none }

def pool1 : Array CpInfo := pool [(2, .class_ 4), (1, u "java/lang/Object"), (0, u "<init>"), (0, u "()V"), (0, .fieldref 8 9), (0, .class_ 10), (0, .nameAndType 11 12), (0, u "com/example/driftwell/driftwell/Roles$Role"), (0, u "BOTH"), (0, u "Lcom/example/driftwell/driftwell/Roles$Role;"), (0, .fieldref 8 14), (0, .nameAndType 15 12), (0, u "CONSUMED"), (0, .fieldref 8 17), (0, .nameAndType 18 12), (0, u "PRODUCED"), (0, .fieldref 8 20), (0, .nameAndType 21 12), (0, u "UNUSED"), (0, .methodref 8 23), (0, .nameAndType 24 25), (0, u "of"), (0, u "(ZZ)Lcom/example/driftwell/driftwell/Roles$Role;"), (0, .methodref 8 27), (0, .nameAndType 28 29), (0, u "consumed"), (0, u "()Z"), (0, .methodref 8 31), (0, .nameAndType 32 29), (0, u "produced"), (0, .class_ 34), (0, u "com/example/driftwell/driftwell/RoleOfPinLaw"), (2, u "law"), (0, u "(I)Z")] 7

def k1m0 : Method := { name := "<init>", desc := "()V", sig := { parameters := [], returnType := none }, accessFlags := 2, code := none }
def k1c1 : Code := { maxStack := 2, maxLocals := 5, code := code, exceptionTable := #[], attributes := #[] }
def k1m1 : Method := { name := "law", desc := "(I)Z", sig := { parameters := [.int], returnType := some .boolean }, accessFlags := 9, code := some k1c1 }
/-- com/example/driftwell/driftwell/RoleOfPinLaw -/
def k1 : Class := { plain "com/example/driftwell/driftwell/RoleOfPinLaw" (some 0) with
  accessFlags := 49
  interfaces := #[]
  cf := some (fileOf pool1 33 #[] #[{ accessFlags := 2, nameIndex := 5, descriptorIndex := 6, attributes := #[] }, { accessFlags := 9, nameIndex := 37, descriptorIndex := 38, attributes := #[] }] 49 2 #[] #[])
  fields := #[]
  methods := #[k1m0, k1m1]
  instanceTypes := #[]
  staticTypes := #[]
  resolved := Array.replicate 46 none
  statics := none }

def pool2 : Array CpInfo := pool [(1, .class_ 2), (0, u "java/lang/constant/Constable"), (0, .class_ 4), (0, u "java/lang/Object")] 6

/-- java/lang/constant/Constable -/
def k2 : Class := { plain "java/lang/constant/Constable" (some 0) with
  accessFlags := 1537
  interfaces := #[]
  cf := some (fileOf pool2 1 #[] #[] 1537 3 #[] #[])
  fields := #[]
  methods := #[]
  instanceTypes := #[]
  staticTypes := #[]
  resolved := Array.replicate 11 none
  statics := none }

def pool3 : Array CpInfo := pool [(1, .class_ 2), (0, u "java/lang/Comparable"), (0, .class_ 4), (0, u "java/lang/Object")] 7

/-- java/lang/Comparable -/
def k3 : Class := { plain "java/lang/Comparable" (some 0) with
  accessFlags := 1537
  interfaces := #[]
  cf := some (fileOf pool3 1 #[] #[] 1537 3 #[] #[])
  fields := #[]
  methods := #[]
  instanceTypes := #[]
  staticTypes := #[]
  resolved := Array.replicate 12 none
  statics := none }

def pool4 : Array CpInfo := pool [(1, .class_ 2), (0, u "java/io/Serializable"), (0, .class_ 4), (0, u "java/lang/Object")] 2

/-- java/io/Serializable -/
def k4 : Class := { plain "java/io/Serializable" (some 0) with
  accessFlags := 1537
  interfaces := #[]
  cf := some (fileOf pool4 1 #[] #[] 1537 3 #[] #[])
  fields := #[]
  methods := #[]
  instanceTypes := #[]
  staticTypes := #[]
  resolved := Array.replicate 7 none
  statics := none }

def pool5 : Array CpInfo := pool [(2, .class_ 4), (1, u "java/lang/Enum"), (0, u "name"), (0, u "Ljava/lang/String;"), (2, u "ordinal"), (0, u "I"), (1, .class_ 14), (1, u "java/lang/Object"), (4, u "hash"), (86, .class_ 108), (1, u "java/lang/Enum$EnumDesc"), (2, .class_ 112), (0, u "java/lang/constant/Constable"), (0, .class_ 114), (0, u "java/lang/Comparable"), (0, .class_ 116), (0, u "java/io/Serializable")] 87

/-- java/lang/Enum -/
def k5 : Class := { plain "java/lang/Enum" (some 0) with
  accessFlags := 1057
  interfaces := #[2, 3, 4]
  cf := some (fileOf pool5 2 #[.nestMembers #[106]] #[] 1057 12 #[111, 113, 115] #[{ accessFlags := 18, nameIndex := 5, descriptorIndex := 6, attributes := #[] }, { accessFlags := 18, nameIndex := 9, descriptorIndex := 10, attributes := #[] }, { accessFlags := 2, nameIndex := 19, descriptorIndex := 10, attributes := #[] }])
  fields := #[{ name := "name", type := (.object "java/lang/String"), accessFlags := 18, slot := 0, constantValue := 0 }, { name := "ordinal", type := .int, accessFlags := 18, slot := 1, constantValue := 0 }, { name := "hash", type := .int, accessFlags := 2, slot := 2, constantValue := 0 }]
  methods := #[]
  instanceTypes := #[(.object "java/lang/String"), .int, .int]
  staticTypes := #[]
  resolved := Array.replicate 204 none
  statics := none }

def pool6 : Array CpInfo := pool [(1, .class_ 2), (0, u "com/example/driftwell/driftwell/Roles$Role"), (0, .fieldref 1 4), (0, .nameAndType 5 6), (0, u "UNUSED"), (0, u "Lcom/example/driftwell/driftwell/Roles$Role;"), (2, u "CONSUMED"), (2, u "PRODUCED"), (2, u "BOTH"), (0, .fieldref 1 17), (0, .nameAndType 18 19), (0, u "$VALUES"), (0, u "[Lcom/example/driftwell/driftwell/Roles$Role;"), (0, .methodref 21 22), (0, .class_ 19), (0, .nameAndType 23 24), (0, u "clone"), (0, u "()Ljava/lang/Object;"), (1, .class_ 28), (1, u "java/lang/Enum"), (6, .fieldref 1 36), (0, .nameAndType 37 38), (0, u "consumed"), (0, u "Z"), (0, .fieldref 1 40), (0, .nameAndType 41 38), (0, u "produced"), (0, .methodref 1 43), (0, .nameAndType 44 45), (0, u "values"), (0, u "()[Lcom/example/driftwell/driftwell/Roles$Role;"), (16, u "()Z"), (0, u "of"), (0, u "(ZZ)Lcom/example/driftwell/driftwell/Roles$Role;"), (7, .class_ 73), (0, u "com/example/driftwell/driftwell/Roles")] 2

def k6c0 : Code := { maxStack := 1, maxLocals := 0, code := prog_59_method_1_code, exceptionTable := #[], attributes := #[] }
def k6m0 : Method := { name := "values", desc := "()[Lcom/example/driftwell/driftwell/Roles$Role;", sig := { parameters := [], returnType := some (.array (.object "com/example/driftwell/driftwell/Roles$Role")) }, accessFlags := 9, code := some k6c0 }
def k6c1 : Code := { maxStack := 1, maxLocals := 1, code := prog_59_method_4_code, exceptionTable := #[], attributes := #[] }
def k6m1 : Method := { name := "consumed", desc := "()Z", sig := { parameters := [], returnType := some .boolean }, accessFlags := 0, code := some k6c1 }
def k6c2 : Code := { maxStack := 1, maxLocals := 1, code := prog_59_method_5_code, exceptionTable := #[], attributes := #[] }
def k6m2 : Method := { name := "produced", desc := "()Z", sig := { parameters := [], returnType := some .boolean }, accessFlags := 0, code := some k6c2 }
def k6c3 : Code := { maxStack := 2, maxLocals := 7, code := prog_59_method_6_code, exceptionTable := #[], attributes := #[] }
def k6m3 : Method := { name := "of", desc := "(ZZ)Lcom/example/driftwell/driftwell/Roles$Role;", sig := { parameters := [.boolean, .boolean], returnType := some (.object "com/example/driftwell/driftwell/Roles$Role") }, accessFlags := 8, code := some k6c3 }
/-- com/example/driftwell/driftwell/Roles$Role -/
def k6 : Class := { plain "com/example/driftwell/driftwell/Roles$Role" (some 5) with
  accessFlags := 16432
  interfaces := #[]
  cf := some (fileOf pool6 1 #[.nestHost 72] #[{ accessFlags := 9, nameIndex := 44, descriptorIndex := 45, attributes := #[] }, { accessFlags := 0, nameIndex := 37, descriptorIndex := 62, attributes := #[] }, { accessFlags := 0, nameIndex := 41, descriptorIndex := 62, attributes := #[] }, { accessFlags := 8, nameIndex := 63, descriptorIndex := 64, attributes := #[] }] 16432 26 #[] #[{ accessFlags := 16409, nameIndex := 5, descriptorIndex := 6, attributes := #[] }, { accessFlags := 16409, nameIndex := 9, descriptorIndex := 6, attributes := #[] }, { accessFlags := 16409, nameIndex := 12, descriptorIndex := 6, attributes := #[] }, { accessFlags := 16409, nameIndex := 15, descriptorIndex := 6, attributes := #[] }, { accessFlags := 18, nameIndex := 37, descriptorIndex := 38, attributes := #[] }, { accessFlags := 18, nameIndex := 41, descriptorIndex := 38, attributes := #[] }, { accessFlags := 4122, nameIndex := 18, descriptorIndex := 19, attributes := #[] }])
  fields := #[{ name := "UNUSED", type := (.object "com/example/driftwell/driftwell/Roles$Role"), accessFlags := 16409, slot := 0, constantValue := 0 }, { name := "CONSUMED", type := (.object "com/example/driftwell/driftwell/Roles$Role"), accessFlags := 16409, slot := 1, constantValue := 0 }, { name := "PRODUCED", type := (.object "com/example/driftwell/driftwell/Roles$Role"), accessFlags := 16409, slot := 2, constantValue := 0 }, { name := "BOTH", type := (.object "com/example/driftwell/driftwell/Roles$Role"), accessFlags := 16409, slot := 3, constantValue := 0 }, { name := "consumed", type := .boolean, accessFlags := 18, slot := 3, constantValue := 0 }, { name := "produced", type := .boolean, accessFlags := 18, slot := 4, constantValue := 0 }, { name := "$VALUES", type := (.array (.object "com/example/driftwell/driftwell/Roles$Role")), accessFlags := 4122, slot := 4, constantValue := 0 }]
  methods := #[k6m0, k6m1, k6m2, k6m3]
  instanceTypes := #[(.object "java/lang/String"), .int, .int, .boolean, .boolean]
  staticTypes := #[(.object "com/example/driftwell/driftwell/Roles$Role"), (.object "com/example/driftwell/driftwell/Roles$Role"), (.object "com/example/driftwell/driftwell/Roles$Role"), (.object "com/example/driftwell/driftwell/Roles$Role"), (.array (.object "com/example/driftwell/driftwell/Roles$Role"))]
  resolved := Array.replicate 76 none
  statics := some 0 }

def pool7 : Array CpInfo := pool [(1, .class_ 2), (0, u "java/lang/Cloneable"), (0, .class_ 4), (0, u "java/lang/Object")] 2

/-- java/lang/Cloneable -/
def k7 : Class := { plain "java/lang/Cloneable" (some 0) with
  accessFlags := 1537
  interfaces := #[]
  cf := some (fileOf pool7 1 #[] #[] 1537 3 #[] #[])
  fields := #[]
  methods := #[]
  instanceTypes := #[]
  staticTypes := #[]
  resolved := Array.replicate 7 none
  statics := none }

/-- the primitive byte -/
def k8 : Class := { plain "byte" none with kind := .primitive 'B', accessFlags := 0x411 }
/-- [B -/
def k9 : Class := { plain "[B" (some 0) with kind := .array 8 .byte, interfaces := #[7, 4], accessFlags := 1041 }

/-- the primitive int -/
def k10 : Class := { plain "int" none with kind := .primitive 'I', accessFlags := 0x411 }
/-- [I -/
def k11 : Class := { plain "[I" (some 0) with kind := .array 10 .int, interfaces := #[7, 4], accessFlags := 1041 }

/-- [Lcom/example/driftwell/driftwell/Roles$Role; -/
def k12 : Class := { plain "[Lcom/example/driftwell/driftwell/Roles$Role;" (some 0) with kind := .array 6 (.object "com/example/driftwell/driftwell/Roles$Role"), interfaces := #[7, 4], accessFlags := 1041 }

def heap : Heap := #[{ cls := 6, slots := #[.ref 2, .ref 3, .ref 4, .ref 5, .ref 1], vm := .statics 6 },
  { cls := 12, slots := #[.ref 2, .ref 3, .ref 4, .ref 5], vm := .none },
  { cls := 6, slots := #[.null, .int 0, .int 0, .int 0, .int 0], vm := .none },
  { cls := 6, slots := #[.null, .int 1, .int 0, .int 1, .int 0], vm := .none },
  { cls := 6, slots := #[.null, .int 2, .int 0, .int 0, .int 1], vm := .none },
  { cls := 6, slots := #[.null, .int 3, .int 0, .int 1, .int 1], vm := .none }]
def classes : Array Class := #[k0, k1, k2, k3, k4, k5, k6, k7, k8, k9, k10, k11, k12]
def interned : List (Array UInt16 × Addr) := []
def slotsUsed : Nat := 29
def theMethod : MethodId := ⟨1, 1⟩
def args0 : Array Value := #[.int 5]
def aboutOver (below : List Frame) : State where
  vm := { classes := classes, interned := interned.toArray }
  heap := heap
  slotsUsed := slotsUsed
  threads := #[{ frames := .invoking theMethod args0 :: below }]
def below0 : List Frame := [.native { method := ⟨0, 0⟩, args := #[] }]
def about1 : State := aboutOver below0
def p0 : Program := .bare "" "" ""
def e0 : Env := launch0.env 0 0 0
theorem w_frames : about1.frames = Frame.invoking theMethod args0 :: below0 := rfl
set_option maxRecDepth 65536 in
theorem w_args : argsFit about1.vm theMethod args0 = true := by decide +kernel
set_option maxRecDepth 65536 in
theorem w_heap : heapFits about1 = true := by decide +kernel
set_option maxRecDepth 65536 in
theorem w_runnable : about1.curStatus? = some .runnable := by decide +kernel
set_option maxRecDepth 65536 in
theorem w_alone : about1.alone = true := by decide +kernel
set_option maxRecDepth 65536 in
theorem w_named : about1.methodNamed? x = some theMethod := by decide +kernel
set_option maxRecDepth 65536 in
theorem w_hears : about1.hears theMethod below0 = true := by decide +kernel
set_option maxRecDepth 65536 in
theorem w_ripe : about1.ripe theMethod args0 below0 = true := by decide +kernel
theorem w_running : about1.status = .running := rfl
set_option maxRecDepth 65536 in
theorem w_room : about1.hasRoom e0.platform room_1 = true :=
  launch0.hasRoom_least _ room_1 (by decide +kernel) (by decide +kernel) (by decide +kernel) (by decide +kernel) (by decide +kernel) (by decide +kernel)
theorem allAtoms_all (ts : List Jvm.Cond) (a : Array Jvm.Value) (st : Jvm.State) : (allAtoms ts).before a st = ts.all (fun c => c.before a st) := by
  induction ts with
  | nil => rfl
  | cons c t ih =>
    show (Jvm.Cond.and c (allAtoms t)).before a st = _
    rw [Jvm.Cond.before_and, ih, List.all_cons]
def words1 : List Jvm.Cond := Jvm.Cond.code x code maxLocals ret :: tables_1
/-- a 'code' word, met by the world's own term for the bytes: nothing is compared byte by byte -/
theorem code_word {y : MethodName} {bytes : ByteArray} {mx : Nat} {rt : Option FieldType} {a : Array Value} {s : State} {m : MethodId} {meth : Method} {c : Code} (h1 : s.methodNamed? y = some m) (h2 : s.vm.method? m = some meth) (h3 : meth.code = some c) (h4 : c.code = bytes)
    (h5 : (c.maxLocals == mx && c.exceptionTable.isEmpty && decide (c.maxStack ≤ mostOperands) && decide (meth.sig.returnType = rt) && !meth.locks && decide (parseMethodDescriptor y.desc = some meth.sig)) = true) : (Jvm.Cond.code y bytes mx rt).before a s = true := by
  simp only [Bool.and_eq_true, beq_iff_eq, Bool.not_eq_true', decide_eq_true_eq] at h5
  obtain ⟨⟨⟨⟨⟨g1, g2⟩, g3⟩, g4⟩, g5⟩, g6⟩ := h5
  simp [Cond.before, Cond.holds, Cond.value, h1, h2, h3, h4, g1, g2, g3, g4, g5, g6]
def isCode : Jvm.Cond → Bool
  | .code _ _ _ _ => true
  | _ => false
theorem all_split {L : List Jvm.Cond} {P : Jvm.Cond → Bool} (h1 : L.all (fun c => isCode c || P c) = true) (h2 : ∀ c ∈ L.filter isCode, P c = true) : L.all P = true := by
  refine List.all_eq_true.mpr fun c hc => ?_
  have h := List.all_eq_true.mp h1 c hc
  rcases Bool.eq_false_or_eq_true (isCode c) with hi | hi
  · exact h2 c (List.mem_filter.mpr ⟨hc, hi⟩)
  · simpa [hi] using h
set_option maxRecDepth 65536 in
theorem w_c0 : (Jvm.Cond.code x code maxLocals ret).before args0 about1 = true := code_word (m := ⟨1, 1⟩) (meth := k1m1) (c := k1c1) (by decide +kernel) rfl rfl rfl (by decide +kernel)
set_option maxRecDepth 65536 in
theorem w_c1 : (Jvm.Cond.code ({ cls := "com/example/driftwell/driftwell/Roles$Role", name := "of", desc := "(ZZ)Lcom/example/driftwell/driftwell/Roles$Role;" } : Jvm.MethodName) prog_59_method_6_code (7 : Nat) (Option.some (Jvm.ClassFile.FieldType.object "com/example/driftwell/driftwell/Roles$Role"))).before args0 about1 = true := code_word (m := ⟨6, 3⟩) (meth := k6m3) (c := k6c3) (by decide +kernel) rfl rfl rfl (by decide +kernel)
set_option maxRecDepth 65536 in
theorem w_c2 : (Jvm.Cond.code ({ cls := "com/example/driftwell/driftwell/Roles$Role", name := "values", desc := "()[Lcom/example/driftwell/driftwell/Roles$Role;" } : Jvm.MethodName) prog_59_method_1_code (0 : Nat) (Option.some (Jvm.ClassFile.FieldType.array (Jvm.ClassFile.FieldType.object "com/example/driftwell/driftwell/Roles$Role")))).before args0 about1 = true := code_word (m := ⟨6, 0⟩) (meth := k6m0) (c := k6c0) (by decide +kernel) rfl rfl rfl (by decide +kernel)
set_option maxRecDepth 65536 in
theorem w_c3 : (Jvm.Cond.code ({ cls := "com/example/driftwell/driftwell/Roles$Role", name := "consumed", desc := "()Z" } : Jvm.MethodName) prog_59_method_4_code (1 : Nat) (Option.some Jvm.ClassFile.FieldType.boolean)).before args0 about1 = true := code_word (m := ⟨6, 1⟩) (meth := k6m1) (c := k6c1) (by decide +kernel) rfl rfl rfl (by decide +kernel)
set_option maxRecDepth 65536 in
theorem w_c4 : (Jvm.Cond.code ({ cls := "com/example/driftwell/driftwell/Roles$Role", name := "produced", desc := "()Z" } : Jvm.MethodName) prog_59_method_5_code (1 : Nat) (Option.some Jvm.ClassFile.FieldType.boolean)).before args0 about1 = true := code_word (m := ⟨6, 2⟩) (meth := k6m2) (c := k6c2) (by decide +kernel) rfl rfl rfl (by decide +kernel)
def codes1 : List Jvm.Cond := [Jvm.Cond.code x code maxLocals ret, Jvm.Cond.code ({ cls := "com/example/driftwell/driftwell/Roles$Role", name := "of", desc := "(ZZ)Lcom/example/driftwell/driftwell/Roles$Role;" } : Jvm.MethodName) prog_59_method_6_code (7 : Nat) (Option.some (Jvm.ClassFile.FieldType.object "com/example/driftwell/driftwell/Roles$Role")), Jvm.Cond.code ({ cls := "com/example/driftwell/driftwell/Roles$Role", name := "values", desc := "()[Lcom/example/driftwell/driftwell/Roles$Role;" } : Jvm.MethodName) prog_59_method_1_code (0 : Nat) (Option.some (Jvm.ClassFile.FieldType.array (Jvm.ClassFile.FieldType.object "com/example/driftwell/driftwell/Roles$Role"))), Jvm.Cond.code ({ cls := "com/example/driftwell/driftwell/Roles$Role", name := "consumed", desc := "()Z" } : Jvm.MethodName) prog_59_method_4_code (1 : Nat) (Option.some Jvm.ClassFile.FieldType.boolean), Jvm.Cond.code ({ cls := "com/example/driftwell/driftwell/Roles$Role", name := "produced", desc := "()Z" } : Jvm.MethodName) prog_59_method_5_code (1 : Nat) (Option.some Jvm.ClassFile.FieldType.boolean)]
set_option maxRecDepth 65536 in
theorem codes_eq : words1.filter isCode = codes1 := rfl
theorem w_codes : ∀ c ∈ words1.filter isCode, c.before args0 about1 = true := by
  rw [codes_eq]
  intro c hc
  simp only [codes1, List.mem_cons, List.not_mem_nil, or_false] at hc
  rcases hc with rfl | rfl | rfl | rfl | rfl
  · exact w_c0
  · exact w_c1
  · exact w_c2
  · exact w_c3
  · exact w_c4
set_option maxRecDepth 65536 in
theorem w_t1 : (words1.take 24).all (fun c => isCode c || c.before args0 about1) = true := by decide +kernel
set_option maxRecDepth 65536 in
theorem w_t2 : (words1.drop 24).all (fun c => isCode c || c.before args0 about1) = true := by decide +kernel
theorem w_tables : (allAtoms (Jvm.Cond.code x code maxLocals ret :: tables_1)).before args0 about1 = true := by
  rw [allAtoms_all]
  show words1.all (fun c => c.before args0 about1) = true
  refine all_split ?_ w_codes
  rw [← List.take_append_drop 24 words1, List.all_append, w_t1, w_t2]
  rfl
set_option maxRecDepth 65536 in
theorem w_case : (Jvm.Cond.and given_1 narrow_1).before args0 about1 = true := by decide +kernel
theorem w_applies : (headSpec (Jvm.Cond.code x code maxLocals ret :: tables_1) room_1).applies x e0.platform about1 = true :=
  (Spec.applies_iff w_frames).mpr ⟨w_running, w_runnable, w_alone, w_named, w_hears, w_ripe, w_room, w_tables⟩
theorem atStart : AtStart classFile x code maxLocals ret World_1 tables_1 room_1 Calls_1 rest_1 Pre_1 launch0 p0 e0 about1 theMethod args0 below0 :=
  ⟨lists_1, trivial, launch0.admits_env _ _ _, launch0.least_env, fairChoices_fair.cas, fairChoices_fair.clock, w_frames, w_args, w_heap, w_applies, trivial, trivial, w_case⟩
end start1
theorem witness_1 : WitnessClaimed_1 := ⟨start1.p0, start1.e0, start1.about1, start1.theMethod, start1.args0, start1.below0, start1.atStart⟩
end Jvm.Pilot.@@N@@
