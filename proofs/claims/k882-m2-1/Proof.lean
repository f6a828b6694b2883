import JvmDerived
import JvmDerived.Pilot.@@N@@Statement
import JvmDerived.Pilot.@@N@@Code
set_option linter.unusedVariables false
set_option linter.unusedSimpArgs false
namespace Jvm.RoadKit
open Sem ClassFile Op Lib Jvm.Stand Jvm.Free Jvm.LawKit
section New
variable {p : Program} {l : Launch} {e : Env} {R : Room} {s : State} {m : MethodId} {args : Array Value} {below : List Frame} {meth : Method} {c : Code} {T : State} {locs : List Loc} {cells slots : Nat}
theorem retI (X : Stand p l e R s m args below meth c T locs cells slots) (hx : p.tables.exec = Jvm.exec) {pc : Nat} {Ls : Array Slot} {z : Int32} {rest : List Value} (hret : meth.sig.returnType = some .int) (hd : decode c.code pc = .ok (.ireturn, 1)) {fs : List Frame}
    (hl : ∀ (f : JFrame) (acts : List Action), f.method = m → f.locked = none → f.entered = [] → (doReturn e (T.setTop f) acts (some (.int z))).1 = T.setFrames fs) : Steps p.tables e below (T.setTop (mkF m pc Ls (.int z :: rest))) (T.setFrames fs) := by
  have hm' : T.vm.method? m = some meth := X.method'
  have hn : narrow .int (.int z) = .int z := rfl
  show Steps p.tables e below (T.setTop { method := m, pc := pc, locals := Ls, stack := _ :: rest, locked := none }) _
  jvm_step X.here [X.here.top, hx, hd, hm', hret, hn]
  first | (intro acts; rw [hl _ acts rfl rfl rfl]) | rw [hl _ _ rfl rfl rfl]
  exact Steps.refl _
end New
end Jvm.RoadKit
namespace Jvm.Pilot.@@N@@
open Jvm Jvm.ClassFile Sem Op Lib Jvm.Free Jvm.Stand Jvm.LawKit Jvm.RoadKit Bundle Jvm.Pilot.@@N@@.Jvm.D
theorem own_retb (z : Int32) (h : z = 0 ∨ z = 1) : narrow .boolean (.int z) = .int z := by rcases h with rfl | rfl <;> rfl
theorem own_rem (x n : Int32) (hn : 0 < n.toInt) : 0 ≤ ((x &&& (2147483647 : Int32)) % n).toInt ∧ ((x &&& (2147483647 : Int32)) % n).toInt < n.toInt := by
  have h1 := c_mask x (2147483647 : Int32) 31 (by decide) (by decide)
  have h2 := (c_iremV (x &&& (2147483647 : Int32)) n).1 (by omega) hn
  exact ⟨h2.1, h2.2.1⟩
theorem own_of3 {k : Int32} (h : 0 ≤ k.toInt ∧ k.toInt < 3) : k = 0 ∨ k = 1 ∨ k = 2 := by
  have h2 : k.toInt = (0 : Int32).toInt ∨ k.toInt = (1 : Int32).toInt ∨ k.toInt = (2 : Int32).toInt := by simp; omega
  simpa only [Int32.toInt_inj] using h2
theorem own_of5 {k : Int32} (h : 0 ≤ k.toInt ∧ k.toInt < 5) : k = 0 ∨ k = 1 ∨ k = 2 ∨ k = 3 ∨ k = 4 := by
  have h2 : k.toInt = (0 : Int32).toInt ∨ k.toInt = (1 : Int32).toInt ∨ k.toInt = (2 : Int32).toInt ∨ k.toInt = (3 : Int32).toInt ∨ k.toInt = (4 : Int32).toInt := by simp; omega
  simpa only [Int32.toInt_inj] using h2
theorem own_of6 {k : Int32} (h : 0 ≤ k.toInt ∧ k.toInt < 6) : k = 0 ∨ k = 1 ∨ k = 2 ∨ k = 3 ∨ k = 4 ∨ k = 5 := by
  have h2 : k.toInt = (0 : Int32).toInt ∨ k.toInt = (1 : Int32).toInt ∨ k.toInt = (2 : Int32).toInt ∨ k.toInt = (3 : Int32).toInt ∨ k.toInt = (4 : Int32).toInt ∨ k.toInt = (5 : Int32).toInt := by simp; omega
  simpa only [Int32.toInt_inj] using h2
theorem own_eqI {args : Array Value} {s : State} {t : Term} {k : Int32} (h : (Jvm.Cond.eq t (.int k)).value args s none s [] = some true) : t.eval args s none [] s = some (.int k) := by
  obtain ⟨u, v, hu, hv, k1, k2⟩ := cmp_v (Or.inl h)
  have hv2 : v = .int k := Option.some.inj (hv.symm.trans (Term.int_eval k))
  subst hv2
  cases u <;> simp [Cond.value, hu, hv] at h
  subst h; exact hu
theorem own_fld {args : Array Value} {s : State} {t : Term} {a : Addr} {C n d : String} {k : Int32} (ev : t.eval args s none [] s = some (.ref a)) (h : (Jvm.Cond.eq (.field t C n d) (.int k)).value args s none s [] = some true) : Fld s s.heap a C n d (.int k) :=
  Fld.start ((fld_at ev).symm.trans (own_eqI h))
theorem own_len {args : Array Value} {s : State} {t : Term} {a : Addr} {cl : Cell} {ty : FieldType} {k : Int32} (ev : t.eval args s none [] s = some (.ref a)) (A : Arr s s.heap a cl ty) (h : (Jvm.Cond.eq (.length t) (.int k)).value args s none s [] = some true) : cl.slots.size.toInt32 = k := by
  obtain ⟨b, c, e1, e2, e3⟩ := Term.length_spec (own_eqI h)
  cases ev.symm.trans e1
  cases (A.fin (Vm.Alike.refl _)).symm.trans e2
  exact (Value.int.inj e3).symm
theorem own_lenlt {args : Array Value} {s : State} {t : Term} {a : Addr} {cl : Cell} {ty : FieldType} {k : Int32} (ev : t.eval args s none [] s = some (.ref a)) (A : Arr s s.heap a cl ty) (h : (Jvm.Cond.eq (.length t) (.int k)).value args s none s [] = some true) : cl.slots.size < 2 ^ 31 := by
  have h1 := own_eqI h
  have h2 := A.fin (Vm.Alike.refl _)
  apply Classical.byContradiction
  intro h3
  simp [Term.eval, ev, h2, h3] at h1
theorem own_elem {args : Array Value} {s : State} {t u : Term} {a b : Addr} {cl : Cell} {ty : FieldType} {j : Int32} (ev : t.eval args s none [] s = some (.ref a)) (A : Arr s s.heap a cl ty) (hu : u.eval args s none [] s = some (.ref b)) (h : (Jvm.Cond.eq (.elem t (.int j)) u).value args s none s [] = some true) : cl.slots[j.toNatClampNeg]? = some (.ref b) := by
  obtain ⟨x, y, hx, hy, -, -⟩ := cmp_v (Or.inl h)
  cases hu.symm.trans hy
  have h2 := (elem_in hx ev (Term.int_eval j) A.1).2
  cases x <;> simp [Cond.value, hx, hy] at h
  subst h; exact h2
theorem own_fldN {args : Array Value} {s : State} {t : Term} {a : Addr} {C n d : String} (ev : t.eval args s none [] s = some (.ref a)) (h : (Jvm.Cond.eq (.field t C n d) .null).value args s none s [] = some true) : Fld s s.heap a C n d .null :=
  Fld.start ((fld_at ev).symm.trans (null_v h))
theorem own_staK {Z : State} {h h' : Heap} {C n d : String} {v : Value} {ws : List Addr} (S : Sta Z h C n d v) (K : Keep h h' ws) (q : ∀ x ∈ ws, ∃ C', Exa Z h x C') : Sta Z h' C n d v := by
  obtain ⟨cf, i, k, f, st, cell, h1, h2, h3, h4, h5, h6, h7⟩ := S
  refine ⟨cf, i, k, f, st, cell, h1, h2, h3, h4, K.2.1 _ _ h5 (fun m => ?_), h6, h7⟩
  obtain ⟨C', cell', k', e1, -, -, e4, -⟩ := q st m
  cases h5.symm.trans e1
  rw [h6] at e4; cases e4
theorem own_wS {Z : State} {a0 : Array Value} (hw : ∀ d ∈ tables_1, d.before a0 Z = true) : ∀ a ∈ Bundle.stringAtoms, a.before a0 Z = true := by
  intro a ha
  simp only [Bundle.stringAtoms, List.mem_cons, List.not_mem_nil, or_false] at ha
  rcases ha with rfl | rfl | rfl | rfl | rfl | rfl | rfl
  · exact (hw _ (List.mem_of_getElem? (i := 65) rfl))
  · exact (hw _ (List.mem_of_getElem? (i := 66) rfl))
  · exact (hw _ (List.mem_of_getElem? (i := 67) rfl))
  · exact (hw _ (List.mem_of_getElem? (i := 68) rfl))
  · exact (hw _ (List.mem_of_getElem? (i := 69) rfl))
  · exact (hw _ (List.mem_of_getElem? (i := 70) rfl))
  · exact (hw _ (List.mem_of_getElem? (i := 71) rfl))
def QR (Z : State) (r : Addr) (h0 : Heap) (n0 : Nat) (v : Option Value) (h : Heap) (L : List Loc) : Prop := v = some (.ref r) ∧ Fr n0 L ∧ h = h0
def QI (Z : State) (r : Int32) (h0 : Heap) (n0 : Nat) (v : Option Value) (h : Heap) (L : List Loc) : Prop := v = some (.int r) ∧ Fr n0 L ∧ h = h0
def QF (Z : State) (a1 x1 x2 : Addr) (x3 : Int32) (h0 : Heap) (n0 : Nat) (v : Option Value) (h : Heap) (L : List Loc) : Prop := v = some (.ref a1) ∧ Fr n0 L ∧ Keep h0 h [a1] ∧ Exa Z h a1 "com/example/wee_forge/weeforge/model/ProjectFilter" ∧ Fld Z h a1 "com/example/wee_forge/weeforge/model/ProjectFilter" "sort" "Lcom/example/wee_forge/weeforge/model/SortDirection;" (.ref x1) ∧ Fld Z h a1 "com/example/wee_forge/weeforge/model/ProjectFilter" "orderBy" "Lcom/example/wee_forge/weeforge/model/ProjectOrder;" (.ref x2) ∧ Fld Z h a1 "com/example/wee_forge/weeforge/model/ProjectFilter" "starredOnly" "Z" (.int x3)
def QC (Z : State) (a1 x1 x2 : Addr) (x3 : Int32) (h0 : Heap) (n0 : Nat) (v : Option Value) (h : Heap) (L : List Loc) : Prop := v = none ∧ Fr n0 L ∧ Keep h0 h [a1] ∧ Exa Z h a1 "com/example/wee_forge/weeforge/model/ProjectFilter" ∧ Fld Z h a1 "com/example/wee_forge/weeforge/model/ProjectFilter" "sort" "Lcom/example/wee_forge/weeforge/model/SortDirection;" (.ref x1) ∧ Fld Z h a1 "com/example/wee_forge/weeforge/model/ProjectFilter" "orderBy" "Lcom/example/wee_forge/weeforge/model/ProjectOrder;" (.ref x2) ∧ Fld Z h a1 "com/example/wee_forge/weeforge/model/ProjectFilter" "starredOnly" "Z" (.int x3)
def own_pick (i : Int32) (b0 b1 b2 b3 b4 b5 : Addr) : Addr := if i = 0 then b0 else if i = 1 then b1 else if i = 2 then b2 else if i = 3 then b3 else if i = 4 then b4 else b5
theorem own_epick {Z : State} {h : Heap} {C : String} {i : Int32} {b0 b1 b2 b3 b4 b5 : Addr} (f0 : Exa Z h b0 C) (f1 : Exa Z h b1 C) (f2 : Exa Z h b2 C) (f3 : Exa Z h b3 C) (f4 : Exa Z h b4 C) (f5 : Exa Z h b5 C) : Exa Z h (own_pick i b0 b1 b2 b3 b4 b5) C := by
  unfold own_pick
  repeat' split
  all_goals assumption
theorem d4_0 : decode jdk_40_method_36_code 0 = .ok (.getstatic 90, 3) := by decide +kernel
theorem d4_3 : decode jdk_40_method_36_code 3 = .ok (.areturn, 1) := by decide +kernel
theorem pn_rmLo : plainName "java/util/List" = true := by first | (simp [plainName, overriddenIn]; done) | decide +kernel
theorem ef_rmLo (m : MethodId)  : entryFrame m #[] 0 = mkF m 0 #[] [] := by first | (simp [entryFrame, mkF, argsToLocals, Value.category]; done) | rfl
set_option maxRecDepth 65536 in
set_option maxHeartbeats 40000000 in
theorem rmLo (l : Launch) (Z : State) (a0 : Array Value) (hw : ∀ d ∈ tables_1, d.before a0 Z = true) (ws : List Jvm.Cond) (wEL : Addr) (h0 : Heap) (n0 : Nat) (Z0 : n0 ≤ h0.size) (S_EL : Sta Z h0 "java/util/ImmutableCollections" "EMPTY_LIST" "Ljava/util/ImmutableCollections$ListN;" (.ref wEL)) :
    MetFree l (⟨"java/util/List", "of", "()Ljava/util/List;"⟩ : MethodName) (head1 (Jvm.Cond.code (⟨"java/util/List", "of", "()Ljava/util/List;"⟩ : MethodName) jdk_40_method_36_code 0 (some (.object "java/util/List")) :: ws) ({ frames := 0, cells := 0, slots := 0, locals := 0 } : Room)) (fun a U => a = #[] ∧ Z.Warmed39 U.vm ∧ U.heap = h0) (fun _ _ _ _ _ => True) (fun _ U o U' => ∃ v L, o = .returned v ∧ QR Z wEL h0 n0 v U'.heap L ∧ FrameEnd U o U' L ({ frames := 0, cells := 0, slots := 0, locals := 0 } : Room).cells ({ frames := 0, cells := 0, slots := 0, locals := 0 } : Room).slots) := by
  refine MetFree.of_bodySF (plainFor_of_name pn_rmLo) hisR ?_
  intro p e s m args below meth c s₁ Bd hml0 hP hK
  obtain ⟨rfl, hZ, hh⟩ := hP
  have hx := Bd.exec
  have hby := Bd.bytes
  have hml : c.maxLocals = 0 := hml0
  have hown : s.vm.findClass "java/util/List" = some m.cls := findClass_of_methodNamed Bd.named
  have hnm := (name_of_methodNamed Bd.named Bd.method).1
  have X0 : Stand p l e ({ frames := 0, cells := 0, slots := 0, locals := 0 } : Room) s m #[] below meth c s₁ [] 0 0 := Stand.of_body Bd
  have e0 : s₁.heap = h0 := by rw [← hh, Bd.state]; rfl
  have N0 := Fr.nil n0
  have pre0 : ∀ tt, Steps p.tables e below (s₁.setTop (mkF m 0 #[] [])) tt → Steps p.tables e below (s₁.setTop (entryFrame m #[] 0)) tt := fun tt kt => castTop (ef_rmLo m ) kt
  obtain ⟨T1, X1, e1, st1⟩ := getS2 X0 hx hZ hown (host := "") (Or.inl (hw _ (List.mem_of_getElem? (i := 23) rfl))) Via.refl e0 S_EL (g := (mkF m 0 #[] [])) rfl (hb hby d4_0)
  have pre2 : ∀ tt, Steps p.tables e below (T1.setTop (mkF m 3 #[] [(.ref wEL)])) tt → Steps p.tables e below (s₁.setTop (entryFrame m #[] 0)) tt := by
    intro tt kt
    refine pre0 tt ?_
    show Steps p.tables e below (s₁.setTop (mkF m 0 #[] [])) _
    refine st1 _ ?_
    exact kt
  obtain ⟨fs, hr, hrun, hended, hW, hsame⟩ := X1.leave (v := some (.ref wEL)) (fun h => by rw [Bd.returns] at h; cases h)
  refine ⟨_, _, pre2 _ ?_, hrun, hended, _, _, rfl, ?_, ⟨_, rfl⟩, hW, hsame.mono (by decide) (by decide)⟩
  · show Steps p.tables e below (T1.setTop (mkF m 3 #[] [(.ref wEL)])) _
    jvm_step X1.here [X1.here.top, hx, (hb hby d4_3), X1.method', Bd.returns, Value.isRef, FieldType.isReference]
    first | (intro acts; rw [hr _ acts rfl rfl rfl]) | rw [hr _ _ rfl rfl rfl]
    exact Steps.refl _
  · show QR Z wEL h0 n0 _ T1.heap _
    rw [e1]
    exact ⟨rfl, N0, rfl⟩
theorem d5_0 : decode jdk_2650_method_2_code 0 = .ok (.getstatic 17, 3) := by decide +kernel
theorem d5_3 : decode jdk_2650_method_2_code 3 = .ok (.areturn, 1) := by decide +kernel
theorem pn_rmOe : plainName "java/util/OptionalLong" = true := by first | (simp [plainName, overriddenIn]; done) | decide +kernel
theorem ef_rmOe (m : MethodId)  : entryFrame m #[] 0 = mkF m 0 #[] [] := by first | (simp [entryFrame, mkF, argsToLocals, Value.category]; done) | rfl
set_option maxRecDepth 65536 in
set_option maxHeartbeats 40000000 in
theorem rmOe (l : Launch) (Z : State) (a0 : Array Value) (hw : ∀ d ∈ tables_1, d.before a0 Z = true) (ws : List Jvm.Cond) (wOL : Addr) (h0 : Heap) (n0 : Nat) (Z0 : n0 ≤ h0.size) (S_OL : Sta Z h0 "java/util/OptionalLong" "EMPTY" "Ljava/util/OptionalLong;" (.ref wOL)) :
    MetFree l (⟨"java/util/OptionalLong", "empty", "()Ljava/util/OptionalLong;"⟩ : MethodName) (head1 (Jvm.Cond.code (⟨"java/util/OptionalLong", "empty", "()Ljava/util/OptionalLong;"⟩ : MethodName) jdk_2650_method_2_code 0 (some (.object "java/util/OptionalLong")) :: ws) ({ frames := 0, cells := 0, slots := 0, locals := 0 } : Room)) (fun a U => a = #[] ∧ Z.Warmed39 U.vm ∧ U.heap = h0) (fun _ _ _ _ _ => True) (fun _ U o U' => ∃ v L, o = .returned v ∧ QR Z wOL h0 n0 v U'.heap L ∧ FrameEnd U o U' L ({ frames := 0, cells := 0, slots := 0, locals := 0 } : Room).cells ({ frames := 0, cells := 0, slots := 0, locals := 0 } : Room).slots) := by
  refine MetFree.of_bodySF (plainFor_of_name pn_rmOe) hisR ?_
  intro p e s m args below meth c s₁ Bd hml0 hP hK
  obtain ⟨rfl, hZ, hh⟩ := hP
  have hx := Bd.exec
  have hby := Bd.bytes
  have hml : c.maxLocals = 0 := hml0
  have hown : s.vm.findClass "java/util/OptionalLong" = some m.cls := findClass_of_methodNamed Bd.named
  have hnm := (name_of_methodNamed Bd.named Bd.method).1
  have X0 : Stand p l e ({ frames := 0, cells := 0, slots := 0, locals := 0 } : Room) s m #[] below meth c s₁ [] 0 0 := Stand.of_body Bd
  have e0 : s₁.heap = h0 := by rw [← hh, Bd.state]; rfl
  have N0 := Fr.nil n0
  have pre0 : ∀ tt, Steps p.tables e below (s₁.setTop (mkF m 0 #[] [])) tt → Steps p.tables e below (s₁.setTop (entryFrame m #[] 0)) tt := fun tt kt => castTop (ef_rmOe m ) kt
  obtain ⟨T1, X1, e1, st1⟩ := getS2 X0 hx hZ hown (host := "") (Or.inl (hw _ (List.mem_of_getElem? (i := 40) rfl))) Via.refl e0 S_OL (g := (mkF m 0 #[] [])) rfl (hb hby d5_0)
  have pre2 : ∀ tt, Steps p.tables e below (T1.setTop (mkF m 3 #[] [(.ref wOL)])) tt → Steps p.tables e below (s₁.setTop (entryFrame m #[] 0)) tt := by
    intro tt kt
    refine pre0 tt ?_
    show Steps p.tables e below (s₁.setTop (mkF m 0 #[] [])) _
    refine st1 _ ?_
    exact kt
  obtain ⟨fs, hr, hrun, hended, hW, hsame⟩ := X1.leave (v := some (.ref wOL)) (fun h => by rw [Bd.returns] at h; cases h)
  refine ⟨_, _, pre2 _ ?_, hrun, hended, _, _, rfl, ?_, ⟨_, rfl⟩, hW, hsame.mono (by decide) (by decide)⟩
  · show Steps p.tables e below (T1.setTop (mkF m 3 #[] [(.ref wOL)])) _
    jvm_step X1.here [X1.here.top, hx, (hb hby d5_3), X1.method', Bd.returns, Value.isRef, FieldType.isReference]
    first | (intro acts; rw [hr _ acts rfl rfl rfl]) | rw [hr _ _ rfl rfl rfl]
    exact Steps.refl _
  · show QR Z wOL h0 n0 _ T1.heap _
    rw [e1]
    exact ⟨rfl, N0, rfl⟩
theorem d8_0 : decode jdk_31_method_11_code 0 = .ok (.aload_n 0, 1) := by decide +kernel
theorem d8_1 : decode jdk_31_method_11_code 1 = .ok (.ifnonnull 12, 3) := by decide +kernel
theorem d8_13 : decode jdk_31_method_11_code 13 = .ok (.aload_n 0, 1) := by decide +kernel
theorem d8_14 : decode jdk_31_method_11_code 14 = .ok (.areturn, 1) := by decide +kernel
theorem pn_rmNn : plainName "java/util/Objects" = true := by first | (simp [plainName, overriddenIn]; done) | decide +kernel
theorem ef_rmNn (m : MethodId) (a1 : Addr) (a2 : Addr) : entryFrame m #[(.ref a1), (.ref a2)] 2 = mkF m 0 #[.val (.ref a1), .val (.ref a2)] [] := by first | (simp [entryFrame, mkF, argsToLocals, Value.category]; done) | rfl
set_option maxRecDepth 65536 in
set_option maxHeartbeats 40000000 in
theorem rmNn (l : Launch) (Z : State) (a0 : Array Value) (hw : ∀ d ∈ tables_1, d.before a0 Z = true) (ws : List Jvm.Cond) (a1 a2 : Addr) (h0 : Heap) (n0 : Nat) (Z0 : n0 ≤ h0.size)  :
    MetFree l (⟨"java/util/Objects", "requireNonNull", "(Ljava/lang/Object;Ljava/lang/String;)Ljava/lang/Object;"⟩ : MethodName) (head1 (Jvm.Cond.code (⟨"java/util/Objects", "requireNonNull", "(Ljava/lang/Object;Ljava/lang/String;)Ljava/lang/Object;"⟩ : MethodName) jdk_31_method_11_code 2 (some (.object "java/lang/Object")) :: ws) ({ frames := 0, cells := 0, slots := 0, locals := 0 } : Room)) (fun a U => a = #[(.ref a1), (.ref a2)] ∧ Z.Warmed39 U.vm ∧ U.heap = h0) (fun _ _ _ _ _ => True) (fun _ U o U' => ∃ v L, o = .returned v ∧ QR Z a1 h0 n0 v U'.heap L ∧ FrameEnd U o U' L ({ frames := 0, cells := 0, slots := 0, locals := 0 } : Room).cells ({ frames := 0, cells := 0, slots := 0, locals := 0 } : Room).slots) := by
  refine MetFree.of_bodySF (plainFor_of_name pn_rmNn) hisR ?_
  intro p e s m args below meth c s₁ Bd hml0 hP hK
  obtain ⟨rfl, hZ, hh⟩ := hP
  have hx := Bd.exec
  have hby := Bd.bytes
  have hml : c.maxLocals = 2 := hml0
  have hown : s.vm.findClass "java/util/Objects" = some m.cls := findClass_of_methodNamed Bd.named
  have hnm := (name_of_methodNamed Bd.named Bd.method).1
  have X0 : Stand p l e ({ frames := 0, cells := 0, slots := 0, locals := 0 } : Room) s m #[(.ref a1), (.ref a2)] below meth c s₁ [] 0 0 := Stand.of_body Bd
  have e0 : s₁.heap = h0 := by rw [← hh, Bd.state]; rfl
  have N0 := Fr.nil n0
  have pre0 : ∀ tt, Steps p.tables e below (s₁.setTop (mkF m 0 #[.val (.ref a1), .val (.ref a2)] [])) tt → Steps p.tables e below (s₁.setTop (entryFrame m #[(.ref a1), (.ref a2)] 2)) tt := fun tt kt => castTop (ef_rmNn m a1 a2) kt
  have pre1 : ∀ tt, Steps p.tables e below (s₁.setTop (mkF m 14 #[.val (.ref a1), .val (.ref a2)] [(.ref a1)])) tt → Steps p.tables e below (s₁.setTop (entryFrame m #[(.ref a1), (.ref a2)] 2)) tt := by
    intro tt kt
    refine pre0 tt ?_
    show Steps p.tables e below (s₁.setTop (mkF m 0 #[.val (.ref a1), .val (.ref a2)] [])) _
    refine XS.aloadN X0.here hx rfl (hb hby d8_0) rfl rfl ?_
    show Steps p.tables e below (s₁.setTop (mkF m 1 #[.val (.ref a1), .val (.ref a2)] [(.ref a1)])) _
    refine XS.ifnonnullYes X0.here hx rfl (pc0 := 1) (pc' := 13) rfl (hb hby d8_1) rfl (by decide) (by decide) ?_
    show Steps p.tables e below (s₁.setTop (mkF m 13 #[.val (.ref a1), .val (.ref a2)] [])) _
    refine XS.aloadN X0.here hx rfl (hb hby d8_13) rfl rfl ?_
    exact kt
  obtain ⟨fs, hr, hrun, hended, hW, hsame⟩ := X0.leave (v := some (.ref a1)) (fun h => by rw [Bd.returns] at h; cases h)
  refine ⟨_, _, pre1 _ ?_, hrun, hended, _, _, rfl, ?_, ⟨_, rfl⟩, hW, hsame.mono (by decide) (by decide)⟩
  · show Steps p.tables e below (s₁.setTop (mkF m 14 #[.val (.ref a1), .val (.ref a2)] [(.ref a1)])) _
    jvm_step X0.here [X0.here.top, hx, (hb hby d8_14), X0.method', Bd.returns, Value.isRef, FieldType.isReference]
    first | (intro acts; rw [hr _ acts rfl rfl rfl]) | rw [hr _ _ rfl rfl rfl]
    exact Steps.refl _
  · show QR Z a1 h0 n0 _ s₁.heap _
    rw [e0]
    exact ⟨rfl, N0, rfl⟩
theorem d2_0 : decode prog_25_method_1_code 0 = .ok (.aload_n 0, 1) := by decide +kernel
theorem d2_1 : decode prog_25_method_1_code 1 = .ok (.invokespecial 1, 3) := by decide +kernel
theorem d2_4 : decode prog_25_method_1_code 4 = .ok (.aload_n 0, 1) := by decide +kernel
theorem d2_5 : decode prog_25_method_1_code 5 = .ok (.invokestatic 7, 3) := by decide +kernel
theorem d2_8 : decode prog_25_method_1_code 8 = .ok (.putfield 13, 3) := by decide +kernel
theorem d2_11 : decode prog_25_method_1_code 11 = .ok (.aload_n 0, 1) := by decide +kernel
theorem d2_12 : decode prog_25_method_1_code 12 = .ok (.invokestatic 7, 3) := by decide +kernel
theorem d2_15 : decode prog_25_method_1_code 15 = .ok (.putfield 19, 3) := by decide +kernel
theorem d2_18 : decode prog_25_method_1_code 18 = .ok (.aload_n 0, 1) := by decide +kernel
theorem d2_19 : decode prog_25_method_1_code 19 = .ok (.getstatic 22, 3) := by decide +kernel
theorem d2_22 : decode prog_25_method_1_code 22 = .ok (.putfield 28, 3) := by decide +kernel
theorem d2_25 : decode prog_25_method_1_code 25 = .ok (.aload_n 0, 1) := by decide +kernel
theorem d2_26 : decode prog_25_method_1_code 26 = .ok (.getstatic 22, 3) := by decide +kernel
theorem d2_29 : decode prog_25_method_1_code 29 = .ok (.putfield 31, 3) := by decide +kernel
theorem d2_32 : decode prog_25_method_1_code 32 = .ok (.aload_n 0, 1) := by decide +kernel
theorem d2_33 : decode prog_25_method_1_code 33 = .ok (.invokestatic 34, 3) := by decide +kernel
theorem d2_36 : decode prog_25_method_1_code 36 = .ok (.putfield 40, 3) := by decide +kernel
theorem d2_39 : decode prog_25_method_1_code 39 = .ok (.aload_n 0, 1) := by decide +kernel
theorem d2_40 : decode prog_25_method_1_code 40 = .ok (.invokestatic 34, 3) := by decide +kernel
theorem d2_43 : decode prog_25_method_1_code 43 = .ok (.putfield 44, 3) := by decide +kernel
theorem d2_46 : decode prog_25_method_1_code 46 = .ok (.aload_n 0, 1) := by decide +kernel
theorem d2_47 : decode prog_25_method_1_code 47 = .ok (.getstatic 47, 3) := by decide +kernel
theorem d2_50 : decode prog_25_method_1_code 50 = .ok (.putfield 53, 3) := by decide +kernel
theorem d2_53 : decode prog_25_method_1_code 53 = .ok (.aload_n 0, 1) := by decide +kernel
theorem d2_54 : decode prog_25_method_1_code 54 = .ok (.getstatic 56, 3) := by decide +kernel
theorem d2_57 : decode prog_25_method_1_code 57 = .ok (.putfield 62, 3) := by decide +kernel
theorem d2_60 : decode prog_25_method_1_code 60 = .ok (.return_, 1) := by decide +kernel
theorem pn_rmC : plainName "com/example/wee_forge/weeforge/model/ProjectFilter" = true := by first | (simp [plainName, overriddenIn]; done) | decide +kernel
theorem pd_rmC_0 : parseMethodDescriptor "()Ljava/util/List;" = some ⟨[], some (.object "java/util/List")⟩ := by decide +kernel
theorem pd_rmC_1 : parseMethodDescriptor "()Ljava/util/OptionalLong;" = some ⟨[], some (.object "java/util/OptionalLong")⟩ := by decide +kernel
theorem ef_rmC (m : MethodId) (a1 : Addr) : entryFrame m #[(.ref a1)] 1 = mkF m 0 #[.val (.ref a1)] [] := by first | (simp [entryFrame, mkF, argsToLocals, Value.category]; done) | rfl
set_option maxRecDepth 65536 in
set_option maxHeartbeats 40000000 in
theorem rmC (l : Launch) (Z : State) (a0 : Array Value) (hw : ∀ d ∈ tables_1, d.before a0 Z = true) (ws : List Jvm.Cond) (a1 w_ANY w_CREATED_AT w_DESC wEL wOL : Addr) (h0 : Heap) (n0 : Nat) (Z0 : n0 ≤ h0.size) (E_a1 : Exa Z h0 a1 "com/example/wee_forge/weeforge/model/ProjectFilter") (F_searchTerms : Fld Z h0 a1 "com/example/wee_forge/weeforge/model/ProjectFilter" "searchTerms" "Ljava/util/List;" .null) (F_topics : Fld Z h0 a1 "com/example/wee_forge/weeforge/model/ProjectFilter" "topics" "Ljava/util/List;" .null) (F_lastActivity : Fld Z h0 a1 "com/example/wee_forge/weeforge/model/ProjectFilter" "lastActivity" "Lcom/example/wee_forge/weeforge/model/TimeRange;" .null) (F_updated : Fld Z h0 a1 "com/example/wee_forge/weeforge/model/ProjectFilter" "updated" "Lcom/example/wee_forge/weeforge/model/TimeRange;" .null) (F_idAfter : Fld Z h0 a1 "com/example/wee_forge/weeforge/model/ProjectFilter" "idAfter" "Ljava/util/OptionalLong;" .null) (F_idBefore : Fld Z h0 a1 "com/example/wee_forge/weeforge/model/ProjectFilter" "idBefore" "Ljava/util/OptionalLong;" .null) (F_orderBy : Fld Z h0 a1 "com/example/wee_forge/weeforge/model/ProjectFilter" "orderBy" "Lcom/example/wee_forge/weeforge/model/ProjectOrder;" .null) (F_sort : Fld Z h0 a1 "com/example/wee_forge/weeforge/model/ProjectFilter" "sort" "Lcom/example/wee_forge/weeforge/model/SortDirection;" .null) (F_starredOnly : Fld Z h0 a1 "com/example/wee_forge/weeforge/model/ProjectFilter" "starredOnly" "Z" (.int (0 : Int32))) (g_a1 : n0 ≤ a1) (S_ANY : Sta Z h0 "com/example/wee_forge/weeforge/model/TimeRange" "ANY" "Lcom/example/wee_forge/weeforge/model/TimeRange;" (.ref w_ANY)) (S_CREATED_AT : Sta Z h0 "com/example/wee_forge/weeforge/model/ProjectOrder" "CREATED_AT" "Lcom/example/wee_forge/weeforge/model/ProjectOrder;" (.ref w_CREATED_AT)) (S_DESC : Sta Z h0 "com/example/wee_forge/weeforge/model/SortDirection" "DESC" "Lcom/example/wee_forge/weeforge/model/SortDirection;" (.ref w_DESC)) (S_EL : Sta Z h0 "java/util/ImmutableCollections" "EMPTY_LIST" "Ljava/util/ImmutableCollections$ListN;" (.ref wEL)) (S_OL : Sta Z h0 "java/util/OptionalLong" "EMPTY" "Ljava/util/OptionalLong;" (.ref wOL)) :
    MetFree l (⟨"com/example/wee_forge/weeforge/model/ProjectFilter", "<init>", "()V"⟩ : MethodName) (head1 (Jvm.Cond.code (⟨"com/example/wee_forge/weeforge/model/ProjectFilter", "<init>", "()V"⟩ : MethodName) prog_25_method_1_code 1 none :: ws) ({ frames := 1, cells := 0, slots := 0, locals := 12 } : Room)) (fun a U => a = #[(.ref a1)] ∧ Z.Warmed39 U.vm ∧ U.heap = h0) (fun _ _ _ _ _ => True) (fun _ U o U' => ∃ v L, o = .returned v ∧ QC Z a1 w_DESC w_CREATED_AT (0 : Int32) h0 n0 v U'.heap L ∧ FrameEnd U o U' L ({ frames := 1, cells := 0, slots := 0, locals := 12 } : Room).cells ({ frames := 1, cells := 0, slots := 0, locals := 12 } : Room).slots) := by
  refine MetFree.of_bodySF (plainFor_of_name pn_rmC) hisR ?_
  intro p e s m args below meth c s₁ Bd hml0 hP hK
  obtain ⟨rfl, hZ, hh⟩ := hP
  have hx := Bd.exec
  have hby := Bd.bytes
  have hml : c.maxLocals = 1 := hml0
  have hown : s.vm.findClass "com/example/wee_forge/weeforge/model/ProjectFilter" = some m.cls := findClass_of_methodNamed Bd.named
  have hnm := (name_of_methodNamed Bd.named Bd.method).1
  have X0 : Stand p l e ({ frames := 1, cells := 0, slots := 0, locals := 12 } : Room) s m #[(.ref a1)] below meth c s₁ [] 0 0 := Stand.of_body Bd
  have e0 : s₁.heap = h0 := by rw [← hh, Bd.state]; rfl
  have N0 := Fr.nil n0
  have pre0 : ∀ tt, Steps p.tables e below (s₁.setTop (mkF m 0 #[.val (.ref a1)] [])) tt → Steps p.tables e below (s₁.setTop (entryFrame m #[(.ref a1)] 1)) tt := fun tt kt => castTop (ef_rmC m a1) kt
  obtain ⟨T1, X1, e1, st1⟩ := initO X0 hx hZ hown (hw _ (List.mem_of_getElem? (i := 16) rfl)) (hw _ (List.mem_of_getElem? (i := 17) rfl)) (hw _ (List.mem_of_getElem? (i := 18) rfl)) e0 (g := (mkF m 1 #[.val (.ref a1)] [(.ref a1)])) rfl (by rw [hml]; rfl) rfl (hb hby d2_1) (by decide) (W := 0) (by show 2 * 0 + _ ≤ _; exact Nat.le_of_eq rfl) (by decide)
  obtain ⟨_, _, ⟨T2, L2, k2, n2⟩, -, X2, ⟨Lc2, hQ2, l2, y2, z2⟩, st2⟩ := Jvm.LawKit.callS X1 hx (y := (⟨"java/util/List", "of", "()Ljava/util/List;"⟩ : MethodName)) hown (mvT hZ (hw _ (List.mem_of_getElem? (i := 19) rfl))) (mvT hZ (hw _ (List.mem_of_getElem? (i := 20) rfl))) (mvT hZ (hw _ (List.mem_of_getElem? (i := 21) rfl))) (mvT hZ (hw _ (List.mem_of_getElem? (i := 22) rfl))) (by decide) (backOf (W := 1) (rmLo l Z a0 hw [] wEL h0 n0 Z0 S_EL) hZ (hw _ (List.mem_of_getElem? (i := 22) rfl)) (hw _ (List.mem_of_getElem? (i := 21) rfl)) (by decide) (by decide)) (g := (mkF m 5 #[.val (.ref a1)] [(.ref a1)])) rfl (by rw [hml]; rfl) (argsL := []) (rest := [(.ref a1)]) (lenOf pd_rmC_0 rfl) rfl (by show 2 * 0 + _ ≤ _; exact Nat.le_of_eq rfl) (hb hby d2_5) (fun _ _ => ⟨rfl, e1, (by decide : 0 + 0 ≤ _), (by decide : 0 + 0 ≤ _)⟩)
  dsimp only [Pt.U, Pt.locs, Pt.cells, Pt.slots] at X2 l2 y2 z2 st2 hQ2
  subst l2 y2 z2
  obtain ⟨rfl, N2q, hE2⟩ := hQ2
  have N2 := Fr.app N0 N2q
  obtain ⟨T3, h3, X3, e3, W3, st3⟩ := putF X2 hx hZ hown (host := "") (Or.inl (hw _ (List.mem_of_getElem? (i := 25) rfl))) Via.refl hE2 F_searchTerms E_a1 (Or.inl (hw _ (List.mem_of_getElem? (i := 26) rfl))) (hw _ (List.mem_of_getElem? (i := 11) rfl)) (ty := (.object "java/util/List")) (by decide) rfl rfl (g := (mkF m 8 #[.val (.ref a1)] [(.ref wEL), (.ref a1)])) rfl rfl (hb hby d2_8)
  have Fw3 := Fld.same W3 F_searchTerms
  have N3 := Fr.snoc X3 N2 g_a1
  have K3 : Keep h0 h3 [a1] := ((Keep.refl h0 [a1])).wr W3 (Or.inl (List.mem_of_getElem? (i := 0) rfl))
  obtain ⟨_, _, ⟨T4, L4, k4, n4⟩, -, X4, ⟨Lc4, hQ4, l4, y4, z4⟩, st4⟩ := Jvm.LawKit.callS X3 hx (y := (⟨"java/util/List", "of", "()Ljava/util/List;"⟩ : MethodName)) hown (mvT hZ (hw _ (List.mem_of_getElem? (i := 19) rfl))) (mvT hZ (hw _ (List.mem_of_getElem? (i := 20) rfl))) (mvT hZ (hw _ (List.mem_of_getElem? (i := 21) rfl))) (mvT hZ (hw _ (List.mem_of_getElem? (i := 22) rfl))) (by decide) (backOf (W := 1) (rmLo l Z a0 hw [] wEL h3 n0 (Nat.le_trans Z0 (Keep.of_wr W3).1) (Sta.wr W3 S_EL)) hZ (hw _ (List.mem_of_getElem? (i := 22) rfl)) (hw _ (List.mem_of_getElem? (i := 21) rfl)) (by decide) (by decide)) (g := (mkF m 12 #[.val (.ref a1)] [(.ref a1)])) rfl (by rw [hml]; rfl) (argsL := []) (rest := [(.ref a1)]) (lenOf pd_rmC_0 rfl) rfl (by show 2 * 0 + _ ≤ _; exact Nat.le_of_eq rfl) (hb hby d2_12) (fun _ _ => ⟨rfl, e3, (by decide : 0 + 0 ≤ _), (by decide : 0 + 0 ≤ _)⟩)
  dsimp only [Pt.U, Pt.locs, Pt.cells, Pt.slots] at X4 l4 y4 z4 st4 hQ4
  subst l4 y4 z4
  obtain ⟨rfl, N4q, hE4⟩ := hQ4
  have N4 := Fr.app N3 N4q
  obtain ⟨T5, h5, X5, e5, W5, st5⟩ := putF X4 hx hZ hown (host := "") (Or.inl (hw _ (List.mem_of_getElem? (i := 27) rfl))) Via.refl hE4 (Fld.other W3 F_topics (Or.inr (slot_ne (Or.inl (hw _ (List.mem_of_getElem? (i := 28) rfl))) (Or.inl (hw _ (List.mem_of_getElem? (i := 26) rfl))) (by decide) (t := (.object "java/util/List")) (t' := (.object "java/util/List")) (by decide) (by decide)))) (Exa.wr W3 E_a1) (Or.inl (hw _ (List.mem_of_getElem? (i := 28) rfl))) (hw _ (List.mem_of_getElem? (i := 11) rfl)) (ty := (.object "java/util/List")) (by decide) rfl rfl (g := (mkF m 15 #[.val (.ref a1)] [(.ref wEL), (.ref a1)])) rfl rfl (hb hby d2_15)
  have Fw5 := Fld.same W5 (Fld.other W3 F_topics (Or.inr (slot_ne (Or.inl (hw _ (List.mem_of_getElem? (i := 28) rfl))) (Or.inl (hw _ (List.mem_of_getElem? (i := 26) rfl))) (by decide) (t := (.object "java/util/List")) (t' := (.object "java/util/List")) (by decide) (by decide))))
  have N5 := Fr.snoc X5 N4 g_a1
  have K5 : Keep h0 h5 [a1] := (K3).wr W5 (Or.inl (List.mem_of_getElem? (i := 0) rfl))
  obtain ⟨T6, X6, e6, st6⟩ := getS2 X5 hx hZ hown (host := "") (Or.inl (hw _ (List.mem_of_getElem? (i := 29) rfl))) Via.refl e5 (Sta.wr W5 (Sta.wr W3 S_ANY)) (g := (mkF m 19 #[.val (.ref a1)] [(.ref a1)])) rfl (hb hby d2_19)
  obtain ⟨T7, h7, X7, e7, W7, st7⟩ := putF X6 hx hZ hown (host := "") (Or.inl (hw _ (List.mem_of_getElem? (i := 32) rfl))) Via.refl e6 (Fld.other W5 (Fld.other W3 F_lastActivity (Or.inr (slot_ne (Or.inl (hw _ (List.mem_of_getElem? (i := 33) rfl))) (Or.inl (hw _ (List.mem_of_getElem? (i := 26) rfl))) (by decide) (t := (.object "com/example/wee_forge/weeforge/model/TimeRange")) (t' := (.object "java/util/List")) (by decide) (by decide)))) (Or.inr (slot_ne (Or.inl (hw _ (List.mem_of_getElem? (i := 33) rfl))) (Or.inl (hw _ (List.mem_of_getElem? (i := 28) rfl))) (by decide) (t := (.object "com/example/wee_forge/weeforge/model/TimeRange")) (t' := (.object "java/util/List")) (by decide) (by decide)))) (Exa.wr W5 (Exa.wr W3 E_a1)) (Or.inl (hw _ (List.mem_of_getElem? (i := 33) rfl))) (hw _ (List.mem_of_getElem? (i := 11) rfl)) (ty := (.object "com/example/wee_forge/weeforge/model/TimeRange")) (by decide) rfl rfl (g := (mkF m 22 #[.val (.ref a1)] [(.ref w_ANY), (.ref a1)])) rfl rfl (hb hby d2_22)
  have Fw7 := Fld.same W7 (Fld.other W5 (Fld.other W3 F_lastActivity (Or.inr (slot_ne (Or.inl (hw _ (List.mem_of_getElem? (i := 33) rfl))) (Or.inl (hw _ (List.mem_of_getElem? (i := 26) rfl))) (by decide) (t := (.object "com/example/wee_forge/weeforge/model/TimeRange")) (t' := (.object "java/util/List")) (by decide) (by decide)))) (Or.inr (slot_ne (Or.inl (hw _ (List.mem_of_getElem? (i := 33) rfl))) (Or.inl (hw _ (List.mem_of_getElem? (i := 28) rfl))) (by decide) (t := (.object "com/example/wee_forge/weeforge/model/TimeRange")) (t' := (.object "java/util/List")) (by decide) (by decide))))
  have N7 := Fr.snoc X7 N5 g_a1
  have K7 : Keep h0 h7 [a1] := (K5).wr W7 (Or.inl (List.mem_of_getElem? (i := 0) rfl))
  obtain ⟨T8, X8, e8, st8⟩ := getS2 X7 hx hZ hown (host := "") (Or.inl (hw _ (List.mem_of_getElem? (i := 29) rfl))) Via.refl e7 (Sta.wr W7 (Sta.wr W5 (Sta.wr W3 S_ANY))) (g := (mkF m 26 #[.val (.ref a1)] [(.ref a1)])) rfl (hb hby d2_26)
  obtain ⟨T9, h9, X9, e9, W9, st9⟩ := putF X8 hx hZ hown (host := "") (Or.inl (hw _ (List.mem_of_getElem? (i := 34) rfl))) Via.refl e8 (Fld.other W7 (Fld.other W5 (Fld.other W3 F_updated (Or.inr (slot_ne (Or.inl (hw _ (List.mem_of_getElem? (i := 35) rfl))) (Or.inl (hw _ (List.mem_of_getElem? (i := 26) rfl))) (by decide) (t := (.object "com/example/wee_forge/weeforge/model/TimeRange")) (t' := (.object "java/util/List")) (by decide) (by decide)))) (Or.inr (slot_ne (Or.inl (hw _ (List.mem_of_getElem? (i := 35) rfl))) (Or.inl (hw _ (List.mem_of_getElem? (i := 28) rfl))) (by decide) (t := (.object "com/example/wee_forge/weeforge/model/TimeRange")) (t' := (.object "java/util/List")) (by decide) (by decide)))) (Or.inr (slot_ne (Or.inl (hw _ (List.mem_of_getElem? (i := 35) rfl))) (Or.inl (hw _ (List.mem_of_getElem? (i := 33) rfl))) (by decide) (t := (.object "com/example/wee_forge/weeforge/model/TimeRange")) (t' := (.object "com/example/wee_forge/weeforge/model/TimeRange")) (by decide) (by decide)))) (Exa.wr W7 (Exa.wr W5 (Exa.wr W3 E_a1))) (Or.inl (hw _ (List.mem_of_getElem? (i := 35) rfl))) (hw _ (List.mem_of_getElem? (i := 11) rfl)) (ty := (.object "com/example/wee_forge/weeforge/model/TimeRange")) (by decide) rfl rfl (g := (mkF m 29 #[.val (.ref a1)] [(.ref w_ANY), (.ref a1)])) rfl rfl (hb hby d2_29)
  have Fw9 := Fld.same W9 (Fld.other W7 (Fld.other W5 (Fld.other W3 F_updated (Or.inr (slot_ne (Or.inl (hw _ (List.mem_of_getElem? (i := 35) rfl))) (Or.inl (hw _ (List.mem_of_getElem? (i := 26) rfl))) (by decide) (t := (.object "com/example/wee_forge/weeforge/model/TimeRange")) (t' := (.object "java/util/List")) (by decide) (by decide)))) (Or.inr (slot_ne (Or.inl (hw _ (List.mem_of_getElem? (i := 35) rfl))) (Or.inl (hw _ (List.mem_of_getElem? (i := 28) rfl))) (by decide) (t := (.object "com/example/wee_forge/weeforge/model/TimeRange")) (t' := (.object "java/util/List")) (by decide) (by decide)))) (Or.inr (slot_ne (Or.inl (hw _ (List.mem_of_getElem? (i := 35) rfl))) (Or.inl (hw _ (List.mem_of_getElem? (i := 33) rfl))) (by decide) (t := (.object "com/example/wee_forge/weeforge/model/TimeRange")) (t' := (.object "com/example/wee_forge/weeforge/model/TimeRange")) (by decide) (by decide))))
  have N9 := Fr.snoc X9 N7 g_a1
  have K9 : Keep h0 h9 [a1] := (K7).wr W9 (Or.inl (List.mem_of_getElem? (i := 0) rfl))
  obtain ⟨_, _, ⟨T10, L10, k10, n10⟩, -, X10, ⟨Lc10, hQ10, l10, y10, z10⟩, st10⟩ := Jvm.LawKit.callS X9 hx (y := (⟨"java/util/OptionalLong", "empty", "()Ljava/util/OptionalLong;"⟩ : MethodName)) hown (mvT hZ (hw _ (List.mem_of_getElem? (i := 36) rfl))) (mvT hZ (hw _ (List.mem_of_getElem? (i := 37) rfl))) (mvT hZ (hw _ (List.mem_of_getElem? (i := 38) rfl))) (mvT hZ (hw _ (List.mem_of_getElem? (i := 39) rfl))) (by decide) (backOf (W := 1) (rmOe l Z a0 hw [] wOL h9 n0 (Nat.le_trans (Nat.le_trans (Nat.le_trans (Nat.le_trans Z0 (Keep.of_wr W3).1) (Keep.of_wr W5).1) (Keep.of_wr W7).1) (Keep.of_wr W9).1) (Sta.wr W9 (Sta.wr W7 (Sta.wr W5 (Sta.wr W3 S_OL))))) hZ (hw _ (List.mem_of_getElem? (i := 39) rfl)) (hw _ (List.mem_of_getElem? (i := 38) rfl)) (by decide) (by decide)) (g := (mkF m 33 #[.val (.ref a1)] [(.ref a1)])) rfl (by rw [hml]; rfl) (argsL := []) (rest := [(.ref a1)]) (lenOf pd_rmC_1 rfl) rfl (by show 2 * 0 + _ ≤ _; exact Nat.le_of_eq rfl) (hb hby d2_33) (fun _ _ => ⟨rfl, e9, (by decide : 0 + 0 ≤ _), (by decide : 0 + 0 ≤ _)⟩)
  dsimp only [Pt.U, Pt.locs, Pt.cells, Pt.slots] at X10 l10 y10 z10 st10 hQ10
  subst l10 y10 z10
  obtain ⟨rfl, N10q, hE10⟩ := hQ10
  have N10 := Fr.app N9 N10q
  obtain ⟨T11, h11, X11, e11, W11, st11⟩ := putF X10 hx hZ hown (host := "") (Or.inl (hw _ (List.mem_of_getElem? (i := 41) rfl))) Via.refl hE10 (Fld.other W9 (Fld.other W7 (Fld.other W5 (Fld.other W3 F_idAfter (Or.inr (slot_ne (Or.inl (hw _ (List.mem_of_getElem? (i := 42) rfl))) (Or.inl (hw _ (List.mem_of_getElem? (i := 26) rfl))) (by decide) (t := (.object "java/util/OptionalLong")) (t' := (.object "java/util/List")) (by decide) (by decide)))) (Or.inr (slot_ne (Or.inl (hw _ (List.mem_of_getElem? (i := 42) rfl))) (Or.inl (hw _ (List.mem_of_getElem? (i := 28) rfl))) (by decide) (t := (.object "java/util/OptionalLong")) (t' := (.object "java/util/List")) (by decide) (by decide)))) (Or.inr (slot_ne (Or.inl (hw _ (List.mem_of_getElem? (i := 42) rfl))) (Or.inl (hw _ (List.mem_of_getElem? (i := 33) rfl))) (by decide) (t := (.object "java/util/OptionalLong")) (t' := (.object "com/example/wee_forge/weeforge/model/TimeRange")) (by decide) (by decide)))) (Or.inr (slot_ne (Or.inl (hw _ (List.mem_of_getElem? (i := 42) rfl))) (Or.inl (hw _ (List.mem_of_getElem? (i := 35) rfl))) (by decide) (t := (.object "java/util/OptionalLong")) (t' := (.object "com/example/wee_forge/weeforge/model/TimeRange")) (by decide) (by decide)))) (Exa.wr W9 (Exa.wr W7 (Exa.wr W5 (Exa.wr W3 E_a1)))) (Or.inl (hw _ (List.mem_of_getElem? (i := 42) rfl))) (hw _ (List.mem_of_getElem? (i := 11) rfl)) (ty := (.object "java/util/OptionalLong")) (by decide) rfl rfl (g := (mkF m 36 #[.val (.ref a1)] [(.ref wOL), (.ref a1)])) rfl rfl (hb hby d2_36)
  have Fw11 := Fld.same W11 (Fld.other W9 (Fld.other W7 (Fld.other W5 (Fld.other W3 F_idAfter (Or.inr (slot_ne (Or.inl (hw _ (List.mem_of_getElem? (i := 42) rfl))) (Or.inl (hw _ (List.mem_of_getElem? (i := 26) rfl))) (by decide) (t := (.object "java/util/OptionalLong")) (t' := (.object "java/util/List")) (by decide) (by decide)))) (Or.inr (slot_ne (Or.inl (hw _ (List.mem_of_getElem? (i := 42) rfl))) (Or.inl (hw _ (List.mem_of_getElem? (i := 28) rfl))) (by decide) (t := (.object "java/util/OptionalLong")) (t' := (.object "java/util/List")) (by decide) (by decide)))) (Or.inr (slot_ne (Or.inl (hw _ (List.mem_of_getElem? (i := 42) rfl))) (Or.inl (hw _ (List.mem_of_getElem? (i := 33) rfl))) (by decide) (t := (.object "java/util/OptionalLong")) (t' := (.object "com/example/wee_forge/weeforge/model/TimeRange")) (by decide) (by decide)))) (Or.inr (slot_ne (Or.inl (hw _ (List.mem_of_getElem? (i := 42) rfl))) (Or.inl (hw _ (List.mem_of_getElem? (i := 35) rfl))) (by decide) (t := (.object "java/util/OptionalLong")) (t' := (.object "com/example/wee_forge/weeforge/model/TimeRange")) (by decide) (by decide))))
  have N11 := Fr.snoc X11 N10 g_a1
  have K11 : Keep h0 h11 [a1] := (K9).wr W11 (Or.inl (List.mem_of_getElem? (i := 0) rfl))
  obtain ⟨_, _, ⟨T12, L12, k12, n12⟩, -, X12, ⟨Lc12, hQ12, l12, y12, z12⟩, st12⟩ := Jvm.LawKit.callS X11 hx (y := (⟨"java/util/OptionalLong", "empty", "()Ljava/util/OptionalLong;"⟩ : MethodName)) hown (mvT hZ (hw _ (List.mem_of_getElem? (i := 36) rfl))) (mvT hZ (hw _ (List.mem_of_getElem? (i := 37) rfl))) (mvT hZ (hw _ (List.mem_of_getElem? (i := 38) rfl))) (mvT hZ (hw _ (List.mem_of_getElem? (i := 39) rfl))) (by decide) (backOf (W := 1) (rmOe l Z a0 hw [] wOL h11 n0 (Nat.le_trans (Nat.le_trans (Nat.le_trans (Nat.le_trans (Nat.le_trans Z0 (Keep.of_wr W3).1) (Keep.of_wr W5).1) (Keep.of_wr W7).1) (Keep.of_wr W9).1) (Keep.of_wr W11).1) (Sta.wr W11 (Sta.wr W9 (Sta.wr W7 (Sta.wr W5 (Sta.wr W3 S_OL)))))) hZ (hw _ (List.mem_of_getElem? (i := 39) rfl)) (hw _ (List.mem_of_getElem? (i := 38) rfl)) (by decide) (by decide)) (g := (mkF m 40 #[.val (.ref a1)] [(.ref a1)])) rfl (by rw [hml]; rfl) (argsL := []) (rest := [(.ref a1)]) (lenOf pd_rmC_1 rfl) rfl (by show 2 * 0 + _ ≤ _; exact Nat.le_of_eq rfl) (hb hby d2_40) (fun _ _ => ⟨rfl, e11, (by decide : 0 + 0 ≤ _), (by decide : 0 + 0 ≤ _)⟩)
  dsimp only [Pt.U, Pt.locs, Pt.cells, Pt.slots] at X12 l12 y12 z12 st12 hQ12
  subst l12 y12 z12
  obtain ⟨rfl, N12q, hE12⟩ := hQ12
  have N12 := Fr.app N11 N12q
  obtain ⟨T13, h13, X13, e13, W13, st13⟩ := putF X12 hx hZ hown (host := "") (Or.inl (hw _ (List.mem_of_getElem? (i := 43) rfl))) Via.refl hE12 (Fld.other W11 (Fld.other W9 (Fld.other W7 (Fld.other W5 (Fld.other W3 F_idBefore (Or.inr (slot_ne (Or.inl (hw _ (List.mem_of_getElem? (i := 44) rfl))) (Or.inl (hw _ (List.mem_of_getElem? (i := 26) rfl))) (by decide) (t := (.object "java/util/OptionalLong")) (t' := (.object "java/util/List")) (by decide) (by decide)))) (Or.inr (slot_ne (Or.inl (hw _ (List.mem_of_getElem? (i := 44) rfl))) (Or.inl (hw _ (List.mem_of_getElem? (i := 28) rfl))) (by decide) (t := (.object "java/util/OptionalLong")) (t' := (.object "java/util/List")) (by decide) (by decide)))) (Or.inr (slot_ne (Or.inl (hw _ (List.mem_of_getElem? (i := 44) rfl))) (Or.inl (hw _ (List.mem_of_getElem? (i := 33) rfl))) (by decide) (t := (.object "java/util/OptionalLong")) (t' := (.object "com/example/wee_forge/weeforge/model/TimeRange")) (by decide) (by decide)))) (Or.inr (slot_ne (Or.inl (hw _ (List.mem_of_getElem? (i := 44) rfl))) (Or.inl (hw _ (List.mem_of_getElem? (i := 35) rfl))) (by decide) (t := (.object "java/util/OptionalLong")) (t' := (.object "com/example/wee_forge/weeforge/model/TimeRange")) (by decide) (by decide)))) (Or.inr (slot_ne (Or.inl (hw _ (List.mem_of_getElem? (i := 44) rfl))) (Or.inl (hw _ (List.mem_of_getElem? (i := 42) rfl))) (by decide) (t := (.object "java/util/OptionalLong")) (t' := (.object "java/util/OptionalLong")) (by decide) (by decide)))) (Exa.wr W11 (Exa.wr W9 (Exa.wr W7 (Exa.wr W5 (Exa.wr W3 E_a1))))) (Or.inl (hw _ (List.mem_of_getElem? (i := 44) rfl))) (hw _ (List.mem_of_getElem? (i := 11) rfl)) (ty := (.object "java/util/OptionalLong")) (by decide) rfl rfl (g := (mkF m 43 #[.val (.ref a1)] [(.ref wOL), (.ref a1)])) rfl rfl (hb hby d2_43)
  have Fw13 := Fld.same W13 (Fld.other W11 (Fld.other W9 (Fld.other W7 (Fld.other W5 (Fld.other W3 F_idBefore (Or.inr (slot_ne (Or.inl (hw _ (List.mem_of_getElem? (i := 44) rfl))) (Or.inl (hw _ (List.mem_of_getElem? (i := 26) rfl))) (by decide) (t := (.object "java/util/OptionalLong")) (t' := (.object "java/util/List")) (by decide) (by decide)))) (Or.inr (slot_ne (Or.inl (hw _ (List.mem_of_getElem? (i := 44) rfl))) (Or.inl (hw _ (List.mem_of_getElem? (i := 28) rfl))) (by decide) (t := (.object "java/util/OptionalLong")) (t' := (.object "java/util/List")) (by decide) (by decide)))) (Or.inr (slot_ne (Or.inl (hw _ (List.mem_of_getElem? (i := 44) rfl))) (Or.inl (hw _ (List.mem_of_getElem? (i := 33) rfl))) (by decide) (t := (.object "java/util/OptionalLong")) (t' := (.object "com/example/wee_forge/weeforge/model/TimeRange")) (by decide) (by decide)))) (Or.inr (slot_ne (Or.inl (hw _ (List.mem_of_getElem? (i := 44) rfl))) (Or.inl (hw _ (List.mem_of_getElem? (i := 35) rfl))) (by decide) (t := (.object "java/util/OptionalLong")) (t' := (.object "com/example/wee_forge/weeforge/model/TimeRange")) (by decide) (by decide)))) (Or.inr (slot_ne (Or.inl (hw _ (List.mem_of_getElem? (i := 44) rfl))) (Or.inl (hw _ (List.mem_of_getElem? (i := 42) rfl))) (by decide) (t := (.object "java/util/OptionalLong")) (t' := (.object "java/util/OptionalLong")) (by decide) (by decide))))
  have N13 := Fr.snoc X13 N12 g_a1
  have K13 : Keep h0 h13 [a1] := (K11).wr W13 (Or.inl (List.mem_of_getElem? (i := 0) rfl))
  obtain ⟨T14, X14, e14, st14⟩ := getS2 X13 hx hZ hown (host := "") (Or.inl (hw _ (List.mem_of_getElem? (i := 45) rfl))) Via.refl e13 (Sta.wr W13 (Sta.wr W11 (Sta.wr W9 (Sta.wr W7 (Sta.wr W5 (Sta.wr W3 S_CREATED_AT)))))) (g := (mkF m 47 #[.val (.ref a1)] [(.ref a1)])) rfl (hb hby d2_47)
  obtain ⟨T15, h15, X15, e15, W15, st15⟩ := putF X14 hx hZ hown (host := "") (Or.inl (hw _ (List.mem_of_getElem? (i := 46) rfl))) Via.refl e14 (Fld.other W13 (Fld.other W11 (Fld.other W9 (Fld.other W7 (Fld.other W5 (Fld.other W3 F_orderBy (Or.inr (slot_ne (Or.inl (hw _ (List.mem_of_getElem? (i := 47) rfl))) (Or.inl (hw _ (List.mem_of_getElem? (i := 26) rfl))) (by decide) (t := (.object "com/example/wee_forge/weeforge/model/ProjectOrder")) (t' := (.object "java/util/List")) (by decide) (by decide)))) (Or.inr (slot_ne (Or.inl (hw _ (List.mem_of_getElem? (i := 47) rfl))) (Or.inl (hw _ (List.mem_of_getElem? (i := 28) rfl))) (by decide) (t := (.object "com/example/wee_forge/weeforge/model/ProjectOrder")) (t' := (.object "java/util/List")) (by decide) (by decide)))) (Or.inr (slot_ne (Or.inl (hw _ (List.mem_of_getElem? (i := 47) rfl))) (Or.inl (hw _ (List.mem_of_getElem? (i := 33) rfl))) (by decide) (t := (.object "com/example/wee_forge/weeforge/model/ProjectOrder")) (t' := (.object "com/example/wee_forge/weeforge/model/TimeRange")) (by decide) (by decide)))) (Or.inr (slot_ne (Or.inl (hw _ (List.mem_of_getElem? (i := 47) rfl))) (Or.inl (hw _ (List.mem_of_getElem? (i := 35) rfl))) (by decide) (t := (.object "com/example/wee_forge/weeforge/model/ProjectOrder")) (t' := (.object "com/example/wee_forge/weeforge/model/TimeRange")) (by decide) (by decide)))) (Or.inr (slot_ne (Or.inl (hw _ (List.mem_of_getElem? (i := 47) rfl))) (Or.inl (hw _ (List.mem_of_getElem? (i := 42) rfl))) (by decide) (t := (.object "com/example/wee_forge/weeforge/model/ProjectOrder")) (t' := (.object "java/util/OptionalLong")) (by decide) (by decide)))) (Or.inr (slot_ne (Or.inl (hw _ (List.mem_of_getElem? (i := 47) rfl))) (Or.inl (hw _ (List.mem_of_getElem? (i := 44) rfl))) (by decide) (t := (.object "com/example/wee_forge/weeforge/model/ProjectOrder")) (t' := (.object "java/util/OptionalLong")) (by decide) (by decide)))) (Exa.wr W13 (Exa.wr W11 (Exa.wr W9 (Exa.wr W7 (Exa.wr W5 (Exa.wr W3 E_a1)))))) (Or.inl (hw _ (List.mem_of_getElem? (i := 47) rfl))) (hw _ (List.mem_of_getElem? (i := 11) rfl)) (ty := (.object "com/example/wee_forge/weeforge/model/ProjectOrder")) (by decide) rfl rfl (g := (mkF m 50 #[.val (.ref a1)] [(.ref w_CREATED_AT), (.ref a1)])) rfl rfl (hb hby d2_50)
  have Fw15 := Fld.same W15 (Fld.other W13 (Fld.other W11 (Fld.other W9 (Fld.other W7 (Fld.other W5 (Fld.other W3 F_orderBy (Or.inr (slot_ne (Or.inl (hw _ (List.mem_of_getElem? (i := 47) rfl))) (Or.inl (hw _ (List.mem_of_getElem? (i := 26) rfl))) (by decide) (t := (.object "com/example/wee_forge/weeforge/model/ProjectOrder")) (t' := (.object "java/util/List")) (by decide) (by decide)))) (Or.inr (slot_ne (Or.inl (hw _ (List.mem_of_getElem? (i := 47) rfl))) (Or.inl (hw _ (List.mem_of_getElem? (i := 28) rfl))) (by decide) (t := (.object "com/example/wee_forge/weeforge/model/ProjectOrder")) (t' := (.object "java/util/List")) (by decide) (by decide)))) (Or.inr (slot_ne (Or.inl (hw _ (List.mem_of_getElem? (i := 47) rfl))) (Or.inl (hw _ (List.mem_of_getElem? (i := 33) rfl))) (by decide) (t := (.object "com/example/wee_forge/weeforge/model/ProjectOrder")) (t' := (.object "com/example/wee_forge/weeforge/model/TimeRange")) (by decide) (by decide)))) (Or.inr (slot_ne (Or.inl (hw _ (List.mem_of_getElem? (i := 47) rfl))) (Or.inl (hw _ (List.mem_of_getElem? (i := 35) rfl))) (by decide) (t := (.object "com/example/wee_forge/weeforge/model/ProjectOrder")) (t' := (.object "com/example/wee_forge/weeforge/model/TimeRange")) (by decide) (by decide)))) (Or.inr (slot_ne (Or.inl (hw _ (List.mem_of_getElem? (i := 47) rfl))) (Or.inl (hw _ (List.mem_of_getElem? (i := 42) rfl))) (by decide) (t := (.object "com/example/wee_forge/weeforge/model/ProjectOrder")) (t' := (.object "java/util/OptionalLong")) (by decide) (by decide)))) (Or.inr (slot_ne (Or.inl (hw _ (List.mem_of_getElem? (i := 47) rfl))) (Or.inl (hw _ (List.mem_of_getElem? (i := 44) rfl))) (by decide) (t := (.object "com/example/wee_forge/weeforge/model/ProjectOrder")) (t' := (.object "java/util/OptionalLong")) (by decide) (by decide))))
  have N15 := Fr.snoc X15 N13 g_a1
  have K15 : Keep h0 h15 [a1] := (K13).wr W15 (Or.inl (List.mem_of_getElem? (i := 0) rfl))
  obtain ⟨T16, X16, e16, st16⟩ := getS2 X15 hx hZ hown (host := "") (Or.inl (hw _ (List.mem_of_getElem? (i := 48) rfl))) Via.refl e15 (Sta.wr W15 (Sta.wr W13 (Sta.wr W11 (Sta.wr W9 (Sta.wr W7 (Sta.wr W5 (Sta.wr W3 S_DESC))))))) (g := (mkF m 54 #[.val (.ref a1)] [(.ref a1)])) rfl (hb hby d2_54)
  obtain ⟨T17, h17, X17, e17, W17, st17⟩ := putF X16 hx hZ hown (host := "") (Or.inl (hw _ (List.mem_of_getElem? (i := 51) rfl))) Via.refl e16 (Fld.other W15 (Fld.other W13 (Fld.other W11 (Fld.other W9 (Fld.other W7 (Fld.other W5 (Fld.other W3 F_sort (Or.inr (slot_ne (Or.inl (hw _ (List.mem_of_getElem? (i := 52) rfl))) (Or.inl (hw _ (List.mem_of_getElem? (i := 26) rfl))) (by decide) (t := (.object "com/example/wee_forge/weeforge/model/SortDirection")) (t' := (.object "java/util/List")) (by decide) (by decide)))) (Or.inr (slot_ne (Or.inl (hw _ (List.mem_of_getElem? (i := 52) rfl))) (Or.inl (hw _ (List.mem_of_getElem? (i := 28) rfl))) (by decide) (t := (.object "com/example/wee_forge/weeforge/model/SortDirection")) (t' := (.object "java/util/List")) (by decide) (by decide)))) (Or.inr (slot_ne (Or.inl (hw _ (List.mem_of_getElem? (i := 52) rfl))) (Or.inl (hw _ (List.mem_of_getElem? (i := 33) rfl))) (by decide) (t := (.object "com/example/wee_forge/weeforge/model/SortDirection")) (t' := (.object "com/example/wee_forge/weeforge/model/TimeRange")) (by decide) (by decide)))) (Or.inr (slot_ne (Or.inl (hw _ (List.mem_of_getElem? (i := 52) rfl))) (Or.inl (hw _ (List.mem_of_getElem? (i := 35) rfl))) (by decide) (t := (.object "com/example/wee_forge/weeforge/model/SortDirection")) (t' := (.object "com/example/wee_forge/weeforge/model/TimeRange")) (by decide) (by decide)))) (Or.inr (slot_ne (Or.inl (hw _ (List.mem_of_getElem? (i := 52) rfl))) (Or.inl (hw _ (List.mem_of_getElem? (i := 42) rfl))) (by decide) (t := (.object "com/example/wee_forge/weeforge/model/SortDirection")) (t' := (.object "java/util/OptionalLong")) (by decide) (by decide)))) (Or.inr (slot_ne (Or.inl (hw _ (List.mem_of_getElem? (i := 52) rfl))) (Or.inl (hw _ (List.mem_of_getElem? (i := 44) rfl))) (by decide) (t := (.object "com/example/wee_forge/weeforge/model/SortDirection")) (t' := (.object "java/util/OptionalLong")) (by decide) (by decide)))) (Or.inr (slot_ne (Or.inl (hw _ (List.mem_of_getElem? (i := 52) rfl))) (Or.inl (hw _ (List.mem_of_getElem? (i := 47) rfl))) (by decide) (t := (.object "com/example/wee_forge/weeforge/model/SortDirection")) (t' := (.object "com/example/wee_forge/weeforge/model/ProjectOrder")) (by decide) (by decide)))) (Exa.wr W15 (Exa.wr W13 (Exa.wr W11 (Exa.wr W9 (Exa.wr W7 (Exa.wr W5 (Exa.wr W3 E_a1))))))) (Or.inl (hw _ (List.mem_of_getElem? (i := 52) rfl))) (hw _ (List.mem_of_getElem? (i := 11) rfl)) (ty := (.object "com/example/wee_forge/weeforge/model/SortDirection")) (by decide) rfl rfl (g := (mkF m 57 #[.val (.ref a1)] [(.ref w_DESC), (.ref a1)])) rfl rfl (hb hby d2_57)
  have Fw17 := Fld.same W17 (Fld.other W15 (Fld.other W13 (Fld.other W11 (Fld.other W9 (Fld.other W7 (Fld.other W5 (Fld.other W3 F_sort (Or.inr (slot_ne (Or.inl (hw _ (List.mem_of_getElem? (i := 52) rfl))) (Or.inl (hw _ (List.mem_of_getElem? (i := 26) rfl))) (by decide) (t := (.object "com/example/wee_forge/weeforge/model/SortDirection")) (t' := (.object "java/util/List")) (by decide) (by decide)))) (Or.inr (slot_ne (Or.inl (hw _ (List.mem_of_getElem? (i := 52) rfl))) (Or.inl (hw _ (List.mem_of_getElem? (i := 28) rfl))) (by decide) (t := (.object "com/example/wee_forge/weeforge/model/SortDirection")) (t' := (.object "java/util/List")) (by decide) (by decide)))) (Or.inr (slot_ne (Or.inl (hw _ (List.mem_of_getElem? (i := 52) rfl))) (Or.inl (hw _ (List.mem_of_getElem? (i := 33) rfl))) (by decide) (t := (.object "com/example/wee_forge/weeforge/model/SortDirection")) (t' := (.object "com/example/wee_forge/weeforge/model/TimeRange")) (by decide) (by decide)))) (Or.inr (slot_ne (Or.inl (hw _ (List.mem_of_getElem? (i := 52) rfl))) (Or.inl (hw _ (List.mem_of_getElem? (i := 35) rfl))) (by decide) (t := (.object "com/example/wee_forge/weeforge/model/SortDirection")) (t' := (.object "com/example/wee_forge/weeforge/model/TimeRange")) (by decide) (by decide)))) (Or.inr (slot_ne (Or.inl (hw _ (List.mem_of_getElem? (i := 52) rfl))) (Or.inl (hw _ (List.mem_of_getElem? (i := 42) rfl))) (by decide) (t := (.object "com/example/wee_forge/weeforge/model/SortDirection")) (t' := (.object "java/util/OptionalLong")) (by decide) (by decide)))) (Or.inr (slot_ne (Or.inl (hw _ (List.mem_of_getElem? (i := 52) rfl))) (Or.inl (hw _ (List.mem_of_getElem? (i := 44) rfl))) (by decide) (t := (.object "com/example/wee_forge/weeforge/model/SortDirection")) (t' := (.object "java/util/OptionalLong")) (by decide) (by decide)))) (Or.inr (slot_ne (Or.inl (hw _ (List.mem_of_getElem? (i := 52) rfl))) (Or.inl (hw _ (List.mem_of_getElem? (i := 47) rfl))) (by decide) (t := (.object "com/example/wee_forge/weeforge/model/SortDirection")) (t' := (.object "com/example/wee_forge/weeforge/model/ProjectOrder")) (by decide) (by decide))))
  have N17 := Fr.snoc X17 N15 g_a1
  have K17 : Keep h0 h17 [a1] := (K15).wr W17 (Or.inl (List.mem_of_getElem? (i := 0) rfl))
  have pre18 : ∀ tt, Steps p.tables e below (T17.setTop (mkF m 60 #[.val (.ref a1)] [])) tt → Steps p.tables e below (s₁.setTop (entryFrame m #[(.ref a1)] 1)) tt := by
    intro tt kt
    refine pre0 tt ?_
    show Steps p.tables e below (s₁.setTop (mkF m 0 #[.val (.ref a1)] [])) _
    refine XS.aloadN X0.here hx rfl (hb hby d2_0) rfl rfl ?_
    show Steps p.tables e below (s₁.setTop (mkF m 1 #[.val (.ref a1)] [(.ref a1)])) _
    refine st1 _ ?_
    show Steps p.tables e below (T1.setTop (mkF m 4 #[.val (.ref a1)] [])) _
    refine XS.aloadN X1.here hx rfl (hb hby d2_4) rfl rfl ?_
    show Steps p.tables e below (T1.setTop (mkF m 5 #[.val (.ref a1)] [(.ref a1)])) _
    refine st2 _ ?_
    show Steps p.tables e below (T2.setTop (mkF m 8 #[.val (.ref a1)] [(.ref wEL), (.ref a1)])) _
    refine st3 _ ?_
    show Steps p.tables e below (T3.setTop (mkF m 11 #[.val (.ref a1)] [])) _
    refine XS.aloadN X3.here hx rfl (hb hby d2_11) rfl rfl ?_
    show Steps p.tables e below (T3.setTop (mkF m 12 #[.val (.ref a1)] [(.ref a1)])) _
    refine st4 _ ?_
    show Steps p.tables e below (T4.setTop (mkF m 15 #[.val (.ref a1)] [(.ref wEL), (.ref a1)])) _
    refine st5 _ ?_
    show Steps p.tables e below (T5.setTop (mkF m 18 #[.val (.ref a1)] [])) _
    refine XS.aloadN X5.here hx rfl (hb hby d2_18) rfl rfl ?_
    show Steps p.tables e below (T5.setTop (mkF m 19 #[.val (.ref a1)] [(.ref a1)])) _
    refine st6 _ ?_
    show Steps p.tables e below (T6.setTop (mkF m 22 #[.val (.ref a1)] [(.ref w_ANY), (.ref a1)])) _
    refine st7 _ ?_
    show Steps p.tables e below (T7.setTop (mkF m 25 #[.val (.ref a1)] [])) _
    refine XS.aloadN X7.here hx rfl (hb hby d2_25) rfl rfl ?_
    show Steps p.tables e below (T7.setTop (mkF m 26 #[.val (.ref a1)] [(.ref a1)])) _
    refine st8 _ ?_
    show Steps p.tables e below (T8.setTop (mkF m 29 #[.val (.ref a1)] [(.ref w_ANY), (.ref a1)])) _
    refine st9 _ ?_
    show Steps p.tables e below (T9.setTop (mkF m 32 #[.val (.ref a1)] [])) _
    refine XS.aloadN X9.here hx rfl (hb hby d2_32) rfl rfl ?_
    show Steps p.tables e below (T9.setTop (mkF m 33 #[.val (.ref a1)] [(.ref a1)])) _
    refine st10 _ ?_
    show Steps p.tables e below (T10.setTop (mkF m 36 #[.val (.ref a1)] [(.ref wOL), (.ref a1)])) _
    refine st11 _ ?_
    show Steps p.tables e below (T11.setTop (mkF m 39 #[.val (.ref a1)] [])) _
    refine XS.aloadN X11.here hx rfl (hb hby d2_39) rfl rfl ?_
    show Steps p.tables e below (T11.setTop (mkF m 40 #[.val (.ref a1)] [(.ref a1)])) _
    refine st12 _ ?_
    show Steps p.tables e below (T12.setTop (mkF m 43 #[.val (.ref a1)] [(.ref wOL), (.ref a1)])) _
    refine st13 _ ?_
    show Steps p.tables e below (T13.setTop (mkF m 46 #[.val (.ref a1)] [])) _
    refine XS.aloadN X13.here hx rfl (hb hby d2_46) rfl rfl ?_
    show Steps p.tables e below (T13.setTop (mkF m 47 #[.val (.ref a1)] [(.ref a1)])) _
    refine st14 _ ?_
    show Steps p.tables e below (T14.setTop (mkF m 50 #[.val (.ref a1)] [(.ref w_CREATED_AT), (.ref a1)])) _
    refine st15 _ ?_
    show Steps p.tables e below (T15.setTop (mkF m 53 #[.val (.ref a1)] [])) _
    refine XS.aloadN X15.here hx rfl (hb hby d2_53) rfl rfl ?_
    show Steps p.tables e below (T15.setTop (mkF m 54 #[.val (.ref a1)] [(.ref a1)])) _
    refine st16 _ ?_
    show Steps p.tables e below (T16.setTop (mkF m 57 #[.val (.ref a1)] [(.ref w_DESC), (.ref a1)])) _
    refine st17 _ ?_
    exact kt
  obtain ⟨fs, hr, hrun, hended, hW, hsame⟩ := X17.leave (v := none) (fun _ => rfl)
  refine ⟨_, _, pre18 _ ?_, hrun, hended, _, _, rfl, ?_, ⟨_, rfl⟩, hW, hsame.mono (by decide) (by decide)⟩
  · show Steps p.tables e below (T17.setTop (mkF m 60 #[.val (.ref a1)] [])) _
    exact X17.returnOut hx Bd.returns (hb hby d2_60) hr
  · show QC Z a1 w_DESC w_CREATED_AT (0 : Int32) h0 n0 _ T17.heap _
    rw [e17]
    exact ⟨rfl, N17, K17, (Exa.wr W17 (Exa.wr W15 (Exa.wr W13 (Exa.wr W11 (Exa.wr W9 (Exa.wr W7 (Exa.wr W5 (Exa.wr W3 E_a1)))))))), Fw17, (Fld.other W17 Fw15 (Or.inr (slot_ne (Or.inl (hw _ (List.mem_of_getElem? (i := 47) rfl))) (Or.inl (hw _ (List.mem_of_getElem? (i := 52) rfl))) (by decide) (t := (.object "com/example/wee_forge/weeforge/model/ProjectOrder")) (t' := (.object "com/example/wee_forge/weeforge/model/SortDirection")) (by decide) (by decide)))), (Fld.other W17 (Fld.other W15 (Fld.other W13 (Fld.other W11 (Fld.other W9 (Fld.other W7 (Fld.other W5 (Fld.other W3 F_starredOnly (Or.inr (slot_ne (Or.inl (hw _ (List.mem_of_getElem? (i := 89) rfl))) (Or.inl (hw _ (List.mem_of_getElem? (i := 26) rfl))) (by decide) (t := .boolean) (t' := (.object "java/util/List")) (by decide) (by decide)))) (Or.inr (slot_ne (Or.inl (hw _ (List.mem_of_getElem? (i := 89) rfl))) (Or.inl (hw _ (List.mem_of_getElem? (i := 28) rfl))) (by decide) (t := .boolean) (t' := (.object "java/util/List")) (by decide) (by decide)))) (Or.inr (slot_ne (Or.inl (hw _ (List.mem_of_getElem? (i := 89) rfl))) (Or.inl (hw _ (List.mem_of_getElem? (i := 33) rfl))) (by decide) (t := .boolean) (t' := (.object "com/example/wee_forge/weeforge/model/TimeRange")) (by decide) (by decide)))) (Or.inr (slot_ne (Or.inl (hw _ (List.mem_of_getElem? (i := 89) rfl))) (Or.inl (hw _ (List.mem_of_getElem? (i := 35) rfl))) (by decide) (t := .boolean) (t' := (.object "com/example/wee_forge/weeforge/model/TimeRange")) (by decide) (by decide)))) (Or.inr (slot_ne (Or.inl (hw _ (List.mem_of_getElem? (i := 89) rfl))) (Or.inl (hw _ (List.mem_of_getElem? (i := 42) rfl))) (by decide) (t := .boolean) (t' := (.object "java/util/OptionalLong")) (by decide) (by decide)))) (Or.inr (slot_ne (Or.inl (hw _ (List.mem_of_getElem? (i := 89) rfl))) (Or.inl (hw _ (List.mem_of_getElem? (i := 44) rfl))) (by decide) (t := .boolean) (t' := (.object "java/util/OptionalLong")) (by decide) (by decide)))) (Or.inr (slot_ne (Or.inl (hw _ (List.mem_of_getElem? (i := 89) rfl))) (Or.inl (hw _ (List.mem_of_getElem? (i := 47) rfl))) (by decide) (t := .boolean) (t' := (.object "com/example/wee_forge/weeforge/model/ProjectOrder")) (by decide) (by decide)))) (Or.inr (slot_ne (Or.inl (hw _ (List.mem_of_getElem? (i := 89) rfl))) (Or.inl (hw _ (List.mem_of_getElem? (i := 52) rfl))) (by decide) (t := .boolean) (t' := (.object "com/example/wee_forge/weeforge/model/SortDirection")) (by decide) (by decide))))⟩
theorem d11_0 : decode prog_25_method_12_code 0 = .ok (.aload_n 0, 1) := by decide +kernel
theorem d11_1 : decode prog_25_method_12_code 1 = .ok (.aload_n 1, 1) := by decide +kernel
theorem d11_2 : decode prog_25_method_12_code 2 = .ok (.ldc 117, 2) := by decide +kernel
theorem d11_4 : decode prog_25_method_12_code 4 = .ok (.invokestatic 105, 3) := by decide +kernel
theorem d11_7 : decode prog_25_method_12_code 7 = .ok (.checkcast 57, 3) := by decide +kernel
theorem d11_10 : decode prog_25_method_12_code 10 = .ok (.putfield 62, 3) := by decide +kernel
theorem d11_13 : decode prog_25_method_12_code 13 = .ok (.aload_n 0, 1) := by decide +kernel
theorem d11_14 : decode prog_25_method_12_code 14 = .ok (.areturn, 1) := by decide +kernel
theorem pn_rm_sort : plainName "com/example/wee_forge/weeforge/model/ProjectFilter" = true := by first | (simp [plainName, overriddenIn]; done) | decide +kernel
theorem pd_rm_sort_0 : parseMethodDescriptor "(Ljava/lang/Object;Ljava/lang/String;)Ljava/lang/Object;" = some ⟨[(.object "java/lang/Object"), (.object "java/lang/String")], some (.object "java/lang/Object")⟩ := by decide +kernel
theorem ef_rm_sort (m : MethodId) (a1 : Addr) (a2 : Addr) : entryFrame m #[(.ref a1), (.ref a2)] 2 = mkF m 0 #[.val (.ref a1), .val (.ref a2)] [] := by first | (simp [entryFrame, mkF, argsToLocals, Value.category]; done) | rfl
set_option maxRecDepth 65536 in
set_option maxHeartbeats 40000000 in
theorem rm_sort (l : Launch) (Z : State) (a0 : Array Value) (hw : ∀ d ∈ tables_1, d.before a0 Z = true) (ws : List Jvm.Cond) (a1 a2 x1 x2 : Addr) (x3 : Int32) (h0 : Heap) (n0 : Nat) (Z0 : n0 ≤ h0.size) (E_a1 : Exa Z h0 a1 "com/example/wee_forge/weeforge/model/ProjectFilter") (F_s : Fld Z h0 a1 "com/example/wee_forge/weeforge/model/ProjectFilter" "sort" "Lcom/example/wee_forge/weeforge/model/SortDirection;" (.ref x1)) (F_o : Fld Z h0 a1 "com/example/wee_forge/weeforge/model/ProjectFilter" "orderBy" "Lcom/example/wee_forge/weeforge/model/ProjectOrder;" (.ref x2)) (F_b : Fld Z h0 a1 "com/example/wee_forge/weeforge/model/ProjectFilter" "starredOnly" "Z" (.int x3)) (g_a1 : n0 ≤ a1) (E_a2 : Exa Z h0 a2 "com/example/wee_forge/weeforge/model/SortDirection") :
    MetFree l (⟨"com/example/wee_forge/weeforge/model/ProjectFilter", "sort", "(Lcom/example/wee_forge/weeforge/model/SortDirection;)Lcom/example/wee_forge/weeforge/model/ProjectFilter;"⟩ : MethodName) (head1 (Jvm.Cond.code (⟨"com/example/wee_forge/weeforge/model/ProjectFilter", "sort", "(Lcom/example/wee_forge/weeforge/model/SortDirection;)Lcom/example/wee_forge/weeforge/model/ProjectFilter;"⟩ : MethodName) prog_25_method_12_code 2 (some (.object "com/example/wee_forge/weeforge/model/ProjectFilter")) :: ws) ({ frames := 1, cells := 2, slots := 20, locals := 14 } : Room)) (fun a U => a = #[(.ref a1), (.ref a2)] ∧ Z.Warmed39 U.vm ∧ U.heap = h0) (fun _ _ _ _ _ => True) (fun _ U o U' => ∃ v L, o = .returned v ∧ QF Z a1 a2 x2 x3 h0 n0 v U'.heap L ∧ ReturnedEndW U o U' L ({ frames := 1, cells := 2, slots := 20, locals := 14 } : Room).cells ({ frames := 1, cells := 2, slots := 20, locals := 14 } : Room).slots) := by
  refine MetFree.of_bodySF (plainFor_of_name pn_rm_sort) hisR ?_
  intro p e s m args below meth c s₁ Bd hml0 hP hK
  obtain ⟨rfl, hZ, hh⟩ := hP
  have hx := Bd.exec
  have hby := Bd.bytes
  have hml : c.maxLocals = 2 := hml0
  have hown : s.vm.findClass "com/example/wee_forge/weeforge/model/ProjectFilter" = some m.cls := findClass_of_methodNamed Bd.named
  have hnm := (name_of_methodNamed Bd.named Bd.method).1
  have X0 : Stand p l e ({ frames := 1, cells := 2, slots := 20, locals := 14 } : Room) (s.setVm s.vm) m #[(.ref a1), (.ref a2)] below meth c s₁ [] 0 0 := Stand.of_body Bd
  have hS : s.Since s.vm s.heap.size := (State.WarmedH.refl s).since _
  have hk : s.heap.size ≤ h0.size := by rw [hh]; exact Nat.le_refl _
  have hZ : Z.Warmed39 (s.setVm s.vm).vm := hZ
  have hown : (s.setVm s.vm).vm.findClass "com/example/wee_forge/weeforge/model/ProjectFilter" = some m.cls := hown
  have wS := own_wS hw
  have e0 : s₁.heap = h0 := by rw [← hh, Bd.state]; rfl
  have N0 := Fr.nil n0
  have pre0 : ∀ tt, Steps p.tables e below (s₁.setTop (mkF m 0 #[.val (.ref a1), .val (.ref a2)] [])) tt → Steps p.tables e below (s₁.setTop (entryFrame m #[(.ref a1), (.ref a2)] 2)) tt := fun tt kt => castTop (ef_rm_sort m a1 a2) kt
  obtain ⟨xs1, T1, h1, k1, X1, e1, E1, hS, hk1, hZ, hown, st1⟩ := ldcS X0 hx hZ hown (hw _ (List.mem_of_getElem? (i := 99) rfl)) wS e0 hS hk (g := (mkF m 2 #[.val (.ref a1), .val (.ref a2)] [(.ref a2), (.ref a1)])) rfl (hb hby d11_2) (n := 16) (by decide) (by decide) (by decide) (by decide)
  have K1 : Keep h0 h1 [a1] := ((Keep.refl h0 [a1])).ext E1
  obtain ⟨_, _, ⟨T2, L2, k2, n2⟩, -, X2, ⟨Lc2, hQ2, l2, y2, z2⟩, st2⟩ := Jvm.LawKit.callS X1 hx (y := (⟨"java/util/Objects", "requireNonNull", "(Ljava/lang/Object;Ljava/lang/String;)Ljava/lang/Object;"⟩ : MethodName)) hown (mvT hZ (hw _ (List.mem_of_getElem? (i := 72) rfl))) (mvT hZ (hw _ (List.mem_of_getElem? (i := 73) rfl))) (mvT hZ (hw _ (List.mem_of_getElem? (i := 74) rfl))) (mvT hZ (hw _ (List.mem_of_getElem? (i := 75) rfl))) (by decide) (backOf (W := 1) (rmNn l Z a0 hw [] a2 xs1 h1 n0 (Nat.le_trans Z0 E1.1)) hZ (hw _ (List.mem_of_getElem? (i := 75) rfl)) (hw _ (List.mem_of_getElem? (i := 74) rfl)) (by decide) (by decide)) (g := (mkF m 4 #[.val (.ref a1), .val (.ref a2)] [(.ref xs1), (.ref a2), (.ref a1)])) rfl (by rw [hml]; rfl) (argsL := [(.ref a2), (.ref xs1)]) (rest := [(.ref a1)]) (lenOf pd_rm_sort_0 rfl) rfl (by show 2 * 0 + _ ≤ _; exact Nat.le_of_eq rfl) (hb hby d11_4) (fun _ _ => ⟨rfl, e1, (by decide : 2 + 0 ≤ _), (by decide : 20 + 0 ≤ _)⟩)
  dsimp only [Pt.U, Pt.locs, Pt.cells, Pt.slots] at X2 l2 y2 z2 st2 hQ2
  subst l2 y2 z2
  obtain ⟨rfl, N2q, hE2⟩ := hQ2
  have N2 := Fr.app N0 N2q
  obtain ⟨T3, X3, e3, st3⟩ := castY X2 hx hZ hown (hw _ (List.mem_of_getElem? (i := 100) rfl)) hE2 (Ins.self (Exa.ext E1 E_a2)) (g := (mkF m 7 #[.val (.ref a1), .val (.ref a2)] [(.ref a2), (.ref a1)])) rfl rfl (hb hby d11_7)
  obtain ⟨T4, h4, X4, e4, W4, st4⟩ := putF X3 hx hZ hown (host := "") (Or.inl (hw _ (List.mem_of_getElem? (i := 51) rfl))) Via.refl e3 (Fld.ext E1 F_s) (Exa.ext E1 E_a1) (Or.inl (hw _ (List.mem_of_getElem? (i := 52) rfl))) (hw _ (List.mem_of_getElem? (i := 11) rfl)) (ty := (.object "com/example/wee_forge/weeforge/model/SortDirection")) (by decide) rfl rfl (g := (mkF m 10 #[.val (.ref a1), .val (.ref a2)] [(.ref a2), (.ref a1)])) rfl rfl (hb hby d11_10)
  have Fw4 := Fld.same W4 (Fld.ext E1 F_s)
  have N4 := Fr.snoc X4 N2 g_a1
  have K4 : Keep h0 h4 [a1] := (K1).wr W4 (Or.inl (List.mem_of_getElem? (i := 0) rfl))
  have pre5 : ∀ tt, Steps p.tables e below (T4.setTop (mkF m 14 #[.val (.ref a1), .val (.ref a2)] [(.ref a1)])) tt → Steps p.tables e below (s₁.setTop (entryFrame m #[(.ref a1), (.ref a2)] 2)) tt := by
    intro tt kt
    refine pre0 tt ?_
    show Steps p.tables e below (s₁.setTop (mkF m 0 #[.val (.ref a1), .val (.ref a2)] [])) _
    refine XS.aloadN X0.here hx rfl (hb hby d11_0) rfl rfl ?_
    show Steps p.tables e below (s₁.setTop (mkF m 1 #[.val (.ref a1), .val (.ref a2)] [(.ref a1)])) _
    refine XS.aloadN X0.here hx rfl (hb hby d11_1) rfl rfl ?_
    show Steps p.tables e below (s₁.setTop (mkF m 2 #[.val (.ref a1), .val (.ref a2)] [(.ref a2), (.ref a1)])) _
    refine st1 _ ?_
    show Steps p.tables e below (T1.setTop (mkF m 4 #[.val (.ref a1), .val (.ref a2)] [(.ref xs1), (.ref a2), (.ref a1)])) _
    refine st2 _ ?_
    show Steps p.tables e below (T2.setTop (mkF m 7 #[.val (.ref a1), .val (.ref a2)] [(.ref a2), (.ref a1)])) _
    refine st3 _ ?_
    show Steps p.tables e below (T3.setTop (mkF m 10 #[.val (.ref a1), .val (.ref a2)] [(.ref a2), (.ref a1)])) _
    refine st4 _ ?_
    show Steps p.tables e below (T4.setTop (mkF m 13 #[.val (.ref a1), .val (.ref a2)] [])) _
    refine XS.aloadN X4.here hx rfl (hb hby d11_13) rfl rfl ?_
    exact kt
  obtain ⟨fs, hr, hrun, hended, hW⟩ := X4.leaveW hS (by rw [e4]; exact (Nat.le_trans hk1 (Keep.of_wr W4).1)) (v := some (.ref a1)) (fun h => by rw [Bd.returns] at h; cases h)
  refine ⟨_, _, pre5 _ ?_, hrun, hended, _, _, rfl, ?_, ⟨_, rfl⟩, hW.2.1, hW.2.2.1, hW.2.2.2.mono (by decide) (by decide)⟩
  · show Steps p.tables e below (T4.setTop (mkF m 14 #[.val (.ref a1), .val (.ref a2)] [(.ref a1)])) _
    jvm_step X4.here [X4.here.top, hx, (hb hby d11_14), X4.method', Bd.returns, Value.isRef, FieldType.isReference]
    first | (intro acts; rw [hr _ acts rfl rfl rfl]) | rw [hr _ _ rfl rfl rfl]
    exact Steps.refl _
  · show QF Z a1 a2 x2 x3 h0 n0 _ T4.heap _
    rw [e4]
    exact ⟨rfl, N4, K4, (Exa.wr W4 (Exa.ext E1 E_a1)), Fw4, (Fld.other W4 (Fld.ext E1 F_o) (Or.inr (slot_ne (Or.inl (hw _ (List.mem_of_getElem? (i := 47) rfl))) (Or.inl (hw _ (List.mem_of_getElem? (i := 52) rfl))) (by decide) (t := (.object "com/example/wee_forge/weeforge/model/ProjectOrder")) (t' := (.object "com/example/wee_forge/weeforge/model/SortDirection")) (by decide) (by decide)))), (Fld.other W4 (Fld.ext E1 F_b) (Or.inr (slot_ne (Or.inl (hw _ (List.mem_of_getElem? (i := 89) rfl))) (Or.inl (hw _ (List.mem_of_getElem? (i := 52) rfl))) (by decide) (t := .boolean) (t' := (.object "com/example/wee_forge/weeforge/model/SortDirection")) (by decide) (by decide))))⟩
theorem d7_0 : decode prog_25_method_11_code 0 = .ok (.aload_n 0, 1) := by decide +kernel
theorem d7_1 : decode prog_25_method_11_code 1 = .ok (.aload_n 1, 1) := by decide +kernel
theorem d7_2 : decode prog_25_method_11_code 2 = .ok (.ldc 116, 2) := by decide +kernel
theorem d7_4 : decode prog_25_method_11_code 4 = .ok (.invokestatic 105, 3) := by decide +kernel
theorem d7_7 : decode prog_25_method_11_code 7 = .ok (.checkcast 48, 3) := by decide +kernel
theorem d7_10 : decode prog_25_method_11_code 10 = .ok (.putfield 53, 3) := by decide +kernel
theorem d7_13 : decode prog_25_method_11_code 13 = .ok (.aload_n 0, 1) := by decide +kernel
theorem d7_14 : decode prog_25_method_11_code 14 = .ok (.areturn, 1) := by decide +kernel
theorem pn_rm_orderBy : plainName "com/example/wee_forge/weeforge/model/ProjectFilter" = true := by first | (simp [plainName, overriddenIn]; done) | decide +kernel
theorem pd_rm_orderBy_0 : parseMethodDescriptor "(Ljava/lang/Object;Ljava/lang/String;)Ljava/lang/Object;" = some ⟨[(.object "java/lang/Object"), (.object "java/lang/String")], some (.object "java/lang/Object")⟩ := by decide +kernel
theorem ef_rm_orderBy (m : MethodId) (a1 : Addr) (a2 : Addr) : entryFrame m #[(.ref a1), (.ref a2)] 2 = mkF m 0 #[.val (.ref a1), .val (.ref a2)] [] := by first | (simp [entryFrame, mkF, argsToLocals, Value.category]; done) | rfl
set_option maxRecDepth 65536 in
set_option maxHeartbeats 40000000 in
theorem rm_orderBy (l : Launch) (Z : State) (a0 : Array Value) (hw : ∀ d ∈ tables_1, d.before a0 Z = true) (ws : List Jvm.Cond) (a1 a2 x1 x2 : Addr) (x3 : Int32) (h0 : Heap) (n0 : Nat) (Z0 : n0 ≤ h0.size) (E_a1 : Exa Z h0 a1 "com/example/wee_forge/weeforge/model/ProjectFilter") (F_s : Fld Z h0 a1 "com/example/wee_forge/weeforge/model/ProjectFilter" "sort" "Lcom/example/wee_forge/weeforge/model/SortDirection;" (.ref x1)) (F_o : Fld Z h0 a1 "com/example/wee_forge/weeforge/model/ProjectFilter" "orderBy" "Lcom/example/wee_forge/weeforge/model/ProjectOrder;" (.ref x2)) (F_b : Fld Z h0 a1 "com/example/wee_forge/weeforge/model/ProjectFilter" "starredOnly" "Z" (.int x3)) (g_a1 : n0 ≤ a1) (E_a2 : Exa Z h0 a2 "com/example/wee_forge/weeforge/model/ProjectOrder") :
    MetFree l (⟨"com/example/wee_forge/weeforge/model/ProjectFilter", "orderBy", "(Lcom/example/wee_forge/weeforge/model/ProjectOrder;)Lcom/example/wee_forge/weeforge/model/ProjectFilter;"⟩ : MethodName) (head1 (Jvm.Cond.code (⟨"com/example/wee_forge/weeforge/model/ProjectFilter", "orderBy", "(Lcom/example/wee_forge/weeforge/model/ProjectOrder;)Lcom/example/wee_forge/weeforge/model/ProjectFilter;"⟩ : MethodName) prog_25_method_11_code 2 (some (.object "com/example/wee_forge/weeforge/model/ProjectFilter")) :: ws) ({ frames := 1, cells := 2, slots := 32, locals := 14 } : Room)) (fun a U => a = #[(.ref a1), (.ref a2)] ∧ Z.Warmed39 U.vm ∧ U.heap = h0) (fun _ _ _ _ _ => True) (fun _ U o U' => ∃ v L, o = .returned v ∧ QF Z a1 x1 a2 x3 h0 n0 v U'.heap L ∧ ReturnedEndW U o U' L ({ frames := 1, cells := 2, slots := 32, locals := 14 } : Room).cells ({ frames := 1, cells := 2, slots := 32, locals := 14 } : Room).slots) := by
  refine MetFree.of_bodySF (plainFor_of_name pn_rm_orderBy) hisR ?_
  intro p e s m args below meth c s₁ Bd hml0 hP hK
  obtain ⟨rfl, hZ, hh⟩ := hP
  have hx := Bd.exec
  have hby := Bd.bytes
  have hml : c.maxLocals = 2 := hml0
  have hown : s.vm.findClass "com/example/wee_forge/weeforge/model/ProjectFilter" = some m.cls := findClass_of_methodNamed Bd.named
  have hnm := (name_of_methodNamed Bd.named Bd.method).1
  have X0 : Stand p l e ({ frames := 1, cells := 2, slots := 32, locals := 14 } : Room) (s.setVm s.vm) m #[(.ref a1), (.ref a2)] below meth c s₁ [] 0 0 := Stand.of_body Bd
  have hS : s.Since s.vm s.heap.size := (State.WarmedH.refl s).since _
  have hk : s.heap.size ≤ h0.size := by rw [hh]; exact Nat.le_refl _
  have hZ : Z.Warmed39 (s.setVm s.vm).vm := hZ
  have hown : (s.setVm s.vm).vm.findClass "com/example/wee_forge/weeforge/model/ProjectFilter" = some m.cls := hown
  have wS := own_wS hw
  have e0 : s₁.heap = h0 := by rw [← hh, Bd.state]; rfl
  have N0 := Fr.nil n0
  have pre0 : ∀ tt, Steps p.tables e below (s₁.setTop (mkF m 0 #[.val (.ref a1), .val (.ref a2)] [])) tt → Steps p.tables e below (s₁.setTop (entryFrame m #[(.ref a1), (.ref a2)] 2)) tt := fun tt kt => castTop (ef_rm_orderBy m a1 a2) kt
  obtain ⟨xs1, T1, h1, k1, X1, e1, E1, hS, hk1, hZ, hown, st1⟩ := ldcS X0 hx hZ hown (hw _ (List.mem_of_getElem? (i := 64) rfl)) wS e0 hS hk (g := (mkF m 2 #[.val (.ref a1), .val (.ref a2)] [(.ref a2), (.ref a1)])) rfl (hb hby d7_2) (n := 28) (by decide) (by decide) (by decide) (by decide)
  have K1 : Keep h0 h1 [a1] := ((Keep.refl h0 [a1])).ext E1
  obtain ⟨_, _, ⟨T2, L2, k2, n2⟩, -, X2, ⟨Lc2, hQ2, l2, y2, z2⟩, st2⟩ := Jvm.LawKit.callS X1 hx (y := (⟨"java/util/Objects", "requireNonNull", "(Ljava/lang/Object;Ljava/lang/String;)Ljava/lang/Object;"⟩ : MethodName)) hown (mvT hZ (hw _ (List.mem_of_getElem? (i := 72) rfl))) (mvT hZ (hw _ (List.mem_of_getElem? (i := 73) rfl))) (mvT hZ (hw _ (List.mem_of_getElem? (i := 74) rfl))) (mvT hZ (hw _ (List.mem_of_getElem? (i := 75) rfl))) (by decide) (backOf (W := 1) (rmNn l Z a0 hw [] a2 xs1 h1 n0 (Nat.le_trans Z0 E1.1)) hZ (hw _ (List.mem_of_getElem? (i := 75) rfl)) (hw _ (List.mem_of_getElem? (i := 74) rfl)) (by decide) (by decide)) (g := (mkF m 4 #[.val (.ref a1), .val (.ref a2)] [(.ref xs1), (.ref a2), (.ref a1)])) rfl (by rw [hml]; rfl) (argsL := [(.ref a2), (.ref xs1)]) (rest := [(.ref a1)]) (lenOf pd_rm_orderBy_0 rfl) rfl (by show 2 * 0 + _ ≤ _; exact Nat.le_of_eq rfl) (hb hby d7_4) (fun _ _ => ⟨rfl, e1, (by decide : 2 + 0 ≤ _), (by decide : 32 + 0 ≤ _)⟩)
  dsimp only [Pt.U, Pt.locs, Pt.cells, Pt.slots] at X2 l2 y2 z2 st2 hQ2
  subst l2 y2 z2
  obtain ⟨rfl, N2q, hE2⟩ := hQ2
  have N2 := Fr.app N0 N2q
  obtain ⟨T3, X3, e3, st3⟩ := castY X2 hx hZ hown (hw _ (List.mem_of_getElem? (i := 76) rfl)) hE2 (Ins.self (Exa.ext E1 E_a2)) (g := (mkF m 7 #[.val (.ref a1), .val (.ref a2)] [(.ref a2), (.ref a1)])) rfl rfl (hb hby d7_7)
  obtain ⟨T4, h4, X4, e4, W4, st4⟩ := putF X3 hx hZ hown (host := "") (Or.inl (hw _ (List.mem_of_getElem? (i := 46) rfl))) Via.refl e3 (Fld.ext E1 F_o) (Exa.ext E1 E_a1) (Or.inl (hw _ (List.mem_of_getElem? (i := 47) rfl))) (hw _ (List.mem_of_getElem? (i := 11) rfl)) (ty := (.object "com/example/wee_forge/weeforge/model/ProjectOrder")) (by decide) rfl rfl (g := (mkF m 10 #[.val (.ref a1), .val (.ref a2)] [(.ref a2), (.ref a1)])) rfl rfl (hb hby d7_10)
  have Fw4 := Fld.same W4 (Fld.ext E1 F_o)
  have N4 := Fr.snoc X4 N2 g_a1
  have K4 : Keep h0 h4 [a1] := (K1).wr W4 (Or.inl (List.mem_of_getElem? (i := 0) rfl))
  have pre5 : ∀ tt, Steps p.tables e below (T4.setTop (mkF m 14 #[.val (.ref a1), .val (.ref a2)] [(.ref a1)])) tt → Steps p.tables e below (s₁.setTop (entryFrame m #[(.ref a1), (.ref a2)] 2)) tt := by
    intro tt kt
    refine pre0 tt ?_
    show Steps p.tables e below (s₁.setTop (mkF m 0 #[.val (.ref a1), .val (.ref a2)] [])) _
    refine XS.aloadN X0.here hx rfl (hb hby d7_0) rfl rfl ?_
    show Steps p.tables e below (s₁.setTop (mkF m 1 #[.val (.ref a1), .val (.ref a2)] [(.ref a1)])) _
    refine XS.aloadN X0.here hx rfl (hb hby d7_1) rfl rfl ?_
    show Steps p.tables e below (s₁.setTop (mkF m 2 #[.val (.ref a1), .val (.ref a2)] [(.ref a2), (.ref a1)])) _
    refine st1 _ ?_
    show Steps p.tables e below (T1.setTop (mkF m 4 #[.val (.ref a1), .val (.ref a2)] [(.ref xs1), (.ref a2), (.ref a1)])) _
    refine st2 _ ?_
    show Steps p.tables e below (T2.setTop (mkF m 7 #[.val (.ref a1), .val (.ref a2)] [(.ref a2), (.ref a1)])) _
    refine st3 _ ?_
    show Steps p.tables e below (T3.setTop (mkF m 10 #[.val (.ref a1), .val (.ref a2)] [(.ref a2), (.ref a1)])) _
    refine st4 _ ?_
    show Steps p.tables e below (T4.setTop (mkF m 13 #[.val (.ref a1), .val (.ref a2)] [])) _
    refine XS.aloadN X4.here hx rfl (hb hby d7_13) rfl rfl ?_
    exact kt
  obtain ⟨fs, hr, hrun, hended, hW⟩ := X4.leaveW hS (by rw [e4]; exact (Nat.le_trans hk1 (Keep.of_wr W4).1)) (v := some (.ref a1)) (fun h => by rw [Bd.returns] at h; cases h)
  refine ⟨_, _, pre5 _ ?_, hrun, hended, _, _, rfl, ?_, ⟨_, rfl⟩, hW.2.1, hW.2.2.1, hW.2.2.2.mono (by decide) (by decide)⟩
  · show Steps p.tables e below (T4.setTop (mkF m 14 #[.val (.ref a1), .val (.ref a2)] [(.ref a1)])) _
    jvm_step X4.here [X4.here.top, hx, (hb hby d7_14), X4.method', Bd.returns, Value.isRef, FieldType.isReference]
    first | (intro acts; rw [hr _ acts rfl rfl rfl]) | rw [hr _ _ rfl rfl rfl]
    exact Steps.refl _
  · show QF Z a1 x1 a2 x3 h0 n0 _ T4.heap _
    rw [e4]
    exact ⟨rfl, N4, K4, (Exa.wr W4 (Exa.ext E1 E_a1)), (Fld.other W4 (Fld.ext E1 F_s) (Or.inr (slot_ne (Or.inl (hw _ (List.mem_of_getElem? (i := 52) rfl))) (Or.inl (hw _ (List.mem_of_getElem? (i := 47) rfl))) (by decide) (t := (.object "com/example/wee_forge/weeforge/model/SortDirection")) (t' := (.object "com/example/wee_forge/weeforge/model/ProjectOrder")) (by decide) (by decide)))), Fw4, (Fld.other W4 (Fld.ext E1 F_b) (Or.inr (slot_ne (Or.inl (hw _ (List.mem_of_getElem? (i := 89) rfl))) (Or.inl (hw _ (List.mem_of_getElem? (i := 47) rfl))) (by decide) (t := .boolean) (t' := (.object "com/example/wee_forge/weeforge/model/ProjectOrder")) (by decide) (by decide))))⟩
theorem d9_0 : decode prog_25_method_24_code 0 = .ok (.aload_n 0, 1) := by decide +kernel
theorem d9_1 : decode prog_25_method_24_code 1 = .ok (.getfield 62, 3) := by decide +kernel
theorem d9_4 : decode prog_25_method_24_code 4 = .ok (.areturn, 1) := by decide +kernel
theorem pn_rmg_sort : plainName "com/example/wee_forge/weeforge/model/ProjectFilter" = true := by first | (simp [plainName, overriddenIn]; done) | decide +kernel
theorem ef_rmg_sort (m : MethodId) (a1 : Addr) : entryFrame m #[(.ref a1)] 1 = mkF m 0 #[.val (.ref a1)] [] := by first | (simp [entryFrame, mkF, argsToLocals, Value.category]; done) | rfl
set_option maxRecDepth 65536 in
set_option maxHeartbeats 40000000 in
theorem rmg_sort (l : Launch) (Z : State) (a0 : Array Value) (hw : ∀ d ∈ tables_1, d.before a0 Z = true) (ws : List Jvm.Cond) (a1 r : Addr) (h0 : Heap) (n0 : Nat) (Z0 : n0 ≤ h0.size) (F_g : Fld Z h0 a1 "com/example/wee_forge/weeforge/model/ProjectFilter" "sort" "Lcom/example/wee_forge/weeforge/model/SortDirection;" (.ref r)) :
    MetFree l (⟨"com/example/wee_forge/weeforge/model/ProjectFilter", "sort", "()Lcom/example/wee_forge/weeforge/model/SortDirection;"⟩ : MethodName) (head1 (Jvm.Cond.code (⟨"com/example/wee_forge/weeforge/model/ProjectFilter", "sort", "()Lcom/example/wee_forge/weeforge/model/SortDirection;"⟩ : MethodName) prog_25_method_24_code 1 (some (.object "com/example/wee_forge/weeforge/model/SortDirection")) :: ws) ({ frames := 0, cells := 0, slots := 0, locals := 0 } : Room)) (fun a U => a = #[(.ref a1)] ∧ Z.Warmed39 U.vm ∧ U.heap = h0) (fun _ _ _ _ _ => True) (fun _ U o U' => ∃ v L, o = .returned v ∧ QR Z r h0 n0 v U'.heap L ∧ FrameEnd U o U' L ({ frames := 0, cells := 0, slots := 0, locals := 0 } : Room).cells ({ frames := 0, cells := 0, slots := 0, locals := 0 } : Room).slots) := by
  refine MetFree.of_bodySF (plainFor_of_name pn_rmg_sort) hisR ?_
  intro p e s m args below meth c s₁ Bd hml0 hP hK
  obtain ⟨rfl, hZ, hh⟩ := hP
  have hx := Bd.exec
  have hby := Bd.bytes
  have hml : c.maxLocals = 1 := hml0
  have hown : s.vm.findClass "com/example/wee_forge/weeforge/model/ProjectFilter" = some m.cls := findClass_of_methodNamed Bd.named
  have hnm := (name_of_methodNamed Bd.named Bd.method).1
  have X0 : Stand p l e ({ frames := 0, cells := 0, slots := 0, locals := 0 } : Room) s m #[(.ref a1)] below meth c s₁ [] 0 0 := Stand.of_body Bd
  have e0 : s₁.heap = h0 := by rw [← hh, Bd.state]; rfl
  have N0 := Fr.nil n0
  have pre0 : ∀ tt, Steps p.tables e below (s₁.setTop (mkF m 0 #[.val (.ref a1)] [])) tt → Steps p.tables e below (s₁.setTop (entryFrame m #[(.ref a1)] 1)) tt := fun tt kt => castTop (ef_rmg_sort m a1) kt
  obtain ⟨T1, X1, e1, st1⟩ := getF X0 hx hZ hown (host := "") (Or.inl (hw _ (List.mem_of_getElem? (i := 51) rfl))) Via.refl e0 F_g (g := (mkF m 1 #[.val (.ref a1)] [(.ref a1)])) rfl rfl (hb hby d9_1)
  have pre2 : ∀ tt, Steps p.tables e below (T1.setTop (mkF m 4 #[.val (.ref a1)] [(.ref r)])) tt → Steps p.tables e below (s₁.setTop (entryFrame m #[(.ref a1)] 1)) tt := by
    intro tt kt
    refine pre0 tt ?_
    show Steps p.tables e below (s₁.setTop (mkF m 0 #[.val (.ref a1)] [])) _
    refine XS.aloadN X0.here hx rfl (hb hby d9_0) rfl rfl ?_
    show Steps p.tables e below (s₁.setTop (mkF m 1 #[.val (.ref a1)] [(.ref a1)])) _
    refine st1 _ ?_
    exact kt
  obtain ⟨fs, hr, hrun, hended, hW, hsame⟩ := X1.leave (v := some (.ref r)) (fun h => by rw [Bd.returns] at h; cases h)
  refine ⟨_, _, pre2 _ ?_, hrun, hended, _, _, rfl, ?_, ⟨_, rfl⟩, hW, hsame.mono (by decide) (by decide)⟩
  · show Steps p.tables e below (T1.setTop (mkF m 4 #[.val (.ref a1)] [(.ref r)])) _
    jvm_step X1.here [X1.here.top, hx, (hb hby d9_4), X1.method', Bd.returns, Value.isRef, FieldType.isReference]
    first | (intro acts; rw [hr _ acts rfl rfl rfl]) | rw [hr _ _ rfl rfl rfl]
    exact Steps.refl _
  · show QR Z r h0 n0 _ T1.heap _
    rw [e1]
    exact ⟨rfl, N0, rfl⟩
theorem d6_0 : decode prog_25_method_23_code 0 = .ok (.aload_n 0, 1) := by decide +kernel
theorem d6_1 : decode prog_25_method_23_code 1 = .ok (.getfield 53, 3) := by decide +kernel
theorem d6_4 : decode prog_25_method_23_code 4 = .ok (.areturn, 1) := by decide +kernel
theorem pn_rmg_orderBy : plainName "com/example/wee_forge/weeforge/model/ProjectFilter" = true := by first | (simp [plainName, overriddenIn]; done) | decide +kernel
theorem ef_rmg_orderBy (m : MethodId) (a1 : Addr) : entryFrame m #[(.ref a1)] 1 = mkF m 0 #[.val (.ref a1)] [] := by first | (simp [entryFrame, mkF, argsToLocals, Value.category]; done) | rfl
set_option maxRecDepth 65536 in
set_option maxHeartbeats 40000000 in
theorem rmg_orderBy (l : Launch) (Z : State) (a0 : Array Value) (hw : ∀ d ∈ tables_1, d.before a0 Z = true) (ws : List Jvm.Cond) (a1 r : Addr) (h0 : Heap) (n0 : Nat) (Z0 : n0 ≤ h0.size) (F_g : Fld Z h0 a1 "com/example/wee_forge/weeforge/model/ProjectFilter" "orderBy" "Lcom/example/wee_forge/weeforge/model/ProjectOrder;" (.ref r)) :
    MetFree l (⟨"com/example/wee_forge/weeforge/model/ProjectFilter", "orderBy", "()Lcom/example/wee_forge/weeforge/model/ProjectOrder;"⟩ : MethodName) (head1 (Jvm.Cond.code (⟨"com/example/wee_forge/weeforge/model/ProjectFilter", "orderBy", "()Lcom/example/wee_forge/weeforge/model/ProjectOrder;"⟩ : MethodName) prog_25_method_23_code 1 (some (.object "com/example/wee_forge/weeforge/model/ProjectOrder")) :: ws) ({ frames := 0, cells := 0, slots := 0, locals := 0 } : Room)) (fun a U => a = #[(.ref a1)] ∧ Z.Warmed39 U.vm ∧ U.heap = h0) (fun _ _ _ _ _ => True) (fun _ U o U' => ∃ v L, o = .returned v ∧ QR Z r h0 n0 v U'.heap L ∧ FrameEnd U o U' L ({ frames := 0, cells := 0, slots := 0, locals := 0 } : Room).cells ({ frames := 0, cells := 0, slots := 0, locals := 0 } : Room).slots) := by
  refine MetFree.of_bodySF (plainFor_of_name pn_rmg_orderBy) hisR ?_
  intro p e s m args below meth c s₁ Bd hml0 hP hK
  obtain ⟨rfl, hZ, hh⟩ := hP
  have hx := Bd.exec
  have hby := Bd.bytes
  have hml : c.maxLocals = 1 := hml0
  have hown : s.vm.findClass "com/example/wee_forge/weeforge/model/ProjectFilter" = some m.cls := findClass_of_methodNamed Bd.named
  have hnm := (name_of_methodNamed Bd.named Bd.method).1
  have X0 : Stand p l e ({ frames := 0, cells := 0, slots := 0, locals := 0 } : Room) s m #[(.ref a1)] below meth c s₁ [] 0 0 := Stand.of_body Bd
  have e0 : s₁.heap = h0 := by rw [← hh, Bd.state]; rfl
  have N0 := Fr.nil n0
  have pre0 : ∀ tt, Steps p.tables e below (s₁.setTop (mkF m 0 #[.val (.ref a1)] [])) tt → Steps p.tables e below (s₁.setTop (entryFrame m #[(.ref a1)] 1)) tt := fun tt kt => castTop (ef_rmg_orderBy m a1) kt
  obtain ⟨T1, X1, e1, st1⟩ := getF X0 hx hZ hown (host := "") (Or.inl (hw _ (List.mem_of_getElem? (i := 46) rfl))) Via.refl e0 F_g (g := (mkF m 1 #[.val (.ref a1)] [(.ref a1)])) rfl rfl (hb hby d6_1)
  have pre2 : ∀ tt, Steps p.tables e below (T1.setTop (mkF m 4 #[.val (.ref a1)] [(.ref r)])) tt → Steps p.tables e below (s₁.setTop (entryFrame m #[(.ref a1)] 1)) tt := by
    intro tt kt
    refine pre0 tt ?_
    show Steps p.tables e below (s₁.setTop (mkF m 0 #[.val (.ref a1)] [])) _
    refine XS.aloadN X0.here hx rfl (hb hby d6_0) rfl rfl ?_
    show Steps p.tables e below (s₁.setTop (mkF m 1 #[.val (.ref a1)] [(.ref a1)])) _
    refine st1 _ ?_
    exact kt
  obtain ⟨fs, hr, hrun, hended, hW, hsame⟩ := X1.leave (v := some (.ref r)) (fun h => by rw [Bd.returns] at h; cases h)
  refine ⟨_, _, pre2 _ ?_, hrun, hended, _, _, rfl, ?_, ⟨_, rfl⟩, hW, hsame.mono (by decide) (by decide)⟩
  · show Steps p.tables e below (T1.setTop (mkF m 4 #[.val (.ref a1)] [(.ref r)])) _
    jvm_step X1.here [X1.here.top, hx, (hb hby d6_4), X1.method', Bd.returns, Value.isRef, FieldType.isReference]
    first | (intro acts; rw [hr _ acts rfl rfl rfl]) | rw [hr _ _ rfl rfl rfl]
    exact Steps.refl _
  · show QR Z r h0 n0 _ T1.heap _
    rw [e1]
    exact ⟨rfl, N0, rfl⟩
theorem d10_0 : decode prog_25_method_18_code 0 = .ok (.aload_n 0, 1) := by decide +kernel
theorem d10_1 : decode prog_25_method_18_code 1 = .ok (.getfield 100, 3) := by decide +kernel
theorem d10_4 : decode prog_25_method_18_code 4 = .ok (.ireturn, 1) := by decide +kernel
theorem pn_rmg_starredOnly : plainName "com/example/wee_forge/weeforge/model/ProjectFilter" = true := by first | (simp [plainName, overriddenIn]; done) | decide +kernel
theorem ef_rmg_starredOnly (m : MethodId) (a1 : Addr) : entryFrame m #[(.ref a1)] 1 = mkF m 0 #[.val (.ref a1)] [] := by first | (simp [entryFrame, mkF, argsToLocals, Value.category]; done) | rfl
set_option maxRecDepth 65536 in
set_option maxHeartbeats 40000000 in
theorem rmg_starredOnly (l : Launch) (Z : State) (a0 : Array Value) (hw : ∀ d ∈ tables_1, d.before a0 Z = true) (ws : List Jvm.Cond) (a1 : Addr) (r : Int32) (h0 : Heap) (n0 : Nat) (Z0 : n0 ≤ h0.size) (F_g : Fld Z h0 a1 "com/example/wee_forge/weeforge/model/ProjectFilter" "starredOnly" "Z" (.int r)) (hc1 : r = 0 ∨ r = 1) :
    MetFree l (⟨"com/example/wee_forge/weeforge/model/ProjectFilter", "starredOnly", "()Z"⟩ : MethodName) (head1 (Jvm.Cond.code (⟨"com/example/wee_forge/weeforge/model/ProjectFilter", "starredOnly", "()Z"⟩ : MethodName) prog_25_method_18_code 1 (some .boolean) :: ws) ({ frames := 0, cells := 0, slots := 0, locals := 0 } : Room)) (fun a U => a = #[(.ref a1)] ∧ Z.Warmed39 U.vm ∧ U.heap = h0) (fun _ _ _ _ _ => True) (fun _ U o U' => ∃ v L, o = .returned v ∧ QI Z r h0 n0 v U'.heap L ∧ FrameEnd U o U' L ({ frames := 0, cells := 0, slots := 0, locals := 0 } : Room).cells ({ frames := 0, cells := 0, slots := 0, locals := 0 } : Room).slots) := by
  refine MetFree.of_bodySF (plainFor_of_name pn_rmg_starredOnly) hisR ?_
  intro p e s m args below meth c s₁ Bd hml0 hP hK
  obtain ⟨rfl, hZ, hh⟩ := hP
  have hx := Bd.exec
  have hby := Bd.bytes
  have hml : c.maxLocals = 1 := hml0
  have hown : s.vm.findClass "com/example/wee_forge/weeforge/model/ProjectFilter" = some m.cls := findClass_of_methodNamed Bd.named
  have hnm := (name_of_methodNamed Bd.named Bd.method).1
  have X0 : Stand p l e ({ frames := 0, cells := 0, slots := 0, locals := 0 } : Room) s m #[(.ref a1)] below meth c s₁ [] 0 0 := Stand.of_body Bd
  have e0 : s₁.heap = h0 := by rw [← hh, Bd.state]; rfl
  have N0 := Fr.nil n0
  have pre0 : ∀ tt, Steps p.tables e below (s₁.setTop (mkF m 0 #[.val (.ref a1)] [])) tt → Steps p.tables e below (s₁.setTop (entryFrame m #[(.ref a1)] 1)) tt := fun tt kt => castTop (ef_rmg_starredOnly m a1) kt
  obtain ⟨T1, X1, e1, st1⟩ := getF X0 hx hZ hown (host := "") (Or.inl (hw _ (List.mem_of_getElem? (i := 88) rfl))) Via.refl e0 F_g (g := (mkF m 1 #[.val (.ref a1)] [(.ref a1)])) rfl rfl (hb hby d10_1)
  have pre2 : ∀ tt, Steps p.tables e below (T1.setTop (mkF m 4 #[.val (.ref a1)] [(.int r)])) tt → Steps p.tables e below (s₁.setTop (entryFrame m #[(.ref a1)] 1)) tt := by
    intro tt kt
    refine pre0 tt ?_
    show Steps p.tables e below (s₁.setTop (mkF m 0 #[.val (.ref a1)] [])) _
    refine XS.aloadN X0.here hx rfl (hb hby d10_0) rfl rfl ?_
    show Steps p.tables e below (s₁.setTop (mkF m 1 #[.val (.ref a1)] [(.ref a1)])) _
    refine st1 _ ?_
    exact kt
  obtain ⟨fs, hr, hrun, hended, hW, hsame⟩ := X1.leave (v := some (.int r)) (fun h => by rw [Bd.returns] at h; cases h)
  refine ⟨_, _, pre2 _ ?_, hrun, hended, _, _, rfl, ?_, ⟨_, rfl⟩, hW, hsame.mono (by decide) (by decide)⟩
  · show Steps p.tables e below (T1.setTop (mkF m 4 #[.val (.ref a1)] [(.int r)])) _
    exact retOut X1 hx Bd.returns (own_retb _ hc1) (Or.inl ⟨rfl, by simp, _, rfl⟩) (hb hby d10_4) hr
  · show QI Z r h0 n0 _ T1.heap _
    rw [e1]
    exact ⟨rfl, N0, rfl⟩
theorem d12_0 : decode prog_25_method_7_code 0 = .ok (.aload_n 0, 1) := by decide +kernel
theorem d12_1 : decode prog_25_method_7_code 1 = .ok (.iload_n 1, 1) := by decide +kernel
theorem d12_2 : decode prog_25_method_7_code 2 = .ok (.putfield 100, 3) := by decide +kernel
theorem d12_5 : decode prog_25_method_7_code 5 = .ok (.aload_n 0, 1) := by decide +kernel
theorem d12_6 : decode prog_25_method_7_code 6 = .ok (.areturn, 1) := by decide +kernel
theorem pn_rm_star : plainName "com/example/wee_forge/weeforge/model/ProjectFilter" = true := by first | (simp [plainName, overriddenIn]; done) | decide +kernel
theorem ef_rm_star (m : MethodId) (a1 : Addr) : entryFrame m #[(.ref a1), (.int (1 : Int32))] 2 = mkF m 0 #[.val (.ref a1), .val (.int (1 : Int32))] [] := by first | (simp [entryFrame, mkF, argsToLocals, Value.category]; done) | rfl
set_option maxRecDepth 65536 in
set_option maxHeartbeats 40000000 in
theorem rm_star (l : Launch) (Z : State) (a0 : Array Value) (hw : ∀ d ∈ tables_1, d.before a0 Z = true) (ws : List Jvm.Cond) (a1 x1 x2 : Addr) (x3 : Int32) (h0 : Heap) (n0 : Nat) (Z0 : n0 ≤ h0.size) (E_a1 : Exa Z h0 a1 "com/example/wee_forge/weeforge/model/ProjectFilter") (F_s : Fld Z h0 a1 "com/example/wee_forge/weeforge/model/ProjectFilter" "sort" "Lcom/example/wee_forge/weeforge/model/SortDirection;" (.ref x1)) (F_o : Fld Z h0 a1 "com/example/wee_forge/weeforge/model/ProjectFilter" "orderBy" "Lcom/example/wee_forge/weeforge/model/ProjectOrder;" (.ref x2)) (F_b : Fld Z h0 a1 "com/example/wee_forge/weeforge/model/ProjectFilter" "starredOnly" "Z" (.int x3)) (g_a1 : n0 ≤ a1) :
    MetFree l (⟨"com/example/wee_forge/weeforge/model/ProjectFilter", "starredOnly", "(Z)Lcom/example/wee_forge/weeforge/model/ProjectFilter;"⟩ : MethodName) (head1 (Jvm.Cond.code (⟨"com/example/wee_forge/weeforge/model/ProjectFilter", "starredOnly", "(Z)Lcom/example/wee_forge/weeforge/model/ProjectFilter;"⟩ : MethodName) prog_25_method_7_code 2 (some (.object "com/example/wee_forge/weeforge/model/ProjectFilter")) :: ws) ({ frames := 0, cells := 0, slots := 0, locals := 0 } : Room)) (fun a U => a = #[(.ref a1), (.int (1 : Int32))] ∧ Z.Warmed39 U.vm ∧ U.heap = h0) (fun _ _ _ _ _ => True) (fun _ U o U' => ∃ v L, o = .returned v ∧ QF Z a1 x1 x2 (1 : Int32) h0 n0 v U'.heap L ∧ FrameEnd U o U' L ({ frames := 0, cells := 0, slots := 0, locals := 0 } : Room).cells ({ frames := 0, cells := 0, slots := 0, locals := 0 } : Room).slots) := by
  refine MetFree.of_bodySF (plainFor_of_name pn_rm_star) hisR ?_
  intro p e s m args below meth c s₁ Bd hml0 hP hK
  obtain ⟨rfl, hZ, hh⟩ := hP
  have hx := Bd.exec
  have hby := Bd.bytes
  have hml : c.maxLocals = 2 := hml0
  have hown : s.vm.findClass "com/example/wee_forge/weeforge/model/ProjectFilter" = some m.cls := findClass_of_methodNamed Bd.named
  have hnm := (name_of_methodNamed Bd.named Bd.method).1
  have X0 : Stand p l e ({ frames := 0, cells := 0, slots := 0, locals := 0 } : Room) s m #[(.ref a1), (.int (1 : Int32))] below meth c s₁ [] 0 0 := Stand.of_body Bd
  have e0 : s₁.heap = h0 := by rw [← hh, Bd.state]; rfl
  have N0 := Fr.nil n0
  have pre0 : ∀ tt, Steps p.tables e below (s₁.setTop (mkF m 0 #[.val (.ref a1), .val (.int (1 : Int32))] [])) tt → Steps p.tables e below (s₁.setTop (entryFrame m #[(.ref a1), (.int (1 : Int32))] 2)) tt := fun tt kt => castTop (ef_rm_star m a1) kt
  obtain ⟨T1, h1, X1, e1, W1, st1⟩ := putFN X0 hx hZ hown (hw _ (List.mem_of_getElem? (i := 88) rfl)) Via.refl e0 F_b E_a1 (Or.inl (hw _ (List.mem_of_getElem? (i := 89) rfl))) (hw _ (List.mem_of_getElem? (i := 11) rfl)) (ty := .boolean) (v' := (.int (1 : Int32))) (by decide) rfl rfl (g := (mkF m 2 #[.val (.ref a1), .val (.int (1 : Int32))] [(.int (1 : Int32)), (.ref a1)])) rfl rfl (hb hby d12_2)
  have Fw1 := Fld.same W1 F_b
  have N1 := Fr.snoc X1 N0 g_a1
  have K1 : Keep h0 h1 [a1] := ((Keep.refl h0 [a1])).wr W1 (Or.inl (List.mem_of_getElem? (i := 0) rfl))
  have pre2 : ∀ tt, Steps p.tables e below (T1.setTop (mkF m 6 #[.val (.ref a1), .val (.int (1 : Int32))] [(.ref a1)])) tt → Steps p.tables e below (s₁.setTop (entryFrame m #[(.ref a1), (.int (1 : Int32))] 2)) tt := by
    intro tt kt
    refine pre0 tt ?_
    show Steps p.tables e below (s₁.setTop (mkF m 0 #[.val (.ref a1), .val (.int (1 : Int32))] [])) _
    refine XS.aloadN X0.here hx rfl (hb hby d12_0) rfl rfl ?_
    show Steps p.tables e below (s₁.setTop (mkF m 1 #[.val (.ref a1), .val (.int (1 : Int32))] [(.ref a1)])) _
    refine XS.iloadN X0.here hx rfl (hb hby d12_1) rfl ?_
    show Steps p.tables e below (s₁.setTop (mkF m 2 #[.val (.ref a1), .val (.int (1 : Int32))] [(.int (1 : Int32)), (.ref a1)])) _
    refine st1 _ ?_
    show Steps p.tables e below (T1.setTop (mkF m 5 #[.val (.ref a1), .val (.int (1 : Int32))] [])) _
    refine XS.aloadN X1.here hx rfl (hb hby d12_5) rfl rfl ?_
    exact kt
  obtain ⟨fs, hr, hrun, hended, hW, hsame⟩ := X1.leave (v := some (.ref a1)) (fun h => by rw [Bd.returns] at h; cases h)
  refine ⟨_, _, pre2 _ ?_, hrun, hended, _, _, rfl, ?_, ⟨_, rfl⟩, hW, hsame.mono (by decide) (by decide)⟩
  · show Steps p.tables e below (T1.setTop (mkF m 6 #[.val (.ref a1), .val (.int (1 : Int32))] [(.ref a1)])) _
    jvm_step X1.here [X1.here.top, hx, (hb hby d12_6), X1.method', Bd.returns, Value.isRef, FieldType.isReference]
    first | (intro acts; rw [hr _ acts rfl rfl rfl]) | rw [hr _ _ rfl rfl rfl]
    exact Steps.refl _
  · show QF Z a1 x1 x2 (1 : Int32) h0 n0 _ T1.heap _
    rw [e1]
    exact ⟨rfl, N1, K1, (Exa.wr W1 E_a1), (Fld.other W1 F_s (Or.inr (slot_ne (Or.inl (hw _ (List.mem_of_getElem? (i := 52) rfl))) (Or.inl (hw _ (List.mem_of_getElem? (i := 89) rfl))) (by decide) (t := (.object "com/example/wee_forge/weeforge/model/SortDirection")) (t' := .boolean) (by decide) (by decide)))), (Fld.other W1 F_o (Or.inr (slot_ne (Or.inl (hw _ (List.mem_of_getElem? (i := 47) rfl))) (Or.inl (hw _ (List.mem_of_getElem? (i := 89) rfl))) (by decide) (t := (.object "com/example/wee_forge/weeforge/model/ProjectOrder")) (t' := .boolean) (by decide) (by decide)))), Fw1⟩
theorem d1_0 : decode method_2_code 0 = .ok (.iload_n 0, 1) := by decide +kernel
theorem d1_1 : decode method_2_code 1 = .ok (.ifCond .ne 7, 3) := by decide +kernel
theorem d1_4 : decode method_2_code 4 = .ok (.getstatic 7, 3) := by decide +kernel
theorem d1_7 : decode method_2_code 7 = .ok (.areturn, 1) := by decide +kernel
theorem d1_8 : decode method_2_code 8 = .ok (.iload_n 0, 1) := by decide +kernel
theorem d1_9 : decode method_2_code 9 = .ok (.iconst 1, 1) := by decide +kernel
theorem d1_10 : decode method_2_code 10 = .ok (.if_icmp .ne 7, 3) := by decide +kernel
theorem d1_13 : decode method_2_code 13 = .ok (.getstatic 13, 3) := by decide +kernel
theorem d1_16 : decode method_2_code 16 = .ok (.areturn, 1) := by decide +kernel
theorem d1_17 : decode method_2_code 17 = .ok (.iload_n 0, 1) := by decide +kernel
theorem d1_18 : decode method_2_code 18 = .ok (.iconst 2, 1) := by decide +kernel
theorem d1_19 : decode method_2_code 19 = .ok (.if_icmp .ne 7, 3) := by decide +kernel
theorem d1_22 : decode method_2_code 22 = .ok (.getstatic 16, 3) := by decide +kernel
theorem d1_25 : decode method_2_code 25 = .ok (.areturn, 1) := by decide +kernel
theorem d1_26 : decode method_2_code 26 = .ok (.iload_n 0, 1) := by decide +kernel
theorem d1_27 : decode method_2_code 27 = .ok (.iconst 3, 1) := by decide +kernel
theorem d1_28 : decode method_2_code 28 = .ok (.if_icmp .ne 7, 3) := by decide +kernel
theorem d1_31 : decode method_2_code 31 = .ok (.getstatic 19, 3) := by decide +kernel
theorem d1_34 : decode method_2_code 34 = .ok (.areturn, 1) := by decide +kernel
theorem d1_35 : decode method_2_code 35 = .ok (.iload_n 0, 1) := by decide +kernel
theorem d1_36 : decode method_2_code 36 = .ok (.iconst 4, 1) := by decide +kernel
theorem d1_37 : decode method_2_code 37 = .ok (.if_icmp .ne 7, 3) := by decide +kernel
theorem d1_40 : decode method_2_code 40 = .ok (.getstatic 22, 3) := by decide +kernel
theorem d1_43 : decode method_2_code 43 = .ok (.areturn, 1) := by decide +kernel
theorem d1_44 : decode method_2_code 44 = .ok (.getstatic 25, 3) := by decide +kernel
theorem d1_47 : decode method_2_code 47 = .ok (.areturn, 1) := by decide +kernel
theorem pn_rmO : plainName "com/example/wee_forge/weeforge/model/ProjectFilterOrderByPinLaw" = true := by first | (simp [plainName, overriddenIn]; done) | decide +kernel
theorem ef_rmO (m : MethodId) (p1 : Int32) : entryFrame m #[(.int p1)] 1 = mkF m 0 #[.val (.int p1)] [] := by first | (simp [entryFrame, mkF, argsToLocals, Value.category]; done) | rfl
set_option maxRecDepth 65536 in
set_option maxHeartbeats 40000000 in
theorem rmO (l : Launch) (Z : State) (a0 : Array Value) (hw : ∀ d ∈ tables_1, d.before a0 Z = true) (ws : List Jvm.Cond) (p1 : Int32) (w_ID w_NAME w_PATH w_CREATED_AT w_UPDATED_AT w_LAST_ACTIVITY_AT r : Addr) (h0 : Heap) (n0 : Nat) (Z0 : n0 ≤ h0.size) (S_ID : Sta Z h0 "com/example/wee_forge/weeforge/model/ProjectOrder" "ID" "Lcom/example/wee_forge/weeforge/model/ProjectOrder;" (.ref w_ID)) (S_NAME : Sta Z h0 "com/example/wee_forge/weeforge/model/ProjectOrder" "NAME" "Lcom/example/wee_forge/weeforge/model/ProjectOrder;" (.ref w_NAME)) (S_PATH : Sta Z h0 "com/example/wee_forge/weeforge/model/ProjectOrder" "PATH" "Lcom/example/wee_forge/weeforge/model/ProjectOrder;" (.ref w_PATH)) (S_CREATED_AT : Sta Z h0 "com/example/wee_forge/weeforge/model/ProjectOrder" "CREATED_AT" "Lcom/example/wee_forge/weeforge/model/ProjectOrder;" (.ref w_CREATED_AT)) (S_UPDATED_AT : Sta Z h0 "com/example/wee_forge/weeforge/model/ProjectOrder" "UPDATED_AT" "Lcom/example/wee_forge/weeforge/model/ProjectOrder;" (.ref w_UPDATED_AT)) (S_LAST_ACTIVITY_AT : Sta Z h0 "com/example/wee_forge/weeforge/model/ProjectOrder" "LAST_ACTIVITY_AT" "Lcom/example/wee_forge/weeforge/model/ProjectOrder;" (.ref w_LAST_ACTIVITY_AT)) (hr0 : r = own_pick p1 w_ID w_NAME w_PATH w_CREATED_AT w_UPDATED_AT w_LAST_ACTIVITY_AT) :
    MetFree l (⟨"com/example/wee_forge/weeforge/model/ProjectFilterOrderByPinLaw", "pick", "(I)Lcom/example/wee_forge/weeforge/model/ProjectOrder;"⟩ : MethodName) (head1 (Jvm.Cond.code (⟨"com/example/wee_forge/weeforge/model/ProjectFilterOrderByPinLaw", "pick", "(I)Lcom/example/wee_forge/weeforge/model/ProjectOrder;"⟩ : MethodName) method_2_code 1 (some (.object "com/example/wee_forge/weeforge/model/ProjectOrder")) :: ws) ({ frames := 0, cells := 0, slots := 0, locals := 0 } : Room)) (fun a U => a = #[(.int p1)] ∧ Z.Warmed39 U.vm ∧ U.heap = h0) (fun _ _ _ _ _ => True) (fun _ U o U' => ∃ v L, o = .returned v ∧ QR Z r h0 n0 v U'.heap L ∧ FrameEnd U o U' L ({ frames := 0, cells := 0, slots := 0, locals := 0 } : Room).cells ({ frames := 0, cells := 0, slots := 0, locals := 0 } : Room).slots) := by
  refine MetFree.of_bodySF (plainFor_of_name pn_rmO) hisR ?_
  intro p e s m args below meth c s₁ Bd hml0 hP hK
  obtain ⟨rfl, hZ, hh⟩ := hP
  have hx := Bd.exec
  have hby := Bd.bytes
  have hml : c.maxLocals = 1 := hml0
  have hown : s.vm.findClass "com/example/wee_forge/weeforge/model/ProjectFilterOrderByPinLaw" = some m.cls := findClass_of_methodNamed Bd.named
  have hnm := (name_of_methodNamed Bd.named Bd.method).1
  have X0 : Stand p l e ({ frames := 0, cells := 0, slots := 0, locals := 0 } : Room) s m #[(.int p1)] below meth c s₁ [] 0 0 := Stand.of_body Bd
  have e0 : s₁.heap = h0 := by rw [← hh, Bd.state]; rfl
  have N0 := Fr.nil n0
  have pre0 : ∀ tt, Steps p.tables e below (s₁.setTop (mkF m 0 #[.val (.int p1)] [])) tt → Steps p.tables e below (s₁.setTop (entryFrame m #[(.int p1)] 1)) tt := fun tt kt => castTop (ef_rmO m p1) kt
  have pre1 : ∀ tt, Steps p.tables e below (s₁.setTop (mkF m 1 #[.val (.int p1)] [(.int p1)])) tt → Steps p.tables e below (s₁.setTop (entryFrame m #[(.int p1)] 1)) tt := by
    intro tt kt
    refine pre0 tt ?_
    show Steps p.tables e below (s₁.setTop (mkF m 0 #[.val (.int p1)] [])) _
    refine XS.iloadN X0.here hx rfl (hb hby d1_0) rfl ?_
    exact kt
  by_cases c1_2 : p1 = (0 : Int32)
  · obtain ⟨T3, X3, e3, st3⟩ := getS2 X0 hx hZ hown (host := "") (Or.inl (hw _ (List.mem_of_getElem? (i := 5) rfl))) Via.refl e0 S_ID (g := (mkF m 4 #[.val (.int p1)] [])) rfl (hb hby d1_4)
    have pre4 : ∀ tt, Steps p.tables e below (T3.setTop (mkF m 7 #[.val (.int p1)] [(.ref w_ID)])) tt → Steps p.tables e below (s₁.setTop (entryFrame m #[(.int p1)] 1)) tt := by
      intro tt kt
      refine pre1 tt ?_
      show Steps p.tables e below (s₁.setTop (mkF m 1 #[.val (.int p1)] [(.int p1)])) _
      refine XS.ifNo X0.here hx rfl (hb hby d1_1) rfl ((if0 _ _).trans (teq c1_2).2) ?_
      show Steps p.tables e below (s₁.setTop (mkF m 4 #[.val (.int p1)] [])) _
      refine st3 _ ?_
      exact kt
    obtain ⟨fs, hr, hrun, hended, hW, hsame⟩ := X3.leave (v := some (.ref w_ID)) (fun h => by rw [Bd.returns] at h; cases h)
    refine ⟨_, _, pre4 _ ?_, hrun, hended, _, _, rfl, ?_, ⟨_, rfl⟩, hW, hsame.mono (by decide) (by decide)⟩
    · show Steps p.tables e below (T3.setTop (mkF m 7 #[.val (.int p1)] [(.ref w_ID)])) _
      jvm_step X3.here [X3.here.top, hx, (hb hby d1_7), X3.method', Bd.returns, Value.isRef, FieldType.isReference]
      first | (intro acts; rw [hr _ acts rfl rfl rfl]) | rw [hr _ _ rfl rfl rfl]
      exact Steps.refl _
    · show QR Z r h0 n0 _ T3.heap _
      rw [e3]
      exact ⟨by rw [hr0]; simp [own_pick, c1_2], N0, rfl⟩
  · have pre5 : ∀ tt, Steps p.tables e below (s₁.setTop (mkF m 10 #[.val (.int p1)] [(.int (1 : Int32)), (.int p1)])) tt → Steps p.tables e below (s₁.setTop (entryFrame m #[(.int p1)] 1)) tt := by
      intro tt kt
      refine pre1 tt ?_
      show Steps p.tables e below (s₁.setTop (mkF m 1 #[.val (.int p1)] [(.int p1)])) _
      refine XS.ifYes X0.here hx rfl (pc0 := 1) (pc' := 8) rfl (hb hby d1_1) rfl ((if0 _ _).trans (feq c1_2).2) (by decide) (by decide) ?_
      show Steps p.tables e below (s₁.setTop (mkF m 8 #[.val (.int p1)] [])) _
      refine XS.iloadN X0.here hx rfl (hb hby d1_8) rfl ?_
      show Steps p.tables e below (s₁.setTop (mkF m 9 #[.val (.int p1)] [(.int p1)])) _
      refine XS.iconst X0.here hx rfl (hb hby d1_9) ?_
      exact kt
    by_cases c10_6 : p1 = (1 : Int32)
    · obtain ⟨T7, X7, e7, st7⟩ := getS2 X0 hx hZ hown (host := "") (Or.inl (hw _ (List.mem_of_getElem? (i := 90) rfl))) Via.refl e0 S_NAME (g := (mkF m 13 #[.val (.int p1)] [])) rfl (hb hby d1_13)
      have pre8 : ∀ tt, Steps p.tables e below (T7.setTop (mkF m 16 #[.val (.int p1)] [(.ref w_NAME)])) tt → Steps p.tables e below (s₁.setTop (entryFrame m #[(.int p1)] 1)) tt := by
        intro tt kt
        refine pre5 tt ?_
        show Steps p.tables e below (s₁.setTop (mkF m 10 #[.val (.int p1)] [(.int (1 : Int32)), (.int p1)])) _
        refine XS.icmpNo X0.here hx rfl (hb hby d1_10) rfl (teq c10_6).2 ?_
        show Steps p.tables e below (s₁.setTop (mkF m 13 #[.val (.int p1)] [])) _
        refine st7 _ ?_
        exact kt
      obtain ⟨fs, hr, hrun, hended, hW, hsame⟩ := X7.leave (v := some (.ref w_NAME)) (fun h => by rw [Bd.returns] at h; cases h)
      refine ⟨_, _, pre8 _ ?_, hrun, hended, _, _, rfl, ?_, ⟨_, rfl⟩, hW, hsame.mono (by decide) (by decide)⟩
      · show Steps p.tables e below (T7.setTop (mkF m 16 #[.val (.int p1)] [(.ref w_NAME)])) _
        jvm_step X7.here [X7.here.top, hx, (hb hby d1_16), X7.method', Bd.returns, Value.isRef, FieldType.isReference]
        first | (intro acts; rw [hr _ acts rfl rfl rfl]) | rw [hr _ _ rfl rfl rfl]
        exact Steps.refl _
      · show QR Z r h0 n0 _ T7.heap _
        rw [e7]
        exact ⟨by rw [hr0]; simp [own_pick, c1_2, c10_6], N0, rfl⟩
    · have pre9 : ∀ tt, Steps p.tables e below (s₁.setTop (mkF m 19 #[.val (.int p1)] [(.int (2 : Int32)), (.int p1)])) tt → Steps p.tables e below (s₁.setTop (entryFrame m #[(.int p1)] 1)) tt := by
        intro tt kt
        refine pre5 tt ?_
        show Steps p.tables e below (s₁.setTop (mkF m 10 #[.val (.int p1)] [(.int (1 : Int32)), (.int p1)])) _
        refine XS.icmpYes X0.here hx rfl (pc0 := 10) (pc' := 17) rfl (hb hby d1_10) rfl (feq c10_6).2 (by decide) (by decide) ?_
        show Steps p.tables e below (s₁.setTop (mkF m 17 #[.val (.int p1)] [])) _
        refine XS.iloadN X0.here hx rfl (hb hby d1_17) rfl ?_
        show Steps p.tables e below (s₁.setTop (mkF m 18 #[.val (.int p1)] [(.int p1)])) _
        refine XS.iconst X0.here hx rfl (hb hby d1_18) ?_
        exact kt
      by_cases c19_10 : p1 = (2 : Int32)
      · obtain ⟨T11, X11, e11, st11⟩ := getS2 X0 hx hZ hown (host := "") (Or.inl (hw _ (List.mem_of_getElem? (i := 102) rfl))) Via.refl e0 S_PATH (g := (mkF m 22 #[.val (.int p1)] [])) rfl (hb hby d1_22)
        have pre12 : ∀ tt, Steps p.tables e below (T11.setTop (mkF m 25 #[.val (.int p1)] [(.ref w_PATH)])) tt → Steps p.tables e below (s₁.setTop (entryFrame m #[(.int p1)] 1)) tt := by
          intro tt kt
          refine pre9 tt ?_
          show Steps p.tables e below (s₁.setTop (mkF m 19 #[.val (.int p1)] [(.int (2 : Int32)), (.int p1)])) _
          refine XS.icmpNo X0.here hx rfl (hb hby d1_19) rfl (teq c19_10).2 ?_
          show Steps p.tables e below (s₁.setTop (mkF m 22 #[.val (.int p1)] [])) _
          refine st11 _ ?_
          exact kt
        obtain ⟨fs, hr, hrun, hended, hW, hsame⟩ := X11.leave (v := some (.ref w_PATH)) (fun h => by rw [Bd.returns] at h; cases h)
        refine ⟨_, _, pre12 _ ?_, hrun, hended, _, _, rfl, ?_, ⟨_, rfl⟩, hW, hsame.mono (by decide) (by decide)⟩
        · show Steps p.tables e below (T11.setTop (mkF m 25 #[.val (.int p1)] [(.ref w_PATH)])) _
          jvm_step X11.here [X11.here.top, hx, (hb hby d1_25), X11.method', Bd.returns, Value.isRef, FieldType.isReference]
          first | (intro acts; rw [hr _ acts rfl rfl rfl]) | rw [hr _ _ rfl rfl rfl]
          exact Steps.refl _
        · show QR Z r h0 n0 _ T11.heap _
          rw [e11]
          exact ⟨by rw [hr0]; simp [own_pick, c1_2, c10_6, c19_10], N0, rfl⟩
      · have pre13 : ∀ tt, Steps p.tables e below (s₁.setTop (mkF m 28 #[.val (.int p1)] [(.int (3 : Int32)), (.int p1)])) tt → Steps p.tables e below (s₁.setTop (entryFrame m #[(.int p1)] 1)) tt := by
          intro tt kt
          refine pre9 tt ?_
          show Steps p.tables e below (s₁.setTop (mkF m 19 #[.val (.int p1)] [(.int (2 : Int32)), (.int p1)])) _
          refine XS.icmpYes X0.here hx rfl (pc0 := 19) (pc' := 26) rfl (hb hby d1_19) rfl (feq c19_10).2 (by decide) (by decide) ?_
          show Steps p.tables e below (s₁.setTop (mkF m 26 #[.val (.int p1)] [])) _
          refine XS.iloadN X0.here hx rfl (hb hby d1_26) rfl ?_
          show Steps p.tables e below (s₁.setTop (mkF m 27 #[.val (.int p1)] [(.int p1)])) _
          refine XS.iconst X0.here hx rfl (hb hby d1_27) ?_
          exact kt
        by_cases c28_14 : p1 = (3 : Int32)
        · obtain ⟨T15, X15, e15, st15⟩ := getS2 X0 hx hZ hown (host := "") (Or.inl (hw _ (List.mem_of_getElem? (i := 8) rfl))) Via.refl e0 S_CREATED_AT (g := (mkF m 31 #[.val (.int p1)] [])) rfl (hb hby d1_31)
          have pre16 : ∀ tt, Steps p.tables e below (T15.setTop (mkF m 34 #[.val (.int p1)] [(.ref w_CREATED_AT)])) tt → Steps p.tables e below (s₁.setTop (entryFrame m #[(.int p1)] 1)) tt := by
            intro tt kt
            refine pre13 tt ?_
            show Steps p.tables e below (s₁.setTop (mkF m 28 #[.val (.int p1)] [(.int (3 : Int32)), (.int p1)])) _
            refine XS.icmpNo X0.here hx rfl (hb hby d1_28) rfl (teq c28_14).2 ?_
            show Steps p.tables e below (s₁.setTop (mkF m 31 #[.val (.int p1)] [])) _
            refine st15 _ ?_
            exact kt
          obtain ⟨fs, hr, hrun, hended, hW, hsame⟩ := X15.leave (v := some (.ref w_CREATED_AT)) (fun h => by rw [Bd.returns] at h; cases h)
          refine ⟨_, _, pre16 _ ?_, hrun, hended, _, _, rfl, ?_, ⟨_, rfl⟩, hW, hsame.mono (by decide) (by decide)⟩
          · show Steps p.tables e below (T15.setTop (mkF m 34 #[.val (.int p1)] [(.ref w_CREATED_AT)])) _
            jvm_step X15.here [X15.here.top, hx, (hb hby d1_34), X15.method', Bd.returns, Value.isRef, FieldType.isReference]
            first | (intro acts; rw [hr _ acts rfl rfl rfl]) | rw [hr _ _ rfl rfl rfl]
            exact Steps.refl _
          · show QR Z r h0 n0 _ T15.heap _
            rw [e15]
            exact ⟨by rw [hr0]; simp [own_pick, c1_2, c10_6, c19_10, c28_14], N0, rfl⟩
        · have pre17 : ∀ tt, Steps p.tables e below (s₁.setTop (mkF m 37 #[.val (.int p1)] [(.int (4 : Int32)), (.int p1)])) tt → Steps p.tables e below (s₁.setTop (entryFrame m #[(.int p1)] 1)) tt := by
            intro tt kt
            refine pre13 tt ?_
            show Steps p.tables e below (s₁.setTop (mkF m 28 #[.val (.int p1)] [(.int (3 : Int32)), (.int p1)])) _
            refine XS.icmpYes X0.here hx rfl (pc0 := 28) (pc' := 35) rfl (hb hby d1_28) rfl (feq c28_14).2 (by decide) (by decide) ?_
            show Steps p.tables e below (s₁.setTop (mkF m 35 #[.val (.int p1)] [])) _
            refine XS.iloadN X0.here hx rfl (hb hby d1_35) rfl ?_
            show Steps p.tables e below (s₁.setTop (mkF m 36 #[.val (.int p1)] [(.int p1)])) _
            refine XS.iconst X0.here hx rfl (hb hby d1_36) ?_
            exact kt
          by_cases c37_18 : p1 = (4 : Int32)
          · obtain ⟨T19, X19, e19, st19⟩ := getS2 X0 hx hZ hown (host := "") (Or.inl (hw _ (List.mem_of_getElem? (i := 111) rfl))) Via.refl e0 S_UPDATED_AT (g := (mkF m 40 #[.val (.int p1)] [])) rfl (hb hby d1_40)
            have pre20 : ∀ tt, Steps p.tables e below (T19.setTop (mkF m 43 #[.val (.int p1)] [(.ref w_UPDATED_AT)])) tt → Steps p.tables e below (s₁.setTop (entryFrame m #[(.int p1)] 1)) tt := by
              intro tt kt
              refine pre17 tt ?_
              show Steps p.tables e below (s₁.setTop (mkF m 37 #[.val (.int p1)] [(.int (4 : Int32)), (.int p1)])) _
              refine XS.icmpNo X0.here hx rfl (hb hby d1_37) rfl (teq c37_18).2 ?_
              show Steps p.tables e below (s₁.setTop (mkF m 40 #[.val (.int p1)] [])) _
              refine st19 _ ?_
              exact kt
            obtain ⟨fs, hr, hrun, hended, hW, hsame⟩ := X19.leave (v := some (.ref w_UPDATED_AT)) (fun h => by rw [Bd.returns] at h; cases h)
            refine ⟨_, _, pre20 _ ?_, hrun, hended, _, _, rfl, ?_, ⟨_, rfl⟩, hW, hsame.mono (by decide) (by decide)⟩
            · show Steps p.tables e below (T19.setTop (mkF m 43 #[.val (.int p1)] [(.ref w_UPDATED_AT)])) _
              jvm_step X19.here [X19.here.top, hx, (hb hby d1_43), X19.method', Bd.returns, Value.isRef, FieldType.isReference]
              first | (intro acts; rw [hr _ acts rfl rfl rfl]) | rw [hr _ _ rfl rfl rfl]
              exact Steps.refl _
            · show QR Z r h0 n0 _ T19.heap _
              rw [e19]
              exact ⟨by rw [hr0]; simp [own_pick, c1_2, c10_6, c19_10, c28_14, c37_18], N0, rfl⟩
          · obtain ⟨T21, X21, e21, st21⟩ := getS2 X0 hx hZ hown (host := "") (Or.inl (hw _ (List.mem_of_getElem? (i := 109) rfl))) Via.refl e0 S_LAST_ACTIVITY_AT (g := (mkF m 44 #[.val (.int p1)] [])) rfl (hb hby d1_44)
            have pre22 : ∀ tt, Steps p.tables e below (T21.setTop (mkF m 47 #[.val (.int p1)] [(.ref w_LAST_ACTIVITY_AT)])) tt → Steps p.tables e below (s₁.setTop (entryFrame m #[(.int p1)] 1)) tt := by
              intro tt kt
              refine pre17 tt ?_
              show Steps p.tables e below (s₁.setTop (mkF m 37 #[.val (.int p1)] [(.int (4 : Int32)), (.int p1)])) _
              refine XS.icmpYes X0.here hx rfl (pc0 := 37) (pc' := 44) rfl (hb hby d1_37) rfl (feq c37_18).2 (by decide) (by decide) ?_
              show Steps p.tables e below (s₁.setTop (mkF m 44 #[.val (.int p1)] [])) _
              refine st21 _ ?_
              exact kt
            obtain ⟨fs, hr, hrun, hended, hW, hsame⟩ := X21.leave (v := some (.ref w_LAST_ACTIVITY_AT)) (fun h => by rw [Bd.returns] at h; cases h)
            refine ⟨_, _, pre22 _ ?_, hrun, hended, _, _, rfl, ?_, ⟨_, rfl⟩, hW, hsame.mono (by decide) (by decide)⟩
            · show Steps p.tables e below (T21.setTop (mkF m 47 #[.val (.int p1)] [(.ref w_LAST_ACTIVITY_AT)])) _
              jvm_step X21.here [X21.here.top, hx, (hb hby d1_47), X21.method', Bd.returns, Value.isRef, FieldType.isReference]
              first | (intro acts; rw [hr _ acts rfl rfl rfl]) | rw [hr _ _ rfl rfl rfl]
              exact Steps.refl _
            · show QR Z r h0 n0 _ T21.heap _
              rw [e21]
              exact ⟨by rw [hr0]; simp [own_pick, c1_2, c10_6, c19_10, c28_14, c37_18], N0, rfl⟩
def Q0 (Z : State) (h0 : Heap) (n0 : Nat) (v : Option Value) (h : Heap) (L : List Loc) : Prop := v = some (.int (1 : Int32)) ∧ Fr n0 L
theorem pn_rm0 : plainName "com/example/wee_forge/weeforge/model/ProjectFilterOrderByPinLaw" = true := by first | (simp [plainName, overriddenIn]; done) | decide +kernel
theorem pd_rm0_0 : parseMethodDescriptor "(I)Lcom/example/wee_forge/weeforge/model/ProjectOrder;" = some ⟨[.int], some (.object "com/example/wee_forge/weeforge/model/ProjectOrder")⟩ := by decide +kernel
theorem pd_rm0_1 : parseMethodDescriptor "()V" = some ⟨[], none⟩ := by decide +kernel
theorem pd_rm0_2 : parseMethodDescriptor "()Lcom/example/wee_forge/weeforge/model/ProjectOrder;" = some ⟨[], some (.object "com/example/wee_forge/weeforge/model/ProjectOrder")⟩ := by decide +kernel
theorem pd_rm0_3 : parseMethodDescriptor "(Lcom/example/wee_forge/weeforge/model/ProjectOrder;)Lcom/example/wee_forge/weeforge/model/ProjectFilter;" = some ⟨[(.object "com/example/wee_forge/weeforge/model/ProjectOrder")], some (.object "com/example/wee_forge/weeforge/model/ProjectFilter")⟩ := by decide +kernel
theorem pd_rm0_4 : parseMethodDescriptor "()Lcom/example/wee_forge/weeforge/model/SortDirection;" = some ⟨[], some (.object "com/example/wee_forge/weeforge/model/SortDirection")⟩ := by decide +kernel
theorem pd_rm0_5 : parseMethodDescriptor "()Z" = some ⟨[], some .boolean⟩ := by decide +kernel
theorem pd_rm0_6 : parseMethodDescriptor "(Z)Lcom/example/wee_forge/weeforge/model/ProjectFilter;" = some ⟨[.boolean], some (.object "com/example/wee_forge/weeforge/model/ProjectFilter")⟩ := by decide +kernel
theorem pd_rm0_7 : parseMethodDescriptor "(Lcom/example/wee_forge/weeforge/model/SortDirection;)Lcom/example/wee_forge/weeforge/model/ProjectFilter;" = some ⟨[(.object "com/example/wee_forge/weeforge/model/SortDirection")], some (.object "com/example/wee_forge/weeforge/model/ProjectFilter")⟩ := by decide +kernel
theorem ef_rm0 (m : MethodId) (p1 : Int32) (p2 : Int32) (p3 : Int32) : entryFrame m #[(.int p1), (.int p2), (.int p3)] maxLocals = mkF m 0 #[.val (.int p1), .val (.int p2), .val (.int p3), .unset, .unset, .unset, .unset, .unset, .unset, .unset] [] := by first | (simp [entryFrame, mkF, argsToLocals, Value.category, maxLocals]; done) | rfl
set_option maxRecDepth 65536 in
set_option maxHeartbeats 40000000 in
theorem rm0 (l : Launch) (Z : State) (a0 : Array Value) (hw : ∀ d ∈ tables_1, d.before a0 Z = true) (ws : List Jvm.Cond) (p1 p2 p3 : Int32) (w_ID w_NAME w_PATH w_CREATED_AT w_UPDATED_AT w_LAST_ACTIVITY_AT w_ASC w_DESC w_ANY wEL wOL : Addr) (h0 : Heap) (n0 : Nat) (Z0 : n0 ≤ h0.size) (S_ID : Sta Z h0 "com/example/wee_forge/weeforge/model/ProjectOrder" "ID" "Lcom/example/wee_forge/weeforge/model/ProjectOrder;" (.ref w_ID)) (S_NAME : Sta Z h0 "com/example/wee_forge/weeforge/model/ProjectOrder" "NAME" "Lcom/example/wee_forge/weeforge/model/ProjectOrder;" (.ref w_NAME)) (S_PATH : Sta Z h0 "com/example/wee_forge/weeforge/model/ProjectOrder" "PATH" "Lcom/example/wee_forge/weeforge/model/ProjectOrder;" (.ref w_PATH)) (S_CREATED_AT : Sta Z h0 "com/example/wee_forge/weeforge/model/ProjectOrder" "CREATED_AT" "Lcom/example/wee_forge/weeforge/model/ProjectOrder;" (.ref w_CREATED_AT)) (S_UPDATED_AT : Sta Z h0 "com/example/wee_forge/weeforge/model/ProjectOrder" "UPDATED_AT" "Lcom/example/wee_forge/weeforge/model/ProjectOrder;" (.ref w_UPDATED_AT)) (S_LAST_ACTIVITY_AT : Sta Z h0 "com/example/wee_forge/weeforge/model/ProjectOrder" "LAST_ACTIVITY_AT" "Lcom/example/wee_forge/weeforge/model/ProjectOrder;" (.ref w_LAST_ACTIVITY_AT)) (S_ASC : Sta Z h0 "com/example/wee_forge/weeforge/model/SortDirection" "ASC" "Lcom/example/wee_forge/weeforge/model/SortDirection;" (.ref w_ASC)) (S_DESC : Sta Z h0 "com/example/wee_forge/weeforge/model/SortDirection" "DESC" "Lcom/example/wee_forge/weeforge/model/SortDirection;" (.ref w_DESC)) (S_ANY : Sta Z h0 "com/example/wee_forge/weeforge/model/TimeRange" "ANY" "Lcom/example/wee_forge/weeforge/model/TimeRange;" (.ref w_ANY)) (E_ID : Exa Z h0 w_ID "com/example/wee_forge/weeforge/model/ProjectOrder") (E_NAME : Exa Z h0 w_NAME "com/example/wee_forge/weeforge/model/ProjectOrder") (E_PATH : Exa Z h0 w_PATH "com/example/wee_forge/weeforge/model/ProjectOrder") (E_CREATED_AT : Exa Z h0 w_CREATED_AT "com/example/wee_forge/weeforge/model/ProjectOrder") (E_UPDATED_AT : Exa Z h0 w_UPDATED_AT "com/example/wee_forge/weeforge/model/ProjectOrder") (E_LAST_ACTIVITY_AT : Exa Z h0 w_LAST_ACTIVITY_AT "com/example/wee_forge/weeforge/model/ProjectOrder") (E_ASC : Exa Z h0 w_ASC "com/example/wee_forge/weeforge/model/SortDirection") (E_DESC : Exa Z h0 w_DESC "com/example/wee_forge/weeforge/model/SortDirection") (E_ANY : Exa Z h0 w_ANY "com/example/wee_forge/weeforge/model/TimeRange") (S_EL : Sta Z h0 "java/util/ImmutableCollections" "EMPTY_LIST" "Ljava/util/ImmutableCollections$ListN;" (.ref wEL)) (S_OL : Sta Z h0 "java/util/OptionalLong" "EMPTY" "Ljava/util/OptionalLong;" (.ref wOL)) :
    MetFree l x (head1 (Jvm.Cond.code x code maxLocals ret :: ws) room_1) (fun a U => a = #[(.int p1), (.int p2), (.int p3)] ∧ Z.Warmed39 U.vm ∧ U.heap = h0) (fun _ _ _ _ _ => True) (fun _ U o U' => ∃ v L, o = .returned v ∧ Q0 Z h0 n0 v U'.heap L ∧ ReturnedEndW U o U' L room_1.cells room_1.slots) := by
  refine MetFree.of_bodySF (plainFor_of_name pn_rm0) hisR ?_
  intro p e s m args below meth c s₁ Bd hml0 hP hK
  obtain ⟨rfl, hZ, hh⟩ := hP
  have hx := Bd.exec
  have hby := Bd.bytes
  have hml : c.maxLocals = 10 := hml0
  have hown : s.vm.findClass "com/example/wee_forge/weeforge/model/ProjectFilterOrderByPinLaw" = some m.cls := findClass_of_methodNamed Bd.named
  have hnm := (name_of_methodNamed Bd.named Bd.method).1
  have X0 : Stand p l e room_1 (s.setVm s.vm) m #[(.int p1), (.int p2), (.int p3)] below meth c s₁ [] 0 0 := Stand.of_body Bd
  have hS : s.Since s.vm s.heap.size := (State.WarmedH.refl s).since _
  have hk : s.heap.size ≤ h0.size := by rw [hh]; exact Nat.le_refl _
  have hZ : Z.Warmed39 (s.setVm s.vm).vm := hZ
  have hown : (s.setVm s.vm).vm.findClass "com/example/wee_forge/weeforge/model/ProjectFilterOrderByPinLaw" = some m.cls := hown
  have wS := own_wS hw
  have e0 : s₁.heap = h0 := by rw [← hh, Bd.state]; rfl
  have N0 := Fr.nil n0
  have pre0 : ∀ tt, Steps p.tables e below (s₁.setTop (mkF m 0 #[.val (.int p1), .val (.int p2), .val (.int p3), .unset, .unset, .unset, .unset, .unset, .unset, .unset] [])) tt → Steps p.tables e below (s₁.setTop (entryFrame m #[(.int p1), (.int p2), (.int p3)] maxLocals)) tt := fun tt kt => castTop (ef_rm0 m p1 p2 p3) kt
  obtain ⟨kx, hkx⟩ : ∃ z : Int32, z = ((p1 &&& (2147483647 : Int32)) % (6 : Int32)) := ⟨_, rfl⟩
  have pre1 : ∀ tt, Steps p.tables e below (s₁.setTop (mkF m 7 #[.val (.int p1), .val (.int p2), .val (.int p3), .unset, .unset, .unset, .unset, .unset, .unset, .unset] [(.int kx)])) tt → Steps p.tables e below (s₁.setTop (entryFrame m #[(.int p1), (.int p2), (.int p3)] maxLocals)) tt := by
    intro tt kt
    refine pre0 tt ?_
    show Steps p.tables e below (s₁.setTop (mkF m 0 #[.val (.int p1), .val (.int p2), .val (.int p3), .unset, .unset, .unset, .unset, .unset, .unset, .unset] [])) _
    refine XS.iloadN X0.here hx rfl (hb hby at_0) rfl ?_
    show Steps p.tables e below (s₁.setTop (mkF m 1 #[.val (.int p1), .val (.int p2), .val (.int p3), .unset, .unset, .unset, .unset, .unset, .unset, .unset] [(.int p1)])) _
    refine X0.ldcInt hx hown (mvT hZ (hw _ (List.mem_of_getElem? (i := 0) rfl))) (g := (mkF m 1 #[.val (.int p1), .val (.int p2), .val (.int p3), .unset, .unset, .unset, .unset, .unset, .unset, .unset] [(.int p1)])) rfl (hb hby at_1) _ ?_
    show Steps p.tables e below (s₁.setTop (mkF m 3 #[.val (.int p1), .val (.int p2), .val (.int p3), .unset, .unset, .unset, .unset, .unset, .unset, .unset] [(.int (2147483647 : Int32)), (.int p1)])) _
    refine XS.iand X0.here hx rfl (hb hby at_3) rfl ?_
    show Steps p.tables e below (s₁.setTop (mkF m 4 #[.val (.int p1), .val (.int p2), .val (.int p3), .unset, .unset, .unset, .unset, .unset, .unset, .unset] [(.int (p1 &&& (2147483647 : Int32)))])) _
    refine XS.bipush X0.here hx rfl (hb hby at_4) ?_
    show Steps p.tables e below (s₁.setTop (mkF m 6 #[.val (.int p1), .val (.int p2), .val (.int p3), .unset, .unset, .unset, .unset, .unset, .unset, .unset] [(.int (6 : Int32)), (.int (p1 &&& (2147483647 : Int32)))])) _
    refine iremM (g := (mkF m 6 #[.val (.int p1), .val (.int p2), .val (.int p3), .unset, .unset, .unset, .unset, .unset, .unset, .unset] [(.int (6 : Int32)), (.int (p1 &&& (2147483647 : Int32)))])) X0 hx rfl (hb hby at_6) rfl (by decide : ¬ ((6 : Int32) = (0 : Int32))) ?_
    show Steps p.tables e below (s₁.setTop (mkF m 7 #[.val (.int p1), .val (.int p2), .val (.int p3), .unset, .unset, .unset, .unset, .unset, .unset, .unset] [(.int ((p1 &&& (2147483647 : Int32)) % (6 : Int32)))])) _
    rw [← hkx]
    exact kt
  obtain ⟨rkx, hrkx⟩ : ∃ z, z = own_pick kx w_ID w_NAME w_PATH w_CREATED_AT w_UPDATED_AT w_LAST_ACTIVITY_AT := ⟨_, rfl⟩
  have E_rkx := own_epick (i := kx) E_ID E_NAME E_PATH E_CREATED_AT E_UPDATED_AT E_LAST_ACTIVITY_AT
  rw [← hrkx] at E_rkx
  obtain ⟨_, _, ⟨T2, L2, k2, n2⟩, -, X2, ⟨Lc2, hQ2, l2, y2, z2⟩, st2⟩ := Jvm.LawKit.callS X0 hx (y := (⟨"com/example/wee_forge/weeforge/model/ProjectFilterOrderByPinLaw", "pick", "(I)Lcom/example/wee_forge/weeforge/model/ProjectOrder;"⟩ : MethodName)) hown (mvT hZ (hw _ (List.mem_of_getElem? (i := 1) rfl))) (mvT hZ (hw _ (List.mem_of_getElem? (i := 2) rfl))) (mvT hZ (hw _ (List.mem_of_getElem? (i := 3) rfl))) (mvT hZ (hw _ (List.mem_of_getElem? (i := 4) rfl))) (by decide) (backOf (W := 0) (rmO l Z a0 hw [] kx w_ID w_NAME w_PATH w_CREATED_AT w_UPDATED_AT w_LAST_ACTIVITY_AT rkx h0 n0 Z0 S_ID S_NAME S_PATH S_CREATED_AT S_UPDATED_AT S_LAST_ACTIVITY_AT hrkx) hZ (hw _ (List.mem_of_getElem? (i := 4) rfl)) (hw _ (List.mem_of_getElem? (i := 3) rfl)) (by decide) (by decide)) (g := (mkF m 7 #[.val (.int p1), .val (.int p2), .val (.int p3), .unset, .unset, .unset, .unset, .unset, .unset, .unset] [(.int kx)])) rfl (by rw [hml]; rfl) (argsL := [(.int kx)]) (rest := []) (lenOf pd_rm0_0 rfl) rfl (by show 2 * 0 + _ ≤ _; exact Nat.le_of_eq rfl) (hb hby at_7) (fun _ _ => ⟨rfl, e0, (by decide : 0 + 0 ≤ _), (by decide : 0 + 0 ≤ _)⟩)
  dsimp only [Pt.U, Pt.locs, Pt.cells, Pt.slots] at X2 l2 y2 z2 st2 hQ2
  subst l2 y2 z2
  obtain ⟨rfl, N2q, hE2⟩ := hQ2
  have N2 := Fr.app N0 N2q
  obtain ⟨ky, hky⟩ : ∃ z : Int32, z = ((p2 &&& (2147483647 : Int32)) % (6 : Int32)) := ⟨_, rfl⟩
  have pre3 : ∀ tt, Steps p.tables e below (T2.setTop (mkF m 18 #[.val (.int p1), .val (.int p2), .val (.int p3), .val (.ref rkx), .unset, .unset, .unset, .unset, .unset, .unset] [(.int ky)])) tt → Steps p.tables e below (s₁.setTop (entryFrame m #[(.int p1), (.int p2), (.int p3)] maxLocals)) tt := by
    intro tt kt
    refine pre1 tt ?_
    show Steps p.tables e below (s₁.setTop (mkF m 7 #[.val (.int p1), .val (.int p2), .val (.int p3), .unset, .unset, .unset, .unset, .unset, .unset, .unset] [(.int kx)])) _
    refine st2 _ ?_
    show Steps p.tables e below (T2.setTop (mkF m 10 #[.val (.int p1), .val (.int p2), .val (.int p3), .unset, .unset, .unset, .unset, .unset, .unset, .unset] [(.ref rkx)])) _
    refine XS.astoreN X2.here hx rfl (hb hby at_10) rfl rfl (l' := #[.val (.int p1), .val (.int p2), .val (.int p3), .val (.ref rkx), .unset, .unset, .unset, .unset, .unset, .unset]) rfl ?_
    show Steps p.tables e below (T2.setTop (mkF m 11 #[.val (.int p1), .val (.int p2), .val (.int p3), .val (.ref rkx), .unset, .unset, .unset, .unset, .unset, .unset] [])) _
    refine XS.iloadN X2.here hx rfl (hb hby at_11) rfl ?_
    show Steps p.tables e below (T2.setTop (mkF m 12 #[.val (.int p1), .val (.int p2), .val (.int p3), .val (.ref rkx), .unset, .unset, .unset, .unset, .unset, .unset] [(.int p2)])) _
    refine X2.ldcInt hx hown (mvT hZ (hw _ (List.mem_of_getElem? (i := 0) rfl))) (g := (mkF m 12 #[.val (.int p1), .val (.int p2), .val (.int p3), .val (.ref rkx), .unset, .unset, .unset, .unset, .unset, .unset] [(.int p2)])) rfl (hb hby at_12) _ ?_
    show Steps p.tables e below (T2.setTop (mkF m 14 #[.val (.int p1), .val (.int p2), .val (.int p3), .val (.ref rkx), .unset, .unset, .unset, .unset, .unset, .unset] [(.int (2147483647 : Int32)), (.int p2)])) _
    refine XS.iand X2.here hx rfl (hb hby at_14) rfl ?_
    show Steps p.tables e below (T2.setTop (mkF m 15 #[.val (.int p1), .val (.int p2), .val (.int p3), .val (.ref rkx), .unset, .unset, .unset, .unset, .unset, .unset] [(.int (p2 &&& (2147483647 : Int32)))])) _
    refine XS.bipush X2.here hx rfl (hb hby at_15) ?_
    show Steps p.tables e below (T2.setTop (mkF m 17 #[.val (.int p1), .val (.int p2), .val (.int p3), .val (.ref rkx), .unset, .unset, .unset, .unset, .unset, .unset] [(.int (6 : Int32)), (.int (p2 &&& (2147483647 : Int32)))])) _
    refine iremM (g := (mkF m 17 #[.val (.int p1), .val (.int p2), .val (.int p3), .val (.ref rkx), .unset, .unset, .unset, .unset, .unset, .unset] [(.int (6 : Int32)), (.int (p2 &&& (2147483647 : Int32)))])) X2 hx rfl (hb hby at_17) rfl (by decide : ¬ ((6 : Int32) = (0 : Int32))) ?_
    show Steps p.tables e below (T2.setTop (mkF m 18 #[.val (.int p1), .val (.int p2), .val (.int p3), .val (.ref rkx), .unset, .unset, .unset, .unset, .unset, .unset] [(.int ((p2 &&& (2147483647 : Int32)) % (6 : Int32)))])) _
    rw [← hky]
    exact kt
  obtain ⟨rky, hrky⟩ : ∃ z, z = own_pick ky w_ID w_NAME w_PATH w_CREATED_AT w_UPDATED_AT w_LAST_ACTIVITY_AT := ⟨_, rfl⟩
  have E_rky := own_epick (i := ky) E_ID E_NAME E_PATH E_CREATED_AT E_UPDATED_AT E_LAST_ACTIVITY_AT
  rw [← hrky] at E_rky
  obtain ⟨_, _, ⟨T4, L4, k4, n4⟩, -, X4, ⟨Lc4, hQ4, l4, y4, z4⟩, st4⟩ := Jvm.LawKit.callS X2 hx (y := (⟨"com/example/wee_forge/weeforge/model/ProjectFilterOrderByPinLaw", "pick", "(I)Lcom/example/wee_forge/weeforge/model/ProjectOrder;"⟩ : MethodName)) hown (mvT hZ (hw _ (List.mem_of_getElem? (i := 1) rfl))) (mvT hZ (hw _ (List.mem_of_getElem? (i := 2) rfl))) (mvT hZ (hw _ (List.mem_of_getElem? (i := 3) rfl))) (mvT hZ (hw _ (List.mem_of_getElem? (i := 4) rfl))) (by decide) (backOf (W := 0) (rmO l Z a0 hw [] ky w_ID w_NAME w_PATH w_CREATED_AT w_UPDATED_AT w_LAST_ACTIVITY_AT rky h0 n0 Z0 S_ID S_NAME S_PATH S_CREATED_AT S_UPDATED_AT S_LAST_ACTIVITY_AT hrky) hZ (hw _ (List.mem_of_getElem? (i := 4) rfl)) (hw _ (List.mem_of_getElem? (i := 3) rfl)) (by decide) (by decide)) (g := (mkF m 18 #[.val (.int p1), .val (.int p2), .val (.int p3), .val (.ref rkx), .unset, .unset, .unset, .unset, .unset, .unset] [(.int ky)])) rfl (by rw [hml]; rfl) (argsL := [(.int ky)]) (rest := []) (lenOf pd_rm0_0 rfl) rfl (by show 2 * 0 + _ ≤ _; exact Nat.le_of_eq rfl) (hb hby at_18) (fun _ _ => ⟨rfl, hE2, (by decide : 0 + 0 ≤ _), (by decide : 0 + 0 ≤ _)⟩)
  dsimp only [Pt.U, Pt.locs, Pt.cells, Pt.slots] at X4 l4 y4 z4 st4 hQ4
  subst l4 y4 z4
  obtain ⟨rfl, N4q, hE4⟩ := hQ4
  have N4 := Fr.app N2 N4q
  have pre5 : ∀ tt, Steps p.tables e below (T4.setTop (mkF m 26 #[.val (.int p1), .val (.int p2), .val (.int p3), .val (.ref rkx), .val (.ref rky), .unset, .unset, .unset, .unset, .unset] [(.int (p3 &&& (1 : Int32)))])) tt → Steps p.tables e below (s₁.setTop (entryFrame m #[(.int p1), (.int p2), (.int p3)] maxLocals)) tt := by
    intro tt kt
    refine pre3 tt ?_
    show Steps p.tables e below (T2.setTop (mkF m 18 #[.val (.int p1), .val (.int p2), .val (.int p3), .val (.ref rkx), .unset, .unset, .unset, .unset, .unset, .unset] [(.int ky)])) _
    refine st4 _ ?_
    show Steps p.tables e below (T4.setTop (mkF m 21 #[.val (.int p1), .val (.int p2), .val (.int p3), .val (.ref rkx), .unset, .unset, .unset, .unset, .unset, .unset] [(.ref rky)])) _
    refine XS.astore X4.here hx rfl (hb hby at_21) rfl rfl (l' := #[.val (.int p1), .val (.int p2), .val (.int p3), .val (.ref rkx), .val (.ref rky), .unset, .unset, .unset, .unset, .unset]) rfl ?_
    show Steps p.tables e below (T4.setTop (mkF m 23 #[.val (.int p1), .val (.int p2), .val (.int p3), .val (.ref rkx), .val (.ref rky), .unset, .unset, .unset, .unset, .unset] [])) _
    refine XS.iloadN X4.here hx rfl (hb hby at_23) rfl ?_
    show Steps p.tables e below (T4.setTop (mkF m 24 #[.val (.int p1), .val (.int p2), .val (.int p3), .val (.ref rkx), .val (.ref rky), .unset, .unset, .unset, .unset, .unset] [(.int p3)])) _
    refine XS.iconst X4.here hx rfl (hb hby at_24) ?_
    show Steps p.tables e below (T4.setTop (mkF m 25 #[.val (.int p1), .val (.int p2), .val (.int p3), .val (.ref rkx), .val (.ref rky), .unset, .unset, .unset, .unset, .unset] [(.int (1 : Int32)), (.int p3)])) _
    refine XS.iand X4.here hx rfl (hb hby at_25) rfl ?_
    exact kt
  by_cases c26_6 : (p3 &&& (1 : Int32)) = (0 : Int32)
  · have pre7 : ∀ tt, Steps p.tables e below (T4.setTop (mkF m 39 #[.val (.int p1), .val (.int p2), .val (.int p3), .val (.ref rkx), .val (.ref rky), .val (.int (0 : Int32)), .unset, .unset, .unset, .unset] [(.int (p3 &&& (2 : Int32)))])) tt → Steps p.tables e below (s₁.setTop (entryFrame m #[(.int p1), (.int p2), (.int p3)] maxLocals)) tt := by
      intro tt kt
      refine pre5 tt ?_
      show Steps p.tables e below (T4.setTop (mkF m 26 #[.val (.int p1), .val (.int p2), .val (.int p3), .val (.ref rkx), .val (.ref rky), .unset, .unset, .unset, .unset, .unset] [(.int (p3 &&& (1 : Int32)))])) _
      refine XS.ifYes X4.here hx rfl (pc0 := 26) (pc' := 33) rfl (hb hby at_26) rfl ((if0 _ _).trans (teq c26_6).1) (by decide) (by decide) ?_
      show Steps p.tables e below (T4.setTop (mkF m 33 #[.val (.int p1), .val (.int p2), .val (.int p3), .val (.ref rkx), .val (.ref rky), .unset, .unset, .unset, .unset, .unset] [])) _
      refine XS.iconst X4.here hx rfl (hb hby at_33) ?_
      show Steps p.tables e below (T4.setTop (mkF m 34 #[.val (.int p1), .val (.int p2), .val (.int p3), .val (.ref rkx), .val (.ref rky), .unset, .unset, .unset, .unset, .unset] [(.int (0 : Int32))])) _
      refine XS.istore X4.here hx rfl (hb hby at_34) rfl (l' := #[.val (.int p1), .val (.int p2), .val (.int p3), .val (.ref rkx), .val (.ref rky), .val (.int (0 : Int32)), .unset, .unset, .unset, .unset]) rfl ?_
      show Steps p.tables e below (T4.setTop (mkF m 36 #[.val (.int p1), .val (.int p2), .val (.int p3), .val (.ref rkx), .val (.ref rky), .val (.int (0 : Int32)), .unset, .unset, .unset, .unset] [])) _
      refine XS.iloadN X4.here hx rfl (hb hby at_36) rfl ?_
      show Steps p.tables e below (T4.setTop (mkF m 37 #[.val (.int p1), .val (.int p2), .val (.int p3), .val (.ref rkx), .val (.ref rky), .val (.int (0 : Int32)), .unset, .unset, .unset, .unset] [(.int p3)])) _
      refine XS.iconst X4.here hx rfl (hb hby at_37) ?_
      show Steps p.tables e below (T4.setTop (mkF m 38 #[.val (.int p1), .val (.int p2), .val (.int p3), .val (.ref rkx), .val (.ref rky), .val (.int (0 : Int32)), .unset, .unset, .unset, .unset] [(.int (2 : Int32)), (.int p3)])) _
      refine XS.iand X4.here hx rfl (hb hby at_38) rfl ?_
      exact kt
    by_cases c39_8 : (p3 &&& (2 : Int32)) = (0 : Int32)
    · have pre9 : ∀ tt, Steps p.tables e below (T4.setTop (mkF m 52 #[.val (.int p1), .val (.int p2), .val (.int p3), .val (.ref rkx), .val (.ref rky), .val (.int (0 : Int32)), .val (.int (0 : Int32)), .unset, .unset, .unset] [(.int (p3 &&& (4 : Int32)))])) tt → Steps p.tables e below (s₁.setTop (entryFrame m #[(.int p1), (.int p2), (.int p3)] maxLocals)) tt := by
        intro tt kt
        refine pre7 tt ?_
        show Steps p.tables e below (T4.setTop (mkF m 39 #[.val (.int p1), .val (.int p2), .val (.int p3), .val (.ref rkx), .val (.ref rky), .val (.int (0 : Int32)), .unset, .unset, .unset, .unset] [(.int (p3 &&& (2 : Int32)))])) _
        refine XS.ifYes X4.here hx rfl (pc0 := 39) (pc' := 46) rfl (hb hby at_39) rfl ((if0 _ _).trans (teq c39_8).1) (by decide) (by decide) ?_
        show Steps p.tables e below (T4.setTop (mkF m 46 #[.val (.int p1), .val (.int p2), .val (.int p3), .val (.ref rkx), .val (.ref rky), .val (.int (0 : Int32)), .unset, .unset, .unset, .unset] [])) _
        refine XS.iconst X4.here hx rfl (hb hby at_46) ?_
        show Steps p.tables e below (T4.setTop (mkF m 47 #[.val (.int p1), .val (.int p2), .val (.int p3), .val (.ref rkx), .val (.ref rky), .val (.int (0 : Int32)), .unset, .unset, .unset, .unset] [(.int (0 : Int32))])) _
        refine XS.istore X4.here hx rfl (hb hby at_47) rfl (l' := #[.val (.int p1), .val (.int p2), .val (.int p3), .val (.ref rkx), .val (.ref rky), .val (.int (0 : Int32)), .val (.int (0 : Int32)), .unset, .unset, .unset]) rfl ?_
        show Steps p.tables e below (T4.setTop (mkF m 49 #[.val (.int p1), .val (.int p2), .val (.int p3), .val (.ref rkx), .val (.ref rky), .val (.int (0 : Int32)), .val (.int (0 : Int32)), .unset, .unset, .unset] [])) _
        refine XS.iloadN X4.here hx rfl (hb hby at_49) rfl ?_
        show Steps p.tables e below (T4.setTop (mkF m 50 #[.val (.int p1), .val (.int p2), .val (.int p3), .val (.ref rkx), .val (.ref rky), .val (.int (0 : Int32)), .val (.int (0 : Int32)), .unset, .unset, .unset] [(.int p3)])) _
        refine XS.iconst X4.here hx rfl (hb hby at_50) ?_
        show Steps p.tables e below (T4.setTop (mkF m 51 #[.val (.int p1), .val (.int p2), .val (.int p3), .val (.ref rkx), .val (.ref rky), .val (.int (0 : Int32)), .val (.int (0 : Int32)), .unset, .unset, .unset] [(.int (4 : Int32)), (.int p3)])) _
        refine XS.iand X4.here hx rfl (hb hby at_51) rfl ?_
        exact kt
      by_cases c52_10 : (p3 &&& (4 : Int32)) = (0 : Int32)
      · obtain ⟨T11, h11, X11, e11, E11, A11, D11, -, st11⟩ := newO X4 hx hZ hown (hw _ (List.mem_of_getElem? (i := 10) rfl)) (hw _ (List.mem_of_getElem? (i := 11) rfl)) (hw _ (List.mem_of_getElem? (i := 12) rfl)) hE4 (g := (mkF m 62 #[.val (.int p1), .val (.int p2), .val (.int p3), .val (.ref rkx), .val (.ref rky), .val (.int (0 : Int32)), .val (.int (0 : Int32)), .val (.int (0 : Int32)), .unset, .unset] [])) rfl (hb hby at_62) (by decide) (by decide)
        obtain ⟨b11, g11⟩ : ∃ z, z = h0.size := ⟨_, rfl⟩
        rw [← g11] at A11 D11 st11
        have g_b11 : n0 ≤ b11 := Nat.le_trans Z0 (Nat.le_of_eq g11.symm)
        have F_searchTerms_b11 : Fld Z h11 b11 "com/example/wee_forge/weeforge/model/ProjectFilter" "searchTerms" "Ljava/util/List;" .null := D11 (Or.inl (hw _ (List.mem_of_getElem? (i := 26) rfl))) (ty := (.object "java/util/List")) (by decide)
        have F_topics_b11 : Fld Z h11 b11 "com/example/wee_forge/weeforge/model/ProjectFilter" "topics" "Ljava/util/List;" .null := D11 (Or.inl (hw _ (List.mem_of_getElem? (i := 28) rfl))) (ty := (.object "java/util/List")) (by decide)
        have F_lastActivity_b11 : Fld Z h11 b11 "com/example/wee_forge/weeforge/model/ProjectFilter" "lastActivity" "Lcom/example/wee_forge/weeforge/model/TimeRange;" .null := D11 (Or.inl (hw _ (List.mem_of_getElem? (i := 33) rfl))) (ty := (.object "com/example/wee_forge/weeforge/model/TimeRange")) (by decide)
        have F_updated_b11 : Fld Z h11 b11 "com/example/wee_forge/weeforge/model/ProjectFilter" "updated" "Lcom/example/wee_forge/weeforge/model/TimeRange;" .null := D11 (Or.inl (hw _ (List.mem_of_getElem? (i := 35) rfl))) (ty := (.object "com/example/wee_forge/weeforge/model/TimeRange")) (by decide)
        have F_idAfter_b11 : Fld Z h11 b11 "com/example/wee_forge/weeforge/model/ProjectFilter" "idAfter" "Ljava/util/OptionalLong;" .null := D11 (Or.inl (hw _ (List.mem_of_getElem? (i := 42) rfl))) (ty := (.object "java/util/OptionalLong")) (by decide)
        have F_idBefore_b11 : Fld Z h11 b11 "com/example/wee_forge/weeforge/model/ProjectFilter" "idBefore" "Ljava/util/OptionalLong;" .null := D11 (Or.inl (hw _ (List.mem_of_getElem? (i := 44) rfl))) (ty := (.object "java/util/OptionalLong")) (by decide)
        have F_orderBy_b11 : Fld Z h11 b11 "com/example/wee_forge/weeforge/model/ProjectFilter" "orderBy" "Lcom/example/wee_forge/weeforge/model/ProjectOrder;" .null := D11 (Or.inl (hw _ (List.mem_of_getElem? (i := 47) rfl))) (ty := (.object "com/example/wee_forge/weeforge/model/ProjectOrder")) (by decide)
        have F_sort_b11 : Fld Z h11 b11 "com/example/wee_forge/weeforge/model/ProjectFilter" "sort" "Lcom/example/wee_forge/weeforge/model/SortDirection;" .null := D11 (Or.inl (hw _ (List.mem_of_getElem? (i := 52) rfl))) (ty := (.object "com/example/wee_forge/weeforge/model/SortDirection")) (by decide)
        have F_starredOnly_b11 : Fld Z h11 b11 "com/example/wee_forge/weeforge/model/ProjectFilter" "starredOnly" "Z" (.int (0 : Int32)) := D11 (Or.inl (hw _ (List.mem_of_getElem? (i := 89) rfl))) (ty := .boolean) (by decide)
        obtain ⟨_, _, ⟨T12, L12, k12, n12⟩, -, X12, ⟨Lc12, hQ12, l12, y12, z12⟩, st12⟩ := X11.specialBack hx (y := (⟨"com/example/wee_forge/weeforge/model/ProjectFilter", "<init>", "()V"⟩ : MethodName)) rfl hown (mvT hZ (hw _ (List.mem_of_getElem? (i := 13) rfl))) (mvT hZ (hw _ (List.mem_of_getElem? (i := 14) rfl))) (mvT hZ (hw _ (List.mem_of_getElem? (i := 15) rfl))) (by decide) (backOf (W := 1) (rmC l Z a0 hw [] b11 w_ANY w_CREATED_AT w_DESC wEL wOL h11 n0 (Nat.le_trans Z0 E11.1) A11 F_searchTerms_b11 F_topics_b11 F_lastActivity_b11 F_updated_b11 F_idAfter_b11 F_idBefore_b11 F_orderBy_b11 F_sort_b11 F_starredOnly_b11 g_b11 (Sta.ext E11 S_ANY) (Sta.ext E11 S_CREATED_AT) (Sta.ext E11 S_DESC) (Sta.ext E11 S_EL) (Sta.ext E11 S_OL)) hZ (hw _ (List.mem_of_getElem? (i := 15) rfl)) (hw _ (List.mem_of_getElem? (i := 12) rfl)) (by decide) (by decide)) (g := (mkF m 66 #[.val (.int p1), .val (.int p2), .val (.int p3), .val (.ref rkx), .val (.ref rky), .val (.int (0 : Int32)), .val (.int (0 : Int32)), .val (.int (0 : Int32)), .unset, .unset] [(.ref b11), (.ref b11)])) rfl (by rw [hml]; rfl) (Steps.refl _) (a := b11) (argsL := []) (rest := [(.ref b11)]) (lenOf pd_rm0_1 rfl) rfl (by show 2 * 0 + _ ≤ _; exact Nat.le_of_eq rfl) (hb hby at_66) (fun _ _ => ⟨rfl, e11, (by decide : 1 + 0 ≤ _), (by decide : 12 + 0 ≤ _)⟩)
        dsimp only [Pt.U, Pt.locs, Pt.cells, Pt.slots] at X12 l12 y12 z12 st12 hQ12
        subst l12 y12 z12
        obtain ⟨rfl, N12q, K12, Ei12, Fs12, Fo12, Fb12⟩ := hQ12
        have N12 := Fr.app N4 N12q
        obtain ⟨cq13, kq13, q13a, q13b, q13c⟩ := isOf hZ rfl Ei12
        obtain ⟨_, _, ⟨T13, L13, k13, n13⟩, -, X13, ⟨Lc13, hQ13, l13, y13, z13⟩, st13⟩ := X12.virtualBack hx (y := (⟨"com/example/wee_forge/weeforge/model/ProjectFilter", "orderBy", "()Lcom/example/wee_forge/weeforge/model/ProjectOrder;"⟩ : MethodName)) (z := (⟨"com/example/wee_forge/weeforge/model/ProjectFilter", "orderBy", "()Lcom/example/wee_forge/weeforge/model/ProjectOrder;"⟩ : MethodName)) hown (mvT hZ (hw _ (List.mem_of_getElem? (i := 53) rfl))) (mvT hZ (hw _ (List.mem_of_getElem? (i := 54) rfl))) (notFace_of_selects (args := #[]) (mvT hZ (hw _ (List.mem_of_getElem? (i := 56) rfl)))) (mvT hZ (hw _ (List.mem_of_getElem? (i := 56) rfl))) (mvT hZ (hw _ (List.mem_of_getElem? (i := 55) rfl))) (by decide) (backOf (W := 0) (rmg_orderBy l Z a0 hw [] b11 w_CREATED_AT T12.heap n0 (Nat.le_trans (Nat.le_trans Z0 E11.1) K12.1) Fo12) hZ (hw _ (List.mem_of_getElem? (i := 57) rfl)) (hw _ (List.mem_of_getElem? (i := 12) rfl)) (by decide) (by decide)) q13a q13c (g := (mkF m 73 #[.val (.int p1), .val (.int p2), .val (.int p3), .val (.ref rkx), .val (.ref rky), .val (.int (0 : Int32)), .val (.int (0 : Int32)), .val (.int (0 : Int32)), .val (.ref b11), .unset] [(.ref b11)])) rfl (by rw [hml]; rfl) (Steps.refl _) (argsL := []) (rest := []) (lenOf pd_rm0_2 rfl) rfl (by show 2 * 0 + _ ≤ _; exact Nat.le_of_eq rfl) (hb hby at_73) (fun _ _ => ⟨rfl, rfl, (by decide : 1 + 0 ≤ _), (by decide : 12 + 0 ≤ _)⟩)
        dsimp only [Pt.U, Pt.locs, Pt.cells, Pt.slots] at X13 l13 y13 z13 st13 hQ13
        subst l13 y13 z13
        obtain ⟨rfl, N13q, hE13⟩ := hQ13
        have N13 := Fr.app N12 N13q
        obtain ⟨T14, X14, e14, st14⟩ := getS2 X13 hx hZ hown (host := "") (Or.inl (hw _ (List.mem_of_getElem? (i := 8) rfl))) Via.refl hE13 (own_staK (Sta.ext E11 S_CREATED_AT) K12 (allS ⟨_, A11⟩ all0)) (g := (mkF m 76 #[.val (.int p1), .val (.int p2), .val (.int p3), .val (.ref rkx), .val (.ref rky), .val (.int (0 : Int32)), .val (.int (0 : Int32)), .val (.int (0 : Int32)), .val (.ref b11), .unset] [(.ref w_CREATED_AT)])) rfl (hb hby at_76)
        obtain ⟨T15, X15, e15, st15⟩ := getS2 X14 hx hZ hown (host := "") (Or.inl (hw _ (List.mem_of_getElem? (i := 58) rfl))) Via.refl e14 (own_staK (Sta.ext E11 S_DESC) K12 (allS ⟨_, A11⟩ all0)) (g := (mkF m 121 #[.val (.int p1), .val (.int p2), .val (.int p3), .val (.ref rkx), .val (.ref rky), .val (.int (0 : Int32)), .val (.int (0 : Int32)), .val (.int (0 : Int32)), .val (.ref b11), .unset] [])) rfl (hb hby at_121)
        obtain ⟨cq16, kq16, q16a, q16b, q16c⟩ := isOf hZ e15 Ei12
        obtain ⟨_, _, ⟨T16, L16, k16, n16⟩, -, X16, hSb16, hgr16, ⟨Lc16, hQ16, l16, y16, z16⟩, st16⟩ := X15.virtualBackS hx (y := (⟨"com/example/wee_forge/weeforge/model/ProjectFilter", "orderBy", "(Lcom/example/wee_forge/weeforge/model/ProjectOrder;)Lcom/example/wee_forge/weeforge/model/ProjectFilter;"⟩ : MethodName)) (z := (⟨"com/example/wee_forge/weeforge/model/ProjectFilter", "orderBy", "(Lcom/example/wee_forge/weeforge/model/ProjectOrder;)Lcom/example/wee_forge/weeforge/model/ProjectFilter;"⟩ : MethodName)) hown (mvT hZ (hw _ (List.mem_of_getElem? (i := 59) rfl))) (mvT hZ (hw _ (List.mem_of_getElem? (i := 60) rfl))) (notFace_of_selects (args := #[]) (mvT hZ (hw _ (List.mem_of_getElem? (i := 62) rfl)))) (mvT hZ (hw _ (List.mem_of_getElem? (i := 62) rfl))) (mvT hZ (hw _ (List.mem_of_getElem? (i := 61) rfl))) (by decide) (backOfS (W := 0) (rm_orderBy l Z a0 hw [] b11 rkx w_DESC w_CREATED_AT (0 : Int32) T12.heap n0 (Nat.le_trans (Nat.le_trans Z0 E11.1) K12.1) Ei12 Fs12 Fo12 Fb12 g_b11 ((Exa.ext E11 E_rkx).keep K12)) hZ (hw _ (List.mem_of_getElem? (i := 63) rfl)) (hw _ (List.mem_of_getElem? (i := 12) rfl)) (by decide) (by decide)) q16a q16c (g := (mkF m 129 #[.val (.int p1), .val (.int p2), .val (.int p3), .val (.ref rkx), .val (.ref rky), .val (.int (0 : Int32)), .val (.int (0 : Int32)), .val (.int (0 : Int32)), .val (.ref b11), .val (.ref w_DESC)] [(.ref rkx), (.ref b11)])) rfl (by rw [hml]; rfl) (Steps.refl _) (argsL := [(.ref rkx)]) (rest := []) (lenOf pd_rm0_3 rfl) rfl (by show 2 * 0 + _ ≤ _; exact Nat.le_of_eq rfl) (hb hby at_129) (fun _ _ => ⟨rfl, e15, (by decide : 1 + 2 ≤ _), (by decide : 12 + 32 ≤ _)⟩)
        dsimp only [Pt.U, Pt.locs, Pt.cells, Pt.slots] at X16 l16 y16 z16 st16 hQ16 hSb16 hgr16
        subst l16 y16 z16
        obtain ⟨X16, hS, hZ, hown⟩ := rebS hS (by rw [e15]; exact (Nat.le_trans (Nat.le_trans hk E11.1) K12.1)) X16 hSb16 hgr16 hZ hown
        obtain ⟨rfl, N16q, K16, Ei16, Fs16, Fo16, Fb16⟩ := hQ16
        have N16 := Fr.app N13 N16q
        obtain ⟨cq17, kq17, q17a, q17b, q17c⟩ := isOf hZ rfl Ei16
        obtain ⟨_, _, ⟨T17, L17, k17, n17⟩, -, X17, ⟨Lc17, hQ17, l17, y17, z17⟩, st17⟩ := X16.virtualBack hx (y := (⟨"com/example/wee_forge/weeforge/model/ProjectFilter", "orderBy", "()Lcom/example/wee_forge/weeforge/model/ProjectOrder;"⟩ : MethodName)) (z := (⟨"com/example/wee_forge/weeforge/model/ProjectFilter", "orderBy", "()Lcom/example/wee_forge/weeforge/model/ProjectOrder;"⟩ : MethodName)) hown (mvT hZ (hw _ (List.mem_of_getElem? (i := 53) rfl))) (mvT hZ (hw _ (List.mem_of_getElem? (i := 54) rfl))) (notFace_of_selects (args := #[]) (mvT hZ (hw _ (List.mem_of_getElem? (i := 56) rfl)))) (mvT hZ (hw _ (List.mem_of_getElem? (i := 56) rfl))) (mvT hZ (hw _ (List.mem_of_getElem? (i := 55) rfl))) (by decide) (backOf (W := 0) (rmg_orderBy l Z a0 hw [] b11 rkx T16.heap n0 (Nat.le_trans (Nat.le_trans (Nat.le_trans Z0 E11.1) K12.1) K16.1) Fo16) hZ (hw _ (List.mem_of_getElem? (i := 57) rfl)) (hw _ (List.mem_of_getElem? (i := 12) rfl)) (by decide) (by decide)) q17a q17c (g := (mkF m 141 #[.val (.int p1), .val (.int p2), .val (.int p3), .val (.ref rkx), .val (.ref rky), .val (.int (0 : Int32)), .val (.int (0 : Int32)), .val (.int (0 : Int32)), .val (.ref b11), .val (.ref w_DESC)] [(.ref b11)])) rfl (by rw [hml]; rfl) (Steps.refl _) (argsL := []) (rest := []) (lenOf pd_rm0_2 rfl) rfl (by show 2 * 0 + _ ≤ _; exact Nat.le_of_eq rfl) (hb hby at_141) (fun _ _ => ⟨rfl, rfl, (by decide : 3 + 0 ≤ _), (by decide : 44 + 0 ≤ _)⟩)
        dsimp only [Pt.U, Pt.locs, Pt.cells, Pt.slots] at X17 l17 y17 z17 st17 hQ17
        subst l17 y17 z17
        obtain ⟨rfl, N17q, hE17⟩ := hQ17
        have N17 := Fr.app N16 N17q
        obtain ⟨cq18, kq18, q18a, q18b, q18c⟩ := isOf hZ hE17 Ei16
        obtain ⟨_, _, ⟨T18, L18, k18, n18⟩, -, X18, ⟨Lc18, hQ18, l18, y18, z18⟩, st18⟩ := X17.virtualBack hx (y := (⟨"com/example/wee_forge/weeforge/model/ProjectFilter", "sort", "()Lcom/example/wee_forge/weeforge/model/SortDirection;"⟩ : MethodName)) (z := (⟨"com/example/wee_forge/weeforge/model/ProjectFilter", "sort", "()Lcom/example/wee_forge/weeforge/model/SortDirection;"⟩ : MethodName)) hown (mvT hZ (hw _ (List.mem_of_getElem? (i := 78) rfl))) (mvT hZ (hw _ (List.mem_of_getElem? (i := 79) rfl))) (notFace_of_selects (args := #[]) (mvT hZ (hw _ (List.mem_of_getElem? (i := 81) rfl)))) (mvT hZ (hw _ (List.mem_of_getElem? (i := 81) rfl))) (mvT hZ (hw _ (List.mem_of_getElem? (i := 80) rfl))) (by decide) (backOf (W := 0) (rmg_sort l Z a0 hw [] b11 w_DESC T16.heap n0 (Nat.le_trans (Nat.le_trans (Nat.le_trans Z0 E11.1) K12.1) K16.1) Fs16) hZ (hw _ (List.mem_of_getElem? (i := 82) rfl)) (hw _ (List.mem_of_getElem? (i := 12) rfl)) (by decide) (by decide)) q18a q18c (g := (mkF m 152 #[.val (.int p1), .val (.int p2), .val (.int p3), .val (.ref rkx), .val (.ref rky), .val (.int (0 : Int32)), .val (.int (0 : Int32)), .val (.int (0 : Int32)), .val (.ref b11), .val (.ref w_DESC)] [(.ref b11)])) rfl (by rw [hml]; rfl) (Steps.refl _) (argsL := []) (rest := []) (lenOf pd_rm0_4 rfl) rfl (by show 2 * 0 + _ ≤ _; exact Nat.le_of_eq rfl) (hb hby at_152) (fun _ _ => ⟨rfl, hE17, (by decide : 3 + 0 ≤ _), (by decide : 44 + 0 ≤ _)⟩)
        dsimp only [Pt.U, Pt.locs, Pt.cells, Pt.slots] at X18 l18 y18 z18 st18 hQ18
        subst l18 y18 z18
        obtain ⟨rfl, N18q, hE18⟩ := hQ18
        have N18 := Fr.app N17 N18q
        obtain ⟨cq19, kq19, q19a, q19b, q19c⟩ := isOf hZ hE18 Ei16
        obtain ⟨_, _, ⟨T19, L19, k19, n19⟩, -, X19, ⟨Lc19, hQ19, l19, y19, z19⟩, st19⟩ := X18.virtualBack hx (y := (⟨"com/example/wee_forge/weeforge/model/ProjectFilter", "sort", "()Lcom/example/wee_forge/weeforge/model/SortDirection;"⟩ : MethodName)) (z := (⟨"com/example/wee_forge/weeforge/model/ProjectFilter", "sort", "()Lcom/example/wee_forge/weeforge/model/SortDirection;"⟩ : MethodName)) hown (mvT hZ (hw _ (List.mem_of_getElem? (i := 78) rfl))) (mvT hZ (hw _ (List.mem_of_getElem? (i := 79) rfl))) (notFace_of_selects (args := #[]) (mvT hZ (hw _ (List.mem_of_getElem? (i := 81) rfl)))) (mvT hZ (hw _ (List.mem_of_getElem? (i := 81) rfl))) (mvT hZ (hw _ (List.mem_of_getElem? (i := 80) rfl))) (by decide) (backOf (W := 0) (rmg_sort l Z a0 hw [] b11 w_DESC T16.heap n0 (Nat.le_trans (Nat.le_trans (Nat.le_trans Z0 E11.1) K12.1) K16.1) Fs16) hZ (hw _ (List.mem_of_getElem? (i := 82) rfl)) (hw _ (List.mem_of_getElem? (i := 12) rfl)) (by decide) (by decide)) q19a q19c (g := (mkF m 195 #[.val (.int p1), .val (.int p2), .val (.int p3), .val (.ref rkx), .val (.ref rky), .val (.int (0 : Int32)), .val (.int (0 : Int32)), .val (.int (0 : Int32)), .val (.ref b11), .val (.ref w_DESC)] [(.ref b11)])) rfl (by rw [hml]; rfl) (Steps.refl _) (argsL := []) (rest := []) (lenOf pd_rm0_4 rfl) rfl (by show 2 * 0 + _ ≤ _; exact Nat.le_of_eq rfl) (hb hby at_195) (fun _ _ => ⟨rfl, hE18, (by decide : 3 + 0 ≤ _), (by decide : 44 + 0 ≤ _)⟩)
        dsimp only [Pt.U, Pt.locs, Pt.cells, Pt.slots] at X19 l19 y19 z19 st19 hQ19
        subst l19 y19 z19
        obtain ⟨rfl, N19q, hE19⟩ := hQ19
        have N19 := Fr.app N18 N19q
        obtain ⟨cq20, kq20, q20a, q20b, q20c⟩ := isOf hZ hE19 Ei16
        obtain ⟨_, _, ⟨T20, L20, k20, n20⟩, -, X20, ⟨Lc20, hQ20, l20, y20, z20⟩, st20⟩ := X19.virtualBack hx (y := (⟨"com/example/wee_forge/weeforge/model/ProjectFilter", "starredOnly", "()Z"⟩ : MethodName)) (z := (⟨"com/example/wee_forge/weeforge/model/ProjectFilter", "starredOnly", "()Z"⟩ : MethodName)) hown (mvT hZ (hw _ (List.mem_of_getElem? (i := 83) rfl))) (mvT hZ (hw _ (List.mem_of_getElem? (i := 84) rfl))) (notFace_of_selects (args := #[]) (mvT hZ (hw _ (List.mem_of_getElem? (i := 86) rfl)))) (mvT hZ (hw _ (List.mem_of_getElem? (i := 86) rfl))) (mvT hZ (hw _ (List.mem_of_getElem? (i := 85) rfl))) (by decide) (backOf (W := 0) (rmg_starredOnly l Z a0 hw [] b11 (0 : Int32) T16.heap n0 (Nat.le_trans (Nat.le_trans (Nat.le_trans Z0 E11.1) K12.1) K16.1) Fb16 (by decide)) hZ (hw _ (List.mem_of_getElem? (i := 87) rfl)) (hw _ (List.mem_of_getElem? (i := 12) rfl)) (by decide) (by decide)) q20a q20c (g := (mkF m 207 #[.val (.int p1), .val (.int p2), .val (.int p3), .val (.ref rkx), .val (.ref rky), .val (.int (0 : Int32)), .val (.int (0 : Int32)), .val (.int (0 : Int32)), .val (.ref b11), .val (.ref w_DESC)] [(.ref b11)])) rfl (by rw [hml]; rfl) (Steps.refl _) (argsL := []) (rest := []) (lenOf pd_rm0_5 rfl) rfl (by show 2 * 0 + _ ≤ _; exact Nat.le_of_eq rfl) (hb hby at_207) (fun _ _ => ⟨rfl, hE19, (by decide : 3 + 0 ≤ _), (by decide : 44 + 0 ≤ _)⟩)
        dsimp only [Pt.U, Pt.locs, Pt.cells, Pt.slots] at X20 l20 y20 z20 st20 hQ20
        subst l20 y20 z20
        obtain ⟨rfl, N20q, hE20⟩ := hQ20
        have N20 := Fr.app N19 N20q
        have pre21 : ∀ tt, Steps p.tables e below (T20.setTop (mkF m 220 #[.val (.int p1), .val (.int p2), .val (.int p3), .val (.ref rkx), .val (.ref rky), .val (.int (0 : Int32)), .val (.int (0 : Int32)), .val (.int (0 : Int32)), .val (.ref b11), .val (.ref w_DESC)] [(.int (1 : Int32))])) tt → Steps p.tables e below (s₁.setTop (entryFrame m #[(.int p1), (.int p2), (.int p3)] maxLocals)) tt := by
          intro tt kt
          refine pre9 tt ?_
          show Steps p.tables e below (T4.setTop (mkF m 52 #[.val (.int p1), .val (.int p2), .val (.int p3), .val (.ref rkx), .val (.ref rky), .val (.int (0 : Int32)), .val (.int (0 : Int32)), .unset, .unset, .unset] [(.int (p3 &&& (4 : Int32)))])) _
          refine XS.ifYes X4.here hx rfl (pc0 := 52) (pc' := 59) rfl (hb hby at_52) rfl ((if0 _ _).trans (teq c52_10).1) (by decide) (by decide) ?_
          show Steps p.tables e below (T4.setTop (mkF m 59 #[.val (.int p1), .val (.int p2), .val (.int p3), .val (.ref rkx), .val (.ref rky), .val (.int (0 : Int32)), .val (.int (0 : Int32)), .unset, .unset, .unset] [])) _
          refine XS.iconst X4.here hx rfl (hb hby at_59) ?_
          show Steps p.tables e below (T4.setTop (mkF m 60 #[.val (.int p1), .val (.int p2), .val (.int p3), .val (.ref rkx), .val (.ref rky), .val (.int (0 : Int32)), .val (.int (0 : Int32)), .unset, .unset, .unset] [(.int (0 : Int32))])) _
          refine XS.istore X4.here hx rfl (hb hby at_60) rfl (l' := #[.val (.int p1), .val (.int p2), .val (.int p3), .val (.ref rkx), .val (.ref rky), .val (.int (0 : Int32)), .val (.int (0 : Int32)), .val (.int (0 : Int32)), .unset, .unset]) rfl ?_
          show Steps p.tables e below (T4.setTop (mkF m 62 #[.val (.int p1), .val (.int p2), .val (.int p3), .val (.ref rkx), .val (.ref rky), .val (.int (0 : Int32)), .val (.int (0 : Int32)), .val (.int (0 : Int32)), .unset, .unset] [])) _
          refine st11 _ ?_
          show Steps p.tables e below (T11.setTop (mkF m 65 #[.val (.int p1), .val (.int p2), .val (.int p3), .val (.ref rkx), .val (.ref rky), .val (.int (0 : Int32)), .val (.int (0 : Int32)), .val (.int (0 : Int32)), .unset, .unset] [(.ref b11)])) _
          refine XS.dup X11.here hx rfl (hb hby at_65) rfl rfl ?_
          show Steps p.tables e below (T11.setTop (mkF m 66 #[.val (.int p1), .val (.int p2), .val (.int p3), .val (.ref rkx), .val (.ref rky), .val (.int (0 : Int32)), .val (.int (0 : Int32)), .val (.int (0 : Int32)), .unset, .unset] [(.ref b11), (.ref b11)])) _
          refine st12.trans ?_
          show Steps p.tables e below (T12.setTop (mkF m 69 #[.val (.int p1), .val (.int p2), .val (.int p3), .val (.ref rkx), .val (.ref rky), .val (.int (0 : Int32)), .val (.int (0 : Int32)), .val (.int (0 : Int32)), .unset, .unset] [(.ref b11)])) _
          refine XS.astore X12.here hx rfl (hb hby at_69) rfl rfl (l' := #[.val (.int p1), .val (.int p2), .val (.int p3), .val (.ref rkx), .val (.ref rky), .val (.int (0 : Int32)), .val (.int (0 : Int32)), .val (.int (0 : Int32)), .val (.ref b11), .unset]) rfl ?_
          show Steps p.tables e below (T12.setTop (mkF m 71 #[.val (.int p1), .val (.int p2), .val (.int p3), .val (.ref rkx), .val (.ref rky), .val (.int (0 : Int32)), .val (.int (0 : Int32)), .val (.int (0 : Int32)), .val (.ref b11), .unset] [])) _
          refine XS.aload X12.here hx rfl (hb hby at_71) rfl rfl ?_
          show Steps p.tables e below (T12.setTop (mkF m 73 #[.val (.int p1), .val (.int p2), .val (.int p3), .val (.ref rkx), .val (.ref rky), .val (.int (0 : Int32)), .val (.int (0 : Int32)), .val (.int (0 : Int32)), .val (.ref b11), .unset] [(.ref b11)])) _
          refine st13.trans ?_
          show Steps p.tables e below (T13.setTop (mkF m 76 #[.val (.int p1), .val (.int p2), .val (.int p3), .val (.ref rkx), .val (.ref rky), .val (.int (0 : Int32)), .val (.int (0 : Int32)), .val (.int (0 : Int32)), .val (.ref b11), .unset] [(.ref w_CREATED_AT)])) _
          refine st14 _ ?_
          show Steps p.tables e below (T14.setTop (mkF m 79 #[.val (.int p1), .val (.int p2), .val (.int p3), .val (.ref rkx), .val (.ref rky), .val (.int (0 : Int32)), .val (.int (0 : Int32)), .val (.int (0 : Int32)), .val (.ref b11), .unset] [(.ref w_CREATED_AT), (.ref w_CREATED_AT)])) _
          refine Jvm.RoadKit.acmp (g := (mkF m 79 #[.val (.int p1), .val (.int p2), .val (.int p3), .val (.ref rkx), .val (.ref rky), .val (.int (0 : Int32)), .val (.int (0 : Int32)), .val (.int (0 : Int32)), .val (.ref b11), .unset] [(.ref w_CREATED_AT), (.ref w_CREATED_AT)])) X14 hx rfl rfl rfl (pc0 := 79) (pc' := 84) (same := true) rfl (hb hby at_79) rfl (decide_eq_true rfl) (by decide) (by decide) ?_
          show Steps p.tables e below (T14.setTop (mkF m 84 #[.val (.int p1), .val (.int p2), .val (.int p3), .val (.ref rkx), .val (.ref rky), .val (.int (0 : Int32)), .val (.int (0 : Int32)), .val (.int (0 : Int32)), .val (.ref b11), .unset] [])) _
          refine XS.iload X14.here hx rfl (hb hby at_84) rfl ?_
          show Steps p.tables e below (T14.setTop (mkF m 86 #[.val (.int p1), .val (.int p2), .val (.int p3), .val (.ref rkx), .val (.ref rky), .val (.int (0 : Int32)), .val (.int (0 : Int32)), .val (.int (0 : Int32)), .val (.ref b11), .unset] [(.int (0 : Int32))])) _
          refine XS.ifYes X14.here hx rfl (pc0 := 86) (pc' := 98) rfl (hb hby at_86) rfl ((if0 _ _).trans (teq (rfl : (0 : Int32) = (0 : Int32))).1) (by decide) (by decide) ?_
          show Steps p.tables e below (T14.setTop (mkF m 98 #[.val (.int p1), .val (.int p2), .val (.int p3), .val (.ref rkx), .val (.ref rky), .val (.int (0 : Int32)), .val (.int (0 : Int32)), .val (.int (0 : Int32)), .val (.ref b11), .unset] [])) _
          refine XS.iload X14.here hx rfl (hb hby at_98) rfl ?_
          show Steps p.tables e below (T14.setTop (mkF m 100 #[.val (.int p1), .val (.int p2), .val (.int p3), .val (.ref rkx), .val (.ref rky), .val (.int (0 : Int32)), .val (.int (0 : Int32)), .val (.int (0 : Int32)), .val (.ref b11), .unset] [(.int (0 : Int32))])) _
          refine XS.ifYes X14.here hx rfl (pc0 := 100) (pc' := 110) rfl (hb hby at_100) rfl ((if0 _ _).trans (teq (rfl : (0 : Int32) = (0 : Int32))).1) (by decide) (by decide) ?_
          show Steps p.tables e below (T14.setTop (mkF m 110 #[.val (.int p1), .val (.int p2), .val (.int p3), .val (.ref rkx), .val (.ref rky), .val (.int (0 : Int32)), .val (.int (0 : Int32)), .val (.int (0 : Int32)), .val (.ref b11), .unset] [])) _
          refine XS.iload X14.here hx rfl (hb hby at_110) rfl ?_
          show Steps p.tables e below (T14.setTop (mkF m 112 #[.val (.int p1), .val (.int p2), .val (.int p3), .val (.ref rkx), .val (.ref rky), .val (.int (0 : Int32)), .val (.int (0 : Int32)), .val (.int (0 : Int32)), .val (.ref b11), .unset] [(.int (0 : Int32))])) _
          refine XS.ifYes X14.here hx rfl (pc0 := 112) (pc' := 121) rfl (hb hby at_112) rfl ((if0 _ _).trans (teq (rfl : (0 : Int32) = (0 : Int32))).1) (by decide) (by decide) ?_
          show Steps p.tables e below (T14.setTop (mkF m 121 #[.val (.int p1), .val (.int p2), .val (.int p3), .val (.ref rkx), .val (.ref rky), .val (.int (0 : Int32)), .val (.int (0 : Int32)), .val (.int (0 : Int32)), .val (.ref b11), .unset] [])) _
          refine st15 _ ?_
          show Steps p.tables e below (T15.setTop (mkF m 124 #[.val (.int p1), .val (.int p2), .val (.int p3), .val (.ref rkx), .val (.ref rky), .val (.int (0 : Int32)), .val (.int (0 : Int32)), .val (.int (0 : Int32)), .val (.ref b11), .unset] [(.ref w_DESC)])) _
          refine XS.astore X15.here hx rfl (hb hby at_124) rfl rfl (l' := #[.val (.int p1), .val (.int p2), .val (.int p3), .val (.ref rkx), .val (.ref rky), .val (.int (0 : Int32)), .val (.int (0 : Int32)), .val (.int (0 : Int32)), .val (.ref b11), .val (.ref w_DESC)]) rfl ?_
          show Steps p.tables e below (T15.setTop (mkF m 126 #[.val (.int p1), .val (.int p2), .val (.int p3), .val (.ref rkx), .val (.ref rky), .val (.int (0 : Int32)), .val (.int (0 : Int32)), .val (.int (0 : Int32)), .val (.ref b11), .val (.ref w_DESC)] [])) _
          refine XS.aload X15.here hx rfl (hb hby at_126) rfl rfl ?_
          show Steps p.tables e below (T15.setTop (mkF m 128 #[.val (.int p1), .val (.int p2), .val (.int p3), .val (.ref rkx), .val (.ref rky), .val (.int (0 : Int32)), .val (.int (0 : Int32)), .val (.int (0 : Int32)), .val (.ref b11), .val (.ref w_DESC)] [(.ref b11)])) _
          refine XS.aloadN X15.here hx rfl (hb hby at_128) rfl rfl ?_
          show Steps p.tables e below (T15.setTop (mkF m 129 #[.val (.int p1), .val (.int p2), .val (.int p3), .val (.ref rkx), .val (.ref rky), .val (.int (0 : Int32)), .val (.int (0 : Int32)), .val (.int (0 : Int32)), .val (.ref b11), .val (.ref w_DESC)] [(.ref rkx), (.ref b11)])) _
          refine st16.trans ?_
          show Steps p.tables e below (T16.setTop (mkF m 132 #[.val (.int p1), .val (.int p2), .val (.int p3), .val (.ref rkx), .val (.ref rky), .val (.int (0 : Int32)), .val (.int (0 : Int32)), .val (.int (0 : Int32)), .val (.ref b11), .val (.ref w_DESC)] [(.ref b11)])) _
          refine XS.aload X16.here hx rfl (hb hby at_132) rfl rfl ?_
          show Steps p.tables e below (T16.setTop (mkF m 134 #[.val (.int p1), .val (.int p2), .val (.int p3), .val (.ref rkx), .val (.ref rky), .val (.int (0 : Int32)), .val (.int (0 : Int32)), .val (.int (0 : Int32)), .val (.ref b11), .val (.ref w_DESC)] [(.ref b11), (.ref b11)])) _
          refine Jvm.RoadKit.acmp (g := (mkF m 134 #[.val (.int p1), .val (.int p2), .val (.int p3), .val (.ref rkx), .val (.ref rky), .val (.int (0 : Int32)), .val (.int (0 : Int32)), .val (.int (0 : Int32)), .val (.ref b11), .val (.ref w_DESC)] [(.ref b11), (.ref b11)])) X16 hx rfl rfl rfl (pc0 := 134) (pc' := 139) (same := true) rfl (hb hby at_134) rfl (decide_eq_true rfl) (by decide) (by decide) ?_
          show Steps p.tables e below (T16.setTop (mkF m 139 #[.val (.int p1), .val (.int p2), .val (.int p3), .val (.ref rkx), .val (.ref rky), .val (.int (0 : Int32)), .val (.int (0 : Int32)), .val (.int (0 : Int32)), .val (.ref b11), .val (.ref w_DESC)] [])) _
          refine XS.aload X16.here hx rfl (hb hby at_139) rfl rfl ?_
          show Steps p.tables e below (T16.setTop (mkF m 141 #[.val (.int p1), .val (.int p2), .val (.int p3), .val (.ref rkx), .val (.ref rky), .val (.int (0 : Int32)), .val (.int (0 : Int32)), .val (.int (0 : Int32)), .val (.ref b11), .val (.ref w_DESC)] [(.ref b11)])) _
          refine st17.trans ?_
          show Steps p.tables e below (T17.setTop (mkF m 144 #[.val (.int p1), .val (.int p2), .val (.int p3), .val (.ref rkx), .val (.ref rky), .val (.int (0 : Int32)), .val (.int (0 : Int32)), .val (.int (0 : Int32)), .val (.ref b11), .val (.ref w_DESC)] [(.ref rkx)])) _
          refine XS.aloadN X17.here hx rfl (hb hby at_144) rfl rfl ?_
          show Steps p.tables e below (T17.setTop (mkF m 145 #[.val (.int p1), .val (.int p2), .val (.int p3), .val (.ref rkx), .val (.ref rky), .val (.int (0 : Int32)), .val (.int (0 : Int32)), .val (.int (0 : Int32)), .val (.ref b11), .val (.ref w_DESC)] [(.ref rkx), (.ref rkx)])) _
          refine Jvm.RoadKit.acmp (g := (mkF m 145 #[.val (.int p1), .val (.int p2), .val (.int p3), .val (.ref rkx), .val (.ref rky), .val (.int (0 : Int32)), .val (.int (0 : Int32)), .val (.int (0 : Int32)), .val (.ref b11), .val (.ref w_DESC)] [(.ref rkx), (.ref rkx)])) X17 hx rfl rfl rfl (pc0 := 145) (pc' := 150) (same := true) rfl (hb hby at_145) rfl (decide_eq_true rfl) (by decide) (by decide) ?_
          show Steps p.tables e below (T17.setTop (mkF m 150 #[.val (.int p1), .val (.int p2), .val (.int p3), .val (.ref rkx), .val (.ref rky), .val (.int (0 : Int32)), .val (.int (0 : Int32)), .val (.int (0 : Int32)), .val (.ref b11), .val (.ref w_DESC)] [])) _
          refine XS.aload X17.here hx rfl (hb hby at_150) rfl rfl ?_
          show Steps p.tables e below (T17.setTop (mkF m 152 #[.val (.int p1), .val (.int p2), .val (.int p3), .val (.ref rkx), .val (.ref rky), .val (.int (0 : Int32)), .val (.int (0 : Int32)), .val (.int (0 : Int32)), .val (.ref b11), .val (.ref w_DESC)] [(.ref b11)])) _
          refine st18.trans ?_
          show Steps p.tables e below (T18.setTop (mkF m 155 #[.val (.int p1), .val (.int p2), .val (.int p3), .val (.ref rkx), .val (.ref rky), .val (.int (0 : Int32)), .val (.int (0 : Int32)), .val (.int (0 : Int32)), .val (.ref b11), .val (.ref w_DESC)] [(.ref w_DESC)])) _
          refine XS.aload X18.here hx rfl (hb hby at_155) rfl rfl ?_
          show Steps p.tables e below (T18.setTop (mkF m 157 #[.val (.int p1), .val (.int p2), .val (.int p3), .val (.ref rkx), .val (.ref rky), .val (.int (0 : Int32)), .val (.int (0 : Int32)), .val (.int (0 : Int32)), .val (.ref b11), .val (.ref w_DESC)] [(.ref w_DESC), (.ref w_DESC)])) _
          refine Jvm.RoadKit.acmp (g := (mkF m 157 #[.val (.int p1), .val (.int p2), .val (.int p3), .val (.ref rkx), .val (.ref rky), .val (.int (0 : Int32)), .val (.int (0 : Int32)), .val (.int (0 : Int32)), .val (.ref b11), .val (.ref w_DESC)] [(.ref w_DESC), (.ref w_DESC)])) X18 hx rfl rfl rfl (pc0 := 157) (pc' := 162) (same := true) rfl (hb hby at_157) rfl (decide_eq_true rfl) (by decide) (by decide) ?_
          show Steps p.tables e below (T18.setTop (mkF m 162 #[.val (.int p1), .val (.int p2), .val (.int p3), .val (.ref rkx), .val (.ref rky), .val (.int (0 : Int32)), .val (.int (0 : Int32)), .val (.int (0 : Int32)), .val (.ref b11), .val (.ref w_DESC)] [])) _
          refine XS.iload X18.here hx rfl (hb hby at_162) rfl ?_
          show Steps p.tables e below (T18.setTop (mkF m 164 #[.val (.int p1), .val (.int p2), .val (.int p3), .val (.ref rkx), .val (.ref rky), .val (.int (0 : Int32)), .val (.int (0 : Int32)), .val (.int (0 : Int32)), .val (.ref b11), .val (.ref w_DESC)] [(.int (0 : Int32))])) _
          refine XS.ifYes X18.here hx rfl (pc0 := 164) (pc' := 193) rfl (hb hby at_164) rfl ((if0 _ _).trans (teq (rfl : (0 : Int32) = (0 : Int32))).1) (by decide) (by decide) ?_
          show Steps p.tables e below (T18.setTop (mkF m 193 #[.val (.int p1), .val (.int p2), .val (.int p3), .val (.ref rkx), .val (.ref rky), .val (.int (0 : Int32)), .val (.int (0 : Int32)), .val (.int (0 : Int32)), .val (.ref b11), .val (.ref w_DESC)] [])) _
          refine XS.aload X18.here hx rfl (hb hby at_193) rfl rfl ?_
          show Steps p.tables e below (T18.setTop (mkF m 195 #[.val (.int p1), .val (.int p2), .val (.int p3), .val (.ref rkx), .val (.ref rky), .val (.int (0 : Int32)), .val (.int (0 : Int32)), .val (.int (0 : Int32)), .val (.ref b11), .val (.ref w_DESC)] [(.ref b11)])) _
          refine st19.trans ?_
          show Steps p.tables e below (T19.setTop (mkF m 198 #[.val (.int p1), .val (.int p2), .val (.int p3), .val (.ref rkx), .val (.ref rky), .val (.int (0 : Int32)), .val (.int (0 : Int32)), .val (.int (0 : Int32)), .val (.ref b11), .val (.ref w_DESC)] [(.ref w_DESC)])) _
          refine XS.aload X19.here hx rfl (hb hby at_198) rfl rfl ?_
          show Steps p.tables e below (T19.setTop (mkF m 200 #[.val (.int p1), .val (.int p2), .val (.int p3), .val (.ref rkx), .val (.ref rky), .val (.int (0 : Int32)), .val (.int (0 : Int32)), .val (.int (0 : Int32)), .val (.ref b11), .val (.ref w_DESC)] [(.ref w_DESC), (.ref w_DESC)])) _
          refine Jvm.RoadKit.acmp (g := (mkF m 200 #[.val (.int p1), .val (.int p2), .val (.int p3), .val (.ref rkx), .val (.ref rky), .val (.int (0 : Int32)), .val (.int (0 : Int32)), .val (.int (0 : Int32)), .val (.ref b11), .val (.ref w_DESC)] [(.ref w_DESC), (.ref w_DESC)])) X19 hx rfl rfl rfl (pc0 := 200) (pc' := 205) (same := true) rfl (hb hby at_200) rfl (decide_eq_true rfl) (by decide) (by decide) ?_
          show Steps p.tables e below (T19.setTop (mkF m 205 #[.val (.int p1), .val (.int p2), .val (.int p3), .val (.ref rkx), .val (.ref rky), .val (.int (0 : Int32)), .val (.int (0 : Int32)), .val (.int (0 : Int32)), .val (.ref b11), .val (.ref w_DESC)] [])) _
          refine XS.aload X19.here hx rfl (hb hby at_205) rfl rfl ?_
          show Steps p.tables e below (T19.setTop (mkF m 207 #[.val (.int p1), .val (.int p2), .val (.int p3), .val (.ref rkx), .val (.ref rky), .val (.int (0 : Int32)), .val (.int (0 : Int32)), .val (.int (0 : Int32)), .val (.ref b11), .val (.ref w_DESC)] [(.ref b11)])) _
          refine st20.trans ?_
          show Steps p.tables e below (T20.setTop (mkF m 210 #[.val (.int p1), .val (.int p2), .val (.int p3), .val (.ref rkx), .val (.ref rky), .val (.int (0 : Int32)), .val (.int (0 : Int32)), .val (.int (0 : Int32)), .val (.ref b11), .val (.ref w_DESC)] [(.int (0 : Int32))])) _
          refine XS.iload X20.here hx rfl (hb hby at_210) rfl ?_
          show Steps p.tables e below (T20.setTop (mkF m 212 #[.val (.int p1), .val (.int p2), .val (.int p3), .val (.ref rkx), .val (.ref rky), .val (.int (0 : Int32)), .val (.int (0 : Int32)), .val (.int (0 : Int32)), .val (.ref b11), .val (.ref w_DESC)] [(.int (0 : Int32)), (.int (0 : Int32))])) _
          refine XS.icmpNo X20.here hx rfl (hb hby at_212) rfl (teq (rfl : (0 : Int32) = (0 : Int32))).2 ?_
          show Steps p.tables e below (T20.setTop (mkF m 215 #[.val (.int p1), .val (.int p2), .val (.int p3), .val (.ref rkx), .val (.ref rky), .val (.int (0 : Int32)), .val (.int (0 : Int32)), .val (.int (0 : Int32)), .val (.ref b11), .val (.ref w_DESC)] [])) _
          refine XS.iconst X20.here hx rfl (hb hby at_215) ?_
          show Steps p.tables e below (T20.setTop (mkF m 216 #[.val (.int p1), .val (.int p2), .val (.int p3), .val (.ref rkx), .val (.ref rky), .val (.int (0 : Int32)), .val (.int (0 : Int32)), .val (.int (0 : Int32)), .val (.ref b11), .val (.ref w_DESC)] [(.int (1 : Int32))])) _
          refine XS.goto X20.here hx rfl (pc0 := 216) (pc' := 220) rfl (hb hby at_216) (by decide) (by decide) ?_
          exact kt
        obtain ⟨fs, hr, hrun, hended, hW⟩ := X20.leaveW hS (by rw [hE20]; exact (Nat.le_refl _)) (v := some (.int (1 : Int32))) (fun h => by rw [Bd.returns] at h; cases h)
        refine ⟨_, _, pre21 _ ?_, hrun, hended, _, _, rfl, ?_, ⟨_, rfl⟩, hW.2.1, hW.2.2.1, hW.2.2.2.mono (by decide) (by decide)⟩
        · show Steps p.tables e below (T20.setTop (mkF m 220 #[.val (.int p1), .val (.int p2), .val (.int p3), .val (.ref rkx), .val (.ref rky), .val (.int (0 : Int32)), .val (.int (0 : Int32)), .val (.int (0 : Int32)), .val (.ref b11), .val (.ref w_DESC)] [(.int (1 : Int32))])) _
          exact retN X20 hx (t := .boolean) Bd.returns (by simp) (hb hby at_220) hr
        · show Q0 Z h0 n0 _ T20.heap _
          rw [hE20]
          exact ⟨rfl, N20⟩
      · obtain ⟨T22, h22, X22, e22, E22, A22, D22, -, st22⟩ := newO X4 hx hZ hown (hw _ (List.mem_of_getElem? (i := 10) rfl)) (hw _ (List.mem_of_getElem? (i := 11) rfl)) (hw _ (List.mem_of_getElem? (i := 12) rfl)) hE4 (g := (mkF m 62 #[.val (.int p1), .val (.int p2), .val (.int p3), .val (.ref rkx), .val (.ref rky), .val (.int (0 : Int32)), .val (.int (0 : Int32)), .val (.int (1 : Int32)), .unset, .unset] [])) rfl (hb hby at_62) (by decide) (by decide)
        obtain ⟨b22, g22⟩ : ∃ z, z = h0.size := ⟨_, rfl⟩
        rw [← g22] at A22 D22 st22
        have g_b22 : n0 ≤ b22 := Nat.le_trans Z0 (Nat.le_of_eq g22.symm)
        have F_searchTerms_b22 : Fld Z h22 b22 "com/example/wee_forge/weeforge/model/ProjectFilter" "searchTerms" "Ljava/util/List;" .null := D22 (Or.inl (hw _ (List.mem_of_getElem? (i := 26) rfl))) (ty := (.object "java/util/List")) (by decide)
        have F_topics_b22 : Fld Z h22 b22 "com/example/wee_forge/weeforge/model/ProjectFilter" "topics" "Ljava/util/List;" .null := D22 (Or.inl (hw _ (List.mem_of_getElem? (i := 28) rfl))) (ty := (.object "java/util/List")) (by decide)
        have F_lastActivity_b22 : Fld Z h22 b22 "com/example/wee_forge/weeforge/model/ProjectFilter" "lastActivity" "Lcom/example/wee_forge/weeforge/model/TimeRange;" .null := D22 (Or.inl (hw _ (List.mem_of_getElem? (i := 33) rfl))) (ty := (.object "com/example/wee_forge/weeforge/model/TimeRange")) (by decide)
        have F_updated_b22 : Fld Z h22 b22 "com/example/wee_forge/weeforge/model/ProjectFilter" "updated" "Lcom/example/wee_forge/weeforge/model/TimeRange;" .null := D22 (Or.inl (hw _ (List.mem_of_getElem? (i := 35) rfl))) (ty := (.object "com/example/wee_forge/weeforge/model/TimeRange")) (by decide)
        have F_idAfter_b22 : Fld Z h22 b22 "com/example/wee_forge/weeforge/model/ProjectFilter" "idAfter" "Ljava/util/OptionalLong;" .null := D22 (Or.inl (hw _ (List.mem_of_getElem? (i := 42) rfl))) (ty := (.object "java/util/OptionalLong")) (by decide)
        have F_idBefore_b22 : Fld Z h22 b22 "com/example/wee_forge/weeforge/model/ProjectFilter" "idBefore" "Ljava/util/OptionalLong;" .null := D22 (Or.inl (hw _ (List.mem_of_getElem? (i := 44) rfl))) (ty := (.object "java/util/OptionalLong")) (by decide)
        have F_orderBy_b22 : Fld Z h22 b22 "com/example/wee_forge/weeforge/model/ProjectFilter" "orderBy" "Lcom/example/wee_forge/weeforge/model/ProjectOrder;" .null := D22 (Or.inl (hw _ (List.mem_of_getElem? (i := 47) rfl))) (ty := (.object "com/example/wee_forge/weeforge/model/ProjectOrder")) (by decide)
        have F_sort_b22 : Fld Z h22 b22 "com/example/wee_forge/weeforge/model/ProjectFilter" "sort" "Lcom/example/wee_forge/weeforge/model/SortDirection;" .null := D22 (Or.inl (hw _ (List.mem_of_getElem? (i := 52) rfl))) (ty := (.object "com/example/wee_forge/weeforge/model/SortDirection")) (by decide)
        have F_starredOnly_b22 : Fld Z h22 b22 "com/example/wee_forge/weeforge/model/ProjectFilter" "starredOnly" "Z" (.int (0 : Int32)) := D22 (Or.inl (hw _ (List.mem_of_getElem? (i := 89) rfl))) (ty := .boolean) (by decide)
        obtain ⟨_, _, ⟨T23, L23, k23, n23⟩, -, X23, ⟨Lc23, hQ23, l23, y23, z23⟩, st23⟩ := X22.specialBack hx (y := (⟨"com/example/wee_forge/weeforge/model/ProjectFilter", "<init>", "()V"⟩ : MethodName)) rfl hown (mvT hZ (hw _ (List.mem_of_getElem? (i := 13) rfl))) (mvT hZ (hw _ (List.mem_of_getElem? (i := 14) rfl))) (mvT hZ (hw _ (List.mem_of_getElem? (i := 15) rfl))) (by decide) (backOf (W := 1) (rmC l Z a0 hw [] b22 w_ANY w_CREATED_AT w_DESC wEL wOL h22 n0 (Nat.le_trans Z0 E22.1) A22 F_searchTerms_b22 F_topics_b22 F_lastActivity_b22 F_updated_b22 F_idAfter_b22 F_idBefore_b22 F_orderBy_b22 F_sort_b22 F_starredOnly_b22 g_b22 (Sta.ext E22 S_ANY) (Sta.ext E22 S_CREATED_AT) (Sta.ext E22 S_DESC) (Sta.ext E22 S_EL) (Sta.ext E22 S_OL)) hZ (hw _ (List.mem_of_getElem? (i := 15) rfl)) (hw _ (List.mem_of_getElem? (i := 12) rfl)) (by decide) (by decide)) (g := (mkF m 66 #[.val (.int p1), .val (.int p2), .val (.int p3), .val (.ref rkx), .val (.ref rky), .val (.int (0 : Int32)), .val (.int (0 : Int32)), .val (.int (1 : Int32)), .unset, .unset] [(.ref b22), (.ref b22)])) rfl (by rw [hml]; rfl) (Steps.refl _) (a := b22) (argsL := []) (rest := [(.ref b22)]) (lenOf pd_rm0_1 rfl) rfl (by show 2 * 0 + _ ≤ _; exact Nat.le_of_eq rfl) (hb hby at_66) (fun _ _ => ⟨rfl, e22, (by decide : 1 + 0 ≤ _), (by decide : 12 + 0 ≤ _)⟩)
        dsimp only [Pt.U, Pt.locs, Pt.cells, Pt.slots] at X23 l23 y23 z23 st23 hQ23
        subst l23 y23 z23
        obtain ⟨rfl, N23q, K23, Ei23, Fs23, Fo23, Fb23⟩ := hQ23
        have N23 := Fr.app N4 N23q
        obtain ⟨cq24, kq24, q24a, q24b, q24c⟩ := isOf hZ rfl Ei23
        obtain ⟨_, _, ⟨T24, L24, k24, n24⟩, -, X24, ⟨Lc24, hQ24, l24, y24, z24⟩, st24⟩ := X23.virtualBack hx (y := (⟨"com/example/wee_forge/weeforge/model/ProjectFilter", "orderBy", "()Lcom/example/wee_forge/weeforge/model/ProjectOrder;"⟩ : MethodName)) (z := (⟨"com/example/wee_forge/weeforge/model/ProjectFilter", "orderBy", "()Lcom/example/wee_forge/weeforge/model/ProjectOrder;"⟩ : MethodName)) hown (mvT hZ (hw _ (List.mem_of_getElem? (i := 53) rfl))) (mvT hZ (hw _ (List.mem_of_getElem? (i := 54) rfl))) (notFace_of_selects (args := #[]) (mvT hZ (hw _ (List.mem_of_getElem? (i := 56) rfl)))) (mvT hZ (hw _ (List.mem_of_getElem? (i := 56) rfl))) (mvT hZ (hw _ (List.mem_of_getElem? (i := 55) rfl))) (by decide) (backOf (W := 0) (rmg_orderBy l Z a0 hw [] b22 w_CREATED_AT T23.heap n0 (Nat.le_trans (Nat.le_trans Z0 E22.1) K23.1) Fo23) hZ (hw _ (List.mem_of_getElem? (i := 57) rfl)) (hw _ (List.mem_of_getElem? (i := 12) rfl)) (by decide) (by decide)) q24a q24c (g := (mkF m 73 #[.val (.int p1), .val (.int p2), .val (.int p3), .val (.ref rkx), .val (.ref rky), .val (.int (0 : Int32)), .val (.int (0 : Int32)), .val (.int (1 : Int32)), .val (.ref b22), .unset] [(.ref b22)])) rfl (by rw [hml]; rfl) (Steps.refl _) (argsL := []) (rest := []) (lenOf pd_rm0_2 rfl) rfl (by show 2 * 0 + _ ≤ _; exact Nat.le_of_eq rfl) (hb hby at_73) (fun _ _ => ⟨rfl, rfl, (by decide : 1 + 0 ≤ _), (by decide : 12 + 0 ≤ _)⟩)
        dsimp only [Pt.U, Pt.locs, Pt.cells, Pt.slots] at X24 l24 y24 z24 st24 hQ24
        subst l24 y24 z24
        obtain ⟨rfl, N24q, hE24⟩ := hQ24
        have N24 := Fr.app N23 N24q
        obtain ⟨T25, X25, e25, st25⟩ := getS2 X24 hx hZ hown (host := "") (Or.inl (hw _ (List.mem_of_getElem? (i := 8) rfl))) Via.refl hE24 (own_staK (Sta.ext E22 S_CREATED_AT) K23 (allS ⟨_, A22⟩ all0)) (g := (mkF m 76 #[.val (.int p1), .val (.int p2), .val (.int p3), .val (.ref rkx), .val (.ref rky), .val (.int (0 : Int32)), .val (.int (0 : Int32)), .val (.int (1 : Int32)), .val (.ref b22), .unset] [(.ref w_CREATED_AT)])) rfl (hb hby at_76)
        obtain ⟨cq26, kq26, q26a, q26b, q26c⟩ := isOf hZ e25 Ei23
        obtain ⟨_, _, ⟨T26, L26, k26, n26⟩, -, X26, ⟨Lc26, hQ26, l26, y26, z26⟩, st26⟩ := X25.virtualBack hx (y := (⟨"com/example/wee_forge/weeforge/model/ProjectFilter", "starredOnly", "(Z)Lcom/example/wee_forge/weeforge/model/ProjectFilter;"⟩ : MethodName)) (z := (⟨"com/example/wee_forge/weeforge/model/ProjectFilter", "starredOnly", "(Z)Lcom/example/wee_forge/weeforge/model/ProjectFilter;"⟩ : MethodName)) hown (mvT hZ (hw _ (List.mem_of_getElem? (i := 104) rfl))) (mvT hZ (hw _ (List.mem_of_getElem? (i := 105) rfl))) (notFace_of_selects (args := #[]) (mvT hZ (hw _ (List.mem_of_getElem? (i := 107) rfl)))) (mvT hZ (hw _ (List.mem_of_getElem? (i := 107) rfl))) (mvT hZ (hw _ (List.mem_of_getElem? (i := 106) rfl))) (by decide) (backOf (W := 0) (rm_star l Z a0 hw [] b22 w_DESC w_CREATED_AT (0 : Int32) T23.heap n0 (Nat.le_trans (Nat.le_trans Z0 E22.1) K23.1) Ei23 Fs23 Fo23 Fb23 g_b22) hZ (hw _ (List.mem_of_getElem? (i := 108) rfl)) (hw _ (List.mem_of_getElem? (i := 12) rfl)) (by decide) (by decide)) q26a q26c (g := (mkF m 106 #[.val (.int p1), .val (.int p2), .val (.int p3), .val (.ref rkx), .val (.ref rky), .val (.int (0 : Int32)), .val (.int (0 : Int32)), .val (.int (1 : Int32)), .val (.ref b22), .unset] [(.int (1 : Int32)), (.ref b22)])) rfl (by rw [hml]; rfl) (Steps.refl _) (argsL := [(.int (1 : Int32))]) (rest := []) (lenOf pd_rm0_6 rfl) rfl (by show 2 * 0 + _ ≤ _; exact Nat.le_of_eq rfl) (hb hby at_106) (fun _ _ => ⟨rfl, e25, (by decide : 1 + 0 ≤ _), (by decide : 12 + 0 ≤ _)⟩)
        dsimp only [Pt.U, Pt.locs, Pt.cells, Pt.slots] at X26 l26 y26 z26 st26 hQ26
        subst l26 y26 z26
        obtain ⟨rfl, N26q, K26, Ei26, Fs26, Fo26, Fb26⟩ := hQ26
        have N26 := Fr.app N24 N26q
        obtain ⟨T27, X27, e27, st27⟩ := getS2 X26 hx hZ hown (host := "") (Or.inl (hw _ (List.mem_of_getElem? (i := 58) rfl))) Via.refl rfl (own_staK (own_staK (Sta.ext E22 S_DESC) K23 (allS ⟨_, A22⟩ all0)) K26 (allS ⟨_, Ei23⟩ all0)) (g := (mkF m 121 #[.val (.int p1), .val (.int p2), .val (.int p3), .val (.ref rkx), .val (.ref rky), .val (.int (0 : Int32)), .val (.int (0 : Int32)), .val (.int (1 : Int32)), .val (.ref b22), .unset] [])) rfl (hb hby at_121)
        obtain ⟨cq28, kq28, q28a, q28b, q28c⟩ := isOf hZ e27 Ei26
        obtain ⟨_, _, ⟨T28, L28, k28, n28⟩, -, X28, hSb28, hgr28, ⟨Lc28, hQ28, l28, y28, z28⟩, st28⟩ := X27.virtualBackS hx (y := (⟨"com/example/wee_forge/weeforge/model/ProjectFilter", "orderBy", "(Lcom/example/wee_forge/weeforge/model/ProjectOrder;)Lcom/example/wee_forge/weeforge/model/ProjectFilter;"⟩ : MethodName)) (z := (⟨"com/example/wee_forge/weeforge/model/ProjectFilter", "orderBy", "(Lcom/example/wee_forge/weeforge/model/ProjectOrder;)Lcom/example/wee_forge/weeforge/model/ProjectFilter;"⟩ : MethodName)) hown (mvT hZ (hw _ (List.mem_of_getElem? (i := 59) rfl))) (mvT hZ (hw _ (List.mem_of_getElem? (i := 60) rfl))) (notFace_of_selects (args := #[]) (mvT hZ (hw _ (List.mem_of_getElem? (i := 62) rfl)))) (mvT hZ (hw _ (List.mem_of_getElem? (i := 62) rfl))) (mvT hZ (hw _ (List.mem_of_getElem? (i := 61) rfl))) (by decide) (backOfS (W := 0) (rm_orderBy l Z a0 hw [] b22 rkx w_DESC w_CREATED_AT (1 : Int32) T26.heap n0 (Nat.le_trans (Nat.le_trans (Nat.le_trans Z0 E22.1) K23.1) K26.1) Ei26 Fs26 Fo26 Fb26 g_b22 (((Exa.ext E22 E_rkx).keep K23).keep K26)) hZ (hw _ (List.mem_of_getElem? (i := 63) rfl)) (hw _ (List.mem_of_getElem? (i := 12) rfl)) (by decide) (by decide)) q28a q28c (g := (mkF m 129 #[.val (.int p1), .val (.int p2), .val (.int p3), .val (.ref rkx), .val (.ref rky), .val (.int (0 : Int32)), .val (.int (0 : Int32)), .val (.int (1 : Int32)), .val (.ref b22), .val (.ref w_DESC)] [(.ref rkx), (.ref b22)])) rfl (by rw [hml]; rfl) (Steps.refl _) (argsL := [(.ref rkx)]) (rest := []) (lenOf pd_rm0_3 rfl) rfl (by show 2 * 0 + _ ≤ _; exact Nat.le_of_eq rfl) (hb hby at_129) (fun _ _ => ⟨rfl, e27, (by decide : 1 + 2 ≤ _), (by decide : 12 + 32 ≤ _)⟩)
        dsimp only [Pt.U, Pt.locs, Pt.cells, Pt.slots] at X28 l28 y28 z28 st28 hQ28 hSb28 hgr28
        subst l28 y28 z28
        obtain ⟨X28, hS, hZ, hown⟩ := rebS hS (by rw [e27]; exact (Nat.le_trans (Nat.le_trans (Nat.le_trans hk E22.1) K23.1) K26.1)) X28 hSb28 hgr28 hZ hown
        obtain ⟨rfl, N28q, K28, Ei28, Fs28, Fo28, Fb28⟩ := hQ28
        have N28 := Fr.app N26 N28q
        obtain ⟨cq29, kq29, q29a, q29b, q29c⟩ := isOf hZ rfl Ei28
        obtain ⟨_, _, ⟨T29, L29, k29, n29⟩, -, X29, ⟨Lc29, hQ29, l29, y29, z29⟩, st29⟩ := X28.virtualBack hx (y := (⟨"com/example/wee_forge/weeforge/model/ProjectFilter", "orderBy", "()Lcom/example/wee_forge/weeforge/model/ProjectOrder;"⟩ : MethodName)) (z := (⟨"com/example/wee_forge/weeforge/model/ProjectFilter", "orderBy", "()Lcom/example/wee_forge/weeforge/model/ProjectOrder;"⟩ : MethodName)) hown (mvT hZ (hw _ (List.mem_of_getElem? (i := 53) rfl))) (mvT hZ (hw _ (List.mem_of_getElem? (i := 54) rfl))) (notFace_of_selects (args := #[]) (mvT hZ (hw _ (List.mem_of_getElem? (i := 56) rfl)))) (mvT hZ (hw _ (List.mem_of_getElem? (i := 56) rfl))) (mvT hZ (hw _ (List.mem_of_getElem? (i := 55) rfl))) (by decide) (backOf (W := 0) (rmg_orderBy l Z a0 hw [] b22 rkx T28.heap n0 (Nat.le_trans (Nat.le_trans (Nat.le_trans (Nat.le_trans Z0 E22.1) K23.1) K26.1) K28.1) Fo28) hZ (hw _ (List.mem_of_getElem? (i := 57) rfl)) (hw _ (List.mem_of_getElem? (i := 12) rfl)) (by decide) (by decide)) q29a q29c (g := (mkF m 141 #[.val (.int p1), .val (.int p2), .val (.int p3), .val (.ref rkx), .val (.ref rky), .val (.int (0 : Int32)), .val (.int (0 : Int32)), .val (.int (1 : Int32)), .val (.ref b22), .val (.ref w_DESC)] [(.ref b22)])) rfl (by rw [hml]; rfl) (Steps.refl _) (argsL := []) (rest := []) (lenOf pd_rm0_2 rfl) rfl (by show 2 * 0 + _ ≤ _; exact Nat.le_of_eq rfl) (hb hby at_141) (fun _ _ => ⟨rfl, rfl, (by decide : 3 + 0 ≤ _), (by decide : 44 + 0 ≤ _)⟩)
        dsimp only [Pt.U, Pt.locs, Pt.cells, Pt.slots] at X29 l29 y29 z29 st29 hQ29
        subst l29 y29 z29
        obtain ⟨rfl, N29q, hE29⟩ := hQ29
        have N29 := Fr.app N28 N29q
        obtain ⟨cq30, kq30, q30a, q30b, q30c⟩ := isOf hZ hE29 Ei28
        obtain ⟨_, _, ⟨T30, L30, k30, n30⟩, -, X30, ⟨Lc30, hQ30, l30, y30, z30⟩, st30⟩ := X29.virtualBack hx (y := (⟨"com/example/wee_forge/weeforge/model/ProjectFilter", "sort", "()Lcom/example/wee_forge/weeforge/model/SortDirection;"⟩ : MethodName)) (z := (⟨"com/example/wee_forge/weeforge/model/ProjectFilter", "sort", "()Lcom/example/wee_forge/weeforge/model/SortDirection;"⟩ : MethodName)) hown (mvT hZ (hw _ (List.mem_of_getElem? (i := 78) rfl))) (mvT hZ (hw _ (List.mem_of_getElem? (i := 79) rfl))) (notFace_of_selects (args := #[]) (mvT hZ (hw _ (List.mem_of_getElem? (i := 81) rfl)))) (mvT hZ (hw _ (List.mem_of_getElem? (i := 81) rfl))) (mvT hZ (hw _ (List.mem_of_getElem? (i := 80) rfl))) (by decide) (backOf (W := 0) (rmg_sort l Z a0 hw [] b22 w_DESC T28.heap n0 (Nat.le_trans (Nat.le_trans (Nat.le_trans (Nat.le_trans Z0 E22.1) K23.1) K26.1) K28.1) Fs28) hZ (hw _ (List.mem_of_getElem? (i := 82) rfl)) (hw _ (List.mem_of_getElem? (i := 12) rfl)) (by decide) (by decide)) q30a q30c (g := (mkF m 152 #[.val (.int p1), .val (.int p2), .val (.int p3), .val (.ref rkx), .val (.ref rky), .val (.int (0 : Int32)), .val (.int (0 : Int32)), .val (.int (1 : Int32)), .val (.ref b22), .val (.ref w_DESC)] [(.ref b22)])) rfl (by rw [hml]; rfl) (Steps.refl _) (argsL := []) (rest := []) (lenOf pd_rm0_4 rfl) rfl (by show 2 * 0 + _ ≤ _; exact Nat.le_of_eq rfl) (hb hby at_152) (fun _ _ => ⟨rfl, hE29, (by decide : 3 + 0 ≤ _), (by decide : 44 + 0 ≤ _)⟩)
        dsimp only [Pt.U, Pt.locs, Pt.cells, Pt.slots] at X30 l30 y30 z30 st30 hQ30
        subst l30 y30 z30
        obtain ⟨rfl, N30q, hE30⟩ := hQ30
        have N30 := Fr.app N29 N30q
        obtain ⟨cq31, kq31, q31a, q31b, q31c⟩ := isOf hZ hE30 Ei28
        obtain ⟨_, _, ⟨T31, L31, k31, n31⟩, -, X31, ⟨Lc31, hQ31, l31, y31, z31⟩, st31⟩ := X30.virtualBack hx (y := (⟨"com/example/wee_forge/weeforge/model/ProjectFilter", "sort", "()Lcom/example/wee_forge/weeforge/model/SortDirection;"⟩ : MethodName)) (z := (⟨"com/example/wee_forge/weeforge/model/ProjectFilter", "sort", "()Lcom/example/wee_forge/weeforge/model/SortDirection;"⟩ : MethodName)) hown (mvT hZ (hw _ (List.mem_of_getElem? (i := 78) rfl))) (mvT hZ (hw _ (List.mem_of_getElem? (i := 79) rfl))) (notFace_of_selects (args := #[]) (mvT hZ (hw _ (List.mem_of_getElem? (i := 81) rfl)))) (mvT hZ (hw _ (List.mem_of_getElem? (i := 81) rfl))) (mvT hZ (hw _ (List.mem_of_getElem? (i := 80) rfl))) (by decide) (backOf (W := 0) (rmg_sort l Z a0 hw [] b22 w_DESC T28.heap n0 (Nat.le_trans (Nat.le_trans (Nat.le_trans (Nat.le_trans Z0 E22.1) K23.1) K26.1) K28.1) Fs28) hZ (hw _ (List.mem_of_getElem? (i := 82) rfl)) (hw _ (List.mem_of_getElem? (i := 12) rfl)) (by decide) (by decide)) q31a q31c (g := (mkF m 195 #[.val (.int p1), .val (.int p2), .val (.int p3), .val (.ref rkx), .val (.ref rky), .val (.int (0 : Int32)), .val (.int (0 : Int32)), .val (.int (1 : Int32)), .val (.ref b22), .val (.ref w_DESC)] [(.ref b22)])) rfl (by rw [hml]; rfl) (Steps.refl _) (argsL := []) (rest := []) (lenOf pd_rm0_4 rfl) rfl (by show 2 * 0 + _ ≤ _; exact Nat.le_of_eq rfl) (hb hby at_195) (fun _ _ => ⟨rfl, hE30, (by decide : 3 + 0 ≤ _), (by decide : 44 + 0 ≤ _)⟩)
        dsimp only [Pt.U, Pt.locs, Pt.cells, Pt.slots] at X31 l31 y31 z31 st31 hQ31
        subst l31 y31 z31
        obtain ⟨rfl, N31q, hE31⟩ := hQ31
        have N31 := Fr.app N30 N31q
        obtain ⟨cq32, kq32, q32a, q32b, q32c⟩ := isOf hZ hE31 Ei28
        obtain ⟨_, _, ⟨T32, L32, k32, n32⟩, -, X32, ⟨Lc32, hQ32, l32, y32, z32⟩, st32⟩ := X31.virtualBack hx (y := (⟨"com/example/wee_forge/weeforge/model/ProjectFilter", "starredOnly", "()Z"⟩ : MethodName)) (z := (⟨"com/example/wee_forge/weeforge/model/ProjectFilter", "starredOnly", "()Z"⟩ : MethodName)) hown (mvT hZ (hw _ (List.mem_of_getElem? (i := 83) rfl))) (mvT hZ (hw _ (List.mem_of_getElem? (i := 84) rfl))) (notFace_of_selects (args := #[]) (mvT hZ (hw _ (List.mem_of_getElem? (i := 86) rfl)))) (mvT hZ (hw _ (List.mem_of_getElem? (i := 86) rfl))) (mvT hZ (hw _ (List.mem_of_getElem? (i := 85) rfl))) (by decide) (backOf (W := 0) (rmg_starredOnly l Z a0 hw [] b22 (1 : Int32) T28.heap n0 (Nat.le_trans (Nat.le_trans (Nat.le_trans (Nat.le_trans Z0 E22.1) K23.1) K26.1) K28.1) Fb28 (by decide)) hZ (hw _ (List.mem_of_getElem? (i := 87) rfl)) (hw _ (List.mem_of_getElem? (i := 12) rfl)) (by decide) (by decide)) q32a q32c (g := (mkF m 207 #[.val (.int p1), .val (.int p2), .val (.int p3), .val (.ref rkx), .val (.ref rky), .val (.int (0 : Int32)), .val (.int (0 : Int32)), .val (.int (1 : Int32)), .val (.ref b22), .val (.ref w_DESC)] [(.ref b22)])) rfl (by rw [hml]; rfl) (Steps.refl _) (argsL := []) (rest := []) (lenOf pd_rm0_5 rfl) rfl (by show 2 * 0 + _ ≤ _; exact Nat.le_of_eq rfl) (hb hby at_207) (fun _ _ => ⟨rfl, hE31, (by decide : 3 + 0 ≤ _), (by decide : 44 + 0 ≤ _)⟩)
        dsimp only [Pt.U, Pt.locs, Pt.cells, Pt.slots] at X32 l32 y32 z32 st32 hQ32
        subst l32 y32 z32
        obtain ⟨rfl, N32q, hE32⟩ := hQ32
        have N32 := Fr.app N31 N32q
        have pre33 : ∀ tt, Steps p.tables e below (T32.setTop (mkF m 220 #[.val (.int p1), .val (.int p2), .val (.int p3), .val (.ref rkx), .val (.ref rky), .val (.int (0 : Int32)), .val (.int (0 : Int32)), .val (.int (1 : Int32)), .val (.ref b22), .val (.ref w_DESC)] [(.int (1 : Int32))])) tt → Steps p.tables e below (s₁.setTop (entryFrame m #[(.int p1), (.int p2), (.int p3)] maxLocals)) tt := by
          intro tt kt
          refine pre9 tt ?_
          show Steps p.tables e below (T4.setTop (mkF m 52 #[.val (.int p1), .val (.int p2), .val (.int p3), .val (.ref rkx), .val (.ref rky), .val (.int (0 : Int32)), .val (.int (0 : Int32)), .unset, .unset, .unset] [(.int (p3 &&& (4 : Int32)))])) _
          refine XS.ifNo X4.here hx rfl (hb hby at_52) rfl ((if0 _ _).trans (feq c52_10).1) ?_
          show Steps p.tables e below (T4.setTop (mkF m 55 #[.val (.int p1), .val (.int p2), .val (.int p3), .val (.ref rkx), .val (.ref rky), .val (.int (0 : Int32)), .val (.int (0 : Int32)), .unset, .unset, .unset] [])) _
          refine XS.iconst X4.here hx rfl (hb hby at_55) ?_
          show Steps p.tables e below (T4.setTop (mkF m 56 #[.val (.int p1), .val (.int p2), .val (.int p3), .val (.ref rkx), .val (.ref rky), .val (.int (0 : Int32)), .val (.int (0 : Int32)), .unset, .unset, .unset] [(.int (1 : Int32))])) _
          refine XS.goto X4.here hx rfl (pc0 := 56) (pc' := 60) rfl (hb hby at_56) (by decide) (by decide) ?_
          show Steps p.tables e below (T4.setTop (mkF m 60 #[.val (.int p1), .val (.int p2), .val (.int p3), .val (.ref rkx), .val (.ref rky), .val (.int (0 : Int32)), .val (.int (0 : Int32)), .unset, .unset, .unset] [(.int (1 : Int32))])) _
          refine XS.istore X4.here hx rfl (hb hby at_60) rfl (l' := #[.val (.int p1), .val (.int p2), .val (.int p3), .val (.ref rkx), .val (.ref rky), .val (.int (0 : Int32)), .val (.int (0 : Int32)), .val (.int (1 : Int32)), .unset, .unset]) rfl ?_
          show Steps p.tables e below (T4.setTop (mkF m 62 #[.val (.int p1), .val (.int p2), .val (.int p3), .val (.ref rkx), .val (.ref rky), .val (.int (0 : Int32)), .val (.int (0 : Int32)), .val (.int (1 : Int32)), .unset, .unset] [])) _
          refine st22 _ ?_
          show Steps p.tables e below (T22.setTop (mkF m 65 #[.val (.int p1), .val (.int p2), .val (.int p3), .val (.ref rkx), .val (.ref rky), .val (.int (0 : Int32)), .val (.int (0 : Int32)), .val (.int (1 : Int32)), .unset, .unset] [(.ref b22)])) _
          refine XS.dup X22.here hx rfl (hb hby at_65) rfl rfl ?_
          show Steps p.tables e below (T22.setTop (mkF m 66 #[.val (.int p1), .val (.int p2), .val (.int p3), .val (.ref rkx), .val (.ref rky), .val (.int (0 : Int32)), .val (.int (0 : Int32)), .val (.int (1 : Int32)), .unset, .unset] [(.ref b22), (.ref b22)])) _
          refine st23.trans ?_
          show Steps p.tables e below (T23.setTop (mkF m 69 #[.val (.int p1), .val (.int p2), .val (.int p3), .val (.ref rkx), .val (.ref rky), .val (.int (0 : Int32)), .val (.int (0 : Int32)), .val (.int (1 : Int32)), .unset, .unset] [(.ref b22)])) _
          refine XS.astore X23.here hx rfl (hb hby at_69) rfl rfl (l' := #[.val (.int p1), .val (.int p2), .val (.int p3), .val (.ref rkx), .val (.ref rky), .val (.int (0 : Int32)), .val (.int (0 : Int32)), .val (.int (1 : Int32)), .val (.ref b22), .unset]) rfl ?_
          show Steps p.tables e below (T23.setTop (mkF m 71 #[.val (.int p1), .val (.int p2), .val (.int p3), .val (.ref rkx), .val (.ref rky), .val (.int (0 : Int32)), .val (.int (0 : Int32)), .val (.int (1 : Int32)), .val (.ref b22), .unset] [])) _
          refine XS.aload X23.here hx rfl (hb hby at_71) rfl rfl ?_
          show Steps p.tables e below (T23.setTop (mkF m 73 #[.val (.int p1), .val (.int p2), .val (.int p3), .val (.ref rkx), .val (.ref rky), .val (.int (0 : Int32)), .val (.int (0 : Int32)), .val (.int (1 : Int32)), .val (.ref b22), .unset] [(.ref b22)])) _
          refine st24.trans ?_
          show Steps p.tables e below (T24.setTop (mkF m 76 #[.val (.int p1), .val (.int p2), .val (.int p3), .val (.ref rkx), .val (.ref rky), .val (.int (0 : Int32)), .val (.int (0 : Int32)), .val (.int (1 : Int32)), .val (.ref b22), .unset] [(.ref w_CREATED_AT)])) _
          refine st25 _ ?_
          show Steps p.tables e below (T25.setTop (mkF m 79 #[.val (.int p1), .val (.int p2), .val (.int p3), .val (.ref rkx), .val (.ref rky), .val (.int (0 : Int32)), .val (.int (0 : Int32)), .val (.int (1 : Int32)), .val (.ref b22), .unset] [(.ref w_CREATED_AT), (.ref w_CREATED_AT)])) _
          refine Jvm.RoadKit.acmp (g := (mkF m 79 #[.val (.int p1), .val (.int p2), .val (.int p3), .val (.ref rkx), .val (.ref rky), .val (.int (0 : Int32)), .val (.int (0 : Int32)), .val (.int (1 : Int32)), .val (.ref b22), .unset] [(.ref w_CREATED_AT), (.ref w_CREATED_AT)])) X25 hx rfl rfl rfl (pc0 := 79) (pc' := 84) (same := true) rfl (hb hby at_79) rfl (decide_eq_true rfl) (by decide) (by decide) ?_
          show Steps p.tables e below (T25.setTop (mkF m 84 #[.val (.int p1), .val (.int p2), .val (.int p3), .val (.ref rkx), .val (.ref rky), .val (.int (0 : Int32)), .val (.int (0 : Int32)), .val (.int (1 : Int32)), .val (.ref b22), .unset] [])) _
          refine XS.iload X25.here hx rfl (hb hby at_84) rfl ?_
          show Steps p.tables e below (T25.setTop (mkF m 86 #[.val (.int p1), .val (.int p2), .val (.int p3), .val (.ref rkx), .val (.ref rky), .val (.int (0 : Int32)), .val (.int (0 : Int32)), .val (.int (1 : Int32)), .val (.ref b22), .unset] [(.int (0 : Int32))])) _
          refine XS.ifYes X25.here hx rfl (pc0 := 86) (pc' := 98) rfl (hb hby at_86) rfl ((if0 _ _).trans (teq (rfl : (0 : Int32) = (0 : Int32))).1) (by decide) (by decide) ?_
          show Steps p.tables e below (T25.setTop (mkF m 98 #[.val (.int p1), .val (.int p2), .val (.int p3), .val (.ref rkx), .val (.ref rky), .val (.int (0 : Int32)), .val (.int (0 : Int32)), .val (.int (1 : Int32)), .val (.ref b22), .unset] [])) _
          refine XS.iload X25.here hx rfl (hb hby at_98) rfl ?_
          show Steps p.tables e below (T25.setTop (mkF m 100 #[.val (.int p1), .val (.int p2), .val (.int p3), .val (.ref rkx), .val (.ref rky), .val (.int (0 : Int32)), .val (.int (0 : Int32)), .val (.int (1 : Int32)), .val (.ref b22), .unset] [(.int (1 : Int32))])) _
          refine XS.ifNo X25.here hx rfl (hb hby at_100) rfl ((if0 _ _).trans (feq (by decide : ¬ ((1 : Int32) = (0 : Int32)))).1) ?_
          show Steps p.tables e below (T25.setTop (mkF m 103 #[.val (.int p1), .val (.int p2), .val (.int p3), .val (.ref rkx), .val (.ref rky), .val (.int (0 : Int32)), .val (.int (0 : Int32)), .val (.int (1 : Int32)), .val (.ref b22), .unset] [])) _
          refine XS.aload X25.here hx rfl (hb hby at_103) rfl rfl ?_
          show Steps p.tables e below (T25.setTop (mkF m 105 #[.val (.int p1), .val (.int p2), .val (.int p3), .val (.ref rkx), .val (.ref rky), .val (.int (0 : Int32)), .val (.int (0 : Int32)), .val (.int (1 : Int32)), .val (.ref b22), .unset] [(.ref b22)])) _
          refine XS.iconst X25.here hx rfl (hb hby at_105) ?_
          show Steps p.tables e below (T25.setTop (mkF m 106 #[.val (.int p1), .val (.int p2), .val (.int p3), .val (.ref rkx), .val (.ref rky), .val (.int (0 : Int32)), .val (.int (0 : Int32)), .val (.int (1 : Int32)), .val (.ref b22), .unset] [(.int (1 : Int32)), (.ref b22)])) _
          refine st26.trans ?_
          show Steps p.tables e below (T26.setTop (mkF m 109 #[.val (.int p1), .val (.int p2), .val (.int p3), .val (.ref rkx), .val (.ref rky), .val (.int (0 : Int32)), .val (.int (0 : Int32)), .val (.int (1 : Int32)), .val (.ref b22), .unset] [(.ref b22)])) _
          refine XS.pop X26.here hx rfl (hb hby at_109) rfl rfl ?_
          show Steps p.tables e below (T26.setTop (mkF m 110 #[.val (.int p1), .val (.int p2), .val (.int p3), .val (.ref rkx), .val (.ref rky), .val (.int (0 : Int32)), .val (.int (0 : Int32)), .val (.int (1 : Int32)), .val (.ref b22), .unset] [])) _
          refine XS.iload X26.here hx rfl (hb hby at_110) rfl ?_
          show Steps p.tables e below (T26.setTop (mkF m 112 #[.val (.int p1), .val (.int p2), .val (.int p3), .val (.ref rkx), .val (.ref rky), .val (.int (0 : Int32)), .val (.int (0 : Int32)), .val (.int (1 : Int32)), .val (.ref b22), .unset] [(.int (0 : Int32))])) _
          refine XS.ifYes X26.here hx rfl (pc0 := 112) (pc' := 121) rfl (hb hby at_112) rfl ((if0 _ _).trans (teq (rfl : (0 : Int32) = (0 : Int32))).1) (by decide) (by decide) ?_
          show Steps p.tables e below (T26.setTop (mkF m 121 #[.val (.int p1), .val (.int p2), .val (.int p3), .val (.ref rkx), .val (.ref rky), .val (.int (0 : Int32)), .val (.int (0 : Int32)), .val (.int (1 : Int32)), .val (.ref b22), .unset] [])) _
          refine st27 _ ?_
          show Steps p.tables e below (T27.setTop (mkF m 124 #[.val (.int p1), .val (.int p2), .val (.int p3), .val (.ref rkx), .val (.ref rky), .val (.int (0 : Int32)), .val (.int (0 : Int32)), .val (.int (1 : Int32)), .val (.ref b22), .unset] [(.ref w_DESC)])) _
          refine XS.astore X27.here hx rfl (hb hby at_124) rfl rfl (l' := #[.val (.int p1), .val (.int p2), .val (.int p3), .val (.ref rkx), .val (.ref rky), .val (.int (0 : Int32)), .val (.int (0 : Int32)), .val (.int (1 : Int32)), .val (.ref b22), .val (.ref w_DESC)]) rfl ?_
          show Steps p.tables e below (T27.setTop (mkF m 126 #[.val (.int p1), .val (.int p2), .val (.int p3), .val (.ref rkx), .val (.ref rky), .val (.int (0 : Int32)), .val (.int (0 : Int32)), .val (.int (1 : Int32)), .val (.ref b22), .val (.ref w_DESC)] [])) _
          refine XS.aload X27.here hx rfl (hb hby at_126) rfl rfl ?_
          show Steps p.tables e below (T27.setTop (mkF m 128 #[.val (.int p1), .val (.int p2), .val (.int p3), .val (.ref rkx), .val (.ref rky), .val (.int (0 : Int32)), .val (.int (0 : Int32)), .val (.int (1 : Int32)), .val (.ref b22), .val (.ref w_DESC)] [(.ref b22)])) _
          refine XS.aloadN X27.here hx rfl (hb hby at_128) rfl rfl ?_
          show Steps p.tables e below (T27.setTop (mkF m 129 #[.val (.int p1), .val (.int p2), .val (.int p3), .val (.ref rkx), .val (.ref rky), .val (.int (0 : Int32)), .val (.int (0 : Int32)), .val (.int (1 : Int32)), .val (.ref b22), .val (.ref w_DESC)] [(.ref rkx), (.ref b22)])) _
          refine st28.trans ?_
          show Steps p.tables e below (T28.setTop (mkF m 132 #[.val (.int p1), .val (.int p2), .val (.int p3), .val (.ref rkx), .val (.ref rky), .val (.int (0 : Int32)), .val (.int (0 : Int32)), .val (.int (1 : Int32)), .val (.ref b22), .val (.ref w_DESC)] [(.ref b22)])) _
          refine XS.aload X28.here hx rfl (hb hby at_132) rfl rfl ?_
          show Steps p.tables e below (T28.setTop (mkF m 134 #[.val (.int p1), .val (.int p2), .val (.int p3), .val (.ref rkx), .val (.ref rky), .val (.int (0 : Int32)), .val (.int (0 : Int32)), .val (.int (1 : Int32)), .val (.ref b22), .val (.ref w_DESC)] [(.ref b22), (.ref b22)])) _
          refine Jvm.RoadKit.acmp (g := (mkF m 134 #[.val (.int p1), .val (.int p2), .val (.int p3), .val (.ref rkx), .val (.ref rky), .val (.int (0 : Int32)), .val (.int (0 : Int32)), .val (.int (1 : Int32)), .val (.ref b22), .val (.ref w_DESC)] [(.ref b22), (.ref b22)])) X28 hx rfl rfl rfl (pc0 := 134) (pc' := 139) (same := true) rfl (hb hby at_134) rfl (decide_eq_true rfl) (by decide) (by decide) ?_
          show Steps p.tables e below (T28.setTop (mkF m 139 #[.val (.int p1), .val (.int p2), .val (.int p3), .val (.ref rkx), .val (.ref rky), .val (.int (0 : Int32)), .val (.int (0 : Int32)), .val (.int (1 : Int32)), .val (.ref b22), .val (.ref w_DESC)] [])) _
          refine XS.aload X28.here hx rfl (hb hby at_139) rfl rfl ?_
          show Steps p.tables e below (T28.setTop (mkF m 141 #[.val (.int p1), .val (.int p2), .val (.int p3), .val (.ref rkx), .val (.ref rky), .val (.int (0 : Int32)), .val (.int (0 : Int32)), .val (.int (1 : Int32)), .val (.ref b22), .val (.ref w_DESC)] [(.ref b22)])) _
          refine st29.trans ?_
          show Steps p.tables e below (T29.setTop (mkF m 144 #[.val (.int p1), .val (.int p2), .val (.int p3), .val (.ref rkx), .val (.ref rky), .val (.int (0 : Int32)), .val (.int (0 : Int32)), .val (.int (1 : Int32)), .val (.ref b22), .val (.ref w_DESC)] [(.ref rkx)])) _
          refine XS.aloadN X29.here hx rfl (hb hby at_144) rfl rfl ?_
          show Steps p.tables e below (T29.setTop (mkF m 145 #[.val (.int p1), .val (.int p2), .val (.int p3), .val (.ref rkx), .val (.ref rky), .val (.int (0 : Int32)), .val (.int (0 : Int32)), .val (.int (1 : Int32)), .val (.ref b22), .val (.ref w_DESC)] [(.ref rkx), (.ref rkx)])) _
          refine Jvm.RoadKit.acmp (g := (mkF m 145 #[.val (.int p1), .val (.int p2), .val (.int p3), .val (.ref rkx), .val (.ref rky), .val (.int (0 : Int32)), .val (.int (0 : Int32)), .val (.int (1 : Int32)), .val (.ref b22), .val (.ref w_DESC)] [(.ref rkx), (.ref rkx)])) X29 hx rfl rfl rfl (pc0 := 145) (pc' := 150) (same := true) rfl (hb hby at_145) rfl (decide_eq_true rfl) (by decide) (by decide) ?_
          show Steps p.tables e below (T29.setTop (mkF m 150 #[.val (.int p1), .val (.int p2), .val (.int p3), .val (.ref rkx), .val (.ref rky), .val (.int (0 : Int32)), .val (.int (0 : Int32)), .val (.int (1 : Int32)), .val (.ref b22), .val (.ref w_DESC)] [])) _
          refine XS.aload X29.here hx rfl (hb hby at_150) rfl rfl ?_
          show Steps p.tables e below (T29.setTop (mkF m 152 #[.val (.int p1), .val (.int p2), .val (.int p3), .val (.ref rkx), .val (.ref rky), .val (.int (0 : Int32)), .val (.int (0 : Int32)), .val (.int (1 : Int32)), .val (.ref b22), .val (.ref w_DESC)] [(.ref b22)])) _
          refine st30.trans ?_
          show Steps p.tables e below (T30.setTop (mkF m 155 #[.val (.int p1), .val (.int p2), .val (.int p3), .val (.ref rkx), .val (.ref rky), .val (.int (0 : Int32)), .val (.int (0 : Int32)), .val (.int (1 : Int32)), .val (.ref b22), .val (.ref w_DESC)] [(.ref w_DESC)])) _
          refine XS.aload X30.here hx rfl (hb hby at_155) rfl rfl ?_
          show Steps p.tables e below (T30.setTop (mkF m 157 #[.val (.int p1), .val (.int p2), .val (.int p3), .val (.ref rkx), .val (.ref rky), .val (.int (0 : Int32)), .val (.int (0 : Int32)), .val (.int (1 : Int32)), .val (.ref b22), .val (.ref w_DESC)] [(.ref w_DESC), (.ref w_DESC)])) _
          refine Jvm.RoadKit.acmp (g := (mkF m 157 #[.val (.int p1), .val (.int p2), .val (.int p3), .val (.ref rkx), .val (.ref rky), .val (.int (0 : Int32)), .val (.int (0 : Int32)), .val (.int (1 : Int32)), .val (.ref b22), .val (.ref w_DESC)] [(.ref w_DESC), (.ref w_DESC)])) X30 hx rfl rfl rfl (pc0 := 157) (pc' := 162) (same := true) rfl (hb hby at_157) rfl (decide_eq_true rfl) (by decide) (by decide) ?_
          show Steps p.tables e below (T30.setTop (mkF m 162 #[.val (.int p1), .val (.int p2), .val (.int p3), .val (.ref rkx), .val (.ref rky), .val (.int (0 : Int32)), .val (.int (0 : Int32)), .val (.int (1 : Int32)), .val (.ref b22), .val (.ref w_DESC)] [])) _
          refine XS.iload X30.here hx rfl (hb hby at_162) rfl ?_
          show Steps p.tables e below (T30.setTop (mkF m 164 #[.val (.int p1), .val (.int p2), .val (.int p3), .val (.ref rkx), .val (.ref rky), .val (.int (0 : Int32)), .val (.int (0 : Int32)), .val (.int (1 : Int32)), .val (.ref b22), .val (.ref w_DESC)] [(.int (0 : Int32))])) _
          refine XS.ifYes X30.here hx rfl (pc0 := 164) (pc' := 193) rfl (hb hby at_164) rfl ((if0 _ _).trans (teq (rfl : (0 : Int32) = (0 : Int32))).1) (by decide) (by decide) ?_
          show Steps p.tables e below (T30.setTop (mkF m 193 #[.val (.int p1), .val (.int p2), .val (.int p3), .val (.ref rkx), .val (.ref rky), .val (.int (0 : Int32)), .val (.int (0 : Int32)), .val (.int (1 : Int32)), .val (.ref b22), .val (.ref w_DESC)] [])) _
          refine XS.aload X30.here hx rfl (hb hby at_193) rfl rfl ?_
          show Steps p.tables e below (T30.setTop (mkF m 195 #[.val (.int p1), .val (.int p2), .val (.int p3), .val (.ref rkx), .val (.ref rky), .val (.int (0 : Int32)), .val (.int (0 : Int32)), .val (.int (1 : Int32)), .val (.ref b22), .val (.ref w_DESC)] [(.ref b22)])) _
          refine st31.trans ?_
          show Steps p.tables e below (T31.setTop (mkF m 198 #[.val (.int p1), .val (.int p2), .val (.int p3), .val (.ref rkx), .val (.ref rky), .val (.int (0 : Int32)), .val (.int (0 : Int32)), .val (.int (1 : Int32)), .val (.ref b22), .val (.ref w_DESC)] [(.ref w_DESC)])) _
          refine XS.aload X31.here hx rfl (hb hby at_198) rfl rfl ?_
          show Steps p.tables e below (T31.setTop (mkF m 200 #[.val (.int p1), .val (.int p2), .val (.int p3), .val (.ref rkx), .val (.ref rky), .val (.int (0 : Int32)), .val (.int (0 : Int32)), .val (.int (1 : Int32)), .val (.ref b22), .val (.ref w_DESC)] [(.ref w_DESC), (.ref w_DESC)])) _
          refine Jvm.RoadKit.acmp (g := (mkF m 200 #[.val (.int p1), .val (.int p2), .val (.int p3), .val (.ref rkx), .val (.ref rky), .val (.int (0 : Int32)), .val (.int (0 : Int32)), .val (.int (1 : Int32)), .val (.ref b22), .val (.ref w_DESC)] [(.ref w_DESC), (.ref w_DESC)])) X31 hx rfl rfl rfl (pc0 := 200) (pc' := 205) (same := true) rfl (hb hby at_200) rfl (decide_eq_true rfl) (by decide) (by decide) ?_
          show Steps p.tables e below (T31.setTop (mkF m 205 #[.val (.int p1), .val (.int p2), .val (.int p3), .val (.ref rkx), .val (.ref rky), .val (.int (0 : Int32)), .val (.int (0 : Int32)), .val (.int (1 : Int32)), .val (.ref b22), .val (.ref w_DESC)] [])) _
          refine XS.aload X31.here hx rfl (hb hby at_205) rfl rfl ?_
          show Steps p.tables e below (T31.setTop (mkF m 207 #[.val (.int p1), .val (.int p2), .val (.int p3), .val (.ref rkx), .val (.ref rky), .val (.int (0 : Int32)), .val (.int (0 : Int32)), .val (.int (1 : Int32)), .val (.ref b22), .val (.ref w_DESC)] [(.ref b22)])) _
          refine st32.trans ?_
          show Steps p.tables e below (T32.setTop (mkF m 210 #[.val (.int p1), .val (.int p2), .val (.int p3), .val (.ref rkx), .val (.ref rky), .val (.int (0 : Int32)), .val (.int (0 : Int32)), .val (.int (1 : Int32)), .val (.ref b22), .val (.ref w_DESC)] [(.int (1 : Int32))])) _
          refine XS.iload X32.here hx rfl (hb hby at_210) rfl ?_
          show Steps p.tables e below (T32.setTop (mkF m 212 #[.val (.int p1), .val (.int p2), .val (.int p3), .val (.ref rkx), .val (.ref rky), .val (.int (0 : Int32)), .val (.int (0 : Int32)), .val (.int (1 : Int32)), .val (.ref b22), .val (.ref w_DESC)] [(.int (1 : Int32)), (.int (1 : Int32))])) _
          refine XS.icmpNo X32.here hx rfl (hb hby at_212) rfl (teq (rfl : (1 : Int32) = (1 : Int32))).2 ?_
          show Steps p.tables e below (T32.setTop (mkF m 215 #[.val (.int p1), .val (.int p2), .val (.int p3), .val (.ref rkx), .val (.ref rky), .val (.int (0 : Int32)), .val (.int (0 : Int32)), .val (.int (1 : Int32)), .val (.ref b22), .val (.ref w_DESC)] [])) _
          refine XS.iconst X32.here hx rfl (hb hby at_215) ?_
          show Steps p.tables e below (T32.setTop (mkF m 216 #[.val (.int p1), .val (.int p2), .val (.int p3), .val (.ref rkx), .val (.ref rky), .val (.int (0 : Int32)), .val (.int (0 : Int32)), .val (.int (1 : Int32)), .val (.ref b22), .val (.ref w_DESC)] [(.int (1 : Int32))])) _
          refine XS.goto X32.here hx rfl (pc0 := 216) (pc' := 220) rfl (hb hby at_216) (by decide) (by decide) ?_
          exact kt
        obtain ⟨fs, hr, hrun, hended, hW⟩ := X32.leaveW hS (by rw [hE32]; exact (Nat.le_refl _)) (v := some (.int (1 : Int32))) (fun h => by rw [Bd.returns] at h; cases h)
        refine ⟨_, _, pre33 _ ?_, hrun, hended, _, _, rfl, ?_, ⟨_, rfl⟩, hW.2.1, hW.2.2.1, hW.2.2.2.mono (by decide) (by decide)⟩
        · show Steps p.tables e below (T32.setTop (mkF m 220 #[.val (.int p1), .val (.int p2), .val (.int p3), .val (.ref rkx), .val (.ref rky), .val (.int (0 : Int32)), .val (.int (0 : Int32)), .val (.int (1 : Int32)), .val (.ref b22), .val (.ref w_DESC)] [(.int (1 : Int32))])) _
          exact retN X32 hx (t := .boolean) Bd.returns (by simp) (hb hby at_220) hr
        · show Q0 Z h0 n0 _ T32.heap _
          rw [hE32]
          exact ⟨rfl, N32⟩
    · have pre34 : ∀ tt, Steps p.tables e below (T4.setTop (mkF m 52 #[.val (.int p1), .val (.int p2), .val (.int p3), .val (.ref rkx), .val (.ref rky), .val (.int (0 : Int32)), .val (.int (1 : Int32)), .unset, .unset, .unset] [(.int (p3 &&& (4 : Int32)))])) tt → Steps p.tables e below (s₁.setTop (entryFrame m #[(.int p1), (.int p2), (.int p3)] maxLocals)) tt := by
        intro tt kt
        refine pre7 tt ?_
        show Steps p.tables e below (T4.setTop (mkF m 39 #[.val (.int p1), .val (.int p2), .val (.int p3), .val (.ref rkx), .val (.ref rky), .val (.int (0 : Int32)), .unset, .unset, .unset, .unset] [(.int (p3 &&& (2 : Int32)))])) _
        refine XS.ifNo X4.here hx rfl (hb hby at_39) rfl ((if0 _ _).trans (feq c39_8).1) ?_
        show Steps p.tables e below (T4.setTop (mkF m 42 #[.val (.int p1), .val (.int p2), .val (.int p3), .val (.ref rkx), .val (.ref rky), .val (.int (0 : Int32)), .unset, .unset, .unset, .unset] [])) _
        refine XS.iconst X4.here hx rfl (hb hby at_42) ?_
        show Steps p.tables e below (T4.setTop (mkF m 43 #[.val (.int p1), .val (.int p2), .val (.int p3), .val (.ref rkx), .val (.ref rky), .val (.int (0 : Int32)), .unset, .unset, .unset, .unset] [(.int (1 : Int32))])) _
        refine XS.goto X4.here hx rfl (pc0 := 43) (pc' := 47) rfl (hb hby at_43) (by decide) (by decide) ?_
        show Steps p.tables e below (T4.setTop (mkF m 47 #[.val (.int p1), .val (.int p2), .val (.int p3), .val (.ref rkx), .val (.ref rky), .val (.int (0 : Int32)), .unset, .unset, .unset, .unset] [(.int (1 : Int32))])) _
        refine XS.istore X4.here hx rfl (hb hby at_47) rfl (l' := #[.val (.int p1), .val (.int p2), .val (.int p3), .val (.ref rkx), .val (.ref rky), .val (.int (0 : Int32)), .val (.int (1 : Int32)), .unset, .unset, .unset]) rfl ?_
        show Steps p.tables e below (T4.setTop (mkF m 49 #[.val (.int p1), .val (.int p2), .val (.int p3), .val (.ref rkx), .val (.ref rky), .val (.int (0 : Int32)), .val (.int (1 : Int32)), .unset, .unset, .unset] [])) _
        refine XS.iloadN X4.here hx rfl (hb hby at_49) rfl ?_
        show Steps p.tables e below (T4.setTop (mkF m 50 #[.val (.int p1), .val (.int p2), .val (.int p3), .val (.ref rkx), .val (.ref rky), .val (.int (0 : Int32)), .val (.int (1 : Int32)), .unset, .unset, .unset] [(.int p3)])) _
        refine XS.iconst X4.here hx rfl (hb hby at_50) ?_
        show Steps p.tables e below (T4.setTop (mkF m 51 #[.val (.int p1), .val (.int p2), .val (.int p3), .val (.ref rkx), .val (.ref rky), .val (.int (0 : Int32)), .val (.int (1 : Int32)), .unset, .unset, .unset] [(.int (4 : Int32)), (.int p3)])) _
        refine XS.iand X4.here hx rfl (hb hby at_51) rfl ?_
        exact kt
      by_cases c52_35 : (p3 &&& (4 : Int32)) = (0 : Int32)
      · obtain ⟨T36, h36, X36, e36, E36, A36, D36, -, st36⟩ := newO X4 hx hZ hown (hw _ (List.mem_of_getElem? (i := 10) rfl)) (hw _ (List.mem_of_getElem? (i := 11) rfl)) (hw _ (List.mem_of_getElem? (i := 12) rfl)) hE4 (g := (mkF m 62 #[.val (.int p1), .val (.int p2), .val (.int p3), .val (.ref rkx), .val (.ref rky), .val (.int (0 : Int32)), .val (.int (1 : Int32)), .val (.int (0 : Int32)), .unset, .unset] [])) rfl (hb hby at_62) (by decide) (by decide)
        obtain ⟨b36, g36⟩ : ∃ z, z = h0.size := ⟨_, rfl⟩
        rw [← g36] at A36 D36 st36
        have g_b36 : n0 ≤ b36 := Nat.le_trans Z0 (Nat.le_of_eq g36.symm)
        have F_searchTerms_b36 : Fld Z h36 b36 "com/example/wee_forge/weeforge/model/ProjectFilter" "searchTerms" "Ljava/util/List;" .null := D36 (Or.inl (hw _ (List.mem_of_getElem? (i := 26) rfl))) (ty := (.object "java/util/List")) (by decide)
        have F_topics_b36 : Fld Z h36 b36 "com/example/wee_forge/weeforge/model/ProjectFilter" "topics" "Ljava/util/List;" .null := D36 (Or.inl (hw _ (List.mem_of_getElem? (i := 28) rfl))) (ty := (.object "java/util/List")) (by decide)
        have F_lastActivity_b36 : Fld Z h36 b36 "com/example/wee_forge/weeforge/model/ProjectFilter" "lastActivity" "Lcom/example/wee_forge/weeforge/model/TimeRange;" .null := D36 (Or.inl (hw _ (List.mem_of_getElem? (i := 33) rfl))) (ty := (.object "com/example/wee_forge/weeforge/model/TimeRange")) (by decide)
        have F_updated_b36 : Fld Z h36 b36 "com/example/wee_forge/weeforge/model/ProjectFilter" "updated" "Lcom/example/wee_forge/weeforge/model/TimeRange;" .null := D36 (Or.inl (hw _ (List.mem_of_getElem? (i := 35) rfl))) (ty := (.object "com/example/wee_forge/weeforge/model/TimeRange")) (by decide)
        have F_idAfter_b36 : Fld Z h36 b36 "com/example/wee_forge/weeforge/model/ProjectFilter" "idAfter" "Ljava/util/OptionalLong;" .null := D36 (Or.inl (hw _ (List.mem_of_getElem? (i := 42) rfl))) (ty := (.object "java/util/OptionalLong")) (by decide)
        have F_idBefore_b36 : Fld Z h36 b36 "com/example/wee_forge/weeforge/model/ProjectFilter" "idBefore" "Ljava/util/OptionalLong;" .null := D36 (Or.inl (hw _ (List.mem_of_getElem? (i := 44) rfl))) (ty := (.object "java/util/OptionalLong")) (by decide)
        have F_orderBy_b36 : Fld Z h36 b36 "com/example/wee_forge/weeforge/model/ProjectFilter" "orderBy" "Lcom/example/wee_forge/weeforge/model/ProjectOrder;" .null := D36 (Or.inl (hw _ (List.mem_of_getElem? (i := 47) rfl))) (ty := (.object "com/example/wee_forge/weeforge/model/ProjectOrder")) (by decide)
        have F_sort_b36 : Fld Z h36 b36 "com/example/wee_forge/weeforge/model/ProjectFilter" "sort" "Lcom/example/wee_forge/weeforge/model/SortDirection;" .null := D36 (Or.inl (hw _ (List.mem_of_getElem? (i := 52) rfl))) (ty := (.object "com/example/wee_forge/weeforge/model/SortDirection")) (by decide)
        have F_starredOnly_b36 : Fld Z h36 b36 "com/example/wee_forge/weeforge/model/ProjectFilter" "starredOnly" "Z" (.int (0 : Int32)) := D36 (Or.inl (hw _ (List.mem_of_getElem? (i := 89) rfl))) (ty := .boolean) (by decide)
        obtain ⟨_, _, ⟨T37, L37, k37, n37⟩, -, X37, ⟨Lc37, hQ37, l37, y37, z37⟩, st37⟩ := X36.specialBack hx (y := (⟨"com/example/wee_forge/weeforge/model/ProjectFilter", "<init>", "()V"⟩ : MethodName)) rfl hown (mvT hZ (hw _ (List.mem_of_getElem? (i := 13) rfl))) (mvT hZ (hw _ (List.mem_of_getElem? (i := 14) rfl))) (mvT hZ (hw _ (List.mem_of_getElem? (i := 15) rfl))) (by decide) (backOf (W := 1) (rmC l Z a0 hw [] b36 w_ANY w_CREATED_AT w_DESC wEL wOL h36 n0 (Nat.le_trans Z0 E36.1) A36 F_searchTerms_b36 F_topics_b36 F_lastActivity_b36 F_updated_b36 F_idAfter_b36 F_idBefore_b36 F_orderBy_b36 F_sort_b36 F_starredOnly_b36 g_b36 (Sta.ext E36 S_ANY) (Sta.ext E36 S_CREATED_AT) (Sta.ext E36 S_DESC) (Sta.ext E36 S_EL) (Sta.ext E36 S_OL)) hZ (hw _ (List.mem_of_getElem? (i := 15) rfl)) (hw _ (List.mem_of_getElem? (i := 12) rfl)) (by decide) (by decide)) (g := (mkF m 66 #[.val (.int p1), .val (.int p2), .val (.int p3), .val (.ref rkx), .val (.ref rky), .val (.int (0 : Int32)), .val (.int (1 : Int32)), .val (.int (0 : Int32)), .unset, .unset] [(.ref b36), (.ref b36)])) rfl (by rw [hml]; rfl) (Steps.refl _) (a := b36) (argsL := []) (rest := [(.ref b36)]) (lenOf pd_rm0_1 rfl) rfl (by show 2 * 0 + _ ≤ _; exact Nat.le_of_eq rfl) (hb hby at_66) (fun _ _ => ⟨rfl, e36, (by decide : 1 + 0 ≤ _), (by decide : 12 + 0 ≤ _)⟩)
        dsimp only [Pt.U, Pt.locs, Pt.cells, Pt.slots] at X37 l37 y37 z37 st37 hQ37
        subst l37 y37 z37
        obtain ⟨rfl, N37q, K37, Ei37, Fs37, Fo37, Fb37⟩ := hQ37
        have N37 := Fr.app N4 N37q
        obtain ⟨cq38, kq38, q38a, q38b, q38c⟩ := isOf hZ rfl Ei37
        obtain ⟨_, _, ⟨T38, L38, k38, n38⟩, -, X38, ⟨Lc38, hQ38, l38, y38, z38⟩, st38⟩ := X37.virtualBack hx (y := (⟨"com/example/wee_forge/weeforge/model/ProjectFilter", "orderBy", "()Lcom/example/wee_forge/weeforge/model/ProjectOrder;"⟩ : MethodName)) (z := (⟨"com/example/wee_forge/weeforge/model/ProjectFilter", "orderBy", "()Lcom/example/wee_forge/weeforge/model/ProjectOrder;"⟩ : MethodName)) hown (mvT hZ (hw _ (List.mem_of_getElem? (i := 53) rfl))) (mvT hZ (hw _ (List.mem_of_getElem? (i := 54) rfl))) (notFace_of_selects (args := #[]) (mvT hZ (hw _ (List.mem_of_getElem? (i := 56) rfl)))) (mvT hZ (hw _ (List.mem_of_getElem? (i := 56) rfl))) (mvT hZ (hw _ (List.mem_of_getElem? (i := 55) rfl))) (by decide) (backOf (W := 0) (rmg_orderBy l Z a0 hw [] b36 w_CREATED_AT T37.heap n0 (Nat.le_trans (Nat.le_trans Z0 E36.1) K37.1) Fo37) hZ (hw _ (List.mem_of_getElem? (i := 57) rfl)) (hw _ (List.mem_of_getElem? (i := 12) rfl)) (by decide) (by decide)) q38a q38c (g := (mkF m 73 #[.val (.int p1), .val (.int p2), .val (.int p3), .val (.ref rkx), .val (.ref rky), .val (.int (0 : Int32)), .val (.int (1 : Int32)), .val (.int (0 : Int32)), .val (.ref b36), .unset] [(.ref b36)])) rfl (by rw [hml]; rfl) (Steps.refl _) (argsL := []) (rest := []) (lenOf pd_rm0_2 rfl) rfl (by show 2 * 0 + _ ≤ _; exact Nat.le_of_eq rfl) (hb hby at_73) (fun _ _ => ⟨rfl, rfl, (by decide : 1 + 0 ≤ _), (by decide : 12 + 0 ≤ _)⟩)
        dsimp only [Pt.U, Pt.locs, Pt.cells, Pt.slots] at X38 l38 y38 z38 st38 hQ38
        subst l38 y38 z38
        obtain ⟨rfl, N38q, hE38⟩ := hQ38
        have N38 := Fr.app N37 N38q
        obtain ⟨T39, X39, e39, st39⟩ := getS2 X38 hx hZ hown (host := "") (Or.inl (hw _ (List.mem_of_getElem? (i := 8) rfl))) Via.refl hE38 (own_staK (Sta.ext E36 S_CREATED_AT) K37 (allS ⟨_, A36⟩ all0)) (g := (mkF m 76 #[.val (.int p1), .val (.int p2), .val (.int p3), .val (.ref rkx), .val (.ref rky), .val (.int (0 : Int32)), .val (.int (1 : Int32)), .val (.int (0 : Int32)), .val (.ref b36), .unset] [(.ref w_CREATED_AT)])) rfl (hb hby at_76)
        obtain ⟨T40, X40, e40, st40⟩ := getS2 X39 hx hZ hown (host := "") (Or.inl (hw _ (List.mem_of_getElem? (i := 58) rfl))) Via.refl e39 (own_staK (Sta.ext E36 S_DESC) K37 (allS ⟨_, A36⟩ all0)) (g := (mkF m 121 #[.val (.int p1), .val (.int p2), .val (.int p3), .val (.ref rkx), .val (.ref rky), .val (.int (0 : Int32)), .val (.int (1 : Int32)), .val (.int (0 : Int32)), .val (.ref b36), .unset] [])) rfl (hb hby at_121)
        obtain ⟨cq41, kq41, q41a, q41b, q41c⟩ := isOf hZ e40 Ei37
        obtain ⟨_, _, ⟨T41, L41, k41, n41⟩, -, X41, hSb41, hgr41, ⟨Lc41, hQ41, l41, y41, z41⟩, st41⟩ := X40.virtualBackS hx (y := (⟨"com/example/wee_forge/weeforge/model/ProjectFilter", "orderBy", "(Lcom/example/wee_forge/weeforge/model/ProjectOrder;)Lcom/example/wee_forge/weeforge/model/ProjectFilter;"⟩ : MethodName)) (z := (⟨"com/example/wee_forge/weeforge/model/ProjectFilter", "orderBy", "(Lcom/example/wee_forge/weeforge/model/ProjectOrder;)Lcom/example/wee_forge/weeforge/model/ProjectFilter;"⟩ : MethodName)) hown (mvT hZ (hw _ (List.mem_of_getElem? (i := 59) rfl))) (mvT hZ (hw _ (List.mem_of_getElem? (i := 60) rfl))) (notFace_of_selects (args := #[]) (mvT hZ (hw _ (List.mem_of_getElem? (i := 62) rfl)))) (mvT hZ (hw _ (List.mem_of_getElem? (i := 62) rfl))) (mvT hZ (hw _ (List.mem_of_getElem? (i := 61) rfl))) (by decide) (backOfS (W := 0) (rm_orderBy l Z a0 hw [] b36 rkx w_DESC w_CREATED_AT (0 : Int32) T37.heap n0 (Nat.le_trans (Nat.le_trans Z0 E36.1) K37.1) Ei37 Fs37 Fo37 Fb37 g_b36 ((Exa.ext E36 E_rkx).keep K37)) hZ (hw _ (List.mem_of_getElem? (i := 63) rfl)) (hw _ (List.mem_of_getElem? (i := 12) rfl)) (by decide) (by decide)) q41a q41c (g := (mkF m 129 #[.val (.int p1), .val (.int p2), .val (.int p3), .val (.ref rkx), .val (.ref rky), .val (.int (0 : Int32)), .val (.int (1 : Int32)), .val (.int (0 : Int32)), .val (.ref b36), .val (.ref w_DESC)] [(.ref rkx), (.ref b36)])) rfl (by rw [hml]; rfl) (Steps.refl _) (argsL := [(.ref rkx)]) (rest := []) (lenOf pd_rm0_3 rfl) rfl (by show 2 * 0 + _ ≤ _; exact Nat.le_of_eq rfl) (hb hby at_129) (fun _ _ => ⟨rfl, e40, (by decide : 1 + 2 ≤ _), (by decide : 12 + 32 ≤ _)⟩)
        dsimp only [Pt.U, Pt.locs, Pt.cells, Pt.slots] at X41 l41 y41 z41 st41 hQ41 hSb41 hgr41
        subst l41 y41 z41
        obtain ⟨X41, hS, hZ, hown⟩ := rebS hS (by rw [e40]; exact (Nat.le_trans (Nat.le_trans hk E36.1) K37.1)) X41 hSb41 hgr41 hZ hown
        obtain ⟨rfl, N41q, K41, Ei41, Fs41, Fo41, Fb41⟩ := hQ41
        have N41 := Fr.app N38 N41q
        obtain ⟨cq42, kq42, q42a, q42b, q42c⟩ := isOf hZ rfl Ei41
        obtain ⟨_, _, ⟨T42, L42, k42, n42⟩, -, X42, ⟨Lc42, hQ42, l42, y42, z42⟩, st42⟩ := X41.virtualBack hx (y := (⟨"com/example/wee_forge/weeforge/model/ProjectFilter", "orderBy", "()Lcom/example/wee_forge/weeforge/model/ProjectOrder;"⟩ : MethodName)) (z := (⟨"com/example/wee_forge/weeforge/model/ProjectFilter", "orderBy", "()Lcom/example/wee_forge/weeforge/model/ProjectOrder;"⟩ : MethodName)) hown (mvT hZ (hw _ (List.mem_of_getElem? (i := 53) rfl))) (mvT hZ (hw _ (List.mem_of_getElem? (i := 54) rfl))) (notFace_of_selects (args := #[]) (mvT hZ (hw _ (List.mem_of_getElem? (i := 56) rfl)))) (mvT hZ (hw _ (List.mem_of_getElem? (i := 56) rfl))) (mvT hZ (hw _ (List.mem_of_getElem? (i := 55) rfl))) (by decide) (backOf (W := 0) (rmg_orderBy l Z a0 hw [] b36 rkx T41.heap n0 (Nat.le_trans (Nat.le_trans (Nat.le_trans Z0 E36.1) K37.1) K41.1) Fo41) hZ (hw _ (List.mem_of_getElem? (i := 57) rfl)) (hw _ (List.mem_of_getElem? (i := 12) rfl)) (by decide) (by decide)) q42a q42c (g := (mkF m 141 #[.val (.int p1), .val (.int p2), .val (.int p3), .val (.ref rkx), .val (.ref rky), .val (.int (0 : Int32)), .val (.int (1 : Int32)), .val (.int (0 : Int32)), .val (.ref b36), .val (.ref w_DESC)] [(.ref b36)])) rfl (by rw [hml]; rfl) (Steps.refl _) (argsL := []) (rest := []) (lenOf pd_rm0_2 rfl) rfl (by show 2 * 0 + _ ≤ _; exact Nat.le_of_eq rfl) (hb hby at_141) (fun _ _ => ⟨rfl, rfl, (by decide : 3 + 0 ≤ _), (by decide : 44 + 0 ≤ _)⟩)
        dsimp only [Pt.U, Pt.locs, Pt.cells, Pt.slots] at X42 l42 y42 z42 st42 hQ42
        subst l42 y42 z42
        obtain ⟨rfl, N42q, hE42⟩ := hQ42
        have N42 := Fr.app N41 N42q
        obtain ⟨cq43, kq43, q43a, q43b, q43c⟩ := isOf hZ hE42 Ei41
        obtain ⟨_, _, ⟨T43, L43, k43, n43⟩, -, X43, ⟨Lc43, hQ43, l43, y43, z43⟩, st43⟩ := X42.virtualBack hx (y := (⟨"com/example/wee_forge/weeforge/model/ProjectFilter", "sort", "()Lcom/example/wee_forge/weeforge/model/SortDirection;"⟩ : MethodName)) (z := (⟨"com/example/wee_forge/weeforge/model/ProjectFilter", "sort", "()Lcom/example/wee_forge/weeforge/model/SortDirection;"⟩ : MethodName)) hown (mvT hZ (hw _ (List.mem_of_getElem? (i := 78) rfl))) (mvT hZ (hw _ (List.mem_of_getElem? (i := 79) rfl))) (notFace_of_selects (args := #[]) (mvT hZ (hw _ (List.mem_of_getElem? (i := 81) rfl)))) (mvT hZ (hw _ (List.mem_of_getElem? (i := 81) rfl))) (mvT hZ (hw _ (List.mem_of_getElem? (i := 80) rfl))) (by decide) (backOf (W := 0) (rmg_sort l Z a0 hw [] b36 w_DESC T41.heap n0 (Nat.le_trans (Nat.le_trans (Nat.le_trans Z0 E36.1) K37.1) K41.1) Fs41) hZ (hw _ (List.mem_of_getElem? (i := 82) rfl)) (hw _ (List.mem_of_getElem? (i := 12) rfl)) (by decide) (by decide)) q43a q43c (g := (mkF m 152 #[.val (.int p1), .val (.int p2), .val (.int p3), .val (.ref rkx), .val (.ref rky), .val (.int (0 : Int32)), .val (.int (1 : Int32)), .val (.int (0 : Int32)), .val (.ref b36), .val (.ref w_DESC)] [(.ref b36)])) rfl (by rw [hml]; rfl) (Steps.refl _) (argsL := []) (rest := []) (lenOf pd_rm0_4 rfl) rfl (by show 2 * 0 + _ ≤ _; exact Nat.le_of_eq rfl) (hb hby at_152) (fun _ _ => ⟨rfl, hE42, (by decide : 3 + 0 ≤ _), (by decide : 44 + 0 ≤ _)⟩)
        dsimp only [Pt.U, Pt.locs, Pt.cells, Pt.slots] at X43 l43 y43 z43 st43 hQ43
        subst l43 y43 z43
        obtain ⟨rfl, N43q, hE43⟩ := hQ43
        have N43 := Fr.app N42 N43q
        obtain ⟨cq44, kq44, q44a, q44b, q44c⟩ := isOf hZ hE43 Ei41
        obtain ⟨_, _, ⟨T44, L44, k44, n44⟩, -, X44, hSb44, hgr44, ⟨Lc44, hQ44, l44, y44, z44⟩, st44⟩ := X43.virtualBackS hx (y := (⟨"com/example/wee_forge/weeforge/model/ProjectFilter", "orderBy", "(Lcom/example/wee_forge/weeforge/model/ProjectOrder;)Lcom/example/wee_forge/weeforge/model/ProjectFilter;"⟩ : MethodName)) (z := (⟨"com/example/wee_forge/weeforge/model/ProjectFilter", "orderBy", "(Lcom/example/wee_forge/weeforge/model/ProjectOrder;)Lcom/example/wee_forge/weeforge/model/ProjectFilter;"⟩ : MethodName)) hown (mvT hZ (hw _ (List.mem_of_getElem? (i := 59) rfl))) (mvT hZ (hw _ (List.mem_of_getElem? (i := 60) rfl))) (notFace_of_selects (args := #[]) (mvT hZ (hw _ (List.mem_of_getElem? (i := 62) rfl)))) (mvT hZ (hw _ (List.mem_of_getElem? (i := 62) rfl))) (mvT hZ (hw _ (List.mem_of_getElem? (i := 61) rfl))) (by decide) (backOfS (W := 0) (rm_orderBy l Z a0 hw [] b36 rky w_DESC rkx (0 : Int32) T41.heap n0 (Nat.le_trans (Nat.le_trans (Nat.le_trans Z0 E36.1) K37.1) K41.1) Ei41 Fs41 Fo41 Fb41 g_b36 (((Exa.ext E36 E_rky).keep K37).keep K41)) hZ (hw _ (List.mem_of_getElem? (i := 63) rfl)) (hw _ (List.mem_of_getElem? (i := 12) rfl)) (by decide) (by decide)) q44a q44c (g := (mkF m 171 #[.val (.int p1), .val (.int p2), .val (.int p3), .val (.ref rkx), .val (.ref rky), .val (.int (0 : Int32)), .val (.int (1 : Int32)), .val (.int (0 : Int32)), .val (.ref b36), .val (.ref w_DESC)] [(.ref rky), (.ref b36)])) rfl (by rw [hml]; rfl) (Steps.refl _) (argsL := [(.ref rky)]) (rest := []) (lenOf pd_rm0_3 rfl) rfl (by show 2 * 0 + _ ≤ _; exact Nat.le_of_eq rfl) (hb hby at_171) (fun _ _ => ⟨rfl, hE43, (by decide : 3 + 2 ≤ _), (by decide : 44 + 32 ≤ _)⟩)
        dsimp only [Pt.U, Pt.locs, Pt.cells, Pt.slots] at X44 l44 y44 z44 st44 hQ44 hSb44 hgr44
        subst l44 y44 z44
        obtain ⟨X44, hS, hZ, hown⟩ := rebS hS (by rw [hE43]; exact (Nat.le_refl _)) X44 hSb44 hgr44 hZ hown
        obtain ⟨rfl, N44q, K44, Ei44, Fs44, Fo44, Fb44⟩ := hQ44
        have N44 := Fr.app N43 N44q
        obtain ⟨cq45, kq45, q45a, q45b, q45c⟩ := isOf hZ rfl Ei44
        obtain ⟨_, _, ⟨T45, L45, k45, n45⟩, -, X45, ⟨Lc45, hQ45, l45, y45, z45⟩, st45⟩ := X44.virtualBack hx (y := (⟨"com/example/wee_forge/weeforge/model/ProjectFilter", "orderBy", "()Lcom/example/wee_forge/weeforge/model/ProjectOrder;"⟩ : MethodName)) (z := (⟨"com/example/wee_forge/weeforge/model/ProjectFilter", "orderBy", "()Lcom/example/wee_forge/weeforge/model/ProjectOrder;"⟩ : MethodName)) hown (mvT hZ (hw _ (List.mem_of_getElem? (i := 53) rfl))) (mvT hZ (hw _ (List.mem_of_getElem? (i := 54) rfl))) (notFace_of_selects (args := #[]) (mvT hZ (hw _ (List.mem_of_getElem? (i := 56) rfl)))) (mvT hZ (hw _ (List.mem_of_getElem? (i := 56) rfl))) (mvT hZ (hw _ (List.mem_of_getElem? (i := 55) rfl))) (by decide) (backOf (W := 0) (rmg_orderBy l Z a0 hw [] b36 rky T44.heap n0 (Nat.le_trans (Nat.le_trans (Nat.le_trans (Nat.le_trans Z0 E36.1) K37.1) K41.1) K44.1) Fo44) hZ (hw _ (List.mem_of_getElem? (i := 57) rfl)) (hw _ (List.mem_of_getElem? (i := 12) rfl)) (by decide) (by decide)) q45a q45c (g := (mkF m 183 #[.val (.int p1), .val (.int p2), .val (.int p3), .val (.ref rkx), .val (.ref rky), .val (.int (0 : Int32)), .val (.int (1 : Int32)), .val (.int (0 : Int32)), .val (.ref b36), .val (.ref w_DESC)] [(.ref b36)])) rfl (by rw [hml]; rfl) (Steps.refl _) (argsL := []) (rest := []) (lenOf pd_rm0_2 rfl) rfl (by show 2 * 0 + _ ≤ _; exact Nat.le_of_eq rfl) (hb hby at_183) (fun _ _ => ⟨rfl, rfl, (by decide : 5 + 0 ≤ _), (by decide : 76 + 0 ≤ _)⟩)
        dsimp only [Pt.U, Pt.locs, Pt.cells, Pt.slots] at X45 l45 y45 z45 st45 hQ45
        subst l45 y45 z45
        obtain ⟨rfl, N45q, hE45⟩ := hQ45
        have N45 := Fr.app N44 N45q
        obtain ⟨cq46, kq46, q46a, q46b, q46c⟩ := isOf hZ hE45 Ei44
        obtain ⟨_, _, ⟨T46, L46, k46, n46⟩, -, X46, ⟨Lc46, hQ46, l46, y46, z46⟩, st46⟩ := X45.virtualBack hx (y := (⟨"com/example/wee_forge/weeforge/model/ProjectFilter", "sort", "()Lcom/example/wee_forge/weeforge/model/SortDirection;"⟩ : MethodName)) (z := (⟨"com/example/wee_forge/weeforge/model/ProjectFilter", "sort", "()Lcom/example/wee_forge/weeforge/model/SortDirection;"⟩ : MethodName)) hown (mvT hZ (hw _ (List.mem_of_getElem? (i := 78) rfl))) (mvT hZ (hw _ (List.mem_of_getElem? (i := 79) rfl))) (notFace_of_selects (args := #[]) (mvT hZ (hw _ (List.mem_of_getElem? (i := 81) rfl)))) (mvT hZ (hw _ (List.mem_of_getElem? (i := 81) rfl))) (mvT hZ (hw _ (List.mem_of_getElem? (i := 80) rfl))) (by decide) (backOf (W := 0) (rmg_sort l Z a0 hw [] b36 w_DESC T44.heap n0 (Nat.le_trans (Nat.le_trans (Nat.le_trans (Nat.le_trans Z0 E36.1) K37.1) K41.1) K44.1) Fs44) hZ (hw _ (List.mem_of_getElem? (i := 82) rfl)) (hw _ (List.mem_of_getElem? (i := 12) rfl)) (by decide) (by decide)) q46a q46c (g := (mkF m 195 #[.val (.int p1), .val (.int p2), .val (.int p3), .val (.ref rkx), .val (.ref rky), .val (.int (0 : Int32)), .val (.int (1 : Int32)), .val (.int (0 : Int32)), .val (.ref b36), .val (.ref w_DESC)] [(.ref b36)])) rfl (by rw [hml]; rfl) (Steps.refl _) (argsL := []) (rest := []) (lenOf pd_rm0_4 rfl) rfl (by show 2 * 0 + _ ≤ _; exact Nat.le_of_eq rfl) (hb hby at_195) (fun _ _ => ⟨rfl, hE45, (by decide : 5 + 0 ≤ _), (by decide : 76 + 0 ≤ _)⟩)
        dsimp only [Pt.U, Pt.locs, Pt.cells, Pt.slots] at X46 l46 y46 z46 st46 hQ46
        subst l46 y46 z46
        obtain ⟨rfl, N46q, hE46⟩ := hQ46
        have N46 := Fr.app N45 N46q
        obtain ⟨cq47, kq47, q47a, q47b, q47c⟩ := isOf hZ hE46 Ei44
        obtain ⟨_, _, ⟨T47, L47, k47, n47⟩, -, X47, ⟨Lc47, hQ47, l47, y47, z47⟩, st47⟩ := X46.virtualBack hx (y := (⟨"com/example/wee_forge/weeforge/model/ProjectFilter", "starredOnly", "()Z"⟩ : MethodName)) (z := (⟨"com/example/wee_forge/weeforge/model/ProjectFilter", "starredOnly", "()Z"⟩ : MethodName)) hown (mvT hZ (hw _ (List.mem_of_getElem? (i := 83) rfl))) (mvT hZ (hw _ (List.mem_of_getElem? (i := 84) rfl))) (notFace_of_selects (args := #[]) (mvT hZ (hw _ (List.mem_of_getElem? (i := 86) rfl)))) (mvT hZ (hw _ (List.mem_of_getElem? (i := 86) rfl))) (mvT hZ (hw _ (List.mem_of_getElem? (i := 85) rfl))) (by decide) (backOf (W := 0) (rmg_starredOnly l Z a0 hw [] b36 (0 : Int32) T44.heap n0 (Nat.le_trans (Nat.le_trans (Nat.le_trans (Nat.le_trans Z0 E36.1) K37.1) K41.1) K44.1) Fb44 (by decide)) hZ (hw _ (List.mem_of_getElem? (i := 87) rfl)) (hw _ (List.mem_of_getElem? (i := 12) rfl)) (by decide) (by decide)) q47a q47c (g := (mkF m 207 #[.val (.int p1), .val (.int p2), .val (.int p3), .val (.ref rkx), .val (.ref rky), .val (.int (0 : Int32)), .val (.int (1 : Int32)), .val (.int (0 : Int32)), .val (.ref b36), .val (.ref w_DESC)] [(.ref b36)])) rfl (by rw [hml]; rfl) (Steps.refl _) (argsL := []) (rest := []) (lenOf pd_rm0_5 rfl) rfl (by show 2 * 0 + _ ≤ _; exact Nat.le_of_eq rfl) (hb hby at_207) (fun _ _ => ⟨rfl, hE46, (by decide : 5 + 0 ≤ _), (by decide : 76 + 0 ≤ _)⟩)
        dsimp only [Pt.U, Pt.locs, Pt.cells, Pt.slots] at X47 l47 y47 z47 st47 hQ47
        subst l47 y47 z47
        obtain ⟨rfl, N47q, hE47⟩ := hQ47
        have N47 := Fr.app N46 N47q
        have pre48 : ∀ tt, Steps p.tables e below (T47.setTop (mkF m 220 #[.val (.int p1), .val (.int p2), .val (.int p3), .val (.ref rkx), .val (.ref rky), .val (.int (0 : Int32)), .val (.int (1 : Int32)), .val (.int (0 : Int32)), .val (.ref b36), .val (.ref w_DESC)] [(.int (1 : Int32))])) tt → Steps p.tables e below (s₁.setTop (entryFrame m #[(.int p1), (.int p2), (.int p3)] maxLocals)) tt := by
          intro tt kt
          refine pre34 tt ?_
          show Steps p.tables e below (T4.setTop (mkF m 52 #[.val (.int p1), .val (.int p2), .val (.int p3), .val (.ref rkx), .val (.ref rky), .val (.int (0 : Int32)), .val (.int (1 : Int32)), .unset, .unset, .unset] [(.int (p3 &&& (4 : Int32)))])) _
          refine XS.ifYes X4.here hx rfl (pc0 := 52) (pc' := 59) rfl (hb hby at_52) rfl ((if0 _ _).trans (teq c52_35).1) (by decide) (by decide) ?_
          show Steps p.tables e below (T4.setTop (mkF m 59 #[.val (.int p1), .val (.int p2), .val (.int p3), .val (.ref rkx), .val (.ref rky), .val (.int (0 : Int32)), .val (.int (1 : Int32)), .unset, .unset, .unset] [])) _
          refine XS.iconst X4.here hx rfl (hb hby at_59) ?_
          show Steps p.tables e below (T4.setTop (mkF m 60 #[.val (.int p1), .val (.int p2), .val (.int p3), .val (.ref rkx), .val (.ref rky), .val (.int (0 : Int32)), .val (.int (1 : Int32)), .unset, .unset, .unset] [(.int (0 : Int32))])) _
          refine XS.istore X4.here hx rfl (hb hby at_60) rfl (l' := #[.val (.int p1), .val (.int p2), .val (.int p3), .val (.ref rkx), .val (.ref rky), .val (.int (0 : Int32)), .val (.int (1 : Int32)), .val (.int (0 : Int32)), .unset, .unset]) rfl ?_
          show Steps p.tables e below (T4.setTop (mkF m 62 #[.val (.int p1), .val (.int p2), .val (.int p3), .val (.ref rkx), .val (.ref rky), .val (.int (0 : Int32)), .val (.int (1 : Int32)), .val (.int (0 : Int32)), .unset, .unset] [])) _
          refine st36 _ ?_
          show Steps p.tables e below (T36.setTop (mkF m 65 #[.val (.int p1), .val (.int p2), .val (.int p3), .val (.ref rkx), .val (.ref rky), .val (.int (0 : Int32)), .val (.int (1 : Int32)), .val (.int (0 : Int32)), .unset, .unset] [(.ref b36)])) _
          refine XS.dup X36.here hx rfl (hb hby at_65) rfl rfl ?_
          show Steps p.tables e below (T36.setTop (mkF m 66 #[.val (.int p1), .val (.int p2), .val (.int p3), .val (.ref rkx), .val (.ref rky), .val (.int (0 : Int32)), .val (.int (1 : Int32)), .val (.int (0 : Int32)), .unset, .unset] [(.ref b36), (.ref b36)])) _
          refine st37.trans ?_
          show Steps p.tables e below (T37.setTop (mkF m 69 #[.val (.int p1), .val (.int p2), .val (.int p3), .val (.ref rkx), .val (.ref rky), .val (.int (0 : Int32)), .val (.int (1 : Int32)), .val (.int (0 : Int32)), .unset, .unset] [(.ref b36)])) _
          refine XS.astore X37.here hx rfl (hb hby at_69) rfl rfl (l' := #[.val (.int p1), .val (.int p2), .val (.int p3), .val (.ref rkx), .val (.ref rky), .val (.int (0 : Int32)), .val (.int (1 : Int32)), .val (.int (0 : Int32)), .val (.ref b36), .unset]) rfl ?_
          show Steps p.tables e below (T37.setTop (mkF m 71 #[.val (.int p1), .val (.int p2), .val (.int p3), .val (.ref rkx), .val (.ref rky), .val (.int (0 : Int32)), .val (.int (1 : Int32)), .val (.int (0 : Int32)), .val (.ref b36), .unset] [])) _
          refine XS.aload X37.here hx rfl (hb hby at_71) rfl rfl ?_
          show Steps p.tables e below (T37.setTop (mkF m 73 #[.val (.int p1), .val (.int p2), .val (.int p3), .val (.ref rkx), .val (.ref rky), .val (.int (0 : Int32)), .val (.int (1 : Int32)), .val (.int (0 : Int32)), .val (.ref b36), .unset] [(.ref b36)])) _
          refine st38.trans ?_
          show Steps p.tables e below (T38.setTop (mkF m 76 #[.val (.int p1), .val (.int p2), .val (.int p3), .val (.ref rkx), .val (.ref rky), .val (.int (0 : Int32)), .val (.int (1 : Int32)), .val (.int (0 : Int32)), .val (.ref b36), .unset] [(.ref w_CREATED_AT)])) _
          refine st39 _ ?_
          show Steps p.tables e below (T39.setTop (mkF m 79 #[.val (.int p1), .val (.int p2), .val (.int p3), .val (.ref rkx), .val (.ref rky), .val (.int (0 : Int32)), .val (.int (1 : Int32)), .val (.int (0 : Int32)), .val (.ref b36), .unset] [(.ref w_CREATED_AT), (.ref w_CREATED_AT)])) _
          refine Jvm.RoadKit.acmp (g := (mkF m 79 #[.val (.int p1), .val (.int p2), .val (.int p3), .val (.ref rkx), .val (.ref rky), .val (.int (0 : Int32)), .val (.int (1 : Int32)), .val (.int (0 : Int32)), .val (.ref b36), .unset] [(.ref w_CREATED_AT), (.ref w_CREATED_AT)])) X39 hx rfl rfl rfl (pc0 := 79) (pc' := 84) (same := true) rfl (hb hby at_79) rfl (decide_eq_true rfl) (by decide) (by decide) ?_
          show Steps p.tables e below (T39.setTop (mkF m 84 #[.val (.int p1), .val (.int p2), .val (.int p3), .val (.ref rkx), .val (.ref rky), .val (.int (0 : Int32)), .val (.int (1 : Int32)), .val (.int (0 : Int32)), .val (.ref b36), .unset] [])) _
          refine XS.iload X39.here hx rfl (hb hby at_84) rfl ?_
          show Steps p.tables e below (T39.setTop (mkF m 86 #[.val (.int p1), .val (.int p2), .val (.int p3), .val (.ref rkx), .val (.ref rky), .val (.int (0 : Int32)), .val (.int (1 : Int32)), .val (.int (0 : Int32)), .val (.ref b36), .unset] [(.int (0 : Int32))])) _
          refine XS.ifYes X39.here hx rfl (pc0 := 86) (pc' := 98) rfl (hb hby at_86) rfl ((if0 _ _).trans (teq (rfl : (0 : Int32) = (0 : Int32))).1) (by decide) (by decide) ?_
          show Steps p.tables e below (T39.setTop (mkF m 98 #[.val (.int p1), .val (.int p2), .val (.int p3), .val (.ref rkx), .val (.ref rky), .val (.int (0 : Int32)), .val (.int (1 : Int32)), .val (.int (0 : Int32)), .val (.ref b36), .unset] [])) _
          refine XS.iload X39.here hx rfl (hb hby at_98) rfl ?_
          show Steps p.tables e below (T39.setTop (mkF m 100 #[.val (.int p1), .val (.int p2), .val (.int p3), .val (.ref rkx), .val (.ref rky), .val (.int (0 : Int32)), .val (.int (1 : Int32)), .val (.int (0 : Int32)), .val (.ref b36), .unset] [(.int (0 : Int32))])) _
          refine XS.ifYes X39.here hx rfl (pc0 := 100) (pc' := 110) rfl (hb hby at_100) rfl ((if0 _ _).trans (teq (rfl : (0 : Int32) = (0 : Int32))).1) (by decide) (by decide) ?_
          show Steps p.tables e below (T39.setTop (mkF m 110 #[.val (.int p1), .val (.int p2), .val (.int p3), .val (.ref rkx), .val (.ref rky), .val (.int (0 : Int32)), .val (.int (1 : Int32)), .val (.int (0 : Int32)), .val (.ref b36), .unset] [])) _
          refine XS.iload X39.here hx rfl (hb hby at_110) rfl ?_
          show Steps p.tables e below (T39.setTop (mkF m 112 #[.val (.int p1), .val (.int p2), .val (.int p3), .val (.ref rkx), .val (.ref rky), .val (.int (0 : Int32)), .val (.int (1 : Int32)), .val (.int (0 : Int32)), .val (.ref b36), .unset] [(.int (0 : Int32))])) _
          refine XS.ifYes X39.here hx rfl (pc0 := 112) (pc' := 121) rfl (hb hby at_112) rfl ((if0 _ _).trans (teq (rfl : (0 : Int32) = (0 : Int32))).1) (by decide) (by decide) ?_
          show Steps p.tables e below (T39.setTop (mkF m 121 #[.val (.int p1), .val (.int p2), .val (.int p3), .val (.ref rkx), .val (.ref rky), .val (.int (0 : Int32)), .val (.int (1 : Int32)), .val (.int (0 : Int32)), .val (.ref b36), .unset] [])) _
          refine st40 _ ?_
          show Steps p.tables e below (T40.setTop (mkF m 124 #[.val (.int p1), .val (.int p2), .val (.int p3), .val (.ref rkx), .val (.ref rky), .val (.int (0 : Int32)), .val (.int (1 : Int32)), .val (.int (0 : Int32)), .val (.ref b36), .unset] [(.ref w_DESC)])) _
          refine XS.astore X40.here hx rfl (hb hby at_124) rfl rfl (l' := #[.val (.int p1), .val (.int p2), .val (.int p3), .val (.ref rkx), .val (.ref rky), .val (.int (0 : Int32)), .val (.int (1 : Int32)), .val (.int (0 : Int32)), .val (.ref b36), .val (.ref w_DESC)]) rfl ?_
          show Steps p.tables e below (T40.setTop (mkF m 126 #[.val (.int p1), .val (.int p2), .val (.int p3), .val (.ref rkx), .val (.ref rky), .val (.int (0 : Int32)), .val (.int (1 : Int32)), .val (.int (0 : Int32)), .val (.ref b36), .val (.ref w_DESC)] [])) _
          refine XS.aload X40.here hx rfl (hb hby at_126) rfl rfl ?_
          show Steps p.tables e below (T40.setTop (mkF m 128 #[.val (.int p1), .val (.int p2), .val (.int p3), .val (.ref rkx), .val (.ref rky), .val (.int (0 : Int32)), .val (.int (1 : Int32)), .val (.int (0 : Int32)), .val (.ref b36), .val (.ref w_DESC)] [(.ref b36)])) _
          refine XS.aloadN X40.here hx rfl (hb hby at_128) rfl rfl ?_
          show Steps p.tables e below (T40.setTop (mkF m 129 #[.val (.int p1), .val (.int p2), .val (.int p3), .val (.ref rkx), .val (.ref rky), .val (.int (0 : Int32)), .val (.int (1 : Int32)), .val (.int (0 : Int32)), .val (.ref b36), .val (.ref w_DESC)] [(.ref rkx), (.ref b36)])) _
          refine st41.trans ?_
          show Steps p.tables e below (T41.setTop (mkF m 132 #[.val (.int p1), .val (.int p2), .val (.int p3), .val (.ref rkx), .val (.ref rky), .val (.int (0 : Int32)), .val (.int (1 : Int32)), .val (.int (0 : Int32)), .val (.ref b36), .val (.ref w_DESC)] [(.ref b36)])) _
          refine XS.aload X41.here hx rfl (hb hby at_132) rfl rfl ?_
          show Steps p.tables e below (T41.setTop (mkF m 134 #[.val (.int p1), .val (.int p2), .val (.int p3), .val (.ref rkx), .val (.ref rky), .val (.int (0 : Int32)), .val (.int (1 : Int32)), .val (.int (0 : Int32)), .val (.ref b36), .val (.ref w_DESC)] [(.ref b36), (.ref b36)])) _
          refine Jvm.RoadKit.acmp (g := (mkF m 134 #[.val (.int p1), .val (.int p2), .val (.int p3), .val (.ref rkx), .val (.ref rky), .val (.int (0 : Int32)), .val (.int (1 : Int32)), .val (.int (0 : Int32)), .val (.ref b36), .val (.ref w_DESC)] [(.ref b36), (.ref b36)])) X41 hx rfl rfl rfl (pc0 := 134) (pc' := 139) (same := true) rfl (hb hby at_134) rfl (decide_eq_true rfl) (by decide) (by decide) ?_
          show Steps p.tables e below (T41.setTop (mkF m 139 #[.val (.int p1), .val (.int p2), .val (.int p3), .val (.ref rkx), .val (.ref rky), .val (.int (0 : Int32)), .val (.int (1 : Int32)), .val (.int (0 : Int32)), .val (.ref b36), .val (.ref w_DESC)] [])) _
          refine XS.aload X41.here hx rfl (hb hby at_139) rfl rfl ?_
          show Steps p.tables e below (T41.setTop (mkF m 141 #[.val (.int p1), .val (.int p2), .val (.int p3), .val (.ref rkx), .val (.ref rky), .val (.int (0 : Int32)), .val (.int (1 : Int32)), .val (.int (0 : Int32)), .val (.ref b36), .val (.ref w_DESC)] [(.ref b36)])) _
          refine st42.trans ?_
          show Steps p.tables e below (T42.setTop (mkF m 144 #[.val (.int p1), .val (.int p2), .val (.int p3), .val (.ref rkx), .val (.ref rky), .val (.int (0 : Int32)), .val (.int (1 : Int32)), .val (.int (0 : Int32)), .val (.ref b36), .val (.ref w_DESC)] [(.ref rkx)])) _
          refine XS.aloadN X42.here hx rfl (hb hby at_144) rfl rfl ?_
          show Steps p.tables e below (T42.setTop (mkF m 145 #[.val (.int p1), .val (.int p2), .val (.int p3), .val (.ref rkx), .val (.ref rky), .val (.int (0 : Int32)), .val (.int (1 : Int32)), .val (.int (0 : Int32)), .val (.ref b36), .val (.ref w_DESC)] [(.ref rkx), (.ref rkx)])) _
          refine Jvm.RoadKit.acmp (g := (mkF m 145 #[.val (.int p1), .val (.int p2), .val (.int p3), .val (.ref rkx), .val (.ref rky), .val (.int (0 : Int32)), .val (.int (1 : Int32)), .val (.int (0 : Int32)), .val (.ref b36), .val (.ref w_DESC)] [(.ref rkx), (.ref rkx)])) X42 hx rfl rfl rfl (pc0 := 145) (pc' := 150) (same := true) rfl (hb hby at_145) rfl (decide_eq_true rfl) (by decide) (by decide) ?_
          show Steps p.tables e below (T42.setTop (mkF m 150 #[.val (.int p1), .val (.int p2), .val (.int p3), .val (.ref rkx), .val (.ref rky), .val (.int (0 : Int32)), .val (.int (1 : Int32)), .val (.int (0 : Int32)), .val (.ref b36), .val (.ref w_DESC)] [])) _
          refine XS.aload X42.here hx rfl (hb hby at_150) rfl rfl ?_
          show Steps p.tables e below (T42.setTop (mkF m 152 #[.val (.int p1), .val (.int p2), .val (.int p3), .val (.ref rkx), .val (.ref rky), .val (.int (0 : Int32)), .val (.int (1 : Int32)), .val (.int (0 : Int32)), .val (.ref b36), .val (.ref w_DESC)] [(.ref b36)])) _
          refine st43.trans ?_
          show Steps p.tables e below (T43.setTop (mkF m 155 #[.val (.int p1), .val (.int p2), .val (.int p3), .val (.ref rkx), .val (.ref rky), .val (.int (0 : Int32)), .val (.int (1 : Int32)), .val (.int (0 : Int32)), .val (.ref b36), .val (.ref w_DESC)] [(.ref w_DESC)])) _
          refine XS.aload X43.here hx rfl (hb hby at_155) rfl rfl ?_
          show Steps p.tables e below (T43.setTop (mkF m 157 #[.val (.int p1), .val (.int p2), .val (.int p3), .val (.ref rkx), .val (.ref rky), .val (.int (0 : Int32)), .val (.int (1 : Int32)), .val (.int (0 : Int32)), .val (.ref b36), .val (.ref w_DESC)] [(.ref w_DESC), (.ref w_DESC)])) _
          refine Jvm.RoadKit.acmp (g := (mkF m 157 #[.val (.int p1), .val (.int p2), .val (.int p3), .val (.ref rkx), .val (.ref rky), .val (.int (0 : Int32)), .val (.int (1 : Int32)), .val (.int (0 : Int32)), .val (.ref b36), .val (.ref w_DESC)] [(.ref w_DESC), (.ref w_DESC)])) X43 hx rfl rfl rfl (pc0 := 157) (pc' := 162) (same := true) rfl (hb hby at_157) rfl (decide_eq_true rfl) (by decide) (by decide) ?_
          show Steps p.tables e below (T43.setTop (mkF m 162 #[.val (.int p1), .val (.int p2), .val (.int p3), .val (.ref rkx), .val (.ref rky), .val (.int (0 : Int32)), .val (.int (1 : Int32)), .val (.int (0 : Int32)), .val (.ref b36), .val (.ref w_DESC)] [])) _
          refine XS.iload X43.here hx rfl (hb hby at_162) rfl ?_
          show Steps p.tables e below (T43.setTop (mkF m 164 #[.val (.int p1), .val (.int p2), .val (.int p3), .val (.ref rkx), .val (.ref rky), .val (.int (0 : Int32)), .val (.int (1 : Int32)), .val (.int (0 : Int32)), .val (.ref b36), .val (.ref w_DESC)] [(.int (1 : Int32))])) _
          refine XS.ifNo X43.here hx rfl (hb hby at_164) rfl ((if0 _ _).trans (feq (by decide : ¬ ((1 : Int32) = (0 : Int32)))).1) ?_
          show Steps p.tables e below (T43.setTop (mkF m 167 #[.val (.int p1), .val (.int p2), .val (.int p3), .val (.ref rkx), .val (.ref rky), .val (.int (0 : Int32)), .val (.int (1 : Int32)), .val (.int (0 : Int32)), .val (.ref b36), .val (.ref w_DESC)] [])) _
          refine XS.aload X43.here hx rfl (hb hby at_167) rfl rfl ?_
          show Steps p.tables e below (T43.setTop (mkF m 169 #[.val (.int p1), .val (.int p2), .val (.int p3), .val (.ref rkx), .val (.ref rky), .val (.int (0 : Int32)), .val (.int (1 : Int32)), .val (.int (0 : Int32)), .val (.ref b36), .val (.ref w_DESC)] [(.ref b36)])) _
          refine XS.aload X43.here hx rfl (hb hby at_169) rfl rfl ?_
          show Steps p.tables e below (T43.setTop (mkF m 171 #[.val (.int p1), .val (.int p2), .val (.int p3), .val (.ref rkx), .val (.ref rky), .val (.int (0 : Int32)), .val (.int (1 : Int32)), .val (.int (0 : Int32)), .val (.ref b36), .val (.ref w_DESC)] [(.ref rky), (.ref b36)])) _
          refine st44.trans ?_
          show Steps p.tables e below (T44.setTop (mkF m 174 #[.val (.int p1), .val (.int p2), .val (.int p3), .val (.ref rkx), .val (.ref rky), .val (.int (0 : Int32)), .val (.int (1 : Int32)), .val (.int (0 : Int32)), .val (.ref b36), .val (.ref w_DESC)] [(.ref b36)])) _
          refine XS.aload X44.here hx rfl (hb hby at_174) rfl rfl ?_
          show Steps p.tables e below (T44.setTop (mkF m 176 #[.val (.int p1), .val (.int p2), .val (.int p3), .val (.ref rkx), .val (.ref rky), .val (.int (0 : Int32)), .val (.int (1 : Int32)), .val (.int (0 : Int32)), .val (.ref b36), .val (.ref w_DESC)] [(.ref b36), (.ref b36)])) _
          refine Jvm.RoadKit.acmp (g := (mkF m 176 #[.val (.int p1), .val (.int p2), .val (.int p3), .val (.ref rkx), .val (.ref rky), .val (.int (0 : Int32)), .val (.int (1 : Int32)), .val (.int (0 : Int32)), .val (.ref b36), .val (.ref w_DESC)] [(.ref b36), (.ref b36)])) X44 hx rfl rfl rfl (pc0 := 176) (pc' := 181) (same := true) rfl (hb hby at_176) rfl (decide_eq_true rfl) (by decide) (by decide) ?_
          show Steps p.tables e below (T44.setTop (mkF m 181 #[.val (.int p1), .val (.int p2), .val (.int p3), .val (.ref rkx), .val (.ref rky), .val (.int (0 : Int32)), .val (.int (1 : Int32)), .val (.int (0 : Int32)), .val (.ref b36), .val (.ref w_DESC)] [])) _
          refine XS.aload X44.here hx rfl (hb hby at_181) rfl rfl ?_
          show Steps p.tables e below (T44.setTop (mkF m 183 #[.val (.int p1), .val (.int p2), .val (.int p3), .val (.ref rkx), .val (.ref rky), .val (.int (0 : Int32)), .val (.int (1 : Int32)), .val (.int (0 : Int32)), .val (.ref b36), .val (.ref w_DESC)] [(.ref b36)])) _
          refine st45.trans ?_
          show Steps p.tables e below (T45.setTop (mkF m 186 #[.val (.int p1), .val (.int p2), .val (.int p3), .val (.ref rkx), .val (.ref rky), .val (.int (0 : Int32)), .val (.int (1 : Int32)), .val (.int (0 : Int32)), .val (.ref b36), .val (.ref w_DESC)] [(.ref rky)])) _
          refine XS.aload X45.here hx rfl (hb hby at_186) rfl rfl ?_
          show Steps p.tables e below (T45.setTop (mkF m 188 #[.val (.int p1), .val (.int p2), .val (.int p3), .val (.ref rkx), .val (.ref rky), .val (.int (0 : Int32)), .val (.int (1 : Int32)), .val (.int (0 : Int32)), .val (.ref b36), .val (.ref w_DESC)] [(.ref rky), (.ref rky)])) _
          refine Jvm.RoadKit.acmp (g := (mkF m 188 #[.val (.int p1), .val (.int p2), .val (.int p3), .val (.ref rkx), .val (.ref rky), .val (.int (0 : Int32)), .val (.int (1 : Int32)), .val (.int (0 : Int32)), .val (.ref b36), .val (.ref w_DESC)] [(.ref rky), (.ref rky)])) X45 hx rfl rfl rfl (pc0 := 188) (pc' := 193) (same := true) rfl (hb hby at_188) rfl (decide_eq_true rfl) (by decide) (by decide) ?_
          show Steps p.tables e below (T45.setTop (mkF m 193 #[.val (.int p1), .val (.int p2), .val (.int p3), .val (.ref rkx), .val (.ref rky), .val (.int (0 : Int32)), .val (.int (1 : Int32)), .val (.int (0 : Int32)), .val (.ref b36), .val (.ref w_DESC)] [])) _
          refine XS.aload X45.here hx rfl (hb hby at_193) rfl rfl ?_
          show Steps p.tables e below (T45.setTop (mkF m 195 #[.val (.int p1), .val (.int p2), .val (.int p3), .val (.ref rkx), .val (.ref rky), .val (.int (0 : Int32)), .val (.int (1 : Int32)), .val (.int (0 : Int32)), .val (.ref b36), .val (.ref w_DESC)] [(.ref b36)])) _
          refine st46.trans ?_
          show Steps p.tables e below (T46.setTop (mkF m 198 #[.val (.int p1), .val (.int p2), .val (.int p3), .val (.ref rkx), .val (.ref rky), .val (.int (0 : Int32)), .val (.int (1 : Int32)), .val (.int (0 : Int32)), .val (.ref b36), .val (.ref w_DESC)] [(.ref w_DESC)])) _
          refine XS.aload X46.here hx rfl (hb hby at_198) rfl rfl ?_
          show Steps p.tables e below (T46.setTop (mkF m 200 #[.val (.int p1), .val (.int p2), .val (.int p3), .val (.ref rkx), .val (.ref rky), .val (.int (0 : Int32)), .val (.int (1 : Int32)), .val (.int (0 : Int32)), .val (.ref b36), .val (.ref w_DESC)] [(.ref w_DESC), (.ref w_DESC)])) _
          refine Jvm.RoadKit.acmp (g := (mkF m 200 #[.val (.int p1), .val (.int p2), .val (.int p3), .val (.ref rkx), .val (.ref rky), .val (.int (0 : Int32)), .val (.int (1 : Int32)), .val (.int (0 : Int32)), .val (.ref b36), .val (.ref w_DESC)] [(.ref w_DESC), (.ref w_DESC)])) X46 hx rfl rfl rfl (pc0 := 200) (pc' := 205) (same := true) rfl (hb hby at_200) rfl (decide_eq_true rfl) (by decide) (by decide) ?_
          show Steps p.tables e below (T46.setTop (mkF m 205 #[.val (.int p1), .val (.int p2), .val (.int p3), .val (.ref rkx), .val (.ref rky), .val (.int (0 : Int32)), .val (.int (1 : Int32)), .val (.int (0 : Int32)), .val (.ref b36), .val (.ref w_DESC)] [])) _
          refine XS.aload X46.here hx rfl (hb hby at_205) rfl rfl ?_
          show Steps p.tables e below (T46.setTop (mkF m 207 #[.val (.int p1), .val (.int p2), .val (.int p3), .val (.ref rkx), .val (.ref rky), .val (.int (0 : Int32)), .val (.int (1 : Int32)), .val (.int (0 : Int32)), .val (.ref b36), .val (.ref w_DESC)] [(.ref b36)])) _
          refine st47.trans ?_
          show Steps p.tables e below (T47.setTop (mkF m 210 #[.val (.int p1), .val (.int p2), .val (.int p3), .val (.ref rkx), .val (.ref rky), .val (.int (0 : Int32)), .val (.int (1 : Int32)), .val (.int (0 : Int32)), .val (.ref b36), .val (.ref w_DESC)] [(.int (0 : Int32))])) _
          refine XS.iload X47.here hx rfl (hb hby at_210) rfl ?_
          show Steps p.tables e below (T47.setTop (mkF m 212 #[.val (.int p1), .val (.int p2), .val (.int p3), .val (.ref rkx), .val (.ref rky), .val (.int (0 : Int32)), .val (.int (1 : Int32)), .val (.int (0 : Int32)), .val (.ref b36), .val (.ref w_DESC)] [(.int (0 : Int32)), (.int (0 : Int32))])) _
          refine XS.icmpNo X47.here hx rfl (hb hby at_212) rfl (teq (rfl : (0 : Int32) = (0 : Int32))).2 ?_
          show Steps p.tables e below (T47.setTop (mkF m 215 #[.val (.int p1), .val (.int p2), .val (.int p3), .val (.ref rkx), .val (.ref rky), .val (.int (0 : Int32)), .val (.int (1 : Int32)), .val (.int (0 : Int32)), .val (.ref b36), .val (.ref w_DESC)] [])) _
          refine XS.iconst X47.here hx rfl (hb hby at_215) ?_
          show Steps p.tables e below (T47.setTop (mkF m 216 #[.val (.int p1), .val (.int p2), .val (.int p3), .val (.ref rkx), .val (.ref rky), .val (.int (0 : Int32)), .val (.int (1 : Int32)), .val (.int (0 : Int32)), .val (.ref b36), .val (.ref w_DESC)] [(.int (1 : Int32))])) _
          refine XS.goto X47.here hx rfl (pc0 := 216) (pc' := 220) rfl (hb hby at_216) (by decide) (by decide) ?_
          exact kt
        obtain ⟨fs, hr, hrun, hended, hW⟩ := X47.leaveW hS (by rw [hE47]; exact (Nat.le_refl _)) (v := some (.int (1 : Int32))) (fun h => by rw [Bd.returns] at h; cases h)
        refine ⟨_, _, pre48 _ ?_, hrun, hended, _, _, rfl, ?_, ⟨_, rfl⟩, hW.2.1, hW.2.2.1, hW.2.2.2.mono (by decide) (by decide)⟩
        · show Steps p.tables e below (T47.setTop (mkF m 220 #[.val (.int p1), .val (.int p2), .val (.int p3), .val (.ref rkx), .val (.ref rky), .val (.int (0 : Int32)), .val (.int (1 : Int32)), .val (.int (0 : Int32)), .val (.ref b36), .val (.ref w_DESC)] [(.int (1 : Int32))])) _
          exact retN X47 hx (t := .boolean) Bd.returns (by simp) (hb hby at_220) hr
        · show Q0 Z h0 n0 _ T47.heap _
          rw [hE47]
          exact ⟨rfl, N47⟩
      · obtain ⟨T49, h49, X49, e49, E49, A49, D49, -, st49⟩ := newO X4 hx hZ hown (hw _ (List.mem_of_getElem? (i := 10) rfl)) (hw _ (List.mem_of_getElem? (i := 11) rfl)) (hw _ (List.mem_of_getElem? (i := 12) rfl)) hE4 (g := (mkF m 62 #[.val (.int p1), .val (.int p2), .val (.int p3), .val (.ref rkx), .val (.ref rky), .val (.int (0 : Int32)), .val (.int (1 : Int32)), .val (.int (1 : Int32)), .unset, .unset] [])) rfl (hb hby at_62) (by decide) (by decide)
        obtain ⟨b49, g49⟩ : ∃ z, z = h0.size := ⟨_, rfl⟩
        rw [← g49] at A49 D49 st49
        have g_b49 : n0 ≤ b49 := Nat.le_trans Z0 (Nat.le_of_eq g49.symm)
        have F_searchTerms_b49 : Fld Z h49 b49 "com/example/wee_forge/weeforge/model/ProjectFilter" "searchTerms" "Ljava/util/List;" .null := D49 (Or.inl (hw _ (List.mem_of_getElem? (i := 26) rfl))) (ty := (.object "java/util/List")) (by decide)
        have F_topics_b49 : Fld Z h49 b49 "com/example/wee_forge/weeforge/model/ProjectFilter" "topics" "Ljava/util/List;" .null := D49 (Or.inl (hw _ (List.mem_of_getElem? (i := 28) rfl))) (ty := (.object "java/util/List")) (by decide)
        have F_lastActivity_b49 : Fld Z h49 b49 "com/example/wee_forge/weeforge/model/ProjectFilter" "lastActivity" "Lcom/example/wee_forge/weeforge/model/TimeRange;" .null := D49 (Or.inl (hw _ (List.mem_of_getElem? (i := 33) rfl))) (ty := (.object "com/example/wee_forge/weeforge/model/TimeRange")) (by decide)
        have F_updated_b49 : Fld Z h49 b49 "com/example/wee_forge/weeforge/model/ProjectFilter" "updated" "Lcom/example/wee_forge/weeforge/model/TimeRange;" .null := D49 (Or.inl (hw _ (List.mem_of_getElem? (i := 35) rfl))) (ty := (.object "com/example/wee_forge/weeforge/model/TimeRange")) (by decide)
        have F_idAfter_b49 : Fld Z h49 b49 "com/example/wee_forge/weeforge/model/ProjectFilter" "idAfter" "Ljava/util/OptionalLong;" .null := D49 (Or.inl (hw _ (List.mem_of_getElem? (i := 42) rfl))) (ty := (.object "java/util/OptionalLong")) (by decide)
        have F_idBefore_b49 : Fld Z h49 b49 "com/example/wee_forge/weeforge/model/ProjectFilter" "idBefore" "Ljava/util/OptionalLong;" .null := D49 (Or.inl (hw _ (List.mem_of_getElem? (i := 44) rfl))) (ty := (.object "java/util/OptionalLong")) (by decide)
        have F_orderBy_b49 : Fld Z h49 b49 "com/example/wee_forge/weeforge/model/ProjectFilter" "orderBy" "Lcom/example/wee_forge/weeforge/model/ProjectOrder;" .null := D49 (Or.inl (hw _ (List.mem_of_getElem? (i := 47) rfl))) (ty := (.object "com/example/wee_forge/weeforge/model/ProjectOrder")) (by decide)
        have F_sort_b49 : Fld Z h49 b49 "com/example/wee_forge/weeforge/model/ProjectFilter" "sort" "Lcom/example/wee_forge/weeforge/model/SortDirection;" .null := D49 (Or.inl (hw _ (List.mem_of_getElem? (i := 52) rfl))) (ty := (.object "com/example/wee_forge/weeforge/model/SortDirection")) (by decide)
        have F_starredOnly_b49 : Fld Z h49 b49 "com/example/wee_forge/weeforge/model/ProjectFilter" "starredOnly" "Z" (.int (0 : Int32)) := D49 (Or.inl (hw _ (List.mem_of_getElem? (i := 89) rfl))) (ty := .boolean) (by decide)
        obtain ⟨_, _, ⟨T50, L50, k50, n50⟩, -, X50, ⟨Lc50, hQ50, l50, y50, z50⟩, st50⟩ := X49.specialBack hx (y := (⟨"com/example/wee_forge/weeforge/model/ProjectFilter", "<init>", "()V"⟩ : MethodName)) rfl hown (mvT hZ (hw _ (List.mem_of_getElem? (i := 13) rfl))) (mvT hZ (hw _ (List.mem_of_getElem? (i := 14) rfl))) (mvT hZ (hw _ (List.mem_of_getElem? (i := 15) rfl))) (by decide) (backOf (W := 1) (rmC l Z a0 hw [] b49 w_ANY w_CREATED_AT w_DESC wEL wOL h49 n0 (Nat.le_trans Z0 E49.1) A49 F_searchTerms_b49 F_topics_b49 F_lastActivity_b49 F_updated_b49 F_idAfter_b49 F_idBefore_b49 F_orderBy_b49 F_sort_b49 F_starredOnly_b49 g_b49 (Sta.ext E49 S_ANY) (Sta.ext E49 S_CREATED_AT) (Sta.ext E49 S_DESC) (Sta.ext E49 S_EL) (Sta.ext E49 S_OL)) hZ (hw _ (List.mem_of_getElem? (i := 15) rfl)) (hw _ (List.mem_of_getElem? (i := 12) rfl)) (by decide) (by decide)) (g := (mkF m 66 #[.val (.int p1), .val (.int p2), .val (.int p3), .val (.ref rkx), .val (.ref rky), .val (.int (0 : Int32)), .val (.int (1 : Int32)), .val (.int (1 : Int32)), .unset, .unset] [(.ref b49), (.ref b49)])) rfl (by rw [hml]; rfl) (Steps.refl _) (a := b49) (argsL := []) (rest := [(.ref b49)]) (lenOf pd_rm0_1 rfl) rfl (by show 2 * 0 + _ ≤ _; exact Nat.le_of_eq rfl) (hb hby at_66) (fun _ _ => ⟨rfl, e49, (by decide : 1 + 0 ≤ _), (by decide : 12 + 0 ≤ _)⟩)
        dsimp only [Pt.U, Pt.locs, Pt.cells, Pt.slots] at X50 l50 y50 z50 st50 hQ50
        subst l50 y50 z50
        obtain ⟨rfl, N50q, K50, Ei50, Fs50, Fo50, Fb50⟩ := hQ50
        have N50 := Fr.app N4 N50q
        obtain ⟨cq51, kq51, q51a, q51b, q51c⟩ := isOf hZ rfl Ei50
        obtain ⟨_, _, ⟨T51, L51, k51, n51⟩, -, X51, ⟨Lc51, hQ51, l51, y51, z51⟩, st51⟩ := X50.virtualBack hx (y := (⟨"com/example/wee_forge/weeforge/model/ProjectFilter", "orderBy", "()Lcom/example/wee_forge/weeforge/model/ProjectOrder;"⟩ : MethodName)) (z := (⟨"com/example/wee_forge/weeforge/model/ProjectFilter", "orderBy", "()Lcom/example/wee_forge/weeforge/model/ProjectOrder;"⟩ : MethodName)) hown (mvT hZ (hw _ (List.mem_of_getElem? (i := 53) rfl))) (mvT hZ (hw _ (List.mem_of_getElem? (i := 54) rfl))) (notFace_of_selects (args := #[]) (mvT hZ (hw _ (List.mem_of_getElem? (i := 56) rfl)))) (mvT hZ (hw _ (List.mem_of_getElem? (i := 56) rfl))) (mvT hZ (hw _ (List.mem_of_getElem? (i := 55) rfl))) (by decide) (backOf (W := 0) (rmg_orderBy l Z a0 hw [] b49 w_CREATED_AT T50.heap n0 (Nat.le_trans (Nat.le_trans Z0 E49.1) K50.1) Fo50) hZ (hw _ (List.mem_of_getElem? (i := 57) rfl)) (hw _ (List.mem_of_getElem? (i := 12) rfl)) (by decide) (by decide)) q51a q51c (g := (mkF m 73 #[.val (.int p1), .val (.int p2), .val (.int p3), .val (.ref rkx), .val (.ref rky), .val (.int (0 : Int32)), .val (.int (1 : Int32)), .val (.int (1 : Int32)), .val (.ref b49), .unset] [(.ref b49)])) rfl (by rw [hml]; rfl) (Steps.refl _) (argsL := []) (rest := []) (lenOf pd_rm0_2 rfl) rfl (by show 2 * 0 + _ ≤ _; exact Nat.le_of_eq rfl) (hb hby at_73) (fun _ _ => ⟨rfl, rfl, (by decide : 1 + 0 ≤ _), (by decide : 12 + 0 ≤ _)⟩)
        dsimp only [Pt.U, Pt.locs, Pt.cells, Pt.slots] at X51 l51 y51 z51 st51 hQ51
        subst l51 y51 z51
        obtain ⟨rfl, N51q, hE51⟩ := hQ51
        have N51 := Fr.app N50 N51q
        obtain ⟨T52, X52, e52, st52⟩ := getS2 X51 hx hZ hown (host := "") (Or.inl (hw _ (List.mem_of_getElem? (i := 8) rfl))) Via.refl hE51 (own_staK (Sta.ext E49 S_CREATED_AT) K50 (allS ⟨_, A49⟩ all0)) (g := (mkF m 76 #[.val (.int p1), .val (.int p2), .val (.int p3), .val (.ref rkx), .val (.ref rky), .val (.int (0 : Int32)), .val (.int (1 : Int32)), .val (.int (1 : Int32)), .val (.ref b49), .unset] [(.ref w_CREATED_AT)])) rfl (hb hby at_76)
        obtain ⟨cq53, kq53, q53a, q53b, q53c⟩ := isOf hZ e52 Ei50
        obtain ⟨_, _, ⟨T53, L53, k53, n53⟩, -, X53, ⟨Lc53, hQ53, l53, y53, z53⟩, st53⟩ := X52.virtualBack hx (y := (⟨"com/example/wee_forge/weeforge/model/ProjectFilter", "starredOnly", "(Z)Lcom/example/wee_forge/weeforge/model/ProjectFilter;"⟩ : MethodName)) (z := (⟨"com/example/wee_forge/weeforge/model/ProjectFilter", "starredOnly", "(Z)Lcom/example/wee_forge/weeforge/model/ProjectFilter;"⟩ : MethodName)) hown (mvT hZ (hw _ (List.mem_of_getElem? (i := 104) rfl))) (mvT hZ (hw _ (List.mem_of_getElem? (i := 105) rfl))) (notFace_of_selects (args := #[]) (mvT hZ (hw _ (List.mem_of_getElem? (i := 107) rfl)))) (mvT hZ (hw _ (List.mem_of_getElem? (i := 107) rfl))) (mvT hZ (hw _ (List.mem_of_getElem? (i := 106) rfl))) (by decide) (backOf (W := 0) (rm_star l Z a0 hw [] b49 w_DESC w_CREATED_AT (0 : Int32) T50.heap n0 (Nat.le_trans (Nat.le_trans Z0 E49.1) K50.1) Ei50 Fs50 Fo50 Fb50 g_b49) hZ (hw _ (List.mem_of_getElem? (i := 108) rfl)) (hw _ (List.mem_of_getElem? (i := 12) rfl)) (by decide) (by decide)) q53a q53c (g := (mkF m 106 #[.val (.int p1), .val (.int p2), .val (.int p3), .val (.ref rkx), .val (.ref rky), .val (.int (0 : Int32)), .val (.int (1 : Int32)), .val (.int (1 : Int32)), .val (.ref b49), .unset] [(.int (1 : Int32)), (.ref b49)])) rfl (by rw [hml]; rfl) (Steps.refl _) (argsL := [(.int (1 : Int32))]) (rest := []) (lenOf pd_rm0_6 rfl) rfl (by show 2 * 0 + _ ≤ _; exact Nat.le_of_eq rfl) (hb hby at_106) (fun _ _ => ⟨rfl, e52, (by decide : 1 + 0 ≤ _), (by decide : 12 + 0 ≤ _)⟩)
        dsimp only [Pt.U, Pt.locs, Pt.cells, Pt.slots] at X53 l53 y53 z53 st53 hQ53
        subst l53 y53 z53
        obtain ⟨rfl, N53q, K53, Ei53, Fs53, Fo53, Fb53⟩ := hQ53
        have N53 := Fr.app N51 N53q
        obtain ⟨T54, X54, e54, st54⟩ := getS2 X53 hx hZ hown (host := "") (Or.inl (hw _ (List.mem_of_getElem? (i := 58) rfl))) Via.refl rfl (own_staK (own_staK (Sta.ext E49 S_DESC) K50 (allS ⟨_, A49⟩ all0)) K53 (allS ⟨_, Ei50⟩ all0)) (g := (mkF m 121 #[.val (.int p1), .val (.int p2), .val (.int p3), .val (.ref rkx), .val (.ref rky), .val (.int (0 : Int32)), .val (.int (1 : Int32)), .val (.int (1 : Int32)), .val (.ref b49), .unset] [])) rfl (hb hby at_121)
        obtain ⟨cq55, kq55, q55a, q55b, q55c⟩ := isOf hZ e54 Ei53
        obtain ⟨_, _, ⟨T55, L55, k55, n55⟩, -, X55, hSb55, hgr55, ⟨Lc55, hQ55, l55, y55, z55⟩, st55⟩ := X54.virtualBackS hx (y := (⟨"com/example/wee_forge/weeforge/model/ProjectFilter", "orderBy", "(Lcom/example/wee_forge/weeforge/model/ProjectOrder;)Lcom/example/wee_forge/weeforge/model/ProjectFilter;"⟩ : MethodName)) (z := (⟨"com/example/wee_forge/weeforge/model/ProjectFilter", "orderBy", "(Lcom/example/wee_forge/weeforge/model/ProjectOrder;)Lcom/example/wee_forge/weeforge/model/ProjectFilter;"⟩ : MethodName)) hown (mvT hZ (hw _ (List.mem_of_getElem? (i := 59) rfl))) (mvT hZ (hw _ (List.mem_of_getElem? (i := 60) rfl))) (notFace_of_selects (args := #[]) (mvT hZ (hw _ (List.mem_of_getElem? (i := 62) rfl)))) (mvT hZ (hw _ (List.mem_of_getElem? (i := 62) rfl))) (mvT hZ (hw _ (List.mem_of_getElem? (i := 61) rfl))) (by decide) (backOfS (W := 0) (rm_orderBy l Z a0 hw [] b49 rkx w_DESC w_CREATED_AT (1 : Int32) T53.heap n0 (Nat.le_trans (Nat.le_trans (Nat.le_trans Z0 E49.1) K50.1) K53.1) Ei53 Fs53 Fo53 Fb53 g_b49 (((Exa.ext E49 E_rkx).keep K50).keep K53)) hZ (hw _ (List.mem_of_getElem? (i := 63) rfl)) (hw _ (List.mem_of_getElem? (i := 12) rfl)) (by decide) (by decide)) q55a q55c (g := (mkF m 129 #[.val (.int p1), .val (.int p2), .val (.int p3), .val (.ref rkx), .val (.ref rky), .val (.int (0 : Int32)), .val (.int (1 : Int32)), .val (.int (1 : Int32)), .val (.ref b49), .val (.ref w_DESC)] [(.ref rkx), (.ref b49)])) rfl (by rw [hml]; rfl) (Steps.refl _) (argsL := [(.ref rkx)]) (rest := []) (lenOf pd_rm0_3 rfl) rfl (by show 2 * 0 + _ ≤ _; exact Nat.le_of_eq rfl) (hb hby at_129) (fun _ _ => ⟨rfl, e54, (by decide : 1 + 2 ≤ _), (by decide : 12 + 32 ≤ _)⟩)
        dsimp only [Pt.U, Pt.locs, Pt.cells, Pt.slots] at X55 l55 y55 z55 st55 hQ55 hSb55 hgr55
        subst l55 y55 z55
        obtain ⟨X55, hS, hZ, hown⟩ := rebS hS (by rw [e54]; exact (Nat.le_trans (Nat.le_trans (Nat.le_trans hk E49.1) K50.1) K53.1)) X55 hSb55 hgr55 hZ hown
        obtain ⟨rfl, N55q, K55, Ei55, Fs55, Fo55, Fb55⟩ := hQ55
        have N55 := Fr.app N53 N55q
        obtain ⟨cq56, kq56, q56a, q56b, q56c⟩ := isOf hZ rfl Ei55
        obtain ⟨_, _, ⟨T56, L56, k56, n56⟩, -, X56, ⟨Lc56, hQ56, l56, y56, z56⟩, st56⟩ := X55.virtualBack hx (y := (⟨"com/example/wee_forge/weeforge/model/ProjectFilter", "orderBy", "()Lcom/example/wee_forge/weeforge/model/ProjectOrder;"⟩ : MethodName)) (z := (⟨"com/example/wee_forge/weeforge/model/ProjectFilter", "orderBy", "()Lcom/example/wee_forge/weeforge/model/ProjectOrder;"⟩ : MethodName)) hown (mvT hZ (hw _ (List.mem_of_getElem? (i := 53) rfl))) (mvT hZ (hw _ (List.mem_of_getElem? (i := 54) rfl))) (notFace_of_selects (args := #[]) (mvT hZ (hw _ (List.mem_of_getElem? (i := 56) rfl)))) (mvT hZ (hw _ (List.mem_of_getElem? (i := 56) rfl))) (mvT hZ (hw _ (List.mem_of_getElem? (i := 55) rfl))) (by decide) (backOf (W := 0) (rmg_orderBy l Z a0 hw [] b49 rkx T55.heap n0 (Nat.le_trans (Nat.le_trans (Nat.le_trans (Nat.le_trans Z0 E49.1) K50.1) K53.1) K55.1) Fo55) hZ (hw _ (List.mem_of_getElem? (i := 57) rfl)) (hw _ (List.mem_of_getElem? (i := 12) rfl)) (by decide) (by decide)) q56a q56c (g := (mkF m 141 #[.val (.int p1), .val (.int p2), .val (.int p3), .val (.ref rkx), .val (.ref rky), .val (.int (0 : Int32)), .val (.int (1 : Int32)), .val (.int (1 : Int32)), .val (.ref b49), .val (.ref w_DESC)] [(.ref b49)])) rfl (by rw [hml]; rfl) (Steps.refl _) (argsL := []) (rest := []) (lenOf pd_rm0_2 rfl) rfl (by show 2 * 0 + _ ≤ _; exact Nat.le_of_eq rfl) (hb hby at_141) (fun _ _ => ⟨rfl, rfl, (by decide : 3 + 0 ≤ _), (by decide : 44 + 0 ≤ _)⟩)
        dsimp only [Pt.U, Pt.locs, Pt.cells, Pt.slots] at X56 l56 y56 z56 st56 hQ56
        subst l56 y56 z56
        obtain ⟨rfl, N56q, hE56⟩ := hQ56
        have N56 := Fr.app N55 N56q
        obtain ⟨cq57, kq57, q57a, q57b, q57c⟩ := isOf hZ hE56 Ei55
        obtain ⟨_, _, ⟨T57, L57, k57, n57⟩, -, X57, ⟨Lc57, hQ57, l57, y57, z57⟩, st57⟩ := X56.virtualBack hx (y := (⟨"com/example/wee_forge/weeforge/model/ProjectFilter", "sort", "()Lcom/example/wee_forge/weeforge/model/SortDirection;"⟩ : MethodName)) (z := (⟨"com/example/wee_forge/weeforge/model/ProjectFilter", "sort", "()Lcom/example/wee_forge/weeforge/model/SortDirection;"⟩ : MethodName)) hown (mvT hZ (hw _ (List.mem_of_getElem? (i := 78) rfl))) (mvT hZ (hw _ (List.mem_of_getElem? (i := 79) rfl))) (notFace_of_selects (args := #[]) (mvT hZ (hw _ (List.mem_of_getElem? (i := 81) rfl)))) (mvT hZ (hw _ (List.mem_of_getElem? (i := 81) rfl))) (mvT hZ (hw _ (List.mem_of_getElem? (i := 80) rfl))) (by decide) (backOf (W := 0) (rmg_sort l Z a0 hw [] b49 w_DESC T55.heap n0 (Nat.le_trans (Nat.le_trans (Nat.le_trans (Nat.le_trans Z0 E49.1) K50.1) K53.1) K55.1) Fs55) hZ (hw _ (List.mem_of_getElem? (i := 82) rfl)) (hw _ (List.mem_of_getElem? (i := 12) rfl)) (by decide) (by decide)) q57a q57c (g := (mkF m 152 #[.val (.int p1), .val (.int p2), .val (.int p3), .val (.ref rkx), .val (.ref rky), .val (.int (0 : Int32)), .val (.int (1 : Int32)), .val (.int (1 : Int32)), .val (.ref b49), .val (.ref w_DESC)] [(.ref b49)])) rfl (by rw [hml]; rfl) (Steps.refl _) (argsL := []) (rest := []) (lenOf pd_rm0_4 rfl) rfl (by show 2 * 0 + _ ≤ _; exact Nat.le_of_eq rfl) (hb hby at_152) (fun _ _ => ⟨rfl, hE56, (by decide : 3 + 0 ≤ _), (by decide : 44 + 0 ≤ _)⟩)
        dsimp only [Pt.U, Pt.locs, Pt.cells, Pt.slots] at X57 l57 y57 z57 st57 hQ57
        subst l57 y57 z57
        obtain ⟨rfl, N57q, hE57⟩ := hQ57
        have N57 := Fr.app N56 N57q
        obtain ⟨cq58, kq58, q58a, q58b, q58c⟩ := isOf hZ hE57 Ei55
        obtain ⟨_, _, ⟨T58, L58, k58, n58⟩, -, X58, hSb58, hgr58, ⟨Lc58, hQ58, l58, y58, z58⟩, st58⟩ := X57.virtualBackS hx (y := (⟨"com/example/wee_forge/weeforge/model/ProjectFilter", "orderBy", "(Lcom/example/wee_forge/weeforge/model/ProjectOrder;)Lcom/example/wee_forge/weeforge/model/ProjectFilter;"⟩ : MethodName)) (z := (⟨"com/example/wee_forge/weeforge/model/ProjectFilter", "orderBy", "(Lcom/example/wee_forge/weeforge/model/ProjectOrder;)Lcom/example/wee_forge/weeforge/model/ProjectFilter;"⟩ : MethodName)) hown (mvT hZ (hw _ (List.mem_of_getElem? (i := 59) rfl))) (mvT hZ (hw _ (List.mem_of_getElem? (i := 60) rfl))) (notFace_of_selects (args := #[]) (mvT hZ (hw _ (List.mem_of_getElem? (i := 62) rfl)))) (mvT hZ (hw _ (List.mem_of_getElem? (i := 62) rfl))) (mvT hZ (hw _ (List.mem_of_getElem? (i := 61) rfl))) (by decide) (backOfS (W := 0) (rm_orderBy l Z a0 hw [] b49 rky w_DESC rkx (1 : Int32) T55.heap n0 (Nat.le_trans (Nat.le_trans (Nat.le_trans (Nat.le_trans Z0 E49.1) K50.1) K53.1) K55.1) Ei55 Fs55 Fo55 Fb55 g_b49 ((((Exa.ext E49 E_rky).keep K50).keep K53).keep K55)) hZ (hw _ (List.mem_of_getElem? (i := 63) rfl)) (hw _ (List.mem_of_getElem? (i := 12) rfl)) (by decide) (by decide)) q58a q58c (g := (mkF m 171 #[.val (.int p1), .val (.int p2), .val (.int p3), .val (.ref rkx), .val (.ref rky), .val (.int (0 : Int32)), .val (.int (1 : Int32)), .val (.int (1 : Int32)), .val (.ref b49), .val (.ref w_DESC)] [(.ref rky), (.ref b49)])) rfl (by rw [hml]; rfl) (Steps.refl _) (argsL := [(.ref rky)]) (rest := []) (lenOf pd_rm0_3 rfl) rfl (by show 2 * 0 + _ ≤ _; exact Nat.le_of_eq rfl) (hb hby at_171) (fun _ _ => ⟨rfl, hE57, (by decide : 3 + 2 ≤ _), (by decide : 44 + 32 ≤ _)⟩)
        dsimp only [Pt.U, Pt.locs, Pt.cells, Pt.slots] at X58 l58 y58 z58 st58 hQ58 hSb58 hgr58
        subst l58 y58 z58
        obtain ⟨X58, hS, hZ, hown⟩ := rebS hS (by rw [hE57]; exact (Nat.le_refl _)) X58 hSb58 hgr58 hZ hown
        obtain ⟨rfl, N58q, K58, Ei58, Fs58, Fo58, Fb58⟩ := hQ58
        have N58 := Fr.app N57 N58q
        obtain ⟨cq59, kq59, q59a, q59b, q59c⟩ := isOf hZ rfl Ei58
        obtain ⟨_, _, ⟨T59, L59, k59, n59⟩, -, X59, ⟨Lc59, hQ59, l59, y59, z59⟩, st59⟩ := X58.virtualBack hx (y := (⟨"com/example/wee_forge/weeforge/model/ProjectFilter", "orderBy", "()Lcom/example/wee_forge/weeforge/model/ProjectOrder;"⟩ : MethodName)) (z := (⟨"com/example/wee_forge/weeforge/model/ProjectFilter", "orderBy", "()Lcom/example/wee_forge/weeforge/model/ProjectOrder;"⟩ : MethodName)) hown (mvT hZ (hw _ (List.mem_of_getElem? (i := 53) rfl))) (mvT hZ (hw _ (List.mem_of_getElem? (i := 54) rfl))) (notFace_of_selects (args := #[]) (mvT hZ (hw _ (List.mem_of_getElem? (i := 56) rfl)))) (mvT hZ (hw _ (List.mem_of_getElem? (i := 56) rfl))) (mvT hZ (hw _ (List.mem_of_getElem? (i := 55) rfl))) (by decide) (backOf (W := 0) (rmg_orderBy l Z a0 hw [] b49 rky T58.heap n0 (Nat.le_trans (Nat.le_trans (Nat.le_trans (Nat.le_trans (Nat.le_trans Z0 E49.1) K50.1) K53.1) K55.1) K58.1) Fo58) hZ (hw _ (List.mem_of_getElem? (i := 57) rfl)) (hw _ (List.mem_of_getElem? (i := 12) rfl)) (by decide) (by decide)) q59a q59c (g := (mkF m 183 #[.val (.int p1), .val (.int p2), .val (.int p3), .val (.ref rkx), .val (.ref rky), .val (.int (0 : Int32)), .val (.int (1 : Int32)), .val (.int (1 : Int32)), .val (.ref b49), .val (.ref w_DESC)] [(.ref b49)])) rfl (by rw [hml]; rfl) (Steps.refl _) (argsL := []) (rest := []) (lenOf pd_rm0_2 rfl) rfl (by show 2 * 0 + _ ≤ _; exact Nat.le_of_eq rfl) (hb hby at_183) (fun _ _ => ⟨rfl, rfl, (by decide : 5 + 0 ≤ _), (by decide : 76 + 0 ≤ _)⟩)
        dsimp only [Pt.U, Pt.locs, Pt.cells, Pt.slots] at X59 l59 y59 z59 st59 hQ59
        subst l59 y59 z59
        obtain ⟨rfl, N59q, hE59⟩ := hQ59
        have N59 := Fr.app N58 N59q
        obtain ⟨cq60, kq60, q60a, q60b, q60c⟩ := isOf hZ hE59 Ei58
        obtain ⟨_, _, ⟨T60, L60, k60, n60⟩, -, X60, ⟨Lc60, hQ60, l60, y60, z60⟩, st60⟩ := X59.virtualBack hx (y := (⟨"com/example/wee_forge/weeforge/model/ProjectFilter", "sort", "()Lcom/example/wee_forge/weeforge/model/SortDirection;"⟩ : MethodName)) (z := (⟨"com/example/wee_forge/weeforge/model/ProjectFilter", "sort", "()Lcom/example/wee_forge/weeforge/model/SortDirection;"⟩ : MethodName)) hown (mvT hZ (hw _ (List.mem_of_getElem? (i := 78) rfl))) (mvT hZ (hw _ (List.mem_of_getElem? (i := 79) rfl))) (notFace_of_selects (args := #[]) (mvT hZ (hw _ (List.mem_of_getElem? (i := 81) rfl)))) (mvT hZ (hw _ (List.mem_of_getElem? (i := 81) rfl))) (mvT hZ (hw _ (List.mem_of_getElem? (i := 80) rfl))) (by decide) (backOf (W := 0) (rmg_sort l Z a0 hw [] b49 w_DESC T58.heap n0 (Nat.le_trans (Nat.le_trans (Nat.le_trans (Nat.le_trans (Nat.le_trans Z0 E49.1) K50.1) K53.1) K55.1) K58.1) Fs58) hZ (hw _ (List.mem_of_getElem? (i := 82) rfl)) (hw _ (List.mem_of_getElem? (i := 12) rfl)) (by decide) (by decide)) q60a q60c (g := (mkF m 195 #[.val (.int p1), .val (.int p2), .val (.int p3), .val (.ref rkx), .val (.ref rky), .val (.int (0 : Int32)), .val (.int (1 : Int32)), .val (.int (1 : Int32)), .val (.ref b49), .val (.ref w_DESC)] [(.ref b49)])) rfl (by rw [hml]; rfl) (Steps.refl _) (argsL := []) (rest := []) (lenOf pd_rm0_4 rfl) rfl (by show 2 * 0 + _ ≤ _; exact Nat.le_of_eq rfl) (hb hby at_195) (fun _ _ => ⟨rfl, hE59, (by decide : 5 + 0 ≤ _), (by decide : 76 + 0 ≤ _)⟩)
        dsimp only [Pt.U, Pt.locs, Pt.cells, Pt.slots] at X60 l60 y60 z60 st60 hQ60
        subst l60 y60 z60
        obtain ⟨rfl, N60q, hE60⟩ := hQ60
        have N60 := Fr.app N59 N60q
        obtain ⟨cq61, kq61, q61a, q61b, q61c⟩ := isOf hZ hE60 Ei58
        obtain ⟨_, _, ⟨T61, L61, k61, n61⟩, -, X61, ⟨Lc61, hQ61, l61, y61, z61⟩, st61⟩ := X60.virtualBack hx (y := (⟨"com/example/wee_forge/weeforge/model/ProjectFilter", "starredOnly", "()Z"⟩ : MethodName)) (z := (⟨"com/example/wee_forge/weeforge/model/ProjectFilter", "starredOnly", "()Z"⟩ : MethodName)) hown (mvT hZ (hw _ (List.mem_of_getElem? (i := 83) rfl))) (mvT hZ (hw _ (List.mem_of_getElem? (i := 84) rfl))) (notFace_of_selects (args := #[]) (mvT hZ (hw _ (List.mem_of_getElem? (i := 86) rfl)))) (mvT hZ (hw _ (List.mem_of_getElem? (i := 86) rfl))) (mvT hZ (hw _ (List.mem_of_getElem? (i := 85) rfl))) (by decide) (backOf (W := 0) (rmg_starredOnly l Z a0 hw [] b49 (1 : Int32) T58.heap n0 (Nat.le_trans (Nat.le_trans (Nat.le_trans (Nat.le_trans (Nat.le_trans Z0 E49.1) K50.1) K53.1) K55.1) K58.1) Fb58 (by decide)) hZ (hw _ (List.mem_of_getElem? (i := 87) rfl)) (hw _ (List.mem_of_getElem? (i := 12) rfl)) (by decide) (by decide)) q61a q61c (g := (mkF m 207 #[.val (.int p1), .val (.int p2), .val (.int p3), .val (.ref rkx), .val (.ref rky), .val (.int (0 : Int32)), .val (.int (1 : Int32)), .val (.int (1 : Int32)), .val (.ref b49), .val (.ref w_DESC)] [(.ref b49)])) rfl (by rw [hml]; rfl) (Steps.refl _) (argsL := []) (rest := []) (lenOf pd_rm0_5 rfl) rfl (by show 2 * 0 + _ ≤ _; exact Nat.le_of_eq rfl) (hb hby at_207) (fun _ _ => ⟨rfl, hE60, (by decide : 5 + 0 ≤ _), (by decide : 76 + 0 ≤ _)⟩)
        dsimp only [Pt.U, Pt.locs, Pt.cells, Pt.slots] at X61 l61 y61 z61 st61 hQ61
        subst l61 y61 z61
        obtain ⟨rfl, N61q, hE61⟩ := hQ61
        have N61 := Fr.app N60 N61q
        have pre62 : ∀ tt, Steps p.tables e below (T61.setTop (mkF m 220 #[.val (.int p1), .val (.int p2), .val (.int p3), .val (.ref rkx), .val (.ref rky), .val (.int (0 : Int32)), .val (.int (1 : Int32)), .val (.int (1 : Int32)), .val (.ref b49), .val (.ref w_DESC)] [(.int (1 : Int32))])) tt → Steps p.tables e below (s₁.setTop (entryFrame m #[(.int p1), (.int p2), (.int p3)] maxLocals)) tt := by
          intro tt kt
          refine pre34 tt ?_
          show Steps p.tables e below (T4.setTop (mkF m 52 #[.val (.int p1), .val (.int p2), .val (.int p3), .val (.ref rkx), .val (.ref rky), .val (.int (0 : Int32)), .val (.int (1 : Int32)), .unset, .unset, .unset] [(.int (p3 &&& (4 : Int32)))])) _
          refine XS.ifNo X4.here hx rfl (hb hby at_52) rfl ((if0 _ _).trans (feq c52_35).1) ?_
          show Steps p.tables e below (T4.setTop (mkF m 55 #[.val (.int p1), .val (.int p2), .val (.int p3), .val (.ref rkx), .val (.ref rky), .val (.int (0 : Int32)), .val (.int (1 : Int32)), .unset, .unset, .unset] [])) _
          refine XS.iconst X4.here hx rfl (hb hby at_55) ?_
          show Steps p.tables e below (T4.setTop (mkF m 56 #[.val (.int p1), .val (.int p2), .val (.int p3), .val (.ref rkx), .val (.ref rky), .val (.int (0 : Int32)), .val (.int (1 : Int32)), .unset, .unset, .unset] [(.int (1 : Int32))])) _
          refine XS.goto X4.here hx rfl (pc0 := 56) (pc' := 60) rfl (hb hby at_56) (by decide) (by decide) ?_
          show Steps p.tables e below (T4.setTop (mkF m 60 #[.val (.int p1), .val (.int p2), .val (.int p3), .val (.ref rkx), .val (.ref rky), .val (.int (0 : Int32)), .val (.int (1 : Int32)), .unset, .unset, .unset] [(.int (1 : Int32))])) _
          refine XS.istore X4.here hx rfl (hb hby at_60) rfl (l' := #[.val (.int p1), .val (.int p2), .val (.int p3), .val (.ref rkx), .val (.ref rky), .val (.int (0 : Int32)), .val (.int (1 : Int32)), .val (.int (1 : Int32)), .unset, .unset]) rfl ?_
          show Steps p.tables e below (T4.setTop (mkF m 62 #[.val (.int p1), .val (.int p2), .val (.int p3), .val (.ref rkx), .val (.ref rky), .val (.int (0 : Int32)), .val (.int (1 : Int32)), .val (.int (1 : Int32)), .unset, .unset] [])) _
          refine st49 _ ?_
          show Steps p.tables e below (T49.setTop (mkF m 65 #[.val (.int p1), .val (.int p2), .val (.int p3), .val (.ref rkx), .val (.ref rky), .val (.int (0 : Int32)), .val (.int (1 : Int32)), .val (.int (1 : Int32)), .unset, .unset] [(.ref b49)])) _
          refine XS.dup X49.here hx rfl (hb hby at_65) rfl rfl ?_
          show Steps p.tables e below (T49.setTop (mkF m 66 #[.val (.int p1), .val (.int p2), .val (.int p3), .val (.ref rkx), .val (.ref rky), .val (.int (0 : Int32)), .val (.int (1 : Int32)), .val (.int (1 : Int32)), .unset, .unset] [(.ref b49), (.ref b49)])) _
          refine st50.trans ?_
          show Steps p.tables e below (T50.setTop (mkF m 69 #[.val (.int p1), .val (.int p2), .val (.int p3), .val (.ref rkx), .val (.ref rky), .val (.int (0 : Int32)), .val (.int (1 : Int32)), .val (.int (1 : Int32)), .unset, .unset] [(.ref b49)])) _
          refine XS.astore X50.here hx rfl (hb hby at_69) rfl rfl (l' := #[.val (.int p1), .val (.int p2), .val (.int p3), .val (.ref rkx), .val (.ref rky), .val (.int (0 : Int32)), .val (.int (1 : Int32)), .val (.int (1 : Int32)), .val (.ref b49), .unset]) rfl ?_
          show Steps p.tables e below (T50.setTop (mkF m 71 #[.val (.int p1), .val (.int p2), .val (.int p3), .val (.ref rkx), .val (.ref rky), .val (.int (0 : Int32)), .val (.int (1 : Int32)), .val (.int (1 : Int32)), .val (.ref b49), .unset] [])) _
          refine XS.aload X50.here hx rfl (hb hby at_71) rfl rfl ?_
          show Steps p.tables e below (T50.setTop (mkF m 73 #[.val (.int p1), .val (.int p2), .val (.int p3), .val (.ref rkx), .val (.ref rky), .val (.int (0 : Int32)), .val (.int (1 : Int32)), .val (.int (1 : Int32)), .val (.ref b49), .unset] [(.ref b49)])) _
          refine st51.trans ?_
          show Steps p.tables e below (T51.setTop (mkF m 76 #[.val (.int p1), .val (.int p2), .val (.int p3), .val (.ref rkx), .val (.ref rky), .val (.int (0 : Int32)), .val (.int (1 : Int32)), .val (.int (1 : Int32)), .val (.ref b49), .unset] [(.ref w_CREATED_AT)])) _
          refine st52 _ ?_
          show Steps p.tables e below (T52.setTop (mkF m 79 #[.val (.int p1), .val (.int p2), .val (.int p3), .val (.ref rkx), .val (.ref rky), .val (.int (0 : Int32)), .val (.int (1 : Int32)), .val (.int (1 : Int32)), .val (.ref b49), .unset] [(.ref w_CREATED_AT), (.ref w_CREATED_AT)])) _
          refine Jvm.RoadKit.acmp (g := (mkF m 79 #[.val (.int p1), .val (.int p2), .val (.int p3), .val (.ref rkx), .val (.ref rky), .val (.int (0 : Int32)), .val (.int (1 : Int32)), .val (.int (1 : Int32)), .val (.ref b49), .unset] [(.ref w_CREATED_AT), (.ref w_CREATED_AT)])) X52 hx rfl rfl rfl (pc0 := 79) (pc' := 84) (same := true) rfl (hb hby at_79) rfl (decide_eq_true rfl) (by decide) (by decide) ?_
          show Steps p.tables e below (T52.setTop (mkF m 84 #[.val (.int p1), .val (.int p2), .val (.int p3), .val (.ref rkx), .val (.ref rky), .val (.int (0 : Int32)), .val (.int (1 : Int32)), .val (.int (1 : Int32)), .val (.ref b49), .unset] [])) _
          refine XS.iload X52.here hx rfl (hb hby at_84) rfl ?_
          show Steps p.tables e below (T52.setTop (mkF m 86 #[.val (.int p1), .val (.int p2), .val (.int p3), .val (.ref rkx), .val (.ref rky), .val (.int (0 : Int32)), .val (.int (1 : Int32)), .val (.int (1 : Int32)), .val (.ref b49), .unset] [(.int (0 : Int32))])) _
          refine XS.ifYes X52.here hx rfl (pc0 := 86) (pc' := 98) rfl (hb hby at_86) rfl ((if0 _ _).trans (teq (rfl : (0 : Int32) = (0 : Int32))).1) (by decide) (by decide) ?_
          show Steps p.tables e below (T52.setTop (mkF m 98 #[.val (.int p1), .val (.int p2), .val (.int p3), .val (.ref rkx), .val (.ref rky), .val (.int (0 : Int32)), .val (.int (1 : Int32)), .val (.int (1 : Int32)), .val (.ref b49), .unset] [])) _
          refine XS.iload X52.here hx rfl (hb hby at_98) rfl ?_
          show Steps p.tables e below (T52.setTop (mkF m 100 #[.val (.int p1), .val (.int p2), .val (.int p3), .val (.ref rkx), .val (.ref rky), .val (.int (0 : Int32)), .val (.int (1 : Int32)), .val (.int (1 : Int32)), .val (.ref b49), .unset] [(.int (1 : Int32))])) _
          refine XS.ifNo X52.here hx rfl (hb hby at_100) rfl ((if0 _ _).trans (feq (by decide : ¬ ((1 : Int32) = (0 : Int32)))).1) ?_
          show Steps p.tables e below (T52.setTop (mkF m 103 #[.val (.int p1), .val (.int p2), .val (.int p3), .val (.ref rkx), .val (.ref rky), .val (.int (0 : Int32)), .val (.int (1 : Int32)), .val (.int (1 : Int32)), .val (.ref b49), .unset] [])) _
          refine XS.aload X52.here hx rfl (hb hby at_103) rfl rfl ?_
          show Steps p.tables e below (T52.setTop (mkF m 105 #[.val (.int p1), .val (.int p2), .val (.int p3), .val (.ref rkx), .val (.ref rky), .val (.int (0 : Int32)), .val (.int (1 : Int32)), .val (.int (1 : Int32)), .val (.ref b49), .unset] [(.ref b49)])) _
          refine XS.iconst X52.here hx rfl (hb hby at_105) ?_
          show Steps p.tables e below (T52.setTop (mkF m 106 #[.val (.int p1), .val (.int p2), .val (.int p3), .val (.ref rkx), .val (.ref rky), .val (.int (0 : Int32)), .val (.int (1 : Int32)), .val (.int (1 : Int32)), .val (.ref b49), .unset] [(.int (1 : Int32)), (.ref b49)])) _
          refine st53.trans ?_
          show Steps p.tables e below (T53.setTop (mkF m 109 #[.val (.int p1), .val (.int p2), .val (.int p3), .val (.ref rkx), .val (.ref rky), .val (.int (0 : Int32)), .val (.int (1 : Int32)), .val (.int (1 : Int32)), .val (.ref b49), .unset] [(.ref b49)])) _
          refine XS.pop X53.here hx rfl (hb hby at_109) rfl rfl ?_
          show Steps p.tables e below (T53.setTop (mkF m 110 #[.val (.int p1), .val (.int p2), .val (.int p3), .val (.ref rkx), .val (.ref rky), .val (.int (0 : Int32)), .val (.int (1 : Int32)), .val (.int (1 : Int32)), .val (.ref b49), .unset] [])) _
          refine XS.iload X53.here hx rfl (hb hby at_110) rfl ?_
          show Steps p.tables e below (T53.setTop (mkF m 112 #[.val (.int p1), .val (.int p2), .val (.int p3), .val (.ref rkx), .val (.ref rky), .val (.int (0 : Int32)), .val (.int (1 : Int32)), .val (.int (1 : Int32)), .val (.ref b49), .unset] [(.int (0 : Int32))])) _
          refine XS.ifYes X53.here hx rfl (pc0 := 112) (pc' := 121) rfl (hb hby at_112) rfl ((if0 _ _).trans (teq (rfl : (0 : Int32) = (0 : Int32))).1) (by decide) (by decide) ?_
          show Steps p.tables e below (T53.setTop (mkF m 121 #[.val (.int p1), .val (.int p2), .val (.int p3), .val (.ref rkx), .val (.ref rky), .val (.int (0 : Int32)), .val (.int (1 : Int32)), .val (.int (1 : Int32)), .val (.ref b49), .unset] [])) _
          refine st54 _ ?_
          show Steps p.tables e below (T54.setTop (mkF m 124 #[.val (.int p1), .val (.int p2), .val (.int p3), .val (.ref rkx), .val (.ref rky), .val (.int (0 : Int32)), .val (.int (1 : Int32)), .val (.int (1 : Int32)), .val (.ref b49), .unset] [(.ref w_DESC)])) _
          refine XS.astore X54.here hx rfl (hb hby at_124) rfl rfl (l' := #[.val (.int p1), .val (.int p2), .val (.int p3), .val (.ref rkx), .val (.ref rky), .val (.int (0 : Int32)), .val (.int (1 : Int32)), .val (.int (1 : Int32)), .val (.ref b49), .val (.ref w_DESC)]) rfl ?_
          show Steps p.tables e below (T54.setTop (mkF m 126 #[.val (.int p1), .val (.int p2), .val (.int p3), .val (.ref rkx), .val (.ref rky), .val (.int (0 : Int32)), .val (.int (1 : Int32)), .val (.int (1 : Int32)), .val (.ref b49), .val (.ref w_DESC)] [])) _
          refine XS.aload X54.here hx rfl (hb hby at_126) rfl rfl ?_
          show Steps p.tables e below (T54.setTop (mkF m 128 #[.val (.int p1), .val (.int p2), .val (.int p3), .val (.ref rkx), .val (.ref rky), .val (.int (0 : Int32)), .val (.int (1 : Int32)), .val (.int (1 : Int32)), .val (.ref b49), .val (.ref w_DESC)] [(.ref b49)])) _
          refine XS.aloadN X54.here hx rfl (hb hby at_128) rfl rfl ?_
          show Steps p.tables e below (T54.setTop (mkF m 129 #[.val (.int p1), .val (.int p2), .val (.int p3), .val (.ref rkx), .val (.ref rky), .val (.int (0 : Int32)), .val (.int (1 : Int32)), .val (.int (1 : Int32)), .val (.ref b49), .val (.ref w_DESC)] [(.ref rkx), (.ref b49)])) _
          refine st55.trans ?_
          show Steps p.tables e below (T55.setTop (mkF m 132 #[.val (.int p1), .val (.int p2), .val (.int p3), .val (.ref rkx), .val (.ref rky), .val (.int (0 : Int32)), .val (.int (1 : Int32)), .val (.int (1 : Int32)), .val (.ref b49), .val (.ref w_DESC)] [(.ref b49)])) _
          refine XS.aload X55.here hx rfl (hb hby at_132) rfl rfl ?_
          show Steps p.tables e below (T55.setTop (mkF m 134 #[.val (.int p1), .val (.int p2), .val (.int p3), .val (.ref rkx), .val (.ref rky), .val (.int (0 : Int32)), .val (.int (1 : Int32)), .val (.int (1 : Int32)), .val (.ref b49), .val (.ref w_DESC)] [(.ref b49), (.ref b49)])) _
          refine Jvm.RoadKit.acmp (g := (mkF m 134 #[.val (.int p1), .val (.int p2), .val (.int p3), .val (.ref rkx), .val (.ref rky), .val (.int (0 : Int32)), .val (.int (1 : Int32)), .val (.int (1 : Int32)), .val (.ref b49), .val (.ref w_DESC)] [(.ref b49), (.ref b49)])) X55 hx rfl rfl rfl (pc0 := 134) (pc' := 139) (same := true) rfl (hb hby at_134) rfl (decide_eq_true rfl) (by decide) (by decide) ?_
          show Steps p.tables e below (T55.setTop (mkF m 139 #[.val (.int p1), .val (.int p2), .val (.int p3), .val (.ref rkx), .val (.ref rky), .val (.int (0 : Int32)), .val (.int (1 : Int32)), .val (.int (1 : Int32)), .val (.ref b49), .val (.ref w_DESC)] [])) _
          refine XS.aload X55.here hx rfl (hb hby at_139) rfl rfl ?_
          show Steps p.tables e below (T55.setTop (mkF m 141 #[.val (.int p1), .val (.int p2), .val (.int p3), .val (.ref rkx), .val (.ref rky), .val (.int (0 : Int32)), .val (.int (1 : Int32)), .val (.int (1 : Int32)), .val (.ref b49), .val (.ref w_DESC)] [(.ref b49)])) _
          refine st56.trans ?_
          show Steps p.tables e below (T56.setTop (mkF m 144 #[.val (.int p1), .val (.int p2), .val (.int p3), .val (.ref rkx), .val (.ref rky), .val (.int (0 : Int32)), .val (.int (1 : Int32)), .val (.int (1 : Int32)), .val (.ref b49), .val (.ref w_DESC)] [(.ref rkx)])) _
          refine XS.aloadN X56.here hx rfl (hb hby at_144) rfl rfl ?_
          show Steps p.tables e below (T56.setTop (mkF m 145 #[.val (.int p1), .val (.int p2), .val (.int p3), .val (.ref rkx), .val (.ref rky), .val (.int (0 : Int32)), .val (.int (1 : Int32)), .val (.int (1 : Int32)), .val (.ref b49), .val (.ref w_DESC)] [(.ref rkx), (.ref rkx)])) _
          refine Jvm.RoadKit.acmp (g := (mkF m 145 #[.val (.int p1), .val (.int p2), .val (.int p3), .val (.ref rkx), .val (.ref rky), .val (.int (0 : Int32)), .val (.int (1 : Int32)), .val (.int (1 : Int32)), .val (.ref b49), .val (.ref w_DESC)] [(.ref rkx), (.ref rkx)])) X56 hx rfl rfl rfl (pc0 := 145) (pc' := 150) (same := true) rfl (hb hby at_145) rfl (decide_eq_true rfl) (by decide) (by decide) ?_
          show Steps p.tables e below (T56.setTop (mkF m 150 #[.val (.int p1), .val (.int p2), .val (.int p3), .val (.ref rkx), .val (.ref rky), .val (.int (0 : Int32)), .val (.int (1 : Int32)), .val (.int (1 : Int32)), .val (.ref b49), .val (.ref w_DESC)] [])) _
          refine XS.aload X56.here hx rfl (hb hby at_150) rfl rfl ?_
          show Steps p.tables e below (T56.setTop (mkF m 152 #[.val (.int p1), .val (.int p2), .val (.int p3), .val (.ref rkx), .val (.ref rky), .val (.int (0 : Int32)), .val (.int (1 : Int32)), .val (.int (1 : Int32)), .val (.ref b49), .val (.ref w_DESC)] [(.ref b49)])) _
          refine st57.trans ?_
          show Steps p.tables e below (T57.setTop (mkF m 155 #[.val (.int p1), .val (.int p2), .val (.int p3), .val (.ref rkx), .val (.ref rky), .val (.int (0 : Int32)), .val (.int (1 : Int32)), .val (.int (1 : Int32)), .val (.ref b49), .val (.ref w_DESC)] [(.ref w_DESC)])) _
          refine XS.aload X57.here hx rfl (hb hby at_155) rfl rfl ?_
          show Steps p.tables e below (T57.setTop (mkF m 157 #[.val (.int p1), .val (.int p2), .val (.int p3), .val (.ref rkx), .val (.ref rky), .val (.int (0 : Int32)), .val (.int (1 : Int32)), .val (.int (1 : Int32)), .val (.ref b49), .val (.ref w_DESC)] [(.ref w_DESC), (.ref w_DESC)])) _
          refine Jvm.RoadKit.acmp (g := (mkF m 157 #[.val (.int p1), .val (.int p2), .val (.int p3), .val (.ref rkx), .val (.ref rky), .val (.int (0 : Int32)), .val (.int (1 : Int32)), .val (.int (1 : Int32)), .val (.ref b49), .val (.ref w_DESC)] [(.ref w_DESC), (.ref w_DESC)])) X57 hx rfl rfl rfl (pc0 := 157) (pc' := 162) (same := true) rfl (hb hby at_157) rfl (decide_eq_true rfl) (by decide) (by decide) ?_
          show Steps p.tables e below (T57.setTop (mkF m 162 #[.val (.int p1), .val (.int p2), .val (.int p3), .val (.ref rkx), .val (.ref rky), .val (.int (0 : Int32)), .val (.int (1 : Int32)), .val (.int (1 : Int32)), .val (.ref b49), .val (.ref w_DESC)] [])) _
          refine XS.iload X57.here hx rfl (hb hby at_162) rfl ?_
          show Steps p.tables e below (T57.setTop (mkF m 164 #[.val (.int p1), .val (.int p2), .val (.int p3), .val (.ref rkx), .val (.ref rky), .val (.int (0 : Int32)), .val (.int (1 : Int32)), .val (.int (1 : Int32)), .val (.ref b49), .val (.ref w_DESC)] [(.int (1 : Int32))])) _
          refine XS.ifNo X57.here hx rfl (hb hby at_164) rfl ((if0 _ _).trans (feq (by decide : ¬ ((1 : Int32) = (0 : Int32)))).1) ?_
          show Steps p.tables e below (T57.setTop (mkF m 167 #[.val (.int p1), .val (.int p2), .val (.int p3), .val (.ref rkx), .val (.ref rky), .val (.int (0 : Int32)), .val (.int (1 : Int32)), .val (.int (1 : Int32)), .val (.ref b49), .val (.ref w_DESC)] [])) _
          refine XS.aload X57.here hx rfl (hb hby at_167) rfl rfl ?_
          show Steps p.tables e below (T57.setTop (mkF m 169 #[.val (.int p1), .val (.int p2), .val (.int p3), .val (.ref rkx), .val (.ref rky), .val (.int (0 : Int32)), .val (.int (1 : Int32)), .val (.int (1 : Int32)), .val (.ref b49), .val (.ref w_DESC)] [(.ref b49)])) _
          refine XS.aload X57.here hx rfl (hb hby at_169) rfl rfl ?_
          show Steps p.tables e below (T57.setTop (mkF m 171 #[.val (.int p1), .val (.int p2), .val (.int p3), .val (.ref rkx), .val (.ref rky), .val (.int (0 : Int32)), .val (.int (1 : Int32)), .val (.int (1 : Int32)), .val (.ref b49), .val (.ref w_DESC)] [(.ref rky), (.ref b49)])) _
          refine st58.trans ?_
          show Steps p.tables e below (T58.setTop (mkF m 174 #[.val (.int p1), .val (.int p2), .val (.int p3), .val (.ref rkx), .val (.ref rky), .val (.int (0 : Int32)), .val (.int (1 : Int32)), .val (.int (1 : Int32)), .val (.ref b49), .val (.ref w_DESC)] [(.ref b49)])) _
          refine XS.aload X58.here hx rfl (hb hby at_174) rfl rfl ?_
          show Steps p.tables e below (T58.setTop (mkF m 176 #[.val (.int p1), .val (.int p2), .val (.int p3), .val (.ref rkx), .val (.ref rky), .val (.int (0 : Int32)), .val (.int (1 : Int32)), .val (.int (1 : Int32)), .val (.ref b49), .val (.ref w_DESC)] [(.ref b49), (.ref b49)])) _
          refine Jvm.RoadKit.acmp (g := (mkF m 176 #[.val (.int p1), .val (.int p2), .val (.int p3), .val (.ref rkx), .val (.ref rky), .val (.int (0 : Int32)), .val (.int (1 : Int32)), .val (.int (1 : Int32)), .val (.ref b49), .val (.ref w_DESC)] [(.ref b49), (.ref b49)])) X58 hx rfl rfl rfl (pc0 := 176) (pc' := 181) (same := true) rfl (hb hby at_176) rfl (decide_eq_true rfl) (by decide) (by decide) ?_
          show Steps p.tables e below (T58.setTop (mkF m 181 #[.val (.int p1), .val (.int p2), .val (.int p3), .val (.ref rkx), .val (.ref rky), .val (.int (0 : Int32)), .val (.int (1 : Int32)), .val (.int (1 : Int32)), .val (.ref b49), .val (.ref w_DESC)] [])) _
          refine XS.aload X58.here hx rfl (hb hby at_181) rfl rfl ?_
          show Steps p.tables e below (T58.setTop (mkF m 183 #[.val (.int p1), .val (.int p2), .val (.int p3), .val (.ref rkx), .val (.ref rky), .val (.int (0 : Int32)), .val (.int (1 : Int32)), .val (.int (1 : Int32)), .val (.ref b49), .val (.ref w_DESC)] [(.ref b49)])) _
          refine st59.trans ?_
          show Steps p.tables e below (T59.setTop (mkF m 186 #[.val (.int p1), .val (.int p2), .val (.int p3), .val (.ref rkx), .val (.ref rky), .val (.int (0 : Int32)), .val (.int (1 : Int32)), .val (.int (1 : Int32)), .val (.ref b49), .val (.ref w_DESC)] [(.ref rky)])) _
          refine XS.aload X59.here hx rfl (hb hby at_186) rfl rfl ?_
          show Steps p.tables e below (T59.setTop (mkF m 188 #[.val (.int p1), .val (.int p2), .val (.int p3), .val (.ref rkx), .val (.ref rky), .val (.int (0 : Int32)), .val (.int (1 : Int32)), .val (.int (1 : Int32)), .val (.ref b49), .val (.ref w_DESC)] [(.ref rky), (.ref rky)])) _
          refine Jvm.RoadKit.acmp (g := (mkF m 188 #[.val (.int p1), .val (.int p2), .val (.int p3), .val (.ref rkx), .val (.ref rky), .val (.int (0 : Int32)), .val (.int (1 : Int32)), .val (.int (1 : Int32)), .val (.ref b49), .val (.ref w_DESC)] [(.ref rky), (.ref rky)])) X59 hx rfl rfl rfl (pc0 := 188) (pc' := 193) (same := true) rfl (hb hby at_188) rfl (decide_eq_true rfl) (by decide) (by decide) ?_
          show Steps p.tables e below (T59.setTop (mkF m 193 #[.val (.int p1), .val (.int p2), .val (.int p3), .val (.ref rkx), .val (.ref rky), .val (.int (0 : Int32)), .val (.int (1 : Int32)), .val (.int (1 : Int32)), .val (.ref b49), .val (.ref w_DESC)] [])) _
          refine XS.aload X59.here hx rfl (hb hby at_193) rfl rfl ?_
          show Steps p.tables e below (T59.setTop (mkF m 195 #[.val (.int p1), .val (.int p2), .val (.int p3), .val (.ref rkx), .val (.ref rky), .val (.int (0 : Int32)), .val (.int (1 : Int32)), .val (.int (1 : Int32)), .val (.ref b49), .val (.ref w_DESC)] [(.ref b49)])) _
          refine st60.trans ?_
          show Steps p.tables e below (T60.setTop (mkF m 198 #[.val (.int p1), .val (.int p2), .val (.int p3), .val (.ref rkx), .val (.ref rky), .val (.int (0 : Int32)), .val (.int (1 : Int32)), .val (.int (1 : Int32)), .val (.ref b49), .val (.ref w_DESC)] [(.ref w_DESC)])) _
          refine XS.aload X60.here hx rfl (hb hby at_198) rfl rfl ?_
          show Steps p.tables e below (T60.setTop (mkF m 200 #[.val (.int p1), .val (.int p2), .val (.int p3), .val (.ref rkx), .val (.ref rky), .val (.int (0 : Int32)), .val (.int (1 : Int32)), .val (.int (1 : Int32)), .val (.ref b49), .val (.ref w_DESC)] [(.ref w_DESC), (.ref w_DESC)])) _
          refine Jvm.RoadKit.acmp (g := (mkF m 200 #[.val (.int p1), .val (.int p2), .val (.int p3), .val (.ref rkx), .val (.ref rky), .val (.int (0 : Int32)), .val (.int (1 : Int32)), .val (.int (1 : Int32)), .val (.ref b49), .val (.ref w_DESC)] [(.ref w_DESC), (.ref w_DESC)])) X60 hx rfl rfl rfl (pc0 := 200) (pc' := 205) (same := true) rfl (hb hby at_200) rfl (decide_eq_true rfl) (by decide) (by decide) ?_
          show Steps p.tables e below (T60.setTop (mkF m 205 #[.val (.int p1), .val (.int p2), .val (.int p3), .val (.ref rkx), .val (.ref rky), .val (.int (0 : Int32)), .val (.int (1 : Int32)), .val (.int (1 : Int32)), .val (.ref b49), .val (.ref w_DESC)] [])) _
          refine XS.aload X60.here hx rfl (hb hby at_205) rfl rfl ?_
          show Steps p.tables e below (T60.setTop (mkF m 207 #[.val (.int p1), .val (.int p2), .val (.int p3), .val (.ref rkx), .val (.ref rky), .val (.int (0 : Int32)), .val (.int (1 : Int32)), .val (.int (1 : Int32)), .val (.ref b49), .val (.ref w_DESC)] [(.ref b49)])) _
          refine st61.trans ?_
          show Steps p.tables e below (T61.setTop (mkF m 210 #[.val (.int p1), .val (.int p2), .val (.int p3), .val (.ref rkx), .val (.ref rky), .val (.int (0 : Int32)), .val (.int (1 : Int32)), .val (.int (1 : Int32)), .val (.ref b49), .val (.ref w_DESC)] [(.int (1 : Int32))])) _
          refine XS.iload X61.here hx rfl (hb hby at_210) rfl ?_
          show Steps p.tables e below (T61.setTop (mkF m 212 #[.val (.int p1), .val (.int p2), .val (.int p3), .val (.ref rkx), .val (.ref rky), .val (.int (0 : Int32)), .val (.int (1 : Int32)), .val (.int (1 : Int32)), .val (.ref b49), .val (.ref w_DESC)] [(.int (1 : Int32)), (.int (1 : Int32))])) _
          refine XS.icmpNo X61.here hx rfl (hb hby at_212) rfl (teq (rfl : (1 : Int32) = (1 : Int32))).2 ?_
          show Steps p.tables e below (T61.setTop (mkF m 215 #[.val (.int p1), .val (.int p2), .val (.int p3), .val (.ref rkx), .val (.ref rky), .val (.int (0 : Int32)), .val (.int (1 : Int32)), .val (.int (1 : Int32)), .val (.ref b49), .val (.ref w_DESC)] [])) _
          refine XS.iconst X61.here hx rfl (hb hby at_215) ?_
          show Steps p.tables e below (T61.setTop (mkF m 216 #[.val (.int p1), .val (.int p2), .val (.int p3), .val (.ref rkx), .val (.ref rky), .val (.int (0 : Int32)), .val (.int (1 : Int32)), .val (.int (1 : Int32)), .val (.ref b49), .val (.ref w_DESC)] [(.int (1 : Int32))])) _
          refine XS.goto X61.here hx rfl (pc0 := 216) (pc' := 220) rfl (hb hby at_216) (by decide) (by decide) ?_
          exact kt
        obtain ⟨fs, hr, hrun, hended, hW⟩ := X61.leaveW hS (by rw [hE61]; exact (Nat.le_refl _)) (v := some (.int (1 : Int32))) (fun h => by rw [Bd.returns] at h; cases h)
        refine ⟨_, _, pre62 _ ?_, hrun, hended, _, _, rfl, ?_, ⟨_, rfl⟩, hW.2.1, hW.2.2.1, hW.2.2.2.mono (by decide) (by decide)⟩
        · show Steps p.tables e below (T61.setTop (mkF m 220 #[.val (.int p1), .val (.int p2), .val (.int p3), .val (.ref rkx), .val (.ref rky), .val (.int (0 : Int32)), .val (.int (1 : Int32)), .val (.int (1 : Int32)), .val (.ref b49), .val (.ref w_DESC)] [(.int (1 : Int32))])) _
          exact retN X61 hx (t := .boolean) Bd.returns (by simp) (hb hby at_220) hr
        · show Q0 Z h0 n0 _ T61.heap _
          rw [hE61]
          exact ⟨rfl, N61⟩
  · have pre63 : ∀ tt, Steps p.tables e below (T4.setTop (mkF m 39 #[.val (.int p1), .val (.int p2), .val (.int p3), .val (.ref rkx), .val (.ref rky), .val (.int (1 : Int32)), .unset, .unset, .unset, .unset] [(.int (p3 &&& (2 : Int32)))])) tt → Steps p.tables e below (s₁.setTop (entryFrame m #[(.int p1), (.int p2), (.int p3)] maxLocals)) tt := by
      intro tt kt
      refine pre5 tt ?_
      show Steps p.tables e below (T4.setTop (mkF m 26 #[.val (.int p1), .val (.int p2), .val (.int p3), .val (.ref rkx), .val (.ref rky), .unset, .unset, .unset, .unset, .unset] [(.int (p3 &&& (1 : Int32)))])) _
      refine XS.ifNo X4.here hx rfl (hb hby at_26) rfl ((if0 _ _).trans (feq c26_6).1) ?_
      show Steps p.tables e below (T4.setTop (mkF m 29 #[.val (.int p1), .val (.int p2), .val (.int p3), .val (.ref rkx), .val (.ref rky), .unset, .unset, .unset, .unset, .unset] [])) _
      refine XS.iconst X4.here hx rfl (hb hby at_29) ?_
      show Steps p.tables e below (T4.setTop (mkF m 30 #[.val (.int p1), .val (.int p2), .val (.int p3), .val (.ref rkx), .val (.ref rky), .unset, .unset, .unset, .unset, .unset] [(.int (1 : Int32))])) _
      refine XS.goto X4.here hx rfl (pc0 := 30) (pc' := 34) rfl (hb hby at_30) (by decide) (by decide) ?_
      show Steps p.tables e below (T4.setTop (mkF m 34 #[.val (.int p1), .val (.int p2), .val (.int p3), .val (.ref rkx), .val (.ref rky), .unset, .unset, .unset, .unset, .unset] [(.int (1 : Int32))])) _
      refine XS.istore X4.here hx rfl (hb hby at_34) rfl (l' := #[.val (.int p1), .val (.int p2), .val (.int p3), .val (.ref rkx), .val (.ref rky), .val (.int (1 : Int32)), .unset, .unset, .unset, .unset]) rfl ?_
      show Steps p.tables e below (T4.setTop (mkF m 36 #[.val (.int p1), .val (.int p2), .val (.int p3), .val (.ref rkx), .val (.ref rky), .val (.int (1 : Int32)), .unset, .unset, .unset, .unset] [])) _
      refine XS.iloadN X4.here hx rfl (hb hby at_36) rfl ?_
      show Steps p.tables e below (T4.setTop (mkF m 37 #[.val (.int p1), .val (.int p2), .val (.int p3), .val (.ref rkx), .val (.ref rky), .val (.int (1 : Int32)), .unset, .unset, .unset, .unset] [(.int p3)])) _
      refine XS.iconst X4.here hx rfl (hb hby at_37) ?_
      show Steps p.tables e below (T4.setTop (mkF m 38 #[.val (.int p1), .val (.int p2), .val (.int p3), .val (.ref rkx), .val (.ref rky), .val (.int (1 : Int32)), .unset, .unset, .unset, .unset] [(.int (2 : Int32)), (.int p3)])) _
      refine XS.iand X4.here hx rfl (hb hby at_38) rfl ?_
      exact kt
    by_cases c39_64 : (p3 &&& (2 : Int32)) = (0 : Int32)
    · have pre65 : ∀ tt, Steps p.tables e below (T4.setTop (mkF m 52 #[.val (.int p1), .val (.int p2), .val (.int p3), .val (.ref rkx), .val (.ref rky), .val (.int (1 : Int32)), .val (.int (0 : Int32)), .unset, .unset, .unset] [(.int (p3 &&& (4 : Int32)))])) tt → Steps p.tables e below (s₁.setTop (entryFrame m #[(.int p1), (.int p2), (.int p3)] maxLocals)) tt := by
        intro tt kt
        refine pre63 tt ?_
        show Steps p.tables e below (T4.setTop (mkF m 39 #[.val (.int p1), .val (.int p2), .val (.int p3), .val (.ref rkx), .val (.ref rky), .val (.int (1 : Int32)), .unset, .unset, .unset, .unset] [(.int (p3 &&& (2 : Int32)))])) _
        refine XS.ifYes X4.here hx rfl (pc0 := 39) (pc' := 46) rfl (hb hby at_39) rfl ((if0 _ _).trans (teq c39_64).1) (by decide) (by decide) ?_
        show Steps p.tables e below (T4.setTop (mkF m 46 #[.val (.int p1), .val (.int p2), .val (.int p3), .val (.ref rkx), .val (.ref rky), .val (.int (1 : Int32)), .unset, .unset, .unset, .unset] [])) _
        refine XS.iconst X4.here hx rfl (hb hby at_46) ?_
        show Steps p.tables e below (T4.setTop (mkF m 47 #[.val (.int p1), .val (.int p2), .val (.int p3), .val (.ref rkx), .val (.ref rky), .val (.int (1 : Int32)), .unset, .unset, .unset, .unset] [(.int (0 : Int32))])) _
        refine XS.istore X4.here hx rfl (hb hby at_47) rfl (l' := #[.val (.int p1), .val (.int p2), .val (.int p3), .val (.ref rkx), .val (.ref rky), .val (.int (1 : Int32)), .val (.int (0 : Int32)), .unset, .unset, .unset]) rfl ?_
        show Steps p.tables e below (T4.setTop (mkF m 49 #[.val (.int p1), .val (.int p2), .val (.int p3), .val (.ref rkx), .val (.ref rky), .val (.int (1 : Int32)), .val (.int (0 : Int32)), .unset, .unset, .unset] [])) _
        refine XS.iloadN X4.here hx rfl (hb hby at_49) rfl ?_
        show Steps p.tables e below (T4.setTop (mkF m 50 #[.val (.int p1), .val (.int p2), .val (.int p3), .val (.ref rkx), .val (.ref rky), .val (.int (1 : Int32)), .val (.int (0 : Int32)), .unset, .unset, .unset] [(.int p3)])) _
        refine XS.iconst X4.here hx rfl (hb hby at_50) ?_
        show Steps p.tables e below (T4.setTop (mkF m 51 #[.val (.int p1), .val (.int p2), .val (.int p3), .val (.ref rkx), .val (.ref rky), .val (.int (1 : Int32)), .val (.int (0 : Int32)), .unset, .unset, .unset] [(.int (4 : Int32)), (.int p3)])) _
        refine XS.iand X4.here hx rfl (hb hby at_51) rfl ?_
        exact kt
      by_cases c52_66 : (p3 &&& (4 : Int32)) = (0 : Int32)
      · obtain ⟨T67, h67, X67, e67, E67, A67, D67, -, st67⟩ := newO X4 hx hZ hown (hw _ (List.mem_of_getElem? (i := 10) rfl)) (hw _ (List.mem_of_getElem? (i := 11) rfl)) (hw _ (List.mem_of_getElem? (i := 12) rfl)) hE4 (g := (mkF m 62 #[.val (.int p1), .val (.int p2), .val (.int p3), .val (.ref rkx), .val (.ref rky), .val (.int (1 : Int32)), .val (.int (0 : Int32)), .val (.int (0 : Int32)), .unset, .unset] [])) rfl (hb hby at_62) (by decide) (by decide)
        obtain ⟨b67, g67⟩ : ∃ z, z = h0.size := ⟨_, rfl⟩
        rw [← g67] at A67 D67 st67
        have g_b67 : n0 ≤ b67 := Nat.le_trans Z0 (Nat.le_of_eq g67.symm)
        have F_searchTerms_b67 : Fld Z h67 b67 "com/example/wee_forge/weeforge/model/ProjectFilter" "searchTerms" "Ljava/util/List;" .null := D67 (Or.inl (hw _ (List.mem_of_getElem? (i := 26) rfl))) (ty := (.object "java/util/List")) (by decide)
        have F_topics_b67 : Fld Z h67 b67 "com/example/wee_forge/weeforge/model/ProjectFilter" "topics" "Ljava/util/List;" .null := D67 (Or.inl (hw _ (List.mem_of_getElem? (i := 28) rfl))) (ty := (.object "java/util/List")) (by decide)
        have F_lastActivity_b67 : Fld Z h67 b67 "com/example/wee_forge/weeforge/model/ProjectFilter" "lastActivity" "Lcom/example/wee_forge/weeforge/model/TimeRange;" .null := D67 (Or.inl (hw _ (List.mem_of_getElem? (i := 33) rfl))) (ty := (.object "com/example/wee_forge/weeforge/model/TimeRange")) (by decide)
        have F_updated_b67 : Fld Z h67 b67 "com/example/wee_forge/weeforge/model/ProjectFilter" "updated" "Lcom/example/wee_forge/weeforge/model/TimeRange;" .null := D67 (Or.inl (hw _ (List.mem_of_getElem? (i := 35) rfl))) (ty := (.object "com/example/wee_forge/weeforge/model/TimeRange")) (by decide)
        have F_idAfter_b67 : Fld Z h67 b67 "com/example/wee_forge/weeforge/model/ProjectFilter" "idAfter" "Ljava/util/OptionalLong;" .null := D67 (Or.inl (hw _ (List.mem_of_getElem? (i := 42) rfl))) (ty := (.object "java/util/OptionalLong")) (by decide)
        have F_idBefore_b67 : Fld Z h67 b67 "com/example/wee_forge/weeforge/model/ProjectFilter" "idBefore" "Ljava/util/OptionalLong;" .null := D67 (Or.inl (hw _ (List.mem_of_getElem? (i := 44) rfl))) (ty := (.object "java/util/OptionalLong")) (by decide)
        have F_orderBy_b67 : Fld Z h67 b67 "com/example/wee_forge/weeforge/model/ProjectFilter" "orderBy" "Lcom/example/wee_forge/weeforge/model/ProjectOrder;" .null := D67 (Or.inl (hw _ (List.mem_of_getElem? (i := 47) rfl))) (ty := (.object "com/example/wee_forge/weeforge/model/ProjectOrder")) (by decide)
        have F_sort_b67 : Fld Z h67 b67 "com/example/wee_forge/weeforge/model/ProjectFilter" "sort" "Lcom/example/wee_forge/weeforge/model/SortDirection;" .null := D67 (Or.inl (hw _ (List.mem_of_getElem? (i := 52) rfl))) (ty := (.object "com/example/wee_forge/weeforge/model/SortDirection")) (by decide)
        have F_starredOnly_b67 : Fld Z h67 b67 "com/example/wee_forge/weeforge/model/ProjectFilter" "starredOnly" "Z" (.int (0 : Int32)) := D67 (Or.inl (hw _ (List.mem_of_getElem? (i := 89) rfl))) (ty := .boolean) (by decide)
        obtain ⟨_, _, ⟨T68, L68, k68, n68⟩, -, X68, ⟨Lc68, hQ68, l68, y68, z68⟩, st68⟩ := X67.specialBack hx (y := (⟨"com/example/wee_forge/weeforge/model/ProjectFilter", "<init>", "()V"⟩ : MethodName)) rfl hown (mvT hZ (hw _ (List.mem_of_getElem? (i := 13) rfl))) (mvT hZ (hw _ (List.mem_of_getElem? (i := 14) rfl))) (mvT hZ (hw _ (List.mem_of_getElem? (i := 15) rfl))) (by decide) (backOf (W := 1) (rmC l Z a0 hw [] b67 w_ANY w_CREATED_AT w_DESC wEL wOL h67 n0 (Nat.le_trans Z0 E67.1) A67 F_searchTerms_b67 F_topics_b67 F_lastActivity_b67 F_updated_b67 F_idAfter_b67 F_idBefore_b67 F_orderBy_b67 F_sort_b67 F_starredOnly_b67 g_b67 (Sta.ext E67 S_ANY) (Sta.ext E67 S_CREATED_AT) (Sta.ext E67 S_DESC) (Sta.ext E67 S_EL) (Sta.ext E67 S_OL)) hZ (hw _ (List.mem_of_getElem? (i := 15) rfl)) (hw _ (List.mem_of_getElem? (i := 12) rfl)) (by decide) (by decide)) (g := (mkF m 66 #[.val (.int p1), .val (.int p2), .val (.int p3), .val (.ref rkx), .val (.ref rky), .val (.int (1 : Int32)), .val (.int (0 : Int32)), .val (.int (0 : Int32)), .unset, .unset] [(.ref b67), (.ref b67)])) rfl (by rw [hml]; rfl) (Steps.refl _) (a := b67) (argsL := []) (rest := [(.ref b67)]) (lenOf pd_rm0_1 rfl) rfl (by show 2 * 0 + _ ≤ _; exact Nat.le_of_eq rfl) (hb hby at_66) (fun _ _ => ⟨rfl, e67, (by decide : 1 + 0 ≤ _), (by decide : 12 + 0 ≤ _)⟩)
        dsimp only [Pt.U, Pt.locs, Pt.cells, Pt.slots] at X68 l68 y68 z68 st68 hQ68
        subst l68 y68 z68
        obtain ⟨rfl, N68q, K68, Ei68, Fs68, Fo68, Fb68⟩ := hQ68
        have N68 := Fr.app N4 N68q
        obtain ⟨cq69, kq69, q69a, q69b, q69c⟩ := isOf hZ rfl Ei68
        obtain ⟨_, _, ⟨T69, L69, k69, n69⟩, -, X69, ⟨Lc69, hQ69, l69, y69, z69⟩, st69⟩ := X68.virtualBack hx (y := (⟨"com/example/wee_forge/weeforge/model/ProjectFilter", "orderBy", "()Lcom/example/wee_forge/weeforge/model/ProjectOrder;"⟩ : MethodName)) (z := (⟨"com/example/wee_forge/weeforge/model/ProjectFilter", "orderBy", "()Lcom/example/wee_forge/weeforge/model/ProjectOrder;"⟩ : MethodName)) hown (mvT hZ (hw _ (List.mem_of_getElem? (i := 53) rfl))) (mvT hZ (hw _ (List.mem_of_getElem? (i := 54) rfl))) (notFace_of_selects (args := #[]) (mvT hZ (hw _ (List.mem_of_getElem? (i := 56) rfl)))) (mvT hZ (hw _ (List.mem_of_getElem? (i := 56) rfl))) (mvT hZ (hw _ (List.mem_of_getElem? (i := 55) rfl))) (by decide) (backOf (W := 0) (rmg_orderBy l Z a0 hw [] b67 w_CREATED_AT T68.heap n0 (Nat.le_trans (Nat.le_trans Z0 E67.1) K68.1) Fo68) hZ (hw _ (List.mem_of_getElem? (i := 57) rfl)) (hw _ (List.mem_of_getElem? (i := 12) rfl)) (by decide) (by decide)) q69a q69c (g := (mkF m 73 #[.val (.int p1), .val (.int p2), .val (.int p3), .val (.ref rkx), .val (.ref rky), .val (.int (1 : Int32)), .val (.int (0 : Int32)), .val (.int (0 : Int32)), .val (.ref b67), .unset] [(.ref b67)])) rfl (by rw [hml]; rfl) (Steps.refl _) (argsL := []) (rest := []) (lenOf pd_rm0_2 rfl) rfl (by show 2 * 0 + _ ≤ _; exact Nat.le_of_eq rfl) (hb hby at_73) (fun _ _ => ⟨rfl, rfl, (by decide : 1 + 0 ≤ _), (by decide : 12 + 0 ≤ _)⟩)
        dsimp only [Pt.U, Pt.locs, Pt.cells, Pt.slots] at X69 l69 y69 z69 st69 hQ69
        subst l69 y69 z69
        obtain ⟨rfl, N69q, hE69⟩ := hQ69
        have N69 := Fr.app N68 N69q
        obtain ⟨T70, X70, e70, st70⟩ := getS2 X69 hx hZ hown (host := "") (Or.inl (hw _ (List.mem_of_getElem? (i := 8) rfl))) Via.refl hE69 (own_staK (Sta.ext E67 S_CREATED_AT) K68 (allS ⟨_, A67⟩ all0)) (g := (mkF m 76 #[.val (.int p1), .val (.int p2), .val (.int p3), .val (.ref rkx), .val (.ref rky), .val (.int (1 : Int32)), .val (.int (0 : Int32)), .val (.int (0 : Int32)), .val (.ref b67), .unset] [(.ref w_CREATED_AT)])) rfl (hb hby at_76)
        obtain ⟨T71, X71, e71, st71⟩ := getS2 X70 hx hZ hown (host := "") (Or.inl (hw _ (List.mem_of_getElem? (i := 92) rfl))) Via.refl e70 (own_staK (Sta.ext E67 S_ASC) K68 (allS ⟨_, A67⟩ all0)) (g := (mkF m 91 #[.val (.int p1), .val (.int p2), .val (.int p3), .val (.ref rkx), .val (.ref rky), .val (.int (1 : Int32)), .val (.int (0 : Int32)), .val (.int (0 : Int32)), .val (.ref b67), .unset] [(.ref b67)])) rfl (hb hby at_91)
        obtain ⟨cq72, kq72, q72a, q72b, q72c⟩ := isOf hZ e71 Ei68
        obtain ⟨_, _, ⟨T72, L72, k72, n72⟩, -, X72, hSb72, hgr72, ⟨Lc72, hQ72, l72, y72, z72⟩, st72⟩ := X71.virtualBackS hx (y := (⟨"com/example/wee_forge/weeforge/model/ProjectFilter", "sort", "(Lcom/example/wee_forge/weeforge/model/SortDirection;)Lcom/example/wee_forge/weeforge/model/ProjectFilter;"⟩ : MethodName)) (z := (⟨"com/example/wee_forge/weeforge/model/ProjectFilter", "sort", "(Lcom/example/wee_forge/weeforge/model/SortDirection;)Lcom/example/wee_forge/weeforge/model/ProjectFilter;"⟩ : MethodName)) hown (mvT hZ (hw _ (List.mem_of_getElem? (i := 94) rfl))) (mvT hZ (hw _ (List.mem_of_getElem? (i := 95) rfl))) (notFace_of_selects (args := #[]) (mvT hZ (hw _ (List.mem_of_getElem? (i := 97) rfl)))) (mvT hZ (hw _ (List.mem_of_getElem? (i := 97) rfl))) (mvT hZ (hw _ (List.mem_of_getElem? (i := 96) rfl))) (by decide) (backOfS (W := 0) (rm_sort l Z a0 hw [] b67 w_ASC w_DESC w_CREATED_AT (0 : Int32) T68.heap n0 (Nat.le_trans (Nat.le_trans Z0 E67.1) K68.1) Ei68 Fs68 Fo68 Fb68 g_b67 ((Exa.ext E67 E_ASC).keep K68)) hZ (hw _ (List.mem_of_getElem? (i := 98) rfl)) (hw _ (List.mem_of_getElem? (i := 12) rfl)) (by decide) (by decide)) q72a q72c (g := (mkF m 94 #[.val (.int p1), .val (.int p2), .val (.int p3), .val (.ref rkx), .val (.ref rky), .val (.int (1 : Int32)), .val (.int (0 : Int32)), .val (.int (0 : Int32)), .val (.ref b67), .unset] [(.ref w_ASC), (.ref b67)])) rfl (by rw [hml]; rfl) (Steps.refl _) (argsL := [(.ref w_ASC)]) (rest := []) (lenOf pd_rm0_7 rfl) rfl (by show 2 * 0 + _ ≤ _; exact Nat.le_of_eq rfl) (hb hby at_94) (fun _ _ => ⟨rfl, e71, (by decide : 1 + 2 ≤ _), (by decide : 12 + 20 ≤ _)⟩)
        dsimp only [Pt.U, Pt.locs, Pt.cells, Pt.slots] at X72 l72 y72 z72 st72 hQ72 hSb72 hgr72
        subst l72 y72 z72
        obtain ⟨X72, hS, hZ, hown⟩ := rebS hS (by rw [e71]; exact (Nat.le_trans (Nat.le_trans hk E67.1) K68.1)) X72 hSb72 hgr72 hZ hown
        obtain ⟨rfl, N72q, K72, Ei72, Fs72, Fo72, Fb72⟩ := hQ72
        have N72 := Fr.app N69 N72q
        obtain ⟨T73, X73, e73, st73⟩ := getS2 X72 hx hZ hown (host := "") (Or.inl (hw _ (List.mem_of_getElem? (i := 92) rfl))) Via.refl rfl (own_staK (own_staK (Sta.ext E67 S_ASC) K68 (allS ⟨_, A67⟩ all0)) K72 (allS ⟨_, Ei68⟩ all0)) (g := (mkF m 115 #[.val (.int p1), .val (.int p2), .val (.int p3), .val (.ref rkx), .val (.ref rky), .val (.int (1 : Int32)), .val (.int (0 : Int32)), .val (.int (0 : Int32)), .val (.ref b67), .unset] [])) rfl (hb hby at_115)
        obtain ⟨cq74, kq74, q74a, q74b, q74c⟩ := isOf hZ e73 Ei72
        obtain ⟨_, _, ⟨T74, L74, k74, n74⟩, -, X74, hSb74, hgr74, ⟨Lc74, hQ74, l74, y74, z74⟩, st74⟩ := X73.virtualBackS hx (y := (⟨"com/example/wee_forge/weeforge/model/ProjectFilter", "orderBy", "(Lcom/example/wee_forge/weeforge/model/ProjectOrder;)Lcom/example/wee_forge/weeforge/model/ProjectFilter;"⟩ : MethodName)) (z := (⟨"com/example/wee_forge/weeforge/model/ProjectFilter", "orderBy", "(Lcom/example/wee_forge/weeforge/model/ProjectOrder;)Lcom/example/wee_forge/weeforge/model/ProjectFilter;"⟩ : MethodName)) hown (mvT hZ (hw _ (List.mem_of_getElem? (i := 59) rfl))) (mvT hZ (hw _ (List.mem_of_getElem? (i := 60) rfl))) (notFace_of_selects (args := #[]) (mvT hZ (hw _ (List.mem_of_getElem? (i := 62) rfl)))) (mvT hZ (hw _ (List.mem_of_getElem? (i := 62) rfl))) (mvT hZ (hw _ (List.mem_of_getElem? (i := 61) rfl))) (by decide) (backOfS (W := 0) (rm_orderBy l Z a0 hw [] b67 rkx w_ASC w_CREATED_AT (0 : Int32) T72.heap n0 (Nat.le_trans (Nat.le_trans (Nat.le_trans Z0 E67.1) K68.1) K72.1) Ei72 Fs72 Fo72 Fb72 g_b67 (((Exa.ext E67 E_rkx).keep K68).keep K72)) hZ (hw _ (List.mem_of_getElem? (i := 63) rfl)) (hw _ (List.mem_of_getElem? (i := 12) rfl)) (by decide) (by decide)) q74a q74c (g := (mkF m 129 #[.val (.int p1), .val (.int p2), .val (.int p3), .val (.ref rkx), .val (.ref rky), .val (.int (1 : Int32)), .val (.int (0 : Int32)), .val (.int (0 : Int32)), .val (.ref b67), .val (.ref w_ASC)] [(.ref rkx), (.ref b67)])) rfl (by rw [hml]; rfl) (Steps.refl _) (argsL := [(.ref rkx)]) (rest := []) (lenOf pd_rm0_3 rfl) rfl (by show 2 * 0 + _ ≤ _; exact Nat.le_of_eq rfl) (hb hby at_129) (fun _ _ => ⟨rfl, e73, (by decide : 3 + 2 ≤ _), (by decide : 32 + 32 ≤ _)⟩)
        dsimp only [Pt.U, Pt.locs, Pt.cells, Pt.slots] at X74 l74 y74 z74 st74 hQ74 hSb74 hgr74
        subst l74 y74 z74
        obtain ⟨X74, hS, hZ, hown⟩ := rebS hS (by rw [e73]; exact (Nat.le_refl _)) X74 hSb74 hgr74 hZ hown
        obtain ⟨rfl, N74q, K74, Ei74, Fs74, Fo74, Fb74⟩ := hQ74
        have N74 := Fr.app N72 N74q
        obtain ⟨cq75, kq75, q75a, q75b, q75c⟩ := isOf hZ rfl Ei74
        obtain ⟨_, _, ⟨T75, L75, k75, n75⟩, -, X75, ⟨Lc75, hQ75, l75, y75, z75⟩, st75⟩ := X74.virtualBack hx (y := (⟨"com/example/wee_forge/weeforge/model/ProjectFilter", "orderBy", "()Lcom/example/wee_forge/weeforge/model/ProjectOrder;"⟩ : MethodName)) (z := (⟨"com/example/wee_forge/weeforge/model/ProjectFilter", "orderBy", "()Lcom/example/wee_forge/weeforge/model/ProjectOrder;"⟩ : MethodName)) hown (mvT hZ (hw _ (List.mem_of_getElem? (i := 53) rfl))) (mvT hZ (hw _ (List.mem_of_getElem? (i := 54) rfl))) (notFace_of_selects (args := #[]) (mvT hZ (hw _ (List.mem_of_getElem? (i := 56) rfl)))) (mvT hZ (hw _ (List.mem_of_getElem? (i := 56) rfl))) (mvT hZ (hw _ (List.mem_of_getElem? (i := 55) rfl))) (by decide) (backOf (W := 0) (rmg_orderBy l Z a0 hw [] b67 rkx T74.heap n0 (Nat.le_trans (Nat.le_trans (Nat.le_trans (Nat.le_trans Z0 E67.1) K68.1) K72.1) K74.1) Fo74) hZ (hw _ (List.mem_of_getElem? (i := 57) rfl)) (hw _ (List.mem_of_getElem? (i := 12) rfl)) (by decide) (by decide)) q75a q75c (g := (mkF m 141 #[.val (.int p1), .val (.int p2), .val (.int p3), .val (.ref rkx), .val (.ref rky), .val (.int (1 : Int32)), .val (.int (0 : Int32)), .val (.int (0 : Int32)), .val (.ref b67), .val (.ref w_ASC)] [(.ref b67)])) rfl (by rw [hml]; rfl) (Steps.refl _) (argsL := []) (rest := []) (lenOf pd_rm0_2 rfl) rfl (by show 2 * 0 + _ ≤ _; exact Nat.le_of_eq rfl) (hb hby at_141) (fun _ _ => ⟨rfl, rfl, (by decide : 5 + 0 ≤ _), (by decide : 64 + 0 ≤ _)⟩)
        dsimp only [Pt.U, Pt.locs, Pt.cells, Pt.slots] at X75 l75 y75 z75 st75 hQ75
        subst l75 y75 z75
        obtain ⟨rfl, N75q, hE75⟩ := hQ75
        have N75 := Fr.app N74 N75q
        obtain ⟨cq76, kq76, q76a, q76b, q76c⟩ := isOf hZ hE75 Ei74
        obtain ⟨_, _, ⟨T76, L76, k76, n76⟩, -, X76, ⟨Lc76, hQ76, l76, y76, z76⟩, st76⟩ := X75.virtualBack hx (y := (⟨"com/example/wee_forge/weeforge/model/ProjectFilter", "sort", "()Lcom/example/wee_forge/weeforge/model/SortDirection;"⟩ : MethodName)) (z := (⟨"com/example/wee_forge/weeforge/model/ProjectFilter", "sort", "()Lcom/example/wee_forge/weeforge/model/SortDirection;"⟩ : MethodName)) hown (mvT hZ (hw _ (List.mem_of_getElem? (i := 78) rfl))) (mvT hZ (hw _ (List.mem_of_getElem? (i := 79) rfl))) (notFace_of_selects (args := #[]) (mvT hZ (hw _ (List.mem_of_getElem? (i := 81) rfl)))) (mvT hZ (hw _ (List.mem_of_getElem? (i := 81) rfl))) (mvT hZ (hw _ (List.mem_of_getElem? (i := 80) rfl))) (by decide) (backOf (W := 0) (rmg_sort l Z a0 hw [] b67 w_ASC T74.heap n0 (Nat.le_trans (Nat.le_trans (Nat.le_trans (Nat.le_trans Z0 E67.1) K68.1) K72.1) K74.1) Fs74) hZ (hw _ (List.mem_of_getElem? (i := 82) rfl)) (hw _ (List.mem_of_getElem? (i := 12) rfl)) (by decide) (by decide)) q76a q76c (g := (mkF m 152 #[.val (.int p1), .val (.int p2), .val (.int p3), .val (.ref rkx), .val (.ref rky), .val (.int (1 : Int32)), .val (.int (0 : Int32)), .val (.int (0 : Int32)), .val (.ref b67), .val (.ref w_ASC)] [(.ref b67)])) rfl (by rw [hml]; rfl) (Steps.refl _) (argsL := []) (rest := []) (lenOf pd_rm0_4 rfl) rfl (by show 2 * 0 + _ ≤ _; exact Nat.le_of_eq rfl) (hb hby at_152) (fun _ _ => ⟨rfl, hE75, (by decide : 5 + 0 ≤ _), (by decide : 64 + 0 ≤ _)⟩)
        dsimp only [Pt.U, Pt.locs, Pt.cells, Pt.slots] at X76 l76 y76 z76 st76 hQ76
        subst l76 y76 z76
        obtain ⟨rfl, N76q, hE76⟩ := hQ76
        have N76 := Fr.app N75 N76q
        obtain ⟨cq77, kq77, q77a, q77b, q77c⟩ := isOf hZ hE76 Ei74
        obtain ⟨_, _, ⟨T77, L77, k77, n77⟩, -, X77, ⟨Lc77, hQ77, l77, y77, z77⟩, st77⟩ := X76.virtualBack hx (y := (⟨"com/example/wee_forge/weeforge/model/ProjectFilter", "sort", "()Lcom/example/wee_forge/weeforge/model/SortDirection;"⟩ : MethodName)) (z := (⟨"com/example/wee_forge/weeforge/model/ProjectFilter", "sort", "()Lcom/example/wee_forge/weeforge/model/SortDirection;"⟩ : MethodName)) hown (mvT hZ (hw _ (List.mem_of_getElem? (i := 78) rfl))) (mvT hZ (hw _ (List.mem_of_getElem? (i := 79) rfl))) (notFace_of_selects (args := #[]) (mvT hZ (hw _ (List.mem_of_getElem? (i := 81) rfl)))) (mvT hZ (hw _ (List.mem_of_getElem? (i := 81) rfl))) (mvT hZ (hw _ (List.mem_of_getElem? (i := 80) rfl))) (by decide) (backOf (W := 0) (rmg_sort l Z a0 hw [] b67 w_ASC T74.heap n0 (Nat.le_trans (Nat.le_trans (Nat.le_trans (Nat.le_trans Z0 E67.1) K68.1) K72.1) K74.1) Fs74) hZ (hw _ (List.mem_of_getElem? (i := 82) rfl)) (hw _ (List.mem_of_getElem? (i := 12) rfl)) (by decide) (by decide)) q77a q77c (g := (mkF m 195 #[.val (.int p1), .val (.int p2), .val (.int p3), .val (.ref rkx), .val (.ref rky), .val (.int (1 : Int32)), .val (.int (0 : Int32)), .val (.int (0 : Int32)), .val (.ref b67), .val (.ref w_ASC)] [(.ref b67)])) rfl (by rw [hml]; rfl) (Steps.refl _) (argsL := []) (rest := []) (lenOf pd_rm0_4 rfl) rfl (by show 2 * 0 + _ ≤ _; exact Nat.le_of_eq rfl) (hb hby at_195) (fun _ _ => ⟨rfl, hE76, (by decide : 5 + 0 ≤ _), (by decide : 64 + 0 ≤ _)⟩)
        dsimp only [Pt.U, Pt.locs, Pt.cells, Pt.slots] at X77 l77 y77 z77 st77 hQ77
        subst l77 y77 z77
        obtain ⟨rfl, N77q, hE77⟩ := hQ77
        have N77 := Fr.app N76 N77q
        obtain ⟨cq78, kq78, q78a, q78b, q78c⟩ := isOf hZ hE77 Ei74
        obtain ⟨_, _, ⟨T78, L78, k78, n78⟩, -, X78, ⟨Lc78, hQ78, l78, y78, z78⟩, st78⟩ := X77.virtualBack hx (y := (⟨"com/example/wee_forge/weeforge/model/ProjectFilter", "starredOnly", "()Z"⟩ : MethodName)) (z := (⟨"com/example/wee_forge/weeforge/model/ProjectFilter", "starredOnly", "()Z"⟩ : MethodName)) hown (mvT hZ (hw _ (List.mem_of_getElem? (i := 83) rfl))) (mvT hZ (hw _ (List.mem_of_getElem? (i := 84) rfl))) (notFace_of_selects (args := #[]) (mvT hZ (hw _ (List.mem_of_getElem? (i := 86) rfl)))) (mvT hZ (hw _ (List.mem_of_getElem? (i := 86) rfl))) (mvT hZ (hw _ (List.mem_of_getElem? (i := 85) rfl))) (by decide) (backOf (W := 0) (rmg_starredOnly l Z a0 hw [] b67 (0 : Int32) T74.heap n0 (Nat.le_trans (Nat.le_trans (Nat.le_trans (Nat.le_trans Z0 E67.1) K68.1) K72.1) K74.1) Fb74 (by decide)) hZ (hw _ (List.mem_of_getElem? (i := 87) rfl)) (hw _ (List.mem_of_getElem? (i := 12) rfl)) (by decide) (by decide)) q78a q78c (g := (mkF m 207 #[.val (.int p1), .val (.int p2), .val (.int p3), .val (.ref rkx), .val (.ref rky), .val (.int (1 : Int32)), .val (.int (0 : Int32)), .val (.int (0 : Int32)), .val (.ref b67), .val (.ref w_ASC)] [(.ref b67)])) rfl (by rw [hml]; rfl) (Steps.refl _) (argsL := []) (rest := []) (lenOf pd_rm0_5 rfl) rfl (by show 2 * 0 + _ ≤ _; exact Nat.le_of_eq rfl) (hb hby at_207) (fun _ _ => ⟨rfl, hE77, (by decide : 5 + 0 ≤ _), (by decide : 64 + 0 ≤ _)⟩)
        dsimp only [Pt.U, Pt.locs, Pt.cells, Pt.slots] at X78 l78 y78 z78 st78 hQ78
        subst l78 y78 z78
        obtain ⟨rfl, N78q, hE78⟩ := hQ78
        have N78 := Fr.app N77 N78q
        have pre79 : ∀ tt, Steps p.tables e below (T78.setTop (mkF m 220 #[.val (.int p1), .val (.int p2), .val (.int p3), .val (.ref rkx), .val (.ref rky), .val (.int (1 : Int32)), .val (.int (0 : Int32)), .val (.int (0 : Int32)), .val (.ref b67), .val (.ref w_ASC)] [(.int (1 : Int32))])) tt → Steps p.tables e below (s₁.setTop (entryFrame m #[(.int p1), (.int p2), (.int p3)] maxLocals)) tt := by
          intro tt kt
          refine pre65 tt ?_
          show Steps p.tables e below (T4.setTop (mkF m 52 #[.val (.int p1), .val (.int p2), .val (.int p3), .val (.ref rkx), .val (.ref rky), .val (.int (1 : Int32)), .val (.int (0 : Int32)), .unset, .unset, .unset] [(.int (p3 &&& (4 : Int32)))])) _
          refine XS.ifYes X4.here hx rfl (pc0 := 52) (pc' := 59) rfl (hb hby at_52) rfl ((if0 _ _).trans (teq c52_66).1) (by decide) (by decide) ?_
          show Steps p.tables e below (T4.setTop (mkF m 59 #[.val (.int p1), .val (.int p2), .val (.int p3), .val (.ref rkx), .val (.ref rky), .val (.int (1 : Int32)), .val (.int (0 : Int32)), .unset, .unset, .unset] [])) _
          refine XS.iconst X4.here hx rfl (hb hby at_59) ?_
          show Steps p.tables e below (T4.setTop (mkF m 60 #[.val (.int p1), .val (.int p2), .val (.int p3), .val (.ref rkx), .val (.ref rky), .val (.int (1 : Int32)), .val (.int (0 : Int32)), .unset, .unset, .unset] [(.int (0 : Int32))])) _
          refine XS.istore X4.here hx rfl (hb hby at_60) rfl (l' := #[.val (.int p1), .val (.int p2), .val (.int p3), .val (.ref rkx), .val (.ref rky), .val (.int (1 : Int32)), .val (.int (0 : Int32)), .val (.int (0 : Int32)), .unset, .unset]) rfl ?_
          show Steps p.tables e below (T4.setTop (mkF m 62 #[.val (.int p1), .val (.int p2), .val (.int p3), .val (.ref rkx), .val (.ref rky), .val (.int (1 : Int32)), .val (.int (0 : Int32)), .val (.int (0 : Int32)), .unset, .unset] [])) _
          refine st67 _ ?_
          show Steps p.tables e below (T67.setTop (mkF m 65 #[.val (.int p1), .val (.int p2), .val (.int p3), .val (.ref rkx), .val (.ref rky), .val (.int (1 : Int32)), .val (.int (0 : Int32)), .val (.int (0 : Int32)), .unset, .unset] [(.ref b67)])) _
          refine XS.dup X67.here hx rfl (hb hby at_65) rfl rfl ?_
          show Steps p.tables e below (T67.setTop (mkF m 66 #[.val (.int p1), .val (.int p2), .val (.int p3), .val (.ref rkx), .val (.ref rky), .val (.int (1 : Int32)), .val (.int (0 : Int32)), .val (.int (0 : Int32)), .unset, .unset] [(.ref b67), (.ref b67)])) _
          refine st68.trans ?_
          show Steps p.tables e below (T68.setTop (mkF m 69 #[.val (.int p1), .val (.int p2), .val (.int p3), .val (.ref rkx), .val (.ref rky), .val (.int (1 : Int32)), .val (.int (0 : Int32)), .val (.int (0 : Int32)), .unset, .unset] [(.ref b67)])) _
          refine XS.astore X68.here hx rfl (hb hby at_69) rfl rfl (l' := #[.val (.int p1), .val (.int p2), .val (.int p3), .val (.ref rkx), .val (.ref rky), .val (.int (1 : Int32)), .val (.int (0 : Int32)), .val (.int (0 : Int32)), .val (.ref b67), .unset]) rfl ?_
          show Steps p.tables e below (T68.setTop (mkF m 71 #[.val (.int p1), .val (.int p2), .val (.int p3), .val (.ref rkx), .val (.ref rky), .val (.int (1 : Int32)), .val (.int (0 : Int32)), .val (.int (0 : Int32)), .val (.ref b67), .unset] [])) _
          refine XS.aload X68.here hx rfl (hb hby at_71) rfl rfl ?_
          show Steps p.tables e below (T68.setTop (mkF m 73 #[.val (.int p1), .val (.int p2), .val (.int p3), .val (.ref rkx), .val (.ref rky), .val (.int (1 : Int32)), .val (.int (0 : Int32)), .val (.int (0 : Int32)), .val (.ref b67), .unset] [(.ref b67)])) _
          refine st69.trans ?_
          show Steps p.tables e below (T69.setTop (mkF m 76 #[.val (.int p1), .val (.int p2), .val (.int p3), .val (.ref rkx), .val (.ref rky), .val (.int (1 : Int32)), .val (.int (0 : Int32)), .val (.int (0 : Int32)), .val (.ref b67), .unset] [(.ref w_CREATED_AT)])) _
          refine st70 _ ?_
          show Steps p.tables e below (T70.setTop (mkF m 79 #[.val (.int p1), .val (.int p2), .val (.int p3), .val (.ref rkx), .val (.ref rky), .val (.int (1 : Int32)), .val (.int (0 : Int32)), .val (.int (0 : Int32)), .val (.ref b67), .unset] [(.ref w_CREATED_AT), (.ref w_CREATED_AT)])) _
          refine Jvm.RoadKit.acmp (g := (mkF m 79 #[.val (.int p1), .val (.int p2), .val (.int p3), .val (.ref rkx), .val (.ref rky), .val (.int (1 : Int32)), .val (.int (0 : Int32)), .val (.int (0 : Int32)), .val (.ref b67), .unset] [(.ref w_CREATED_AT), (.ref w_CREATED_AT)])) X70 hx rfl rfl rfl (pc0 := 79) (pc' := 84) (same := true) rfl (hb hby at_79) rfl (decide_eq_true rfl) (by decide) (by decide) ?_
          show Steps p.tables e below (T70.setTop (mkF m 84 #[.val (.int p1), .val (.int p2), .val (.int p3), .val (.ref rkx), .val (.ref rky), .val (.int (1 : Int32)), .val (.int (0 : Int32)), .val (.int (0 : Int32)), .val (.ref b67), .unset] [])) _
          refine XS.iload X70.here hx rfl (hb hby at_84) rfl ?_
          show Steps p.tables e below (T70.setTop (mkF m 86 #[.val (.int p1), .val (.int p2), .val (.int p3), .val (.ref rkx), .val (.ref rky), .val (.int (1 : Int32)), .val (.int (0 : Int32)), .val (.int (0 : Int32)), .val (.ref b67), .unset] [(.int (1 : Int32))])) _
          refine XS.ifNo X70.here hx rfl (hb hby at_86) rfl ((if0 _ _).trans (feq (by decide : ¬ ((1 : Int32) = (0 : Int32)))).1) ?_
          show Steps p.tables e below (T70.setTop (mkF m 89 #[.val (.int p1), .val (.int p2), .val (.int p3), .val (.ref rkx), .val (.ref rky), .val (.int (1 : Int32)), .val (.int (0 : Int32)), .val (.int (0 : Int32)), .val (.ref b67), .unset] [])) _
          refine XS.aload X70.here hx rfl (hb hby at_89) rfl rfl ?_
          show Steps p.tables e below (T70.setTop (mkF m 91 #[.val (.int p1), .val (.int p2), .val (.int p3), .val (.ref rkx), .val (.ref rky), .val (.int (1 : Int32)), .val (.int (0 : Int32)), .val (.int (0 : Int32)), .val (.ref b67), .unset] [(.ref b67)])) _
          refine st71 _ ?_
          show Steps p.tables e below (T71.setTop (mkF m 94 #[.val (.int p1), .val (.int p2), .val (.int p3), .val (.ref rkx), .val (.ref rky), .val (.int (1 : Int32)), .val (.int (0 : Int32)), .val (.int (0 : Int32)), .val (.ref b67), .unset] [(.ref w_ASC), (.ref b67)])) _
          refine st72.trans ?_
          show Steps p.tables e below (T72.setTop (mkF m 97 #[.val (.int p1), .val (.int p2), .val (.int p3), .val (.ref rkx), .val (.ref rky), .val (.int (1 : Int32)), .val (.int (0 : Int32)), .val (.int (0 : Int32)), .val (.ref b67), .unset] [(.ref b67)])) _
          refine XS.pop X72.here hx rfl (hb hby at_97) rfl rfl ?_
          show Steps p.tables e below (T72.setTop (mkF m 98 #[.val (.int p1), .val (.int p2), .val (.int p3), .val (.ref rkx), .val (.ref rky), .val (.int (1 : Int32)), .val (.int (0 : Int32)), .val (.int (0 : Int32)), .val (.ref b67), .unset] [])) _
          refine XS.iload X72.here hx rfl (hb hby at_98) rfl ?_
          show Steps p.tables e below (T72.setTop (mkF m 100 #[.val (.int p1), .val (.int p2), .val (.int p3), .val (.ref rkx), .val (.ref rky), .val (.int (1 : Int32)), .val (.int (0 : Int32)), .val (.int (0 : Int32)), .val (.ref b67), .unset] [(.int (0 : Int32))])) _
          refine XS.ifYes X72.here hx rfl (pc0 := 100) (pc' := 110) rfl (hb hby at_100) rfl ((if0 _ _).trans (teq (rfl : (0 : Int32) = (0 : Int32))).1) (by decide) (by decide) ?_
          show Steps p.tables e below (T72.setTop (mkF m 110 #[.val (.int p1), .val (.int p2), .val (.int p3), .val (.ref rkx), .val (.ref rky), .val (.int (1 : Int32)), .val (.int (0 : Int32)), .val (.int (0 : Int32)), .val (.ref b67), .unset] [])) _
          refine XS.iload X72.here hx rfl (hb hby at_110) rfl ?_
          show Steps p.tables e below (T72.setTop (mkF m 112 #[.val (.int p1), .val (.int p2), .val (.int p3), .val (.ref rkx), .val (.ref rky), .val (.int (1 : Int32)), .val (.int (0 : Int32)), .val (.int (0 : Int32)), .val (.ref b67), .unset] [(.int (1 : Int32))])) _
          refine XS.ifNo X72.here hx rfl (hb hby at_112) rfl ((if0 _ _).trans (feq (by decide : ¬ ((1 : Int32) = (0 : Int32)))).1) ?_
          show Steps p.tables e below (T72.setTop (mkF m 115 #[.val (.int p1), .val (.int p2), .val (.int p3), .val (.ref rkx), .val (.ref rky), .val (.int (1 : Int32)), .val (.int (0 : Int32)), .val (.int (0 : Int32)), .val (.ref b67), .unset] [])) _
          refine st73 _ ?_
          show Steps p.tables e below (T73.setTop (mkF m 118 #[.val (.int p1), .val (.int p2), .val (.int p3), .val (.ref rkx), .val (.ref rky), .val (.int (1 : Int32)), .val (.int (0 : Int32)), .val (.int (0 : Int32)), .val (.ref b67), .unset] [(.ref w_ASC)])) _
          refine XS.goto X73.here hx rfl (pc0 := 118) (pc' := 124) rfl (hb hby at_118) (by decide) (by decide) ?_
          show Steps p.tables e below (T73.setTop (mkF m 124 #[.val (.int p1), .val (.int p2), .val (.int p3), .val (.ref rkx), .val (.ref rky), .val (.int (1 : Int32)), .val (.int (0 : Int32)), .val (.int (0 : Int32)), .val (.ref b67), .unset] [(.ref w_ASC)])) _
          refine XS.astore X73.here hx rfl (hb hby at_124) rfl rfl (l' := #[.val (.int p1), .val (.int p2), .val (.int p3), .val (.ref rkx), .val (.ref rky), .val (.int (1 : Int32)), .val (.int (0 : Int32)), .val (.int (0 : Int32)), .val (.ref b67), .val (.ref w_ASC)]) rfl ?_
          show Steps p.tables e below (T73.setTop (mkF m 126 #[.val (.int p1), .val (.int p2), .val (.int p3), .val (.ref rkx), .val (.ref rky), .val (.int (1 : Int32)), .val (.int (0 : Int32)), .val (.int (0 : Int32)), .val (.ref b67), .val (.ref w_ASC)] [])) _
          refine XS.aload X73.here hx rfl (hb hby at_126) rfl rfl ?_
          show Steps p.tables e below (T73.setTop (mkF m 128 #[.val (.int p1), .val (.int p2), .val (.int p3), .val (.ref rkx), .val (.ref rky), .val (.int (1 : Int32)), .val (.int (0 : Int32)), .val (.int (0 : Int32)), .val (.ref b67), .val (.ref w_ASC)] [(.ref b67)])) _
          refine XS.aloadN X73.here hx rfl (hb hby at_128) rfl rfl ?_
          show Steps p.tables e below (T73.setTop (mkF m 129 #[.val (.int p1), .val (.int p2), .val (.int p3), .val (.ref rkx), .val (.ref rky), .val (.int (1 : Int32)), .val (.int (0 : Int32)), .val (.int (0 : Int32)), .val (.ref b67), .val (.ref w_ASC)] [(.ref rkx), (.ref b67)])) _
          refine st74.trans ?_
          show Steps p.tables e below (T74.setTop (mkF m 132 #[.val (.int p1), .val (.int p2), .val (.int p3), .val (.ref rkx), .val (.ref rky), .val (.int (1 : Int32)), .val (.int (0 : Int32)), .val (.int (0 : Int32)), .val (.ref b67), .val (.ref w_ASC)] [(.ref b67)])) _
          refine XS.aload X74.here hx rfl (hb hby at_132) rfl rfl ?_
          show Steps p.tables e below (T74.setTop (mkF m 134 #[.val (.int p1), .val (.int p2), .val (.int p3), .val (.ref rkx), .val (.ref rky), .val (.int (1 : Int32)), .val (.int (0 : Int32)), .val (.int (0 : Int32)), .val (.ref b67), .val (.ref w_ASC)] [(.ref b67), (.ref b67)])) _
          refine Jvm.RoadKit.acmp (g := (mkF m 134 #[.val (.int p1), .val (.int p2), .val (.int p3), .val (.ref rkx), .val (.ref rky), .val (.int (1 : Int32)), .val (.int (0 : Int32)), .val (.int (0 : Int32)), .val (.ref b67), .val (.ref w_ASC)] [(.ref b67), (.ref b67)])) X74 hx rfl rfl rfl (pc0 := 134) (pc' := 139) (same := true) rfl (hb hby at_134) rfl (decide_eq_true rfl) (by decide) (by decide) ?_
          show Steps p.tables e below (T74.setTop (mkF m 139 #[.val (.int p1), .val (.int p2), .val (.int p3), .val (.ref rkx), .val (.ref rky), .val (.int (1 : Int32)), .val (.int (0 : Int32)), .val (.int (0 : Int32)), .val (.ref b67), .val (.ref w_ASC)] [])) _
          refine XS.aload X74.here hx rfl (hb hby at_139) rfl rfl ?_
          show Steps p.tables e below (T74.setTop (mkF m 141 #[.val (.int p1), .val (.int p2), .val (.int p3), .val (.ref rkx), .val (.ref rky), .val (.int (1 : Int32)), .val (.int (0 : Int32)), .val (.int (0 : Int32)), .val (.ref b67), .val (.ref w_ASC)] [(.ref b67)])) _
          refine st75.trans ?_
          show Steps p.tables e below (T75.setTop (mkF m 144 #[.val (.int p1), .val (.int p2), .val (.int p3), .val (.ref rkx), .val (.ref rky), .val (.int (1 : Int32)), .val (.int (0 : Int32)), .val (.int (0 : Int32)), .val (.ref b67), .val (.ref w_ASC)] [(.ref rkx)])) _
          refine XS.aloadN X75.here hx rfl (hb hby at_144) rfl rfl ?_
          show Steps p.tables e below (T75.setTop (mkF m 145 #[.val (.int p1), .val (.int p2), .val (.int p3), .val (.ref rkx), .val (.ref rky), .val (.int (1 : Int32)), .val (.int (0 : Int32)), .val (.int (0 : Int32)), .val (.ref b67), .val (.ref w_ASC)] [(.ref rkx), (.ref rkx)])) _
          refine Jvm.RoadKit.acmp (g := (mkF m 145 #[.val (.int p1), .val (.int p2), .val (.int p3), .val (.ref rkx), .val (.ref rky), .val (.int (1 : Int32)), .val (.int (0 : Int32)), .val (.int (0 : Int32)), .val (.ref b67), .val (.ref w_ASC)] [(.ref rkx), (.ref rkx)])) X75 hx rfl rfl rfl (pc0 := 145) (pc' := 150) (same := true) rfl (hb hby at_145) rfl (decide_eq_true rfl) (by decide) (by decide) ?_
          show Steps p.tables e below (T75.setTop (mkF m 150 #[.val (.int p1), .val (.int p2), .val (.int p3), .val (.ref rkx), .val (.ref rky), .val (.int (1 : Int32)), .val (.int (0 : Int32)), .val (.int (0 : Int32)), .val (.ref b67), .val (.ref w_ASC)] [])) _
          refine XS.aload X75.here hx rfl (hb hby at_150) rfl rfl ?_
          show Steps p.tables e below (T75.setTop (mkF m 152 #[.val (.int p1), .val (.int p2), .val (.int p3), .val (.ref rkx), .val (.ref rky), .val (.int (1 : Int32)), .val (.int (0 : Int32)), .val (.int (0 : Int32)), .val (.ref b67), .val (.ref w_ASC)] [(.ref b67)])) _
          refine st76.trans ?_
          show Steps p.tables e below (T76.setTop (mkF m 155 #[.val (.int p1), .val (.int p2), .val (.int p3), .val (.ref rkx), .val (.ref rky), .val (.int (1 : Int32)), .val (.int (0 : Int32)), .val (.int (0 : Int32)), .val (.ref b67), .val (.ref w_ASC)] [(.ref w_ASC)])) _
          refine XS.aload X76.here hx rfl (hb hby at_155) rfl rfl ?_
          show Steps p.tables e below (T76.setTop (mkF m 157 #[.val (.int p1), .val (.int p2), .val (.int p3), .val (.ref rkx), .val (.ref rky), .val (.int (1 : Int32)), .val (.int (0 : Int32)), .val (.int (0 : Int32)), .val (.ref b67), .val (.ref w_ASC)] [(.ref w_ASC), (.ref w_ASC)])) _
          refine Jvm.RoadKit.acmp (g := (mkF m 157 #[.val (.int p1), .val (.int p2), .val (.int p3), .val (.ref rkx), .val (.ref rky), .val (.int (1 : Int32)), .val (.int (0 : Int32)), .val (.int (0 : Int32)), .val (.ref b67), .val (.ref w_ASC)] [(.ref w_ASC), (.ref w_ASC)])) X76 hx rfl rfl rfl (pc0 := 157) (pc' := 162) (same := true) rfl (hb hby at_157) rfl (decide_eq_true rfl) (by decide) (by decide) ?_
          show Steps p.tables e below (T76.setTop (mkF m 162 #[.val (.int p1), .val (.int p2), .val (.int p3), .val (.ref rkx), .val (.ref rky), .val (.int (1 : Int32)), .val (.int (0 : Int32)), .val (.int (0 : Int32)), .val (.ref b67), .val (.ref w_ASC)] [])) _
          refine XS.iload X76.here hx rfl (hb hby at_162) rfl ?_
          show Steps p.tables e below (T76.setTop (mkF m 164 #[.val (.int p1), .val (.int p2), .val (.int p3), .val (.ref rkx), .val (.ref rky), .val (.int (1 : Int32)), .val (.int (0 : Int32)), .val (.int (0 : Int32)), .val (.ref b67), .val (.ref w_ASC)] [(.int (0 : Int32))])) _
          refine XS.ifYes X76.here hx rfl (pc0 := 164) (pc' := 193) rfl (hb hby at_164) rfl ((if0 _ _).trans (teq (rfl : (0 : Int32) = (0 : Int32))).1) (by decide) (by decide) ?_
          show Steps p.tables e below (T76.setTop (mkF m 193 #[.val (.int p1), .val (.int p2), .val (.int p3), .val (.ref rkx), .val (.ref rky), .val (.int (1 : Int32)), .val (.int (0 : Int32)), .val (.int (0 : Int32)), .val (.ref b67), .val (.ref w_ASC)] [])) _
          refine XS.aload X76.here hx rfl (hb hby at_193) rfl rfl ?_
          show Steps p.tables e below (T76.setTop (mkF m 195 #[.val (.int p1), .val (.int p2), .val (.int p3), .val (.ref rkx), .val (.ref rky), .val (.int (1 : Int32)), .val (.int (0 : Int32)), .val (.int (0 : Int32)), .val (.ref b67), .val (.ref w_ASC)] [(.ref b67)])) _
          refine st77.trans ?_
          show Steps p.tables e below (T77.setTop (mkF m 198 #[.val (.int p1), .val (.int p2), .val (.int p3), .val (.ref rkx), .val (.ref rky), .val (.int (1 : Int32)), .val (.int (0 : Int32)), .val (.int (0 : Int32)), .val (.ref b67), .val (.ref w_ASC)] [(.ref w_ASC)])) _
          refine XS.aload X77.here hx rfl (hb hby at_198) rfl rfl ?_
          show Steps p.tables e below (T77.setTop (mkF m 200 #[.val (.int p1), .val (.int p2), .val (.int p3), .val (.ref rkx), .val (.ref rky), .val (.int (1 : Int32)), .val (.int (0 : Int32)), .val (.int (0 : Int32)), .val (.ref b67), .val (.ref w_ASC)] [(.ref w_ASC), (.ref w_ASC)])) _
          refine Jvm.RoadKit.acmp (g := (mkF m 200 #[.val (.int p1), .val (.int p2), .val (.int p3), .val (.ref rkx), .val (.ref rky), .val (.int (1 : Int32)), .val (.int (0 : Int32)), .val (.int (0 : Int32)), .val (.ref b67), .val (.ref w_ASC)] [(.ref w_ASC), (.ref w_ASC)])) X77 hx rfl rfl rfl (pc0 := 200) (pc' := 205) (same := true) rfl (hb hby at_200) rfl (decide_eq_true rfl) (by decide) (by decide) ?_
          show Steps p.tables e below (T77.setTop (mkF m 205 #[.val (.int p1), .val (.int p2), .val (.int p3), .val (.ref rkx), .val (.ref rky), .val (.int (1 : Int32)), .val (.int (0 : Int32)), .val (.int (0 : Int32)), .val (.ref b67), .val (.ref w_ASC)] [])) _
          refine XS.aload X77.here hx rfl (hb hby at_205) rfl rfl ?_
          show Steps p.tables e below (T77.setTop (mkF m 207 #[.val (.int p1), .val (.int p2), .val (.int p3), .val (.ref rkx), .val (.ref rky), .val (.int (1 : Int32)), .val (.int (0 : Int32)), .val (.int (0 : Int32)), .val (.ref b67), .val (.ref w_ASC)] [(.ref b67)])) _
          refine st78.trans ?_
          show Steps p.tables e below (T78.setTop (mkF m 210 #[.val (.int p1), .val (.int p2), .val (.int p3), .val (.ref rkx), .val (.ref rky), .val (.int (1 : Int32)), .val (.int (0 : Int32)), .val (.int (0 : Int32)), .val (.ref b67), .val (.ref w_ASC)] [(.int (0 : Int32))])) _
          refine XS.iload X78.here hx rfl (hb hby at_210) rfl ?_
          show Steps p.tables e below (T78.setTop (mkF m 212 #[.val (.int p1), .val (.int p2), .val (.int p3), .val (.ref rkx), .val (.ref rky), .val (.int (1 : Int32)), .val (.int (0 : Int32)), .val (.int (0 : Int32)), .val (.ref b67), .val (.ref w_ASC)] [(.int (0 : Int32)), (.int (0 : Int32))])) _
          refine XS.icmpNo X78.here hx rfl (hb hby at_212) rfl (teq (rfl : (0 : Int32) = (0 : Int32))).2 ?_
          show Steps p.tables e below (T78.setTop (mkF m 215 #[.val (.int p1), .val (.int p2), .val (.int p3), .val (.ref rkx), .val (.ref rky), .val (.int (1 : Int32)), .val (.int (0 : Int32)), .val (.int (0 : Int32)), .val (.ref b67), .val (.ref w_ASC)] [])) _
          refine XS.iconst X78.here hx rfl (hb hby at_215) ?_
          show Steps p.tables e below (T78.setTop (mkF m 216 #[.val (.int p1), .val (.int p2), .val (.int p3), .val (.ref rkx), .val (.ref rky), .val (.int (1 : Int32)), .val (.int (0 : Int32)), .val (.int (0 : Int32)), .val (.ref b67), .val (.ref w_ASC)] [(.int (1 : Int32))])) _
          refine XS.goto X78.here hx rfl (pc0 := 216) (pc' := 220) rfl (hb hby at_216) (by decide) (by decide) ?_
          exact kt
        obtain ⟨fs, hr, hrun, hended, hW⟩ := X78.leaveW hS (by rw [hE78]; exact (Nat.le_refl _)) (v := some (.int (1 : Int32))) (fun h => by rw [Bd.returns] at h; cases h)
        refine ⟨_, _, pre79 _ ?_, hrun, hended, _, _, rfl, ?_, ⟨_, rfl⟩, hW.2.1, hW.2.2.1, hW.2.2.2.mono (by decide) (by decide)⟩
        · show Steps p.tables e below (T78.setTop (mkF m 220 #[.val (.int p1), .val (.int p2), .val (.int p3), .val (.ref rkx), .val (.ref rky), .val (.int (1 : Int32)), .val (.int (0 : Int32)), .val (.int (0 : Int32)), .val (.ref b67), .val (.ref w_ASC)] [(.int (1 : Int32))])) _
          exact retN X78 hx (t := .boolean) Bd.returns (by simp) (hb hby at_220) hr
        · show Q0 Z h0 n0 _ T78.heap _
          rw [hE78]
          exact ⟨rfl, N78⟩
      · obtain ⟨T80, h80, X80, e80, E80, A80, D80, -, st80⟩ := newO X4 hx hZ hown (hw _ (List.mem_of_getElem? (i := 10) rfl)) (hw _ (List.mem_of_getElem? (i := 11) rfl)) (hw _ (List.mem_of_getElem? (i := 12) rfl)) hE4 (g := (mkF m 62 #[.val (.int p1), .val (.int p2), .val (.int p3), .val (.ref rkx), .val (.ref rky), .val (.int (1 : Int32)), .val (.int (0 : Int32)), .val (.int (1 : Int32)), .unset, .unset] [])) rfl (hb hby at_62) (by decide) (by decide)
        obtain ⟨b80, g80⟩ : ∃ z, z = h0.size := ⟨_, rfl⟩
        rw [← g80] at A80 D80 st80
        have g_b80 : n0 ≤ b80 := Nat.le_trans Z0 (Nat.le_of_eq g80.symm)
        have F_searchTerms_b80 : Fld Z h80 b80 "com/example/wee_forge/weeforge/model/ProjectFilter" "searchTerms" "Ljava/util/List;" .null := D80 (Or.inl (hw _ (List.mem_of_getElem? (i := 26) rfl))) (ty := (.object "java/util/List")) (by decide)
        have F_topics_b80 : Fld Z h80 b80 "com/example/wee_forge/weeforge/model/ProjectFilter" "topics" "Ljava/util/List;" .null := D80 (Or.inl (hw _ (List.mem_of_getElem? (i := 28) rfl))) (ty := (.object "java/util/List")) (by decide)
        have F_lastActivity_b80 : Fld Z h80 b80 "com/example/wee_forge/weeforge/model/ProjectFilter" "lastActivity" "Lcom/example/wee_forge/weeforge/model/TimeRange;" .null := D80 (Or.inl (hw _ (List.mem_of_getElem? (i := 33) rfl))) (ty := (.object "com/example/wee_forge/weeforge/model/TimeRange")) (by decide)
        have F_updated_b80 : Fld Z h80 b80 "com/example/wee_forge/weeforge/model/ProjectFilter" "updated" "Lcom/example/wee_forge/weeforge/model/TimeRange;" .null := D80 (Or.inl (hw _ (List.mem_of_getElem? (i := 35) rfl))) (ty := (.object "com/example/wee_forge/weeforge/model/TimeRange")) (by decide)
        have F_idAfter_b80 : Fld Z h80 b80 "com/example/wee_forge/weeforge/model/ProjectFilter" "idAfter" "Ljava/util/OptionalLong;" .null := D80 (Or.inl (hw _ (List.mem_of_getElem? (i := 42) rfl))) (ty := (.object "java/util/OptionalLong")) (by decide)
        have F_idBefore_b80 : Fld Z h80 b80 "com/example/wee_forge/weeforge/model/ProjectFilter" "idBefore" "Ljava/util/OptionalLong;" .null := D80 (Or.inl (hw _ (List.mem_of_getElem? (i := 44) rfl))) (ty := (.object "java/util/OptionalLong")) (by decide)
        have F_orderBy_b80 : Fld Z h80 b80 "com/example/wee_forge/weeforge/model/ProjectFilter" "orderBy" "Lcom/example/wee_forge/weeforge/model/ProjectOrder;" .null := D80 (Or.inl (hw _ (List.mem_of_getElem? (i := 47) rfl))) (ty := (.object "com/example/wee_forge/weeforge/model/ProjectOrder")) (by decide)
        have F_sort_b80 : Fld Z h80 b80 "com/example/wee_forge/weeforge/model/ProjectFilter" "sort" "Lcom/example/wee_forge/weeforge/model/SortDirection;" .null := D80 (Or.inl (hw _ (List.mem_of_getElem? (i := 52) rfl))) (ty := (.object "com/example/wee_forge/weeforge/model/SortDirection")) (by decide)
        have F_starredOnly_b80 : Fld Z h80 b80 "com/example/wee_forge/weeforge/model/ProjectFilter" "starredOnly" "Z" (.int (0 : Int32)) := D80 (Or.inl (hw _ (List.mem_of_getElem? (i := 89) rfl))) (ty := .boolean) (by decide)
        obtain ⟨_, _, ⟨T81, L81, k81, n81⟩, -, X81, ⟨Lc81, hQ81, l81, y81, z81⟩, st81⟩ := X80.specialBack hx (y := (⟨"com/example/wee_forge/weeforge/model/ProjectFilter", "<init>", "()V"⟩ : MethodName)) rfl hown (mvT hZ (hw _ (List.mem_of_getElem? (i := 13) rfl))) (mvT hZ (hw _ (List.mem_of_getElem? (i := 14) rfl))) (mvT hZ (hw _ (List.mem_of_getElem? (i := 15) rfl))) (by decide) (backOf (W := 1) (rmC l Z a0 hw [] b80 w_ANY w_CREATED_AT w_DESC wEL wOL h80 n0 (Nat.le_trans Z0 E80.1) A80 F_searchTerms_b80 F_topics_b80 F_lastActivity_b80 F_updated_b80 F_idAfter_b80 F_idBefore_b80 F_orderBy_b80 F_sort_b80 F_starredOnly_b80 g_b80 (Sta.ext E80 S_ANY) (Sta.ext E80 S_CREATED_AT) (Sta.ext E80 S_DESC) (Sta.ext E80 S_EL) (Sta.ext E80 S_OL)) hZ (hw _ (List.mem_of_getElem? (i := 15) rfl)) (hw _ (List.mem_of_getElem? (i := 12) rfl)) (by decide) (by decide)) (g := (mkF m 66 #[.val (.int p1), .val (.int p2), .val (.int p3), .val (.ref rkx), .val (.ref rky), .val (.int (1 : Int32)), .val (.int (0 : Int32)), .val (.int (1 : Int32)), .unset, .unset] [(.ref b80), (.ref b80)])) rfl (by rw [hml]; rfl) (Steps.refl _) (a := b80) (argsL := []) (rest := [(.ref b80)]) (lenOf pd_rm0_1 rfl) rfl (by show 2 * 0 + _ ≤ _; exact Nat.le_of_eq rfl) (hb hby at_66) (fun _ _ => ⟨rfl, e80, (by decide : 1 + 0 ≤ _), (by decide : 12 + 0 ≤ _)⟩)
        dsimp only [Pt.U, Pt.locs, Pt.cells, Pt.slots] at X81 l81 y81 z81 st81 hQ81
        subst l81 y81 z81
        obtain ⟨rfl, N81q, K81, Ei81, Fs81, Fo81, Fb81⟩ := hQ81
        have N81 := Fr.app N4 N81q
        obtain ⟨cq82, kq82, q82a, q82b, q82c⟩ := isOf hZ rfl Ei81
        obtain ⟨_, _, ⟨T82, L82, k82, n82⟩, -, X82, ⟨Lc82, hQ82, l82, y82, z82⟩, st82⟩ := X81.virtualBack hx (y := (⟨"com/example/wee_forge/weeforge/model/ProjectFilter", "orderBy", "()Lcom/example/wee_forge/weeforge/model/ProjectOrder;"⟩ : MethodName)) (z := (⟨"com/example/wee_forge/weeforge/model/ProjectFilter", "orderBy", "()Lcom/example/wee_forge/weeforge/model/ProjectOrder;"⟩ : MethodName)) hown (mvT hZ (hw _ (List.mem_of_getElem? (i := 53) rfl))) (mvT hZ (hw _ (List.mem_of_getElem? (i := 54) rfl))) (notFace_of_selects (args := #[]) (mvT hZ (hw _ (List.mem_of_getElem? (i := 56) rfl)))) (mvT hZ (hw _ (List.mem_of_getElem? (i := 56) rfl))) (mvT hZ (hw _ (List.mem_of_getElem? (i := 55) rfl))) (by decide) (backOf (W := 0) (rmg_orderBy l Z a0 hw [] b80 w_CREATED_AT T81.heap n0 (Nat.le_trans (Nat.le_trans Z0 E80.1) K81.1) Fo81) hZ (hw _ (List.mem_of_getElem? (i := 57) rfl)) (hw _ (List.mem_of_getElem? (i := 12) rfl)) (by decide) (by decide)) q82a q82c (g := (mkF m 73 #[.val (.int p1), .val (.int p2), .val (.int p3), .val (.ref rkx), .val (.ref rky), .val (.int (1 : Int32)), .val (.int (0 : Int32)), .val (.int (1 : Int32)), .val (.ref b80), .unset] [(.ref b80)])) rfl (by rw [hml]; rfl) (Steps.refl _) (argsL := []) (rest := []) (lenOf pd_rm0_2 rfl) rfl (by show 2 * 0 + _ ≤ _; exact Nat.le_of_eq rfl) (hb hby at_73) (fun _ _ => ⟨rfl, rfl, (by decide : 1 + 0 ≤ _), (by decide : 12 + 0 ≤ _)⟩)
        dsimp only [Pt.U, Pt.locs, Pt.cells, Pt.slots] at X82 l82 y82 z82 st82 hQ82
        subst l82 y82 z82
        obtain ⟨rfl, N82q, hE82⟩ := hQ82
        have N82 := Fr.app N81 N82q
        obtain ⟨T83, X83, e83, st83⟩ := getS2 X82 hx hZ hown (host := "") (Or.inl (hw _ (List.mem_of_getElem? (i := 8) rfl))) Via.refl hE82 (own_staK (Sta.ext E80 S_CREATED_AT) K81 (allS ⟨_, A80⟩ all0)) (g := (mkF m 76 #[.val (.int p1), .val (.int p2), .val (.int p3), .val (.ref rkx), .val (.ref rky), .val (.int (1 : Int32)), .val (.int (0 : Int32)), .val (.int (1 : Int32)), .val (.ref b80), .unset] [(.ref w_CREATED_AT)])) rfl (hb hby at_76)
        obtain ⟨T84, X84, e84, st84⟩ := getS2 X83 hx hZ hown (host := "") (Or.inl (hw _ (List.mem_of_getElem? (i := 92) rfl))) Via.refl e83 (own_staK (Sta.ext E80 S_ASC) K81 (allS ⟨_, A80⟩ all0)) (g := (mkF m 91 #[.val (.int p1), .val (.int p2), .val (.int p3), .val (.ref rkx), .val (.ref rky), .val (.int (1 : Int32)), .val (.int (0 : Int32)), .val (.int (1 : Int32)), .val (.ref b80), .unset] [(.ref b80)])) rfl (hb hby at_91)
        obtain ⟨cq85, kq85, q85a, q85b, q85c⟩ := isOf hZ e84 Ei81
        obtain ⟨_, _, ⟨T85, L85, k85, n85⟩, -, X85, hSb85, hgr85, ⟨Lc85, hQ85, l85, y85, z85⟩, st85⟩ := X84.virtualBackS hx (y := (⟨"com/example/wee_forge/weeforge/model/ProjectFilter", "sort", "(Lcom/example/wee_forge/weeforge/model/SortDirection;)Lcom/example/wee_forge/weeforge/model/ProjectFilter;"⟩ : MethodName)) (z := (⟨"com/example/wee_forge/weeforge/model/ProjectFilter", "sort", "(Lcom/example/wee_forge/weeforge/model/SortDirection;)Lcom/example/wee_forge/weeforge/model/ProjectFilter;"⟩ : MethodName)) hown (mvT hZ (hw _ (List.mem_of_getElem? (i := 94) rfl))) (mvT hZ (hw _ (List.mem_of_getElem? (i := 95) rfl))) (notFace_of_selects (args := #[]) (mvT hZ (hw _ (List.mem_of_getElem? (i := 97) rfl)))) (mvT hZ (hw _ (List.mem_of_getElem? (i := 97) rfl))) (mvT hZ (hw _ (List.mem_of_getElem? (i := 96) rfl))) (by decide) (backOfS (W := 0) (rm_sort l Z a0 hw [] b80 w_ASC w_DESC w_CREATED_AT (0 : Int32) T81.heap n0 (Nat.le_trans (Nat.le_trans Z0 E80.1) K81.1) Ei81 Fs81 Fo81 Fb81 g_b80 ((Exa.ext E80 E_ASC).keep K81)) hZ (hw _ (List.mem_of_getElem? (i := 98) rfl)) (hw _ (List.mem_of_getElem? (i := 12) rfl)) (by decide) (by decide)) q85a q85c (g := (mkF m 94 #[.val (.int p1), .val (.int p2), .val (.int p3), .val (.ref rkx), .val (.ref rky), .val (.int (1 : Int32)), .val (.int (0 : Int32)), .val (.int (1 : Int32)), .val (.ref b80), .unset] [(.ref w_ASC), (.ref b80)])) rfl (by rw [hml]; rfl) (Steps.refl _) (argsL := [(.ref w_ASC)]) (rest := []) (lenOf pd_rm0_7 rfl) rfl (by show 2 * 0 + _ ≤ _; exact Nat.le_of_eq rfl) (hb hby at_94) (fun _ _ => ⟨rfl, e84, (by decide : 1 + 2 ≤ _), (by decide : 12 + 20 ≤ _)⟩)
        dsimp only [Pt.U, Pt.locs, Pt.cells, Pt.slots] at X85 l85 y85 z85 st85 hQ85 hSb85 hgr85
        subst l85 y85 z85
        obtain ⟨X85, hS, hZ, hown⟩ := rebS hS (by rw [e84]; exact (Nat.le_trans (Nat.le_trans hk E80.1) K81.1)) X85 hSb85 hgr85 hZ hown
        obtain ⟨rfl, N85q, K85, Ei85, Fs85, Fo85, Fb85⟩ := hQ85
        have N85 := Fr.app N82 N85q
        obtain ⟨cq86, kq86, q86a, q86b, q86c⟩ := isOf hZ rfl Ei85
        obtain ⟨_, _, ⟨T86, L86, k86, n86⟩, -, X86, ⟨Lc86, hQ86, l86, y86, z86⟩, st86⟩ := X85.virtualBack hx (y := (⟨"com/example/wee_forge/weeforge/model/ProjectFilter", "starredOnly", "(Z)Lcom/example/wee_forge/weeforge/model/ProjectFilter;"⟩ : MethodName)) (z := (⟨"com/example/wee_forge/weeforge/model/ProjectFilter", "starredOnly", "(Z)Lcom/example/wee_forge/weeforge/model/ProjectFilter;"⟩ : MethodName)) hown (mvT hZ (hw _ (List.mem_of_getElem? (i := 104) rfl))) (mvT hZ (hw _ (List.mem_of_getElem? (i := 105) rfl))) (notFace_of_selects (args := #[]) (mvT hZ (hw _ (List.mem_of_getElem? (i := 107) rfl)))) (mvT hZ (hw _ (List.mem_of_getElem? (i := 107) rfl))) (mvT hZ (hw _ (List.mem_of_getElem? (i := 106) rfl))) (by decide) (backOf (W := 0) (rm_star l Z a0 hw [] b80 w_ASC w_CREATED_AT (0 : Int32) T85.heap n0 (Nat.le_trans (Nat.le_trans (Nat.le_trans Z0 E80.1) K81.1) K85.1) Ei85 Fs85 Fo85 Fb85 g_b80) hZ (hw _ (List.mem_of_getElem? (i := 108) rfl)) (hw _ (List.mem_of_getElem? (i := 12) rfl)) (by decide) (by decide)) q86a q86c (g := (mkF m 106 #[.val (.int p1), .val (.int p2), .val (.int p3), .val (.ref rkx), .val (.ref rky), .val (.int (1 : Int32)), .val (.int (0 : Int32)), .val (.int (1 : Int32)), .val (.ref b80), .unset] [(.int (1 : Int32)), (.ref b80)])) rfl (by rw [hml]; rfl) (Steps.refl _) (argsL := [(.int (1 : Int32))]) (rest := []) (lenOf pd_rm0_6 rfl) rfl (by show 2 * 0 + _ ≤ _; exact Nat.le_of_eq rfl) (hb hby at_106) (fun _ _ => ⟨rfl, rfl, (by decide : 3 + 0 ≤ _), (by decide : 32 + 0 ≤ _)⟩)
        dsimp only [Pt.U, Pt.locs, Pt.cells, Pt.slots] at X86 l86 y86 z86 st86 hQ86
        subst l86 y86 z86
        obtain ⟨rfl, N86q, K86, Ei86, Fs86, Fo86, Fb86⟩ := hQ86
        have N86 := Fr.app N85 N86q
        obtain ⟨T87, X87, e87, st87⟩ := getS2 X86 hx hZ hown (host := "") (Or.inl (hw _ (List.mem_of_getElem? (i := 92) rfl))) Via.refl rfl (own_staK (own_staK (own_staK (Sta.ext E80 S_ASC) K81 (allS ⟨_, A80⟩ all0)) K85 (allS ⟨_, Ei81⟩ all0)) K86 (allS ⟨_, Ei85⟩ all0)) (g := (mkF m 115 #[.val (.int p1), .val (.int p2), .val (.int p3), .val (.ref rkx), .val (.ref rky), .val (.int (1 : Int32)), .val (.int (0 : Int32)), .val (.int (1 : Int32)), .val (.ref b80), .unset] [])) rfl (hb hby at_115)
        obtain ⟨cq88, kq88, q88a, q88b, q88c⟩ := isOf hZ e87 Ei86
        obtain ⟨_, _, ⟨T88, L88, k88, n88⟩, -, X88, hSb88, hgr88, ⟨Lc88, hQ88, l88, y88, z88⟩, st88⟩ := X87.virtualBackS hx (y := (⟨"com/example/wee_forge/weeforge/model/ProjectFilter", "orderBy", "(Lcom/example/wee_forge/weeforge/model/ProjectOrder;)Lcom/example/wee_forge/weeforge/model/ProjectFilter;"⟩ : MethodName)) (z := (⟨"com/example/wee_forge/weeforge/model/ProjectFilter", "orderBy", "(Lcom/example/wee_forge/weeforge/model/ProjectOrder;)Lcom/example/wee_forge/weeforge/model/ProjectFilter;"⟩ : MethodName)) hown (mvT hZ (hw _ (List.mem_of_getElem? (i := 59) rfl))) (mvT hZ (hw _ (List.mem_of_getElem? (i := 60) rfl))) (notFace_of_selects (args := #[]) (mvT hZ (hw _ (List.mem_of_getElem? (i := 62) rfl)))) (mvT hZ (hw _ (List.mem_of_getElem? (i := 62) rfl))) (mvT hZ (hw _ (List.mem_of_getElem? (i := 61) rfl))) (by decide) (backOfS (W := 0) (rm_orderBy l Z a0 hw [] b80 rkx w_ASC w_CREATED_AT (1 : Int32) T86.heap n0 (Nat.le_trans (Nat.le_trans (Nat.le_trans (Nat.le_trans Z0 E80.1) K81.1) K85.1) K86.1) Ei86 Fs86 Fo86 Fb86 g_b80 ((((Exa.ext E80 E_rkx).keep K81).keep K85).keep K86)) hZ (hw _ (List.mem_of_getElem? (i := 63) rfl)) (hw _ (List.mem_of_getElem? (i := 12) rfl)) (by decide) (by decide)) q88a q88c (g := (mkF m 129 #[.val (.int p1), .val (.int p2), .val (.int p3), .val (.ref rkx), .val (.ref rky), .val (.int (1 : Int32)), .val (.int (0 : Int32)), .val (.int (1 : Int32)), .val (.ref b80), .val (.ref w_ASC)] [(.ref rkx), (.ref b80)])) rfl (by rw [hml]; rfl) (Steps.refl _) (argsL := [(.ref rkx)]) (rest := []) (lenOf pd_rm0_3 rfl) rfl (by show 2 * 0 + _ ≤ _; exact Nat.le_of_eq rfl) (hb hby at_129) (fun _ _ => ⟨rfl, e87, (by decide : 3 + 2 ≤ _), (by decide : 32 + 32 ≤ _)⟩)
        dsimp only [Pt.U, Pt.locs, Pt.cells, Pt.slots] at X88 l88 y88 z88 st88 hQ88 hSb88 hgr88
        subst l88 y88 z88
        obtain ⟨X88, hS, hZ, hown⟩ := rebS hS (by rw [e87]; exact (Nat.le_trans (Nat.le_refl _) K86.1)) X88 hSb88 hgr88 hZ hown
        obtain ⟨rfl, N88q, K88, Ei88, Fs88, Fo88, Fb88⟩ := hQ88
        have N88 := Fr.app N86 N88q
        obtain ⟨cq89, kq89, q89a, q89b, q89c⟩ := isOf hZ rfl Ei88
        obtain ⟨_, _, ⟨T89, L89, k89, n89⟩, -, X89, ⟨Lc89, hQ89, l89, y89, z89⟩, st89⟩ := X88.virtualBack hx (y := (⟨"com/example/wee_forge/weeforge/model/ProjectFilter", "orderBy", "()Lcom/example/wee_forge/weeforge/model/ProjectOrder;"⟩ : MethodName)) (z := (⟨"com/example/wee_forge/weeforge/model/ProjectFilter", "orderBy", "()Lcom/example/wee_forge/weeforge/model/ProjectOrder;"⟩ : MethodName)) hown (mvT hZ (hw _ (List.mem_of_getElem? (i := 53) rfl))) (mvT hZ (hw _ (List.mem_of_getElem? (i := 54) rfl))) (notFace_of_selects (args := #[]) (mvT hZ (hw _ (List.mem_of_getElem? (i := 56) rfl)))) (mvT hZ (hw _ (List.mem_of_getElem? (i := 56) rfl))) (mvT hZ (hw _ (List.mem_of_getElem? (i := 55) rfl))) (by decide) (backOf (W := 0) (rmg_orderBy l Z a0 hw [] b80 rkx T88.heap n0 (Nat.le_trans (Nat.le_trans (Nat.le_trans (Nat.le_trans (Nat.le_trans Z0 E80.1) K81.1) K85.1) K86.1) K88.1) Fo88) hZ (hw _ (List.mem_of_getElem? (i := 57) rfl)) (hw _ (List.mem_of_getElem? (i := 12) rfl)) (by decide) (by decide)) q89a q89c (g := (mkF m 141 #[.val (.int p1), .val (.int p2), .val (.int p3), .val (.ref rkx), .val (.ref rky), .val (.int (1 : Int32)), .val (.int (0 : Int32)), .val (.int (1 : Int32)), .val (.ref b80), .val (.ref w_ASC)] [(.ref b80)])) rfl (by rw [hml]; rfl) (Steps.refl _) (argsL := []) (rest := []) (lenOf pd_rm0_2 rfl) rfl (by show 2 * 0 + _ ≤ _; exact Nat.le_of_eq rfl) (hb hby at_141) (fun _ _ => ⟨rfl, rfl, (by decide : 5 + 0 ≤ _), (by decide : 64 + 0 ≤ _)⟩)
        dsimp only [Pt.U, Pt.locs, Pt.cells, Pt.slots] at X89 l89 y89 z89 st89 hQ89
        subst l89 y89 z89
        obtain ⟨rfl, N89q, hE89⟩ := hQ89
        have N89 := Fr.app N88 N89q
        obtain ⟨cq90, kq90, q90a, q90b, q90c⟩ := isOf hZ hE89 Ei88
        obtain ⟨_, _, ⟨T90, L90, k90, n90⟩, -, X90, ⟨Lc90, hQ90, l90, y90, z90⟩, st90⟩ := X89.virtualBack hx (y := (⟨"com/example/wee_forge/weeforge/model/ProjectFilter", "sort", "()Lcom/example/wee_forge/weeforge/model/SortDirection;"⟩ : MethodName)) (z := (⟨"com/example/wee_forge/weeforge/model/ProjectFilter", "sort", "()Lcom/example/wee_forge/weeforge/model/SortDirection;"⟩ : MethodName)) hown (mvT hZ (hw _ (List.mem_of_getElem? (i := 78) rfl))) (mvT hZ (hw _ (List.mem_of_getElem? (i := 79) rfl))) (notFace_of_selects (args := #[]) (mvT hZ (hw _ (List.mem_of_getElem? (i := 81) rfl)))) (mvT hZ (hw _ (List.mem_of_getElem? (i := 81) rfl))) (mvT hZ (hw _ (List.mem_of_getElem? (i := 80) rfl))) (by decide) (backOf (W := 0) (rmg_sort l Z a0 hw [] b80 w_ASC T88.heap n0 (Nat.le_trans (Nat.le_trans (Nat.le_trans (Nat.le_trans (Nat.le_trans Z0 E80.1) K81.1) K85.1) K86.1) K88.1) Fs88) hZ (hw _ (List.mem_of_getElem? (i := 82) rfl)) (hw _ (List.mem_of_getElem? (i := 12) rfl)) (by decide) (by decide)) q90a q90c (g := (mkF m 152 #[.val (.int p1), .val (.int p2), .val (.int p3), .val (.ref rkx), .val (.ref rky), .val (.int (1 : Int32)), .val (.int (0 : Int32)), .val (.int (1 : Int32)), .val (.ref b80), .val (.ref w_ASC)] [(.ref b80)])) rfl (by rw [hml]; rfl) (Steps.refl _) (argsL := []) (rest := []) (lenOf pd_rm0_4 rfl) rfl (by show 2 * 0 + _ ≤ _; exact Nat.le_of_eq rfl) (hb hby at_152) (fun _ _ => ⟨rfl, hE89, (by decide : 5 + 0 ≤ _), (by decide : 64 + 0 ≤ _)⟩)
        dsimp only [Pt.U, Pt.locs, Pt.cells, Pt.slots] at X90 l90 y90 z90 st90 hQ90
        subst l90 y90 z90
        obtain ⟨rfl, N90q, hE90⟩ := hQ90
        have N90 := Fr.app N89 N90q
        obtain ⟨cq91, kq91, q91a, q91b, q91c⟩ := isOf hZ hE90 Ei88
        obtain ⟨_, _, ⟨T91, L91, k91, n91⟩, -, X91, ⟨Lc91, hQ91, l91, y91, z91⟩, st91⟩ := X90.virtualBack hx (y := (⟨"com/example/wee_forge/weeforge/model/ProjectFilter", "sort", "()Lcom/example/wee_forge/weeforge/model/SortDirection;"⟩ : MethodName)) (z := (⟨"com/example/wee_forge/weeforge/model/ProjectFilter", "sort", "()Lcom/example/wee_forge/weeforge/model/SortDirection;"⟩ : MethodName)) hown (mvT hZ (hw _ (List.mem_of_getElem? (i := 78) rfl))) (mvT hZ (hw _ (List.mem_of_getElem? (i := 79) rfl))) (notFace_of_selects (args := #[]) (mvT hZ (hw _ (List.mem_of_getElem? (i := 81) rfl)))) (mvT hZ (hw _ (List.mem_of_getElem? (i := 81) rfl))) (mvT hZ (hw _ (List.mem_of_getElem? (i := 80) rfl))) (by decide) (backOf (W := 0) (rmg_sort l Z a0 hw [] b80 w_ASC T88.heap n0 (Nat.le_trans (Nat.le_trans (Nat.le_trans (Nat.le_trans (Nat.le_trans Z0 E80.1) K81.1) K85.1) K86.1) K88.1) Fs88) hZ (hw _ (List.mem_of_getElem? (i := 82) rfl)) (hw _ (List.mem_of_getElem? (i := 12) rfl)) (by decide) (by decide)) q91a q91c (g := (mkF m 195 #[.val (.int p1), .val (.int p2), .val (.int p3), .val (.ref rkx), .val (.ref rky), .val (.int (1 : Int32)), .val (.int (0 : Int32)), .val (.int (1 : Int32)), .val (.ref b80), .val (.ref w_ASC)] [(.ref b80)])) rfl (by rw [hml]; rfl) (Steps.refl _) (argsL := []) (rest := []) (lenOf pd_rm0_4 rfl) rfl (by show 2 * 0 + _ ≤ _; exact Nat.le_of_eq rfl) (hb hby at_195) (fun _ _ => ⟨rfl, hE90, (by decide : 5 + 0 ≤ _), (by decide : 64 + 0 ≤ _)⟩)
        dsimp only [Pt.U, Pt.locs, Pt.cells, Pt.slots] at X91 l91 y91 z91 st91 hQ91
        subst l91 y91 z91
        obtain ⟨rfl, N91q, hE91⟩ := hQ91
        have N91 := Fr.app N90 N91q
        obtain ⟨cq92, kq92, q92a, q92b, q92c⟩ := isOf hZ hE91 Ei88
        obtain ⟨_, _, ⟨T92, L92, k92, n92⟩, -, X92, ⟨Lc92, hQ92, l92, y92, z92⟩, st92⟩ := X91.virtualBack hx (y := (⟨"com/example/wee_forge/weeforge/model/ProjectFilter", "starredOnly", "()Z"⟩ : MethodName)) (z := (⟨"com/example/wee_forge/weeforge/model/ProjectFilter", "starredOnly", "()Z"⟩ : MethodName)) hown (mvT hZ (hw _ (List.mem_of_getElem? (i := 83) rfl))) (mvT hZ (hw _ (List.mem_of_getElem? (i := 84) rfl))) (notFace_of_selects (args := #[]) (mvT hZ (hw _ (List.mem_of_getElem? (i := 86) rfl)))) (mvT hZ (hw _ (List.mem_of_getElem? (i := 86) rfl))) (mvT hZ (hw _ (List.mem_of_getElem? (i := 85) rfl))) (by decide) (backOf (W := 0) (rmg_starredOnly l Z a0 hw [] b80 (1 : Int32) T88.heap n0 (Nat.le_trans (Nat.le_trans (Nat.le_trans (Nat.le_trans (Nat.le_trans Z0 E80.1) K81.1) K85.1) K86.1) K88.1) Fb88 (by decide)) hZ (hw _ (List.mem_of_getElem? (i := 87) rfl)) (hw _ (List.mem_of_getElem? (i := 12) rfl)) (by decide) (by decide)) q92a q92c (g := (mkF m 207 #[.val (.int p1), .val (.int p2), .val (.int p3), .val (.ref rkx), .val (.ref rky), .val (.int (1 : Int32)), .val (.int (0 : Int32)), .val (.int (1 : Int32)), .val (.ref b80), .val (.ref w_ASC)] [(.ref b80)])) rfl (by rw [hml]; rfl) (Steps.refl _) (argsL := []) (rest := []) (lenOf pd_rm0_5 rfl) rfl (by show 2 * 0 + _ ≤ _; exact Nat.le_of_eq rfl) (hb hby at_207) (fun _ _ => ⟨rfl, hE91, (by decide : 5 + 0 ≤ _), (by decide : 64 + 0 ≤ _)⟩)
        dsimp only [Pt.U, Pt.locs, Pt.cells, Pt.slots] at X92 l92 y92 z92 st92 hQ92
        subst l92 y92 z92
        obtain ⟨rfl, N92q, hE92⟩ := hQ92
        have N92 := Fr.app N91 N92q
        have pre93 : ∀ tt, Steps p.tables e below (T92.setTop (mkF m 220 #[.val (.int p1), .val (.int p2), .val (.int p3), .val (.ref rkx), .val (.ref rky), .val (.int (1 : Int32)), .val (.int (0 : Int32)), .val (.int (1 : Int32)), .val (.ref b80), .val (.ref w_ASC)] [(.int (1 : Int32))])) tt → Steps p.tables e below (s₁.setTop (entryFrame m #[(.int p1), (.int p2), (.int p3)] maxLocals)) tt := by
          intro tt kt
          refine pre65 tt ?_
          show Steps p.tables e below (T4.setTop (mkF m 52 #[.val (.int p1), .val (.int p2), .val (.int p3), .val (.ref rkx), .val (.ref rky), .val (.int (1 : Int32)), .val (.int (0 : Int32)), .unset, .unset, .unset] [(.int (p3 &&& (4 : Int32)))])) _
          refine XS.ifNo X4.here hx rfl (hb hby at_52) rfl ((if0 _ _).trans (feq c52_66).1) ?_
          show Steps p.tables e below (T4.setTop (mkF m 55 #[.val (.int p1), .val (.int p2), .val (.int p3), .val (.ref rkx), .val (.ref rky), .val (.int (1 : Int32)), .val (.int (0 : Int32)), .unset, .unset, .unset] [])) _
          refine XS.iconst X4.here hx rfl (hb hby at_55) ?_
          show Steps p.tables e below (T4.setTop (mkF m 56 #[.val (.int p1), .val (.int p2), .val (.int p3), .val (.ref rkx), .val (.ref rky), .val (.int (1 : Int32)), .val (.int (0 : Int32)), .unset, .unset, .unset] [(.int (1 : Int32))])) _
          refine XS.goto X4.here hx rfl (pc0 := 56) (pc' := 60) rfl (hb hby at_56) (by decide) (by decide) ?_
          show Steps p.tables e below (T4.setTop (mkF m 60 #[.val (.int p1), .val (.int p2), .val (.int p3), .val (.ref rkx), .val (.ref rky), .val (.int (1 : Int32)), .val (.int (0 : Int32)), .unset, .unset, .unset] [(.int (1 : Int32))])) _
          refine XS.istore X4.here hx rfl (hb hby at_60) rfl (l' := #[.val (.int p1), .val (.int p2), .val (.int p3), .val (.ref rkx), .val (.ref rky), .val (.int (1 : Int32)), .val (.int (0 : Int32)), .val (.int (1 : Int32)), .unset, .unset]) rfl ?_
          show Steps p.tables e below (T4.setTop (mkF m 62 #[.val (.int p1), .val (.int p2), .val (.int p3), .val (.ref rkx), .val (.ref rky), .val (.int (1 : Int32)), .val (.int (0 : Int32)), .val (.int (1 : Int32)), .unset, .unset] [])) _
          refine st80 _ ?_
          show Steps p.tables e below (T80.setTop (mkF m 65 #[.val (.int p1), .val (.int p2), .val (.int p3), .val (.ref rkx), .val (.ref rky), .val (.int (1 : Int32)), .val (.int (0 : Int32)), .val (.int (1 : Int32)), .unset, .unset] [(.ref b80)])) _
          refine XS.dup X80.here hx rfl (hb hby at_65) rfl rfl ?_
          show Steps p.tables e below (T80.setTop (mkF m 66 #[.val (.int p1), .val (.int p2), .val (.int p3), .val (.ref rkx), .val (.ref rky), .val (.int (1 : Int32)), .val (.int (0 : Int32)), .val (.int (1 : Int32)), .unset, .unset] [(.ref b80), (.ref b80)])) _
          refine st81.trans ?_
          show Steps p.tables e below (T81.setTop (mkF m 69 #[.val (.int p1), .val (.int p2), .val (.int p3), .val (.ref rkx), .val (.ref rky), .val (.int (1 : Int32)), .val (.int (0 : Int32)), .val (.int (1 : Int32)), .unset, .unset] [(.ref b80)])) _
          refine XS.astore X81.here hx rfl (hb hby at_69) rfl rfl (l' := #[.val (.int p1), .val (.int p2), .val (.int p3), .val (.ref rkx), .val (.ref rky), .val (.int (1 : Int32)), .val (.int (0 : Int32)), .val (.int (1 : Int32)), .val (.ref b80), .unset]) rfl ?_
          show Steps p.tables e below (T81.setTop (mkF m 71 #[.val (.int p1), .val (.int p2), .val (.int p3), .val (.ref rkx), .val (.ref rky), .val (.int (1 : Int32)), .val (.int (0 : Int32)), .val (.int (1 : Int32)), .val (.ref b80), .unset] [])) _
          refine XS.aload X81.here hx rfl (hb hby at_71) rfl rfl ?_
          show Steps p.tables e below (T81.setTop (mkF m 73 #[.val (.int p1), .val (.int p2), .val (.int p3), .val (.ref rkx), .val (.ref rky), .val (.int (1 : Int32)), .val (.int (0 : Int32)), .val (.int (1 : Int32)), .val (.ref b80), .unset] [(.ref b80)])) _
          refine st82.trans ?_
          show Steps p.tables e below (T82.setTop (mkF m 76 #[.val (.int p1), .val (.int p2), .val (.int p3), .val (.ref rkx), .val (.ref rky), .val (.int (1 : Int32)), .val (.int (0 : Int32)), .val (.int (1 : Int32)), .val (.ref b80), .unset] [(.ref w_CREATED_AT)])) _
          refine st83 _ ?_
          show Steps p.tables e below (T83.setTop (mkF m 79 #[.val (.int p1), .val (.int p2), .val (.int p3), .val (.ref rkx), .val (.ref rky), .val (.int (1 : Int32)), .val (.int (0 : Int32)), .val (.int (1 : Int32)), .val (.ref b80), .unset] [(.ref w_CREATED_AT), (.ref w_CREATED_AT)])) _
          refine Jvm.RoadKit.acmp (g := (mkF m 79 #[.val (.int p1), .val (.int p2), .val (.int p3), .val (.ref rkx), .val (.ref rky), .val (.int (1 : Int32)), .val (.int (0 : Int32)), .val (.int (1 : Int32)), .val (.ref b80), .unset] [(.ref w_CREATED_AT), (.ref w_CREATED_AT)])) X83 hx rfl rfl rfl (pc0 := 79) (pc' := 84) (same := true) rfl (hb hby at_79) rfl (decide_eq_true rfl) (by decide) (by decide) ?_
          show Steps p.tables e below (T83.setTop (mkF m 84 #[.val (.int p1), .val (.int p2), .val (.int p3), .val (.ref rkx), .val (.ref rky), .val (.int (1 : Int32)), .val (.int (0 : Int32)), .val (.int (1 : Int32)), .val (.ref b80), .unset] [])) _
          refine XS.iload X83.here hx rfl (hb hby at_84) rfl ?_
          show Steps p.tables e below (T83.setTop (mkF m 86 #[.val (.int p1), .val (.int p2), .val (.int p3), .val (.ref rkx), .val (.ref rky), .val (.int (1 : Int32)), .val (.int (0 : Int32)), .val (.int (1 : Int32)), .val (.ref b80), .unset] [(.int (1 : Int32))])) _
          refine XS.ifNo X83.here hx rfl (hb hby at_86) rfl ((if0 _ _).trans (feq (by decide : ¬ ((1 : Int32) = (0 : Int32)))).1) ?_
          show Steps p.tables e below (T83.setTop (mkF m 89 #[.val (.int p1), .val (.int p2), .val (.int p3), .val (.ref rkx), .val (.ref rky), .val (.int (1 : Int32)), .val (.int (0 : Int32)), .val (.int (1 : Int32)), .val (.ref b80), .unset] [])) _
          refine XS.aload X83.here hx rfl (hb hby at_89) rfl rfl ?_
          show Steps p.tables e below (T83.setTop (mkF m 91 #[.val (.int p1), .val (.int p2), .val (.int p3), .val (.ref rkx), .val (.ref rky), .val (.int (1 : Int32)), .val (.int (0 : Int32)), .val (.int (1 : Int32)), .val (.ref b80), .unset] [(.ref b80)])) _
          refine st84 _ ?_
          show Steps p.tables e below (T84.setTop (mkF m 94 #[.val (.int p1), .val (.int p2), .val (.int p3), .val (.ref rkx), .val (.ref rky), .val (.int (1 : Int32)), .val (.int (0 : Int32)), .val (.int (1 : Int32)), .val (.ref b80), .unset] [(.ref w_ASC), (.ref b80)])) _
          refine st85.trans ?_
          show Steps p.tables e below (T85.setTop (mkF m 97 #[.val (.int p1), .val (.int p2), .val (.int p3), .val (.ref rkx), .val (.ref rky), .val (.int (1 : Int32)), .val (.int (0 : Int32)), .val (.int (1 : Int32)), .val (.ref b80), .unset] [(.ref b80)])) _
          refine XS.pop X85.here hx rfl (hb hby at_97) rfl rfl ?_
          show Steps p.tables e below (T85.setTop (mkF m 98 #[.val (.int p1), .val (.int p2), .val (.int p3), .val (.ref rkx), .val (.ref rky), .val (.int (1 : Int32)), .val (.int (0 : Int32)), .val (.int (1 : Int32)), .val (.ref b80), .unset] [])) _
          refine XS.iload X85.here hx rfl (hb hby at_98) rfl ?_
          show Steps p.tables e below (T85.setTop (mkF m 100 #[.val (.int p1), .val (.int p2), .val (.int p3), .val (.ref rkx), .val (.ref rky), .val (.int (1 : Int32)), .val (.int (0 : Int32)), .val (.int (1 : Int32)), .val (.ref b80), .unset] [(.int (1 : Int32))])) _
          refine XS.ifNo X85.here hx rfl (hb hby at_100) rfl ((if0 _ _).trans (feq (by decide : ¬ ((1 : Int32) = (0 : Int32)))).1) ?_
          show Steps p.tables e below (T85.setTop (mkF m 103 #[.val (.int p1), .val (.int p2), .val (.int p3), .val (.ref rkx), .val (.ref rky), .val (.int (1 : Int32)), .val (.int (0 : Int32)), .val (.int (1 : Int32)), .val (.ref b80), .unset] [])) _
          refine XS.aload X85.here hx rfl (hb hby at_103) rfl rfl ?_
          show Steps p.tables e below (T85.setTop (mkF m 105 #[.val (.int p1), .val (.int p2), .val (.int p3), .val (.ref rkx), .val (.ref rky), .val (.int (1 : Int32)), .val (.int (0 : Int32)), .val (.int (1 : Int32)), .val (.ref b80), .unset] [(.ref b80)])) _
          refine XS.iconst X85.here hx rfl (hb hby at_105) ?_
          show Steps p.tables e below (T85.setTop (mkF m 106 #[.val (.int p1), .val (.int p2), .val (.int p3), .val (.ref rkx), .val (.ref rky), .val (.int (1 : Int32)), .val (.int (0 : Int32)), .val (.int (1 : Int32)), .val (.ref b80), .unset] [(.int (1 : Int32)), (.ref b80)])) _
          refine st86.trans ?_
          show Steps p.tables e below (T86.setTop (mkF m 109 #[.val (.int p1), .val (.int p2), .val (.int p3), .val (.ref rkx), .val (.ref rky), .val (.int (1 : Int32)), .val (.int (0 : Int32)), .val (.int (1 : Int32)), .val (.ref b80), .unset] [(.ref b80)])) _
          refine XS.pop X86.here hx rfl (hb hby at_109) rfl rfl ?_
          show Steps p.tables e below (T86.setTop (mkF m 110 #[.val (.int p1), .val (.int p2), .val (.int p3), .val (.ref rkx), .val (.ref rky), .val (.int (1 : Int32)), .val (.int (0 : Int32)), .val (.int (1 : Int32)), .val (.ref b80), .unset] [])) _
          refine XS.iload X86.here hx rfl (hb hby at_110) rfl ?_
          show Steps p.tables e below (T86.setTop (mkF m 112 #[.val (.int p1), .val (.int p2), .val (.int p3), .val (.ref rkx), .val (.ref rky), .val (.int (1 : Int32)), .val (.int (0 : Int32)), .val (.int (1 : Int32)), .val (.ref b80), .unset] [(.int (1 : Int32))])) _
          refine XS.ifNo X86.here hx rfl (hb hby at_112) rfl ((if0 _ _).trans (feq (by decide : ¬ ((1 : Int32) = (0 : Int32)))).1) ?_
          show Steps p.tables e below (T86.setTop (mkF m 115 #[.val (.int p1), .val (.int p2), .val (.int p3), .val (.ref rkx), .val (.ref rky), .val (.int (1 : Int32)), .val (.int (0 : Int32)), .val (.int (1 : Int32)), .val (.ref b80), .unset] [])) _
          refine st87 _ ?_
          show Steps p.tables e below (T87.setTop (mkF m 118 #[.val (.int p1), .val (.int p2), .val (.int p3), .val (.ref rkx), .val (.ref rky), .val (.int (1 : Int32)), .val (.int (0 : Int32)), .val (.int (1 : Int32)), .val (.ref b80), .unset] [(.ref w_ASC)])) _
          refine XS.goto X87.here hx rfl (pc0 := 118) (pc' := 124) rfl (hb hby at_118) (by decide) (by decide) ?_
          show Steps p.tables e below (T87.setTop (mkF m 124 #[.val (.int p1), .val (.int p2), .val (.int p3), .val (.ref rkx), .val (.ref rky), .val (.int (1 : Int32)), .val (.int (0 : Int32)), .val (.int (1 : Int32)), .val (.ref b80), .unset] [(.ref w_ASC)])) _
          refine XS.astore X87.here hx rfl (hb hby at_124) rfl rfl (l' := #[.val (.int p1), .val (.int p2), .val (.int p3), .val (.ref rkx), .val (.ref rky), .val (.int (1 : Int32)), .val (.int (0 : Int32)), .val (.int (1 : Int32)), .val (.ref b80), .val (.ref w_ASC)]) rfl ?_
          show Steps p.tables e below (T87.setTop (mkF m 126 #[.val (.int p1), .val (.int p2), .val (.int p3), .val (.ref rkx), .val (.ref rky), .val (.int (1 : Int32)), .val (.int (0 : Int32)), .val (.int (1 : Int32)), .val (.ref b80), .val (.ref w_ASC)] [])) _
          refine XS.aload X87.here hx rfl (hb hby at_126) rfl rfl ?_
          show Steps p.tables e below (T87.setTop (mkF m 128 #[.val (.int p1), .val (.int p2), .val (.int p3), .val (.ref rkx), .val (.ref rky), .val (.int (1 : Int32)), .val (.int (0 : Int32)), .val (.int (1 : Int32)), .val (.ref b80), .val (.ref w_ASC)] [(.ref b80)])) _
          refine XS.aloadN X87.here hx rfl (hb hby at_128) rfl rfl ?_
          show Steps p.tables e below (T87.setTop (mkF m 129 #[.val (.int p1), .val (.int p2), .val (.int p3), .val (.ref rkx), .val (.ref rky), .val (.int (1 : Int32)), .val (.int (0 : Int32)), .val (.int (1 : Int32)), .val (.ref b80), .val (.ref w_ASC)] [(.ref rkx), (.ref b80)])) _
          refine st88.trans ?_
          show Steps p.tables e below (T88.setTop (mkF m 132 #[.val (.int p1), .val (.int p2), .val (.int p3), .val (.ref rkx), .val (.ref rky), .val (.int (1 : Int32)), .val (.int (0 : Int32)), .val (.int (1 : Int32)), .val (.ref b80), .val (.ref w_ASC)] [(.ref b80)])) _
          refine XS.aload X88.here hx rfl (hb hby at_132) rfl rfl ?_
          show Steps p.tables e below (T88.setTop (mkF m 134 #[.val (.int p1), .val (.int p2), .val (.int p3), .val (.ref rkx), .val (.ref rky), .val (.int (1 : Int32)), .val (.int (0 : Int32)), .val (.int (1 : Int32)), .val (.ref b80), .val (.ref w_ASC)] [(.ref b80), (.ref b80)])) _
          refine Jvm.RoadKit.acmp (g := (mkF m 134 #[.val (.int p1), .val (.int p2), .val (.int p3), .val (.ref rkx), .val (.ref rky), .val (.int (1 : Int32)), .val (.int (0 : Int32)), .val (.int (1 : Int32)), .val (.ref b80), .val (.ref w_ASC)] [(.ref b80), (.ref b80)])) X88 hx rfl rfl rfl (pc0 := 134) (pc' := 139) (same := true) rfl (hb hby at_134) rfl (decide_eq_true rfl) (by decide) (by decide) ?_
          show Steps p.tables e below (T88.setTop (mkF m 139 #[.val (.int p1), .val (.int p2), .val (.int p3), .val (.ref rkx), .val (.ref rky), .val (.int (1 : Int32)), .val (.int (0 : Int32)), .val (.int (1 : Int32)), .val (.ref b80), .val (.ref w_ASC)] [])) _
          refine XS.aload X88.here hx rfl (hb hby at_139) rfl rfl ?_
          show Steps p.tables e below (T88.setTop (mkF m 141 #[.val (.int p1), .val (.int p2), .val (.int p3), .val (.ref rkx), .val (.ref rky), .val (.int (1 : Int32)), .val (.int (0 : Int32)), .val (.int (1 : Int32)), .val (.ref b80), .val (.ref w_ASC)] [(.ref b80)])) _
          refine st89.trans ?_
          show Steps p.tables e below (T89.setTop (mkF m 144 #[.val (.int p1), .val (.int p2), .val (.int p3), .val (.ref rkx), .val (.ref rky), .val (.int (1 : Int32)), .val (.int (0 : Int32)), .val (.int (1 : Int32)), .val (.ref b80), .val (.ref w_ASC)] [(.ref rkx)])) _
          refine XS.aloadN X89.here hx rfl (hb hby at_144) rfl rfl ?_
          show Steps p.tables e below (T89.setTop (mkF m 145 #[.val (.int p1), .val (.int p2), .val (.int p3), .val (.ref rkx), .val (.ref rky), .val (.int (1 : Int32)), .val (.int (0 : Int32)), .val (.int (1 : Int32)), .val (.ref b80), .val (.ref w_ASC)] [(.ref rkx), (.ref rkx)])) _
          refine Jvm.RoadKit.acmp (g := (mkF m 145 #[.val (.int p1), .val (.int p2), .val (.int p3), .val (.ref rkx), .val (.ref rky), .val (.int (1 : Int32)), .val (.int (0 : Int32)), .val (.int (1 : Int32)), .val (.ref b80), .val (.ref w_ASC)] [(.ref rkx), (.ref rkx)])) X89 hx rfl rfl rfl (pc0 := 145) (pc' := 150) (same := true) rfl (hb hby at_145) rfl (decide_eq_true rfl) (by decide) (by decide) ?_
          show Steps p.tables e below (T89.setTop (mkF m 150 #[.val (.int p1), .val (.int p2), .val (.int p3), .val (.ref rkx), .val (.ref rky), .val (.int (1 : Int32)), .val (.int (0 : Int32)), .val (.int (1 : Int32)), .val (.ref b80), .val (.ref w_ASC)] [])) _
          refine XS.aload X89.here hx rfl (hb hby at_150) rfl rfl ?_
          show Steps p.tables e below (T89.setTop (mkF m 152 #[.val (.int p1), .val (.int p2), .val (.int p3), .val (.ref rkx), .val (.ref rky), .val (.int (1 : Int32)), .val (.int (0 : Int32)), .val (.int (1 : Int32)), .val (.ref b80), .val (.ref w_ASC)] [(.ref b80)])) _
          refine st90.trans ?_
          show Steps p.tables e below (T90.setTop (mkF m 155 #[.val (.int p1), .val (.int p2), .val (.int p3), .val (.ref rkx), .val (.ref rky), .val (.int (1 : Int32)), .val (.int (0 : Int32)), .val (.int (1 : Int32)), .val (.ref b80), .val (.ref w_ASC)] [(.ref w_ASC)])) _
          refine XS.aload X90.here hx rfl (hb hby at_155) rfl rfl ?_
          show Steps p.tables e below (T90.setTop (mkF m 157 #[.val (.int p1), .val (.int p2), .val (.int p3), .val (.ref rkx), .val (.ref rky), .val (.int (1 : Int32)), .val (.int (0 : Int32)), .val (.int (1 : Int32)), .val (.ref b80), .val (.ref w_ASC)] [(.ref w_ASC), (.ref w_ASC)])) _
          refine Jvm.RoadKit.acmp (g := (mkF m 157 #[.val (.int p1), .val (.int p2), .val (.int p3), .val (.ref rkx), .val (.ref rky), .val (.int (1 : Int32)), .val (.int (0 : Int32)), .val (.int (1 : Int32)), .val (.ref b80), .val (.ref w_ASC)] [(.ref w_ASC), (.ref w_ASC)])) X90 hx rfl rfl rfl (pc0 := 157) (pc' := 162) (same := true) rfl (hb hby at_157) rfl (decide_eq_true rfl) (by decide) (by decide) ?_
          show Steps p.tables e below (T90.setTop (mkF m 162 #[.val (.int p1), .val (.int p2), .val (.int p3), .val (.ref rkx), .val (.ref rky), .val (.int (1 : Int32)), .val (.int (0 : Int32)), .val (.int (1 : Int32)), .val (.ref b80), .val (.ref w_ASC)] [])) _
          refine XS.iload X90.here hx rfl (hb hby at_162) rfl ?_
          show Steps p.tables e below (T90.setTop (mkF m 164 #[.val (.int p1), .val (.int p2), .val (.int p3), .val (.ref rkx), .val (.ref rky), .val (.int (1 : Int32)), .val (.int (0 : Int32)), .val (.int (1 : Int32)), .val (.ref b80), .val (.ref w_ASC)] [(.int (0 : Int32))])) _
          refine XS.ifYes X90.here hx rfl (pc0 := 164) (pc' := 193) rfl (hb hby at_164) rfl ((if0 _ _).trans (teq (rfl : (0 : Int32) = (0 : Int32))).1) (by decide) (by decide) ?_
          show Steps p.tables e below (T90.setTop (mkF m 193 #[.val (.int p1), .val (.int p2), .val (.int p3), .val (.ref rkx), .val (.ref rky), .val (.int (1 : Int32)), .val (.int (0 : Int32)), .val (.int (1 : Int32)), .val (.ref b80), .val (.ref w_ASC)] [])) _
          refine XS.aload X90.here hx rfl (hb hby at_193) rfl rfl ?_
          show Steps p.tables e below (T90.setTop (mkF m 195 #[.val (.int p1), .val (.int p2), .val (.int p3), .val (.ref rkx), .val (.ref rky), .val (.int (1 : Int32)), .val (.int (0 : Int32)), .val (.int (1 : Int32)), .val (.ref b80), .val (.ref w_ASC)] [(.ref b80)])) _
          refine st91.trans ?_
          show Steps p.tables e below (T91.setTop (mkF m 198 #[.val (.int p1), .val (.int p2), .val (.int p3), .val (.ref rkx), .val (.ref rky), .val (.int (1 : Int32)), .val (.int (0 : Int32)), .val (.int (1 : Int32)), .val (.ref b80), .val (.ref w_ASC)] [(.ref w_ASC)])) _
          refine XS.aload X91.here hx rfl (hb hby at_198) rfl rfl ?_
          show Steps p.tables e below (T91.setTop (mkF m 200 #[.val (.int p1), .val (.int p2), .val (.int p3), .val (.ref rkx), .val (.ref rky), .val (.int (1 : Int32)), .val (.int (0 : Int32)), .val (.int (1 : Int32)), .val (.ref b80), .val (.ref w_ASC)] [(.ref w_ASC), (.ref w_ASC)])) _
          refine Jvm.RoadKit.acmp (g := (mkF m 200 #[.val (.int p1), .val (.int p2), .val (.int p3), .val (.ref rkx), .val (.ref rky), .val (.int (1 : Int32)), .val (.int (0 : Int32)), .val (.int (1 : Int32)), .val (.ref b80), .val (.ref w_ASC)] [(.ref w_ASC), (.ref w_ASC)])) X91 hx rfl rfl rfl (pc0 := 200) (pc' := 205) (same := true) rfl (hb hby at_200) rfl (decide_eq_true rfl) (by decide) (by decide) ?_
          show Steps p.tables e below (T91.setTop (mkF m 205 #[.val (.int p1), .val (.int p2), .val (.int p3), .val (.ref rkx), .val (.ref rky), .val (.int (1 : Int32)), .val (.int (0 : Int32)), .val (.int (1 : Int32)), .val (.ref b80), .val (.ref w_ASC)] [])) _
          refine XS.aload X91.here hx rfl (hb hby at_205) rfl rfl ?_
          show Steps p.tables e below (T91.setTop (mkF m 207 #[.val (.int p1), .val (.int p2), .val (.int p3), .val (.ref rkx), .val (.ref rky), .val (.int (1 : Int32)), .val (.int (0 : Int32)), .val (.int (1 : Int32)), .val (.ref b80), .val (.ref w_ASC)] [(.ref b80)])) _
          refine st92.trans ?_
          show Steps p.tables e below (T92.setTop (mkF m 210 #[.val (.int p1), .val (.int p2), .val (.int p3), .val (.ref rkx), .val (.ref rky), .val (.int (1 : Int32)), .val (.int (0 : Int32)), .val (.int (1 : Int32)), .val (.ref b80), .val (.ref w_ASC)] [(.int (1 : Int32))])) _
          refine XS.iload X92.here hx rfl (hb hby at_210) rfl ?_
          show Steps p.tables e below (T92.setTop (mkF m 212 #[.val (.int p1), .val (.int p2), .val (.int p3), .val (.ref rkx), .val (.ref rky), .val (.int (1 : Int32)), .val (.int (0 : Int32)), .val (.int (1 : Int32)), .val (.ref b80), .val (.ref w_ASC)] [(.int (1 : Int32)), (.int (1 : Int32))])) _
          refine XS.icmpNo X92.here hx rfl (hb hby at_212) rfl (teq (rfl : (1 : Int32) = (1 : Int32))).2 ?_
          show Steps p.tables e below (T92.setTop (mkF m 215 #[.val (.int p1), .val (.int p2), .val (.int p3), .val (.ref rkx), .val (.ref rky), .val (.int (1 : Int32)), .val (.int (0 : Int32)), .val (.int (1 : Int32)), .val (.ref b80), .val (.ref w_ASC)] [])) _
          refine XS.iconst X92.here hx rfl (hb hby at_215) ?_
          show Steps p.tables e below (T92.setTop (mkF m 216 #[.val (.int p1), .val (.int p2), .val (.int p3), .val (.ref rkx), .val (.ref rky), .val (.int (1 : Int32)), .val (.int (0 : Int32)), .val (.int (1 : Int32)), .val (.ref b80), .val (.ref w_ASC)] [(.int (1 : Int32))])) _
          refine XS.goto X92.here hx rfl (pc0 := 216) (pc' := 220) rfl (hb hby at_216) (by decide) (by decide) ?_
          exact kt
        obtain ⟨fs, hr, hrun, hended, hW⟩ := X92.leaveW hS (by rw [hE92]; exact (Nat.le_refl _)) (v := some (.int (1 : Int32))) (fun h => by rw [Bd.returns] at h; cases h)
        refine ⟨_, _, pre93 _ ?_, hrun, hended, _, _, rfl, ?_, ⟨_, rfl⟩, hW.2.1, hW.2.2.1, hW.2.2.2.mono (by decide) (by decide)⟩
        · show Steps p.tables e below (T92.setTop (mkF m 220 #[.val (.int p1), .val (.int p2), .val (.int p3), .val (.ref rkx), .val (.ref rky), .val (.int (1 : Int32)), .val (.int (0 : Int32)), .val (.int (1 : Int32)), .val (.ref b80), .val (.ref w_ASC)] [(.int (1 : Int32))])) _
          exact retN X92 hx (t := .boolean) Bd.returns (by simp) (hb hby at_220) hr
        · show Q0 Z h0 n0 _ T92.heap _
          rw [hE92]
          exact ⟨rfl, N92⟩
    · have pre94 : ∀ tt, Steps p.tables e below (T4.setTop (mkF m 52 #[.val (.int p1), .val (.int p2), .val (.int p3), .val (.ref rkx), .val (.ref rky), .val (.int (1 : Int32)), .val (.int (1 : Int32)), .unset, .unset, .unset] [(.int (p3 &&& (4 : Int32)))])) tt → Steps p.tables e below (s₁.setTop (entryFrame m #[(.int p1), (.int p2), (.int p3)] maxLocals)) tt := by
        intro tt kt
        refine pre63 tt ?_
        show Steps p.tables e below (T4.setTop (mkF m 39 #[.val (.int p1), .val (.int p2), .val (.int p3), .val (.ref rkx), .val (.ref rky), .val (.int (1 : Int32)), .unset, .unset, .unset, .unset] [(.int (p3 &&& (2 : Int32)))])) _
        refine XS.ifNo X4.here hx rfl (hb hby at_39) rfl ((if0 _ _).trans (feq c39_64).1) ?_
        show Steps p.tables e below (T4.setTop (mkF m 42 #[.val (.int p1), .val (.int p2), .val (.int p3), .val (.ref rkx), .val (.ref rky), .val (.int (1 : Int32)), .unset, .unset, .unset, .unset] [])) _
        refine XS.iconst X4.here hx rfl (hb hby at_42) ?_
        show Steps p.tables e below (T4.setTop (mkF m 43 #[.val (.int p1), .val (.int p2), .val (.int p3), .val (.ref rkx), .val (.ref rky), .val (.int (1 : Int32)), .unset, .unset, .unset, .unset] [(.int (1 : Int32))])) _
        refine XS.goto X4.here hx rfl (pc0 := 43) (pc' := 47) rfl (hb hby at_43) (by decide) (by decide) ?_
        show Steps p.tables e below (T4.setTop (mkF m 47 #[.val (.int p1), .val (.int p2), .val (.int p3), .val (.ref rkx), .val (.ref rky), .val (.int (1 : Int32)), .unset, .unset, .unset, .unset] [(.int (1 : Int32))])) _
        refine XS.istore X4.here hx rfl (hb hby at_47) rfl (l' := #[.val (.int p1), .val (.int p2), .val (.int p3), .val (.ref rkx), .val (.ref rky), .val (.int (1 : Int32)), .val (.int (1 : Int32)), .unset, .unset, .unset]) rfl ?_
        show Steps p.tables e below (T4.setTop (mkF m 49 #[.val (.int p1), .val (.int p2), .val (.int p3), .val (.ref rkx), .val (.ref rky), .val (.int (1 : Int32)), .val (.int (1 : Int32)), .unset, .unset, .unset] [])) _
        refine XS.iloadN X4.here hx rfl (hb hby at_49) rfl ?_
        show Steps p.tables e below (T4.setTop (mkF m 50 #[.val (.int p1), .val (.int p2), .val (.int p3), .val (.ref rkx), .val (.ref rky), .val (.int (1 : Int32)), .val (.int (1 : Int32)), .unset, .unset, .unset] [(.int p3)])) _
        refine XS.iconst X4.here hx rfl (hb hby at_50) ?_
        show Steps p.tables e below (T4.setTop (mkF m 51 #[.val (.int p1), .val (.int p2), .val (.int p3), .val (.ref rkx), .val (.ref rky), .val (.int (1 : Int32)), .val (.int (1 : Int32)), .unset, .unset, .unset] [(.int (4 : Int32)), (.int p3)])) _
        refine XS.iand X4.here hx rfl (hb hby at_51) rfl ?_
        exact kt
      by_cases c52_95 : (p3 &&& (4 : Int32)) = (0 : Int32)
      · obtain ⟨T96, h96, X96, e96, E96, A96, D96, -, st96⟩ := newO X4 hx hZ hown (hw _ (List.mem_of_getElem? (i := 10) rfl)) (hw _ (List.mem_of_getElem? (i := 11) rfl)) (hw _ (List.mem_of_getElem? (i := 12) rfl)) hE4 (g := (mkF m 62 #[.val (.int p1), .val (.int p2), .val (.int p3), .val (.ref rkx), .val (.ref rky), .val (.int (1 : Int32)), .val (.int (1 : Int32)), .val (.int (0 : Int32)), .unset, .unset] [])) rfl (hb hby at_62) (by decide) (by decide)
        obtain ⟨b96, g96⟩ : ∃ z, z = h0.size := ⟨_, rfl⟩
        rw [← g96] at A96 D96 st96
        have g_b96 : n0 ≤ b96 := Nat.le_trans Z0 (Nat.le_of_eq g96.symm)
        have F_searchTerms_b96 : Fld Z h96 b96 "com/example/wee_forge/weeforge/model/ProjectFilter" "searchTerms" "Ljava/util/List;" .null := D96 (Or.inl (hw _ (List.mem_of_getElem? (i := 26) rfl))) (ty := (.object "java/util/List")) (by decide)
        have F_topics_b96 : Fld Z h96 b96 "com/example/wee_forge/weeforge/model/ProjectFilter" "topics" "Ljava/util/List;" .null := D96 (Or.inl (hw _ (List.mem_of_getElem? (i := 28) rfl))) (ty := (.object "java/util/List")) (by decide)
        have F_lastActivity_b96 : Fld Z h96 b96 "com/example/wee_forge/weeforge/model/ProjectFilter" "lastActivity" "Lcom/example/wee_forge/weeforge/model/TimeRange;" .null := D96 (Or.inl (hw _ (List.mem_of_getElem? (i := 33) rfl))) (ty := (.object "com/example/wee_forge/weeforge/model/TimeRange")) (by decide)
        have F_updated_b96 : Fld Z h96 b96 "com/example/wee_forge/weeforge/model/ProjectFilter" "updated" "Lcom/example/wee_forge/weeforge/model/TimeRange;" .null := D96 (Or.inl (hw _ (List.mem_of_getElem? (i := 35) rfl))) (ty := (.object "com/example/wee_forge/weeforge/model/TimeRange")) (by decide)
        have F_idAfter_b96 : Fld Z h96 b96 "com/example/wee_forge/weeforge/model/ProjectFilter" "idAfter" "Ljava/util/OptionalLong;" .null := D96 (Or.inl (hw _ (List.mem_of_getElem? (i := 42) rfl))) (ty := (.object "java/util/OptionalLong")) (by decide)
        have F_idBefore_b96 : Fld Z h96 b96 "com/example/wee_forge/weeforge/model/ProjectFilter" "idBefore" "Ljava/util/OptionalLong;" .null := D96 (Or.inl (hw _ (List.mem_of_getElem? (i := 44) rfl))) (ty := (.object "java/util/OptionalLong")) (by decide)
        have F_orderBy_b96 : Fld Z h96 b96 "com/example/wee_forge/weeforge/model/ProjectFilter" "orderBy" "Lcom/example/wee_forge/weeforge/model/ProjectOrder;" .null := D96 (Or.inl (hw _ (List.mem_of_getElem? (i := 47) rfl))) (ty := (.object "com/example/wee_forge/weeforge/model/ProjectOrder")) (by decide)
        have F_sort_b96 : Fld Z h96 b96 "com/example/wee_forge/weeforge/model/ProjectFilter" "sort" "Lcom/example/wee_forge/weeforge/model/SortDirection;" .null := D96 (Or.inl (hw _ (List.mem_of_getElem? (i := 52) rfl))) (ty := (.object "com/example/wee_forge/weeforge/model/SortDirection")) (by decide)
        have F_starredOnly_b96 : Fld Z h96 b96 "com/example/wee_forge/weeforge/model/ProjectFilter" "starredOnly" "Z" (.int (0 : Int32)) := D96 (Or.inl (hw _ (List.mem_of_getElem? (i := 89) rfl))) (ty := .boolean) (by decide)
        obtain ⟨_, _, ⟨T97, L97, k97, n97⟩, -, X97, ⟨Lc97, hQ97, l97, y97, z97⟩, st97⟩ := X96.specialBack hx (y := (⟨"com/example/wee_forge/weeforge/model/ProjectFilter", "<init>", "()V"⟩ : MethodName)) rfl hown (mvT hZ (hw _ (List.mem_of_getElem? (i := 13) rfl))) (mvT hZ (hw _ (List.mem_of_getElem? (i := 14) rfl))) (mvT hZ (hw _ (List.mem_of_getElem? (i := 15) rfl))) (by decide) (backOf (W := 1) (rmC l Z a0 hw [] b96 w_ANY w_CREATED_AT w_DESC wEL wOL h96 n0 (Nat.le_trans Z0 E96.1) A96 F_searchTerms_b96 F_topics_b96 F_lastActivity_b96 F_updated_b96 F_idAfter_b96 F_idBefore_b96 F_orderBy_b96 F_sort_b96 F_starredOnly_b96 g_b96 (Sta.ext E96 S_ANY) (Sta.ext E96 S_CREATED_AT) (Sta.ext E96 S_DESC) (Sta.ext E96 S_EL) (Sta.ext E96 S_OL)) hZ (hw _ (List.mem_of_getElem? (i := 15) rfl)) (hw _ (List.mem_of_getElem? (i := 12) rfl)) (by decide) (by decide)) (g := (mkF m 66 #[.val (.int p1), .val (.int p2), .val (.int p3), .val (.ref rkx), .val (.ref rky), .val (.int (1 : Int32)), .val (.int (1 : Int32)), .val (.int (0 : Int32)), .unset, .unset] [(.ref b96), (.ref b96)])) rfl (by rw [hml]; rfl) (Steps.refl _) (a := b96) (argsL := []) (rest := [(.ref b96)]) (lenOf pd_rm0_1 rfl) rfl (by show 2 * 0 + _ ≤ _; exact Nat.le_of_eq rfl) (hb hby at_66) (fun _ _ => ⟨rfl, e96, (by decide : 1 + 0 ≤ _), (by decide : 12 + 0 ≤ _)⟩)
        dsimp only [Pt.U, Pt.locs, Pt.cells, Pt.slots] at X97 l97 y97 z97 st97 hQ97
        subst l97 y97 z97
        obtain ⟨rfl, N97q, K97, Ei97, Fs97, Fo97, Fb97⟩ := hQ97
        have N97 := Fr.app N4 N97q
        obtain ⟨cq98, kq98, q98a, q98b, q98c⟩ := isOf hZ rfl Ei97
        obtain ⟨_, _, ⟨T98, L98, k98, n98⟩, -, X98, ⟨Lc98, hQ98, l98, y98, z98⟩, st98⟩ := X97.virtualBack hx (y := (⟨"com/example/wee_forge/weeforge/model/ProjectFilter", "orderBy", "()Lcom/example/wee_forge/weeforge/model/ProjectOrder;"⟩ : MethodName)) (z := (⟨"com/example/wee_forge/weeforge/model/ProjectFilter", "orderBy", "()Lcom/example/wee_forge/weeforge/model/ProjectOrder;"⟩ : MethodName)) hown (mvT hZ (hw _ (List.mem_of_getElem? (i := 53) rfl))) (mvT hZ (hw _ (List.mem_of_getElem? (i := 54) rfl))) (notFace_of_selects (args := #[]) (mvT hZ (hw _ (List.mem_of_getElem? (i := 56) rfl)))) (mvT hZ (hw _ (List.mem_of_getElem? (i := 56) rfl))) (mvT hZ (hw _ (List.mem_of_getElem? (i := 55) rfl))) (by decide) (backOf (W := 0) (rmg_orderBy l Z a0 hw [] b96 w_CREATED_AT T97.heap n0 (Nat.le_trans (Nat.le_trans Z0 E96.1) K97.1) Fo97) hZ (hw _ (List.mem_of_getElem? (i := 57) rfl)) (hw _ (List.mem_of_getElem? (i := 12) rfl)) (by decide) (by decide)) q98a q98c (g := (mkF m 73 #[.val (.int p1), .val (.int p2), .val (.int p3), .val (.ref rkx), .val (.ref rky), .val (.int (1 : Int32)), .val (.int (1 : Int32)), .val (.int (0 : Int32)), .val (.ref b96), .unset] [(.ref b96)])) rfl (by rw [hml]; rfl) (Steps.refl _) (argsL := []) (rest := []) (lenOf pd_rm0_2 rfl) rfl (by show 2 * 0 + _ ≤ _; exact Nat.le_of_eq rfl) (hb hby at_73) (fun _ _ => ⟨rfl, rfl, (by decide : 1 + 0 ≤ _), (by decide : 12 + 0 ≤ _)⟩)
        dsimp only [Pt.U, Pt.locs, Pt.cells, Pt.slots] at X98 l98 y98 z98 st98 hQ98
        subst l98 y98 z98
        obtain ⟨rfl, N98q, hE98⟩ := hQ98
        have N98 := Fr.app N97 N98q
        obtain ⟨T99, X99, e99, st99⟩ := getS2 X98 hx hZ hown (host := "") (Or.inl (hw _ (List.mem_of_getElem? (i := 8) rfl))) Via.refl hE98 (own_staK (Sta.ext E96 S_CREATED_AT) K97 (allS ⟨_, A96⟩ all0)) (g := (mkF m 76 #[.val (.int p1), .val (.int p2), .val (.int p3), .val (.ref rkx), .val (.ref rky), .val (.int (1 : Int32)), .val (.int (1 : Int32)), .val (.int (0 : Int32)), .val (.ref b96), .unset] [(.ref w_CREATED_AT)])) rfl (hb hby at_76)
        obtain ⟨T100, X100, e100, st100⟩ := getS2 X99 hx hZ hown (host := "") (Or.inl (hw _ (List.mem_of_getElem? (i := 92) rfl))) Via.refl e99 (own_staK (Sta.ext E96 S_ASC) K97 (allS ⟨_, A96⟩ all0)) (g := (mkF m 91 #[.val (.int p1), .val (.int p2), .val (.int p3), .val (.ref rkx), .val (.ref rky), .val (.int (1 : Int32)), .val (.int (1 : Int32)), .val (.int (0 : Int32)), .val (.ref b96), .unset] [(.ref b96)])) rfl (hb hby at_91)
        obtain ⟨cq101, kq101, q101a, q101b, q101c⟩ := isOf hZ e100 Ei97
        obtain ⟨_, _, ⟨T101, L101, k101, n101⟩, -, X101, hSb101, hgr101, ⟨Lc101, hQ101, l101, y101, z101⟩, st101⟩ := X100.virtualBackS hx (y := (⟨"com/example/wee_forge/weeforge/model/ProjectFilter", "sort", "(Lcom/example/wee_forge/weeforge/model/SortDirection;)Lcom/example/wee_forge/weeforge/model/ProjectFilter;"⟩ : MethodName)) (z := (⟨"com/example/wee_forge/weeforge/model/ProjectFilter", "sort", "(Lcom/example/wee_forge/weeforge/model/SortDirection;)Lcom/example/wee_forge/weeforge/model/ProjectFilter;"⟩ : MethodName)) hown (mvT hZ (hw _ (List.mem_of_getElem? (i := 94) rfl))) (mvT hZ (hw _ (List.mem_of_getElem? (i := 95) rfl))) (notFace_of_selects (args := #[]) (mvT hZ (hw _ (List.mem_of_getElem? (i := 97) rfl)))) (mvT hZ (hw _ (List.mem_of_getElem? (i := 97) rfl))) (mvT hZ (hw _ (List.mem_of_getElem? (i := 96) rfl))) (by decide) (backOfS (W := 0) (rm_sort l Z a0 hw [] b96 w_ASC w_DESC w_CREATED_AT (0 : Int32) T97.heap n0 (Nat.le_trans (Nat.le_trans Z0 E96.1) K97.1) Ei97 Fs97 Fo97 Fb97 g_b96 ((Exa.ext E96 E_ASC).keep K97)) hZ (hw _ (List.mem_of_getElem? (i := 98) rfl)) (hw _ (List.mem_of_getElem? (i := 12) rfl)) (by decide) (by decide)) q101a q101c (g := (mkF m 94 #[.val (.int p1), .val (.int p2), .val (.int p3), .val (.ref rkx), .val (.ref rky), .val (.int (1 : Int32)), .val (.int (1 : Int32)), .val (.int (0 : Int32)), .val (.ref b96), .unset] [(.ref w_ASC), (.ref b96)])) rfl (by rw [hml]; rfl) (Steps.refl _) (argsL := [(.ref w_ASC)]) (rest := []) (lenOf pd_rm0_7 rfl) rfl (by show 2 * 0 + _ ≤ _; exact Nat.le_of_eq rfl) (hb hby at_94) (fun _ _ => ⟨rfl, e100, (by decide : 1 + 2 ≤ _), (by decide : 12 + 20 ≤ _)⟩)
        dsimp only [Pt.U, Pt.locs, Pt.cells, Pt.slots] at X101 l101 y101 z101 st101 hQ101 hSb101 hgr101
        subst l101 y101 z101
        obtain ⟨X101, hS, hZ, hown⟩ := rebS hS (by rw [e100]; exact (Nat.le_trans (Nat.le_trans hk E96.1) K97.1)) X101 hSb101 hgr101 hZ hown
        obtain ⟨rfl, N101q, K101, Ei101, Fs101, Fo101, Fb101⟩ := hQ101
        have N101 := Fr.app N98 N101q
        obtain ⟨T102, X102, e102, st102⟩ := getS2 X101 hx hZ hown (host := "") (Or.inl (hw _ (List.mem_of_getElem? (i := 92) rfl))) Via.refl rfl (own_staK (own_staK (Sta.ext E96 S_ASC) K97 (allS ⟨_, A96⟩ all0)) K101 (allS ⟨_, Ei97⟩ all0)) (g := (mkF m 115 #[.val (.int p1), .val (.int p2), .val (.int p3), .val (.ref rkx), .val (.ref rky), .val (.int (1 : Int32)), .val (.int (1 : Int32)), .val (.int (0 : Int32)), .val (.ref b96), .unset] [])) rfl (hb hby at_115)
        obtain ⟨cq103, kq103, q103a, q103b, q103c⟩ := isOf hZ e102 Ei101
        obtain ⟨_, _, ⟨T103, L103, k103, n103⟩, -, X103, hSb103, hgr103, ⟨Lc103, hQ103, l103, y103, z103⟩, st103⟩ := X102.virtualBackS hx (y := (⟨"com/example/wee_forge/weeforge/model/ProjectFilter", "orderBy", "(Lcom/example/wee_forge/weeforge/model/ProjectOrder;)Lcom/example/wee_forge/weeforge/model/ProjectFilter;"⟩ : MethodName)) (z := (⟨"com/example/wee_forge/weeforge/model/ProjectFilter", "orderBy", "(Lcom/example/wee_forge/weeforge/model/ProjectOrder;)Lcom/example/wee_forge/weeforge/model/ProjectFilter;"⟩ : MethodName)) hown (mvT hZ (hw _ (List.mem_of_getElem? (i := 59) rfl))) (mvT hZ (hw _ (List.mem_of_getElem? (i := 60) rfl))) (notFace_of_selects (args := #[]) (mvT hZ (hw _ (List.mem_of_getElem? (i := 62) rfl)))) (mvT hZ (hw _ (List.mem_of_getElem? (i := 62) rfl))) (mvT hZ (hw _ (List.mem_of_getElem? (i := 61) rfl))) (by decide) (backOfS (W := 0) (rm_orderBy l Z a0 hw [] b96 rkx w_ASC w_CREATED_AT (0 : Int32) T101.heap n0 (Nat.le_trans (Nat.le_trans (Nat.le_trans Z0 E96.1) K97.1) K101.1) Ei101 Fs101 Fo101 Fb101 g_b96 (((Exa.ext E96 E_rkx).keep K97).keep K101)) hZ (hw _ (List.mem_of_getElem? (i := 63) rfl)) (hw _ (List.mem_of_getElem? (i := 12) rfl)) (by decide) (by decide)) q103a q103c (g := (mkF m 129 #[.val (.int p1), .val (.int p2), .val (.int p3), .val (.ref rkx), .val (.ref rky), .val (.int (1 : Int32)), .val (.int (1 : Int32)), .val (.int (0 : Int32)), .val (.ref b96), .val (.ref w_ASC)] [(.ref rkx), (.ref b96)])) rfl (by rw [hml]; rfl) (Steps.refl _) (argsL := [(.ref rkx)]) (rest := []) (lenOf pd_rm0_3 rfl) rfl (by show 2 * 0 + _ ≤ _; exact Nat.le_of_eq rfl) (hb hby at_129) (fun _ _ => ⟨rfl, e102, (by decide : 3 + 2 ≤ _), (by decide : 32 + 32 ≤ _)⟩)
        dsimp only [Pt.U, Pt.locs, Pt.cells, Pt.slots] at X103 l103 y103 z103 st103 hQ103 hSb103 hgr103
        subst l103 y103 z103
        obtain ⟨X103, hS, hZ, hown⟩ := rebS hS (by rw [e102]; exact (Nat.le_refl _)) X103 hSb103 hgr103 hZ hown
        obtain ⟨rfl, N103q, K103, Ei103, Fs103, Fo103, Fb103⟩ := hQ103
        have N103 := Fr.app N101 N103q
        obtain ⟨cq104, kq104, q104a, q104b, q104c⟩ := isOf hZ rfl Ei103
        obtain ⟨_, _, ⟨T104, L104, k104, n104⟩, -, X104, ⟨Lc104, hQ104, l104, y104, z104⟩, st104⟩ := X103.virtualBack hx (y := (⟨"com/example/wee_forge/weeforge/model/ProjectFilter", "orderBy", "()Lcom/example/wee_forge/weeforge/model/ProjectOrder;"⟩ : MethodName)) (z := (⟨"com/example/wee_forge/weeforge/model/ProjectFilter", "orderBy", "()Lcom/example/wee_forge/weeforge/model/ProjectOrder;"⟩ : MethodName)) hown (mvT hZ (hw _ (List.mem_of_getElem? (i := 53) rfl))) (mvT hZ (hw _ (List.mem_of_getElem? (i := 54) rfl))) (notFace_of_selects (args := #[]) (mvT hZ (hw _ (List.mem_of_getElem? (i := 56) rfl)))) (mvT hZ (hw _ (List.mem_of_getElem? (i := 56) rfl))) (mvT hZ (hw _ (List.mem_of_getElem? (i := 55) rfl))) (by decide) (backOf (W := 0) (rmg_orderBy l Z a0 hw [] b96 rkx T103.heap n0 (Nat.le_trans (Nat.le_trans (Nat.le_trans (Nat.le_trans Z0 E96.1) K97.1) K101.1) K103.1) Fo103) hZ (hw _ (List.mem_of_getElem? (i := 57) rfl)) (hw _ (List.mem_of_getElem? (i := 12) rfl)) (by decide) (by decide)) q104a q104c (g := (mkF m 141 #[.val (.int p1), .val (.int p2), .val (.int p3), .val (.ref rkx), .val (.ref rky), .val (.int (1 : Int32)), .val (.int (1 : Int32)), .val (.int (0 : Int32)), .val (.ref b96), .val (.ref w_ASC)] [(.ref b96)])) rfl (by rw [hml]; rfl) (Steps.refl _) (argsL := []) (rest := []) (lenOf pd_rm0_2 rfl) rfl (by show 2 * 0 + _ ≤ _; exact Nat.le_of_eq rfl) (hb hby at_141) (fun _ _ => ⟨rfl, rfl, (by decide : 5 + 0 ≤ _), (by decide : 64 + 0 ≤ _)⟩)
        dsimp only [Pt.U, Pt.locs, Pt.cells, Pt.slots] at X104 l104 y104 z104 st104 hQ104
        subst l104 y104 z104
        obtain ⟨rfl, N104q, hE104⟩ := hQ104
        have N104 := Fr.app N103 N104q
        obtain ⟨cq105, kq105, q105a, q105b, q105c⟩ := isOf hZ hE104 Ei103
        obtain ⟨_, _, ⟨T105, L105, k105, n105⟩, -, X105, ⟨Lc105, hQ105, l105, y105, z105⟩, st105⟩ := X104.virtualBack hx (y := (⟨"com/example/wee_forge/weeforge/model/ProjectFilter", "sort", "()Lcom/example/wee_forge/weeforge/model/SortDirection;"⟩ : MethodName)) (z := (⟨"com/example/wee_forge/weeforge/model/ProjectFilter", "sort", "()Lcom/example/wee_forge/weeforge/model/SortDirection;"⟩ : MethodName)) hown (mvT hZ (hw _ (List.mem_of_getElem? (i := 78) rfl))) (mvT hZ (hw _ (List.mem_of_getElem? (i := 79) rfl))) (notFace_of_selects (args := #[]) (mvT hZ (hw _ (List.mem_of_getElem? (i := 81) rfl)))) (mvT hZ (hw _ (List.mem_of_getElem? (i := 81) rfl))) (mvT hZ (hw _ (List.mem_of_getElem? (i := 80) rfl))) (by decide) (backOf (W := 0) (rmg_sort l Z a0 hw [] b96 w_ASC T103.heap n0 (Nat.le_trans (Nat.le_trans (Nat.le_trans (Nat.le_trans Z0 E96.1) K97.1) K101.1) K103.1) Fs103) hZ (hw _ (List.mem_of_getElem? (i := 82) rfl)) (hw _ (List.mem_of_getElem? (i := 12) rfl)) (by decide) (by decide)) q105a q105c (g := (mkF m 152 #[.val (.int p1), .val (.int p2), .val (.int p3), .val (.ref rkx), .val (.ref rky), .val (.int (1 : Int32)), .val (.int (1 : Int32)), .val (.int (0 : Int32)), .val (.ref b96), .val (.ref w_ASC)] [(.ref b96)])) rfl (by rw [hml]; rfl) (Steps.refl _) (argsL := []) (rest := []) (lenOf pd_rm0_4 rfl) rfl (by show 2 * 0 + _ ≤ _; exact Nat.le_of_eq rfl) (hb hby at_152) (fun _ _ => ⟨rfl, hE104, (by decide : 5 + 0 ≤ _), (by decide : 64 + 0 ≤ _)⟩)
        dsimp only [Pt.U, Pt.locs, Pt.cells, Pt.slots] at X105 l105 y105 z105 st105 hQ105
        subst l105 y105 z105
        obtain ⟨rfl, N105q, hE105⟩ := hQ105
        have N105 := Fr.app N104 N105q
        obtain ⟨cq106, kq106, q106a, q106b, q106c⟩ := isOf hZ hE105 Ei103
        obtain ⟨_, _, ⟨T106, L106, k106, n106⟩, -, X106, hSb106, hgr106, ⟨Lc106, hQ106, l106, y106, z106⟩, st106⟩ := X105.virtualBackS hx (y := (⟨"com/example/wee_forge/weeforge/model/ProjectFilter", "orderBy", "(Lcom/example/wee_forge/weeforge/model/ProjectOrder;)Lcom/example/wee_forge/weeforge/model/ProjectFilter;"⟩ : MethodName)) (z := (⟨"com/example/wee_forge/weeforge/model/ProjectFilter", "orderBy", "(Lcom/example/wee_forge/weeforge/model/ProjectOrder;)Lcom/example/wee_forge/weeforge/model/ProjectFilter;"⟩ : MethodName)) hown (mvT hZ (hw _ (List.mem_of_getElem? (i := 59) rfl))) (mvT hZ (hw _ (List.mem_of_getElem? (i := 60) rfl))) (notFace_of_selects (args := #[]) (mvT hZ (hw _ (List.mem_of_getElem? (i := 62) rfl)))) (mvT hZ (hw _ (List.mem_of_getElem? (i := 62) rfl))) (mvT hZ (hw _ (List.mem_of_getElem? (i := 61) rfl))) (by decide) (backOfS (W := 0) (rm_orderBy l Z a0 hw [] b96 rky w_ASC rkx (0 : Int32) T103.heap n0 (Nat.le_trans (Nat.le_trans (Nat.le_trans (Nat.le_trans Z0 E96.1) K97.1) K101.1) K103.1) Ei103 Fs103 Fo103 Fb103 g_b96 ((((Exa.ext E96 E_rky).keep K97).keep K101).keep K103)) hZ (hw _ (List.mem_of_getElem? (i := 63) rfl)) (hw _ (List.mem_of_getElem? (i := 12) rfl)) (by decide) (by decide)) q106a q106c (g := (mkF m 171 #[.val (.int p1), .val (.int p2), .val (.int p3), .val (.ref rkx), .val (.ref rky), .val (.int (1 : Int32)), .val (.int (1 : Int32)), .val (.int (0 : Int32)), .val (.ref b96), .val (.ref w_ASC)] [(.ref rky), (.ref b96)])) rfl (by rw [hml]; rfl) (Steps.refl _) (argsL := [(.ref rky)]) (rest := []) (lenOf pd_rm0_3 rfl) rfl (by show 2 * 0 + _ ≤ _; exact Nat.le_of_eq rfl) (hb hby at_171) (fun _ _ => ⟨rfl, hE105, (by decide : 5 + 2 ≤ _), (by decide : 64 + 32 ≤ _)⟩)
        dsimp only [Pt.U, Pt.locs, Pt.cells, Pt.slots] at X106 l106 y106 z106 st106 hQ106 hSb106 hgr106
        subst l106 y106 z106
        obtain ⟨X106, hS, hZ, hown⟩ := rebS hS (by rw [hE105]; exact (Nat.le_refl _)) X106 hSb106 hgr106 hZ hown
        obtain ⟨rfl, N106q, K106, Ei106, Fs106, Fo106, Fb106⟩ := hQ106
        have N106 := Fr.app N105 N106q
        obtain ⟨cq107, kq107, q107a, q107b, q107c⟩ := isOf hZ rfl Ei106
        obtain ⟨_, _, ⟨T107, L107, k107, n107⟩, -, X107, ⟨Lc107, hQ107, l107, y107, z107⟩, st107⟩ := X106.virtualBack hx (y := (⟨"com/example/wee_forge/weeforge/model/ProjectFilter", "orderBy", "()Lcom/example/wee_forge/weeforge/model/ProjectOrder;"⟩ : MethodName)) (z := (⟨"com/example/wee_forge/weeforge/model/ProjectFilter", "orderBy", "()Lcom/example/wee_forge/weeforge/model/ProjectOrder;"⟩ : MethodName)) hown (mvT hZ (hw _ (List.mem_of_getElem? (i := 53) rfl))) (mvT hZ (hw _ (List.mem_of_getElem? (i := 54) rfl))) (notFace_of_selects (args := #[]) (mvT hZ (hw _ (List.mem_of_getElem? (i := 56) rfl)))) (mvT hZ (hw _ (List.mem_of_getElem? (i := 56) rfl))) (mvT hZ (hw _ (List.mem_of_getElem? (i := 55) rfl))) (by decide) (backOf (W := 0) (rmg_orderBy l Z a0 hw [] b96 rky T106.heap n0 (Nat.le_trans (Nat.le_trans (Nat.le_trans (Nat.le_trans (Nat.le_trans Z0 E96.1) K97.1) K101.1) K103.1) K106.1) Fo106) hZ (hw _ (List.mem_of_getElem? (i := 57) rfl)) (hw _ (List.mem_of_getElem? (i := 12) rfl)) (by decide) (by decide)) q107a q107c (g := (mkF m 183 #[.val (.int p1), .val (.int p2), .val (.int p3), .val (.ref rkx), .val (.ref rky), .val (.int (1 : Int32)), .val (.int (1 : Int32)), .val (.int (0 : Int32)), .val (.ref b96), .val (.ref w_ASC)] [(.ref b96)])) rfl (by rw [hml]; rfl) (Steps.refl _) (argsL := []) (rest := []) (lenOf pd_rm0_2 rfl) rfl (by show 2 * 0 + _ ≤ _; exact Nat.le_of_eq rfl) (hb hby at_183) (fun _ _ => ⟨rfl, rfl, (by decide : 7 + 0 ≤ _), (by decide : 96 + 0 ≤ _)⟩)
        dsimp only [Pt.U, Pt.locs, Pt.cells, Pt.slots] at X107 l107 y107 z107 st107 hQ107
        subst l107 y107 z107
        obtain ⟨rfl, N107q, hE107⟩ := hQ107
        have N107 := Fr.app N106 N107q
        obtain ⟨cq108, kq108, q108a, q108b, q108c⟩ := isOf hZ hE107 Ei106
        obtain ⟨_, _, ⟨T108, L108, k108, n108⟩, -, X108, ⟨Lc108, hQ108, l108, y108, z108⟩, st108⟩ := X107.virtualBack hx (y := (⟨"com/example/wee_forge/weeforge/model/ProjectFilter", "sort", "()Lcom/example/wee_forge/weeforge/model/SortDirection;"⟩ : MethodName)) (z := (⟨"com/example/wee_forge/weeforge/model/ProjectFilter", "sort", "()Lcom/example/wee_forge/weeforge/model/SortDirection;"⟩ : MethodName)) hown (mvT hZ (hw _ (List.mem_of_getElem? (i := 78) rfl))) (mvT hZ (hw _ (List.mem_of_getElem? (i := 79) rfl))) (notFace_of_selects (args := #[]) (mvT hZ (hw _ (List.mem_of_getElem? (i := 81) rfl)))) (mvT hZ (hw _ (List.mem_of_getElem? (i := 81) rfl))) (mvT hZ (hw _ (List.mem_of_getElem? (i := 80) rfl))) (by decide) (backOf (W := 0) (rmg_sort l Z a0 hw [] b96 w_ASC T106.heap n0 (Nat.le_trans (Nat.le_trans (Nat.le_trans (Nat.le_trans (Nat.le_trans Z0 E96.1) K97.1) K101.1) K103.1) K106.1) Fs106) hZ (hw _ (List.mem_of_getElem? (i := 82) rfl)) (hw _ (List.mem_of_getElem? (i := 12) rfl)) (by decide) (by decide)) q108a q108c (g := (mkF m 195 #[.val (.int p1), .val (.int p2), .val (.int p3), .val (.ref rkx), .val (.ref rky), .val (.int (1 : Int32)), .val (.int (1 : Int32)), .val (.int (0 : Int32)), .val (.ref b96), .val (.ref w_ASC)] [(.ref b96)])) rfl (by rw [hml]; rfl) (Steps.refl _) (argsL := []) (rest := []) (lenOf pd_rm0_4 rfl) rfl (by show 2 * 0 + _ ≤ _; exact Nat.le_of_eq rfl) (hb hby at_195) (fun _ _ => ⟨rfl, hE107, (by decide : 7 + 0 ≤ _), (by decide : 96 + 0 ≤ _)⟩)
        dsimp only [Pt.U, Pt.locs, Pt.cells, Pt.slots] at X108 l108 y108 z108 st108 hQ108
        subst l108 y108 z108
        obtain ⟨rfl, N108q, hE108⟩ := hQ108
        have N108 := Fr.app N107 N108q
        obtain ⟨cq109, kq109, q109a, q109b, q109c⟩ := isOf hZ hE108 Ei106
        obtain ⟨_, _, ⟨T109, L109, k109, n109⟩, -, X109, ⟨Lc109, hQ109, l109, y109, z109⟩, st109⟩ := X108.virtualBack hx (y := (⟨"com/example/wee_forge/weeforge/model/ProjectFilter", "starredOnly", "()Z"⟩ : MethodName)) (z := (⟨"com/example/wee_forge/weeforge/model/ProjectFilter", "starredOnly", "()Z"⟩ : MethodName)) hown (mvT hZ (hw _ (List.mem_of_getElem? (i := 83) rfl))) (mvT hZ (hw _ (List.mem_of_getElem? (i := 84) rfl))) (notFace_of_selects (args := #[]) (mvT hZ (hw _ (List.mem_of_getElem? (i := 86) rfl)))) (mvT hZ (hw _ (List.mem_of_getElem? (i := 86) rfl))) (mvT hZ (hw _ (List.mem_of_getElem? (i := 85) rfl))) (by decide) (backOf (W := 0) (rmg_starredOnly l Z a0 hw [] b96 (0 : Int32) T106.heap n0 (Nat.le_trans (Nat.le_trans (Nat.le_trans (Nat.le_trans (Nat.le_trans Z0 E96.1) K97.1) K101.1) K103.1) K106.1) Fb106 (by decide)) hZ (hw _ (List.mem_of_getElem? (i := 87) rfl)) (hw _ (List.mem_of_getElem? (i := 12) rfl)) (by decide) (by decide)) q109a q109c (g := (mkF m 207 #[.val (.int p1), .val (.int p2), .val (.int p3), .val (.ref rkx), .val (.ref rky), .val (.int (1 : Int32)), .val (.int (1 : Int32)), .val (.int (0 : Int32)), .val (.ref b96), .val (.ref w_ASC)] [(.ref b96)])) rfl (by rw [hml]; rfl) (Steps.refl _) (argsL := []) (rest := []) (lenOf pd_rm0_5 rfl) rfl (by show 2 * 0 + _ ≤ _; exact Nat.le_of_eq rfl) (hb hby at_207) (fun _ _ => ⟨rfl, hE108, (by decide : 7 + 0 ≤ _), (by decide : 96 + 0 ≤ _)⟩)
        dsimp only [Pt.U, Pt.locs, Pt.cells, Pt.slots] at X109 l109 y109 z109 st109 hQ109
        subst l109 y109 z109
        obtain ⟨rfl, N109q, hE109⟩ := hQ109
        have N109 := Fr.app N108 N109q
        have pre110 : ∀ tt, Steps p.tables e below (T109.setTop (mkF m 220 #[.val (.int p1), .val (.int p2), .val (.int p3), .val (.ref rkx), .val (.ref rky), .val (.int (1 : Int32)), .val (.int (1 : Int32)), .val (.int (0 : Int32)), .val (.ref b96), .val (.ref w_ASC)] [(.int (1 : Int32))])) tt → Steps p.tables e below (s₁.setTop (entryFrame m #[(.int p1), (.int p2), (.int p3)] maxLocals)) tt := by
          intro tt kt
          refine pre94 tt ?_
          show Steps p.tables e below (T4.setTop (mkF m 52 #[.val (.int p1), .val (.int p2), .val (.int p3), .val (.ref rkx), .val (.ref rky), .val (.int (1 : Int32)), .val (.int (1 : Int32)), .unset, .unset, .unset] [(.int (p3 &&& (4 : Int32)))])) _
          refine XS.ifYes X4.here hx rfl (pc0 := 52) (pc' := 59) rfl (hb hby at_52) rfl ((if0 _ _).trans (teq c52_95).1) (by decide) (by decide) ?_
          show Steps p.tables e below (T4.setTop (mkF m 59 #[.val (.int p1), .val (.int p2), .val (.int p3), .val (.ref rkx), .val (.ref rky), .val (.int (1 : Int32)), .val (.int (1 : Int32)), .unset, .unset, .unset] [])) _
          refine XS.iconst X4.here hx rfl (hb hby at_59) ?_
          show Steps p.tables e below (T4.setTop (mkF m 60 #[.val (.int p1), .val (.int p2), .val (.int p3), .val (.ref rkx), .val (.ref rky), .val (.int (1 : Int32)), .val (.int (1 : Int32)), .unset, .unset, .unset] [(.int (0 : Int32))])) _
          refine XS.istore X4.here hx rfl (hb hby at_60) rfl (l' := #[.val (.int p1), .val (.int p2), .val (.int p3), .val (.ref rkx), .val (.ref rky), .val (.int (1 : Int32)), .val (.int (1 : Int32)), .val (.int (0 : Int32)), .unset, .unset]) rfl ?_
          show Steps p.tables e below (T4.setTop (mkF m 62 #[.val (.int p1), .val (.int p2), .val (.int p3), .val (.ref rkx), .val (.ref rky), .val (.int (1 : Int32)), .val (.int (1 : Int32)), .val (.int (0 : Int32)), .unset, .unset] [])) _
          refine st96 _ ?_
          show Steps p.tables e below (T96.setTop (mkF m 65 #[.val (.int p1), .val (.int p2), .val (.int p3), .val (.ref rkx), .val (.ref rky), .val (.int (1 : Int32)), .val (.int (1 : Int32)), .val (.int (0 : Int32)), .unset, .unset] [(.ref b96)])) _
          refine XS.dup X96.here hx rfl (hb hby at_65) rfl rfl ?_
          show Steps p.tables e below (T96.setTop (mkF m 66 #[.val (.int p1), .val (.int p2), .val (.int p3), .val (.ref rkx), .val (.ref rky), .val (.int (1 : Int32)), .val (.int (1 : Int32)), .val (.int (0 : Int32)), .unset, .unset] [(.ref b96), (.ref b96)])) _
          refine st97.trans ?_
          show Steps p.tables e below (T97.setTop (mkF m 69 #[.val (.int p1), .val (.int p2), .val (.int p3), .val (.ref rkx), .val (.ref rky), .val (.int (1 : Int32)), .val (.int (1 : Int32)), .val (.int (0 : Int32)), .unset, .unset] [(.ref b96)])) _
          refine XS.astore X97.here hx rfl (hb hby at_69) rfl rfl (l' := #[.val (.int p1), .val (.int p2), .val (.int p3), .val (.ref rkx), .val (.ref rky), .val (.int (1 : Int32)), .val (.int (1 : Int32)), .val (.int (0 : Int32)), .val (.ref b96), .unset]) rfl ?_
          show Steps p.tables e below (T97.setTop (mkF m 71 #[.val (.int p1), .val (.int p2), .val (.int p3), .val (.ref rkx), .val (.ref rky), .val (.int (1 : Int32)), .val (.int (1 : Int32)), .val (.int (0 : Int32)), .val (.ref b96), .unset] [])) _
          refine XS.aload X97.here hx rfl (hb hby at_71) rfl rfl ?_
          show Steps p.tables e below (T97.setTop (mkF m 73 #[.val (.int p1), .val (.int p2), .val (.int p3), .val (.ref rkx), .val (.ref rky), .val (.int (1 : Int32)), .val (.int (1 : Int32)), .val (.int (0 : Int32)), .val (.ref b96), .unset] [(.ref b96)])) _
          refine st98.trans ?_
          show Steps p.tables e below (T98.setTop (mkF m 76 #[.val (.int p1), .val (.int p2), .val (.int p3), .val (.ref rkx), .val (.ref rky), .val (.int (1 : Int32)), .val (.int (1 : Int32)), .val (.int (0 : Int32)), .val (.ref b96), .unset] [(.ref w_CREATED_AT)])) _
          refine st99 _ ?_
          show Steps p.tables e below (T99.setTop (mkF m 79 #[.val (.int p1), .val (.int p2), .val (.int p3), .val (.ref rkx), .val (.ref rky), .val (.int (1 : Int32)), .val (.int (1 : Int32)), .val (.int (0 : Int32)), .val (.ref b96), .unset] [(.ref w_CREATED_AT), (.ref w_CREATED_AT)])) _
          refine Jvm.RoadKit.acmp (g := (mkF m 79 #[.val (.int p1), .val (.int p2), .val (.int p3), .val (.ref rkx), .val (.ref rky), .val (.int (1 : Int32)), .val (.int (1 : Int32)), .val (.int (0 : Int32)), .val (.ref b96), .unset] [(.ref w_CREATED_AT), (.ref w_CREATED_AT)])) X99 hx rfl rfl rfl (pc0 := 79) (pc' := 84) (same := true) rfl (hb hby at_79) rfl (decide_eq_true rfl) (by decide) (by decide) ?_
          show Steps p.tables e below (T99.setTop (mkF m 84 #[.val (.int p1), .val (.int p2), .val (.int p3), .val (.ref rkx), .val (.ref rky), .val (.int (1 : Int32)), .val (.int (1 : Int32)), .val (.int (0 : Int32)), .val (.ref b96), .unset] [])) _
          refine XS.iload X99.here hx rfl (hb hby at_84) rfl ?_
          show Steps p.tables e below (T99.setTop (mkF m 86 #[.val (.int p1), .val (.int p2), .val (.int p3), .val (.ref rkx), .val (.ref rky), .val (.int (1 : Int32)), .val (.int (1 : Int32)), .val (.int (0 : Int32)), .val (.ref b96), .unset] [(.int (1 : Int32))])) _
          refine XS.ifNo X99.here hx rfl (hb hby at_86) rfl ((if0 _ _).trans (feq (by decide : ¬ ((1 : Int32) = (0 : Int32)))).1) ?_
          show Steps p.tables e below (T99.setTop (mkF m 89 #[.val (.int p1), .val (.int p2), .val (.int p3), .val (.ref rkx), .val (.ref rky), .val (.int (1 : Int32)), .val (.int (1 : Int32)), .val (.int (0 : Int32)), .val (.ref b96), .unset] [])) _
          refine XS.aload X99.here hx rfl (hb hby at_89) rfl rfl ?_
          show Steps p.tables e below (T99.setTop (mkF m 91 #[.val (.int p1), .val (.int p2), .val (.int p3), .val (.ref rkx), .val (.ref rky), .val (.int (1 : Int32)), .val (.int (1 : Int32)), .val (.int (0 : Int32)), .val (.ref b96), .unset] [(.ref b96)])) _
          refine st100 _ ?_
          show Steps p.tables e below (T100.setTop (mkF m 94 #[.val (.int p1), .val (.int p2), .val (.int p3), .val (.ref rkx), .val (.ref rky), .val (.int (1 : Int32)), .val (.int (1 : Int32)), .val (.int (0 : Int32)), .val (.ref b96), .unset] [(.ref w_ASC), (.ref b96)])) _
          refine st101.trans ?_
          show Steps p.tables e below (T101.setTop (mkF m 97 #[.val (.int p1), .val (.int p2), .val (.int p3), .val (.ref rkx), .val (.ref rky), .val (.int (1 : Int32)), .val (.int (1 : Int32)), .val (.int (0 : Int32)), .val (.ref b96), .unset] [(.ref b96)])) _
          refine XS.pop X101.here hx rfl (hb hby at_97) rfl rfl ?_
          show Steps p.tables e below (T101.setTop (mkF m 98 #[.val (.int p1), .val (.int p2), .val (.int p3), .val (.ref rkx), .val (.ref rky), .val (.int (1 : Int32)), .val (.int (1 : Int32)), .val (.int (0 : Int32)), .val (.ref b96), .unset] [])) _
          refine XS.iload X101.here hx rfl (hb hby at_98) rfl ?_
          show Steps p.tables e below (T101.setTop (mkF m 100 #[.val (.int p1), .val (.int p2), .val (.int p3), .val (.ref rkx), .val (.ref rky), .val (.int (1 : Int32)), .val (.int (1 : Int32)), .val (.int (0 : Int32)), .val (.ref b96), .unset] [(.int (0 : Int32))])) _
          refine XS.ifYes X101.here hx rfl (pc0 := 100) (pc' := 110) rfl (hb hby at_100) rfl ((if0 _ _).trans (teq (rfl : (0 : Int32) = (0 : Int32))).1) (by decide) (by decide) ?_
          show Steps p.tables e below (T101.setTop (mkF m 110 #[.val (.int p1), .val (.int p2), .val (.int p3), .val (.ref rkx), .val (.ref rky), .val (.int (1 : Int32)), .val (.int (1 : Int32)), .val (.int (0 : Int32)), .val (.ref b96), .unset] [])) _
          refine XS.iload X101.here hx rfl (hb hby at_110) rfl ?_
          show Steps p.tables e below (T101.setTop (mkF m 112 #[.val (.int p1), .val (.int p2), .val (.int p3), .val (.ref rkx), .val (.ref rky), .val (.int (1 : Int32)), .val (.int (1 : Int32)), .val (.int (0 : Int32)), .val (.ref b96), .unset] [(.int (1 : Int32))])) _
          refine XS.ifNo X101.here hx rfl (hb hby at_112) rfl ((if0 _ _).trans (feq (by decide : ¬ ((1 : Int32) = (0 : Int32)))).1) ?_
          show Steps p.tables e below (T101.setTop (mkF m 115 #[.val (.int p1), .val (.int p2), .val (.int p3), .val (.ref rkx), .val (.ref rky), .val (.int (1 : Int32)), .val (.int (1 : Int32)), .val (.int (0 : Int32)), .val (.ref b96), .unset] [])) _
          refine st102 _ ?_
          show Steps p.tables e below (T102.setTop (mkF m 118 #[.val (.int p1), .val (.int p2), .val (.int p3), .val (.ref rkx), .val (.ref rky), .val (.int (1 : Int32)), .val (.int (1 : Int32)), .val (.int (0 : Int32)), .val (.ref b96), .unset] [(.ref w_ASC)])) _
          refine XS.goto X102.here hx rfl (pc0 := 118) (pc' := 124) rfl (hb hby at_118) (by decide) (by decide) ?_
          show Steps p.tables e below (T102.setTop (mkF m 124 #[.val (.int p1), .val (.int p2), .val (.int p3), .val (.ref rkx), .val (.ref rky), .val (.int (1 : Int32)), .val (.int (1 : Int32)), .val (.int (0 : Int32)), .val (.ref b96), .unset] [(.ref w_ASC)])) _
          refine XS.astore X102.here hx rfl (hb hby at_124) rfl rfl (l' := #[.val (.int p1), .val (.int p2), .val (.int p3), .val (.ref rkx), .val (.ref rky), .val (.int (1 : Int32)), .val (.int (1 : Int32)), .val (.int (0 : Int32)), .val (.ref b96), .val (.ref w_ASC)]) rfl ?_
          show Steps p.tables e below (T102.setTop (mkF m 126 #[.val (.int p1), .val (.int p2), .val (.int p3), .val (.ref rkx), .val (.ref rky), .val (.int (1 : Int32)), .val (.int (1 : Int32)), .val (.int (0 : Int32)), .val (.ref b96), .val (.ref w_ASC)] [])) _
          refine XS.aload X102.here hx rfl (hb hby at_126) rfl rfl ?_
          show Steps p.tables e below (T102.setTop (mkF m 128 #[.val (.int p1), .val (.int p2), .val (.int p3), .val (.ref rkx), .val (.ref rky), .val (.int (1 : Int32)), .val (.int (1 : Int32)), .val (.int (0 : Int32)), .val (.ref b96), .val (.ref w_ASC)] [(.ref b96)])) _
          refine XS.aloadN X102.here hx rfl (hb hby at_128) rfl rfl ?_
          show Steps p.tables e below (T102.setTop (mkF m 129 #[.val (.int p1), .val (.int p2), .val (.int p3), .val (.ref rkx), .val (.ref rky), .val (.int (1 : Int32)), .val (.int (1 : Int32)), .val (.int (0 : Int32)), .val (.ref b96), .val (.ref w_ASC)] [(.ref rkx), (.ref b96)])) _
          refine st103.trans ?_
          show Steps p.tables e below (T103.setTop (mkF m 132 #[.val (.int p1), .val (.int p2), .val (.int p3), .val (.ref rkx), .val (.ref rky), .val (.int (1 : Int32)), .val (.int (1 : Int32)), .val (.int (0 : Int32)), .val (.ref b96), .val (.ref w_ASC)] [(.ref b96)])) _
          refine XS.aload X103.here hx rfl (hb hby at_132) rfl rfl ?_
          show Steps p.tables e below (T103.setTop (mkF m 134 #[.val (.int p1), .val (.int p2), .val (.int p3), .val (.ref rkx), .val (.ref rky), .val (.int (1 : Int32)), .val (.int (1 : Int32)), .val (.int (0 : Int32)), .val (.ref b96), .val (.ref w_ASC)] [(.ref b96), (.ref b96)])) _
          refine Jvm.RoadKit.acmp (g := (mkF m 134 #[.val (.int p1), .val (.int p2), .val (.int p3), .val (.ref rkx), .val (.ref rky), .val (.int (1 : Int32)), .val (.int (1 : Int32)), .val (.int (0 : Int32)), .val (.ref b96), .val (.ref w_ASC)] [(.ref b96), (.ref b96)])) X103 hx rfl rfl rfl (pc0 := 134) (pc' := 139) (same := true) rfl (hb hby at_134) rfl (decide_eq_true rfl) (by decide) (by decide) ?_
          show Steps p.tables e below (T103.setTop (mkF m 139 #[.val (.int p1), .val (.int p2), .val (.int p3), .val (.ref rkx), .val (.ref rky), .val (.int (1 : Int32)), .val (.int (1 : Int32)), .val (.int (0 : Int32)), .val (.ref b96), .val (.ref w_ASC)] [])) _
          refine XS.aload X103.here hx rfl (hb hby at_139) rfl rfl ?_
          show Steps p.tables e below (T103.setTop (mkF m 141 #[.val (.int p1), .val (.int p2), .val (.int p3), .val (.ref rkx), .val (.ref rky), .val (.int (1 : Int32)), .val (.int (1 : Int32)), .val (.int (0 : Int32)), .val (.ref b96), .val (.ref w_ASC)] [(.ref b96)])) _
          refine st104.trans ?_
          show Steps p.tables e below (T104.setTop (mkF m 144 #[.val (.int p1), .val (.int p2), .val (.int p3), .val (.ref rkx), .val (.ref rky), .val (.int (1 : Int32)), .val (.int (1 : Int32)), .val (.int (0 : Int32)), .val (.ref b96), .val (.ref w_ASC)] [(.ref rkx)])) _
          refine XS.aloadN X104.here hx rfl (hb hby at_144) rfl rfl ?_
          show Steps p.tables e below (T104.setTop (mkF m 145 #[.val (.int p1), .val (.int p2), .val (.int p3), .val (.ref rkx), .val (.ref rky), .val (.int (1 : Int32)), .val (.int (1 : Int32)), .val (.int (0 : Int32)), .val (.ref b96), .val (.ref w_ASC)] [(.ref rkx), (.ref rkx)])) _
          refine Jvm.RoadKit.acmp (g := (mkF m 145 #[.val (.int p1), .val (.int p2), .val (.int p3), .val (.ref rkx), .val (.ref rky), .val (.int (1 : Int32)), .val (.int (1 : Int32)), .val (.int (0 : Int32)), .val (.ref b96), .val (.ref w_ASC)] [(.ref rkx), (.ref rkx)])) X104 hx rfl rfl rfl (pc0 := 145) (pc' := 150) (same := true) rfl (hb hby at_145) rfl (decide_eq_true rfl) (by decide) (by decide) ?_
          show Steps p.tables e below (T104.setTop (mkF m 150 #[.val (.int p1), .val (.int p2), .val (.int p3), .val (.ref rkx), .val (.ref rky), .val (.int (1 : Int32)), .val (.int (1 : Int32)), .val (.int (0 : Int32)), .val (.ref b96), .val (.ref w_ASC)] [])) _
          refine XS.aload X104.here hx rfl (hb hby at_150) rfl rfl ?_
          show Steps p.tables e below (T104.setTop (mkF m 152 #[.val (.int p1), .val (.int p2), .val (.int p3), .val (.ref rkx), .val (.ref rky), .val (.int (1 : Int32)), .val (.int (1 : Int32)), .val (.int (0 : Int32)), .val (.ref b96), .val (.ref w_ASC)] [(.ref b96)])) _
          refine st105.trans ?_
          show Steps p.tables e below (T105.setTop (mkF m 155 #[.val (.int p1), .val (.int p2), .val (.int p3), .val (.ref rkx), .val (.ref rky), .val (.int (1 : Int32)), .val (.int (1 : Int32)), .val (.int (0 : Int32)), .val (.ref b96), .val (.ref w_ASC)] [(.ref w_ASC)])) _
          refine XS.aload X105.here hx rfl (hb hby at_155) rfl rfl ?_
          show Steps p.tables e below (T105.setTop (mkF m 157 #[.val (.int p1), .val (.int p2), .val (.int p3), .val (.ref rkx), .val (.ref rky), .val (.int (1 : Int32)), .val (.int (1 : Int32)), .val (.int (0 : Int32)), .val (.ref b96), .val (.ref w_ASC)] [(.ref w_ASC), (.ref w_ASC)])) _
          refine Jvm.RoadKit.acmp (g := (mkF m 157 #[.val (.int p1), .val (.int p2), .val (.int p3), .val (.ref rkx), .val (.ref rky), .val (.int (1 : Int32)), .val (.int (1 : Int32)), .val (.int (0 : Int32)), .val (.ref b96), .val (.ref w_ASC)] [(.ref w_ASC), (.ref w_ASC)])) X105 hx rfl rfl rfl (pc0 := 157) (pc' := 162) (same := true) rfl (hb hby at_157) rfl (decide_eq_true rfl) (by decide) (by decide) ?_
          show Steps p.tables e below (T105.setTop (mkF m 162 #[.val (.int p1), .val (.int p2), .val (.int p3), .val (.ref rkx), .val (.ref rky), .val (.int (1 : Int32)), .val (.int (1 : Int32)), .val (.int (0 : Int32)), .val (.ref b96), .val (.ref w_ASC)] [])) _
          refine XS.iload X105.here hx rfl (hb hby at_162) rfl ?_
          show Steps p.tables e below (T105.setTop (mkF m 164 #[.val (.int p1), .val (.int p2), .val (.int p3), .val (.ref rkx), .val (.ref rky), .val (.int (1 : Int32)), .val (.int (1 : Int32)), .val (.int (0 : Int32)), .val (.ref b96), .val (.ref w_ASC)] [(.int (1 : Int32))])) _
          refine XS.ifNo X105.here hx rfl (hb hby at_164) rfl ((if0 _ _).trans (feq (by decide : ¬ ((1 : Int32) = (0 : Int32)))).1) ?_
          show Steps p.tables e below (T105.setTop (mkF m 167 #[.val (.int p1), .val (.int p2), .val (.int p3), .val (.ref rkx), .val (.ref rky), .val (.int (1 : Int32)), .val (.int (1 : Int32)), .val (.int (0 : Int32)), .val (.ref b96), .val (.ref w_ASC)] [])) _
          refine XS.aload X105.here hx rfl (hb hby at_167) rfl rfl ?_
          show Steps p.tables e below (T105.setTop (mkF m 169 #[.val (.int p1), .val (.int p2), .val (.int p3), .val (.ref rkx), .val (.ref rky), .val (.int (1 : Int32)), .val (.int (1 : Int32)), .val (.int (0 : Int32)), .val (.ref b96), .val (.ref w_ASC)] [(.ref b96)])) _
          refine XS.aload X105.here hx rfl (hb hby at_169) rfl rfl ?_
          show Steps p.tables e below (T105.setTop (mkF m 171 #[.val (.int p1), .val (.int p2), .val (.int p3), .val (.ref rkx), .val (.ref rky), .val (.int (1 : Int32)), .val (.int (1 : Int32)), .val (.int (0 : Int32)), .val (.ref b96), .val (.ref w_ASC)] [(.ref rky), (.ref b96)])) _
          refine st106.trans ?_
          show Steps p.tables e below (T106.setTop (mkF m 174 #[.val (.int p1), .val (.int p2), .val (.int p3), .val (.ref rkx), .val (.ref rky), .val (.int (1 : Int32)), .val (.int (1 : Int32)), .val (.int (0 : Int32)), .val (.ref b96), .val (.ref w_ASC)] [(.ref b96)])) _
          refine XS.aload X106.here hx rfl (hb hby at_174) rfl rfl ?_
          show Steps p.tables e below (T106.setTop (mkF m 176 #[.val (.int p1), .val (.int p2), .val (.int p3), .val (.ref rkx), .val (.ref rky), .val (.int (1 : Int32)), .val (.int (1 : Int32)), .val (.int (0 : Int32)), .val (.ref b96), .val (.ref w_ASC)] [(.ref b96), (.ref b96)])) _
          refine Jvm.RoadKit.acmp (g := (mkF m 176 #[.val (.int p1), .val (.int p2), .val (.int p3), .val (.ref rkx), .val (.ref rky), .val (.int (1 : Int32)), .val (.int (1 : Int32)), .val (.int (0 : Int32)), .val (.ref b96), .val (.ref w_ASC)] [(.ref b96), (.ref b96)])) X106 hx rfl rfl rfl (pc0 := 176) (pc' := 181) (same := true) rfl (hb hby at_176) rfl (decide_eq_true rfl) (by decide) (by decide) ?_
          show Steps p.tables e below (T106.setTop (mkF m 181 #[.val (.int p1), .val (.int p2), .val (.int p3), .val (.ref rkx), .val (.ref rky), .val (.int (1 : Int32)), .val (.int (1 : Int32)), .val (.int (0 : Int32)), .val (.ref b96), .val (.ref w_ASC)] [])) _
          refine XS.aload X106.here hx rfl (hb hby at_181) rfl rfl ?_
          show Steps p.tables e below (T106.setTop (mkF m 183 #[.val (.int p1), .val (.int p2), .val (.int p3), .val (.ref rkx), .val (.ref rky), .val (.int (1 : Int32)), .val (.int (1 : Int32)), .val (.int (0 : Int32)), .val (.ref b96), .val (.ref w_ASC)] [(.ref b96)])) _
          refine st107.trans ?_
          show Steps p.tables e below (T107.setTop (mkF m 186 #[.val (.int p1), .val (.int p2), .val (.int p3), .val (.ref rkx), .val (.ref rky), .val (.int (1 : Int32)), .val (.int (1 : Int32)), .val (.int (0 : Int32)), .val (.ref b96), .val (.ref w_ASC)] [(.ref rky)])) _
          refine XS.aload X107.here hx rfl (hb hby at_186) rfl rfl ?_
          show Steps p.tables e below (T107.setTop (mkF m 188 #[.val (.int p1), .val (.int p2), .val (.int p3), .val (.ref rkx), .val (.ref rky), .val (.int (1 : Int32)), .val (.int (1 : Int32)), .val (.int (0 : Int32)), .val (.ref b96), .val (.ref w_ASC)] [(.ref rky), (.ref rky)])) _
          refine Jvm.RoadKit.acmp (g := (mkF m 188 #[.val (.int p1), .val (.int p2), .val (.int p3), .val (.ref rkx), .val (.ref rky), .val (.int (1 : Int32)), .val (.int (1 : Int32)), .val (.int (0 : Int32)), .val (.ref b96), .val (.ref w_ASC)] [(.ref rky), (.ref rky)])) X107 hx rfl rfl rfl (pc0 := 188) (pc' := 193) (same := true) rfl (hb hby at_188) rfl (decide_eq_true rfl) (by decide) (by decide) ?_
          show Steps p.tables e below (T107.setTop (mkF m 193 #[.val (.int p1), .val (.int p2), .val (.int p3), .val (.ref rkx), .val (.ref rky), .val (.int (1 : Int32)), .val (.int (1 : Int32)), .val (.int (0 : Int32)), .val (.ref b96), .val (.ref w_ASC)] [])) _
          refine XS.aload X107.here hx rfl (hb hby at_193) rfl rfl ?_
          show Steps p.tables e below (T107.setTop (mkF m 195 #[.val (.int p1), .val (.int p2), .val (.int p3), .val (.ref rkx), .val (.ref rky), .val (.int (1 : Int32)), .val (.int (1 : Int32)), .val (.int (0 : Int32)), .val (.ref b96), .val (.ref w_ASC)] [(.ref b96)])) _
          refine st108.trans ?_
          show Steps p.tables e below (T108.setTop (mkF m 198 #[.val (.int p1), .val (.int p2), .val (.int p3), .val (.ref rkx), .val (.ref rky), .val (.int (1 : Int32)), .val (.int (1 : Int32)), .val (.int (0 : Int32)), .val (.ref b96), .val (.ref w_ASC)] [(.ref w_ASC)])) _
          refine XS.aload X108.here hx rfl (hb hby at_198) rfl rfl ?_
          show Steps p.tables e below (T108.setTop (mkF m 200 #[.val (.int p1), .val (.int p2), .val (.int p3), .val (.ref rkx), .val (.ref rky), .val (.int (1 : Int32)), .val (.int (1 : Int32)), .val (.int (0 : Int32)), .val (.ref b96), .val (.ref w_ASC)] [(.ref w_ASC), (.ref w_ASC)])) _
          refine Jvm.RoadKit.acmp (g := (mkF m 200 #[.val (.int p1), .val (.int p2), .val (.int p3), .val (.ref rkx), .val (.ref rky), .val (.int (1 : Int32)), .val (.int (1 : Int32)), .val (.int (0 : Int32)), .val (.ref b96), .val (.ref w_ASC)] [(.ref w_ASC), (.ref w_ASC)])) X108 hx rfl rfl rfl (pc0 := 200) (pc' := 205) (same := true) rfl (hb hby at_200) rfl (decide_eq_true rfl) (by decide) (by decide) ?_
          show Steps p.tables e below (T108.setTop (mkF m 205 #[.val (.int p1), .val (.int p2), .val (.int p3), .val (.ref rkx), .val (.ref rky), .val (.int (1 : Int32)), .val (.int (1 : Int32)), .val (.int (0 : Int32)), .val (.ref b96), .val (.ref w_ASC)] [])) _
          refine XS.aload X108.here hx rfl (hb hby at_205) rfl rfl ?_
          show Steps p.tables e below (T108.setTop (mkF m 207 #[.val (.int p1), .val (.int p2), .val (.int p3), .val (.ref rkx), .val (.ref rky), .val (.int (1 : Int32)), .val (.int (1 : Int32)), .val (.int (0 : Int32)), .val (.ref b96), .val (.ref w_ASC)] [(.ref b96)])) _
          refine st109.trans ?_
          show Steps p.tables e below (T109.setTop (mkF m 210 #[.val (.int p1), .val (.int p2), .val (.int p3), .val (.ref rkx), .val (.ref rky), .val (.int (1 : Int32)), .val (.int (1 : Int32)), .val (.int (0 : Int32)), .val (.ref b96), .val (.ref w_ASC)] [(.int (0 : Int32))])) _
          refine XS.iload X109.here hx rfl (hb hby at_210) rfl ?_
          show Steps p.tables e below (T109.setTop (mkF m 212 #[.val (.int p1), .val (.int p2), .val (.int p3), .val (.ref rkx), .val (.ref rky), .val (.int (1 : Int32)), .val (.int (1 : Int32)), .val (.int (0 : Int32)), .val (.ref b96), .val (.ref w_ASC)] [(.int (0 : Int32)), (.int (0 : Int32))])) _
          refine XS.icmpNo X109.here hx rfl (hb hby at_212) rfl (teq (rfl : (0 : Int32) = (0 : Int32))).2 ?_
          show Steps p.tables e below (T109.setTop (mkF m 215 #[.val (.int p1), .val (.int p2), .val (.int p3), .val (.ref rkx), .val (.ref rky), .val (.int (1 : Int32)), .val (.int (1 : Int32)), .val (.int (0 : Int32)), .val (.ref b96), .val (.ref w_ASC)] [])) _
          refine XS.iconst X109.here hx rfl (hb hby at_215) ?_
          show Steps p.tables e below (T109.setTop (mkF m 216 #[.val (.int p1), .val (.int p2), .val (.int p3), .val (.ref rkx), .val (.ref rky), .val (.int (1 : Int32)), .val (.int (1 : Int32)), .val (.int (0 : Int32)), .val (.ref b96), .val (.ref w_ASC)] [(.int (1 : Int32))])) _
          refine XS.goto X109.here hx rfl (pc0 := 216) (pc' := 220) rfl (hb hby at_216) (by decide) (by decide) ?_
          exact kt
        obtain ⟨fs, hr, hrun, hended, hW⟩ := X109.leaveW hS (by rw [hE109]; exact (Nat.le_refl _)) (v := some (.int (1 : Int32))) (fun h => by rw [Bd.returns] at h; cases h)
        refine ⟨_, _, pre110 _ ?_, hrun, hended, _, _, rfl, ?_, ⟨_, rfl⟩, hW.2.1, hW.2.2.1, hW.2.2.2.mono (by decide) (by decide)⟩
        · show Steps p.tables e below (T109.setTop (mkF m 220 #[.val (.int p1), .val (.int p2), .val (.int p3), .val (.ref rkx), .val (.ref rky), .val (.int (1 : Int32)), .val (.int (1 : Int32)), .val (.int (0 : Int32)), .val (.ref b96), .val (.ref w_ASC)] [(.int (1 : Int32))])) _
          exact retN X109 hx (t := .boolean) Bd.returns (by simp) (hb hby at_220) hr
        · show Q0 Z h0 n0 _ T109.heap _
          rw [hE109]
          exact ⟨rfl, N109⟩
      · obtain ⟨T111, h111, X111, e111, E111, A111, D111, -, st111⟩ := newO X4 hx hZ hown (hw _ (List.mem_of_getElem? (i := 10) rfl)) (hw _ (List.mem_of_getElem? (i := 11) rfl)) (hw _ (List.mem_of_getElem? (i := 12) rfl)) hE4 (g := (mkF m 62 #[.val (.int p1), .val (.int p2), .val (.int p3), .val (.ref rkx), .val (.ref rky), .val (.int (1 : Int32)), .val (.int (1 : Int32)), .val (.int (1 : Int32)), .unset, .unset] [])) rfl (hb hby at_62) (by decide) (by decide)
        obtain ⟨b111, g111⟩ : ∃ z, z = h0.size := ⟨_, rfl⟩
        rw [← g111] at A111 D111 st111
        have g_b111 : n0 ≤ b111 := Nat.le_trans Z0 (Nat.le_of_eq g111.symm)
        have F_searchTerms_b111 : Fld Z h111 b111 "com/example/wee_forge/weeforge/model/ProjectFilter" "searchTerms" "Ljava/util/List;" .null := D111 (Or.inl (hw _ (List.mem_of_getElem? (i := 26) rfl))) (ty := (.object "java/util/List")) (by decide)
        have F_topics_b111 : Fld Z h111 b111 "com/example/wee_forge/weeforge/model/ProjectFilter" "topics" "Ljava/util/List;" .null := D111 (Or.inl (hw _ (List.mem_of_getElem? (i := 28) rfl))) (ty := (.object "java/util/List")) (by decide)
        have F_lastActivity_b111 : Fld Z h111 b111 "com/example/wee_forge/weeforge/model/ProjectFilter" "lastActivity" "Lcom/example/wee_forge/weeforge/model/TimeRange;" .null := D111 (Or.inl (hw _ (List.mem_of_getElem? (i := 33) rfl))) (ty := (.object "com/example/wee_forge/weeforge/model/TimeRange")) (by decide)
        have F_updated_b111 : Fld Z h111 b111 "com/example/wee_forge/weeforge/model/ProjectFilter" "updated" "Lcom/example/wee_forge/weeforge/model/TimeRange;" .null := D111 (Or.inl (hw _ (List.mem_of_getElem? (i := 35) rfl))) (ty := (.object "com/example/wee_forge/weeforge/model/TimeRange")) (by decide)
        have F_idAfter_b111 : Fld Z h111 b111 "com/example/wee_forge/weeforge/model/ProjectFilter" "idAfter" "Ljava/util/OptionalLong;" .null := D111 (Or.inl (hw _ (List.mem_of_getElem? (i := 42) rfl))) (ty := (.object "java/util/OptionalLong")) (by decide)
        have F_idBefore_b111 : Fld Z h111 b111 "com/example/wee_forge/weeforge/model/ProjectFilter" "idBefore" "Ljava/util/OptionalLong;" .null := D111 (Or.inl (hw _ (List.mem_of_getElem? (i := 44) rfl))) (ty := (.object "java/util/OptionalLong")) (by decide)
        have F_orderBy_b111 : Fld Z h111 b111 "com/example/wee_forge/weeforge/model/ProjectFilter" "orderBy" "Lcom/example/wee_forge/weeforge/model/ProjectOrder;" .null := D111 (Or.inl (hw _ (List.mem_of_getElem? (i := 47) rfl))) (ty := (.object "com/example/wee_forge/weeforge/model/ProjectOrder")) (by decide)
        have F_sort_b111 : Fld Z h111 b111 "com/example/wee_forge/weeforge/model/ProjectFilter" "sort" "Lcom/example/wee_forge/weeforge/model/SortDirection;" .null := D111 (Or.inl (hw _ (List.mem_of_getElem? (i := 52) rfl))) (ty := (.object "com/example/wee_forge/weeforge/model/SortDirection")) (by decide)
        have F_starredOnly_b111 : Fld Z h111 b111 "com/example/wee_forge/weeforge/model/ProjectFilter" "starredOnly" "Z" (.int (0 : Int32)) := D111 (Or.inl (hw _ (List.mem_of_getElem? (i := 89) rfl))) (ty := .boolean) (by decide)
        obtain ⟨_, _, ⟨T112, L112, k112, n112⟩, -, X112, ⟨Lc112, hQ112, l112, y112, z112⟩, st112⟩ := X111.specialBack hx (y := (⟨"com/example/wee_forge/weeforge/model/ProjectFilter", "<init>", "()V"⟩ : MethodName)) rfl hown (mvT hZ (hw _ (List.mem_of_getElem? (i := 13) rfl))) (mvT hZ (hw _ (List.mem_of_getElem? (i := 14) rfl))) (mvT hZ (hw _ (List.mem_of_getElem? (i := 15) rfl))) (by decide) (backOf (W := 1) (rmC l Z a0 hw [] b111 w_ANY w_CREATED_AT w_DESC wEL wOL h111 n0 (Nat.le_trans Z0 E111.1) A111 F_searchTerms_b111 F_topics_b111 F_lastActivity_b111 F_updated_b111 F_idAfter_b111 F_idBefore_b111 F_orderBy_b111 F_sort_b111 F_starredOnly_b111 g_b111 (Sta.ext E111 S_ANY) (Sta.ext E111 S_CREATED_AT) (Sta.ext E111 S_DESC) (Sta.ext E111 S_EL) (Sta.ext E111 S_OL)) hZ (hw _ (List.mem_of_getElem? (i := 15) rfl)) (hw _ (List.mem_of_getElem? (i := 12) rfl)) (by decide) (by decide)) (g := (mkF m 66 #[.val (.int p1), .val (.int p2), .val (.int p3), .val (.ref rkx), .val (.ref rky), .val (.int (1 : Int32)), .val (.int (1 : Int32)), .val (.int (1 : Int32)), .unset, .unset] [(.ref b111), (.ref b111)])) rfl (by rw [hml]; rfl) (Steps.refl _) (a := b111) (argsL := []) (rest := [(.ref b111)]) (lenOf pd_rm0_1 rfl) rfl (by show 2 * 0 + _ ≤ _; exact Nat.le_of_eq rfl) (hb hby at_66) (fun _ _ => ⟨rfl, e111, (by decide : 1 + 0 ≤ _), (by decide : 12 + 0 ≤ _)⟩)
        dsimp only [Pt.U, Pt.locs, Pt.cells, Pt.slots] at X112 l112 y112 z112 st112 hQ112
        subst l112 y112 z112
        obtain ⟨rfl, N112q, K112, Ei112, Fs112, Fo112, Fb112⟩ := hQ112
        have N112 := Fr.app N4 N112q
        obtain ⟨cq113, kq113, q113a, q113b, q113c⟩ := isOf hZ rfl Ei112
        obtain ⟨_, _, ⟨T113, L113, k113, n113⟩, -, X113, ⟨Lc113, hQ113, l113, y113, z113⟩, st113⟩ := X112.virtualBack hx (y := (⟨"com/example/wee_forge/weeforge/model/ProjectFilter", "orderBy", "()Lcom/example/wee_forge/weeforge/model/ProjectOrder;"⟩ : MethodName)) (z := (⟨"com/example/wee_forge/weeforge/model/ProjectFilter", "orderBy", "()Lcom/example/wee_forge/weeforge/model/ProjectOrder;"⟩ : MethodName)) hown (mvT hZ (hw _ (List.mem_of_getElem? (i := 53) rfl))) (mvT hZ (hw _ (List.mem_of_getElem? (i := 54) rfl))) (notFace_of_selects (args := #[]) (mvT hZ (hw _ (List.mem_of_getElem? (i := 56) rfl)))) (mvT hZ (hw _ (List.mem_of_getElem? (i := 56) rfl))) (mvT hZ (hw _ (List.mem_of_getElem? (i := 55) rfl))) (by decide) (backOf (W := 0) (rmg_orderBy l Z a0 hw [] b111 w_CREATED_AT T112.heap n0 (Nat.le_trans (Nat.le_trans Z0 E111.1) K112.1) Fo112) hZ (hw _ (List.mem_of_getElem? (i := 57) rfl)) (hw _ (List.mem_of_getElem? (i := 12) rfl)) (by decide) (by decide)) q113a q113c (g := (mkF m 73 #[.val (.int p1), .val (.int p2), .val (.int p3), .val (.ref rkx), .val (.ref rky), .val (.int (1 : Int32)), .val (.int (1 : Int32)), .val (.int (1 : Int32)), .val (.ref b111), .unset] [(.ref b111)])) rfl (by rw [hml]; rfl) (Steps.refl _) (argsL := []) (rest := []) (lenOf pd_rm0_2 rfl) rfl (by show 2 * 0 + _ ≤ _; exact Nat.le_of_eq rfl) (hb hby at_73) (fun _ _ => ⟨rfl, rfl, (by decide : 1 + 0 ≤ _), (by decide : 12 + 0 ≤ _)⟩)
        dsimp only [Pt.U, Pt.locs, Pt.cells, Pt.slots] at X113 l113 y113 z113 st113 hQ113
        subst l113 y113 z113
        obtain ⟨rfl, N113q, hE113⟩ := hQ113
        have N113 := Fr.app N112 N113q
        obtain ⟨T114, X114, e114, st114⟩ := getS2 X113 hx hZ hown (host := "") (Or.inl (hw _ (List.mem_of_getElem? (i := 8) rfl))) Via.refl hE113 (own_staK (Sta.ext E111 S_CREATED_AT) K112 (allS ⟨_, A111⟩ all0)) (g := (mkF m 76 #[.val (.int p1), .val (.int p2), .val (.int p3), .val (.ref rkx), .val (.ref rky), .val (.int (1 : Int32)), .val (.int (1 : Int32)), .val (.int (1 : Int32)), .val (.ref b111), .unset] [(.ref w_CREATED_AT)])) rfl (hb hby at_76)
        obtain ⟨T115, X115, e115, st115⟩ := getS2 X114 hx hZ hown (host := "") (Or.inl (hw _ (List.mem_of_getElem? (i := 92) rfl))) Via.refl e114 (own_staK (Sta.ext E111 S_ASC) K112 (allS ⟨_, A111⟩ all0)) (g := (mkF m 91 #[.val (.int p1), .val (.int p2), .val (.int p3), .val (.ref rkx), .val (.ref rky), .val (.int (1 : Int32)), .val (.int (1 : Int32)), .val (.int (1 : Int32)), .val (.ref b111), .unset] [(.ref b111)])) rfl (hb hby at_91)
        obtain ⟨cq116, kq116, q116a, q116b, q116c⟩ := isOf hZ e115 Ei112
        obtain ⟨_, _, ⟨T116, L116, k116, n116⟩, -, X116, hSb116, hgr116, ⟨Lc116, hQ116, l116, y116, z116⟩, st116⟩ := X115.virtualBackS hx (y := (⟨"com/example/wee_forge/weeforge/model/ProjectFilter", "sort", "(Lcom/example/wee_forge/weeforge/model/SortDirection;)Lcom/example/wee_forge/weeforge/model/ProjectFilter;"⟩ : MethodName)) (z := (⟨"com/example/wee_forge/weeforge/model/ProjectFilter", "sort", "(Lcom/example/wee_forge/weeforge/model/SortDirection;)Lcom/example/wee_forge/weeforge/model/ProjectFilter;"⟩ : MethodName)) hown (mvT hZ (hw _ (List.mem_of_getElem? (i := 94) rfl))) (mvT hZ (hw _ (List.mem_of_getElem? (i := 95) rfl))) (notFace_of_selects (args := #[]) (mvT hZ (hw _ (List.mem_of_getElem? (i := 97) rfl)))) (mvT hZ (hw _ (List.mem_of_getElem? (i := 97) rfl))) (mvT hZ (hw _ (List.mem_of_getElem? (i := 96) rfl))) (by decide) (backOfS (W := 0) (rm_sort l Z a0 hw [] b111 w_ASC w_DESC w_CREATED_AT (0 : Int32) T112.heap n0 (Nat.le_trans (Nat.le_trans Z0 E111.1) K112.1) Ei112 Fs112 Fo112 Fb112 g_b111 ((Exa.ext E111 E_ASC).keep K112)) hZ (hw _ (List.mem_of_getElem? (i := 98) rfl)) (hw _ (List.mem_of_getElem? (i := 12) rfl)) (by decide) (by decide)) q116a q116c (g := (mkF m 94 #[.val (.int p1), .val (.int p2), .val (.int p3), .val (.ref rkx), .val (.ref rky), .val (.int (1 : Int32)), .val (.int (1 : Int32)), .val (.int (1 : Int32)), .val (.ref b111), .unset] [(.ref w_ASC), (.ref b111)])) rfl (by rw [hml]; rfl) (Steps.refl _) (argsL := [(.ref w_ASC)]) (rest := []) (lenOf pd_rm0_7 rfl) rfl (by show 2 * 0 + _ ≤ _; exact Nat.le_of_eq rfl) (hb hby at_94) (fun _ _ => ⟨rfl, e115, (by decide : 1 + 2 ≤ _), (by decide : 12 + 20 ≤ _)⟩)
        dsimp only [Pt.U, Pt.locs, Pt.cells, Pt.slots] at X116 l116 y116 z116 st116 hQ116 hSb116 hgr116
        subst l116 y116 z116
        obtain ⟨X116, hS, hZ, hown⟩ := rebS hS (by rw [e115]; exact (Nat.le_trans (Nat.le_trans hk E111.1) K112.1)) X116 hSb116 hgr116 hZ hown
        obtain ⟨rfl, N116q, K116, Ei116, Fs116, Fo116, Fb116⟩ := hQ116
        have N116 := Fr.app N113 N116q
        obtain ⟨cq117, kq117, q117a, q117b, q117c⟩ := isOf hZ rfl Ei116
        obtain ⟨_, _, ⟨T117, L117, k117, n117⟩, -, X117, ⟨Lc117, hQ117, l117, y117, z117⟩, st117⟩ := X116.virtualBack hx (y := (⟨"com/example/wee_forge/weeforge/model/ProjectFilter", "starredOnly", "(Z)Lcom/example/wee_forge/weeforge/model/ProjectFilter;"⟩ : MethodName)) (z := (⟨"com/example/wee_forge/weeforge/model/ProjectFilter", "starredOnly", "(Z)Lcom/example/wee_forge/weeforge/model/ProjectFilter;"⟩ : MethodName)) hown (mvT hZ (hw _ (List.mem_of_getElem? (i := 104) rfl))) (mvT hZ (hw _ (List.mem_of_getElem? (i := 105) rfl))) (notFace_of_selects (args := #[]) (mvT hZ (hw _ (List.mem_of_getElem? (i := 107) rfl)))) (mvT hZ (hw _ (List.mem_of_getElem? (i := 107) rfl))) (mvT hZ (hw _ (List.mem_of_getElem? (i := 106) rfl))) (by decide) (backOf (W := 0) (rm_star l Z a0 hw [] b111 w_ASC w_CREATED_AT (0 : Int32) T116.heap n0 (Nat.le_trans (Nat.le_trans (Nat.le_trans Z0 E111.1) K112.1) K116.1) Ei116 Fs116 Fo116 Fb116 g_b111) hZ (hw _ (List.mem_of_getElem? (i := 108) rfl)) (hw _ (List.mem_of_getElem? (i := 12) rfl)) (by decide) (by decide)) q117a q117c (g := (mkF m 106 #[.val (.int p1), .val (.int p2), .val (.int p3), .val (.ref rkx), .val (.ref rky), .val (.int (1 : Int32)), .val (.int (1 : Int32)), .val (.int (1 : Int32)), .val (.ref b111), .unset] [(.int (1 : Int32)), (.ref b111)])) rfl (by rw [hml]; rfl) (Steps.refl _) (argsL := [(.int (1 : Int32))]) (rest := []) (lenOf pd_rm0_6 rfl) rfl (by show 2 * 0 + _ ≤ _; exact Nat.le_of_eq rfl) (hb hby at_106) (fun _ _ => ⟨rfl, rfl, (by decide : 3 + 0 ≤ _), (by decide : 32 + 0 ≤ _)⟩)
        dsimp only [Pt.U, Pt.locs, Pt.cells, Pt.slots] at X117 l117 y117 z117 st117 hQ117
        subst l117 y117 z117
        obtain ⟨rfl, N117q, K117, Ei117, Fs117, Fo117, Fb117⟩ := hQ117
        have N117 := Fr.app N116 N117q
        obtain ⟨T118, X118, e118, st118⟩ := getS2 X117 hx hZ hown (host := "") (Or.inl (hw _ (List.mem_of_getElem? (i := 92) rfl))) Via.refl rfl (own_staK (own_staK (own_staK (Sta.ext E111 S_ASC) K112 (allS ⟨_, A111⟩ all0)) K116 (allS ⟨_, Ei112⟩ all0)) K117 (allS ⟨_, Ei116⟩ all0)) (g := (mkF m 115 #[.val (.int p1), .val (.int p2), .val (.int p3), .val (.ref rkx), .val (.ref rky), .val (.int (1 : Int32)), .val (.int (1 : Int32)), .val (.int (1 : Int32)), .val (.ref b111), .unset] [])) rfl (hb hby at_115)
        obtain ⟨cq119, kq119, q119a, q119b, q119c⟩ := isOf hZ e118 Ei117
        obtain ⟨_, _, ⟨T119, L119, k119, n119⟩, -, X119, hSb119, hgr119, ⟨Lc119, hQ119, l119, y119, z119⟩, st119⟩ := X118.virtualBackS hx (y := (⟨"com/example/wee_forge/weeforge/model/ProjectFilter", "orderBy", "(Lcom/example/wee_forge/weeforge/model/ProjectOrder;)Lcom/example/wee_forge/weeforge/model/ProjectFilter;"⟩ : MethodName)) (z := (⟨"com/example/wee_forge/weeforge/model/ProjectFilter", "orderBy", "(Lcom/example/wee_forge/weeforge/model/ProjectOrder;)Lcom/example/wee_forge/weeforge/model/ProjectFilter;"⟩ : MethodName)) hown (mvT hZ (hw _ (List.mem_of_getElem? (i := 59) rfl))) (mvT hZ (hw _ (List.mem_of_getElem? (i := 60) rfl))) (notFace_of_selects (args := #[]) (mvT hZ (hw _ (List.mem_of_getElem? (i := 62) rfl)))) (mvT hZ (hw _ (List.mem_of_getElem? (i := 62) rfl))) (mvT hZ (hw _ (List.mem_of_getElem? (i := 61) rfl))) (by decide) (backOfS (W := 0) (rm_orderBy l Z a0 hw [] b111 rkx w_ASC w_CREATED_AT (1 : Int32) T117.heap n0 (Nat.le_trans (Nat.le_trans (Nat.le_trans (Nat.le_trans Z0 E111.1) K112.1) K116.1) K117.1) Ei117 Fs117 Fo117 Fb117 g_b111 ((((Exa.ext E111 E_rkx).keep K112).keep K116).keep K117)) hZ (hw _ (List.mem_of_getElem? (i := 63) rfl)) (hw _ (List.mem_of_getElem? (i := 12) rfl)) (by decide) (by decide)) q119a q119c (g := (mkF m 129 #[.val (.int p1), .val (.int p2), .val (.int p3), .val (.ref rkx), .val (.ref rky), .val (.int (1 : Int32)), .val (.int (1 : Int32)), .val (.int (1 : Int32)), .val (.ref b111), .val (.ref w_ASC)] [(.ref rkx), (.ref b111)])) rfl (by rw [hml]; rfl) (Steps.refl _) (argsL := [(.ref rkx)]) (rest := []) (lenOf pd_rm0_3 rfl) rfl (by show 2 * 0 + _ ≤ _; exact Nat.le_of_eq rfl) (hb hby at_129) (fun _ _ => ⟨rfl, e118, (by decide : 3 + 2 ≤ _), (by decide : 32 + 32 ≤ _)⟩)
        dsimp only [Pt.U, Pt.locs, Pt.cells, Pt.slots] at X119 l119 y119 z119 st119 hQ119 hSb119 hgr119
        subst l119 y119 z119
        obtain ⟨X119, hS, hZ, hown⟩ := rebS hS (by rw [e118]; exact (Nat.le_trans (Nat.le_refl _) K117.1)) X119 hSb119 hgr119 hZ hown
        obtain ⟨rfl, N119q, K119, Ei119, Fs119, Fo119, Fb119⟩ := hQ119
        have N119 := Fr.app N117 N119q
        obtain ⟨cq120, kq120, q120a, q120b, q120c⟩ := isOf hZ rfl Ei119
        obtain ⟨_, _, ⟨T120, L120, k120, n120⟩, -, X120, ⟨Lc120, hQ120, l120, y120, z120⟩, st120⟩ := X119.virtualBack hx (y := (⟨"com/example/wee_forge/weeforge/model/ProjectFilter", "orderBy", "()Lcom/example/wee_forge/weeforge/model/ProjectOrder;"⟩ : MethodName)) (z := (⟨"com/example/wee_forge/weeforge/model/ProjectFilter", "orderBy", "()Lcom/example/wee_forge/weeforge/model/ProjectOrder;"⟩ : MethodName)) hown (mvT hZ (hw _ (List.mem_of_getElem? (i := 53) rfl))) (mvT hZ (hw _ (List.mem_of_getElem? (i := 54) rfl))) (notFace_of_selects (args := #[]) (mvT hZ (hw _ (List.mem_of_getElem? (i := 56) rfl)))) (mvT hZ (hw _ (List.mem_of_getElem? (i := 56) rfl))) (mvT hZ (hw _ (List.mem_of_getElem? (i := 55) rfl))) (by decide) (backOf (W := 0) (rmg_orderBy l Z a0 hw [] b111 rkx T119.heap n0 (Nat.le_trans (Nat.le_trans (Nat.le_trans (Nat.le_trans (Nat.le_trans Z0 E111.1) K112.1) K116.1) K117.1) K119.1) Fo119) hZ (hw _ (List.mem_of_getElem? (i := 57) rfl)) (hw _ (List.mem_of_getElem? (i := 12) rfl)) (by decide) (by decide)) q120a q120c (g := (mkF m 141 #[.val (.int p1), .val (.int p2), .val (.int p3), .val (.ref rkx), .val (.ref rky), .val (.int (1 : Int32)), .val (.int (1 : Int32)), .val (.int (1 : Int32)), .val (.ref b111), .val (.ref w_ASC)] [(.ref b111)])) rfl (by rw [hml]; rfl) (Steps.refl _) (argsL := []) (rest := []) (lenOf pd_rm0_2 rfl) rfl (by show 2 * 0 + _ ≤ _; exact Nat.le_of_eq rfl) (hb hby at_141) (fun _ _ => ⟨rfl, rfl, (by decide : 5 + 0 ≤ _), (by decide : 64 + 0 ≤ _)⟩)
        dsimp only [Pt.U, Pt.locs, Pt.cells, Pt.slots] at X120 l120 y120 z120 st120 hQ120
        subst l120 y120 z120
        obtain ⟨rfl, N120q, hE120⟩ := hQ120
        have N120 := Fr.app N119 N120q
        obtain ⟨cq121, kq121, q121a, q121b, q121c⟩ := isOf hZ hE120 Ei119
        obtain ⟨_, _, ⟨T121, L121, k121, n121⟩, -, X121, ⟨Lc121, hQ121, l121, y121, z121⟩, st121⟩ := X120.virtualBack hx (y := (⟨"com/example/wee_forge/weeforge/model/ProjectFilter", "sort", "()Lcom/example/wee_forge/weeforge/model/SortDirection;"⟩ : MethodName)) (z := (⟨"com/example/wee_forge/weeforge/model/ProjectFilter", "sort", "()Lcom/example/wee_forge/weeforge/model/SortDirection;"⟩ : MethodName)) hown (mvT hZ (hw _ (List.mem_of_getElem? (i := 78) rfl))) (mvT hZ (hw _ (List.mem_of_getElem? (i := 79) rfl))) (notFace_of_selects (args := #[]) (mvT hZ (hw _ (List.mem_of_getElem? (i := 81) rfl)))) (mvT hZ (hw _ (List.mem_of_getElem? (i := 81) rfl))) (mvT hZ (hw _ (List.mem_of_getElem? (i := 80) rfl))) (by decide) (backOf (W := 0) (rmg_sort l Z a0 hw [] b111 w_ASC T119.heap n0 (Nat.le_trans (Nat.le_trans (Nat.le_trans (Nat.le_trans (Nat.le_trans Z0 E111.1) K112.1) K116.1) K117.1) K119.1) Fs119) hZ (hw _ (List.mem_of_getElem? (i := 82) rfl)) (hw _ (List.mem_of_getElem? (i := 12) rfl)) (by decide) (by decide)) q121a q121c (g := (mkF m 152 #[.val (.int p1), .val (.int p2), .val (.int p3), .val (.ref rkx), .val (.ref rky), .val (.int (1 : Int32)), .val (.int (1 : Int32)), .val (.int (1 : Int32)), .val (.ref b111), .val (.ref w_ASC)] [(.ref b111)])) rfl (by rw [hml]; rfl) (Steps.refl _) (argsL := []) (rest := []) (lenOf pd_rm0_4 rfl) rfl (by show 2 * 0 + _ ≤ _; exact Nat.le_of_eq rfl) (hb hby at_152) (fun _ _ => ⟨rfl, hE120, (by decide : 5 + 0 ≤ _), (by decide : 64 + 0 ≤ _)⟩)
        dsimp only [Pt.U, Pt.locs, Pt.cells, Pt.slots] at X121 l121 y121 z121 st121 hQ121
        subst l121 y121 z121
        obtain ⟨rfl, N121q, hE121⟩ := hQ121
        have N121 := Fr.app N120 N121q
        obtain ⟨cq122, kq122, q122a, q122b, q122c⟩ := isOf hZ hE121 Ei119
        obtain ⟨_, _, ⟨T122, L122, k122, n122⟩, -, X122, hSb122, hgr122, ⟨Lc122, hQ122, l122, y122, z122⟩, st122⟩ := X121.virtualBackS hx (y := (⟨"com/example/wee_forge/weeforge/model/ProjectFilter", "orderBy", "(Lcom/example/wee_forge/weeforge/model/ProjectOrder;)Lcom/example/wee_forge/weeforge/model/ProjectFilter;"⟩ : MethodName)) (z := (⟨"com/example/wee_forge/weeforge/model/ProjectFilter", "orderBy", "(Lcom/example/wee_forge/weeforge/model/ProjectOrder;)Lcom/example/wee_forge/weeforge/model/ProjectFilter;"⟩ : MethodName)) hown (mvT hZ (hw _ (List.mem_of_getElem? (i := 59) rfl))) (mvT hZ (hw _ (List.mem_of_getElem? (i := 60) rfl))) (notFace_of_selects (args := #[]) (mvT hZ (hw _ (List.mem_of_getElem? (i := 62) rfl)))) (mvT hZ (hw _ (List.mem_of_getElem? (i := 62) rfl))) (mvT hZ (hw _ (List.mem_of_getElem? (i := 61) rfl))) (by decide) (backOfS (W := 0) (rm_orderBy l Z a0 hw [] b111 rky w_ASC rkx (1 : Int32) T119.heap n0 (Nat.le_trans (Nat.le_trans (Nat.le_trans (Nat.le_trans (Nat.le_trans Z0 E111.1) K112.1) K116.1) K117.1) K119.1) Ei119 Fs119 Fo119 Fb119 g_b111 (((((Exa.ext E111 E_rky).keep K112).keep K116).keep K117).keep K119)) hZ (hw _ (List.mem_of_getElem? (i := 63) rfl)) (hw _ (List.mem_of_getElem? (i := 12) rfl)) (by decide) (by decide)) q122a q122c (g := (mkF m 171 #[.val (.int p1), .val (.int p2), .val (.int p3), .val (.ref rkx), .val (.ref rky), .val (.int (1 : Int32)), .val (.int (1 : Int32)), .val (.int (1 : Int32)), .val (.ref b111), .val (.ref w_ASC)] [(.ref rky), (.ref b111)])) rfl (by rw [hml]; rfl) (Steps.refl _) (argsL := [(.ref rky)]) (rest := []) (lenOf pd_rm0_3 rfl) rfl (by show 2 * 0 + _ ≤ _; exact Nat.le_of_eq rfl) (hb hby at_171) (fun _ _ => ⟨rfl, hE121, (by decide : 5 + 2 ≤ _), (by decide : 64 + 32 ≤ _)⟩)
        dsimp only [Pt.U, Pt.locs, Pt.cells, Pt.slots] at X122 l122 y122 z122 st122 hQ122 hSb122 hgr122
        subst l122 y122 z122
        obtain ⟨X122, hS, hZ, hown⟩ := rebS hS (by rw [hE121]; exact (Nat.le_refl _)) X122 hSb122 hgr122 hZ hown
        obtain ⟨rfl, N122q, K122, Ei122, Fs122, Fo122, Fb122⟩ := hQ122
        have N122 := Fr.app N121 N122q
        obtain ⟨cq123, kq123, q123a, q123b, q123c⟩ := isOf hZ rfl Ei122
        obtain ⟨_, _, ⟨T123, L123, k123, n123⟩, -, X123, ⟨Lc123, hQ123, l123, y123, z123⟩, st123⟩ := X122.virtualBack hx (y := (⟨"com/example/wee_forge/weeforge/model/ProjectFilter", "orderBy", "()Lcom/example/wee_forge/weeforge/model/ProjectOrder;"⟩ : MethodName)) (z := (⟨"com/example/wee_forge/weeforge/model/ProjectFilter", "orderBy", "()Lcom/example/wee_forge/weeforge/model/ProjectOrder;"⟩ : MethodName)) hown (mvT hZ (hw _ (List.mem_of_getElem? (i := 53) rfl))) (mvT hZ (hw _ (List.mem_of_getElem? (i := 54) rfl))) (notFace_of_selects (args := #[]) (mvT hZ (hw _ (List.mem_of_getElem? (i := 56) rfl)))) (mvT hZ (hw _ (List.mem_of_getElem? (i := 56) rfl))) (mvT hZ (hw _ (List.mem_of_getElem? (i := 55) rfl))) (by decide) (backOf (W := 0) (rmg_orderBy l Z a0 hw [] b111 rky T122.heap n0 (Nat.le_trans (Nat.le_trans (Nat.le_trans (Nat.le_trans (Nat.le_trans (Nat.le_trans Z0 E111.1) K112.1) K116.1) K117.1) K119.1) K122.1) Fo122) hZ (hw _ (List.mem_of_getElem? (i := 57) rfl)) (hw _ (List.mem_of_getElem? (i := 12) rfl)) (by decide) (by decide)) q123a q123c (g := (mkF m 183 #[.val (.int p1), .val (.int p2), .val (.int p3), .val (.ref rkx), .val (.ref rky), .val (.int (1 : Int32)), .val (.int (1 : Int32)), .val (.int (1 : Int32)), .val (.ref b111), .val (.ref w_ASC)] [(.ref b111)])) rfl (by rw [hml]; rfl) (Steps.refl _) (argsL := []) (rest := []) (lenOf pd_rm0_2 rfl) rfl (by show 2 * 0 + _ ≤ _; exact Nat.le_of_eq rfl) (hb hby at_183) (fun _ _ => ⟨rfl, rfl, (by decide : 7 + 0 ≤ _), (by decide : 96 + 0 ≤ _)⟩)
        dsimp only [Pt.U, Pt.locs, Pt.cells, Pt.slots] at X123 l123 y123 z123 st123 hQ123
        subst l123 y123 z123
        obtain ⟨rfl, N123q, hE123⟩ := hQ123
        have N123 := Fr.app N122 N123q
        obtain ⟨cq124, kq124, q124a, q124b, q124c⟩ := isOf hZ hE123 Ei122
        obtain ⟨_, _, ⟨T124, L124, k124, n124⟩, -, X124, ⟨Lc124, hQ124, l124, y124, z124⟩, st124⟩ := X123.virtualBack hx (y := (⟨"com/example/wee_forge/weeforge/model/ProjectFilter", "sort", "()Lcom/example/wee_forge/weeforge/model/SortDirection;"⟩ : MethodName)) (z := (⟨"com/example/wee_forge/weeforge/model/ProjectFilter", "sort", "()Lcom/example/wee_forge/weeforge/model/SortDirection;"⟩ : MethodName)) hown (mvT hZ (hw _ (List.mem_of_getElem? (i := 78) rfl))) (mvT hZ (hw _ (List.mem_of_getElem? (i := 79) rfl))) (notFace_of_selects (args := #[]) (mvT hZ (hw _ (List.mem_of_getElem? (i := 81) rfl)))) (mvT hZ (hw _ (List.mem_of_getElem? (i := 81) rfl))) (mvT hZ (hw _ (List.mem_of_getElem? (i := 80) rfl))) (by decide) (backOf (W := 0) (rmg_sort l Z a0 hw [] b111 w_ASC T122.heap n0 (Nat.le_trans (Nat.le_trans (Nat.le_trans (Nat.le_trans (Nat.le_trans (Nat.le_trans Z0 E111.1) K112.1) K116.1) K117.1) K119.1) K122.1) Fs122) hZ (hw _ (List.mem_of_getElem? (i := 82) rfl)) (hw _ (List.mem_of_getElem? (i := 12) rfl)) (by decide) (by decide)) q124a q124c (g := (mkF m 195 #[.val (.int p1), .val (.int p2), .val (.int p3), .val (.ref rkx), .val (.ref rky), .val (.int (1 : Int32)), .val (.int (1 : Int32)), .val (.int (1 : Int32)), .val (.ref b111), .val (.ref w_ASC)] [(.ref b111)])) rfl (by rw [hml]; rfl) (Steps.refl _) (argsL := []) (rest := []) (lenOf pd_rm0_4 rfl) rfl (by show 2 * 0 + _ ≤ _; exact Nat.le_of_eq rfl) (hb hby at_195) (fun _ _ => ⟨rfl, hE123, (by decide : 7 + 0 ≤ _), (by decide : 96 + 0 ≤ _)⟩)
        dsimp only [Pt.U, Pt.locs, Pt.cells, Pt.slots] at X124 l124 y124 z124 st124 hQ124
        subst l124 y124 z124
        obtain ⟨rfl, N124q, hE124⟩ := hQ124
        have N124 := Fr.app N123 N124q
        obtain ⟨cq125, kq125, q125a, q125b, q125c⟩ := isOf hZ hE124 Ei122
        obtain ⟨_, _, ⟨T125, L125, k125, n125⟩, -, X125, ⟨Lc125, hQ125, l125, y125, z125⟩, st125⟩ := X124.virtualBack hx (y := (⟨"com/example/wee_forge/weeforge/model/ProjectFilter", "starredOnly", "()Z"⟩ : MethodName)) (z := (⟨"com/example/wee_forge/weeforge/model/ProjectFilter", "starredOnly", "()Z"⟩ : MethodName)) hown (mvT hZ (hw _ (List.mem_of_getElem? (i := 83) rfl))) (mvT hZ (hw _ (List.mem_of_getElem? (i := 84) rfl))) (notFace_of_selects (args := #[]) (mvT hZ (hw _ (List.mem_of_getElem? (i := 86) rfl)))) (mvT hZ (hw _ (List.mem_of_getElem? (i := 86) rfl))) (mvT hZ (hw _ (List.mem_of_getElem? (i := 85) rfl))) (by decide) (backOf (W := 0) (rmg_starredOnly l Z a0 hw [] b111 (1 : Int32) T122.heap n0 (Nat.le_trans (Nat.le_trans (Nat.le_trans (Nat.le_trans (Nat.le_trans (Nat.le_trans Z0 E111.1) K112.1) K116.1) K117.1) K119.1) K122.1) Fb122 (by decide)) hZ (hw _ (List.mem_of_getElem? (i := 87) rfl)) (hw _ (List.mem_of_getElem? (i := 12) rfl)) (by decide) (by decide)) q125a q125c (g := (mkF m 207 #[.val (.int p1), .val (.int p2), .val (.int p3), .val (.ref rkx), .val (.ref rky), .val (.int (1 : Int32)), .val (.int (1 : Int32)), .val (.int (1 : Int32)), .val (.ref b111), .val (.ref w_ASC)] [(.ref b111)])) rfl (by rw [hml]; rfl) (Steps.refl _) (argsL := []) (rest := []) (lenOf pd_rm0_5 rfl) rfl (by show 2 * 0 + _ ≤ _; exact Nat.le_of_eq rfl) (hb hby at_207) (fun _ _ => ⟨rfl, hE124, (by decide : 7 + 0 ≤ _), (by decide : 96 + 0 ≤ _)⟩)
        dsimp only [Pt.U, Pt.locs, Pt.cells, Pt.slots] at X125 l125 y125 z125 st125 hQ125
        subst l125 y125 z125
        obtain ⟨rfl, N125q, hE125⟩ := hQ125
        have N125 := Fr.app N124 N125q
        have pre126 : ∀ tt, Steps p.tables e below (T125.setTop (mkF m 220 #[.val (.int p1), .val (.int p2), .val (.int p3), .val (.ref rkx), .val (.ref rky), .val (.int (1 : Int32)), .val (.int (1 : Int32)), .val (.int (1 : Int32)), .val (.ref b111), .val (.ref w_ASC)] [(.int (1 : Int32))])) tt → Steps p.tables e below (s₁.setTop (entryFrame m #[(.int p1), (.int p2), (.int p3)] maxLocals)) tt := by
          intro tt kt
          refine pre94 tt ?_
          show Steps p.tables e below (T4.setTop (mkF m 52 #[.val (.int p1), .val (.int p2), .val (.int p3), .val (.ref rkx), .val (.ref rky), .val (.int (1 : Int32)), .val (.int (1 : Int32)), .unset, .unset, .unset] [(.int (p3 &&& (4 : Int32)))])) _
          refine XS.ifNo X4.here hx rfl (hb hby at_52) rfl ((if0 _ _).trans (feq c52_95).1) ?_
          show Steps p.tables e below (T4.setTop (mkF m 55 #[.val (.int p1), .val (.int p2), .val (.int p3), .val (.ref rkx), .val (.ref rky), .val (.int (1 : Int32)), .val (.int (1 : Int32)), .unset, .unset, .unset] [])) _
          refine XS.iconst X4.here hx rfl (hb hby at_55) ?_
          show Steps p.tables e below (T4.setTop (mkF m 56 #[.val (.int p1), .val (.int p2), .val (.int p3), .val (.ref rkx), .val (.ref rky), .val (.int (1 : Int32)), .val (.int (1 : Int32)), .unset, .unset, .unset] [(.int (1 : Int32))])) _
          refine XS.goto X4.here hx rfl (pc0 := 56) (pc' := 60) rfl (hb hby at_56) (by decide) (by decide) ?_
          show Steps p.tables e below (T4.setTop (mkF m 60 #[.val (.int p1), .val (.int p2), .val (.int p3), .val (.ref rkx), .val (.ref rky), .val (.int (1 : Int32)), .val (.int (1 : Int32)), .unset, .unset, .unset] [(.int (1 : Int32))])) _
          refine XS.istore X4.here hx rfl (hb hby at_60) rfl (l' := #[.val (.int p1), .val (.int p2), .val (.int p3), .val (.ref rkx), .val (.ref rky), .val (.int (1 : Int32)), .val (.int (1 : Int32)), .val (.int (1 : Int32)), .unset, .unset]) rfl ?_
          show Steps p.tables e below (T4.setTop (mkF m 62 #[.val (.int p1), .val (.int p2), .val (.int p3), .val (.ref rkx), .val (.ref rky), .val (.int (1 : Int32)), .val (.int (1 : Int32)), .val (.int (1 : Int32)), .unset, .unset] [])) _
          refine st111 _ ?_
          show Steps p.tables e below (T111.setTop (mkF m 65 #[.val (.int p1), .val (.int p2), .val (.int p3), .val (.ref rkx), .val (.ref rky), .val (.int (1 : Int32)), .val (.int (1 : Int32)), .val (.int (1 : Int32)), .unset, .unset] [(.ref b111)])) _
          refine XS.dup X111.here hx rfl (hb hby at_65) rfl rfl ?_
          show Steps p.tables e below (T111.setTop (mkF m 66 #[.val (.int p1), .val (.int p2), .val (.int p3), .val (.ref rkx), .val (.ref rky), .val (.int (1 : Int32)), .val (.int (1 : Int32)), .val (.int (1 : Int32)), .unset, .unset] [(.ref b111), (.ref b111)])) _
          refine st112.trans ?_
          show Steps p.tables e below (T112.setTop (mkF m 69 #[.val (.int p1), .val (.int p2), .val (.int p3), .val (.ref rkx), .val (.ref rky), .val (.int (1 : Int32)), .val (.int (1 : Int32)), .val (.int (1 : Int32)), .unset, .unset] [(.ref b111)])) _
          refine XS.astore X112.here hx rfl (hb hby at_69) rfl rfl (l' := #[.val (.int p1), .val (.int p2), .val (.int p3), .val (.ref rkx), .val (.ref rky), .val (.int (1 : Int32)), .val (.int (1 : Int32)), .val (.int (1 : Int32)), .val (.ref b111), .unset]) rfl ?_
          show Steps p.tables e below (T112.setTop (mkF m 71 #[.val (.int p1), .val (.int p2), .val (.int p3), .val (.ref rkx), .val (.ref rky), .val (.int (1 : Int32)), .val (.int (1 : Int32)), .val (.int (1 : Int32)), .val (.ref b111), .unset] [])) _
          refine XS.aload X112.here hx rfl (hb hby at_71) rfl rfl ?_
          show Steps p.tables e below (T112.setTop (mkF m 73 #[.val (.int p1), .val (.int p2), .val (.int p3), .val (.ref rkx), .val (.ref rky), .val (.int (1 : Int32)), .val (.int (1 : Int32)), .val (.int (1 : Int32)), .val (.ref b111), .unset] [(.ref b111)])) _
          refine st113.trans ?_
          show Steps p.tables e below (T113.setTop (mkF m 76 #[.val (.int p1), .val (.int p2), .val (.int p3), .val (.ref rkx), .val (.ref rky), .val (.int (1 : Int32)), .val (.int (1 : Int32)), .val (.int (1 : Int32)), .val (.ref b111), .unset] [(.ref w_CREATED_AT)])) _
          refine st114 _ ?_
          show Steps p.tables e below (T114.setTop (mkF m 79 #[.val (.int p1), .val (.int p2), .val (.int p3), .val (.ref rkx), .val (.ref rky), .val (.int (1 : Int32)), .val (.int (1 : Int32)), .val (.int (1 : Int32)), .val (.ref b111), .unset] [(.ref w_CREATED_AT), (.ref w_CREATED_AT)])) _
          refine Jvm.RoadKit.acmp (g := (mkF m 79 #[.val (.int p1), .val (.int p2), .val (.int p3), .val (.ref rkx), .val (.ref rky), .val (.int (1 : Int32)), .val (.int (1 : Int32)), .val (.int (1 : Int32)), .val (.ref b111), .unset] [(.ref w_CREATED_AT), (.ref w_CREATED_AT)])) X114 hx rfl rfl rfl (pc0 := 79) (pc' := 84) (same := true) rfl (hb hby at_79) rfl (decide_eq_true rfl) (by decide) (by decide) ?_
          show Steps p.tables e below (T114.setTop (mkF m 84 #[.val (.int p1), .val (.int p2), .val (.int p3), .val (.ref rkx), .val (.ref rky), .val (.int (1 : Int32)), .val (.int (1 : Int32)), .val (.int (1 : Int32)), .val (.ref b111), .unset] [])) _
          refine XS.iload X114.here hx rfl (hb hby at_84) rfl ?_
          show Steps p.tables e below (T114.setTop (mkF m 86 #[.val (.int p1), .val (.int p2), .val (.int p3), .val (.ref rkx), .val (.ref rky), .val (.int (1 : Int32)), .val (.int (1 : Int32)), .val (.int (1 : Int32)), .val (.ref b111), .unset] [(.int (1 : Int32))])) _
          refine XS.ifNo X114.here hx rfl (hb hby at_86) rfl ((if0 _ _).trans (feq (by decide : ¬ ((1 : Int32) = (0 : Int32)))).1) ?_
          show Steps p.tables e below (T114.setTop (mkF m 89 #[.val (.int p1), .val (.int p2), .val (.int p3), .val (.ref rkx), .val (.ref rky), .val (.int (1 : Int32)), .val (.int (1 : Int32)), .val (.int (1 : Int32)), .val (.ref b111), .unset] [])) _
          refine XS.aload X114.here hx rfl (hb hby at_89) rfl rfl ?_
          show Steps p.tables e below (T114.setTop (mkF m 91 #[.val (.int p1), .val (.int p2), .val (.int p3), .val (.ref rkx), .val (.ref rky), .val (.int (1 : Int32)), .val (.int (1 : Int32)), .val (.int (1 : Int32)), .val (.ref b111), .unset] [(.ref b111)])) _
          refine st115 _ ?_
          show Steps p.tables e below (T115.setTop (mkF m 94 #[.val (.int p1), .val (.int p2), .val (.int p3), .val (.ref rkx), .val (.ref rky), .val (.int (1 : Int32)), .val (.int (1 : Int32)), .val (.int (1 : Int32)), .val (.ref b111), .unset] [(.ref w_ASC), (.ref b111)])) _
          refine st116.trans ?_
          show Steps p.tables e below (T116.setTop (mkF m 97 #[.val (.int p1), .val (.int p2), .val (.int p3), .val (.ref rkx), .val (.ref rky), .val (.int (1 : Int32)), .val (.int (1 : Int32)), .val (.int (1 : Int32)), .val (.ref b111), .unset] [(.ref b111)])) _
          refine XS.pop X116.here hx rfl (hb hby at_97) rfl rfl ?_
          show Steps p.tables e below (T116.setTop (mkF m 98 #[.val (.int p1), .val (.int p2), .val (.int p3), .val (.ref rkx), .val (.ref rky), .val (.int (1 : Int32)), .val (.int (1 : Int32)), .val (.int (1 : Int32)), .val (.ref b111), .unset] [])) _
          refine XS.iload X116.here hx rfl (hb hby at_98) rfl ?_
          show Steps p.tables e below (T116.setTop (mkF m 100 #[.val (.int p1), .val (.int p2), .val (.int p3), .val (.ref rkx), .val (.ref rky), .val (.int (1 : Int32)), .val (.int (1 : Int32)), .val (.int (1 : Int32)), .val (.ref b111), .unset] [(.int (1 : Int32))])) _
          refine XS.ifNo X116.here hx rfl (hb hby at_100) rfl ((if0 _ _).trans (feq (by decide : ¬ ((1 : Int32) = (0 : Int32)))).1) ?_
          show Steps p.tables e below (T116.setTop (mkF m 103 #[.val (.int p1), .val (.int p2), .val (.int p3), .val (.ref rkx), .val (.ref rky), .val (.int (1 : Int32)), .val (.int (1 : Int32)), .val (.int (1 : Int32)), .val (.ref b111), .unset] [])) _
          refine XS.aload X116.here hx rfl (hb hby at_103) rfl rfl ?_
          show Steps p.tables e below (T116.setTop (mkF m 105 #[.val (.int p1), .val (.int p2), .val (.int p3), .val (.ref rkx), .val (.ref rky), .val (.int (1 : Int32)), .val (.int (1 : Int32)), .val (.int (1 : Int32)), .val (.ref b111), .unset] [(.ref b111)])) _
          refine XS.iconst X116.here hx rfl (hb hby at_105) ?_
          show Steps p.tables e below (T116.setTop (mkF m 106 #[.val (.int p1), .val (.int p2), .val (.int p3), .val (.ref rkx), .val (.ref rky), .val (.int (1 : Int32)), .val (.int (1 : Int32)), .val (.int (1 : Int32)), .val (.ref b111), .unset] [(.int (1 : Int32)), (.ref b111)])) _
          refine st117.trans ?_
          show Steps p.tables e below (T117.setTop (mkF m 109 #[.val (.int p1), .val (.int p2), .val (.int p3), .val (.ref rkx), .val (.ref rky), .val (.int (1 : Int32)), .val (.int (1 : Int32)), .val (.int (1 : Int32)), .val (.ref b111), .unset] [(.ref b111)])) _
          refine XS.pop X117.here hx rfl (hb hby at_109) rfl rfl ?_
          show Steps p.tables e below (T117.setTop (mkF m 110 #[.val (.int p1), .val (.int p2), .val (.int p3), .val (.ref rkx), .val (.ref rky), .val (.int (1 : Int32)), .val (.int (1 : Int32)), .val (.int (1 : Int32)), .val (.ref b111), .unset] [])) _
          refine XS.iload X117.here hx rfl (hb hby at_110) rfl ?_
          show Steps p.tables e below (T117.setTop (mkF m 112 #[.val (.int p1), .val (.int p2), .val (.int p3), .val (.ref rkx), .val (.ref rky), .val (.int (1 : Int32)), .val (.int (1 : Int32)), .val (.int (1 : Int32)), .val (.ref b111), .unset] [(.int (1 : Int32))])) _
          refine XS.ifNo X117.here hx rfl (hb hby at_112) rfl ((if0 _ _).trans (feq (by decide : ¬ ((1 : Int32) = (0 : Int32)))).1) ?_
          show Steps p.tables e below (T117.setTop (mkF m 115 #[.val (.int p1), .val (.int p2), .val (.int p3), .val (.ref rkx), .val (.ref rky), .val (.int (1 : Int32)), .val (.int (1 : Int32)), .val (.int (1 : Int32)), .val (.ref b111), .unset] [])) _
          refine st118 _ ?_
          show Steps p.tables e below (T118.setTop (mkF m 118 #[.val (.int p1), .val (.int p2), .val (.int p3), .val (.ref rkx), .val (.ref rky), .val (.int (1 : Int32)), .val (.int (1 : Int32)), .val (.int (1 : Int32)), .val (.ref b111), .unset] [(.ref w_ASC)])) _
          refine XS.goto X118.here hx rfl (pc0 := 118) (pc' := 124) rfl (hb hby at_118) (by decide) (by decide) ?_
          show Steps p.tables e below (T118.setTop (mkF m 124 #[.val (.int p1), .val (.int p2), .val (.int p3), .val (.ref rkx), .val (.ref rky), .val (.int (1 : Int32)), .val (.int (1 : Int32)), .val (.int (1 : Int32)), .val (.ref b111), .unset] [(.ref w_ASC)])) _
          refine XS.astore X118.here hx rfl (hb hby at_124) rfl rfl (l' := #[.val (.int p1), .val (.int p2), .val (.int p3), .val (.ref rkx), .val (.ref rky), .val (.int (1 : Int32)), .val (.int (1 : Int32)), .val (.int (1 : Int32)), .val (.ref b111), .val (.ref w_ASC)]) rfl ?_
          show Steps p.tables e below (T118.setTop (mkF m 126 #[.val (.int p1), .val (.int p2), .val (.int p3), .val (.ref rkx), .val (.ref rky), .val (.int (1 : Int32)), .val (.int (1 : Int32)), .val (.int (1 : Int32)), .val (.ref b111), .val (.ref w_ASC)] [])) _
          refine XS.aload X118.here hx rfl (hb hby at_126) rfl rfl ?_
          show Steps p.tables e below (T118.setTop (mkF m 128 #[.val (.int p1), .val (.int p2), .val (.int p3), .val (.ref rkx), .val (.ref rky), .val (.int (1 : Int32)), .val (.int (1 : Int32)), .val (.int (1 : Int32)), .val (.ref b111), .val (.ref w_ASC)] [(.ref b111)])) _
          refine XS.aloadN X118.here hx rfl (hb hby at_128) rfl rfl ?_
          show Steps p.tables e below (T118.setTop (mkF m 129 #[.val (.int p1), .val (.int p2), .val (.int p3), .val (.ref rkx), .val (.ref rky), .val (.int (1 : Int32)), .val (.int (1 : Int32)), .val (.int (1 : Int32)), .val (.ref b111), .val (.ref w_ASC)] [(.ref rkx), (.ref b111)])) _
          refine st119.trans ?_
          show Steps p.tables e below (T119.setTop (mkF m 132 #[.val (.int p1), .val (.int p2), .val (.int p3), .val (.ref rkx), .val (.ref rky), .val (.int (1 : Int32)), .val (.int (1 : Int32)), .val (.int (1 : Int32)), .val (.ref b111), .val (.ref w_ASC)] [(.ref b111)])) _
          refine XS.aload X119.here hx rfl (hb hby at_132) rfl rfl ?_
          show Steps p.tables e below (T119.setTop (mkF m 134 #[.val (.int p1), .val (.int p2), .val (.int p3), .val (.ref rkx), .val (.ref rky), .val (.int (1 : Int32)), .val (.int (1 : Int32)), .val (.int (1 : Int32)), .val (.ref b111), .val (.ref w_ASC)] [(.ref b111), (.ref b111)])) _
          refine Jvm.RoadKit.acmp (g := (mkF m 134 #[.val (.int p1), .val (.int p2), .val (.int p3), .val (.ref rkx), .val (.ref rky), .val (.int (1 : Int32)), .val (.int (1 : Int32)), .val (.int (1 : Int32)), .val (.ref b111), .val (.ref w_ASC)] [(.ref b111), (.ref b111)])) X119 hx rfl rfl rfl (pc0 := 134) (pc' := 139) (same := true) rfl (hb hby at_134) rfl (decide_eq_true rfl) (by decide) (by decide) ?_
          show Steps p.tables e below (T119.setTop (mkF m 139 #[.val (.int p1), .val (.int p2), .val (.int p3), .val (.ref rkx), .val (.ref rky), .val (.int (1 : Int32)), .val (.int (1 : Int32)), .val (.int (1 : Int32)), .val (.ref b111), .val (.ref w_ASC)] [])) _
          refine XS.aload X119.here hx rfl (hb hby at_139) rfl rfl ?_
          show Steps p.tables e below (T119.setTop (mkF m 141 #[.val (.int p1), .val (.int p2), .val (.int p3), .val (.ref rkx), .val (.ref rky), .val (.int (1 : Int32)), .val (.int (1 : Int32)), .val (.int (1 : Int32)), .val (.ref b111), .val (.ref w_ASC)] [(.ref b111)])) _
          refine st120.trans ?_
          show Steps p.tables e below (T120.setTop (mkF m 144 #[.val (.int p1), .val (.int p2), .val (.int p3), .val (.ref rkx), .val (.ref rky), .val (.int (1 : Int32)), .val (.int (1 : Int32)), .val (.int (1 : Int32)), .val (.ref b111), .val (.ref w_ASC)] [(.ref rkx)])) _
          refine XS.aloadN X120.here hx rfl (hb hby at_144) rfl rfl ?_
          show Steps p.tables e below (T120.setTop (mkF m 145 #[.val (.int p1), .val (.int p2), .val (.int p3), .val (.ref rkx), .val (.ref rky), .val (.int (1 : Int32)), .val (.int (1 : Int32)), .val (.int (1 : Int32)), .val (.ref b111), .val (.ref w_ASC)] [(.ref rkx), (.ref rkx)])) _
          refine Jvm.RoadKit.acmp (g := (mkF m 145 #[.val (.int p1), .val (.int p2), .val (.int p3), .val (.ref rkx), .val (.ref rky), .val (.int (1 : Int32)), .val (.int (1 : Int32)), .val (.int (1 : Int32)), .val (.ref b111), .val (.ref w_ASC)] [(.ref rkx), (.ref rkx)])) X120 hx rfl rfl rfl (pc0 := 145) (pc' := 150) (same := true) rfl (hb hby at_145) rfl (decide_eq_true rfl) (by decide) (by decide) ?_
          show Steps p.tables e below (T120.setTop (mkF m 150 #[.val (.int p1), .val (.int p2), .val (.int p3), .val (.ref rkx), .val (.ref rky), .val (.int (1 : Int32)), .val (.int (1 : Int32)), .val (.int (1 : Int32)), .val (.ref b111), .val (.ref w_ASC)] [])) _
          refine XS.aload X120.here hx rfl (hb hby at_150) rfl rfl ?_
          show Steps p.tables e below (T120.setTop (mkF m 152 #[.val (.int p1), .val (.int p2), .val (.int p3), .val (.ref rkx), .val (.ref rky), .val (.int (1 : Int32)), .val (.int (1 : Int32)), .val (.int (1 : Int32)), .val (.ref b111), .val (.ref w_ASC)] [(.ref b111)])) _
          refine st121.trans ?_
          show Steps p.tables e below (T121.setTop (mkF m 155 #[.val (.int p1), .val (.int p2), .val (.int p3), .val (.ref rkx), .val (.ref rky), .val (.int (1 : Int32)), .val (.int (1 : Int32)), .val (.int (1 : Int32)), .val (.ref b111), .val (.ref w_ASC)] [(.ref w_ASC)])) _
          refine XS.aload X121.here hx rfl (hb hby at_155) rfl rfl ?_
          show Steps p.tables e below (T121.setTop (mkF m 157 #[.val (.int p1), .val (.int p2), .val (.int p3), .val (.ref rkx), .val (.ref rky), .val (.int (1 : Int32)), .val (.int (1 : Int32)), .val (.int (1 : Int32)), .val (.ref b111), .val (.ref w_ASC)] [(.ref w_ASC), (.ref w_ASC)])) _
          refine Jvm.RoadKit.acmp (g := (mkF m 157 #[.val (.int p1), .val (.int p2), .val (.int p3), .val (.ref rkx), .val (.ref rky), .val (.int (1 : Int32)), .val (.int (1 : Int32)), .val (.int (1 : Int32)), .val (.ref b111), .val (.ref w_ASC)] [(.ref w_ASC), (.ref w_ASC)])) X121 hx rfl rfl rfl (pc0 := 157) (pc' := 162) (same := true) rfl (hb hby at_157) rfl (decide_eq_true rfl) (by decide) (by decide) ?_
          show Steps p.tables e below (T121.setTop (mkF m 162 #[.val (.int p1), .val (.int p2), .val (.int p3), .val (.ref rkx), .val (.ref rky), .val (.int (1 : Int32)), .val (.int (1 : Int32)), .val (.int (1 : Int32)), .val (.ref b111), .val (.ref w_ASC)] [])) _
          refine XS.iload X121.here hx rfl (hb hby at_162) rfl ?_
          show Steps p.tables e below (T121.setTop (mkF m 164 #[.val (.int p1), .val (.int p2), .val (.int p3), .val (.ref rkx), .val (.ref rky), .val (.int (1 : Int32)), .val (.int (1 : Int32)), .val (.int (1 : Int32)), .val (.ref b111), .val (.ref w_ASC)] [(.int (1 : Int32))])) _
          refine XS.ifNo X121.here hx rfl (hb hby at_164) rfl ((if0 _ _).trans (feq (by decide : ¬ ((1 : Int32) = (0 : Int32)))).1) ?_
          show Steps p.tables e below (T121.setTop (mkF m 167 #[.val (.int p1), .val (.int p2), .val (.int p3), .val (.ref rkx), .val (.ref rky), .val (.int (1 : Int32)), .val (.int (1 : Int32)), .val (.int (1 : Int32)), .val (.ref b111), .val (.ref w_ASC)] [])) _
          refine XS.aload X121.here hx rfl (hb hby at_167) rfl rfl ?_
          show Steps p.tables e below (T121.setTop (mkF m 169 #[.val (.int p1), .val (.int p2), .val (.int p3), .val (.ref rkx), .val (.ref rky), .val (.int (1 : Int32)), .val (.int (1 : Int32)), .val (.int (1 : Int32)), .val (.ref b111), .val (.ref w_ASC)] [(.ref b111)])) _
          refine XS.aload X121.here hx rfl (hb hby at_169) rfl rfl ?_
          show Steps p.tables e below (T121.setTop (mkF m 171 #[.val (.int p1), .val (.int p2), .val (.int p3), .val (.ref rkx), .val (.ref rky), .val (.int (1 : Int32)), .val (.int (1 : Int32)), .val (.int (1 : Int32)), .val (.ref b111), .val (.ref w_ASC)] [(.ref rky), (.ref b111)])) _
          refine st122.trans ?_
          show Steps p.tables e below (T122.setTop (mkF m 174 #[.val (.int p1), .val (.int p2), .val (.int p3), .val (.ref rkx), .val (.ref rky), .val (.int (1 : Int32)), .val (.int (1 : Int32)), .val (.int (1 : Int32)), .val (.ref b111), .val (.ref w_ASC)] [(.ref b111)])) _
          refine XS.aload X122.here hx rfl (hb hby at_174) rfl rfl ?_
          show Steps p.tables e below (T122.setTop (mkF m 176 #[.val (.int p1), .val (.int p2), .val (.int p3), .val (.ref rkx), .val (.ref rky), .val (.int (1 : Int32)), .val (.int (1 : Int32)), .val (.int (1 : Int32)), .val (.ref b111), .val (.ref w_ASC)] [(.ref b111), (.ref b111)])) _
          refine Jvm.RoadKit.acmp (g := (mkF m 176 #[.val (.int p1), .val (.int p2), .val (.int p3), .val (.ref rkx), .val (.ref rky), .val (.int (1 : Int32)), .val (.int (1 : Int32)), .val (.int (1 : Int32)), .val (.ref b111), .val (.ref w_ASC)] [(.ref b111), (.ref b111)])) X122 hx rfl rfl rfl (pc0 := 176) (pc' := 181) (same := true) rfl (hb hby at_176) rfl (decide_eq_true rfl) (by decide) (by decide) ?_
          show Steps p.tables e below (T122.setTop (mkF m 181 #[.val (.int p1), .val (.int p2), .val (.int p3), .val (.ref rkx), .val (.ref rky), .val (.int (1 : Int32)), .val (.int (1 : Int32)), .val (.int (1 : Int32)), .val (.ref b111), .val (.ref w_ASC)] [])) _
          refine XS.aload X122.here hx rfl (hb hby at_181) rfl rfl ?_
          show Steps p.tables e below (T122.setTop (mkF m 183 #[.val (.int p1), .val (.int p2), .val (.int p3), .val (.ref rkx), .val (.ref rky), .val (.int (1 : Int32)), .val (.int (1 : Int32)), .val (.int (1 : Int32)), .val (.ref b111), .val (.ref w_ASC)] [(.ref b111)])) _
          refine st123.trans ?_
          show Steps p.tables e below (T123.setTop (mkF m 186 #[.val (.int p1), .val (.int p2), .val (.int p3), .val (.ref rkx), .val (.ref rky), .val (.int (1 : Int32)), .val (.int (1 : Int32)), .val (.int (1 : Int32)), .val (.ref b111), .val (.ref w_ASC)] [(.ref rky)])) _
          refine XS.aload X123.here hx rfl (hb hby at_186) rfl rfl ?_
          show Steps p.tables e below (T123.setTop (mkF m 188 #[.val (.int p1), .val (.int p2), .val (.int p3), .val (.ref rkx), .val (.ref rky), .val (.int (1 : Int32)), .val (.int (1 : Int32)), .val (.int (1 : Int32)), .val (.ref b111), .val (.ref w_ASC)] [(.ref rky), (.ref rky)])) _
          refine Jvm.RoadKit.acmp (g := (mkF m 188 #[.val (.int p1), .val (.int p2), .val (.int p3), .val (.ref rkx), .val (.ref rky), .val (.int (1 : Int32)), .val (.int (1 : Int32)), .val (.int (1 : Int32)), .val (.ref b111), .val (.ref w_ASC)] [(.ref rky), (.ref rky)])) X123 hx rfl rfl rfl (pc0 := 188) (pc' := 193) (same := true) rfl (hb hby at_188) rfl (decide_eq_true rfl) (by decide) (by decide) ?_
          show Steps p.tables e below (T123.setTop (mkF m 193 #[.val (.int p1), .val (.int p2), .val (.int p3), .val (.ref rkx), .val (.ref rky), .val (.int (1 : Int32)), .val (.int (1 : Int32)), .val (.int (1 : Int32)), .val (.ref b111), .val (.ref w_ASC)] [])) _
          refine XS.aload X123.here hx rfl (hb hby at_193) rfl rfl ?_
          show Steps p.tables e below (T123.setTop (mkF m 195 #[.val (.int p1), .val (.int p2), .val (.int p3), .val (.ref rkx), .val (.ref rky), .val (.int (1 : Int32)), .val (.int (1 : Int32)), .val (.int (1 : Int32)), .val (.ref b111), .val (.ref w_ASC)] [(.ref b111)])) _
          refine st124.trans ?_
          show Steps p.tables e below (T124.setTop (mkF m 198 #[.val (.int p1), .val (.int p2), .val (.int p3), .val (.ref rkx), .val (.ref rky), .val (.int (1 : Int32)), .val (.int (1 : Int32)), .val (.int (1 : Int32)), .val (.ref b111), .val (.ref w_ASC)] [(.ref w_ASC)])) _
          refine XS.aload X124.here hx rfl (hb hby at_198) rfl rfl ?_
          show Steps p.tables e below (T124.setTop (mkF m 200 #[.val (.int p1), .val (.int p2), .val (.int p3), .val (.ref rkx), .val (.ref rky), .val (.int (1 : Int32)), .val (.int (1 : Int32)), .val (.int (1 : Int32)), .val (.ref b111), .val (.ref w_ASC)] [(.ref w_ASC), (.ref w_ASC)])) _
          refine Jvm.RoadKit.acmp (g := (mkF m 200 #[.val (.int p1), .val (.int p2), .val (.int p3), .val (.ref rkx), .val (.ref rky), .val (.int (1 : Int32)), .val (.int (1 : Int32)), .val (.int (1 : Int32)), .val (.ref b111), .val (.ref w_ASC)] [(.ref w_ASC), (.ref w_ASC)])) X124 hx rfl rfl rfl (pc0 := 200) (pc' := 205) (same := true) rfl (hb hby at_200) rfl (decide_eq_true rfl) (by decide) (by decide) ?_
          show Steps p.tables e below (T124.setTop (mkF m 205 #[.val (.int p1), .val (.int p2), .val (.int p3), .val (.ref rkx), .val (.ref rky), .val (.int (1 : Int32)), .val (.int (1 : Int32)), .val (.int (1 : Int32)), .val (.ref b111), .val (.ref w_ASC)] [])) _
          refine XS.aload X124.here hx rfl (hb hby at_205) rfl rfl ?_
          show Steps p.tables e below (T124.setTop (mkF m 207 #[.val (.int p1), .val (.int p2), .val (.int p3), .val (.ref rkx), .val (.ref rky), .val (.int (1 : Int32)), .val (.int (1 : Int32)), .val (.int (1 : Int32)), .val (.ref b111), .val (.ref w_ASC)] [(.ref b111)])) _
          refine st125.trans ?_
          show Steps p.tables e below (T125.setTop (mkF m 210 #[.val (.int p1), .val (.int p2), .val (.int p3), .val (.ref rkx), .val (.ref rky), .val (.int (1 : Int32)), .val (.int (1 : Int32)), .val (.int (1 : Int32)), .val (.ref b111), .val (.ref w_ASC)] [(.int (1 : Int32))])) _
          refine XS.iload X125.here hx rfl (hb hby at_210) rfl ?_
          show Steps p.tables e below (T125.setTop (mkF m 212 #[.val (.int p1), .val (.int p2), .val (.int p3), .val (.ref rkx), .val (.ref rky), .val (.int (1 : Int32)), .val (.int (1 : Int32)), .val (.int (1 : Int32)), .val (.ref b111), .val (.ref w_ASC)] [(.int (1 : Int32)), (.int (1 : Int32))])) _
          refine XS.icmpNo X125.here hx rfl (hb hby at_212) rfl (teq (rfl : (1 : Int32) = (1 : Int32))).2 ?_
          show Steps p.tables e below (T125.setTop (mkF m 215 #[.val (.int p1), .val (.int p2), .val (.int p3), .val (.ref rkx), .val (.ref rky), .val (.int (1 : Int32)), .val (.int (1 : Int32)), .val (.int (1 : Int32)), .val (.ref b111), .val (.ref w_ASC)] [])) _
          refine XS.iconst X125.here hx rfl (hb hby at_215) ?_
          show Steps p.tables e below (T125.setTop (mkF m 216 #[.val (.int p1), .val (.int p2), .val (.int p3), .val (.ref rkx), .val (.ref rky), .val (.int (1 : Int32)), .val (.int (1 : Int32)), .val (.int (1 : Int32)), .val (.ref b111), .val (.ref w_ASC)] [(.int (1 : Int32))])) _
          refine XS.goto X125.here hx rfl (pc0 := 216) (pc' := 220) rfl (hb hby at_216) (by decide) (by decide) ?_
          exact kt
        obtain ⟨fs, hr, hrun, hended, hW⟩ := X125.leaveW hS (by rw [hE125]; exact (Nat.le_refl _)) (v := some (.int (1 : Int32))) (fun h => by rw [Bd.returns] at h; cases h)
        refine ⟨_, _, pre126 _ ?_, hrun, hended, _, _, rfl, ?_, ⟨_, rfl⟩, hW.2.1, hW.2.2.1, hW.2.2.2.mono (by decide) (by decide)⟩
        · show Steps p.tables e below (T125.setTop (mkF m 220 #[.val (.int p1), .val (.int p2), .val (.int p3), .val (.ref rkx), .val (.ref rky), .val (.int (1 : Int32)), .val (.int (1 : Int32)), .val (.int (1 : Int32)), .val (.ref b111), .val (.ref w_ASC)] [(.int (1 : Int32))])) _
          exact retN X125 hx (t := .boolean) Bd.returns (by simp) (hb hby at_220) hr
        · show Q0 Z h0 n0 _ T125.heap _
          rw [hE125]
          exact ⟨rfl, N125⟩
set_option maxRecDepth 65536 in
set_option maxHeartbeats 40000000 in
theorem comes_1 {Post : Tables → Env → Array Value → State → Outcome → State → Prop} (hpost : ∀ tb e args s v u, (limb_1_1.after args s (.returned v) u = true ∧ limb_1_2.after args s (.returned v) u = true ∧ True) → ReturnedEndW s (.returned v) u (Jvm.fieldLocs frame_1_writes args s ++ Jvm.arrayLocs frame_1_arrays args s ++ Jvm.staticLocs frame_1_statics s) 16 2176 → Post tb e args s (.returned v) u) :
    ArmFor flags0 classFile x code maxLocals ret World_1 tables_1 room_1 Calls_1 rest_1 Pre_1 Post := by
  intro l hfl _ _ p e ha hc hk s m args below hf hA hF happ hP
  obtain ⟨hcalls, hrest, hpre⟩ := hP
  obtain ⟨-, -, -, hnamed, -, -, -, hat⟩ := (Spec.applies_iff hf).mp happ
  obtain ⟨hg, hn⟩ := and_e (Cond.before_iff.mp (show (Jvm.Cond.and given_1 narrow_1).before args s = true from hpre))
  have hw := fun d (hd : d ∈ tables_1) => atoms_spec (ws := Jvm.Cond.code x code maxLocals ret :: tables_1) hat d (List.mem_cons_of_mem _ hd)
  obtain ⟨g1a, g1b⟩ := and_e hg
  obtain ⟨g2a, g2b⟩ := and_e g1b
  obtain ⟨g3a, g3b⟩ := and_e g2b
  obtain ⟨w0, w1, w2, rfl⟩ : ∃ w0 w1 w2 : Value, args = #[w0, w1, w2] := by
    have hs : args.size = 3 := by simpa [Cond.value, given_1] using g1a
    obtain ⟨L⟩ := args
    match L, hs with
    | [w0, w1, w2], _ => exact ⟨w0, w1, w2, rfl⟩
  have hfit : Fit s := fun {y c} hc i hi => by
    obtain ⟨ha, rfl⟩ := Array.getElem?_eq_some_iff.mp hc
    have q := List.all_eq_true.mp ((Array.all_eq_true_iff_forall_mem.mp hF) _ (Array.getElem_mem ha)) i (List.mem_range.mpr hi)
    simpa [Array.getElem?_eq_getElem hi] using q
  obtain ⟨hsets, hown0⟩ := atoms_of _ (rest_1_c_eq ▸ (show rest_1_c.before _ s = true from hrest))
  have hr0 := Cond.before_iff.mp hown0
  obtain ⟨i0, ei0⟩ := is_v g2a
  obtain rfl : w0 = (.int i0) := Option.some.inj ei0
  obtain ⟨i1, ei1⟩ := is_v g3a
  obtain rfl : w1 = (.int i1) := Option.some.inj ei1
  obtain ⟨i2, ei2⟩ := is_v g3b
  obtain rfl : w2 = (.int i2) := Option.some.inj ei2
  obtain ⟨n1a, n1b⟩ := and_e hn
  obtain ⟨w_ID, ev_ID⟩ := exa_v n1a
  have S_ID := Sta.start ev_ID (Or.inr ⟨(hw _ (List.mem_of_getElem? (i := 6) rfl)), (hw _ (List.mem_of_getElem? (i := 7) rfl))⟩)
  have E_ID := Exa.start ev_ID n1a
  obtain ⟨n2a, n2b⟩ := and_e n1b
  obtain ⟨w_CREATED_AT, ev_CREATED_AT⟩ := exa_v n2a
  have S_CREATED_AT := Sta.start ev_CREATED_AT (Or.inr ⟨(hw _ (List.mem_of_getElem? (i := 6) rfl)), (hw _ (List.mem_of_getElem? (i := 9) rfl))⟩)
  have E_CREATED_AT := Exa.start ev_CREATED_AT n2a
  obtain ⟨n3a, n3b⟩ := and_e n2b
  obtain ⟨w_ANY, ev_ANY⟩ := exa_v n3a
  have S_ANY := Sta.start ev_ANY (Or.inr ⟨(hw _ (List.mem_of_getElem? (i := 30) rfl)), (hw _ (List.mem_of_getElem? (i := 31) rfl))⟩)
  have E_ANY := Exa.start ev_ANY n3a
  obtain ⟨n4a, n4b⟩ := and_e n3b
  obtain ⟨w_DESC, ev_DESC⟩ := exa_v n4a
  have S_DESC := Sta.start ev_DESC (Or.inr ⟨(hw _ (List.mem_of_getElem? (i := 49) rfl)), (hw _ (List.mem_of_getElem? (i := 50) rfl))⟩)
  have E_DESC := Exa.start ev_DESC n4a
  obtain ⟨n5a, n5b⟩ := and_e n4b
  obtain ⟨w_NAME, ev_NAME⟩ := exa_v n5a
  have S_NAME := Sta.start ev_NAME (Or.inr ⟨(hw _ (List.mem_of_getElem? (i := 6) rfl)), (hw _ (List.mem_of_getElem? (i := 91) rfl))⟩)
  have E_NAME := Exa.start ev_NAME n5a
  obtain ⟨n6a, n6b⟩ := and_e n5b
  obtain ⟨w_ASC, ev_ASC⟩ := exa_v n6a
  have S_ASC := Sta.start ev_ASC (Or.inr ⟨(hw _ (List.mem_of_getElem? (i := 49) rfl)), (hw _ (List.mem_of_getElem? (i := 93) rfl))⟩)
  have E_ASC := Exa.start ev_ASC n6a
  obtain ⟨n7a, n7b⟩ := and_e n6b
  obtain ⟨w_PATH, ev_PATH⟩ := exa_v n7a
  have S_PATH := Sta.start ev_PATH (Or.inr ⟨(hw _ (List.mem_of_getElem? (i := 6) rfl)), (hw _ (List.mem_of_getElem? (i := 103) rfl))⟩)
  have E_PATH := Exa.start ev_PATH n7a
  obtain ⟨n8a, n8b⟩ := and_e n7b
  obtain ⟨w_LAST_ACTIVITY_AT, ev_LAST_ACTIVITY_AT⟩ := exa_v n8a
  have S_LAST_ACTIVITY_AT := Sta.start ev_LAST_ACTIVITY_AT (Or.inr ⟨(hw _ (List.mem_of_getElem? (i := 6) rfl)), (hw _ (List.mem_of_getElem? (i := 110) rfl))⟩)
  have E_LAST_ACTIVITY_AT := Exa.start ev_LAST_ACTIVITY_AT n8a
  obtain ⟨w_UPDATED_AT, ev_UPDATED_AT⟩ := exa_v n8b
  have S_UPDATED_AT := Sta.start ev_UPDATED_AT (Or.inr ⟨(hw _ (List.mem_of_getElem? (i := 6) rfl)), (hw _ (List.mem_of_getElem? (i := 112) rfl))⟩)
  have E_UPDATED_AT := Exa.start ev_UPDATED_AT n8b
  have b2 := Cond.before_iff.mp (hsets _ (List.mem_of_getElem? (i := 2) rfl))
  have b9 := Cond.before_iff.mp (hsets _ (List.mem_of_getElem? (i := 9) rfl))
  obtain ⟨wEL, evEL⟩ := exa_v b2
  have S_EL := Sta.start evEL (Or.inl (hsets _ (List.mem_of_getElem? (i := 1) rfl)))
  obtain ⟨wOL, evOL⟩ := exa_v b9
  have S_OL := Sta.start evOL (Or.inl (hsets _ (List.mem_of_getElem? (i := 8) rfl)))
  obtain ⟨n, o, h1, h2, h3, _, L, rfl, ⟨rfl, N⟩, hq⟩ := rm0 l s _ hw tables_1 i0 i1 i2 w_ID w_NAME w_PATH w_CREATED_AT w_UPDATED_AT w_LAST_ACTIVITY_AT w_ASC w_DESC w_ANY wEL wOL s.heap s.heap.size (Nat.le_refl _) S_ID S_NAME S_PATH S_CREATED_AT S_UPDATED_AT S_LAST_ACTIVITY_AT S_ASC S_DESC S_ANY E_ID E_NAME E_PATH E_CREATED_AT E_UPDATED_AT E_LAST_ACTIVITY_AT E_ASC E_DESC E_ANY S_EL S_OL p e ha hc hk s m _ below hf ((Spec.applies_iff_loose hf).mp happ).1 ⟨rfl, State.Warmed39.refl s, rfl⟩ trivial
  refine ⟨n, _, h1, h2, h3, hpost _ _ _ _ _ _ ⟨Cond.after_iff.mpr rfl, Cond.after_iff.mpr (eq_i res_at (Term.int_eval (1)) rfl), trivial⟩ ⟨hq.1, hq.2.1, hq.2.2.1, (hq.2.2.2.sift fun y hy => Or.inr (N y hy)).mono (by decide) (by decide)⟩⟩
theorem main_1_1 : Claimed_1_1 := comes_1 fun _ _ _ _ _ _ h hF => ⟨h.1, hF⟩
theorem main_1_2 : Claimed_1_2 := comes_1 fun _ _ _ _ _ _ h hF => ⟨h.2.1, hF⟩
end Jvm.Pilot.@@N@@
namespace Jvm.Pilot.@@N@@
open Jvm Jvm.ClassFile Sem Op Lib Jvm.Free Jvm.Stand Jvm.Pilot.@@N@@.Jvm.D
/-! MADE BY PROGRAM (witnessworld.py) out of the Statement's table words and the real class files: 32 classes; the members and pool entries that the words name. The judged class is class 1, her method 2. -/
namespace start1
open Jvm.ClassFile
def u (s : String) : CpInfo := .utf8 (stringToUtf16 s)
/-- a pool by its gaps: so many unusable entries, then the entry; so many at the end -/
def gap : Nat → List CpInfo → List CpInfo
  | 0, r => r
  | n + 1, r => .unusable :: gap n r
def poolList (es : List (Nat × CpInfo)) (last : Nat) : List CpInfo := es.foldr (fun e r => gap e.1 (e.2 :: r)) (gap last [])
def pool (es : List (Nat × CpInfo)) (last : Nat) : Array CpInfo := ⟨poolList es last⟩
def fileOf (pool : Array CpInfo) (this : Nat) (attrs : Array Attribute := #[]) (ms : Array MethodInfo := #[]) (fl : Nat := 33) (sup : Nat := 0) (ifs : Array Nat := #[]) (fds : Array FieldInfo := #[]) : ClassFile where
  minorVersion := 0
  majorVersion := 65
  constantPool := pool
  accessFlags := fl
  thisClass := this
  superClass := sup
  interfaces := ifs
  fields := fds
  methods := ms
  attributes := attrs
def plain (name : String) (sup : Option ClassId) : Class where
  name := name
  kind := .ordinary
  loader := none
  accessFlags := 33
  super := sup
  interfaces := #[]
  cf := none
  fields := #[]
  methods := #[]
  instanceTypes := #[]
  staticTypes := #[]
  resolved := #[]
  callSites := []
  init := .initialized
  statics := none
  mirror := none

def pool0 : Array CpInfo := pool [(5, u "<init>"), (0, u "()V"), (1, .class_ 10), (1, u "java/lang/Object")] 113

def k0c0 : Code := { maxStack := 0, maxLocals := 1, code := object_method_1_code, exceptionTable := #[], attributes := #[] }
def k0m0 : Method := { name := "<init>", desc := "()V", sig := { parameters := [], returnType := none }, accessFlags := 1, code := some k0c0 }
/-- java/lang/Object -/
def k0 : Class := { plain "java/lang/Object" none with
  accessFlags := 33
  interfaces := #[]
  cf := some (fileOf pool0 8 #[] #[{ accessFlags := 1, nameIndex := 5, descriptorIndex := 6, attributes := #[] }] 33 0 #[] #[])
  fields := #[]
  methods := #[k0m0]
  instanceTypes := #[]
  staticTypes := #[]
  resolved := Array.replicate 124 none
  statics := none }

def pool1 : Array CpInfo := pool [(2, .class_ 4), (0, .nameAndType 5 6), (0, u "java/lang/Object"), (0, u "<init>"), (0, u "()V"), (0, .fieldref 8 9), (0, .class_ 10), (0, .nameAndType 11 12), (0, u "com/example/wee_forge/weeforge/model/ProjectOrder"), (0, u "ID"), (0, u "Lcom/example/wee_forge/weeforge/model/ProjectOrder;"), (0, .fieldref 8 14), (0, .nameAndType 15 12), (0, u "NAME"), (0, .fieldref 8 17), (0, .nameAndType 18 12), (0, u "PATH"), (0, .fieldref 8 20), (0, .nameAndType 21 12), (0, u "CREATED_AT"), (0, .fieldref 8 23), (0, .nameAndType 24 12), (0, u "UPDATED_AT"), (0, .fieldref 8 26), (0, .nameAndType 27 12), (0, u "LAST_ACTIVITY_AT"), (0, .integer 2147483647), (0, .methodref 30 31), (0, .class_ 32), (0, .nameAndType 33 34), (0, u "com/example/wee_forge/weeforge/model/ProjectFilterOrderByPinLaw"), (0, u "pick"), (0, u "(I)Lcom/example/wee_forge/weeforge/model/ProjectOrder;"), (0, .class_ 36), (0, u "com/example/wee_forge/weeforge/model/ProjectFilter"), (0, .methodref 35 3), (0, .methodref 35 39), (0, .nameAndType 40 41), (0, u "orderBy"), (0, u "()Lcom/example/wee_forge/weeforge/model/ProjectOrder;"), (0, .fieldref 43 44), (0, .class_ 45), (0, .nameAndType 46 47), (0, u "com/example/wee_forge/weeforge/model/SortDirection"), (0, u "ASC"), (0, u "Lcom/example/wee_forge/weeforge/model/SortDirection;"), (0, .methodref 35 49), (0, .nameAndType 50 51), (0, u "sort"), (0, u "(Lcom/example/wee_forge/weeforge/model/SortDirection;)Lcom/example/wee_forge/weeforge/model/ProjectFilter;"), (0, .methodref 35 53), (0, .nameAndType 54 55), (0, u "starredOnly"), (0, u "(Z)Lcom/example/wee_forge/weeforge/model/ProjectFilter;"), (0, .fieldref 43 57), (0, .nameAndType 58 47), (0, u "DESC"), (0, .methodref 35 60), (0, .nameAndType 40 61), (0, u "(Lcom/example/wee_forge/weeforge/model/ProjectOrder;)Lcom/example/wee_forge/weeforge/model/ProjectFilter;"), (0, .methodref 35 63), (0, .nameAndType 50 64), (0, u "()Lcom/example/wee_forge/weeforge/model/SortDirection;"), (0, .methodref 35 66), (0, .nameAndType 54 67), (0, u "()Z"), (3, u "law"), (0, u "(III)Z")] 2

def k1m0 : Method := { name := "<init>", desc := "()V", sig := { parameters := [], returnType := none }, accessFlags := 1, code := none }
def k1c1 : Code := { maxStack := 2, maxLocals := 1, code := method_2_code, exceptionTable := #[], attributes := #[] }
def k1m1 : Method := { name := "pick", desc := "(I)Lcom/example/wee_forge/weeforge/model/ProjectOrder;", sig := { parameters := [.int], returnType := some (.object "com/example/wee_forge/weeforge/model/ProjectOrder") }, accessFlags := 10, code := some k1c1 }
def k1c2 : Code := { maxStack := 2, maxLocals := 10, code := code, exceptionTable := #[], attributes := #[] }
def k1m2 : Method := { name := "law", desc := "(III)Z", sig := { parameters := [.int, .int, .int], returnType := some .boolean }, accessFlags := 9, code := some k1c2 }
/-- com/example/wee_forge/weeforge/model/ProjectFilterOrderByPinLaw -/
def k1 : Class := { plain "com/example/wee_forge/weeforge/model/ProjectFilterOrderByPinLaw" (some 0) with
  accessFlags := 49
  interfaces := #[]
  cf := some (fileOf pool1 30 #[] #[{ accessFlags := 1, nameIndex := 5, descriptorIndex := 6, attributes := #[] }, { accessFlags := 10, nameIndex := 33, descriptorIndex := 34, attributes := #[] }, { accessFlags := 9, nameIndex := 71, descriptorIndex := 72, attributes := #[] }] 49 2 #[] #[])
  fields := #[]
  methods := #[k1m0, k1m1, k1m2]
  instanceTypes := #[]
  staticTypes := #[]
  resolved := Array.replicate 75 none
  statics := none }

def pool2 : Array CpInfo := pool [(1, .class_ 2), (0, u "java/lang/constant/Constable"), (0, .class_ 4), (0, u "java/lang/Object")] 6

/-- java/lang/constant/Constable -/
def k2 : Class := { plain "java/lang/constant/Constable" (some 0) with
  accessFlags := 1537
  interfaces := #[]
  cf := some (fileOf pool2 1 #[] #[] 1537 3 #[] #[])
  fields := #[]
  methods := #[]
  instanceTypes := #[]
  staticTypes := #[]
  resolved := Array.replicate 11 none
  statics := none }

def pool3 : Array CpInfo := pool [(1, .class_ 2), (0, u "java/lang/Comparable"), (0, .class_ 4), (0, u "java/lang/Object")] 7

/-- java/lang/Comparable -/
def k3 : Class := { plain "java/lang/Comparable" (some 0) with
  accessFlags := 1537
  interfaces := #[]
  cf := some (fileOf pool3 1 #[] #[] 1537 3 #[] #[])
  fields := #[]
  methods := #[]
  instanceTypes := #[]
  staticTypes := #[]
  resolved := Array.replicate 12 none
  statics := none }

def pool4 : Array CpInfo := pool [(1, .class_ 2), (0, u "java/io/Serializable"), (0, .class_ 4), (0, u "java/lang/Object")] 2

/-- java/io/Serializable -/
def k4 : Class := { plain "java/io/Serializable" (some 0) with
  accessFlags := 1537
  interfaces := #[]
  cf := some (fileOf pool4 1 #[] #[] 1537 3 #[] #[])
  fields := #[]
  methods := #[]
  instanceTypes := #[]
  staticTypes := #[]
  resolved := Array.replicate 7 none
  statics := none }

def pool5 : Array CpInfo := pool [(2, .class_ 4), (1, u "java/lang/Enum"), (0, u "name"), (0, u "Ljava/lang/String;"), (2, u "ordinal"), (0, u "I"), (1, .class_ 14), (1, u "java/lang/Object"), (4, u "hash"), (86, .class_ 108), (1, u "java/lang/Enum$EnumDesc"), (2, .class_ 112), (0, u "java/lang/constant/Constable"), (0, .class_ 114), (0, u "java/lang/Comparable"), (0, .class_ 116), (0, u "java/io/Serializable")] 87

/-- java/lang/Enum -/
def k5 : Class := { plain "java/lang/Enum" (some 0) with
  accessFlags := 1057
  interfaces := #[2, 3, 4]
  cf := some (fileOf pool5 2 #[.nestMembers #[106]] #[] 1057 12 #[111, 113, 115] #[{ accessFlags := 18, nameIndex := 5, descriptorIndex := 6, attributes := #[] }, { accessFlags := 18, nameIndex := 9, descriptorIndex := 10, attributes := #[] }, { accessFlags := 2, nameIndex := 19, descriptorIndex := 10, attributes := #[] }])
  fields := #[{ name := "name", type := (.object "java/lang/String"), accessFlags := 18, slot := 0, constantValue := 0 }, { name := "ordinal", type := .int, accessFlags := 18, slot := 1, constantValue := 0 }, { name := "hash", type := .int, accessFlags := 2, slot := 2, constantValue := 0 }]
  methods := #[]
  instanceTypes := #[(.object "java/lang/String"), .int, .int]
  staticTypes := #[]
  resolved := Array.replicate 204 none
  statics := none }

def pool6 : Array CpInfo := pool [(9, .class_ 10), (0, u "com/example/wee_forge/weeforge/model/Choice"), (47, .class_ 59), (0, u "java/lang/Object")] 12

/-- com/example/wee_forge/weeforge/model/Choice -/
def k6 : Class := { plain "com/example/wee_forge/weeforge/model/Choice" (some 0) with
  accessFlags := 1537
  interfaces := #[]
  cf := some (fileOf pool6 9 #[] #[] 1537 58 #[] #[])
  fields := #[]
  methods := #[]
  instanceTypes := #[]
  staticTypes := #[]
  resolved := Array.replicate 72 none
  statics := none }

def pool7 : Array CpInfo := pool [(1, .class_ 2), (0, u "com/example/wee_forge/weeforge/model/ProjectOrder"), (2, u "ID"), (0, u "Lcom/example/wee_forge/weeforge/model/ProjectOrder;"), (2, u "NAME"), (2, u "PATH"), (2, u "CREATED_AT"), (2, u "UPDATED_AT"), (2, u "LAST_ACTIVITY_AT"), (2, u "$VALUES"), (0, u "[Lcom/example/wee_forge/weeforge/model/ProjectOrder;"), (6, .class_ 34), (1, u "java/lang/Enum"), (8, u "text"), (0, u "Ljava/lang/String;"), (25, .class_ 71), (0, u "com/example/wee_forge/weeforge/model/Choice")] 13

/-- com/example/wee_forge/weeforge/model/ProjectOrder -/
def k7 : Class := { plain "com/example/wee_forge/weeforge/model/ProjectOrder" (some 5) with
  accessFlags := 16433
  interfaces := #[6]
  cf := some (fileOf pool7 1 #[] #[] 16433 32 #[70] #[{ accessFlags := 16409, nameIndex := 5, descriptorIndex := 6, attributes := #[] }, { accessFlags := 16409, nameIndex := 9, descriptorIndex := 6, attributes := #[] }, { accessFlags := 16409, nameIndex := 12, descriptorIndex := 6, attributes := #[] }, { accessFlags := 16409, nameIndex := 15, descriptorIndex := 6, attributes := #[] }, { accessFlags := 16409, nameIndex := 18, descriptorIndex := 6, attributes := #[] }, { accessFlags := 16409, nameIndex := 21, descriptorIndex := 6, attributes := #[] }, { accessFlags := 18, nameIndex := 43, descriptorIndex := 44, attributes := #[] }, { accessFlags := 4122, nameIndex := 24, descriptorIndex := 25, attributes := #[] }])
  fields := #[{ name := "ID", type := (.object "com/example/wee_forge/weeforge/model/ProjectOrder"), accessFlags := 16409, slot := 0, constantValue := 0 }, { name := "NAME", type := (.object "com/example/wee_forge/weeforge/model/ProjectOrder"), accessFlags := 16409, slot := 1, constantValue := 0 }, { name := "PATH", type := (.object "com/example/wee_forge/weeforge/model/ProjectOrder"), accessFlags := 16409, slot := 2, constantValue := 0 }, { name := "CREATED_AT", type := (.object "com/example/wee_forge/weeforge/model/ProjectOrder"), accessFlags := 16409, slot := 3, constantValue := 0 }, { name := "UPDATED_AT", type := (.object "com/example/wee_forge/weeforge/model/ProjectOrder"), accessFlags := 16409, slot := 4, constantValue := 0 }, { name := "LAST_ACTIVITY_AT", type := (.object "com/example/wee_forge/weeforge/model/ProjectOrder"), accessFlags := 16409, slot := 5, constantValue := 0 }, { name := "text", type := (.object "java/lang/String"), accessFlags := 18, slot := 3, constantValue := 0 }, { name := "$VALUES", type := (.array (.object "com/example/wee_forge/weeforge/model/ProjectOrder")), accessFlags := 4122, slot := 6, constantValue := 0 }]
  methods := #[]
  instanceTypes := #[(.object "java/lang/String"), .int, .int, (.object "java/lang/String")]
  staticTypes := #[(.object "com/example/wee_forge/weeforge/model/ProjectOrder"), (.object "com/example/wee_forge/weeforge/model/ProjectOrder"), (.object "com/example/wee_forge/weeforge/model/ProjectOrder"), (.object "com/example/wee_forge/weeforge/model/ProjectOrder"), (.object "com/example/wee_forge/weeforge/model/ProjectOrder"), (.object "com/example/wee_forge/weeforge/model/ProjectOrder"), (.array (.object "com/example/wee_forge/weeforge/model/ProjectOrder"))]
  resolved := Array.replicate 85 none
  statics := some 0 }

def pool8 : Array CpInfo := pool [(1, .methodref 2 3), (0, .class_ 4), (0, .nameAndType 5 6), (0, u "java/lang/Object"), (0, u "<init>"), (0, u "()V"), (0, .interfaceMethodref 8 9), (0, .class_ 10), (0, .nameAndType 11 12), (0, u "java/util/List"), (0, u "of"), (0, u "()Ljava/util/List;"), (0, .fieldref 14 15), (0, .class_ 16), (0, .nameAndType 17 18), (0, u "com/example/wee_forge/weeforge/model/ProjectFilter"), (0, u "searchTerms"), (0, u "Ljava/util/List;"), (0, .fieldref 14 20), (0, .nameAndType 21 18), (0, u "topics"), (0, .fieldref 23 24), (0, .class_ 25), (0, .nameAndType 26 27), (0, u "com/example/wee_forge/weeforge/model/TimeRange"), (0, u "ANY"), (0, u "Lcom/example/wee_forge/weeforge/model/TimeRange;"), (0, .fieldref 14 29), (0, .nameAndType 30 27), (0, u "lastActivity"), (0, .fieldref 14 32), (0, .nameAndType 33 27), (0, u "updated"), (0, .methodref 35 36), (0, .class_ 37), (0, .nameAndType 38 39), (0, u "java/util/OptionalLong"), (0, u "empty"), (0, u "()Ljava/util/OptionalLong;"), (0, .fieldref 14 41), (0, .nameAndType 42 43), (0, u "idAfter"), (0, u "Ljava/util/OptionalLong;"), (0, .fieldref 14 45), (0, .nameAndType 46 43), (0, u "idBefore"), (0, .fieldref 48 49), (0, .class_ 50), (0, .nameAndType 51 52), (0, u "com/example/wee_forge/weeforge/model/ProjectOrder"), (0, u "CREATED_AT"), (0, u "Lcom/example/wee_forge/weeforge/model/ProjectOrder;"), (0, .fieldref 14 54), (0, .nameAndType 55 52), (0, u "orderBy"), (0, .fieldref 57 58), (0, .class_ 59), (0, .nameAndType 60 61), (0, u "com/example/wee_forge/weeforge/model/SortDirection"), (0, u "DESC"), (0, u "Lcom/example/wee_forge/weeforge/model/SortDirection;"), (0, .fieldref 14 63), (0, .nameAndType 64 61), (0, u "sort"), (2, u "visibility"), (0, u "Lcom/example/wee_forge/weeforge/model/Visibility;"), (2, u "archived"), (0, u "Ljava/lang/Boolean;"), (5, u "()Z"), (19, u "leastRole"), (0, u "Lcom/example/wee_forge/weeforge/model/AccessLevel;"), (0, .fieldref 14 101), (0, .nameAndType 102 103), (0, u "starredOnly"), (0, u "Z"), (1, .methodref 106 107), (0, .class_ 108), (0, .nameAndType 109 110), (0, u "java/util/Objects"), (0, u "requireNonNull"), (0, u "(Ljava/lang/Object;Ljava/lang/String;)Ljava/lang/Object;"), (5, .string 55), (0, .string 64), (18, u "(Z)Lcom/example/wee_forge/weeforge/model/ProjectFilter;"), (3, u "(Lcom/example/wee_forge/weeforge/model/ProjectOrder;)Lcom/example/wee_forge/weeforge/model/ProjectFilter;"), (0, u "(Lcom/example/wee_forge/weeforge/model/SortDirection;)Lcom/example/wee_forge/weeforge/model/ProjectFilter;"), (6, u "()Lcom/example/wee_forge/weeforge/model/ProjectOrder;"), (0, u "()Lcom/example/wee_forge/weeforge/model/SortDirection;")] 2

def k8c0 : Code := { maxStack := 2, maxLocals := 1, code := prog_25_method_1_code, exceptionTable := #[], attributes := #[] }
def k8m0 : Method := { name := "<init>", desc := "()V", sig := { parameters := [], returnType := none }, accessFlags := 1, code := some k8c0 }
def k8c1 : Code := { maxStack := 2, maxLocals := 2, code := prog_25_method_7_code, exceptionTable := #[], attributes := #[] }
def k8m1 : Method := { name := "starredOnly", desc := "(Z)Lcom/example/wee_forge/weeforge/model/ProjectFilter;", sig := { parameters := [.boolean], returnType := some (.object "com/example/wee_forge/weeforge/model/ProjectFilter") }, accessFlags := 1, code := some k8c1 }
def k8c2 : Code := { maxStack := 3, maxLocals := 2, code := prog_25_method_11_code, exceptionTable := #[], attributes := #[] }
def k8m2 : Method := { name := "orderBy", desc := "(Lcom/example/wee_forge/weeforge/model/ProjectOrder;)Lcom/example/wee_forge/weeforge/model/ProjectFilter;", sig := { parameters := [(.object "com/example/wee_forge/weeforge/model/ProjectOrder")], returnType := some (.object "com/example/wee_forge/weeforge/model/ProjectFilter") }, accessFlags := 1, code := some k8c2 }
def k8c3 : Code := { maxStack := 3, maxLocals := 2, code := prog_25_method_12_code, exceptionTable := #[], attributes := #[] }
def k8m3 : Method := { name := "sort", desc := "(Lcom/example/wee_forge/weeforge/model/SortDirection;)Lcom/example/wee_forge/weeforge/model/ProjectFilter;", sig := { parameters := [(.object "com/example/wee_forge/weeforge/model/SortDirection")], returnType := some (.object "com/example/wee_forge/weeforge/model/ProjectFilter") }, accessFlags := 1, code := some k8c3 }
def k8c4 : Code := { maxStack := 1, maxLocals := 1, code := prog_25_method_18_code, exceptionTable := #[], attributes := #[] }
def k8m4 : Method := { name := "starredOnly", desc := "()Z", sig := { parameters := [], returnType := some .boolean }, accessFlags := 1, code := some k8c4 }
def k8c5 : Code := { maxStack := 1, maxLocals := 1, code := prog_25_method_23_code, exceptionTable := #[], attributes := #[] }
def k8m5 : Method := { name := "orderBy", desc := "()Lcom/example/wee_forge/weeforge/model/ProjectOrder;", sig := { parameters := [], returnType := some (.object "com/example/wee_forge/weeforge/model/ProjectOrder") }, accessFlags := 1, code := some k8c5 }
def k8c6 : Code := { maxStack := 1, maxLocals := 1, code := prog_25_method_24_code, exceptionTable := #[], attributes := #[] }
def k8m6 : Method := { name := "sort", desc := "()Lcom/example/wee_forge/weeforge/model/SortDirection;", sig := { parameters := [], returnType := some (.object "com/example/wee_forge/weeforge/model/SortDirection") }, accessFlags := 1, code := some k8c6 }
/-- com/example/wee_forge/weeforge/model/ProjectFilter -/
def k8 : Class := { plain "com/example/wee_forge/weeforge/model/ProjectFilter" (some 0) with
  accessFlags := 49
  interfaces := #[]
  cf := some (fileOf pool8 14 #[] #[{ accessFlags := 1, nameIndex := 5, descriptorIndex := 6, attributes := #[] }, { accessFlags := 1, nameIndex := 102, descriptorIndex := 136, attributes := #[] }, { accessFlags := 1, nameIndex := 55, descriptorIndex := 140, attributes := #[] }, { accessFlags := 1, nameIndex := 64, descriptorIndex := 141, attributes := #[] }, { accessFlags := 1, nameIndex := 102, descriptorIndex := 78, attributes := #[] }, { accessFlags := 1, nameIndex := 55, descriptorIndex := 148, attributes := #[] }, { accessFlags := 1, nameIndex := 64, descriptorIndex := 149, attributes := #[] }] 49 2 #[] #[{ accessFlags := 2, nameIndex := 67, descriptorIndex := 68, attributes := #[] }, { accessFlags := 2, nameIndex := 71, descriptorIndex := 72, attributes := #[] }, { accessFlags := 2, nameIndex := 17, descriptorIndex := 18, attributes := #[] }, { accessFlags := 2, nameIndex := 21, descriptorIndex := 18, attributes := #[] }, { accessFlags := 2, nameIndex := 98, descriptorIndex := 99, attributes := #[] }, { accessFlags := 2, nameIndex := 102, descriptorIndex := 103, attributes := #[] }, { accessFlags := 2, nameIndex := 30, descriptorIndex := 27, attributes := #[] }, { accessFlags := 2, nameIndex := 33, descriptorIndex := 27, attributes := #[] }, { accessFlags := 2, nameIndex := 42, descriptorIndex := 43, attributes := #[] }, { accessFlags := 2, nameIndex := 46, descriptorIndex := 43, attributes := #[] }, { accessFlags := 2, nameIndex := 55, descriptorIndex := 52, attributes := #[] }, { accessFlags := 2, nameIndex := 64, descriptorIndex := 61, attributes := #[] }])
  fields := #[{ name := "visibility", type := (.object "com/example/wee_forge/weeforge/model/Visibility"), accessFlags := 2, slot := 0, constantValue := 0 }, { name := "archived", type := (.object "java/lang/Boolean"), accessFlags := 2, slot := 1, constantValue := 0 }, { name := "searchTerms", type := (.object "java/util/List"), accessFlags := 2, slot := 2, constantValue := 0 }, { name := "topics", type := (.object "java/util/List"), accessFlags := 2, slot := 3, constantValue := 0 }, { name := "leastRole", type := (.object "com/example/wee_forge/weeforge/model/AccessLevel"), accessFlags := 2, slot := 4, constantValue := 0 }, { name := "starredOnly", type := .boolean, accessFlags := 2, slot := 5, constantValue := 0 }, { name := "lastActivity", type := (.object "com/example/wee_forge/weeforge/model/TimeRange"), accessFlags := 2, slot := 6, constantValue := 0 }, { name := "updated", type := (.object "com/example/wee_forge/weeforge/model/TimeRange"), accessFlags := 2, slot := 7, constantValue := 0 }, { name := "idAfter", type := (.object "java/util/OptionalLong"), accessFlags := 2, slot := 8, constantValue := 0 }, { name := "idBefore", type := (.object "java/util/OptionalLong"), accessFlags := 2, slot := 9, constantValue := 0 }, { name := "orderBy", type := (.object "com/example/wee_forge/weeforge/model/ProjectOrder"), accessFlags := 2, slot := 10, constantValue := 0 }, { name := "sort", type := (.object "com/example/wee_forge/weeforge/model/SortDirection"), accessFlags := 2, slot := 11, constantValue := 0 }]
  methods := #[k8m0, k8m1, k8m2, k8m3, k8m4, k8m5, k8m6]
  instanceTypes := #[(.object "com/example/wee_forge/weeforge/model/Visibility"), (.object "java/lang/Boolean"), (.object "java/util/List"), (.object "java/util/List"), (.object "com/example/wee_forge/weeforge/model/AccessLevel"), .boolean, (.object "com/example/wee_forge/weeforge/model/TimeRange"), (.object "com/example/wee_forge/weeforge/model/TimeRange"), (.object "java/util/OptionalLong"), (.object "java/util/OptionalLong"), (.object "com/example/wee_forge/weeforge/model/ProjectOrder"), (.object "com/example/wee_forge/weeforge/model/SortDirection")]
  staticTypes := #[]
  resolved := Array.replicate 152 none
  statics := none }

def pool9 : Array CpInfo := pool [(8, .class_ 10), (1, u "java/lang/Iterable"), (24, .class_ 36), (0, u "java/lang/Object")] 25

/-- java/lang/Iterable -/
def k9 : Class := { plain "java/lang/Iterable" (some 0) with
  accessFlags := 1537
  interfaces := #[]
  cf := some (fileOf pool9 8 #[] #[] 1537 35 #[] #[])
  fields := #[]
  methods := #[]
  instanceTypes := #[]
  staticTypes := #[]
  resolved := Array.replicate 62 none
  statics := none }

def pool10 : Array CpInfo := pool [(10, .class_ 12), (1, u "java/util/Collection"), (47, .class_ 61), (0, u "java/lang/Object"), (0, .class_ 63), (0, u "java/lang/Iterable")] 51

/-- java/util/Collection -/
def k10 : Class := { plain "java/util/Collection" (some 0) with
  accessFlags := 1537
  interfaces := #[9]
  cf := some (fileOf pool10 10 #[] #[] 1537 60 #[62] #[])
  fields := #[]
  methods := #[]
  instanceTypes := #[]
  staticTypes := #[]
  resolved := Array.replicate 115 none
  statics := none }

def pool11 : Array CpInfo := pool [(8, .class_ 10), (1, u "java/util/SequencedCollection"), (15, .class_ 27), (0, u "java/lang/Object"), (0, .class_ 29), (0, u "java/util/Collection")] 27

/-- java/util/SequencedCollection -/
def k11 : Class := { plain "java/util/SequencedCollection" (some 0) with
  accessFlags := 1537
  interfaces := #[10]
  cf := some (fileOf pool11 8 #[] #[] 1537 26 #[28] #[])
  fields := #[]
  methods := #[]
  instanceTypes := #[]
  staticTypes := #[]
  resolved := Array.replicate 57 none
  statics := none }

def pool12 : Array CpInfo := pool [(8, .class_ 10), (1, u "java/util/List"), (77, u "of"), (1, .fieldref 91 92), (0, .class_ 93), (0, .nameAndType 94 95), (0, u "java/util/ImmutableCollections"), (0, u "EMPTY_LIST"), (0, u "Ljava/util/ImmutableCollections$ListN;"), (7, .class_ 104), (0, u "java/lang/Object"), (14, u "()Ljava/util/List;"), (0, .class_ 121), (0, u "java/util/SequencedCollection")] 129

def k12c0 : Code := { maxStack := 1, maxLocals := 0, code := jdk_40_method_36_code, exceptionTable := #[], attributes := #[] }
def k12m0 : Method := { name := "of", desc := "()Ljava/util/List;", sig := { parameters := [], returnType := some (.object "java/util/List") }, accessFlags := 9, code := some k12c0 }
/-- java/util/List -/
def k12 : Class := { plain "java/util/List" (some 0) with
  accessFlags := 1537
  interfaces := #[11]
  cf := some (fileOf pool12 8 #[] #[{ accessFlags := 9, nameIndex := 88, descriptorIndex := 119, attributes := #[] }] 1537 103 #[120] #[])
  fields := #[]
  methods := #[k12m0]
  instanceTypes := #[]
  staticTypes := #[]
  resolved := Array.replicate 251 none
  statics := none }

def pool13 : Array CpInfo := pool [(2, .class_ 4), (1, u "java/lang/Object"), (0, u "<init>"), (0, u "()V"), (3, .class_ 11), (0, u "java/util/ImmutableCollections$List12"), (0, .class_ 13), (0, u "java/util/ImmutableCollections$ListN"), (3, u "Z"), (29, .class_ 49), (1, u "java/util/ImmutableCollections"), (0, u "$assertionsDisabled"), (5, u "[Ljava/lang/Object;"), (5, u "EMPTY_LIST"), (0, u "Ljava/util/ImmutableCollections$ListN;"), (8, u "EMPTY_LIST_NULLS"), (22, u "SALT32L"), (0, u "J"), (2, u "REVERSE"), (6, u "archivedObjects"), (2, u "EMPTY"), (0, u "Ljava/lang/Object;"), (0, .class_ 112), (0, u "java/util/ImmutableCollections$SetN"), (5, u "EMPTY_SET"), (0, u "Ljava/util/ImmutableCollections$SetN;"), (0, .class_ 121), (0, u "java/util/ImmutableCollections$MapN"), (3, u "EMPTY_MAP"), (0, u "Ljava/util/ImmutableCollections$MapN;"), (4, u "EXPAND_FACTOR"), (0, u "I"), (36, .class_ 170), (0, u "java/util/ImmutableCollections$MapN$MapNIterator"), (0, .class_ 172), (0, u "java/util/ImmutableCollections$MapN$1"), (0, .class_ 174), (0, u "java/util/ImmutableCollections$Map1"), (0, .class_ 176), (0, u "java/util/ImmutableCollections$AbstractImmutableMap"), (0, .class_ 178), (0, u "java/util/ImmutableCollections$SetN$SetNIterator"), (0, .class_ 180), (0, u "java/util/ImmutableCollections$Set12"), (0, .class_ 182), (0, u "java/util/ImmutableCollections$Set12$1"), (0, .class_ 184), (0, u "java/util/ImmutableCollections$AbstractImmutableSet"), (0, .class_ 186), (0, u "java/util/ImmutableCollections$SubList"), (0, .class_ 188), (0, u "java/util/ImmutableCollections$ListItr"), (0, .class_ 190), (0, u "java/util/ImmutableCollections$AbstractImmutableList"), (0, .class_ 192), (0, u "java/util/ImmutableCollections$AbstractImmutableCollection"), (0, .class_ 194), (0, u "java/util/ImmutableCollections$Access"), (0, .class_ 196), (0, u "java/util/ImmutableCollections$Access$1")] 16

def k13m0 : Method := { name := "<init>", desc := "()V", sig := { parameters := [], returnType := none }, accessFlags := 2, code := none }
/-- java/util/ImmutableCollections -/
def k13 : Class := { plain "java/util/ImmutableCollections" (some 0) with
  accessFlags := 32
  interfaces := #[]
  cf := some (fileOf pool13 47 #[.nestMembers #[120, 169, 171, 173, 175, 111, 177, 179, 181, 183, 12, 10, 185, 187, 189, 191, 193, 195]] #[{ accessFlags := 2, nameIndex := 5, descriptorIndex := 6, attributes := #[] }] 32 2 #[] #[{ accessFlags := 26, nameIndex := 95, descriptorIndex := 96, attributes := #[] }, { accessFlags := 26, nameIndex := 99, descriptorIndex := 17, attributes := #[] }, { accessFlags := 10, nameIndex := 106, descriptorIndex := 56, attributes := #[] }, { accessFlags := 26, nameIndex := 109, descriptorIndex := 110, attributes := #[] }, { accessFlags := 24, nameIndex := 62, descriptorIndex := 63, attributes := #[] }, { accessFlags := 24, nameIndex := 72, descriptorIndex := 63, attributes := #[] }, { accessFlags := 24, nameIndex := 118, descriptorIndex := 119, attributes := #[] }, { accessFlags := 24, nameIndex := 125, descriptorIndex := 126, attributes := #[] }, { accessFlags := 24, nameIndex := 131, descriptorIndex := 132, attributes := #[] }, { accessFlags := 4120, nameIndex := 50, descriptorIndex := 17, attributes := #[] }])
  fields := #[{ name := "SALT32L", type := .long, accessFlags := 26, slot := 0, constantValue := 0 }, { name := "REVERSE", type := .boolean, accessFlags := 26, slot := 1, constantValue := 0 }, { name := "archivedObjects", type := (.array (.object "java/lang/Object")), accessFlags := 10, slot := 2, constantValue := 0 }, { name := "EMPTY", type := (.object "java/lang/Object"), accessFlags := 26, slot := 3, constantValue := 0 }, { name := "EMPTY_LIST", type := (.object "java/util/ImmutableCollections$ListN"), accessFlags := 24, slot := 4, constantValue := 0 }, { name := "EMPTY_LIST_NULLS", type := (.object "java/util/ImmutableCollections$ListN"), accessFlags := 24, slot := 5, constantValue := 0 }, { name := "EMPTY_SET", type := (.object "java/util/ImmutableCollections$SetN"), accessFlags := 24, slot := 6, constantValue := 0 }, { name := "EMPTY_MAP", type := (.object "java/util/ImmutableCollections$MapN"), accessFlags := 24, slot := 7, constantValue := 0 }, { name := "EXPAND_FACTOR", type := .int, accessFlags := 24, slot := 8, constantValue := 0 }, { name := "$assertionsDisabled", type := .boolean, accessFlags := 4120, slot := 9, constantValue := 0 }]
  methods := #[k13m0]
  instanceTypes := #[]
  staticTypes := #[.long, .boolean, (.array (.object "java/lang/Object")), (.object "java/lang/Object"), (.object "java/util/ImmutableCollections$ListN"), (.object "java/util/ImmutableCollections$ListN"), (.object "java/util/ImmutableCollections$SetN"), (.object "java/util/ImmutableCollections$MapN"), .int, .boolean]
  resolved := Array.replicate 213 none
  statics := some 1 }

def pool14 : Array CpInfo := pool [(2, .class_ 4), (1, u "java/lang/Object"), (3, .class_ 10), (1, u "com/example/wee_forge/weeforge/model/TimeRange"), (0, u "after"), (0, u "Ljava/time/Instant;"), (2, u "before"), (11, u "ANY"), (0, u "Lcom/example/wee_forge/weeforge/model/TimeRange;")] 8

/-- com/example/wee_forge/weeforge/model/TimeRange -/
def k14 : Class := { plain "com/example/wee_forge/weeforge/model/TimeRange" (some 0) with
  accessFlags := 49
  interfaces := #[]
  cf := some (fileOf pool14 8 #[] #[] 49 2 #[] #[{ accessFlags := 25, nameIndex := 27, descriptorIndex := 28, attributes := #[] }, { accessFlags := 18, nameIndex := 11, descriptorIndex := 12, attributes := #[] }, { accessFlags := 18, nameIndex := 15, descriptorIndex := 12, attributes := #[] }])
  fields := #[{ name := "ANY", type := (.object "com/example/wee_forge/weeforge/model/TimeRange"), accessFlags := 25, slot := 0, constantValue := 0 }, { name := "after", type := (.object "java/time/Instant"), accessFlags := 18, slot := 0, constantValue := 0 }, { name := "before", type := (.object "java/time/Instant"), accessFlags := 18, slot := 1, constantValue := 0 }]
  methods := #[]
  instanceTypes := #[(.object "java/time/Instant"), (.object "java/time/Instant")]
  staticTypes := #[(.object "com/example/wee_forge/weeforge/model/TimeRange")]
  resolved := Array.replicate 37 none
  statics := some 2 }

def pool15 : Array CpInfo := pool [(2, .class_ 4), (1, u "java/lang/Object"), (0, u "<init>"), (0, u "()V"), (1, .class_ 10), (1, u "java/util/OptionalLong"), (0, u "isPresent"), (0, u "Z"), (2, u "value"), (0, u "J"), (0, .fieldref 8 18), (0, .nameAndType 19 20), (0, u "EMPTY"), (0, u "Ljava/util/OptionalLong;"), (28, u "empty"), (46, u "()Ljava/util/OptionalLong;")] 41

def k15m0 : Method := { name := "<init>", desc := "()V", sig := { parameters := [], returnType := none }, accessFlags := 2, code := none }
def k15c1 : Code := { maxStack := 1, maxLocals := 0, code := jdk_2650_method_2_code, exceptionTable := #[], attributes := #[] }
def k15m1 : Method := { name := "empty", desc := "()Ljava/util/OptionalLong;", sig := { parameters := [], returnType := some (.object "java/util/OptionalLong") }, accessFlags := 9, code := some k15c1 }
/-- java/util/OptionalLong -/
def k15 : Class := { plain "java/util/OptionalLong" (some 0) with
  accessFlags := 49
  interfaces := #[]
  cf := some (fileOf pool15 8 #[] #[{ accessFlags := 2, nameIndex := 5, descriptorIndex := 6, attributes := #[] }, { accessFlags := 9, nameIndex := 49, descriptorIndex := 96, attributes := #[] }] 49 2 #[] #[{ accessFlags := 26, nameIndex := 19, descriptorIndex := 20, attributes := #[] }, { accessFlags := 18, nameIndex := 11, descriptorIndex := 12, attributes := #[] }, { accessFlags := 18, nameIndex := 15, descriptorIndex := 16, attributes := #[] }])
  fields := #[{ name := "EMPTY", type := (.object "java/util/OptionalLong"), accessFlags := 26, slot := 0, constantValue := 0 }, { name := "isPresent", type := .boolean, accessFlags := 18, slot := 0, constantValue := 0 }, { name := "value", type := .long, accessFlags := 18, slot := 1, constantValue := 0 }]
  methods := #[k15m0, k15m1]
  instanceTypes := #[.boolean, .long]
  staticTypes := #[(.object "java/util/OptionalLong")]
  resolved := Array.replicate 138 none
  statics := some 3 }

def pool16 : Array CpInfo := pool [(1, .class_ 2), (0, u "com/example/wee_forge/weeforge/model/SortDirection"), (2, u "ASC"), (0, u "Lcom/example/wee_forge/weeforge/model/SortDirection;"), (2, u "DESC"), (2, u "$VALUES"), (0, u "[Lcom/example/wee_forge/weeforge/model/SortDirection;"), (6, .class_ 22), (1, u "java/lang/Enum"), (8, u "text"), (0, u "Ljava/lang/String;"), (13, .class_ 47), (0, u "com/example/wee_forge/weeforge/model/Choice")] 13

/-- com/example/wee_forge/weeforge/model/SortDirection -/
def k16 : Class := { plain "com/example/wee_forge/weeforge/model/SortDirection" (some 5) with
  accessFlags := 16433
  interfaces := #[6]
  cf := some (fileOf pool16 1 #[] #[] 16433 20 #[46] #[{ accessFlags := 16409, nameIndex := 5, descriptorIndex := 6, attributes := #[] }, { accessFlags := 16409, nameIndex := 9, descriptorIndex := 6, attributes := #[] }, { accessFlags := 18, nameIndex := 31, descriptorIndex := 32, attributes := #[] }, { accessFlags := 4122, nameIndex := 12, descriptorIndex := 13, attributes := #[] }])
  fields := #[{ name := "ASC", type := (.object "com/example/wee_forge/weeforge/model/SortDirection"), accessFlags := 16409, slot := 0, constantValue := 0 }, { name := "DESC", type := (.object "com/example/wee_forge/weeforge/model/SortDirection"), accessFlags := 16409, slot := 1, constantValue := 0 }, { name := "text", type := (.object "java/lang/String"), accessFlags := 18, slot := 3, constantValue := 0 }, { name := "$VALUES", type := (.array (.object "com/example/wee_forge/weeforge/model/SortDirection")), accessFlags := 4122, slot := 2, constantValue := 0 }]
  methods := #[]
  instanceTypes := #[(.object "java/lang/String"), .int, .int, (.object "java/lang/String")]
  staticTypes := #[(.object "com/example/wee_forge/weeforge/model/SortDirection"), (.object "com/example/wee_forge/weeforge/model/SortDirection"), (.array (.object "com/example/wee_forge/weeforge/model/SortDirection"))]
  resolved := Array.replicate 61 none
  statics := some 4 }

def pool17 : Array CpInfo := pool [(2, .class_ 4), (1, u "java/lang/CharSequence"), (42, .class_ 48), (0, u "java/lang/CharSequence$1CodePointIterator"), (10, .class_ 60), (0, u "java/lang/CharSequence$1CharIterator"), (5, .class_ 67), (0, u "java/lang/Object")] 63

/-- java/lang/CharSequence -/
def k17 : Class := { plain "java/lang/CharSequence" (some 0) with
  accessFlags := 1537
  interfaces := #[]
  cf := some (fileOf pool17 2 #[.nestMembers #[47, 59]] #[] 1537 66 #[] #[])
  fields := #[]
  methods := #[]
  instanceTypes := #[]
  staticTypes := #[]
  resolved := Array.replicate 131 none
  statics := none }

def pool18 : Array CpInfo := pool [(1, .class_ 2), (0, u "java/lang/constant/ConstantDesc"), (0, .class_ 4), (0, u "java/lang/Object")] 32

/-- java/lang/constant/ConstantDesc -/
def k18 : Class := { plain "java/lang/constant/ConstantDesc" (some 0) with
  accessFlags := 1537
  interfaces := #[]
  cf := some (fileOf pool18 1 #[] #[] 1537 3 #[] #[])
  fields := #[]
  methods := #[]
  instanceTypes := #[]
  staticTypes := #[]
  resolved := Array.replicate 37 none
  statics := none }

def pool19 : Array CpInfo := pool [(2, .class_ 4), (1, u "java/lang/Object"), (0, u "<init>"), (0, u "()V"), (3, .class_ 12), (1, u "java/lang/String"), (0, u "value"), (0, u "[B"), (2, u "coder"), (0, u "B"), (2, u "hash"), (0, u "I"), (2, u "hashIsZero"), (0, u "Z"), (13, u "COMPACT_STRINGS"), (534, .class_ 576), (0, u "java/lang/CharSequence"), (22, u "CASE_INSENSITIVE_ORDER"), (0, u "Ljava/util/Comparator;"), (500, u "serialPersistentFields"), (0, u "[Ljava/io/ObjectStreamField;"), (0, .class_ 1104), (0, u "java/lang/String$CaseInsensitiveComparator"), (1, .class_ 1107), (0, u "java/io/Serializable"), (0, .class_ 1109), (0, u "java/lang/Comparable"), (0, .class_ 1111), (0, u "java/lang/constant/Constable"), (0, .class_ 1113), (0, u "java/lang/constant/ConstantDesc"), (2, u "serialVersionUID"), (0, u "J"), (3, u "REPL"), (0, u "C"), (2, u "LATIN1"), (1, u "UTF16")] 323

def k19m0 : Method := { name := "<init>", desc := "()V", sig := { parameters := [], returnType := none }, accessFlags := 1, code := none }
/-- java/lang/String -/
def k19 : Class := { plain "java/lang/String" (some 0) with
  accessFlags := 49
  interfaces := #[4, 3, 17, 2, 18]
  cf := some (fileOf pool19 10 #[.nestMembers #[1103]] #[{ accessFlags := 1, nameIndex := 5, descriptorIndex := 6, attributes := #[] }] 49 2 #[1106, 1108, 575, 1110, 1112] #[{ accessFlags := 18, nameIndex := 13, descriptorIndex := 14, attributes := #[] }, { accessFlags := 18, nameIndex := 17, descriptorIndex := 18, attributes := #[] }, { accessFlags := 2, nameIndex := 21, descriptorIndex := 22, attributes := #[] }, { accessFlags := 2, nameIndex := 25, descriptorIndex := 26, attributes := #[] }, { accessFlags := 26, nameIndex := 1116, descriptorIndex := 1117, attributes := #[] }, { accessFlags := 24, nameIndex := 40, descriptorIndex := 26, attributes := #[] }, { accessFlags := 26, nameIndex := 1101, descriptorIndex := 1102, attributes := #[] }, { accessFlags := 26, nameIndex := 1121, descriptorIndex := 1122, attributes := #[] }, { accessFlags := 25, nameIndex := 599, descriptorIndex := 600, attributes := #[] }, { accessFlags := 24, nameIndex := 1125, descriptorIndex := 18, attributes := #[] }, { accessFlags := 24, nameIndex := 1127, descriptorIndex := 18, attributes := #[] }])
  fields := #[{ name := "value", type := (.array .byte), accessFlags := 18, slot := 0, constantValue := 0 }, { name := "coder", type := .byte, accessFlags := 18, slot := 1, constantValue := 0 }, { name := "hash", type := .int, accessFlags := 2, slot := 2, constantValue := 0 }, { name := "hashIsZero", type := .boolean, accessFlags := 2, slot := 3, constantValue := 0 }, { name := "serialVersionUID", type := .long, accessFlags := 26, slot := 0, constantValue := 0 }, { name := "COMPACT_STRINGS", type := .boolean, accessFlags := 24, slot := 1, constantValue := 0 }, { name := "serialPersistentFields", type := (.array (.object "java/io/ObjectStreamField")), accessFlags := 26, slot := 2, constantValue := 0 }, { name := "REPL", type := .char, accessFlags := 26, slot := 3, constantValue := 0 }, { name := "CASE_INSENSITIVE_ORDER", type := (.object "java/util/Comparator"), accessFlags := 25, slot := 4, constantValue := 0 }, { name := "LATIN1", type := .byte, accessFlags := 24, slot := 5, constantValue := 0 }, { name := "UTF16", type := .byte, accessFlags := 24, slot := 6, constantValue := 0 }]
  methods := #[k19m0]
  instanceTypes := #[(.array .byte), .byte, .int, .boolean]
  staticTypes := #[.long, .boolean, (.array (.object "java/io/ObjectStreamField")), .char, (.object "java/util/Comparator"), .byte, .byte]
  resolved := Array.replicate 1451 none
  statics := none }

def pool20 : Array CpInfo := pool [(2, .class_ 4), (1, u "java/lang/Object"), (0, u "<init>"), (0, u "()V"), (35, .class_ 44), (1, u "java/util/Objects"), (0, u "requireNonNull"), (48, u "(Ljava/lang/Object;Ljava/lang/String;)Ljava/lang/Object;")] 89

def k20m0 : Method := { name := "<init>", desc := "()V", sig := { parameters := [], returnType := none }, accessFlags := 2, code := none }
def k20c1 : Code := { maxStack := 3, maxLocals := 2, code := jdk_31_method_11_code, exceptionTable := #[], attributes := #[] }
def k20m1 : Method := { name := "requireNonNull", desc := "(Ljava/lang/Object;Ljava/lang/String;)Ljava/lang/Object;", sig := { parameters := [(.object "java/lang/Object"), (.object "java/lang/String")], returnType := some (.object "java/lang/Object") }, accessFlags := 9, code := some k20c1 }
/-- java/util/Objects -/
def k20 : Class := { plain "java/util/Objects" (some 0) with
  accessFlags := 49
  interfaces := #[]
  cf := some (fileOf pool20 42 #[] #[{ accessFlags := 2, nameIndex := 5, descriptorIndex := 6, attributes := #[] }, { accessFlags := 9, nameIndex := 45, descriptorIndex := 94, attributes := #[] }] 49 2 #[] #[])
  fields := #[]
  methods := #[k20m0, k20m1]
  instanceTypes := #[]
  staticTypes := #[]
  resolved := Array.replicate 184 none
  statics := none }

def pool21 : Array CpInfo := pool [(2, .class_ 4), (1, u "java/lang/Object"), (0, u "<init>"), (0, u "()V"), (1, .class_ 10), (1, u "java/util/AbstractCollection"), (66, .class_ 78), (0, u "java/util/Collection")] 81

def k21m0 : Method := { name := "<init>", desc := "()V", sig := { parameters := [], returnType := none }, accessFlags := 4, code := none }
/-- java/util/AbstractCollection -/
def k21 : Class := { plain "java/util/AbstractCollection" (some 0) with
  accessFlags := 1057
  interfaces := #[10]
  cf := some (fileOf pool21 8 #[] #[{ accessFlags := 4, nameIndex := 5, descriptorIndex := 6, attributes := #[] }] 1057 2 #[77] #[])
  fields := #[]
  methods := #[k21m0]
  instanceTypes := #[]
  staticTypes := #[]
  resolved := Array.replicate 160 none
  statics := none }

def pool22 : Array CpInfo := pool [(2, .class_ 4), (1, u "java/util/AbstractCollection"), (0, u "<init>"), (0, u "()V"), (1, .class_ 10), (1, u "java/util/ImmutableCollections"), (2, .class_ 14), (0, u "java/util/ImmutableCollections$AbstractImmutableCollection")] 41

def k22m0 : Method := { name := "<init>", desc := "()V", sig := { parameters := [], returnType := none }, accessFlags := 0, code := none }
/-- java/util/ImmutableCollections$AbstractImmutableCollection -/
def k22 : Class := { plain "java/util/ImmutableCollections$AbstractImmutableCollection" (some 21) with
  accessFlags := 1056
  interfaces := #[]
  cf := some (fileOf pool22 13 #[.nestHost 8] #[{ accessFlags := 0, nameIndex := 5, descriptorIndex := 6, attributes := #[] }] 1056 2 #[] #[])
  fields := #[]
  methods := #[k22m0]
  instanceTypes := #[]
  staticTypes := #[]
  resolved := Array.replicate 56 none
  statics := none }

def pool23 : Array CpInfo := pool [(1, .class_ 2), (0, u "java/util/RandomAccess"), (0, .class_ 4), (0, u "java/lang/Object")] 2

/-- java/util/RandomAccess -/
def k23 : Class := { plain "java/util/RandomAccess" (some 0) with
  accessFlags := 1537
  interfaces := #[]
  cf := some (fileOf pool23 1 #[] #[] 1537 3 #[] #[])
  fields := #[]
  methods := #[]
  instanceTypes := #[]
  staticTypes := #[]
  resolved := Array.replicate 7 none
  statics := none }

def pool24 : Array CpInfo := pool [(2, .class_ 4), (1, u "java/util/ImmutableCollections$AbstractImmutableCollection"), (0, u "<init>"), (0, u "()V"), (1, .class_ 10), (1, u "java/util/ImmutableCollections"), (3, .class_ 16), (1, u "java/util/ImmutableCollections$AbstractImmutableList"), (60, .class_ 78), (0, u "java/util/List"), (45, .class_ 125), (0, u "java/util/RandomAccess")] 70

def k24m0 : Method := { name := "<init>", desc := "()V", sig := { parameters := [], returnType := none }, accessFlags := 0, code := none }
/-- java/util/ImmutableCollections$AbstractImmutableList -/
def k24 : Class := { plain "java/util/ImmutableCollections$AbstractImmutableList" (some 22) with
  accessFlags := 1056
  interfaces := #[12, 23]
  cf := some (fileOf pool24 14 #[.nestHost 8] #[{ accessFlags := 0, nameIndex := 5, descriptorIndex := 6, attributes := #[] }] 1056 2 #[77, 124] #[])
  fields := #[]
  methods := #[k24m0]
  instanceTypes := #[]
  staticTypes := #[]
  resolved := Array.replicate 196 none
  statics := none }

def pool25 : Array CpInfo := pool [(2, .class_ 4), (1, u "java/util/ImmutableCollections$AbstractImmutableList"), (3, .class_ 10), (1, u "java/util/ImmutableCollections$ListN"), (0, u "elements"), (0, u "[Ljava/lang/Object;"), (2, u "allowNulls"), (0, u "Z"), (42, .class_ 60), (0, u "java/io/Serializable"), (53, .class_ 115), (0, u "java/util/ImmutableCollections")] 3

/-- java/util/ImmutableCollections$ListN -/
def k25 : Class := { plain "java/util/ImmutableCollections$ListN" (some 24) with
  accessFlags := 48
  interfaces := #[4]
  cf := some (fileOf pool25 8 #[.nestHost 114] #[] 48 2 #[59] #[{ accessFlags := 18, nameIndex := 11, descriptorIndex := 12, attributes := #[] }, { accessFlags := 18, nameIndex := 15, descriptorIndex := 16, attributes := #[] }])
  fields := #[{ name := "elements", type := (.array (.object "java/lang/Object")), accessFlags := 18, slot := 0, constantValue := 0 }, { name := "allowNulls", type := .boolean, accessFlags := 18, slot := 1, constantValue := 0 }]
  methods := #[]
  instanceTypes := #[(.array (.object "java/lang/Object")), .boolean]
  staticTypes := #[]
  resolved := Array.replicate 119 none
  statics := none }

def pool26 : Array CpInfo := pool [(1, u "java/lang/Cloneable"), (0, .class_ 1), (0, u "java/lang/Object"), (0, .class_ 3)] 3

/-- java/lang/Cloneable -/
def k26 : Class := { plain "java/lang/Cloneable" (some 0) with
  accessFlags := 1537
  interfaces := #[]
  cf := some (fileOf pool26 2 #[] #[] 1537 4 #[] #[])
  fields := #[]
  methods := #[]
  instanceTypes := #[]
  staticTypes := #[]
  resolved := Array.replicate 8 none
  statics := none }

/-- the primitive byte -/
def k27 : Class := { plain "byte" none with kind := .primitive 'B', accessFlags := 0x411 }
/-- [B -/
def k28 : Class := { plain "[B" (some 0) with kind := .array 27 .byte, interfaces := #[26, 4], accessFlags := 1041 }

/-- the primitive int -/
def k29 : Class := { plain "int" none with kind := .primitive 'I', accessFlags := 0x411 }
/-- [I -/
def k30 : Class := { plain "[I" (some 0) with kind := .array 29 .int, interfaces := #[26, 4], accessFlags := 1041 }

/-- [Ljava/lang/Object; -/
def k31 : Class := { plain "[Ljava/lang/Object;" (some 0) with kind := .array 0 (.object "java/lang/Object"), interfaces := #[26, 4], accessFlags := 1041 }

def heap : Heap := #[{ cls := 7, slots := #[.ref 6, .ref 10, .ref 12, .ref 7, .ref 14, .ref 13, .null], vm := .statics 7 },
  { cls := 13, slots := #[.long 0, .int 0, .null, .null, .ref 15, .null, .null, .null, .int 0, .int 0], vm := .statics 13 },
  { cls := 14, slots := #[.ref 8], vm := .statics 14 },
  { cls := 15, slots := #[.ref 16], vm := .statics 15 },
  { cls := 16, slots := #[.ref 11, .ref 9, .null], vm := .statics 16 },
  { cls := 31, slots := #[], vm := .none },
  { cls := 7, slots := #[.null, .int 0, .int 0, .null], vm := .none },
  { cls := 7, slots := #[.null, .int 0, .int 0, .null], vm := .none },
  { cls := 14, slots := #[.null, .null], vm := .none },
  { cls := 16, slots := #[.null, .int 0, .int 0, .null], vm := .none },
  { cls := 7, slots := #[.null, .int 0, .int 0, .null], vm := .none },
  { cls := 16, slots := #[.null, .int 0, .int 0, .null], vm := .none },
  { cls := 7, slots := #[.null, .int 0, .int 0, .null], vm := .none },
  { cls := 7, slots := #[.null, .int 0, .int 0, .null], vm := .none },
  { cls := 7, slots := #[.null, .int 0, .int 0, .null], vm := .none },
  { cls := 25, slots := #[.ref 5, .int 0], vm := .none },
  { cls := 15, slots := #[.int 0, .long 0], vm := .none }]
def classes : Array Class := #[k0, k1, k2, k3, k4, k5, k6, k7, k8, k9, k10, k11, k12, k13, k14, k15, k16, k17, k18, k19, k20, k21, k22, k23, k24, k25, k26, k27, k28, k29, k30, k31]
def interned : List (Array UInt16 × Addr) := []
def slotsUsed : Nat := 60
def theMethod : MethodId := ⟨1, 2⟩
def args0 : Array Value := #[.int 5, .int 3, .int 2]
def aboutOver (below : List Frame) : State where
  vm := { classes := classes, interned := interned.toArray }
  heap := heap
  slotsUsed := slotsUsed
  threads := #[{ frames := .invoking theMethod args0 :: below }]
def below0 : List Frame := [.native { method := ⟨0, 0⟩, args := #[] }]
def about1 : State := aboutOver below0
def p0 : Program := .bare "" "" ""
def e0 : Env := launch0.env 0 0 0
theorem w_frames : about1.frames = Frame.invoking theMethod args0 :: below0 := rfl
set_option maxRecDepth 65536 in
theorem w_args : argsFit about1.vm theMethod args0 = true := by decide +kernel
set_option maxRecDepth 65536 in
theorem w_heap : heapFits about1 = true := by decide +kernel
set_option maxRecDepth 65536 in
theorem w_runnable : about1.curStatus? = some .runnable := by decide +kernel
set_option maxRecDepth 65536 in
theorem w_alone : about1.alone = true := by decide +kernel
set_option maxRecDepth 65536 in
theorem w_named : about1.methodNamed? x = some theMethod := by decide +kernel
set_option maxRecDepth 65536 in
theorem w_hears : about1.hears theMethod below0 = true := by decide +kernel
set_option maxRecDepth 65536 in
theorem w_ripe : about1.ripe theMethod args0 below0 = true := by decide +kernel
theorem w_running : about1.status = .running := rfl
set_option maxRecDepth 65536 in
theorem w_room : about1.hasRoom e0.platform room_1 = true :=
  launch0.hasRoom_least _ room_1 (by decide +kernel) (by decide +kernel) (by decide +kernel) (by decide +kernel) (by decide +kernel) (by decide +kernel)
theorem allAtoms_all (ts : List Jvm.Cond) (a : Array Jvm.Value) (st : Jvm.State) : (allAtoms ts).before a st = ts.all (fun c => c.before a st) := by
  induction ts with
  | nil => rfl
  | cons c t ih =>
    show (Jvm.Cond.and c (allAtoms t)).before a st = _
    rw [Jvm.Cond.before_and, ih, List.all_cons]
def words1 : List Jvm.Cond := Jvm.Cond.code x code maxLocals ret :: tables_1
/-- a 'code' word, met by the world's own term for the bytes: nothing is compared byte by byte -/
theorem code_word {y : MethodName} {bytes : ByteArray} {mx : Nat} {rt : Option FieldType} {a : Array Value} {s : State} {m : MethodId} {meth : Method} {c : Code} (h1 : s.methodNamed? y = some m) (h2 : s.vm.method? m = some meth) (h3 : meth.code = some c) (h4 : c.code = bytes)
    (h5 : (c.maxLocals == mx && c.exceptionTable.isEmpty && decide (c.maxStack ≤ mostOperands) && decide (meth.sig.returnType = rt) && !meth.locks && decide (parseMethodDescriptor y.desc = some meth.sig)) = true) : (Jvm.Cond.code y bytes mx rt).before a s = true := by
  simp only [Bool.and_eq_true, beq_iff_eq, Bool.not_eq_true', decide_eq_true_eq] at h5
  obtain ⟨⟨⟨⟨⟨g1, g2⟩, g3⟩, g4⟩, g5⟩, g6⟩ := h5
  simp [Cond.before, Cond.holds, Cond.value, h1, h2, h3, h4, g1, g2, g3, g4, g5, g6]
def isCode : Jvm.Cond → Bool
  | .code _ _ _ _ => true
  | _ => false
theorem all_split {L : List Jvm.Cond} {P : Jvm.Cond → Bool} (h1 : L.all (fun c => isCode c || P c) = true) (h2 : ∀ c ∈ L.filter isCode, P c = true) : L.all P = true := by
  refine List.all_eq_true.mpr fun c hc => ?_
  have h := List.all_eq_true.mp h1 c hc
  rcases Bool.eq_false_or_eq_true (isCode c) with hi | hi
  · exact h2 c (List.mem_filter.mpr ⟨hc, hi⟩)
  · simpa [hi] using h
set_option maxRecDepth 65536 in
theorem w_c0 : (Jvm.Cond.code x code maxLocals ret).before args0 about1 = true := code_word (m := ⟨1, 2⟩) (meth := k1m2) (c := k1c2) (by decide +kernel) rfl rfl rfl (by decide +kernel)
set_option maxRecDepth 65536 in
theorem w_c1 : (Jvm.Cond.code ({ cls := "com/example/wee_forge/weeforge/model/ProjectFilterOrderByPinLaw", name := "pick", desc := "(I)Lcom/example/wee_forge/weeforge/model/ProjectOrder;" } : Jvm.MethodName) method_2_code (1 : Nat) (Option.some (Jvm.ClassFile.FieldType.object "com/example/wee_forge/weeforge/model/ProjectOrder"))).before args0 about1 = true := code_word (m := ⟨1, 1⟩) (meth := k1m1) (c := k1c1) (by decide +kernel) rfl rfl rfl (by decide +kernel)
set_option maxRecDepth 65536 in
theorem w_c2 : (Jvm.Cond.code ({ cls := "com/example/wee_forge/weeforge/model/ProjectFilter", name := "<init>", desc := "()V" } : Jvm.MethodName) prog_25_method_1_code (1 : Nat) (Option.none : Option Jvm.ClassFile.FieldType)).before args0 about1 = true := code_word (m := ⟨8, 0⟩) (meth := k8m0) (c := k8c0) (by decide +kernel) rfl rfl rfl (by decide +kernel)
set_option maxRecDepth 65536 in
theorem w_c3 : (Jvm.Cond.code ({ cls := "java/lang/Object", name := "<init>", desc := "()V" } : Jvm.MethodName) object_method_1_code (1 : Nat) (Option.none : Option Jvm.ClassFile.FieldType)).before args0 about1 = true := code_word (m := ⟨0, 0⟩) (meth := k0m0) (c := k0c0) (by decide +kernel) rfl rfl rfl (by decide +kernel)
set_option maxRecDepth 65536 in
theorem w_c4 : (Jvm.Cond.code ({ cls := "java/util/List", name := "of", desc := "()Ljava/util/List;" } : Jvm.MethodName) jdk_40_method_36_code (0 : Nat) (Option.some (Jvm.ClassFile.FieldType.object "java/util/List"))).before args0 about1 = true := code_word (m := ⟨12, 0⟩) (meth := k12m0) (c := k12c0) (by decide +kernel) rfl rfl rfl (by decide +kernel)
set_option maxRecDepth 65536 in
theorem w_c5 : (Jvm.Cond.code ({ cls := "java/util/OptionalLong", name := "empty", desc := "()Ljava/util/OptionalLong;" } : Jvm.MethodName) jdk_2650_method_2_code (0 : Nat) (Option.some (Jvm.ClassFile.FieldType.object "java/util/OptionalLong"))).before args0 about1 = true := code_word (m := ⟨15, 1⟩) (meth := k15m1) (c := k15c1) (by decide +kernel) rfl rfl rfl (by decide +kernel)
set_option maxRecDepth 65536 in
theorem w_c6 : (Jvm.Cond.code ({ cls := "com/example/wee_forge/weeforge/model/ProjectFilter", name := "orderBy", desc := "()Lcom/example/wee_forge/weeforge/model/ProjectOrder;" } : Jvm.MethodName) prog_25_method_23_code (1 : Nat) (Option.some (Jvm.ClassFile.FieldType.object "com/example/wee_forge/weeforge/model/ProjectOrder"))).before args0 about1 = true := code_word (m := ⟨8, 5⟩) (meth := k8m5) (c := k8c5) (by decide +kernel) rfl rfl rfl (by decide +kernel)
set_option maxRecDepth 65536 in
theorem w_c7 : (Jvm.Cond.code ({ cls := "com/example/wee_forge/weeforge/model/ProjectFilter", name := "orderBy", desc := "(Lcom/example/wee_forge/weeforge/model/ProjectOrder;)Lcom/example/wee_forge/weeforge/model/ProjectFilter;" } : Jvm.MethodName) prog_25_method_11_code (2 : Nat) (Option.some (Jvm.ClassFile.FieldType.object "com/example/wee_forge/weeforge/model/ProjectFilter"))).before args0 about1 = true := code_word (m := ⟨8, 2⟩) (meth := k8m2) (c := k8c2) (by decide +kernel) rfl rfl rfl (by decide +kernel)
set_option maxRecDepth 65536 in
theorem w_c8 : (Jvm.Cond.code ({ cls := "java/util/Objects", name := "requireNonNull", desc := "(Ljava/lang/Object;Ljava/lang/String;)Ljava/lang/Object;" } : Jvm.MethodName) jdk_31_method_11_code (2 : Nat) (Option.some (Jvm.ClassFile.FieldType.object "java/lang/Object"))).before args0 about1 = true := code_word (m := ⟨20, 1⟩) (meth := k20m1) (c := k20c1) (by decide +kernel) rfl rfl rfl (by decide +kernel)
set_option maxRecDepth 65536 in
theorem w_c9 : (Jvm.Cond.code ({ cls := "com/example/wee_forge/weeforge/model/ProjectFilter", name := "sort", desc := "()Lcom/example/wee_forge/weeforge/model/SortDirection;" } : Jvm.MethodName) prog_25_method_24_code (1 : Nat) (Option.some (Jvm.ClassFile.FieldType.object "com/example/wee_forge/weeforge/model/SortDirection"))).before args0 about1 = true := code_word (m := ⟨8, 6⟩) (meth := k8m6) (c := k8c6) (by decide +kernel) rfl rfl rfl (by decide +kernel)
set_option maxRecDepth 65536 in
theorem w_c10 : (Jvm.Cond.code ({ cls := "com/example/wee_forge/weeforge/model/ProjectFilter", name := "starredOnly", desc := "()Z" } : Jvm.MethodName) prog_25_method_18_code (1 : Nat) (Option.some Jvm.ClassFile.FieldType.boolean)).before args0 about1 = true := code_word (m := ⟨8, 4⟩) (meth := k8m4) (c := k8c4) (by decide +kernel) rfl rfl rfl (by decide +kernel)
set_option maxRecDepth 65536 in
theorem w_c11 : (Jvm.Cond.code ({ cls := "com/example/wee_forge/weeforge/model/ProjectFilter", name := "sort", desc := "(Lcom/example/wee_forge/weeforge/model/SortDirection;)Lcom/example/wee_forge/weeforge/model/ProjectFilter;" } : Jvm.MethodName) prog_25_method_12_code (2 : Nat) (Option.some (Jvm.ClassFile.FieldType.object "com/example/wee_forge/weeforge/model/ProjectFilter"))).before args0 about1 = true := code_word (m := ⟨8, 3⟩) (meth := k8m3) (c := k8c3) (by decide +kernel) rfl rfl rfl (by decide +kernel)
set_option maxRecDepth 65536 in
theorem w_c12 : (Jvm.Cond.code ({ cls := "com/example/wee_forge/weeforge/model/ProjectFilter", name := "starredOnly", desc := "(Z)Lcom/example/wee_forge/weeforge/model/ProjectFilter;" } : Jvm.MethodName) prog_25_method_7_code (2 : Nat) (Option.some (Jvm.ClassFile.FieldType.object "com/example/wee_forge/weeforge/model/ProjectFilter"))).before args0 about1 = true := code_word (m := ⟨8, 1⟩) (meth := k8m1) (c := k8c1) (by decide +kernel) rfl rfl rfl (by decide +kernel)
def codes1 : List Jvm.Cond := [Jvm.Cond.code x code maxLocals ret, Jvm.Cond.code ({ cls := "com/example/wee_forge/weeforge/model/ProjectFilterOrderByPinLaw", name := "pick", desc := "(I)Lcom/example/wee_forge/weeforge/model/ProjectOrder;" } : Jvm.MethodName) method_2_code (1 : Nat) (Option.some (Jvm.ClassFile.FieldType.object "com/example/wee_forge/weeforge/model/ProjectOrder")), Jvm.Cond.code ({ cls := "com/example/wee_forge/weeforge/model/ProjectFilter", name := "<init>", desc := "()V" } : Jvm.MethodName) prog_25_method_1_code (1 : Nat) (Option.none : Option Jvm.ClassFile.FieldType), Jvm.Cond.code ({ cls := "java/lang/Object", name := "<init>", desc := "()V" } : Jvm.MethodName) object_method_1_code (1 : Nat) (Option.none : Option Jvm.ClassFile.FieldType), Jvm.Cond.code ({ cls := "java/util/List", name := "of", desc := "()Ljava/util/List;" } : Jvm.MethodName) jdk_40_method_36_code (0 : Nat) (Option.some (Jvm.ClassFile.FieldType.object "java/util/List")), Jvm.Cond.code ({ cls := "java/util/OptionalLong", name := "empty", desc := "()Ljava/util/OptionalLong;" } : Jvm.MethodName) jdk_2650_method_2_code (0 : Nat) (Option.some (Jvm.ClassFile.FieldType.object "java/util/OptionalLong")), Jvm.Cond.code ({ cls := "com/example/wee_forge/weeforge/model/ProjectFilter", name := "orderBy", desc := "()Lcom/example/wee_forge/weeforge/model/ProjectOrder;" } : Jvm.MethodName) prog_25_method_23_code (1 : Nat) (Option.some (Jvm.ClassFile.FieldType.object "com/example/wee_forge/weeforge/model/ProjectOrder")), Jvm.Cond.code ({ cls := "com/example/wee_forge/weeforge/model/ProjectFilter", name := "orderBy", desc := "(Lcom/example/wee_forge/weeforge/model/ProjectOrder;)Lcom/example/wee_forge/weeforge/model/ProjectFilter;" } : Jvm.MethodName) prog_25_method_11_code (2 : Nat) (Option.some (Jvm.ClassFile.FieldType.object "com/example/wee_forge/weeforge/model/ProjectFilter")), Jvm.Cond.code ({ cls := "java/util/Objects", name := "requireNonNull", desc := "(Ljava/lang/Object;Ljava/lang/String;)Ljava/lang/Object;" } : Jvm.MethodName) jdk_31_method_11_code (2 : Nat) (Option.some (Jvm.ClassFile.FieldType.object "java/lang/Object")), Jvm.Cond.code ({ cls := "com/example/wee_forge/weeforge/model/ProjectFilter", name := "sort", desc := "()Lcom/example/wee_forge/weeforge/model/SortDirection;" } : Jvm.MethodName) prog_25_method_24_code (1 : Nat) (Option.some (Jvm.ClassFile.FieldType.object "com/example/wee_forge/weeforge/model/SortDirection")), Jvm.Cond.code ({ cls := "com/example/wee_forge/weeforge/model/ProjectFilter", name := "starredOnly", desc := "()Z" } : Jvm.MethodName) prog_25_method_18_code (1 : Nat) (Option.some Jvm.ClassFile.FieldType.boolean), Jvm.Cond.code ({ cls := "com/example/wee_forge/weeforge/model/ProjectFilter", name := "sort", desc := "(Lcom/example/wee_forge/weeforge/model/SortDirection;)Lcom/example/wee_forge/weeforge/model/ProjectFilter;" } : Jvm.MethodName) prog_25_method_12_code (2 : Nat) (Option.some (Jvm.ClassFile.FieldType.object "com/example/wee_forge/weeforge/model/ProjectFilter")), Jvm.Cond.code ({ cls := "com/example/wee_forge/weeforge/model/ProjectFilter", name := "starredOnly", desc := "(Z)Lcom/example/wee_forge/weeforge/model/ProjectFilter;" } : Jvm.MethodName) prog_25_method_7_code (2 : Nat) (Option.some (Jvm.ClassFile.FieldType.object "com/example/wee_forge/weeforge/model/ProjectFilter"))]
set_option maxRecDepth 65536 in
theorem codes_eq : words1.filter isCode = codes1 := rfl
theorem w_codes : ∀ c ∈ words1.filter isCode, c.before args0 about1 = true := by
  rw [codes_eq]
  intro c hc
  simp only [codes1, List.mem_cons, List.not_mem_nil, or_false] at hc
  rcases hc with rfl | rfl | rfl | rfl | rfl | rfl | rfl | rfl | rfl | rfl | rfl | rfl | rfl
  · exact w_c0
  · exact w_c1
  · exact w_c2
  · exact w_c3
  · exact w_c4
  · exact w_c5
  · exact w_c6
  · exact w_c7
  · exact w_c8
  · exact w_c9
  · exact w_c10
  · exact w_c11
  · exact w_c12
set_option maxRecDepth 65536 in
theorem w_t1 : (words1.take 24).all (fun c => isCode c || c.before args0 about1) = true := by decide +kernel
set_option maxRecDepth 65536 in
theorem w_t2 : ((words1.drop 24).take 24).all (fun c => isCode c || c.before args0 about1) = true := by decide +kernel
set_option maxRecDepth 65536 in
theorem w_t3 : (((words1.drop 24).drop 24).take 24).all (fun c => isCode c || c.before args0 about1) = true := by decide +kernel
set_option maxRecDepth 65536 in
theorem w_t4 : ((((words1.drop 24).drop 24).drop 24).take 24).all (fun c => isCode c || c.before args0 about1) = true := by decide +kernel
set_option maxRecDepth 65536 in
theorem w_t5 : ((((words1.drop 24).drop 24).drop 24).drop 24).all (fun c => isCode c || c.before args0 about1) = true := by decide +kernel
theorem w_tables : (allAtoms (Jvm.Cond.code x code maxLocals ret :: tables_1)).before args0 about1 = true := by
  rw [allAtoms_all]
  show words1.all (fun c => c.before args0 about1) = true
  refine all_split ?_ w_codes
  rw [← List.take_append_drop 24 words1, List.all_append, w_t1, ← List.take_append_drop 24 (words1.drop 24), List.all_append, w_t2, ← List.take_append_drop 24 ((words1.drop 24).drop 24), List.all_append, w_t3, ← List.take_append_drop 24 (((words1.drop 24).drop 24).drop 24), List.all_append, w_t4, w_t5]
  rfl
set_option maxRecDepth 65536 in
theorem w_rest : rest_1_c.before args0 about1 = true := by decide +kernel
set_option maxRecDepth 65536 in
theorem w_case : (Jvm.Cond.and given_1 narrow_1).before args0 about1 = true := by decide +kernel
theorem w_applies : (headSpec (Jvm.Cond.code x code maxLocals ret :: tables_1) room_1).applies x e0.platform about1 = true :=
  (Spec.applies_iff w_frames).mpr ⟨w_running, w_runnable, w_alone, w_named, w_hears, w_ripe, w_room, w_tables⟩
theorem atStart : AtStart classFile x code maxLocals ret World_1 tables_1 room_1 Calls_1 rest_1 Pre_1 launch0 p0 e0 about1 theMethod args0 below0 :=
  ⟨lists_1, trivial, launch0.admits_env _ _ _, launch0.least_env, fairChoices_fair.cas, fairChoices_fair.clock, w_frames, w_args, w_heap, w_applies, trivial, w_rest, w_case⟩
end start1
theorem witness_1 : WitnessClaimed_1 := ⟨start1.p0, start1.e0, start1.about1, start1.theMethod, start1.args0, start1.below0, start1.atStart⟩
end Jvm.Pilot.@@N@@
