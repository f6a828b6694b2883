import JvmDerived
import JvmDerived.Pilot.@@N@@Statement
import JvmDerived.Pilot.@@N@@Code
set_option linter.unusedVariables false
set_option linter.unusedSimpArgs false
namespace Jvm.RoadKit
open Sem ClassFile Op Lib Jvm.Stand Jvm.Free Jvm.LawKit
section New
variable {p : Program} {l : Launch} {e : Env} {R : Room} {s : State} {m : MethodId} {args : Array Value} {below : List Frame} {meth : Method} {c : Code} {T : State} {locs : List Loc} {cells slots : Nat}
theorem retI (X : Stand p l e R s m args below meth c T locs cells slots) (hx : p.tables.exec = Jvm.exec) {pc : Nat} {Ls : Array Slot} {z : Int32} {rest : List Value} (hret : meth.sig.returnType = some .int) (hd : decode c.code pc = .ok (.ireturn, 1)) {fs : List Frame}
    (hl : ∀ (f : JFrame) (acts : List Action), f.method = m → f.locked = none → f.entered = [] → (doReturn e (T.setTop f) acts (some (.int z))).1 = T.setFrames fs) : Steps p.tables e below (T.setTop (mkF m pc Ls (.int z :: rest))) (T.setFrames fs) := by
  have hm' : T.vm.method? m = some meth := X.method'
  have hn : narrow .int (.int z) = .int z := rfl
  show Steps p.tables e below (T.setTop { method := m, pc := pc, locals := Ls, stack := _ :: rest, locked := none }) _
  jvm_step X.here [X.here.top, hx, hd, hm', hret, hn]
  first | (intro acts; rw [hl _ acts rfl rfl rfl]) | rw [hl _ _ rfl rfl rfl]
  exact Steps.refl _
end New
end Jvm.RoadKit
namespace Jvm.Pilot.@@N@@
open Jvm Jvm.ClassFile Sem Op Lib Jvm.Free Jvm.Stand Jvm.LawKit Jvm.RoadKit Bundle Jvm.Pilot.@@N@@.Jvm.D
theorem own_retb (z : Int32) (h : z = 0 ∨ z = 1) : narrow .boolean (.int z) = .int z := by rcases h with rfl | rfl <;> rfl
theorem own_rem (x n : Int32) (hn : 0 < n.toInt) : 0 ≤ ((x &&& (2147483647 : Int32)) % n).toInt ∧ ((x &&& (2147483647 : Int32)) % n).toInt < n.toInt := by
  have h1 := c_mask x (2147483647 : Int32) 31 (by decide) (by decide)
  have h2 := (c_iremV (x &&& (2147483647 : Int32)) n).1 (by omega) hn
  exact ⟨h2.1, h2.2.1⟩
theorem own_of3 {k : Int32} (h : 0 ≤ k.toInt ∧ k.toInt < 3) : k = 0 ∨ k = 1 ∨ k = 2 := by
  have h2 : k.toInt = (0 : Int32).toInt ∨ k.toInt = (1 : Int32).toInt ∨ k.toInt = (2 : Int32).toInt := by simp; omega
  simpa only [Int32.toInt_inj] using h2
theorem own_of5 {k : Int32} (h : 0 ≤ k.toInt ∧ k.toInt < 5) : k = 0 ∨ k = 1 ∨ k = 2 ∨ k = 3 ∨ k = 4 := by
  have h2 : k.toInt = (0 : Int32).toInt ∨ k.toInt = (1 : Int32).toInt ∨ k.toInt = (2 : Int32).toInt ∨ k.toInt = (3 : Int32).toInt ∨ k.toInt = (4 : Int32).toInt := by simp; omega
  simpa only [Int32.toInt_inj] using h2
theorem own_of6 {k : Int32} (h : 0 ≤ k.toInt ∧ k.toInt < 6) : k = 0 ∨ k = 1 ∨ k = 2 ∨ k = 3 ∨ k = 4 ∨ k = 5 := by
  have h2 : k.toInt = (0 : Int32).toInt ∨ k.toInt = (1 : Int32).toInt ∨ k.toInt = (2 : Int32).toInt ∨ k.toInt = (3 : Int32).toInt ∨ k.toInt = (4 : Int32).toInt ∨ k.toInt = (5 : Int32).toInt := by simp; omega
  simpa only [Int32.toInt_inj] using h2
theorem own_eqI {args : Array Value} {s : State} {t : Term} {k : Int32} (h : (Jvm.Cond.eq t (.int k)).value args s none s [] = some true) : t.eval args s none [] s = some (.int k) := by
  obtain ⟨u, v, hu, hv, k1, k2⟩ := cmp_v (Or.inl h)
  have hv2 : v = .int k := Option.some.inj (hv.symm.trans (Term.int_eval k))
  subst hv2
  cases u <;> simp [Cond.value, hu, hv] at h
  subst h; exact hu
theorem own_fld {args : Array Value} {s : State} {t : Term} {a : Addr} {C n d : String} {k : Int32} (ev : t.eval args s none [] s = some (.ref a)) (h : (Jvm.Cond.eq (.field t C n d) (.int k)).value args s none s [] = some true) : Fld s s.heap a C n d (.int k) :=
  Fld.start ((fld_at ev).symm.trans (own_eqI h))
theorem own_len {args : Array Value} {s : State} {t : Term} {a : Addr} {cl : Cell} {ty : FieldType} {k : Int32} (ev : t.eval args s none [] s = some (.ref a)) (A : Arr s s.heap a cl ty) (h : (Jvm.Cond.eq (.length t) (.int k)).value args s none s [] = some true) : cl.slots.size.toInt32 = k := by
  obtain ⟨b, c, e1, e2, e3⟩ := Term.length_spec (own_eqI h)
  cases ev.symm.trans e1
  cases (A.fin (Vm.Alike.refl _)).symm.trans e2
  exact (Value.int.inj e3).symm
theorem own_lenlt {args : Array Value} {s : State} {t : Term} {a : Addr} {cl : Cell} {ty : FieldType} {k : Int32} (ev : t.eval args s none [] s = some (.ref a)) (A : Arr s s.heap a cl ty) (h : (Jvm.Cond.eq (.length t) (.int k)).value args s none s [] = some true) : cl.slots.size < 2 ^ 31 := by
  have h1 := own_eqI h
  have h2 := A.fin (Vm.Alike.refl _)
  apply Classical.byContradiction
  intro h3
  simp [Term.eval, ev, h2, h3] at h1
theorem own_elem {args : Array Value} {s : State} {t u : Term} {a b : Addr} {cl : Cell} {ty : FieldType} {j : Int32} (ev : t.eval args s none [] s = some (.ref a)) (A : Arr s s.heap a cl ty) (hu : u.eval args s none [] s = some (.ref b)) (h : (Jvm.Cond.eq (.elem t (.int j)) u).value args s none s [] = some true) : cl.slots[j.toNatClampNeg]? = some (.ref b) := by
  obtain ⟨x, y, hx, hy, -, -⟩ := cmp_v (Or.inl h)
  cases hu.symm.trans hy
  have h2 := (elem_in hx ev (Term.int_eval j) A.1).2
  cases x <;> simp [Cond.value, hx, hy] at h
  subst h; exact h2
theorem own_fldN {args : Array Value} {s : State} {t : Term} {a : Addr} {C n d : String} (ev : t.eval args s none [] s = some (.ref a)) (h : (Jvm.Cond.eq (.field t C n d) .null).value args s none s [] = some true) : Fld s s.heap a C n d .null :=
  Fld.start ((fld_at ev).symm.trans (null_v h))
theorem own_staK {Z : State} {h h' : Heap} {C n d : String} {v : Value} {ws : List Addr} (S : Sta Z h C n d v) (K : Keep h h' ws) (q : ∀ x ∈ ws, ∃ C', Exa Z h x C') : Sta Z h' C n d v := by
  obtain ⟨cf, i, k, f, st, cell, h1, h2, h3, h4, h5, h6, h7⟩ := S
  refine ⟨cf, i, k, f, st, cell, h1, h2, h3, h4, K.2.1 _ _ h5 (fun m => ?_), h6, h7⟩
  obtain ⟨C', cell', k', e1, -, -, e4, -⟩ := q st m
  cases h5.symm.trans e1
  rw [h6] at e4; cases e4
theorem own_wS {Z : State} {a0 : Array Value} (hw : ∀ d ∈ tables_1, d.before a0 Z = true) : ∀ a ∈ Bundle.stringAtoms, a.before a0 Z = true := by
  intro a ha
  simp only [Bundle.stringAtoms, List.mem_cons, List.not_mem_nil, or_false] at ha
  rcases ha with rfl | rfl | rfl | rfl | rfl | rfl | rfl
  · exact (hw _ (List.mem_of_getElem? (i := 65) rfl))
  · exact (hw _ (List.mem_of_getElem? (i := 66) rfl))
  · exact (hw _ (List.mem_of_getElem? (i := 67) rfl))
  · exact (hw _ (List.mem_of_getElem? (i := 68) rfl))
  · exact (hw _ (List.mem_of_getElem? (i := 69) rfl))
  · exact (hw _ (List.mem_of_getElem? (i := 70) rfl))
  · exact (hw _ (List.mem_of_getElem? (i := 71) rfl))
def QR (Z : State) (r : Addr) (h0 : Heap) (n0 : Nat) (v : Option Value) (h : Heap) (L : List Loc) : Prop := v = some (.ref r) ∧ Fr n0 L ∧ h = h0
def QI (Z : State) (r : Int32) (h0 : Heap) (n0 : Nat) (v : Option Value) (h : Heap) (L : List Loc) : Prop := v = some (.int r) ∧ Fr n0 L ∧ h = h0
def QF (Z : State) (a1 x1 x2 : Addr) (x3 : Int32) (h0 : Heap) (n0 : Nat) (v : Option Value) (h : Heap) (L : List Loc) : Prop := v = some (.ref a1) ∧ Fr n0 L ∧ Keep h0 h [a1] ∧ Exa Z h a1 "com/example/wee_forge/weeforge/model/ProjectFilter" ∧ Fld Z h a1 "com/example/wee_forge/weeforge/model/ProjectFilter" "sort" "Lcom/example/wee_forge/weeforge/model/SortDirection;" (.ref x1) ∧ Fld Z h a1 "com/example/wee_forge/weeforge/model/ProjectFilter" "orderBy" "Lcom/example/wee_forge/weeforge/model/ProjectOrder;" (.ref x2) ∧ Fld Z h a1 "com/example/wee_forge/weeforge/model/ProjectFilter" "starredOnly" "Z" (.int x3)
def QC (Z : State) (a1 x1 x2 : Addr) (x3 : Int32) (h0 : Heap) (n0 : Nat) (v : Option Value) (h : Heap) (L : List Loc) : Prop := v = none ∧ Fr n0 L ∧ Keep h0 h [a1] ∧ Exa Z h a1 "com/example/wee_forge/weeforge/model/ProjectFilter" ∧ Fld Z h a1 "com/example/wee_forge/weeforge/model/ProjectFilter" "sort" "Lcom/example/wee_forge/weeforge/model/SortDirection;" (.ref x1) ∧ Fld Z h a1 "com/example/wee_forge/weeforge/model/ProjectFilter" "orderBy" "Lcom/example/wee_forge/weeforge/model/ProjectOrder;" (.ref x2) ∧ Fld Z h a1 "com/example/wee_forge/weeforge/model/ProjectFilter" "starredOnly" "Z" (.int x3)
def own_pick (i : Int32) (b0 b1 b2 b3 b4 b5 : Addr) : Addr := if i = 0 then b0 else if i = 1 then b1 else if i = 2 then b2 else if i = 3 then b3 else if i = 4 then b4 else b5
theorem own_epick {Z : State} {h : Heap} {C : String} {i : Int32} {b0 b1 b2 b3 b4 b5 : Addr} (f0 : Exa Z h b0 C) (f1 : Exa Z h b1 C) (f2 : Exa Z h b2 C) (f3 : Exa Z h b3 C) (f4 : Exa Z h b4 C) (f5 : Exa Z h b5 C) : Exa Z h (own_pick i b0 b1 b2 b3 b4 b5) C := by
  unfold own_pick
  repeat' split
  all_goals assumption
theorem d5_0 : decode jdk_40_method_36_code 0 = .ok (.getstatic 90, 3) := by decide +kernel
theorem d5_3 : decode jdk_40_method_36_code 3 = .ok (.areturn, 1) := by decide +kernel
theorem pn_rmLo : plainName "java/util/List" = true := by first | (simp [plainName, overriddenIn]; done) | decide +kernel
theorem ef_rmLo (m : MethodId)  : entryFrame m #[] 0 = mkF m 0 #[] [] := by first | (simp [entryFrame, mkF, argsToLocals, Value.category]; done) | rfl
set_option maxRecDepth 65536 in
set_option maxHeartbeats 40000000 in
theorem rmLo (l : Launch) (Z : State) (a0 : Array Value) (hw : ∀ d ∈ tables_1, d.before a0 Z = true) (ws : List Jvm.Cond) (wEL : Addr) (h0 : Heap) (n0 : Nat) (Z0 : n0 ≤ h0.size) (S_EL : Sta Z h0 "java/util/ImmutableCollections" "EMPTY_LIST" "Ljava/util/ImmutableCollections$ListN;" (.ref wEL)) :
    MetFree l (⟨"java/util/List", "of", "()Ljava/util/List;"⟩ : MethodName) (head1 (Jvm.Cond.code (⟨"java/util/List", "of", "()Ljava/util/List;"⟩ : MethodName) jdk_40_method_36_code 0 (some (.object "java/util/List")) :: ws) ({ frames := 0, cells := 0, slots := 0, locals := 0 } : Room)) (fun a U => a = #[] ∧ Z.Warmed39 U.vm ∧ U.heap = h0) (fun _ _ _ _ _ => True) (fun _ U o U' => ∃ v L, o = .returned v ∧ QR Z wEL h0 n0 v U'.heap L ∧ FrameEnd U o U' L ({ frames := 0, cells := 0, slots := 0, locals := 0 } : Room).cells ({ frames := 0, cells := 0, slots := 0, locals := 0 } : Room).slots) := by
  refine MetFree.of_bodySF (plainFor_of_name pn_rmLo) hisR ?_
  intro p e s m args below meth c s₁ Bd hml0 hP hK
  obtain ⟨rfl, hZ, hh⟩ := hP
  have hx := Bd.exec
  have hby := Bd.bytes
  have hml : c.maxLocals = 0 := hml0
  have hown : s.vm.findClass "java/util/List" = some m.cls := findClass_of_methodNamed Bd.named
  have hnm := (name_of_methodNamed Bd.named Bd.method).1
  have X0 : Stand p l e ({ frames := 0, cells := 0, slots := 0, locals := 0 } : Room) s m #[] below meth c s₁ [] 0 0 := Stand.of_body Bd
  have e0 : s₁.heap = h0 := by rw [← hh, Bd.state]; rfl
  have N0 := Fr.nil n0
  have pre0 : ∀ tt, Steps p.tables e below (s₁.setTop (mkF m 0 #[] [])) tt → Steps p.tables e below (s₁.setTop (entryFrame m #[] 0)) tt := fun tt kt => castTop (ef_rmLo m ) kt
  obtain ⟨T1, X1, e1, st1⟩ := getS2 X0 hx hZ hown (host := "") (Or.inl (hw _ (List.mem_of_getElem? (i := 29) rfl))) Via.refl e0 S_EL (g := (mkF m 0 #[] [])) rfl (hb hby d5_0)
  have pre2 : ∀ tt, Steps p.tables e below (T1.setTop (mkF m 3 #[] [(.ref wEL)])) tt → Steps p.tables e below (s₁.setTop (entryFrame m #[] 0)) tt := by
    intro tt kt
    refine pre0 tt ?_
    show Steps p.tables e below (s₁.setTop (mkF m 0 #[] [])) _
    refine st1 _ ?_
    exact kt
  obtain ⟨fs, hr, hrun, hended, hW, hsame⟩ := X1.leave (v := some (.ref wEL)) (fun h => by rw [Bd.returns] at h; cases h)
  refine ⟨_, _, pre2 _ ?_, hrun, hended, _, _, rfl, ?_, ⟨_, rfl⟩, hW, hsame.mono (by decide) (by decide)⟩
  · show Steps p.tables e below (T1.setTop (mkF m 3 #[] [(.ref wEL)])) _
    jvm_step X1.here [X1.here.top, hx, (hb hby d5_3), X1.method', Bd.returns, Value.isRef, FieldType.isReference]
    first | (intro acts; rw [hr _ acts rfl rfl rfl]) | rw [hr _ _ rfl rfl rfl]
    exact Steps.refl _
  · show QR Z wEL h0 n0 _ T1.heap _
    rw [e1]
    exact ⟨rfl, N0, rfl⟩
theorem d6_0 : decode jdk_2650_method_2_code 0 = .ok (.getstatic 17, 3) := by decide +kernel
theorem d6_3 : decode jdk_2650_method_2_code 3 = .ok (.areturn, 1) := by decide +kernel
theorem pn_rmOe : plainName "java/util/OptionalLong" = true := by first | (simp [plainName, overriddenIn]; done) | decide +kernel
theorem ef_rmOe (m : MethodId)  : entryFrame m #[] 0 = mkF m 0 #[] [] := by first | (simp [entryFrame, mkF, argsToLocals, Value.category]; done) | rfl
set_option maxRecDepth 65536 in
set_option maxHeartbeats 40000000 in
theorem rmOe (l : Launch) (Z : State) (a0 : Array Value) (hw : ∀ d ∈ tables_1, d.before a0 Z = true) (ws : List Jvm.Cond) (wOL : Addr) (h0 : Heap) (n0 : Nat) (Z0 : n0 ≤ h0.size) (S_OL : Sta Z h0 "java/util/OptionalLong" "EMPTY" "Ljava/util/OptionalLong;" (.ref wOL)) :
    MetFree l (⟨"java/util/OptionalLong", "empty", "()Ljava/util/OptionalLong;"⟩ : MethodName) (head1 (Jvm.Cond.code (⟨"java/util/OptionalLong", "empty", "()Ljava/util/OptionalLong;"⟩ : MethodName) jdk_2650_method_2_code 0 (some (.object "java/util/OptionalLong")) :: ws) ({ frames := 0, cells := 0, slots := 0, locals := 0 } : Room)) (fun a U => a = #[] ∧ Z.Warmed39 U.vm ∧ U.heap = h0) (fun _ _ _ _ _ => True) (fun _ U o U' => ∃ v L, o = .returned v ∧ QR Z wOL h0 n0 v U'.heap L ∧ FrameEnd U o U' L ({ frames := 0, cells := 0, slots := 0, locals := 0 } : Room).cells ({ frames := 0, cells := 0, slots := 0, locals := 0 } : Room).slots) := by
  refine MetFree.of_bodySF (plainFor_of_name pn_rmOe) hisR ?_
  intro p e s m args below meth c s₁ Bd hml0 hP hK
  obtain ⟨rfl, hZ, hh⟩ := hP
  have hx := Bd.exec
  have hby := Bd.bytes
  have hml : c.maxLocals = 0 := hml0
  have hown : s.vm.findClass "java/util/OptionalLong" = some m.cls := findClass_of_methodNamed Bd.named
  have hnm := (name_of_methodNamed Bd.named Bd.method).1
  have X0 : Stand p l e ({ frames := 0, cells := 0, slots := 0, locals := 0 } : Room) s m #[] below meth c s₁ [] 0 0 := Stand.of_body Bd
  have e0 : s₁.heap = h0 := by rw [← hh, Bd.state]; rfl
  have N0 := Fr.nil n0
  have pre0 : ∀ tt, Steps p.tables e below (s₁.setTop (mkF m 0 #[] [])) tt → Steps p.tables e below (s₁.setTop (entryFrame m #[] 0)) tt := fun tt kt => castTop (ef_rmOe m ) kt
  obtain ⟨T1, X1, e1, st1⟩ := getS2 X0 hx hZ hown (host := "") (Or.inl (hw _ (List.mem_of_getElem? (i := 46) rfl))) Via.refl e0 S_OL (g := (mkF m 0 #[] [])) rfl (hb hby d6_0)
  have pre2 : ∀ tt, Steps p.tables e below (T1.setTop (mkF m 3 #[] [(.ref wOL)])) tt → Steps p.tables e below (s₁.setTop (entryFrame m #[] 0)) tt := by
    intro tt kt
    refine pre0 tt ?_
    show Steps p.tables e below (s₁.setTop (mkF m 0 #[] [])) _
    refine st1 _ ?_
    exact kt
  obtain ⟨fs, hr, hrun, hended, hW, hsame⟩ := X1.leave (v := some (.ref wOL)) (fun h => by rw [Bd.returns] at h; cases h)
  refine ⟨_, _, pre2 _ ?_, hrun, hended, _, _, rfl, ?_, ⟨_, rfl⟩, hW, hsame.mono (by decide) (by decide)⟩
  · show Steps p.tables e below (T1.setTop (mkF m 3 #[] [(.ref wOL)])) _
    jvm_step X1.here [X1.here.top, hx, (hb hby d6_3), X1.method', Bd.returns, Value.isRef, FieldType.isReference]
    first | (intro acts; rw [hr _ acts rfl rfl rfl]) | rw [hr _ _ rfl rfl rfl]
    exact Steps.refl _
  · show QR Z wOL h0 n0 _ T1.heap _
    rw [e1]
    exact ⟨rfl, N0, rfl⟩
theorem d8_0 : decode jdk_31_method_11_code 0 = .ok (.aload_n 0, 1) := by decide +kernel
theorem d8_1 : decode jdk_31_method_11_code 1 = .ok (.ifnonnull 12, 3) := by decide +kernel
theorem d8_13 : decode jdk_31_method_11_code 13 = .ok (.aload_n 0, 1) := by decide +kernel
theorem d8_14 : decode jdk_31_method_11_code 14 = .ok (.areturn, 1) := by decide +kernel
theorem pn_rmNn : plainName "java/util/Objects" = true := by first | (simp [plainName, overriddenIn]; done) | decide +kernel
theorem ef_rmNn (m : MethodId) (a1 : Addr) (a2 : Addr) : entryFrame m #[(.ref a1), (.ref a2)] 2 = mkF m 0 #[.val (.ref a1), .val (.ref a2)] [] := by first | (simp [entryFrame, mkF, argsToLocals, Value.category]; done) | rfl
set_option maxRecDepth 65536 in
set_option maxHeartbeats 40000000 in
theorem rmNn (l : Launch) (Z : State) (a0 : Array Value) (hw : ∀ d ∈ tables_1, d.before a0 Z = true) (ws : List Jvm.Cond) (a1 a2 : Addr) (h0 : Heap) (n0 : Nat) (Z0 : n0 ≤ h0.size)  :
    MetFree l (⟨"java/util/Objects", "requireNonNull", "(Ljava/lang/Object;Ljava/lang/String;)Ljava/lang/Object;"⟩ : MethodName) (head1 (Jvm.Cond.code (⟨"java/util/Objects", "requireNonNull", "(Ljava/lang/Object;Ljava/lang/String;)Ljava/lang/Object;"⟩ : MethodName) jdk_31_method_11_code 2 (some (.object "java/lang/Object")) :: ws) ({ frames := 0, cells := 0, slots := 0, locals := 0 } : Room)) (fun a U => a = #[(.ref a1), (.ref a2)] ∧ Z.Warmed39 U.vm ∧ U.heap = h0) (fun _ _ _ _ _ => True) (fun _ U o U' => ∃ v L, o = .returned v ∧ QR Z a1 h0 n0 v U'.heap L ∧ FrameEnd U o U' L ({ frames := 0, cells := 0, slots := 0, locals := 0 } : Room).cells ({ frames := 0, cells := 0, slots := 0, locals := 0 } : Room).slots) := by
  refine MetFree.of_bodySF (plainFor_of_name pn_rmNn) hisR ?_
  intro p e s m args below meth c s₁ Bd hml0 hP hK
  obtain ⟨rfl, hZ, hh⟩ := hP
  have hx := Bd.exec
  have hby := Bd.bytes
  have hml : c.maxLocals = 2 := hml0
  have hown : s.vm.findClass "java/util/Objects" = some m.cls := findClass_of_methodNamed Bd.named
  have hnm := (name_of_methodNamed Bd.named Bd.method).1
  have X0 : Stand p l e ({ frames := 0, cells := 0, slots := 0, locals := 0 } : Room) s m #[(.ref a1), (.ref a2)] below meth c s₁ [] 0 0 := Stand.of_body Bd
  have e0 : s₁.heap = h0 := by rw [← hh, Bd.state]; rfl
  have N0 := Fr.nil n0
  have pre0 : ∀ tt, Steps p.tables e below (s₁.setTop (mkF m 0 #[.val (.ref a1), .val (.ref a2)] [])) tt → Steps p.tables e below (s₁.setTop (entryFrame m #[(.ref a1), (.ref a2)] 2)) tt := fun tt kt => castTop (ef_rmNn m a1 a2) kt
  have pre1 : ∀ tt, Steps p.tables e below (s₁.setTop (mkF m 14 #[.val (.ref a1), .val (.ref a2)] [(.ref a1)])) tt → Steps p.tables e below (s₁.setTop (entryFrame m #[(.ref a1), (.ref a2)] 2)) tt := by
    intro tt kt
    refine pre0 tt ?_
    show Steps p.tables e below (s₁.setTop (mkF m 0 #[.val (.ref a1), .val (.ref a2)] [])) _
    refine XS.aloadN X0.here hx rfl (hb hby d8_0) rfl rfl ?_
    show Steps p.tables e below (s₁.setTop (mkF m 1 #[.val (.ref a1), .val (.ref a2)] [(.ref a1)])) _
    refine XS.ifnonnullYes X0.here hx rfl (pc0 := 1) (pc' := 13) rfl (hb hby d8_1) rfl (by decide) (by decide) ?_
    show Steps p.tables e below (s₁.setTop (mkF m 13 #[.val (.ref a1), .val (.ref a2)] [])) _
    refine XS.aloadN X0.here hx rfl (hb hby d8_13) rfl rfl ?_
    exact kt
  obtain ⟨fs, hr, hrun, hended, hW, hsame⟩ := X0.leave (v := some (.ref a1)) (fun h => by rw [Bd.returns] at h; cases h)
  refine ⟨_, _, pre1 _ ?_, hrun, hended, _, _, rfl, ?_, ⟨_, rfl⟩, hW, hsame.mono (by decide) (by decide)⟩
  · show Steps p.tables e below (s₁.setTop (mkF m 14 #[.val (.ref a1), .val (.ref a2)] [(.ref a1)])) _
    jvm_step X0.here [X0.here.top, hx, (hb hby d8_14), X0.method', Bd.returns, Value.isRef, FieldType.isReference]
    first | (intro acts; rw [hr _ acts rfl rfl rfl]) | rw [hr _ _ rfl rfl rfl]
    exact Steps.refl _
  · show QR Z a1 h0 n0 _ s₁.heap _
    rw [e0]
    exact ⟨rfl, N0, rfl⟩
theorem d3_0 : decode prog_25_method_1_code 0 = .ok (.aload_n 0, 1) := by decide +kernel
theorem d3_1 : decode prog_25_method_1_code 1 = .ok (.invokespecial 1, 3) := by decide +kernel
theorem d3_4 : decode prog_25_method_1_code 4 = .ok (.aload_n 0, 1) := by decide +kernel
theorem d3_5 : decode prog_25_method_1_code 5 = .ok (.invokestatic 7, 3) := by decide +kernel
theorem d3_8 : decode prog_25_method_1_code 8 = .ok (.putfield 13, 3) := by decide +kernel
theorem d3_11 : decode prog_25_method_1_code 11 = .ok (.aload_n 0, 1) := by decide +kernel
theorem d3_12 : decode prog_25_method_1_code 12 = .ok (.invokestatic 7, 3) := by decide +kernel
theorem d3_15 : decode prog_25_method_1_code 15 = .ok (.putfield 19, 3) := by decide +kernel
theorem d3_18 : decode prog_25_method_1_code 18 = .ok (.aload_n 0, 1) := by decide +kernel
theorem d3_19 : decode prog_25_method_1_code 19 = .ok (.getstatic 22, 3) := by decide +kernel
theorem d3_22 : decode prog_25_method_1_code 22 = .ok (.putfield 28, 3) := by decide +kernel
theorem d3_25 : decode prog_25_method_1_code 25 = .ok (.aload_n 0, 1) := by decide +kernel
theorem d3_26 : decode prog_25_method_1_code 26 = .ok (.getstatic 22, 3) := by decide +kernel
theorem d3_29 : decode prog_25_method_1_code 29 = .ok (.putfield 31, 3) := by decide +kernel
theorem d3_32 : decode prog_25_method_1_code 32 = .ok (.aload_n 0, 1) := by decide +kernel
theorem d3_33 : decode prog_25_method_1_code 33 = .ok (.invokestatic 34, 3) := by decide +kernel
theorem d3_36 : decode prog_25_method_1_code 36 = .ok (.putfield 40, 3) := by decide +kernel
theorem d3_39 : decode prog_25_method_1_code 39 = .ok (.aload_n 0, 1) := by decide +kernel
theorem d3_40 : decode prog_25_method_1_code 40 = .ok (.invokestatic 34, 3) := by decide +kernel
theorem d3_43 : decode prog_25_method_1_code 43 = .ok (.putfield 44, 3) := by decide +kernel
theorem d3_46 : decode prog_25_method_1_code 46 = .ok (.aload_n 0, 1) := by decide +kernel
theorem d3_47 : decode prog_25_method_1_code 47 = .ok (.getstatic 47, 3) := by decide +kernel
theorem d3_50 : decode prog_25_method_1_code 50 = .ok (.putfield 53, 3) := by decide +kernel
theorem d3_53 : decode prog_25_method_1_code 53 = .ok (.aload_n 0, 1) := by decide +kernel
theorem d3_54 : decode prog_25_method_1_code 54 = .ok (.getstatic 56, 3) := by decide +kernel
theorem d3_57 : decode prog_25_method_1_code 57 = .ok (.putfield 62, 3) := by decide +kernel
theorem d3_60 : decode prog_25_method_1_code 60 = .ok (.return_, 1) := by decide +kernel
theorem pn_rmC : plainName "com/example/wee_forge/weeforge/model/ProjectFilter" = true := by first | (simp [plainName, overriddenIn]; done) | decide +kernel
theorem pd_rmC_0 : parseMethodDescriptor "()Ljava/util/List;" = some ⟨[], some (.object "java/util/List")⟩ := by decide +kernel
theorem pd_rmC_1 : parseMethodDescriptor "()Ljava/util/OptionalLong;" = some ⟨[], some (.object "java/util/OptionalLong")⟩ := by decide +kernel
theorem ef_rmC (m : MethodId) (a1 : Addr) : entryFrame m #[(.ref a1)] 1 = mkF m 0 #[.val (.ref a1)] [] := by first | (simp [entryFrame, mkF, argsToLocals, Value.category]; done) | rfl
set_option maxRecDepth 65536 in
set_option maxHeartbeats 40000000 in
theorem rmC (l : Launch) (Z : State) (a0 : Array Value) (hw : ∀ d ∈ tables_1, d.before a0 Z = true) (ws : List Jvm.Cond) (a1 w_ANY w_CREATED_AT w_DESC wEL wOL : Addr) (h0 : Heap) (n0 : Nat) (Z0 : n0 ≤ h0.size) (E_a1 : Exa Z h0 a1 "com/example/wee_forge/weeforge/model/ProjectFilter") (F_searchTerms : Fld Z h0 a1 "com/example/wee_forge/weeforge/model/ProjectFilter" "searchTerms" "Ljava/util/List;" .null) (F_topics : Fld Z h0 a1 "com/example/wee_forge/weeforge/model/ProjectFilter" "topics" "Ljava/util/List;" .null) (F_lastActivity : Fld Z h0 a1 "com/example/wee_forge/weeforge/model/ProjectFilter" "lastActivity" "Lcom/example/wee_forge/weeforge/model/TimeRange;" .null) (F_updated : Fld Z h0 a1 "com/example/wee_forge/weeforge/model/ProjectFilter" "updated" "Lcom/example/wee_forge/weeforge/model/TimeRange;" .null) (F_idAfter : Fld Z h0 a1 "com/example/wee_forge/weeforge/model/ProjectFilter" "idAfter" "Ljava/util/OptionalLong;" .null) (F_idBefore : Fld Z h0 a1 "com/example/wee_forge/weeforge/model/ProjectFilter" "idBefore" "Ljava/util/OptionalLong;" .null) (F_orderBy : Fld Z h0 a1 "com/example/wee_forge/weeforge/model/ProjectFilter" "orderBy" "Lcom/example/wee_forge/weeforge/model/ProjectOrder;" .null) (F_sort : Fld Z h0 a1 "com/example/wee_forge/weeforge/model/ProjectFilter" "sort" "Lcom/example/wee_forge/weeforge/model/SortDirection;" .null) (F_starredOnly : Fld Z h0 a1 "com/example/wee_forge/weeforge/model/ProjectFilter" "starredOnly" "Z" (.int (0 : Int32))) (g_a1 : n0 ≤ a1) (S_ANY : Sta Z h0 "com/example/wee_forge/weeforge/model/TimeRange" "ANY" "Lcom/example/wee_forge/weeforge/model/TimeRange;" (.ref w_ANY)) (S_CREATED_AT : Sta Z h0 "com/example/wee_forge/weeforge/model/ProjectOrder" "CREATED_AT" "Lcom/example/wee_forge/weeforge/model/ProjectOrder;" (.ref w_CREATED_AT)) (S_DESC : Sta Z h0 "com/example/wee_forge/weeforge/model/SortDirection" "DESC" "Lcom/example/wee_forge/weeforge/model/SortDirection;" (.ref w_DESC)) (S_EL : Sta Z h0 "java/util/ImmutableCollections" "EMPTY_LIST" "Ljava/util/ImmutableCollections$ListN;" (.ref wEL)) (S_OL : Sta Z h0 "java/util/OptionalLong" "EMPTY" "Ljava/util/OptionalLong;" (.ref wOL)) :
    MetFree l (⟨"com/example/wee_forge/weeforge/model/ProjectFilter", "<init>", "()V"⟩ : MethodName) (head1 (Jvm.Cond.code (⟨"com/example/wee_forge/weeforge/model/ProjectFilter", "<init>", "()V"⟩ : MethodName) prog_25_method_1_code 1 none :: ws) ({ frames := 1, cells := 0, slots := 0, locals := 12 } : Room)) (fun a U => a = #[(.ref a1)] ∧ Z.Warmed39 U.vm ∧ U.heap = h0) (fun _ _ _ _ _ => True) (fun _ U o U' => ∃ v L, o = .returned v ∧ QC Z a1 w_DESC w_CREATED_AT (0 : Int32) h0 n0 v U'.heap L ∧ FrameEnd U o U' L ({ frames := 1, cells := 0, slots := 0, locals := 12 } : Room).cells ({ frames := 1, cells := 0, slots := 0, locals := 12 } : Room).slots) := by
  refine MetFree.of_bodySF (plainFor_of_name pn_rmC) hisR ?_
  intro p e s m args below meth c s₁ Bd hml0 hP hK
  obtain ⟨rfl, hZ, hh⟩ := hP
  have hx := Bd.exec
  have hby := Bd.bytes
  have hml : c.maxLocals = 1 := hml0
  have hown : s.vm.findClass "com/example/wee_forge/weeforge/model/ProjectFilter" = some m.cls := findClass_of_methodNamed Bd.named
  have hnm := (name_of_methodNamed Bd.named Bd.method).1
  have X0 : Stand p l e ({ frames := 1, cells := 0, slots := 0, locals := 12 } : Room) s m #[(.ref a1)] below meth c s₁ [] 0 0 := Stand.of_body Bd
  have e0 : s₁.heap = h0 := by rw [← hh, Bd.state]; rfl
  have N0 := Fr.nil n0
  have pre0 : ∀ tt, Steps p.tables e below (s₁.setTop (mkF m 0 #[.val (.ref a1)] [])) tt → Steps p.tables e below (s₁.setTop (entryFrame m #[(.ref a1)] 1)) tt := fun tt kt => castTop (ef_rmC m a1) kt
  obtain ⟨T1, X1, e1, st1⟩ := initO X0 hx hZ hown (hw _ (List.mem_of_getElem? (i := 22) rfl)) (hw _ (List.mem_of_getElem? (i := 23) rfl)) (hw _ (List.mem_of_getElem? (i := 24) rfl)) e0 (g := (mkF m 1 #[.val (.ref a1)] [(.ref a1)])) rfl (by rw [hml]; rfl) rfl (hb hby d3_1) (by decide) (W := 0) (by show 2 * 0 + _ ≤ _; exact Nat.le_of_eq rfl) (by decide)
  obtain ⟨_, _, ⟨T2, L2, k2, n2⟩, -, X2, ⟨Lc2, hQ2, l2, y2, z2⟩, st2⟩ := Jvm.LawKit.callS X1 hx (y := (⟨"java/util/List", "of", "()Ljava/util/List;"⟩ : MethodName)) hown (mvT hZ (hw _ (List.mem_of_getElem? (i := 25) rfl))) (mvT hZ (hw _ (List.mem_of_getElem? (i := 26) rfl))) (mvT hZ (hw _ (List.mem_of_getElem? (i := 27) rfl))) (mvT hZ (hw _ (List.mem_of_getElem? (i := 28) rfl))) (by decide) (backOf (W := 1) (rmLo l Z a0 hw [] wEL h0 n0 Z0 S_EL) hZ (hw _ (List.mem_of_getElem? (i := 28) rfl)) (hw _ (List.mem_of_getElem? (i := 27) rfl)) (by decide) (by decide)) (g := (mkF m 5 #[.val (.ref a1)] [(.ref a1)])) rfl (by rw [hml]; rfl) (argsL := []) (rest := [(.ref a1)]) (lenOf pd_rmC_0 rfl) rfl (by show 2 * 0 + _ ≤ _; exact Nat.le_of_eq rfl) (hb hby d3_5) (fun _ _ => ⟨rfl, e1, (by decide : 0 + 0 ≤ _), (by decide : 0 + 0 ≤ _)⟩)
  dsimp only [Pt.U, Pt.locs, Pt.cells, Pt.slots] at X2 l2 y2 z2 st2 hQ2
  subst l2 y2 z2
  obtain ⟨rfl, N2q, hE2⟩ := hQ2
  have N2 := Fr.app N0 N2q
  obtain ⟨T3, h3, X3, e3, W3, st3⟩ := putF X2 hx hZ hown (host := "") (Or.inl (hw _ (List.mem_of_getElem? (i := 31) rfl))) Via.refl hE2 F_searchTerms E_a1 (Or.inl (hw _ (List.mem_of_getElem? (i := 32) rfl))) (hw _ (List.mem_of_getElem? (i := 17) rfl)) (ty := (.object "java/util/List")) (by decide) rfl rfl (g := (mkF m 8 #[.val (.ref a1)] [(.ref wEL), (.ref a1)])) rfl rfl (hb hby d3_8)
  have Fw3 := Fld.same W3 F_searchTerms
  have N3 := Fr.snoc X3 N2 g_a1
  have K3 : Keep h0 h3 [a1] := ((Keep.refl h0 [a1])).wr W3 (Or.inl (List.mem_of_getElem? (i := 0) rfl))
  obtain ⟨_, _, ⟨T4, L4, k4, n4⟩, -, X4, ⟨Lc4, hQ4, l4, y4, z4⟩, st4⟩ := Jvm.LawKit.callS X3 hx (y := (⟨"java/util/List", "of", "()Ljava/util/List;"⟩ : MethodName)) hown (mvT hZ (hw _ (List.mem_of_getElem? (i := 25) rfl))) (mvT hZ (hw _ (List.mem_of_getElem? (i := 26) rfl))) (mvT hZ (hw _ (List.mem_of_getElem? (i := 27) rfl))) (mvT hZ (hw _ (List.mem_of_getElem? (i := 28) rfl))) (by decide) (backOf (W := 1) (rmLo l Z a0 hw [] wEL h3 n0 (Nat.le_trans Z0 (Keep.of_wr W3).1) (Sta.wr W3 S_EL)) hZ (hw _ (List.mem_of_getElem? (i := 28) rfl)) (hw _ (List.mem_of_getElem? (i := 27) rfl)) (by decide) (by decide)) (g := (mkF m 12 #[.val (.ref a1)] [(.ref a1)])) rfl (by rw [hml]; rfl) (argsL := []) (rest := [(.ref a1)]) (lenOf pd_rmC_0 rfl) rfl (by show 2 * 0 + _ ≤ _; exact Nat.le_of_eq rfl) (hb hby d3_12) (fun _ _ => ⟨rfl, e3, (by decide : 0 + 0 ≤ _), (by decide : 0 + 0 ≤ _)⟩)
  dsimp only [Pt.U, Pt.locs, Pt.cells, Pt.slots] at X4 l4 y4 z4 st4 hQ4
  subst l4 y4 z4
  obtain ⟨rfl, N4q, hE4⟩ := hQ4
  have N4 := Fr.app N3 N4q
  obtain ⟨T5, h5, X5, e5, W5, st5⟩ := putF X4 hx hZ hown (host := "") (Or.inl (hw _ (List.mem_of_getElem? (i := 33) rfl))) Via.refl hE4 (Fld.other W3 F_topics (Or.inr (slot_ne (Or.inl (hw _ (List.mem_of_getElem? (i := 34) rfl))) (Or.inl (hw _ (List.mem_of_getElem? (i := 32) rfl))) (by decide) (t := (.object "java/util/List")) (t' := (.object "java/util/List")) (by decide) (by decide)))) (Exa.wr W3 E_a1) (Or.inl (hw _ (List.mem_of_getElem? (i := 34) rfl))) (hw _ (List.mem_of_getElem? (i := 17) rfl)) (ty := (.object "java/util/List")) (by decide) rfl rfl (g := (mkF m 15 #[.val (.ref a1)] [(.ref wEL), (.ref a1)])) rfl rfl (hb hby d3_15)
  have Fw5 := Fld.same W5 (Fld.other W3 F_topics (Or.inr (slot_ne (Or.inl (hw _ (List.mem_of_getElem? (i := 34) rfl))) (Or.inl (hw _ (List.mem_of_getElem? (i := 32) rfl))) (by decide) (t := (.object "java/util/List")) (t' := (.object "java/util/List")) (by decide) (by decide))))
  have N5 := Fr.snoc X5 N4 g_a1
  have K5 : Keep h0 h5 [a1] := (K3).wr W5 (Or.inl (List.mem_of_getElem? (i := 0) rfl))
  obtain ⟨T6, X6, e6, st6⟩ := getS2 X5 hx hZ hown (host := "") (Or.inl (hw _ (List.mem_of_getElem? (i := 35) rfl))) Via.refl e5 (Sta.wr W5 (Sta.wr W3 S_ANY)) (g := (mkF m 19 #[.val (.ref a1)] [(.ref a1)])) rfl (hb hby d3_19)
  obtain ⟨T7, h7, X7, e7, W7, st7⟩ := putF X6 hx hZ hown (host := "") (Or.inl (hw _ (List.mem_of_getElem? (i := 38) rfl))) Via.refl e6 (Fld.other W5 (Fld.other W3 F_lastActivity (Or.inr (slot_ne (Or.inl (hw _ (List.mem_of_getElem? (i := 39) rfl))) (Or.inl (hw _ (List.mem_of_getElem? (i := 32) rfl))) (by decide) (t := (.object "com/example/wee_forge/weeforge/model/TimeRange")) (t' := (.object "java/util/List")) (by decide) (by decide)))) (Or.inr (slot_ne (Or.inl (hw _ (List.mem_of_getElem? (i := 39) rfl))) (Or.inl (hw _ (List.mem_of_getElem? (i := 34) rfl))) (by decide) (t := (.object "com/example/wee_forge/weeforge/model/TimeRange")) (t' := (.object "java/util/List")) (by decide) (by decide)))) (Exa.wr W5 (Exa.wr W3 E_a1)) (Or.inl (hw _ (List.mem_of_getElem? (i := 39) rfl))) (hw _ (List.mem_of_getElem? (i := 17) rfl)) (ty := (.object "com/example/wee_forge/weeforge/model/TimeRange")) (by decide) rfl rfl (g := (mkF m 22 #[.val (.ref a1)] [(.ref w_ANY), (.ref a1)])) rfl rfl (hb hby d3_22)
  have Fw7 := Fld.same W7 (Fld.other W5 (Fld.other W3 F_lastActivity (Or.inr (slot_ne (Or.inl (hw _ (List.mem_of_getElem? (i := 39) rfl))) (Or.inl (hw _ (List.mem_of_getElem? (i := 32) rfl))) (by decide) (t := (.object "com/example/wee_forge/weeforge/model/TimeRange")) (t' := (.object "java/util/List")) (by decide) (by decide)))) (Or.inr (slot_ne (Or.inl (hw _ (List.mem_of_getElem? (i := 39) rfl))) (Or.inl (hw _ (List.mem_of_getElem? (i := 34) rfl))) (by decide) (t := (.object "com/example/wee_forge/weeforge/model/TimeRange")) (t' := (.object "java/util/List")) (by decide) (by decide))))
  have N7 := Fr.snoc X7 N5 g_a1
  have K7 : Keep h0 h7 [a1] := (K5).wr W7 (Or.inl (List.mem_of_getElem? (i := 0) rfl))
  obtain ⟨T8, X8, e8, st8⟩ := getS2 X7 hx hZ hown (host := "") (Or.inl (hw _ (List.mem_of_getElem? (i := 35) rfl))) Via.refl e7 (Sta.wr W7 (Sta.wr W5 (Sta.wr W3 S_ANY))) (g := (mkF m 26 #[.val (.ref a1)] [(.ref a1)])) rfl (hb hby d3_26)
  obtain ⟨T9, h9, X9, e9, W9, st9⟩ := putF X8 hx hZ hown (host := "") (Or.inl (hw _ (List.mem_of_getElem? (i := 40) rfl))) Via.refl e8 (Fld.other W7 (Fld.other W5 (Fld.other W3 F_updated (Or.inr (slot_ne (Or.inl (hw _ (List.mem_of_getElem? (i := 41) rfl))) (Or.inl (hw _ (List.mem_of_getElem? (i := 32) rfl))) (by decide) (t := (.object "com/example/wee_forge/weeforge/model/TimeRange")) (t' := (.object "java/util/List")) (by decide) (by decide)))) (Or.inr (slot_ne (Or.inl (hw _ (List.mem_of_getElem? (i := 41) rfl))) (Or.inl (hw _ (List.mem_of_getElem? (i := 34) rfl))) (by decide) (t := (.object "com/example/wee_forge/weeforge/model/TimeRange")) (t' := (.object "java/util/List")) (by decide) (by decide)))) (Or.inr (slot_ne (Or.inl (hw _ (List.mem_of_getElem? (i := 41) rfl))) (Or.inl (hw _ (List.mem_of_getElem? (i := 39) rfl))) (by decide) (t := (.object "com/example/wee_forge/weeforge/model/TimeRange")) (t' := (.object "com/example/wee_forge/weeforge/model/TimeRange")) (by decide) (by decide)))) (Exa.wr W7 (Exa.wr W5 (Exa.wr W3 E_a1))) (Or.inl (hw _ (List.mem_of_getElem? (i := 41) rfl))) (hw _ (List.mem_of_getElem? (i := 17) rfl)) (ty := (.object "com/example/wee_forge/weeforge/model/TimeRange")) (by decide) rfl rfl (g := (mkF m 29 #[.val (.ref a1)] [(.ref w_ANY), (.ref a1)])) rfl rfl (hb hby d3_29)
  have Fw9 := Fld.same W9 (Fld.other W7 (Fld.other W5 (Fld.other W3 F_updated (Or.inr (slot_ne (Or.inl (hw _ (List.mem_of_getElem? (i := 41) rfl))) (Or.inl (hw _ (List.mem_of_getElem? (i := 32) rfl))) (by decide) (t := (.object "com/example/wee_forge/weeforge/model/TimeRange")) (t' := (.object "java/util/List")) (by decide) (by decide)))) (Or.inr (slot_ne (Or.inl (hw _ (List.mem_of_getElem? (i := 41) rfl))) (Or.inl (hw _ (List.mem_of_getElem? (i := 34) rfl))) (by decide) (t := (.object "com/example/wee_forge/weeforge/model/TimeRange")) (t' := (.object "java/util/List")) (by decide) (by decide)))) (Or.inr (slot_ne (Or.inl (hw _ (List.mem_of_getElem? (i := 41) rfl))) (Or.inl (hw _ (List.mem_of_getElem? (i := 39) rfl))) (by decide) (t := (.object "com/example/wee_forge/weeforge/model/TimeRange")) (t' := (.object "com/example/wee_forge/weeforge/model/TimeRange")) (by decide) (by decide))))
  have N9 := Fr.snoc X9 N7 g_a1
  have K9 : Keep h0 h9 [a1] := (K7).wr W9 (Or.inl (List.mem_of_getElem? (i := 0) rfl))
  obtain ⟨_, _, ⟨T10, L10, k10, n10⟩, -, X10, ⟨Lc10, hQ10, l10, y10, z10⟩, st10⟩ := Jvm.LawKit.callS X9 hx (y := (⟨"java/util/OptionalLong", "empty", "()Ljava/util/OptionalLong;"⟩ : MethodName)) hown (mvT hZ (hw _ (List.mem_of_getElem? (i := 42) rfl))) (mvT hZ (hw _ (List.mem_of_getElem? (i := 43) rfl))) (mvT hZ (hw _ (List.mem_of_getElem? (i := 44) rfl))) (mvT hZ (hw _ (List.mem_of_getElem? (i := 45) rfl))) (by decide) (backOf (W := 1) (rmOe l Z a0 hw [] wOL h9 n0 (Nat.le_trans (Nat.le_trans (Nat.le_trans (Nat.le_trans Z0 (Keep.of_wr W3).1) (Keep.of_wr W5).1) (Keep.of_wr W7).1) (Keep.of_wr W9).1) (Sta.wr W9 (Sta.wr W7 (Sta.wr W5 (Sta.wr W3 S_OL))))) hZ (hw _ (List.mem_of_getElem? (i := 45) rfl)) (hw _ (List.mem_of_getElem? (i := 44) rfl)) (by decide) (by decide)) (g := (mkF m 33 #[.val (.ref a1)] [(.ref a1)])) rfl (by rw [hml]; rfl) (argsL := []) (rest := [(.ref a1)]) (lenOf pd_rmC_1 rfl) rfl (by show 2 * 0 + _ ≤ _; exact Nat.le_of_eq rfl) (hb hby d3_33) (fun _ _ => ⟨rfl, e9, (by decide : 0 + 0 ≤ _), (by decide : 0 + 0 ≤ _)⟩)
  dsimp only [Pt.U, Pt.locs, Pt.cells, Pt.slots] at X10 l10 y10 z10 st10 hQ10
  subst l10 y10 z10
  obtain ⟨rfl, N10q, hE10⟩ := hQ10
  have N10 := Fr.app N9 N10q
  obtain ⟨T11, h11, X11, e11, W11, st11⟩ := putF X10 hx hZ hown (host := "") (Or.inl (hw _ (List.mem_of_getElem? (i := 47) rfl))) Via.refl hE10 (Fld.other W9 (Fld.other W7 (Fld.other W5 (Fld.other W3 F_idAfter (Or.inr (slot_ne (Or.inl (hw _ (List.mem_of_getElem? (i := 48) rfl))) (Or.inl (hw _ (List.mem_of_getElem? (i := 32) rfl))) (by decide) (t := (.object "java/util/OptionalLong")) (t' := (.object "java/util/List")) (by decide) (by decide)))) (Or.inr (slot_ne (Or.inl (hw _ (List.mem_of_getElem? (i := 48) rfl))) (Or.inl (hw _ (List.mem_of_getElem? (i := 34) rfl))) (by decide) (t := (.object "java/util/OptionalLong")) (t' := (.object "java/util/List")) (by decide) (by decide)))) (Or.inr (slot_ne (Or.inl (hw _ (List.mem_of_getElem? (i := 48) rfl))) (Or.inl (hw _ (List.mem_of_getElem? (i := 39) rfl))) (by decide) (t := (.object "java/util/OptionalLong")) (t' := (.object "com/example/wee_forge/weeforge/model/TimeRange")) (by decide) (by decide)))) (Or.inr (slot_ne (Or.inl (hw _ (List.mem_of_getElem? (i := 48) rfl))) (Or.inl (hw _ (List.mem_of_getElem? (i := 41) rfl))) (by decide) (t := (.object "java/util/OptionalLong")) (t' := (.object "com/example/wee_forge/weeforge/model/TimeRange")) (by decide) (by decide)))) (Exa.wr W9 (Exa.wr W7 (Exa.wr W5 (Exa.wr W3 E_a1)))) (Or.inl (hw _ (List.mem_of_getElem? (i := 48) rfl))) (hw _ (List.mem_of_getElem? (i := 17) rfl)) (ty := (.object "java/util/OptionalLong")) (by decide) rfl rfl (g := (mkF m 36 #[.val (.ref a1)] [(.ref wOL), (.ref a1)])) rfl rfl (hb hby d3_36)
  have Fw11 := Fld.same W11 (Fld.other W9 (Fld.other W7 (Fld.other W5 (Fld.other W3 F_idAfter (Or.inr (slot_ne (Or.inl (hw _ (List.mem_of_getElem? (i := 48) rfl))) (Or.inl (hw _ (List.mem_of_getElem? (i := 32) rfl))) (by decide) (t := (.object "java/util/OptionalLong")) (t' := (.object "java/util/List")) (by decide) (by decide)))) (Or.inr (slot_ne (Or.inl (hw _ (List.mem_of_getElem? (i := 48) rfl))) (Or.inl (hw _ (List.mem_of_getElem? (i := 34) rfl))) (by decide) (t := (.object "java/util/OptionalLong")) (t' := (.object "java/util/List")) (by decide) (by decide)))) (Or.inr (slot_ne (Or.inl (hw _ (List.mem_of_getElem? (i := 48) rfl))) (Or.inl (hw _ (List.mem_of_getElem? (i := 39) rfl))) (by decide) (t := (.object "java/util/OptionalLong")) (t' := (.object "com/example/wee_forge/weeforge/model/TimeRange")) (by decide) (by decide)))) (Or.inr (slot_ne (Or.inl (hw _ (List.mem_of_getElem? (i := 48) rfl))) (Or.inl (hw _ (List.mem_of_getElem? (i := 41) rfl))) (by decide) (t := (.object "java/util/OptionalLong")) (t' := (.object "com/example/wee_forge/weeforge/model/TimeRange")) (by decide) (by decide))))
  have N11 := Fr.snoc X11 N10 g_a1
  have K11 : Keep h0 h11 [a1] := (K9).wr W11 (Or.inl (List.mem_of_getElem? (i := 0) rfl))
  obtain ⟨_, _, ⟨T12, L12, k12, n12⟩, -, X12, ⟨Lc12, hQ12, l12, y12, z12⟩, st12⟩ := Jvm.LawKit.callS X11 hx (y := (⟨"java/util/OptionalLong", "empty", "()Ljava/util/OptionalLong;"⟩ : MethodName)) hown (mvT hZ (hw _ (List.mem_of_getElem? (i := 42) rfl))) (mvT hZ (hw _ (List.mem_of_getElem? (i := 43) rfl))) (mvT hZ (hw _ (List.mem_of_getElem? (i := 44) rfl))) (mvT hZ (hw _ (List.mem_of_getElem? (i := 45) rfl))) (by decide) (backOf (W := 1) (rmOe l Z a0 hw [] wOL h11 n0 (Nat.le_trans (Nat.le_trans (Nat.le_trans (Nat.le_trans (Nat.le_trans Z0 (Keep.of_wr W3).1) (Keep.of_wr W5).1) (Keep.of_wr W7).1) (Keep.of_wr W9).1) (Keep.of_wr W11).1) (Sta.wr W11 (Sta.wr W9 (Sta.wr W7 (Sta.wr W5 (Sta.wr W3 S_OL)))))) hZ (hw _ (List.mem_of_getElem? (i := 45) rfl)) (hw _ (List.mem_of_getElem? (i := 44) rfl)) (by decide) (by decide)) (g := (mkF m 40 #[.val (.ref a1)] [(.ref a1)])) rfl (by rw [hml]; rfl) (argsL := []) (rest := [(.ref a1)]) (lenOf pd_rmC_1 rfl) rfl (by show 2 * 0 + _ ≤ _; exact Nat.le_of_eq rfl) (hb hby d3_40) (fun _ _ => ⟨rfl, e11, (by decide : 0 + 0 ≤ _), (by decide : 0 + 0 ≤ _)⟩)
  dsimp only [Pt.U, Pt.locs, Pt.cells, Pt.slots] at X12 l12 y12 z12 st12 hQ12
  subst l12 y12 z12
  obtain ⟨rfl, N12q, hE12⟩ := hQ12
  have N12 := Fr.app N11 N12q
  obtain ⟨T13, h13, X13, e13, W13, st13⟩ := putF X12 hx hZ hown (host := "") (Or.inl (hw _ (List.mem_of_getElem? (i := 49) rfl))) Via.refl hE12 (Fld.other W11 (Fld.other W9 (Fld.other W7 (Fld.other W5 (Fld.other W3 F_idBefore (Or.inr (slot_ne (Or.inl (hw _ (List.mem_of_getElem? (i := 50) rfl))) (Or.inl (hw _ (List.mem_of_getElem? (i := 32) rfl))) (by decide) (t := (.object "java/util/OptionalLong")) (t' := (.object "java/util/List")) (by decide) (by decide)))) (Or.inr (slot_ne (Or.inl (hw _ (List.mem_of_getElem? (i := 50) rfl))) (Or.inl (hw _ (List.mem_of_getElem? (i := 34) rfl))) (by decide) (t := (.object "java/util/OptionalLong")) (t' := (.object "java/util/List")) (by decide) (by decide)))) (Or.inr (slot_ne (Or.inl (hw _ (List.mem_of_getElem? (i := 50) rfl))) (Or.inl (hw _ (List.mem_of_getElem? (i := 39) rfl))) (by decide) (t := (.object "java/util/OptionalLong")) (t' := (.object "com/example/wee_forge/weeforge/model/TimeRange")) (by decide) (by decide)))) (Or.inr (slot_ne (Or.inl (hw _ (List.mem_of_getElem? (i := 50) rfl))) (Or.inl (hw _ (List.mem_of_getElem? (i := 41) rfl))) (by decide) (t := (.object "java/util/OptionalLong")) (t' := (.object "com/example/wee_forge/weeforge/model/TimeRange")) (by decide) (by decide)))) (Or.inr (slot_ne (Or.inl (hw _ (List.mem_of_getElem? (i := 50) rfl))) (Or.inl (hw _ (List.mem_of_getElem? (i := 48) rfl))) (by decide) (t := (.object "java/util/OptionalLong")) (t' := (.object "java/util/OptionalLong")) (by decide) (by decide)))) (Exa.wr W11 (Exa.wr W9 (Exa.wr W7 (Exa.wr W5 (Exa.wr W3 E_a1))))) (Or.inl (hw _ (List.mem_of_getElem? (i := 50) rfl))) (hw _ (List.mem_of_getElem? (i := 17) rfl)) (ty := (.object "java/util/OptionalLong")) (by decide) rfl rfl (g := (mkF m 43 #[.val (.ref a1)] [(.ref wOL), (.ref a1)])) rfl rfl (hb hby d3_43)
  have Fw13 := Fld.same W13 (Fld.other W11 (Fld.other W9 (Fld.other W7 (Fld.other W5 (Fld.other W3 F_idBefore (Or.inr (slot_ne (Or.inl (hw _ (List.mem_of_getElem? (i := 50) rfl))) (Or.inl (hw _ (List.mem_of_getElem? (i := 32) rfl))) (by decide) (t := (.object "java/util/OptionalLong")) (t' := (.object "java/util/List")) (by decide) (by decide)))) (Or.inr (slot_ne (Or.inl (hw _ (List.mem_of_getElem? (i := 50) rfl))) (Or.inl (hw _ (List.mem_of_getElem? (i := 34) rfl))) (by decide) (t := (.object "java/util/OptionalLong")) (t' := (.object "java/util/List")) (by decide) (by decide)))) (Or.inr (slot_ne (Or.inl (hw _ (List.mem_of_getElem? (i := 50) rfl))) (Or.inl (hw _ (List.mem_of_getElem? (i := 39) rfl))) (by decide) (t := (.object "java/util/OptionalLong")) (t' := (.object "com/example/wee_forge/weeforge/model/TimeRange")) (by decide) (by decide)))) (Or.inr (slot_ne (Or.inl (hw _ (List.mem_of_getElem? (i := 50) rfl))) (Or.inl (hw _ (List.mem_of_getElem? (i := 41) rfl))) (by decide) (t := (.object "java/util/OptionalLong")) (t' := (.object "com/example/wee_forge/weeforge/model/TimeRange")) (by decide) (by decide)))) (Or.inr (slot_ne (Or.inl (hw _ (List.mem_of_getElem? (i := 50) rfl))) (Or.inl (hw _ (List.mem_of_getElem? (i := 48) rfl))) (by decide) (t := (.object "java/util/OptionalLong")) (t' := (.object "java/util/OptionalLong")) (by decide) (by decide))))
  have N13 := Fr.snoc X13 N12 g_a1
  have K13 : Keep h0 h13 [a1] := (K11).wr W13 (Or.inl (List.mem_of_getElem? (i := 0) rfl))
  obtain ⟨T14, X14, e14, st14⟩ := getS2 X13 hx hZ hown (host := "") (Or.inl (hw _ (List.mem_of_getElem? (i := 51) rfl))) Via.refl e13 (Sta.wr W13 (Sta.wr W11 (Sta.wr W9 (Sta.wr W7 (Sta.wr W5 (Sta.wr W3 S_CREATED_AT)))))) (g := (mkF m 47 #[.val (.ref a1)] [(.ref a1)])) rfl (hb hby d3_47)
  obtain ⟨T15, h15, X15, e15, W15, st15⟩ := putF X14 hx hZ hown (host := "") (Or.inl (hw _ (List.mem_of_getElem? (i := 53) rfl))) Via.refl e14 (Fld.other W13 (Fld.other W11 (Fld.other W9 (Fld.other W7 (Fld.other W5 (Fld.other W3 F_orderBy (Or.inr (slot_ne (Or.inl (hw _ (List.mem_of_getElem? (i := 54) rfl))) (Or.inl (hw _ (List.mem_of_getElem? (i := 32) rfl))) (by decide) (t := (.object "com/example/wee_forge/weeforge/model/ProjectOrder")) (t' := (.object "java/util/List")) (by decide) (by decide)))) (Or.inr (slot_ne (Or.inl (hw _ (List.mem_of_getElem? (i := 54) rfl))) (Or.inl (hw _ (List.mem_of_getElem? (i := 34) rfl))) (by decide) (t := (.object "com/example/wee_forge/weeforge/model/ProjectOrder")) (t' := (.object "java/util/List")) (by decide) (by decide)))) (Or.inr (slot_ne (Or.inl (hw _ (List.mem_of_getElem? (i := 54) rfl))) (Or.inl (hw _ (List.mem_of_getElem? (i := 39) rfl))) (by decide) (t := (.object "com/example/wee_forge/weeforge/model/ProjectOrder")) (t' := (.object "com/example/wee_forge/weeforge/model/TimeRange")) (by decide) (by decide)))) (Or.inr (slot_ne (Or.inl (hw _ (List.mem_of_getElem? (i := 54) rfl))) (Or.inl (hw _ (List.mem_of_getElem? (i := 41) rfl))) (by decide) (t := (.object "com/example/wee_forge/weeforge/model/ProjectOrder")) (t' := (.object "com/example/wee_forge/weeforge/model/TimeRange")) (by decide) (by decide)))) (Or.inr (slot_ne (Or.inl (hw _ (List.mem_of_getElem? (i := 54) rfl))) (Or.inl (hw _ (List.mem_of_getElem? (i := 48) rfl))) (by decide) (t := (.object "com/example/wee_forge/weeforge/model/ProjectOrder")) (t' := (.object "java/util/OptionalLong")) (by decide) (by decide)))) (Or.inr (slot_ne (Or.inl (hw _ (List.mem_of_getElem? (i := 54) rfl))) (Or.inl (hw _ (List.mem_of_getElem? (i := 50) rfl))) (by decide) (t := (.object "com/example/wee_forge/weeforge/model/ProjectOrder")) (t' := (.object "java/util/OptionalLong")) (by decide) (by decide)))) (Exa.wr W13 (Exa.wr W11 (Exa.wr W9 (Exa.wr W7 (Exa.wr W5 (Exa.wr W3 E_a1)))))) (Or.inl (hw _ (List.mem_of_getElem? (i := 54) rfl))) (hw _ (List.mem_of_getElem? (i := 17) rfl)) (ty := (.object "com/example/wee_forge/weeforge/model/ProjectOrder")) (by decide) rfl rfl (g := (mkF m 50 #[.val (.ref a1)] [(.ref w_CREATED_AT), (.ref a1)])) rfl rfl (hb hby d3_50)
  have Fw15 := Fld.same W15 (Fld.other W13 (Fld.other W11 (Fld.other W9 (Fld.other W7 (Fld.other W5 (Fld.other W3 F_orderBy (Or.inr (slot_ne (Or.inl (hw _ (List.mem_of_getElem? (i := 54) rfl))) (Or.inl (hw _ (List.mem_of_getElem? (i := 32) rfl))) (by decide) (t := (.object "com/example/wee_forge/weeforge/model/ProjectOrder")) (t' := (.object "java/util/List")) (by decide) (by decide)))) (Or.inr (slot_ne (Or.inl (hw _ (List.mem_of_getElem? (i := 54) rfl))) (Or.inl (hw _ (List.mem_of_getElem? (i := 34) rfl))) (by decide) (t := (.object "com/example/wee_forge/weeforge/model/ProjectOrder")) (t' := (.object "java/util/List")) (by decide) (by decide)))) (Or.inr (slot_ne (Or.inl (hw _ (List.mem_of_getElem? (i := 54) rfl))) (Or.inl (hw _ (List.mem_of_getElem? (i := 39) rfl))) (by decide) (t := (.object "com/example/wee_forge/weeforge/model/ProjectOrder")) (t' := (.object "com/example/wee_forge/weeforge/model/TimeRange")) (by decide) (by decide)))) (Or.inr (slot_ne (Or.inl (hw _ (List.mem_of_getElem? (i := 54) rfl))) (Or.inl (hw _ (List.mem_of_getElem? (i := 41) rfl))) (by decide) (t := (.object "com/example/wee_forge/weeforge/model/ProjectOrder")) (t' := (.object "com/example/wee_forge/weeforge/model/TimeRange")) (by decide) (by decide)))) (Or.inr (slot_ne (Or.inl (hw _ (List.mem_of_getElem? (i := 54) rfl))) (Or.inl (hw _ (List.mem_of_getElem? (i := 48) rfl))) (by decide) (t := (.object "com/example/wee_forge/weeforge/model/ProjectOrder")) (t' := (.object "java/util/OptionalLong")) (by decide) (by decide)))) (Or.inr (slot_ne (Or.inl (hw _ (List.mem_of_getElem? (i := 54) rfl))) (Or.inl (hw _ (List.mem_of_getElem? (i := 50) rfl))) (by decide) (t := (.object "com/example/wee_forge/weeforge/model/ProjectOrder")) (t' := (.object "java/util/OptionalLong")) (by decide) (by decide))))
  have N15 := Fr.snoc X15 N13 g_a1
  have K15 : Keep h0 h15 [a1] := (K13).wr W15 (Or.inl (List.mem_of_getElem? (i := 0) rfl))
  obtain ⟨T16, X16, e16, st16⟩ := getS2 X15 hx hZ hown (host := "") (Or.inl (hw _ (List.mem_of_getElem? (i := 55) rfl))) Via.refl e15 (Sta.wr W15 (Sta.wr W13 (Sta.wr W11 (Sta.wr W9 (Sta.wr W7 (Sta.wr W5 (Sta.wr W3 S_DESC))))))) (g := (mkF m 54 #[.val (.ref a1)] [(.ref a1)])) rfl (hb hby d3_54)
  obtain ⟨T17, h17, X17, e17, W17, st17⟩ := putF X16 hx hZ hown (host := "") (Or.inl (hw _ (List.mem_of_getElem? (i := 56) rfl))) Via.refl e16 (Fld.other W15 (Fld.other W13 (Fld.other W11 (Fld.other W9 (Fld.other W7 (Fld.other W5 (Fld.other W3 F_sort (Or.inr (slot_ne (Or.inl (hw _ (List.mem_of_getElem? (i := 57) rfl))) (Or.inl (hw _ (List.mem_of_getElem? (i := 32) rfl))) (by decide) (t := (.object "com/example/wee_forge/weeforge/model/SortDirection")) (t' := (.object "java/util/List")) (by decide) (by decide)))) (Or.inr (slot_ne (Or.inl (hw _ (List.mem_of_getElem? (i := 57) rfl))) (Or.inl (hw _ (List.mem_of_getElem? (i := 34) rfl))) (by decide) (t := (.object "com/example/wee_forge/weeforge/model/SortDirection")) (t' := (.object "java/util/List")) (by decide) (by decide)))) (Or.inr (slot_ne (Or.inl (hw _ (List.mem_of_getElem? (i := 57) rfl))) (Or.inl (hw _ (List.mem_of_getElem? (i := 39) rfl))) (by decide) (t := (.object "com/example/wee_forge/weeforge/model/SortDirection")) (t' := (.object "com/example/wee_forge/weeforge/model/TimeRange")) (by decide) (by decide)))) (Or.inr (slot_ne (Or.inl (hw _ (List.mem_of_getElem? (i := 57) rfl))) (Or.inl (hw _ (List.mem_of_getElem? (i := 41) rfl))) (by decide) (t := (.object "com/example/wee_forge/weeforge/model/SortDirection")) (t' := (.object "com/example/wee_forge/weeforge/model/TimeRange")) (by decide) (by decide)))) (Or.inr (slot_ne (Or.inl (hw _ (List.mem_of_getElem? (i := 57) rfl))) (Or.inl (hw _ (List.mem_of_getElem? (i := 48) rfl))) (by decide) (t := (.object "com/example/wee_forge/weeforge/model/SortDirection")) (t' := (.object "java/util/OptionalLong")) (by decide) (by decide)))) (Or.inr (slot_ne (Or.inl (hw _ (List.mem_of_getElem? (i := 57) rfl))) (Or.inl (hw _ (List.mem_of_getElem? (i := 50) rfl))) (by decide) (t := (.object "com/example/wee_forge/weeforge/model/SortDirection")) (t' := (.object "java/util/OptionalLong")) (by decide) (by decide)))) (Or.inr (slot_ne (Or.inl (hw _ (List.mem_of_getElem? (i := 57) rfl))) (Or.inl (hw _ (List.mem_of_getElem? (i := 54) rfl))) (by decide) (t := (.object "com/example/wee_forge/weeforge/model/SortDirection")) (t' := (.object "com/example/wee_forge/weeforge/model/ProjectOrder")) (by decide) (by decide)))) (Exa.wr W15 (Exa.wr W13 (Exa.wr W11 (Exa.wr W9 (Exa.wr W7 (Exa.wr W5 (Exa.wr W3 E_a1))))))) (Or.inl (hw _ (List.mem_of_getElem? (i := 57) rfl))) (hw _ (List.mem_of_getElem? (i := 17) rfl)) (ty := (.object "com/example/wee_forge/weeforge/model/SortDirection")) (by decide) rfl rfl (g := (mkF m 57 #[.val (.ref a1)] [(.ref w_DESC), (.ref a1)])) rfl rfl (hb hby d3_57)
  have Fw17 := Fld.same W17 (Fld.other W15 (Fld.other W13 (Fld.other W11 (Fld.other W9 (Fld.other W7 (Fld.other W5 (Fld.other W3 F_sort (Or.inr (slot_ne (Or.inl (hw _ (List.mem_of_getElem? (i := 57) rfl))) (Or.inl (hw _ (List.mem_of_getElem? (i := 32) rfl))) (by decide) (t := (.object "com/example/wee_forge/weeforge/model/SortDirection")) (t' := (.object "java/util/List")) (by decide) (by decide)))) (Or.inr (slot_ne (Or.inl (hw _ (List.mem_of_getElem? (i := 57) rfl))) (Or.inl (hw _ (List.mem_of_getElem? (i := 34) rfl))) (by decide) (t := (.object "com/example/wee_forge/weeforge/model/SortDirection")) (t' := (.object "java/util/List")) (by decide) (by decide)))) (Or.inr (slot_ne (Or.inl (hw _ (List.mem_of_getElem? (i := 57) rfl))) (Or.inl (hw _ (List.mem_of_getElem? (i := 39) rfl))) (by decide) (t := (.object "com/example/wee_forge/weeforge/model/SortDirection")) (t' := (.object "com/example/wee_forge/weeforge/model/TimeRange")) (by decide) (by decide)))) (Or.inr (slot_ne (Or.inl (hw _ (List.mem_of_getElem? (i := 57) rfl))) (Or.inl (hw _ (List.mem_of_getElem? (i := 41) rfl))) (by decide) (t := (.object "com/example/wee_forge/weeforge/model/SortDirection")) (t' := (.object "com/example/wee_forge/weeforge/model/TimeRange")) (by decide) (by decide)))) (Or.inr (slot_ne (Or.inl (hw _ (List.mem_of_getElem? (i := 57) rfl))) (Or.inl (hw _ (List.mem_of_getElem? (i := 48) rfl))) (by decide) (t := (.object "com/example/wee_forge/weeforge/model/SortDirection")) (t' := (.object "java/util/OptionalLong")) (by decide) (by decide)))) (Or.inr (slot_ne (Or.inl (hw _ (List.mem_of_getElem? (i := 57) rfl))) (Or.inl (hw _ (List.mem_of_getElem? (i := 50) rfl))) (by decide) (t := (.object "com/example/wee_forge/weeforge/model/SortDirection")) (t' := (.object "java/util/OptionalLong")) (by decide) (by decide)))) (Or.inr (slot_ne (Or.inl (hw _ (List.mem_of_getElem? (i := 57) rfl))) (Or.inl (hw _ (List.mem_of_getElem? (i := 54) rfl))) (by decide) (t := (.object "com/example/wee_forge/weeforge/model/SortDirection")) (t' := (.object "com/example/wee_forge/weeforge/model/ProjectOrder")) (by decide) (by decide))))
  have N17 := Fr.snoc X17 N15 g_a1
  have K17 : Keep h0 h17 [a1] := (K15).wr W17 (Or.inl (List.mem_of_getElem? (i := 0) rfl))
  have pre18 : ∀ tt, Steps p.tables e below (T17.setTop (mkF m 60 #[.val (.ref a1)] [])) tt → Steps p.tables e below (s₁.setTop (entryFrame m #[(.ref a1)] 1)) tt := by
    intro tt kt
    refine pre0 tt ?_
    show Steps p.tables e below (s₁.setTop (mkF m 0 #[.val (.ref a1)] [])) _
    refine XS.aloadN X0.here hx rfl (hb hby d3_0) rfl rfl ?_
    show Steps p.tables e below (s₁.setTop (mkF m 1 #[.val (.ref a1)] [(.ref a1)])) _
    refine st1 _ ?_
    show Steps p.tables e below (T1.setTop (mkF m 4 #[.val (.ref a1)] [])) _
    refine XS.aloadN X1.here hx rfl (hb hby d3_4) rfl rfl ?_
    show Steps p.tables e below (T1.setTop (mkF m 5 #[.val (.ref a1)] [(.ref a1)])) _
    refine st2 _ ?_
    show Steps p.tables e below (T2.setTop (mkF m 8 #[.val (.ref a1)] [(.ref wEL), (.ref a1)])) _
    refine st3 _ ?_
    show Steps p.tables e below (T3.setTop (mkF m 11 #[.val (.ref a1)] [])) _
    refine XS.aloadN X3.here hx rfl (hb hby d3_11) rfl rfl ?_
    show Steps p.tables e below (T3.setTop (mkF m 12 #[.val (.ref a1)] [(.ref a1)])) _
    refine st4 _ ?_
    show Steps p.tables e below (T4.setTop (mkF m 15 #[.val (.ref a1)] [(.ref wEL), (.ref a1)])) _
    refine st5 _ ?_
    show Steps p.tables e below (T5.setTop (mkF m 18 #[.val (.ref a1)] [])) _
    refine XS.aloadN X5.here hx rfl (hb hby d3_18) rfl rfl ?_
    show Steps p.tables e below (T5.setTop (mkF m 19 #[.val (.ref a1)] [(.ref a1)])) _
    refine st6 _ ?_
    show Steps p.tables e below (T6.setTop (mkF m 22 #[.val (.ref a1)] [(.ref w_ANY), (.ref a1)])) _
    refine st7 _ ?_
    show Steps p.tables e below (T7.setTop (mkF m 25 #[.val (.ref a1)] [])) _
    refine XS.aloadN X7.here hx rfl (hb hby d3_25) rfl rfl ?_
    show Steps p.tables e below (T7.setTop (mkF m 26 #[.val (.ref a1)] [(.ref a1)])) _
    refine st8 _ ?_
    show Steps p.tables e below (T8.setTop (mkF m 29 #[.val (.ref a1)] [(.ref w_ANY), (.ref a1)])) _
    refine st9 _ ?_
    show Steps p.tables e below (T9.setTop (mkF m 32 #[.val (.ref a1)] [])) _
    refine XS.aloadN X9.here hx rfl (hb hby d3_32) rfl rfl ?_
    show Steps p.tables e below (T9.setTop (mkF m 33 #[.val (.ref a1)] [(.ref a1)])) _
    refine st10 _ ?_
    show Steps p.tables e below (T10.setTop (mkF m 36 #[.val (.ref a1)] [(.ref wOL), (.ref a1)])) _
    refine st11 _ ?_
    show Steps p.tables e below (T11.setTop (mkF m 39 #[.val (.ref a1)] [])) _
    refine XS.aloadN X11.here hx rfl (hb hby d3_39) rfl rfl ?_
    show Steps p.tables e below (T11.setTop (mkF m 40 #[.val (.ref a1)] [(.ref a1)])) _
    refine st12 _ ?_
    show Steps p.tables e below (T12.setTop (mkF m 43 #[.val (.ref a1)] [(.ref wOL), (.ref a1)])) _
    refine st13 _ ?_
    show Steps p.tables e below (T13.setTop (mkF m 46 #[.val (.ref a1)] [])) _
    refine XS.aloadN X13.here hx rfl (hb hby d3_46) rfl rfl ?_
    show Steps p.tables e below (T13.setTop (mkF m 47 #[.val (.ref a1)] [(.ref a1)])) _
    refine st14 _ ?_
    show Steps p.tables e below (T14.setTop (mkF m 50 #[.val (.ref a1)] [(.ref w_CREATED_AT), (.ref a1)])) _
    refine st15 _ ?_
    show Steps p.tables e below (T15.setTop (mkF m 53 #[.val (.ref a1)] [])) _
    refine XS.aloadN X15.here hx rfl (hb hby d3_53) rfl rfl ?_
    show Steps p.tables e below (T15.setTop (mkF m 54 #[.val (.ref a1)] [(.ref a1)])) _
    refine st16 _ ?_
    show Steps p.tables e below (T16.setTop (mkF m 57 #[.val (.ref a1)] [(.ref w_DESC), (.ref a1)])) _
    refine st17 _ ?_
    exact kt
  obtain ⟨fs, hr, hrun, hended, hW, hsame⟩ := X17.leave (v := none) (fun _ => rfl)
  refine ⟨_, _, pre18 _ ?_, hrun, hended, _, _, rfl, ?_, ⟨_, rfl⟩, hW, hsame.mono (by decide) (by decide)⟩
  · show Steps p.tables e below (T17.setTop (mkF m 60 #[.val (.ref a1)] [])) _
    exact X17.returnOut hx Bd.returns (hb hby d3_60) hr
  · show QC Z a1 w_DESC w_CREATED_AT (0 : Int32) h0 n0 _ T17.heap _
    rw [e17]
    exact ⟨rfl, N17, K17, (Exa.wr W17 (Exa.wr W15 (Exa.wr W13 (Exa.wr W11 (Exa.wr W9 (Exa.wr W7 (Exa.wr W5 (Exa.wr W3 E_a1)))))))), Fw17, (Fld.other W17 Fw15 (Or.inr (slot_ne (Or.inl (hw _ (List.mem_of_getElem? (i := 54) rfl))) (Or.inl (hw _ (List.mem_of_getElem? (i := 57) rfl))) (by decide) (t := (.object "com/example/wee_forge/weeforge/model/ProjectOrder")) (t' := (.object "com/example/wee_forge/weeforge/model/SortDirection")) (by decide) (by decide)))), (Fld.other W17 (Fld.other W15 (Fld.other W13 (Fld.other W11 (Fld.other W9 (Fld.other W7 (Fld.other W5 (Fld.other W3 F_starredOnly (Or.inr (slot_ne (Or.inl (hw _ (List.mem_of_getElem? (i := 94) rfl))) (Or.inl (hw _ (List.mem_of_getElem? (i := 32) rfl))) (by decide) (t := .boolean) (t' := (.object "java/util/List")) (by decide) (by decide)))) (Or.inr (slot_ne (Or.inl (hw _ (List.mem_of_getElem? (i := 94) rfl))) (Or.inl (hw _ (List.mem_of_getElem? (i := 34) rfl))) (by decide) (t := .boolean) (t' := (.object "java/util/List")) (by decide) (by decide)))) (Or.inr (slot_ne (Or.inl (hw _ (List.mem_of_getElem? (i := 94) rfl))) (Or.inl (hw _ (List.mem_of_getElem? (i := 39) rfl))) (by decide) (t := .boolean) (t' := (.object "com/example/wee_forge/weeforge/model/TimeRange")) (by decide) (by decide)))) (Or.inr (slot_ne (Or.inl (hw _ (List.mem_of_getElem? (i := 94) rfl))) (Or.inl (hw _ (List.mem_of_getElem? (i := 41) rfl))) (by decide) (t := .boolean) (t' := (.object "com/example/wee_forge/weeforge/model/TimeRange")) (by decide) (by decide)))) (Or.inr (slot_ne (Or.inl (hw _ (List.mem_of_getElem? (i := 94) rfl))) (Or.inl (hw _ (List.mem_of_getElem? (i := 48) rfl))) (by decide) (t := .boolean) (t' := (.object "java/util/OptionalLong")) (by decide) (by decide)))) (Or.inr (slot_ne (Or.inl (hw _ (List.mem_of_getElem? (i := 94) rfl))) (Or.inl (hw _ (List.mem_of_getElem? (i := 50) rfl))) (by decide) (t := .boolean) (t' := (.object "java/util/OptionalLong")) (by decide) (by decide)))) (Or.inr (slot_ne (Or.inl (hw _ (List.mem_of_getElem? (i := 94) rfl))) (Or.inl (hw _ (List.mem_of_getElem? (i := 54) rfl))) (by decide) (t := .boolean) (t' := (.object "com/example/wee_forge/weeforge/model/ProjectOrder")) (by decide) (by decide)))) (Or.inr (slot_ne (Or.inl (hw _ (List.mem_of_getElem? (i := 94) rfl))) (Or.inl (hw _ (List.mem_of_getElem? (i := 57) rfl))) (by decide) (t := .boolean) (t' := (.object "com/example/wee_forge/weeforge/model/SortDirection")) (by decide) (by decide))))⟩
theorem d7_0 : decode prog_25_method_12_code 0 = .ok (.aload_n 0, 1) := by decide +kernel
theorem d7_1 : decode prog_25_method_12_code 1 = .ok (.aload_n 1, 1) := by decide +kernel
theorem d7_2 : decode prog_25_method_12_code 2 = .ok (.ldc 117, 2) := by decide +kernel
theorem d7_4 : decode prog_25_method_12_code 4 = .ok (.invokestatic 105, 3) := by decide +kernel
theorem d7_7 : decode prog_25_method_12_code 7 = .ok (.checkcast 57, 3) := by decide +kernel
theorem d7_10 : decode prog_25_method_12_code 10 = .ok (.putfield 62, 3) := by decide +kernel
theorem d7_13 : decode prog_25_method_12_code 13 = .ok (.aload_n 0, 1) := by decide +kernel
theorem d7_14 : decode prog_25_method_12_code 14 = .ok (.areturn, 1) := by decide +kernel
theorem pn_rm_sort : plainName "com/example/wee_forge/weeforge/model/ProjectFilter" = true := by first | (simp [plainName, overriddenIn]; done) | decide +kernel
theorem pd_rm_sort_0 : parseMethodDescriptor "(Ljava/lang/Object;Ljava/lang/String;)Ljava/lang/Object;" = some ⟨[(.object "java/lang/Object"), (.object "java/lang/String")], some (.object "java/lang/Object")⟩ := by decide +kernel
theorem ef_rm_sort (m : MethodId) (a1 : Addr) (a2 : Addr) : entryFrame m #[(.ref a1), (.ref a2)] 2 = mkF m 0 #[.val (.ref a1), .val (.ref a2)] [] := by first | (simp [entryFrame, mkF, argsToLocals, Value.category]; done) | rfl
set_option maxRecDepth 65536 in
set_option maxHeartbeats 40000000 in
theorem rm_sort (l : Launch) (Z : State) (a0 : Array Value) (hw : ∀ d ∈ tables_1, d.before a0 Z = true) (ws : List Jvm.Cond) (a1 a2 x1 x2 : Addr) (x3 : Int32) (h0 : Heap) (n0 : Nat) (Z0 : n0 ≤ h0.size) (E_a1 : Exa Z h0 a1 "com/example/wee_forge/weeforge/model/ProjectFilter") (F_s : Fld Z h0 a1 "com/example/wee_forge/weeforge/model/ProjectFilter" "sort" "Lcom/example/wee_forge/weeforge/model/SortDirection;" (.ref x1)) (F_o : Fld Z h0 a1 "com/example/wee_forge/weeforge/model/ProjectFilter" "orderBy" "Lcom/example/wee_forge/weeforge/model/ProjectOrder;" (.ref x2)) (F_b : Fld Z h0 a1 "com/example/wee_forge/weeforge/model/ProjectFilter" "starredOnly" "Z" (.int x3)) (g_a1 : n0 ≤ a1) (E_a2 : Exa Z h0 a2 "com/example/wee_forge/weeforge/model/SortDirection") :
    MetFree l (⟨"com/example/wee_forge/weeforge/model/ProjectFilter", "sort", "(Lcom/example/wee_forge/weeforge/model/SortDirection;)Lcom/example/wee_forge/weeforge/model/ProjectFilter;"⟩ : MethodName) (head1 (Jvm.Cond.code (⟨"com/example/wee_forge/weeforge/model/ProjectFilter", "sort", "(Lcom/example/wee_forge/weeforge/model/SortDirection;)Lcom/example/wee_forge/weeforge/model/ProjectFilter;"⟩ : MethodName) prog_25_method_12_code 2 (some (.object "com/example/wee_forge/weeforge/model/ProjectFilter")) :: ws) ({ frames := 1, cells := 2, slots := 20, locals := 14 } : Room)) (fun a U => a = #[(.ref a1), (.ref a2)] ∧ Z.Warmed39 U.vm ∧ U.heap = h0) (fun _ _ _ _ _ => True) (fun _ U o U' => ∃ v L, o = .returned v ∧ QF Z a1 a2 x2 x3 h0 n0 v U'.heap L ∧ ReturnedEndW U o U' L ({ frames := 1, cells := 2, slots := 20, locals := 14 } : Room).cells ({ frames := 1, cells := 2, slots := 20, locals := 14 } : Room).slots) := by
  refine MetFree.of_bodySF (plainFor_of_name pn_rm_sort) hisR ?_
  intro p e s m args below meth c s₁ Bd hml0 hP hK
  obtain ⟨rfl, hZ, hh⟩ := hP
  have hx := Bd.exec
  have hby := Bd.bytes
  have hml : c.maxLocals = 2 := hml0
  have hown : s.vm.findClass "com/example/wee_forge/weeforge/model/ProjectFilter" = some m.cls := findClass_of_methodNamed Bd.named
  have hnm := (name_of_methodNamed Bd.named Bd.method).1
  have X0 : Stand p l e ({ frames := 1, cells := 2, slots := 20, locals := 14 } : Room) (s.setVm s.vm) m #[(.ref a1), (.ref a2)] below meth c s₁ [] 0 0 := Stand.of_body Bd
  have hS : s.Since s.vm s.heap.size := (State.WarmedH.refl s).since _
  have hk : s.heap.size ≤ h0.size := by rw [hh]; exact Nat.le_refl _
  have hZ : Z.Warmed39 (s.setVm s.vm).vm := hZ
  have hown : (s.setVm s.vm).vm.findClass "com/example/wee_forge/weeforge/model/ProjectFilter" = some m.cls := hown
  have wS := own_wS hw
  have e0 : s₁.heap = h0 := by rw [← hh, Bd.state]; rfl
  have N0 := Fr.nil n0
  have pre0 : ∀ tt, Steps p.tables e below (s₁.setTop (mkF m 0 #[.val (.ref a1), .val (.ref a2)] [])) tt → Steps p.tables e below (s₁.setTop (entryFrame m #[(.ref a1), (.ref a2)] 2)) tt := fun tt kt => castTop (ef_rm_sort m a1 a2) kt
  obtain ⟨xs1, T1, h1, k1, X1, e1, E1, hS, hk1, hZ, hown, st1⟩ := ldcS X0 hx hZ hown (hw _ (List.mem_of_getElem? (i := 64) rfl)) wS e0 hS hk (g := (mkF m 2 #[.val (.ref a1), .val (.ref a2)] [(.ref a2), (.ref a1)])) rfl (hb hby d7_2) (n := 16) (by decide) (by decide) (by decide) (by decide)
  have K1 : Keep h0 h1 [a1] := ((Keep.refl h0 [a1])).ext E1
  obtain ⟨_, _, ⟨T2, L2, k2, n2⟩, -, X2, ⟨Lc2, hQ2, l2, y2, z2⟩, st2⟩ := Jvm.LawKit.callS X1 hx (y := (⟨"java/util/Objects", "requireNonNull", "(Ljava/lang/Object;Ljava/lang/String;)Ljava/lang/Object;"⟩ : MethodName)) hown (mvT hZ (hw _ (List.mem_of_getElem? (i := 72) rfl))) (mvT hZ (hw _ (List.mem_of_getElem? (i := 73) rfl))) (mvT hZ (hw _ (List.mem_of_getElem? (i := 74) rfl))) (mvT hZ (hw _ (List.mem_of_getElem? (i := 75) rfl))) (by decide) (backOf (W := 1) (rmNn l Z a0 hw [] a2 xs1 h1 n0 (Nat.le_trans Z0 E1.1)) hZ (hw _ (List.mem_of_getElem? (i := 75) rfl)) (hw _ (List.mem_of_getElem? (i := 74) rfl)) (by decide) (by decide)) (g := (mkF m 4 #[.val (.ref a1), .val (.ref a2)] [(.ref xs1), (.ref a2), (.ref a1)])) rfl (by rw [hml]; rfl) (argsL := [(.ref a2), (.ref xs1)]) (rest := [(.ref a1)]) (lenOf pd_rm_sort_0 rfl) rfl (by show 2 * 0 + _ ≤ _; exact Nat.le_of_eq rfl) (hb hby d7_4) (fun _ _ => ⟨rfl, e1, (by decide : 2 + 0 ≤ _), (by decide : 20 + 0 ≤ _)⟩)
  dsimp only [Pt.U, Pt.locs, Pt.cells, Pt.slots] at X2 l2 y2 z2 st2 hQ2
  subst l2 y2 z2
  obtain ⟨rfl, N2q, hE2⟩ := hQ2
  have N2 := Fr.app N0 N2q
  obtain ⟨T3, X3, e3, st3⟩ := castY X2 hx hZ hown (hw _ (List.mem_of_getElem? (i := 76) rfl)) hE2 (Ins.self (Exa.ext E1 E_a2)) (g := (mkF m 7 #[.val (.ref a1), .val (.ref a2)] [(.ref a2), (.ref a1)])) rfl rfl (hb hby d7_7)
  obtain ⟨T4, h4, X4, e4, W4, st4⟩ := putF X3 hx hZ hown (host := "") (Or.inl (hw _ (List.mem_of_getElem? (i := 56) rfl))) Via.refl e3 (Fld.ext E1 F_s) (Exa.ext E1 E_a1) (Or.inl (hw _ (List.mem_of_getElem? (i := 57) rfl))) (hw _ (List.mem_of_getElem? (i := 17) rfl)) (ty := (.object "com/example/wee_forge/weeforge/model/SortDirection")) (by decide) rfl rfl (g := (mkF m 10 #[.val (.ref a1), .val (.ref a2)] [(.ref a2), (.ref a1)])) rfl rfl (hb hby d7_10)
  have Fw4 := Fld.same W4 (Fld.ext E1 F_s)
  have N4 := Fr.snoc X4 N2 g_a1
  have K4 : Keep h0 h4 [a1] := (K1).wr W4 (Or.inl (List.mem_of_getElem? (i := 0) rfl))
  have pre5 : ∀ tt, Steps p.tables e below (T4.setTop (mkF m 14 #[.val (.ref a1), .val (.ref a2)] [(.ref a1)])) tt → Steps p.tables e below (s₁.setTop (entryFrame m #[(.ref a1), (.ref a2)] 2)) tt := by
    intro tt kt
    refine pre0 tt ?_
    show Steps p.tables e below (s₁.setTop (mkF m 0 #[.val (.ref a1), .val (.ref a2)] [])) _
    refine XS.aloadN X0.here hx rfl (hb hby d7_0) rfl rfl ?_
    show Steps p.tables e below (s₁.setTop (mkF m 1 #[.val (.ref a1), .val (.ref a2)] [(.ref a1)])) _
    refine XS.aloadN X0.here hx rfl (hb hby d7_1) rfl rfl ?_
    show Steps p.tables e below (s₁.setTop (mkF m 2 #[.val (.ref a1), .val (.ref a2)] [(.ref a2), (.ref a1)])) _
    refine st1 _ ?_
    show Steps p.tables e below (T1.setTop (mkF m 4 #[.val (.ref a1), .val (.ref a2)] [(.ref xs1), (.ref a2), (.ref a1)])) _
    refine st2 _ ?_
    show Steps p.tables e below (T2.setTop (mkF m 7 #[.val (.ref a1), .val (.ref a2)] [(.ref a2), (.ref a1)])) _
    refine st3 _ ?_
    show Steps p.tables e below (T3.setTop (mkF m 10 #[.val (.ref a1), .val (.ref a2)] [(.ref a2), (.ref a1)])) _
    refine st4 _ ?_
    show Steps p.tables e below (T4.setTop (mkF m 13 #[.val (.ref a1), .val (.ref a2)] [])) _
    refine XS.aloadN X4.here hx rfl (hb hby d7_13) rfl rfl ?_
    exact kt
  obtain ⟨fs, hr, hrun, hended, hW⟩ := X4.leaveW hS (by rw [e4]; exact (Nat.le_trans hk1 (Keep.of_wr W4).1)) (v := some (.ref a1)) (fun h => by rw [Bd.returns] at h; cases h)
  refine ⟨_, _, pre5 _ ?_, hrun, hended, _, _, rfl, ?_, ⟨_, rfl⟩, hW.2.1, hW.2.2.1, hW.2.2.2.mono (by decide) (by decide)⟩
  · show Steps p.tables e below (T4.setTop (mkF m 14 #[.val (.ref a1), .val (.ref a2)] [(.ref a1)])) _
    jvm_step X4.here [X4.here.top, hx, (hb hby d7_14), X4.method', Bd.returns, Value.isRef, FieldType.isReference]
    first | (intro acts; rw [hr _ acts rfl rfl rfl]) | rw [hr _ _ rfl rfl rfl]
    exact Steps.refl _
  · show QF Z a1 a2 x2 x3 h0 n0 _ T4.heap _
    rw [e4]
    exact ⟨rfl, N4, K4, (Exa.wr W4 (Exa.ext E1 E_a1)), Fw4, (Fld.other W4 (Fld.ext E1 F_o) (Or.inr (slot_ne (Or.inl (hw _ (List.mem_of_getElem? (i := 54) rfl))) (Or.inl (hw _ (List.mem_of_getElem? (i := 57) rfl))) (by decide) (t := (.object "com/example/wee_forge/weeforge/model/ProjectOrder")) (t' := (.object "com/example/wee_forge/weeforge/model/SortDirection")) (by decide) (by decide)))), (Fld.other W4 (Fld.ext E1 F_b) (Or.inr (slot_ne (Or.inl (hw _ (List.mem_of_getElem? (i := 94) rfl))) (Or.inl (hw _ (List.mem_of_getElem? (i := 57) rfl))) (by decide) (t := .boolean) (t' := (.object "com/example/wee_forge/weeforge/model/SortDirection")) (by decide) (by decide))))⟩
theorem d12_0 : decode prog_25_method_11_code 0 = .ok (.aload_n 0, 1) := by decide +kernel
theorem d12_1 : decode prog_25_method_11_code 1 = .ok (.aload_n 1, 1) := by decide +kernel
theorem d12_2 : decode prog_25_method_11_code 2 = .ok (.ldc 116, 2) := by decide +kernel
theorem d12_4 : decode prog_25_method_11_code 4 = .ok (.invokestatic 105, 3) := by decide +kernel
theorem d12_7 : decode prog_25_method_11_code 7 = .ok (.checkcast 48, 3) := by decide +kernel
theorem d12_10 : decode prog_25_method_11_code 10 = .ok (.putfield 53, 3) := by decide +kernel
theorem d12_13 : decode prog_25_method_11_code 13 = .ok (.aload_n 0, 1) := by decide +kernel
theorem d12_14 : decode prog_25_method_11_code 14 = .ok (.areturn, 1) := by decide +kernel
theorem pn_rm_orderBy : plainName "com/example/wee_forge/weeforge/model/ProjectFilter" = true := by first | (simp [plainName, overriddenIn]; done) | decide +kernel
theorem pd_rm_orderBy_0 : parseMethodDescriptor "(Ljava/lang/Object;Ljava/lang/String;)Ljava/lang/Object;" = some ⟨[(.object "java/lang/Object"), (.object "java/lang/String")], some (.object "java/lang/Object")⟩ := by decide +kernel
theorem ef_rm_orderBy (m : MethodId) (a1 : Addr) (a2 : Addr) : entryFrame m #[(.ref a1), (.ref a2)] 2 = mkF m 0 #[.val (.ref a1), .val (.ref a2)] [] := by first | (simp [entryFrame, mkF, argsToLocals, Value.category]; done) | rfl
set_option maxRecDepth 65536 in
set_option maxHeartbeats 40000000 in
theorem rm_orderBy (l : Launch) (Z : State) (a0 : Array Value) (hw : ∀ d ∈ tables_1, d.before a0 Z = true) (ws : List Jvm.Cond) (a1 a2 x1 x2 : Addr) (x3 : Int32) (h0 : Heap) (n0 : Nat) (Z0 : n0 ≤ h0.size) (E_a1 : Exa Z h0 a1 "com/example/wee_forge/weeforge/model/ProjectFilter") (F_s : Fld Z h0 a1 "com/example/wee_forge/weeforge/model/ProjectFilter" "sort" "Lcom/example/wee_forge/weeforge/model/SortDirection;" (.ref x1)) (F_o : Fld Z h0 a1 "com/example/wee_forge/weeforge/model/ProjectFilter" "orderBy" "Lcom/example/wee_forge/weeforge/model/ProjectOrder;" (.ref x2)) (F_b : Fld Z h0 a1 "com/example/wee_forge/weeforge/model/ProjectFilter" "starredOnly" "Z" (.int x3)) (g_a1 : n0 ≤ a1) (E_a2 : Exa Z h0 a2 "com/example/wee_forge/weeforge/model/ProjectOrder") :
    MetFree l (⟨"com/example/wee_forge/weeforge/model/ProjectFilter", "orderBy", "(Lcom/example/wee_forge/weeforge/model/ProjectOrder;)Lcom/example/wee_forge/weeforge/model/ProjectFilter;"⟩ : MethodName) (head1 (Jvm.Cond.code (⟨"com/example/wee_forge/weeforge/model/ProjectFilter", "orderBy", "(Lcom/example/wee_forge/weeforge/model/ProjectOrder;)Lcom/example/wee_forge/weeforge/model/ProjectFilter;"⟩ : MethodName) prog_25_method_11_code 2 (some (.object "com/example/wee_forge/weeforge/model/ProjectFilter")) :: ws) ({ frames := 1, cells := 2, slots := 32, locals := 14 } : Room)) (fun a U => a = #[(.ref a1), (.ref a2)] ∧ Z.Warmed39 U.vm ∧ U.heap = h0) (fun _ _ _ _ _ => True) (fun _ U o U' => ∃ v L, o = .returned v ∧ QF Z a1 x1 a2 x3 h0 n0 v U'.heap L ∧ ReturnedEndW U o U' L ({ frames := 1, cells := 2, slots := 32, locals := 14 } : Room).cells ({ frames := 1, cells := 2, slots := 32, locals := 14 } : Room).slots) := by
  refine MetFree.of_bodySF (plainFor_of_name pn_rm_orderBy) hisR ?_
  intro p e s m args below meth c s₁ Bd hml0 hP hK
  obtain ⟨rfl, hZ, hh⟩ := hP
  have hx := Bd.exec
  have hby := Bd.bytes
  have hml : c.maxLocals = 2 := hml0
  have hown : s.vm.findClass "com/example/wee_forge/weeforge/model/ProjectFilter" = some m.cls := findClass_of_methodNamed Bd.named
  have hnm := (name_of_methodNamed Bd.named Bd.method).1
  have X0 : Stand p l e ({ frames := 1, cells := 2, slots := 32, locals := 14 } : Room) (s.setVm s.vm) m #[(.ref a1), (.ref a2)] below meth c s₁ [] 0 0 := Stand.of_body Bd
  have hS : s.Since s.vm s.heap.size := (State.WarmedH.refl s).since _
  have hk : s.heap.size ≤ h0.size := by rw [hh]; exact Nat.le_refl _
  have hZ : Z.Warmed39 (s.setVm s.vm).vm := hZ
  have hown : (s.setVm s.vm).vm.findClass "com/example/wee_forge/weeforge/model/ProjectFilter" = some m.cls := hown
  have wS := own_wS hw
  have e0 : s₁.heap = h0 := by rw [← hh, Bd.state]; rfl
  have N0 := Fr.nil n0
  have pre0 : ∀ tt, Steps p.tables e below (s₁.setTop (mkF m 0 #[.val (.ref a1), .val (.ref a2)] [])) tt → Steps p.tables e below (s₁.setTop (entryFrame m #[(.ref a1), (.ref a2)] 2)) tt := fun tt kt => castTop (ef_rm_orderBy m a1 a2) kt
  obtain ⟨xs1, T1, h1, k1, X1, e1, E1, hS, hk1, hZ, hown, st1⟩ := ldcS X0 hx hZ hown (hw _ (List.mem_of_getElem? (i := 102) rfl)) wS e0 hS hk (g := (mkF m 2 #[.val (.ref a1), .val (.ref a2)] [(.ref a2), (.ref a1)])) rfl (hb hby d12_2) (n := 28) (by decide) (by decide) (by decide) (by decide)
  have K1 : Keep h0 h1 [a1] := ((Keep.refl h0 [a1])).ext E1
  obtain ⟨_, _, ⟨T2, L2, k2, n2⟩, -, X2, ⟨Lc2, hQ2, l2, y2, z2⟩, st2⟩ := Jvm.LawKit.callS X1 hx (y := (⟨"java/util/Objects", "requireNonNull", "(Ljava/lang/Object;Ljava/lang/String;)Ljava/lang/Object;"⟩ : MethodName)) hown (mvT hZ (hw _ (List.mem_of_getElem? (i := 72) rfl))) (mvT hZ (hw _ (List.mem_of_getElem? (i := 73) rfl))) (mvT hZ (hw _ (List.mem_of_getElem? (i := 74) rfl))) (mvT hZ (hw _ (List.mem_of_getElem? (i := 75) rfl))) (by decide) (backOf (W := 1) (rmNn l Z a0 hw [] a2 xs1 h1 n0 (Nat.le_trans Z0 E1.1)) hZ (hw _ (List.mem_of_getElem? (i := 75) rfl)) (hw _ (List.mem_of_getElem? (i := 74) rfl)) (by decide) (by decide)) (g := (mkF m 4 #[.val (.ref a1), .val (.ref a2)] [(.ref xs1), (.ref a2), (.ref a1)])) rfl (by rw [hml]; rfl) (argsL := [(.ref a2), (.ref xs1)]) (rest := [(.ref a1)]) (lenOf pd_rm_orderBy_0 rfl) rfl (by show 2 * 0 + _ ≤ _; exact Nat.le_of_eq rfl) (hb hby d12_4) (fun _ _ => ⟨rfl, e1, (by decide : 2 + 0 ≤ _), (by decide : 32 + 0 ≤ _)⟩)
  dsimp only [Pt.U, Pt.locs, Pt.cells, Pt.slots] at X2 l2 y2 z2 st2 hQ2
  subst l2 y2 z2
  obtain ⟨rfl, N2q, hE2⟩ := hQ2
  have N2 := Fr.app N0 N2q
  obtain ⟨T3, X3, e3, st3⟩ := castY X2 hx hZ hown (hw _ (List.mem_of_getElem? (i := 103) rfl)) hE2 (Ins.self (Exa.ext E1 E_a2)) (g := (mkF m 7 #[.val (.ref a1), .val (.ref a2)] [(.ref a2), (.ref a1)])) rfl rfl (hb hby d12_7)
  obtain ⟨T4, h4, X4, e4, W4, st4⟩ := putF X3 hx hZ hown (host := "") (Or.inl (hw _ (List.mem_of_getElem? (i := 53) rfl))) Via.refl e3 (Fld.ext E1 F_o) (Exa.ext E1 E_a1) (Or.inl (hw _ (List.mem_of_getElem? (i := 54) rfl))) (hw _ (List.mem_of_getElem? (i := 17) rfl)) (ty := (.object "com/example/wee_forge/weeforge/model/ProjectOrder")) (by decide) rfl rfl (g := (mkF m 10 #[.val (.ref a1), .val (.ref a2)] [(.ref a2), (.ref a1)])) rfl rfl (hb hby d12_10)
  have Fw4 := Fld.same W4 (Fld.ext E1 F_o)
  have N4 := Fr.snoc X4 N2 g_a1
  have K4 : Keep h0 h4 [a1] := (K1).wr W4 (Or.inl (List.mem_of_getElem? (i := 0) rfl))
  have pre5 : ∀ tt, Steps p.tables e below (T4.setTop (mkF m 14 #[.val (.ref a1), .val (.ref a2)] [(.ref a1)])) tt → Steps p.tables e below (s₁.setTop (entryFrame m #[(.ref a1), (.ref a2)] 2)) tt := by
    intro tt kt
    refine pre0 tt ?_
    show Steps p.tables e below (s₁.setTop (mkF m 0 #[.val (.ref a1), .val (.ref a2)] [])) _
    refine XS.aloadN X0.here hx rfl (hb hby d12_0) rfl rfl ?_
    show Steps p.tables e below (s₁.setTop (mkF m 1 #[.val (.ref a1), .val (.ref a2)] [(.ref a1)])) _
    refine XS.aloadN X0.here hx rfl (hb hby d12_1) rfl rfl ?_
    show Steps p.tables e below (s₁.setTop (mkF m 2 #[.val (.ref a1), .val (.ref a2)] [(.ref a2), (.ref a1)])) _
    refine st1 _ ?_
    show Steps p.tables e below (T1.setTop (mkF m 4 #[.val (.ref a1), .val (.ref a2)] [(.ref xs1), (.ref a2), (.ref a1)])) _
    refine st2 _ ?_
    show Steps p.tables e below (T2.setTop (mkF m 7 #[.val (.ref a1), .val (.ref a2)] [(.ref a2), (.ref a1)])) _
    refine st3 _ ?_
    show Steps p.tables e below (T3.setTop (mkF m 10 #[.val (.ref a1), .val (.ref a2)] [(.ref a2), (.ref a1)])) _
    refine st4 _ ?_
    show Steps p.tables e below (T4.setTop (mkF m 13 #[.val (.ref a1), .val (.ref a2)] [])) _
    refine XS.aloadN X4.here hx rfl (hb hby d12_13) rfl rfl ?_
    exact kt
  obtain ⟨fs, hr, hrun, hended, hW⟩ := X4.leaveW hS (by rw [e4]; exact (Nat.le_trans hk1 (Keep.of_wr W4).1)) (v := some (.ref a1)) (fun h => by rw [Bd.returns] at h; cases h)
  refine ⟨_, _, pre5 _ ?_, hrun, hended, _, _, rfl, ?_, ⟨_, rfl⟩, hW.2.1, hW.2.2.1, hW.2.2.2.mono (by decide) (by decide)⟩
  · show Steps p.tables e below (T4.setTop (mkF m 14 #[.val (.ref a1), .val (.ref a2)] [(.ref a1)])) _
    jvm_step X4.here [X4.here.top, hx, (hb hby d12_14), X4.method', Bd.returns, Value.isRef, FieldType.isReference]
    first | (intro acts; rw [hr _ acts rfl rfl rfl]) | rw [hr _ _ rfl rfl rfl]
    exact Steps.refl _
  · show QF Z a1 x1 a2 x3 h0 n0 _ T4.heap _
    rw [e4]
    exact ⟨rfl, N4, K4, (Exa.wr W4 (Exa.ext E1 E_a1)), (Fld.other W4 (Fld.ext E1 F_s) (Or.inr (slot_ne (Or.inl (hw _ (List.mem_of_getElem? (i := 57) rfl))) (Or.inl (hw _ (List.mem_of_getElem? (i := 54) rfl))) (by decide) (t := (.object "com/example/wee_forge/weeforge/model/SortDirection")) (t' := (.object "com/example/wee_forge/weeforge/model/ProjectOrder")) (by decide) (by decide)))), Fw4, (Fld.other W4 (Fld.ext E1 F_b) (Or.inr (slot_ne (Or.inl (hw _ (List.mem_of_getElem? (i := 94) rfl))) (Or.inl (hw _ (List.mem_of_getElem? (i := 54) rfl))) (by decide) (t := .boolean) (t' := (.object "com/example/wee_forge/weeforge/model/ProjectOrder")) (by decide) (by decide))))⟩
theorem d9_0 : decode prog_25_method_24_code 0 = .ok (.aload_n 0, 1) := by decide +kernel
theorem d9_1 : decode prog_25_method_24_code 1 = .ok (.getfield 62, 3) := by decide +kernel
theorem d9_4 : decode prog_25_method_24_code 4 = .ok (.areturn, 1) := by decide +kernel
theorem pn_rmg_sort : plainName "com/example/wee_forge/weeforge/model/ProjectFilter" = true := by first | (simp [plainName, overriddenIn]; done) | decide +kernel
theorem ef_rmg_sort (m : MethodId) (a1 : Addr) : entryFrame m #[(.ref a1)] 1 = mkF m 0 #[.val (.ref a1)] [] := by first | (simp [entryFrame, mkF, argsToLocals, Value.category]; done) | rfl
set_option maxRecDepth 65536 in
set_option maxHeartbeats 40000000 in
theorem rmg_sort (l : Launch) (Z : State) (a0 : Array Value) (hw : ∀ d ∈ tables_1, d.before a0 Z = true) (ws : List Jvm.Cond) (a1 r : Addr) (h0 : Heap) (n0 : Nat) (Z0 : n0 ≤ h0.size) (F_g : Fld Z h0 a1 "com/example/wee_forge/weeforge/model/ProjectFilter" "sort" "Lcom/example/wee_forge/weeforge/model/SortDirection;" (.ref r)) :
    MetFree l (⟨"com/example/wee_forge/weeforge/model/ProjectFilter", "sort", "()Lcom/example/wee_forge/weeforge/model/SortDirection;"⟩ : MethodName) (head1 (Jvm.Cond.code (⟨"com/example/wee_forge/weeforge/model/ProjectFilter", "sort", "()Lcom/example/wee_forge/weeforge/model/SortDirection;"⟩ : MethodName) prog_25_method_24_code 1 (some (.object "com/example/wee_forge/weeforge/model/SortDirection")) :: ws) ({ frames := 0, cells := 0, slots := 0, locals := 0 } : Room)) (fun a U => a = #[(.ref a1)] ∧ Z.Warmed39 U.vm ∧ U.heap = h0) (fun _ _ _ _ _ => True) (fun _ U o U' => ∃ v L, o = .returned v ∧ QR Z r h0 n0 v U'.heap L ∧ FrameEnd U o U' L ({ frames := 0, cells := 0, slots := 0, locals := 0 } : Room).cells ({ frames := 0, cells := 0, slots := 0, locals := 0 } : Room).slots) := by
  refine MetFree.of_bodySF (plainFor_of_name pn_rmg_sort) hisR ?_
  intro p e s m args below meth c s₁ Bd hml0 hP hK
  obtain ⟨rfl, hZ, hh⟩ := hP
  have hx := Bd.exec
  have hby := Bd.bytes
  have hml : c.maxLocals = 1 := hml0
  have hown : s.vm.findClass "com/example/wee_forge/weeforge/model/ProjectFilter" = some m.cls := findClass_of_methodNamed Bd.named
  have hnm := (name_of_methodNamed Bd.named Bd.method).1
  have X0 : Stand p l e ({ frames := 0, cells := 0, slots := 0, locals := 0 } : Room) s m #[(.ref a1)] below meth c s₁ [] 0 0 := Stand.of_body Bd
  have e0 : s₁.heap = h0 := by rw [← hh, Bd.state]; rfl
  have N0 := Fr.nil n0
  have pre0 : ∀ tt, Steps p.tables e below (s₁.setTop (mkF m 0 #[.val (.ref a1)] [])) tt → Steps p.tables e below (s₁.setTop (entryFrame m #[(.ref a1)] 1)) tt := fun tt kt => castTop (ef_rmg_sort m a1) kt
  obtain ⟨T1, X1, e1, st1⟩ := getF X0 hx hZ hown (host := "") (Or.inl (hw _ (List.mem_of_getElem? (i := 56) rfl))) Via.refl e0 F_g (g := (mkF m 1 #[.val (.ref a1)] [(.ref a1)])) rfl rfl (hb hby d9_1)
  have pre2 : ∀ tt, Steps p.tables e below (T1.setTop (mkF m 4 #[.val (.ref a1)] [(.ref r)])) tt → Steps p.tables e below (s₁.setTop (entryFrame m #[(.ref a1)] 1)) tt := by
    intro tt kt
    refine pre0 tt ?_
    show Steps p.tables e below (s₁.setTop (mkF m 0 #[.val (.ref a1)] [])) _
    refine XS.aloadN X0.here hx rfl (hb hby d9_0) rfl rfl ?_
    show Steps p.tables e below (s₁.setTop (mkF m 1 #[.val (.ref a1)] [(.ref a1)])) _
    refine st1 _ ?_
    exact kt
  obtain ⟨fs, hr, hrun, hended, hW, hsame⟩ := X1.leave (v := some (.ref r)) (fun h => by rw [Bd.returns] at h; cases h)
  refine ⟨_, _, pre2 _ ?_, hrun, hended, _, _, rfl, ?_, ⟨_, rfl⟩, hW, hsame.mono (by decide) (by decide)⟩
  · show Steps p.tables e below (T1.setTop (mkF m 4 #[.val (.ref a1)] [(.ref r)])) _
    jvm_step X1.here [X1.here.top, hx, (hb hby d9_4), X1.method', Bd.returns, Value.isRef, FieldType.isReference]
    first | (intro acts; rw [hr _ acts rfl rfl rfl]) | rw [hr _ _ rfl rfl rfl]
    exact Steps.refl _
  · show QR Z r h0 n0 _ T1.heap _
    rw [e1]
    exact ⟨rfl, N0, rfl⟩
theorem d10_0 : decode prog_25_method_23_code 0 = .ok (.aload_n 0, 1) := by decide +kernel
theorem d10_1 : decode prog_25_method_23_code 1 = .ok (.getfield 53, 3) := by decide +kernel
theorem d10_4 : decode prog_25_method_23_code 4 = .ok (.areturn, 1) := by decide +kernel
theorem pn_rmg_orderBy : plainName "com/example/wee_forge/weeforge/model/ProjectFilter" = true := by first | (simp [plainName, overriddenIn]; done) | decide +kernel
theorem ef_rmg_orderBy (m : MethodId) (a1 : Addr) : entryFrame m #[(.ref a1)] 1 = mkF m 0 #[.val (.ref a1)] [] := by first | (simp [entryFrame, mkF, argsToLocals, Value.category]; done) | rfl
set_option maxRecDepth 65536 in
set_option maxHeartbeats 40000000 in
theorem rmg_orderBy (l : Launch) (Z : State) (a0 : Array Value) (hw : ∀ d ∈ tables_1, d.before a0 Z = true) (ws : List Jvm.Cond) (a1 r : Addr) (h0 : Heap) (n0 : Nat) (Z0 : n0 ≤ h0.size) (F_g : Fld Z h0 a1 "com/example/wee_forge/weeforge/model/ProjectFilter" "orderBy" "Lcom/example/wee_forge/weeforge/model/ProjectOrder;" (.ref r)) :
    MetFree l (⟨"com/example/wee_forge/weeforge/model/ProjectFilter", "orderBy", "()Lcom/example/wee_forge/weeforge/model/ProjectOrder;"⟩ : MethodName) (head1 (Jvm.Cond.code (⟨"com/example/wee_forge/weeforge/model/ProjectFilter", "orderBy", "()Lcom/example/wee_forge/weeforge/model/ProjectOrder;"⟩ : MethodName) prog_25_method_23_code 1 (some (.object "com/example/wee_forge/weeforge/model/ProjectOrder")) :: ws) ({ frames := 0, cells := 0, slots := 0, locals := 0 } : Room)) (fun a U => a = #[(.ref a1)] ∧ Z.Warmed39 U.vm ∧ U.heap = h0) (fun _ _ _ _ _ => True) (fun _ U o U' => ∃ v L, o = .returned v ∧ QR Z r h0 n0 v U'.heap L ∧ FrameEnd U o U' L ({ frames := 0, cells := 0, slots := 0, locals := 0 } : Room).cells ({ frames := 0, cells := 0, slots := 0, locals := 0 } : Room).slots) := by
  refine MetFree.of_bodySF (plainFor_of_name pn_rmg_orderBy) hisR ?_
  intro p e s m args below meth c s₁ Bd hml0 hP hK
  obtain ⟨rfl, hZ, hh⟩ := hP
  have hx := Bd.exec
  have hby := Bd.bytes
  have hml : c.maxLocals = 1 := hml0
  have hown : s.vm.findClass "com/example/wee_forge/weeforge/model/ProjectFilter" = some m.cls := findClass_of_methodNamed Bd.named
  have hnm := (name_of_methodNamed Bd.named Bd.method).1
  have X0 : Stand p l e ({ frames := 0, cells := 0, slots := 0, locals := 0 } : Room) s m #[(.ref a1)] below meth c s₁ [] 0 0 := Stand.of_body Bd
  have e0 : s₁.heap = h0 := by rw [← hh, Bd.state]; rfl
  have N0 := Fr.nil n0
  have pre0 : ∀ tt, Steps p.tables e below (s₁.setTop (mkF m 0 #[.val (.ref a1)] [])) tt → Steps p.tables e below (s₁.setTop (entryFrame m #[(.ref a1)] 1)) tt := fun tt kt => castTop (ef_rmg_orderBy m a1) kt
  obtain ⟨T1, X1, e1, st1⟩ := getF X0 hx hZ hown (host := "") (Or.inl (hw _ (List.mem_of_getElem? (i := 53) rfl))) Via.refl e0 F_g (g := (mkF m 1 #[.val (.ref a1)] [(.ref a1)])) rfl rfl (hb hby d10_1)
  have pre2 : ∀ tt, Steps p.tables e below (T1.setTop (mkF m 4 #[.val (.ref a1)] [(.ref r)])) tt → Steps p.tables e below (s₁.setTop (entryFrame m #[(.ref a1)] 1)) tt := by
    intro tt kt
    refine pre0 tt ?_
    show Steps p.tables e below (s₁.setTop (mkF m 0 #[.val (.ref a1)] [])) _
    refine XS.aloadN X0.here hx rfl (hb hby d10_0) rfl rfl ?_
    show Steps p.tables e below (s₁.setTop (mkF m 1 #[.val (.ref a1)] [(.ref a1)])) _
    refine st1 _ ?_
    exact kt
  obtain ⟨fs, hr, hrun, hended, hW, hsame⟩ := X1.leave (v := some (.ref r)) (fun h => by rw [Bd.returns] at h; cases h)
  refine ⟨_, _, pre2 _ ?_, hrun, hended, _, _, rfl, ?_, ⟨_, rfl⟩, hW, hsame.mono (by decide) (by decide)⟩
  · show Steps p.tables e below (T1.setTop (mkF m 4 #[.val (.ref a1)] [(.ref r)])) _
    jvm_step X1.here [X1.here.top, hx, (hb hby d10_4), X1.method', Bd.returns, Value.isRef, FieldType.isReference]
    first | (intro acts; rw [hr _ acts rfl rfl rfl]) | rw [hr _ _ rfl rfl rfl]
    exact Steps.refl _
  · show QR Z r h0 n0 _ T1.heap _
    rw [e1]
    exact ⟨rfl, N0, rfl⟩
theorem d11_0 : decode prog_25_method_18_code 0 = .ok (.aload_n 0, 1) := by decide +kernel
theorem d11_1 : decode prog_25_method_18_code 1 = .ok (.getfield 100, 3) := by decide +kernel
theorem d11_4 : decode prog_25_method_18_code 4 = .ok (.ireturn, 1) := by decide +kernel
theorem pn_rmg_starredOnly : plainName "com/example/wee_forge/weeforge/model/ProjectFilter" = true := by first | (simp [plainName, overriddenIn]; done) | decide +kernel
theorem ef_rmg_starredOnly (m : MethodId) (a1 : Addr) : entryFrame m #[(.ref a1)] 1 = mkF m 0 #[.val (.ref a1)] [] := by first | (simp [entryFrame, mkF, argsToLocals, Value.category]; done) | rfl
set_option maxRecDepth 65536 in
set_option maxHeartbeats 40000000 in
theorem rmg_starredOnly (l : Launch) (Z : State) (a0 : Array Value) (hw : ∀ d ∈ tables_1, d.before a0 Z = true) (ws : List Jvm.Cond) (a1 : Addr) (r : Int32) (h0 : Heap) (n0 : Nat) (Z0 : n0 ≤ h0.size) (F_g : Fld Z h0 a1 "com/example/wee_forge/weeforge/model/ProjectFilter" "starredOnly" "Z" (.int r)) (hc1 : r = 0 ∨ r = 1) :
    MetFree l (⟨"com/example/wee_forge/weeforge/model/ProjectFilter", "starredOnly", "()Z"⟩ : MethodName) (head1 (Jvm.Cond.code (⟨"com/example/wee_forge/weeforge/model/ProjectFilter", "starredOnly", "()Z"⟩ : MethodName) prog_25_method_18_code 1 (some .boolean) :: ws) ({ frames := 0, cells := 0, slots := 0, locals := 0 } : Room)) (fun a U => a = #[(.ref a1)] ∧ Z.Warmed39 U.vm ∧ U.heap = h0) (fun _ _ _ _ _ => True) (fun _ U o U' => ∃ v L, o = .returned v ∧ QI Z r h0 n0 v U'.heap L ∧ FrameEnd U o U' L ({ frames := 0, cells := 0, slots := 0, locals := 0 } : Room).cells ({ frames := 0, cells := 0, slots := 0, locals := 0 } : Room).slots) := by
  refine MetFree.of_bodySF (plainFor_of_name pn_rmg_starredOnly) hisR ?_
  intro p e s m args below meth c s₁ Bd hml0 hP hK
  obtain ⟨rfl, hZ, hh⟩ := hP
  have hx := Bd.exec
  have hby := Bd.bytes
  have hml : c.maxLocals = 1 := hml0
  have hown : s.vm.findClass "com/example/wee_forge/weeforge/model/ProjectFilter" = some m.cls := findClass_of_methodNamed Bd.named
  have hnm := (name_of_methodNamed Bd.named Bd.method).1
  have X0 : Stand p l e ({ frames := 0, cells := 0, slots := 0, locals := 0 } : Room) s m #[(.ref a1)] below meth c s₁ [] 0 0 := Stand.of_body Bd
  have e0 : s₁.heap = h0 := by rw [← hh, Bd.state]; rfl
  have N0 := Fr.nil n0
  have pre0 : ∀ tt, Steps p.tables e below (s₁.setTop (mkF m 0 #[.val (.ref a1)] [])) tt → Steps p.tables e below (s₁.setTop (entryFrame m #[(.ref a1)] 1)) tt := fun tt kt => castTop (ef_rmg_starredOnly m a1) kt
  obtain ⟨T1, X1, e1, st1⟩ := getF X0 hx hZ hown (host := "") (Or.inl (hw _ (List.mem_of_getElem? (i := 93) rfl))) Via.refl e0 F_g (g := (mkF m 1 #[.val (.ref a1)] [(.ref a1)])) rfl rfl (hb hby d11_1)
  have pre2 : ∀ tt, Steps p.tables e below (T1.setTop (mkF m 4 #[.val (.ref a1)] [(.int r)])) tt → Steps p.tables e below (s₁.setTop (entryFrame m #[(.ref a1)] 1)) tt := by
    intro tt kt
    refine pre0 tt ?_
    show Steps p.tables e below (s₁.setTop (mkF m 0 #[.val (.ref a1)] [])) _
    refine XS.aloadN X0.here hx rfl (hb hby d11_0) rfl rfl ?_
    show Steps p.tables e below (s₁.setTop (mkF m 1 #[.val (.ref a1)] [(.ref a1)])) _
    refine st1 _ ?_
    exact kt
  obtain ⟨fs, hr, hrun, hended, hW, hsame⟩ := X1.leave (v := some (.int r)) (fun h => by rw [Bd.returns] at h; cases h)
  refine ⟨_, _, pre2 _ ?_, hrun, hended, _, _, rfl, ?_, ⟨_, rfl⟩, hW, hsame.mono (by decide) (by decide)⟩
  · show Steps p.tables e below (T1.setTop (mkF m 4 #[.val (.ref a1)] [(.int r)])) _
    exact retOut X1 hx Bd.returns (own_retb _ hc1) (Or.inl ⟨rfl, by simp, _, rfl⟩) (hb hby d11_4) hr
  · show QI Z r h0 n0 _ T1.heap _
    rw [e1]
    exact ⟨rfl, N0, rfl⟩
theorem d1_0 : decode method_2_code 0 = .ok (.iload_n 0, 1) := by decide +kernel
theorem d1_1 : decode method_2_code 1 = .ok (.iconst 1, 1) := by decide +kernel
theorem d1_2 : decode method_2_code 2 = .ok (.iand, 1) := by decide +kernel
theorem d1_3 : decode method_2_code 3 = .ok (.ifCond .eq 7, 3) := by decide +kernel
theorem d1_6 : decode method_2_code 6 = .ok (.getstatic 7, 3) := by decide +kernel
theorem d1_9 : decode method_2_code 9 = .ok (.areturn, 1) := by decide +kernel
theorem d1_10 : decode method_2_code 10 = .ok (.getstatic 13, 3) := by decide +kernel
theorem d1_13 : decode method_2_code 13 = .ok (.areturn, 1) := by decide +kernel
theorem pn_rmD : plainName "com/example/wee_forge/weeforge/model/ProjectFilterSortPinLaw" = true := by first | (simp [plainName, overriddenIn]; done) | decide +kernel
theorem ef_rmD (m : MethodId) (p1 : Int32) : entryFrame m #[(.int p1)] 1 = mkF m 0 #[.val (.int p1)] [] := by first | (simp [entryFrame, mkF, argsToLocals, Value.category]; done) | rfl
set_option maxRecDepth 65536 in
set_option maxHeartbeats 40000000 in
theorem rmD (l : Launch) (Z : State) (a0 : Array Value) (hw : ∀ d ∈ tables_1, d.before a0 Z = true) (ws : List Jvm.Cond) (p1 : Int32) (w_ASC w_DESC r : Addr) (h0 : Heap) (n0 : Nat) (Z0 : n0 ≤ h0.size) (S_ASC : Sta Z h0 "com/example/wee_forge/weeforge/model/SortDirection" "ASC" "Lcom/example/wee_forge/weeforge/model/SortDirection;" (.ref w_ASC)) (S_DESC : Sta Z h0 "com/example/wee_forge/weeforge/model/SortDirection" "DESC" "Lcom/example/wee_forge/weeforge/model/SortDirection;" (.ref w_DESC)) (hr0 : r = if (p1 &&& (1 : Int32)) = (0 : Int32) then w_DESC else w_ASC) :
    MetFree l (⟨"com/example/wee_forge/weeforge/model/ProjectFilterSortPinLaw", "dir", "(I)Lcom/example/wee_forge/weeforge/model/SortDirection;"⟩ : MethodName) (head1 (Jvm.Cond.code (⟨"com/example/wee_forge/weeforge/model/ProjectFilterSortPinLaw", "dir", "(I)Lcom/example/wee_forge/weeforge/model/SortDirection;"⟩ : MethodName) method_2_code 1 (some (.object "com/example/wee_forge/weeforge/model/SortDirection")) :: ws) ({ frames := 0, cells := 0, slots := 0, locals := 0 } : Room)) (fun a U => a = #[(.int p1)] ∧ Z.Warmed39 U.vm ∧ U.heap = h0) (fun _ _ _ _ _ => True) (fun _ U o U' => ∃ v L, o = .returned v ∧ QR Z r h0 n0 v U'.heap L ∧ FrameEnd U o U' L ({ frames := 0, cells := 0, slots := 0, locals := 0 } : Room).cells ({ frames := 0, cells := 0, slots := 0, locals := 0 } : Room).slots) := by
  refine MetFree.of_bodySF (plainFor_of_name pn_rmD) hisR ?_
  intro p e s m args below meth c s₁ Bd hml0 hP hK
  obtain ⟨rfl, hZ, hh⟩ := hP
  have hx := Bd.exec
  have hby := Bd.bytes
  have hml : c.maxLocals = 1 := hml0
  have hown : s.vm.findClass "com/example/wee_forge/weeforge/model/ProjectFilterSortPinLaw" = some m.cls := findClass_of_methodNamed Bd.named
  have hnm := (name_of_methodNamed Bd.named Bd.method).1
  have X0 : Stand p l e ({ frames := 0, cells := 0, slots := 0, locals := 0 } : Room) s m #[(.int p1)] below meth c s₁ [] 0 0 := Stand.of_body Bd
  have e0 : s₁.heap = h0 := by rw [← hh, Bd.state]; rfl
  have N0 := Fr.nil n0
  have pre0 : ∀ tt, Steps p.tables e below (s₁.setTop (mkF m 0 #[.val (.int p1)] [])) tt → Steps p.tables e below (s₁.setTop (entryFrame m #[(.int p1)] 1)) tt := fun tt kt => castTop (ef_rmD m p1) kt
  have pre1 : ∀ tt, Steps p.tables e below (s₁.setTop (mkF m 3 #[.val (.int p1)] [(.int (p1 &&& (1 : Int32)))])) tt → Steps p.tables e below (s₁.setTop (entryFrame m #[(.int p1)] 1)) tt := by
    intro tt kt
    refine pre0 tt ?_
    show Steps p.tables e below (s₁.setTop (mkF m 0 #[.val (.int p1)] [])) _
    refine XS.iloadN X0.here hx rfl (hb hby d1_0) rfl ?_
    show Steps p.tables e below (s₁.setTop (mkF m 1 #[.val (.int p1)] [(.int p1)])) _
    refine XS.iconst X0.here hx rfl (hb hby d1_1) ?_
    show Steps p.tables e below (s₁.setTop (mkF m 2 #[.val (.int p1)] [(.int (1 : Int32)), (.int p1)])) _
    refine XS.iand X0.here hx rfl (hb hby d1_2) rfl ?_
    exact kt
  by_cases c3_2 : (p1 &&& (1 : Int32)) = (0 : Int32)
  · obtain ⟨T3, X3, e3, st3⟩ := getS2 X0 hx hZ hown (host := "") (Or.inl (hw _ (List.mem_of_getElem? (i := 4) rfl))) Via.refl e0 S_DESC (g := (mkF m 10 #[.val (.int p1)] [])) rfl (hb hby d1_10)
    have pre4 : ∀ tt, Steps p.tables e below (T3.setTop (mkF m 13 #[.val (.int p1)] [(.ref w_DESC)])) tt → Steps p.tables e below (s₁.setTop (entryFrame m #[(.int p1)] 1)) tt := by
      intro tt kt
      refine pre1 tt ?_
      show Steps p.tables e below (s₁.setTop (mkF m 3 #[.val (.int p1)] [(.int (p1 &&& (1 : Int32)))])) _
      refine XS.ifYes X0.here hx rfl (pc0 := 3) (pc' := 10) rfl (hb hby d1_3) rfl ((if0 _ _).trans (teq c3_2).1) (by decide) (by decide) ?_
      show Steps p.tables e below (s₁.setTop (mkF m 10 #[.val (.int p1)] [])) _
      refine st3 _ ?_
      exact kt
    obtain ⟨fs, hr, hrun, hended, hW, hsame⟩ := X3.leave (v := some (.ref w_DESC)) (fun h => by rw [Bd.returns] at h; cases h)
    refine ⟨_, _, pre4 _ ?_, hrun, hended, _, _, rfl, ?_, ⟨_, rfl⟩, hW, hsame.mono (by decide) (by decide)⟩
    · show Steps p.tables e below (T3.setTop (mkF m 13 #[.val (.int p1)] [(.ref w_DESC)])) _
      jvm_step X3.here [X3.here.top, hx, (hb hby d1_13), X3.method', Bd.returns, Value.isRef, FieldType.isReference]
      first | (intro acts; rw [hr _ acts rfl rfl rfl]) | rw [hr _ _ rfl rfl rfl]
      exact Steps.refl _
    · show QR Z r h0 n0 _ T3.heap _
      rw [e3]
      exact ⟨by rw [hr0, if_pos c3_2], N0, rfl⟩
  · obtain ⟨T5, X5, e5, st5⟩ := getS2 X0 hx hZ hown (host := "") (Or.inl (hw _ (List.mem_of_getElem? (i := 7) rfl))) Via.refl e0 S_ASC (g := (mkF m 6 #[.val (.int p1)] [])) rfl (hb hby d1_6)
    have pre6 : ∀ tt, Steps p.tables e below (T5.setTop (mkF m 9 #[.val (.int p1)] [(.ref w_ASC)])) tt → Steps p.tables e below (s₁.setTop (entryFrame m #[(.int p1)] 1)) tt := by
      intro tt kt
      refine pre1 tt ?_
      show Steps p.tables e below (s₁.setTop (mkF m 3 #[.val (.int p1)] [(.int (p1 &&& (1 : Int32)))])) _
      refine XS.ifNo X0.here hx rfl (hb hby d1_3) rfl ((if0 _ _).trans (feq c3_2).1) ?_
      show Steps p.tables e below (s₁.setTop (mkF m 6 #[.val (.int p1)] [])) _
      refine st5 _ ?_
      exact kt
    obtain ⟨fs, hr, hrun, hended, hW, hsame⟩ := X5.leave (v := some (.ref w_ASC)) (fun h => by rw [Bd.returns] at h; cases h)
    refine ⟨_, _, pre6 _ ?_, hrun, hended, _, _, rfl, ?_, ⟨_, rfl⟩, hW, hsame.mono (by decide) (by decide)⟩
    · show Steps p.tables e below (T5.setTop (mkF m 9 #[.val (.int p1)] [(.ref w_ASC)])) _
      jvm_step X5.here [X5.here.top, hx, (hb hby d1_9), X5.method', Bd.returns, Value.isRef, FieldType.isReference]
      first | (intro acts; rw [hr _ acts rfl rfl rfl]) | rw [hr _ _ rfl rfl rfl]
      exact Steps.refl _
    · show QR Z r h0 n0 _ T5.heap _
      rw [e5]
      exact ⟨by rw [hr0, if_neg c3_2], N0, rfl⟩
theorem d2_0 : decode method_3_code 0 = .ok (.iload_n 0, 1) := by decide +kernel
theorem d2_1 : decode method_3_code 1 = .ok (.ldc 16, 2) := by decide +kernel
theorem d2_3 : decode method_3_code 3 = .ok (.iand, 1) := by decide +kernel
theorem d2_4 : decode method_3_code 4 = .ok (.bipush 6, 2) := by decide +kernel
theorem d2_6 : decode method_3_code 6 = .ok (.irem, 1) := by decide +kernel
theorem d2_7 : decode method_3_code 7 = .ok (.istore_n 1, 1) := by decide +kernel
theorem d2_8 : decode method_3_code 8 = .ok (.iload_n 1, 1) := by decide +kernel
theorem d2_9 : decode method_3_code 9 = .ok (.ifCond .ne 7, 3) := by decide +kernel
theorem d2_12 : decode method_3_code 12 = .ok (.getstatic 17, 3) := by decide +kernel
theorem d2_15 : decode method_3_code 15 = .ok (.areturn, 1) := by decide +kernel
theorem d2_16 : decode method_3_code 16 = .ok (.iload_n 1, 1) := by decide +kernel
theorem d2_17 : decode method_3_code 17 = .ok (.iconst 1, 1) := by decide +kernel
theorem d2_18 : decode method_3_code 18 = .ok (.if_icmp .ne 7, 3) := by decide +kernel
theorem d2_21 : decode method_3_code 21 = .ok (.getstatic 23, 3) := by decide +kernel
theorem d2_24 : decode method_3_code 24 = .ok (.areturn, 1) := by decide +kernel
theorem d2_25 : decode method_3_code 25 = .ok (.iload_n 1, 1) := by decide +kernel
theorem d2_26 : decode method_3_code 26 = .ok (.iconst 2, 1) := by decide +kernel
theorem d2_27 : decode method_3_code 27 = .ok (.if_icmp .ne 7, 3) := by decide +kernel
theorem d2_30 : decode method_3_code 30 = .ok (.getstatic 26, 3) := by decide +kernel
theorem d2_33 : decode method_3_code 33 = .ok (.areturn, 1) := by decide +kernel
theorem d2_34 : decode method_3_code 34 = .ok (.iload_n 1, 1) := by decide +kernel
theorem d2_35 : decode method_3_code 35 = .ok (.iconst 3, 1) := by decide +kernel
theorem d2_36 : decode method_3_code 36 = .ok (.if_icmp .ne 7, 3) := by decide +kernel
theorem d2_39 : decode method_3_code 39 = .ok (.getstatic 29, 3) := by decide +kernel
theorem d2_42 : decode method_3_code 42 = .ok (.areturn, 1) := by decide +kernel
theorem d2_43 : decode method_3_code 43 = .ok (.iload_n 1, 1) := by decide +kernel
theorem d2_44 : decode method_3_code 44 = .ok (.iconst 4, 1) := by decide +kernel
theorem d2_45 : decode method_3_code 45 = .ok (.if_icmp .ne 7, 3) := by decide +kernel
theorem d2_48 : decode method_3_code 48 = .ok (.getstatic 32, 3) := by decide +kernel
theorem d2_51 : decode method_3_code 51 = .ok (.areturn, 1) := by decide +kernel
theorem d2_52 : decode method_3_code 52 = .ok (.getstatic 35, 3) := by decide +kernel
theorem d2_55 : decode method_3_code 55 = .ok (.areturn, 1) := by decide +kernel
theorem pn_rmO : plainName "com/example/wee_forge/weeforge/model/ProjectFilterSortPinLaw" = true := by first | (simp [plainName, overriddenIn]; done) | decide +kernel
theorem ef_rmO (m : MethodId) (p1 : Int32) : entryFrame m #[(.int p1)] 2 = mkF m 0 #[.val (.int p1), .unset] [] := by first | (simp [entryFrame, mkF, argsToLocals, Value.category]; done) | rfl
set_option maxRecDepth 65536 in
set_option maxHeartbeats 40000000 in
theorem rmO (l : Launch) (Z : State) (a0 : Array Value) (hw : ∀ d ∈ tables_1, d.before a0 Z = true) (ws : List Jvm.Cond) (p1 : Int32) (w_ID w_NAME w_PATH w_CREATED_AT w_UPDATED_AT w_LAST_ACTIVITY_AT r : Addr) (h0 : Heap) (n0 : Nat) (Z0 : n0 ≤ h0.size) (S_ID : Sta Z h0 "com/example/wee_forge/weeforge/model/ProjectOrder" "ID" "Lcom/example/wee_forge/weeforge/model/ProjectOrder;" (.ref w_ID)) (S_NAME : Sta Z h0 "com/example/wee_forge/weeforge/model/ProjectOrder" "NAME" "Lcom/example/wee_forge/weeforge/model/ProjectOrder;" (.ref w_NAME)) (S_PATH : Sta Z h0 "com/example/wee_forge/weeforge/model/ProjectOrder" "PATH" "Lcom/example/wee_forge/weeforge/model/ProjectOrder;" (.ref w_PATH)) (S_CREATED_AT : Sta Z h0 "com/example/wee_forge/weeforge/model/ProjectOrder" "CREATED_AT" "Lcom/example/wee_forge/weeforge/model/ProjectOrder;" (.ref w_CREATED_AT)) (S_UPDATED_AT : Sta Z h0 "com/example/wee_forge/weeforge/model/ProjectOrder" "UPDATED_AT" "Lcom/example/wee_forge/weeforge/model/ProjectOrder;" (.ref w_UPDATED_AT)) (S_LAST_ACTIVITY_AT : Sta Z h0 "com/example/wee_forge/weeforge/model/ProjectOrder" "LAST_ACTIVITY_AT" "Lcom/example/wee_forge/weeforge/model/ProjectOrder;" (.ref w_LAST_ACTIVITY_AT)) (hr0 : r = own_pick ((p1 &&& (2147483647 : Int32)) % (6 : Int32)) w_ID w_NAME w_PATH w_CREATED_AT w_UPDATED_AT w_LAST_ACTIVITY_AT) :
    MetFree l (⟨"com/example/wee_forge/weeforge/model/ProjectFilterSortPinLaw", "order", "(I)Lcom/example/wee_forge/weeforge/model/ProjectOrder;"⟩ : MethodName) (head1 (Jvm.Cond.code (⟨"com/example/wee_forge/weeforge/model/ProjectFilterSortPinLaw", "order", "(I)Lcom/example/wee_forge/weeforge/model/ProjectOrder;"⟩ : MethodName) method_3_code 2 (some (.object "com/example/wee_forge/weeforge/model/ProjectOrder")) :: ws) ({ frames := 0, cells := 0, slots := 0, locals := 0 } : Room)) (fun a U => a = #[(.int p1)] ∧ Z.Warmed39 U.vm ∧ U.heap = h0) (fun _ _ _ _ _ => True) (fun _ U o U' => ∃ v L, o = .returned v ∧ QR Z r h0 n0 v U'.heap L ∧ FrameEnd U o U' L ({ frames := 0, cells := 0, slots := 0, locals := 0 } : Room).cells ({ frames := 0, cells := 0, slots := 0, locals := 0 } : Room).slots) := by
  refine MetFree.of_bodySF (plainFor_of_name pn_rmO) hisR ?_
  intro p e s m args below meth c s₁ Bd hml0 hP hK
  obtain ⟨rfl, hZ, hh⟩ := hP
  have hx := Bd.exec
  have hby := Bd.bytes
  have hml : c.maxLocals = 2 := hml0
  have hown : s.vm.findClass "com/example/wee_forge/weeforge/model/ProjectFilterSortPinLaw" = some m.cls := findClass_of_methodNamed Bd.named
  have hnm := (name_of_methodNamed Bd.named Bd.method).1
  have X0 : Stand p l e ({ frames := 0, cells := 0, slots := 0, locals := 0 } : Room) s m #[(.int p1)] below meth c s₁ [] 0 0 := Stand.of_body Bd
  have e0 : s₁.heap = h0 := by rw [← hh, Bd.state]; rfl
  have N0 := Fr.nil n0
  have pre0 : ∀ tt, Steps p.tables e below (s₁.setTop (mkF m 0 #[.val (.int p1), .unset] [])) tt → Steps p.tables e below (s₁.setTop (entryFrame m #[(.int p1)] 2)) tt := fun tt kt => castTop (ef_rmO m p1) kt
  obtain ⟨k, hkk⟩ : ∃ z : Int32, z = ((p1 &&& (2147483647 : Int32)) % (6 : Int32)) := ⟨_, rfl⟩
  have pre1 : ∀ tt, Steps p.tables e below (s₁.setTop (mkF m 7 #[.val (.int p1), .unset] [(.int k)])) tt → Steps p.tables e below (s₁.setTop (entryFrame m #[(.int p1)] 2)) tt := by
    intro tt kt
    refine pre0 tt ?_
    show Steps p.tables e below (s₁.setTop (mkF m 0 #[.val (.int p1), .unset] [])) _
    refine XS.iloadN X0.here hx rfl (hb hby d2_0) rfl ?_
    show Steps p.tables e below (s₁.setTop (mkF m 1 #[.val (.int p1), .unset] [(.int p1)])) _
    refine X0.ldcInt hx hown (mvT hZ (hw _ (List.mem_of_getElem? (i := 12) rfl))) (g := (mkF m 1 #[.val (.int p1), .unset] [(.int p1)])) rfl (hb hby d2_1) _ ?_
    show Steps p.tables e below (s₁.setTop (mkF m 3 #[.val (.int p1), .unset] [(.int (2147483647 : Int32)), (.int p1)])) _
    refine XS.iand X0.here hx rfl (hb hby d2_3) rfl ?_
    show Steps p.tables e below (s₁.setTop (mkF m 4 #[.val (.int p1), .unset] [(.int (p1 &&& (2147483647 : Int32)))])) _
    refine XS.bipush X0.here hx rfl (hb hby d2_4) ?_
    show Steps p.tables e below (s₁.setTop (mkF m 6 #[.val (.int p1), .unset] [(.int (6 : Int32)), (.int (p1 &&& (2147483647 : Int32)))])) _
    refine iremM (g := (mkF m 6 #[.val (.int p1), .unset] [(.int (6 : Int32)), (.int (p1 &&& (2147483647 : Int32)))])) X0 hx rfl (hb hby d2_6) rfl (by decide : ¬ ((6 : Int32) = (0 : Int32))) ?_
    show Steps p.tables e below (s₁.setTop (mkF m 7 #[.val (.int p1), .unset] [(.int ((p1 &&& (2147483647 : Int32)) % (6 : Int32)))])) _
    rw [← hkk]
    exact kt
  have pre2 : ∀ tt, Steps p.tables e below (s₁.setTop (mkF m 9 #[.val (.int p1), .val (.int k)] [(.int k)])) tt → Steps p.tables e below (s₁.setTop (entryFrame m #[(.int p1)] 2)) tt := by
    intro tt kt
    refine pre1 tt ?_
    show Steps p.tables e below (s₁.setTop (mkF m 7 #[.val (.int p1), .unset] [(.int k)])) _
    refine XS.istoreN X0.here hx rfl (hb hby d2_7) rfl (l' := #[.val (.int p1), .val (.int k)]) rfl ?_
    show Steps p.tables e below (s₁.setTop (mkF m 8 #[.val (.int p1), .val (.int k)] [])) _
    refine XS.iloadN X0.here hx rfl (hb hby d2_8) rfl ?_
    exact kt
  by_cases c9_3 : k = (0 : Int32)
  · obtain ⟨T4, X4, e4, st4⟩ := getS2 X0 hx hZ hown (host := "") (Or.inl (hw _ (List.mem_of_getElem? (i := 107) rfl))) Via.refl e0 S_ID (g := (mkF m 12 #[.val (.int p1), .val (.int k)] [])) rfl (hb hby d2_12)
    have pre5 : ∀ tt, Steps p.tables e below (T4.setTop (mkF m 15 #[.val (.int p1), .val (.int k)] [(.ref w_ID)])) tt → Steps p.tables e below (s₁.setTop (entryFrame m #[(.int p1)] 2)) tt := by
      intro tt kt
      refine pre2 tt ?_
      show Steps p.tables e below (s₁.setTop (mkF m 9 #[.val (.int p1), .val (.int k)] [(.int k)])) _
      refine XS.ifNo X0.here hx rfl (hb hby d2_9) rfl ((if0 _ _).trans (teq c9_3).2) ?_
      show Steps p.tables e below (s₁.setTop (mkF m 12 #[.val (.int p1), .val (.int k)] [])) _
      refine st4 _ ?_
      exact kt
    obtain ⟨fs, hr, hrun, hended, hW, hsame⟩ := X4.leave (v := some (.ref w_ID)) (fun h => by rw [Bd.returns] at h; cases h)
    refine ⟨_, _, pre5 _ ?_, hrun, hended, _, _, rfl, ?_, ⟨_, rfl⟩, hW, hsame.mono (by decide) (by decide)⟩
    · show Steps p.tables e below (T4.setTop (mkF m 15 #[.val (.int p1), .val (.int k)] [(.ref w_ID)])) _
      jvm_step X4.here [X4.here.top, hx, (hb hby d2_15), X4.method', Bd.returns, Value.isRef, FieldType.isReference]
      first | (intro acts; rw [hr _ acts rfl rfl rfl]) | rw [hr _ _ rfl rfl rfl]
      exact Steps.refl _
    · show QR Z r h0 n0 _ T4.heap _
      rw [e4]
      exact ⟨by rw [hr0, ← hkk]; simp [own_pick, c9_3], N0, rfl⟩
  · have pre6 : ∀ tt, Steps p.tables e below (s₁.setTop (mkF m 18 #[.val (.int p1), .val (.int k)] [(.int (1 : Int32)), (.int k)])) tt → Steps p.tables e below (s₁.setTop (entryFrame m #[(.int p1)] 2)) tt := by
      intro tt kt
      refine pre2 tt ?_
      show Steps p.tables e below (s₁.setTop (mkF m 9 #[.val (.int p1), .val (.int k)] [(.int k)])) _
      refine XS.ifYes X0.here hx rfl (pc0 := 9) (pc' := 16) rfl (hb hby d2_9) rfl ((if0 _ _).trans (feq c9_3).2) (by decide) (by decide) ?_
      show Steps p.tables e below (s₁.setTop (mkF m 16 #[.val (.int p1), .val (.int k)] [])) _
      refine XS.iloadN X0.here hx rfl (hb hby d2_16) rfl ?_
      show Steps p.tables e below (s₁.setTop (mkF m 17 #[.val (.int p1), .val (.int k)] [(.int k)])) _
      refine XS.iconst X0.here hx rfl (hb hby d2_17) ?_
      exact kt
    by_cases c18_7 : k = (1 : Int32)
    · obtain ⟨T8, X8, e8, st8⟩ := getS2 X0 hx hZ hown (host := "") (Or.inl (hw _ (List.mem_of_getElem? (i := 95) rfl))) Via.refl e0 S_NAME (g := (mkF m 21 #[.val (.int p1), .val (.int k)] [])) rfl (hb hby d2_21)
      have pre9 : ∀ tt, Steps p.tables e below (T8.setTop (mkF m 24 #[.val (.int p1), .val (.int k)] [(.ref w_NAME)])) tt → Steps p.tables e below (s₁.setTop (entryFrame m #[(.int p1)] 2)) tt := by
        intro tt kt
        refine pre6 tt ?_
        show Steps p.tables e below (s₁.setTop (mkF m 18 #[.val (.int p1), .val (.int k)] [(.int (1 : Int32)), (.int k)])) _
        refine XS.icmpNo X0.here hx rfl (hb hby d2_18) rfl (teq c18_7).2 ?_
        show Steps p.tables e below (s₁.setTop (mkF m 21 #[.val (.int p1), .val (.int k)] [])) _
        refine st8 _ ?_
        exact kt
      obtain ⟨fs, hr, hrun, hended, hW, hsame⟩ := X8.leave (v := some (.ref w_NAME)) (fun h => by rw [Bd.returns] at h; cases h)
      refine ⟨_, _, pre9 _ ?_, hrun, hended, _, _, rfl, ?_, ⟨_, rfl⟩, hW, hsame.mono (by decide) (by decide)⟩
      · show Steps p.tables e below (T8.setTop (mkF m 24 #[.val (.int p1), .val (.int k)] [(.ref w_NAME)])) _
        jvm_step X8.here [X8.here.top, hx, (hb hby d2_24), X8.method', Bd.returns, Value.isRef, FieldType.isReference]
        first | (intro acts; rw [hr _ acts rfl rfl rfl]) | rw [hr _ _ rfl rfl rfl]
        exact Steps.refl _
      · show QR Z r h0 n0 _ T8.heap _
        rw [e8]
        exact ⟨by rw [hr0, ← hkk]; simp [own_pick, c9_3, c18_7], N0, rfl⟩
    · have pre10 : ∀ tt, Steps p.tables e below (s₁.setTop (mkF m 27 #[.val (.int p1), .val (.int k)] [(.int (2 : Int32)), (.int k)])) tt → Steps p.tables e below (s₁.setTop (entryFrame m #[(.int p1)] 2)) tt := by
        intro tt kt
        refine pre6 tt ?_
        show Steps p.tables e below (s₁.setTop (mkF m 18 #[.val (.int p1), .val (.int k)] [(.int (1 : Int32)), (.int k)])) _
        refine XS.icmpYes X0.here hx rfl (pc0 := 18) (pc' := 25) rfl (hb hby d2_18) rfl (feq c18_7).2 (by decide) (by decide) ?_
        show Steps p.tables e below (s₁.setTop (mkF m 25 #[.val (.int p1), .val (.int k)] [])) _
        refine XS.iloadN X0.here hx rfl (hb hby d2_25) rfl ?_
        show Steps p.tables e below (s₁.setTop (mkF m 26 #[.val (.int p1), .val (.int k)] [(.int k)])) _
        refine XS.iconst X0.here hx rfl (hb hby d2_26) ?_
        exact kt
      by_cases c27_11 : k = (2 : Int32)
      · obtain ⟨T12, X12, e12, st12⟩ := getS2 X0 hx hZ hown (host := "") (Or.inl (hw _ (List.mem_of_getElem? (i := 13) rfl))) Via.refl e0 S_PATH (g := (mkF m 30 #[.val (.int p1), .val (.int k)] [])) rfl (hb hby d2_30)
        have pre13 : ∀ tt, Steps p.tables e below (T12.setTop (mkF m 33 #[.val (.int p1), .val (.int k)] [(.ref w_PATH)])) tt → Steps p.tables e below (s₁.setTop (entryFrame m #[(.int p1)] 2)) tt := by
          intro tt kt
          refine pre10 tt ?_
          show Steps p.tables e below (s₁.setTop (mkF m 27 #[.val (.int p1), .val (.int k)] [(.int (2 : Int32)), (.int k)])) _
          refine XS.icmpNo X0.here hx rfl (hb hby d2_27) rfl (teq c27_11).2 ?_
          show Steps p.tables e below (s₁.setTop (mkF m 30 #[.val (.int p1), .val (.int k)] [])) _
          refine st12 _ ?_
          exact kt
        obtain ⟨fs, hr, hrun, hended, hW, hsame⟩ := X12.leave (v := some (.ref w_PATH)) (fun h => by rw [Bd.returns] at h; cases h)
        refine ⟨_, _, pre13 _ ?_, hrun, hended, _, _, rfl, ?_, ⟨_, rfl⟩, hW, hsame.mono (by decide) (by decide)⟩
        · show Steps p.tables e below (T12.setTop (mkF m 33 #[.val (.int p1), .val (.int k)] [(.ref w_PATH)])) _
          jvm_step X12.here [X12.here.top, hx, (hb hby d2_33), X12.method', Bd.returns, Value.isRef, FieldType.isReference]
          first | (intro acts; rw [hr _ acts rfl rfl rfl]) | rw [hr _ _ rfl rfl rfl]
          exact Steps.refl _
        · show QR Z r h0 n0 _ T12.heap _
          rw [e12]
          exact ⟨by rw [hr0, ← hkk]; simp [own_pick, c9_3, c18_7, c27_11], N0, rfl⟩
      · have pre14 : ∀ tt, Steps p.tables e below (s₁.setTop (mkF m 36 #[.val (.int p1), .val (.int k)] [(.int (3 : Int32)), (.int k)])) tt → Steps p.tables e below (s₁.setTop (entryFrame m #[(.int p1)] 2)) tt := by
          intro tt kt
          refine pre10 tt ?_
          show Steps p.tables e below (s₁.setTop (mkF m 27 #[.val (.int p1), .val (.int k)] [(.int (2 : Int32)), (.int k)])) _
          refine XS.icmpYes X0.here hx rfl (pc0 := 27) (pc' := 34) rfl (hb hby d2_27) rfl (feq c27_11).2 (by decide) (by decide) ?_
          show Steps p.tables e below (s₁.setTop (mkF m 34 #[.val (.int p1), .val (.int k)] [])) _
          refine XS.iloadN X0.here hx rfl (hb hby d2_34) rfl ?_
          show Steps p.tables e below (s₁.setTop (mkF m 35 #[.val (.int p1), .val (.int k)] [(.int k)])) _
          refine XS.iconst X0.here hx rfl (hb hby d2_35) ?_
          exact kt
        by_cases c36_15 : k = (3 : Int32)
        · obtain ⟨T16, X16, e16, st16⟩ := getS2 X0 hx hZ hown (host := "") (Or.inl (hw _ (List.mem_of_getElem? (i := 58) rfl))) Via.refl e0 S_CREATED_AT (g := (mkF m 39 #[.val (.int p1), .val (.int k)] [])) rfl (hb hby d2_39)
          have pre17 : ∀ tt, Steps p.tables e below (T16.setTop (mkF m 42 #[.val (.int p1), .val (.int k)] [(.ref w_CREATED_AT)])) tt → Steps p.tables e below (s₁.setTop (entryFrame m #[(.int p1)] 2)) tt := by
            intro tt kt
            refine pre14 tt ?_
            show Steps p.tables e below (s₁.setTop (mkF m 36 #[.val (.int p1), .val (.int k)] [(.int (3 : Int32)), (.int k)])) _
            refine XS.icmpNo X0.here hx rfl (hb hby d2_36) rfl (teq c36_15).2 ?_
            show Steps p.tables e below (s₁.setTop (mkF m 39 #[.val (.int p1), .val (.int k)] [])) _
            refine st16 _ ?_
            exact kt
          obtain ⟨fs, hr, hrun, hended, hW, hsame⟩ := X16.leave (v := some (.ref w_CREATED_AT)) (fun h => by rw [Bd.returns] at h; cases h)
          refine ⟨_, _, pre17 _ ?_, hrun, hended, _, _, rfl, ?_, ⟨_, rfl⟩, hW, hsame.mono (by decide) (by decide)⟩
          · show Steps p.tables e below (T16.setTop (mkF m 42 #[.val (.int p1), .val (.int k)] [(.ref w_CREATED_AT)])) _
            jvm_step X16.here [X16.here.top, hx, (hb hby d2_42), X16.method', Bd.returns, Value.isRef, FieldType.isReference]
            first | (intro acts; rw [hr _ acts rfl rfl rfl]) | rw [hr _ _ rfl rfl rfl]
            exact Steps.refl _
          · show QR Z r h0 n0 _ T16.heap _
            rw [e16]
            exact ⟨by rw [hr0, ← hkk]; simp [own_pick, c9_3, c18_7, c27_11, c36_15], N0, rfl⟩
        · have pre18 : ∀ tt, Steps p.tables e below (s₁.setTop (mkF m 45 #[.val (.int p1), .val (.int k)] [(.int (4 : Int32)), (.int k)])) tt → Steps p.tables e below (s₁.setTop (entryFrame m #[(.int p1)] 2)) tt := by
            intro tt kt
            refine pre14 tt ?_
            show Steps p.tables e below (s₁.setTop (mkF m 36 #[.val (.int p1), .val (.int k)] [(.int (3 : Int32)), (.int k)])) _
            refine XS.icmpYes X0.here hx rfl (pc0 := 36) (pc' := 43) rfl (hb hby d2_36) rfl (feq c36_15).2 (by decide) (by decide) ?_
            show Steps p.tables e below (s₁.setTop (mkF m 43 #[.val (.int p1), .val (.int k)] [])) _
            refine XS.iloadN X0.here hx rfl (hb hby d2_43) rfl ?_
            show Steps p.tables e below (s₁.setTop (mkF m 44 #[.val (.int p1), .val (.int k)] [(.int k)])) _
            refine XS.iconst X0.here hx rfl (hb hby d2_44) ?_
            exact kt
          by_cases c45_19 : k = (4 : Int32)
          · obtain ⟨T20, X20, e20, st20⟩ := getS2 X0 hx hZ hown (host := "") (Or.inl (hw _ (List.mem_of_getElem? (i := 109) rfl))) Via.refl e0 S_UPDATED_AT (g := (mkF m 48 #[.val (.int p1), .val (.int k)] [])) rfl (hb hby d2_48)
            have pre21 : ∀ tt, Steps p.tables e below (T20.setTop (mkF m 51 #[.val (.int p1), .val (.int k)] [(.ref w_UPDATED_AT)])) tt → Steps p.tables e below (s₁.setTop (entryFrame m #[(.int p1)] 2)) tt := by
              intro tt kt
              refine pre18 tt ?_
              show Steps p.tables e below (s₁.setTop (mkF m 45 #[.val (.int p1), .val (.int k)] [(.int (4 : Int32)), (.int k)])) _
              refine XS.icmpNo X0.here hx rfl (hb hby d2_45) rfl (teq c45_19).2 ?_
              show Steps p.tables e below (s₁.setTop (mkF m 48 #[.val (.int p1), .val (.int k)] [])) _
              refine st20 _ ?_
              exact kt
            obtain ⟨fs, hr, hrun, hended, hW, hsame⟩ := X20.leave (v := some (.ref w_UPDATED_AT)) (fun h => by rw [Bd.returns] at h; cases h)
            refine ⟨_, _, pre21 _ ?_, hrun, hended, _, _, rfl, ?_, ⟨_, rfl⟩, hW, hsame.mono (by decide) (by decide)⟩
            · show Steps p.tables e below (T20.setTop (mkF m 51 #[.val (.int p1), .val (.int k)] [(.ref w_UPDATED_AT)])) _
              jvm_step X20.here [X20.here.top, hx, (hb hby d2_51), X20.method', Bd.returns, Value.isRef, FieldType.isReference]
              first | (intro acts; rw [hr _ acts rfl rfl rfl]) | rw [hr _ _ rfl rfl rfl]
              exact Steps.refl _
            · show QR Z r h0 n0 _ T20.heap _
              rw [e20]
              exact ⟨by rw [hr0, ← hkk]; simp [own_pick, c9_3, c18_7, c27_11, c36_15, c45_19], N0, rfl⟩
          · obtain ⟨T22, X22, e22, st22⟩ := getS2 X0 hx hZ hown (host := "") (Or.inl (hw _ (List.mem_of_getElem? (i := 105) rfl))) Via.refl e0 S_LAST_ACTIVITY_AT (g := (mkF m 52 #[.val (.int p1), .val (.int k)] [])) rfl (hb hby d2_52)
            have pre23 : ∀ tt, Steps p.tables e below (T22.setTop (mkF m 55 #[.val (.int p1), .val (.int k)] [(.ref w_LAST_ACTIVITY_AT)])) tt → Steps p.tables e below (s₁.setTop (entryFrame m #[(.int p1)] 2)) tt := by
              intro tt kt
              refine pre18 tt ?_
              show Steps p.tables e below (s₁.setTop (mkF m 45 #[.val (.int p1), .val (.int k)] [(.int (4 : Int32)), (.int k)])) _
              refine XS.icmpYes X0.here hx rfl (pc0 := 45) (pc' := 52) rfl (hb hby d2_45) rfl (feq c45_19).2 (by decide) (by decide) ?_
              show Steps p.tables e below (s₁.setTop (mkF m 52 #[.val (.int p1), .val (.int k)] [])) _
              refine st22 _ ?_
              exact kt
            obtain ⟨fs, hr, hrun, hended, hW, hsame⟩ := X22.leave (v := some (.ref w_LAST_ACTIVITY_AT)) (fun h => by rw [Bd.returns] at h; cases h)
            refine ⟨_, _, pre23 _ ?_, hrun, hended, _, _, rfl, ?_, ⟨_, rfl⟩, hW, hsame.mono (by decide) (by decide)⟩
            · show Steps p.tables e below (T22.setTop (mkF m 55 #[.val (.int p1), .val (.int k)] [(.ref w_LAST_ACTIVITY_AT)])) _
              jvm_step X22.here [X22.here.top, hx, (hb hby d2_55), X22.method', Bd.returns, Value.isRef, FieldType.isReference]
              first | (intro acts; rw [hr _ acts rfl rfl rfl]) | rw [hr _ _ rfl rfl rfl]
              exact Steps.refl _
            · show QR Z r h0 n0 _ T22.heap _
              rw [e22]
              exact ⟨by rw [hr0, ← hkk]; simp [own_pick, c9_3, c18_7, c27_11, c36_15, c45_19], N0, rfl⟩
def Q0 (Z : State) (h0 : Heap) (n0 : Nat) (v : Option Value) (h : Heap) (L : List Loc) : Prop := v = some (.int (1 : Int32)) ∧ Fr n0 L
theorem pn_rm0 : plainName "com/example/wee_forge/weeforge/model/ProjectFilterSortPinLaw" = true := by first | (simp [plainName, overriddenIn]; done) | decide +kernel
theorem pd_rm0_0 : parseMethodDescriptor "(I)Lcom/example/wee_forge/weeforge/model/SortDirection;" = some ⟨[.int], some (.object "com/example/wee_forge/weeforge/model/SortDirection")⟩ := by decide +kernel
theorem pd_rm0_1 : parseMethodDescriptor "(I)Lcom/example/wee_forge/weeforge/model/ProjectOrder;" = some ⟨[.int], some (.object "com/example/wee_forge/weeforge/model/ProjectOrder")⟩ := by decide +kernel
theorem pd_rm0_2 : parseMethodDescriptor "()V" = some ⟨[], none⟩ := by decide +kernel
theorem pd_rm0_3 : parseMethodDescriptor "(Lcom/example/wee_forge/weeforge/model/SortDirection;)Lcom/example/wee_forge/weeforge/model/ProjectFilter;" = some ⟨[(.object "com/example/wee_forge/weeforge/model/SortDirection")], some (.object "com/example/wee_forge/weeforge/model/ProjectFilter")⟩ := by decide +kernel
theorem pd_rm0_4 : parseMethodDescriptor "()Lcom/example/wee_forge/weeforge/model/SortDirection;" = some ⟨[], some (.object "com/example/wee_forge/weeforge/model/SortDirection")⟩ := by decide +kernel
theorem pd_rm0_5 : parseMethodDescriptor "()Lcom/example/wee_forge/weeforge/model/ProjectOrder;" = some ⟨[], some (.object "com/example/wee_forge/weeforge/model/ProjectOrder")⟩ := by decide +kernel
theorem pd_rm0_6 : parseMethodDescriptor "()Z" = some ⟨[], some .boolean⟩ := by decide +kernel
theorem pd_rm0_7 : parseMethodDescriptor "(Lcom/example/wee_forge/weeforge/model/ProjectOrder;)Lcom/example/wee_forge/weeforge/model/ProjectFilter;" = some ⟨[(.object "com/example/wee_forge/weeforge/model/ProjectOrder")], some (.object "com/example/wee_forge/weeforge/model/ProjectFilter")⟩ := by decide +kernel
theorem ef_rm0 (m : MethodId) (p1 : Int32) (p2 : Int32) (p3 : Int32) : entryFrame m #[(.int p1), (.int p2), (.int p3)] maxLocals = mkF m 0 #[.val (.int p1), .val (.int p2), .val (.int p3), .unset, .unset, .unset, .unset, .unset, .unset, .unset, .unset, .unset] [] := by first | (simp [entryFrame, mkF, argsToLocals, Value.category, maxLocals]; done) | rfl
set_option maxRecDepth 65536 in
set_option maxHeartbeats 40000000 in
theorem rm0 (l : Launch) (Z : State) (a0 : Array Value) (hw : ∀ d ∈ tables_1, d.before a0 Z = true) (ws : List Jvm.Cond) (p1 p2 p3 : Int32) (w_ID w_NAME w_PATH w_CREATED_AT w_UPDATED_AT w_LAST_ACTIVITY_AT w_ASC w_DESC w_ANY wEL wOL : Addr) (h0 : Heap) (n0 : Nat) (Z0 : n0 ≤ h0.size) (S_ID : Sta Z h0 "com/example/wee_forge/weeforge/model/ProjectOrder" "ID" "Lcom/example/wee_forge/weeforge/model/ProjectOrder;" (.ref w_ID)) (S_NAME : Sta Z h0 "com/example/wee_forge/weeforge/model/ProjectOrder" "NAME" "Lcom/example/wee_forge/weeforge/model/ProjectOrder;" (.ref w_NAME)) (S_PATH : Sta Z h0 "com/example/wee_forge/weeforge/model/ProjectOrder" "PATH" "Lcom/example/wee_forge/weeforge/model/ProjectOrder;" (.ref w_PATH)) (S_CREATED_AT : Sta Z h0 "com/example/wee_forge/weeforge/model/ProjectOrder" "CREATED_AT" "Lcom/example/wee_forge/weeforge/model/ProjectOrder;" (.ref w_CREATED_AT)) (S_UPDATED_AT : Sta Z h0 "com/example/wee_forge/weeforge/model/ProjectOrder" "UPDATED_AT" "Lcom/example/wee_forge/weeforge/model/ProjectOrder;" (.ref w_UPDATED_AT)) (S_LAST_ACTIVITY_AT : Sta Z h0 "com/example/wee_forge/weeforge/model/ProjectOrder" "LAST_ACTIVITY_AT" "Lcom/example/wee_forge/weeforge/model/ProjectOrder;" (.ref w_LAST_ACTIVITY_AT)) (S_ASC : Sta Z h0 "com/example/wee_forge/weeforge/model/SortDirection" "ASC" "Lcom/example/wee_forge/weeforge/model/SortDirection;" (.ref w_ASC)) (S_DESC : Sta Z h0 "com/example/wee_forge/weeforge/model/SortDirection" "DESC" "Lcom/example/wee_forge/weeforge/model/SortDirection;" (.ref w_DESC)) (S_ANY : Sta Z h0 "com/example/wee_forge/weeforge/model/TimeRange" "ANY" "Lcom/example/wee_forge/weeforge/model/TimeRange;" (.ref w_ANY)) (E_ID : Exa Z h0 w_ID "com/example/wee_forge/weeforge/model/ProjectOrder") (E_NAME : Exa Z h0 w_NAME "com/example/wee_forge/weeforge/model/ProjectOrder") (E_PATH : Exa Z h0 w_PATH "com/example/wee_forge/weeforge/model/ProjectOrder") (E_CREATED_AT : Exa Z h0 w_CREATED_AT "com/example/wee_forge/weeforge/model/ProjectOrder") (E_UPDATED_AT : Exa Z h0 w_UPDATED_AT "com/example/wee_forge/weeforge/model/ProjectOrder") (E_LAST_ACTIVITY_AT : Exa Z h0 w_LAST_ACTIVITY_AT "com/example/wee_forge/weeforge/model/ProjectOrder") (E_ASC : Exa Z h0 w_ASC "com/example/wee_forge/weeforge/model/SortDirection") (E_DESC : Exa Z h0 w_DESC "com/example/wee_forge/weeforge/model/SortDirection") (E_ANY : Exa Z h0 w_ANY "com/example/wee_forge/weeforge/model/TimeRange") (S_EL : Sta Z h0 "java/util/ImmutableCollections" "EMPTY_LIST" "Ljava/util/ImmutableCollections$ListN;" (.ref wEL)) (S_OL : Sta Z h0 "java/util/OptionalLong" "EMPTY" "Ljava/util/OptionalLong;" (.ref wOL)) :
    MetFree l x (head1 (Jvm.Cond.code x code maxLocals ret :: ws) room_1) (fun a U => a = #[(.int p1), (.int p2), (.int p3)] ∧ Z.Warmed39 U.vm ∧ U.heap = h0) (fun _ _ _ _ _ => True) (fun _ U o U' => ∃ v L, o = .returned v ∧ Q0 Z h0 n0 v U'.heap L ∧ ReturnedEndW U o U' L room_1.cells room_1.slots) := by
  refine MetFree.of_bodySF (plainFor_of_name pn_rm0) hisR ?_
  intro p e s m args below meth c s₁ Bd hml0 hP hK
  obtain ⟨rfl, hZ, hh⟩ := hP
  have hx := Bd.exec
  have hby := Bd.bytes
  have hml : c.maxLocals = 12 := hml0
  have hown : s.vm.findClass "com/example/wee_forge/weeforge/model/ProjectFilterSortPinLaw" = some m.cls := findClass_of_methodNamed Bd.named
  have hnm := (name_of_methodNamed Bd.named Bd.method).1
  have X0 : Stand p l e room_1 (s.setVm s.vm) m #[(.int p1), (.int p2), (.int p3)] below meth c s₁ [] 0 0 := Stand.of_body Bd
  have hS : s.Since s.vm s.heap.size := (State.WarmedH.refl s).since _
  have hk : s.heap.size ≤ h0.size := by rw [hh]; exact Nat.le_refl _
  have hZ : Z.Warmed39 (s.setVm s.vm).vm := hZ
  have hown : (s.setVm s.vm).vm.findClass "com/example/wee_forge/weeforge/model/ProjectFilterSortPinLaw" = some m.cls := hown
  have wS := own_wS hw
  have e0 : s₁.heap = h0 := by rw [← hh, Bd.state]; rfl
  have N0 := Fr.nil n0
  have pre0 : ∀ tt, Steps p.tables e below (s₁.setTop (mkF m 0 #[.val (.int p1), .val (.int p2), .val (.int p3), .unset, .unset, .unset, .unset, .unset, .unset, .unset, .unset, .unset] [])) tt → Steps p.tables e below (s₁.setTop (entryFrame m #[(.int p1), (.int p2), (.int p3)] maxLocals)) tt := fun tt kt => castTop (ef_rm0 m p1 p2 p3) kt
  obtain ⟨d_p1, hd_p1⟩ : ∃ z, z = if (p1 &&& (1 : Int32)) = (0 : Int32) then w_DESC else w_ASC := ⟨_, rfl⟩
  have E_d_p1 : Exa Z h0 d_p1 "com/example/wee_forge/weeforge/model/SortDirection" := by
    rw [hd_p1]; split
    · exact E_DESC
    · exact E_ASC
  obtain ⟨_, _, ⟨T1, L1, k1, n1⟩, -, X1, ⟨Lc1, hQ1, l1, y1, z1⟩, st1⟩ := Jvm.LawKit.callS X0 hx (y := (⟨"com/example/wee_forge/weeforge/model/ProjectFilterSortPinLaw", "dir", "(I)Lcom/example/wee_forge/weeforge/model/SortDirection;"⟩ : MethodName)) hown (mvT hZ (hw _ (List.mem_of_getElem? (i := 0) rfl))) (mvT hZ (hw _ (List.mem_of_getElem? (i := 1) rfl))) (mvT hZ (hw _ (List.mem_of_getElem? (i := 2) rfl))) (mvT hZ (hw _ (List.mem_of_getElem? (i := 3) rfl))) (by decide) (backOf (W := 0) (rmD l Z a0 hw [] p1 w_ASC w_DESC d_p1 h0 n0 Z0 S_ASC S_DESC hd_p1) hZ (hw _ (List.mem_of_getElem? (i := 3) rfl)) (hw _ (List.mem_of_getElem? (i := 2) rfl)) (by decide) (by decide)) (g := (mkF m 1 #[.val (.int p1), .val (.int p2), .val (.int p3), .unset, .unset, .unset, .unset, .unset, .unset, .unset, .unset, .unset] [(.int p1)])) rfl (by rw [hml]; rfl) (argsL := [(.int p1)]) (rest := []) (lenOf pd_rm0_0 rfl) rfl (by show 2 * 0 + _ ≤ _; exact Nat.le_of_eq rfl) (hb hby at_1) (fun _ _ => ⟨rfl, e0, (by decide : 0 + 0 ≤ _), (by decide : 0 + 0 ≤ _)⟩)
  dsimp only [Pt.U, Pt.locs, Pt.cells, Pt.slots] at X1 l1 y1 z1 st1 hQ1
  subst l1 y1 z1
  obtain ⟨rfl, N1q, hE1⟩ := hQ1
  have N1 := Fr.app N0 N1q
  obtain ⟨d_p2, hd_p2⟩ : ∃ z, z = if (p2 &&& (1 : Int32)) = (0 : Int32) then w_DESC else w_ASC := ⟨_, rfl⟩
  have E_d_p2 : Exa Z h0 d_p2 "com/example/wee_forge/weeforge/model/SortDirection" := by
    rw [hd_p2]; split
    · exact E_DESC
    · exact E_ASC
  obtain ⟨_, _, ⟨T2, L2, k2, n2⟩, -, X2, ⟨Lc2, hQ2, l2, y2, z2⟩, st2⟩ := Jvm.LawKit.callS X1 hx (y := (⟨"com/example/wee_forge/weeforge/model/ProjectFilterSortPinLaw", "dir", "(I)Lcom/example/wee_forge/weeforge/model/SortDirection;"⟩ : MethodName)) hown (mvT hZ (hw _ (List.mem_of_getElem? (i := 0) rfl))) (mvT hZ (hw _ (List.mem_of_getElem? (i := 1) rfl))) (mvT hZ (hw _ (List.mem_of_getElem? (i := 2) rfl))) (mvT hZ (hw _ (List.mem_of_getElem? (i := 3) rfl))) (by decide) (backOf (W := 0) (rmD l Z a0 hw [] p2 w_ASC w_DESC d_p2 h0 n0 Z0 S_ASC S_DESC hd_p2) hZ (hw _ (List.mem_of_getElem? (i := 3) rfl)) (hw _ (List.mem_of_getElem? (i := 2) rfl)) (by decide) (by decide)) (g := (mkF m 6 #[.val (.int p1), .val (.int p2), .val (.int p3), .val (.ref d_p1), .unset, .unset, .unset, .unset, .unset, .unset, .unset, .unset] [(.int p2)])) rfl (by rw [hml]; rfl) (argsL := [(.int p2)]) (rest := []) (lenOf pd_rm0_0 rfl) rfl (by show 2 * 0 + _ ≤ _; exact Nat.le_of_eq rfl) (hb hby at_6) (fun _ _ => ⟨rfl, hE1, (by decide : 0 + 0 ≤ _), (by decide : 0 + 0 ≤ _)⟩)
  dsimp only [Pt.U, Pt.locs, Pt.cells, Pt.slots] at X2 l2 y2 z2 st2 hQ2
  subst l2 y2 z2
  obtain ⟨rfl, N2q, hE2⟩ := hQ2
  have N2 := Fr.app N1 N2q
  have pre3 : ∀ tt, Steps p.tables e below (T2.setTop (mkF m 16 #[.val (.int p1), .val (.int p2), .val (.int p3), .val (.ref d_p1), .val (.ref d_p2), .unset, .unset, .unset, .unset, .unset, .unset, .unset] [(.int ((p1 >>> ((1 : Int32) &&& 31)) &&& (1 : Int32)))])) tt → Steps p.tables e below (s₁.setTop (entryFrame m #[(.int p1), (.int p2), (.int p3)] maxLocals)) tt := by
    intro tt kt
    refine pre0 tt ?_
    show Steps p.tables e below (s₁.setTop (mkF m 0 #[.val (.int p1), .val (.int p2), .val (.int p3), .unset, .unset, .unset, .unset, .unset, .unset, .unset, .unset, .unset] [])) _
    refine XS.iloadN X0.here hx rfl (hb hby at_0) rfl ?_
    show Steps p.tables e below (s₁.setTop (mkF m 1 #[.val (.int p1), .val (.int p2), .val (.int p3), .unset, .unset, .unset, .unset, .unset, .unset, .unset, .unset, .unset] [(.int p1)])) _
    refine st1 _ ?_
    show Steps p.tables e below (T1.setTop (mkF m 4 #[.val (.int p1), .val (.int p2), .val (.int p3), .unset, .unset, .unset, .unset, .unset, .unset, .unset, .unset, .unset] [(.ref d_p1)])) _
    refine XS.astoreN X1.here hx rfl (hb hby at_4) rfl rfl (l' := #[.val (.int p1), .val (.int p2), .val (.int p3), .val (.ref d_p1), .unset, .unset, .unset, .unset, .unset, .unset, .unset, .unset]) rfl ?_
    show Steps p.tables e below (T1.setTop (mkF m 5 #[.val (.int p1), .val (.int p2), .val (.int p3), .val (.ref d_p1), .unset, .unset, .unset, .unset, .unset, .unset, .unset, .unset] [])) _
    refine XS.iloadN X1.here hx rfl (hb hby at_5) rfl ?_
    show Steps p.tables e below (T1.setTop (mkF m 6 #[.val (.int p1), .val (.int p2), .val (.int p3), .val (.ref d_p1), .unset, .unset, .unset, .unset, .unset, .unset, .unset, .unset] [(.int p2)])) _
    refine st2 _ ?_
    show Steps p.tables e below (T2.setTop (mkF m 9 #[.val (.int p1), .val (.int p2), .val (.int p3), .val (.ref d_p1), .unset, .unset, .unset, .unset, .unset, .unset, .unset, .unset] [(.ref d_p2)])) _
    refine XS.astore X2.here hx rfl (hb hby at_9) rfl rfl (l' := #[.val (.int p1), .val (.int p2), .val (.int p3), .val (.ref d_p1), .val (.ref d_p2), .unset, .unset, .unset, .unset, .unset, .unset, .unset]) rfl ?_
    show Steps p.tables e below (T2.setTop (mkF m 11 #[.val (.int p1), .val (.int p2), .val (.int p3), .val (.ref d_p1), .val (.ref d_p2), .unset, .unset, .unset, .unset, .unset, .unset, .unset] [])) _
    refine XS.iloadN X2.here hx rfl (hb hby at_11) rfl ?_
    show Steps p.tables e below (T2.setTop (mkF m 12 #[.val (.int p1), .val (.int p2), .val (.int p3), .val (.ref d_p1), .val (.ref d_p2), .unset, .unset, .unset, .unset, .unset, .unset, .unset] [(.int p1)])) _
    refine XS.iconst X2.here hx rfl (hb hby at_12) ?_
    show Steps p.tables e below (T2.setTop (mkF m 13 #[.val (.int p1), .val (.int p2), .val (.int p3), .val (.ref d_p1), .val (.ref d_p2), .unset, .unset, .unset, .unset, .unset, .unset, .unset] [(.int (1 : Int32)), (.int p1)])) _
    refine XS.ishr X2.here hx rfl (hb hby at_13) rfl ?_
    show Steps p.tables e below (T2.setTop (mkF m 14 #[.val (.int p1), .val (.int p2), .val (.int p3), .val (.ref d_p1), .val (.ref d_p2), .unset, .unset, .unset, .unset, .unset, .unset, .unset] [(.int (p1 >>> ((1 : Int32) &&& 31)))])) _
    refine XS.iconst X2.here hx rfl (hb hby at_14) ?_
    show Steps p.tables e below (T2.setTop (mkF m 15 #[.val (.int p1), .val (.int p2), .val (.int p3), .val (.ref d_p1), .val (.ref d_p2), .unset, .unset, .unset, .unset, .unset, .unset, .unset] [(.int (1 : Int32)), (.int (p1 >>> ((1 : Int32) &&& 31)))])) _
    refine XS.iand X2.here hx rfl (hb hby at_15) rfl ?_
    exact kt
  by_cases c16_4 : ((p1 >>> ((1 : Int32) &&& 31)) &&& (1 : Int32)) = (0 : Int32)
  · have pre5 : ∀ tt, Steps p.tables e below (T2.setTop (mkF m 31 #[.val (.int p1), .val (.int p2), .val (.int p3), .val (.ref d_p1), .val (.ref d_p2), .val (.int (0 : Int32)), .unset, .unset, .unset, .unset, .unset, .unset] [(.int ((p2 >>> ((1 : Int32) &&& 31)) &&& (1 : Int32)))])) tt → Steps p.tables e below (s₁.setTop (entryFrame m #[(.int p1), (.int p2), (.int p3)] maxLocals)) tt := by
      intro tt kt
      refine pre3 tt ?_
      show Steps p.tables e below (T2.setTop (mkF m 16 #[.val (.int p1), .val (.int p2), .val (.int p3), .val (.ref d_p1), .val (.ref d_p2), .unset, .unset, .unset, .unset, .unset, .unset, .unset] [(.int ((p1 >>> ((1 : Int32) &&& 31)) &&& (1 : Int32)))])) _
      refine XS.ifYes X2.here hx rfl (pc0 := 16) (pc' := 23) rfl (hb hby at_16) rfl ((if0 _ _).trans (teq c16_4).1) (by decide) (by decide) ?_
      show Steps p.tables e below (T2.setTop (mkF m 23 #[.val (.int p1), .val (.int p2), .val (.int p3), .val (.ref d_p1), .val (.ref d_p2), .unset, .unset, .unset, .unset, .unset, .unset, .unset] [])) _
      refine XS.iconst X2.here hx rfl (hb hby at_23) ?_
      show Steps p.tables e below (T2.setTop (mkF m 24 #[.val (.int p1), .val (.int p2), .val (.int p3), .val (.ref d_p1), .val (.ref d_p2), .unset, .unset, .unset, .unset, .unset, .unset, .unset] [(.int (0 : Int32))])) _
      refine XS.istore X2.here hx rfl (hb hby at_24) rfl (l' := #[.val (.int p1), .val (.int p2), .val (.int p3), .val (.ref d_p1), .val (.ref d_p2), .val (.int (0 : Int32)), .unset, .unset, .unset, .unset, .unset, .unset]) rfl ?_
      show Steps p.tables e below (T2.setTop (mkF m 26 #[.val (.int p1), .val (.int p2), .val (.int p3), .val (.ref d_p1), .val (.ref d_p2), .val (.int (0 : Int32)), .unset, .unset, .unset, .unset, .unset, .unset] [])) _
      refine XS.iloadN X2.here hx rfl (hb hby at_26) rfl ?_
      show Steps p.tables e below (T2.setTop (mkF m 27 #[.val (.int p1), .val (.int p2), .val (.int p3), .val (.ref d_p1), .val (.ref d_p2), .val (.int (0 : Int32)), .unset, .unset, .unset, .unset, .unset, .unset] [(.int p2)])) _
      refine XS.iconst X2.here hx rfl (hb hby at_27) ?_
      show Steps p.tables e below (T2.setTop (mkF m 28 #[.val (.int p1), .val (.int p2), .val (.int p3), .val (.ref d_p1), .val (.ref d_p2), .val (.int (0 : Int32)), .unset, .unset, .unset, .unset, .unset, .unset] [(.int (1 : Int32)), (.int p2)])) _
      refine XS.ishr X2.here hx rfl (hb hby at_28) rfl ?_
      show Steps p.tables e below (T2.setTop (mkF m 29 #[.val (.int p1), .val (.int p2), .val (.int p3), .val (.ref d_p1), .val (.ref d_p2), .val (.int (0 : Int32)), .unset, .unset, .unset, .unset, .unset, .unset] [(.int (p2 >>> ((1 : Int32) &&& 31)))])) _
      refine XS.iconst X2.here hx rfl (hb hby at_29) ?_
      show Steps p.tables e below (T2.setTop (mkF m 30 #[.val (.int p1), .val (.int p2), .val (.int p3), .val (.ref d_p1), .val (.ref d_p2), .val (.int (0 : Int32)), .unset, .unset, .unset, .unset, .unset, .unset] [(.int (1 : Int32)), (.int (p2 >>> ((1 : Int32) &&& 31)))])) _
      refine XS.iand X2.here hx rfl (hb hby at_30) rfl ?_
      exact kt
    by_cases c31_6 : ((p2 >>> ((1 : Int32) &&& 31)) &&& (1 : Int32)) = (0 : Int32)
    · obtain ⟨ro, hro⟩ : ∃ z, z = own_pick ((p3 &&& (2147483647 : Int32)) % (6 : Int32)) w_ID w_NAME w_PATH w_CREATED_AT w_UPDATED_AT w_LAST_ACTIVITY_AT := ⟨_, rfl⟩
      have E_ro := own_epick (i := (p3 &&& (2147483647 : Int32)) % (6 : Int32)) E_ID E_NAME E_PATH E_CREATED_AT E_UPDATED_AT E_LAST_ACTIVITY_AT
      rw [← hro] at E_ro
      obtain ⟨_, _, ⟨T7, L7, k7, n7⟩, -, X7, ⟨Lc7, hQ7, l7, y7, z7⟩, st7⟩ := Jvm.LawKit.callS X2 hx (y := (⟨"com/example/wee_forge/weeforge/model/ProjectFilterSortPinLaw", "order", "(I)Lcom/example/wee_forge/weeforge/model/ProjectOrder;"⟩ : MethodName)) hown (mvT hZ (hw _ (List.mem_of_getElem? (i := 9) rfl))) (mvT hZ (hw _ (List.mem_of_getElem? (i := 10) rfl))) (mvT hZ (hw _ (List.mem_of_getElem? (i := 2) rfl))) (mvT hZ (hw _ (List.mem_of_getElem? (i := 11) rfl))) (by decide) (backOf (W := 0) (rmO l Z a0 hw [] p3 w_ID w_NAME w_PATH w_CREATED_AT w_UPDATED_AT w_LAST_ACTIVITY_AT ro h0 n0 Z0 S_ID S_NAME S_PATH S_CREATED_AT S_UPDATED_AT S_LAST_ACTIVITY_AT hro) hZ (hw _ (List.mem_of_getElem? (i := 11) rfl)) (hw _ (List.mem_of_getElem? (i := 2) rfl)) (by decide) (by decide)) (g := (mkF m 42 #[.val (.int p1), .val (.int p2), .val (.int p3), .val (.ref d_p1), .val (.ref d_p2), .val (.int (0 : Int32)), .val (.int (0 : Int32)), .unset, .unset, .unset, .unset, .unset] [(.int p3)])) rfl (by rw [hml]; rfl) (argsL := [(.int p3)]) (rest := []) (lenOf pd_rm0_1 rfl) rfl (by show 2 * 0 + _ ≤ _; exact Nat.le_of_eq rfl) (hb hby at_42) (fun _ _ => ⟨rfl, hE2, (by decide : 0 + 0 ≤ _), (by decide : 0 + 0 ≤ _)⟩)
      dsimp only [Pt.U, Pt.locs, Pt.cells, Pt.slots] at X7 l7 y7 z7 st7 hQ7
      subst l7 y7 z7
      obtain ⟨rfl, N7q, hE7⟩ := hQ7
      have N7 := Fr.app N2 N7q
      obtain ⟨T8, h8, X8, e8, E8, A8, D8, -, st8⟩ := newO X7 hx hZ hown (hw _ (List.mem_of_getElem? (i := 16) rfl)) (hw _ (List.mem_of_getElem? (i := 17) rfl)) (hw _ (List.mem_of_getElem? (i := 18) rfl)) hE7 (g := (mkF m 47 #[.val (.int p1), .val (.int p2), .val (.int p3), .val (.ref d_p1), .val (.ref d_p2), .val (.int (0 : Int32)), .val (.int (0 : Int32)), .val (.ref ro), .unset, .unset, .unset, .unset] [])) rfl (hb hby at_47) (by decide) (by decide)
      obtain ⟨b8, g8⟩ : ∃ z, z = h0.size := ⟨_, rfl⟩
      rw [← g8] at A8 D8 st8
      have g_b8 : n0 ≤ b8 := Nat.le_trans Z0 (Nat.le_of_eq g8.symm)
      have F_searchTerms_b8 : Fld Z h8 b8 "com/example/wee_forge/weeforge/model/ProjectFilter" "searchTerms" "Ljava/util/List;" .null := D8 (Or.inl (hw _ (List.mem_of_getElem? (i := 32) rfl))) (ty := (.object "java/util/List")) (by decide)
      have F_topics_b8 : Fld Z h8 b8 "com/example/wee_forge/weeforge/model/ProjectFilter" "topics" "Ljava/util/List;" .null := D8 (Or.inl (hw _ (List.mem_of_getElem? (i := 34) rfl))) (ty := (.object "java/util/List")) (by decide)
      have F_lastActivity_b8 : Fld Z h8 b8 "com/example/wee_forge/weeforge/model/ProjectFilter" "lastActivity" "Lcom/example/wee_forge/weeforge/model/TimeRange;" .null := D8 (Or.inl (hw _ (List.mem_of_getElem? (i := 39) rfl))) (ty := (.object "com/example/wee_forge/weeforge/model/TimeRange")) (by decide)
      have F_updated_b8 : Fld Z h8 b8 "com/example/wee_forge/weeforge/model/ProjectFilter" "updated" "Lcom/example/wee_forge/weeforge/model/TimeRange;" .null := D8 (Or.inl (hw _ (List.mem_of_getElem? (i := 41) rfl))) (ty := (.object "com/example/wee_forge/weeforge/model/TimeRange")) (by decide)
      have F_idAfter_b8 : Fld Z h8 b8 "com/example/wee_forge/weeforge/model/ProjectFilter" "idAfter" "Ljava/util/OptionalLong;" .null := D8 (Or.inl (hw _ (List.mem_of_getElem? (i := 48) rfl))) (ty := (.object "java/util/OptionalLong")) (by decide)
      have F_idBefore_b8 : Fld Z h8 b8 "com/example/wee_forge/weeforge/model/ProjectFilter" "idBefore" "Ljava/util/OptionalLong;" .null := D8 (Or.inl (hw _ (List.mem_of_getElem? (i := 50) rfl))) (ty := (.object "java/util/OptionalLong")) (by decide)
      have F_orderBy_b8 : Fld Z h8 b8 "com/example/wee_forge/weeforge/model/ProjectFilter" "orderBy" "Lcom/example/wee_forge/weeforge/model/ProjectOrder;" .null := D8 (Or.inl (hw _ (List.mem_of_getElem? (i := 54) rfl))) (ty := (.object "com/example/wee_forge/weeforge/model/ProjectOrder")) (by decide)
      have F_sort_b8 : Fld Z h8 b8 "com/example/wee_forge/weeforge/model/ProjectFilter" "sort" "Lcom/example/wee_forge/weeforge/model/SortDirection;" .null := D8 (Or.inl (hw _ (List.mem_of_getElem? (i := 57) rfl))) (ty := (.object "com/example/wee_forge/weeforge/model/SortDirection")) (by decide)
      have F_starredOnly_b8 : Fld Z h8 b8 "com/example/wee_forge/weeforge/model/ProjectFilter" "starredOnly" "Z" (.int (0 : Int32)) := D8 (Or.inl (hw _ (List.mem_of_getElem? (i := 94) rfl))) (ty := .boolean) (by decide)
      obtain ⟨_, _, ⟨T9, L9, k9, n9⟩, -, X9, ⟨Lc9, hQ9, l9, y9, z9⟩, st9⟩ := X8.specialBack hx (y := (⟨"com/example/wee_forge/weeforge/model/ProjectFilter", "<init>", "()V"⟩ : MethodName)) rfl hown (mvT hZ (hw _ (List.mem_of_getElem? (i := 19) rfl))) (mvT hZ (hw _ (List.mem_of_getElem? (i := 20) rfl))) (mvT hZ (hw _ (List.mem_of_getElem? (i := 21) rfl))) (by decide) (backOf (W := 1) (rmC l Z a0 hw [] b8 w_ANY w_CREATED_AT w_DESC wEL wOL h8 n0 (Nat.le_trans Z0 E8.1) A8 F_searchTerms_b8 F_topics_b8 F_lastActivity_b8 F_updated_b8 F_idAfter_b8 F_idBefore_b8 F_orderBy_b8 F_sort_b8 F_starredOnly_b8 g_b8 (Sta.ext E8 S_ANY) (Sta.ext E8 S_CREATED_AT) (Sta.ext E8 S_DESC) (Sta.ext E8 S_EL) (Sta.ext E8 S_OL)) hZ (hw _ (List.mem_of_getElem? (i := 21) rfl)) (hw _ (List.mem_of_getElem? (i := 18) rfl)) (by decide) (by decide)) (g := (mkF m 51 #[.val (.int p1), .val (.int p2), .val (.int p3), .val (.ref d_p1), .val (.ref d_p2), .val (.int (0 : Int32)), .val (.int (0 : Int32)), .val (.ref ro), .unset, .unset, .unset, .unset] [(.ref b8), (.ref b8)])) rfl (by rw [hml]; rfl) (Steps.refl _) (a := b8) (argsL := []) (rest := [(.ref b8)]) (lenOf pd_rm0_2 rfl) rfl (by show 2 * 0 + _ ≤ _; exact Nat.le_of_eq rfl) (hb hby at_51) (fun _ _ => ⟨rfl, e8, (by decide : 1 + 0 ≤ _), (by decide : 12 + 0 ≤ _)⟩)
      dsimp only [Pt.U, Pt.locs, Pt.cells, Pt.slots] at X9 l9 y9 z9 st9 hQ9
      subst l9 y9 z9
      obtain ⟨rfl, N9q, K9, Ei9, Fs9, Fo9, Fb9⟩ := hQ9
      have N9 := Fr.app N7 N9q
      obtain ⟨T10, X10, e10, st10⟩ := getS2 X9 hx hZ hown (host := "") (Or.inl (hw _ (List.mem_of_getElem? (i := 58) rfl))) Via.refl rfl (own_staK (Sta.ext E8 S_CREATED_AT) K9 (allS ⟨_, A8⟩ all0)) (g := (mkF m 56 #[.val (.int p1), .val (.int p2), .val (.int p3), .val (.ref d_p1), .val (.ref d_p2), .val (.int (0 : Int32)), .val (.int (0 : Int32)), .val (.ref ro), .val (.ref b8), .unset, .unset, .unset] [])) rfl (hb hby at_56)
      obtain ⟨cq11, kq11, q11a, q11b, q11c⟩ := isOf hZ e10 Ei9
      obtain ⟨_, _, ⟨T11, L11, k11, n11⟩, -, X11, hSb11, hgr11, ⟨Lc11, hQ11, l11, y11, z11⟩, st11⟩ := X10.virtualBackS hx (y := (⟨"com/example/wee_forge/weeforge/model/ProjectFilter", "sort", "(Lcom/example/wee_forge/weeforge/model/SortDirection;)Lcom/example/wee_forge/weeforge/model/ProjectFilter;"⟩ : MethodName)) (z := (⟨"com/example/wee_forge/weeforge/model/ProjectFilter", "sort", "(Lcom/example/wee_forge/weeforge/model/SortDirection;)Lcom/example/wee_forge/weeforge/model/ProjectFilter;"⟩ : MethodName)) hown (mvT hZ (hw _ (List.mem_of_getElem? (i := 59) rfl))) (mvT hZ (hw _ (List.mem_of_getElem? (i := 60) rfl))) (notFace_of_selects (args := #[]) (mvT hZ (hw _ (List.mem_of_getElem? (i := 62) rfl)))) (mvT hZ (hw _ (List.mem_of_getElem? (i := 62) rfl))) (mvT hZ (hw _ (List.mem_of_getElem? (i := 61) rfl))) (by decide) (backOfS (W := 0) (rm_sort l Z a0 hw [] b8 d_p1 w_DESC w_CREATED_AT (0 : Int32) T9.heap n0 (Nat.le_trans (Nat.le_trans Z0 E8.1) K9.1) Ei9 Fs9 Fo9 Fb9 g_b8 ((Exa.ext E8 E_d_p1).keep K9)) hZ (hw _ (List.mem_of_getElem? (i := 63) rfl)) (hw _ (List.mem_of_getElem? (i := 18) rfl)) (by decide) (by decide)) q11a q11c (g := (mkF m 81 #[.val (.int p1), .val (.int p2), .val (.int p3), .val (.ref d_p1), .val (.ref d_p2), .val (.int (0 : Int32)), .val (.int (0 : Int32)), .val (.ref ro), .val (.ref b8), .val (.ref w_CREATED_AT), .unset, .unset] [(.ref d_p1), (.ref b8)])) rfl (by rw [hml]; rfl) (Steps.refl _) (argsL := [(.ref d_p1)]) (rest := []) (lenOf pd_rm0_3 rfl) rfl (by show 2 * 0 + _ ≤ _; exact Nat.le_of_eq rfl) (hb hby at_81) (fun _ _ => ⟨rfl, e10, (by decide : 1 + 2 ≤ _), (by decide : 12 + 20 ≤ _)⟩)
      dsimp only [Pt.U, Pt.locs, Pt.cells, Pt.slots] at X11 l11 y11 z11 st11 hQ11 hSb11 hgr11
      subst l11 y11 z11
      obtain ⟨X11, hS, hZ, hown⟩ := rebS hS (by rw [e10]; exact (Nat.le_trans (Nat.le_trans hk E8.1) K9.1)) X11 hSb11 hgr11 hZ hown
      obtain ⟨rfl, N11q, K11, Ei11, Fs11, Fo11, Fb11⟩ := hQ11
      have N11 := Fr.app N9 N11q
      obtain ⟨cq12, kq12, q12a, q12b, q12c⟩ := isOf hZ rfl Ei11
      obtain ⟨_, _, ⟨T12, L12, k12, n12⟩, -, X12, ⟨Lc12, hQ12, l12, y12, z12⟩, st12⟩ := X11.virtualBack hx (y := (⟨"com/example/wee_forge/weeforge/model/ProjectFilter", "sort", "()Lcom/example/wee_forge/weeforge/model/SortDirection;"⟩ : MethodName)) (z := (⟨"com/example/wee_forge/weeforge/model/ProjectFilter", "sort", "()Lcom/example/wee_forge/weeforge/model/SortDirection;"⟩ : MethodName)) hown (mvT hZ (hw _ (List.mem_of_getElem? (i := 78) rfl))) (mvT hZ (hw _ (List.mem_of_getElem? (i := 79) rfl))) (notFace_of_selects (args := #[]) (mvT hZ (hw _ (List.mem_of_getElem? (i := 81) rfl)))) (mvT hZ (hw _ (List.mem_of_getElem? (i := 81) rfl))) (mvT hZ (hw _ (List.mem_of_getElem? (i := 80) rfl))) (by decide) (backOf (W := 0) (rmg_sort l Z a0 hw [] b8 d_p1 T11.heap n0 (Nat.le_trans (Nat.le_trans (Nat.le_trans Z0 E8.1) K9.1) K11.1) Fs11) hZ (hw _ (List.mem_of_getElem? (i := 82) rfl)) (hw _ (List.mem_of_getElem? (i := 18) rfl)) (by decide) (by decide)) q12a q12c (g := (mkF m 97 #[.val (.int p1), .val (.int p2), .val (.int p3), .val (.ref d_p1), .val (.ref d_p2), .val (.int (0 : Int32)), .val (.int (0 : Int32)), .val (.ref ro), .val (.ref b8), .val (.ref w_CREATED_AT), .val (.ref b8), .unset] [(.ref b8)])) rfl (by rw [hml]; rfl) (Steps.refl _) (argsL := []) (rest := []) (lenOf pd_rm0_4 rfl) rfl (by show 2 * 0 + _ ≤ _; exact Nat.le_of_eq rfl) (hb hby at_97) (fun _ _ => ⟨rfl, rfl, (by decide : 3 + 0 ≤ _), (by decide : 32 + 0 ≤ _)⟩)
      dsimp only [Pt.U, Pt.locs, Pt.cells, Pt.slots] at X12 l12 y12 z12 st12 hQ12
      subst l12 y12 z12
      obtain ⟨rfl, N12q, hE12⟩ := hQ12
      have N12 := Fr.app N11 N12q
      obtain ⟨cq13, kq13, q13a, q13b, q13c⟩ := isOf hZ hE12 Ei11
      obtain ⟨_, _, ⟨T13, L13, k13, n13⟩, -, X13, ⟨Lc13, hQ13, l13, y13, z13⟩, st13⟩ := X12.virtualBack hx (y := (⟨"com/example/wee_forge/weeforge/model/ProjectFilter", "orderBy", "()Lcom/example/wee_forge/weeforge/model/ProjectOrder;"⟩ : MethodName)) (z := (⟨"com/example/wee_forge/weeforge/model/ProjectFilter", "orderBy", "()Lcom/example/wee_forge/weeforge/model/ProjectOrder;"⟩ : MethodName)) hown (mvT hZ (hw _ (List.mem_of_getElem? (i := 83) rfl))) (mvT hZ (hw _ (List.mem_of_getElem? (i := 84) rfl))) (notFace_of_selects (args := #[]) (mvT hZ (hw _ (List.mem_of_getElem? (i := 86) rfl)))) (mvT hZ (hw _ (List.mem_of_getElem? (i := 86) rfl))) (mvT hZ (hw _ (List.mem_of_getElem? (i := 85) rfl))) (by decide) (backOf (W := 0) (rmg_orderBy l Z a0 hw [] b8 w_CREATED_AT T11.heap n0 (Nat.le_trans (Nat.le_trans (Nat.le_trans Z0 E8.1) K9.1) K11.1) Fo11) hZ (hw _ (List.mem_of_getElem? (i := 87) rfl)) (hw _ (List.mem_of_getElem? (i := 18) rfl)) (by decide) (by decide)) q13a q13c (g := (mkF m 143 #[.val (.int p1), .val (.int p2), .val (.int p3), .val (.ref d_p1), .val (.ref d_p2), .val (.int (0 : Int32)), .val (.int (0 : Int32)), .val (.ref ro), .val (.ref b8), .val (.ref w_CREATED_AT), .val (.ref b8), .unset] [(.ref b8)])) rfl (by rw [hml]; rfl) (Steps.refl _) (argsL := []) (rest := []) (lenOf pd_rm0_5 rfl) rfl (by show 2 * 0 + _ ≤ _; exact Nat.le_of_eq rfl) (hb hby at_143) (fun _ _ => ⟨rfl, hE12, (by decide : 3 + 0 ≤ _), (by decide : 32 + 0 ≤ _)⟩)
      dsimp only [Pt.U, Pt.locs, Pt.cells, Pt.slots] at X13 l13 y13 z13 st13 hQ13
      subst l13 y13 z13
      obtain ⟨rfl, N13q, hE13⟩ := hQ13
      have N13 := Fr.app N12 N13q
      obtain ⟨cq14, kq14, q14a, q14b, q14c⟩ := isOf hZ hE13 Ei11
      obtain ⟨_, _, ⟨T14, L14, k14, n14⟩, -, X14, ⟨Lc14, hQ14, l14, y14, z14⟩, st14⟩ := X13.virtualBack hx (y := (⟨"com/example/wee_forge/weeforge/model/ProjectFilter", "starredOnly", "()Z"⟩ : MethodName)) (z := (⟨"com/example/wee_forge/weeforge/model/ProjectFilter", "starredOnly", "()Z"⟩ : MethodName)) hown (mvT hZ (hw _ (List.mem_of_getElem? (i := 88) rfl))) (mvT hZ (hw _ (List.mem_of_getElem? (i := 89) rfl))) (notFace_of_selects (args := #[]) (mvT hZ (hw _ (List.mem_of_getElem? (i := 91) rfl)))) (mvT hZ (hw _ (List.mem_of_getElem? (i := 91) rfl))) (mvT hZ (hw _ (List.mem_of_getElem? (i := 90) rfl))) (by decide) (backOf (W := 0) (rmg_starredOnly l Z a0 hw [] b8 (0 : Int32) T11.heap n0 (Nat.le_trans (Nat.le_trans (Nat.le_trans Z0 E8.1) K9.1) K11.1) Fb11 (by decide)) hZ (hw _ (List.mem_of_getElem? (i := 92) rfl)) (hw _ (List.mem_of_getElem? (i := 18) rfl)) (by decide) (by decide)) q14a q14c (g := (mkF m 153 #[.val (.int p1), .val (.int p2), .val (.int p3), .val (.ref d_p1), .val (.ref d_p2), .val (.int (0 : Int32)), .val (.int (0 : Int32)), .val (.ref ro), .val (.ref b8), .val (.ref w_CREATED_AT), .val (.ref b8), .unset] [(.ref b8)])) rfl (by rw [hml]; rfl) (Steps.refl _) (argsL := []) (rest := []) (lenOf pd_rm0_6 rfl) rfl (by show 2 * 0 + _ ≤ _; exact Nat.le_of_eq rfl) (hb hby at_153) (fun _ _ => ⟨rfl, hE13, (by decide : 3 + 0 ≤ _), (by decide : 32 + 0 ≤ _)⟩)
      dsimp only [Pt.U, Pt.locs, Pt.cells, Pt.slots] at X14 l14 y14 z14 st14 hQ14
      subst l14 y14 z14
      obtain ⟨rfl, N14q, hE14⟩ := hQ14
      have N14 := Fr.app N13 N14q
      have pre15 : ∀ tt, Steps p.tables e below (T14.setTop (mkF m 164 #[.val (.int p1), .val (.int p2), .val (.int p3), .val (.ref d_p1), .val (.ref d_p2), .val (.int (0 : Int32)), .val (.int (0 : Int32)), .val (.ref ro), .val (.ref b8), .val (.ref w_CREATED_AT), .val (.ref b8), .unset] [(.int (1 : Int32))])) tt → Steps p.tables e below (s₁.setTop (entryFrame m #[(.int p1), (.int p2), (.int p3)] maxLocals)) tt := by
        intro tt kt
        refine pre5 tt ?_
        show Steps p.tables e below (T2.setTop (mkF m 31 #[.val (.int p1), .val (.int p2), .val (.int p3), .val (.ref d_p1), .val (.ref d_p2), .val (.int (0 : Int32)), .unset, .unset, .unset, .unset, .unset, .unset] [(.int ((p2 >>> ((1 : Int32) &&& 31)) &&& (1 : Int32)))])) _
        refine XS.ifYes X2.here hx rfl (pc0 := 31) (pc' := 38) rfl (hb hby at_31) rfl ((if0 _ _).trans (teq c31_6).1) (by decide) (by decide) ?_
        show Steps p.tables e below (T2.setTop (mkF m 38 #[.val (.int p1), .val (.int p2), .val (.int p3), .val (.ref d_p1), .val (.ref d_p2), .val (.int (0 : Int32)), .unset, .unset, .unset, .unset, .unset, .unset] [])) _
        refine XS.iconst X2.here hx rfl (hb hby at_38) ?_
        show Steps p.tables e below (T2.setTop (mkF m 39 #[.val (.int p1), .val (.int p2), .val (.int p3), .val (.ref d_p1), .val (.ref d_p2), .val (.int (0 : Int32)), .unset, .unset, .unset, .unset, .unset, .unset] [(.int (0 : Int32))])) _
        refine XS.istore X2.here hx rfl (hb hby at_39) rfl (l' := #[.val (.int p1), .val (.int p2), .val (.int p3), .val (.ref d_p1), .val (.ref d_p2), .val (.int (0 : Int32)), .val (.int (0 : Int32)), .unset, .unset, .unset, .unset, .unset]) rfl ?_
        show Steps p.tables e below (T2.setTop (mkF m 41 #[.val (.int p1), .val (.int p2), .val (.int p3), .val (.ref d_p1), .val (.ref d_p2), .val (.int (0 : Int32)), .val (.int (0 : Int32)), .unset, .unset, .unset, .unset, .unset] [])) _
        refine XS.iloadN X2.here hx rfl (hb hby at_41) rfl ?_
        show Steps p.tables e below (T2.setTop (mkF m 42 #[.val (.int p1), .val (.int p2), .val (.int p3), .val (.ref d_p1), .val (.ref d_p2), .val (.int (0 : Int32)), .val (.int (0 : Int32)), .unset, .unset, .unset, .unset, .unset] [(.int p3)])) _
        refine st7 _ ?_
        show Steps p.tables e below (T7.setTop (mkF m 45 #[.val (.int p1), .val (.int p2), .val (.int p3), .val (.ref d_p1), .val (.ref d_p2), .val (.int (0 : Int32)), .val (.int (0 : Int32)), .unset, .unset, .unset, .unset, .unset] [(.ref ro)])) _
        refine XS.astore X7.here hx rfl (hb hby at_45) rfl rfl (l' := #[.val (.int p1), .val (.int p2), .val (.int p3), .val (.ref d_p1), .val (.ref d_p2), .val (.int (0 : Int32)), .val (.int (0 : Int32)), .val (.ref ro), .unset, .unset, .unset, .unset]) rfl ?_
        show Steps p.tables e below (T7.setTop (mkF m 47 #[.val (.int p1), .val (.int p2), .val (.int p3), .val (.ref d_p1), .val (.ref d_p2), .val (.int (0 : Int32)), .val (.int (0 : Int32)), .val (.ref ro), .unset, .unset, .unset, .unset] [])) _
        refine st8 _ ?_
        show Steps p.tables e below (T8.setTop (mkF m 50 #[.val (.int p1), .val (.int p2), .val (.int p3), .val (.ref d_p1), .val (.ref d_p2), .val (.int (0 : Int32)), .val (.int (0 : Int32)), .val (.ref ro), .unset, .unset, .unset, .unset] [(.ref b8)])) _
        refine XS.dup X8.here hx rfl (hb hby at_50) rfl rfl ?_
        show Steps p.tables e below (T8.setTop (mkF m 51 #[.val (.int p1), .val (.int p2), .val (.int p3), .val (.ref d_p1), .val (.ref d_p2), .val (.int (0 : Int32)), .val (.int (0 : Int32)), .val (.ref ro), .unset, .unset, .unset, .unset] [(.ref b8), (.ref b8)])) _
        refine st9.trans ?_
        show Steps p.tables e below (T9.setTop (mkF m 54 #[.val (.int p1), .val (.int p2), .val (.int p3), .val (.ref d_p1), .val (.ref d_p2), .val (.int (0 : Int32)), .val (.int (0 : Int32)), .val (.ref ro), .unset, .unset, .unset, .unset] [(.ref b8)])) _
        refine XS.astore X9.here hx rfl (hb hby at_54) rfl rfl (l' := #[.val (.int p1), .val (.int p2), .val (.int p3), .val (.ref d_p1), .val (.ref d_p2), .val (.int (0 : Int32)), .val (.int (0 : Int32)), .val (.ref ro), .val (.ref b8), .unset, .unset, .unset]) rfl ?_
        show Steps p.tables e below (T9.setTop (mkF m 56 #[.val (.int p1), .val (.int p2), .val (.int p3), .val (.ref d_p1), .val (.ref d_p2), .val (.int (0 : Int32)), .val (.int (0 : Int32)), .val (.ref ro), .val (.ref b8), .unset, .unset, .unset] [])) _
        refine st10 _ ?_
        show Steps p.tables e below (T10.setTop (mkF m 59 #[.val (.int p1), .val (.int p2), .val (.int p3), .val (.ref d_p1), .val (.ref d_p2), .val (.int (0 : Int32)), .val (.int (0 : Int32)), .val (.ref ro), .val (.ref b8), .unset, .unset, .unset] [(.ref w_CREATED_AT)])) _
        refine XS.astore X10.here hx rfl (hb hby at_59) rfl rfl (l' := #[.val (.int p1), .val (.int p2), .val (.int p3), .val (.ref d_p1), .val (.ref d_p2), .val (.int (0 : Int32)), .val (.int (0 : Int32)), .val (.ref ro), .val (.ref b8), .val (.ref w_CREATED_AT), .unset, .unset]) rfl ?_
        show Steps p.tables e below (T10.setTop (mkF m 61 #[.val (.int p1), .val (.int p2), .val (.int p3), .val (.ref d_p1), .val (.ref d_p2), .val (.int (0 : Int32)), .val (.int (0 : Int32)), .val (.ref ro), .val (.ref b8), .val (.ref w_CREATED_AT), .unset, .unset] [])) _
        refine XS.iload X10.here hx rfl (hb hby at_61) rfl ?_
        show Steps p.tables e below (T10.setTop (mkF m 63 #[.val (.int p1), .val (.int p2), .val (.int p3), .val (.ref d_p1), .val (.ref d_p2), .val (.int (0 : Int32)), .val (.int (0 : Int32)), .val (.ref ro), .val (.ref b8), .val (.ref w_CREATED_AT), .unset, .unset] [(.int (0 : Int32))])) _
        refine XS.ifYes X10.here hx rfl (pc0 := 63) (pc' := 78) rfl (hb hby at_63) rfl ((if0 _ _).trans (teq (rfl : (0 : Int32) = (0 : Int32))).1) (by decide) (by decide) ?_
        show Steps p.tables e below (T10.setTop (mkF m 78 #[.val (.int p1), .val (.int p2), .val (.int p3), .val (.ref d_p1), .val (.ref d_p2), .val (.int (0 : Int32)), .val (.int (0 : Int32)), .val (.ref ro), .val (.ref b8), .val (.ref w_CREATED_AT), .unset, .unset] [])) _
        refine XS.aload X10.here hx rfl (hb hby at_78) rfl rfl ?_
        show Steps p.tables e below (T10.setTop (mkF m 80 #[.val (.int p1), .val (.int p2), .val (.int p3), .val (.ref d_p1), .val (.ref d_p2), .val (.int (0 : Int32)), .val (.int (0 : Int32)), .val (.ref ro), .val (.ref b8), .val (.ref w_CREATED_AT), .unset, .unset] [(.ref b8)])) _
        refine XS.aloadN X10.here hx rfl (hb hby at_80) rfl rfl ?_
        show Steps p.tables e below (T10.setTop (mkF m 81 #[.val (.int p1), .val (.int p2), .val (.int p3), .val (.ref d_p1), .val (.ref d_p2), .val (.int (0 : Int32)), .val (.int (0 : Int32)), .val (.ref ro), .val (.ref b8), .val (.ref w_CREATED_AT), .unset, .unset] [(.ref d_p1), (.ref b8)])) _
        refine st11.trans ?_
        show Steps p.tables e below (T11.setTop (mkF m 84 #[.val (.int p1), .val (.int p2), .val (.int p3), .val (.ref d_p1), .val (.ref d_p2), .val (.int (0 : Int32)), .val (.int (0 : Int32)), .val (.ref ro), .val (.ref b8), .val (.ref w_CREATED_AT), .unset, .unset] [(.ref b8)])) _
        refine XS.astore X11.here hx rfl (hb hby at_84) rfl rfl (l' := #[.val (.int p1), .val (.int p2), .val (.int p3), .val (.ref d_p1), .val (.ref d_p2), .val (.int (0 : Int32)), .val (.int (0 : Int32)), .val (.ref ro), .val (.ref b8), .val (.ref w_CREATED_AT), .val (.ref b8), .unset]) rfl ?_
        show Steps p.tables e below (T11.setTop (mkF m 86 #[.val (.int p1), .val (.int p2), .val (.int p3), .val (.ref d_p1), .val (.ref d_p2), .val (.int (0 : Int32)), .val (.int (0 : Int32)), .val (.ref ro), .val (.ref b8), .val (.ref w_CREATED_AT), .val (.ref b8), .unset] [])) _
        refine XS.aload X11.here hx rfl (hb hby at_86) rfl rfl ?_
        show Steps p.tables e below (T11.setTop (mkF m 88 #[.val (.int p1), .val (.int p2), .val (.int p3), .val (.ref d_p1), .val (.ref d_p2), .val (.int (0 : Int32)), .val (.int (0 : Int32)), .val (.ref ro), .val (.ref b8), .val (.ref w_CREATED_AT), .val (.ref b8), .unset] [(.ref b8)])) _
        refine XS.aload X11.here hx rfl (hb hby at_88) rfl rfl ?_
        show Steps p.tables e below (T11.setTop (mkF m 90 #[.val (.int p1), .val (.int p2), .val (.int p3), .val (.ref d_p1), .val (.ref d_p2), .val (.int (0 : Int32)), .val (.int (0 : Int32)), .val (.ref ro), .val (.ref b8), .val (.ref w_CREATED_AT), .val (.ref b8), .unset] [(.ref b8), (.ref b8)])) _
        refine Jvm.RoadKit.acmp (g := (mkF m 90 #[.val (.int p1), .val (.int p2), .val (.int p3), .val (.ref d_p1), .val (.ref d_p2), .val (.int (0 : Int32)), .val (.int (0 : Int32)), .val (.ref ro), .val (.ref b8), .val (.ref w_CREATED_AT), .val (.ref b8), .unset] [(.ref b8), (.ref b8)])) X11 hx rfl rfl rfl (pc0 := 90) (pc' := 95) (same := true) rfl (hb hby at_90) rfl (decide_eq_true rfl) (by decide) (by decide) ?_
        show Steps p.tables e below (T11.setTop (mkF m 95 #[.val (.int p1), .val (.int p2), .val (.int p3), .val (.ref d_p1), .val (.ref d_p2), .val (.int (0 : Int32)), .val (.int (0 : Int32)), .val (.ref ro), .val (.ref b8), .val (.ref w_CREATED_AT), .val (.ref b8), .unset] [])) _
        refine XS.aload X11.here hx rfl (hb hby at_95) rfl rfl ?_
        show Steps p.tables e below (T11.setTop (mkF m 97 #[.val (.int p1), .val (.int p2), .val (.int p3), .val (.ref d_p1), .val (.ref d_p2), .val (.int (0 : Int32)), .val (.int (0 : Int32)), .val (.ref ro), .val (.ref b8), .val (.ref w_CREATED_AT), .val (.ref b8), .unset] [(.ref b8)])) _
        refine st12.trans ?_
        show Steps p.tables e below (T12.setTop (mkF m 100 #[.val (.int p1), .val (.int p2), .val (.int p3), .val (.ref d_p1), .val (.ref d_p2), .val (.int (0 : Int32)), .val (.int (0 : Int32)), .val (.ref ro), .val (.ref b8), .val (.ref w_CREATED_AT), .val (.ref b8), .unset] [(.ref d_p1)])) _
        refine XS.aloadN X12.here hx rfl (hb hby at_100) rfl rfl ?_
        show Steps p.tables e below (T12.setTop (mkF m 101 #[.val (.int p1), .val (.int p2), .val (.int p3), .val (.ref d_p1), .val (.ref d_p2), .val (.int (0 : Int32)), .val (.int (0 : Int32)), .val (.ref ro), .val (.ref b8), .val (.ref w_CREATED_AT), .val (.ref b8), .unset] [(.ref d_p1), (.ref d_p1)])) _
        refine Jvm.RoadKit.acmp (g := (mkF m 101 #[.val (.int p1), .val (.int p2), .val (.int p3), .val (.ref d_p1), .val (.ref d_p2), .val (.int (0 : Int32)), .val (.int (0 : Int32)), .val (.ref ro), .val (.ref b8), .val (.ref w_CREATED_AT), .val (.ref b8), .unset] [(.ref d_p1), (.ref d_p1)])) X12 hx rfl rfl rfl (pc0 := 101) (pc' := 106) (same := true) rfl (hb hby at_101) rfl (decide_eq_true rfl) (by decide) (by decide) ?_
        show Steps p.tables e below (T12.setTop (mkF m 106 #[.val (.int p1), .val (.int p2), .val (.int p3), .val (.ref d_p1), .val (.ref d_p2), .val (.int (0 : Int32)), .val (.int (0 : Int32)), .val (.ref ro), .val (.ref b8), .val (.ref w_CREATED_AT), .val (.ref b8), .unset] [])) _
        refine XS.iload X12.here hx rfl (hb hby at_106) rfl ?_
        show Steps p.tables e below (T12.setTop (mkF m 108 #[.val (.int p1), .val (.int p2), .val (.int p3), .val (.ref d_p1), .val (.ref d_p2), .val (.int (0 : Int32)), .val (.int (0 : Int32)), .val (.ref ro), .val (.ref b8), .val (.ref w_CREATED_AT), .val (.ref b8), .unset] [(.int (0 : Int32))])) _
        refine XS.ifYes X12.here hx rfl (pc0 := 108) (pc' := 141) rfl (hb hby at_108) rfl ((if0 _ _).trans (teq (rfl : (0 : Int32) = (0 : Int32))).1) (by decide) (by decide) ?_
        show Steps p.tables e below (T12.setTop (mkF m 141 #[.val (.int p1), .val (.int p2), .val (.int p3), .val (.ref d_p1), .val (.ref d_p2), .val (.int (0 : Int32)), .val (.int (0 : Int32)), .val (.ref ro), .val (.ref b8), .val (.ref w_CREATED_AT), .val (.ref b8), .unset] [])) _
        refine XS.aload X12.here hx rfl (hb hby at_141) rfl rfl ?_
        show Steps p.tables e below (T12.setTop (mkF m 143 #[.val (.int p1), .val (.int p2), .val (.int p3), .val (.ref d_p1), .val (.ref d_p2), .val (.int (0 : Int32)), .val (.int (0 : Int32)), .val (.ref ro), .val (.ref b8), .val (.ref w_CREATED_AT), .val (.ref b8), .unset] [(.ref b8)])) _
        refine st13.trans ?_
        show Steps p.tables e below (T13.setTop (mkF m 146 #[.val (.int p1), .val (.int p2), .val (.int p3), .val (.ref d_p1), .val (.ref d_p2), .val (.int (0 : Int32)), .val (.int (0 : Int32)), .val (.ref ro), .val (.ref b8), .val (.ref w_CREATED_AT), .val (.ref b8), .unset] [(.ref w_CREATED_AT)])) _
        refine XS.aload X13.here hx rfl (hb hby at_146) rfl rfl ?_
        show Steps p.tables e below (T13.setTop (mkF m 148 #[.val (.int p1), .val (.int p2), .val (.int p3), .val (.ref d_p1), .val (.ref d_p2), .val (.int (0 : Int32)), .val (.int (0 : Int32)), .val (.ref ro), .val (.ref b8), .val (.ref w_CREATED_AT), .val (.ref b8), .unset] [(.ref w_CREATED_AT), (.ref w_CREATED_AT)])) _
        refine Jvm.RoadKit.acmp (g := (mkF m 148 #[.val (.int p1), .val (.int p2), .val (.int p3), .val (.ref d_p1), .val (.ref d_p2), .val (.int (0 : Int32)), .val (.int (0 : Int32)), .val (.ref ro), .val (.ref b8), .val (.ref w_CREATED_AT), .val (.ref b8), .unset] [(.ref w_CREATED_AT), (.ref w_CREATED_AT)])) X13 hx rfl rfl rfl (pc0 := 148) (pc' := 151) (same := true) rfl (hb hby at_148) rfl (decide_eq_true rfl) (by decide) (by decide) ?_
        show Steps p.tables e below (T13.setTop (mkF m 151 #[.val (.int p1), .val (.int p2), .val (.int p3), .val (.ref d_p1), .val (.ref d_p2), .val (.int (0 : Int32)), .val (.int (0 : Int32)), .val (.ref ro), .val (.ref b8), .val (.ref w_CREATED_AT), .val (.ref b8), .unset] [])) _
        refine XS.aload X13.here hx rfl (hb hby at_151) rfl rfl ?_
        show Steps p.tables e below (T13.setTop (mkF m 153 #[.val (.int p1), .val (.int p2), .val (.int p3), .val (.ref d_p1), .val (.ref d_p2), .val (.int (0 : Int32)), .val (.int (0 : Int32)), .val (.ref ro), .val (.ref b8), .val (.ref w_CREATED_AT), .val (.ref b8), .unset] [(.ref b8)])) _
        refine st14.trans ?_
        show Steps p.tables e below (T14.setTop (mkF m 156 #[.val (.int p1), .val (.int p2), .val (.int p3), .val (.ref d_p1), .val (.ref d_p2), .val (.int (0 : Int32)), .val (.int (0 : Int32)), .val (.ref ro), .val (.ref b8), .val (.ref w_CREATED_AT), .val (.ref b8), .unset] [(.int (0 : Int32))])) _
        refine XS.ifNo X14.here hx rfl (hb hby at_156) rfl ((if0 _ _).trans (teq (rfl : (0 : Int32) = (0 : Int32))).2) ?_
        show Steps p.tables e below (T14.setTop (mkF m 159 #[.val (.int p1), .val (.int p2), .val (.int p3), .val (.ref d_p1), .val (.ref d_p2), .val (.int (0 : Int32)), .val (.int (0 : Int32)), .val (.ref ro), .val (.ref b8), .val (.ref w_CREATED_AT), .val (.ref b8), .unset] [])) _
        refine XS.iconst X14.here hx rfl (hb hby at_159) ?_
        show Steps p.tables e below (T14.setTop (mkF m 160 #[.val (.int p1), .val (.int p2), .val (.int p3), .val (.ref d_p1), .val (.ref d_p2), .val (.int (0 : Int32)), .val (.int (0 : Int32)), .val (.ref ro), .val (.ref b8), .val (.ref w_CREATED_AT), .val (.ref b8), .unset] [(.int (1 : Int32))])) _
        refine XS.goto X14.here hx rfl (pc0 := 160) (pc' := 164) rfl (hb hby at_160) (by decide) (by decide) ?_
        exact kt
      obtain ⟨fs, hr, hrun, hended, hW⟩ := X14.leaveW hS (by rw [hE14]; exact (Nat.le_refl _)) (v := some (.int (1 : Int32))) (fun h => by rw [Bd.returns] at h; cases h)
      refine ⟨_, _, pre15 _ ?_, hrun, hended, _, _, rfl, ?_, ⟨_, rfl⟩, hW.2.1, hW.2.2.1, hW.2.2.2.mono (by decide) (by decide)⟩
      · show Steps p.tables e below (T14.setTop (mkF m 164 #[.val (.int p1), .val (.int p2), .val (.int p3), .val (.ref d_p1), .val (.ref d_p2), .val (.int (0 : Int32)), .val (.int (0 : Int32)), .val (.ref ro), .val (.ref b8), .val (.ref w_CREATED_AT), .val (.ref b8), .unset] [(.int (1 : Int32))])) _
        exact retN X14 hx (t := .boolean) Bd.returns (by simp) (hb hby at_164) hr
      · show Q0 Z h0 n0 _ T14.heap _
        rw [hE14]
        exact ⟨rfl, N14⟩
    · obtain ⟨ro, hro⟩ : ∃ z, z = own_pick ((p3 &&& (2147483647 : Int32)) % (6 : Int32)) w_ID w_NAME w_PATH w_CREATED_AT w_UPDATED_AT w_LAST_ACTIVITY_AT := ⟨_, rfl⟩
      have E_ro := own_epick (i := (p3 &&& (2147483647 : Int32)) % (6 : Int32)) E_ID E_NAME E_PATH E_CREATED_AT E_UPDATED_AT E_LAST_ACTIVITY_AT
      rw [← hro] at E_ro
      obtain ⟨_, _, ⟨T16, L16, k16, n16⟩, -, X16, ⟨Lc16, hQ16, l16, y16, z16⟩, st16⟩ := Jvm.LawKit.callS X2 hx (y := (⟨"com/example/wee_forge/weeforge/model/ProjectFilterSortPinLaw", "order", "(I)Lcom/example/wee_forge/weeforge/model/ProjectOrder;"⟩ : MethodName)) hown (mvT hZ (hw _ (List.mem_of_getElem? (i := 9) rfl))) (mvT hZ (hw _ (List.mem_of_getElem? (i := 10) rfl))) (mvT hZ (hw _ (List.mem_of_getElem? (i := 2) rfl))) (mvT hZ (hw _ (List.mem_of_getElem? (i := 11) rfl))) (by decide) (backOf (W := 0) (rmO l Z a0 hw [] p3 w_ID w_NAME w_PATH w_CREATED_AT w_UPDATED_AT w_LAST_ACTIVITY_AT ro h0 n0 Z0 S_ID S_NAME S_PATH S_CREATED_AT S_UPDATED_AT S_LAST_ACTIVITY_AT hro) hZ (hw _ (List.mem_of_getElem? (i := 11) rfl)) (hw _ (List.mem_of_getElem? (i := 2) rfl)) (by decide) (by decide)) (g := (mkF m 42 #[.val (.int p1), .val (.int p2), .val (.int p3), .val (.ref d_p1), .val (.ref d_p2), .val (.int (0 : Int32)), .val (.int (1 : Int32)), .unset, .unset, .unset, .unset, .unset] [(.int p3)])) rfl (by rw [hml]; rfl) (argsL := [(.int p3)]) (rest := []) (lenOf pd_rm0_1 rfl) rfl (by show 2 * 0 + _ ≤ _; exact Nat.le_of_eq rfl) (hb hby at_42) (fun _ _ => ⟨rfl, hE2, (by decide : 0 + 0 ≤ _), (by decide : 0 + 0 ≤ _)⟩)
      dsimp only [Pt.U, Pt.locs, Pt.cells, Pt.slots] at X16 l16 y16 z16 st16 hQ16
      subst l16 y16 z16
      obtain ⟨rfl, N16q, hE16⟩ := hQ16
      have N16 := Fr.app N2 N16q
      obtain ⟨T17, h17, X17, e17, E17, A17, D17, -, st17⟩ := newO X16 hx hZ hown (hw _ (List.mem_of_getElem? (i := 16) rfl)) (hw _ (List.mem_of_getElem? (i := 17) rfl)) (hw _ (List.mem_of_getElem? (i := 18) rfl)) hE16 (g := (mkF m 47 #[.val (.int p1), .val (.int p2), .val (.int p3), .val (.ref d_p1), .val (.ref d_p2), .val (.int (0 : Int32)), .val (.int (1 : Int32)), .val (.ref ro), .unset, .unset, .unset, .unset] [])) rfl (hb hby at_47) (by decide) (by decide)
      obtain ⟨b17, g17⟩ : ∃ z, z = h0.size := ⟨_, rfl⟩
      rw [← g17] at A17 D17 st17
      have g_b17 : n0 ≤ b17 := Nat.le_trans Z0 (Nat.le_of_eq g17.symm)
      have F_searchTerms_b17 : Fld Z h17 b17 "com/example/wee_forge/weeforge/model/ProjectFilter" "searchTerms" "Ljava/util/List;" .null := D17 (Or.inl (hw _ (List.mem_of_getElem? (i := 32) rfl))) (ty := (.object "java/util/List")) (by decide)
      have F_topics_b17 : Fld Z h17 b17 "com/example/wee_forge/weeforge/model/ProjectFilter" "topics" "Ljava/util/List;" .null := D17 (Or.inl (hw _ (List.mem_of_getElem? (i := 34) rfl))) (ty := (.object "java/util/List")) (by decide)
      have F_lastActivity_b17 : Fld Z h17 b17 "com/example/wee_forge/weeforge/model/ProjectFilter" "lastActivity" "Lcom/example/wee_forge/weeforge/model/TimeRange;" .null := D17 (Or.inl (hw _ (List.mem_of_getElem? (i := 39) rfl))) (ty := (.object "com/example/wee_forge/weeforge/model/TimeRange")) (by decide)
      have F_updated_b17 : Fld Z h17 b17 "com/example/wee_forge/weeforge/model/ProjectFilter" "updated" "Lcom/example/wee_forge/weeforge/model/TimeRange;" .null := D17 (Or.inl (hw _ (List.mem_of_getElem? (i := 41) rfl))) (ty := (.object "com/example/wee_forge/weeforge/model/TimeRange")) (by decide)
      have F_idAfter_b17 : Fld Z h17 b17 "com/example/wee_forge/weeforge/model/ProjectFilter" "idAfter" "Ljava/util/OptionalLong;" .null := D17 (Or.inl (hw _ (List.mem_of_getElem? (i := 48) rfl))) (ty := (.object "java/util/OptionalLong")) (by decide)
      have F_idBefore_b17 : Fld Z h17 b17 "com/example/wee_forge/weeforge/model/ProjectFilter" "idBefore" "Ljava/util/OptionalLong;" .null := D17 (Or.inl (hw _ (List.mem_of_getElem? (i := 50) rfl))) (ty := (.object "java/util/OptionalLong")) (by decide)
      have F_orderBy_b17 : Fld Z h17 b17 "com/example/wee_forge/weeforge/model/ProjectFilter" "orderBy" "Lcom/example/wee_forge/weeforge/model/ProjectOrder;" .null := D17 (Or.inl (hw _ (List.mem_of_getElem? (i := 54) rfl))) (ty := (.object "com/example/wee_forge/weeforge/model/ProjectOrder")) (by decide)
      have F_sort_b17 : Fld Z h17 b17 "com/example/wee_forge/weeforge/model/ProjectFilter" "sort" "Lcom/example/wee_forge/weeforge/model/SortDirection;" .null := D17 (Or.inl (hw _ (List.mem_of_getElem? (i := 57) rfl))) (ty := (.object "com/example/wee_forge/weeforge/model/SortDirection")) (by decide)
      have F_starredOnly_b17 : Fld Z h17 b17 "com/example/wee_forge/weeforge/model/ProjectFilter" "starredOnly" "Z" (.int (0 : Int32)) := D17 (Or.inl (hw _ (List.mem_of_getElem? (i := 94) rfl))) (ty := .boolean) (by decide)
      obtain ⟨_, _, ⟨T18, L18, k18, n18⟩, -, X18, ⟨Lc18, hQ18, l18, y18, z18⟩, st18⟩ := X17.specialBack hx (y := (⟨"com/example/wee_forge/weeforge/model/ProjectFilter", "<init>", "()V"⟩ : MethodName)) rfl hown (mvT hZ (hw _ (List.mem_of_getElem? (i := 19) rfl))) (mvT hZ (hw _ (List.mem_of_getElem? (i := 20) rfl))) (mvT hZ (hw _ (List.mem_of_getElem? (i := 21) rfl))) (by decide) (backOf (W := 1) (rmC l Z a0 hw [] b17 w_ANY w_CREATED_AT w_DESC wEL wOL h17 n0 (Nat.le_trans Z0 E17.1) A17 F_searchTerms_b17 F_topics_b17 F_lastActivity_b17 F_updated_b17 F_idAfter_b17 F_idBefore_b17 F_orderBy_b17 F_sort_b17 F_starredOnly_b17 g_b17 (Sta.ext E17 S_ANY) (Sta.ext E17 S_CREATED_AT) (Sta.ext E17 S_DESC) (Sta.ext E17 S_EL) (Sta.ext E17 S_OL)) hZ (hw _ (List.mem_of_getElem? (i := 21) rfl)) (hw _ (List.mem_of_getElem? (i := 18) rfl)) (by decide) (by decide)) (g := (mkF m 51 #[.val (.int p1), .val (.int p2), .val (.int p3), .val (.ref d_p1), .val (.ref d_p2), .val (.int (0 : Int32)), .val (.int (1 : Int32)), .val (.ref ro), .unset, .unset, .unset, .unset] [(.ref b17), (.ref b17)])) rfl (by rw [hml]; rfl) (Steps.refl _) (a := b17) (argsL := []) (rest := [(.ref b17)]) (lenOf pd_rm0_2 rfl) rfl (by show 2 * 0 + _ ≤ _; exact Nat.le_of_eq rfl) (hb hby at_51) (fun _ _ => ⟨rfl, e17, (by decide : 1 + 0 ≤ _), (by decide : 12 + 0 ≤ _)⟩)
      dsimp only [Pt.U, Pt.locs, Pt.cells, Pt.slots] at X18 l18 y18 z18 st18 hQ18
      subst l18 y18 z18
      obtain ⟨rfl, N18q, K18, Ei18, Fs18, Fo18, Fb18⟩ := hQ18
      have N18 := Fr.app N16 N18q
      obtain ⟨T19, X19, e19, st19⟩ := getS2 X18 hx hZ hown (host := "") (Or.inl (hw _ (List.mem_of_getElem? (i := 58) rfl))) Via.refl rfl (own_staK (Sta.ext E17 S_CREATED_AT) K18 (allS ⟨_, A17⟩ all0)) (g := (mkF m 56 #[.val (.int p1), .val (.int p2), .val (.int p3), .val (.ref d_p1), .val (.ref d_p2), .val (.int (0 : Int32)), .val (.int (1 : Int32)), .val (.ref ro), .val (.ref b17), .unset, .unset, .unset] [])) rfl (hb hby at_56)
      obtain ⟨cq20, kq20, q20a, q20b, q20c⟩ := isOf hZ e19 Ei18
      obtain ⟨_, _, ⟨T20, L20, k20, n20⟩, -, X20, hSb20, hgr20, ⟨Lc20, hQ20, l20, y20, z20⟩, st20⟩ := X19.virtualBackS hx (y := (⟨"com/example/wee_forge/weeforge/model/ProjectFilter", "sort", "(Lcom/example/wee_forge/weeforge/model/SortDirection;)Lcom/example/wee_forge/weeforge/model/ProjectFilter;"⟩ : MethodName)) (z := (⟨"com/example/wee_forge/weeforge/model/ProjectFilter", "sort", "(Lcom/example/wee_forge/weeforge/model/SortDirection;)Lcom/example/wee_forge/weeforge/model/ProjectFilter;"⟩ : MethodName)) hown (mvT hZ (hw _ (List.mem_of_getElem? (i := 59) rfl))) (mvT hZ (hw _ (List.mem_of_getElem? (i := 60) rfl))) (notFace_of_selects (args := #[]) (mvT hZ (hw _ (List.mem_of_getElem? (i := 62) rfl)))) (mvT hZ (hw _ (List.mem_of_getElem? (i := 62) rfl))) (mvT hZ (hw _ (List.mem_of_getElem? (i := 61) rfl))) (by decide) (backOfS (W := 0) (rm_sort l Z a0 hw [] b17 d_p1 w_DESC w_CREATED_AT (0 : Int32) T18.heap n0 (Nat.le_trans (Nat.le_trans Z0 E17.1) K18.1) Ei18 Fs18 Fo18 Fb18 g_b17 ((Exa.ext E17 E_d_p1).keep K18)) hZ (hw _ (List.mem_of_getElem? (i := 63) rfl)) (hw _ (List.mem_of_getElem? (i := 18) rfl)) (by decide) (by decide)) q20a q20c (g := (mkF m 81 #[.val (.int p1), .val (.int p2), .val (.int p3), .val (.ref d_p1), .val (.ref d_p2), .val (.int (0 : Int32)), .val (.int (1 : Int32)), .val (.ref ro), .val (.ref b17), .val (.ref w_CREATED_AT), .unset, .unset] [(.ref d_p1), (.ref b17)])) rfl (by rw [hml]; rfl) (Steps.refl _) (argsL := [(.ref d_p1)]) (rest := []) (lenOf pd_rm0_3 rfl) rfl (by show 2 * 0 + _ ≤ _; exact Nat.le_of_eq rfl) (hb hby at_81) (fun _ _ => ⟨rfl, e19, (by decide : 1 + 2 ≤ _), (by decide : 12 + 20 ≤ _)⟩)
      dsimp only [Pt.U, Pt.locs, Pt.cells, Pt.slots] at X20 l20 y20 z20 st20 hQ20 hSb20 hgr20
      subst l20 y20 z20
      obtain ⟨X20, hS, hZ, hown⟩ := rebS hS (by rw [e19]; exact (Nat.le_trans (Nat.le_trans hk E17.1) K18.1)) X20 hSb20 hgr20 hZ hown
      obtain ⟨rfl, N20q, K20, Ei20, Fs20, Fo20, Fb20⟩ := hQ20
      have N20 := Fr.app N18 N20q
      obtain ⟨cq21, kq21, q21a, q21b, q21c⟩ := isOf hZ rfl Ei20
      obtain ⟨_, _, ⟨T21, L21, k21, n21⟩, -, X21, ⟨Lc21, hQ21, l21, y21, z21⟩, st21⟩ := X20.virtualBack hx (y := (⟨"com/example/wee_forge/weeforge/model/ProjectFilter", "sort", "()Lcom/example/wee_forge/weeforge/model/SortDirection;"⟩ : MethodName)) (z := (⟨"com/example/wee_forge/weeforge/model/ProjectFilter", "sort", "()Lcom/example/wee_forge/weeforge/model/SortDirection;"⟩ : MethodName)) hown (mvT hZ (hw _ (List.mem_of_getElem? (i := 78) rfl))) (mvT hZ (hw _ (List.mem_of_getElem? (i := 79) rfl))) (notFace_of_selects (args := #[]) (mvT hZ (hw _ (List.mem_of_getElem? (i := 81) rfl)))) (mvT hZ (hw _ (List.mem_of_getElem? (i := 81) rfl))) (mvT hZ (hw _ (List.mem_of_getElem? (i := 80) rfl))) (by decide) (backOf (W := 0) (rmg_sort l Z a0 hw [] b17 d_p1 T20.heap n0 (Nat.le_trans (Nat.le_trans (Nat.le_trans Z0 E17.1) K18.1) K20.1) Fs20) hZ (hw _ (List.mem_of_getElem? (i := 82) rfl)) (hw _ (List.mem_of_getElem? (i := 18) rfl)) (by decide) (by decide)) q21a q21c (g := (mkF m 97 #[.val (.int p1), .val (.int p2), .val (.int p3), .val (.ref d_p1), .val (.ref d_p2), .val (.int (0 : Int32)), .val (.int (1 : Int32)), .val (.ref ro), .val (.ref b17), .val (.ref w_CREATED_AT), .val (.ref b17), .unset] [(.ref b17)])) rfl (by rw [hml]; rfl) (Steps.refl _) (argsL := []) (rest := []) (lenOf pd_rm0_4 rfl) rfl (by show 2 * 0 + _ ≤ _; exact Nat.le_of_eq rfl) (hb hby at_97) (fun _ _ => ⟨rfl, rfl, (by decide : 3 + 0 ≤ _), (by decide : 32 + 0 ≤ _)⟩)
      dsimp only [Pt.U, Pt.locs, Pt.cells, Pt.slots] at X21 l21 y21 z21 st21 hQ21
      subst l21 y21 z21
      obtain ⟨rfl, N21q, hE21⟩ := hQ21
      have N21 := Fr.app N20 N21q
      obtain ⟨cq22, kq22, q22a, q22b, q22c⟩ := isOf hZ hE21 Ei20
      obtain ⟨_, _, ⟨T22, L22, k22, n22⟩, -, X22, hSb22, hgr22, ⟨Lc22, hQ22, l22, y22, z22⟩, st22⟩ := X21.virtualBackS hx (y := (⟨"com/example/wee_forge/weeforge/model/ProjectFilter", "sort", "(Lcom/example/wee_forge/weeforge/model/SortDirection;)Lcom/example/wee_forge/weeforge/model/ProjectFilter;"⟩ : MethodName)) (z := (⟨"com/example/wee_forge/weeforge/model/ProjectFilter", "sort", "(Lcom/example/wee_forge/weeforge/model/SortDirection;)Lcom/example/wee_forge/weeforge/model/ProjectFilter;"⟩ : MethodName)) hown (mvT hZ (hw _ (List.mem_of_getElem? (i := 59) rfl))) (mvT hZ (hw _ (List.mem_of_getElem? (i := 60) rfl))) (notFace_of_selects (args := #[]) (mvT hZ (hw _ (List.mem_of_getElem? (i := 62) rfl)))) (mvT hZ (hw _ (List.mem_of_getElem? (i := 62) rfl))) (mvT hZ (hw _ (List.mem_of_getElem? (i := 61) rfl))) (by decide) (backOfS (W := 0) (rm_sort l Z a0 hw [] b17 d_p2 d_p1 w_CREATED_AT (0 : Int32) T20.heap n0 (Nat.le_trans (Nat.le_trans (Nat.le_trans Z0 E17.1) K18.1) K20.1) Ei20 Fs20 Fo20 Fb20 g_b17 (((Exa.ext E17 E_d_p2).keep K18).keep K20)) hZ (hw _ (List.mem_of_getElem? (i := 63) rfl)) (hw _ (List.mem_of_getElem? (i := 18) rfl)) (by decide) (by decide)) q22a q22c (g := (mkF m 115 #[.val (.int p1), .val (.int p2), .val (.int p3), .val (.ref d_p1), .val (.ref d_p2), .val (.int (0 : Int32)), .val (.int (1 : Int32)), .val (.ref ro), .val (.ref b17), .val (.ref w_CREATED_AT), .val (.ref b17), .unset] [(.ref d_p2), (.ref b17)])) rfl (by rw [hml]; rfl) (Steps.refl _) (argsL := [(.ref d_p2)]) (rest := []) (lenOf pd_rm0_3 rfl) rfl (by show 2 * 0 + _ ≤ _; exact Nat.le_of_eq rfl) (hb hby at_115) (fun _ _ => ⟨rfl, hE21, (by decide : 3 + 2 ≤ _), (by decide : 32 + 20 ≤ _)⟩)
      dsimp only [Pt.U, Pt.locs, Pt.cells, Pt.slots] at X22 l22 y22 z22 st22 hQ22 hSb22 hgr22
      subst l22 y22 z22
      obtain ⟨X22, hS, hZ, hown⟩ := rebS hS (by rw [hE21]; exact (Nat.le_refl _)) X22 hSb22 hgr22 hZ hown
      obtain ⟨rfl, N22q, K22, Ei22, Fs22, Fo22, Fb22⟩ := hQ22
      have N22 := Fr.app N21 N22q
      obtain ⟨cq23, kq23, q23a, q23b, q23c⟩ := isOf hZ rfl Ei22
      obtain ⟨_, _, ⟨T23, L23, k23, n23⟩, -, X23, ⟨Lc23, hQ23, l23, y23, z23⟩, st23⟩ := X22.virtualBack hx (y := (⟨"com/example/wee_forge/weeforge/model/ProjectFilter", "sort", "()Lcom/example/wee_forge/weeforge/model/SortDirection;"⟩ : MethodName)) (z := (⟨"com/example/wee_forge/weeforge/model/ProjectFilter", "sort", "()Lcom/example/wee_forge/weeforge/model/SortDirection;"⟩ : MethodName)) hown (mvT hZ (hw _ (List.mem_of_getElem? (i := 78) rfl))) (mvT hZ (hw _ (List.mem_of_getElem? (i := 79) rfl))) (notFace_of_selects (args := #[]) (mvT hZ (hw _ (List.mem_of_getElem? (i := 81) rfl)))) (mvT hZ (hw _ (List.mem_of_getElem? (i := 81) rfl))) (mvT hZ (hw _ (List.mem_of_getElem? (i := 80) rfl))) (by decide) (backOf (W := 0) (rmg_sort l Z a0 hw [] b17 d_p2 T22.heap n0 (Nat.le_trans (Nat.le_trans (Nat.le_trans (Nat.le_trans Z0 E17.1) K18.1) K20.1) K22.1) Fs22) hZ (hw _ (List.mem_of_getElem? (i := 82) rfl)) (hw _ (List.mem_of_getElem? (i := 18) rfl)) (by decide) (by decide)) q23a q23c (g := (mkF m 131 #[.val (.int p1), .val (.int p2), .val (.int p3), .val (.ref d_p1), .val (.ref d_p2), .val (.int (0 : Int32)), .val (.int (1 : Int32)), .val (.ref ro), .val (.ref b17), .val (.ref w_CREATED_AT), .val (.ref b17), .val (.ref b17)] [(.ref b17)])) rfl (by rw [hml]; rfl) (Steps.refl _) (argsL := []) (rest := []) (lenOf pd_rm0_4 rfl) rfl (by show 2 * 0 + _ ≤ _; exact Nat.le_of_eq rfl) (hb hby at_131) (fun _ _ => ⟨rfl, rfl, (by decide : 5 + 0 ≤ _), (by decide : 52 + 0 ≤ _)⟩)
      dsimp only [Pt.U, Pt.locs, Pt.cells, Pt.slots] at X23 l23 y23 z23 st23 hQ23
      subst l23 y23 z23
      obtain ⟨rfl, N23q, hE23⟩ := hQ23
      have N23 := Fr.app N22 N23q
      obtain ⟨cq24, kq24, q24a, q24b, q24c⟩ := isOf hZ hE23 Ei22
      obtain ⟨_, _, ⟨T24, L24, k24, n24⟩, -, X24, ⟨Lc24, hQ24, l24, y24, z24⟩, st24⟩ := X23.virtualBack hx (y := (⟨"com/example/wee_forge/weeforge/model/ProjectFilter", "orderBy", "()Lcom/example/wee_forge/weeforge/model/ProjectOrder;"⟩ : MethodName)) (z := (⟨"com/example/wee_forge/weeforge/model/ProjectFilter", "orderBy", "()Lcom/example/wee_forge/weeforge/model/ProjectOrder;"⟩ : MethodName)) hown (mvT hZ (hw _ (List.mem_of_getElem? (i := 83) rfl))) (mvT hZ (hw _ (List.mem_of_getElem? (i := 84) rfl))) (notFace_of_selects (args := #[]) (mvT hZ (hw _ (List.mem_of_getElem? (i := 86) rfl)))) (mvT hZ (hw _ (List.mem_of_getElem? (i := 86) rfl))) (mvT hZ (hw _ (List.mem_of_getElem? (i := 85) rfl))) (by decide) (backOf (W := 0) (rmg_orderBy l Z a0 hw [] b17 w_CREATED_AT T22.heap n0 (Nat.le_trans (Nat.le_trans (Nat.le_trans (Nat.le_trans Z0 E17.1) K18.1) K20.1) K22.1) Fo22) hZ (hw _ (List.mem_of_getElem? (i := 87) rfl)) (hw _ (List.mem_of_getElem? (i := 18) rfl)) (by decide) (by decide)) q24a q24c (g := (mkF m 143 #[.val (.int p1), .val (.int p2), .val (.int p3), .val (.ref d_p1), .val (.ref d_p2), .val (.int (0 : Int32)), .val (.int (1 : Int32)), .val (.ref ro), .val (.ref b17), .val (.ref w_CREATED_AT), .val (.ref b17), .val (.ref b17)] [(.ref b17)])) rfl (by rw [hml]; rfl) (Steps.refl _) (argsL := []) (rest := []) (lenOf pd_rm0_5 rfl) rfl (by show 2 * 0 + _ ≤ _; exact Nat.le_of_eq rfl) (hb hby at_143) (fun _ _ => ⟨rfl, hE23, (by decide : 5 + 0 ≤ _), (by decide : 52 + 0 ≤ _)⟩)
      dsimp only [Pt.U, Pt.locs, Pt.cells, Pt.slots] at X24 l24 y24 z24 st24 hQ24
      subst l24 y24 z24
      obtain ⟨rfl, N24q, hE24⟩ := hQ24
      have N24 := Fr.app N23 N24q
      obtain ⟨cq25, kq25, q25a, q25b, q25c⟩ := isOf hZ hE24 Ei22
      obtain ⟨_, _, ⟨T25, L25, k25, n25⟩, -, X25, ⟨Lc25, hQ25, l25, y25, z25⟩, st25⟩ := X24.virtualBack hx (y := (⟨"com/example/wee_forge/weeforge/model/ProjectFilter", "starredOnly", "()Z"⟩ : MethodName)) (z := (⟨"com/example/wee_forge/weeforge/model/ProjectFilter", "starredOnly", "()Z"⟩ : MethodName)) hown (mvT hZ (hw _ (List.mem_of_getElem? (i := 88) rfl))) (mvT hZ (hw _ (List.mem_of_getElem? (i := 89) rfl))) (notFace_of_selects (args := #[]) (mvT hZ (hw _ (List.mem_of_getElem? (i := 91) rfl)))) (mvT hZ (hw _ (List.mem_of_getElem? (i := 91) rfl))) (mvT hZ (hw _ (List.mem_of_getElem? (i := 90) rfl))) (by decide) (backOf (W := 0) (rmg_starredOnly l Z a0 hw [] b17 (0 : Int32) T22.heap n0 (Nat.le_trans (Nat.le_trans (Nat.le_trans (Nat.le_trans Z0 E17.1) K18.1) K20.1) K22.1) Fb22 (by decide)) hZ (hw _ (List.mem_of_getElem? (i := 92) rfl)) (hw _ (List.mem_of_getElem? (i := 18) rfl)) (by decide) (by decide)) q25a q25c (g := (mkF m 153 #[.val (.int p1), .val (.int p2), .val (.int p3), .val (.ref d_p1), .val (.ref d_p2), .val (.int (0 : Int32)), .val (.int (1 : Int32)), .val (.ref ro), .val (.ref b17), .val (.ref w_CREATED_AT), .val (.ref b17), .val (.ref b17)] [(.ref b17)])) rfl (by rw [hml]; rfl) (Steps.refl _) (argsL := []) (rest := []) (lenOf pd_rm0_6 rfl) rfl (by show 2 * 0 + _ ≤ _; exact Nat.le_of_eq rfl) (hb hby at_153) (fun _ _ => ⟨rfl, hE24, (by decide : 5 + 0 ≤ _), (by decide : 52 + 0 ≤ _)⟩)
      dsimp only [Pt.U, Pt.locs, Pt.cells, Pt.slots] at X25 l25 y25 z25 st25 hQ25
      subst l25 y25 z25
      obtain ⟨rfl, N25q, hE25⟩ := hQ25
      have N25 := Fr.app N24 N25q
      have pre26 : ∀ tt, Steps p.tables e below (T25.setTop (mkF m 164 #[.val (.int p1), .val (.int p2), .val (.int p3), .val (.ref d_p1), .val (.ref d_p2), .val (.int (0 : Int32)), .val (.int (1 : Int32)), .val (.ref ro), .val (.ref b17), .val (.ref w_CREATED_AT), .val (.ref b17), .val (.ref b17)] [(.int (1 : Int32))])) tt → Steps p.tables e below (s₁.setTop (entryFrame m #[(.int p1), (.int p2), (.int p3)] maxLocals)) tt := by
        intro tt kt
        refine pre5 tt ?_
        show Steps p.tables e below (T2.setTop (mkF m 31 #[.val (.int p1), .val (.int p2), .val (.int p3), .val (.ref d_p1), .val (.ref d_p2), .val (.int (0 : Int32)), .unset, .unset, .unset, .unset, .unset, .unset] [(.int ((p2 >>> ((1 : Int32) &&& 31)) &&& (1 : Int32)))])) _
        refine XS.ifNo X2.here hx rfl (hb hby at_31) rfl ((if0 _ _).trans (feq c31_6).1) ?_
        show Steps p.tables e below (T2.setTop (mkF m 34 #[.val (.int p1), .val (.int p2), .val (.int p3), .val (.ref d_p1), .val (.ref d_p2), .val (.int (0 : Int32)), .unset, .unset, .unset, .unset, .unset, .unset] [])) _
        refine XS.iconst X2.here hx rfl (hb hby at_34) ?_
        show Steps p.tables e below (T2.setTop (mkF m 35 #[.val (.int p1), .val (.int p2), .val (.int p3), .val (.ref d_p1), .val (.ref d_p2), .val (.int (0 : Int32)), .unset, .unset, .unset, .unset, .unset, .unset] [(.int (1 : Int32))])) _
        refine XS.goto X2.here hx rfl (pc0 := 35) (pc' := 39) rfl (hb hby at_35) (by decide) (by decide) ?_
        show Steps p.tables e below (T2.setTop (mkF m 39 #[.val (.int p1), .val (.int p2), .val (.int p3), .val (.ref d_p1), .val (.ref d_p2), .val (.int (0 : Int32)), .unset, .unset, .unset, .unset, .unset, .unset] [(.int (1 : Int32))])) _
        refine XS.istore X2.here hx rfl (hb hby at_39) rfl (l' := #[.val (.int p1), .val (.int p2), .val (.int p3), .val (.ref d_p1), .val (.ref d_p2), .val (.int (0 : Int32)), .val (.int (1 : Int32)), .unset, .unset, .unset, .unset, .unset]) rfl ?_
        show Steps p.tables e below (T2.setTop (mkF m 41 #[.val (.int p1), .val (.int p2), .val (.int p3), .val (.ref d_p1), .val (.ref d_p2), .val (.int (0 : Int32)), .val (.int (1 : Int32)), .unset, .unset, .unset, .unset, .unset] [])) _
        refine XS.iloadN X2.here hx rfl (hb hby at_41) rfl ?_
        show Steps p.tables e below (T2.setTop (mkF m 42 #[.val (.int p1), .val (.int p2), .val (.int p3), .val (.ref d_p1), .val (.ref d_p2), .val (.int (0 : Int32)), .val (.int (1 : Int32)), .unset, .unset, .unset, .unset, .unset] [(.int p3)])) _
        refine st16 _ ?_
        show Steps p.tables e below (T16.setTop (mkF m 45 #[.val (.int p1), .val (.int p2), .val (.int p3), .val (.ref d_p1), .val (.ref d_p2), .val (.int (0 : Int32)), .val (.int (1 : Int32)), .unset, .unset, .unset, .unset, .unset] [(.ref ro)])) _
        refine XS.astore X16.here hx rfl (hb hby at_45) rfl rfl (l' := #[.val (.int p1), .val (.int p2), .val (.int p3), .val (.ref d_p1), .val (.ref d_p2), .val (.int (0 : Int32)), .val (.int (1 : Int32)), .val (.ref ro), .unset, .unset, .unset, .unset]) rfl ?_
        show Steps p.tables e below (T16.setTop (mkF m 47 #[.val (.int p1), .val (.int p2), .val (.int p3), .val (.ref d_p1), .val (.ref d_p2), .val (.int (0 : Int32)), .val (.int (1 : Int32)), .val (.ref ro), .unset, .unset, .unset, .unset] [])) _
        refine st17 _ ?_
        show Steps p.tables e below (T17.setTop (mkF m 50 #[.val (.int p1), .val (.int p2), .val (.int p3), .val (.ref d_p1), .val (.ref d_p2), .val (.int (0 : Int32)), .val (.int (1 : Int32)), .val (.ref ro), .unset, .unset, .unset, .unset] [(.ref b17)])) _
        refine XS.dup X17.here hx rfl (hb hby at_50) rfl rfl ?_
        show Steps p.tables e below (T17.setTop (mkF m 51 #[.val (.int p1), .val (.int p2), .val (.int p3), .val (.ref d_p1), .val (.ref d_p2), .val (.int (0 : Int32)), .val (.int (1 : Int32)), .val (.ref ro), .unset, .unset, .unset, .unset] [(.ref b17), (.ref b17)])) _
        refine st18.trans ?_
        show Steps p.tables e below (T18.setTop (mkF m 54 #[.val (.int p1), .val (.int p2), .val (.int p3), .val (.ref d_p1), .val (.ref d_p2), .val (.int (0 : Int32)), .val (.int (1 : Int32)), .val (.ref ro), .unset, .unset, .unset, .unset] [(.ref b17)])) _
        refine XS.astore X18.here hx rfl (hb hby at_54) rfl rfl (l' := #[.val (.int p1), .val (.int p2), .val (.int p3), .val (.ref d_p1), .val (.ref d_p2), .val (.int (0 : Int32)), .val (.int (1 : Int32)), .val (.ref ro), .val (.ref b17), .unset, .unset, .unset]) rfl ?_
        show Steps p.tables e below (T18.setTop (mkF m 56 #[.val (.int p1), .val (.int p2), .val (.int p3), .val (.ref d_p1), .val (.ref d_p2), .val (.int (0 : Int32)), .val (.int (1 : Int32)), .val (.ref ro), .val (.ref b17), .unset, .unset, .unset] [])) _
        refine st19 _ ?_
        show Steps p.tables e below (T19.setTop (mkF m 59 #[.val (.int p1), .val (.int p2), .val (.int p3), .val (.ref d_p1), .val (.ref d_p2), .val (.int (0 : Int32)), .val (.int (1 : Int32)), .val (.ref ro), .val (.ref b17), .unset, .unset, .unset] [(.ref w_CREATED_AT)])) _
        refine XS.astore X19.here hx rfl (hb hby at_59) rfl rfl (l' := #[.val (.int p1), .val (.int p2), .val (.int p3), .val (.ref d_p1), .val (.ref d_p2), .val (.int (0 : Int32)), .val (.int (1 : Int32)), .val (.ref ro), .val (.ref b17), .val (.ref w_CREATED_AT), .unset, .unset]) rfl ?_
        show Steps p.tables e below (T19.setTop (mkF m 61 #[.val (.int p1), .val (.int p2), .val (.int p3), .val (.ref d_p1), .val (.ref d_p2), .val (.int (0 : Int32)), .val (.int (1 : Int32)), .val (.ref ro), .val (.ref b17), .val (.ref w_CREATED_AT), .unset, .unset] [])) _
        refine XS.iload X19.here hx rfl (hb hby at_61) rfl ?_
        show Steps p.tables e below (T19.setTop (mkF m 63 #[.val (.int p1), .val (.int p2), .val (.int p3), .val (.ref d_p1), .val (.ref d_p2), .val (.int (0 : Int32)), .val (.int (1 : Int32)), .val (.ref ro), .val (.ref b17), .val (.ref w_CREATED_AT), .unset, .unset] [(.int (0 : Int32))])) _
        refine XS.ifYes X19.here hx rfl (pc0 := 63) (pc' := 78) rfl (hb hby at_63) rfl ((if0 _ _).trans (teq (rfl : (0 : Int32) = (0 : Int32))).1) (by decide) (by decide) ?_
        show Steps p.tables e below (T19.setTop (mkF m 78 #[.val (.int p1), .val (.int p2), .val (.int p3), .val (.ref d_p1), .val (.ref d_p2), .val (.int (0 : Int32)), .val (.int (1 : Int32)), .val (.ref ro), .val (.ref b17), .val (.ref w_CREATED_AT), .unset, .unset] [])) _
        refine XS.aload X19.here hx rfl (hb hby at_78) rfl rfl ?_
        show Steps p.tables e below (T19.setTop (mkF m 80 #[.val (.int p1), .val (.int p2), .val (.int p3), .val (.ref d_p1), .val (.ref d_p2), .val (.int (0 : Int32)), .val (.int (1 : Int32)), .val (.ref ro), .val (.ref b17), .val (.ref w_CREATED_AT), .unset, .unset] [(.ref b17)])) _
        refine XS.aloadN X19.here hx rfl (hb hby at_80) rfl rfl ?_
        show Steps p.tables e below (T19.setTop (mkF m 81 #[.val (.int p1), .val (.int p2), .val (.int p3), .val (.ref d_p1), .val (.ref d_p2), .val (.int (0 : Int32)), .val (.int (1 : Int32)), .val (.ref ro), .val (.ref b17), .val (.ref w_CREATED_AT), .unset, .unset] [(.ref d_p1), (.ref b17)])) _
        refine st20.trans ?_
        show Steps p.tables e below (T20.setTop (mkF m 84 #[.val (.int p1), .val (.int p2), .val (.int p3), .val (.ref d_p1), .val (.ref d_p2), .val (.int (0 : Int32)), .val (.int (1 : Int32)), .val (.ref ro), .val (.ref b17), .val (.ref w_CREATED_AT), .unset, .unset] [(.ref b17)])) _
        refine XS.astore X20.here hx rfl (hb hby at_84) rfl rfl (l' := #[.val (.int p1), .val (.int p2), .val (.int p3), .val (.ref d_p1), .val (.ref d_p2), .val (.int (0 : Int32)), .val (.int (1 : Int32)), .val (.ref ro), .val (.ref b17), .val (.ref w_CREATED_AT), .val (.ref b17), .unset]) rfl ?_
        show Steps p.tables e below (T20.setTop (mkF m 86 #[.val (.int p1), .val (.int p2), .val (.int p3), .val (.ref d_p1), .val (.ref d_p2), .val (.int (0 : Int32)), .val (.int (1 : Int32)), .val (.ref ro), .val (.ref b17), .val (.ref w_CREATED_AT), .val (.ref b17), .unset] [])) _
        refine XS.aload X20.here hx rfl (hb hby at_86) rfl rfl ?_
        show Steps p.tables e below (T20.setTop (mkF m 88 #[.val (.int p1), .val (.int p2), .val (.int p3), .val (.ref d_p1), .val (.ref d_p2), .val (.int (0 : Int32)), .val (.int (1 : Int32)), .val (.ref ro), .val (.ref b17), .val (.ref w_CREATED_AT), .val (.ref b17), .unset] [(.ref b17)])) _
        refine XS.aload X20.here hx rfl (hb hby at_88) rfl rfl ?_
        show Steps p.tables e below (T20.setTop (mkF m 90 #[.val (.int p1), .val (.int p2), .val (.int p3), .val (.ref d_p1), .val (.ref d_p2), .val (.int (0 : Int32)), .val (.int (1 : Int32)), .val (.ref ro), .val (.ref b17), .val (.ref w_CREATED_AT), .val (.ref b17), .unset] [(.ref b17), (.ref b17)])) _
        refine Jvm.RoadKit.acmp (g := (mkF m 90 #[.val (.int p1), .val (.int p2), .val (.int p3), .val (.ref d_p1), .val (.ref d_p2), .val (.int (0 : Int32)), .val (.int (1 : Int32)), .val (.ref ro), .val (.ref b17), .val (.ref w_CREATED_AT), .val (.ref b17), .unset] [(.ref b17), (.ref b17)])) X20 hx rfl rfl rfl (pc0 := 90) (pc' := 95) (same := true) rfl (hb hby at_90) rfl (decide_eq_true rfl) (by decide) (by decide) ?_
        show Steps p.tables e below (T20.setTop (mkF m 95 #[.val (.int p1), .val (.int p2), .val (.int p3), .val (.ref d_p1), .val (.ref d_p2), .val (.int (0 : Int32)), .val (.int (1 : Int32)), .val (.ref ro), .val (.ref b17), .val (.ref w_CREATED_AT), .val (.ref b17), .unset] [])) _
        refine XS.aload X20.here hx rfl (hb hby at_95) rfl rfl ?_
        show Steps p.tables e below (T20.setTop (mkF m 97 #[.val (.int p1), .val (.int p2), .val (.int p3), .val (.ref d_p1), .val (.ref d_p2), .val (.int (0 : Int32)), .val (.int (1 : Int32)), .val (.ref ro), .val (.ref b17), .val (.ref w_CREATED_AT), .val (.ref b17), .unset] [(.ref b17)])) _
        refine st21.trans ?_
        show Steps p.tables e below (T21.setTop (mkF m 100 #[.val (.int p1), .val (.int p2), .val (.int p3), .val (.ref d_p1), .val (.ref d_p2), .val (.int (0 : Int32)), .val (.int (1 : Int32)), .val (.ref ro), .val (.ref b17), .val (.ref w_CREATED_AT), .val (.ref b17), .unset] [(.ref d_p1)])) _
        refine XS.aloadN X21.here hx rfl (hb hby at_100) rfl rfl ?_
        show Steps p.tables e below (T21.setTop (mkF m 101 #[.val (.int p1), .val (.int p2), .val (.int p3), .val (.ref d_p1), .val (.ref d_p2), .val (.int (0 : Int32)), .val (.int (1 : Int32)), .val (.ref ro), .val (.ref b17), .val (.ref w_CREATED_AT), .val (.ref b17), .unset] [(.ref d_p1), (.ref d_p1)])) _
        refine Jvm.RoadKit.acmp (g := (mkF m 101 #[.val (.int p1), .val (.int p2), .val (.int p3), .val (.ref d_p1), .val (.ref d_p2), .val (.int (0 : Int32)), .val (.int (1 : Int32)), .val (.ref ro), .val (.ref b17), .val (.ref w_CREATED_AT), .val (.ref b17), .unset] [(.ref d_p1), (.ref d_p1)])) X21 hx rfl rfl rfl (pc0 := 101) (pc' := 106) (same := true) rfl (hb hby at_101) rfl (decide_eq_true rfl) (by decide) (by decide) ?_
        show Steps p.tables e below (T21.setTop (mkF m 106 #[.val (.int p1), .val (.int p2), .val (.int p3), .val (.ref d_p1), .val (.ref d_p2), .val (.int (0 : Int32)), .val (.int (1 : Int32)), .val (.ref ro), .val (.ref b17), .val (.ref w_CREATED_AT), .val (.ref b17), .unset] [])) _
        refine XS.iload X21.here hx rfl (hb hby at_106) rfl ?_
        show Steps p.tables e below (T21.setTop (mkF m 108 #[.val (.int p1), .val (.int p2), .val (.int p3), .val (.ref d_p1), .val (.ref d_p2), .val (.int (0 : Int32)), .val (.int (1 : Int32)), .val (.ref ro), .val (.ref b17), .val (.ref w_CREATED_AT), .val (.ref b17), .unset] [(.int (1 : Int32))])) _
        refine XS.ifNo X21.here hx rfl (hb hby at_108) rfl ((if0 _ _).trans (feq (by decide : ¬ ((1 : Int32) = (0 : Int32)))).1) ?_
        show Steps p.tables e below (T21.setTop (mkF m 111 #[.val (.int p1), .val (.int p2), .val (.int p3), .val (.ref d_p1), .val (.ref d_p2), .val (.int (0 : Int32)), .val (.int (1 : Int32)), .val (.ref ro), .val (.ref b17), .val (.ref w_CREATED_AT), .val (.ref b17), .unset] [])) _
        refine XS.aload X21.here hx rfl (hb hby at_111) rfl rfl ?_
        show Steps p.tables e below (T21.setTop (mkF m 113 #[.val (.int p1), .val (.int p2), .val (.int p3), .val (.ref d_p1), .val (.ref d_p2), .val (.int (0 : Int32)), .val (.int (1 : Int32)), .val (.ref ro), .val (.ref b17), .val (.ref w_CREATED_AT), .val (.ref b17), .unset] [(.ref b17)])) _
        refine XS.aload X21.here hx rfl (hb hby at_113) rfl rfl ?_
        show Steps p.tables e below (T21.setTop (mkF m 115 #[.val (.int p1), .val (.int p2), .val (.int p3), .val (.ref d_p1), .val (.ref d_p2), .val (.int (0 : Int32)), .val (.int (1 : Int32)), .val (.ref ro), .val (.ref b17), .val (.ref w_CREATED_AT), .val (.ref b17), .unset] [(.ref d_p2), (.ref b17)])) _
        refine st22.trans ?_
        show Steps p.tables e below (T22.setTop (mkF m 118 #[.val (.int p1), .val (.int p2), .val (.int p3), .val (.ref d_p1), .val (.ref d_p2), .val (.int (0 : Int32)), .val (.int (1 : Int32)), .val (.ref ro), .val (.ref b17), .val (.ref w_CREATED_AT), .val (.ref b17), .unset] [(.ref b17)])) _
        refine XS.astore X22.here hx rfl (hb hby at_118) rfl rfl (l' := #[.val (.int p1), .val (.int p2), .val (.int p3), .val (.ref d_p1), .val (.ref d_p2), .val (.int (0 : Int32)), .val (.int (1 : Int32)), .val (.ref ro), .val (.ref b17), .val (.ref w_CREATED_AT), .val (.ref b17), .val (.ref b17)]) rfl ?_
        show Steps p.tables e below (T22.setTop (mkF m 120 #[.val (.int p1), .val (.int p2), .val (.int p3), .val (.ref d_p1), .val (.ref d_p2), .val (.int (0 : Int32)), .val (.int (1 : Int32)), .val (.ref ro), .val (.ref b17), .val (.ref w_CREATED_AT), .val (.ref b17), .val (.ref b17)] [])) _
        refine XS.aload X22.here hx rfl (hb hby at_120) rfl rfl ?_
        show Steps p.tables e below (T22.setTop (mkF m 122 #[.val (.int p1), .val (.int p2), .val (.int p3), .val (.ref d_p1), .val (.ref d_p2), .val (.int (0 : Int32)), .val (.int (1 : Int32)), .val (.ref ro), .val (.ref b17), .val (.ref w_CREATED_AT), .val (.ref b17), .val (.ref b17)] [(.ref b17)])) _
        refine XS.aload X22.here hx rfl (hb hby at_122) rfl rfl ?_
        show Steps p.tables e below (T22.setTop (mkF m 124 #[.val (.int p1), .val (.int p2), .val (.int p3), .val (.ref d_p1), .val (.ref d_p2), .val (.int (0 : Int32)), .val (.int (1 : Int32)), .val (.ref ro), .val (.ref b17), .val (.ref w_CREATED_AT), .val (.ref b17), .val (.ref b17)] [(.ref b17), (.ref b17)])) _
        refine Jvm.RoadKit.acmp (g := (mkF m 124 #[.val (.int p1), .val (.int p2), .val (.int p3), .val (.ref d_p1), .val (.ref d_p2), .val (.int (0 : Int32)), .val (.int (1 : Int32)), .val (.ref ro), .val (.ref b17), .val (.ref w_CREATED_AT), .val (.ref b17), .val (.ref b17)] [(.ref b17), (.ref b17)])) X22 hx rfl rfl rfl (pc0 := 124) (pc' := 129) (same := true) rfl (hb hby at_124) rfl (decide_eq_true rfl) (by decide) (by decide) ?_
        show Steps p.tables e below (T22.setTop (mkF m 129 #[.val (.int p1), .val (.int p2), .val (.int p3), .val (.ref d_p1), .val (.ref d_p2), .val (.int (0 : Int32)), .val (.int (1 : Int32)), .val (.ref ro), .val (.ref b17), .val (.ref w_CREATED_AT), .val (.ref b17), .val (.ref b17)] [])) _
        refine XS.aload X22.here hx rfl (hb hby at_129) rfl rfl ?_
        show Steps p.tables e below (T22.setTop (mkF m 131 #[.val (.int p1), .val (.int p2), .val (.int p3), .val (.ref d_p1), .val (.ref d_p2), .val (.int (0 : Int32)), .val (.int (1 : Int32)), .val (.ref ro), .val (.ref b17), .val (.ref w_CREATED_AT), .val (.ref b17), .val (.ref b17)] [(.ref b17)])) _
        refine st23.trans ?_
        show Steps p.tables e below (T23.setTop (mkF m 134 #[.val (.int p1), .val (.int p2), .val (.int p3), .val (.ref d_p1), .val (.ref d_p2), .val (.int (0 : Int32)), .val (.int (1 : Int32)), .val (.ref ro), .val (.ref b17), .val (.ref w_CREATED_AT), .val (.ref b17), .val (.ref b17)] [(.ref d_p2)])) _
        refine XS.aload X23.here hx rfl (hb hby at_134) rfl rfl ?_
        show Steps p.tables e below (T23.setTop (mkF m 136 #[.val (.int p1), .val (.int p2), .val (.int p3), .val (.ref d_p1), .val (.ref d_p2), .val (.int (0 : Int32)), .val (.int (1 : Int32)), .val (.ref ro), .val (.ref b17), .val (.ref w_CREATED_AT), .val (.ref b17), .val (.ref b17)] [(.ref d_p2), (.ref d_p2)])) _
        refine Jvm.RoadKit.acmp (g := (mkF m 136 #[.val (.int p1), .val (.int p2), .val (.int p3), .val (.ref d_p1), .val (.ref d_p2), .val (.int (0 : Int32)), .val (.int (1 : Int32)), .val (.ref ro), .val (.ref b17), .val (.ref w_CREATED_AT), .val (.ref b17), .val (.ref b17)] [(.ref d_p2), (.ref d_p2)])) X23 hx rfl rfl rfl (pc0 := 136) (pc' := 141) (same := true) rfl (hb hby at_136) rfl (decide_eq_true rfl) (by decide) (by decide) ?_
        show Steps p.tables e below (T23.setTop (mkF m 141 #[.val (.int p1), .val (.int p2), .val (.int p3), .val (.ref d_p1), .val (.ref d_p2), .val (.int (0 : Int32)), .val (.int (1 : Int32)), .val (.ref ro), .val (.ref b17), .val (.ref w_CREATED_AT), .val (.ref b17), .val (.ref b17)] [])) _
        refine XS.aload X23.here hx rfl (hb hby at_141) rfl rfl ?_
        show Steps p.tables e below (T23.setTop (mkF m 143 #[.val (.int p1), .val (.int p2), .val (.int p3), .val (.ref d_p1), .val (.ref d_p2), .val (.int (0 : Int32)), .val (.int (1 : Int32)), .val (.ref ro), .val (.ref b17), .val (.ref w_CREATED_AT), .val (.ref b17), .val (.ref b17)] [(.ref b17)])) _
        refine st24.trans ?_
        show Steps p.tables e below (T24.setTop (mkF m 146 #[.val (.int p1), .val (.int p2), .val (.int p3), .val (.ref d_p1), .val (.ref d_p2), .val (.int (0 : Int32)), .val (.int (1 : Int32)), .val (.ref ro), .val (.ref b17), .val (.ref w_CREATED_AT), .val (.ref b17), .val (.ref b17)] [(.ref w_CREATED_AT)])) _
        refine XS.aload X24.here hx rfl (hb hby at_146) rfl rfl ?_
        show Steps p.tables e below (T24.setTop (mkF m 148 #[.val (.int p1), .val (.int p2), .val (.int p3), .val (.ref d_p1), .val (.ref d_p2), .val (.int (0 : Int32)), .val (.int (1 : Int32)), .val (.ref ro), .val (.ref b17), .val (.ref w_CREATED_AT), .val (.ref b17), .val (.ref b17)] [(.ref w_CREATED_AT), (.ref w_CREATED_AT)])) _
        refine Jvm.RoadKit.acmp (g := (mkF m 148 #[.val (.int p1), .val (.int p2), .val (.int p3), .val (.ref d_p1), .val (.ref d_p2), .val (.int (0 : Int32)), .val (.int (1 : Int32)), .val (.ref ro), .val (.ref b17), .val (.ref w_CREATED_AT), .val (.ref b17), .val (.ref b17)] [(.ref w_CREATED_AT), (.ref w_CREATED_AT)])) X24 hx rfl rfl rfl (pc0 := 148) (pc' := 151) (same := true) rfl (hb hby at_148) rfl (decide_eq_true rfl) (by decide) (by decide) ?_
        show Steps p.tables e below (T24.setTop (mkF m 151 #[.val (.int p1), .val (.int p2), .val (.int p3), .val (.ref d_p1), .val (.ref d_p2), .val (.int (0 : Int32)), .val (.int (1 : Int32)), .val (.ref ro), .val (.ref b17), .val (.ref w_CREATED_AT), .val (.ref b17), .val (.ref b17)] [])) _
        refine XS.aload X24.here hx rfl (hb hby at_151) rfl rfl ?_
        show Steps p.tables e below (T24.setTop (mkF m 153 #[.val (.int p1), .val (.int p2), .val (.int p3), .val (.ref d_p1), .val (.ref d_p2), .val (.int (0 : Int32)), .val (.int (1 : Int32)), .val (.ref ro), .val (.ref b17), .val (.ref w_CREATED_AT), .val (.ref b17), .val (.ref b17)] [(.ref b17)])) _
        refine st25.trans ?_
        show Steps p.tables e below (T25.setTop (mkF m 156 #[.val (.int p1), .val (.int p2), .val (.int p3), .val (.ref d_p1), .val (.ref d_p2), .val (.int (0 : Int32)), .val (.int (1 : Int32)), .val (.ref ro), .val (.ref b17), .val (.ref w_CREATED_AT), .val (.ref b17), .val (.ref b17)] [(.int (0 : Int32))])) _
        refine XS.ifNo X25.here hx rfl (hb hby at_156) rfl ((if0 _ _).trans (teq (rfl : (0 : Int32) = (0 : Int32))).2) ?_
        show Steps p.tables e below (T25.setTop (mkF m 159 #[.val (.int p1), .val (.int p2), .val (.int p3), .val (.ref d_p1), .val (.ref d_p2), .val (.int (0 : Int32)), .val (.int (1 : Int32)), .val (.ref ro), .val (.ref b17), .val (.ref w_CREATED_AT), .val (.ref b17), .val (.ref b17)] [])) _
        refine XS.iconst X25.here hx rfl (hb hby at_159) ?_
        show Steps p.tables e below (T25.setTop (mkF m 160 #[.val (.int p1), .val (.int p2), .val (.int p3), .val (.ref d_p1), .val (.ref d_p2), .val (.int (0 : Int32)), .val (.int (1 : Int32)), .val (.ref ro), .val (.ref b17), .val (.ref w_CREATED_AT), .val (.ref b17), .val (.ref b17)] [(.int (1 : Int32))])) _
        refine XS.goto X25.here hx rfl (pc0 := 160) (pc' := 164) rfl (hb hby at_160) (by decide) (by decide) ?_
        exact kt
      obtain ⟨fs, hr, hrun, hended, hW⟩ := X25.leaveW hS (by rw [hE25]; exact (Nat.le_refl _)) (v := some (.int (1 : Int32))) (fun h => by rw [Bd.returns] at h; cases h)
      refine ⟨_, _, pre26 _ ?_, hrun, hended, _, _, rfl, ?_, ⟨_, rfl⟩, hW.2.1, hW.2.2.1, hW.2.2.2.mono (by decide) (by decide)⟩
      · show Steps p.tables e below (T25.setTop (mkF m 164 #[.val (.int p1), .val (.int p2), .val (.int p3), .val (.ref d_p1), .val (.ref d_p2), .val (.int (0 : Int32)), .val (.int (1 : Int32)), .val (.ref ro), .val (.ref b17), .val (.ref w_CREATED_AT), .val (.ref b17), .val (.ref b17)] [(.int (1 : Int32))])) _
        exact retN X25 hx (t := .boolean) Bd.returns (by simp) (hb hby at_164) hr
      · show Q0 Z h0 n0 _ T25.heap _
        rw [hE25]
        exact ⟨rfl, N25⟩
  · have pre27 : ∀ tt, Steps p.tables e below (T2.setTop (mkF m 31 #[.val (.int p1), .val (.int p2), .val (.int p3), .val (.ref d_p1), .val (.ref d_p2), .val (.int (1 : Int32)), .unset, .unset, .unset, .unset, .unset, .unset] [(.int ((p2 >>> ((1 : Int32) &&& 31)) &&& (1 : Int32)))])) tt → Steps p.tables e below (s₁.setTop (entryFrame m #[(.int p1), (.int p2), (.int p3)] maxLocals)) tt := by
      intro tt kt
      refine pre3 tt ?_
      show Steps p.tables e below (T2.setTop (mkF m 16 #[.val (.int p1), .val (.int p2), .val (.int p3), .val (.ref d_p1), .val (.ref d_p2), .unset, .unset, .unset, .unset, .unset, .unset, .unset] [(.int ((p1 >>> ((1 : Int32) &&& 31)) &&& (1 : Int32)))])) _
      refine XS.ifNo X2.here hx rfl (hb hby at_16) rfl ((if0 _ _).trans (feq c16_4).1) ?_
      show Steps p.tables e below (T2.setTop (mkF m 19 #[.val (.int p1), .val (.int p2), .val (.int p3), .val (.ref d_p1), .val (.ref d_p2), .unset, .unset, .unset, .unset, .unset, .unset, .unset] [])) _
      refine XS.iconst X2.here hx rfl (hb hby at_19) ?_
      show Steps p.tables e below (T2.setTop (mkF m 20 #[.val (.int p1), .val (.int p2), .val (.int p3), .val (.ref d_p1), .val (.ref d_p2), .unset, .unset, .unset, .unset, .unset, .unset, .unset] [(.int (1 : Int32))])) _
      refine XS.goto X2.here hx rfl (pc0 := 20) (pc' := 24) rfl (hb hby at_20) (by decide) (by decide) ?_
      show Steps p.tables e below (T2.setTop (mkF m 24 #[.val (.int p1), .val (.int p2), .val (.int p3), .val (.ref d_p1), .val (.ref d_p2), .unset, .unset, .unset, .unset, .unset, .unset, .unset] [(.int (1 : Int32))])) _
      refine XS.istore X2.here hx rfl (hb hby at_24) rfl (l' := #[.val (.int p1), .val (.int p2), .val (.int p3), .val (.ref d_p1), .val (.ref d_p2), .val (.int (1 : Int32)), .unset, .unset, .unset, .unset, .unset, .unset]) rfl ?_
      show Steps p.tables e below (T2.setTop (mkF m 26 #[.val (.int p1), .val (.int p2), .val (.int p3), .val (.ref d_p1), .val (.ref d_p2), .val (.int (1 : Int32)), .unset, .unset, .unset, .unset, .unset, .unset] [])) _
      refine XS.iloadN X2.here hx rfl (hb hby at_26) rfl ?_
      show Steps p.tables e below (T2.setTop (mkF m 27 #[.val (.int p1), .val (.int p2), .val (.int p3), .val (.ref d_p1), .val (.ref d_p2), .val (.int (1 : Int32)), .unset, .unset, .unset, .unset, .unset, .unset] [(.int p2)])) _
      refine XS.iconst X2.here hx rfl (hb hby at_27) ?_
      show Steps p.tables e below (T2.setTop (mkF m 28 #[.val (.int p1), .val (.int p2), .val (.int p3), .val (.ref d_p1), .val (.ref d_p2), .val (.int (1 : Int32)), .unset, .unset, .unset, .unset, .unset, .unset] [(.int (1 : Int32)), (.int p2)])) _
      refine XS.ishr X2.here hx rfl (hb hby at_28) rfl ?_
      show Steps p.tables e below (T2.setTop (mkF m 29 #[.val (.int p1), .val (.int p2), .val (.int p3), .val (.ref d_p1), .val (.ref d_p2), .val (.int (1 : Int32)), .unset, .unset, .unset, .unset, .unset, .unset] [(.int (p2 >>> ((1 : Int32) &&& 31)))])) _
      refine XS.iconst X2.here hx rfl (hb hby at_29) ?_
      show Steps p.tables e below (T2.setTop (mkF m 30 #[.val (.int p1), .val (.int p2), .val (.int p3), .val (.ref d_p1), .val (.ref d_p2), .val (.int (1 : Int32)), .unset, .unset, .unset, .unset, .unset, .unset] [(.int (1 : Int32)), (.int (p2 >>> ((1 : Int32) &&& 31)))])) _
      refine XS.iand X2.here hx rfl (hb hby at_30) rfl ?_
      exact kt
    by_cases c31_28 : ((p2 >>> ((1 : Int32) &&& 31)) &&& (1 : Int32)) = (0 : Int32)
    · obtain ⟨ro, hro⟩ : ∃ z, z = own_pick ((p3 &&& (2147483647 : Int32)) % (6 : Int32)) w_ID w_NAME w_PATH w_CREATED_AT w_UPDATED_AT w_LAST_ACTIVITY_AT := ⟨_, rfl⟩
      have E_ro := own_epick (i := (p3 &&& (2147483647 : Int32)) % (6 : Int32)) E_ID E_NAME E_PATH E_CREATED_AT E_UPDATED_AT E_LAST_ACTIVITY_AT
      rw [← hro] at E_ro
      obtain ⟨_, _, ⟨T29, L29, k29, n29⟩, -, X29, ⟨Lc29, hQ29, l29, y29, z29⟩, st29⟩ := Jvm.LawKit.callS X2 hx (y := (⟨"com/example/wee_forge/weeforge/model/ProjectFilterSortPinLaw", "order", "(I)Lcom/example/wee_forge/weeforge/model/ProjectOrder;"⟩ : MethodName)) hown (mvT hZ (hw _ (List.mem_of_getElem? (i := 9) rfl))) (mvT hZ (hw _ (List.mem_of_getElem? (i := 10) rfl))) (mvT hZ (hw _ (List.mem_of_getElem? (i := 2) rfl))) (mvT hZ (hw _ (List.mem_of_getElem? (i := 11) rfl))) (by decide) (backOf (W := 0) (rmO l Z a0 hw [] p3 w_ID w_NAME w_PATH w_CREATED_AT w_UPDATED_AT w_LAST_ACTIVITY_AT ro h0 n0 Z0 S_ID S_NAME S_PATH S_CREATED_AT S_UPDATED_AT S_LAST_ACTIVITY_AT hro) hZ (hw _ (List.mem_of_getElem? (i := 11) rfl)) (hw _ (List.mem_of_getElem? (i := 2) rfl)) (by decide) (by decide)) (g := (mkF m 42 #[.val (.int p1), .val (.int p2), .val (.int p3), .val (.ref d_p1), .val (.ref d_p2), .val (.int (1 : Int32)), .val (.int (0 : Int32)), .unset, .unset, .unset, .unset, .unset] [(.int p3)])) rfl (by rw [hml]; rfl) (argsL := [(.int p3)]) (rest := []) (lenOf pd_rm0_1 rfl) rfl (by show 2 * 0 + _ ≤ _; exact Nat.le_of_eq rfl) (hb hby at_42) (fun _ _ => ⟨rfl, hE2, (by decide : 0 + 0 ≤ _), (by decide : 0 + 0 ≤ _)⟩)
      dsimp only [Pt.U, Pt.locs, Pt.cells, Pt.slots] at X29 l29 y29 z29 st29 hQ29
      subst l29 y29 z29
      obtain ⟨rfl, N29q, hE29⟩ := hQ29
      have N29 := Fr.app N2 N29q
      obtain ⟨T30, h30, X30, e30, E30, A30, D30, -, st30⟩ := newO X29 hx hZ hown (hw _ (List.mem_of_getElem? (i := 16) rfl)) (hw _ (List.mem_of_getElem? (i := 17) rfl)) (hw _ (List.mem_of_getElem? (i := 18) rfl)) hE29 (g := (mkF m 47 #[.val (.int p1), .val (.int p2), .val (.int p3), .val (.ref d_p1), .val (.ref d_p2), .val (.int (1 : Int32)), .val (.int (0 : Int32)), .val (.ref ro), .unset, .unset, .unset, .unset] [])) rfl (hb hby at_47) (by decide) (by decide)
      obtain ⟨b30, g30⟩ : ∃ z, z = h0.size := ⟨_, rfl⟩
      rw [← g30] at A30 D30 st30
      have g_b30 : n0 ≤ b30 := Nat.le_trans Z0 (Nat.le_of_eq g30.symm)
      have F_searchTerms_b30 : Fld Z h30 b30 "com/example/wee_forge/weeforge/model/ProjectFilter" "searchTerms" "Ljava/util/List;" .null := D30 (Or.inl (hw _ (List.mem_of_getElem? (i := 32) rfl))) (ty := (.object "java/util/List")) (by decide)
      have F_topics_b30 : Fld Z h30 b30 "com/example/wee_forge/weeforge/model/ProjectFilter" "topics" "Ljava/util/List;" .null := D30 (Or.inl (hw _ (List.mem_of_getElem? (i := 34) rfl))) (ty := (.object "java/util/List")) (by decide)
      have F_lastActivity_b30 : Fld Z h30 b30 "com/example/wee_forge/weeforge/model/ProjectFilter" "lastActivity" "Lcom/example/wee_forge/weeforge/model/TimeRange;" .null := D30 (Or.inl (hw _ (List.mem_of_getElem? (i := 39) rfl))) (ty := (.object "com/example/wee_forge/weeforge/model/TimeRange")) (by decide)
      have F_updated_b30 : Fld Z h30 b30 "com/example/wee_forge/weeforge/model/ProjectFilter" "updated" "Lcom/example/wee_forge/weeforge/model/TimeRange;" .null := D30 (Or.inl (hw _ (List.mem_of_getElem? (i := 41) rfl))) (ty := (.object "com/example/wee_forge/weeforge/model/TimeRange")) (by decide)
      have F_idAfter_b30 : Fld Z h30 b30 "com/example/wee_forge/weeforge/model/ProjectFilter" "idAfter" "Ljava/util/OptionalLong;" .null := D30 (Or.inl (hw _ (List.mem_of_getElem? (i := 48) rfl))) (ty := (.object "java/util/OptionalLong")) (by decide)
      have F_idBefore_b30 : Fld Z h30 b30 "com/example/wee_forge/weeforge/model/ProjectFilter" "idBefore" "Ljava/util/OptionalLong;" .null := D30 (Or.inl (hw _ (List.mem_of_getElem? (i := 50) rfl))) (ty := (.object "java/util/OptionalLong")) (by decide)
      have F_orderBy_b30 : Fld Z h30 b30 "com/example/wee_forge/weeforge/model/ProjectFilter" "orderBy" "Lcom/example/wee_forge/weeforge/model/ProjectOrder;" .null := D30 (Or.inl (hw _ (List.mem_of_getElem? (i := 54) rfl))) (ty := (.object "com/example/wee_forge/weeforge/model/ProjectOrder")) (by decide)
      have F_sort_b30 : Fld Z h30 b30 "com/example/wee_forge/weeforge/model/ProjectFilter" "sort" "Lcom/example/wee_forge/weeforge/model/SortDirection;" .null := D30 (Or.inl (hw _ (List.mem_of_getElem? (i := 57) rfl))) (ty := (.object "com/example/wee_forge/weeforge/model/SortDirection")) (by decide)
      have F_starredOnly_b30 : Fld Z h30 b30 "com/example/wee_forge/weeforge/model/ProjectFilter" "starredOnly" "Z" (.int (0 : Int32)) := D30 (Or.inl (hw _ (List.mem_of_getElem? (i := 94) rfl))) (ty := .boolean) (by decide)
      obtain ⟨_, _, ⟨T31, L31, k31, n31⟩, -, X31, ⟨Lc31, hQ31, l31, y31, z31⟩, st31⟩ := X30.specialBack hx (y := (⟨"com/example/wee_forge/weeforge/model/ProjectFilter", "<init>", "()V"⟩ : MethodName)) rfl hown (mvT hZ (hw _ (List.mem_of_getElem? (i := 19) rfl))) (mvT hZ (hw _ (List.mem_of_getElem? (i := 20) rfl))) (mvT hZ (hw _ (List.mem_of_getElem? (i := 21) rfl))) (by decide) (backOf (W := 1) (rmC l Z a0 hw [] b30 w_ANY w_CREATED_AT w_DESC wEL wOL h30 n0 (Nat.le_trans Z0 E30.1) A30 F_searchTerms_b30 F_topics_b30 F_lastActivity_b30 F_updated_b30 F_idAfter_b30 F_idBefore_b30 F_orderBy_b30 F_sort_b30 F_starredOnly_b30 g_b30 (Sta.ext E30 S_ANY) (Sta.ext E30 S_CREATED_AT) (Sta.ext E30 S_DESC) (Sta.ext E30 S_EL) (Sta.ext E30 S_OL)) hZ (hw _ (List.mem_of_getElem? (i := 21) rfl)) (hw _ (List.mem_of_getElem? (i := 18) rfl)) (by decide) (by decide)) (g := (mkF m 51 #[.val (.int p1), .val (.int p2), .val (.int p3), .val (.ref d_p1), .val (.ref d_p2), .val (.int (1 : Int32)), .val (.int (0 : Int32)), .val (.ref ro), .unset, .unset, .unset, .unset] [(.ref b30), (.ref b30)])) rfl (by rw [hml]; rfl) (Steps.refl _) (a := b30) (argsL := []) (rest := [(.ref b30)]) (lenOf pd_rm0_2 rfl) rfl (by show 2 * 0 + _ ≤ _; exact Nat.le_of_eq rfl) (hb hby at_51) (fun _ _ => ⟨rfl, e30, (by decide : 1 + 0 ≤ _), (by decide : 12 + 0 ≤ _)⟩)
      dsimp only [Pt.U, Pt.locs, Pt.cells, Pt.slots] at X31 l31 y31 z31 st31 hQ31
      subst l31 y31 z31
      obtain ⟨rfl, N31q, K31, Ei31, Fs31, Fo31, Fb31⟩ := hQ31
      have N31 := Fr.app N29 N31q
      obtain ⟨T32, X32, e32, st32⟩ := getS2 X31 hx hZ hown (host := "") (Or.inl (hw _ (List.mem_of_getElem? (i := 58) rfl))) Via.refl rfl (own_staK (Sta.ext E30 S_CREATED_AT) K31 (allS ⟨_, A30⟩ all0)) (g := (mkF m 56 #[.val (.int p1), .val (.int p2), .val (.int p3), .val (.ref d_p1), .val (.ref d_p2), .val (.int (1 : Int32)), .val (.int (0 : Int32)), .val (.ref ro), .val (.ref b30), .unset, .unset, .unset] [])) rfl (hb hby at_56)
      obtain ⟨cq33, kq33, q33a, q33b, q33c⟩ := isOf hZ e32 Ei31
      obtain ⟨_, _, ⟨T33, L33, k33, n33⟩, -, X33, hSb33, hgr33, ⟨Lc33, hQ33, l33, y33, z33⟩, st33⟩ := X32.virtualBackS hx (y := (⟨"com/example/wee_forge/weeforge/model/ProjectFilter", "orderBy", "(Lcom/example/wee_forge/weeforge/model/ProjectOrder;)Lcom/example/wee_forge/weeforge/model/ProjectFilter;"⟩ : MethodName)) (z := (⟨"com/example/wee_forge/weeforge/model/ProjectFilter", "orderBy", "(Lcom/example/wee_forge/weeforge/model/ProjectOrder;)Lcom/example/wee_forge/weeforge/model/ProjectFilter;"⟩ : MethodName)) hown (mvT hZ (hw _ (List.mem_of_getElem? (i := 97) rfl))) (mvT hZ (hw _ (List.mem_of_getElem? (i := 98) rfl))) (notFace_of_selects (args := #[]) (mvT hZ (hw _ (List.mem_of_getElem? (i := 100) rfl)))) (mvT hZ (hw _ (List.mem_of_getElem? (i := 100) rfl))) (mvT hZ (hw _ (List.mem_of_getElem? (i := 99) rfl))) (by decide) (backOfS (W := 0) (rm_orderBy l Z a0 hw [] b30 ro w_DESC w_CREATED_AT (0 : Int32) T31.heap n0 (Nat.le_trans (Nat.le_trans Z0 E30.1) K31.1) Ei31 Fs31 Fo31 Fb31 g_b30 ((Exa.ext E30 E_ro).keep K31)) hZ (hw _ (List.mem_of_getElem? (i := 101) rfl)) (hw _ (List.mem_of_getElem? (i := 18) rfl)) (by decide) (by decide)) q33a q33c (g := (mkF m 70 #[.val (.int p1), .val (.int p2), .val (.int p3), .val (.ref d_p1), .val (.ref d_p2), .val (.int (1 : Int32)), .val (.int (0 : Int32)), .val (.ref ro), .val (.ref b30), .val (.ref w_CREATED_AT), .unset, .unset] [(.ref ro), (.ref b30)])) rfl (by rw [hml]; rfl) (Steps.refl _) (argsL := [(.ref ro)]) (rest := []) (lenOf pd_rm0_7 rfl) rfl (by show 2 * 0 + _ ≤ _; exact Nat.le_of_eq rfl) (hb hby at_70) (fun _ _ => ⟨rfl, e32, (by decide : 1 + 2 ≤ _), (by decide : 12 + 32 ≤ _)⟩)
      dsimp only [Pt.U, Pt.locs, Pt.cells, Pt.slots] at X33 l33 y33 z33 st33 hQ33 hSb33 hgr33
      subst l33 y33 z33
      obtain ⟨X33, hS, hZ, hown⟩ := rebS hS (by rw [e32]; exact (Nat.le_trans (Nat.le_trans hk E30.1) K31.1)) X33 hSb33 hgr33 hZ hown
      obtain ⟨rfl, N33q, K33, Ei33, Fs33, Fo33, Fb33⟩ := hQ33
      have N33 := Fr.app N31 N33q
      obtain ⟨cq34, kq34, q34a, q34b, q34c⟩ := isOf hZ rfl Ei33
      obtain ⟨_, _, ⟨T34, L34, k34, n34⟩, -, X34, hSb34, hgr34, ⟨Lc34, hQ34, l34, y34, z34⟩, st34⟩ := X33.virtualBackS hx (y := (⟨"com/example/wee_forge/weeforge/model/ProjectFilter", "sort", "(Lcom/example/wee_forge/weeforge/model/SortDirection;)Lcom/example/wee_forge/weeforge/model/ProjectFilter;"⟩ : MethodName)) (z := (⟨"com/example/wee_forge/weeforge/model/ProjectFilter", "sort", "(Lcom/example/wee_forge/weeforge/model/SortDirection;)Lcom/example/wee_forge/weeforge/model/ProjectFilter;"⟩ : MethodName)) hown (mvT hZ (hw _ (List.mem_of_getElem? (i := 59) rfl))) (mvT hZ (hw _ (List.mem_of_getElem? (i := 60) rfl))) (notFace_of_selects (args := #[]) (mvT hZ (hw _ (List.mem_of_getElem? (i := 62) rfl)))) (mvT hZ (hw _ (List.mem_of_getElem? (i := 62) rfl))) (mvT hZ (hw _ (List.mem_of_getElem? (i := 61) rfl))) (by decide) (backOfS (W := 0) (rm_sort l Z a0 hw [] b30 d_p1 w_DESC ro (0 : Int32) T33.heap n0 (Nat.le_trans (Nat.le_trans (Nat.le_trans Z0 E30.1) K31.1) K33.1) Ei33 Fs33 Fo33 Fb33 g_b30 (((Exa.ext E30 E_d_p1).keep K31).keep K33)) hZ (hw _ (List.mem_of_getElem? (i := 63) rfl)) (hw _ (List.mem_of_getElem? (i := 18) rfl)) (by decide) (by decide)) q34a q34c (g := (mkF m 81 #[.val (.int p1), .val (.int p2), .val (.int p3), .val (.ref d_p1), .val (.ref d_p2), .val (.int (1 : Int32)), .val (.int (0 : Int32)), .val (.ref ro), .val (.ref b30), .val (.ref ro), .unset, .unset] [(.ref d_p1), (.ref b30)])) rfl (by rw [hml]; rfl) (Steps.refl _) (argsL := [(.ref d_p1)]) (rest := []) (lenOf pd_rm0_3 rfl) rfl (by show 2 * 0 + _ ≤ _; exact Nat.le_of_eq rfl) (hb hby at_81) (fun _ _ => ⟨rfl, rfl, (by decide : 3 + 2 ≤ _), (by decide : 44 + 20 ≤ _)⟩)
      dsimp only [Pt.U, Pt.locs, Pt.cells, Pt.slots] at X34 l34 y34 z34 st34 hQ34 hSb34 hgr34
      subst l34 y34 z34
      obtain ⟨X34, hS, hZ, hown⟩ := rebS hS (Nat.le_refl _) X34 hSb34 hgr34 hZ hown
      obtain ⟨rfl, N34q, K34, Ei34, Fs34, Fo34, Fb34⟩ := hQ34
      have N34 := Fr.app N33 N34q
      obtain ⟨cq35, kq35, q35a, q35b, q35c⟩ := isOf hZ rfl Ei34
      obtain ⟨_, _, ⟨T35, L35, k35, n35⟩, -, X35, ⟨Lc35, hQ35, l35, y35, z35⟩, st35⟩ := X34.virtualBack hx (y := (⟨"com/example/wee_forge/weeforge/model/ProjectFilter", "sort", "()Lcom/example/wee_forge/weeforge/model/SortDirection;"⟩ : MethodName)) (z := (⟨"com/example/wee_forge/weeforge/model/ProjectFilter", "sort", "()Lcom/example/wee_forge/weeforge/model/SortDirection;"⟩ : MethodName)) hown (mvT hZ (hw _ (List.mem_of_getElem? (i := 78) rfl))) (mvT hZ (hw _ (List.mem_of_getElem? (i := 79) rfl))) (notFace_of_selects (args := #[]) (mvT hZ (hw _ (List.mem_of_getElem? (i := 81) rfl)))) (mvT hZ (hw _ (List.mem_of_getElem? (i := 81) rfl))) (mvT hZ (hw _ (List.mem_of_getElem? (i := 80) rfl))) (by decide) (backOf (W := 0) (rmg_sort l Z a0 hw [] b30 d_p1 T34.heap n0 (Nat.le_trans (Nat.le_trans (Nat.le_trans (Nat.le_trans Z0 E30.1) K31.1) K33.1) K34.1) Fs34) hZ (hw _ (List.mem_of_getElem? (i := 82) rfl)) (hw _ (List.mem_of_getElem? (i := 18) rfl)) (by decide) (by decide)) q35a q35c (g := (mkF m 97 #[.val (.int p1), .val (.int p2), .val (.int p3), .val (.ref d_p1), .val (.ref d_p2), .val (.int (1 : Int32)), .val (.int (0 : Int32)), .val (.ref ro), .val (.ref b30), .val (.ref ro), .val (.ref b30), .unset] [(.ref b30)])) rfl (by rw [hml]; rfl) (Steps.refl _) (argsL := []) (rest := []) (lenOf pd_rm0_4 rfl) rfl (by show 2 * 0 + _ ≤ _; exact Nat.le_of_eq rfl) (hb hby at_97) (fun _ _ => ⟨rfl, rfl, (by decide : 5 + 0 ≤ _), (by decide : 64 + 0 ≤ _)⟩)
      dsimp only [Pt.U, Pt.locs, Pt.cells, Pt.slots] at X35 l35 y35 z35 st35 hQ35
      subst l35 y35 z35
      obtain ⟨rfl, N35q, hE35⟩ := hQ35
      have N35 := Fr.app N34 N35q
      obtain ⟨cq36, kq36, q36a, q36b, q36c⟩ := isOf hZ hE35 Ei34
      obtain ⟨_, _, ⟨T36, L36, k36, n36⟩, -, X36, ⟨Lc36, hQ36, l36, y36, z36⟩, st36⟩ := X35.virtualBack hx (y := (⟨"com/example/wee_forge/weeforge/model/ProjectFilter", "orderBy", "()Lcom/example/wee_forge/weeforge/model/ProjectOrder;"⟩ : MethodName)) (z := (⟨"com/example/wee_forge/weeforge/model/ProjectFilter", "orderBy", "()Lcom/example/wee_forge/weeforge/model/ProjectOrder;"⟩ : MethodName)) hown (mvT hZ (hw _ (List.mem_of_getElem? (i := 83) rfl))) (mvT hZ (hw _ (List.mem_of_getElem? (i := 84) rfl))) (notFace_of_selects (args := #[]) (mvT hZ (hw _ (List.mem_of_getElem? (i := 86) rfl)))) (mvT hZ (hw _ (List.mem_of_getElem? (i := 86) rfl))) (mvT hZ (hw _ (List.mem_of_getElem? (i := 85) rfl))) (by decide) (backOf (W := 0) (rmg_orderBy l Z a0 hw [] b30 ro T34.heap n0 (Nat.le_trans (Nat.le_trans (Nat.le_trans (Nat.le_trans Z0 E30.1) K31.1) K33.1) K34.1) Fo34) hZ (hw _ (List.mem_of_getElem? (i := 87) rfl)) (hw _ (List.mem_of_getElem? (i := 18) rfl)) (by decide) (by decide)) q36a q36c (g := (mkF m 143 #[.val (.int p1), .val (.int p2), .val (.int p3), .val (.ref d_p1), .val (.ref d_p2), .val (.int (1 : Int32)), .val (.int (0 : Int32)), .val (.ref ro), .val (.ref b30), .val (.ref ro), .val (.ref b30), .unset] [(.ref b30)])) rfl (by rw [hml]; rfl) (Steps.refl _) (argsL := []) (rest := []) (lenOf pd_rm0_5 rfl) rfl (by show 2 * 0 + _ ≤ _; exact Nat.le_of_eq rfl) (hb hby at_143) (fun _ _ => ⟨rfl, hE35, (by decide : 5 + 0 ≤ _), (by decide : 64 + 0 ≤ _)⟩)
      dsimp only [Pt.U, Pt.locs, Pt.cells, Pt.slots] at X36 l36 y36 z36 st36 hQ36
      subst l36 y36 z36
      obtain ⟨rfl, N36q, hE36⟩ := hQ36
      have N36 := Fr.app N35 N36q
      obtain ⟨cq37, kq37, q37a, q37b, q37c⟩ := isOf hZ hE36 Ei34
      obtain ⟨_, _, ⟨T37, L37, k37, n37⟩, -, X37, ⟨Lc37, hQ37, l37, y37, z37⟩, st37⟩ := X36.virtualBack hx (y := (⟨"com/example/wee_forge/weeforge/model/ProjectFilter", "starredOnly", "()Z"⟩ : MethodName)) (z := (⟨"com/example/wee_forge/weeforge/model/ProjectFilter", "starredOnly", "()Z"⟩ : MethodName)) hown (mvT hZ (hw _ (List.mem_of_getElem? (i := 88) rfl))) (mvT hZ (hw _ (List.mem_of_getElem? (i := 89) rfl))) (notFace_of_selects (args := #[]) (mvT hZ (hw _ (List.mem_of_getElem? (i := 91) rfl)))) (mvT hZ (hw _ (List.mem_of_getElem? (i := 91) rfl))) (mvT hZ (hw _ (List.mem_of_getElem? (i := 90) rfl))) (by decide) (backOf (W := 0) (rmg_starredOnly l Z a0 hw [] b30 (0 : Int32) T34.heap n0 (Nat.le_trans (Nat.le_trans (Nat.le_trans (Nat.le_trans Z0 E30.1) K31.1) K33.1) K34.1) Fb34 (by decide)) hZ (hw _ (List.mem_of_getElem? (i := 92) rfl)) (hw _ (List.mem_of_getElem? (i := 18) rfl)) (by decide) (by decide)) q37a q37c (g := (mkF m 153 #[.val (.int p1), .val (.int p2), .val (.int p3), .val (.ref d_p1), .val (.ref d_p2), .val (.int (1 : Int32)), .val (.int (0 : Int32)), .val (.ref ro), .val (.ref b30), .val (.ref ro), .val (.ref b30), .unset] [(.ref b30)])) rfl (by rw [hml]; rfl) (Steps.refl _) (argsL := []) (rest := []) (lenOf pd_rm0_6 rfl) rfl (by show 2 * 0 + _ ≤ _; exact Nat.le_of_eq rfl) (hb hby at_153) (fun _ _ => ⟨rfl, hE36, (by decide : 5 + 0 ≤ _), (by decide : 64 + 0 ≤ _)⟩)
      dsimp only [Pt.U, Pt.locs, Pt.cells, Pt.slots] at X37 l37 y37 z37 st37 hQ37
      subst l37 y37 z37
      obtain ⟨rfl, N37q, hE37⟩ := hQ37
      have N37 := Fr.app N36 N37q
      have pre38 : ∀ tt, Steps p.tables e below (T37.setTop (mkF m 164 #[.val (.int p1), .val (.int p2), .val (.int p3), .val (.ref d_p1), .val (.ref d_p2), .val (.int (1 : Int32)), .val (.int (0 : Int32)), .val (.ref ro), .val (.ref b30), .val (.ref ro), .val (.ref b30), .unset] [(.int (1 : Int32))])) tt → Steps p.tables e below (s₁.setTop (entryFrame m #[(.int p1), (.int p2), (.int p3)] maxLocals)) tt := by
        intro tt kt
        refine pre27 tt ?_
        show Steps p.tables e below (T2.setTop (mkF m 31 #[.val (.int p1), .val (.int p2), .val (.int p3), .val (.ref d_p1), .val (.ref d_p2), .val (.int (1 : Int32)), .unset, .unset, .unset, .unset, .unset, .unset] [(.int ((p2 >>> ((1 : Int32) &&& 31)) &&& (1 : Int32)))])) _
        refine XS.ifYes X2.here hx rfl (pc0 := 31) (pc' := 38) rfl (hb hby at_31) rfl ((if0 _ _).trans (teq c31_28).1) (by decide) (by decide) ?_
        show Steps p.tables e below (T2.setTop (mkF m 38 #[.val (.int p1), .val (.int p2), .val (.int p3), .val (.ref d_p1), .val (.ref d_p2), .val (.int (1 : Int32)), .unset, .unset, .unset, .unset, .unset, .unset] [])) _
        refine XS.iconst X2.here hx rfl (hb hby at_38) ?_
        show Steps p.tables e below (T2.setTop (mkF m 39 #[.val (.int p1), .val (.int p2), .val (.int p3), .val (.ref d_p1), .val (.ref d_p2), .val (.int (1 : Int32)), .unset, .unset, .unset, .unset, .unset, .unset] [(.int (0 : Int32))])) _
        refine XS.istore X2.here hx rfl (hb hby at_39) rfl (l' := #[.val (.int p1), .val (.int p2), .val (.int p3), .val (.ref d_p1), .val (.ref d_p2), .val (.int (1 : Int32)), .val (.int (0 : Int32)), .unset, .unset, .unset, .unset, .unset]) rfl ?_
        show Steps p.tables e below (T2.setTop (mkF m 41 #[.val (.int p1), .val (.int p2), .val (.int p3), .val (.ref d_p1), .val (.ref d_p2), .val (.int (1 : Int32)), .val (.int (0 : Int32)), .unset, .unset, .unset, .unset, .unset] [])) _
        refine XS.iloadN X2.here hx rfl (hb hby at_41) rfl ?_
        show Steps p.tables e below (T2.setTop (mkF m 42 #[.val (.int p1), .val (.int p2), .val (.int p3), .val (.ref d_p1), .val (.ref d_p2), .val (.int (1 : Int32)), .val (.int (0 : Int32)), .unset, .unset, .unset, .unset, .unset] [(.int p3)])) _
        refine st29 _ ?_
        show Steps p.tables e below (T29.setTop (mkF m 45 #[.val (.int p1), .val (.int p2), .val (.int p3), .val (.ref d_p1), .val (.ref d_p2), .val (.int (1 : Int32)), .val (.int (0 : Int32)), .unset, .unset, .unset, .unset, .unset] [(.ref ro)])) _
        refine XS.astore X29.here hx rfl (hb hby at_45) rfl rfl (l' := #[.val (.int p1), .val (.int p2), .val (.int p3), .val (.ref d_p1), .val (.ref d_p2), .val (.int (1 : Int32)), .val (.int (0 : Int32)), .val (.ref ro), .unset, .unset, .unset, .unset]) rfl ?_
        show Steps p.tables e below (T29.setTop (mkF m 47 #[.val (.int p1), .val (.int p2), .val (.int p3), .val (.ref d_p1), .val (.ref d_p2), .val (.int (1 : Int32)), .val (.int (0 : Int32)), .val (.ref ro), .unset, .unset, .unset, .unset] [])) _
        refine st30 _ ?_
        show Steps p.tables e below (T30.setTop (mkF m 50 #[.val (.int p1), .val (.int p2), .val (.int p3), .val (.ref d_p1), .val (.ref d_p2), .val (.int (1 : Int32)), .val (.int (0 : Int32)), .val (.ref ro), .unset, .unset, .unset, .unset] [(.ref b30)])) _
        refine XS.dup X30.here hx rfl (hb hby at_50) rfl rfl ?_
        show Steps p.tables e below (T30.setTop (mkF m 51 #[.val (.int p1), .val (.int p2), .val (.int p3), .val (.ref d_p1), .val (.ref d_p2), .val (.int (1 : Int32)), .val (.int (0 : Int32)), .val (.ref ro), .unset, .unset, .unset, .unset] [(.ref b30), (.ref b30)])) _
        refine st31.trans ?_
        show Steps p.tables e below (T31.setTop (mkF m 54 #[.val (.int p1), .val (.int p2), .val (.int p3), .val (.ref d_p1), .val (.ref d_p2), .val (.int (1 : Int32)), .val (.int (0 : Int32)), .val (.ref ro), .unset, .unset, .unset, .unset] [(.ref b30)])) _
        refine XS.astore X31.here hx rfl (hb hby at_54) rfl rfl (l' := #[.val (.int p1), .val (.int p2), .val (.int p3), .val (.ref d_p1), .val (.ref d_p2), .val (.int (1 : Int32)), .val (.int (0 : Int32)), .val (.ref ro), .val (.ref b30), .unset, .unset, .unset]) rfl ?_
        show Steps p.tables e below (T31.setTop (mkF m 56 #[.val (.int p1), .val (.int p2), .val (.int p3), .val (.ref d_p1), .val (.ref d_p2), .val (.int (1 : Int32)), .val (.int (0 : Int32)), .val (.ref ro), .val (.ref b30), .unset, .unset, .unset] [])) _
        refine st32 _ ?_
        show Steps p.tables e below (T32.setTop (mkF m 59 #[.val (.int p1), .val (.int p2), .val (.int p3), .val (.ref d_p1), .val (.ref d_p2), .val (.int (1 : Int32)), .val (.int (0 : Int32)), .val (.ref ro), .val (.ref b30), .unset, .unset, .unset] [(.ref w_CREATED_AT)])) _
        refine XS.astore X32.here hx rfl (hb hby at_59) rfl rfl (l' := #[.val (.int p1), .val (.int p2), .val (.int p3), .val (.ref d_p1), .val (.ref d_p2), .val (.int (1 : Int32)), .val (.int (0 : Int32)), .val (.ref ro), .val (.ref b30), .val (.ref w_CREATED_AT), .unset, .unset]) rfl ?_
        show Steps p.tables e below (T32.setTop (mkF m 61 #[.val (.int p1), .val (.int p2), .val (.int p3), .val (.ref d_p1), .val (.ref d_p2), .val (.int (1 : Int32)), .val (.int (0 : Int32)), .val (.ref ro), .val (.ref b30), .val (.ref w_CREATED_AT), .unset, .unset] [])) _
        refine XS.iload X32.here hx rfl (hb hby at_61) rfl ?_
        show Steps p.tables e below (T32.setTop (mkF m 63 #[.val (.int p1), .val (.int p2), .val (.int p3), .val (.ref d_p1), .val (.ref d_p2), .val (.int (1 : Int32)), .val (.int (0 : Int32)), .val (.ref ro), .val (.ref b30), .val (.ref w_CREATED_AT), .unset, .unset] [(.int (1 : Int32))])) _
        refine XS.ifNo X32.here hx rfl (hb hby at_63) rfl ((if0 _ _).trans (feq (by decide : ¬ ((1 : Int32) = (0 : Int32)))).1) ?_
        show Steps p.tables e below (T32.setTop (mkF m 66 #[.val (.int p1), .val (.int p2), .val (.int p3), .val (.ref d_p1), .val (.ref d_p2), .val (.int (1 : Int32)), .val (.int (0 : Int32)), .val (.ref ro), .val (.ref b30), .val (.ref w_CREATED_AT), .unset, .unset] [])) _
        refine XS.aload X32.here hx rfl (hb hby at_66) rfl rfl ?_
        show Steps p.tables e below (T32.setTop (mkF m 68 #[.val (.int p1), .val (.int p2), .val (.int p3), .val (.ref d_p1), .val (.ref d_p2), .val (.int (1 : Int32)), .val (.int (0 : Int32)), .val (.ref ro), .val (.ref b30), .val (.ref w_CREATED_AT), .unset, .unset] [(.ref b30)])) _
        refine XS.aload X32.here hx rfl (hb hby at_68) rfl rfl ?_
        show Steps p.tables e below (T32.setTop (mkF m 70 #[.val (.int p1), .val (.int p2), .val (.int p3), .val (.ref d_p1), .val (.ref d_p2), .val (.int (1 : Int32)), .val (.int (0 : Int32)), .val (.ref ro), .val (.ref b30), .val (.ref w_CREATED_AT), .unset, .unset] [(.ref ro), (.ref b30)])) _
        refine st33.trans ?_
        show Steps p.tables e below (T33.setTop (mkF m 73 #[.val (.int p1), .val (.int p2), .val (.int p3), .val (.ref d_p1), .val (.ref d_p2), .val (.int (1 : Int32)), .val (.int (0 : Int32)), .val (.ref ro), .val (.ref b30), .val (.ref w_CREATED_AT), .unset, .unset] [(.ref b30)])) _
        refine XS.pop X33.here hx rfl (hb hby at_73) rfl rfl ?_
        show Steps p.tables e below (T33.setTop (mkF m 74 #[.val (.int p1), .val (.int p2), .val (.int p3), .val (.ref d_p1), .val (.ref d_p2), .val (.int (1 : Int32)), .val (.int (0 : Int32)), .val (.ref ro), .val (.ref b30), .val (.ref w_CREATED_AT), .unset, .unset] [])) _
        refine XS.aload X33.here hx rfl (hb hby at_74) rfl rfl ?_
        show Steps p.tables e below (T33.setTop (mkF m 76 #[.val (.int p1), .val (.int p2), .val (.int p3), .val (.ref d_p1), .val (.ref d_p2), .val (.int (1 : Int32)), .val (.int (0 : Int32)), .val (.ref ro), .val (.ref b30), .val (.ref w_CREATED_AT), .unset, .unset] [(.ref ro)])) _
        refine XS.astore X33.here hx rfl (hb hby at_76) rfl rfl (l' := #[.val (.int p1), .val (.int p2), .val (.int p3), .val (.ref d_p1), .val (.ref d_p2), .val (.int (1 : Int32)), .val (.int (0 : Int32)), .val (.ref ro), .val (.ref b30), .val (.ref ro), .unset, .unset]) rfl ?_
        show Steps p.tables e below (T33.setTop (mkF m 78 #[.val (.int p1), .val (.int p2), .val (.int p3), .val (.ref d_p1), .val (.ref d_p2), .val (.int (1 : Int32)), .val (.int (0 : Int32)), .val (.ref ro), .val (.ref b30), .val (.ref ro), .unset, .unset] [])) _
        refine XS.aload X33.here hx rfl (hb hby at_78) rfl rfl ?_
        show Steps p.tables e below (T33.setTop (mkF m 80 #[.val (.int p1), .val (.int p2), .val (.int p3), .val (.ref d_p1), .val (.ref d_p2), .val (.int (1 : Int32)), .val (.int (0 : Int32)), .val (.ref ro), .val (.ref b30), .val (.ref ro), .unset, .unset] [(.ref b30)])) _
        refine XS.aloadN X33.here hx rfl (hb hby at_80) rfl rfl ?_
        show Steps p.tables e below (T33.setTop (mkF m 81 #[.val (.int p1), .val (.int p2), .val (.int p3), .val (.ref d_p1), .val (.ref d_p2), .val (.int (1 : Int32)), .val (.int (0 : Int32)), .val (.ref ro), .val (.ref b30), .val (.ref ro), .unset, .unset] [(.ref d_p1), (.ref b30)])) _
        refine st34.trans ?_
        show Steps p.tables e below (T34.setTop (mkF m 84 #[.val (.int p1), .val (.int p2), .val (.int p3), .val (.ref d_p1), .val (.ref d_p2), .val (.int (1 : Int32)), .val (.int (0 : Int32)), .val (.ref ro), .val (.ref b30), .val (.ref ro), .unset, .unset] [(.ref b30)])) _
        refine XS.astore X34.here hx rfl (hb hby at_84) rfl rfl (l' := #[.val (.int p1), .val (.int p2), .val (.int p3), .val (.ref d_p1), .val (.ref d_p2), .val (.int (1 : Int32)), .val (.int (0 : Int32)), .val (.ref ro), .val (.ref b30), .val (.ref ro), .val (.ref b30), .unset]) rfl ?_
        show Steps p.tables e below (T34.setTop (mkF m 86 #[.val (.int p1), .val (.int p2), .val (.int p3), .val (.ref d_p1), .val (.ref d_p2), .val (.int (1 : Int32)), .val (.int (0 : Int32)), .val (.ref ro), .val (.ref b30), .val (.ref ro), .val (.ref b30), .unset] [])) _
        refine XS.aload X34.here hx rfl (hb hby at_86) rfl rfl ?_
        show Steps p.tables e below (T34.setTop (mkF m 88 #[.val (.int p1), .val (.int p2), .val (.int p3), .val (.ref d_p1), .val (.ref d_p2), .val (.int (1 : Int32)), .val (.int (0 : Int32)), .val (.ref ro), .val (.ref b30), .val (.ref ro), .val (.ref b30), .unset] [(.ref b30)])) _
        refine XS.aload X34.here hx rfl (hb hby at_88) rfl rfl ?_
        show Steps p.tables e below (T34.setTop (mkF m 90 #[.val (.int p1), .val (.int p2), .val (.int p3), .val (.ref d_p1), .val (.ref d_p2), .val (.int (1 : Int32)), .val (.int (0 : Int32)), .val (.ref ro), .val (.ref b30), .val (.ref ro), .val (.ref b30), .unset] [(.ref b30), (.ref b30)])) _
        refine Jvm.RoadKit.acmp (g := (mkF m 90 #[.val (.int p1), .val (.int p2), .val (.int p3), .val (.ref d_p1), .val (.ref d_p2), .val (.int (1 : Int32)), .val (.int (0 : Int32)), .val (.ref ro), .val (.ref b30), .val (.ref ro), .val (.ref b30), .unset] [(.ref b30), (.ref b30)])) X34 hx rfl rfl rfl (pc0 := 90) (pc' := 95) (same := true) rfl (hb hby at_90) rfl (decide_eq_true rfl) (by decide) (by decide) ?_
        show Steps p.tables e below (T34.setTop (mkF m 95 #[.val (.int p1), .val (.int p2), .val (.int p3), .val (.ref d_p1), .val (.ref d_p2), .val (.int (1 : Int32)), .val (.int (0 : Int32)), .val (.ref ro), .val (.ref b30), .val (.ref ro), .val (.ref b30), .unset] [])) _
        refine XS.aload X34.here hx rfl (hb hby at_95) rfl rfl ?_
        show Steps p.tables e below (T34.setTop (mkF m 97 #[.val (.int p1), .val (.int p2), .val (.int p3), .val (.ref d_p1), .val (.ref d_p2), .val (.int (1 : Int32)), .val (.int (0 : Int32)), .val (.ref ro), .val (.ref b30), .val (.ref ro), .val (.ref b30), .unset] [(.ref b30)])) _
        refine st35.trans ?_
        show Steps p.tables e below (T35.setTop (mkF m 100 #[.val (.int p1), .val (.int p2), .val (.int p3), .val (.ref d_p1), .val (.ref d_p2), .val (.int (1 : Int32)), .val (.int (0 : Int32)), .val (.ref ro), .val (.ref b30), .val (.ref ro), .val (.ref b30), .unset] [(.ref d_p1)])) _
        refine XS.aloadN X35.here hx rfl (hb hby at_100) rfl rfl ?_
        show Steps p.tables e below (T35.setTop (mkF m 101 #[.val (.int p1), .val (.int p2), .val (.int p3), .val (.ref d_p1), .val (.ref d_p2), .val (.int (1 : Int32)), .val (.int (0 : Int32)), .val (.ref ro), .val (.ref b30), .val (.ref ro), .val (.ref b30), .unset] [(.ref d_p1), (.ref d_p1)])) _
        refine Jvm.RoadKit.acmp (g := (mkF m 101 #[.val (.int p1), .val (.int p2), .val (.int p3), .val (.ref d_p1), .val (.ref d_p2), .val (.int (1 : Int32)), .val (.int (0 : Int32)), .val (.ref ro), .val (.ref b30), .val (.ref ro), .val (.ref b30), .unset] [(.ref d_p1), (.ref d_p1)])) X35 hx rfl rfl rfl (pc0 := 101) (pc' := 106) (same := true) rfl (hb hby at_101) rfl (decide_eq_true rfl) (by decide) (by decide) ?_
        show Steps p.tables e below (T35.setTop (mkF m 106 #[.val (.int p1), .val (.int p2), .val (.int p3), .val (.ref d_p1), .val (.ref d_p2), .val (.int (1 : Int32)), .val (.int (0 : Int32)), .val (.ref ro), .val (.ref b30), .val (.ref ro), .val (.ref b30), .unset] [])) _
        refine XS.iload X35.here hx rfl (hb hby at_106) rfl ?_
        show Steps p.tables e below (T35.setTop (mkF m 108 #[.val (.int p1), .val (.int p2), .val (.int p3), .val (.ref d_p1), .val (.ref d_p2), .val (.int (1 : Int32)), .val (.int (0 : Int32)), .val (.ref ro), .val (.ref b30), .val (.ref ro), .val (.ref b30), .unset] [(.int (0 : Int32))])) _
        refine XS.ifYes X35.here hx rfl (pc0 := 108) (pc' := 141) rfl (hb hby at_108) rfl ((if0 _ _).trans (teq (rfl : (0 : Int32) = (0 : Int32))).1) (by decide) (by decide) ?_
        show Steps p.tables e below (T35.setTop (mkF m 141 #[.val (.int p1), .val (.int p2), .val (.int p3), .val (.ref d_p1), .val (.ref d_p2), .val (.int (1 : Int32)), .val (.int (0 : Int32)), .val (.ref ro), .val (.ref b30), .val (.ref ro), .val (.ref b30), .unset] [])) _
        refine XS.aload X35.here hx rfl (hb hby at_141) rfl rfl ?_
        show Steps p.tables e below (T35.setTop (mkF m 143 #[.val (.int p1), .val (.int p2), .val (.int p3), .val (.ref d_p1), .val (.ref d_p2), .val (.int (1 : Int32)), .val (.int (0 : Int32)), .val (.ref ro), .val (.ref b30), .val (.ref ro), .val (.ref b30), .unset] [(.ref b30)])) _
        refine st36.trans ?_
        show Steps p.tables e below (T36.setTop (mkF m 146 #[.val (.int p1), .val (.int p2), .val (.int p3), .val (.ref d_p1), .val (.ref d_p2), .val (.int (1 : Int32)), .val (.int (0 : Int32)), .val (.ref ro), .val (.ref b30), .val (.ref ro), .val (.ref b30), .unset] [(.ref ro)])) _
        refine XS.aload X36.here hx rfl (hb hby at_146) rfl rfl ?_
        show Steps p.tables e below (T36.setTop (mkF m 148 #[.val (.int p1), .val (.int p2), .val (.int p3), .val (.ref d_p1), .val (.ref d_p2), .val (.int (1 : Int32)), .val (.int (0 : Int32)), .val (.ref ro), .val (.ref b30), .val (.ref ro), .val (.ref b30), .unset] [(.ref ro), (.ref ro)])) _
        refine Jvm.RoadKit.acmp (g := (mkF m 148 #[.val (.int p1), .val (.int p2), .val (.int p3), .val (.ref d_p1), .val (.ref d_p2), .val (.int (1 : Int32)), .val (.int (0 : Int32)), .val (.ref ro), .val (.ref b30), .val (.ref ro), .val (.ref b30), .unset] [(.ref ro), (.ref ro)])) X36 hx rfl rfl rfl (pc0 := 148) (pc' := 151) (same := true) rfl (hb hby at_148) rfl (decide_eq_true rfl) (by decide) (by decide) ?_
        show Steps p.tables e below (T36.setTop (mkF m 151 #[.val (.int p1), .val (.int p2), .val (.int p3), .val (.ref d_p1), .val (.ref d_p2), .val (.int (1 : Int32)), .val (.int (0 : Int32)), .val (.ref ro), .val (.ref b30), .val (.ref ro), .val (.ref b30), .unset] [])) _
        refine XS.aload X36.here hx rfl (hb hby at_151) rfl rfl ?_
        show Steps p.tables e below (T36.setTop (mkF m 153 #[.val (.int p1), .val (.int p2), .val (.int p3), .val (.ref d_p1), .val (.ref d_p2), .val (.int (1 : Int32)), .val (.int (0 : Int32)), .val (.ref ro), .val (.ref b30), .val (.ref ro), .val (.ref b30), .unset] [(.ref b30)])) _
        refine st37.trans ?_
        show Steps p.tables e below (T37.setTop (mkF m 156 #[.val (.int p1), .val (.int p2), .val (.int p3), .val (.ref d_p1), .val (.ref d_p2), .val (.int (1 : Int32)), .val (.int (0 : Int32)), .val (.ref ro), .val (.ref b30), .val (.ref ro), .val (.ref b30), .unset] [(.int (0 : Int32))])) _
        refine XS.ifNo X37.here hx rfl (hb hby at_156) rfl ((if0 _ _).trans (teq (rfl : (0 : Int32) = (0 : Int32))).2) ?_
        show Steps p.tables e below (T37.setTop (mkF m 159 #[.val (.int p1), .val (.int p2), .val (.int p3), .val (.ref d_p1), .val (.ref d_p2), .val (.int (1 : Int32)), .val (.int (0 : Int32)), .val (.ref ro), .val (.ref b30), .val (.ref ro), .val (.ref b30), .unset] [])) _
        refine XS.iconst X37.here hx rfl (hb hby at_159) ?_
        show Steps p.tables e below (T37.setTop (mkF m 160 #[.val (.int p1), .val (.int p2), .val (.int p3), .val (.ref d_p1), .val (.ref d_p2), .val (.int (1 : Int32)), .val (.int (0 : Int32)), .val (.ref ro), .val (.ref b30), .val (.ref ro), .val (.ref b30), .unset] [(.int (1 : Int32))])) _
        refine XS.goto X37.here hx rfl (pc0 := 160) (pc' := 164) rfl (hb hby at_160) (by decide) (by decide) ?_
        exact kt
      obtain ⟨fs, hr, hrun, hended, hW⟩ := X37.leaveW hS (by rw [hE37]; exact (Nat.le_refl _)) (v := some (.int (1 : Int32))) (fun h => by rw [Bd.returns] at h; cases h)
      refine ⟨_, _, pre38 _ ?_, hrun, hended, _, _, rfl, ?_, ⟨_, rfl⟩, hW.2.1, hW.2.2.1, hW.2.2.2.mono (by decide) (by decide)⟩
      · show Steps p.tables e below (T37.setTop (mkF m 164 #[.val (.int p1), .val (.int p2), .val (.int p3), .val (.ref d_p1), .val (.ref d_p2), .val (.int (1 : Int32)), .val (.int (0 : Int32)), .val (.ref ro), .val (.ref b30), .val (.ref ro), .val (.ref b30), .unset] [(.int (1 : Int32))])) _
        exact retN X37 hx (t := .boolean) Bd.returns (by simp) (hb hby at_164) hr
      · show Q0 Z h0 n0 _ T37.heap _
        rw [hE37]
        exact ⟨rfl, N37⟩
    · obtain ⟨ro, hro⟩ : ∃ z, z = own_pick ((p3 &&& (2147483647 : Int32)) % (6 : Int32)) w_ID w_NAME w_PATH w_CREATED_AT w_UPDATED_AT w_LAST_ACTIVITY_AT := ⟨_, rfl⟩
      have E_ro := own_epick (i := (p3 &&& (2147483647 : Int32)) % (6 : Int32)) E_ID E_NAME E_PATH E_CREATED_AT E_UPDATED_AT E_LAST_ACTIVITY_AT
      rw [← hro] at E_ro
      obtain ⟨_, _, ⟨T39, L39, k39, n39⟩, -, X39, ⟨Lc39, hQ39, l39, y39, z39⟩, st39⟩ := Jvm.LawKit.callS X2 hx (y := (⟨"com/example/wee_forge/weeforge/model/ProjectFilterSortPinLaw", "order", "(I)Lcom/example/wee_forge/weeforge/model/ProjectOrder;"⟩ : MethodName)) hown (mvT hZ (hw _ (List.mem_of_getElem? (i := 9) rfl))) (mvT hZ (hw _ (List.mem_of_getElem? (i := 10) rfl))) (mvT hZ (hw _ (List.mem_of_getElem? (i := 2) rfl))) (mvT hZ (hw _ (List.mem_of_getElem? (i := 11) rfl))) (by decide) (backOf (W := 0) (rmO l Z a0 hw [] p3 w_ID w_NAME w_PATH w_CREATED_AT w_UPDATED_AT w_LAST_ACTIVITY_AT ro h0 n0 Z0 S_ID S_NAME S_PATH S_CREATED_AT S_UPDATED_AT S_LAST_ACTIVITY_AT hro) hZ (hw _ (List.mem_of_getElem? (i := 11) rfl)) (hw _ (List.mem_of_getElem? (i := 2) rfl)) (by decide) (by decide)) (g := (mkF m 42 #[.val (.int p1), .val (.int p2), .val (.int p3), .val (.ref d_p1), .val (.ref d_p2), .val (.int (1 : Int32)), .val (.int (1 : Int32)), .unset, .unset, .unset, .unset, .unset] [(.int p3)])) rfl (by rw [hml]; rfl) (argsL := [(.int p3)]) (rest := []) (lenOf pd_rm0_1 rfl) rfl (by show 2 * 0 + _ ≤ _; exact Nat.le_of_eq rfl) (hb hby at_42) (fun _ _ => ⟨rfl, hE2, (by decide : 0 + 0 ≤ _), (by decide : 0 + 0 ≤ _)⟩)
      dsimp only [Pt.U, Pt.locs, Pt.cells, Pt.slots] at X39 l39 y39 z39 st39 hQ39
      subst l39 y39 z39
      obtain ⟨rfl, N39q, hE39⟩ := hQ39
      have N39 := Fr.app N2 N39q
      obtain ⟨T40, h40, X40, e40, E40, A40, D40, -, st40⟩ := newO X39 hx hZ hown (hw _ (List.mem_of_getElem? (i := 16) rfl)) (hw _ (List.mem_of_getElem? (i := 17) rfl)) (hw _ (List.mem_of_getElem? (i := 18) rfl)) hE39 (g := (mkF m 47 #[.val (.int p1), .val (.int p2), .val (.int p3), .val (.ref d_p1), .val (.ref d_p2), .val (.int (1 : Int32)), .val (.int (1 : Int32)), .val (.ref ro), .unset, .unset, .unset, .unset] [])) rfl (hb hby at_47) (by decide) (by decide)
      obtain ⟨b40, g40⟩ : ∃ z, z = h0.size := ⟨_, rfl⟩
      rw [← g40] at A40 D40 st40
      have g_b40 : n0 ≤ b40 := Nat.le_trans Z0 (Nat.le_of_eq g40.symm)
      have F_searchTerms_b40 : Fld Z h40 b40 "com/example/wee_forge/weeforge/model/ProjectFilter" "searchTerms" "Ljava/util/List;" .null := D40 (Or.inl (hw _ (List.mem_of_getElem? (i := 32) rfl))) (ty := (.object "java/util/List")) (by decide)
      have F_topics_b40 : Fld Z h40 b40 "com/example/wee_forge/weeforge/model/ProjectFilter" "topics" "Ljava/util/List;" .null := D40 (Or.inl (hw _ (List.mem_of_getElem? (i := 34) rfl))) (ty := (.object "java/util/List")) (by decide)
      have F_lastActivity_b40 : Fld Z h40 b40 "com/example/wee_forge/weeforge/model/ProjectFilter" "lastActivity" "Lcom/example/wee_forge/weeforge/model/TimeRange;" .null := D40 (Or.inl (hw _ (List.mem_of_getElem? (i := 39) rfl))) (ty := (.object "com/example/wee_forge/weeforge/model/TimeRange")) (by decide)
      have F_updated_b40 : Fld Z h40 b40 "com/example/wee_forge/weeforge/model/ProjectFilter" "updated" "Lcom/example/wee_forge/weeforge/model/TimeRange;" .null := D40 (Or.inl (hw _ (List.mem_of_getElem? (i := 41) rfl))) (ty := (.object "com/example/wee_forge/weeforge/model/TimeRange")) (by decide)
      have F_idAfter_b40 : Fld Z h40 b40 "com/example/wee_forge/weeforge/model/ProjectFilter" "idAfter" "Ljava/util/OptionalLong;" .null := D40 (Or.inl (hw _ (List.mem_of_getElem? (i := 48) rfl))) (ty := (.object "java/util/OptionalLong")) (by decide)
      have F_idBefore_b40 : Fld Z h40 b40 "com/example/wee_forge/weeforge/model/ProjectFilter" "idBefore" "Ljava/util/OptionalLong;" .null := D40 (Or.inl (hw _ (List.mem_of_getElem? (i := 50) rfl))) (ty := (.object "java/util/OptionalLong")) (by decide)
      have F_orderBy_b40 : Fld Z h40 b40 "com/example/wee_forge/weeforge/model/ProjectFilter" "orderBy" "Lcom/example/wee_forge/weeforge/model/ProjectOrder;" .null := D40 (Or.inl (hw _ (List.mem_of_getElem? (i := 54) rfl))) (ty := (.object "com/example/wee_forge/weeforge/model/ProjectOrder")) (by decide)
      have F_sort_b40 : Fld Z h40 b40 "com/example/wee_forge/weeforge/model/ProjectFilter" "sort" "Lcom/example/wee_forge/weeforge/model/SortDirection;" .null := D40 (Or.inl (hw _ (List.mem_of_getElem? (i := 57) rfl))) (ty := (.object "com/example/wee_forge/weeforge/model/SortDirection")) (by decide)
      have F_starredOnly_b40 : Fld Z h40 b40 "com/example/wee_forge/weeforge/model/ProjectFilter" "starredOnly" "Z" (.int (0 : Int32)) := D40 (Or.inl (hw _ (List.mem_of_getElem? (i := 94) rfl))) (ty := .boolean) (by decide)
      obtain ⟨_, _, ⟨T41, L41, k41, n41⟩, -, X41, ⟨Lc41, hQ41, l41, y41, z41⟩, st41⟩ := X40.specialBack hx (y := (⟨"com/example/wee_forge/weeforge/model/ProjectFilter", "<init>", "()V"⟩ : MethodName)) rfl hown (mvT hZ (hw _ (List.mem_of_getElem? (i := 19) rfl))) (mvT hZ (hw _ (List.mem_of_getElem? (i := 20) rfl))) (mvT hZ (hw _ (List.mem_of_getElem? (i := 21) rfl))) (by decide) (backOf (W := 1) (rmC l Z a0 hw [] b40 w_ANY w_CREATED_AT w_DESC wEL wOL h40 n0 (Nat.le_trans Z0 E40.1) A40 F_searchTerms_b40 F_topics_b40 F_lastActivity_b40 F_updated_b40 F_idAfter_b40 F_idBefore_b40 F_orderBy_b40 F_sort_b40 F_starredOnly_b40 g_b40 (Sta.ext E40 S_ANY) (Sta.ext E40 S_CREATED_AT) (Sta.ext E40 S_DESC) (Sta.ext E40 S_EL) (Sta.ext E40 S_OL)) hZ (hw _ (List.mem_of_getElem? (i := 21) rfl)) (hw _ (List.mem_of_getElem? (i := 18) rfl)) (by decide) (by decide)) (g := (mkF m 51 #[.val (.int p1), .val (.int p2), .val (.int p3), .val (.ref d_p1), .val (.ref d_p2), .val (.int (1 : Int32)), .val (.int (1 : Int32)), .val (.ref ro), .unset, .unset, .unset, .unset] [(.ref b40), (.ref b40)])) rfl (by rw [hml]; rfl) (Steps.refl _) (a := b40) (argsL := []) (rest := [(.ref b40)]) (lenOf pd_rm0_2 rfl) rfl (by show 2 * 0 + _ ≤ _; exact Nat.le_of_eq rfl) (hb hby at_51) (fun _ _ => ⟨rfl, e40, (by decide : 1 + 0 ≤ _), (by decide : 12 + 0 ≤ _)⟩)
      dsimp only [Pt.U, Pt.locs, Pt.cells, Pt.slots] at X41 l41 y41 z41 st41 hQ41
      subst l41 y41 z41
      obtain ⟨rfl, N41q, K41, Ei41, Fs41, Fo41, Fb41⟩ := hQ41
      have N41 := Fr.app N39 N41q
      obtain ⟨T42, X42, e42, st42⟩ := getS2 X41 hx hZ hown (host := "") (Or.inl (hw _ (List.mem_of_getElem? (i := 58) rfl))) Via.refl rfl (own_staK (Sta.ext E40 S_CREATED_AT) K41 (allS ⟨_, A40⟩ all0)) (g := (mkF m 56 #[.val (.int p1), .val (.int p2), .val (.int p3), .val (.ref d_p1), .val (.ref d_p2), .val (.int (1 : Int32)), .val (.int (1 : Int32)), .val (.ref ro), .val (.ref b40), .unset, .unset, .unset] [])) rfl (hb hby at_56)
      obtain ⟨cq43, kq43, q43a, q43b, q43c⟩ := isOf hZ e42 Ei41
      obtain ⟨_, _, ⟨T43, L43, k43, n43⟩, -, X43, hSb43, hgr43, ⟨Lc43, hQ43, l43, y43, z43⟩, st43⟩ := X42.virtualBackS hx (y := (⟨"com/example/wee_forge/weeforge/model/ProjectFilter", "orderBy", "(Lcom/example/wee_forge/weeforge/model/ProjectOrder;)Lcom/example/wee_forge/weeforge/model/ProjectFilter;"⟩ : MethodName)) (z := (⟨"com/example/wee_forge/weeforge/model/ProjectFilter", "orderBy", "(Lcom/example/wee_forge/weeforge/model/ProjectOrder;)Lcom/example/wee_forge/weeforge/model/ProjectFilter;"⟩ : MethodName)) hown (mvT hZ (hw _ (List.mem_of_getElem? (i := 97) rfl))) (mvT hZ (hw _ (List.mem_of_getElem? (i := 98) rfl))) (notFace_of_selects (args := #[]) (mvT hZ (hw _ (List.mem_of_getElem? (i := 100) rfl)))) (mvT hZ (hw _ (List.mem_of_getElem? (i := 100) rfl))) (mvT hZ (hw _ (List.mem_of_getElem? (i := 99) rfl))) (by decide) (backOfS (W := 0) (rm_orderBy l Z a0 hw [] b40 ro w_DESC w_CREATED_AT (0 : Int32) T41.heap n0 (Nat.le_trans (Nat.le_trans Z0 E40.1) K41.1) Ei41 Fs41 Fo41 Fb41 g_b40 ((Exa.ext E40 E_ro).keep K41)) hZ (hw _ (List.mem_of_getElem? (i := 101) rfl)) (hw _ (List.mem_of_getElem? (i := 18) rfl)) (by decide) (by decide)) q43a q43c (g := (mkF m 70 #[.val (.int p1), .val (.int p2), .val (.int p3), .val (.ref d_p1), .val (.ref d_p2), .val (.int (1 : Int32)), .val (.int (1 : Int32)), .val (.ref ro), .val (.ref b40), .val (.ref w_CREATED_AT), .unset, .unset] [(.ref ro), (.ref b40)])) rfl (by rw [hml]; rfl) (Steps.refl _) (argsL := [(.ref ro)]) (rest := []) (lenOf pd_rm0_7 rfl) rfl (by show 2 * 0 + _ ≤ _; exact Nat.le_of_eq rfl) (hb hby at_70) (fun _ _ => ⟨rfl, e42, (by decide : 1 + 2 ≤ _), (by decide : 12 + 32 ≤ _)⟩)
      dsimp only [Pt.U, Pt.locs, Pt.cells, Pt.slots] at X43 l43 y43 z43 st43 hQ43 hSb43 hgr43
      subst l43 y43 z43
      obtain ⟨X43, hS, hZ, hown⟩ := rebS hS (by rw [e42]; exact (Nat.le_trans (Nat.le_trans hk E40.1) K41.1)) X43 hSb43 hgr43 hZ hown
      obtain ⟨rfl, N43q, K43, Ei43, Fs43, Fo43, Fb43⟩ := hQ43
      have N43 := Fr.app N41 N43q
      obtain ⟨cq44, kq44, q44a, q44b, q44c⟩ := isOf hZ rfl Ei43
      obtain ⟨_, _, ⟨T44, L44, k44, n44⟩, -, X44, hSb44, hgr44, ⟨Lc44, hQ44, l44, y44, z44⟩, st44⟩ := X43.virtualBackS hx (y := (⟨"com/example/wee_forge/weeforge/model/ProjectFilter", "sort", "(Lcom/example/wee_forge/weeforge/model/SortDirection;)Lcom/example/wee_forge/weeforge/model/ProjectFilter;"⟩ : MethodName)) (z := (⟨"com/example/wee_forge/weeforge/model/ProjectFilter", "sort", "(Lcom/example/wee_forge/weeforge/model/SortDirection;)Lcom/example/wee_forge/weeforge/model/ProjectFilter;"⟩ : MethodName)) hown (mvT hZ (hw _ (List.mem_of_getElem? (i := 59) rfl))) (mvT hZ (hw _ (List.mem_of_getElem? (i := 60) rfl))) (notFace_of_selects (args := #[]) (mvT hZ (hw _ (List.mem_of_getElem? (i := 62) rfl)))) (mvT hZ (hw _ (List.mem_of_getElem? (i := 62) rfl))) (mvT hZ (hw _ (List.mem_of_getElem? (i := 61) rfl))) (by decide) (backOfS (W := 0) (rm_sort l Z a0 hw [] b40 d_p1 w_DESC ro (0 : Int32) T43.heap n0 (Nat.le_trans (Nat.le_trans (Nat.le_trans Z0 E40.1) K41.1) K43.1) Ei43 Fs43 Fo43 Fb43 g_b40 (((Exa.ext E40 E_d_p1).keep K41).keep K43)) hZ (hw _ (List.mem_of_getElem? (i := 63) rfl)) (hw _ (List.mem_of_getElem? (i := 18) rfl)) (by decide) (by decide)) q44a q44c (g := (mkF m 81 #[.val (.int p1), .val (.int p2), .val (.int p3), .val (.ref d_p1), .val (.ref d_p2), .val (.int (1 : Int32)), .val (.int (1 : Int32)), .val (.ref ro), .val (.ref b40), .val (.ref ro), .unset, .unset] [(.ref d_p1), (.ref b40)])) rfl (by rw [hml]; rfl) (Steps.refl _) (argsL := [(.ref d_p1)]) (rest := []) (lenOf pd_rm0_3 rfl) rfl (by show 2 * 0 + _ ≤ _; exact Nat.le_of_eq rfl) (hb hby at_81) (fun _ _ => ⟨rfl, rfl, (by decide : 3 + 2 ≤ _), (by decide : 44 + 20 ≤ _)⟩)
      dsimp only [Pt.U, Pt.locs, Pt.cells, Pt.slots] at X44 l44 y44 z44 st44 hQ44 hSb44 hgr44
      subst l44 y44 z44
      obtain ⟨X44, hS, hZ, hown⟩ := rebS hS (Nat.le_refl _) X44 hSb44 hgr44 hZ hown
      obtain ⟨rfl, N44q, K44, Ei44, Fs44, Fo44, Fb44⟩ := hQ44
      have N44 := Fr.app N43 N44q
      obtain ⟨cq45, kq45, q45a, q45b, q45c⟩ := isOf hZ rfl Ei44
      obtain ⟨_, _, ⟨T45, L45, k45, n45⟩, -, X45, ⟨Lc45, hQ45, l45, y45, z45⟩, st45⟩ := X44.virtualBack hx (y := (⟨"com/example/wee_forge/weeforge/model/ProjectFilter", "sort", "()Lcom/example/wee_forge/weeforge/model/SortDirection;"⟩ : MethodName)) (z := (⟨"com/example/wee_forge/weeforge/model/ProjectFilter", "sort", "()Lcom/example/wee_forge/weeforge/model/SortDirection;"⟩ : MethodName)) hown (mvT hZ (hw _ (List.mem_of_getElem? (i := 78) rfl))) (mvT hZ (hw _ (List.mem_of_getElem? (i := 79) rfl))) (notFace_of_selects (args := #[]) (mvT hZ (hw _ (List.mem_of_getElem? (i := 81) rfl)))) (mvT hZ (hw _ (List.mem_of_getElem? (i := 81) rfl))) (mvT hZ (hw _ (List.mem_of_getElem? (i := 80) rfl))) (by decide) (backOf (W := 0) (rmg_sort l Z a0 hw [] b40 d_p1 T44.heap n0 (Nat.le_trans (Nat.le_trans (Nat.le_trans (Nat.le_trans Z0 E40.1) K41.1) K43.1) K44.1) Fs44) hZ (hw _ (List.mem_of_getElem? (i := 82) rfl)) (hw _ (List.mem_of_getElem? (i := 18) rfl)) (by decide) (by decide)) q45a q45c (g := (mkF m 97 #[.val (.int p1), .val (.int p2), .val (.int p3), .val (.ref d_p1), .val (.ref d_p2), .val (.int (1 : Int32)), .val (.int (1 : Int32)), .val (.ref ro), .val (.ref b40), .val (.ref ro), .val (.ref b40), .unset] [(.ref b40)])) rfl (by rw [hml]; rfl) (Steps.refl _) (argsL := []) (rest := []) (lenOf pd_rm0_4 rfl) rfl (by show 2 * 0 + _ ≤ _; exact Nat.le_of_eq rfl) (hb hby at_97) (fun _ _ => ⟨rfl, rfl, (by decide : 5 + 0 ≤ _), (by decide : 64 + 0 ≤ _)⟩)
      dsimp only [Pt.U, Pt.locs, Pt.cells, Pt.slots] at X45 l45 y45 z45 st45 hQ45
      subst l45 y45 z45
      obtain ⟨rfl, N45q, hE45⟩ := hQ45
      have N45 := Fr.app N44 N45q
      obtain ⟨cq46, kq46, q46a, q46b, q46c⟩ := isOf hZ hE45 Ei44
      obtain ⟨_, _, ⟨T46, L46, k46, n46⟩, -, X46, hSb46, hgr46, ⟨Lc46, hQ46, l46, y46, z46⟩, st46⟩ := X45.virtualBackS hx (y := (⟨"com/example/wee_forge/weeforge/model/ProjectFilter", "sort", "(Lcom/example/wee_forge/weeforge/model/SortDirection;)Lcom/example/wee_forge/weeforge/model/ProjectFilter;"⟩ : MethodName)) (z := (⟨"com/example/wee_forge/weeforge/model/ProjectFilter", "sort", "(Lcom/example/wee_forge/weeforge/model/SortDirection;)Lcom/example/wee_forge/weeforge/model/ProjectFilter;"⟩ : MethodName)) hown (mvT hZ (hw _ (List.mem_of_getElem? (i := 59) rfl))) (mvT hZ (hw _ (List.mem_of_getElem? (i := 60) rfl))) (notFace_of_selects (args := #[]) (mvT hZ (hw _ (List.mem_of_getElem? (i := 62) rfl)))) (mvT hZ (hw _ (List.mem_of_getElem? (i := 62) rfl))) (mvT hZ (hw _ (List.mem_of_getElem? (i := 61) rfl))) (by decide) (backOfS (W := 0) (rm_sort l Z a0 hw [] b40 d_p2 d_p1 ro (0 : Int32) T44.heap n0 (Nat.le_trans (Nat.le_trans (Nat.le_trans (Nat.le_trans Z0 E40.1) K41.1) K43.1) K44.1) Ei44 Fs44 Fo44 Fb44 g_b40 ((((Exa.ext E40 E_d_p2).keep K41).keep K43).keep K44)) hZ (hw _ (List.mem_of_getElem? (i := 63) rfl)) (hw _ (List.mem_of_getElem? (i := 18) rfl)) (by decide) (by decide)) q46a q46c (g := (mkF m 115 #[.val (.int p1), .val (.int p2), .val (.int p3), .val (.ref d_p1), .val (.ref d_p2), .val (.int (1 : Int32)), .val (.int (1 : Int32)), .val (.ref ro), .val (.ref b40), .val (.ref ro), .val (.ref b40), .unset] [(.ref d_p2), (.ref b40)])) rfl (by rw [hml]; rfl) (Steps.refl _) (argsL := [(.ref d_p2)]) (rest := []) (lenOf pd_rm0_3 rfl) rfl (by show 2 * 0 + _ ≤ _; exact Nat.le_of_eq rfl) (hb hby at_115) (fun _ _ => ⟨rfl, hE45, (by decide : 5 + 2 ≤ _), (by decide : 64 + 20 ≤ _)⟩)
      dsimp only [Pt.U, Pt.locs, Pt.cells, Pt.slots] at X46 l46 y46 z46 st46 hQ46 hSb46 hgr46
      subst l46 y46 z46
      obtain ⟨X46, hS, hZ, hown⟩ := rebS hS (by rw [hE45]; exact (Nat.le_refl _)) X46 hSb46 hgr46 hZ hown
      obtain ⟨rfl, N46q, K46, Ei46, Fs46, Fo46, Fb46⟩ := hQ46
      have N46 := Fr.app N45 N46q
      obtain ⟨cq47, kq47, q47a, q47b, q47c⟩ := isOf hZ rfl Ei46
      obtain ⟨_, _, ⟨T47, L47, k47, n47⟩, -, X47, ⟨Lc47, hQ47, l47, y47, z47⟩, st47⟩ := X46.virtualBack hx (y := (⟨"com/example/wee_forge/weeforge/model/ProjectFilter", "sort", "()Lcom/example/wee_forge/weeforge/model/SortDirection;"⟩ : MethodName)) (z := (⟨"com/example/wee_forge/weeforge/model/ProjectFilter", "sort", "()Lcom/example/wee_forge/weeforge/model/SortDirection;"⟩ : MethodName)) hown (mvT hZ (hw _ (List.mem_of_getElem? (i := 78) rfl))) (mvT hZ (hw _ (List.mem_of_getElem? (i := 79) rfl))) (notFace_of_selects (args := #[]) (mvT hZ (hw _ (List.mem_of_getElem? (i := 81) rfl)))) (mvT hZ (hw _ (List.mem_of_getElem? (i := 81) rfl))) (mvT hZ (hw _ (List.mem_of_getElem? (i := 80) rfl))) (by decide) (backOf (W := 0) (rmg_sort l Z a0 hw [] b40 d_p2 T46.heap n0 (Nat.le_trans (Nat.le_trans (Nat.le_trans (Nat.le_trans (Nat.le_trans Z0 E40.1) K41.1) K43.1) K44.1) K46.1) Fs46) hZ (hw _ (List.mem_of_getElem? (i := 82) rfl)) (hw _ (List.mem_of_getElem? (i := 18) rfl)) (by decide) (by decide)) q47a q47c (g := (mkF m 131 #[.val (.int p1), .val (.int p2), .val (.int p3), .val (.ref d_p1), .val (.ref d_p2), .val (.int (1 : Int32)), .val (.int (1 : Int32)), .val (.ref ro), .val (.ref b40), .val (.ref ro), .val (.ref b40), .val (.ref b40)] [(.ref b40)])) rfl (by rw [hml]; rfl) (Steps.refl _) (argsL := []) (rest := []) (lenOf pd_rm0_4 rfl) rfl (by show 2 * 0 + _ ≤ _; exact Nat.le_of_eq rfl) (hb hby at_131) (fun _ _ => ⟨rfl, rfl, (by decide : 7 + 0 ≤ _), (by decide : 84 + 0 ≤ _)⟩)
      dsimp only [Pt.U, Pt.locs, Pt.cells, Pt.slots] at X47 l47 y47 z47 st47 hQ47
      subst l47 y47 z47
      obtain ⟨rfl, N47q, hE47⟩ := hQ47
      have N47 := Fr.app N46 N47q
      obtain ⟨cq48, kq48, q48a, q48b, q48c⟩ := isOf hZ hE47 Ei46
      obtain ⟨_, _, ⟨T48, L48, k48, n48⟩, -, X48, ⟨Lc48, hQ48, l48, y48, z48⟩, st48⟩ := X47.virtualBack hx (y := (⟨"com/example/wee_forge/weeforge/model/ProjectFilter", "orderBy", "()Lcom/example/wee_forge/weeforge/model/ProjectOrder;"⟩ : MethodName)) (z := (⟨"com/example/wee_forge/weeforge/model/ProjectFilter", "orderBy", "()Lcom/example/wee_forge/weeforge/model/ProjectOrder;"⟩ : MethodName)) hown (mvT hZ (hw _ (List.mem_of_getElem? (i := 83) rfl))) (mvT hZ (hw _ (List.mem_of_getElem? (i := 84) rfl))) (notFace_of_selects (args := #[]) (mvT hZ (hw _ (List.mem_of_getElem? (i := 86) rfl)))) (mvT hZ (hw _ (List.mem_of_getElem? (i := 86) rfl))) (mvT hZ (hw _ (List.mem_of_getElem? (i := 85) rfl))) (by decide) (backOf (W := 0) (rmg_orderBy l Z a0 hw [] b40 ro T46.heap n0 (Nat.le_trans (Nat.le_trans (Nat.le_trans (Nat.le_trans (Nat.le_trans Z0 E40.1) K41.1) K43.1) K44.1) K46.1) Fo46) hZ (hw _ (List.mem_of_getElem? (i := 87) rfl)) (hw _ (List.mem_of_getElem? (i := 18) rfl)) (by decide) (by decide)) q48a q48c (g := (mkF m 143 #[.val (.int p1), .val (.int p2), .val (.int p3), .val (.ref d_p1), .val (.ref d_p2), .val (.int (1 : Int32)), .val (.int (1 : Int32)), .val (.ref ro), .val (.ref b40), .val (.ref ro), .val (.ref b40), .val (.ref b40)] [(.ref b40)])) rfl (by rw [hml]; rfl) (Steps.refl _) (argsL := []) (rest := []) (lenOf pd_rm0_5 rfl) rfl (by show 2 * 0 + _ ≤ _; exact Nat.le_of_eq rfl) (hb hby at_143) (fun _ _ => ⟨rfl, hE47, (by decide : 7 + 0 ≤ _), (by decide : 84 + 0 ≤ _)⟩)
      dsimp only [Pt.U, Pt.locs, Pt.cells, Pt.slots] at X48 l48 y48 z48 st48 hQ48
      subst l48 y48 z48
      obtain ⟨rfl, N48q, hE48⟩ := hQ48
      have N48 := Fr.app N47 N48q
      obtain ⟨cq49, kq49, q49a, q49b, q49c⟩ := isOf hZ hE48 Ei46
      obtain ⟨_, _, ⟨T49, L49, k49, n49⟩, -, X49, ⟨Lc49, hQ49, l49, y49, z49⟩, st49⟩ := X48.virtualBack hx (y := (⟨"com/example/wee_forge/weeforge/model/ProjectFilter", "starredOnly", "()Z"⟩ : MethodName)) (z := (⟨"com/example/wee_forge/weeforge/model/ProjectFilter", "starredOnly", "()Z"⟩ : MethodName)) hown (mvT hZ (hw _ (List.mem_of_getElem? (i := 88) rfl))) (mvT hZ (hw _ (List.mem_of_getElem? (i := 89) rfl))) (notFace_of_selects (args := #[]) (mvT hZ (hw _ (List.mem_of_getElem? (i := 91) rfl)))) (mvT hZ (hw _ (List.mem_of_getElem? (i := 91) rfl))) (mvT hZ (hw _ (List.mem_of_getElem? (i := 90) rfl))) (by decide) (backOf (W := 0) (rmg_starredOnly l Z a0 hw [] b40 (0 : Int32) T46.heap n0 (Nat.le_trans (Nat.le_trans (Nat.le_trans (Nat.le_trans (Nat.le_trans Z0 E40.1) K41.1) K43.1) K44.1) K46.1) Fb46 (by decide)) hZ (hw _ (List.mem_of_getElem? (i := 92) rfl)) (hw _ (List.mem_of_getElem? (i := 18) rfl)) (by decide) (by decide)) q49a q49c (g := (mkF m 153 #[.val (.int p1), .val (.int p2), .val (.int p3), .val (.ref d_p1), .val (.ref d_p2), .val (.int (1 : Int32)), .val (.int (1 : Int32)), .val (.ref ro), .val (.ref b40), .val (.ref ro), .val (.ref b40), .val (.ref b40)] [(.ref b40)])) rfl (by rw [hml]; rfl) (Steps.refl _) (argsL := []) (rest := []) (lenOf pd_rm0_6 rfl) rfl (by show 2 * 0 + _ ≤ _; exact Nat.le_of_eq rfl) (hb hby at_153) (fun _ _ => ⟨rfl, hE48, (by decide : 7 + 0 ≤ _), (by decide : 84 + 0 ≤ _)⟩)
      dsimp only [Pt.U, Pt.locs, Pt.cells, Pt.slots] at X49 l49 y49 z49 st49 hQ49
      subst l49 y49 z49
      obtain ⟨rfl, N49q, hE49⟩ := hQ49
      have N49 := Fr.app N48 N49q
      have pre50 : ∀ tt, Steps p.tables e below (T49.setTop (mkF m 164 #[.val (.int p1), .val (.int p2), .val (.int p3), .val (.ref d_p1), .val (.ref d_p2), .val (.int (1 : Int32)), .val (.int (1 : Int32)), .val (.ref ro), .val (.ref b40), .val (.ref ro), .val (.ref b40), .val (.ref b40)] [(.int (1 : Int32))])) tt → Steps p.tables e below (s₁.setTop (entryFrame m #[(.int p1), (.int p2), (.int p3)] maxLocals)) tt := by
        intro tt kt
        refine pre27 tt ?_
        show Steps p.tables e below (T2.setTop (mkF m 31 #[.val (.int p1), .val (.int p2), .val (.int p3), .val (.ref d_p1), .val (.ref d_p2), .val (.int (1 : Int32)), .unset, .unset, .unset, .unset, .unset, .unset] [(.int ((p2 >>> ((1 : Int32) &&& 31)) &&& (1 : Int32)))])) _
        refine XS.ifNo X2.here hx rfl (hb hby at_31) rfl ((if0 _ _).trans (feq c31_28).1) ?_
        show Steps p.tables e below (T2.setTop (mkF m 34 #[.val (.int p1), .val (.int p2), .val (.int p3), .val (.ref d_p1), .val (.ref d_p2), .val (.int (1 : Int32)), .unset, .unset, .unset, .unset, .unset, .unset] [])) _
        refine XS.iconst X2.here hx rfl (hb hby at_34) ?_
        show Steps p.tables e below (T2.setTop (mkF m 35 #[.val (.int p1), .val (.int p2), .val (.int p3), .val (.ref d_p1), .val (.ref d_p2), .val (.int (1 : Int32)), .unset, .unset, .unset, .unset, .unset, .unset] [(.int (1 : Int32))])) _
        refine XS.goto X2.here hx rfl (pc0 := 35) (pc' := 39) rfl (hb hby at_35) (by decide) (by decide) ?_
        show Steps p.tables e below (T2.setTop (mkF m 39 #[.val (.int p1), .val (.int p2), .val (.int p3), .val (.ref d_p1), .val (.ref d_p2), .val (.int (1 : Int32)), .unset, .unset, .unset, .unset, .unset, .unset] [(.int (1 : Int32))])) _
        refine XS.istore X2.here hx rfl (hb hby at_39) rfl (l' := #[.val (.int p1), .val (.int p2), .val (.int p3), .val (.ref d_p1), .val (.ref d_p2), .val (.int (1 : Int32)), .val (.int (1 : Int32)), .unset, .unset, .unset, .unset, .unset]) rfl ?_
        show Steps p.tables e below (T2.setTop (mkF m 41 #[.val (.int p1), .val (.int p2), .val (.int p3), .val (.ref d_p1), .val (.ref d_p2), .val (.int (1 : Int32)), .val (.int (1 : Int32)), .unset, .unset, .unset, .unset, .unset] [])) _
        refine XS.iloadN X2.here hx rfl (hb hby at_41) rfl ?_
        show Steps p.tables e below (T2.setTop (mkF m 42 #[.val (.int p1), .val (.int p2), .val (.int p3), .val (.ref d_p1), .val (.ref d_p2), .val (.int (1 : Int32)), .val (.int (1 : Int32)), .unset, .unset, .unset, .unset, .unset] [(.int p3)])) _
        refine st39 _ ?_
        show Steps p.tables e below (T39.setTop (mkF m 45 #[.val (.int p1), .val (.int p2), .val (.int p3), .val (.ref d_p1), .val (.ref d_p2), .val (.int (1 : Int32)), .val (.int (1 : Int32)), .unset, .unset, .unset, .unset, .unset] [(.ref ro)])) _
        refine XS.astore X39.here hx rfl (hb hby at_45) rfl rfl (l' := #[.val (.int p1), .val (.int p2), .val (.int p3), .val (.ref d_p1), .val (.ref d_p2), .val (.int (1 : Int32)), .val (.int (1 : Int32)), .val (.ref ro), .unset, .unset, .unset, .unset]) rfl ?_
        show Steps p.tables e below (T39.setTop (mkF m 47 #[.val (.int p1), .val (.int p2), .val (.int p3), .val (.ref d_p1), .val (.ref d_p2), .val (.int (1 : Int32)), .val (.int (1 : Int32)), .val (.ref ro), .unset, .unset, .unset, .unset] [])) _
        refine st40 _ ?_
        show Steps p.tables e below (T40.setTop (mkF m 50 #[.val (.int p1), .val (.int p2), .val (.int p3), .val (.ref d_p1), .val (.ref d_p2), .val (.int (1 : Int32)), .val (.int (1 : Int32)), .val (.ref ro), .unset, .unset, .unset, .unset] [(.ref b40)])) _
        refine XS.dup X40.here hx rfl (hb hby at_50) rfl rfl ?_
        show Steps p.tables e below (T40.setTop (mkF m 51 #[.val (.int p1), .val (.int p2), .val (.int p3), .val (.ref d_p1), .val (.ref d_p2), .val (.int (1 : Int32)), .val (.int (1 : Int32)), .val (.ref ro), .unset, .unset, .unset, .unset] [(.ref b40), (.ref b40)])) _
        refine st41.trans ?_
        show Steps p.tables e below (T41.setTop (mkF m 54 #[.val (.int p1), .val (.int p2), .val (.int p3), .val (.ref d_p1), .val (.ref d_p2), .val (.int (1 : Int32)), .val (.int (1 : Int32)), .val (.ref ro), .unset, .unset, .unset, .unset] [(.ref b40)])) _
        refine XS.astore X41.here hx rfl (hb hby at_54) rfl rfl (l' := #[.val (.int p1), .val (.int p2), .val (.int p3), .val (.ref d_p1), .val (.ref d_p2), .val (.int (1 : Int32)), .val (.int (1 : Int32)), .val (.ref ro), .val (.ref b40), .unset, .unset, .unset]) rfl ?_
        show Steps p.tables e below (T41.setTop (mkF m 56 #[.val (.int p1), .val (.int p2), .val (.int p3), .val (.ref d_p1), .val (.ref d_p2), .val (.int (1 : Int32)), .val (.int (1 : Int32)), .val (.ref ro), .val (.ref b40), .unset, .unset, .unset] [])) _
        refine st42 _ ?_
        show Steps p.tables e below (T42.setTop (mkF m 59 #[.val (.int p1), .val (.int p2), .val (.int p3), .val (.ref d_p1), .val (.ref d_p2), .val (.int (1 : Int32)), .val (.int (1 : Int32)), .val (.ref ro), .val (.ref b40), .unset, .unset, .unset] [(.ref w_CREATED_AT)])) _
        refine XS.astore X42.here hx rfl (hb hby at_59) rfl rfl (l' := #[.val (.int p1), .val (.int p2), .val (.int p3), .val (.ref d_p1), .val (.ref d_p2), .val (.int (1 : Int32)), .val (.int (1 : Int32)), .val (.ref ro), .val (.ref b40), .val (.ref w_CREATED_AT), .unset, .unset]) rfl ?_
        show Steps p.tables e below (T42.setTop (mkF m 61 #[.val (.int p1), .val (.int p2), .val (.int p3), .val (.ref d_p1), .val (.ref d_p2), .val (.int (1 : Int32)), .val (.int (1 : Int32)), .val (.ref ro), .val (.ref b40), .val (.ref w_CREATED_AT), .unset, .unset] [])) _
        refine XS.iload X42.here hx rfl (hb hby at_61) rfl ?_
        show Steps p.tables e below (T42.setTop (mkF m 63 #[.val (.int p1), .val (.int p2), .val (.int p3), .val (.ref d_p1), .val (.ref d_p2), .val (.int (1 : Int32)), .val (.int (1 : Int32)), .val (.ref ro), .val (.ref b40), .val (.ref w_CREATED_AT), .unset, .unset] [(.int (1 : Int32))])) _
        refine XS.ifNo X42.here hx rfl (hb hby at_63) rfl ((if0 _ _).trans (feq (by decide : ¬ ((1 : Int32) = (0 : Int32)))).1) ?_
        show Steps p.tables e below (T42.setTop (mkF m 66 #[.val (.int p1), .val (.int p2), .val (.int p3), .val (.ref d_p1), .val (.ref d_p2), .val (.int (1 : Int32)), .val (.int (1 : Int32)), .val (.ref ro), .val (.ref b40), .val (.ref w_CREATED_AT), .unset, .unset] [])) _
        refine XS.aload X42.here hx rfl (hb hby at_66) rfl rfl ?_
        show Steps p.tables e below (T42.setTop (mkF m 68 #[.val (.int p1), .val (.int p2), .val (.int p3), .val (.ref d_p1), .val (.ref d_p2), .val (.int (1 : Int32)), .val (.int (1 : Int32)), .val (.ref ro), .val (.ref b40), .val (.ref w_CREATED_AT), .unset, .unset] [(.ref b40)])) _
        refine XS.aload X42.here hx rfl (hb hby at_68) rfl rfl ?_
        show Steps p.tables e below (T42.setTop (mkF m 70 #[.val (.int p1), .val (.int p2), .val (.int p3), .val (.ref d_p1), .val (.ref d_p2), .val (.int (1 : Int32)), .val (.int (1 : Int32)), .val (.ref ro), .val (.ref b40), .val (.ref w_CREATED_AT), .unset, .unset] [(.ref ro), (.ref b40)])) _
        refine st43.trans ?_
        show Steps p.tables e below (T43.setTop (mkF m 73 #[.val (.int p1), .val (.int p2), .val (.int p3), .val (.ref d_p1), .val (.ref d_p2), .val (.int (1 : Int32)), .val (.int (1 : Int32)), .val (.ref ro), .val (.ref b40), .val (.ref w_CREATED_AT), .unset, .unset] [(.ref b40)])) _
        refine XS.pop X43.here hx rfl (hb hby at_73) rfl rfl ?_
        show Steps p.tables e below (T43.setTop (mkF m 74 #[.val (.int p1), .val (.int p2), .val (.int p3), .val (.ref d_p1), .val (.ref d_p2), .val (.int (1 : Int32)), .val (.int (1 : Int32)), .val (.ref ro), .val (.ref b40), .val (.ref w_CREATED_AT), .unset, .unset] [])) _
        refine XS.aload X43.here hx rfl (hb hby at_74) rfl rfl ?_
        show Steps p.tables e below (T43.setTop (mkF m 76 #[.val (.int p1), .val (.int p2), .val (.int p3), .val (.ref d_p1), .val (.ref d_p2), .val (.int (1 : Int32)), .val (.int (1 : Int32)), .val (.ref ro), .val (.ref b40), .val (.ref w_CREATED_AT), .unset, .unset] [(.ref ro)])) _
        refine XS.astore X43.here hx rfl (hb hby at_76) rfl rfl (l' := #[.val (.int p1), .val (.int p2), .val (.int p3), .val (.ref d_p1), .val (.ref d_p2), .val (.int (1 : Int32)), .val (.int (1 : Int32)), .val (.ref ro), .val (.ref b40), .val (.ref ro), .unset, .unset]) rfl ?_
        show Steps p.tables e below (T43.setTop (mkF m 78 #[.val (.int p1), .val (.int p2), .val (.int p3), .val (.ref d_p1), .val (.ref d_p2), .val (.int (1 : Int32)), .val (.int (1 : Int32)), .val (.ref ro), .val (.ref b40), .val (.ref ro), .unset, .unset] [])) _
        refine XS.aload X43.here hx rfl (hb hby at_78) rfl rfl ?_
        show Steps p.tables e below (T43.setTop (mkF m 80 #[.val (.int p1), .val (.int p2), .val (.int p3), .val (.ref d_p1), .val (.ref d_p2), .val (.int (1 : Int32)), .val (.int (1 : Int32)), .val (.ref ro), .val (.ref b40), .val (.ref ro), .unset, .unset] [(.ref b40)])) _
        refine XS.aloadN X43.here hx rfl (hb hby at_80) rfl rfl ?_
        show Steps p.tables e below (T43.setTop (mkF m 81 #[.val (.int p1), .val (.int p2), .val (.int p3), .val (.ref d_p1), .val (.ref d_p2), .val (.int (1 : Int32)), .val (.int (1 : Int32)), .val (.ref ro), .val (.ref b40), .val (.ref ro), .unset, .unset] [(.ref d_p1), (.ref b40)])) _
        refine st44.trans ?_
        show Steps p.tables e below (T44.setTop (mkF m 84 #[.val (.int p1), .val (.int p2), .val (.int p3), .val (.ref d_p1), .val (.ref d_p2), .val (.int (1 : Int32)), .val (.int (1 : Int32)), .val (.ref ro), .val (.ref b40), .val (.ref ro), .unset, .unset] [(.ref b40)])) _
        refine XS.astore X44.here hx rfl (hb hby at_84) rfl rfl (l' := #[.val (.int p1), .val (.int p2), .val (.int p3), .val (.ref d_p1), .val (.ref d_p2), .val (.int (1 : Int32)), .val (.int (1 : Int32)), .val (.ref ro), .val (.ref b40), .val (.ref ro), .val (.ref b40), .unset]) rfl ?_
        show Steps p.tables e below (T44.setTop (mkF m 86 #[.val (.int p1), .val (.int p2), .val (.int p3), .val (.ref d_p1), .val (.ref d_p2), .val (.int (1 : Int32)), .val (.int (1 : Int32)), .val (.ref ro), .val (.ref b40), .val (.ref ro), .val (.ref b40), .unset] [])) _
        refine XS.aload X44.here hx rfl (hb hby at_86) rfl rfl ?_
        show Steps p.tables e below (T44.setTop (mkF m 88 #[.val (.int p1), .val (.int p2), .val (.int p3), .val (.ref d_p1), .val (.ref d_p2), .val (.int (1 : Int32)), .val (.int (1 : Int32)), .val (.ref ro), .val (.ref b40), .val (.ref ro), .val (.ref b40), .unset] [(.ref b40)])) _
        refine XS.aload X44.here hx rfl (hb hby at_88) rfl rfl ?_
        show Steps p.tables e below (T44.setTop (mkF m 90 #[.val (.int p1), .val (.int p2), .val (.int p3), .val (.ref d_p1), .val (.ref d_p2), .val (.int (1 : Int32)), .val (.int (1 : Int32)), .val (.ref ro), .val (.ref b40), .val (.ref ro), .val (.ref b40), .unset] [(.ref b40), (.ref b40)])) _
        refine Jvm.RoadKit.acmp (g := (mkF m 90 #[.val (.int p1), .val (.int p2), .val (.int p3), .val (.ref d_p1), .val (.ref d_p2), .val (.int (1 : Int32)), .val (.int (1 : Int32)), .val (.ref ro), .val (.ref b40), .val (.ref ro), .val (.ref b40), .unset] [(.ref b40), (.ref b40)])) X44 hx rfl rfl rfl (pc0 := 90) (pc' := 95) (same := true) rfl (hb hby at_90) rfl (decide_eq_true rfl) (by decide) (by decide) ?_
        show Steps p.tables e below (T44.setTop (mkF m 95 #[.val (.int p1), .val (.int p2), .val (.int p3), .val (.ref d_p1), .val (.ref d_p2), .val (.int (1 : Int32)), .val (.int (1 : Int32)), .val (.ref ro), .val (.ref b40), .val (.ref ro), .val (.ref b40), .unset] [])) _
        refine XS.aload X44.here hx rfl (hb hby at_95) rfl rfl ?_
        show Steps p.tables e below (T44.setTop (mkF m 97 #[.val (.int p1), .val (.int p2), .val (.int p3), .val (.ref d_p1), .val (.ref d_p2), .val (.int (1 : Int32)), .val (.int (1 : Int32)), .val (.ref ro), .val (.ref b40), .val (.ref ro), .val (.ref b40), .unset] [(.ref b40)])) _
        refine st45.trans ?_
        show Steps p.tables e below (T45.setTop (mkF m 100 #[.val (.int p1), .val (.int p2), .val (.int p3), .val (.ref d_p1), .val (.ref d_p2), .val (.int (1 : Int32)), .val (.int (1 : Int32)), .val (.ref ro), .val (.ref b40), .val (.ref ro), .val (.ref b40), .unset] [(.ref d_p1)])) _
        refine XS.aloadN X45.here hx rfl (hb hby at_100) rfl rfl ?_
        show Steps p.tables e below (T45.setTop (mkF m 101 #[.val (.int p1), .val (.int p2), .val (.int p3), .val (.ref d_p1), .val (.ref d_p2), .val (.int (1 : Int32)), .val (.int (1 : Int32)), .val (.ref ro), .val (.ref b40), .val (.ref ro), .val (.ref b40), .unset] [(.ref d_p1), (.ref d_p1)])) _
        refine Jvm.RoadKit.acmp (g := (mkF m 101 #[.val (.int p1), .val (.int p2), .val (.int p3), .val (.ref d_p1), .val (.ref d_p2), .val (.int (1 : Int32)), .val (.int (1 : Int32)), .val (.ref ro), .val (.ref b40), .val (.ref ro), .val (.ref b40), .unset] [(.ref d_p1), (.ref d_p1)])) X45 hx rfl rfl rfl (pc0 := 101) (pc' := 106) (same := true) rfl (hb hby at_101) rfl (decide_eq_true rfl) (by decide) (by decide) ?_
        show Steps p.tables e below (T45.setTop (mkF m 106 #[.val (.int p1), .val (.int p2), .val (.int p3), .val (.ref d_p1), .val (.ref d_p2), .val (.int (1 : Int32)), .val (.int (1 : Int32)), .val (.ref ro), .val (.ref b40), .val (.ref ro), .val (.ref b40), .unset] [])) _
        refine XS.iload X45.here hx rfl (hb hby at_106) rfl ?_
        show Steps p.tables e below (T45.setTop (mkF m 108 #[.val (.int p1), .val (.int p2), .val (.int p3), .val (.ref d_p1), .val (.ref d_p2), .val (.int (1 : Int32)), .val (.int (1 : Int32)), .val (.ref ro), .val (.ref b40), .val (.ref ro), .val (.ref b40), .unset] [(.int (1 : Int32))])) _
        refine XS.ifNo X45.here hx rfl (hb hby at_108) rfl ((if0 _ _).trans (feq (by decide : ¬ ((1 : Int32) = (0 : Int32)))).1) ?_
        show Steps p.tables e below (T45.setTop (mkF m 111 #[.val (.int p1), .val (.int p2), .val (.int p3), .val (.ref d_p1), .val (.ref d_p2), .val (.int (1 : Int32)), .val (.int (1 : Int32)), .val (.ref ro), .val (.ref b40), .val (.ref ro), .val (.ref b40), .unset] [])) _
        refine XS.aload X45.here hx rfl (hb hby at_111) rfl rfl ?_
        show Steps p.tables e below (T45.setTop (mkF m 113 #[.val (.int p1), .val (.int p2), .val (.int p3), .val (.ref d_p1), .val (.ref d_p2), .val (.int (1 : Int32)), .val (.int (1 : Int32)), .val (.ref ro), .val (.ref b40), .val (.ref ro), .val (.ref b40), .unset] [(.ref b40)])) _
        refine XS.aload X45.here hx rfl (hb hby at_113) rfl rfl ?_
        show Steps p.tables e below (T45.setTop (mkF m 115 #[.val (.int p1), .val (.int p2), .val (.int p3), .val (.ref d_p1), .val (.ref d_p2), .val (.int (1 : Int32)), .val (.int (1 : Int32)), .val (.ref ro), .val (.ref b40), .val (.ref ro), .val (.ref b40), .unset] [(.ref d_p2), (.ref b40)])) _
        refine st46.trans ?_
        show Steps p.tables e below (T46.setTop (mkF m 118 #[.val (.int p1), .val (.int p2), .val (.int p3), .val (.ref d_p1), .val (.ref d_p2), .val (.int (1 : Int32)), .val (.int (1 : Int32)), .val (.ref ro), .val (.ref b40), .val (.ref ro), .val (.ref b40), .unset] [(.ref b40)])) _
        refine XS.astore X46.here hx rfl (hb hby at_118) rfl rfl (l' := #[.val (.int p1), .val (.int p2), .val (.int p3), .val (.ref d_p1), .val (.ref d_p2), .val (.int (1 : Int32)), .val (.int (1 : Int32)), .val (.ref ro), .val (.ref b40), .val (.ref ro), .val (.ref b40), .val (.ref b40)]) rfl ?_
        show Steps p.tables e below (T46.setTop (mkF m 120 #[.val (.int p1), .val (.int p2), .val (.int p3), .val (.ref d_p1), .val (.ref d_p2), .val (.int (1 : Int32)), .val (.int (1 : Int32)), .val (.ref ro), .val (.ref b40), .val (.ref ro), .val (.ref b40), .val (.ref b40)] [])) _
        refine XS.aload X46.here hx rfl (hb hby at_120) rfl rfl ?_
        show Steps p.tables e below (T46.setTop (mkF m 122 #[.val (.int p1), .val (.int p2), .val (.int p3), .val (.ref d_p1), .val (.ref d_p2), .val (.int (1 : Int32)), .val (.int (1 : Int32)), .val (.ref ro), .val (.ref b40), .val (.ref ro), .val (.ref b40), .val (.ref b40)] [(.ref b40)])) _
        refine XS.aload X46.here hx rfl (hb hby at_122) rfl rfl ?_
        show Steps p.tables e below (T46.setTop (mkF m 124 #[.val (.int p1), .val (.int p2), .val (.int p3), .val (.ref d_p1), .val (.ref d_p2), .val (.int (1 : Int32)), .val (.int (1 : Int32)), .val (.ref ro), .val (.ref b40), .val (.ref ro), .val (.ref b40), .val (.ref b40)] [(.ref b40), (.ref b40)])) _
        refine Jvm.RoadKit.acmp (g := (mkF m 124 #[.val (.int p1), .val (.int p2), .val (.int p3), .val (.ref d_p1), .val (.ref d_p2), .val (.int (1 : Int32)), .val (.int (1 : Int32)), .val (.ref ro), .val (.ref b40), .val (.ref ro), .val (.ref b40), .val (.ref b40)] [(.ref b40), (.ref b40)])) X46 hx rfl rfl rfl (pc0 := 124) (pc' := 129) (same := true) rfl (hb hby at_124) rfl (decide_eq_true rfl) (by decide) (by decide) ?_
        show Steps p.tables e below (T46.setTop (mkF m 129 #[.val (.int p1), .val (.int p2), .val (.int p3), .val (.ref d_p1), .val (.ref d_p2), .val (.int (1 : Int32)), .val (.int (1 : Int32)), .val (.ref ro), .val (.ref b40), .val (.ref ro), .val (.ref b40), .val (.ref b40)] [])) _
        refine XS.aload X46.here hx rfl (hb hby at_129) rfl rfl ?_
        show Steps p.tables e below (T46.setTop (mkF m 131 #[.val (.int p1), .val (.int p2), .val (.int p3), .val (.ref d_p1), .val (.ref d_p2), .val (.int (1 : Int32)), .val (.int (1 : Int32)), .val (.ref ro), .val (.ref b40), .val (.ref ro), .val (.ref b40), .val (.ref b40)] [(.ref b40)])) _
        refine st47.trans ?_
        show Steps p.tables e below (T47.setTop (mkF m 134 #[.val (.int p1), .val (.int p2), .val (.int p3), .val (.ref d_p1), .val (.ref d_p2), .val (.int (1 : Int32)), .val (.int (1 : Int32)), .val (.ref ro), .val (.ref b40), .val (.ref ro), .val (.ref b40), .val (.ref b40)] [(.ref d_p2)])) _
        refine XS.aload X47.here hx rfl (hb hby at_134) rfl rfl ?_
        show Steps p.tables e below (T47.setTop (mkF m 136 #[.val (.int p1), .val (.int p2), .val (.int p3), .val (.ref d_p1), .val (.ref d_p2), .val (.int (1 : Int32)), .val (.int (1 : Int32)), .val (.ref ro), .val (.ref b40), .val (.ref ro), .val (.ref b40), .val (.ref b40)] [(.ref d_p2), (.ref d_p2)])) _
        refine Jvm.RoadKit.acmp (g := (mkF m 136 #[.val (.int p1), .val (.int p2), .val (.int p3), .val (.ref d_p1), .val (.ref d_p2), .val (.int (1 : Int32)), .val (.int (1 : Int32)), .val (.ref ro), .val (.ref b40), .val (.ref ro), .val (.ref b40), .val (.ref b40)] [(.ref d_p2), (.ref d_p2)])) X47 hx rfl rfl rfl (pc0 := 136) (pc' := 141) (same := true) rfl (hb hby at_136) rfl (decide_eq_true rfl) (by decide) (by decide) ?_
        show Steps p.tables e below (T47.setTop (mkF m 141 #[.val (.int p1), .val (.int p2), .val (.int p3), .val (.ref d_p1), .val (.ref d_p2), .val (.int (1 : Int32)), .val (.int (1 : Int32)), .val (.ref ro), .val (.ref b40), .val (.ref ro), .val (.ref b40), .val (.ref b40)] [])) _
        refine XS.aload X47.here hx rfl (hb hby at_141) rfl rfl ?_
        show Steps p.tables e below (T47.setTop (mkF m 143 #[.val (.int p1), .val (.int p2), .val (.int p3), .val (.ref d_p1), .val (.ref d_p2), .val (.int (1 : Int32)), .val (.int (1 : Int32)), .val (.ref ro), .val (.ref b40), .val (.ref ro), .val (.ref b40), .val (.ref b40)] [(.ref b40)])) _
        refine st48.trans ?_
        show Steps p.tables e below (T48.setTop (mkF m 146 #[.val (.int p1), .val (.int p2), .val (.int p3), .val (.ref d_p1), .val (.ref d_p2), .val (.int (1 : Int32)), .val (.int (1 : Int32)), .val (.ref ro), .val (.ref b40), .val (.ref ro), .val (.ref b40), .val (.ref b40)] [(.ref ro)])) _
        refine XS.aload X48.here hx rfl (hb hby at_146) rfl rfl ?_
        show Steps p.tables e below (T48.setTop (mkF m 148 #[.val (.int p1), .val (.int p2), .val (.int p3), .val (.ref d_p1), .val (.ref d_p2), .val (.int (1 : Int32)), .val (.int (1 : Int32)), .val (.ref ro), .val (.ref b40), .val (.ref ro), .val (.ref b40), .val (.ref b40)] [(.ref ro), (.ref ro)])) _
        refine Jvm.RoadKit.acmp (g := (mkF m 148 #[.val (.int p1), .val (.int p2), .val (.int p3), .val (.ref d_p1), .val (.ref d_p2), .val (.int (1 : Int32)), .val (.int (1 : Int32)), .val (.ref ro), .val (.ref b40), .val (.ref ro), .val (.ref b40), .val (.ref b40)] [(.ref ro), (.ref ro)])) X48 hx rfl rfl rfl (pc0 := 148) (pc' := 151) (same := true) rfl (hb hby at_148) rfl (decide_eq_true rfl) (by decide) (by decide) ?_
        show Steps p.tables e below (T48.setTop (mkF m 151 #[.val (.int p1), .val (.int p2), .val (.int p3), .val (.ref d_p1), .val (.ref d_p2), .val (.int (1 : Int32)), .val (.int (1 : Int32)), .val (.ref ro), .val (.ref b40), .val (.ref ro), .val (.ref b40), .val (.ref b40)] [])) _
        refine XS.aload X48.here hx rfl (hb hby at_151) rfl rfl ?_
        show Steps p.tables e below (T48.setTop (mkF m 153 #[.val (.int p1), .val (.int p2), .val (.int p3), .val (.ref d_p1), .val (.ref d_p2), .val (.int (1 : Int32)), .val (.int (1 : Int32)), .val (.ref ro), .val (.ref b40), .val (.ref ro), .val (.ref b40), .val (.ref b40)] [(.ref b40)])) _
        refine st49.trans ?_
        show Steps p.tables e below (T49.setTop (mkF m 156 #[.val (.int p1), .val (.int p2), .val (.int p3), .val (.ref d_p1), .val (.ref d_p2), .val (.int (1 : Int32)), .val (.int (1 : Int32)), .val (.ref ro), .val (.ref b40), .val (.ref ro), .val (.ref b40), .val (.ref b40)] [(.int (0 : Int32))])) _
        refine XS.ifNo X49.here hx rfl (hb hby at_156) rfl ((if0 _ _).trans (teq (rfl : (0 : Int32) = (0 : Int32))).2) ?_
        show Steps p.tables e below (T49.setTop (mkF m 159 #[.val (.int p1), .val (.int p2), .val (.int p3), .val (.ref d_p1), .val (.ref d_p2), .val (.int (1 : Int32)), .val (.int (1 : Int32)), .val (.ref ro), .val (.ref b40), .val (.ref ro), .val (.ref b40), .val (.ref b40)] [])) _
        refine XS.iconst X49.here hx rfl (hb hby at_159) ?_
        show Steps p.tables e below (T49.setTop (mkF m 160 #[.val (.int p1), .val (.int p2), .val (.int p3), .val (.ref d_p1), .val (.ref d_p2), .val (.int (1 : Int32)), .val (.int (1 : Int32)), .val (.ref ro), .val (.ref b40), .val (.ref ro), .val (.ref b40), .val (.ref b40)] [(.int (1 : Int32))])) _
        refine XS.goto X49.here hx rfl (pc0 := 160) (pc' := 164) rfl (hb hby at_160) (by decide) (by decide) ?_
        exact kt
      obtain ⟨fs, hr, hrun, hended, hW⟩ := X49.leaveW hS (by rw [hE49]; exact (Nat.le_refl _)) (v := some (.int (1 : Int32))) (fun h => by rw [Bd.returns] at h; cases h)
      refine ⟨_, _, pre50 _ ?_, hrun, hended, _, _, rfl, ?_, ⟨_, rfl⟩, hW.2.1, hW.2.2.1, hW.2.2.2.mono (by decide) (by decide)⟩
      · show Steps p.tables e below (T49.setTop (mkF m 164 #[.val (.int p1), .val (.int p2), .val (.int p3), .val (.ref d_p1), .val (.ref d_p2), .val (.int (1 : Int32)), .val (.int (1 : Int32)), .val (.ref ro), .val (.ref b40), .val (.ref ro), .val (.ref b40), .val (.ref b40)] [(.int (1 : Int32))])) _
        exact retN X49 hx (t := .boolean) Bd.returns (by simp) (hb hby at_164) hr
      · show Q0 Z h0 n0 _ T49.heap _
        rw [hE49]
        exact ⟨rfl, N49⟩
set_option maxRecDepth 65536 in
set_option maxHeartbeats 40000000 in
theorem comes_1 {Post : Tables → Env → Array Value → State → Outcome → State → Prop} (hpost : ∀ tb e args s v u, (limb_1_1.after args s (.returned v) u = true ∧ limb_1_2.after args s (.returned v) u = true ∧ True) → ReturnedEndW s (.returned v) u (Jvm.fieldLocs frame_1_writes args s ++ Jvm.arrayLocs frame_1_arrays args s ++ Jvm.staticLocs frame_1_statics s) 16 2176 → Post tb e args s (.returned v) u) :
    ArmFor flags0 classFile x code maxLocals ret World_1 tables_1 room_1 Calls_1 rest_1 Pre_1 Post := by
  intro l hfl _ _ p e ha hc hk s m args below hf hA hF happ hP
  obtain ⟨hcalls, hrest, hpre⟩ := hP
  obtain ⟨-, -, -, hnamed, -, -, -, hat⟩ := (Spec.applies_iff hf).mp happ
  obtain ⟨hg, hn⟩ := and_e (Cond.before_iff.mp (show (Jvm.Cond.and given_1 narrow_1).before args s = true from hpre))
  have hw := fun d (hd : d ∈ tables_1) => atoms_spec (ws := Jvm.Cond.code x code maxLocals ret :: tables_1) hat d (List.mem_cons_of_mem _ hd)
  obtain ⟨g1a, g1b⟩ := and_e hg
  obtain ⟨g2a, g2b⟩ := and_e g1b
  obtain ⟨g3a, g3b⟩ := and_e g2b
  obtain ⟨w0, w1, w2, rfl⟩ : ∃ w0 w1 w2 : Value, args = #[w0, w1, w2] := by
    have hs : args.size = 3 := by simpa [Cond.value, given_1] using g1a
    obtain ⟨L⟩ := args
    match L, hs with
    | [w0, w1, w2], _ => exact ⟨w0, w1, w2, rfl⟩
  have hfit : Fit s := fun {y c} hc i hi => by
    obtain ⟨ha, rfl⟩ := Array.getElem?_eq_some_iff.mp hc
    have q := List.all_eq_true.mp ((Array.all_eq_true_iff_forall_mem.mp hF) _ (Array.getElem_mem ha)) i (List.mem_range.mpr hi)
    simpa [Array.getElem?_eq_getElem hi] using q
  obtain ⟨hsets, hown0⟩ := atoms_of _ (rest_1_c_eq ▸ (show rest_1_c.before _ s = true from hrest))
  have hr0 := Cond.before_iff.mp hown0
  obtain ⟨i0, ei0⟩ := is_v g2a
  obtain rfl : w0 = (.int i0) := Option.some.inj ei0
  obtain ⟨i1, ei1⟩ := is_v g3a
  obtain rfl : w1 = (.int i1) := Option.some.inj ei1
  obtain ⟨i2, ei2⟩ := is_v g3b
  obtain rfl : w2 = (.int i2) := Option.some.inj ei2
  obtain ⟨n1a, n1b⟩ := and_e hn
  obtain ⟨w_DESC, ev_DESC⟩ := exa_v n1a
  have S_DESC := Sta.start ev_DESC (Or.inr ⟨(hw _ (List.mem_of_getElem? (i := 5) rfl)), (hw _ (List.mem_of_getElem? (i := 6) rfl))⟩)
  have E_DESC := Exa.start ev_DESC n1a
  obtain ⟨n2a, n2b⟩ := and_e n1b
  obtain ⟨w_ASC, ev_ASC⟩ := exa_v n2a
  have S_ASC := Sta.start ev_ASC (Or.inr ⟨(hw _ (List.mem_of_getElem? (i := 5) rfl)), (hw _ (List.mem_of_getElem? (i := 8) rfl))⟩)
  have E_ASC := Exa.start ev_ASC n2a
  obtain ⟨n3a, n3b⟩ := and_e n2b
  obtain ⟨w_PATH, ev_PATH⟩ := exa_v n3a
  have S_PATH := Sta.start ev_PATH (Or.inr ⟨(hw _ (List.mem_of_getElem? (i := 14) rfl)), (hw _ (List.mem_of_getElem? (i := 15) rfl))⟩)
  have E_PATH := Exa.start ev_PATH n3a
  obtain ⟨n4a, n4b⟩ := and_e n3b
  obtain ⟨w_ANY, ev_ANY⟩ := exa_v n4a
  have S_ANY := Sta.start ev_ANY (Or.inr ⟨(hw _ (List.mem_of_getElem? (i := 36) rfl)), (hw _ (List.mem_of_getElem? (i := 37) rfl))⟩)
  have E_ANY := Exa.start ev_ANY n4a
  obtain ⟨n5a, n5b⟩ := and_e n4b
  obtain ⟨w_CREATED_AT, ev_CREATED_AT⟩ := exa_v n5a
  have S_CREATED_AT := Sta.start ev_CREATED_AT (Or.inr ⟨(hw _ (List.mem_of_getElem? (i := 14) rfl)), (hw _ (List.mem_of_getElem? (i := 52) rfl))⟩)
  have E_CREATED_AT := Exa.start ev_CREATED_AT n5a
  obtain ⟨n6a, n6b⟩ := and_e n5b
  obtain ⟨w_NAME, ev_NAME⟩ := exa_v n6a
  have S_NAME := Sta.start ev_NAME (Or.inr ⟨(hw _ (List.mem_of_getElem? (i := 14) rfl)), (hw _ (List.mem_of_getElem? (i := 96) rfl))⟩)
  have E_NAME := Exa.start ev_NAME n6a
  obtain ⟨n7a, n7b⟩ := and_e n6b
  obtain ⟨w_LAST_ACTIVITY_AT, ev_LAST_ACTIVITY_AT⟩ := exa_v n7a
  have S_LAST_ACTIVITY_AT := Sta.start ev_LAST_ACTIVITY_AT (Or.inr ⟨(hw _ (List.mem_of_getElem? (i := 14) rfl)), (hw _ (List.mem_of_getElem? (i := 106) rfl))⟩)
  have E_LAST_ACTIVITY_AT := Exa.start ev_LAST_ACTIVITY_AT n7a
  obtain ⟨n8a, n8b⟩ := and_e n7b
  obtain ⟨w_ID, ev_ID⟩ := exa_v n8a
  have S_ID := Sta.start ev_ID (Or.inr ⟨(hw _ (List.mem_of_getElem? (i := 14) rfl)), (hw _ (List.mem_of_getElem? (i := 108) rfl))⟩)
  have E_ID := Exa.start ev_ID n8a
  obtain ⟨w_UPDATED_AT, ev_UPDATED_AT⟩ := exa_v n8b
  have S_UPDATED_AT := Sta.start ev_UPDATED_AT (Or.inr ⟨(hw _ (List.mem_of_getElem? (i := 14) rfl)), (hw _ (List.mem_of_getElem? (i := 110) rfl))⟩)
  have E_UPDATED_AT := Exa.start ev_UPDATED_AT n8b
  have b2 := Cond.before_iff.mp (hsets _ (List.mem_of_getElem? (i := 2) rfl))
  have b9 := Cond.before_iff.mp (hsets _ (List.mem_of_getElem? (i := 9) rfl))
  obtain ⟨wEL, evEL⟩ := exa_v b2
  have S_EL := Sta.start evEL (Or.inl (hsets _ (List.mem_of_getElem? (i := 1) rfl)))
  obtain ⟨wOL, evOL⟩ := exa_v b9
  have S_OL := Sta.start evOL (Or.inl (hsets _ (List.mem_of_getElem? (i := 8) rfl)))
  obtain ⟨n, o, h1, h2, h3, _, L, rfl, ⟨rfl, N⟩, hq⟩ := rm0 l s _ hw tables_1 i0 i1 i2 w_ID w_NAME w_PATH w_CREATED_AT w_UPDATED_AT w_LAST_ACTIVITY_AT w_ASC w_DESC w_ANY wEL wOL s.heap s.heap.size (Nat.le_refl _) S_ID S_NAME S_PATH S_CREATED_AT S_UPDATED_AT S_LAST_ACTIVITY_AT S_ASC S_DESC S_ANY E_ID E_NAME E_PATH E_CREATED_AT E_UPDATED_AT E_LAST_ACTIVITY_AT E_ASC E_DESC E_ANY S_EL S_OL p e ha hc hk s m _ below hf ((Spec.applies_iff_loose hf).mp happ).1 ⟨rfl, State.Warmed39.refl s, rfl⟩ trivial
  refine ⟨n, _, h1, h2, h3, hpost _ _ _ _ _ _ ⟨Cond.after_iff.mpr rfl, Cond.after_iff.mpr (eq_i res_at (Term.int_eval (1)) rfl), trivial⟩ ⟨hq.1, hq.2.1, hq.2.2.1, (hq.2.2.2.sift fun y hy => Or.inr (N y hy)).mono (by decide) (by decide)⟩⟩
theorem main_1_1 : Claimed_1_1 := comes_1 fun _ _ _ _ _ _ h hF => ⟨h.1, hF⟩
theorem main_1_2 : Claimed_1_2 := comes_1 fun _ _ _ _ _ _ h hF => ⟨h.2.1, hF⟩
end Jvm.Pilot.@@N@@
namespace Jvm.Pilot.@@N@@
open Jvm Jvm.ClassFile Sem Op Lib Jvm.Free Jvm.Stand Jvm.Pilot.@@N@@.Jvm.D
/-! MADE BY PROGRAM (witnessworld.py) out of the Statement's table words and the real class files: 32 classes; the members and pool entries that the words name. The judged class is class 1, her method 3. -/
namespace start1
open Jvm.ClassFile
def u (s : String) : CpInfo := .utf8 (stringToUtf16 s)
/-- a pool by its gaps: so many unusable entries, then the entry; so many at the end -/
def gap : Nat → List CpInfo → List CpInfo
  | 0, r => r
  | n + 1, r => .unusable :: gap n r
def poolList (es : List (Nat × CpInfo)) (last : Nat) : List CpInfo := es.foldr (fun e r => gap e.1 (e.2 :: r)) (gap last [])
def pool (es : List (Nat × CpInfo)) (last : Nat) : Array CpInfo := ⟨poolList es last⟩
def fileOf (pool : Array CpInfo) (this : Nat) (attrs : Array Attribute := #[]) (ms : Array MethodInfo := #[]) (fl : Nat := 33) (sup : Nat := 0) (ifs : Array Nat := #[]) (fds : Array FieldInfo := #[]) : ClassFile where
  minorVersion := 0
  majorVersion := 65
  constantPool := pool
  accessFlags := fl
  thisClass := this
  superClass := sup
  interfaces := ifs
  fields := fds
  methods := ms
  attributes := attrs
def plain (name : String) (sup : Option ClassId) : Class where
  name := name
  kind := .ordinary
  loader := none
  accessFlags := 33
  super := sup
  interfaces := #[]
  cf := none
  fields := #[]
  methods := #[]
  instanceTypes := #[]
  staticTypes := #[]
  resolved := #[]
  callSites := []
  init := .initialized
  statics := none
  mirror := none

def pool0 : Array CpInfo := pool [(5, u "<init>"), (0, u "()V"), (1, .class_ 10), (1, u "java/lang/Object")] 113

def k0c0 : Code := { maxStack := 0, maxLocals := 1, code := object_method_1_code, exceptionTable := #[], attributes := #[] }
def k0m0 : Method := { name := "<init>", desc := "()V", sig := { parameters := [], returnType := none }, accessFlags := 1, code := some k0c0 }
/-- java/lang/Object -/
def k0 : Class := { plain "java/lang/Object" none with
  accessFlags := 33
  interfaces := #[]
  cf := some (fileOf pool0 8 #[] #[{ accessFlags := 1, nameIndex := 5, descriptorIndex := 6, attributes := #[] }] 33 0 #[] #[])
  fields := #[]
  methods := #[k0m0]
  instanceTypes := #[]
  staticTypes := #[]
  resolved := Array.replicate 124 none
  statics := none }

def pool1 : Array CpInfo := pool [(2, .class_ 4), (0, .nameAndType 5 6), (0, u "java/lang/Object"), (0, u "<init>"), (0, u "()V"), (0, .fieldref 8 9), (0, .class_ 10), (0, .nameAndType 11 12), (0, u "com/example/wee_forge/weeforge/model/SortDirection"), (0, u "ASC"), (0, u "Lcom/example/wee_forge/weeforge/model/SortDirection;"), (0, .fieldref 8 14), (0, .nameAndType 15 12), (0, u "DESC"), (0, .integer 2147483647), (0, .fieldref 18 19), (0, .class_ 20), (0, .nameAndType 21 22), (0, u "com/example/wee_forge/weeforge/model/ProjectOrder"), (0, u "ID"), (0, u "Lcom/example/wee_forge/weeforge/model/ProjectOrder;"), (0, .fieldref 18 24), (0, .nameAndType 25 22), (0, u "NAME"), (0, .fieldref 18 27), (0, .nameAndType 28 22), (0, u "PATH"), (0, .fieldref 18 30), (0, .nameAndType 31 22), (0, u "CREATED_AT"), (0, .fieldref 18 33), (0, .nameAndType 34 22), (0, u "UPDATED_AT"), (0, .fieldref 18 36), (0, .nameAndType 37 22), (0, u "LAST_ACTIVITY_AT"), (0, .methodref 39 40), (0, .class_ 41), (0, .nameAndType 42 43), (0, u "com/example/wee_forge/weeforge/model/ProjectFilterSortPinLaw"), (0, u "dir"), (0, u "(I)Lcom/example/wee_forge/weeforge/model/SortDirection;"), (0, .methodref 39 45), (0, .nameAndType 46 47), (0, u "order"), (0, u "(I)Lcom/example/wee_forge/weeforge/model/ProjectOrder;"), (0, .class_ 49), (0, u "com/example/wee_forge/weeforge/model/ProjectFilter"), (0, .methodref 48 3), (0, .methodref 48 52), (0, .nameAndType 53 54), (0, u "orderBy"), (0, u "(Lcom/example/wee_forge/weeforge/model/ProjectOrder;)Lcom/example/wee_forge/weeforge/model/ProjectFilter;"), (0, .methodref 48 56), (0, .nameAndType 57 58), (0, u "sort"), (0, u "(Lcom/example/wee_forge/weeforge/model/SortDirection;)Lcom/example/wee_forge/weeforge/model/ProjectFilter;"), (0, .methodref 48 60), (0, .nameAndType 57 61), (0, u "()Lcom/example/wee_forge/weeforge/model/SortDirection;"), (0, .methodref 48 63), (0, .nameAndType 53 64), (0, u "()Lcom/example/wee_forge/weeforge/model/ProjectOrder;"), (0, .methodref 48 66), (0, .nameAndType 67 68), (0, u "starredOnly"), (0, u "()Z"), (3, u "law"), (0, u "(III)Z")] 2

def k1m0 : Method := { name := "<init>", desc := "()V", sig := { parameters := [], returnType := none }, accessFlags := 1, code := none }
def k1c1 : Code := { maxStack := 2, maxLocals := 1, code := method_2_code, exceptionTable := #[], attributes := #[] }
def k1m1 : Method := { name := "dir", desc := "(I)Lcom/example/wee_forge/weeforge/model/SortDirection;", sig := { parameters := [.int], returnType := some (.object "com/example/wee_forge/weeforge/model/SortDirection") }, accessFlags := 10, code := some k1c1 }
def k1c2 : Code := { maxStack := 2, maxLocals := 2, code := method_3_code, exceptionTable := #[], attributes := #[] }
def k1m2 : Method := { name := "order", desc := "(I)Lcom/example/wee_forge/weeforge/model/ProjectOrder;", sig := { parameters := [.int], returnType := some (.object "com/example/wee_forge/weeforge/model/ProjectOrder") }, accessFlags := 10, code := some k1c2 }
def k1c3 : Code := { maxStack := 2, maxLocals := 12, code := code, exceptionTable := #[], attributes := #[] }
def k1m3 : Method := { name := "law", desc := "(III)Z", sig := { parameters := [.int, .int, .int], returnType := some .boolean }, accessFlags := 9, code := some k1c3 }
/-- com/example/wee_forge/weeforge/model/ProjectFilterSortPinLaw -/
def k1 : Class := { plain "com/example/wee_forge/weeforge/model/ProjectFilterSortPinLaw" (some 0) with
  accessFlags := 49
  interfaces := #[]
  cf := some (fileOf pool1 39 #[] #[{ accessFlags := 1, nameIndex := 5, descriptorIndex := 6, attributes := #[] }, { accessFlags := 10, nameIndex := 42, descriptorIndex := 43, attributes := #[] }, { accessFlags := 10, nameIndex := 46, descriptorIndex := 47, attributes := #[] }, { accessFlags := 9, nameIndex := 72, descriptorIndex := 73, attributes := #[] }] 49 2 #[] #[])
  fields := #[]
  methods := #[k1m0, k1m1, k1m2, k1m3]
  instanceTypes := #[]
  staticTypes := #[]
  resolved := Array.replicate 76 none
  statics := none }

def pool2 : Array CpInfo := pool [(1, .class_ 2), (0, u "java/lang/constant/Constable"), (0, .class_ 4), (0, u "java/lang/Object")] 6

/-- java/lang/constant/Constable -/
def k2 : Class := { plain "java/lang/constant/Constable" (some 0) with
  accessFlags := 1537
  interfaces := #[]
  cf := some (fileOf pool2 1 #[] #[] 1537 3 #[] #[])
  fields := #[]
  methods := #[]
  instanceTypes := #[]
  staticTypes := #[]
  resolved := Array.replicate 11 none
  statics := none }

def pool3 : Array CpInfo := pool [(1, .class_ 2), (0, u "java/lang/Comparable"), (0, .class_ 4), (0, u "java/lang/Object")] 7

/-- java/lang/Comparable -/
def k3 : Class := { plain "java/lang/Comparable" (some 0) with
  accessFlags := 1537
  interfaces := #[]
  cf := some (fileOf pool3 1 #[] #[] 1537 3 #[] #[])
  fields := #[]
  methods := #[]
  instanceTypes := #[]
  staticTypes := #[]
  resolved := Array.replicate 12 none
  statics := none }

def pool4 : Array CpInfo := pool [(1, .class_ 2), (0, u "java/io/Serializable"), (0, .class_ 4), (0, u "java/lang/Object")] 2

/-- java/io/Serializable -/
def k4 : Class := { plain "java/io/Serializable" (some 0) with
  accessFlags := 1537
  interfaces := #[]
  cf := some (fileOf pool4 1 #[] #[] 1537 3 #[] #[])
  fields := #[]
  methods := #[]
  instanceTypes := #[]
  staticTypes := #[]
  resolved := Array.replicate 7 none
  statics := none }

def pool5 : Array CpInfo := pool [(2, .class_ 4), (1, u "java/lang/Enum"), (0, u "name"), (0, u "Ljava/lang/String;"), (2, u "ordinal"), (0, u "I"), (1, .class_ 14), (1, u "java/lang/Object"), (4, u "hash"), (86, .class_ 108), (1, u "java/lang/Enum$EnumDesc"), (2, .class_ 112), (0, u "java/lang/constant/Constable"), (0, .class_ 114), (0, u "java/lang/Comparable"), (0, .class_ 116), (0, u "java/io/Serializable")] 87

/-- java/lang/Enum -/
def k5 : Class := { plain "java/lang/Enum" (some 0) with
  accessFlags := 1057
  interfaces := #[2, 3, 4]
  cf := some (fileOf pool5 2 #[.nestMembers #[106]] #[] 1057 12 #[111, 113, 115] #[{ accessFlags := 18, nameIndex := 5, descriptorIndex := 6, attributes := #[] }, { accessFlags := 18, nameIndex := 9, descriptorIndex := 10, attributes := #[] }, { accessFlags := 2, nameIndex := 19, descriptorIndex := 10, attributes := #[] }])
  fields := #[{ name := "name", type := (.object "java/lang/String"), accessFlags := 18, slot := 0, constantValue := 0 }, { name := "ordinal", type := .int, accessFlags := 18, slot := 1, constantValue := 0 }, { name := "hash", type := .int, accessFlags := 2, slot := 2, constantValue := 0 }]
  methods := #[]
  instanceTypes := #[(.object "java/lang/String"), .int, .int]
  staticTypes := #[]
  resolved := Array.replicate 204 none
  statics := none }

def pool6 : Array CpInfo := pool [(9, .class_ 10), (0, u "com/example/wee_forge/weeforge/model/Choice"), (47, .class_ 59), (0, u "java/lang/Object")] 12

/-- com/example/wee_forge/weeforge/model/Choice -/
def k6 : Class := { plain "com/example/wee_forge/weeforge/model/Choice" (some 0) with
  accessFlags := 1537
  interfaces := #[]
  cf := some (fileOf pool6 9 #[] #[] 1537 58 #[] #[])
  fields := #[]
  methods := #[]
  instanceTypes := #[]
  staticTypes := #[]
  resolved := Array.replicate 72 none
  statics := none }

def pool7 : Array CpInfo := pool [(1, .class_ 2), (0, u "com/example/wee_forge/weeforge/model/SortDirection"), (2, u "ASC"), (0, u "Lcom/example/wee_forge/weeforge/model/SortDirection;"), (2, u "DESC"), (2, u "$VALUES"), (0, u "[Lcom/example/wee_forge/weeforge/model/SortDirection;"), (6, .class_ 22), (1, u "java/lang/Enum"), (8, u "text"), (0, u "Ljava/lang/String;"), (13, .class_ 47), (0, u "com/example/wee_forge/weeforge/model/Choice")] 13

/-- com/example/wee_forge/weeforge/model/SortDirection -/
def k7 : Class := { plain "com/example/wee_forge/weeforge/model/SortDirection" (some 5) with
  accessFlags := 16433
  interfaces := #[6]
  cf := some (fileOf pool7 1 #[] #[] 16433 20 #[46] #[{ accessFlags := 16409, nameIndex := 5, descriptorIndex := 6, attributes := #[] }, { accessFlags := 16409, nameIndex := 9, descriptorIndex := 6, attributes := #[] }, { accessFlags := 18, nameIndex := 31, descriptorIndex := 32, attributes := #[] }, { accessFlags := 4122, nameIndex := 12, descriptorIndex := 13, attributes := #[] }])
  fields := #[{ name := "ASC", type := (.object "com/example/wee_forge/weeforge/model/SortDirection"), accessFlags := 16409, slot := 0, constantValue := 0 }, { name := "DESC", type := (.object "com/example/wee_forge/weeforge/model/SortDirection"), accessFlags := 16409, slot := 1, constantValue := 0 }, { name := "text", type := (.object "java/lang/String"), accessFlags := 18, slot := 3, constantValue := 0 }, { name := "$VALUES", type := (.array (.object "com/example/wee_forge/weeforge/model/SortDirection")), accessFlags := 4122, slot := 2, constantValue := 0 }]
  methods := #[]
  instanceTypes := #[(.object "java/lang/String"), .int, .int, (.object "java/lang/String")]
  staticTypes := #[(.object "com/example/wee_forge/weeforge/model/SortDirection"), (.object "com/example/wee_forge/weeforge/model/SortDirection"), (.array (.object "com/example/wee_forge/weeforge/model/SortDirection"))]
  resolved := Array.replicate 61 none
  statics := some 0 }

def pool8 : Array CpInfo := pool [(1, .class_ 2), (0, u "com/example/wee_forge/weeforge/model/ProjectOrder"), (2, u "ID"), (0, u "Lcom/example/wee_forge/weeforge/model/ProjectOrder;"), (2, u "NAME"), (2, u "PATH"), (2, u "CREATED_AT"), (2, u "UPDATED_AT"), (2, u "LAST_ACTIVITY_AT"), (2, u "$VALUES"), (0, u "[Lcom/example/wee_forge/weeforge/model/ProjectOrder;"), (6, .class_ 34), (1, u "java/lang/Enum"), (8, u "text"), (0, u "Ljava/lang/String;"), (25, .class_ 71), (0, u "com/example/wee_forge/weeforge/model/Choice")] 13

/-- com/example/wee_forge/weeforge/model/ProjectOrder -/
def k8 : Class := { plain "com/example/wee_forge/weeforge/model/ProjectOrder" (some 5) with
  accessFlags := 16433
  interfaces := #[6]
  cf := some (fileOf pool8 1 #[] #[] 16433 32 #[70] #[{ accessFlags := 16409, nameIndex := 5, descriptorIndex := 6, attributes := #[] }, { accessFlags := 16409, nameIndex := 9, descriptorIndex := 6, attributes := #[] }, { accessFlags := 16409, nameIndex := 12, descriptorIndex := 6, attributes := #[] }, { accessFlags := 16409, nameIndex := 15, descriptorIndex := 6, attributes := #[] }, { accessFlags := 16409, nameIndex := 18, descriptorIndex := 6, attributes := #[] }, { accessFlags := 16409, nameIndex := 21, descriptorIndex := 6, attributes := #[] }, { accessFlags := 18, nameIndex := 43, descriptorIndex := 44, attributes := #[] }, { accessFlags := 4122, nameIndex := 24, descriptorIndex := 25, attributes := #[] }])
  fields := #[{ name := "ID", type := (.object "com/example/wee_forge/weeforge/model/ProjectOrder"), accessFlags := 16409, slot := 0, constantValue := 0 }, { name := "NAME", type := (.object "com/example/wee_forge/weeforge/model/ProjectOrder"), accessFlags := 16409, slot := 1, constantValue := 0 }, { name := "PATH", type := (.object "com/example/wee_forge/weeforge/model/ProjectOrder"), accessFlags := 16409, slot := 2, constantValue := 0 }, { name := "CREATED_AT", type := (.object "com/example/wee_forge/weeforge/model/ProjectOrder"), accessFlags := 16409, slot := 3, constantValue := 0 }, { name := "UPDATED_AT", type := (.object "com/example/wee_forge/weeforge/model/ProjectOrder"), accessFlags := 16409, slot := 4, constantValue := 0 }, { name := "LAST_ACTIVITY_AT", type := (.object "com/example/wee_forge/weeforge/model/ProjectOrder"), accessFlags := 16409, slot := 5, constantValue := 0 }, { name := "text", type := (.object "java/lang/String"), accessFlags := 18, slot := 3, constantValue := 0 }, { name := "$VALUES", type := (.array (.object "com/example/wee_forge/weeforge/model/ProjectOrder")), accessFlags := 4122, slot := 6, constantValue := 0 }]
  methods := #[]
  instanceTypes := #[(.object "java/lang/String"), .int, .int, (.object "java/lang/String")]
  staticTypes := #[(.object "com/example/wee_forge/weeforge/model/ProjectOrder"), (.object "com/example/wee_forge/weeforge/model/ProjectOrder"), (.object "com/example/wee_forge/weeforge/model/ProjectOrder"), (.object "com/example/wee_forge/weeforge/model/ProjectOrder"), (.object "com/example/wee_forge/weeforge/model/ProjectOrder"), (.object "com/example/wee_forge/weeforge/model/ProjectOrder"), (.array (.object "com/example/wee_forge/weeforge/model/ProjectOrder"))]
  resolved := Array.replicate 85 none
  statics := some 1 }

def pool9 : Array CpInfo := pool [(1, .methodref 2 3), (0, .class_ 4), (0, .nameAndType 5 6), (0, u "java/lang/Object"), (0, u "<init>"), (0, u "()V"), (0, .interfaceMethodref 8 9), (0, .class_ 10), (0, .nameAndType 11 12), (0, u "java/util/List"), (0, u "of"), (0, u "()Ljava/util/List;"), (0, .fieldref 14 15), (0, .class_ 16), (0, .nameAndType 17 18), (0, u "com/example/wee_forge/weeforge/model/ProjectFilter"), (0, u "searchTerms"), (0, u "Ljava/util/List;"), (0, .fieldref 14 20), (0, .nameAndType 21 18), (0, u "topics"), (0, .fieldref 23 24), (0, .class_ 25), (0, .nameAndType 26 27), (0, u "com/example/wee_forge/weeforge/model/TimeRange"), (0, u "ANY"), (0, u "Lcom/example/wee_forge/weeforge/model/TimeRange;"), (0, .fieldref 14 29), (0, .nameAndType 30 27), (0, u "lastActivity"), (0, .fieldref 14 32), (0, .nameAndType 33 27), (0, u "updated"), (0, .methodref 35 36), (0, .class_ 37), (0, .nameAndType 38 39), (0, u "java/util/OptionalLong"), (0, u "empty"), (0, u "()Ljava/util/OptionalLong;"), (0, .fieldref 14 41), (0, .nameAndType 42 43), (0, u "idAfter"), (0, u "Ljava/util/OptionalLong;"), (0, .fieldref 14 45), (0, .nameAndType 46 43), (0, u "idBefore"), (0, .fieldref 48 49), (0, .class_ 50), (0, .nameAndType 51 52), (0, u "com/example/wee_forge/weeforge/model/ProjectOrder"), (0, u "CREATED_AT"), (0, u "Lcom/example/wee_forge/weeforge/model/ProjectOrder;"), (0, .fieldref 14 54), (0, .nameAndType 55 52), (0, u "orderBy"), (0, .fieldref 57 58), (0, .class_ 59), (0, .nameAndType 60 61), (0, u "com/example/wee_forge/weeforge/model/SortDirection"), (0, u "DESC"), (0, u "Lcom/example/wee_forge/weeforge/model/SortDirection;"), (0, .fieldref 14 63), (0, .nameAndType 64 61), (0, u "sort"), (2, u "visibility"), (0, u "Lcom/example/wee_forge/weeforge/model/Visibility;"), (2, u "archived"), (0, u "Ljava/lang/Boolean;"), (5, u "()Z"), (19, u "leastRole"), (0, u "Lcom/example/wee_forge/weeforge/model/AccessLevel;"), (0, .fieldref 14 101), (0, .nameAndType 102 103), (0, u "starredOnly"), (0, u "Z"), (1, .methodref 106 107), (0, .class_ 108), (0, .nameAndType 109 110), (0, u "java/util/Objects"), (0, u "requireNonNull"), (0, u "(Ljava/lang/Object;Ljava/lang/String;)Ljava/lang/Object;"), (5, .string 55), (0, .string 64), (22, u "(Lcom/example/wee_forge/weeforge/model/ProjectOrder;)Lcom/example/wee_forge/weeforge/model/ProjectFilter;"), (0, u "(Lcom/example/wee_forge/weeforge/model/SortDirection;)Lcom/example/wee_forge/weeforge/model/ProjectFilter;"), (6, u "()Lcom/example/wee_forge/weeforge/model/ProjectOrder;"), (0, u "()Lcom/example/wee_forge/weeforge/model/SortDirection;")] 2

def k9c0 : Code := { maxStack := 2, maxLocals := 1, code := prog_25_method_1_code, exceptionTable := #[], attributes := #[] }
def k9m0 : Method := { name := "<init>", desc := "()V", sig := { parameters := [], returnType := none }, accessFlags := 1, code := some k9c0 }
def k9c1 : Code := { maxStack := 3, maxLocals := 2, code := prog_25_method_11_code, exceptionTable := #[], attributes := #[] }
def k9m1 : Method := { name := "orderBy", desc := "(Lcom/example/wee_forge/weeforge/model/ProjectOrder;)Lcom/example/wee_forge/weeforge/model/ProjectFilter;", sig := { parameters := [(.object "com/example/wee_forge/weeforge/model/ProjectOrder")], returnType := some (.object "com/example/wee_forge/weeforge/model/ProjectFilter") }, accessFlags := 1, code := some k9c1 }
def k9c2 : Code := { maxStack := 3, maxLocals := 2, code := prog_25_method_12_code, exceptionTable := #[], attributes := #[] }
def k9m2 : Method := { name := "sort", desc := "(Lcom/example/wee_forge/weeforge/model/SortDirection;)Lcom/example/wee_forge/weeforge/model/ProjectFilter;", sig := { parameters := [(.object "com/example/wee_forge/weeforge/model/SortDirection")], returnType := some (.object "com/example/wee_forge/weeforge/model/ProjectFilter") }, accessFlags := 1, code := some k9c2 }
def k9c3 : Code := { maxStack := 1, maxLocals := 1, code := prog_25_method_18_code, exceptionTable := #[], attributes := #[] }
def k9m3 : Method := { name := "starredOnly", desc := "()Z", sig := { parameters := [], returnType := some .boolean }, accessFlags := 1, code := some k9c3 }
def k9c4 : Code := { maxStack := 1, maxLocals := 1, code := prog_25_method_23_code, exceptionTable := #[], attributes := #[] }
def k9m4 : Method := { name := "orderBy", desc := "()Lcom/example/wee_forge/weeforge/model/ProjectOrder;", sig := { parameters := [], returnType := some (.object "com/example/wee_forge/weeforge/model/ProjectOrder") }, accessFlags := 1, code := some k9c4 }
def k9c5 : Code := { maxStack := 1, maxLocals := 1, code := prog_25_method_24_code, exceptionTable := #[], attributes := #[] }
def k9m5 : Method := { name := "sort", desc := "()Lcom/example/wee_forge/weeforge/model/SortDirection;", sig := { parameters := [], returnType := some (.object "com/example/wee_forge/weeforge/model/SortDirection") }, accessFlags := 1, code := some k9c5 }
/-- com/example/wee_forge/weeforge/model/ProjectFilter -/
def k9 : Class := { plain "com/example/wee_forge/weeforge/model/ProjectFilter" (some 0) with
  accessFlags := 49
  interfaces := #[]
  cf := some (fileOf pool9 14 #[] #[{ accessFlags := 1, nameIndex := 5, descriptorIndex := 6, attributes := #[] }, { accessFlags := 1, nameIndex := 55, descriptorIndex := 140, attributes := #[] }, { accessFlags := 1, nameIndex := 64, descriptorIndex := 141, attributes := #[] }, { accessFlags := 1, nameIndex := 102, descriptorIndex := 78, attributes := #[] }, { accessFlags := 1, nameIndex := 55, descriptorIndex := 148, attributes := #[] }, { accessFlags := 1, nameIndex := 64, descriptorIndex := 149, attributes := #[] }] 49 2 #[] #[{ accessFlags := 2, nameIndex := 67, descriptorIndex := 68, attributes := #[] }, { accessFlags := 2, nameIndex := 71, descriptorIndex := 72, attributes := #[] }, { accessFlags := 2, nameIndex := 17, descriptorIndex := 18, attributes := #[] }, { accessFlags := 2, nameIndex := 21, descriptorIndex := 18, attributes := #[] }, { accessFlags := 2, nameIndex := 98, descriptorIndex := 99, attributes := #[] }, { accessFlags := 2, nameIndex := 102, descriptorIndex := 103, attributes := #[] }, { accessFlags := 2, nameIndex := 30, descriptorIndex := 27, attributes := #[] }, { accessFlags := 2, nameIndex := 33, descriptorIndex := 27, attributes := #[] }, { accessFlags := 2, nameIndex := 42, descriptorIndex := 43, attributes := #[] }, { accessFlags := 2, nameIndex := 46, descriptorIndex := 43, attributes := #[] }, { accessFlags := 2, nameIndex := 55, descriptorIndex := 52, attributes := #[] }, { accessFlags := 2, nameIndex := 64, descriptorIndex := 61, attributes := #[] }])
  fields := #[{ name := "visibility", type := (.object "com/example/wee_forge/weeforge/model/Visibility"), accessFlags := 2, slot := 0, constantValue := 0 }, { name := "archived", type := (.object "java/lang/Boolean"), accessFlags := 2, slot := 1, constantValue := 0 }, { name := "searchTerms", type := (.object "java/util/List"), accessFlags := 2, slot := 2, constantValue := 0 }, { name := "topics", type := (.object "java/util/List"), accessFlags := 2, slot := 3, constantValue := 0 }, { name := "leastRole", type := (.object "com/example/wee_forge/weeforge/model/AccessLevel"), accessFlags := 2, slot := 4, constantValue := 0 }, { name := "starredOnly", type := .boolean, accessFlags := 2, slot := 5, constantValue := 0 }, { name := "lastActivity", type := (.object "com/example/wee_forge/weeforge/model/TimeRange"), accessFlags := 2, slot := 6, constantValue := 0 }, { name := "updated", type := (.object "com/example/wee_forge/weeforge/model/TimeRange"), accessFlags := 2, slot := 7, constantValue := 0 }, { name := "idAfter", type := (.object "java/util/OptionalLong"), accessFlags := 2, slot := 8, constantValue := 0 }, { name := "idBefore", type := (.object "java/util/OptionalLong"), accessFlags := 2, slot := 9, constantValue := 0 }, { name := "orderBy", type := (.object "com/example/wee_forge/weeforge/model/ProjectOrder"), accessFlags := 2, slot := 10, constantValue := 0 }, { name := "sort", type := (.object "com/example/wee_forge/weeforge/model/SortDirection"), accessFlags := 2, slot := 11, constantValue := 0 }]
  methods := #[k9m0, k9m1, k9m2, k9m3, k9m4, k9m5]
  instanceTypes := #[(.object "com/example/wee_forge/weeforge/model/Visibility"), (.object "java/lang/Boolean"), (.object "java/util/List"), (.object "java/util/List"), (.object "com/example/wee_forge/weeforge/model/AccessLevel"), .boolean, (.object "com/example/wee_forge/weeforge/model/TimeRange"), (.object "com/example/wee_forge/weeforge/model/TimeRange"), (.object "java/util/OptionalLong"), (.object "java/util/OptionalLong"), (.object "com/example/wee_forge/weeforge/model/ProjectOrder"), (.object "com/example/wee_forge/weeforge/model/SortDirection")]
  staticTypes := #[]
  resolved := Array.replicate 152 none
  statics := none }

def pool10 : Array CpInfo := pool [(8, .class_ 10), (1, u "java/lang/Iterable"), (24, .class_ 36), (0, u "java/lang/Object")] 25

/-- java/lang/Iterable -/
def k10 : Class := { plain "java/lang/Iterable" (some 0) with
  accessFlags := 1537
  interfaces := #[]
  cf := some (fileOf pool10 8 #[] #[] 1537 35 #[] #[])
  fields := #[]
  methods := #[]
  instanceTypes := #[]
  staticTypes := #[]
  resolved := Array.replicate 62 none
  statics := none }

def pool11 : Array CpInfo := pool [(10, .class_ 12), (1, u "java/util/Collection"), (47, .class_ 61), (0, u "java/lang/Object"), (0, .class_ 63), (0, u "java/lang/Iterable")] 51

/-- java/util/Collection -/
def k11 : Class := { plain "java/util/Collection" (some 0) with
  accessFlags := 1537
  interfaces := #[10]
  cf := some (fileOf pool11 10 #[] #[] 1537 60 #[62] #[])
  fields := #[]
  methods := #[]
  instanceTypes := #[]
  staticTypes := #[]
  resolved := Array.replicate 115 none
  statics := none }

def pool12 : Array CpInfo := pool [(8, .class_ 10), (1, u "java/util/SequencedCollection"), (15, .class_ 27), (0, u "java/lang/Object"), (0, .class_ 29), (0, u "java/util/Collection")] 27

/-- java/util/SequencedCollection -/
def k12 : Class := { plain "java/util/SequencedCollection" (some 0) with
  accessFlags := 1537
  interfaces := #[11]
  cf := some (fileOf pool12 8 #[] #[] 1537 26 #[28] #[])
  fields := #[]
  methods := #[]
  instanceTypes := #[]
  staticTypes := #[]
  resolved := Array.replicate 57 none
  statics := none }

def pool13 : Array CpInfo := pool [(8, .class_ 10), (1, u "java/util/List"), (77, u "of"), (1, .fieldref 91 92), (0, .class_ 93), (0, .nameAndType 94 95), (0, u "java/util/ImmutableCollections"), (0, u "EMPTY_LIST"), (0, u "Ljava/util/ImmutableCollections$ListN;"), (7, .class_ 104), (0, u "java/lang/Object"), (14, u "()Ljava/util/List;"), (0, .class_ 121), (0, u "java/util/SequencedCollection")] 129

def k13c0 : Code := { maxStack := 1, maxLocals := 0, code := jdk_40_method_36_code, exceptionTable := #[], attributes := #[] }
def k13m0 : Method := { name := "of", desc := "()Ljava/util/List;", sig := { parameters := [], returnType := some (.object "java/util/List") }, accessFlags := 9, code := some k13c0 }
/-- java/util/List -/
def k13 : Class := { plain "java/util/List" (some 0) with
  accessFlags := 1537
  interfaces := #[12]
  cf := some (fileOf pool13 8 #[] #[{ accessFlags := 9, nameIndex := 88, descriptorIndex := 119, attributes := #[] }] 1537 103 #[120] #[])
  fields := #[]
  methods := #[k13m0]
  instanceTypes := #[]
  staticTypes := #[]
  resolved := Array.replicate 251 none
  statics := none }

def pool14 : Array CpInfo := pool [(2, .class_ 4), (1, u "java/lang/Object"), (0, u "<init>"), (0, u "()V"), (3, .class_ 11), (0, u "java/util/ImmutableCollections$List12"), (0, .class_ 13), (0, u "java/util/ImmutableCollections$ListN"), (3, u "Z"), (29, .class_ 49), (1, u "java/util/ImmutableCollections"), (0, u "$assertionsDisabled"), (5, u "[Ljava/lang/Object;"), (5, u "EMPTY_LIST"), (0, u "Ljava/util/ImmutableCollections$ListN;"), (8, u "EMPTY_LIST_NULLS"), (22, u "SALT32L"), (0, u "J"), (2, u "REVERSE"), (6, u "archivedObjects"), (2, u "EMPTY"), (0, u "Ljava/lang/Object;"), (0, .class_ 112), (0, u "java/util/ImmutableCollections$SetN"), (5, u "EMPTY_SET"), (0, u "Ljava/util/ImmutableCollections$SetN;"), (0, .class_ 121), (0, u "java/util/ImmutableCollections$MapN"), (3, u "EMPTY_MAP"), (0, u "Ljava/util/ImmutableCollections$MapN;"), (4, u "EXPAND_FACTOR"), (0, u "I"), (36, .class_ 170), (0, u "java/util/ImmutableCollections$MapN$MapNIterator"), (0, .class_ 172), (0, u "java/util/ImmutableCollections$MapN$1"), (0, .class_ 174), (0, u "java/util/ImmutableCollections$Map1"), (0, .class_ 176), (0, u "java/util/ImmutableCollections$AbstractImmutableMap"), (0, .class_ 178), (0, u "java/util/ImmutableCollections$SetN$SetNIterator"), (0, .class_ 180), (0, u "java/util/ImmutableCollections$Set12"), (0, .class_ 182), (0, u "java/util/ImmutableCollections$Set12$1"), (0, .class_ 184), (0, u "java/util/ImmutableCollections$AbstractImmutableSet"), (0, .class_ 186), (0, u "java/util/ImmutableCollections$SubList"), (0, .class_ 188), (0, u "java/util/ImmutableCollections$ListItr"), (0, .class_ 190), (0, u "java/util/ImmutableCollections$AbstractImmutableList"), (0, .class_ 192), (0, u "java/util/ImmutableCollections$AbstractImmutableCollection"), (0, .class_ 194), (0, u "java/util/ImmutableCollections$Access"), (0, .class_ 196), (0, u "java/util/ImmutableCollections$Access$1")] 16

def k14m0 : Method := { name := "<init>", desc := "()V", sig := { parameters := [], returnType := none }, accessFlags := 2, code := none }
/-- java/util/ImmutableCollections -/
def k14 : Class := { plain "java/util/ImmutableCollections" (some 0) with
  accessFlags := 32
  interfaces := #[]
  cf := some (fileOf pool14 47 #[.nestMembers #[120, 169, 171, 173, 175, 111, 177, 179, 181, 183, 12, 10, 185, 187, 189, 191, 193, 195]] #[{ accessFlags := 2, nameIndex := 5, descriptorIndex := 6, attributes := #[] }] 32 2 #[] #[{ accessFlags := 26, nameIndex := 95, descriptorIndex := 96, attributes := #[] }, { accessFlags := 26, nameIndex := 99, descriptorIndex := 17, attributes := #[] }, { accessFlags := 10, nameIndex := 106, descriptorIndex := 56, attributes := #[] }, { accessFlags := 26, nameIndex := 109, descriptorIndex := 110, attributes := #[] }, { accessFlags := 24, nameIndex := 62, descriptorIndex := 63, attributes := #[] }, { accessFlags := 24, nameIndex := 72, descriptorIndex := 63, attributes := #[] }, { accessFlags := 24, nameIndex := 118, descriptorIndex := 119, attributes := #[] }, { accessFlags := 24, nameIndex := 125, descriptorIndex := 126, attributes := #[] }, { accessFlags := 24, nameIndex := 131, descriptorIndex := 132, attributes := #[] }, { accessFlags := 4120, nameIndex := 50, descriptorIndex := 17, attributes := #[] }])
  fields := #[{ name := "SALT32L", type := .long, accessFlags := 26, slot := 0, constantValue := 0 }, { name := "REVERSE", type := .boolean, accessFlags := 26, slot := 1, constantValue := 0 }, { name := "archivedObjects", type := (.array (.object "java/lang/Object")), accessFlags := 10, slot := 2, constantValue := 0 }, { name := "EMPTY", type := (.object "java/lang/Object"), accessFlags := 26, slot := 3, constantValue := 0 }, { name := "EMPTY_LIST", type := (.object "java/util/ImmutableCollections$ListN"), accessFlags := 24, slot := 4, constantValue := 0 }, { name := "EMPTY_LIST_NULLS", type := (.object "java/util/ImmutableCollections$ListN"), accessFlags := 24, slot := 5, constantValue := 0 }, { name := "EMPTY_SET", type := (.object "java/util/ImmutableCollections$SetN"), accessFlags := 24, slot := 6, constantValue := 0 }, { name := "EMPTY_MAP", type := (.object "java/util/ImmutableCollections$MapN"), accessFlags := 24, slot := 7, constantValue := 0 }, { name := "EXPAND_FACTOR", type := .int, accessFlags := 24, slot := 8, constantValue := 0 }, { name := "$assertionsDisabled", type := .boolean, accessFlags := 4120, slot := 9, constantValue := 0 }]
  methods := #[k14m0]
  instanceTypes := #[]
  staticTypes := #[.long, .boolean, (.array (.object "java/lang/Object")), (.object "java/lang/Object"), (.object "java/util/ImmutableCollections$ListN"), (.object "java/util/ImmutableCollections$ListN"), (.object "java/util/ImmutableCollections$SetN"), (.object "java/util/ImmutableCollections$MapN"), .int, .boolean]
  resolved := Array.replicate 213 none
  statics := some 2 }

def pool15 : Array CpInfo := pool [(2, .class_ 4), (1, u "java/lang/Object"), (3, .class_ 10), (1, u "com/example/wee_forge/weeforge/model/TimeRange"), (0, u "after"), (0, u "Ljava/time/Instant;"), (2, u "before"), (11, u "ANY"), (0, u "Lcom/example/wee_forge/weeforge/model/TimeRange;")] 8

/-- com/example/wee_forge/weeforge/model/TimeRange -/
def k15 : Class := { plain "com/example/wee_forge/weeforge/model/TimeRange" (some 0) with
  accessFlags := 49
  interfaces := #[]
  cf := some (fileOf pool15 8 #[] #[] 49 2 #[] #[{ accessFlags := 25, nameIndex := 27, descriptorIndex := 28, attributes := #[] }, { accessFlags := 18, nameIndex := 11, descriptorIndex := 12, attributes := #[] }, { accessFlags := 18, nameIndex := 15, descriptorIndex := 12, attributes := #[] }])
  fields := #[{ name := "ANY", type := (.object "com/example/wee_forge/weeforge/model/TimeRange"), accessFlags := 25, slot := 0, constantValue := 0 }, { name := "after", type := (.object "java/time/Instant"), accessFlags := 18, slot := 0, constantValue := 0 }, { name := "before", type := (.object "java/time/Instant"), accessFlags := 18, slot := 1, constantValue := 0 }]
  methods := #[]
  instanceTypes := #[(.object "java/time/Instant"), (.object "java/time/Instant")]
  staticTypes := #[(.object "com/example/wee_forge/weeforge/model/TimeRange")]
  resolved := Array.replicate 37 none
  statics := some 3 }

def pool16 : Array CpInfo := pool [(2, .class_ 4), (1, u "java/lang/Object"), (0, u "<init>"), (0, u "()V"), (1, .class_ 10), (1, u "java/util/OptionalLong"), (0, u "isPresent"), (0, u "Z"), (2, u "value"), (0, u "J"), (0, .fieldref 8 18), (0, .nameAndType 19 20), (0, u "EMPTY"), (0, u "Ljava/util/OptionalLong;"), (28, u "empty"), (46, u "()Ljava/util/OptionalLong;")] 41

def k16m0 : Method := { name := "<init>", desc := "()V", sig := { parameters := [], returnType := none }, accessFlags := 2, code := none }
def k16c1 : Code := { maxStack := 1, maxLocals := 0, code := jdk_2650_method_2_code, exceptionTable := #[], attributes := #[] }
def k16m1 : Method := { name := "empty", desc := "()Ljava/util/OptionalLong;", sig := { parameters := [], returnType := some (.object "java/util/OptionalLong") }, accessFlags := 9, code := some k16c1 }
/-- java/util/OptionalLong -/
def k16 : Class := { plain "java/util/OptionalLong" (some 0) with
  accessFlags := 49
  interfaces := #[]
  cf := some (fileOf pool16 8 #[] #[{ accessFlags := 2, nameIndex := 5, descriptorIndex := 6, attributes := #[] }, { accessFlags := 9, nameIndex := 49, descriptorIndex := 96, attributes := #[] }] 49 2 #[] #[{ accessFlags := 26, nameIndex := 19, descriptorIndex := 20, attributes := #[] }, { accessFlags := 18, nameIndex := 11, descriptorIndex := 12, attributes := #[] }, { accessFlags := 18, nameIndex := 15, descriptorIndex := 16, attributes := #[] }])
  fields := #[{ name := "EMPTY", type := (.object "java/util/OptionalLong"), accessFlags := 26, slot := 0, constantValue := 0 }, { name := "isPresent", type := .boolean, accessFlags := 18, slot := 0, constantValue := 0 }, { name := "value", type := .long, accessFlags := 18, slot := 1, constantValue := 0 }]
  methods := #[k16m0, k16m1]
  instanceTypes := #[.boolean, .long]
  staticTypes := #[(.object "java/util/OptionalLong")]
  resolved := Array.replicate 138 none
  statics := some 4 }

def pool17 : Array CpInfo := pool [(2, .class_ 4), (1, u "java/lang/CharSequence"), (42, .class_ 48), (0, u "java/lang/CharSequence$1CodePointIterator"), (10, .class_ 60), (0, u "java/lang/CharSequence$1CharIterator"), (5, .class_ 67), (0, u "java/lang/Object")] 63

/-- java/lang/CharSequence -/
def k17 : Class := { plain "java/lang/CharSequence" (some 0) with
  accessFlags := 1537
  interfaces := #[]
  cf := some (fileOf pool17 2 #[.nestMembers #[47, 59]] #[] 1537 66 #[] #[])
  fields := #[]
  methods := #[]
  instanceTypes := #[]
  staticTypes := #[]
  resolved := Array.replicate 131 none
  statics := none }

def pool18 : Array CpInfo := pool [(1, .class_ 2), (0, u "java/lang/constant/ConstantDesc"), (0, .class_ 4), (0, u "java/lang/Object")] 32

/-- java/lang/constant/ConstantDesc -/
def k18 : Class := { plain "java/lang/constant/ConstantDesc" (some 0) with
  accessFlags := 1537
  interfaces := #[]
  cf := some (fileOf pool18 1 #[] #[] 1537 3 #[] #[])
  fields := #[]
  methods := #[]
  instanceTypes := #[]
  staticTypes := #[]
  resolved := Array.replicate 37 none
  statics := none }

def pool19 : Array CpInfo := pool [(2, .class_ 4), (1, u "java/lang/Object"), (0, u "<init>"), (0, u "()V"), (3, .class_ 12), (1, u "java/lang/String"), (0, u "value"), (0, u "[B"), (2, u "coder"), (0, u "B"), (2, u "hash"), (0, u "I"), (2, u "hashIsZero"), (0, u "Z"), (13, u "COMPACT_STRINGS"), (534, .class_ 576), (0, u "java/lang/CharSequence"), (22, u "CASE_INSENSITIVE_ORDER"), (0, u "Ljava/util/Comparator;"), (500, u "serialPersistentFields"), (0, u "[Ljava/io/ObjectStreamField;"), (0, .class_ 1104), (0, u "java/lang/String$CaseInsensitiveComparator"), (1, .class_ 1107), (0, u "java/io/Serializable"), (0, .class_ 1109), (0, u "java/lang/Comparable"), (0, .class_ 1111), (0, u "java/lang/constant/Constable"), (0, .class_ 1113), (0, u "java/lang/constant/ConstantDesc"), (2, u "serialVersionUID"), (0, u "J"), (3, u "REPL"), (0, u "C"), (2, u "LATIN1"), (1, u "UTF16")] 323

def k19m0 : Method := { name := "<init>", desc := "()V", sig := { parameters := [], returnType := none }, accessFlags := 1, code := none }
/-- java/lang/String -/
def k19 : Class := { plain "java/lang/String" (some 0) with
  accessFlags := 49
  interfaces := #[4, 3, 17, 2, 18]
  cf := some (fileOf pool19 10 #[.nestMembers #[1103]] #[{ accessFlags := 1, nameIndex := 5, descriptorIndex := 6, attributes := #[] }] 49 2 #[1106, 1108, 575, 1110, 1112] #[{ accessFlags := 18, nameIndex := 13, descriptorIndex := 14, attributes := #[] }, { accessFlags := 18, nameIndex := 17, descriptorIndex := 18, attributes := #[] }, { accessFlags := 2, nameIndex := 21, descriptorIndex := 22, attributes := #[] }, { accessFlags := 2, nameIndex := 25, descriptorIndex := 26, attributes := #[] }, { accessFlags := 26, nameIndex := 1116, descriptorIndex := 1117, attributes := #[] }, { accessFlags := 24, nameIndex := 40, descriptorIndex := 26, attributes := #[] }, { accessFlags := 26, nameIndex := 1101, descriptorIndex := 1102, attributes := #[] }, { accessFlags := 26, nameIndex := 1121, descriptorIndex := 1122, attributes := #[] }, { accessFlags := 25, nameIndex := 599, descriptorIndex := 600, attributes := #[] }, { accessFlags := 24, nameIndex := 1125, descriptorIndex := 18, attributes := #[] }, { accessFlags := 24, nameIndex := 1127, descriptorIndex := 18, attributes := #[] }])
  fields := #[{ name := "value", type := (.array .byte), accessFlags := 18, slot := 0, constantValue := 0 }, { name := "coder", type := .byte, accessFlags := 18, slot := 1, constantValue := 0 }, { name := "hash", type := .int, accessFlags := 2, slot := 2, constantValue := 0 }, { name := "hashIsZero", type := .boolean, accessFlags := 2, slot := 3, constantValue := 0 }, { name := "serialVersionUID", type := .long, accessFlags := 26, slot := 0, constantValue := 0 }, { name := "COMPACT_STRINGS", type := .boolean, accessFlags := 24, slot := 1, constantValue := 0 }, { name := "serialPersistentFields", type := (.array (.object "java/io/ObjectStreamField")), accessFlags := 26, slot := 2, constantValue := 0 }, { name := "REPL", type := .char, accessFlags := 26, slot := 3, constantValue := 0 }, { name := "CASE_INSENSITIVE_ORDER", type := (.object "java/util/Comparator"), accessFlags := 25, slot := 4, constantValue := 0 }, { name := "LATIN1", type := .byte, accessFlags := 24, slot := 5, constantValue := 0 }, { name := "UTF16", type := .byte, accessFlags := 24, slot := 6, constantValue := 0 }]
  methods := #[k19m0]
  instanceTypes := #[(.array .byte), .byte, .int, .boolean]
  staticTypes := #[.long, .boolean, (.array (.object "java/io/ObjectStreamField")), .char, (.object "java/util/Comparator"), .byte, .byte]
  resolved := Array.replicate 1451 none
  statics := none }

def pool20 : Array CpInfo := pool [(2, .class_ 4), (1, u "java/lang/Object"), (0, u "<init>"), (0, u "()V"), (35, .class_ 44), (1, u "java/util/Objects"), (0, u "requireNonNull"), (48, u "(Ljava/lang/Object;Ljava/lang/String;)Ljava/lang/Object;")] 89

def k20m0 : Method := { name := "<init>", desc := "()V", sig := { parameters := [], returnType := none }, accessFlags := 2, code := none }
def k20c1 : Code := { maxStack := 3, maxLocals := 2, code := jdk_31_method_11_code, exceptionTable := #[], attributes := #[] }
def k20m1 : Method := { name := "requireNonNull", desc := "(Ljava/lang/Object;Ljava/lang/String;)Ljava/lang/Object;", sig := { parameters := [(.object "java/lang/Object"), (.object "java/lang/String")], returnType := some (.object "java/lang/Object") }, accessFlags := 9, code := some k20c1 }
/-- java/util/Objects -/
def k20 : Class := { plain "java/util/Objects" (some 0) with
  accessFlags := 49
  interfaces := #[]
  cf := some (fileOf pool20 42 #[] #[{ accessFlags := 2, nameIndex := 5, descriptorIndex := 6, attributes := #[] }, { accessFlags := 9, nameIndex := 45, descriptorIndex := 94, attributes := #[] }] 49 2 #[] #[])
  fields := #[]
  methods := #[k20m0, k20m1]
  instanceTypes := #[]
  staticTypes := #[]
  resolved := Array.replicate 184 none
  statics := none }

def pool21 : Array CpInfo := pool [(2, .class_ 4), (1, u "java/lang/Object"), (0, u "<init>"), (0, u "()V"), (1, .class_ 10), (1, u "java/util/AbstractCollection"), (66, .class_ 78), (0, u "java/util/Collection")] 81

def k21m0 : Method := { name := "<init>", desc := "()V", sig := { parameters := [], returnType := none }, accessFlags := 4, code := none }
/-- java/util/AbstractCollection -/
def k21 : Class := { plain "java/util/AbstractCollection" (some 0) with
  accessFlags := 1057
  interfaces := #[11]
  cf := some (fileOf pool21 8 #[] #[{ accessFlags := 4, nameIndex := 5, descriptorIndex := 6, attributes := #[] }] 1057 2 #[77] #[])
  fields := #[]
  methods := #[k21m0]
  instanceTypes := #[]
  staticTypes := #[]
  resolved := Array.replicate 160 none
  statics := none }

def pool22 : Array CpInfo := pool [(2, .class_ 4), (1, u "java/util/AbstractCollection"), (0, u "<init>"), (0, u "()V"), (1, .class_ 10), (1, u "java/util/ImmutableCollections"), (2, .class_ 14), (0, u "java/util/ImmutableCollections$AbstractImmutableCollection")] 41

def k22m0 : Method := { name := "<init>", desc := "()V", sig := { parameters := [], returnType := none }, accessFlags := 0, code := none }
/-- java/util/ImmutableCollections$AbstractImmutableCollection -/
def k22 : Class := { plain "java/util/ImmutableCollections$AbstractImmutableCollection" (some 21) with
  accessFlags := 1056
  interfaces := #[]
  cf := some (fileOf pool22 13 #[.nestHost 8] #[{ accessFlags := 0, nameIndex := 5, descriptorIndex := 6, attributes := #[] }] 1056 2 #[] #[])
  fields := #[]
  methods := #[k22m0]
  instanceTypes := #[]
  staticTypes := #[]
  resolved := Array.replicate 56 none
  statics := none }

def pool23 : Array CpInfo := pool [(1, .class_ 2), (0, u "java/util/RandomAccess"), (0, .class_ 4), (0, u "java/lang/Object")] 2

/-- java/util/RandomAccess -/
def k23 : Class := { plain "java/util/RandomAccess" (some 0) with
  accessFlags := 1537
  interfaces := #[]
  cf := some (fileOf pool23 1 #[] #[] 1537 3 #[] #[])
  fields := #[]
  methods := #[]
  instanceTypes := #[]
  staticTypes := #[]
  resolved := Array.replicate 7 none
  statics := none }

def pool24 : Array CpInfo := pool [(2, .class_ 4), (1, u "java/util/ImmutableCollections$AbstractImmutableCollection"), (0, u "<init>"), (0, u "()V"), (1, .class_ 10), (1, u "java/util/ImmutableCollections"), (3, .class_ 16), (1, u "java/util/ImmutableCollections$AbstractImmutableList"), (60, .class_ 78), (0, u "java/util/List"), (45, .class_ 125), (0, u "java/util/RandomAccess")] 70

def k24m0 : Method := { name := "<init>", desc := "()V", sig := { parameters := [], returnType := none }, accessFlags := 0, code := none }
/-- java/util/ImmutableCollections$AbstractImmutableList -/
def k24 : Class := { plain "java/util/ImmutableCollections$AbstractImmutableList" (some 22) with
  accessFlags := 1056
  interfaces := #[13, 23]
  cf := some (fileOf pool24 14 #[.nestHost 8] #[{ accessFlags := 0, nameIndex := 5, descriptorIndex := 6, attributes := #[] }] 1056 2 #[77, 124] #[])
  fields := #[]
  methods := #[k24m0]
  instanceTypes := #[]
  staticTypes := #[]
  resolved := Array.replicate 196 none
  statics := none }

def pool25 : Array CpInfo := pool [(2, .class_ 4), (1, u "java/util/ImmutableCollections$AbstractImmutableList"), (3, .class_ 10), (1, u "java/util/ImmutableCollections$ListN"), (0, u "elements"), (0, u "[Ljava/lang/Object;"), (2, u "allowNulls"), (0, u "Z"), (42, .class_ 60), (0, u "java/io/Serializable"), (53, .class_ 115), (0, u "java/util/ImmutableCollections")] 3

/-- java/util/ImmutableCollections$ListN -/
def k25 : Class := { plain "java/util/ImmutableCollections$ListN" (some 24) with
  accessFlags := 48
  interfaces := #[4]
  cf := some (fileOf pool25 8 #[.nestHost 114] #[] 48 2 #[59] #[{ accessFlags := 18, nameIndex := 11, descriptorIndex := 12, attributes := #[] }, { accessFlags := 18, nameIndex := 15, descriptorIndex := 16, attributes := #[] }])
  fields := #[{ name := "elements", type := (.array (.object "java/lang/Object")), accessFlags := 18, slot := 0, constantValue := 0 }, { name := "allowNulls", type := .boolean, accessFlags := 18, slot := 1, constantValue := 0 }]
  methods := #[]
  instanceTypes := #[(.array (.object "java/lang/Object")), .boolean]
  staticTypes := #[]
  resolved := Array.replicate 119 none
  statics := none }

def pool26 : Array CpInfo := pool [(1, u "java/lang/Cloneable"), (0, .class_ 1), (0, u "java/lang/Object"), (0, .class_ 3)] 3

/-- java/lang/Cloneable -/
def k26 : Class := { plain "java/lang/Cloneable" (some 0) with
  accessFlags := 1537
  interfaces := #[]
  cf := some (fileOf pool26 2 #[] #[] 1537 4 #[] #[])
  fields := #[]
  methods := #[]
  instanceTypes := #[]
  staticTypes := #[]
  resolved := Array.replicate 8 none
  statics := none }

/-- the primitive byte -/
def k27 : Class := { plain "byte" none with kind := .primitive 'B', accessFlags := 0x411 }
/-- [B -/
def k28 : Class := { plain "[B" (some 0) with kind := .array 27 .byte, interfaces := #[26, 4], accessFlags := 1041 }

/-- the primitive int -/
def k29 : Class := { plain "int" none with kind := .primitive 'I', accessFlags := 0x411 }
/-- [I -/
def k30 : Class := { plain "[I" (some 0) with kind := .array 29 .int, interfaces := #[26, 4], accessFlags := 1041 }

/-- [Ljava/lang/Object; -/
def k31 : Class := { plain "[Ljava/lang/Object;" (some 0) with kind := .array 0 (.object "java/lang/Object"), interfaces := #[26, 4], accessFlags := 1041 }

def heap : Heap := #[{ cls := 7, slots := #[.ref 7, .ref 6, .null], vm := .statics 7 },
  { cls := 8, slots := #[.ref 13, .ref 11, .ref 8, .ref 10, .ref 14, .ref 12, .null], vm := .statics 8 },
  { cls := 14, slots := #[.long 0, .int 0, .null, .null, .ref 15, .null, .null, .null, .int 0, .int 0], vm := .statics 14 },
  { cls := 15, slots := #[.ref 9], vm := .statics 15 },
  { cls := 16, slots := #[.ref 16], vm := .statics 16 },
  { cls := 31, slots := #[], vm := .none },
  { cls := 7, slots := #[.null, .int 0, .int 0, .null], vm := .none },
  { cls := 7, slots := #[.null, .int 0, .int 0, .null], vm := .none },
  { cls := 8, slots := #[.null, .int 0, .int 0, .null], vm := .none },
  { cls := 15, slots := #[.null, .null], vm := .none },
  { cls := 8, slots := #[.null, .int 0, .int 0, .null], vm := .none },
  { cls := 8, slots := #[.null, .int 0, .int 0, .null], vm := .none },
  { cls := 8, slots := #[.null, .int 0, .int 0, .null], vm := .none },
  { cls := 8, slots := #[.null, .int 0, .int 0, .null], vm := .none },
  { cls := 8, slots := #[.null, .int 0, .int 0, .null], vm := .none },
  { cls := 25, slots := #[.ref 5, .int 0], vm := .none },
  { cls := 16, slots := #[.int 0, .long 0], vm := .none }]
def classes : Array Class := #[k0, k1, k2, k3, k4, k5, k6, k7, k8, k9, k10, k11, k12, k13, k14, k15, k16, k17, k18, k19, k20, k21, k22, k23, k24, k25, k26, k27, k28, k29, k30, k31]
def interned : List (Array UInt16 × Addr) := []
def slotsUsed : Nat := 60
def theMethod : MethodId := ⟨1, 3⟩
def args0 : Array Value := #[.int 5, .int 3, .int 2]
def aboutOver (below : List Frame) : State where
  vm := { classes := classes, interned := interned.toArray }
  heap := heap
  slotsUsed := slotsUsed
  threads := #[{ frames := .invoking theMethod args0 :: below }]
def below0 : List Frame := [.native { method := ⟨0, 0⟩, args := #[] }]
def about1 : State := aboutOver below0
def p0 : Program := .bare "" "" ""
def e0 : Env := launch0.env 0 0 0
theorem w_frames : about1.frames = Frame.invoking theMethod args0 :: below0 := rfl
set_option maxRecDepth 65536 in
theorem w_args : argsFit about1.vm theMethod args0 = true := by decide +kernel
set_option maxRecDepth 65536 in
theorem w_heap : heapFits about1 = true := by decide +kernel
set_option maxRecDepth 65536 in
theorem w_runnable : about1.curStatus? = some .runnable := by decide +kernel
set_option maxRecDepth 65536 in
theorem w_alone : about1.alone = true := by decide +kernel
set_option maxRecDepth 65536 in
theorem w_named : about1.methodNamed? x = some theMethod := by decide +kernel
set_option maxRecDepth 65536 in
theorem w_hears : about1.hears theMethod below0 = true := by decide +kernel
set_option maxRecDepth 65536 in
theorem w_ripe : about1.ripe theMethod args0 below0 = true := by decide +kernel
theorem w_running : about1.status = .running := rfl
set_option maxRecDepth 65536 in
theorem w_room : about1.hasRoom e0.platform room_1 = true :=
  launch0.hasRoom_least _ room_1 (by decide +kernel) (by decide +kernel) (by decide +kernel) (by decide +kernel) (by decide +kernel) (by decide +kernel)
theorem allAtoms_all (ts : List Jvm.Cond) (a : Array Jvm.Value) (st : Jvm.State) : (allAtoms ts).before a st = ts.all (fun c => c.before a st) := by
  induction ts with
  | nil => rfl
  | cons c t ih =>
    show (Jvm.Cond.and c (allAtoms t)).before a st = _
    rw [Jvm.Cond.before_and, ih, List.all_cons]
def words1 : List Jvm.Cond := Jvm.Cond.code x code maxLocals ret :: tables_1
/-- a 'code' word, met by the world's own term for the bytes: nothing is compared byte by byte -/
theorem code_word {y : MethodName} {bytes : ByteArray} {mx : Nat} {rt : Option FieldType} {a : Array Value} {s : State} {m : MethodId} {meth : Method} {c : Code} (h1 : s.methodNamed? y = some m) (h2 : s.vm.method? m = some meth) (h3 : meth.code = some c) (h4 : c.code = bytes)
    (h5 : (c.maxLocals == mx && c.exceptionTable.isEmpty && decide (c.maxStack ≤ mostOperands) && decide (meth.sig.returnType = rt) && !meth.locks && decide (parseMethodDescriptor y.desc = some meth.sig)) = true) : (Jvm.Cond.code y bytes mx rt).before a s = true := by
  simp only [Bool.and_eq_true, beq_iff_eq, Bool.not_eq_true', decide_eq_true_eq] at h5
  obtain ⟨⟨⟨⟨⟨g1, g2⟩, g3⟩, g4⟩, g5⟩, g6⟩ := h5
  simp [Cond.before, Cond.holds, Cond.value, h1, h2, h3, h4, g1, g2, g3, g4, g5, g6]
def isCode : Jvm.Cond → Bool
  | .code _ _ _ _ => true
  | _ => false
theorem all_split {L : List Jvm.Cond} {P : Jvm.Cond → Bool} (h1 : L.all (fun c => isCode c || P c) = true) (h2 : ∀ c ∈ L.filter isCode, P c = true) : L.all P = true := by
  refine List.all_eq_true.mpr fun c hc => ?_
  have h := List.all_eq_true.mp h1 c hc
  rcases Bool.eq_false_or_eq_true (isCode c) with hi | hi
  · exact h2 c (List.mem_filter.mpr ⟨hc, hi⟩)
  · simpa [hi] using h
set_option maxRecDepth 65536 in
theorem w_c0 : (Jvm.Cond.code x code maxLocals ret).before args0 about1 = true := code_word (m := ⟨1, 3⟩) (meth := k1m3) (c := k1c3) (by decide +kernel) rfl rfl rfl (by decide +kernel)
set_option maxRecDepth 65536 in
theorem w_c1 : (Jvm.Cond.code ({ cls := "com/example/wee_forge/weeforge/model/ProjectFilterSortPinLaw", name := "dir", desc := "(I)Lcom/example/wee_forge/weeforge/model/SortDirection;" } : Jvm.MethodName) method_2_code (1 : Nat) (Option.some (Jvm.ClassFile.FieldType.object "com/example/wee_forge/weeforge/model/SortDirection"))).before args0 about1 = true := code_word (m := ⟨1, 1⟩) (meth := k1m1) (c := k1c1) (by decide +kernel) rfl rfl rfl (by decide +kernel)
set_option maxRecDepth 65536 in
theorem w_c2 : (Jvm.Cond.code ({ cls := "com/example/wee_forge/weeforge/model/ProjectFilterSortPinLaw", name := "order", desc := "(I)Lcom/example/wee_forge/weeforge/model/ProjectOrder;" } : Jvm.MethodName) method_3_code (2 : Nat) (Option.some (Jvm.ClassFile.FieldType.object "com/example/wee_forge/weeforge/model/ProjectOrder"))).before args0 about1 = true := code_word (m := ⟨1, 2⟩) (meth := k1m2) (c := k1c2) (by decide +kernel) rfl rfl rfl (by decide +kernel)
set_option maxRecDepth 65536 in
theorem w_c3 : (Jvm.Cond.code ({ cls := "com/example/wee_forge/weeforge/model/ProjectFilter", name := "<init>", desc := "()V" } : Jvm.MethodName) prog_25_method_1_code (1 : Nat) (Option.none : Option Jvm.ClassFile.FieldType)).before args0 about1 = true := code_word (m := ⟨9, 0⟩) (meth := k9m0) (c := k9c0) (by decide +kernel) rfl rfl rfl (by decide +kernel)
set_option maxRecDepth 65536 in
theorem w_c4 : (Jvm.Cond.code ({ cls := "java/lang/Object", name := "<init>", desc := "()V" } : Jvm.MethodName) object_method_1_code (1 : Nat) (Option.none : Option Jvm.ClassFile.FieldType)).before args0 about1 = true := code_word (m := ⟨0, 0⟩) (meth := k0m0) (c := k0c0) (by decide +kernel) rfl rfl rfl (by decide +kernel)
set_option maxRecDepth 65536 in
theorem w_c5 : (Jvm.Cond.code ({ cls := "java/util/List", name := "of", desc := "()Ljava/util/List;" } : Jvm.MethodName) jdk_40_method_36_code (0 : Nat) (Option.some (Jvm.ClassFile.FieldType.object "java/util/List"))).before args0 about1 = true := code_word (m := ⟨13, 0⟩) (meth := k13m0) (c := k13c0) (by decide +kernel) rfl rfl rfl (by decide +kernel)
set_option maxRecDepth 65536 in
theorem w_c6 : (Jvm.Cond.code ({ cls := "java/util/OptionalLong", name := "empty", desc := "()Ljava/util/OptionalLong;" } : Jvm.MethodName) jdk_2650_method_2_code (0 : Nat) (Option.some (Jvm.ClassFile.FieldType.object "java/util/OptionalLong"))).before args0 about1 = true := code_word (m := ⟨16, 1⟩) (meth := k16m1) (c := k16c1) (by decide +kernel) rfl rfl rfl (by decide +kernel)
set_option maxRecDepth 65536 in
theorem w_c7 : (Jvm.Cond.code ({ cls := "com/example/wee_forge/weeforge/model/ProjectFilter", name := "sort", desc := "(Lcom/example/wee_forge/weeforge/model/SortDirection;)Lcom/example/wee_forge/weeforge/model/ProjectFilter;" } : Jvm.MethodName) prog_25_method_12_code (2 : Nat) (Option.some (Jvm.ClassFile.FieldType.object "com/example/wee_forge/weeforge/model/ProjectFilter"))).before args0 about1 = true := code_word (m := ⟨9, 2⟩) (meth := k9m2) (c := k9c2) (by decide +kernel) rfl rfl rfl (by decide +kernel)
set_option maxRecDepth 65536 in
theorem w_c8 : (Jvm.Cond.code ({ cls := "java/util/Objects", name := "requireNonNull", desc := "(Ljava/lang/Object;Ljava/lang/String;)Ljava/lang/Object;" } : Jvm.MethodName) jdk_31_method_11_code (2 : Nat) (Option.some (Jvm.ClassFile.FieldType.object "java/lang/Object"))).before args0 about1 = true := code_word (m := ⟨20, 1⟩) (meth := k20m1) (c := k20c1) (by decide +kernel) rfl rfl rfl (by decide +kernel)
set_option maxRecDepth 65536 in
theorem w_c9 : (Jvm.Cond.code ({ cls := "com/example/wee_forge/weeforge/model/ProjectFilter", name := "sort", desc := "()Lcom/example/wee_forge/weeforge/model/SortDirection;" } : Jvm.MethodName) prog_25_method_24_code (1 : Nat) (Option.some (Jvm.ClassFile.FieldType.object "com/example/wee_forge/weeforge/model/SortDirection"))).before args0 about1 = true := code_word (m := ⟨9, 5⟩) (meth := k9m5) (c := k9c5) (by decide +kernel) rfl rfl rfl (by decide +kernel)
set_option maxRecDepth 65536 in
theorem w_c10 : (Jvm.Cond.code ({ cls := "com/example/wee_forge/weeforge/model/ProjectFilter", name := "orderBy", desc := "()Lcom/example/wee_forge/weeforge/model/ProjectOrder;" } : Jvm.MethodName) prog_25_method_23_code (1 : Nat) (Option.some (Jvm.ClassFile.FieldType.object "com/example/wee_forge/weeforge/model/ProjectOrder"))).before args0 about1 = true := code_word (m := ⟨9, 4⟩) (meth := k9m4) (c := k9c4) (by decide +kernel) rfl rfl rfl (by decide +kernel)
set_option maxRecDepth 65536 in
theorem w_c11 : (Jvm.Cond.code ({ cls := "com/example/wee_forge/weeforge/model/ProjectFilter", name := "starredOnly", desc := "()Z" } : Jvm.MethodName) prog_25_method_18_code (1 : Nat) (Option.some Jvm.ClassFile.FieldType.boolean)).before args0 about1 = true := code_word (m := ⟨9, 3⟩) (meth := k9m3) (c := k9c3) (by decide +kernel) rfl rfl rfl (by decide +kernel)
set_option maxRecDepth 65536 in
theorem w_c12 : (Jvm.Cond.code ({ cls := "com/example/wee_forge/weeforge/model/ProjectFilter", name := "orderBy", desc := "(Lcom/example/wee_forge/weeforge/model/ProjectOrder;)Lcom/example/wee_forge/weeforge/model/ProjectFilter;" } : Jvm.MethodName) prog_25_method_11_code (2 : Nat) (Option.some (Jvm.ClassFile.FieldType.object "com/example/wee_forge/weeforge/model/ProjectFilter"))).before args0 about1 = true := code_word (m := ⟨9, 1⟩) (meth := k9m1) (c := k9c1) (by decide +kernel) rfl rfl rfl (by decide +kernel)
def codes1 : List Jvm.Cond := [Jvm.Cond.code x code maxLocals ret, Jvm.Cond.code ({ cls := "com/example/wee_forge/weeforge/model/ProjectFilterSortPinLaw", name := "dir", desc := "(I)Lcom/example/wee_forge/weeforge/model/SortDirection;" } : Jvm.MethodName) method_2_code (1 : Nat) (Option.some (Jvm.ClassFile.FieldType.object "com/example/wee_forge/weeforge/model/SortDirection")), Jvm.Cond.code ({ cls := "com/example/wee_forge/weeforge/model/ProjectFilterSortPinLaw", name := "order", desc := "(I)Lcom/example/wee_forge/weeforge/model/ProjectOrder;" } : Jvm.MethodName) method_3_code (2 : Nat) (Option.some (Jvm.ClassFile.FieldType.object "com/example/wee_forge/weeforge/model/ProjectOrder")), Jvm.Cond.code ({ cls := "com/example/wee_forge/weeforge/model/ProjectFilter", name := "<init>", desc := "()V" } : Jvm.MethodName) prog_25_method_1_code (1 : Nat) (Option.none : Option Jvm.ClassFile.FieldType), Jvm.Cond.code ({ cls := "java/lang/Object", name := "<init>", desc := "()V" } : Jvm.MethodName) object_method_1_code (1 : Nat) (Option.none : Option Jvm.ClassFile.FieldType), Jvm.Cond.code ({ cls := "java/util/List", name := "of", desc := "()Ljava/util/List;" } : Jvm.MethodName) jdk_40_method_36_code (0 : Nat) (Option.some (Jvm.ClassFile.FieldType.object "java/util/List")), Jvm.Cond.code ({ cls := "java/util/OptionalLong", name := "empty", desc := "()Ljava/util/OptionalLong;" } : Jvm.MethodName) jdk_2650_method_2_code (0 : Nat) (Option.some (Jvm.ClassFile.FieldType.object "java/util/OptionalLong")), Jvm.Cond.code ({ cls := "com/example/wee_forge/weeforge/model/ProjectFilter", name := "sort", desc := "(Lcom/example/wee_forge/weeforge/model/SortDirection;)Lcom/example/wee_forge/weeforge/model/ProjectFilter;" } : Jvm.MethodName) prog_25_method_12_code (2 : Nat) (Option.some (Jvm.ClassFile.FieldType.object "com/example/wee_forge/weeforge/model/ProjectFilter")), Jvm.Cond.code ({ cls := "java/util/Objects", name := "requireNonNull", desc := "(Ljava/lang/Object;Ljava/lang/String;)Ljava/lang/Object;" } : Jvm.MethodName) jdk_31_method_11_code (2 : Nat) (Option.some (Jvm.ClassFile.FieldType.object "java/lang/Object")), Jvm.Cond.code ({ cls := "com/example/wee_forge/weeforge/model/ProjectFilter", name := "sort", desc := "()Lcom/example/wee_forge/weeforge/model/SortDirection;" } : Jvm.MethodName) prog_25_method_24_code (1 : Nat) (Option.some (Jvm.ClassFile.FieldType.object "com/example/wee_forge/weeforge/model/SortDirection")), Jvm.Cond.code ({ cls := "com/example/wee_forge/weeforge/model/ProjectFilter", name := "orderBy", desc := "()Lcom/example/wee_forge/weeforge/model/ProjectOrder;" } : Jvm.MethodName) prog_25_method_23_code (1 : Nat) (Option.some (Jvm.ClassFile.FieldType.object "com/example/wee_forge/weeforge/model/ProjectOrder")), Jvm.Cond.code ({ cls := "com/example/wee_forge/weeforge/model/ProjectFilter", name := "starredOnly", desc := "()Z" } : Jvm.MethodName) prog_25_method_18_code (1 : Nat) (Option.some Jvm.ClassFile.FieldType.boolean), Jvm.Cond.code ({ cls := "com/example/wee_forge/weeforge/model/ProjectFilter", name := "orderBy", desc := "(Lcom/example/wee_forge/weeforge/model/ProjectOrder;)Lcom/example/wee_forge/weeforge/model/ProjectFilter;" } : Jvm.MethodName) prog_25_method_11_code (2 : Nat) (Option.some (Jvm.ClassFile.FieldType.object "com/example/wee_forge/weeforge/model/ProjectFilter"))]
set_option maxRecDepth 65536 in
theorem codes_eq : words1.filter isCode = codes1 := rfl
theorem w_codes : ∀ c ∈ words1.filter isCode, c.before args0 about1 = true := by
  rw [codes_eq]
  intro c hc
  simp only [codes1, List.mem_cons, List.not_mem_nil, or_false] at hc
  rcases hc with rfl | rfl | rfl | rfl | rfl | rfl | rfl | rfl | rfl | rfl | rfl | rfl | rfl
  · exact w_c0
  · exact w_c1
  · exact w_c2
  · exact w_c3
  · exact w_c4
  · exact w_c5
  · exact w_c6
  · exact w_c7
  · exact w_c8
  · exact w_c9
  · exact w_c10
  · exact w_c11
  · exact w_c12
set_option maxRecDepth 65536 in
theorem w_t1 : (words1.take 24).all (fun c => isCode c || c.before args0 about1) = true := by decide +kernel
set_option maxRecDepth 65536 in
theorem w_t2 : ((words1.drop 24).take 24).all (fun c => isCode c || c.before args0 about1) = true := by decide +kernel
set_option maxRecDepth 65536 in
theorem w_t3 : (((words1.drop 24).drop 24).take 24).all (fun c => isCode c || c.before args0 about1) = true := by decide +kernel
set_option maxRecDepth 65536 in
theorem w_t4 : ((((words1.drop 24).drop 24).drop 24).take 24).all (fun c => isCode c || c.before args0 about1) = true := by decide +kernel
set_option maxRecDepth 65536 in
theorem w_t5 : ((((words1.drop 24).drop 24).drop 24).drop 24).all (fun c => isCode c || c.before args0 about1) = true := by decide +kernel
theorem w_tables : (allAtoms (Jvm.Cond.code x code maxLocals ret :: tables_1)).before args0 about1 = true := by
  rw [allAtoms_all]
  show words1.all (fun c => c.before args0 about1) = true
  refine all_split ?_ w_codes
  rw [← List.take_append_drop 24 words1, List.all_append, w_t1, ← List.take_append_drop 24 (words1.drop 24), List.all_append, w_t2, ← List.take_append_drop 24 ((words1.drop 24).drop 24), List.all_append, w_t3, ← List.take_append_drop 24 (((words1.drop 24).drop 24).drop 24), List.all_append, w_t4, w_t5]
  rfl
set_option maxRecDepth 65536 in
theorem w_rest : rest_1_c.before args0 about1 = true := by decide +kernel
set_option maxRecDepth 65536 in
theorem w_case : (Jvm.Cond.and given_1 narrow_1).before args0 about1 = true := by decide +kernel
theorem w_applies : (headSpec (Jvm.Cond.code x code maxLocals ret :: tables_1) room_1).applies x e0.platform about1 = true :=
  (Spec.applies_iff w_frames).mpr ⟨w_running, w_runnable, w_alone, w_named, w_hears, w_ripe, w_room, w_tables⟩
theorem atStart : AtStart classFile x code maxLocals ret World_1 tables_1 room_1 Calls_1 rest_1 Pre_1 launch0 p0 e0 about1 theMethod args0 below0 :=
  ⟨lists_1, trivial, launch0.admits_env _ _ _, launch0.least_env, fairChoices_fair.cas, fairChoices_fair.clock, w_frames, w_args, w_heap, w_applies, trivial, w_rest, w_case⟩
end start1
theorem witness_1 : WitnessClaimed_1 := ⟨start1.p0, start1.e0, start1.about1, start1.theMethod, start1.args0, start1.below0, start1.atStart⟩
end Jvm.Pilot.@@N@@
