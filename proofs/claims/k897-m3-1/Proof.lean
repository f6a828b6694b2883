import JvmDerived
import JvmDerived.Pilot.@@N@@Statement
import JvmDerived.Pilot.@@N@@Code
set_option linter.unusedVariables false
set_option linter.unusedSimpArgs false
namespace Jvm.RoadKit
open Sem ClassFile Op Lib Jvm.Stand Jvm.Free Jvm.LawKit
section New
variable {p : Program} {l : Launch} {e : Env} {R : Room} {s : State} {m : MethodId} {args : Array Value} {below : List Frame} {meth : Method} {c : Code} {T : State} {locs : List Loc} {cells slots : Nat}
theorem retI (X : Stand p l e R s m args below meth c T locs cells slots) (hx : p.tables.exec = Jvm.exec) {pc : Nat} {Ls : Array Slot} {z : Int32} {rest : List Value} (hret : meth.sig.returnType = some .int) (hd : decode c.code pc = .ok (.ireturn, 1)) {fs : List Frame}
    (hl : ∀ (f : JFrame) (acts : List Action), f.method = m → f.locked = none → f.entered = [] → (doReturn e (T.setTop f) acts (some (.int z))).1 = T.setFrames fs) : Steps p.tables e below (T.setTop (mkF m pc Ls (.int z :: rest))) (T.setFrames fs) := by
  have hm' : T.vm.method? m = some meth := X.method'
  have hn : narrow .int (.int z) = .int z := rfl
  show Steps p.tables e below (T.setTop { method := m, pc := pc, locals := Ls, stack := _ :: rest, locked := none }) _
  jvm_step X.here [X.here.top, hx, hd, hm', hret, hn]
  first | (intro acts; rw [hl _ acts rfl rfl rfl]) | rw [hl _ _ rfl rfl rfl]
  exact Steps.refl _
end New
end Jvm.RoadKit
namespace Jvm.Pilot.@@N@@
open Jvm Jvm.ClassFile Sem Op Lib Jvm.Free Jvm.Stand Jvm.LawKit Jvm.RoadKit Bundle Jvm.Pilot.@@N@@.Jvm.D
theorem own_retb (z : Int32) (h : z = 0 ∨ z = 1) : narrow .boolean (.int z) = .int z := by rcases h with rfl | rfl <;> rfl
theorem own_rem (x n : Int32) (hn : 0 < n.toInt) : 0 ≤ ((x &&& (2147483647 : Int32)) % n).toInt ∧ ((x &&& (2147483647 : Int32)) % n).toInt < n.toInt := by
  have h1 := c_mask x (2147483647 : Int32) 31 (by decide) (by decide)
  have h2 := (c_iremV (x &&& (2147483647 : Int32)) n).1 (by omega) hn
  exact ⟨h2.1, h2.2.1⟩
theorem own_of3 {k : Int32} (h : 0 ≤ k.toInt ∧ k.toInt < 3) : k = 0 ∨ k = 1 ∨ k = 2 := by
  have h2 : k.toInt = (0 : Int32).toInt ∨ k.toInt = (1 : Int32).toInt ∨ k.toInt = (2 : Int32).toInt := by simp; omega
  simpa only [Int32.toInt_inj] using h2
theorem own_of5 {k : Int32} (h : 0 ≤ k.toInt ∧ k.toInt < 5) : k = 0 ∨ k = 1 ∨ k = 2 ∨ k = 3 ∨ k = 4 := by
  have h2 : k.toInt = (0 : Int32).toInt ∨ k.toInt = (1 : Int32).toInt ∨ k.toInt = (2 : Int32).toInt ∨ k.toInt = (3 : Int32).toInt ∨ k.toInt = (4 : Int32).toInt := by simp; omega
  simpa only [Int32.toInt_inj] using h2
theorem own_of6 {k : Int32} (h : 0 ≤ k.toInt ∧ k.toInt < 6) : k = 0 ∨ k = 1 ∨ k = 2 ∨ k = 3 ∨ k = 4 ∨ k = 5 := by
  have h2 : k.toInt = (0 : Int32).toInt ∨ k.toInt = (1 : Int32).toInt ∨ k.toInt = (2 : Int32).toInt ∨ k.toInt = (3 : Int32).toInt ∨ k.toInt = (4 : Int32).toInt ∨ k.toInt = (5 : Int32).toInt := by simp; omega
  simpa only [Int32.toInt_inj] using h2
theorem own_eqI {args : Array Value} {s : State} {t : Term} {k : Int32} (h : (Jvm.Cond.eq t (.int k)).value args s none s [] = some true) : t.eval args s none [] s = some (.int k) := by
  obtain ⟨u, v, hu, hv, k1, k2⟩ := cmp_v (Or.inl h)
  have hv2 : v = .int k := Option.some.inj (hv.symm.trans (Term.int_eval k))
  subst hv2
  cases u <;> simp [Cond.value, hu, hv] at h
  subst h; exact hu
theorem own_fld {args : Array Value} {s : State} {t : Term} {a : Addr} {C n d : String} {k : Int32} (ev : t.eval args s none [] s = some (.ref a)) (h : (Jvm.Cond.eq (.field t C n d) (.int k)).value args s none s [] = some true) : Fld s s.heap a C n d (.int k) :=
  Fld.start ((fld_at ev).symm.trans (own_eqI h))
theorem own_len {args : Array Value} {s : State} {t : Term} {a : Addr} {cl : Cell} {ty : FieldType} {k : Int32} (ev : t.eval args s none [] s = some (.ref a)) (A : Arr s s.heap a cl ty) (h : (Jvm.Cond.eq (.length t) (.int k)).value args s none s [] = some true) : cl.slots.size.toInt32 = k := by
  obtain ⟨b, c, e1, e2, e3⟩ := Term.length_spec (own_eqI h)
  cases ev.symm.trans e1
  cases (A.fin (Vm.Alike.refl _)).symm.trans e2
  exact (Value.int.inj e3).symm
theorem own_lenlt {args : Array Value} {s : State} {t : Term} {a : Addr} {cl : Cell} {ty : FieldType} {k : Int32} (ev : t.eval args s none [] s = some (.ref a)) (A : Arr s s.heap a cl ty) (h : (Jvm.Cond.eq (.length t) (.int k)).value args s none s [] = some true) : cl.slots.size < 2 ^ 31 := by
  have h1 := own_eqI h
  have h2 := A.fin (Vm.Alike.refl _)
  apply Classical.byContradiction
  intro h3
  simp [Term.eval, ev, h2, h3] at h1
theorem own_elem {args : Array Value} {s : State} {t u : Term} {a b : Addr} {cl : Cell} {ty : FieldType} {j : Int32} (ev : t.eval args s none [] s = some (.ref a)) (A : Arr s s.heap a cl ty) (hu : u.eval args s none [] s = some (.ref b)) (h : (Jvm.Cond.eq (.elem t (.int j)) u).value args s none s [] = some true) : cl.slots[j.toNatClampNeg]? = some (.ref b) := by
  obtain ⟨x, y, hx, hy, -, -⟩ := cmp_v (Or.inl h)
  cases hu.symm.trans hy
  have h2 := (elem_in hx ev (Term.int_eval j) A.1).2
  cases x <;> simp [Cond.value, hx, hy] at h
  subst h; exact h2
theorem own_fldN {args : Array Value} {s : State} {t : Term} {a : Addr} {C n d : String} (ev : t.eval args s none [] s = some (.ref a)) (h : (Jvm.Cond.eq (.field t C n d) .null).value args s none s [] = some true) : Fld s s.heap a C n d .null :=
  Fld.start ((fld_at ev).symm.trans (null_v h))
def QR (Z : State) (r : Addr) (h0 : Heap) (n0 : Nat) (v : Option Value) (h : Heap) (L : List Loc) : Prop := v = some (.ref r) ∧ Fr n0 L ∧ h = h0
def QI (Z : State) (r : Int32) (h0 : Heap) (n0 : Nat) (v : Option Value) (h : Heap) (L : List Loc) : Prop := v = some (.int r) ∧ Fr n0 L ∧ h = h0
theorem d1_0 : decode prog_29_method_7_code 0 = .ok (.aload_n 0, 1) := by decide +kernel
theorem d1_1 : decode prog_29_method_7_code 1 = .ok (.getfield 41, 3) := by decide +kernel
theorem d1_4 : decode prog_29_method_7_code 4 = .ok (.ifnull 7, 3) := by decide +kernel
theorem d1_7 : decode prog_29_method_7_code 7 = .ok (.iconst 1, 1) := by decide +kernel
theorem d1_8 : decode prog_29_method_7_code 8 = .ok (.goto 4, 3) := by decide +kernel
theorem d1_12 : decode prog_29_method_7_code 12 = .ok (.ireturn, 1) := by decide +kernel
theorem pn_rmY : plainName "com/example/keyturn/keyturn/signing/JarDigestAlgorithm" = true := by first | (simp [plainName, overriddenIn]; done) | decide +kernel
theorem ef_rmY (m : MethodId) (a1 : Addr) : entryFrame m #[(.ref a1)] 1 = mkF m 0 #[.val (.ref a1)] [] := by first | (simp [entryFrame, mkF, argsToLocals, Value.category]; done) | rfl
set_option maxRecDepth 65536 in
set_option maxHeartbeats 40000000 in
theorem rmY (l : Launch) (Z : State) (a0 : Array Value) (hw : ∀ d ∈ tables_1, d.before a0 Z = true) (ws : List Jvm.Cond) (a1 a2 : Addr) (h0 : Heap) (n0 : Nat) (Z0 : n0 ≤ h0.size) (F_h : Fld Z h0 a1 "com/example/keyturn/keyturn/signing/JarDigestAlgorithm" "headerName" "Ljava/lang/String;" (.ref a2)) :
    MetFree l (⟨"com/example/keyturn/keyturn/signing/JarDigestAlgorithm", "hasHeaders", "()Z"⟩ : MethodName) (head1 (Jvm.Cond.code (⟨"com/example/keyturn/keyturn/signing/JarDigestAlgorithm", "hasHeaders", "()Z"⟩ : MethodName) prog_29_method_7_code 1 (some .boolean) :: ws) ({ frames := 0, cells := 0, slots := 0, locals := 0 } : Room)) (fun a U => a = #[(.ref a1)] ∧ Z.Warmed39 U.vm ∧ U.heap = h0) (fun _ _ _ _ _ => True) (fun _ U o U' => ∃ v L, o = .returned v ∧ QI Z (1 : Int32) h0 n0 v U'.heap L ∧ FrameEnd U o U' L ({ frames := 0, cells := 0, slots := 0, locals := 0 } : Room).cells ({ frames := 0, cells := 0, slots := 0, locals := 0 } : Room).slots) := by
  refine MetFree.of_bodySF (plainFor_of_name pn_rmY) hisR ?_
  intro p e s m args below meth c s₁ Bd hml0 hP hK
  obtain ⟨rfl, hZ, hh⟩ := hP
  have hx := Bd.exec
  have hby := Bd.bytes
  have hml : c.maxLocals = 1 := hml0
  have hown : s.vm.findClass "com/example/keyturn/keyturn/signing/JarDigestAlgorithm" = some m.cls := findClass_of_methodNamed Bd.named
  have hnm := (name_of_methodNamed Bd.named Bd.method).1
  have X0 : Stand p l e ({ frames := 0, cells := 0, slots := 0, locals := 0 } : Room) s m #[(.ref a1)] below meth c s₁ [] 0 0 := Stand.of_body Bd
  have e0 : s₁.heap = h0 := by rw [← hh, Bd.state]; rfl
  have N0 := Fr.nil n0
  have pre0 : ∀ tt, Steps p.tables e below (s₁.setTop (mkF m 0 #[.val (.ref a1)] [])) tt → Steps p.tables e below (s₁.setTop (entryFrame m #[(.ref a1)] 1)) tt := fun tt kt => castTop (ef_rmY m a1) kt
  obtain ⟨T1, X1, e1, st1⟩ := getF X0 hx hZ hown (host := "") (Or.inl (hw _ (List.mem_of_getElem? (i := 9) rfl))) Via.refl e0 F_h (g := (mkF m 1 #[.val (.ref a1)] [(.ref a1)])) rfl rfl (hb hby d1_1)
  have pre2 : ∀ tt, Steps p.tables e below (T1.setTop (mkF m 12 #[.val (.ref a1)] [(.int (1 : Int32))])) tt → Steps p.tables e below (s₁.setTop (entryFrame m #[(.ref a1)] 1)) tt := by
    intro tt kt
    refine pre0 tt ?_
    show Steps p.tables e below (s₁.setTop (mkF m 0 #[.val (.ref a1)] [])) _
    refine XS.aloadN X0.here hx rfl (hb hby d1_0) rfl rfl ?_
    show Steps p.tables e below (s₁.setTop (mkF m 1 #[.val (.ref a1)] [(.ref a1)])) _
    refine st1 _ ?_
    show Steps p.tables e below (T1.setTop (mkF m 4 #[.val (.ref a1)] [(.ref a2)])) _
    refine XS.ifnullNo X1.here hx rfl (hb hby d1_4) rfl ?_
    show Steps p.tables e below (T1.setTop (mkF m 7 #[.val (.ref a1)] [])) _
    refine XS.iconst X1.here hx rfl (hb hby d1_7) ?_
    show Steps p.tables e below (T1.setTop (mkF m 8 #[.val (.ref a1)] [(.int (1 : Int32))])) _
    refine XS.goto X1.here hx rfl (pc0 := 8) (pc' := 12) rfl (hb hby d1_8) (by decide) (by decide) ?_
    exact kt
  obtain ⟨fs, hr, hrun, hended, hW, hsame⟩ := X1.leave (v := some (.int (1 : Int32))) (fun h => by rw [Bd.returns] at h; cases h)
  refine ⟨_, _, pre2 _ ?_, hrun, hended, _, _, rfl, ?_, ⟨_, rfl⟩, hW, hsame.mono (by decide) (by decide)⟩
  · show Steps p.tables e below (T1.setTop (mkF m 12 #[.val (.ref a1)] [(.int (1 : Int32))])) _
    exact retN X1 hx (t := .boolean) Bd.returns (by simp) (hb hby d1_12) hr
  · show QI Z (1 : Int32) h0 n0 _ T1.heap _
    rw [e1]
    exact ⟨rfl, N0, rfl⟩
theorem d1_11 : decode prog_29_method_7_code 11 = .ok (.iconst 0, 1) := by decide +kernel
theorem pn_rmN : plainName "com/example/keyturn/keyturn/signing/JarDigestAlgorithm" = true := by first | (simp [plainName, overriddenIn]; done) | decide +kernel
theorem ef_rmN (m : MethodId) (a1 : Addr) : entryFrame m #[(.ref a1)] 1 = mkF m 0 #[.val (.ref a1)] [] := by first | (simp [entryFrame, mkF, argsToLocals, Value.category]; done) | rfl
set_option maxRecDepth 65536 in
set_option maxHeartbeats 40000000 in
theorem rmN (l : Launch) (Z : State) (a0 : Array Value) (hw : ∀ d ∈ tables_1, d.before a0 Z = true) (ws : List Jvm.Cond) (a1 : Addr) (h0 : Heap) (n0 : Nat) (Z0 : n0 ≤ h0.size) (F_h : Fld Z h0 a1 "com/example/keyturn/keyturn/signing/JarDigestAlgorithm" "headerName" "Ljava/lang/String;" .null) :
    MetFree l (⟨"com/example/keyturn/keyturn/signing/JarDigestAlgorithm", "hasHeaders", "()Z"⟩ : MethodName) (head1 (Jvm.Cond.code (⟨"com/example/keyturn/keyturn/signing/JarDigestAlgorithm", "hasHeaders", "()Z"⟩ : MethodName) prog_29_method_7_code 1 (some .boolean) :: ws) ({ frames := 0, cells := 0, slots := 0, locals := 0 } : Room)) (fun a U => a = #[(.ref a1)] ∧ Z.Warmed39 U.vm ∧ U.heap = h0) (fun _ _ _ _ _ => True) (fun _ U o U' => ∃ v L, o = .returned v ∧ QI Z (0 : Int32) h0 n0 v U'.heap L ∧ FrameEnd U o U' L ({ frames := 0, cells := 0, slots := 0, locals := 0 } : Room).cells ({ frames := 0, cells := 0, slots := 0, locals := 0 } : Room).slots) := by
  refine MetFree.of_bodySF (plainFor_of_name pn_rmN) hisR ?_
  intro p e s m args below meth c s₁ Bd hml0 hP hK
  obtain ⟨rfl, hZ, hh⟩ := hP
  have hx := Bd.exec
  have hby := Bd.bytes
  have hml : c.maxLocals = 1 := hml0
  have hown : s.vm.findClass "com/example/keyturn/keyturn/signing/JarDigestAlgorithm" = some m.cls := findClass_of_methodNamed Bd.named
  have hnm := (name_of_methodNamed Bd.named Bd.method).1
  have X0 : Stand p l e ({ frames := 0, cells := 0, slots := 0, locals := 0 } : Room) s m #[(.ref a1)] below meth c s₁ [] 0 0 := Stand.of_body Bd
  have e0 : s₁.heap = h0 := by rw [← hh, Bd.state]; rfl
  have N0 := Fr.nil n0
  have pre0 : ∀ tt, Steps p.tables e below (s₁.setTop (mkF m 0 #[.val (.ref a1)] [])) tt → Steps p.tables e below (s₁.setTop (entryFrame m #[(.ref a1)] 1)) tt := fun tt kt => castTop (ef_rmN m a1) kt
  obtain ⟨T1, X1, e1, st1⟩ := getF X0 hx hZ hown (host := "") (Or.inl (hw _ (List.mem_of_getElem? (i := 9) rfl))) Via.refl e0 F_h (g := (mkF m 1 #[.val (.ref a1)] [(.ref a1)])) rfl rfl (hb hby d1_1)
  have pre2 : ∀ tt, Steps p.tables e below (T1.setTop (mkF m 12 #[.val (.ref a1)] [(.int (0 : Int32))])) tt → Steps p.tables e below (s₁.setTop (entryFrame m #[(.ref a1)] 1)) tt := by
    intro tt kt
    refine pre0 tt ?_
    show Steps p.tables e below (s₁.setTop (mkF m 0 #[.val (.ref a1)] [])) _
    refine XS.aloadN X0.here hx rfl (hb hby d1_0) rfl rfl ?_
    show Steps p.tables e below (s₁.setTop (mkF m 1 #[.val (.ref a1)] [(.ref a1)])) _
    refine st1 _ ?_
    show Steps p.tables e below (T1.setTop (mkF m 4 #[.val (.ref a1)] [.null])) _
    refine XS.ifnullYes X1.here hx rfl (pc0 := 4) (pc' := 11) rfl (hb hby d1_4) rfl (by decide) (by decide) ?_
    show Steps p.tables e below (T1.setTop (mkF m 11 #[.val (.ref a1)] [])) _
    refine XS.iconst X1.here hx rfl (hb hby d1_11) ?_
    exact kt
  obtain ⟨fs, hr, hrun, hended, hW, hsame⟩ := X1.leave (v := some (.int (0 : Int32))) (fun h => by rw [Bd.returns] at h; cases h)
  refine ⟨_, _, pre2 _ ?_, hrun, hended, _, _, rfl, ?_, ⟨_, rfl⟩, hW, hsame.mono (by decide) (by decide)⟩
  · show Steps p.tables e below (T1.setTop (mkF m 12 #[.val (.ref a1)] [(.int (0 : Int32))])) _
    exact retN X1 hx (t := .boolean) Bd.returns (by simp) (hb hby d1_12) hr
  · show QI Z (0 : Int32) h0 n0 _ T1.heap _
    rw [e1]
    exact ⟨rfl, N0, rfl⟩
theorem d2_0 : decode prog_29_method_8_code 0 = .ok (.aload_n 0, 1) := by decide +kernel
theorem d2_1 : decode prog_29_method_8_code 1 = .ok (.getfield 41, 3) := by decide +kernel
theorem d2_4 : decode prog_29_method_8_code 4 = .ok (.ifnonnull 20, 3) := by decide +kernel
theorem d2_24 : decode prog_29_method_8_code 24 = .ok (.aload_n 0, 1) := by decide +kernel
theorem d2_25 : decode prog_29_method_8_code 25 = .ok (.getfield 41, 3) := by decide +kernel
theorem d2_28 : decode prog_29_method_8_code 28 = .ok (.areturn, 1) := by decide +kernel
theorem pn_rmG : plainName "com/example/keyturn/keyturn/signing/JarDigestAlgorithm" = true := by first | (simp [plainName, overriddenIn]; done) | decide +kernel
theorem ef_rmG (m : MethodId) (a1 : Addr) : entryFrame m #[(.ref a1)] 1 = mkF m 0 #[.val (.ref a1)] [] := by first | (simp [entryFrame, mkF, argsToLocals, Value.category]; done) | rfl
set_option maxRecDepth 65536 in
set_option maxHeartbeats 40000000 in
theorem rmG (l : Launch) (Z : State) (a0 : Array Value) (hw : ∀ d ∈ tables_1, d.before a0 Z = true) (ws : List Jvm.Cond) (a1 a2 : Addr) (h0 : Heap) (n0 : Nat) (Z0 : n0 ≤ h0.size) (F_h : Fld Z h0 a1 "com/example/keyturn/keyturn/signing/JarDigestAlgorithm" "headerName" "Ljava/lang/String;" (.ref a2)) :
    MetFree l (⟨"com/example/keyturn/keyturn/signing/JarDigestAlgorithm", "getHeaderName", "()Ljava/lang/String;"⟩ : MethodName) (head1 (Jvm.Cond.code (⟨"com/example/keyturn/keyturn/signing/JarDigestAlgorithm", "getHeaderName", "()Ljava/lang/String;"⟩ : MethodName) prog_29_method_8_code 1 (some (.object "java/lang/String")) :: ws) ({ frames := 0, cells := 0, slots := 0, locals := 0 } : Room)) (fun a U => a = #[(.ref a1)] ∧ Z.Warmed39 U.vm ∧ U.heap = h0) (fun _ _ _ _ _ => True) (fun _ U o U' => ∃ v L, o = .returned v ∧ QR Z a2 h0 n0 v U'.heap L ∧ FrameEnd U o U' L ({ frames := 0, cells := 0, slots := 0, locals := 0 } : Room).cells ({ frames := 0, cells := 0, slots := 0, locals := 0 } : Room).slots) := by
  refine MetFree.of_bodySF (plainFor_of_name pn_rmG) hisR ?_
  intro p e s m args below meth c s₁ Bd hml0 hP hK
  obtain ⟨rfl, hZ, hh⟩ := hP
  have hx := Bd.exec
  have hby := Bd.bytes
  have hml : c.maxLocals = 1 := hml0
  have hown : s.vm.findClass "com/example/keyturn/keyturn/signing/JarDigestAlgorithm" = some m.cls := findClass_of_methodNamed Bd.named
  have hnm := (name_of_methodNamed Bd.named Bd.method).1
  have X0 : Stand p l e ({ frames := 0, cells := 0, slots := 0, locals := 0 } : Room) s m #[(.ref a1)] below meth c s₁ [] 0 0 := Stand.of_body Bd
  have e0 : s₁.heap = h0 := by rw [← hh, Bd.state]; rfl
  have N0 := Fr.nil n0
  have pre0 : ∀ tt, Steps p.tables e below (s₁.setTop (mkF m 0 #[.val (.ref a1)] [])) tt → Steps p.tables e below (s₁.setTop (entryFrame m #[(.ref a1)] 1)) tt := fun tt kt => castTop (ef_rmG m a1) kt
  obtain ⟨T1, X1, e1, st1⟩ := getF X0 hx hZ hown (host := "") (Or.inl (hw _ (List.mem_of_getElem? (i := 9) rfl))) Via.refl e0 F_h (g := (mkF m 1 #[.val (.ref a1)] [(.ref a1)])) rfl rfl (hb hby d2_1)
  obtain ⟨T2, X2, e2, st2⟩ := getF X1 hx hZ hown (host := "") (Or.inl (hw _ (List.mem_of_getElem? (i := 9) rfl))) Via.refl e1 F_h (g := (mkF m 25 #[.val (.ref a1)] [(.ref a1)])) rfl rfl (hb hby d2_25)
  have pre3 : ∀ tt, Steps p.tables e below (T2.setTop (mkF m 28 #[.val (.ref a1)] [(.ref a2)])) tt → Steps p.tables e below (s₁.setTop (entryFrame m #[(.ref a1)] 1)) tt := by
    intro tt kt
    refine pre0 tt ?_
    show Steps p.tables e below (s₁.setTop (mkF m 0 #[.val (.ref a1)] [])) _
    refine XS.aloadN X0.here hx rfl (hb hby d2_0) rfl rfl ?_
    show Steps p.tables e below (s₁.setTop (mkF m 1 #[.val (.ref a1)] [(.ref a1)])) _
    refine st1 _ ?_
    show Steps p.tables e below (T1.setTop (mkF m 4 #[.val (.ref a1)] [(.ref a2)])) _
    refine XS.ifnonnullYes X1.here hx rfl (pc0 := 4) (pc' := 24) rfl (hb hby d2_4) rfl (by decide) (by decide) ?_
    show Steps p.tables e below (T1.setTop (mkF m 24 #[.val (.ref a1)] [])) _
    refine XS.aloadN X1.here hx rfl (hb hby d2_24) rfl rfl ?_
    show Steps p.tables e below (T1.setTop (mkF m 25 #[.val (.ref a1)] [(.ref a1)])) _
    refine st2 _ ?_
    exact kt
  obtain ⟨fs, hr, hrun, hended, hW, hsame⟩ := X2.leave (v := some (.ref a2)) (fun h => by rw [Bd.returns] at h; cases h)
  refine ⟨_, _, pre3 _ ?_, hrun, hended, _, _, rfl, ?_, ⟨_, rfl⟩, hW, hsame.mono (by decide) (by decide)⟩
  · show Steps p.tables e below (T2.setTop (mkF m 28 #[.val (.ref a1)] [(.ref a2)])) _
    jvm_step X2.here [X2.here.top, hx, (hb hby d2_28), X2.method', Bd.returns, Value.isRef, FieldType.isReference]
    first | (intro acts; rw [hr _ acts rfl rfl rfl]) | rw [hr _ _ rfl rfl rfl]
    exact Steps.refl _
  · show QR Z a2 h0 n0 _ T2.heap _
    rw [e2]
    exact ⟨rfl, N0, rfl⟩
theorem d3_0 : decode jdk_42_method_55_code 0 = .ok (.aload_n 0, 1) := by decide +kernel
theorem d3_1 : decode jdk_42_method_55_code 1 = .ok (.getfield 9, 3) := by decide +kernel
theorem d3_4 : decode jdk_42_method_55_code 4 = .ok (.arraylength, 1) := by decide +kernel
theorem d3_5 : decode jdk_42_method_55_code 5 = .ok (.ifCond .ne 7, 3) := by decide +kernel
theorem d3_12 : decode jdk_42_method_55_code 12 = .ok (.iconst 0, 1) := by decide +kernel
theorem d3_13 : decode jdk_42_method_55_code 13 = .ok (.ireturn, 1) := by decide +kernel
theorem pn_rmE : plainName "java/lang/String" = true := by first | (simp [plainName, overriddenIn]; done) | decide +kernel
theorem ef_rmE (m : MethodId) (a1 : Addr) : entryFrame m #[(.ref a1)] 1 = mkF m 0 #[.val (.ref a1)] [] := by first | (simp [entryFrame, mkF, argsToLocals, Value.category]; done) | rfl
set_option maxRecDepth 65536 in
set_option maxHeartbeats 40000000 in
theorem rmE (l : Launch) (Z : State) (a0 : Array Value) (hw : ∀ d ∈ tables_1, d.before a0 Z = true) (ws : List Jvm.Cond) (a1 a2 : Addr) (cl : Cell) (z : Int32) (h0 : Heap) (n0 : Nat) (Z0 : n0 ≤ h0.size) (F_v : Fld Z h0 a1 "java/lang/String" "value" "[B" (.ref a2)) (A_v : Arr Z h0 a2 cl .byte) (hl : cl.slots.size.toInt32 = z) (hz : ¬ (z = (0 : Int32))) :
    MetFree l (⟨"java/lang/String", "isEmpty", "()Z"⟩ : MethodName) (head1 (Jvm.Cond.code (⟨"java/lang/String", "isEmpty", "()Z"⟩ : MethodName) jdk_42_method_55_code 1 (some .boolean) :: ws) ({ frames := 0, cells := 0, slots := 0, locals := 0 } : Room)) (fun a U => a = #[(.ref a1)] ∧ Z.Warmed39 U.vm ∧ U.heap = h0) (fun _ _ _ _ _ => True) (fun _ U o U' => ∃ v L, o = .returned v ∧ QI Z (0 : Int32) h0 n0 v U'.heap L ∧ FrameEnd U o U' L ({ frames := 0, cells := 0, slots := 0, locals := 0 } : Room).cells ({ frames := 0, cells := 0, slots := 0, locals := 0 } : Room).slots) := by
  refine MetFree.of_bodySF (plainFor_of_name pn_rmE) hisR ?_
  intro p e s m args below meth c s₁ Bd hml0 hP hK
  obtain ⟨rfl, hZ, hh⟩ := hP
  have hx := Bd.exec
  have hby := Bd.bytes
  have hml : c.maxLocals = 1 := hml0
  have hown : s.vm.findClass "java/lang/String" = some m.cls := findClass_of_methodNamed Bd.named
  have hnm := (name_of_methodNamed Bd.named Bd.method).1
  have X0 : Stand p l e ({ frames := 0, cells := 0, slots := 0, locals := 0 } : Room) s m #[(.ref a1)] below meth c s₁ [] 0 0 := Stand.of_body Bd
  have e0 : s₁.heap = h0 := by rw [← hh, Bd.state]; rfl
  have N0 := Fr.nil n0
  have pre0 : ∀ tt, Steps p.tables e below (s₁.setTop (mkF m 0 #[.val (.ref a1)] [])) tt → Steps p.tables e below (s₁.setTop (entryFrame m #[(.ref a1)] 1)) tt := fun tt kt => castTop (ef_rmE m a1) kt
  obtain ⟨T1, X1, e1, st1⟩ := getF X0 hx hZ hown (host := "") (Or.inl (hw _ (List.mem_of_getElem? (i := 24) rfl))) Via.refl e0 F_v (g := (mkF m 1 #[.val (.ref a1)] [(.ref a1)])) rfl rfl (hb hby d3_1)
  have pre2 : ∀ tt, Steps p.tables e below (T1.setTop (mkF m 13 #[.val (.ref a1)] [(.int (0 : Int32))])) tt → Steps p.tables e below (s₁.setTop (entryFrame m #[(.ref a1)] 1)) tt := by
    intro tt kt
    refine pre0 tt ?_
    show Steps p.tables e below (s₁.setTop (mkF m 0 #[.val (.ref a1)] [])) _
    refine XS.aloadN X0.here hx rfl (hb hby d3_0) rfl rfl ?_
    show Steps p.tables e below (s₁.setTop (mkF m 1 #[.val (.ref a1)] [(.ref a1)])) _
    refine st1 _ ?_
    show Steps p.tables e below (T1.setTop (mkF m 4 #[.val (.ref a1)] [(.ref a2)])) _
    refine X1.arraylength hx (by rw [e1]; exact (A_v).1) (State.isArrayOf_alike hZ.alike (A_v).2.1) (g := (mkF m 4 #[.val (.ref a1)] [(.ref a2)])) rfl rfl (hb hby d3_4) _ ?_
    rw [hl]
    show Steps p.tables e below (T1.setTop (mkF m 5 #[.val (.ref a1)] [(.int z)])) _
    refine XS.ifYes X1.here hx rfl (pc0 := 5) (pc' := 12) rfl (hb hby d3_5) rfl ((if0 _ _).trans (feq hz).2) (by decide) (by decide) ?_
    show Steps p.tables e below (T1.setTop (mkF m 12 #[.val (.ref a1)] [])) _
    refine XS.iconst X1.here hx rfl (hb hby d3_12) ?_
    exact kt
  obtain ⟨fs, hr, hrun, hended, hW, hsame⟩ := X1.leave (v := some (.int (0 : Int32))) (fun h => by rw [Bd.returns] at h; cases h)
  refine ⟨_, _, pre2 _ ?_, hrun, hended, _, _, rfl, ?_, ⟨_, rfl⟩, hW, hsame.mono (by decide) (by decide)⟩
  · show Steps p.tables e below (T1.setTop (mkF m 13 #[.val (.ref a1)] [(.int (0 : Int32))])) _
    exact retN X1 hx (t := .boolean) Bd.returns (by simp) (hb hby d3_13) hr
  · show QI Z (0 : Int32) h0 n0 _ T1.heap _
    rw [e1]
    exact ⟨rfl, N0, rfl⟩
def Q0 (Z : State) (h0 : Heap) (n0 : Nat) (v : Option Value) (h : Heap) (L : List Loc) : Prop := v = some (.int (1 : Int32)) ∧ Fr n0 L
theorem pn_rm0 : plainName "com/example/keyturn/keyturn/signing/JarDigestAlgorithmHasHeadersPinLaw" = true := by first | (simp [plainName, overriddenIn]; done) | decide +kernel
theorem pd_rm0_0 : parseMethodDescriptor "()Z" = some ⟨[], some .boolean⟩ := by decide +kernel
theorem pd_rm0_1 : parseMethodDescriptor "()Ljava/lang/String;" = some ⟨[], some (.object "java/lang/String")⟩ := by decide +kernel
theorem ef_rm0 (m : MethodId) (p1 : Int32) : entryFrame m #[(.int p1)] maxLocals = mkF m 0 #[.val (.int p1), .unset, .unset, .unset, .unset, .unset] [] := by first | (simp [entryFrame, mkF, argsToLocals, Value.category, maxLocals]; done) | rfl
set_option maxRecDepth 65536 in
set_option maxHeartbeats 40000000 in
theorem rm0 (l : Launch) (Z : State) (a0 : Array Value) (hw : ∀ d ∈ tables_1, d.before a0 Z = true) (ws : List Jvm.Cond) (p1 : Int32) (w_MD5 w_SHA1 w_SHA_224 w_SHA_256 w_SHA_384 w_SHA_512 : Addr) (w_SHA1_headerName w_SHA1_headerName_value : Addr) (cl_SHA1_headerName_value : Cell) (w_SHA_256_headerName w_SHA_256_headerName_value : Addr) (cl_SHA_256_headerName_value : Cell) (w_SHA_384_headerName w_SHA_384_headerName_value : Addr) (cl_SHA_384_headerName_value : Cell) (w_SHA_512_headerName w_SHA_512_headerName_value : Addr) (cl_SHA_512_headerName_value : Cell) (h0 : Heap) (n0 : Nat) (Z0 : n0 ≤ h0.size) (S_MD5 : Sta Z h0 "com/example/keyturn/keyturn/signing/JarDigestAlgorithm" "MD5" "Lcom/example/keyturn/keyturn/signing/JarDigestAlgorithm;" (.ref w_MD5)) (S_SHA1 : Sta Z h0 "com/example/keyturn/keyturn/signing/JarDigestAlgorithm" "SHA1" "Lcom/example/keyturn/keyturn/signing/JarDigestAlgorithm;" (.ref w_SHA1)) (S_SHA_224 : Sta Z h0 "com/example/keyturn/keyturn/signing/JarDigestAlgorithm" "SHA_224" "Lcom/example/keyturn/keyturn/signing/JarDigestAlgorithm;" (.ref w_SHA_224)) (S_SHA_256 : Sta Z h0 "com/example/keyturn/keyturn/signing/JarDigestAlgorithm" "SHA_256" "Lcom/example/keyturn/keyturn/signing/JarDigestAlgorithm;" (.ref w_SHA_256)) (S_SHA_384 : Sta Z h0 "com/example/keyturn/keyturn/signing/JarDigestAlgorithm" "SHA_384" "Lcom/example/keyturn/keyturn/signing/JarDigestAlgorithm;" (.ref w_SHA_384)) (S_SHA_512 : Sta Z h0 "com/example/keyturn/keyturn/signing/JarDigestAlgorithm" "SHA_512" "Lcom/example/keyturn/keyturn/signing/JarDigestAlgorithm;" (.ref w_SHA_512)) (E_MD5 : Exa Z h0 w_MD5 "com/example/keyturn/keyturn/signing/JarDigestAlgorithm") (E_SHA1 : Exa Z h0 w_SHA1 "com/example/keyturn/keyturn/signing/JarDigestAlgorithm") (E_SHA_224 : Exa Z h0 w_SHA_224 "com/example/keyturn/keyturn/signing/JarDigestAlgorithm") (E_SHA_256 : Exa Z h0 w_SHA_256 "com/example/keyturn/keyturn/signing/JarDigestAlgorithm") (E_SHA_384 : Exa Z h0 w_SHA_384 "com/example/keyturn/keyturn/signing/JarDigestAlgorithm") (E_SHA_512 : Exa Z h0 w_SHA_512 "com/example/keyturn/keyturn/signing/JarDigestAlgorithm") (F_MD5_headerName : Fld Z h0 w_MD5 "com/example/keyturn/keyturn/signing/JarDigestAlgorithm" "headerName" "Ljava/lang/String;" .null) (F_SHA1_headerName : Fld Z h0 w_SHA1 "com/example/keyturn/keyturn/signing/JarDigestAlgorithm" "headerName" "Ljava/lang/String;" (.ref w_SHA1_headerName)) (E_SHA1_headerName : Exa Z h0 w_SHA1_headerName "java/lang/String") (F_SHA1_headerName_value : Fld Z h0 w_SHA1_headerName "java/lang/String" "value" "[B" (.ref w_SHA1_headerName_value)) (A_SHA1_headerName_value : Arr Z h0 w_SHA1_headerName_value cl_SHA1_headerName_value .byte) (l_SHA1_headerName_value : cl_SHA1_headerName_value.slots.size.toInt32 = (4 : Int32)) (F_SHA_224_headerName : Fld Z h0 w_SHA_224 "com/example/keyturn/keyturn/signing/JarDigestAlgorithm" "headerName" "Ljava/lang/String;" .null) (F_SHA_256_headerName : Fld Z h0 w_SHA_256 "com/example/keyturn/keyturn/signing/JarDigestAlgorithm" "headerName" "Ljava/lang/String;" (.ref w_SHA_256_headerName)) (E_SHA_256_headerName : Exa Z h0 w_SHA_256_headerName "java/lang/String") (F_SHA_256_headerName_value : Fld Z h0 w_SHA_256_headerName "java/lang/String" "value" "[B" (.ref w_SHA_256_headerName_value)) (A_SHA_256_headerName_value : Arr Z h0 w_SHA_256_headerName_value cl_SHA_256_headerName_value .byte) (l_SHA_256_headerName_value : cl_SHA_256_headerName_value.slots.size.toInt32 = (7 : Int32)) (F_SHA_384_headerName : Fld Z h0 w_SHA_384 "com/example/keyturn/keyturn/signing/JarDigestAlgorithm" "headerName" "Ljava/lang/String;" (.ref w_SHA_384_headerName)) (E_SHA_384_headerName : Exa Z h0 w_SHA_384_headerName "java/lang/String") (F_SHA_384_headerName_value : Fld Z h0 w_SHA_384_headerName "java/lang/String" "value" "[B" (.ref w_SHA_384_headerName_value)) (A_SHA_384_headerName_value : Arr Z h0 w_SHA_384_headerName_value cl_SHA_384_headerName_value .byte) (l_SHA_384_headerName_value : cl_SHA_384_headerName_value.slots.size.toInt32 = (7 : Int32)) (F_SHA_512_headerName : Fld Z h0 w_SHA_512 "com/example/keyturn/keyturn/signing/JarDigestAlgorithm" "headerName" "Ljava/lang/String;" (.ref w_SHA_512_headerName)) (E_SHA_512_headerName : Exa Z h0 w_SHA_512_headerName "java/lang/String") (F_SHA_512_headerName_value : Fld Z h0 w_SHA_512_headerName "java/lang/String" "value" "[B" (.ref w_SHA_512_headerName_value)) (A_SHA_512_headerName_value : Arr Z h0 w_SHA_512_headerName_value cl_SHA_512_headerName_value .byte) (l_SHA_512_headerName_value : cl_SHA_512_headerName_value.slots.size.toInt32 = (7 : Int32)) :
    MetFree l x (head1 (Jvm.Cond.code x code maxLocals ret :: ws) room_1) (fun a U => a = #[(.int p1)] ∧ Z.Warmed39 U.vm ∧ U.heap = h0) (fun _ _ _ _ _ => True) (fun _ U o U' => ∃ v L, o = .returned v ∧ Q0 Z h0 n0 v U'.heap L ∧ FrameEnd U o U' L room_1.cells room_1.slots) := by
  refine MetFree.of_bodySF (plainFor_of_name pn_rm0) hisR ?_
  intro p e s m args below meth c s₁ Bd hml0 hP hK
  obtain ⟨rfl, hZ, hh⟩ := hP
  have hx := Bd.exec
  have hby := Bd.bytes
  have hml : c.maxLocals = 6 := hml0
  have hown : s.vm.findClass "com/example/keyturn/keyturn/signing/JarDigestAlgorithmHasHeadersPinLaw" = some m.cls := findClass_of_methodNamed Bd.named
  have hnm := (name_of_methodNamed Bd.named Bd.method).1
  have X0 : Stand p l e room_1 s m #[(.int p1)] below meth c s₁ [] 0 0 := Stand.of_body Bd
  have e0 : s₁.heap = h0 := by rw [← hh, Bd.state]; rfl
  have N0 := Fr.nil n0
  have pre0 : ∀ tt, Steps p.tables e below (s₁.setTop (mkF m 0 #[.val (.int p1), .unset, .unset, .unset, .unset, .unset] [])) tt → Steps p.tables e below (s₁.setTop (entryFrame m #[(.int p1)] maxLocals)) tt := fun tt kt => castTop (ef_rm0 m p1) kt
  obtain ⟨k, hk⟩ : ∃ z : Int32, z = ((p1 &&& (2147483647 : Int32)) % (6 : Int32)) := ⟨_, rfl⟩
  have pre1 : ∀ tt, Steps p.tables e below (s₁.setTop (mkF m 7 #[.val (.int p1), .unset, .unset, .unset, .unset, .unset] [(.int k)])) tt → Steps p.tables e below (s₁.setTop (entryFrame m #[(.int p1)] maxLocals)) tt := by
    intro tt kt
    refine pre0 tt ?_
    show Steps p.tables e below (s₁.setTop (mkF m 0 #[.val (.int p1), .unset, .unset, .unset, .unset, .unset] [])) _
    refine XS.iloadN X0.here hx rfl (hb hby at_0) rfl ?_
    show Steps p.tables e below (s₁.setTop (mkF m 1 #[.val (.int p1), .unset, .unset, .unset, .unset, .unset] [(.int p1)])) _
    refine X0.ldcInt hx hown (mvT hZ (hw _ (List.mem_of_getElem? (i := 0) rfl))) (g := (mkF m 1 #[.val (.int p1), .unset, .unset, .unset, .unset, .unset] [(.int p1)])) rfl (hb hby at_1) _ ?_
    show Steps p.tables e below (s₁.setTop (mkF m 3 #[.val (.int p1), .unset, .unset, .unset, .unset, .unset] [(.int (2147483647 : Int32)), (.int p1)])) _
    refine XS.iand X0.here hx rfl (hb hby at_3) rfl ?_
    show Steps p.tables e below (s₁.setTop (mkF m 4 #[.val (.int p1), .unset, .unset, .unset, .unset, .unset] [(.int (p1 &&& (2147483647 : Int32)))])) _
    refine XS.bipush X0.here hx rfl (hb hby at_4) ?_
    show Steps p.tables e below (s₁.setTop (mkF m 6 #[.val (.int p1), .unset, .unset, .unset, .unset, .unset] [(.int (6 : Int32)), (.int (p1 &&& (2147483647 : Int32)))])) _
    refine iremM (g := (mkF m 6 #[.val (.int p1), .unset, .unset, .unset, .unset, .unset] [(.int (6 : Int32)), (.int (p1 &&& (2147483647 : Int32)))])) X0 hx rfl (hb hby at_6) rfl (by decide : ¬ ((6 : Int32) = (0 : Int32))) ?_
    show Steps p.tables e below (s₁.setTop (mkF m 7 #[.val (.int p1), .unset, .unset, .unset, .unset, .unset] [(.int ((p1 &&& (2147483647 : Int32)) % (6 : Int32)))])) _
    rw [← hk]
    exact kt
  have rk := own_of6 (own_rem p1 (6 : Int32) (by decide))
  rw [← hk] at rk
  clear hk
  rcases rk with rfl | rfl | rfl | rfl | rfl | rfl
  · obtain ⟨T2, X2, e2, st2⟩ := getS2 X0 hx hZ hown (host := "") (Or.inl (hw _ (List.mem_of_getElem? (i := 1) rfl))) Via.refl e0 S_MD5 (g := (mkF m 12 #[.val (.int p1), .val (.int (0 : Int32)), .unset, .unset, .unset, .unset] [])) rfl (hb hby at_12)
    obtain ⟨cq3, kq3, q3a, q3b, q3c⟩ := isOf hZ e2 E_MD5
    obtain ⟨_, _, ⟨T3, L3, k3, n3⟩, -, X3, ⟨Lc3, hQ3, l3, y3, z3⟩, st3⟩ := X2.virtualBack hx (y := (⟨"com/example/keyturn/keyturn/signing/JarDigestAlgorithm", "hasHeaders", "()Z"⟩ : MethodName)) (z := (⟨"com/example/keyturn/keyturn/signing/JarDigestAlgorithm", "hasHeaders", "()Z"⟩ : MethodName)) hown (mvT hZ (hw _ (List.mem_of_getElem? (i := 4) rfl))) (mvT hZ (hw _ (List.mem_of_getElem? (i := 5) rfl))) (notFace_of_selects (args := #[]) (mvT hZ (hw _ (List.mem_of_getElem? (i := 7) rfl)))) (mvT hZ (hw _ (List.mem_of_getElem? (i := 7) rfl))) (mvT hZ (hw _ (List.mem_of_getElem? (i := 6) rfl))) (by decide) (backOf (W := 0) (rmN l Z a0 hw [] w_MD5 h0 n0 Z0 F_MD5_headerName) hZ (hw _ (List.mem_of_getElem? (i := 8) rfl)) (hw _ (List.mem_of_getElem? (i := 2) rfl)) (by decide) (by decide)) q3a q3c (g := (mkF m 84 #[.val (.int p1), .val (.int (0 : Int32)), .val (.ref w_MD5), .val (.int (0 : Int32)), .unset, .unset] [(.ref w_MD5)])) rfl (by rw [hml]; rfl) (Steps.refl _) (argsL := []) (rest := []) (lenOf pd_rm0_0 rfl) rfl (by show 2 * 0 + _ ≤ _; exact Nat.le_of_eq rfl) (hb hby at_84) (fun _ _ => ⟨rfl, e2, (by decide : 0 + 0 ≤ _), (by decide : 0 + 0 ≤ _)⟩)
    dsimp only [Pt.U, Pt.locs, Pt.cells, Pt.slots] at X3 l3 y3 z3 st3 hQ3
    subst l3 y3 z3
    obtain ⟨rfl, N3q, hE3⟩ := hQ3
    have N3 := Fr.app N0 N3q
    have pre4 : ∀ tt, Steps p.tables e below (T3.setTop (mkF m 123 #[.val (.int p1), .val (.int (0 : Int32)), .val (.ref w_MD5), .val (.int (0 : Int32)), .val (.int (0 : Int32)), .unset] [(.int (1 : Int32))])) tt → Steps p.tables e below (s₁.setTop (entryFrame m #[(.int p1)] maxLocals)) tt := by
      intro tt kt
      refine pre1 tt ?_
      show Steps p.tables e below (s₁.setTop (mkF m 7 #[.val (.int p1), .unset, .unset, .unset, .unset, .unset] [(.int (0 : Int32))])) _
      refine XS.istoreN X0.here hx rfl (hb hby at_7) rfl (l' := #[.val (.int p1), .val (.int (0 : Int32)), .unset, .unset, .unset, .unset]) rfl ?_
      show Steps p.tables e below (s₁.setTop (mkF m 8 #[.val (.int p1), .val (.int (0 : Int32)), .unset, .unset, .unset, .unset] [])) _
      refine XS.iloadN X0.here hx rfl (hb hby at_8) rfl ?_
      show Steps p.tables e below (s₁.setTop (mkF m 9 #[.val (.int p1), .val (.int (0 : Int32)), .unset, .unset, .unset, .unset] [(.int (0 : Int32))])) _
      refine XS.ifNo X0.here hx rfl (hb hby at_9) rfl ((if0 _ _).trans (teq (rfl : (0 : Int32) = (0 : Int32))).2) ?_
      show Steps p.tables e below (s₁.setTop (mkF m 12 #[.val (.int p1), .val (.int (0 : Int32)), .unset, .unset, .unset, .unset] [])) _
      refine st2 _ ?_
      show Steps p.tables e below (T2.setTop (mkF m 15 #[.val (.int p1), .val (.int (0 : Int32)), .unset, .unset, .unset, .unset] [(.ref w_MD5)])) _
      refine XS.astoreN X2.here hx rfl (hb hby at_15) rfl rfl (l' := #[.val (.int p1), .val (.int (0 : Int32)), .val (.ref w_MD5), .unset, .unset, .unset]) rfl ?_
      show Steps p.tables e below (T2.setTop (mkF m 16 #[.val (.int p1), .val (.int (0 : Int32)), .val (.ref w_MD5), .unset, .unset, .unset] [])) _
      refine XS.iconst X2.here hx rfl (hb hby at_16) ?_
      show Steps p.tables e below (T2.setTop (mkF m 17 #[.val (.int p1), .val (.int (0 : Int32)), .val (.ref w_MD5), .unset, .unset, .unset] [(.int (0 : Int32))])) _
      refine XS.istoreN X2.here hx rfl (hb hby at_17) rfl (l' := #[.val (.int p1), .val (.int (0 : Int32)), .val (.ref w_MD5), .val (.int (0 : Int32)), .unset, .unset]) rfl ?_
      show Steps p.tables e below (T2.setTop (mkF m 18 #[.val (.int p1), .val (.int (0 : Int32)), .val (.ref w_MD5), .val (.int (0 : Int32)), .unset, .unset] [])) _
      refine XS.goto X2.here hx rfl (pc0 := 18) (pc' := 83) rfl (hb hby at_18) (by decide) (by decide) ?_
      show Steps p.tables e below (T2.setTop (mkF m 83 #[.val (.int p1), .val (.int (0 : Int32)), .val (.ref w_MD5), .val (.int (0 : Int32)), .unset, .unset] [])) _
      refine XS.aloadN X2.here hx rfl (hb hby at_83) rfl rfl ?_
      show Steps p.tables e below (T2.setTop (mkF m 84 #[.val (.int p1), .val (.int (0 : Int32)), .val (.ref w_MD5), .val (.int (0 : Int32)), .unset, .unset] [(.ref w_MD5)])) _
      refine st3.trans ?_
      show Steps p.tables e below (T3.setTop (mkF m 87 #[.val (.int p1), .val (.int (0 : Int32)), .val (.ref w_MD5), .val (.int (0 : Int32)), .unset, .unset] [(.int (0 : Int32))])) _
      refine XS.istore X3.here hx rfl (hb hby at_87) rfl (l' := #[.val (.int p1), .val (.int (0 : Int32)), .val (.ref w_MD5), .val (.int (0 : Int32)), .val (.int (0 : Int32)), .unset]) rfl ?_
      show Steps p.tables e below (T3.setTop (mkF m 89 #[.val (.int p1), .val (.int (0 : Int32)), .val (.ref w_MD5), .val (.int (0 : Int32)), .val (.int (0 : Int32)), .unset] [])) _
      refine XS.iload X3.here hx rfl (hb hby at_89) rfl ?_
      show Steps p.tables e below (T3.setTop (mkF m 91 #[.val (.int p1), .val (.int (0 : Int32)), .val (.ref w_MD5), .val (.int (0 : Int32)), .val (.int (0 : Int32)), .unset] [(.int (0 : Int32))])) _
      refine XS.iloadN X3.here hx rfl (hb hby at_91) rfl ?_
      show Steps p.tables e below (T3.setTop (mkF m 92 #[.val (.int p1), .val (.int (0 : Int32)), .val (.ref w_MD5), .val (.int (0 : Int32)), .val (.int (0 : Int32)), .unset] [(.int (0 : Int32)), (.int (0 : Int32))])) _
      refine XS.icmpYes X3.here hx rfl (pc0 := 92) (pc' := 97) rfl (hb hby at_92) rfl (teq (rfl : (0 : Int32) = (0 : Int32))).1 (by decide) (by decide) ?_
      show Steps p.tables e below (T3.setTop (mkF m 97 #[.val (.int p1), .val (.int (0 : Int32)), .val (.ref w_MD5), .val (.int (0 : Int32)), .val (.int (0 : Int32)), .unset] [])) _
      refine XS.iload X3.here hx rfl (hb hby at_97) rfl ?_
      show Steps p.tables e below (T3.setTop (mkF m 99 #[.val (.int p1), .val (.int (0 : Int32)), .val (.ref w_MD5), .val (.int (0 : Int32)), .val (.int (0 : Int32)), .unset] [(.int (0 : Int32))])) _
      refine XS.ifYes X3.here hx rfl (pc0 := 99) (pc' := 122) rfl (hb hby at_99) rfl ((if0 _ _).trans (teq (rfl : (0 : Int32) = (0 : Int32))).1) (by decide) (by decide) ?_
      show Steps p.tables e below (T3.setTop (mkF m 122 #[.val (.int p1), .val (.int (0 : Int32)), .val (.ref w_MD5), .val (.int (0 : Int32)), .val (.int (0 : Int32)), .unset] [])) _
      refine XS.iconst X3.here hx rfl (hb hby at_122) ?_
      exact kt
    obtain ⟨fs, hr, hrun, hended, hW, hsame⟩ := X3.leave (v := some (.int (1 : Int32))) (fun h => by rw [Bd.returns] at h; cases h)
    refine ⟨_, _, pre4 _ ?_, hrun, hended, _, _, rfl, ?_, ⟨_, rfl⟩, hW, hsame.mono (by decide) (by decide)⟩
    · show Steps p.tables e below (T3.setTop (mkF m 123 #[.val (.int p1), .val (.int (0 : Int32)), .val (.ref w_MD5), .val (.int (0 : Int32)), .val (.int (0 : Int32)), .unset] [(.int (1 : Int32))])) _
      exact retN X3 hx (t := .boolean) Bd.returns (by simp) (hb hby at_123) hr
    · show Q0 Z h0 n0 _ T3.heap _
      rw [hE3]
      exact ⟨rfl, N3⟩
  · obtain ⟨T5, X5, e5, st5⟩ := getS2 X0 hx hZ hown (host := "") (Or.inl (hw _ (List.mem_of_getElem? (i := 28) rfl))) Via.refl e0 S_SHA1 (g := (mkF m 26 #[.val (.int p1), .val (.int (1 : Int32)), .unset, .unset, .unset, .unset] [])) rfl (hb hby at_26)
    obtain ⟨cq6, kq6, q6a, q6b, q6c⟩ := isOf hZ e5 E_SHA1
    obtain ⟨_, _, ⟨T6, L6, k6, n6⟩, -, X6, ⟨Lc6, hQ6, l6, y6, z6⟩, st6⟩ := X5.virtualBack hx (y := (⟨"com/example/keyturn/keyturn/signing/JarDigestAlgorithm", "hasHeaders", "()Z"⟩ : MethodName)) (z := (⟨"com/example/keyturn/keyturn/signing/JarDigestAlgorithm", "hasHeaders", "()Z"⟩ : MethodName)) hown (mvT hZ (hw _ (List.mem_of_getElem? (i := 4) rfl))) (mvT hZ (hw _ (List.mem_of_getElem? (i := 5) rfl))) (notFace_of_selects (args := #[]) (mvT hZ (hw _ (List.mem_of_getElem? (i := 7) rfl)))) (mvT hZ (hw _ (List.mem_of_getElem? (i := 7) rfl))) (mvT hZ (hw _ (List.mem_of_getElem? (i := 6) rfl))) (by decide) (backOf (W := 0) (rmY l Z a0 hw [] w_SHA1 w_SHA1_headerName h0 n0 Z0 F_SHA1_headerName) hZ (hw _ (List.mem_of_getElem? (i := 8) rfl)) (hw _ (List.mem_of_getElem? (i := 2) rfl)) (by decide) (by decide)) q6a q6c (g := (mkF m 84 #[.val (.int p1), .val (.int (1 : Int32)), .val (.ref w_SHA1), .val (.int (1 : Int32)), .unset, .unset] [(.ref w_SHA1)])) rfl (by rw [hml]; rfl) (Steps.refl _) (argsL := []) (rest := []) (lenOf pd_rm0_0 rfl) rfl (by show 2 * 0 + _ ≤ _; exact Nat.le_of_eq rfl) (hb hby at_84) (fun _ _ => ⟨rfl, e5, (by decide : 0 + 0 ≤ _), (by decide : 0 + 0 ≤ _)⟩)
    dsimp only [Pt.U, Pt.locs, Pt.cells, Pt.slots] at X6 l6 y6 z6 st6 hQ6
    subst l6 y6 z6
    obtain ⟨rfl, N6q, hE6⟩ := hQ6
    have N6 := Fr.app N0 N6q
    obtain ⟨cq7, kq7, q7a, q7b, q7c⟩ := isOf hZ hE6 E_SHA1
    obtain ⟨_, _, ⟨T7, L7, k7, n7⟩, -, X7, ⟨Lc7, hQ7, l7, y7, z7⟩, st7⟩ := X6.virtualBack hx (y := (⟨"com/example/keyturn/keyturn/signing/JarDigestAlgorithm", "getHeaderName", "()Ljava/lang/String;"⟩ : MethodName)) (z := (⟨"com/example/keyturn/keyturn/signing/JarDigestAlgorithm", "getHeaderName", "()Ljava/lang/String;"⟩ : MethodName)) hown (mvT hZ (hw _ (List.mem_of_getElem? (i := 13) rfl))) (mvT hZ (hw _ (List.mem_of_getElem? (i := 14) rfl))) (notFace_of_selects (args := #[]) (mvT hZ (hw _ (List.mem_of_getElem? (i := 16) rfl)))) (mvT hZ (hw _ (List.mem_of_getElem? (i := 16) rfl))) (mvT hZ (hw _ (List.mem_of_getElem? (i := 15) rfl))) (by decide) (backOf (W := 0) (rmG l Z a0 hw [] w_SHA1 w_SHA1_headerName h0 n0 Z0 F_SHA1_headerName) hZ (hw _ (List.mem_of_getElem? (i := 17) rfl)) (hw _ (List.mem_of_getElem? (i := 2) rfl)) (by decide) (by decide)) q7a q7c (g := (mkF m 103 #[.val (.int p1), .val (.int (1 : Int32)), .val (.ref w_SHA1), .val (.int (1 : Int32)), .val (.int (1 : Int32)), .unset] [(.ref w_SHA1)])) rfl (by rw [hml]; rfl) (Steps.refl _) (argsL := []) (rest := []) (lenOf pd_rm0_1 rfl) rfl (by show 2 * 0 + _ ≤ _; exact Nat.le_of_eq rfl) (hb hby at_103) (fun _ _ => ⟨rfl, hE6, (by decide : 0 + 0 ≤ _), (by decide : 0 + 0 ≤ _)⟩)
    dsimp only [Pt.U, Pt.locs, Pt.cells, Pt.slots] at X7 l7 y7 z7 st7 hQ7
    subst l7 y7 z7
    obtain ⟨rfl, N7q, hE7⟩ := hQ7
    have N7 := Fr.app N6 N7q
    obtain ⟨cq8, kq8, q8a, q8b, q8c⟩ := isOf hZ hE7 E_SHA1_headerName
    obtain ⟨_, _, ⟨T8, L8, k8, n8⟩, -, X8, ⟨Lc8, hQ8, l8, y8, z8⟩, st8⟩ := X7.virtualBack hx (y := (⟨"java/lang/String", "isEmpty", "()Z"⟩ : MethodName)) (z := (⟨"java/lang/String", "isEmpty", "()Z"⟩ : MethodName)) hown (mvT hZ (hw _ (List.mem_of_getElem? (i := 18) rfl))) (mvT hZ (hw _ (List.mem_of_getElem? (i := 19) rfl))) (notFace_of_selects (args := #[]) (mvT hZ (hw _ (List.mem_of_getElem? (i := 21) rfl)))) (mvT hZ (hw _ (List.mem_of_getElem? (i := 21) rfl))) (mvT hZ (hw _ (List.mem_of_getElem? (i := 20) rfl))) (by decide) (backOf (W := 0) (rmE l Z a0 hw [] w_SHA1_headerName w_SHA1_headerName_value cl_SHA1_headerName_value (4 : Int32) h0 n0 Z0 F_SHA1_headerName_value A_SHA1_headerName_value l_SHA1_headerName_value (by decide)) hZ (hw _ (List.mem_of_getElem? (i := 23) rfl)) (hw _ (List.mem_of_getElem? (i := 22) rfl)) (by decide) (by decide)) q8a q8c (g := (mkF m 110 #[.val (.int p1), .val (.int (1 : Int32)), .val (.ref w_SHA1), .val (.int (1 : Int32)), .val (.int (1 : Int32)), .val (.ref w_SHA1_headerName)] [(.ref w_SHA1_headerName)])) rfl (by rw [hml]; rfl) (Steps.refl _) (argsL := []) (rest := []) (lenOf pd_rm0_0 rfl) rfl (by show 2 * 0 + _ ≤ _; exact Nat.le_of_eq rfl) (hb hby at_110) (fun _ _ => ⟨rfl, hE7, (by decide : 0 + 0 ≤ _), (by decide : 0 + 0 ≤ _)⟩)
    dsimp only [Pt.U, Pt.locs, Pt.cells, Pt.slots] at X8 l8 y8 z8 st8 hQ8
    subst l8 y8 z8
    obtain ⟨rfl, N8q, hE8⟩ := hQ8
    have N8 := Fr.app N7 N8q
    have pre9 : ∀ tt, Steps p.tables e below (T8.setTop (mkF m 121 #[.val (.int p1), .val (.int (1 : Int32)), .val (.ref w_SHA1), .val (.int (1 : Int32)), .val (.int (1 : Int32)), .val (.ref w_SHA1_headerName)] [(.int (1 : Int32))])) tt → Steps p.tables e below (s₁.setTop (entryFrame m #[(.int p1)] maxLocals)) tt := by
      intro tt kt
      refine pre1 tt ?_
      show Steps p.tables e below (s₁.setTop (mkF m 7 #[.val (.int p1), .unset, .unset, .unset, .unset, .unset] [(.int (1 : Int32))])) _
      refine XS.istoreN X0.here hx rfl (hb hby at_7) rfl (l' := #[.val (.int p1), .val (.int (1 : Int32)), .unset, .unset, .unset, .unset]) rfl ?_
      show Steps p.tables e below (s₁.setTop (mkF m 8 #[.val (.int p1), .val (.int (1 : Int32)), .unset, .unset, .unset, .unset] [])) _
      refine XS.iloadN X0.here hx rfl (hb hby at_8) rfl ?_
      show Steps p.tables e below (s₁.setTop (mkF m 9 #[.val (.int p1), .val (.int (1 : Int32)), .unset, .unset, .unset, .unset] [(.int (1 : Int32))])) _
      refine XS.ifYes X0.here hx rfl (pc0 := 9) (pc' := 21) rfl (hb hby at_9) rfl ((if0 _ _).trans (feq (by decide : ¬ ((1 : Int32) = (0 : Int32)))).2) (by decide) (by decide) ?_
      show Steps p.tables e below (s₁.setTop (mkF m 21 #[.val (.int p1), .val (.int (1 : Int32)), .unset, .unset, .unset, .unset] [])) _
      refine XS.iloadN X0.here hx rfl (hb hby at_21) rfl ?_
      show Steps p.tables e below (s₁.setTop (mkF m 22 #[.val (.int p1), .val (.int (1 : Int32)), .unset, .unset, .unset, .unset] [(.int (1 : Int32))])) _
      refine XS.iconst X0.here hx rfl (hb hby at_22) ?_
      show Steps p.tables e below (s₁.setTop (mkF m 23 #[.val (.int p1), .val (.int (1 : Int32)), .unset, .unset, .unset, .unset] [(.int (1 : Int32)), (.int (1 : Int32))])) _
      refine XS.icmpNo X0.here hx rfl (hb hby at_23) rfl (teq (rfl : (1 : Int32) = (1 : Int32))).2 ?_
      show Steps p.tables e below (s₁.setTop (mkF m 26 #[.val (.int p1), .val (.int (1 : Int32)), .unset, .unset, .unset, .unset] [])) _
      refine st5 _ ?_
      show Steps p.tables e below (T5.setTop (mkF m 29 #[.val (.int p1), .val (.int (1 : Int32)), .unset, .unset, .unset, .unset] [(.ref w_SHA1)])) _
      refine XS.astoreN X5.here hx rfl (hb hby at_29) rfl rfl (l' := #[.val (.int p1), .val (.int (1 : Int32)), .val (.ref w_SHA1), .unset, .unset, .unset]) rfl ?_
      show Steps p.tables e below (T5.setTop (mkF m 30 #[.val (.int p1), .val (.int (1 : Int32)), .val (.ref w_SHA1), .unset, .unset, .unset] [])) _
      refine XS.iconst X5.here hx rfl (hb hby at_30) ?_
      show Steps p.tables e below (T5.setTop (mkF m 31 #[.val (.int p1), .val (.int (1 : Int32)), .val (.ref w_SHA1), .unset, .unset, .unset] [(.int (1 : Int32))])) _
      refine XS.istoreN X5.here hx rfl (hb hby at_31) rfl (l' := #[.val (.int p1), .val (.int (1 : Int32)), .val (.ref w_SHA1), .val (.int (1 : Int32)), .unset, .unset]) rfl ?_
      show Steps p.tables e below (T5.setTop (mkF m 32 #[.val (.int p1), .val (.int (1 : Int32)), .val (.ref w_SHA1), .val (.int (1 : Int32)), .unset, .unset] [])) _
      refine XS.goto X5.here hx rfl (pc0 := 32) (pc' := 83) rfl (hb hby at_32) (by decide) (by decide) ?_
      show Steps p.tables e below (T5.setTop (mkF m 83 #[.val (.int p1), .val (.int (1 : Int32)), .val (.ref w_SHA1), .val (.int (1 : Int32)), .unset, .unset] [])) _
      refine XS.aloadN X5.here hx rfl (hb hby at_83) rfl rfl ?_
      show Steps p.tables e below (T5.setTop (mkF m 84 #[.val (.int p1), .val (.int (1 : Int32)), .val (.ref w_SHA1), .val (.int (1 : Int32)), .unset, .unset] [(.ref w_SHA1)])) _
      refine st6.trans ?_
      show Steps p.tables e below (T6.setTop (mkF m 87 #[.val (.int p1), .val (.int (1 : Int32)), .val (.ref w_SHA1), .val (.int (1 : Int32)), .unset, .unset] [(.int (1 : Int32))])) _
      refine XS.istore X6.here hx rfl (hb hby at_87) rfl (l' := #[.val (.int p1), .val (.int (1 : Int32)), .val (.ref w_SHA1), .val (.int (1 : Int32)), .val (.int (1 : Int32)), .unset]) rfl ?_
      show Steps p.tables e below (T6.setTop (mkF m 89 #[.val (.int p1), .val (.int (1 : Int32)), .val (.ref w_SHA1), .val (.int (1 : Int32)), .val (.int (1 : Int32)), .unset] [])) _
      refine XS.iload X6.here hx rfl (hb hby at_89) rfl ?_
      show Steps p.tables e below (T6.setTop (mkF m 91 #[.val (.int p1), .val (.int (1 : Int32)), .val (.ref w_SHA1), .val (.int (1 : Int32)), .val (.int (1 : Int32)), .unset] [(.int (1 : Int32))])) _
      refine XS.iloadN X6.here hx rfl (hb hby at_91) rfl ?_
      show Steps p.tables e below (T6.setTop (mkF m 92 #[.val (.int p1), .val (.int (1 : Int32)), .val (.ref w_SHA1), .val (.int (1 : Int32)), .val (.int (1 : Int32)), .unset] [(.int (1 : Int32)), (.int (1 : Int32))])) _
      refine XS.icmpYes X6.here hx rfl (pc0 := 92) (pc' := 97) rfl (hb hby at_92) rfl (teq (rfl : (1 : Int32) = (1 : Int32))).1 (by decide) (by decide) ?_
      show Steps p.tables e below (T6.setTop (mkF m 97 #[.val (.int p1), .val (.int (1 : Int32)), .val (.ref w_SHA1), .val (.int (1 : Int32)), .val (.int (1 : Int32)), .unset] [])) _
      refine XS.iload X6.here hx rfl (hb hby at_97) rfl ?_
      show Steps p.tables e below (T6.setTop (mkF m 99 #[.val (.int p1), .val (.int (1 : Int32)), .val (.ref w_SHA1), .val (.int (1 : Int32)), .val (.int (1 : Int32)), .unset] [(.int (1 : Int32))])) _
      refine XS.ifNo X6.here hx rfl (hb hby at_99) rfl ((if0 _ _).trans (feq (by decide : ¬ ((1 : Int32) = (0 : Int32)))).1) ?_
      show Steps p.tables e below (T6.setTop (mkF m 102 #[.val (.int p1), .val (.int (1 : Int32)), .val (.ref w_SHA1), .val (.int (1 : Int32)), .val (.int (1 : Int32)), .unset] [])) _
      refine XS.aloadN X6.here hx rfl (hb hby at_102) rfl rfl ?_
      show Steps p.tables e below (T6.setTop (mkF m 103 #[.val (.int p1), .val (.int (1 : Int32)), .val (.ref w_SHA1), .val (.int (1 : Int32)), .val (.int (1 : Int32)), .unset] [(.ref w_SHA1)])) _
      refine st7.trans ?_
      show Steps p.tables e below (T7.setTop (mkF m 106 #[.val (.int p1), .val (.int (1 : Int32)), .val (.ref w_SHA1), .val (.int (1 : Int32)), .val (.int (1 : Int32)), .unset] [(.ref w_SHA1_headerName)])) _
      refine XS.astore X7.here hx rfl (hb hby at_106) rfl rfl (l' := #[.val (.int p1), .val (.int (1 : Int32)), .val (.ref w_SHA1), .val (.int (1 : Int32)), .val (.int (1 : Int32)), .val (.ref w_SHA1_headerName)]) rfl ?_
      show Steps p.tables e below (T7.setTop (mkF m 108 #[.val (.int p1), .val (.int (1 : Int32)), .val (.ref w_SHA1), .val (.int (1 : Int32)), .val (.int (1 : Int32)), .val (.ref w_SHA1_headerName)] [])) _
      refine XS.aload X7.here hx rfl (hb hby at_108) rfl rfl ?_
      show Steps p.tables e below (T7.setTop (mkF m 110 #[.val (.int p1), .val (.int (1 : Int32)), .val (.ref w_SHA1), .val (.int (1 : Int32)), .val (.int (1 : Int32)), .val (.ref w_SHA1_headerName)] [(.ref w_SHA1_headerName)])) _
      refine st8.trans ?_
      show Steps p.tables e below (T8.setTop (mkF m 113 #[.val (.int p1), .val (.int (1 : Int32)), .val (.ref w_SHA1), .val (.int (1 : Int32)), .val (.int (1 : Int32)), .val (.ref w_SHA1_headerName)] [(.int (0 : Int32))])) _
      refine XS.ifNo X8.here hx rfl (hb hby at_113) rfl ((if0 _ _).trans (teq (rfl : (0 : Int32) = (0 : Int32))).2) ?_
      show Steps p.tables e below (T8.setTop (mkF m 116 #[.val (.int p1), .val (.int (1 : Int32)), .val (.ref w_SHA1), .val (.int (1 : Int32)), .val (.int (1 : Int32)), .val (.ref w_SHA1_headerName)] [])) _
      refine XS.iconst X8.here hx rfl (hb hby at_116) ?_
      show Steps p.tables e below (T8.setTop (mkF m 117 #[.val (.int p1), .val (.int (1 : Int32)), .val (.ref w_SHA1), .val (.int (1 : Int32)), .val (.int (1 : Int32)), .val (.ref w_SHA1_headerName)] [(.int (1 : Int32))])) _
      refine XS.goto X8.here hx rfl (pc0 := 117) (pc' := 121) rfl (hb hby at_117) (by decide) (by decide) ?_
      exact kt
    obtain ⟨fs, hr, hrun, hended, hW, hsame⟩ := X8.leave (v := some (.int (1 : Int32))) (fun h => by rw [Bd.returns] at h; cases h)
    refine ⟨_, _, pre9 _ ?_, hrun, hended, _, _, rfl, ?_, ⟨_, rfl⟩, hW, hsame.mono (by decide) (by decide)⟩
    · show Steps p.tables e below (T8.setTop (mkF m 121 #[.val (.int p1), .val (.int (1 : Int32)), .val (.ref w_SHA1), .val (.int (1 : Int32)), .val (.int (1 : Int32)), .val (.ref w_SHA1_headerName)] [(.int (1 : Int32))])) _
      exact retN X8 hx (t := .boolean) Bd.returns (by simp) (hb hby at_121) hr
    · show Q0 Z h0 n0 _ T8.heap _
      rw [hE8]
      exact ⟨rfl, N8⟩
  · obtain ⟨T10, X10, e10, st10⟩ := getS2 X0 hx hZ hown (host := "") (Or.inl (hw _ (List.mem_of_getElem? (i := 26) rfl))) Via.refl e0 S_SHA_224 (g := (mkF m 40 #[.val (.int p1), .val (.int (2 : Int32)), .unset, .unset, .unset, .unset] [])) rfl (hb hby at_40)
    obtain ⟨cq11, kq11, q11a, q11b, q11c⟩ := isOf hZ e10 E_SHA_224
    obtain ⟨_, _, ⟨T11, L11, k11, n11⟩, -, X11, ⟨Lc11, hQ11, l11, y11, z11⟩, st11⟩ := X10.virtualBack hx (y := (⟨"com/example/keyturn/keyturn/signing/JarDigestAlgorithm", "hasHeaders", "()Z"⟩ : MethodName)) (z := (⟨"com/example/keyturn/keyturn/signing/JarDigestAlgorithm", "hasHeaders", "()Z"⟩ : MethodName)) hown (mvT hZ (hw _ (List.mem_of_getElem? (i := 4) rfl))) (mvT hZ (hw _ (List.mem_of_getElem? (i := 5) rfl))) (notFace_of_selects (args := #[]) (mvT hZ (hw _ (List.mem_of_getElem? (i := 7) rfl)))) (mvT hZ (hw _ (List.mem_of_getElem? (i := 7) rfl))) (mvT hZ (hw _ (List.mem_of_getElem? (i := 6) rfl))) (by decide) (backOf (W := 0) (rmN l Z a0 hw [] w_SHA_224 h0 n0 Z0 F_SHA_224_headerName) hZ (hw _ (List.mem_of_getElem? (i := 8) rfl)) (hw _ (List.mem_of_getElem? (i := 2) rfl)) (by decide) (by decide)) q11a q11c (g := (mkF m 84 #[.val (.int p1), .val (.int (2 : Int32)), .val (.ref w_SHA_224), .val (.int (0 : Int32)), .unset, .unset] [(.ref w_SHA_224)])) rfl (by rw [hml]; rfl) (Steps.refl _) (argsL := []) (rest := []) (lenOf pd_rm0_0 rfl) rfl (by show 2 * 0 + _ ≤ _; exact Nat.le_of_eq rfl) (hb hby at_84) (fun _ _ => ⟨rfl, e10, (by decide : 0 + 0 ≤ _), (by decide : 0 + 0 ≤ _)⟩)
    dsimp only [Pt.U, Pt.locs, Pt.cells, Pt.slots] at X11 l11 y11 z11 st11 hQ11
    subst l11 y11 z11
    obtain ⟨rfl, N11q, hE11⟩ := hQ11
    have N11 := Fr.app N0 N11q
    have pre12 : ∀ tt, Steps p.tables e below (T11.setTop (mkF m 123 #[.val (.int p1), .val (.int (2 : Int32)), .val (.ref w_SHA_224), .val (.int (0 : Int32)), .val (.int (0 : Int32)), .unset] [(.int (1 : Int32))])) tt → Steps p.tables e below (s₁.setTop (entryFrame m #[(.int p1)] maxLocals)) tt := by
      intro tt kt
      refine pre1 tt ?_
      show Steps p.tables e below (s₁.setTop (mkF m 7 #[.val (.int p1), .unset, .unset, .unset, .unset, .unset] [(.int (2 : Int32))])) _
      refine XS.istoreN X0.here hx rfl (hb hby at_7) rfl (l' := #[.val (.int p1), .val (.int (2 : Int32)), .unset, .unset, .unset, .unset]) rfl ?_
      show Steps p.tables e below (s₁.setTop (mkF m 8 #[.val (.int p1), .val (.int (2 : Int32)), .unset, .unset, .unset, .unset] [])) _
      refine XS.iloadN X0.here hx rfl (hb hby at_8) rfl ?_
      show Steps p.tables e below (s₁.setTop (mkF m 9 #[.val (.int p1), .val (.int (2 : Int32)), .unset, .unset, .unset, .unset] [(.int (2 : Int32))])) _
      refine XS.ifYes X0.here hx rfl (pc0 := 9) (pc' := 21) rfl (hb hby at_9) rfl ((if0 _ _).trans (feq (by decide : ¬ ((2 : Int32) = (0 : Int32)))).2) (by decide) (by decide) ?_
      show Steps p.tables e below (s₁.setTop (mkF m 21 #[.val (.int p1), .val (.int (2 : Int32)), .unset, .unset, .unset, .unset] [])) _
      refine XS.iloadN X0.here hx rfl (hb hby at_21) rfl ?_
      show Steps p.tables e below (s₁.setTop (mkF m 22 #[.val (.int p1), .val (.int (2 : Int32)), .unset, .unset, .unset, .unset] [(.int (2 : Int32))])) _
      refine XS.iconst X0.here hx rfl (hb hby at_22) ?_
      show Steps p.tables e below (s₁.setTop (mkF m 23 #[.val (.int p1), .val (.int (2 : Int32)), .unset, .unset, .unset, .unset] [(.int (1 : Int32)), (.int (2 : Int32))])) _
      refine XS.icmpYes X0.here hx rfl (pc0 := 23) (pc' := 35) rfl (hb hby at_23) rfl (feq (by decide : ¬ ((2 : Int32) = (1 : Int32)))).2 (by decide) (by decide) ?_
      show Steps p.tables e below (s₁.setTop (mkF m 35 #[.val (.int p1), .val (.int (2 : Int32)), .unset, .unset, .unset, .unset] [])) _
      refine XS.iloadN X0.here hx rfl (hb hby at_35) rfl ?_
      show Steps p.tables e below (s₁.setTop (mkF m 36 #[.val (.int p1), .val (.int (2 : Int32)), .unset, .unset, .unset, .unset] [(.int (2 : Int32))])) _
      refine XS.iconst X0.here hx rfl (hb hby at_36) ?_
      show Steps p.tables e below (s₁.setTop (mkF m 37 #[.val (.int p1), .val (.int (2 : Int32)), .unset, .unset, .unset, .unset] [(.int (2 : Int32)), (.int (2 : Int32))])) _
      refine XS.icmpNo X0.here hx rfl (hb hby at_37) rfl (teq (rfl : (2 : Int32) = (2 : Int32))).2 ?_
      show Steps p.tables e below (s₁.setTop (mkF m 40 #[.val (.int p1), .val (.int (2 : Int32)), .unset, .unset, .unset, .unset] [])) _
      refine st10 _ ?_
      show Steps p.tables e below (T10.setTop (mkF m 43 #[.val (.int p1), .val (.int (2 : Int32)), .unset, .unset, .unset, .unset] [(.ref w_SHA_224)])) _
      refine XS.astoreN X10.here hx rfl (hb hby at_43) rfl rfl (l' := #[.val (.int p1), .val (.int (2 : Int32)), .val (.ref w_SHA_224), .unset, .unset, .unset]) rfl ?_
      show Steps p.tables e below (T10.setTop (mkF m 44 #[.val (.int p1), .val (.int (2 : Int32)), .val (.ref w_SHA_224), .unset, .unset, .unset] [])) _
      refine XS.iconst X10.here hx rfl (hb hby at_44) ?_
      show Steps p.tables e below (T10.setTop (mkF m 45 #[.val (.int p1), .val (.int (2 : Int32)), .val (.ref w_SHA_224), .unset, .unset, .unset] [(.int (0 : Int32))])) _
      refine XS.istoreN X10.here hx rfl (hb hby at_45) rfl (l' := #[.val (.int p1), .val (.int (2 : Int32)), .val (.ref w_SHA_224), .val (.int (0 : Int32)), .unset, .unset]) rfl ?_
      show Steps p.tables e below (T10.setTop (mkF m 46 #[.val (.int p1), .val (.int (2 : Int32)), .val (.ref w_SHA_224), .val (.int (0 : Int32)), .unset, .unset] [])) _
      refine XS.goto X10.here hx rfl (pc0 := 46) (pc' := 83) rfl (hb hby at_46) (by decide) (by decide) ?_
      show Steps p.tables e below (T10.setTop (mkF m 83 #[.val (.int p1), .val (.int (2 : Int32)), .val (.ref w_SHA_224), .val (.int (0 : Int32)), .unset, .unset] [])) _
      refine XS.aloadN X10.here hx rfl (hb hby at_83) rfl rfl ?_
      show Steps p.tables e below (T10.setTop (mkF m 84 #[.val (.int p1), .val (.int (2 : Int32)), .val (.ref w_SHA_224), .val (.int (0 : Int32)), .unset, .unset] [(.ref w_SHA_224)])) _
      refine st11.trans ?_
      show Steps p.tables e below (T11.setTop (mkF m 87 #[.val (.int p1), .val (.int (2 : Int32)), .val (.ref w_SHA_224), .val (.int (0 : Int32)), .unset, .unset] [(.int (0 : Int32))])) _
      refine XS.istore X11.here hx rfl (hb hby at_87) rfl (l' := #[.val (.int p1), .val (.int (2 : Int32)), .val (.ref w_SHA_224), .val (.int (0 : Int32)), .val (.int (0 : Int32)), .unset]) rfl ?_
      show Steps p.tables e below (T11.setTop (mkF m 89 #[.val (.int p1), .val (.int (2 : Int32)), .val (.ref w_SHA_224), .val (.int (0 : Int32)), .val (.int (0 : Int32)), .unset] [])) _
      refine XS.iload X11.here hx rfl (hb hby at_89) rfl ?_
      show Steps p.tables e below (T11.setTop (mkF m 91 #[.val (.int p1), .val (.int (2 : Int32)), .val (.ref w_SHA_224), .val (.int (0 : Int32)), .val (.int (0 : Int32)), .unset] [(.int (0 : Int32))])) _
      refine XS.iloadN X11.here hx rfl (hb hby at_91) rfl ?_
      show Steps p.tables e below (T11.setTop (mkF m 92 #[.val (.int p1), .val (.int (2 : Int32)), .val (.ref w_SHA_224), .val (.int (0 : Int32)), .val (.int (0 : Int32)), .unset] [(.int (0 : Int32)), (.int (0 : Int32))])) _
      refine XS.icmpYes X11.here hx rfl (pc0 := 92) (pc' := 97) rfl (hb hby at_92) rfl (teq (rfl : (0 : Int32) = (0 : Int32))).1 (by decide) (by decide) ?_
      show Steps p.tables e below (T11.setTop (mkF m 97 #[.val (.int p1), .val (.int (2 : Int32)), .val (.ref w_SHA_224), .val (.int (0 : Int32)), .val (.int (0 : Int32)), .unset] [])) _
      refine XS.iload X11.here hx rfl (hb hby at_97) rfl ?_
      show Steps p.tables e below (T11.setTop (mkF m 99 #[.val (.int p1), .val (.int (2 : Int32)), .val (.ref w_SHA_224), .val (.int (0 : Int32)), .val (.int (0 : Int32)), .unset] [(.int (0 : Int32))])) _
      refine XS.ifYes X11.here hx rfl (pc0 := 99) (pc' := 122) rfl (hb hby at_99) rfl ((if0 _ _).trans (teq (rfl : (0 : Int32) = (0 : Int32))).1) (by decide) (by decide) ?_
      show Steps p.tables e below (T11.setTop (mkF m 122 #[.val (.int p1), .val (.int (2 : Int32)), .val (.ref w_SHA_224), .val (.int (0 : Int32)), .val (.int (0 : Int32)), .unset] [])) _
      refine XS.iconst X11.here hx rfl (hb hby at_122) ?_
      exact kt
    obtain ⟨fs, hr, hrun, hended, hW, hsame⟩ := X11.leave (v := some (.int (1 : Int32))) (fun h => by rw [Bd.returns] at h; cases h)
    refine ⟨_, _, pre12 _ ?_, hrun, hended, _, _, rfl, ?_, ⟨_, rfl⟩, hW, hsame.mono (by decide) (by decide)⟩
    · show Steps p.tables e below (T11.setTop (mkF m 123 #[.val (.int p1), .val (.int (2 : Int32)), .val (.ref w_SHA_224), .val (.int (0 : Int32)), .val (.int (0 : Int32)), .unset] [(.int (1 : Int32))])) _
      exact retN X11 hx (t := .boolean) Bd.returns (by simp) (hb hby at_123) hr
    · show Q0 Z h0 n0 _ T11.heap _
      rw [hE11]
      exact ⟨rfl, N11⟩
  · obtain ⟨T13, X13, e13, st13⟩ := getS2 X0 hx hZ hown (host := "") (Or.inl (hw _ (List.mem_of_getElem? (i := 11) rfl))) Via.refl e0 S_SHA_256 (g := (mkF m 54 #[.val (.int p1), .val (.int (3 : Int32)), .unset, .unset, .unset, .unset] [])) rfl (hb hby at_54)
    obtain ⟨cq14, kq14, q14a, q14b, q14c⟩ := isOf hZ e13 E_SHA_256
    obtain ⟨_, _, ⟨T14, L14, k14, n14⟩, -, X14, ⟨Lc14, hQ14, l14, y14, z14⟩, st14⟩ := X13.virtualBack hx (y := (⟨"com/example/keyturn/keyturn/signing/JarDigestAlgorithm", "hasHeaders", "()Z"⟩ : MethodName)) (z := (⟨"com/example/keyturn/keyturn/signing/JarDigestAlgorithm", "hasHeaders", "()Z"⟩ : MethodName)) hown (mvT hZ (hw _ (List.mem_of_getElem? (i := 4) rfl))) (mvT hZ (hw _ (List.mem_of_getElem? (i := 5) rfl))) (notFace_of_selects (args := #[]) (mvT hZ (hw _ (List.mem_of_getElem? (i := 7) rfl)))) (mvT hZ (hw _ (List.mem_of_getElem? (i := 7) rfl))) (mvT hZ (hw _ (List.mem_of_getElem? (i := 6) rfl))) (by decide) (backOf (W := 0) (rmY l Z a0 hw [] w_SHA_256 w_SHA_256_headerName h0 n0 Z0 F_SHA_256_headerName) hZ (hw _ (List.mem_of_getElem? (i := 8) rfl)) (hw _ (List.mem_of_getElem? (i := 2) rfl)) (by decide) (by decide)) q14a q14c (g := (mkF m 84 #[.val (.int p1), .val (.int (3 : Int32)), .val (.ref w_SHA_256), .val (.int (1 : Int32)), .unset, .unset] [(.ref w_SHA_256)])) rfl (by rw [hml]; rfl) (Steps.refl _) (argsL := []) (rest := []) (lenOf pd_rm0_0 rfl) rfl (by show 2 * 0 + _ ≤ _; exact Nat.le_of_eq rfl) (hb hby at_84) (fun _ _ => ⟨rfl, e13, (by decide : 0 + 0 ≤ _), (by decide : 0 + 0 ≤ _)⟩)
    dsimp only [Pt.U, Pt.locs, Pt.cells, Pt.slots] at X14 l14 y14 z14 st14 hQ14
    subst l14 y14 z14
    obtain ⟨rfl, N14q, hE14⟩ := hQ14
    have N14 := Fr.app N0 N14q
    obtain ⟨cq15, kq15, q15a, q15b, q15c⟩ := isOf hZ hE14 E_SHA_256
    obtain ⟨_, _, ⟨T15, L15, k15, n15⟩, -, X15, ⟨Lc15, hQ15, l15, y15, z15⟩, st15⟩ := X14.virtualBack hx (y := (⟨"com/example/keyturn/keyturn/signing/JarDigestAlgorithm", "getHeaderName", "()Ljava/lang/String;"⟩ : MethodName)) (z := (⟨"com/example/keyturn/keyturn/signing/JarDigestAlgorithm", "getHeaderName", "()Ljava/lang/String;"⟩ : MethodName)) hown (mvT hZ (hw _ (List.mem_of_getElem? (i := 13) rfl))) (mvT hZ (hw _ (List.mem_of_getElem? (i := 14) rfl))) (notFace_of_selects (args := #[]) (mvT hZ (hw _ (List.mem_of_getElem? (i := 16) rfl)))) (mvT hZ (hw _ (List.mem_of_getElem? (i := 16) rfl))) (mvT hZ (hw _ (List.mem_of_getElem? (i := 15) rfl))) (by decide) (backOf (W := 0) (rmG l Z a0 hw [] w_SHA_256 w_SHA_256_headerName h0 n0 Z0 F_SHA_256_headerName) hZ (hw _ (List.mem_of_getElem? (i := 17) rfl)) (hw _ (List.mem_of_getElem? (i := 2) rfl)) (by decide) (by decide)) q15a q15c (g := (mkF m 103 #[.val (.int p1), .val (.int (3 : Int32)), .val (.ref w_SHA_256), .val (.int (1 : Int32)), .val (.int (1 : Int32)), .unset] [(.ref w_SHA_256)])) rfl (by rw [hml]; rfl) (Steps.refl _) (argsL := []) (rest := []) (lenOf pd_rm0_1 rfl) rfl (by show 2 * 0 + _ ≤ _; exact Nat.le_of_eq rfl) (hb hby at_103) (fun _ _ => ⟨rfl, hE14, (by decide : 0 + 0 ≤ _), (by decide : 0 + 0 ≤ _)⟩)
    dsimp only [Pt.U, Pt.locs, Pt.cells, Pt.slots] at X15 l15 y15 z15 st15 hQ15
    subst l15 y15 z15
    obtain ⟨rfl, N15q, hE15⟩ := hQ15
    have N15 := Fr.app N14 N15q
    obtain ⟨cq16, kq16, q16a, q16b, q16c⟩ := isOf hZ hE15 E_SHA_256_headerName
    obtain ⟨_, _, ⟨T16, L16, k16, n16⟩, -, X16, ⟨Lc16, hQ16, l16, y16, z16⟩, st16⟩ := X15.virtualBack hx (y := (⟨"java/lang/String", "isEmpty", "()Z"⟩ : MethodName)) (z := (⟨"java/lang/String", "isEmpty", "()Z"⟩ : MethodName)) hown (mvT hZ (hw _ (List.mem_of_getElem? (i := 18) rfl))) (mvT hZ (hw _ (List.mem_of_getElem? (i := 19) rfl))) (notFace_of_selects (args := #[]) (mvT hZ (hw _ (List.mem_of_getElem? (i := 21) rfl)))) (mvT hZ (hw _ (List.mem_of_getElem? (i := 21) rfl))) (mvT hZ (hw _ (List.mem_of_getElem? (i := 20) rfl))) (by decide) (backOf (W := 0) (rmE l Z a0 hw [] w_SHA_256_headerName w_SHA_256_headerName_value cl_SHA_256_headerName_value (7 : Int32) h0 n0 Z0 F_SHA_256_headerName_value A_SHA_256_headerName_value l_SHA_256_headerName_value (by decide)) hZ (hw _ (List.mem_of_getElem? (i := 23) rfl)) (hw _ (List.mem_of_getElem? (i := 22) rfl)) (by decide) (by decide)) q16a q16c (g := (mkF m 110 #[.val (.int p1), .val (.int (3 : Int32)), .val (.ref w_SHA_256), .val (.int (1 : Int32)), .val (.int (1 : Int32)), .val (.ref w_SHA_256_headerName)] [(.ref w_SHA_256_headerName)])) rfl (by rw [hml]; rfl) (Steps.refl _) (argsL := []) (rest := []) (lenOf pd_rm0_0 rfl) rfl (by show 2 * 0 + _ ≤ _; exact Nat.le_of_eq rfl) (hb hby at_110) (fun _ _ => ⟨rfl, hE15, (by decide : 0 + 0 ≤ _), (by decide : 0 + 0 ≤ _)⟩)
    dsimp only [Pt.U, Pt.locs, Pt.cells, Pt.slots] at X16 l16 y16 z16 st16 hQ16
    subst l16 y16 z16
    obtain ⟨rfl, N16q, hE16⟩ := hQ16
    have N16 := Fr.app N15 N16q
    have pre17 : ∀ tt, Steps p.tables e below (T16.setTop (mkF m 121 #[.val (.int p1), .val (.int (3 : Int32)), .val (.ref w_SHA_256), .val (.int (1 : Int32)), .val (.int (1 : Int32)), .val (.ref w_SHA_256_headerName)] [(.int (1 : Int32))])) tt → Steps p.tables e below (s₁.setTop (entryFrame m #[(.int p1)] maxLocals)) tt := by
      intro tt kt
      refine pre1 tt ?_
      show Steps p.tables e below (s₁.setTop (mkF m 7 #[.val (.int p1), .unset, .unset, .unset, .unset, .unset] [(.int (3 : Int32))])) _
      refine XS.istoreN X0.here hx rfl (hb hby at_7) rfl (l' := #[.val (.int p1), .val (.int (3 : Int32)), .unset, .unset, .unset, .unset]) rfl ?_
      show Steps p.tables e below (s₁.setTop (mkF m 8 #[.val (.int p1), .val (.int (3 : Int32)), .unset, .unset, .unset, .unset] [])) _
      refine XS.iloadN X0.here hx rfl (hb hby at_8) rfl ?_
      show Steps p.tables e below (s₁.setTop (mkF m 9 #[.val (.int p1), .val (.int (3 : Int32)), .unset, .unset, .unset, .unset] [(.int (3 : Int32))])) _
      refine XS.ifYes X0.here hx rfl (pc0 := 9) (pc' := 21) rfl (hb hby at_9) rfl ((if0 _ _).trans (feq (by decide : ¬ ((3 : Int32) = (0 : Int32)))).2) (by decide) (by decide) ?_
      show Steps p.tables e below (s₁.setTop (mkF m 21 #[.val (.int p1), .val (.int (3 : Int32)), .unset, .unset, .unset, .unset] [])) _
      refine XS.iloadN X0.here hx rfl (hb hby at_21) rfl ?_
      show Steps p.tables e below (s₁.setTop (mkF m 22 #[.val (.int p1), .val (.int (3 : Int32)), .unset, .unset, .unset, .unset] [(.int (3 : Int32))])) _
      refine XS.iconst X0.here hx rfl (hb hby at_22) ?_
      show Steps p.tables e below (s₁.setTop (mkF m 23 #[.val (.int p1), .val (.int (3 : Int32)), .unset, .unset, .unset, .unset] [(.int (1 : Int32)), (.int (3 : Int32))])) _
      refine XS.icmpYes X0.here hx rfl (pc0 := 23) (pc' := 35) rfl (hb hby at_23) rfl (feq (by decide : ¬ ((3 : Int32) = (1 : Int32)))).2 (by decide) (by decide) ?_
      show Steps p.tables e below (s₁.setTop (mkF m 35 #[.val (.int p1), .val (.int (3 : Int32)), .unset, .unset, .unset, .unset] [])) _
      refine XS.iloadN X0.here hx rfl (hb hby at_35) rfl ?_
      show Steps p.tables e below (s₁.setTop (mkF m 36 #[.val (.int p1), .val (.int (3 : Int32)), .unset, .unset, .unset, .unset] [(.int (3 : Int32))])) _
      refine XS.iconst X0.here hx rfl (hb hby at_36) ?_
      show Steps p.tables e below (s₁.setTop (mkF m 37 #[.val (.int p1), .val (.int (3 : Int32)), .unset, .unset, .unset, .unset] [(.int (2 : Int32)), (.int (3 : Int32))])) _
      refine XS.icmpYes X0.here hx rfl (pc0 := 37) (pc' := 49) rfl (hb hby at_37) rfl (feq (by decide : ¬ ((3 : Int32) = (2 : Int32)))).2 (by decide) (by decide) ?_
      show Steps p.tables e below (s₁.setTop (mkF m 49 #[.val (.int p1), .val (.int (3 : Int32)), .unset, .unset, .unset, .unset] [])) _
      refine XS.iloadN X0.here hx rfl (hb hby at_49) rfl ?_
      show Steps p.tables e below (s₁.setTop (mkF m 50 #[.val (.int p1), .val (.int (3 : Int32)), .unset, .unset, .unset, .unset] [(.int (3 : Int32))])) _
      refine XS.iconst X0.here hx rfl (hb hby at_50) ?_
      show Steps p.tables e below (s₁.setTop (mkF m 51 #[.val (.int p1), .val (.int (3 : Int32)), .unset, .unset, .unset, .unset] [(.int (3 : Int32)), (.int (3 : Int32))])) _
      refine XS.icmpNo X0.here hx rfl (hb hby at_51) rfl (teq (rfl : (3 : Int32) = (3 : Int32))).2 ?_
      show Steps p.tables e below (s₁.setTop (mkF m 54 #[.val (.int p1), .val (.int (3 : Int32)), .unset, .unset, .unset, .unset] [])) _
      refine st13 _ ?_
      show Steps p.tables e below (T13.setTop (mkF m 57 #[.val (.int p1), .val (.int (3 : Int32)), .unset, .unset, .unset, .unset] [(.ref w_SHA_256)])) _
      refine XS.astoreN X13.here hx rfl (hb hby at_57) rfl rfl (l' := #[.val (.int p1), .val (.int (3 : Int32)), .val (.ref w_SHA_256), .unset, .unset, .unset]) rfl ?_
      show Steps p.tables e below (T13.setTop (mkF m 58 #[.val (.int p1), .val (.int (3 : Int32)), .val (.ref w_SHA_256), .unset, .unset, .unset] [])) _
      refine XS.iconst X13.here hx rfl (hb hby at_58) ?_
      show Steps p.tables e below (T13.setTop (mkF m 59 #[.val (.int p1), .val (.int (3 : Int32)), .val (.ref w_SHA_256), .unset, .unset, .unset] [(.int (1 : Int32))])) _
      refine XS.istoreN X13.here hx rfl (hb hby at_59) rfl (l' := #[.val (.int p1), .val (.int (3 : Int32)), .val (.ref w_SHA_256), .val (.int (1 : Int32)), .unset, .unset]) rfl ?_
      show Steps p.tables e below (T13.setTop (mkF m 60 #[.val (.int p1), .val (.int (3 : Int32)), .val (.ref w_SHA_256), .val (.int (1 : Int32)), .unset, .unset] [])) _
      refine XS.goto X13.here hx rfl (pc0 := 60) (pc' := 83) rfl (hb hby at_60) (by decide) (by decide) ?_
      show Steps p.tables e below (T13.setTop (mkF m 83 #[.val (.int p1), .val (.int (3 : Int32)), .val (.ref w_SHA_256), .val (.int (1 : Int32)), .unset, .unset] [])) _
      refine XS.aloadN X13.here hx rfl (hb hby at_83) rfl rfl ?_
      show Steps p.tables e below (T13.setTop (mkF m 84 #[.val (.int p1), .val (.int (3 : Int32)), .val (.ref w_SHA_256), .val (.int (1 : Int32)), .unset, .unset] [(.ref w_SHA_256)])) _
      refine st14.trans ?_
      show Steps p.tables e below (T14.setTop (mkF m 87 #[.val (.int p1), .val (.int (3 : Int32)), .val (.ref w_SHA_256), .val (.int (1 : Int32)), .unset, .unset] [(.int (1 : Int32))])) _
      refine XS.istore X14.here hx rfl (hb hby at_87) rfl (l' := #[.val (.int p1), .val (.int (3 : Int32)), .val (.ref w_SHA_256), .val (.int (1 : Int32)), .val (.int (1 : Int32)), .unset]) rfl ?_
      show Steps p.tables e below (T14.setTop (mkF m 89 #[.val (.int p1), .val (.int (3 : Int32)), .val (.ref w_SHA_256), .val (.int (1 : Int32)), .val (.int (1 : Int32)), .unset] [])) _
      refine XS.iload X14.here hx rfl (hb hby at_89) rfl ?_
      show Steps p.tables e below (T14.setTop (mkF m 91 #[.val (.int p1), .val (.int (3 : Int32)), .val (.ref w_SHA_256), .val (.int (1 : Int32)), .val (.int (1 : Int32)), .unset] [(.int (1 : Int32))])) _
      refine XS.iloadN X14.here hx rfl (hb hby at_91) rfl ?_
      show Steps p.tables e below (T14.setTop (mkF m 92 #[.val (.int p1), .val (.int (3 : Int32)), .val (.ref w_SHA_256), .val (.int (1 : Int32)), .val (.int (1 : Int32)), .unset] [(.int (1 : Int32)), (.int (1 : Int32))])) _
      refine XS.icmpYes X14.here hx rfl (pc0 := 92) (pc' := 97) rfl (hb hby at_92) rfl (teq (rfl : (1 : Int32) = (1 : Int32))).1 (by decide) (by decide) ?_
      show Steps p.tables e below (T14.setTop (mkF m 97 #[.val (.int p1), .val (.int (3 : Int32)), .val (.ref w_SHA_256), .val (.int (1 : Int32)), .val (.int (1 : Int32)), .unset] [])) _
      refine XS.iload X14.here hx rfl (hb hby at_97) rfl ?_
      show Steps p.tables e below (T14.setTop (mkF m 99 #[.val (.int p1), .val (.int (3 : Int32)), .val (.ref w_SHA_256), .val (.int (1 : Int32)), .val (.int (1 : Int32)), .unset] [(.int (1 : Int32))])) _
      refine XS.ifNo X14.here hx rfl (hb hby at_99) rfl ((if0 _ _).trans (feq (by decide : ¬ ((1 : Int32) = (0 : Int32)))).1) ?_
      show Steps p.tables e below (T14.setTop (mkF m 102 #[.val (.int p1), .val (.int (3 : Int32)), .val (.ref w_SHA_256), .val (.int (1 : Int32)), .val (.int (1 : Int32)), .unset] [])) _
      refine XS.aloadN X14.here hx rfl (hb hby at_102) rfl rfl ?_
      show Steps p.tables e below (T14.setTop (mkF m 103 #[.val (.int p1), .val (.int (3 : Int32)), .val (.ref w_SHA_256), .val (.int (1 : Int32)), .val (.int (1 : Int32)), .unset] [(.ref w_SHA_256)])) _
      refine st15.trans ?_
      show Steps p.tables e below (T15.setTop (mkF m 106 #[.val (.int p1), .val (.int (3 : Int32)), .val (.ref w_SHA_256), .val (.int (1 : Int32)), .val (.int (1 : Int32)), .unset] [(.ref w_SHA_256_headerName)])) _
      refine XS.astore X15.here hx rfl (hb hby at_106) rfl rfl (l' := #[.val (.int p1), .val (.int (3 : Int32)), .val (.ref w_SHA_256), .val (.int (1 : Int32)), .val (.int (1 : Int32)), .val (.ref w_SHA_256_headerName)]) rfl ?_
      show Steps p.tables e below (T15.setTop (mkF m 108 #[.val (.int p1), .val (.int (3 : Int32)), .val (.ref w_SHA_256), .val (.int (1 : Int32)), .val (.int (1 : Int32)), .val (.ref w_SHA_256_headerName)] [])) _
      refine XS.aload X15.here hx rfl (hb hby at_108) rfl rfl ?_
      show Steps p.tables e below (T15.setTop (mkF m 110 #[.val (.int p1), .val (.int (3 : Int32)), .val (.ref w_SHA_256), .val (.int (1 : Int32)), .val (.int (1 : Int32)), .val (.ref w_SHA_256_headerName)] [(.ref w_SHA_256_headerName)])) _
      refine st16.trans ?_
      show Steps p.tables e below (T16.setTop (mkF m 113 #[.val (.int p1), .val (.int (3 : Int32)), .val (.ref w_SHA_256), .val (.int (1 : Int32)), .val (.int (1 : Int32)), .val (.ref w_SHA_256_headerName)] [(.int (0 : Int32))])) _
      refine XS.ifNo X16.here hx rfl (hb hby at_113) rfl ((if0 _ _).trans (teq (rfl : (0 : Int32) = (0 : Int32))).2) ?_
      show Steps p.tables e below (T16.setTop (mkF m 116 #[.val (.int p1), .val (.int (3 : Int32)), .val (.ref w_SHA_256), .val (.int (1 : Int32)), .val (.int (1 : Int32)), .val (.ref w_SHA_256_headerName)] [])) _
      refine XS.iconst X16.here hx rfl (hb hby at_116) ?_
      show Steps p.tables e below (T16.setTop (mkF m 117 #[.val (.int p1), .val (.int (3 : Int32)), .val (.ref w_SHA_256), .val (.int (1 : Int32)), .val (.int (1 : Int32)), .val (.ref w_SHA_256_headerName)] [(.int (1 : Int32))])) _
      refine XS.goto X16.here hx rfl (pc0 := 117) (pc' := 121) rfl (hb hby at_117) (by decide) (by decide) ?_
      exact kt
    obtain ⟨fs, hr, hrun, hended, hW, hsame⟩ := X16.leave (v := some (.int (1 : Int32))) (fun h => by rw [Bd.returns] at h; cases h)
    refine ⟨_, _, pre17 _ ?_, hrun, hended, _, _, rfl, ?_, ⟨_, rfl⟩, hW, hsame.mono (by decide) (by decide)⟩
    · show Steps p.tables e below (T16.setTop (mkF m 121 #[.val (.int p1), .val (.int (3 : Int32)), .val (.ref w_SHA_256), .val (.int (1 : Int32)), .val (.int (1 : Int32)), .val (.ref w_SHA_256_headerName)] [(.int (1 : Int32))])) _
      exact retN X16 hx (t := .boolean) Bd.returns (by simp) (hb hby at_121) hr
    · show Q0 Z h0 n0 _ T16.heap _
      rw [hE16]
      exact ⟨rfl, N16⟩
  · obtain ⟨T18, X18, e18, st18⟩ := getS2 X0 hx hZ hown (host := "") (Or.inl (hw _ (List.mem_of_getElem? (i := 32) rfl))) Via.refl e0 S_SHA_384 (g := (mkF m 68 #[.val (.int p1), .val (.int (4 : Int32)), .unset, .unset, .unset, .unset] [])) rfl (hb hby at_68)
    obtain ⟨cq19, kq19, q19a, q19b, q19c⟩ := isOf hZ e18 E_SHA_384
    obtain ⟨_, _, ⟨T19, L19, k19, n19⟩, -, X19, ⟨Lc19, hQ19, l19, y19, z19⟩, st19⟩ := X18.virtualBack hx (y := (⟨"com/example/keyturn/keyturn/signing/JarDigestAlgorithm", "hasHeaders", "()Z"⟩ : MethodName)) (z := (⟨"com/example/keyturn/keyturn/signing/JarDigestAlgorithm", "hasHeaders", "()Z"⟩ : MethodName)) hown (mvT hZ (hw _ (List.mem_of_getElem? (i := 4) rfl))) (mvT hZ (hw _ (List.mem_of_getElem? (i := 5) rfl))) (notFace_of_selects (args := #[]) (mvT hZ (hw _ (List.mem_of_getElem? (i := 7) rfl)))) (mvT hZ (hw _ (List.mem_of_getElem? (i := 7) rfl))) (mvT hZ (hw _ (List.mem_of_getElem? (i := 6) rfl))) (by decide) (backOf (W := 0) (rmY l Z a0 hw [] w_SHA_384 w_SHA_384_headerName h0 n0 Z0 F_SHA_384_headerName) hZ (hw _ (List.mem_of_getElem? (i := 8) rfl)) (hw _ (List.mem_of_getElem? (i := 2) rfl)) (by decide) (by decide)) q19a q19c (g := (mkF m 84 #[.val (.int p1), .val (.int (4 : Int32)), .val (.ref w_SHA_384), .val (.int (1 : Int32)), .unset, .unset] [(.ref w_SHA_384)])) rfl (by rw [hml]; rfl) (Steps.refl _) (argsL := []) (rest := []) (lenOf pd_rm0_0 rfl) rfl (by show 2 * 0 + _ ≤ _; exact Nat.le_of_eq rfl) (hb hby at_84) (fun _ _ => ⟨rfl, e18, (by decide : 0 + 0 ≤ _), (by decide : 0 + 0 ≤ _)⟩)
    dsimp only [Pt.U, Pt.locs, Pt.cells, Pt.slots] at X19 l19 y19 z19 st19 hQ19
    subst l19 y19 z19
    obtain ⟨rfl, N19q, hE19⟩ := hQ19
    have N19 := Fr.app N0 N19q
    obtain ⟨cq20, kq20, q20a, q20b, q20c⟩ := isOf hZ hE19 E_SHA_384
    obtain ⟨_, _, ⟨T20, L20, k20, n20⟩, -, X20, ⟨Lc20, hQ20, l20, y20, z20⟩, st20⟩ := X19.virtualBack hx (y := (⟨"com/example/keyturn/keyturn/signing/JarDigestAlgorithm", "getHeaderName", "()Ljava/lang/String;"⟩ : MethodName)) (z := (⟨"com/example/keyturn/keyturn/signing/JarDigestAlgorithm", "getHeaderName", "()Ljava/lang/String;"⟩ : MethodName)) hown (mvT hZ (hw _ (List.mem_of_getElem? (i := 13) rfl))) (mvT hZ (hw _ (List.mem_of_getElem? (i := 14) rfl))) (notFace_of_selects (args := #[]) (mvT hZ (hw _ (List.mem_of_getElem? (i := 16) rfl)))) (mvT hZ (hw _ (List.mem_of_getElem? (i := 16) rfl))) (mvT hZ (hw _ (List.mem_of_getElem? (i := 15) rfl))) (by decide) (backOf (W := 0) (rmG l Z a0 hw [] w_SHA_384 w_SHA_384_headerName h0 n0 Z0 F_SHA_384_headerName) hZ (hw _ (List.mem_of_getElem? (i := 17) rfl)) (hw _ (List.mem_of_getElem? (i := 2) rfl)) (by decide) (by decide)) q20a q20c (g := (mkF m 103 #[.val (.int p1), .val (.int (4 : Int32)), .val (.ref w_SHA_384), .val (.int (1 : Int32)), .val (.int (1 : Int32)), .unset] [(.ref w_SHA_384)])) rfl (by rw [hml]; rfl) (Steps.refl _) (argsL := []) (rest := []) (lenOf pd_rm0_1 rfl) rfl (by show 2 * 0 + _ ≤ _; exact Nat.le_of_eq rfl) (hb hby at_103) (fun _ _ => ⟨rfl, hE19, (by decide : 0 + 0 ≤ _), (by decide : 0 + 0 ≤ _)⟩)
    dsimp only [Pt.U, Pt.locs, Pt.cells, Pt.slots] at X20 l20 y20 z20 st20 hQ20
    subst l20 y20 z20
    obtain ⟨rfl, N20q, hE20⟩ := hQ20
    have N20 := Fr.app N19 N20q
    obtain ⟨cq21, kq21, q21a, q21b, q21c⟩ := isOf hZ hE20 E_SHA_384_headerName
    obtain ⟨_, _, ⟨T21, L21, k21, n21⟩, -, X21, ⟨Lc21, hQ21, l21, y21, z21⟩, st21⟩ := X20.virtualBack hx (y := (⟨"java/lang/String", "isEmpty", "()Z"⟩ : MethodName)) (z := (⟨"java/lang/String", "isEmpty", "()Z"⟩ : MethodName)) hown (mvT hZ (hw _ (List.mem_of_getElem? (i := 18) rfl))) (mvT hZ (hw _ (List.mem_of_getElem? (i := 19) rfl))) (notFace_of_selects (args := #[]) (mvT hZ (hw _ (List.mem_of_getElem? (i := 21) rfl)))) (mvT hZ (hw _ (List.mem_of_getElem? (i := 21) rfl))) (mvT hZ (hw _ (List.mem_of_getElem? (i := 20) rfl))) (by decide) (backOf (W := 0) (rmE l Z a0 hw [] w_SHA_384_headerName w_SHA_384_headerName_value cl_SHA_384_headerName_value (7 : Int32) h0 n0 Z0 F_SHA_384_headerName_value A_SHA_384_headerName_value l_SHA_384_headerName_value (by decide)) hZ (hw _ (List.mem_of_getElem? (i := 23) rfl)) (hw _ (List.mem_of_getElem? (i := 22) rfl)) (by decide) (by decide)) q21a q21c (g := (mkF m 110 #[.val (.int p1), .val (.int (4 : Int32)), .val (.ref w_SHA_384), .val (.int (1 : Int32)), .val (.int (1 : Int32)), .val (.ref w_SHA_384_headerName)] [(.ref w_SHA_384_headerName)])) rfl (by rw [hml]; rfl) (Steps.refl _) (argsL := []) (rest := []) (lenOf pd_rm0_0 rfl) rfl (by show 2 * 0 + _ ≤ _; exact Nat.le_of_eq rfl) (hb hby at_110) (fun _ _ => ⟨rfl, hE20, (by decide : 0 + 0 ≤ _), (by decide : 0 + 0 ≤ _)⟩)
    dsimp only [Pt.U, Pt.locs, Pt.cells, Pt.slots] at X21 l21 y21 z21 st21 hQ21
    subst l21 y21 z21
    obtain ⟨rfl, N21q, hE21⟩ := hQ21
    have N21 := Fr.app N20 N21q
    have pre22 : ∀ tt, Steps p.tables e below (T21.setTop (mkF m 121 #[.val (.int p1), .val (.int (4 : Int32)), .val (.ref w_SHA_384), .val (.int (1 : Int32)), .val (.int (1 : Int32)), .val (.ref w_SHA_384_headerName)] [(.int (1 : Int32))])) tt → Steps p.tables e below (s₁.setTop (entryFrame m #[(.int p1)] maxLocals)) tt := by
      intro tt kt
      refine pre1 tt ?_
      show Steps p.tables e below (s₁.setTop (mkF m 7 #[.val (.int p1), .unset, .unset, .unset, .unset, .unset] [(.int (4 : Int32))])) _
      refine XS.istoreN X0.here hx rfl (hb hby at_7) rfl (l' := #[.val (.int p1), .val (.int (4 : Int32)), .unset, .unset, .unset, .unset]) rfl ?_
      show Steps p.tables e below (s₁.setTop (mkF m 8 #[.val (.int p1), .val (.int (4 : Int32)), .unset, .unset, .unset, .unset] [])) _
      refine XS.iloadN X0.here hx rfl (hb hby at_8) rfl ?_
      show Steps p.tables e below (s₁.setTop (mkF m 9 #[.val (.int p1), .val (.int (4 : Int32)), .unset, .unset, .unset, .unset] [(.int (4 : Int32))])) _
      refine XS.ifYes X0.here hx rfl (pc0 := 9) (pc' := 21) rfl (hb hby at_9) rfl ((if0 _ _).trans (feq (by decide : ¬ ((4 : Int32) = (0 : Int32)))).2) (by decide) (by decide) ?_
      show Steps p.tables e below (s₁.setTop (mkF m 21 #[.val (.int p1), .val (.int (4 : Int32)), .unset, .unset, .unset, .unset] [])) _
      refine XS.iloadN X0.here hx rfl (hb hby at_21) rfl ?_
      show Steps p.tables e below (s₁.setTop (mkF m 22 #[.val (.int p1), .val (.int (4 : Int32)), .unset, .unset, .unset, .unset] [(.int (4 : Int32))])) _
      refine XS.iconst X0.here hx rfl (hb hby at_22) ?_
      show Steps p.tables e below (s₁.setTop (mkF m 23 #[.val (.int p1), .val (.int (4 : Int32)), .unset, .unset, .unset, .unset] [(.int (1 : Int32)), (.int (4 : Int32))])) _
      refine XS.icmpYes X0.here hx rfl (pc0 := 23) (pc' := 35) rfl (hb hby at_23) rfl (feq (by decide : ¬ ((4 : Int32) = (1 : Int32)))).2 (by decide) (by decide) ?_
      show Steps p.tables e below (s₁.setTop (mkF m 35 #[.val (.int p1), .val (.int (4 : Int32)), .unset, .unset, .unset, .unset] [])) _
      refine XS.iloadN X0.here hx rfl (hb hby at_35) rfl ?_
      show Steps p.tables e below (s₁.setTop (mkF m 36 #[.val (.int p1), .val (.int (4 : Int32)), .unset, .unset, .unset, .unset] [(.int (4 : Int32))])) _
      refine XS.iconst X0.here hx rfl (hb hby at_36) ?_
      show Steps p.tables e below (s₁.setTop (mkF m 37 #[.val (.int p1), .val (.int (4 : Int32)), .unset, .unset, .unset, .unset] [(.int (2 : Int32)), (.int (4 : Int32))])) _
      refine XS.icmpYes X0.here hx rfl (pc0 := 37) (pc' := 49) rfl (hb hby at_37) rfl (feq (by decide : ¬ ((4 : Int32) = (2 : Int32)))).2 (by decide) (by decide) ?_
      show Steps p.tables e below (s₁.setTop (mkF m 49 #[.val (.int p1), .val (.int (4 : Int32)), .unset, .unset, .unset, .unset] [])) _
      refine XS.iloadN X0.here hx rfl (hb hby at_49) rfl ?_
      show Steps p.tables e below (s₁.setTop (mkF m 50 #[.val (.int p1), .val (.int (4 : Int32)), .unset, .unset, .unset, .unset] [(.int (4 : Int32))])) _
      refine XS.iconst X0.here hx rfl (hb hby at_50) ?_
      show Steps p.tables e below (s₁.setTop (mkF m 51 #[.val (.int p1), .val (.int (4 : Int32)), .unset, .unset, .unset, .unset] [(.int (3 : Int32)), (.int (4 : Int32))])) _
      refine XS.icmpYes X0.here hx rfl (pc0 := 51) (pc' := 63) rfl (hb hby at_51) rfl (feq (by decide : ¬ ((4 : Int32) = (3 : Int32)))).2 (by decide) (by decide) ?_
      show Steps p.tables e below (s₁.setTop (mkF m 63 #[.val (.int p1), .val (.int (4 : Int32)), .unset, .unset, .unset, .unset] [])) _
      refine XS.iloadN X0.here hx rfl (hb hby at_63) rfl ?_
      show Steps p.tables e below (s₁.setTop (mkF m 64 #[.val (.int p1), .val (.int (4 : Int32)), .unset, .unset, .unset, .unset] [(.int (4 : Int32))])) _
      refine XS.iconst X0.here hx rfl (hb hby at_64) ?_
      show Steps p.tables e below (s₁.setTop (mkF m 65 #[.val (.int p1), .val (.int (4 : Int32)), .unset, .unset, .unset, .unset] [(.int (4 : Int32)), (.int (4 : Int32))])) _
      refine XS.icmpNo X0.here hx rfl (hb hby at_65) rfl (teq (rfl : (4 : Int32) = (4 : Int32))).2 ?_
      show Steps p.tables e below (s₁.setTop (mkF m 68 #[.val (.int p1), .val (.int (4 : Int32)), .unset, .unset, .unset, .unset] [])) _
      refine st18 _ ?_
      show Steps p.tables e below (T18.setTop (mkF m 71 #[.val (.int p1), .val (.int (4 : Int32)), .unset, .unset, .unset, .unset] [(.ref w_SHA_384)])) _
      refine XS.astoreN X18.here hx rfl (hb hby at_71) rfl rfl (l' := #[.val (.int p1), .val (.int (4 : Int32)), .val (.ref w_SHA_384), .unset, .unset, .unset]) rfl ?_
      show Steps p.tables e below (T18.setTop (mkF m 72 #[.val (.int p1), .val (.int (4 : Int32)), .val (.ref w_SHA_384), .unset, .unset, .unset] [])) _
      refine XS.iconst X18.here hx rfl (hb hby at_72) ?_
      show Steps p.tables e below (T18.setTop (mkF m 73 #[.val (.int p1), .val (.int (4 : Int32)), .val (.ref w_SHA_384), .unset, .unset, .unset] [(.int (1 : Int32))])) _
      refine XS.istoreN X18.here hx rfl (hb hby at_73) rfl (l' := #[.val (.int p1), .val (.int (4 : Int32)), .val (.ref w_SHA_384), .val (.int (1 : Int32)), .unset, .unset]) rfl ?_
      show Steps p.tables e below (T18.setTop (mkF m 74 #[.val (.int p1), .val (.int (4 : Int32)), .val (.ref w_SHA_384), .val (.int (1 : Int32)), .unset, .unset] [])) _
      refine XS.goto X18.here hx rfl (pc0 := 74) (pc' := 83) rfl (hb hby at_74) (by decide) (by decide) ?_
      show Steps p.tables e below (T18.setTop (mkF m 83 #[.val (.int p1), .val (.int (4 : Int32)), .val (.ref w_SHA_384), .val (.int (1 : Int32)), .unset, .unset] [])) _
      refine XS.aloadN X18.here hx rfl (hb hby at_83) rfl rfl ?_
      show Steps p.tables e below (T18.setTop (mkF m 84 #[.val (.int p1), .val (.int (4 : Int32)), .val (.ref w_SHA_384), .val (.int (1 : Int32)), .unset, .unset] [(.ref w_SHA_384)])) _
      refine st19.trans ?_
      show Steps p.tables e below (T19.setTop (mkF m 87 #[.val (.int p1), .val (.int (4 : Int32)), .val (.ref w_SHA_384), .val (.int (1 : Int32)), .unset, .unset] [(.int (1 : Int32))])) _
      refine XS.istore X19.here hx rfl (hb hby at_87) rfl (l' := #[.val (.int p1), .val (.int (4 : Int32)), .val (.ref w_SHA_384), .val (.int (1 : Int32)), .val (.int (1 : Int32)), .unset]) rfl ?_
      show Steps p.tables e below (T19.setTop (mkF m 89 #[.val (.int p1), .val (.int (4 : Int32)), .val (.ref w_SHA_384), .val (.int (1 : Int32)), .val (.int (1 : Int32)), .unset] [])) _
      refine XS.iload X19.here hx rfl (hb hby at_89) rfl ?_
      show Steps p.tables e below (T19.setTop (mkF m 91 #[.val (.int p1), .val (.int (4 : Int32)), .val (.ref w_SHA_384), .val (.int (1 : Int32)), .val (.int (1 : Int32)), .unset] [(.int (1 : Int32))])) _
      refine XS.iloadN X19.here hx rfl (hb hby at_91) rfl ?_
      show Steps p.tables e below (T19.setTop (mkF m 92 #[.val (.int p1), .val (.int (4 : Int32)), .val (.ref w_SHA_384), .val (.int (1 : Int32)), .val (.int (1 : Int32)), .unset] [(.int (1 : Int32)), (.int (1 : Int32))])) _
      refine XS.icmpYes X19.here hx rfl (pc0 := 92) (pc' := 97) rfl (hb hby at_92) rfl (teq (rfl : (1 : Int32) = (1 : Int32))).1 (by decide) (by decide) ?_
      show Steps p.tables e below (T19.setTop (mkF m 97 #[.val (.int p1), .val (.int (4 : Int32)), .val (.ref w_SHA_384), .val (.int (1 : Int32)), .val (.int (1 : Int32)), .unset] [])) _
      refine XS.iload X19.here hx rfl (hb hby at_97) rfl ?_
      show Steps p.tables e below (T19.setTop (mkF m 99 #[.val (.int p1), .val (.int (4 : Int32)), .val (.ref w_SHA_384), .val (.int (1 : Int32)), .val (.int (1 : Int32)), .unset] [(.int (1 : Int32))])) _
      refine XS.ifNo X19.here hx rfl (hb hby at_99) rfl ((if0 _ _).trans (feq (by decide : ¬ ((1 : Int32) = (0 : Int32)))).1) ?_
      show Steps p.tables e below (T19.setTop (mkF m 102 #[.val (.int p1), .val (.int (4 : Int32)), .val (.ref w_SHA_384), .val (.int (1 : Int32)), .val (.int (1 : Int32)), .unset] [])) _
      refine XS.aloadN X19.here hx rfl (hb hby at_102) rfl rfl ?_
      show Steps p.tables e below (T19.setTop (mkF m 103 #[.val (.int p1), .val (.int (4 : Int32)), .val (.ref w_SHA_384), .val (.int (1 : Int32)), .val (.int (1 : Int32)), .unset] [(.ref w_SHA_384)])) _
      refine st20.trans ?_
      show Steps p.tables e below (T20.setTop (mkF m 106 #[.val (.int p1), .val (.int (4 : Int32)), .val (.ref w_SHA_384), .val (.int (1 : Int32)), .val (.int (1 : Int32)), .unset] [(.ref w_SHA_384_headerName)])) _
      refine XS.astore X20.here hx rfl (hb hby at_106) rfl rfl (l' := #[.val (.int p1), .val (.int (4 : Int32)), .val (.ref w_SHA_384), .val (.int (1 : Int32)), .val (.int (1 : Int32)), .val (.ref w_SHA_384_headerName)]) rfl ?_
      show Steps p.tables e below (T20.setTop (mkF m 108 #[.val (.int p1), .val (.int (4 : Int32)), .val (.ref w_SHA_384), .val (.int (1 : Int32)), .val (.int (1 : Int32)), .val (.ref w_SHA_384_headerName)] [])) _
      refine XS.aload X20.here hx rfl (hb hby at_108) rfl rfl ?_
      show Steps p.tables e below (T20.setTop (mkF m 110 #[.val (.int p1), .val (.int (4 : Int32)), .val (.ref w_SHA_384), .val (.int (1 : Int32)), .val (.int (1 : Int32)), .val (.ref w_SHA_384_headerName)] [(.ref w_SHA_384_headerName)])) _
      refine st21.trans ?_
      show Steps p.tables e below (T21.setTop (mkF m 113 #[.val (.int p1), .val (.int (4 : Int32)), .val (.ref w_SHA_384), .val (.int (1 : Int32)), .val (.int (1 : Int32)), .val (.ref w_SHA_384_headerName)] [(.int (0 : Int32))])) _
      refine XS.ifNo X21.here hx rfl (hb hby at_113) rfl ((if0 _ _).trans (teq (rfl : (0 : Int32) = (0 : Int32))).2) ?_
      show Steps p.tables e below (T21.setTop (mkF m 116 #[.val (.int p1), .val (.int (4 : Int32)), .val (.ref w_SHA_384), .val (.int (1 : Int32)), .val (.int (1 : Int32)), .val (.ref w_SHA_384_headerName)] [])) _
      refine XS.iconst X21.here hx rfl (hb hby at_116) ?_
      show Steps p.tables e below (T21.setTop (mkF m 117 #[.val (.int p1), .val (.int (4 : Int32)), .val (.ref w_SHA_384), .val (.int (1 : Int32)), .val (.int (1 : Int32)), .val (.ref w_SHA_384_headerName)] [(.int (1 : Int32))])) _
      refine XS.goto X21.here hx rfl (pc0 := 117) (pc' := 121) rfl (hb hby at_117) (by decide) (by decide) ?_
      exact kt
    obtain ⟨fs, hr, hrun, hended, hW, hsame⟩ := X21.leave (v := some (.int (1 : Int32))) (fun h => by rw [Bd.returns] at h; cases h)
    refine ⟨_, _, pre22 _ ?_, hrun, hended, _, _, rfl, ?_, ⟨_, rfl⟩, hW, hsame.mono (by decide) (by decide)⟩
    · show Steps p.tables e below (T21.setTop (mkF m 121 #[.val (.int p1), .val (.int (4 : Int32)), .val (.ref w_SHA_384), .val (.int (1 : Int32)), .val (.int (1 : Int32)), .val (.ref w_SHA_384_headerName)] [(.int (1 : Int32))])) _
      exact retN X21 hx (t := .boolean) Bd.returns (by simp) (hb hby at_121) hr
    · show Q0 Z h0 n0 _ T21.heap _
      rw [hE21]
      exact ⟨rfl, N21⟩
  · obtain ⟨T23, X23, e23, st23⟩ := getS2 X0 hx hZ hown (host := "") (Or.inl (hw _ (List.mem_of_getElem? (i := 30) rfl))) Via.refl e0 S_SHA_512 (g := (mkF m 77 #[.val (.int p1), .val (.int (5 : Int32)), .unset, .unset, .unset, .unset] [])) rfl (hb hby at_77)
    obtain ⟨cq24, kq24, q24a, q24b, q24c⟩ := isOf hZ e23 E_SHA_512
    obtain ⟨_, _, ⟨T24, L24, k24, n24⟩, -, X24, ⟨Lc24, hQ24, l24, y24, z24⟩, st24⟩ := X23.virtualBack hx (y := (⟨"com/example/keyturn/keyturn/signing/JarDigestAlgorithm", "hasHeaders", "()Z"⟩ : MethodName)) (z := (⟨"com/example/keyturn/keyturn/signing/JarDigestAlgorithm", "hasHeaders", "()Z"⟩ : MethodName)) hown (mvT hZ (hw _ (List.mem_of_getElem? (i := 4) rfl))) (mvT hZ (hw _ (List.mem_of_getElem? (i := 5) rfl))) (notFace_of_selects (args := #[]) (mvT hZ (hw _ (List.mem_of_getElem? (i := 7) rfl)))) (mvT hZ (hw _ (List.mem_of_getElem? (i := 7) rfl))) (mvT hZ (hw _ (List.mem_of_getElem? (i := 6) rfl))) (by decide) (backOf (W := 0) (rmY l Z a0 hw [] w_SHA_512 w_SHA_512_headerName h0 n0 Z0 F_SHA_512_headerName) hZ (hw _ (List.mem_of_getElem? (i := 8) rfl)) (hw _ (List.mem_of_getElem? (i := 2) rfl)) (by decide) (by decide)) q24a q24c (g := (mkF m 84 #[.val (.int p1), .val (.int (5 : Int32)), .val (.ref w_SHA_512), .val (.int (1 : Int32)), .unset, .unset] [(.ref w_SHA_512)])) rfl (by rw [hml]; rfl) (Steps.refl _) (argsL := []) (rest := []) (lenOf pd_rm0_0 rfl) rfl (by show 2 * 0 + _ ≤ _; exact Nat.le_of_eq rfl) (hb hby at_84) (fun _ _ => ⟨rfl, e23, (by decide : 0 + 0 ≤ _), (by decide : 0 + 0 ≤ _)⟩)
    dsimp only [Pt.U, Pt.locs, Pt.cells, Pt.slots] at X24 l24 y24 z24 st24 hQ24
    subst l24 y24 z24
    obtain ⟨rfl, N24q, hE24⟩ := hQ24
    have N24 := Fr.app N0 N24q
    obtain ⟨cq25, kq25, q25a, q25b, q25c⟩ := isOf hZ hE24 E_SHA_512
    obtain ⟨_, _, ⟨T25, L25, k25, n25⟩, -, X25, ⟨Lc25, hQ25, l25, y25, z25⟩, st25⟩ := X24.virtualBack hx (y := (⟨"com/example/keyturn/keyturn/signing/JarDigestAlgorithm", "getHeaderName", "()Ljava/lang/String;"⟩ : MethodName)) (z := (⟨"com/example/keyturn/keyturn/signing/JarDigestAlgorithm", "getHeaderName", "()Ljava/lang/String;"⟩ : MethodName)) hown (mvT hZ (hw _ (List.mem_of_getElem? (i := 13) rfl))) (mvT hZ (hw _ (List.mem_of_getElem? (i := 14) rfl))) (notFace_of_selects (args := #[]) (mvT hZ (hw _ (List.mem_of_getElem? (i := 16) rfl)))) (mvT hZ (hw _ (List.mem_of_getElem? (i := 16) rfl))) (mvT hZ (hw _ (List.mem_of_getElem? (i := 15) rfl))) (by decide) (backOf (W := 0) (rmG l Z a0 hw [] w_SHA_512 w_SHA_512_headerName h0 n0 Z0 F_SHA_512_headerName) hZ (hw _ (List.mem_of_getElem? (i := 17) rfl)) (hw _ (List.mem_of_getElem? (i := 2) rfl)) (by decide) (by decide)) q25a q25c (g := (mkF m 103 #[.val (.int p1), .val (.int (5 : Int32)), .val (.ref w_SHA_512), .val (.int (1 : Int32)), .val (.int (1 : Int32)), .unset] [(.ref w_SHA_512)])) rfl (by rw [hml]; rfl) (Steps.refl _) (argsL := []) (rest := []) (lenOf pd_rm0_1 rfl) rfl (by show 2 * 0 + _ ≤ _; exact Nat.le_of_eq rfl) (hb hby at_103) (fun _ _ => ⟨rfl, hE24, (by decide : 0 + 0 ≤ _), (by decide : 0 + 0 ≤ _)⟩)
    dsimp only [Pt.U, Pt.locs, Pt.cells, Pt.slots] at X25 l25 y25 z25 st25 hQ25
    subst l25 y25 z25
    obtain ⟨rfl, N25q, hE25⟩ := hQ25
    have N25 := Fr.app N24 N25q
    obtain ⟨cq26, kq26, q26a, q26b, q26c⟩ := isOf hZ hE25 E_SHA_512_headerName
    obtain ⟨_, _, ⟨T26, L26, k26, n26⟩, -, X26, ⟨Lc26, hQ26, l26, y26, z26⟩, st26⟩ := X25.virtualBack hx (y := (⟨"java/lang/String", "isEmpty", "()Z"⟩ : MethodName)) (z := (⟨"java/lang/String", "isEmpty", "()Z"⟩ : MethodName)) hown (mvT hZ (hw _ (List.mem_of_getElem? (i := 18) rfl))) (mvT hZ (hw _ (List.mem_of_getElem? (i := 19) rfl))) (notFace_of_selects (args := #[]) (mvT hZ (hw _ (List.mem_of_getElem? (i := 21) rfl)))) (mvT hZ (hw _ (List.mem_of_getElem? (i := 21) rfl))) (mvT hZ (hw _ (List.mem_of_getElem? (i := 20) rfl))) (by decide) (backOf (W := 0) (rmE l Z a0 hw [] w_SHA_512_headerName w_SHA_512_headerName_value cl_SHA_512_headerName_value (7 : Int32) h0 n0 Z0 F_SHA_512_headerName_value A_SHA_512_headerName_value l_SHA_512_headerName_value (by decide)) hZ (hw _ (List.mem_of_getElem? (i := 23) rfl)) (hw _ (List.mem_of_getElem? (i := 22) rfl)) (by decide) (by decide)) q26a q26c (g := (mkF m 110 #[.val (.int p1), .val (.int (5 : Int32)), .val (.ref w_SHA_512), .val (.int (1 : Int32)), .val (.int (1 : Int32)), .val (.ref w_SHA_512_headerName)] [(.ref w_SHA_512_headerName)])) rfl (by rw [hml]; rfl) (Steps.refl _) (argsL := []) (rest := []) (lenOf pd_rm0_0 rfl) rfl (by show 2 * 0 + _ ≤ _; exact Nat.le_of_eq rfl) (hb hby at_110) (fun _ _ => ⟨rfl, hE25, (by decide : 0 + 0 ≤ _), (by decide : 0 + 0 ≤ _)⟩)
    dsimp only [Pt.U, Pt.locs, Pt.cells, Pt.slots] at X26 l26 y26 z26 st26 hQ26
    subst l26 y26 z26
    obtain ⟨rfl, N26q, hE26⟩ := hQ26
    have N26 := Fr.app N25 N26q
    have pre27 : ∀ tt, Steps p.tables e below (T26.setTop (mkF m 121 #[.val (.int p1), .val (.int (5 : Int32)), .val (.ref w_SHA_512), .val (.int (1 : Int32)), .val (.int (1 : Int32)), .val (.ref w_SHA_512_headerName)] [(.int (1 : Int32))])) tt → Steps p.tables e below (s₁.setTop (entryFrame m #[(.int p1)] maxLocals)) tt := by
      intro tt kt
      refine pre1 tt ?_
      show Steps p.tables e below (s₁.setTop (mkF m 7 #[.val (.int p1), .unset, .unset, .unset, .unset, .unset] [(.int (5 : Int32))])) _
      refine XS.istoreN X0.here hx rfl (hb hby at_7) rfl (l' := #[.val (.int p1), .val (.int (5 : Int32)), .unset, .unset, .unset, .unset]) rfl ?_
      show Steps p.tables e below (s₁.setTop (mkF m 8 #[.val (.int p1), .val (.int (5 : Int32)), .unset, .unset, .unset, .unset] [])) _
      refine XS.iloadN X0.here hx rfl (hb hby at_8) rfl ?_
      show Steps p.tables e below (s₁.setTop (mkF m 9 #[.val (.int p1), .val (.int (5 : Int32)), .unset, .unset, .unset, .unset] [(.int (5 : Int32))])) _
      refine XS.ifYes X0.here hx rfl (pc0 := 9) (pc' := 21) rfl (hb hby at_9) rfl ((if0 _ _).trans (feq (by decide : ¬ ((5 : Int32) = (0 : Int32)))).2) (by decide) (by decide) ?_
      show Steps p.tables e below (s₁.setTop (mkF m 21 #[.val (.int p1), .val (.int (5 : Int32)), .unset, .unset, .unset, .unset] [])) _
      refine XS.iloadN X0.here hx rfl (hb hby at_21) rfl ?_
      show Steps p.tables e below (s₁.setTop (mkF m 22 #[.val (.int p1), .val (.int (5 : Int32)), .unset, .unset, .unset, .unset] [(.int (5 : Int32))])) _
      refine XS.iconst X0.here hx rfl (hb hby at_22) ?_
      show Steps p.tables e below (s₁.setTop (mkF m 23 #[.val (.int p1), .val (.int (5 : Int32)), .unset, .unset, .unset, .unset] [(.int (1 : Int32)), (.int (5 : Int32))])) _
      refine XS.icmpYes X0.here hx rfl (pc0 := 23) (pc' := 35) rfl (hb hby at_23) rfl (feq (by decide : ¬ ((5 : Int32) = (1 : Int32)))).2 (by decide) (by decide) ?_
      show Steps p.tables e below (s₁.setTop (mkF m 35 #[.val (.int p1), .val (.int (5 : Int32)), .unset, .unset, .unset, .unset] [])) _
      refine XS.iloadN X0.here hx rfl (hb hby at_35) rfl ?_
      show Steps p.tables e below (s₁.setTop (mkF m 36 #[.val (.int p1), .val (.int (5 : Int32)), .unset, .unset, .unset, .unset] [(.int (5 : Int32))])) _
      refine XS.iconst X0.here hx rfl (hb hby at_36) ?_
      show Steps p.tables e below (s₁.setTop (mkF m 37 #[.val (.int p1), .val (.int (5 : Int32)), .unset, .unset, .unset, .unset] [(.int (2 : Int32)), (.int (5 : Int32))])) _
      refine XS.icmpYes X0.here hx rfl (pc0 := 37) (pc' := 49) rfl (hb hby at_37) rfl (feq (by decide : ¬ ((5 : Int32) = (2 : Int32)))).2 (by decide) (by decide) ?_
      show Steps p.tables e below (s₁.setTop (mkF m 49 #[.val (.int p1), .val (.int (5 : Int32)), .unset, .unset, .unset, .unset] [])) _
      refine XS.iloadN X0.here hx rfl (hb hby at_49) rfl ?_
      show Steps p.tables e below (s₁.setTop (mkF m 50 #[.val (.int p1), .val (.int (5 : Int32)), .unset, .unset, .unset, .unset] [(.int (5 : Int32))])) _
      refine XS.iconst X0.here hx rfl (hb hby at_50) ?_
      show Steps p.tables e below (s₁.setTop (mkF m 51 #[.val (.int p1), .val (.int (5 : Int32)), .unset, .unset, .unset, .unset] [(.int (3 : Int32)), (.int (5 : Int32))])) _
      refine XS.icmpYes X0.here hx rfl (pc0 := 51) (pc' := 63) rfl (hb hby at_51) rfl (feq (by decide : ¬ ((5 : Int32) = (3 : Int32)))).2 (by decide) (by decide) ?_
      show Steps p.tables e below (s₁.setTop (mkF m 63 #[.val (.int p1), .val (.int (5 : Int32)), .unset, .unset, .unset, .unset] [])) _
      refine XS.iloadN X0.here hx rfl (hb hby at_63) rfl ?_
      show Steps p.tables e below (s₁.setTop (mkF m 64 #[.val (.int p1), .val (.int (5 : Int32)), .unset, .unset, .unset, .unset] [(.int (5 : Int32))])) _
      refine XS.iconst X0.here hx rfl (hb hby at_64) ?_
      show Steps p.tables e below (s₁.setTop (mkF m 65 #[.val (.int p1), .val (.int (5 : Int32)), .unset, .unset, .unset, .unset] [(.int (4 : Int32)), (.int (5 : Int32))])) _
      refine XS.icmpYes X0.here hx rfl (pc0 := 65) (pc' := 77) rfl (hb hby at_65) rfl (feq (by decide : ¬ ((5 : Int32) = (4 : Int32)))).2 (by decide) (by decide) ?_
      show Steps p.tables e below (s₁.setTop (mkF m 77 #[.val (.int p1), .val (.int (5 : Int32)), .unset, .unset, .unset, .unset] [])) _
      refine st23 _ ?_
      show Steps p.tables e below (T23.setTop (mkF m 80 #[.val (.int p1), .val (.int (5 : Int32)), .unset, .unset, .unset, .unset] [(.ref w_SHA_512)])) _
      refine XS.astoreN X23.here hx rfl (hb hby at_80) rfl rfl (l' := #[.val (.int p1), .val (.int (5 : Int32)), .val (.ref w_SHA_512), .unset, .unset, .unset]) rfl ?_
      show Steps p.tables e below (T23.setTop (mkF m 81 #[.val (.int p1), .val (.int (5 : Int32)), .val (.ref w_SHA_512), .unset, .unset, .unset] [])) _
      refine XS.iconst X23.here hx rfl (hb hby at_81) ?_
      show Steps p.tables e below (T23.setTop (mkF m 82 #[.val (.int p1), .val (.int (5 : Int32)), .val (.ref w_SHA_512), .unset, .unset, .unset] [(.int (1 : Int32))])) _
      refine XS.istoreN X23.here hx rfl (hb hby at_82) rfl (l' := #[.val (.int p1), .val (.int (5 : Int32)), .val (.ref w_SHA_512), .val (.int (1 : Int32)), .unset, .unset]) rfl ?_
      show Steps p.tables e below (T23.setTop (mkF m 83 #[.val (.int p1), .val (.int (5 : Int32)), .val (.ref w_SHA_512), .val (.int (1 : Int32)), .unset, .unset] [])) _
      refine XS.aloadN X23.here hx rfl (hb hby at_83) rfl rfl ?_
      show Steps p.tables e below (T23.setTop (mkF m 84 #[.val (.int p1), .val (.int (5 : Int32)), .val (.ref w_SHA_512), .val (.int (1 : Int32)), .unset, .unset] [(.ref w_SHA_512)])) _
      refine st24.trans ?_
      show Steps p.tables e below (T24.setTop (mkF m 87 #[.val (.int p1), .val (.int (5 : Int32)), .val (.ref w_SHA_512), .val (.int (1 : Int32)), .unset, .unset] [(.int (1 : Int32))])) _
      refine XS.istore X24.here hx rfl (hb hby at_87) rfl (l' := #[.val (.int p1), .val (.int (5 : Int32)), .val (.ref w_SHA_512), .val (.int (1 : Int32)), .val (.int (1 : Int32)), .unset]) rfl ?_
      show Steps p.tables e below (T24.setTop (mkF m 89 #[.val (.int p1), .val (.int (5 : Int32)), .val (.ref w_SHA_512), .val (.int (1 : Int32)), .val (.int (1 : Int32)), .unset] [])) _
      refine XS.iload X24.here hx rfl (hb hby at_89) rfl ?_
      show Steps p.tables e below (T24.setTop (mkF m 91 #[.val (.int p1), .val (.int (5 : Int32)), .val (.ref w_SHA_512), .val (.int (1 : Int32)), .val (.int (1 : Int32)), .unset] [(.int (1 : Int32))])) _
      refine XS.iloadN X24.here hx rfl (hb hby at_91) rfl ?_
      show Steps p.tables e below (T24.setTop (mkF m 92 #[.val (.int p1), .val (.int (5 : Int32)), .val (.ref w_SHA_512), .val (.int (1 : Int32)), .val (.int (1 : Int32)), .unset] [(.int (1 : Int32)), (.int (1 : Int32))])) _
      refine XS.icmpYes X24.here hx rfl (pc0 := 92) (pc' := 97) rfl (hb hby at_92) rfl (teq (rfl : (1 : Int32) = (1 : Int32))).1 (by decide) (by decide) ?_
      show Steps p.tables e below (T24.setTop (mkF m 97 #[.val (.int p1), .val (.int (5 : Int32)), .val (.ref w_SHA_512), .val (.int (1 : Int32)), .val (.int (1 : Int32)), .unset] [])) _
      refine XS.iload X24.here hx rfl (hb hby at_97) rfl ?_
      show Steps p.tables e below (T24.setTop (mkF m 99 #[.val (.int p1), .val (.int (5 : Int32)), .val (.ref w_SHA_512), .val (.int (1 : Int32)), .val (.int (1 : Int32)), .unset] [(.int (1 : Int32))])) _
      refine XS.ifNo X24.here hx rfl (hb hby at_99) rfl ((if0 _ _).trans (feq (by decide : ¬ ((1 : Int32) = (0 : Int32)))).1) ?_
      show Steps p.tables e below (T24.setTop (mkF m 102 #[.val (.int p1), .val (.int (5 : Int32)), .val (.ref w_SHA_512), .val (.int (1 : Int32)), .val (.int (1 : Int32)), .unset] [])) _
      refine XS.aloadN X24.here hx rfl (hb hby at_102) rfl rfl ?_
      show Steps p.tables e below (T24.setTop (mkF m 103 #[.val (.int p1), .val (.int (5 : Int32)), .val (.ref w_SHA_512), .val (.int (1 : Int32)), .val (.int (1 : Int32)), .unset] [(.ref w_SHA_512)])) _
      refine st25.trans ?_
      show Steps p.tables e below (T25.setTop (mkF m 106 #[.val (.int p1), .val (.int (5 : Int32)), .val (.ref w_SHA_512), .val (.int (1 : Int32)), .val (.int (1 : Int32)), .unset] [(.ref w_SHA_512_headerName)])) _
      refine XS.astore X25.here hx rfl (hb hby at_106) rfl rfl (l' := #[.val (.int p1), .val (.int (5 : Int32)), .val (.ref w_SHA_512), .val (.int (1 : Int32)), .val (.int (1 : Int32)), .val (.ref w_SHA_512_headerName)]) rfl ?_
      show Steps p.tables e below (T25.setTop (mkF m 108 #[.val (.int p1), .val (.int (5 : Int32)), .val (.ref w_SHA_512), .val (.int (1 : Int32)), .val (.int (1 : Int32)), .val (.ref w_SHA_512_headerName)] [])) _
      refine XS.aload X25.here hx rfl (hb hby at_108) rfl rfl ?_
      show Steps p.tables e below (T25.setTop (mkF m 110 #[.val (.int p1), .val (.int (5 : Int32)), .val (.ref w_SHA_512), .val (.int (1 : Int32)), .val (.int (1 : Int32)), .val (.ref w_SHA_512_headerName)] [(.ref w_SHA_512_headerName)])) _
      refine st26.trans ?_
      show Steps p.tables e below (T26.setTop (mkF m 113 #[.val (.int p1), .val (.int (5 : Int32)), .val (.ref w_SHA_512), .val (.int (1 : Int32)), .val (.int (1 : Int32)), .val (.ref w_SHA_512_headerName)] [(.int (0 : Int32))])) _
      refine XS.ifNo X26.here hx rfl (hb hby at_113) rfl ((if0 _ _).trans (teq (rfl : (0 : Int32) = (0 : Int32))).2) ?_
      show Steps p.tables e below (T26.setTop (mkF m 116 #[.val (.int p1), .val (.int (5 : Int32)), .val (.ref w_SHA_512), .val (.int (1 : Int32)), .val (.int (1 : Int32)), .val (.ref w_SHA_512_headerName)] [])) _
      refine XS.iconst X26.here hx rfl (hb hby at_116) ?_
      show Steps p.tables e below (T26.setTop (mkF m 117 #[.val (.int p1), .val (.int (5 : Int32)), .val (.ref w_SHA_512), .val (.int (1 : Int32)), .val (.int (1 : Int32)), .val (.ref w_SHA_512_headerName)] [(.int (1 : Int32))])) _
      refine XS.goto X26.here hx rfl (pc0 := 117) (pc' := 121) rfl (hb hby at_117) (by decide) (by decide) ?_
      exact kt
    obtain ⟨fs, hr, hrun, hended, hW, hsame⟩ := X26.leave (v := some (.int (1 : Int32))) (fun h => by rw [Bd.returns] at h; cases h)
    refine ⟨_, _, pre27 _ ?_, hrun, hended, _, _, rfl, ?_, ⟨_, rfl⟩, hW, hsame.mono (by decide) (by decide)⟩
    · show Steps p.tables e below (T26.setTop (mkF m 121 #[.val (.int p1), .val (.int (5 : Int32)), .val (.ref w_SHA_512), .val (.int (1 : Int32)), .val (.int (1 : Int32)), .val (.ref w_SHA_512_headerName)] [(.int (1 : Int32))])) _
      exact retN X26 hx (t := .boolean) Bd.returns (by simp) (hb hby at_121) hr
    · show Q0 Z h0 n0 _ T26.heap _
      rw [hE26]
      exact ⟨rfl, N26⟩
set_option maxRecDepth 65536 in
set_option maxHeartbeats 40000000 in
theorem comes_1 {Post : Tables → Env → Array Value → State → Outcome → State → Prop} (hpost : ∀ tb e args s v u, (limb_1_1.after args s (.returned v) u = true ∧ limb_1_2.after args s (.returned v) u = true ∧ True) → FrameEnd s (.returned v) u (Jvm.fieldLocs frame_1_writes args s ++ Jvm.arrayLocs frame_1_arrays args s ++ Jvm.staticLocs frame_1_statics s) 0 0 → Post tb e args s (.returned v) u) :
    ArmFor flags0 classFile x code maxLocals ret World_1 tables_1 room_1 Calls_1 rest_1 Pre_1 Post := by
  intro l hfl _ _ p e ha hc hk s m args below hf hA hF happ hP
  obtain ⟨hcalls, hrest, hpre⟩ := hP
  obtain ⟨-, -, -, hnamed, -, -, -, hat⟩ := (Spec.applies_iff hf).mp happ
  obtain ⟨hg, hn⟩ := and_e (Cond.before_iff.mp (show (Jvm.Cond.and given_1 narrow_1).before args s = true from hpre))
  have hw := fun d (hd : d ∈ tables_1) => atoms_spec (ws := Jvm.Cond.code x code maxLocals ret :: tables_1) hat d (List.mem_cons_of_mem _ hd)
  obtain ⟨g1a, g1b⟩ := and_e hg
  obtain ⟨w0, rfl⟩ : ∃ w0 : Value, args = #[w0] := by
    have hs : args.size = 1 := by simpa [Cond.value, given_1] using g1a
    obtain ⟨L⟩ := args
    match L, hs with
    | [w0], _ => exact ⟨w0, rfl⟩
  have hfit : Fit s := fun {y c} hc i hi => by
    obtain ⟨ha, rfl⟩ := Array.getElem?_eq_some_iff.mp hc
    have q := List.all_eq_true.mp ((Array.all_eq_true_iff_forall_mem.mp hF) _ (Array.getElem_mem ha)) i (List.mem_range.mpr hi)
    simpa [Array.getElem?_eq_getElem hi] using q
  obtain ⟨i0, ei0⟩ := is_v g1b
  obtain rfl : w0 = (.int i0) := Option.some.inj ei0
  obtain ⟨n1a, n1b⟩ := and_e hn
  obtain ⟨w_MD5, ev_MD5⟩ := exa_v n1a
  have S_MD5 := Sta.start ev_MD5 (Or.inr ⟨(hw _ (List.mem_of_getElem? (i := 2) rfl)), (hw _ (List.mem_of_getElem? (i := 3) rfl))⟩)
  have E_MD5 := Exa.start ev_MD5 n1a
  obtain ⟨n2a, n2b⟩ := and_e n1b
  have F_MD5_headerName := own_fldN ev_MD5 n2a
  obtain ⟨n3a, n3b⟩ := and_e n2b
  obtain ⟨w_SHA_256, ev_SHA_256⟩ := exa_v n3a
  have S_SHA_256 := Sta.start ev_SHA_256 (Or.inr ⟨(hw _ (List.mem_of_getElem? (i := 2) rfl)), (hw _ (List.mem_of_getElem? (i := 12) rfl))⟩)
  have E_SHA_256 := Exa.start ev_SHA_256 n3a
  obtain ⟨n4a, n4b⟩ := and_e n3b
  obtain ⟨w_SHA_256_headerName, ev_SHA_256_headerName⟩ := exa_v n4a
  have F_SHA_256_headerName := Fld.start ((fld_at ev_SHA_256).symm.trans ev_SHA_256_headerName)
  have E_SHA_256_headerName := Exa.start ev_SHA_256_headerName n4a
  obtain ⟨n5a, n5b⟩ := and_e n4b
  obtain ⟨w_SHA_256_headerName_value, ev_SHA_256_headerName_value⟩ := arr_v n5a
  have F_SHA_256_headerName_value := Fld.start ((fld_at ev_SHA_256_headerName).symm.trans ev_SHA_256_headerName_value)
  obtain ⟨cl_SHA_256_headerName_value, A_SHA_256_headerName_value⟩ := Arr.start ev_SHA_256_headerName_value n5a
  obtain ⟨n6a, n6b⟩ := and_e n5b
  have l_SHA_256_headerName_value := own_len ev_SHA_256_headerName_value A_SHA_256_headerName_value n6a
  obtain ⟨n7a, n7b⟩ := and_e n6b
  obtain ⟨w_SHA_224, ev_SHA_224⟩ := exa_v n7a
  have S_SHA_224 := Sta.start ev_SHA_224 (Or.inr ⟨(hw _ (List.mem_of_getElem? (i := 2) rfl)), (hw _ (List.mem_of_getElem? (i := 27) rfl))⟩)
  have E_SHA_224 := Exa.start ev_SHA_224 n7a
  obtain ⟨n8a, n8b⟩ := and_e n7b
  have F_SHA_224_headerName := own_fldN ev_SHA_224 n8a
  obtain ⟨n9a, n9b⟩ := and_e n8b
  obtain ⟨w_SHA1, ev_SHA1⟩ := exa_v n9a
  have S_SHA1 := Sta.start ev_SHA1 (Or.inr ⟨(hw _ (List.mem_of_getElem? (i := 2) rfl)), (hw _ (List.mem_of_getElem? (i := 29) rfl))⟩)
  have E_SHA1 := Exa.start ev_SHA1 n9a
  obtain ⟨n10a, n10b⟩ := and_e n9b
  obtain ⟨w_SHA1_headerName, ev_SHA1_headerName⟩ := exa_v n10a
  have F_SHA1_headerName := Fld.start ((fld_at ev_SHA1).symm.trans ev_SHA1_headerName)
  have E_SHA1_headerName := Exa.start ev_SHA1_headerName n10a
  obtain ⟨n11a, n11b⟩ := and_e n10b
  obtain ⟨w_SHA1_headerName_value, ev_SHA1_headerName_value⟩ := arr_v n11a
  have F_SHA1_headerName_value := Fld.start ((fld_at ev_SHA1_headerName).symm.trans ev_SHA1_headerName_value)
  obtain ⟨cl_SHA1_headerName_value, A_SHA1_headerName_value⟩ := Arr.start ev_SHA1_headerName_value n11a
  obtain ⟨n12a, n12b⟩ := and_e n11b
  have l_SHA1_headerName_value := own_len ev_SHA1_headerName_value A_SHA1_headerName_value n12a
  obtain ⟨n13a, n13b⟩ := and_e n12b
  obtain ⟨w_SHA_512, ev_SHA_512⟩ := exa_v n13a
  have S_SHA_512 := Sta.start ev_SHA_512 (Or.inr ⟨(hw _ (List.mem_of_getElem? (i := 2) rfl)), (hw _ (List.mem_of_getElem? (i := 31) rfl))⟩)
  have E_SHA_512 := Exa.start ev_SHA_512 n13a
  obtain ⟨n14a, n14b⟩ := and_e n13b
  obtain ⟨w_SHA_512_headerName, ev_SHA_512_headerName⟩ := exa_v n14a
  have F_SHA_512_headerName := Fld.start ((fld_at ev_SHA_512).symm.trans ev_SHA_512_headerName)
  have E_SHA_512_headerName := Exa.start ev_SHA_512_headerName n14a
  obtain ⟨n15a, n15b⟩ := and_e n14b
  obtain ⟨w_SHA_512_headerName_value, ev_SHA_512_headerName_value⟩ := arr_v n15a
  have F_SHA_512_headerName_value := Fld.start ((fld_at ev_SHA_512_headerName).symm.trans ev_SHA_512_headerName_value)
  obtain ⟨cl_SHA_512_headerName_value, A_SHA_512_headerName_value⟩ := Arr.start ev_SHA_512_headerName_value n15a
  obtain ⟨n16a, n16b⟩ := and_e n15b
  have l_SHA_512_headerName_value := own_len ev_SHA_512_headerName_value A_SHA_512_headerName_value n16a
  obtain ⟨n17a, n17b⟩ := and_e n16b
  obtain ⟨w_SHA_384, ev_SHA_384⟩ := exa_v n17a
  have S_SHA_384 := Sta.start ev_SHA_384 (Or.inr ⟨(hw _ (List.mem_of_getElem? (i := 2) rfl)), (hw _ (List.mem_of_getElem? (i := 33) rfl))⟩)
  have E_SHA_384 := Exa.start ev_SHA_384 n17a
  obtain ⟨n18a, n18b⟩ := and_e n17b
  obtain ⟨w_SHA_384_headerName, ev_SHA_384_headerName⟩ := exa_v n18a
  have F_SHA_384_headerName := Fld.start ((fld_at ev_SHA_384).symm.trans ev_SHA_384_headerName)
  have E_SHA_384_headerName := Exa.start ev_SHA_384_headerName n18a
  obtain ⟨n19a, n19b⟩ := and_e n18b
  obtain ⟨w_SHA_384_headerName_value, ev_SHA_384_headerName_value⟩ := arr_v n19a
  have F_SHA_384_headerName_value := Fld.start ((fld_at ev_SHA_384_headerName).symm.trans ev_SHA_384_headerName_value)
  obtain ⟨cl_SHA_384_headerName_value, A_SHA_384_headerName_value⟩ := Arr.start ev_SHA_384_headerName_value n19a
  have l_SHA_384_headerName_value := own_len ev_SHA_384_headerName_value A_SHA_384_headerName_value n19b
  obtain ⟨n, o, h1, h2, h3, _, L, rfl, ⟨rfl, N⟩, hq⟩ := rm0 l s _ hw tables_1 i0 w_MD5 w_SHA1 w_SHA_224 w_SHA_256 w_SHA_384 w_SHA_512 w_SHA1_headerName w_SHA1_headerName_value cl_SHA1_headerName_value w_SHA_256_headerName w_SHA_256_headerName_value cl_SHA_256_headerName_value w_SHA_384_headerName w_SHA_384_headerName_value cl_SHA_384_headerName_value w_SHA_512_headerName w_SHA_512_headerName_value cl_SHA_512_headerName_value s.heap s.heap.size (Nat.le_refl _) S_MD5 S_SHA1 S_SHA_224 S_SHA_256 S_SHA_384 S_SHA_512 E_MD5 E_SHA1 E_SHA_224 E_SHA_256 E_SHA_384 E_SHA_512 F_MD5_headerName F_SHA1_headerName E_SHA1_headerName F_SHA1_headerName_value A_SHA1_headerName_value l_SHA1_headerName_value F_SHA_224_headerName F_SHA_256_headerName E_SHA_256_headerName F_SHA_256_headerName_value A_SHA_256_headerName_value l_SHA_256_headerName_value F_SHA_384_headerName E_SHA_384_headerName F_SHA_384_headerName_value A_SHA_384_headerName_value l_SHA_384_headerName_value F_SHA_512_headerName E_SHA_512_headerName F_SHA_512_headerName_value A_SHA_512_headerName_value l_SHA_512_headerName_value p e ha hc hk s m _ below hf ((Spec.applies_iff_loose hf).mp happ).1 ⟨rfl, State.Warmed39.refl s, rfl⟩ trivial
  refine ⟨n, _, h1, h2, h3, hpost _ _ _ _ _ _ ⟨Cond.after_iff.mpr rfl, Cond.after_iff.mpr (eq_i res_at (Term.int_eval (1)) rfl), trivial⟩ ⟨hq.1, hq.2.1, (hq.2.2.sift fun y hy => Or.inr (N y hy)).mono (by decide) (by decide)⟩⟩
theorem main_1_1 : Claimed_1_1 := comes_1 fun _ _ _ _ _ _ h hF => ⟨h.1, hF⟩
theorem main_1_2 : Claimed_1_2 := comes_1 fun _ _ _ _ _ _ h hF => ⟨h.2.1, hF⟩
end Jvm.Pilot.@@N@@
namespace Jvm.Pilot.@@N@@
open Jvm Jvm.ClassFile Sem Op Lib Jvm.Free Jvm.Stand Jvm.Pilot.@@N@@.Jvm.D
/-! MADE BY PROGRAM (witnessworld.py) out of the Statement's table words and the real class files: 15 classes; the members and pool entries that the words name. The judged class is class 1, her method 1. -/
namespace start1
open Jvm.ClassFile
def u (s : String) : CpInfo := .utf8 (stringToUtf16 s)
/-- a pool by its gaps: so many unusable entries, then the entry; so many at the end -/
def gap : Nat → List CpInfo → List CpInfo
  | 0, r => r
  | n + 1, r => .unusable :: gap n r
def poolList (es : List (Nat × CpInfo)) (last : Nat) : List CpInfo := es.foldr (fun e r => gap e.1 (e.2 :: r)) (gap last [])
def pool (es : List (Nat × CpInfo)) (last : Nat) : Array CpInfo := ⟨poolList es last⟩
def fileOf (pool : Array CpInfo) (this : Nat) (attrs : Array Attribute := #[]) (ms : Array MethodInfo := #[]) (fl : Nat := 33) (sup : Nat := 0) (ifs : Array Nat := #[]) (fds : Array FieldInfo := #[]) : ClassFile where
  minorVersion := 0
  majorVersion := 65
  constantPool := pool
  accessFlags := fl
  thisClass := this
  superClass := sup
  interfaces := ifs
  fields := fds
  methods := ms
  attributes := attrs
def plain (name : String) (sup : Option ClassId) : Class where
  name := name
  kind := .ordinary
  loader := none
  accessFlags := 33
  super := sup
  interfaces := #[]
  cf := none
  fields := #[]
  methods := #[]
  instanceTypes := #[]
  staticTypes := #[]
  resolved := #[]
  callSites := []
  init := .initialized
  statics := none
  mirror := none

def pool0 : Array CpInfo := pool [(5, u "<init>"), (0, u "()V"), (1, .class_ 10), (1, u "java/lang/Object")] 113

def k0m0 : Method := { name := "<init>", desc := "()V", sig := { parameters := [], returnType := none }, accessFlags := 1, code := none }
/-- java/lang/Object -/
def k0 : Class := { plain "java/lang/Object" none with
  accessFlags := 33
  interfaces := #[]
  cf := some (fileOf pool0 8 #[] #[{ accessFlags := 1, nameIndex := 5, descriptorIndex := 6, attributes := #[] }] 33 0 #[] #[])
  fields := #[]
  methods := #[k0m0]
  instanceTypes := #[]
  staticTypes := #[]
  resolved := Array.replicate 124 none
  statics := none }

def pool1 : Array CpInfo := pool [(2, .class_ 4), (1, u "java/lang/Object"), (0, u "<init>"), (0, u "()V"), (0, .integer 2147483647), (0, .fieldref 9 10), (0, .class_ 11), (0, .nameAndType 12 13), (0, u "com/example/keyturn/keyturn/signing/JarDigestAlgorithm"), (0, u "MD5"), (0, u "Lcom/example/keyturn/keyturn/signing/JarDigestAlgorithm;"), (0, .fieldref 9 15), (0, .nameAndType 16 13), (0, u "SHA1"), (0, .fieldref 9 18), (0, .nameAndType 19 13), (0, u "SHA_224"), (0, .fieldref 9 21), (0, .nameAndType 22 13), (0, u "SHA_256"), (0, .fieldref 9 24), (0, .nameAndType 25 13), (0, u "SHA_384"), (0, .fieldref 9 27), (0, .nameAndType 28 13), (0, u "SHA_512"), (0, .methodref 9 30), (0, .nameAndType 31 32), (0, u "hasHeaders"), (0, u "()Z"), (0, .methodref 9 34), (0, .nameAndType 35 36), (0, u "getHeaderName"), (0, u "()Ljava/lang/String;"), (0, .methodref 38 39), (0, .class_ 40), (0, .nameAndType 41 32), (0, u "java/lang/String"), (0, u "isEmpty"), (0, .class_ 43), (0, u "com/example/keyturn/keyturn/signing/JarDigestAlgorithmHasHeadersPinLaw"), (2, u "law"), (0, u "(I)Z")] 3

def k1m0 : Method := { name := "<init>", desc := "()V", sig := { parameters := [], returnType := none }, accessFlags := 1, code := none }
def k1c1 : Code := { maxStack := 2, maxLocals := 6, code := code, exceptionTable := #[], attributes := #[] }
def k1m1 : Method := { name := "law", desc := "(I)Z", sig := { parameters := [.int], returnType := some .boolean }, accessFlags := 9, code := some k1c1 }
/-- com/example/keyturn/keyturn/signing/JarDigestAlgorithmHasHeadersPinLaw -/
def k1 : Class := { plain "com/example/keyturn/keyturn/signing/JarDigestAlgorithmHasHeadersPinLaw" (some 0) with
  accessFlags := 49
  interfaces := #[]
  cf := some (fileOf pool1 42 #[] #[{ accessFlags := 1, nameIndex := 5, descriptorIndex := 6, attributes := #[] }, { accessFlags := 9, nameIndex := 46, descriptorIndex := 47, attributes := #[] }] 49 2 #[] #[])
  fields := #[]
  methods := #[k1m0, k1m1]
  instanceTypes := #[]
  staticTypes := #[]
  resolved := Array.replicate 51 none
  statics := none }

def pool2 : Array CpInfo := pool [(1, .class_ 2), (0, u "java/lang/constant/Constable"), (0, .class_ 4), (0, u "java/lang/Object")] 6

/-- java/lang/constant/Constable -/
def k2 : Class := { plain "java/lang/constant/Constable" (some 0) with
  accessFlags := 1537
  interfaces := #[]
  cf := some (fileOf pool2 1 #[] #[] 1537 3 #[] #[])
  fields := #[]
  methods := #[]
  instanceTypes := #[]
  staticTypes := #[]
  resolved := Array.replicate 11 none
  statics := none }

def pool3 : Array CpInfo := pool [(1, .class_ 2), (0, u "java/lang/Comparable"), (0, .class_ 4), (0, u "java/lang/Object")] 7

/-- java/lang/Comparable -/
def k3 : Class := { plain "java/lang/Comparable" (some 0) with
  accessFlags := 1537
  interfaces := #[]
  cf := some (fileOf pool3 1 #[] #[] 1537 3 #[] #[])
  fields := #[]
  methods := #[]
  instanceTypes := #[]
  staticTypes := #[]
  resolved := Array.replicate 12 none
  statics := none }

def pool4 : Array CpInfo := pool [(1, .class_ 2), (0, u "java/io/Serializable"), (0, .class_ 4), (0, u "java/lang/Object")] 2

/-- java/io/Serializable -/
def k4 : Class := { plain "java/io/Serializable" (some 0) with
  accessFlags := 1537
  interfaces := #[]
  cf := some (fileOf pool4 1 #[] #[] 1537 3 #[] #[])
  fields := #[]
  methods := #[]
  instanceTypes := #[]
  staticTypes := #[]
  resolved := Array.replicate 7 none
  statics := none }

def pool5 : Array CpInfo := pool [(2, .class_ 4), (1, u "java/lang/Enum"), (0, u "name"), (0, u "Ljava/lang/String;"), (2, u "ordinal"), (0, u "I"), (1, .class_ 14), (1, u "java/lang/Object"), (4, u "hash"), (86, .class_ 108), (1, u "java/lang/Enum$EnumDesc"), (2, .class_ 112), (0, u "java/lang/constant/Constable"), (0, .class_ 114), (0, u "java/lang/Comparable"), (0, .class_ 116), (0, u "java/io/Serializable")] 87

/-- java/lang/Enum -/
def k5 : Class := { plain "java/lang/Enum" (some 0) with
  accessFlags := 1057
  interfaces := #[2, 3, 4]
  cf := some (fileOf pool5 2 #[.nestMembers #[106]] #[] 1057 12 #[111, 113, 115] #[{ accessFlags := 18, nameIndex := 5, descriptorIndex := 6, attributes := #[] }, { accessFlags := 18, nameIndex := 9, descriptorIndex := 10, attributes := #[] }, { accessFlags := 2, nameIndex := 19, descriptorIndex := 10, attributes := #[] }])
  fields := #[{ name := "name", type := (.object "java/lang/String"), accessFlags := 18, slot := 0, constantValue := 0 }, { name := "ordinal", type := .int, accessFlags := 18, slot := 1, constantValue := 0 }, { name := "hash", type := .int, accessFlags := 2, slot := 2, constantValue := 0 }]
  methods := #[]
  instanceTypes := #[(.object "java/lang/String"), .int, .int]
  staticTypes := #[]
  resolved := Array.replicate 204 none
  statics := none }

def pool6 : Array CpInfo := pool [(1, .class_ 2), (0, u "com/example/keyturn/keyturn/signing/JarDigestAlgorithm"), (2, u "MD5"), (0, u "Lcom/example/keyturn/keyturn/signing/JarDigestAlgorithm;"), (2, u "SHA1"), (2, u "SHA_224"), (2, u "SHA_256"), (2, u "SHA_384"), (2, u "SHA_512"), (2, u "$VALUES"), (0, u "[Lcom/example/keyturn/keyturn/signing/JarDigestAlgorithm;"), (6, .class_ 34), (1, u "java/lang/Enum"), (6, .fieldref 1 42), (0, .nameAndType 43 44), (0, u "headerName"), (0, u "Ljava/lang/String;"), (2, u "javaName"), (2, u "oid"), (2, u "headerMinSdkVersion"), (0, u "I"), (28, u "hasHeaders"), (0, u "()Z"), (91, u "getHeaderName"), (0, u "()Ljava/lang/String;")] 27

def k6c0 : Code := { maxStack := 1, maxLocals := 1, code := prog_29_method_7_code, exceptionTable := #[], attributes := #[] }
def k6m0 : Method := { name := "hasHeaders", desc := "()Z", sig := { parameters := [], returnType := some .boolean }, accessFlags := 0, code := some k6c0 }
def k6c1 : Code := { maxStack := 3, maxLocals := 1, code := prog_29_method_8_code, exceptionTable := #[], attributes := #[] }
def k6m1 : Method := { name := "getHeaderName", desc := "()Ljava/lang/String;", sig := { parameters := [], returnType := some (.object "java/lang/String") }, accessFlags := 0, code := some k6c1 }
/-- com/example/keyturn/keyturn/signing/JarDigestAlgorithm -/
def k6 : Class := { plain "com/example/keyturn/keyturn/signing/JarDigestAlgorithm" (some 5) with
  accessFlags := 16432
  interfaces := #[]
  cf := some (fileOf pool6 1 #[] #[{ accessFlags := 0, nameIndex := 83, descriptorIndex := 84, attributes := #[] }, { accessFlags := 0, nameIndex := 176, descriptorIndex := 177, attributes := #[] }] 16432 32 #[] #[{ accessFlags := 16409, nameIndex := 5, descriptorIndex := 6, attributes := #[] }, { accessFlags := 16409, nameIndex := 9, descriptorIndex := 6, attributes := #[] }, { accessFlags := 16409, nameIndex := 12, descriptorIndex := 6, attributes := #[] }, { accessFlags := 16409, nameIndex := 15, descriptorIndex := 6, attributes := #[] }, { accessFlags := 16409, nameIndex := 18, descriptorIndex := 6, attributes := #[] }, { accessFlags := 16409, nameIndex := 21, descriptorIndex := 6, attributes := #[] }, { accessFlags := 18, nameIndex := 43, descriptorIndex := 44, attributes := #[] }, { accessFlags := 18, nameIndex := 47, descriptorIndex := 44, attributes := #[] }, { accessFlags := 18, nameIndex := 50, descriptorIndex := 44, attributes := #[] }, { accessFlags := 18, nameIndex := 53, descriptorIndex := 54, attributes := #[] }, { accessFlags := 4122, nameIndex := 24, descriptorIndex := 25, attributes := #[] }])
  fields := #[{ name := "MD5", type := (.object "com/example/keyturn/keyturn/signing/JarDigestAlgorithm"), accessFlags := 16409, slot := 0, constantValue := 0 }, { name := "SHA1", type := (.object "com/example/keyturn/keyturn/signing/JarDigestAlgorithm"), accessFlags := 16409, slot := 1, constantValue := 0 }, { name := "SHA_224", type := (.object "com/example/keyturn/keyturn/signing/JarDigestAlgorithm"), accessFlags := 16409, slot := 2, constantValue := 0 }, { name := "SHA_256", type := (.object "com/example/keyturn/keyturn/signing/JarDigestAlgorithm"), accessFlags := 16409, slot := 3, constantValue := 0 }, { name := "SHA_384", type := (.object "com/example/keyturn/keyturn/signing/JarDigestAlgorithm"), accessFlags := 16409, slot := 4, constantValue := 0 }, { name := "SHA_512", type := (.object "com/example/keyturn/keyturn/signing/JarDigestAlgorithm"), accessFlags := 16409, slot := 5, constantValue := 0 }, { name := "headerName", type := (.object "java/lang/String"), accessFlags := 18, slot := 3, constantValue := 0 }, { name := "javaName", type := (.object "java/lang/String"), accessFlags := 18, slot := 4, constantValue := 0 }, { name := "oid", type := (.object "java/lang/String"), accessFlags := 18, slot := 5, constantValue := 0 }, { name := "headerMinSdkVersion", type := .int, accessFlags := 18, slot := 6, constantValue := 0 }, { name := "$VALUES", type := (.array (.object "com/example/keyturn/keyturn/signing/JarDigestAlgorithm")), accessFlags := 4122, slot := 6, constantValue := 0 }]
  methods := #[k6m0, k6m1]
  instanceTypes := #[(.object "java/lang/String"), .int, .int, (.object "java/lang/String"), (.object "java/lang/String"), (.object "java/lang/String"), .int]
  staticTypes := #[(.object "com/example/keyturn/keyturn/signing/JarDigestAlgorithm"), (.object "com/example/keyturn/keyturn/signing/JarDigestAlgorithm"), (.object "com/example/keyturn/keyturn/signing/JarDigestAlgorithm"), (.object "com/example/keyturn/keyturn/signing/JarDigestAlgorithm"), (.object "com/example/keyturn/keyturn/signing/JarDigestAlgorithm"), (.object "com/example/keyturn/keyturn/signing/JarDigestAlgorithm"), (.array (.object "com/example/keyturn/keyturn/signing/JarDigestAlgorithm"))]
  resolved := Array.replicate 205 none
  statics := some 0 }

def pool7 : Array CpInfo := pool [(2, .class_ 4), (1, u "java/lang/CharSequence"), (42, .class_ 48), (0, u "java/lang/CharSequence$1CodePointIterator"), (10, .class_ 60), (0, u "java/lang/CharSequence$1CharIterator"), (5, .class_ 67), (0, u "java/lang/Object")] 63

/-- java/lang/CharSequence -/
def k7 : Class := { plain "java/lang/CharSequence" (some 0) with
  accessFlags := 1537
  interfaces := #[]
  cf := some (fileOf pool7 2 #[.nestMembers #[47, 59]] #[] 1537 66 #[] #[])
  fields := #[]
  methods := #[]
  instanceTypes := #[]
  staticTypes := #[]
  resolved := Array.replicate 131 none
  statics := none }

def pool8 : Array CpInfo := pool [(1, .class_ 2), (0, u "java/lang/constant/ConstantDesc"), (0, .class_ 4), (0, u "java/lang/Object")] 32

/-- java/lang/constant/ConstantDesc -/
def k8 : Class := { plain "java/lang/constant/ConstantDesc" (some 0) with
  accessFlags := 1537
  interfaces := #[]
  cf := some (fileOf pool8 1 #[] #[] 1537 3 #[] #[])
  fields := #[]
  methods := #[]
  instanceTypes := #[]
  staticTypes := #[]
  resolved := Array.replicate 37 none
  statics := none }

def pool9 : Array CpInfo := pool [(2, .class_ 4), (1, u "java/lang/Object"), (0, u "<init>"), (0, u "()V"), (2, .fieldref 10 11), (0, .class_ 12), (0, .nameAndType 13 14), (0, u "java/lang/String"), (0, u "value"), (0, u "[B"), (2, u "coder"), (0, u "B"), (2, u "hash"), (0, u "I"), (2, u "hashIsZero"), (0, u "Z"), (13, u "COMPACT_STRINGS"), (101, u "()Z"), (432, .class_ 576), (0, u "java/lang/CharSequence"), (22, u "CASE_INSENSITIVE_ORDER"), (0, u "Ljava/util/Comparator;"), (91, u "isEmpty"), (408, u "serialPersistentFields"), (0, u "[Ljava/io/ObjectStreamField;"), (0, .class_ 1104), (0, u "java/lang/String$CaseInsensitiveComparator"), (1, .class_ 1107), (0, u "java/io/Serializable"), (0, .class_ 1109), (0, u "java/lang/Comparable"), (0, .class_ 1111), (0, u "java/lang/constant/Constable"), (0, .class_ 1113), (0, u "java/lang/constant/ConstantDesc"), (2, u "serialVersionUID"), (0, u "J"), (3, u "REPL"), (0, u "C"), (2, u "LATIN1"), (1, u "UTF16")] 323

def k9m0 : Method := { name := "<init>", desc := "()V", sig := { parameters := [], returnType := none }, accessFlags := 1, code := none }
def k9c1 : Code := { maxStack := 1, maxLocals := 1, code := jdk_42_method_55_code, exceptionTable := #[], attributes := #[] }
def k9m1 : Method := { name := "isEmpty", desc := "()Z", sig := { parameters := [], returnType := some .boolean }, accessFlags := 1, code := some k9c1 }
/-- java/lang/String -/
def k9 : Class := { plain "java/lang/String" (some 0) with
  accessFlags := 49
  interfaces := #[4, 3, 7, 2, 8]
  cf := some (fileOf pool9 10 #[.nestMembers #[1103]] #[{ accessFlags := 1, nameIndex := 5, descriptorIndex := 6, attributes := #[] }, { accessFlags := 1, nameIndex := 692, descriptorIndex := 142, attributes := #[] }] 49 2 #[1106, 1108, 575, 1110, 1112] #[{ accessFlags := 18, nameIndex := 13, descriptorIndex := 14, attributes := #[] }, { accessFlags := 18, nameIndex := 17, descriptorIndex := 18, attributes := #[] }, { accessFlags := 2, nameIndex := 21, descriptorIndex := 22, attributes := #[] }, { accessFlags := 2, nameIndex := 25, descriptorIndex := 26, attributes := #[] }, { accessFlags := 26, nameIndex := 1116, descriptorIndex := 1117, attributes := #[] }, { accessFlags := 24, nameIndex := 40, descriptorIndex := 26, attributes := #[] }, { accessFlags := 26, nameIndex := 1101, descriptorIndex := 1102, attributes := #[] }, { accessFlags := 26, nameIndex := 1121, descriptorIndex := 1122, attributes := #[] }, { accessFlags := 25, nameIndex := 599, descriptorIndex := 600, attributes := #[] }, { accessFlags := 24, nameIndex := 1125, descriptorIndex := 18, attributes := #[] }, { accessFlags := 24, nameIndex := 1127, descriptorIndex := 18, attributes := #[] }])
  fields := #[{ name := "value", type := (.array .byte), accessFlags := 18, slot := 0, constantValue := 0 }, { name := "coder", type := .byte, accessFlags := 18, slot := 1, constantValue := 0 }, { name := "hash", type := .int, accessFlags := 2, slot := 2, constantValue := 0 }, { name := "hashIsZero", type := .boolean, accessFlags := 2, slot := 3, constantValue := 0 }, { name := "serialVersionUID", type := .long, accessFlags := 26, slot := 0, constantValue := 0 }, { name := "COMPACT_STRINGS", type := .boolean, accessFlags := 24, slot := 1, constantValue := 0 }, { name := "serialPersistentFields", type := (.array (.object "java/io/ObjectStreamField")), accessFlags := 26, slot := 2, constantValue := 0 }, { name := "REPL", type := .char, accessFlags := 26, slot := 3, constantValue := 0 }, { name := "CASE_INSENSITIVE_ORDER", type := (.object "java/util/Comparator"), accessFlags := 25, slot := 4, constantValue := 0 }, { name := "LATIN1", type := .byte, accessFlags := 24, slot := 5, constantValue := 0 }, { name := "UTF16", type := .byte, accessFlags := 24, slot := 6, constantValue := 0 }]
  methods := #[k9m0, k9m1]
  instanceTypes := #[(.array .byte), .byte, .int, .boolean]
  staticTypes := #[.long, .boolean, (.array (.object "java/io/ObjectStreamField")), .char, (.object "java/util/Comparator"), .byte, .byte]
  resolved := Array.replicate 1451 none
  statics := none }

def pool10 : Array CpInfo := pool [(1, u "java/lang/Cloneable"), (0, .class_ 1), (0, u "java/lang/Object"), (0, .class_ 3)] 3

/-- java/lang/Cloneable -/
def k10 : Class := { plain "java/lang/Cloneable" (some 0) with
  accessFlags := 1537
  interfaces := #[]
  cf := some (fileOf pool10 2 #[] #[] 1537 4 #[] #[])
  fields := #[]
  methods := #[]
  instanceTypes := #[]
  staticTypes := #[]
  resolved := Array.replicate 8 none
  statics := none }

/-- the primitive byte -/
def k11 : Class := { plain "byte" none with kind := .primitive 'B', accessFlags := 0x411 }
/-- [B -/
def k12 : Class := { plain "[B" (some 0) with kind := .array 11 .byte, interfaces := #[10, 4], accessFlags := 1041 }

/-- the primitive int -/
def k13 : Class := { plain "int" none with kind := .primitive 'I', accessFlags := 0x411 }
/-- [I -/
def k14 : Class := { plain "[I" (some 0) with kind := .array 13 .int, interfaces := #[10, 4], accessFlags := 1041 }

def heap : Heap := #[{ cls := 6, slots := #[.ref 1, .ref 2, .ref 3, .ref 4, .ref 5, .ref 6, .null], vm := .statics 6 },
  { cls := 6, slots := #[.null, .int 0, .int 0, .null, .null, .null, .int 0], vm := .none },
  { cls := 6, slots := #[.null, .int 0, .int 0, .ref 7, .null, .null, .int 0], vm := .none },
  { cls := 6, slots := #[.null, .int 0, .int 0, .null, .null, .null, .int 0], vm := .none },
  { cls := 6, slots := #[.null, .int 0, .int 0, .ref 9, .null, .null, .int 0], vm := .none },
  { cls := 6, slots := #[.null, .int 0, .int 0, .ref 11, .null, .null, .int 0], vm := .none },
  { cls := 6, slots := #[.null, .int 0, .int 0, .ref 13, .null, .null, .int 0], vm := .none },
  { cls := 9, slots := #[.ref 8, .int 0, .int 0, .int 0], vm := .none },
  { cls := 12, slots := #[.int 65, .int 65, .int 65, .int 65], vm := .none },
  { cls := 9, slots := #[.ref 10, .int 0, .int 0, .int 0], vm := .none },
  { cls := 12, slots := #[.int 65, .int 65, .int 65, .int 65, .int 65, .int 65, .int 65], vm := .none },
  { cls := 9, slots := #[.ref 12, .int 0, .int 0, .int 0], vm := .none },
  { cls := 12, slots := #[.int 65, .int 65, .int 65, .int 65, .int 65, .int 65, .int 65], vm := .none },
  { cls := 9, slots := #[.ref 14, .int 0, .int 0, .int 0], vm := .none },
  { cls := 12, slots := #[.int 65, .int 65, .int 65, .int 65, .int 65, .int 65, .int 65], vm := .none }]
def classes : Array Class := #[k0, k1, k2, k3, k4, k5, k6, k7, k8, k9, k10, k11, k12, k13, k14]
def interned : List (Array UInt16 × Addr) := []
def slotsUsed : Nat := 90
def theMethod : MethodId := ⟨1, 1⟩
def args0 : Array Value := #[.int 5]
def aboutOver (below : List Frame) : State where
  vm := { classes := classes, interned := interned.toArray }
  heap := heap
  slotsUsed := slotsUsed
  threads := #[{ frames := .invoking theMethod args0 :: below }]
def below0 : List Frame := [.native { method := ⟨0, 0⟩, args := #[] }]
def about1 : State := aboutOver below0
def p0 : Program := .bare "" "" ""
def e0 : Env := launch0.env 0 0 0
theorem w_frames : about1.frames = Frame.invoking theMethod args0 :: below0 := rfl
set_option maxRecDepth 65536 in
theorem w_args : argsFit about1.vm theMethod args0 = true := by decide +kernel
set_option maxRecDepth 65536 in
theorem w_heap : heapFits about1 = true := by decide +kernel
set_option maxRecDepth 65536 in
theorem w_runnable : about1.curStatus? = some .runnable := by decide +kernel
set_option maxRecDepth 65536 in
theorem w_alone : about1.alone = true := by decide +kernel
set_option maxRecDepth 65536 in
theorem w_named : about1.methodNamed? x = some theMethod := by decide +kernel
set_option maxRecDepth 65536 in
theorem w_hears : about1.hears theMethod below0 = true := by decide +kernel
set_option maxRecDepth 65536 in
theorem w_ripe : about1.ripe theMethod args0 below0 = true := by decide +kernel
theorem w_running : about1.status = .running := rfl
set_option maxRecDepth 65536 in
theorem w_room : about1.hasRoom e0.platform room_1 = true :=
  launch0.hasRoom_least _ room_1 (by decide +kernel) (by decide +kernel) (by decide +kernel) (by decide +kernel) (by decide +kernel) (by decide +kernel)
theorem allAtoms_all (ts : List Jvm.Cond) (a : Array Jvm.Value) (st : Jvm.State) : (allAtoms ts).before a st = ts.all (fun c => c.before a st) := by
  induction ts with
  | nil => rfl
  | cons c t ih =>
    show (Jvm.Cond.and c (allAtoms t)).before a st = _
    rw [Jvm.Cond.before_and, ih, List.all_cons]
def words1 : List Jvm.Cond := Jvm.Cond.code x code maxLocals ret :: tables_1
/-- a 'code' word, met by the world's own term for the bytes: nothing is compared byte by byte -/
theorem code_word {y : MethodName} {bytes : ByteArray} {mx : Nat} {rt : Option FieldType} {a : Array Value} {s : State} {m : MethodId} {meth : Method} {c : Code} (h1 : s.methodNamed? y = some m) (h2 : s.vm.method? m = some meth) (h3 : meth.code = some c) (h4 : c.code = bytes)
    (h5 : (c.maxLocals == mx && c.exceptionTable.isEmpty && decide (c.maxStack ≤ mostOperands) && decide (meth.sig.returnType = rt) && !meth.locks && decide (parseMethodDescriptor y.desc = some meth.sig)) = true) : (Jvm.Cond.code y bytes mx rt).before a s = true := by
  simp only [Bool.and_eq_true, beq_iff_eq, Bool.not_eq_true', decide_eq_true_eq] at h5
  obtain ⟨⟨⟨⟨⟨g1, g2⟩, g3⟩, g4⟩, g5⟩, g6⟩ := h5
  simp [Cond.before, Cond.holds, Cond.value, h1, h2, h3, h4, g1, g2, g3, g4, g5, g6]
def isCode : Jvm.Cond → Bool
  | .code _ _ _ _ => true
  | _ => false
theorem all_split {L : List Jvm.Cond} {P : Jvm.Cond → Bool} (h1 : L.all (fun c => isCode c || P c) = true) (h2 : ∀ c ∈ L.filter isCode, P c = true) : L.all P = true := by
  refine List.all_eq_true.mpr fun c hc => ?_
  have h := List.all_eq_true.mp h1 c hc
  rcases Bool.eq_false_or_eq_true (isCode c) with hi | hi
  · exact h2 c (List.mem_filter.mpr ⟨hc, hi⟩)
  · simpa [hi] using h
set_option maxRecDepth 65536 in
theorem w_c0 : (Jvm.Cond.code x code maxLocals ret).before args0 about1 = true := code_word (m := ⟨1, 1⟩) (meth := k1m1) (c := k1c1) (by decide +kernel) rfl rfl rfl (by decide +kernel)
set_option maxRecDepth 65536 in
theorem w_c1 : (Jvm.Cond.code ({ cls := "com/example/keyturn/keyturn/signing/JarDigestAlgorithm", name := "hasHeaders", desc := "()Z" } : Jvm.MethodName) prog_29_method_7_code (1 : Nat) (Option.some Jvm.ClassFile.FieldType.boolean)).before args0 about1 = true := code_word (m := ⟨6, 0⟩) (meth := k6m0) (c := k6c0) (by decide +kernel) rfl rfl rfl (by decide +kernel)
set_option maxRecDepth 65536 in
theorem w_c2 : (Jvm.Cond.code ({ cls := "com/example/keyturn/keyturn/signing/JarDigestAlgorithm", name := "getHeaderName", desc := "()Ljava/lang/String;" } : Jvm.MethodName) prog_29_method_8_code (1 : Nat) (Option.some (Jvm.ClassFile.FieldType.object "java/lang/String"))).before args0 about1 = true := code_word (m := ⟨6, 1⟩) (meth := k6m1) (c := k6c1) (by decide +kernel) rfl rfl rfl (by decide +kernel)
set_option maxRecDepth 65536 in
theorem w_c3 : (Jvm.Cond.code ({ cls := "java/lang/String", name := "isEmpty", desc := "()Z" } : Jvm.MethodName) jdk_42_method_55_code (1 : Nat) (Option.some Jvm.ClassFile.FieldType.boolean)).before args0 about1 = true := code_word (m := ⟨9, 1⟩) (meth := k9m1) (c := k9c1) (by decide +kernel) rfl rfl rfl (by decide +kernel)
def codes1 : List Jvm.Cond := [Jvm.Cond.code x code maxLocals ret, Jvm.Cond.code ({ cls := "com/example/keyturn/keyturn/signing/JarDigestAlgorithm", name := "hasHeaders", desc := "()Z" } : Jvm.MethodName) prog_29_method_7_code (1 : Nat) (Option.some Jvm.ClassFile.FieldType.boolean), Jvm.Cond.code ({ cls := "com/example/keyturn/keyturn/signing/JarDigestAlgorithm", name := "getHeaderName", desc := "()Ljava/lang/String;" } : Jvm.MethodName) prog_29_method_8_code (1 : Nat) (Option.some (Jvm.ClassFile.FieldType.object "java/lang/String")), Jvm.Cond.code ({ cls := "java/lang/String", name := "isEmpty", desc := "()Z" } : Jvm.MethodName) jdk_42_method_55_code (1 : Nat) (Option.some Jvm.ClassFile.FieldType.boolean)]
set_option maxRecDepth 65536 in
theorem codes_eq : words1.filter isCode = codes1 := rfl
theorem w_codes : ∀ c ∈ words1.filter isCode, c.before args0 about1 = true := by
  rw [codes_eq]
  intro c hc
  simp only [codes1, List.mem_cons, List.not_mem_nil, or_false] at hc
  rcases hc with rfl | rfl | rfl | rfl
  · exact w_c0
  · exact w_c1
  · exact w_c2
  · exact w_c3
set_option maxRecDepth 65536 in
theorem w_t1 : (words1.take 24).all (fun c => isCode c || c.before args0 about1) = true := by decide +kernel
set_option maxRecDepth 65536 in
theorem w_t2 : (words1.drop 24).all (fun c => isCode c || c.before args0 about1) = true := by decide +kernel
theorem w_tables : (allAtoms (Jvm.Cond.code x code maxLocals ret :: tables_1)).before args0 about1 = true := by
  rw [allAtoms_all]
  show words1.all (fun c => c.before args0 about1) = true
  refine all_split ?_ w_codes
  rw [← List.take_append_drop 24 words1, List.all_append, w_t1, w_t2]
  rfl
set_option maxRecDepth 65536 in
theorem w_case : (Jvm.Cond.and given_1 narrow_1).before args0 about1 = true := by decide +kernel
theorem w_applies : (headSpec (Jvm.Cond.code x code maxLocals ret :: tables_1) room_1).applies x e0.platform about1 = true :=
  (Spec.applies_iff w_frames).mpr ⟨w_running, w_runnable, w_alone, w_named, w_hears, w_ripe, w_room, w_tables⟩
theorem atStart : AtStart classFile x code maxLocals ret World_1 tables_1 room_1 Calls_1 rest_1 Pre_1 launch0 p0 e0 about1 theMethod args0 below0 :=
  ⟨lists_1, trivial, launch0.admits_env _ _ _, launch0.least_env, fairChoices_fair.cas, fairChoices_fair.clock, w_frames, w_args, w_heap, w_applies, trivial, trivial, w_case⟩
end start1
theorem witness_1 : WitnessClaimed_1 := ⟨start1.p0, start1.e0, start1.about1, start1.theMethod, start1.args0, start1.below0, start1.atStart⟩
end Jvm.Pilot.@@N@@
