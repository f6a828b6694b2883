import JvmDerived
import JvmDerived.Pilot.@@N@@Statement
import JvmDerived.Pilot.@@N@@Code
set_option linter.unusedVariables false
set_option linter.unusedSimpArgs false
namespace Jvm.RoadKit
open Sem ClassFile Op Lib Jvm.Stand Jvm.Free Jvm.LawKit
section New
variable {p : Program} {l : Launch} {e : Env} {R : Room} {s : State} {m : MethodId} {args : Array Value} {below : List Frame} {meth : Method} {c : Code} {T : State} {locs : List Loc} {cells slots : Nat}
theorem retI (X : Stand p l e R s m args below meth c T locs cells slots) (hx : p.tables.exec = Jvm.exec) {pc : Nat} {Ls : Array Slot} {z : Int32} {rest : List Value} (hret : meth.sig.returnType = some .int) (hd : decode c.code pc = .ok (.ireturn, 1)) {fs : List Frame}
    (hl : ∀ (f : JFrame) (acts : List Action), f.method = m → f.locked = none → f.entered = [] → (doReturn e (T.setTop f) acts (some (.int z))).1 = T.setFrames fs) : Steps p.tables e below (T.setTop (mkF m pc Ls (.int z :: rest))) (T.setFrames fs) := by
  have hm' : T.vm.method? m = some meth := X.method'
  have hn : narrow .int (.int z) = .int z := rfl
  show Steps p.tables e below (T.setTop { method := m, pc := pc, locals := Ls, stack := _ :: rest, locked := none }) _
  jvm_step X.here [X.here.top, hx, hd, hm', hret, hn]
  first | (intro acts; rw [hl _ acts rfl rfl rfl]) | rw [hl _ _ rfl rfl rfl]
  exact Steps.refl _
end New
end Jvm.RoadKit
namespace Jvm.Pilot.@@N@@
open Jvm Jvm.ClassFile Sem Op Lib Jvm.Free Jvm.Stand Jvm.LawKit Jvm.RoadKit Bundle Jvm.Pilot.@@N@@.Jvm.D
theorem own_retb (z : Int32) (h : z = 0 ∨ z = 1) : narrow .boolean (.int z) = .int z := by rcases h with rfl | rfl <;> rfl
theorem own_rem (x n : Int32) (hn : 0 < n.toInt) : 0 ≤ ((x &&& (2147483647 : Int32)) % n).toInt ∧ ((x &&& (2147483647 : Int32)) % n).toInt < n.toInt := by
  have h1 := c_mask x (2147483647 : Int32) 31 (by decide) (by decide)
  have h2 := (c_iremV (x &&& (2147483647 : Int32)) n).1 (by omega) hn
  exact ⟨h2.1, h2.2.1⟩
theorem own_of3 {k : Int32} (h : 0 ≤ k.toInt ∧ k.toInt < 3) : k = 0 ∨ k = 1 ∨ k = 2 := by
  have h2 : k.toInt = (0 : Int32).toInt ∨ k.toInt = (1 : Int32).toInt ∨ k.toInt = (2 : Int32).toInt := by simp; omega
  simpa only [Int32.toInt_inj] using h2
theorem own_of5 {k : Int32} (h : 0 ≤ k.toInt ∧ k.toInt < 5) : k = 0 ∨ k = 1 ∨ k = 2 ∨ k = 3 ∨ k = 4 := by
  have h2 : k.toInt = (0 : Int32).toInt ∨ k.toInt = (1 : Int32).toInt ∨ k.toInt = (2 : Int32).toInt ∨ k.toInt = (3 : Int32).toInt ∨ k.toInt = (4 : Int32).toInt := by simp; omega
  simpa only [Int32.toInt_inj] using h2
theorem own_of6 {k : Int32} (h : 0 ≤ k.toInt ∧ k.toInt < 6) : k = 0 ∨ k = 1 ∨ k = 2 ∨ k = 3 ∨ k = 4 ∨ k = 5 := by
  have h2 : k.toInt = (0 : Int32).toInt ∨ k.toInt = (1 : Int32).toInt ∨ k.toInt = (2 : Int32).toInt ∨ k.toInt = (3 : Int32).toInt ∨ k.toInt = (4 : Int32).toInt ∨ k.toInt = (5 : Int32).toInt := by simp; omega
  simpa only [Int32.toInt_inj] using h2
theorem own_eqI {args : Array Value} {s : State} {t : Term} {k : Int32} (h : (Jvm.Cond.eq t (.int k)).value args s none s [] = some true) : t.eval args s none [] s = some (.int k) := by
  obtain ⟨u, v, hu, hv, k1, k2⟩ := cmp_v (Or.inl h)
  have hv2 : v = .int k := Option.some.inj (hv.symm.trans (Term.int_eval k))
  subst hv2
  cases u <;> simp [Cond.value, hu, hv] at h
  subst h; exact hu
theorem own_fld {args : Array Value} {s : State} {t : Term} {a : Addr} {C n d : String} {k : Int32} (ev : t.eval args s none [] s = some (.ref a)) (h : (Jvm.Cond.eq (.field t C n d) (.int k)).value args s none s [] = some true) : Fld s s.heap a C n d (.int k) :=
  Fld.start ((fld_at ev).symm.trans (own_eqI h))
theorem own_len {args : Array Value} {s : State} {t : Term} {a : Addr} {cl : Cell} {ty : FieldType} {k : Int32} (ev : t.eval args s none [] s = some (.ref a)) (A : Arr s s.heap a cl ty) (h : (Jvm.Cond.eq (.length t) (.int k)).value args s none s [] = some true) : cl.slots.size.toInt32 = k := by
  obtain ⟨b, c, e1, e2, e3⟩ := Term.length_spec (own_eqI h)
  cases ev.symm.trans e1
  cases (A.fin (Vm.Alike.refl _)).symm.trans e2
  exact (Value.int.inj e3).symm
theorem own_lenlt {args : Array Value} {s : State} {t : Term} {a : Addr} {cl : Cell} {ty : FieldType} {k : Int32} (ev : t.eval args s none [] s = some (.ref a)) (A : Arr s s.heap a cl ty) (h : (Jvm.Cond.eq (.length t) (.int k)).value args s none s [] = some true) : cl.slots.size < 2 ^ 31 := by
  have h1 := own_eqI h
  have h2 := A.fin (Vm.Alike.refl _)
  apply Classical.byContradiction
  intro h3
  simp [Term.eval, ev, h2, h3] at h1
theorem own_elem {args : Array Value} {s : State} {t u : Term} {a b : Addr} {cl : Cell} {ty : FieldType} {j : Int32} (ev : t.eval args s none [] s = some (.ref a)) (A : Arr s s.heap a cl ty) (hu : u.eval args s none [] s = some (.ref b)) (h : (Jvm.Cond.eq (.elem t (.int j)) u).value args s none s [] = some true) : cl.slots[j.toNatClampNeg]? = some (.ref b) := by
  obtain ⟨x, y, hx, hy, -, -⟩ := cmp_v (Or.inl h)
  cases hu.symm.trans hy
  have h2 := (elem_in hx ev (Term.int_eval j) A.1).2
  cases x <;> simp [Cond.value, hx, hy] at h
  subst h; exact h2
theorem own_fldN {args : Array Value} {s : State} {t : Term} {a : Addr} {C n d : String} (ev : t.eval args s none [] s = some (.ref a)) (h : (Jvm.Cond.eq (.field t C n d) .null).value args s none s [] = some true) : Fld s s.heap a C n d .null :=
  Fld.start ((fld_at ev).symm.trans (null_v h))
def QR (Z : State) (r : Addr) (h0 : Heap) (n0 : Nat) (v : Option Value) (h : Heap) (L : List Loc) : Prop := v = some (.ref r) ∧ Fr n0 L ∧ h = h0
theorem d1_0 : decode method_2_code 0 = .ok (.iload_n 0, 1) := by decide +kernel
theorem d1_1 : decode method_2_code 1 = .ok (.ifCond .eq 9, 3) := by decide +kernel
theorem d1_4 : decode method_2_code 4 = .ok (.getstatic 7, 3) := by decide +kernel
theorem d1_7 : decode method_2_code 7 = .ok (.goto 6, 3) := by decide +kernel
theorem d1_10 : decode method_2_code 10 = .ok (.getstatic 13, 3) := by decide +kernel
theorem d1_13 : decode method_2_code 13 = .ok (.areturn, 1) := by decide +kernel
theorem pn_rm1 : plainName "com/example/driftwell/driftwell/VerdictWorstPinLaw" = true := by first | (simp [plainName, overriddenIn]; done) | decide +kernel
theorem ef_rm1 (m : MethodId) (p1 : Int32) : entryFrame m #[(.int p1)] 1 = mkF m 0 #[.val (.int p1)] [] := by first | (simp [entryFrame, mkF, argsToLocals, Value.category]; done) | rfl
set_option maxRecDepth 65536 in
set_option maxHeartbeats 40000000 in
theorem rm1 (l : Launch) (Z : State) (a0 : Array Value) (hw : ∀ d ∈ tables_1, d.before a0 Z = true) (ws : List Jvm.Cond) (p1 : Int32) (w_BREAKING w_COMPATIBLE r : Addr) (h0 : Heap) (n0 : Nat) (Z0 : n0 ≤ h0.size) (S_BREAKING : Sta Z h0 "com/example/driftwell/driftwell/Change$Verdict" "BREAKING" "Lcom/example/driftwell/driftwell/Change$Verdict;" (.ref w_BREAKING)) (S_COMPATIBLE : Sta Z h0 "com/example/driftwell/driftwell/Change$Verdict" "COMPATIBLE" "Lcom/example/driftwell/driftwell/Change$Verdict;" (.ref w_COMPATIBLE)) (hr0 : r = if p1 = (0 : Int32) then w_COMPATIBLE else w_BREAKING) :
    MetFree l (⟨"com/example/driftwell/driftwell/VerdictWorstPinLaw", "pick", "(I)Lcom/example/driftwell/driftwell/Change$Verdict;"⟩ : MethodName) (head1 (Jvm.Cond.code (⟨"com/example/driftwell/driftwell/VerdictWorstPinLaw", "pick", "(I)Lcom/example/driftwell/driftwell/Change$Verdict;"⟩ : MethodName) method_2_code 1 (some (.object "com/example/driftwell/driftwell/Change$Verdict")) :: ws) ({ frames := 0, cells := 0, slots := 0, locals := 0 } : Room)) (fun a U => a = #[(.int p1)] ∧ Z.Warmed39 U.vm ∧ U.heap = h0) (fun _ _ _ _ _ => True) (fun _ U o U' => ∃ v L, o = .returned v ∧ QR Z r h0 n0 v U'.heap L ∧ FrameEnd U o U' L ({ frames := 0, cells := 0, slots := 0, locals := 0 } : Room).cells ({ frames := 0, cells := 0, slots := 0, locals := 0 } : Room).slots) := by
  refine MetFree.of_bodySF (plainFor_of_name pn_rm1) hisR ?_
  intro p e s m args below meth c s₁ Bd hml0 hP hK
  obtain ⟨rfl, hZ, hh⟩ := hP
  have hx := Bd.exec
  have hby := Bd.bytes
  have hml : c.maxLocals = 1 := hml0
  have hown : s.vm.findClass "com/example/driftwell/driftwell/VerdictWorstPinLaw" = some m.cls := findClass_of_methodNamed Bd.named
  have hnm := (name_of_methodNamed Bd.named Bd.method).1
  have X0 : Stand p l e ({ frames := 0, cells := 0, slots := 0, locals := 0 } : Room) s m #[(.int p1)] below meth c s₁ [] 0 0 := Stand.of_body Bd
  have e0 : s₁.heap = h0 := by rw [← hh, Bd.state]; rfl
  have N0 := Fr.nil n0
  have pre0 : ∀ tt, Steps p.tables e below (s₁.setTop (mkF m 0 #[.val (.int p1)] [])) tt → Steps p.tables e below (s₁.setTop (entryFrame m #[(.int p1)] 1)) tt := fun tt kt => castTop (ef_rm1 m p1) kt
  have pre1 : ∀ tt, Steps p.tables e below (s₁.setTop (mkF m 1 #[.val (.int p1)] [(.int p1)])) tt → Steps p.tables e below (s₁.setTop (entryFrame m #[(.int p1)] 1)) tt := by
    intro tt kt
    refine pre0 tt ?_
    show Steps p.tables e below (s₁.setTop (mkF m 0 #[.val (.int p1)] [])) _
    refine XS.iloadN X0.here hx rfl (hb hby d1_0) rfl ?_
    exact kt
  by_cases c1_2 : p1 = (0 : Int32)
  · obtain ⟨T3, X3, e3, st3⟩ := getS2 X0 hx hZ hown (host := "") (Or.inl (hw _ (List.mem_of_getElem? (i := 4) rfl))) Via.refl e0 S_COMPATIBLE (g := (mkF m 10 #[.val (.int p1)] [])) rfl (hb hby d1_10)
    have pre4 : ∀ tt, Steps p.tables e below (T3.setTop (mkF m 13 #[.val (.int p1)] [(.ref w_COMPATIBLE)])) tt → Steps p.tables e below (s₁.setTop (entryFrame m #[(.int p1)] 1)) tt := by
      intro tt kt
      refine pre1 tt ?_
      show Steps p.tables e below (s₁.setTop (mkF m 1 #[.val (.int p1)] [(.int p1)])) _
      refine XS.ifYes X0.here hx rfl (pc0 := 1) (pc' := 10) rfl (hb hby d1_1) rfl ((if0 _ _).trans (teq c1_2).1) (by decide) (by decide) ?_
      show Steps p.tables e below (s₁.setTop (mkF m 10 #[.val (.int p1)] [])) _
      refine st3 _ ?_
      exact kt
    obtain ⟨fs, hr, hrun, hended, hW, hsame⟩ := X3.leave (v := some (.ref w_COMPATIBLE)) (fun h => by rw [Bd.returns] at h; cases h)
    refine ⟨_, _, pre4 _ ?_, hrun, hended, _, _, rfl, ?_, ⟨_, rfl⟩, hW, hsame.mono (by decide) (by decide)⟩
    · show Steps p.tables e below (T3.setTop (mkF m 13 #[.val (.int p1)] [(.ref w_COMPATIBLE)])) _
      jvm_step X3.here [X3.here.top, hx, (hb hby d1_13), X3.method', Bd.returns, Value.isRef, FieldType.isReference]
      first | (intro acts; rw [hr _ acts rfl rfl rfl]) | rw [hr _ _ rfl rfl rfl]
      exact Steps.refl _
    · show QR Z r h0 n0 _ T3.heap _
      rw [e3]
      exact ⟨by rw [hr0, if_pos c1_2], N0, rfl⟩
  · obtain ⟨T5, X5, e5, st5⟩ := getS2 X0 hx hZ hown (host := "") (Or.inl (hw _ (List.mem_of_getElem? (i := 7) rfl))) Via.refl e0 S_BREAKING (g := (mkF m 4 #[.val (.int p1)] [])) rfl (hb hby d1_4)
    have pre6 : ∀ tt, Steps p.tables e below (T5.setTop (mkF m 13 #[.val (.int p1)] [(.ref w_BREAKING)])) tt → Steps p.tables e below (s₁.setTop (entryFrame m #[(.int p1)] 1)) tt := by
      intro tt kt
      refine pre1 tt ?_
      show Steps p.tables e below (s₁.setTop (mkF m 1 #[.val (.int p1)] [(.int p1)])) _
      refine XS.ifNo X0.here hx rfl (hb hby d1_1) rfl ((if0 _ _).trans (feq c1_2).1) ?_
      show Steps p.tables e below (s₁.setTop (mkF m 4 #[.val (.int p1)] [])) _
      refine st5 _ ?_
      show Steps p.tables e below (T5.setTop (mkF m 7 #[.val (.int p1)] [(.ref w_BREAKING)])) _
      refine XS.goto X5.here hx rfl (pc0 := 7) (pc' := 13) rfl (hb hby d1_7) (by decide) (by decide) ?_
      exact kt
    obtain ⟨fs, hr, hrun, hended, hW, hsame⟩ := X5.leave (v := some (.ref w_BREAKING)) (fun h => by rw [Bd.returns] at h; cases h)
    refine ⟨_, _, pre6 _ ?_, hrun, hended, _, _, rfl, ?_, ⟨_, rfl⟩, hW, hsame.mono (by decide) (by decide)⟩
    · show Steps p.tables e below (T5.setTop (mkF m 13 #[.val (.int p1)] [(.ref w_BREAKING)])) _
      jvm_step X5.here [X5.here.top, hx, (hb hby d1_13), X5.method', Bd.returns, Value.isRef, FieldType.isReference]
      first | (intro acts; rw [hr _ acts rfl rfl rfl]) | rw [hr _ _ rfl rfl rfl]
      exact Steps.refl _
    · show QR Z r h0 n0 _ T5.heap _
      rw [e5]
      exact ⟨by rw [hr0, if_neg c1_2], N0, rfl⟩
theorem d2_0 : decode prog_7_method_5_code 0 = .ok (.aload_n 0, 1) := by decide +kernel
theorem d2_1 : decode prog_7_method_5_code 1 = .ok (.getstatic 7, 3) := by decide +kernel
theorem d2_4 : decode prog_7_method_5_code 4 = .ok (.if_acmp .ne 7, 3) := by decide +kernel
theorem d2_7 : decode prog_7_method_5_code 7 = .ok (.aload_n 0, 1) := by decide +kernel
theorem d2_8 : decode prog_7_method_5_code 8 = .ok (.goto 4, 3) := by decide +kernel
theorem d2_11 : decode prog_7_method_5_code 11 = .ok (.aload_n 1, 1) := by decide +kernel
theorem d2_12 : decode prog_7_method_5_code 12 = .ok (.areturn, 1) := by decide +kernel
theorem pn_rm2 : plainName "com/example/driftwell/driftwell/Change$Verdict" = true := by first | (simp [plainName, overriddenIn]; done) | decide +kernel
theorem ef_rm2 (m : MethodId) (a1 : Addr) (a2 : Addr) : entryFrame m #[(.ref a1), (.ref a2)] 2 = mkF m 0 #[.val (.ref a1), .val (.ref a2)] [] := by first | (simp [entryFrame, mkF, argsToLocals, Value.category]; done) | rfl
set_option maxRecDepth 65536 in
set_option maxHeartbeats 40000000 in
theorem rm2 (l : Launch) (Z : State) (a0 : Array Value) (hw : ∀ d ∈ tables_1, d.before a0 Z = true) (ws : List Jvm.Cond) (a1 a2 w_BREAKING r : Addr) (h0 : Heap) (n0 : Nat) (Z0 : n0 ≤ h0.size) (S_BREAKING : Sta Z h0 "com/example/driftwell/driftwell/Change$Verdict" "BREAKING" "Lcom/example/driftwell/driftwell/Change$Verdict;" (.ref w_BREAKING)) (hr0 : r = if a1 = w_BREAKING then a1 else a2) :
    MetFree l (⟨"com/example/driftwell/driftwell/Change$Verdict", "worst", "(Lcom/example/driftwell/driftwell/Change$Verdict;)Lcom/example/driftwell/driftwell/Change$Verdict;"⟩ : MethodName) (head1 (Jvm.Cond.code (⟨"com/example/driftwell/driftwell/Change$Verdict", "worst", "(Lcom/example/driftwell/driftwell/Change$Verdict;)Lcom/example/driftwell/driftwell/Change$Verdict;"⟩ : MethodName) prog_7_method_5_code 2 (some (.object "com/example/driftwell/driftwell/Change$Verdict")) :: ws) ({ frames := 0, cells := 0, slots := 0, locals := 0 } : Room)) (fun a U => a = #[(.ref a1), (.ref a2)] ∧ Z.Warmed39 U.vm ∧ U.heap = h0) (fun _ _ _ _ _ => True) (fun _ U o U' => ∃ v L, o = .returned v ∧ QR Z r h0 n0 v U'.heap L ∧ FrameEnd U o U' L ({ frames := 0, cells := 0, slots := 0, locals := 0 } : Room).cells ({ frames := 0, cells := 0, slots := 0, locals := 0 } : Room).slots) := by
  refine MetFree.of_bodySF (plainFor_of_name pn_rm2) hisR ?_
  intro p e s m args below meth c s₁ Bd hml0 hP hK
  obtain ⟨rfl, hZ, hh⟩ := hP
  have hx := Bd.exec
  have hby := Bd.bytes
  have hml : c.maxLocals = 2 := hml0
  have hown : s.vm.findClass "com/example/driftwell/driftwell/Change$Verdict" = some m.cls := findClass_of_methodNamed Bd.named
  have hnm := (name_of_methodNamed Bd.named Bd.method).1
  have X0 : Stand p l e ({ frames := 0, cells := 0, slots := 0, locals := 0 } : Room) s m #[(.ref a1), (.ref a2)] below meth c s₁ [] 0 0 := Stand.of_body Bd
  have e0 : s₁.heap = h0 := by rw [← hh, Bd.state]; rfl
  have N0 := Fr.nil n0
  have pre0 : ∀ tt, Steps p.tables e below (s₁.setTop (mkF m 0 #[.val (.ref a1), .val (.ref a2)] [])) tt → Steps p.tables e below (s₁.setTop (entryFrame m #[(.ref a1), (.ref a2)] 2)) tt := fun tt kt => castTop (ef_rm2 m a1 a2) kt
  obtain ⟨T1, X1, e1, st1⟩ := getS2 X0 hx hZ hown (host := "") (Or.inl (hw _ (List.mem_of_getElem? (i := 14) rfl))) Via.refl e0 S_BREAKING (g := (mkF m 1 #[.val (.ref a1), .val (.ref a2)] [(.ref a1)])) rfl (hb hby d2_1)
  have pre2 : ∀ tt, Steps p.tables e below (T1.setTop (mkF m 4 #[.val (.ref a1), .val (.ref a2)] [(.ref w_BREAKING), (.ref a1)])) tt → Steps p.tables e below (s₁.setTop (entryFrame m #[(.ref a1), (.ref a2)] 2)) tt := by
    intro tt kt
    refine pre0 tt ?_
    show Steps p.tables e below (s₁.setTop (mkF m 0 #[.val (.ref a1), .val (.ref a2)] [])) _
    refine XS.aloadN X0.here hx rfl (hb hby d2_0) rfl rfl ?_
    show Steps p.tables e below (s₁.setTop (mkF m 1 #[.val (.ref a1), .val (.ref a2)] [(.ref a1)])) _
    refine st1 _ ?_
    exact kt
  by_cases c4_3 : a1 = w_BREAKING
  · have pre4 : ∀ tt, Steps p.tables e below (T1.setTop (mkF m 12 #[.val (.ref a1), .val (.ref a2)] [(.ref a1)])) tt → Steps p.tables e below (s₁.setTop (entryFrame m #[(.ref a1), (.ref a2)] 2)) tt := by
      intro tt kt
      refine pre2 tt ?_
      show Steps p.tables e below (T1.setTop (mkF m 4 #[.val (.ref a1), .val (.ref a2)] [(.ref w_BREAKING), (.ref a1)])) _
      refine Jvm.RoadKit.acmp (g := (mkF m 4 #[.val (.ref a1), .val (.ref a2)] [(.ref w_BREAKING), (.ref a1)])) X1 hx rfl rfl rfl (pc0 := 4) (pc' := 7) (same := true) rfl (hb hby d2_4) rfl (decide_eq_true (congrArg Value.ref c4_3)) (by decide) (by decide) ?_
      show Steps p.tables e below (T1.setTop (mkF m 7 #[.val (.ref a1), .val (.ref a2)] [])) _
      refine XS.aloadN X1.here hx rfl (hb hby d2_7) rfl rfl ?_
      show Steps p.tables e below (T1.setTop (mkF m 8 #[.val (.ref a1), .val (.ref a2)] [(.ref a1)])) _
      refine XS.goto X1.here hx rfl (pc0 := 8) (pc' := 12) rfl (hb hby d2_8) (by decide) (by decide) ?_
      exact kt
    obtain ⟨fs, hr, hrun, hended, hW, hsame⟩ := X1.leave (v := some (.ref a1)) (fun h => by rw [Bd.returns] at h; cases h)
    refine ⟨_, _, pre4 _ ?_, hrun, hended, _, _, rfl, ?_, ⟨_, rfl⟩, hW, hsame.mono (by decide) (by decide)⟩
    · show Steps p.tables e below (T1.setTop (mkF m 12 #[.val (.ref a1), .val (.ref a2)] [(.ref a1)])) _
      jvm_step X1.here [X1.here.top, hx, (hb hby d2_12), X1.method', Bd.returns, Value.isRef, FieldType.isReference]
      first | (intro acts; rw [hr _ acts rfl rfl rfl]) | rw [hr _ _ rfl rfl rfl]
      exact Steps.refl _
    · show QR Z r h0 n0 _ T1.heap _
      rw [e1]
      exact ⟨by rw [hr0, if_pos c4_3], N0, rfl⟩
  · have pre5 : ∀ tt, Steps p.tables e below (T1.setTop (mkF m 12 #[.val (.ref a1), .val (.ref a2)] [(.ref a2)])) tt → Steps p.tables e below (s₁.setTop (entryFrame m #[(.ref a1), (.ref a2)] 2)) tt := by
      intro tt kt
      refine pre2 tt ?_
      show Steps p.tables e below (T1.setTop (mkF m 4 #[.val (.ref a1), .val (.ref a2)] [(.ref w_BREAKING), (.ref a1)])) _
      refine Jvm.RoadKit.acmp (g := (mkF m 4 #[.val (.ref a1), .val (.ref a2)] [(.ref w_BREAKING), (.ref a1)])) X1 hx rfl rfl rfl (pc0 := 4) (pc' := 11) (same := false) rfl (hb hby d2_4) rfl (decide_eq_false fun q => c4_3 (Value.ref.inj q)) (by decide) (by decide) ?_
      show Steps p.tables e below (T1.setTop (mkF m 11 #[.val (.ref a1), .val (.ref a2)] [])) _
      refine XS.aloadN X1.here hx rfl (hb hby d2_11) rfl rfl ?_
      exact kt
    obtain ⟨fs, hr, hrun, hended, hW, hsame⟩ := X1.leave (v := some (.ref a2)) (fun h => by rw [Bd.returns] at h; cases h)
    refine ⟨_, _, pre5 _ ?_, hrun, hended, _, _, rfl, ?_, ⟨_, rfl⟩, hW, hsame.mono (by decide) (by decide)⟩
    · show Steps p.tables e below (T1.setTop (mkF m 12 #[.val (.ref a1), .val (.ref a2)] [(.ref a2)])) _
      jvm_step X1.here [X1.here.top, hx, (hb hby d2_12), X1.method', Bd.returns, Value.isRef, FieldType.isReference]
      first | (intro acts; rw [hr _ acts rfl rfl rfl]) | rw [hr _ _ rfl rfl rfl]
      exact Steps.refl _
    · show QR Z r h0 n0 _ T1.heap _
      rw [e1]
      exact ⟨by rw [hr0, if_neg c4_3], N0, rfl⟩
def Q0 (Z : State) (h0 : Heap) (n0 : Nat) (v : Option Value) (h : Heap) (L : List Loc) : Prop := v = some (.int (1 : Int32)) ∧ Fr n0 L
theorem pn_rm0 : plainName "com/example/driftwell/driftwell/VerdictWorstPinLaw" = true := by first | (simp [plainName, overriddenIn]; done) | decide +kernel
theorem pd_rm0_0 : parseMethodDescriptor "(I)Lcom/example/driftwell/driftwell/Change$Verdict;" = some ⟨[.int], some (.object "com/example/driftwell/driftwell/Change$Verdict")⟩ := by decide +kernel
theorem pd_rm0_1 : parseMethodDescriptor "(Lcom/example/driftwell/driftwell/Change$Verdict;)Lcom/example/driftwell/driftwell/Change$Verdict;" = some ⟨[(.object "com/example/driftwell/driftwell/Change$Verdict")], some (.object "com/example/driftwell/driftwell/Change$Verdict")⟩ := by decide +kernel
theorem ef_rm0 (m : MethodId) (p1 : Int32) (p2 : Int32) : entryFrame m #[(.int p1), (.int p2)] maxLocals = mkF m 0 #[.val (.int p1), .val (.int p2), .unset, .unset, .unset, .unset, .unset] [] := by first | (simp [entryFrame, mkF, argsToLocals, Value.category, maxLocals]; done) | rfl
set_option maxRecDepth 65536 in
set_option maxHeartbeats 40000000 in
theorem rm0 (l : Launch) (Z : State) (a0 : Array Value) (hw : ∀ d ∈ tables_1, d.before a0 Z = true) (ws : List Jvm.Cond) (p1 p2 : Int32) (w_BREAKING w_COMPATIBLE : Addr) (h0 : Heap) (n0 : Nat) (Z0 : n0 ≤ h0.size) (S_BREAKING : Sta Z h0 "com/example/driftwell/driftwell/Change$Verdict" "BREAKING" "Lcom/example/driftwell/driftwell/Change$Verdict;" (.ref w_BREAKING)) (S_COMPATIBLE : Sta Z h0 "com/example/driftwell/driftwell/Change$Verdict" "COMPATIBLE" "Lcom/example/driftwell/driftwell/Change$Verdict;" (.ref w_COMPATIBLE)) (E_BREAKING : Exa Z h0 w_BREAKING "com/example/driftwell/driftwell/Change$Verdict") (E_COMPATIBLE : Exa Z h0 w_COMPATIBLE "com/example/driftwell/driftwell/Change$Verdict") (nCB : ¬ (w_COMPATIBLE = w_BREAKING)) :
    MetFree l x (head1 (Jvm.Cond.code x code maxLocals ret :: ws) room_1) (fun a U => a = #[(.int p1), (.int p2)] ∧ Z.Warmed39 U.vm ∧ U.heap = h0) (fun _ _ _ _ _ => True) (fun _ U o U' => ∃ v L, o = .returned v ∧ Q0 Z h0 n0 v U'.heap L ∧ FrameEnd U o U' L room_1.cells room_1.slots) := by
  refine MetFree.of_bodySF (plainFor_of_name pn_rm0) hisR ?_
  intro p e s m args below meth c s₁ Bd hml0 hP hK
  obtain ⟨rfl, hZ, hh⟩ := hP
  have hx := Bd.exec
  have hby := Bd.bytes
  have hml : c.maxLocals = 7 := hml0
  have hown : s.vm.findClass "com/example/driftwell/driftwell/VerdictWorstPinLaw" = some m.cls := findClass_of_methodNamed Bd.named
  have hnm := (name_of_methodNamed Bd.named Bd.method).1
  have X0 : Stand p l e room_1 s m #[(.int p1), (.int p2)] below meth c s₁ [] 0 0 := Stand.of_body Bd
  have e0 : s₁.heap = h0 := by rw [← hh, Bd.state]; rfl
  have N0 := Fr.nil n0
  have pre0 : ∀ tt, Steps p.tables e below (s₁.setTop (mkF m 0 #[.val (.int p1), .val (.int p2), .unset, .unset, .unset, .unset, .unset] [])) tt → Steps p.tables e below (s₁.setTop (entryFrame m #[(.int p1), (.int p2)] maxLocals)) tt := fun tt kt => castTop (ef_rm0 m p1 p2) kt
  have pre1 : ∀ tt, Steps p.tables e below (s₁.setTop (mkF m 8 #[.val (.int p1), .val (.int p2), .val (.int (p1 &&& (1 : Int32))), .val (.int (p2 &&& (1 : Int32))), .unset, .unset, .unset] [])) tt → Steps p.tables e below (s₁.setTop (entryFrame m #[(.int p1), (.int p2)] maxLocals)) tt := by
    intro tt kt
    refine pre0 tt ?_
    show Steps p.tables e below (s₁.setTop (mkF m 0 #[.val (.int p1), .val (.int p2), .unset, .unset, .unset, .unset, .unset] [])) _
    refine XS.iloadN X0.here hx rfl (hb hby at_0) rfl ?_
    show Steps p.tables e below (s₁.setTop (mkF m 1 #[.val (.int p1), .val (.int p2), .unset, .unset, .unset, .unset, .unset] [(.int p1)])) _
    refine XS.iconst X0.here hx rfl (hb hby at_1) ?_
    show Steps p.tables e below (s₁.setTop (mkF m 2 #[.val (.int p1), .val (.int p2), .unset, .unset, .unset, .unset, .unset] [(.int (1 : Int32)), (.int p1)])) _
    refine XS.iand X0.here hx rfl (hb hby at_2) rfl ?_
    show Steps p.tables e below (s₁.setTop (mkF m 3 #[.val (.int p1), .val (.int p2), .unset, .unset, .unset, .unset, .unset] [(.int (p1 &&& (1 : Int32)))])) _
    refine XS.istoreN X0.here hx rfl (hb hby at_3) rfl (l' := #[.val (.int p1), .val (.int p2), .val (.int (p1 &&& (1 : Int32))), .unset, .unset, .unset, .unset]) rfl ?_
    show Steps p.tables e below (s₁.setTop (mkF m 4 #[.val (.int p1), .val (.int p2), .val (.int (p1 &&& (1 : Int32))), .unset, .unset, .unset, .unset] [])) _
    refine XS.iloadN X0.here hx rfl (hb hby at_4) rfl ?_
    show Steps p.tables e below (s₁.setTop (mkF m 5 #[.val (.int p1), .val (.int p2), .val (.int (p1 &&& (1 : Int32))), .unset, .unset, .unset, .unset] [(.int p2)])) _
    refine XS.iconst X0.here hx rfl (hb hby at_5) ?_
    show Steps p.tables e below (s₁.setTop (mkF m 6 #[.val (.int p1), .val (.int p2), .val (.int (p1 &&& (1 : Int32))), .unset, .unset, .unset, .unset] [(.int (1 : Int32)), (.int p2)])) _
    refine XS.iand X0.here hx rfl (hb hby at_6) rfl ?_
    show Steps p.tables e below (s₁.setTop (mkF m 7 #[.val (.int p1), .val (.int p2), .val (.int (p1 &&& (1 : Int32))), .unset, .unset, .unset, .unset] [(.int (p2 &&& (1 : Int32)))])) _
    refine XS.istoreN X0.here hx rfl (hb hby at_7) rfl (l' := #[.val (.int p1), .val (.int p2), .val (.int (p1 &&& (1 : Int32))), .val (.int (p2 &&& (1 : Int32))), .unset, .unset, .unset]) rfl ?_
    exact kt
  by_cases c8_2 : (p1 &&& (1 : Int32)) = (0 : Int32)
  · obtain ⟨_, _, ⟨T3, L3, k3, n3⟩, -, X3, ⟨Lc3, hQ3, l3, y3, z3⟩, st3⟩ := Jvm.LawKit.callS X0 hx (y := (⟨"com/example/driftwell/driftwell/VerdictWorstPinLaw", "pick", "(I)Lcom/example/driftwell/driftwell/Change$Verdict;"⟩ : MethodName)) hown (mvT hZ (hw _ (List.mem_of_getElem? (i := 0) rfl))) (mvT hZ (hw _ (List.mem_of_getElem? (i := 1) rfl))) (mvT hZ (hw _ (List.mem_of_getElem? (i := 2) rfl))) (mvT hZ (hw _ (List.mem_of_getElem? (i := 3) rfl))) (by decide) (backOf (W := 0) (rm1 l Z a0 hw [] (p1 &&& (1 : Int32)) w_BREAKING w_COMPATIBLE w_COMPATIBLE h0 n0 Z0 S_BREAKING S_COMPATIBLE (if_pos c8_2).symm) hZ (hw _ (List.mem_of_getElem? (i := 3) rfl)) (hw _ (List.mem_of_getElem? (i := 2) rfl)) (by decide) (by decide)) (g := (mkF m 9 #[.val (.int p1), .val (.int p2), .val (.int (p1 &&& (1 : Int32))), .val (.int (p2 &&& (1 : Int32))), .unset, .unset, .unset] [(.int (p1 &&& (1 : Int32)))])) rfl (by rw [hml]; rfl) (argsL := [(.int (p1 &&& (1 : Int32)))]) (rest := []) (lenOf pd_rm0_0 rfl) rfl (by show 2 * 0 + _ ≤ _; exact Nat.le_of_eq rfl) (hb hby at_9) (fun _ _ => ⟨rfl, e0, (by decide : 0 + 0 ≤ _), (by decide : 0 + 0 ≤ _)⟩)
    dsimp only [Pt.U, Pt.locs, Pt.cells, Pt.slots] at X3 l3 y3 z3 st3 hQ3
    subst l3 y3 z3
    obtain ⟨rfl, N3q, hE3⟩ := hQ3
    have N3 := Fr.app N0 N3q
    have pre4 : ∀ tt, Steps p.tables e below (T3.setTop (mkF m 14 #[.val (.int p1), .val (.int p2), .val (.int (p1 &&& (1 : Int32))), .val (.int (p2 &&& (1 : Int32))), .val (.ref w_COMPATIBLE), .unset, .unset] [])) tt → Steps p.tables e below (s₁.setTop (entryFrame m #[(.int p1), (.int p2)] maxLocals)) tt := by
      intro tt kt
      refine pre1 tt ?_
      show Steps p.tables e below (s₁.setTop (mkF m 8 #[.val (.int p1), .val (.int p2), .val (.int (p1 &&& (1 : Int32))), .val (.int (p2 &&& (1 : Int32))), .unset, .unset, .unset] [])) _
      refine XS.iloadN X0.here hx rfl (hb hby at_8) rfl ?_
      show Steps p.tables e below (s₁.setTop (mkF m 9 #[.val (.int p1), .val (.int p2), .val (.int (p1 &&& (1 : Int32))), .val (.int (p2 &&& (1 : Int32))), .unset, .unset, .unset] [(.int (p1 &&& (1 : Int32)))])) _
      refine st3 _ ?_
      show Steps p.tables e below (T3.setTop (mkF m 12 #[.val (.int p1), .val (.int p2), .val (.int (p1 &&& (1 : Int32))), .val (.int (p2 &&& (1 : Int32))), .unset, .unset, .unset] [(.ref w_COMPATIBLE)])) _
      refine XS.astore X3.here hx rfl (hb hby at_12) rfl rfl (l' := #[.val (.int p1), .val (.int p2), .val (.int (p1 &&& (1 : Int32))), .val (.int (p2 &&& (1 : Int32))), .val (.ref w_COMPATIBLE), .unset, .unset]) rfl ?_
      exact kt
    by_cases c14_5 : (p2 &&& (1 : Int32)) = (0 : Int32)
    · obtain ⟨_, _, ⟨T6, L6, k6, n6⟩, -, X6, ⟨Lc6, hQ6, l6, y6, z6⟩, st6⟩ := Jvm.LawKit.callS X3 hx (y := (⟨"com/example/driftwell/driftwell/VerdictWorstPinLaw", "pick", "(I)Lcom/example/driftwell/driftwell/Change$Verdict;"⟩ : MethodName)) hown (mvT hZ (hw _ (List.mem_of_getElem? (i := 0) rfl))) (mvT hZ (hw _ (List.mem_of_getElem? (i := 1) rfl))) (mvT hZ (hw _ (List.mem_of_getElem? (i := 2) rfl))) (mvT hZ (hw _ (List.mem_of_getElem? (i := 3) rfl))) (by decide) (backOf (W := 0) (rm1 l Z a0 hw [] (p2 &&& (1 : Int32)) w_BREAKING w_COMPATIBLE w_COMPATIBLE h0 n0 Z0 S_BREAKING S_COMPATIBLE (if_pos c14_5).symm) hZ (hw _ (List.mem_of_getElem? (i := 3) rfl)) (hw _ (List.mem_of_getElem? (i := 2) rfl)) (by decide) (by decide)) (g := (mkF m 15 #[.val (.int p1), .val (.int p2), .val (.int (p1 &&& (1 : Int32))), .val (.int (p2 &&& (1 : Int32))), .val (.ref w_COMPATIBLE), .unset, .unset] [(.int (p2 &&& (1 : Int32)))])) rfl (by rw [hml]; rfl) (argsL := [(.int (p2 &&& (1 : Int32)))]) (rest := []) (lenOf pd_rm0_0 rfl) rfl (by show 2 * 0 + _ ≤ _; exact Nat.le_of_eq rfl) (hb hby at_15) (fun _ _ => ⟨rfl, hE3, (by decide : 0 + 0 ≤ _), (by decide : 0 + 0 ≤ _)⟩)
      dsimp only [Pt.U, Pt.locs, Pt.cells, Pt.slots] at X6 l6 y6 z6 st6 hQ6
      subst l6 y6 z6
      obtain ⟨rfl, N6q, hE6⟩ := hQ6
      have N6 := Fr.app N3 N6q
      obtain ⟨T7, X7, e7, st7⟩ := getS2 X6 hx hZ hown (host := "") (Or.inl (hw _ (List.mem_of_getElem? (i := 4) rfl))) Via.refl hE6 S_COMPATIBLE (g := (mkF m 36 #[.val (.int p1), .val (.int p2), .val (.int (p1 &&& (1 : Int32))), .val (.int (p2 &&& (1 : Int32))), .val (.ref w_COMPATIBLE), .val (.ref w_COMPATIBLE), .unset] [])) rfl (hb hby at_36)
      obtain ⟨cq8, kq8, q8a, q8b, q8c⟩ := isOf hZ e7 E_COMPATIBLE
      obtain ⟨_, _, ⟨T8, L8, k8, n8⟩, -, X8, ⟨Lc8, hQ8, l8, y8, z8⟩, st8⟩ := X7.virtualBack hx (y := (⟨"com/example/driftwell/driftwell/Change$Verdict", "worst", "(Lcom/example/driftwell/driftwell/Change$Verdict;)Lcom/example/driftwell/driftwell/Change$Verdict;"⟩ : MethodName)) (z := (⟨"com/example/driftwell/driftwell/Change$Verdict", "worst", "(Lcom/example/driftwell/driftwell/Change$Verdict;)Lcom/example/driftwell/driftwell/Change$Verdict;"⟩ : MethodName)) hown (mvT hZ (hw _ (List.mem_of_getElem? (i := 9) rfl))) (mvT hZ (hw _ (List.mem_of_getElem? (i := 10) rfl))) (notFace_of_selects (args := #[]) (mvT hZ (hw _ (List.mem_of_getElem? (i := 12) rfl)))) (mvT hZ (hw _ (List.mem_of_getElem? (i := 12) rfl))) (mvT hZ (hw _ (List.mem_of_getElem? (i := 11) rfl))) (by decide) (backOf (W := 0) (rm2 l Z a0 hw [] w_COMPATIBLE w_COMPATIBLE w_BREAKING w_COMPATIBLE h0 n0 Z0 S_BREAKING (if_neg nCB).symm) hZ (hw _ (List.mem_of_getElem? (i := 13) rfl)) (hw _ (List.mem_of_getElem? (i := 5) rfl)) (by decide) (by decide)) q8a q8c (g := (mkF m 45 #[.val (.int p1), .val (.int p2), .val (.int (p1 &&& (1 : Int32))), .val (.int (p2 &&& (1 : Int32))), .val (.ref w_COMPATIBLE), .val (.ref w_COMPATIBLE), .val (.ref w_COMPATIBLE)] [(.ref w_COMPATIBLE), (.ref w_COMPATIBLE)])) rfl (by rw [hml]; rfl) (Steps.refl _) (argsL := [(.ref w_COMPATIBLE)]) (rest := []) (lenOf pd_rm0_1 rfl) rfl (by show 2 * 0 + _ ≤ _; exact Nat.le_of_eq rfl) (hb hby at_45) (fun _ _ => ⟨rfl, e7, (by decide : 0 + 0 ≤ _), (by decide : 0 + 0 ≤ _)⟩)
      dsimp only [Pt.U, Pt.locs, Pt.cells, Pt.slots] at X8 l8 y8 z8 st8 hQ8
      subst l8 y8 z8
      obtain ⟨rfl, N8q, hE8⟩ := hQ8
      have N8 := Fr.app N6 N8q
      obtain ⟨cq9, kq9, q9a, q9b, q9c⟩ := isOf hZ hE8 E_COMPATIBLE
      obtain ⟨_, _, ⟨T9, L9, k9, n9⟩, -, X9, ⟨Lc9, hQ9, l9, y9, z9⟩, st9⟩ := X8.virtualBack hx (y := (⟨"com/example/driftwell/driftwell/Change$Verdict", "worst", "(Lcom/example/driftwell/driftwell/Change$Verdict;)Lcom/example/driftwell/driftwell/Change$Verdict;"⟩ : MethodName)) (z := (⟨"com/example/driftwell/driftwell/Change$Verdict", "worst", "(Lcom/example/driftwell/driftwell/Change$Verdict;)Lcom/example/driftwell/driftwell/Change$Verdict;"⟩ : MethodName)) hown (mvT hZ (hw _ (List.mem_of_getElem? (i := 9) rfl))) (mvT hZ (hw _ (List.mem_of_getElem? (i := 10) rfl))) (notFace_of_selects (args := #[]) (mvT hZ (hw _ (List.mem_of_getElem? (i := 12) rfl)))) (mvT hZ (hw _ (List.mem_of_getElem? (i := 12) rfl))) (mvT hZ (hw _ (List.mem_of_getElem? (i := 11) rfl))) (by decide) (backOf (W := 0) (rm2 l Z a0 hw [] w_COMPATIBLE w_COMPATIBLE w_BREAKING w_COMPATIBLE h0 n0 Z0 S_BREAKING (if_neg nCB).symm) hZ (hw _ (List.mem_of_getElem? (i := 13) rfl)) (hw _ (List.mem_of_getElem? (i := 5) rfl)) (by decide) (by decide)) q9a q9c (g := (mkF m 57 #[.val (.int p1), .val (.int p2), .val (.int (p1 &&& (1 : Int32))), .val (.int (p2 &&& (1 : Int32))), .val (.ref w_COMPATIBLE), .val (.ref w_COMPATIBLE), .val (.ref w_COMPATIBLE)] [(.ref w_COMPATIBLE), (.ref w_COMPATIBLE)])) rfl (by rw [hml]; rfl) (Steps.refl _) (argsL := [(.ref w_COMPATIBLE)]) (rest := []) (lenOf pd_rm0_1 rfl) rfl (by show 2 * 0 + _ ≤ _; exact Nat.le_of_eq rfl) (hb hby at_57) (fun _ _ => ⟨rfl, hE8, (by decide : 0 + 0 ≤ _), (by decide : 0 + 0 ≤ _)⟩)
      dsimp only [Pt.U, Pt.locs, Pt.cells, Pt.slots] at X9 l9 y9 z9 st9 hQ9
      subst l9 y9 z9
      obtain ⟨rfl, N9q, hE9⟩ := hQ9
      have N9 := Fr.app N8 N9q
      have pre10 : ∀ tt, Steps p.tables e below (T9.setTop (mkF m 70 #[.val (.int p1), .val (.int p2), .val (.int (p1 &&& (1 : Int32))), .val (.int (p2 &&& (1 : Int32))), .val (.ref w_COMPATIBLE), .val (.ref w_COMPATIBLE), .val (.ref w_COMPATIBLE)] [(.int (1 : Int32))])) tt → Steps p.tables e below (s₁.setTop (entryFrame m #[(.int p1), (.int p2)] maxLocals)) tt := by
        intro tt kt
        refine pre4 tt ?_
        show Steps p.tables e below (T3.setTop (mkF m 14 #[.val (.int p1), .val (.int p2), .val (.int (p1 &&& (1 : Int32))), .val (.int (p2 &&& (1 : Int32))), .val (.ref w_COMPATIBLE), .unset, .unset] [])) _
        refine XS.iloadN X3.here hx rfl (hb hby at_14) rfl ?_
        show Steps p.tables e below (T3.setTop (mkF m 15 #[.val (.int p1), .val (.int p2), .val (.int (p1 &&& (1 : Int32))), .val (.int (p2 &&& (1 : Int32))), .val (.ref w_COMPATIBLE), .unset, .unset] [(.int (p2 &&& (1 : Int32)))])) _
        refine st6 _ ?_
        show Steps p.tables e below (T6.setTop (mkF m 18 #[.val (.int p1), .val (.int p2), .val (.int (p1 &&& (1 : Int32))), .val (.int (p2 &&& (1 : Int32))), .val (.ref w_COMPATIBLE), .unset, .unset] [(.ref w_COMPATIBLE)])) _
        refine XS.astore X6.here hx rfl (hb hby at_18) rfl rfl (l' := #[.val (.int p1), .val (.int p2), .val (.int (p1 &&& (1 : Int32))), .val (.int (p2 &&& (1 : Int32))), .val (.ref w_COMPATIBLE), .val (.ref w_COMPATIBLE), .unset]) rfl ?_
        show Steps p.tables e below (T6.setTop (mkF m 20 #[.val (.int p1), .val (.int p2), .val (.int (p1 &&& (1 : Int32))), .val (.int (p2 &&& (1 : Int32))), .val (.ref w_COMPATIBLE), .val (.ref w_COMPATIBLE), .unset] [])) _
        refine XS.iloadN X6.here hx rfl (hb hby at_20) rfl ?_
        show Steps p.tables e below (T6.setTop (mkF m 21 #[.val (.int p1), .val (.int p2), .val (.int (p1 &&& (1 : Int32))), .val (.int (p2 &&& (1 : Int32))), .val (.ref w_COMPATIBLE), .val (.ref w_COMPATIBLE), .unset] [(.int (p1 &&& (1 : Int32)))])) _
        refine XS.ifNo X6.here hx rfl (hb hby at_21) rfl ((if0 _ _).trans (teq c8_2).2) ?_
        show Steps p.tables e below (T6.setTop (mkF m 24 #[.val (.int p1), .val (.int p2), .val (.int (p1 &&& (1 : Int32))), .val (.int (p2 &&& (1 : Int32))), .val (.ref w_COMPATIBLE), .val (.ref w_COMPATIBLE), .unset] [])) _
        refine XS.iloadN X6.here hx rfl (hb hby at_24) rfl ?_
        show Steps p.tables e below (T6.setTop (mkF m 25 #[.val (.int p1), .val (.int p2), .val (.int (p1 &&& (1 : Int32))), .val (.int (p2 &&& (1 : Int32))), .val (.ref w_COMPATIBLE), .val (.ref w_COMPATIBLE), .unset] [(.int (p2 &&& (1 : Int32)))])) _
        refine XS.ifYes X6.here hx rfl (pc0 := 25) (pc' := 36) rfl (hb hby at_25) rfl ((if0 _ _).trans (teq c14_5).1) (by decide) (by decide) ?_
        show Steps p.tables e below (T6.setTop (mkF m 36 #[.val (.int p1), .val (.int p2), .val (.int (p1 &&& (1 : Int32))), .val (.int (p2 &&& (1 : Int32))), .val (.ref w_COMPATIBLE), .val (.ref w_COMPATIBLE), .unset] [])) _
        refine st7 _ ?_
        show Steps p.tables e below (T7.setTop (mkF m 39 #[.val (.int p1), .val (.int p2), .val (.int (p1 &&& (1 : Int32))), .val (.int (p2 &&& (1 : Int32))), .val (.ref w_COMPATIBLE), .val (.ref w_COMPATIBLE), .unset] [(.ref w_COMPATIBLE)])) _
        refine XS.astore X7.here hx rfl (hb hby at_39) rfl rfl (l' := #[.val (.int p1), .val (.int p2), .val (.int (p1 &&& (1 : Int32))), .val (.int (p2 &&& (1 : Int32))), .val (.ref w_COMPATIBLE), .val (.ref w_COMPATIBLE), .val (.ref w_COMPATIBLE)]) rfl ?_
        show Steps p.tables e below (T7.setTop (mkF m 41 #[.val (.int p1), .val (.int p2), .val (.int (p1 &&& (1 : Int32))), .val (.int (p2 &&& (1 : Int32))), .val (.ref w_COMPATIBLE), .val (.ref w_COMPATIBLE), .val (.ref w_COMPATIBLE)] [])) _
        refine XS.aload X7.here hx rfl (hb hby at_41) rfl rfl ?_
        show Steps p.tables e below (T7.setTop (mkF m 43 #[.val (.int p1), .val (.int p2), .val (.int (p1 &&& (1 : Int32))), .val (.int (p2 &&& (1 : Int32))), .val (.ref w_COMPATIBLE), .val (.ref w_COMPATIBLE), .val (.ref w_COMPATIBLE)] [(.ref w_COMPATIBLE)])) _
        refine XS.aload X7.here hx rfl (hb hby at_43) rfl rfl ?_
        show Steps p.tables e below (T7.setTop (mkF m 45 #[.val (.int p1), .val (.int p2), .val (.int (p1 &&& (1 : Int32))), .val (.int (p2 &&& (1 : Int32))), .val (.ref w_COMPATIBLE), .val (.ref w_COMPATIBLE), .val (.ref w_COMPATIBLE)] [(.ref w_COMPATIBLE), (.ref w_COMPATIBLE)])) _
        refine st8.trans ?_
        show Steps p.tables e below (T8.setTop (mkF m 48 #[.val (.int p1), .val (.int p2), .val (.int (p1 &&& (1 : Int32))), .val (.int (p2 &&& (1 : Int32))), .val (.ref w_COMPATIBLE), .val (.ref w_COMPATIBLE), .val (.ref w_COMPATIBLE)] [(.ref w_COMPATIBLE)])) _
        refine XS.aload X8.here hx rfl (hb hby at_48) rfl rfl ?_
        show Steps p.tables e below (T8.setTop (mkF m 50 #[.val (.int p1), .val (.int p2), .val (.int (p1 &&& (1 : Int32))), .val (.int (p2 &&& (1 : Int32))), .val (.ref w_COMPATIBLE), .val (.ref w_COMPATIBLE), .val (.ref w_COMPATIBLE)] [(.ref w_COMPATIBLE), (.ref w_COMPATIBLE)])) _
        refine Jvm.RoadKit.acmp (g := (mkF m 50 #[.val (.int p1), .val (.int p2), .val (.int (p1 &&& (1 : Int32))), .val (.int (p2 &&& (1 : Int32))), .val (.ref w_COMPATIBLE), .val (.ref w_COMPATIBLE), .val (.ref w_COMPATIBLE)] [(.ref w_COMPATIBLE), (.ref w_COMPATIBLE)])) X8 hx rfl rfl rfl (pc0 := 50) (pc' := 53) (same := true) rfl (hb hby at_50) rfl (decide_eq_true rfl) (by decide) (by decide) ?_
        show Steps p.tables e below (T8.setTop (mkF m 53 #[.val (.int p1), .val (.int p2), .val (.int (p1 &&& (1 : Int32))), .val (.int (p2 &&& (1 : Int32))), .val (.ref w_COMPATIBLE), .val (.ref w_COMPATIBLE), .val (.ref w_COMPATIBLE)] [])) _
        refine XS.aload X8.here hx rfl (hb hby at_53) rfl rfl ?_
        show Steps p.tables e below (T8.setTop (mkF m 55 #[.val (.int p1), .val (.int p2), .val (.int (p1 &&& (1 : Int32))), .val (.int (p2 &&& (1 : Int32))), .val (.ref w_COMPATIBLE), .val (.ref w_COMPATIBLE), .val (.ref w_COMPATIBLE)] [(.ref w_COMPATIBLE)])) _
        refine XS.aload X8.here hx rfl (hb hby at_55) rfl rfl ?_
        show Steps p.tables e below (T8.setTop (mkF m 57 #[.val (.int p1), .val (.int p2), .val (.int (p1 &&& (1 : Int32))), .val (.int (p2 &&& (1 : Int32))), .val (.ref w_COMPATIBLE), .val (.ref w_COMPATIBLE), .val (.ref w_COMPATIBLE)] [(.ref w_COMPATIBLE), (.ref w_COMPATIBLE)])) _
        refine st9.trans ?_
        show Steps p.tables e below (T9.setTop (mkF m 60 #[.val (.int p1), .val (.int p2), .val (.int (p1 &&& (1 : Int32))), .val (.int (p2 &&& (1 : Int32))), .val (.ref w_COMPATIBLE), .val (.ref w_COMPATIBLE), .val (.ref w_COMPATIBLE)] [(.ref w_COMPATIBLE)])) _
        refine XS.aload X9.here hx rfl (hb hby at_60) rfl rfl ?_
        show Steps p.tables e below (T9.setTop (mkF m 62 #[.val (.int p1), .val (.int p2), .val (.int (p1 &&& (1 : Int32))), .val (.int (p2 &&& (1 : Int32))), .val (.ref w_COMPATIBLE), .val (.ref w_COMPATIBLE), .val (.ref w_COMPATIBLE)] [(.ref w_COMPATIBLE), (.ref w_COMPATIBLE)])) _
        refine Jvm.RoadKit.acmp (g := (mkF m 62 #[.val (.int p1), .val (.int p2), .val (.int (p1 &&& (1 : Int32))), .val (.int (p2 &&& (1 : Int32))), .val (.ref w_COMPATIBLE), .val (.ref w_COMPATIBLE), .val (.ref w_COMPATIBLE)] [(.ref w_COMPATIBLE), (.ref w_COMPATIBLE)])) X9 hx rfl rfl rfl (pc0 := 62) (pc' := 65) (same := true) rfl (hb hby at_62) rfl (decide_eq_true rfl) (by decide) (by decide) ?_
        show Steps p.tables e below (T9.setTop (mkF m 65 #[.val (.int p1), .val (.int p2), .val (.int (p1 &&& (1 : Int32))), .val (.int (p2 &&& (1 : Int32))), .val (.ref w_COMPATIBLE), .val (.ref w_COMPATIBLE), .val (.ref w_COMPATIBLE)] [])) _
        refine XS.iconst X9.here hx rfl (hb hby at_65) ?_
        show Steps p.tables e below (T9.setTop (mkF m 66 #[.val (.int p1), .val (.int p2), .val (.int (p1 &&& (1 : Int32))), .val (.int (p2 &&& (1 : Int32))), .val (.ref w_COMPATIBLE), .val (.ref w_COMPATIBLE), .val (.ref w_COMPATIBLE)] [(.int (1 : Int32))])) _
        refine XS.goto X9.here hx rfl (pc0 := 66) (pc' := 70) rfl (hb hby at_66) (by decide) (by decide) ?_
        exact kt
      obtain ⟨fs, hr, hrun, hended, hW, hsame⟩ := X9.leave (v := some (.int (1 : Int32))) (fun h => by rw [Bd.returns] at h; cases h)
      refine ⟨_, _, pre10 _ ?_, hrun, hended, _, _, rfl, ?_, ⟨_, rfl⟩, hW, hsame.mono (by decide) (by decide)⟩
      · show Steps p.tables e below (T9.setTop (mkF m 70 #[.val (.int p1), .val (.int p2), .val (.int (p1 &&& (1 : Int32))), .val (.int (p2 &&& (1 : Int32))), .val (.ref w_COMPATIBLE), .val (.ref w_COMPATIBLE), .val (.ref w_COMPATIBLE)] [(.int (1 : Int32))])) _
        exact retN X9 hx (t := .boolean) Bd.returns (by simp) (hb hby at_70) hr
      · show Q0 Z h0 n0 _ T9.heap _
        rw [hE9]
        exact ⟨rfl, N9⟩
    · obtain ⟨_, _, ⟨T11, L11, k11, n11⟩, -, X11, ⟨Lc11, hQ11, l11, y11, z11⟩, st11⟩ := Jvm.LawKit.callS X3 hx (y := (⟨"com/example/driftwell/driftwell/VerdictWorstPinLaw", "pick", "(I)Lcom/example/driftwell/driftwell/Change$Verdict;"⟩ : MethodName)) hown (mvT hZ (hw _ (List.mem_of_getElem? (i := 0) rfl))) (mvT hZ (hw _ (List.mem_of_getElem? (i := 1) rfl))) (mvT hZ (hw _ (List.mem_of_getElem? (i := 2) rfl))) (mvT hZ (hw _ (List.mem_of_getElem? (i := 3) rfl))) (by decide) (backOf (W := 0) (rm1 l Z a0 hw [] (p2 &&& (1 : Int32)) w_BREAKING w_COMPATIBLE w_BREAKING h0 n0 Z0 S_BREAKING S_COMPATIBLE (if_neg c14_5).symm) hZ (hw _ (List.mem_of_getElem? (i := 3) rfl)) (hw _ (List.mem_of_getElem? (i := 2) rfl)) (by decide) (by decide)) (g := (mkF m 15 #[.val (.int p1), .val (.int p2), .val (.int (p1 &&& (1 : Int32))), .val (.int (p2 &&& (1 : Int32))), .val (.ref w_COMPATIBLE), .unset, .unset] [(.int (p2 &&& (1 : Int32)))])) rfl (by rw [hml]; rfl) (argsL := [(.int (p2 &&& (1 : Int32)))]) (rest := []) (lenOf pd_rm0_0 rfl) rfl (by show 2 * 0 + _ ≤ _; exact Nat.le_of_eq rfl) (hb hby at_15) (fun _ _ => ⟨rfl, hE3, (by decide : 0 + 0 ≤ _), (by decide : 0 + 0 ≤ _)⟩)
      dsimp only [Pt.U, Pt.locs, Pt.cells, Pt.slots] at X11 l11 y11 z11 st11 hQ11
      subst l11 y11 z11
      obtain ⟨rfl, N11q, hE11⟩ := hQ11
      have N11 := Fr.app N3 N11q
      obtain ⟨T12, X12, e12, st12⟩ := getS2 X11 hx hZ hown (host := "") (Or.inl (hw _ (List.mem_of_getElem? (i := 7) rfl))) Via.refl hE11 S_BREAKING (g := (mkF m 28 #[.val (.int p1), .val (.int p2), .val (.int (p1 &&& (1 : Int32))), .val (.int (p2 &&& (1 : Int32))), .val (.ref w_COMPATIBLE), .val (.ref w_BREAKING), .unset] [])) rfl (hb hby at_28)
      obtain ⟨cq13, kq13, q13a, q13b, q13c⟩ := isOf hZ e12 E_COMPATIBLE
      obtain ⟨_, _, ⟨T13, L13, k13, n13⟩, -, X13, ⟨Lc13, hQ13, l13, y13, z13⟩, st13⟩ := X12.virtualBack hx (y := (⟨"com/example/driftwell/driftwell/Change$Verdict", "worst", "(Lcom/example/driftwell/driftwell/Change$Verdict;)Lcom/example/driftwell/driftwell/Change$Verdict;"⟩ : MethodName)) (z := (⟨"com/example/driftwell/driftwell/Change$Verdict", "worst", "(Lcom/example/driftwell/driftwell/Change$Verdict;)Lcom/example/driftwell/driftwell/Change$Verdict;"⟩ : MethodName)) hown (mvT hZ (hw _ (List.mem_of_getElem? (i := 9) rfl))) (mvT hZ (hw _ (List.mem_of_getElem? (i := 10) rfl))) (notFace_of_selects (args := #[]) (mvT hZ (hw _ (List.mem_of_getElem? (i := 12) rfl)))) (mvT hZ (hw _ (List.mem_of_getElem? (i := 12) rfl))) (mvT hZ (hw _ (List.mem_of_getElem? (i := 11) rfl))) (by decide) (backOf (W := 0) (rm2 l Z a0 hw [] w_COMPATIBLE w_BREAKING w_BREAKING w_BREAKING h0 n0 Z0 S_BREAKING (if_neg nCB).symm) hZ (hw _ (List.mem_of_getElem? (i := 13) rfl)) (hw _ (List.mem_of_getElem? (i := 5) rfl)) (by decide) (by decide)) q13a q13c (g := (mkF m 45 #[.val (.int p1), .val (.int p2), .val (.int (p1 &&& (1 : Int32))), .val (.int (p2 &&& (1 : Int32))), .val (.ref w_COMPATIBLE), .val (.ref w_BREAKING), .val (.ref w_BREAKING)] [(.ref w_BREAKING), (.ref w_COMPATIBLE)])) rfl (by rw [hml]; rfl) (Steps.refl _) (argsL := [(.ref w_BREAKING)]) (rest := []) (lenOf pd_rm0_1 rfl) rfl (by show 2 * 0 + _ ≤ _; exact Nat.le_of_eq rfl) (hb hby at_45) (fun _ _ => ⟨rfl, e12, (by decide : 0 + 0 ≤ _), (by decide : 0 + 0 ≤ _)⟩)
      dsimp only [Pt.U, Pt.locs, Pt.cells, Pt.slots] at X13 l13 y13 z13 st13 hQ13
      subst l13 y13 z13
      obtain ⟨rfl, N13q, hE13⟩ := hQ13
      have N13 := Fr.app N11 N13q
      obtain ⟨cq14, kq14, q14a, q14b, q14c⟩ := isOf hZ hE13 E_BREAKING
      obtain ⟨_, _, ⟨T14, L14, k14, n14⟩, -, X14, ⟨Lc14, hQ14, l14, y14, z14⟩, st14⟩ := X13.virtualBack hx (y := (⟨"com/example/driftwell/driftwell/Change$Verdict", "worst", "(Lcom/example/driftwell/driftwell/Change$Verdict;)Lcom/example/driftwell/driftwell/Change$Verdict;"⟩ : MethodName)) (z := (⟨"com/example/driftwell/driftwell/Change$Verdict", "worst", "(Lcom/example/driftwell/driftwell/Change$Verdict;)Lcom/example/driftwell/driftwell/Change$Verdict;"⟩ : MethodName)) hown (mvT hZ (hw _ (List.mem_of_getElem? (i := 9) rfl))) (mvT hZ (hw _ (List.mem_of_getElem? (i := 10) rfl))) (notFace_of_selects (args := #[]) (mvT hZ (hw _ (List.mem_of_getElem? (i := 12) rfl)))) (mvT hZ (hw _ (List.mem_of_getElem? (i := 12) rfl))) (mvT hZ (hw _ (List.mem_of_getElem? (i := 11) rfl))) (by decide) (backOf (W := 0) (rm2 l Z a0 hw [] w_BREAKING w_COMPATIBLE w_BREAKING w_BREAKING h0 n0 Z0 S_BREAKING (if_pos rfl).symm) hZ (hw _ (List.mem_of_getElem? (i := 13) rfl)) (hw _ (List.mem_of_getElem? (i := 5) rfl)) (by decide) (by decide)) q14a q14c (g := (mkF m 57 #[.val (.int p1), .val (.int p2), .val (.int (p1 &&& (1 : Int32))), .val (.int (p2 &&& (1 : Int32))), .val (.ref w_COMPATIBLE), .val (.ref w_BREAKING), .val (.ref w_BREAKING)] [(.ref w_COMPATIBLE), (.ref w_BREAKING)])) rfl (by rw [hml]; rfl) (Steps.refl _) (argsL := [(.ref w_COMPATIBLE)]) (rest := []) (lenOf pd_rm0_1 rfl) rfl (by show 2 * 0 + _ ≤ _; exact Nat.le_of_eq rfl) (hb hby at_57) (fun _ _ => ⟨rfl, hE13, (by decide : 0 + 0 ≤ _), (by decide : 0 + 0 ≤ _)⟩)
      dsimp only [Pt.U, Pt.locs, Pt.cells, Pt.slots] at X14 l14 y14 z14 st14 hQ14
      subst l14 y14 z14
      obtain ⟨rfl, N14q, hE14⟩ := hQ14
      have N14 := Fr.app N13 N14q
      have pre15 : ∀ tt, Steps p.tables e below (T14.setTop (mkF m 70 #[.val (.int p1), .val (.int p2), .val (.int (p1 &&& (1 : Int32))), .val (.int (p2 &&& (1 : Int32))), .val (.ref w_COMPATIBLE), .val (.ref w_BREAKING), .val (.ref w_BREAKING)] [(.int (1 : Int32))])) tt → Steps p.tables e below (s₁.setTop (entryFrame m #[(.int p1), (.int p2)] maxLocals)) tt := by
        intro tt kt
        refine pre4 tt ?_
        show Steps p.tables e below (T3.setTop (mkF m 14 #[.val (.int p1), .val (.int p2), .val (.int (p1 &&& (1 : Int32))), .val (.int (p2 &&& (1 : Int32))), .val (.ref w_COMPATIBLE), .unset, .unset] [])) _
        refine XS.iloadN X3.here hx rfl (hb hby at_14) rfl ?_
        show Steps p.tables e below (T3.setTop (mkF m 15 #[.val (.int p1), .val (.int p2), .val (.int (p1 &&& (1 : Int32))), .val (.int (p2 &&& (1 : Int32))), .val (.ref w_COMPATIBLE), .unset, .unset] [(.int (p2 &&& (1 : Int32)))])) _
        refine st11 _ ?_
        show Steps p.tables e below (T11.setTop (mkF m 18 #[.val (.int p1), .val (.int p2), .val (.int (p1 &&& (1 : Int32))), .val (.int (p2 &&& (1 : Int32))), .val (.ref w_COMPATIBLE), .unset, .unset] [(.ref w_BREAKING)])) _
        refine XS.astore X11.here hx rfl (hb hby at_18) rfl rfl (l' := #[.val (.int p1), .val (.int p2), .val (.int (p1 &&& (1 : Int32))), .val (.int (p2 &&& (1 : Int32))), .val (.ref w_COMPATIBLE), .val (.ref w_BREAKING), .unset]) rfl ?_
        show Steps p.tables e below (T11.setTop (mkF m 20 #[.val (.int p1), .val (.int p2), .val (.int (p1 &&& (1 : Int32))), .val (.int (p2 &&& (1 : Int32))), .val (.ref w_COMPATIBLE), .val (.ref w_BREAKING), .unset] [])) _
        refine XS.iloadN X11.here hx rfl (hb hby at_20) rfl ?_
        show Steps p.tables e below (T11.setTop (mkF m 21 #[.val (.int p1), .val (.int p2), .val (.int (p1 &&& (1 : Int32))), .val (.int (p2 &&& (1 : Int32))), .val (.ref w_COMPATIBLE), .val (.ref w_BREAKING), .unset] [(.int (p1 &&& (1 : Int32)))])) _
        refine XS.ifNo X11.here hx rfl (hb hby at_21) rfl ((if0 _ _).trans (teq c8_2).2) ?_
        show Steps p.tables e below (T11.setTop (mkF m 24 #[.val (.int p1), .val (.int p2), .val (.int (p1 &&& (1 : Int32))), .val (.int (p2 &&& (1 : Int32))), .val (.ref w_COMPATIBLE), .val (.ref w_BREAKING), .unset] [])) _
        refine XS.iloadN X11.here hx rfl (hb hby at_24) rfl ?_
        show Steps p.tables e below (T11.setTop (mkF m 25 #[.val (.int p1), .val (.int p2), .val (.int (p1 &&& (1 : Int32))), .val (.int (p2 &&& (1 : Int32))), .val (.ref w_COMPATIBLE), .val (.ref w_BREAKING), .unset] [(.int (p2 &&& (1 : Int32)))])) _
        refine XS.ifNo X11.here hx rfl (hb hby at_25) rfl ((if0 _ _).trans (feq c14_5).1) ?_
        show Steps p.tables e below (T11.setTop (mkF m 28 #[.val (.int p1), .val (.int p2), .val (.int (p1 &&& (1 : Int32))), .val (.int (p2 &&& (1 : Int32))), .val (.ref w_COMPATIBLE), .val (.ref w_BREAKING), .unset] [])) _
        refine st12 _ ?_
        show Steps p.tables e below (T12.setTop (mkF m 31 #[.val (.int p1), .val (.int p2), .val (.int (p1 &&& (1 : Int32))), .val (.int (p2 &&& (1 : Int32))), .val (.ref w_COMPATIBLE), .val (.ref w_BREAKING), .unset] [(.ref w_BREAKING)])) _
        refine XS.astore X12.here hx rfl (hb hby at_31) rfl rfl (l' := #[.val (.int p1), .val (.int p2), .val (.int (p1 &&& (1 : Int32))), .val (.int (p2 &&& (1 : Int32))), .val (.ref w_COMPATIBLE), .val (.ref w_BREAKING), .val (.ref w_BREAKING)]) rfl ?_
        show Steps p.tables e below (T12.setTop (mkF m 33 #[.val (.int p1), .val (.int p2), .val (.int (p1 &&& (1 : Int32))), .val (.int (p2 &&& (1 : Int32))), .val (.ref w_COMPATIBLE), .val (.ref w_BREAKING), .val (.ref w_BREAKING)] [])) _
        refine XS.goto X12.here hx rfl (pc0 := 33) (pc' := 41) rfl (hb hby at_33) (by decide) (by decide) ?_
        show Steps p.tables e below (T12.setTop (mkF m 41 #[.val (.int p1), .val (.int p2), .val (.int (p1 &&& (1 : Int32))), .val (.int (p2 &&& (1 : Int32))), .val (.ref w_COMPATIBLE), .val (.ref w_BREAKING), .val (.ref w_BREAKING)] [])) _
        refine XS.aload X12.here hx rfl (hb hby at_41) rfl rfl ?_
        show Steps p.tables e below (T12.setTop (mkF m 43 #[.val (.int p1), .val (.int p2), .val (.int (p1 &&& (1 : Int32))), .val (.int (p2 &&& (1 : Int32))), .val (.ref w_COMPATIBLE), .val (.ref w_BREAKING), .val (.ref w_BREAKING)] [(.ref w_COMPATIBLE)])) _
        refine XS.aload X12.here hx rfl (hb hby at_43) rfl rfl ?_
        show Steps p.tables e below (T12.setTop (mkF m 45 #[.val (.int p1), .val (.int p2), .val (.int (p1 &&& (1 : Int32))), .val (.int (p2 &&& (1 : Int32))), .val (.ref w_COMPATIBLE), .val (.ref w_BREAKING), .val (.ref w_BREAKING)] [(.ref w_BREAKING), (.ref w_COMPATIBLE)])) _
        refine st13.trans ?_
        show Steps p.tables e below (T13.setTop (mkF m 48 #[.val (.int p1), .val (.int p2), .val (.int (p1 &&& (1 : Int32))), .val (.int (p2 &&& (1 : Int32))), .val (.ref w_COMPATIBLE), .val (.ref w_BREAKING), .val (.ref w_BREAKING)] [(.ref w_BREAKING)])) _
        refine XS.aload X13.here hx rfl (hb hby at_48) rfl rfl ?_
        show Steps p.tables e below (T13.setTop (mkF m 50 #[.val (.int p1), .val (.int p2), .val (.int (p1 &&& (1 : Int32))), .val (.int (p2 &&& (1 : Int32))), .val (.ref w_COMPATIBLE), .val (.ref w_BREAKING), .val (.ref w_BREAKING)] [(.ref w_BREAKING), (.ref w_BREAKING)])) _
        refine Jvm.RoadKit.acmp (g := (mkF m 50 #[.val (.int p1), .val (.int p2), .val (.int (p1 &&& (1 : Int32))), .val (.int (p2 &&& (1 : Int32))), .val (.ref w_COMPATIBLE), .val (.ref w_BREAKING), .val (.ref w_BREAKING)] [(.ref w_BREAKING), (.ref w_BREAKING)])) X13 hx rfl rfl rfl (pc0 := 50) (pc' := 53) (same := true) rfl (hb hby at_50) rfl (decide_eq_true rfl) (by decide) (by decide) ?_
        show Steps p.tables e below (T13.setTop (mkF m 53 #[.val (.int p1), .val (.int p2), .val (.int (p1 &&& (1 : Int32))), .val (.int (p2 &&& (1 : Int32))), .val (.ref w_COMPATIBLE), .val (.ref w_BREAKING), .val (.ref w_BREAKING)] [])) _
        refine XS.aload X13.here hx rfl (hb hby at_53) rfl rfl ?_
        show Steps p.tables e below (T13.setTop (mkF m 55 #[.val (.int p1), .val (.int p2), .val (.int (p1 &&& (1 : Int32))), .val (.int (p2 &&& (1 : Int32))), .val (.ref w_COMPATIBLE), .val (.ref w_BREAKING), .val (.ref w_BREAKING)] [(.ref w_BREAKING)])) _
        refine XS.aload X13.here hx rfl (hb hby at_55) rfl rfl ?_
        show Steps p.tables e below (T13.setTop (mkF m 57 #[.val (.int p1), .val (.int p2), .val (.int (p1 &&& (1 : Int32))), .val (.int (p2 &&& (1 : Int32))), .val (.ref w_COMPATIBLE), .val (.ref w_BREAKING), .val (.ref w_BREAKING)] [(.ref w_COMPATIBLE), (.ref w_BREAKING)])) _
        refine st14.trans ?_
        show Steps p.tables e below (T14.setTop (mkF m 60 #[.val (.int p1), .val (.int p2), .val (.int (p1 &&& (1 : Int32))), .val (.int (p2 &&& (1 : Int32))), .val (.ref w_COMPATIBLE), .val (.ref w_BREAKING), .val (.ref w_BREAKING)] [(.ref w_BREAKING)])) _
        refine XS.aload X14.here hx rfl (hb hby at_60) rfl rfl ?_
        show Steps p.tables e below (T14.setTop (mkF m 62 #[.val (.int p1), .val (.int p2), .val (.int (p1 &&& (1 : Int32))), .val (.int (p2 &&& (1 : Int32))), .val (.ref w_COMPATIBLE), .val (.ref w_BREAKING), .val (.ref w_BREAKING)] [(.ref w_BREAKING), (.ref w_BREAKING)])) _
        refine Jvm.RoadKit.acmp (g := (mkF m 62 #[.val (.int p1), .val (.int p2), .val (.int (p1 &&& (1 : Int32))), .val (.int (p2 &&& (1 : Int32))), .val (.ref w_COMPATIBLE), .val (.ref w_BREAKING), .val (.ref w_BREAKING)] [(.ref w_BREAKING), (.ref w_BREAKING)])) X14 hx rfl rfl rfl (pc0 := 62) (pc' := 65) (same := true) rfl (hb hby at_62) rfl (decide_eq_true rfl) (by decide) (by decide) ?_
        show Steps p.tables e below (T14.setTop (mkF m 65 #[.val (.int p1), .val (.int p2), .val (.int (p1 &&& (1 : Int32))), .val (.int (p2 &&& (1 : Int32))), .val (.ref w_COMPATIBLE), .val (.ref w_BREAKING), .val (.ref w_BREAKING)] [])) _
        refine XS.iconst X14.here hx rfl (hb hby at_65) ?_
        show Steps p.tables e below (T14.setTop (mkF m 66 #[.val (.int p1), .val (.int p2), .val (.int (p1 &&& (1 : Int32))), .val (.int (p2 &&& (1 : Int32))), .val (.ref w_COMPATIBLE), .val (.ref w_BREAKING), .val (.ref w_BREAKING)] [(.int (1 : Int32))])) _
        refine XS.goto X14.here hx rfl (pc0 := 66) (pc' := 70) rfl (hb hby at_66) (by decide) (by decide) ?_
        exact kt
      obtain ⟨fs, hr, hrun, hended, hW, hsame⟩ := X14.leave (v := some (.int (1 : Int32))) (fun h => by rw [Bd.returns] at h; cases h)
      refine ⟨_, _, pre15 _ ?_, hrun, hended, _, _, rfl, ?_, ⟨_, rfl⟩, hW, hsame.mono (by decide) (by decide)⟩
      · show Steps p.tables e below (T14.setTop (mkF m 70 #[.val (.int p1), .val (.int p2), .val (.int (p1 &&& (1 : Int32))), .val (.int (p2 &&& (1 : Int32))), .val (.ref w_COMPATIBLE), .val (.ref w_BREAKING), .val (.ref w_BREAKING)] [(.int (1 : Int32))])) _
        exact retN X14 hx (t := .boolean) Bd.returns (by simp) (hb hby at_70) hr
      · show Q0 Z h0 n0 _ T14.heap _
        rw [hE14]
        exact ⟨rfl, N14⟩
  · obtain ⟨_, _, ⟨T16, L16, k16, n16⟩, -, X16, ⟨Lc16, hQ16, l16, y16, z16⟩, st16⟩ := Jvm.LawKit.callS X0 hx (y := (⟨"com/example/driftwell/driftwell/VerdictWorstPinLaw", "pick", "(I)Lcom/example/driftwell/driftwell/Change$Verdict;"⟩ : MethodName)) hown (mvT hZ (hw _ (List.mem_of_getElem? (i := 0) rfl))) (mvT hZ (hw _ (List.mem_of_getElem? (i := 1) rfl))) (mvT hZ (hw _ (List.mem_of_getElem? (i := 2) rfl))) (mvT hZ (hw _ (List.mem_of_getElem? (i := 3) rfl))) (by decide) (backOf (W := 0) (rm1 l Z a0 hw [] (p1 &&& (1 : Int32)) w_BREAKING w_COMPATIBLE w_BREAKING h0 n0 Z0 S_BREAKING S_COMPATIBLE (if_neg c8_2).symm) hZ (hw _ (List.mem_of_getElem? (i := 3) rfl)) (hw _ (List.mem_of_getElem? (i := 2) rfl)) (by decide) (by decide)) (g := (mkF m 9 #[.val (.int p1), .val (.int p2), .val (.int (p1 &&& (1 : Int32))), .val (.int (p2 &&& (1 : Int32))), .unset, .unset, .unset] [(.int (p1 &&& (1 : Int32)))])) rfl (by rw [hml]; rfl) (argsL := [(.int (p1 &&& (1 : Int32)))]) (rest := []) (lenOf pd_rm0_0 rfl) rfl (by show 2 * 0 + _ ≤ _; exact Nat.le_of_eq rfl) (hb hby at_9) (fun _ _ => ⟨rfl, e0, (by decide : 0 + 0 ≤ _), (by decide : 0 + 0 ≤ _)⟩)
    dsimp only [Pt.U, Pt.locs, Pt.cells, Pt.slots] at X16 l16 y16 z16 st16 hQ16
    subst l16 y16 z16
    obtain ⟨rfl, N16q, hE16⟩ := hQ16
    have N16 := Fr.app N0 N16q
    have pre17 : ∀ tt, Steps p.tables e below (T16.setTop (mkF m 14 #[.val (.int p1), .val (.int p2), .val (.int (p1 &&& (1 : Int32))), .val (.int (p2 &&& (1 : Int32))), .val (.ref w_BREAKING), .unset, .unset] [])) tt → Steps p.tables e below (s₁.setTop (entryFrame m #[(.int p1), (.int p2)] maxLocals)) tt := by
      intro tt kt
      refine pre1 tt ?_
      show Steps p.tables e below (s₁.setTop (mkF m 8 #[.val (.int p1), .val (.int p2), .val (.int (p1 &&& (1 : Int32))), .val (.int (p2 &&& (1 : Int32))), .unset, .unset, .unset] [])) _
      refine XS.iloadN X0.here hx rfl (hb hby at_8) rfl ?_
      show Steps p.tables e below (s₁.setTop (mkF m 9 #[.val (.int p1), .val (.int p2), .val (.int (p1 &&& (1 : Int32))), .val (.int (p2 &&& (1 : Int32))), .unset, .unset, .unset] [(.int (p1 &&& (1 : Int32)))])) _
      refine st16 _ ?_
      show Steps p.tables e below (T16.setTop (mkF m 12 #[.val (.int p1), .val (.int p2), .val (.int (p1 &&& (1 : Int32))), .val (.int (p2 &&& (1 : Int32))), .unset, .unset, .unset] [(.ref w_BREAKING)])) _
      refine XS.astore X16.here hx rfl (hb hby at_12) rfl rfl (l' := #[.val (.int p1), .val (.int p2), .val (.int (p1 &&& (1 : Int32))), .val (.int (p2 &&& (1 : Int32))), .val (.ref w_BREAKING), .unset, .unset]) rfl ?_
      exact kt
    by_cases c14_18 : (p2 &&& (1 : Int32)) = (0 : Int32)
    · obtain ⟨_, _, ⟨T19, L19, k19, n19⟩, -, X19, ⟨Lc19, hQ19, l19, y19, z19⟩, st19⟩ := Jvm.LawKit.callS X16 hx (y := (⟨"com/example/driftwell/driftwell/VerdictWorstPinLaw", "pick", "(I)Lcom/example/driftwell/driftwell/Change$Verdict;"⟩ : MethodName)) hown (mvT hZ (hw _ (List.mem_of_getElem? (i := 0) rfl))) (mvT hZ (hw _ (List.mem_of_getElem? (i := 1) rfl))) (mvT hZ (hw _ (List.mem_of_getElem? (i := 2) rfl))) (mvT hZ (hw _ (List.mem_of_getElem? (i := 3) rfl))) (by decide) (backOf (W := 0) (rm1 l Z a0 hw [] (p2 &&& (1 : Int32)) w_BREAKING w_COMPATIBLE w_COMPATIBLE h0 n0 Z0 S_BREAKING S_COMPATIBLE (if_pos c14_18).symm) hZ (hw _ (List.mem_of_getElem? (i := 3) rfl)) (hw _ (List.mem_of_getElem? (i := 2) rfl)) (by decide) (by decide)) (g := (mkF m 15 #[.val (.int p1), .val (.int p2), .val (.int (p1 &&& (1 : Int32))), .val (.int (p2 &&& (1 : Int32))), .val (.ref w_BREAKING), .unset, .unset] [(.int (p2 &&& (1 : Int32)))])) rfl (by rw [hml]; rfl) (argsL := [(.int (p2 &&& (1 : Int32)))]) (rest := []) (lenOf pd_rm0_0 rfl) rfl (by show 2 * 0 + _ ≤ _; exact Nat.le_of_eq rfl) (hb hby at_15) (fun _ _ => ⟨rfl, hE16, (by decide : 0 + 0 ≤ _), (by decide : 0 + 0 ≤ _)⟩)
      dsimp only [Pt.U, Pt.locs, Pt.cells, Pt.slots] at X19 l19 y19 z19 st19 hQ19
      subst l19 y19 z19
      obtain ⟨rfl, N19q, hE19⟩ := hQ19
      have N19 := Fr.app N16 N19q
      obtain ⟨T20, X20, e20, st20⟩ := getS2 X19 hx hZ hown (host := "") (Or.inl (hw _ (List.mem_of_getElem? (i := 7) rfl))) Via.refl hE19 S_BREAKING (g := (mkF m 28 #[.val (.int p1), .val (.int p2), .val (.int (p1 &&& (1 : Int32))), .val (.int (p2 &&& (1 : Int32))), .val (.ref w_BREAKING), .val (.ref w_COMPATIBLE), .unset] [])) rfl (hb hby at_28)
      obtain ⟨cq21, kq21, q21a, q21b, q21c⟩ := isOf hZ e20 E_BREAKING
      obtain ⟨_, _, ⟨T21, L21, k21, n21⟩, -, X21, ⟨Lc21, hQ21, l21, y21, z21⟩, st21⟩ := X20.virtualBack hx (y := (⟨"com/example/driftwell/driftwell/Change$Verdict", "worst", "(Lcom/example/driftwell/driftwell/Change$Verdict;)Lcom/example/driftwell/driftwell/Change$Verdict;"⟩ : MethodName)) (z := (⟨"com/example/driftwell/driftwell/Change$Verdict", "worst", "(Lcom/example/driftwell/driftwell/Change$Verdict;)Lcom/example/driftwell/driftwell/Change$Verdict;"⟩ : MethodName)) hown (mvT hZ (hw _ (List.mem_of_getElem? (i := 9) rfl))) (mvT hZ (hw _ (List.mem_of_getElem? (i := 10) rfl))) (notFace_of_selects (args := #[]) (mvT hZ (hw _ (List.mem_of_getElem? (i := 12) rfl)))) (mvT hZ (hw _ (List.mem_of_getElem? (i := 12) rfl))) (mvT hZ (hw _ (List.mem_of_getElem? (i := 11) rfl))) (by decide) (backOf (W := 0) (rm2 l Z a0 hw [] w_BREAKING w_COMPATIBLE w_BREAKING w_BREAKING h0 n0 Z0 S_BREAKING (if_pos rfl).symm) hZ (hw _ (List.mem_of_getElem? (i := 13) rfl)) (hw _ (List.mem_of_getElem? (i := 5) rfl)) (by decide) (by decide)) q21a q21c (g := (mkF m 45 #[.val (.int p1), .val (.int p2), .val (.int (p1 &&& (1 : Int32))), .val (.int (p2 &&& (1 : Int32))), .val (.ref w_BREAKING), .val (.ref w_COMPATIBLE), .val (.ref w_BREAKING)] [(.ref w_COMPATIBLE), (.ref w_BREAKING)])) rfl (by rw [hml]; rfl) (Steps.refl _) (argsL := [(.ref w_COMPATIBLE)]) (rest := []) (lenOf pd_rm0_1 rfl) rfl (by show 2 * 0 + _ ≤ _; exact Nat.le_of_eq rfl) (hb hby at_45) (fun _ _ => ⟨rfl, e20, (by decide : 0 + 0 ≤ _), (by decide : 0 + 0 ≤ _)⟩)
      dsimp only [Pt.U, Pt.locs, Pt.cells, Pt.slots] at X21 l21 y21 z21 st21 hQ21
      subst l21 y21 z21
      obtain ⟨rfl, N21q, hE21⟩ := hQ21
      have N21 := Fr.app N19 N21q
      obtain ⟨cq22, kq22, q22a, q22b, q22c⟩ := isOf hZ hE21 E_COMPATIBLE
      obtain ⟨_, _, ⟨T22, L22, k22, n22⟩, -, X22, ⟨Lc22, hQ22, l22, y22, z22⟩, st22⟩ := X21.virtualBack hx (y := (⟨"com/example/driftwell/driftwell/Change$Verdict", "worst", "(Lcom/example/driftwell/driftwell/Change$Verdict;)Lcom/example/driftwell/driftwell/Change$Verdict;"⟩ : MethodName)) (z := (⟨"com/example/driftwell/driftwell/Change$Verdict", "worst", "(Lcom/example/driftwell/driftwell/Change$Verdict;)Lcom/example/driftwell/driftwell/Change$Verdict;"⟩ : MethodName)) hown (mvT hZ (hw _ (List.mem_of_getElem? (i := 9) rfl))) (mvT hZ (hw _ (List.mem_of_getElem? (i := 10) rfl))) (notFace_of_selects (args := #[]) (mvT hZ (hw _ (List.mem_of_getElem? (i := 12) rfl)))) (mvT hZ (hw _ (List.mem_of_getElem? (i := 12) rfl))) (mvT hZ (hw _ (List.mem_of_getElem? (i := 11) rfl))) (by decide) (backOf (W := 0) (rm2 l Z a0 hw [] w_COMPATIBLE w_BREAKING w_BREAKING w_BREAKING h0 n0 Z0 S_BREAKING (if_neg nCB).symm) hZ (hw _ (List.mem_of_getElem? (i := 13) rfl)) (hw _ (List.mem_of_getElem? (i := 5) rfl)) (by decide) (by decide)) q22a q22c (g := (mkF m 57 #[.val (.int p1), .val (.int p2), .val (.int (p1 &&& (1 : Int32))), .val (.int (p2 &&& (1 : Int32))), .val (.ref w_BREAKING), .val (.ref w_COMPATIBLE), .val (.ref w_BREAKING)] [(.ref w_BREAKING), (.ref w_COMPATIBLE)])) rfl (by rw [hml]; rfl) (Steps.refl _) (argsL := [(.ref w_BREAKING)]) (rest := []) (lenOf pd_rm0_1 rfl) rfl (by show 2 * 0 + _ ≤ _; exact Nat.le_of_eq rfl) (hb hby at_57) (fun _ _ => ⟨rfl, hE21, (by decide : 0 + 0 ≤ _), (by decide : 0 + 0 ≤ _)⟩)
      dsimp only [Pt.U, Pt.locs, Pt.cells, Pt.slots] at X22 l22 y22 z22 st22 hQ22
      subst l22 y22 z22
      obtain ⟨rfl, N22q, hE22⟩ := hQ22
      have N22 := Fr.app N21 N22q
      have pre23 : ∀ tt, Steps p.tables e below (T22.setTop (mkF m 70 #[.val (.int p1), .val (.int p2), .val (.int (p1 &&& (1 : Int32))), .val (.int (p2 &&& (1 : Int32))), .val (.ref w_BREAKING), .val (.ref w_COMPATIBLE), .val (.ref w_BREAKING)] [(.int (1 : Int32))])) tt → Steps p.tables e below (s₁.setTop (entryFrame m #[(.int p1), (.int p2)] maxLocals)) tt := by
        intro tt kt
        refine pre17 tt ?_
        show Steps p.tables e below (T16.setTop (mkF m 14 #[.val (.int p1), .val (.int p2), .val (.int (p1 &&& (1 : Int32))), .val (.int (p2 &&& (1 : Int32))), .val (.ref w_BREAKING), .unset, .unset] [])) _
        refine XS.iloadN X16.here hx rfl (hb hby at_14) rfl ?_
        show Steps p.tables e below (T16.setTop (mkF m 15 #[.val (.int p1), .val (.int p2), .val (.int (p1 &&& (1 : Int32))), .val (.int (p2 &&& (1 : Int32))), .val (.ref w_BREAKING), .unset, .unset] [(.int (p2 &&& (1 : Int32)))])) _
        refine st19 _ ?_
        show Steps p.tables e below (T19.setTop (mkF m 18 #[.val (.int p1), .val (.int p2), .val (.int (p1 &&& (1 : Int32))), .val (.int (p2 &&& (1 : Int32))), .val (.ref w_BREAKING), .unset, .unset] [(.ref w_COMPATIBLE)])) _
        refine XS.astore X19.here hx rfl (hb hby at_18) rfl rfl (l' := #[.val (.int p1), .val (.int p2), .val (.int (p1 &&& (1 : Int32))), .val (.int (p2 &&& (1 : Int32))), .val (.ref w_BREAKING), .val (.ref w_COMPATIBLE), .unset]) rfl ?_
        show Steps p.tables e below (T19.setTop (mkF m 20 #[.val (.int p1), .val (.int p2), .val (.int (p1 &&& (1 : Int32))), .val (.int (p2 &&& (1 : Int32))), .val (.ref w_BREAKING), .val (.ref w_COMPATIBLE), .unset] [])) _
        refine XS.iloadN X19.here hx rfl (hb hby at_20) rfl ?_
        show Steps p.tables e below (T19.setTop (mkF m 21 #[.val (.int p1), .val (.int p2), .val (.int (p1 &&& (1 : Int32))), .val (.int (p2 &&& (1 : Int32))), .val (.ref w_BREAKING), .val (.ref w_COMPATIBLE), .unset] [(.int (p1 &&& (1 : Int32)))])) _
        refine XS.ifYes X19.here hx rfl (pc0 := 21) (pc' := 28) rfl (hb hby at_21) rfl ((if0 _ _).trans (feq c8_2).2) (by decide) (by decide) ?_
        show Steps p.tables e below (T19.setTop (mkF m 28 #[.val (.int p1), .val (.int p2), .val (.int (p1 &&& (1 : Int32))), .val (.int (p2 &&& (1 : Int32))), .val (.ref w_BREAKING), .val (.ref w_COMPATIBLE), .unset] [])) _
        refine st20 _ ?_
        show Steps p.tables e below (T20.setTop (mkF m 31 #[.val (.int p1), .val (.int p2), .val (.int (p1 &&& (1 : Int32))), .val (.int (p2 &&& (1 : Int32))), .val (.ref w_BREAKING), .val (.ref w_COMPATIBLE), .unset] [(.ref w_BREAKING)])) _
        refine XS.astore X20.here hx rfl (hb hby at_31) rfl rfl (l' := #[.val (.int p1), .val (.int p2), .val (.int (p1 &&& (1 : Int32))), .val (.int (p2 &&& (1 : Int32))), .val (.ref w_BREAKING), .val (.ref w_COMPATIBLE), .val (.ref w_BREAKING)]) rfl ?_
        show Steps p.tables e below (T20.setTop (mkF m 33 #[.val (.int p1), .val (.int p2), .val (.int (p1 &&& (1 : Int32))), .val (.int (p2 &&& (1 : Int32))), .val (.ref w_BREAKING), .val (.ref w_COMPATIBLE), .val (.ref w_BREAKING)] [])) _
        refine XS.goto X20.here hx rfl (pc0 := 33) (pc' := 41) rfl (hb hby at_33) (by decide) (by decide) ?_
        show Steps p.tables e below (T20.setTop (mkF m 41 #[.val (.int p1), .val (.int p2), .val (.int (p1 &&& (1 : Int32))), .val (.int (p2 &&& (1 : Int32))), .val (.ref w_BREAKING), .val (.ref w_COMPATIBLE), .val (.ref w_BREAKING)] [])) _
        refine XS.aload X20.here hx rfl (hb hby at_41) rfl rfl ?_
        show Steps p.tables e below (T20.setTop (mkF m 43 #[.val (.int p1), .val (.int p2), .val (.int (p1 &&& (1 : Int32))), .val (.int (p2 &&& (1 : Int32))), .val (.ref w_BREAKING), .val (.ref w_COMPATIBLE), .val (.ref w_BREAKING)] [(.ref w_BREAKING)])) _
        refine XS.aload X20.here hx rfl (hb hby at_43) rfl rfl ?_
        show Steps p.tables e below (T20.setTop (mkF m 45 #[.val (.int p1), .val (.int p2), .val (.int (p1 &&& (1 : Int32))), .val (.int (p2 &&& (1 : Int32))), .val (.ref w_BREAKING), .val (.ref w_COMPATIBLE), .val (.ref w_BREAKING)] [(.ref w_COMPATIBLE), (.ref w_BREAKING)])) _
        refine st21.trans ?_
        show Steps p.tables e below (T21.setTop (mkF m 48 #[.val (.int p1), .val (.int p2), .val (.int (p1 &&& (1 : Int32))), .val (.int (p2 &&& (1 : Int32))), .val (.ref w_BREAKING), .val (.ref w_COMPATIBLE), .val (.ref w_BREAKING)] [(.ref w_BREAKING)])) _
        refine XS.aload X21.here hx rfl (hb hby at_48) rfl rfl ?_
        show Steps p.tables e below (T21.setTop (mkF m 50 #[.val (.int p1), .val (.int p2), .val (.int (p1 &&& (1 : Int32))), .val (.int (p2 &&& (1 : Int32))), .val (.ref w_BREAKING), .val (.ref w_COMPATIBLE), .val (.ref w_BREAKING)] [(.ref w_BREAKING), (.ref w_BREAKING)])) _
        refine Jvm.RoadKit.acmp (g := (mkF m 50 #[.val (.int p1), .val (.int p2), .val (.int (p1 &&& (1 : Int32))), .val (.int (p2 &&& (1 : Int32))), .val (.ref w_BREAKING), .val (.ref w_COMPATIBLE), .val (.ref w_BREAKING)] [(.ref w_BREAKING), (.ref w_BREAKING)])) X21 hx rfl rfl rfl (pc0 := 50) (pc' := 53) (same := true) rfl (hb hby at_50) rfl (decide_eq_true rfl) (by decide) (by decide) ?_
        show Steps p.tables e below (T21.setTop (mkF m 53 #[.val (.int p1), .val (.int p2), .val (.int (p1 &&& (1 : Int32))), .val (.int (p2 &&& (1 : Int32))), .val (.ref w_BREAKING), .val (.ref w_COMPATIBLE), .val (.ref w_BREAKING)] [])) _
        refine XS.aload X21.here hx rfl (hb hby at_53) rfl rfl ?_
        show Steps p.tables e below (T21.setTop (mkF m 55 #[.val (.int p1), .val (.int p2), .val (.int (p1 &&& (1 : Int32))), .val (.int (p2 &&& (1 : Int32))), .val (.ref w_BREAKING), .val (.ref w_COMPATIBLE), .val (.ref w_BREAKING)] [(.ref w_COMPATIBLE)])) _
        refine XS.aload X21.here hx rfl (hb hby at_55) rfl rfl ?_
        show Steps p.tables e below (T21.setTop (mkF m 57 #[.val (.int p1), .val (.int p2), .val (.int (p1 &&& (1 : Int32))), .val (.int (p2 &&& (1 : Int32))), .val (.ref w_BREAKING), .val (.ref w_COMPATIBLE), .val (.ref w_BREAKING)] [(.ref w_BREAKING), (.ref w_COMPATIBLE)])) _
        refine st22.trans ?_
        show Steps p.tables e below (T22.setTop (mkF m 60 #[.val (.int p1), .val (.int p2), .val (.int (p1 &&& (1 : Int32))), .val (.int (p2 &&& (1 : Int32))), .val (.ref w_BREAKING), .val (.ref w_COMPATIBLE), .val (.ref w_BREAKING)] [(.ref w_BREAKING)])) _
        refine XS.aload X22.here hx rfl (hb hby at_60) rfl rfl ?_
        show Steps p.tables e below (T22.setTop (mkF m 62 #[.val (.int p1), .val (.int p2), .val (.int (p1 &&& (1 : Int32))), .val (.int (p2 &&& (1 : Int32))), .val (.ref w_BREAKING), .val (.ref w_COMPATIBLE), .val (.ref w_BREAKING)] [(.ref w_BREAKING), (.ref w_BREAKING)])) _
        refine Jvm.RoadKit.acmp (g := (mkF m 62 #[.val (.int p1), .val (.int p2), .val (.int (p1 &&& (1 : Int32))), .val (.int (p2 &&& (1 : Int32))), .val (.ref w_BREAKING), .val (.ref w_COMPATIBLE), .val (.ref w_BREAKING)] [(.ref w_BREAKING), (.ref w_BREAKING)])) X22 hx rfl rfl rfl (pc0 := 62) (pc' := 65) (same := true) rfl (hb hby at_62) rfl (decide_eq_true rfl) (by decide) (by decide) ?_
        show Steps p.tables e below (T22.setTop (mkF m 65 #[.val (.int p1), .val (.int p2), .val (.int (p1 &&& (1 : Int32))), .val (.int (p2 &&& (1 : Int32))), .val (.ref w_BREAKING), .val (.ref w_COMPATIBLE), .val (.ref w_BREAKING)] [])) _
        refine XS.iconst X22.here hx rfl (hb hby at_65) ?_
        show Steps p.tables e below (T22.setTop (mkF m 66 #[.val (.int p1), .val (.int p2), .val (.int (p1 &&& (1 : Int32))), .val (.int (p2 &&& (1 : Int32))), .val (.ref w_BREAKING), .val (.ref w_COMPATIBLE), .val (.ref w_BREAKING)] [(.int (1 : Int32))])) _
        refine XS.goto X22.here hx rfl (pc0 := 66) (pc' := 70) rfl (hb hby at_66) (by decide) (by decide) ?_
        exact kt
      obtain ⟨fs, hr, hrun, hended, hW, hsame⟩ := X22.leave (v := some (.int (1 : Int32))) (fun h => by rw [Bd.returns] at h; cases h)
      refine ⟨_, _, pre23 _ ?_, hrun, hended, _, _, rfl, ?_, ⟨_, rfl⟩, hW, hsame.mono (by decide) (by decide)⟩
      · show Steps p.tables e below (T22.setTop (mkF m 70 #[.val (.int p1), .val (.int p2), .val (.int (p1 &&& (1 : Int32))), .val (.int (p2 &&& (1 : Int32))), .val (.ref w_BREAKING), .val (.ref w_COMPATIBLE), .val (.ref w_BREAKING)] [(.int (1 : Int32))])) _
        exact retN X22 hx (t := .boolean) Bd.returns (by simp) (hb hby at_70) hr
      · show Q0 Z h0 n0 _ T22.heap _
        rw [hE22]
        exact ⟨rfl, N22⟩
    · obtain ⟨_, _, ⟨T24, L24, k24, n24⟩, -, X24, ⟨Lc24, hQ24, l24, y24, z24⟩, st24⟩ := Jvm.LawKit.callS X16 hx (y := (⟨"com/example/driftwell/driftwell/VerdictWorstPinLaw", "pick", "(I)Lcom/example/driftwell/driftwell/Change$Verdict;"⟩ : MethodName)) hown (mvT hZ (hw _ (List.mem_of_getElem? (i := 0) rfl))) (mvT hZ (hw _ (List.mem_of_getElem? (i := 1) rfl))) (mvT hZ (hw _ (List.mem_of_getElem? (i := 2) rfl))) (mvT hZ (hw _ (List.mem_of_getElem? (i := 3) rfl))) (by decide) (backOf (W := 0) (rm1 l Z a0 hw [] (p2 &&& (1 : Int32)) w_BREAKING w_COMPATIBLE w_BREAKING h0 n0 Z0 S_BREAKING S_COMPATIBLE (if_neg c14_18).symm) hZ (hw _ (List.mem_of_getElem? (i := 3) rfl)) (hw _ (List.mem_of_getElem? (i := 2) rfl)) (by decide) (by decide)) (g := (mkF m 15 #[.val (.int p1), .val (.int p2), .val (.int (p1 &&& (1 : Int32))), .val (.int (p2 &&& (1 : Int32))), .val (.ref w_BREAKING), .unset, .unset] [(.int (p2 &&& (1 : Int32)))])) rfl (by rw [hml]; rfl) (argsL := [(.int (p2 &&& (1 : Int32)))]) (rest := []) (lenOf pd_rm0_0 rfl) rfl (by show 2 * 0 + _ ≤ _; exact Nat.le_of_eq rfl) (hb hby at_15) (fun _ _ => ⟨rfl, hE16, (by decide : 0 + 0 ≤ _), (by decide : 0 + 0 ≤ _)⟩)
      dsimp only [Pt.U, Pt.locs, Pt.cells, Pt.slots] at X24 l24 y24 z24 st24 hQ24
      subst l24 y24 z24
      obtain ⟨rfl, N24q, hE24⟩ := hQ24
      have N24 := Fr.app N16 N24q
      obtain ⟨T25, X25, e25, st25⟩ := getS2 X24 hx hZ hown (host := "") (Or.inl (hw _ (List.mem_of_getElem? (i := 7) rfl))) Via.refl hE24 S_BREAKING (g := (mkF m 28 #[.val (.int p1), .val (.int p2), .val (.int (p1 &&& (1 : Int32))), .val (.int (p2 &&& (1 : Int32))), .val (.ref w_BREAKING), .val (.ref w_BREAKING), .unset] [])) rfl (hb hby at_28)
      obtain ⟨cq26, kq26, q26a, q26b, q26c⟩ := isOf hZ e25 E_BREAKING
      obtain ⟨_, _, ⟨T26, L26, k26, n26⟩, -, X26, ⟨Lc26, hQ26, l26, y26, z26⟩, st26⟩ := X25.virtualBack hx (y := (⟨"com/example/driftwell/driftwell/Change$Verdict", "worst", "(Lcom/example/driftwell/driftwell/Change$Verdict;)Lcom/example/driftwell/driftwell/Change$Verdict;"⟩ : MethodName)) (z := (⟨"com/example/driftwell/driftwell/Change$Verdict", "worst", "(Lcom/example/driftwell/driftwell/Change$Verdict;)Lcom/example/driftwell/driftwell/Change$Verdict;"⟩ : MethodName)) hown (mvT hZ (hw _ (List.mem_of_getElem? (i := 9) rfl))) (mvT hZ (hw _ (List.mem_of_getElem? (i := 10) rfl))) (notFace_of_selects (args := #[]) (mvT hZ (hw _ (List.mem_of_getElem? (i := 12) rfl)))) (mvT hZ (hw _ (List.mem_of_getElem? (i := 12) rfl))) (mvT hZ (hw _ (List.mem_of_getElem? (i := 11) rfl))) (by decide) (backOf (W := 0) (rm2 l Z a0 hw [] w_BREAKING w_BREAKING w_BREAKING w_BREAKING h0 n0 Z0 S_BREAKING (if_pos rfl).symm) hZ (hw _ (List.mem_of_getElem? (i := 13) rfl)) (hw _ (List.mem_of_getElem? (i := 5) rfl)) (by decide) (by decide)) q26a q26c (g := (mkF m 45 #[.val (.int p1), .val (.int p2), .val (.int (p1 &&& (1 : Int32))), .val (.int (p2 &&& (1 : Int32))), .val (.ref w_BREAKING), .val (.ref w_BREAKING), .val (.ref w_BREAKING)] [(.ref w_BREAKING), (.ref w_BREAKING)])) rfl (by rw [hml]; rfl) (Steps.refl _) (argsL := [(.ref w_BREAKING)]) (rest := []) (lenOf pd_rm0_1 rfl) rfl (by show 2 * 0 + _ ≤ _; exact Nat.le_of_eq rfl) (hb hby at_45) (fun _ _ => ⟨rfl, e25, (by decide : 0 + 0 ≤ _), (by decide : 0 + 0 ≤ _)⟩)
      dsimp only [Pt.U, Pt.locs, Pt.cells, Pt.slots] at X26 l26 y26 z26 st26 hQ26
      subst l26 y26 z26
      obtain ⟨rfl, N26q, hE26⟩ := hQ26
      have N26 := Fr.app N24 N26q
      obtain ⟨cq27, kq27, q27a, q27b, q27c⟩ := isOf hZ hE26 E_BREAKING
      obtain ⟨_, _, ⟨T27, L27, k27, n27⟩, -, X27, ⟨Lc27, hQ27, l27, y27, z27⟩, st27⟩ := X26.virtualBack hx (y := (⟨"com/example/driftwell/driftwell/Change$Verdict", "worst", "(Lcom/example/driftwell/driftwell/Change$Verdict;)Lcom/example/driftwell/driftwell/Change$Verdict;"⟩ : MethodName)) (z := (⟨"com/example/driftwell/driftwell/Change$Verdict", "worst", "(Lcom/example/driftwell/driftwell/Change$Verdict;)Lcom/example/driftwell/driftwell/Change$Verdict;"⟩ : MethodName)) hown (mvT hZ (hw _ (List.mem_of_getElem? (i := 9) rfl))) (mvT hZ (hw _ (List.mem_of_getElem? (i := 10) rfl))) (notFace_of_selects (args := #[]) (mvT hZ (hw _ (List.mem_of_getElem? (i := 12) rfl)))) (mvT hZ (hw _ (List.mem_of_getElem? (i := 12) rfl))) (mvT hZ (hw _ (List.mem_of_getElem? (i := 11) rfl))) (by decide) (backOf (W := 0) (rm2 l Z a0 hw [] w_BREAKING w_BREAKING w_BREAKING w_BREAKING h0 n0 Z0 S_BREAKING (if_pos rfl).symm) hZ (hw _ (List.mem_of_getElem? (i := 13) rfl)) (hw _ (List.mem_of_getElem? (i := 5) rfl)) (by decide) (by decide)) q27a q27c (g := (mkF m 57 #[.val (.int p1), .val (.int p2), .val (.int (p1 &&& (1 : Int32))), .val (.int (p2 &&& (1 : Int32))), .val (.ref w_BREAKING), .val (.ref w_BREAKING), .val (.ref w_BREAKING)] [(.ref w_BREAKING), (.ref w_BREAKING)])) rfl (by rw [hml]; rfl) (Steps.refl _) (argsL := [(.ref w_BREAKING)]) (rest := []) (lenOf pd_rm0_1 rfl) rfl (by show 2 * 0 + _ ≤ _; exact Nat.le_of_eq rfl) (hb hby at_57) (fun _ _ => ⟨rfl, hE26, (by decide : 0 + 0 ≤ _), (by decide : 0 + 0 ≤ _)⟩)
      dsimp only [Pt.U, Pt.locs, Pt.cells, Pt.slots] at X27 l27 y27 z27 st27 hQ27
      subst l27 y27 z27
      obtain ⟨rfl, N27q, hE27⟩ := hQ27
      have N27 := Fr.app N26 N27q
      have pre28 : ∀ tt, Steps p.tables e below (T27.setTop (mkF m 70 #[.val (.int p1), .val (.int p2), .val (.int (p1 &&& (1 : Int32))), .val (.int (p2 &&& (1 : Int32))), .val (.ref w_BREAKING), .val (.ref w_BREAKING), .val (.ref w_BREAKING)] [(.int (1 : Int32))])) tt → Steps p.tables e below (s₁.setTop (entryFrame m #[(.int p1), (.int p2)] maxLocals)) tt := by
        intro tt kt
        refine pre17 tt ?_
        show Steps p.tables e below (T16.setTop (mkF m 14 #[.val (.int p1), .val (.int p2), .val (.int (p1 &&& (1 : Int32))), .val (.int (p2 &&& (1 : Int32))), .val (.ref w_BREAKING), .unset, .unset] [])) _
        refine XS.iloadN X16.here hx rfl (hb hby at_14) rfl ?_
        show Steps p.tables e below (T16.setTop (mkF m 15 #[.val (.int p1), .val (.int p2), .val (.int (p1 &&& (1 : Int32))), .val (.int (p2 &&& (1 : Int32))), .val (.ref w_BREAKING), .unset, .unset] [(.int (p2 &&& (1 : Int32)))])) _
        refine st24 _ ?_
        show Steps p.tables e below (T24.setTop (mkF m 18 #[.val (.int p1), .val (.int p2), .val (.int (p1 &&& (1 : Int32))), .val (.int (p2 &&& (1 : Int32))), .val (.ref w_BREAKING), .unset, .unset] [(.ref w_BREAKING)])) _
        refine XS.astore X24.here hx rfl (hb hby at_18) rfl rfl (l' := #[.val (.int p1), .val (.int p2), .val (.int (p1 &&& (1 : Int32))), .val (.int (p2 &&& (1 : Int32))), .val (.ref w_BREAKING), .val (.ref w_BREAKING), .unset]) rfl ?_
        show Steps p.tables e below (T24.setTop (mkF m 20 #[.val (.int p1), .val (.int p2), .val (.int (p1 &&& (1 : Int32))), .val (.int (p2 &&& (1 : Int32))), .val (.ref w_BREAKING), .val (.ref w_BREAKING), .unset] [])) _
        refine XS.iloadN X24.here hx rfl (hb hby at_20) rfl ?_
        show Steps p.tables e below (T24.setTop (mkF m 21 #[.val (.int p1), .val (.int p2), .val (.int (p1 &&& (1 : Int32))), .val (.int (p2 &&& (1 : Int32))), .val (.ref w_BREAKING), .val (.ref w_BREAKING), .unset] [(.int (p1 &&& (1 : Int32)))])) _
        refine XS.ifYes X24.here hx rfl (pc0 := 21) (pc' := 28) rfl (hb hby at_21) rfl ((if0 _ _).trans (feq c8_2).2) (by decide) (by decide) ?_
        show Steps p.tables e below (T24.setTop (mkF m 28 #[.val (.int p1), .val (.int p2), .val (.int (p1 &&& (1 : Int32))), .val (.int (p2 &&& (1 : Int32))), .val (.ref w_BREAKING), .val (.ref w_BREAKING), .unset] [])) _
        refine st25 _ ?_
        show Steps p.tables e below (T25.setTop (mkF m 31 #[.val (.int p1), .val (.int p2), .val (.int (p1 &&& (1 : Int32))), .val (.int (p2 &&& (1 : Int32))), .val (.ref w_BREAKING), .val (.ref w_BREAKING), .unset] [(.ref w_BREAKING)])) _
        refine XS.astore X25.here hx rfl (hb hby at_31) rfl rfl (l' := #[.val (.int p1), .val (.int p2), .val (.int (p1 &&& (1 : Int32))), .val (.int (p2 &&& (1 : Int32))), .val (.ref w_BREAKING), .val (.ref w_BREAKING), .val (.ref w_BREAKING)]) rfl ?_
        show Steps p.tables e below (T25.setTop (mkF m 33 #[.val (.int p1), .val (.int p2), .val (.int (p1 &&& (1 : Int32))), .val (.int (p2 &&& (1 : Int32))), .val (.ref w_BREAKING), .val (.ref w_BREAKING), .val (.ref w_BREAKING)] [])) _
        refine XS.goto X25.here hx rfl (pc0 := 33) (pc' := 41) rfl (hb hby at_33) (by decide) (by decide) ?_
        show Steps p.tables e below (T25.setTop (mkF m 41 #[.val (.int p1), .val (.int p2), .val (.int (p1 &&& (1 : Int32))), .val (.int (p2 &&& (1 : Int32))), .val (.ref w_BREAKING), .val (.ref w_BREAKING), .val (.ref w_BREAKING)] [])) _
        refine XS.aload X25.here hx rfl (hb hby at_41) rfl rfl ?_
        show Steps p.tables e below (T25.setTop (mkF m 43 #[.val (.int p1), .val (.int p2), .val (.int (p1 &&& (1 : Int32))), .val (.int (p2 &&& (1 : Int32))), .val (.ref w_BREAKING), .val (.ref w_BREAKING), .val (.ref w_BREAKING)] [(.ref w_BREAKING)])) _
        refine XS.aload X25.here hx rfl (hb hby at_43) rfl rfl ?_
        show Steps p.tables e below (T25.setTop (mkF m 45 #[.val (.int p1), .val (.int p2), .val (.int (p1 &&& (1 : Int32))), .val (.int (p2 &&& (1 : Int32))), .val (.ref w_BREAKING), .val (.ref w_BREAKING), .val (.ref w_BREAKING)] [(.ref w_BREAKING), (.ref w_BREAKING)])) _
        refine st26.trans ?_
        show Steps p.tables e below (T26.setTop (mkF m 48 #[.val (.int p1), .val (.int p2), .val (.int (p1 &&& (1 : Int32))), .val (.int (p2 &&& (1 : Int32))), .val (.ref w_BREAKING), .val (.ref w_BREAKING), .val (.ref w_BREAKING)] [(.ref w_BREAKING)])) _
        refine XS.aload X26.here hx rfl (hb hby at_48) rfl rfl ?_
        show Steps p.tables e below (T26.setTop (mkF m 50 #[.val (.int p1), .val (.int p2), .val (.int (p1 &&& (1 : Int32))), .val (.int (p2 &&& (1 : Int32))), .val (.ref w_BREAKING), .val (.ref w_BREAKING), .val (.ref w_BREAKING)] [(.ref w_BREAKING), (.ref w_BREAKING)])) _
        refine Jvm.RoadKit.acmp (g := (mkF m 50 #[.val (.int p1), .val (.int p2), .val (.int (p1 &&& (1 : Int32))), .val (.int (p2 &&& (1 : Int32))), .val (.ref w_BREAKING), .val (.ref w_BREAKING), .val (.ref w_BREAKING)] [(.ref w_BREAKING), (.ref w_BREAKING)])) X26 hx rfl rfl rfl (pc0 := 50) (pc' := 53) (same := true) rfl (hb hby at_50) rfl (decide_eq_true rfl) (by decide) (by decide) ?_
        show Steps p.tables e below (T26.setTop (mkF m 53 #[.val (.int p1), .val (.int p2), .val (.int (p1 &&& (1 : Int32))), .val (.int (p2 &&& (1 : Int32))), .val (.ref w_BREAKING), .val (.ref w_BREAKING), .val (.ref w_BREAKING)] [])) _
        refine XS.aload X26.here hx rfl (hb hby at_53) rfl rfl ?_
        show Steps p.tables e below (T26.setTop (mkF m 55 #[.val (.int p1), .val (.int p2), .val (.int (p1 &&& (1 : Int32))), .val (.int (p2 &&& (1 : Int32))), .val (.ref w_BREAKING), .val (.ref w_BREAKING), .val (.ref w_BREAKING)] [(.ref w_BREAKING)])) _
        refine XS.aload X26.here hx rfl (hb hby at_55) rfl rfl ?_
        show Steps p.tables e below (T26.setTop (mkF m 57 #[.val (.int p1), .val (.int p2), .val (.int (p1 &&& (1 : Int32))), .val (.int (p2 &&& (1 : Int32))), .val (.ref w_BREAKING), .val (.ref w_BREAKING), .val (.ref w_BREAKING)] [(.ref w_BREAKING), (.ref w_BREAKING)])) _
        refine st27.trans ?_
        show Steps p.tables e below (T27.setTop (mkF m 60 #[.val (.int p1), .val (.int p2), .val (.int (p1 &&& (1 : Int32))), .val (.int (p2 &&& (1 : Int32))), .val (.ref w_BREAKING), .val (.ref w_BREAKING), .val (.ref w_BREAKING)] [(.ref w_BREAKING)])) _
        refine XS.aload X27.here hx rfl (hb hby at_60) rfl rfl ?_
        show Steps p.tables e below (T27.setTop (mkF m 62 #[.val (.int p1), .val (.int p2), .val (.int (p1 &&& (1 : Int32))), .val (.int (p2 &&& (1 : Int32))), .val (.ref w_BREAKING), .val (.ref w_BREAKING), .val (.ref w_BREAKING)] [(.ref w_BREAKING), (.ref w_BREAKING)])) _
        refine Jvm.RoadKit.acmp (g := (mkF m 62 #[.val (.int p1), .val (.int p2), .val (.int (p1 &&& (1 : Int32))), .val (.int (p2 &&& (1 : Int32))), .val (.ref w_BREAKING), .val (.ref w_BREAKING), .val (.ref w_BREAKING)] [(.ref w_BREAKING), (.ref w_BREAKING)])) X27 hx rfl rfl rfl (pc0 := 62) (pc' := 65) (same := true) rfl (hb hby at_62) rfl (decide_eq_true rfl) (by decide) (by decide) ?_
        show Steps p.tables e below (T27.setTop (mkF m 65 #[.val (.int p1), .val (.int p2), .val (.int (p1 &&& (1 : Int32))), .val (.int (p2 &&& (1 : Int32))), .val (.ref w_BREAKING), .val (.ref w_BREAKING), .val (.ref w_BREAKING)] [])) _
        refine XS.iconst X27.here hx rfl (hb hby at_65) ?_
        show Steps p.tables e below (T27.setTop (mkF m 66 #[.val (.int p1), .val (.int p2), .val (.int (p1 &&& (1 : Int32))), .val (.int (p2 &&& (1 : Int32))), .val (.ref w_BREAKING), .val (.ref w_BREAKING), .val (.ref w_BREAKING)] [(.int (1 : Int32))])) _
        refine XS.goto X27.here hx rfl (pc0 := 66) (pc' := 70) rfl (hb hby at_66) (by decide) (by decide) ?_
        exact kt
      obtain ⟨fs, hr, hrun, hended, hW, hsame⟩ := X27.leave (v := some (.int (1 : Int32))) (fun h => by rw [Bd.returns] at h; cases h)
      refine ⟨_, _, pre28 _ ?_, hrun, hended, _, _, rfl, ?_, ⟨_, rfl⟩, hW, hsame.mono (by decide) (by decide)⟩
      · show Steps p.tables e below (T27.setTop (mkF m 70 #[.val (.int p1), .val (.int p2), .val (.int (p1 &&& (1 : Int32))), .val (.int (p2 &&& (1 : Int32))), .val (.ref w_BREAKING), .val (.ref w_BREAKING), .val (.ref w_BREAKING)] [(.int (1 : Int32))])) _
        exact retN X27 hx (t := .boolean) Bd.returns (by simp) (hb hby at_70) hr
      · show Q0 Z h0 n0 _ T27.heap _
        rw [hE27]
        exact ⟨rfl, N27⟩
set_option maxRecDepth 65536 in
set_option maxHeartbeats 40000000 in
theorem comes_1 {Post : Tables → Env → Array Value → State → Outcome → State → Prop} (hpost : ∀ tb e args s v u, (limb_1_1.after args s (.returned v) u = true ∧ limb_1_2.after args s (.returned v) u = true ∧ True) → FrameEnd s (.returned v) u (Jvm.fieldLocs frame_1_writes args s ++ Jvm.arrayLocs frame_1_arrays args s ++ Jvm.staticLocs frame_1_statics s) 0 0 → Post tb e args s (.returned v) u) :
    ArmFor flags0 classFile x code maxLocals ret World_1 tables_1 room_1 Calls_1 rest_1 Pre_1 Post := by
  intro l hfl _ _ p e ha hc hk s m args below hf hA hF happ hP
  obtain ⟨hcalls, hrest, hpre⟩ := hP
  obtain ⟨-, -, -, hnamed, -, -, -, hat⟩ := (Spec.applies_iff hf).mp happ
  obtain ⟨hg, hn⟩ := and_e (Cond.before_iff.mp (show (Jvm.Cond.and given_1 narrow_1).before args s = true from hpre))
  have hw := fun d (hd : d ∈ tables_1) => atoms_spec (ws := Jvm.Cond.code x code maxLocals ret :: tables_1) hat d (List.mem_cons_of_mem _ hd)
  obtain ⟨g1a, g1b⟩ := and_e hg
  obtain ⟨g2a, g2b⟩ := and_e g1b
  obtain ⟨w0, w1, rfl⟩ : ∃ w0 w1 : Value, args = #[w0, w1] := by
    have hs : args.size = 2 := by simpa [Cond.value, given_1] using g1a
    obtain ⟨L⟩ := args
    match L, hs with
    | [w0, w1], _ => exact ⟨w0, w1, rfl⟩
  have hfit : Fit s := fun {y c} hc i hi => by
    obtain ⟨ha, rfl⟩ := Array.getElem?_eq_some_iff.mp hc
    have q := List.all_eq_true.mp ((Array.all_eq_true_iff_forall_mem.mp hF) _ (Array.getElem_mem ha)) i (List.mem_range.mpr hi)
    simpa [Array.getElem?_eq_getElem hi] using q
  obtain ⟨i0, ei0⟩ := is_v g2a
  obtain rfl : w0 = (.int i0) := Option.some.inj ei0
  obtain ⟨i1, ei1⟩ := is_v g2b
  obtain rfl : w1 = (.int i1) := Option.some.inj ei1
  obtain ⟨n1a, n1b⟩ := and_e hn
  obtain ⟨w_COMPATIBLE, ev_COMPATIBLE⟩ := exa_v n1a
  have S_COMPATIBLE := Sta.start ev_COMPATIBLE (Or.inr ⟨(hw _ (List.mem_of_getElem? (i := 5) rfl)), (hw _ (List.mem_of_getElem? (i := 6) rfl))⟩)
  have E_COMPATIBLE := Exa.start ev_COMPATIBLE n1a
  obtain ⟨n2a, n2b⟩ := and_e n1b
  obtain ⟨w_BREAKING, ev_BREAKING⟩ := exa_v n2a
  have S_BREAKING := Sta.start ev_BREAKING (Or.inr ⟨(hw _ (List.mem_of_getElem? (i := 5) rfl)), (hw _ (List.mem_of_getElem? (i := 8) rfl))⟩)
  have E_BREAKING := Exa.start ev_BREAKING n2a
  obtain ⟨n3a, n3b⟩ := and_e n2b
  have F_COMPATIBLE_ordinal := own_fld ev_COMPATIBLE n3a
  have F_BREAKING_ordinal := own_fld ev_BREAKING n3b
  obtain ⟨n, o, h1, h2, h3, _, L, rfl, ⟨rfl, N⟩, hq⟩ := rm0 l s _ hw tables_1 i0 i1 w_BREAKING w_COMPATIBLE s.heap s.heap.size (Nat.le_refl _) S_BREAKING S_COMPATIBLE E_BREAKING E_COMPATIBLE (F_COMPATIBLE_ordinal.ne F_BREAKING_ordinal (by simp)) p e ha hc hk s m _ below hf ((Spec.applies_iff_loose hf).mp happ).1 ⟨rfl, State.Warmed39.refl s, rfl⟩ trivial
  refine ⟨n, _, h1, h2, h3, hpost _ _ _ _ _ _ ⟨Cond.after_iff.mpr rfl, Cond.after_iff.mpr (eq_i res_at (Term.int_eval (1)) rfl), trivial⟩ ⟨hq.1, hq.2.1, (hq.2.2.sift fun y hy => Or.inr (N y hy)).mono (by decide) (by decide)⟩⟩
theorem main_1_1 : Claimed_1_1 := comes_1 fun _ _ _ _ _ _ h hF => ⟨h.1, hF⟩
theorem main_1_2 : Claimed_1_2 := comes_1 fun _ _ _ _ _ _ h hF => ⟨h.2.1, hF⟩
end Jvm.Pilot.@@N@@
namespace Jvm.Pilot.@@N@@
open Jvm Jvm.ClassFile Sem Op Lib Jvm.Free Jvm.Stand Jvm.Pilot.@@N@@.Jvm.D
/-! MADE BY PROGRAM (witnessworld.py) out of the Statement's table words and the real class files: 10 classes; the members and pool entries that the words name. The judged class is class 1, her method 2. -/
namespace start1
open Jvm.ClassFile
def u (s : String) : CpInfo := .utf8 (stringToUtf16 s)
/-- a pool by its gaps: so many unusable entries, then the entry; so many at the end -/
def gap : Nat → List CpInfo → List CpInfo
  | 0, r => r
  | n + 1, r => .unusable :: gap n r
def poolList (es : List (Nat × CpInfo)) (last : Nat) : List CpInfo := es.foldr (fun e r => gap e.1 (e.2 :: r)) (gap last [])
def pool (es : List (Nat × CpInfo)) (last : Nat) : Array CpInfo := ⟨poolList es last⟩
def fileOf (pool : Array CpInfo) (this : Nat) (attrs : Array Attribute := #[]) (ms : Array MethodInfo := #[]) (fl : Nat := 33) (sup : Nat := 0) (ifs : Array Nat := #[]) (fds : Array FieldInfo := #[]) : ClassFile where
  minorVersion := 0
  majorVersion := 65
  constantPool := pool
  accessFlags := fl
  thisClass := this
  superClass := sup
  interfaces := ifs
  fields := fds
  methods := ms
  attributes := attrs
def plain (name : String) (sup : Option ClassId) : Class where
  name := name
  kind := .ordinary
  loader := none
  accessFlags := 33
  super := sup
  interfaces := #[]
  cf := none
  fields := #[]
  methods := #[]
  instanceTypes := #[]
  staticTypes := #[]
  resolved := #[]
  callSites := []
  init := .initialized
  statics := none
  mirror := none

def pool0 : Array CpInfo := pool [(5, u "<init>"), (0, u "()V"), (1, .class_ 10), (1, u "java/lang/Object")] 113

def k0m0 : Method := { name := "<init>", desc := "()V", sig := { parameters := [], returnType := none }, accessFlags := 1, code := none }
/-- java/lang/Object -/
def k0 : Class := { plain "java/lang/Object" none with
  accessFlags := 33
  interfaces := #[]
  cf := some (fileOf pool0 8 #[] #[{ accessFlags := 1, nameIndex := 5, descriptorIndex := 6, attributes := #[] }] 33 0 #[] #[])
  fields := #[]
  methods := #[k0m0]
  instanceTypes := #[]
  staticTypes := #[]
  resolved := Array.replicate 124 none
  statics := none }

def pool1 : Array CpInfo := pool [(2, .class_ 4), (1, u "java/lang/Object"), (0, u "<init>"), (0, u "()V"), (0, .fieldref 8 9), (0, .class_ 10), (0, .nameAndType 11 12), (0, u "com/example/driftwell/driftwell/Change$Verdict"), (0, u "BREAKING"), (0, u "Lcom/example/driftwell/driftwell/Change$Verdict;"), (0, .fieldref 8 14), (0, .nameAndType 15 12), (0, u "COMPATIBLE"), (0, .methodref 17 18), (0, .class_ 19), (0, .nameAndType 20 21), (0, u "com/example/driftwell/driftwell/VerdictWorstPinLaw"), (0, u "pick"), (0, u "(I)Lcom/example/driftwell/driftwell/Change$Verdict;"), (0, .methodref 8 23), (0, .nameAndType 24 25), (0, u "worst"), (0, u "(Lcom/example/driftwell/driftwell/Change$Verdict;)Lcom/example/driftwell/driftwell/Change$Verdict;"), (3, u "law"), (0, u "(II)Z")] 6

def k1m0 : Method := { name := "<init>", desc := "()V", sig := { parameters := [], returnType := none }, accessFlags := 1, code := none }
def k1c1 : Code := { maxStack := 1, maxLocals := 1, code := method_2_code, exceptionTable := #[], attributes := #[] }
def k1m1 : Method := { name := "pick", desc := "(I)Lcom/example/driftwell/driftwell/Change$Verdict;", sig := { parameters := [.int], returnType := some (.object "com/example/driftwell/driftwell/Change$Verdict") }, accessFlags := 10, code := some k1c1 }
def k1c2 : Code := { maxStack := 2, maxLocals := 7, code := code, exceptionTable := #[], attributes := #[] }
def k1m2 : Method := { name := "law", desc := "(II)Z", sig := { parameters := [.int, .int], returnType := some .boolean }, accessFlags := 9, code := some k1c2 }
/-- com/example/driftwell/driftwell/VerdictWorstPinLaw -/
def k1 : Class := { plain "com/example/driftwell/driftwell/VerdictWorstPinLaw" (some 0) with
  accessFlags := 49
  interfaces := #[]
  cf := some (fileOf pool1 17 #[] #[{ accessFlags := 1, nameIndex := 5, descriptorIndex := 6, attributes := #[] }, { accessFlags := 10, nameIndex := 20, descriptorIndex := 21, attributes := #[] }, { accessFlags := 9, nameIndex := 29, descriptorIndex := 30, attributes := #[] }] 49 2 #[] #[])
  fields := #[]
  methods := #[k1m0, k1m1, k1m2]
  instanceTypes := #[]
  staticTypes := #[]
  resolved := Array.replicate 37 none
  statics := none }

def pool2 : Array CpInfo := pool [(1, .class_ 2), (0, u "java/lang/constant/Constable"), (0, .class_ 4), (0, u "java/lang/Object")] 6

/-- java/lang/constant/Constable -/
def k2 : Class := { plain "java/lang/constant/Constable" (some 0) with
  accessFlags := 1537
  interfaces := #[]
  cf := some (fileOf pool2 1 #[] #[] 1537 3 #[] #[])
  fields := #[]
  methods := #[]
  instanceTypes := #[]
  staticTypes := #[]
  resolved := Array.replicate 11 none
  statics := none }

def pool3 : Array CpInfo := pool [(1, .class_ 2), (0, u "java/lang/Comparable"), (0, .class_ 4), (0, u "java/lang/Object")] 7

/-- java/lang/Comparable -/
def k3 : Class := { plain "java/lang/Comparable" (some 0) with
  accessFlags := 1537
  interfaces := #[]
  cf := some (fileOf pool3 1 #[] #[] 1537 3 #[] #[])
  fields := #[]
  methods := #[]
  instanceTypes := #[]
  staticTypes := #[]
  resolved := Array.replicate 12 none
  statics := none }

def pool4 : Array CpInfo := pool [(1, .class_ 2), (0, u "java/io/Serializable"), (0, .class_ 4), (0, u "java/lang/Object")] 2

/-- java/io/Serializable -/
def k4 : Class := { plain "java/io/Serializable" (some 0) with
  accessFlags := 1537
  interfaces := #[]
  cf := some (fileOf pool4 1 #[] #[] 1537 3 #[] #[])
  fields := #[]
  methods := #[]
  instanceTypes := #[]
  staticTypes := #[]
  resolved := Array.replicate 7 none
  statics := none }

def pool5 : Array CpInfo := pool [(2, .class_ 4), (1, u "java/lang/Enum"), (0, u "name"), (0, u "Ljava/lang/String;"), (2, u "ordinal"), (0, u "I"), (1, .class_ 14), (1, u "java/lang/Object"), (4, u "hash"), (86, .class_ 108), (1, u "java/lang/Enum$EnumDesc"), (2, .class_ 112), (0, u "java/lang/constant/Constable"), (0, .class_ 114), (0, u "java/lang/Comparable"), (0, .class_ 116), (0, u "java/io/Serializable")] 87

/-- java/lang/Enum -/
def k5 : Class := { plain "java/lang/Enum" (some 0) with
  accessFlags := 1057
  interfaces := #[2, 3, 4]
  cf := some (fileOf pool5 2 #[.nestMembers #[106]] #[] 1057 12 #[111, 113, 115] #[{ accessFlags := 18, nameIndex := 5, descriptorIndex := 6, attributes := #[] }, { accessFlags := 18, nameIndex := 9, descriptorIndex := 10, attributes := #[] }, { accessFlags := 2, nameIndex := 19, descriptorIndex := 10, attributes := #[] }])
  fields := #[{ name := "name", type := (.object "java/lang/String"), accessFlags := 18, slot := 0, constantValue := 0 }, { name := "ordinal", type := .int, accessFlags := 18, slot := 1, constantValue := 0 }, { name := "hash", type := .int, accessFlags := 2, slot := 2, constantValue := 0 }]
  methods := #[]
  instanceTypes := #[(.object "java/lang/String"), .int, .int]
  staticTypes := #[]
  resolved := Array.replicate 204 none
  statics := none }

def pool6 : Array CpInfo := pool [(1, .class_ 2), (0, u "com/example/driftwell/driftwell/Change$Verdict"), (2, u "COMPATIBLE"), (0, u "Lcom/example/driftwell/driftwell/Change$Verdict;"), (0, .fieldref 1 8), (0, .nameAndType 9 6), (0, u "BREAKING"), (2, u "$VALUES"), (0, u "[Lcom/example/driftwell/driftwell/Change$Verdict;"), (6, .class_ 22), (1, u "java/lang/Enum"), (8, u "label"), (0, u "Ljava/lang/String;"), (21, u "worst"), (0, u "(Lcom/example/driftwell/driftwell/Change$Verdict;)Lcom/example/driftwell/driftwell/Change$Verdict;"), (7, .class_ 64), (0, u "com/example/driftwell/driftwell/Change")] 2

def k6c0 : Code := { maxStack := 2, maxLocals := 2, code := prog_7_method_5_code, exceptionTable := #[], attributes := #[] }
def k6m0 : Method := { name := "worst", desc := "(Lcom/example/driftwell/driftwell/Change$Verdict;)Lcom/example/driftwell/driftwell/Change$Verdict;", sig := { parameters := [(.object "com/example/driftwell/driftwell/Change$Verdict")], returnType := some (.object "com/example/driftwell/driftwell/Change$Verdict") }, accessFlags := 0, code := some k6c0 }
/-- com/example/driftwell/driftwell/Change$Verdict -/
def k6 : Class := { plain "com/example/driftwell/driftwell/Change$Verdict" (some 5) with
  accessFlags := 16432
  interfaces := #[]
  cf := some (fileOf pool6 1 #[.nestHost 63] #[{ accessFlags := 0, nameIndex := 54, descriptorIndex := 55, attributes := #[] }] 16432 20 #[] #[{ accessFlags := 16409, nameIndex := 5, descriptorIndex := 6, attributes := #[] }, { accessFlags := 16409, nameIndex := 9, descriptorIndex := 6, attributes := #[] }, { accessFlags := 18, nameIndex := 31, descriptorIndex := 32, attributes := #[] }, { accessFlags := 4122, nameIndex := 12, descriptorIndex := 13, attributes := #[] }])
  fields := #[{ name := "COMPATIBLE", type := (.object "com/example/driftwell/driftwell/Change$Verdict"), accessFlags := 16409, slot := 0, constantValue := 0 }, { name := "BREAKING", type := (.object "com/example/driftwell/driftwell/Change$Verdict"), accessFlags := 16409, slot := 1, constantValue := 0 }, { name := "label", type := (.object "java/lang/String"), accessFlags := 18, slot := 3, constantValue := 0 }, { name := "$VALUES", type := (.array (.object "com/example/driftwell/driftwell/Change$Verdict")), accessFlags := 4122, slot := 2, constantValue := 0 }]
  methods := #[k6m0]
  instanceTypes := #[(.object "java/lang/String"), .int, .int, (.object "java/lang/String")]
  staticTypes := #[(.object "com/example/driftwell/driftwell/Change$Verdict"), (.object "com/example/driftwell/driftwell/Change$Verdict"), (.array (.object "com/example/driftwell/driftwell/Change$Verdict"))]
  resolved := Array.replicate 67 none
  statics := some 0 }

def pool7 : Array CpInfo := pool [(1, u "java/lang/Cloneable"), (0, .class_ 1), (0, u "java/lang/Object"), (0, .class_ 3)] 3

/-- java/lang/Cloneable -/
def k7 : Class := { plain "java/lang/Cloneable" (some 0) with
  accessFlags := 1537
  interfaces := #[]
  cf := some (fileOf pool7 2 #[] #[] 1537 4 #[] #[])
  fields := #[]
  methods := #[]
  instanceTypes := #[]
  staticTypes := #[]
  resolved := Array.replicate 8 none
  statics := none }

/-- the primitive byte -/
def k8 : Class := { plain "byte" none with kind := .primitive 'B', accessFlags := 0x411 }
/-- [B -/
def k9 : Class := { plain "[B" (some 0) with kind := .array 8 .byte, interfaces := #[7, 4], accessFlags := 1041 }

def heap : Heap := #[{ cls := 6, slots := #[.ref 1, .ref 2, .null], vm := .statics 6 },
  { cls := 6, slots := #[.null, .int 0, .int 0, .null], vm := .none },
  { cls := 6, slots := #[.null, .int 1, .int 0, .null], vm := .none }]
def classes : Array Class := #[k0, k1, k2, k3, k4, k5, k6, k7, k8, k9]
def interned : List (Array UInt16 × Addr) := []
def slotsUsed : Nat := 11
def theMethod : MethodId := ⟨1, 2⟩
def args0 : Array Value := #[.int 5, .int 2]
def aboutOver (below : List Frame) : State where
  vm := { classes := classes, interned := interned.toArray }
  heap := heap
  slotsUsed := slotsUsed
  threads := #[{ frames := .invoking theMethod args0 :: below }]
def below0 : List Frame := [.native { method := ⟨0, 0⟩, args := #[] }]
def about1 : State := aboutOver below0
def p0 : Program := .bare "" "" ""
def e0 : Env := launch0.env 0 0 0
theorem w_frames : about1.frames = Frame.invoking theMethod args0 :: below0 := rfl
set_option maxRecDepth 65536 in
theorem w_args : argsFit about1.vm theMethod args0 = true := by decide +kernel
set_option maxRecDepth 65536 in
theorem w_heap : heapFits about1 = true := by decide +kernel
set_option maxRecDepth 65536 in
theorem w_runnable : about1.curStatus? = some .runnable := by decide +kernel
set_option maxRecDepth 65536 in
theorem w_alone : about1.alone = true := by decide +kernel
set_option maxRecDepth 65536 in
theorem w_named : about1.methodNamed? x = some theMethod := by decide +kernel
set_option maxRecDepth 65536 in
theorem w_hears : about1.hears theMethod below0 = true := by decide +kernel
set_option maxRecDepth 65536 in
theorem w_ripe : about1.ripe theMethod args0 below0 = true := by decide +kernel
theorem w_running : about1.status = .running := rfl
set_option maxRecDepth 65536 in
theorem w_room : about1.hasRoom e0.platform room_1 = true :=
  launch0.hasRoom_least _ room_1 (by decide +kernel) (by decide +kernel) (by decide +kernel) (by decide +kernel) (by decide +kernel) (by decide +kernel)
theorem allAtoms_all (ts : List Jvm.Cond) (a : Array Jvm.Value) (st : Jvm.State) : (allAtoms ts).before a st = ts.all (fun c => c.before a st) := by
  induction ts with
  | nil => rfl
  | cons c t ih =>
    show (Jvm.Cond.and c (allAtoms t)).before a st = _
    rw [Jvm.Cond.before_and, ih, List.all_cons]
def words1 : List Jvm.Cond := Jvm.Cond.code x code maxLocals ret :: tables_1
/-- a 'code' word, met by the world's own term for the bytes: nothing is compared byte by byte -/
theorem code_word {y : MethodName} {bytes : ByteArray} {mx : Nat} {rt : Option FieldType} {a : Array Value} {s : State} {m : MethodId} {meth : Method} {c : Code} (h1 : s.methodNamed? y = some m) (h2 : s.vm.method? m = some meth) (h3 : meth.code = some c) (h4 : c.code = bytes)
    (h5 : (c.maxLocals == mx && c.exceptionTable.isEmpty && decide (c.maxStack ≤ mostOperands) && decide (meth.sig.returnType = rt) && !meth.locks && decide (parseMethodDescriptor y.desc = some meth.sig)) = true) : (Jvm.Cond.code y bytes mx rt).before a s = true := by
  simp only [Bool.and_eq_true, beq_iff_eq, Bool.not_eq_true', decide_eq_true_eq] at h5
  obtain ⟨⟨⟨⟨⟨g1, g2⟩, g3⟩, g4⟩, g5⟩, g6⟩ := h5
  simp [Cond.before, Cond.holds, Cond.value, h1, h2, h3, h4, g1, g2, g3, g4, g5, g6]
def isCode : Jvm.Cond → Bool
  | .code _ _ _ _ => true
  | _ => false
theorem all_split {L : List Jvm.Cond} {P : Jvm.Cond → Bool} (h1 : L.all (fun c => isCode c || P c) = true) (h2 : ∀ c ∈ L.filter isCode, P c = true) : L.all P = true := by
  refine List.all_eq_true.mpr fun c hc => ?_
  have h := List.all_eq_true.mp h1 c hc
  rcases Bool.eq_false_or_eq_true (isCode c) with hi | hi
  · exact h2 c (List.mem_filter.mpr ⟨hc, hi⟩)
  · simpa [hi] using h
set_option maxRecDepth 65536 in
theorem w_c0 : (Jvm.Cond.code x code maxLocals ret).before args0 about1 = true := code_word (m := ⟨1, 2⟩) (meth := k1m2) (c := k1c2) (by decide +kernel) rfl rfl rfl (by decide +kernel)
set_option maxRecDepth 65536 in
theorem w_c1 : (Jvm.Cond.code ({ cls := "com/example/driftwell/driftwell/VerdictWorstPinLaw", name := "pick", desc := "(I)Lcom/example/driftwell/driftwell/Change$Verdict;" } : Jvm.MethodName) method_2_code (1 : Nat) (Option.some (Jvm.ClassFile.FieldType.object "com/example/driftwell/driftwell/Change$Verdict"))).before args0 about1 = true := code_word (m := ⟨1, 1⟩) (meth := k1m1) (c := k1c1) (by decide +kernel) rfl rfl rfl (by decide +kernel)
set_option maxRecDepth 65536 in
theorem w_c2 : (Jvm.Cond.code ({ cls := "com/example/driftwell/driftwell/Change$Verdict", name := "worst", desc := "(Lcom/example/driftwell/driftwell/Change$Verdict;)Lcom/example/driftwell/driftwell/Change$Verdict;" } : Jvm.MethodName) prog_7_method_5_code (2 : Nat) (Option.some (Jvm.ClassFile.FieldType.object "com/example/driftwell/driftwell/Change$Verdict"))).before args0 about1 = true := code_word (m := ⟨6, 0⟩) (meth := k6m0) (c := k6c0) (by decide +kernel) rfl rfl rfl (by decide +kernel)
def codes1 : List Jvm.Cond := [Jvm.Cond.code x code maxLocals ret, Jvm.Cond.code ({ cls := "com/example/driftwell/driftwell/VerdictWorstPinLaw", name := "pick", desc := "(I)Lcom/example/driftwell/driftwell/Change$Verdict;" } : Jvm.MethodName) method_2_code (1 : Nat) (Option.some (Jvm.ClassFile.FieldType.object "com/example/driftwell/driftwell/Change$Verdict")), Jvm.Cond.code ({ cls := "com/example/driftwell/driftwell/Change$Verdict", name := "worst", desc := "(Lcom/example/driftwell/driftwell/Change$Verdict;)Lcom/example/driftwell/driftwell/Change$Verdict;" } : Jvm.MethodName) prog_7_method_5_code (2 : Nat) (Option.some (Jvm.ClassFile.FieldType.object "com/example/driftwell/driftwell/Change$Verdict"))]
set_option maxRecDepth 65536 in
theorem codes_eq : words1.filter isCode = codes1 := rfl
theorem w_codes : ∀ c ∈ words1.filter isCode, c.before args0 about1 = true := by
  rw [codes_eq]
  intro c hc
  simp only [codes1, List.mem_cons, List.not_mem_nil, or_false] at hc
  rcases hc with rfl | rfl | rfl
  · exact w_c0
  · exact w_c1
  · exact w_c2
set_option maxRecDepth 65536 in
theorem w_t1 : words1.all (fun c => isCode c || c.before args0 about1) = true := by decide +kernel
theorem w_tables : (allAtoms (Jvm.Cond.code x code maxLocals ret :: tables_1)).before args0 about1 = true := by
  rw [allAtoms_all]
  show words1.all (fun c => c.before args0 about1) = true
  refine all_split ?_ w_codes
  rw [w_t1]
set_option maxRecDepth 65536 in
theorem w_case : (Jvm.Cond.and given_1 narrow_1).before args0 about1 = true := by decide +kernel
theorem w_applies : (headSpec (Jvm.Cond.code x code maxLocals ret :: tables_1) room_1).applies x e0.platform about1 = true :=
  (Spec.applies_iff w_frames).mpr ⟨w_running, w_runnable, w_alone, w_named, w_hears, w_ripe, w_room, w_tables⟩
theorem atStart : AtStart classFile x code maxLocals ret World_1 tables_1 room_1 Calls_1 rest_1 Pre_1 launch0 p0 e0 about1 theMethod args0 below0 :=
  ⟨lists_1, trivial, launch0.admits_env _ _ _, launch0.least_env, fairChoices_fair.cas, fairChoices_fair.clock, w_frames, w_args, w_heap, w_applies, trivial, trivial, w_case⟩
end start1
theorem witness_1 : WitnessClaimed_1 := ⟨start1.p0, start1.e0, start1.about1, start1.theMethod, start1.args0, start1.below0, start1.atStart⟩
end Jvm.Pilot.@@N@@
