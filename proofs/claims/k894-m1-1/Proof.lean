import JvmDerived
import JvmDerived.Pilot.@@N@@Statement
import JvmDerived.Pilot.@@N@@Code
set_option linter.unusedVariables false
set_option linter.unusedSimpArgs false
namespace Jvm.RoadKit
open Sem ClassFile Op Lib Jvm.Stand Jvm.Free Jvm.LawKit
section New
variable {p : Program} {l : Launch} {e : Env} {R : Room} {s : State} {m : MethodId} {args : Array Value} {below : List Frame} {meth : Method} {c : Code} {T : State} {locs : List Loc} {cells slots : Nat}
theorem retI (X : Stand p l e R s m args below meth c T locs cells slots) (hx : p.tables.exec = Jvm.exec) {pc : Nat} {Ls : Array Slot} {z : Int32} {rest : List Value} (hret : meth.sig.returnType = some .int) (hd : decode c.code pc = .ok (.ireturn, 1)) {fs : List Frame}
    (hl : ∀ (f : JFrame) (acts : List Action), f.method = m → f.locked = none → f.entered = [] → (doReturn e (T.setTop f) acts (some (.int z))).1 = T.setFrames fs) : Steps p.tables e below (T.setTop (mkF m pc Ls (.int z :: rest))) (T.setFrames fs) := by
  have hm' : T.vm.method? m = some meth := X.method'
  have hn : narrow .int (.int z) = .int z := rfl
  show Steps p.tables e below (T.setTop { method := m, pc := pc, locals := Ls, stack := _ :: rest, locked := none }) _
  jvm_step X.here [X.here.top, hx, hd, hm', hret, hn]
  first | (intro acts; rw [hl _ acts rfl rfl rfl]) | rw [hl _ _ rfl rfl rfl]
  exact Steps.refl _
end New
end Jvm.RoadKit
namespace Jvm.Pilot.@@N@@
open Jvm Jvm.ClassFile Sem Op Lib Jvm.Free Jvm.Stand Jvm.LawKit Jvm.RoadKit Bundle Jvm.Pilot.@@N@@.Jvm.D
theorem own_retb (z : Int32) (h : z = 0 ∨ z = 1) : narrow .boolean (.int z) = .int z := by rcases h with rfl | rfl <;> rfl
theorem own_rem (x n : Int32) (hn : 0 < n.toInt) : 0 ≤ ((x &&& (2147483647 : Int32)) % n).toInt ∧ ((x &&& (2147483647 : Int32)) % n).toInt < n.toInt := by
  have h1 := c_mask x (2147483647 : Int32) 31 (by decide) (by decide)
  have h2 := (c_iremV (x &&& (2147483647 : Int32)) n).1 (by omega) hn
  exact ⟨h2.1, h2.2.1⟩
theorem own_of3 {k : Int32} (h : 0 ≤ k.toInt ∧ k.toInt < 3) : k = 0 ∨ k = 1 ∨ k = 2 := by
  have h2 : k.toInt = (0 : Int32).toInt ∨ k.toInt = (1 : Int32).toInt ∨ k.toInt = (2 : Int32).toInt := by simp; omega
  simpa only [Int32.toInt_inj] using h2
theorem own_of5 {k : Int32} (h : 0 ≤ k.toInt ∧ k.toInt < 5) : k = 0 ∨ k = 1 ∨ k = 2 ∨ k = 3 ∨ k = 4 := by
  have h2 : k.toInt = (0 : Int32).toInt ∨ k.toInt = (1 : Int32).toInt ∨ k.toInt = (2 : Int32).toInt ∨ k.toInt = (3 : Int32).toInt ∨ k.toInt = (4 : Int32).toInt := by simp; omega
  simpa only [Int32.toInt_inj] using h2
theorem own_of6 {k : Int32} (h : 0 ≤ k.toInt ∧ k.toInt < 6) : k = 0 ∨ k = 1 ∨ k = 2 ∨ k = 3 ∨ k = 4 ∨ k = 5 := by
  have h2 : k.toInt = (0 : Int32).toInt ∨ k.toInt = (1 : Int32).toInt ∨ k.toInt = (2 : Int32).toInt ∨ k.toInt = (3 : Int32).toInt ∨ k.toInt = (4 : Int32).toInt ∨ k.toInt = (5 : Int32).toInt := by simp; omega
  simpa only [Int32.toInt_inj] using h2
theorem own_eqI {args : Array Value} {s : State} {t : Term} {k : Int32} (h : (Jvm.Cond.eq t (.int k)).value args s none s [] = some true) : t.eval args s none [] s = some (.int k) := by
  obtain ⟨u, v, hu, hv, k1, k2⟩ := cmp_v (Or.inl h)
  have hv2 : v = .int k := Option.some.inj (hv.symm.trans (Term.int_eval k))
  subst hv2
  cases u <;> simp [Cond.value, hu, hv] at h
  subst h; exact hu
theorem own_fld {args : Array Value} {s : State} {t : Term} {a : Addr} {C n d : String} {k : Int32} (ev : t.eval args s none [] s = some (.ref a)) (h : (Jvm.Cond.eq (.field t C n d) (.int k)).value args s none s [] = some true) : Fld s s.heap a C n d (.int k) :=
  Fld.start ((fld_at ev).symm.trans (own_eqI h))
theorem own_len {args : Array Value} {s : State} {t : Term} {a : Addr} {cl : Cell} {ty : FieldType} {k : Int32} (ev : t.eval args s none [] s = some (.ref a)) (A : Arr s s.heap a cl ty) (h : (Jvm.Cond.eq (.length t) (.int k)).value args s none s [] = some true) : cl.slots.size.toInt32 = k := by
  obtain ⟨b, c, e1, e2, e3⟩ := Term.length_spec (own_eqI h)
  cases ev.symm.trans e1
  cases (A.fin (Vm.Alike.refl _)).symm.trans e2
  exact (Value.int.inj e3).symm
theorem own_lenlt {args : Array Value} {s : State} {t : Term} {a : Addr} {cl : Cell} {ty : FieldType} {k : Int32} (ev : t.eval args s none [] s = some (.ref a)) (A : Arr s s.heap a cl ty) (h : (Jvm.Cond.eq (.length t) (.int k)).value args s none s [] = some true) : cl.slots.size < 2 ^ 31 := by
  have h1 := own_eqI h
  have h2 := A.fin (Vm.Alike.refl _)
  apply Classical.byContradiction
  intro h3
  simp [Term.eval, ev, h2, h3] at h1
theorem own_elem {args : Array Value} {s : State} {t u : Term} {a b : Addr} {cl : Cell} {ty : FieldType} {j : Int32} (ev : t.eval args s none [] s = some (.ref a)) (A : Arr s s.heap a cl ty) (hu : u.eval args s none [] s = some (.ref b)) (h : (Jvm.Cond.eq (.elem t (.int j)) u).value args s none s [] = some true) : cl.slots[j.toNatClampNeg]? = some (.ref b) := by
  obtain ⟨x, y, hx, hy, -, -⟩ := cmp_v (Or.inl h)
  cases hu.symm.trans hy
  have h2 := (elem_in hx ev (Term.int_eval j) A.1).2
  cases x <;> simp [Cond.value, hx, hy] at h
  subst h; exact h2
theorem own_fldN {args : Array Value} {s : State} {t : Term} {a : Addr} {C n d : String} (ev : t.eval args s none [] s = some (.ref a)) (h : (Jvm.Cond.eq (.field t C n d) .null).value args s none s [] = some true) : Fld s s.heap a C n d .null :=
  Fld.start ((fld_at ev).symm.trans (null_v h))
def Q1 (Z : State) (r : Addr) (h0 : Heap) (n0 : Nat) (v : Option Value) (h : Heap) (L : List Loc) : Prop := v = some (.ref r) ∧ Fr n0 L ∧ h = h0
theorem d1_0 : decode prog_38_method_4_code 0 = .ok (.iload_n 0, 1) := by decide +kernel
theorem d1_1 : decode prog_38_method_4_code 1 = .ok (.ifCond .eq 9, 3) := by decide +kernel
theorem d1_4 : decode prog_38_method_4_code 4 = .ok (.getstatic 3, 3) := by decide +kernel
theorem d1_7 : decode prog_38_method_4_code 7 = .ok (.goto 6, 3) := by decide +kernel
theorem d1_10 : decode prog_38_method_4_code 10 = .ok (.getstatic 7, 3) := by decide +kernel
theorem d1_13 : decode prog_38_method_4_code 13 = .ok (.areturn, 1) := by decide +kernel
theorem pn_rm1 : plainName "com/example/riegel/riegel/policy/Truth" = true := by first | (simp [plainName, overriddenIn]; done) | decide +kernel
theorem ef_rm1 (m : MethodId) (p1 : Int32) : entryFrame m #[(.int p1)] 1 = mkF m 0 #[.val (.int p1)] [] := by first | (simp [entryFrame, mkF, argsToLocals, Value.category]; done) | rfl
set_option maxRecDepth 65536 in
set_option maxHeartbeats 40000000 in
theorem rm1 (l : Launch) (Z : State) (a0 : Array Value) (hw : ∀ d ∈ tables_1, d.before a0 Z = true) (ws : List Jvm.Cond) (p1 : Int32) (w_TRUE w_FALSE r : Addr) (h0 : Heap) (n0 : Nat) (Z0 : n0 ≤ h0.size) (S_TRUE : Sta Z h0 "com/example/riegel/riegel/policy/Truth" "TRUE" "Lcom/example/riegel/riegel/policy/Truth;" (.ref w_TRUE)) (S_FALSE : Sta Z h0 "com/example/riegel/riegel/policy/Truth" "FALSE" "Lcom/example/riegel/riegel/policy/Truth;" (.ref w_FALSE)) (hr0 : r = if p1 = (0 : Int32) then w_FALSE else w_TRUE) :
    MetFree l (⟨"com/example/riegel/riegel/policy/Truth", "of", "(Z)Lcom/example/riegel/riegel/policy/Truth;"⟩ : MethodName) (head1 (Jvm.Cond.code (⟨"com/example/riegel/riegel/policy/Truth", "of", "(Z)Lcom/example/riegel/riegel/policy/Truth;"⟩ : MethodName) prog_38_method_4_code 1 (some (.object "com/example/riegel/riegel/policy/Truth")) :: ws) ({ frames := 0, cells := 0, slots := 0, locals := 0 } : Room)) (fun a U => a = #[(.int p1)] ∧ Z.Warmed39 U.vm ∧ U.heap = h0) (fun _ _ _ _ _ => True) (fun _ U o U' => ∃ v L, o = .returned v ∧ Q1 Z r h0 n0 v U'.heap L ∧ FrameEnd U o U' L ({ frames := 0, cells := 0, slots := 0, locals := 0 } : Room).cells ({ frames := 0, cells := 0, slots := 0, locals := 0 } : Room).slots) := by
  refine MetFree.of_bodySF (plainFor_of_name pn_rm1) hisR ?_
  intro p e s m args below meth c s₁ Bd hml0 hP hK
  obtain ⟨rfl, hZ, hh⟩ := hP
  have hx := Bd.exec
  have hby := Bd.bytes
  have hml : c.maxLocals = 1 := hml0
  have hown : s.vm.findClass "com/example/riegel/riegel/policy/Truth" = some m.cls := findClass_of_methodNamed Bd.named
  have hnm := (name_of_methodNamed Bd.named Bd.method).1
  have X0 : Stand p l e ({ frames := 0, cells := 0, slots := 0, locals := 0 } : Room) s m #[(.int p1)] below meth c s₁ [] 0 0 := Stand.of_body Bd
  have e0 : s₁.heap = h0 := by rw [← hh, Bd.state]; rfl
  have N0 := Fr.nil n0
  have pre0 : ∀ tt, Steps p.tables e below (s₁.setTop (mkF m 0 #[.val (.int p1)] [])) tt → Steps p.tables e below (s₁.setTop (entryFrame m #[(.int p1)] 1)) tt := fun tt kt => castTop (ef_rm1 m p1) kt
  have pre1 : ∀ tt, Steps p.tables e below (s₁.setTop (mkF m 1 #[.val (.int p1)] [(.int p1)])) tt → Steps p.tables e below (s₁.setTop (entryFrame m #[(.int p1)] 1)) tt := by
    intro tt kt
    refine pre0 tt ?_
    show Steps p.tables e below (s₁.setTop (mkF m 0 #[.val (.int p1)] [])) _
    refine XS.iloadN X0.here hx rfl (hb hby d1_0) rfl ?_
    exact kt
  by_cases c1_2 : p1 = (0 : Int32)
  · obtain ⟨T3, X3, e3, st3⟩ := getS2 X0 hx hZ hown (host := "") (Or.inl (hw _ (List.mem_of_getElem? (i := 4) rfl))) Via.refl e0 S_FALSE (g := (mkF m 10 #[.val (.int p1)] [])) rfl (hb hby d1_10)
    have pre4 : ∀ tt, Steps p.tables e below (T3.setTop (mkF m 13 #[.val (.int p1)] [(.ref w_FALSE)])) tt → Steps p.tables e below (s₁.setTop (entryFrame m #[(.int p1)] 1)) tt := by
      intro tt kt
      refine pre1 tt ?_
      show Steps p.tables e below (s₁.setTop (mkF m 1 #[.val (.int p1)] [(.int p1)])) _
      refine XS.ifYes X0.here hx rfl (pc0 := 1) (pc' := 10) rfl (hb hby d1_1) rfl ((if0 _ _).trans (teq c1_2).1) (by decide) (by decide) ?_
      show Steps p.tables e below (s₁.setTop (mkF m 10 #[.val (.int p1)] [])) _
      refine st3 _ ?_
      exact kt
    obtain ⟨fs, hr, hrun, hended, hW, hsame⟩ := X3.leave (v := some (.ref w_FALSE)) (fun h => by rw [Bd.returns] at h; cases h)
    refine ⟨_, _, pre4 _ ?_, hrun, hended, _, _, rfl, ?_, ⟨_, rfl⟩, hW, hsame.mono (by decide) (by decide)⟩
    · show Steps p.tables e below (T3.setTop (mkF m 13 #[.val (.int p1)] [(.ref w_FALSE)])) _
      jvm_step X3.here [X3.here.top, hx, (hb hby d1_13), X3.method', Bd.returns, Value.isRef, FieldType.isReference]
      first | (intro acts; rw [hr _ acts rfl rfl rfl]) | rw [hr _ _ rfl rfl rfl]
      exact Steps.refl _
    · show Q1 Z r h0 n0 _ T3.heap _
      rw [e3]
      exact ⟨by rw [hr0, if_pos c1_2], N0, rfl⟩
  · obtain ⟨T5, X5, e5, st5⟩ := getS2 X0 hx hZ hown (host := "") (Or.inl (hw _ (List.mem_of_getElem? (i := 6) rfl))) Via.refl e0 S_TRUE (g := (mkF m 4 #[.val (.int p1)] [])) rfl (hb hby d1_4)
    have pre6 : ∀ tt, Steps p.tables e below (T5.setTop (mkF m 13 #[.val (.int p1)] [(.ref w_TRUE)])) tt → Steps p.tables e below (s₁.setTop (entryFrame m #[(.int p1)] 1)) tt := by
      intro tt kt
      refine pre1 tt ?_
      show Steps p.tables e below (s₁.setTop (mkF m 1 #[.val (.int p1)] [(.int p1)])) _
      refine XS.ifNo X0.here hx rfl (hb hby d1_1) rfl ((if0 _ _).trans (feq c1_2).1) ?_
      show Steps p.tables e below (s₁.setTop (mkF m 4 #[.val (.int p1)] [])) _
      refine st5 _ ?_
      show Steps p.tables e below (T5.setTop (mkF m 7 #[.val (.int p1)] [(.ref w_TRUE)])) _
      refine XS.goto X5.here hx rfl (pc0 := 7) (pc' := 13) rfl (hb hby d1_7) (by decide) (by decide) ?_
      exact kt
    obtain ⟨fs, hr, hrun, hended, hW, hsame⟩ := X5.leave (v := some (.ref w_TRUE)) (fun h => by rw [Bd.returns] at h; cases h)
    refine ⟨_, _, pre6 _ ?_, hrun, hended, _, _, rfl, ?_, ⟨_, rfl⟩, hW, hsame.mono (by decide) (by decide)⟩
    · show Steps p.tables e below (T5.setTop (mkF m 13 #[.val (.int p1)] [(.ref w_TRUE)])) _
      jvm_step X5.here [X5.here.top, hx, (hb hby d1_13), X5.method', Bd.returns, Value.isRef, FieldType.isReference]
      first | (intro acts; rw [hr _ acts rfl rfl rfl]) | rw [hr _ _ rfl rfl rfl]
      exact Steps.refl _
    · show Q1 Z r h0 n0 _ T5.heap _
      rw [e5]
      exact ⟨by rw [hr0, if_neg c1_2], N0, rfl⟩
def Q0 (Z : State) (h0 : Heap) (n0 : Nat) (v : Option Value) (h : Heap) (L : List Loc) : Prop := v = some (.int (1 : Int32)) ∧ Fr n0 L
theorem pn_rm0 : plainName "com/example/riegel/riegel/policy/TruthOfPinLaw" = true := by first | (simp [plainName, overriddenIn]; done) | decide +kernel
theorem pd_rm0_0 : parseMethodDescriptor "(Z)Lcom/example/riegel/riegel/policy/Truth;" = some ⟨[.boolean], some (.object "com/example/riegel/riegel/policy/Truth")⟩ := by decide +kernel
theorem ef_rm0 (m : MethodId) (p1 : Int32) : entryFrame m #[(.int p1)] maxLocals = mkF m 0 #[.val (.int p1), .unset, .unset, .unset, .unset, .unset, .unset] [] := by first | (simp [entryFrame, mkF, argsToLocals, Value.category, maxLocals]; done) | rfl
set_option maxRecDepth 65536 in
set_option maxHeartbeats 40000000 in
theorem rm0 (l : Launch) (Z : State) (a0 : Array Value) (hw : ∀ d ∈ tables_1, d.before a0 Z = true) (ws : List Jvm.Cond) (p1 : Int32) (w_TRUE w_FALSE w_INDETERMINATE : Addr) (h0 : Heap) (n0 : Nat) (Z0 : n0 ≤ h0.size) (S_TRUE : Sta Z h0 "com/example/riegel/riegel/policy/Truth" "TRUE" "Lcom/example/riegel/riegel/policy/Truth;" (.ref w_TRUE)) (S_FALSE : Sta Z h0 "com/example/riegel/riegel/policy/Truth" "FALSE" "Lcom/example/riegel/riegel/policy/Truth;" (.ref w_FALSE)) (S_INDETERMINATE : Sta Z h0 "com/example/riegel/riegel/policy/Truth" "INDETERMINATE" "Lcom/example/riegel/riegel/policy/Truth;" (.ref w_INDETERMINATE)) (nTI : ¬ (w_TRUE = w_INDETERMINATE)) (nFI : ¬ (w_FALSE = w_INDETERMINATE)) (nTF : ¬ (w_TRUE = w_FALSE)) :
    MetFree l x (head1 (Jvm.Cond.code x code maxLocals ret :: ws) room_1) (fun a U => a = #[(.int p1)] ∧ Z.Warmed39 U.vm ∧ U.heap = h0) (fun _ _ _ _ _ => True) (fun _ U o U' => ∃ v L, o = .returned v ∧ Q0 Z h0 n0 v U'.heap L ∧ FrameEnd U o U' L room_1.cells room_1.slots) := by
  refine MetFree.of_bodySF (plainFor_of_name pn_rm0) hisR ?_
  intro p e s m args below meth c s₁ Bd hml0 hP hK
  obtain ⟨rfl, hZ, hh⟩ := hP
  have hx := Bd.exec
  have hby := Bd.bytes
  have hml : c.maxLocals = 7 := hml0
  have hown : s.vm.findClass "com/example/riegel/riegel/policy/TruthOfPinLaw" = some m.cls := findClass_of_methodNamed Bd.named
  have hnm := (name_of_methodNamed Bd.named Bd.method).1
  have X0 : Stand p l e room_1 s m #[(.int p1)] below meth c s₁ [] 0 0 := Stand.of_body Bd
  have e0 : s₁.heap = h0 := by rw [← hh, Bd.state]; rfl
  have N0 := Fr.nil n0
  have pre0 : ∀ tt, Steps p.tables e below (s₁.setTop (mkF m 0 #[.val (.int p1), .unset, .unset, .unset, .unset, .unset, .unset] [])) tt → Steps p.tables e below (s₁.setTop (entryFrame m #[(.int p1)] maxLocals)) tt := fun tt kt => castTop (ef_rm0 m p1) kt
  have pre1 : ∀ tt, Steps p.tables e below (s₁.setTop (mkF m 3 #[.val (.int p1), .unset, .unset, .unset, .unset, .unset, .unset] [(.int (p1 &&& (1 : Int32)))])) tt → Steps p.tables e below (s₁.setTop (entryFrame m #[(.int p1)] maxLocals)) tt := by
    intro tt kt
    refine pre0 tt ?_
    show Steps p.tables e below (s₁.setTop (mkF m 0 #[.val (.int p1), .unset, .unset, .unset, .unset, .unset, .unset] [])) _
    refine XS.iloadN X0.here hx rfl (hb hby at_0) rfl ?_
    show Steps p.tables e below (s₁.setTop (mkF m 1 #[.val (.int p1), .unset, .unset, .unset, .unset, .unset, .unset] [(.int p1)])) _
    refine XS.iconst X0.here hx rfl (hb hby at_1) ?_
    show Steps p.tables e below (s₁.setTop (mkF m 2 #[.val (.int p1), .unset, .unset, .unset, .unset, .unset, .unset] [(.int (1 : Int32)), (.int p1)])) _
    refine XS.iand X0.here hx rfl (hb hby at_2) rfl ?_
    exact kt
  by_cases c3_2 : (p1 &&& (1 : Int32)) = (0 : Int32)
  · obtain ⟨_, _, ⟨T3, L3, k3, n3⟩, -, X3, ⟨Lc3, hQ3, l3, y3, z3⟩, st3⟩ := Jvm.LawKit.callS X0 hx (y := (⟨"com/example/riegel/riegel/policy/Truth", "of", "(Z)Lcom/example/riegel/riegel/policy/Truth;"⟩ : MethodName)) hown (mvT hZ (hw _ (List.mem_of_getElem? (i := 0) rfl))) (mvT hZ (hw _ (List.mem_of_getElem? (i := 1) rfl))) (mvT hZ (hw _ (List.mem_of_getElem? (i := 2) rfl))) (mvT hZ (hw _ (List.mem_of_getElem? (i := 3) rfl))) (by decide) (backOf (W := 0) (rm1 l Z a0 hw [] (0 : Int32) w_TRUE w_FALSE w_FALSE h0 n0 Z0 S_TRUE S_FALSE (by simp)) hZ (hw _ (List.mem_of_getElem? (i := 3) rfl)) (hw _ (List.mem_of_getElem? (i := 2) rfl)) (by decide) (by decide)) (g := (mkF m 13 #[.val (.int p1), .val (.int (0 : Int32)), .unset, .unset, .unset, .unset, .unset] [(.int (0 : Int32))])) rfl (by rw [hml]; rfl) (argsL := [(.int (0 : Int32))]) (rest := []) (lenOf pd_rm0_0 rfl) rfl (by show 2 * 0 + _ ≤ _; exact Nat.le_of_eq rfl) (hb hby at_13) (fun _ _ => ⟨rfl, e0, (by decide : 0 + 0 ≤ _), (by decide : 0 + 0 ≤ _)⟩)
    dsimp only [Pt.U, Pt.locs, Pt.cells, Pt.slots] at X3 l3 y3 z3 st3 hQ3
    subst l3 y3 z3
    obtain ⟨rfl, N3q, hE3⟩ := hQ3
    have N3 := Fr.app N0 N3q
    obtain ⟨_, _, ⟨T4, L4, k4, n4⟩, -, X4, ⟨Lc4, hQ4, l4, y4, z4⟩, st4⟩ := Jvm.LawKit.callS X3 hx (y := (⟨"com/example/riegel/riegel/policy/Truth", "of", "(Z)Lcom/example/riegel/riegel/policy/Truth;"⟩ : MethodName)) hown (mvT hZ (hw _ (List.mem_of_getElem? (i := 0) rfl))) (mvT hZ (hw _ (List.mem_of_getElem? (i := 1) rfl))) (mvT hZ (hw _ (List.mem_of_getElem? (i := 2) rfl))) (mvT hZ (hw _ (List.mem_of_getElem? (i := 3) rfl))) (by decide) (backOf (W := 0) (rm1 l Z a0 hw [] (1 : Int32) w_TRUE w_FALSE w_TRUE h0 n0 Z0 S_TRUE S_FALSE (by simp)) hZ (hw _ (List.mem_of_getElem? (i := 3) rfl)) (hw _ (List.mem_of_getElem? (i := 2) rfl)) (by decide) (by decide)) (g := (mkF m 26 #[.val (.int p1), .val (.int (0 : Int32)), .val (.ref w_FALSE), .unset, .unset, .unset, .unset] [(.int (1 : Int32))])) rfl (by rw [hml]; rfl) (argsL := [(.int (1 : Int32))]) (rest := []) (lenOf pd_rm0_0 rfl) rfl (by show 2 * 0 + _ ≤ _; exact Nat.le_of_eq rfl) (hb hby at_26) (fun _ _ => ⟨rfl, hE3, (by decide : 0 + 0 ≤ _), (by decide : 0 + 0 ≤ _)⟩)
    dsimp only [Pt.U, Pt.locs, Pt.cells, Pt.slots] at X4 l4 y4 z4 st4 hQ4
    subst l4 y4 z4
    obtain ⟨rfl, N4q, hE4⟩ := hQ4
    have N4 := Fr.app N3 N4q
    obtain ⟨T5, X5, e5, st5⟩ := getS2 X4 hx hZ hown (host := "") (Or.inl (hw _ (List.mem_of_getElem? (i := 8) rfl))) Via.refl hE4 S_INDETERMINATE (g := (mkF m 31 #[.val (.int p1), .val (.int (0 : Int32)), .val (.ref w_FALSE), .val (.ref w_TRUE), .unset, .unset, .unset] [(.ref w_FALSE)])) rfl (hb hby at_31)
    obtain ⟨T6, X6, e6, st6⟩ := getS2 X5 hx hZ hown (host := "") (Or.inl (hw _ (List.mem_of_getElem? (i := 8) rfl))) Via.refl e5 S_INDETERMINATE (g := (mkF m 38 #[.val (.int p1), .val (.int (0 : Int32)), .val (.ref w_FALSE), .val (.ref w_TRUE), .unset, .unset, .unset] [(.ref w_TRUE)])) rfl (hb hby at_38)
    obtain ⟨T7, X7, e7, st7⟩ := getS2 X6 hx hZ hown (host := "") (Or.inl (hw _ (List.mem_of_getElem? (i := 10) rfl))) Via.refl e6 S_TRUE (g := (mkF m 64 #[.val (.int p1), .val (.int (0 : Int32)), .val (.ref w_FALSE), .val (.ref w_TRUE), .val (.int (1 : Int32)), .val (.int (1 : Int32)), .unset] [(.ref w_FALSE)])) rfl (hb hby at_64)
    obtain ⟨T8, X8, e8, st8⟩ := getS2 X7 hx hZ hown (host := "") (Or.inl (hw _ (List.mem_of_getElem? (i := 11) rfl))) Via.refl e7 S_FALSE (g := (mkF m 80 #[.val (.int p1), .val (.int (0 : Int32)), .val (.ref w_FALSE), .val (.ref w_TRUE), .val (.int (1 : Int32)), .val (.int (1 : Int32)), .unset] [(.ref w_TRUE)])) rfl (hb hby at_80)
    have pre9 : ∀ tt, Steps p.tables e below (T8.setTop (mkF m 122 #[.val (.int p1), .val (.int (0 : Int32)), .val (.ref w_FALSE), .val (.ref w_TRUE), .val (.int (1 : Int32)), .val (.int (1 : Int32)), .val (.int (1 : Int32))] [(.int (1 : Int32))])) tt → Steps p.tables e below (s₁.setTop (entryFrame m #[(.int p1)] maxLocals)) tt := by
      intro tt kt
      refine pre1 tt ?_
      show Steps p.tables e below (s₁.setTop (mkF m 3 #[.val (.int p1), .unset, .unset, .unset, .unset, .unset, .unset] [(.int (p1 &&& (1 : Int32)))])) _
      refine XS.ifYes X0.here hx rfl (pc0 := 3) (pc' := 10) rfl (hb hby at_3) rfl ((if0 _ _).trans (teq c3_2).1) (by decide) (by decide) ?_
      show Steps p.tables e below (s₁.setTop (mkF m 10 #[.val (.int p1), .unset, .unset, .unset, .unset, .unset, .unset] [])) _
      refine XS.iconst X0.here hx rfl (hb hby at_10) ?_
      show Steps p.tables e below (s₁.setTop (mkF m 11 #[.val (.int p1), .unset, .unset, .unset, .unset, .unset, .unset] [(.int (0 : Int32))])) _
      refine XS.istoreN X0.here hx rfl (hb hby at_11) rfl (l' := #[.val (.int p1), .val (.int (0 : Int32)), .unset, .unset, .unset, .unset, .unset]) rfl ?_
      show Steps p.tables e below (s₁.setTop (mkF m 12 #[.val (.int p1), .val (.int (0 : Int32)), .unset, .unset, .unset, .unset, .unset] [])) _
      refine XS.iloadN X0.here hx rfl (hb hby at_12) rfl ?_
      show Steps p.tables e below (s₁.setTop (mkF m 13 #[.val (.int p1), .val (.int (0 : Int32)), .unset, .unset, .unset, .unset, .unset] [(.int (0 : Int32))])) _
      refine st3 _ ?_
      show Steps p.tables e below (T3.setTop (mkF m 16 #[.val (.int p1), .val (.int (0 : Int32)), .unset, .unset, .unset, .unset, .unset] [(.ref w_FALSE)])) _
      refine XS.astoreN X3.here hx rfl (hb hby at_16) rfl rfl (l' := #[.val (.int p1), .val (.int (0 : Int32)), .val (.ref w_FALSE), .unset, .unset, .unset, .unset]) rfl ?_
      show Steps p.tables e below (T3.setTop (mkF m 17 #[.val (.int p1), .val (.int (0 : Int32)), .val (.ref w_FALSE), .unset, .unset, .unset, .unset] [])) _
      refine XS.iloadN X3.here hx rfl (hb hby at_17) rfl ?_
      show Steps p.tables e below (T3.setTop (mkF m 18 #[.val (.int p1), .val (.int (0 : Int32)), .val (.ref w_FALSE), .unset, .unset, .unset, .unset] [(.int (0 : Int32))])) _
      refine XS.ifNo X3.here hx rfl (hb hby at_18) rfl ((if0 _ _).trans (teq (rfl : (0 : Int32) = (0 : Int32))).2) ?_
      show Steps p.tables e below (T3.setTop (mkF m 21 #[.val (.int p1), .val (.int (0 : Int32)), .val (.ref w_FALSE), .unset, .unset, .unset, .unset] [])) _
      refine XS.iconst X3.here hx rfl (hb hby at_21) ?_
      show Steps p.tables e below (T3.setTop (mkF m 22 #[.val (.int p1), .val (.int (0 : Int32)), .val (.ref w_FALSE), .unset, .unset, .unset, .unset] [(.int (1 : Int32))])) _
      refine XS.goto X3.here hx rfl (pc0 := 22) (pc' := 26) rfl (hb hby at_22) (by decide) (by decide) ?_
      show Steps p.tables e below (T3.setTop (mkF m 26 #[.val (.int p1), .val (.int (0 : Int32)), .val (.ref w_FALSE), .unset, .unset, .unset, .unset] [(.int (1 : Int32))])) _
      refine st4 _ ?_
      show Steps p.tables e below (T4.setTop (mkF m 29 #[.val (.int p1), .val (.int (0 : Int32)), .val (.ref w_FALSE), .unset, .unset, .unset, .unset] [(.ref w_TRUE)])) _
      refine XS.astoreN X4.here hx rfl (hb hby at_29) rfl rfl (l' := #[.val (.int p1), .val (.int (0 : Int32)), .val (.ref w_FALSE), .val (.ref w_TRUE), .unset, .unset, .unset]) rfl ?_
      show Steps p.tables e below (T4.setTop (mkF m 30 #[.val (.int p1), .val (.int (0 : Int32)), .val (.ref w_FALSE), .val (.ref w_TRUE), .unset, .unset, .unset] [])) _
      refine XS.aloadN X4.here hx rfl (hb hby at_30) rfl rfl ?_
      show Steps p.tables e below (T4.setTop (mkF m 31 #[.val (.int p1), .val (.int (0 : Int32)), .val (.ref w_FALSE), .val (.ref w_TRUE), .unset, .unset, .unset] [(.ref w_FALSE)])) _
      refine st5 _ ?_
      show Steps p.tables e below (T5.setTop (mkF m 34 #[.val (.int p1), .val (.int (0 : Int32)), .val (.ref w_FALSE), .val (.ref w_TRUE), .unset, .unset, .unset] [(.ref w_INDETERMINATE), (.ref w_FALSE)])) _
      refine Jvm.RoadKit.acmp (g := (mkF m 34 #[.val (.int p1), .val (.int (0 : Int32)), .val (.ref w_FALSE), .val (.ref w_TRUE), .unset, .unset, .unset] [(.ref w_INDETERMINATE), (.ref w_FALSE)])) X5 hx rfl rfl rfl (pc0 := 34) (pc' := 37) (same := false) rfl (hb hby at_34) rfl (decide_eq_false fun q => nFI (Value.ref.inj q)) (by decide) (by decide) ?_
      show Steps p.tables e below (T5.setTop (mkF m 37 #[.val (.int p1), .val (.int (0 : Int32)), .val (.ref w_FALSE), .val (.ref w_TRUE), .unset, .unset, .unset] [])) _
      refine XS.aloadN X5.here hx rfl (hb hby at_37) rfl rfl ?_
      show Steps p.tables e below (T5.setTop (mkF m 38 #[.val (.int p1), .val (.int (0 : Int32)), .val (.ref w_FALSE), .val (.ref w_TRUE), .unset, .unset, .unset] [(.ref w_TRUE)])) _
      refine st6 _ ?_
      show Steps p.tables e below (T6.setTop (mkF m 41 #[.val (.int p1), .val (.int (0 : Int32)), .val (.ref w_FALSE), .val (.ref w_TRUE), .unset, .unset, .unset] [(.ref w_INDETERMINATE), (.ref w_TRUE)])) _
      refine Jvm.RoadKit.acmp (g := (mkF m 41 #[.val (.int p1), .val (.int (0 : Int32)), .val (.ref w_FALSE), .val (.ref w_TRUE), .unset, .unset, .unset] [(.ref w_INDETERMINATE), (.ref w_TRUE)])) X6 hx rfl rfl rfl (pc0 := 41) (pc' := 44) (same := false) rfl (hb hby at_41) rfl (decide_eq_false fun q => nTI (Value.ref.inj q)) (by decide) (by decide) ?_
      show Steps p.tables e below (T6.setTop (mkF m 44 #[.val (.int p1), .val (.int (0 : Int32)), .val (.ref w_FALSE), .val (.ref w_TRUE), .unset, .unset, .unset] [])) _
      refine XS.iconst X6.here hx rfl (hb hby at_44) ?_
      show Steps p.tables e below (T6.setTop (mkF m 45 #[.val (.int p1), .val (.int (0 : Int32)), .val (.ref w_FALSE), .val (.ref w_TRUE), .unset, .unset, .unset] [(.int (1 : Int32))])) _
      refine XS.goto X6.here hx rfl (pc0 := 45) (pc' := 49) rfl (hb hby at_45) (by decide) (by decide) ?_
      show Steps p.tables e below (T6.setTop (mkF m 49 #[.val (.int p1), .val (.int (0 : Int32)), .val (.ref w_FALSE), .val (.ref w_TRUE), .unset, .unset, .unset] [(.int (1 : Int32))])) _
      refine XS.istore X6.here hx rfl (hb hby at_49) rfl (l' := #[.val (.int p1), .val (.int (0 : Int32)), .val (.ref w_FALSE), .val (.ref w_TRUE), .val (.int (1 : Int32)), .unset, .unset]) rfl ?_
      show Steps p.tables e below (T6.setTop (mkF m 51 #[.val (.int p1), .val (.int (0 : Int32)), .val (.ref w_FALSE), .val (.ref w_TRUE), .val (.int (1 : Int32)), .unset, .unset] [])) _
      refine XS.aloadN X6.here hx rfl (hb hby at_51) rfl rfl ?_
      show Steps p.tables e below (T6.setTop (mkF m 52 #[.val (.int p1), .val (.int (0 : Int32)), .val (.ref w_FALSE), .val (.ref w_TRUE), .val (.int (1 : Int32)), .unset, .unset] [(.ref w_FALSE)])) _
      refine XS.aloadN X6.here hx rfl (hb hby at_52) rfl rfl ?_
      show Steps p.tables e below (T6.setTop (mkF m 53 #[.val (.int p1), .val (.int (0 : Int32)), .val (.ref w_FALSE), .val (.ref w_TRUE), .val (.int (1 : Int32)), .unset, .unset] [(.ref w_TRUE), (.ref w_FALSE)])) _
      refine Jvm.RoadKit.acmp (g := (mkF m 53 #[.val (.int p1), .val (.int (0 : Int32)), .val (.ref w_FALSE), .val (.ref w_TRUE), .val (.int (1 : Int32)), .unset, .unset] [(.ref w_TRUE), (.ref w_FALSE)])) X6 hx rfl rfl rfl (pc0 := 53) (pc' := 56) (same := false) rfl (hb hby at_53) rfl (decide_eq_false fun q => (fun q => nTF q.symm) (Value.ref.inj q)) (by decide) (by decide) ?_
      show Steps p.tables e below (T6.setTop (mkF m 56 #[.val (.int p1), .val (.int (0 : Int32)), .val (.ref w_FALSE), .val (.ref w_TRUE), .val (.int (1 : Int32)), .unset, .unset] [])) _
      refine XS.iconst X6.here hx rfl (hb hby at_56) ?_
      show Steps p.tables e below (T6.setTop (mkF m 57 #[.val (.int p1), .val (.int (0 : Int32)), .val (.ref w_FALSE), .val (.ref w_TRUE), .val (.int (1 : Int32)), .unset, .unset] [(.int (1 : Int32))])) _
      refine XS.goto X6.here hx rfl (pc0 := 57) (pc' := 61) rfl (hb hby at_57) (by decide) (by decide) ?_
      show Steps p.tables e below (T6.setTop (mkF m 61 #[.val (.int p1), .val (.int (0 : Int32)), .val (.ref w_FALSE), .val (.ref w_TRUE), .val (.int (1 : Int32)), .unset, .unset] [(.int (1 : Int32))])) _
      refine XS.istore X6.here hx rfl (hb hby at_61) rfl (l' := #[.val (.int p1), .val (.int (0 : Int32)), .val (.ref w_FALSE), .val (.ref w_TRUE), .val (.int (1 : Int32)), .val (.int (1 : Int32)), .unset]) rfl ?_
      show Steps p.tables e below (T6.setTop (mkF m 63 #[.val (.int p1), .val (.int (0 : Int32)), .val (.ref w_FALSE), .val (.ref w_TRUE), .val (.int (1 : Int32)), .val (.int (1 : Int32)), .unset] [])) _
      refine XS.aloadN X6.here hx rfl (hb hby at_63) rfl rfl ?_
      show Steps p.tables e below (T6.setTop (mkF m 64 #[.val (.int p1), .val (.int (0 : Int32)), .val (.ref w_FALSE), .val (.ref w_TRUE), .val (.int (1 : Int32)), .val (.int (1 : Int32)), .unset] [(.ref w_FALSE)])) _
      refine st7 _ ?_
      show Steps p.tables e below (T7.setTop (mkF m 67 #[.val (.int p1), .val (.int (0 : Int32)), .val (.ref w_FALSE), .val (.ref w_TRUE), .val (.int (1 : Int32)), .val (.int (1 : Int32)), .unset] [(.ref w_TRUE), (.ref w_FALSE)])) _
      refine Jvm.RoadKit.acmp (g := (mkF m 67 #[.val (.int p1), .val (.int (0 : Int32)), .val (.ref w_FALSE), .val (.ref w_TRUE), .val (.int (1 : Int32)), .val (.int (1 : Int32)), .unset] [(.ref w_TRUE), (.ref w_FALSE)])) X7 hx rfl rfl rfl (pc0 := 67) (pc' := 74) (same := false) rfl (hb hby at_67) rfl (decide_eq_false fun q => (fun q => nTF q.symm) (Value.ref.inj q)) (by decide) (by decide) ?_
      show Steps p.tables e below (T7.setTop (mkF m 74 #[.val (.int p1), .val (.int (0 : Int32)), .val (.ref w_FALSE), .val (.ref w_TRUE), .val (.int (1 : Int32)), .val (.int (1 : Int32)), .unset] [])) _
      refine XS.iconst X7.here hx rfl (hb hby at_74) ?_
      show Steps p.tables e below (T7.setTop (mkF m 75 #[.val (.int p1), .val (.int (0 : Int32)), .val (.ref w_FALSE), .val (.ref w_TRUE), .val (.int (1 : Int32)), .val (.int (1 : Int32)), .unset] [(.int (0 : Int32))])) _
      refine XS.iloadN X7.here hx rfl (hb hby at_75) rfl ?_
      show Steps p.tables e below (T7.setTop (mkF m 76 #[.val (.int p1), .val (.int (0 : Int32)), .val (.ref w_FALSE), .val (.ref w_TRUE), .val (.int (1 : Int32)), .val (.int (1 : Int32)), .unset] [(.int (0 : Int32)), (.int (0 : Int32))])) _
      refine XS.icmpNo X7.here hx rfl (hb hby at_76) rfl (teq (rfl : (0 : Int32) = (0 : Int32))).2 ?_
      show Steps p.tables e below (T7.setTop (mkF m 79 #[.val (.int p1), .val (.int (0 : Int32)), .val (.ref w_FALSE), .val (.ref w_TRUE), .val (.int (1 : Int32)), .val (.int (1 : Int32)), .unset] [])) _
      refine XS.aloadN X7.here hx rfl (hb hby at_79) rfl rfl ?_
      show Steps p.tables e below (T7.setTop (mkF m 80 #[.val (.int p1), .val (.int (0 : Int32)), .val (.ref w_FALSE), .val (.ref w_TRUE), .val (.int (1 : Int32)), .val (.int (1 : Int32)), .unset] [(.ref w_TRUE)])) _
      refine st8 _ ?_
      show Steps p.tables e below (T8.setTop (mkF m 83 #[.val (.int p1), .val (.int (0 : Int32)), .val (.ref w_FALSE), .val (.ref w_TRUE), .val (.int (1 : Int32)), .val (.int (1 : Int32)), .unset] [(.ref w_FALSE), (.ref w_TRUE)])) _
      refine Jvm.RoadKit.acmp (g := (mkF m 83 #[.val (.int p1), .val (.int (0 : Int32)), .val (.ref w_FALSE), .val (.ref w_TRUE), .val (.int (1 : Int32)), .val (.int (1 : Int32)), .unset] [(.ref w_FALSE), (.ref w_TRUE)])) X8 hx rfl rfl rfl (pc0 := 83) (pc' := 90) (same := false) rfl (hb hby at_83) rfl (decide_eq_false fun q => nTF (Value.ref.inj q)) (by decide) (by decide) ?_
      show Steps p.tables e below (T8.setTop (mkF m 90 #[.val (.int p1), .val (.int (0 : Int32)), .val (.ref w_FALSE), .val (.ref w_TRUE), .val (.int (1 : Int32)), .val (.int (1 : Int32)), .unset] [])) _
      refine XS.iconst X8.here hx rfl (hb hby at_90) ?_
      show Steps p.tables e below (T8.setTop (mkF m 91 #[.val (.int p1), .val (.int (0 : Int32)), .val (.ref w_FALSE), .val (.ref w_TRUE), .val (.int (1 : Int32)), .val (.int (1 : Int32)), .unset] [(.int (0 : Int32))])) _
      refine XS.iloadN X8.here hx rfl (hb hby at_91) rfl ?_
      show Steps p.tables e below (T8.setTop (mkF m 92 #[.val (.int p1), .val (.int (0 : Int32)), .val (.ref w_FALSE), .val (.ref w_TRUE), .val (.int (1 : Int32)), .val (.int (1 : Int32)), .unset] [(.int (0 : Int32)), (.int (0 : Int32))])) _
      refine XS.icmpNo X8.here hx rfl (hb hby at_92) rfl (teq (rfl : (0 : Int32) = (0 : Int32))).2 ?_
      show Steps p.tables e below (T8.setTop (mkF m 95 #[.val (.int p1), .val (.int (0 : Int32)), .val (.ref w_FALSE), .val (.ref w_TRUE), .val (.int (1 : Int32)), .val (.int (1 : Int32)), .unset] [])) _
      refine XS.iconst X8.here hx rfl (hb hby at_95) ?_
      show Steps p.tables e below (T8.setTop (mkF m 96 #[.val (.int p1), .val (.int (0 : Int32)), .val (.ref w_FALSE), .val (.ref w_TRUE), .val (.int (1 : Int32)), .val (.int (1 : Int32)), .unset] [(.int (1 : Int32))])) _
      refine XS.goto X8.here hx rfl (pc0 := 96) (pc' := 100) rfl (hb hby at_96) (by decide) (by decide) ?_
      show Steps p.tables e below (T8.setTop (mkF m 100 #[.val (.int p1), .val (.int (0 : Int32)), .val (.ref w_FALSE), .val (.ref w_TRUE), .val (.int (1 : Int32)), .val (.int (1 : Int32)), .unset] [(.int (1 : Int32))])) _
      refine XS.istore X8.here hx rfl (hb hby at_100) rfl (l' := #[.val (.int p1), .val (.int (0 : Int32)), .val (.ref w_FALSE), .val (.ref w_TRUE), .val (.int (1 : Int32)), .val (.int (1 : Int32)), .val (.int (1 : Int32))]) rfl ?_
      show Steps p.tables e below (T8.setTop (mkF m 102 #[.val (.int p1), .val (.int (0 : Int32)), .val (.ref w_FALSE), .val (.ref w_TRUE), .val (.int (1 : Int32)), .val (.int (1 : Int32)), .val (.int (1 : Int32))] [])) _
      refine XS.iload X8.here hx rfl (hb hby at_102) rfl ?_
      show Steps p.tables e below (T8.setTop (mkF m 104 #[.val (.int p1), .val (.int (0 : Int32)), .val (.ref w_FALSE), .val (.ref w_TRUE), .val (.int (1 : Int32)), .val (.int (1 : Int32)), .val (.int (1 : Int32))] [(.int (1 : Int32))])) _
      refine XS.ifNo X8.here hx rfl (hb hby at_104) rfl ((if0 _ _).trans (feq (by decide : ¬ ((1 : Int32) = (0 : Int32)))).1) ?_
      show Steps p.tables e below (T8.setTop (mkF m 107 #[.val (.int p1), .val (.int (0 : Int32)), .val (.ref w_FALSE), .val (.ref w_TRUE), .val (.int (1 : Int32)), .val (.int (1 : Int32)), .val (.int (1 : Int32))] [])) _
      refine XS.iload X8.here hx rfl (hb hby at_107) rfl ?_
      show Steps p.tables e below (T8.setTop (mkF m 109 #[.val (.int p1), .val (.int (0 : Int32)), .val (.ref w_FALSE), .val (.ref w_TRUE), .val (.int (1 : Int32)), .val (.int (1 : Int32)), .val (.int (1 : Int32))] [(.int (1 : Int32))])) _
      refine XS.ifNo X8.here hx rfl (hb hby at_109) rfl ((if0 _ _).trans (feq (by decide : ¬ ((1 : Int32) = (0 : Int32)))).1) ?_
      show Steps p.tables e below (T8.setTop (mkF m 112 #[.val (.int p1), .val (.int (0 : Int32)), .val (.ref w_FALSE), .val (.ref w_TRUE), .val (.int (1 : Int32)), .val (.int (1 : Int32)), .val (.int (1 : Int32))] [])) _
      refine XS.iload X8.here hx rfl (hb hby at_112) rfl ?_
      show Steps p.tables e below (T8.setTop (mkF m 114 #[.val (.int p1), .val (.int (0 : Int32)), .val (.ref w_FALSE), .val (.ref w_TRUE), .val (.int (1 : Int32)), .val (.int (1 : Int32)), .val (.int (1 : Int32))] [(.int (1 : Int32))])) _
      refine XS.ifNo X8.here hx rfl (hb hby at_114) rfl ((if0 _ _).trans (feq (by decide : ¬ ((1 : Int32) = (0 : Int32)))).1) ?_
      show Steps p.tables e below (T8.setTop (mkF m 117 #[.val (.int p1), .val (.int (0 : Int32)), .val (.ref w_FALSE), .val (.ref w_TRUE), .val (.int (1 : Int32)), .val (.int (1 : Int32)), .val (.int (1 : Int32))] [])) _
      refine XS.iconst X8.here hx rfl (hb hby at_117) ?_
      show Steps p.tables e below (T8.setTop (mkF m 118 #[.val (.int p1), .val (.int (0 : Int32)), .val (.ref w_FALSE), .val (.ref w_TRUE), .val (.int (1 : Int32)), .val (.int (1 : Int32)), .val (.int (1 : Int32))] [(.int (1 : Int32))])) _
      refine XS.goto X8.here hx rfl (pc0 := 118) (pc' := 122) rfl (hb hby at_118) (by decide) (by decide) ?_
      exact kt
    obtain ⟨fs, hr, hrun, hended, hW, hsame⟩ := X8.leave (v := some (.int (1 : Int32))) (fun h => by rw [Bd.returns] at h; cases h)
    refine ⟨_, _, pre9 _ ?_, hrun, hended, _, _, rfl, ?_, ⟨_, rfl⟩, hW, hsame.mono (by decide) (by decide)⟩
    · show Steps p.tables e below (T8.setTop (mkF m 122 #[.val (.int p1), .val (.int (0 : Int32)), .val (.ref w_FALSE), .val (.ref w_TRUE), .val (.int (1 : Int32)), .val (.int (1 : Int32)), .val (.int (1 : Int32))] [(.int (1 : Int32))])) _
      exact retN X8 hx (t := .boolean) Bd.returns (by simp) (hb hby at_122) hr
    · show Q0 Z h0 n0 _ T8.heap _
      rw [e8]
      exact ⟨rfl, N4⟩
  · obtain ⟨_, _, ⟨T10, L10, k10, n10⟩, -, X10, ⟨Lc10, hQ10, l10, y10, z10⟩, st10⟩ := Jvm.LawKit.callS X0 hx (y := (⟨"com/example/riegel/riegel/policy/Truth", "of", "(Z)Lcom/example/riegel/riegel/policy/Truth;"⟩ : MethodName)) hown (mvT hZ (hw _ (List.mem_of_getElem? (i := 0) rfl))) (mvT hZ (hw _ (List.mem_of_getElem? (i := 1) rfl))) (mvT hZ (hw _ (List.mem_of_getElem? (i := 2) rfl))) (mvT hZ (hw _ (List.mem_of_getElem? (i := 3) rfl))) (by decide) (backOf (W := 0) (rm1 l Z a0 hw [] (1 : Int32) w_TRUE w_FALSE w_TRUE h0 n0 Z0 S_TRUE S_FALSE (by simp)) hZ (hw _ (List.mem_of_getElem? (i := 3) rfl)) (hw _ (List.mem_of_getElem? (i := 2) rfl)) (by decide) (by decide)) (g := (mkF m 13 #[.val (.int p1), .val (.int (1 : Int32)), .unset, .unset, .unset, .unset, .unset] [(.int (1 : Int32))])) rfl (by rw [hml]; rfl) (argsL := [(.int (1 : Int32))]) (rest := []) (lenOf pd_rm0_0 rfl) rfl (by show 2 * 0 + _ ≤ _; exact Nat.le_of_eq rfl) (hb hby at_13) (fun _ _ => ⟨rfl, e0, (by decide : 0 + 0 ≤ _), (by decide : 0 + 0 ≤ _)⟩)
    dsimp only [Pt.U, Pt.locs, Pt.cells, Pt.slots] at X10 l10 y10 z10 st10 hQ10
    subst l10 y10 z10
    obtain ⟨rfl, N10q, hE10⟩ := hQ10
    have N10 := Fr.app N0 N10q
    obtain ⟨_, _, ⟨T11, L11, k11, n11⟩, -, X11, ⟨Lc11, hQ11, l11, y11, z11⟩, st11⟩ := Jvm.LawKit.callS X10 hx (y := (⟨"com/example/riegel/riegel/policy/Truth", "of", "(Z)Lcom/example/riegel/riegel/policy/Truth;"⟩ : MethodName)) hown (mvT hZ (hw _ (List.mem_of_getElem? (i := 0) rfl))) (mvT hZ (hw _ (List.mem_of_getElem? (i := 1) rfl))) (mvT hZ (hw _ (List.mem_of_getElem? (i := 2) rfl))) (mvT hZ (hw _ (List.mem_of_getElem? (i := 3) rfl))) (by decide) (backOf (W := 0) (rm1 l Z a0 hw [] (0 : Int32) w_TRUE w_FALSE w_FALSE h0 n0 Z0 S_TRUE S_FALSE (by simp)) hZ (hw _ (List.mem_of_getElem? (i := 3) rfl)) (hw _ (List.mem_of_getElem? (i := 2) rfl)) (by decide) (by decide)) (g := (mkF m 26 #[.val (.int p1), .val (.int (1 : Int32)), .val (.ref w_TRUE), .unset, .unset, .unset, .unset] [(.int (0 : Int32))])) rfl (by rw [hml]; rfl) (argsL := [(.int (0 : Int32))]) (rest := []) (lenOf pd_rm0_0 rfl) rfl (by show 2 * 0 + _ ≤ _; exact Nat.le_of_eq rfl) (hb hby at_26) (fun _ _ => ⟨rfl, hE10, (by decide : 0 + 0 ≤ _), (by decide : 0 + 0 ≤ _)⟩)
    dsimp only [Pt.U, Pt.locs, Pt.cells, Pt.slots] at X11 l11 y11 z11 st11 hQ11
    subst l11 y11 z11
    obtain ⟨rfl, N11q, hE11⟩ := hQ11
    have N11 := Fr.app N10 N11q
    obtain ⟨T12, X12, e12, st12⟩ := getS2 X11 hx hZ hown (host := "") (Or.inl (hw _ (List.mem_of_getElem? (i := 8) rfl))) Via.refl hE11 S_INDETERMINATE (g := (mkF m 31 #[.val (.int p1), .val (.int (1 : Int32)), .val (.ref w_TRUE), .val (.ref w_FALSE), .unset, .unset, .unset] [(.ref w_TRUE)])) rfl (hb hby at_31)
    obtain ⟨T13, X13, e13, st13⟩ := getS2 X12 hx hZ hown (host := "") (Or.inl (hw _ (List.mem_of_getElem? (i := 8) rfl))) Via.refl e12 S_INDETERMINATE (g := (mkF m 38 #[.val (.int p1), .val (.int (1 : Int32)), .val (.ref w_TRUE), .val (.ref w_FALSE), .unset, .unset, .unset] [(.ref w_FALSE)])) rfl (hb hby at_38)
    obtain ⟨T14, X14, e14, st14⟩ := getS2 X13 hx hZ hown (host := "") (Or.inl (hw _ (List.mem_of_getElem? (i := 10) rfl))) Via.refl e13 S_TRUE (g := (mkF m 64 #[.val (.int p1), .val (.int (1 : Int32)), .val (.ref w_TRUE), .val (.ref w_FALSE), .val (.int (1 : Int32)), .val (.int (1 : Int32)), .unset] [(.ref w_TRUE)])) rfl (hb hby at_64)
    obtain ⟨T15, X15, e15, st15⟩ := getS2 X14 hx hZ hown (host := "") (Or.inl (hw _ (List.mem_of_getElem? (i := 11) rfl))) Via.refl e14 S_FALSE (g := (mkF m 80 #[.val (.int p1), .val (.int (1 : Int32)), .val (.ref w_TRUE), .val (.ref w_FALSE), .val (.int (1 : Int32)), .val (.int (1 : Int32)), .unset] [(.ref w_FALSE)])) rfl (hb hby at_80)
    have pre16 : ∀ tt, Steps p.tables e below (T15.setTop (mkF m 122 #[.val (.int p1), .val (.int (1 : Int32)), .val (.ref w_TRUE), .val (.ref w_FALSE), .val (.int (1 : Int32)), .val (.int (1 : Int32)), .val (.int (1 : Int32))] [(.int (1 : Int32))])) tt → Steps p.tables e below (s₁.setTop (entryFrame m #[(.int p1)] maxLocals)) tt := by
      intro tt kt
      refine pre1 tt ?_
      show Steps p.tables e below (s₁.setTop (mkF m 3 #[.val (.int p1), .unset, .unset, .unset, .unset, .unset, .unset] [(.int (p1 &&& (1 : Int32)))])) _
      refine XS.ifNo X0.here hx rfl (hb hby at_3) rfl ((if0 _ _).trans (feq c3_2).1) ?_
      show Steps p.tables e below (s₁.setTop (mkF m 6 #[.val (.int p1), .unset, .unset, .unset, .unset, .unset, .unset] [])) _
      refine XS.iconst X0.here hx rfl (hb hby at_6) ?_
      show Steps p.tables e below (s₁.setTop (mkF m 7 #[.val (.int p1), .unset, .unset, .unset, .unset, .unset, .unset] [(.int (1 : Int32))])) _
      refine XS.goto X0.here hx rfl (pc0 := 7) (pc' := 11) rfl (hb hby at_7) (by decide) (by decide) ?_
      show Steps p.tables e below (s₁.setTop (mkF m 11 #[.val (.int p1), .unset, .unset, .unset, .unset, .unset, .unset] [(.int (1 : Int32))])) _
      refine XS.istoreN X0.here hx rfl (hb hby at_11) rfl (l' := #[.val (.int p1), .val (.int (1 : Int32)), .unset, .unset, .unset, .unset, .unset]) rfl ?_
      show Steps p.tables e below (s₁.setTop (mkF m 12 #[.val (.int p1), .val (.int (1 : Int32)), .unset, .unset, .unset, .unset, .unset] [])) _
      refine XS.iloadN X0.here hx rfl (hb hby at_12) rfl ?_
      show Steps p.tables e below (s₁.setTop (mkF m 13 #[.val (.int p1), .val (.int (1 : Int32)), .unset, .unset, .unset, .unset, .unset] [(.int (1 : Int32))])) _
      refine st10 _ ?_
      show Steps p.tables e below (T10.setTop (mkF m 16 #[.val (.int p1), .val (.int (1 : Int32)), .unset, .unset, .unset, .unset, .unset] [(.ref w_TRUE)])) _
      refine XS.astoreN X10.here hx rfl (hb hby at_16) rfl rfl (l' := #[.val (.int p1), .val (.int (1 : Int32)), .val (.ref w_TRUE), .unset, .unset, .unset, .unset]) rfl ?_
      show Steps p.tables e below (T10.setTop (mkF m 17 #[.val (.int p1), .val (.int (1 : Int32)), .val (.ref w_TRUE), .unset, .unset, .unset, .unset] [])) _
      refine XS.iloadN X10.here hx rfl (hb hby at_17) rfl ?_
      show Steps p.tables e below (T10.setTop (mkF m 18 #[.val (.int p1), .val (.int (1 : Int32)), .val (.ref w_TRUE), .unset, .unset, .unset, .unset] [(.int (1 : Int32))])) _
      refine XS.ifYes X10.here hx rfl (pc0 := 18) (pc' := 25) rfl (hb hby at_18) rfl ((if0 _ _).trans (feq (by decide : ¬ ((1 : Int32) = (0 : Int32)))).2) (by decide) (by decide) ?_
      show Steps p.tables e below (T10.setTop (mkF m 25 #[.val (.int p1), .val (.int (1 : Int32)), .val (.ref w_TRUE), .unset, .unset, .unset, .unset] [])) _
      refine XS.iconst X10.here hx rfl (hb hby at_25) ?_
      show Steps p.tables e below (T10.setTop (mkF m 26 #[.val (.int p1), .val (.int (1 : Int32)), .val (.ref w_TRUE), .unset, .unset, .unset, .unset] [(.int (0 : Int32))])) _
      refine st11 _ ?_
      show Steps p.tables e below (T11.setTop (mkF m 29 #[.val (.int p1), .val (.int (1 : Int32)), .val (.ref w_TRUE), .unset, .unset, .unset, .unset] [(.ref w_FALSE)])) _
      refine XS.astoreN X11.here hx rfl (hb hby at_29) rfl rfl (l' := #[.val (.int p1), .val (.int (1 : Int32)), .val (.ref w_TRUE), .val (.ref w_FALSE), .unset, .unset, .unset]) rfl ?_
      show Steps p.tables e below (T11.setTop (mkF m 30 #[.val (.int p1), .val (.int (1 : Int32)), .val (.ref w_TRUE), .val (.ref w_FALSE), .unset, .unset, .unset] [])) _
      refine XS.aloadN X11.here hx rfl (hb hby at_30) rfl rfl ?_
      show Steps p.tables e below (T11.setTop (mkF m 31 #[.val (.int p1), .val (.int (1 : Int32)), .val (.ref w_TRUE), .val (.ref w_FALSE), .unset, .unset, .unset] [(.ref w_TRUE)])) _
      refine st12 _ ?_
      show Steps p.tables e below (T12.setTop (mkF m 34 #[.val (.int p1), .val (.int (1 : Int32)), .val (.ref w_TRUE), .val (.ref w_FALSE), .unset, .unset, .unset] [(.ref w_INDETERMINATE), (.ref w_TRUE)])) _
      refine Jvm.RoadKit.acmp (g := (mkF m 34 #[.val (.int p1), .val (.int (1 : Int32)), .val (.ref w_TRUE), .val (.ref w_FALSE), .unset, .unset, .unset] [(.ref w_INDETERMINATE), (.ref w_TRUE)])) X12 hx rfl rfl rfl (pc0 := 34) (pc' := 37) (same := false) rfl (hb hby at_34) rfl (decide_eq_false fun q => nTI (Value.ref.inj q)) (by decide) (by decide) ?_
      show Steps p.tables e below (T12.setTop (mkF m 37 #[.val (.int p1), .val (.int (1 : Int32)), .val (.ref w_TRUE), .val (.ref w_FALSE), .unset, .unset, .unset] [])) _
      refine XS.aloadN X12.here hx rfl (hb hby at_37) rfl rfl ?_
      show Steps p.tables e below (T12.setTop (mkF m 38 #[.val (.int p1), .val (.int (1 : Int32)), .val (.ref w_TRUE), .val (.ref w_FALSE), .unset, .unset, .unset] [(.ref w_FALSE)])) _
      refine st13 _ ?_
      show Steps p.tables e below (T13.setTop (mkF m 41 #[.val (.int p1), .val (.int (1 : Int32)), .val (.ref w_TRUE), .val (.ref w_FALSE), .unset, .unset, .unset] [(.ref w_INDETERMINATE), (.ref w_FALSE)])) _
      refine Jvm.RoadKit.acmp (g := (mkF m 41 #[.val (.int p1), .val (.int (1 : Int32)), .val (.ref w_TRUE), .val (.ref w_FALSE), .unset, .unset, .unset] [(.ref w_INDETERMINATE), (.ref w_FALSE)])) X13 hx rfl rfl rfl (pc0 := 41) (pc' := 44) (same := false) rfl (hb hby at_41) rfl (decide_eq_false fun q => nFI (Value.ref.inj q)) (by decide) (by decide) ?_
      show Steps p.tables e below (T13.setTop (mkF m 44 #[.val (.int p1), .val (.int (1 : Int32)), .val (.ref w_TRUE), .val (.ref w_FALSE), .unset, .unset, .unset] [])) _
      refine XS.iconst X13.here hx rfl (hb hby at_44) ?_
      show Steps p.tables e below (T13.setTop (mkF m 45 #[.val (.int p1), .val (.int (1 : Int32)), .val (.ref w_TRUE), .val (.ref w_FALSE), .unset, .unset, .unset] [(.int (1 : Int32))])) _
      refine XS.goto X13.here hx rfl (pc0 := 45) (pc' := 49) rfl (hb hby at_45) (by decide) (by decide) ?_
      show Steps p.tables e below (T13.setTop (mkF m 49 #[.val (.int p1), .val (.int (1 : Int32)), .val (.ref w_TRUE), .val (.ref w_FALSE), .unset, .unset, .unset] [(.int (1 : Int32))])) _
      refine XS.istore X13.here hx rfl (hb hby at_49) rfl (l' := #[.val (.int p1), .val (.int (1 : Int32)), .val (.ref w_TRUE), .val (.ref w_FALSE), .val (.int (1 : Int32)), .unset, .unset]) rfl ?_
      show Steps p.tables e below (T13.setTop (mkF m 51 #[.val (.int p1), .val (.int (1 : Int32)), .val (.ref w_TRUE), .val (.ref w_FALSE), .val (.int (1 : Int32)), .unset, .unset] [])) _
      refine XS.aloadN X13.here hx rfl (hb hby at_51) rfl rfl ?_
      show Steps p.tables e below (T13.setTop (mkF m 52 #[.val (.int p1), .val (.int (1 : Int32)), .val (.ref w_TRUE), .val (.ref w_FALSE), .val (.int (1 : Int32)), .unset, .unset] [(.ref w_TRUE)])) _
      refine XS.aloadN X13.here hx rfl (hb hby at_52) rfl rfl ?_
      show Steps p.tables e below (T13.setTop (mkF m 53 #[.val (.int p1), .val (.int (1 : Int32)), .val (.ref w_TRUE), .val (.ref w_FALSE), .val (.int (1 : Int32)), .unset, .unset] [(.ref w_FALSE), (.ref w_TRUE)])) _
      refine Jvm.RoadKit.acmp (g := (mkF m 53 #[.val (.int p1), .val (.int (1 : Int32)), .val (.ref w_TRUE), .val (.ref w_FALSE), .val (.int (1 : Int32)), .unset, .unset] [(.ref w_FALSE), (.ref w_TRUE)])) X13 hx rfl rfl rfl (pc0 := 53) (pc' := 56) (same := false) rfl (hb hby at_53) rfl (decide_eq_false fun q => nTF (Value.ref.inj q)) (by decide) (by decide) ?_
      show Steps p.tables e below (T13.setTop (mkF m 56 #[.val (.int p1), .val (.int (1 : Int32)), .val (.ref w_TRUE), .val (.ref w_FALSE), .val (.int (1 : Int32)), .unset, .unset] [])) _
      refine XS.iconst X13.here hx rfl (hb hby at_56) ?_
      show Steps p.tables e below (T13.setTop (mkF m 57 #[.val (.int p1), .val (.int (1 : Int32)), .val (.ref w_TRUE), .val (.ref w_FALSE), .val (.int (1 : Int32)), .unset, .unset] [(.int (1 : Int32))])) _
      refine XS.goto X13.here hx rfl (pc0 := 57) (pc' := 61) rfl (hb hby at_57) (by decide) (by decide) ?_
      show Steps p.tables e below (T13.setTop (mkF m 61 #[.val (.int p1), .val (.int (1 : Int32)), .val (.ref w_TRUE), .val (.ref w_FALSE), .val (.int (1 : Int32)), .unset, .unset] [(.int (1 : Int32))])) _
      refine XS.istore X13.here hx rfl (hb hby at_61) rfl (l' := #[.val (.int p1), .val (.int (1 : Int32)), .val (.ref w_TRUE), .val (.ref w_FALSE), .val (.int (1 : Int32)), .val (.int (1 : Int32)), .unset]) rfl ?_
      show Steps p.tables e below (T13.setTop (mkF m 63 #[.val (.int p1), .val (.int (1 : Int32)), .val (.ref w_TRUE), .val (.ref w_FALSE), .val (.int (1 : Int32)), .val (.int (1 : Int32)), .unset] [])) _
      refine XS.aloadN X13.here hx rfl (hb hby at_63) rfl rfl ?_
      show Steps p.tables e below (T13.setTop (mkF m 64 #[.val (.int p1), .val (.int (1 : Int32)), .val (.ref w_TRUE), .val (.ref w_FALSE), .val (.int (1 : Int32)), .val (.int (1 : Int32)), .unset] [(.ref w_TRUE)])) _
      refine st14 _ ?_
      show Steps p.tables e below (T14.setTop (mkF m 67 #[.val (.int p1), .val (.int (1 : Int32)), .val (.ref w_TRUE), .val (.ref w_FALSE), .val (.int (1 : Int32)), .val (.int (1 : Int32)), .unset] [(.ref w_TRUE), (.ref w_TRUE)])) _
      refine Jvm.RoadKit.acmp (g := (mkF m 67 #[.val (.int p1), .val (.int (1 : Int32)), .val (.ref w_TRUE), .val (.ref w_FALSE), .val (.int (1 : Int32)), .val (.int (1 : Int32)), .unset] [(.ref w_TRUE), (.ref w_TRUE)])) X14 hx rfl rfl rfl (pc0 := 67) (pc' := 70) (same := true) rfl (hb hby at_67) rfl (decide_eq_true rfl) (by decide) (by decide) ?_
      show Steps p.tables e below (T14.setTop (mkF m 70 #[.val (.int p1), .val (.int (1 : Int32)), .val (.ref w_TRUE), .val (.ref w_FALSE), .val (.int (1 : Int32)), .val (.int (1 : Int32)), .unset] [])) _
      refine XS.iconst X14.here hx rfl (hb hby at_70) ?_
      show Steps p.tables e below (T14.setTop (mkF m 71 #[.val (.int p1), .val (.int (1 : Int32)), .val (.ref w_TRUE), .val (.ref w_FALSE), .val (.int (1 : Int32)), .val (.int (1 : Int32)), .unset] [(.int (1 : Int32))])) _
      refine XS.goto X14.here hx rfl (pc0 := 71) (pc' := 75) rfl (hb hby at_71) (by decide) (by decide) ?_
      show Steps p.tables e below (T14.setTop (mkF m 75 #[.val (.int p1), .val (.int (1 : Int32)), .val (.ref w_TRUE), .val (.ref w_FALSE), .val (.int (1 : Int32)), .val (.int (1 : Int32)), .unset] [(.int (1 : Int32))])) _
      refine XS.iloadN X14.here hx rfl (hb hby at_75) rfl ?_
      show Steps p.tables e below (T14.setTop (mkF m 76 #[.val (.int p1), .val (.int (1 : Int32)), .val (.ref w_TRUE), .val (.ref w_FALSE), .val (.int (1 : Int32)), .val (.int (1 : Int32)), .unset] [(.int (1 : Int32)), (.int (1 : Int32))])) _
      refine XS.icmpNo X14.here hx rfl (hb hby at_76) rfl (teq (rfl : (1 : Int32) = (1 : Int32))).2 ?_
      show Steps p.tables e below (T14.setTop (mkF m 79 #[.val (.int p1), .val (.int (1 : Int32)), .val (.ref w_TRUE), .val (.ref w_FALSE), .val (.int (1 : Int32)), .val (.int (1 : Int32)), .unset] [])) _
      refine XS.aloadN X14.here hx rfl (hb hby at_79) rfl rfl ?_
      show Steps p.tables e below (T14.setTop (mkF m 80 #[.val (.int p1), .val (.int (1 : Int32)), .val (.ref w_TRUE), .val (.ref w_FALSE), .val (.int (1 : Int32)), .val (.int (1 : Int32)), .unset] [(.ref w_FALSE)])) _
      refine st15 _ ?_
      show Steps p.tables e below (T15.setTop (mkF m 83 #[.val (.int p1), .val (.int (1 : Int32)), .val (.ref w_TRUE), .val (.ref w_FALSE), .val (.int (1 : Int32)), .val (.int (1 : Int32)), .unset] [(.ref w_FALSE), (.ref w_FALSE)])) _
      refine Jvm.RoadKit.acmp (g := (mkF m 83 #[.val (.int p1), .val (.int (1 : Int32)), .val (.ref w_TRUE), .val (.ref w_FALSE), .val (.int (1 : Int32)), .val (.int (1 : Int32)), .unset] [(.ref w_FALSE), (.ref w_FALSE)])) X15 hx rfl rfl rfl (pc0 := 83) (pc' := 86) (same := true) rfl (hb hby at_83) rfl (decide_eq_true rfl) (by decide) (by decide) ?_
      show Steps p.tables e below (T15.setTop (mkF m 86 #[.val (.int p1), .val (.int (1 : Int32)), .val (.ref w_TRUE), .val (.ref w_FALSE), .val (.int (1 : Int32)), .val (.int (1 : Int32)), .unset] [])) _
      refine XS.iconst X15.here hx rfl (hb hby at_86) ?_
      show Steps p.tables e below (T15.setTop (mkF m 87 #[.val (.int p1), .val (.int (1 : Int32)), .val (.ref w_TRUE), .val (.ref w_FALSE), .val (.int (1 : Int32)), .val (.int (1 : Int32)), .unset] [(.int (1 : Int32))])) _
      refine XS.goto X15.here hx rfl (pc0 := 87) (pc' := 91) rfl (hb hby at_87) (by decide) (by decide) ?_
      show Steps p.tables e below (T15.setTop (mkF m 91 #[.val (.int p1), .val (.int (1 : Int32)), .val (.ref w_TRUE), .val (.ref w_FALSE), .val (.int (1 : Int32)), .val (.int (1 : Int32)), .unset] [(.int (1 : Int32))])) _
      refine XS.iloadN X15.here hx rfl (hb hby at_91) rfl ?_
      show Steps p.tables e below (T15.setTop (mkF m 92 #[.val (.int p1), .val (.int (1 : Int32)), .val (.ref w_TRUE), .val (.ref w_FALSE), .val (.int (1 : Int32)), .val (.int (1 : Int32)), .unset] [(.int (1 : Int32)), (.int (1 : Int32))])) _
      refine XS.icmpNo X15.here hx rfl (hb hby at_92) rfl (teq (rfl : (1 : Int32) = (1 : Int32))).2 ?_
      show Steps p.tables e below (T15.setTop (mkF m 95 #[.val (.int p1), .val (.int (1 : Int32)), .val (.ref w_TRUE), .val (.ref w_FALSE), .val (.int (1 : Int32)), .val (.int (1 : Int32)), .unset] [])) _
      refine XS.iconst X15.here hx rfl (hb hby at_95) ?_
      show Steps p.tables e below (T15.setTop (mkF m 96 #[.val (.int p1), .val (.int (1 : Int32)), .val (.ref w_TRUE), .val (.ref w_FALSE), .val (.int (1 : Int32)), .val (.int (1 : Int32)), .unset] [(.int (1 : Int32))])) _
      refine XS.goto X15.here hx rfl (pc0 := 96) (pc' := 100) rfl (hb hby at_96) (by decide) (by decide) ?_
      show Steps p.tables e below (T15.setTop (mkF m 100 #[.val (.int p1), .val (.int (1 : Int32)), .val (.ref w_TRUE), .val (.ref w_FALSE), .val (.int (1 : Int32)), .val (.int (1 : Int32)), .unset] [(.int (1 : Int32))])) _
      refine XS.istore X15.here hx rfl (hb hby at_100) rfl (l' := #[.val (.int p1), .val (.int (1 : Int32)), .val (.ref w_TRUE), .val (.ref w_FALSE), .val (.int (1 : Int32)), .val (.int (1 : Int32)), .val (.int (1 : Int32))]) rfl ?_
      show Steps p.tables e below (T15.setTop (mkF m 102 #[.val (.int p1), .val (.int (1 : Int32)), .val (.ref w_TRUE), .val (.ref w_FALSE), .val (.int (1 : Int32)), .val (.int (1 : Int32)), .val (.int (1 : Int32))] [])) _
      refine XS.iload X15.here hx rfl (hb hby at_102) rfl ?_
      show Steps p.tables e below (T15.setTop (mkF m 104 #[.val (.int p1), .val (.int (1 : Int32)), .val (.ref w_TRUE), .val (.ref w_FALSE), .val (.int (1 : Int32)), .val (.int (1 : Int32)), .val (.int (1 : Int32))] [(.int (1 : Int32))])) _
      refine XS.ifNo X15.here hx rfl (hb hby at_104) rfl ((if0 _ _).trans (feq (by decide : ¬ ((1 : Int32) = (0 : Int32)))).1) ?_
      show Steps p.tables e below (T15.setTop (mkF m 107 #[.val (.int p1), .val (.int (1 : Int32)), .val (.ref w_TRUE), .val (.ref w_FALSE), .val (.int (1 : Int32)), .val (.int (1 : Int32)), .val (.int (1 : Int32))] [])) _
      refine XS.iload X15.here hx rfl (hb hby at_107) rfl ?_
      show Steps p.tables e below (T15.setTop (mkF m 109 #[.val (.int p1), .val (.int (1 : Int32)), .val (.ref w_TRUE), .val (.ref w_FALSE), .val (.int (1 : Int32)), .val (.int (1 : Int32)), .val (.int (1 : Int32))] [(.int (1 : Int32))])) _
      refine XS.ifNo X15.here hx rfl (hb hby at_109) rfl ((if0 _ _).trans (feq (by decide : ¬ ((1 : Int32) = (0 : Int32)))).1) ?_
      show Steps p.tables e below (T15.setTop (mkF m 112 #[.val (.int p1), .val (.int (1 : Int32)), .val (.ref w_TRUE), .val (.ref w_FALSE), .val (.int (1 : Int32)), .val (.int (1 : Int32)), .val (.int (1 : Int32))] [])) _
      refine XS.iload X15.here hx rfl (hb hby at_112) rfl ?_
      show Steps p.tables e below (T15.setTop (mkF m 114 #[.val (.int p1), .val (.int (1 : Int32)), .val (.ref w_TRUE), .val (.ref w_FALSE), .val (.int (1 : Int32)), .val (.int (1 : Int32)), .val (.int (1 : Int32))] [(.int (1 : Int32))])) _
      refine XS.ifNo X15.here hx rfl (hb hby at_114) rfl ((if0 _ _).trans (feq (by decide : ¬ ((1 : Int32) = (0 : Int32)))).1) ?_
      show Steps p.tables e below (T15.setTop (mkF m 117 #[.val (.int p1), .val (.int (1 : Int32)), .val (.ref w_TRUE), .val (.ref w_FALSE), .val (.int (1 : Int32)), .val (.int (1 : Int32)), .val (.int (1 : Int32))] [])) _
      refine XS.iconst X15.here hx rfl (hb hby at_117) ?_
      show Steps p.tables e below (T15.setTop (mkF m 118 #[.val (.int p1), .val (.int (1 : Int32)), .val (.ref w_TRUE), .val (.ref w_FALSE), .val (.int (1 : Int32)), .val (.int (1 : Int32)), .val (.int (1 : Int32))] [(.int (1 : Int32))])) _
      refine XS.goto X15.here hx rfl (pc0 := 118) (pc' := 122) rfl (hb hby at_118) (by decide) (by decide) ?_
      exact kt
    obtain ⟨fs, hr, hrun, hended, hW, hsame⟩ := X15.leave (v := some (.int (1 : Int32))) (fun h => by rw [Bd.returns] at h; cases h)
    refine ⟨_, _, pre16 _ ?_, hrun, hended, _, _, rfl, ?_, ⟨_, rfl⟩, hW, hsame.mono (by decide) (by decide)⟩
    · show Steps p.tables e below (T15.setTop (mkF m 122 #[.val (.int p1), .val (.int (1 : Int32)), .val (.ref w_TRUE), .val (.ref w_FALSE), .val (.int (1 : Int32)), .val (.int (1 : Int32)), .val (.int (1 : Int32))] [(.int (1 : Int32))])) _
      exact retN X15 hx (t := .boolean) Bd.returns (by simp) (hb hby at_122) hr
    · show Q0 Z h0 n0 _ T15.heap _
      rw [e15]
      exact ⟨rfl, N11⟩
set_option maxRecDepth 65536 in
set_option maxHeartbeats 40000000 in
theorem comes_1 {Post : Tables → Env → Array Value → State → Outcome → State → Prop} (hpost : ∀ tb e args s v u, (limb_1_1.after args s (.returned v) u = true ∧ limb_1_2.after args s (.returned v) u = true ∧ True) → FrameEnd s (.returned v) u (Jvm.fieldLocs frame_1_writes args s ++ Jvm.arrayLocs frame_1_arrays args s ++ Jvm.staticLocs frame_1_statics s) 0 0 → Post tb e args s (.returned v) u) :
    ArmFor flags0 classFile x code maxLocals ret World_1 tables_1 room_1 Calls_1 rest_1 Pre_1 Post := by
  intro l hfl _ _ p e ha hc hk s m args below hf hA hF happ hP
  obtain ⟨hcalls, hrest, hpre⟩ := hP
  obtain ⟨-, -, -, hnamed, -, -, -, hat⟩ := (Spec.applies_iff hf).mp happ
  obtain ⟨hg, hn⟩ := and_e (Cond.before_iff.mp (show (Jvm.Cond.and given_1 narrow_1).before args s = true from hpre))
  have hw := fun d (hd : d ∈ tables_1) => atoms_spec (ws := Jvm.Cond.code x code maxLocals ret :: tables_1) hat d (List.mem_cons_of_mem _ hd)
  obtain ⟨g1a, g1b⟩ := and_e hg
  obtain ⟨w0, rfl⟩ : ∃ w0 : Value, args = #[w0] := by
    have hs : args.size = 1 := by simpa [Cond.value, given_1] using g1a
    obtain ⟨L⟩ := args
    match L, hs with
    | [w0], _ => exact ⟨w0, rfl⟩
  have hfit : Fit s := fun {y c} hc i hi => by
    obtain ⟨ha, rfl⟩ := Array.getElem?_eq_some_iff.mp hc
    have q := List.all_eq_true.mp ((Array.all_eq_true_iff_forall_mem.mp hF) _ (Array.getElem_mem ha)) i (List.mem_range.mpr hi)
    simpa [Array.getElem?_eq_getElem hi] using q
  obtain ⟨i0, ei0⟩ := is_v g1b
  obtain rfl : w0 = (.int i0) := Option.some.inj ei0
  obtain ⟨n1a, n1b⟩ := and_e hn
  obtain ⟨w_FALSE, ev_FALSE⟩ := exa_v n1a
  have S_FALSE := Sta.start ev_FALSE (Or.inr ⟨(hw _ (List.mem_of_getElem? (i := 2) rfl)), (hw _ (List.mem_of_getElem? (i := 5) rfl))⟩)
  have E_FALSE := Exa.start ev_FALSE n1a
  obtain ⟨n2a, n2b⟩ := and_e n1b
  obtain ⟨w_TRUE, ev_TRUE⟩ := exa_v n2a
  have S_TRUE := Sta.start ev_TRUE (Or.inr ⟨(hw _ (List.mem_of_getElem? (i := 2) rfl)), (hw _ (List.mem_of_getElem? (i := 7) rfl))⟩)
  have E_TRUE := Exa.start ev_TRUE n2a
  obtain ⟨n3a, n3b⟩ := and_e n2b
  obtain ⟨w_INDETERMINATE, ev_INDETERMINATE⟩ := exa_v n3a
  have S_INDETERMINATE := Sta.start ev_INDETERMINATE (Or.inr ⟨(hw _ (List.mem_of_getElem? (i := 2) rfl)), (hw _ (List.mem_of_getElem? (i := 9) rfl))⟩)
  have E_INDETERMINATE := Exa.start ev_INDETERMINATE n3a
  obtain ⟨n4a, n4b⟩ := and_e n3b
  have F_FALSE_ordinal := own_fld ev_FALSE n4a
  obtain ⟨n5a, n5b⟩ := and_e n4b
  have F_INDETERMINATE_ordinal := own_fld ev_INDETERMINATE n5a
  have F_TRUE_ordinal := own_fld ev_TRUE n5b
  obtain ⟨n, o, h1, h2, h3, _, L, rfl, ⟨rfl, N⟩, hq⟩ := rm0 l s _ hw tables_1 i0 w_TRUE w_FALSE w_INDETERMINATE s.heap s.heap.size (Nat.le_refl _) S_TRUE S_FALSE S_INDETERMINATE (F_TRUE_ordinal.ne F_INDETERMINATE_ordinal (by simp)) (F_FALSE_ordinal.ne F_INDETERMINATE_ordinal (by simp)) (F_TRUE_ordinal.ne F_FALSE_ordinal (by simp)) p e ha hc hk s m _ below hf ((Spec.applies_iff_loose hf).mp happ).1 ⟨rfl, State.Warmed39.refl s, rfl⟩ trivial
  refine ⟨n, _, h1, h2, h3, hpost _ _ _ _ _ _ ⟨Cond.after_iff.mpr rfl, Cond.after_iff.mpr (eq_i res_at (Term.int_eval (1)) rfl), trivial⟩ ⟨hq.1, hq.2.1, (hq.2.2.sift fun y hy => Or.inr (N y hy)).mono (by decide) (by decide)⟩⟩
theorem main_1_1 : Claimed_1_1 := comes_1 fun _ _ _ _ _ _ h hF => ⟨h.1, hF⟩
theorem main_1_2 : Claimed_1_2 := comes_1 fun _ _ _ _ _ _ h hF => ⟨h.2.1, hF⟩
end Jvm.Pilot.@@N@@
namespace Jvm.Pilot.@@N@@
open Jvm Jvm.ClassFile Sem Op Lib Jvm.Free Jvm.Stand Jvm.Pilot.@@N@@.Jvm.D
/-! MADE BY PROGRAM (witnessworld.py) out of the Statement's table words and the real class files: 10 classes; the members and pool entries that the words name. The judged class is class 1, her method 1. -/
namespace start1
open Jvm.ClassFile
def u (s : String) : CpInfo := .utf8 (stringToUtf16 s)
/-- a pool by its gaps: so many unusable entries, then the entry; so many at the end -/
def gap : Nat → List CpInfo → List CpInfo
  | 0, r => r
  | n + 1, r => .unusable :: gap n r
def poolList (es : List (Nat × CpInfo)) (last : Nat) : List CpInfo := es.foldr (fun e r => gap e.1 (e.2 :: r)) (gap last [])
def pool (es : List (Nat × CpInfo)) (last : Nat) : Array CpInfo := ⟨poolList es last⟩
def fileOf (pool : Array CpInfo) (this : Nat) (attrs : Array Attribute := #[]) (ms : Array MethodInfo := #[]) (fl : Nat := 33) (sup : Nat := 0) (ifs : Array Nat := #[]) (fds : Array FieldInfo := #[]) : ClassFile where
  minorVersion := 0
  majorVersion := 65
  constantPool := pool
  accessFlags := fl
  thisClass := this
  superClass := sup
  interfaces := ifs
  fields := fds
  methods := ms
  attributes := attrs
def plain (name : String) (sup : Option ClassId) : Class where
  name := name
  kind := .ordinary
  loader := none
  accessFlags := 33
  super := sup
  interfaces := #[]
  cf := none
  fields := #[]
  methods := #[]
  instanceTypes := #[]
  staticTypes := #[]
  resolved := #[]
  callSites := []
  init := .initialized
  statics := none
  mirror := none

def pool0 : Array CpInfo := pool [(5, u "<init>"), (0, u "()V"), (1, .class_ 10), (1, u "java/lang/Object")] 113

def k0m0 : Method := { name := "<init>", desc := "()V", sig := { parameters := [], returnType := none }, accessFlags := 1, code := none }
/-- java/lang/Object -/
def k0 : Class := { plain "java/lang/Object" none with
  accessFlags := 33
  interfaces := #[]
  cf := some (fileOf pool0 8 #[] #[{ accessFlags := 1, nameIndex := 5, descriptorIndex := 6, attributes := #[] }] 33 0 #[] #[])
  fields := #[]
  methods := #[k0m0]
  instanceTypes := #[]
  staticTypes := #[]
  resolved := Array.replicate 124 none
  statics := none }

def pool1 : Array CpInfo := pool [(2, .class_ 4), (1, u "java/lang/Object"), (0, u "<init>"), (0, u "()V"), (0, .methodref 8 9), (0, .class_ 10), (0, .nameAndType 11 12), (0, u "com/example/riegel/riegel/policy/Truth"), (0, u "of"), (0, u "(Z)Lcom/example/riegel/riegel/policy/Truth;"), (0, .fieldref 8 14), (0, .nameAndType 15 16), (0, u "INDETERMINATE"), (0, u "Lcom/example/riegel/riegel/policy/Truth;"), (0, .fieldref 8 18), (0, .nameAndType 19 16), (0, u "TRUE"), (0, .fieldref 8 21), (0, .nameAndType 22 16), (0, u "FALSE"), (0, .class_ 24), (0, u "com/example/riegel/riegel/policy/TruthOfPinLaw"), (2, u "law"), (0, u "(I)Z")] 3

def k1m0 : Method := { name := "<init>", desc := "()V", sig := { parameters := [], returnType := none }, accessFlags := 1, code := none }
def k1c1 : Code := { maxStack := 2, maxLocals := 7, code := code, exceptionTable := #[], attributes := #[] }
def k1m1 : Method := { name := "law", desc := "(I)Z", sig := { parameters := [.int], returnType := some .boolean }, accessFlags := 9, code := some k1c1 }
/-- com/example/riegel/riegel/policy/TruthOfPinLaw -/
def k1 : Class := { plain "com/example/riegel/riegel/policy/TruthOfPinLaw" (some 0) with
  accessFlags := 49
  interfaces := #[]
  cf := some (fileOf pool1 23 #[] #[{ accessFlags := 1, nameIndex := 5, descriptorIndex := 6, attributes := #[] }, { accessFlags := 9, nameIndex := 27, descriptorIndex := 28, attributes := #[] }] 49 2 #[] #[])
  fields := #[]
  methods := #[k1m0, k1m1]
  instanceTypes := #[]
  staticTypes := #[]
  resolved := Array.replicate 32 none
  statics := none }

def pool2 : Array CpInfo := pool [(1, .class_ 2), (0, u "java/lang/constant/Constable"), (0, .class_ 4), (0, u "java/lang/Object")] 6

/-- java/lang/constant/Constable -/
def k2 : Class := { plain "java/lang/constant/Constable" (some 0) with
  accessFlags := 1537
  interfaces := #[]
  cf := some (fileOf pool2 1 #[] #[] 1537 3 #[] #[])
  fields := #[]
  methods := #[]
  instanceTypes := #[]
  staticTypes := #[]
  resolved := Array.replicate 11 none
  statics := none }

def pool3 : Array CpInfo := pool [(1, .class_ 2), (0, u "java/lang/Comparable"), (0, .class_ 4), (0, u "java/lang/Object")] 7

/-- java/lang/Comparable -/
def k3 : Class := { plain "java/lang/Comparable" (some 0) with
  accessFlags := 1537
  interfaces := #[]
  cf := some (fileOf pool3 1 #[] #[] 1537 3 #[] #[])
  fields := #[]
  methods := #[]
  instanceTypes := #[]
  staticTypes := #[]
  resolved := Array.replicate 12 none
  statics := none }

def pool4 : Array CpInfo := pool [(1, .class_ 2), (0, u "java/io/Serializable"), (0, .class_ 4), (0, u "java/lang/Object")] 2

/-- java/io/Serializable -/
def k4 : Class := { plain "java/io/Serializable" (some 0) with
  accessFlags := 1537
  interfaces := #[]
  cf := some (fileOf pool4 1 #[] #[] 1537 3 #[] #[])
  fields := #[]
  methods := #[]
  instanceTypes := #[]
  staticTypes := #[]
  resolved := Array.replicate 7 none
  statics := none }

def pool5 : Array CpInfo := pool [(2, .class_ 4), (1, u "java/lang/Enum"), (0, u "name"), (0, u "Ljava/lang/String;"), (2, u "ordinal"), (0, u "I"), (1, .class_ 14), (1, u "java/lang/Object"), (4, u "hash"), (86, .class_ 108), (1, u "java/lang/Enum$EnumDesc"), (2, .class_ 112), (0, u "java/lang/constant/Constable"), (0, .class_ 114), (0, u "java/lang/Comparable"), (0, .class_ 116), (0, u "java/io/Serializable")] 87

/-- java/lang/Enum -/
def k5 : Class := { plain "java/lang/Enum" (some 0) with
  accessFlags := 1057
  interfaces := #[2, 3, 4]
  cf := some (fileOf pool5 2 #[.nestMembers #[106]] #[] 1057 12 #[111, 113, 115] #[{ accessFlags := 18, nameIndex := 5, descriptorIndex := 6, attributes := #[] }, { accessFlags := 18, nameIndex := 9, descriptorIndex := 10, attributes := #[] }, { accessFlags := 2, nameIndex := 19, descriptorIndex := 10, attributes := #[] }])
  fields := #[{ name := "name", type := (.object "java/lang/String"), accessFlags := 18, slot := 0, constantValue := 0 }, { name := "ordinal", type := .int, accessFlags := 18, slot := 1, constantValue := 0 }, { name := "hash", type := .int, accessFlags := 2, slot := 2, constantValue := 0 }]
  methods := #[]
  instanceTypes := #[(.object "java/lang/String"), .int, .int]
  staticTypes := #[]
  resolved := Array.replicate 204 none
  statics := none }

def pool6 : Array CpInfo := pool [(1, .class_ 2), (0, u "com/example/riegel/riegel/policy/Truth"), (0, .fieldref 1 4), (0, .nameAndType 5 6), (0, u "TRUE"), (0, u "Lcom/example/riegel/riegel/policy/Truth;"), (0, .fieldref 1 8), (0, .nameAndType 9 6), (0, u "FALSE"), (2, u "INDETERMINATE"), (2, u "$VALUES"), (0, u "[Lcom/example/riegel/riegel/policy/Truth;"), (6, .class_ 25), (1, u "java/lang/Enum"), (21, u "of"), (0, u "(Z)Lcom/example/riegel/riegel/policy/Truth;")] 5

def k6c0 : Code := { maxStack := 1, maxLocals := 1, code := prog_38_method_4_code, exceptionTable := #[], attributes := #[] }
def k6m0 : Method := { name := "of", desc := "(Z)Lcom/example/riegel/riegel/policy/Truth;", sig := { parameters := [.boolean], returnType := some (.object "com/example/riegel/riegel/policy/Truth") }, accessFlags := 8, code := some k6c0 }
/-- com/example/riegel/riegel/policy/Truth -/
def k6 : Class := { plain "com/example/riegel/riegel/policy/Truth" (some 5) with
  accessFlags := 16433
  interfaces := #[]
  cf := some (fileOf pool6 1 #[] #[{ accessFlags := 8, nameIndex := 47, descriptorIndex := 48, attributes := #[] }] 16433 23 #[] #[{ accessFlags := 16409, nameIndex := 5, descriptorIndex := 6, attributes := #[] }, { accessFlags := 16409, nameIndex := 9, descriptorIndex := 6, attributes := #[] }, { accessFlags := 16409, nameIndex := 12, descriptorIndex := 6, attributes := #[] }, { accessFlags := 4122, nameIndex := 15, descriptorIndex := 16, attributes := #[] }])
  fields := #[{ name := "TRUE", type := (.object "com/example/riegel/riegel/policy/Truth"), accessFlags := 16409, slot := 0, constantValue := 0 }, { name := "FALSE", type := (.object "com/example/riegel/riegel/policy/Truth"), accessFlags := 16409, slot := 1, constantValue := 0 }, { name := "INDETERMINATE", type := (.object "com/example/riegel/riegel/policy/Truth"), accessFlags := 16409, slot := 2, constantValue := 0 }, { name := "$VALUES", type := (.array (.object "com/example/riegel/riegel/policy/Truth")), accessFlags := 4122, slot := 3, constantValue := 0 }]
  methods := #[k6m0]
  instanceTypes := #[(.object "java/lang/String"), .int, .int]
  staticTypes := #[(.object "com/example/riegel/riegel/policy/Truth"), (.object "com/example/riegel/riegel/policy/Truth"), (.object "com/example/riegel/riegel/policy/Truth"), (.array (.object "com/example/riegel/riegel/policy/Truth"))]
  resolved := Array.replicate 54 none
  statics := some 0 }

def pool7 : Array CpInfo := pool [(1, u "java/lang/Cloneable"), (0, .class_ 1), (0, u "java/lang/Object"), (0, .class_ 3)] 3

/-- java/lang/Cloneable -/
def k7 : Class := { plain "java/lang/Cloneable" (some 0) with
  accessFlags := 1537
  interfaces := #[]
  cf := some (fileOf pool7 2 #[] #[] 1537 4 #[] #[])
  fields := #[]
  methods := #[]
  instanceTypes := #[]
  staticTypes := #[]
  resolved := Array.replicate 8 none
  statics := none }

/-- the primitive byte -/
def k8 : Class := { plain "byte" none with kind := .primitive 'B', accessFlags := 0x411 }
/-- [B -/
def k9 : Class := { plain "[B" (some 0) with kind := .array 8 .byte, interfaces := #[7, 4], accessFlags := 1041 }

def heap : Heap := #[{ cls := 6, slots := #[.ref 2, .ref 1, .ref 3, .null], vm := .statics 6 },
  { cls := 6, slots := #[.null, .int 1, .int 0], vm := .none },
  { cls := 6, slots := #[.null, .int 0, .int 0], vm := .none },
  { cls := 6, slots := #[.null, .int 2, .int 0], vm := .none }]
def classes : Array Class := #[k0, k1, k2, k3, k4, k5, k6, k7, k8, k9]
def interned : List (Array UInt16 × Addr) := []
def slotsUsed : Nat := 13
def theMethod : MethodId := ⟨1, 1⟩
def args0 : Array Value := #[.int 5]
def aboutOver (below : List Frame) : State where
  vm := { classes := classes, interned := interned.toArray }
  heap := heap
  slotsUsed := slotsUsed
  threads := #[{ frames := .invoking theMethod args0 :: below }]
def below0 : List Frame := [.native { method := ⟨0, 0⟩, args := #[] }]
def about1 : State := aboutOver below0
def p0 : Program := .bare "" "" ""
def e0 : Env := launch0.env 0 0 0
theorem w_frames : about1.frames = Frame.invoking theMethod args0 :: below0 := rfl
set_option maxRecDepth 65536 in
theorem w_args : argsFit about1.vm theMethod args0 = true := by decide +kernel
set_option maxRecDepth 65536 in
theorem w_heap : heapFits about1 = true := by decide +kernel
set_option maxRecDepth 65536 in
theorem w_runnable : about1.curStatus? = some .runnable := by decide +kernel
set_option maxRecDepth 65536 in
theorem w_alone : about1.alone = true := by decide +kernel
set_option maxRecDepth 65536 in
theorem w_named : about1.methodNamed? x = some theMethod := by decide +kernel
set_option maxRecDepth 65536 in
theorem w_hears : about1.hears theMethod below0 = true := by decide +kernel
set_option maxRecDepth 65536 in
theorem w_ripe : about1.ripe theMethod args0 below0 = true := by decide +kernel
theorem w_running : about1.status = .running := rfl
set_option maxRecDepth 65536 in
theorem w_room : about1.hasRoom e0.platform room_1 = true :=
  launch0.hasRoom_least _ room_1 (by decide +kernel) (by decide +kernel) (by decide +kernel) (by decide +kernel) (by decide +kernel) (by decide +kernel)
theorem allAtoms_all (ts : List Jvm.Cond) (a : Array Jvm.Value) (st : Jvm.State) : (allAtoms ts).before a st = ts.all (fun c => c.before a st) := by
  induction ts with
  | nil => rfl
  | cons c t ih =>
    show (Jvm.Cond.and c (allAtoms t)).before a st = _
    rw [Jvm.Cond.before_and, ih, List.all_cons]
def words1 : List Jvm.Cond := Jvm.Cond.code x code maxLocals ret :: tables_1
/-- a 'code' word, met by the world's own term for the bytes: nothing is compared byte by byte -/
theorem code_word {y : MethodName} {bytes : ByteArray} {mx : Nat} {rt : Option FieldType} {a : Array Value} {s : State} {m : MethodId} {meth : Method} {c : Code} (h1 : s.methodNamed? y = some m) (h2 : s.vm.method? m = some meth) (h3 : meth.code = some c) (h4 : c.code = bytes)
    (h5 : (c.maxLocals == mx && c.exceptionTable.isEmpty && decide (c.maxStack ≤ mostOperands) && decide (meth.sig.returnType = rt) && !meth.locks && decide (parseMethodDescriptor y.desc = some meth.sig)) = true) : (Jvm.Cond.code y bytes mx rt).before a s = true := by
  simp only [Bool.and_eq_true, beq_iff_eq, Bool.not_eq_true', decide_eq_true_eq] at h5
  obtain ⟨⟨⟨⟨⟨g1, g2⟩, g3⟩, g4⟩, g5⟩, g6⟩ := h5
  simp [Cond.before, Cond.holds, Cond.value, h1, h2, h3, h4, g1, g2, g3, g4, g5, g6]
def isCode : Jvm.Cond → Bool
  | .code _ _ _ _ => true
  | _ => false
theorem all_split {L : List Jvm.Cond} {P : Jvm.Cond → Bool} (h1 : L.all (fun c => isCode c || P c) = true) (h2 : ∀ c ∈ L.filter isCode, P c = true) : L.all P = true := by
  refine List.all_eq_true.mpr fun c hc => ?_
  have h := List.all_eq_true.mp h1 c hc
  rcases Bool.eq_false_or_eq_true (isCode c) with hi | hi
  · exact h2 c (List.mem_filter.mpr ⟨hc, hi⟩)
  · simpa [hi] using h
set_option maxRecDepth 65536 in
theorem w_c0 : (Jvm.Cond.code x code maxLocals ret).before args0 about1 = true := code_word (m := ⟨1, 1⟩) (meth := k1m1) (c := k1c1) (by decide +kernel) rfl rfl rfl (by decide +kernel)
set_option maxRecDepth 65536 in
theorem w_c1 : (Jvm.Cond.code ({ cls := "com/example/riegel/riegel/policy/Truth", name := "of", desc := "(Z)Lcom/example/riegel/riegel/policy/Truth;" } : Jvm.MethodName) prog_38_method_4_code (1 : Nat) (Option.some (Jvm.ClassFile.FieldType.object "com/example/riegel/riegel/policy/Truth"))).before args0 about1 = true := code_word (m := ⟨6, 0⟩) (meth := k6m0) (c := k6c0) (by decide +kernel) rfl rfl rfl (by decide +kernel)
def codes1 : List Jvm.Cond := [Jvm.Cond.code x code maxLocals ret, Jvm.Cond.code ({ cls := "com/example/riegel/riegel/policy/Truth", name := "of", desc := "(Z)Lcom/example/riegel/riegel/policy/Truth;" } : Jvm.MethodName) prog_38_method_4_code (1 : Nat) (Option.some (Jvm.ClassFile.FieldType.object "com/example/riegel/riegel/policy/Truth"))]
set_option maxRecDepth 65536 in
theorem codes_eq : words1.filter isCode = codes1 := rfl
theorem w_codes : ∀ c ∈ words1.filter isCode, c.before args0 about1 = true := by
  rw [codes_eq]
  intro c hc
  simp only [codes1, List.mem_cons, List.not_mem_nil, or_false] at hc
  rcases hc with rfl | rfl
  · exact w_c0
  · exact w_c1
set_option maxRecDepth 65536 in
theorem w_t1 : words1.all (fun c => isCode c || c.before args0 about1) = true := by decide +kernel
theorem w_tables : (allAtoms (Jvm.Cond.code x code maxLocals ret :: tables_1)).before args0 about1 = true := by
  rw [allAtoms_all]
  show words1.all (fun c => c.before args0 about1) = true
  refine all_split ?_ w_codes
  rw [w_t1]
set_option maxRecDepth 65536 in
theorem w_case : (Jvm.Cond.and given_1 narrow_1).before args0 about1 = true := by decide +kernel
theorem w_applies : (headSpec (Jvm.Cond.code x code maxLocals ret :: tables_1) room_1).applies x e0.platform about1 = true :=
  (Spec.applies_iff w_frames).mpr ⟨w_running, w_runnable, w_alone, w_named, w_hears, w_ripe, w_room, w_tables⟩
theorem atStart : AtStart classFile x code maxLocals ret World_1 tables_1 room_1 Calls_1 rest_1 Pre_1 launch0 p0 e0 about1 theMethod args0 below0 :=
  ⟨lists_1, trivial, launch0.admits_env _ _ _, launch0.least_env, fairChoices_fair.cas, fairChoices_fair.clock, w_frames, w_args, w_heap, w_applies, trivial, trivial, w_case⟩
end start1
theorem witness_1 : WitnessClaimed_1 := ⟨start1.p0, start1.e0, start1.about1, start1.theMethod, start1.args0, start1.below0, start1.atStart⟩
end Jvm.Pilot.@@N@@
