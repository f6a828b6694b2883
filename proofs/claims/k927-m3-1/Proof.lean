import JvmDerived
import JvmDerived.Pilot.@@N@@Statement
import JvmDerived.Pilot.@@N@@Code
set_option linter.unusedVariables false
set_option linter.unusedSimpArgs false
namespace Jvm.RoadKit
open Sem ClassFile Op Lib Jvm.Stand Jvm.Free Jvm.LawKit
section New
variable {p : Program} {l : Launch} {e : Env} {R : Room} {s : State} {m : MethodId} {args : Array Value} {below : List Frame} {meth : Method} {c : Code} {T : State} {locs : List Loc} {cells slots : Nat}
theorem retI (X : Stand p l e R s m args below meth c T locs cells slots) (hx : p.tables.exec = Jvm.exec) {pc : Nat} {Ls : Array Slot} {z : Int32} {rest : List Value} (hret : meth.sig.returnType = some .int) (hd : decode c.code pc = .ok (.ireturn, 1)) {fs : List Frame}
    (hl : ∀ (f : JFrame) (acts : List Action), f.method = m → f.locked = none → f.entered = [] → (doReturn e (T.setTop f) acts (some (.int z))).1 = T.setFrames fs) : Steps p.tables e below (T.setTop (mkF m pc Ls (.int z :: rest))) (T.setFrames fs) := by
  have hm' : T.vm.method? m = some meth := X.method'
  have hn : narrow .int (.int z) = .int z := rfl
  show Steps p.tables e below (T.setTop { method := m, pc := pc, locals := Ls, stack := _ :: rest, locked := none }) _
  jvm_step X.here [X.here.top, hx, hd, hm', hret, hn]
  first | (intro acts; rw [hl _ acts rfl rfl rfl]) | rw [hl _ _ rfl rfl rfl]
  exact Steps.refl _
end New
end Jvm.RoadKit
namespace Jvm.Pilot.@@N@@
open Jvm Jvm.ClassFile Sem Op Lib Jvm.Free Jvm.Stand Jvm.LawKit Jvm.RoadKit Bundle Jvm.Pilot.@@N@@.Jvm.D
theorem own_retb (z : Int32) (h : z = 0 ∨ z = 1) : narrow .boolean (.int z) = .int z := by rcases h with rfl | rfl <;> rfl
theorem own_rem (x n : Int32) (hn : 0 < n.toInt) : 0 ≤ ((x &&& (2147483647 : Int32)) % n).toInt ∧ ((x &&& (2147483647 : Int32)) % n).toInt < n.toInt := by
  have h1 := c_mask x (2147483647 : Int32) 31 (by decide) (by decide)
  have h2 := (c_iremV (x &&& (2147483647 : Int32)) n).1 (by omega) hn
  exact ⟨h2.1, h2.2.1⟩
theorem own_of3 {k : Int32} (h : 0 ≤ k.toInt ∧ k.toInt < 3) : k = 0 ∨ k = 1 ∨ k = 2 := by
  have h2 : k.toInt = (0 : Int32).toInt ∨ k.toInt = (1 : Int32).toInt ∨ k.toInt = (2 : Int32).toInt := by simp; omega
  simpa only [Int32.toInt_inj] using h2
theorem own_of5 {k : Int32} (h : 0 ≤ k.toInt ∧ k.toInt < 5) : k = 0 ∨ k = 1 ∨ k = 2 ∨ k = 3 ∨ k = 4 := by
  have h2 : k.toInt = (0 : Int32).toInt ∨ k.toInt = (1 : Int32).toInt ∨ k.toInt = (2 : Int32).toInt ∨ k.toInt = (3 : Int32).toInt ∨ k.toInt = (4 : Int32).toInt := by simp; omega
  simpa only [Int32.toInt_inj] using h2
theorem own_of6 {k : Int32} (h : 0 ≤ k.toInt ∧ k.toInt < 6) : k = 0 ∨ k = 1 ∨ k = 2 ∨ k = 3 ∨ k = 4 ∨ k = 5 := by
  have h2 : k.toInt = (0 : Int32).toInt ∨ k.toInt = (1 : Int32).toInt ∨ k.toInt = (2 : Int32).toInt ∨ k.toInt = (3 : Int32).toInt ∨ k.toInt = (4 : Int32).toInt ∨ k.toInt = (5 : Int32).toInt := by simp; omega
  simpa only [Int32.toInt_inj] using h2
theorem own_eqI {args : Array Value} {s : State} {t : Term} {k : Int32} (h : (Jvm.Cond.eq t (.int k)).value args s none s [] = some true) : t.eval args s none [] s = some (.int k) := by
  obtain ⟨u, v, hu, hv, k1, k2⟩ := cmp_v (Or.inl h)
  have hv2 : v = .int k := Option.some.inj (hv.symm.trans (Term.int_eval k))
  subst hv2
  cases u <;> simp [Cond.value, hu, hv] at h
  subst h; exact hu
theorem own_fld {args : Array Value} {s : State} {t : Term} {a : Addr} {C n d : String} {k : Int32} (ev : t.eval args s none [] s = some (.ref a)) (h : (Jvm.Cond.eq (.field t C n d) (.int k)).value args s none s [] = some true) : Fld s s.heap a C n d (.int k) :=
  Fld.start ((fld_at ev).symm.trans (own_eqI h))
theorem own_len {args : Array Value} {s : State} {t : Term} {a : Addr} {cl : Cell} {ty : FieldType} {k : Int32} (ev : t.eval args s none [] s = some (.ref a)) (A : Arr s s.heap a cl ty) (h : (Jvm.Cond.eq (.length t) (.int k)).value args s none s [] = some true) : cl.slots.size.toInt32 = k := by
  obtain ⟨b, c, e1, e2, e3⟩ := Term.length_spec (own_eqI h)
  cases ev.symm.trans e1
  cases (A.fin (Vm.Alike.refl _)).symm.trans e2
  exact (Value.int.inj e3).symm
theorem own_lenlt {args : Array Value} {s : State} {t : Term} {a : Addr} {cl : Cell} {ty : FieldType} {k : Int32} (ev : t.eval args s none [] s = some (.ref a)) (A : Arr s s.heap a cl ty) (h : (Jvm.Cond.eq (.length t) (.int k)).value args s none s [] = some true) : cl.slots.size < 2 ^ 31 := by
  have h1 := own_eqI h
  have h2 := A.fin (Vm.Alike.refl _)
  apply Classical.byContradiction
  intro h3
  simp [Term.eval, ev, h2, h3] at h1
theorem own_elem {args : Array Value} {s : State} {t u : Term} {a b : Addr} {cl : Cell} {ty : FieldType} {j : Int32} (ev : t.eval args s none [] s = some (.ref a)) (A : Arr s s.heap a cl ty) (hu : u.eval args s none [] s = some (.ref b)) (h : (Jvm.Cond.eq (.elem t (.int j)) u).value args s none s [] = some true) : cl.slots[j.toNatClampNeg]? = some (.ref b) := by
  obtain ⟨x, y, hx, hy, -, -⟩ := cmp_v (Or.inl h)
  cases hu.symm.trans hy
  have h2 := (elem_in hx ev (Term.int_eval j) A.1).2
  cases x <;> simp [Cond.value, hx, hy] at h
  subst h; exact h2
theorem own_fldN {args : Array Value} {s : State} {t : Term} {a : Addr} {C n d : String} (ev : t.eval args s none [] s = some (.ref a)) (h : (Jvm.Cond.eq (.field t C n d) .null).value args s none s [] = some true) : Fld s s.heap a C n d .null :=
  Fld.start ((fld_at ev).symm.trans (null_v h))
theorem own_of17 {k : Int32} (h : 0 ≤ k.toInt ∧ k.toInt < 17) : k = 0 ∨ k = 1 ∨ k = 2 ∨ k = 3 ∨ k = 4 ∨ k = 5 ∨ k = 6 ∨ k = 7 ∨ k = 8 ∨ k = 9 ∨ k = 10 ∨ k = 11 ∨ k = 12 ∨ k = 13 ∨ k = 14 ∨ k = 15 ∨ k = 16 := by
  have h2 : k.toInt = (0 : Int32).toInt ∨ k.toInt = (1 : Int32).toInt ∨ k.toInt = (2 : Int32).toInt ∨ k.toInt = (3 : Int32).toInt ∨ k.toInt = (4 : Int32).toInt ∨ k.toInt = (5 : Int32).toInt ∨ k.toInt = (6 : Int32).toInt ∨ k.toInt = (7 : Int32).toInt ∨ k.toInt = (8 : Int32).toInt ∨ k.toInt = (9 : Int32).toInt ∨ k.toInt = (10 : Int32).toInt ∨ k.toInt = (11 : Int32).toInt ∨ k.toInt = (12 : Int32).toInt ∨ k.toInt = (13 : Int32).toInt ∨ k.toInt = (14 : Int32).toInt ∨ k.toInt = (15 : Int32).toInt ∨ k.toInt = (16 : Int32).toInt := by simp; omega
  simpa only [Int32.toInt_inj] using h2
def QI (Z : State) (r : Int32) (h0 : Heap) (n0 : Nat) (v : Option Value) (h : Heap) (L : List Loc) : Prop := v = some (.int r) ∧ Fr n0 L ∧ h = h0
theorem d1_0 : decode prog_38_method_8_code 0 = .ok (.aload_n 0, 1) := by decide +kernel
theorem d1_1 : decode prog_38_method_8_code 1 = .ok (.getstatic 31, 3) := by decide +kernel
theorem d1_4 : decode prog_38_method_8_code 4 = .ok (.if_acmp .eq 10, 3) := by decide +kernel
theorem d1_7 : decode prog_38_method_8_code 7 = .ok (.aload_n 0, 1) := by decide +kernel
theorem d1_8 : decode prog_38_method_8_code 8 = .ok (.getstatic 46, 3) := by decide +kernel
theorem d1_11 : decode prog_38_method_8_code 11 = .ok (.if_acmp .ne 7, 3) := by decide +kernel
theorem d1_14 : decode prog_38_method_8_code 14 = .ok (.iconst 1, 1) := by decide +kernel
theorem d1_15 : decode prog_38_method_8_code 15 = .ok (.goto 4, 3) := by decide +kernel
theorem d1_18 : decode prog_38_method_8_code 18 = .ok (.iconst 0, 1) := by decide +kernel
theorem d1_19 : decode prog_38_method_8_code 19 = .ok (.ireturn, 1) := by decide +kernel
theorem pn_rm1 : plainName "com/example/muniment_room/munimentroom/content/StandardField" = true := by first | (simp [plainName, overriddenIn]; done) | decide +kernel
theorem ef_rm1 (m : MethodId) (a1 : Addr) : entryFrame m #[(.ref a1)] 1 = mkF m 0 #[.val (.ref a1)] [] := by first | (simp [entryFrame, mkF, argsToLocals, Value.category]; done) | rfl
set_option maxRecDepth 65536 in
set_option maxHeartbeats 40000000 in
theorem rm1 (l : Launch) (Z : State) (a0 : Array Value) (hw : ∀ d ∈ tables_1, d.before a0 Z = true) (ws : List Jvm.Cond) (a1 w_RELEASE_DATE w_CREATE_DATE : Addr) (r : Int32) (h0 : Heap) (n0 : Nat) (Z0 : n0 ≤ h0.size) (S_RELEASE_DATE : Sta Z h0 "com/example/muniment_room/munimentroom/content/StandardField" "RELEASE_DATE" "Lcom/example/muniment_room/munimentroom/content/StandardField;" (.ref w_RELEASE_DATE)) (S_CREATE_DATE : Sta Z h0 "com/example/muniment_room/munimentroom/content/StandardField" "CREATE_DATE" "Lcom/example/muniment_room/munimentroom/content/StandardField;" (.ref w_CREATE_DATE)) (hr0 : r = if a1 = w_RELEASE_DATE then (1 : Int32) else if a1 = w_CREATE_DATE then (1 : Int32) else (0 : Int32)) :
    MetFree l (⟨"com/example/muniment_room/munimentroom/content/StandardField", "isDate", "()Z"⟩ : MethodName) (head1 (Jvm.Cond.code (⟨"com/example/muniment_room/munimentroom/content/StandardField", "isDate", "()Z"⟩ : MethodName) prog_38_method_8_code 1 (some .boolean) :: ws) ({ frames := 0, cells := 0, slots := 0, locals := 0 } : Room)) (fun a U => a = #[(.ref a1)] ∧ Z.Warmed39 U.vm ∧ U.heap = h0) (fun _ _ _ _ _ => True) (fun _ U o U' => ∃ v L, o = .returned v ∧ QI Z r h0 n0 v U'.heap L ∧ FrameEnd U o U' L ({ frames := 0, cells := 0, slots := 0, locals := 0 } : Room).cells ({ frames := 0, cells := 0, slots := 0, locals := 0 } : Room).slots) := by
  refine MetFree.of_bodySF (plainFor_of_name pn_rm1) hisR ?_
  intro p e s m args below meth c s₁ Bd hml0 hP hK
  obtain ⟨rfl, hZ, hh⟩ := hP
  have hx := Bd.exec
  have hby := Bd.bytes
  have hml : c.maxLocals = 1 := hml0
  have hown : s.vm.findClass "com/example/muniment_room/munimentroom/content/StandardField" = some m.cls := findClass_of_methodNamed Bd.named
  have hnm := (name_of_methodNamed Bd.named Bd.method).1
  have X0 : Stand p l e ({ frames := 0, cells := 0, slots := 0, locals := 0 } : Room) s m #[(.ref a1)] below meth c s₁ [] 0 0 := Stand.of_body Bd
  have e0 : s₁.heap = h0 := by rw [← hh, Bd.state]; rfl
  have N0 := Fr.nil n0
  have pre0 : ∀ tt, Steps p.tables e below (s₁.setTop (mkF m 0 #[.val (.ref a1)] [])) tt → Steps p.tables e below (s₁.setTop (entryFrame m #[(.ref a1)] 1)) tt := fun tt kt => castTop (ef_rm1 m a1) kt
  obtain ⟨T1, X1, e1, st1⟩ := getS2 X0 hx hZ hown (host := "") (Or.inl (hw _ (List.mem_of_getElem? (i := 44) rfl))) Via.refl e0 S_RELEASE_DATE (g := (mkF m 1 #[.val (.ref a1)] [(.ref a1)])) rfl (hb hby d1_1)
  have pre2 : ∀ tt, Steps p.tables e below (T1.setTop (mkF m 4 #[.val (.ref a1)] [(.ref w_RELEASE_DATE), (.ref a1)])) tt → Steps p.tables e below (s₁.setTop (entryFrame m #[(.ref a1)] 1)) tt := by
    intro tt kt
    refine pre0 tt ?_
    show Steps p.tables e below (s₁.setTop (mkF m 0 #[.val (.ref a1)] [])) _
    refine XS.aloadN X0.here hx rfl (hb hby d1_0) rfl rfl ?_
    show Steps p.tables e below (s₁.setTop (mkF m 1 #[.val (.ref a1)] [(.ref a1)])) _
    refine st1 _ ?_
    exact kt
  by_cases c4_3 : a1 = w_RELEASE_DATE
  · have pre4 : ∀ tt, Steps p.tables e below (T1.setTop (mkF m 19 #[.val (.ref a1)] [(.int (1 : Int32))])) tt → Steps p.tables e below (s₁.setTop (entryFrame m #[(.ref a1)] 1)) tt := by
      intro tt kt
      refine pre2 tt ?_
      show Steps p.tables e below (T1.setTop (mkF m 4 #[.val (.ref a1)] [(.ref w_RELEASE_DATE), (.ref a1)])) _
      refine Jvm.RoadKit.acmp (g := (mkF m 4 #[.val (.ref a1)] [(.ref w_RELEASE_DATE), (.ref a1)])) X1 hx rfl rfl rfl (pc0 := 4) (pc' := 14) (same := true) rfl (hb hby d1_4) rfl (decide_eq_true (congrArg Value.ref c4_3)) (by decide) (by decide) ?_
      show Steps p.tables e below (T1.setTop (mkF m 14 #[.val (.ref a1)] [])) _
      refine XS.iconst X1.here hx rfl (hb hby d1_14) ?_
      show Steps p.tables e below (T1.setTop (mkF m 15 #[.val (.ref a1)] [(.int (1 : Int32))])) _
      refine XS.goto X1.here hx rfl (pc0 := 15) (pc' := 19) rfl (hb hby d1_15) (by decide) (by decide) ?_
      exact kt
    obtain ⟨fs, hr, hrun, hended, hW, hsame⟩ := X1.leave (v := some (.int (1 : Int32))) (fun h => by rw [Bd.returns] at h; cases h)
    refine ⟨_, _, pre4 _ ?_, hrun, hended, _, _, rfl, ?_, ⟨_, rfl⟩, hW, hsame.mono (by decide) (by decide)⟩
    · show Steps p.tables e below (T1.setTop (mkF m 19 #[.val (.ref a1)] [(.int (1 : Int32))])) _
      exact retN X1 hx (t := .boolean) Bd.returns (by simp) (hb hby d1_19) hr
    · show QI Z r h0 n0 _ T1.heap _
      rw [e1]
      exact ⟨by rw [hr0]; simp [c4_3], N0, rfl⟩
  · obtain ⟨T5, X5, e5, st5⟩ := getS2 X1 hx hZ hown (host := "") (Or.inl (hw _ (List.mem_of_getElem? (i := 45) rfl))) Via.refl e1 S_CREATE_DATE (g := (mkF m 8 #[.val (.ref a1)] [(.ref a1)])) rfl (hb hby d1_8)
    have pre6 : ∀ tt, Steps p.tables e below (T5.setTop (mkF m 11 #[.val (.ref a1)] [(.ref w_CREATE_DATE), (.ref a1)])) tt → Steps p.tables e below (s₁.setTop (entryFrame m #[(.ref a1)] 1)) tt := by
      intro tt kt
      refine pre2 tt ?_
      show Steps p.tables e below (T1.setTop (mkF m 4 #[.val (.ref a1)] [(.ref w_RELEASE_DATE), (.ref a1)])) _
      refine Jvm.RoadKit.acmp (g := (mkF m 4 #[.val (.ref a1)] [(.ref w_RELEASE_DATE), (.ref a1)])) X1 hx rfl rfl rfl (pc0 := 4) (pc' := 7) (same := false) rfl (hb hby d1_4) rfl (decide_eq_false fun q => c4_3 (Value.ref.inj q)) (by decide) (by decide) ?_
      show Steps p.tables e below (T1.setTop (mkF m 7 #[.val (.ref a1)] [])) _
      refine XS.aloadN X1.here hx rfl (hb hby d1_7) rfl rfl ?_
      show Steps p.tables e below (T1.setTop (mkF m 8 #[.val (.ref a1)] [(.ref a1)])) _
      refine st5 _ ?_
      exact kt
    by_cases c11_7 : a1 = w_CREATE_DATE
    · have pre8 : ∀ tt, Steps p.tables e below (T5.setTop (mkF m 19 #[.val (.ref a1)] [(.int (1 : Int32))])) tt → Steps p.tables e below (s₁.setTop (entryFrame m #[(.ref a1)] 1)) tt := by
        intro tt kt
        refine pre6 tt ?_
        show Steps p.tables e below (T5.setTop (mkF m 11 #[.val (.ref a1)] [(.ref w_CREATE_DATE), (.ref a1)])) _
        refine Jvm.RoadKit.acmp (g := (mkF m 11 #[.val (.ref a1)] [(.ref w_CREATE_DATE), (.ref a1)])) X5 hx rfl rfl rfl (pc0 := 11) (pc' := 14) (same := true) rfl (hb hby d1_11) rfl (decide_eq_true (congrArg Value.ref c11_7)) (by decide) (by decide) ?_
        show Steps p.tables e below (T5.setTop (mkF m 14 #[.val (.ref a1)] [])) _
        refine XS.iconst X5.here hx rfl (hb hby d1_14) ?_
        show Steps p.tables e below (T5.setTop (mkF m 15 #[.val (.ref a1)] [(.int (1 : Int32))])) _
        refine XS.goto X5.here hx rfl (pc0 := 15) (pc' := 19) rfl (hb hby d1_15) (by decide) (by decide) ?_
        exact kt
      obtain ⟨fs, hr, hrun, hended, hW, hsame⟩ := X5.leave (v := some (.int (1 : Int32))) (fun h => by rw [Bd.returns] at h; cases h)
      refine ⟨_, _, pre8 _ ?_, hrun, hended, _, _, rfl, ?_, ⟨_, rfl⟩, hW, hsame.mono (by decide) (by decide)⟩
      · show Steps p.tables e below (T5.setTop (mkF m 19 #[.val (.ref a1)] [(.int (1 : Int32))])) _
        exact retN X5 hx (t := .boolean) Bd.returns (by simp) (hb hby d1_19) hr
      · show QI Z r h0 n0 _ T5.heap _
        rw [e5]
        exact ⟨by rw [hr0]; simp [c4_3, c11_7], N0, rfl⟩
    · have pre9 : ∀ tt, Steps p.tables e below (T5.setTop (mkF m 19 #[.val (.ref a1)] [(.int (0 : Int32))])) tt → Steps p.tables e below (s₁.setTop (entryFrame m #[(.ref a1)] 1)) tt := by
        intro tt kt
        refine pre6 tt ?_
        show Steps p.tables e below (T5.setTop (mkF m 11 #[.val (.ref a1)] [(.ref w_CREATE_DATE), (.ref a1)])) _
        refine Jvm.RoadKit.acmp (g := (mkF m 11 #[.val (.ref a1)] [(.ref w_CREATE_DATE), (.ref a1)])) X5 hx rfl rfl rfl (pc0 := 11) (pc' := 18) (same := false) rfl (hb hby d1_11) rfl (decide_eq_false fun q => c11_7 (Value.ref.inj q)) (by decide) (by decide) ?_
        show Steps p.tables e below (T5.setTop (mkF m 18 #[.val (.ref a1)] [])) _
        refine XS.iconst X5.here hx rfl (hb hby d1_18) ?_
        exact kt
      obtain ⟨fs, hr, hrun, hended, hW, hsame⟩ := X5.leave (v := some (.int (0 : Int32))) (fun h => by rw [Bd.returns] at h; cases h)
      refine ⟨_, _, pre9 _ ?_, hrun, hended, _, _, rfl, ?_, ⟨_, rfl⟩, hW, hsame.mono (by decide) (by decide)⟩
      · show Steps p.tables e below (T5.setTop (mkF m 19 #[.val (.ref a1)] [(.int (0 : Int32))])) _
        exact retN X5 hx (t := .boolean) Bd.returns (by simp) (hb hby d1_19) hr
      · show QI Z r h0 n0 _ T5.heap _
        rw [e5]
        exact ⟨by rw [hr0]; simp [c4_3, c11_7], N0, rfl⟩
def Q0 (Z : State) (h0 : Heap) (n0 : Nat) (v : Option Value) (h : Heap) (L : List Loc) : Prop := v = some (.int (1 : Int32)) ∧ Fr n0 L
theorem pn_rm0 : plainName "com/example/muniment_room/munimentroom/content/StandardFieldIsDatePinLaw" = true := by first | (simp [plainName, overriddenIn]; done) | decide +kernel
theorem pd_rm0_0 : parseMethodDescriptor "()Z" = some ⟨[], some .boolean⟩ := by decide +kernel
theorem ef_rm0 (m : MethodId) (p1 : Int32) : entryFrame m #[(.int p1)] maxLocals = mkF m 0 #[.val (.int p1), .unset, .unset, .unset] [] := by first | (simp [entryFrame, mkF, argsToLocals, Value.category, maxLocals]; done) | rfl
set_option maxRecDepth 65536 in
set_option maxHeartbeats 40000000 in
theorem rm0 (l : Launch) (Z : State) (a0 : Array Value) (hw : ∀ d ∈ tables_1, d.before a0 Z = true) (ws : List Jvm.Cond) (p1 : Int32) (w_REVISION_ID w_CONTENT_ID w_TITLE w_TYPE w_AUTHOR w_SECURITY_GROUP w_ACCOUNT w_REVISION_NUMBER w_REVISION_LABEL w_RELEASE_DATE w_STATUS w_ORIGINAL_NAME w_EXTENSION w_FORMAT w_CREATE_DATE w_CHECKED_OUT w_CHECKOUT_USER : Addr) (h0 : Heap) (n0 : Nat) (Z0 : n0 ≤ h0.size) (S_REVISION_ID : Sta Z h0 "com/example/muniment_room/munimentroom/content/StandardField" "REVISION_ID" "Lcom/example/muniment_room/munimentroom/content/StandardField;" (.ref w_REVISION_ID)) (S_CONTENT_ID : Sta Z h0 "com/example/muniment_room/munimentroom/content/StandardField" "CONTENT_ID" "Lcom/example/muniment_room/munimentroom/content/StandardField;" (.ref w_CONTENT_ID)) (S_TITLE : Sta Z h0 "com/example/muniment_room/munimentroom/content/StandardField" "TITLE" "Lcom/example/muniment_room/munimentroom/content/StandardField;" (.ref w_TITLE)) (S_TYPE : Sta Z h0 "com/example/muniment_room/munimentroom/content/StandardField" "TYPE" "Lcom/example/muniment_room/munimentroom/content/StandardField;" (.ref w_TYPE)) (S_AUTHOR : Sta Z h0 "com/example/muniment_room/munimentroom/content/StandardField" "AUTHOR" "Lcom/example/muniment_room/munimentroom/content/StandardField;" (.ref w_AUTHOR)) (S_SECURITY_GROUP : Sta Z h0 "com/example/muniment_room/munimentroom/content/StandardField" "SECURITY_GROUP" "Lcom/example/muniment_room/munimentroom/content/StandardField;" (.ref w_SECURITY_GROUP)) (S_ACCOUNT : Sta Z h0 "com/example/muniment_room/munimentroom/content/StandardField" "ACCOUNT" "Lcom/example/muniment_room/munimentroom/content/StandardField;" (.ref w_ACCOUNT)) (S_REVISION_NUMBER : Sta Z h0 "com/example/muniment_room/munimentroom/content/StandardField" "REVISION_NUMBER" "Lcom/example/muniment_room/munimentroom/content/StandardField;" (.ref w_REVISION_NUMBER)) (S_REVISION_LABEL : Sta Z h0 "com/example/muniment_room/munimentroom/content/StandardField" "REVISION_LABEL" "Lcom/example/muniment_room/munimentroom/content/StandardField;" (.ref w_REVISION_LABEL)) (S_RELEASE_DATE : Sta Z h0 "com/example/muniment_room/munimentroom/content/StandardField" "RELEASE_DATE" "Lcom/example/muniment_room/munimentroom/content/StandardField;" (.ref w_RELEASE_DATE)) (S_STATUS : Sta Z h0 "com/example/muniment_room/munimentroom/content/StandardField" "STATUS" "Lcom/example/muniment_room/munimentroom/content/StandardField;" (.ref w_STATUS)) (S_ORIGINAL_NAME : Sta Z h0 "com/example/muniment_room/munimentroom/content/StandardField" "ORIGINAL_NAME" "Lcom/example/muniment_room/munimentroom/content/StandardField;" (.ref w_ORIGINAL_NAME)) (S_EXTENSION : Sta Z h0 "com/example/muniment_room/munimentroom/content/StandardField" "EXTENSION" "Lcom/example/muniment_room/munimentroom/content/StandardField;" (.ref w_EXTENSION)) (S_FORMAT : Sta Z h0 "com/example/muniment_room/munimentroom/content/StandardField" "FORMAT" "Lcom/example/muniment_room/munimentroom/content/StandardField;" (.ref w_FORMAT)) (S_CREATE_DATE : Sta Z h0 "com/example/muniment_room/munimentroom/content/StandardField" "CREATE_DATE" "Lcom/example/muniment_room/munimentroom/content/StandardField;" (.ref w_CREATE_DATE)) (S_CHECKED_OUT : Sta Z h0 "com/example/muniment_room/munimentroom/content/StandardField" "CHECKED_OUT" "Lcom/example/muniment_room/munimentroom/content/StandardField;" (.ref w_CHECKED_OUT)) (S_CHECKOUT_USER : Sta Z h0 "com/example/muniment_room/munimentroom/content/StandardField" "CHECKOUT_USER" "Lcom/example/muniment_room/munimentroom/content/StandardField;" (.ref w_CHECKOUT_USER)) (E_REVISION_ID : Exa Z h0 w_REVISION_ID "com/example/muniment_room/munimentroom/content/StandardField") (E_CONTENT_ID : Exa Z h0 w_CONTENT_ID "com/example/muniment_room/munimentroom/content/StandardField") (E_TITLE : Exa Z h0 w_TITLE "com/example/muniment_room/munimentroom/content/StandardField") (E_TYPE : Exa Z h0 w_TYPE "com/example/muniment_room/munimentroom/content/StandardField") (E_AUTHOR : Exa Z h0 w_AUTHOR "com/example/muniment_room/munimentroom/content/StandardField") (E_SECURITY_GROUP : Exa Z h0 w_SECURITY_GROUP "com/example/muniment_room/munimentroom/content/StandardField") (E_ACCOUNT : Exa Z h0 w_ACCOUNT "com/example/muniment_room/munimentroom/content/StandardField") (E_REVISION_NUMBER : Exa Z h0 w_REVISION_NUMBER "com/example/muniment_room/munimentroom/content/StandardField") (E_REVISION_LABEL : Exa Z h0 w_REVISION_LABEL "com/example/muniment_room/munimentroom/content/StandardField") (E_RELEASE_DATE : Exa Z h0 w_RELEASE_DATE "com/example/muniment_room/munimentroom/content/StandardField") (E_STATUS : Exa Z h0 w_STATUS "com/example/muniment_room/munimentroom/content/StandardField") (E_ORIGINAL_NAME : Exa Z h0 w_ORIGINAL_NAME "com/example/muniment_room/munimentroom/content/StandardField") (E_EXTENSION : Exa Z h0 w_EXTENSION "com/example/muniment_room/munimentroom/content/StandardField") (E_FORMAT : Exa Z h0 w_FORMAT "com/example/muniment_room/munimentroom/content/StandardField") (E_CREATE_DATE : Exa Z h0 w_CREATE_DATE "com/example/muniment_room/munimentroom/content/StandardField") (E_CHECKED_OUT : Exa Z h0 w_CHECKED_OUT "com/example/muniment_room/munimentroom/content/StandardField") (E_CHECKOUT_USER : Exa Z h0 w_CHECKOUT_USER "com/example/muniment_room/munimentroom/content/StandardField") (n1_REVISION_ID : ¬ (w_REVISION_ID = w_RELEASE_DATE)) (n2_REVISION_ID : ¬ (w_REVISION_ID = w_CREATE_DATE)) (n1_CONTENT_ID : ¬ (w_CONTENT_ID = w_RELEASE_DATE)) (n2_CONTENT_ID : ¬ (w_CONTENT_ID = w_CREATE_DATE)) (n1_TITLE : ¬ (w_TITLE = w_RELEASE_DATE)) (n2_TITLE : ¬ (w_TITLE = w_CREATE_DATE)) (n1_TYPE : ¬ (w_TYPE = w_RELEASE_DATE)) (n2_TYPE : ¬ (w_TYPE = w_CREATE_DATE)) (n1_AUTHOR : ¬ (w_AUTHOR = w_RELEASE_DATE)) (n2_AUTHOR : ¬ (w_AUTHOR = w_CREATE_DATE)) (n1_SECURITY_GROUP : ¬ (w_SECURITY_GROUP = w_RELEASE_DATE)) (n2_SECURITY_GROUP : ¬ (w_SECURITY_GROUP = w_CREATE_DATE)) (n1_ACCOUNT : ¬ (w_ACCOUNT = w_RELEASE_DATE)) (n2_ACCOUNT : ¬ (w_ACCOUNT = w_CREATE_DATE)) (n1_REVISION_NUMBER : ¬ (w_REVISION_NUMBER = w_RELEASE_DATE)) (n2_REVISION_NUMBER : ¬ (w_REVISION_NUMBER = w_CREATE_DATE)) (n1_REVISION_LABEL : ¬ (w_REVISION_LABEL = w_RELEASE_DATE)) (n2_REVISION_LABEL : ¬ (w_REVISION_LABEL = w_CREATE_DATE)) (n1_STATUS : ¬ (w_STATUS = w_RELEASE_DATE)) (n2_STATUS : ¬ (w_STATUS = w_CREATE_DATE)) (n1_ORIGINAL_NAME : ¬ (w_ORIGINAL_NAME = w_RELEASE_DATE)) (n2_ORIGINAL_NAME : ¬ (w_ORIGINAL_NAME = w_CREATE_DATE)) (n1_EXTENSION : ¬ (w_EXTENSION = w_RELEASE_DATE)) (n2_EXTENSION : ¬ (w_EXTENSION = w_CREATE_DATE)) (n1_FORMAT : ¬ (w_FORMAT = w_RELEASE_DATE)) (n2_FORMAT : ¬ (w_FORMAT = w_CREATE_DATE)) (n1_CHECKED_OUT : ¬ (w_CHECKED_OUT = w_RELEASE_DATE)) (n2_CHECKED_OUT : ¬ (w_CHECKED_OUT = w_CREATE_DATE)) (n1_CHECKOUT_USER : ¬ (w_CHECKOUT_USER = w_RELEASE_DATE)) (n2_CHECKOUT_USER : ¬ (w_CHECKOUT_USER = w_CREATE_DATE)) :
    MetFree l x (head1 (Jvm.Cond.code x code maxLocals ret :: ws) room_1) (fun a U => a = #[(.int p1)] ∧ Z.Warmed39 U.vm ∧ U.heap = h0) (fun _ _ _ _ _ => True) (fun _ U o U' => ∃ v L, o = .returned v ∧ Q0 Z h0 n0 v U'.heap L ∧ FrameEnd U o U' L room_1.cells room_1.slots) := by
  refine MetFree.of_bodySF (plainFor_of_name pn_rm0) hisR ?_
  intro p e s m args below meth c s₁ Bd hml0 hP hK
  obtain ⟨rfl, hZ, hh⟩ := hP
  have hx := Bd.exec
  have hby := Bd.bytes
  have hml : c.maxLocals = 4 := hml0
  have hown : s.vm.findClass "com/example/muniment_room/munimentroom/content/StandardFieldIsDatePinLaw" = some m.cls := findClass_of_methodNamed Bd.named
  have hnm := (name_of_methodNamed Bd.named Bd.method).1
  have X0 : Stand p l e room_1 s m #[(.int p1)] below meth c s₁ [] 0 0 := Stand.of_body Bd
  have e0 : s₁.heap = h0 := by rw [← hh, Bd.state]; rfl
  have N0 := Fr.nil n0
  have pre0 : ∀ tt, Steps p.tables e below (s₁.setTop (mkF m 0 #[.val (.int p1), .unset, .unset, .unset] [])) tt → Steps p.tables e below (s₁.setTop (entryFrame m #[(.int p1)] maxLocals)) tt := fun tt kt => castTop (ef_rm0 m p1) kt
  obtain ⟨T1, h1, k1, X1, e1, E1, A1, O1, st1⟩ := newR X0 hx hZ hown (hw _ (List.mem_of_getElem? (i := 0) rfl)) (hw _ (List.mem_of_getElem? (i := 1) rfl)) e0 (g := (mkF m 2 #[.val (.int p1), .unset, .unset, .unset] [(.int (17 : Int32))])) rfl (hb hby at_2) rfl (by decide) (cap := 17) (by decide) (by decide) (by decide) (by decide)
  obtain ⟨b1, g1⟩ : ∃ z, z = h0.size := ⟨_, rfl⟩
  rw [← g1] at A1 st1
  have g_b1 : n0 ≤ b1 := Nat.le_trans Z0 (Nat.le_of_eq g1.symm)
  have V_b1 : Arv Z h1 b1 k1 (.object "com/example/muniment_room/munimentroom/content/StandardField") (17 : Int32) [.null, .null, .null, .null, .null, .null, .null, .null, .null, .null, .null, .null, .null, .null, .null, .null, .null] .null := (Arv.new A1 (by decide)).pad (pad_rep [] .null 17)
  obtain ⟨T2, X2, e2, st2⟩ := getS2 X1 hx hZ hown (host := "") (Or.inl (hw _ (List.mem_of_getElem? (i := 2) rfl))) Via.refl e1 (Sta.ext E1 S_REVISION_ID) (g := (mkF m 7 #[.val (.int p1), .unset, .unset, .unset] [(.int (0 : Int32)), (.ref b1), (.ref b1)])) rfl (hb hby at_7)
  obtain ⟨cl3, Ar3, q3, S3, M3, H3, G3⟩ := V_b1
  have hin3 : ¬ ((0 : Int32) < 0 ∨ cl3.slots.size ≤ ((0 : Int32)).toNatClampNeg) := inb_of S3 ⟨by decide, by decide⟩
  obtain ⟨T4, h4, X4, e4, W4, st4⟩ := stR X2 hx hZ e2 Ar3 (j := (0 : Int32)) hin3 rfl (Sto.ofV Ar3 q3 O1 (Ins.self (Exa.ext E1 E_REVISION_ID))) (g := (mkF m 10 #[.val (.int p1), .unset, .unset, .unset] [(.ref w_REVISION_ID), (.int (0 : Int32)), (.ref b1), (.ref b1)])) rfl rfl (hb hby at_10)
  have N4 := Fr.snoc X4 N0 g_b1
  have V4 : Arv Z h4 b1 k1 (.object "com/example/muniment_room/munimentroom/content/StandardField") (17 : Int32) [(.ref w_REVISION_ID), .null, .null, .null, .null, .null, .null, .null, .null, .null, .null, .null, .null, .null, .null, .null, .null] .null := Arv.set Ar3 q3 S3 M3 H3 G3 rfl W4 0 rfl (Nat.le_of_ble_eq_true rfl)
  obtain ⟨T5, X5, e5, st5⟩ := getS2 X4 hx hZ hown (host := "") (Or.inl (hw _ (List.mem_of_getElem? (i := 6) rfl))) Via.refl e4 (Sta.wr W4 (Sta.ext E1 S_CONTENT_ID)) (g := (mkF m 13 #[.val (.int p1), .unset, .unset, .unset] [(.int (1 : Int32)), (.ref b1), (.ref b1)])) rfl (hb hby at_13)
  obtain ⟨cl6, Ar6, q6, S6, M6, H6, G6⟩ := V4
  have hin6 : ¬ ((1 : Int32) < 0 ∨ cl6.slots.size ≤ ((1 : Int32)).toNatClampNeg) := inb_of S6 ⟨by decide, by decide⟩
  obtain ⟨T7, h7, X7, e7, W7, st7⟩ := stR X5 hx hZ e5 Ar6 (j := (1 : Int32)) hin6 rfl (Sto.ofV Ar6 q6 O1 (Ins.self (Exa.wr W4 (Exa.ext E1 E_CONTENT_ID)))) (g := (mkF m 16 #[.val (.int p1), .unset, .unset, .unset] [(.ref w_CONTENT_ID), (.int (1 : Int32)), (.ref b1), (.ref b1)])) rfl rfl (hb hby at_16)
  have N7 := Fr.snoc X7 N4 g_b1
  have V7 : Arv Z h7 b1 k1 (.object "com/example/muniment_room/munimentroom/content/StandardField") (17 : Int32) [(.ref w_REVISION_ID), (.ref w_CONTENT_ID), .null, .null, .null, .null, .null, .null, .null, .null, .null, .null, .null, .null, .null, .null, .null] .null := Arv.set Ar6 q6 S6 M6 H6 G6 rfl W7 1 rfl (Nat.le_of_ble_eq_true rfl)
  obtain ⟨T8, X8, e8, st8⟩ := getS2 X7 hx hZ hown (host := "") (Or.inl (hw _ (List.mem_of_getElem? (i := 8) rfl))) Via.refl e7 (Sta.wr W7 (Sta.wr W4 (Sta.ext E1 S_TITLE))) (g := (mkF m 19 #[.val (.int p1), .unset, .unset, .unset] [(.int (2 : Int32)), (.ref b1), (.ref b1)])) rfl (hb hby at_19)
  obtain ⟨cl9, Ar9, q9, S9, M9, H9, G9⟩ := V7
  have hin9 : ¬ ((2 : Int32) < 0 ∨ cl9.slots.size ≤ ((2 : Int32)).toNatClampNeg) := inb_of S9 ⟨by decide, by decide⟩
  obtain ⟨T10, h10, X10, e10, W10, st10⟩ := stR X8 hx hZ e8 Ar9 (j := (2 : Int32)) hin9 rfl (Sto.ofV Ar9 q9 O1 (Ins.self (Exa.wr W7 (Exa.wr W4 (Exa.ext E1 E_TITLE))))) (g := (mkF m 22 #[.val (.int p1), .unset, .unset, .unset] [(.ref w_TITLE), (.int (2 : Int32)), (.ref b1), (.ref b1)])) rfl rfl (hb hby at_22)
  have N10 := Fr.snoc X10 N7 g_b1
  have V10 : Arv Z h10 b1 k1 (.object "com/example/muniment_room/munimentroom/content/StandardField") (17 : Int32) [(.ref w_REVISION_ID), (.ref w_CONTENT_ID), (.ref w_TITLE), .null, .null, .null, .null, .null, .null, .null, .null, .null, .null, .null, .null, .null, .null] .null := Arv.set Ar9 q9 S9 M9 H9 G9 rfl W10 2 rfl (Nat.le_of_ble_eq_true rfl)
  obtain ⟨T11, X11, e11, st11⟩ := getS2 X10 hx hZ hown (host := "") (Or.inl (hw _ (List.mem_of_getElem? (i := 10) rfl))) Via.refl e10 (Sta.wr W10 (Sta.wr W7 (Sta.wr W4 (Sta.ext E1 S_TYPE)))) (g := (mkF m 25 #[.val (.int p1), .unset, .unset, .unset] [(.int (3 : Int32)), (.ref b1), (.ref b1)])) rfl (hb hby at_25)
  obtain ⟨cl12, Ar12, q12, S12, M12, H12, G12⟩ := V10
  have hin12 : ¬ ((3 : Int32) < 0 ∨ cl12.slots.size ≤ ((3 : Int32)).toNatClampNeg) := inb_of S12 ⟨by decide, by decide⟩
  obtain ⟨T13, h13, X13, e13, W13, st13⟩ := stR X11 hx hZ e11 Ar12 (j := (3 : Int32)) hin12 rfl (Sto.ofV Ar12 q12 O1 (Ins.self (Exa.wr W10 (Exa.wr W7 (Exa.wr W4 (Exa.ext E1 E_TYPE)))))) (g := (mkF m 28 #[.val (.int p1), .unset, .unset, .unset] [(.ref w_TYPE), (.int (3 : Int32)), (.ref b1), (.ref b1)])) rfl rfl (hb hby at_28)
  have N13 := Fr.snoc X13 N10 g_b1
  have V13 : Arv Z h13 b1 k1 (.object "com/example/muniment_room/munimentroom/content/StandardField") (17 : Int32) [(.ref w_REVISION_ID), (.ref w_CONTENT_ID), (.ref w_TITLE), (.ref w_TYPE), .null, .null, .null, .null, .null, .null, .null, .null, .null, .null, .null, .null, .null] .null := Arv.set Ar12 q12 S12 M12 H12 G12 rfl W13 3 rfl (Nat.le_of_ble_eq_true rfl)
  obtain ⟨T14, X14, e14, st14⟩ := getS2 X13 hx hZ hown (host := "") (Or.inl (hw _ (List.mem_of_getElem? (i := 12) rfl))) Via.refl e13 (Sta.wr W13 (Sta.wr W10 (Sta.wr W7 (Sta.wr W4 (Sta.ext E1 S_AUTHOR))))) (g := (mkF m 31 #[.val (.int p1), .unset, .unset, .unset] [(.int (4 : Int32)), (.ref b1), (.ref b1)])) rfl (hb hby at_31)
  obtain ⟨cl15, Ar15, q15, S15, M15, H15, G15⟩ := V13
  have hin15 : ¬ ((4 : Int32) < 0 ∨ cl15.slots.size ≤ ((4 : Int32)).toNatClampNeg) := inb_of S15 ⟨by decide, by decide⟩
  obtain ⟨T16, h16, X16, e16, W16, st16⟩ := stR X14 hx hZ e14 Ar15 (j := (4 : Int32)) hin15 rfl (Sto.ofV Ar15 q15 O1 (Ins.self (Exa.wr W13 (Exa.wr W10 (Exa.wr W7 (Exa.wr W4 (Exa.ext E1 E_AUTHOR))))))) (g := (mkF m 34 #[.val (.int p1), .unset, .unset, .unset] [(.ref w_AUTHOR), (.int (4 : Int32)), (.ref b1), (.ref b1)])) rfl rfl (hb hby at_34)
  have N16 := Fr.snoc X16 N13 g_b1
  have V16 : Arv Z h16 b1 k1 (.object "com/example/muniment_room/munimentroom/content/StandardField") (17 : Int32) [(.ref w_REVISION_ID), (.ref w_CONTENT_ID), (.ref w_TITLE), (.ref w_TYPE), (.ref w_AUTHOR), .null, .null, .null, .null, .null, .null, .null, .null, .null, .null, .null, .null] .null := Arv.set Ar15 q15 S15 M15 H15 G15 rfl W16 4 rfl (Nat.le_of_ble_eq_true rfl)
  obtain ⟨T17, X17, e17, st17⟩ := getS2 X16 hx hZ hown (host := "") (Or.inl (hw _ (List.mem_of_getElem? (i := 14) rfl))) Via.refl e16 (Sta.wr W16 (Sta.wr W13 (Sta.wr W10 (Sta.wr W7 (Sta.wr W4 (Sta.ext E1 S_SECURITY_GROUP)))))) (g := (mkF m 37 #[.val (.int p1), .unset, .unset, .unset] [(.int (5 : Int32)), (.ref b1), (.ref b1)])) rfl (hb hby at_37)
  obtain ⟨cl18, Ar18, q18, S18, M18, H18, G18⟩ := V16
  have hin18 : ¬ ((5 : Int32) < 0 ∨ cl18.slots.size ≤ ((5 : Int32)).toNatClampNeg) := inb_of S18 ⟨by decide, by decide⟩
  obtain ⟨T19, h19, X19, e19, W19, st19⟩ := stR X17 hx hZ e17 Ar18 (j := (5 : Int32)) hin18 rfl (Sto.ofV Ar18 q18 O1 (Ins.self (Exa.wr W16 (Exa.wr W13 (Exa.wr W10 (Exa.wr W7 (Exa.wr W4 (Exa.ext E1 E_SECURITY_GROUP)))))))) (g := (mkF m 40 #[.val (.int p1), .unset, .unset, .unset] [(.ref w_SECURITY_GROUP), (.int (5 : Int32)), (.ref b1), (.ref b1)])) rfl rfl (hb hby at_40)
  have N19 := Fr.snoc X19 N16 g_b1
  have V19 : Arv Z h19 b1 k1 (.object "com/example/muniment_room/munimentroom/content/StandardField") (17 : Int32) [(.ref w_REVISION_ID), (.ref w_CONTENT_ID), (.ref w_TITLE), (.ref w_TYPE), (.ref w_AUTHOR), (.ref w_SECURITY_GROUP), .null, .null, .null, .null, .null, .null, .null, .null, .null, .null, .null] .null := Arv.set Ar18 q18 S18 M18 H18 G18 rfl W19 5 rfl (Nat.le_of_ble_eq_true rfl)
  obtain ⟨T20, X20, e20, st20⟩ := getS2 X19 hx hZ hown (host := "") (Or.inl (hw _ (List.mem_of_getElem? (i := 16) rfl))) Via.refl e19 (Sta.wr W19 (Sta.wr W16 (Sta.wr W13 (Sta.wr W10 (Sta.wr W7 (Sta.wr W4 (Sta.ext E1 S_ACCOUNT))))))) (g := (mkF m 44 #[.val (.int p1), .unset, .unset, .unset] [(.int (6 : Int32)), (.ref b1), (.ref b1)])) rfl (hb hby at_44)
  obtain ⟨cl21, Ar21, q21, S21, M21, H21, G21⟩ := V19
  have hin21 : ¬ ((6 : Int32) < 0 ∨ cl21.slots.size ≤ ((6 : Int32)).toNatClampNeg) := inb_of S21 ⟨by decide, by decide⟩
  obtain ⟨T22, h22, X22, e22, W22, st22⟩ := stR X20 hx hZ e20 Ar21 (j := (6 : Int32)) hin21 rfl (Sto.ofV Ar21 q21 O1 (Ins.self (Exa.wr W19 (Exa.wr W16 (Exa.wr W13 (Exa.wr W10 (Exa.wr W7 (Exa.wr W4 (Exa.ext E1 E_ACCOUNT))))))))) (g := (mkF m 47 #[.val (.int p1), .unset, .unset, .unset] [(.ref w_ACCOUNT), (.int (6 : Int32)), (.ref b1), (.ref b1)])) rfl rfl (hb hby at_47)
  have N22 := Fr.snoc X22 N19 g_b1
  have V22 : Arv Z h22 b1 k1 (.object "com/example/muniment_room/munimentroom/content/StandardField") (17 : Int32) [(.ref w_REVISION_ID), (.ref w_CONTENT_ID), (.ref w_TITLE), (.ref w_TYPE), (.ref w_AUTHOR), (.ref w_SECURITY_GROUP), (.ref w_ACCOUNT), .null, .null, .null, .null, .null, .null, .null, .null, .null, .null] .null := Arv.set Ar21 q21 S21 M21 H21 G21 rfl W22 6 rfl (Nat.le_of_ble_eq_true rfl)
  obtain ⟨T23, X23, e23, st23⟩ := getS2 X22 hx hZ hown (host := "") (Or.inl (hw _ (List.mem_of_getElem? (i := 18) rfl))) Via.refl e22 (Sta.wr W22 (Sta.wr W19 (Sta.wr W16 (Sta.wr W13 (Sta.wr W10 (Sta.wr W7 (Sta.wr W4 (Sta.ext E1 S_REVISION_NUMBER)))))))) (g := (mkF m 51 #[.val (.int p1), .unset, .unset, .unset] [(.int (7 : Int32)), (.ref b1), (.ref b1)])) rfl (hb hby at_51)
  obtain ⟨cl24, Ar24, q24, S24, M24, H24, G24⟩ := V22
  have hin24 : ¬ ((7 : Int32) < 0 ∨ cl24.slots.size ≤ ((7 : Int32)).toNatClampNeg) := inb_of S24 ⟨by decide, by decide⟩
  obtain ⟨T25, h25, X25, e25, W25, st25⟩ := stR X23 hx hZ e23 Ar24 (j := (7 : Int32)) hin24 rfl (Sto.ofV Ar24 q24 O1 (Ins.self (Exa.wr W22 (Exa.wr W19 (Exa.wr W16 (Exa.wr W13 (Exa.wr W10 (Exa.wr W7 (Exa.wr W4 (Exa.ext E1 E_REVISION_NUMBER)))))))))) (g := (mkF m 54 #[.val (.int p1), .unset, .unset, .unset] [(.ref w_REVISION_NUMBER), (.int (7 : Int32)), (.ref b1), (.ref b1)])) rfl rfl (hb hby at_54)
  have N25 := Fr.snoc X25 N22 g_b1
  have V25 : Arv Z h25 b1 k1 (.object "com/example/muniment_room/munimentroom/content/StandardField") (17 : Int32) [(.ref w_REVISION_ID), (.ref w_CONTENT_ID), (.ref w_TITLE), (.ref w_TYPE), (.ref w_AUTHOR), (.ref w_SECURITY_GROUP), (.ref w_ACCOUNT), (.ref w_REVISION_NUMBER), .null, .null, .null, .null, .null, .null, .null, .null, .null] .null := Arv.set Ar24 q24 S24 M24 H24 G24 rfl W25 7 rfl (Nat.le_of_ble_eq_true rfl)
  obtain ⟨T26, X26, e26, st26⟩ := getS2 X25 hx hZ hown (host := "") (Or.inl (hw _ (List.mem_of_getElem? (i := 20) rfl))) Via.refl e25 (Sta.wr W25 (Sta.wr W22 (Sta.wr W19 (Sta.wr W16 (Sta.wr W13 (Sta.wr W10 (Sta.wr W7 (Sta.wr W4 (Sta.ext E1 S_REVISION_LABEL))))))))) (g := (mkF m 58 #[.val (.int p1), .unset, .unset, .unset] [(.int (8 : Int32)), (.ref b1), (.ref b1)])) rfl (hb hby at_58)
  obtain ⟨cl27, Ar27, q27, S27, M27, H27, G27⟩ := V25
  have hin27 : ¬ ((8 : Int32) < 0 ∨ cl27.slots.size ≤ ((8 : Int32)).toNatClampNeg) := inb_of S27 ⟨by decide, by decide⟩
  obtain ⟨T28, h28, X28, e28, W28, st28⟩ := stR X26 hx hZ e26 Ar27 (j := (8 : Int32)) hin27 rfl (Sto.ofV Ar27 q27 O1 (Ins.self (Exa.wr W25 (Exa.wr W22 (Exa.wr W19 (Exa.wr W16 (Exa.wr W13 (Exa.wr W10 (Exa.wr W7 (Exa.wr W4 (Exa.ext E1 E_REVISION_LABEL))))))))))) (g := (mkF m 61 #[.val (.int p1), .unset, .unset, .unset] [(.ref w_REVISION_LABEL), (.int (8 : Int32)), (.ref b1), (.ref b1)])) rfl rfl (hb hby at_61)
  have N28 := Fr.snoc X28 N25 g_b1
  have V28 : Arv Z h28 b1 k1 (.object "com/example/muniment_room/munimentroom/content/StandardField") (17 : Int32) [(.ref w_REVISION_ID), (.ref w_CONTENT_ID), (.ref w_TITLE), (.ref w_TYPE), (.ref w_AUTHOR), (.ref w_SECURITY_GROUP), (.ref w_ACCOUNT), (.ref w_REVISION_NUMBER), (.ref w_REVISION_LABEL), .null, .null, .null, .null, .null, .null, .null, .null] .null := Arv.set Ar27 q27 S27 M27 H27 G27 rfl W28 8 rfl (Nat.le_of_ble_eq_true rfl)
  obtain ⟨T29, X29, e29, st29⟩ := getS2 X28 hx hZ hown (host := "") (Or.inl (hw _ (List.mem_of_getElem? (i := 22) rfl))) Via.refl e28 (Sta.wr W28 (Sta.wr W25 (Sta.wr W22 (Sta.wr W19 (Sta.wr W16 (Sta.wr W13 (Sta.wr W10 (Sta.wr W7 (Sta.wr W4 (Sta.ext E1 S_RELEASE_DATE)))))))))) (g := (mkF m 65 #[.val (.int p1), .unset, .unset, .unset] [(.int (9 : Int32)), (.ref b1), (.ref b1)])) rfl (hb hby at_65)
  obtain ⟨cl30, Ar30, q30, S30, M30, H30, G30⟩ := V28
  have hin30 : ¬ ((9 : Int32) < 0 ∨ cl30.slots.size ≤ ((9 : Int32)).toNatClampNeg) := inb_of S30 ⟨by decide, by decide⟩
  obtain ⟨T31, h31, X31, e31, W31, st31⟩ := stR X29 hx hZ e29 Ar30 (j := (9 : Int32)) hin30 rfl (Sto.ofV Ar30 q30 O1 (Ins.self (Exa.wr W28 (Exa.wr W25 (Exa.wr W22 (Exa.wr W19 (Exa.wr W16 (Exa.wr W13 (Exa.wr W10 (Exa.wr W7 (Exa.wr W4 (Exa.ext E1 E_RELEASE_DATE)))))))))))) (g := (mkF m 68 #[.val (.int p1), .unset, .unset, .unset] [(.ref w_RELEASE_DATE), (.int (9 : Int32)), (.ref b1), (.ref b1)])) rfl rfl (hb hby at_68)
  have N31 := Fr.snoc X31 N28 g_b1
  have V31 : Arv Z h31 b1 k1 (.object "com/example/muniment_room/munimentroom/content/StandardField") (17 : Int32) [(.ref w_REVISION_ID), (.ref w_CONTENT_ID), (.ref w_TITLE), (.ref w_TYPE), (.ref w_AUTHOR), (.ref w_SECURITY_GROUP), (.ref w_ACCOUNT), (.ref w_REVISION_NUMBER), (.ref w_REVISION_LABEL), (.ref w_RELEASE_DATE), .null, .null, .null, .null, .null, .null, .null] .null := Arv.set Ar30 q30 S30 M30 H30 G30 rfl W31 9 rfl (Nat.le_of_ble_eq_true rfl)
  obtain ⟨T32, X32, e32, st32⟩ := getS2 X31 hx hZ hown (host := "") (Or.inl (hw _ (List.mem_of_getElem? (i := 24) rfl))) Via.refl e31 (Sta.wr W31 (Sta.wr W28 (Sta.wr W25 (Sta.wr W22 (Sta.wr W19 (Sta.wr W16 (Sta.wr W13 (Sta.wr W10 (Sta.wr W7 (Sta.wr W4 (Sta.ext E1 S_STATUS))))))))))) (g := (mkF m 72 #[.val (.int p1), .unset, .unset, .unset] [(.int (10 : Int32)), (.ref b1), (.ref b1)])) rfl (hb hby at_72)
  obtain ⟨cl33, Ar33, q33, S33, M33, H33, G33⟩ := V31
  have hin33 : ¬ ((10 : Int32) < 0 ∨ cl33.slots.size ≤ ((10 : Int32)).toNatClampNeg) := inb_of S33 ⟨by decide, by decide⟩
  obtain ⟨T34, h34, X34, e34, W34, st34⟩ := stR X32 hx hZ e32 Ar33 (j := (10 : Int32)) hin33 rfl (Sto.ofV Ar33 q33 O1 (Ins.self (Exa.wr W31 (Exa.wr W28 (Exa.wr W25 (Exa.wr W22 (Exa.wr W19 (Exa.wr W16 (Exa.wr W13 (Exa.wr W10 (Exa.wr W7 (Exa.wr W4 (Exa.ext E1 E_STATUS))))))))))))) (g := (mkF m 75 #[.val (.int p1), .unset, .unset, .unset] [(.ref w_STATUS), (.int (10 : Int32)), (.ref b1), (.ref b1)])) rfl rfl (hb hby at_75)
  have N34 := Fr.snoc X34 N31 g_b1
  have V34 : Arv Z h34 b1 k1 (.object "com/example/muniment_room/munimentroom/content/StandardField") (17 : Int32) [(.ref w_REVISION_ID), (.ref w_CONTENT_ID), (.ref w_TITLE), (.ref w_TYPE), (.ref w_AUTHOR), (.ref w_SECURITY_GROUP), (.ref w_ACCOUNT), (.ref w_REVISION_NUMBER), (.ref w_REVISION_LABEL), (.ref w_RELEASE_DATE), (.ref w_STATUS), .null, .null, .null, .null, .null, .null] .null := Arv.set Ar33 q33 S33 M33 H33 G33 rfl W34 10 rfl (Nat.le_of_ble_eq_true rfl)
  obtain ⟨T35, X35, e35, st35⟩ := getS2 X34 hx hZ hown (host := "") (Or.inl (hw _ (List.mem_of_getElem? (i := 26) rfl))) Via.refl e34 (Sta.wr W34 (Sta.wr W31 (Sta.wr W28 (Sta.wr W25 (Sta.wr W22 (Sta.wr W19 (Sta.wr W16 (Sta.wr W13 (Sta.wr W10 (Sta.wr W7 (Sta.wr W4 (Sta.ext E1 S_ORIGINAL_NAME)))))))))))) (g := (mkF m 79 #[.val (.int p1), .unset, .unset, .unset] [(.int (11 : Int32)), (.ref b1), (.ref b1)])) rfl (hb hby at_79)
  obtain ⟨cl36, Ar36, q36, S36, M36, H36, G36⟩ := V34
  have hin36 : ¬ ((11 : Int32) < 0 ∨ cl36.slots.size ≤ ((11 : Int32)).toNatClampNeg) := inb_of S36 ⟨by decide, by decide⟩
  obtain ⟨T37, h37, X37, e37, W37, st37⟩ := stR X35 hx hZ e35 Ar36 (j := (11 : Int32)) hin36 rfl (Sto.ofV Ar36 q36 O1 (Ins.self (Exa.wr W34 (Exa.wr W31 (Exa.wr W28 (Exa.wr W25 (Exa.wr W22 (Exa.wr W19 (Exa.wr W16 (Exa.wr W13 (Exa.wr W10 (Exa.wr W7 (Exa.wr W4 (Exa.ext E1 E_ORIGINAL_NAME)))))))))))))) (g := (mkF m 82 #[.val (.int p1), .unset, .unset, .unset] [(.ref w_ORIGINAL_NAME), (.int (11 : Int32)), (.ref b1), (.ref b1)])) rfl rfl (hb hby at_82)
  have N37 := Fr.snoc X37 N34 g_b1
  have V37 : Arv Z h37 b1 k1 (.object "com/example/muniment_room/munimentroom/content/StandardField") (17 : Int32) [(.ref w_REVISION_ID), (.ref w_CONTENT_ID), (.ref w_TITLE), (.ref w_TYPE), (.ref w_AUTHOR), (.ref w_SECURITY_GROUP), (.ref w_ACCOUNT), (.ref w_REVISION_NUMBER), (.ref w_REVISION_LABEL), (.ref w_RELEASE_DATE), (.ref w_STATUS), (.ref w_ORIGINAL_NAME), .null, .null, .null, .null, .null] .null := Arv.set Ar36 q36 S36 M36 H36 G36 rfl W37 11 rfl (Nat.le_of_ble_eq_true rfl)
  obtain ⟨T38, X38, e38, st38⟩ := getS2 X37 hx hZ hown (host := "") (Or.inl (hw _ (List.mem_of_getElem? (i := 28) rfl))) Via.refl e37 (Sta.wr W37 (Sta.wr W34 (Sta.wr W31 (Sta.wr W28 (Sta.wr W25 (Sta.wr W22 (Sta.wr W19 (Sta.wr W16 (Sta.wr W13 (Sta.wr W10 (Sta.wr W7 (Sta.wr W4 (Sta.ext E1 S_EXTENSION))))))))))))) (g := (mkF m 86 #[.val (.int p1), .unset, .unset, .unset] [(.int (12 : Int32)), (.ref b1), (.ref b1)])) rfl (hb hby at_86)
  obtain ⟨cl39, Ar39, q39, S39, M39, H39, G39⟩ := V37
  have hin39 : ¬ ((12 : Int32) < 0 ∨ cl39.slots.size ≤ ((12 : Int32)).toNatClampNeg) := inb_of S39 ⟨by decide, by decide⟩
  obtain ⟨T40, h40, X40, e40, W40, st40⟩ := stR X38 hx hZ e38 Ar39 (j := (12 : Int32)) hin39 rfl (Sto.ofV Ar39 q39 O1 (Ins.self (Exa.wr W37 (Exa.wr W34 (Exa.wr W31 (Exa.wr W28 (Exa.wr W25 (Exa.wr W22 (Exa.wr W19 (Exa.wr W16 (Exa.wr W13 (Exa.wr W10 (Exa.wr W7 (Exa.wr W4 (Exa.ext E1 E_EXTENSION))))))))))))))) (g := (mkF m 89 #[.val (.int p1), .unset, .unset, .unset] [(.ref w_EXTENSION), (.int (12 : Int32)), (.ref b1), (.ref b1)])) rfl rfl (hb hby at_89)
  have N40 := Fr.snoc X40 N37 g_b1
  have V40 : Arv Z h40 b1 k1 (.object "com/example/muniment_room/munimentroom/content/StandardField") (17 : Int32) [(.ref w_REVISION_ID), (.ref w_CONTENT_ID), (.ref w_TITLE), (.ref w_TYPE), (.ref w_AUTHOR), (.ref w_SECURITY_GROUP), (.ref w_ACCOUNT), (.ref w_REVISION_NUMBER), (.ref w_REVISION_LABEL), (.ref w_RELEASE_DATE), (.ref w_STATUS), (.ref w_ORIGINAL_NAME), (.ref w_EXTENSION), .null, .null, .null, .null] .null := Arv.set Ar39 q39 S39 M39 H39 G39 rfl W40 12 rfl (Nat.le_of_ble_eq_true rfl)
  obtain ⟨T41, X41, e41, st41⟩ := getS2 X40 hx hZ hown (host := "") (Or.inl (hw _ (List.mem_of_getElem? (i := 30) rfl))) Via.refl e40 (Sta.wr W40 (Sta.wr W37 (Sta.wr W34 (Sta.wr W31 (Sta.wr W28 (Sta.wr W25 (Sta.wr W22 (Sta.wr W19 (Sta.wr W16 (Sta.wr W13 (Sta.wr W10 (Sta.wr W7 (Sta.wr W4 (Sta.ext E1 S_FORMAT)))))))))))))) (g := (mkF m 93 #[.val (.int p1), .unset, .unset, .unset] [(.int (13 : Int32)), (.ref b1), (.ref b1)])) rfl (hb hby at_93)
  obtain ⟨cl42, Ar42, q42, S42, M42, H42, G42⟩ := V40
  have hin42 : ¬ ((13 : Int32) < 0 ∨ cl42.slots.size ≤ ((13 : Int32)).toNatClampNeg) := inb_of S42 ⟨by decide, by decide⟩
  obtain ⟨T43, h43, X43, e43, W43, st43⟩ := stR X41 hx hZ e41 Ar42 (j := (13 : Int32)) hin42 rfl (Sto.ofV Ar42 q42 O1 (Ins.self (Exa.wr W40 (Exa.wr W37 (Exa.wr W34 (Exa.wr W31 (Exa.wr W28 (Exa.wr W25 (Exa.wr W22 (Exa.wr W19 (Exa.wr W16 (Exa.wr W13 (Exa.wr W10 (Exa.wr W7 (Exa.wr W4 (Exa.ext E1 E_FORMAT)))))))))))))))) (g := (mkF m 96 #[.val (.int p1), .unset, .unset, .unset] [(.ref w_FORMAT), (.int (13 : Int32)), (.ref b1), (.ref b1)])) rfl rfl (hb hby at_96)
  have N43 := Fr.snoc X43 N40 g_b1
  have V43 : Arv Z h43 b1 k1 (.object "com/example/muniment_room/munimentroom/content/StandardField") (17 : Int32) [(.ref w_REVISION_ID), (.ref w_CONTENT_ID), (.ref w_TITLE), (.ref w_TYPE), (.ref w_AUTHOR), (.ref w_SECURITY_GROUP), (.ref w_ACCOUNT), (.ref w_REVISION_NUMBER), (.ref w_REVISION_LABEL), (.ref w_RELEASE_DATE), (.ref w_STATUS), (.ref w_ORIGINAL_NAME), (.ref w_EXTENSION), (.ref w_FORMAT), .null, .null, .null] .null := Arv.set Ar42 q42 S42 M42 H42 G42 rfl W43 13 rfl (Nat.le_of_ble_eq_true rfl)
  obtain ⟨T44, X44, e44, st44⟩ := getS2 X43 hx hZ hown (host := "") (Or.inl (hw _ (List.mem_of_getElem? (i := 32) rfl))) Via.refl e43 (Sta.wr W43 (Sta.wr W40 (Sta.wr W37 (Sta.wr W34 (Sta.wr W31 (Sta.wr W28 (Sta.wr W25 (Sta.wr W22 (Sta.wr W19 (Sta.wr W16 (Sta.wr W13 (Sta.wr W10 (Sta.wr W7 (Sta.wr W4 (Sta.ext E1 S_CREATE_DATE))))))))))))))) (g := (mkF m 100 #[.val (.int p1), .unset, .unset, .unset] [(.int (14 : Int32)), (.ref b1), (.ref b1)])) rfl (hb hby at_100)
  obtain ⟨cl45, Ar45, q45, S45, M45, H45, G45⟩ := V43
  have hin45 : ¬ ((14 : Int32) < 0 ∨ cl45.slots.size ≤ ((14 : Int32)).toNatClampNeg) := inb_of S45 ⟨by decide, by decide⟩
  obtain ⟨T46, h46, X46, e46, W46, st46⟩ := stR X44 hx hZ e44 Ar45 (j := (14 : Int32)) hin45 rfl (Sto.ofV Ar45 q45 O1 (Ins.self (Exa.wr W43 (Exa.wr W40 (Exa.wr W37 (Exa.wr W34 (Exa.wr W31 (Exa.wr W28 (Exa.wr W25 (Exa.wr W22 (Exa.wr W19 (Exa.wr W16 (Exa.wr W13 (Exa.wr W10 (Exa.wr W7 (Exa.wr W4 (Exa.ext E1 E_CREATE_DATE))))))))))))))))) (g := (mkF m 103 #[.val (.int p1), .unset, .unset, .unset] [(.ref w_CREATE_DATE), (.int (14 : Int32)), (.ref b1), (.ref b1)])) rfl rfl (hb hby at_103)
  have N46 := Fr.snoc X46 N43 g_b1
  have V46 : Arv Z h46 b1 k1 (.object "com/example/muniment_room/munimentroom/content/StandardField") (17 : Int32) [(.ref w_REVISION_ID), (.ref w_CONTENT_ID), (.ref w_TITLE), (.ref w_TYPE), (.ref w_AUTHOR), (.ref w_SECURITY_GROUP), (.ref w_ACCOUNT), (.ref w_REVISION_NUMBER), (.ref w_REVISION_LABEL), (.ref w_RELEASE_DATE), (.ref w_STATUS), (.ref w_ORIGINAL_NAME), (.ref w_EXTENSION), (.ref w_FORMAT), (.ref w_CREATE_DATE), .null, .null] .null := Arv.set Ar45 q45 S45 M45 H45 G45 rfl W46 14 rfl (Nat.le_of_ble_eq_true rfl)
  obtain ⟨T47, X47, e47, st47⟩ := getS2 X46 hx hZ hown (host := "") (Or.inl (hw _ (List.mem_of_getElem? (i := 34) rfl))) Via.refl e46 (Sta.wr W46 (Sta.wr W43 (Sta.wr W40 (Sta.wr W37 (Sta.wr W34 (Sta.wr W31 (Sta.wr W28 (Sta.wr W25 (Sta.wr W22 (Sta.wr W19 (Sta.wr W16 (Sta.wr W13 (Sta.wr W10 (Sta.wr W7 (Sta.wr W4 (Sta.ext E1 S_CHECKED_OUT)))))))))))))))) (g := (mkF m 107 #[.val (.int p1), .unset, .unset, .unset] [(.int (15 : Int32)), (.ref b1), (.ref b1)])) rfl (hb hby at_107)
  obtain ⟨cl48, Ar48, q48, S48, M48, H48, G48⟩ := V46
  have hin48 : ¬ ((15 : Int32) < 0 ∨ cl48.slots.size ≤ ((15 : Int32)).toNatClampNeg) := inb_of S48 ⟨by decide, by decide⟩
  obtain ⟨T49, h49, X49, e49, W49, st49⟩ := stR X47 hx hZ e47 Ar48 (j := (15 : Int32)) hin48 rfl (Sto.ofV Ar48 q48 O1 (Ins.self (Exa.wr W46 (Exa.wr W43 (Exa.wr W40 (Exa.wr W37 (Exa.wr W34 (Exa.wr W31 (Exa.wr W28 (Exa.wr W25 (Exa.wr W22 (Exa.wr W19 (Exa.wr W16 (Exa.wr W13 (Exa.wr W10 (Exa.wr W7 (Exa.wr W4 (Exa.ext E1 E_CHECKED_OUT)))))))))))))))))) (g := (mkF m 110 #[.val (.int p1), .unset, .unset, .unset] [(.ref w_CHECKED_OUT), (.int (15 : Int32)), (.ref b1), (.ref b1)])) rfl rfl (hb hby at_110)
  have N49 := Fr.snoc X49 N46 g_b1
  have V49 : Arv Z h49 b1 k1 (.object "com/example/muniment_room/munimentroom/content/StandardField") (17 : Int32) [(.ref w_REVISION_ID), (.ref w_CONTENT_ID), (.ref w_TITLE), (.ref w_TYPE), (.ref w_AUTHOR), (.ref w_SECURITY_GROUP), (.ref w_ACCOUNT), (.ref w_REVISION_NUMBER), (.ref w_REVISION_LABEL), (.ref w_RELEASE_DATE), (.ref w_STATUS), (.ref w_ORIGINAL_NAME), (.ref w_EXTENSION), (.ref w_FORMAT), (.ref w_CREATE_DATE), (.ref w_CHECKED_OUT), .null] .null := Arv.set Ar48 q48 S48 M48 H48 G48 rfl W49 15 rfl (Nat.le_of_ble_eq_true rfl)
  obtain ⟨T50, X50, e50, st50⟩ := getS2 X49 hx hZ hown (host := "") (Or.inl (hw _ (List.mem_of_getElem? (i := 36) rfl))) Via.refl e49 (Sta.wr W49 (Sta.wr W46 (Sta.wr W43 (Sta.wr W40 (Sta.wr W37 (Sta.wr W34 (Sta.wr W31 (Sta.wr W28 (Sta.wr W25 (Sta.wr W22 (Sta.wr W19 (Sta.wr W16 (Sta.wr W13 (Sta.wr W10 (Sta.wr W7 (Sta.wr W4 (Sta.ext E1 S_CHECKOUT_USER))))))))))))))))) (g := (mkF m 114 #[.val (.int p1), .unset, .unset, .unset] [(.int (16 : Int32)), (.ref b1), (.ref b1)])) rfl (hb hby at_114)
  obtain ⟨cl51, Ar51, q51, S51, M51, H51, G51⟩ := V49
  have hin51 : ¬ ((16 : Int32) < 0 ∨ cl51.slots.size ≤ ((16 : Int32)).toNatClampNeg) := inb_of S51 ⟨by decide, by decide⟩
  obtain ⟨T52, h52, X52, e52, W52, st52⟩ := stR X50 hx hZ e50 Ar51 (j := (16 : Int32)) hin51 rfl (Sto.ofV Ar51 q51 O1 (Ins.self (Exa.wr W49 (Exa.wr W46 (Exa.wr W43 (Exa.wr W40 (Exa.wr W37 (Exa.wr W34 (Exa.wr W31 (Exa.wr W28 (Exa.wr W25 (Exa.wr W22 (Exa.wr W19 (Exa.wr W16 (Exa.wr W13 (Exa.wr W10 (Exa.wr W7 (Exa.wr W4 (Exa.ext E1 E_CHECKOUT_USER))))))))))))))))))) (g := (mkF m 117 #[.val (.int p1), .unset, .unset, .unset] [(.ref w_CHECKOUT_USER), (.int (16 : Int32)), (.ref b1), (.ref b1)])) rfl rfl (hb hby at_117)
  have N52 := Fr.snoc X52 N49 g_b1
  have V52 : Arv Z h52 b1 k1 (.object "com/example/muniment_room/munimentroom/content/StandardField") (17 : Int32) [(.ref w_REVISION_ID), (.ref w_CONTENT_ID), (.ref w_TITLE), (.ref w_TYPE), (.ref w_AUTHOR), (.ref w_SECURITY_GROUP), (.ref w_ACCOUNT), (.ref w_REVISION_NUMBER), (.ref w_REVISION_LABEL), (.ref w_RELEASE_DATE), (.ref w_STATUS), (.ref w_ORIGINAL_NAME), (.ref w_EXTENSION), (.ref w_FORMAT), (.ref w_CREATE_DATE), (.ref w_CHECKED_OUT), (.ref w_CHECKOUT_USER)] .null := Arv.set Ar51 q51 S51 M51 H51 G51 rfl W52 16 rfl (Nat.le_of_ble_eq_true rfl)
  obtain ⟨k, hk⟩ : ∃ z : Int32, z = ((p1 &&& (2147483647 : Int32)) % (17 : Int32)) := ⟨_, rfl⟩
  have pre53 : ∀ tt, Steps p.tables e below (T52.setTop (mkF m 126 #[.val (.int p1), .val (.ref b1), .unset, .unset] [(.int k)])) tt → Steps p.tables e below (s₁.setTop (entryFrame m #[(.int p1)] maxLocals)) tt := by
    intro tt kt
    refine pre0 tt ?_
    show Steps p.tables e below (s₁.setTop (mkF m 0 #[.val (.int p1), .unset, .unset, .unset] [])) _
    refine XS.bipush X0.here hx rfl (hb hby at_0) ?_
    show Steps p.tables e below (s₁.setTop (mkF m 2 #[.val (.int p1), .unset, .unset, .unset] [(.int (17 : Int32))])) _
    refine st1 _ ?_
    show Steps p.tables e below (T1.setTop (mkF m 5 #[.val (.int p1), .unset, .unset, .unset] [(.ref b1)])) _
    refine XS.dup X1.here hx rfl (hb hby at_5) rfl rfl ?_
    show Steps p.tables e below (T1.setTop (mkF m 6 #[.val (.int p1), .unset, .unset, .unset] [(.ref b1), (.ref b1)])) _
    refine XS.iconst X1.here hx rfl (hb hby at_6) ?_
    show Steps p.tables e below (T1.setTop (mkF m 7 #[.val (.int p1), .unset, .unset, .unset] [(.int (0 : Int32)), (.ref b1), (.ref b1)])) _
    refine st2 _ ?_
    show Steps p.tables e below (T2.setTop (mkF m 10 #[.val (.int p1), .unset, .unset, .unset] [(.ref w_REVISION_ID), (.int (0 : Int32)), (.ref b1), (.ref b1)])) _
    refine st4 _ ?_
    show Steps p.tables e below (T4.setTop (mkF m 11 #[.val (.int p1), .unset, .unset, .unset] [(.ref b1)])) _
    refine XS.dup X4.here hx rfl (hb hby at_11) rfl rfl ?_
    show Steps p.tables e below (T4.setTop (mkF m 12 #[.val (.int p1), .unset, .unset, .unset] [(.ref b1), (.ref b1)])) _
    refine XS.iconst X4.here hx rfl (hb hby at_12) ?_
    show Steps p.tables e below (T4.setTop (mkF m 13 #[.val (.int p1), .unset, .unset, .unset] [(.int (1 : Int32)), (.ref b1), (.ref b1)])) _
    refine st5 _ ?_
    show Steps p.tables e below (T5.setTop (mkF m 16 #[.val (.int p1), .unset, .unset, .unset] [(.ref w_CONTENT_ID), (.int (1 : Int32)), (.ref b1), (.ref b1)])) _
    refine st7 _ ?_
    show Steps p.tables e below (T7.setTop (mkF m 17 #[.val (.int p1), .unset, .unset, .unset] [(.ref b1)])) _
    refine XS.dup X7.here hx rfl (hb hby at_17) rfl rfl ?_
    show Steps p.tables e below (T7.setTop (mkF m 18 #[.val (.int p1), .unset, .unset, .unset] [(.ref b1), (.ref b1)])) _
    refine XS.iconst X7.here hx rfl (hb hby at_18) ?_
    show Steps p.tables e below (T7.setTop (mkF m 19 #[.val (.int p1), .unset, .unset, .unset] [(.int (2 : Int32)), (.ref b1), (.ref b1)])) _
    refine st8 _ ?_
    show Steps p.tables e below (T8.setTop (mkF m 22 #[.val (.int p1), .unset, .unset, .unset] [(.ref w_TITLE), (.int (2 : Int32)), (.ref b1), (.ref b1)])) _
    refine st10 _ ?_
    show Steps p.tables e below (T10.setTop (mkF m 23 #[.val (.int p1), .unset, .unset, .unset] [(.ref b1)])) _
    refine XS.dup X10.here hx rfl (hb hby at_23) rfl rfl ?_
    show Steps p.tables e below (T10.setTop (mkF m 24 #[.val (.int p1), .unset, .unset, .unset] [(.ref b1), (.ref b1)])) _
    refine XS.iconst X10.here hx rfl (hb hby at_24) ?_
    show Steps p.tables e below (T10.setTop (mkF m 25 #[.val (.int p1), .unset, .unset, .unset] [(.int (3 : Int32)), (.ref b1), (.ref b1)])) _
    refine st11 _ ?_
    show Steps p.tables e below (T11.setTop (mkF m 28 #[.val (.int p1), .unset, .unset, .unset] [(.ref w_TYPE), (.int (3 : Int32)), (.ref b1), (.ref b1)])) _
    refine st13 _ ?_
    show Steps p.tables e below (T13.setTop (mkF m 29 #[.val (.int p1), .unset, .unset, .unset] [(.ref b1)])) _
    refine XS.dup X13.here hx rfl (hb hby at_29) rfl rfl ?_
    show Steps p.tables e below (T13.setTop (mkF m 30 #[.val (.int p1), .unset, .unset, .unset] [(.ref b1), (.ref b1)])) _
    refine XS.iconst X13.here hx rfl (hb hby at_30) ?_
    show Steps p.tables e below (T13.setTop (mkF m 31 #[.val (.int p1), .unset, .unset, .unset] [(.int (4 : Int32)), (.ref b1), (.ref b1)])) _
    refine st14 _ ?_
    show Steps p.tables e below (T14.setTop (mkF m 34 #[.val (.int p1), .unset, .unset, .unset] [(.ref w_AUTHOR), (.int (4 : Int32)), (.ref b1), (.ref b1)])) _
    refine st16 _ ?_
    show Steps p.tables e below (T16.setTop (mkF m 35 #[.val (.int p1), .unset, .unset, .unset] [(.ref b1)])) _
    refine XS.dup X16.here hx rfl (hb hby at_35) rfl rfl ?_
    show Steps p.tables e below (T16.setTop (mkF m 36 #[.val (.int p1), .unset, .unset, .unset] [(.ref b1), (.ref b1)])) _
    refine XS.iconst X16.here hx rfl (hb hby at_36) ?_
    show Steps p.tables e below (T16.setTop (mkF m 37 #[.val (.int p1), .unset, .unset, .unset] [(.int (5 : Int32)), (.ref b1), (.ref b1)])) _
    refine st17 _ ?_
    show Steps p.tables e below (T17.setTop (mkF m 40 #[.val (.int p1), .unset, .unset, .unset] [(.ref w_SECURITY_GROUP), (.int (5 : Int32)), (.ref b1), (.ref b1)])) _
    refine st19 _ ?_
    show Steps p.tables e below (T19.setTop (mkF m 41 #[.val (.int p1), .unset, .unset, .unset] [(.ref b1)])) _
    refine XS.dup X19.here hx rfl (hb hby at_41) rfl rfl ?_
    show Steps p.tables e below (T19.setTop (mkF m 42 #[.val (.int p1), .unset, .unset, .unset] [(.ref b1), (.ref b1)])) _
    refine XS.bipush X19.here hx rfl (hb hby at_42) ?_
    show Steps p.tables e below (T19.setTop (mkF m 44 #[.val (.int p1), .unset, .unset, .unset] [(.int (6 : Int32)), (.ref b1), (.ref b1)])) _
    refine st20 _ ?_
    show Steps p.tables e below (T20.setTop (mkF m 47 #[.val (.int p1), .unset, .unset, .unset] [(.ref w_ACCOUNT), (.int (6 : Int32)), (.ref b1), (.ref b1)])) _
    refine st22 _ ?_
    show Steps p.tables e below (T22.setTop (mkF m 48 #[.val (.int p1), .unset, .unset, .unset] [(.ref b1)])) _
    refine XS.dup X22.here hx rfl (hb hby at_48) rfl rfl ?_
    show Steps p.tables e below (T22.setTop (mkF m 49 #[.val (.int p1), .unset, .unset, .unset] [(.ref b1), (.ref b1)])) _
    refine XS.bipush X22.here hx rfl (hb hby at_49) ?_
    show Steps p.tables e below (T22.setTop (mkF m 51 #[.val (.int p1), .unset, .unset, .unset] [(.int (7 : Int32)), (.ref b1), (.ref b1)])) _
    refine st23 _ ?_
    show Steps p.tables e below (T23.setTop (mkF m 54 #[.val (.int p1), .unset, .unset, .unset] [(.ref w_REVISION_NUMBER), (.int (7 : Int32)), (.ref b1), (.ref b1)])) _
    refine st25 _ ?_
    show Steps p.tables e below (T25.setTop (mkF m 55 #[.val (.int p1), .unset, .unset, .unset] [(.ref b1)])) _
    refine XS.dup X25.here hx rfl (hb hby at_55) rfl rfl ?_
    show Steps p.tables e below (T25.setTop (mkF m 56 #[.val (.int p1), .unset, .unset, .unset] [(.ref b1), (.ref b1)])) _
    refine XS.bipush X25.here hx rfl (hb hby at_56) ?_
    show Steps p.tables e below (T25.setTop (mkF m 58 #[.val (.int p1), .unset, .unset, .unset] [(.int (8 : Int32)), (.ref b1), (.ref b1)])) _
    refine st26 _ ?_
    show Steps p.tables e below (T26.setTop (mkF m 61 #[.val (.int p1), .unset, .unset, .unset] [(.ref w_REVISION_LABEL), (.int (8 : Int32)), (.ref b1), (.ref b1)])) _
    refine st28 _ ?_
    show Steps p.tables e below (T28.setTop (mkF m 62 #[.val (.int p1), .unset, .unset, .unset] [(.ref b1)])) _
    refine XS.dup X28.here hx rfl (hb hby at_62) rfl rfl ?_
    show Steps p.tables e below (T28.setTop (mkF m 63 #[.val (.int p1), .unset, .unset, .unset] [(.ref b1), (.ref b1)])) _
    refine XS.bipush X28.here hx rfl (hb hby at_63) ?_
    show Steps p.tables e below (T28.setTop (mkF m 65 #[.val (.int p1), .unset, .unset, .unset] [(.int (9 : Int32)), (.ref b1), (.ref b1)])) _
    refine st29 _ ?_
    show Steps p.tables e below (T29.setTop (mkF m 68 #[.val (.int p1), .unset, .unset, .unset] [(.ref w_RELEASE_DATE), (.int (9 : Int32)), (.ref b1), (.ref b1)])) _
    refine st31 _ ?_
    show Steps p.tables e below (T31.setTop (mkF m 69 #[.val (.int p1), .unset, .unset, .unset] [(.ref b1)])) _
    refine XS.dup X31.here hx rfl (hb hby at_69) rfl rfl ?_
    show Steps p.tables e below (T31.setTop (mkF m 70 #[.val (.int p1), .unset, .unset, .unset] [(.ref b1), (.ref b1)])) _
    refine XS.bipush X31.here hx rfl (hb hby at_70) ?_
    show Steps p.tables e below (T31.setTop (mkF m 72 #[.val (.int p1), .unset, .unset, .unset] [(.int (10 : Int32)), (.ref b1), (.ref b1)])) _
    refine st32 _ ?_
    show Steps p.tables e below (T32.setTop (mkF m 75 #[.val (.int p1), .unset, .unset, .unset] [(.ref w_STATUS), (.int (10 : Int32)), (.ref b1), (.ref b1)])) _
    refine st34 _ ?_
    show Steps p.tables e below (T34.setTop (mkF m 76 #[.val (.int p1), .unset, .unset, .unset] [(.ref b1)])) _
    refine XS.dup X34.here hx rfl (hb hby at_76) rfl rfl ?_
    show Steps p.tables e below (T34.setTop (mkF m 77 #[.val (.int p1), .unset, .unset, .unset] [(.ref b1), (.ref b1)])) _
    refine XS.bipush X34.here hx rfl (hb hby at_77) ?_
    show Steps p.tables e below (T34.setTop (mkF m 79 #[.val (.int p1), .unset, .unset, .unset] [(.int (11 : Int32)), (.ref b1), (.ref b1)])) _
    refine st35 _ ?_
    show Steps p.tables e below (T35.setTop (mkF m 82 #[.val (.int p1), .unset, .unset, .unset] [(.ref w_ORIGINAL_NAME), (.int (11 : Int32)), (.ref b1), (.ref b1)])) _
    refine st37 _ ?_
    show Steps p.tables e below (T37.setTop (mkF m 83 #[.val (.int p1), .unset, .unset, .unset] [(.ref b1)])) _
    refine XS.dup X37.here hx rfl (hb hby at_83) rfl rfl ?_
    show Steps p.tables e below (T37.setTop (mkF m 84 #[.val (.int p1), .unset, .unset, .unset] [(.ref b1), (.ref b1)])) _
    refine XS.bipush X37.here hx rfl (hb hby at_84) ?_
    show Steps p.tables e below (T37.setTop (mkF m 86 #[.val (.int p1), .unset, .unset, .unset] [(.int (12 : Int32)), (.ref b1), (.ref b1)])) _
    refine st38 _ ?_
    show Steps p.tables e below (T38.setTop (mkF m 89 #[.val (.int p1), .unset, .unset, .unset] [(.ref w_EXTENSION), (.int (12 : Int32)), (.ref b1), (.ref b1)])) _
    refine st40 _ ?_
    show Steps p.tables e below (T40.setTop (mkF m 90 #[.val (.int p1), .unset, .unset, .unset] [(.ref b1)])) _
    refine XS.dup X40.here hx rfl (hb hby at_90) rfl rfl ?_
    show Steps p.tables e below (T40.setTop (mkF m 91 #[.val (.int p1), .unset, .unset, .unset] [(.ref b1), (.ref b1)])) _
    refine XS.bipush X40.here hx rfl (hb hby at_91) ?_
    show Steps p.tables e below (T40.setTop (mkF m 93 #[.val (.int p1), .unset, .unset, .unset] [(.int (13 : Int32)), (.ref b1), (.ref b1)])) _
    refine st41 _ ?_
    show Steps p.tables e below (T41.setTop (mkF m 96 #[.val (.int p1), .unset, .unset, .unset] [(.ref w_FORMAT), (.int (13 : Int32)), (.ref b1), (.ref b1)])) _
    refine st43 _ ?_
    show Steps p.tables e below (T43.setTop (mkF m 97 #[.val (.int p1), .unset, .unset, .unset] [(.ref b1)])) _
    refine XS.dup X43.here hx rfl (hb hby at_97) rfl rfl ?_
    show Steps p.tables e below (T43.setTop (mkF m 98 #[.val (.int p1), .unset, .unset, .unset] [(.ref b1), (.ref b1)])) _
    refine XS.bipush X43.here hx rfl (hb hby at_98) ?_
    show Steps p.tables e below (T43.setTop (mkF m 100 #[.val (.int p1), .unset, .unset, .unset] [(.int (14 : Int32)), (.ref b1), (.ref b1)])) _
    refine st44 _ ?_
    show Steps p.tables e below (T44.setTop (mkF m 103 #[.val (.int p1), .unset, .unset, .unset] [(.ref w_CREATE_DATE), (.int (14 : Int32)), (.ref b1), (.ref b1)])) _
    refine st46 _ ?_
    show Steps p.tables e below (T46.setTop (mkF m 104 #[.val (.int p1), .unset, .unset, .unset] [(.ref b1)])) _
    refine XS.dup X46.here hx rfl (hb hby at_104) rfl rfl ?_
    show Steps p.tables e below (T46.setTop (mkF m 105 #[.val (.int p1), .unset, .unset, .unset] [(.ref b1), (.ref b1)])) _
    refine XS.bipush X46.here hx rfl (hb hby at_105) ?_
    show Steps p.tables e below (T46.setTop (mkF m 107 #[.val (.int p1), .unset, .unset, .unset] [(.int (15 : Int32)), (.ref b1), (.ref b1)])) _
    refine st47 _ ?_
    show Steps p.tables e below (T47.setTop (mkF m 110 #[.val (.int p1), .unset, .unset, .unset] [(.ref w_CHECKED_OUT), (.int (15 : Int32)), (.ref b1), (.ref b1)])) _
    refine st49 _ ?_
    show Steps p.tables e below (T49.setTop (mkF m 111 #[.val (.int p1), .unset, .unset, .unset] [(.ref b1)])) _
    refine XS.dup X49.here hx rfl (hb hby at_111) rfl rfl ?_
    show Steps p.tables e below (T49.setTop (mkF m 112 #[.val (.int p1), .unset, .unset, .unset] [(.ref b1), (.ref b1)])) _
    refine XS.bipush X49.here hx rfl (hb hby at_112) ?_
    show Steps p.tables e below (T49.setTop (mkF m 114 #[.val (.int p1), .unset, .unset, .unset] [(.int (16 : Int32)), (.ref b1), (.ref b1)])) _
    refine st50 _ ?_
    show Steps p.tables e below (T50.setTop (mkF m 117 #[.val (.int p1), .unset, .unset, .unset] [(.ref w_CHECKOUT_USER), (.int (16 : Int32)), (.ref b1), (.ref b1)])) _
    refine st52 _ ?_
    show Steps p.tables e below (T52.setTop (mkF m 118 #[.val (.int p1), .unset, .unset, .unset] [(.ref b1)])) _
    refine XS.astoreN X52.here hx rfl (hb hby at_118) rfl rfl (l' := #[.val (.int p1), .val (.ref b1), .unset, .unset]) rfl ?_
    show Steps p.tables e below (T52.setTop (mkF m 119 #[.val (.int p1), .val (.ref b1), .unset, .unset] [])) _
    refine XS.iloadN X52.here hx rfl (hb hby at_119) rfl ?_
    show Steps p.tables e below (T52.setTop (mkF m 120 #[.val (.int p1), .val (.ref b1), .unset, .unset] [(.int p1)])) _
    refine X52.ldcInt hx hown (mvT hZ (hw _ (List.mem_of_getElem? (i := 38) rfl))) (g := (mkF m 120 #[.val (.int p1), .val (.ref b1), .unset, .unset] [(.int p1)])) rfl (hb hby at_120) _ ?_
    show Steps p.tables e below (T52.setTop (mkF m 122 #[.val (.int p1), .val (.ref b1), .unset, .unset] [(.int (2147483647 : Int32)), (.int p1)])) _
    refine XS.iand X52.here hx rfl (hb hby at_122) rfl ?_
    show Steps p.tables e below (T52.setTop (mkF m 123 #[.val (.int p1), .val (.ref b1), .unset, .unset] [(.int (p1 &&& (2147483647 : Int32)))])) _
    refine XS.bipush X52.here hx rfl (hb hby at_123) ?_
    show Steps p.tables e below (T52.setTop (mkF m 125 #[.val (.int p1), .val (.ref b1), .unset, .unset] [(.int (17 : Int32)), (.int (p1 &&& (2147483647 : Int32)))])) _
    refine iremM (g := (mkF m 125 #[.val (.int p1), .val (.ref b1), .unset, .unset] [(.int (17 : Int32)), (.int (p1 &&& (2147483647 : Int32)))])) X52 hx rfl (hb hby at_125) rfl (by decide : ¬ ((17 : Int32) = (0 : Int32))) ?_
    show Steps p.tables e below (T52.setTop (mkF m 126 #[.val (.int p1), .val (.ref b1), .unset, .unset] [(.int ((p1 &&& (2147483647 : Int32)) % (17 : Int32)))])) _
    rw [← hk]
    exact kt
  have hsz : n0 ≤ h52.size := (Nat.le_trans (Nat.le_trans (Nat.le_trans (Nat.le_trans (Nat.le_trans (Nat.le_trans (Nat.le_trans (Nat.le_trans (Nat.le_trans (Nat.le_trans (Nat.le_trans (Nat.le_trans (Nat.le_trans (Nat.le_trans (Nat.le_trans (Nat.le_trans (Nat.le_trans (Nat.le_trans Z0 E1.1) (Keep.of_wr W4).1) (Keep.of_wr W7).1) (Keep.of_wr W10).1) (Keep.of_wr W13).1) (Keep.of_wr W16).1) (Keep.of_wr W19).1) (Keep.of_wr W22).1) (Keep.of_wr W25).1) (Keep.of_wr W28).1) (Keep.of_wr W31).1) (Keep.of_wr W34).1) (Keep.of_wr W37).1) (Keep.of_wr W40).1) (Keep.of_wr W43).1) (Keep.of_wr W46).1) (Keep.of_wr W49).1) (Keep.of_wr W52).1)
  have hS1 := (Sta.wr W52 (Sta.wr W49 (Sta.wr W46 (Sta.wr W43 (Sta.wr W40 (Sta.wr W37 (Sta.wr W34 (Sta.wr W31 (Sta.wr W28 (Sta.wr W25 (Sta.wr W22 (Sta.wr W19 (Sta.wr W16 (Sta.wr W13 (Sta.wr W10 (Sta.wr W7 (Sta.wr W4 (Sta.ext E1 S_RELEASE_DATE))))))))))))))))))
  have hS2 := (Sta.wr W52 (Sta.wr W49 (Sta.wr W46 (Sta.wr W43 (Sta.wr W40 (Sta.wr W37 (Sta.wr W34 (Sta.wr W31 (Sta.wr W28 (Sta.wr W25 (Sta.wr W22 (Sta.wr W19 (Sta.wr W16 (Sta.wr W13 (Sta.wr W10 (Sta.wr W7 (Sta.wr W4 (Sta.ext E1 S_CREATE_DATE))))))))))))))))))
  have EE_REVISION_ID := (Exa.wr W52 (Exa.wr W49 (Exa.wr W46 (Exa.wr W43 (Exa.wr W40 (Exa.wr W37 (Exa.wr W34 (Exa.wr W31 (Exa.wr W28 (Exa.wr W25 (Exa.wr W22 (Exa.wr W19 (Exa.wr W16 (Exa.wr W13 (Exa.wr W10 (Exa.wr W7 (Exa.wr W4 (Exa.ext E1 E_REVISION_ID))))))))))))))))))
  have EE_CONTENT_ID := (Exa.wr W52 (Exa.wr W49 (Exa.wr W46 (Exa.wr W43 (Exa.wr W40 (Exa.wr W37 (Exa.wr W34 (Exa.wr W31 (Exa.wr W28 (Exa.wr W25 (Exa.wr W22 (Exa.wr W19 (Exa.wr W16 (Exa.wr W13 (Exa.wr W10 (Exa.wr W7 (Exa.wr W4 (Exa.ext E1 E_CONTENT_ID))))))))))))))))))
  have EE_TITLE := (Exa.wr W52 (Exa.wr W49 (Exa.wr W46 (Exa.wr W43 (Exa.wr W40 (Exa.wr W37 (Exa.wr W34 (Exa.wr W31 (Exa.wr W28 (Exa.wr W25 (Exa.wr W22 (Exa.wr W19 (Exa.wr W16 (Exa.wr W13 (Exa.wr W10 (Exa.wr W7 (Exa.wr W4 (Exa.ext E1 E_TITLE))))))))))))))))))
  have EE_TYPE := (Exa.wr W52 (Exa.wr W49 (Exa.wr W46 (Exa.wr W43 (Exa.wr W40 (Exa.wr W37 (Exa.wr W34 (Exa.wr W31 (Exa.wr W28 (Exa.wr W25 (Exa.wr W22 (Exa.wr W19 (Exa.wr W16 (Exa.wr W13 (Exa.wr W10 (Exa.wr W7 (Exa.wr W4 (Exa.ext E1 E_TYPE))))))))))))))))))
  have EE_AUTHOR := (Exa.wr W52 (Exa.wr W49 (Exa.wr W46 (Exa.wr W43 (Exa.wr W40 (Exa.wr W37 (Exa.wr W34 (Exa.wr W31 (Exa.wr W28 (Exa.wr W25 (Exa.wr W22 (Exa.wr W19 (Exa.wr W16 (Exa.wr W13 (Exa.wr W10 (Exa.wr W7 (Exa.wr W4 (Exa.ext E1 E_AUTHOR))))))))))))))))))
  have EE_SECURITY_GROUP := (Exa.wr W52 (Exa.wr W49 (Exa.wr W46 (Exa.wr W43 (Exa.wr W40 (Exa.wr W37 (Exa.wr W34 (Exa.wr W31 (Exa.wr W28 (Exa.wr W25 (Exa.wr W22 (Exa.wr W19 (Exa.wr W16 (Exa.wr W13 (Exa.wr W10 (Exa.wr W7 (Exa.wr W4 (Exa.ext E1 E_SECURITY_GROUP))))))))))))))))))
  have EE_ACCOUNT := (Exa.wr W52 (Exa.wr W49 (Exa.wr W46 (Exa.wr W43 (Exa.wr W40 (Exa.wr W37 (Exa.wr W34 (Exa.wr W31 (Exa.wr W28 (Exa.wr W25 (Exa.wr W22 (Exa.wr W19 (Exa.wr W16 (Exa.wr W13 (Exa.wr W10 (Exa.wr W7 (Exa.wr W4 (Exa.ext E1 E_ACCOUNT))))))))))))))))))
  have EE_REVISION_NUMBER := (Exa.wr W52 (Exa.wr W49 (Exa.wr W46 (Exa.wr W43 (Exa.wr W40 (Exa.wr W37 (Exa.wr W34 (Exa.wr W31 (Exa.wr W28 (Exa.wr W25 (Exa.wr W22 (Exa.wr W19 (Exa.wr W16 (Exa.wr W13 (Exa.wr W10 (Exa.wr W7 (Exa.wr W4 (Exa.ext E1 E_REVISION_NUMBER))))))))))))))))))
  have EE_REVISION_LABEL := (Exa.wr W52 (Exa.wr W49 (Exa.wr W46 (Exa.wr W43 (Exa.wr W40 (Exa.wr W37 (Exa.wr W34 (Exa.wr W31 (Exa.wr W28 (Exa.wr W25 (Exa.wr W22 (Exa.wr W19 (Exa.wr W16 (Exa.wr W13 (Exa.wr W10 (Exa.wr W7 (Exa.wr W4 (Exa.ext E1 E_REVISION_LABEL))))))))))))))))))
  have EE_RELEASE_DATE := (Exa.wr W52 (Exa.wr W49 (Exa.wr W46 (Exa.wr W43 (Exa.wr W40 (Exa.wr W37 (Exa.wr W34 (Exa.wr W31 (Exa.wr W28 (Exa.wr W25 (Exa.wr W22 (Exa.wr W19 (Exa.wr W16 (Exa.wr W13 (Exa.wr W10 (Exa.wr W7 (Exa.wr W4 (Exa.ext E1 E_RELEASE_DATE))))))))))))))))))
  have EE_STATUS := (Exa.wr W52 (Exa.wr W49 (Exa.wr W46 (Exa.wr W43 (Exa.wr W40 (Exa.wr W37 (Exa.wr W34 (Exa.wr W31 (Exa.wr W28 (Exa.wr W25 (Exa.wr W22 (Exa.wr W19 (Exa.wr W16 (Exa.wr W13 (Exa.wr W10 (Exa.wr W7 (Exa.wr W4 (Exa.ext E1 E_STATUS))))))))))))))))))
  have EE_ORIGINAL_NAME := (Exa.wr W52 (Exa.wr W49 (Exa.wr W46 (Exa.wr W43 (Exa.wr W40 (Exa.wr W37 (Exa.wr W34 (Exa.wr W31 (Exa.wr W28 (Exa.wr W25 (Exa.wr W22 (Exa.wr W19 (Exa.wr W16 (Exa.wr W13 (Exa.wr W10 (Exa.wr W7 (Exa.wr W4 (Exa.ext E1 E_ORIGINAL_NAME))))))))))))))))))
  have EE_EXTENSION := (Exa.wr W52 (Exa.wr W49 (Exa.wr W46 (Exa.wr W43 (Exa.wr W40 (Exa.wr W37 (Exa.wr W34 (Exa.wr W31 (Exa.wr W28 (Exa.wr W25 (Exa.wr W22 (Exa.wr W19 (Exa.wr W16 (Exa.wr W13 (Exa.wr W10 (Exa.wr W7 (Exa.wr W4 (Exa.ext E1 E_EXTENSION))))))))))))))))))
  have EE_FORMAT := (Exa.wr W52 (Exa.wr W49 (Exa.wr W46 (Exa.wr W43 (Exa.wr W40 (Exa.wr W37 (Exa.wr W34 (Exa.wr W31 (Exa.wr W28 (Exa.wr W25 (Exa.wr W22 (Exa.wr W19 (Exa.wr W16 (Exa.wr W13 (Exa.wr W10 (Exa.wr W7 (Exa.wr W4 (Exa.ext E1 E_FORMAT))))))))))))))))))
  have EE_CREATE_DATE := (Exa.wr W52 (Exa.wr W49 (Exa.wr W46 (Exa.wr W43 (Exa.wr W40 (Exa.wr W37 (Exa.wr W34 (Exa.wr W31 (Exa.wr W28 (Exa.wr W25 (Exa.wr W22 (Exa.wr W19 (Exa.wr W16 (Exa.wr W13 (Exa.wr W10 (Exa.wr W7 (Exa.wr W4 (Exa.ext E1 E_CREATE_DATE))))))))))))))))))
  have EE_CHECKED_OUT := (Exa.wr W52 (Exa.wr W49 (Exa.wr W46 (Exa.wr W43 (Exa.wr W40 (Exa.wr W37 (Exa.wr W34 (Exa.wr W31 (Exa.wr W28 (Exa.wr W25 (Exa.wr W22 (Exa.wr W19 (Exa.wr W16 (Exa.wr W13 (Exa.wr W10 (Exa.wr W7 (Exa.wr W4 (Exa.ext E1 E_CHECKED_OUT))))))))))))))))))
  have EE_CHECKOUT_USER := (Exa.wr W52 (Exa.wr W49 (Exa.wr W46 (Exa.wr W43 (Exa.wr W40 (Exa.wr W37 (Exa.wr W34 (Exa.wr W31 (Exa.wr W28 (Exa.wr W25 (Exa.wr W22 (Exa.wr W19 (Exa.wr W16 (Exa.wr W13 (Exa.wr W10 (Exa.wr W7 (Exa.wr W4 (Exa.ext E1 E_CHECKOUT_USER))))))))))))))))))
  have rk := own_of17 (own_rem p1 (17 : Int32) (by decide))
  rw [← hk] at rk
  clear hk
  rcases rk with rfl | rfl | rfl | rfl | rfl | rfl | rfl | rfl | rfl | rfl | rfl | rfl | rfl | rfl | rfl | rfl | rfl
  · obtain ⟨cl54, Ar54, q54, S54, M54, H54, G54⟩ := V52
    have hin54 : ¬ ((0 : Int32) < 0 ∨ cl54.slots.size ≤ ((0 : Int32)).toNatClampNeg) := inb_of S54 ⟨by decide, by decide⟩
    have hat54 : cl54.slots[((0 : Int32)).toNatClampNeg]? = some (.ref w_REVISION_ID) := H54.at hin54 rfl
    obtain ⟨cq55, kq55, q55a, q55b, q55c⟩ := isOf hZ e52 EE_REVISION_ID
    obtain ⟨_, _, ⟨T55, L55, k55, n55⟩, -, X55, ⟨Lc55, hQ55, l55, y55, z55⟩, st55⟩ := X52.virtualBack hx (y := (⟨"com/example/muniment_room/munimentroom/content/StandardField", "isDate", "()Z"⟩ : MethodName)) (z := (⟨"com/example/muniment_room/munimentroom/content/StandardField", "isDate", "()Z"⟩ : MethodName)) hown (mvT hZ (hw _ (List.mem_of_getElem? (i := 39) rfl))) (mvT hZ (hw _ (List.mem_of_getElem? (i := 40) rfl))) (notFace_of_selects (args := #[]) (mvT hZ (hw _ (List.mem_of_getElem? (i := 42) rfl)))) (mvT hZ (hw _ (List.mem_of_getElem? (i := 42) rfl))) (mvT hZ (hw _ (List.mem_of_getElem? (i := 41) rfl))) (by decide) (backOf (W := 0) (rm1 l Z a0 hw [] w_REVISION_ID w_RELEASE_DATE w_CREATE_DATE (0 : Int32) h52 n0 hsz hS1 hS2 (by simp [n1_REVISION_ID, n2_REVISION_ID])) hZ (hw _ (List.mem_of_getElem? (i := 43) rfl)) (hw _ (List.mem_of_getElem? (i := 3) rfl)) (by decide) (by decide)) q55a q55c (g := (mkF m 148 #[.val (.int p1), .val (.ref b1), .val (.int (0 : Int32)), .val (.int (0 : Int32))] [(.ref w_REVISION_ID)])) rfl (by rw [hml]; rfl) (Steps.refl _) (argsL := []) (rest := []) (lenOf pd_rm0_0 rfl) rfl (by show 2 * 0 + _ ≤ _; exact Nat.le_of_eq rfl) (hb hby at_148) (fun _ _ => ⟨rfl, e52, (by decide : 1 + 0 ≤ _), (by decide : 17 + 0 ≤ _)⟩)
    dsimp only [Pt.U, Pt.locs, Pt.cells, Pt.slots] at X55 l55 y55 z55 st55 hQ55
    subst l55 y55 z55
    obtain ⟨rfl, N55q, hE55⟩ := hQ55
    have N55 := Fr.app N52 N55q
    have pre56 : ∀ tt, Steps p.tables e below (T55.setTop (mkF m 160 #[.val (.int p1), .val (.ref b1), .val (.int (0 : Int32)), .val (.int (0 : Int32))] [(.int (1 : Int32))])) tt → Steps p.tables e below (s₁.setTop (entryFrame m #[(.int p1)] maxLocals)) tt := by
      intro tt kt
      refine pre53 tt ?_
      show Steps p.tables e below (T52.setTop (mkF m 126 #[.val (.int p1), .val (.ref b1), .unset, .unset] [(.int (0 : Int32))])) _
      refine XS.istoreN X52.here hx rfl (hb hby at_126) rfl (l' := #[.val (.int p1), .val (.ref b1), .val (.int (0 : Int32)), .unset]) rfl ?_
      show Steps p.tables e below (T52.setTop (mkF m 127 #[.val (.int p1), .val (.ref b1), .val (.int (0 : Int32)), .unset] [])) _
      refine XS.iloadN X52.here hx rfl (hb hby at_127) rfl ?_
      show Steps p.tables e below (T52.setTop (mkF m 128 #[.val (.int p1), .val (.ref b1), .val (.int (0 : Int32)), .unset] [(.int (0 : Int32))])) _
      refine XS.bipush X52.here hx rfl (hb hby at_128) ?_
      show Steps p.tables e below (T52.setTop (mkF m 130 #[.val (.int p1), .val (.ref b1), .val (.int (0 : Int32)), .unset] [(.int (9 : Int32)), (.int (0 : Int32))])) _
      refine XS.icmpNo X52.here hx rfl (hb hby at_130) rfl (feq (by decide : ¬ ((0 : Int32) = (9 : Int32)))).1 ?_
      show Steps p.tables e below (T52.setTop (mkF m 133 #[.val (.int p1), .val (.ref b1), .val (.int (0 : Int32)), .unset] [])) _
      refine XS.iloadN X52.here hx rfl (hb hby at_133) rfl ?_
      show Steps p.tables e below (T52.setTop (mkF m 134 #[.val (.int p1), .val (.ref b1), .val (.int (0 : Int32)), .unset] [(.int (0 : Int32))])) _
      refine XS.bipush X52.here hx rfl (hb hby at_134) ?_
      show Steps p.tables e below (T52.setTop (mkF m 136 #[.val (.int p1), .val (.ref b1), .val (.int (0 : Int32)), .unset] [(.int (14 : Int32)), (.int (0 : Int32))])) _
      refine XS.icmpYes X52.here hx rfl (pc0 := 136) (pc' := 143) rfl (hb hby at_136) rfl (feq (by decide : ¬ ((0 : Int32) = (14 : Int32)))).2 (by decide) (by decide) ?_
      show Steps p.tables e below (T52.setTop (mkF m 143 #[.val (.int p1), .val (.ref b1), .val (.int (0 : Int32)), .unset] [])) _
      refine XS.iconst X52.here hx rfl (hb hby at_143) ?_
      show Steps p.tables e below (T52.setTop (mkF m 144 #[.val (.int p1), .val (.ref b1), .val (.int (0 : Int32)), .unset] [(.int (0 : Int32))])) _
      refine XS.istoreN X52.here hx rfl (hb hby at_144) rfl (l' := #[.val (.int p1), .val (.ref b1), .val (.int (0 : Int32)), .val (.int (0 : Int32))]) rfl ?_
      show Steps p.tables e below (T52.setTop (mkF m 145 #[.val (.int p1), .val (.ref b1), .val (.int (0 : Int32)), .val (.int (0 : Int32))] [])) _
      refine XS.aloadN X52.here hx rfl (hb hby at_145) rfl rfl ?_
      show Steps p.tables e below (T52.setTop (mkF m 146 #[.val (.int p1), .val (.ref b1), .val (.int (0 : Int32)), .val (.int (0 : Int32))] [(.ref b1)])) _
      refine XS.iloadN X52.here hx rfl (hb hby at_146) rfl ?_
      show Steps p.tables e below (T52.setTop (mkF m 147 #[.val (.int p1), .val (.ref b1), .val (.int (0 : Int32)), .val (.int (0 : Int32))] [(.int (0 : Int32)), (.ref b1)])) _
      refine X52.aaload hx (j := (0 : Int32)) (v := (.ref w_REVISION_ID)) (by rw [e52]; exact Ar54.1) (State.isArrayOf_alike hZ.alike Ar54.2.1) rfl Ar54.2.2 hin54 hat54 (g := (mkF m 147 #[.val (.int p1), .val (.ref b1), .val (.int (0 : Int32)), .val (.int (0 : Int32))] [(.int (0 : Int32)), (.ref b1)])) rfl rfl (hb hby at_147) _ ?_
      show Steps p.tables e below (T52.setTop (mkF m 148 #[.val (.int p1), .val (.ref b1), .val (.int (0 : Int32)), .val (.int (0 : Int32))] [(.ref w_REVISION_ID)])) _
      refine st55.trans ?_
      show Steps p.tables e below (T55.setTop (mkF m 151 #[.val (.int p1), .val (.ref b1), .val (.int (0 : Int32)), .val (.int (0 : Int32))] [(.int (0 : Int32))])) _
      refine XS.iloadN X55.here hx rfl (hb hby at_151) rfl ?_
      show Steps p.tables e below (T55.setTop (mkF m 152 #[.val (.int p1), .val (.ref b1), .val (.int (0 : Int32)), .val (.int (0 : Int32))] [(.int (0 : Int32)), (.int (0 : Int32))])) _
      refine XS.icmpNo X55.here hx rfl (hb hby at_152) rfl (teq (rfl : (0 : Int32) = (0 : Int32))).2 ?_
      show Steps p.tables e below (T55.setTop (mkF m 155 #[.val (.int p1), .val (.ref b1), .val (.int (0 : Int32)), .val (.int (0 : Int32))] [])) _
      refine XS.iconst X55.here hx rfl (hb hby at_155) ?_
      show Steps p.tables e below (T55.setTop (mkF m 156 #[.val (.int p1), .val (.ref b1), .val (.int (0 : Int32)), .val (.int (0 : Int32))] [(.int (1 : Int32))])) _
      refine XS.goto X55.here hx rfl (pc0 := 156) (pc' := 160) rfl (hb hby at_156) (by decide) (by decide) ?_
      exact kt
    obtain ⟨fs, hr, hrun, hended, hW, hsame⟩ := X55.leave (v := some (.int (1 : Int32))) (fun h => by rw [Bd.returns] at h; cases h)
    refine ⟨_, _, pre56 _ ?_, hrun, hended, _, _, rfl, ?_, ⟨_, rfl⟩, hW, hsame.mono (by decide) (by decide)⟩
    · show Steps p.tables e below (T55.setTop (mkF m 160 #[.val (.int p1), .val (.ref b1), .val (.int (0 : Int32)), .val (.int (0 : Int32))] [(.int (1 : Int32))])) _
      exact retN X55 hx (t := .boolean) Bd.returns (by simp) (hb hby at_160) hr
    · show Q0 Z h0 n0 _ T55.heap _
      rw [hE55]
      exact ⟨rfl, N55⟩
  · obtain ⟨cl57, Ar57, q57, S57, M57, H57, G57⟩ := V52
    have hin57 : ¬ ((1 : Int32) < 0 ∨ cl57.slots.size ≤ ((1 : Int32)).toNatClampNeg) := inb_of S57 ⟨by decide, by decide⟩
    have hat57 : cl57.slots[((1 : Int32)).toNatClampNeg]? = some (.ref w_CONTENT_ID) := H57.at hin57 rfl
    obtain ⟨cq58, kq58, q58a, q58b, q58c⟩ := isOf hZ e52 EE_CONTENT_ID
    obtain ⟨_, _, ⟨T58, L58, k58, n58⟩, -, X58, ⟨Lc58, hQ58, l58, y58, z58⟩, st58⟩ := X52.virtualBack hx (y := (⟨"com/example/muniment_room/munimentroom/content/StandardField", "isDate", "()Z"⟩ : MethodName)) (z := (⟨"com/example/muniment_room/munimentroom/content/StandardField", "isDate", "()Z"⟩ : MethodName)) hown (mvT hZ (hw _ (List.mem_of_getElem? (i := 39) rfl))) (mvT hZ (hw _ (List.mem_of_getElem? (i := 40) rfl))) (notFace_of_selects (args := #[]) (mvT hZ (hw _ (List.mem_of_getElem? (i := 42) rfl)))) (mvT hZ (hw _ (List.mem_of_getElem? (i := 42) rfl))) (mvT hZ (hw _ (List.mem_of_getElem? (i := 41) rfl))) (by decide) (backOf (W := 0) (rm1 l Z a0 hw [] w_CONTENT_ID w_RELEASE_DATE w_CREATE_DATE (0 : Int32) h52 n0 hsz hS1 hS2 (by simp [n1_CONTENT_ID, n2_CONTENT_ID])) hZ (hw _ (List.mem_of_getElem? (i := 43) rfl)) (hw _ (List.mem_of_getElem? (i := 3) rfl)) (by decide) (by decide)) q58a q58c (g := (mkF m 148 #[.val (.int p1), .val (.ref b1), .val (.int (1 : Int32)), .val (.int (0 : Int32))] [(.ref w_CONTENT_ID)])) rfl (by rw [hml]; rfl) (Steps.refl _) (argsL := []) (rest := []) (lenOf pd_rm0_0 rfl) rfl (by show 2 * 0 + _ ≤ _; exact Nat.le_of_eq rfl) (hb hby at_148) (fun _ _ => ⟨rfl, e52, (by decide : 1 + 0 ≤ _), (by decide : 17 + 0 ≤ _)⟩)
    dsimp only [Pt.U, Pt.locs, Pt.cells, Pt.slots] at X58 l58 y58 z58 st58 hQ58
    subst l58 y58 z58
    obtain ⟨rfl, N58q, hE58⟩ := hQ58
    have N58 := Fr.app N52 N58q
    have pre59 : ∀ tt, Steps p.tables e below (T58.setTop (mkF m 160 #[.val (.int p1), .val (.ref b1), .val (.int (1 : Int32)), .val (.int (0 : Int32))] [(.int (1 : Int32))])) tt → Steps p.tables e below (s₁.setTop (entryFrame m #[(.int p1)] maxLocals)) tt := by
      intro tt kt
      refine pre53 tt ?_
      show Steps p.tables e below (T52.setTop (mkF m 126 #[.val (.int p1), .val (.ref b1), .unset, .unset] [(.int (1 : Int32))])) _
      refine XS.istoreN X52.here hx rfl (hb hby at_126) rfl (l' := #[.val (.int p1), .val (.ref b1), .val (.int (1 : Int32)), .unset]) rfl ?_
      show Steps p.tables e below (T52.setTop (mkF m 127 #[.val (.int p1), .val (.ref b1), .val (.int (1 : Int32)), .unset] [])) _
      refine XS.iloadN X52.here hx rfl (hb hby at_127) rfl ?_
      show Steps p.tables e below (T52.setTop (mkF m 128 #[.val (.int p1), .val (.ref b1), .val (.int (1 : Int32)), .unset] [(.int (1 : Int32))])) _
      refine XS.bipush X52.here hx rfl (hb hby at_128) ?_
      show Steps p.tables e below (T52.setTop (mkF m 130 #[.val (.int p1), .val (.ref b1), .val (.int (1 : Int32)), .unset] [(.int (9 : Int32)), (.int (1 : Int32))])) _
      refine XS.icmpNo X52.here hx rfl (hb hby at_130) rfl (feq (by decide : ¬ ((1 : Int32) = (9 : Int32)))).1 ?_
      show Steps p.tables e below (T52.setTop (mkF m 133 #[.val (.int p1), .val (.ref b1), .val (.int (1 : Int32)), .unset] [])) _
      refine XS.iloadN X52.here hx rfl (hb hby at_133) rfl ?_
      show Steps p.tables e below (T52.setTop (mkF m 134 #[.val (.int p1), .val (.ref b1), .val (.int (1 : Int32)), .unset] [(.int (1 : Int32))])) _
      refine XS.bipush X52.here hx rfl (hb hby at_134) ?_
      show Steps p.tables e below (T52.setTop (mkF m 136 #[.val (.int p1), .val (.ref b1), .val (.int (1 : Int32)), .unset] [(.int (14 : Int32)), (.int (1 : Int32))])) _
      refine XS.icmpYes X52.here hx rfl (pc0 := 136) (pc' := 143) rfl (hb hby at_136) rfl (feq (by decide : ¬ ((1 : Int32) = (14 : Int32)))).2 (by decide) (by decide) ?_
      show Steps p.tables e below (T52.setTop (mkF m 143 #[.val (.int p1), .val (.ref b1), .val (.int (1 : Int32)), .unset] [])) _
      refine XS.iconst X52.here hx rfl (hb hby at_143) ?_
      show Steps p.tables e below (T52.setTop (mkF m 144 #[.val (.int p1), .val (.ref b1), .val (.int (1 : Int32)), .unset] [(.int (0 : Int32))])) _
      refine XS.istoreN X52.here hx rfl (hb hby at_144) rfl (l' := #[.val (.int p1), .val (.ref b1), .val (.int (1 : Int32)), .val (.int (0 : Int32))]) rfl ?_
      show Steps p.tables e below (T52.setTop (mkF m 145 #[.val (.int p1), .val (.ref b1), .val (.int (1 : Int32)), .val (.int (0 : Int32))] [])) _
      refine XS.aloadN X52.here hx rfl (hb hby at_145) rfl rfl ?_
      show Steps p.tables e below (T52.setTop (mkF m 146 #[.val (.int p1), .val (.ref b1), .val (.int (1 : Int32)), .val (.int (0 : Int32))] [(.ref b1)])) _
      refine XS.iloadN X52.here hx rfl (hb hby at_146) rfl ?_
      show Steps p.tables e below (T52.setTop (mkF m 147 #[.val (.int p1), .val (.ref b1), .val (.int (1 : Int32)), .val (.int (0 : Int32))] [(.int (1 : Int32)), (.ref b1)])) _
      refine X52.aaload hx (j := (1 : Int32)) (v := (.ref w_CONTENT_ID)) (by rw [e52]; exact Ar57.1) (State.isArrayOf_alike hZ.alike Ar57.2.1) rfl Ar57.2.2 hin57 hat57 (g := (mkF m 147 #[.val (.int p1), .val (.ref b1), .val (.int (1 : Int32)), .val (.int (0 : Int32))] [(.int (1 : Int32)), (.ref b1)])) rfl rfl (hb hby at_147) _ ?_
      show Steps p.tables e below (T52.setTop (mkF m 148 #[.val (.int p1), .val (.ref b1), .val (.int (1 : Int32)), .val (.int (0 : Int32))] [(.ref w_CONTENT_ID)])) _
      refine st58.trans ?_
      show Steps p.tables e below (T58.setTop (mkF m 151 #[.val (.int p1), .val (.ref b1), .val (.int (1 : Int32)), .val (.int (0 : Int32))] [(.int (0 : Int32))])) _
      refine XS.iloadN X58.here hx rfl (hb hby at_151) rfl ?_
      show Steps p.tables e below (T58.setTop (mkF m 152 #[.val (.int p1), .val (.ref b1), .val (.int (1 : Int32)), .val (.int (0 : Int32))] [(.int (0 : Int32)), (.int (0 : Int32))])) _
      refine XS.icmpNo X58.here hx rfl (hb hby at_152) rfl (teq (rfl : (0 : Int32) = (0 : Int32))).2 ?_
      show Steps p.tables e below (T58.setTop (mkF m 155 #[.val (.int p1), .val (.ref b1), .val (.int (1 : Int32)), .val (.int (0 : Int32))] [])) _
      refine XS.iconst X58.here hx rfl (hb hby at_155) ?_
      show Steps p.tables e below (T58.setTop (mkF m 156 #[.val (.int p1), .val (.ref b1), .val (.int (1 : Int32)), .val (.int (0 : Int32))] [(.int (1 : Int32))])) _
      refine XS.goto X58.here hx rfl (pc0 := 156) (pc' := 160) rfl (hb hby at_156) (by decide) (by decide) ?_
      exact kt
    obtain ⟨fs, hr, hrun, hended, hW, hsame⟩ := X58.leave (v := some (.int (1 : Int32))) (fun h => by rw [Bd.returns] at h; cases h)
    refine ⟨_, _, pre59 _ ?_, hrun, hended, _, _, rfl, ?_, ⟨_, rfl⟩, hW, hsame.mono (by decide) (by decide)⟩
    · show Steps p.tables e below (T58.setTop (mkF m 160 #[.val (.int p1), .val (.ref b1), .val (.int (1 : Int32)), .val (.int (0 : Int32))] [(.int (1 : Int32))])) _
      exact retN X58 hx (t := .boolean) Bd.returns (by simp) (hb hby at_160) hr
    · show Q0 Z h0 n0 _ T58.heap _
      rw [hE58]
      exact ⟨rfl, N58⟩
  · obtain ⟨cl60, Ar60, q60, S60, M60, H60, G60⟩ := V52
    have hin60 : ¬ ((2 : Int32) < 0 ∨ cl60.slots.size ≤ ((2 : Int32)).toNatClampNeg) := inb_of S60 ⟨by decide, by decide⟩
    have hat60 : cl60.slots[((2 : Int32)).toNatClampNeg]? = some (.ref w_TITLE) := H60.at hin60 rfl
    obtain ⟨cq61, kq61, q61a, q61b, q61c⟩ := isOf hZ e52 EE_TITLE
    obtain ⟨_, _, ⟨T61, L61, k61, n61⟩, -, X61, ⟨Lc61, hQ61, l61, y61, z61⟩, st61⟩ := X52.virtualBack hx (y := (⟨"com/example/muniment_room/munimentroom/content/StandardField", "isDate", "()Z"⟩ : MethodName)) (z := (⟨"com/example/muniment_room/munimentroom/content/StandardField", "isDate", "()Z"⟩ : MethodName)) hown (mvT hZ (hw _ (List.mem_of_getElem? (i := 39) rfl))) (mvT hZ (hw _ (List.mem_of_getElem? (i := 40) rfl))) (notFace_of_selects (args := #[]) (mvT hZ (hw _ (List.mem_of_getElem? (i := 42) rfl)))) (mvT hZ (hw _ (List.mem_of_getElem? (i := 42) rfl))) (mvT hZ (hw _ (List.mem_of_getElem? (i := 41) rfl))) (by decide) (backOf (W := 0) (rm1 l Z a0 hw [] w_TITLE w_RELEASE_DATE w_CREATE_DATE (0 : Int32) h52 n0 hsz hS1 hS2 (by simp [n1_TITLE, n2_TITLE])) hZ (hw _ (List.mem_of_getElem? (i := 43) rfl)) (hw _ (List.mem_of_getElem? (i := 3) rfl)) (by decide) (by decide)) q61a q61c (g := (mkF m 148 #[.val (.int p1), .val (.ref b1), .val (.int (2 : Int32)), .val (.int (0 : Int32))] [(.ref w_TITLE)])) rfl (by rw [hml]; rfl) (Steps.refl _) (argsL := []) (rest := []) (lenOf pd_rm0_0 rfl) rfl (by show 2 * 0 + _ ≤ _; exact Nat.le_of_eq rfl) (hb hby at_148) (fun _ _ => ⟨rfl, e52, (by decide : 1 + 0 ≤ _), (by decide : 17 + 0 ≤ _)⟩)
    dsimp only [Pt.U, Pt.locs, Pt.cells, Pt.slots] at X61 l61 y61 z61 st61 hQ61
    subst l61 y61 z61
    obtain ⟨rfl, N61q, hE61⟩ := hQ61
    have N61 := Fr.app N52 N61q
    have pre62 : ∀ tt, Steps p.tables e below (T61.setTop (mkF m 160 #[.val (.int p1), .val (.ref b1), .val (.int (2 : Int32)), .val (.int (0 : Int32))] [(.int (1 : Int32))])) tt → Steps p.tables e below (s₁.setTop (entryFrame m #[(.int p1)] maxLocals)) tt := by
      intro tt kt
      refine pre53 tt ?_
      show Steps p.tables e below (T52.setTop (mkF m 126 #[.val (.int p1), .val (.ref b1), .unset, .unset] [(.int (2 : Int32))])) _
      refine XS.istoreN X52.here hx rfl (hb hby at_126) rfl (l' := #[.val (.int p1), .val (.ref b1), .val (.int (2 : Int32)), .unset]) rfl ?_
      show Steps p.tables e below (T52.setTop (mkF m 127 #[.val (.int p1), .val (.ref b1), .val (.int (2 : Int32)), .unset] [])) _
      refine XS.iloadN X52.here hx rfl (hb hby at_127) rfl ?_
      show Steps p.tables e below (T52.setTop (mkF m 128 #[.val (.int p1), .val (.ref b1), .val (.int (2 : Int32)), .unset] [(.int (2 : Int32))])) _
      refine XS.bipush X52.here hx rfl (hb hby at_128) ?_
      show Steps p.tables e below (T52.setTop (mkF m 130 #[.val (.int p1), .val (.ref b1), .val (.int (2 : Int32)), .unset] [(.int (9 : Int32)), (.int (2 : Int32))])) _
      refine XS.icmpNo X52.here hx rfl (hb hby at_130) rfl (feq (by decide : ¬ ((2 : Int32) = (9 : Int32)))).1 ?_
      show Steps p.tables e below (T52.setTop (mkF m 133 #[.val (.int p1), .val (.ref b1), .val (.int (2 : Int32)), .unset] [])) _
      refine XS.iloadN X52.here hx rfl (hb hby at_133) rfl ?_
      show Steps p.tables e below (T52.setTop (mkF m 134 #[.val (.int p1), .val (.ref b1), .val (.int (2 : Int32)), .unset] [(.int (2 : Int32))])) _
      refine XS.bipush X52.here hx rfl (hb hby at_134) ?_
      show Steps p.tables e below (T52.setTop (mkF m 136 #[.val (.int p1), .val (.ref b1), .val (.int (2 : Int32)), .unset] [(.int (14 : Int32)), (.int (2 : Int32))])) _
      refine XS.icmpYes X52.here hx rfl (pc0 := 136) (pc' := 143) rfl (hb hby at_136) rfl (feq (by decide : ¬ ((2 : Int32) = (14 : Int32)))).2 (by decide) (by decide) ?_
      show Steps p.tables e below (T52.setTop (mkF m 143 #[.val (.int p1), .val (.ref b1), .val (.int (2 : Int32)), .unset] [])) _
      refine XS.iconst X52.here hx rfl (hb hby at_143) ?_
      show Steps p.tables e below (T52.setTop (mkF m 144 #[.val (.int p1), .val (.ref b1), .val (.int (2 : Int32)), .unset] [(.int (0 : Int32))])) _
      refine XS.istoreN X52.here hx rfl (hb hby at_144) rfl (l' := #[.val (.int p1), .val (.ref b1), .val (.int (2 : Int32)), .val (.int (0 : Int32))]) rfl ?_
      show Steps p.tables e below (T52.setTop (mkF m 145 #[.val (.int p1), .val (.ref b1), .val (.int (2 : Int32)), .val (.int (0 : Int32))] [])) _
      refine XS.aloadN X52.here hx rfl (hb hby at_145) rfl rfl ?_
      show Steps p.tables e below (T52.setTop (mkF m 146 #[.val (.int p1), .val (.ref b1), .val (.int (2 : Int32)), .val (.int (0 : Int32))] [(.ref b1)])) _
      refine XS.iloadN X52.here hx rfl (hb hby at_146) rfl ?_
      show Steps p.tables e below (T52.setTop (mkF m 147 #[.val (.int p1), .val (.ref b1), .val (.int (2 : Int32)), .val (.int (0 : Int32))] [(.int (2 : Int32)), (.ref b1)])) _
      refine X52.aaload hx (j := (2 : Int32)) (v := (.ref w_TITLE)) (by rw [e52]; exact Ar60.1) (State.isArrayOf_alike hZ.alike Ar60.2.1) rfl Ar60.2.2 hin60 hat60 (g := (mkF m 147 #[.val (.int p1), .val (.ref b1), .val (.int (2 : Int32)), .val (.int (0 : Int32))] [(.int (2 : Int32)), (.ref b1)])) rfl rfl (hb hby at_147) _ ?_
      show Steps p.tables e below (T52.setTop (mkF m 148 #[.val (.int p1), .val (.ref b1), .val (.int (2 : Int32)), .val (.int (0 : Int32))] [(.ref w_TITLE)])) _
      refine st61.trans ?_
      show Steps p.tables e below (T61.setTop (mkF m 151 #[.val (.int p1), .val (.ref b1), .val (.int (2 : Int32)), .val (.int (0 : Int32))] [(.int (0 : Int32))])) _
      refine XS.iloadN X61.here hx rfl (hb hby at_151) rfl ?_
      show Steps p.tables e below (T61.setTop (mkF m 152 #[.val (.int p1), .val (.ref b1), .val (.int (2 : Int32)), .val (.int (0 : Int32))] [(.int (0 : Int32)), (.int (0 : Int32))])) _
      refine XS.icmpNo X61.here hx rfl (hb hby at_152) rfl (teq (rfl : (0 : Int32) = (0 : Int32))).2 ?_
      show Steps p.tables e below (T61.setTop (mkF m 155 #[.val (.int p1), .val (.ref b1), .val (.int (2 : Int32)), .val (.int (0 : Int32))] [])) _
      refine XS.iconst X61.here hx rfl (hb hby at_155) ?_
      show Steps p.tables e below (T61.setTop (mkF m 156 #[.val (.int p1), .val (.ref b1), .val (.int (2 : Int32)), .val (.int (0 : Int32))] [(.int (1 : Int32))])) _
      refine XS.goto X61.here hx rfl (pc0 := 156) (pc' := 160) rfl (hb hby at_156) (by decide) (by decide) ?_
      exact kt
    obtain ⟨fs, hr, hrun, hended, hW, hsame⟩ := X61.leave (v := some (.int (1 : Int32))) (fun h => by rw [Bd.returns] at h; cases h)
    refine ⟨_, _, pre62 _ ?_, hrun, hended, _, _, rfl, ?_, ⟨_, rfl⟩, hW, hsame.mono (by decide) (by decide)⟩
    · show Steps p.tables e below (T61.setTop (mkF m 160 #[.val (.int p1), .val (.ref b1), .val (.int (2 : Int32)), .val (.int (0 : Int32))] [(.int (1 : Int32))])) _
      exact retN X61 hx (t := .boolean) Bd.returns (by simp) (hb hby at_160) hr
    · show Q0 Z h0 n0 _ T61.heap _
      rw [hE61]
      exact ⟨rfl, N61⟩
  · obtain ⟨cl63, Ar63, q63, S63, M63, H63, G63⟩ := V52
    have hin63 : ¬ ((3 : Int32) < 0 ∨ cl63.slots.size ≤ ((3 : Int32)).toNatClampNeg) := inb_of S63 ⟨by decide, by decide⟩
    have hat63 : cl63.slots[((3 : Int32)).toNatClampNeg]? = some (.ref w_TYPE) := H63.at hin63 rfl
    obtain ⟨cq64, kq64, q64a, q64b, q64c⟩ := isOf hZ e52 EE_TYPE
    obtain ⟨_, _, ⟨T64, L64, k64, n64⟩, -, X64, ⟨Lc64, hQ64, l64, y64, z64⟩, st64⟩ := X52.virtualBack hx (y := (⟨"com/example/muniment_room/munimentroom/content/StandardField", "isDate", "()Z"⟩ : MethodName)) (z := (⟨"com/example/muniment_room/munimentroom/content/StandardField", "isDate", "()Z"⟩ : MethodName)) hown (mvT hZ (hw _ (List.mem_of_getElem? (i := 39) rfl))) (mvT hZ (hw _ (List.mem_of_getElem? (i := 40) rfl))) (notFace_of_selects (args := #[]) (mvT hZ (hw _ (List.mem_of_getElem? (i := 42) rfl)))) (mvT hZ (hw _ (List.mem_of_getElem? (i := 42) rfl))) (mvT hZ (hw _ (List.mem_of_getElem? (i := 41) rfl))) (by decide) (backOf (W := 0) (rm1 l Z a0 hw [] w_TYPE w_RELEASE_DATE w_CREATE_DATE (0 : Int32) h52 n0 hsz hS1 hS2 (by simp [n1_TYPE, n2_TYPE])) hZ (hw _ (List.mem_of_getElem? (i := 43) rfl)) (hw _ (List.mem_of_getElem? (i := 3) rfl)) (by decide) (by decide)) q64a q64c (g := (mkF m 148 #[.val (.int p1), .val (.ref b1), .val (.int (3 : Int32)), .val (.int (0 : Int32))] [(.ref w_TYPE)])) rfl (by rw [hml]; rfl) (Steps.refl _) (argsL := []) (rest := []) (lenOf pd_rm0_0 rfl) rfl (by show 2 * 0 + _ ≤ _; exact Nat.le_of_eq rfl) (hb hby at_148) (fun _ _ => ⟨rfl, e52, (by decide : 1 + 0 ≤ _), (by decide : 17 + 0 ≤ _)⟩)
    dsimp only [Pt.U, Pt.locs, Pt.cells, Pt.slots] at X64 l64 y64 z64 st64 hQ64
    subst l64 y64 z64
    obtain ⟨rfl, N64q, hE64⟩ := hQ64
    have N64 := Fr.app N52 N64q
    have pre65 : ∀ tt, Steps p.tables e below (T64.setTop (mkF m 160 #[.val (.int p1), .val (.ref b1), .val (.int (3 : Int32)), .val (.int (0 : Int32))] [(.int (1 : Int32))])) tt → Steps p.tables e below (s₁.setTop (entryFrame m #[(.int p1)] maxLocals)) tt := by
      intro tt kt
      refine pre53 tt ?_
      show Steps p.tables e below (T52.setTop (mkF m 126 #[.val (.int p1), .val (.ref b1), .unset, .unset] [(.int (3 : Int32))])) _
      refine XS.istoreN X52.here hx rfl (hb hby at_126) rfl (l' := #[.val (.int p1), .val (.ref b1), .val (.int (3 : Int32)), .unset]) rfl ?_
      show Steps p.tables e below (T52.setTop (mkF m 127 #[.val (.int p1), .val (.ref b1), .val (.int (3 : Int32)), .unset] [])) _
      refine XS.iloadN X52.here hx rfl (hb hby at_127) rfl ?_
      show Steps p.tables e below (T52.setTop (mkF m 128 #[.val (.int p1), .val (.ref b1), .val (.int (3 : Int32)), .unset] [(.int (3 : Int32))])) _
      refine XS.bipush X52.here hx rfl (hb hby at_128) ?_
      show Steps p.tables e below (T52.setTop (mkF m 130 #[.val (.int p1), .val (.ref b1), .val (.int (3 : Int32)), .unset] [(.int (9 : Int32)), (.int (3 : Int32))])) _
      refine XS.icmpNo X52.here hx rfl (hb hby at_130) rfl (feq (by decide : ¬ ((3 : Int32) = (9 : Int32)))).1 ?_
      show Steps p.tables e below (T52.setTop (mkF m 133 #[.val (.int p1), .val (.ref b1), .val (.int (3 : Int32)), .unset] [])) _
      refine XS.iloadN X52.here hx rfl (hb hby at_133) rfl ?_
      show Steps p.tables e below (T52.setTop (mkF m 134 #[.val (.int p1), .val (.ref b1), .val (.int (3 : Int32)), .unset] [(.int (3 : Int32))])) _
      refine XS.bipush X52.here hx rfl (hb hby at_134) ?_
      show Steps p.tables e below (T52.setTop (mkF m 136 #[.val (.int p1), .val (.ref b1), .val (.int (3 : Int32)), .unset] [(.int (14 : Int32)), (.int (3 : Int32))])) _
      refine XS.icmpYes X52.here hx rfl (pc0 := 136) (pc' := 143) rfl (hb hby at_136) rfl (feq (by decide : ¬ ((3 : Int32) = (14 : Int32)))).2 (by decide) (by decide) ?_
      show Steps p.tables e below (T52.setTop (mkF m 143 #[.val (.int p1), .val (.ref b1), .val (.int (3 : Int32)), .unset] [])) _
      refine XS.iconst X52.here hx rfl (hb hby at_143) ?_
      show Steps p.tables e below (T52.setTop (mkF m 144 #[.val (.int p1), .val (.ref b1), .val (.int (3 : Int32)), .unset] [(.int (0 : Int32))])) _
      refine XS.istoreN X52.here hx rfl (hb hby at_144) rfl (l' := #[.val (.int p1), .val (.ref b1), .val (.int (3 : Int32)), .val (.int (0 : Int32))]) rfl ?_
      show Steps p.tables e below (T52.setTop (mkF m 145 #[.val (.int p1), .val (.ref b1), .val (.int (3 : Int32)), .val (.int (0 : Int32))] [])) _
      refine XS.aloadN X52.here hx rfl (hb hby at_145) rfl rfl ?_
      show Steps p.tables e below (T52.setTop (mkF m 146 #[.val (.int p1), .val (.ref b1), .val (.int (3 : Int32)), .val (.int (0 : Int32))] [(.ref b1)])) _
      refine XS.iloadN X52.here hx rfl (hb hby at_146) rfl ?_
      show Steps p.tables e below (T52.setTop (mkF m 147 #[.val (.int p1), .val (.ref b1), .val (.int (3 : Int32)), .val (.int (0 : Int32))] [(.int (3 : Int32)), (.ref b1)])) _
      refine X52.aaload hx (j := (3 : Int32)) (v := (.ref w_TYPE)) (by rw [e52]; exact Ar63.1) (State.isArrayOf_alike hZ.alike Ar63.2.1) rfl Ar63.2.2 hin63 hat63 (g := (mkF m 147 #[.val (.int p1), .val (.ref b1), .val (.int (3 : Int32)), .val (.int (0 : Int32))] [(.int (3 : Int32)), (.ref b1)])) rfl rfl (hb hby at_147) _ ?_
      show Steps p.tables e below (T52.setTop (mkF m 148 #[.val (.int p1), .val (.ref b1), .val (.int (3 : Int32)), .val (.int (0 : Int32))] [(.ref w_TYPE)])) _
      refine st64.trans ?_
      show Steps p.tables e below (T64.setTop (mkF m 151 #[.val (.int p1), .val (.ref b1), .val (.int (3 : Int32)), .val (.int (0 : Int32))] [(.int (0 : Int32))])) _
      refine XS.iloadN X64.here hx rfl (hb hby at_151) rfl ?_
      show Steps p.tables e below (T64.setTop (mkF m 152 #[.val (.int p1), .val (.ref b1), .val (.int (3 : Int32)), .val (.int (0 : Int32))] [(.int (0 : Int32)), (.int (0 : Int32))])) _
      refine XS.icmpNo X64.here hx rfl (hb hby at_152) rfl (teq (rfl : (0 : Int32) = (0 : Int32))).2 ?_
      show Steps p.tables e below (T64.setTop (mkF m 155 #[.val (.int p1), .val (.ref b1), .val (.int (3 : Int32)), .val (.int (0 : Int32))] [])) _
      refine XS.iconst X64.here hx rfl (hb hby at_155) ?_
      show Steps p.tables e below (T64.setTop (mkF m 156 #[.val (.int p1), .val (.ref b1), .val (.int (3 : Int32)), .val (.int (0 : Int32))] [(.int (1 : Int32))])) _
      refine XS.goto X64.here hx rfl (pc0 := 156) (pc' := 160) rfl (hb hby at_156) (by decide) (by decide) ?_
      exact kt
    obtain ⟨fs, hr, hrun, hended, hW, hsame⟩ := X64.leave (v := some (.int (1 : Int32))) (fun h => by rw [Bd.returns] at h; cases h)
    refine ⟨_, _, pre65 _ ?_, hrun, hended, _, _, rfl, ?_, ⟨_, rfl⟩, hW, hsame.mono (by decide) (by decide)⟩
    · show Steps p.tables e below (T64.setTop (mkF m 160 #[.val (.int p1), .val (.ref b1), .val (.int (3 : Int32)), .val (.int (0 : Int32))] [(.int (1 : Int32))])) _
      exact retN X64 hx (t := .boolean) Bd.returns (by simp) (hb hby at_160) hr
    · show Q0 Z h0 n0 _ T64.heap _
      rw [hE64]
      exact ⟨rfl, N64⟩
  · obtain ⟨cl66, Ar66, q66, S66, M66, H66, G66⟩ := V52
    have hin66 : ¬ ((4 : Int32) < 0 ∨ cl66.slots.size ≤ ((4 : Int32)).toNatClampNeg) := inb_of S66 ⟨by decide, by decide⟩
    have hat66 : cl66.slots[((4 : Int32)).toNatClampNeg]? = some (.ref w_AUTHOR) := H66.at hin66 rfl
    obtain ⟨cq67, kq67, q67a, q67b, q67c⟩ := isOf hZ e52 EE_AUTHOR
    obtain ⟨_, _, ⟨T67, L67, k67, n67⟩, -, X67, ⟨Lc67, hQ67, l67, y67, z67⟩, st67⟩ := X52.virtualBack hx (y := (⟨"com/example/muniment_room/munimentroom/content/StandardField", "isDate", "()Z"⟩ : MethodName)) (z := (⟨"com/example/muniment_room/munimentroom/content/StandardField", "isDate", "()Z"⟩ : MethodName)) hown (mvT hZ (hw _ (List.mem_of_getElem? (i := 39) rfl))) (mvT hZ (hw _ (List.mem_of_getElem? (i := 40) rfl))) (notFace_of_selects (args := #[]) (mvT hZ (hw _ (List.mem_of_getElem? (i := 42) rfl)))) (mvT hZ (hw _ (List.mem_of_getElem? (i := 42) rfl))) (mvT hZ (hw _ (List.mem_of_getElem? (i := 41) rfl))) (by decide) (backOf (W := 0) (rm1 l Z a0 hw [] w_AUTHOR w_RELEASE_DATE w_CREATE_DATE (0 : Int32) h52 n0 hsz hS1 hS2 (by simp [n1_AUTHOR, n2_AUTHOR])) hZ (hw _ (List.mem_of_getElem? (i := 43) rfl)) (hw _ (List.mem_of_getElem? (i := 3) rfl)) (by decide) (by decide)) q67a q67c (g := (mkF m 148 #[.val (.int p1), .val (.ref b1), .val (.int (4 : Int32)), .val (.int (0 : Int32))] [(.ref w_AUTHOR)])) rfl (by rw [hml]; rfl) (Steps.refl _) (argsL := []) (rest := []) (lenOf pd_rm0_0 rfl) rfl (by show 2 * 0 + _ ≤ _; exact Nat.le_of_eq rfl) (hb hby at_148) (fun _ _ => ⟨rfl, e52, (by decide : 1 + 0 ≤ _), (by decide : 17 + 0 ≤ _)⟩)
    dsimp only [Pt.U, Pt.locs, Pt.cells, Pt.slots] at X67 l67 y67 z67 st67 hQ67
    subst l67 y67 z67
    obtain ⟨rfl, N67q, hE67⟩ := hQ67
    have N67 := Fr.app N52 N67q
    have pre68 : ∀ tt, Steps p.tables e below (T67.setTop (mkF m 160 #[.val (.int p1), .val (.ref b1), .val (.int (4 : Int32)), .val (.int (0 : Int32))] [(.int (1 : Int32))])) tt → Steps p.tables e below (s₁.setTop (entryFrame m #[(.int p1)] maxLocals)) tt := by
      intro tt kt
      refine pre53 tt ?_
      show Steps p.tables e below (T52.setTop (mkF m 126 #[.val (.int p1), .val (.ref b1), .unset, .unset] [(.int (4 : Int32))])) _
      refine XS.istoreN X52.here hx rfl (hb hby at_126) rfl (l' := #[.val (.int p1), .val (.ref b1), .val (.int (4 : Int32)), .unset]) rfl ?_
      show Steps p.tables e below (T52.setTop (mkF m 127 #[.val (.int p1), .val (.ref b1), .val (.int (4 : Int32)), .unset] [])) _
      refine XS.iloadN X52.here hx rfl (hb hby at_127) rfl ?_
      show Steps p.tables e below (T52.setTop (mkF m 128 #[.val (.int p1), .val (.ref b1), .val (.int (4 : Int32)), .unset] [(.int (4 : Int32))])) _
      refine XS.bipush X52.here hx rfl (hb hby at_128) ?_
      show Steps p.tables e below (T52.setTop (mkF m 130 #[.val (.int p1), .val (.ref b1), .val (.int (4 : Int32)), .unset] [(.int (9 : Int32)), (.int (4 : Int32))])) _
      refine XS.icmpNo X52.here hx rfl (hb hby at_130) rfl (feq (by decide : ¬ ((4 : Int32) = (9 : Int32)))).1 ?_
      show Steps p.tables e below (T52.setTop (mkF m 133 #[.val (.int p1), .val (.ref b1), .val (.int (4 : Int32)), .unset] [])) _
      refine XS.iloadN X52.here hx rfl (hb hby at_133) rfl ?_
      show Steps p.tables e below (T52.setTop (mkF m 134 #[.val (.int p1), .val (.ref b1), .val (.int (4 : Int32)), .unset] [(.int (4 : Int32))])) _
      refine XS.bipush X52.here hx rfl (hb hby at_134) ?_
      show Steps p.tables e below (T52.setTop (mkF m 136 #[.val (.int p1), .val (.ref b1), .val (.int (4 : Int32)), .unset] [(.int (14 : Int32)), (.int (4 : Int32))])) _
      refine XS.icmpYes X52.here hx rfl (pc0 := 136) (pc' := 143) rfl (hb hby at_136) rfl (feq (by decide : ¬ ((4 : Int32) = (14 : Int32)))).2 (by decide) (by decide) ?_
      show Steps p.tables e below (T52.setTop (mkF m 143 #[.val (.int p1), .val (.ref b1), .val (.int (4 : Int32)), .unset] [])) _
      refine XS.iconst X52.here hx rfl (hb hby at_143) ?_
      show Steps p.tables e below (T52.setTop (mkF m 144 #[.val (.int p1), .val (.ref b1), .val (.int (4 : Int32)), .unset] [(.int (0 : Int32))])) _
      refine XS.istoreN X52.here hx rfl (hb hby at_144) rfl (l' := #[.val (.int p1), .val (.ref b1), .val (.int (4 : Int32)), .val (.int (0 : Int32))]) rfl ?_
      show Steps p.tables e below (T52.setTop (mkF m 145 #[.val (.int p1), .val (.ref b1), .val (.int (4 : Int32)), .val (.int (0 : Int32))] [])) _
      refine XS.aloadN X52.here hx rfl (hb hby at_145) rfl rfl ?_
      show Steps p.tables e below (T52.setTop (mkF m 146 #[.val (.int p1), .val (.ref b1), .val (.int (4 : Int32)), .val (.int (0 : Int32))] [(.ref b1)])) _
      refine XS.iloadN X52.here hx rfl (hb hby at_146) rfl ?_
      show Steps p.tables e below (T52.setTop (mkF m 147 #[.val (.int p1), .val (.ref b1), .val (.int (4 : Int32)), .val (.int (0 : Int32))] [(.int (4 : Int32)), (.ref b1)])) _
      refine X52.aaload hx (j := (4 : Int32)) (v := (.ref w_AUTHOR)) (by rw [e52]; exact Ar66.1) (State.isArrayOf_alike hZ.alike Ar66.2.1) rfl Ar66.2.2 hin66 hat66 (g := (mkF m 147 #[.val (.int p1), .val (.ref b1), .val (.int (4 : Int32)), .val (.int (0 : Int32))] [(.int (4 : Int32)), (.ref b1)])) rfl rfl (hb hby at_147) _ ?_
      show Steps p.tables e below (T52.setTop (mkF m 148 #[.val (.int p1), .val (.ref b1), .val (.int (4 : Int32)), .val (.int (0 : Int32))] [(.ref w_AUTHOR)])) _
      refine st67.trans ?_
      show Steps p.tables e below (T67.setTop (mkF m 151 #[.val (.int p1), .val (.ref b1), .val (.int (4 : Int32)), .val (.int (0 : Int32))] [(.int (0 : Int32))])) _
      refine XS.iloadN X67.here hx rfl (hb hby at_151) rfl ?_
      show Steps p.tables e below (T67.setTop (mkF m 152 #[.val (.int p1), .val (.ref b1), .val (.int (4 : Int32)), .val (.int (0 : Int32))] [(.int (0 : Int32)), (.int (0 : Int32))])) _
      refine XS.icmpNo X67.here hx rfl (hb hby at_152) rfl (teq (rfl : (0 : Int32) = (0 : Int32))).2 ?_
      show Steps p.tables e below (T67.setTop (mkF m 155 #[.val (.int p1), .val (.ref b1), .val (.int (4 : Int32)), .val (.int (0 : Int32))] [])) _
      refine XS.iconst X67.here hx rfl (hb hby at_155) ?_
      show Steps p.tables e below (T67.setTop (mkF m 156 #[.val (.int p1), .val (.ref b1), .val (.int (4 : Int32)), .val (.int (0 : Int32))] [(.int (1 : Int32))])) _
      refine XS.goto X67.here hx rfl (pc0 := 156) (pc' := 160) rfl (hb hby at_156) (by decide) (by decide) ?_
      exact kt
    obtain ⟨fs, hr, hrun, hended, hW, hsame⟩ := X67.leave (v := some (.int (1 : Int32))) (fun h => by rw [Bd.returns] at h; cases h)
    refine ⟨_, _, pre68 _ ?_, hrun, hended, _, _, rfl, ?_, ⟨_, rfl⟩, hW, hsame.mono (by decide) (by decide)⟩
    · show Steps p.tables e below (T67.setTop (mkF m 160 #[.val (.int p1), .val (.ref b1), .val (.int (4 : Int32)), .val (.int (0 : Int32))] [(.int (1 : Int32))])) _
      exact retN X67 hx (t := .boolean) Bd.returns (by simp) (hb hby at_160) hr
    · show Q0 Z h0 n0 _ T67.heap _
      rw [hE67]
      exact ⟨rfl, N67⟩
  · obtain ⟨cl69, Ar69, q69, S69, M69, H69, G69⟩ := V52
    have hin69 : ¬ ((5 : Int32) < 0 ∨ cl69.slots.size ≤ ((5 : Int32)).toNatClampNeg) := inb_of S69 ⟨by decide, by decide⟩
    have hat69 : cl69.slots[((5 : Int32)).toNatClampNeg]? = some (.ref w_SECURITY_GROUP) := H69.at hin69 rfl
    obtain ⟨cq70, kq70, q70a, q70b, q70c⟩ := isOf hZ e52 EE_SECURITY_GROUP
    obtain ⟨_, _, ⟨T70, L70, k70, n70⟩, -, X70, ⟨Lc70, hQ70, l70, y70, z70⟩, st70⟩ := X52.virtualBack hx (y := (⟨"com/example/muniment_room/munimentroom/content/StandardField", "isDate", "()Z"⟩ : MethodName)) (z := (⟨"com/example/muniment_room/munimentroom/content/StandardField", "isDate", "()Z"⟩ : MethodName)) hown (mvT hZ (hw _ (List.mem_of_getElem? (i := 39) rfl))) (mvT hZ (hw _ (List.mem_of_getElem? (i := 40) rfl))) (notFace_of_selects (args := #[]) (mvT hZ (hw _ (List.mem_of_getElem? (i := 42) rfl)))) (mvT hZ (hw _ (List.mem_of_getElem? (i := 42) rfl))) (mvT hZ (hw _ (List.mem_of_getElem? (i := 41) rfl))) (by decide) (backOf (W := 0) (rm1 l Z a0 hw [] w_SECURITY_GROUP w_RELEASE_DATE w_CREATE_DATE (0 : Int32) h52 n0 hsz hS1 hS2 (by simp [n1_SECURITY_GROUP, n2_SECURITY_GROUP])) hZ (hw _ (List.mem_of_getElem? (i := 43) rfl)) (hw _ (List.mem_of_getElem? (i := 3) rfl)) (by decide) (by decide)) q70a q70c (g := (mkF m 148 #[.val (.int p1), .val (.ref b1), .val (.int (5 : Int32)), .val (.int (0 : Int32))] [(.ref w_SECURITY_GROUP)])) rfl (by rw [hml]; rfl) (Steps.refl _) (argsL := []) (rest := []) (lenOf pd_rm0_0 rfl) rfl (by show 2 * 0 + _ ≤ _; exact Nat.le_of_eq rfl) (hb hby at_148) (fun _ _ => ⟨rfl, e52, (by decide : 1 + 0 ≤ _), (by decide : 17 + 0 ≤ _)⟩)
    dsimp only [Pt.U, Pt.locs, Pt.cells, Pt.slots] at X70 l70 y70 z70 st70 hQ70
    subst l70 y70 z70
    obtain ⟨rfl, N70q, hE70⟩ := hQ70
    have N70 := Fr.app N52 N70q
    have pre71 : ∀ tt, Steps p.tables e below (T70.setTop (mkF m 160 #[.val (.int p1), .val (.ref b1), .val (.int (5 : Int32)), .val (.int (0 : Int32))] [(.int (1 : Int32))])) tt → Steps p.tables e below (s₁.setTop (entryFrame m #[(.int p1)] maxLocals)) tt := by
      intro tt kt
      refine pre53 tt ?_
      show Steps p.tables e below (T52.setTop (mkF m 126 #[.val (.int p1), .val (.ref b1), .unset, .unset] [(.int (5 : Int32))])) _
      refine XS.istoreN X52.here hx rfl (hb hby at_126) rfl (l' := #[.val (.int p1), .val (.ref b1), .val (.int (5 : Int32)), .unset]) rfl ?_
      show Steps p.tables e below (T52.setTop (mkF m 127 #[.val (.int p1), .val (.ref b1), .val (.int (5 : Int32)), .unset] [])) _
      refine XS.iloadN X52.here hx rfl (hb hby at_127) rfl ?_
      show Steps p.tables e below (T52.setTop (mkF m 128 #[.val (.int p1), .val (.ref b1), .val (.int (5 : Int32)), .unset] [(.int (5 : Int32))])) _
      refine XS.bipush X52.here hx rfl (hb hby at_128) ?_
      show Steps p.tables e below (T52.setTop (mkF m 130 #[.val (.int p1), .val (.ref b1), .val (.int (5 : Int32)), .unset] [(.int (9 : Int32)), (.int (5 : Int32))])) _
      refine XS.icmpNo X52.here hx rfl (hb hby at_130) rfl (feq (by decide : ¬ ((5 : Int32) = (9 : Int32)))).1 ?_
      show Steps p.tables e below (T52.setTop (mkF m 133 #[.val (.int p1), .val (.ref b1), .val (.int (5 : Int32)), .unset] [])) _
      refine XS.iloadN X52.here hx rfl (hb hby at_133) rfl ?_
      show Steps p.tables e below (T52.setTop (mkF m 134 #[.val (.int p1), .val (.ref b1), .val (.int (5 : Int32)), .unset] [(.int (5 : Int32))])) _
      refine XS.bipush X52.here hx rfl (hb hby at_134) ?_
      show Steps p.tables e below (T52.setTop (mkF m 136 #[.val (.int p1), .val (.ref b1), .val (.int (5 : Int32)), .unset] [(.int (14 : Int32)), (.int (5 : Int32))])) _
      refine XS.icmpYes X52.here hx rfl (pc0 := 136) (pc' := 143) rfl (hb hby at_136) rfl (feq (by decide : ¬ ((5 : Int32) = (14 : Int32)))).2 (by decide) (by decide) ?_
      show Steps p.tables e below (T52.setTop (mkF m 143 #[.val (.int p1), .val (.ref b1), .val (.int (5 : Int32)), .unset] [])) _
      refine XS.iconst X52.here hx rfl (hb hby at_143) ?_
      show Steps p.tables e below (T52.setTop (mkF m 144 #[.val (.int p1), .val (.ref b1), .val (.int (5 : Int32)), .unset] [(.int (0 : Int32))])) _
      refine XS.istoreN X52.here hx rfl (hb hby at_144) rfl (l' := #[.val (.int p1), .val (.ref b1), .val (.int (5 : Int32)), .val (.int (0 : Int32))]) rfl ?_
      show Steps p.tables e below (T52.setTop (mkF m 145 #[.val (.int p1), .val (.ref b1), .val (.int (5 : Int32)), .val (.int (0 : Int32))] [])) _
      refine XS.aloadN X52.here hx rfl (hb hby at_145) rfl rfl ?_
      show Steps p.tables e below (T52.setTop (mkF m 146 #[.val (.int p1), .val (.ref b1), .val (.int (5 : Int32)), .val (.int (0 : Int32))] [(.ref b1)])) _
      refine XS.iloadN X52.here hx rfl (hb hby at_146) rfl ?_
      show Steps p.tables e below (T52.setTop (mkF m 147 #[.val (.int p1), .val (.ref b1), .val (.int (5 : Int32)), .val (.int (0 : Int32))] [(.int (5 : Int32)), (.ref b1)])) _
      refine X52.aaload hx (j := (5 : Int32)) (v := (.ref w_SECURITY_GROUP)) (by rw [e52]; exact Ar69.1) (State.isArrayOf_alike hZ.alike Ar69.2.1) rfl Ar69.2.2 hin69 hat69 (g := (mkF m 147 #[.val (.int p1), .val (.ref b1), .val (.int (5 : Int32)), .val (.int (0 : Int32))] [(.int (5 : Int32)), (.ref b1)])) rfl rfl (hb hby at_147) _ ?_
      show Steps p.tables e below (T52.setTop (mkF m 148 #[.val (.int p1), .val (.ref b1), .val (.int (5 : Int32)), .val (.int (0 : Int32))] [(.ref w_SECURITY_GROUP)])) _
      refine st70.trans ?_
      show Steps p.tables e below (T70.setTop (mkF m 151 #[.val (.int p1), .val (.ref b1), .val (.int (5 : Int32)), .val (.int (0 : Int32))] [(.int (0 : Int32))])) _
      refine XS.iloadN X70.here hx rfl (hb hby at_151) rfl ?_
      show Steps p.tables e below (T70.setTop (mkF m 152 #[.val (.int p1), .val (.ref b1), .val (.int (5 : Int32)), .val (.int (0 : Int32))] [(.int (0 : Int32)), (.int (0 : Int32))])) _
      refine XS.icmpNo X70.here hx rfl (hb hby at_152) rfl (teq (rfl : (0 : Int32) = (0 : Int32))).2 ?_
      show Steps p.tables e below (T70.setTop (mkF m 155 #[.val (.int p1), .val (.ref b1), .val (.int (5 : Int32)), .val (.int (0 : Int32))] [])) _
      refine XS.iconst X70.here hx rfl (hb hby at_155) ?_
      show Steps p.tables e below (T70.setTop (mkF m 156 #[.val (.int p1), .val (.ref b1), .val (.int (5 : Int32)), .val (.int (0 : Int32))] [(.int (1 : Int32))])) _
      refine XS.goto X70.here hx rfl (pc0 := 156) (pc' := 160) rfl (hb hby at_156) (by decide) (by decide) ?_
      exact kt
    obtain ⟨fs, hr, hrun, hended, hW, hsame⟩ := X70.leave (v := some (.int (1 : Int32))) (fun h => by rw [Bd.returns] at h; cases h)
    refine ⟨_, _, pre71 _ ?_, hrun, hended, _, _, rfl, ?_, ⟨_, rfl⟩, hW, hsame.mono (by decide) (by decide)⟩
    · show Steps p.tables e below (T70.setTop (mkF m 160 #[.val (.int p1), .val (.ref b1), .val (.int (5 : Int32)), .val (.int (0 : Int32))] [(.int (1 : Int32))])) _
      exact retN X70 hx (t := .boolean) Bd.returns (by simp) (hb hby at_160) hr
    · show Q0 Z h0 n0 _ T70.heap _
      rw [hE70]
      exact ⟨rfl, N70⟩
  · obtain ⟨cl72, Ar72, q72, S72, M72, H72, G72⟩ := V52
    have hin72 : ¬ ((6 : Int32) < 0 ∨ cl72.slots.size ≤ ((6 : Int32)).toNatClampNeg) := inb_of S72 ⟨by decide, by decide⟩
    have hat72 : cl72.slots[((6 : Int32)).toNatClampNeg]? = some (.ref w_ACCOUNT) := H72.at hin72 rfl
    obtain ⟨cq73, kq73, q73a, q73b, q73c⟩ := isOf hZ e52 EE_ACCOUNT
    obtain ⟨_, _, ⟨T73, L73, k73, n73⟩, -, X73, ⟨Lc73, hQ73, l73, y73, z73⟩, st73⟩ := X52.virtualBack hx (y := (⟨"com/example/muniment_room/munimentroom/content/StandardField", "isDate", "()Z"⟩ : MethodName)) (z := (⟨"com/example/muniment_room/munimentroom/content/StandardField", "isDate", "()Z"⟩ : MethodName)) hown (mvT hZ (hw _ (List.mem_of_getElem? (i := 39) rfl))) (mvT hZ (hw _ (List.mem_of_getElem? (i := 40) rfl))) (notFace_of_selects (args := #[]) (mvT hZ (hw _ (List.mem_of_getElem? (i := 42) rfl)))) (mvT hZ (hw _ (List.mem_of_getElem? (i := 42) rfl))) (mvT hZ (hw _ (List.mem_of_getElem? (i := 41) rfl))) (by decide) (backOf (W := 0) (rm1 l Z a0 hw [] w_ACCOUNT w_RELEASE_DATE w_CREATE_DATE (0 : Int32) h52 n0 hsz hS1 hS2 (by simp [n1_ACCOUNT, n2_ACCOUNT])) hZ (hw _ (List.mem_of_getElem? (i := 43) rfl)) (hw _ (List.mem_of_getElem? (i := 3) rfl)) (by decide) (by decide)) q73a q73c (g := (mkF m 148 #[.val (.int p1), .val (.ref b1), .val (.int (6 : Int32)), .val (.int (0 : Int32))] [(.ref w_ACCOUNT)])) rfl (by rw [hml]; rfl) (Steps.refl _) (argsL := []) (rest := []) (lenOf pd_rm0_0 rfl) rfl (by show 2 * 0 + _ ≤ _; exact Nat.le_of_eq rfl) (hb hby at_148) (fun _ _ => ⟨rfl, e52, (by decide : 1 + 0 ≤ _), (by decide : 17 + 0 ≤ _)⟩)
    dsimp only [Pt.U, Pt.locs, Pt.cells, Pt.slots] at X73 l73 y73 z73 st73 hQ73
    subst l73 y73 z73
    obtain ⟨rfl, N73q, hE73⟩ := hQ73
    have N73 := Fr.app N52 N73q
    have pre74 : ∀ tt, Steps p.tables e below (T73.setTop (mkF m 160 #[.val (.int p1), .val (.ref b1), .val (.int (6 : Int32)), .val (.int (0 : Int32))] [(.int (1 : Int32))])) tt → Steps p.tables e below (s₁.setTop (entryFrame m #[(.int p1)] maxLocals)) tt := by
      intro tt kt
      refine pre53 tt ?_
      show Steps p.tables e below (T52.setTop (mkF m 126 #[.val (.int p1), .val (.ref b1), .unset, .unset] [(.int (6 : Int32))])) _
      refine XS.istoreN X52.here hx rfl (hb hby at_126) rfl (l' := #[.val (.int p1), .val (.ref b1), .val (.int (6 : Int32)), .unset]) rfl ?_
      show Steps p.tables e below (T52.setTop (mkF m 127 #[.val (.int p1), .val (.ref b1), .val (.int (6 : Int32)), .unset] [])) _
      refine XS.iloadN X52.here hx rfl (hb hby at_127) rfl ?_
      show Steps p.tables e below (T52.setTop (mkF m 128 #[.val (.int p1), .val (.ref b1), .val (.int (6 : Int32)), .unset] [(.int (6 : Int32))])) _
      refine XS.bipush X52.here hx rfl (hb hby at_128) ?_
      show Steps p.tables e below (T52.setTop (mkF m 130 #[.val (.int p1), .val (.ref b1), .val (.int (6 : Int32)), .unset] [(.int (9 : Int32)), (.int (6 : Int32))])) _
      refine XS.icmpNo X52.here hx rfl (hb hby at_130) rfl (feq (by decide : ¬ ((6 : Int32) = (9 : Int32)))).1 ?_
      show Steps p.tables e below (T52.setTop (mkF m 133 #[.val (.int p1), .val (.ref b1), .val (.int (6 : Int32)), .unset] [])) _
      refine XS.iloadN X52.here hx rfl (hb hby at_133) rfl ?_
      show Steps p.tables e below (T52.setTop (mkF m 134 #[.val (.int p1), .val (.ref b1), .val (.int (6 : Int32)), .unset] [(.int (6 : Int32))])) _
      refine XS.bipush X52.here hx rfl (hb hby at_134) ?_
      show Steps p.tables e below (T52.setTop (mkF m 136 #[.val (.int p1), .val (.ref b1), .val (.int (6 : Int32)), .unset] [(.int (14 : Int32)), (.int (6 : Int32))])) _
      refine XS.icmpYes X52.here hx rfl (pc0 := 136) (pc' := 143) rfl (hb hby at_136) rfl (feq (by decide : ¬ ((6 : Int32) = (14 : Int32)))).2 (by decide) (by decide) ?_
      show Steps p.tables e below (T52.setTop (mkF m 143 #[.val (.int p1), .val (.ref b1), .val (.int (6 : Int32)), .unset] [])) _
      refine XS.iconst X52.here hx rfl (hb hby at_143) ?_
      show Steps p.tables e below (T52.setTop (mkF m 144 #[.val (.int p1), .val (.ref b1), .val (.int (6 : Int32)), .unset] [(.int (0 : Int32))])) _
      refine XS.istoreN X52.here hx rfl (hb hby at_144) rfl (l' := #[.val (.int p1), .val (.ref b1), .val (.int (6 : Int32)), .val (.int (0 : Int32))]) rfl ?_
      show Steps p.tables e below (T52.setTop (mkF m 145 #[.val (.int p1), .val (.ref b1), .val (.int (6 : Int32)), .val (.int (0 : Int32))] [])) _
      refine XS.aloadN X52.here hx rfl (hb hby at_145) rfl rfl ?_
      show Steps p.tables e below (T52.setTop (mkF m 146 #[.val (.int p1), .val (.ref b1), .val (.int (6 : Int32)), .val (.int (0 : Int32))] [(.ref b1)])) _
      refine XS.iloadN X52.here hx rfl (hb hby at_146) rfl ?_
      show Steps p.tables e below (T52.setTop (mkF m 147 #[.val (.int p1), .val (.ref b1), .val (.int (6 : Int32)), .val (.int (0 : Int32))] [(.int (6 : Int32)), (.ref b1)])) _
      refine X52.aaload hx (j := (6 : Int32)) (v := (.ref w_ACCOUNT)) (by rw [e52]; exact Ar72.1) (State.isArrayOf_alike hZ.alike Ar72.2.1) rfl Ar72.2.2 hin72 hat72 (g := (mkF m 147 #[.val (.int p1), .val (.ref b1), .val (.int (6 : Int32)), .val (.int (0 : Int32))] [(.int (6 : Int32)), (.ref b1)])) rfl rfl (hb hby at_147) _ ?_
      show Steps p.tables e below (T52.setTop (mkF m 148 #[.val (.int p1), .val (.ref b1), .val (.int (6 : Int32)), .val (.int (0 : Int32))] [(.ref w_ACCOUNT)])) _
      refine st73.trans ?_
      show Steps p.tables e below (T73.setTop (mkF m 151 #[.val (.int p1), .val (.ref b1), .val (.int (6 : Int32)), .val (.int (0 : Int32))] [(.int (0 : Int32))])) _
      refine XS.iloadN X73.here hx rfl (hb hby at_151) rfl ?_
      show Steps p.tables e below (T73.setTop (mkF m 152 #[.val (.int p1), .val (.ref b1), .val (.int (6 : Int32)), .val (.int (0 : Int32))] [(.int (0 : Int32)), (.int (0 : Int32))])) _
      refine XS.icmpNo X73.here hx rfl (hb hby at_152) rfl (teq (rfl : (0 : Int32) = (0 : Int32))).2 ?_
      show Steps p.tables e below (T73.setTop (mkF m 155 #[.val (.int p1), .val (.ref b1), .val (.int (6 : Int32)), .val (.int (0 : Int32))] [])) _
      refine XS.iconst X73.here hx rfl (hb hby at_155) ?_
      show Steps p.tables e below (T73.setTop (mkF m 156 #[.val (.int p1), .val (.ref b1), .val (.int (6 : Int32)), .val (.int (0 : Int32))] [(.int (1 : Int32))])) _
      refine XS.goto X73.here hx rfl (pc0 := 156) (pc' := 160) rfl (hb hby at_156) (by decide) (by decide) ?_
      exact kt
    obtain ⟨fs, hr, hrun, hended, hW, hsame⟩ := X73.leave (v := some (.int (1 : Int32))) (fun h => by rw [Bd.returns] at h; cases h)
    refine ⟨_, _, pre74 _ ?_, hrun, hended, _, _, rfl, ?_, ⟨_, rfl⟩, hW, hsame.mono (by decide) (by decide)⟩
    · show Steps p.tables e below (T73.setTop (mkF m 160 #[.val (.int p1), .val (.ref b1), .val (.int (6 : Int32)), .val (.int (0 : Int32))] [(.int (1 : Int32))])) _
      exact retN X73 hx (t := .boolean) Bd.returns (by simp) (hb hby at_160) hr
    · show Q0 Z h0 n0 _ T73.heap _
      rw [hE73]
      exact ⟨rfl, N73⟩
  · obtain ⟨cl75, Ar75, q75, S75, M75, H75, G75⟩ := V52
    have hin75 : ¬ ((7 : Int32) < 0 ∨ cl75.slots.size ≤ ((7 : Int32)).toNatClampNeg) := inb_of S75 ⟨by decide, by decide⟩
    have hat75 : cl75.slots[((7 : Int32)).toNatClampNeg]? = some (.ref w_REVISION_NUMBER) := H75.at hin75 rfl
    obtain ⟨cq76, kq76, q76a, q76b, q76c⟩ := isOf hZ e52 EE_REVISION_NUMBER
    obtain ⟨_, _, ⟨T76, L76, k76, n76⟩, -, X76, ⟨Lc76, hQ76, l76, y76, z76⟩, st76⟩ := X52.virtualBack hx (y := (⟨"com/example/muniment_room/munimentroom/content/StandardField", "isDate", "()Z"⟩ : MethodName)) (z := (⟨"com/example/muniment_room/munimentroom/content/StandardField", "isDate", "()Z"⟩ : MethodName)) hown (mvT hZ (hw _ (List.mem_of_getElem? (i := 39) rfl))) (mvT hZ (hw _ (List.mem_of_getElem? (i := 40) rfl))) (notFace_of_selects (args := #[]) (mvT hZ (hw _ (List.mem_of_getElem? (i := 42) rfl)))) (mvT hZ (hw _ (List.mem_of_getElem? (i := 42) rfl))) (mvT hZ (hw _ (List.mem_of_getElem? (i := 41) rfl))) (by decide) (backOf (W := 0) (rm1 l Z a0 hw [] w_REVISION_NUMBER w_RELEASE_DATE w_CREATE_DATE (0 : Int32) h52 n0 hsz hS1 hS2 (by simp [n1_REVISION_NUMBER, n2_REVISION_NUMBER])) hZ (hw _ (List.mem_of_getElem? (i := 43) rfl)) (hw _ (List.mem_of_getElem? (i := 3) rfl)) (by decide) (by decide)) q76a q76c (g := (mkF m 148 #[.val (.int p1), .val (.ref b1), .val (.int (7 : Int32)), .val (.int (0 : Int32))] [(.ref w_REVISION_NUMBER)])) rfl (by rw [hml]; rfl) (Steps.refl _) (argsL := []) (rest := []) (lenOf pd_rm0_0 rfl) rfl (by show 2 * 0 + _ ≤ _; exact Nat.le_of_eq rfl) (hb hby at_148) (fun _ _ => ⟨rfl, e52, (by decide : 1 + 0 ≤ _), (by decide : 17 + 0 ≤ _)⟩)
    dsimp only [Pt.U, Pt.locs, Pt.cells, Pt.slots] at X76 l76 y76 z76 st76 hQ76
    subst l76 y76 z76
    obtain ⟨rfl, N76q, hE76⟩ := hQ76
    have N76 := Fr.app N52 N76q
    have pre77 : ∀ tt, Steps p.tables e below (T76.setTop (mkF m 160 #[.val (.int p1), .val (.ref b1), .val (.int (7 : Int32)), .val (.int (0 : Int32))] [(.int (1 : Int32))])) tt → Steps p.tables e below (s₁.setTop (entryFrame m #[(.int p1)] maxLocals)) tt := by
      intro tt kt
      refine pre53 tt ?_
      show Steps p.tables e below (T52.setTop (mkF m 126 #[.val (.int p1), .val (.ref b1), .unset, .unset] [(.int (7 : Int32))])) _
      refine XS.istoreN X52.here hx rfl (hb hby at_126) rfl (l' := #[.val (.int p1), .val (.ref b1), .val (.int (7 : Int32)), .unset]) rfl ?_
      show Steps p.tables e below (T52.setTop (mkF m 127 #[.val (.int p1), .val (.ref b1), .val (.int (7 : Int32)), .unset] [])) _
      refine XS.iloadN X52.here hx rfl (hb hby at_127) rfl ?_
      show Steps p.tables e below (T52.setTop (mkF m 128 #[.val (.int p1), .val (.ref b1), .val (.int (7 : Int32)), .unset] [(.int (7 : Int32))])) _
      refine XS.bipush X52.here hx rfl (hb hby at_128) ?_
      show Steps p.tables e below (T52.setTop (mkF m 130 #[.val (.int p1), .val (.ref b1), .val (.int (7 : Int32)), .unset] [(.int (9 : Int32)), (.int (7 : Int32))])) _
      refine XS.icmpNo X52.here hx rfl (hb hby at_130) rfl (feq (by decide : ¬ ((7 : Int32) = (9 : Int32)))).1 ?_
      show Steps p.tables e below (T52.setTop (mkF m 133 #[.val (.int p1), .val (.ref b1), .val (.int (7 : Int32)), .unset] [])) _
      refine XS.iloadN X52.here hx rfl (hb hby at_133) rfl ?_
      show Steps p.tables e below (T52.setTop (mkF m 134 #[.val (.int p1), .val (.ref b1), .val (.int (7 : Int32)), .unset] [(.int (7 : Int32))])) _
      refine XS.bipush X52.here hx rfl (hb hby at_134) ?_
      show Steps p.tables e below (T52.setTop (mkF m 136 #[.val (.int p1), .val (.ref b1), .val (.int (7 : Int32)), .unset] [(.int (14 : Int32)), (.int (7 : Int32))])) _
      refine XS.icmpYes X52.here hx rfl (pc0 := 136) (pc' := 143) rfl (hb hby at_136) rfl (feq (by decide : ¬ ((7 : Int32) = (14 : Int32)))).2 (by decide) (by decide) ?_
      show Steps p.tables e below (T52.setTop (mkF m 143 #[.val (.int p1), .val (.ref b1), .val (.int (7 : Int32)), .unset] [])) _
      refine XS.iconst X52.here hx rfl (hb hby at_143) ?_
      show Steps p.tables e below (T52.setTop (mkF m 144 #[.val (.int p1), .val (.ref b1), .val (.int (7 : Int32)), .unset] [(.int (0 : Int32))])) _
      refine XS.istoreN X52.here hx rfl (hb hby at_144) rfl (l' := #[.val (.int p1), .val (.ref b1), .val (.int (7 : Int32)), .val (.int (0 : Int32))]) rfl ?_
      show Steps p.tables e below (T52.setTop (mkF m 145 #[.val (.int p1), .val (.ref b1), .val (.int (7 : Int32)), .val (.int (0 : Int32))] [])) _
      refine XS.aloadN X52.here hx rfl (hb hby at_145) rfl rfl ?_
      show Steps p.tables e below (T52.setTop (mkF m 146 #[.val (.int p1), .val (.ref b1), .val (.int (7 : Int32)), .val (.int (0 : Int32))] [(.ref b1)])) _
      refine XS.iloadN X52.here hx rfl (hb hby at_146) rfl ?_
      show Steps p.tables e below (T52.setTop (mkF m 147 #[.val (.int p1), .val (.ref b1), .val (.int (7 : Int32)), .val (.int (0 : Int32))] [(.int (7 : Int32)), (.ref b1)])) _
      refine X52.aaload hx (j := (7 : Int32)) (v := (.ref w_REVISION_NUMBER)) (by rw [e52]; exact Ar75.1) (State.isArrayOf_alike hZ.alike Ar75.2.1) rfl Ar75.2.2 hin75 hat75 (g := (mkF m 147 #[.val (.int p1), .val (.ref b1), .val (.int (7 : Int32)), .val (.int (0 : Int32))] [(.int (7 : Int32)), (.ref b1)])) rfl rfl (hb hby at_147) _ ?_
      show Steps p.tables e below (T52.setTop (mkF m 148 #[.val (.int p1), .val (.ref b1), .val (.int (7 : Int32)), .val (.int (0 : Int32))] [(.ref w_REVISION_NUMBER)])) _
      refine st76.trans ?_
      show Steps p.tables e below (T76.setTop (mkF m 151 #[.val (.int p1), .val (.ref b1), .val (.int (7 : Int32)), .val (.int (0 : Int32))] [(.int (0 : Int32))])) _
      refine XS.iloadN X76.here hx rfl (hb hby at_151) rfl ?_
      show Steps p.tables e below (T76.setTop (mkF m 152 #[.val (.int p1), .val (.ref b1), .val (.int (7 : Int32)), .val (.int (0 : Int32))] [(.int (0 : Int32)), (.int (0 : Int32))])) _
      refine XS.icmpNo X76.here hx rfl (hb hby at_152) rfl (teq (rfl : (0 : Int32) = (0 : Int32))).2 ?_
      show Steps p.tables e below (T76.setTop (mkF m 155 #[.val (.int p1), .val (.ref b1), .val (.int (7 : Int32)), .val (.int (0 : Int32))] [])) _
      refine XS.iconst X76.here hx rfl (hb hby at_155) ?_
      show Steps p.tables e below (T76.setTop (mkF m 156 #[.val (.int p1), .val (.ref b1), .val (.int (7 : Int32)), .val (.int (0 : Int32))] [(.int (1 : Int32))])) _
      refine XS.goto X76.here hx rfl (pc0 := 156) (pc' := 160) rfl (hb hby at_156) (by decide) (by decide) ?_
      exact kt
    obtain ⟨fs, hr, hrun, hended, hW, hsame⟩ := X76.leave (v := some (.int (1 : Int32))) (fun h => by rw [Bd.returns] at h; cases h)
    refine ⟨_, _, pre77 _ ?_, hrun, hended, _, _, rfl, ?_, ⟨_, rfl⟩, hW, hsame.mono (by decide) (by decide)⟩
    · show Steps p.tables e below (T76.setTop (mkF m 160 #[.val (.int p1), .val (.ref b1), .val (.int (7 : Int32)), .val (.int (0 : Int32))] [(.int (1 : Int32))])) _
      exact retN X76 hx (t := .boolean) Bd.returns (by simp) (hb hby at_160) hr
    · show Q0 Z h0 n0 _ T76.heap _
      rw [hE76]
      exact ⟨rfl, N76⟩
  · obtain ⟨cl78, Ar78, q78, S78, M78, H78, G78⟩ := V52
    have hin78 : ¬ ((8 : Int32) < 0 ∨ cl78.slots.size ≤ ((8 : Int32)).toNatClampNeg) := inb_of S78 ⟨by decide, by decide⟩
    have hat78 : cl78.slots[((8 : Int32)).toNatClampNeg]? = some (.ref w_REVISION_LABEL) := H78.at hin78 rfl
    obtain ⟨cq79, kq79, q79a, q79b, q79c⟩ := isOf hZ e52 EE_REVISION_LABEL
    obtain ⟨_, _, ⟨T79, L79, k79, n79⟩, -, X79, ⟨Lc79, hQ79, l79, y79, z79⟩, st79⟩ := X52.virtualBack hx (y := (⟨"com/example/muniment_room/munimentroom/content/StandardField", "isDate", "()Z"⟩ : MethodName)) (z := (⟨"com/example/muniment_room/munimentroom/content/StandardField", "isDate", "()Z"⟩ : MethodName)) hown (mvT hZ (hw _ (List.mem_of_getElem? (i := 39) rfl))) (mvT hZ (hw _ (List.mem_of_getElem? (i := 40) rfl))) (notFace_of_selects (args := #[]) (mvT hZ (hw _ (List.mem_of_getElem? (i := 42) rfl)))) (mvT hZ (hw _ (List.mem_of_getElem? (i := 42) rfl))) (mvT hZ (hw _ (List.mem_of_getElem? (i := 41) rfl))) (by decide) (backOf (W := 0) (rm1 l Z a0 hw [] w_REVISION_LABEL w_RELEASE_DATE w_CREATE_DATE (0 : Int32) h52 n0 hsz hS1 hS2 (by simp [n1_REVISION_LABEL, n2_REVISION_LABEL])) hZ (hw _ (List.mem_of_getElem? (i := 43) rfl)) (hw _ (List.mem_of_getElem? (i := 3) rfl)) (by decide) (by decide)) q79a q79c (g := (mkF m 148 #[.val (.int p1), .val (.ref b1), .val (.int (8 : Int32)), .val (.int (0 : Int32))] [(.ref w_REVISION_LABEL)])) rfl (by rw [hml]; rfl) (Steps.refl _) (argsL := []) (rest := []) (lenOf pd_rm0_0 rfl) rfl (by show 2 * 0 + _ ≤ _; exact Nat.le_of_eq rfl) (hb hby at_148) (fun _ _ => ⟨rfl, e52, (by decide : 1 + 0 ≤ _), (by decide : 17 + 0 ≤ _)⟩)
    dsimp only [Pt.U, Pt.locs, Pt.cells, Pt.slots] at X79 l79 y79 z79 st79 hQ79
    subst l79 y79 z79
    obtain ⟨rfl, N79q, hE79⟩ := hQ79
    have N79 := Fr.app N52 N79q
    have pre80 : ∀ tt, Steps p.tables e below (T79.setTop (mkF m 160 #[.val (.int p1), .val (.ref b1), .val (.int (8 : Int32)), .val (.int (0 : Int32))] [(.int (1 : Int32))])) tt → Steps p.tables e below (s₁.setTop (entryFrame m #[(.int p1)] maxLocals)) tt := by
      intro tt kt
      refine pre53 tt ?_
      show Steps p.tables e below (T52.setTop (mkF m 126 #[.val (.int p1), .val (.ref b1), .unset, .unset] [(.int (8 : Int32))])) _
      refine XS.istoreN X52.here hx rfl (hb hby at_126) rfl (l' := #[.val (.int p1), .val (.ref b1), .val (.int (8 : Int32)), .unset]) rfl ?_
      show Steps p.tables e below (T52.setTop (mkF m 127 #[.val (.int p1), .val (.ref b1), .val (.int (8 : Int32)), .unset] [])) _
      refine XS.iloadN X52.here hx rfl (hb hby at_127) rfl ?_
      show Steps p.tables e below (T52.setTop (mkF m 128 #[.val (.int p1), .val (.ref b1), .val (.int (8 : Int32)), .unset] [(.int (8 : Int32))])) _
      refine XS.bipush X52.here hx rfl (hb hby at_128) ?_
      show Steps p.tables e below (T52.setTop (mkF m 130 #[.val (.int p1), .val (.ref b1), .val (.int (8 : Int32)), .unset] [(.int (9 : Int32)), (.int (8 : Int32))])) _
      refine XS.icmpNo X52.here hx rfl (hb hby at_130) rfl (feq (by decide : ¬ ((8 : Int32) = (9 : Int32)))).1 ?_
      show Steps p.tables e below (T52.setTop (mkF m 133 #[.val (.int p1), .val (.ref b1), .val (.int (8 : Int32)), .unset] [])) _
      refine XS.iloadN X52.here hx rfl (hb hby at_133) rfl ?_
      show Steps p.tables e below (T52.setTop (mkF m 134 #[.val (.int p1), .val (.ref b1), .val (.int (8 : Int32)), .unset] [(.int (8 : Int32))])) _
      refine XS.bipush X52.here hx rfl (hb hby at_134) ?_
      show Steps p.tables e below (T52.setTop (mkF m 136 #[.val (.int p1), .val (.ref b1), .val (.int (8 : Int32)), .unset] [(.int (14 : Int32)), (.int (8 : Int32))])) _
      refine XS.icmpYes X52.here hx rfl (pc0 := 136) (pc' := 143) rfl (hb hby at_136) rfl (feq (by decide : ¬ ((8 : Int32) = (14 : Int32)))).2 (by decide) (by decide) ?_
      show Steps p.tables e below (T52.setTop (mkF m 143 #[.val (.int p1), .val (.ref b1), .val (.int (8 : Int32)), .unset] [])) _
      refine XS.iconst X52.here hx rfl (hb hby at_143) ?_
      show Steps p.tables e below (T52.setTop (mkF m 144 #[.val (.int p1), .val (.ref b1), .val (.int (8 : Int32)), .unset] [(.int (0 : Int32))])) _
      refine XS.istoreN X52.here hx rfl (hb hby at_144) rfl (l' := #[.val (.int p1), .val (.ref b1), .val (.int (8 : Int32)), .val (.int (0 : Int32))]) rfl ?_
      show Steps p.tables e below (T52.setTop (mkF m 145 #[.val (.int p1), .val (.ref b1), .val (.int (8 : Int32)), .val (.int (0 : Int32))] [])) _
      refine XS.aloadN X52.here hx rfl (hb hby at_145) rfl rfl ?_
      show Steps p.tables e below (T52.setTop (mkF m 146 #[.val (.int p1), .val (.ref b1), .val (.int (8 : Int32)), .val (.int (0 : Int32))] [(.ref b1)])) _
      refine XS.iloadN X52.here hx rfl (hb hby at_146) rfl ?_
      show Steps p.tables e below (T52.setTop (mkF m 147 #[.val (.int p1), .val (.ref b1), .val (.int (8 : Int32)), .val (.int (0 : Int32))] [(.int (8 : Int32)), (.ref b1)])) _
      refine X52.aaload hx (j := (8 : Int32)) (v := (.ref w_REVISION_LABEL)) (by rw [e52]; exact Ar78.1) (State.isArrayOf_alike hZ.alike Ar78.2.1) rfl Ar78.2.2 hin78 hat78 (g := (mkF m 147 #[.val (.int p1), .val (.ref b1), .val (.int (8 : Int32)), .val (.int (0 : Int32))] [(.int (8 : Int32)), (.ref b1)])) rfl rfl (hb hby at_147) _ ?_
      show Steps p.tables e below (T52.setTop (mkF m 148 #[.val (.int p1), .val (.ref b1), .val (.int (8 : Int32)), .val (.int (0 : Int32))] [(.ref w_REVISION_LABEL)])) _
      refine st79.trans ?_
      show Steps p.tables e below (T79.setTop (mkF m 151 #[.val (.int p1), .val (.ref b1), .val (.int (8 : Int32)), .val (.int (0 : Int32))] [(.int (0 : Int32))])) _
      refine XS.iloadN X79.here hx rfl (hb hby at_151) rfl ?_
      show Steps p.tables e below (T79.setTop (mkF m 152 #[.val (.int p1), .val (.ref b1), .val (.int (8 : Int32)), .val (.int (0 : Int32))] [(.int (0 : Int32)), (.int (0 : Int32))])) _
      refine XS.icmpNo X79.here hx rfl (hb hby at_152) rfl (teq (rfl : (0 : Int32) = (0 : Int32))).2 ?_
      show Steps p.tables e below (T79.setTop (mkF m 155 #[.val (.int p1), .val (.ref b1), .val (.int (8 : Int32)), .val (.int (0 : Int32))] [])) _
      refine XS.iconst X79.here hx rfl (hb hby at_155) ?_
      show Steps p.tables e below (T79.setTop (mkF m 156 #[.val (.int p1), .val (.ref b1), .val (.int (8 : Int32)), .val (.int (0 : Int32))] [(.int (1 : Int32))])) _
      refine XS.goto X79.here hx rfl (pc0 := 156) (pc' := 160) rfl (hb hby at_156) (by decide) (by decide) ?_
      exact kt
    obtain ⟨fs, hr, hrun, hended, hW, hsame⟩ := X79.leave (v := some (.int (1 : Int32))) (fun h => by rw [Bd.returns] at h; cases h)
    refine ⟨_, _, pre80 _ ?_, hrun, hended, _, _, rfl, ?_, ⟨_, rfl⟩, hW, hsame.mono (by decide) (by decide)⟩
    · show Steps p.tables e below (T79.setTop (mkF m 160 #[.val (.int p1), .val (.ref b1), .val (.int (8 : Int32)), .val (.int (0 : Int32))] [(.int (1 : Int32))])) _
      exact retN X79 hx (t := .boolean) Bd.returns (by simp) (hb hby at_160) hr
    · show Q0 Z h0 n0 _ T79.heap _
      rw [hE79]
      exact ⟨rfl, N79⟩
  · obtain ⟨cl81, Ar81, q81, S81, M81, H81, G81⟩ := V52
    have hin81 : ¬ ((9 : Int32) < 0 ∨ cl81.slots.size ≤ ((9 : Int32)).toNatClampNeg) := inb_of S81 ⟨by decide, by decide⟩
    have hat81 : cl81.slots[((9 : Int32)).toNatClampNeg]? = some (.ref w_RELEASE_DATE) := H81.at hin81 rfl
    obtain ⟨cq82, kq82, q82a, q82b, q82c⟩ := isOf hZ e52 EE_RELEASE_DATE
    obtain ⟨_, _, ⟨T82, L82, k82, n82⟩, -, X82, ⟨Lc82, hQ82, l82, y82, z82⟩, st82⟩ := X52.virtualBack hx (y := (⟨"com/example/muniment_room/munimentroom/content/StandardField", "isDate", "()Z"⟩ : MethodName)) (z := (⟨"com/example/muniment_room/munimentroom/content/StandardField", "isDate", "()Z"⟩ : MethodName)) hown (mvT hZ (hw _ (List.mem_of_getElem? (i := 39) rfl))) (mvT hZ (hw _ (List.mem_of_getElem? (i := 40) rfl))) (notFace_of_selects (args := #[]) (mvT hZ (hw _ (List.mem_of_getElem? (i := 42) rfl)))) (mvT hZ (hw _ (List.mem_of_getElem? (i := 42) rfl))) (mvT hZ (hw _ (List.mem_of_getElem? (i := 41) rfl))) (by decide) (backOf (W := 0) (rm1 l Z a0 hw [] w_RELEASE_DATE w_RELEASE_DATE w_CREATE_DATE (1 : Int32) h52 n0 hsz hS1 hS2 (by simp)) hZ (hw _ (List.mem_of_getElem? (i := 43) rfl)) (hw _ (List.mem_of_getElem? (i := 3) rfl)) (by decide) (by decide)) q82a q82c (g := (mkF m 148 #[.val (.int p1), .val (.ref b1), .val (.int (9 : Int32)), .val (.int (1 : Int32))] [(.ref w_RELEASE_DATE)])) rfl (by rw [hml]; rfl) (Steps.refl _) (argsL := []) (rest := []) (lenOf pd_rm0_0 rfl) rfl (by show 2 * 0 + _ ≤ _; exact Nat.le_of_eq rfl) (hb hby at_148) (fun _ _ => ⟨rfl, e52, (by decide : 1 + 0 ≤ _), (by decide : 17 + 0 ≤ _)⟩)
    dsimp only [Pt.U, Pt.locs, Pt.cells, Pt.slots] at X82 l82 y82 z82 st82 hQ82
    subst l82 y82 z82
    obtain ⟨rfl, N82q, hE82⟩ := hQ82
    have N82 := Fr.app N52 N82q
    have pre83 : ∀ tt, Steps p.tables e below (T82.setTop (mkF m 160 #[.val (.int p1), .val (.ref b1), .val (.int (9 : Int32)), .val (.int (1 : Int32))] [(.int (1 : Int32))])) tt → Steps p.tables e below (s₁.setTop (entryFrame m #[(.int p1)] maxLocals)) tt := by
      intro tt kt
      refine pre53 tt ?_
      show Steps p.tables e below (T52.setTop (mkF m 126 #[.val (.int p1), .val (.ref b1), .unset, .unset] [(.int (9 : Int32))])) _
      refine XS.istoreN X52.here hx rfl (hb hby at_126) rfl (l' := #[.val (.int p1), .val (.ref b1), .val (.int (9 : Int32)), .unset]) rfl ?_
      show Steps p.tables e below (T52.setTop (mkF m 127 #[.val (.int p1), .val (.ref b1), .val (.int (9 : Int32)), .unset] [])) _
      refine XS.iloadN X52.here hx rfl (hb hby at_127) rfl ?_
      show Steps p.tables e below (T52.setTop (mkF m 128 #[.val (.int p1), .val (.ref b1), .val (.int (9 : Int32)), .unset] [(.int (9 : Int32))])) _
      refine XS.bipush X52.here hx rfl (hb hby at_128) ?_
      show Steps p.tables e below (T52.setTop (mkF m 130 #[.val (.int p1), .val (.ref b1), .val (.int (9 : Int32)), .unset] [(.int (9 : Int32)), (.int (9 : Int32))])) _
      refine XS.icmpYes X52.here hx rfl (pc0 := 130) (pc' := 139) rfl (hb hby at_130) rfl (teq (rfl : (9 : Int32) = (9 : Int32))).1 (by decide) (by decide) ?_
      show Steps p.tables e below (T52.setTop (mkF m 139 #[.val (.int p1), .val (.ref b1), .val (.int (9 : Int32)), .unset] [])) _
      refine XS.iconst X52.here hx rfl (hb hby at_139) ?_
      show Steps p.tables e below (T52.setTop (mkF m 140 #[.val (.int p1), .val (.ref b1), .val (.int (9 : Int32)), .unset] [(.int (1 : Int32))])) _
      refine XS.goto X52.here hx rfl (pc0 := 140) (pc' := 144) rfl (hb hby at_140) (by decide) (by decide) ?_
      show Steps p.tables e below (T52.setTop (mkF m 144 #[.val (.int p1), .val (.ref b1), .val (.int (9 : Int32)), .unset] [(.int (1 : Int32))])) _
      refine XS.istoreN X52.here hx rfl (hb hby at_144) rfl (l' := #[.val (.int p1), .val (.ref b1), .val (.int (9 : Int32)), .val (.int (1 : Int32))]) rfl ?_
      show Steps p.tables e below (T52.setTop (mkF m 145 #[.val (.int p1), .val (.ref b1), .val (.int (9 : Int32)), .val (.int (1 : Int32))] [])) _
      refine XS.aloadN X52.here hx rfl (hb hby at_145) rfl rfl ?_
      show Steps p.tables e below (T52.setTop (mkF m 146 #[.val (.int p1), .val (.ref b1), .val (.int (9 : Int32)), .val (.int (1 : Int32))] [(.ref b1)])) _
      refine XS.iloadN X52.here hx rfl (hb hby at_146) rfl ?_
      show Steps p.tables e below (T52.setTop (mkF m 147 #[.val (.int p1), .val (.ref b1), .val (.int (9 : Int32)), .val (.int (1 : Int32))] [(.int (9 : Int32)), (.ref b1)])) _
      refine X52.aaload hx (j := (9 : Int32)) (v := (.ref w_RELEASE_DATE)) (by rw [e52]; exact Ar81.1) (State.isArrayOf_alike hZ.alike Ar81.2.1) rfl Ar81.2.2 hin81 hat81 (g := (mkF m 147 #[.val (.int p1), .val (.ref b1), .val (.int (9 : Int32)), .val (.int (1 : Int32))] [(.int (9 : Int32)), (.ref b1)])) rfl rfl (hb hby at_147) _ ?_
      show Steps p.tables e below (T52.setTop (mkF m 148 #[.val (.int p1), .val (.ref b1), .val (.int (9 : Int32)), .val (.int (1 : Int32))] [(.ref w_RELEASE_DATE)])) _
      refine st82.trans ?_
      show Steps p.tables e below (T82.setTop (mkF m 151 #[.val (.int p1), .val (.ref b1), .val (.int (9 : Int32)), .val (.int (1 : Int32))] [(.int (1 : Int32))])) _
      refine XS.iloadN X82.here hx rfl (hb hby at_151) rfl ?_
      show Steps p.tables e below (T82.setTop (mkF m 152 #[.val (.int p1), .val (.ref b1), .val (.int (9 : Int32)), .val (.int (1 : Int32))] [(.int (1 : Int32)), (.int (1 : Int32))])) _
      refine XS.icmpNo X82.here hx rfl (hb hby at_152) rfl (teq (rfl : (1 : Int32) = (1 : Int32))).2 ?_
      show Steps p.tables e below (T82.setTop (mkF m 155 #[.val (.int p1), .val (.ref b1), .val (.int (9 : Int32)), .val (.int (1 : Int32))] [])) _
      refine XS.iconst X82.here hx rfl (hb hby at_155) ?_
      show Steps p.tables e below (T82.setTop (mkF m 156 #[.val (.int p1), .val (.ref b1), .val (.int (9 : Int32)), .val (.int (1 : Int32))] [(.int (1 : Int32))])) _
      refine XS.goto X82.here hx rfl (pc0 := 156) (pc' := 160) rfl (hb hby at_156) (by decide) (by decide) ?_
      exact kt
    obtain ⟨fs, hr, hrun, hended, hW, hsame⟩ := X82.leave (v := some (.int (1 : Int32))) (fun h => by rw [Bd.returns] at h; cases h)
    refine ⟨_, _, pre83 _ ?_, hrun, hended, _, _, rfl, ?_, ⟨_, rfl⟩, hW, hsame.mono (by decide) (by decide)⟩
    · show Steps p.tables e below (T82.setTop (mkF m 160 #[.val (.int p1), .val (.ref b1), .val (.int (9 : Int32)), .val (.int (1 : Int32))] [(.int (1 : Int32))])) _
      exact retN X82 hx (t := .boolean) Bd.returns (by simp) (hb hby at_160) hr
    · show Q0 Z h0 n0 _ T82.heap _
      rw [hE82]
      exact ⟨rfl, N82⟩
  · obtain ⟨cl84, Ar84, q84, S84, M84, H84, G84⟩ := V52
    have hin84 : ¬ ((10 : Int32) < 0 ∨ cl84.slots.size ≤ ((10 : Int32)).toNatClampNeg) := inb_of S84 ⟨by decide, by decide⟩
    have hat84 : cl84.slots[((10 : Int32)).toNatClampNeg]? = some (.ref w_STATUS) := H84.at hin84 rfl
    obtain ⟨cq85, kq85, q85a, q85b, q85c⟩ := isOf hZ e52 EE_STATUS
    obtain ⟨_, _, ⟨T85, L85, k85, n85⟩, -, X85, ⟨Lc85, hQ85, l85, y85, z85⟩, st85⟩ := X52.virtualBack hx (y := (⟨"com/example/muniment_room/munimentroom/content/StandardField", "isDate", "()Z"⟩ : MethodName)) (z := (⟨"com/example/muniment_room/munimentroom/content/StandardField", "isDate", "()Z"⟩ : MethodName)) hown (mvT hZ (hw _ (List.mem_of_getElem? (i := 39) rfl))) (mvT hZ (hw _ (List.mem_of_getElem? (i := 40) rfl))) (notFace_of_selects (args := #[]) (mvT hZ (hw _ (List.mem_of_getElem? (i := 42) rfl)))) (mvT hZ (hw _ (List.mem_of_getElem? (i := 42) rfl))) (mvT hZ (hw _ (List.mem_of_getElem? (i := 41) rfl))) (by decide) (backOf (W := 0) (rm1 l Z a0 hw [] w_STATUS w_RELEASE_DATE w_CREATE_DATE (0 : Int32) h52 n0 hsz hS1 hS2 (by simp [n1_STATUS, n2_STATUS])) hZ (hw _ (List.mem_of_getElem? (i := 43) rfl)) (hw _ (List.mem_of_getElem? (i := 3) rfl)) (by decide) (by decide)) q85a q85c (g := (mkF m 148 #[.val (.int p1), .val (.ref b1), .val (.int (10 : Int32)), .val (.int (0 : Int32))] [(.ref w_STATUS)])) rfl (by rw [hml]; rfl) (Steps.refl _) (argsL := []) (rest := []) (lenOf pd_rm0_0 rfl) rfl (by show 2 * 0 + _ ≤ _; exact Nat.le_of_eq rfl) (hb hby at_148) (fun _ _ => ⟨rfl, e52, (by decide : 1 + 0 ≤ _), (by decide : 17 + 0 ≤ _)⟩)
    dsimp only [Pt.U, Pt.locs, Pt.cells, Pt.slots] at X85 l85 y85 z85 st85 hQ85
    subst l85 y85 z85
    obtain ⟨rfl, N85q, hE85⟩ := hQ85
    have N85 := Fr.app N52 N85q
    have pre86 : ∀ tt, Steps p.tables e below (T85.setTop (mkF m 160 #[.val (.int p1), .val (.ref b1), .val (.int (10 : Int32)), .val (.int (0 : Int32))] [(.int (1 : Int32))])) tt → Steps p.tables e below (s₁.setTop (entryFrame m #[(.int p1)] maxLocals)) tt := by
      intro tt kt
      refine pre53 tt ?_
      show Steps p.tables e below (T52.setTop (mkF m 126 #[.val (.int p1), .val (.ref b1), .unset, .unset] [(.int (10 : Int32))])) _
      refine XS.istoreN X52.here hx rfl (hb hby at_126) rfl (l' := #[.val (.int p1), .val (.ref b1), .val (.int (10 : Int32)), .unset]) rfl ?_
      show Steps p.tables e below (T52.setTop (mkF m 127 #[.val (.int p1), .val (.ref b1), .val (.int (10 : Int32)), .unset] [])) _
      refine XS.iloadN X52.here hx rfl (hb hby at_127) rfl ?_
      show Steps p.tables e below (T52.setTop (mkF m 128 #[.val (.int p1), .val (.ref b1), .val (.int (10 : Int32)), .unset] [(.int (10 : Int32))])) _
      refine XS.bipush X52.here hx rfl (hb hby at_128) ?_
      show Steps p.tables e below (T52.setTop (mkF m 130 #[.val (.int p1), .val (.ref b1), .val (.int (10 : Int32)), .unset] [(.int (9 : Int32)), (.int (10 : Int32))])) _
      refine XS.icmpNo X52.here hx rfl (hb hby at_130) rfl (feq (by decide : ¬ ((10 : Int32) = (9 : Int32)))).1 ?_
      show Steps p.tables e below (T52.setTop (mkF m 133 #[.val (.int p1), .val (.ref b1), .val (.int (10 : Int32)), .unset] [])) _
      refine XS.iloadN X52.here hx rfl (hb hby at_133) rfl ?_
      show Steps p.tables e below (T52.setTop (mkF m 134 #[.val (.int p1), .val (.ref b1), .val (.int (10 : Int32)), .unset] [(.int (10 : Int32))])) _
      refine XS.bipush X52.here hx rfl (hb hby at_134) ?_
      show Steps p.tables e below (T52.setTop (mkF m 136 #[.val (.int p1), .val (.ref b1), .val (.int (10 : Int32)), .unset] [(.int (14 : Int32)), (.int (10 : Int32))])) _
      refine XS.icmpYes X52.here hx rfl (pc0 := 136) (pc' := 143) rfl (hb hby at_136) rfl (feq (by decide : ¬ ((10 : Int32) = (14 : Int32)))).2 (by decide) (by decide) ?_
      show Steps p.tables e below (T52.setTop (mkF m 143 #[.val (.int p1), .val (.ref b1), .val (.int (10 : Int32)), .unset] [])) _
      refine XS.iconst X52.here hx rfl (hb hby at_143) ?_
      show Steps p.tables e below (T52.setTop (mkF m 144 #[.val (.int p1), .val (.ref b1), .val (.int (10 : Int32)), .unset] [(.int (0 : Int32))])) _
      refine XS.istoreN X52.here hx rfl (hb hby at_144) rfl (l' := #[.val (.int p1), .val (.ref b1), .val (.int (10 : Int32)), .val (.int (0 : Int32))]) rfl ?_
      show Steps p.tables e below (T52.setTop (mkF m 145 #[.val (.int p1), .val (.ref b1), .val (.int (10 : Int32)), .val (.int (0 : Int32))] [])) _
      refine XS.aloadN X52.here hx rfl (hb hby at_145) rfl rfl ?_
      show Steps p.tables e below (T52.setTop (mkF m 146 #[.val (.int p1), .val (.ref b1), .val (.int (10 : Int32)), .val (.int (0 : Int32))] [(.ref b1)])) _
      refine XS.iloadN X52.here hx rfl (hb hby at_146) rfl ?_
      show Steps p.tables e below (T52.setTop (mkF m 147 #[.val (.int p1), .val (.ref b1), .val (.int (10 : Int32)), .val (.int (0 : Int32))] [(.int (10 : Int32)), (.ref b1)])) _
      refine X52.aaload hx (j := (10 : Int32)) (v := (.ref w_STATUS)) (by rw [e52]; exact Ar84.1) (State.isArrayOf_alike hZ.alike Ar84.2.1) rfl Ar84.2.2 hin84 hat84 (g := (mkF m 147 #[.val (.int p1), .val (.ref b1), .val (.int (10 : Int32)), .val (.int (0 : Int32))] [(.int (10 : Int32)), (.ref b1)])) rfl rfl (hb hby at_147) _ ?_
      show Steps p.tables e below (T52.setTop (mkF m 148 #[.val (.int p1), .val (.ref b1), .val (.int (10 : Int32)), .val (.int (0 : Int32))] [(.ref w_STATUS)])) _
      refine st85.trans ?_
      show Steps p.tables e below (T85.setTop (mkF m 151 #[.val (.int p1), .val (.ref b1), .val (.int (10 : Int32)), .val (.int (0 : Int32))] [(.int (0 : Int32))])) _
      refine XS.iloadN X85.here hx rfl (hb hby at_151) rfl ?_
      show Steps p.tables e below (T85.setTop (mkF m 152 #[.val (.int p1), .val (.ref b1), .val (.int (10 : Int32)), .val (.int (0 : Int32))] [(.int (0 : Int32)), (.int (0 : Int32))])) _
      refine XS.icmpNo X85.here hx rfl (hb hby at_152) rfl (teq (rfl : (0 : Int32) = (0 : Int32))).2 ?_
      show Steps p.tables e below (T85.setTop (mkF m 155 #[.val (.int p1), .val (.ref b1), .val (.int (10 : Int32)), .val (.int (0 : Int32))] [])) _
      refine XS.iconst X85.here hx rfl (hb hby at_155) ?_
      show Steps p.tables e below (T85.setTop (mkF m 156 #[.val (.int p1), .val (.ref b1), .val (.int (10 : Int32)), .val (.int (0 : Int32))] [(.int (1 : Int32))])) _
      refine XS.goto X85.here hx rfl (pc0 := 156) (pc' := 160) rfl (hb hby at_156) (by decide) (by decide) ?_
      exact kt
    obtain ⟨fs, hr, hrun, hended, hW, hsame⟩ := X85.leave (v := some (.int (1 : Int32))) (fun h => by rw [Bd.returns] at h; cases h)
    refine ⟨_, _, pre86 _ ?_, hrun, hended, _, _, rfl, ?_, ⟨_, rfl⟩, hW, hsame.mono (by decide) (by decide)⟩
    · show Steps p.tables e below (T85.setTop (mkF m 160 #[.val (.int p1), .val (.ref b1), .val (.int (10 : Int32)), .val (.int (0 : Int32))] [(.int (1 : Int32))])) _
      exact retN X85 hx (t := .boolean) Bd.returns (by simp) (hb hby at_160) hr
    · show Q0 Z h0 n0 _ T85.heap _
      rw [hE85]
      exact ⟨rfl, N85⟩
  · obtain ⟨cl87, Ar87, q87, S87, M87, H87, G87⟩ := V52
    have hin87 : ¬ ((11 : Int32) < 0 ∨ cl87.slots.size ≤ ((11 : Int32)).toNatClampNeg) := inb_of S87 ⟨by decide, by decide⟩
    have hat87 : cl87.slots[((11 : Int32)).toNatClampNeg]? = some (.ref w_ORIGINAL_NAME) := H87.at hin87 rfl
    obtain ⟨cq88, kq88, q88a, q88b, q88c⟩ := isOf hZ e52 EE_ORIGINAL_NAME
    obtain ⟨_, _, ⟨T88, L88, k88, n88⟩, -, X88, ⟨Lc88, hQ88, l88, y88, z88⟩, st88⟩ := X52.virtualBack hx (y := (⟨"com/example/muniment_room/munimentroom/content/StandardField", "isDate", "()Z"⟩ : MethodName)) (z := (⟨"com/example/muniment_room/munimentroom/content/StandardField", "isDate", "()Z"⟩ : MethodName)) hown (mvT hZ (hw _ (List.mem_of_getElem? (i := 39) rfl))) (mvT hZ (hw _ (List.mem_of_getElem? (i := 40) rfl))) (notFace_of_selects (args := #[]) (mvT hZ (hw _ (List.mem_of_getElem? (i := 42) rfl)))) (mvT hZ (hw _ (List.mem_of_getElem? (i := 42) rfl))) (mvT hZ (hw _ (List.mem_of_getElem? (i := 41) rfl))) (by decide) (backOf (W := 0) (rm1 l Z a0 hw [] w_ORIGINAL_NAME w_RELEASE_DATE w_CREATE_DATE (0 : Int32) h52 n0 hsz hS1 hS2 (by simp [n1_ORIGINAL_NAME, n2_ORIGINAL_NAME])) hZ (hw _ (List.mem_of_getElem? (i := 43) rfl)) (hw _ (List.mem_of_getElem? (i := 3) rfl)) (by decide) (by decide)) q88a q88c (g := (mkF m 148 #[.val (.int p1), .val (.ref b1), .val (.int (11 : Int32)), .val (.int (0 : Int32))] [(.ref w_ORIGINAL_NAME)])) rfl (by rw [hml]; rfl) (Steps.refl _) (argsL := []) (rest := []) (lenOf pd_rm0_0 rfl) rfl (by show 2 * 0 + _ ≤ _; exact Nat.le_of_eq rfl) (hb hby at_148) (fun _ _ => ⟨rfl, e52, (by decide : 1 + 0 ≤ _), (by decide : 17 + 0 ≤ _)⟩)
    dsimp only [Pt.U, Pt.locs, Pt.cells, Pt.slots] at X88 l88 y88 z88 st88 hQ88
    subst l88 y88 z88
    obtain ⟨rfl, N88q, hE88⟩ := hQ88
    have N88 := Fr.app N52 N88q
    have pre89 : ∀ tt, Steps p.tables e below (T88.setTop (mkF m 160 #[.val (.int p1), .val (.ref b1), .val (.int (11 : Int32)), .val (.int (0 : Int32))] [(.int (1 : Int32))])) tt → Steps p.tables e below (s₁.setTop (entryFrame m #[(.int p1)] maxLocals)) tt := by
      intro tt kt
      refine pre53 tt ?_
      show Steps p.tables e below (T52.setTop (mkF m 126 #[.val (.int p1), .val (.ref b1), .unset, .unset] [(.int (11 : Int32))])) _
      refine XS.istoreN X52.here hx rfl (hb hby at_126) rfl (l' := #[.val (.int p1), .val (.ref b1), .val (.int (11 : Int32)), .unset]) rfl ?_
      show Steps p.tables e below (T52.setTop (mkF m 127 #[.val (.int p1), .val (.ref b1), .val (.int (11 : Int32)), .unset] [])) _
      refine XS.iloadN X52.here hx rfl (hb hby at_127) rfl ?_
      show Steps p.tables e below (T52.setTop (mkF m 128 #[.val (.int p1), .val (.ref b1), .val (.int (11 : Int32)), .unset] [(.int (11 : Int32))])) _
      refine XS.bipush X52.here hx rfl (hb hby at_128) ?_
      show Steps p.tables e below (T52.setTop (mkF m 130 #[.val (.int p1), .val (.ref b1), .val (.int (11 : Int32)), .unset] [(.int (9 : Int32)), (.int (11 : Int32))])) _
      refine XS.icmpNo X52.here hx rfl (hb hby at_130) rfl (feq (by decide : ¬ ((11 : Int32) = (9 : Int32)))).1 ?_
      show Steps p.tables e below (T52.setTop (mkF m 133 #[.val (.int p1), .val (.ref b1), .val (.int (11 : Int32)), .unset] [])) _
      refine XS.iloadN X52.here hx rfl (hb hby at_133) rfl ?_
      show Steps p.tables e below (T52.setTop (mkF m 134 #[.val (.int p1), .val (.ref b1), .val (.int (11 : Int32)), .unset] [(.int (11 : Int32))])) _
      refine XS.bipush X52.here hx rfl (hb hby at_134) ?_
      show Steps p.tables e below (T52.setTop (mkF m 136 #[.val (.int p1), .val (.ref b1), .val (.int (11 : Int32)), .unset] [(.int (14 : Int32)), (.int (11 : Int32))])) _
      refine XS.icmpYes X52.here hx rfl (pc0 := 136) (pc' := 143) rfl (hb hby at_136) rfl (feq (by decide : ¬ ((11 : Int32) = (14 : Int32)))).2 (by decide) (by decide) ?_
      show Steps p.tables e below (T52.setTop (mkF m 143 #[.val (.int p1), .val (.ref b1), .val (.int (11 : Int32)), .unset] [])) _
      refine XS.iconst X52.here hx rfl (hb hby at_143) ?_
      show Steps p.tables e below (T52.setTop (mkF m 144 #[.val (.int p1), .val (.ref b1), .val (.int (11 : Int32)), .unset] [(.int (0 : Int32))])) _
      refine XS.istoreN X52.here hx rfl (hb hby at_144) rfl (l' := #[.val (.int p1), .val (.ref b1), .val (.int (11 : Int32)), .val (.int (0 : Int32))]) rfl ?_
      show Steps p.tables e below (T52.setTop (mkF m 145 #[.val (.int p1), .val (.ref b1), .val (.int (11 : Int32)), .val (.int (0 : Int32))] [])) _
      refine XS.aloadN X52.here hx rfl (hb hby at_145) rfl rfl ?_
      show Steps p.tables e below (T52.setTop (mkF m 146 #[.val (.int p1), .val (.ref b1), .val (.int (11 : Int32)), .val (.int (0 : Int32))] [(.ref b1)])) _
      refine XS.iloadN X52.here hx rfl (hb hby at_146) rfl ?_
      show Steps p.tables e below (T52.setTop (mkF m 147 #[.val (.int p1), .val (.ref b1), .val (.int (11 : Int32)), .val (.int (0 : Int32))] [(.int (11 : Int32)), (.ref b1)])) _
      refine X52.aaload hx (j := (11 : Int32)) (v := (.ref w_ORIGINAL_NAME)) (by rw [e52]; exact Ar87.1) (State.isArrayOf_alike hZ.alike Ar87.2.1) rfl Ar87.2.2 hin87 hat87 (g := (mkF m 147 #[.val (.int p1), .val (.ref b1), .val (.int (11 : Int32)), .val (.int (0 : Int32))] [(.int (11 : Int32)), (.ref b1)])) rfl rfl (hb hby at_147) _ ?_
      show Steps p.tables e below (T52.setTop (mkF m 148 #[.val (.int p1), .val (.ref b1), .val (.int (11 : Int32)), .val (.int (0 : Int32))] [(.ref w_ORIGINAL_NAME)])) _
      refine st88.trans ?_
      show Steps p.tables e below (T88.setTop (mkF m 151 #[.val (.int p1), .val (.ref b1), .val (.int (11 : Int32)), .val (.int (0 : Int32))] [(.int (0 : Int32))])) _
      refine XS.iloadN X88.here hx rfl (hb hby at_151) rfl ?_
      show Steps p.tables e below (T88.setTop (mkF m 152 #[.val (.int p1), .val (.ref b1), .val (.int (11 : Int32)), .val (.int (0 : Int32))] [(.int (0 : Int32)), (.int (0 : Int32))])) _
      refine XS.icmpNo X88.here hx rfl (hb hby at_152) rfl (teq (rfl : (0 : Int32) = (0 : Int32))).2 ?_
      show Steps p.tables e below (T88.setTop (mkF m 155 #[.val (.int p1), .val (.ref b1), .val (.int (11 : Int32)), .val (.int (0 : Int32))] [])) _
      refine XS.iconst X88.here hx rfl (hb hby at_155) ?_
      show Steps p.tables e below (T88.setTop (mkF m 156 #[.val (.int p1), .val (.ref b1), .val (.int (11 : Int32)), .val (.int (0 : Int32))] [(.int (1 : Int32))])) _
      refine XS.goto X88.here hx rfl (pc0 := 156) (pc' := 160) rfl (hb hby at_156) (by decide) (by decide) ?_
      exact kt
    obtain ⟨fs, hr, hrun, hended, hW, hsame⟩ := X88.leave (v := some (.int (1 : Int32))) (fun h => by rw [Bd.returns] at h; cases h)
    refine ⟨_, _, pre89 _ ?_, hrun, hended, _, _, rfl, ?_, ⟨_, rfl⟩, hW, hsame.mono (by decide) (by decide)⟩
    · show Steps p.tables e below (T88.setTop (mkF m 160 #[.val (.int p1), .val (.ref b1), .val (.int (11 : Int32)), .val (.int (0 : Int32))] [(.int (1 : Int32))])) _
      exact retN X88 hx (t := .boolean) Bd.returns (by simp) (hb hby at_160) hr
    · show Q0 Z h0 n0 _ T88.heap _
      rw [hE88]
      exact ⟨rfl, N88⟩
  · obtain ⟨cl90, Ar90, q90, S90, M90, H90, G90⟩ := V52
    have hin90 : ¬ ((12 : Int32) < 0 ∨ cl90.slots.size ≤ ((12 : Int32)).toNatClampNeg) := inb_of S90 ⟨by decide, by decide⟩
    have hat90 : cl90.slots[((12 : Int32)).toNatClampNeg]? = some (.ref w_EXTENSION) := H90.at hin90 rfl
    obtain ⟨cq91, kq91, q91a, q91b, q91c⟩ := isOf hZ e52 EE_EXTENSION
    obtain ⟨_, _, ⟨T91, L91, k91, n91⟩, -, X91, ⟨Lc91, hQ91, l91, y91, z91⟩, st91⟩ := X52.virtualBack hx (y := (⟨"com/example/muniment_room/munimentroom/content/StandardField", "isDate", "()Z"⟩ : MethodName)) (z := (⟨"com/example/muniment_room/munimentroom/content/StandardField", "isDate", "()Z"⟩ : MethodName)) hown (mvT hZ (hw _ (List.mem_of_getElem? (i := 39) rfl))) (mvT hZ (hw _ (List.mem_of_getElem? (i := 40) rfl))) (notFace_of_selects (args := #[]) (mvT hZ (hw _ (List.mem_of_getElem? (i := 42) rfl)))) (mvT hZ (hw _ (List.mem_of_getElem? (i := 42) rfl))) (mvT hZ (hw _ (List.mem_of_getElem? (i := 41) rfl))) (by decide) (backOf (W := 0) (rm1 l Z a0 hw [] w_EXTENSION w_RELEASE_DATE w_CREATE_DATE (0 : Int32) h52 n0 hsz hS1 hS2 (by simp [n1_EXTENSION, n2_EXTENSION])) hZ (hw _ (List.mem_of_getElem? (i := 43) rfl)) (hw _ (List.mem_of_getElem? (i := 3) rfl)) (by decide) (by decide)) q91a q91c (g := (mkF m 148 #[.val (.int p1), .val (.ref b1), .val (.int (12 : Int32)), .val (.int (0 : Int32))] [(.ref w_EXTENSION)])) rfl (by rw [hml]; rfl) (Steps.refl _) (argsL := []) (rest := []) (lenOf pd_rm0_0 rfl) rfl (by show 2 * 0 + _ ≤ _; exact Nat.le_of_eq rfl) (hb hby at_148) (fun _ _ => ⟨rfl, e52, (by decide : 1 + 0 ≤ _), (by decide : 17 + 0 ≤ _)⟩)
    dsimp only [Pt.U, Pt.locs, Pt.cells, Pt.slots] at X91 l91 y91 z91 st91 hQ91
    subst l91 y91 z91
    obtain ⟨rfl, N91q, hE91⟩ := hQ91
    have N91 := Fr.app N52 N91q
    have pre92 : ∀ tt, Steps p.tables e below (T91.setTop (mkF m 160 #[.val (.int p1), .val (.ref b1), .val (.int (12 : Int32)), .val (.int (0 : Int32))] [(.int (1 : Int32))])) tt → Steps p.tables e below (s₁.setTop (entryFrame m #[(.int p1)] maxLocals)) tt := by
      intro tt kt
      refine pre53 tt ?_
      show Steps p.tables e below (T52.setTop (mkF m 126 #[.val (.int p1), .val (.ref b1), .unset, .unset] [(.int (12 : Int32))])) _
      refine XS.istoreN X52.here hx rfl (hb hby at_126) rfl (l' := #[.val (.int p1), .val (.ref b1), .val (.int (12 : Int32)), .unset]) rfl ?_
      show Steps p.tables e below (T52.setTop (mkF m 127 #[.val (.int p1), .val (.ref b1), .val (.int (12 : Int32)), .unset] [])) _
      refine XS.iloadN X52.here hx rfl (hb hby at_127) rfl ?_
      show Steps p.tables e below (T52.setTop (mkF m 128 #[.val (.int p1), .val (.ref b1), .val (.int (12 : Int32)), .unset] [(.int (12 : Int32))])) _
      refine XS.bipush X52.here hx rfl (hb hby at_128) ?_
      show Steps p.tables e below (T52.setTop (mkF m 130 #[.val (.int p1), .val (.ref b1), .val (.int (12 : Int32)), .unset] [(.int (9 : Int32)), (.int (12 : Int32))])) _
      refine XS.icmpNo X52.here hx rfl (hb hby at_130) rfl (feq (by decide : ¬ ((12 : Int32) = (9 : Int32)))).1 ?_
      show Steps p.tables e below (T52.setTop (mkF m 133 #[.val (.int p1), .val (.ref b1), .val (.int (12 : Int32)), .unset] [])) _
      refine XS.iloadN X52.here hx rfl (hb hby at_133) rfl ?_
      show Steps p.tables e below (T52.setTop (mkF m 134 #[.val (.int p1), .val (.ref b1), .val (.int (12 : Int32)), .unset] [(.int (12 : Int32))])) _
      refine XS.bipush X52.here hx rfl (hb hby at_134) ?_
      show Steps p.tables e below (T52.setTop (mkF m 136 #[.val (.int p1), .val (.ref b1), .val (.int (12 : Int32)), .unset] [(.int (14 : Int32)), (.int (12 : Int32))])) _
      refine XS.icmpYes X52.here hx rfl (pc0 := 136) (pc' := 143) rfl (hb hby at_136) rfl (feq (by decide : ¬ ((12 : Int32) = (14 : Int32)))).2 (by decide) (by decide) ?_
      show Steps p.tables e below (T52.setTop (mkF m 143 #[.val (.int p1), .val (.ref b1), .val (.int (12 : Int32)), .unset] [])) _
      refine XS.iconst X52.here hx rfl (hb hby at_143) ?_
      show Steps p.tables e below (T52.setTop (mkF m 144 #[.val (.int p1), .val (.ref b1), .val (.int (12 : Int32)), .unset] [(.int (0 : Int32))])) _
      refine XS.istoreN X52.here hx rfl (hb hby at_144) rfl (l' := #[.val (.int p1), .val (.ref b1), .val (.int (12 : Int32)), .val (.int (0 : Int32))]) rfl ?_
      show Steps p.tables e below (T52.setTop (mkF m 145 #[.val (.int p1), .val (.ref b1), .val (.int (12 : Int32)), .val (.int (0 : Int32))] [])) _
      refine XS.aloadN X52.here hx rfl (hb hby at_145) rfl rfl ?_
      show Steps p.tables e below (T52.setTop (mkF m 146 #[.val (.int p1), .val (.ref b1), .val (.int (12 : Int32)), .val (.int (0 : Int32))] [(.ref b1)])) _
      refine XS.iloadN X52.here hx rfl (hb hby at_146) rfl ?_
      show Steps p.tables e below (T52.setTop (mkF m 147 #[.val (.int p1), .val (.ref b1), .val (.int (12 : Int32)), .val (.int (0 : Int32))] [(.int (12 : Int32)), (.ref b1)])) _
      refine X52.aaload hx (j := (12 : Int32)) (v := (.ref w_EXTENSION)) (by rw [e52]; exact Ar90.1) (State.isArrayOf_alike hZ.alike Ar90.2.1) rfl Ar90.2.2 hin90 hat90 (g := (mkF m 147 #[.val (.int p1), .val (.ref b1), .val (.int (12 : Int32)), .val (.int (0 : Int32))] [(.int (12 : Int32)), (.ref b1)])) rfl rfl (hb hby at_147) _ ?_
      show Steps p.tables e below (T52.setTop (mkF m 148 #[.val (.int p1), .val (.ref b1), .val (.int (12 : Int32)), .val (.int (0 : Int32))] [(.ref w_EXTENSION)])) _
      refine st91.trans ?_
      show Steps p.tables e below (T91.setTop (mkF m 151 #[.val (.int p1), .val (.ref b1), .val (.int (12 : Int32)), .val (.int (0 : Int32))] [(.int (0 : Int32))])) _
      refine XS.iloadN X91.here hx rfl (hb hby at_151) rfl ?_
      show Steps p.tables e below (T91.setTop (mkF m 152 #[.val (.int p1), .val (.ref b1), .val (.int (12 : Int32)), .val (.int (0 : Int32))] [(.int (0 : Int32)), (.int (0 : Int32))])) _
      refine XS.icmpNo X91.here hx rfl (hb hby at_152) rfl (teq (rfl : (0 : Int32) = (0 : Int32))).2 ?_
      show Steps p.tables e below (T91.setTop (mkF m 155 #[.val (.int p1), .val (.ref b1), .val (.int (12 : Int32)), .val (.int (0 : Int32))] [])) _
      refine XS.iconst X91.here hx rfl (hb hby at_155) ?_
      show Steps p.tables e below (T91.setTop (mkF m 156 #[.val (.int p1), .val (.ref b1), .val (.int (12 : Int32)), .val (.int (0 : Int32))] [(.int (1 : Int32))])) _
      refine XS.goto X91.here hx rfl (pc0 := 156) (pc' := 160) rfl (hb hby at_156) (by decide) (by decide) ?_
      exact kt
    obtain ⟨fs, hr, hrun, hended, hW, hsame⟩ := X91.leave (v := some (.int (1 : Int32))) (fun h => by rw [Bd.returns] at h; cases h)
    refine ⟨_, _, pre92 _ ?_, hrun, hended, _, _, rfl, ?_, ⟨_, rfl⟩, hW, hsame.mono (by decide) (by decide)⟩
    · show Steps p.tables e below (T91.setTop (mkF m 160 #[.val (.int p1), .val (.ref b1), .val (.int (12 : Int32)), .val (.int (0 : Int32))] [(.int (1 : Int32))])) _
      exact retN X91 hx (t := .boolean) Bd.returns (by simp) (hb hby at_160) hr
    · show Q0 Z h0 n0 _ T91.heap _
      rw [hE91]
      exact ⟨rfl, N91⟩
  · obtain ⟨cl93, Ar93, q93, S93, M93, H93, G93⟩ := V52
    have hin93 : ¬ ((13 : Int32) < 0 ∨ cl93.slots.size ≤ ((13 : Int32)).toNatClampNeg) := inb_of S93 ⟨by decide, by decide⟩
    have hat93 : cl93.slots[((13 : Int32)).toNatClampNeg]? = some (.ref w_FORMAT) := H93.at hin93 rfl
    obtain ⟨cq94, kq94, q94a, q94b, q94c⟩ := isOf hZ e52 EE_FORMAT
    obtain ⟨_, _, ⟨T94, L94, k94, n94⟩, -, X94, ⟨Lc94, hQ94, l94, y94, z94⟩, st94⟩ := X52.virtualBack hx (y := (⟨"com/example/muniment_room/munimentroom/content/StandardField", "isDate", "()Z"⟩ : MethodName)) (z := (⟨"com/example/muniment_room/munimentroom/content/StandardField", "isDate", "()Z"⟩ : MethodName)) hown (mvT hZ (hw _ (List.mem_of_getElem? (i := 39) rfl))) (mvT hZ (hw _ (List.mem_of_getElem? (i := 40) rfl))) (notFace_of_selects (args := #[]) (mvT hZ (hw _ (List.mem_of_getElem? (i := 42) rfl)))) (mvT hZ (hw _ (List.mem_of_getElem? (i := 42) rfl))) (mvT hZ (hw _ (List.mem_of_getElem? (i := 41) rfl))) (by decide) (backOf (W := 0) (rm1 l Z a0 hw [] w_FORMAT w_RELEASE_DATE w_CREATE_DATE (0 : Int32) h52 n0 hsz hS1 hS2 (by simp [n1_FORMAT, n2_FORMAT])) hZ (hw _ (List.mem_of_getElem? (i := 43) rfl)) (hw _ (List.mem_of_getElem? (i := 3) rfl)) (by decide) (by decide)) q94a q94c (g := (mkF m 148 #[.val (.int p1), .val (.ref b1), .val (.int (13 : Int32)), .val (.int (0 : Int32))] [(.ref w_FORMAT)])) rfl (by rw [hml]; rfl) (Steps.refl _) (argsL := []) (rest := []) (lenOf pd_rm0_0 rfl) rfl (by show 2 * 0 + _ ≤ _; exact Nat.le_of_eq rfl) (hb hby at_148) (fun _ _ => ⟨rfl, e52, (by decide : 1 + 0 ≤ _), (by decide : 17 + 0 ≤ _)⟩)
    dsimp only [Pt.U, Pt.locs, Pt.cells, Pt.slots] at X94 l94 y94 z94 st94 hQ94
    subst l94 y94 z94
    obtain ⟨rfl, N94q, hE94⟩ := hQ94
    have N94 := Fr.app N52 N94q
    have pre95 : ∀ tt, Steps p.tables e below (T94.setTop (mkF m 160 #[.val (.int p1), .val (.ref b1), .val (.int (13 : Int32)), .val (.int (0 : Int32))] [(.int (1 : Int32))])) tt → Steps p.tables e below (s₁.setTop (entryFrame m #[(.int p1)] maxLocals)) tt := by
      intro tt kt
      refine pre53 tt ?_
      show Steps p.tables e below (T52.setTop (mkF m 126 #[.val (.int p1), .val (.ref b1), .unset, .unset] [(.int (13 : Int32))])) _
      refine XS.istoreN X52.here hx rfl (hb hby at_126) rfl (l' := #[.val (.int p1), .val (.ref b1), .val (.int (13 : Int32)), .unset]) rfl ?_
      show Steps p.tables e below (T52.setTop (mkF m 127 #[.val (.int p1), .val (.ref b1), .val (.int (13 : Int32)), .unset] [])) _
      refine XS.iloadN X52.here hx rfl (hb hby at_127) rfl ?_
      show Steps p.tables e below (T52.setTop (mkF m 128 #[.val (.int p1), .val (.ref b1), .val (.int (13 : Int32)), .unset] [(.int (13 : Int32))])) _
      refine XS.bipush X52.here hx rfl (hb hby at_128) ?_
      show Steps p.tables e below (T52.setTop (mkF m 130 #[.val (.int p1), .val (.ref b1), .val (.int (13 : Int32)), .unset] [(.int (9 : Int32)), (.int (13 : Int32))])) _
      refine XS.icmpNo X52.here hx rfl (hb hby at_130) rfl (feq (by decide : ¬ ((13 : Int32) = (9 : Int32)))).1 ?_
      show Steps p.tables e below (T52.setTop (mkF m 133 #[.val (.int p1), .val (.ref b1), .val (.int (13 : Int32)), .unset] [])) _
      refine XS.iloadN X52.here hx rfl (hb hby at_133) rfl ?_
      show Steps p.tables e below (T52.setTop (mkF m 134 #[.val (.int p1), .val (.ref b1), .val (.int (13 : Int32)), .unset] [(.int (13 : Int32))])) _
      refine XS.bipush X52.here hx rfl (hb hby at_134) ?_
      show Steps p.tables e below (T52.setTop (mkF m 136 #[.val (.int p1), .val (.ref b1), .val (.int (13 : Int32)), .unset] [(.int (14 : Int32)), (.int (13 : Int32))])) _
      refine XS.icmpYes X52.here hx rfl (pc0 := 136) (pc' := 143) rfl (hb hby at_136) rfl (feq (by decide : ¬ ((13 : Int32) = (14 : Int32)))).2 (by decide) (by decide) ?_
      show Steps p.tables e below (T52.setTop (mkF m 143 #[.val (.int p1), .val (.ref b1), .val (.int (13 : Int32)), .unset] [])) _
      refine XS.iconst X52.here hx rfl (hb hby at_143) ?_
      show Steps p.tables e below (T52.setTop (mkF m 144 #[.val (.int p1), .val (.ref b1), .val (.int (13 : Int32)), .unset] [(.int (0 : Int32))])) _
      refine XS.istoreN X52.here hx rfl (hb hby at_144) rfl (l' := #[.val (.int p1), .val (.ref b1), .val (.int (13 : Int32)), .val (.int (0 : Int32))]) rfl ?_
      show Steps p.tables e below (T52.setTop (mkF m 145 #[.val (.int p1), .val (.ref b1), .val (.int (13 : Int32)), .val (.int (0 : Int32))] [])) _
      refine XS.aloadN X52.here hx rfl (hb hby at_145) rfl rfl ?_
      show Steps p.tables e below (T52.setTop (mkF m 146 #[.val (.int p1), .val (.ref b1), .val (.int (13 : Int32)), .val (.int (0 : Int32))] [(.ref b1)])) _
      refine XS.iloadN X52.here hx rfl (hb hby at_146) rfl ?_
      show Steps p.tables e below (T52.setTop (mkF m 147 #[.val (.int p1), .val (.ref b1), .val (.int (13 : Int32)), .val (.int (0 : Int32))] [(.int (13 : Int32)), (.ref b1)])) _
      refine X52.aaload hx (j := (13 : Int32)) (v := (.ref w_FORMAT)) (by rw [e52]; exact Ar93.1) (State.isArrayOf_alike hZ.alike Ar93.2.1) rfl Ar93.2.2 hin93 hat93 (g := (mkF m 147 #[.val (.int p1), .val (.ref b1), .val (.int (13 : Int32)), .val (.int (0 : Int32))] [(.int (13 : Int32)), (.ref b1)])) rfl rfl (hb hby at_147) _ ?_
      show Steps p.tables e below (T52.setTop (mkF m 148 #[.val (.int p1), .val (.ref b1), .val (.int (13 : Int32)), .val (.int (0 : Int32))] [(.ref w_FORMAT)])) _
      refine st94.trans ?_
      show Steps p.tables e below (T94.setTop (mkF m 151 #[.val (.int p1), .val (.ref b1), .val (.int (13 : Int32)), .val (.int (0 : Int32))] [(.int (0 : Int32))])) _
      refine XS.iloadN X94.here hx rfl (hb hby at_151) rfl ?_
      show Steps p.tables e below (T94.setTop (mkF m 152 #[.val (.int p1), .val (.ref b1), .val (.int (13 : Int32)), .val (.int (0 : Int32))] [(.int (0 : Int32)), (.int (0 : Int32))])) _
      refine XS.icmpNo X94.here hx rfl (hb hby at_152) rfl (teq (rfl : (0 : Int32) = (0 : Int32))).2 ?_
      show Steps p.tables e below (T94.setTop (mkF m 155 #[.val (.int p1), .val (.ref b1), .val (.int (13 : Int32)), .val (.int (0 : Int32))] [])) _
      refine XS.iconst X94.here hx rfl (hb hby at_155) ?_
      show Steps p.tables e below (T94.setTop (mkF m 156 #[.val (.int p1), .val (.ref b1), .val (.int (13 : Int32)), .val (.int (0 : Int32))] [(.int (1 : Int32))])) _
      refine XS.goto X94.here hx rfl (pc0 := 156) (pc' := 160) rfl (hb hby at_156) (by decide) (by decide) ?_
      exact kt
    obtain ⟨fs, hr, hrun, hended, hW, hsame⟩ := X94.leave (v := some (.int (1 : Int32))) (fun h => by rw [Bd.returns] at h; cases h)
    refine ⟨_, _, pre95 _ ?_, hrun, hended, _, _, rfl, ?_, ⟨_, rfl⟩, hW, hsame.mono (by decide) (by decide)⟩
    · show Steps p.tables e below (T94.setTop (mkF m 160 #[.val (.int p1), .val (.ref b1), .val (.int (13 : Int32)), .val (.int (0 : Int32))] [(.int (1 : Int32))])) _
      exact retN X94 hx (t := .boolean) Bd.returns (by simp) (hb hby at_160) hr
    · show Q0 Z h0 n0 _ T94.heap _
      rw [hE94]
      exact ⟨rfl, N94⟩
  · obtain ⟨cl96, Ar96, q96, S96, M96, H96, G96⟩ := V52
    have hin96 : ¬ ((14 : Int32) < 0 ∨ cl96.slots.size ≤ ((14 : Int32)).toNatClampNeg) := inb_of S96 ⟨by decide, by decide⟩
    have hat96 : cl96.slots[((14 : Int32)).toNatClampNeg]? = some (.ref w_CREATE_DATE) := H96.at hin96 rfl
    obtain ⟨cq97, kq97, q97a, q97b, q97c⟩ := isOf hZ e52 EE_CREATE_DATE
    obtain ⟨_, _, ⟨T97, L97, k97, n97⟩, -, X97, ⟨Lc97, hQ97, l97, y97, z97⟩, st97⟩ := X52.virtualBack hx (y := (⟨"com/example/muniment_room/munimentroom/content/StandardField", "isDate", "()Z"⟩ : MethodName)) (z := (⟨"com/example/muniment_room/munimentroom/content/StandardField", "isDate", "()Z"⟩ : MethodName)) hown (mvT hZ (hw _ (List.mem_of_getElem? (i := 39) rfl))) (mvT hZ (hw _ (List.mem_of_getElem? (i := 40) rfl))) (notFace_of_selects (args := #[]) (mvT hZ (hw _ (List.mem_of_getElem? (i := 42) rfl)))) (mvT hZ (hw _ (List.mem_of_getElem? (i := 42) rfl))) (mvT hZ (hw _ (List.mem_of_getElem? (i := 41) rfl))) (by decide) (backOf (W := 0) (rm1 l Z a0 hw [] w_CREATE_DATE w_RELEASE_DATE w_CREATE_DATE (1 : Int32) h52 n0 hsz hS1 hS2 (by simp)) hZ (hw _ (List.mem_of_getElem? (i := 43) rfl)) (hw _ (List.mem_of_getElem? (i := 3) rfl)) (by decide) (by decide)) q97a q97c (g := (mkF m 148 #[.val (.int p1), .val (.ref b1), .val (.int (14 : Int32)), .val (.int (1 : Int32))] [(.ref w_CREATE_DATE)])) rfl (by rw [hml]; rfl) (Steps.refl _) (argsL := []) (rest := []) (lenOf pd_rm0_0 rfl) rfl (by show 2 * 0 + _ ≤ _; exact Nat.le_of_eq rfl) (hb hby at_148) (fun _ _ => ⟨rfl, e52, (by decide : 1 + 0 ≤ _), (by decide : 17 + 0 ≤ _)⟩)
    dsimp only [Pt.U, Pt.locs, Pt.cells, Pt.slots] at X97 l97 y97 z97 st97 hQ97
    subst l97 y97 z97
    obtain ⟨rfl, N97q, hE97⟩ := hQ97
    have N97 := Fr.app N52 N97q
    have pre98 : ∀ tt, Steps p.tables e below (T97.setTop (mkF m 160 #[.val (.int p1), .val (.ref b1), .val (.int (14 : Int32)), .val (.int (1 : Int32))] [(.int (1 : Int32))])) tt → Steps p.tables e below (s₁.setTop (entryFrame m #[(.int p1)] maxLocals)) tt := by
      intro tt kt
      refine pre53 tt ?_
      show Steps p.tables e below (T52.setTop (mkF m 126 #[.val (.int p1), .val (.ref b1), .unset, .unset] [(.int (14 : Int32))])) _
      refine XS.istoreN X52.here hx rfl (hb hby at_126) rfl (l' := #[.val (.int p1), .val (.ref b1), .val (.int (14 : Int32)), .unset]) rfl ?_
      show Steps p.tables e below (T52.setTop (mkF m 127 #[.val (.int p1), .val (.ref b1), .val (.int (14 : Int32)), .unset] [])) _
      refine XS.iloadN X52.here hx rfl (hb hby at_127) rfl ?_
      show Steps p.tables e below (T52.setTop (mkF m 128 #[.val (.int p1), .val (.ref b1), .val (.int (14 : Int32)), .unset] [(.int (14 : Int32))])) _
      refine XS.bipush X52.here hx rfl (hb hby at_128) ?_
      show Steps p.tables e below (T52.setTop (mkF m 130 #[.val (.int p1), .val (.ref b1), .val (.int (14 : Int32)), .unset] [(.int (9 : Int32)), (.int (14 : Int32))])) _
      refine XS.icmpNo X52.here hx rfl (hb hby at_130) rfl (feq (by decide : ¬ ((14 : Int32) = (9 : Int32)))).1 ?_
      show Steps p.tables e below (T52.setTop (mkF m 133 #[.val (.int p1), .val (.ref b1), .val (.int (14 : Int32)), .unset] [])) _
      refine XS.iloadN X52.here hx rfl (hb hby at_133) rfl ?_
      show Steps p.tables e below (T52.setTop (mkF m 134 #[.val (.int p1), .val (.ref b1), .val (.int (14 : Int32)), .unset] [(.int (14 : Int32))])) _
      refine XS.bipush X52.here hx rfl (hb hby at_134) ?_
      show Steps p.tables e below (T52.setTop (mkF m 136 #[.val (.int p1), .val (.ref b1), .val (.int (14 : Int32)), .unset] [(.int (14 : Int32)), (.int (14 : Int32))])) _
      refine XS.icmpNo X52.here hx rfl (hb hby at_136) rfl (teq (rfl : (14 : Int32) = (14 : Int32))).2 ?_
      show Steps p.tables e below (T52.setTop (mkF m 139 #[.val (.int p1), .val (.ref b1), .val (.int (14 : Int32)), .unset] [])) _
      refine XS.iconst X52.here hx rfl (hb hby at_139) ?_
      show Steps p.tables e below (T52.setTop (mkF m 140 #[.val (.int p1), .val (.ref b1), .val (.int (14 : Int32)), .unset] [(.int (1 : Int32))])) _
      refine XS.goto X52.here hx rfl (pc0 := 140) (pc' := 144) rfl (hb hby at_140) (by decide) (by decide) ?_
      show Steps p.tables e below (T52.setTop (mkF m 144 #[.val (.int p1), .val (.ref b1), .val (.int (14 : Int32)), .unset] [(.int (1 : Int32))])) _
      refine XS.istoreN X52.here hx rfl (hb hby at_144) rfl (l' := #[.val (.int p1), .val (.ref b1), .val (.int (14 : Int32)), .val (.int (1 : Int32))]) rfl ?_
      show Steps p.tables e below (T52.setTop (mkF m 145 #[.val (.int p1), .val (.ref b1), .val (.int (14 : Int32)), .val (.int (1 : Int32))] [])) _
      refine XS.aloadN X52.here hx rfl (hb hby at_145) rfl rfl ?_
      show Steps p.tables e below (T52.setTop (mkF m 146 #[.val (.int p1), .val (.ref b1), .val (.int (14 : Int32)), .val (.int (1 : Int32))] [(.ref b1)])) _
      refine XS.iloadN X52.here hx rfl (hb hby at_146) rfl ?_
      show Steps p.tables e below (T52.setTop (mkF m 147 #[.val (.int p1), .val (.ref b1), .val (.int (14 : Int32)), .val (.int (1 : Int32))] [(.int (14 : Int32)), (.ref b1)])) _
      refine X52.aaload hx (j := (14 : Int32)) (v := (.ref w_CREATE_DATE)) (by rw [e52]; exact Ar96.1) (State.isArrayOf_alike hZ.alike Ar96.2.1) rfl Ar96.2.2 hin96 hat96 (g := (mkF m 147 #[.val (.int p1), .val (.ref b1), .val (.int (14 : Int32)), .val (.int (1 : Int32))] [(.int (14 : Int32)), (.ref b1)])) rfl rfl (hb hby at_147) _ ?_
      show Steps p.tables e below (T52.setTop (mkF m 148 #[.val (.int p1), .val (.ref b1), .val (.int (14 : Int32)), .val (.int (1 : Int32))] [(.ref w_CREATE_DATE)])) _
      refine st97.trans ?_
      show Steps p.tables e below (T97.setTop (mkF m 151 #[.val (.int p1), .val (.ref b1), .val (.int (14 : Int32)), .val (.int (1 : Int32))] [(.int (1 : Int32))])) _
      refine XS.iloadN X97.here hx rfl (hb hby at_151) rfl ?_
      show Steps p.tables e below (T97.setTop (mkF m 152 #[.val (.int p1), .val (.ref b1), .val (.int (14 : Int32)), .val (.int (1 : Int32))] [(.int (1 : Int32)), (.int (1 : Int32))])) _
      refine XS.icmpNo X97.here hx rfl (hb hby at_152) rfl (teq (rfl : (1 : Int32) = (1 : Int32))).2 ?_
      show Steps p.tables e below (T97.setTop (mkF m 155 #[.val (.int p1), .val (.ref b1), .val (.int (14 : Int32)), .val (.int (1 : Int32))] [])) _
      refine XS.iconst X97.here hx rfl (hb hby at_155) ?_
      show Steps p.tables e below (T97.setTop (mkF m 156 #[.val (.int p1), .val (.ref b1), .val (.int (14 : Int32)), .val (.int (1 : Int32))] [(.int (1 : Int32))])) _
      refine XS.goto X97.here hx rfl (pc0 := 156) (pc' := 160) rfl (hb hby at_156) (by decide) (by decide) ?_
      exact kt
    obtain ⟨fs, hr, hrun, hended, hW, hsame⟩ := X97.leave (v := some (.int (1 : Int32))) (fun h => by rw [Bd.returns] at h; cases h)
    refine ⟨_, _, pre98 _ ?_, hrun, hended, _, _, rfl, ?_, ⟨_, rfl⟩, hW, hsame.mono (by decide) (by decide)⟩
    · show Steps p.tables e below (T97.setTop (mkF m 160 #[.val (.int p1), .val (.ref b1), .val (.int (14 : Int32)), .val (.int (1 : Int32))] [(.int (1 : Int32))])) _
      exact retN X97 hx (t := .boolean) Bd.returns (by simp) (hb hby at_160) hr
    · show Q0 Z h0 n0 _ T97.heap _
      rw [hE97]
      exact ⟨rfl, N97⟩
  · obtain ⟨cl99, Ar99, q99, S99, M99, H99, G99⟩ := V52
    have hin99 : ¬ ((15 : Int32) < 0 ∨ cl99.slots.size ≤ ((15 : Int32)).toNatClampNeg) := inb_of S99 ⟨by decide, by decide⟩
    have hat99 : cl99.slots[((15 : Int32)).toNatClampNeg]? = some (.ref w_CHECKED_OUT) := H99.at hin99 rfl
    obtain ⟨cq100, kq100, q100a, q100b, q100c⟩ := isOf hZ e52 EE_CHECKED_OUT
    obtain ⟨_, _, ⟨T100, L100, k100, n100⟩, -, X100, ⟨Lc100, hQ100, l100, y100, z100⟩, st100⟩ := X52.virtualBack hx (y := (⟨"com/example/muniment_room/munimentroom/content/StandardField", "isDate", "()Z"⟩ : MethodName)) (z := (⟨"com/example/muniment_room/munimentroom/content/StandardField", "isDate", "()Z"⟩ : MethodName)) hown (mvT hZ (hw _ (List.mem_of_getElem? (i := 39) rfl))) (mvT hZ (hw _ (List.mem_of_getElem? (i := 40) rfl))) (notFace_of_selects (args := #[]) (mvT hZ (hw _ (List.mem_of_getElem? (i := 42) rfl)))) (mvT hZ (hw _ (List.mem_of_getElem? (i := 42) rfl))) (mvT hZ (hw _ (List.mem_of_getElem? (i := 41) rfl))) (by decide) (backOf (W := 0) (rm1 l Z a0 hw [] w_CHECKED_OUT w_RELEASE_DATE w_CREATE_DATE (0 : Int32) h52 n0 hsz hS1 hS2 (by simp [n1_CHECKED_OUT, n2_CHECKED_OUT])) hZ (hw _ (List.mem_of_getElem? (i := 43) rfl)) (hw _ (List.mem_of_getElem? (i := 3) rfl)) (by decide) (by decide)) q100a q100c (g := (mkF m 148 #[.val (.int p1), .val (.ref b1), .val (.int (15 : Int32)), .val (.int (0 : Int32))] [(.ref w_CHECKED_OUT)])) rfl (by rw [hml]; rfl) (Steps.refl _) (argsL := []) (rest := []) (lenOf pd_rm0_0 rfl) rfl (by show 2 * 0 + _ ≤ _; exact Nat.le_of_eq rfl) (hb hby at_148) (fun _ _ => ⟨rfl, e52, (by decide : 1 + 0 ≤ _), (by decide : 17 + 0 ≤ _)⟩)
    dsimp only [Pt.U, Pt.locs, Pt.cells, Pt.slots] at X100 l100 y100 z100 st100 hQ100
    subst l100 y100 z100
    obtain ⟨rfl, N100q, hE100⟩ := hQ100
    have N100 := Fr.app N52 N100q
    have pre101 : ∀ tt, Steps p.tables e below (T100.setTop (mkF m 160 #[.val (.int p1), .val (.ref b1), .val (.int (15 : Int32)), .val (.int (0 : Int32))] [(.int (1 : Int32))])) tt → Steps p.tables e below (s₁.setTop (entryFrame m #[(.int p1)] maxLocals)) tt := by
      intro tt kt
      refine pre53 tt ?_
      show Steps p.tables e below (T52.setTop (mkF m 126 #[.val (.int p1), .val (.ref b1), .unset, .unset] [(.int (15 : Int32))])) _
      refine XS.istoreN X52.here hx rfl (hb hby at_126) rfl (l' := #[.val (.int p1), .val (.ref b1), .val (.int (15 : Int32)), .unset]) rfl ?_
      show Steps p.tables e below (T52.setTop (mkF m 127 #[.val (.int p1), .val (.ref b1), .val (.int (15 : Int32)), .unset] [])) _
      refine XS.iloadN X52.here hx rfl (hb hby at_127) rfl ?_
      show Steps p.tables e below (T52.setTop (mkF m 128 #[.val (.int p1), .val (.ref b1), .val (.int (15 : Int32)), .unset] [(.int (15 : Int32))])) _
      refine XS.bipush X52.here hx rfl (hb hby at_128) ?_
      show Steps p.tables e below (T52.setTop (mkF m 130 #[.val (.int p1), .val (.ref b1), .val (.int (15 : Int32)), .unset] [(.int (9 : Int32)), (.int (15 : Int32))])) _
      refine XS.icmpNo X52.here hx rfl (hb hby at_130) rfl (feq (by decide : ¬ ((15 : Int32) = (9 : Int32)))).1 ?_
      show Steps p.tables e below (T52.setTop (mkF m 133 #[.val (.int p1), .val (.ref b1), .val (.int (15 : Int32)), .unset] [])) _
      refine XS.iloadN X52.here hx rfl (hb hby at_133) rfl ?_
      show Steps p.tables e below (T52.setTop (mkF m 134 #[.val (.int p1), .val (.ref b1), .val (.int (15 : Int32)), .unset] [(.int (15 : Int32))])) _
      refine XS.bipush X52.here hx rfl (hb hby at_134) ?_
      show Steps p.tables e below (T52.setTop (mkF m 136 #[.val (.int p1), .val (.ref b1), .val (.int (15 : Int32)), .unset] [(.int (14 : Int32)), (.int (15 : Int32))])) _
      refine XS.icmpYes X52.here hx rfl (pc0 := 136) (pc' := 143) rfl (hb hby at_136) rfl (feq (by decide : ¬ ((15 : Int32) = (14 : Int32)))).2 (by decide) (by decide) ?_
      show Steps p.tables e below (T52.setTop (mkF m 143 #[.val (.int p1), .val (.ref b1), .val (.int (15 : Int32)), .unset] [])) _
      refine XS.iconst X52.here hx rfl (hb hby at_143) ?_
      show Steps p.tables e below (T52.setTop (mkF m 144 #[.val (.int p1), .val (.ref b1), .val (.int (15 : Int32)), .unset] [(.int (0 : Int32))])) _
      refine XS.istoreN X52.here hx rfl (hb hby at_144) rfl (l' := #[.val (.int p1), .val (.ref b1), .val (.int (15 : Int32)), .val (.int (0 : Int32))]) rfl ?_
      show Steps p.tables e below (T52.setTop (mkF m 145 #[.val (.int p1), .val (.ref b1), .val (.int (15 : Int32)), .val (.int (0 : Int32))] [])) _
      refine XS.aloadN X52.here hx rfl (hb hby at_145) rfl rfl ?_
      show Steps p.tables e below (T52.setTop (mkF m 146 #[.val (.int p1), .val (.ref b1), .val (.int (15 : Int32)), .val (.int (0 : Int32))] [(.ref b1)])) _
      refine XS.iloadN X52.here hx rfl (hb hby at_146) rfl ?_
      show Steps p.tables e below (T52.setTop (mkF m 147 #[.val (.int p1), .val (.ref b1), .val (.int (15 : Int32)), .val (.int (0 : Int32))] [(.int (15 : Int32)), (.ref b1)])) _
      refine X52.aaload hx (j := (15 : Int32)) (v := (.ref w_CHECKED_OUT)) (by rw [e52]; exact Ar99.1) (State.isArrayOf_alike hZ.alike Ar99.2.1) rfl Ar99.2.2 hin99 hat99 (g := (mkF m 147 #[.val (.int p1), .val (.ref b1), .val (.int (15 : Int32)), .val (.int (0 : Int32))] [(.int (15 : Int32)), (.ref b1)])) rfl rfl (hb hby at_147) _ ?_
      show Steps p.tables e below (T52.setTop (mkF m 148 #[.val (.int p1), .val (.ref b1), .val (.int (15 : Int32)), .val (.int (0 : Int32))] [(.ref w_CHECKED_OUT)])) _
      refine st100.trans ?_
      show Steps p.tables e below (T100.setTop (mkF m 151 #[.val (.int p1), .val (.ref b1), .val (.int (15 : Int32)), .val (.int (0 : Int32))] [(.int (0 : Int32))])) _
      refine XS.iloadN X100.here hx rfl (hb hby at_151) rfl ?_
      show Steps p.tables e below (T100.setTop (mkF m 152 #[.val (.int p1), .val (.ref b1), .val (.int (15 : Int32)), .val (.int (0 : Int32))] [(.int (0 : Int32)), (.int (0 : Int32))])) _
      refine XS.icmpNo X100.here hx rfl (hb hby at_152) rfl (teq (rfl : (0 : Int32) = (0 : Int32))).2 ?_
      show Steps p.tables e below (T100.setTop (mkF m 155 #[.val (.int p1), .val (.ref b1), .val (.int (15 : Int32)), .val (.int (0 : Int32))] [])) _
      refine XS.iconst X100.here hx rfl (hb hby at_155) ?_
      show Steps p.tables e below (T100.setTop (mkF m 156 #[.val (.int p1), .val (.ref b1), .val (.int (15 : Int32)), .val (.int (0 : Int32))] [(.int (1 : Int32))])) _
      refine XS.goto X100.here hx rfl (pc0 := 156) (pc' := 160) rfl (hb hby at_156) (by decide) (by decide) ?_
      exact kt
    obtain ⟨fs, hr, hrun, hended, hW, hsame⟩ := X100.leave (v := some (.int (1 : Int32))) (fun h => by rw [Bd.returns] at h; cases h)
    refine ⟨_, _, pre101 _ ?_, hrun, hended, _, _, rfl, ?_, ⟨_, rfl⟩, hW, hsame.mono (by decide) (by decide)⟩
    · show Steps p.tables e below (T100.setTop (mkF m 160 #[.val (.int p1), .val (.ref b1), .val (.int (15 : Int32)), .val (.int (0 : Int32))] [(.int (1 : Int32))])) _
      exact retN X100 hx (t := .boolean) Bd.returns (by simp) (hb hby at_160) hr
    · show Q0 Z h0 n0 _ T100.heap _
      rw [hE100]
      exact ⟨rfl, N100⟩
  · obtain ⟨cl102, Ar102, q102, S102, M102, H102, G102⟩ := V52
    have hin102 : ¬ ((16 : Int32) < 0 ∨ cl102.slots.size ≤ ((16 : Int32)).toNatClampNeg) := inb_of S102 ⟨by decide, by decide⟩
    have hat102 : cl102.slots[((16 : Int32)).toNatClampNeg]? = some (.ref w_CHECKOUT_USER) := H102.at hin102 rfl
    obtain ⟨cq103, kq103, q103a, q103b, q103c⟩ := isOf hZ e52 EE_CHECKOUT_USER
    obtain ⟨_, _, ⟨T103, L103, k103, n103⟩, -, X103, ⟨Lc103, hQ103, l103, y103, z103⟩, st103⟩ := X52.virtualBack hx (y := (⟨"com/example/muniment_room/munimentroom/content/StandardField", "isDate", "()Z"⟩ : MethodName)) (z := (⟨"com/example/muniment_room/munimentroom/content/StandardField", "isDate", "()Z"⟩ : MethodName)) hown (mvT hZ (hw _ (List.mem_of_getElem? (i := 39) rfl))) (mvT hZ (hw _ (List.mem_of_getElem? (i := 40) rfl))) (notFace_of_selects (args := #[]) (mvT hZ (hw _ (List.mem_of_getElem? (i := 42) rfl)))) (mvT hZ (hw _ (List.mem_of_getElem? (i := 42) rfl))) (mvT hZ (hw _ (List.mem_of_getElem? (i := 41) rfl))) (by decide) (backOf (W := 0) (rm1 l Z a0 hw [] w_CHECKOUT_USER w_RELEASE_DATE w_CREATE_DATE (0 : Int32) h52 n0 hsz hS1 hS2 (by simp [n1_CHECKOUT_USER, n2_CHECKOUT_USER])) hZ (hw _ (List.mem_of_getElem? (i := 43) rfl)) (hw _ (List.mem_of_getElem? (i := 3) rfl)) (by decide) (by decide)) q103a q103c (g := (mkF m 148 #[.val (.int p1), .val (.ref b1), .val (.int (16 : Int32)), .val (.int (0 : Int32))] [(.ref w_CHECKOUT_USER)])) rfl (by rw [hml]; rfl) (Steps.refl _) (argsL := []) (rest := []) (lenOf pd_rm0_0 rfl) rfl (by show 2 * 0 + _ ≤ _; exact Nat.le_of_eq rfl) (hb hby at_148) (fun _ _ => ⟨rfl, e52, (by decide : 1 + 0 ≤ _), (by decide : 17 + 0 ≤ _)⟩)
    dsimp only [Pt.U, Pt.locs, Pt.cells, Pt.slots] at X103 l103 y103 z103 st103 hQ103
    subst l103 y103 z103
    obtain ⟨rfl, N103q, hE103⟩ := hQ103
    have N103 := Fr.app N52 N103q
    have pre104 : ∀ tt, Steps p.tables e below (T103.setTop (mkF m 160 #[.val (.int p1), .val (.ref b1), .val (.int (16 : Int32)), .val (.int (0 : Int32))] [(.int (1 : Int32))])) tt → Steps p.tables e below (s₁.setTop (entryFrame m #[(.int p1)] maxLocals)) tt := by
      intro tt kt
      refine pre53 tt ?_
      show Steps p.tables e below (T52.setTop (mkF m 126 #[.val (.int p1), .val (.ref b1), .unset, .unset] [(.int (16 : Int32))])) _
      refine XS.istoreN X52.here hx rfl (hb hby at_126) rfl (l' := #[.val (.int p1), .val (.ref b1), .val (.int (16 : Int32)), .unset]) rfl ?_
      show Steps p.tables e below (T52.setTop (mkF m 127 #[.val (.int p1), .val (.ref b1), .val (.int (16 : Int32)), .unset] [])) _
      refine XS.iloadN X52.here hx rfl (hb hby at_127) rfl ?_
      show Steps p.tables e below (T52.setTop (mkF m 128 #[.val (.int p1), .val (.ref b1), .val (.int (16 : Int32)), .unset] [(.int (16 : Int32))])) _
      refine XS.bipush X52.here hx rfl (hb hby at_128) ?_
      show Steps p.tables e below (T52.setTop (mkF m 130 #[.val (.int p1), .val (.ref b1), .val (.int (16 : Int32)), .unset] [(.int (9 : Int32)), (.int (16 : Int32))])) _
      refine XS.icmpNo X52.here hx rfl (hb hby at_130) rfl (feq (by decide : ¬ ((16 : Int32) = (9 : Int32)))).1 ?_
      show Steps p.tables e below (T52.setTop (mkF m 133 #[.val (.int p1), .val (.ref b1), .val (.int (16 : Int32)), .unset] [])) _
      refine XS.iloadN X52.here hx rfl (hb hby at_133) rfl ?_
      show Steps p.tables e below (T52.setTop (mkF m 134 #[.val (.int p1), .val (.ref b1), .val (.int (16 : Int32)), .unset] [(.int (16 : Int32))])) _
      refine XS.bipush X52.here hx rfl (hb hby at_134) ?_
      show Steps p.tables e below (T52.setTop (mkF m 136 #[.val (.int p1), .val (.ref b1), .val (.int (16 : Int32)), .unset] [(.int (14 : Int32)), (.int (16 : Int32))])) _
      refine XS.icmpYes X52.here hx rfl (pc0 := 136) (pc' := 143) rfl (hb hby at_136) rfl (feq (by decide : ¬ ((16 : Int32) = (14 : Int32)))).2 (by decide) (by decide) ?_
      show Steps p.tables e below (T52.setTop (mkF m 143 #[.val (.int p1), .val (.ref b1), .val (.int (16 : Int32)), .unset] [])) _
      refine XS.iconst X52.here hx rfl (hb hby at_143) ?_
      show Steps p.tables e below (T52.setTop (mkF m 144 #[.val (.int p1), .val (.ref b1), .val (.int (16 : Int32)), .unset] [(.int (0 : Int32))])) _
      refine XS.istoreN X52.here hx rfl (hb hby at_144) rfl (l' := #[.val (.int p1), .val (.ref b1), .val (.int (16 : Int32)), .val (.int (0 : Int32))]) rfl ?_
      show Steps p.tables e below (T52.setTop (mkF m 145 #[.val (.int p1), .val (.ref b1), .val (.int (16 : Int32)), .val (.int (0 : Int32))] [])) _
      refine XS.aloadN X52.here hx rfl (hb hby at_145) rfl rfl ?_
      show Steps p.tables e below (T52.setTop (mkF m 146 #[.val (.int p1), .val (.ref b1), .val (.int (16 : Int32)), .val (.int (0 : Int32))] [(.ref b1)])) _
      refine XS.iloadN X52.here hx rfl (hb hby at_146) rfl ?_
      show Steps p.tables e below (T52.setTop (mkF m 147 #[.val (.int p1), .val (.ref b1), .val (.int (16 : Int32)), .val (.int (0 : Int32))] [(.int (16 : Int32)), (.ref b1)])) _
      refine X52.aaload hx (j := (16 : Int32)) (v := (.ref w_CHECKOUT_USER)) (by rw [e52]; exact Ar102.1) (State.isArrayOf_alike hZ.alike Ar102.2.1) rfl Ar102.2.2 hin102 hat102 (g := (mkF m 147 #[.val (.int p1), .val (.ref b1), .val (.int (16 : Int32)), .val (.int (0 : Int32))] [(.int (16 : Int32)), (.ref b1)])) rfl rfl (hb hby at_147) _ ?_
      show Steps p.tables e below (T52.setTop (mkF m 148 #[.val (.int p1), .val (.ref b1), .val (.int (16 : Int32)), .val (.int (0 : Int32))] [(.ref w_CHECKOUT_USER)])) _
      refine st103.trans ?_
      show Steps p.tables e below (T103.setTop (mkF m 151 #[.val (.int p1), .val (.ref b1), .val (.int (16 : Int32)), .val (.int (0 : Int32))] [(.int (0 : Int32))])) _
      refine XS.iloadN X103.here hx rfl (hb hby at_151) rfl ?_
      show Steps p.tables e below (T103.setTop (mkF m 152 #[.val (.int p1), .val (.ref b1), .val (.int (16 : Int32)), .val (.int (0 : Int32))] [(.int (0 : Int32)), (.int (0 : Int32))])) _
      refine XS.icmpNo X103.here hx rfl (hb hby at_152) rfl (teq (rfl : (0 : Int32) = (0 : Int32))).2 ?_
      show Steps p.tables e below (T103.setTop (mkF m 155 #[.val (.int p1), .val (.ref b1), .val (.int (16 : Int32)), .val (.int (0 : Int32))] [])) _
      refine XS.iconst X103.here hx rfl (hb hby at_155) ?_
      show Steps p.tables e below (T103.setTop (mkF m 156 #[.val (.int p1), .val (.ref b1), .val (.int (16 : Int32)), .val (.int (0 : Int32))] [(.int (1 : Int32))])) _
      refine XS.goto X103.here hx rfl (pc0 := 156) (pc' := 160) rfl (hb hby at_156) (by decide) (by decide) ?_
      exact kt
    obtain ⟨fs, hr, hrun, hended, hW, hsame⟩ := X103.leave (v := some (.int (1 : Int32))) (fun h => by rw [Bd.returns] at h; cases h)
    refine ⟨_, _, pre104 _ ?_, hrun, hended, _, _, rfl, ?_, ⟨_, rfl⟩, hW, hsame.mono (by decide) (by decide)⟩
    · show Steps p.tables e below (T103.setTop (mkF m 160 #[.val (.int p1), .val (.ref b1), .val (.int (16 : Int32)), .val (.int (0 : Int32))] [(.int (1 : Int32))])) _
      exact retN X103 hx (t := .boolean) Bd.returns (by simp) (hb hby at_160) hr
    · show Q0 Z h0 n0 _ T103.heap _
      rw [hE103]
      exact ⟨rfl, N103⟩
set_option maxRecDepth 65536 in
set_option maxHeartbeats 40000000 in
theorem comes_1 {Post : Tables → Env → Array Value → State → Outcome → State → Prop} (hpost : ∀ tb e args s v u, (limb_1_1.after args s (.returned v) u = true ∧ limb_1_2.after args s (.returned v) u = true ∧ True) → FrameEnd s (.returned v) u (Jvm.fieldLocs frame_1_writes args s ++ Jvm.arrayLocs frame_1_arrays args s ++ Jvm.staticLocs frame_1_statics s) 16 128 → Post tb e args s (.returned v) u) :
    ArmFor flags0 classFile x code maxLocals ret World_1 tables_1 room_1 Calls_1 rest_1 Pre_1 Post := by
  intro l hfl _ _ p e ha hc hk s m args below hf hA hF happ hP
  obtain ⟨hcalls, hrest, hpre⟩ := hP
  obtain ⟨-, -, -, hnamed, -, -, -, hat⟩ := (Spec.applies_iff hf).mp happ
  obtain ⟨hg, hn⟩ := and_e (Cond.before_iff.mp (show (Jvm.Cond.and given_1 narrow_1).before args s = true from hpre))
  have hw := fun d (hd : d ∈ tables_1) => atoms_spec (ws := Jvm.Cond.code x code maxLocals ret :: tables_1) hat d (List.mem_cons_of_mem _ hd)
  obtain ⟨g1a, g1b⟩ := and_e hg
  obtain ⟨w0, rfl⟩ : ∃ w0 : Value, args = #[w0] := by
    have hs : args.size = 1 := by simpa [Cond.value, given_1] using g1a
    obtain ⟨L⟩ := args
    match L, hs with
    | [w0], _ => exact ⟨w0, rfl⟩
  have hfit : Fit s := fun {y c} hc i hi => by
    obtain ⟨ha, rfl⟩ := Array.getElem?_eq_some_iff.mp hc
    have q := List.all_eq_true.mp ((Array.all_eq_true_iff_forall_mem.mp hF) _ (Array.getElem_mem ha)) i (List.mem_range.mpr hi)
    simpa [Array.getElem?_eq_getElem hi] using q
  obtain ⟨i0, ei0⟩ := is_v g1b
  obtain rfl : w0 = (.int i0) := Option.some.inj ei0
  obtain ⟨n1a, n1b⟩ := and_e hn
  obtain ⟨w_REVISION_ID, ev_REVISION_ID⟩ := exa_v n1a
  have S_REVISION_ID := Sta.start ev_REVISION_ID (Or.inr ⟨(hw _ (List.mem_of_getElem? (i := 3) rfl)), (hw _ (List.mem_of_getElem? (i := 4) rfl))⟩)
  have E_REVISION_ID := Exa.start ev_REVISION_ID n1a
  obtain ⟨n2a, n2b⟩ := and_e n1b
  obtain ⟨w_CONTENT_ID, ev_CONTENT_ID⟩ := exa_v n2a
  have S_CONTENT_ID := Sta.start ev_CONTENT_ID (Or.inr ⟨(hw _ (List.mem_of_getElem? (i := 3) rfl)), (hw _ (List.mem_of_getElem? (i := 7) rfl))⟩)
  have E_CONTENT_ID := Exa.start ev_CONTENT_ID n2a
  obtain ⟨n3a, n3b⟩ := and_e n2b
  obtain ⟨w_TITLE, ev_TITLE⟩ := exa_v n3a
  have S_TITLE := Sta.start ev_TITLE (Or.inr ⟨(hw _ (List.mem_of_getElem? (i := 3) rfl)), (hw _ (List.mem_of_getElem? (i := 9) rfl))⟩)
  have E_TITLE := Exa.start ev_TITLE n3a
  obtain ⟨n4a, n4b⟩ := and_e n3b
  obtain ⟨w_TYPE, ev_TYPE⟩ := exa_v n4a
  have S_TYPE := Sta.start ev_TYPE (Or.inr ⟨(hw _ (List.mem_of_getElem? (i := 3) rfl)), (hw _ (List.mem_of_getElem? (i := 11) rfl))⟩)
  have E_TYPE := Exa.start ev_TYPE n4a
  obtain ⟨n5a, n5b⟩ := and_e n4b
  obtain ⟨w_AUTHOR, ev_AUTHOR⟩ := exa_v n5a
  have S_AUTHOR := Sta.start ev_AUTHOR (Or.inr ⟨(hw _ (List.mem_of_getElem? (i := 3) rfl)), (hw _ (List.mem_of_getElem? (i := 13) rfl))⟩)
  have E_AUTHOR := Exa.start ev_AUTHOR n5a
  obtain ⟨n6a, n6b⟩ := and_e n5b
  obtain ⟨w_SECURITY_GROUP, ev_SECURITY_GROUP⟩ := exa_v n6a
  have S_SECURITY_GROUP := Sta.start ev_SECURITY_GROUP (Or.inr ⟨(hw _ (List.mem_of_getElem? (i := 3) rfl)), (hw _ (List.mem_of_getElem? (i := 15) rfl))⟩)
  have E_SECURITY_GROUP := Exa.start ev_SECURITY_GROUP n6a
  obtain ⟨n7a, n7b⟩ := and_e n6b
  obtain ⟨w_ACCOUNT, ev_ACCOUNT⟩ := exa_v n7a
  have S_ACCOUNT := Sta.start ev_ACCOUNT (Or.inr ⟨(hw _ (List.mem_of_getElem? (i := 3) rfl)), (hw _ (List.mem_of_getElem? (i := 17) rfl))⟩)
  have E_ACCOUNT := Exa.start ev_ACCOUNT n7a
  obtain ⟨n8a, n8b⟩ := and_e n7b
  obtain ⟨w_REVISION_NUMBER, ev_REVISION_NUMBER⟩ := exa_v n8a
  have S_REVISION_NUMBER := Sta.start ev_REVISION_NUMBER (Or.inr ⟨(hw _ (List.mem_of_getElem? (i := 3) rfl)), (hw _ (List.mem_of_getElem? (i := 19) rfl))⟩)
  have E_REVISION_NUMBER := Exa.start ev_REVISION_NUMBER n8a
  obtain ⟨n9a, n9b⟩ := and_e n8b
  obtain ⟨w_REVISION_LABEL, ev_REVISION_LABEL⟩ := exa_v n9a
  have S_REVISION_LABEL := Sta.start ev_REVISION_LABEL (Or.inr ⟨(hw _ (List.mem_of_getElem? (i := 3) rfl)), (hw _ (List.mem_of_getElem? (i := 21) rfl))⟩)
  have E_REVISION_LABEL := Exa.start ev_REVISION_LABEL n9a
  obtain ⟨n10a, n10b⟩ := and_e n9b
  obtain ⟨w_RELEASE_DATE, ev_RELEASE_DATE⟩ := exa_v n10a
  have S_RELEASE_DATE := Sta.start ev_RELEASE_DATE (Or.inr ⟨(hw _ (List.mem_of_getElem? (i := 3) rfl)), (hw _ (List.mem_of_getElem? (i := 23) rfl))⟩)
  have E_RELEASE_DATE := Exa.start ev_RELEASE_DATE n10a
  obtain ⟨n11a, n11b⟩ := and_e n10b
  obtain ⟨w_STATUS, ev_STATUS⟩ := exa_v n11a
  have S_STATUS := Sta.start ev_STATUS (Or.inr ⟨(hw _ (List.mem_of_getElem? (i := 3) rfl)), (hw _ (List.mem_of_getElem? (i := 25) rfl))⟩)
  have E_STATUS := Exa.start ev_STATUS n11a
  obtain ⟨n12a, n12b⟩ := and_e n11b
  obtain ⟨w_ORIGINAL_NAME, ev_ORIGINAL_NAME⟩ := exa_v n12a
  have S_ORIGINAL_NAME := Sta.start ev_ORIGINAL_NAME (Or.inr ⟨(hw _ (List.mem_of_getElem? (i := 3) rfl)), (hw _ (List.mem_of_getElem? (i := 27) rfl))⟩)
  have E_ORIGINAL_NAME := Exa.start ev_ORIGINAL_NAME n12a
  obtain ⟨n13a, n13b⟩ := and_e n12b
  obtain ⟨w_EXTENSION, ev_EXTENSION⟩ := exa_v n13a
  have S_EXTENSION := Sta.start ev_EXTENSION (Or.inr ⟨(hw _ (List.mem_of_getElem? (i := 3) rfl)), (hw _ (List.mem_of_getElem? (i := 29) rfl))⟩)
  have E_EXTENSION := Exa.start ev_EXTENSION n13a
  obtain ⟨n14a, n14b⟩ := and_e n13b
  obtain ⟨w_FORMAT, ev_FORMAT⟩ := exa_v n14a
  have S_FORMAT := Sta.start ev_FORMAT (Or.inr ⟨(hw _ (List.mem_of_getElem? (i := 3) rfl)), (hw _ (List.mem_of_getElem? (i := 31) rfl))⟩)
  have E_FORMAT := Exa.start ev_FORMAT n14a
  obtain ⟨n15a, n15b⟩ := and_e n14b
  obtain ⟨w_CREATE_DATE, ev_CREATE_DATE⟩ := exa_v n15a
  have S_CREATE_DATE := Sta.start ev_CREATE_DATE (Or.inr ⟨(hw _ (List.mem_of_getElem? (i := 3) rfl)), (hw _ (List.mem_of_getElem? (i := 33) rfl))⟩)
  have E_CREATE_DATE := Exa.start ev_CREATE_DATE n15a
  obtain ⟨n16a, n16b⟩ := and_e n15b
  obtain ⟨w_CHECKED_OUT, ev_CHECKED_OUT⟩ := exa_v n16a
  have S_CHECKED_OUT := Sta.start ev_CHECKED_OUT (Or.inr ⟨(hw _ (List.mem_of_getElem? (i := 3) rfl)), (hw _ (List.mem_of_getElem? (i := 35) rfl))⟩)
  have E_CHECKED_OUT := Exa.start ev_CHECKED_OUT n16a
  obtain ⟨n17a, n17b⟩ := and_e n16b
  obtain ⟨w_CHECKOUT_USER, ev_CHECKOUT_USER⟩ := exa_v n17a
  have S_CHECKOUT_USER := Sta.start ev_CHECKOUT_USER (Or.inr ⟨(hw _ (List.mem_of_getElem? (i := 3) rfl)), (hw _ (List.mem_of_getElem? (i := 37) rfl))⟩)
  have E_CHECKOUT_USER := Exa.start ev_CHECKOUT_USER n17a
  obtain ⟨n18a, n18b⟩ := and_e n17b
  have F_REVISION_ID_ordinal := own_fld ev_REVISION_ID n18a
  obtain ⟨n19a, n19b⟩ := and_e n18b
  have F_RELEASE_DATE_ordinal := own_fld ev_RELEASE_DATE n19a
  obtain ⟨n20a, n20b⟩ := and_e n19b
  have F_CREATE_DATE_ordinal := own_fld ev_CREATE_DATE n20a
  obtain ⟨n21a, n21b⟩ := and_e n20b
  have F_TYPE_ordinal := own_fld ev_TYPE n21a
  obtain ⟨n22a, n22b⟩ := and_e n21b
  have F_REVISION_LABEL_ordinal := own_fld ev_REVISION_LABEL n22a
  obtain ⟨n23a, n23b⟩ := and_e n22b
  have F_ACCOUNT_ordinal := own_fld ev_ACCOUNT n23a
  obtain ⟨n24a, n24b⟩ := and_e n23b
  have F_REVISION_NUMBER_ordinal := own_fld ev_REVISION_NUMBER n24a
  obtain ⟨n25a, n25b⟩ := and_e n24b
  have F_TITLE_ordinal := own_fld ev_TITLE n25a
  obtain ⟨n26a, n26b⟩ := and_e n25b
  have F_ORIGINAL_NAME_ordinal := own_fld ev_ORIGINAL_NAME n26a
  obtain ⟨n27a, n27b⟩ := and_e n26b
  have F_CONTENT_ID_ordinal := own_fld ev_CONTENT_ID n27a
  obtain ⟨n28a, n28b⟩ := and_e n27b
  have F_FORMAT_ordinal := own_fld ev_FORMAT n28a
  obtain ⟨n29a, n29b⟩ := and_e n28b
  have F_AUTHOR_ordinal := own_fld ev_AUTHOR n29a
  obtain ⟨n30a, n30b⟩ := and_e n29b
  have F_STATUS_ordinal := own_fld ev_STATUS n30a
  obtain ⟨n31a, n31b⟩ := and_e n30b
  have F_CHECKOUT_USER_ordinal := own_fld ev_CHECKOUT_USER n31a
  obtain ⟨n32a, n32b⟩ := and_e n31b
  have F_CHECKED_OUT_ordinal := own_fld ev_CHECKED_OUT n32a
  obtain ⟨n33a, n33b⟩ := and_e n32b
  have F_SECURITY_GROUP_ordinal := own_fld ev_SECURITY_GROUP n33a
  have F_EXTENSION_ordinal := own_fld ev_EXTENSION n33b
  obtain ⟨n, o, h1, h2, h3, _, L, rfl, ⟨rfl, N⟩, hq⟩ := rm0 l s _ hw tables_1 i0 w_REVISION_ID w_CONTENT_ID w_TITLE w_TYPE w_AUTHOR w_SECURITY_GROUP w_ACCOUNT w_REVISION_NUMBER w_REVISION_LABEL w_RELEASE_DATE w_STATUS w_ORIGINAL_NAME w_EXTENSION w_FORMAT w_CREATE_DATE w_CHECKED_OUT w_CHECKOUT_USER s.heap s.heap.size (Nat.le_refl _) S_REVISION_ID S_CONTENT_ID S_TITLE S_TYPE S_AUTHOR S_SECURITY_GROUP S_ACCOUNT S_REVISION_NUMBER S_REVISION_LABEL S_RELEASE_DATE S_STATUS S_ORIGINAL_NAME S_EXTENSION S_FORMAT S_CREATE_DATE S_CHECKED_OUT S_CHECKOUT_USER E_REVISION_ID E_CONTENT_ID E_TITLE E_TYPE E_AUTHOR E_SECURITY_GROUP E_ACCOUNT E_REVISION_NUMBER E_REVISION_LABEL E_RELEASE_DATE E_STATUS E_ORIGINAL_NAME E_EXTENSION E_FORMAT E_CREATE_DATE E_CHECKED_OUT E_CHECKOUT_USER (F_REVISION_ID_ordinal.ne F_RELEASE_DATE_ordinal (by simp)) (F_REVISION_ID_ordinal.ne F_CREATE_DATE_ordinal (by simp)) (F_CONTENT_ID_ordinal.ne F_RELEASE_DATE_ordinal (by simp)) (F_CONTENT_ID_ordinal.ne F_CREATE_DATE_ordinal (by simp)) (F_TITLE_ordinal.ne F_RELEASE_DATE_ordinal (by simp)) (F_TITLE_ordinal.ne F_CREATE_DATE_ordinal (by simp)) (F_TYPE_ordinal.ne F_RELEASE_DATE_ordinal (by simp)) (F_TYPE_ordinal.ne F_CREATE_DATE_ordinal (by simp)) (F_AUTHOR_ordinal.ne F_RELEASE_DATE_ordinal (by simp)) (F_AUTHOR_ordinal.ne F_CREATE_DATE_ordinal (by simp)) (F_SECURITY_GROUP_ordinal.ne F_RELEASE_DATE_ordinal (by simp)) (F_SECURITY_GROUP_ordinal.ne F_CREATE_DATE_ordinal (by simp)) (F_ACCOUNT_ordinal.ne F_RELEASE_DATE_ordinal (by simp)) (F_ACCOUNT_ordinal.ne F_CREATE_DATE_ordinal (by simp)) (F_REVISION_NUMBER_ordinal.ne F_RELEASE_DATE_ordinal (by simp)) (F_REVISION_NUMBER_ordinal.ne F_CREATE_DATE_ordinal (by simp)) (F_REVISION_LABEL_ordinal.ne F_RELEASE_DATE_ordinal (by simp)) (F_REVISION_LABEL_ordinal.ne F_CREATE_DATE_ordinal (by simp)) (F_STATUS_ordinal.ne F_RELEASE_DATE_ordinal (by simp)) (F_STATUS_ordinal.ne F_CREATE_DATE_ordinal (by simp)) (F_ORIGINAL_NAME_ordinal.ne F_RELEASE_DATE_ordinal (by simp)) (F_ORIGINAL_NAME_ordinal.ne F_CREATE_DATE_ordinal (by simp)) (F_EXTENSION_ordinal.ne F_RELEASE_DATE_ordinal (by simp)) (F_EXTENSION_ordinal.ne F_CREATE_DATE_ordinal (by simp)) (F_FORMAT_ordinal.ne F_RELEASE_DATE_ordinal (by simp)) (F_FORMAT_ordinal.ne F_CREATE_DATE_ordinal (by simp)) (F_CHECKED_OUT_ordinal.ne F_RELEASE_DATE_ordinal (by simp)) (F_CHECKED_OUT_ordinal.ne F_CREATE_DATE_ordinal (by simp)) (F_CHECKOUT_USER_ordinal.ne F_RELEASE_DATE_ordinal (by simp)) (F_CHECKOUT_USER_ordinal.ne F_CREATE_DATE_ordinal (by simp)) p e ha hc hk s m _ below hf ((Spec.applies_iff_loose hf).mp happ).1 ⟨rfl, State.Warmed39.refl s, rfl⟩ trivial
  refine ⟨n, _, h1, h2, h3, hpost _ _ _ _ _ _ ⟨Cond.after_iff.mpr rfl, Cond.after_iff.mpr (eq_i res_at (Term.int_eval (1)) rfl), trivial⟩ ⟨hq.1, hq.2.1, (hq.2.2.sift fun y hy => Or.inr (N y hy)).mono (by decide) (by decide)⟩⟩
theorem main_1_1 : Claimed_1_1 := comes_1 fun _ _ _ _ _ _ h hF => ⟨h.1, hF⟩
theorem main_1_2 : Claimed_1_2 := comes_1 fun _ _ _ _ _ _ h hF => ⟨h.2.1, hF⟩
end Jvm.Pilot.@@N@@
namespace Jvm.Pilot.@@N@@
open Jvm Jvm.ClassFile Sem Op Lib Jvm.Free Jvm.Stand Jvm.Pilot.@@N@@.Jvm.D
/-! MADE BY PROGRAM (witnessworld.py) out of the Statement's table words and the real class files: 14 classes; the members and pool entries that the words name. The judged class is class 1, her method 1. -/
namespace start1
open Jvm.ClassFile
def u (s : String) : CpInfo := .utf8 (stringToUtf16 s)
/-- a pool by its gaps: so many unusable entries, then the entry; so many at the end -/
def gap : Nat → List CpInfo → List CpInfo
  | 0, r => r
  | n + 1, r => .unusable :: gap n r
def poolList (es : List (Nat × CpInfo)) (last : Nat) : List CpInfo := es.foldr (fun e r => gap e.1 (e.2 :: r)) (gap last [])
def pool (es : List (Nat × CpInfo)) (last : Nat) : Array CpInfo := ⟨poolList es last⟩
def fileOf (pool : Array CpInfo) (this : Nat) (attrs : Array Attribute := #[]) (ms : Array MethodInfo := #[]) (fl : Nat := 33) (sup : Nat := 0) (ifs : Array Nat := #[]) (fds : Array FieldInfo := #[]) : ClassFile where
  minorVersion := 0
  majorVersion := 65
  constantPool := pool
  accessFlags := fl
  thisClass := this
  superClass := sup
  interfaces := ifs
  fields := fds
  methods := ms
  attributes := attrs
def plain (name : String) (sup : Option ClassId) : Class where
  name := name
  kind := .ordinary
  loader := none
  accessFlags := 33
  super := sup
  interfaces := #[]
  cf := none
  fields := #[]
  methods := #[]
  instanceTypes := #[]
  staticTypes := #[]
  resolved := #[]
  callSites := []
  init := .initialized
  statics := none
  mirror := none

def pool0 : Array CpInfo := pool [(5, u "<init>"), (0, u "()V"), (1, .class_ 10), (1, u "java/lang/Object")] 113

def k0m0 : Method := { name := "<init>", desc := "()V", sig := { parameters := [], returnType := none }, accessFlags := 1, code := none }
/-- java/lang/Object -/
def k0 : Class := { plain "java/lang/Object" none with
  accessFlags := 33
  interfaces := #[]
  cf := some (fileOf pool0 8 #[] #[{ accessFlags := 1, nameIndex := 5, descriptorIndex := 6, attributes := #[] }] 33 0 #[] #[])
  fields := #[]
  methods := #[k0m0]
  instanceTypes := #[]
  staticTypes := #[]
  resolved := Array.replicate 124 none
  statics := none }

def pool1 : Array CpInfo := pool [(2, .class_ 4), (1, u "java/lang/Object"), (0, u "<init>"), (0, u "()V"), (0, .class_ 8), (0, u "com/example/muniment_room/munimentroom/content/StandardField"), (0, .fieldref 7 10), (0, .nameAndType 11 12), (0, u "REVISION_ID"), (0, u "Lcom/example/muniment_room/munimentroom/content/StandardField;"), (0, .fieldref 7 14), (0, .nameAndType 15 12), (0, u "CONTENT_ID"), (0, .fieldref 7 17), (0, .nameAndType 18 12), (0, u "TITLE"), (0, .fieldref 7 20), (0, .nameAndType 21 12), (0, u "TYPE"), (0, .fieldref 7 23), (0, .nameAndType 24 12), (0, u "AUTHOR"), (0, .fieldref 7 26), (0, .nameAndType 27 12), (0, u "SECURITY_GROUP"), (0, .fieldref 7 29), (0, .nameAndType 30 12), (0, u "ACCOUNT"), (0, .fieldref 7 32), (0, .nameAndType 33 12), (0, u "REVISION_NUMBER"), (0, .fieldref 7 35), (0, .nameAndType 36 12), (0, u "REVISION_LABEL"), (0, .fieldref 7 38), (0, .nameAndType 39 12), (0, u "RELEASE_DATE"), (0, .fieldref 7 41), (0, .nameAndType 42 12), (0, u "STATUS"), (0, .fieldref 7 44), (0, .nameAndType 45 12), (0, u "ORIGINAL_NAME"), (0, .fieldref 7 47), (0, .nameAndType 48 12), (0, u "EXTENSION"), (0, .fieldref 7 50), (0, .nameAndType 51 12), (0, u "FORMAT"), (0, .fieldref 7 53), (0, .nameAndType 54 12), (0, u "CREATE_DATE"), (0, .fieldref 7 56), (0, .nameAndType 57 12), (0, u "CHECKED_OUT"), (0, .fieldref 7 59), (0, .nameAndType 60 12), (0, u "CHECKOUT_USER"), (0, .integer 2147483647), (0, .methodref 7 63), (0, .nameAndType 64 65), (0, u "isDate"), (0, u "()Z"), (0, .class_ 67), (0, u "com/example/muniment_room/munimentroom/content/StandardFieldIsDatePinLaw"), (2, u "law"), (0, u "(I)Z")] 5

def k1m0 : Method := { name := "<init>", desc := "()V", sig := { parameters := [], returnType := none }, accessFlags := 2, code := none }
def k1c1 : Code := { maxStack := 4, maxLocals := 4, code := code, exceptionTable := #[], attributes := #[] }
def k1m1 : Method := { name := "law", desc := "(I)Z", sig := { parameters := [.int], returnType := some .boolean }, accessFlags := 9, code := some k1c1 }
/-- com/example/muniment_room/munimentroom/content/StandardFieldIsDatePinLaw -/
def k1 : Class := { plain "com/example/muniment_room/munimentroom/content/StandardFieldIsDatePinLaw" (some 0) with
  accessFlags := 49
  interfaces := #[]
  cf := some (fileOf pool1 66 #[] #[{ accessFlags := 2, nameIndex := 5, descriptorIndex := 6, attributes := #[] }, { accessFlags := 9, nameIndex := 70, descriptorIndex := 71, attributes := #[] }] 49 2 #[] #[])
  fields := #[]
  methods := #[k1m0, k1m1]
  instanceTypes := #[]
  staticTypes := #[]
  resolved := Array.replicate 77 none
  statics := none }

def pool2 : Array CpInfo := pool [(1, .class_ 2), (0, u "java/lang/constant/Constable"), (0, .class_ 4), (0, u "java/lang/Object")] 6

/-- java/lang/constant/Constable -/
def k2 : Class := { plain "java/lang/constant/Constable" (some 0) with
  accessFlags := 1537
  interfaces := #[]
  cf := some (fileOf pool2 1 #[] #[] 1537 3 #[] #[])
  fields := #[]
  methods := #[]
  instanceTypes := #[]
  staticTypes := #[]
  resolved := Array.replicate 11 none
  statics := none }

def pool3 : Array CpInfo := pool [(1, .class_ 2), (0, u "java/lang/Comparable"), (0, .class_ 4), (0, u "java/lang/Object")] 7

/-- java/lang/Comparable -/
def k3 : Class := { plain "java/lang/Comparable" (some 0) with
  accessFlags := 1537
  interfaces := #[]
  cf := some (fileOf pool3 1 #[] #[] 1537 3 #[] #[])
  fields := #[]
  methods := #[]
  instanceTypes := #[]
  staticTypes := #[]
  resolved := Array.replicate 12 none
  statics := none }

def pool4 : Array CpInfo := pool [(1, .class_ 2), (0, u "java/io/Serializable"), (0, .class_ 4), (0, u "java/lang/Object")] 2

/-- java/io/Serializable -/
def k4 : Class := { plain "java/io/Serializable" (some 0) with
  accessFlags := 1537
  interfaces := #[]
  cf := some (fileOf pool4 1 #[] #[] 1537 3 #[] #[])
  fields := #[]
  methods := #[]
  instanceTypes := #[]
  staticTypes := #[]
  resolved := Array.replicate 7 none
  statics := none }

def pool5 : Array CpInfo := pool [(2, .class_ 4), (1, u "java/lang/Enum"), (0, u "name"), (0, u "Ljava/lang/String;"), (2, u "ordinal"), (0, u "I"), (1, .class_ 14), (1, u "java/lang/Object"), (4, u "hash"), (86, .class_ 108), (1, u "java/lang/Enum$EnumDesc"), (2, .class_ 112), (0, u "java/lang/constant/Constable"), (0, .class_ 114), (0, u "java/lang/Comparable"), (0, .class_ 116), (0, u "java/io/Serializable")] 87

/-- java/lang/Enum -/
def k5 : Class := { plain "java/lang/Enum" (some 0) with
  accessFlags := 1057
  interfaces := #[2, 3, 4]
  cf := some (fileOf pool5 2 #[.nestMembers #[106]] #[] 1057 12 #[111, 113, 115] #[{ accessFlags := 18, nameIndex := 5, descriptorIndex := 6, attributes := #[] }, { accessFlags := 18, nameIndex := 9, descriptorIndex := 10, attributes := #[] }, { accessFlags := 2, nameIndex := 19, descriptorIndex := 10, attributes := #[] }])
  fields := #[{ name := "name", type := (.object "java/lang/String"), accessFlags := 18, slot := 0, constantValue := 0 }, { name := "ordinal", type := .int, accessFlags := 18, slot := 1, constantValue := 0 }, { name := "hash", type := .int, accessFlags := 2, slot := 2, constantValue := 0 }]
  methods := #[]
  instanceTypes := #[(.object "java/lang/String"), .int, .int]
  staticTypes := #[]
  resolved := Array.replicate 204 none
  statics := none }

def pool6 : Array CpInfo := pool [(4, .class_ 6), (1, u "com/example/muniment_room/munimentroom/content/MetadataField"), (3, .class_ 12), (1, u "com/example/muniment_room/munimentroom/content/MetadataField$Origin"), (56, .class_ 70), (0, u "java/lang/Object")] 32

/-- com/example/muniment_room/munimentroom/content/MetadataField -/
def k6 : Class := { plain "com/example/muniment_room/munimentroom/content/MetadataField" (some 0) with
  accessFlags := 1537
  interfaces := #[]
  cf := some (fileOf pool6 4 #[.nestMembers #[10]] #[] 1537 69 #[] #[])
  fields := #[]
  methods := #[]
  instanceTypes := #[]
  staticTypes := #[]
  resolved := Array.replicate 103 none
  statics := none }

def pool7 : Array CpInfo := pool [(1, .class_ 2), (0, u "com/example/muniment_room/munimentroom/content/StandardField"), (2, u "REVISION_ID"), (0, u "Lcom/example/muniment_room/munimentroom/content/StandardField;"), (2, u "CONTENT_ID"), (2, u "TITLE"), (2, u "TYPE"), (2, u "AUTHOR"), (2, u "SECURITY_GROUP"), (2, u "ACCOUNT"), (2, u "REVISION_NUMBER"), (2, u "REVISION_LABEL"), (0, .fieldref 1 32), (0, .nameAndType 33 6), (0, u "RELEASE_DATE"), (2, u "STATUS"), (2, u "ORIGINAL_NAME"), (2, u "EXTENSION"), (2, u "FORMAT"), (0, .fieldref 1 47), (0, .nameAndType 48 6), (0, u "CREATE_DATE"), (2, u "CHECKED_OUT"), (2, u "CHECKOUT_USER"), (2, u "$VALUES"), (0, u "[Lcom/example/muniment_room/munimentroom/content/StandardField;"), (6, .class_ 67), (1, u "java/lang/Enum"), (8, u "fieldName"), (0, u "Ljava/lang/String;"), (2, u "caption"), (2, u "origin"), (0, u "Lcom/example/muniment_room/munimentroom/content/MetadataField$Origin;"), (2, u "limit"), (0, u "I"), (106, .class_ 196), (0, u "com/example/muniment_room/munimentroom/content/MetadataField"), (10, u "isDate"), (0, u "()Z")] 9

def k7c0 : Code := { maxStack := 2, maxLocals := 1, code := prog_38_method_8_code, exceptionTable := #[], attributes := #[] }
def k7m0 : Method := { name := "isDate", desc := "()Z", sig := { parameters := [], returnType := some .boolean }, accessFlags := 1, code := some k7c0 }
/-- com/example/muniment_room/munimentroom/content/StandardField -/
def k7 : Class := { plain "com/example/muniment_room/munimentroom/content/StandardField" (some 5) with
  accessFlags := 16433
  interfaces := #[6]
  cf := some (fileOf pool7 1 #[] #[{ accessFlags := 1, nameIndex := 207, descriptorIndex := 208, attributes := #[] }] 16433 65 #[195] #[{ accessFlags := 16409, nameIndex := 5, descriptorIndex := 6, attributes := #[] }, { accessFlags := 16409, nameIndex := 9, descriptorIndex := 6, attributes := #[] }, { accessFlags := 16409, nameIndex := 12, descriptorIndex := 6, attributes := #[] }, { accessFlags := 16409, nameIndex := 15, descriptorIndex := 6, attributes := #[] }, { accessFlags := 16409, nameIndex := 18, descriptorIndex := 6, attributes := #[] }, { accessFlags := 16409, nameIndex := 21, descriptorIndex := 6, attributes := #[] }, { accessFlags := 16409, nameIndex := 24, descriptorIndex := 6, attributes := #[] }, { accessFlags := 16409, nameIndex := 27, descriptorIndex := 6, attributes := #[] }, { accessFlags := 16409, nameIndex := 30, descriptorIndex := 6, attributes := #[] }, { accessFlags := 16409, nameIndex := 33, descriptorIndex := 6, attributes := #[] }, { accessFlags := 16409, nameIndex := 36, descriptorIndex := 6, attributes := #[] }, { accessFlags := 16409, nameIndex := 39, descriptorIndex := 6, attributes := #[] }, { accessFlags := 16409, nameIndex := 42, descriptorIndex := 6, attributes := #[] }, { accessFlags := 16409, nameIndex := 45, descriptorIndex := 6, attributes := #[] }, { accessFlags := 16409, nameIndex := 48, descriptorIndex := 6, attributes := #[] }, { accessFlags := 16409, nameIndex := 51, descriptorIndex := 6, attributes := #[] }, { accessFlags := 16409, nameIndex := 54, descriptorIndex := 6, attributes := #[] }, { accessFlags := 18, nameIndex := 76, descriptorIndex := 77, attributes := #[] }, { accessFlags := 18, nameIndex := 80, descriptorIndex := 77, attributes := #[] }, { accessFlags := 18, nameIndex := 83, descriptorIndex := 84, attributes := #[] }, { accessFlags := 18, nameIndex := 87, descriptorIndex := 88, attributes := #[] }, { accessFlags := 4122, nameIndex := 57, descriptorIndex := 58, attributes := #[] }])
  fields := #[{ name := "REVISION_ID", type := (.object "com/example/muniment_room/munimentroom/content/StandardField"), accessFlags := 16409, slot := 0, constantValue := 0 }, { name := "CONTENT_ID", type := (.object "com/example/muniment_room/munimentroom/content/StandardField"), accessFlags := 16409, slot := 1, constantValue := 0 }, { name := "TITLE", type := (.object "com/example/muniment_room/munimentroom/content/StandardField"), accessFlags := 16409, slot := 2, constantValue := 0 }, { name := "TYPE", type := (.object "com/example/muniment_room/munimentroom/content/StandardField"), accessFlags := 16409, slot := 3, constantValue := 0 }, { name := "AUTHOR", type := (.object "com/example/muniment_room/munimentroom/content/StandardField"), accessFlags := 16409, slot := 4, constantValue := 0 }, { name := "SECURITY_GROUP", type := (.object "com/example/muniment_room/munimentroom/content/StandardField"), accessFlags := 16409, slot := 5, constantValue := 0 }, { name := "ACCOUNT", type := (.object "com/example/muniment_room/munimentroom/content/StandardField"), accessFlags := 16409, slot := 6, constantValue := 0 }, { name := "REVISION_NUMBER", type := (.object "com/example/muniment_room/munimentroom/content/StandardField"), accessFlags := 16409, slot := 7, constantValue := 0 }, { name := "REVISION_LABEL", type := (.object "com/example/muniment_room/munimentroom/content/StandardField"), accessFlags := 16409, slot := 8, constantValue := 0 }, { name := "RELEASE_DATE", type := (.object "com/example/muniment_room/munimentroom/content/StandardField"), accessFlags := 16409, slot := 9, constantValue := 0 }, { name := "STATUS", type := (.object "com/example/muniment_room/munimentroom/content/StandardField"), accessFlags := 16409, slot := 10, constantValue := 0 }, { name := "ORIGINAL_NAME", type := (.object "com/example/muniment_room/munimentroom/content/StandardField"), accessFlags := 16409, slot := 11, constantValue := 0 }, { name := "EXTENSION", type := (.object "com/example/muniment_room/munimentroom/content/StandardField"), accessFlags := 16409, slot := 12, constantValue := 0 }, { name := "FORMAT", type := (.object "com/example/muniment_room/munimentroom/content/StandardField"), accessFlags := 16409, slot := 13, constantValue := 0 }, { name := "CREATE_DATE", type := (.object "com/example/muniment_room/munimentroom/content/StandardField"), accessFlags := 16409, slot := 14, constantValue := 0 }, { name := "CHECKED_OUT", type := (.object "com/example/muniment_room/munimentroom/content/StandardField"), accessFlags := 16409, slot := 15, constantValue := 0 }, { name := "CHECKOUT_USER", type := (.object "com/example/muniment_room/munimentroom/content/StandardField"), accessFlags := 16409, slot := 16, constantValue := 0 }, { name := "fieldName", type := (.object "java/lang/String"), accessFlags := 18, slot := 3, constantValue := 0 }, { name := "caption", type := (.object "java/lang/String"), accessFlags := 18, slot := 4, constantValue := 0 }, { name := "origin", type := (.object "com/example/muniment_room/munimentroom/content/MetadataField$Origin"), accessFlags := 18, slot := 5, constantValue := 0 }, { name := "limit", type := .int, accessFlags := 18, slot := 6, constantValue := 0 }, { name := "$VALUES", type := (.array (.object "com/example/muniment_room/munimentroom/content/StandardField")), accessFlags := 4122, slot := 17, constantValue := 0 }]
  methods := #[k7m0]
  instanceTypes := #[(.object "java/lang/String"), .int, .int, (.object "java/lang/String"), (.object "java/lang/String"), (.object "com/example/muniment_room/munimentroom/content/MetadataField$Origin"), .int]
  staticTypes := #[(.object "com/example/muniment_room/munimentroom/content/StandardField"), (.object "com/example/muniment_room/munimentroom/content/StandardField"), (.object "com/example/muniment_room/munimentroom/content/StandardField"), (.object "com/example/muniment_room/munimentroom/content/StandardField"), (.object "com/example/muniment_room/munimentroom/content/StandardField"), (.object "com/example/muniment_room/munimentroom/content/StandardField"), (.object "com/example/muniment_room/munimentroom/content/StandardField"), (.object "com/example/muniment_room/munimentroom/content/StandardField"), (.object "com/example/muniment_room/munimentroom/content/StandardField"), (.object "com/example/muniment_room/munimentroom/content/StandardField"), (.object "com/example/muniment_room/munimentroom/content/StandardField"), (.object "com/example/muniment_room/munimentroom/content/StandardField"), (.object "com/example/muniment_room/munimentroom/content/StandardField"), (.object "com/example/muniment_room/munimentroom/content/StandardField"), (.object "com/example/muniment_room/munimentroom/content/StandardField"), (.object "com/example/muniment_room/munimentroom/content/StandardField"), (.object "com/example/muniment_room/munimentroom/content/StandardField"), (.array (.object "com/example/muniment_room/munimentroom/content/StandardField"))]
  resolved := Array.replicate 218 none
  statics := some 0 }

def pool8 : Array CpInfo := pool [(1, u "java/lang/Cloneable"), (0, .class_ 1), (0, u "java/lang/Object"), (0, .class_ 3)] 3

/-- java/lang/Cloneable -/
def k8 : Class := { plain "java/lang/Cloneable" (some 0) with
  accessFlags := 1537
  interfaces := #[]
  cf := some (fileOf pool8 2 #[] #[] 1537 4 #[] #[])
  fields := #[]
  methods := #[]
  instanceTypes := #[]
  staticTypes := #[]
  resolved := Array.replicate 8 none
  statics := none }

/-- the primitive byte -/
def k9 : Class := { plain "byte" none with kind := .primitive 'B', accessFlags := 0x411 }
/-- [B -/
def k10 : Class := { plain "[B" (some 0) with kind := .array 9 .byte, interfaces := #[8, 4], accessFlags := 1041 }

/-- the primitive int -/
def k11 : Class := { plain "int" none with kind := .primitive 'I', accessFlags := 0x411 }
/-- [I -/
def k12 : Class := { plain "[I" (some 0) with kind := .array 11 .int, interfaces := #[8, 4], accessFlags := 1041 }

/-- [Lcom/example/muniment_room/munimentroom/content/StandardField; -/
def k13 : Class := { plain "[Lcom/example/muniment_room/munimentroom/content/StandardField;" (some 0) with kind := .array 7 (.object "com/example/muniment_room/munimentroom/content/StandardField"), interfaces := #[8, 4], accessFlags := 1041 }

def heap : Heap := #[{ cls := 7, slots := #[.ref 1, .ref 2, .ref 3, .ref 4, .ref 5, .ref 6, .ref 7, .ref 8, .ref 9, .ref 10, .ref 11, .ref 12, .ref 13, .ref 14, .ref 15, .ref 16, .ref 17, .null], vm := .statics 7 },
  { cls := 7, slots := #[.null, .int 0, .int 0, .null, .null, .null, .int 0], vm := .none },
  { cls := 7, slots := #[.null, .int 1, .int 0, .null, .null, .null, .int 0], vm := .none },
  { cls := 7, slots := #[.null, .int 2, .int 0, .null, .null, .null, .int 0], vm := .none },
  { cls := 7, slots := #[.null, .int 3, .int 0, .null, .null, .null, .int 0], vm := .none },
  { cls := 7, slots := #[.null, .int 4, .int 0, .null, .null, .null, .int 0], vm := .none },
  { cls := 7, slots := #[.null, .int 5, .int 0, .null, .null, .null, .int 0], vm := .none },
  { cls := 7, slots := #[.null, .int 6, .int 0, .null, .null, .null, .int 0], vm := .none },
  { cls := 7, slots := #[.null, .int 7, .int 0, .null, .null, .null, .int 0], vm := .none },
  { cls := 7, slots := #[.null, .int 8, .int 0, .null, .null, .null, .int 0], vm := .none },
  { cls := 7, slots := #[.null, .int 9, .int 0, .null, .null, .null, .int 0], vm := .none },
  { cls := 7, slots := #[.null, .int 10, .int 0, .null, .null, .null, .int 0], vm := .none },
  { cls := 7, slots := #[.null, .int 11, .int 0, .null, .null, .null, .int 0], vm := .none },
  { cls := 7, slots := #[.null, .int 12, .int 0, .null, .null, .null, .int 0], vm := .none },
  { cls := 7, slots := #[.null, .int 13, .int 0, .null, .null, .null, .int 0], vm := .none },
  { cls := 7, slots := #[.null, .int 14, .int 0, .null, .null, .null, .int 0], vm := .none },
  { cls := 7, slots := #[.null, .int 15, .int 0, .null, .null, .null, .int 0], vm := .none },
  { cls := 7, slots := #[.null, .int 16, .int 0, .null, .null, .null, .int 0], vm := .none }]
def classes : Array Class := #[k0, k1, k2, k3, k4, k5, k6, k7, k8, k9, k10, k11, k12, k13]
def interned : List (Array UInt16 × Addr) := []
def slotsUsed : Nat := 137
def theMethod : MethodId := ⟨1, 1⟩
def args0 : Array Value := #[.int 5]
def aboutOver (below : List Frame) : State where
  vm := { classes := classes, interned := interned.toArray }
  heap := heap
  slotsUsed := slotsUsed
  threads := #[{ frames := .invoking theMethod args0 :: below }]
def below0 : List Frame := [.native { method := ⟨0, 0⟩, args := #[] }]
def about1 : State := aboutOver below0
def p0 : Program := .bare "" "" ""
def e0 : Env := launch0.env 0 0 0
theorem w_frames : about1.frames = Frame.invoking theMethod args0 :: below0 := rfl
set_option maxRecDepth 65536 in
theorem w_args : argsFit about1.vm theMethod args0 = true := by decide +kernel
set_option maxRecDepth 65536 in
theorem w_heap : heapFits about1 = true := by decide +kernel
set_option maxRecDepth 65536 in
theorem w_runnable : about1.curStatus? = some .runnable := by decide +kernel
set_option maxRecDepth 65536 in
theorem w_alone : about1.alone = true := by decide +kernel
set_option maxRecDepth 65536 in
theorem w_named : about1.methodNamed? x = some theMethod := by decide +kernel
set_option maxRecDepth 65536 in
theorem w_hears : about1.hears theMethod below0 = true := by decide +kernel
set_option maxRecDepth 65536 in
theorem w_ripe : about1.ripe theMethod args0 below0 = true := by decide +kernel
theorem w_running : about1.status = .running := rfl
set_option maxRecDepth 65536 in
theorem w_room : about1.hasRoom e0.platform room_1 = true :=
  launch0.hasRoom_least _ room_1 (by decide +kernel) (by decide +kernel) (by decide +kernel) (by decide +kernel) (by decide +kernel) (by decide +kernel)
theorem allAtoms_all (ts : List Jvm.Cond) (a : Array Jvm.Value) (st : Jvm.State) : (allAtoms ts).before a st = ts.all (fun c => c.before a st) := by
  induction ts with
  | nil => rfl
  | cons c t ih =>
    show (Jvm.Cond.and c (allAtoms t)).before a st = _
    rw [Jvm.Cond.before_and, ih, List.all_cons]
def words1 : List Jvm.Cond := Jvm.Cond.code x code maxLocals ret :: tables_1
/-- a 'code' word, met by the world's own term for the bytes: nothing is compared byte by byte -/
theorem code_word {y : MethodName} {bytes : ByteArray} {mx : Nat} {rt : Option FieldType} {a : Array Value} {s : State} {m : MethodId} {meth : Method} {c : Code} (h1 : s.methodNamed? y = some m) (h2 : s.vm.method? m = some meth) (h3 : meth.code = some c) (h4 : c.code = bytes)
    (h5 : (c.maxLocals == mx && c.exceptionTable.isEmpty && decide (c.maxStack ≤ mostOperands) && decide (meth.sig.returnType = rt) && !meth.locks && decide (parseMethodDescriptor y.desc = some meth.sig)) = true) : (Jvm.Cond.code y bytes mx rt).before a s = true := by
  simp only [Bool.and_eq_true, beq_iff_eq, Bool.not_eq_true', decide_eq_true_eq] at h5
  obtain ⟨⟨⟨⟨⟨g1, g2⟩, g3⟩, g4⟩, g5⟩, g6⟩ := h5
  simp [Cond.before, Cond.holds, Cond.value, h1, h2, h3, h4, g1, g2, g3, g4, g5, g6]
def isCode : Jvm.Cond → Bool
  | .code _ _ _ _ => true
  | _ => false
theorem all_split {L : List Jvm.Cond} {P : Jvm.Cond → Bool} (h1 : L.all (fun c => isCode c || P c) = true) (h2 : ∀ c ∈ L.filter isCode, P c = true) : L.all P = true := by
  refine List.all_eq_true.mpr fun c hc => ?_
  have h := List.all_eq_true.mp h1 c hc
  rcases Bool.eq_false_or_eq_true (isCode c) with hi | hi
  · exact h2 c (List.mem_filter.mpr ⟨hc, hi⟩)
  · simpa [hi] using h
set_option maxRecDepth 65536 in
theorem w_c0 : (Jvm.Cond.code x code maxLocals ret).before args0 about1 = true := code_word (m := ⟨1, 1⟩) (meth := k1m1) (c := k1c1) (by decide +kernel) rfl rfl rfl (by decide +kernel)
set_option maxRecDepth 65536 in
theorem w_c1 : (Jvm.Cond.code ({ cls := "com/example/muniment_room/munimentroom/content/StandardField", name := "isDate", desc := "()Z" } : Jvm.MethodName) prog_38_method_8_code (1 : Nat) (Option.some Jvm.ClassFile.FieldType.boolean)).before args0 about1 = true := code_word (m := ⟨7, 0⟩) (meth := k7m0) (c := k7c0) (by decide +kernel) rfl rfl rfl (by decide +kernel)
def codes1 : List Jvm.Cond := [Jvm.Cond.code x code maxLocals ret, Jvm.Cond.code ({ cls := "com/example/muniment_room/munimentroom/content/StandardField", name := "isDate", desc := "()Z" } : Jvm.MethodName) prog_38_method_8_code (1 : Nat) (Option.some Jvm.ClassFile.FieldType.boolean)]
set_option maxRecDepth 65536 in
theorem codes_eq : words1.filter isCode = codes1 := rfl
theorem w_codes : ∀ c ∈ words1.filter isCode, c.before args0 about1 = true := by
  rw [codes_eq]
  intro c hc
  simp only [codes1, List.mem_cons, List.not_mem_nil, or_false] at hc
  rcases hc with rfl | rfl
  · exact w_c0
  · exact w_c1
set_option maxRecDepth 65536 in
theorem w_t1 : (words1.take 24).all (fun c => isCode c || c.before args0 about1) = true := by decide +kernel
set_option maxRecDepth 65536 in
theorem w_t2 : (words1.drop 24).all (fun c => isCode c || c.before args0 about1) = true := by decide +kernel
theorem w_tables : (allAtoms (Jvm.Cond.code x code maxLocals ret :: tables_1)).before args0 about1 = true := by
  rw [allAtoms_all]
  show words1.all (fun c => c.before args0 about1) = true
  refine all_split ?_ w_codes
  rw [← List.take_append_drop 24 words1, List.all_append, w_t1, w_t2]
  rfl
set_option maxRecDepth 65536 in
theorem w_case : (Jvm.Cond.and given_1 narrow_1).before args0 about1 = true := by decide +kernel
theorem w_applies : (headSpec (Jvm.Cond.code x code maxLocals ret :: tables_1) room_1).applies x e0.platform about1 = true :=
  (Spec.applies_iff w_frames).mpr ⟨w_running, w_runnable, w_alone, w_named, w_hears, w_ripe, w_room, w_tables⟩
theorem atStart : AtStart classFile x code maxLocals ret World_1 tables_1 room_1 Calls_1 rest_1 Pre_1 launch0 p0 e0 about1 theMethod args0 below0 :=
  ⟨lists_1, trivial, launch0.admits_env _ _ _, launch0.least_env, fairChoices_fair.cas, fairChoices_fair.clock, w_frames, w_args, w_heap, w_applies, trivial, trivial, w_case⟩
end start1
theorem witness_1 : WitnessClaimed_1 := ⟨start1.p0, start1.e0, start1.about1, start1.theMethod, start1.args0, start1.below0, start1.atStart⟩
end Jvm.Pilot.@@N@@
