import JvmDerived
import JvmDerived.Pilot.@@N@@Statement
import JvmDerived.Pilot.@@N@@Code
set_option linter.unusedVariables false
set_option linter.unusedSimpArgs false
namespace Jvm.RoadKit
open Sem ClassFile Op Lib Jvm.Stand Jvm.Free Jvm.LawKit
section New
variable {p : Program} {l : Launch} {e : Env} {R : Room} {s : State} {m : MethodId} {args : Array Value} {below : List Frame} {meth : Method} {c : Code} {T : State} {locs : List Loc} {cells slots : Nat}
theorem retI (X : Stand p l e R s m args below meth c T locs cells slots) (hx : p.tables.exec = Jvm.exec) {pc : Nat} {Ls : Array Slot} {z : Int32} {rest : List Value} (hret : meth.sig.returnType = some .int) (hd : decode c.code pc = .ok (.ireturn, 1)) {fs : List Frame}
    (hl : ∀ (f : JFrame) (acts : List Action), f.method = m → f.locked = none → f.entered = [] → (doReturn e (T.setTop f) acts (some (.int z))).1 = T.setFrames fs) : Steps p.tables e below (T.setTop (mkF m pc Ls (.int z :: rest))) (T.setFrames fs) := by
  have hm' : T.vm.method? m = some meth := X.method'
  have hn : narrow .int (.int z) = .int z := rfl
  show Steps p.tables e below (T.setTop { method := m, pc := pc, locals := Ls, stack := _ :: rest, locked := none }) _
  jvm_step X.here [X.here.top, hx, hd, hm', hret, hn]
  first | (intro acts; rw [hl _ acts rfl rfl rfl]) | rw [hl _ _ rfl rfl rfl]
  exact Steps.refl _
end New
end Jvm.RoadKit
namespace Jvm.Pilot.@@N@@
open Jvm Jvm.ClassFile Sem Op Lib Jvm.Free Jvm.Stand Jvm.LawKit Jvm.RoadKit Bundle Jvm.Pilot.@@N@@.Jvm.D
theorem own_retb (z : Int32) (h : z = 0 ∨ z = 1) : narrow .boolean (.int z) = .int z := by rcases h with rfl | rfl <;> rfl
theorem own_rem (x n : Int32) (hn : 0 < n.toInt) : 0 ≤ ((x &&& (2147483647 : Int32)) % n).toInt ∧ ((x &&& (2147483647 : Int32)) % n).toInt < n.toInt := by
  have h1 := c_mask x (2147483647 : Int32) 31 (by decide) (by decide)
  have h2 := (c_iremV (x &&& (2147483647 : Int32)) n).1 (by omega) hn
  exact ⟨h2.1, h2.2.1⟩
theorem own_of3 {k : Int32} (h : 0 ≤ k.toInt ∧ k.toInt < 3) : k = 0 ∨ k = 1 ∨ k = 2 := by
  have h2 : k.toInt = (0 : Int32).toInt ∨ k.toInt = (1 : Int32).toInt ∨ k.toInt = (2 : Int32).toInt := by simp; omega
  simpa only [Int32.toInt_inj] using h2
theorem own_of5 {k : Int32} (h : 0 ≤ k.toInt ∧ k.toInt < 5) : k = 0 ∨ k = 1 ∨ k = 2 ∨ k = 3 ∨ k = 4 := by
  have h2 : k.toInt = (0 : Int32).toInt ∨ k.toInt = (1 : Int32).toInt ∨ k.toInt = (2 : Int32).toInt ∨ k.toInt = (3 : Int32).toInt ∨ k.toInt = (4 : Int32).toInt := by simp; omega
  simpa only [Int32.toInt_inj] using h2
theorem own_of6 {k : Int32} (h : 0 ≤ k.toInt ∧ k.toInt < 6) : k = 0 ∨ k = 1 ∨ k = 2 ∨ k = 3 ∨ k = 4 ∨ k = 5 := by
  have h2 : k.toInt = (0 : Int32).toInt ∨ k.toInt = (1 : Int32).toInt ∨ k.toInt = (2 : Int32).toInt ∨ k.toInt = (3 : Int32).toInt ∨ k.toInt = (4 : Int32).toInt ∨ k.toInt = (5 : Int32).toInt := by simp; omega
  simpa only [Int32.toInt_inj] using h2
theorem own_eqI {args : Array Value} {s : State} {t : Term} {k : Int32} (h : (Jvm.Cond.eq t (.int k)).value args s none s [] = some true) : t.eval args s none [] s = some (.int k) := by
  obtain ⟨u, v, hu, hv, k1, k2⟩ := cmp_v (Or.inl h)
  have hv2 : v = .int k := Option.some.inj (hv.symm.trans (Term.int_eval k))
  subst hv2
  cases u <;> simp [Cond.value, hu, hv] at h
  subst h; exact hu
theorem own_fld {args : Array Value} {s : State} {t : Term} {a : Addr} {C n d : String} {k : Int32} (ev : t.eval args s none [] s = some (.ref a)) (h : (Jvm.Cond.eq (.field t C n d) (.int k)).value args s none s [] = some true) : Fld s s.heap a C n d (.int k) :=
  Fld.start ((fld_at ev).symm.trans (own_eqI h))
theorem own_len {args : Array Value} {s : State} {t : Term} {a : Addr} {cl : Cell} {ty : FieldType} {k : Int32} (ev : t.eval args s none [] s = some (.ref a)) (A : Arr s s.heap a cl ty) (h : (Jvm.Cond.eq (.length t) (.int k)).value args s none s [] = some true) : cl.slots.size.toInt32 = k := by
  obtain ⟨b, c, e1, e2, e3⟩ := Term.length_spec (own_eqI h)
  cases ev.symm.trans e1
  cases (A.fin (Vm.Alike.refl _)).symm.trans e2
  exact (Value.int.inj e3).symm
theorem own_lenlt {args : Array Value} {s : State} {t : Term} {a : Addr} {cl : Cell} {ty : FieldType} {k : Int32} (ev : t.eval args s none [] s = some (.ref a)) (A : Arr s s.heap a cl ty) (h : (Jvm.Cond.eq (.length t) (.int k)).value args s none s [] = some true) : cl.slots.size < 2 ^ 31 := by
  have h1 := own_eqI h
  have h2 := A.fin (Vm.Alike.refl _)
  apply Classical.byContradiction
  intro h3
  simp [Term.eval, ev, h2, h3] at h1
theorem own_elem {args : Array Value} {s : State} {t u : Term} {a b : Addr} {cl : Cell} {ty : FieldType} {j : Int32} (ev : t.eval args s none [] s = some (.ref a)) (A : Arr s s.heap a cl ty) (hu : u.eval args s none [] s = some (.ref b)) (h : (Jvm.Cond.eq (.elem t (.int j)) u).value args s none s [] = some true) : cl.slots[j.toNatClampNeg]? = some (.ref b) := by
  obtain ⟨x, y, hx, hy, -, -⟩ := cmp_v (Or.inl h)
  cases hu.symm.trans hy
  have h2 := (elem_in hx ev (Term.int_eval j) A.1).2
  cases x <;> simp [Cond.value, hx, hy] at h
  subst h; exact h2
theorem own_fldN {args : Array Value} {s : State} {t : Term} {a : Addr} {C n d : String} (ev : t.eval args s none [] s = some (.ref a)) (h : (Jvm.Cond.eq (.field t C n d) .null).value args s none s [] = some true) : Fld s s.heap a C n d .null :=
  Fld.start ((fld_at ev).symm.trans (null_v h))
def QR (Z : State) (r : Addr) (h0 : Heap) (n0 : Nat) (v : Option Value) (h : Heap) (L : List Loc) : Prop := v = some (.ref r) ∧ Fr n0 L ∧ h = h0
def own_pick (i : Int32) (b0 b1 b2 b3 b4 b5 : Addr) : Addr := if i = 0 then b0 else if i = 1 then b1 else if i = 2 then b2 else if i = 3 then b3 else if i = 4 then b4 else b5
theorem d1_0 : decode method_2_code 0 = .ok (.iload_n 0, 1) := by decide +kernel
theorem d1_1 : decode method_2_code 1 = .ok (.ifCond .ne 7, 3) := by decide +kernel
theorem d1_4 : decode method_2_code 4 = .ok (.getstatic 7, 3) := by decide +kernel
theorem d1_7 : decode method_2_code 7 = .ok (.areturn, 1) := by decide +kernel
theorem d1_8 : decode method_2_code 8 = .ok (.iload_n 0, 1) := by decide +kernel
theorem d1_9 : decode method_2_code 9 = .ok (.iconst 1, 1) := by decide +kernel
theorem d1_10 : decode method_2_code 10 = .ok (.if_icmp .ne 7, 3) := by decide +kernel
theorem d1_13 : decode method_2_code 13 = .ok (.getstatic 13, 3) := by decide +kernel
theorem d1_16 : decode method_2_code 16 = .ok (.areturn, 1) := by decide +kernel
theorem d1_17 : decode method_2_code 17 = .ok (.iload_n 0, 1) := by decide +kernel
theorem d1_18 : decode method_2_code 18 = .ok (.iconst 2, 1) := by decide +kernel
theorem d1_19 : decode method_2_code 19 = .ok (.if_icmp .ne 7, 3) := by decide +kernel
theorem d1_22 : decode method_2_code 22 = .ok (.getstatic 16, 3) := by decide +kernel
theorem d1_25 : decode method_2_code 25 = .ok (.areturn, 1) := by decide +kernel
theorem d1_26 : decode method_2_code 26 = .ok (.iload_n 0, 1) := by decide +kernel
theorem d1_27 : decode method_2_code 27 = .ok (.iconst 3, 1) := by decide +kernel
theorem d1_28 : decode method_2_code 28 = .ok (.if_icmp .ne 7, 3) := by decide +kernel
theorem d1_31 : decode method_2_code 31 = .ok (.getstatic 19, 3) := by decide +kernel
theorem d1_34 : decode method_2_code 34 = .ok (.areturn, 1) := by decide +kernel
theorem d1_35 : decode method_2_code 35 = .ok (.iload_n 0, 1) := by decide +kernel
theorem d1_36 : decode method_2_code 36 = .ok (.iconst 4, 1) := by decide +kernel
theorem d1_37 : decode method_2_code 37 = .ok (.if_icmp .ne 7, 3) := by decide +kernel
theorem d1_40 : decode method_2_code 40 = .ok (.getstatic 22, 3) := by decide +kernel
theorem d1_43 : decode method_2_code 43 = .ok (.areturn, 1) := by decide +kernel
theorem d1_44 : decode method_2_code 44 = .ok (.getstatic 25, 3) := by decide +kernel
theorem d1_47 : decode method_2_code 47 = .ok (.areturn, 1) := by decide +kernel
theorem pn_rm1 : plainName "com/example/driftwell/driftwell/StatusCountedPinLaw" = true := by first | (simp [plainName, overriddenIn]; done) | decide +kernel
theorem ef_rm1 (m : MethodId) (p1 : Int32) : entryFrame m #[(.int p1)] 1 = mkF m 0 #[.val (.int p1)] [] := by first | (simp [entryFrame, mkF, argsToLocals, Value.category]; done) | rfl
set_option maxRecDepth 65536 in
set_option maxHeartbeats 40000000 in
theorem rm1 (l : Launch) (Z : State) (a0 : Array Value) (hw : ∀ d ∈ tables_1, d.before a0 Z = true) (ws : List Jvm.Cond) (p1 : Int32) (w_ADDED w_REMOVED w_CHANGED w_AFFECTED w_RENAMED w_MOVED r : Addr) (h0 : Heap) (n0 : Nat) (Z0 : n0 ≤ h0.size) (S_ADDED : Sta Z h0 "com/example/driftwell/driftwell/Change$Status" "ADDED" "Lcom/example/driftwell/driftwell/Change$Status;" (.ref w_ADDED)) (S_REMOVED : Sta Z h0 "com/example/driftwell/driftwell/Change$Status" "REMOVED" "Lcom/example/driftwell/driftwell/Change$Status;" (.ref w_REMOVED)) (S_CHANGED : Sta Z h0 "com/example/driftwell/driftwell/Change$Status" "CHANGED" "Lcom/example/driftwell/driftwell/Change$Status;" (.ref w_CHANGED)) (S_AFFECTED : Sta Z h0 "com/example/driftwell/driftwell/Change$Status" "AFFECTED" "Lcom/example/driftwell/driftwell/Change$Status;" (.ref w_AFFECTED)) (S_RENAMED : Sta Z h0 "com/example/driftwell/driftwell/Change$Status" "RENAMED" "Lcom/example/driftwell/driftwell/Change$Status;" (.ref w_RENAMED)) (S_MOVED : Sta Z h0 "com/example/driftwell/driftwell/Change$Status" "MOVED" "Lcom/example/driftwell/driftwell/Change$Status;" (.ref w_MOVED)) (hr0 : r = own_pick p1 w_ADDED w_REMOVED w_CHANGED w_AFFECTED w_RENAMED w_MOVED) :
    MetFree l (⟨"com/example/driftwell/driftwell/StatusCountedPinLaw", "pick", "(I)Lcom/example/driftwell/driftwell/Change$Status;"⟩ : MethodName) (head1 (Jvm.Cond.code (⟨"com/example/driftwell/driftwell/StatusCountedPinLaw", "pick", "(I)Lcom/example/driftwell/driftwell/Change$Status;"⟩ : MethodName) method_2_code 1 (some (.object "com/example/driftwell/driftwell/Change$Status")) :: ws) ({ frames := 0, cells := 0, slots := 0, locals := 0 } : Room)) (fun a U => a = #[(.int p1)] ∧ Z.Warmed39 U.vm ∧ U.heap = h0) (fun _ _ _ _ _ => True) (fun _ U o U' => ∃ v L, o = .returned v ∧ QR Z r h0 n0 v U'.heap L ∧ FrameEnd U o U' L ({ frames := 0, cells := 0, slots := 0, locals := 0 } : Room).cells ({ frames := 0, cells := 0, slots := 0, locals := 0 } : Room).slots) := by
  refine MetFree.of_bodySF (plainFor_of_name pn_rm1) hisR ?_
  intro p e s m args below meth c s₁ Bd hml0 hP hK
  obtain ⟨rfl, hZ, hh⟩ := hP
  have hx := Bd.exec
  have hby := Bd.bytes
  have hml : c.maxLocals = 1 := hml0
  have hown : s.vm.findClass "com/example/driftwell/driftwell/StatusCountedPinLaw" = some m.cls := findClass_of_methodNamed Bd.named
  have hnm := (name_of_methodNamed Bd.named Bd.method).1
  have X0 : Stand p l e ({ frames := 0, cells := 0, slots := 0, locals := 0 } : Room) s m #[(.int p1)] below meth c s₁ [] 0 0 := Stand.of_body Bd
  have e0 : s₁.heap = h0 := by rw [← hh, Bd.state]; rfl
  have N0 := Fr.nil n0
  have pre0 : ∀ tt, Steps p.tables e below (s₁.setTop (mkF m 0 #[.val (.int p1)] [])) tt → Steps p.tables e below (s₁.setTop (entryFrame m #[(.int p1)] 1)) tt := fun tt kt => castTop (ef_rm1 m p1) kt
  have pre1 : ∀ tt, Steps p.tables e below (s₁.setTop (mkF m 1 #[.val (.int p1)] [(.int p1)])) tt → Steps p.tables e below (s₁.setTop (entryFrame m #[(.int p1)] 1)) tt := by
    intro tt kt
    refine pre0 tt ?_
    show Steps p.tables e below (s₁.setTop (mkF m 0 #[.val (.int p1)] [])) _
    refine XS.iloadN X0.here hx rfl (hb hby d1_0) rfl ?_
    exact kt
  by_cases c1_2 : p1 = (0 : Int32)
  · obtain ⟨T3, X3, e3, st3⟩ := getS2 X0 hx hZ hown (host := "") (Or.inl (hw _ (List.mem_of_getElem? (i := 5) rfl))) Via.refl e0 S_ADDED (g := (mkF m 4 #[.val (.int p1)] [])) rfl (hb hby d1_4)
    have pre4 : ∀ tt, Steps p.tables e below (T3.setTop (mkF m 7 #[.val (.int p1)] [(.ref w_ADDED)])) tt → Steps p.tables e below (s₁.setTop (entryFrame m #[(.int p1)] 1)) tt := by
      intro tt kt
      refine pre1 tt ?_
      show Steps p.tables e below (s₁.setTop (mkF m 1 #[.val (.int p1)] [(.int p1)])) _
      refine XS.ifNo X0.here hx rfl (hb hby d1_1) rfl ((if0 _ _).trans (teq c1_2).2) ?_
      show Steps p.tables e below (s₁.setTop (mkF m 4 #[.val (.int p1)] [])) _
      refine st3 _ ?_
      exact kt
    obtain ⟨fs, hr, hrun, hended, hW, hsame⟩ := X3.leave (v := some (.ref w_ADDED)) (fun h => by rw [Bd.returns] at h; cases h)
    refine ⟨_, _, pre4 _ ?_, hrun, hended, _, _, rfl, ?_, ⟨_, rfl⟩, hW, hsame.mono (by decide) (by decide)⟩
    · show Steps p.tables e below (T3.setTop (mkF m 7 #[.val (.int p1)] [(.ref w_ADDED)])) _
      jvm_step X3.here [X3.here.top, hx, (hb hby d1_7), X3.method', Bd.returns, Value.isRef, FieldType.isReference]
      first | (intro acts; rw [hr _ acts rfl rfl rfl]) | rw [hr _ _ rfl rfl rfl]
      exact Steps.refl _
    · show QR Z r h0 n0 _ T3.heap _
      rw [e3]
      exact ⟨by rw [hr0]; simp [own_pick, c1_2], N0, rfl⟩
  · have pre5 : ∀ tt, Steps p.tables e below (s₁.setTop (mkF m 10 #[.val (.int p1)] [(.int (1 : Int32)), (.int p1)])) tt → Steps p.tables e below (s₁.setTop (entryFrame m #[(.int p1)] 1)) tt := by
      intro tt kt
      refine pre1 tt ?_
      show Steps p.tables e below (s₁.setTop (mkF m 1 #[.val (.int p1)] [(.int p1)])) _
      refine XS.ifYes X0.here hx rfl (pc0 := 1) (pc' := 8) rfl (hb hby d1_1) rfl ((if0 _ _).trans (feq c1_2).2) (by decide) (by decide) ?_
      show Steps p.tables e below (s₁.setTop (mkF m 8 #[.val (.int p1)] [])) _
      refine XS.iloadN X0.here hx rfl (hb hby d1_8) rfl ?_
      show Steps p.tables e below (s₁.setTop (mkF m 9 #[.val (.int p1)] [(.int p1)])) _
      refine XS.iconst X0.here hx rfl (hb hby d1_9) ?_
      exact kt
    by_cases c10_6 : p1 = (1 : Int32)
    · obtain ⟨T7, X7, e7, st7⟩ := getS2 X0 hx hZ hown (host := "") (Or.inl (hw _ (List.mem_of_getElem? (i := 22) rfl))) Via.refl e0 S_REMOVED (g := (mkF m 13 #[.val (.int p1)] [])) rfl (hb hby d1_13)
      have pre8 : ∀ tt, Steps p.tables e below (T7.setTop (mkF m 16 #[.val (.int p1)] [(.ref w_REMOVED)])) tt → Steps p.tables e below (s₁.setTop (entryFrame m #[(.int p1)] 1)) tt := by
        intro tt kt
        refine pre5 tt ?_
        show Steps p.tables e below (s₁.setTop (mkF m 10 #[.val (.int p1)] [(.int (1 : Int32)), (.int p1)])) _
        refine XS.icmpNo X0.here hx rfl (hb hby d1_10) rfl (teq c10_6).2 ?_
        show Steps p.tables e below (s₁.setTop (mkF m 13 #[.val (.int p1)] [])) _
        refine st7 _ ?_
        exact kt
      obtain ⟨fs, hr, hrun, hended, hW, hsame⟩ := X7.leave (v := some (.ref w_REMOVED)) (fun h => by rw [Bd.returns] at h; cases h)
      refine ⟨_, _, pre8 _ ?_, hrun, hended, _, _, rfl, ?_, ⟨_, rfl⟩, hW, hsame.mono (by decide) (by decide)⟩
      · show Steps p.tables e below (T7.setTop (mkF m 16 #[.val (.int p1)] [(.ref w_REMOVED)])) _
        jvm_step X7.here [X7.here.top, hx, (hb hby d1_16), X7.method', Bd.returns, Value.isRef, FieldType.isReference]
        first | (intro acts; rw [hr _ acts rfl rfl rfl]) | rw [hr _ _ rfl rfl rfl]
        exact Steps.refl _
      · show QR Z r h0 n0 _ T7.heap _
        rw [e7]
        exact ⟨by rw [hr0]; simp [own_pick, c1_2, c10_6], N0, rfl⟩
    · have pre9 : ∀ tt, Steps p.tables e below (s₁.setTop (mkF m 19 #[.val (.int p1)] [(.int (2 : Int32)), (.int p1)])) tt → Steps p.tables e below (s₁.setTop (entryFrame m #[(.int p1)] 1)) tt := by
        intro tt kt
        refine pre5 tt ?_
        show Steps p.tables e below (s₁.setTop (mkF m 10 #[.val (.int p1)] [(.int (1 : Int32)), (.int p1)])) _
        refine XS.icmpYes X0.here hx rfl (pc0 := 10) (pc' := 17) rfl (hb hby d1_10) rfl (feq c10_6).2 (by decide) (by decide) ?_
        show Steps p.tables e below (s₁.setTop (mkF m 17 #[.val (.int p1)] [])) _
        refine XS.iloadN X0.here hx rfl (hb hby d1_17) rfl ?_
        show Steps p.tables e below (s₁.setTop (mkF m 18 #[.val (.int p1)] [(.int p1)])) _
        refine XS.iconst X0.here hx rfl (hb hby d1_18) ?_
        exact kt
      by_cases c19_10 : p1 = (2 : Int32)
      · obtain ⟨T11, X11, e11, st11⟩ := getS2 X0 hx hZ hown (host := "") (Or.inl (hw _ (List.mem_of_getElem? (i := 20) rfl))) Via.refl e0 S_CHANGED (g := (mkF m 22 #[.val (.int p1)] [])) rfl (hb hby d1_22)
        have pre12 : ∀ tt, Steps p.tables e below (T11.setTop (mkF m 25 #[.val (.int p1)] [(.ref w_CHANGED)])) tt → Steps p.tables e below (s₁.setTop (entryFrame m #[(.int p1)] 1)) tt := by
          intro tt kt
          refine pre9 tt ?_
          show Steps p.tables e below (s₁.setTop (mkF m 19 #[.val (.int p1)] [(.int (2 : Int32)), (.int p1)])) _
          refine XS.icmpNo X0.here hx rfl (hb hby d1_19) rfl (teq c19_10).2 ?_
          show Steps p.tables e below (s₁.setTop (mkF m 22 #[.val (.int p1)] [])) _
          refine st11 _ ?_
          exact kt
        obtain ⟨fs, hr, hrun, hended, hW, hsame⟩ := X11.leave (v := some (.ref w_CHANGED)) (fun h => by rw [Bd.returns] at h; cases h)
        refine ⟨_, _, pre12 _ ?_, hrun, hended, _, _, rfl, ?_, ⟨_, rfl⟩, hW, hsame.mono (by decide) (by decide)⟩
        · show Steps p.tables e below (T11.setTop (mkF m 25 #[.val (.int p1)] [(.ref w_CHANGED)])) _
          jvm_step X11.here [X11.here.top, hx, (hb hby d1_25), X11.method', Bd.returns, Value.isRef, FieldType.isReference]
          first | (intro acts; rw [hr _ acts rfl rfl rfl]) | rw [hr _ _ rfl rfl rfl]
          exact Steps.refl _
        · show QR Z r h0 n0 _ T11.heap _
          rw [e11]
          exact ⟨by rw [hr0]; simp [own_pick, c1_2, c10_6, c19_10], N0, rfl⟩
      · have pre13 : ∀ tt, Steps p.tables e below (s₁.setTop (mkF m 28 #[.val (.int p1)] [(.int (3 : Int32)), (.int p1)])) tt → Steps p.tables e below (s₁.setTop (entryFrame m #[(.int p1)] 1)) tt := by
          intro tt kt
          refine pre9 tt ?_
          show Steps p.tables e below (s₁.setTop (mkF m 19 #[.val (.int p1)] [(.int (2 : Int32)), (.int p1)])) _
          refine XS.icmpYes X0.here hx rfl (pc0 := 19) (pc' := 26) rfl (hb hby d1_19) rfl (feq c19_10).2 (by decide) (by decide) ?_
          show Steps p.tables e below (s₁.setTop (mkF m 26 #[.val (.int p1)] [])) _
          refine XS.iloadN X0.here hx rfl (hb hby d1_26) rfl ?_
          show Steps p.tables e below (s₁.setTop (mkF m 27 #[.val (.int p1)] [(.int p1)])) _
          refine XS.iconst X0.here hx rfl (hb hby d1_27) ?_
          exact kt
        by_cases c28_14 : p1 = (3 : Int32)
        · obtain ⟨T15, X15, e15, st15⟩ := getS2 X0 hx hZ hown (host := "") (Or.inl (hw _ (List.mem_of_getElem? (i := 18) rfl))) Via.refl e0 S_AFFECTED (g := (mkF m 31 #[.val (.int p1)] [])) rfl (hb hby d1_31)
          have pre16 : ∀ tt, Steps p.tables e below (T15.setTop (mkF m 34 #[.val (.int p1)] [(.ref w_AFFECTED)])) tt → Steps p.tables e below (s₁.setTop (entryFrame m #[(.int p1)] 1)) tt := by
            intro tt kt
            refine pre13 tt ?_
            show Steps p.tables e below (s₁.setTop (mkF m 28 #[.val (.int p1)] [(.int (3 : Int32)), (.int p1)])) _
            refine XS.icmpNo X0.here hx rfl (hb hby d1_28) rfl (teq c28_14).2 ?_
            show Steps p.tables e below (s₁.setTop (mkF m 31 #[.val (.int p1)] [])) _
            refine st15 _ ?_
            exact kt
          obtain ⟨fs, hr, hrun, hended, hW, hsame⟩ := X15.leave (v := some (.ref w_AFFECTED)) (fun h => by rw [Bd.returns] at h; cases h)
          refine ⟨_, _, pre16 _ ?_, hrun, hended, _, _, rfl, ?_, ⟨_, rfl⟩, hW, hsame.mono (by decide) (by decide)⟩
          · show Steps p.tables e below (T15.setTop (mkF m 34 #[.val (.int p1)] [(.ref w_AFFECTED)])) _
            jvm_step X15.here [X15.here.top, hx, (hb hby d1_34), X15.method', Bd.returns, Value.isRef, FieldType.isReference]
            first | (intro acts; rw [hr _ acts rfl rfl rfl]) | rw [hr _ _ rfl rfl rfl]
            exact Steps.refl _
          · show QR Z r h0 n0 _ T15.heap _
            rw [e15]
            exact ⟨by rw [hr0]; simp [own_pick, c1_2, c10_6, c19_10, c28_14], N0, rfl⟩
        · have pre17 : ∀ tt, Steps p.tables e below (s₁.setTop (mkF m 37 #[.val (.int p1)] [(.int (4 : Int32)), (.int p1)])) tt → Steps p.tables e below (s₁.setTop (entryFrame m #[(.int p1)] 1)) tt := by
            intro tt kt
            refine pre13 tt ?_
            show Steps p.tables e below (s₁.setTop (mkF m 28 #[.val (.int p1)] [(.int (3 : Int32)), (.int p1)])) _
            refine XS.icmpYes X0.here hx rfl (pc0 := 28) (pc' := 35) rfl (hb hby d1_28) rfl (feq c28_14).2 (by decide) (by decide) ?_
            show Steps p.tables e below (s₁.setTop (mkF m 35 #[.val (.int p1)] [])) _
            refine XS.iloadN X0.here hx rfl (hb hby d1_35) rfl ?_
            show Steps p.tables e below (s₁.setTop (mkF m 36 #[.val (.int p1)] [(.int p1)])) _
            refine XS.iconst X0.here hx rfl (hb hby d1_36) ?_
            exact kt
          by_cases c37_18 : p1 = (4 : Int32)
          · obtain ⟨T19, X19, e19, st19⟩ := getS2 X0 hx hZ hown (host := "") (Or.inl (hw _ (List.mem_of_getElem? (i := 26) rfl))) Via.refl e0 S_RENAMED (g := (mkF m 40 #[.val (.int p1)] [])) rfl (hb hby d1_40)
            have pre20 : ∀ tt, Steps p.tables e below (T19.setTop (mkF m 43 #[.val (.int p1)] [(.ref w_RENAMED)])) tt → Steps p.tables e below (s₁.setTop (entryFrame m #[(.int p1)] 1)) tt := by
              intro tt kt
              refine pre17 tt ?_
              show Steps p.tables e below (s₁.setTop (mkF m 37 #[.val (.int p1)] [(.int (4 : Int32)), (.int p1)])) _
              refine XS.icmpNo X0.here hx rfl (hb hby d1_37) rfl (teq c37_18).2 ?_
              show Steps p.tables e below (s₁.setTop (mkF m 40 #[.val (.int p1)] [])) _
              refine st19 _ ?_
              exact kt
            obtain ⟨fs, hr, hrun, hended, hW, hsame⟩ := X19.leave (v := some (.ref w_RENAMED)) (fun h => by rw [Bd.returns] at h; cases h)
            refine ⟨_, _, pre20 _ ?_, hrun, hended, _, _, rfl, ?_, ⟨_, rfl⟩, hW, hsame.mono (by decide) (by decide)⟩
            · show Steps p.tables e below (T19.setTop (mkF m 43 #[.val (.int p1)] [(.ref w_RENAMED)])) _
              jvm_step X19.here [X19.here.top, hx, (hb hby d1_43), X19.method', Bd.returns, Value.isRef, FieldType.isReference]
              first | (intro acts; rw [hr _ acts rfl rfl rfl]) | rw [hr _ _ rfl rfl rfl]
              exact Steps.refl _
            · show QR Z r h0 n0 _ T19.heap _
              rw [e19]
              exact ⟨by rw [hr0]; simp [own_pick, c1_2, c10_6, c19_10, c28_14, c37_18], N0, rfl⟩
          · obtain ⟨T21, X21, e21, st21⟩ := getS2 X0 hx hZ hown (host := "") (Or.inl (hw _ (List.mem_of_getElem? (i := 24) rfl))) Via.refl e0 S_MOVED (g := (mkF m 44 #[.val (.int p1)] [])) rfl (hb hby d1_44)
            have pre22 : ∀ tt, Steps p.tables e below (T21.setTop (mkF m 47 #[.val (.int p1)] [(.ref w_MOVED)])) tt → Steps p.tables e below (s₁.setTop (entryFrame m #[(.int p1)] 1)) tt := by
              intro tt kt
              refine pre17 tt ?_
              show Steps p.tables e below (s₁.setTop (mkF m 37 #[.val (.int p1)] [(.int (4 : Int32)), (.int p1)])) _
              refine XS.icmpYes X0.here hx rfl (pc0 := 37) (pc' := 44) rfl (hb hby d1_37) rfl (feq c37_18).2 (by decide) (by decide) ?_
              show Steps p.tables e below (s₁.setTop (mkF m 44 #[.val (.int p1)] [])) _
              refine st21 _ ?_
              exact kt
            obtain ⟨fs, hr, hrun, hended, hW, hsame⟩ := X21.leave (v := some (.ref w_MOVED)) (fun h => by rw [Bd.returns] at h; cases h)
            refine ⟨_, _, pre22 _ ?_, hrun, hended, _, _, rfl, ?_, ⟨_, rfl⟩, hW, hsame.mono (by decide) (by decide)⟩
            · show Steps p.tables e below (T21.setTop (mkF m 47 #[.val (.int p1)] [(.ref w_MOVED)])) _
              jvm_step X21.here [X21.here.top, hx, (hb hby d1_47), X21.method', Bd.returns, Value.isRef, FieldType.isReference]
              first | (intro acts; rw [hr _ acts rfl rfl rfl]) | rw [hr _ _ rfl rfl rfl]
              exact Steps.refl _
            · show QR Z r h0 n0 _ T21.heap _
              rw [e21]
              exact ⟨by rw [hr0]; simp [own_pick, c1_2, c10_6, c19_10, c28_14, c37_18], N0, rfl⟩
theorem d3_0 : decode method_3_code 0 = .ok (.iload_n 0, 1) := by decide +kernel
theorem d3_1 : decode method_3_code 1 = .ok (.ifCond .ne 7, 3) := by decide +kernel
theorem d3_4 : decode method_3_code 4 = .ok (.getstatic 7, 3) := by decide +kernel
theorem d3_7 : decode method_3_code 7 = .ok (.areturn, 1) := by decide +kernel
theorem d3_8 : decode method_3_code 8 = .ok (.iload_n 0, 1) := by decide +kernel
theorem d3_9 : decode method_3_code 9 = .ok (.iconst 1, 1) := by decide +kernel
theorem d3_10 : decode method_3_code 10 = .ok (.if_icmp .ne 7, 3) := by decide +kernel
theorem d3_13 : decode method_3_code 13 = .ok (.getstatic 13, 3) := by decide +kernel
theorem d3_16 : decode method_3_code 16 = .ok (.areturn, 1) := by decide +kernel
theorem d3_17 : decode method_3_code 17 = .ok (.iload_n 0, 1) := by decide +kernel
theorem d3_18 : decode method_3_code 18 = .ok (.iconst 2, 1) := by decide +kernel
theorem d3_19 : decode method_3_code 19 = .ok (.if_icmp .ne 7, 3) := by decide +kernel
theorem d3_22 : decode method_3_code 22 = .ok (.getstatic 16, 3) := by decide +kernel
theorem d3_25 : decode method_3_code 25 = .ok (.areturn, 1) := by decide +kernel
theorem d3_26 : decode method_3_code 26 = .ok (.iload_n 0, 1) := by decide +kernel
theorem d3_27 : decode method_3_code 27 = .ok (.iconst 3, 1) := by decide +kernel
theorem d3_28 : decode method_3_code 28 = .ok (.if_icmp .ne 7, 3) := by decide +kernel
theorem d3_31 : decode method_3_code 31 = .ok (.getstatic 19, 3) := by decide +kernel
theorem d3_34 : decode method_3_code 34 = .ok (.areturn, 1) := by decide +kernel
theorem d3_35 : decode method_3_code 35 = .ok (.iload_n 0, 1) := by decide +kernel
theorem d3_36 : decode method_3_code 36 = .ok (.iconst 4, 1) := by decide +kernel
theorem d3_37 : decode method_3_code 37 = .ok (.if_icmp .ne 7, 3) := by decide +kernel
theorem d3_40 : decode method_3_code 40 = .ok (.getstatic 16, 3) := by decide +kernel
theorem d3_43 : decode method_3_code 43 = .ok (.areturn, 1) := by decide +kernel
theorem d3_44 : decode method_3_code 44 = .ok (.getstatic 25, 3) := by decide +kernel
theorem d3_47 : decode method_3_code 47 = .ok (.areturn, 1) := by decide +kernel
theorem pn_rm3 : plainName "com/example/driftwell/driftwell/StatusCountedPinLaw" = true := by first | (simp [plainName, overriddenIn]; done) | decide +kernel
theorem ef_rm3 (m : MethodId) (p1 : Int32) : entryFrame m #[(.int p1)] 1 = mkF m 0 #[.val (.int p1)] [] := by first | (simp [entryFrame, mkF, argsToLocals, Value.category]; done) | rfl
set_option maxRecDepth 65536 in
set_option maxHeartbeats 40000000 in
theorem rm3 (l : Launch) (Z : State) (a0 : Array Value) (hw : ∀ d ∈ tables_1, d.before a0 Z = true) (ws : List Jvm.Cond) (p1 : Int32) (w_ADDED w_REMOVED w_CHANGED w_AFFECTED w_RENAMED w_MOVED r : Addr) (h0 : Heap) (n0 : Nat) (Z0 : n0 ≤ h0.size) (S_ADDED : Sta Z h0 "com/example/driftwell/driftwell/Change$Status" "ADDED" "Lcom/example/driftwell/driftwell/Change$Status;" (.ref w_ADDED)) (S_REMOVED : Sta Z h0 "com/example/driftwell/driftwell/Change$Status" "REMOVED" "Lcom/example/driftwell/driftwell/Change$Status;" (.ref w_REMOVED)) (S_CHANGED : Sta Z h0 "com/example/driftwell/driftwell/Change$Status" "CHANGED" "Lcom/example/driftwell/driftwell/Change$Status;" (.ref w_CHANGED)) (S_AFFECTED : Sta Z h0 "com/example/driftwell/driftwell/Change$Status" "AFFECTED" "Lcom/example/driftwell/driftwell/Change$Status;" (.ref w_AFFECTED)) (S_RENAMED : Sta Z h0 "com/example/driftwell/driftwell/Change$Status" "RENAMED" "Lcom/example/driftwell/driftwell/Change$Status;" (.ref w_RENAMED)) (S_MOVED : Sta Z h0 "com/example/driftwell/driftwell/Change$Status" "MOVED" "Lcom/example/driftwell/driftwell/Change$Status;" (.ref w_MOVED)) (hr0 : r = own_pick p1 w_ADDED w_REMOVED w_CHANGED w_AFFECTED w_CHANGED w_MOVED) :
    MetFree l (⟨"com/example/driftwell/driftwell/StatusCountedPinLaw", "expected", "(I)Lcom/example/driftwell/driftwell/Change$Status;"⟩ : MethodName) (head1 (Jvm.Cond.code (⟨"com/example/driftwell/driftwell/StatusCountedPinLaw", "expected", "(I)Lcom/example/driftwell/driftwell/Change$Status;"⟩ : MethodName) method_3_code 1 (some (.object "com/example/driftwell/driftwell/Change$Status")) :: ws) ({ frames := 0, cells := 0, slots := 0, locals := 0 } : Room)) (fun a U => a = #[(.int p1)] ∧ Z.Warmed39 U.vm ∧ U.heap = h0) (fun _ _ _ _ _ => True) (fun _ U o U' => ∃ v L, o = .returned v ∧ QR Z r h0 n0 v U'.heap L ∧ FrameEnd U o U' L ({ frames := 0, cells := 0, slots := 0, locals := 0 } : Room).cells ({ frames := 0, cells := 0, slots := 0, locals := 0 } : Room).slots) := by
  refine MetFree.of_bodySF (plainFor_of_name pn_rm3) hisR ?_
  intro p e s m args below meth c s₁ Bd hml0 hP hK
  obtain ⟨rfl, hZ, hh⟩ := hP
  have hx := Bd.exec
  have hby := Bd.bytes
  have hml : c.maxLocals = 1 := hml0
  have hown : s.vm.findClass "com/example/driftwell/driftwell/StatusCountedPinLaw" = some m.cls := findClass_of_methodNamed Bd.named
  have hnm := (name_of_methodNamed Bd.named Bd.method).1
  have X0 : Stand p l e ({ frames := 0, cells := 0, slots := 0, locals := 0 } : Room) s m #[(.int p1)] below meth c s₁ [] 0 0 := Stand.of_body Bd
  have e0 : s₁.heap = h0 := by rw [← hh, Bd.state]; rfl
  have N0 := Fr.nil n0
  have pre0 : ∀ tt, Steps p.tables e below (s₁.setTop (mkF m 0 #[.val (.int p1)] [])) tt → Steps p.tables e below (s₁.setTop (entryFrame m #[(.int p1)] 1)) tt := fun tt kt => castTop (ef_rm3 m p1) kt
  have pre1 : ∀ tt, Steps p.tables e below (s₁.setTop (mkF m 1 #[.val (.int p1)] [(.int p1)])) tt → Steps p.tables e below (s₁.setTop (entryFrame m #[(.int p1)] 1)) tt := by
    intro tt kt
    refine pre0 tt ?_
    show Steps p.tables e below (s₁.setTop (mkF m 0 #[.val (.int p1)] [])) _
    refine XS.iloadN X0.here hx rfl (hb hby d3_0) rfl ?_
    exact kt
  by_cases c1_2 : p1 = (0 : Int32)
  · obtain ⟨T3, X3, e3, st3⟩ := getS2 X0 hx hZ hown (host := "") (Or.inl (hw _ (List.mem_of_getElem? (i := 5) rfl))) Via.refl e0 S_ADDED (g := (mkF m 4 #[.val (.int p1)] [])) rfl (hb hby d3_4)
    have pre4 : ∀ tt, Steps p.tables e below (T3.setTop (mkF m 7 #[.val (.int p1)] [(.ref w_ADDED)])) tt → Steps p.tables e below (s₁.setTop (entryFrame m #[(.int p1)] 1)) tt := by
      intro tt kt
      refine pre1 tt ?_
      show Steps p.tables e below (s₁.setTop (mkF m 1 #[.val (.int p1)] [(.int p1)])) _
      refine XS.ifNo X0.here hx rfl (hb hby d3_1) rfl ((if0 _ _).trans (teq c1_2).2) ?_
      show Steps p.tables e below (s₁.setTop (mkF m 4 #[.val (.int p1)] [])) _
      refine st3 _ ?_
      exact kt
    obtain ⟨fs, hr, hrun, hended, hW, hsame⟩ := X3.leave (v := some (.ref w_ADDED)) (fun h => by rw [Bd.returns] at h; cases h)
    refine ⟨_, _, pre4 _ ?_, hrun, hended, _, _, rfl, ?_, ⟨_, rfl⟩, hW, hsame.mono (by decide) (by decide)⟩
    · show Steps p.tables e below (T3.setTop (mkF m 7 #[.val (.int p1)] [(.ref w_ADDED)])) _
      jvm_step X3.here [X3.here.top, hx, (hb hby d3_7), X3.method', Bd.returns, Value.isRef, FieldType.isReference]
      first | (intro acts; rw [hr _ acts rfl rfl rfl]) | rw [hr _ _ rfl rfl rfl]
      exact Steps.refl _
    · show QR Z r h0 n0 _ T3.heap _
      rw [e3]
      exact ⟨by rw [hr0]; simp [own_pick, c1_2], N0, rfl⟩
  · have pre5 : ∀ tt, Steps p.tables e below (s₁.setTop (mkF m 10 #[.val (.int p1)] [(.int (1 : Int32)), (.int p1)])) tt → Steps p.tables e below (s₁.setTop (entryFrame m #[(.int p1)] 1)) tt := by
      intro tt kt
      refine pre1 tt ?_
      show Steps p.tables e below (s₁.setTop (mkF m 1 #[.val (.int p1)] [(.int p1)])) _
      refine XS.ifYes X0.here hx rfl (pc0 := 1) (pc' := 8) rfl (hb hby d3_1) rfl ((if0 _ _).trans (feq c1_2).2) (by decide) (by decide) ?_
      show Steps p.tables e below (s₁.setTop (mkF m 8 #[.val (.int p1)] [])) _
      refine XS.iloadN X0.here hx rfl (hb hby d3_8) rfl ?_
      show Steps p.tables e below (s₁.setTop (mkF m 9 #[.val (.int p1)] [(.int p1)])) _
      refine XS.iconst X0.here hx rfl (hb hby d3_9) ?_
      exact kt
    by_cases c10_6 : p1 = (1 : Int32)
    · obtain ⟨T7, X7, e7, st7⟩ := getS2 X0 hx hZ hown (host := "") (Or.inl (hw _ (List.mem_of_getElem? (i := 22) rfl))) Via.refl e0 S_REMOVED (g := (mkF m 13 #[.val (.int p1)] [])) rfl (hb hby d3_13)
      have pre8 : ∀ tt, Steps p.tables e below (T7.setTop (mkF m 16 #[.val (.int p1)] [(.ref w_REMOVED)])) tt → Steps p.tables e below (s₁.setTop (entryFrame m #[(.int p1)] 1)) tt := by
        intro tt kt
        refine pre5 tt ?_
        show Steps p.tables e below (s₁.setTop (mkF m 10 #[.val (.int p1)] [(.int (1 : Int32)), (.int p1)])) _
        refine XS.icmpNo X0.here hx rfl (hb hby d3_10) rfl (teq c10_6).2 ?_
        show Steps p.tables e below (s₁.setTop (mkF m 13 #[.val (.int p1)] [])) _
        refine st7 _ ?_
        exact kt
      obtain ⟨fs, hr, hrun, hended, hW, hsame⟩ := X7.leave (v := some (.ref w_REMOVED)) (fun h => by rw [Bd.returns] at h; cases h)
      refine ⟨_, _, pre8 _ ?_, hrun, hended, _, _, rfl, ?_, ⟨_, rfl⟩, hW, hsame.mono (by decide) (by decide)⟩
      · show Steps p.tables e below (T7.setTop (mkF m 16 #[.val (.int p1)] [(.ref w_REMOVED)])) _
        jvm_step X7.here [X7.here.top, hx, (hb hby d3_16), X7.method', Bd.returns, Value.isRef, FieldType.isReference]
        first | (intro acts; rw [hr _ acts rfl rfl rfl]) | rw [hr _ _ rfl rfl rfl]
        exact Steps.refl _
      · show QR Z r h0 n0 _ T7.heap _
        rw [e7]
        exact ⟨by rw [hr0]; simp [own_pick, c1_2, c10_6], N0, rfl⟩
    · have pre9 : ∀ tt, Steps p.tables e below (s₁.setTop (mkF m 19 #[.val (.int p1)] [(.int (2 : Int32)), (.int p1)])) tt → Steps p.tables e below (s₁.setTop (entryFrame m #[(.int p1)] 1)) tt := by
        intro tt kt
        refine pre5 tt ?_
        show Steps p.tables e below (s₁.setTop (mkF m 10 #[.val (.int p1)] [(.int (1 : Int32)), (.int p1)])) _
        refine XS.icmpYes X0.here hx rfl (pc0 := 10) (pc' := 17) rfl (hb hby d3_10) rfl (feq c10_6).2 (by decide) (by decide) ?_
        show Steps p.tables e below (s₁.setTop (mkF m 17 #[.val (.int p1)] [])) _
        refine XS.iloadN X0.here hx rfl (hb hby d3_17) rfl ?_
        show Steps p.tables e below (s₁.setTop (mkF m 18 #[.val (.int p1)] [(.int p1)])) _
        refine XS.iconst X0.here hx rfl (hb hby d3_18) ?_
        exact kt
      by_cases c19_10 : p1 = (2 : Int32)
      · obtain ⟨T11, X11, e11, st11⟩ := getS2 X0 hx hZ hown (host := "") (Or.inl (hw _ (List.mem_of_getElem? (i := 20) rfl))) Via.refl e0 S_CHANGED (g := (mkF m 22 #[.val (.int p1)] [])) rfl (hb hby d3_22)
        have pre12 : ∀ tt, Steps p.tables e below (T11.setTop (mkF m 25 #[.val (.int p1)] [(.ref w_CHANGED)])) tt → Steps p.tables e below (s₁.setTop (entryFrame m #[(.int p1)] 1)) tt := by
          intro tt kt
          refine pre9 tt ?_
          show Steps p.tables e below (s₁.setTop (mkF m 19 #[.val (.int p1)] [(.int (2 : Int32)), (.int p1)])) _
          refine XS.icmpNo X0.here hx rfl (hb hby d3_19) rfl (teq c19_10).2 ?_
          show Steps p.tables e below (s₁.setTop (mkF m 22 #[.val (.int p1)] [])) _
          refine st11 _ ?_
          exact kt
        obtain ⟨fs, hr, hrun, hended, hW, hsame⟩ := X11.leave (v := some (.ref w_CHANGED)) (fun h => by rw [Bd.returns] at h; cases h)
        refine ⟨_, _, pre12 _ ?_, hrun, hended, _, _, rfl, ?_, ⟨_, rfl⟩, hW, hsame.mono (by decide) (by decide)⟩
        · show Steps p.tables e below (T11.setTop (mkF m 25 #[.val (.int p1)] [(.ref w_CHANGED)])) _
          jvm_step X11.here [X11.here.top, hx, (hb hby d3_25), X11.method', Bd.returns, Value.isRef, FieldType.isReference]
          first | (intro acts; rw [hr _ acts rfl rfl rfl]) | rw [hr _ _ rfl rfl rfl]
          exact Steps.refl _
        · show QR Z r h0 n0 _ T11.heap _
          rw [e11]
          exact ⟨by rw [hr0]; simp [own_pick, c1_2, c10_6, c19_10], N0, rfl⟩
      · have pre13 : ∀ tt, Steps p.tables e below (s₁.setTop (mkF m 28 #[.val (.int p1)] [(.int (3 : Int32)), (.int p1)])) tt → Steps p.tables e below (s₁.setTop (entryFrame m #[(.int p1)] 1)) tt := by
          intro tt kt
          refine pre9 tt ?_
          show Steps p.tables e below (s₁.setTop (mkF m 19 #[.val (.int p1)] [(.int (2 : Int32)), (.int p1)])) _
          refine XS.icmpYes X0.here hx rfl (pc0 := 19) (pc' := 26) rfl (hb hby d3_19) rfl (feq c19_10).2 (by decide) (by decide) ?_
          show Steps p.tables e below (s₁.setTop (mkF m 26 #[.val (.int p1)] [])) _
          refine XS.iloadN X0.here hx rfl (hb hby d3_26) rfl ?_
          show Steps p.tables e below (s₁.setTop (mkF m 27 #[.val (.int p1)] [(.int p1)])) _
          refine XS.iconst X0.here hx rfl (hb hby d3_27) ?_
          exact kt
        by_cases c28_14 : p1 = (3 : Int32)
        · obtain ⟨T15, X15, e15, st15⟩ := getS2 X0 hx hZ hown (host := "") (Or.inl (hw _ (List.mem_of_getElem? (i := 18) rfl))) Via.refl e0 S_AFFECTED (g := (mkF m 31 #[.val (.int p1)] [])) rfl (hb hby d3_31)
          have pre16 : ∀ tt, Steps p.tables e below (T15.setTop (mkF m 34 #[.val (.int p1)] [(.ref w_AFFECTED)])) tt → Steps p.tables e below (s₁.setTop (entryFrame m #[(.int p1)] 1)) tt := by
            intro tt kt
            refine pre13 tt ?_
            show Steps p.tables e below (s₁.setTop (mkF m 28 #[.val (.int p1)] [(.int (3 : Int32)), (.int p1)])) _
            refine XS.icmpNo X0.here hx rfl (hb hby d3_28) rfl (teq c28_14).2 ?_
            show Steps p.tables e below (s₁.setTop (mkF m 31 #[.val (.int p1)] [])) _
            refine st15 _ ?_
            exact kt
          obtain ⟨fs, hr, hrun, hended, hW, hsame⟩ := X15.leave (v := some (.ref w_AFFECTED)) (fun h => by rw [Bd.returns] at h; cases h)
          refine ⟨_, _, pre16 _ ?_, hrun, hended, _, _, rfl, ?_, ⟨_, rfl⟩, hW, hsame.mono (by decide) (by decide)⟩
          · show Steps p.tables e below (T15.setTop (mkF m 34 #[.val (.int p1)] [(.ref w_AFFECTED)])) _
            jvm_step X15.here [X15.here.top, hx, (hb hby d3_34), X15.method', Bd.returns, Value.isRef, FieldType.isReference]
            first | (intro acts; rw [hr _ acts rfl rfl rfl]) | rw [hr _ _ rfl rfl rfl]
            exact Steps.refl _
          · show QR Z r h0 n0 _ T15.heap _
            rw [e15]
            exact ⟨by rw [hr0]; simp [own_pick, c1_2, c10_6, c19_10, c28_14], N0, rfl⟩
        · have pre17 : ∀ tt, Steps p.tables e below (s₁.setTop (mkF m 37 #[.val (.int p1)] [(.int (4 : Int32)), (.int p1)])) tt → Steps p.tables e below (s₁.setTop (entryFrame m #[(.int p1)] 1)) tt := by
            intro tt kt
            refine pre13 tt ?_
            show Steps p.tables e below (s₁.setTop (mkF m 28 #[.val (.int p1)] [(.int (3 : Int32)), (.int p1)])) _
            refine XS.icmpYes X0.here hx rfl (pc0 := 28) (pc' := 35) rfl (hb hby d3_28) rfl (feq c28_14).2 (by decide) (by decide) ?_
            show Steps p.tables e below (s₁.setTop (mkF m 35 #[.val (.int p1)] [])) _
            refine XS.iloadN X0.here hx rfl (hb hby d3_35) rfl ?_
            show Steps p.tables e below (s₁.setTop (mkF m 36 #[.val (.int p1)] [(.int p1)])) _
            refine XS.iconst X0.here hx rfl (hb hby d3_36) ?_
            exact kt
          by_cases c37_18 : p1 = (4 : Int32)
          · obtain ⟨T19, X19, e19, st19⟩ := getS2 X0 hx hZ hown (host := "") (Or.inl (hw _ (List.mem_of_getElem? (i := 20) rfl))) Via.refl e0 S_CHANGED (g := (mkF m 40 #[.val (.int p1)] [])) rfl (hb hby d3_40)
            have pre20 : ∀ tt, Steps p.tables e below (T19.setTop (mkF m 43 #[.val (.int p1)] [(.ref w_CHANGED)])) tt → Steps p.tables e below (s₁.setTop (entryFrame m #[(.int p1)] 1)) tt := by
              intro tt kt
              refine pre17 tt ?_
              show Steps p.tables e below (s₁.setTop (mkF m 37 #[.val (.int p1)] [(.int (4 : Int32)), (.int p1)])) _
              refine XS.icmpNo X0.here hx rfl (hb hby d3_37) rfl (teq c37_18).2 ?_
              show Steps p.tables e below (s₁.setTop (mkF m 40 #[.val (.int p1)] [])) _
              refine st19 _ ?_
              exact kt
            obtain ⟨fs, hr, hrun, hended, hW, hsame⟩ := X19.leave (v := some (.ref w_CHANGED)) (fun h => by rw [Bd.returns] at h; cases h)
            refine ⟨_, _, pre20 _ ?_, hrun, hended, _, _, rfl, ?_, ⟨_, rfl⟩, hW, hsame.mono (by decide) (by decide)⟩
            · show Steps p.tables e below (T19.setTop (mkF m 43 #[.val (.int p1)] [(.ref w_CHANGED)])) _
              jvm_step X19.here [X19.here.top, hx, (hb hby d3_43), X19.method', Bd.returns, Value.isRef, FieldType.isReference]
              first | (intro acts; rw [hr _ acts rfl rfl rfl]) | rw [hr _ _ rfl rfl rfl]
              exact Steps.refl _
            · show QR Z r h0 n0 _ T19.heap _
              rw [e19]
              exact ⟨by rw [hr0]; simp [own_pick, c1_2, c10_6, c19_10, c28_14, c37_18], N0, rfl⟩
          · obtain ⟨T21, X21, e21, st21⟩ := getS2 X0 hx hZ hown (host := "") (Or.inl (hw _ (List.mem_of_getElem? (i := 24) rfl))) Via.refl e0 S_MOVED (g := (mkF m 44 #[.val (.int p1)] [])) rfl (hb hby d3_44)
            have pre22 : ∀ tt, Steps p.tables e below (T21.setTop (mkF m 47 #[.val (.int p1)] [(.ref w_MOVED)])) tt → Steps p.tables e below (s₁.setTop (entryFrame m #[(.int p1)] 1)) tt := by
              intro tt kt
              refine pre17 tt ?_
              show Steps p.tables e below (s₁.setTop (mkF m 37 #[.val (.int p1)] [(.int (4 : Int32)), (.int p1)])) _
              refine XS.icmpYes X0.here hx rfl (pc0 := 37) (pc' := 44) rfl (hb hby d3_37) rfl (feq c37_18).2 (by decide) (by decide) ?_
              show Steps p.tables e below (s₁.setTop (mkF m 44 #[.val (.int p1)] [])) _
              refine st21 _ ?_
              exact kt
            obtain ⟨fs, hr, hrun, hended, hW, hsame⟩ := X21.leave (v := some (.ref w_MOVED)) (fun h => by rw [Bd.returns] at h; cases h)
            refine ⟨_, _, pre22 _ ?_, hrun, hended, _, _, rfl, ?_, ⟨_, rfl⟩, hW, hsame.mono (by decide) (by decide)⟩
            · show Steps p.tables e below (T21.setTop (mkF m 47 #[.val (.int p1)] [(.ref w_MOVED)])) _
              jvm_step X21.here [X21.here.top, hx, (hb hby d3_47), X21.method', Bd.returns, Value.isRef, FieldType.isReference]
              first | (intro acts; rw [hr _ acts rfl rfl rfl]) | rw [hr _ _ rfl rfl rfl]
              exact Steps.refl _
            · show QR Z r h0 n0 _ T21.heap _
              rw [e21]
              exact ⟨by rw [hr0]; simp [own_pick, c1_2, c10_6, c19_10, c28_14, c37_18], N0, rfl⟩
theorem d2_0 : decode prog_6_method_5_code 0 = .ok (.aload_n 0, 1) := by decide +kernel
theorem d2_1 : decode prog_6_method_5_code 1 = .ok (.getstatic 16, 3) := by decide +kernel
theorem d2_4 : decode prog_6_method_5_code 4 = .ok (.if_acmp .ne 9, 3) := by decide +kernel
theorem d2_7 : decode prog_6_method_5_code 7 = .ok (.getstatic 10, 3) := by decide +kernel
theorem d2_10 : decode prog_6_method_5_code 10 = .ok (.goto 4, 3) := by decide +kernel
theorem d2_13 : decode prog_6_method_5_code 13 = .ok (.aload_n 0, 1) := by decide +kernel
theorem d2_14 : decode prog_6_method_5_code 14 = .ok (.areturn, 1) := by decide +kernel
theorem pn_rm2 : plainName "com/example/driftwell/driftwell/Change$Status" = true := by first | (simp [plainName, overriddenIn]; done) | decide +kernel
theorem ef_rm2 (m : MethodId) (a1 : Addr) : entryFrame m #[(.ref a1)] 1 = mkF m 0 #[.val (.ref a1)] [] := by first | (simp [entryFrame, mkF, argsToLocals, Value.category]; done) | rfl
set_option maxRecDepth 65536 in
set_option maxHeartbeats 40000000 in
theorem rm2 (l : Launch) (Z : State) (a0 : Array Value) (hw : ∀ d ∈ tables_1, d.before a0 Z = true) (ws : List Jvm.Cond) (a1 w_RENAMED w_CHANGED r : Addr) (h0 : Heap) (n0 : Nat) (Z0 : n0 ≤ h0.size) (S_RENAMED : Sta Z h0 "com/example/driftwell/driftwell/Change$Status" "RENAMED" "Lcom/example/driftwell/driftwell/Change$Status;" (.ref w_RENAMED)) (S_CHANGED : Sta Z h0 "com/example/driftwell/driftwell/Change$Status" "CHANGED" "Lcom/example/driftwell/driftwell/Change$Status;" (.ref w_CHANGED)) (hr0 : r = if a1 = w_RENAMED then w_CHANGED else a1) :
    MetFree l (⟨"com/example/driftwell/driftwell/Change$Status", "counted", "()Lcom/example/driftwell/driftwell/Change$Status;"⟩ : MethodName) (head1 (Jvm.Cond.code (⟨"com/example/driftwell/driftwell/Change$Status", "counted", "()Lcom/example/driftwell/driftwell/Change$Status;"⟩ : MethodName) prog_6_method_5_code 1 (some (.object "com/example/driftwell/driftwell/Change$Status")) :: ws) ({ frames := 0, cells := 0, slots := 0, locals := 0 } : Room)) (fun a U => a = #[(.ref a1)] ∧ Z.Warmed39 U.vm ∧ U.heap = h0) (fun _ _ _ _ _ => True) (fun _ U o U' => ∃ v L, o = .returned v ∧ QR Z r h0 n0 v U'.heap L ∧ FrameEnd U o U' L ({ frames := 0, cells := 0, slots := 0, locals := 0 } : Room).cells ({ frames := 0, cells := 0, slots := 0, locals := 0 } : Room).slots) := by
  refine MetFree.of_bodySF (plainFor_of_name pn_rm2) hisR ?_
  intro p e s m args below meth c s₁ Bd hml0 hP hK
  obtain ⟨rfl, hZ, hh⟩ := hP
  have hx := Bd.exec
  have hby := Bd.bytes
  have hml : c.maxLocals = 1 := hml0
  have hown : s.vm.findClass "com/example/driftwell/driftwell/Change$Status" = some m.cls := findClass_of_methodNamed Bd.named
  have hnm := (name_of_methodNamed Bd.named Bd.method).1
  have X0 : Stand p l e ({ frames := 0, cells := 0, slots := 0, locals := 0 } : Room) s m #[(.ref a1)] below meth c s₁ [] 0 0 := Stand.of_body Bd
  have e0 : s₁.heap = h0 := by rw [← hh, Bd.state]; rfl
  have N0 := Fr.nil n0
  have pre0 : ∀ tt, Steps p.tables e below (s₁.setTop (mkF m 0 #[.val (.ref a1)] [])) tt → Steps p.tables e below (s₁.setTop (entryFrame m #[(.ref a1)] 1)) tt := fun tt kt => castTop (ef_rm2 m a1) kt
  obtain ⟨T1, X1, e1, st1⟩ := getS2 X0 hx hZ hown (host := "") (Or.inl (hw _ (List.mem_of_getElem? (i := 13) rfl))) Via.refl e0 S_RENAMED (g := (mkF m 1 #[.val (.ref a1)] [(.ref a1)])) rfl (hb hby d2_1)
  have pre2 : ∀ tt, Steps p.tables e below (T1.setTop (mkF m 4 #[.val (.ref a1)] [(.ref w_RENAMED), (.ref a1)])) tt → Steps p.tables e below (s₁.setTop (entryFrame m #[(.ref a1)] 1)) tt := by
    intro tt kt
    refine pre0 tt ?_
    show Steps p.tables e below (s₁.setTop (mkF m 0 #[.val (.ref a1)] [])) _
    refine XS.aloadN X0.here hx rfl (hb hby d2_0) rfl rfl ?_
    show Steps p.tables e below (s₁.setTop (mkF m 1 #[.val (.ref a1)] [(.ref a1)])) _
    refine st1 _ ?_
    exact kt
  by_cases c4_3 : a1 = w_RENAMED
  · obtain ⟨T4, X4, e4, st4⟩ := getS2 X1 hx hZ hown (host := "") (Or.inl (hw _ (List.mem_of_getElem? (i := 27) rfl))) Via.refl e1 S_CHANGED (g := (mkF m 7 #[.val (.ref a1)] [])) rfl (hb hby d2_7)
    have pre5 : ∀ tt, Steps p.tables e below (T4.setTop (mkF m 14 #[.val (.ref a1)] [(.ref w_CHANGED)])) tt → Steps p.tables e below (s₁.setTop (entryFrame m #[(.ref a1)] 1)) tt := by
      intro tt kt
      refine pre2 tt ?_
      show Steps p.tables e below (T1.setTop (mkF m 4 #[.val (.ref a1)] [(.ref w_RENAMED), (.ref a1)])) _
      refine Jvm.RoadKit.acmp (g := (mkF m 4 #[.val (.ref a1)] [(.ref w_RENAMED), (.ref a1)])) X1 hx rfl rfl rfl (pc0 := 4) (pc' := 7) (same := true) rfl (hb hby d2_4) rfl (decide_eq_true (congrArg Value.ref c4_3)) (by decide) (by decide) ?_
      show Steps p.tables e below (T1.setTop (mkF m 7 #[.val (.ref a1)] [])) _
      refine st4 _ ?_
      show Steps p.tables e below (T4.setTop (mkF m 10 #[.val (.ref a1)] [(.ref w_CHANGED)])) _
      refine XS.goto X4.here hx rfl (pc0 := 10) (pc' := 14) rfl (hb hby d2_10) (by decide) (by decide) ?_
      exact kt
    obtain ⟨fs, hr, hrun, hended, hW, hsame⟩ := X4.leave (v := some (.ref w_CHANGED)) (fun h => by rw [Bd.returns] at h; cases h)
    refine ⟨_, _, pre5 _ ?_, hrun, hended, _, _, rfl, ?_, ⟨_, rfl⟩, hW, hsame.mono (by decide) (by decide)⟩
    · show Steps p.tables e below (T4.setTop (mkF m 14 #[.val (.ref a1)] [(.ref w_CHANGED)])) _
      jvm_step X4.here [X4.here.top, hx, (hb hby d2_14), X4.method', Bd.returns, Value.isRef, FieldType.isReference]
      first | (intro acts; rw [hr _ acts rfl rfl rfl]) | rw [hr _ _ rfl rfl rfl]
      exact Steps.refl _
    · show QR Z r h0 n0 _ T4.heap _
      rw [e4]
      exact ⟨by rw [hr0, if_pos c4_3], N0, rfl⟩
  · have pre6 : ∀ tt, Steps p.tables e below (T1.setTop (mkF m 14 #[.val (.ref a1)] [(.ref a1)])) tt → Steps p.tables e below (s₁.setTop (entryFrame m #[(.ref a1)] 1)) tt := by
      intro tt kt
      refine pre2 tt ?_
      show Steps p.tables e below (T1.setTop (mkF m 4 #[.val (.ref a1)] [(.ref w_RENAMED), (.ref a1)])) _
      refine Jvm.RoadKit.acmp (g := (mkF m 4 #[.val (.ref a1)] [(.ref w_RENAMED), (.ref a1)])) X1 hx rfl rfl rfl (pc0 := 4) (pc' := 13) (same := false) rfl (hb hby d2_4) rfl (decide_eq_false fun q => c4_3 (Value.ref.inj q)) (by decide) (by decide) ?_
      show Steps p.tables e below (T1.setTop (mkF m 13 #[.val (.ref a1)] [])) _
      refine XS.aloadN X1.here hx rfl (hb hby d2_13) rfl rfl ?_
      exact kt
    obtain ⟨fs, hr, hrun, hended, hW, hsame⟩ := X1.leave (v := some (.ref a1)) (fun h => by rw [Bd.returns] at h; cases h)
    refine ⟨_, _, pre6 _ ?_, hrun, hended, _, _, rfl, ?_, ⟨_, rfl⟩, hW, hsame.mono (by decide) (by decide)⟩
    · show Steps p.tables e below (T1.setTop (mkF m 14 #[.val (.ref a1)] [(.ref a1)])) _
      jvm_step X1.here [X1.here.top, hx, (hb hby d2_14), X1.method', Bd.returns, Value.isRef, FieldType.isReference]
      first | (intro acts; rw [hr _ acts rfl rfl rfl]) | rw [hr _ _ rfl rfl rfl]
      exact Steps.refl _
    · show QR Z r h0 n0 _ T1.heap _
      rw [e1]
      exact ⟨by rw [hr0, if_neg c4_3], N0, rfl⟩
def Q0 (Z : State) (h0 : Heap) (n0 : Nat) (v : Option Value) (h : Heap) (L : List Loc) : Prop := v = some (.int (1 : Int32)) ∧ Fr n0 L
theorem pn_rm0 : plainName "com/example/driftwell/driftwell/StatusCountedPinLaw" = true := by first | (simp [plainName, overriddenIn]; done) | decide +kernel
theorem pd_rm0_0 : parseMethodDescriptor "(I)Lcom/example/driftwell/driftwell/Change$Status;" = some ⟨[.int], some (.object "com/example/driftwell/driftwell/Change$Status")⟩ := by decide +kernel
theorem pd_rm0_1 : parseMethodDescriptor "()Lcom/example/driftwell/driftwell/Change$Status;" = some ⟨[], some (.object "com/example/driftwell/driftwell/Change$Status")⟩ := by decide +kernel
theorem ef_rm0 (m : MethodId) (p1 : Int32) : entryFrame m #[(.int p1)] maxLocals = mkF m 0 #[.val (.int p1), .unset, .unset, .unset] [] := by first | (simp [entryFrame, mkF, argsToLocals, Value.category, maxLocals]; done) | rfl
set_option maxRecDepth 65536 in
set_option maxHeartbeats 40000000 in
theorem rm0 (l : Launch) (Z : State) (a0 : Array Value) (hw : ∀ d ∈ tables_1, d.before a0 Z = true) (ws : List Jvm.Cond) (p1 : Int32) (w_ADDED w_REMOVED w_CHANGED w_AFFECTED w_RENAMED w_MOVED : Addr) (h0 : Heap) (n0 : Nat) (Z0 : n0 ≤ h0.size) (S_ADDED : Sta Z h0 "com/example/driftwell/driftwell/Change$Status" "ADDED" "Lcom/example/driftwell/driftwell/Change$Status;" (.ref w_ADDED)) (S_REMOVED : Sta Z h0 "com/example/driftwell/driftwell/Change$Status" "REMOVED" "Lcom/example/driftwell/driftwell/Change$Status;" (.ref w_REMOVED)) (S_CHANGED : Sta Z h0 "com/example/driftwell/driftwell/Change$Status" "CHANGED" "Lcom/example/driftwell/driftwell/Change$Status;" (.ref w_CHANGED)) (S_AFFECTED : Sta Z h0 "com/example/driftwell/driftwell/Change$Status" "AFFECTED" "Lcom/example/driftwell/driftwell/Change$Status;" (.ref w_AFFECTED)) (S_RENAMED : Sta Z h0 "com/example/driftwell/driftwell/Change$Status" "RENAMED" "Lcom/example/driftwell/driftwell/Change$Status;" (.ref w_RENAMED)) (S_MOVED : Sta Z h0 "com/example/driftwell/driftwell/Change$Status" "MOVED" "Lcom/example/driftwell/driftwell/Change$Status;" (.ref w_MOVED)) (E_ADDED : Exa Z h0 w_ADDED "com/example/driftwell/driftwell/Change$Status") (E_REMOVED : Exa Z h0 w_REMOVED "com/example/driftwell/driftwell/Change$Status") (E_CHANGED : Exa Z h0 w_CHANGED "com/example/driftwell/driftwell/Change$Status") (E_AFFECTED : Exa Z h0 w_AFFECTED "com/example/driftwell/driftwell/Change$Status") (E_RENAMED : Exa Z h0 w_RENAMED "com/example/driftwell/driftwell/Change$Status") (E_MOVED : Exa Z h0 w_MOVED "com/example/driftwell/driftwell/Change$Status") (n_ADDED : ¬ (w_ADDED = w_RENAMED)) (n_REMOVED : ¬ (w_REMOVED = w_RENAMED)) (n_CHANGED : ¬ (w_CHANGED = w_RENAMED)) (n_AFFECTED : ¬ (w_AFFECTED = w_RENAMED)) (n_MOVED : ¬ (w_MOVED = w_RENAMED)) :
    MetFree l x (head1 (Jvm.Cond.code x code maxLocals ret :: ws) room_1) (fun a U => a = #[(.int p1)] ∧ Z.Warmed39 U.vm ∧ U.heap = h0) (fun _ _ _ _ _ => True) (fun _ U o U' => ∃ v L, o = .returned v ∧ Q0 Z h0 n0 v U'.heap L ∧ FrameEnd U o U' L room_1.cells room_1.slots) := by
  refine MetFree.of_bodySF (plainFor_of_name pn_rm0) hisR ?_
  intro p e s m args below meth c s₁ Bd hml0 hP hK
  obtain ⟨rfl, hZ, hh⟩ := hP
  have hx := Bd.exec
  have hby := Bd.bytes
  have hml : c.maxLocals = 4 := hml0
  have hown : s.vm.findClass "com/example/driftwell/driftwell/StatusCountedPinLaw" = some m.cls := findClass_of_methodNamed Bd.named
  have hnm := (name_of_methodNamed Bd.named Bd.method).1
  have X0 : Stand p l e room_1 s m #[(.int p1)] below meth c s₁ [] 0 0 := Stand.of_body Bd
  have e0 : s₁.heap = h0 := by rw [← hh, Bd.state]; rfl
  have N0 := Fr.nil n0
  have pre0 : ∀ tt, Steps p.tables e below (s₁.setTop (mkF m 0 #[.val (.int p1), .unset, .unset, .unset] [])) tt → Steps p.tables e below (s₁.setTop (entryFrame m #[(.int p1)] maxLocals)) tt := fun tt kt => castTop (ef_rm0 m p1) kt
  obtain ⟨k, hk⟩ : ∃ z : Int32, z = ((p1 &&& (2147483647 : Int32)) % (6 : Int32)) := ⟨_, rfl⟩
  have pre1 : ∀ tt, Steps p.tables e below (s₁.setTop (mkF m 7 #[.val (.int p1), .unset, .unset, .unset] [(.int k)])) tt → Steps p.tables e below (s₁.setTop (entryFrame m #[(.int p1)] maxLocals)) tt := by
    intro tt kt
    refine pre0 tt ?_
    show Steps p.tables e below (s₁.setTop (mkF m 0 #[.val (.int p1), .unset, .unset, .unset] [])) _
    refine XS.iloadN X0.here hx rfl (hb hby at_0) rfl ?_
    show Steps p.tables e below (s₁.setTop (mkF m 1 #[.val (.int p1), .unset, .unset, .unset] [(.int p1)])) _
    refine X0.ldcInt hx hown (mvT hZ (hw _ (List.mem_of_getElem? (i := 0) rfl))) (g := (mkF m 1 #[.val (.int p1), .unset, .unset, .unset] [(.int p1)])) rfl (hb hby at_1) _ ?_
    show Steps p.tables e below (s₁.setTop (mkF m 3 #[.val (.int p1), .unset, .unset, .unset] [(.int (2147483647 : Int32)), (.int p1)])) _
    refine XS.iand X0.here hx rfl (hb hby at_3) rfl ?_
    show Steps p.tables e below (s₁.setTop (mkF m 4 #[.val (.int p1), .unset, .unset, .unset] [(.int (p1 &&& (2147483647 : Int32)))])) _
    refine XS.bipush X0.here hx rfl (hb hby at_4) ?_
    show Steps p.tables e below (s₁.setTop (mkF m 6 #[.val (.int p1), .unset, .unset, .unset] [(.int (6 : Int32)), (.int (p1 &&& (2147483647 : Int32)))])) _
    refine iremM (g := (mkF m 6 #[.val (.int p1), .unset, .unset, .unset] [(.int (6 : Int32)), (.int (p1 &&& (2147483647 : Int32)))])) X0 hx rfl (hb hby at_6) rfl (by decide : ¬ ((6 : Int32) = (0 : Int32))) ?_
    show Steps p.tables e below (s₁.setTop (mkF m 7 #[.val (.int p1), .unset, .unset, .unset] [(.int ((p1 &&& (2147483647 : Int32)) % (6 : Int32)))])) _
    rw [← hk]
    exact kt
  have rk := own_of6 (own_rem p1 (6 : Int32) (by decide))
  rw [← hk] at rk
  clear hk
  rcases rk with rfl | rfl | rfl | rfl | rfl | rfl
  · obtain ⟨_, _, ⟨T2, L2, k2, n2⟩, -, X2, ⟨Lc2, hQ2, l2, y2, z2⟩, st2⟩ := Jvm.LawKit.callS X0 hx (y := (⟨"com/example/driftwell/driftwell/StatusCountedPinLaw", "pick", "(I)Lcom/example/driftwell/driftwell/Change$Status;"⟩ : MethodName)) hown (mvT hZ (hw _ (List.mem_of_getElem? (i := 1) rfl))) (mvT hZ (hw _ (List.mem_of_getElem? (i := 2) rfl))) (mvT hZ (hw _ (List.mem_of_getElem? (i := 3) rfl))) (mvT hZ (hw _ (List.mem_of_getElem? (i := 4) rfl))) (by decide) (backOf (W := 0) (rm1 l Z a0 hw [] (0 : Int32) w_ADDED w_REMOVED w_CHANGED w_AFFECTED w_RENAMED w_MOVED w_ADDED h0 n0 Z0 S_ADDED S_REMOVED S_CHANGED S_AFFECTED S_RENAMED S_MOVED (by simp [own_pick])) hZ (hw _ (List.mem_of_getElem? (i := 4) rfl)) (hw _ (List.mem_of_getElem? (i := 3) rfl)) (by decide) (by decide)) (g := (mkF m 9 #[.val (.int p1), .val (.int (0 : Int32)), .unset, .unset] [(.int (0 : Int32))])) rfl (by rw [hml]; rfl) (argsL := [(.int (0 : Int32))]) (rest := []) (lenOf pd_rm0_0 rfl) rfl (by show 2 * 0 + _ ≤ _; exact Nat.le_of_eq rfl) (hb hby at_9) (fun _ _ => ⟨rfl, e0, (by decide : 0 + 0 ≤ _), (by decide : 0 + 0 ≤ _)⟩)
    dsimp only [Pt.U, Pt.locs, Pt.cells, Pt.slots] at X2 l2 y2 z2 st2 hQ2
    subst l2 y2 z2
    obtain ⟨rfl, N2q, hE2⟩ := hQ2
    have N2 := Fr.app N0 N2q
    obtain ⟨cq3, kq3, q3a, q3b, q3c⟩ := isOf hZ hE2 E_ADDED
    obtain ⟨_, _, ⟨T3, L3, k3, n3⟩, -, X3, ⟨Lc3, hQ3, l3, y3, z3⟩, st3⟩ := X2.virtualBack hx (y := (⟨"com/example/driftwell/driftwell/Change$Status", "counted", "()Lcom/example/driftwell/driftwell/Change$Status;"⟩ : MethodName)) (z := (⟨"com/example/driftwell/driftwell/Change$Status", "counted", "()Lcom/example/driftwell/driftwell/Change$Status;"⟩ : MethodName)) hown (mvT hZ (hw _ (List.mem_of_getElem? (i := 8) rfl))) (mvT hZ (hw _ (List.mem_of_getElem? (i := 9) rfl))) (notFace_of_selects (args := #[]) (mvT hZ (hw _ (List.mem_of_getElem? (i := 11) rfl)))) (mvT hZ (hw _ (List.mem_of_getElem? (i := 11) rfl))) (mvT hZ (hw _ (List.mem_of_getElem? (i := 10) rfl))) (by decide) (backOf (W := 0) (rm2 l Z a0 hw [] w_ADDED w_RENAMED w_CHANGED w_ADDED h0 n0 Z0 S_RENAMED S_CHANGED (if_neg n_ADDED).symm) hZ (hw _ (List.mem_of_getElem? (i := 12) rfl)) (hw _ (List.mem_of_getElem? (i := 6) rfl)) (by decide) (by decide)) q3a q3c (g := (mkF m 14 #[.val (.int p1), .val (.int (0 : Int32)), .val (.ref w_ADDED), .unset] [(.ref w_ADDED)])) rfl (by rw [hml]; rfl) (Steps.refl _) (argsL := []) (rest := []) (lenOf pd_rm0_1 rfl) rfl (by show 2 * 0 + _ ≤ _; exact Nat.le_of_eq rfl) (hb hby at_14) (fun _ _ => ⟨rfl, hE2, (by decide : 0 + 0 ≤ _), (by decide : 0 + 0 ≤ _)⟩)
    dsimp only [Pt.U, Pt.locs, Pt.cells, Pt.slots] at X3 l3 y3 z3 st3 hQ3
    subst l3 y3 z3
    obtain ⟨rfl, N3q, hE3⟩ := hQ3
    have N3 := Fr.app N2 N3q
    obtain ⟨_, _, ⟨T4, L4, k4, n4⟩, -, X4, ⟨Lc4, hQ4, l4, y4, z4⟩, st4⟩ := Jvm.LawKit.callS X3 hx (y := (⟨"com/example/driftwell/driftwell/StatusCountedPinLaw", "expected", "(I)Lcom/example/driftwell/driftwell/Change$Status;"⟩ : MethodName)) hown (mvT hZ (hw _ (List.mem_of_getElem? (i := 15) rfl))) (mvT hZ (hw _ (List.mem_of_getElem? (i := 16) rfl))) (mvT hZ (hw _ (List.mem_of_getElem? (i := 3) rfl))) (mvT hZ (hw _ (List.mem_of_getElem? (i := 17) rfl))) (by decide) (backOf (W := 1) (rm3 l Z a0 hw [] (0 : Int32) w_ADDED w_REMOVED w_CHANGED w_AFFECTED w_RENAMED w_MOVED w_ADDED h0 n0 Z0 S_ADDED S_REMOVED S_CHANGED S_AFFECTED S_RENAMED S_MOVED (by simp [own_pick])) hZ (hw _ (List.mem_of_getElem? (i := 17) rfl)) (hw _ (List.mem_of_getElem? (i := 3) rfl)) (by decide) (by decide)) (g := (mkF m 20 #[.val (.int p1), .val (.int (0 : Int32)), .val (.ref w_ADDED), .val (.ref w_ADDED)] [(.int (0 : Int32)), (.ref w_ADDED)])) rfl (by rw [hml]; rfl) (argsL := [(.int (0 : Int32))]) (rest := [(.ref w_ADDED)]) (lenOf pd_rm0_0 rfl) rfl (by show 2 * 0 + _ ≤ _; exact Nat.le_of_eq rfl) (hb hby at_20) (fun _ _ => ⟨rfl, hE3, (by decide : 0 + 0 ≤ _), (by decide : 0 + 0 ≤ _)⟩)
    dsimp only [Pt.U, Pt.locs, Pt.cells, Pt.slots] at X4 l4 y4 z4 st4 hQ4
    subst l4 y4 z4
    obtain ⟨rfl, N4q, hE4⟩ := hQ4
    have N4 := Fr.app N3 N4q
    obtain ⟨cq5, kq5, q5a, q5b, q5c⟩ := isOf hZ hE4 E_ADDED
    obtain ⟨_, _, ⟨T5, L5, k5, n5⟩, -, X5, ⟨Lc5, hQ5, l5, y5, z5⟩, st5⟩ := X4.virtualBack hx (y := (⟨"com/example/driftwell/driftwell/Change$Status", "counted", "()Lcom/example/driftwell/driftwell/Change$Status;"⟩ : MethodName)) (z := (⟨"com/example/driftwell/driftwell/Change$Status", "counted", "()Lcom/example/driftwell/driftwell/Change$Status;"⟩ : MethodName)) hown (mvT hZ (hw _ (List.mem_of_getElem? (i := 8) rfl))) (mvT hZ (hw _ (List.mem_of_getElem? (i := 9) rfl))) (notFace_of_selects (args := #[]) (mvT hZ (hw _ (List.mem_of_getElem? (i := 11) rfl)))) (mvT hZ (hw _ (List.mem_of_getElem? (i := 11) rfl))) (mvT hZ (hw _ (List.mem_of_getElem? (i := 10) rfl))) (by decide) (backOf (W := 0) (rm2 l Z a0 hw [] w_ADDED w_RENAMED w_CHANGED w_ADDED h0 n0 Z0 S_RENAMED S_CHANGED (if_neg n_ADDED).symm) hZ (hw _ (List.mem_of_getElem? (i := 12) rfl)) (hw _ (List.mem_of_getElem? (i := 6) rfl)) (by decide) (by decide)) q5a q5c (g := (mkF m 27 #[.val (.int p1), .val (.int (0 : Int32)), .val (.ref w_ADDED), .val (.ref w_ADDED)] [(.ref w_ADDED)])) rfl (by rw [hml]; rfl) (Steps.refl _) (argsL := []) (rest := []) (lenOf pd_rm0_1 rfl) rfl (by show 2 * 0 + _ ≤ _; exact Nat.le_of_eq rfl) (hb hby at_27) (fun _ _ => ⟨rfl, hE4, (by decide : 0 + 0 ≤ _), (by decide : 0 + 0 ≤ _)⟩)
    dsimp only [Pt.U, Pt.locs, Pt.cells, Pt.slots] at X5 l5 y5 z5 st5 hQ5
    subst l5 y5 z5
    obtain ⟨rfl, N5q, hE5⟩ := hQ5
    have N5 := Fr.app N4 N5q
    have pre6 : ∀ tt, Steps p.tables e below (T5.setTop (mkF m 39 #[.val (.int p1), .val (.int (0 : Int32)), .val (.ref w_ADDED), .val (.ref w_ADDED)] [(.int (1 : Int32))])) tt → Steps p.tables e below (s₁.setTop (entryFrame m #[(.int p1)] maxLocals)) tt := by
      intro tt kt
      refine pre1 tt ?_
      show Steps p.tables e below (s₁.setTop (mkF m 7 #[.val (.int p1), .unset, .unset, .unset] [(.int (0 : Int32))])) _
      refine XS.istoreN X0.here hx rfl (hb hby at_7) rfl (l' := #[.val (.int p1), .val (.int (0 : Int32)), .unset, .unset]) rfl ?_
      show Steps p.tables e below (s₁.setTop (mkF m 8 #[.val (.int p1), .val (.int (0 : Int32)), .unset, .unset] [])) _
      refine XS.iloadN X0.here hx rfl (hb hby at_8) rfl ?_
      show Steps p.tables e below (s₁.setTop (mkF m 9 #[.val (.int p1), .val (.int (0 : Int32)), .unset, .unset] [(.int (0 : Int32))])) _
      refine st2 _ ?_
      show Steps p.tables e below (T2.setTop (mkF m 12 #[.val (.int p1), .val (.int (0 : Int32)), .unset, .unset] [(.ref w_ADDED)])) _
      refine XS.astoreN X2.here hx rfl (hb hby at_12) rfl rfl (l' := #[.val (.int p1), .val (.int (0 : Int32)), .val (.ref w_ADDED), .unset]) rfl ?_
      show Steps p.tables e below (T2.setTop (mkF m 13 #[.val (.int p1), .val (.int (0 : Int32)), .val (.ref w_ADDED), .unset] [])) _
      refine XS.aloadN X2.here hx rfl (hb hby at_13) rfl rfl ?_
      show Steps p.tables e below (T2.setTop (mkF m 14 #[.val (.int p1), .val (.int (0 : Int32)), .val (.ref w_ADDED), .unset] [(.ref w_ADDED)])) _
      refine st3.trans ?_
      show Steps p.tables e below (T3.setTop (mkF m 17 #[.val (.int p1), .val (.int (0 : Int32)), .val (.ref w_ADDED), .unset] [(.ref w_ADDED)])) _
      refine XS.astoreN X3.here hx rfl (hb hby at_17) rfl rfl (l' := #[.val (.int p1), .val (.int (0 : Int32)), .val (.ref w_ADDED), .val (.ref w_ADDED)]) rfl ?_
      show Steps p.tables e below (T3.setTop (mkF m 18 #[.val (.int p1), .val (.int (0 : Int32)), .val (.ref w_ADDED), .val (.ref w_ADDED)] [])) _
      refine XS.aloadN X3.here hx rfl (hb hby at_18) rfl rfl ?_
      show Steps p.tables e below (T3.setTop (mkF m 19 #[.val (.int p1), .val (.int (0 : Int32)), .val (.ref w_ADDED), .val (.ref w_ADDED)] [(.ref w_ADDED)])) _
      refine XS.iloadN X3.here hx rfl (hb hby at_19) rfl ?_
      show Steps p.tables e below (T3.setTop (mkF m 20 #[.val (.int p1), .val (.int (0 : Int32)), .val (.ref w_ADDED), .val (.ref w_ADDED)] [(.int (0 : Int32)), (.ref w_ADDED)])) _
      refine st4 _ ?_
      show Steps p.tables e below (T4.setTop (mkF m 23 #[.val (.int p1), .val (.int (0 : Int32)), .val (.ref w_ADDED), .val (.ref w_ADDED)] [(.ref w_ADDED), (.ref w_ADDED)])) _
      refine Jvm.RoadKit.acmp (g := (mkF m 23 #[.val (.int p1), .val (.int (0 : Int32)), .val (.ref w_ADDED), .val (.ref w_ADDED)] [(.ref w_ADDED), (.ref w_ADDED)])) X4 hx rfl rfl rfl (pc0 := 23) (pc' := 26) (same := true) rfl (hb hby at_23) rfl (decide_eq_true rfl) (by decide) (by decide) ?_
      show Steps p.tables e below (T4.setTop (mkF m 26 #[.val (.int p1), .val (.int (0 : Int32)), .val (.ref w_ADDED), .val (.ref w_ADDED)] [])) _
      refine XS.aloadN X4.here hx rfl (hb hby at_26) rfl rfl ?_
      show Steps p.tables e below (T4.setTop (mkF m 27 #[.val (.int p1), .val (.int (0 : Int32)), .val (.ref w_ADDED), .val (.ref w_ADDED)] [(.ref w_ADDED)])) _
      refine st5.trans ?_
      show Steps p.tables e below (T5.setTop (mkF m 30 #[.val (.int p1), .val (.int (0 : Int32)), .val (.ref w_ADDED), .val (.ref w_ADDED)] [(.ref w_ADDED)])) _
      refine XS.aloadN X5.here hx rfl (hb hby at_30) rfl rfl ?_
      show Steps p.tables e below (T5.setTop (mkF m 31 #[.val (.int p1), .val (.int (0 : Int32)), .val (.ref w_ADDED), .val (.ref w_ADDED)] [(.ref w_ADDED), (.ref w_ADDED)])) _
      refine Jvm.RoadKit.acmp (g := (mkF m 31 #[.val (.int p1), .val (.int (0 : Int32)), .val (.ref w_ADDED), .val (.ref w_ADDED)] [(.ref w_ADDED), (.ref w_ADDED)])) X5 hx rfl rfl rfl (pc0 := 31) (pc' := 34) (same := true) rfl (hb hby at_31) rfl (decide_eq_true rfl) (by decide) (by decide) ?_
      show Steps p.tables e below (T5.setTop (mkF m 34 #[.val (.int p1), .val (.int (0 : Int32)), .val (.ref w_ADDED), .val (.ref w_ADDED)] [])) _
      refine XS.iconst X5.here hx rfl (hb hby at_34) ?_
      show Steps p.tables e below (T5.setTop (mkF m 35 #[.val (.int p1), .val (.int (0 : Int32)), .val (.ref w_ADDED), .val (.ref w_ADDED)] [(.int (1 : Int32))])) _
      refine XS.goto X5.here hx rfl (pc0 := 35) (pc' := 39) rfl (hb hby at_35) (by decide) (by decide) ?_
      exact kt
    obtain ⟨fs, hr, hrun, hended, hW, hsame⟩ := X5.leave (v := some (.int (1 : Int32))) (fun h => by rw [Bd.returns] at h; cases h)
    refine ⟨_, _, pre6 _ ?_, hrun, hended, _, _, rfl, ?_, ⟨_, rfl⟩, hW, hsame.mono (by decide) (by decide)⟩
    · show Steps p.tables e below (T5.setTop (mkF m 39 #[.val (.int p1), .val (.int (0 : Int32)), .val (.ref w_ADDED), .val (.ref w_ADDED)] [(.int (1 : Int32))])) _
      exact retN X5 hx (t := .boolean) Bd.returns (by simp) (hb hby at_39) hr
    · show Q0 Z h0 n0 _ T5.heap _
      rw [hE5]
      exact ⟨rfl, N5⟩
  · obtain ⟨_, _, ⟨T7, L7, k7, n7⟩, -, X7, ⟨Lc7, hQ7, l7, y7, z7⟩, st7⟩ := Jvm.LawKit.callS X0 hx (y := (⟨"com/example/driftwell/driftwell/StatusCountedPinLaw", "pick", "(I)Lcom/example/driftwell/driftwell/Change$Status;"⟩ : MethodName)) hown (mvT hZ (hw _ (List.mem_of_getElem? (i := 1) rfl))) (mvT hZ (hw _ (List.mem_of_getElem? (i := 2) rfl))) (mvT hZ (hw _ (List.mem_of_getElem? (i := 3) rfl))) (mvT hZ (hw _ (List.mem_of_getElem? (i := 4) rfl))) (by decide) (backOf (W := 0) (rm1 l Z a0 hw [] (1 : Int32) w_ADDED w_REMOVED w_CHANGED w_AFFECTED w_RENAMED w_MOVED w_REMOVED h0 n0 Z0 S_ADDED S_REMOVED S_CHANGED S_AFFECTED S_RENAMED S_MOVED (by simp [own_pick])) hZ (hw _ (List.mem_of_getElem? (i := 4) rfl)) (hw _ (List.mem_of_getElem? (i := 3) rfl)) (by decide) (by decide)) (g := (mkF m 9 #[.val (.int p1), .val (.int (1 : Int32)), .unset, .unset] [(.int (1 : Int32))])) rfl (by rw [hml]; rfl) (argsL := [(.int (1 : Int32))]) (rest := []) (lenOf pd_rm0_0 rfl) rfl (by show 2 * 0 + _ ≤ _; exact Nat.le_of_eq rfl) (hb hby at_9) (fun _ _ => ⟨rfl, e0, (by decide : 0 + 0 ≤ _), (by decide : 0 + 0 ≤ _)⟩)
    dsimp only [Pt.U, Pt.locs, Pt.cells, Pt.slots] at X7 l7 y7 z7 st7 hQ7
    subst l7 y7 z7
    obtain ⟨rfl, N7q, hE7⟩ := hQ7
    have N7 := Fr.app N0 N7q
    obtain ⟨cq8, kq8, q8a, q8b, q8c⟩ := isOf hZ hE7 E_REMOVED
    obtain ⟨_, _, ⟨T8, L8, k8, n8⟩, -, X8, ⟨Lc8, hQ8, l8, y8, z8⟩, st8⟩ := X7.virtualBack hx (y := (⟨"com/example/driftwell/driftwell/Change$Status", "counted", "()Lcom/example/driftwell/driftwell/Change$Status;"⟩ : MethodName)) (z := (⟨"com/example/driftwell/driftwell/Change$Status", "counted", "()Lcom/example/driftwell/driftwell/Change$Status;"⟩ : MethodName)) hown (mvT hZ (hw _ (List.mem_of_getElem? (i := 8) rfl))) (mvT hZ (hw _ (List.mem_of_getElem? (i := 9) rfl))) (notFace_of_selects (args := #[]) (mvT hZ (hw _ (List.mem_of_getElem? (i := 11) rfl)))) (mvT hZ (hw _ (List.mem_of_getElem? (i := 11) rfl))) (mvT hZ (hw _ (List.mem_of_getElem? (i := 10) rfl))) (by decide) (backOf (W := 0) (rm2 l Z a0 hw [] w_REMOVED w_RENAMED w_CHANGED w_REMOVED h0 n0 Z0 S_RENAMED S_CHANGED (if_neg n_REMOVED).symm) hZ (hw _ (List.mem_of_getElem? (i := 12) rfl)) (hw _ (List.mem_of_getElem? (i := 6) rfl)) (by decide) (by decide)) q8a q8c (g := (mkF m 14 #[.val (.int p1), .val (.int (1 : Int32)), .val (.ref w_REMOVED), .unset] [(.ref w_REMOVED)])) rfl (by rw [hml]; rfl) (Steps.refl _) (argsL := []) (rest := []) (lenOf pd_rm0_1 rfl) rfl (by show 2 * 0 + _ ≤ _; exact Nat.le_of_eq rfl) (hb hby at_14) (fun _ _ => ⟨rfl, hE7, (by decide : 0 + 0 ≤ _), (by decide : 0 + 0 ≤ _)⟩)
    dsimp only [Pt.U, Pt.locs, Pt.cells, Pt.slots] at X8 l8 y8 z8 st8 hQ8
    subst l8 y8 z8
    obtain ⟨rfl, N8q, hE8⟩ := hQ8
    have N8 := Fr.app N7 N8q
    obtain ⟨_, _, ⟨T9, L9, k9, n9⟩, -, X9, ⟨Lc9, hQ9, l9, y9, z9⟩, st9⟩ := Jvm.LawKit.callS X8 hx (y := (⟨"com/example/driftwell/driftwell/StatusCountedPinLaw", "expected", "(I)Lcom/example/driftwell/driftwell/Change$Status;"⟩ : MethodName)) hown (mvT hZ (hw _ (List.mem_of_getElem? (i := 15) rfl))) (mvT hZ (hw _ (List.mem_of_getElem? (i := 16) rfl))) (mvT hZ (hw _ (List.mem_of_getElem? (i := 3) rfl))) (mvT hZ (hw _ (List.mem_of_getElem? (i := 17) rfl))) (by decide) (backOf (W := 1) (rm3 l Z a0 hw [] (1 : Int32) w_ADDED w_REMOVED w_CHANGED w_AFFECTED w_RENAMED w_MOVED w_REMOVED h0 n0 Z0 S_ADDED S_REMOVED S_CHANGED S_AFFECTED S_RENAMED S_MOVED (by simp [own_pick])) hZ (hw _ (List.mem_of_getElem? (i := 17) rfl)) (hw _ (List.mem_of_getElem? (i := 3) rfl)) (by decide) (by decide)) (g := (mkF m 20 #[.val (.int p1), .val (.int (1 : Int32)), .val (.ref w_REMOVED), .val (.ref w_REMOVED)] [(.int (1 : Int32)), (.ref w_REMOVED)])) rfl (by rw [hml]; rfl) (argsL := [(.int (1 : Int32))]) (rest := [(.ref w_REMOVED)]) (lenOf pd_rm0_0 rfl) rfl (by show 2 * 0 + _ ≤ _; exact Nat.le_of_eq rfl) (hb hby at_20) (fun _ _ => ⟨rfl, hE8, (by decide : 0 + 0 ≤ _), (by decide : 0 + 0 ≤ _)⟩)
    dsimp only [Pt.U, Pt.locs, Pt.cells, Pt.slots] at X9 l9 y9 z9 st9 hQ9
    subst l9 y9 z9
    obtain ⟨rfl, N9q, hE9⟩ := hQ9
    have N9 := Fr.app N8 N9q
    obtain ⟨cq10, kq10, q10a, q10b, q10c⟩ := isOf hZ hE9 E_REMOVED
    obtain ⟨_, _, ⟨T10, L10, k10, n10⟩, -, X10, ⟨Lc10, hQ10, l10, y10, z10⟩, st10⟩ := X9.virtualBack hx (y := (⟨"com/example/driftwell/driftwell/Change$Status", "counted", "()Lcom/example/driftwell/driftwell/Change$Status;"⟩ : MethodName)) (z := (⟨"com/example/driftwell/driftwell/Change$Status", "counted", "()Lcom/example/driftwell/driftwell/Change$Status;"⟩ : MethodName)) hown (mvT hZ (hw _ (List.mem_of_getElem? (i := 8) rfl))) (mvT hZ (hw _ (List.mem_of_getElem? (i := 9) rfl))) (notFace_of_selects (args := #[]) (mvT hZ (hw _ (List.mem_of_getElem? (i := 11) rfl)))) (mvT hZ (hw _ (List.mem_of_getElem? (i := 11) rfl))) (mvT hZ (hw _ (List.mem_of_getElem? (i := 10) rfl))) (by decide) (backOf (W := 0) (rm2 l Z a0 hw [] w_REMOVED w_RENAMED w_CHANGED w_REMOVED h0 n0 Z0 S_RENAMED S_CHANGED (if_neg n_REMOVED).symm) hZ (hw _ (List.mem_of_getElem? (i := 12) rfl)) (hw _ (List.mem_of_getElem? (i := 6) rfl)) (by decide) (by decide)) q10a q10c (g := (mkF m 27 #[.val (.int p1), .val (.int (1 : Int32)), .val (.ref w_REMOVED), .val (.ref w_REMOVED)] [(.ref w_REMOVED)])) rfl (by rw [hml]; rfl) (Steps.refl _) (argsL := []) (rest := []) (lenOf pd_rm0_1 rfl) rfl (by show 2 * 0 + _ ≤ _; exact Nat.le_of_eq rfl) (hb hby at_27) (fun _ _ => ⟨rfl, hE9, (by decide : 0 + 0 ≤ _), (by decide : 0 + 0 ≤ _)⟩)
    dsimp only [Pt.U, Pt.locs, Pt.cells, Pt.slots] at X10 l10 y10 z10 st10 hQ10
    subst l10 y10 z10
    obtain ⟨rfl, N10q, hE10⟩ := hQ10
    have N10 := Fr.app N9 N10q
    have pre11 : ∀ tt, Steps p.tables e below (T10.setTop (mkF m 39 #[.val (.int p1), .val (.int (1 : Int32)), .val (.ref w_REMOVED), .val (.ref w_REMOVED)] [(.int (1 : Int32))])) tt → Steps p.tables e below (s₁.setTop (entryFrame m #[(.int p1)] maxLocals)) tt := by
      intro tt kt
      refine pre1 tt ?_
      show Steps p.tables e below (s₁.setTop (mkF m 7 #[.val (.int p1), .unset, .unset, .unset] [(.int (1 : Int32))])) _
      refine XS.istoreN X0.here hx rfl (hb hby at_7) rfl (l' := #[.val (.int p1), .val (.int (1 : Int32)), .unset, .unset]) rfl ?_
      show Steps p.tables e below (s₁.setTop (mkF m 8 #[.val (.int p1), .val (.int (1 : Int32)), .unset, .unset] [])) _
      refine XS.iloadN X0.here hx rfl (hb hby at_8) rfl ?_
      show Steps p.tables e below (s₁.setTop (mkF m 9 #[.val (.int p1), .val (.int (1 : Int32)), .unset, .unset] [(.int (1 : Int32))])) _
      refine st7 _ ?_
      show Steps p.tables e below (T7.setTop (mkF m 12 #[.val (.int p1), .val (.int (1 : Int32)), .unset, .unset] [(.ref w_REMOVED)])) _
      refine XS.astoreN X7.here hx rfl (hb hby at_12) rfl rfl (l' := #[.val (.int p1), .val (.int (1 : Int32)), .val (.ref w_REMOVED), .unset]) rfl ?_
      show Steps p.tables e below (T7.setTop (mkF m 13 #[.val (.int p1), .val (.int (1 : Int32)), .val (.ref w_REMOVED), .unset] [])) _
      refine XS.aloadN X7.here hx rfl (hb hby at_13) rfl rfl ?_
      show Steps p.tables e below (T7.setTop (mkF m 14 #[.val (.int p1), .val (.int (1 : Int32)), .val (.ref w_REMOVED), .unset] [(.ref w_REMOVED)])) _
      refine st8.trans ?_
      show Steps p.tables e below (T8.setTop (mkF m 17 #[.val (.int p1), .val (.int (1 : Int32)), .val (.ref w_REMOVED), .unset] [(.ref w_REMOVED)])) _
      refine XS.astoreN X8.here hx rfl (hb hby at_17) rfl rfl (l' := #[.val (.int p1), .val (.int (1 : Int32)), .val (.ref w_REMOVED), .val (.ref w_REMOVED)]) rfl ?_
      show Steps p.tables e below (T8.setTop (mkF m 18 #[.val (.int p1), .val (.int (1 : Int32)), .val (.ref w_REMOVED), .val (.ref w_REMOVED)] [])) _
      refine XS.aloadN X8.here hx rfl (hb hby at_18) rfl rfl ?_
      show Steps p.tables e below (T8.setTop (mkF m 19 #[.val (.int p1), .val (.int (1 : Int32)), .val (.ref w_REMOVED), .val (.ref w_REMOVED)] [(.ref w_REMOVED)])) _
      refine XS.iloadN X8.here hx rfl (hb hby at_19) rfl ?_
      show Steps p.tables e below (T8.setTop (mkF m 20 #[.val (.int p1), .val (.int (1 : Int32)), .val (.ref w_REMOVED), .val (.ref w_REMOVED)] [(.int (1 : Int32)), (.ref w_REMOVED)])) _
      refine st9 _ ?_
      show Steps p.tables e below (T9.setTop (mkF m 23 #[.val (.int p1), .val (.int (1 : Int32)), .val (.ref w_REMOVED), .val (.ref w_REMOVED)] [(.ref w_REMOVED), (.ref w_REMOVED)])) _
      refine Jvm.RoadKit.acmp (g := (mkF m 23 #[.val (.int p1), .val (.int (1 : Int32)), .val (.ref w_REMOVED), .val (.ref w_REMOVED)] [(.ref w_REMOVED), (.ref w_REMOVED)])) X9 hx rfl rfl rfl (pc0 := 23) (pc' := 26) (same := true) rfl (hb hby at_23) rfl (decide_eq_true rfl) (by decide) (by decide) ?_
      show Steps p.tables e below (T9.setTop (mkF m 26 #[.val (.int p1), .val (.int (1 : Int32)), .val (.ref w_REMOVED), .val (.ref w_REMOVED)] [])) _
      refine XS.aloadN X9.here hx rfl (hb hby at_26) rfl rfl ?_
      show Steps p.tables e below (T9.setTop (mkF m 27 #[.val (.int p1), .val (.int (1 : Int32)), .val (.ref w_REMOVED), .val (.ref w_REMOVED)] [(.ref w_REMOVED)])) _
      refine st10.trans ?_
      show Steps p.tables e below (T10.setTop (mkF m 30 #[.val (.int p1), .val (.int (1 : Int32)), .val (.ref w_REMOVED), .val (.ref w_REMOVED)] [(.ref w_REMOVED)])) _
      refine XS.aloadN X10.here hx rfl (hb hby at_30) rfl rfl ?_
      show Steps p.tables e below (T10.setTop (mkF m 31 #[.val (.int p1), .val (.int (1 : Int32)), .val (.ref w_REMOVED), .val (.ref w_REMOVED)] [(.ref w_REMOVED), (.ref w_REMOVED)])) _
      refine Jvm.RoadKit.acmp (g := (mkF m 31 #[.val (.int p1), .val (.int (1 : Int32)), .val (.ref w_REMOVED), .val (.ref w_REMOVED)] [(.ref w_REMOVED), (.ref w_REMOVED)])) X10 hx rfl rfl rfl (pc0 := 31) (pc' := 34) (same := true) rfl (hb hby at_31) rfl (decide_eq_true rfl) (by decide) (by decide) ?_
      show Steps p.tables e below (T10.setTop (mkF m 34 #[.val (.int p1), .val (.int (1 : Int32)), .val (.ref w_REMOVED), .val (.ref w_REMOVED)] [])) _
      refine XS.iconst X10.here hx rfl (hb hby at_34) ?_
      show Steps p.tables e below (T10.setTop (mkF m 35 #[.val (.int p1), .val (.int (1 : Int32)), .val (.ref w_REMOVED), .val (.ref w_REMOVED)] [(.int (1 : Int32))])) _
      refine XS.goto X10.here hx rfl (pc0 := 35) (pc' := 39) rfl (hb hby at_35) (by decide) (by decide) ?_
      exact kt
    obtain ⟨fs, hr, hrun, hended, hW, hsame⟩ := X10.leave (v := some (.int (1 : Int32))) (fun h => by rw [Bd.returns] at h; cases h)
    refine ⟨_, _, pre11 _ ?_, hrun, hended, _, _, rfl, ?_, ⟨_, rfl⟩, hW, hsame.mono (by decide) (by decide)⟩
    · show Steps p.tables e below (T10.setTop (mkF m 39 #[.val (.int p1), .val (.int (1 : Int32)), .val (.ref w_REMOVED), .val (.ref w_REMOVED)] [(.int (1 : Int32))])) _
      exact retN X10 hx (t := .boolean) Bd.returns (by simp) (hb hby at_39) hr
    · show Q0 Z h0 n0 _ T10.heap _
      rw [hE10]
      exact ⟨rfl, N10⟩
  · obtain ⟨_, _, ⟨T12, L12, k12, n12⟩, -, X12, ⟨Lc12, hQ12, l12, y12, z12⟩, st12⟩ := Jvm.LawKit.callS X0 hx (y := (⟨"com/example/driftwell/driftwell/StatusCountedPinLaw", "pick", "(I)Lcom/example/driftwell/driftwell/Change$Status;"⟩ : MethodName)) hown (mvT hZ (hw _ (List.mem_of_getElem? (i := 1) rfl))) (mvT hZ (hw _ (List.mem_of_getElem? (i := 2) rfl))) (mvT hZ (hw _ (List.mem_of_getElem? (i := 3) rfl))) (mvT hZ (hw _ (List.mem_of_getElem? (i := 4) rfl))) (by decide) (backOf (W := 0) (rm1 l Z a0 hw [] (2 : Int32) w_ADDED w_REMOVED w_CHANGED w_AFFECTED w_RENAMED w_MOVED w_CHANGED h0 n0 Z0 S_ADDED S_REMOVED S_CHANGED S_AFFECTED S_RENAMED S_MOVED (by simp [own_pick])) hZ (hw _ (List.mem_of_getElem? (i := 4) rfl)) (hw _ (List.mem_of_getElem? (i := 3) rfl)) (by decide) (by decide)) (g := (mkF m 9 #[.val (.int p1), .val (.int (2 : Int32)), .unset, .unset] [(.int (2 : Int32))])) rfl (by rw [hml]; rfl) (argsL := [(.int (2 : Int32))]) (rest := []) (lenOf pd_rm0_0 rfl) rfl (by show 2 * 0 + _ ≤ _; exact Nat.le_of_eq rfl) (hb hby at_9) (fun _ _ => ⟨rfl, e0, (by decide : 0 + 0 ≤ _), (by decide : 0 + 0 ≤ _)⟩)
    dsimp only [Pt.U, Pt.locs, Pt.cells, Pt.slots] at X12 l12 y12 z12 st12 hQ12
    subst l12 y12 z12
    obtain ⟨rfl, N12q, hE12⟩ := hQ12
    have N12 := Fr.app N0 N12q
    obtain ⟨cq13, kq13, q13a, q13b, q13c⟩ := isOf hZ hE12 E_CHANGED
    obtain ⟨_, _, ⟨T13, L13, k13, n13⟩, -, X13, ⟨Lc13, hQ13, l13, y13, z13⟩, st13⟩ := X12.virtualBack hx (y := (⟨"com/example/driftwell/driftwell/Change$Status", "counted", "()Lcom/example/driftwell/driftwell/Change$Status;"⟩ : MethodName)) (z := (⟨"com/example/driftwell/driftwell/Change$Status", "counted", "()Lcom/example/driftwell/driftwell/Change$Status;"⟩ : MethodName)) hown (mvT hZ (hw _ (List.mem_of_getElem? (i := 8) rfl))) (mvT hZ (hw _ (List.mem_of_getElem? (i := 9) rfl))) (notFace_of_selects (args := #[]) (mvT hZ (hw _ (List.mem_of_getElem? (i := 11) rfl)))) (mvT hZ (hw _ (List.mem_of_getElem? (i := 11) rfl))) (mvT hZ (hw _ (List.mem_of_getElem? (i := 10) rfl))) (by decide) (backOf (W := 0) (rm2 l Z a0 hw [] w_CHANGED w_RENAMED w_CHANGED w_CHANGED h0 n0 Z0 S_RENAMED S_CHANGED (if_neg n_CHANGED).symm) hZ (hw _ (List.mem_of_getElem? (i := 12) rfl)) (hw _ (List.mem_of_getElem? (i := 6) rfl)) (by decide) (by decide)) q13a q13c (g := (mkF m 14 #[.val (.int p1), .val (.int (2 : Int32)), .val (.ref w_CHANGED), .unset] [(.ref w_CHANGED)])) rfl (by rw [hml]; rfl) (Steps.refl _) (argsL := []) (rest := []) (lenOf pd_rm0_1 rfl) rfl (by show 2 * 0 + _ ≤ _; exact Nat.le_of_eq rfl) (hb hby at_14) (fun _ _ => ⟨rfl, hE12, (by decide : 0 + 0 ≤ _), (by decide : 0 + 0 ≤ _)⟩)
    dsimp only [Pt.U, Pt.locs, Pt.cells, Pt.slots] at X13 l13 y13 z13 st13 hQ13
    subst l13 y13 z13
    obtain ⟨rfl, N13q, hE13⟩ := hQ13
    have N13 := Fr.app N12 N13q
    obtain ⟨_, _, ⟨T14, L14, k14, n14⟩, -, X14, ⟨Lc14, hQ14, l14, y14, z14⟩, st14⟩ := Jvm.LawKit.callS X13 hx (y := (⟨"com/example/driftwell/driftwell/StatusCountedPinLaw", "expected", "(I)Lcom/example/driftwell/driftwell/Change$Status;"⟩ : MethodName)) hown (mvT hZ (hw _ (List.mem_of_getElem? (i := 15) rfl))) (mvT hZ (hw _ (List.mem_of_getElem? (i := 16) rfl))) (mvT hZ (hw _ (List.mem_of_getElem? (i := 3) rfl))) (mvT hZ (hw _ (List.mem_of_getElem? (i := 17) rfl))) (by decide) (backOf (W := 1) (rm3 l Z a0 hw [] (2 : Int32) w_ADDED w_REMOVED w_CHANGED w_AFFECTED w_RENAMED w_MOVED w_CHANGED h0 n0 Z0 S_ADDED S_REMOVED S_CHANGED S_AFFECTED S_RENAMED S_MOVED (by simp [own_pick])) hZ (hw _ (List.mem_of_getElem? (i := 17) rfl)) (hw _ (List.mem_of_getElem? (i := 3) rfl)) (by decide) (by decide)) (g := (mkF m 20 #[.val (.int p1), .val (.int (2 : Int32)), .val (.ref w_CHANGED), .val (.ref w_CHANGED)] [(.int (2 : Int32)), (.ref w_CHANGED)])) rfl (by rw [hml]; rfl) (argsL := [(.int (2 : Int32))]) (rest := [(.ref w_CHANGED)]) (lenOf pd_rm0_0 rfl) rfl (by show 2 * 0 + _ ≤ _; exact Nat.le_of_eq rfl) (hb hby at_20) (fun _ _ => ⟨rfl, hE13, (by decide : 0 + 0 ≤ _), (by decide : 0 + 0 ≤ _)⟩)
    dsimp only [Pt.U, Pt.locs, Pt.cells, Pt.slots] at X14 l14 y14 z14 st14 hQ14
    subst l14 y14 z14
    obtain ⟨rfl, N14q, hE14⟩ := hQ14
    have N14 := Fr.app N13 N14q
    obtain ⟨cq15, kq15, q15a, q15b, q15c⟩ := isOf hZ hE14 E_CHANGED
    obtain ⟨_, _, ⟨T15, L15, k15, n15⟩, -, X15, ⟨Lc15, hQ15, l15, y15, z15⟩, st15⟩ := X14.virtualBack hx (y := (⟨"com/example/driftwell/driftwell/Change$Status", "counted", "()Lcom/example/driftwell/driftwell/Change$Status;"⟩ : MethodName)) (z := (⟨"com/example/driftwell/driftwell/Change$Status", "counted", "()Lcom/example/driftwell/driftwell/Change$Status;"⟩ : MethodName)) hown (mvT hZ (hw _ (List.mem_of_getElem? (i := 8) rfl))) (mvT hZ (hw _ (List.mem_of_getElem? (i := 9) rfl))) (notFace_of_selects (args := #[]) (mvT hZ (hw _ (List.mem_of_getElem? (i := 11) rfl)))) (mvT hZ (hw _ (List.mem_of_getElem? (i := 11) rfl))) (mvT hZ (hw _ (List.mem_of_getElem? (i := 10) rfl))) (by decide) (backOf (W := 0) (rm2 l Z a0 hw [] w_CHANGED w_RENAMED w_CHANGED w_CHANGED h0 n0 Z0 S_RENAMED S_CHANGED (if_neg n_CHANGED).symm) hZ (hw _ (List.mem_of_getElem? (i := 12) rfl)) (hw _ (List.mem_of_getElem? (i := 6) rfl)) (by decide) (by decide)) q15a q15c (g := (mkF m 27 #[.val (.int p1), .val (.int (2 : Int32)), .val (.ref w_CHANGED), .val (.ref w_CHANGED)] [(.ref w_CHANGED)])) rfl (by rw [hml]; rfl) (Steps.refl _) (argsL := []) (rest := []) (lenOf pd_rm0_1 rfl) rfl (by show 2 * 0 + _ ≤ _; exact Nat.le_of_eq rfl) (hb hby at_27) (fun _ _ => ⟨rfl, hE14, (by decide : 0 + 0 ≤ _), (by decide : 0 + 0 ≤ _)⟩)
    dsimp only [Pt.U, Pt.locs, Pt.cells, Pt.slots] at X15 l15 y15 z15 st15 hQ15
    subst l15 y15 z15
    obtain ⟨rfl, N15q, hE15⟩ := hQ15
    have N15 := Fr.app N14 N15q
    have pre16 : ∀ tt, Steps p.tables e below (T15.setTop (mkF m 39 #[.val (.int p1), .val (.int (2 : Int32)), .val (.ref w_CHANGED), .val (.ref w_CHANGED)] [(.int (1 : Int32))])) tt → Steps p.tables e below (s₁.setTop (entryFrame m #[(.int p1)] maxLocals)) tt := by
      intro tt kt
      refine pre1 tt ?_
      show Steps p.tables e below (s₁.setTop (mkF m 7 #[.val (.int p1), .unset, .unset, .unset] [(.int (2 : Int32))])) _
      refine XS.istoreN X0.here hx rfl (hb hby at_7) rfl (l' := #[.val (.int p1), .val (.int (2 : Int32)), .unset, .unset]) rfl ?_
      show Steps p.tables e below (s₁.setTop (mkF m 8 #[.val (.int p1), .val (.int (2 : Int32)), .unset, .unset] [])) _
      refine XS.iloadN X0.here hx rfl (hb hby at_8) rfl ?_
      show Steps p.tables e below (s₁.setTop (mkF m 9 #[.val (.int p1), .val (.int (2 : Int32)), .unset, .unset] [(.int (2 : Int32))])) _
      refine st12 _ ?_
      show Steps p.tables e below (T12.setTop (mkF m 12 #[.val (.int p1), .val (.int (2 : Int32)), .unset, .unset] [(.ref w_CHANGED)])) _
      refine XS.astoreN X12.here hx rfl (hb hby at_12) rfl rfl (l' := #[.val (.int p1), .val (.int (2 : Int32)), .val (.ref w_CHANGED), .unset]) rfl ?_
      show Steps p.tables e below (T12.setTop (mkF m 13 #[.val (.int p1), .val (.int (2 : Int32)), .val (.ref w_CHANGED), .unset] [])) _
      refine XS.aloadN X12.here hx rfl (hb hby at_13) rfl rfl ?_
      show Steps p.tables e below (T12.setTop (mkF m 14 #[.val (.int p1), .val (.int (2 : Int32)), .val (.ref w_CHANGED), .unset] [(.ref w_CHANGED)])) _
      refine st13.trans ?_
      show Steps p.tables e below (T13.setTop (mkF m 17 #[.val (.int p1), .val (.int (2 : Int32)), .val (.ref w_CHANGED), .unset] [(.ref w_CHANGED)])) _
      refine XS.astoreN X13.here hx rfl (hb hby at_17) rfl rfl (l' := #[.val (.int p1), .val (.int (2 : Int32)), .val (.ref w_CHANGED), .val (.ref w_CHANGED)]) rfl ?_
      show Steps p.tables e below (T13.setTop (mkF m 18 #[.val (.int p1), .val (.int (2 : Int32)), .val (.ref w_CHANGED), .val (.ref w_CHANGED)] [])) _
      refine XS.aloadN X13.here hx rfl (hb hby at_18) rfl rfl ?_
      show Steps p.tables e below (T13.setTop (mkF m 19 #[.val (.int p1), .val (.int (2 : Int32)), .val (.ref w_CHANGED), .val (.ref w_CHANGED)] [(.ref w_CHANGED)])) _
      refine XS.iloadN X13.here hx rfl (hb hby at_19) rfl ?_
      show Steps p.tables e below (T13.setTop (mkF m 20 #[.val (.int p1), .val (.int (2 : Int32)), .val (.ref w_CHANGED), .val (.ref w_CHANGED)] [(.int (2 : Int32)), (.ref w_CHANGED)])) _
      refine st14 _ ?_
      show Steps p.tables e below (T14.setTop (mkF m 23 #[.val (.int p1), .val (.int (2 : Int32)), .val (.ref w_CHANGED), .val (.ref w_CHANGED)] [(.ref w_CHANGED), (.ref w_CHANGED)])) _
      refine Jvm.RoadKit.acmp (g := (mkF m 23 #[.val (.int p1), .val (.int (2 : Int32)), .val (.ref w_CHANGED), .val (.ref w_CHANGED)] [(.ref w_CHANGED), (.ref w_CHANGED)])) X14 hx rfl rfl rfl (pc0 := 23) (pc' := 26) (same := true) rfl (hb hby at_23) rfl (decide_eq_true rfl) (by decide) (by decide) ?_
      show Steps p.tables e below (T14.setTop (mkF m 26 #[.val (.int p1), .val (.int (2 : Int32)), .val (.ref w_CHANGED), .val (.ref w_CHANGED)] [])) _
      refine XS.aloadN X14.here hx rfl (hb hby at_26) rfl rfl ?_
      show Steps p.tables e below (T14.setTop (mkF m 27 #[.val (.int p1), .val (.int (2 : Int32)), .val (.ref w_CHANGED), .val (.ref w_CHANGED)] [(.ref w_CHANGED)])) _
      refine st15.trans ?_
      show Steps p.tables e below (T15.setTop (mkF m 30 #[.val (.int p1), .val (.int (2 : Int32)), .val (.ref w_CHANGED), .val (.ref w_CHANGED)] [(.ref w_CHANGED)])) _
      refine XS.aloadN X15.here hx rfl (hb hby at_30) rfl rfl ?_
      show Steps p.tables e below (T15.setTop (mkF m 31 #[.val (.int p1), .val (.int (2 : Int32)), .val (.ref w_CHANGED), .val (.ref w_CHANGED)] [(.ref w_CHANGED), (.ref w_CHANGED)])) _
      refine Jvm.RoadKit.acmp (g := (mkF m 31 #[.val (.int p1), .val (.int (2 : Int32)), .val (.ref w_CHANGED), .val (.ref w_CHANGED)] [(.ref w_CHANGED), (.ref w_CHANGED)])) X15 hx rfl rfl rfl (pc0 := 31) (pc' := 34) (same := true) rfl (hb hby at_31) rfl (decide_eq_true rfl) (by decide) (by decide) ?_
      show Steps p.tables e below (T15.setTop (mkF m 34 #[.val (.int p1), .val (.int (2 : Int32)), .val (.ref w_CHANGED), .val (.ref w_CHANGED)] [])) _
      refine XS.iconst X15.here hx rfl (hb hby at_34) ?_
      show Steps p.tables e below (T15.setTop (mkF m 35 #[.val (.int p1), .val (.int (2 : Int32)), .val (.ref w_CHANGED), .val (.ref w_CHANGED)] [(.int (1 : Int32))])) _
      refine XS.goto X15.here hx rfl (pc0 := 35) (pc' := 39) rfl (hb hby at_35) (by decide) (by decide) ?_
      exact kt
    obtain ⟨fs, hr, hrun, hended, hW, hsame⟩ := X15.leave (v := some (.int (1 : Int32))) (fun h => by rw [Bd.returns] at h; cases h)
    refine ⟨_, _, pre16 _ ?_, hrun, hended, _, _, rfl, ?_, ⟨_, rfl⟩, hW, hsame.mono (by decide) (by decide)⟩
    · show Steps p.tables e below (T15.setTop (mkF m 39 #[.val (.int p1), .val (.int (2 : Int32)), .val (.ref w_CHANGED), .val (.ref w_CHANGED)] [(.int (1 : Int32))])) _
      exact retN X15 hx (t := .boolean) Bd.returns (by simp) (hb hby at_39) hr
    · show Q0 Z h0 n0 _ T15.heap _
      rw [hE15]
      exact ⟨rfl, N15⟩
  · obtain ⟨_, _, ⟨T17, L17, k17, n17⟩, -, X17, ⟨Lc17, hQ17, l17, y17, z17⟩, st17⟩ := Jvm.LawKit.callS X0 hx (y := (⟨"com/example/driftwell/driftwell/StatusCountedPinLaw", "pick", "(I)Lcom/example/driftwell/driftwell/Change$Status;"⟩ : MethodName)) hown (mvT hZ (hw _ (List.mem_of_getElem? (i := 1) rfl))) (mvT hZ (hw _ (List.mem_of_getElem? (i := 2) rfl))) (mvT hZ (hw _ (List.mem_of_getElem? (i := 3) rfl))) (mvT hZ (hw _ (List.mem_of_getElem? (i := 4) rfl))) (by decide) (backOf (W := 0) (rm1 l Z a0 hw [] (3 : Int32) w_ADDED w_REMOVED w_CHANGED w_AFFECTED w_RENAMED w_MOVED w_AFFECTED h0 n0 Z0 S_ADDED S_REMOVED S_CHANGED S_AFFECTED S_RENAMED S_MOVED (by simp [own_pick])) hZ (hw _ (List.mem_of_getElem? (i := 4) rfl)) (hw _ (List.mem_of_getElem? (i := 3) rfl)) (by decide) (by decide)) (g := (mkF m 9 #[.val (.int p1), .val (.int (3 : Int32)), .unset, .unset] [(.int (3 : Int32))])) rfl (by rw [hml]; rfl) (argsL := [(.int (3 : Int32))]) (rest := []) (lenOf pd_rm0_0 rfl) rfl (by show 2 * 0 + _ ≤ _; exact Nat.le_of_eq rfl) (hb hby at_9) (fun _ _ => ⟨rfl, e0, (by decide : 0 + 0 ≤ _), (by decide : 0 + 0 ≤ _)⟩)
    dsimp only [Pt.U, Pt.locs, Pt.cells, Pt.slots] at X17 l17 y17 z17 st17 hQ17
    subst l17 y17 z17
    obtain ⟨rfl, N17q, hE17⟩ := hQ17
    have N17 := Fr.app N0 N17q
    obtain ⟨cq18, kq18, q18a, q18b, q18c⟩ := isOf hZ hE17 E_AFFECTED
    obtain ⟨_, _, ⟨T18, L18, k18, n18⟩, -, X18, ⟨Lc18, hQ18, l18, y18, z18⟩, st18⟩ := X17.virtualBack hx (y := (⟨"com/example/driftwell/driftwell/Change$Status", "counted", "()Lcom/example/driftwell/driftwell/Change$Status;"⟩ : MethodName)) (z := (⟨"com/example/driftwell/driftwell/Change$Status", "counted", "()Lcom/example/driftwell/driftwell/Change$Status;"⟩ : MethodName)) hown (mvT hZ (hw _ (List.mem_of_getElem? (i := 8) rfl))) (mvT hZ (hw _ (List.mem_of_getElem? (i := 9) rfl))) (notFace_of_selects (args := #[]) (mvT hZ (hw _ (List.mem_of_getElem? (i := 11) rfl)))) (mvT hZ (hw _ (List.mem_of_getElem? (i := 11) rfl))) (mvT hZ (hw _ (List.mem_of_getElem? (i := 10) rfl))) (by decide) (backOf (W := 0) (rm2 l Z a0 hw [] w_AFFECTED w_RENAMED w_CHANGED w_AFFECTED h0 n0 Z0 S_RENAMED S_CHANGED (if_neg n_AFFECTED).symm) hZ (hw _ (List.mem_of_getElem? (i := 12) rfl)) (hw _ (List.mem_of_getElem? (i := 6) rfl)) (by decide) (by decide)) q18a q18c (g := (mkF m 14 #[.val (.int p1), .val (.int (3 : Int32)), .val (.ref w_AFFECTED), .unset] [(.ref w_AFFECTED)])) rfl (by rw [hml]; rfl) (Steps.refl _) (argsL := []) (rest := []) (lenOf pd_rm0_1 rfl) rfl (by show 2 * 0 + _ ≤ _; exact Nat.le_of_eq rfl) (hb hby at_14) (fun _ _ => ⟨rfl, hE17, (by decide : 0 + 0 ≤ _), (by decide : 0 + 0 ≤ _)⟩)
    dsimp only [Pt.U, Pt.locs, Pt.cells, Pt.slots] at X18 l18 y18 z18 st18 hQ18
    subst l18 y18 z18
    obtain ⟨rfl, N18q, hE18⟩ := hQ18
    have N18 := Fr.app N17 N18q
    obtain ⟨_, _, ⟨T19, L19, k19, n19⟩, -, X19, ⟨Lc19, hQ19, l19, y19, z19⟩, st19⟩ := Jvm.LawKit.callS X18 hx (y := (⟨"com/example/driftwell/driftwell/StatusCountedPinLaw", "expected", "(I)Lcom/example/driftwell/driftwell/Change$Status;"⟩ : MethodName)) hown (mvT hZ (hw _ (List.mem_of_getElem? (i := 15) rfl))) (mvT hZ (hw _ (List.mem_of_getElem? (i := 16) rfl))) (mvT hZ (hw _ (List.mem_of_getElem? (i := 3) rfl))) (mvT hZ (hw _ (List.mem_of_getElem? (i := 17) rfl))) (by decide) (backOf (W := 1) (rm3 l Z a0 hw [] (3 : Int32) w_ADDED w_REMOVED w_CHANGED w_AFFECTED w_RENAMED w_MOVED w_AFFECTED h0 n0 Z0 S_ADDED S_REMOVED S_CHANGED S_AFFECTED S_RENAMED S_MOVED (by simp [own_pick])) hZ (hw _ (List.mem_of_getElem? (i := 17) rfl)) (hw _ (List.mem_of_getElem? (i := 3) rfl)) (by decide) (by decide)) (g := (mkF m 20 #[.val (.int p1), .val (.int (3 : Int32)), .val (.ref w_AFFECTED), .val (.ref w_AFFECTED)] [(.int (3 : Int32)), (.ref w_AFFECTED)])) rfl (by rw [hml]; rfl) (argsL := [(.int (3 : Int32))]) (rest := [(.ref w_AFFECTED)]) (lenOf pd_rm0_0 rfl) rfl (by show 2 * 0 + _ ≤ _; exact Nat.le_of_eq rfl) (hb hby at_20) (fun _ _ => ⟨rfl, hE18, (by decide : 0 + 0 ≤ _), (by decide : 0 + 0 ≤ _)⟩)
    dsimp only [Pt.U, Pt.locs, Pt.cells, Pt.slots] at X19 l19 y19 z19 st19 hQ19
    subst l19 y19 z19
    obtain ⟨rfl, N19q, hE19⟩ := hQ19
    have N19 := Fr.app N18 N19q
    obtain ⟨cq20, kq20, q20a, q20b, q20c⟩ := isOf hZ hE19 E_AFFECTED
    obtain ⟨_, _, ⟨T20, L20, k20, n20⟩, -, X20, ⟨Lc20, hQ20, l20, y20, z20⟩, st20⟩ := X19.virtualBack hx (y := (⟨"com/example/driftwell/driftwell/Change$Status", "counted", "()Lcom/example/driftwell/driftwell/Change$Status;"⟩ : MethodName)) (z := (⟨"com/example/driftwell/driftwell/Change$Status", "counted", "()Lcom/example/driftwell/driftwell/Change$Status;"⟩ : MethodName)) hown (mvT hZ (hw _ (List.mem_of_getElem? (i := 8) rfl))) (mvT hZ (hw _ (List.mem_of_getElem? (i := 9) rfl))) (notFace_of_selects (args := #[]) (mvT hZ (hw _ (List.mem_of_getElem? (i := 11) rfl)))) (mvT hZ (hw _ (List.mem_of_getElem? (i := 11) rfl))) (mvT hZ (hw _ (List.mem_of_getElem? (i := 10) rfl))) (by decide) (backOf (W := 0) (rm2 l Z a0 hw [] w_AFFECTED w_RENAMED w_CHANGED w_AFFECTED h0 n0 Z0 S_RENAMED S_CHANGED (if_neg n_AFFECTED).symm) hZ (hw _ (List.mem_of_getElem? (i := 12) rfl)) (hw _ (List.mem_of_getElem? (i := 6) rfl)) (by decide) (by decide)) q20a q20c (g := (mkF m 27 #[.val (.int p1), .val (.int (3 : Int32)), .val (.ref w_AFFECTED), .val (.ref w_AFFECTED)] [(.ref w_AFFECTED)])) rfl (by rw [hml]; rfl) (Steps.refl _) (argsL := []) (rest := []) (lenOf pd_rm0_1 rfl) rfl (by show 2 * 0 + _ ≤ _; exact Nat.le_of_eq rfl) (hb hby at_27) (fun _ _ => ⟨rfl, hE19, (by decide : 0 + 0 ≤ _), (by decide : 0 + 0 ≤ _)⟩)
    dsimp only [Pt.U, Pt.locs, Pt.cells, Pt.slots] at X20 l20 y20 z20 st20 hQ20
    subst l20 y20 z20
    obtain ⟨rfl, N20q, hE20⟩ := hQ20
    have N20 := Fr.app N19 N20q
    have pre21 : ∀ tt, Steps p.tables e below (T20.setTop (mkF m 39 #[.val (.int p1), .val (.int (3 : Int32)), .val (.ref w_AFFECTED), .val (.ref w_AFFECTED)] [(.int (1 : Int32))])) tt → Steps p.tables e below (s₁.setTop (entryFrame m #[(.int p1)] maxLocals)) tt := by
      intro tt kt
      refine pre1 tt ?_
      show Steps p.tables e below (s₁.setTop (mkF m 7 #[.val (.int p1), .unset, .unset, .unset] [(.int (3 : Int32))])) _
      refine XS.istoreN X0.here hx rfl (hb hby at_7) rfl (l' := #[.val (.int p1), .val (.int (3 : Int32)), .unset, .unset]) rfl ?_
      show Steps p.tables e below (s₁.setTop (mkF m 8 #[.val (.int p1), .val (.int (3 : Int32)), .unset, .unset] [])) _
      refine XS.iloadN X0.here hx rfl (hb hby at_8) rfl ?_
      show Steps p.tables e below (s₁.setTop (mkF m 9 #[.val (.int p1), .val (.int (3 : Int32)), .unset, .unset] [(.int (3 : Int32))])) _
      refine st17 _ ?_
      show Steps p.tables e below (T17.setTop (mkF m 12 #[.val (.int p1), .val (.int (3 : Int32)), .unset, .unset] [(.ref w_AFFECTED)])) _
      refine XS.astoreN X17.here hx rfl (hb hby at_12) rfl rfl (l' := #[.val (.int p1), .val (.int (3 : Int32)), .val (.ref w_AFFECTED), .unset]) rfl ?_
      show Steps p.tables e below (T17.setTop (mkF m 13 #[.val (.int p1), .val (.int (3 : Int32)), .val (.ref w_AFFECTED), .unset] [])) _
      refine XS.aloadN X17.here hx rfl (hb hby at_13) rfl rfl ?_
      show Steps p.tables e below (T17.setTop (mkF m 14 #[.val (.int p1), .val (.int (3 : Int32)), .val (.ref w_AFFECTED), .unset] [(.ref w_AFFECTED)])) _
      refine st18.trans ?_
      show Steps p.tables e below (T18.setTop (mkF m 17 #[.val (.int p1), .val (.int (3 : Int32)), .val (.ref w_AFFECTED), .unset] [(.ref w_AFFECTED)])) _
      refine XS.astoreN X18.here hx rfl (hb hby at_17) rfl rfl (l' := #[.val (.int p1), .val (.int (3 : Int32)), .val (.ref w_AFFECTED), .val (.ref w_AFFECTED)]) rfl ?_
      show Steps p.tables e below (T18.setTop (mkF m 18 #[.val (.int p1), .val (.int (3 : Int32)), .val (.ref w_AFFECTED), .val (.ref w_AFFECTED)] [])) _
      refine XS.aloadN X18.here hx rfl (hb hby at_18) rfl rfl ?_
      show Steps p.tables e below (T18.setTop (mkF m 19 #[.val (.int p1), .val (.int (3 : Int32)), .val (.ref w_AFFECTED), .val (.ref w_AFFECTED)] [(.ref w_AFFECTED)])) _
      refine XS.iloadN X18.here hx rfl (hb hby at_19) rfl ?_
      show Steps p.tables e below (T18.setTop (mkF m 20 #[.val (.int p1), .val (.int (3 : Int32)), .val (.ref w_AFFECTED), .val (.ref w_AFFECTED)] [(.int (3 : Int32)), (.ref w_AFFECTED)])) _
      refine st19 _ ?_
      show Steps p.tables e below (T19.setTop (mkF m 23 #[.val (.int p1), .val (.int (3 : Int32)), .val (.ref w_AFFECTED), .val (.ref w_AFFECTED)] [(.ref w_AFFECTED), (.ref w_AFFECTED)])) _
      refine Jvm.RoadKit.acmp (g := (mkF m 23 #[.val (.int p1), .val (.int (3 : Int32)), .val (.ref w_AFFECTED), .val (.ref w_AFFECTED)] [(.ref w_AFFECTED), (.ref w_AFFECTED)])) X19 hx rfl rfl rfl (pc0 := 23) (pc' := 26) (same := true) rfl (hb hby at_23) rfl (decide_eq_true rfl) (by decide) (by decide) ?_
      show Steps p.tables e below (T19.setTop (mkF m 26 #[.val (.int p1), .val (.int (3 : Int32)), .val (.ref w_AFFECTED), .val (.ref w_AFFECTED)] [])) _
      refine XS.aloadN X19.here hx rfl (hb hby at_26) rfl rfl ?_
      show Steps p.tables e below (T19.setTop (mkF m 27 #[.val (.int p1), .val (.int (3 : Int32)), .val (.ref w_AFFECTED), .val (.ref w_AFFECTED)] [(.ref w_AFFECTED)])) _
      refine st20.trans ?_
      show Steps p.tables e below (T20.setTop (mkF m 30 #[.val (.int p1), .val (.int (3 : Int32)), .val (.ref w_AFFECTED), .val (.ref w_AFFECTED)] [(.ref w_AFFECTED)])) _
      refine XS.aloadN X20.here hx rfl (hb hby at_30) rfl rfl ?_
      show Steps p.tables e below (T20.setTop (mkF m 31 #[.val (.int p1), .val (.int (3 : Int32)), .val (.ref w_AFFECTED), .val (.ref w_AFFECTED)] [(.ref w_AFFECTED), (.ref w_AFFECTED)])) _
      refine Jvm.RoadKit.acmp (g := (mkF m 31 #[.val (.int p1), .val (.int (3 : Int32)), .val (.ref w_AFFECTED), .val (.ref w_AFFECTED)] [(.ref w_AFFECTED), (.ref w_AFFECTED)])) X20 hx rfl rfl rfl (pc0 := 31) (pc' := 34) (same := true) rfl (hb hby at_31) rfl (decide_eq_true rfl) (by decide) (by decide) ?_
      show Steps p.tables e below (T20.setTop (mkF m 34 #[.val (.int p1), .val (.int (3 : Int32)), .val (.ref w_AFFECTED), .val (.ref w_AFFECTED)] [])) _
      refine XS.iconst X20.here hx rfl (hb hby at_34) ?_
      show Steps p.tables e below (T20.setTop (mkF m 35 #[.val (.int p1), .val (.int (3 : Int32)), .val (.ref w_AFFECTED), .val (.ref w_AFFECTED)] [(.int (1 : Int32))])) _
      refine XS.goto X20.here hx rfl (pc0 := 35) (pc' := 39) rfl (hb hby at_35) (by decide) (by decide) ?_
      exact kt
    obtain ⟨fs, hr, hrun, hended, hW, hsame⟩ := X20.leave (v := some (.int (1 : Int32))) (fun h => by rw [Bd.returns] at h; cases h)
    refine ⟨_, _, pre21 _ ?_, hrun, hended, _, _, rfl, ?_, ⟨_, rfl⟩, hW, hsame.mono (by decide) (by decide)⟩
    · show Steps p.tables e below (T20.setTop (mkF m 39 #[.val (.int p1), .val (.int (3 : Int32)), .val (.ref w_AFFECTED), .val (.ref w_AFFECTED)] [(.int (1 : Int32))])) _
      exact retN X20 hx (t := .boolean) Bd.returns (by simp) (hb hby at_39) hr
    · show Q0 Z h0 n0 _ T20.heap _
      rw [hE20]
      exact ⟨rfl, N20⟩
  · obtain ⟨_, _, ⟨T22, L22, k22, n22⟩, -, X22, ⟨Lc22, hQ22, l22, y22, z22⟩, st22⟩ := Jvm.LawKit.callS X0 hx (y := (⟨"com/example/driftwell/driftwell/StatusCountedPinLaw", "pick", "(I)Lcom/example/driftwell/driftwell/Change$Status;"⟩ : MethodName)) hown (mvT hZ (hw _ (List.mem_of_getElem? (i := 1) rfl))) (mvT hZ (hw _ (List.mem_of_getElem? (i := 2) rfl))) (mvT hZ (hw _ (List.mem_of_getElem? (i := 3) rfl))) (mvT hZ (hw _ (List.mem_of_getElem? (i := 4) rfl))) (by decide) (backOf (W := 0) (rm1 l Z a0 hw [] (4 : Int32) w_ADDED w_REMOVED w_CHANGED w_AFFECTED w_RENAMED w_MOVED w_RENAMED h0 n0 Z0 S_ADDED S_REMOVED S_CHANGED S_AFFECTED S_RENAMED S_MOVED (by simp [own_pick])) hZ (hw _ (List.mem_of_getElem? (i := 4) rfl)) (hw _ (List.mem_of_getElem? (i := 3) rfl)) (by decide) (by decide)) (g := (mkF m 9 #[.val (.int p1), .val (.int (4 : Int32)), .unset, .unset] [(.int (4 : Int32))])) rfl (by rw [hml]; rfl) (argsL := [(.int (4 : Int32))]) (rest := []) (lenOf pd_rm0_0 rfl) rfl (by show 2 * 0 + _ ≤ _; exact Nat.le_of_eq rfl) (hb hby at_9) (fun _ _ => ⟨rfl, e0, (by decide : 0 + 0 ≤ _), (by decide : 0 + 0 ≤ _)⟩)
    dsimp only [Pt.U, Pt.locs, Pt.cells, Pt.slots] at X22 l22 y22 z22 st22 hQ22
    subst l22 y22 z22
    obtain ⟨rfl, N22q, hE22⟩ := hQ22
    have N22 := Fr.app N0 N22q
    obtain ⟨cq23, kq23, q23a, q23b, q23c⟩ := isOf hZ hE22 E_RENAMED
    obtain ⟨_, _, ⟨T23, L23, k23, n23⟩, -, X23, ⟨Lc23, hQ23, l23, y23, z23⟩, st23⟩ := X22.virtualBack hx (y := (⟨"com/example/driftwell/driftwell/Change$Status", "counted", "()Lcom/example/driftwell/driftwell/Change$Status;"⟩ : MethodName)) (z := (⟨"com/example/driftwell/driftwell/Change$Status", "counted", "()Lcom/example/driftwell/driftwell/Change$Status;"⟩ : MethodName)) hown (mvT hZ (hw _ (List.mem_of_getElem? (i := 8) rfl))) (mvT hZ (hw _ (List.mem_of_getElem? (i := 9) rfl))) (notFace_of_selects (args := #[]) (mvT hZ (hw _ (List.mem_of_getElem? (i := 11) rfl)))) (mvT hZ (hw _ (List.mem_of_getElem? (i := 11) rfl))) (mvT hZ (hw _ (List.mem_of_getElem? (i := 10) rfl))) (by decide) (backOf (W := 0) (rm2 l Z a0 hw [] w_RENAMED w_RENAMED w_CHANGED w_CHANGED h0 n0 Z0 S_RENAMED S_CHANGED (if_pos rfl).symm) hZ (hw _ (List.mem_of_getElem? (i := 12) rfl)) (hw _ (List.mem_of_getElem? (i := 6) rfl)) (by decide) (by decide)) q23a q23c (g := (mkF m 14 #[.val (.int p1), .val (.int (4 : Int32)), .val (.ref w_RENAMED), .unset] [(.ref w_RENAMED)])) rfl (by rw [hml]; rfl) (Steps.refl _) (argsL := []) (rest := []) (lenOf pd_rm0_1 rfl) rfl (by show 2 * 0 + _ ≤ _; exact Nat.le_of_eq rfl) (hb hby at_14) (fun _ _ => ⟨rfl, hE22, (by decide : 0 + 0 ≤ _), (by decide : 0 + 0 ≤ _)⟩)
    dsimp only [Pt.U, Pt.locs, Pt.cells, Pt.slots] at X23 l23 y23 z23 st23 hQ23
    subst l23 y23 z23
    obtain ⟨rfl, N23q, hE23⟩ := hQ23
    have N23 := Fr.app N22 N23q
    obtain ⟨_, _, ⟨T24, L24, k24, n24⟩, -, X24, ⟨Lc24, hQ24, l24, y24, z24⟩, st24⟩ := Jvm.LawKit.callS X23 hx (y := (⟨"com/example/driftwell/driftwell/StatusCountedPinLaw", "expected", "(I)Lcom/example/driftwell/driftwell/Change$Status;"⟩ : MethodName)) hown (mvT hZ (hw _ (List.mem_of_getElem? (i := 15) rfl))) (mvT hZ (hw _ (List.mem_of_getElem? (i := 16) rfl))) (mvT hZ (hw _ (List.mem_of_getElem? (i := 3) rfl))) (mvT hZ (hw _ (List.mem_of_getElem? (i := 17) rfl))) (by decide) (backOf (W := 1) (rm3 l Z a0 hw [] (4 : Int32) w_ADDED w_REMOVED w_CHANGED w_AFFECTED w_RENAMED w_MOVED w_CHANGED h0 n0 Z0 S_ADDED S_REMOVED S_CHANGED S_AFFECTED S_RENAMED S_MOVED (by simp [own_pick])) hZ (hw _ (List.mem_of_getElem? (i := 17) rfl)) (hw _ (List.mem_of_getElem? (i := 3) rfl)) (by decide) (by decide)) (g := (mkF m 20 #[.val (.int p1), .val (.int (4 : Int32)), .val (.ref w_RENAMED), .val (.ref w_CHANGED)] [(.int (4 : Int32)), (.ref w_CHANGED)])) rfl (by rw [hml]; rfl) (argsL := [(.int (4 : Int32))]) (rest := [(.ref w_CHANGED)]) (lenOf pd_rm0_0 rfl) rfl (by show 2 * 0 + _ ≤ _; exact Nat.le_of_eq rfl) (hb hby at_20) (fun _ _ => ⟨rfl, hE23, (by decide : 0 + 0 ≤ _), (by decide : 0 + 0 ≤ _)⟩)
    dsimp only [Pt.U, Pt.locs, Pt.cells, Pt.slots] at X24 l24 y24 z24 st24 hQ24
    subst l24 y24 z24
    obtain ⟨rfl, N24q, hE24⟩ := hQ24
    have N24 := Fr.app N23 N24q
    obtain ⟨cq25, kq25, q25a, q25b, q25c⟩ := isOf hZ hE24 E_CHANGED
    obtain ⟨_, _, ⟨T25, L25, k25, n25⟩, -, X25, ⟨Lc25, hQ25, l25, y25, z25⟩, st25⟩ := X24.virtualBack hx (y := (⟨"com/example/driftwell/driftwell/Change$Status", "counted", "()Lcom/example/driftwell/driftwell/Change$Status;"⟩ : MethodName)) (z := (⟨"com/example/driftwell/driftwell/Change$Status", "counted", "()Lcom/example/driftwell/driftwell/Change$Status;"⟩ : MethodName)) hown (mvT hZ (hw _ (List.mem_of_getElem? (i := 8) rfl))) (mvT hZ (hw _ (List.mem_of_getElem? (i := 9) rfl))) (notFace_of_selects (args := #[]) (mvT hZ (hw _ (List.mem_of_getElem? (i := 11) rfl)))) (mvT hZ (hw _ (List.mem_of_getElem? (i := 11) rfl))) (mvT hZ (hw _ (List.mem_of_getElem? (i := 10) rfl))) (by decide) (backOf (W := 0) (rm2 l Z a0 hw [] w_CHANGED w_RENAMED w_CHANGED w_CHANGED h0 n0 Z0 S_RENAMED S_CHANGED (if_neg n_CHANGED).symm) hZ (hw _ (List.mem_of_getElem? (i := 12) rfl)) (hw _ (List.mem_of_getElem? (i := 6) rfl)) (by decide) (by decide)) q25a q25c (g := (mkF m 27 #[.val (.int p1), .val (.int (4 : Int32)), .val (.ref w_RENAMED), .val (.ref w_CHANGED)] [(.ref w_CHANGED)])) rfl (by rw [hml]; rfl) (Steps.refl _) (argsL := []) (rest := []) (lenOf pd_rm0_1 rfl) rfl (by show 2 * 0 + _ ≤ _; exact Nat.le_of_eq rfl) (hb hby at_27) (fun _ _ => ⟨rfl, hE24, (by decide : 0 + 0 ≤ _), (by decide : 0 + 0 ≤ _)⟩)
    dsimp only [Pt.U, Pt.locs, Pt.cells, Pt.slots] at X25 l25 y25 z25 st25 hQ25
    subst l25 y25 z25
    obtain ⟨rfl, N25q, hE25⟩ := hQ25
    have N25 := Fr.app N24 N25q
    have pre26 : ∀ tt, Steps p.tables e below (T25.setTop (mkF m 39 #[.val (.int p1), .val (.int (4 : Int32)), .val (.ref w_RENAMED), .val (.ref w_CHANGED)] [(.int (1 : Int32))])) tt → Steps p.tables e below (s₁.setTop (entryFrame m #[(.int p1)] maxLocals)) tt := by
      intro tt kt
      refine pre1 tt ?_
      show Steps p.tables e below (s₁.setTop (mkF m 7 #[.val (.int p1), .unset, .unset, .unset] [(.int (4 : Int32))])) _
      refine XS.istoreN X0.here hx rfl (hb hby at_7) rfl (l' := #[.val (.int p1), .val (.int (4 : Int32)), .unset, .unset]) rfl ?_
      show Steps p.tables e below (s₁.setTop (mkF m 8 #[.val (.int p1), .val (.int (4 : Int32)), .unset, .unset] [])) _
      refine XS.iloadN X0.here hx rfl (hb hby at_8) rfl ?_
      show Steps p.tables e below (s₁.setTop (mkF m 9 #[.val (.int p1), .val (.int (4 : Int32)), .unset, .unset] [(.int (4 : Int32))])) _
      refine st22 _ ?_
      show Steps p.tables e below (T22.setTop (mkF m 12 #[.val (.int p1), .val (.int (4 : Int32)), .unset, .unset] [(.ref w_RENAMED)])) _
      refine XS.astoreN X22.here hx rfl (hb hby at_12) rfl rfl (l' := #[.val (.int p1), .val (.int (4 : Int32)), .val (.ref w_RENAMED), .unset]) rfl ?_
      show Steps p.tables e below (T22.setTop (mkF m 13 #[.val (.int p1), .val (.int (4 : Int32)), .val (.ref w_RENAMED), .unset] [])) _
      refine XS.aloadN X22.here hx rfl (hb hby at_13) rfl rfl ?_
      show Steps p.tables e below (T22.setTop (mkF m 14 #[.val (.int p1), .val (.int (4 : Int32)), .val (.ref w_RENAMED), .unset] [(.ref w_RENAMED)])) _
      refine st23.trans ?_
      show Steps p.tables e below (T23.setTop (mkF m 17 #[.val (.int p1), .val (.int (4 : Int32)), .val (.ref w_RENAMED), .unset] [(.ref w_CHANGED)])) _
      refine XS.astoreN X23.here hx rfl (hb hby at_17) rfl rfl (l' := #[.val (.int p1), .val (.int (4 : Int32)), .val (.ref w_RENAMED), .val (.ref w_CHANGED)]) rfl ?_
      show Steps p.tables e below (T23.setTop (mkF m 18 #[.val (.int p1), .val (.int (4 : Int32)), .val (.ref w_RENAMED), .val (.ref w_CHANGED)] [])) _
      refine XS.aloadN X23.here hx rfl (hb hby at_18) rfl rfl ?_
      show Steps p.tables e below (T23.setTop (mkF m 19 #[.val (.int p1), .val (.int (4 : Int32)), .val (.ref w_RENAMED), .val (.ref w_CHANGED)] [(.ref w_CHANGED)])) _
      refine XS.iloadN X23.here hx rfl (hb hby at_19) rfl ?_
      show Steps p.tables e below (T23.setTop (mkF m 20 #[.val (.int p1), .val (.int (4 : Int32)), .val (.ref w_RENAMED), .val (.ref w_CHANGED)] [(.int (4 : Int32)), (.ref w_CHANGED)])) _
      refine st24 _ ?_
      show Steps p.tables e below (T24.setTop (mkF m 23 #[.val (.int p1), .val (.int (4 : Int32)), .val (.ref w_RENAMED), .val (.ref w_CHANGED)] [(.ref w_CHANGED), (.ref w_CHANGED)])) _
      refine Jvm.RoadKit.acmp (g := (mkF m 23 #[.val (.int p1), .val (.int (4 : Int32)), .val (.ref w_RENAMED), .val (.ref w_CHANGED)] [(.ref w_CHANGED), (.ref w_CHANGED)])) X24 hx rfl rfl rfl (pc0 := 23) (pc' := 26) (same := true) rfl (hb hby at_23) rfl (decide_eq_true rfl) (by decide) (by decide) ?_
      show Steps p.tables e below (T24.setTop (mkF m 26 #[.val (.int p1), .val (.int (4 : Int32)), .val (.ref w_RENAMED), .val (.ref w_CHANGED)] [])) _
      refine XS.aloadN X24.here hx rfl (hb hby at_26) rfl rfl ?_
      show Steps p.tables e below (T24.setTop (mkF m 27 #[.val (.int p1), .val (.int (4 : Int32)), .val (.ref w_RENAMED), .val (.ref w_CHANGED)] [(.ref w_CHANGED)])) _
      refine st25.trans ?_
      show Steps p.tables e below (T25.setTop (mkF m 30 #[.val (.int p1), .val (.int (4 : Int32)), .val (.ref w_RENAMED), .val (.ref w_CHANGED)] [(.ref w_CHANGED)])) _
      refine XS.aloadN X25.here hx rfl (hb hby at_30) rfl rfl ?_
      show Steps p.tables e below (T25.setTop (mkF m 31 #[.val (.int p1), .val (.int (4 : Int32)), .val (.ref w_RENAMED), .val (.ref w_CHANGED)] [(.ref w_CHANGED), (.ref w_CHANGED)])) _
      refine Jvm.RoadKit.acmp (g := (mkF m 31 #[.val (.int p1), .val (.int (4 : Int32)), .val (.ref w_RENAMED), .val (.ref w_CHANGED)] [(.ref w_CHANGED), (.ref w_CHANGED)])) X25 hx rfl rfl rfl (pc0 := 31) (pc' := 34) (same := true) rfl (hb hby at_31) rfl (decide_eq_true rfl) (by decide) (by decide) ?_
      show Steps p.tables e below (T25.setTop (mkF m 34 #[.val (.int p1), .val (.int (4 : Int32)), .val (.ref w_RENAMED), .val (.ref w_CHANGED)] [])) _
      refine XS.iconst X25.here hx rfl (hb hby at_34) ?_
      show Steps p.tables e below (T25.setTop (mkF m 35 #[.val (.int p1), .val (.int (4 : Int32)), .val (.ref w_RENAMED), .val (.ref w_CHANGED)] [(.int (1 : Int32))])) _
      refine XS.goto X25.here hx rfl (pc0 := 35) (pc' := 39) rfl (hb hby at_35) (by decide) (by decide) ?_
      exact kt
    obtain ⟨fs, hr, hrun, hended, hW, hsame⟩ := X25.leave (v := some (.int (1 : Int32))) (fun h => by rw [Bd.returns] at h; cases h)
    refine ⟨_, _, pre26 _ ?_, hrun, hended, _, _, rfl, ?_, ⟨_, rfl⟩, hW, hsame.mono (by decide) (by decide)⟩
    · show Steps p.tables e below (T25.setTop (mkF m 39 #[.val (.int p1), .val (.int (4 : Int32)), .val (.ref w_RENAMED), .val (.ref w_CHANGED)] [(.int (1 : Int32))])) _
      exact retN X25 hx (t := .boolean) Bd.returns (by simp) (hb hby at_39) hr
    · show Q0 Z h0 n0 _ T25.heap _
      rw [hE25]
      exact ⟨rfl, N25⟩
  · obtain ⟨_, _, ⟨T27, L27, k27, n27⟩, -, X27, ⟨Lc27, hQ27, l27, y27, z27⟩, st27⟩ := Jvm.LawKit.callS X0 hx (y := (⟨"com/example/driftwell/driftwell/StatusCountedPinLaw", "pick", "(I)Lcom/example/driftwell/driftwell/Change$Status;"⟩ : MethodName)) hown (mvT hZ (hw _ (List.mem_of_getElem? (i := 1) rfl))) (mvT hZ (hw _ (List.mem_of_getElem? (i := 2) rfl))) (mvT hZ (hw _ (List.mem_of_getElem? (i := 3) rfl))) (mvT hZ (hw _ (List.mem_of_getElem? (i := 4) rfl))) (by decide) (backOf (W := 0) (rm1 l Z a0 hw [] (5 : Int32) w_ADDED w_REMOVED w_CHANGED w_AFFECTED w_RENAMED w_MOVED w_MOVED h0 n0 Z0 S_ADDED S_REMOVED S_CHANGED S_AFFECTED S_RENAMED S_MOVED (by simp [own_pick])) hZ (hw _ (List.mem_of_getElem? (i := 4) rfl)) (hw _ (List.mem_of_getElem? (i := 3) rfl)) (by decide) (by decide)) (g := (mkF m 9 #[.val (.int p1), .val (.int (5 : Int32)), .unset, .unset] [(.int (5 : Int32))])) rfl (by rw [hml]; rfl) (argsL := [(.int (5 : Int32))]) (rest := []) (lenOf pd_rm0_0 rfl) rfl (by show 2 * 0 + _ ≤ _; exact Nat.le_of_eq rfl) (hb hby at_9) (fun _ _ => ⟨rfl, e0, (by decide : 0 + 0 ≤ _), (by decide : 0 + 0 ≤ _)⟩)
    dsimp only [Pt.U, Pt.locs, Pt.cells, Pt.slots] at X27 l27 y27 z27 st27 hQ27
    subst l27 y27 z27
    obtain ⟨rfl, N27q, hE27⟩ := hQ27
    have N27 := Fr.app N0 N27q
    obtain ⟨cq28, kq28, q28a, q28b, q28c⟩ := isOf hZ hE27 E_MOVED
    obtain ⟨_, _, ⟨T28, L28, k28, n28⟩, -, X28, ⟨Lc28, hQ28, l28, y28, z28⟩, st28⟩ := X27.virtualBack hx (y := (⟨"com/example/driftwell/driftwell/Change$Status", "counted", "()Lcom/example/driftwell/driftwell/Change$Status;"⟩ : MethodName)) (z := (⟨"com/example/driftwell/driftwell/Change$Status", "counted", "()Lcom/example/driftwell/driftwell/Change$Status;"⟩ : MethodName)) hown (mvT hZ (hw _ (List.mem_of_getElem? (i := 8) rfl))) (mvT hZ (hw _ (List.mem_of_getElem? (i := 9) rfl))) (notFace_of_selects (args := #[]) (mvT hZ (hw _ (List.mem_of_getElem? (i := 11) rfl)))) (mvT hZ (hw _ (List.mem_of_getElem? (i := 11) rfl))) (mvT hZ (hw _ (List.mem_of_getElem? (i := 10) rfl))) (by decide) (backOf (W := 0) (rm2 l Z a0 hw [] w_MOVED w_RENAMED w_CHANGED w_MOVED h0 n0 Z0 S_RENAMED S_CHANGED (if_neg n_MOVED).symm) hZ (hw _ (List.mem_of_getElem? (i := 12) rfl)) (hw _ (List.mem_of_getElem? (i := 6) rfl)) (by decide) (by decide)) q28a q28c (g := (mkF m 14 #[.val (.int p1), .val (.int (5 : Int32)), .val (.ref w_MOVED), .unset] [(.ref w_MOVED)])) rfl (by rw [hml]; rfl) (Steps.refl _) (argsL := []) (rest := []) (lenOf pd_rm0_1 rfl) rfl (by show 2 * 0 + _ ≤ _; exact Nat.le_of_eq rfl) (hb hby at_14) (fun _ _ => ⟨rfl, hE27, (by decide : 0 + 0 ≤ _), (by decide : 0 + 0 ≤ _)⟩)
    dsimp only [Pt.U, Pt.locs, Pt.cells, Pt.slots] at X28 l28 y28 z28 st28 hQ28
    subst l28 y28 z28
    obtain ⟨rfl, N28q, hE28⟩ := hQ28
    have N28 := Fr.app N27 N28q
    obtain ⟨_, _, ⟨T29, L29, k29, n29⟩, -, X29, ⟨Lc29, hQ29, l29, y29, z29⟩, st29⟩ := Jvm.LawKit.callS X28 hx (y := (⟨"com/example/driftwell/driftwell/StatusCountedPinLaw", "expected", "(I)Lcom/example/driftwell/driftwell/Change$Status;"⟩ : MethodName)) hown (mvT hZ (hw _ (List.mem_of_getElem? (i := 15) rfl))) (mvT hZ (hw _ (List.mem_of_getElem? (i := 16) rfl))) (mvT hZ (hw _ (List.mem_of_getElem? (i := 3) rfl))) (mvT hZ (hw _ (List.mem_of_getElem? (i := 17) rfl))) (by decide) (backOf (W := 1) (rm3 l Z a0 hw [] (5 : Int32) w_ADDED w_REMOVED w_CHANGED w_AFFECTED w_RENAMED w_MOVED w_MOVED h0 n0 Z0 S_ADDED S_REMOVED S_CHANGED S_AFFECTED S_RENAMED S_MOVED (by simp [own_pick])) hZ (hw _ (List.mem_of_getElem? (i := 17) rfl)) (hw _ (List.mem_of_getElem? (i := 3) rfl)) (by decide) (by decide)) (g := (mkF m 20 #[.val (.int p1), .val (.int (5 : Int32)), .val (.ref w_MOVED), .val (.ref w_MOVED)] [(.int (5 : Int32)), (.ref w_MOVED)])) rfl (by rw [hml]; rfl) (argsL := [(.int (5 : Int32))]) (rest := [(.ref w_MOVED)]) (lenOf pd_rm0_0 rfl) rfl (by show 2 * 0 + _ ≤ _; exact Nat.le_of_eq rfl) (hb hby at_20) (fun _ _ => ⟨rfl, hE28, (by decide : 0 + 0 ≤ _), (by decide : 0 + 0 ≤ _)⟩)
    dsimp only [Pt.U, Pt.locs, Pt.cells, Pt.slots] at X29 l29 y29 z29 st29 hQ29
    subst l29 y29 z29
    obtain ⟨rfl, N29q, hE29⟩ := hQ29
    have N29 := Fr.app N28 N29q
    obtain ⟨cq30, kq30, q30a, q30b, q30c⟩ := isOf hZ hE29 E_MOVED
    obtain ⟨_, _, ⟨T30, L30, k30, n30⟩, -, X30, ⟨Lc30, hQ30, l30, y30, z30⟩, st30⟩ := X29.virtualBack hx (y := (⟨"com/example/driftwell/driftwell/Change$Status", "counted", "()Lcom/example/driftwell/driftwell/Change$Status;"⟩ : MethodName)) (z := (⟨"com/example/driftwell/driftwell/Change$Status", "counted", "()Lcom/example/driftwell/driftwell/Change$Status;"⟩ : MethodName)) hown (mvT hZ (hw _ (List.mem_of_getElem? (i := 8) rfl))) (mvT hZ (hw _ (List.mem_of_getElem? (i := 9) rfl))) (notFace_of_selects (args := #[]) (mvT hZ (hw _ (List.mem_of_getElem? (i := 11) rfl)))) (mvT hZ (hw _ (List.mem_of_getElem? (i := 11) rfl))) (mvT hZ (hw _ (List.mem_of_getElem? (i := 10) rfl))) (by decide) (backOf (W := 0) (rm2 l Z a0 hw [] w_MOVED w_RENAMED w_CHANGED w_MOVED h0 n0 Z0 S_RENAMED S_CHANGED (if_neg n_MOVED).symm) hZ (hw _ (List.mem_of_getElem? (i := 12) rfl)) (hw _ (List.mem_of_getElem? (i := 6) rfl)) (by decide) (by decide)) q30a q30c (g := (mkF m 27 #[.val (.int p1), .val (.int (5 : Int32)), .val (.ref w_MOVED), .val (.ref w_MOVED)] [(.ref w_MOVED)])) rfl (by rw [hml]; rfl) (Steps.refl _) (argsL := []) (rest := []) (lenOf pd_rm0_1 rfl) rfl (by show 2 * 0 + _ ≤ _; exact Nat.le_of_eq rfl) (hb hby at_27) (fun _ _ => ⟨rfl, hE29, (by decide : 0 + 0 ≤ _), (by decide : 0 + 0 ≤ _)⟩)
    dsimp only [Pt.U, Pt.locs, Pt.cells, Pt.slots] at X30 l30 y30 z30 st30 hQ30
    subst l30 y30 z30
    obtain ⟨rfl, N30q, hE30⟩ := hQ30
    have N30 := Fr.app N29 N30q
    have pre31 : ∀ tt, Steps p.tables e below (T30.setTop (mkF m 39 #[.val (.int p1), .val (.int (5 : Int32)), .val (.ref w_MOVED), .val (.ref w_MOVED)] [(.int (1 : Int32))])) tt → Steps p.tables e below (s₁.setTop (entryFrame m #[(.int p1)] maxLocals)) tt := by
      intro tt kt
      refine pre1 tt ?_
      show Steps p.tables e below (s₁.setTop (mkF m 7 #[.val (.int p1), .unset, .unset, .unset] [(.int (5 : Int32))])) _
      refine XS.istoreN X0.here hx rfl (hb hby at_7) rfl (l' := #[.val (.int p1), .val (.int (5 : Int32)), .unset, .unset]) rfl ?_
      show Steps p.tables e below (s₁.setTop (mkF m 8 #[.val (.int p1), .val (.int (5 : Int32)), .unset, .unset] [])) _
      refine XS.iloadN X0.here hx rfl (hb hby at_8) rfl ?_
      show Steps p.tables e below (s₁.setTop (mkF m 9 #[.val (.int p1), .val (.int (5 : Int32)), .unset, .unset] [(.int (5 : Int32))])) _
      refine st27 _ ?_
      show Steps p.tables e below (T27.setTop (mkF m 12 #[.val (.int p1), .val (.int (5 : Int32)), .unset, .unset] [(.ref w_MOVED)])) _
      refine XS.astoreN X27.here hx rfl (hb hby at_12) rfl rfl (l' := #[.val (.int p1), .val (.int (5 : Int32)), .val (.ref w_MOVED), .unset]) rfl ?_
      show Steps p.tables e below (T27.setTop (mkF m 13 #[.val (.int p1), .val (.int (5 : Int32)), .val (.ref w_MOVED), .unset] [])) _
      refine XS.aloadN X27.here hx rfl (hb hby at_13) rfl rfl ?_
      show Steps p.tables e below (T27.setTop (mkF m 14 #[.val (.int p1), .val (.int (5 : Int32)), .val (.ref w_MOVED), .unset] [(.ref w_MOVED)])) _
      refine st28.trans ?_
      show Steps p.tables e below (T28.setTop (mkF m 17 #[.val (.int p1), .val (.int (5 : Int32)), .val (.ref w_MOVED), .unset] [(.ref w_MOVED)])) _
      refine XS.astoreN X28.here hx rfl (hb hby at_17) rfl rfl (l' := #[.val (.int p1), .val (.int (5 : Int32)), .val (.ref w_MOVED), .val (.ref w_MOVED)]) rfl ?_
      show Steps p.tables e below (T28.setTop (mkF m 18 #[.val (.int p1), .val (.int (5 : Int32)), .val (.ref w_MOVED), .val (.ref w_MOVED)] [])) _
      refine XS.aloadN X28.here hx rfl (hb hby at_18) rfl rfl ?_
      show Steps p.tables e below (T28.setTop (mkF m 19 #[.val (.int p1), .val (.int (5 : Int32)), .val (.ref w_MOVED), .val (.ref w_MOVED)] [(.ref w_MOVED)])) _
      refine XS.iloadN X28.here hx rfl (hb hby at_19) rfl ?_
      show Steps p.tables e below (T28.setTop (mkF m 20 #[.val (.int p1), .val (.int (5 : Int32)), .val (.ref w_MOVED), .val (.ref w_MOVED)] [(.int (5 : Int32)), (.ref w_MOVED)])) _
      refine st29 _ ?_
      show Steps p.tables e below (T29.setTop (mkF m 23 #[.val (.int p1), .val (.int (5 : Int32)), .val (.ref w_MOVED), .val (.ref w_MOVED)] [(.ref w_MOVED), (.ref w_MOVED)])) _
      refine Jvm.RoadKit.acmp (g := (mkF m 23 #[.val (.int p1), .val (.int (5 : Int32)), .val (.ref w_MOVED), .val (.ref w_MOVED)] [(.ref w_MOVED), (.ref w_MOVED)])) X29 hx rfl rfl rfl (pc0 := 23) (pc' := 26) (same := true) rfl (hb hby at_23) rfl (decide_eq_true rfl) (by decide) (by decide) ?_
      show Steps p.tables e below (T29.setTop (mkF m 26 #[.val (.int p1), .val (.int (5 : Int32)), .val (.ref w_MOVED), .val (.ref w_MOVED)] [])) _
      refine XS.aloadN X29.here hx rfl (hb hby at_26) rfl rfl ?_
      show Steps p.tables e below (T29.setTop (mkF m 27 #[.val (.int p1), .val (.int (5 : Int32)), .val (.ref w_MOVED), .val (.ref w_MOVED)] [(.ref w_MOVED)])) _
      refine st30.trans ?_
      show Steps p.tables e below (T30.setTop (mkF m 30 #[.val (.int p1), .val (.int (5 : Int32)), .val (.ref w_MOVED), .val (.ref w_MOVED)] [(.ref w_MOVED)])) _
      refine XS.aloadN X30.here hx rfl (hb hby at_30) rfl rfl ?_
      show Steps p.tables e below (T30.setTop (mkF m 31 #[.val (.int p1), .val (.int (5 : Int32)), .val (.ref w_MOVED), .val (.ref w_MOVED)] [(.ref w_MOVED), (.ref w_MOVED)])) _
      refine Jvm.RoadKit.acmp (g := (mkF m 31 #[.val (.int p1), .val (.int (5 : Int32)), .val (.ref w_MOVED), .val (.ref w_MOVED)] [(.ref w_MOVED), (.ref w_MOVED)])) X30 hx rfl rfl rfl (pc0 := 31) (pc' := 34) (same := true) rfl (hb hby at_31) rfl (decide_eq_true rfl) (by decide) (by decide) ?_
      show Steps p.tables e below (T30.setTop (mkF m 34 #[.val (.int p1), .val (.int (5 : Int32)), .val (.ref w_MOVED), .val (.ref w_MOVED)] [])) _
      refine XS.iconst X30.here hx rfl (hb hby at_34) ?_
      show Steps p.tables e below (T30.setTop (mkF m 35 #[.val (.int p1), .val (.int (5 : Int32)), .val (.ref w_MOVED), .val (.ref w_MOVED)] [(.int (1 : Int32))])) _
      refine XS.goto X30.here hx rfl (pc0 := 35) (pc' := 39) rfl (hb hby at_35) (by decide) (by decide) ?_
      exact kt
    obtain ⟨fs, hr, hrun, hended, hW, hsame⟩ := X30.leave (v := some (.int (1 : Int32))) (fun h => by rw [Bd.returns] at h; cases h)
    refine ⟨_, _, pre31 _ ?_, hrun, hended, _, _, rfl, ?_, ⟨_, rfl⟩, hW, hsame.mono (by decide) (by decide)⟩
    · show Steps p.tables e below (T30.setTop (mkF m 39 #[.val (.int p1), .val (.int (5 : Int32)), .val (.ref w_MOVED), .val (.ref w_MOVED)] [(.int (1 : Int32))])) _
      exact retN X30 hx (t := .boolean) Bd.returns (by simp) (hb hby at_39) hr
    · show Q0 Z h0 n0 _ T30.heap _
      rw [hE30]
      exact ⟨rfl, N30⟩
set_option maxRecDepth 65536 in
set_option maxHeartbeats 40000000 in
theorem comes_1 {Post : Tables → Env → Array Value → State → Outcome → State → Prop} (hpost : ∀ tb e args s v u, (limb_1_1.after args s (.returned v) u = true ∧ limb_1_2.after args s (.returned v) u = true ∧ True) → FrameEnd s (.returned v) u (Jvm.fieldLocs frame_1_writes args s ++ Jvm.arrayLocs frame_1_arrays args s ++ Jvm.staticLocs frame_1_statics s) 0 0 → Post tb e args s (.returned v) u) :
    ArmFor flags0 classFile x code maxLocals ret World_1 tables_1 room_1 Calls_1 rest_1 Pre_1 Post := by
  intro l hfl _ _ p e ha hc hk s m args below hf hA hF happ hP
  obtain ⟨hcalls, hrest, hpre⟩ := hP
  obtain ⟨-, -, -, hnamed, -, -, -, hat⟩ := (Spec.applies_iff hf).mp happ
  obtain ⟨hg, hn⟩ := and_e (Cond.before_iff.mp (show (Jvm.Cond.and given_1 narrow_1).before args s = true from hpre))
  have hw := fun d (hd : d ∈ tables_1) => atoms_spec (ws := Jvm.Cond.code x code maxLocals ret :: tables_1) hat d (List.mem_cons_of_mem _ hd)
  obtain ⟨g1a, g1b⟩ := and_e hg
  obtain ⟨w0, rfl⟩ : ∃ w0 : Value, args = #[w0] := by
    have hs : args.size = 1 := by simpa [Cond.value, given_1] using g1a
    obtain ⟨L⟩ := args
    match L, hs with
    | [w0], _ => exact ⟨w0, rfl⟩
  have hfit : Fit s := fun {y c} hc i hi => by
    obtain ⟨ha, rfl⟩ := Array.getElem?_eq_some_iff.mp hc
    have q := List.all_eq_true.mp ((Array.all_eq_true_iff_forall_mem.mp hF) _ (Array.getElem_mem ha)) i (List.mem_range.mpr hi)
    simpa [Array.getElem?_eq_getElem hi] using q
  obtain ⟨i0, ei0⟩ := is_v g1b
  obtain rfl : w0 = (.int i0) := Option.some.inj ei0
  obtain ⟨n1a, n1b⟩ := and_e hn
  obtain ⟨w_ADDED, ev_ADDED⟩ := exa_v n1a
  have S_ADDED := Sta.start ev_ADDED (Or.inr ⟨(hw _ (List.mem_of_getElem? (i := 6) rfl)), (hw _ (List.mem_of_getElem? (i := 7) rfl))⟩)
  have E_ADDED := Exa.start ev_ADDED n1a
  obtain ⟨n2a, n2b⟩ := and_e n1b
  obtain ⟨w_RENAMED, ev_RENAMED⟩ := exa_v n2a
  have S_RENAMED := Sta.start ev_RENAMED (Or.inr ⟨(hw _ (List.mem_of_getElem? (i := 6) rfl)), (hw _ (List.mem_of_getElem? (i := 14) rfl))⟩)
  have E_RENAMED := Exa.start ev_RENAMED n2a
  obtain ⟨n3a, n3b⟩ := and_e n2b
  have F_ADDED_ordinal := own_fld ev_ADDED n3a
  obtain ⟨n4a, n4b⟩ := and_e n3b
  have F_RENAMED_ordinal := own_fld ev_RENAMED n4a
  obtain ⟨n5a, n5b⟩ := and_e n4b
  obtain ⟨w_AFFECTED, ev_AFFECTED⟩ := exa_v n5a
  have S_AFFECTED := Sta.start ev_AFFECTED (Or.inr ⟨(hw _ (List.mem_of_getElem? (i := 6) rfl)), (hw _ (List.mem_of_getElem? (i := 19) rfl))⟩)
  have E_AFFECTED := Exa.start ev_AFFECTED n5a
  obtain ⟨n6a, n6b⟩ := and_e n5b
  have F_AFFECTED_ordinal := own_fld ev_AFFECTED n6a
  obtain ⟨n7a, n7b⟩ := and_e n6b
  obtain ⟨w_CHANGED, ev_CHANGED⟩ := exa_v n7a
  have S_CHANGED := Sta.start ev_CHANGED (Or.inr ⟨(hw _ (List.mem_of_getElem? (i := 6) rfl)), (hw _ (List.mem_of_getElem? (i := 21) rfl))⟩)
  have E_CHANGED := Exa.start ev_CHANGED n7a
  obtain ⟨n8a, n8b⟩ := and_e n7b
  have F_CHANGED_ordinal := own_fld ev_CHANGED n8a
  obtain ⟨n9a, n9b⟩ := and_e n8b
  obtain ⟨w_REMOVED, ev_REMOVED⟩ := exa_v n9a
  have S_REMOVED := Sta.start ev_REMOVED (Or.inr ⟨(hw _ (List.mem_of_getElem? (i := 6) rfl)), (hw _ (List.mem_of_getElem? (i := 23) rfl))⟩)
  have E_REMOVED := Exa.start ev_REMOVED n9a
  obtain ⟨n10a, n10b⟩ := and_e n9b
  have F_REMOVED_ordinal := own_fld ev_REMOVED n10a
  obtain ⟨n11a, n11b⟩ := and_e n10b
  obtain ⟨w_MOVED, ev_MOVED⟩ := exa_v n11a
  have S_MOVED := Sta.start ev_MOVED (Or.inr ⟨(hw _ (List.mem_of_getElem? (i := 6) rfl)), (hw _ (List.mem_of_getElem? (i := 25) rfl))⟩)
  have E_MOVED := Exa.start ev_MOVED n11a
  have F_MOVED_ordinal := own_fld ev_MOVED n11b
  obtain ⟨n, o, h1, h2, h3, _, L, rfl, ⟨rfl, N⟩, hq⟩ := rm0 l s _ hw tables_1 i0 w_ADDED w_REMOVED w_CHANGED w_AFFECTED w_RENAMED w_MOVED s.heap s.heap.size (Nat.le_refl _) S_ADDED S_REMOVED S_CHANGED S_AFFECTED S_RENAMED S_MOVED E_ADDED E_REMOVED E_CHANGED E_AFFECTED E_RENAMED E_MOVED (F_ADDED_ordinal.ne F_RENAMED_ordinal (by simp)) (F_REMOVED_ordinal.ne F_RENAMED_ordinal (by simp)) (F_CHANGED_ordinal.ne F_RENAMED_ordinal (by simp)) (F_AFFECTED_ordinal.ne F_RENAMED_ordinal (by simp)) (F_MOVED_ordinal.ne F_RENAMED_ordinal (by simp)) p e ha hc hk s m _ below hf ((Spec.applies_iff_loose hf).mp happ).1 ⟨rfl, State.Warmed39.refl s, rfl⟩ trivial
  refine ⟨n, _, h1, h2, h3, hpost _ _ _ _ _ _ ⟨Cond.after_iff.mpr rfl, Cond.after_iff.mpr (eq_i res_at (Term.int_eval (1)) rfl), trivial⟩ ⟨hq.1, hq.2.1, (hq.2.2.sift fun y hy => Or.inr (N y hy)).mono (by decide) (by decide)⟩⟩
theorem main_1_1 : Claimed_1_1 := comes_1 fun _ _ _ _ _ _ h hF => ⟨h.1, hF⟩
theorem main_1_2 : Claimed_1_2 := comes_1 fun _ _ _ _ _ _ h hF => ⟨h.2.1, hF⟩
end Jvm.Pilot.@@N@@
namespace Jvm.Pilot.@@N@@
open Jvm Jvm.ClassFile Sem Op Lib Jvm.Free Jvm.Stand Jvm.Pilot.@@N@@.Jvm.D
/-! MADE BY PROGRAM (witnessworld.py) out of the Statement's table words and the real class files: 12 classes; the members and pool entries that the words name. The judged class is class 1, her method 3. -/
namespace start1
open Jvm.ClassFile
def u (s : String) : CpInfo := .utf8 (stringToUtf16 s)
/-- a pool by its gaps: so many unusable entries, then the entry; so many at the end -/
def gap : Nat → List CpInfo → List CpInfo
  | 0, r => r
  | n + 1, r => .unusable :: gap n r
def poolList (es : List (Nat × CpInfo)) (last : Nat) : List CpInfo := es.foldr (fun e r => gap e.1 (e.2 :: r)) (gap last [])
def pool (es : List (Nat × CpInfo)) (last : Nat) : Array CpInfo := ⟨poolList es last⟩
def fileOf (pool : Array CpInfo) (this : Nat) (attrs : Array Attribute := #[]) (ms : Array MethodInfo := #[]) (fl : Nat := 33) (sup : Nat := 0) (ifs : Array Nat := #[]) (fds : Array FieldInfo := #[]) : ClassFile where
  minorVersion := 0
  majorVersion := 65
  constantPool := pool
  accessFlags := fl
  thisClass := this
  superClass := sup
  interfaces := ifs
  fields := fds
  methods := ms
  attributes := attrs
def plain (name : String) (sup : Option ClassId) : Class where
  name := name
  kind := .ordinary
  loader := none
  accessFlags := 33
  super := sup
  interfaces := #[]
  cf := none
  fields := #[]
  methods := #[]
  instanceTypes := #[]
  staticTypes := #[]
  resolved := #[]
  callSites := []
  init := .initialized
  statics := none
  mirror := none

def pool0 : Array CpInfo := pool [(5, u "<init>"), (0, u "()V"), (1, .class_ 10), (1, u "java/lang/Object")] 113

def k0m0 : Method := { name := "<init>", desc := "()V", sig := { parameters := [], returnType := none }, accessFlags := 1, code := none }
/-- java/lang/Object -/
def k0 : Class := { plain "java/lang/Object" none with
  accessFlags := 33
  interfaces := #[]
  cf := some (fileOf pool0 8 #[] #[{ accessFlags := 1, nameIndex := 5, descriptorIndex := 6, attributes := #[] }] 33 0 #[] #[])
  fields := #[]
  methods := #[k0m0]
  instanceTypes := #[]
  staticTypes := #[]
  resolved := Array.replicate 124 none
  statics := none }

def pool1 : Array CpInfo := pool [(2, .class_ 4), (1, u "java/lang/Object"), (0, u "<init>"), (0, u "()V"), (0, .fieldref 8 9), (0, .class_ 10), (0, .nameAndType 11 12), (0, u "com/example/driftwell/driftwell/Change$Status"), (0, u "ADDED"), (0, u "Lcom/example/driftwell/driftwell/Change$Status;"), (0, .fieldref 8 14), (0, .nameAndType 15 12), (0, u "REMOVED"), (0, .fieldref 8 17), (0, .nameAndType 18 12), (0, u "CHANGED"), (0, .fieldref 8 20), (0, .nameAndType 21 12), (0, u "AFFECTED"), (0, .fieldref 8 23), (0, .nameAndType 24 12), (0, u "RENAMED"), (0, .fieldref 8 26), (0, .nameAndType 27 12), (0, u "MOVED"), (0, .integer 2147483647), (0, .methodref 30 31), (0, .class_ 32), (0, .nameAndType 33 34), (0, u "com/example/driftwell/driftwell/StatusCountedPinLaw"), (0, u "pick"), (0, u "(I)Lcom/example/driftwell/driftwell/Change$Status;"), (0, .methodref 8 36), (0, .nameAndType 37 38), (0, u "counted"), (0, u "()Lcom/example/driftwell/driftwell/Change$Status;"), (0, .methodref 30 40), (0, .nameAndType 41 34), (0, u "expected"), (3, u "law"), (0, u "(I)Z")] 6

def k1m0 : Method := { name := "<init>", desc := "()V", sig := { parameters := [], returnType := none }, accessFlags := 1, code := none }
def k1c1 : Code := { maxStack := 2, maxLocals := 1, code := method_2_code, exceptionTable := #[], attributes := #[] }
def k1m1 : Method := { name := "pick", desc := "(I)Lcom/example/driftwell/driftwell/Change$Status;", sig := { parameters := [.int], returnType := some (.object "com/example/driftwell/driftwell/Change$Status") }, accessFlags := 10, code := some k1c1 }
def k1c2 : Code := { maxStack := 2, maxLocals := 1, code := method_3_code, exceptionTable := #[], attributes := #[] }
def k1m2 : Method := { name := "expected", desc := "(I)Lcom/example/driftwell/driftwell/Change$Status;", sig := { parameters := [.int], returnType := some (.object "com/example/driftwell/driftwell/Change$Status") }, accessFlags := 10, code := some k1c2 }
def k1c3 : Code := { maxStack := 2, maxLocals := 4, code := code, exceptionTable := #[], attributes := #[] }
def k1m3 : Method := { name := "law", desc := "(I)Z", sig := { parameters := [.int], returnType := some .boolean }, accessFlags := 9, code := some k1c3 }
/-- com/example/driftwell/driftwell/StatusCountedPinLaw -/
def k1 : Class := { plain "com/example/driftwell/driftwell/StatusCountedPinLaw" (some 0) with
  accessFlags := 49
  interfaces := #[]
  cf := some (fileOf pool1 30 #[] #[{ accessFlags := 1, nameIndex := 5, descriptorIndex := 6, attributes := #[] }, { accessFlags := 10, nameIndex := 33, descriptorIndex := 34, attributes := #[] }, { accessFlags := 10, nameIndex := 41, descriptorIndex := 34, attributes := #[] }, { accessFlags := 9, nameIndex := 45, descriptorIndex := 46, attributes := #[] }] 49 2 #[] #[])
  fields := #[]
  methods := #[k1m0, k1m1, k1m2, k1m3]
  instanceTypes := #[]
  staticTypes := #[]
  resolved := Array.replicate 53 none
  statics := none }

def pool2 : Array CpInfo := pool [(1, .class_ 2), (0, u "java/lang/constant/Constable"), (0, .class_ 4), (0, u "java/lang/Object")] 6

/-- java/lang/constant/Constable -/
def k2 : Class := { plain "java/lang/constant/Constable" (some 0) with
  accessFlags := 1537
  interfaces := #[]
  cf := some (fileOf pool2 1 #[] #[] 1537 3 #[] #[])
  fields := #[]
  methods := #[]
  instanceTypes := #[]
  staticTypes := #[]
  resolved := Array.replicate 11 none
  statics := none }

def pool3 : Array CpInfo := pool [(1, .class_ 2), (0, u "java/lang/Comparable"), (0, .class_ 4), (0, u "java/lang/Object")] 7

/-- java/lang/Comparable -/
def k3 : Class := { plain "java/lang/Comparable" (some 0) with
  accessFlags := 1537
  interfaces := #[]
  cf := some (fileOf pool3 1 #[] #[] 1537 3 #[] #[])
  fields := #[]
  methods := #[]
  instanceTypes := #[]
  staticTypes := #[]
  resolved := Array.replicate 12 none
  statics := none }

def pool4 : Array CpInfo := pool [(1, .class_ 2), (0, u "java/io/Serializable"), (0, .class_ 4), (0, u "java/lang/Object")] 2

/-- java/io/Serializable -/
def k4 : Class := { plain "java/io/Serializable" (some 0) with
  accessFlags := 1537
  interfaces := #[]
  cf := some (fileOf pool4 1 #[] #[] 1537 3 #[] #[])
  fields := #[]
  methods := #[]
  instanceTypes := #[]
  staticTypes := #[]
  resolved := Array.replicate 7 none
  statics := none }

def pool5 : Array CpInfo := pool [(2, .class_ 4), (1, u "java/lang/Enum"), (0, u "name"), (0, u "Ljava/lang/String;"), (2, u "ordinal"), (0, u "I"), (1, .class_ 14), (1, u "java/lang/Object"), (4, u "hash"), (86, .class_ 108), (1, u "java/lang/Enum$EnumDesc"), (2, .class_ 112), (0, u "java/lang/constant/Constable"), (0, .class_ 114), (0, u "java/lang/Comparable"), (0, .class_ 116), (0, u "java/io/Serializable")] 87

/-- java/lang/Enum -/
def k5 : Class := { plain "java/lang/Enum" (some 0) with
  accessFlags := 1057
  interfaces := #[2, 3, 4]
  cf := some (fileOf pool5 2 #[.nestMembers #[106]] #[] 1057 12 #[111, 113, 115] #[{ accessFlags := 18, nameIndex := 5, descriptorIndex := 6, attributes := #[] }, { accessFlags := 18, nameIndex := 9, descriptorIndex := 10, attributes := #[] }, { accessFlags := 2, nameIndex := 19, descriptorIndex := 10, attributes := #[] }])
  fields := #[{ name := "name", type := (.object "java/lang/String"), accessFlags := 18, slot := 0, constantValue := 0 }, { name := "ordinal", type := .int, accessFlags := 18, slot := 1, constantValue := 0 }, { name := "hash", type := .int, accessFlags := 2, slot := 2, constantValue := 0 }]
  methods := #[]
  instanceTypes := #[(.object "java/lang/String"), .int, .int]
  staticTypes := #[]
  resolved := Array.replicate 204 none
  statics := none }

def pool6 : Array CpInfo := pool [(1, .class_ 2), (0, u "com/example/driftwell/driftwell/Change$Status"), (2, u "ADDED"), (0, u "Lcom/example/driftwell/driftwell/Change$Status;"), (2, u "REMOVED"), (0, .fieldref 1 11), (0, .nameAndType 12 6), (0, u "CHANGED"), (2, u "AFFECTED"), (0, .fieldref 1 17), (0, .nameAndType 18 6), (0, u "RENAMED"), (2, u "MOVED"), (2, u "$VALUES"), (0, u "[Lcom/example/driftwell/driftwell/Change$Status;"), (6, .class_ 34), (1, u "java/lang/Enum"), (8, u "label"), (0, u "Ljava/lang/String;"), (33, u "counted"), (0, u "()Lcom/example/driftwell/driftwell/Change$Status;"), (7, .class_ 88), (0, u "com/example/driftwell/driftwell/Change")] 2

def k6c0 : Code := { maxStack := 2, maxLocals := 1, code := prog_6_method_5_code, exceptionTable := #[], attributes := #[] }
def k6m0 : Method := { name := "counted", desc := "()Lcom/example/driftwell/driftwell/Change$Status;", sig := { parameters := [], returnType := some (.object "com/example/driftwell/driftwell/Change$Status") }, accessFlags := 0, code := some k6c0 }
/-- com/example/driftwell/driftwell/Change$Status -/
def k6 : Class := { plain "com/example/driftwell/driftwell/Change$Status" (some 5) with
  accessFlags := 16432
  interfaces := #[]
  cf := some (fileOf pool6 1 #[.nestHost 87] #[{ accessFlags := 0, nameIndex := 78, descriptorIndex := 79, attributes := #[] }] 16432 32 #[] #[{ accessFlags := 16409, nameIndex := 5, descriptorIndex := 6, attributes := #[] }, { accessFlags := 16409, nameIndex := 9, descriptorIndex := 6, attributes := #[] }, { accessFlags := 16409, nameIndex := 12, descriptorIndex := 6, attributes := #[] }, { accessFlags := 16409, nameIndex := 15, descriptorIndex := 6, attributes := #[] }, { accessFlags := 16409, nameIndex := 18, descriptorIndex := 6, attributes := #[] }, { accessFlags := 16409, nameIndex := 21, descriptorIndex := 6, attributes := #[] }, { accessFlags := 18, nameIndex := 43, descriptorIndex := 44, attributes := #[] }, { accessFlags := 4122, nameIndex := 24, descriptorIndex := 25, attributes := #[] }])
  fields := #[{ name := "ADDED", type := (.object "com/example/driftwell/driftwell/Change$Status"), accessFlags := 16409, slot := 0, constantValue := 0 }, { name := "REMOVED", type := (.object "com/example/driftwell/driftwell/Change$Status"), accessFlags := 16409, slot := 1, constantValue := 0 }, { name := "CHANGED", type := (.object "com/example/driftwell/driftwell/Change$Status"), accessFlags := 16409, slot := 2, constantValue := 0 }, { name := "AFFECTED", type := (.object "com/example/driftwell/driftwell/Change$Status"), accessFlags := 16409, slot := 3, constantValue := 0 }, { name := "RENAMED", type := (.object "com/example/driftwell/driftwell/Change$Status"), accessFlags := 16409, slot := 4, constantValue := 0 }, { name := "MOVED", type := (.object "com/example/driftwell/driftwell/Change$Status"), accessFlags := 16409, slot := 5, constantValue := 0 }, { name := "label", type := (.object "java/lang/String"), accessFlags := 18, slot := 3, constantValue := 0 }, { name := "$VALUES", type := (.array (.object "com/example/driftwell/driftwell/Change$Status")), accessFlags := 4122, slot := 6, constantValue := 0 }]
  methods := #[k6m0]
  instanceTypes := #[(.object "java/lang/String"), .int, .int, (.object "java/lang/String")]
  staticTypes := #[(.object "com/example/driftwell/driftwell/Change$Status"), (.object "com/example/driftwell/driftwell/Change$Status"), (.object "com/example/driftwell/driftwell/Change$Status"), (.object "com/example/driftwell/driftwell/Change$Status"), (.object "com/example/driftwell/driftwell/Change$Status"), (.object "com/example/driftwell/driftwell/Change$Status"), (.array (.object "com/example/driftwell/driftwell/Change$Status"))]
  resolved := Array.replicate 91 none
  statics := some 0 }

def pool7 : Array CpInfo := pool [(1, u "java/lang/Cloneable"), (0, .class_ 1), (0, u "java/lang/Object"), (0, .class_ 3)] 3

/-- java/lang/Cloneable -/
def k7 : Class := { plain "java/lang/Cloneable" (some 0) with
  accessFlags := 1537
  interfaces := #[]
  cf := some (fileOf pool7 2 #[] #[] 1537 4 #[] #[])
  fields := #[]
  methods := #[]
  instanceTypes := #[]
  staticTypes := #[]
  resolved := Array.replicate 8 none
  statics := none }

/-- the primitive byte -/
def k8 : Class := { plain "byte" none with kind := .primitive 'B', accessFlags := 0x411 }
/-- [B -/
def k9 : Class := { plain "[B" (some 0) with kind := .array 8 .byte, interfaces := #[7, 4], accessFlags := 1041 }

/-- the primitive int -/
def k10 : Class := { plain "int" none with kind := .primitive 'I', accessFlags := 0x411 }
/-- [I -/
def k11 : Class := { plain "[I" (some 0) with kind := .array 10 .int, interfaces := #[7, 4], accessFlags := 1041 }

def heap : Heap := #[{ cls := 6, slots := #[.ref 1, .ref 5, .ref 4, .ref 3, .ref 2, .ref 6, .null], vm := .statics 6 },
  { cls := 6, slots := #[.null, .int 0, .int 0, .null], vm := .none },
  { cls := 6, slots := #[.null, .int 4, .int 0, .null], vm := .none },
  { cls := 6, slots := #[.null, .int 3, .int 0, .null], vm := .none },
  { cls := 6, slots := #[.null, .int 2, .int 0, .null], vm := .none },
  { cls := 6, slots := #[.null, .int 1, .int 0, .null], vm := .none },
  { cls := 6, slots := #[.null, .int 5, .int 0, .null], vm := .none }]
def classes : Array Class := #[k0, k1, k2, k3, k4, k5, k6, k7, k8, k9, k10, k11]
def interned : List (Array UInt16 × Addr) := []
def slotsUsed : Nat := 31
def theMethod : MethodId := ⟨1, 3⟩
def args0 : Array Value := #[.int 5]
def aboutOver (below : List Frame) : State where
  vm := { classes := classes, interned := interned.toArray }
  heap := heap
  slotsUsed := slotsUsed
  threads := #[{ frames := .invoking theMethod args0 :: below }]
def below0 : List Frame := [.native { method := ⟨0, 0⟩, args := #[] }]
def about1 : State := aboutOver below0
def p0 : Program := .bare "" "" ""
def e0 : Env := launch0.env 0 0 0
theorem w_frames : about1.frames = Frame.invoking theMethod args0 :: below0 := rfl
set_option maxRecDepth 65536 in
theorem w_args : argsFit about1.vm theMethod args0 = true := by decide +kernel
set_option maxRecDepth 65536 in
theorem w_heap : heapFits about1 = true := by decide +kernel
set_option maxRecDepth 65536 in
theorem w_runnable : about1.curStatus? = some .runnable := by decide +kernel
set_option maxRecDepth 65536 in
theorem w_alone : about1.alone = true := by decide +kernel
set_option maxRecDepth 65536 in
theorem w_named : about1.methodNamed? x = some theMethod := by decide +kernel
set_option maxRecDepth 65536 in
theorem w_hears : about1.hears theMethod below0 = true := by decide +kernel
set_option maxRecDepth 65536 in
theorem w_ripe : about1.ripe theMethod args0 below0 = true := by decide +kernel
theorem w_running : about1.status = .running := rfl
set_option maxRecDepth 65536 in
theorem w_room : about1.hasRoom e0.platform room_1 = true :=
  launch0.hasRoom_least _ room_1 (by decide +kernel) (by decide +kernel) (by decide +kernel) (by decide +kernel) (by decide +kernel) (by decide +kernel)
theorem allAtoms_all (ts : List Jvm.Cond) (a : Array Jvm.Value) (st : Jvm.State) : (allAtoms ts).before a st = ts.all (fun c => c.before a st) := by
  induction ts with
  | nil => rfl
  | cons c t ih =>
    show (Jvm.Cond.and c (allAtoms t)).before a st = _
    rw [Jvm.Cond.before_and, ih, List.all_cons]
def words1 : List Jvm.Cond := Jvm.Cond.code x code maxLocals ret :: tables_1
/-- a 'code' word, met by the world's own term for the bytes: nothing is compared byte by byte -/
theorem code_word {y : MethodName} {bytes : ByteArray} {mx : Nat} {rt : Option FieldType} {a : Array Value} {s : State} {m : MethodId} {meth : Method} {c : Code} (h1 : s.methodNamed? y = some m) (h2 : s.vm.method? m = some meth) (h3 : meth.code = some c) (h4 : c.code = bytes)
    (h5 : (c.maxLocals == mx && c.exceptionTable.isEmpty && decide (c.maxStack ≤ mostOperands) && decide (meth.sig.returnType = rt) && !meth.locks && decide (parseMethodDescriptor y.desc = some meth.sig)) = true) : (Jvm.Cond.code y bytes mx rt).before a s = true := by
  simp only [Bool.and_eq_true, beq_iff_eq, Bool.not_eq_true', decide_eq_true_eq] at h5
  obtain ⟨⟨⟨⟨⟨g1, g2⟩, g3⟩, g4⟩, g5⟩, g6⟩ := h5
  simp [Cond.before, Cond.holds, Cond.value, h1, h2, h3, h4, g1, g2, g3, g4, g5, g6]
def isCode : Jvm.Cond → Bool
  | .code _ _ _ _ => true
  | _ => false
theorem all_split {L : List Jvm.Cond} {P : Jvm.Cond → Bool} (h1 : L.all (fun c => isCode c || P c) = true) (h2 : ∀ c ∈ L.filter isCode, P c = true) : L.all P = true := by
  refine List.all_eq_true.mpr fun c hc => ?_
  have h := List.all_eq_true.mp h1 c hc
  rcases Bool.eq_false_or_eq_true (isCode c) with hi | hi
  · exact h2 c (List.mem_filter.mpr ⟨hc, hi⟩)
  · simpa [hi] using h
set_option maxRecDepth 65536 in
theorem w_c0 : (Jvm.Cond.code x code maxLocals ret).before args0 about1 = true := code_word (m := ⟨1, 3⟩) (meth := k1m3) (c := k1c3) (by decide +kernel) rfl rfl rfl (by decide +kernel)
set_option maxRecDepth 65536 in
theorem w_c1 : (Jvm.Cond.code ({ cls := "com/example/driftwell/driftwell/StatusCountedPinLaw", name := "pick", desc := "(I)Lcom/example/driftwell/driftwell/Change$Status;" } : Jvm.MethodName) method_2_code (1 : Nat) (Option.some (Jvm.ClassFile.FieldType.object "com/example/driftwell/driftwell/Change$Status"))).before args0 about1 = true := code_word (m := ⟨1, 1⟩) (meth := k1m1) (c := k1c1) (by decide +kernel) rfl rfl rfl (by decide +kernel)
set_option maxRecDepth 65536 in
theorem w_c2 : (Jvm.Cond.code ({ cls := "com/example/driftwell/driftwell/Change$Status", name := "counted", desc := "()Lcom/example/driftwell/driftwell/Change$Status;" } : Jvm.MethodName) prog_6_method_5_code (1 : Nat) (Option.some (Jvm.ClassFile.FieldType.object "com/example/driftwell/driftwell/Change$Status"))).before args0 about1 = true := code_word (m := ⟨6, 0⟩) (meth := k6m0) (c := k6c0) (by decide +kernel) rfl rfl rfl (by decide +kernel)
set_option maxRecDepth 65536 in
theorem w_c3 : (Jvm.Cond.code ({ cls := "com/example/driftwell/driftwell/StatusCountedPinLaw", name := "expected", desc := "(I)Lcom/example/driftwell/driftwell/Change$Status;" } : Jvm.MethodName) method_3_code (1 : Nat) (Option.some (Jvm.ClassFile.FieldType.object "com/example/driftwell/driftwell/Change$Status"))).before args0 about1 = true := code_word (m := ⟨1, 2⟩) (meth := k1m2) (c := k1c2) (by decide +kernel) rfl rfl rfl (by decide +kernel)
def codes1 : List Jvm.Cond := [Jvm.Cond.code x code maxLocals ret, Jvm.Cond.code ({ cls := "com/example/driftwell/driftwell/StatusCountedPinLaw", name := "pick", desc := "(I)Lcom/example/driftwell/driftwell/Change$Status;" } : Jvm.MethodName) method_2_code (1 : Nat) (Option.some (Jvm.ClassFile.FieldType.object "com/example/driftwell/driftwell/Change$Status")), Jvm.Cond.code ({ cls := "com/example/driftwell/driftwell/Change$Status", name := "counted", desc := "()Lcom/example/driftwell/driftwell/Change$Status;" } : Jvm.MethodName) prog_6_method_5_code (1 : Nat) (Option.some (Jvm.ClassFile.FieldType.object "com/example/driftwell/driftwell/Change$Status")), Jvm.Cond.code ({ cls := "com/example/driftwell/driftwell/StatusCountedPinLaw", name := "expected", desc := "(I)Lcom/example/driftwell/driftwell/Change$Status;" } : Jvm.MethodName) method_3_code (1 : Nat) (Option.some (Jvm.ClassFile.FieldType.object "com/example/driftwell/driftwell/Change$Status"))]
set_option maxRecDepth 65536 in
theorem codes_eq : words1.filter isCode = codes1 := rfl
theorem w_codes : ∀ c ∈ words1.filter isCode, c.before args0 about1 = true := by
  rw [codes_eq]
  intro c hc
  simp only [codes1, List.mem_cons, List.not_mem_nil, or_false] at hc
  rcases hc with rfl | rfl | rfl | rfl
  · exact w_c0
  · exact w_c1
  · exact w_c2
  · exact w_c3
set_option maxRecDepth 65536 in
theorem w_t1 : (words1.take 24).all (fun c => isCode c || c.before args0 about1) = true := by decide +kernel
set_option maxRecDepth 65536 in
theorem w_t2 : (words1.drop 24).all (fun c => isCode c || c.before args0 about1) = true := by decide +kernel
theorem w_tables : (allAtoms (Jvm.Cond.code x code maxLocals ret :: tables_1)).before args0 about1 = true := by
  rw [allAtoms_all]
  show words1.all (fun c => c.before args0 about1) = true
  refine all_split ?_ w_codes
  rw [← List.take_append_drop 24 words1, List.all_append, w_t1, w_t2]
  rfl
set_option maxRecDepth 65536 in
theorem w_case : (Jvm.Cond.and given_1 narrow_1).before args0 about1 = true := by decide +kernel
theorem w_applies : (headSpec (Jvm.Cond.code x code maxLocals ret :: tables_1) room_1).applies x e0.platform about1 = true :=
  (Spec.applies_iff w_frames).mpr ⟨w_running, w_runnable, w_alone, w_named, w_hears, w_ripe, w_room, w_tables⟩
theorem atStart : AtStart classFile x code maxLocals ret World_1 tables_1 room_1 Calls_1 rest_1 Pre_1 launch0 p0 e0 about1 theMethod args0 below0 :=
  ⟨lists_1, trivial, launch0.admits_env _ _ _, launch0.least_env, fairChoices_fair.cas, fairChoices_fair.clock, w_frames, w_args, w_heap, w_applies, trivial, trivial, w_case⟩
end start1
theorem witness_1 : WitnessClaimed_1 := ⟨start1.p0, start1.e0, start1.about1, start1.theMethod, start1.args0, start1.below0, start1.atStart⟩
end Jvm.Pilot.@@N@@
