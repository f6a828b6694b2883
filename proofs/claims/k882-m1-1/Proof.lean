import JvmDerived
import JvmDerived.Pilot.@@N@@Statement
import JvmDerived.Pilot.@@N@@Code
set_option linter.unusedVariables false
set_option linter.unusedSimpArgs false
namespace Jvm.RoadKit
open Sem ClassFile Op Lib Jvm.Stand Jvm.Free Jvm.LawKit
section New
variable {p : Program} {l : Launch} {e : Env} {R : Room} {s : State} {m : MethodId} {args : Array Value} {below : List Frame} {meth : Method} {c : Code} {T : State} {locs : List Loc} {cells slots : Nat}
theorem retI (X : Stand p l e R s m args below meth c T locs cells slots) (hx : p.tables.exec = Jvm.exec) {pc : Nat} {Ls : Array Slot} {z : Int32} {rest : List Value} (hret : meth.sig.returnType = some .int) (hd : decode c.code pc = .ok (.ireturn, 1)) {fs : List Frame}
    (hl : ∀ (f : JFrame) (acts : List Action), f.method = m → f.locked = none → f.entered = [] → (doReturn e (T.setTop f) acts (some (.int z))).1 = T.setFrames fs) : Steps p.tables e below (T.setTop (mkF m pc Ls (.int z :: rest))) (T.setFrames fs) := by
  have hm' : T.vm.method? m = some meth := X.method'
  have hn : narrow .int (.int z) = .int z := rfl
  show Steps p.tables e below (T.setTop { method := m, pc := pc, locals := Ls, stack := _ :: rest, locked := none }) _
  jvm_step X.here [X.here.top, hx, hd, hm', hret, hn]
  first | (intro acts; rw [hl _ acts rfl rfl rfl]) | rw [hl _ _ rfl rfl rfl]
  exact Steps.refl _
end New
end Jvm.RoadKit
namespace Jvm.Pilot.@@N@@
open Jvm Jvm.ClassFile Sem Op Lib Jvm.Free Jvm.Stand Jvm.LawKit Jvm.RoadKit Bundle Jvm.Pilot.@@N@@.Jvm.D
theorem own_retb (z : Int32) (h : z = 0 ∨ z = 1) : narrow .boolean (.int z) = .int z := by rcases h with rfl | rfl <;> rfl
theorem own_rem (x n : Int32) (hn : 0 < n.toInt) : 0 ≤ ((x &&& (2147483647 : Int32)) % n).toInt ∧ ((x &&& (2147483647 : Int32)) % n).toInt < n.toInt := by
  have h1 := c_mask x (2147483647 : Int32) 31 (by decide) (by decide)
  have h2 := (c_iremV (x &&& (2147483647 : Int32)) n).1 (by omega) hn
  exact ⟨h2.1, h2.2.1⟩
theorem own_of3 {k : Int32} (h : 0 ≤ k.toInt ∧ k.toInt < 3) : k = 0 ∨ k = 1 ∨ k = 2 := by
  have h2 : k.toInt = (0 : Int32).toInt ∨ k.toInt = (1 : Int32).toInt ∨ k.toInt = (2 : Int32).toInt := by simp; omega
  simpa only [Int32.toInt_inj] using h2
theorem own_of5 {k : Int32} (h : 0 ≤ k.toInt ∧ k.toInt < 5) : k = 0 ∨ k = 1 ∨ k = 2 ∨ k = 3 ∨ k = 4 := by
  have h2 : k.toInt = (0 : Int32).toInt ∨ k.toInt = (1 : Int32).toInt ∨ k.toInt = (2 : Int32).toInt ∨ k.toInt = (3 : Int32).toInt ∨ k.toInt = (4 : Int32).toInt := by simp; omega
  simpa only [Int32.toInt_inj] using h2
theorem own_of6 {k : Int32} (h : 0 ≤ k.toInt ∧ k.toInt < 6) : k = 0 ∨ k = 1 ∨ k = 2 ∨ k = 3 ∨ k = 4 ∨ k = 5 := by
  have h2 : k.toInt = (0 : Int32).toInt ∨ k.toInt = (1 : Int32).toInt ∨ k.toInt = (2 : Int32).toInt ∨ k.toInt = (3 : Int32).toInt ∨ k.toInt = (4 : Int32).toInt ∨ k.toInt = (5 : Int32).toInt := by simp; omega
  simpa only [Int32.toInt_inj] using h2
theorem own_eqI {args : Array Value} {s : State} {t : Term} {k : Int32} (h : (Jvm.Cond.eq t (.int k)).value args s none s [] = some true) : t.eval args s none [] s = some (.int k) := by
  obtain ⟨u, v, hu, hv, k1, k2⟩ := cmp_v (Or.inl h)
  have hv2 : v = .int k := Option.some.inj (hv.symm.trans (Term.int_eval k))
  subst hv2
  cases u <;> simp [Cond.value, hu, hv] at h
  subst h; exact hu
theorem own_fld {args : Array Value} {s : State} {t : Term} {a : Addr} {C n d : String} {k : Int32} (ev : t.eval args s none [] s = some (.ref a)) (h : (Jvm.Cond.eq (.field t C n d) (.int k)).value args s none s [] = some true) : Fld s s.heap a C n d (.int k) :=
  Fld.start ((fld_at ev).symm.trans (own_eqI h))
theorem own_len {args : Array Value} {s : State} {t : Term} {a : Addr} {cl : Cell} {ty : FieldType} {k : Int32} (ev : t.eval args s none [] s = some (.ref a)) (A : Arr s s.heap a cl ty) (h : (Jvm.Cond.eq (.length t) (.int k)).value args s none s [] = some true) : cl.slots.size.toInt32 = k := by
  obtain ⟨b, c, e1, e2, e3⟩ := Term.length_spec (own_eqI h)
  cases ev.symm.trans e1
  cases (A.fin (Vm.Alike.refl _)).symm.trans e2
  exact (Value.int.inj e3).symm
theorem own_lenlt {args : Array Value} {s : State} {t : Term} {a : Addr} {cl : Cell} {ty : FieldType} {k : Int32} (ev : t.eval args s none [] s = some (.ref a)) (A : Arr s s.heap a cl ty) (h : (Jvm.Cond.eq (.length t) (.int k)).value args s none s [] = some true) : cl.slots.size < 2 ^ 31 := by
  have h1 := own_eqI h
  have h2 := A.fin (Vm.Alike.refl _)
  apply Classical.byContradiction
  intro h3
  simp [Term.eval, ev, h2, h3] at h1
theorem own_elem {args : Array Value} {s : State} {t u : Term} {a b : Addr} {cl : Cell} {ty : FieldType} {j : Int32} (ev : t.eval args s none [] s = some (.ref a)) (A : Arr s s.heap a cl ty) (hu : u.eval args s none [] s = some (.ref b)) (h : (Jvm.Cond.eq (.elem t (.int j)) u).value args s none s [] = some true) : cl.slots[j.toNatClampNeg]? = some (.ref b) := by
  obtain ⟨x, y, hx, hy, -, -⟩ := cmp_v (Or.inl h)
  cases hu.symm.trans hy
  have h2 := (elem_in hx ev (Term.int_eval j) A.1).2
  cases x <;> simp [Cond.value, hx, hy] at h
  subst h; exact h2
theorem own_fldN {args : Array Value} {s : State} {t : Term} {a : Addr} {C n d : String} (ev : t.eval args s none [] s = some (.ref a)) (h : (Jvm.Cond.eq (.field t C n d) .null).value args s none s [] = some true) : Fld s s.heap a C n d .null :=
  Fld.start ((fld_at ev).symm.trans (null_v h))
def QR (Z : State) (r : Addr) (h0 : Heap) (n0 : Nat) (v : Option Value) (h : Heap) (L : List Loc) : Prop := v = some (.ref r) ∧ Fr n0 L ∧ h = h0
def QI (Z : State) (r : Int32) (h0 : Heap) (n0 : Nat) (v : Option Value) (h : Heap) (L : List Loc) : Prop := v = some (.int r) ∧ Fr n0 L ∧ h = h0
def own_pick (i : Int32) (b0 b1 b2 b3 b4 : Addr) : Addr := if i = 0 then b0 else if i = 1 then b1 else if i = 2 then b2 else if i = 3 then b3 else b4
def own_val (i : Int32) : Int32 := if i = 0 then 10 else if i = 1 then 20 else if i = 2 then 30 else if i = 3 then 40 else 50
theorem own_fpick {Z : State} {h : Heap} {C n d : String} {i : Int32} {b0 b1 b2 b3 b4 : Addr} (f0 : Fld Z h b0 C n d (.int (10 : Int32))) (f1 : Fld Z h b1 C n d (.int (20 : Int32))) (f2 : Fld Z h b2 C n d (.int (30 : Int32))) (f3 : Fld Z h b3 C n d (.int (40 : Int32))) (f4 : Fld Z h b4 C n d (.int (50 : Int32))) : Fld Z h (own_pick i b0 b1 b2 b3 b4) C n d (.int (own_val i)) := by
  by_cases c0 : i = 0
  · simpa [own_pick, own_val, c0] using f0
  · by_cases c1 : i = 1
    · simpa [own_pick, own_val, c0, c1] using f1
    · by_cases c2 : i = 2
      · simpa [own_pick, own_val, c0, c1, c2] using f2
      · by_cases c3 : i = 3
        · simpa [own_pick, own_val, c0, c1, c2, c3] using f3
        · simpa [own_pick, own_val, c0, c1, c2, c3] using f4
theorem own_epick {Z : State} {h : Heap} {C : String} {i : Int32} {b0 b1 b2 b3 b4 : Addr} (f0 : Exa Z h b0 C) (f1 : Exa Z h b1 C) (f2 : Exa Z h b2 C) (f3 : Exa Z h b3 C) (f4 : Exa Z h b4 C) : Exa Z h (own_pick i b0 b1 b2 b3 b4) C := by
  unfold own_pick
  repeat' split
  all_goals assumption
theorem own_lt {i j : Int32} (hi : i = 0 ∨ i = 1 ∨ i = 2 ∨ i = 3 ∨ i = 4) (hj : j = 0 ∨ j = 1 ∨ j = 2 ∨ j = 3 ∨ j = 4) (c : i < j) : (0 : Int32) = if own_val i < own_val j then (0 : Int32) else 1 := by
  rcases hi with rfl | rfl | rfl | rfl | rfl <;> rcases hj with rfl | rfl | rfl | rfl | rfl <;> first | decide | exact absurd c (by decide)
theorem own_ge {i j : Int32} (hi : i = 0 ∨ i = 1 ∨ i = 2 ∨ i = 3 ∨ i = 4) (hj : j = 0 ∨ j = 1 ∨ j = 2 ∨ j = 3 ∨ j = 4) (c : ¬ i < j) : (1 : Int32) = if own_val i < own_val j then (0 : Int32) else 1 := by
  rcases hi with rfl | rfl | rfl | rfl | rfl <;> rcases hj with rfl | rfl | rfl | rfl | rfl <;> first | decide | exact absurd (by decide) c
theorem d1_0 : decode method_2_code 0 = .ok (.iload_n 0, 1) := by decide +kernel
theorem d1_1 : decode method_2_code 1 = .ok (.ifCond .ne 7, 3) := by decide +kernel
theorem d1_4 : decode method_2_code 4 = .ok (.getstatic 7, 3) := by decide +kernel
theorem d1_7 : decode method_2_code 7 = .ok (.areturn, 1) := by decide +kernel
theorem d1_8 : decode method_2_code 8 = .ok (.iload_n 0, 1) := by decide +kernel
theorem d1_9 : decode method_2_code 9 = .ok (.iconst 1, 1) := by decide +kernel
theorem d1_10 : decode method_2_code 10 = .ok (.if_icmp .ne 7, 3) := by decide +kernel
theorem d1_13 : decode method_2_code 13 = .ok (.getstatic 13, 3) := by decide +kernel
theorem d1_16 : decode method_2_code 16 = .ok (.areturn, 1) := by decide +kernel
theorem d1_17 : decode method_2_code 17 = .ok (.iload_n 0, 1) := by decide +kernel
theorem d1_18 : decode method_2_code 18 = .ok (.iconst 2, 1) := by decide +kernel
theorem d1_19 : decode method_2_code 19 = .ok (.if_icmp .ne 7, 3) := by decide +kernel
theorem d1_22 : decode method_2_code 22 = .ok (.getstatic 16, 3) := by decide +kernel
theorem d1_25 : decode method_2_code 25 = .ok (.areturn, 1) := by decide +kernel
theorem d1_26 : decode method_2_code 26 = .ok (.iload_n 0, 1) := by decide +kernel
theorem d1_27 : decode method_2_code 27 = .ok (.iconst 3, 1) := by decide +kernel
theorem d1_28 : decode method_2_code 28 = .ok (.if_icmp .ne 7, 3) := by decide +kernel
theorem d1_31 : decode method_2_code 31 = .ok (.getstatic 19, 3) := by decide +kernel
theorem d1_34 : decode method_2_code 34 = .ok (.areturn, 1) := by decide +kernel
theorem d1_35 : decode method_2_code 35 = .ok (.getstatic 22, 3) := by decide +kernel
theorem d1_38 : decode method_2_code 38 = .ok (.areturn, 1) := by decide +kernel
theorem pn_rm1 : plainName "com/example/wee_forge/weeforge/model/AccessLevelAtLeastPinLaw" = true := by first | (simp [plainName, overriddenIn]; done) | decide +kernel
theorem ef_rm1 (m : MethodId) (p1 : Int32) : entryFrame m #[(.int p1)] 1 = mkF m 0 #[.val (.int p1)] [] := by first | (simp [entryFrame, mkF, argsToLocals, Value.category]; done) | rfl
set_option maxRecDepth 65536 in
set_option maxHeartbeats 40000000 in
theorem rm1 (l : Launch) (Z : State) (a0 : Array Value) (hw : ∀ d ∈ tables_1, d.before a0 Z = true) (ws : List Jvm.Cond) (p1 : Int32) (w_GUEST w_REPORTER w_DEVELOPER w_MAINTAINER w_OWNER r : Addr) (h0 : Heap) (n0 : Nat) (Z0 : n0 ≤ h0.size) (S_GUEST : Sta Z h0 "com/example/wee_forge/weeforge/model/AccessLevel" "GUEST" "Lcom/example/wee_forge/weeforge/model/AccessLevel;" (.ref w_GUEST)) (S_REPORTER : Sta Z h0 "com/example/wee_forge/weeforge/model/AccessLevel" "REPORTER" "Lcom/example/wee_forge/weeforge/model/AccessLevel;" (.ref w_REPORTER)) (S_DEVELOPER : Sta Z h0 "com/example/wee_forge/weeforge/model/AccessLevel" "DEVELOPER" "Lcom/example/wee_forge/weeforge/model/AccessLevel;" (.ref w_DEVELOPER)) (S_MAINTAINER : Sta Z h0 "com/example/wee_forge/weeforge/model/AccessLevel" "MAINTAINER" "Lcom/example/wee_forge/weeforge/model/AccessLevel;" (.ref w_MAINTAINER)) (S_OWNER : Sta Z h0 "com/example/wee_forge/weeforge/model/AccessLevel" "OWNER" "Lcom/example/wee_forge/weeforge/model/AccessLevel;" (.ref w_OWNER)) (hr0 : r = own_pick p1 w_GUEST w_REPORTER w_DEVELOPER w_MAINTAINER w_OWNER) :
    MetFree l (⟨"com/example/wee_forge/weeforge/model/AccessLevelAtLeastPinLaw", "pick", "(I)Lcom/example/wee_forge/weeforge/model/AccessLevel;"⟩ : MethodName) (head1 (Jvm.Cond.code (⟨"com/example/wee_forge/weeforge/model/AccessLevelAtLeastPinLaw", "pick", "(I)Lcom/example/wee_forge/weeforge/model/AccessLevel;"⟩ : MethodName) method_2_code 1 (some (.object "com/example/wee_forge/weeforge/model/AccessLevel")) :: ws) ({ frames := 0, cells := 0, slots := 0, locals := 0 } : Room)) (fun a U => a = #[(.int p1)] ∧ Z.Warmed39 U.vm ∧ U.heap = h0) (fun _ _ _ _ _ => True) (fun _ U o U' => ∃ v L, o = .returned v ∧ QR Z r h0 n0 v U'.heap L ∧ FrameEnd U o U' L ({ frames := 0, cells := 0, slots := 0, locals := 0 } : Room).cells ({ frames := 0, cells := 0, slots := 0, locals := 0 } : Room).slots) := by
  refine MetFree.of_bodySF (plainFor_of_name pn_rm1) hisR ?_
  intro p e s m args below meth c s₁ Bd hml0 hP hK
  obtain ⟨rfl, hZ, hh⟩ := hP
  have hx := Bd.exec
  have hby := Bd.bytes
  have hml : c.maxLocals = 1 := hml0
  have hown : s.vm.findClass "com/example/wee_forge/weeforge/model/AccessLevelAtLeastPinLaw" = some m.cls := findClass_of_methodNamed Bd.named
  have hnm := (name_of_methodNamed Bd.named Bd.method).1
  have X0 : Stand p l e ({ frames := 0, cells := 0, slots := 0, locals := 0 } : Room) s m #[(.int p1)] below meth c s₁ [] 0 0 := Stand.of_body Bd
  have e0 : s₁.heap = h0 := by rw [← hh, Bd.state]; rfl
  have N0 := Fr.nil n0
  have pre0 : ∀ tt, Steps p.tables e below (s₁.setTop (mkF m 0 #[.val (.int p1)] [])) tt → Steps p.tables e below (s₁.setTop (entryFrame m #[(.int p1)] 1)) tt := fun tt kt => castTop (ef_rm1 m p1) kt
  have pre1 : ∀ tt, Steps p.tables e below (s₁.setTop (mkF m 1 #[.val (.int p1)] [(.int p1)])) tt → Steps p.tables e below (s₁.setTop (entryFrame m #[(.int p1)] 1)) tt := by
    intro tt kt
    refine pre0 tt ?_
    show Steps p.tables e below (s₁.setTop (mkF m 0 #[.val (.int p1)] [])) _
    refine XS.iloadN X0.here hx rfl (hb hby d1_0) rfl ?_
    exact kt
  by_cases c1_2 : p1 = (0 : Int32)
  · obtain ⟨T3, X3, e3, st3⟩ := getS2 X0 hx hZ hown (host := "") (Or.inl (hw _ (List.mem_of_getElem? (i := 5) rfl))) Via.refl e0 S_GUEST (g := (mkF m 4 #[.val (.int p1)] [])) rfl (hb hby d1_4)
    have pre4 : ∀ tt, Steps p.tables e below (T3.setTop (mkF m 7 #[.val (.int p1)] [(.ref w_GUEST)])) tt → Steps p.tables e below (s₁.setTop (entryFrame m #[(.int p1)] 1)) tt := by
      intro tt kt
      refine pre1 tt ?_
      show Steps p.tables e below (s₁.setTop (mkF m 1 #[.val (.int p1)] [(.int p1)])) _
      refine XS.ifNo X0.here hx rfl (hb hby d1_1) rfl ((if0 _ _).trans (teq c1_2).2) ?_
      show Steps p.tables e below (s₁.setTop (mkF m 4 #[.val (.int p1)] [])) _
      refine st3 _ ?_
      exact kt
    obtain ⟨fs, hr, hrun, hended, hW, hsame⟩ := X3.leave (v := some (.ref w_GUEST)) (fun h => by rw [Bd.returns] at h; cases h)
    refine ⟨_, _, pre4 _ ?_, hrun, hended, _, _, rfl, ?_, ⟨_, rfl⟩, hW, hsame.mono (by decide) (by decide)⟩
    · show Steps p.tables e below (T3.setTop (mkF m 7 #[.val (.int p1)] [(.ref w_GUEST)])) _
      jvm_step X3.here [X3.here.top, hx, (hb hby d1_7), X3.method', Bd.returns, Value.isRef, FieldType.isReference]
      first | (intro acts; rw [hr _ acts rfl rfl rfl]) | rw [hr _ _ rfl rfl rfl]
      exact Steps.refl _
    · show QR Z r h0 n0 _ T3.heap _
      rw [e3]
      exact ⟨by rw [hr0]; simp [own_pick, c1_2], N0, rfl⟩
  · have pre5 : ∀ tt, Steps p.tables e below (s₁.setTop (mkF m 10 #[.val (.int p1)] [(.int (1 : Int32)), (.int p1)])) tt → Steps p.tables e below (s₁.setTop (entryFrame m #[(.int p1)] 1)) tt := by
      intro tt kt
      refine pre1 tt ?_
      show Steps p.tables e below (s₁.setTop (mkF m 1 #[.val (.int p1)] [(.int p1)])) _
      refine XS.ifYes X0.here hx rfl (pc0 := 1) (pc' := 8) rfl (hb hby d1_1) rfl ((if0 _ _).trans (feq c1_2).2) (by decide) (by decide) ?_
      show Steps p.tables e below (s₁.setTop (mkF m 8 #[.val (.int p1)] [])) _
      refine XS.iloadN X0.here hx rfl (hb hby d1_8) rfl ?_
      show Steps p.tables e below (s₁.setTop (mkF m 9 #[.val (.int p1)] [(.int p1)])) _
      refine XS.iconst X0.here hx rfl (hb hby d1_9) ?_
      exact kt
    by_cases c10_6 : p1 = (1 : Int32)
    · obtain ⟨T7, X7, e7, st7⟩ := getS2 X0 hx hZ hown (host := "") (Or.inl (hw _ (List.mem_of_getElem? (i := 19) rfl))) Via.refl e0 S_REPORTER (g := (mkF m 13 #[.val (.int p1)] [])) rfl (hb hby d1_13)
      have pre8 : ∀ tt, Steps p.tables e below (T7.setTop (mkF m 16 #[.val (.int p1)] [(.ref w_REPORTER)])) tt → Steps p.tables e below (s₁.setTop (entryFrame m #[(.int p1)] 1)) tt := by
        intro tt kt
        refine pre5 tt ?_
        show Steps p.tables e below (s₁.setTop (mkF m 10 #[.val (.int p1)] [(.int (1 : Int32)), (.int p1)])) _
        refine XS.icmpNo X0.here hx rfl (hb hby d1_10) rfl (teq c10_6).2 ?_
        show Steps p.tables e below (s₁.setTop (mkF m 13 #[.val (.int p1)] [])) _
        refine st7 _ ?_
        exact kt
      obtain ⟨fs, hr, hrun, hended, hW, hsame⟩ := X7.leave (v := some (.ref w_REPORTER)) (fun h => by rw [Bd.returns] at h; cases h)
      refine ⟨_, _, pre8 _ ?_, hrun, hended, _, _, rfl, ?_, ⟨_, rfl⟩, hW, hsame.mono (by decide) (by decide)⟩
      · show Steps p.tables e below (T7.setTop (mkF m 16 #[.val (.int p1)] [(.ref w_REPORTER)])) _
        jvm_step X7.here [X7.here.top, hx, (hb hby d1_16), X7.method', Bd.returns, Value.isRef, FieldType.isReference]
        first | (intro acts; rw [hr _ acts rfl rfl rfl]) | rw [hr _ _ rfl rfl rfl]
        exact Steps.refl _
      · show QR Z r h0 n0 _ T7.heap _
        rw [e7]
        exact ⟨by rw [hr0]; simp [own_pick, c1_2, c10_6], N0, rfl⟩
    · have pre9 : ∀ tt, Steps p.tables e below (s₁.setTop (mkF m 19 #[.val (.int p1)] [(.int (2 : Int32)), (.int p1)])) tt → Steps p.tables e below (s₁.setTop (entryFrame m #[(.int p1)] 1)) tt := by
        intro tt kt
        refine pre5 tt ?_
        show Steps p.tables e below (s₁.setTop (mkF m 10 #[.val (.int p1)] [(.int (1 : Int32)), (.int p1)])) _
        refine XS.icmpYes X0.here hx rfl (pc0 := 10) (pc' := 17) rfl (hb hby d1_10) rfl (feq c10_6).2 (by decide) (by decide) ?_
        show Steps p.tables e below (s₁.setTop (mkF m 17 #[.val (.int p1)] [])) _
        refine XS.iloadN X0.here hx rfl (hb hby d1_17) rfl ?_
        show Steps p.tables e below (s₁.setTop (mkF m 18 #[.val (.int p1)] [(.int p1)])) _
        refine XS.iconst X0.here hx rfl (hb hby d1_18) ?_
        exact kt
      by_cases c19_10 : p1 = (2 : Int32)
      · obtain ⟨T11, X11, e11, st11⟩ := getS2 X0 hx hZ hown (host := "") (Or.inl (hw _ (List.mem_of_getElem? (i := 21) rfl))) Via.refl e0 S_DEVELOPER (g := (mkF m 22 #[.val (.int p1)] [])) rfl (hb hby d1_22)
        have pre12 : ∀ tt, Steps p.tables e below (T11.setTop (mkF m 25 #[.val (.int p1)] [(.ref w_DEVELOPER)])) tt → Steps p.tables e below (s₁.setTop (entryFrame m #[(.int p1)] 1)) tt := by
          intro tt kt
          refine pre9 tt ?_
          show Steps p.tables e below (s₁.setTop (mkF m 19 #[.val (.int p1)] [(.int (2 : Int32)), (.int p1)])) _
          refine XS.icmpNo X0.here hx rfl (hb hby d1_19) rfl (teq c19_10).2 ?_
          show Steps p.tables e below (s₁.setTop (mkF m 22 #[.val (.int p1)] [])) _
          refine st11 _ ?_
          exact kt
        obtain ⟨fs, hr, hrun, hended, hW, hsame⟩ := X11.leave (v := some (.ref w_DEVELOPER)) (fun h => by rw [Bd.returns] at h; cases h)
        refine ⟨_, _, pre12 _ ?_, hrun, hended, _, _, rfl, ?_, ⟨_, rfl⟩, hW, hsame.mono (by decide) (by decide)⟩
        · show Steps p.tables e below (T11.setTop (mkF m 25 #[.val (.int p1)] [(.ref w_DEVELOPER)])) _
          jvm_step X11.here [X11.here.top, hx, (hb hby d1_25), X11.method', Bd.returns, Value.isRef, FieldType.isReference]
          first | (intro acts; rw [hr _ acts rfl rfl rfl]) | rw [hr _ _ rfl rfl rfl]
          exact Steps.refl _
        · show QR Z r h0 n0 _ T11.heap _
          rw [e11]
          exact ⟨by rw [hr0]; simp [own_pick, c1_2, c10_6, c19_10], N0, rfl⟩
      · have pre13 : ∀ tt, Steps p.tables e below (s₁.setTop (mkF m 28 #[.val (.int p1)] [(.int (3 : Int32)), (.int p1)])) tt → Steps p.tables e below (s₁.setTop (entryFrame m #[(.int p1)] 1)) tt := by
          intro tt kt
          refine pre9 tt ?_
          show Steps p.tables e below (s₁.setTop (mkF m 19 #[.val (.int p1)] [(.int (2 : Int32)), (.int p1)])) _
          refine XS.icmpYes X0.here hx rfl (pc0 := 19) (pc' := 26) rfl (hb hby d1_19) rfl (feq c19_10).2 (by decide) (by decide) ?_
          show Steps p.tables e below (s₁.setTop (mkF m 26 #[.val (.int p1)] [])) _
          refine XS.iloadN X0.here hx rfl (hb hby d1_26) rfl ?_
          show Steps p.tables e below (s₁.setTop (mkF m 27 #[.val (.int p1)] [(.int p1)])) _
          refine XS.iconst X0.here hx rfl (hb hby d1_27) ?_
          exact kt
        by_cases c28_14 : p1 = (3 : Int32)
        · obtain ⟨T15, X15, e15, st15⟩ := getS2 X0 hx hZ hown (host := "") (Or.inl (hw _ (List.mem_of_getElem? (i := 8) rfl))) Via.refl e0 S_MAINTAINER (g := (mkF m 31 #[.val (.int p1)] [])) rfl (hb hby d1_31)
          have pre16 : ∀ tt, Steps p.tables e below (T15.setTop (mkF m 34 #[.val (.int p1)] [(.ref w_MAINTAINER)])) tt → Steps p.tables e below (s₁.setTop (entryFrame m #[(.int p1)] 1)) tt := by
            intro tt kt
            refine pre13 tt ?_
            show Steps p.tables e below (s₁.setTop (mkF m 28 #[.val (.int p1)] [(.int (3 : Int32)), (.int p1)])) _
            refine XS.icmpNo X0.here hx rfl (hb hby d1_28) rfl (teq c28_14).2 ?_
            show Steps p.tables e below (s₁.setTop (mkF m 31 #[.val (.int p1)] [])) _
            refine st15 _ ?_
            exact kt
          obtain ⟨fs, hr, hrun, hended, hW, hsame⟩ := X15.leave (v := some (.ref w_MAINTAINER)) (fun h => by rw [Bd.returns] at h; cases h)
          refine ⟨_, _, pre16 _ ?_, hrun, hended, _, _, rfl, ?_, ⟨_, rfl⟩, hW, hsame.mono (by decide) (by decide)⟩
          · show Steps p.tables e below (T15.setTop (mkF m 34 #[.val (.int p1)] [(.ref w_MAINTAINER)])) _
            jvm_step X15.here [X15.here.top, hx, (hb hby d1_34), X15.method', Bd.returns, Value.isRef, FieldType.isReference]
            first | (intro acts; rw [hr _ acts rfl rfl rfl]) | rw [hr _ _ rfl rfl rfl]
            exact Steps.refl _
          · show QR Z r h0 n0 _ T15.heap _
            rw [e15]
            exact ⟨by rw [hr0]; simp [own_pick, c1_2, c10_6, c19_10, c28_14], N0, rfl⟩
        · obtain ⟨T17, X17, e17, st17⟩ := getS2 X0 hx hZ hown (host := "") (Or.inl (hw _ (List.mem_of_getElem? (i := 17) rfl))) Via.refl e0 S_OWNER (g := (mkF m 35 #[.val (.int p1)] [])) rfl (hb hby d1_35)
          have pre18 : ∀ tt, Steps p.tables e below (T17.setTop (mkF m 38 #[.val (.int p1)] [(.ref w_OWNER)])) tt → Steps p.tables e below (s₁.setTop (entryFrame m #[(.int p1)] 1)) tt := by
            intro tt kt
            refine pre13 tt ?_
            show Steps p.tables e below (s₁.setTop (mkF m 28 #[.val (.int p1)] [(.int (3 : Int32)), (.int p1)])) _
            refine XS.icmpYes X0.here hx rfl (pc0 := 28) (pc' := 35) rfl (hb hby d1_28) rfl (feq c28_14).2 (by decide) (by decide) ?_
            show Steps p.tables e below (s₁.setTop (mkF m 35 #[.val (.int p1)] [])) _
            refine st17 _ ?_
            exact kt
          obtain ⟨fs, hr, hrun, hended, hW, hsame⟩ := X17.leave (v := some (.ref w_OWNER)) (fun h => by rw [Bd.returns] at h; cases h)
          refine ⟨_, _, pre18 _ ?_, hrun, hended, _, _, rfl, ?_, ⟨_, rfl⟩, hW, hsame.mono (by decide) (by decide)⟩
          · show Steps p.tables e below (T17.setTop (mkF m 38 #[.val (.int p1)] [(.ref w_OWNER)])) _
            jvm_step X17.here [X17.here.top, hx, (hb hby d1_38), X17.method', Bd.returns, Value.isRef, FieldType.isReference]
            first | (intro acts; rw [hr _ acts rfl rfl rfl]) | rw [hr _ _ rfl rfl rfl]
            exact Steps.refl _
          · show QR Z r h0 n0 _ T17.heap _
            rw [e17]
            exact ⟨by rw [hr0]; simp [own_pick, c1_2, c10_6, c19_10, c28_14], N0, rfl⟩
theorem d2_0 : decode prog_1_method_5_code 0 = .ok (.aload_n 0, 1) := by decide +kernel
theorem d2_1 : decode prog_1_method_5_code 1 = .ok (.getfield 38, 3) := by decide +kernel
theorem d2_4 : decode prog_1_method_5_code 4 = .ok (.aload_n 1, 1) := by decide +kernel
theorem d2_5 : decode prog_1_method_5_code 5 = .ok (.getfield 38, 3) := by decide +kernel
theorem d2_8 : decode prog_1_method_5_code 8 = .ok (.if_icmp .lt 7, 3) := by decide +kernel
theorem d2_11 : decode prog_1_method_5_code 11 = .ok (.iconst 1, 1) := by decide +kernel
theorem d2_12 : decode prog_1_method_5_code 12 = .ok (.goto 4, 3) := by decide +kernel
theorem d2_15 : decode prog_1_method_5_code 15 = .ok (.iconst 0, 1) := by decide +kernel
theorem d2_16 : decode prog_1_method_5_code 16 = .ok (.ireturn, 1) := by decide +kernel
theorem pn_rm2 : plainName "com/example/wee_forge/weeforge/model/AccessLevel" = true := by first | (simp [plainName, overriddenIn]; done) | decide +kernel
theorem ef_rm2 (m : MethodId) (a1 : Addr) (a2 : Addr) : entryFrame m #[(.ref a1), (.ref a2)] 2 = mkF m 0 #[.val (.ref a1), .val (.ref a2)] [] := by first | (simp [entryFrame, mkF, argsToLocals, Value.category]; done) | rfl
set_option maxRecDepth 65536 in
set_option maxHeartbeats 40000000 in
theorem rm2 (l : Launch) (Z : State) (a0 : Array Value) (hw : ∀ d ∈ tables_1, d.before a0 Z = true) (ws : List Jvm.Cond) (a1 a2 : Addr) (v1 v2 r : Int32) (h0 : Heap) (n0 : Nat) (Z0 : n0 ≤ h0.size) (F_a1 : Fld Z h0 a1 "com/example/wee_forge/weeforge/model/AccessLevel" "value" "I" (.int v1)) (F_a2 : Fld Z h0 a2 "com/example/wee_forge/weeforge/model/AccessLevel" "value" "I" (.int v2)) (hr0 : r = if v1 < v2 then (0 : Int32) else 1) :
    MetFree l (⟨"com/example/wee_forge/weeforge/model/AccessLevel", "atLeast", "(Lcom/example/wee_forge/weeforge/model/AccessLevel;)Z"⟩ : MethodName) (head1 (Jvm.Cond.code (⟨"com/example/wee_forge/weeforge/model/AccessLevel", "atLeast", "(Lcom/example/wee_forge/weeforge/model/AccessLevel;)Z"⟩ : MethodName) prog_1_method_5_code 2 (some .boolean) :: ws) ({ frames := 0, cells := 0, slots := 0, locals := 0 } : Room)) (fun a U => a = #[(.ref a1), (.ref a2)] ∧ Z.Warmed39 U.vm ∧ U.heap = h0) (fun _ _ _ _ _ => True) (fun _ U o U' => ∃ v L, o = .returned v ∧ QI Z r h0 n0 v U'.heap L ∧ FrameEnd U o U' L ({ frames := 0, cells := 0, slots := 0, locals := 0 } : Room).cells ({ frames := 0, cells := 0, slots := 0, locals := 0 } : Room).slots) := by
  refine MetFree.of_bodySF (plainFor_of_name pn_rm2) hisR ?_
  intro p e s m args below meth c s₁ Bd hml0 hP hK
  obtain ⟨rfl, hZ, hh⟩ := hP
  have hx := Bd.exec
  have hby := Bd.bytes
  have hml : c.maxLocals = 2 := hml0
  have hown : s.vm.findClass "com/example/wee_forge/weeforge/model/AccessLevel" = some m.cls := findClass_of_methodNamed Bd.named
  have hnm := (name_of_methodNamed Bd.named Bd.method).1
  have X0 : Stand p l e ({ frames := 0, cells := 0, slots := 0, locals := 0 } : Room) s m #[(.ref a1), (.ref a2)] below meth c s₁ [] 0 0 := Stand.of_body Bd
  have e0 : s₁.heap = h0 := by rw [← hh, Bd.state]; rfl
  have N0 := Fr.nil n0
  have pre0 : ∀ tt, Steps p.tables e below (s₁.setTop (mkF m 0 #[.val (.ref a1), .val (.ref a2)] [])) tt → Steps p.tables e below (s₁.setTop (entryFrame m #[(.ref a1), (.ref a2)] 2)) tt := fun tt kt => castTop (ef_rm2 m a1 a2) kt
  obtain ⟨T1, X1, e1, st1⟩ := getF X0 hx hZ hown (host := "") (Or.inl (hw _ (List.mem_of_getElem? (i := 15) rfl))) Via.refl e0 F_a1 (g := (mkF m 1 #[.val (.ref a1), .val (.ref a2)] [(.ref a1)])) rfl rfl (hb hby d2_1)
  obtain ⟨T2, X2, e2, st2⟩ := getF X1 hx hZ hown (host := "") (Or.inl (hw _ (List.mem_of_getElem? (i := 15) rfl))) Via.refl e1 F_a2 (g := (mkF m 5 #[.val (.ref a1), .val (.ref a2)] [(.ref a2), (.int v1)])) rfl rfl (hb hby d2_5)
  have pre3 : ∀ tt, Steps p.tables e below (T2.setTop (mkF m 8 #[.val (.ref a1), .val (.ref a2)] [(.int v2), (.int v1)])) tt → Steps p.tables e below (s₁.setTop (entryFrame m #[(.ref a1), (.ref a2)] 2)) tt := by
    intro tt kt
    refine pre0 tt ?_
    show Steps p.tables e below (s₁.setTop (mkF m 0 #[.val (.ref a1), .val (.ref a2)] [])) _
    refine XS.aloadN X0.here hx rfl (hb hby d2_0) rfl rfl ?_
    show Steps p.tables e below (s₁.setTop (mkF m 1 #[.val (.ref a1), .val (.ref a2)] [(.ref a1)])) _
    refine st1 _ ?_
    show Steps p.tables e below (T1.setTop (mkF m 4 #[.val (.ref a1), .val (.ref a2)] [(.int v1)])) _
    refine XS.aloadN X1.here hx rfl (hb hby d2_4) rfl rfl ?_
    show Steps p.tables e below (T1.setTop (mkF m 5 #[.val (.ref a1), .val (.ref a2)] [(.ref a2), (.int v1)])) _
    refine st2 _ ?_
    exact kt
  by_cases c8_4 : v1 < v2
  · have pre5 : ∀ tt, Steps p.tables e below (T2.setTop (mkF m 16 #[.val (.ref a1), .val (.ref a2)] [(.int (0 : Int32))])) tt → Steps p.tables e below (s₁.setTop (entryFrame m #[(.ref a1), (.ref a2)] 2)) tt := by
      intro tt kt
      refine pre3 tt ?_
      show Steps p.tables e below (T2.setTop (mkF m 8 #[.val (.ref a1), .val (.ref a2)] [(.int v2), (.int v1)])) _
      refine XS.icmpYes X2.here hx rfl (pc0 := 8) (pc' := 15) rfl (hb hby d2_8) rfl (tlt c8_4).1 (by decide) (by decide) ?_
      show Steps p.tables e below (T2.setTop (mkF m 15 #[.val (.ref a1), .val (.ref a2)] [])) _
      refine XS.iconst X2.here hx rfl (hb hby d2_15) ?_
      exact kt
    obtain ⟨fs, hr, hrun, hended, hW, hsame⟩ := X2.leave (v := some (.int (0 : Int32))) (fun h => by rw [Bd.returns] at h; cases h)
    refine ⟨_, _, pre5 _ ?_, hrun, hended, _, _, rfl, ?_, ⟨_, rfl⟩, hW, hsame.mono (by decide) (by decide)⟩
    · show Steps p.tables e below (T2.setTop (mkF m 16 #[.val (.ref a1), .val (.ref a2)] [(.int (0 : Int32))])) _
      exact retN X2 hx (t := .boolean) Bd.returns (by simp) (hb hby d2_16) hr
    · show QI Z r h0 n0 _ T2.heap _
      rw [e2]
      exact ⟨by rw [hr0, if_pos c8_4], N0, rfl⟩
  · have pre6 : ∀ tt, Steps p.tables e below (T2.setTop (mkF m 16 #[.val (.ref a1), .val (.ref a2)] [(.int (1 : Int32))])) tt → Steps p.tables e below (s₁.setTop (entryFrame m #[(.ref a1), (.ref a2)] 2)) tt := by
      intro tt kt
      refine pre3 tt ?_
      show Steps p.tables e below (T2.setTop (mkF m 8 #[.val (.ref a1), .val (.ref a2)] [(.int v2), (.int v1)])) _
      refine XS.icmpNo X2.here hx rfl (hb hby d2_8) rfl (flt c8_4).1 ?_
      show Steps p.tables e below (T2.setTop (mkF m 11 #[.val (.ref a1), .val (.ref a2)] [])) _
      refine XS.iconst X2.here hx rfl (hb hby d2_11) ?_
      show Steps p.tables e below (T2.setTop (mkF m 12 #[.val (.ref a1), .val (.ref a2)] [(.int (1 : Int32))])) _
      refine XS.goto X2.here hx rfl (pc0 := 12) (pc' := 16) rfl (hb hby d2_12) (by decide) (by decide) ?_
      exact kt
    obtain ⟨fs, hr, hrun, hended, hW, hsame⟩ := X2.leave (v := some (.int (1 : Int32))) (fun h => by rw [Bd.returns] at h; cases h)
    refine ⟨_, _, pre6 _ ?_, hrun, hended, _, _, rfl, ?_, ⟨_, rfl⟩, hW, hsame.mono (by decide) (by decide)⟩
    · show Steps p.tables e below (T2.setTop (mkF m 16 #[.val (.ref a1), .val (.ref a2)] [(.int (1 : Int32))])) _
      exact retN X2 hx (t := .boolean) Bd.returns (by simp) (hb hby d2_16) hr
    · show QI Z r h0 n0 _ T2.heap _
      rw [e2]
      exact ⟨by rw [hr0, if_neg c8_4], N0, rfl⟩
def Q0 (Z : State) (h0 : Heap) (n0 : Nat) (v : Option Value) (h : Heap) (L : List Loc) : Prop := v = some (.int (1 : Int32)) ∧ Fr n0 L
theorem pn_rm0 : plainName "com/example/wee_forge/weeforge/model/AccessLevelAtLeastPinLaw" = true := by first | (simp [plainName, overriddenIn]; done) | decide +kernel
theorem pd_rm0_0 : parseMethodDescriptor "(I)Lcom/example/wee_forge/weeforge/model/AccessLevel;" = some ⟨[.int], some (.object "com/example/wee_forge/weeforge/model/AccessLevel")⟩ := by decide +kernel
theorem pd_rm0_1 : parseMethodDescriptor "(Lcom/example/wee_forge/weeforge/model/AccessLevel;)Z" = some ⟨[(.object "com/example/wee_forge/weeforge/model/AccessLevel")], some .boolean⟩ := by decide +kernel
theorem ef_rm0 (m : MethodId) (p1 : Int32) (p2 : Int32) : entryFrame m #[(.int p1), (.int p2)] maxLocals = mkF m 0 #[.val (.int p1), .val (.int p2), .unset, .unset, .unset, .unset, .unset] [] := by first | (simp [entryFrame, mkF, argsToLocals, Value.category, maxLocals]; done) | rfl
set_option maxRecDepth 65536 in
set_option maxHeartbeats 40000000 in
theorem rm0 (l : Launch) (Z : State) (a0 : Array Value) (hw : ∀ d ∈ tables_1, d.before a0 Z = true) (ws : List Jvm.Cond) (p1 p2 : Int32) (w_GUEST w_REPORTER w_DEVELOPER w_MAINTAINER w_OWNER : Addr) (h0 : Heap) (n0 : Nat) (Z0 : n0 ≤ h0.size) (S_GUEST : Sta Z h0 "com/example/wee_forge/weeforge/model/AccessLevel" "GUEST" "Lcom/example/wee_forge/weeforge/model/AccessLevel;" (.ref w_GUEST)) (S_REPORTER : Sta Z h0 "com/example/wee_forge/weeforge/model/AccessLevel" "REPORTER" "Lcom/example/wee_forge/weeforge/model/AccessLevel;" (.ref w_REPORTER)) (S_DEVELOPER : Sta Z h0 "com/example/wee_forge/weeforge/model/AccessLevel" "DEVELOPER" "Lcom/example/wee_forge/weeforge/model/AccessLevel;" (.ref w_DEVELOPER)) (S_MAINTAINER : Sta Z h0 "com/example/wee_forge/weeforge/model/AccessLevel" "MAINTAINER" "Lcom/example/wee_forge/weeforge/model/AccessLevel;" (.ref w_MAINTAINER)) (S_OWNER : Sta Z h0 "com/example/wee_forge/weeforge/model/AccessLevel" "OWNER" "Lcom/example/wee_forge/weeforge/model/AccessLevel;" (.ref w_OWNER)) (E_GUEST : Exa Z h0 w_GUEST "com/example/wee_forge/weeforge/model/AccessLevel") (E_REPORTER : Exa Z h0 w_REPORTER "com/example/wee_forge/weeforge/model/AccessLevel") (E_DEVELOPER : Exa Z h0 w_DEVELOPER "com/example/wee_forge/weeforge/model/AccessLevel") (E_MAINTAINER : Exa Z h0 w_MAINTAINER "com/example/wee_forge/weeforge/model/AccessLevel") (E_OWNER : Exa Z h0 w_OWNER "com/example/wee_forge/weeforge/model/AccessLevel") (F_GUEST_value : Fld Z h0 w_GUEST "com/example/wee_forge/weeforge/model/AccessLevel" "value" "I" (.int (10 : Int32))) (F_REPORTER_value : Fld Z h0 w_REPORTER "com/example/wee_forge/weeforge/model/AccessLevel" "value" "I" (.int (20 : Int32))) (F_DEVELOPER_value : Fld Z h0 w_DEVELOPER "com/example/wee_forge/weeforge/model/AccessLevel" "value" "I" (.int (30 : Int32))) (F_MAINTAINER_value : Fld Z h0 w_MAINTAINER "com/example/wee_forge/weeforge/model/AccessLevel" "value" "I" (.int (40 : Int32))) (F_OWNER_value : Fld Z h0 w_OWNER "com/example/wee_forge/weeforge/model/AccessLevel" "value" "I" (.int (50 : Int32))) :
    MetFree l x (head1 (Jvm.Cond.code x code maxLocals ret :: ws) room_1) (fun a U => a = #[(.int p1), (.int p2)] ∧ Z.Warmed39 U.vm ∧ U.heap = h0) (fun _ _ _ _ _ => True) (fun _ U o U' => ∃ v L, o = .returned v ∧ Q0 Z h0 n0 v U'.heap L ∧ FrameEnd U o U' L room_1.cells room_1.slots) := by
  refine MetFree.of_bodySF (plainFor_of_name pn_rm0) hisR ?_
  intro p e s m args below meth c s₁ Bd hml0 hP hK
  obtain ⟨rfl, hZ, hh⟩ := hP
  have hx := Bd.exec
  have hby := Bd.bytes
  have hml : c.maxLocals = 7 := hml0
  have hown : s.vm.findClass "com/example/wee_forge/weeforge/model/AccessLevelAtLeastPinLaw" = some m.cls := findClass_of_methodNamed Bd.named
  have hnm := (name_of_methodNamed Bd.named Bd.method).1
  have X0 : Stand p l e room_1 s m #[(.int p1), (.int p2)] below meth c s₁ [] 0 0 := Stand.of_body Bd
  have e0 : s₁.heap = h0 := by rw [← hh, Bd.state]; rfl
  have N0 := Fr.nil n0
  have pre0 : ∀ tt, Steps p.tables e below (s₁.setTop (mkF m 0 #[.val (.int p1), .val (.int p2), .unset, .unset, .unset, .unset, .unset] [])) tt → Steps p.tables e below (s₁.setTop (entryFrame m #[(.int p1), (.int p2)] maxLocals)) tt := fun tt kt => castTop (ef_rm0 m p1 p2) kt
  obtain ⟨ia, hia⟩ : ∃ z : Int32, z = ((p1 &&& (2147483647 : Int32)) % (5 : Int32)) := ⟨_, rfl⟩
  have pre1 : ∀ tt, Steps p.tables e below (s₁.setTop (mkF m 6 #[.val (.int p1), .val (.int p2), .unset, .unset, .unset, .unset, .unset] [(.int ia)])) tt → Steps p.tables e below (s₁.setTop (entryFrame m #[(.int p1), (.int p2)] maxLocals)) tt := by
    intro tt kt
    refine pre0 tt ?_
    show Steps p.tables e below (s₁.setTop (mkF m 0 #[.val (.int p1), .val (.int p2), .unset, .unset, .unset, .unset, .unset] [])) _
    refine XS.iloadN X0.here hx rfl (hb hby at_0) rfl ?_
    show Steps p.tables e below (s₁.setTop (mkF m 1 #[.val (.int p1), .val (.int p2), .unset, .unset, .unset, .unset, .unset] [(.int p1)])) _
    refine X0.ldcInt hx hown (mvT hZ (hw _ (List.mem_of_getElem? (i := 0) rfl))) (g := (mkF m 1 #[.val (.int p1), .val (.int p2), .unset, .unset, .unset, .unset, .unset] [(.int p1)])) rfl (hb hby at_1) _ ?_
    show Steps p.tables e below (s₁.setTop (mkF m 3 #[.val (.int p1), .val (.int p2), .unset, .unset, .unset, .unset, .unset] [(.int (2147483647 : Int32)), (.int p1)])) _
    refine XS.iand X0.here hx rfl (hb hby at_3) rfl ?_
    show Steps p.tables e below (s₁.setTop (mkF m 4 #[.val (.int p1), .val (.int p2), .unset, .unset, .unset, .unset, .unset] [(.int (p1 &&& (2147483647 : Int32)))])) _
    refine XS.iconst X0.here hx rfl (hb hby at_4) ?_
    show Steps p.tables e below (s₁.setTop (mkF m 5 #[.val (.int p1), .val (.int p2), .unset, .unset, .unset, .unset, .unset] [(.int (5 : Int32)), (.int (p1 &&& (2147483647 : Int32)))])) _
    refine iremM (g := (mkF m 5 #[.val (.int p1), .val (.int p2), .unset, .unset, .unset, .unset, .unset] [(.int (5 : Int32)), (.int (p1 &&& (2147483647 : Int32)))])) X0 hx rfl (hb hby at_5) rfl (by decide : ¬ ((5 : Int32) = (0 : Int32))) ?_
    show Steps p.tables e below (s₁.setTop (mkF m 6 #[.val (.int p1), .val (.int p2), .unset, .unset, .unset, .unset, .unset] [(.int ((p1 &&& (2147483647 : Int32)) % (5 : Int32)))])) _
    rw [← hia]
    exact kt
  have ra := own_of5 (own_rem p1 (5 : Int32) (by decide))
  rw [← hia] at ra
  clear hia
  obtain ⟨ib, hib⟩ : ∃ z : Int32, z = ((p2 &&& (2147483647 : Int32)) % (5 : Int32)) := ⟨_, rfl⟩
  have pre2 : ∀ tt, Steps p.tables e below (s₁.setTop (mkF m 13 #[.val (.int p1), .val (.int p2), .val (.int ia), .unset, .unset, .unset, .unset] [(.int ib)])) tt → Steps p.tables e below (s₁.setTop (entryFrame m #[(.int p1), (.int p2)] maxLocals)) tt := by
    intro tt kt
    refine pre1 tt ?_
    show Steps p.tables e below (s₁.setTop (mkF m 6 #[.val (.int p1), .val (.int p2), .unset, .unset, .unset, .unset, .unset] [(.int ia)])) _
    refine XS.istoreN X0.here hx rfl (hb hby at_6) rfl (l' := #[.val (.int p1), .val (.int p2), .val (.int ia), .unset, .unset, .unset, .unset]) rfl ?_
    show Steps p.tables e below (s₁.setTop (mkF m 7 #[.val (.int p1), .val (.int p2), .val (.int ia), .unset, .unset, .unset, .unset] [])) _
    refine XS.iloadN X0.here hx rfl (hb hby at_7) rfl ?_
    show Steps p.tables e below (s₁.setTop (mkF m 8 #[.val (.int p1), .val (.int p2), .val (.int ia), .unset, .unset, .unset, .unset] [(.int p2)])) _
    refine X0.ldcInt hx hown (mvT hZ (hw _ (List.mem_of_getElem? (i := 0) rfl))) (g := (mkF m 8 #[.val (.int p1), .val (.int p2), .val (.int ia), .unset, .unset, .unset, .unset] [(.int p2)])) rfl (hb hby at_8) _ ?_
    show Steps p.tables e below (s₁.setTop (mkF m 10 #[.val (.int p1), .val (.int p2), .val (.int ia), .unset, .unset, .unset, .unset] [(.int (2147483647 : Int32)), (.int p2)])) _
    refine XS.iand X0.here hx rfl (hb hby at_10) rfl ?_
    show Steps p.tables e below (s₁.setTop (mkF m 11 #[.val (.int p1), .val (.int p2), .val (.int ia), .unset, .unset, .unset, .unset] [(.int (p2 &&& (2147483647 : Int32)))])) _
    refine XS.iconst X0.here hx rfl (hb hby at_11) ?_
    show Steps p.tables e below (s₁.setTop (mkF m 12 #[.val (.int p1), .val (.int p2), .val (.int ia), .unset, .unset, .unset, .unset] [(.int (5 : Int32)), (.int (p2 &&& (2147483647 : Int32)))])) _
    refine iremM (g := (mkF m 12 #[.val (.int p1), .val (.int p2), .val (.int ia), .unset, .unset, .unset, .unset] [(.int (5 : Int32)), (.int (p2 &&& (2147483647 : Int32)))])) X0 hx rfl (hb hby at_12) rfl (by decide : ¬ ((5 : Int32) = (0 : Int32))) ?_
    show Steps p.tables e below (s₁.setTop (mkF m 13 #[.val (.int p1), .val (.int p2), .val (.int ia), .unset, .unset, .unset, .unset] [(.int ((p2 &&& (2147483647 : Int32)) % (5 : Int32)))])) _
    rw [← hib]
    exact kt
  have rb := own_of5 (own_rem p2 (5 : Int32) (by decide))
  rw [← hib] at rb
  clear hib
  obtain ⟨r_ia, hr_ia⟩ : ∃ z, z = own_pick ia w_GUEST w_REPORTER w_DEVELOPER w_MAINTAINER w_OWNER := ⟨_, rfl⟩
  have F_r_ia := own_fpick (i := ia) F_GUEST_value F_REPORTER_value F_DEVELOPER_value F_MAINTAINER_value F_OWNER_value
  have E_r_ia := own_epick (i := ia) E_GUEST E_REPORTER E_DEVELOPER E_MAINTAINER E_OWNER
  rw [← hr_ia] at F_r_ia E_r_ia
  obtain ⟨_, _, ⟨T3, L3, k3, n3⟩, -, X3, ⟨Lc3, hQ3, l3, y3, z3⟩, st3⟩ := Jvm.LawKit.callS X0 hx (y := (⟨"com/example/wee_forge/weeforge/model/AccessLevelAtLeastPinLaw", "pick", "(I)Lcom/example/wee_forge/weeforge/model/AccessLevel;"⟩ : MethodName)) hown (mvT hZ (hw _ (List.mem_of_getElem? (i := 1) rfl))) (mvT hZ (hw _ (List.mem_of_getElem? (i := 2) rfl))) (mvT hZ (hw _ (List.mem_of_getElem? (i := 3) rfl))) (mvT hZ (hw _ (List.mem_of_getElem? (i := 4) rfl))) (by decide) (backOf (W := 0) (rm1 l Z a0 hw [] ia w_GUEST w_REPORTER w_DEVELOPER w_MAINTAINER w_OWNER r_ia h0 n0 Z0 S_GUEST S_REPORTER S_DEVELOPER S_MAINTAINER S_OWNER hr_ia) hZ (hw _ (List.mem_of_getElem? (i := 4) rfl)) (hw _ (List.mem_of_getElem? (i := 3) rfl)) (by decide) (by decide)) (g := (mkF m 15 #[.val (.int p1), .val (.int p2), .val (.int ia), .val (.int ib), .unset, .unset, .unset] [(.int ia)])) rfl (by rw [hml]; rfl) (argsL := [(.int ia)]) (rest := []) (lenOf pd_rm0_0 rfl) rfl (by show 2 * 0 + _ ≤ _; exact Nat.le_of_eq rfl) (hb hby at_15) (fun _ _ => ⟨rfl, e0, (by decide : 0 + 0 ≤ _), (by decide : 0 + 0 ≤ _)⟩)
  dsimp only [Pt.U, Pt.locs, Pt.cells, Pt.slots] at X3 l3 y3 z3 st3 hQ3
  subst l3 y3 z3
  obtain ⟨rfl, N3q, hE3⟩ := hQ3
  have N3 := Fr.app N0 N3q
  obtain ⟨r_ib, hr_ib⟩ : ∃ z, z = own_pick ib w_GUEST w_REPORTER w_DEVELOPER w_MAINTAINER w_OWNER := ⟨_, rfl⟩
  have F_r_ib := own_fpick (i := ib) F_GUEST_value F_REPORTER_value F_DEVELOPER_value F_MAINTAINER_value F_OWNER_value
  have E_r_ib := own_epick (i := ib) E_GUEST E_REPORTER E_DEVELOPER E_MAINTAINER E_OWNER
  rw [← hr_ib] at F_r_ib E_r_ib
  obtain ⟨_, _, ⟨T4, L4, k4, n4⟩, -, X4, ⟨Lc4, hQ4, l4, y4, z4⟩, st4⟩ := Jvm.LawKit.callS X3 hx (y := (⟨"com/example/wee_forge/weeforge/model/AccessLevelAtLeastPinLaw", "pick", "(I)Lcom/example/wee_forge/weeforge/model/AccessLevel;"⟩ : MethodName)) hown (mvT hZ (hw _ (List.mem_of_getElem? (i := 1) rfl))) (mvT hZ (hw _ (List.mem_of_getElem? (i := 2) rfl))) (mvT hZ (hw _ (List.mem_of_getElem? (i := 3) rfl))) (mvT hZ (hw _ (List.mem_of_getElem? (i := 4) rfl))) (by decide) (backOf (W := 0) (rm1 l Z a0 hw [] ib w_GUEST w_REPORTER w_DEVELOPER w_MAINTAINER w_OWNER r_ib h0 n0 Z0 S_GUEST S_REPORTER S_DEVELOPER S_MAINTAINER S_OWNER hr_ib) hZ (hw _ (List.mem_of_getElem? (i := 4) rfl)) (hw _ (List.mem_of_getElem? (i := 3) rfl)) (by decide) (by decide)) (g := (mkF m 21 #[.val (.int p1), .val (.int p2), .val (.int ia), .val (.int ib), .val (.ref r_ia), .unset, .unset] [(.int ib)])) rfl (by rw [hml]; rfl) (argsL := [(.int ib)]) (rest := []) (lenOf pd_rm0_0 rfl) rfl (by show 2 * 0 + _ ≤ _; exact Nat.le_of_eq rfl) (hb hby at_21) (fun _ _ => ⟨rfl, hE3, (by decide : 0 + 0 ≤ _), (by decide : 0 + 0 ≤ _)⟩)
  dsimp only [Pt.U, Pt.locs, Pt.cells, Pt.slots] at X4 l4 y4 z4 st4 hQ4
  subst l4 y4 z4
  obtain ⟨rfl, N4q, hE4⟩ := hQ4
  have N4 := Fr.app N3 N4q
  have pre5 : ∀ tt, Steps p.tables e below (T4.setTop (mkF m 28 #[.val (.int p1), .val (.int p2), .val (.int ia), .val (.int ib), .val (.ref r_ia), .val (.ref r_ib), .unset] [(.int ib), (.int ia)])) tt → Steps p.tables e below (s₁.setTop (entryFrame m #[(.int p1), (.int p2)] maxLocals)) tt := by
    intro tt kt
    refine pre2 tt ?_
    show Steps p.tables e below (s₁.setTop (mkF m 13 #[.val (.int p1), .val (.int p2), .val (.int ia), .unset, .unset, .unset, .unset] [(.int ib)])) _
    refine XS.istoreN X0.here hx rfl (hb hby at_13) rfl (l' := #[.val (.int p1), .val (.int p2), .val (.int ia), .val (.int ib), .unset, .unset, .unset]) rfl ?_
    show Steps p.tables e below (s₁.setTop (mkF m 14 #[.val (.int p1), .val (.int p2), .val (.int ia), .val (.int ib), .unset, .unset, .unset] [])) _
    refine XS.iloadN X0.here hx rfl (hb hby at_14) rfl ?_
    show Steps p.tables e below (s₁.setTop (mkF m 15 #[.val (.int p1), .val (.int p2), .val (.int ia), .val (.int ib), .unset, .unset, .unset] [(.int ia)])) _
    refine st3 _ ?_
    show Steps p.tables e below (T3.setTop (mkF m 18 #[.val (.int p1), .val (.int p2), .val (.int ia), .val (.int ib), .unset, .unset, .unset] [(.ref r_ia)])) _
    refine XS.astore X3.here hx rfl (hb hby at_18) rfl rfl (l' := #[.val (.int p1), .val (.int p2), .val (.int ia), .val (.int ib), .val (.ref r_ia), .unset, .unset]) rfl ?_
    show Steps p.tables e below (T3.setTop (mkF m 20 #[.val (.int p1), .val (.int p2), .val (.int ia), .val (.int ib), .val (.ref r_ia), .unset, .unset] [])) _
    refine XS.iloadN X3.here hx rfl (hb hby at_20) rfl ?_
    show Steps p.tables e below (T3.setTop (mkF m 21 #[.val (.int p1), .val (.int p2), .val (.int ia), .val (.int ib), .val (.ref r_ia), .unset, .unset] [(.int ib)])) _
    refine st4 _ ?_
    show Steps p.tables e below (T4.setTop (mkF m 24 #[.val (.int p1), .val (.int p2), .val (.int ia), .val (.int ib), .val (.ref r_ia), .unset, .unset] [(.ref r_ib)])) _
    refine XS.astore X4.here hx rfl (hb hby at_24) rfl rfl (l' := #[.val (.int p1), .val (.int p2), .val (.int ia), .val (.int ib), .val (.ref r_ia), .val (.ref r_ib), .unset]) rfl ?_
    show Steps p.tables e below (T4.setTop (mkF m 26 #[.val (.int p1), .val (.int p2), .val (.int ia), .val (.int ib), .val (.ref r_ia), .val (.ref r_ib), .unset] [])) _
    refine XS.iloadN X4.here hx rfl (hb hby at_26) rfl ?_
    show Steps p.tables e below (T4.setTop (mkF m 27 #[.val (.int p1), .val (.int p2), .val (.int ia), .val (.int ib), .val (.ref r_ia), .val (.ref r_ib), .unset] [(.int ia)])) _
    refine XS.iloadN X4.here hx rfl (hb hby at_27) rfl ?_
    exact kt
  by_cases c28_6 : ia < ib
  · obtain ⟨cq7, kq7, q7a, q7b, q7c⟩ := isOf hZ hE4 E_r_ia
    obtain ⟨_, _, ⟨T7, L7, k7, n7⟩, -, X7, ⟨Lc7, hQ7, l7, y7, z7⟩, st7⟩ := X4.virtualBack hx (y := (⟨"com/example/wee_forge/weeforge/model/AccessLevel", "atLeast", "(Lcom/example/wee_forge/weeforge/model/AccessLevel;)Z"⟩ : MethodName)) (z := (⟨"com/example/wee_forge/weeforge/model/AccessLevel", "atLeast", "(Lcom/example/wee_forge/weeforge/model/AccessLevel;)Z"⟩ : MethodName)) hown (mvT hZ (hw _ (List.mem_of_getElem? (i := 10) rfl))) (mvT hZ (hw _ (List.mem_of_getElem? (i := 11) rfl))) (notFace_of_selects (args := #[]) (mvT hZ (hw _ (List.mem_of_getElem? (i := 13) rfl)))) (mvT hZ (hw _ (List.mem_of_getElem? (i := 13) rfl))) (mvT hZ (hw _ (List.mem_of_getElem? (i := 12) rfl))) (by decide) (backOf (W := 0) (rm2 l Z a0 hw [] r_ia r_ib (own_val ia) (own_val ib) (0 : Int32) h0 n0 Z0 F_r_ia F_r_ib (own_lt ra rb c28_6)) hZ (hw _ (List.mem_of_getElem? (i := 14) rfl)) (hw _ (List.mem_of_getElem? (i := 6) rfl)) (by decide) (by decide)) q7a q7c (g := (mkF m 42 #[.val (.int p1), .val (.int p2), .val (.int ia), .val (.int ib), .val (.ref r_ia), .val (.ref r_ib), .val (.int (0 : Int32))] [(.ref r_ib), (.ref r_ia)])) rfl (by rw [hml]; rfl) (Steps.refl _) (argsL := [(.ref r_ib)]) (rest := []) (lenOf pd_rm0_1 rfl) rfl (by show 2 * 0 + _ ≤ _; exact Nat.le_of_eq rfl) (hb hby at_42) (fun _ _ => ⟨rfl, hE4, (by decide : 0 + 0 ≤ _), (by decide : 0 + 0 ≤ _)⟩)
    dsimp only [Pt.U, Pt.locs, Pt.cells, Pt.slots] at X7 l7 y7 z7 st7 hQ7
    subst l7 y7 z7
    obtain ⟨rfl, N7q, hE7⟩ := hQ7
    have N7 := Fr.app N4 N7q
    have pre8 : ∀ tt, Steps p.tables e below (T7.setTop (mkF m 55 #[.val (.int p1), .val (.int p2), .val (.int ia), .val (.int ib), .val (.ref r_ia), .val (.ref r_ib), .val (.int (0 : Int32))] [(.int (1 : Int32))])) tt → Steps p.tables e below (s₁.setTop (entryFrame m #[(.int p1), (.int p2)] maxLocals)) tt := by
      intro tt kt
      refine pre5 tt ?_
      show Steps p.tables e below (T4.setTop (mkF m 28 #[.val (.int p1), .val (.int p2), .val (.int ia), .val (.int ib), .val (.ref r_ia), .val (.ref r_ib), .unset] [(.int ib), (.int ia)])) _
      refine XS.icmpYes X4.here hx rfl (pc0 := 28) (pc' := 35) rfl (hb hby at_28) rfl (tlt c28_6).1 (by decide) (by decide) ?_
      show Steps p.tables e below (T4.setTop (mkF m 35 #[.val (.int p1), .val (.int p2), .val (.int ia), .val (.int ib), .val (.ref r_ia), .val (.ref r_ib), .unset] [])) _
      refine XS.iconst X4.here hx rfl (hb hby at_35) ?_
      show Steps p.tables e below (T4.setTop (mkF m 36 #[.val (.int p1), .val (.int p2), .val (.int ia), .val (.int ib), .val (.ref r_ia), .val (.ref r_ib), .unset] [(.int (0 : Int32))])) _
      refine XS.istore X4.here hx rfl (hb hby at_36) rfl (l' := #[.val (.int p1), .val (.int p2), .val (.int ia), .val (.int ib), .val (.ref r_ia), .val (.ref r_ib), .val (.int (0 : Int32))]) rfl ?_
      show Steps p.tables e below (T4.setTop (mkF m 38 #[.val (.int p1), .val (.int p2), .val (.int ia), .val (.int ib), .val (.ref r_ia), .val (.ref r_ib), .val (.int (0 : Int32))] [])) _
      refine XS.aload X4.here hx rfl (hb hby at_38) rfl rfl ?_
      show Steps p.tables e below (T4.setTop (mkF m 40 #[.val (.int p1), .val (.int p2), .val (.int ia), .val (.int ib), .val (.ref r_ia), .val (.ref r_ib), .val (.int (0 : Int32))] [(.ref r_ia)])) _
      refine XS.aload X4.here hx rfl (hb hby at_40) rfl rfl ?_
      show Steps p.tables e below (T4.setTop (mkF m 42 #[.val (.int p1), .val (.int p2), .val (.int ia), .val (.int ib), .val (.ref r_ia), .val (.ref r_ib), .val (.int (0 : Int32))] [(.ref r_ib), (.ref r_ia)])) _
      refine st7.trans ?_
      show Steps p.tables e below (T7.setTop (mkF m 45 #[.val (.int p1), .val (.int p2), .val (.int ia), .val (.int ib), .val (.ref r_ia), .val (.ref r_ib), .val (.int (0 : Int32))] [(.int (0 : Int32))])) _
      refine XS.iload X7.here hx rfl (hb hby at_45) rfl ?_
      show Steps p.tables e below (T7.setTop (mkF m 47 #[.val (.int p1), .val (.int p2), .val (.int ia), .val (.int ib), .val (.ref r_ia), .val (.ref r_ib), .val (.int (0 : Int32))] [(.int (0 : Int32)), (.int (0 : Int32))])) _
      refine XS.icmpNo X7.here hx rfl (hb hby at_47) rfl (teq (rfl : (0 : Int32) = (0 : Int32))).2 ?_
      show Steps p.tables e below (T7.setTop (mkF m 50 #[.val (.int p1), .val (.int p2), .val (.int ia), .val (.int ib), .val (.ref r_ia), .val (.ref r_ib), .val (.int (0 : Int32))] [])) _
      refine XS.iconst X7.here hx rfl (hb hby at_50) ?_
      show Steps p.tables e below (T7.setTop (mkF m 51 #[.val (.int p1), .val (.int p2), .val (.int ia), .val (.int ib), .val (.ref r_ia), .val (.ref r_ib), .val (.int (0 : Int32))] [(.int (1 : Int32))])) _
      refine XS.goto X7.here hx rfl (pc0 := 51) (pc' := 55) rfl (hb hby at_51) (by decide) (by decide) ?_
      exact kt
    obtain ⟨fs, hr, hrun, hended, hW, hsame⟩ := X7.leave (v := some (.int (1 : Int32))) (fun h => by rw [Bd.returns] at h; cases h)
    refine ⟨_, _, pre8 _ ?_, hrun, hended, _, _, rfl, ?_, ⟨_, rfl⟩, hW, hsame.mono (by decide) (by decide)⟩
    · show Steps p.tables e below (T7.setTop (mkF m 55 #[.val (.int p1), .val (.int p2), .val (.int ia), .val (.int ib), .val (.ref r_ia), .val (.ref r_ib), .val (.int (0 : Int32))] [(.int (1 : Int32))])) _
      exact retN X7 hx (t := .boolean) Bd.returns (by simp) (hb hby at_55) hr
    · show Q0 Z h0 n0 _ T7.heap _
      rw [hE7]
      exact ⟨rfl, N7⟩
  · obtain ⟨cq9, kq9, q9a, q9b, q9c⟩ := isOf hZ hE4 E_r_ia
    obtain ⟨_, _, ⟨T9, L9, k9, n9⟩, -, X9, ⟨Lc9, hQ9, l9, y9, z9⟩, st9⟩ := X4.virtualBack hx (y := (⟨"com/example/wee_forge/weeforge/model/AccessLevel", "atLeast", "(Lcom/example/wee_forge/weeforge/model/AccessLevel;)Z"⟩ : MethodName)) (z := (⟨"com/example/wee_forge/weeforge/model/AccessLevel", "atLeast", "(Lcom/example/wee_forge/weeforge/model/AccessLevel;)Z"⟩ : MethodName)) hown (mvT hZ (hw _ (List.mem_of_getElem? (i := 10) rfl))) (mvT hZ (hw _ (List.mem_of_getElem? (i := 11) rfl))) (notFace_of_selects (args := #[]) (mvT hZ (hw _ (List.mem_of_getElem? (i := 13) rfl)))) (mvT hZ (hw _ (List.mem_of_getElem? (i := 13) rfl))) (mvT hZ (hw _ (List.mem_of_getElem? (i := 12) rfl))) (by decide) (backOf (W := 0) (rm2 l Z a0 hw [] r_ia r_ib (own_val ia) (own_val ib) (1 : Int32) h0 n0 Z0 F_r_ia F_r_ib (own_ge ra rb c28_6)) hZ (hw _ (List.mem_of_getElem? (i := 14) rfl)) (hw _ (List.mem_of_getElem? (i := 6) rfl)) (by decide) (by decide)) q9a q9c (g := (mkF m 42 #[.val (.int p1), .val (.int p2), .val (.int ia), .val (.int ib), .val (.ref r_ia), .val (.ref r_ib), .val (.int (1 : Int32))] [(.ref r_ib), (.ref r_ia)])) rfl (by rw [hml]; rfl) (Steps.refl _) (argsL := [(.ref r_ib)]) (rest := []) (lenOf pd_rm0_1 rfl) rfl (by show 2 * 0 + _ ≤ _; exact Nat.le_of_eq rfl) (hb hby at_42) (fun _ _ => ⟨rfl, hE4, (by decide : 0 + 0 ≤ _), (by decide : 0 + 0 ≤ _)⟩)
    dsimp only [Pt.U, Pt.locs, Pt.cells, Pt.slots] at X9 l9 y9 z9 st9 hQ9
    subst l9 y9 z9
    obtain ⟨rfl, N9q, hE9⟩ := hQ9
    have N9 := Fr.app N4 N9q
    have pre10 : ∀ tt, Steps p.tables e below (T9.setTop (mkF m 55 #[.val (.int p1), .val (.int p2), .val (.int ia), .val (.int ib), .val (.ref r_ia), .val (.ref r_ib), .val (.int (1 : Int32))] [(.int (1 : Int32))])) tt → Steps p.tables e below (s₁.setTop (entryFrame m #[(.int p1), (.int p2)] maxLocals)) tt := by
      intro tt kt
      refine pre5 tt ?_
      show Steps p.tables e below (T4.setTop (mkF m 28 #[.val (.int p1), .val (.int p2), .val (.int ia), .val (.int ib), .val (.ref r_ia), .val (.ref r_ib), .unset] [(.int ib), (.int ia)])) _
      refine XS.icmpNo X4.here hx rfl (hb hby at_28) rfl (flt c28_6).1 ?_
      show Steps p.tables e below (T4.setTop (mkF m 31 #[.val (.int p1), .val (.int p2), .val (.int ia), .val (.int ib), .val (.ref r_ia), .val (.ref r_ib), .unset] [])) _
      refine XS.iconst X4.here hx rfl (hb hby at_31) ?_
      show Steps p.tables e below (T4.setTop (mkF m 32 #[.val (.int p1), .val (.int p2), .val (.int ia), .val (.int ib), .val (.ref r_ia), .val (.ref r_ib), .unset] [(.int (1 : Int32))])) _
      refine XS.goto X4.here hx rfl (pc0 := 32) (pc' := 36) rfl (hb hby at_32) (by decide) (by decide) ?_
      show Steps p.tables e below (T4.setTop (mkF m 36 #[.val (.int p1), .val (.int p2), .val (.int ia), .val (.int ib), .val (.ref r_ia), .val (.ref r_ib), .unset] [(.int (1 : Int32))])) _
      refine XS.istore X4.here hx rfl (hb hby at_36) rfl (l' := #[.val (.int p1), .val (.int p2), .val (.int ia), .val (.int ib), .val (.ref r_ia), .val (.ref r_ib), .val (.int (1 : Int32))]) rfl ?_
      show Steps p.tables e below (T4.setTop (mkF m 38 #[.val (.int p1), .val (.int p2), .val (.int ia), .val (.int ib), .val (.ref r_ia), .val (.ref r_ib), .val (.int (1 : Int32))] [])) _
      refine XS.aload X4.here hx rfl (hb hby at_38) rfl rfl ?_
      show Steps p.tables e below (T4.setTop (mkF m 40 #[.val (.int p1), .val (.int p2), .val (.int ia), .val (.int ib), .val (.ref r_ia), .val (.ref r_ib), .val (.int (1 : Int32))] [(.ref r_ia)])) _
      refine XS.aload X4.here hx rfl (hb hby at_40) rfl rfl ?_
      show Steps p.tables e below (T4.setTop (mkF m 42 #[.val (.int p1), .val (.int p2), .val (.int ia), .val (.int ib), .val (.ref r_ia), .val (.ref r_ib), .val (.int (1 : Int32))] [(.ref r_ib), (.ref r_ia)])) _
      refine st9.trans ?_
      show Steps p.tables e below (T9.setTop (mkF m 45 #[.val (.int p1), .val (.int p2), .val (.int ia), .val (.int ib), .val (.ref r_ia), .val (.ref r_ib), .val (.int (1 : Int32))] [(.int (1 : Int32))])) _
      refine XS.iload X9.here hx rfl (hb hby at_45) rfl ?_
      show Steps p.tables e below (T9.setTop (mkF m 47 #[.val (.int p1), .val (.int p2), .val (.int ia), .val (.int ib), .val (.ref r_ia), .val (.ref r_ib), .val (.int (1 : Int32))] [(.int (1 : Int32)), (.int (1 : Int32))])) _
      refine XS.icmpNo X9.here hx rfl (hb hby at_47) rfl (teq (rfl : (1 : Int32) = (1 : Int32))).2 ?_
      show Steps p.tables e below (T9.setTop (mkF m 50 #[.val (.int p1), .val (.int p2), .val (.int ia), .val (.int ib), .val (.ref r_ia), .val (.ref r_ib), .val (.int (1 : Int32))] [])) _
      refine XS.iconst X9.here hx rfl (hb hby at_50) ?_
      show Steps p.tables e below (T9.setTop (mkF m 51 #[.val (.int p1), .val (.int p2), .val (.int ia), .val (.int ib), .val (.ref r_ia), .val (.ref r_ib), .val (.int (1 : Int32))] [(.int (1 : Int32))])) _
      refine XS.goto X9.here hx rfl (pc0 := 51) (pc' := 55) rfl (hb hby at_51) (by decide) (by decide) ?_
      exact kt
    obtain ⟨fs, hr, hrun, hended, hW, hsame⟩ := X9.leave (v := some (.int (1 : Int32))) (fun h => by rw [Bd.returns] at h; cases h)
    refine ⟨_, _, pre10 _ ?_, hrun, hended, _, _, rfl, ?_, ⟨_, rfl⟩, hW, hsame.mono (by decide) (by decide)⟩
    · show Steps p.tables e below (T9.setTop (mkF m 55 #[.val (.int p1), .val (.int p2), .val (.int ia), .val (.int ib), .val (.ref r_ia), .val (.ref r_ib), .val (.int (1 : Int32))] [(.int (1 : Int32))])) _
      exact retN X9 hx (t := .boolean) Bd.returns (by simp) (hb hby at_55) hr
    · show Q0 Z h0 n0 _ T9.heap _
      rw [hE9]
      exact ⟨rfl, N9⟩
set_option maxRecDepth 65536 in
set_option maxHeartbeats 40000000 in
theorem comes_1 {Post : Tables → Env → Array Value → State → Outcome → State → Prop} (hpost : ∀ tb e args s v u, (limb_1_1.after args s (.returned v) u = true ∧ limb_1_2.after args s (.returned v) u = true ∧ True) → FrameEnd s (.returned v) u (Jvm.fieldLocs frame_1_writes args s ++ Jvm.arrayLocs frame_1_arrays args s ++ Jvm.staticLocs frame_1_statics s) 0 0 → Post tb e args s (.returned v) u) :
    ArmFor flags0 classFile x code maxLocals ret World_1 tables_1 room_1 Calls_1 rest_1 Pre_1 Post := by
  intro l hfl _ _ p e ha hc hk s m args below hf hA hF happ hP
  obtain ⟨hcalls, hrest, hpre⟩ := hP
  obtain ⟨-, -, -, hnamed, -, -, -, hat⟩ := (Spec.applies_iff hf).mp happ
  obtain ⟨hg, hn⟩ := and_e (Cond.before_iff.mp (show (Jvm.Cond.and given_1 narrow_1).before args s = true from hpre))
  have hw := fun d (hd : d ∈ tables_1) => atoms_spec (ws := Jvm.Cond.code x code maxLocals ret :: tables_1) hat d (List.mem_cons_of_mem _ hd)
  obtain ⟨g1a, g1b⟩ := and_e hg
  obtain ⟨g2a, g2b⟩ := and_e g1b
  obtain ⟨w0, w1, rfl⟩ : ∃ w0 w1 : Value, args = #[w0, w1] := by
    have hs : args.size = 2 := by simpa [Cond.value, given_1] using g1a
    obtain ⟨L⟩ := args
    match L, hs with
    | [w0, w1], _ => exact ⟨w0, w1, rfl⟩
  have hfit : Fit s := fun {y c} hc i hi => by
    obtain ⟨ha, rfl⟩ := Array.getElem?_eq_some_iff.mp hc
    have q := List.all_eq_true.mp ((Array.all_eq_true_iff_forall_mem.mp hF) _ (Array.getElem_mem ha)) i (List.mem_range.mpr hi)
    simpa [Array.getElem?_eq_getElem hi] using q
  obtain ⟨i0, ei0⟩ := is_v g2a
  obtain rfl : w0 = (.int i0) := Option.some.inj ei0
  obtain ⟨i1, ei1⟩ := is_v g2b
  obtain rfl : w1 = (.int i1) := Option.some.inj ei1
  obtain ⟨n1a, n1b⟩ := and_e hn
  obtain ⟨w_GUEST, ev_GUEST⟩ := exa_v n1a
  have S_GUEST := Sta.start ev_GUEST (Or.inr ⟨(hw _ (List.mem_of_getElem? (i := 6) rfl)), (hw _ (List.mem_of_getElem? (i := 7) rfl))⟩)
  have E_GUEST := Exa.start ev_GUEST n1a
  obtain ⟨n2a, n2b⟩ := and_e n1b
  obtain ⟨w_MAINTAINER, ev_MAINTAINER⟩ := exa_v n2a
  have S_MAINTAINER := Sta.start ev_MAINTAINER (Or.inr ⟨(hw _ (List.mem_of_getElem? (i := 6) rfl)), (hw _ (List.mem_of_getElem? (i := 9) rfl))⟩)
  have E_MAINTAINER := Exa.start ev_MAINTAINER n2a
  obtain ⟨n3a, n3b⟩ := and_e n2b
  have F_GUEST_value := own_fld ev_GUEST n3a
  obtain ⟨n4a, n4b⟩ := and_e n3b
  have F_MAINTAINER_value := own_fld ev_MAINTAINER n4a
  obtain ⟨n5a, n5b⟩ := and_e n4b
  obtain ⟨w_OWNER, ev_OWNER⟩ := exa_v n5a
  have S_OWNER := Sta.start ev_OWNER (Or.inr ⟨(hw _ (List.mem_of_getElem? (i := 6) rfl)), (hw _ (List.mem_of_getElem? (i := 18) rfl))⟩)
  have E_OWNER := Exa.start ev_OWNER n5a
  obtain ⟨n6a, n6b⟩ := and_e n5b
  obtain ⟨w_REPORTER, ev_REPORTER⟩ := exa_v n6a
  have S_REPORTER := Sta.start ev_REPORTER (Or.inr ⟨(hw _ (List.mem_of_getElem? (i := 6) rfl)), (hw _ (List.mem_of_getElem? (i := 20) rfl))⟩)
  have E_REPORTER := Exa.start ev_REPORTER n6a
  obtain ⟨n7a, n7b⟩ := and_e n6b
  have F_OWNER_value := own_fld ev_OWNER n7a
  obtain ⟨n8a, n8b⟩ := and_e n7b
  have F_REPORTER_value := own_fld ev_REPORTER n8a
  obtain ⟨n9a, n9b⟩ := and_e n8b
  obtain ⟨w_DEVELOPER, ev_DEVELOPER⟩ := exa_v n9a
  have S_DEVELOPER := Sta.start ev_DEVELOPER (Or.inr ⟨(hw _ (List.mem_of_getElem? (i := 6) rfl)), (hw _ (List.mem_of_getElem? (i := 22) rfl))⟩)
  have E_DEVELOPER := Exa.start ev_DEVELOPER n9a
  have F_DEVELOPER_value := own_fld ev_DEVELOPER n9b
  obtain ⟨n, o, h1, h2, h3, _, L, rfl, ⟨rfl, N⟩, hq⟩ := rm0 l s _ hw tables_1 i0 i1 w_GUEST w_REPORTER w_DEVELOPER w_MAINTAINER w_OWNER s.heap s.heap.size (Nat.le_refl _) S_GUEST S_REPORTER S_DEVELOPER S_MAINTAINER S_OWNER E_GUEST E_REPORTER E_DEVELOPER E_MAINTAINER E_OWNER F_GUEST_value F_REPORTER_value F_DEVELOPER_value F_MAINTAINER_value F_OWNER_value p e ha hc hk s m _ below hf ((Spec.applies_iff_loose hf).mp happ).1 ⟨rfl, State.Warmed39.refl s, rfl⟩ trivial
  refine ⟨n, _, h1, h2, h3, hpost _ _ _ _ _ _ ⟨Cond.after_iff.mpr rfl, Cond.after_iff.mpr (eq_i res_at (Term.int_eval (1)) rfl), trivial⟩ ⟨hq.1, hq.2.1, (hq.2.2.sift fun y hy => Or.inr (N y hy)).mono (by decide) (by decide)⟩⟩
theorem main_1_1 : Claimed_1_1 := comes_1 fun _ _ _ _ _ _ h hF => ⟨h.1, hF⟩
theorem main_1_2 : Claimed_1_2 := comes_1 fun _ _ _ _ _ _ h hF => ⟨h.2.1, hF⟩
end Jvm.Pilot.@@N@@
namespace Jvm.Pilot.@@N@@
open Jvm Jvm.ClassFile Sem Op Lib Jvm.Free Jvm.Stand Jvm.Pilot.@@N@@.Jvm.D
/-! MADE BY PROGRAM (witnessworld.py) out of the Statement's table words and the real class files: 12 classes; the members and pool entries that the words name. The judged class is class 1, her method 2. -/
namespace start1
open Jvm.ClassFile
def u (s : String) : CpInfo := .utf8 (stringToUtf16 s)
/-- a pool by its gaps: so many unusable entries, then the entry; so many at the end -/
def gap : Nat → List CpInfo → List CpInfo
  | 0, r => r
  | n + 1, r => .unusable :: gap n r
def poolList (es : List (Nat × CpInfo)) (last : Nat) : List CpInfo := es.foldr (fun e r => gap e.1 (e.2 :: r)) (gap last [])
def pool (es : List (Nat × CpInfo)) (last : Nat) : Array CpInfo := ⟨poolList es last⟩
def fileOf (pool : Array CpInfo) (this : Nat) (attrs : Array Attribute := #[]) (ms : Array MethodInfo := #[]) (fl : Nat := 33) (sup : Nat := 0) (ifs : Array Nat := #[]) (fds : Array FieldInfo := #[]) : ClassFile where
  minorVersion := 0
  majorVersion := 65
  constantPool := pool
  accessFlags := fl
  thisClass := this
  superClass := sup
  interfaces := ifs
  fields := fds
  methods := ms
  attributes := attrs
def plain (name : String) (sup : Option ClassId) : Class where
  name := name
  kind := .ordinary
  loader := none
  accessFlags := 33
  super := sup
  interfaces := #[]
  cf := none
  fields := #[]
  methods := #[]
  instanceTypes := #[]
  staticTypes := #[]
  resolved := #[]
  callSites := []
  init := .initialized
  statics := none
  mirror := none

def pool0 : Array CpInfo := pool [(5, u "<init>"), (0, u "()V"), (1, .class_ 10), (1, u "java/lang/Object")] 113

def k0m0 : Method := { name := "<init>", desc := "()V", sig := { parameters := [], returnType := none }, accessFlags := 1, code := none }
/-- java/lang/Object -/
def k0 : Class := { plain "java/lang/Object" none with
  accessFlags := 33
  interfaces := #[]
  cf := some (fileOf pool0 8 #[] #[{ accessFlags := 1, nameIndex := 5, descriptorIndex := 6, attributes := #[] }] 33 0 #[] #[])
  fields := #[]
  methods := #[k0m0]
  instanceTypes := #[]
  staticTypes := #[]
  resolved := Array.replicate 124 none
  statics := none }

def pool1 : Array CpInfo := pool [(2, .class_ 4), (1, u "java/lang/Object"), (0, u "<init>"), (0, u "()V"), (0, .fieldref 8 9), (0, .class_ 10), (0, .nameAndType 11 12), (0, u "com/example/wee_forge/weeforge/model/AccessLevel"), (0, u "GUEST"), (0, u "Lcom/example/wee_forge/weeforge/model/AccessLevel;"), (0, .fieldref 8 14), (0, .nameAndType 15 12), (0, u "REPORTER"), (0, .fieldref 8 17), (0, .nameAndType 18 12), (0, u "DEVELOPER"), (0, .fieldref 8 20), (0, .nameAndType 21 12), (0, u "MAINTAINER"), (0, .fieldref 8 23), (0, .nameAndType 24 12), (0, u "OWNER"), (0, .integer 2147483647), (0, .methodref 27 28), (0, .class_ 29), (0, .nameAndType 30 31), (0, u "com/example/wee_forge/weeforge/model/AccessLevelAtLeastPinLaw"), (0, u "pick"), (0, u "(I)Lcom/example/wee_forge/weeforge/model/AccessLevel;"), (0, .methodref 8 33), (0, .nameAndType 34 35), (0, u "atLeast"), (0, u "(Lcom/example/wee_forge/weeforge/model/AccessLevel;)Z"), (3, u "law"), (0, u "(II)Z")] 2

def k1m0 : Method := { name := "<init>", desc := "()V", sig := { parameters := [], returnType := none }, accessFlags := 2, code := none }
def k1c1 : Code := { maxStack := 2, maxLocals := 1, code := method_2_code, exceptionTable := #[], attributes := #[] }
def k1m1 : Method := { name := "pick", desc := "(I)Lcom/example/wee_forge/weeforge/model/AccessLevel;", sig := { parameters := [.int], returnType := some (.object "com/example/wee_forge/weeforge/model/AccessLevel") }, accessFlags := 10, code := some k1c1 }
def k1c2 : Code := { maxStack := 2, maxLocals := 7, code := code, exceptionTable := #[], attributes := #[] }
def k1m2 : Method := { name := "law", desc := "(II)Z", sig := { parameters := [.int, .int], returnType := some .boolean }, accessFlags := 9, code := some k1c2 }
/-- com/example/wee_forge/weeforge/model/AccessLevelAtLeastPinLaw -/
def k1 : Class := { plain "com/example/wee_forge/weeforge/model/AccessLevelAtLeastPinLaw" (some 0) with
  accessFlags := 49
  interfaces := #[]
  cf := some (fileOf pool1 27 #[] #[{ accessFlags := 2, nameIndex := 5, descriptorIndex := 6, attributes := #[] }, { accessFlags := 10, nameIndex := 30, descriptorIndex := 31, attributes := #[] }, { accessFlags := 9, nameIndex := 39, descriptorIndex := 40, attributes := #[] }] 49 2 #[] #[])
  fields := #[]
  methods := #[k1m0, k1m1, k1m2]
  instanceTypes := #[]
  staticTypes := #[]
  resolved := Array.replicate 43 none
  statics := none }

def pool2 : Array CpInfo := pool [(1, .class_ 2), (0, u "java/lang/constant/Constable"), (0, .class_ 4), (0, u "java/lang/Object")] 6

/-- java/lang/constant/Constable -/
def k2 : Class := { plain "java/lang/constant/Constable" (some 0) with
  accessFlags := 1537
  interfaces := #[]
  cf := some (fileOf pool2 1 #[] #[] 1537 3 #[] #[])
  fields := #[]
  methods := #[]
  instanceTypes := #[]
  staticTypes := #[]
  resolved := Array.replicate 11 none
  statics := none }

def pool3 : Array CpInfo := pool [(1, .class_ 2), (0, u "java/lang/Comparable"), (0, .class_ 4), (0, u "java/lang/Object")] 7

/-- java/lang/Comparable -/
def k3 : Class := { plain "java/lang/Comparable" (some 0) with
  accessFlags := 1537
  interfaces := #[]
  cf := some (fileOf pool3 1 #[] #[] 1537 3 #[] #[])
  fields := #[]
  methods := #[]
  instanceTypes := #[]
  staticTypes := #[]
  resolved := Array.replicate 12 none
  statics := none }

def pool4 : Array CpInfo := pool [(1, .class_ 2), (0, u "java/io/Serializable"), (0, .class_ 4), (0, u "java/lang/Object")] 2

/-- java/io/Serializable -/
def k4 : Class := { plain "java/io/Serializable" (some 0) with
  accessFlags := 1537
  interfaces := #[]
  cf := some (fileOf pool4 1 #[] #[] 1537 3 #[] #[])
  fields := #[]
  methods := #[]
  instanceTypes := #[]
  staticTypes := #[]
  resolved := Array.replicate 7 none
  statics := none }

def pool5 : Array CpInfo := pool [(2, .class_ 4), (1, u "java/lang/Enum"), (0, u "name"), (0, u "Ljava/lang/String;"), (2, u "ordinal"), (0, u "I"), (1, .class_ 14), (1, u "java/lang/Object"), (4, u "hash"), (86, .class_ 108), (1, u "java/lang/Enum$EnumDesc"), (2, .class_ 112), (0, u "java/lang/constant/Constable"), (0, .class_ 114), (0, u "java/lang/Comparable"), (0, .class_ 116), (0, u "java/io/Serializable")] 87

/-- java/lang/Enum -/
def k5 : Class := { plain "java/lang/Enum" (some 0) with
  accessFlags := 1057
  interfaces := #[2, 3, 4]
  cf := some (fileOf pool5 2 #[.nestMembers #[106]] #[] 1057 12 #[111, 113, 115] #[{ accessFlags := 18, nameIndex := 5, descriptorIndex := 6, attributes := #[] }, { accessFlags := 18, nameIndex := 9, descriptorIndex := 10, attributes := #[] }, { accessFlags := 2, nameIndex := 19, descriptorIndex := 10, attributes := #[] }])
  fields := #[{ name := "name", type := (.object "java/lang/String"), accessFlags := 18, slot := 0, constantValue := 0 }, { name := "ordinal", type := .int, accessFlags := 18, slot := 1, constantValue := 0 }, { name := "hash", type := .int, accessFlags := 2, slot := 2, constantValue := 0 }]
  methods := #[]
  instanceTypes := #[(.object "java/lang/String"), .int, .int]
  staticTypes := #[]
  resolved := Array.replicate 204 none
  statics := none }

def pool6 : Array CpInfo := pool [(1, .class_ 2), (0, u "com/example/wee_forge/weeforge/model/AccessLevel"), (2, u "GUEST"), (0, u "Lcom/example/wee_forge/weeforge/model/AccessLevel;"), (2, u "REPORTER"), (2, u "DEVELOPER"), (2, u "MAINTAINER"), (2, u "OWNER"), (2, u "$VALUES"), (0, u "[Lcom/example/wee_forge/weeforge/model/AccessLevel;"), (6, .class_ 31), (1, u "java/lang/Enum"), (6, .fieldref 1 39), (0, .nameAndType 40 41), (0, u "value"), (0, u "I"), (32, u "atLeast"), (0, u "(Lcom/example/wee_forge/weeforge/model/AccessLevel;)Z")] 8

def k6c0 : Code := { maxStack := 2, maxLocals := 2, code := prog_1_method_5_code, exceptionTable := #[], attributes := #[] }
def k6m0 : Method := { name := "atLeast", desc := "(Lcom/example/wee_forge/weeforge/model/AccessLevel;)Z", sig := { parameters := [(.object "com/example/wee_forge/weeforge/model/AccessLevel")], returnType := some .boolean }, accessFlags := 1, code := some k6c0 }
/-- com/example/wee_forge/weeforge/model/AccessLevel -/
def k6 : Class := { plain "com/example/wee_forge/weeforge/model/AccessLevel" (some 5) with
  accessFlags := 16433
  interfaces := #[]
  cf := some (fileOf pool6 1 #[] #[{ accessFlags := 1, nameIndex := 74, descriptorIndex := 75, attributes := #[] }] 16433 29 #[] #[{ accessFlags := 16409, nameIndex := 5, descriptorIndex := 6, attributes := #[] }, { accessFlags := 16409, nameIndex := 9, descriptorIndex := 6, attributes := #[] }, { accessFlags := 16409, nameIndex := 12, descriptorIndex := 6, attributes := #[] }, { accessFlags := 16409, nameIndex := 15, descriptorIndex := 6, attributes := #[] }, { accessFlags := 16409, nameIndex := 18, descriptorIndex := 6, attributes := #[] }, { accessFlags := 18, nameIndex := 40, descriptorIndex := 41, attributes := #[] }, { accessFlags := 4122, nameIndex := 21, descriptorIndex := 22, attributes := #[] }])
  fields := #[{ name := "GUEST", type := (.object "com/example/wee_forge/weeforge/model/AccessLevel"), accessFlags := 16409, slot := 0, constantValue := 0 }, { name := "REPORTER", type := (.object "com/example/wee_forge/weeforge/model/AccessLevel"), accessFlags := 16409, slot := 1, constantValue := 0 }, { name := "DEVELOPER", type := (.object "com/example/wee_forge/weeforge/model/AccessLevel"), accessFlags := 16409, slot := 2, constantValue := 0 }, { name := "MAINTAINER", type := (.object "com/example/wee_forge/weeforge/model/AccessLevel"), accessFlags := 16409, slot := 3, constantValue := 0 }, { name := "OWNER", type := (.object "com/example/wee_forge/weeforge/model/AccessLevel"), accessFlags := 16409, slot := 4, constantValue := 0 }, { name := "value", type := .int, accessFlags := 18, slot := 3, constantValue := 0 }, { name := "$VALUES", type := (.array (.object "com/example/wee_forge/weeforge/model/AccessLevel")), accessFlags := 4122, slot := 5, constantValue := 0 }]
  methods := #[k6m0]
  instanceTypes := #[(.object "java/lang/String"), .int, .int, .int]
  staticTypes := #[(.object "com/example/wee_forge/weeforge/model/AccessLevel"), (.object "com/example/wee_forge/weeforge/model/AccessLevel"), (.object "com/example/wee_forge/weeforge/model/AccessLevel"), (.object "com/example/wee_forge/weeforge/model/AccessLevel"), (.object "com/example/wee_forge/weeforge/model/AccessLevel"), (.array (.object "com/example/wee_forge/weeforge/model/AccessLevel"))]
  resolved := Array.replicate 84 none
  statics := some 0 }

def pool7 : Array CpInfo := pool [(1, u "java/lang/Cloneable"), (0, .class_ 1), (0, u "java/lang/Object"), (0, .class_ 3)] 3

/-- java/lang/Cloneable -/
def k7 : Class := { plain "java/lang/Cloneable" (some 0) with
  accessFlags := 1537
  interfaces := #[]
  cf := some (fileOf pool7 2 #[] #[] 1537 4 #[] #[])
  fields := #[]
  methods := #[]
  instanceTypes := #[]
  staticTypes := #[]
  resolved := Array.replicate 8 none
  statics := none }

/-- the primitive byte -/
def k8 : Class := { plain "byte" none with kind := .primitive 'B', accessFlags := 0x411 }
/-- [B -/
def k9 : Class := { plain "[B" (some 0) with kind := .array 8 .byte, interfaces := #[7, 4], accessFlags := 1041 }

/-- the primitive int -/
def k10 : Class := { plain "int" none with kind := .primitive 'I', accessFlags := 0x411 }
/-- [I -/
def k11 : Class := { plain "[I" (some 0) with kind := .array 10 .int, interfaces := #[7, 4], accessFlags := 1041 }

def heap : Heap := #[{ cls := 6, slots := #[.ref 1, .ref 4, .ref 5, .ref 2, .ref 3, .null], vm := .statics 6 },
  { cls := 6, slots := #[.null, .int 0, .int 0, .int 10], vm := .none },
  { cls := 6, slots := #[.null, .int 0, .int 0, .int 40], vm := .none },
  { cls := 6, slots := #[.null, .int 0, .int 0, .int 50], vm := .none },
  { cls := 6, slots := #[.null, .int 0, .int 0, .int 20], vm := .none },
  { cls := 6, slots := #[.null, .int 0, .int 0, .int 30], vm := .none }]
def classes : Array Class := #[k0, k1, k2, k3, k4, k5, k6, k7, k8, k9, k10, k11]
def interned : List (Array UInt16 × Addr) := []
def slotsUsed : Nat := 26
def theMethod : MethodId := ⟨1, 2⟩
def args0 : Array Value := #[.int 5, .int 3]
def aboutOver (below : List Frame) : State where
  vm := { classes := classes, interned := interned.toArray }
  heap := heap
  slotsUsed := slotsUsed
  threads := #[{ frames := .invoking theMethod args0 :: below }]
def below0 : List Frame := [.native { method := ⟨0, 0⟩, args := #[] }]
def about1 : State := aboutOver below0
def p0 : Program := .bare "" "" ""
def e0 : Env := launch0.env 0 0 0
theorem w_frames : about1.frames = Frame.invoking theMethod args0 :: below0 := rfl
set_option maxRecDepth 65536 in
theorem w_args : argsFit about1.vm theMethod args0 = true := by decide +kernel
set_option maxRecDepth 65536 in
theorem w_heap : heapFits about1 = true := by decide +kernel
set_option maxRecDepth 65536 in
theorem w_runnable : about1.curStatus? = some .runnable := by decide +kernel
set_option maxRecDepth 65536 in
theorem w_alone : about1.alone = true := by decide +kernel
set_option maxRecDepth 65536 in
theorem w_named : about1.methodNamed? x = some theMethod := by decide +kernel
set_option maxRecDepth 65536 in
theorem w_hears : about1.hears theMethod below0 = true := by decide +kernel
set_option maxRecDepth 65536 in
theorem w_ripe : about1.ripe theMethod args0 below0 = true := by decide +kernel
theorem w_running : about1.status = .running := rfl
set_option maxRecDepth 65536 in
theorem w_room : about1.hasRoom e0.platform room_1 = true :=
  launch0.hasRoom_least _ room_1 (by decide +kernel) (by decide +kernel) (by decide +kernel) (by decide +kernel) (by decide +kernel) (by decide +kernel)
theorem allAtoms_all (ts : List Jvm.Cond) (a : Array Jvm.Value) (st : Jvm.State) : (allAtoms ts).before a st = ts.all (fun c => c.before a st) := by
  induction ts with
  | nil => rfl
  | cons c t ih =>
    show (Jvm.Cond.and c (allAtoms t)).before a st = _
    rw [Jvm.Cond.before_and, ih, List.all_cons]
def words1 : List Jvm.Cond := Jvm.Cond.code x code maxLocals ret :: tables_1
/-- a 'code' word, met by the world's own term for the bytes: nothing is compared byte by byte -/
theorem code_word {y : MethodName} {bytes : ByteArray} {mx : Nat} {rt : Option FieldType} {a : Array Value} {s : State} {m : MethodId} {meth : Method} {c : Code} (h1 : s.methodNamed? y = some m) (h2 : s.vm.method? m = some meth) (h3 : meth.code = some c) (h4 : c.code = bytes)
    (h5 : (c.maxLocals == mx && c.exceptionTable.isEmpty && decide (c.maxStack ≤ mostOperands) && decide (meth.sig.returnType = rt) && !meth.locks && decide (parseMethodDescriptor y.desc = some meth.sig)) = true) : (Jvm.Cond.code y bytes mx rt).before a s = true := by
  simp only [Bool.and_eq_true, beq_iff_eq, Bool.not_eq_true', decide_eq_true_eq] at h5
  obtain ⟨⟨⟨⟨⟨g1, g2⟩, g3⟩, g4⟩, g5⟩, g6⟩ := h5
  simp [Cond.before, Cond.holds, Cond.value, h1, h2, h3, h4, g1, g2, g3, g4, g5, g6]
def isCode : Jvm.Cond → Bool
  | .code _ _ _ _ => true
  | _ => false
theorem all_split {L : List Jvm.Cond} {P : Jvm.Cond → Bool} (h1 : L.all (fun c => isCode c || P c) = true) (h2 : ∀ c ∈ L.filter isCode, P c = true) : L.all P = true := by
  refine List.all_eq_true.mpr fun c hc => ?_
  have h := List.all_eq_true.mp h1 c hc
  rcases Bool.eq_false_or_eq_true (isCode c) with hi | hi
  · exact h2 c (List.mem_filter.mpr ⟨hc, hi⟩)
  · simpa [hi] using h
set_option maxRecDepth 65536 in
theorem w_c0 : (Jvm.Cond.code x code maxLocals ret).before args0 about1 = true := code_word (m := ⟨1, 2⟩) (meth := k1m2) (c := k1c2) (by decide +kernel) rfl rfl rfl (by decide +kernel)
set_option maxRecDepth 65536 in
theorem w_c1 : (Jvm.Cond.code ({ cls := "com/example/wee_forge/weeforge/model/AccessLevelAtLeastPinLaw", name := "pick", desc := "(I)Lcom/example/wee_forge/weeforge/model/AccessLevel;" } : Jvm.MethodName) method_2_code (1 : Nat) (Option.some (Jvm.ClassFile.FieldType.object "com/example/wee_forge/weeforge/model/AccessLevel"))).before args0 about1 = true := code_word (m := ⟨1, 1⟩) (meth := k1m1) (c := k1c1) (by decide +kernel) rfl rfl rfl (by decide +kernel)
set_option maxRecDepth 65536 in
theorem w_c2 : (Jvm.Cond.code ({ cls := "com/example/wee_forge/weeforge/model/AccessLevel", name := "atLeast", desc := "(Lcom/example/wee_forge/weeforge/model/AccessLevel;)Z" } : Jvm.MethodName) prog_1_method_5_code (2 : Nat) (Option.some Jvm.ClassFile.FieldType.boolean)).before args0 about1 = true := code_word (m := ⟨6, 0⟩) (meth := k6m0) (c := k6c0) (by decide +kernel) rfl rfl rfl (by decide +kernel)
def codes1 : List Jvm.Cond := [Jvm.Cond.code x code maxLocals ret, Jvm.Cond.code ({ cls := "com/example/wee_forge/weeforge/model/AccessLevelAtLeastPinLaw", name := "pick", desc := "(I)Lcom/example/wee_forge/weeforge/model/AccessLevel;" } : Jvm.MethodName) method_2_code (1 : Nat) (Option.some (Jvm.ClassFile.FieldType.object "com/example/wee_forge/weeforge/model/AccessLevel")), Jvm.Cond.code ({ cls := "com/example/wee_forge/weeforge/model/AccessLevel", name := "atLeast", desc := "(Lcom/example/wee_forge/weeforge/model/AccessLevel;)Z" } : Jvm.MethodName) prog_1_method_5_code (2 : Nat) (Option.some Jvm.ClassFile.FieldType.boolean)]
set_option maxRecDepth 65536 in
theorem codes_eq : words1.filter isCode = codes1 := rfl
theorem w_codes : ∀ c ∈ words1.filter isCode, c.before args0 about1 = true := by
  rw [codes_eq]
  intro c hc
  simp only [codes1, List.mem_cons, List.not_mem_nil, or_false] at hc
  rcases hc with rfl | rfl | rfl
  · exact w_c0
  · exact w_c1
  · exact w_c2
set_option maxRecDepth 65536 in
theorem w_t1 : words1.all (fun c => isCode c || c.before args0 about1) = true := by decide +kernel
theorem w_tables : (allAtoms (Jvm.Cond.code x code maxLocals ret :: tables_1)).before args0 about1 = true := by
  rw [allAtoms_all]
  show words1.all (fun c => c.before args0 about1) = true
  refine all_split ?_ w_codes
  rw [w_t1]
set_option maxRecDepth 65536 in
theorem w_case : (Jvm.Cond.and given_1 narrow_1).before args0 about1 = true := by decide +kernel
theorem w_applies : (headSpec (Jvm.Cond.code x code maxLocals ret :: tables_1) room_1).applies x e0.platform about1 = true :=
  (Spec.applies_iff w_frames).mpr ⟨w_running, w_runnable, w_alone, w_named, w_hears, w_ripe, w_room, w_tables⟩
theorem atStart : AtStart classFile x code maxLocals ret World_1 tables_1 room_1 Calls_1 rest_1 Pre_1 launch0 p0 e0 about1 theMethod args0 below0 :=
  ⟨lists_1, trivial, launch0.admits_env _ _ _, launch0.least_env, fairChoices_fair.cas, fairChoices_fair.clock, w_frames, w_args, w_heap, w_applies, trivial, trivial, w_case⟩
end start1
theorem witness_1 : WitnessClaimed_1 := ⟨start1.p0, start1.e0, start1.about1, start1.theMethod, start1.args0, start1.below0, start1.atStart⟩
end Jvm.Pilot.@@N@@
