import JvmDerived
import JvmDerived.Pilot.@@N@@Statement
import JvmDerived.Pilot.@@N@@Code
set_option linter.unusedVariables false
set_option linter.unusedSimpArgs false
namespace Jvm.RoadKit
open Sem ClassFile Op Lib Jvm.Stand Jvm.Free Jvm.LawKit
section New
variable {p : Program} {l : Launch} {e : Env} {R : Room} {s : State} {m : MethodId} {args : Array Value} {below : List Frame} {meth : Method} {c : Code} {T : State} {locs : List Loc} {cells slots : Nat}
theorem retI (X : Stand p l e R s m args below meth c T locs cells slots) (hx : p.tables.exec = Jvm.exec) {pc : Nat} {Ls : Array Slot} {z : Int32} {rest : List Value} (hret : meth.sig.returnType = some .int) (hd : decode c.code pc = .ok (.ireturn, 1)) {fs : List Frame}
    (hl : ∀ (f : JFrame) (acts : List Action), f.method = m → f.locked = none → f.entered = [] → (doReturn e (T.setTop f) acts (some (.int z))).1 = T.setFrames fs) : Steps p.tables e below (T.setTop (mkF m pc Ls (.int z :: rest))) (T.setFrames fs) := by
  have hm' : T.vm.method? m = some meth := X.method'
  have hn : narrow .int (.int z) = .int z := rfl
  show Steps p.tables e below (T.setTop { method := m, pc := pc, locals := Ls, stack := _ :: rest, locked := none }) _
  jvm_step X.here [X.here.top, hx, hd, hm', hret, hn]
  first | (intro acts; rw [hl _ acts rfl rfl rfl]) | rw [hl _ _ rfl rfl rfl]
  exact Steps.refl _
end New
end Jvm.RoadKit
namespace Jvm.Pilot.@@N@@
open Jvm Jvm.ClassFile Sem Op Lib Jvm.Free Jvm.Stand Jvm.LawKit Jvm.RoadKit Bundle Jvm.Pilot.@@N@@.Jvm.D
theorem own_retb (z : Int32) (h : z = 0 ∨ z = 1) : narrow .boolean (.int z) = .int z := by rcases h with rfl | rfl <;> rfl
theorem own_rem (x n : Int32) (hn : 0 < n.toInt) : 0 ≤ ((x &&& (2147483647 : Int32)) % n).toInt ∧ ((x &&& (2147483647 : Int32)) % n).toInt < n.toInt := by
  have h1 := c_mask x (2147483647 : Int32) 31 (by decide) (by decide)
  have h2 := (c_iremV (x &&& (2147483647 : Int32)) n).1 (by omega) hn
  exact ⟨h2.1, h2.2.1⟩
theorem own_of3 {k : Int32} (h : 0 ≤ k.toInt ∧ k.toInt < 3) : k = 0 ∨ k = 1 ∨ k = 2 := by
  have h2 : k.toInt = (0 : Int32).toInt ∨ k.toInt = (1 : Int32).toInt ∨ k.toInt = (2 : Int32).toInt := by simp; omega
  simpa only [Int32.toInt_inj] using h2
theorem own_of5 {k : Int32} (h : 0 ≤ k.toInt ∧ k.toInt < 5) : k = 0 ∨ k = 1 ∨ k = 2 ∨ k = 3 ∨ k = 4 := by
  have h2 : k.toInt = (0 : Int32).toInt ∨ k.toInt = (1 : Int32).toInt ∨ k.toInt = (2 : Int32).toInt ∨ k.toInt = (3 : Int32).toInt ∨ k.toInt = (4 : Int32).toInt := by simp; omega
  simpa only [Int32.toInt_inj] using h2
theorem own_of6 {k : Int32} (h : 0 ≤ k.toInt ∧ k.toInt < 6) : k = 0 ∨ k = 1 ∨ k = 2 ∨ k = 3 ∨ k = 4 ∨ k = 5 := by
  have h2 : k.toInt = (0 : Int32).toInt ∨ k.toInt = (1 : Int32).toInt ∨ k.toInt = (2 : Int32).toInt ∨ k.toInt = (3 : Int32).toInt ∨ k.toInt = (4 : Int32).toInt ∨ k.toInt = (5 : Int32).toInt := by simp; omega
  simpa only [Int32.toInt_inj] using h2
theorem own_eqI {args : Array Value} {s : State} {t : Term} {k : Int32} (h : (Jvm.Cond.eq t (.int k)).value args s none s [] = some true) : t.eval args s none [] s = some (.int k) := by
  obtain ⟨u, v, hu, hv, k1, k2⟩ := cmp_v (Or.inl h)
  have hv2 : v = .int k := Option.some.inj (hv.symm.trans (Term.int_eval k))
  subst hv2
  cases u <;> simp [Cond.value, hu, hv] at h
  subst h; exact hu
theorem own_fld {args : Array Value} {s : State} {t : Term} {a : Addr} {C n d : String} {k : Int32} (ev : t.eval args s none [] s = some (.ref a)) (h : (Jvm.Cond.eq (.field t C n d) (.int k)).value args s none s [] = some true) : Fld s s.heap a C n d (.int k) :=
  Fld.start ((fld_at ev).symm.trans (own_eqI h))
theorem own_len {args : Array Value} {s : State} {t : Term} {a : Addr} {cl : Cell} {ty : FieldType} {k : Int32} (ev : t.eval args s none [] s = some (.ref a)) (A : Arr s s.heap a cl ty) (h : (Jvm.Cond.eq (.length t) (.int k)).value args s none s [] = some true) : cl.slots.size.toInt32 = k := by
  obtain ⟨b, c, e1, e2, e3⟩ := Term.length_spec (own_eqI h)
  cases ev.symm.trans e1
  cases (A.fin (Vm.Alike.refl _)).symm.trans e2
  exact (Value.int.inj e3).symm
theorem own_lenlt {args : Array Value} {s : State} {t : Term} {a : Addr} {cl : Cell} {ty : FieldType} {k : Int32} (ev : t.eval args s none [] s = some (.ref a)) (A : Arr s s.heap a cl ty) (h : (Jvm.Cond.eq (.length t) (.int k)).value args s none s [] = some true) : cl.slots.size < 2 ^ 31 := by
  have h1 := own_eqI h
  have h2 := A.fin (Vm.Alike.refl _)
  apply Classical.byContradiction
  intro h3
  simp [Term.eval, ev, h2, h3] at h1
theorem own_elem {args : Array Value} {s : State} {t u : Term} {a b : Addr} {cl : Cell} {ty : FieldType} {j : Int32} (ev : t.eval args s none [] s = some (.ref a)) (A : Arr s s.heap a cl ty) (hu : u.eval args s none [] s = some (.ref b)) (h : (Jvm.Cond.eq (.elem t (.int j)) u).value args s none s [] = some true) : cl.slots[j.toNatClampNeg]? = some (.ref b) := by
  obtain ⟨x, y, hx, hy, -, -⟩ := cmp_v (Or.inl h)
  cases hu.symm.trans hy
  have h2 := (elem_in hx ev (Term.int_eval j) A.1).2
  cases x <;> simp [Cond.value, hx, hy] at h
  subst h; exact h2
theorem own_fldN {args : Array Value} {s : State} {t : Term} {a : Addr} {C n d : String} (ev : t.eval args s none [] s = some (.ref a)) (h : (Jvm.Cond.eq (.field t C n d) .null).value args s none s [] = some true) : Fld s s.heap a C n d .null :=
  Fld.start ((fld_at ev).symm.trans (null_v h))
theorem own_cap (w1 : Int32) (h : w1 = 1 ∨ w1 = 2 ∨ w1 = 3 ∨ w1 = 4) : ¬ (((1024 : Int32) * w1) < 0) ∧ ((1024 : Int32) * w1).toNatClampNeg ≤ 4096 := by rcases h with rfl | rfl | rfl | rfl <;> decide
theorem own_of12 {k : Int32} (h : 0 ≤ k.toInt ∧ k.toInt < 12) : k = 0 ∨ k = 1 ∨ k = 2 ∨ k = 3 ∨ k = 4 ∨ k = 5 ∨ k = 6 ∨ k = 7 ∨ k = 8 ∨ k = 9 ∨ k = 10 ∨ k = 11 := by
  have h2 : k.toInt = (0 : Int32).toInt ∨ k.toInt = (1 : Int32).toInt ∨ k.toInt = (2 : Int32).toInt ∨ k.toInt = (3 : Int32).toInt ∨ k.toInt = (4 : Int32).toInt ∨ k.toInt = (5 : Int32).toInt ∨ k.toInt = (6 : Int32).toInt ∨ k.toInt = (7 : Int32).toInt ∨ k.toInt = (8 : Int32).toInt ∨ k.toInt = (9 : Int32).toInt ∨ k.toInt = (10 : Int32).toInt ∨ k.toInt = (11 : Int32).toInt := by simp; omega
  simpa only [Int32.toInt_inj] using h2
def QC (Z : State) (a1 : Addr) (w1 : Int32) (h0 : Heap) (n0 : Nat) (v : Option Value) (h : Heap) (L : List Loc) : Prop := v = none ∧ Fr n0 L ∧ Keep h0 h [a1] ∧ Exa Z h a1 "com/example/muniment_room/munimentroom/categorizer/Columns" ∧ Fld Z h a1 "com/example/muniment_room/munimentroom/categorizer/Columns" "width" "I" (.int w1) ∧ Fld Z h a1 "com/example/muniment_room/munimentroom/categorizer/Columns" "rows" "I" (.int (0 : Int32)) ∧ ∃ (b : Addr) (kb : ClassId), n0 ≤ b ∧ h0.size ≤ b ∧ Fld Z h a1 "com/example/muniment_room/munimentroom/categorizer/Columns" "blocks" "[[I" (.ref b) ∧ Arv Z h b kb (.array .int) (1 : Int32) [.null] .null ∧ OvrA Z kb .int "[I"
theorem d1_0 : decode prog_8_method_1_code 0 = .ok (.aload_n 0, 1) := by decide +kernel
theorem d1_1 : decode prog_8_method_1_code 1 = .ok (.invokespecial 3, 3) := by decide +kernel
theorem d1_4 : decode prog_8_method_1_code 4 = .ok (.aload_n 0, 1) := by decide +kernel
theorem d1_5 : decode prog_8_method_1_code 5 = .ok (.iconst 1, 1) := by decide +kernel
theorem d1_6 : decode prog_8_method_1_code 6 = .ok (.anewarray 9, 3) := by decide +kernel
theorem d1_9 : decode prog_8_method_1_code 9 = .ok (.putfield 11, 3) := by decide +kernel
theorem d1_12 : decode prog_8_method_1_code 12 = .ok (.aload_n 0, 1) := by decide +kernel
theorem d1_13 : decode prog_8_method_1_code 13 = .ok (.iload_n 1, 1) := by decide +kernel
theorem d1_14 : decode prog_8_method_1_code 14 = .ok (.putfield 15, 3) := by decide +kernel
theorem d1_17 : decode prog_8_method_1_code 17 = .ok (.return_, 1) := by decide +kernel
theorem pn_rmC : plainName "com/example/muniment_room/munimentroom/categorizer/Columns" = true := by first | (simp [plainName, overriddenIn]; done) | decide +kernel
theorem ef_rmC (m : MethodId) (a1 : Addr) (w1 : Int32) : entryFrame m #[(.ref a1), (.int w1)] 2 = mkF m 0 #[.val (.ref a1), .val (.int w1)] [] := by first | (simp [entryFrame, mkF, argsToLocals, Value.category]; done) | rfl
set_option maxRecDepth 65536 in
set_option maxHeartbeats 40000000 in
theorem rmC (l : Launch) (Z : State) (a0 : Array Value) (hw : ∀ d ∈ tables_1, d.before a0 Z = true) (ws : List Jvm.Cond) (a1 : Addr) (w1 : Int32) (h0 : Heap) (n0 : Nat) (Z0 : n0 ≤ h0.size) (E_a1 : Exa Z h0 a1 "com/example/muniment_room/munimentroom/categorizer/Columns") (F_w : Fld Z h0 a1 "com/example/muniment_room/munimentroom/categorizer/Columns" "width" "I" (.int (0 : Int32))) (F_b : Fld Z h0 a1 "com/example/muniment_room/munimentroom/categorizer/Columns" "blocks" "[[I" .null) (F_r : Fld Z h0 a1 "com/example/muniment_room/munimentroom/categorizer/Columns" "rows" "I" (.int (0 : Int32))) (g_a1 : n0 ≤ a1) :
    MetFree l (⟨"com/example/muniment_room/munimentroom/categorizer/Columns", "<init>", "(I)V"⟩ : MethodName) (head1 (Jvm.Cond.code (⟨"com/example/muniment_room/munimentroom/categorizer/Columns", "<init>", "(I)V"⟩ : MethodName) prog_8_method_1_code 2 none :: ws) ({ frames := 1, cells := 1, slots := 1, locals := 12 } : Room)) (fun a U => a = #[(.ref a1), (.int w1)] ∧ Z.Warmed39 U.vm ∧ U.heap = h0) (fun _ _ _ _ _ => True) (fun _ U o U' => ∃ v L, o = .returned v ∧ QC Z a1 w1 h0 n0 v U'.heap L ∧ FrameEnd U o U' L ({ frames := 1, cells := 1, slots := 1, locals := 12 } : Room).cells ({ frames := 1, cells := 1, slots := 1, locals := 12 } : Room).slots) := by
  refine MetFree.of_bodySF (plainFor_of_name pn_rmC) hisR ?_
  intro p e s m args below meth c s₁ Bd hml0 hP hK
  obtain ⟨rfl, hZ, hh⟩ := hP
  have hx := Bd.exec
  have hby := Bd.bytes
  have hml : c.maxLocals = 2 := hml0
  have hown : s.vm.findClass "com/example/muniment_room/munimentroom/categorizer/Columns" = some m.cls := findClass_of_methodNamed Bd.named
  have hnm := (name_of_methodNamed Bd.named Bd.method).1
  have X0 : Stand p l e ({ frames := 1, cells := 1, slots := 1, locals := 12 } : Room) s m #[(.ref a1), (.int w1)] below meth c s₁ [] 0 0 := Stand.of_body Bd
  have e0 : s₁.heap = h0 := by rw [← hh, Bd.state]; rfl
  have N0 := Fr.nil n0
  have pre0 : ∀ tt, Steps p.tables e below (s₁.setTop (mkF m 0 #[.val (.ref a1), .val (.int w1)] [])) tt → Steps p.tables e below (s₁.setTop (entryFrame m #[(.ref a1), (.int w1)] 2)) tt := fun tt kt => castTop (ef_rmC m a1 w1) kt
  obtain ⟨T1, X1, e1, st1⟩ := initO X0 hx hZ hown (hw _ (List.mem_of_getElem? (i := 7) rfl)) (hw _ (List.mem_of_getElem? (i := 8) rfl)) (hw _ (List.mem_of_getElem? (i := 9) rfl)) e0 (g := (mkF m 1 #[.val (.ref a1), .val (.int w1)] [(.ref a1)])) rfl (by rw [hml]; rfl) rfl (hb hby d1_1) (by decide) (W := 0) (by show 2 * 0 + _ ≤ _; exact Nat.le_of_eq rfl) (by decide)
  obtain ⟨T2, h2, k2, X2, e2, E2, A2, EE2, O2, st2⟩ := newRA X1 hx hZ hown (by decide) (hw _ (List.mem_of_getElem? (i := 10) rfl)) (hw _ (List.mem_of_getElem? (i := 11) rfl)) e1 (g := (mkF m 6 #[.val (.ref a1), .val (.int w1)] [(.int (1 : Int32)), (.ref a1)])) rfl (hb hby d1_6) rfl (by decide) (cap := 1) (by decide) (by decide) (by decide) (by decide) (ad := "[[I") (by decide)
  obtain ⟨b2, g2⟩ : ∃ z, z = h0.size := ⟨_, rfl⟩
  rw [← g2] at A2 EE2 st2
  have g_b2 : n0 ≤ b2 := Nat.le_trans Z0 (Nat.le_of_eq g2.symm)
  have sz_b2 : h0.size ≤ b2 := Nat.le_trans ((Keep.refl h0 [a1])).1 (Nat.le_of_eq g2.symm)
  have K2 : Keep h0 h2 [a1] := ((Keep.refl h0 [a1])).ext E2
  have V_b2 : Arv Z h2 b2 k2 (.array .int) (1 : Int32) [.null] .null := (Arv.new A2 (by decide)).pad (pad_rep [] .null 1)
  obtain ⟨T3, h3, X3, e3, W3, st3⟩ := putF X2 hx hZ hown (host := "") (Or.inl (hw _ (List.mem_of_getElem? (i := 12) rfl))) Via.refl e2 (Fld.ext E2 F_b) (Exa.ext E2 E_a1) (Or.inl (hw _ (List.mem_of_getElem? (i := 13) rfl))) (hw _ (List.mem_of_getElem? (i := 2) rfl)) (ty := (.array (.array .int))) (by decide) rfl rfl (g := (mkF m 9 #[.val (.ref a1), .val (.int w1)] [(.ref b2), (.ref a1)])) rfl rfl (hb hby d1_9)
  have Fw3 := Fld.same W3 (Fld.ext E2 F_b)
  have N3 := Fr.snoc X3 N0 g_a1
  have K3 : Keep h0 h3 [a1] := (K2).wr W3 (Or.inl (List.mem_of_getElem? (i := 0) rfl))
  obtain ⟨T4, h4, X4, e4, W4, st4⟩ := putF X3 hx hZ hown (host := "") (Or.inl (hw _ (List.mem_of_getElem? (i := 14) rfl))) Via.refl e3 (Fld.other W3 (Fld.ext E2 F_w) (Or.inr (slot_ne (Or.inr (hw _ (List.mem_of_getElem? (i := 15) rfl))) (Or.inl (hw _ (List.mem_of_getElem? (i := 13) rfl))) (by decide) (t := .int) (t' := (.array (.array .int))) (by decide) (by decide)))) (Exa.wr W3 (Exa.ext E2 E_a1)) (Or.inr ⟨(hw _ (List.mem_of_getElem? (i := 15) rfl)), rfl, hnm⟩) (hw _ (List.mem_of_getElem? (i := 2) rfl)) (ty := .int) (by decide) rfl rfl (g := (mkF m 14 #[.val (.ref a1), .val (.int w1)] [(.int w1), (.ref a1)])) rfl rfl (hb hby d1_14)
  have Fw4 := Fld.same W4 (Fld.other W3 (Fld.ext E2 F_w) (Or.inr (slot_ne (Or.inr (hw _ (List.mem_of_getElem? (i := 15) rfl))) (Or.inl (hw _ (List.mem_of_getElem? (i := 13) rfl))) (by decide) (t := .int) (t' := (.array (.array .int))) (by decide) (by decide))))
  have N4 := Fr.snoc X4 N3 g_a1
  have K4 : Keep h0 h4 [a1] := (K3).wr W4 (Or.inl (List.mem_of_getElem? (i := 0) rfl))
  have pre5 : ∀ tt, Steps p.tables e below (T4.setTop (mkF m 17 #[.val (.ref a1), .val (.int w1)] [])) tt → Steps p.tables e below (s₁.setTop (entryFrame m #[(.ref a1), (.int w1)] 2)) tt := by
    intro tt kt
    refine pre0 tt ?_
    show Steps p.tables e below (s₁.setTop (mkF m 0 #[.val (.ref a1), .val (.int w1)] [])) _
    refine XS.aloadN X0.here hx rfl (hb hby d1_0) rfl rfl ?_
    show Steps p.tables e below (s₁.setTop (mkF m 1 #[.val (.ref a1), .val (.int w1)] [(.ref a1)])) _
    refine st1 _ ?_
    show Steps p.tables e below (T1.setTop (mkF m 4 #[.val (.ref a1), .val (.int w1)] [])) _
    refine XS.aloadN X1.here hx rfl (hb hby d1_4) rfl rfl ?_
    show Steps p.tables e below (T1.setTop (mkF m 5 #[.val (.ref a1), .val (.int w1)] [(.ref a1)])) _
    refine XS.iconst X1.here hx rfl (hb hby d1_5) ?_
    show Steps p.tables e below (T1.setTop (mkF m 6 #[.val (.ref a1), .val (.int w1)] [(.int (1 : Int32)), (.ref a1)])) _
    refine st2 _ ?_
    show Steps p.tables e below (T2.setTop (mkF m 9 #[.val (.ref a1), .val (.int w1)] [(.ref b2), (.ref a1)])) _
    refine st3 _ ?_
    show Steps p.tables e below (T3.setTop (mkF m 12 #[.val (.ref a1), .val (.int w1)] [])) _
    refine XS.aloadN X3.here hx rfl (hb hby d1_12) rfl rfl ?_
    show Steps p.tables e below (T3.setTop (mkF m 13 #[.val (.ref a1), .val (.int w1)] [(.ref a1)])) _
    refine XS.iloadN X3.here hx rfl (hb hby d1_13) rfl ?_
    show Steps p.tables e below (T3.setTop (mkF m 14 #[.val (.ref a1), .val (.int w1)] [(.int w1), (.ref a1)])) _
    refine st4 _ ?_
    exact kt
  obtain ⟨fs, hr, hrun, hended, hW, hsame⟩ := X4.leave (v := none) (fun _ => rfl)
  refine ⟨_, _, pre5 _ ?_, hrun, hended, _, _, rfl, ?_, ⟨_, rfl⟩, hW, hsame.mono (by decide) (by decide)⟩
  · show Steps p.tables e below (T4.setTop (mkF m 17 #[.val (.ref a1), .val (.int w1)] [])) _
    exact X4.returnOut hx Bd.returns (hb hby d1_17) hr
  · show QC Z a1 w1 h0 n0 _ T4.heap _
    rw [e4]
    exact ⟨rfl, N4, K4, (Exa.wr W4 (Exa.wr W3 (Exa.ext E2 E_a1))), Fw4, (Fld.other W4 (Fld.other W3 (Fld.ext E2 F_r) (Or.inr (slot_ne (Or.inl (hw _ (List.mem_of_getElem? (i := 22) rfl))) (Or.inl (hw _ (List.mem_of_getElem? (i := 13) rfl))) (by decide) (t := .int) (t' := (.array (.array .int))) (by decide) (by decide)))) (Or.inr (slot_ne (Or.inl (hw _ (List.mem_of_getElem? (i := 22) rfl))) (Or.inr (hw _ (List.mem_of_getElem? (i := 15) rfl))) (by decide) (t := .int) (t' := .int) (by decide) (by decide)))), b2, k2, g_b2, sz_b2, (Fld.other W4 Fw3 (Or.inr (slot_ne (Or.inl (hw _ (List.mem_of_getElem? (i := 13) rfl))) (Or.inr (hw _ (List.mem_of_getElem? (i := 15) rfl))) (by decide) (t := (.array (.array .int))) (t' := .int) (by decide) (by decide)))), ((V_b2.other W3 (Ne.symm (Nat.ne_of_lt (Nat.lt_of_lt_of_le (F_w).lt (Nat.le_of_eq g2.symm))))).other W4 (Ne.symm (Nat.ne_of_lt (Nat.lt_of_lt_of_le (F_w).lt (Nat.le_of_eq g2.symm))))), O2⟩
def QA (Z : State) (a1 b : Addr) (kb : ClassId) (w1 : Int32) (h0 : Heap) (n0 : Nat) (v : Option Value) (h : Heap) (L : List Loc) : Prop := v = some (.int (0 : Int32)) ∧ Fr n0 L ∧ Keep h0 h [a1, b] ∧ Exa Z h a1 "com/example/muniment_room/munimentroom/categorizer/Columns" ∧ Fld Z h a1 "com/example/muniment_room/munimentroom/categorizer/Columns" "width" "I" (.int w1) ∧ Fld Z h a1 "com/example/muniment_room/munimentroom/categorizer/Columns" "rows" "I" (.int (1 : Int32)) ∧ Fld Z h a1 "com/example/muniment_room/munimentroom/categorizer/Columns" "blocks" "[[I" (.ref b) ∧ ∃ (c : Addr) (kc : ClassId), n0 ≤ c ∧ h0.size ≤ c ∧ Arv Z h b kb (.array .int) (1 : Int32) [(.ref c)] .null ∧ Arv Z h c kc .int ((1024 : Int32) * w1) [] (.int (0 : Int32))
theorem d3_0 : decode prog_8_method_3_code 0 = .ok (.aload_n 0, 1) := by decide +kernel
theorem d3_1 : decode prog_8_method_3_code 1 = .ok (.getfield 19, 3) := by decide +kernel
theorem d3_4 : decode prog_8_method_3_code 4 = .ok (.sipush 1023, 3) := by decide +kernel
theorem d3_7 : decode prog_8_method_3_code 7 = .ok (.iand, 1) := by decide +kernel
theorem d3_8 : decode prog_8_method_3_code 8 = .ok (.ifCond .ne 53, 3) := by decide +kernel
theorem d3_11 : decode prog_8_method_3_code 11 = .ok (.aload_n 0, 1) := by decide +kernel
theorem d3_12 : decode prog_8_method_3_code 12 = .ok (.getfield 19, 3) := by decide +kernel
theorem d3_15 : decode prog_8_method_3_code 15 = .ok (.bipush 10, 2) := by decide +kernel
theorem d3_17 : decode prog_8_method_3_code 17 = .ok (.iushr, 1) := by decide +kernel
theorem d3_18 : decode prog_8_method_3_code 18 = .ok (.istore_n 1, 1) := by decide +kernel
theorem d3_19 : decode prog_8_method_3_code 19 = .ok (.iload_n 1, 1) := by decide +kernel
theorem d3_20 : decode prog_8_method_3_code 20 = .ok (.aload_n 0, 1) := by decide +kernel
theorem d3_21 : decode prog_8_method_3_code 21 = .ok (.getfield 11, 3) := by decide +kernel
theorem d3_24 : decode prog_8_method_3_code 24 = .ok (.arraylength, 1) := by decide +kernel
theorem d3_25 : decode prog_8_method_3_code 25 = .ok (.if_icmp .ne 20, 3) := by decide +kernel
theorem d3_45 : decode prog_8_method_3_code 45 = .ok (.aload_n 0, 1) := by decide +kernel
theorem d3_46 : decode prog_8_method_3_code 46 = .ok (.getfield 11, 3) := by decide +kernel
theorem d3_49 : decode prog_8_method_3_code 49 = .ok (.iload_n 1, 1) := by decide +kernel
theorem d3_50 : decode prog_8_method_3_code 50 = .ok (.sipush 1024, 3) := by decide +kernel
theorem d3_53 : decode prog_8_method_3_code 53 = .ok (.aload_n 0, 1) := by decide +kernel
theorem d3_54 : decode prog_8_method_3_code 54 = .ok (.getfield 15, 3) := by decide +kernel
theorem d3_57 : decode prog_8_method_3_code 57 = .ok (.imul, 1) := by decide +kernel
theorem d3_58 : decode prog_8_method_3_code 58 = .ok (.newarray .int, 2) := by decide +kernel
theorem d3_60 : decode prog_8_method_3_code 60 = .ok (.aastore, 1) := by decide +kernel
theorem d3_61 : decode prog_8_method_3_code 61 = .ok (.aload_n 0, 1) := by decide +kernel
theorem d3_62 : decode prog_8_method_3_code 62 = .ok (.dup, 1) := by decide +kernel
theorem d3_63 : decode prog_8_method_3_code 63 = .ok (.getfield 19, 3) := by decide +kernel
theorem d3_66 : decode prog_8_method_3_code 66 = .ok (.dup_x1, 1) := by decide +kernel
theorem d3_67 : decode prog_8_method_3_code 67 = .ok (.iconst 1, 1) := by decide +kernel
theorem d3_68 : decode prog_8_method_3_code 68 = .ok (.iadd, 1) := by decide +kernel
theorem d3_69 : decode prog_8_method_3_code 69 = .ok (.putfield 19, 3) := by decide +kernel
theorem d3_72 : decode prog_8_method_3_code 72 = .ok (.ireturn, 1) := by decide +kernel
theorem pn_rmA0 : plainName "com/example/muniment_room/munimentroom/categorizer/Columns" = true := by first | (simp [plainName, overriddenIn]; done) | decide +kernel
theorem ef_rmA0 (m : MethodId) (a1 : Addr) : entryFrame m #[(.ref a1)] 2 = mkF m 0 #[.val (.ref a1), .unset] [] := by first | (simp [entryFrame, mkF, argsToLocals, Value.category]; done) | rfl
set_option maxRecDepth 65536 in
set_option maxHeartbeats 40000000 in
theorem rmA0 (l : Launch) (Z : State) (a0 : Array Value) (hw : ∀ d ∈ tables_1, d.before a0 Z = true) (ws : List Jvm.Cond) (a1 b : Addr) (kb : ClassId) (w1 : Int32) (h0 : Heap) (n0 : Nat) (Z0 : n0 ≤ h0.size) (E_a1 : Exa Z h0 a1 "com/example/muniment_room/munimentroom/categorizer/Columns") (F_w : Fld Z h0 a1 "com/example/muniment_room/munimentroom/categorizer/Columns" "width" "I" (.int w1)) (F_b : Fld Z h0 a1 "com/example/muniment_room/munimentroom/categorizer/Columns" "blocks" "[[I" (.ref b)) (F_r : Fld Z h0 a1 "com/example/muniment_room/munimentroom/categorizer/Columns" "rows" "I" (.int (0 : Int32))) (V_b : Arv Z h0 b kb (.array .int) (1 : Int32) [.null] .null) (O_b : OvrA Z kb .int "[I") (g_a1 : n0 ≤ a1) (g_b : n0 ≤ b) (hne : a1 ≠ b) (hw1 : w1 = 1 ∨ w1 = 2 ∨ w1 = 3 ∨ w1 = 4) :
    MetFree l (⟨"com/example/muniment_room/munimentroom/categorizer/Columns", "add", "()I"⟩ : MethodName) (head1 (Jvm.Cond.code (⟨"com/example/muniment_room/munimentroom/categorizer/Columns", "add", "()I"⟩ : MethodName) prog_8_method_3_code 2 (some .int) :: ws) ({ frames := 0, cells := 1, slots := 4096, locals := 0 } : Room)) (fun a U => a = #[(.ref a1)] ∧ Z.Warmed39 U.vm ∧ U.heap = h0) (fun _ _ _ _ _ => True) (fun _ U o U' => ∃ v L, o = .returned v ∧ QA Z a1 b kb w1 h0 n0 v U'.heap L ∧ FrameEnd U o U' L ({ frames := 0, cells := 1, slots := 4096, locals := 0 } : Room).cells ({ frames := 0, cells := 1, slots := 4096, locals := 0 } : Room).slots) := by
  refine MetFree.of_bodySF (plainFor_of_name pn_rmA0) hisR ?_
  intro p e s m args below meth c s₁ Bd hml0 hP hK
  obtain ⟨rfl, hZ, hh⟩ := hP
  have hx := Bd.exec
  have hby := Bd.bytes
  have hml : c.maxLocals = 2 := hml0
  have hown : s.vm.findClass "com/example/muniment_room/munimentroom/categorizer/Columns" = some m.cls := findClass_of_methodNamed Bd.named
  have hnm := (name_of_methodNamed Bd.named Bd.method).1
  have X0 : Stand p l e ({ frames := 0, cells := 1, slots := 4096, locals := 0 } : Room) s m #[(.ref a1)] below meth c s₁ [] 0 0 := Stand.of_body Bd
  have e0 : s₁.heap = h0 := by rw [← hh, Bd.state]; rfl
  have N0 := Fr.nil n0
  have pre0 : ∀ tt, Steps p.tables e below (s₁.setTop (mkF m 0 #[.val (.ref a1), .unset] [])) tt → Steps p.tables e below (s₁.setTop (entryFrame m #[(.ref a1)] 2)) tt := fun tt kt => castTop (ef_rmA0 m a1) kt
  obtain ⟨T1, X1, e1, st1⟩ := getF X0 hx hZ hown (host := "") (Or.inl (hw _ (List.mem_of_getElem? (i := 21) rfl))) Via.refl e0 F_r (g := (mkF m 1 #[.val (.ref a1), .unset] [(.ref a1)])) rfl rfl (hb hby d3_1)
  obtain ⟨T2, X2, e2, st2⟩ := getF X1 hx hZ hown (host := "") (Or.inl (hw _ (List.mem_of_getElem? (i := 21) rfl))) Via.refl e1 F_r (g := (mkF m 12 #[.val (.ref a1), .unset] [(.ref a1)])) rfl rfl (hb hby d3_12)
  obtain ⟨T3, X3, e3, st3⟩ := getF X2 hx hZ hown (host := "") (Or.inl (hw _ (List.mem_of_getElem? (i := 12) rfl))) Via.refl e2 F_b (g := (mkF m 21 #[.val (.ref a1), .val (.int (0 : Int32))] [(.ref a1), (.int (0 : Int32))])) rfl rfl (hb hby d3_21)
  have VO4 := V_b
  obtain ⟨cl4, Ar4, q4, S4, M4, H4, G4⟩ := VO4
  obtain ⟨T5, X5, e5, st5⟩ := getF X3 hx hZ hown (host := "") (Or.inl (hw _ (List.mem_of_getElem? (i := 12) rfl))) Via.refl e3 F_b (g := (mkF m 46 #[.val (.ref a1), .val (.int (0 : Int32))] [(.ref a1)])) rfl rfl (hb hby d3_46)
  obtain ⟨T6, X6, e6, st6⟩ := getF X5 hx hZ hown (host := "") (Or.inl (hw _ (List.mem_of_getElem? (i := 14) rfl))) Via.refl e5 F_w (g := (mkF m 54 #[.val (.ref a1), .val (.int (0 : Int32))] [(.ref a1), (.int (1024 : Int32)), (.int (0 : Int32)), (.ref b)])) rfl rfl (hb hby d3_54)
  obtain ⟨T7, h7, k7, X7, e7, E7, A7, EE7, st7⟩ := newPE X6 hx hZ (hw _ (List.mem_of_getElem? (i := 23) rfl)) e6 (g := (mkF m 58 #[.val (.ref a1), .val (.int (0 : Int32))] [(.int ((1024 : Int32) * w1)), (.int (0 : Int32)), (.ref b)])) rfl (hb hby d3_58) rfl (own_cap w1 hw1).1 (cap := 4096) (own_cap w1 hw1).2 (by decide) (by decide) (by decide) (ad := "[I") (by decide)
  obtain ⟨b7, g7⟩ : ∃ z, z = h0.size := ⟨_, rfl⟩
  rw [← g7] at A7 EE7 st7
  have g_b7 : n0 ≤ b7 := Nat.le_trans Z0 (Nat.le_of_eq g7.symm)
  have sz_b7 : h0.size ≤ b7 := Nat.le_trans ((Keep.refl h0 [a1, b])).1 (Nat.le_of_eq g7.symm)
  have K7 : Keep h0 h7 [a1, b] := ((Keep.refl h0 [a1, b])).ext E7
  have V_b7 : Arv Z h7 b7 k7 .int ((1024 : Int32) * w1) [] (.int (0 : Int32)) := Arv.new A7 (own_cap w1 hw1).1
  have VO8 := (V_b.ext E7)
  obtain ⟨cl8, Ar8, q8, S8, M8, H8, G8⟩ := VO8
  have hin8 : ¬ ((0 : Int32) < 0 ∨ cl8.slots.size ≤ ((0 : Int32)).toNatClampNeg) := inb_of S8 ⟨by decide, by decide⟩
  obtain ⟨T9, h9, X9, e9, W9, st9⟩ := stR X7 hx hZ e7 Ar8 (j := (0 : Int32)) hin8 rfl (Sto.ofVA Ar8 q8 O_b (Ins.self EE7)) (g := (mkF m 60 #[.val (.ref a1), .val (.int (0 : Int32))] [(.ref b7), (.int (0 : Int32)), (.ref b)])) rfl rfl (hb hby d3_60)
  have N9 := Fr.snoc X9 N0 g_b
  have K9 : Keep h0 h9 [a1, b] := (K7).wr W9 (Or.inl (List.mem_of_getElem? (i := 1) rfl))
  have V9 : Arv Z h9 b kb (.array .int) (1 : Int32) [(.ref b7)] .null := Arv.set Ar8 q8 S8 M8 H8 G8 rfl W9 0 rfl (Nat.le_of_ble_eq_true rfl)
  obtain ⟨T10, X10, e10, st10⟩ := getF X9 hx hZ hown (host := "") (Or.inl (hw _ (List.mem_of_getElem? (i := 21) rfl))) Via.refl e9 (Fld.other W9 (Fld.ext E7 F_r) (Or.inl hne)) (g := (mkF m 63 #[.val (.ref a1), .val (.int (0 : Int32))] [(.ref a1), (.ref a1)])) rfl rfl (hb hby d3_63)
  obtain ⟨T11, h11, X11, e11, W11, st11⟩ := putF X10 hx hZ hown (host := "") (Or.inl (hw _ (List.mem_of_getElem? (i := 21) rfl))) Via.refl e10 (Fld.other W9 (Fld.ext E7 F_r) (Or.inl hne)) (Exa.wr W9 (Exa.ext E7 E_a1)) (Or.inl (hw _ (List.mem_of_getElem? (i := 22) rfl))) (hw _ (List.mem_of_getElem? (i := 2) rfl)) (ty := .int) (by decide) rfl rfl (g := (mkF m 69 #[.val (.ref a1), .val (.int (0 : Int32))] [(.int (1 : Int32)), (.ref a1), (.int (0 : Int32))])) rfl rfl (hb hby d3_69)
  have Fw11 := Fld.same W11 (Fld.other W9 (Fld.ext E7 F_r) (Or.inl hne))
  have N11 := Fr.snoc X11 N9 g_a1
  have K11 : Keep h0 h11 [a1, b] := (K9).wr W11 (Or.inl (List.mem_of_getElem? (i := 0) rfl))
  have pre12 : ∀ tt, Steps p.tables e below (T11.setTop (mkF m 72 #[.val (.ref a1), .val (.int (0 : Int32))] [(.int (0 : Int32))])) tt → Steps p.tables e below (s₁.setTop (entryFrame m #[(.ref a1)] 2)) tt := by
    intro tt kt
    refine pre0 tt ?_
    show Steps p.tables e below (s₁.setTop (mkF m 0 #[.val (.ref a1), .unset] [])) _
    refine XS.aloadN X0.here hx rfl (hb hby d3_0) rfl rfl ?_
    show Steps p.tables e below (s₁.setTop (mkF m 1 #[.val (.ref a1), .unset] [(.ref a1)])) _
    refine st1 _ ?_
    show Steps p.tables e below (T1.setTop (mkF m 4 #[.val (.ref a1), .unset] [(.int (0 : Int32))])) _
    refine XS.sipush X1.here hx rfl (hb hby d3_4) ?_
    show Steps p.tables e below (T1.setTop (mkF m 7 #[.val (.ref a1), .unset] [(.int (1023 : Int32)), (.int (0 : Int32))])) _
    refine XS.iand X1.here hx rfl (hb hby d3_7) rfl ?_
    show Steps p.tables e below (T1.setTop (mkF m 8 #[.val (.ref a1), .unset] [(.int (0 : Int32))])) _
    refine XS.ifNo X1.here hx rfl (hb hby d3_8) rfl ((if0 _ _).trans (teq (rfl : (0 : Int32) = (0 : Int32))).2) ?_
    show Steps p.tables e below (T1.setTop (mkF m 11 #[.val (.ref a1), .unset] [])) _
    refine XS.aloadN X1.here hx rfl (hb hby d3_11) rfl rfl ?_
    show Steps p.tables e below (T1.setTop (mkF m 12 #[.val (.ref a1), .unset] [(.ref a1)])) _
    refine st2 _ ?_
    show Steps p.tables e below (T2.setTop (mkF m 15 #[.val (.ref a1), .unset] [(.int (0 : Int32))])) _
    refine XS.bipush X2.here hx rfl (hb hby d3_15) ?_
    show Steps p.tables e below (T2.setTop (mkF m 17 #[.val (.ref a1), .unset] [(.int (10 : Int32)), (.int (0 : Int32))])) _
    refine XS.iushr X2.here hx rfl (hb hby d3_17) rfl ?_
    show Steps p.tables e below (T2.setTop (mkF m 18 #[.val (.ref a1), .unset] [(.int (0 : Int32))])) _
    refine XS.istoreN X2.here hx rfl (hb hby d3_18) rfl (l' := #[.val (.ref a1), .val (.int (0 : Int32))]) rfl ?_
    show Steps p.tables e below (T2.setTop (mkF m 19 #[.val (.ref a1), .val (.int (0 : Int32))] [])) _
    refine XS.iloadN X2.here hx rfl (hb hby d3_19) rfl ?_
    show Steps p.tables e below (T2.setTop (mkF m 20 #[.val (.ref a1), .val (.int (0 : Int32))] [(.int (0 : Int32))])) _
    refine XS.aloadN X2.here hx rfl (hb hby d3_20) rfl rfl ?_
    show Steps p.tables e below (T2.setTop (mkF m 21 #[.val (.ref a1), .val (.int (0 : Int32))] [(.ref a1), (.int (0 : Int32))])) _
    refine st3 _ ?_
    show Steps p.tables e below (T3.setTop (mkF m 24 #[.val (.ref a1), .val (.int (0 : Int32))] [(.ref b), (.int (0 : Int32))])) _
    refine X3.arraylength hx (by rw [e3]; exact Ar4.1) (State.isArrayOf_alike hZ.alike Ar4.2.1) (g := (mkF m 24 #[.val (.ref a1), .val (.int (0 : Int32))] [(.ref b), (.int (0 : Int32))])) rfl rfl (hb hby d3_24) _ ?_
    rw [len_of S4 M4]
    show Steps p.tables e below (T3.setTop (mkF m 25 #[.val (.ref a1), .val (.int (0 : Int32))] [(.int (1 : Int32)), (.int (0 : Int32))])) _
    refine XS.icmpYes X3.here hx rfl (pc0 := 25) (pc' := 45) rfl (hb hby d3_25) rfl (feq (by decide : ¬ ((0 : Int32) = (1 : Int32)))).2 (by decide) (by decide) ?_
    show Steps p.tables e below (T3.setTop (mkF m 45 #[.val (.ref a1), .val (.int (0 : Int32))] [])) _
    refine XS.aloadN X3.here hx rfl (hb hby d3_45) rfl rfl ?_
    show Steps p.tables e below (T3.setTop (mkF m 46 #[.val (.ref a1), .val (.int (0 : Int32))] [(.ref a1)])) _
    refine st5 _ ?_
    show Steps p.tables e below (T5.setTop (mkF m 49 #[.val (.ref a1), .val (.int (0 : Int32))] [(.ref b)])) _
    refine XS.iloadN X5.here hx rfl (hb hby d3_49) rfl ?_
    show Steps p.tables e below (T5.setTop (mkF m 50 #[.val (.ref a1), .val (.int (0 : Int32))] [(.int (0 : Int32)), (.ref b)])) _
    refine XS.sipush X5.here hx rfl (hb hby d3_50) ?_
    show Steps p.tables e below (T5.setTop (mkF m 53 #[.val (.ref a1), .val (.int (0 : Int32))] [(.int (1024 : Int32)), (.int (0 : Int32)), (.ref b)])) _
    refine XS.aloadN X5.here hx rfl (hb hby d3_53) rfl rfl ?_
    show Steps p.tables e below (T5.setTop (mkF m 54 #[.val (.ref a1), .val (.int (0 : Int32))] [(.ref a1), (.int (1024 : Int32)), (.int (0 : Int32)), (.ref b)])) _
    refine st6 _ ?_
    show Steps p.tables e below (T6.setTop (mkF m 57 #[.val (.ref a1), .val (.int (0 : Int32))] [(.int w1), (.int (1024 : Int32)), (.int (0 : Int32)), (.ref b)])) _
    refine XS.imul X6.here hx rfl (hb hby d3_57) rfl ?_
    show Steps p.tables e below (T6.setTop (mkF m 58 #[.val (.ref a1), .val (.int (0 : Int32))] [(.int ((1024 : Int32) * w1)), (.int (0 : Int32)), (.ref b)])) _
    refine st7 _ ?_
    show Steps p.tables e below (T7.setTop (mkF m 60 #[.val (.ref a1), .val (.int (0 : Int32))] [(.ref b7), (.int (0 : Int32)), (.ref b)])) _
    refine st9 _ ?_
    show Steps p.tables e below (T9.setTop (mkF m 61 #[.val (.ref a1), .val (.int (0 : Int32))] [])) _
    refine XS.aloadN X9.here hx rfl (hb hby d3_61) rfl rfl ?_
    show Steps p.tables e below (T9.setTop (mkF m 62 #[.val (.ref a1), .val (.int (0 : Int32))] [(.ref a1)])) _
    refine XS.dup X9.here hx rfl (hb hby d3_62) rfl rfl ?_
    show Steps p.tables e below (T9.setTop (mkF m 63 #[.val (.ref a1), .val (.int (0 : Int32))] [(.ref a1), (.ref a1)])) _
    refine st10 _ ?_
    show Steps p.tables e below (T10.setTop (mkF m 66 #[.val (.ref a1), .val (.int (0 : Int32))] [(.int (0 : Int32)), (.ref a1)])) _
    refine XS.dupX1 X10.here hx rfl (hb hby d3_66) rfl rfl rfl ?_
    show Steps p.tables e below (T10.setTop (mkF m 67 #[.val (.ref a1), .val (.int (0 : Int32))] [(.int (0 : Int32)), (.ref a1), (.int (0 : Int32))])) _
    refine XS.iconst X10.here hx rfl (hb hby d3_67) ?_
    show Steps p.tables e below (T10.setTop (mkF m 68 #[.val (.ref a1), .val (.int (0 : Int32))] [(.int (1 : Int32)), (.int (0 : Int32)), (.ref a1), (.int (0 : Int32))])) _
    refine XS.iadd X10.here hx rfl (hb hby d3_68) rfl ?_
    show Steps p.tables e below (T10.setTop (mkF m 69 #[.val (.ref a1), .val (.int (0 : Int32))] [(.int (1 : Int32)), (.ref a1), (.int (0 : Int32))])) _
    refine st11 _ ?_
    exact kt
  obtain ⟨fs, hr, hrun, hended, hW, hsame⟩ := X11.leave (v := some (.int (0 : Int32))) (fun h => by rw [Bd.returns] at h; cases h)
  refine ⟨_, _, pre12 _ ?_, hrun, hended, _, _, rfl, ?_, ⟨_, rfl⟩, hW, hsame.mono (by decide) (by decide)⟩
  · show Steps p.tables e below (T11.setTop (mkF m 72 #[.val (.ref a1), .val (.int (0 : Int32))] [(.int (0 : Int32))])) _
    exact retI X11 hx Bd.returns (hb hby d3_72) hr
  · show QA Z a1 b kb w1 h0 n0 _ T11.heap _
    rw [e11]
    exact ⟨rfl, N11, K11, (Exa.wr W11 (Exa.wr W9 (Exa.ext E7 E_a1))), (Fld.other W11 (Fld.other W9 (Fld.ext E7 F_w) (Or.inl hne)) (Or.inr (slot_ne (Or.inr (hw _ (List.mem_of_getElem? (i := 15) rfl))) (Or.inl (hw _ (List.mem_of_getElem? (i := 22) rfl))) (by decide) (t := .int) (t' := .int) (by decide) (by decide)))), Fw11, (Fld.other W11 (Fld.other W9 (Fld.ext E7 F_b) (Or.inl hne)) (Or.inr (slot_ne (Or.inl (hw _ (List.mem_of_getElem? (i := 13) rfl))) (Or.inl (hw _ (List.mem_of_getElem? (i := 22) rfl))) (by decide) (t := (.array (.array .int))) (t' := .int) (by decide) (by decide)))), b7, k7, g_b7, sz_b7, (V9.other W11 (Ne.symm hne)), ((V_b7.other W9 (Ne.symm (Nat.ne_of_lt (Nat.lt_of_lt_of_le (V_b).lt (Nat.le_of_eq g7.symm))))).other W11 (Ne.symm (Nat.ne_of_lt (Nat.lt_of_lt_of_le (F_w).lt (Nat.le_of_eq g7.symm)))))⟩
def QA1 (Z : State) (a1 b : Addr) (w1 r1 r2 : Int32) (h0 : Heap) (n0 : Nat) (v : Option Value) (h : Heap) (L : List Loc) : Prop := v = some (.int r1) ∧ Fr n0 L ∧ Keep h0 h [a1] ∧ Exa Z h a1 "com/example/muniment_room/munimentroom/categorizer/Columns" ∧ Fld Z h a1 "com/example/muniment_room/munimentroom/categorizer/Columns" "width" "I" (.int w1) ∧ Fld Z h a1 "com/example/muniment_room/munimentroom/categorizer/Columns" "rows" "I" (.int r2) ∧ Fld Z h a1 "com/example/muniment_room/munimentroom/categorizer/Columns" "blocks" "[[I" (.ref b)
theorem pn_rmA1 : plainName "com/example/muniment_room/munimentroom/categorizer/Columns" = true := by first | (simp [plainName, overriddenIn]; done) | decide +kernel
theorem ef_rmA1 (m : MethodId) (a1 : Addr) : entryFrame m #[(.ref a1)] 2 = mkF m 0 #[.val (.ref a1), .unset] [] := by first | (simp [entryFrame, mkF, argsToLocals, Value.category]; done) | rfl
set_option maxRecDepth 65536 in
set_option maxHeartbeats 40000000 in
theorem rmA1 (l : Launch) (Z : State) (a0 : Array Value) (hw : ∀ d ∈ tables_1, d.before a0 Z = true) (ws : List Jvm.Cond) (a1 b : Addr) (w1 r1 r2 : Int32) (h0 : Heap) (n0 : Nat) (Z0 : n0 ≤ h0.size) (E_a1 : Exa Z h0 a1 "com/example/muniment_room/munimentroom/categorizer/Columns") (F_w : Fld Z h0 a1 "com/example/muniment_room/munimentroom/categorizer/Columns" "width" "I" (.int w1)) (F_b : Fld Z h0 a1 "com/example/muniment_room/munimentroom/categorizer/Columns" "blocks" "[[I" (.ref b)) (F_r : Fld Z h0 a1 "com/example/muniment_room/munimentroom/categorizer/Columns" "rows" "I" (.int r1)) (g_a1 : n0 ≤ a1) (hr1 : ¬ ((r1 &&& (1023 : Int32)) = (0 : Int32))) (hr2 : r1 + (1 : Int32) = r2) :
    MetFree l (⟨"com/example/muniment_room/munimentroom/categorizer/Columns", "add", "()I"⟩ : MethodName) (head1 (Jvm.Cond.code (⟨"com/example/muniment_room/munimentroom/categorizer/Columns", "add", "()I"⟩ : MethodName) prog_8_method_3_code 2 (some .int) :: ws) ({ frames := 0, cells := 0, slots := 0, locals := 0 } : Room)) (fun a U => a = #[(.ref a1)] ∧ Z.Warmed39 U.vm ∧ U.heap = h0) (fun _ _ _ _ _ => True) (fun _ U o U' => ∃ v L, o = .returned v ∧ QA1 Z a1 b w1 r1 r2 h0 n0 v U'.heap L ∧ FrameEnd U o U' L ({ frames := 0, cells := 0, slots := 0, locals := 0 } : Room).cells ({ frames := 0, cells := 0, slots := 0, locals := 0 } : Room).slots) := by
  refine MetFree.of_bodySF (plainFor_of_name pn_rmA1) hisR ?_
  intro p e s m args below meth c s₁ Bd hml0 hP hK
  obtain ⟨rfl, hZ, hh⟩ := hP
  have hx := Bd.exec
  have hby := Bd.bytes
  have hml : c.maxLocals = 2 := hml0
  have hown : s.vm.findClass "com/example/muniment_room/munimentroom/categorizer/Columns" = some m.cls := findClass_of_methodNamed Bd.named
  have hnm := (name_of_methodNamed Bd.named Bd.method).1
  have X0 : Stand p l e ({ frames := 0, cells := 0, slots := 0, locals := 0 } : Room) s m #[(.ref a1)] below meth c s₁ [] 0 0 := Stand.of_body Bd
  have e0 : s₁.heap = h0 := by rw [← hh, Bd.state]; rfl
  have N0 := Fr.nil n0
  have pre0 : ∀ tt, Steps p.tables e below (s₁.setTop (mkF m 0 #[.val (.ref a1), .unset] [])) tt → Steps p.tables e below (s₁.setTop (entryFrame m #[(.ref a1)] 2)) tt := fun tt kt => castTop (ef_rmA1 m a1) kt
  obtain ⟨T1, X1, e1, st1⟩ := getF X0 hx hZ hown (host := "") (Or.inl (hw _ (List.mem_of_getElem? (i := 21) rfl))) Via.refl e0 F_r (g := (mkF m 1 #[.val (.ref a1), .unset] [(.ref a1)])) rfl rfl (hb hby d3_1)
  obtain ⟨T2, X2, e2, st2⟩ := getF X1 hx hZ hown (host := "") (Or.inl (hw _ (List.mem_of_getElem? (i := 21) rfl))) Via.refl e1 F_r (g := (mkF m 63 #[.val (.ref a1), .unset] [(.ref a1), (.ref a1)])) rfl rfl (hb hby d3_63)
  obtain ⟨T3, h3, X3, e3, W3, st3⟩ := putF X2 hx hZ hown (host := "") (Or.inl (hw _ (List.mem_of_getElem? (i := 21) rfl))) Via.refl e2 F_r E_a1 (Or.inl (hw _ (List.mem_of_getElem? (i := 22) rfl))) (hw _ (List.mem_of_getElem? (i := 2) rfl)) (ty := .int) (by decide) rfl rfl (g := (mkF m 69 #[.val (.ref a1), .unset] [(.int r2), (.ref a1), (.int r1)])) rfl rfl (hb hby d3_69)
  have Fw3 := Fld.same W3 F_r
  have N3 := Fr.snoc X3 N0 g_a1
  have K3 : Keep h0 h3 [a1] := ((Keep.refl h0 [a1])).wr W3 (Or.inl (List.mem_of_getElem? (i := 0) rfl))
  have pre4 : ∀ tt, Steps p.tables e below (T3.setTop (mkF m 72 #[.val (.ref a1), .unset] [(.int r1)])) tt → Steps p.tables e below (s₁.setTop (entryFrame m #[(.ref a1)] 2)) tt := by
    intro tt kt
    refine pre0 tt ?_
    show Steps p.tables e below (s₁.setTop (mkF m 0 #[.val (.ref a1), .unset] [])) _
    refine XS.aloadN X0.here hx rfl (hb hby d3_0) rfl rfl ?_
    show Steps p.tables e below (s₁.setTop (mkF m 1 #[.val (.ref a1), .unset] [(.ref a1)])) _
    refine st1 _ ?_
    show Steps p.tables e below (T1.setTop (mkF m 4 #[.val (.ref a1), .unset] [(.int r1)])) _
    refine XS.sipush X1.here hx rfl (hb hby d3_4) ?_
    show Steps p.tables e below (T1.setTop (mkF m 7 #[.val (.ref a1), .unset] [(.int (1023 : Int32)), (.int r1)])) _
    refine XS.iand X1.here hx rfl (hb hby d3_7) rfl ?_
    show Steps p.tables e below (T1.setTop (mkF m 8 #[.val (.ref a1), .unset] [(.int (r1 &&& (1023 : Int32)))])) _
    refine XS.ifYes X1.here hx rfl (pc0 := 8) (pc' := 61) rfl (hb hby d3_8) rfl ((if0 _ _).trans (feq hr1).2) (by decide) (by decide) ?_
    show Steps p.tables e below (T1.setTop (mkF m 61 #[.val (.ref a1), .unset] [])) _
    refine XS.aloadN X1.here hx rfl (hb hby d3_61) rfl rfl ?_
    show Steps p.tables e below (T1.setTop (mkF m 62 #[.val (.ref a1), .unset] [(.ref a1)])) _
    refine XS.dup X1.here hx rfl (hb hby d3_62) rfl rfl ?_
    show Steps p.tables e below (T1.setTop (mkF m 63 #[.val (.ref a1), .unset] [(.ref a1), (.ref a1)])) _
    refine st2 _ ?_
    show Steps p.tables e below (T2.setTop (mkF m 66 #[.val (.ref a1), .unset] [(.int r1), (.ref a1)])) _
    refine XS.dupX1 X2.here hx rfl (hb hby d3_66) rfl rfl rfl ?_
    show Steps p.tables e below (T2.setTop (mkF m 67 #[.val (.ref a1), .unset] [(.int r1), (.ref a1), (.int r1)])) _
    refine XS.iconst X2.here hx rfl (hb hby d3_67) ?_
    show Steps p.tables e below (T2.setTop (mkF m 68 #[.val (.ref a1), .unset] [(.int (1 : Int32)), (.int r1), (.ref a1), (.int r1)])) _
    refine XS.iadd X2.here hx rfl (hb hby d3_68) rfl ?_
    show Steps p.tables e below (T2.setTop (mkF m 69 #[.val (.ref a1), .unset] [(.int (r1 + (1 : Int32))), (.ref a1), (.int r1)])) _
    rw [hr2]
    show Steps p.tables e below (T2.setTop (mkF m 69 #[.val (.ref a1), .unset] [(.int r2), (.ref a1), (.int r1)])) _
    refine st3 _ ?_
    exact kt
  obtain ⟨fs, hr, hrun, hended, hW, hsame⟩ := X3.leave (v := some (.int r1)) (fun h => by rw [Bd.returns] at h; cases h)
  refine ⟨_, _, pre4 _ ?_, hrun, hended, _, _, rfl, ?_, ⟨_, rfl⟩, hW, hsame.mono (by decide) (by decide)⟩
  · show Steps p.tables e below (T3.setTop (mkF m 72 #[.val (.ref a1), .unset] [(.int r1)])) _
    exact retI X3 hx Bd.returns (hb hby d3_72) hr
  · show QA1 Z a1 b w1 r1 r2 h0 n0 _ T3.heap _
    rw [e3]
    exact ⟨rfl, N3, K3, (Exa.wr W3 E_a1), (Fld.other W3 F_w (Or.inr (slot_ne (Or.inr (hw _ (List.mem_of_getElem? (i := 15) rfl))) (Or.inl (hw _ (List.mem_of_getElem? (i := 22) rfl))) (by decide) (t := .int) (t' := .int) (by decide) (by decide)))), Fw3, (Fld.other W3 F_b (Or.inr (slot_ne (Or.inl (hw _ (List.mem_of_getElem? (i := 13) rfl))) (Or.inl (hw _ (List.mem_of_getElem? (i := 22) rfl))) (by decide) (t := (.array (.array .int))) (t' := .int) (by decide) (by decide))))⟩
def QS (Z : State) (c1 : Addr) (kc : ClassId) (w1 p3 j : Int32) (hs : List (Int32 × Value)) (h0 : Heap) (n0 : Nat) (v : Option Value) (h : Heap) (L : List Loc) : Prop := v = none ∧ Fr n0 L ∧ Keep h0 h [c1] ∧ Arh Z h c1 kc .int ((1024 : Int32) * w1) ((j, .int p3) :: hs) [] (.int (0 : Int32))
theorem d4_0 : decode prog_8_method_5_code 0 = .ok (.aload_n 0, 1) := by decide +kernel
theorem d4_1 : decode prog_8_method_5_code 1 = .ok (.getfield 11, 3) := by decide +kernel
theorem d4_4 : decode prog_8_method_5_code 4 = .ok (.iload_n 1, 1) := by decide +kernel
theorem d4_5 : decode prog_8_method_5_code 5 = .ok (.bipush 10, 2) := by decide +kernel
theorem d4_7 : decode prog_8_method_5_code 7 = .ok (.iushr, 1) := by decide +kernel
theorem d4_8 : decode prog_8_method_5_code 8 = .ok (.aaload, 1) := by decide +kernel
theorem d4_9 : decode prog_8_method_5_code 9 = .ok (.iload_n 1, 1) := by decide +kernel
theorem d4_10 : decode prog_8_method_5_code 10 = .ok (.sipush 1023, 3) := by decide +kernel
theorem d4_13 : decode prog_8_method_5_code 13 = .ok (.iand, 1) := by decide +kernel
theorem d4_14 : decode prog_8_method_5_code 14 = .ok (.aload_n 0, 1) := by decide +kernel
theorem d4_15 : decode prog_8_method_5_code 15 = .ok (.getfield 15, 3) := by decide +kernel
theorem d4_18 : decode prog_8_method_5_code 18 = .ok (.imul, 1) := by decide +kernel
theorem d4_19 : decode prog_8_method_5_code 19 = .ok (.iload_n 2, 1) := by decide +kernel
theorem d4_20 : decode prog_8_method_5_code 20 = .ok (.iadd, 1) := by decide +kernel
theorem d4_21 : decode prog_8_method_5_code 21 = .ok (.iload_n 3, 1) := by decide +kernel
theorem d4_22 : decode prog_8_method_5_code 22 = .ok (.iastore, 1) := by decide +kernel
theorem d4_23 : decode prog_8_method_5_code 23 = .ok (.return_, 1) := by decide +kernel
theorem pn_rmS : plainName "com/example/muniment_room/munimentroom/categorizer/Columns" = true := by first | (simp [plainName, overriddenIn]; done) | decide +kernel
theorem ef_rmS (m : MethodId) (a1 : Addr) (p1 : Int32) (p2 : Int32) (p3 : Int32) : entryFrame m #[(.ref a1), (.int p1), (.int p2), (.int p3)] 4 = mkF m 0 #[.val (.ref a1), .val (.int p1), .val (.int p2), .val (.int p3)] [] := by first | (simp [entryFrame, mkF, argsToLocals, Value.category]; done) | rfl
set_option maxRecDepth 65536 in
set_option maxHeartbeats 40000000 in
theorem rmS (l : Launch) (Z : State) (a0 : Array Value) (hw : ∀ d ∈ tables_1, d.before a0 Z = true) (ws : List Jvm.Cond) (a1 b c1 : Addr) (kb kc : ClassId) (w1 p1 p2 p3 j : Int32) (hs : List (Int32 × Value)) (h0 : Heap) (n0 : Nat) (Z0 : n0 ≤ h0.size) (F_w : Fld Z h0 a1 "com/example/muniment_room/munimentroom/categorizer/Columns" "width" "I" (.int w1)) (F_b : Fld Z h0 a1 "com/example/muniment_room/munimentroom/categorizer/Columns" "blocks" "[[I" (.ref b)) (V_b : Arv Z h0 b kb (.array .int) (1 : Int32) [(.ref c1)] .null) (V_c : Arh Z h0 c1 kc .int ((1024 : Int32) * w1) hs [] (.int (0 : Int32))) (hsh : ((p1.toUInt32 >>> ((10 : Int32) &&& 31).toUInt32).toInt32) = (0 : Int32)) (hj : (((p1 &&& (1023 : Int32)) * w1) + p2) = j) (hin : ¬ j < 0 ∧ j < ((1024 : Int32) * w1)) (g_c1 : n0 ≤ c1) :
    MetFree l (⟨"com/example/muniment_room/munimentroom/categorizer/Columns", "set", "(III)V"⟩ : MethodName) (head1 (Jvm.Cond.code (⟨"com/example/muniment_room/munimentroom/categorizer/Columns", "set", "(III)V"⟩ : MethodName) prog_8_method_5_code 4 none :: ws) ({ frames := 0, cells := 0, slots := 0, locals := 0 } : Room)) (fun a U => a = #[(.ref a1), (.int p1), (.int p2), (.int p3)] ∧ Z.Warmed39 U.vm ∧ U.heap = h0) (fun _ _ _ _ _ => True) (fun _ U o U' => ∃ v L, o = .returned v ∧ QS Z c1 kc w1 p3 j hs h0 n0 v U'.heap L ∧ FrameEnd U o U' L ({ frames := 0, cells := 0, slots := 0, locals := 0 } : Room).cells ({ frames := 0, cells := 0, slots := 0, locals := 0 } : Room).slots) := by
  refine MetFree.of_bodySF (plainFor_of_name pn_rmS) hisR ?_
  intro p e s m args below meth c s₁ Bd hml0 hP hK
  obtain ⟨rfl, hZ, hh⟩ := hP
  have hx := Bd.exec
  have hby := Bd.bytes
  have hml : c.maxLocals = 4 := hml0
  have hown : s.vm.findClass "com/example/muniment_room/munimentroom/categorizer/Columns" = some m.cls := findClass_of_methodNamed Bd.named
  have hnm := (name_of_methodNamed Bd.named Bd.method).1
  have X0 : Stand p l e ({ frames := 0, cells := 0, slots := 0, locals := 0 } : Room) s m #[(.ref a1), (.int p1), (.int p2), (.int p3)] below meth c s₁ [] 0 0 := Stand.of_body Bd
  have e0 : s₁.heap = h0 := by rw [← hh, Bd.state]; rfl
  have N0 := Fr.nil n0
  have pre0 : ∀ tt, Steps p.tables e below (s₁.setTop (mkF m 0 #[.val (.ref a1), .val (.int p1), .val (.int p2), .val (.int p3)] [])) tt → Steps p.tables e below (s₁.setTop (entryFrame m #[(.ref a1), (.int p1), (.int p2), (.int p3)] 4)) tt := fun tt kt => castTop (ef_rmS m a1 p1 p2 p3) kt
  obtain ⟨T1, X1, e1, st1⟩ := getF X0 hx hZ hown (host := "") (Or.inl (hw _ (List.mem_of_getElem? (i := 12) rfl))) Via.refl e0 F_b (g := (mkF m 1 #[.val (.ref a1), .val (.int p1), .val (.int p2), .val (.int p3)] [(.ref a1)])) rfl rfl (hb hby d4_1)
  have VO2 := V_b
  obtain ⟨cl2, Ar2, q2, S2, M2, H2, G2⟩ := VO2
  have hin2 : ¬ ((0 : Int32) < 0 ∨ cl2.slots.size ≤ ((0 : Int32)).toNatClampNeg) := inb_of S2 ⟨by decide, by decide⟩
  have hat2 : cl2.slots[((0 : Int32)).toNatClampNeg]? = some (.ref c1) := H2.at hin2 rfl
  obtain ⟨T3, X3, e3, st3⟩ := getF X1 hx hZ hown (host := "") (Or.inl (hw _ (List.mem_of_getElem? (i := 14) rfl))) Via.refl e1 F_w (g := (mkF m 15 #[.val (.ref a1), .val (.int p1), .val (.int p2), .val (.int p3)] [(.ref a1), (.int (p1 &&& (1023 : Int32))), (.ref c1)])) rfl rfl (hb hby d4_15)
  obtain ⟨cl4, Ar4, q4, S4, M4, H4, G4⟩ := V_c
  have hn4 : ¬ (j < 0 ∨ cl4.slots.size ≤ j.toNatClampNeg) := inb_of S4 hin
  obtain ⟨T5, h5, X5, e5, W5, st5⟩ := stI X3 hx hZ e3 Ar4 (j := j) hn4 (g := (mkF m 22 #[.val (.ref a1), .val (.int p1), .val (.int p2), .val (.int p3)] [(.int p3), (.int j), (.ref c1)])) rfl rfl (hb hby d4_22)
  have N5 := Fr.snoc X5 N0 g_c1
  have K5 : Keep h0 h5 [c1] := ((Keep.refl h0 [c1])).wr W5 (Or.inl (List.mem_of_getElem? (i := 0) rfl))
  have V5 := Arh.push Ar4 q4 S4 M4 H4 G4 rfl W5 hn4
  have pre6 : ∀ tt, Steps p.tables e below (T5.setTop (mkF m 23 #[.val (.ref a1), .val (.int p1), .val (.int p2), .val (.int p3)] [])) tt → Steps p.tables e below (s₁.setTop (entryFrame m #[(.ref a1), (.int p1), (.int p2), (.int p3)] 4)) tt := by
    intro tt kt
    refine pre0 tt ?_
    show Steps p.tables e below (s₁.setTop (mkF m 0 #[.val (.ref a1), .val (.int p1), .val (.int p2), .val (.int p3)] [])) _
    refine XS.aloadN X0.here hx rfl (hb hby d4_0) rfl rfl ?_
    show Steps p.tables e below (s₁.setTop (mkF m 1 #[.val (.ref a1), .val (.int p1), .val (.int p2), .val (.int p3)] [(.ref a1)])) _
    refine st1 _ ?_
    show Steps p.tables e below (T1.setTop (mkF m 4 #[.val (.ref a1), .val (.int p1), .val (.int p2), .val (.int p3)] [(.ref b)])) _
    refine XS.iloadN X1.here hx rfl (hb hby d4_4) rfl ?_
    show Steps p.tables e below (T1.setTop (mkF m 5 #[.val (.ref a1), .val (.int p1), .val (.int p2), .val (.int p3)] [(.int p1), (.ref b)])) _
    refine XS.bipush X1.here hx rfl (hb hby d4_5) ?_
    show Steps p.tables e below (T1.setTop (mkF m 7 #[.val (.ref a1), .val (.int p1), .val (.int p2), .val (.int p3)] [(.int (10 : Int32)), (.int p1), (.ref b)])) _
    refine XS.iushr X1.here hx rfl (hb hby d4_7) rfl ?_
    show Steps p.tables e below (T1.setTop (mkF m 8 #[.val (.ref a1), .val (.int p1), .val (.int p2), .val (.int p3)] [(.int ((p1.toUInt32 >>> ((10 : Int32) &&& 31).toUInt32).toInt32)), (.ref b)])) _
    rw [hsh]
    show Steps p.tables e below (T1.setTop (mkF m 8 #[.val (.ref a1), .val (.int p1), .val (.int p2), .val (.int p3)] [(.int (0 : Int32)), (.ref b)])) _
    refine X1.aaload hx (j := (0 : Int32)) (v := (.ref c1)) (by rw [e1]; exact Ar2.1) (State.isArrayOf_alike hZ.alike Ar2.2.1) rfl Ar2.2.2 hin2 hat2 (g := (mkF m 8 #[.val (.ref a1), .val (.int p1), .val (.int p2), .val (.int p3)] [(.int (0 : Int32)), (.ref b)])) rfl rfl (hb hby d4_8) _ ?_
    show Steps p.tables e below (T1.setTop (mkF m 9 #[.val (.ref a1), .val (.int p1), .val (.int p2), .val (.int p3)] [(.ref c1)])) _
    refine XS.iloadN X1.here hx rfl (hb hby d4_9) rfl ?_
    show Steps p.tables e below (T1.setTop (mkF m 10 #[.val (.ref a1), .val (.int p1), .val (.int p2), .val (.int p3)] [(.int p1), (.ref c1)])) _
    refine XS.sipush X1.here hx rfl (hb hby d4_10) ?_
    show Steps p.tables e below (T1.setTop (mkF m 13 #[.val (.ref a1), .val (.int p1), .val (.int p2), .val (.int p3)] [(.int (1023 : Int32)), (.int p1), (.ref c1)])) _
    refine XS.iand X1.here hx rfl (hb hby d4_13) rfl ?_
    show Steps p.tables e below (T1.setTop (mkF m 14 #[.val (.ref a1), .val (.int p1), .val (.int p2), .val (.int p3)] [(.int (p1 &&& (1023 : Int32))), (.ref c1)])) _
    refine XS.aloadN X1.here hx rfl (hb hby d4_14) rfl rfl ?_
    show Steps p.tables e below (T1.setTop (mkF m 15 #[.val (.ref a1), .val (.int p1), .val (.int p2), .val (.int p3)] [(.ref a1), (.int (p1 &&& (1023 : Int32))), (.ref c1)])) _
    refine st3 _ ?_
    show Steps p.tables e below (T3.setTop (mkF m 18 #[.val (.ref a1), .val (.int p1), .val (.int p2), .val (.int p3)] [(.int w1), (.int (p1 &&& (1023 : Int32))), (.ref c1)])) _
    refine XS.imul X3.here hx rfl (hb hby d4_18) rfl ?_
    show Steps p.tables e below (T3.setTop (mkF m 19 #[.val (.ref a1), .val (.int p1), .val (.int p2), .val (.int p3)] [(.int ((p1 &&& (1023 : Int32)) * w1)), (.ref c1)])) _
    refine XS.iloadN X3.here hx rfl (hb hby d4_19) rfl ?_
    show Steps p.tables e below (T3.setTop (mkF m 20 #[.val (.ref a1), .val (.int p1), .val (.int p2), .val (.int p3)] [(.int p2), (.int ((p1 &&& (1023 : Int32)) * w1)), (.ref c1)])) _
    refine XS.iadd X3.here hx rfl (hb hby d4_20) rfl ?_
    show Steps p.tables e below (T3.setTop (mkF m 21 #[.val (.ref a1), .val (.int p1), .val (.int p2), .val (.int p3)] [(.int (((p1 &&& (1023 : Int32)) * w1) + p2)), (.ref c1)])) _
    rw [hj]
    show Steps p.tables e below (T3.setTop (mkF m 21 #[.val (.ref a1), .val (.int p1), .val (.int p2), .val (.int p3)] [(.int j), (.ref c1)])) _
    refine XS.iloadN X3.here hx rfl (hb hby d4_21) rfl ?_
    show Steps p.tables e below (T3.setTop (mkF m 22 #[.val (.ref a1), .val (.int p1), .val (.int p2), .val (.int p3)] [(.int p3), (.int j), (.ref c1)])) _
    refine st5 _ ?_
    exact kt
  obtain ⟨fs, hr, hrun, hended, hW, hsame⟩ := X5.leave (v := none) (fun _ => rfl)
  refine ⟨_, _, pre6 _ ?_, hrun, hended, _, _, rfl, ?_, ⟨_, rfl⟩, hW, hsame.mono (by decide) (by decide)⟩
  · show Steps p.tables e below (T5.setTop (mkF m 23 #[.val (.ref a1), .val (.int p1), .val (.int p2), .val (.int p3)] [])) _
    exact X5.returnOut hx Bd.returns (hb hby d4_23) hr
  · show QS Z c1 kc w1 p3 j hs h0 n0 _ T5.heap _
    rw [e5]
    exact ⟨rfl, N5, K5, V5⟩
def QI (Z : State) (r : Int32) (h0 : Heap) (n0 : Nat) (v : Option Value) (h : Heap) (L : List Loc) : Prop := v = some (.int r) ∧ Fr n0 L ∧ h = h0
theorem d5_0 : decode prog_8_method_4_code 0 = .ok (.aload_n 0, 1) := by decide +kernel
theorem d5_1 : decode prog_8_method_4_code 1 = .ok (.getfield 11, 3) := by decide +kernel
theorem d5_4 : decode prog_8_method_4_code 4 = .ok (.iload_n 1, 1) := by decide +kernel
theorem d5_5 : decode prog_8_method_4_code 5 = .ok (.bipush 10, 2) := by decide +kernel
theorem d5_7 : decode prog_8_method_4_code 7 = .ok (.iushr, 1) := by decide +kernel
theorem d5_8 : decode prog_8_method_4_code 8 = .ok (.aaload, 1) := by decide +kernel
theorem d5_9 : decode prog_8_method_4_code 9 = .ok (.iload_n 1, 1) := by decide +kernel
theorem d5_10 : decode prog_8_method_4_code 10 = .ok (.sipush 1023, 3) := by decide +kernel
theorem d5_13 : decode prog_8_method_4_code 13 = .ok (.iand, 1) := by decide +kernel
theorem d5_14 : decode prog_8_method_4_code 14 = .ok (.aload_n 0, 1) := by decide +kernel
theorem d5_15 : decode prog_8_method_4_code 15 = .ok (.getfield 15, 3) := by decide +kernel
theorem d5_18 : decode prog_8_method_4_code 18 = .ok (.imul, 1) := by decide +kernel
theorem d5_19 : decode prog_8_method_4_code 19 = .ok (.iload_n 2, 1) := by decide +kernel
theorem d5_20 : decode prog_8_method_4_code 20 = .ok (.iadd, 1) := by decide +kernel
theorem d5_21 : decode prog_8_method_4_code 21 = .ok (.iaload, 1) := by decide +kernel
theorem d5_22 : decode prog_8_method_4_code 22 = .ok (.ireturn, 1) := by decide +kernel
theorem pn_rmG : plainName "com/example/muniment_room/munimentroom/categorizer/Columns" = true := by first | (simp [plainName, overriddenIn]; done) | decide +kernel
theorem ef_rmG (m : MethodId) (a1 : Addr) (p1 : Int32) (p2 : Int32) : entryFrame m #[(.ref a1), (.int p1), (.int p2)] 3 = mkF m 0 #[.val (.ref a1), .val (.int p1), .val (.int p2)] [] := by first | (simp [entryFrame, mkF, argsToLocals, Value.category]; done) | rfl
set_option maxRecDepth 65536 in
set_option maxHeartbeats 40000000 in
theorem rmG (l : Launch) (Z : State) (a0 : Array Value) (hw : ∀ d ∈ tables_1, d.before a0 Z = true) (ws : List Jvm.Cond) (a1 b c1 : Addr) (kb kc : ClassId) (w1 p1 p2 r j : Int32) (hs : List (Int32 × Value)) (h0 : Heap) (n0 : Nat) (Z0 : n0 ≤ h0.size) (F_w : Fld Z h0 a1 "com/example/muniment_room/munimentroom/categorizer/Columns" "width" "I" (.int w1)) (F_b : Fld Z h0 a1 "com/example/muniment_room/munimentroom/categorizer/Columns" "blocks" "[[I" (.ref b)) (V_b : Arv Z h0 b kb (.array .int) (1 : Int32) [(.ref c1)] .null) (V_c : Arh Z h0 c1 kc .int ((1024 : Int32) * w1) hs [] (.int (0 : Int32))) (hsh : ((p1.toUInt32 >>> ((10 : Int32) &&& 31).toUInt32).toInt32) = (0 : Int32)) (hj : (((p1 &&& (1023 : Int32)) * w1) + p2) = j) (hin : ¬ j < 0 ∧ j < ((1024 : Int32) * w1)) (hr0 : getH hs [] (.int (0 : Int32)) j.toNatClampNeg = .int r) :
    MetFree l (⟨"com/example/muniment_room/munimentroom/categorizer/Columns", "get", "(II)I"⟩ : MethodName) (head1 (Jvm.Cond.code (⟨"com/example/muniment_room/munimentroom/categorizer/Columns", "get", "(II)I"⟩ : MethodName) prog_8_method_4_code 3 (some .int) :: ws) ({ frames := 0, cells := 0, slots := 0, locals := 0 } : Room)) (fun a U => a = #[(.ref a1), (.int p1), (.int p2)] ∧ Z.Warmed39 U.vm ∧ U.heap = h0) (fun _ _ _ _ _ => True) (fun _ U o U' => ∃ v L, o = .returned v ∧ QI Z r h0 n0 v U'.heap L ∧ FrameEnd U o U' L ({ frames := 0, cells := 0, slots := 0, locals := 0 } : Room).cells ({ frames := 0, cells := 0, slots := 0, locals := 0 } : Room).slots) := by
  refine MetFree.of_bodySF (plainFor_of_name pn_rmG) hisR ?_
  intro p e s m args below meth c s₁ Bd hml0 hP hK
  obtain ⟨rfl, hZ, hh⟩ := hP
  have hx := Bd.exec
  have hby := Bd.bytes
  have hml : c.maxLocals = 3 := hml0
  have hown : s.vm.findClass "com/example/muniment_room/munimentroom/categorizer/Columns" = some m.cls := findClass_of_methodNamed Bd.named
  have hnm := (name_of_methodNamed Bd.named Bd.method).1
  have X0 : Stand p l e ({ frames := 0, cells := 0, slots := 0, locals := 0 } : Room) s m #[(.ref a1), (.int p1), (.int p2)] below meth c s₁ [] 0 0 := Stand.of_body Bd
  have e0 : s₁.heap = h0 := by rw [← hh, Bd.state]; rfl
  have N0 := Fr.nil n0
  have pre0 : ∀ tt, Steps p.tables e below (s₁.setTop (mkF m 0 #[.val (.ref a1), .val (.int p1), .val (.int p2)] [])) tt → Steps p.tables e below (s₁.setTop (entryFrame m #[(.ref a1), (.int p1), (.int p2)] 3)) tt := fun tt kt => castTop (ef_rmG m a1 p1 p2) kt
  obtain ⟨T1, X1, e1, st1⟩ := getF X0 hx hZ hown (host := "") (Or.inl (hw _ (List.mem_of_getElem? (i := 12) rfl))) Via.refl e0 F_b (g := (mkF m 1 #[.val (.ref a1), .val (.int p1), .val (.int p2)] [(.ref a1)])) rfl rfl (hb hby d5_1)
  have VO2 := V_b
  obtain ⟨cl2, Ar2, q2, S2, M2, H2, G2⟩ := VO2
  have hin2 : ¬ ((0 : Int32) < 0 ∨ cl2.slots.size ≤ ((0 : Int32)).toNatClampNeg) := inb_of S2 ⟨by decide, by decide⟩
  have hat2 : cl2.slots[((0 : Int32)).toNatClampNeg]? = some (.ref c1) := H2.at hin2 rfl
  obtain ⟨T3, X3, e3, st3⟩ := getF X1 hx hZ hown (host := "") (Or.inl (hw _ (List.mem_of_getElem? (i := 14) rfl))) Via.refl e1 F_w (g := (mkF m 15 #[.val (.ref a1), .val (.int p1), .val (.int p2)] [(.ref a1), (.int (p1 &&& (1023 : Int32))), (.ref c1)])) rfl rfl (hb hby d5_15)
  obtain ⟨cl4, Ar4, q4, S4, M4, H4, G4⟩ := V_c
  have hn4 : ¬ (j < 0 ∨ cl4.slots.size ≤ j.toNatClampNeg) := inb_of S4 hin
  have hat4 := atH H4 hn4 hr0
  have pre5 : ∀ tt, Steps p.tables e below (T3.setTop (mkF m 22 #[.val (.ref a1), .val (.int p1), .val (.int p2)] [(.int r)])) tt → Steps p.tables e below (s₁.setTop (entryFrame m #[(.ref a1), (.int p1), (.int p2)] 3)) tt := by
    intro tt kt
    refine pre0 tt ?_
    show Steps p.tables e below (s₁.setTop (mkF m 0 #[.val (.ref a1), .val (.int p1), .val (.int p2)] [])) _
    refine XS.aloadN X0.here hx rfl (hb hby d5_0) rfl rfl ?_
    show Steps p.tables e below (s₁.setTop (mkF m 1 #[.val (.ref a1), .val (.int p1), .val (.int p2)] [(.ref a1)])) _
    refine st1 _ ?_
    show Steps p.tables e below (T1.setTop (mkF m 4 #[.val (.ref a1), .val (.int p1), .val (.int p2)] [(.ref b)])) _
    refine XS.iloadN X1.here hx rfl (hb hby d5_4) rfl ?_
    show Steps p.tables e below (T1.setTop (mkF m 5 #[.val (.ref a1), .val (.int p1), .val (.int p2)] [(.int p1), (.ref b)])) _
    refine XS.bipush X1.here hx rfl (hb hby d5_5) ?_
    show Steps p.tables e below (T1.setTop (mkF m 7 #[.val (.ref a1), .val (.int p1), .val (.int p2)] [(.int (10 : Int32)), (.int p1), (.ref b)])) _
    refine XS.iushr X1.here hx rfl (hb hby d5_7) rfl ?_
    show Steps p.tables e below (T1.setTop (mkF m 8 #[.val (.ref a1), .val (.int p1), .val (.int p2)] [(.int ((p1.toUInt32 >>> ((10 : Int32) &&& 31).toUInt32).toInt32)), (.ref b)])) _
    rw [hsh]
    show Steps p.tables e below (T1.setTop (mkF m 8 #[.val (.ref a1), .val (.int p1), .val (.int p2)] [(.int (0 : Int32)), (.ref b)])) _
    refine X1.aaload hx (j := (0 : Int32)) (v := (.ref c1)) (by rw [e1]; exact Ar2.1) (State.isArrayOf_alike hZ.alike Ar2.2.1) rfl Ar2.2.2 hin2 hat2 (g := (mkF m 8 #[.val (.ref a1), .val (.int p1), .val (.int p2)] [(.int (0 : Int32)), (.ref b)])) rfl rfl (hb hby d5_8) _ ?_
    show Steps p.tables e below (T1.setTop (mkF m 9 #[.val (.ref a1), .val (.int p1), .val (.int p2)] [(.ref c1)])) _
    refine XS.iloadN X1.here hx rfl (hb hby d5_9) rfl ?_
    show Steps p.tables e below (T1.setTop (mkF m 10 #[.val (.ref a1), .val (.int p1), .val (.int p2)] [(.int p1), (.ref c1)])) _
    refine XS.sipush X1.here hx rfl (hb hby d5_10) ?_
    show Steps p.tables e below (T1.setTop (mkF m 13 #[.val (.ref a1), .val (.int p1), .val (.int p2)] [(.int (1023 : Int32)), (.int p1), (.ref c1)])) _
    refine XS.iand X1.here hx rfl (hb hby d5_13) rfl ?_
    show Steps p.tables e below (T1.setTop (mkF m 14 #[.val (.ref a1), .val (.int p1), .val (.int p2)] [(.int (p1 &&& (1023 : Int32))), (.ref c1)])) _
    refine XS.aloadN X1.here hx rfl (hb hby d5_14) rfl rfl ?_
    show Steps p.tables e below (T1.setTop (mkF m 15 #[.val (.ref a1), .val (.int p1), .val (.int p2)] [(.ref a1), (.int (p1 &&& (1023 : Int32))), (.ref c1)])) _
    refine st3 _ ?_
    show Steps p.tables e below (T3.setTop (mkF m 18 #[.val (.ref a1), .val (.int p1), .val (.int p2)] [(.int w1), (.int (p1 &&& (1023 : Int32))), (.ref c1)])) _
    refine XS.imul X3.here hx rfl (hb hby d5_18) rfl ?_
    show Steps p.tables e below (T3.setTop (mkF m 19 #[.val (.ref a1), .val (.int p1), .val (.int p2)] [(.int ((p1 &&& (1023 : Int32)) * w1)), (.ref c1)])) _
    refine XS.iloadN X3.here hx rfl (hb hby d5_19) rfl ?_
    show Steps p.tables e below (T3.setTop (mkF m 20 #[.val (.ref a1), .val (.int p1), .val (.int p2)] [(.int p2), (.int ((p1 &&& (1023 : Int32)) * w1)), (.ref c1)])) _
    refine XS.iadd X3.here hx rfl (hb hby d5_20) rfl ?_
    show Steps p.tables e below (T3.setTop (mkF m 21 #[.val (.ref a1), .val (.int p1), .val (.int p2)] [(.int (((p1 &&& (1023 : Int32)) * w1) + p2)), (.ref c1)])) _
    rw [hj]
    show Steps p.tables e below (T3.setTop (mkF m 21 #[.val (.ref a1), .val (.int p1), .val (.int p2)] [(.int j), (.ref c1)])) _
    refine X3.iaload hx (j := j) (v := .int r) (by rw [e3]; exact Ar4.1) (State.isArrayOf_alike hZ.alike Ar4.2.1) Ar4.2.2 hn4 hat4 (g := (mkF m 21 #[.val (.ref a1), .val (.int p1), .val (.int p2)] [(.int j), (.ref c1)])) rfl rfl (hb hby d5_21) _ ?_
    exact kt
  obtain ⟨fs, hr, hrun, hended, hW, hsame⟩ := X3.leave (v := some (.int r)) (fun h => by rw [Bd.returns] at h; cases h)
  refine ⟨_, _, pre5 _ ?_, hrun, hended, _, _, rfl, ?_, ⟨_, rfl⟩, hW, hsame.mono (by decide) (by decide)⟩
  · show Steps p.tables e below (T3.setTop (mkF m 22 #[.val (.ref a1), .val (.int p1), .val (.int p2)] [(.int r)])) _
    exact retI X3 hx Bd.returns (hb hby d5_22) hr
  · show QI Z r h0 n0 _ T3.heap _
    rw [e3]
    exact ⟨rfl, N0, rfl⟩
theorem d6_0 : decode prog_8_method_2_code 0 = .ok (.aload_n 0, 1) := by decide +kernel
theorem d6_1 : decode prog_8_method_2_code 1 = .ok (.getfield 19, 3) := by decide +kernel
theorem d6_4 : decode prog_8_method_2_code 4 = .ok (.ireturn, 1) := by decide +kernel
theorem pn_rmR : plainName "com/example/muniment_room/munimentroom/categorizer/Columns" = true := by first | (simp [plainName, overriddenIn]; done) | decide +kernel
theorem ef_rmR (m : MethodId) (a1 : Addr) : entryFrame m #[(.ref a1)] 1 = mkF m 0 #[.val (.ref a1)] [] := by first | (simp [entryFrame, mkF, argsToLocals, Value.category]; done) | rfl
set_option maxRecDepth 65536 in
set_option maxHeartbeats 40000000 in
theorem rmR (l : Launch) (Z : State) (a0 : Array Value) (hw : ∀ d ∈ tables_1, d.before a0 Z = true) (ws : List Jvm.Cond) (a1 : Addr) (r : Int32) (h0 : Heap) (n0 : Nat) (Z0 : n0 ≤ h0.size) (F_r : Fld Z h0 a1 "com/example/muniment_room/munimentroom/categorizer/Columns" "rows" "I" (.int r)) :
    MetFree l (⟨"com/example/muniment_room/munimentroom/categorizer/Columns", "rows", "()I"⟩ : MethodName) (head1 (Jvm.Cond.code (⟨"com/example/muniment_room/munimentroom/categorizer/Columns", "rows", "()I"⟩ : MethodName) prog_8_method_2_code 1 (some .int) :: ws) ({ frames := 0, cells := 0, slots := 0, locals := 0 } : Room)) (fun a U => a = #[(.ref a1)] ∧ Z.Warmed39 U.vm ∧ U.heap = h0) (fun _ _ _ _ _ => True) (fun _ U o U' => ∃ v L, o = .returned v ∧ QI Z r h0 n0 v U'.heap L ∧ FrameEnd U o U' L ({ frames := 0, cells := 0, slots := 0, locals := 0 } : Room).cells ({ frames := 0, cells := 0, slots := 0, locals := 0 } : Room).slots) := by
  refine MetFree.of_bodySF (plainFor_of_name pn_rmR) hisR ?_
  intro p e s m args below meth c s₁ Bd hml0 hP hK
  obtain ⟨rfl, hZ, hh⟩ := hP
  have hx := Bd.exec
  have hby := Bd.bytes
  have hml : c.maxLocals = 1 := hml0
  have hown : s.vm.findClass "com/example/muniment_room/munimentroom/categorizer/Columns" = some m.cls := findClass_of_methodNamed Bd.named
  have hnm := (name_of_methodNamed Bd.named Bd.method).1
  have X0 : Stand p l e ({ frames := 0, cells := 0, slots := 0, locals := 0 } : Room) s m #[(.ref a1)] below meth c s₁ [] 0 0 := Stand.of_body Bd
  have e0 : s₁.heap = h0 := by rw [← hh, Bd.state]; rfl
  have N0 := Fr.nil n0
  have pre0 : ∀ tt, Steps p.tables e below (s₁.setTop (mkF m 0 #[.val (.ref a1)] [])) tt → Steps p.tables e below (s₁.setTop (entryFrame m #[(.ref a1)] 1)) tt := fun tt kt => castTop (ef_rmR m a1) kt
  obtain ⟨T1, X1, e1, st1⟩ := getF X0 hx hZ hown (host := "") (Or.inl (hw _ (List.mem_of_getElem? (i := 21) rfl))) Via.refl e0 F_r (g := (mkF m 1 #[.val (.ref a1)] [(.ref a1)])) rfl rfl (hb hby d6_1)
  have pre2 : ∀ tt, Steps p.tables e below (T1.setTop (mkF m 4 #[.val (.ref a1)] [(.int r)])) tt → Steps p.tables e below (s₁.setTop (entryFrame m #[(.ref a1)] 1)) tt := by
    intro tt kt
    refine pre0 tt ?_
    show Steps p.tables e below (s₁.setTop (mkF m 0 #[.val (.ref a1)] [])) _
    refine XS.aloadN X0.here hx rfl (hb hby d6_0) rfl rfl ?_
    show Steps p.tables e below (s₁.setTop (mkF m 1 #[.val (.ref a1)] [(.ref a1)])) _
    refine st1 _ ?_
    exact kt
  obtain ⟨fs, hr, hrun, hended, hW, hsame⟩ := X1.leave (v := some (.int r)) (fun h => by rw [Bd.returns] at h; cases h)
  refine ⟨_, _, pre2 _ ?_, hrun, hended, _, _, rfl, ?_, ⟨_, rfl⟩, hW, hsame.mono (by decide) (by decide)⟩
  · show Steps p.tables e below (T1.setTop (mkF m 4 #[.val (.ref a1)] [(.int r)])) _
    exact retI X1 hx Bd.returns (hb hby d6_4) hr
  · show QI Z r h0 n0 _ T1.heap _
    rw [e1]
    exact ⟨rfl, N0, rfl⟩
theorem own_w4 (p : Int32) : (1 : Int32) + (p &&& (3 : Int32)) = 1 ∨ (1 : Int32) + (p &&& (3 : Int32)) = 2 ∨ (1 : Int32) + (p &&& (3 : Int32)) = 3 ∨ (1 : Int32) + (p &&& (3 : Int32)) = 4 := by
  have h1 := c_mask p (3 : Int32) 2 (by decide) (by decide)
  have h2 : (p &&& (3 : Int32)) = 0 ∨ (p &&& (3 : Int32)) = 1 ∨ (p &&& (3 : Int32)) = 2 ∨ (p &&& (3 : Int32)) = 3 := by
    have h3 : (p &&& (3 : Int32)).toInt = (0 : Int32).toInt ∨ (p &&& (3 : Int32)).toInt = (1 : Int32).toInt ∨ (p &&& (3 : Int32)).toInt = (2 : Int32).toInt ∨ (p &&& (3 : Int32)).toInt = (3 : Int32).toInt := by simp; omega
    simpa only [Int32.toInt_inj] using h3
  rcases h2 with q | q | q | q <;> rw [q] <;> decide
theorem own_wne {w : Int32} (h : w = 1 ∨ w = 2 ∨ w = 3 ∨ w = 4) : ¬ (w = (0 : Int32)) := by rcases h with rfl | rfl | rfl | rfl <;> decide
theorem own_of4 {k : Int32} (h : 0 ≤ k.toInt ∧ k.toInt < 4) : k = 0 ∨ k = 1 ∨ k = 2 ∨ k = 3 := by
  have h2 : k.toInt = (0 : Int32).toInt ∨ k.toInt = (1 : Int32).toInt ∨ k.toInt = (2 : Int32).toInt ∨ k.toInt = (3 : Int32).toInt := by simp; omega
  simpa only [Int32.toInt_inj] using h2
theorem own_wt {w : Int32} (h : w = 1 ∨ w = 2 ∨ w = 3 ∨ w = 4) : w.toInt = 1 ∨ w.toInt = 2 ∨ w.toInt = 3 ∨ w.toInt = 4 := by rcases h with rfl | rfl | rfl | rfl <;> decide
theorem own_ix (w r c : Int32) (hw : w = 1 ∨ w = 2 ∨ w = 3 ∨ w = 4) (hr : r = 0 ∨ r = 1 ∨ r = 2) (hc : 0 ≤ c.toInt ∧ c.toInt < w.toInt) : ((r.toUInt32 >>> ((10 : Int32) &&& 31).toUInt32).toInt32) = (0 : Int32) ∧ (((r &&& (1023 : Int32)) * w) + c).toInt = r.toInt * w.toInt + c.toInt ∧ (¬ (((r &&& (1023 : Int32)) * w) + c) < 0 ∧ (((r &&& (1023 : Int32)) * w) + c) < ((1024 : Int32) * w)) := by
  have h3 := own_wt hw
  have h2 := own_of4 (k := c) ⟨hc.1, by omega⟩
  clear h3
  rcases hw with rfl | rfl | rfl | rfl <;> rcases hr with rfl | rfl | rfl <;> rcases h2 with rfl | rfl | rfl | rfl <;> first | decide | exact absurd hc.2 (by decide)
theorem own_inj {w r c r2 c2 j j2 : Int32} (hw : w = 1 ∨ w = 2 ∨ w = 3 ∨ w = 4) (hc : 0 ≤ c.toInt ∧ c.toInt < w.toInt) (hc2 : 0 ≤ c2.toInt ∧ c2.toInt < w.toInt) (e1 : j.toInt = r.toInt * w.toInt + c.toInt) (e2 : j2.toInt = r2.toInt * w.toInt + c2.toInt) (hn : ¬ (r = r2 ∧ c = c2)) : ¬ (j2 = j) := by
  intro q
  apply hn
  rw [q, e1] at e2
  have h3 := own_wt hw
  have h4 : r.toInt = r2.toInt ∧ c.toInt = c2.toInt := by rcases h3 with q | q | q | q <;> rw [q] at e2 hc hc2 <;> omega
  exact ⟨Int32.toInt_inj.mp h4.1, Int32.toInt_inj.mp h4.2⟩
theorem own_rem2 (x n : Int32) (hx : 0 ≤ x.toInt) (hn : 0 < n.toInt) : 0 ≤ (x % n).toInt ∧ (x % n).toInt < n.toInt := by
  have h2 := (c_iremV x n).1 hx hn
  exact ⟨h2.1, h2.2.1⟩
theorem own_d3 (x w : Int32) (hw : w = 1 ∨ w = 2 ∨ w = 3 ∨ w = 4) : 0 ≤ (((x &&& (2147483647 : Int32)) / (3 : Int32)) % w).toInt ∧ (((x &&& (2147483647 : Int32)) / (3 : Int32)) % w).toInt < w.toInt := by
  have h1 := c_mask x (2147483647 : Int32) 31 (by decide) (by decide)
  have h2 := c_idivV (x &&& (2147483647 : Int32)) 3 (by omega) (by decide)
  exact own_rem2 _ _ h2.1 (by have := own_wt hw; omega)
def Q0 (Z : State) (h0 : Heap) (n0 : Nat) (v : Option Value) (h : Heap) (L : List Loc) : Prop := v = some (.int (1 : Int32)) ∧ Fr n0 L
theorem pn_rm0 : plainName "com/example/muniment_room/munimentroom/categorizer/ColumnsSetPinLaw" = true := by first | (simp [plainName, overriddenIn]; done) | decide +kernel
theorem pd_rm0_0 : parseMethodDescriptor "(I)V" = some ⟨[.int], none⟩ := by decide +kernel
theorem pd_rm0_1 : parseMethodDescriptor "()I" = some ⟨[], some .int⟩ := by decide +kernel
theorem pd_rm0_2 : parseMethodDescriptor "(III)V" = some ⟨[.int, .int, .int], none⟩ := by decide +kernel
theorem pd_rm0_3 : parseMethodDescriptor "(II)I" = some ⟨[.int, .int], some .int⟩ := by decide +kernel
theorem ef_rm0 (m : MethodId) (p1 : Int32) (p2 : Int32) (p3 : Int32) (p4 : Int32) (p5 : Int32) : entryFrame m #[(.int p1), (.int p2), (.int p3), (.int p4), (.int p5)] maxLocals = mkF m 0 #[.val (.int p1), .val (.int p2), .val (.int p3), .val (.int p4), .val (.int p5), .unset, .unset, .unset, .unset, .unset, .unset, .unset, .unset, .unset, .unset] [] := by first | (simp [entryFrame, mkF, argsToLocals, Value.category, maxLocals]; done) | rfl
set_option maxRecDepth 65536 in
set_option maxHeartbeats 40000000 in
theorem rm0 (l : Launch) (Z : State) (a0 : Array Value) (hw : ∀ d ∈ tables_1, d.before a0 Z = true) (ws : List Jvm.Cond) (p1 p2 p3 p4 p5 : Int32) (h0 : Heap) (n0 : Nat) (Z0 : n0 ≤ h0.size)  :
    MetFree l x (head1 (Jvm.Cond.code x code maxLocals ret :: ws) room_1) (fun a U => a = #[(.int p1), (.int p2), (.int p3), (.int p4), (.int p5)] ∧ Z.Warmed39 U.vm ∧ U.heap = h0) (fun _ _ _ _ _ => True) (fun _ U o U' => ∃ v L, o = .returned v ∧ Q0 Z h0 n0 v U'.heap L ∧ FrameEnd U o U' L room_1.cells room_1.slots) := by
  refine MetFree.of_bodySF (plainFor_of_name pn_rm0) hisR ?_
  intro p e s m args below meth c s₁ Bd hml0 hP hK
  obtain ⟨rfl, hZ, hh⟩ := hP
  have hx := Bd.exec
  have hby := Bd.bytes
  have hml : c.maxLocals = 15 := hml0
  have hown : s.vm.findClass "com/example/muniment_room/munimentroom/categorizer/ColumnsSetPinLaw" = some m.cls := findClass_of_methodNamed Bd.named
  have hnm := (name_of_methodNamed Bd.named Bd.method).1
  have X0 : Stand p l e room_1 s m #[(.int p1), (.int p2), (.int p3), (.int p4), (.int p5)] below meth c s₁ [] 0 0 := Stand.of_body Bd
  have e0 : s₁.heap = h0 := by rw [← hh, Bd.state]; rfl
  have N0 := Fr.nil n0
  have pre0 : ∀ tt, Steps p.tables e below (s₁.setTop (mkF m 0 #[.val (.int p1), .val (.int p2), .val (.int p3), .val (.int p4), .val (.int p5), .unset, .unset, .unset, .unset, .unset, .unset, .unset, .unset, .unset, .unset] [])) tt → Steps p.tables e below (s₁.setTop (entryFrame m #[(.int p1), (.int p2), (.int p3), (.int p4), (.int p5)] maxLocals)) tt := fun tt kt => castTop (ef_rm0 m p1 p2 p3 p4 p5) kt
  obtain ⟨w1, hw1⟩ : ∃ z : Int32, z = ((1 : Int32) + (p1 &&& (3 : Int32))) := ⟨_, rfl⟩
  have pre1 : ∀ tt, Steps p.tables e below (s₁.setTop (mkF m 5 #[.val (.int p1), .val (.int p2), .val (.int p3), .val (.int p4), .val (.int p5), .unset, .unset, .unset, .unset, .unset, .unset, .unset, .unset, .unset, .unset] [(.int w1)])) tt → Steps p.tables e below (s₁.setTop (entryFrame m #[(.int p1), (.int p2), (.int p3), (.int p4), (.int p5)] maxLocals)) tt := by
    intro tt kt
    refine pre0 tt ?_
    show Steps p.tables e below (s₁.setTop (mkF m 0 #[.val (.int p1), .val (.int p2), .val (.int p3), .val (.int p4), .val (.int p5), .unset, .unset, .unset, .unset, .unset, .unset, .unset, .unset, .unset, .unset] [])) _
    refine XS.iconst X0.here hx rfl (hb hby at_0) ?_
    show Steps p.tables e below (s₁.setTop (mkF m 1 #[.val (.int p1), .val (.int p2), .val (.int p3), .val (.int p4), .val (.int p5), .unset, .unset, .unset, .unset, .unset, .unset, .unset, .unset, .unset, .unset] [(.int (1 : Int32))])) _
    refine XS.iloadN X0.here hx rfl (hb hby at_1) rfl ?_
    show Steps p.tables e below (s₁.setTop (mkF m 2 #[.val (.int p1), .val (.int p2), .val (.int p3), .val (.int p4), .val (.int p5), .unset, .unset, .unset, .unset, .unset, .unset, .unset, .unset, .unset, .unset] [(.int p1), (.int (1 : Int32))])) _
    refine XS.iconst X0.here hx rfl (hb hby at_2) ?_
    show Steps p.tables e below (s₁.setTop (mkF m 3 #[.val (.int p1), .val (.int p2), .val (.int p3), .val (.int p4), .val (.int p5), .unset, .unset, .unset, .unset, .unset, .unset, .unset, .unset, .unset, .unset] [(.int (3 : Int32)), (.int p1), (.int (1 : Int32))])) _
    refine XS.iand X0.here hx rfl (hb hby at_3) rfl ?_
    show Steps p.tables e below (s₁.setTop (mkF m 4 #[.val (.int p1), .val (.int p2), .val (.int p3), .val (.int p4), .val (.int p5), .unset, .unset, .unset, .unset, .unset, .unset, .unset, .unset, .unset, .unset] [(.int (p1 &&& (3 : Int32))), (.int (1 : Int32))])) _
    refine XS.iadd X0.here hx rfl (hb hby at_4) rfl ?_
    show Steps p.tables e below (s₁.setTop (mkF m 5 #[.val (.int p1), .val (.int p2), .val (.int p3), .val (.int p4), .val (.int p5), .unset, .unset, .unset, .unset, .unset, .unset, .unset, .unset, .unset, .unset] [(.int ((1 : Int32) + (p1 &&& (3 : Int32))))])) _
    rw [← hw1]
    exact kt
  have rw1 := own_w4 p1
  rw [← hw1] at rw1
  clear hw1
  have hwne := own_wne rw1
  obtain ⟨rA, hrA⟩ : ∃ z : Int32, z = ((p2 &&& (2147483647 : Int32)) % (3 : Int32)) := ⟨_, rfl⟩
  have pre2 : ∀ tt, Steps p.tables e below (s₁.setTop (mkF m 17 #[.val (.int p1), .val (.int p2), .val (.int p3), .val (.int p4), .val (.int p5), .val (.int w1), .val (.int (p2 &&& (2147483647 : Int32))), .unset, .unset, .unset, .unset, .unset, .unset, .unset, .unset] [(.int rA)])) tt → Steps p.tables e below (s₁.setTop (entryFrame m #[(.int p1), (.int p2), (.int p3), (.int p4), (.int p5)] maxLocals)) tt := by
    intro tt kt
    refine pre1 tt ?_
    show Steps p.tables e below (s₁.setTop (mkF m 5 #[.val (.int p1), .val (.int p2), .val (.int p3), .val (.int p4), .val (.int p5), .unset, .unset, .unset, .unset, .unset, .unset, .unset, .unset, .unset, .unset] [(.int w1)])) _
    refine XS.istore X0.here hx rfl (hb hby at_5) rfl (l' := #[.val (.int p1), .val (.int p2), .val (.int p3), .val (.int p4), .val (.int p5), .val (.int w1), .unset, .unset, .unset, .unset, .unset, .unset, .unset, .unset, .unset]) rfl ?_
    show Steps p.tables e below (s₁.setTop (mkF m 7 #[.val (.int p1), .val (.int p2), .val (.int p3), .val (.int p4), .val (.int p5), .val (.int w1), .unset, .unset, .unset, .unset, .unset, .unset, .unset, .unset, .unset] [])) _
    refine XS.iloadN X0.here hx rfl (hb hby at_7) rfl ?_
    show Steps p.tables e below (s₁.setTop (mkF m 8 #[.val (.int p1), .val (.int p2), .val (.int p3), .val (.int p4), .val (.int p5), .val (.int w1), .unset, .unset, .unset, .unset, .unset, .unset, .unset, .unset, .unset] [(.int p2)])) _
    refine X0.ldcInt hx hown (mvT hZ (hw _ (List.mem_of_getElem? (i := 0) rfl))) (g := (mkF m 8 #[.val (.int p1), .val (.int p2), .val (.int p3), .val (.int p4), .val (.int p5), .val (.int w1), .unset, .unset, .unset, .unset, .unset, .unset, .unset, .unset, .unset] [(.int p2)])) rfl (hb hby at_8) _ ?_
    show Steps p.tables e below (s₁.setTop (mkF m 10 #[.val (.int p1), .val (.int p2), .val (.int p3), .val (.int p4), .val (.int p5), .val (.int w1), .unset, .unset, .unset, .unset, .unset, .unset, .unset, .unset, .unset] [(.int (2147483647 : Int32)), (.int p2)])) _
    refine XS.iand X0.here hx rfl (hb hby at_10) rfl ?_
    show Steps p.tables e below (s₁.setTop (mkF m 11 #[.val (.int p1), .val (.int p2), .val (.int p3), .val (.int p4), .val (.int p5), .val (.int w1), .unset, .unset, .unset, .unset, .unset, .unset, .unset, .unset, .unset] [(.int (p2 &&& (2147483647 : Int32)))])) _
    refine XS.istore X0.here hx rfl (hb hby at_11) rfl (l' := #[.val (.int p1), .val (.int p2), .val (.int p3), .val (.int p4), .val (.int p5), .val (.int w1), .val (.int (p2 &&& (2147483647 : Int32))), .unset, .unset, .unset, .unset, .unset, .unset, .unset, .unset]) rfl ?_
    show Steps p.tables e below (s₁.setTop (mkF m 13 #[.val (.int p1), .val (.int p2), .val (.int p3), .val (.int p4), .val (.int p5), .val (.int w1), .val (.int (p2 &&& (2147483647 : Int32))), .unset, .unset, .unset, .unset, .unset, .unset, .unset, .unset] [])) _
    refine XS.iload X0.here hx rfl (hb hby at_13) rfl ?_
    show Steps p.tables e below (s₁.setTop (mkF m 15 #[.val (.int p1), .val (.int p2), .val (.int p3), .val (.int p4), .val (.int p5), .val (.int w1), .val (.int (p2 &&& (2147483647 : Int32))), .unset, .unset, .unset, .unset, .unset, .unset, .unset, .unset] [(.int (p2 &&& (2147483647 : Int32)))])) _
    refine XS.iconst X0.here hx rfl (hb hby at_15) ?_
    show Steps p.tables e below (s₁.setTop (mkF m 16 #[.val (.int p1), .val (.int p2), .val (.int p3), .val (.int p4), .val (.int p5), .val (.int w1), .val (.int (p2 &&& (2147483647 : Int32))), .unset, .unset, .unset, .unset, .unset, .unset, .unset, .unset] [(.int (3 : Int32)), (.int (p2 &&& (2147483647 : Int32)))])) _
    refine iremM (g := (mkF m 16 #[.val (.int p1), .val (.int p2), .val (.int p3), .val (.int p4), .val (.int p5), .val (.int w1), .val (.int (p2 &&& (2147483647 : Int32))), .unset, .unset, .unset, .unset, .unset, .unset, .unset, .unset] [(.int (3 : Int32)), (.int (p2 &&& (2147483647 : Int32)))])) X0 hx rfl (hb hby at_16) rfl (by decide : ¬ ((3 : Int32) = (0 : Int32))) ?_
    show Steps p.tables e below (s₁.setTop (mkF m 17 #[.val (.int p1), .val (.int p2), .val (.int p3), .val (.int p4), .val (.int p5), .val (.int w1), .val (.int (p2 &&& (2147483647 : Int32))), .unset, .unset, .unset, .unset, .unset, .unset, .unset, .unset] [(.int ((p2 &&& (2147483647 : Int32)) % (3 : Int32)))])) _
    rw [← hrA]
    exact kt
  have rrA := own_of3 (own_rem p2 (3 : Int32) (by decide))
  rw [← hrA] at rrA
  clear hrA
  obtain ⟨cA, hcA⟩ : ∃ z : Int32, z = (((p2 &&& (2147483647 : Int32)) / (3 : Int32)) % w1) := ⟨_, rfl⟩
  have pre3 : ∀ tt, Steps p.tables e below (s₁.setTop (mkF m 26 #[.val (.int p1), .val (.int p2), .val (.int p3), .val (.int p4), .val (.int p5), .val (.int w1), .val (.int (p2 &&& (2147483647 : Int32))), .val (.int rA), .unset, .unset, .unset, .unset, .unset, .unset, .unset] [(.int cA)])) tt → Steps p.tables e below (s₁.setTop (entryFrame m #[(.int p1), (.int p2), (.int p3), (.int p4), (.int p5)] maxLocals)) tt := by
    intro tt kt
    refine pre2 tt ?_
    show Steps p.tables e below (s₁.setTop (mkF m 17 #[.val (.int p1), .val (.int p2), .val (.int p3), .val (.int p4), .val (.int p5), .val (.int w1), .val (.int (p2 &&& (2147483647 : Int32))), .unset, .unset, .unset, .unset, .unset, .unset, .unset, .unset] [(.int rA)])) _
    refine XS.istore X0.here hx rfl (hb hby at_17) rfl (l' := #[.val (.int p1), .val (.int p2), .val (.int p3), .val (.int p4), .val (.int p5), .val (.int w1), .val (.int (p2 &&& (2147483647 : Int32))), .val (.int rA), .unset, .unset, .unset, .unset, .unset, .unset, .unset]) rfl ?_
    show Steps p.tables e below (s₁.setTop (mkF m 19 #[.val (.int p1), .val (.int p2), .val (.int p3), .val (.int p4), .val (.int p5), .val (.int w1), .val (.int (p2 &&& (2147483647 : Int32))), .val (.int rA), .unset, .unset, .unset, .unset, .unset, .unset, .unset] [])) _
    refine XS.iload X0.here hx rfl (hb hby at_19) rfl ?_
    show Steps p.tables e below (s₁.setTop (mkF m 21 #[.val (.int p1), .val (.int p2), .val (.int p3), .val (.int p4), .val (.int p5), .val (.int w1), .val (.int (p2 &&& (2147483647 : Int32))), .val (.int rA), .unset, .unset, .unset, .unset, .unset, .unset, .unset] [(.int (p2 &&& (2147483647 : Int32)))])) _
    refine XS.iconst X0.here hx rfl (hb hby at_21) ?_
    show Steps p.tables e below (s₁.setTop (mkF m 22 #[.val (.int p1), .val (.int p2), .val (.int p3), .val (.int p4), .val (.int p5), .val (.int w1), .val (.int (p2 &&& (2147483647 : Int32))), .val (.int rA), .unset, .unset, .unset, .unset, .unset, .unset, .unset] [(.int (3 : Int32)), (.int (p2 &&& (2147483647 : Int32)))])) _
    refine XS.idiv X0.here hx rfl (hb hby at_22) rfl (by decide : ¬ ((3 : Int32) = (0 : Int32))) ?_
    show Steps p.tables e below (s₁.setTop (mkF m 23 #[.val (.int p1), .val (.int p2), .val (.int p3), .val (.int p4), .val (.int p5), .val (.int w1), .val (.int (p2 &&& (2147483647 : Int32))), .val (.int rA), .unset, .unset, .unset, .unset, .unset, .unset, .unset] [(.int ((p2 &&& (2147483647 : Int32)) / (3 : Int32)))])) _
    refine XS.iload X0.here hx rfl (hb hby at_23) rfl ?_
    show Steps p.tables e below (s₁.setTop (mkF m 25 #[.val (.int p1), .val (.int p2), .val (.int p3), .val (.int p4), .val (.int p5), .val (.int w1), .val (.int (p2 &&& (2147483647 : Int32))), .val (.int rA), .unset, .unset, .unset, .unset, .unset, .unset, .unset] [(.int w1), (.int ((p2 &&& (2147483647 : Int32)) / (3 : Int32)))])) _
    refine iremM (g := (mkF m 25 #[.val (.int p1), .val (.int p2), .val (.int p3), .val (.int p4), .val (.int p5), .val (.int w1), .val (.int (p2 &&& (2147483647 : Int32))), .val (.int rA), .unset, .unset, .unset, .unset, .unset, .unset, .unset] [(.int w1), (.int ((p2 &&& (2147483647 : Int32)) / (3 : Int32)))])) X0 hx rfl (hb hby at_25) rfl hwne ?_
    show Steps p.tables e below (s₁.setTop (mkF m 26 #[.val (.int p1), .val (.int p2), .val (.int p3), .val (.int p4), .val (.int p5), .val (.int w1), .val (.int (p2 &&& (2147483647 : Int32))), .val (.int rA), .unset, .unset, .unset, .unset, .unset, .unset, .unset] [(.int (((p2 &&& (2147483647 : Int32)) / (3 : Int32)) % w1))])) _
    rw [← hcA]
    exact kt
  have rcA := own_d3 p2 w1 rw1
  rw [← hcA] at rcA
  clear hcA
  have xA := own_ix w1 rA cA rw1 rrA rcA
  obtain ⟨jA, hjA⟩ : ∃ z, z = (((rA &&& (1023 : Int32)) * w1) + cA) := ⟨_, rfl⟩
  have xA' := xA.2.2
  have yA := xA.2.1
  rw [← hjA] at xA' yA
  obtain ⟨rB, hrB⟩ : ∃ z : Int32, z = ((p3 &&& (2147483647 : Int32)) % (3 : Int32)) := ⟨_, rfl⟩
  have pre4 : ∀ tt, Steps p.tables e below (s₁.setTop (mkF m 38 #[.val (.int p1), .val (.int p2), .val (.int p3), .val (.int p4), .val (.int p5), .val (.int w1), .val (.int (p2 &&& (2147483647 : Int32))), .val (.int rA), .val (.int cA), .val (.int (p3 &&& (2147483647 : Int32))), .unset, .unset, .unset, .unset, .unset] [(.int rB)])) tt → Steps p.tables e below (s₁.setTop (entryFrame m #[(.int p1), (.int p2), (.int p3), (.int p4), (.int p5)] maxLocals)) tt := by
    intro tt kt
    refine pre3 tt ?_
    show Steps p.tables e below (s₁.setTop (mkF m 26 #[.val (.int p1), .val (.int p2), .val (.int p3), .val (.int p4), .val (.int p5), .val (.int w1), .val (.int (p2 &&& (2147483647 : Int32))), .val (.int rA), .unset, .unset, .unset, .unset, .unset, .unset, .unset] [(.int cA)])) _
    refine XS.istore X0.here hx rfl (hb hby at_26) rfl (l' := #[.val (.int p1), .val (.int p2), .val (.int p3), .val (.int p4), .val (.int p5), .val (.int w1), .val (.int (p2 &&& (2147483647 : Int32))), .val (.int rA), .val (.int cA), .unset, .unset, .unset, .unset, .unset, .unset]) rfl ?_
    show Steps p.tables e below (s₁.setTop (mkF m 28 #[.val (.int p1), .val (.int p2), .val (.int p3), .val (.int p4), .val (.int p5), .val (.int w1), .val (.int (p2 &&& (2147483647 : Int32))), .val (.int rA), .val (.int cA), .unset, .unset, .unset, .unset, .unset, .unset] [])) _
    refine XS.iloadN X0.here hx rfl (hb hby at_28) rfl ?_
    show Steps p.tables e below (s₁.setTop (mkF m 29 #[.val (.int p1), .val (.int p2), .val (.int p3), .val (.int p4), .val (.int p5), .val (.int w1), .val (.int (p2 &&& (2147483647 : Int32))), .val (.int rA), .val (.int cA), .unset, .unset, .unset, .unset, .unset, .unset] [(.int p3)])) _
    refine X0.ldcInt hx hown (mvT hZ (hw _ (List.mem_of_getElem? (i := 0) rfl))) (g := (mkF m 29 #[.val (.int p1), .val (.int p2), .val (.int p3), .val (.int p4), .val (.int p5), .val (.int w1), .val (.int (p2 &&& (2147483647 : Int32))), .val (.int rA), .val (.int cA), .unset, .unset, .unset, .unset, .unset, .unset] [(.int p3)])) rfl (hb hby at_29) _ ?_
    show Steps p.tables e below (s₁.setTop (mkF m 31 #[.val (.int p1), .val (.int p2), .val (.int p3), .val (.int p4), .val (.int p5), .val (.int w1), .val (.int (p2 &&& (2147483647 : Int32))), .val (.int rA), .val (.int cA), .unset, .unset, .unset, .unset, .unset, .unset] [(.int (2147483647 : Int32)), (.int p3)])) _
    refine XS.iand X0.here hx rfl (hb hby at_31) rfl ?_
    show Steps p.tables e below (s₁.setTop (mkF m 32 #[.val (.int p1), .val (.int p2), .val (.int p3), .val (.int p4), .val (.int p5), .val (.int w1), .val (.int (p2 &&& (2147483647 : Int32))), .val (.int rA), .val (.int cA), .unset, .unset, .unset, .unset, .unset, .unset] [(.int (p3 &&& (2147483647 : Int32)))])) _
    refine XS.istore X0.here hx rfl (hb hby at_32) rfl (l' := #[.val (.int p1), .val (.int p2), .val (.int p3), .val (.int p4), .val (.int p5), .val (.int w1), .val (.int (p2 &&& (2147483647 : Int32))), .val (.int rA), .val (.int cA), .val (.int (p3 &&& (2147483647 : Int32))), .unset, .unset, .unset, .unset, .unset]) rfl ?_
    show Steps p.tables e below (s₁.setTop (mkF m 34 #[.val (.int p1), .val (.int p2), .val (.int p3), .val (.int p4), .val (.int p5), .val (.int w1), .val (.int (p2 &&& (2147483647 : Int32))), .val (.int rA), .val (.int cA), .val (.int (p3 &&& (2147483647 : Int32))), .unset, .unset, .unset, .unset, .unset] [])) _
    refine XS.iload X0.here hx rfl (hb hby at_34) rfl ?_
    show Steps p.tables e below (s₁.setTop (mkF m 36 #[.val (.int p1), .val (.int p2), .val (.int p3), .val (.int p4), .val (.int p5), .val (.int w1), .val (.int (p2 &&& (2147483647 : Int32))), .val (.int rA), .val (.int cA), .val (.int (p3 &&& (2147483647 : Int32))), .unset, .unset, .unset, .unset, .unset] [(.int (p3 &&& (2147483647 : Int32)))])) _
    refine XS.iconst X0.here hx rfl (hb hby at_36) ?_
    show Steps p.tables e below (s₁.setTop (mkF m 37 #[.val (.int p1), .val (.int p2), .val (.int p3), .val (.int p4), .val (.int p5), .val (.int w1), .val (.int (p2 &&& (2147483647 : Int32))), .val (.int rA), .val (.int cA), .val (.int (p3 &&& (2147483647 : Int32))), .unset, .unset, .unset, .unset, .unset] [(.int (3 : Int32)), (.int (p3 &&& (2147483647 : Int32)))])) _
    refine iremM (g := (mkF m 37 #[.val (.int p1), .val (.int p2), .val (.int p3), .val (.int p4), .val (.int p5), .val (.int w1), .val (.int (p2 &&& (2147483647 : Int32))), .val (.int rA), .val (.int cA), .val (.int (p3 &&& (2147483647 : Int32))), .unset, .unset, .unset, .unset, .unset] [(.int (3 : Int32)), (.int (p3 &&& (2147483647 : Int32)))])) X0 hx rfl (hb hby at_37) rfl (by decide : ¬ ((3 : Int32) = (0 : Int32))) ?_
    show Steps p.tables e below (s₁.setTop (mkF m 38 #[.val (.int p1), .val (.int p2), .val (.int p3), .val (.int p4), .val (.int p5), .val (.int w1), .val (.int (p2 &&& (2147483647 : Int32))), .val (.int rA), .val (.int cA), .val (.int (p3 &&& (2147483647 : Int32))), .unset, .unset, .unset, .unset, .unset] [(.int ((p3 &&& (2147483647 : Int32)) % (3 : Int32)))])) _
    rw [← hrB]
    exact kt
  have rrB := own_of3 (own_rem p3 (3 : Int32) (by decide))
  rw [← hrB] at rrB
  clear hrB
  obtain ⟨cB, hcB⟩ : ∃ z : Int32, z = (((p3 &&& (2147483647 : Int32)) / (3 : Int32)) % w1) := ⟨_, rfl⟩
  have pre5 : ∀ tt, Steps p.tables e below (s₁.setTop (mkF m 47 #[.val (.int p1), .val (.int p2), .val (.int p3), .val (.int p4), .val (.int p5), .val (.int w1), .val (.int (p2 &&& (2147483647 : Int32))), .val (.int rA), .val (.int cA), .val (.int (p3 &&& (2147483647 : Int32))), .val (.int rB), .unset, .unset, .unset, .unset] [(.int cB)])) tt → Steps p.tables e below (s₁.setTop (entryFrame m #[(.int p1), (.int p2), (.int p3), (.int p4), (.int p5)] maxLocals)) tt := by
    intro tt kt
    refine pre4 tt ?_
    show Steps p.tables e below (s₁.setTop (mkF m 38 #[.val (.int p1), .val (.int p2), .val (.int p3), .val (.int p4), .val (.int p5), .val (.int w1), .val (.int (p2 &&& (2147483647 : Int32))), .val (.int rA), .val (.int cA), .val (.int (p3 &&& (2147483647 : Int32))), .unset, .unset, .unset, .unset, .unset] [(.int rB)])) _
    refine XS.istore X0.here hx rfl (hb hby at_38) rfl (l' := #[.val (.int p1), .val (.int p2), .val (.int p3), .val (.int p4), .val (.int p5), .val (.int w1), .val (.int (p2 &&& (2147483647 : Int32))), .val (.int rA), .val (.int cA), .val (.int (p3 &&& (2147483647 : Int32))), .val (.int rB), .unset, .unset, .unset, .unset]) rfl ?_
    show Steps p.tables e below (s₁.setTop (mkF m 40 #[.val (.int p1), .val (.int p2), .val (.int p3), .val (.int p4), .val (.int p5), .val (.int w1), .val (.int (p2 &&& (2147483647 : Int32))), .val (.int rA), .val (.int cA), .val (.int (p3 &&& (2147483647 : Int32))), .val (.int rB), .unset, .unset, .unset, .unset] [])) _
    refine XS.iload X0.here hx rfl (hb hby at_40) rfl ?_
    show Steps p.tables e below (s₁.setTop (mkF m 42 #[.val (.int p1), .val (.int p2), .val (.int p3), .val (.int p4), .val (.int p5), .val (.int w1), .val (.int (p2 &&& (2147483647 : Int32))), .val (.int rA), .val (.int cA), .val (.int (p3 &&& (2147483647 : Int32))), .val (.int rB), .unset, .unset, .unset, .unset] [(.int (p3 &&& (2147483647 : Int32)))])) _
    refine XS.iconst X0.here hx rfl (hb hby at_42) ?_
    show Steps p.tables e below (s₁.setTop (mkF m 43 #[.val (.int p1), .val (.int p2), .val (.int p3), .val (.int p4), .val (.int p5), .val (.int w1), .val (.int (p2 &&& (2147483647 : Int32))), .val (.int rA), .val (.int cA), .val (.int (p3 &&& (2147483647 : Int32))), .val (.int rB), .unset, .unset, .unset, .unset] [(.int (3 : Int32)), (.int (p3 &&& (2147483647 : Int32)))])) _
    refine XS.idiv X0.here hx rfl (hb hby at_43) rfl (by decide : ¬ ((3 : Int32) = (0 : Int32))) ?_
    show Steps p.tables e below (s₁.setTop (mkF m 44 #[.val (.int p1), .val (.int p2), .val (.int p3), .val (.int p4), .val (.int p5), .val (.int w1), .val (.int (p2 &&& (2147483647 : Int32))), .val (.int rA), .val (.int cA), .val (.int (p3 &&& (2147483647 : Int32))), .val (.int rB), .unset, .unset, .unset, .unset] [(.int ((p3 &&& (2147483647 : Int32)) / (3 : Int32)))])) _
    refine XS.iload X0.here hx rfl (hb hby at_44) rfl ?_
    show Steps p.tables e below (s₁.setTop (mkF m 46 #[.val (.int p1), .val (.int p2), .val (.int p3), .val (.int p4), .val (.int p5), .val (.int w1), .val (.int (p2 &&& (2147483647 : Int32))), .val (.int rA), .val (.int cA), .val (.int (p3 &&& (2147483647 : Int32))), .val (.int rB), .unset, .unset, .unset, .unset] [(.int w1), (.int ((p3 &&& (2147483647 : Int32)) / (3 : Int32)))])) _
    refine iremM (g := (mkF m 46 #[.val (.int p1), .val (.int p2), .val (.int p3), .val (.int p4), .val (.int p5), .val (.int w1), .val (.int (p2 &&& (2147483647 : Int32))), .val (.int rA), .val (.int cA), .val (.int (p3 &&& (2147483647 : Int32))), .val (.int rB), .unset, .unset, .unset, .unset] [(.int w1), (.int ((p3 &&& (2147483647 : Int32)) / (3 : Int32)))])) X0 hx rfl (hb hby at_46) rfl hwne ?_
    show Steps p.tables e below (s₁.setTop (mkF m 47 #[.val (.int p1), .val (.int p2), .val (.int p3), .val (.int p4), .val (.int p5), .val (.int w1), .val (.int (p2 &&& (2147483647 : Int32))), .val (.int rA), .val (.int cA), .val (.int (p3 &&& (2147483647 : Int32))), .val (.int rB), .unset, .unset, .unset, .unset] [(.int (((p3 &&& (2147483647 : Int32)) / (3 : Int32)) % w1))])) _
    rw [← hcB]
    exact kt
  have rcB := own_d3 p3 w1 rw1
  rw [← hcB] at rcB
  clear hcB
  have xB := own_ix w1 rB cB rw1 rrB rcB
  obtain ⟨jB, hjB⟩ : ∃ z, z = (((rB &&& (1023 : Int32)) * w1) + cB) := ⟨_, rfl⟩
  have xB' := xB.2.2
  have yB := xB.2.1
  rw [← hjB] at xB' yB
  obtain ⟨T6, h6, X6, e6, E6, A6, D6, -, st6⟩ := newO X0 hx hZ hown (hw _ (List.mem_of_getElem? (i := 1) rfl)) (hw _ (List.mem_of_getElem? (i := 2) rfl)) (hw _ (List.mem_of_getElem? (i := 3) rfl)) e0 (g := (mkF m 49 #[.val (.int p1), .val (.int p2), .val (.int p3), .val (.int p4), .val (.int p5), .val (.int w1), .val (.int (p2 &&& (2147483647 : Int32))), .val (.int rA), .val (.int cA), .val (.int (p3 &&& (2147483647 : Int32))), .val (.int rB), .val (.int cB), .unset, .unset, .unset] [])) rfl (hb hby at_49) (by decide) (by decide)
  obtain ⟨b6, g6⟩ : ∃ z, z = h0.size := ⟨_, rfl⟩
  rw [← g6] at A6 D6 st6
  have g_b6 : n0 ≤ b6 := Nat.le_trans Z0 (Nat.le_of_eq g6.symm)
  have F_blocks_b6 : Fld Z h6 b6 "com/example/muniment_room/munimentroom/categorizer/Columns" "blocks" "[[I" .null := D6 (Or.inl (hw _ (List.mem_of_getElem? (i := 13) rfl))) (ty := (.array (.array .int))) (by decide)
  have F_width_b6 : Fld Z h6 b6 "com/example/muniment_room/munimentroom/categorizer/Columns" "width" "I" (.int (0 : Int32)) := D6 (Or.inr (hw _ (List.mem_of_getElem? (i := 15) rfl))) (ty := .int) (by decide)
  have F_rows_b6 : Fld Z h6 b6 "com/example/muniment_room/munimentroom/categorizer/Columns" "rows" "I" (.int (0 : Int32)) := D6 (Or.inl (hw _ (List.mem_of_getElem? (i := 22) rfl))) (ty := .int) (by decide)
  obtain ⟨_, _, ⟨T7, L7, k7, n7⟩, -, X7, ⟨Lc7, hQ7, l7, y7, z7⟩, st7⟩ := X6.specialBack hx (y := (⟨"com/example/muniment_room/munimentroom/categorizer/Columns", "<init>", "(I)V"⟩ : MethodName)) rfl hown (mvT hZ (hw _ (List.mem_of_getElem? (i := 4) rfl))) (mvT hZ (hw _ (List.mem_of_getElem? (i := 5) rfl))) (mvT hZ (hw _ (List.mem_of_getElem? (i := 6) rfl))) (by decide) (backOf (W := 1) (rmC l Z a0 hw [] b6 w1 h6 n0 (Nat.le_trans Z0 E6.1) A6 F_width_b6 F_blocks_b6 F_rows_b6 g_b6) hZ (hw _ (List.mem_of_getElem? (i := 6) rfl)) (hw _ (List.mem_of_getElem? (i := 3) rfl)) (by decide) (by decide)) (g := (mkF m 55 #[.val (.int p1), .val (.int p2), .val (.int p3), .val (.int p4), .val (.int p5), .val (.int w1), .val (.int (p2 &&& (2147483647 : Int32))), .val (.int rA), .val (.int cA), .val (.int (p3 &&& (2147483647 : Int32))), .val (.int rB), .val (.int cB), .unset, .unset, .unset] [(.int w1), (.ref b6), (.ref b6)])) rfl (by rw [hml]; rfl) (Steps.refl _) (a := b6) (argsL := [(.int w1)]) (rest := [(.ref b6)]) (lenOf pd_rm0_0 rfl) rfl (by show 2 * 0 + _ ≤ _; exact Nat.le_of_eq rfl) (hb hby at_55) (fun _ _ => ⟨rfl, e6, (by decide : 1 + 1 ≤ _), (by decide : 3 + 1 ≤ _)⟩)
  dsimp only [Pt.U, Pt.locs, Pt.cells, Pt.slots] at X7 l7 y7 z7 st7 hQ7
  subst l7 y7 z7
  obtain ⟨rfl, N7q, K7, Ea7, Fw7, Fr7, b7, kb7, gb7, sz7, Fb7, Vb7, Ob7⟩ := hQ7
  have N7 := Fr.app N0 N7q
  have hne_ab : b6 ≠ b7 := Nat.ne_of_lt (Nat.lt_of_lt_of_le (A6).lt sz7)
  obtain ⟨cq8, kq8, q8a, q8b, q8c⟩ := isOf hZ rfl Ea7
  obtain ⟨_, _, ⟨T8, L8, k8, n8⟩, -, X8, ⟨Lc8, hQ8, l8, y8, z8⟩, st8⟩ := X7.virtualBack hx (y := (⟨"com/example/muniment_room/munimentroom/categorizer/Columns", "add", "()I"⟩ : MethodName)) (z := (⟨"com/example/muniment_room/munimentroom/categorizer/Columns", "add", "()I"⟩ : MethodName)) hown (mvT hZ (hw _ (List.mem_of_getElem? (i := 16) rfl))) (mvT hZ (hw _ (List.mem_of_getElem? (i := 17) rfl))) (notFace_of_selects (args := #[]) (mvT hZ (hw _ (List.mem_of_getElem? (i := 19) rfl)))) (mvT hZ (hw _ (List.mem_of_getElem? (i := 19) rfl))) (mvT hZ (hw _ (List.mem_of_getElem? (i := 18) rfl))) (by decide) (backOf (W := 0) (rmA0 l Z a0 hw [] b6 b7 kb7 w1 T7.heap n0 (Nat.le_trans (Nat.le_trans Z0 E6.1) K7.1) Ea7 Fw7 Fb7 Fr7 Vb7 Ob7 g_b6 gb7 hne_ab rw1) hZ (hw _ (List.mem_of_getElem? (i := 20) rfl)) (hw _ (List.mem_of_getElem? (i := 3) rfl)) (by decide) (by decide)) q8a q8c (g := (mkF m 62 #[.val (.int p1), .val (.int p2), .val (.int p3), .val (.int p4), .val (.int p5), .val (.int w1), .val (.int (p2 &&& (2147483647 : Int32))), .val (.int rA), .val (.int cA), .val (.int (p3 &&& (2147483647 : Int32))), .val (.int rB), .val (.int cB), .val (.ref b6), .unset, .unset] [(.ref b6)])) rfl (by rw [hml]; rfl) (Steps.refl _) (argsL := []) (rest := []) (lenOf pd_rm0_1 rfl) rfl (by show 2 * 0 + _ ≤ _; exact Nat.le_of_eq rfl) (hb hby at_62) (fun _ _ => ⟨rfl, rfl, (by decide : 2 + 1 ≤ _), (by decide : 4 + 4096 ≤ _)⟩)
  dsimp only [Pt.U, Pt.locs, Pt.cells, Pt.slots] at X8 l8 y8 z8 st8 hQ8
  subst l8 y8 z8
  obtain ⟨rfl, N8q, K8, Ea8, Fw8, Fr8, Fb8, c8, kc8, g_c8, sc8, Vb8, Vc8⟩ := hQ8
  have N8 := Fr.app N7 N8q
  have hne_bc : b7 ≠ c8 := Nat.ne_of_lt (Nat.lt_of_lt_of_le (Vb7).lt sc8)
  have hne_ac : b6 ≠ c8 := Nat.ne_of_lt (Nat.lt_of_lt_of_le (Ea7).lt sc8)
  obtain ⟨cq9, kq9, q9a, q9b, q9c⟩ := isOf hZ rfl Ea8
  obtain ⟨_, _, ⟨T9, L9, k9, n9⟩, -, X9, ⟨Lc9, hQ9, l9, y9, z9⟩, st9⟩ := X8.virtualBack hx (y := (⟨"com/example/muniment_room/munimentroom/categorizer/Columns", "add", "()I"⟩ : MethodName)) (z := (⟨"com/example/muniment_room/munimentroom/categorizer/Columns", "add", "()I"⟩ : MethodName)) hown (mvT hZ (hw _ (List.mem_of_getElem? (i := 16) rfl))) (mvT hZ (hw _ (List.mem_of_getElem? (i := 17) rfl))) (notFace_of_selects (args := #[]) (mvT hZ (hw _ (List.mem_of_getElem? (i := 19) rfl)))) (mvT hZ (hw _ (List.mem_of_getElem? (i := 19) rfl))) (mvT hZ (hw _ (List.mem_of_getElem? (i := 18) rfl))) (by decide) (backOf (W := 0) (rmA1 l Z a0 hw [] b6 b7 w1 (1 : Int32) (2 : Int32) T8.heap n0 (Nat.le_trans (Nat.le_trans (Nat.le_trans Z0 E6.1) K7.1) K8.1) Ea8 Fw8 Fb8 Fr8 g_b6 (by decide) (by decide)) hZ (hw _ (List.mem_of_getElem? (i := 20) rfl)) (hw _ (List.mem_of_getElem? (i := 3) rfl)) (by decide) (by decide)) q9a q9c (g := (mkF m 68 #[.val (.int p1), .val (.int p2), .val (.int p3), .val (.int p4), .val (.int p5), .val (.int w1), .val (.int (p2 &&& (2147483647 : Int32))), .val (.int rA), .val (.int cA), .val (.int (p3 &&& (2147483647 : Int32))), .val (.int rB), .val (.int cB), .val (.ref b6), .unset, .unset] [(.ref b6)])) rfl (by rw [hml]; rfl) (Steps.refl _) (argsL := []) (rest := []) (lenOf pd_rm0_1 rfl) rfl (by show 2 * 0 + _ ≤ _; exact Nat.le_of_eq rfl) (hb hby at_68) (fun _ _ => ⟨rfl, rfl, (by decide : 3 + 0 ≤ _), (by decide : 4100 + 0 ≤ _)⟩)
  dsimp only [Pt.U, Pt.locs, Pt.cells, Pt.slots] at X9 l9 y9 z9 st9 hQ9
  subst l9 y9 z9
  obtain ⟨rfl, N9q, K9, Ea9, Fw9, Fr9, Fb9⟩ := hQ9
  have N9 := Fr.app N8 N9q
  obtain ⟨cq10, kq10, q10a, q10b, q10c⟩ := isOf hZ rfl Ea9
  obtain ⟨_, _, ⟨T10, L10, k10, n10⟩, -, X10, ⟨Lc10, hQ10, l10, y10, z10⟩, st10⟩ := X9.virtualBack hx (y := (⟨"com/example/muniment_room/munimentroom/categorizer/Columns", "add", "()I"⟩ : MethodName)) (z := (⟨"com/example/muniment_room/munimentroom/categorizer/Columns", "add", "()I"⟩ : MethodName)) hown (mvT hZ (hw _ (List.mem_of_getElem? (i := 16) rfl))) (mvT hZ (hw _ (List.mem_of_getElem? (i := 17) rfl))) (notFace_of_selects (args := #[]) (mvT hZ (hw _ (List.mem_of_getElem? (i := 19) rfl)))) (mvT hZ (hw _ (List.mem_of_getElem? (i := 19) rfl))) (mvT hZ (hw _ (List.mem_of_getElem? (i := 18) rfl))) (by decide) (backOf (W := 0) (rmA1 l Z a0 hw [] b6 b7 w1 (2 : Int32) (3 : Int32) T9.heap n0 (Nat.le_trans (Nat.le_trans (Nat.le_trans (Nat.le_trans Z0 E6.1) K7.1) K8.1) K9.1) Ea9 Fw9 Fb9 Fr9 g_b6 (by decide) (by decide)) hZ (hw _ (List.mem_of_getElem? (i := 20) rfl)) (hw _ (List.mem_of_getElem? (i := 3) rfl)) (by decide) (by decide)) q10a q10c (g := (mkF m 74 #[.val (.int p1), .val (.int p2), .val (.int p3), .val (.int p4), .val (.int p5), .val (.int w1), .val (.int (p2 &&& (2147483647 : Int32))), .val (.int rA), .val (.int cA), .val (.int (p3 &&& (2147483647 : Int32))), .val (.int rB), .val (.int cB), .val (.ref b6), .unset, .unset] [(.ref b6)])) rfl (by rw [hml]; rfl) (Steps.refl _) (argsL := []) (rest := []) (lenOf pd_rm0_1 rfl) rfl (by show 2 * 0 + _ ≤ _; exact Nat.le_of_eq rfl) (hb hby at_74) (fun _ _ => ⟨rfl, rfl, (by decide : 3 + 0 ≤ _), (by decide : 4100 + 0 ≤ _)⟩)
  dsimp only [Pt.U, Pt.locs, Pt.cells, Pt.slots] at X10 l10 y10 z10 st10 hQ10
  subst l10 y10 z10
  obtain ⟨rfl, N10q, K10, Ea10, Fw10, Fr10, Fb10⟩ := hQ10
  have N10 := Fr.app N9 N10q
  obtain ⟨cq11, kq11, q11a, q11b, q11c⟩ := isOf hZ rfl Ea10
  obtain ⟨_, _, ⟨T11, L11, k11, n11⟩, -, X11, ⟨Lc11, hQ11, l11, y11, z11⟩, st11⟩ := X10.virtualBack hx (y := (⟨"com/example/muniment_room/munimentroom/categorizer/Columns", "set", "(III)V"⟩ : MethodName)) (z := (⟨"com/example/muniment_room/munimentroom/categorizer/Columns", "set", "(III)V"⟩ : MethodName)) hown (mvT hZ (hw _ (List.mem_of_getElem? (i := 25) rfl))) (mvT hZ (hw _ (List.mem_of_getElem? (i := 26) rfl))) (notFace_of_selects (args := #[]) (mvT hZ (hw _ (List.mem_of_getElem? (i := 28) rfl)))) (mvT hZ (hw _ (List.mem_of_getElem? (i := 28) rfl))) (mvT hZ (hw _ (List.mem_of_getElem? (i := 27) rfl))) (by decide) (backOf (W := 0) (rmS l Z a0 hw [] b6 b7 c8 kb7 kc8 w1 rB cB p4 jB [] T10.heap n0 (Nat.le_trans (Nat.le_trans (Nat.le_trans (Nat.le_trans (Nat.le_trans Z0 E6.1) K7.1) K8.1) K9.1) K10.1) Fw10 Fb10 ((Vb8.keep K9 (ninS (Ne.symm hne_ab) nin0)).keep K10 (ninS (Ne.symm hne_ab) nin0)) ((Vc8.keep K9 (ninS (Ne.symm hne_ac) nin0)).keep K10 (ninS (Ne.symm hne_ac) nin0)) xB.1 hjB.symm xB'  g_c8) hZ (hw _ (List.mem_of_getElem? (i := 29) rfl)) (hw _ (List.mem_of_getElem? (i := 3) rfl)) (by decide) (by decide)) q11a q11c (g := (mkF m 85 #[.val (.int p1), .val (.int p2), .val (.int p3), .val (.int p4), .val (.int p5), .val (.int w1), .val (.int (p2 &&& (2147483647 : Int32))), .val (.int rA), .val (.int cA), .val (.int (p3 &&& (2147483647 : Int32))), .val (.int rB), .val (.int cB), .val (.ref b6), .unset, .unset] [(.int p4), (.int cB), (.int rB), (.ref b6)])) rfl (by rw [hml]; rfl) (Steps.refl _) (argsL := [(.int rB), (.int cB), (.int p4)]) (rest := []) (lenOf pd_rm0_2 rfl) rfl (by show 2 * 0 + _ ≤ _; exact Nat.le_of_eq rfl) (hb hby at_85) (fun _ _ => ⟨rfl, rfl, (by decide : 3 + 0 ≤ _), (by decide : 4100 + 0 ≤ _)⟩)
  dsimp only [Pt.U, Pt.locs, Pt.cells, Pt.slots] at X11 l11 y11 z11 st11 hQ11
  subst l11 y11 z11
  obtain ⟨rfl, N11q, K11, Vc11⟩ := hQ11
  have N11 := Fr.app N10 N11q
  obtain ⟨cq12, kq12, q12a, q12b, q12c⟩ := isOf hZ rfl (Ea10.keep K11)
  obtain ⟨_, _, ⟨T12, L12, k12, n12⟩, -, X12, ⟨Lc12, hQ12, l12, y12, z12⟩, st12⟩ := X11.virtualBack hx (y := (⟨"com/example/muniment_room/munimentroom/categorizer/Columns", "set", "(III)V"⟩ : MethodName)) (z := (⟨"com/example/muniment_room/munimentroom/categorizer/Columns", "set", "(III)V"⟩ : MethodName)) hown (mvT hZ (hw _ (List.mem_of_getElem? (i := 25) rfl))) (mvT hZ (hw _ (List.mem_of_getElem? (i := 26) rfl))) (notFace_of_selects (args := #[]) (mvT hZ (hw _ (List.mem_of_getElem? (i := 28) rfl)))) (mvT hZ (hw _ (List.mem_of_getElem? (i := 28) rfl))) (mvT hZ (hw _ (List.mem_of_getElem? (i := 27) rfl))) (by decide) (backOf (W := 0) (rmS l Z a0 hw [] b6 b7 c8 kb7 kc8 w1 rA cA p5 jA ((jB, .int p4) :: []) T11.heap n0 (Nat.le_trans (Nat.le_trans (Nat.le_trans (Nat.le_trans (Nat.le_trans (Nat.le_trans Z0 E6.1) K7.1) K8.1) K9.1) K10.1) K11.1) (Fw10.keep K11 (ninS hne_ac nin0)) (Fb10.keep K11 (ninS hne_ac nin0)) (((Vb8.keep K9 (ninS (Ne.symm hne_ab) nin0)).keep K10 (ninS (Ne.symm hne_ab) nin0)).keep K11 (ninS hne_bc nin0)) Vc11 xA.1 hjA.symm xA'  g_c8) hZ (hw _ (List.mem_of_getElem? (i := 29) rfl)) (hw _ (List.mem_of_getElem? (i := 3) rfl)) (by decide) (by decide)) q12a q12c (g := (mkF m 96 #[.val (.int p1), .val (.int p2), .val (.int p3), .val (.int p4), .val (.int p5), .val (.int w1), .val (.int (p2 &&& (2147483647 : Int32))), .val (.int rA), .val (.int cA), .val (.int (p3 &&& (2147483647 : Int32))), .val (.int rB), .val (.int cB), .val (.ref b6), .unset, .unset] [(.int p5), (.int cA), (.int rA), (.ref b6)])) rfl (by rw [hml]; rfl) (Steps.refl _) (argsL := [(.int rA), (.int cA), (.int p5)]) (rest := []) (lenOf pd_rm0_2 rfl) rfl (by show 2 * 0 + _ ≤ _; exact Nat.le_of_eq rfl) (hb hby at_96) (fun _ _ => ⟨rfl, rfl, (by decide : 3 + 0 ≤ _), (by decide : 4100 + 0 ≤ _)⟩)
  dsimp only [Pt.U, Pt.locs, Pt.cells, Pt.slots] at X12 l12 y12 z12 st12 hQ12
  subst l12 y12 z12
  obtain ⟨rfl, N12q, K12, Vc12⟩ := hQ12
  have N12 := Fr.app N11 N12q
  have pre13 : ∀ tt, Steps p.tables e below (T12.setTop (mkF m 103 #[.val (.int p1), .val (.int p2), .val (.int p3), .val (.int p4), .val (.int p5), .val (.int w1), .val (.int (p2 &&& (2147483647 : Int32))), .val (.int rA), .val (.int cA), .val (.int (p3 &&& (2147483647 : Int32))), .val (.int rB), .val (.int cB), .val (.ref b6), .unset, .unset] [(.int rB), (.int rA)])) tt → Steps p.tables e below (s₁.setTop (entryFrame m #[(.int p1), (.int p2), (.int p3), (.int p4), (.int p5)] maxLocals)) tt := by
    intro tt kt
    refine pre5 tt ?_
    show Steps p.tables e below (s₁.setTop (mkF m 47 #[.val (.int p1), .val (.int p2), .val (.int p3), .val (.int p4), .val (.int p5), .val (.int w1), .val (.int (p2 &&& (2147483647 : Int32))), .val (.int rA), .val (.int cA), .val (.int (p3 &&& (2147483647 : Int32))), .val (.int rB), .unset, .unset, .unset, .unset] [(.int cB)])) _
    refine XS.istore X0.here hx rfl (hb hby at_47) rfl (l' := #[.val (.int p1), .val (.int p2), .val (.int p3), .val (.int p4), .val (.int p5), .val (.int w1), .val (.int (p2 &&& (2147483647 : Int32))), .val (.int rA), .val (.int cA), .val (.int (p3 &&& (2147483647 : Int32))), .val (.int rB), .val (.int cB), .unset, .unset, .unset]) rfl ?_
    show Steps p.tables e below (s₁.setTop (mkF m 49 #[.val (.int p1), .val (.int p2), .val (.int p3), .val (.int p4), .val (.int p5), .val (.int w1), .val (.int (p2 &&& (2147483647 : Int32))), .val (.int rA), .val (.int cA), .val (.int (p3 &&& (2147483647 : Int32))), .val (.int rB), .val (.int cB), .unset, .unset, .unset] [])) _
    refine st6 _ ?_
    show Steps p.tables e below (T6.setTop (mkF m 52 #[.val (.int p1), .val (.int p2), .val (.int p3), .val (.int p4), .val (.int p5), .val (.int w1), .val (.int (p2 &&& (2147483647 : Int32))), .val (.int rA), .val (.int cA), .val (.int (p3 &&& (2147483647 : Int32))), .val (.int rB), .val (.int cB), .unset, .unset, .unset] [(.ref b6)])) _
    refine XS.dup X6.here hx rfl (hb hby at_52) rfl rfl ?_
    show Steps p.tables e below (T6.setTop (mkF m 53 #[.val (.int p1), .val (.int p2), .val (.int p3), .val (.int p4), .val (.int p5), .val (.int w1), .val (.int (p2 &&& (2147483647 : Int32))), .val (.int rA), .val (.int cA), .val (.int (p3 &&& (2147483647 : Int32))), .val (.int rB), .val (.int cB), .unset, .unset, .unset] [(.ref b6), (.ref b6)])) _
    refine XS.iload X6.here hx rfl (hb hby at_53) rfl ?_
    show Steps p.tables e below (T6.setTop (mkF m 55 #[.val (.int p1), .val (.int p2), .val (.int p3), .val (.int p4), .val (.int p5), .val (.int w1), .val (.int (p2 &&& (2147483647 : Int32))), .val (.int rA), .val (.int cA), .val (.int (p3 &&& (2147483647 : Int32))), .val (.int rB), .val (.int cB), .unset, .unset, .unset] [(.int w1), (.ref b6), (.ref b6)])) _
    refine st7.trans ?_
    show Steps p.tables e below (T7.setTop (mkF m 58 #[.val (.int p1), .val (.int p2), .val (.int p3), .val (.int p4), .val (.int p5), .val (.int w1), .val (.int (p2 &&& (2147483647 : Int32))), .val (.int rA), .val (.int cA), .val (.int (p3 &&& (2147483647 : Int32))), .val (.int rB), .val (.int cB), .unset, .unset, .unset] [(.ref b6)])) _
    refine XS.astore X7.here hx rfl (hb hby at_58) rfl rfl (l' := #[.val (.int p1), .val (.int p2), .val (.int p3), .val (.int p4), .val (.int p5), .val (.int w1), .val (.int (p2 &&& (2147483647 : Int32))), .val (.int rA), .val (.int cA), .val (.int (p3 &&& (2147483647 : Int32))), .val (.int rB), .val (.int cB), .val (.ref b6), .unset, .unset]) rfl ?_
    show Steps p.tables e below (T7.setTop (mkF m 60 #[.val (.int p1), .val (.int p2), .val (.int p3), .val (.int p4), .val (.int p5), .val (.int w1), .val (.int (p2 &&& (2147483647 : Int32))), .val (.int rA), .val (.int cA), .val (.int (p3 &&& (2147483647 : Int32))), .val (.int rB), .val (.int cB), .val (.ref b6), .unset, .unset] [])) _
    refine XS.aload X7.here hx rfl (hb hby at_60) rfl rfl ?_
    show Steps p.tables e below (T7.setTop (mkF m 62 #[.val (.int p1), .val (.int p2), .val (.int p3), .val (.int p4), .val (.int p5), .val (.int w1), .val (.int (p2 &&& (2147483647 : Int32))), .val (.int rA), .val (.int cA), .val (.int (p3 &&& (2147483647 : Int32))), .val (.int rB), .val (.int cB), .val (.ref b6), .unset, .unset] [(.ref b6)])) _
    refine st8.trans ?_
    show Steps p.tables e below (T8.setTop (mkF m 65 #[.val (.int p1), .val (.int p2), .val (.int p3), .val (.int p4), .val (.int p5), .val (.int w1), .val (.int (p2 &&& (2147483647 : Int32))), .val (.int rA), .val (.int cA), .val (.int (p3 &&& (2147483647 : Int32))), .val (.int rB), .val (.int cB), .val (.ref b6), .unset, .unset] [(.int (0 : Int32))])) _
    refine XS.pop X8.here hx rfl (hb hby at_65) rfl rfl ?_
    show Steps p.tables e below (T8.setTop (mkF m 66 #[.val (.int p1), .val (.int p2), .val (.int p3), .val (.int p4), .val (.int p5), .val (.int w1), .val (.int (p2 &&& (2147483647 : Int32))), .val (.int rA), .val (.int cA), .val (.int (p3 &&& (2147483647 : Int32))), .val (.int rB), .val (.int cB), .val (.ref b6), .unset, .unset] [])) _
    refine XS.aload X8.here hx rfl (hb hby at_66) rfl rfl ?_
    show Steps p.tables e below (T8.setTop (mkF m 68 #[.val (.int p1), .val (.int p2), .val (.int p3), .val (.int p4), .val (.int p5), .val (.int w1), .val (.int (p2 &&& (2147483647 : Int32))), .val (.int rA), .val (.int cA), .val (.int (p3 &&& (2147483647 : Int32))), .val (.int rB), .val (.int cB), .val (.ref b6), .unset, .unset] [(.ref b6)])) _
    refine st9.trans ?_
    show Steps p.tables e below (T9.setTop (mkF m 71 #[.val (.int p1), .val (.int p2), .val (.int p3), .val (.int p4), .val (.int p5), .val (.int w1), .val (.int (p2 &&& (2147483647 : Int32))), .val (.int rA), .val (.int cA), .val (.int (p3 &&& (2147483647 : Int32))), .val (.int rB), .val (.int cB), .val (.ref b6), .unset, .unset] [(.int (1 : Int32))])) _
    refine XS.pop X9.here hx rfl (hb hby at_71) rfl rfl ?_
    show Steps p.tables e below (T9.setTop (mkF m 72 #[.val (.int p1), .val (.int p2), .val (.int p3), .val (.int p4), .val (.int p5), .val (.int w1), .val (.int (p2 &&& (2147483647 : Int32))), .val (.int rA), .val (.int cA), .val (.int (p3 &&& (2147483647 : Int32))), .val (.int rB), .val (.int cB), .val (.ref b6), .unset, .unset] [])) _
    refine XS.aload X9.here hx rfl (hb hby at_72) rfl rfl ?_
    show Steps p.tables e below (T9.setTop (mkF m 74 #[.val (.int p1), .val (.int p2), .val (.int p3), .val (.int p4), .val (.int p5), .val (.int w1), .val (.int (p2 &&& (2147483647 : Int32))), .val (.int rA), .val (.int cA), .val (.int (p3 &&& (2147483647 : Int32))), .val (.int rB), .val (.int cB), .val (.ref b6), .unset, .unset] [(.ref b6)])) _
    refine st10.trans ?_
    show Steps p.tables e below (T10.setTop (mkF m 77 #[.val (.int p1), .val (.int p2), .val (.int p3), .val (.int p4), .val (.int p5), .val (.int w1), .val (.int (p2 &&& (2147483647 : Int32))), .val (.int rA), .val (.int cA), .val (.int (p3 &&& (2147483647 : Int32))), .val (.int rB), .val (.int cB), .val (.ref b6), .unset, .unset] [(.int (2 : Int32))])) _
    refine XS.pop X10.here hx rfl (hb hby at_77) rfl rfl ?_
    show Steps p.tables e below (T10.setTop (mkF m 78 #[.val (.int p1), .val (.int p2), .val (.int p3), .val (.int p4), .val (.int p5), .val (.int w1), .val (.int (p2 &&& (2147483647 : Int32))), .val (.int rA), .val (.int cA), .val (.int (p3 &&& (2147483647 : Int32))), .val (.int rB), .val (.int cB), .val (.ref b6), .unset, .unset] [])) _
    refine XS.aload X10.here hx rfl (hb hby at_78) rfl rfl ?_
    show Steps p.tables e below (T10.setTop (mkF m 80 #[.val (.int p1), .val (.int p2), .val (.int p3), .val (.int p4), .val (.int p5), .val (.int w1), .val (.int (p2 &&& (2147483647 : Int32))), .val (.int rA), .val (.int cA), .val (.int (p3 &&& (2147483647 : Int32))), .val (.int rB), .val (.int cB), .val (.ref b6), .unset, .unset] [(.ref b6)])) _
    refine XS.iload X10.here hx rfl (hb hby at_80) rfl ?_
    show Steps p.tables e below (T10.setTop (mkF m 82 #[.val (.int p1), .val (.int p2), .val (.int p3), .val (.int p4), .val (.int p5), .val (.int w1), .val (.int (p2 &&& (2147483647 : Int32))), .val (.int rA), .val (.int cA), .val (.int (p3 &&& (2147483647 : Int32))), .val (.int rB), .val (.int cB), .val (.ref b6), .unset, .unset] [(.int rB), (.ref b6)])) _
    refine XS.iload X10.here hx rfl (hb hby at_82) rfl ?_
    show Steps p.tables e below (T10.setTop (mkF m 84 #[.val (.int p1), .val (.int p2), .val (.int p3), .val (.int p4), .val (.int p5), .val (.int w1), .val (.int (p2 &&& (2147483647 : Int32))), .val (.int rA), .val (.int cA), .val (.int (p3 &&& (2147483647 : Int32))), .val (.int rB), .val (.int cB), .val (.ref b6), .unset, .unset] [(.int cB), (.int rB), (.ref b6)])) _
    refine XS.iloadN X10.here hx rfl (hb hby at_84) rfl ?_
    show Steps p.tables e below (T10.setTop (mkF m 85 #[.val (.int p1), .val (.int p2), .val (.int p3), .val (.int p4), .val (.int p5), .val (.int w1), .val (.int (p2 &&& (2147483647 : Int32))), .val (.int rA), .val (.int cA), .val (.int (p3 &&& (2147483647 : Int32))), .val (.int rB), .val (.int cB), .val (.ref b6), .unset, .unset] [(.int p4), (.int cB), (.int rB), (.ref b6)])) _
    refine st11.trans ?_
    show Steps p.tables e below (T11.setTop (mkF m 88 #[.val (.int p1), .val (.int p2), .val (.int p3), .val (.int p4), .val (.int p5), .val (.int w1), .val (.int (p2 &&& (2147483647 : Int32))), .val (.int rA), .val (.int cA), .val (.int (p3 &&& (2147483647 : Int32))), .val (.int rB), .val (.int cB), .val (.ref b6), .unset, .unset] [])) _
    refine XS.aload X11.here hx rfl (hb hby at_88) rfl rfl ?_
    show Steps p.tables e below (T11.setTop (mkF m 90 #[.val (.int p1), .val (.int p2), .val (.int p3), .val (.int p4), .val (.int p5), .val (.int w1), .val (.int (p2 &&& (2147483647 : Int32))), .val (.int rA), .val (.int cA), .val (.int (p3 &&& (2147483647 : Int32))), .val (.int rB), .val (.int cB), .val (.ref b6), .unset, .unset] [(.ref b6)])) _
    refine XS.iload X11.here hx rfl (hb hby at_90) rfl ?_
    show Steps p.tables e below (T11.setTop (mkF m 92 #[.val (.int p1), .val (.int p2), .val (.int p3), .val (.int p4), .val (.int p5), .val (.int w1), .val (.int (p2 &&& (2147483647 : Int32))), .val (.int rA), .val (.int cA), .val (.int (p3 &&& (2147483647 : Int32))), .val (.int rB), .val (.int cB), .val (.ref b6), .unset, .unset] [(.int rA), (.ref b6)])) _
    refine XS.iload X11.here hx rfl (hb hby at_92) rfl ?_
    show Steps p.tables e below (T11.setTop (mkF m 94 #[.val (.int p1), .val (.int p2), .val (.int p3), .val (.int p4), .val (.int p5), .val (.int w1), .val (.int (p2 &&& (2147483647 : Int32))), .val (.int rA), .val (.int cA), .val (.int (p3 &&& (2147483647 : Int32))), .val (.int rB), .val (.int cB), .val (.ref b6), .unset, .unset] [(.int cA), (.int rA), (.ref b6)])) _
    refine XS.iload X11.here hx rfl (hb hby at_94) rfl ?_
    show Steps p.tables e below (T11.setTop (mkF m 96 #[.val (.int p1), .val (.int p2), .val (.int p3), .val (.int p4), .val (.int p5), .val (.int w1), .val (.int (p2 &&& (2147483647 : Int32))), .val (.int rA), .val (.int cA), .val (.int (p3 &&& (2147483647 : Int32))), .val (.int rB), .val (.int cB), .val (.ref b6), .unset, .unset] [(.int p5), (.int cA), (.int rA), (.ref b6)])) _
    refine st12.trans ?_
    show Steps p.tables e below (T12.setTop (mkF m 99 #[.val (.int p1), .val (.int p2), .val (.int p3), .val (.int p4), .val (.int p5), .val (.int w1), .val (.int (p2 &&& (2147483647 : Int32))), .val (.int rA), .val (.int cA), .val (.int (p3 &&& (2147483647 : Int32))), .val (.int rB), .val (.int cB), .val (.ref b6), .unset, .unset] [])) _
    refine XS.iload X12.here hx rfl (hb hby at_99) rfl ?_
    show Steps p.tables e below (T12.setTop (mkF m 101 #[.val (.int p1), .val (.int p2), .val (.int p3), .val (.int p4), .val (.int p5), .val (.int w1), .val (.int (p2 &&& (2147483647 : Int32))), .val (.int rA), .val (.int cA), .val (.int (p3 &&& (2147483647 : Int32))), .val (.int rB), .val (.int cB), .val (.ref b6), .unset, .unset] [(.int rA)])) _
    refine XS.iload X12.here hx rfl (hb hby at_101) rfl ?_
    exact kt
  by_cases c103_14 : rA = rB
  · have pre15 : ∀ tt, Steps p.tables e below (T12.setTop (mkF m 110 #[.val (.int p1), .val (.int p2), .val (.int p3), .val (.int p4), .val (.int p5), .val (.int w1), .val (.int (p2 &&& (2147483647 : Int32))), .val (.int rA), .val (.int cA), .val (.int (p3 &&& (2147483647 : Int32))), .val (.int rB), .val (.int cB), .val (.ref b6), .unset, .unset] [(.int cB), (.int cA)])) tt → Steps p.tables e below (s₁.setTop (entryFrame m #[(.int p1), (.int p2), (.int p3), (.int p4), (.int p5)] maxLocals)) tt := by
      intro tt kt
      refine pre13 tt ?_
      show Steps p.tables e below (T12.setTop (mkF m 103 #[.val (.int p1), .val (.int p2), .val (.int p3), .val (.int p4), .val (.int p5), .val (.int w1), .val (.int (p2 &&& (2147483647 : Int32))), .val (.int rA), .val (.int cA), .val (.int (p3 &&& (2147483647 : Int32))), .val (.int rB), .val (.int cB), .val (.ref b6), .unset, .unset] [(.int rB), (.int rA)])) _
      refine XS.icmpNo X12.here hx rfl (hb hby at_103) rfl (teq c103_14).2 ?_
      show Steps p.tables e below (T12.setTop (mkF m 106 #[.val (.int p1), .val (.int p2), .val (.int p3), .val (.int p4), .val (.int p5), .val (.int w1), .val (.int (p2 &&& (2147483647 : Int32))), .val (.int rA), .val (.int cA), .val (.int (p3 &&& (2147483647 : Int32))), .val (.int rB), .val (.int cB), .val (.ref b6), .unset, .unset] [])) _
      refine XS.iload X12.here hx rfl (hb hby at_106) rfl ?_
      show Steps p.tables e below (T12.setTop (mkF m 108 #[.val (.int p1), .val (.int p2), .val (.int p3), .val (.int p4), .val (.int p5), .val (.int w1), .val (.int (p2 &&& (2147483647 : Int32))), .val (.int rA), .val (.int cA), .val (.int (p3 &&& (2147483647 : Int32))), .val (.int rB), .val (.int cB), .val (.ref b6), .unset, .unset] [(.int cA)])) _
      refine XS.iload X12.here hx rfl (hb hby at_108) rfl ?_
      exact kt
    by_cases c110_16 : cA = cB
    · obtain ⟨cq17, kq17, q17a, q17b, q17c⟩ := isOf hZ rfl ((Ea10.keep K11).keep K12)
      obtain ⟨_, _, ⟨T17, L17, k17, n17⟩, -, X17, ⟨Lc17, hQ17, l17, y17, z17⟩, st17⟩ := X12.virtualBack hx (y := (⟨"com/example/muniment_room/munimentroom/categorizer/Columns", "get", "(II)I"⟩ : MethodName)) (z := (⟨"com/example/muniment_room/munimentroom/categorizer/Columns", "get", "(II)I"⟩ : MethodName)) hown (mvT hZ (hw _ (List.mem_of_getElem? (i := 30) rfl))) (mvT hZ (hw _ (List.mem_of_getElem? (i := 31) rfl))) (notFace_of_selects (args := #[]) (mvT hZ (hw _ (List.mem_of_getElem? (i := 33) rfl)))) (mvT hZ (hw _ (List.mem_of_getElem? (i := 33) rfl))) (mvT hZ (hw _ (List.mem_of_getElem? (i := 32) rfl))) (by decide) (backOf (W := 0) (rmG l Z a0 hw [] b6 b7 c8 kb7 kc8 w1 rA cA p5 jA ((jA, .int p5) :: ((jB, .int p4) :: [])) T12.heap n0 (Nat.le_trans (Nat.le_trans (Nat.le_trans (Nat.le_trans (Nat.le_trans (Nat.le_trans (Nat.le_trans Z0 E6.1) K7.1) K8.1) K9.1) K10.1) K11.1) K12.1) ((Fw10.keep K11 (ninS hne_ac nin0)).keep K12 (ninS hne_ac nin0)) ((Fb10.keep K11 (ninS hne_ac nin0)).keep K12 (ninS hne_ac nin0)) ((((Vb8.keep K9 (ninS (Ne.symm hne_ab) nin0)).keep K10 (ninS (Ne.symm hne_ab) nin0)).keep K11 (ninS hne_bc nin0)).keep K12 (ninS hne_bc nin0)) Vc12 xA.1 hjA.symm xA'  (getH_hit (xA').1 (rfl : jA = jA))) hZ (hw _ (List.mem_of_getElem? (i := 34) rfl)) (hw _ (List.mem_of_getElem? (i := 3) rfl)) (by decide) (by decide)) q17a q17c (g := (mkF m 139 #[.val (.int p1), .val (.int p2), .val (.int p3), .val (.int p4), .val (.int p5), .val (.int w1), .val (.int (p2 &&& (2147483647 : Int32))), .val (.int rA), .val (.int cA), .val (.int (p3 &&& (2147483647 : Int32))), .val (.int rB), .val (.int cB), .val (.ref b6), .val (.int (1 : Int32)), .val (.int p5)] [(.int cA), (.int rA), (.ref b6)])) rfl (by rw [hml]; rfl) (Steps.refl _) (argsL := [(.int rA), (.int cA)]) (rest := []) (lenOf pd_rm0_3 rfl) rfl (by show 2 * 0 + _ ≤ _; exact Nat.le_of_eq rfl) (hb hby at_139) (fun _ _ => ⟨rfl, rfl, (by decide : 3 + 0 ≤ _), (by decide : 4100 + 0 ≤ _)⟩)
      dsimp only [Pt.U, Pt.locs, Pt.cells, Pt.slots] at X17 l17 y17 z17 st17 hQ17
      subst l17 y17 z17
      obtain ⟨rfl, N17q, hE17⟩ := hQ17
      have N17 := Fr.app N12 N17q
      obtain ⟨cq18, kq18, q18a, q18b, q18c⟩ := isOf hZ hE17 ((Ea10.keep K11).keep K12)
      obtain ⟨_, _, ⟨T18, L18, k18, n18⟩, -, X18, ⟨Lc18, hQ18, l18, y18, z18⟩, st18⟩ := X17.virtualBack hx (y := (⟨"com/example/muniment_room/munimentroom/categorizer/Columns", "get", "(II)I"⟩ : MethodName)) (z := (⟨"com/example/muniment_room/munimentroom/categorizer/Columns", "get", "(II)I"⟩ : MethodName)) hown (mvT hZ (hw _ (List.mem_of_getElem? (i := 30) rfl))) (mvT hZ (hw _ (List.mem_of_getElem? (i := 31) rfl))) (notFace_of_selects (args := #[]) (mvT hZ (hw _ (List.mem_of_getElem? (i := 33) rfl)))) (mvT hZ (hw _ (List.mem_of_getElem? (i := 33) rfl))) (mvT hZ (hw _ (List.mem_of_getElem? (i := 32) rfl))) (by decide) (backOf (W := 0) (rmG l Z a0 hw [] b6 b7 c8 kb7 kc8 w1 rB cB p5 jB ((jA, .int p5) :: ((jB, .int p4) :: [])) T12.heap n0 (Nat.le_trans (Nat.le_trans (Nat.le_trans (Nat.le_trans (Nat.le_trans (Nat.le_trans (Nat.le_trans Z0 E6.1) K7.1) K8.1) K9.1) K10.1) K11.1) K12.1) ((Fw10.keep K11 (ninS hne_ac nin0)).keep K12 (ninS hne_ac nin0)) ((Fb10.keep K11 (ninS hne_ac nin0)).keep K12 (ninS hne_ac nin0)) ((((Vb8.keep K9 (ninS (Ne.symm hne_ab) nin0)).keep K10 (ninS (Ne.symm hne_ab) nin0)).keep K11 (ninS hne_bc nin0)).keep K12 (ninS hne_bc nin0)) Vc12 xB.1 hjB.symm xB'  (getH_hit (xB').1 (by rw [hjB, hjA, c103_14, c110_16] : jB = jA))) hZ (hw _ (List.mem_of_getElem? (i := 34) rfl)) (hw _ (List.mem_of_getElem? (i := 3) rfl)) (by decide) (by decide)) q18a q18c (g := (mkF m 153 #[.val (.int p1), .val (.int p2), .val (.int p3), .val (.int p4), .val (.int p5), .val (.int w1), .val (.int (p2 &&& (2147483647 : Int32))), .val (.int rA), .val (.int cA), .val (.int (p3 &&& (2147483647 : Int32))), .val (.int rB), .val (.int cB), .val (.ref b6), .val (.int (1 : Int32)), .val (.int p5)] [(.int cB), (.int rB), (.ref b6)])) rfl (by rw [hml]; rfl) (Steps.refl _) (argsL := [(.int rB), (.int cB)]) (rest := []) (lenOf pd_rm0_3 rfl) rfl (by show 2 * 0 + _ ≤ _; exact Nat.le_of_eq rfl) (hb hby at_153) (fun _ _ => ⟨rfl, hE17, (by decide : 3 + 0 ≤ _), (by decide : 4100 + 0 ≤ _)⟩)
      dsimp only [Pt.U, Pt.locs, Pt.cells, Pt.slots] at X18 l18 y18 z18 st18 hQ18
      subst l18 y18 z18
      obtain ⟨rfl, N18q, hE18⟩ := hQ18
      have N18 := Fr.app N17 N18q
      obtain ⟨cq19, kq19, q19a, q19b, q19c⟩ := isOf hZ hE18 ((Ea10.keep K11).keep K12)
      obtain ⟨_, _, ⟨T19, L19, k19, n19⟩, -, X19, ⟨Lc19, hQ19, l19, y19, z19⟩, st19⟩ := X18.virtualBack hx (y := (⟨"com/example/muniment_room/munimentroom/categorizer/Columns", "rows", "()I"⟩ : MethodName)) (z := (⟨"com/example/muniment_room/munimentroom/categorizer/Columns", "rows", "()I"⟩ : MethodName)) hown (mvT hZ (hw _ (List.mem_of_getElem? (i := 35) rfl))) (mvT hZ (hw _ (List.mem_of_getElem? (i := 36) rfl))) (notFace_of_selects (args := #[]) (mvT hZ (hw _ (List.mem_of_getElem? (i := 38) rfl)))) (mvT hZ (hw _ (List.mem_of_getElem? (i := 38) rfl))) (mvT hZ (hw _ (List.mem_of_getElem? (i := 37) rfl))) (by decide) (backOf (W := 0) (rmR l Z a0 hw [] b6 (3 : Int32) T12.heap n0 (Nat.le_trans (Nat.le_trans (Nat.le_trans (Nat.le_trans (Nat.le_trans (Nat.le_trans (Nat.le_trans Z0 E6.1) K7.1) K8.1) K9.1) K10.1) K11.1) K12.1) ((Fr10.keep K11 (ninS hne_ac nin0)).keep K12 (ninS hne_ac nin0))) hZ (hw _ (List.mem_of_getElem? (i := 39) rfl)) (hw _ (List.mem_of_getElem? (i := 3) rfl)) (by decide) (by decide)) q19a q19c (g := (mkF m 163 #[.val (.int p1), .val (.int p2), .val (.int p3), .val (.int p4), .val (.int p5), .val (.int w1), .val (.int (p2 &&& (2147483647 : Int32))), .val (.int rA), .val (.int cA), .val (.int (p3 &&& (2147483647 : Int32))), .val (.int rB), .val (.int cB), .val (.ref b6), .val (.int (1 : Int32)), .val (.int p5)] [(.ref b6)])) rfl (by rw [hml]; rfl) (Steps.refl _) (argsL := []) (rest := []) (lenOf pd_rm0_1 rfl) rfl (by show 2 * 0 + _ ≤ _; exact Nat.le_of_eq rfl) (hb hby at_163) (fun _ _ => ⟨rfl, hE18, (by decide : 3 + 0 ≤ _), (by decide : 4100 + 0 ≤ _)⟩)
      dsimp only [Pt.U, Pt.locs, Pt.cells, Pt.slots] at X19 l19 y19 z19 st19 hQ19
      subst l19 y19 z19
      obtain ⟨rfl, N19q, hE19⟩ := hQ19
      have N19 := Fr.app N18 N19q
      have pre20 : ∀ tt, Steps p.tables e below (T19.setTop (mkF m 175 #[.val (.int p1), .val (.int p2), .val (.int p3), .val (.int p4), .val (.int p5), .val (.int w1), .val (.int (p2 &&& (2147483647 : Int32))), .val (.int rA), .val (.int cA), .val (.int (p3 &&& (2147483647 : Int32))), .val (.int rB), .val (.int cB), .val (.ref b6), .val (.int (1 : Int32)), .val (.int p5)] [(.int (1 : Int32))])) tt → Steps p.tables e below (s₁.setTop (entryFrame m #[(.int p1), (.int p2), (.int p3), (.int p4), (.int p5)] maxLocals)) tt := by
        intro tt kt
        refine pre15 tt ?_
        show Steps p.tables e below (T12.setTop (mkF m 110 #[.val (.int p1), .val (.int p2), .val (.int p3), .val (.int p4), .val (.int p5), .val (.int w1), .val (.int (p2 &&& (2147483647 : Int32))), .val (.int rA), .val (.int cA), .val (.int (p3 &&& (2147483647 : Int32))), .val (.int rB), .val (.int cB), .val (.ref b6), .unset, .unset] [(.int cB), (.int cA)])) _
        refine XS.icmpNo X12.here hx rfl (hb hby at_110) rfl (teq c110_16).2 ?_
        show Steps p.tables e below (T12.setTop (mkF m 113 #[.val (.int p1), .val (.int p2), .val (.int p3), .val (.int p4), .val (.int p5), .val (.int w1), .val (.int (p2 &&& (2147483647 : Int32))), .val (.int rA), .val (.int cA), .val (.int (p3 &&& (2147483647 : Int32))), .val (.int rB), .val (.int cB), .val (.ref b6), .unset, .unset] [])) _
        refine XS.iconst X12.here hx rfl (hb hby at_113) ?_
        show Steps p.tables e below (T12.setTop (mkF m 114 #[.val (.int p1), .val (.int p2), .val (.int p3), .val (.int p4), .val (.int p5), .val (.int w1), .val (.int (p2 &&& (2147483647 : Int32))), .val (.int rA), .val (.int cA), .val (.int (p3 &&& (2147483647 : Int32))), .val (.int rB), .val (.int cB), .val (.ref b6), .unset, .unset] [(.int (1 : Int32))])) _
        refine XS.goto X12.here hx rfl (pc0 := 114) (pc' := 118) rfl (hb hby at_114) (by decide) (by decide) ?_
        show Steps p.tables e below (T12.setTop (mkF m 118 #[.val (.int p1), .val (.int p2), .val (.int p3), .val (.int p4), .val (.int p5), .val (.int w1), .val (.int (p2 &&& (2147483647 : Int32))), .val (.int rA), .val (.int cA), .val (.int (p3 &&& (2147483647 : Int32))), .val (.int rB), .val (.int cB), .val (.ref b6), .unset, .unset] [(.int (1 : Int32))])) _
        refine XS.istore X12.here hx rfl (hb hby at_118) rfl (l' := #[.val (.int p1), .val (.int p2), .val (.int p3), .val (.int p4), .val (.int p5), .val (.int w1), .val (.int (p2 &&& (2147483647 : Int32))), .val (.int rA), .val (.int cA), .val (.int (p3 &&& (2147483647 : Int32))), .val (.int rB), .val (.int cB), .val (.ref b6), .val (.int (1 : Int32)), .unset]) rfl ?_
        show Steps p.tables e below (T12.setTop (mkF m 120 #[.val (.int p1), .val (.int p2), .val (.int p3), .val (.int p4), .val (.int p5), .val (.int w1), .val (.int (p2 &&& (2147483647 : Int32))), .val (.int rA), .val (.int cA), .val (.int (p3 &&& (2147483647 : Int32))), .val (.int rB), .val (.int cB), .val (.ref b6), .val (.int (1 : Int32)), .unset] [])) _
        refine XS.iload X12.here hx rfl (hb hby at_120) rfl ?_
        show Steps p.tables e below (T12.setTop (mkF m 122 #[.val (.int p1), .val (.int p2), .val (.int p3), .val (.int p4), .val (.int p5), .val (.int w1), .val (.int (p2 &&& (2147483647 : Int32))), .val (.int rA), .val (.int cA), .val (.int (p3 &&& (2147483647 : Int32))), .val (.int rB), .val (.int cB), .val (.ref b6), .val (.int (1 : Int32)), .unset] [(.int (1 : Int32))])) _
        refine XS.ifNo X12.here hx rfl (hb hby at_122) rfl ((if0 _ _).trans (feq (by decide : ¬ ((1 : Int32) = (0 : Int32)))).1) ?_
        show Steps p.tables e below (T12.setTop (mkF m 125 #[.val (.int p1), .val (.int p2), .val (.int p3), .val (.int p4), .val (.int p5), .val (.int w1), .val (.int (p2 &&& (2147483647 : Int32))), .val (.int rA), .val (.int cA), .val (.int (p3 &&& (2147483647 : Int32))), .val (.int rB), .val (.int cB), .val (.ref b6), .val (.int (1 : Int32)), .unset] [])) _
        refine XS.iload X12.here hx rfl (hb hby at_125) rfl ?_
        show Steps p.tables e below (T12.setTop (mkF m 127 #[.val (.int p1), .val (.int p2), .val (.int p3), .val (.int p4), .val (.int p5), .val (.int w1), .val (.int (p2 &&& (2147483647 : Int32))), .val (.int rA), .val (.int cA), .val (.int (p3 &&& (2147483647 : Int32))), .val (.int rB), .val (.int cB), .val (.ref b6), .val (.int (1 : Int32)), .unset] [(.int p5)])) _
        refine XS.goto X12.here hx rfl (pc0 := 127) (pc' := 131) rfl (hb hby at_127) (by decide) (by decide) ?_
        show Steps p.tables e below (T12.setTop (mkF m 131 #[.val (.int p1), .val (.int p2), .val (.int p3), .val (.int p4), .val (.int p5), .val (.int w1), .val (.int (p2 &&& (2147483647 : Int32))), .val (.int rA), .val (.int cA), .val (.int (p3 &&& (2147483647 : Int32))), .val (.int rB), .val (.int cB), .val (.ref b6), .val (.int (1 : Int32)), .unset] [(.int p5)])) _
        refine XS.istore X12.here hx rfl (hb hby at_131) rfl (l' := #[.val (.int p1), .val (.int p2), .val (.int p3), .val (.int p4), .val (.int p5), .val (.int w1), .val (.int (p2 &&& (2147483647 : Int32))), .val (.int rA), .val (.int cA), .val (.int (p3 &&& (2147483647 : Int32))), .val (.int rB), .val (.int cB), .val (.ref b6), .val (.int (1 : Int32)), .val (.int p5)]) rfl ?_
        show Steps p.tables e below (T12.setTop (mkF m 133 #[.val (.int p1), .val (.int p2), .val (.int p3), .val (.int p4), .val (.int p5), .val (.int w1), .val (.int (p2 &&& (2147483647 : Int32))), .val (.int rA), .val (.int cA), .val (.int (p3 &&& (2147483647 : Int32))), .val (.int rB), .val (.int cB), .val (.ref b6), .val (.int (1 : Int32)), .val (.int p5)] [])) _
        refine XS.aload X12.here hx rfl (hb hby at_133) rfl rfl ?_
        show Steps p.tables e below (T12.setTop (mkF m 135 #[.val (.int p1), .val (.int p2), .val (.int p3), .val (.int p4), .val (.int p5), .val (.int w1), .val (.int (p2 &&& (2147483647 : Int32))), .val (.int rA), .val (.int cA), .val (.int (p3 &&& (2147483647 : Int32))), .val (.int rB), .val (.int cB), .val (.ref b6), .val (.int (1 : Int32)), .val (.int p5)] [(.ref b6)])) _
        refine XS.iload X12.here hx rfl (hb hby at_135) rfl ?_
        show Steps p.tables e below (T12.setTop (mkF m 137 #[.val (.int p1), .val (.int p2), .val (.int p3), .val (.int p4), .val (.int p5), .val (.int w1), .val (.int (p2 &&& (2147483647 : Int32))), .val (.int rA), .val (.int cA), .val (.int (p3 &&& (2147483647 : Int32))), .val (.int rB), .val (.int cB), .val (.ref b6), .val (.int (1 : Int32)), .val (.int p5)] [(.int rA), (.ref b6)])) _
        refine XS.iload X12.here hx rfl (hb hby at_137) rfl ?_
        show Steps p.tables e below (T12.setTop (mkF m 139 #[.val (.int p1), .val (.int p2), .val (.int p3), .val (.int p4), .val (.int p5), .val (.int w1), .val (.int (p2 &&& (2147483647 : Int32))), .val (.int rA), .val (.int cA), .val (.int (p3 &&& (2147483647 : Int32))), .val (.int rB), .val (.int cB), .val (.ref b6), .val (.int (1 : Int32)), .val (.int p5)] [(.int cA), (.int rA), (.ref b6)])) _
        refine st17.trans ?_
        show Steps p.tables e below (T17.setTop (mkF m 142 #[.val (.int p1), .val (.int p2), .val (.int p3), .val (.int p4), .val (.int p5), .val (.int w1), .val (.int (p2 &&& (2147483647 : Int32))), .val (.int rA), .val (.int cA), .val (.int (p3 &&& (2147483647 : Int32))), .val (.int rB), .val (.int cB), .val (.ref b6), .val (.int (1 : Int32)), .val (.int p5)] [(.int p5)])) _
        refine XS.iload X17.here hx rfl (hb hby at_142) rfl ?_
        show Steps p.tables e below (T17.setTop (mkF m 144 #[.val (.int p1), .val (.int p2), .val (.int p3), .val (.int p4), .val (.int p5), .val (.int w1), .val (.int (p2 &&& (2147483647 : Int32))), .val (.int rA), .val (.int cA), .val (.int (p3 &&& (2147483647 : Int32))), .val (.int rB), .val (.int cB), .val (.ref b6), .val (.int (1 : Int32)), .val (.int p5)] [(.int p5), (.int p5)])) _
        refine XS.icmpNo X17.here hx rfl (hb hby at_144) rfl (teq (rfl : p5 = p5)).2 ?_
        show Steps p.tables e below (T17.setTop (mkF m 147 #[.val (.int p1), .val (.int p2), .val (.int p3), .val (.int p4), .val (.int p5), .val (.int w1), .val (.int (p2 &&& (2147483647 : Int32))), .val (.int rA), .val (.int cA), .val (.int (p3 &&& (2147483647 : Int32))), .val (.int rB), .val (.int cB), .val (.ref b6), .val (.int (1 : Int32)), .val (.int p5)] [])) _
        refine XS.aload X17.here hx rfl (hb hby at_147) rfl rfl ?_
        show Steps p.tables e below (T17.setTop (mkF m 149 #[.val (.int p1), .val (.int p2), .val (.int p3), .val (.int p4), .val (.int p5), .val (.int w1), .val (.int (p2 &&& (2147483647 : Int32))), .val (.int rA), .val (.int cA), .val (.int (p3 &&& (2147483647 : Int32))), .val (.int rB), .val (.int cB), .val (.ref b6), .val (.int (1 : Int32)), .val (.int p5)] [(.ref b6)])) _
        refine XS.iload X17.here hx rfl (hb hby at_149) rfl ?_
        show Steps p.tables e below (T17.setTop (mkF m 151 #[.val (.int p1), .val (.int p2), .val (.int p3), .val (.int p4), .val (.int p5), .val (.int w1), .val (.int (p2 &&& (2147483647 : Int32))), .val (.int rA), .val (.int cA), .val (.int (p3 &&& (2147483647 : Int32))), .val (.int rB), .val (.int cB), .val (.ref b6), .val (.int (1 : Int32)), .val (.int p5)] [(.int rB), (.ref b6)])) _
        refine XS.iload X17.here hx rfl (hb hby at_151) rfl ?_
        show Steps p.tables e below (T17.setTop (mkF m 153 #[.val (.int p1), .val (.int p2), .val (.int p3), .val (.int p4), .val (.int p5), .val (.int w1), .val (.int (p2 &&& (2147483647 : Int32))), .val (.int rA), .val (.int cA), .val (.int (p3 &&& (2147483647 : Int32))), .val (.int rB), .val (.int cB), .val (.ref b6), .val (.int (1 : Int32)), .val (.int p5)] [(.int cB), (.int rB), (.ref b6)])) _
        refine st18.trans ?_
        show Steps p.tables e below (T18.setTop (mkF m 156 #[.val (.int p1), .val (.int p2), .val (.int p3), .val (.int p4), .val (.int p5), .val (.int w1), .val (.int (p2 &&& (2147483647 : Int32))), .val (.int rA), .val (.int cA), .val (.int (p3 &&& (2147483647 : Int32))), .val (.int rB), .val (.int cB), .val (.ref b6), .val (.int (1 : Int32)), .val (.int p5)] [(.int p5)])) _
        refine XS.iload X18.here hx rfl (hb hby at_156) rfl ?_
        show Steps p.tables e below (T18.setTop (mkF m 158 #[.val (.int p1), .val (.int p2), .val (.int p3), .val (.int p4), .val (.int p5), .val (.int w1), .val (.int (p2 &&& (2147483647 : Int32))), .val (.int rA), .val (.int cA), .val (.int (p3 &&& (2147483647 : Int32))), .val (.int rB), .val (.int cB), .val (.ref b6), .val (.int (1 : Int32)), .val (.int p5)] [(.int p5), (.int p5)])) _
        refine XS.icmpNo X18.here hx rfl (hb hby at_158) rfl (teq (rfl : p5 = p5)).2 ?_
        show Steps p.tables e below (T18.setTop (mkF m 161 #[.val (.int p1), .val (.int p2), .val (.int p3), .val (.int p4), .val (.int p5), .val (.int w1), .val (.int (p2 &&& (2147483647 : Int32))), .val (.int rA), .val (.int cA), .val (.int (p3 &&& (2147483647 : Int32))), .val (.int rB), .val (.int cB), .val (.ref b6), .val (.int (1 : Int32)), .val (.int p5)] [])) _
        refine XS.aload X18.here hx rfl (hb hby at_161) rfl rfl ?_
        show Steps p.tables e below (T18.setTop (mkF m 163 #[.val (.int p1), .val (.int p2), .val (.int p3), .val (.int p4), .val (.int p5), .val (.int w1), .val (.int (p2 &&& (2147483647 : Int32))), .val (.int rA), .val (.int cA), .val (.int (p3 &&& (2147483647 : Int32))), .val (.int rB), .val (.int cB), .val (.ref b6), .val (.int (1 : Int32)), .val (.int p5)] [(.ref b6)])) _
        refine st19.trans ?_
        show Steps p.tables e below (T19.setTop (mkF m 166 #[.val (.int p1), .val (.int p2), .val (.int p3), .val (.int p4), .val (.int p5), .val (.int w1), .val (.int (p2 &&& (2147483647 : Int32))), .val (.int rA), .val (.int cA), .val (.int (p3 &&& (2147483647 : Int32))), .val (.int rB), .val (.int cB), .val (.ref b6), .val (.int (1 : Int32)), .val (.int p5)] [(.int (3 : Int32))])) _
        refine XS.iconst X19.here hx rfl (hb hby at_166) ?_
        show Steps p.tables e below (T19.setTop (mkF m 167 #[.val (.int p1), .val (.int p2), .val (.int p3), .val (.int p4), .val (.int p5), .val (.int w1), .val (.int (p2 &&& (2147483647 : Int32))), .val (.int rA), .val (.int cA), .val (.int (p3 &&& (2147483647 : Int32))), .val (.int rB), .val (.int cB), .val (.ref b6), .val (.int (1 : Int32)), .val (.int p5)] [(.int (3 : Int32)), (.int (3 : Int32))])) _
        refine XS.icmpNo X19.here hx rfl (hb hby at_167) rfl (teq (rfl : (3 : Int32) = (3 : Int32))).2 ?_
        show Steps p.tables e below (T19.setTop (mkF m 170 #[.val (.int p1), .val (.int p2), .val (.int p3), .val (.int p4), .val (.int p5), .val (.int w1), .val (.int (p2 &&& (2147483647 : Int32))), .val (.int rA), .val (.int cA), .val (.int (p3 &&& (2147483647 : Int32))), .val (.int rB), .val (.int cB), .val (.ref b6), .val (.int (1 : Int32)), .val (.int p5)] [])) _
        refine XS.iconst X19.here hx rfl (hb hby at_170) ?_
        show Steps p.tables e below (T19.setTop (mkF m 171 #[.val (.int p1), .val (.int p2), .val (.int p3), .val (.int p4), .val (.int p5), .val (.int w1), .val (.int (p2 &&& (2147483647 : Int32))), .val (.int rA), .val (.int cA), .val (.int (p3 &&& (2147483647 : Int32))), .val (.int rB), .val (.int cB), .val (.ref b6), .val (.int (1 : Int32)), .val (.int p5)] [(.int (1 : Int32))])) _
        refine XS.goto X19.here hx rfl (pc0 := 171) (pc' := 175) rfl (hb hby at_171) (by decide) (by decide) ?_
        exact kt
      obtain ⟨fs, hr, hrun, hended, hW, hsame⟩ := X19.leave (v := some (.int (1 : Int32))) (fun h => by rw [Bd.returns] at h; cases h)
      refine ⟨_, _, pre20 _ ?_, hrun, hended, _, _, rfl, ?_, ⟨_, rfl⟩, hW, hsame.mono (by decide) (by decide)⟩
      · show Steps p.tables e below (T19.setTop (mkF m 175 #[.val (.int p1), .val (.int p2), .val (.int p3), .val (.int p4), .val (.int p5), .val (.int w1), .val (.int (p2 &&& (2147483647 : Int32))), .val (.int rA), .val (.int cA), .val (.int (p3 &&& (2147483647 : Int32))), .val (.int rB), .val (.int cB), .val (.ref b6), .val (.int (1 : Int32)), .val (.int p5)] [(.int (1 : Int32))])) _
        exact retN X19 hx (t := .boolean) Bd.returns (by simp) (hb hby at_175) hr
      · show Q0 Z h0 n0 _ T19.heap _
        rw [hE19]
        exact ⟨rfl, N19⟩
    · obtain ⟨cq21, kq21, q21a, q21b, q21c⟩ := isOf hZ rfl ((Ea10.keep K11).keep K12)
      obtain ⟨_, _, ⟨T21, L21, k21, n21⟩, -, X21, ⟨Lc21, hQ21, l21, y21, z21⟩, st21⟩ := X12.virtualBack hx (y := (⟨"com/example/muniment_room/munimentroom/categorizer/Columns", "get", "(II)I"⟩ : MethodName)) (z := (⟨"com/example/muniment_room/munimentroom/categorizer/Columns", "get", "(II)I"⟩ : MethodName)) hown (mvT hZ (hw _ (List.mem_of_getElem? (i := 30) rfl))) (mvT hZ (hw _ (List.mem_of_getElem? (i := 31) rfl))) (notFace_of_selects (args := #[]) (mvT hZ (hw _ (List.mem_of_getElem? (i := 33) rfl)))) (mvT hZ (hw _ (List.mem_of_getElem? (i := 33) rfl))) (mvT hZ (hw _ (List.mem_of_getElem? (i := 32) rfl))) (by decide) (backOf (W := 0) (rmG l Z a0 hw [] b6 b7 c8 kb7 kc8 w1 rA cA p5 jA ((jA, .int p5) :: ((jB, .int p4) :: [])) T12.heap n0 (Nat.le_trans (Nat.le_trans (Nat.le_trans (Nat.le_trans (Nat.le_trans (Nat.le_trans (Nat.le_trans Z0 E6.1) K7.1) K8.1) K9.1) K10.1) K11.1) K12.1) ((Fw10.keep K11 (ninS hne_ac nin0)).keep K12 (ninS hne_ac nin0)) ((Fb10.keep K11 (ninS hne_ac nin0)).keep K12 (ninS hne_ac nin0)) ((((Vb8.keep K9 (ninS (Ne.symm hne_ab) nin0)).keep K10 (ninS (Ne.symm hne_ab) nin0)).keep K11 (ninS hne_bc nin0)).keep K12 (ninS hne_bc nin0)) Vc12 xA.1 hjA.symm xA'  (getH_hit (xA').1 (rfl : jA = jA))) hZ (hw _ (List.mem_of_getElem? (i := 34) rfl)) (hw _ (List.mem_of_getElem? (i := 3) rfl)) (by decide) (by decide)) q21a q21c (g := (mkF m 139 #[.val (.int p1), .val (.int p2), .val (.int p3), .val (.int p4), .val (.int p5), .val (.int w1), .val (.int (p2 &&& (2147483647 : Int32))), .val (.int rA), .val (.int cA), .val (.int (p3 &&& (2147483647 : Int32))), .val (.int rB), .val (.int cB), .val (.ref b6), .val (.int (0 : Int32)), .val (.int p4)] [(.int cA), (.int rA), (.ref b6)])) rfl (by rw [hml]; rfl) (Steps.refl _) (argsL := [(.int rA), (.int cA)]) (rest := []) (lenOf pd_rm0_3 rfl) rfl (by show 2 * 0 + _ ≤ _; exact Nat.le_of_eq rfl) (hb hby at_139) (fun _ _ => ⟨rfl, rfl, (by decide : 3 + 0 ≤ _), (by decide : 4100 + 0 ≤ _)⟩)
      dsimp only [Pt.U, Pt.locs, Pt.cells, Pt.slots] at X21 l21 y21 z21 st21 hQ21
      subst l21 y21 z21
      obtain ⟨rfl, N21q, hE21⟩ := hQ21
      have N21 := Fr.app N12 N21q
      obtain ⟨cq22, kq22, q22a, q22b, q22c⟩ := isOf hZ hE21 ((Ea10.keep K11).keep K12)
      obtain ⟨_, _, ⟨T22, L22, k22, n22⟩, -, X22, ⟨Lc22, hQ22, l22, y22, z22⟩, st22⟩ := X21.virtualBack hx (y := (⟨"com/example/muniment_room/munimentroom/categorizer/Columns", "get", "(II)I"⟩ : MethodName)) (z := (⟨"com/example/muniment_room/munimentroom/categorizer/Columns", "get", "(II)I"⟩ : MethodName)) hown (mvT hZ (hw _ (List.mem_of_getElem? (i := 30) rfl))) (mvT hZ (hw _ (List.mem_of_getElem? (i := 31) rfl))) (notFace_of_selects (args := #[]) (mvT hZ (hw _ (List.mem_of_getElem? (i := 33) rfl)))) (mvT hZ (hw _ (List.mem_of_getElem? (i := 33) rfl))) (mvT hZ (hw _ (List.mem_of_getElem? (i := 32) rfl))) (by decide) (backOf (W := 0) (rmG l Z a0 hw [] b6 b7 c8 kb7 kc8 w1 rB cB p4 jB ((jA, .int p5) :: ((jB, .int p4) :: [])) T12.heap n0 (Nat.le_trans (Nat.le_trans (Nat.le_trans (Nat.le_trans (Nat.le_trans (Nat.le_trans (Nat.le_trans Z0 E6.1) K7.1) K8.1) K9.1) K10.1) K11.1) K12.1) ((Fw10.keep K11 (ninS hne_ac nin0)).keep K12 (ninS hne_ac nin0)) ((Fb10.keep K11 (ninS hne_ac nin0)).keep K12 (ninS hne_ac nin0)) ((((Vb8.keep K9 (ninS (Ne.symm hne_ab) nin0)).keep K10 (ninS (Ne.symm hne_ab) nin0)).keep K11 (ninS hne_bc nin0)).keep K12 (ninS hne_bc nin0)) Vc12 xB.1 hjB.symm xB'  (getH_miss (xB').1 (own_inj rw1 rcA rcB yA yB (fun q => c110_16 q.2)) (getH_hit (xB').1 (rfl : jB = jB)))) hZ (hw _ (List.mem_of_getElem? (i := 34) rfl)) (hw _ (List.mem_of_getElem? (i := 3) rfl)) (by decide) (by decide)) q22a q22c (g := (mkF m 153 #[.val (.int p1), .val (.int p2), .val (.int p3), .val (.int p4), .val (.int p5), .val (.int w1), .val (.int (p2 &&& (2147483647 : Int32))), .val (.int rA), .val (.int cA), .val (.int (p3 &&& (2147483647 : Int32))), .val (.int rB), .val (.int cB), .val (.ref b6), .val (.int (0 : Int32)), .val (.int p4)] [(.int cB), (.int rB), (.ref b6)])) rfl (by rw [hml]; rfl) (Steps.refl _) (argsL := [(.int rB), (.int cB)]) (rest := []) (lenOf pd_rm0_3 rfl) rfl (by show 2 * 0 + _ ≤ _; exact Nat.le_of_eq rfl) (hb hby at_153) (fun _ _ => ⟨rfl, hE21, (by decide : 3 + 0 ≤ _), (by decide : 4100 + 0 ≤ _)⟩)
      dsimp only [Pt.U, Pt.locs, Pt.cells, Pt.slots] at X22 l22 y22 z22 st22 hQ22
      subst l22 y22 z22
      obtain ⟨rfl, N22q, hE22⟩ := hQ22
      have N22 := Fr.app N21 N22q
      obtain ⟨cq23, kq23, q23a, q23b, q23c⟩ := isOf hZ hE22 ((Ea10.keep K11).keep K12)
      obtain ⟨_, _, ⟨T23, L23, k23, n23⟩, -, X23, ⟨Lc23, hQ23, l23, y23, z23⟩, st23⟩ := X22.virtualBack hx (y := (⟨"com/example/muniment_room/munimentroom/categorizer/Columns", "rows", "()I"⟩ : MethodName)) (z := (⟨"com/example/muniment_room/munimentroom/categorizer/Columns", "rows", "()I"⟩ : MethodName)) hown (mvT hZ (hw _ (List.mem_of_getElem? (i := 35) rfl))) (mvT hZ (hw _ (List.mem_of_getElem? (i := 36) rfl))) (notFace_of_selects (args := #[]) (mvT hZ (hw _ (List.mem_of_getElem? (i := 38) rfl)))) (mvT hZ (hw _ (List.mem_of_getElem? (i := 38) rfl))) (mvT hZ (hw _ (List.mem_of_getElem? (i := 37) rfl))) (by decide) (backOf (W := 0) (rmR l Z a0 hw [] b6 (3 : Int32) T12.heap n0 (Nat.le_trans (Nat.le_trans (Nat.le_trans (Nat.le_trans (Nat.le_trans (Nat.le_trans (Nat.le_trans Z0 E6.1) K7.1) K8.1) K9.1) K10.1) K11.1) K12.1) ((Fr10.keep K11 (ninS hne_ac nin0)).keep K12 (ninS hne_ac nin0))) hZ (hw _ (List.mem_of_getElem? (i := 39) rfl)) (hw _ (List.mem_of_getElem? (i := 3) rfl)) (by decide) (by decide)) q23a q23c (g := (mkF m 163 #[.val (.int p1), .val (.int p2), .val (.int p3), .val (.int p4), .val (.int p5), .val (.int w1), .val (.int (p2 &&& (2147483647 : Int32))), .val (.int rA), .val (.int cA), .val (.int (p3 &&& (2147483647 : Int32))), .val (.int rB), .val (.int cB), .val (.ref b6), .val (.int (0 : Int32)), .val (.int p4)] [(.ref b6)])) rfl (by rw [hml]; rfl) (Steps.refl _) (argsL := []) (rest := []) (lenOf pd_rm0_1 rfl) rfl (by show 2 * 0 + _ ≤ _; exact Nat.le_of_eq rfl) (hb hby at_163) (fun _ _ => ⟨rfl, hE22, (by decide : 3 + 0 ≤ _), (by decide : 4100 + 0 ≤ _)⟩)
      dsimp only [Pt.U, Pt.locs, Pt.cells, Pt.slots] at X23 l23 y23 z23 st23 hQ23
      subst l23 y23 z23
      obtain ⟨rfl, N23q, hE23⟩ := hQ23
      have N23 := Fr.app N22 N23q
      have pre24 : ∀ tt, Steps p.tables e below (T23.setTop (mkF m 175 #[.val (.int p1), .val (.int p2), .val (.int p3), .val (.int p4), .val (.int p5), .val (.int w1), .val (.int (p2 &&& (2147483647 : Int32))), .val (.int rA), .val (.int cA), .val (.int (p3 &&& (2147483647 : Int32))), .val (.int rB), .val (.int cB), .val (.ref b6), .val (.int (0 : Int32)), .val (.int p4)] [(.int (1 : Int32))])) tt → Steps p.tables e below (s₁.setTop (entryFrame m #[(.int p1), (.int p2), (.int p3), (.int p4), (.int p5)] maxLocals)) tt := by
        intro tt kt
        refine pre15 tt ?_
        show Steps p.tables e below (T12.setTop (mkF m 110 #[.val (.int p1), .val (.int p2), .val (.int p3), .val (.int p4), .val (.int p5), .val (.int w1), .val (.int (p2 &&& (2147483647 : Int32))), .val (.int rA), .val (.int cA), .val (.int (p3 &&& (2147483647 : Int32))), .val (.int rB), .val (.int cB), .val (.ref b6), .unset, .unset] [(.int cB), (.int cA)])) _
        refine XS.icmpYes X12.here hx rfl (pc0 := 110) (pc' := 117) rfl (hb hby at_110) rfl (feq c110_16).2 (by decide) (by decide) ?_
        show Steps p.tables e below (T12.setTop (mkF m 117 #[.val (.int p1), .val (.int p2), .val (.int p3), .val (.int p4), .val (.int p5), .val (.int w1), .val (.int (p2 &&& (2147483647 : Int32))), .val (.int rA), .val (.int cA), .val (.int (p3 &&& (2147483647 : Int32))), .val (.int rB), .val (.int cB), .val (.ref b6), .unset, .unset] [])) _
        refine XS.iconst X12.here hx rfl (hb hby at_117) ?_
        show Steps p.tables e below (T12.setTop (mkF m 118 #[.val (.int p1), .val (.int p2), .val (.int p3), .val (.int p4), .val (.int p5), .val (.int w1), .val (.int (p2 &&& (2147483647 : Int32))), .val (.int rA), .val (.int cA), .val (.int (p3 &&& (2147483647 : Int32))), .val (.int rB), .val (.int cB), .val (.ref b6), .unset, .unset] [(.int (0 : Int32))])) _
        refine XS.istore X12.here hx rfl (hb hby at_118) rfl (l' := #[.val (.int p1), .val (.int p2), .val (.int p3), .val (.int p4), .val (.int p5), .val (.int w1), .val (.int (p2 &&& (2147483647 : Int32))), .val (.int rA), .val (.int cA), .val (.int (p3 &&& (2147483647 : Int32))), .val (.int rB), .val (.int cB), .val (.ref b6), .val (.int (0 : Int32)), .unset]) rfl ?_
        show Steps p.tables e below (T12.setTop (mkF m 120 #[.val (.int p1), .val (.int p2), .val (.int p3), .val (.int p4), .val (.int p5), .val (.int w1), .val (.int (p2 &&& (2147483647 : Int32))), .val (.int rA), .val (.int cA), .val (.int (p3 &&& (2147483647 : Int32))), .val (.int rB), .val (.int cB), .val (.ref b6), .val (.int (0 : Int32)), .unset] [])) _
        refine XS.iload X12.here hx rfl (hb hby at_120) rfl ?_
        show Steps p.tables e below (T12.setTop (mkF m 122 #[.val (.int p1), .val (.int p2), .val (.int p3), .val (.int p4), .val (.int p5), .val (.int w1), .val (.int (p2 &&& (2147483647 : Int32))), .val (.int rA), .val (.int cA), .val (.int (p3 &&& (2147483647 : Int32))), .val (.int rB), .val (.int cB), .val (.ref b6), .val (.int (0 : Int32)), .unset] [(.int (0 : Int32))])) _
        refine XS.ifYes X12.here hx rfl (pc0 := 122) (pc' := 130) rfl (hb hby at_122) rfl ((if0 _ _).trans (teq (rfl : (0 : Int32) = (0 : Int32))).1) (by decide) (by decide) ?_
        show Steps p.tables e below (T12.setTop (mkF m 130 #[.val (.int p1), .val (.int p2), .val (.int p3), .val (.int p4), .val (.int p5), .val (.int w1), .val (.int (p2 &&& (2147483647 : Int32))), .val (.int rA), .val (.int cA), .val (.int (p3 &&& (2147483647 : Int32))), .val (.int rB), .val (.int cB), .val (.ref b6), .val (.int (0 : Int32)), .unset] [])) _
        refine XS.iloadN X12.here hx rfl (hb hby at_130) rfl ?_
        show Steps p.tables e below (T12.setTop (mkF m 131 #[.val (.int p1), .val (.int p2), .val (.int p3), .val (.int p4), .val (.int p5), .val (.int w1), .val (.int (p2 &&& (2147483647 : Int32))), .val (.int rA), .val (.int cA), .val (.int (p3 &&& (2147483647 : Int32))), .val (.int rB), .val (.int cB), .val (.ref b6), .val (.int (0 : Int32)), .unset] [(.int p4)])) _
        refine XS.istore X12.here hx rfl (hb hby at_131) rfl (l' := #[.val (.int p1), .val (.int p2), .val (.int p3), .val (.int p4), .val (.int p5), .val (.int w1), .val (.int (p2 &&& (2147483647 : Int32))), .val (.int rA), .val (.int cA), .val (.int (p3 &&& (2147483647 : Int32))), .val (.int rB), .val (.int cB), .val (.ref b6), .val (.int (0 : Int32)), .val (.int p4)]) rfl ?_
        show Steps p.tables e below (T12.setTop (mkF m 133 #[.val (.int p1), .val (.int p2), .val (.int p3), .val (.int p4), .val (.int p5), .val (.int w1), .val (.int (p2 &&& (2147483647 : Int32))), .val (.int rA), .val (.int cA), .val (.int (p3 &&& (2147483647 : Int32))), .val (.int rB), .val (.int cB), .val (.ref b6), .val (.int (0 : Int32)), .val (.int p4)] [])) _
        refine XS.aload X12.here hx rfl (hb hby at_133) rfl rfl ?_
        show Steps p.tables e below (T12.setTop (mkF m 135 #[.val (.int p1), .val (.int p2), .val (.int p3), .val (.int p4), .val (.int p5), .val (.int w1), .val (.int (p2 &&& (2147483647 : Int32))), .val (.int rA), .val (.int cA), .val (.int (p3 &&& (2147483647 : Int32))), .val (.int rB), .val (.int cB), .val (.ref b6), .val (.int (0 : Int32)), .val (.int p4)] [(.ref b6)])) _
        refine XS.iload X12.here hx rfl (hb hby at_135) rfl ?_
        show Steps p.tables e below (T12.setTop (mkF m 137 #[.val (.int p1), .val (.int p2), .val (.int p3), .val (.int p4), .val (.int p5), .val (.int w1), .val (.int (p2 &&& (2147483647 : Int32))), .val (.int rA), .val (.int cA), .val (.int (p3 &&& (2147483647 : Int32))), .val (.int rB), .val (.int cB), .val (.ref b6), .val (.int (0 : Int32)), .val (.int p4)] [(.int rA), (.ref b6)])) _
        refine XS.iload X12.here hx rfl (hb hby at_137) rfl ?_
        show Steps p.tables e below (T12.setTop (mkF m 139 #[.val (.int p1), .val (.int p2), .val (.int p3), .val (.int p4), .val (.int p5), .val (.int w1), .val (.int (p2 &&& (2147483647 : Int32))), .val (.int rA), .val (.int cA), .val (.int (p3 &&& (2147483647 : Int32))), .val (.int rB), .val (.int cB), .val (.ref b6), .val (.int (0 : Int32)), .val (.int p4)] [(.int cA), (.int rA), (.ref b6)])) _
        refine st21.trans ?_
        show Steps p.tables e below (T21.setTop (mkF m 142 #[.val (.int p1), .val (.int p2), .val (.int p3), .val (.int p4), .val (.int p5), .val (.int w1), .val (.int (p2 &&& (2147483647 : Int32))), .val (.int rA), .val (.int cA), .val (.int (p3 &&& (2147483647 : Int32))), .val (.int rB), .val (.int cB), .val (.ref b6), .val (.int (0 : Int32)), .val (.int p4)] [(.int p5)])) _
        refine XS.iload X21.here hx rfl (hb hby at_142) rfl ?_
        show Steps p.tables e below (T21.setTop (mkF m 144 #[.val (.int p1), .val (.int p2), .val (.int p3), .val (.int p4), .val (.int p5), .val (.int w1), .val (.int (p2 &&& (2147483647 : Int32))), .val (.int rA), .val (.int cA), .val (.int (p3 &&& (2147483647 : Int32))), .val (.int rB), .val (.int cB), .val (.ref b6), .val (.int (0 : Int32)), .val (.int p4)] [(.int p5), (.int p5)])) _
        refine XS.icmpNo X21.here hx rfl (hb hby at_144) rfl (teq (rfl : p5 = p5)).2 ?_
        show Steps p.tables e below (T21.setTop (mkF m 147 #[.val (.int p1), .val (.int p2), .val (.int p3), .val (.int p4), .val (.int p5), .val (.int w1), .val (.int (p2 &&& (2147483647 : Int32))), .val (.int rA), .val (.int cA), .val (.int (p3 &&& (2147483647 : Int32))), .val (.int rB), .val (.int cB), .val (.ref b6), .val (.int (0 : Int32)), .val (.int p4)] [])) _
        refine XS.aload X21.here hx rfl (hb hby at_147) rfl rfl ?_
        show Steps p.tables e below (T21.setTop (mkF m 149 #[.val (.int p1), .val (.int p2), .val (.int p3), .val (.int p4), .val (.int p5), .val (.int w1), .val (.int (p2 &&& (2147483647 : Int32))), .val (.int rA), .val (.int cA), .val (.int (p3 &&& (2147483647 : Int32))), .val (.int rB), .val (.int cB), .val (.ref b6), .val (.int (0 : Int32)), .val (.int p4)] [(.ref b6)])) _
        refine XS.iload X21.here hx rfl (hb hby at_149) rfl ?_
        show Steps p.tables e below (T21.setTop (mkF m 151 #[.val (.int p1), .val (.int p2), .val (.int p3), .val (.int p4), .val (.int p5), .val (.int w1), .val (.int (p2 &&& (2147483647 : Int32))), .val (.int rA), .val (.int cA), .val (.int (p3 &&& (2147483647 : Int32))), .val (.int rB), .val (.int cB), .val (.ref b6), .val (.int (0 : Int32)), .val (.int p4)] [(.int rB), (.ref b6)])) _
        refine XS.iload X21.here hx rfl (hb hby at_151) rfl ?_
        show Steps p.tables e below (T21.setTop (mkF m 153 #[.val (.int p1), .val (.int p2), .val (.int p3), .val (.int p4), .val (.int p5), .val (.int w1), .val (.int (p2 &&& (2147483647 : Int32))), .val (.int rA), .val (.int cA), .val (.int (p3 &&& (2147483647 : Int32))), .val (.int rB), .val (.int cB), .val (.ref b6), .val (.int (0 : Int32)), .val (.int p4)] [(.int cB), (.int rB), (.ref b6)])) _
        refine st22.trans ?_
        show Steps p.tables e below (T22.setTop (mkF m 156 #[.val (.int p1), .val (.int p2), .val (.int p3), .val (.int p4), .val (.int p5), .val (.int w1), .val (.int (p2 &&& (2147483647 : Int32))), .val (.int rA), .val (.int cA), .val (.int (p3 &&& (2147483647 : Int32))), .val (.int rB), .val (.int cB), .val (.ref b6), .val (.int (0 : Int32)), .val (.int p4)] [(.int p4)])) _
        refine XS.iload X22.here hx rfl (hb hby at_156) rfl ?_
        show Steps p.tables e below (T22.setTop (mkF m 158 #[.val (.int p1), .val (.int p2), .val (.int p3), .val (.int p4), .val (.int p5), .val (.int w1), .val (.int (p2 &&& (2147483647 : Int32))), .val (.int rA), .val (.int cA), .val (.int (p3 &&& (2147483647 : Int32))), .val (.int rB), .val (.int cB), .val (.ref b6), .val (.int (0 : Int32)), .val (.int p4)] [(.int p4), (.int p4)])) _
        refine XS.icmpNo X22.here hx rfl (hb hby at_158) rfl (teq (rfl : p4 = p4)).2 ?_
        show Steps p.tables e below (T22.setTop (mkF m 161 #[.val (.int p1), .val (.int p2), .val (.int p3), .val (.int p4), .val (.int p5), .val (.int w1), .val (.int (p2 &&& (2147483647 : Int32))), .val (.int rA), .val (.int cA), .val (.int (p3 &&& (2147483647 : Int32))), .val (.int rB), .val (.int cB), .val (.ref b6), .val (.int (0 : Int32)), .val (.int p4)] [])) _
        refine XS.aload X22.here hx rfl (hb hby at_161) rfl rfl ?_
        show Steps p.tables e below (T22.setTop (mkF m 163 #[.val (.int p1), .val (.int p2), .val (.int p3), .val (.int p4), .val (.int p5), .val (.int w1), .val (.int (p2 &&& (2147483647 : Int32))), .val (.int rA), .val (.int cA), .val (.int (p3 &&& (2147483647 : Int32))), .val (.int rB), .val (.int cB), .val (.ref b6), .val (.int (0 : Int32)), .val (.int p4)] [(.ref b6)])) _
        refine st23.trans ?_
        show Steps p.tables e below (T23.setTop (mkF m 166 #[.val (.int p1), .val (.int p2), .val (.int p3), .val (.int p4), .val (.int p5), .val (.int w1), .val (.int (p2 &&& (2147483647 : Int32))), .val (.int rA), .val (.int cA), .val (.int (p3 &&& (2147483647 : Int32))), .val (.int rB), .val (.int cB), .val (.ref b6), .val (.int (0 : Int32)), .val (.int p4)] [(.int (3 : Int32))])) _
        refine XS.iconst X23.here hx rfl (hb hby at_166) ?_
        show Steps p.tables e below (T23.setTop (mkF m 167 #[.val (.int p1), .val (.int p2), .val (.int p3), .val (.int p4), .val (.int p5), .val (.int w1), .val (.int (p2 &&& (2147483647 : Int32))), .val (.int rA), .val (.int cA), .val (.int (p3 &&& (2147483647 : Int32))), .val (.int rB), .val (.int cB), .val (.ref b6), .val (.int (0 : Int32)), .val (.int p4)] [(.int (3 : Int32)), (.int (3 : Int32))])) _
        refine XS.icmpNo X23.here hx rfl (hb hby at_167) rfl (teq (rfl : (3 : Int32) = (3 : Int32))).2 ?_
        show Steps p.tables e below (T23.setTop (mkF m 170 #[.val (.int p1), .val (.int p2), .val (.int p3), .val (.int p4), .val (.int p5), .val (.int w1), .val (.int (p2 &&& (2147483647 : Int32))), .val (.int rA), .val (.int cA), .val (.int (p3 &&& (2147483647 : Int32))), .val (.int rB), .val (.int cB), .val (.ref b6), .val (.int (0 : Int32)), .val (.int p4)] [])) _
        refine XS.iconst X23.here hx rfl (hb hby at_170) ?_
        show Steps p.tables e below (T23.setTop (mkF m 171 #[.val (.int p1), .val (.int p2), .val (.int p3), .val (.int p4), .val (.int p5), .val (.int w1), .val (.int (p2 &&& (2147483647 : Int32))), .val (.int rA), .val (.int cA), .val (.int (p3 &&& (2147483647 : Int32))), .val (.int rB), .val (.int cB), .val (.ref b6), .val (.int (0 : Int32)), .val (.int p4)] [(.int (1 : Int32))])) _
        refine XS.goto X23.here hx rfl (pc0 := 171) (pc' := 175) rfl (hb hby at_171) (by decide) (by decide) ?_
        exact kt
      obtain ⟨fs, hr, hrun, hended, hW, hsame⟩ := X23.leave (v := some (.int (1 : Int32))) (fun h => by rw [Bd.returns] at h; cases h)
      refine ⟨_, _, pre24 _ ?_, hrun, hended, _, _, rfl, ?_, ⟨_, rfl⟩, hW, hsame.mono (by decide) (by decide)⟩
      · show Steps p.tables e below (T23.setTop (mkF m 175 #[.val (.int p1), .val (.int p2), .val (.int p3), .val (.int p4), .val (.int p5), .val (.int w1), .val (.int (p2 &&& (2147483647 : Int32))), .val (.int rA), .val (.int cA), .val (.int (p3 &&& (2147483647 : Int32))), .val (.int rB), .val (.int cB), .val (.ref b6), .val (.int (0 : Int32)), .val (.int p4)] [(.int (1 : Int32))])) _
        exact retN X23 hx (t := .boolean) Bd.returns (by simp) (hb hby at_175) hr
      · show Q0 Z h0 n0 _ T23.heap _
        rw [hE23]
        exact ⟨rfl, N23⟩
  · obtain ⟨cq25, kq25, q25a, q25b, q25c⟩ := isOf hZ rfl ((Ea10.keep K11).keep K12)
    obtain ⟨_, _, ⟨T25, L25, k25, n25⟩, -, X25, ⟨Lc25, hQ25, l25, y25, z25⟩, st25⟩ := X12.virtualBack hx (y := (⟨"com/example/muniment_room/munimentroom/categorizer/Columns", "get", "(II)I"⟩ : MethodName)) (z := (⟨"com/example/muniment_room/munimentroom/categorizer/Columns", "get", "(II)I"⟩ : MethodName)) hown (mvT hZ (hw _ (List.mem_of_getElem? (i := 30) rfl))) (mvT hZ (hw _ (List.mem_of_getElem? (i := 31) rfl))) (notFace_of_selects (args := #[]) (mvT hZ (hw _ (List.mem_of_getElem? (i := 33) rfl)))) (mvT hZ (hw _ (List.mem_of_getElem? (i := 33) rfl))) (mvT hZ (hw _ (List.mem_of_getElem? (i := 32) rfl))) (by decide) (backOf (W := 0) (rmG l Z a0 hw [] b6 b7 c8 kb7 kc8 w1 rA cA p5 jA ((jA, .int p5) :: ((jB, .int p4) :: [])) T12.heap n0 (Nat.le_trans (Nat.le_trans (Nat.le_trans (Nat.le_trans (Nat.le_trans (Nat.le_trans (Nat.le_trans Z0 E6.1) K7.1) K8.1) K9.1) K10.1) K11.1) K12.1) ((Fw10.keep K11 (ninS hne_ac nin0)).keep K12 (ninS hne_ac nin0)) ((Fb10.keep K11 (ninS hne_ac nin0)).keep K12 (ninS hne_ac nin0)) ((((Vb8.keep K9 (ninS (Ne.symm hne_ab) nin0)).keep K10 (ninS (Ne.symm hne_ab) nin0)).keep K11 (ninS hne_bc nin0)).keep K12 (ninS hne_bc nin0)) Vc12 xA.1 hjA.symm xA'  (getH_hit (xA').1 (rfl : jA = jA))) hZ (hw _ (List.mem_of_getElem? (i := 34) rfl)) (hw _ (List.mem_of_getElem? (i := 3) rfl)) (by decide) (by decide)) q25a q25c (g := (mkF m 139 #[.val (.int p1), .val (.int p2), .val (.int p3), .val (.int p4), .val (.int p5), .val (.int w1), .val (.int (p2 &&& (2147483647 : Int32))), .val (.int rA), .val (.int cA), .val (.int (p3 &&& (2147483647 : Int32))), .val (.int rB), .val (.int cB), .val (.ref b6), .val (.int (0 : Int32)), .val (.int p4)] [(.int cA), (.int rA), (.ref b6)])) rfl (by rw [hml]; rfl) (Steps.refl _) (argsL := [(.int rA), (.int cA)]) (rest := []) (lenOf pd_rm0_3 rfl) rfl (by show 2 * 0 + _ ≤ _; exact Nat.le_of_eq rfl) (hb hby at_139) (fun _ _ => ⟨rfl, rfl, (by decide : 3 + 0 ≤ _), (by decide : 4100 + 0 ≤ _)⟩)
    dsimp only [Pt.U, Pt.locs, Pt.cells, Pt.slots] at X25 l25 y25 z25 st25 hQ25
    subst l25 y25 z25
    obtain ⟨rfl, N25q, hE25⟩ := hQ25
    have N25 := Fr.app N12 N25q
    obtain ⟨cq26, kq26, q26a, q26b, q26c⟩ := isOf hZ hE25 ((Ea10.keep K11).keep K12)
    obtain ⟨_, _, ⟨T26, L26, k26, n26⟩, -, X26, ⟨Lc26, hQ26, l26, y26, z26⟩, st26⟩ := X25.virtualBack hx (y := (⟨"com/example/muniment_room/munimentroom/categorizer/Columns", "get", "(II)I"⟩ : MethodName)) (z := (⟨"com/example/muniment_room/munimentroom/categorizer/Columns", "get", "(II)I"⟩ : MethodName)) hown (mvT hZ (hw _ (List.mem_of_getElem? (i := 30) rfl))) (mvT hZ (hw _ (List.mem_of_getElem? (i := 31) rfl))) (notFace_of_selects (args := #[]) (mvT hZ (hw _ (List.mem_of_getElem? (i := 33) rfl)))) (mvT hZ (hw _ (List.mem_of_getElem? (i := 33) rfl))) (mvT hZ (hw _ (List.mem_of_getElem? (i := 32) rfl))) (by decide) (backOf (W := 0) (rmG l Z a0 hw [] b6 b7 c8 kb7 kc8 w1 rB cB p4 jB ((jA, .int p5) :: ((jB, .int p4) :: [])) T12.heap n0 (Nat.le_trans (Nat.le_trans (Nat.le_trans (Nat.le_trans (Nat.le_trans (Nat.le_trans (Nat.le_trans Z0 E6.1) K7.1) K8.1) K9.1) K10.1) K11.1) K12.1) ((Fw10.keep K11 (ninS hne_ac nin0)).keep K12 (ninS hne_ac nin0)) ((Fb10.keep K11 (ninS hne_ac nin0)).keep K12 (ninS hne_ac nin0)) ((((Vb8.keep K9 (ninS (Ne.symm hne_ab) nin0)).keep K10 (ninS (Ne.symm hne_ab) nin0)).keep K11 (ninS hne_bc nin0)).keep K12 (ninS hne_bc nin0)) Vc12 xB.1 hjB.symm xB'  (getH_miss (xB').1 (own_inj rw1 rcA rcB yA yB (fun q => c103_14 q.1)) (getH_hit (xB').1 (rfl : jB = jB)))) hZ (hw _ (List.mem_of_getElem? (i := 34) rfl)) (hw _ (List.mem_of_getElem? (i := 3) rfl)) (by decide) (by decide)) q26a q26c (g := (mkF m 153 #[.val (.int p1), .val (.int p2), .val (.int p3), .val (.int p4), .val (.int p5), .val (.int w1), .val (.int (p2 &&& (2147483647 : Int32))), .val (.int rA), .val (.int cA), .val (.int (p3 &&& (2147483647 : Int32))), .val (.int rB), .val (.int cB), .val (.ref b6), .val (.int (0 : Int32)), .val (.int p4)] [(.int cB), (.int rB), (.ref b6)])) rfl (by rw [hml]; rfl) (Steps.refl _) (argsL := [(.int rB), (.int cB)]) (rest := []) (lenOf pd_rm0_3 rfl) rfl (by show 2 * 0 + _ ≤ _; exact Nat.le_of_eq rfl) (hb hby at_153) (fun _ _ => ⟨rfl, hE25, (by decide : 3 + 0 ≤ _), (by decide : 4100 + 0 ≤ _)⟩)
    dsimp only [Pt.U, Pt.locs, Pt.cells, Pt.slots] at X26 l26 y26 z26 st26 hQ26
    subst l26 y26 z26
    obtain ⟨rfl, N26q, hE26⟩ := hQ26
    have N26 := Fr.app N25 N26q
    obtain ⟨cq27, kq27, q27a, q27b, q27c⟩ := isOf hZ hE26 ((Ea10.keep K11).keep K12)
    obtain ⟨_, _, ⟨T27, L27, k27, n27⟩, -, X27, ⟨Lc27, hQ27, l27, y27, z27⟩, st27⟩ := X26.virtualBack hx (y := (⟨"com/example/muniment_room/munimentroom/categorizer/Columns", "rows", "()I"⟩ : MethodName)) (z := (⟨"com/example/muniment_room/munimentroom/categorizer/Columns", "rows", "()I"⟩ : MethodName)) hown (mvT hZ (hw _ (List.mem_of_getElem? (i := 35) rfl))) (mvT hZ (hw _ (List.mem_of_getElem? (i := 36) rfl))) (notFace_of_selects (args := #[]) (mvT hZ (hw _ (List.mem_of_getElem? (i := 38) rfl)))) (mvT hZ (hw _ (List.mem_of_getElem? (i := 38) rfl))) (mvT hZ (hw _ (List.mem_of_getElem? (i := 37) rfl))) (by decide) (backOf (W := 0) (rmR l Z a0 hw [] b6 (3 : Int32) T12.heap n0 (Nat.le_trans (Nat.le_trans (Nat.le_trans (Nat.le_trans (Nat.le_trans (Nat.le_trans (Nat.le_trans Z0 E6.1) K7.1) K8.1) K9.1) K10.1) K11.1) K12.1) ((Fr10.keep K11 (ninS hne_ac nin0)).keep K12 (ninS hne_ac nin0))) hZ (hw _ (List.mem_of_getElem? (i := 39) rfl)) (hw _ (List.mem_of_getElem? (i := 3) rfl)) (by decide) (by decide)) q27a q27c (g := (mkF m 163 #[.val (.int p1), .val (.int p2), .val (.int p3), .val (.int p4), .val (.int p5), .val (.int w1), .val (.int (p2 &&& (2147483647 : Int32))), .val (.int rA), .val (.int cA), .val (.int (p3 &&& (2147483647 : Int32))), .val (.int rB), .val (.int cB), .val (.ref b6), .val (.int (0 : Int32)), .val (.int p4)] [(.ref b6)])) rfl (by rw [hml]; rfl) (Steps.refl _) (argsL := []) (rest := []) (lenOf pd_rm0_1 rfl) rfl (by show 2 * 0 + _ ≤ _; exact Nat.le_of_eq rfl) (hb hby at_163) (fun _ _ => ⟨rfl, hE26, (by decide : 3 + 0 ≤ _), (by decide : 4100 + 0 ≤ _)⟩)
    dsimp only [Pt.U, Pt.locs, Pt.cells, Pt.slots] at X27 l27 y27 z27 st27 hQ27
    subst l27 y27 z27
    obtain ⟨rfl, N27q, hE27⟩ := hQ27
    have N27 := Fr.app N26 N27q
    have pre28 : ∀ tt, Steps p.tables e below (T27.setTop (mkF m 175 #[.val (.int p1), .val (.int p2), .val (.int p3), .val (.int p4), .val (.int p5), .val (.int w1), .val (.int (p2 &&& (2147483647 : Int32))), .val (.int rA), .val (.int cA), .val (.int (p3 &&& (2147483647 : Int32))), .val (.int rB), .val (.int cB), .val (.ref b6), .val (.int (0 : Int32)), .val (.int p4)] [(.int (1 : Int32))])) tt → Steps p.tables e below (s₁.setTop (entryFrame m #[(.int p1), (.int p2), (.int p3), (.int p4), (.int p5)] maxLocals)) tt := by
      intro tt kt
      refine pre13 tt ?_
      show Steps p.tables e below (T12.setTop (mkF m 103 #[.val (.int p1), .val (.int p2), .val (.int p3), .val (.int p4), .val (.int p5), .val (.int w1), .val (.int (p2 &&& (2147483647 : Int32))), .val (.int rA), .val (.int cA), .val (.int (p3 &&& (2147483647 : Int32))), .val (.int rB), .val (.int cB), .val (.ref b6), .unset, .unset] [(.int rB), (.int rA)])) _
      refine XS.icmpYes X12.here hx rfl (pc0 := 103) (pc' := 117) rfl (hb hby at_103) rfl (feq c103_14).2 (by decide) (by decide) ?_
      show Steps p.tables e below (T12.setTop (mkF m 117 #[.val (.int p1), .val (.int p2), .val (.int p3), .val (.int p4), .val (.int p5), .val (.int w1), .val (.int (p2 &&& (2147483647 : Int32))), .val (.int rA), .val (.int cA), .val (.int (p3 &&& (2147483647 : Int32))), .val (.int rB), .val (.int cB), .val (.ref b6), .unset, .unset] [])) _
      refine XS.iconst X12.here hx rfl (hb hby at_117) ?_
      show Steps p.tables e below (T12.setTop (mkF m 118 #[.val (.int p1), .val (.int p2), .val (.int p3), .val (.int p4), .val (.int p5), .val (.int w1), .val (.int (p2 &&& (2147483647 : Int32))), .val (.int rA), .val (.int cA), .val (.int (p3 &&& (2147483647 : Int32))), .val (.int rB), .val (.int cB), .val (.ref b6), .unset, .unset] [(.int (0 : Int32))])) _
      refine XS.istore X12.here hx rfl (hb hby at_118) rfl (l' := #[.val (.int p1), .val (.int p2), .val (.int p3), .val (.int p4), .val (.int p5), .val (.int w1), .val (.int (p2 &&& (2147483647 : Int32))), .val (.int rA), .val (.int cA), .val (.int (p3 &&& (2147483647 : Int32))), .val (.int rB), .val (.int cB), .val (.ref b6), .val (.int (0 : Int32)), .unset]) rfl ?_
      show Steps p.tables e below (T12.setTop (mkF m 120 #[.val (.int p1), .val (.int p2), .val (.int p3), .val (.int p4), .val (.int p5), .val (.int w1), .val (.int (p2 &&& (2147483647 : Int32))), .val (.int rA), .val (.int cA), .val (.int (p3 &&& (2147483647 : Int32))), .val (.int rB), .val (.int cB), .val (.ref b6), .val (.int (0 : Int32)), .unset] [])) _
      refine XS.iload X12.here hx rfl (hb hby at_120) rfl ?_
      show Steps p.tables e below (T12.setTop (mkF m 122 #[.val (.int p1), .val (.int p2), .val (.int p3), .val (.int p4), .val (.int p5), .val (.int w1), .val (.int (p2 &&& (2147483647 : Int32))), .val (.int rA), .val (.int cA), .val (.int (p3 &&& (2147483647 : Int32))), .val (.int rB), .val (.int cB), .val (.ref b6), .val (.int (0 : Int32)), .unset] [(.int (0 : Int32))])) _
      refine XS.ifYes X12.here hx rfl (pc0 := 122) (pc' := 130) rfl (hb hby at_122) rfl ((if0 _ _).trans (teq (rfl : (0 : Int32) = (0 : Int32))).1) (by decide) (by decide) ?_
      show Steps p.tables e below (T12.setTop (mkF m 130 #[.val (.int p1), .val (.int p2), .val (.int p3), .val (.int p4), .val (.int p5), .val (.int w1), .val (.int (p2 &&& (2147483647 : Int32))), .val (.int rA), .val (.int cA), .val (.int (p3 &&& (2147483647 : Int32))), .val (.int rB), .val (.int cB), .val (.ref b6), .val (.int (0 : Int32)), .unset] [])) _
      refine XS.iloadN X12.here hx rfl (hb hby at_130) rfl ?_
      show Steps p.tables e below (T12.setTop (mkF m 131 #[.val (.int p1), .val (.int p2), .val (.int p3), .val (.int p4), .val (.int p5), .val (.int w1), .val (.int (p2 &&& (2147483647 : Int32))), .val (.int rA), .val (.int cA), .val (.int (p3 &&& (2147483647 : Int32))), .val (.int rB), .val (.int cB), .val (.ref b6), .val (.int (0 : Int32)), .unset] [(.int p4)])) _
      refine XS.istore X12.here hx rfl (hb hby at_131) rfl (l' := #[.val (.int p1), .val (.int p2), .val (.int p3), .val (.int p4), .val (.int p5), .val (.int w1), .val (.int (p2 &&& (2147483647 : Int32))), .val (.int rA), .val (.int cA), .val (.int (p3 &&& (2147483647 : Int32))), .val (.int rB), .val (.int cB), .val (.ref b6), .val (.int (0 : Int32)), .val (.int p4)]) rfl ?_
      show Steps p.tables e below (T12.setTop (mkF m 133 #[.val (.int p1), .val (.int p2), .val (.int p3), .val (.int p4), .val (.int p5), .val (.int w1), .val (.int (p2 &&& (2147483647 : Int32))), .val (.int rA), .val (.int cA), .val (.int (p3 &&& (2147483647 : Int32))), .val (.int rB), .val (.int cB), .val (.ref b6), .val (.int (0 : Int32)), .val (.int p4)] [])) _
      refine XS.aload X12.here hx rfl (hb hby at_133) rfl rfl ?_
      show Steps p.tables e below (T12.setTop (mkF m 135 #[.val (.int p1), .val (.int p2), .val (.int p3), .val (.int p4), .val (.int p5), .val (.int w1), .val (.int (p2 &&& (2147483647 : Int32))), .val (.int rA), .val (.int cA), .val (.int (p3 &&& (2147483647 : Int32))), .val (.int rB), .val (.int cB), .val (.ref b6), .val (.int (0 : Int32)), .val (.int p4)] [(.ref b6)])) _
      refine XS.iload X12.here hx rfl (hb hby at_135) rfl ?_
      show Steps p.tables e below (T12.setTop (mkF m 137 #[.val (.int p1), .val (.int p2), .val (.int p3), .val (.int p4), .val (.int p5), .val (.int w1), .val (.int (p2 &&& (2147483647 : Int32))), .val (.int rA), .val (.int cA), .val (.int (p3 &&& (2147483647 : Int32))), .val (.int rB), .val (.int cB), .val (.ref b6), .val (.int (0 : Int32)), .val (.int p4)] [(.int rA), (.ref b6)])) _
      refine XS.iload X12.here hx rfl (hb hby at_137) rfl ?_
      show Steps p.tables e below (T12.setTop (mkF m 139 #[.val (.int p1), .val (.int p2), .val (.int p3), .val (.int p4), .val (.int p5), .val (.int w1), .val (.int (p2 &&& (2147483647 : Int32))), .val (.int rA), .val (.int cA), .val (.int (p3 &&& (2147483647 : Int32))), .val (.int rB), .val (.int cB), .val (.ref b6), .val (.int (0 : Int32)), .val (.int p4)] [(.int cA), (.int rA), (.ref b6)])) _
      refine st25.trans ?_
      show Steps p.tables e below (T25.setTop (mkF m 142 #[.val (.int p1), .val (.int p2), .val (.int p3), .val (.int p4), .val (.int p5), .val (.int w1), .val (.int (p2 &&& (2147483647 : Int32))), .val (.int rA), .val (.int cA), .val (.int (p3 &&& (2147483647 : Int32))), .val (.int rB), .val (.int cB), .val (.ref b6), .val (.int (0 : Int32)), .val (.int p4)] [(.int p5)])) _
      refine XS.iload X25.here hx rfl (hb hby at_142) rfl ?_
      show Steps p.tables e below (T25.setTop (mkF m 144 #[.val (.int p1), .val (.int p2), .val (.int p3), .val (.int p4), .val (.int p5), .val (.int w1), .val (.int (p2 &&& (2147483647 : Int32))), .val (.int rA), .val (.int cA), .val (.int (p3 &&& (2147483647 : Int32))), .val (.int rB), .val (.int cB), .val (.ref b6), .val (.int (0 : Int32)), .val (.int p4)] [(.int p5), (.int p5)])) _
      refine XS.icmpNo X25.here hx rfl (hb hby at_144) rfl (teq (rfl : p5 = p5)).2 ?_
      show Steps p.tables e below (T25.setTop (mkF m 147 #[.val (.int p1), .val (.int p2), .val (.int p3), .val (.int p4), .val (.int p5), .val (.int w1), .val (.int (p2 &&& (2147483647 : Int32))), .val (.int rA), .val (.int cA), .val (.int (p3 &&& (2147483647 : Int32))), .val (.int rB), .val (.int cB), .val (.ref b6), .val (.int (0 : Int32)), .val (.int p4)] [])) _
      refine XS.aload X25.here hx rfl (hb hby at_147) rfl rfl ?_
      show Steps p.tables e below (T25.setTop (mkF m 149 #[.val (.int p1), .val (.int p2), .val (.int p3), .val (.int p4), .val (.int p5), .val (.int w1), .val (.int (p2 &&& (2147483647 : Int32))), .val (.int rA), .val (.int cA), .val (.int (p3 &&& (2147483647 : Int32))), .val (.int rB), .val (.int cB), .val (.ref b6), .val (.int (0 : Int32)), .val (.int p4)] [(.ref b6)])) _
      refine XS.iload X25.here hx rfl (hb hby at_149) rfl ?_
      show Steps p.tables e below (T25.setTop (mkF m 151 #[.val (.int p1), .val (.int p2), .val (.int p3), .val (.int p4), .val (.int p5), .val (.int w1), .val (.int (p2 &&& (2147483647 : Int32))), .val (.int rA), .val (.int cA), .val (.int (p3 &&& (2147483647 : Int32))), .val (.int rB), .val (.int cB), .val (.ref b6), .val (.int (0 : Int32)), .val (.int p4)] [(.int rB), (.ref b6)])) _
      refine XS.iload X25.here hx rfl (hb hby at_151) rfl ?_
      show Steps p.tables e below (T25.setTop (mkF m 153 #[.val (.int p1), .val (.int p2), .val (.int p3), .val (.int p4), .val (.int p5), .val (.int w1), .val (.int (p2 &&& (2147483647 : Int32))), .val (.int rA), .val (.int cA), .val (.int (p3 &&& (2147483647 : Int32))), .val (.int rB), .val (.int cB), .val (.ref b6), .val (.int (0 : Int32)), .val (.int p4)] [(.int cB), (.int rB), (.ref b6)])) _
      refine st26.trans ?_
      show Steps p.tables e below (T26.setTop (mkF m 156 #[.val (.int p1), .val (.int p2), .val (.int p3), .val (.int p4), .val (.int p5), .val (.int w1), .val (.int (p2 &&& (2147483647 : Int32))), .val (.int rA), .val (.int cA), .val (.int (p3 &&& (2147483647 : Int32))), .val (.int rB), .val (.int cB), .val (.ref b6), .val (.int (0 : Int32)), .val (.int p4)] [(.int p4)])) _
      refine XS.iload X26.here hx rfl (hb hby at_156) rfl ?_
      show Steps p.tables e below (T26.setTop (mkF m 158 #[.val (.int p1), .val (.int p2), .val (.int p3), .val (.int p4), .val (.int p5), .val (.int w1), .val (.int (p2 &&& (2147483647 : Int32))), .val (.int rA), .val (.int cA), .val (.int (p3 &&& (2147483647 : Int32))), .val (.int rB), .val (.int cB), .val (.ref b6), .val (.int (0 : Int32)), .val (.int p4)] [(.int p4), (.int p4)])) _
      refine XS.icmpNo X26.here hx rfl (hb hby at_158) rfl (teq (rfl : p4 = p4)).2 ?_
      show Steps p.tables e below (T26.setTop (mkF m 161 #[.val (.int p1), .val (.int p2), .val (.int p3), .val (.int p4), .val (.int p5), .val (.int w1), .val (.int (p2 &&& (2147483647 : Int32))), .val (.int rA), .val (.int cA), .val (.int (p3 &&& (2147483647 : Int32))), .val (.int rB), .val (.int cB), .val (.ref b6), .val (.int (0 : Int32)), .val (.int p4)] [])) _
      refine XS.aload X26.here hx rfl (hb hby at_161) rfl rfl ?_
      show Steps p.tables e below (T26.setTop (mkF m 163 #[.val (.int p1), .val (.int p2), .val (.int p3), .val (.int p4), .val (.int p5), .val (.int w1), .val (.int (p2 &&& (2147483647 : Int32))), .val (.int rA), .val (.int cA), .val (.int (p3 &&& (2147483647 : Int32))), .val (.int rB), .val (.int cB), .val (.ref b6), .val (.int (0 : Int32)), .val (.int p4)] [(.ref b6)])) _
      refine st27.trans ?_
      show Steps p.tables e below (T27.setTop (mkF m 166 #[.val (.int p1), .val (.int p2), .val (.int p3), .val (.int p4), .val (.int p5), .val (.int w1), .val (.int (p2 &&& (2147483647 : Int32))), .val (.int rA), .val (.int cA), .val (.int (p3 &&& (2147483647 : Int32))), .val (.int rB), .val (.int cB), .val (.ref b6), .val (.int (0 : Int32)), .val (.int p4)] [(.int (3 : Int32))])) _
      refine XS.iconst X27.here hx rfl (hb hby at_166) ?_
      show Steps p.tables e below (T27.setTop (mkF m 167 #[.val (.int p1), .val (.int p2), .val (.int p3), .val (.int p4), .val (.int p5), .val (.int w1), .val (.int (p2 &&& (2147483647 : Int32))), .val (.int rA), .val (.int cA), .val (.int (p3 &&& (2147483647 : Int32))), .val (.int rB), .val (.int cB), .val (.ref b6), .val (.int (0 : Int32)), .val (.int p4)] [(.int (3 : Int32)), (.int (3 : Int32))])) _
      refine XS.icmpNo X27.here hx rfl (hb hby at_167) rfl (teq (rfl : (3 : Int32) = (3 : Int32))).2 ?_
      show Steps p.tables e below (T27.setTop (mkF m 170 #[.val (.int p1), .val (.int p2), .val (.int p3), .val (.int p4), .val (.int p5), .val (.int w1), .val (.int (p2 &&& (2147483647 : Int32))), .val (.int rA), .val (.int cA), .val (.int (p3 &&& (2147483647 : Int32))), .val (.int rB), .val (.int cB), .val (.ref b6), .val (.int (0 : Int32)), .val (.int p4)] [])) _
      refine XS.iconst X27.here hx rfl (hb hby at_170) ?_
      show Steps p.tables e below (T27.setTop (mkF m 171 #[.val (.int p1), .val (.int p2), .val (.int p3), .val (.int p4), .val (.int p5), .val (.int w1), .val (.int (p2 &&& (2147483647 : Int32))), .val (.int rA), .val (.int cA), .val (.int (p3 &&& (2147483647 : Int32))), .val (.int rB), .val (.int cB), .val (.ref b6), .val (.int (0 : Int32)), .val (.int p4)] [(.int (1 : Int32))])) _
      refine XS.goto X27.here hx rfl (pc0 := 171) (pc' := 175) rfl (hb hby at_171) (by decide) (by decide) ?_
      exact kt
    obtain ⟨fs, hr, hrun, hended, hW, hsame⟩ := X27.leave (v := some (.int (1 : Int32))) (fun h => by rw [Bd.returns] at h; cases h)
    refine ⟨_, _, pre28 _ ?_, hrun, hended, _, _, rfl, ?_, ⟨_, rfl⟩, hW, hsame.mono (by decide) (by decide)⟩
    · show Steps p.tables e below (T27.setTop (mkF m 175 #[.val (.int p1), .val (.int p2), .val (.int p3), .val (.int p4), .val (.int p5), .val (.int w1), .val (.int (p2 &&& (2147483647 : Int32))), .val (.int rA), .val (.int cA), .val (.int (p3 &&& (2147483647 : Int32))), .val (.int rB), .val (.int cB), .val (.ref b6), .val (.int (0 : Int32)), .val (.int p4)] [(.int (1 : Int32))])) _
      exact retN X27 hx (t := .boolean) Bd.returns (by simp) (hb hby at_175) hr
    · show Q0 Z h0 n0 _ T27.heap _
      rw [hE27]
      exact ⟨rfl, N27⟩
set_option maxRecDepth 65536 in
set_option maxHeartbeats 40000000 in
theorem comes_1 {Post : Tables → Env → Array Value → State → Outcome → State → Prop} (hpost : ∀ tb e args s v u, (limb_1_1.after args s (.returned v) u = true ∧ limb_1_2.after args s (.returned v) u = true ∧ True) → FrameEnd s (.returned v) u (Jvm.fieldLocs frame_1_writes args s ++ Jvm.arrayLocs frame_1_arrays args s ++ Jvm.staticLocs frame_1_statics s) 16 8320 → Post tb e args s (.returned v) u) :
    ArmFor flags0 classFile x code maxLocals ret World_1 tables_1 room_1 Calls_1 rest_1 Pre_1 Post := by
  intro l hfl _ _ p e ha hc hk s m args below hf hA hF happ hP
  obtain ⟨hcalls, hrest, hpre⟩ := hP
  obtain ⟨-, -, -, hnamed, -, -, -, hat⟩ := (Spec.applies_iff hf).mp happ
  obtain ⟨hg, hn⟩ := and_e (Cond.before_iff.mp (show (Jvm.Cond.and given_1 narrow_1).before args s = true from hpre))
  have hw := fun d (hd : d ∈ tables_1) => atoms_spec (ws := Jvm.Cond.code x code maxLocals ret :: tables_1) hat d (List.mem_cons_of_mem _ hd)
  obtain ⟨g1a, g1b⟩ := and_e hg
  obtain ⟨g2a, g2b⟩ := and_e g1b
  obtain ⟨g3a, g3b⟩ := and_e g2b
  obtain ⟨g4a, g4b⟩ := and_e g3b
  obtain ⟨g5a, g5b⟩ := and_e g4b
  obtain ⟨w0, w1, w2, w3, w4, rfl⟩ : ∃ w0 w1 w2 w3 w4 : Value, args = #[w0, w1, w2, w3, w4] := by
    have hs : args.size = 5 := by simpa [Cond.value, given_1] using g1a
    obtain ⟨L⟩ := args
    match L, hs with
    | [w0, w1, w2, w3, w4], _ => exact ⟨w0, w1, w2, w3, w4, rfl⟩
  have hfit : Fit s := fun {y c} hc i hi => by
    obtain ⟨ha, rfl⟩ := Array.getElem?_eq_some_iff.mp hc
    have q := List.all_eq_true.mp ((Array.all_eq_true_iff_forall_mem.mp hF) _ (Array.getElem_mem ha)) i (List.mem_range.mpr hi)
    simpa [Array.getElem?_eq_getElem hi] using q
  obtain ⟨i0, ei0⟩ := is_v g2a
  obtain rfl : w0 = (.int i0) := Option.some.inj ei0
  obtain ⟨i1, ei1⟩ := is_v g3a
  obtain rfl : w1 = (.int i1) := Option.some.inj ei1
  obtain ⟨i2, ei2⟩ := is_v g4a
  obtain rfl : w2 = (.int i2) := Option.some.inj ei2
  obtain ⟨i3, ei3⟩ := is_v g5a
  obtain rfl : w3 = (.int i3) := Option.some.inj ei3
  obtain ⟨i4, ei4⟩ := is_v g5b
  obtain rfl : w4 = (.int i4) := Option.some.inj ei4
  obtain ⟨n, o, h1, h2, h3, _, L, rfl, ⟨rfl, N⟩, hq⟩ := rm0 l s _ hw tables_1 i0 i1 i2 i3 i4  s.heap s.heap.size (Nat.le_refl _)  p e ha hc hk s m _ below hf ((Spec.applies_iff_loose hf).mp happ).1 ⟨rfl, State.Warmed39.refl s, rfl⟩ trivial
  refine ⟨n, _, h1, h2, h3, hpost _ _ _ _ _ _ ⟨Cond.after_iff.mpr rfl, Cond.after_iff.mpr (eq_i res_at (Term.int_eval (1)) rfl), trivial⟩ ⟨hq.1, hq.2.1, (hq.2.2.sift fun y hy => Or.inr (N y hy)).mono (by decide) (by decide)⟩⟩
theorem main_1_1 : Claimed_1_1 := comes_1 fun _ _ _ _ _ _ h hF => ⟨h.1, hF⟩
theorem main_1_2 : Claimed_1_2 := comes_1 fun _ _ _ _ _ _ h hF => ⟨h.2.1, hF⟩
end Jvm.Pilot.@@N@@
namespace Jvm.Pilot.@@N@@
open Jvm Jvm.ClassFile Sem Op Lib Jvm.Free Jvm.Stand Jvm.Pilot.@@N@@.Jvm.D
/-! MADE BY PROGRAM (witnessworld.py) out of the Statement's table words and the real class files: 9 classes; the members and pool entries that the words name. The judged class is class 1, her method 1. -/
namespace start1
open Jvm.ClassFile
def u (s : String) : CpInfo := .utf8 (stringToUtf16 s)
/-- a pool by its gaps: so many unusable entries, then the entry; so many at the end -/
def gap : Nat → List CpInfo → List CpInfo
  | 0, r => r
  | n + 1, r => .unusable :: gap n r
def poolList (es : List (Nat × CpInfo)) (last : Nat) : List CpInfo := es.foldr (fun e r => gap e.1 (e.2 :: r)) (gap last [])
def pool (es : List (Nat × CpInfo)) (last : Nat) : Array CpInfo := ⟨poolList es last⟩
def fileOf (pool : Array CpInfo) (this : Nat) (attrs : Array Attribute := #[]) (ms : Array MethodInfo := #[]) (fl : Nat := 33) (sup : Nat := 0) (ifs : Array Nat := #[]) (fds : Array FieldInfo := #[]) : ClassFile where
  minorVersion := 0
  majorVersion := 65
  constantPool := pool
  accessFlags := fl
  thisClass := this
  superClass := sup
  interfaces := ifs
  fields := fds
  methods := ms
  attributes := attrs
def plain (name : String) (sup : Option ClassId) : Class where
  name := name
  kind := .ordinary
  loader := none
  accessFlags := 33
  super := sup
  interfaces := #[]
  cf := none
  fields := #[]
  methods := #[]
  instanceTypes := #[]
  staticTypes := #[]
  resolved := #[]
  callSites := []
  init := .initialized
  statics := none
  mirror := none

def pool0 : Array CpInfo := pool [(5, u "<init>"), (0, u "()V"), (1, .class_ 10), (1, u "java/lang/Object")] 113

def k0c0 : Code := { maxStack := 0, maxLocals := 1, code := object_method_1_code, exceptionTable := #[], attributes := #[] }
def k0m0 : Method := { name := "<init>", desc := "()V", sig := { parameters := [], returnType := none }, accessFlags := 1, code := some k0c0 }
/-- java/lang/Object -/
def k0 : Class := { plain "java/lang/Object" none with
  accessFlags := 33
  interfaces := #[]
  cf := some (fileOf pool0 8 #[] #[{ accessFlags := 1, nameIndex := 5, descriptorIndex := 6, attributes := #[] }] 33 0 #[] #[])
  fields := #[]
  methods := #[k0m0]
  instanceTypes := #[]
  staticTypes := #[]
  resolved := Array.replicate 124 none
  statics := none }

def pool1 : Array CpInfo := pool [(2, .class_ 4), (1, u "java/lang/Object"), (0, u "<init>"), (0, u "()V"), (0, .integer 2147483647), (0, .class_ 9), (0, u "com/example/muniment_room/munimentroom/categorizer/Columns"), (0, .methodref 8 11), (0, .nameAndType 5 12), (0, u "(I)V"), (0, .methodref 8 14), (0, .nameAndType 15 16), (0, u "add"), (0, u "()I"), (0, .methodref 8 18), (0, .nameAndType 19 20), (0, u "set"), (0, u "(III)V"), (0, .methodref 8 22), (0, .nameAndType 23 24), (0, u "get"), (0, u "(II)I"), (0, .methodref 8 26), (0, .nameAndType 27 16), (0, u "rows"), (0, .class_ 29), (0, u "com/example/muniment_room/munimentroom/categorizer/ColumnsSetPinLaw"), (2, u "law"), (0, u "(IIIII)Z")] 3

def k1m0 : Method := { name := "<init>", desc := "()V", sig := { parameters := [], returnType := none }, accessFlags := 1, code := none }
def k1c1 : Code := { maxStack := 4, maxLocals := 15, code := code, exceptionTable := #[], attributes := #[] }
def k1m1 : Method := { name := "law", desc := "(IIIII)Z", sig := { parameters := [.int, .int, .int, .int, .int], returnType := some .boolean }, accessFlags := 9, code := some k1c1 }
/-- com/example/muniment_room/munimentroom/categorizer/ColumnsSetPinLaw -/
def k1 : Class := { plain "com/example/muniment_room/munimentroom/categorizer/ColumnsSetPinLaw" (some 0) with
  accessFlags := 49
  interfaces := #[]
  cf := some (fileOf pool1 28 #[] #[{ accessFlags := 1, nameIndex := 5, descriptorIndex := 6, attributes := #[] }, { accessFlags := 9, nameIndex := 32, descriptorIndex := 33, attributes := #[] }] 49 2 #[] #[])
  fields := #[]
  methods := #[k1m0, k1m1]
  instanceTypes := #[]
  staticTypes := #[]
  resolved := Array.replicate 37 none
  statics := none }

def pool2 : Array CpInfo := pool [(1, .class_ 2), (0, u "com/example/muniment_room/munimentroom/categorizer/Columns"), (0, .methodref 4 5), (0, .class_ 6), (0, .nameAndType 7 8), (0, u "java/lang/Object"), (0, u "<init>"), (0, u "()V"), (0, .class_ 10), (0, u "[I"), (0, .fieldref 1 12), (0, .nameAndType 13 14), (0, u "blocks"), (0, u "[[I"), (0, .fieldref 1 16), (0, .nameAndType 17 18), (0, u "width"), (0, u "I"), (0, .fieldref 1 20), (0, .nameAndType 21 18), (0, u "rows"), (7, u "BLOCK_BITS"), (2, u "BLOCK_ROWS"), (1, u "(I)V"), (2, u "()I"), (0, u "add"), (1, u "get"), (0, u "(II)I"), (0, u "set"), (0, u "(III)V")] 2

def k2c0 : Code := { maxStack := 2, maxLocals := 2, code := prog_8_method_1_code, exceptionTable := #[], attributes := #[] }
def k2m0 : Method := { name := "<init>", desc := "(I)V", sig := { parameters := [.int], returnType := none }, accessFlags := 0, code := some k2c0 }
def k2c1 : Code := { maxStack := 1, maxLocals := 1, code := prog_8_method_2_code, exceptionTable := #[], attributes := #[] }
def k2m1 : Method := { name := "rows", desc := "()I", sig := { parameters := [], returnType := some .int }, accessFlags := 0, code := some k2c1 }
def k2c2 : Code := { maxStack := 4, maxLocals := 2, code := prog_8_method_3_code, exceptionTable := #[], attributes := #[] }
def k2m2 : Method := { name := "add", desc := "()I", sig := { parameters := [], returnType := some .int }, accessFlags := 0, code := some k2c2 }
def k2c3 : Code := { maxStack := 3, maxLocals := 3, code := prog_8_method_4_code, exceptionTable := #[], attributes := #[] }
def k2m3 : Method := { name := "get", desc := "(II)I", sig := { parameters := [.int, .int], returnType := some .int }, accessFlags := 0, code := some k2c3 }
def k2c4 : Code := { maxStack := 3, maxLocals := 4, code := prog_8_method_5_code, exceptionTable := #[], attributes := #[] }
def k2m4 : Method := { name := "set", desc := "(III)V", sig := { parameters := [.int, .int, .int], returnType := none }, accessFlags := 0, code := some k2c4 }
/-- com/example/muniment_room/munimentroom/categorizer/Columns -/
def k2 : Class := { plain "com/example/muniment_room/munimentroom/categorizer/Columns" (some 0) with
  accessFlags := 32
  interfaces := #[]
  cf := some (fileOf pool2 1 #[] #[{ accessFlags := 0, nameIndex := 7, descriptorIndex := 34, attributes := #[] }, { accessFlags := 0, nameIndex := 21, descriptorIndex := 37, attributes := #[] }, { accessFlags := 0, nameIndex := 38, descriptorIndex := 37, attributes := #[] }, { accessFlags := 0, nameIndex := 40, descriptorIndex := 41, attributes := #[] }, { accessFlags := 0, nameIndex := 42, descriptorIndex := 43, attributes := #[] }] 32 4 #[] #[{ accessFlags := 26, nameIndex := 29, descriptorIndex := 18, attributes := #[] }, { accessFlags := 26, nameIndex := 32, descriptorIndex := 18, attributes := #[] }, { accessFlags := 18, nameIndex := 17, descriptorIndex := 18, attributes := #[] }, { accessFlags := 2, nameIndex := 13, descriptorIndex := 14, attributes := #[] }, { accessFlags := 2, nameIndex := 21, descriptorIndex := 18, attributes := #[] }])
  fields := #[{ name := "BLOCK_BITS", type := .int, accessFlags := 26, slot := 0, constantValue := 0 }, { name := "BLOCK_ROWS", type := .int, accessFlags := 26, slot := 1, constantValue := 0 }, { name := "width", type := .int, accessFlags := 18, slot := 0, constantValue := 0 }, { name := "blocks", type := (.array (.array .int)), accessFlags := 2, slot := 1, constantValue := 0 }, { name := "rows", type := .int, accessFlags := 2, slot := 2, constantValue := 0 }]
  methods := #[k2m0, k2m1, k2m2, k2m3, k2m4]
  instanceTypes := #[.int, (.array (.array .int)), .int]
  staticTypes := #[.int, .int]
  resolved := Array.replicate 46 none
  statics := none }

def pool3 : Array CpInfo := pool [(1, u "java/lang/Cloneable"), (0, .class_ 1), (0, u "java/lang/Object"), (0, .class_ 3)] 3

/-- java/lang/Cloneable -/
def k3 : Class := { plain "java/lang/Cloneable" (some 0) with
  accessFlags := 1537
  interfaces := #[]
  cf := some (fileOf pool3 2 #[] #[] 1537 4 #[] #[])
  fields := #[]
  methods := #[]
  instanceTypes := #[]
  staticTypes := #[]
  resolved := Array.replicate 8 none
  statics := none }

def pool4 : Array CpInfo := pool [(1, u "java/io/Serializable"), (0, .class_ 1), (0, u "java/lang/Object"), (0, .class_ 3)] 3

/-- java/io/Serializable -/
def k4 : Class := { plain "java/io/Serializable" (some 0) with
  accessFlags := 1537
  interfaces := #[]
  cf := some (fileOf pool4 2 #[] #[] 1537 4 #[] #[])
  fields := #[]
  methods := #[]
  instanceTypes := #[]
  staticTypes := #[]
  resolved := Array.replicate 8 none
  statics := none }

/-- the primitive byte -/
def k5 : Class := { plain "byte" none with kind := .primitive 'B', accessFlags := 0x411 }
/-- [B -/
def k6 : Class := { plain "[B" (some 0) with kind := .array 5 .byte, interfaces := #[3, 4], accessFlags := 1041 }

/-- the primitive int -/
def k7 : Class := { plain "int" none with kind := .primitive 'I', accessFlags := 0x411 }
/-- [I -/
def k8 : Class := { plain "[I" (some 0) with kind := .array 7 .int, interfaces := #[3, 4], accessFlags := 1041 }

def k9 : Class := { plain "[[I" (some 0) with kind := .array 8 (.array .int), interfaces := #[3, 4], accessFlags := 1041 }
def heap : Heap := #[]
def classes : Array Class := #[k0, k1, k2, k3, k4, k5, k6, k7, k8, k9]
def interned : List (Array UInt16 × Addr) := []
def slotsUsed : Nat := 0
def theMethod : MethodId := ⟨1, 1⟩
def args0 : Array Value := #[.int 1, .int 2, .int 3, .int 4, .int 5]
def aboutOver (below : List Frame) : State where
  vm := { classes := classes, interned := interned.toArray }
  heap := heap
  slotsUsed := slotsUsed
  threads := #[{ frames := .invoking theMethod args0 :: below }]
def below0 : List Frame := [.native { method := ⟨0, 0⟩, args := #[] }]
def about1 : State := aboutOver below0
def p0 : Program := .bare "" "" ""
def e0 : Env := launch0.env 0 0 0
theorem w_frames : about1.frames = Frame.invoking theMethod args0 :: below0 := rfl
set_option maxRecDepth 65536 in
theorem w_args : argsFit about1.vm theMethod args0 = true := by decide +kernel
set_option maxRecDepth 65536 in
theorem w_heap : heapFits about1 = true := by decide +kernel
set_option maxRecDepth 65536 in
theorem w_runnable : about1.curStatus? = some .runnable := by decide +kernel
set_option maxRecDepth 65536 in
theorem w_alone : about1.alone = true := by decide +kernel
set_option maxRecDepth 65536 in
theorem w_named : about1.methodNamed? x = some theMethod := by decide +kernel
set_option maxRecDepth 65536 in
theorem w_hears : about1.hears theMethod below0 = true := by decide +kernel
set_option maxRecDepth 65536 in
theorem w_ripe : about1.ripe theMethod args0 below0 = true := by decide +kernel
theorem w_running : about1.status = .running := rfl
set_option maxRecDepth 65536 in
theorem w_room : about1.hasRoom e0.platform room_1 = true :=
  launch0.hasRoom_least _ room_1 (by decide +kernel) (by decide +kernel) (by decide +kernel) (by decide +kernel) (by decide +kernel) (by decide +kernel)
theorem allAtoms_all (ts : List Jvm.Cond) (a : Array Jvm.Value) (st : Jvm.State) : (allAtoms ts).before a st = ts.all (fun c => c.before a st) := by
  induction ts with
  | nil => rfl
  | cons c t ih =>
    show (Jvm.Cond.and c (allAtoms t)).before a st = _
    rw [Jvm.Cond.before_and, ih, List.all_cons]
def words1 : List Jvm.Cond := Jvm.Cond.code x code maxLocals ret :: tables_1
/-- a 'code' word, met by the world's own term for the bytes: nothing is compared byte by byte -/
theorem code_word {y : MethodName} {bytes : ByteArray} {mx : Nat} {rt : Option FieldType} {a : Array Value} {s : State} {m : MethodId} {meth : Method} {c : Code} (h1 : s.methodNamed? y = some m) (h2 : s.vm.method? m = some meth) (h3 : meth.code = some c) (h4 : c.code = bytes)
    (h5 : (c.maxLocals == mx && c.exceptionTable.isEmpty && decide (c.maxStack ≤ mostOperands) && decide (meth.sig.returnType = rt) && !meth.locks && decide (parseMethodDescriptor y.desc = some meth.sig)) = true) : (Jvm.Cond.code y bytes mx rt).before a s = true := by
  simp only [Bool.and_eq_true, beq_iff_eq, Bool.not_eq_true', decide_eq_true_eq] at h5
  obtain ⟨⟨⟨⟨⟨g1, g2⟩, g3⟩, g4⟩, g5⟩, g6⟩ := h5
  simp [Cond.before, Cond.holds, Cond.value, h1, h2, h3, h4, g1, g2, g3, g4, g5, g6]
def isCode : Jvm.Cond → Bool
  | .code _ _ _ _ => true
  | _ => false
theorem all_split {L : List Jvm.Cond} {P : Jvm.Cond → Bool} (h1 : L.all (fun c => isCode c || P c) = true) (h2 : ∀ c ∈ L.filter isCode, P c = true) : L.all P = true := by
  refine List.all_eq_true.mpr fun c hc => ?_
  have h := List.all_eq_true.mp h1 c hc
  rcases Bool.eq_false_or_eq_true (isCode c) with hi | hi
  · exact h2 c (List.mem_filter.mpr ⟨hc, hi⟩)
  · simpa [hi] using h
set_option maxRecDepth 65536 in
theorem w_c0 : (Jvm.Cond.code x code maxLocals ret).before args0 about1 = true := code_word (m := ⟨1, 1⟩) (meth := k1m1) (c := k1c1) (by decide +kernel) rfl rfl rfl (by decide +kernel)
set_option maxRecDepth 65536 in
theorem w_c1 : (Jvm.Cond.code ({ cls := "com/example/muniment_room/munimentroom/categorizer/Columns", name := "<init>", desc := "(I)V" } : Jvm.MethodName) prog_8_method_1_code (2 : Nat) (Option.none : Option Jvm.ClassFile.FieldType)).before args0 about1 = true := code_word (m := ⟨2, 0⟩) (meth := k2m0) (c := k2c0) (by decide +kernel) rfl rfl rfl (by decide +kernel)
set_option maxRecDepth 65536 in
theorem w_c2 : (Jvm.Cond.code ({ cls := "java/lang/Object", name := "<init>", desc := "()V" } : Jvm.MethodName) object_method_1_code (1 : Nat) (Option.none : Option Jvm.ClassFile.FieldType)).before args0 about1 = true := code_word (m := ⟨0, 0⟩) (meth := k0m0) (c := k0c0) (by decide +kernel) rfl rfl rfl (by decide +kernel)
set_option maxRecDepth 65536 in
theorem w_c3 : (Jvm.Cond.code ({ cls := "com/example/muniment_room/munimentroom/categorizer/Columns", name := "add", desc := "()I" } : Jvm.MethodName) prog_8_method_3_code (2 : Nat) (Option.some Jvm.ClassFile.FieldType.int)).before args0 about1 = true := code_word (m := ⟨2, 2⟩) (meth := k2m2) (c := k2c2) (by decide +kernel) rfl rfl rfl (by decide +kernel)
set_option maxRecDepth 65536 in
theorem w_c4 : (Jvm.Cond.code ({ cls := "com/example/muniment_room/munimentroom/categorizer/Columns", name := "set", desc := "(III)V" } : Jvm.MethodName) prog_8_method_5_code (4 : Nat) (Option.none : Option Jvm.ClassFile.FieldType)).before args0 about1 = true := code_word (m := ⟨2, 4⟩) (meth := k2m4) (c := k2c4) (by decide +kernel) rfl rfl rfl (by decide +kernel)
set_option maxRecDepth 65536 in
theorem w_c5 : (Jvm.Cond.code ({ cls := "com/example/muniment_room/munimentroom/categorizer/Columns", name := "get", desc := "(II)I" } : Jvm.MethodName) prog_8_method_4_code (3 : Nat) (Option.some Jvm.ClassFile.FieldType.int)).before args0 about1 = true := code_word (m := ⟨2, 3⟩) (meth := k2m3) (c := k2c3) (by decide +kernel) rfl rfl rfl (by decide +kernel)
set_option maxRecDepth 65536 in
theorem w_c6 : (Jvm.Cond.code ({ cls := "com/example/muniment_room/munimentroom/categorizer/Columns", name := "rows", desc := "()I" } : Jvm.MethodName) prog_8_method_2_code (1 : Nat) (Option.some Jvm.ClassFile.FieldType.int)).before args0 about1 = true := code_word (m := ⟨2, 1⟩) (meth := k2m1) (c := k2c1) (by decide +kernel) rfl rfl rfl (by decide +kernel)
def codes1 : List Jvm.Cond := [Jvm.Cond.code x code maxLocals ret, Jvm.Cond.code ({ cls := "com/example/muniment_room/munimentroom/categorizer/Columns", name := "<init>", desc := "(I)V" } : Jvm.MethodName) prog_8_method_1_code (2 : Nat) (Option.none : Option Jvm.ClassFile.FieldType), Jvm.Cond.code ({ cls := "java/lang/Object", name := "<init>", desc := "()V" } : Jvm.MethodName) object_method_1_code (1 : Nat) (Option.none : Option Jvm.ClassFile.FieldType), Jvm.Cond.code ({ cls := "com/example/muniment_room/munimentroom/categorizer/Columns", name := "add", desc := "()I" } : Jvm.MethodName) prog_8_method_3_code (2 : Nat) (Option.some Jvm.ClassFile.FieldType.int), Jvm.Cond.code ({ cls := "com/example/muniment_room/munimentroom/categorizer/Columns", name := "set", desc := "(III)V" } : Jvm.MethodName) prog_8_method_5_code (4 : Nat) (Option.none : Option Jvm.ClassFile.FieldType), Jvm.Cond.code ({ cls := "com/example/muniment_room/munimentroom/categorizer/Columns", name := "get", desc := "(II)I" } : Jvm.MethodName) prog_8_method_4_code (3 : Nat) (Option.some Jvm.ClassFile.FieldType.int), Jvm.Cond.code ({ cls := "com/example/muniment_room/munimentroom/categorizer/Columns", name := "rows", desc := "()I" } : Jvm.MethodName) prog_8_method_2_code (1 : Nat) (Option.some Jvm.ClassFile.FieldType.int)]
set_option maxRecDepth 65536 in
theorem codes_eq : words1.filter isCode = codes1 := rfl
theorem w_codes : ∀ c ∈ words1.filter isCode, c.before args0 about1 = true := by
  rw [codes_eq]
  intro c hc
  simp only [codes1, List.mem_cons, List.not_mem_nil, or_false] at hc
  rcases hc with rfl | rfl | rfl | rfl | rfl | rfl | rfl
  · exact w_c0
  · exact w_c1
  · exact w_c2
  · exact w_c3
  · exact w_c4
  · exact w_c5
  · exact w_c6
set_option maxRecDepth 65536 in
theorem w_t1 : (words1.take 24).all (fun c => isCode c || c.before args0 about1) = true := by decide +kernel
set_option maxRecDepth 65536 in
theorem w_t2 : (words1.drop 24).all (fun c => isCode c || c.before args0 about1) = true := by decide +kernel
theorem w_tables : (allAtoms (Jvm.Cond.code x code maxLocals ret :: tables_1)).before args0 about1 = true := by
  rw [allAtoms_all]
  show words1.all (fun c => c.before args0 about1) = true
  refine all_split ?_ w_codes
  rw [← List.take_append_drop 24 words1, List.all_append, w_t1, w_t2]
  rfl
set_option maxRecDepth 65536 in
theorem w_case : (Jvm.Cond.and given_1 narrow_1).before args0 about1 = true := by decide +kernel
theorem w_applies : (headSpec (Jvm.Cond.code x code maxLocals ret :: tables_1) room_1).applies x e0.platform about1 = true :=
  (Spec.applies_iff w_frames).mpr ⟨w_running, w_runnable, w_alone, w_named, w_hears, w_ripe, w_room, w_tables⟩
theorem atStart : AtStart classFile x code maxLocals ret World_1 tables_1 room_1 Calls_1 rest_1 Pre_1 launch0 p0 e0 about1 theMethod args0 below0 :=
  ⟨lists_1, trivial, launch0.admits_env _ _ _, launch0.least_env, fairChoices_fair.cas, fairChoices_fair.clock, w_frames, w_args, w_heap, w_applies, trivial, trivial, w_case⟩
end start1
theorem witness_1 : WitnessClaimed_1 := ⟨start1.p0, start1.e0, start1.about1, start1.theMethod, start1.args0, start1.below0, start1.atStart⟩
end Jvm.Pilot.@@N@@
