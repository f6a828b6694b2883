import JvmDerived
import JvmDerived.Pilot.@@N@@Statement
import JvmDerived.Pilot.@@N@@Code
set_option linter.unusedVariables false
set_option linter.unusedSimpArgs false
namespace Jvm.RoadKit
open Sem ClassFile Op Lib Jvm.Stand Jvm.Free Jvm.LawKit
section New
variable {p : Program} {l : Launch} {e : Env} {R : Room} {s : State} {m : MethodId} {args : Array Value} {below : List Frame} {meth : Method} {c : Code} {T : State} {locs : List Loc} {cells slots : Nat}
theorem retI (X : Stand p l e R s m args below meth c T locs cells slots) (hx : p.tables.exec = Jvm.exec) {pc : Nat} {Ls : Array Slot} {z : Int32} {rest : List Value} (hret : meth.sig.returnType = some .int) (hd : decode c.code pc = .ok (.ireturn, 1)) {fs : List Frame}
    (hl : ∀ (f : JFrame) (acts : List Action), f.method = m → f.locked = none → f.entered = [] → (doReturn e (T.setTop f) acts (some (.int z))).1 = T.setFrames fs) : Steps p.tables e below (T.setTop (mkF m pc Ls (.int z :: rest))) (T.setFrames fs) := by
  have hm' : T.vm.method? m = some meth := X.method'
  have hn : narrow .int (.int z) = .int z := rfl
  show Steps p.tables e below (T.setTop { method := m, pc := pc, locals := Ls, stack := _ :: rest, locked := none }) _
  jvm_step X.here [X.here.top, hx, hd, hm', hret, hn]
  first | (intro acts; rw [hl _ acts rfl rfl rfl]) | rw [hl _ _ rfl rfl rfl]
  exact Steps.refl _
end New
end Jvm.RoadKit
namespace Jvm.Pilot.@@N@@
open Jvm Jvm.ClassFile Sem Op Lib Jvm.Free Jvm.Stand Jvm.LawKit Jvm.RoadKit Bundle Jvm.Pilot.@@N@@.Jvm.D
theorem own_retb (z : Int32) (h : z = 0 ∨ z = 1) : narrow .boolean (.int z) = .int z := by rcases h with rfl | rfl <;> rfl
theorem own_rem (x n : Int32) (hn : 0 < n.toInt) : 0 ≤ ((x &&& (2147483647 : Int32)) % n).toInt ∧ ((x &&& (2147483647 : Int32)) % n).toInt < n.toInt := by
  have h1 := c_mask x (2147483647 : Int32) 31 (by decide) (by decide)
  have h2 := (c_iremV (x &&& (2147483647 : Int32)) n).1 (by omega) hn
  exact ⟨h2.1, h2.2.1⟩
theorem own_of3 {k : Int32} (h : 0 ≤ k.toInt ∧ k.toInt < 3) : k = 0 ∨ k = 1 ∨ k = 2 := by
  have h2 : k.toInt = (0 : Int32).toInt ∨ k.toInt = (1 : Int32).toInt ∨ k.toInt = (2 : Int32).toInt := by simp; omega
  simpa only [Int32.toInt_inj] using h2
theorem own_of5 {k : Int32} (h : 0 ≤ k.toInt ∧ k.toInt < 5) : k = 0 ∨ k = 1 ∨ k = 2 ∨ k = 3 ∨ k = 4 := by
  have h2 : k.toInt = (0 : Int32).toInt ∨ k.toInt = (1 : Int32).toInt ∨ k.toInt = (2 : Int32).toInt ∨ k.toInt = (3 : Int32).toInt ∨ k.toInt = (4 : Int32).toInt := by simp; omega
  simpa only [Int32.toInt_inj] using h2
theorem own_of6 {k : Int32} (h : 0 ≤ k.toInt ∧ k.toInt < 6) : k = 0 ∨ k = 1 ∨ k = 2 ∨ k = 3 ∨ k = 4 ∨ k = 5 := by
  have h2 : k.toInt = (0 : Int32).toInt ∨ k.toInt = (1 : Int32).toInt ∨ k.toInt = (2 : Int32).toInt ∨ k.toInt = (3 : Int32).toInt ∨ k.toInt = (4 : Int32).toInt ∨ k.toInt = (5 : Int32).toInt := by simp; omega
  simpa only [Int32.toInt_inj] using h2
theorem own_eqI {args : Array Value} {s : State} {t : Term} {k : Int32} (h : (Jvm.Cond.eq t (.int k)).value args s none s [] = some true) : t.eval args s none [] s = some (.int k) := by
  obtain ⟨u, v, hu, hv, k1, k2⟩ := cmp_v (Or.inl h)
  have hv2 : v = .int k := Option.some.inj (hv.symm.trans (Term.int_eval k))
  subst hv2
  cases u <;> simp [Cond.value, hu, hv] at h
  subst h; exact hu
theorem own_fld {args : Array Value} {s : State} {t : Term} {a : Addr} {C n d : String} {k : Int32} (ev : t.eval args s none [] s = some (.ref a)) (h : (Jvm.Cond.eq (.field t C n d) (.int k)).value args s none s [] = some true) : Fld s s.heap a C n d (.int k) :=
  Fld.start ((fld_at ev).symm.trans (own_eqI h))
theorem own_len {args : Array Value} {s : State} {t : Term} {a : Addr} {cl : Cell} {ty : FieldType} {k : Int32} (ev : t.eval args s none [] s = some (.ref a)) (A : Arr s s.heap a cl ty) (h : (Jvm.Cond.eq (.length t) (.int k)).value args s none s [] = some true) : cl.slots.size.toInt32 = k := by
  obtain ⟨b, c, e1, e2, e3⟩ := Term.length_spec (own_eqI h)
  cases ev.symm.trans e1
  cases (A.fin (Vm.Alike.refl _)).symm.trans e2
  exact (Value.int.inj e3).symm
theorem own_lenlt {args : Array Value} {s : State} {t : Term} {a : Addr} {cl : Cell} {ty : FieldType} {k : Int32} (ev : t.eval args s none [] s = some (.ref a)) (A : Arr s s.heap a cl ty) (h : (Jvm.Cond.eq (.length t) (.int k)).value args s none s [] = some true) : cl.slots.size < 2 ^ 31 := by
  have h1 := own_eqI h
  have h2 := A.fin (Vm.Alike.refl _)
  apply Classical.byContradiction
  intro h3
  simp [Term.eval, ev, h2, h3] at h1
theorem own_elem {args : Array Value} {s : State} {t u : Term} {a b : Addr} {cl : Cell} {ty : FieldType} {j : Int32} (ev : t.eval args s none [] s = some (.ref a)) (A : Arr s s.heap a cl ty) (hu : u.eval args s none [] s = some (.ref b)) (h : (Jvm.Cond.eq (.elem t (.int j)) u).value args s none s [] = some true) : cl.slots[j.toNatClampNeg]? = some (.ref b) := by
  obtain ⟨x, y, hx, hy, -, -⟩ := cmp_v (Or.inl h)
  cases hu.symm.trans hy
  have h2 := (elem_in hx ev (Term.int_eval j) A.1).2
  cases x <;> simp [Cond.value, hx, hy] at h
  subst h; exact h2
theorem own_fldN {args : Array Value} {s : State} {t : Term} {a : Addr} {C n d : String} (ev : t.eval args s none [] s = some (.ref a)) (h : (Jvm.Cond.eq (.field t C n d) .null).value args s none s [] = some true) : Fld s s.heap a C n d .null :=
  Fld.start ((fld_at ev).symm.trans (null_v h))
theorem own_cap (w1 : Int32) (h : w1 = 1 ∨ w1 = 2 ∨ w1 = 3 ∨ w1 = 4) : ¬ (((1024 : Int32) * w1) < 0) ∧ ((1024 : Int32) * w1).toNatClampNeg ≤ 4096 := by rcases h with rfl | rfl | rfl | rfl <;> decide
theorem own_of12 {k : Int32} (h : 0 ≤ k.toInt ∧ k.toInt < 12) : k = 0 ∨ k = 1 ∨ k = 2 ∨ k = 3 ∨ k = 4 ∨ k = 5 ∨ k = 6 ∨ k = 7 ∨ k = 8 ∨ k = 9 ∨ k = 10 ∨ k = 11 := by
  have h2 : k.toInt = (0 : Int32).toInt ∨ k.toInt = (1 : Int32).toInt ∨ k.toInt = (2 : Int32).toInt ∨ k.toInt = (3 : Int32).toInt ∨ k.toInt = (4 : Int32).toInt ∨ k.toInt = (5 : Int32).toInt ∨ k.toInt = (6 : Int32).toInt ∨ k.toInt = (7 : Int32).toInt ∨ k.toInt = (8 : Int32).toInt ∨ k.toInt = (9 : Int32).toInt ∨ k.toInt = (10 : Int32).toInt ∨ k.toInt = (11 : Int32).toInt := by simp; omega
  simpa only [Int32.toInt_inj] using h2
def QC (Z : State) (a1 : Addr) (w1 : Int32) (h0 : Heap) (n0 : Nat) (v : Option Value) (h : Heap) (L : List Loc) : Prop := v = none ∧ Fr n0 L ∧ Keep h0 h [a1] ∧ Exa Z h a1 "com/example/muniment_room/munimentroom/categorizer/Columns" ∧ Fld Z h a1 "com/example/muniment_room/munimentroom/categorizer/Columns" "width" "I" (.int w1) ∧ Fld Z h a1 "com/example/muniment_room/munimentroom/categorizer/Columns" "rows" "I" (.int (0 : Int32)) ∧ ∃ (b : Addr) (kb : ClassId), n0 ≤ b ∧ h0.size ≤ b ∧ Fld Z h a1 "com/example/muniment_room/munimentroom/categorizer/Columns" "blocks" "[[I" (.ref b) ∧ Arv Z h b kb (.array .int) (1 : Int32) [.null] .null ∧ OvrA Z kb .int "[I"
theorem d1_0 : decode prog_8_method_1_code 0 = .ok (.aload_n 0, 1) := by decide +kernel
theorem d1_1 : decode prog_8_method_1_code 1 = .ok (.invokespecial 3, 3) := by decide +kernel
theorem d1_4 : decode prog_8_method_1_code 4 = .ok (.aload_n 0, 1) := by decide +kernel
theorem d1_5 : decode prog_8_method_1_code 5 = .ok (.iconst 1, 1) := by decide +kernel
theorem d1_6 : decode prog_8_method_1_code 6 = .ok (.anewarray 9, 3) := by decide +kernel
theorem d1_9 : decode prog_8_method_1_code 9 = .ok (.putfield 11, 3) := by decide +kernel
theorem d1_12 : decode prog_8_method_1_code 12 = .ok (.aload_n 0, 1) := by decide +kernel
theorem d1_13 : decode prog_8_method_1_code 13 = .ok (.iload_n 1, 1) := by decide +kernel
theorem d1_14 : decode prog_8_method_1_code 14 = .ok (.putfield 15, 3) := by decide +kernel
theorem d1_17 : decode prog_8_method_1_code 17 = .ok (.return_, 1) := by decide +kernel
theorem pn_rmC : plainName "com/example/muniment_room/munimentroom/categorizer/Columns" = true := by first | (simp [plainName, overriddenIn]; done) | decide +kernel
theorem ef_rmC (m : MethodId) (a1 : Addr) (w1 : Int32) : entryFrame m #[(.ref a1), (.int w1)] 2 = mkF m 0 #[.val (.ref a1), .val (.int w1)] [] := by first | (simp [entryFrame, mkF, argsToLocals, Value.category]; done) | rfl
set_option maxRecDepth 65536 in
set_option maxHeartbeats 40000000 in
theorem rmC (l : Launch) (Z : State) (a0 : Array Value) (hw : ∀ d ∈ tables_1, d.before a0 Z = true) (ws : List Jvm.Cond) (a1 : Addr) (w1 : Int32) (h0 : Heap) (n0 : Nat) (Z0 : n0 ≤ h0.size) (E_a1 : Exa Z h0 a1 "com/example/muniment_room/munimentroom/categorizer/Columns") (F_w : Fld Z h0 a1 "com/example/muniment_room/munimentroom/categorizer/Columns" "width" "I" (.int (0 : Int32))) (F_b : Fld Z h0 a1 "com/example/muniment_room/munimentroom/categorizer/Columns" "blocks" "[[I" .null) (F_r : Fld Z h0 a1 "com/example/muniment_room/munimentroom/categorizer/Columns" "rows" "I" (.int (0 : Int32))) (g_a1 : n0 ≤ a1) :
    MetFree l (⟨"com/example/muniment_room/munimentroom/categorizer/Columns", "<init>", "(I)V"⟩ : MethodName) (head1 (Jvm.Cond.code (⟨"com/example/muniment_room/munimentroom/categorizer/Columns", "<init>", "(I)V"⟩ : MethodName) prog_8_method_1_code 2 none :: ws) ({ frames := 1, cells := 1, slots := 1, locals := 12 } : Room)) (fun a U => a = #[(.ref a1), (.int w1)] ∧ Z.Warmed39 U.vm ∧ U.heap = h0) (fun _ _ _ _ _ => True) (fun _ U o U' => ∃ v L, o = .returned v ∧ QC Z a1 w1 h0 n0 v U'.heap L ∧ FrameEnd U o U' L ({ frames := 1, cells := 1, slots := 1, locals := 12 } : Room).cells ({ frames := 1, cells := 1, slots := 1, locals := 12 } : Room).slots) := by
  refine MetFree.of_bodySF (plainFor_of_name pn_rmC) hisR ?_
  intro p e s m args below meth c s₁ Bd hml0 hP hK
  obtain ⟨rfl, hZ, hh⟩ := hP
  have hx := Bd.exec
  have hby := Bd.bytes
  have hml : c.maxLocals = 2 := hml0
  have hown : s.vm.findClass "com/example/muniment_room/munimentroom/categorizer/Columns" = some m.cls := findClass_of_methodNamed Bd.named
  have hnm := (name_of_methodNamed Bd.named Bd.method).1
  have X0 : Stand p l e ({ frames := 1, cells := 1, slots := 1, locals := 12 } : Room) s m #[(.ref a1), (.int w1)] below meth c s₁ [] 0 0 := Stand.of_body Bd
  have e0 : s₁.heap = h0 := by rw [← hh, Bd.state]; rfl
  have N0 := Fr.nil n0
  have pre0 : ∀ tt, Steps p.tables e below (s₁.setTop (mkF m 0 #[.val (.ref a1), .val (.int w1)] [])) tt → Steps p.tables e below (s₁.setTop (entryFrame m #[(.ref a1), (.int w1)] 2)) tt := fun tt kt => castTop (ef_rmC m a1 w1) kt
  obtain ⟨T1, X1, e1, st1⟩ := initO X0 hx hZ hown (hw _ (List.mem_of_getElem? (i := 7) rfl)) (hw _ (List.mem_of_getElem? (i := 8) rfl)) (hw _ (List.mem_of_getElem? (i := 9) rfl)) e0 (g := (mkF m 1 #[.val (.ref a1), .val (.int w1)] [(.ref a1)])) rfl (by rw [hml]; rfl) rfl (hb hby d1_1) (by decide) (W := 0) (by show 2 * 0 + _ ≤ _; exact Nat.le_of_eq rfl) (by decide)
  obtain ⟨T2, h2, k2, X2, e2, E2, A2, EE2, O2, st2⟩ := newRA X1 hx hZ hown (by decide) (hw _ (List.mem_of_getElem? (i := 10) rfl)) (hw _ (List.mem_of_getElem? (i := 11) rfl)) e1 (g := (mkF m 6 #[.val (.ref a1), .val (.int w1)] [(.int (1 : Int32)), (.ref a1)])) rfl (hb hby d1_6) rfl (by decide) (cap := 1) (by decide) (by decide) (by decide) (by decide) (ad := "[[I") (by decide)
  obtain ⟨b2, g2⟩ : ∃ z, z = h0.size := ⟨_, rfl⟩
  rw [← g2] at A2 EE2 st2
  have g_b2 : n0 ≤ b2 := Nat.le_trans Z0 (Nat.le_of_eq g2.symm)
  have sz_b2 : h0.size ≤ b2 := Nat.le_trans ((Keep.refl h0 [a1])).1 (Nat.le_of_eq g2.symm)
  have K2 : Keep h0 h2 [a1] := ((Keep.refl h0 [a1])).ext E2
  have V_b2 : Arv Z h2 b2 k2 (.array .int) (1 : Int32) [.null] .null := (Arv.new A2 (by decide)).pad (pad_rep [] .null 1)
  obtain ⟨T3, h3, X3, e3, W3, st3⟩ := putF X2 hx hZ hown (host := "") (Or.inl (hw _ (List.mem_of_getElem? (i := 12) rfl))) Via.refl e2 (Fld.ext E2 F_b) (Exa.ext E2 E_a1) (Or.inl (hw _ (List.mem_of_getElem? (i := 13) rfl))) (hw _ (List.mem_of_getElem? (i := 2) rfl)) (ty := (.array (.array .int))) (by decide) rfl rfl (g := (mkF m 9 #[.val (.ref a1), .val (.int w1)] [(.ref b2), (.ref a1)])) rfl rfl (hb hby d1_9)
  have Fw3 := Fld.same W3 (Fld.ext E2 F_b)
  have N3 := Fr.snoc X3 N0 g_a1
  have K3 : Keep h0 h3 [a1] := (K2).wr W3 (Or.inl (List.mem_of_getElem? (i := 0) rfl))
  obtain ⟨T4, h4, X4, e4, W4, st4⟩ := putF X3 hx hZ hown (host := "") (Or.inl (hw _ (List.mem_of_getElem? (i := 14) rfl))) Via.refl e3 (Fld.other W3 (Fld.ext E2 F_w) (Or.inr (slot_ne (Or.inr (hw _ (List.mem_of_getElem? (i := 15) rfl))) (Or.inl (hw _ (List.mem_of_getElem? (i := 13) rfl))) (by decide) (t := .int) (t' := (.array (.array .int))) (by decide) (by decide)))) (Exa.wr W3 (Exa.ext E2 E_a1)) (Or.inr ⟨(hw _ (List.mem_of_getElem? (i := 15) rfl)), rfl, hnm⟩) (hw _ (List.mem_of_getElem? (i := 2) rfl)) (ty := .int) (by decide) rfl rfl (g := (mkF m 14 #[.val (.ref a1), .val (.int w1)] [(.int w1), (.ref a1)])) rfl rfl (hb hby d1_14)
  have Fw4 := Fld.same W4 (Fld.other W3 (Fld.ext E2 F_w) (Or.inr (slot_ne (Or.inr (hw _ (List.mem_of_getElem? (i := 15) rfl))) (Or.inl (hw _ (List.mem_of_getElem? (i := 13) rfl))) (by decide) (t := .int) (t' := (.array (.array .int))) (by decide) (by decide))))
  have N4 := Fr.snoc X4 N3 g_a1
  have K4 : Keep h0 h4 [a1] := (K3).wr W4 (Or.inl (List.mem_of_getElem? (i := 0) rfl))
  have pre5 : ∀ tt, Steps p.tables e below (T4.setTop (mkF m 17 #[.val (.ref a1), .val (.int w1)] [])) tt → Steps p.tables e below (s₁.setTop (entryFrame m #[(.ref a1), (.int w1)] 2)) tt := by
    intro tt kt
    refine pre0 tt ?_
    show Steps p.tables e below (s₁.setTop (mkF m 0 #[.val (.ref a1), .val (.int w1)] [])) _
    refine XS.aloadN X0.here hx rfl (hb hby d1_0) rfl rfl ?_
    show Steps p.tables e below (s₁.setTop (mkF m 1 #[.val (.ref a1), .val (.int w1)] [(.ref a1)])) _
    refine st1 _ ?_
    show Steps p.tables e below (T1.setTop (mkF m 4 #[.val (.ref a1), .val (.int w1)] [])) _
    refine XS.aloadN X1.here hx rfl (hb hby d1_4) rfl rfl ?_
    show Steps p.tables e below (T1.setTop (mkF m 5 #[.val (.ref a1), .val (.int w1)] [(.ref a1)])) _
    refine XS.iconst X1.here hx rfl (hb hby d1_5) ?_
    show Steps p.tables e below (T1.setTop (mkF m 6 #[.val (.ref a1), .val (.int w1)] [(.int (1 : Int32)), (.ref a1)])) _
    refine st2 _ ?_
    show Steps p.tables e below (T2.setTop (mkF m 9 #[.val (.ref a1), .val (.int w1)] [(.ref b2), (.ref a1)])) _
    refine st3 _ ?_
    show Steps p.tables e below (T3.setTop (mkF m 12 #[.val (.ref a1), .val (.int w1)] [])) _
    refine XS.aloadN X3.here hx rfl (hb hby d1_12) rfl rfl ?_
    show Steps p.tables e below (T3.setTop (mkF m 13 #[.val (.ref a1), .val (.int w1)] [(.ref a1)])) _
    refine XS.iloadN X3.here hx rfl (hb hby d1_13) rfl ?_
    show Steps p.tables e below (T3.setTop (mkF m 14 #[.val (.ref a1), .val (.int w1)] [(.int w1), (.ref a1)])) _
    refine st4 _ ?_
    exact kt
  obtain ⟨fs, hr, hrun, hended, hW, hsame⟩ := X4.leave (v := none) (fun _ => rfl)
  refine ⟨_, _, pre5 _ ?_, hrun, hended, _, _, rfl, ?_, ⟨_, rfl⟩, hW, hsame.mono (by decide) (by decide)⟩
  · show Steps p.tables e below (T4.setTop (mkF m 17 #[.val (.ref a1), .val (.int w1)] [])) _
    exact X4.returnOut hx Bd.returns (hb hby d1_17) hr
  · show QC Z a1 w1 h0 n0 _ T4.heap _
    rw [e4]
    exact ⟨rfl, N4, K4, (Exa.wr W4 (Exa.wr W3 (Exa.ext E2 E_a1))), Fw4, (Fld.other W4 (Fld.other W3 (Fld.ext E2 F_r) (Or.inr (slot_ne (Or.inl (hw _ (List.mem_of_getElem? (i := 22) rfl))) (Or.inl (hw _ (List.mem_of_getElem? (i := 13) rfl))) (by decide) (t := .int) (t' := (.array (.array .int))) (by decide) (by decide)))) (Or.inr (slot_ne (Or.inl (hw _ (List.mem_of_getElem? (i := 22) rfl))) (Or.inr (hw _ (List.mem_of_getElem? (i := 15) rfl))) (by decide) (t := .int) (t' := .int) (by decide) (by decide)))), b2, k2, g_b2, sz_b2, (Fld.other W4 Fw3 (Or.inr (slot_ne (Or.inl (hw _ (List.mem_of_getElem? (i := 13) rfl))) (Or.inr (hw _ (List.mem_of_getElem? (i := 15) rfl))) (by decide) (t := (.array (.array .int))) (t' := .int) (by decide) (by decide)))), ((V_b2.other W3 (Ne.symm (Nat.ne_of_lt (Nat.lt_of_lt_of_le (F_w).lt (Nat.le_of_eq g2.symm))))).other W4 (Ne.symm (Nat.ne_of_lt (Nat.lt_of_lt_of_le (F_w).lt (Nat.le_of_eq g2.symm))))), O2⟩
def QA (Z : State) (a1 b : Addr) (kb : ClassId) (w1 : Int32) (h0 : Heap) (n0 : Nat) (v : Option Value) (h : Heap) (L : List Loc) : Prop := v = some (.int (0 : Int32)) ∧ Fr n0 L ∧ Keep h0 h [a1, b] ∧ Exa Z h a1 "com/example/muniment_room/munimentroom/categorizer/Columns" ∧ Fld Z h a1 "com/example/muniment_room/munimentroom/categorizer/Columns" "width" "I" (.int w1) ∧ Fld Z h a1 "com/example/muniment_room/munimentroom/categorizer/Columns" "rows" "I" (.int (1 : Int32)) ∧ Fld Z h a1 "com/example/muniment_room/munimentroom/categorizer/Columns" "blocks" "[[I" (.ref b) ∧ ∃ (c : Addr) (kc : ClassId), n0 ≤ c ∧ h0.size ≤ c ∧ Arv Z h b kb (.array .int) (1 : Int32) [(.ref c)] .null ∧ Arv Z h c kc .int ((1024 : Int32) * w1) [] (.int (0 : Int32))
theorem d3_0 : decode prog_8_method_3_code 0 = .ok (.aload_n 0, 1) := by decide +kernel
theorem d3_1 : decode prog_8_method_3_code 1 = .ok (.getfield 19, 3) := by decide +kernel
theorem d3_4 : decode prog_8_method_3_code 4 = .ok (.sipush 1023, 3) := by decide +kernel
theorem d3_7 : decode prog_8_method_3_code 7 = .ok (.iand, 1) := by decide +kernel
theorem d3_8 : decode prog_8_method_3_code 8 = .ok (.ifCond .ne 53, 3) := by decide +kernel
theorem d3_11 : decode prog_8_method_3_code 11 = .ok (.aload_n 0, 1) := by decide +kernel
theorem d3_12 : decode prog_8_method_3_code 12 = .ok (.getfield 19, 3) := by decide +kernel
theorem d3_15 : decode prog_8_method_3_code 15 = .ok (.bipush 10, 2) := by decide +kernel
theorem d3_17 : decode prog_8_method_3_code 17 = .ok (.iushr, 1) := by decide +kernel
theorem d3_18 : decode prog_8_method_3_code 18 = .ok (.istore_n 1, 1) := by decide +kernel
theorem d3_19 : decode prog_8_method_3_code 19 = .ok (.iload_n 1, 1) := by decide +kernel
theorem d3_20 : decode prog_8_method_3_code 20 = .ok (.aload_n 0, 1) := by decide +kernel
theorem d3_21 : decode prog_8_method_3_code 21 = .ok (.getfield 11, 3) := by decide +kernel
theorem d3_24 : decode prog_8_method_3_code 24 = .ok (.arraylength, 1) := by decide +kernel
theorem d3_25 : decode prog_8_method_3_code 25 = .ok (.if_icmp .ne 20, 3) := by decide +kernel
theorem d3_45 : decode prog_8_method_3_code 45 = .ok (.aload_n 0, 1) := by decide +kernel
theorem d3_46 : decode prog_8_method_3_code 46 = .ok (.getfield 11, 3) := by decide +kernel
theorem d3_49 : decode prog_8_method_3_code 49 = .ok (.iload_n 1, 1) := by decide +kernel
theorem d3_50 : decode prog_8_method_3_code 50 = .ok (.sipush 1024, 3) := by decide +kernel
theorem d3_53 : decode prog_8_method_3_code 53 = .ok (.aload_n 0, 1) := by decide +kernel
theorem d3_54 : decode prog_8_method_3_code 54 = .ok (.getfield 15, 3) := by decide +kernel
theorem d3_57 : decode prog_8_method_3_code 57 = .ok (.imul, 1) := by decide +kernel
theorem d3_58 : decode prog_8_method_3_code 58 = .ok (.newarray .int, 2) := by decide +kernel
theorem d3_60 : decode prog_8_method_3_code 60 = .ok (.aastore, 1) := by decide +kernel
theorem d3_61 : decode prog_8_method_3_code 61 = .ok (.aload_n 0, 1) := by decide +kernel
theorem d3_62 : decode prog_8_method_3_code 62 = .ok (.dup, 1) := by decide +kernel
theorem d3_63 : decode prog_8_method_3_code 63 = .ok (.getfield 19, 3) := by decide +kernel
theorem d3_66 : decode prog_8_method_3_code 66 = .ok (.dup_x1, 1) := by decide +kernel
theorem d3_67 : decode prog_8_method_3_code 67 = .ok (.iconst 1, 1) := by decide +kernel
theorem d3_68 : decode prog_8_method_3_code 68 = .ok (.iadd, 1) := by decide +kernel
theorem d3_69 : decode prog_8_method_3_code 69 = .ok (.putfield 19, 3) := by decide +kernel
theorem d3_72 : decode prog_8_method_3_code 72 = .ok (.ireturn, 1) := by decide +kernel
theorem pn_rmA0 : plainName "com/example/muniment_room/munimentroom/categorizer/Columns" = true := by first | (simp [plainName, overriddenIn]; done) | decide +kernel
theorem ef_rmA0 (m : MethodId) (a1 : Addr) : entryFrame m #[(.ref a1)] 2 = mkF m 0 #[.val (.ref a1), .unset] [] := by first | (simp [entryFrame, mkF, argsToLocals, Value.category]; done) | rfl
set_option maxRecDepth 65536 in
set_option maxHeartbeats 40000000 in
theorem rmA0 (l : Launch) (Z : State) (a0 : Array Value) (hw : ∀ d ∈ tables_1, d.before a0 Z = true) (ws : List Jvm.Cond) (a1 b : Addr) (kb : ClassId) (w1 : Int32) (h0 : Heap) (n0 : Nat) (Z0 : n0 ≤ h0.size) (E_a1 : Exa Z h0 a1 "com/example/muniment_room/munimentroom/categorizer/Columns") (F_w : Fld Z h0 a1 "com/example/muniment_room/munimentroom/categorizer/Columns" "width" "I" (.int w1)) (F_b : Fld Z h0 a1 "com/example/muniment_room/munimentroom/categorizer/Columns" "blocks" "[[I" (.ref b)) (F_r : Fld Z h0 a1 "com/example/muniment_room/munimentroom/categorizer/Columns" "rows" "I" (.int (0 : Int32))) (V_b : Arv Z h0 b kb (.array .int) (1 : Int32) [.null] .null) (O_b : OvrA Z kb .int "[I") (g_a1 : n0 ≤ a1) (g_b : n0 ≤ b) (hne : a1 ≠ b) (hw1 : w1 = 1 ∨ w1 = 2 ∨ w1 = 3 ∨ w1 = 4) :
    MetFree l (⟨"com/example/muniment_room/munimentroom/categorizer/Columns", "add", "()I"⟩ : MethodName) (head1 (Jvm.Cond.code (⟨"com/example/muniment_room/munimentroom/categorizer/Columns", "add", "()I"⟩ : MethodName) prog_8_method_3_code 2 (some .int) :: ws) ({ frames := 0, cells := 1, slots := 4096, locals := 0 } : Room)) (fun a U => a = #[(.ref a1)] ∧ Z.Warmed39 U.vm ∧ U.heap = h0) (fun _ _ _ _ _ => True) (fun _ U o U' => ∃ v L, o = .returned v ∧ QA Z a1 b kb w1 h0 n0 v U'.heap L ∧ FrameEnd U o U' L ({ frames := 0, cells := 1, slots := 4096, locals := 0 } : Room).cells ({ frames := 0, cells := 1, slots := 4096, locals := 0 } : Room).slots) := by
  refine MetFree.of_bodySF (plainFor_of_name pn_rmA0) hisR ?_
  intro p e s m args below meth c s₁ Bd hml0 hP hK
  obtain ⟨rfl, hZ, hh⟩ := hP
  have hx := Bd.exec
  have hby := Bd.bytes
  have hml : c.maxLocals = 2 := hml0
  have hown : s.vm.findClass "com/example/muniment_room/munimentroom/categorizer/Columns" = some m.cls := findClass_of_methodNamed Bd.named
  have hnm := (name_of_methodNamed Bd.named Bd.method).1
  have X0 : Stand p l e ({ frames := 0, cells := 1, slots := 4096, locals := 0 } : Room) s m #[(.ref a1)] below meth c s₁ [] 0 0 := Stand.of_body Bd
  have e0 : s₁.heap = h0 := by rw [← hh, Bd.state]; rfl
  have N0 := Fr.nil n0
  have pre0 : ∀ tt, Steps p.tables e below (s₁.setTop (mkF m 0 #[.val (.ref a1), .unset] [])) tt → Steps p.tables e below (s₁.setTop (entryFrame m #[(.ref a1)] 2)) tt := fun tt kt => castTop (ef_rmA0 m a1) kt
  obtain ⟨T1, X1, e1, st1⟩ := getF X0 hx hZ hown (host := "") (Or.inl (hw _ (List.mem_of_getElem? (i := 21) rfl))) Via.refl e0 F_r (g := (mkF m 1 #[.val (.ref a1), .unset] [(.ref a1)])) rfl rfl (hb hby d3_1)
  obtain ⟨T2, X2, e2, st2⟩ := getF X1 hx hZ hown (host := "") (Or.inl (hw _ (List.mem_of_getElem? (i := 21) rfl))) Via.refl e1 F_r (g := (mkF m 12 #[.val (.ref a1), .unset] [(.ref a1)])) rfl rfl (hb hby d3_12)
  obtain ⟨T3, X3, e3, st3⟩ := getF X2 hx hZ hown (host := "") (Or.inl (hw _ (List.mem_of_getElem? (i := 12) rfl))) Via.refl e2 F_b (g := (mkF m 21 #[.val (.ref a1), .val (.int (0 : Int32))] [(.ref a1), (.int (0 : Int32))])) rfl rfl (hb hby d3_21)
  have VO4 := V_b
  obtain ⟨cl4, Ar4, q4, S4, M4, H4, G4⟩ := VO4
  obtain ⟨T5, X5, e5, st5⟩ := getF X3 hx hZ hown (host := "") (Or.inl (hw _ (List.mem_of_getElem? (i := 12) rfl))) Via.refl e3 F_b (g := (mkF m 46 #[.val (.ref a1), .val (.int (0 : Int32))] [(.ref a1)])) rfl rfl (hb hby d3_46)
  obtain ⟨T6, X6, e6, st6⟩ := getF X5 hx hZ hown (host := "") (Or.inl (hw _ (List.mem_of_getElem? (i := 14) rfl))) Via.refl e5 F_w (g := (mkF m 54 #[.val (.ref a1), .val (.int (0 : Int32))] [(.ref a1), (.int (1024 : Int32)), (.int (0 : Int32)), (.ref b)])) rfl rfl (hb hby d3_54)
  obtain ⟨T7, h7, k7, X7, e7, E7, A7, EE7, st7⟩ := newPE X6 hx hZ (hw _ (List.mem_of_getElem? (i := 23) rfl)) e6 (g := (mkF m 58 #[.val (.ref a1), .val (.int (0 : Int32))] [(.int ((1024 : Int32) * w1)), (.int (0 : Int32)), (.ref b)])) rfl (hb hby d3_58) rfl (own_cap w1 hw1).1 (cap := 4096) (own_cap w1 hw1).2 (by decide) (by decide) (by decide) (ad := "[I") (by decide)
  obtain ⟨b7, g7⟩ : ∃ z, z = h0.size := ⟨_, rfl⟩
  rw [← g7] at A7 EE7 st7
  have g_b7 : n0 ≤ b7 := Nat.le_trans Z0 (Nat.le_of_eq g7.symm)
  have sz_b7 : h0.size ≤ b7 := Nat.le_trans ((Keep.refl h0 [a1, b])).1 (Nat.le_of_eq g7.symm)
  have K7 : Keep h0 h7 [a1, b] := ((Keep.refl h0 [a1, b])).ext E7
  have V_b7 : Arv Z h7 b7 k7 .int ((1024 : Int32) * w1) [] (.int (0 : Int32)) := Arv.new A7 (own_cap w1 hw1).1
  have VO8 := (V_b.ext E7)
  obtain ⟨cl8, Ar8, q8, S8, M8, H8, G8⟩ := VO8
  have hin8 : ¬ ((0 : Int32) < 0 ∨ cl8.slots.size ≤ ((0 : Int32)).toNatClampNeg) := inb_of S8 ⟨by decide, by decide⟩
  obtain ⟨T9, h9, X9, e9, W9, st9⟩ := stR X7 hx hZ e7 Ar8 (j := (0 : Int32)) hin8 rfl (Sto.ofVA Ar8 q8 O_b (Ins.self EE7)) (g := (mkF m 60 #[.val (.ref a1), .val (.int (0 : Int32))] [(.ref b7), (.int (0 : Int32)), (.ref b)])) rfl rfl (hb hby d3_60)
  have N9 := Fr.snoc X9 N0 g_b
  have K9 : Keep h0 h9 [a1, b] := (K7).wr W9 (Or.inl (List.mem_of_getElem? (i := 1) rfl))
  have V9 : Arv Z h9 b kb (.array .int) (1 : Int32) [(.ref b7)] .null := Arv.set Ar8 q8 S8 M8 H8 G8 rfl W9 0 rfl (Nat.le_of_ble_eq_true rfl)
  obtain ⟨T10, X10, e10, st10⟩ := getF X9 hx hZ hown (host := "") (Or.inl (hw _ (List.mem_of_getElem? (i := 21) rfl))) Via.refl e9 (Fld.other W9 (Fld.ext E7 F_r) (Or.inl hne)) (g := (mkF m 63 #[.val (.ref a1), .val (.int (0 : Int32))] [(.ref a1), (.ref a1)])) rfl rfl (hb hby d3_63)
  obtain ⟨T11, h11, X11, e11, W11, st11⟩ := putF X10 hx hZ hown (host := "") (Or.inl (hw _ (List.mem_of_getElem? (i := 21) rfl))) Via.refl e10 (Fld.other W9 (Fld.ext E7 F_r) (Or.inl hne)) (Exa.wr W9 (Exa.ext E7 E_a1)) (Or.inl (hw _ (List.mem_of_getElem? (i := 22) rfl))) (hw _ (List.mem_of_getElem? (i := 2) rfl)) (ty := .int) (by decide) rfl rfl (g := (mkF m 69 #[.val (.ref a1), .val (.int (0 : Int32))] [(.int (1 : Int32)), (.ref a1), (.int (0 : Int32))])) rfl rfl (hb hby d3_69)
  have Fw11 := Fld.same W11 (Fld.other W9 (Fld.ext E7 F_r) (Or.inl hne))
  have N11 := Fr.snoc X11 N9 g_a1
  have K11 : Keep h0 h11 [a1, b] := (K9).wr W11 (Or.inl (List.mem_of_getElem? (i := 0) rfl))
  have pre12 : ∀ tt, Steps p.tables e below (T11.setTop (mkF m 72 #[.val (.ref a1), .val (.int (0 : Int32))] [(.int (0 : Int32))])) tt → Steps p.tables e below (s₁.setTop (entryFrame m #[(.ref a1)] 2)) tt := by
    intro tt kt
    refine pre0 tt ?_
    show Steps p.tables e below (s₁.setTop (mkF m 0 #[.val (.ref a1), .unset] [])) _
    refine XS.aloadN X0.here hx rfl (hb hby d3_0) rfl rfl ?_
    show Steps p.tables e below (s₁.setTop (mkF m 1 #[.val (.ref a1), .unset] [(.ref a1)])) _
    refine st1 _ ?_
    show Steps p.tables e below (T1.setTop (mkF m 4 #[.val (.ref a1), .unset] [(.int (0 : Int32))])) _
    refine XS.sipush X1.here hx rfl (hb hby d3_4) ?_
    show Steps p.tables e below (T1.setTop (mkF m 7 #[.val (.ref a1), .unset] [(.int (1023 : Int32)), (.int (0 : Int32))])) _
    refine XS.iand X1.here hx rfl (hb hby d3_7) rfl ?_
    show Steps p.tables e below (T1.setTop (mkF m 8 #[.val (.ref a1), .unset] [(.int (0 : Int32))])) _
    refine XS.ifNo X1.here hx rfl (hb hby d3_8) rfl ((if0 _ _).trans (teq (rfl : (0 : Int32) = (0 : Int32))).2) ?_
    show Steps p.tables e below (T1.setTop (mkF m 11 #[.val (.ref a1), .unset] [])) _
    refine XS.aloadN X1.here hx rfl (hb hby d3_11) rfl rfl ?_
    show Steps p.tables e below (T1.setTop (mkF m 12 #[.val (.ref a1), .unset] [(.ref a1)])) _
    refine st2 _ ?_
    show Steps p.tables e below (T2.setTop (mkF m 15 #[.val (.ref a1), .unset] [(.int (0 : Int32))])) _
    refine XS.bipush X2.here hx rfl (hb hby d3_15) ?_
    show Steps p.tables e below (T2.setTop (mkF m 17 #[.val (.ref a1), .unset] [(.int (10 : Int32)), (.int (0 : Int32))])) _
    refine XS.iushr X2.here hx rfl (hb hby d3_17) rfl ?_
    show Steps p.tables e below (T2.setTop (mkF m 18 #[.val (.ref a1), .unset] [(.int (0 : Int32))])) _
    refine XS.istoreN X2.here hx rfl (hb hby d3_18) rfl (l' := #[.val (.ref a1), .val (.int (0 : Int32))]) rfl ?_
    show Steps p.tables e below (T2.setTop (mkF m 19 #[.val (.ref a1), .val (.int (0 : Int32))] [])) _
    refine XS.iloadN X2.here hx rfl (hb hby d3_19) rfl ?_
    show Steps p.tables e below (T2.setTop (mkF m 20 #[.val (.ref a1), .val (.int (0 : Int32))] [(.int (0 : Int32))])) _
    refine XS.aloadN X2.here hx rfl (hb hby d3_20) rfl rfl ?_
    show Steps p.tables e below (T2.setTop (mkF m 21 #[.val (.ref a1), .val (.int (0 : Int32))] [(.ref a1), (.int (0 : Int32))])) _
    refine st3 _ ?_
    show Steps p.tables e below (T3.setTop (mkF m 24 #[.val (.ref a1), .val (.int (0 : Int32))] [(.ref b), (.int (0 : Int32))])) _
    refine X3.arraylength hx (by rw [e3]; exact Ar4.1) (State.isArrayOf_alike hZ.alike Ar4.2.1) (g := (mkF m 24 #[.val (.ref a1), .val (.int (0 : Int32))] [(.ref b), (.int (0 : Int32))])) rfl rfl (hb hby d3_24) _ ?_
    rw [len_of S4 M4]
    show Steps p.tables e below (T3.setTop (mkF m 25 #[.val (.ref a1), .val (.int (0 : Int32))] [(.int (1 : Int32)), (.int (0 : Int32))])) _
    refine XS.icmpYes X3.here hx rfl (pc0 := 25) (pc' := 45) rfl (hb hby d3_25) rfl (feq (by decide : ¬ ((0 : Int32) = (1 : Int32)))).2 (by decide) (by decide) ?_
    show Steps p.tables e below (T3.setTop (mkF m 45 #[.val (.ref a1), .val (.int (0 : Int32))] [])) _
    refine XS.aloadN X3.here hx rfl (hb hby d3_45) rfl rfl ?_
    show Steps p.tables e below (T3.setTop (mkF m 46 #[.val (.ref a1), .val (.int (0 : Int32))] [(.ref a1)])) _
    refine st5 _ ?_
    show Steps p.tables e below (T5.setTop (mkF m 49 #[.val (.ref a1), .val (.int (0 : Int32))] [(.ref b)])) _
    refine XS.iloadN X5.here hx rfl (hb hby d3_49) rfl ?_
    show Steps p.tables e below (T5.setTop (mkF m 50 #[.val (.ref a1), .val (.int (0 : Int32))] [(.int (0 : Int32)), (.ref b)])) _
    refine XS.sipush X5.here hx rfl (hb hby d3_50) ?_
    show Steps p.tables e below (T5.setTop (mkF m 53 #[.val (.ref a1), .val (.int (0 : Int32))] [(.int (1024 : Int32)), (.int (0 : Int32)), (.ref b)])) _
    refine XS.aloadN X5.here hx rfl (hb hby d3_53) rfl rfl ?_
    show Steps p.tables e below (T5.setTop (mkF m 54 #[.val (.ref a1), .val (.int (0 : Int32))] [(.ref a1), (.int (1024 : Int32)), (.int (0 : Int32)), (.ref b)])) _
    refine st6 _ ?_
    show Steps p.tables e below (T6.setTop (mkF m 57 #[.val (.ref a1), .val (.int (0 : Int32))] [(.int w1), (.int (1024 : Int32)), (.int (0 : Int32)), (.ref b)])) _
    refine XS.imul X6.here hx rfl (hb hby d3_57) rfl ?_
    show Steps p.tables e below (T6.setTop (mkF m 58 #[.val (.ref a1), .val (.int (0 : Int32))] [(.int ((1024 : Int32) * w1)), (.int (0 : Int32)), (.ref b)])) _
    refine st7 _ ?_
    show Steps p.tables e below (T7.setTop (mkF m 60 #[.val (.ref a1), .val (.int (0 : Int32))] [(.ref b7), (.int (0 : Int32)), (.ref b)])) _
    refine st9 _ ?_
    show Steps p.tables e below (T9.setTop (mkF m 61 #[.val (.ref a1), .val (.int (0 : Int32))] [])) _
    refine XS.aloadN X9.here hx rfl (hb hby d3_61) rfl rfl ?_
    show Steps p.tables e below (T9.setTop (mkF m 62 #[.val (.ref a1), .val (.int (0 : Int32))] [(.ref a1)])) _
    refine XS.dup X9.here hx rfl (hb hby d3_62) rfl rfl ?_
    show Steps p.tables e below (T9.setTop (mkF m 63 #[.val (.ref a1), .val (.int (0 : Int32))] [(.ref a1), (.ref a1)])) _
    refine st10 _ ?_
    show Steps p.tables e below (T10.setTop (mkF m 66 #[.val (.ref a1), .val (.int (0 : Int32))] [(.int (0 : Int32)), (.ref a1)])) _
    refine XS.dupX1 X10.here hx rfl (hb hby d3_66) rfl rfl rfl ?_
    show Steps p.tables e below (T10.setTop (mkF m 67 #[.val (.ref a1), .val (.int (0 : Int32))] [(.int (0 : Int32)), (.ref a1), (.int (0 : Int32))])) _
    refine XS.iconst X10.here hx rfl (hb hby d3_67) ?_
    show Steps p.tables e below (T10.setTop (mkF m 68 #[.val (.ref a1), .val (.int (0 : Int32))] [(.int (1 : Int32)), (.int (0 : Int32)), (.ref a1), (.int (0 : Int32))])) _
    refine XS.iadd X10.here hx rfl (hb hby d3_68) rfl ?_
    show Steps p.tables e below (T10.setTop (mkF m 69 #[.val (.ref a1), .val (.int (0 : Int32))] [(.int (1 : Int32)), (.ref a1), (.int (0 : Int32))])) _
    refine st11 _ ?_
    exact kt
  obtain ⟨fs, hr, hrun, hended, hW, hsame⟩ := X11.leave (v := some (.int (0 : Int32))) (fun h => by rw [Bd.returns] at h; cases h)
  refine ⟨_, _, pre12 _ ?_, hrun, hended, _, _, rfl, ?_, ⟨_, rfl⟩, hW, hsame.mono (by decide) (by decide)⟩
  · show Steps p.tables e below (T11.setTop (mkF m 72 #[.val (.ref a1), .val (.int (0 : Int32))] [(.int (0 : Int32))])) _
    exact retI X11 hx Bd.returns (hb hby d3_72) hr
  · show QA Z a1 b kb w1 h0 n0 _ T11.heap _
    rw [e11]
    exact ⟨rfl, N11, K11, (Exa.wr W11 (Exa.wr W9 (Exa.ext E7 E_a1))), (Fld.other W11 (Fld.other W9 (Fld.ext E7 F_w) (Or.inl hne)) (Or.inr (slot_ne (Or.inr (hw _ (List.mem_of_getElem? (i := 15) rfl))) (Or.inl (hw _ (List.mem_of_getElem? (i := 22) rfl))) (by decide) (t := .int) (t' := .int) (by decide) (by decide)))), Fw11, (Fld.other W11 (Fld.other W9 (Fld.ext E7 F_b) (Or.inl hne)) (Or.inr (slot_ne (Or.inl (hw _ (List.mem_of_getElem? (i := 13) rfl))) (Or.inl (hw _ (List.mem_of_getElem? (i := 22) rfl))) (by decide) (t := (.array (.array .int))) (t' := .int) (by decide) (by decide)))), b7, k7, g_b7, sz_b7, (V9.other W11 (Ne.symm hne)), ((V_b7.other W9 (Ne.symm (Nat.ne_of_lt (Nat.lt_of_lt_of_le (V_b).lt (Nat.le_of_eq g7.symm))))).other W11 (Ne.symm (Nat.ne_of_lt (Nat.lt_of_lt_of_le (F_w).lt (Nat.le_of_eq g7.symm)))))⟩
def QA1 (Z : State) (a1 b : Addr) (w1 r1 r2 : Int32) (h0 : Heap) (n0 : Nat) (v : Option Value) (h : Heap) (L : List Loc) : Prop := v = some (.int r1) ∧ Fr n0 L ∧ Keep h0 h [a1] ∧ Exa Z h a1 "com/example/muniment_room/munimentroom/categorizer/Columns" ∧ Fld Z h a1 "com/example/muniment_room/munimentroom/categorizer/Columns" "width" "I" (.int w1) ∧ Fld Z h a1 "com/example/muniment_room/munimentroom/categorizer/Columns" "rows" "I" (.int r2) ∧ Fld Z h a1 "com/example/muniment_room/munimentroom/categorizer/Columns" "blocks" "[[I" (.ref b)
theorem pn_rmA1 : plainName "com/example/muniment_room/munimentroom/categorizer/Columns" = true := by first | (simp [plainName, overriddenIn]; done) | decide +kernel
theorem ef_rmA1 (m : MethodId) (a1 : Addr) : entryFrame m #[(.ref a1)] 2 = mkF m 0 #[.val (.ref a1), .unset] [] := by first | (simp [entryFrame, mkF, argsToLocals, Value.category]; done) | rfl
set_option maxRecDepth 65536 in
set_option maxHeartbeats 40000000 in
theorem rmA1 (l : Launch) (Z : State) (a0 : Array Value) (hw : ∀ d ∈ tables_1, d.before a0 Z = true) (ws : List Jvm.Cond) (a1 b : Addr) (w1 r1 r2 : Int32) (h0 : Heap) (n0 : Nat) (Z0 : n0 ≤ h0.size) (E_a1 : Exa Z h0 a1 "com/example/muniment_room/munimentroom/categorizer/Columns") (F_w : Fld Z h0 a1 "com/example/muniment_room/munimentroom/categorizer/Columns" "width" "I" (.int w1)) (F_b : Fld Z h0 a1 "com/example/muniment_room/munimentroom/categorizer/Columns" "blocks" "[[I" (.ref b)) (F_r : Fld Z h0 a1 "com/example/muniment_room/munimentroom/categorizer/Columns" "rows" "I" (.int r1)) (g_a1 : n0 ≤ a1) (hr1 : ¬ ((r1 &&& (1023 : Int32)) = (0 : Int32))) (hr2 : r1 + (1 : Int32) = r2) :
    MetFree l (⟨"com/example/muniment_room/munimentroom/categorizer/Columns", "add", "()I"⟩ : MethodName) (head1 (Jvm.Cond.code (⟨"com/example/muniment_room/munimentroom/categorizer/Columns", "add", "()I"⟩ : MethodName) prog_8_method_3_code 2 (some .int) :: ws) ({ frames := 0, cells := 0, slots := 0, locals := 0 } : Room)) (fun a U => a = #[(.ref a1)] ∧ Z.Warmed39 U.vm ∧ U.heap = h0) (fun _ _ _ _ _ => True) (fun _ U o U' => ∃ v L, o = .returned v ∧ QA1 Z a1 b w1 r1 r2 h0 n0 v U'.heap L ∧ FrameEnd U o U' L ({ frames := 0, cells := 0, slots := 0, locals := 0 } : Room).cells ({ frames := 0, cells := 0, slots := 0, locals := 0 } : Room).slots) := by
  refine MetFree.of_bodySF (plainFor_of_name pn_rmA1) hisR ?_
  intro p e s m args below meth c s₁ Bd hml0 hP hK
  obtain ⟨rfl, hZ, hh⟩ := hP
  have hx := Bd.exec
  have hby := Bd.bytes
  have hml : c.maxLocals = 2 := hml0
  have hown : s.vm.findClass "com/example/muniment_room/munimentroom/categorizer/Columns" = some m.cls := findClass_of_methodNamed Bd.named
  have hnm := (name_of_methodNamed Bd.named Bd.method).1
  have X0 : Stand p l e ({ frames := 0, cells := 0, slots := 0, locals := 0 } : Room) s m #[(.ref a1)] below meth c s₁ [] 0 0 := Stand.of_body Bd
  have e0 : s₁.heap = h0 := by rw [← hh, Bd.state]; rfl
  have N0 := Fr.nil n0
  have pre0 : ∀ tt, Steps p.tables e below (s₁.setTop (mkF m 0 #[.val (.ref a1), .unset] [])) tt → Steps p.tables e below (s₁.setTop (entryFrame m #[(.ref a1)] 2)) tt := fun tt kt => castTop (ef_rmA1 m a1) kt
  obtain ⟨T1, X1, e1, st1⟩ := getF X0 hx hZ hown (host := "") (Or.inl (hw _ (List.mem_of_getElem? (i := 21) rfl))) Via.refl e0 F_r (g := (mkF m 1 #[.val (.ref a1), .unset] [(.ref a1)])) rfl rfl (hb hby d3_1)
  obtain ⟨T2, X2, e2, st2⟩ := getF X1 hx hZ hown (host := "") (Or.inl (hw _ (List.mem_of_getElem? (i := 21) rfl))) Via.refl e1 F_r (g := (mkF m 63 #[.val (.ref a1), .unset] [(.ref a1), (.ref a1)])) rfl rfl (hb hby d3_63)
  obtain ⟨T3, h3, X3, e3, W3, st3⟩ := putF X2 hx hZ hown (host := "") (Or.inl (hw _ (List.mem_of_getElem? (i := 21) rfl))) Via.refl e2 F_r E_a1 (Or.inl (hw _ (List.mem_of_getElem? (i := 22) rfl))) (hw _ (List.mem_of_getElem? (i := 2) rfl)) (ty := .int) (by decide) rfl rfl (g := (mkF m 69 #[.val (.ref a1), .unset] [(.int r2), (.ref a1), (.int r1)])) rfl rfl (hb hby d3_69)
  have Fw3 := Fld.same W3 F_r
  have N3 := Fr.snoc X3 N0 g_a1
  have K3 : Keep h0 h3 [a1] := ((Keep.refl h0 [a1])).wr W3 (Or.inl (List.mem_of_getElem? (i := 0) rfl))
  have pre4 : ∀ tt, Steps p.tables e below (T3.setTop (mkF m 72 #[.val (.ref a1), .unset] [(.int r1)])) tt → Steps p.tables e below (s₁.setTop (entryFrame m #[(.ref a1)] 2)) tt := by
    intro tt kt
    refine pre0 tt ?_
    show Steps p.tables e below (s₁.setTop (mkF m 0 #[.val (.ref a1), .unset] [])) _
    refine XS.aloadN X0.here hx rfl (hb hby d3_0) rfl rfl ?_
    show Steps p.tables e below (s₁.setTop (mkF m 1 #[.val (.ref a1), .unset] [(.ref a1)])) _
    refine st1 _ ?_
    show Steps p.tables e below (T1.setTop (mkF m 4 #[.val (.ref a1), .unset] [(.int r1)])) _
    refine XS.sipush X1.here hx rfl (hb hby d3_4) ?_
    show Steps p.tables e below (T1.setTop (mkF m 7 #[.val (.ref a1), .unset] [(.int (1023 : Int32)), (.int r1)])) _
    refine XS.iand X1.here hx rfl (hb hby d3_7) rfl ?_
    show Steps p.tables e below (T1.setTop (mkF m 8 #[.val (.ref a1), .unset] [(.int (r1 &&& (1023 : Int32)))])) _
    refine XS.ifYes X1.here hx rfl (pc0 := 8) (pc' := 61) rfl (hb hby d3_8) rfl ((if0 _ _).trans (feq hr1).2) (by decide) (by decide) ?_
    show Steps p.tables e below (T1.setTop (mkF m 61 #[.val (.ref a1), .unset] [])) _
    refine XS.aloadN X1.here hx rfl (hb hby d3_61) rfl rfl ?_
    show Steps p.tables e below (T1.setTop (mkF m 62 #[.val (.ref a1), .unset] [(.ref a1)])) _
    refine XS.dup X1.here hx rfl (hb hby d3_62) rfl rfl ?_
    show Steps p.tables e below (T1.setTop (mkF m 63 #[.val (.ref a1), .unset] [(.ref a1), (.ref a1)])) _
    refine st2 _ ?_
    show Steps p.tables e below (T2.setTop (mkF m 66 #[.val (.ref a1), .unset] [(.int r1), (.ref a1)])) _
    refine XS.dupX1 X2.here hx rfl (hb hby d3_66) rfl rfl rfl ?_
    show Steps p.tables e below (T2.setTop (mkF m 67 #[.val (.ref a1), .unset] [(.int r1), (.ref a1), (.int r1)])) _
    refine XS.iconst X2.here hx rfl (hb hby d3_67) ?_
    show Steps p.tables e below (T2.setTop (mkF m 68 #[.val (.ref a1), .unset] [(.int (1 : Int32)), (.int r1), (.ref a1), (.int r1)])) _
    refine XS.iadd X2.here hx rfl (hb hby d3_68) rfl ?_
    show Steps p.tables e below (T2.setTop (mkF m 69 #[.val (.ref a1), .unset] [(.int (r1 + (1 : Int32))), (.ref a1), (.int r1)])) _
    rw [hr2]
    show Steps p.tables e below (T2.setTop (mkF m 69 #[.val (.ref a1), .unset] [(.int r2), (.ref a1), (.int r1)])) _
    refine st3 _ ?_
    exact kt
  obtain ⟨fs, hr, hrun, hended, hW, hsame⟩ := X3.leave (v := some (.int r1)) (fun h => by rw [Bd.returns] at h; cases h)
  refine ⟨_, _, pre4 _ ?_, hrun, hended, _, _, rfl, ?_, ⟨_, rfl⟩, hW, hsame.mono (by decide) (by decide)⟩
  · show Steps p.tables e below (T3.setTop (mkF m 72 #[.val (.ref a1), .unset] [(.int r1)])) _
    exact retI X3 hx Bd.returns (hb hby d3_72) hr
  · show QA1 Z a1 b w1 r1 r2 h0 n0 _ T3.heap _
    rw [e3]
    exact ⟨rfl, N3, K3, (Exa.wr W3 E_a1), (Fld.other W3 F_w (Or.inr (slot_ne (Or.inr (hw _ (List.mem_of_getElem? (i := 15) rfl))) (Or.inl (hw _ (List.mem_of_getElem? (i := 22) rfl))) (by decide) (t := .int) (t' := .int) (by decide) (by decide)))), Fw3, (Fld.other W3 F_b (Or.inr (slot_ne (Or.inl (hw _ (List.mem_of_getElem? (i := 13) rfl))) (Or.inl (hw _ (List.mem_of_getElem? (i := 22) rfl))) (by decide) (t := (.array (.array .int))) (t' := .int) (by decide) (by decide))))⟩
def QS (Z : State) (c1 : Addr) (kc : ClassId) (w1 p3 j : Int32) (hs : List (Int32 × Value)) (h0 : Heap) (n0 : Nat) (v : Option Value) (h : Heap) (L : List Loc) : Prop := v = none ∧ Fr n0 L ∧ Keep h0 h [c1] ∧ Arh Z h c1 kc .int ((1024 : Int32) * w1) ((j, .int p3) :: hs) [] (.int (0 : Int32))
theorem d4_0 : decode prog_8_method_5_code 0 = .ok (.aload_n 0, 1) := by decide +kernel
theorem d4_1 : decode prog_8_method_5_code 1 = .ok (.getfield 11, 3) := by decide +kernel
theorem d4_4 : decode prog_8_method_5_code 4 = .ok (.iload_n 1, 1) := by decide +kernel
theorem d4_5 : decode prog_8_method_5_code 5 = .ok (.bipush 10, 2) := by decide +kernel
theorem d4_7 : decode prog_8_method_5_code 7 = .ok (.iushr, 1) := by decide +kernel
theorem d4_8 : decode prog_8_method_5_code 8 = .ok (.aaload, 1) := by decide +kernel
theorem d4_9 : decode prog_8_method_5_code 9 = .ok (.iload_n 1, 1) := by decide +kernel
theorem d4_10 : decode prog_8_method_5_code 10 = .ok (.sipush 1023, 3) := by decide +kernel
theorem d4_13 : decode prog_8_method_5_code 13 = .ok (.iand, 1) := by decide +kernel
theorem d4_14 : decode prog_8_method_5_code 14 = .ok (.aload_n 0, 1) := by decide +kernel
theorem d4_15 : decode prog_8_method_5_code 15 = .ok (.getfield 15, 3) := by decide +kernel
theorem d4_18 : decode prog_8_method_5_code 18 = .ok (.imul, 1) := by decide +kernel
theorem d4_19 : decode prog_8_method_5_code 19 = .ok (.iload_n 2, 1) := by decide +kernel
theorem d4_20 : decode prog_8_method_5_code 20 = .ok (.iadd, 1) := by decide +kernel
theorem d4_21 : decode prog_8_method_5_code 21 = .ok (.iload_n 3, 1) := by decide +kernel
theorem d4_22 : decode prog_8_method_5_code 22 = .ok (.iastore, 1) := by decide +kernel
theorem d4_23 : decode prog_8_method_5_code 23 = .ok (.return_, 1) := by decide +kernel
theorem pn_rmS : plainName "com/example/muniment_room/munimentroom/categorizer/Columns" = true := by first | (simp [plainName, overriddenIn]; done) | decide +kernel
theorem ef_rmS (m : MethodId) (a1 : Addr) (p1 : Int32) (p2 : Int32) (p3 : Int32) : entryFrame m #[(.ref a1), (.int p1), (.int p2), (.int p3)] 4 = mkF m 0 #[.val (.ref a1), .val (.int p1), .val (.int p2), .val (.int p3)] [] := by first | (simp [entryFrame, mkF, argsToLocals, Value.category]; done) | rfl
set_option maxRecDepth 65536 in
set_option maxHeartbeats 40000000 in
theorem rmS (l : Launch) (Z : State) (a0 : Array Value) (hw : ∀ d ∈ tables_1, d.before a0 Z = true) (ws : List Jvm.Cond) (a1 b c1 : Addr) (kb kc : ClassId) (w1 p1 p2 p3 j : Int32) (hs : List (Int32 × Value)) (h0 : Heap) (n0 : Nat) (Z0 : n0 ≤ h0.size) (F_w : Fld Z h0 a1 "com/example/muniment_room/munimentroom/categorizer/Columns" "width" "I" (.int w1)) (F_b : Fld Z h0 a1 "com/example/muniment_room/munimentroom/categorizer/Columns" "blocks" "[[I" (.ref b)) (V_b : Arv Z h0 b kb (.array .int) (1 : Int32) [(.ref c1)] .null) (V_c : Arh Z h0 c1 kc .int ((1024 : Int32) * w1) hs [] (.int (0 : Int32))) (hsh : ((p1.toUInt32 >>> ((10 : Int32) &&& 31).toUInt32).toInt32) = (0 : Int32)) (hj : (((p1 &&& (1023 : Int32)) * w1) + p2) = j) (hin : ¬ j < 0 ∧ j < ((1024 : Int32) * w1)) (g_c1 : n0 ≤ c1) :
    MetFree l (⟨"com/example/muniment_room/munimentroom/categorizer/Columns", "set", "(III)V"⟩ : MethodName) (head1 (Jvm.Cond.code (⟨"com/example/muniment_room/munimentroom/categorizer/Columns", "set", "(III)V"⟩ : MethodName) prog_8_method_5_code 4 none :: ws) ({ frames := 0, cells := 0, slots := 0, locals := 0 } : Room)) (fun a U => a = #[(.ref a1), (.int p1), (.int p2), (.int p3)] ∧ Z.Warmed39 U.vm ∧ U.heap = h0) (fun _ _ _ _ _ => True) (fun _ U o U' => ∃ v L, o = .returned v ∧ QS Z c1 kc w1 p3 j hs h0 n0 v U'.heap L ∧ FrameEnd U o U' L ({ frames := 0, cells := 0, slots := 0, locals := 0 } : Room).cells ({ frames := 0, cells := 0, slots := 0, locals := 0 } : Room).slots) := by
  refine MetFree.of_bodySF (plainFor_of_name pn_rmS) hisR ?_
  intro p e s m args below meth c s₁ Bd hml0 hP hK
  obtain ⟨rfl, hZ, hh⟩ := hP
  have hx := Bd.exec
  have hby := Bd.bytes
  have hml : c.maxLocals = 4 := hml0
  have hown : s.vm.findClass "com/example/muniment_room/munimentroom/categorizer/Columns" = some m.cls := findClass_of_methodNamed Bd.named
  have hnm := (name_of_methodNamed Bd.named Bd.method).1
  have X0 : Stand p l e ({ frames := 0, cells := 0, slots := 0, locals := 0 } : Room) s m #[(.ref a1), (.int p1), (.int p2), (.int p3)] below meth c s₁ [] 0 0 := Stand.of_body Bd
  have e0 : s₁.heap = h0 := by rw [← hh, Bd.state]; rfl
  have N0 := Fr.nil n0
  have pre0 : ∀ tt, Steps p.tables e below (s₁.setTop (mkF m 0 #[.val (.ref a1), .val (.int p1), .val (.int p2), .val (.int p3)] [])) tt → Steps p.tables e below (s₁.setTop (entryFrame m #[(.ref a1), (.int p1), (.int p2), (.int p3)] 4)) tt := fun tt kt => castTop (ef_rmS m a1 p1 p2 p3) kt
  obtain ⟨T1, X1, e1, st1⟩ := getF X0 hx hZ hown (host := "") (Or.inl (hw _ (List.mem_of_getElem? (i := 12) rfl))) Via.refl e0 F_b (g := (mkF m 1 #[.val (.ref a1), .val (.int p1), .val (.int p2), .val (.int p3)] [(.ref a1)])) rfl rfl (hb hby d4_1)
  have VO2 := V_b
  obtain ⟨cl2, Ar2, q2, S2, M2, H2, G2⟩ := VO2
  have hin2 : ¬ ((0 : Int32) < 0 ∨ cl2.slots.size ≤ ((0 : Int32)).toNatClampNeg) := inb_of S2 ⟨by decide, by decide⟩
  have hat2 : cl2.slots[((0 : Int32)).toNatClampNeg]? = some (.ref c1) := H2.at hin2 rfl
  obtain ⟨T3, X3, e3, st3⟩ := getF X1 hx hZ hown (host := "") (Or.inl (hw _ (List.mem_of_getElem? (i := 14) rfl))) Via.refl e1 F_w (g := (mkF m 15 #[.val (.ref a1), .val (.int p1), .val (.int p2), .val (.int p3)] [(.ref a1), (.int (p1 &&& (1023 : Int32))), (.ref c1)])) rfl rfl (hb hby d4_15)
  obtain ⟨cl4, Ar4, q4, S4, M4, H4, G4⟩ := V_c
  have hn4 : ¬ (j < 0 ∨ cl4.slots.size ≤ j.toNatClampNeg) := inb_of S4 hin
  obtain ⟨T5, h5, X5, e5, W5, st5⟩ := stI X3 hx hZ e3 Ar4 (j := j) hn4 (g := (mkF m 22 #[.val (.ref a1), .val (.int p1), .val (.int p2), .val (.int p3)] [(.int p3), (.int j), (.ref c1)])) rfl rfl (hb hby d4_22)
  have N5 := Fr.snoc X5 N0 g_c1
  have K5 : Keep h0 h5 [c1] := ((Keep.refl h0 [c1])).wr W5 (Or.inl (List.mem_of_getElem? (i := 0) rfl))
  have V5 := Arh.push Ar4 q4 S4 M4 H4 G4 rfl W5 hn4
  have pre6 : ∀ tt, Steps p.tables e below (T5.setTop (mkF m 23 #[.val (.ref a1), .val (.int p1), .val (.int p2), .val (.int p3)] [])) tt → Steps p.tables e below (s₁.setTop (entryFrame m #[(.ref a1), (.int p1), (.int p2), (.int p3)] 4)) tt := by
    intro tt kt
    refine pre0 tt ?_
    show Steps p.tables e below (s₁.setTop (mkF m 0 #[.val (.ref a1), .val (.int p1), .val (.int p2), .val (.int p3)] [])) _
    refine XS.aloadN X0.here hx rfl (hb hby d4_0) rfl rfl ?_
    show Steps p.tables e below (s₁.setTop (mkF m 1 #[.val (.ref a1), .val (.int p1), .val (.int p2), .val (.int p3)] [(.ref a1)])) _
    refine st1 _ ?_
    show Steps p.tables e below (T1.setTop (mkF m 4 #[.val (.ref a1), .val (.int p1), .val (.int p2), .val (.int p3)] [(.ref b)])) _
    refine XS.iloadN X1.here hx rfl (hb hby d4_4) rfl ?_
    show Steps p.tables e below (T1.setTop (mkF m 5 #[.val (.ref a1), .val (.int p1), .val (.int p2), .val (.int p3)] [(.int p1), (.ref b)])) _
    refine XS.bipush X1.here hx rfl (hb hby d4_5) ?_
    show Steps p.tables e below (T1.setTop (mkF m 7 #[.val (.ref a1), .val (.int p1), .val (.int p2), .val (.int p3)] [(.int (10 : Int32)), (.int p1), (.ref b)])) _
    refine XS.iushr X1.here hx rfl (hb hby d4_7) rfl ?_
    show Steps p.tables e below (T1.setTop (mkF m 8 #[.val (.ref a1), .val (.int p1), .val (.int p2), .val (.int p3)] [(.int ((p1.toUInt32 >>> ((10 : Int32) &&& 31).toUInt32).toInt32)), (.ref b)])) _
    rw [hsh]
    show Steps p.tables e below (T1.setTop (mkF m 8 #[.val (.ref a1), .val (.int p1), .val (.int p2), .val (.int p3)] [(.int (0 : Int32)), (.ref b)])) _
    refine X1.aaload hx (j := (0 : Int32)) (v := (.ref c1)) (by rw [e1]; exact Ar2.1) (State.isArrayOf_alike hZ.alike Ar2.2.1) rfl Ar2.2.2 hin2 hat2 (g := (mkF m 8 #[.val (.ref a1), .val (.int p1), .val (.int p2), .val (.int p3)] [(.int (0 : Int32)), (.ref b)])) rfl rfl (hb hby d4_8) _ ?_
    show Steps p.tables e below (T1.setTop (mkF m 9 #[.val (.ref a1), .val (.int p1), .val (.int p2), .val (.int p3)] [(.ref c1)])) _
    refine XS.iloadN X1.here hx rfl (hb hby d4_9) rfl ?_
    show Steps p.tables e below (T1.setTop (mkF m 10 #[.val (.ref a1), .val (.int p1), .val (.int p2), .val (.int p3)] [(.int p1), (.ref c1)])) _
    refine XS.sipush X1.here hx rfl (hb hby d4_10) ?_
    show Steps p.tables e below (T1.setTop (mkF m 13 #[.val (.ref a1), .val (.int p1), .val (.int p2), .val (.int p3)] [(.int (1023 : Int32)), (.int p1), (.ref c1)])) _
    refine XS.iand X1.here hx rfl (hb hby d4_13) rfl ?_
    show Steps p.tables e below (T1.setTop (mkF m 14 #[.val (.ref a1), .val (.int p1), .val (.int p2), .val (.int p3)] [(.int (p1 &&& (1023 : Int32))), (.ref c1)])) _
    refine XS.aloadN X1.here hx rfl (hb hby d4_14) rfl rfl ?_
    show Steps p.tables e below (T1.setTop (mkF m 15 #[.val (.ref a1), .val (.int p1), .val (.int p2), .val (.int p3)] [(.ref a1), (.int (p1 &&& (1023 : Int32))), (.ref c1)])) _
    refine st3 _ ?_
    show Steps p.tables e below (T3.setTop (mkF m 18 #[.val (.ref a1), .val (.int p1), .val (.int p2), .val (.int p3)] [(.int w1), (.int (p1 &&& (1023 : Int32))), (.ref c1)])) _
    refine XS.imul X3.here hx rfl (hb hby d4_18) rfl ?_
    show Steps p.tables e below (T3.setTop (mkF m 19 #[.val (.ref a1), .val (.int p1), .val (.int p2), .val (.int p3)] [(.int ((p1 &&& (1023 : Int32)) * w1)), (.ref c1)])) _
    refine XS.iloadN X3.here hx rfl (hb hby d4_19) rfl ?_
    show Steps p.tables e below (T3.setTop (mkF m 20 #[.val (.ref a1), .val (.int p1), .val (.int p2), .val (.int p3)] [(.int p2), (.int ((p1 &&& (1023 : Int32)) * w1)), (.ref c1)])) _
    refine XS.iadd X3.here hx rfl (hb hby d4_20) rfl ?_
    show Steps p.tables e below (T3.setTop (mkF m 21 #[.val (.ref a1), .val (.int p1), .val (.int p2), .val (.int p3)] [(.int (((p1 &&& (1023 : Int32)) * w1) + p2)), (.ref c1)])) _
    rw [hj]
    show Steps p.tables e below (T3.setTop (mkF m 21 #[.val (.ref a1), .val (.int p1), .val (.int p2), .val (.int p3)] [(.int j), (.ref c1)])) _
    refine XS.iloadN X3.here hx rfl (hb hby d4_21) rfl ?_
    show Steps p.tables e below (T3.setTop (mkF m 22 #[.val (.ref a1), .val (.int p1), .val (.int p2), .val (.int p3)] [(.int p3), (.int j), (.ref c1)])) _
    refine st5 _ ?_
    exact kt
  obtain ⟨fs, hr, hrun, hended, hW, hsame⟩ := X5.leave (v := none) (fun _ => rfl)
  refine ⟨_, _, pre6 _ ?_, hrun, hended, _, _, rfl, ?_, ⟨_, rfl⟩, hW, hsame.mono (by decide) (by decide)⟩
  · show Steps p.tables e below (T5.setTop (mkF m 23 #[.val (.ref a1), .val (.int p1), .val (.int p2), .val (.int p3)] [])) _
    exact X5.returnOut hx Bd.returns (hb hby d4_23) hr
  · show QS Z c1 kc w1 p3 j hs h0 n0 _ T5.heap _
    rw [e5]
    exact ⟨rfl, N5, K5, V5⟩
def QI (Z : State) (r : Int32) (h0 : Heap) (n0 : Nat) (v : Option Value) (h : Heap) (L : List Loc) : Prop := v = some (.int r) ∧ Fr n0 L ∧ h = h0
theorem d5_0 : decode prog_8_method_4_code 0 = .ok (.aload_n 0, 1) := by decide +kernel
theorem d5_1 : decode prog_8_method_4_code 1 = .ok (.getfield 11, 3) := by decide +kernel
theorem d5_4 : decode prog_8_method_4_code 4 = .ok (.iload_n 1, 1) := by decide +kernel
theorem d5_5 : decode prog_8_method_4_code 5 = .ok (.bipush 10, 2) := by decide +kernel
theorem d5_7 : decode prog_8_method_4_code 7 = .ok (.iushr, 1) := by decide +kernel
theorem d5_8 : decode prog_8_method_4_code 8 = .ok (.aaload, 1) := by decide +kernel
theorem d5_9 : decode prog_8_method_4_code 9 = .ok (.iload_n 1, 1) := by decide +kernel
theorem d5_10 : decode prog_8_method_4_code 10 = .ok (.sipush 1023, 3) := by decide +kernel
theorem d5_13 : decode prog_8_method_4_code 13 = .ok (.iand, 1) := by decide +kernel
theorem d5_14 : decode prog_8_method_4_code 14 = .ok (.aload_n 0, 1) := by decide +kernel
theorem d5_15 : decode prog_8_method_4_code 15 = .ok (.getfield 15, 3) := by decide +kernel
theorem d5_18 : decode prog_8_method_4_code 18 = .ok (.imul, 1) := by decide +kernel
theorem d5_19 : decode prog_8_method_4_code 19 = .ok (.iload_n 2, 1) := by decide +kernel
theorem d5_20 : decode prog_8_method_4_code 20 = .ok (.iadd, 1) := by decide +kernel
theorem d5_21 : decode prog_8_method_4_code 21 = .ok (.iaload, 1) := by decide +kernel
theorem d5_22 : decode prog_8_method_4_code 22 = .ok (.ireturn, 1) := by decide +kernel
theorem pn_rmG : plainName "com/example/muniment_room/munimentroom/categorizer/Columns" = true := by first | (simp [plainName, overriddenIn]; done) | decide +kernel
theorem ef_rmG (m : MethodId) (a1 : Addr) (p1 : Int32) (p2 : Int32) : entryFrame m #[(.ref a1), (.int p1), (.int p2)] 3 = mkF m 0 #[.val (.ref a1), .val (.int p1), .val (.int p2)] [] := by first | (simp [entryFrame, mkF, argsToLocals, Value.category]; done) | rfl
set_option maxRecDepth 65536 in
set_option maxHeartbeats 40000000 in
theorem rmG (l : Launch) (Z : State) (a0 : Array Value) (hw : ∀ d ∈ tables_1, d.before a0 Z = true) (ws : List Jvm.Cond) (a1 b c1 : Addr) (kb kc : ClassId) (w1 p1 p2 r j : Int32) (hs : List (Int32 × Value)) (h0 : Heap) (n0 : Nat) (Z0 : n0 ≤ h0.size) (F_w : Fld Z h0 a1 "com/example/muniment_room/munimentroom/categorizer/Columns" "width" "I" (.int w1)) (F_b : Fld Z h0 a1 "com/example/muniment_room/munimentroom/categorizer/Columns" "blocks" "[[I" (.ref b)) (V_b : Arv Z h0 b kb (.array .int) (1 : Int32) [(.ref c1)] .null) (V_c : Arh Z h0 c1 kc .int ((1024 : Int32) * w1) hs [] (.int (0 : Int32))) (hsh : ((p1.toUInt32 >>> ((10 : Int32) &&& 31).toUInt32).toInt32) = (0 : Int32)) (hj : (((p1 &&& (1023 : Int32)) * w1) + p2) = j) (hin : ¬ j < 0 ∧ j < ((1024 : Int32) * w1)) (hr0 : getH hs [] (.int (0 : Int32)) j.toNatClampNeg = .int r) :
    MetFree l (⟨"com/example/muniment_room/munimentroom/categorizer/Columns", "get", "(II)I"⟩ : MethodName) (head1 (Jvm.Cond.code (⟨"com/example/muniment_room/munimentroom/categorizer/Columns", "get", "(II)I"⟩ : MethodName) prog_8_method_4_code 3 (some .int) :: ws) ({ frames := 0, cells := 0, slots := 0, locals := 0 } : Room)) (fun a U => a = #[(.ref a1), (.int p1), (.int p2)] ∧ Z.Warmed39 U.vm ∧ U.heap = h0) (fun _ _ _ _ _ => True) (fun _ U o U' => ∃ v L, o = .returned v ∧ QI Z r h0 n0 v U'.heap L ∧ FrameEnd U o U' L ({ frames := 0, cells := 0, slots := 0, locals := 0 } : Room).cells ({ frames := 0, cells := 0, slots := 0, locals := 0 } : Room).slots) := by
  refine MetFree.of_bodySF (plainFor_of_name pn_rmG) hisR ?_
  intro p e s m args below meth c s₁ Bd hml0 hP hK
  obtain ⟨rfl, hZ, hh⟩ := hP
  have hx := Bd.exec
  have hby := Bd.bytes
  have hml : c.maxLocals = 3 := hml0
  have hown : s.vm.findClass "com/example/muniment_room/munimentroom/categorizer/Columns" = some m.cls := findClass_of_methodNamed Bd.named
  have hnm := (name_of_methodNamed Bd.named Bd.method).1
  have X0 : Stand p l e ({ frames := 0, cells := 0, slots := 0, locals := 0 } : Room) s m #[(.ref a1), (.int p1), (.int p2)] below meth c s₁ [] 0 0 := Stand.of_body Bd
  have e0 : s₁.heap = h0 := by rw [← hh, Bd.state]; rfl
  have N0 := Fr.nil n0
  have pre0 : ∀ tt, Steps p.tables e below (s₁.setTop (mkF m 0 #[.val (.ref a1), .val (.int p1), .val (.int p2)] [])) tt → Steps p.tables e below (s₁.setTop (entryFrame m #[(.ref a1), (.int p1), (.int p2)] 3)) tt := fun tt kt => castTop (ef_rmG m a1 p1 p2) kt
  obtain ⟨T1, X1, e1, st1⟩ := getF X0 hx hZ hown (host := "") (Or.inl (hw _ (List.mem_of_getElem? (i := 12) rfl))) Via.refl e0 F_b (g := (mkF m 1 #[.val (.ref a1), .val (.int p1), .val (.int p2)] [(.ref a1)])) rfl rfl (hb hby d5_1)
  have VO2 := V_b
  obtain ⟨cl2, Ar2, q2, S2, M2, H2, G2⟩ := VO2
  have hin2 : ¬ ((0 : Int32) < 0 ∨ cl2.slots.size ≤ ((0 : Int32)).toNatClampNeg) := inb_of S2 ⟨by decide, by decide⟩
  have hat2 : cl2.slots[((0 : Int32)).toNatClampNeg]? = some (.ref c1) := H2.at hin2 rfl
  obtain ⟨T3, X3, e3, st3⟩ := getF X1 hx hZ hown (host := "") (Or.inl (hw _ (List.mem_of_getElem? (i := 14) rfl))) Via.refl e1 F_w (g := (mkF m 15 #[.val (.ref a1), .val (.int p1), .val (.int p2)] [(.ref a1), (.int (p1 &&& (1023 : Int32))), (.ref c1)])) rfl rfl (hb hby d5_15)
  obtain ⟨cl4, Ar4, q4, S4, M4, H4, G4⟩ := V_c
  have hn4 : ¬ (j < 0 ∨ cl4.slots.size ≤ j.toNatClampNeg) := inb_of S4 hin
  have hat4 := atH H4 hn4 hr0
  have pre5 : ∀ tt, Steps p.tables e below (T3.setTop (mkF m 22 #[.val (.ref a1), .val (.int p1), .val (.int p2)] [(.int r)])) tt → Steps p.tables e below (s₁.setTop (entryFrame m #[(.ref a1), (.int p1), (.int p2)] 3)) tt := by
    intro tt kt
    refine pre0 tt ?_
    show Steps p.tables e below (s₁.setTop (mkF m 0 #[.val (.ref a1), .val (.int p1), .val (.int p2)] [])) _
    refine XS.aloadN X0.here hx rfl (hb hby d5_0) rfl rfl ?_
    show Steps p.tables e below (s₁.setTop (mkF m 1 #[.val (.ref a1), .val (.int p1), .val (.int p2)] [(.ref a1)])) _
    refine st1 _ ?_
    show Steps p.tables e below (T1.setTop (mkF m 4 #[.val (.ref a1), .val (.int p1), .val (.int p2)] [(.ref b)])) _
    refine XS.iloadN X1.here hx rfl (hb hby d5_4) rfl ?_
    show Steps p.tables e below (T1.setTop (mkF m 5 #[.val (.ref a1), .val (.int p1), .val (.int p2)] [(.int p1), (.ref b)])) _
    refine XS.bipush X1.here hx rfl (hb hby d5_5) ?_
    show Steps p.tables e below (T1.setTop (mkF m 7 #[.val (.ref a1), .val (.int p1), .val (.int p2)] [(.int (10 : Int32)), (.int p1), (.ref b)])) _
    refine XS.iushr X1.here hx rfl (hb hby d5_7) rfl ?_
    show Steps p.tables e below (T1.setTop (mkF m 8 #[.val (.ref a1), .val (.int p1), .val (.int p2)] [(.int ((p1.toUInt32 >>> ((10 : Int32) &&& 31).toUInt32).toInt32)), (.ref b)])) _
    rw [hsh]
    show Steps p.tables e below (T1.setTop (mkF m 8 #[.val (.ref a1), .val (.int p1), .val (.int p2)] [(.int (0 : Int32)), (.ref b)])) _
    refine X1.aaload hx (j := (0 : Int32)) (v := (.ref c1)) (by rw [e1]; exact Ar2.1) (State.isArrayOf_alike hZ.alike Ar2.2.1) rfl Ar2.2.2 hin2 hat2 (g := (mkF m 8 #[.val (.ref a1), .val (.int p1), .val (.int p2)] [(.int (0 : Int32)), (.ref b)])) rfl rfl (hb hby d5_8) _ ?_
    show Steps p.tables e below (T1.setTop (mkF m 9 #[.val (.ref a1), .val (.int p1), .val (.int p2)] [(.ref c1)])) _
    refine XS.iloadN X1.here hx rfl (hb hby d5_9) rfl ?_
    show Steps p.tables e below (T1.setTop (mkF m 10 #[.val (.ref a1), .val (.int p1), .val (.int p2)] [(.int p1), (.ref c1)])) _
    refine XS.sipush X1.here hx rfl (hb hby d5_10) ?_
    show Steps p.tables e below (T1.setTop (mkF m 13 #[.val (.ref a1), .val (.int p1), .val (.int p2)] [(.int (1023 : Int32)), (.int p1), (.ref c1)])) _
    refine XS.iand X1.here hx rfl (hb hby d5_13) rfl ?_
    show Steps p.tables e below (T1.setTop (mkF m 14 #[.val (.ref a1), .val (.int p1), .val (.int p2)] [(.int (p1 &&& (1023 : Int32))), (.ref c1)])) _
    refine XS.aloadN X1.here hx rfl (hb hby d5_14) rfl rfl ?_
    show Steps p.tables e below (T1.setTop (mkF m 15 #[.val (.ref a1), .val (.int p1), .val (.int p2)] [(.ref a1), (.int (p1 &&& (1023 : Int32))), (.ref c1)])) _
    refine st3 _ ?_
    show Steps p.tables e below (T3.setTop (mkF m 18 #[.val (.ref a1), .val (.int p1), .val (.int p2)] [(.int w1), (.int (p1 &&& (1023 : Int32))), (.ref c1)])) _
    refine XS.imul X3.here hx rfl (hb hby d5_18) rfl ?_
    show Steps p.tables e below (T3.setTop (mkF m 19 #[.val (.ref a1), .val (.int p1), .val (.int p2)] [(.int ((p1 &&& (1023 : Int32)) * w1)), (.ref c1)])) _
    refine XS.iloadN X3.here hx rfl (hb hby d5_19) rfl ?_
    show Steps p.tables e below (T3.setTop (mkF m 20 #[.val (.ref a1), .val (.int p1), .val (.int p2)] [(.int p2), (.int ((p1 &&& (1023 : Int32)) * w1)), (.ref c1)])) _
    refine XS.iadd X3.here hx rfl (hb hby d5_20) rfl ?_
    show Steps p.tables e below (T3.setTop (mkF m 21 #[.val (.ref a1), .val (.int p1), .val (.int p2)] [(.int (((p1 &&& (1023 : Int32)) * w1) + p2)), (.ref c1)])) _
    rw [hj]
    show Steps p.tables e below (T3.setTop (mkF m 21 #[.val (.ref a1), .val (.int p1), .val (.int p2)] [(.int j), (.ref c1)])) _
    refine X3.iaload hx (j := j) (v := .int r) (by rw [e3]; exact Ar4.1) (State.isArrayOf_alike hZ.alike Ar4.2.1) Ar4.2.2 hn4 hat4 (g := (mkF m 21 #[.val (.ref a1), .val (.int p1), .val (.int p2)] [(.int j), (.ref c1)])) rfl rfl (hb hby d5_21) _ ?_
    exact kt
  obtain ⟨fs, hr, hrun, hended, hW, hsame⟩ := X3.leave (v := some (.int r)) (fun h => by rw [Bd.returns] at h; cases h)
  refine ⟨_, _, pre5 _ ?_, hrun, hended, _, _, rfl, ?_, ⟨_, rfl⟩, hW, hsame.mono (by decide) (by decide)⟩
  · show Steps p.tables e below (T3.setTop (mkF m 22 #[.val (.ref a1), .val (.int p1), .val (.int p2)] [(.int r)])) _
    exact retI X3 hx Bd.returns (hb hby d5_22) hr
  · show QI Z r h0 n0 _ T3.heap _
    rw [e3]
    exact ⟨rfl, N0, rfl⟩
theorem own_w4 (p : Int32) : (1 : Int32) + (p &&& (3 : Int32)) = 1 ∨ (1 : Int32) + (p &&& (3 : Int32)) = 2 ∨ (1 : Int32) + (p &&& (3 : Int32)) = 3 ∨ (1 : Int32) + (p &&& (3 : Int32)) = 4 := by
  have h1 := c_mask p (3 : Int32) 2 (by decide) (by decide)
  have h2 : (p &&& (3 : Int32)) = 0 ∨ (p &&& (3 : Int32)) = 1 ∨ (p &&& (3 : Int32)) = 2 ∨ (p &&& (3 : Int32)) = 3 := by
    have h3 : (p &&& (3 : Int32)).toInt = (0 : Int32).toInt ∨ (p &&& (3 : Int32)).toInt = (1 : Int32).toInt ∨ (p &&& (3 : Int32)).toInt = (2 : Int32).toInt ∨ (p &&& (3 : Int32)).toInt = (3 : Int32).toInt := by simp; omega
    simpa only [Int32.toInt_inj] using h3
  rcases h2 with q | q | q | q <;> rw [q] <;> decide
theorem own_wne {w : Int32} (h : w = 1 ∨ w = 2 ∨ w = 3 ∨ w = 4) : ¬ (w = (0 : Int32)) := by rcases h with rfl | rfl | rfl | rfl <;> decide
theorem own_n {w : Int32} (h : w = 1 ∨ w = 2 ∨ w = 3 ∨ w = 4) : 0 < ((3 : Int32) * w).toInt ∧ ((3 : Int32) * w).toInt = 3 * w.toInt ∧ ¬ (((3 : Int32) * w) = (0 : Int32)) := by rcases h with rfl | rfl | rfl | rfl <;> decide
theorem own_ix (w i : Int32) (hw : w = 1 ∨ w = 2 ∨ w = 3 ∨ w = 4) (h : 0 ≤ i.toInt ∧ i.toInt < 3 * w.toInt) : (((i / w).toUInt32 >>> ((10 : Int32) &&& 31).toUInt32).toInt32) = (0 : Int32) ∧ (((i / w) &&& (1023 : Int32)) * w) + (i % w) = i ∧ (¬ i < 0 ∧ i < ((1024 : Int32) * w)) := by
  have h3 : w.toInt ≤ 4 := by rcases hw with rfl | rfl | rfl | rfl <;> decide
  have h2 := own_of12 (k := i) ⟨h.1, by omega⟩
  rcases hw with rfl | rfl | rfl | rfl <;> rcases h2 with rfl | rfl | rfl | rfl | rfl | rfl | rfl | rfl | rfl | rfl | rfl | rfl <;> first | decide | exact absurd h.2 (by decide)
def Q0 (Z : State) (h0 : Heap) (n0 : Nat) (v : Option Value) (h : Heap) (L : List Loc) : Prop := v = some (.int (1 : Int32)) ∧ Fr n0 L
theorem pn_rm0 : plainName "com/example/muniment_room/munimentroom/categorizer/ColumnsGetPinLaw" = true := by first | (simp [plainName, overriddenIn]; done) | decide +kernel
theorem pd_rm0_0 : parseMethodDescriptor "(I)V" = some ⟨[.int], none⟩ := by decide +kernel
theorem pd_rm0_1 : parseMethodDescriptor "()I" = some ⟨[], some .int⟩ := by decide +kernel
theorem pd_rm0_2 : parseMethodDescriptor "(III)V" = some ⟨[.int, .int, .int], none⟩ := by decide +kernel
theorem pd_rm0_3 : parseMethodDescriptor "(II)I" = some ⟨[.int, .int], some .int⟩ := by decide +kernel
theorem ef_rm0 (m : MethodId) (p1 : Int32) (p2 : Int32) (p3 : Int32) (p4 : Int32) (p5 : Int32) (p6 : Int32) : entryFrame m #[(.int p1), (.int p2), (.int p3), (.int p4), (.int p5), (.int p6)] maxLocals = mkF m 0 #[.val (.int p1), .val (.int p2), .val (.int p3), .val (.int p4), .val (.int p5), .val (.int p6), .unset, .unset, .unset, .unset, .unset, .unset, .unset, .unset, .unset, .unset, .unset, .unset, .unset, .unset] [] := by first | (simp [entryFrame, mkF, argsToLocals, Value.category, maxLocals]; done) | rfl
set_option maxRecDepth 65536 in
set_option maxHeartbeats 40000000 in
theorem rm0 (l : Launch) (Z : State) (a0 : Array Value) (hw : ∀ d ∈ tables_1, d.before a0 Z = true) (ws : List Jvm.Cond) (p1 p2 p3 p4 p5 p6 : Int32) (h0 : Heap) (n0 : Nat) (Z0 : n0 ≤ h0.size)  :
    MetFree l x (head1 (Jvm.Cond.code x code maxLocals ret :: ws) room_1) (fun a U => a = #[(.int p1), (.int p2), (.int p3), (.int p4), (.int p5), (.int p6)] ∧ Z.Warmed39 U.vm ∧ U.heap = h0) (fun _ _ _ _ _ => True) (fun _ U o U' => ∃ v L, o = .returned v ∧ Q0 Z h0 n0 v U'.heap L ∧ FrameEnd U o U' L room_1.cells room_1.slots) := by
  refine MetFree.of_bodySF (plainFor_of_name pn_rm0) hisR ?_
  intro p e s m args below meth c s₁ Bd hml0 hP hK
  obtain ⟨rfl, hZ, hh⟩ := hP
  have hx := Bd.exec
  have hby := Bd.bytes
  have hml : c.maxLocals = 20 := hml0
  have hown : s.vm.findClass "com/example/muniment_room/munimentroom/categorizer/ColumnsGetPinLaw" = some m.cls := findClass_of_methodNamed Bd.named
  have hnm := (name_of_methodNamed Bd.named Bd.method).1
  have X0 : Stand p l e room_1 s m #[(.int p1), (.int p2), (.int p3), (.int p4), (.int p5), (.int p6)] below meth c s₁ [] 0 0 := Stand.of_body Bd
  have e0 : s₁.heap = h0 := by rw [← hh, Bd.state]; rfl
  have N0 := Fr.nil n0
  have pre0 : ∀ tt, Steps p.tables e below (s₁.setTop (mkF m 0 #[.val (.int p1), .val (.int p2), .val (.int p3), .val (.int p4), .val (.int p5), .val (.int p6), .unset, .unset, .unset, .unset, .unset, .unset, .unset, .unset, .unset, .unset, .unset, .unset, .unset, .unset] [])) tt → Steps p.tables e below (s₁.setTop (entryFrame m #[(.int p1), (.int p2), (.int p3), (.int p4), (.int p5), (.int p6)] maxLocals)) tt := fun tt kt => castTop (ef_rm0 m p1 p2 p3 p4 p5 p6) kt
  obtain ⟨w1, hw1⟩ : ∃ z : Int32, z = ((1 : Int32) + (p1 &&& (3 : Int32))) := ⟨_, rfl⟩
  have pre1 : ∀ tt, Steps p.tables e below (s₁.setTop (mkF m 5 #[.val (.int p1), .val (.int p2), .val (.int p3), .val (.int p4), .val (.int p5), .val (.int p6), .unset, .unset, .unset, .unset, .unset, .unset, .unset, .unset, .unset, .unset, .unset, .unset, .unset, .unset] [(.int w1)])) tt → Steps p.tables e below (s₁.setTop (entryFrame m #[(.int p1), (.int p2), (.int p3), (.int p4), (.int p5), (.int p6)] maxLocals)) tt := by
    intro tt kt
    refine pre0 tt ?_
    show Steps p.tables e below (s₁.setTop (mkF m 0 #[.val (.int p1), .val (.int p2), .val (.int p3), .val (.int p4), .val (.int p5), .val (.int p6), .unset, .unset, .unset, .unset, .unset, .unset, .unset, .unset, .unset, .unset, .unset, .unset, .unset, .unset] [])) _
    refine XS.iconst X0.here hx rfl (hb hby at_0) ?_
    show Steps p.tables e below (s₁.setTop (mkF m 1 #[.val (.int p1), .val (.int p2), .val (.int p3), .val (.int p4), .val (.int p5), .val (.int p6), .unset, .unset, .unset, .unset, .unset, .unset, .unset, .unset, .unset, .unset, .unset, .unset, .unset, .unset] [(.int (1 : Int32))])) _
    refine XS.iloadN X0.here hx rfl (hb hby at_1) rfl ?_
    show Steps p.tables e below (s₁.setTop (mkF m 2 #[.val (.int p1), .val (.int p2), .val (.int p3), .val (.int p4), .val (.int p5), .val (.int p6), .unset, .unset, .unset, .unset, .unset, .unset, .unset, .unset, .unset, .unset, .unset, .unset, .unset, .unset] [(.int p1), (.int (1 : Int32))])) _
    refine XS.iconst X0.here hx rfl (hb hby at_2) ?_
    show Steps p.tables e below (s₁.setTop (mkF m 3 #[.val (.int p1), .val (.int p2), .val (.int p3), .val (.int p4), .val (.int p5), .val (.int p6), .unset, .unset, .unset, .unset, .unset, .unset, .unset, .unset, .unset, .unset, .unset, .unset, .unset, .unset] [(.int (3 : Int32)), (.int p1), (.int (1 : Int32))])) _
    refine XS.iand X0.here hx rfl (hb hby at_3) rfl ?_
    show Steps p.tables e below (s₁.setTop (mkF m 4 #[.val (.int p1), .val (.int p2), .val (.int p3), .val (.int p4), .val (.int p5), .val (.int p6), .unset, .unset, .unset, .unset, .unset, .unset, .unset, .unset, .unset, .unset, .unset, .unset, .unset, .unset] [(.int (p1 &&& (3 : Int32))), (.int (1 : Int32))])) _
    refine XS.iadd X0.here hx rfl (hb hby at_4) rfl ?_
    show Steps p.tables e below (s₁.setTop (mkF m 5 #[.val (.int p1), .val (.int p2), .val (.int p3), .val (.int p4), .val (.int p5), .val (.int p6), .unset, .unset, .unset, .unset, .unset, .unset, .unset, .unset, .unset, .unset, .unset, .unset, .unset, .unset] [(.int ((1 : Int32) + (p1 &&& (3 : Int32))))])) _
    rw [← hw1]
    exact kt
  have rw1 := own_w4 p1
  rw [← hw1] at rw1
  clear hw1
  have hwne := own_wne rw1
  have hn3 := own_n rw1
  obtain ⟨ia, hia⟩ : ∃ z : Int32, z = ((p2 &&& (2147483647 : Int32)) % ((3 : Int32) * w1)) := ⟨_, rfl⟩
  have pre2 : ∀ tt, Steps p.tables e below (s₁.setTop (mkF m 20 #[.val (.int p1), .val (.int p2), .val (.int p3), .val (.int p4), .val (.int p5), .val (.int p6), .val (.int w1), .val (.int ((3 : Int32) * w1)), .unset, .unset, .unset, .unset, .unset, .unset, .unset, .unset, .unset, .unset, .unset, .unset] [(.int ia)])) tt → Steps p.tables e below (s₁.setTop (entryFrame m #[(.int p1), (.int p2), (.int p3), (.int p4), (.int p5), (.int p6)] maxLocals)) tt := by
    intro tt kt
    refine pre1 tt ?_
    show Steps p.tables e below (s₁.setTop (mkF m 5 #[.val (.int p1), .val (.int p2), .val (.int p3), .val (.int p4), .val (.int p5), .val (.int p6), .unset, .unset, .unset, .unset, .unset, .unset, .unset, .unset, .unset, .unset, .unset, .unset, .unset, .unset] [(.int w1)])) _
    refine XS.istore X0.here hx rfl (hb hby at_5) rfl (l' := #[.val (.int p1), .val (.int p2), .val (.int p3), .val (.int p4), .val (.int p5), .val (.int p6), .val (.int w1), .unset, .unset, .unset, .unset, .unset, .unset, .unset, .unset, .unset, .unset, .unset, .unset, .unset]) rfl ?_
    show Steps p.tables e below (s₁.setTop (mkF m 7 #[.val (.int p1), .val (.int p2), .val (.int p3), .val (.int p4), .val (.int p5), .val (.int p6), .val (.int w1), .unset, .unset, .unset, .unset, .unset, .unset, .unset, .unset, .unset, .unset, .unset, .unset, .unset] [])) _
    refine XS.iconst X0.here hx rfl (hb hby at_7) ?_
    show Steps p.tables e below (s₁.setTop (mkF m 8 #[.val (.int p1), .val (.int p2), .val (.int p3), .val (.int p4), .val (.int p5), .val (.int p6), .val (.int w1), .unset, .unset, .unset, .unset, .unset, .unset, .unset, .unset, .unset, .unset, .unset, .unset, .unset] [(.int (3 : Int32))])) _
    refine XS.iload X0.here hx rfl (hb hby at_8) rfl ?_
    show Steps p.tables e below (s₁.setTop (mkF m 10 #[.val (.int p1), .val (.int p2), .val (.int p3), .val (.int p4), .val (.int p5), .val (.int p6), .val (.int w1), .unset, .unset, .unset, .unset, .unset, .unset, .unset, .unset, .unset, .unset, .unset, .unset, .unset] [(.int w1), (.int (3 : Int32))])) _
    refine XS.imul X0.here hx rfl (hb hby at_10) rfl ?_
    show Steps p.tables e below (s₁.setTop (mkF m 11 #[.val (.int p1), .val (.int p2), .val (.int p3), .val (.int p4), .val (.int p5), .val (.int p6), .val (.int w1), .unset, .unset, .unset, .unset, .unset, .unset, .unset, .unset, .unset, .unset, .unset, .unset, .unset] [(.int ((3 : Int32) * w1))])) _
    refine XS.istore X0.here hx rfl (hb hby at_11) rfl (l' := #[.val (.int p1), .val (.int p2), .val (.int p3), .val (.int p4), .val (.int p5), .val (.int p6), .val (.int w1), .val (.int ((3 : Int32) * w1)), .unset, .unset, .unset, .unset, .unset, .unset, .unset, .unset, .unset, .unset, .unset, .unset]) rfl ?_
    show Steps p.tables e below (s₁.setTop (mkF m 13 #[.val (.int p1), .val (.int p2), .val (.int p3), .val (.int p4), .val (.int p5), .val (.int p6), .val (.int w1), .val (.int ((3 : Int32) * w1)), .unset, .unset, .unset, .unset, .unset, .unset, .unset, .unset, .unset, .unset, .unset, .unset] [])) _
    refine XS.iloadN X0.here hx rfl (hb hby at_13) rfl ?_
    show Steps p.tables e below (s₁.setTop (mkF m 14 #[.val (.int p1), .val (.int p2), .val (.int p3), .val (.int p4), .val (.int p5), .val (.int p6), .val (.int w1), .val (.int ((3 : Int32) * w1)), .unset, .unset, .unset, .unset, .unset, .unset, .unset, .unset, .unset, .unset, .unset, .unset] [(.int p2)])) _
    refine X0.ldcInt hx hown (mvT hZ (hw _ (List.mem_of_getElem? (i := 0) rfl))) (g := (mkF m 14 #[.val (.int p1), .val (.int p2), .val (.int p3), .val (.int p4), .val (.int p5), .val (.int p6), .val (.int w1), .val (.int ((3 : Int32) * w1)), .unset, .unset, .unset, .unset, .unset, .unset, .unset, .unset, .unset, .unset, .unset, .unset] [(.int p2)])) rfl (hb hby at_14) _ ?_
    show Steps p.tables e below (s₁.setTop (mkF m 16 #[.val (.int p1), .val (.int p2), .val (.int p3), .val (.int p4), .val (.int p5), .val (.int p6), .val (.int w1), .val (.int ((3 : Int32) * w1)), .unset, .unset, .unset, .unset, .unset, .unset, .unset, .unset, .unset, .unset, .unset, .unset] [(.int (2147483647 : Int32)), (.int p2)])) _
    refine XS.iand X0.here hx rfl (hb hby at_16) rfl ?_
    show Steps p.tables e below (s₁.setTop (mkF m 17 #[.val (.int p1), .val (.int p2), .val (.int p3), .val (.int p4), .val (.int p5), .val (.int p6), .val (.int w1), .val (.int ((3 : Int32) * w1)), .unset, .unset, .unset, .unset, .unset, .unset, .unset, .unset, .unset, .unset, .unset, .unset] [(.int (p2 &&& (2147483647 : Int32)))])) _
    refine XS.iload X0.here hx rfl (hb hby at_17) rfl ?_
    show Steps p.tables e below (s₁.setTop (mkF m 19 #[.val (.int p1), .val (.int p2), .val (.int p3), .val (.int p4), .val (.int p5), .val (.int p6), .val (.int w1), .val (.int ((3 : Int32) * w1)), .unset, .unset, .unset, .unset, .unset, .unset, .unset, .unset, .unset, .unset, .unset, .unset] [(.int ((3 : Int32) * w1)), (.int (p2 &&& (2147483647 : Int32)))])) _
    refine iremM (g := (mkF m 19 #[.val (.int p1), .val (.int p2), .val (.int p3), .val (.int p4), .val (.int p5), .val (.int p6), .val (.int w1), .val (.int ((3 : Int32) * w1)), .unset, .unset, .unset, .unset, .unset, .unset, .unset, .unset, .unset, .unset, .unset, .unset] [(.int ((3 : Int32) * w1)), (.int (p2 &&& (2147483647 : Int32)))])) X0 hx rfl (hb hby at_19) rfl hn3.2.2 ?_
    show Steps p.tables e below (s₁.setTop (mkF m 20 #[.val (.int p1), .val (.int p2), .val (.int p3), .val (.int p4), .val (.int p5), .val (.int p6), .val (.int w1), .val (.int ((3 : Int32) * w1)), .unset, .unset, .unset, .unset, .unset, .unset, .unset, .unset, .unset, .unset, .unset, .unset] [(.int ((p2 &&& (2147483647 : Int32)) % ((3 : Int32) * w1)))])) _
    rw [← hia]
    exact kt
  have r_ia := own_rem p2 ((3 : Int32) * w1) hn3.1
  rw [← hia, hn3.2.1] at r_ia
  clear hia
  have x_ia := own_ix w1 ia rw1 r_ia
  obtain ⟨ib, hib⟩ : ∃ z : Int32, z = ((p3 &&& (2147483647 : Int32)) % ((3 : Int32) * w1)) := ⟨_, rfl⟩
  have pre3 : ∀ tt, Steps p.tables e below (s₁.setTop (mkF m 29 #[.val (.int p1), .val (.int p2), .val (.int p3), .val (.int p4), .val (.int p5), .val (.int p6), .val (.int w1), .val (.int ((3 : Int32) * w1)), .val (.int ia), .unset, .unset, .unset, .unset, .unset, .unset, .unset, .unset, .unset, .unset, .unset] [(.int ib)])) tt → Steps p.tables e below (s₁.setTop (entryFrame m #[(.int p1), (.int p2), (.int p3), (.int p4), (.int p5), (.int p6)] maxLocals)) tt := by
    intro tt kt
    refine pre2 tt ?_
    show Steps p.tables e below (s₁.setTop (mkF m 20 #[.val (.int p1), .val (.int p2), .val (.int p3), .val (.int p4), .val (.int p5), .val (.int p6), .val (.int w1), .val (.int ((3 : Int32) * w1)), .unset, .unset, .unset, .unset, .unset, .unset, .unset, .unset, .unset, .unset, .unset, .unset] [(.int ia)])) _
    refine XS.istore X0.here hx rfl (hb hby at_20) rfl (l' := #[.val (.int p1), .val (.int p2), .val (.int p3), .val (.int p4), .val (.int p5), .val (.int p6), .val (.int w1), .val (.int ((3 : Int32) * w1)), .val (.int ia), .unset, .unset, .unset, .unset, .unset, .unset, .unset, .unset, .unset, .unset, .unset]) rfl ?_
    show Steps p.tables e below (s₁.setTop (mkF m 22 #[.val (.int p1), .val (.int p2), .val (.int p3), .val (.int p4), .val (.int p5), .val (.int p6), .val (.int w1), .val (.int ((3 : Int32) * w1)), .val (.int ia), .unset, .unset, .unset, .unset, .unset, .unset, .unset, .unset, .unset, .unset, .unset] [])) _
    refine XS.iloadN X0.here hx rfl (hb hby at_22) rfl ?_
    show Steps p.tables e below (s₁.setTop (mkF m 23 #[.val (.int p1), .val (.int p2), .val (.int p3), .val (.int p4), .val (.int p5), .val (.int p6), .val (.int w1), .val (.int ((3 : Int32) * w1)), .val (.int ia), .unset, .unset, .unset, .unset, .unset, .unset, .unset, .unset, .unset, .unset, .unset] [(.int p3)])) _
    refine X0.ldcInt hx hown (mvT hZ (hw _ (List.mem_of_getElem? (i := 0) rfl))) (g := (mkF m 23 #[.val (.int p1), .val (.int p2), .val (.int p3), .val (.int p4), .val (.int p5), .val (.int p6), .val (.int w1), .val (.int ((3 : Int32) * w1)), .val (.int ia), .unset, .unset, .unset, .unset, .unset, .unset, .unset, .unset, .unset, .unset, .unset] [(.int p3)])) rfl (hb hby at_23) _ ?_
    show Steps p.tables e below (s₁.setTop (mkF m 25 #[.val (.int p1), .val (.int p2), .val (.int p3), .val (.int p4), .val (.int p5), .val (.int p6), .val (.int w1), .val (.int ((3 : Int32) * w1)), .val (.int ia), .unset, .unset, .unset, .unset, .unset, .unset, .unset, .unset, .unset, .unset, .unset] [(.int (2147483647 : Int32)), (.int p3)])) _
    refine XS.iand X0.here hx rfl (hb hby at_25) rfl ?_
    show Steps p.tables e below (s₁.setTop (mkF m 26 #[.val (.int p1), .val (.int p2), .val (.int p3), .val (.int p4), .val (.int p5), .val (.int p6), .val (.int w1), .val (.int ((3 : Int32) * w1)), .val (.int ia), .unset, .unset, .unset, .unset, .unset, .unset, .unset, .unset, .unset, .unset, .unset] [(.int (p3 &&& (2147483647 : Int32)))])) _
    refine XS.iload X0.here hx rfl (hb hby at_26) rfl ?_
    show Steps p.tables e below (s₁.setTop (mkF m 28 #[.val (.int p1), .val (.int p2), .val (.int p3), .val (.int p4), .val (.int p5), .val (.int p6), .val (.int w1), .val (.int ((3 : Int32) * w1)), .val (.int ia), .unset, .unset, .unset, .unset, .unset, .unset, .unset, .unset, .unset, .unset, .unset] [(.int ((3 : Int32) * w1)), (.int (p3 &&& (2147483647 : Int32)))])) _
    refine iremM (g := (mkF m 28 #[.val (.int p1), .val (.int p2), .val (.int p3), .val (.int p4), .val (.int p5), .val (.int p6), .val (.int w1), .val (.int ((3 : Int32) * w1)), .val (.int ia), .unset, .unset, .unset, .unset, .unset, .unset, .unset, .unset, .unset, .unset, .unset] [(.int ((3 : Int32) * w1)), (.int (p3 &&& (2147483647 : Int32)))])) X0 hx rfl (hb hby at_28) rfl hn3.2.2 ?_
    show Steps p.tables e below (s₁.setTop (mkF m 29 #[.val (.int p1), .val (.int p2), .val (.int p3), .val (.int p4), .val (.int p5), .val (.int p6), .val (.int w1), .val (.int ((3 : Int32) * w1)), .val (.int ia), .unset, .unset, .unset, .unset, .unset, .unset, .unset, .unset, .unset, .unset, .unset] [(.int ((p3 &&& (2147483647 : Int32)) % ((3 : Int32) * w1)))])) _
    rw [← hib]
    exact kt
  have r_ib := own_rem p3 ((3 : Int32) * w1) hn3.1
  rw [← hib, hn3.2.1] at r_ib
  clear hib
  have x_ib := own_ix w1 ib rw1 r_ib
  obtain ⟨ic, hic⟩ : ∃ z : Int32, z = ((p4 &&& (2147483647 : Int32)) % ((3 : Int32) * w1)) := ⟨_, rfl⟩
  have pre4 : ∀ tt, Steps p.tables e below (s₁.setTop (mkF m 38 #[.val (.int p1), .val (.int p2), .val (.int p3), .val (.int p4), .val (.int p5), .val (.int p6), .val (.int w1), .val (.int ((3 : Int32) * w1)), .val (.int ia), .val (.int ib), .unset, .unset, .unset, .unset, .unset, .unset, .unset, .unset, .unset, .unset] [(.int ic)])) tt → Steps p.tables e below (s₁.setTop (entryFrame m #[(.int p1), (.int p2), (.int p3), (.int p4), (.int p5), (.int p6)] maxLocals)) tt := by
    intro tt kt
    refine pre3 tt ?_
    show Steps p.tables e below (s₁.setTop (mkF m 29 #[.val (.int p1), .val (.int p2), .val (.int p3), .val (.int p4), .val (.int p5), .val (.int p6), .val (.int w1), .val (.int ((3 : Int32) * w1)), .val (.int ia), .unset, .unset, .unset, .unset, .unset, .unset, .unset, .unset, .unset, .unset, .unset] [(.int ib)])) _
    refine XS.istore X0.here hx rfl (hb hby at_29) rfl (l' := #[.val (.int p1), .val (.int p2), .val (.int p3), .val (.int p4), .val (.int p5), .val (.int p6), .val (.int w1), .val (.int ((3 : Int32) * w1)), .val (.int ia), .val (.int ib), .unset, .unset, .unset, .unset, .unset, .unset, .unset, .unset, .unset, .unset]) rfl ?_
    show Steps p.tables e below (s₁.setTop (mkF m 31 #[.val (.int p1), .val (.int p2), .val (.int p3), .val (.int p4), .val (.int p5), .val (.int p6), .val (.int w1), .val (.int ((3 : Int32) * w1)), .val (.int ia), .val (.int ib), .unset, .unset, .unset, .unset, .unset, .unset, .unset, .unset, .unset, .unset] [])) _
    refine XS.iloadN X0.here hx rfl (hb hby at_31) rfl ?_
    show Steps p.tables e below (s₁.setTop (mkF m 32 #[.val (.int p1), .val (.int p2), .val (.int p3), .val (.int p4), .val (.int p5), .val (.int p6), .val (.int w1), .val (.int ((3 : Int32) * w1)), .val (.int ia), .val (.int ib), .unset, .unset, .unset, .unset, .unset, .unset, .unset, .unset, .unset, .unset] [(.int p4)])) _
    refine X0.ldcInt hx hown (mvT hZ (hw _ (List.mem_of_getElem? (i := 0) rfl))) (g := (mkF m 32 #[.val (.int p1), .val (.int p2), .val (.int p3), .val (.int p4), .val (.int p5), .val (.int p6), .val (.int w1), .val (.int ((3 : Int32) * w1)), .val (.int ia), .val (.int ib), .unset, .unset, .unset, .unset, .unset, .unset, .unset, .unset, .unset, .unset] [(.int p4)])) rfl (hb hby at_32) _ ?_
    show Steps p.tables e below (s₁.setTop (mkF m 34 #[.val (.int p1), .val (.int p2), .val (.int p3), .val (.int p4), .val (.int p5), .val (.int p6), .val (.int w1), .val (.int ((3 : Int32) * w1)), .val (.int ia), .val (.int ib), .unset, .unset, .unset, .unset, .unset, .unset, .unset, .unset, .unset, .unset] [(.int (2147483647 : Int32)), (.int p4)])) _
    refine XS.iand X0.here hx rfl (hb hby at_34) rfl ?_
    show Steps p.tables e below (s₁.setTop (mkF m 35 #[.val (.int p1), .val (.int p2), .val (.int p3), .val (.int p4), .val (.int p5), .val (.int p6), .val (.int w1), .val (.int ((3 : Int32) * w1)), .val (.int ia), .val (.int ib), .unset, .unset, .unset, .unset, .unset, .unset, .unset, .unset, .unset, .unset] [(.int (p4 &&& (2147483647 : Int32)))])) _
    refine XS.iload X0.here hx rfl (hb hby at_35) rfl ?_
    show Steps p.tables e below (s₁.setTop (mkF m 37 #[.val (.int p1), .val (.int p2), .val (.int p3), .val (.int p4), .val (.int p5), .val (.int p6), .val (.int w1), .val (.int ((3 : Int32) * w1)), .val (.int ia), .val (.int ib), .unset, .unset, .unset, .unset, .unset, .unset, .unset, .unset, .unset, .unset] [(.int ((3 : Int32) * w1)), (.int (p4 &&& (2147483647 : Int32)))])) _
    refine iremM (g := (mkF m 37 #[.val (.int p1), .val (.int p2), .val (.int p3), .val (.int p4), .val (.int p5), .val (.int p6), .val (.int w1), .val (.int ((3 : Int32) * w1)), .val (.int ia), .val (.int ib), .unset, .unset, .unset, .unset, .unset, .unset, .unset, .unset, .unset, .unset] [(.int ((3 : Int32) * w1)), (.int (p4 &&& (2147483647 : Int32)))])) X0 hx rfl (hb hby at_37) rfl hn3.2.2 ?_
    show Steps p.tables e below (s₁.setTop (mkF m 38 #[.val (.int p1), .val (.int p2), .val (.int p3), .val (.int p4), .val (.int p5), .val (.int p6), .val (.int w1), .val (.int ((3 : Int32) * w1)), .val (.int ia), .val (.int ib), .unset, .unset, .unset, .unset, .unset, .unset, .unset, .unset, .unset, .unset] [(.int ((p4 &&& (2147483647 : Int32)) % ((3 : Int32) * w1)))])) _
    rw [← hic]
    exact kt
  have r_ic := own_rem p4 ((3 : Int32) * w1) hn3.1
  rw [← hic, hn3.2.1] at r_ic
  clear hic
  have x_ic := own_ix w1 ic rw1 r_ic
  obtain ⟨T5, h5, X5, e5, E5, A5, D5, -, st5⟩ := newO X0 hx hZ hown (hw _ (List.mem_of_getElem? (i := 1) rfl)) (hw _ (List.mem_of_getElem? (i := 2) rfl)) (hw _ (List.mem_of_getElem? (i := 3) rfl)) e0 (g := (mkF m 40 #[.val (.int p1), .val (.int p2), .val (.int p3), .val (.int p4), .val (.int p5), .val (.int p6), .val (.int w1), .val (.int ((3 : Int32) * w1)), .val (.int ia), .val (.int ib), .val (.int ic), .unset, .unset, .unset, .unset, .unset, .unset, .unset, .unset, .unset] [])) rfl (hb hby at_40) (by decide) (by decide)
  obtain ⟨b5, g5⟩ : ∃ z, z = h0.size := ⟨_, rfl⟩
  rw [← g5] at A5 D5 st5
  have g_b5 : n0 ≤ b5 := Nat.le_trans Z0 (Nat.le_of_eq g5.symm)
  have F_blocks_b5 : Fld Z h5 b5 "com/example/muniment_room/munimentroom/categorizer/Columns" "blocks" "[[I" .null := D5 (Or.inl (hw _ (List.mem_of_getElem? (i := 13) rfl))) (ty := (.array (.array .int))) (by decide)
  have F_width_b5 : Fld Z h5 b5 "com/example/muniment_room/munimentroom/categorizer/Columns" "width" "I" (.int (0 : Int32)) := D5 (Or.inr (hw _ (List.mem_of_getElem? (i := 15) rfl))) (ty := .int) (by decide)
  have F_rows_b5 : Fld Z h5 b5 "com/example/muniment_room/munimentroom/categorizer/Columns" "rows" "I" (.int (0 : Int32)) := D5 (Or.inl (hw _ (List.mem_of_getElem? (i := 22) rfl))) (ty := .int) (by decide)
  obtain ⟨_, _, ⟨T6, L6, k6, n6⟩, -, X6, ⟨Lc6, hQ6, l6, y6, z6⟩, st6⟩ := X5.specialBack hx (y := (⟨"com/example/muniment_room/munimentroom/categorizer/Columns", "<init>", "(I)V"⟩ : MethodName)) rfl hown (mvT hZ (hw _ (List.mem_of_getElem? (i := 4) rfl))) (mvT hZ (hw _ (List.mem_of_getElem? (i := 5) rfl))) (mvT hZ (hw _ (List.mem_of_getElem? (i := 6) rfl))) (by decide) (backOf (W := 1) (rmC l Z a0 hw [] b5 w1 h5 n0 (Nat.le_trans Z0 E5.1) A5 F_width_b5 F_blocks_b5 F_rows_b5 g_b5) hZ (hw _ (List.mem_of_getElem? (i := 6) rfl)) (hw _ (List.mem_of_getElem? (i := 3) rfl)) (by decide) (by decide)) (g := (mkF m 46 #[.val (.int p1), .val (.int p2), .val (.int p3), .val (.int p4), .val (.int p5), .val (.int p6), .val (.int w1), .val (.int ((3 : Int32) * w1)), .val (.int ia), .val (.int ib), .val (.int ic), .unset, .unset, .unset, .unset, .unset, .unset, .unset, .unset, .unset] [(.int w1), (.ref b5), (.ref b5)])) rfl (by rw [hml]; rfl) (Steps.refl _) (a := b5) (argsL := [(.int w1)]) (rest := [(.ref b5)]) (lenOf pd_rm0_0 rfl) rfl (by show 2 * 0 + _ ≤ _; exact Nat.le_of_eq rfl) (hb hby at_46) (fun _ _ => ⟨rfl, e5, (by decide : 1 + 1 ≤ _), (by decide : 3 + 1 ≤ _)⟩)
  dsimp only [Pt.U, Pt.locs, Pt.cells, Pt.slots] at X6 l6 y6 z6 st6 hQ6
  subst l6 y6 z6
  obtain ⟨rfl, N6q, K6, Ea6, Fw6, Fr6, b6, kb6, gb6, sz6, Fb6, Vb6, Ob6⟩ := hQ6
  have N6 := Fr.app N0 N6q
  have hne_ab : b5 ≠ b6 := Nat.ne_of_lt (Nat.lt_of_lt_of_le (A5).lt sz6)
  obtain ⟨cq7, kq7, q7a, q7b, q7c⟩ := isOf hZ rfl Ea6
  obtain ⟨_, _, ⟨T7, L7, k7, n7⟩, -, X7, ⟨Lc7, hQ7, l7, y7, z7⟩, st7⟩ := X6.virtualBack hx (y := (⟨"com/example/muniment_room/munimentroom/categorizer/Columns", "add", "()I"⟩ : MethodName)) (z := (⟨"com/example/muniment_room/munimentroom/categorizer/Columns", "add", "()I"⟩ : MethodName)) hown (mvT hZ (hw _ (List.mem_of_getElem? (i := 16) rfl))) (mvT hZ (hw _ (List.mem_of_getElem? (i := 17) rfl))) (notFace_of_selects (args := #[]) (mvT hZ (hw _ (List.mem_of_getElem? (i := 19) rfl)))) (mvT hZ (hw _ (List.mem_of_getElem? (i := 19) rfl))) (mvT hZ (hw _ (List.mem_of_getElem? (i := 18) rfl))) (by decide) (backOf (W := 0) (rmA0 l Z a0 hw [] b5 b6 kb6 w1 T6.heap n0 (Nat.le_trans (Nat.le_trans Z0 E5.1) K6.1) Ea6 Fw6 Fb6 Fr6 Vb6 Ob6 g_b5 gb6 hne_ab rw1) hZ (hw _ (List.mem_of_getElem? (i := 20) rfl)) (hw _ (List.mem_of_getElem? (i := 3) rfl)) (by decide) (by decide)) q7a q7c (g := (mkF m 53 #[.val (.int p1), .val (.int p2), .val (.int p3), .val (.int p4), .val (.int p5), .val (.int p6), .val (.int w1), .val (.int ((3 : Int32) * w1)), .val (.int ia), .val (.int ib), .val (.int ic), .val (.ref b5), .unset, .unset, .unset, .unset, .unset, .unset, .unset, .unset] [(.ref b5)])) rfl (by rw [hml]; rfl) (Steps.refl _) (argsL := []) (rest := []) (lenOf pd_rm0_1 rfl) rfl (by show 2 * 0 + _ ≤ _; exact Nat.le_of_eq rfl) (hb hby at_53) (fun _ _ => ⟨rfl, rfl, (by decide : 2 + 1 ≤ _), (by decide : 4 + 4096 ≤ _)⟩)
  dsimp only [Pt.U, Pt.locs, Pt.cells, Pt.slots] at X7 l7 y7 z7 st7 hQ7
  subst l7 y7 z7
  obtain ⟨rfl, N7q, K7, Ea7, Fw7, Fr7, Fb7, c7, kc7, g_c7, sc7, Vb7, Vc7⟩ := hQ7
  have N7 := Fr.app N6 N7q
  have hne_bc : b6 ≠ c7 := Nat.ne_of_lt (Nat.lt_of_lt_of_le (Vb6).lt sc7)
  have hne_ac : b5 ≠ c7 := Nat.ne_of_lt (Nat.lt_of_lt_of_le (Ea6).lt sc7)
  obtain ⟨cq8, kq8, q8a, q8b, q8c⟩ := isOf hZ rfl Ea7
  obtain ⟨_, _, ⟨T8, L8, k8, n8⟩, -, X8, ⟨Lc8, hQ8, l8, y8, z8⟩, st8⟩ := X7.virtualBack hx (y := (⟨"com/example/muniment_room/munimentroom/categorizer/Columns", "add", "()I"⟩ : MethodName)) (z := (⟨"com/example/muniment_room/munimentroom/categorizer/Columns", "add", "()I"⟩ : MethodName)) hown (mvT hZ (hw _ (List.mem_of_getElem? (i := 16) rfl))) (mvT hZ (hw _ (List.mem_of_getElem? (i := 17) rfl))) (notFace_of_selects (args := #[]) (mvT hZ (hw _ (List.mem_of_getElem? (i := 19) rfl)))) (mvT hZ (hw _ (List.mem_of_getElem? (i := 19) rfl))) (mvT hZ (hw _ (List.mem_of_getElem? (i := 18) rfl))) (by decide) (backOf (W := 0) (rmA1 l Z a0 hw [] b5 b6 w1 (1 : Int32) (2 : Int32) T7.heap n0 (Nat.le_trans (Nat.le_trans (Nat.le_trans Z0 E5.1) K6.1) K7.1) Ea7 Fw7 Fb7 Fr7 g_b5 (by decide) (by decide)) hZ (hw _ (List.mem_of_getElem? (i := 20) rfl)) (hw _ (List.mem_of_getElem? (i := 3) rfl)) (by decide) (by decide)) q8a q8c (g := (mkF m 60 #[.val (.int p1), .val (.int p2), .val (.int p3), .val (.int p4), .val (.int p5), .val (.int p6), .val (.int w1), .val (.int ((3 : Int32) * w1)), .val (.int ia), .val (.int ib), .val (.int ic), .val (.ref b5), .val (.int (0 : Int32)), .unset, .unset, .unset, .unset, .unset, .unset, .unset] [(.ref b5)])) rfl (by rw [hml]; rfl) (Steps.refl _) (argsL := []) (rest := []) (lenOf pd_rm0_1 rfl) rfl (by show 2 * 0 + _ ≤ _; exact Nat.le_of_eq rfl) (hb hby at_60) (fun _ _ => ⟨rfl, rfl, (by decide : 3 + 0 ≤ _), (by decide : 4100 + 0 ≤ _)⟩)
  dsimp only [Pt.U, Pt.locs, Pt.cells, Pt.slots] at X8 l8 y8 z8 st8 hQ8
  subst l8 y8 z8
  obtain ⟨rfl, N8q, K8, Ea8, Fw8, Fr8, Fb8⟩ := hQ8
  have N8 := Fr.app N7 N8q
  obtain ⟨cq9, kq9, q9a, q9b, q9c⟩ := isOf hZ rfl Ea8
  obtain ⟨_, _, ⟨T9, L9, k9, n9⟩, -, X9, ⟨Lc9, hQ9, l9, y9, z9⟩, st9⟩ := X8.virtualBack hx (y := (⟨"com/example/muniment_room/munimentroom/categorizer/Columns", "add", "()I"⟩ : MethodName)) (z := (⟨"com/example/muniment_room/munimentroom/categorizer/Columns", "add", "()I"⟩ : MethodName)) hown (mvT hZ (hw _ (List.mem_of_getElem? (i := 16) rfl))) (mvT hZ (hw _ (List.mem_of_getElem? (i := 17) rfl))) (notFace_of_selects (args := #[]) (mvT hZ (hw _ (List.mem_of_getElem? (i := 19) rfl)))) (mvT hZ (hw _ (List.mem_of_getElem? (i := 19) rfl))) (mvT hZ (hw _ (List.mem_of_getElem? (i := 18) rfl))) (by decide) (backOf (W := 0) (rmA1 l Z a0 hw [] b5 b6 w1 (2 : Int32) (3 : Int32) T8.heap n0 (Nat.le_trans (Nat.le_trans (Nat.le_trans (Nat.le_trans Z0 E5.1) K6.1) K7.1) K8.1) Ea8 Fw8 Fb8 Fr8 g_b5 (by decide) (by decide)) hZ (hw _ (List.mem_of_getElem? (i := 20) rfl)) (hw _ (List.mem_of_getElem? (i := 3) rfl)) (by decide) (by decide)) q9a q9c (g := (mkF m 67 #[.val (.int p1), .val (.int p2), .val (.int p3), .val (.int p4), .val (.int p5), .val (.int p6), .val (.int w1), .val (.int ((3 : Int32) * w1)), .val (.int ia), .val (.int ib), .val (.int ic), .val (.ref b5), .val (.int (0 : Int32)), .val (.int (1 : Int32)), .unset, .unset, .unset, .unset, .unset, .unset] [(.ref b5)])) rfl (by rw [hml]; rfl) (Steps.refl _) (argsL := []) (rest := []) (lenOf pd_rm0_1 rfl) rfl (by show 2 * 0 + _ ≤ _; exact Nat.le_of_eq rfl) (hb hby at_67) (fun _ _ => ⟨rfl, rfl, (by decide : 3 + 0 ≤ _), (by decide : 4100 + 0 ≤ _)⟩)
  dsimp only [Pt.U, Pt.locs, Pt.cells, Pt.slots] at X9 l9 y9 z9 st9 hQ9
  subst l9 y9 z9
  obtain ⟨rfl, N9q, K9, Ea9, Fw9, Fr9, Fb9⟩ := hQ9
  have N9 := Fr.app N8 N9q
  obtain ⟨cq10, kq10, q10a, q10b, q10c⟩ := isOf hZ rfl Ea9
  obtain ⟨_, _, ⟨T10, L10, k10, n10⟩, -, X10, ⟨Lc10, hQ10, l10, y10, z10⟩, st10⟩ := X9.virtualBack hx (y := (⟨"com/example/muniment_room/munimentroom/categorizer/Columns", "set", "(III)V"⟩ : MethodName)) (z := (⟨"com/example/muniment_room/munimentroom/categorizer/Columns", "set", "(III)V"⟩ : MethodName)) hown (mvT hZ (hw _ (List.mem_of_getElem? (i := 25) rfl))) (mvT hZ (hw _ (List.mem_of_getElem? (i := 26) rfl))) (notFace_of_selects (args := #[]) (mvT hZ (hw _ (List.mem_of_getElem? (i := 28) rfl)))) (mvT hZ (hw _ (List.mem_of_getElem? (i := 28) rfl))) (mvT hZ (hw _ (List.mem_of_getElem? (i := 27) rfl))) (by decide) (backOf (W := 0) (rmS l Z a0 hw [] b5 b6 c7 kb6 kc7 w1 (ia / w1) (ia % w1) p5 ia [] T9.heap n0 (Nat.le_trans (Nat.le_trans (Nat.le_trans (Nat.le_trans (Nat.le_trans Z0 E5.1) K6.1) K7.1) K8.1) K9.1) Fw9 Fb9 ((Vb7.keep K8 (ninS (Ne.symm hne_ab) nin0)).keep K9 (ninS (Ne.symm hne_ab) nin0)) ((Vc7.keep K8 (ninS (Ne.symm hne_ac) nin0)).keep K9 (ninS (Ne.symm hne_ac) nin0)) x_ia.1 x_ia.2.1 x_ia.2.2  g_c7) hZ (hw _ (List.mem_of_getElem? (i := 29) rfl)) (hw _ (List.mem_of_getElem? (i := 3) rfl)) (by decide) (by decide)) q10a q10c (g := (mkF m 105 #[.val (.int p1), .val (.int p2), .val (.int p3), .val (.int p4), .val (.int p5), .val (.int p6), .val (.int w1), .val (.int ((3 : Int32) * w1)), .val (.int ia), .val (.int ib), .val (.int ic), .val (.ref b5), .val (.int (0 : Int32)), .val (.int (1 : Int32)), .val (.int (2 : Int32)), .unset, .unset, .unset, .unset, .unset] [(.int p5), (.int (ia % w1)), (.int (ia / w1)), (.ref b5)])) rfl (by rw [hml]; rfl) (Steps.refl _) (argsL := [(.int (ia / w1)), (.int (ia % w1)), (.int p5)]) (rest := []) (lenOf pd_rm0_2 rfl) rfl (by show 2 * 0 + _ ≤ _; exact Nat.le_of_eq rfl) (hb hby at_105) (fun _ _ => ⟨rfl, rfl, (by decide : 3 + 0 ≤ _), (by decide : 4100 + 0 ≤ _)⟩)
  dsimp only [Pt.U, Pt.locs, Pt.cells, Pt.slots] at X10 l10 y10 z10 st10 hQ10
  subst l10 y10 z10
  obtain ⟨rfl, N10q, K10, Vc10⟩ := hQ10
  have N10 := Fr.app N9 N10q
  obtain ⟨cq11, kq11, q11a, q11b, q11c⟩ := isOf hZ rfl (Ea9.keep K10)
  obtain ⟨_, _, ⟨T11, L11, k11, n11⟩, -, X11, ⟨Lc11, hQ11, l11, y11, z11⟩, st11⟩ := X10.virtualBack hx (y := (⟨"com/example/muniment_room/munimentroom/categorizer/Columns", "set", "(III)V"⟩ : MethodName)) (z := (⟨"com/example/muniment_room/munimentroom/categorizer/Columns", "set", "(III)V"⟩ : MethodName)) hown (mvT hZ (hw _ (List.mem_of_getElem? (i := 25) rfl))) (mvT hZ (hw _ (List.mem_of_getElem? (i := 26) rfl))) (notFace_of_selects (args := #[]) (mvT hZ (hw _ (List.mem_of_getElem? (i := 28) rfl)))) (mvT hZ (hw _ (List.mem_of_getElem? (i := 28) rfl))) (mvT hZ (hw _ (List.mem_of_getElem? (i := 27) rfl))) (by decide) (backOf (W := 0) (rmS l Z a0 hw [] b5 b6 c7 kb6 kc7 w1 (ib / w1) (ib % w1) p6 ib ((ia, .int p5) :: []) T10.heap n0 (Nat.le_trans (Nat.le_trans (Nat.le_trans (Nat.le_trans (Nat.le_trans (Nat.le_trans Z0 E5.1) K6.1) K7.1) K8.1) K9.1) K10.1) (Fw9.keep K10 (ninS hne_ac nin0)) (Fb9.keep K10 (ninS hne_ac nin0)) (((Vb7.keep K8 (ninS (Ne.symm hne_ab) nin0)).keep K9 (ninS (Ne.symm hne_ab) nin0)).keep K10 (ninS hne_bc nin0)) Vc10 x_ib.1 x_ib.2.1 x_ib.2.2  g_c7) hZ (hw _ (List.mem_of_getElem? (i := 29) rfl)) (hw _ (List.mem_of_getElem? (i := 3) rfl)) (by decide) (by decide)) q11a q11c (g := (mkF m 122 #[.val (.int p1), .val (.int p2), .val (.int p3), .val (.int p4), .val (.int p5), .val (.int p6), .val (.int w1), .val (.int ((3 : Int32) * w1)), .val (.int ia), .val (.int ib), .val (.int ic), .val (.ref b5), .val (.int (0 : Int32)), .val (.int (1 : Int32)), .val (.int (2 : Int32)), .unset, .unset, .unset, .unset, .unset] [(.int p6), (.int (ib % w1)), (.int (ib / w1)), (.ref b5)])) rfl (by rw [hml]; rfl) (Steps.refl _) (argsL := [(.int (ib / w1)), (.int (ib % w1)), (.int p6)]) (rest := []) (lenOf pd_rm0_2 rfl) rfl (by show 2 * 0 + _ ≤ _; exact Nat.le_of_eq rfl) (hb hby at_122) (fun _ _ => ⟨rfl, rfl, (by decide : 3 + 0 ≤ _), (by decide : 4100 + 0 ≤ _)⟩)
  dsimp only [Pt.U, Pt.locs, Pt.cells, Pt.slots] at X11 l11 y11 z11 st11 hQ11
  subst l11 y11 z11
  obtain ⟨rfl, N11q, K11, Vc11⟩ := hQ11
  have N11 := Fr.app N10 N11q
  have pre12 : ∀ tt, Steps p.tables e below (T11.setTop (mkF m 125 #[.val (.int p1), .val (.int p2), .val (.int p3), .val (.int p4), .val (.int p5), .val (.int p6), .val (.int w1), .val (.int ((3 : Int32) * w1)), .val (.int ia), .val (.int ib), .val (.int ic), .val (.ref b5), .val (.int (0 : Int32)), .val (.int (1 : Int32)), .val (.int (2 : Int32)), .unset, .unset, .unset, .unset, .unset] [])) tt → Steps p.tables e below (s₁.setTop (entryFrame m #[(.int p1), (.int p2), (.int p3), (.int p4), (.int p5), (.int p6)] maxLocals)) tt := by
    intro tt kt
    refine pre4 tt ?_
    show Steps p.tables e below (s₁.setTop (mkF m 38 #[.val (.int p1), .val (.int p2), .val (.int p3), .val (.int p4), .val (.int p5), .val (.int p6), .val (.int w1), .val (.int ((3 : Int32) * w1)), .val (.int ia), .val (.int ib), .unset, .unset, .unset, .unset, .unset, .unset, .unset, .unset, .unset, .unset] [(.int ic)])) _
    refine XS.istore X0.here hx rfl (hb hby at_38) rfl (l' := #[.val (.int p1), .val (.int p2), .val (.int p3), .val (.int p4), .val (.int p5), .val (.int p6), .val (.int w1), .val (.int ((3 : Int32) * w1)), .val (.int ia), .val (.int ib), .val (.int ic), .unset, .unset, .unset, .unset, .unset, .unset, .unset, .unset, .unset]) rfl ?_
    show Steps p.tables e below (s₁.setTop (mkF m 40 #[.val (.int p1), .val (.int p2), .val (.int p3), .val (.int p4), .val (.int p5), .val (.int p6), .val (.int w1), .val (.int ((3 : Int32) * w1)), .val (.int ia), .val (.int ib), .val (.int ic), .unset, .unset, .unset, .unset, .unset, .unset, .unset, .unset, .unset] [])) _
    refine st5 _ ?_
    show Steps p.tables e below (T5.setTop (mkF m 43 #[.val (.int p1), .val (.int p2), .val (.int p3), .val (.int p4), .val (.int p5), .val (.int p6), .val (.int w1), .val (.int ((3 : Int32) * w1)), .val (.int ia), .val (.int ib), .val (.int ic), .unset, .unset, .unset, .unset, .unset, .unset, .unset, .unset, .unset] [(.ref b5)])) _
    refine XS.dup X5.here hx rfl (hb hby at_43) rfl rfl ?_
    show Steps p.tables e below (T5.setTop (mkF m 44 #[.val (.int p1), .val (.int p2), .val (.int p3), .val (.int p4), .val (.int p5), .val (.int p6), .val (.int w1), .val (.int ((3 : Int32) * w1)), .val (.int ia), .val (.int ib), .val (.int ic), .unset, .unset, .unset, .unset, .unset, .unset, .unset, .unset, .unset] [(.ref b5), (.ref b5)])) _
    refine XS.iload X5.here hx rfl (hb hby at_44) rfl ?_
    show Steps p.tables e below (T5.setTop (mkF m 46 #[.val (.int p1), .val (.int p2), .val (.int p3), .val (.int p4), .val (.int p5), .val (.int p6), .val (.int w1), .val (.int ((3 : Int32) * w1)), .val (.int ia), .val (.int ib), .val (.int ic), .unset, .unset, .unset, .unset, .unset, .unset, .unset, .unset, .unset] [(.int w1), (.ref b5), (.ref b5)])) _
    refine st6.trans ?_
    show Steps p.tables e below (T6.setTop (mkF m 49 #[.val (.int p1), .val (.int p2), .val (.int p3), .val (.int p4), .val (.int p5), .val (.int p6), .val (.int w1), .val (.int ((3 : Int32) * w1)), .val (.int ia), .val (.int ib), .val (.int ic), .unset, .unset, .unset, .unset, .unset, .unset, .unset, .unset, .unset] [(.ref b5)])) _
    refine XS.astore X6.here hx rfl (hb hby at_49) rfl rfl (l' := #[.val (.int p1), .val (.int p2), .val (.int p3), .val (.int p4), .val (.int p5), .val (.int p6), .val (.int w1), .val (.int ((3 : Int32) * w1)), .val (.int ia), .val (.int ib), .val (.int ic), .val (.ref b5), .unset, .unset, .unset, .unset, .unset, .unset, .unset, .unset]) rfl ?_
    show Steps p.tables e below (T6.setTop (mkF m 51 #[.val (.int p1), .val (.int p2), .val (.int p3), .val (.int p4), .val (.int p5), .val (.int p6), .val (.int w1), .val (.int ((3 : Int32) * w1)), .val (.int ia), .val (.int ib), .val (.int ic), .val (.ref b5), .unset, .unset, .unset, .unset, .unset, .unset, .unset, .unset] [])) _
    refine XS.aload X6.here hx rfl (hb hby at_51) rfl rfl ?_
    show Steps p.tables e below (T6.setTop (mkF m 53 #[.val (.int p1), .val (.int p2), .val (.int p3), .val (.int p4), .val (.int p5), .val (.int p6), .val (.int w1), .val (.int ((3 : Int32) * w1)), .val (.int ia), .val (.int ib), .val (.int ic), .val (.ref b5), .unset, .unset, .unset, .unset, .unset, .unset, .unset, .unset] [(.ref b5)])) _
    refine st7.trans ?_
    show Steps p.tables e below (T7.setTop (mkF m 56 #[.val (.int p1), .val (.int p2), .val (.int p3), .val (.int p4), .val (.int p5), .val (.int p6), .val (.int w1), .val (.int ((3 : Int32) * w1)), .val (.int ia), .val (.int ib), .val (.int ic), .val (.ref b5), .unset, .unset, .unset, .unset, .unset, .unset, .unset, .unset] [(.int (0 : Int32))])) _
    refine XS.istore X7.here hx rfl (hb hby at_56) rfl (l' := #[.val (.int p1), .val (.int p2), .val (.int p3), .val (.int p4), .val (.int p5), .val (.int p6), .val (.int w1), .val (.int ((3 : Int32) * w1)), .val (.int ia), .val (.int ib), .val (.int ic), .val (.ref b5), .val (.int (0 : Int32)), .unset, .unset, .unset, .unset, .unset, .unset, .unset]) rfl ?_
    show Steps p.tables e below (T7.setTop (mkF m 58 #[.val (.int p1), .val (.int p2), .val (.int p3), .val (.int p4), .val (.int p5), .val (.int p6), .val (.int w1), .val (.int ((3 : Int32) * w1)), .val (.int ia), .val (.int ib), .val (.int ic), .val (.ref b5), .val (.int (0 : Int32)), .unset, .unset, .unset, .unset, .unset, .unset, .unset] [])) _
    refine XS.aload X7.here hx rfl (hb hby at_58) rfl rfl ?_
    show Steps p.tables e below (T7.setTop (mkF m 60 #[.val (.int p1), .val (.int p2), .val (.int p3), .val (.int p4), .val (.int p5), .val (.int p6), .val (.int w1), .val (.int ((3 : Int32) * w1)), .val (.int ia), .val (.int ib), .val (.int ic), .val (.ref b5), .val (.int (0 : Int32)), .unset, .unset, .unset, .unset, .unset, .unset, .unset] [(.ref b5)])) _
    refine st8.trans ?_
    show Steps p.tables e below (T8.setTop (mkF m 63 #[.val (.int p1), .val (.int p2), .val (.int p3), .val (.int p4), .val (.int p5), .val (.int p6), .val (.int w1), .val (.int ((3 : Int32) * w1)), .val (.int ia), .val (.int ib), .val (.int ic), .val (.ref b5), .val (.int (0 : Int32)), .unset, .unset, .unset, .unset, .unset, .unset, .unset] [(.int (1 : Int32))])) _
    refine XS.istore X8.here hx rfl (hb hby at_63) rfl (l' := #[.val (.int p1), .val (.int p2), .val (.int p3), .val (.int p4), .val (.int p5), .val (.int p6), .val (.int w1), .val (.int ((3 : Int32) * w1)), .val (.int ia), .val (.int ib), .val (.int ic), .val (.ref b5), .val (.int (0 : Int32)), .val (.int (1 : Int32)), .unset, .unset, .unset, .unset, .unset, .unset]) rfl ?_
    show Steps p.tables e below (T8.setTop (mkF m 65 #[.val (.int p1), .val (.int p2), .val (.int p3), .val (.int p4), .val (.int p5), .val (.int p6), .val (.int w1), .val (.int ((3 : Int32) * w1)), .val (.int ia), .val (.int ib), .val (.int ic), .val (.ref b5), .val (.int (0 : Int32)), .val (.int (1 : Int32)), .unset, .unset, .unset, .unset, .unset, .unset] [])) _
    refine XS.aload X8.here hx rfl (hb hby at_65) rfl rfl ?_
    show Steps p.tables e below (T8.setTop (mkF m 67 #[.val (.int p1), .val (.int p2), .val (.int p3), .val (.int p4), .val (.int p5), .val (.int p6), .val (.int w1), .val (.int ((3 : Int32) * w1)), .val (.int ia), .val (.int ib), .val (.int ic), .val (.ref b5), .val (.int (0 : Int32)), .val (.int (1 : Int32)), .unset, .unset, .unset, .unset, .unset, .unset] [(.ref b5)])) _
    refine st9.trans ?_
    show Steps p.tables e below (T9.setTop (mkF m 70 #[.val (.int p1), .val (.int p2), .val (.int p3), .val (.int p4), .val (.int p5), .val (.int p6), .val (.int w1), .val (.int ((3 : Int32) * w1)), .val (.int ia), .val (.int ib), .val (.int ic), .val (.ref b5), .val (.int (0 : Int32)), .val (.int (1 : Int32)), .unset, .unset, .unset, .unset, .unset, .unset] [(.int (2 : Int32))])) _
    refine XS.istore X9.here hx rfl (hb hby at_70) rfl (l' := #[.val (.int p1), .val (.int p2), .val (.int p3), .val (.int p4), .val (.int p5), .val (.int p6), .val (.int w1), .val (.int ((3 : Int32) * w1)), .val (.int ia), .val (.int ib), .val (.int ic), .val (.ref b5), .val (.int (0 : Int32)), .val (.int (1 : Int32)), .val (.int (2 : Int32)), .unset, .unset, .unset, .unset, .unset]) rfl ?_
    show Steps p.tables e below (T9.setTop (mkF m 72 #[.val (.int p1), .val (.int p2), .val (.int p3), .val (.int p4), .val (.int p5), .val (.int p6), .val (.int w1), .val (.int ((3 : Int32) * w1)), .val (.int ia), .val (.int ib), .val (.int ic), .val (.ref b5), .val (.int (0 : Int32)), .val (.int (1 : Int32)), .val (.int (2 : Int32)), .unset, .unset, .unset, .unset, .unset] [])) _
    refine XS.iload X9.here hx rfl (hb hby at_72) rfl ?_
    show Steps p.tables e below (T9.setTop (mkF m 74 #[.val (.int p1), .val (.int p2), .val (.int p3), .val (.int p4), .val (.int p5), .val (.int p6), .val (.int w1), .val (.int ((3 : Int32) * w1)), .val (.int ia), .val (.int ib), .val (.int ic), .val (.ref b5), .val (.int (0 : Int32)), .val (.int (1 : Int32)), .val (.int (2 : Int32)), .unset, .unset, .unset, .unset, .unset] [(.int (0 : Int32))])) _
    refine XS.ifNo X9.here hx rfl (hb hby at_74) rfl ((if0 _ _).trans (teq (rfl : (0 : Int32) = (0 : Int32))).2) ?_
    show Steps p.tables e below (T9.setTop (mkF m 77 #[.val (.int p1), .val (.int p2), .val (.int p3), .val (.int p4), .val (.int p5), .val (.int p6), .val (.int w1), .val (.int ((3 : Int32) * w1)), .val (.int ia), .val (.int ib), .val (.int ic), .val (.ref b5), .val (.int (0 : Int32)), .val (.int (1 : Int32)), .val (.int (2 : Int32)), .unset, .unset, .unset, .unset, .unset] [])) _
    refine XS.iload X9.here hx rfl (hb hby at_77) rfl ?_
    show Steps p.tables e below (T9.setTop (mkF m 79 #[.val (.int p1), .val (.int p2), .val (.int p3), .val (.int p4), .val (.int p5), .val (.int p6), .val (.int w1), .val (.int ((3 : Int32) * w1)), .val (.int ia), .val (.int ib), .val (.int ic), .val (.ref b5), .val (.int (0 : Int32)), .val (.int (1 : Int32)), .val (.int (2 : Int32)), .unset, .unset, .unset, .unset, .unset] [(.int (1 : Int32))])) _
    refine XS.iconst X9.here hx rfl (hb hby at_79) ?_
    show Steps p.tables e below (T9.setTop (mkF m 80 #[.val (.int p1), .val (.int p2), .val (.int p3), .val (.int p4), .val (.int p5), .val (.int p6), .val (.int w1), .val (.int ((3 : Int32) * w1)), .val (.int ia), .val (.int ib), .val (.int ic), .val (.ref b5), .val (.int (0 : Int32)), .val (.int (1 : Int32)), .val (.int (2 : Int32)), .unset, .unset, .unset, .unset, .unset] [(.int (1 : Int32)), (.int (1 : Int32))])) _
    refine XS.icmpNo X9.here hx rfl (hb hby at_80) rfl (teq (rfl : (1 : Int32) = (1 : Int32))).2 ?_
    show Steps p.tables e below (T9.setTop (mkF m 83 #[.val (.int p1), .val (.int p2), .val (.int p3), .val (.int p4), .val (.int p5), .val (.int p6), .val (.int w1), .val (.int ((3 : Int32) * w1)), .val (.int ia), .val (.int ib), .val (.int ic), .val (.ref b5), .val (.int (0 : Int32)), .val (.int (1 : Int32)), .val (.int (2 : Int32)), .unset, .unset, .unset, .unset, .unset] [])) _
    refine XS.iload X9.here hx rfl (hb hby at_83) rfl ?_
    show Steps p.tables e below (T9.setTop (mkF m 85 #[.val (.int p1), .val (.int p2), .val (.int p3), .val (.int p4), .val (.int p5), .val (.int p6), .val (.int w1), .val (.int ((3 : Int32) * w1)), .val (.int ia), .val (.int ib), .val (.int ic), .val (.ref b5), .val (.int (0 : Int32)), .val (.int (1 : Int32)), .val (.int (2 : Int32)), .unset, .unset, .unset, .unset, .unset] [(.int (2 : Int32))])) _
    refine XS.iconst X9.here hx rfl (hb hby at_85) ?_
    show Steps p.tables e below (T9.setTop (mkF m 86 #[.val (.int p1), .val (.int p2), .val (.int p3), .val (.int p4), .val (.int p5), .val (.int p6), .val (.int w1), .val (.int ((3 : Int32) * w1)), .val (.int ia), .val (.int ib), .val (.int ic), .val (.ref b5), .val (.int (0 : Int32)), .val (.int (1 : Int32)), .val (.int (2 : Int32)), .unset, .unset, .unset, .unset, .unset] [(.int (2 : Int32)), (.int (2 : Int32))])) _
    refine XS.icmpYes X9.here hx rfl (pc0 := 86) (pc' := 91) rfl (hb hby at_86) rfl (teq (rfl : (2 : Int32) = (2 : Int32))).1 (by decide) (by decide) ?_
    show Steps p.tables e below (T9.setTop (mkF m 91 #[.val (.int p1), .val (.int p2), .val (.int p3), .val (.int p4), .val (.int p5), .val (.int p6), .val (.int w1), .val (.int ((3 : Int32) * w1)), .val (.int ia), .val (.int ib), .val (.int ic), .val (.ref b5), .val (.int (0 : Int32)), .val (.int (1 : Int32)), .val (.int (2 : Int32)), .unset, .unset, .unset, .unset, .unset] [])) _
    refine XS.aload X9.here hx rfl (hb hby at_91) rfl rfl ?_
    show Steps p.tables e below (T9.setTop (mkF m 93 #[.val (.int p1), .val (.int p2), .val (.int p3), .val (.int p4), .val (.int p5), .val (.int p6), .val (.int w1), .val (.int ((3 : Int32) * w1)), .val (.int ia), .val (.int ib), .val (.int ic), .val (.ref b5), .val (.int (0 : Int32)), .val (.int (1 : Int32)), .val (.int (2 : Int32)), .unset, .unset, .unset, .unset, .unset] [(.ref b5)])) _
    refine XS.iload X9.here hx rfl (hb hby at_93) rfl ?_
    show Steps p.tables e below (T9.setTop (mkF m 95 #[.val (.int p1), .val (.int p2), .val (.int p3), .val (.int p4), .val (.int p5), .val (.int p6), .val (.int w1), .val (.int ((3 : Int32) * w1)), .val (.int ia), .val (.int ib), .val (.int ic), .val (.ref b5), .val (.int (0 : Int32)), .val (.int (1 : Int32)), .val (.int (2 : Int32)), .unset, .unset, .unset, .unset, .unset] [(.int ia), (.ref b5)])) _
    refine XS.iload X9.here hx rfl (hb hby at_95) rfl ?_
    show Steps p.tables e below (T9.setTop (mkF m 97 #[.val (.int p1), .val (.int p2), .val (.int p3), .val (.int p4), .val (.int p5), .val (.int p6), .val (.int w1), .val (.int ((3 : Int32) * w1)), .val (.int ia), .val (.int ib), .val (.int ic), .val (.ref b5), .val (.int (0 : Int32)), .val (.int (1 : Int32)), .val (.int (2 : Int32)), .unset, .unset, .unset, .unset, .unset] [(.int w1), (.int ia), (.ref b5)])) _
    refine XS.idiv X9.here hx rfl (hb hby at_97) rfl hwne ?_
    show Steps p.tables e below (T9.setTop (mkF m 98 #[.val (.int p1), .val (.int p2), .val (.int p3), .val (.int p4), .val (.int p5), .val (.int p6), .val (.int w1), .val (.int ((3 : Int32) * w1)), .val (.int ia), .val (.int ib), .val (.int ic), .val (.ref b5), .val (.int (0 : Int32)), .val (.int (1 : Int32)), .val (.int (2 : Int32)), .unset, .unset, .unset, .unset, .unset] [(.int (ia / w1)), (.ref b5)])) _
    refine XS.iload X9.here hx rfl (hb hby at_98) rfl ?_
    show Steps p.tables e below (T9.setTop (mkF m 100 #[.val (.int p1), .val (.int p2), .val (.int p3), .val (.int p4), .val (.int p5), .val (.int p6), .val (.int w1), .val (.int ((3 : Int32) * w1)), .val (.int ia), .val (.int ib), .val (.int ic), .val (.ref b5), .val (.int (0 : Int32)), .val (.int (1 : Int32)), .val (.int (2 : Int32)), .unset, .unset, .unset, .unset, .unset] [(.int ia), (.int (ia / w1)), (.ref b5)])) _
    refine XS.iload X9.here hx rfl (hb hby at_100) rfl ?_
    show Steps p.tables e below (T9.setTop (mkF m 102 #[.val (.int p1), .val (.int p2), .val (.int p3), .val (.int p4), .val (.int p5), .val (.int p6), .val (.int w1), .val (.int ((3 : Int32) * w1)), .val (.int ia), .val (.int ib), .val (.int ic), .val (.ref b5), .val (.int (0 : Int32)), .val (.int (1 : Int32)), .val (.int (2 : Int32)), .unset, .unset, .unset, .unset, .unset] [(.int w1), (.int ia), (.int (ia / w1)), (.ref b5)])) _
    refine iremM (g := (mkF m 102 #[.val (.int p1), .val (.int p2), .val (.int p3), .val (.int p4), .val (.int p5), .val (.int p6), .val (.int w1), .val (.int ((3 : Int32) * w1)), .val (.int ia), .val (.int ib), .val (.int ic), .val (.ref b5), .val (.int (0 : Int32)), .val (.int (1 : Int32)), .val (.int (2 : Int32)), .unset, .unset, .unset, .unset, .unset] [(.int w1), (.int ia), (.int (ia / w1)), (.ref b5)])) X9 hx rfl (hb hby at_102) rfl hwne ?_
    show Steps p.tables e below (T9.setTop (mkF m 103 #[.val (.int p1), .val (.int p2), .val (.int p3), .val (.int p4), .val (.int p5), .val (.int p6), .val (.int w1), .val (.int ((3 : Int32) * w1)), .val (.int ia), .val (.int ib), .val (.int ic), .val (.ref b5), .val (.int (0 : Int32)), .val (.int (1 : Int32)), .val (.int (2 : Int32)), .unset, .unset, .unset, .unset, .unset] [(.int (ia % w1)), (.int (ia / w1)), (.ref b5)])) _
    refine XS.iload X9.here hx rfl (hb hby at_103) rfl ?_
    show Steps p.tables e below (T9.setTop (mkF m 105 #[.val (.int p1), .val (.int p2), .val (.int p3), .val (.int p4), .val (.int p5), .val (.int p6), .val (.int w1), .val (.int ((3 : Int32) * w1)), .val (.int ia), .val (.int ib), .val (.int ic), .val (.ref b5), .val (.int (0 : Int32)), .val (.int (1 : Int32)), .val (.int (2 : Int32)), .unset, .unset, .unset, .unset, .unset] [(.int p5), (.int (ia % w1)), (.int (ia / w1)), (.ref b5)])) _
    refine st10.trans ?_
    show Steps p.tables e below (T10.setTop (mkF m 108 #[.val (.int p1), .val (.int p2), .val (.int p3), .val (.int p4), .val (.int p5), .val (.int p6), .val (.int w1), .val (.int ((3 : Int32) * w1)), .val (.int ia), .val (.int ib), .val (.int ic), .val (.ref b5), .val (.int (0 : Int32)), .val (.int (1 : Int32)), .val (.int (2 : Int32)), .unset, .unset, .unset, .unset, .unset] [])) _
    refine XS.aload X10.here hx rfl (hb hby at_108) rfl rfl ?_
    show Steps p.tables e below (T10.setTop (mkF m 110 #[.val (.int p1), .val (.int p2), .val (.int p3), .val (.int p4), .val (.int p5), .val (.int p6), .val (.int w1), .val (.int ((3 : Int32) * w1)), .val (.int ia), .val (.int ib), .val (.int ic), .val (.ref b5), .val (.int (0 : Int32)), .val (.int (1 : Int32)), .val (.int (2 : Int32)), .unset, .unset, .unset, .unset, .unset] [(.ref b5)])) _
    refine XS.iload X10.here hx rfl (hb hby at_110) rfl ?_
    show Steps p.tables e below (T10.setTop (mkF m 112 #[.val (.int p1), .val (.int p2), .val (.int p3), .val (.int p4), .val (.int p5), .val (.int p6), .val (.int w1), .val (.int ((3 : Int32) * w1)), .val (.int ia), .val (.int ib), .val (.int ic), .val (.ref b5), .val (.int (0 : Int32)), .val (.int (1 : Int32)), .val (.int (2 : Int32)), .unset, .unset, .unset, .unset, .unset] [(.int ib), (.ref b5)])) _
    refine XS.iload X10.here hx rfl (hb hby at_112) rfl ?_
    show Steps p.tables e below (T10.setTop (mkF m 114 #[.val (.int p1), .val (.int p2), .val (.int p3), .val (.int p4), .val (.int p5), .val (.int p6), .val (.int w1), .val (.int ((3 : Int32) * w1)), .val (.int ia), .val (.int ib), .val (.int ic), .val (.ref b5), .val (.int (0 : Int32)), .val (.int (1 : Int32)), .val (.int (2 : Int32)), .unset, .unset, .unset, .unset, .unset] [(.int w1), (.int ib), (.ref b5)])) _
    refine XS.idiv X10.here hx rfl (hb hby at_114) rfl hwne ?_
    show Steps p.tables e below (T10.setTop (mkF m 115 #[.val (.int p1), .val (.int p2), .val (.int p3), .val (.int p4), .val (.int p5), .val (.int p6), .val (.int w1), .val (.int ((3 : Int32) * w1)), .val (.int ia), .val (.int ib), .val (.int ic), .val (.ref b5), .val (.int (0 : Int32)), .val (.int (1 : Int32)), .val (.int (2 : Int32)), .unset, .unset, .unset, .unset, .unset] [(.int (ib / w1)), (.ref b5)])) _
    refine XS.iload X10.here hx rfl (hb hby at_115) rfl ?_
    show Steps p.tables e below (T10.setTop (mkF m 117 #[.val (.int p1), .val (.int p2), .val (.int p3), .val (.int p4), .val (.int p5), .val (.int p6), .val (.int w1), .val (.int ((3 : Int32) * w1)), .val (.int ia), .val (.int ib), .val (.int ic), .val (.ref b5), .val (.int (0 : Int32)), .val (.int (1 : Int32)), .val (.int (2 : Int32)), .unset, .unset, .unset, .unset, .unset] [(.int ib), (.int (ib / w1)), (.ref b5)])) _
    refine XS.iload X10.here hx rfl (hb hby at_117) rfl ?_
    show Steps p.tables e below (T10.setTop (mkF m 119 #[.val (.int p1), .val (.int p2), .val (.int p3), .val (.int p4), .val (.int p5), .val (.int p6), .val (.int w1), .val (.int ((3 : Int32) * w1)), .val (.int ia), .val (.int ib), .val (.int ic), .val (.ref b5), .val (.int (0 : Int32)), .val (.int (1 : Int32)), .val (.int (2 : Int32)), .unset, .unset, .unset, .unset, .unset] [(.int w1), (.int ib), (.int (ib / w1)), (.ref b5)])) _
    refine iremM (g := (mkF m 119 #[.val (.int p1), .val (.int p2), .val (.int p3), .val (.int p4), .val (.int p5), .val (.int p6), .val (.int w1), .val (.int ((3 : Int32) * w1)), .val (.int ia), .val (.int ib), .val (.int ic), .val (.ref b5), .val (.int (0 : Int32)), .val (.int (1 : Int32)), .val (.int (2 : Int32)), .unset, .unset, .unset, .unset, .unset] [(.int w1), (.int ib), (.int (ib / w1)), (.ref b5)])) X10 hx rfl (hb hby at_119) rfl hwne ?_
    show Steps p.tables e below (T10.setTop (mkF m 120 #[.val (.int p1), .val (.int p2), .val (.int p3), .val (.int p4), .val (.int p5), .val (.int p6), .val (.int w1), .val (.int ((3 : Int32) * w1)), .val (.int ia), .val (.int ib), .val (.int ic), .val (.ref b5), .val (.int (0 : Int32)), .val (.int (1 : Int32)), .val (.int (2 : Int32)), .unset, .unset, .unset, .unset, .unset] [(.int (ib % w1)), (.int (ib / w1)), (.ref b5)])) _
    refine XS.iload X10.here hx rfl (hb hby at_120) rfl ?_
    show Steps p.tables e below (T10.setTop (mkF m 122 #[.val (.int p1), .val (.int p2), .val (.int p3), .val (.int p4), .val (.int p5), .val (.int p6), .val (.int w1), .val (.int ((3 : Int32) * w1)), .val (.int ia), .val (.int ib), .val (.int ic), .val (.ref b5), .val (.int (0 : Int32)), .val (.int (1 : Int32)), .val (.int (2 : Int32)), .unset, .unset, .unset, .unset, .unset] [(.int p6), (.int (ib % w1)), (.int (ib / w1)), (.ref b5)])) _
    refine st11.trans ?_
    exact kt
  by_cases c125_13 : ia = ib
  · obtain ⟨cq14, kq14, q14a, q14b, q14c⟩ := isOf hZ rfl ((Ea9.keep K10).keep K11)
    obtain ⟨_, _, ⟨T14, L14, k14, n14⟩, -, X14, ⟨Lc14, hQ14, l14, y14, z14⟩, st14⟩ := X11.virtualBack hx (y := (⟨"com/example/muniment_room/munimentroom/categorizer/Columns", "get", "(II)I"⟩ : MethodName)) (z := (⟨"com/example/muniment_room/munimentroom/categorizer/Columns", "get", "(II)I"⟩ : MethodName)) hown (mvT hZ (hw _ (List.mem_of_getElem? (i := 30) rfl))) (mvT hZ (hw _ (List.mem_of_getElem? (i := 31) rfl))) (notFace_of_selects (args := #[]) (mvT hZ (hw _ (List.mem_of_getElem? (i := 33) rfl)))) (mvT hZ (hw _ (List.mem_of_getElem? (i := 33) rfl))) (mvT hZ (hw _ (List.mem_of_getElem? (i := 32) rfl))) (by decide) (backOf (W := 0) (rmG l Z a0 hw [] b5 b6 c7 kb6 kc7 w1 (ia / w1) (ia % w1) p6 ia ((ib, .int p6) :: ((ia, .int p5) :: [])) T11.heap n0 (Nat.le_trans (Nat.le_trans (Nat.le_trans (Nat.le_trans (Nat.le_trans (Nat.le_trans (Nat.le_trans Z0 E5.1) K6.1) K7.1) K8.1) K9.1) K10.1) K11.1) ((Fw9.keep K10 (ninS hne_ac nin0)).keep K11 (ninS hne_ac nin0)) ((Fb9.keep K10 (ninS hne_ac nin0)).keep K11 (ninS hne_ac nin0)) ((((Vb7.keep K8 (ninS (Ne.symm hne_ab) nin0)).keep K9 (ninS (Ne.symm hne_ab) nin0)).keep K10 (ninS hne_bc nin0)).keep K11 (ninS hne_bc nin0)) Vc11 x_ia.1 x_ia.2.1 x_ia.2.2  (getH_hit (x_ia.2.2).1 c125_13)) hZ (hw _ (List.mem_of_getElem? (i := 34) rfl)) (hw _ (List.mem_of_getElem? (i := 3) rfl)) (by decide) (by decide)) q14a q14c (g := (mkF m 137 #[.val (.int p1), .val (.int p2), .val (.int p3), .val (.int p4), .val (.int p5), .val (.int p6), .val (.int w1), .val (.int ((3 : Int32) * w1)), .val (.int ia), .val (.int ib), .val (.int ic), .val (.ref b5), .val (.int (0 : Int32)), .val (.int (1 : Int32)), .val (.int (2 : Int32)), .unset, .unset, .unset, .unset, .unset] [(.int (ia % w1)), (.int (ia / w1)), (.ref b5)])) rfl (by rw [hml]; rfl) (Steps.refl _) (argsL := [(.int (ia / w1)), (.int (ia % w1))]) (rest := []) (lenOf pd_rm0_3 rfl) rfl (by show 2 * 0 + _ ≤ _; exact Nat.le_of_eq rfl) (hb hby at_137) (fun _ _ => ⟨rfl, rfl, (by decide : 3 + 0 ≤ _), (by decide : 4100 + 0 ≤ _)⟩)
    dsimp only [Pt.U, Pt.locs, Pt.cells, Pt.slots] at X14 l14 y14 z14 st14 hQ14
    subst l14 y14 z14
    obtain ⟨rfl, N14q, hE14⟩ := hQ14
    have N14 := Fr.app N11 N14q
    obtain ⟨cq15, kq15, q15a, q15b, q15c⟩ := isOf hZ hE14 ((Ea9.keep K10).keep K11)
    obtain ⟨_, _, ⟨T15, L15, k15, n15⟩, -, X15, ⟨Lc15, hQ15, l15, y15, z15⟩, st15⟩ := X14.virtualBack hx (y := (⟨"com/example/muniment_room/munimentroom/categorizer/Columns", "get", "(II)I"⟩ : MethodName)) (z := (⟨"com/example/muniment_room/munimentroom/categorizer/Columns", "get", "(II)I"⟩ : MethodName)) hown (mvT hZ (hw _ (List.mem_of_getElem? (i := 30) rfl))) (mvT hZ (hw _ (List.mem_of_getElem? (i := 31) rfl))) (notFace_of_selects (args := #[]) (mvT hZ (hw _ (List.mem_of_getElem? (i := 33) rfl)))) (mvT hZ (hw _ (List.mem_of_getElem? (i := 33) rfl))) (mvT hZ (hw _ (List.mem_of_getElem? (i := 32) rfl))) (by decide) (backOf (W := 0) (rmG l Z a0 hw [] b5 b6 c7 kb6 kc7 w1 (ib / w1) (ib % w1) p6 ib ((ib, .int p6) :: ((ia, .int p5) :: [])) T11.heap n0 (Nat.le_trans (Nat.le_trans (Nat.le_trans (Nat.le_trans (Nat.le_trans (Nat.le_trans (Nat.le_trans Z0 E5.1) K6.1) K7.1) K8.1) K9.1) K10.1) K11.1) ((Fw9.keep K10 (ninS hne_ac nin0)).keep K11 (ninS hne_ac nin0)) ((Fb9.keep K10 (ninS hne_ac nin0)).keep K11 (ninS hne_ac nin0)) ((((Vb7.keep K8 (ninS (Ne.symm hne_ab) nin0)).keep K9 (ninS (Ne.symm hne_ab) nin0)).keep K10 (ninS hne_bc nin0)).keep K11 (ninS hne_bc nin0)) Vc11 x_ib.1 x_ib.2.1 x_ib.2.2  (getH_hit (x_ib.2.2).1 (rfl : ib = ib))) hZ (hw _ (List.mem_of_getElem? (i := 34) rfl)) (hw _ (List.mem_of_getElem? (i := 3) rfl)) (by decide) (by decide)) q15a q15c (g := (mkF m 154 #[.val (.int p1), .val (.int p2), .val (.int p3), .val (.int p4), .val (.int p5), .val (.int p6), .val (.int w1), .val (.int ((3 : Int32) * w1)), .val (.int ia), .val (.int ib), .val (.int ic), .val (.ref b5), .val (.int (0 : Int32)), .val (.int (1 : Int32)), .val (.int (2 : Int32)), .val (.int p6), .unset, .unset, .unset, .unset] [(.int (ib % w1)), (.int (ib / w1)), (.ref b5)])) rfl (by rw [hml]; rfl) (Steps.refl _) (argsL := [(.int (ib / w1)), (.int (ib % w1))]) (rest := []) (lenOf pd_rm0_3 rfl) rfl (by show 2 * 0 + _ ≤ _; exact Nat.le_of_eq rfl) (hb hby at_154) (fun _ _ => ⟨rfl, hE14, (by decide : 3 + 0 ≤ _), (by decide : 4100 + 0 ≤ _)⟩)
    dsimp only [Pt.U, Pt.locs, Pt.cells, Pt.slots] at X15 l15 y15 z15 st15 hQ15
    subst l15 y15 z15
    obtain ⟨rfl, N15q, hE15⟩ := hQ15
    have N15 := Fr.app N14 N15q
    have pre16 : ∀ tt, Steps p.tables e below (T15.setTop (mkF m 159 #[.val (.int p1), .val (.int p2), .val (.int p3), .val (.int p4), .val (.int p5), .val (.int p6), .val (.int w1), .val (.int ((3 : Int32) * w1)), .val (.int ia), .val (.int ib), .val (.int ic), .val (.ref b5), .val (.int (0 : Int32)), .val (.int (1 : Int32)), .val (.int (2 : Int32)), .val (.int p6), .val (.int p6), .unset, .unset, .unset] [])) tt → Steps p.tables e below (s₁.setTop (entryFrame m #[(.int p1), (.int p2), (.int p3), (.int p4), (.int p5), (.int p6)] maxLocals)) tt := by
      intro tt kt
      refine pre12 tt ?_
      show Steps p.tables e below (T11.setTop (mkF m 125 #[.val (.int p1), .val (.int p2), .val (.int p3), .val (.int p4), .val (.int p5), .val (.int p6), .val (.int w1), .val (.int ((3 : Int32) * w1)), .val (.int ia), .val (.int ib), .val (.int ic), .val (.ref b5), .val (.int (0 : Int32)), .val (.int (1 : Int32)), .val (.int (2 : Int32)), .unset, .unset, .unset, .unset, .unset] [])) _
      refine XS.aload X11.here hx rfl (hb hby at_125) rfl rfl ?_
      show Steps p.tables e below (T11.setTop (mkF m 127 #[.val (.int p1), .val (.int p2), .val (.int p3), .val (.int p4), .val (.int p5), .val (.int p6), .val (.int w1), .val (.int ((3 : Int32) * w1)), .val (.int ia), .val (.int ib), .val (.int ic), .val (.ref b5), .val (.int (0 : Int32)), .val (.int (1 : Int32)), .val (.int (2 : Int32)), .unset, .unset, .unset, .unset, .unset] [(.ref b5)])) _
      refine XS.iload X11.here hx rfl (hb hby at_127) rfl ?_
      show Steps p.tables e below (T11.setTop (mkF m 129 #[.val (.int p1), .val (.int p2), .val (.int p3), .val (.int p4), .val (.int p5), .val (.int p6), .val (.int w1), .val (.int ((3 : Int32) * w1)), .val (.int ia), .val (.int ib), .val (.int ic), .val (.ref b5), .val (.int (0 : Int32)), .val (.int (1 : Int32)), .val (.int (2 : Int32)), .unset, .unset, .unset, .unset, .unset] [(.int ia), (.ref b5)])) _
      refine XS.iload X11.here hx rfl (hb hby at_129) rfl ?_
      show Steps p.tables e below (T11.setTop (mkF m 131 #[.val (.int p1), .val (.int p2), .val (.int p3), .val (.int p4), .val (.int p5), .val (.int p6), .val (.int w1), .val (.int ((3 : Int32) * w1)), .val (.int ia), .val (.int ib), .val (.int ic), .val (.ref b5), .val (.int (0 : Int32)), .val (.int (1 : Int32)), .val (.int (2 : Int32)), .unset, .unset, .unset, .unset, .unset] [(.int w1), (.int ia), (.ref b5)])) _
      refine XS.idiv X11.here hx rfl (hb hby at_131) rfl hwne ?_
      show Steps p.tables e below (T11.setTop (mkF m 132 #[.val (.int p1), .val (.int p2), .val (.int p3), .val (.int p4), .val (.int p5), .val (.int p6), .val (.int w1), .val (.int ((3 : Int32) * w1)), .val (.int ia), .val (.int ib), .val (.int ic), .val (.ref b5), .val (.int (0 : Int32)), .val (.int (1 : Int32)), .val (.int (2 : Int32)), .unset, .unset, .unset, .unset, .unset] [(.int (ia / w1)), (.ref b5)])) _
      refine XS.iload X11.here hx rfl (hb hby at_132) rfl ?_
      show Steps p.tables e below (T11.setTop (mkF m 134 #[.val (.int p1), .val (.int p2), .val (.int p3), .val (.int p4), .val (.int p5), .val (.int p6), .val (.int w1), .val (.int ((3 : Int32) * w1)), .val (.int ia), .val (.int ib), .val (.int ic), .val (.ref b5), .val (.int (0 : Int32)), .val (.int (1 : Int32)), .val (.int (2 : Int32)), .unset, .unset, .unset, .unset, .unset] [(.int ia), (.int (ia / w1)), (.ref b5)])) _
      refine XS.iload X11.here hx rfl (hb hby at_134) rfl ?_
      show Steps p.tables e below (T11.setTop (mkF m 136 #[.val (.int p1), .val (.int p2), .val (.int p3), .val (.int p4), .val (.int p5), .val (.int p6), .val (.int w1), .val (.int ((3 : Int32) * w1)), .val (.int ia), .val (.int ib), .val (.int ic), .val (.ref b5), .val (.int (0 : Int32)), .val (.int (1 : Int32)), .val (.int (2 : Int32)), .unset, .unset, .unset, .unset, .unset] [(.int w1), (.int ia), (.int (ia / w1)), (.ref b5)])) _
      refine iremM (g := (mkF m 136 #[.val (.int p1), .val (.int p2), .val (.int p3), .val (.int p4), .val (.int p5), .val (.int p6), .val (.int w1), .val (.int ((3 : Int32) * w1)), .val (.int ia), .val (.int ib), .val (.int ic), .val (.ref b5), .val (.int (0 : Int32)), .val (.int (1 : Int32)), .val (.int (2 : Int32)), .unset, .unset, .unset, .unset, .unset] [(.int w1), (.int ia), (.int (ia / w1)), (.ref b5)])) X11 hx rfl (hb hby at_136) rfl hwne ?_
      show Steps p.tables e below (T11.setTop (mkF m 137 #[.val (.int p1), .val (.int p2), .val (.int p3), .val (.int p4), .val (.int p5), .val (.int p6), .val (.int w1), .val (.int ((3 : Int32) * w1)), .val (.int ia), .val (.int ib), .val (.int ic), .val (.ref b5), .val (.int (0 : Int32)), .val (.int (1 : Int32)), .val (.int (2 : Int32)), .unset, .unset, .unset, .unset, .unset] [(.int (ia % w1)), (.int (ia / w1)), (.ref b5)])) _
      refine st14.trans ?_
      show Steps p.tables e below (T14.setTop (mkF m 140 #[.val (.int p1), .val (.int p2), .val (.int p3), .val (.int p4), .val (.int p5), .val (.int p6), .val (.int w1), .val (.int ((3 : Int32) * w1)), .val (.int ia), .val (.int ib), .val (.int ic), .val (.ref b5), .val (.int (0 : Int32)), .val (.int (1 : Int32)), .val (.int (2 : Int32)), .unset, .unset, .unset, .unset, .unset] [(.int p6)])) _
      refine XS.istore X14.here hx rfl (hb hby at_140) rfl (l' := #[.val (.int p1), .val (.int p2), .val (.int p3), .val (.int p4), .val (.int p5), .val (.int p6), .val (.int w1), .val (.int ((3 : Int32) * w1)), .val (.int ia), .val (.int ib), .val (.int ic), .val (.ref b5), .val (.int (0 : Int32)), .val (.int (1 : Int32)), .val (.int (2 : Int32)), .val (.int p6), .unset, .unset, .unset, .unset]) rfl ?_
      show Steps p.tables e below (T14.setTop (mkF m 142 #[.val (.int p1), .val (.int p2), .val (.int p3), .val (.int p4), .val (.int p5), .val (.int p6), .val (.int w1), .val (.int ((3 : Int32) * w1)), .val (.int ia), .val (.int ib), .val (.int ic), .val (.ref b5), .val (.int (0 : Int32)), .val (.int (1 : Int32)), .val (.int (2 : Int32)), .val (.int p6), .unset, .unset, .unset, .unset] [])) _
      refine XS.aload X14.here hx rfl (hb hby at_142) rfl rfl ?_
      show Steps p.tables e below (T14.setTop (mkF m 144 #[.val (.int p1), .val (.int p2), .val (.int p3), .val (.int p4), .val (.int p5), .val (.int p6), .val (.int w1), .val (.int ((3 : Int32) * w1)), .val (.int ia), .val (.int ib), .val (.int ic), .val (.ref b5), .val (.int (0 : Int32)), .val (.int (1 : Int32)), .val (.int (2 : Int32)), .val (.int p6), .unset, .unset, .unset, .unset] [(.ref b5)])) _
      refine XS.iload X14.here hx rfl (hb hby at_144) rfl ?_
      show Steps p.tables e below (T14.setTop (mkF m 146 #[.val (.int p1), .val (.int p2), .val (.int p3), .val (.int p4), .val (.int p5), .val (.int p6), .val (.int w1), .val (.int ((3 : Int32) * w1)), .val (.int ia), .val (.int ib), .val (.int ic), .val (.ref b5), .val (.int (0 : Int32)), .val (.int (1 : Int32)), .val (.int (2 : Int32)), .val (.int p6), .unset, .unset, .unset, .unset] [(.int ib), (.ref b5)])) _
      refine XS.iload X14.here hx rfl (hb hby at_146) rfl ?_
      show Steps p.tables e below (T14.setTop (mkF m 148 #[.val (.int p1), .val (.int p2), .val (.int p3), .val (.int p4), .val (.int p5), .val (.int p6), .val (.int w1), .val (.int ((3 : Int32) * w1)), .val (.int ia), .val (.int ib), .val (.int ic), .val (.ref b5), .val (.int (0 : Int32)), .val (.int (1 : Int32)), .val (.int (2 : Int32)), .val (.int p6), .unset, .unset, .unset, .unset] [(.int w1), (.int ib), (.ref b5)])) _
      refine XS.idiv X14.here hx rfl (hb hby at_148) rfl hwne ?_
      show Steps p.tables e below (T14.setTop (mkF m 149 #[.val (.int p1), .val (.int p2), .val (.int p3), .val (.int p4), .val (.int p5), .val (.int p6), .val (.int w1), .val (.int ((3 : Int32) * w1)), .val (.int ia), .val (.int ib), .val (.int ic), .val (.ref b5), .val (.int (0 : Int32)), .val (.int (1 : Int32)), .val (.int (2 : Int32)), .val (.int p6), .unset, .unset, .unset, .unset] [(.int (ib / w1)), (.ref b5)])) _
      refine XS.iload X14.here hx rfl (hb hby at_149) rfl ?_
      show Steps p.tables e below (T14.setTop (mkF m 151 #[.val (.int p1), .val (.int p2), .val (.int p3), .val (.int p4), .val (.int p5), .val (.int p6), .val (.int w1), .val (.int ((3 : Int32) * w1)), .val (.int ia), .val (.int ib), .val (.int ic), .val (.ref b5), .val (.int (0 : Int32)), .val (.int (1 : Int32)), .val (.int (2 : Int32)), .val (.int p6), .unset, .unset, .unset, .unset] [(.int ib), (.int (ib / w1)), (.ref b5)])) _
      refine XS.iload X14.here hx rfl (hb hby at_151) rfl ?_
      show Steps p.tables e below (T14.setTop (mkF m 153 #[.val (.int p1), .val (.int p2), .val (.int p3), .val (.int p4), .val (.int p5), .val (.int p6), .val (.int w1), .val (.int ((3 : Int32) * w1)), .val (.int ia), .val (.int ib), .val (.int ic), .val (.ref b5), .val (.int (0 : Int32)), .val (.int (1 : Int32)), .val (.int (2 : Int32)), .val (.int p6), .unset, .unset, .unset, .unset] [(.int w1), (.int ib), (.int (ib / w1)), (.ref b5)])) _
      refine iremM (g := (mkF m 153 #[.val (.int p1), .val (.int p2), .val (.int p3), .val (.int p4), .val (.int p5), .val (.int p6), .val (.int w1), .val (.int ((3 : Int32) * w1)), .val (.int ia), .val (.int ib), .val (.int ic), .val (.ref b5), .val (.int (0 : Int32)), .val (.int (1 : Int32)), .val (.int (2 : Int32)), .val (.int p6), .unset, .unset, .unset, .unset] [(.int w1), (.int ib), (.int (ib / w1)), (.ref b5)])) X14 hx rfl (hb hby at_153) rfl hwne ?_
      show Steps p.tables e below (T14.setTop (mkF m 154 #[.val (.int p1), .val (.int p2), .val (.int p3), .val (.int p4), .val (.int p5), .val (.int p6), .val (.int w1), .val (.int ((3 : Int32) * w1)), .val (.int ia), .val (.int ib), .val (.int ic), .val (.ref b5), .val (.int (0 : Int32)), .val (.int (1 : Int32)), .val (.int (2 : Int32)), .val (.int p6), .unset, .unset, .unset, .unset] [(.int (ib % w1)), (.int (ib / w1)), (.ref b5)])) _
      refine st15.trans ?_
      show Steps p.tables e below (T15.setTop (mkF m 157 #[.val (.int p1), .val (.int p2), .val (.int p3), .val (.int p4), .val (.int p5), .val (.int p6), .val (.int w1), .val (.int ((3 : Int32) * w1)), .val (.int ia), .val (.int ib), .val (.int ic), .val (.ref b5), .val (.int (0 : Int32)), .val (.int (1 : Int32)), .val (.int (2 : Int32)), .val (.int p6), .unset, .unset, .unset, .unset] [(.int p6)])) _
      refine XS.istore X15.here hx rfl (hb hby at_157) rfl (l' := #[.val (.int p1), .val (.int p2), .val (.int p3), .val (.int p4), .val (.int p5), .val (.int p6), .val (.int w1), .val (.int ((3 : Int32) * w1)), .val (.int ia), .val (.int ib), .val (.int ic), .val (.ref b5), .val (.int (0 : Int32)), .val (.int (1 : Int32)), .val (.int (2 : Int32)), .val (.int p6), .val (.int p6), .unset, .unset, .unset]) rfl ?_
      exact kt
    by_cases c159_17 : ic = ib
    · have pre18 : ∀ tt, Steps p.tables e below (T15.setTop (mkF m 161 #[.val (.int p1), .val (.int p2), .val (.int p3), .val (.int p4), .val (.int p5), .val (.int p6), .val (.int w1), .val (.int ((3 : Int32) * w1)), .val (.int ia), .val (.int ib), .val (.int ic), .val (.ref b5), .val (.int (0 : Int32)), .val (.int (1 : Int32)), .val (.int (2 : Int32)), .val (.int p6), .val (.int p6), .unset, .unset, .unset] [(.ref b5)])) tt → Steps p.tables e below (s₁.setTop (entryFrame m #[(.int p1), (.int p2), (.int p3), (.int p4), (.int p5), (.int p6)] maxLocals)) tt := by
        intro tt kt
        refine pre16 tt ?_
        show Steps p.tables e below (T15.setTop (mkF m 159 #[.val (.int p1), .val (.int p2), .val (.int p3), .val (.int p4), .val (.int p5), .val (.int p6), .val (.int w1), .val (.int ((3 : Int32) * w1)), .val (.int ia), .val (.int ib), .val (.int ic), .val (.ref b5), .val (.int (0 : Int32)), .val (.int (1 : Int32)), .val (.int (2 : Int32)), .val (.int p6), .val (.int p6), .unset, .unset, .unset] [])) _
        refine XS.aload X15.here hx rfl (hb hby at_159) rfl rfl ?_
        exact kt
      by_cases c161_19 : ic = ia
      · obtain ⟨cq20, kq20, q20a, q20b, q20c⟩ := isOf hZ hE15 ((Ea9.keep K10).keep K11)
        obtain ⟨_, _, ⟨T20, L20, k20, n20⟩, -, X20, ⟨Lc20, hQ20, l20, y20, z20⟩, st20⟩ := X15.virtualBack hx (y := (⟨"com/example/muniment_room/munimentroom/categorizer/Columns", "get", "(II)I"⟩ : MethodName)) (z := (⟨"com/example/muniment_room/munimentroom/categorizer/Columns", "get", "(II)I"⟩ : MethodName)) hown (mvT hZ (hw _ (List.mem_of_getElem? (i := 30) rfl))) (mvT hZ (hw _ (List.mem_of_getElem? (i := 31) rfl))) (notFace_of_selects (args := #[]) (mvT hZ (hw _ (List.mem_of_getElem? (i := 33) rfl)))) (mvT hZ (hw _ (List.mem_of_getElem? (i := 33) rfl))) (mvT hZ (hw _ (List.mem_of_getElem? (i := 32) rfl))) (by decide) (backOf (W := 0) (rmG l Z a0 hw [] b5 b6 c7 kb6 kc7 w1 (ic / w1) (ic % w1) p6 ic ((ib, .int p6) :: ((ia, .int p5) :: [])) T11.heap n0 (Nat.le_trans (Nat.le_trans (Nat.le_trans (Nat.le_trans (Nat.le_trans (Nat.le_trans (Nat.le_trans Z0 E5.1) K6.1) K7.1) K8.1) K9.1) K10.1) K11.1) ((Fw9.keep K10 (ninS hne_ac nin0)).keep K11 (ninS hne_ac nin0)) ((Fb9.keep K10 (ninS hne_ac nin0)).keep K11 (ninS hne_ac nin0)) ((((Vb7.keep K8 (ninS (Ne.symm hne_ab) nin0)).keep K9 (ninS (Ne.symm hne_ab) nin0)).keep K10 (ninS hne_bc nin0)).keep K11 (ninS hne_bc nin0)) Vc11 x_ic.1 x_ic.2.1 x_ic.2.2  (getH_hit (x_ic.2.2).1 c159_17)) hZ (hw _ (List.mem_of_getElem? (i := 34) rfl)) (hw _ (List.mem_of_getElem? (i := 3) rfl)) (by decide) (by decide)) q20a q20c (g := (mkF m 171 #[.val (.int p1), .val (.int p2), .val (.int p3), .val (.int p4), .val (.int p5), .val (.int p6), .val (.int w1), .val (.int ((3 : Int32) * w1)), .val (.int ia), .val (.int ib), .val (.int ic), .val (.ref b5), .val (.int (0 : Int32)), .val (.int (1 : Int32)), .val (.int (2 : Int32)), .val (.int p6), .val (.int p6), .unset, .unset, .unset] [(.int (ic % w1)), (.int (ic / w1)), (.ref b5)])) rfl (by rw [hml]; rfl) (Steps.refl _) (argsL := [(.int (ic / w1)), (.int (ic % w1))]) (rest := []) (lenOf pd_rm0_3 rfl) rfl (by show 2 * 0 + _ ≤ _; exact Nat.le_of_eq rfl) (hb hby at_171) (fun _ _ => ⟨rfl, hE15, (by decide : 3 + 0 ≤ _), (by decide : 4100 + 0 ≤ _)⟩)
        dsimp only [Pt.U, Pt.locs, Pt.cells, Pt.slots] at X20 l20 y20 z20 st20 hQ20
        subst l20 y20 z20
        obtain ⟨rfl, N20q, hE20⟩ := hQ20
        have N20 := Fr.app N15 N20q
        have pre21 : ∀ tt, Steps p.tables e below (T20.setTop (mkF m 249 #[.val (.int p1), .val (.int p2), .val (.int p3), .val (.int p4), .val (.int p5), .val (.int p6), .val (.int w1), .val (.int ((3 : Int32) * w1)), .val (.int ia), .val (.int ib), .val (.int ic), .val (.ref b5), .val (.int (0 : Int32)), .val (.int (1 : Int32)), .val (.int (2 : Int32)), .val (.int p6), .val (.int p6), .val (.int p6), .val (.int p6), .val (.int p6)] [(.int (1 : Int32))])) tt → Steps p.tables e below (s₁.setTop (entryFrame m #[(.int p1), (.int p2), (.int p3), (.int p4), (.int p5), (.int p6)] maxLocals)) tt := by
          intro tt kt
          refine pre18 tt ?_
          show Steps p.tables e below (T15.setTop (mkF m 161 #[.val (.int p1), .val (.int p2), .val (.int p3), .val (.int p4), .val (.int p5), .val (.int p6), .val (.int w1), .val (.int ((3 : Int32) * w1)), .val (.int ia), .val (.int ib), .val (.int ic), .val (.ref b5), .val (.int (0 : Int32)), .val (.int (1 : Int32)), .val (.int (2 : Int32)), .val (.int p6), .val (.int p6), .unset, .unset, .unset] [(.ref b5)])) _
          refine XS.iload X15.here hx rfl (hb hby at_161) rfl ?_
          show Steps p.tables e below (T15.setTop (mkF m 163 #[.val (.int p1), .val (.int p2), .val (.int p3), .val (.int p4), .val (.int p5), .val (.int p6), .val (.int w1), .val (.int ((3 : Int32) * w1)), .val (.int ia), .val (.int ib), .val (.int ic), .val (.ref b5), .val (.int (0 : Int32)), .val (.int (1 : Int32)), .val (.int (2 : Int32)), .val (.int p6), .val (.int p6), .unset, .unset, .unset] [(.int ic), (.ref b5)])) _
          refine XS.iload X15.here hx rfl (hb hby at_163) rfl ?_
          show Steps p.tables e below (T15.setTop (mkF m 165 #[.val (.int p1), .val (.int p2), .val (.int p3), .val (.int p4), .val (.int p5), .val (.int p6), .val (.int w1), .val (.int ((3 : Int32) * w1)), .val (.int ia), .val (.int ib), .val (.int ic), .val (.ref b5), .val (.int (0 : Int32)), .val (.int (1 : Int32)), .val (.int (2 : Int32)), .val (.int p6), .val (.int p6), .unset, .unset, .unset] [(.int w1), (.int ic), (.ref b5)])) _
          refine XS.idiv X15.here hx rfl (hb hby at_165) rfl hwne ?_
          show Steps p.tables e below (T15.setTop (mkF m 166 #[.val (.int p1), .val (.int p2), .val (.int p3), .val (.int p4), .val (.int p5), .val (.int p6), .val (.int w1), .val (.int ((3 : Int32) * w1)), .val (.int ia), .val (.int ib), .val (.int ic), .val (.ref b5), .val (.int (0 : Int32)), .val (.int (1 : Int32)), .val (.int (2 : Int32)), .val (.int p6), .val (.int p6), .unset, .unset, .unset] [(.int (ic / w1)), (.ref b5)])) _
          refine XS.iload X15.here hx rfl (hb hby at_166) rfl ?_
          show Steps p.tables e below (T15.setTop (mkF m 168 #[.val (.int p1), .val (.int p2), .val (.int p3), .val (.int p4), .val (.int p5), .val (.int p6), .val (.int w1), .val (.int ((3 : Int32) * w1)), .val (.int ia), .val (.int ib), .val (.int ic), .val (.ref b5), .val (.int (0 : Int32)), .val (.int (1 : Int32)), .val (.int (2 : Int32)), .val (.int p6), .val (.int p6), .unset, .unset, .unset] [(.int ic), (.int (ic / w1)), (.ref b5)])) _
          refine XS.iload X15.here hx rfl (hb hby at_168) rfl ?_
          show Steps p.tables e below (T15.setTop (mkF m 170 #[.val (.int p1), .val (.int p2), .val (.int p3), .val (.int p4), .val (.int p5), .val (.int p6), .val (.int w1), .val (.int ((3 : Int32) * w1)), .val (.int ia), .val (.int ib), .val (.int ic), .val (.ref b5), .val (.int (0 : Int32)), .val (.int (1 : Int32)), .val (.int (2 : Int32)), .val (.int p6), .val (.int p6), .unset, .unset, .unset] [(.int w1), (.int ic), (.int (ic / w1)), (.ref b5)])) _
          refine iremM (g := (mkF m 170 #[.val (.int p1), .val (.int p2), .val (.int p3), .val (.int p4), .val (.int p5), .val (.int p6), .val (.int w1), .val (.int ((3 : Int32) * w1)), .val (.int ia), .val (.int ib), .val (.int ic), .val (.ref b5), .val (.int (0 : Int32)), .val (.int (1 : Int32)), .val (.int (2 : Int32)), .val (.int p6), .val (.int p6), .unset, .unset, .unset] [(.int w1), (.int ic), (.int (ic / w1)), (.ref b5)])) X15 hx rfl (hb hby at_170) rfl hwne ?_
          show Steps p.tables e below (T15.setTop (mkF m 171 #[.val (.int p1), .val (.int p2), .val (.int p3), .val (.int p4), .val (.int p5), .val (.int p6), .val (.int w1), .val (.int ((3 : Int32) * w1)), .val (.int ia), .val (.int ib), .val (.int ic), .val (.ref b5), .val (.int (0 : Int32)), .val (.int (1 : Int32)), .val (.int (2 : Int32)), .val (.int p6), .val (.int p6), .unset, .unset, .unset] [(.int (ic % w1)), (.int (ic / w1)), (.ref b5)])) _
          refine st20.trans ?_
          show Steps p.tables e below (T20.setTop (mkF m 174 #[.val (.int p1), .val (.int p2), .val (.int p3), .val (.int p4), .val (.int p5), .val (.int p6), .val (.int w1), .val (.int ((3 : Int32) * w1)), .val (.int ia), .val (.int ib), .val (.int ic), .val (.ref b5), .val (.int (0 : Int32)), .val (.int (1 : Int32)), .val (.int (2 : Int32)), .val (.int p6), .val (.int p6), .unset, .unset, .unset] [(.int p6)])) _
          refine XS.istore X20.here hx rfl (hb hby at_174) rfl (l' := #[.val (.int p1), .val (.int p2), .val (.int p3), .val (.int p4), .val (.int p5), .val (.int p6), .val (.int w1), .val (.int ((3 : Int32) * w1)), .val (.int ia), .val (.int ib), .val (.int ic), .val (.ref b5), .val (.int (0 : Int32)), .val (.int (1 : Int32)), .val (.int (2 : Int32)), .val (.int p6), .val (.int p6), .val (.int p6), .unset, .unset]) rfl ?_
          show Steps p.tables e below (T20.setTop (mkF m 176 #[.val (.int p1), .val (.int p2), .val (.int p3), .val (.int p4), .val (.int p5), .val (.int p6), .val (.int w1), .val (.int ((3 : Int32) * w1)), .val (.int ia), .val (.int ib), .val (.int ic), .val (.ref b5), .val (.int (0 : Int32)), .val (.int (1 : Int32)), .val (.int (2 : Int32)), .val (.int p6), .val (.int p6), .val (.int p6), .unset, .unset] [])) _
          refine XS.iload X20.here hx rfl (hb hby at_176) rfl ?_
          show Steps p.tables e below (T20.setTop (mkF m 178 #[.val (.int p1), .val (.int p2), .val (.int p3), .val (.int p4), .val (.int p5), .val (.int p6), .val (.int w1), .val (.int ((3 : Int32) * w1)), .val (.int ia), .val (.int ib), .val (.int ic), .val (.ref b5), .val (.int (0 : Int32)), .val (.int (1 : Int32)), .val (.int (2 : Int32)), .val (.int p6), .val (.int p6), .val (.int p6), .unset, .unset] [(.int ia)])) _
          refine XS.iload X20.here hx rfl (hb hby at_178) rfl ?_
          show Steps p.tables e below (T20.setTop (mkF m 180 #[.val (.int p1), .val (.int p2), .val (.int p3), .val (.int p4), .val (.int p5), .val (.int p6), .val (.int w1), .val (.int ((3 : Int32) * w1)), .val (.int ia), .val (.int ib), .val (.int ic), .val (.ref b5), .val (.int (0 : Int32)), .val (.int (1 : Int32)), .val (.int (2 : Int32)), .val (.int p6), .val (.int p6), .val (.int p6), .unset, .unset] [(.int ib), (.int ia)])) _
          refine XS.icmpNo X20.here hx rfl (hb hby at_180) rfl (teq c125_13).2 ?_
          show Steps p.tables e below (T20.setTop (mkF m 183 #[.val (.int p1), .val (.int p2), .val (.int p3), .val (.int p4), .val (.int p5), .val (.int p6), .val (.int w1), .val (.int ((3 : Int32) * w1)), .val (.int ia), .val (.int ib), .val (.int ic), .val (.ref b5), .val (.int (0 : Int32)), .val (.int (1 : Int32)), .val (.int (2 : Int32)), .val (.int p6), .val (.int p6), .val (.int p6), .unset, .unset] [])) _
          refine XS.iload X20.here hx rfl (hb hby at_183) rfl ?_
          show Steps p.tables e below (T20.setTop (mkF m 185 #[.val (.int p1), .val (.int p2), .val (.int p3), .val (.int p4), .val (.int p5), .val (.int p6), .val (.int w1), .val (.int ((3 : Int32) * w1)), .val (.int ia), .val (.int ib), .val (.int ic), .val (.ref b5), .val (.int (0 : Int32)), .val (.int (1 : Int32)), .val (.int (2 : Int32)), .val (.int p6), .val (.int p6), .val (.int p6), .unset, .unset] [(.int p6)])) _
          refine XS.goto X20.here hx rfl (pc0 := 185) (pc' := 190) rfl (hb hby at_185) (by decide) (by decide) ?_
          show Steps p.tables e below (T20.setTop (mkF m 190 #[.val (.int p1), .val (.int p2), .val (.int p3), .val (.int p4), .val (.int p5), .val (.int p6), .val (.int w1), .val (.int ((3 : Int32) * w1)), .val (.int ia), .val (.int ib), .val (.int ic), .val (.ref b5), .val (.int (0 : Int32)), .val (.int (1 : Int32)), .val (.int (2 : Int32)), .val (.int p6), .val (.int p6), .val (.int p6), .unset, .unset] [(.int p6)])) _
          refine XS.istore X20.here hx rfl (hb hby at_190) rfl (l' := #[.val (.int p1), .val (.int p2), .val (.int p3), .val (.int p4), .val (.int p5), .val (.int p6), .val (.int w1), .val (.int ((3 : Int32) * w1)), .val (.int ia), .val (.int ib), .val (.int ic), .val (.ref b5), .val (.int (0 : Int32)), .val (.int (1 : Int32)), .val (.int (2 : Int32)), .val (.int p6), .val (.int p6), .val (.int p6), .val (.int p6), .unset]) rfl ?_
          show Steps p.tables e below (T20.setTop (mkF m 192 #[.val (.int p1), .val (.int p2), .val (.int p3), .val (.int p4), .val (.int p5), .val (.int p6), .val (.int w1), .val (.int ((3 : Int32) * w1)), .val (.int ia), .val (.int ib), .val (.int ic), .val (.ref b5), .val (.int (0 : Int32)), .val (.int (1 : Int32)), .val (.int (2 : Int32)), .val (.int p6), .val (.int p6), .val (.int p6), .val (.int p6), .unset] [])) _
          refine XS.iload X20.here hx rfl (hb hby at_192) rfl ?_
          show Steps p.tables e below (T20.setTop (mkF m 194 #[.val (.int p1), .val (.int p2), .val (.int p3), .val (.int p4), .val (.int p5), .val (.int p6), .val (.int w1), .val (.int ((3 : Int32) * w1)), .val (.int ia), .val (.int ib), .val (.int ic), .val (.ref b5), .val (.int (0 : Int32)), .val (.int (1 : Int32)), .val (.int (2 : Int32)), .val (.int p6), .val (.int p6), .val (.int p6), .val (.int p6), .unset] [(.int ic)])) _
          refine XS.iload X20.here hx rfl (hb hby at_194) rfl ?_
          show Steps p.tables e below (T20.setTop (mkF m 196 #[.val (.int p1), .val (.int p2), .val (.int p3), .val (.int p4), .val (.int p5), .val (.int p6), .val (.int w1), .val (.int ((3 : Int32) * w1)), .val (.int ia), .val (.int ib), .val (.int ic), .val (.ref b5), .val (.int (0 : Int32)), .val (.int (1 : Int32)), .val (.int (2 : Int32)), .val (.int p6), .val (.int p6), .val (.int p6), .val (.int p6), .unset] [(.int ib), (.int ic)])) _
          refine XS.icmpNo X20.here hx rfl (hb hby at_196) rfl (teq c159_17).2 ?_
          show Steps p.tables e below (T20.setTop (mkF m 199 #[.val (.int p1), .val (.int p2), .val (.int p3), .val (.int p4), .val (.int p5), .val (.int p6), .val (.int w1), .val (.int ((3 : Int32) * w1)), .val (.int ia), .val (.int ib), .val (.int ic), .val (.ref b5), .val (.int (0 : Int32)), .val (.int (1 : Int32)), .val (.int (2 : Int32)), .val (.int p6), .val (.int p6), .val (.int p6), .val (.int p6), .unset] [])) _
          refine XS.iload X20.here hx rfl (hb hby at_199) rfl ?_
          show Steps p.tables e below (T20.setTop (mkF m 201 #[.val (.int p1), .val (.int p2), .val (.int p3), .val (.int p4), .val (.int p5), .val (.int p6), .val (.int w1), .val (.int ((3 : Int32) * w1)), .val (.int ia), .val (.int ib), .val (.int ic), .val (.ref b5), .val (.int (0 : Int32)), .val (.int (1 : Int32)), .val (.int (2 : Int32)), .val (.int p6), .val (.int p6), .val (.int p6), .val (.int p6), .unset] [(.int p6)])) _
          refine XS.istore X20.here hx rfl (hb hby at_201) rfl (l' := #[.val (.int p1), .val (.int p2), .val (.int p3), .val (.int p4), .val (.int p5), .val (.int p6), .val (.int w1), .val (.int ((3 : Int32) * w1)), .val (.int ia), .val (.int ib), .val (.int ic), .val (.ref b5), .val (.int (0 : Int32)), .val (.int (1 : Int32)), .val (.int (2 : Int32)), .val (.int p6), .val (.int p6), .val (.int p6), .val (.int p6), .val (.int p6)]) rfl ?_
          show Steps p.tables e below (T20.setTop (mkF m 203 #[.val (.int p1), .val (.int p2), .val (.int p3), .val (.int p4), .val (.int p5), .val (.int p6), .val (.int w1), .val (.int ((3 : Int32) * w1)), .val (.int ia), .val (.int ib), .val (.int ic), .val (.ref b5), .val (.int (0 : Int32)), .val (.int (1 : Int32)), .val (.int (2 : Int32)), .val (.int p6), .val (.int p6), .val (.int p6), .val (.int p6), .val (.int p6)] [])) _
          refine XS.goto X20.here hx rfl (pc0 := 203) (pc' := 223) rfl (hb hby at_203) (by decide) (by decide) ?_
          show Steps p.tables e below (T20.setTop (mkF m 223 #[.val (.int p1), .val (.int p2), .val (.int p3), .val (.int p4), .val (.int p5), .val (.int p6), .val (.int w1), .val (.int ((3 : Int32) * w1)), .val (.int ia), .val (.int ib), .val (.int ic), .val (.ref b5), .val (.int (0 : Int32)), .val (.int (1 : Int32)), .val (.int (2 : Int32)), .val (.int p6), .val (.int p6), .val (.int p6), .val (.int p6), .val (.int p6)] [])) _
          refine XS.iload X20.here hx rfl (hb hby at_223) rfl ?_
          show Steps p.tables e below (T20.setTop (mkF m 225 #[.val (.int p1), .val (.int p2), .val (.int p3), .val (.int p4), .val (.int p5), .val (.int p6), .val (.int w1), .val (.int ((3 : Int32) * w1)), .val (.int ia), .val (.int ib), .val (.int ic), .val (.ref b5), .val (.int (0 : Int32)), .val (.int (1 : Int32)), .val (.int (2 : Int32)), .val (.int p6), .val (.int p6), .val (.int p6), .val (.int p6), .val (.int p6)] [(.int p6)])) _
          refine XS.iload X20.here hx rfl (hb hby at_225) rfl ?_
          show Steps p.tables e below (T20.setTop (mkF m 227 #[.val (.int p1), .val (.int p2), .val (.int p3), .val (.int p4), .val (.int p5), .val (.int p6), .val (.int w1), .val (.int ((3 : Int32) * w1)), .val (.int ia), .val (.int ib), .val (.int ic), .val (.ref b5), .val (.int (0 : Int32)), .val (.int (1 : Int32)), .val (.int (2 : Int32)), .val (.int p6), .val (.int p6), .val (.int p6), .val (.int p6), .val (.int p6)] [(.int p6), (.int p6)])) _
          refine XS.icmpNo X20.here hx rfl (hb hby at_227) rfl (teq (rfl : p6 = p6)).2 ?_
          show Steps p.tables e below (T20.setTop (mkF m 230 #[.val (.int p1), .val (.int p2), .val (.int p3), .val (.int p4), .val (.int p5), .val (.int p6), .val (.int w1), .val (.int ((3 : Int32) * w1)), .val (.int ia), .val (.int ib), .val (.int ic), .val (.ref b5), .val (.int (0 : Int32)), .val (.int (1 : Int32)), .val (.int (2 : Int32)), .val (.int p6), .val (.int p6), .val (.int p6), .val (.int p6), .val (.int p6)] [])) _
          refine XS.iload X20.here hx rfl (hb hby at_230) rfl ?_
          show Steps p.tables e below (T20.setTop (mkF m 232 #[.val (.int p1), .val (.int p2), .val (.int p3), .val (.int p4), .val (.int p5), .val (.int p6), .val (.int w1), .val (.int ((3 : Int32) * w1)), .val (.int ia), .val (.int ib), .val (.int ic), .val (.ref b5), .val (.int (0 : Int32)), .val (.int (1 : Int32)), .val (.int (2 : Int32)), .val (.int p6), .val (.int p6), .val (.int p6), .val (.int p6), .val (.int p6)] [(.int p6)])) _
          refine XS.iload X20.here hx rfl (hb hby at_232) rfl ?_
          show Steps p.tables e below (T20.setTop (mkF m 234 #[.val (.int p1), .val (.int p2), .val (.int p3), .val (.int p4), .val (.int p5), .val (.int p6), .val (.int w1), .val (.int ((3 : Int32) * w1)), .val (.int ia), .val (.int ib), .val (.int ic), .val (.ref b5), .val (.int (0 : Int32)), .val (.int (1 : Int32)), .val (.int (2 : Int32)), .val (.int p6), .val (.int p6), .val (.int p6), .val (.int p6), .val (.int p6)] [(.int p6), (.int p6)])) _
          refine XS.icmpNo X20.here hx rfl (hb hby at_234) rfl (teq (rfl : p6 = p6)).2 ?_
          show Steps p.tables e below (T20.setTop (mkF m 237 #[.val (.int p1), .val (.int p2), .val (.int p3), .val (.int p4), .val (.int p5), .val (.int p6), .val (.int w1), .val (.int ((3 : Int32) * w1)), .val (.int ia), .val (.int ib), .val (.int ic), .val (.ref b5), .val (.int (0 : Int32)), .val (.int (1 : Int32)), .val (.int (2 : Int32)), .val (.int p6), .val (.int p6), .val (.int p6), .val (.int p6), .val (.int p6)] [])) _
          refine XS.iload X20.here hx rfl (hb hby at_237) rfl ?_
          show Steps p.tables e below (T20.setTop (mkF m 239 #[.val (.int p1), .val (.int p2), .val (.int p3), .val (.int p4), .val (.int p5), .val (.int p6), .val (.int w1), .val (.int ((3 : Int32) * w1)), .val (.int ia), .val (.int ib), .val (.int ic), .val (.ref b5), .val (.int (0 : Int32)), .val (.int (1 : Int32)), .val (.int (2 : Int32)), .val (.int p6), .val (.int p6), .val (.int p6), .val (.int p6), .val (.int p6)] [(.int p6)])) _
          refine XS.iload X20.here hx rfl (hb hby at_239) rfl ?_
          show Steps p.tables e below (T20.setTop (mkF m 241 #[.val (.int p1), .val (.int p2), .val (.int p3), .val (.int p4), .val (.int p5), .val (.int p6), .val (.int w1), .val (.int ((3 : Int32) * w1)), .val (.int ia), .val (.int ib), .val (.int ic), .val (.ref b5), .val (.int (0 : Int32)), .val (.int (1 : Int32)), .val (.int (2 : Int32)), .val (.int p6), .val (.int p6), .val (.int p6), .val (.int p6), .val (.int p6)] [(.int p6), (.int p6)])) _
          refine XS.icmpNo X20.here hx rfl (hb hby at_241) rfl (teq (rfl : p6 = p6)).2 ?_
          show Steps p.tables e below (T20.setTop (mkF m 244 #[.val (.int p1), .val (.int p2), .val (.int p3), .val (.int p4), .val (.int p5), .val (.int p6), .val (.int w1), .val (.int ((3 : Int32) * w1)), .val (.int ia), .val (.int ib), .val (.int ic), .val (.ref b5), .val (.int (0 : Int32)), .val (.int (1 : Int32)), .val (.int (2 : Int32)), .val (.int p6), .val (.int p6), .val (.int p6), .val (.int p6), .val (.int p6)] [])) _
          refine XS.iconst X20.here hx rfl (hb hby at_244) ?_
          show Steps p.tables e below (T20.setTop (mkF m 245 #[.val (.int p1), .val (.int p2), .val (.int p3), .val (.int p4), .val (.int p5), .val (.int p6), .val (.int w1), .val (.int ((3 : Int32) * w1)), .val (.int ia), .val (.int ib), .val (.int ic), .val (.ref b5), .val (.int (0 : Int32)), .val (.int (1 : Int32)), .val (.int (2 : Int32)), .val (.int p6), .val (.int p6), .val (.int p6), .val (.int p6), .val (.int p6)] [(.int (1 : Int32))])) _
          refine XS.goto X20.here hx rfl (pc0 := 245) (pc' := 249) rfl (hb hby at_245) (by decide) (by decide) ?_
          exact kt
        obtain ⟨fs, hr, hrun, hended, hW, hsame⟩ := X20.leave (v := some (.int (1 : Int32))) (fun h => by rw [Bd.returns] at h; cases h)
        refine ⟨_, _, pre21 _ ?_, hrun, hended, _, _, rfl, ?_, ⟨_, rfl⟩, hW, hsame.mono (by decide) (by decide)⟩
        · show Steps p.tables e below (T20.setTop (mkF m 249 #[.val (.int p1), .val (.int p2), .val (.int p3), .val (.int p4), .val (.int p5), .val (.int p6), .val (.int w1), .val (.int ((3 : Int32) * w1)), .val (.int ia), .val (.int ib), .val (.int ic), .val (.ref b5), .val (.int (0 : Int32)), .val (.int (1 : Int32)), .val (.int (2 : Int32)), .val (.int p6), .val (.int p6), .val (.int p6), .val (.int p6), .val (.int p6)] [(.int (1 : Int32))])) _
          exact retN X20 hx (t := .boolean) Bd.returns (by simp) (hb hby at_249) hr
        · show Q0 Z h0 n0 _ T20.heap _
          rw [hE20]
          exact ⟨rfl, N20⟩
      · obtain ⟨cq22, kq22, q22a, q22b, q22c⟩ := isOf hZ hE15 ((Ea9.keep K10).keep K11)
        obtain ⟨_, _, ⟨T22, L22, k22, n22⟩, -, X22, ⟨Lc22, hQ22, l22, y22, z22⟩, st22⟩ := X15.virtualBack hx (y := (⟨"com/example/muniment_room/munimentroom/categorizer/Columns", "get", "(II)I"⟩ : MethodName)) (z := (⟨"com/example/muniment_room/munimentroom/categorizer/Columns", "get", "(II)I"⟩ : MethodName)) hown (mvT hZ (hw _ (List.mem_of_getElem? (i := 30) rfl))) (mvT hZ (hw _ (List.mem_of_getElem? (i := 31) rfl))) (notFace_of_selects (args := #[]) (mvT hZ (hw _ (List.mem_of_getElem? (i := 33) rfl)))) (mvT hZ (hw _ (List.mem_of_getElem? (i := 33) rfl))) (mvT hZ (hw _ (List.mem_of_getElem? (i := 32) rfl))) (by decide) (backOf (W := 0) (rmG l Z a0 hw [] b5 b6 c7 kb6 kc7 w1 (ic / w1) (ic % w1) p6 ic ((ib, .int p6) :: ((ia, .int p5) :: [])) T11.heap n0 (Nat.le_trans (Nat.le_trans (Nat.le_trans (Nat.le_trans (Nat.le_trans (Nat.le_trans (Nat.le_trans Z0 E5.1) K6.1) K7.1) K8.1) K9.1) K10.1) K11.1) ((Fw9.keep K10 (ninS hne_ac nin0)).keep K11 (ninS hne_ac nin0)) ((Fb9.keep K10 (ninS hne_ac nin0)).keep K11 (ninS hne_ac nin0)) ((((Vb7.keep K8 (ninS (Ne.symm hne_ab) nin0)).keep K9 (ninS (Ne.symm hne_ab) nin0)).keep K10 (ninS hne_bc nin0)).keep K11 (ninS hne_bc nin0)) Vc11 x_ic.1 x_ic.2.1 x_ic.2.2  (getH_hit (x_ic.2.2).1 c159_17)) hZ (hw _ (List.mem_of_getElem? (i := 34) rfl)) (hw _ (List.mem_of_getElem? (i := 3) rfl)) (by decide) (by decide)) q22a q22c (g := (mkF m 171 #[.val (.int p1), .val (.int p2), .val (.int p3), .val (.int p4), .val (.int p5), .val (.int p6), .val (.int w1), .val (.int ((3 : Int32) * w1)), .val (.int ia), .val (.int ib), .val (.int ic), .val (.ref b5), .val (.int (0 : Int32)), .val (.int (1 : Int32)), .val (.int (2 : Int32)), .val (.int p6), .val (.int p6), .unset, .unset, .unset] [(.int (ic % w1)), (.int (ic / w1)), (.ref b5)])) rfl (by rw [hml]; rfl) (Steps.refl _) (argsL := [(.int (ic / w1)), (.int (ic % w1))]) (rest := []) (lenOf pd_rm0_3 rfl) rfl (by show 2 * 0 + _ ≤ _; exact Nat.le_of_eq rfl) (hb hby at_171) (fun _ _ => ⟨rfl, hE15, (by decide : 3 + 0 ≤ _), (by decide : 4100 + 0 ≤ _)⟩)
        dsimp only [Pt.U, Pt.locs, Pt.cells, Pt.slots] at X22 l22 y22 z22 st22 hQ22
        subst l22 y22 z22
        obtain ⟨rfl, N22q, hE22⟩ := hQ22
        have N22 := Fr.app N15 N22q
        have pre23 : ∀ tt, Steps p.tables e below (T22.setTop (mkF m 249 #[.val (.int p1), .val (.int p2), .val (.int p3), .val (.int p4), .val (.int p5), .val (.int p6), .val (.int w1), .val (.int ((3 : Int32) * w1)), .val (.int ia), .val (.int ib), .val (.int ic), .val (.ref b5), .val (.int (0 : Int32)), .val (.int (1 : Int32)), .val (.int (2 : Int32)), .val (.int p6), .val (.int p6), .val (.int p6), .val (.int p6), .val (.int p6)] [(.int (1 : Int32))])) tt → Steps p.tables e below (s₁.setTop (entryFrame m #[(.int p1), (.int p2), (.int p3), (.int p4), (.int p5), (.int p6)] maxLocals)) tt := by
          intro tt kt
          refine pre18 tt ?_
          show Steps p.tables e below (T15.setTop (mkF m 161 #[.val (.int p1), .val (.int p2), .val (.int p3), .val (.int p4), .val (.int p5), .val (.int p6), .val (.int w1), .val (.int ((3 : Int32) * w1)), .val (.int ia), .val (.int ib), .val (.int ic), .val (.ref b5), .val (.int (0 : Int32)), .val (.int (1 : Int32)), .val (.int (2 : Int32)), .val (.int p6), .val (.int p6), .unset, .unset, .unset] [(.ref b5)])) _
          refine XS.iload X15.here hx rfl (hb hby at_161) rfl ?_
          show Steps p.tables e below (T15.setTop (mkF m 163 #[.val (.int p1), .val (.int p2), .val (.int p3), .val (.int p4), .val (.int p5), .val (.int p6), .val (.int w1), .val (.int ((3 : Int32) * w1)), .val (.int ia), .val (.int ib), .val (.int ic), .val (.ref b5), .val (.int (0 : Int32)), .val (.int (1 : Int32)), .val (.int (2 : Int32)), .val (.int p6), .val (.int p6), .unset, .unset, .unset] [(.int ic), (.ref b5)])) _
          refine XS.iload X15.here hx rfl (hb hby at_163) rfl ?_
          show Steps p.tables e below (T15.setTop (mkF m 165 #[.val (.int p1), .val (.int p2), .val (.int p3), .val (.int p4), .val (.int p5), .val (.int p6), .val (.int w1), .val (.int ((3 : Int32) * w1)), .val (.int ia), .val (.int ib), .val (.int ic), .val (.ref b5), .val (.int (0 : Int32)), .val (.int (1 : Int32)), .val (.int (2 : Int32)), .val (.int p6), .val (.int p6), .unset, .unset, .unset] [(.int w1), (.int ic), (.ref b5)])) _
          refine XS.idiv X15.here hx rfl (hb hby at_165) rfl hwne ?_
          show Steps p.tables e below (T15.setTop (mkF m 166 #[.val (.int p1), .val (.int p2), .val (.int p3), .val (.int p4), .val (.int p5), .val (.int p6), .val (.int w1), .val (.int ((3 : Int32) * w1)), .val (.int ia), .val (.int ib), .val (.int ic), .val (.ref b5), .val (.int (0 : Int32)), .val (.int (1 : Int32)), .val (.int (2 : Int32)), .val (.int p6), .val (.int p6), .unset, .unset, .unset] [(.int (ic / w1)), (.ref b5)])) _
          refine XS.iload X15.here hx rfl (hb hby at_166) rfl ?_
          show Steps p.tables e below (T15.setTop (mkF m 168 #[.val (.int p1), .val (.int p2), .val (.int p3), .val (.int p4), .val (.int p5), .val (.int p6), .val (.int w1), .val (.int ((3 : Int32) * w1)), .val (.int ia), .val (.int ib), .val (.int ic), .val (.ref b5), .val (.int (0 : Int32)), .val (.int (1 : Int32)), .val (.int (2 : Int32)), .val (.int p6), .val (.int p6), .unset, .unset, .unset] [(.int ic), (.int (ic / w1)), (.ref b5)])) _
          refine XS.iload X15.here hx rfl (hb hby at_168) rfl ?_
          show Steps p.tables e below (T15.setTop (mkF m 170 #[.val (.int p1), .val (.int p2), .val (.int p3), .val (.int p4), .val (.int p5), .val (.int p6), .val (.int w1), .val (.int ((3 : Int32) * w1)), .val (.int ia), .val (.int ib), .val (.int ic), .val (.ref b5), .val (.int (0 : Int32)), .val (.int (1 : Int32)), .val (.int (2 : Int32)), .val (.int p6), .val (.int p6), .unset, .unset, .unset] [(.int w1), (.int ic), (.int (ic / w1)), (.ref b5)])) _
          refine iremM (g := (mkF m 170 #[.val (.int p1), .val (.int p2), .val (.int p3), .val (.int p4), .val (.int p5), .val (.int p6), .val (.int w1), .val (.int ((3 : Int32) * w1)), .val (.int ia), .val (.int ib), .val (.int ic), .val (.ref b5), .val (.int (0 : Int32)), .val (.int (1 : Int32)), .val (.int (2 : Int32)), .val (.int p6), .val (.int p6), .unset, .unset, .unset] [(.int w1), (.int ic), (.int (ic / w1)), (.ref b5)])) X15 hx rfl (hb hby at_170) rfl hwne ?_
          show Steps p.tables e below (T15.setTop (mkF m 171 #[.val (.int p1), .val (.int p2), .val (.int p3), .val (.int p4), .val (.int p5), .val (.int p6), .val (.int w1), .val (.int ((3 : Int32) * w1)), .val (.int ia), .val (.int ib), .val (.int ic), .val (.ref b5), .val (.int (0 : Int32)), .val (.int (1 : Int32)), .val (.int (2 : Int32)), .val (.int p6), .val (.int p6), .unset, .unset, .unset] [(.int (ic % w1)), (.int (ic / w1)), (.ref b5)])) _
          refine st22.trans ?_
          show Steps p.tables e below (T22.setTop (mkF m 174 #[.val (.int p1), .val (.int p2), .val (.int p3), .val (.int p4), .val (.int p5), .val (.int p6), .val (.int w1), .val (.int ((3 : Int32) * w1)), .val (.int ia), .val (.int ib), .val (.int ic), .val (.ref b5), .val (.int (0 : Int32)), .val (.int (1 : Int32)), .val (.int (2 : Int32)), .val (.int p6), .val (.int p6), .unset, .unset, .unset] [(.int p6)])) _
          refine XS.istore X22.here hx rfl (hb hby at_174) rfl (l' := #[.val (.int p1), .val (.int p2), .val (.int p3), .val (.int p4), .val (.int p5), .val (.int p6), .val (.int w1), .val (.int ((3 : Int32) * w1)), .val (.int ia), .val (.int ib), .val (.int ic), .val (.ref b5), .val (.int (0 : Int32)), .val (.int (1 : Int32)), .val (.int (2 : Int32)), .val (.int p6), .val (.int p6), .val (.int p6), .unset, .unset]) rfl ?_
          show Steps p.tables e below (T22.setTop (mkF m 176 #[.val (.int p1), .val (.int p2), .val (.int p3), .val (.int p4), .val (.int p5), .val (.int p6), .val (.int w1), .val (.int ((3 : Int32) * w1)), .val (.int ia), .val (.int ib), .val (.int ic), .val (.ref b5), .val (.int (0 : Int32)), .val (.int (1 : Int32)), .val (.int (2 : Int32)), .val (.int p6), .val (.int p6), .val (.int p6), .unset, .unset] [])) _
          refine XS.iload X22.here hx rfl (hb hby at_176) rfl ?_
          show Steps p.tables e below (T22.setTop (mkF m 178 #[.val (.int p1), .val (.int p2), .val (.int p3), .val (.int p4), .val (.int p5), .val (.int p6), .val (.int w1), .val (.int ((3 : Int32) * w1)), .val (.int ia), .val (.int ib), .val (.int ic), .val (.ref b5), .val (.int (0 : Int32)), .val (.int (1 : Int32)), .val (.int (2 : Int32)), .val (.int p6), .val (.int p6), .val (.int p6), .unset, .unset] [(.int ia)])) _
          refine XS.iload X22.here hx rfl (hb hby at_178) rfl ?_
          show Steps p.tables e below (T22.setTop (mkF m 180 #[.val (.int p1), .val (.int p2), .val (.int p3), .val (.int p4), .val (.int p5), .val (.int p6), .val (.int w1), .val (.int ((3 : Int32) * w1)), .val (.int ia), .val (.int ib), .val (.int ic), .val (.ref b5), .val (.int (0 : Int32)), .val (.int (1 : Int32)), .val (.int (2 : Int32)), .val (.int p6), .val (.int p6), .val (.int p6), .unset, .unset] [(.int ib), (.int ia)])) _
          refine XS.icmpNo X22.here hx rfl (hb hby at_180) rfl (teq c125_13).2 ?_
          show Steps p.tables e below (T22.setTop (mkF m 183 #[.val (.int p1), .val (.int p2), .val (.int p3), .val (.int p4), .val (.int p5), .val (.int p6), .val (.int w1), .val (.int ((3 : Int32) * w1)), .val (.int ia), .val (.int ib), .val (.int ic), .val (.ref b5), .val (.int (0 : Int32)), .val (.int (1 : Int32)), .val (.int (2 : Int32)), .val (.int p6), .val (.int p6), .val (.int p6), .unset, .unset] [])) _
          refine XS.iload X22.here hx rfl (hb hby at_183) rfl ?_
          show Steps p.tables e below (T22.setTop (mkF m 185 #[.val (.int p1), .val (.int p2), .val (.int p3), .val (.int p4), .val (.int p5), .val (.int p6), .val (.int w1), .val (.int ((3 : Int32) * w1)), .val (.int ia), .val (.int ib), .val (.int ic), .val (.ref b5), .val (.int (0 : Int32)), .val (.int (1 : Int32)), .val (.int (2 : Int32)), .val (.int p6), .val (.int p6), .val (.int p6), .unset, .unset] [(.int p6)])) _
          refine XS.goto X22.here hx rfl (pc0 := 185) (pc' := 190) rfl (hb hby at_185) (by decide) (by decide) ?_
          show Steps p.tables e below (T22.setTop (mkF m 190 #[.val (.int p1), .val (.int p2), .val (.int p3), .val (.int p4), .val (.int p5), .val (.int p6), .val (.int w1), .val (.int ((3 : Int32) * w1)), .val (.int ia), .val (.int ib), .val (.int ic), .val (.ref b5), .val (.int (0 : Int32)), .val (.int (1 : Int32)), .val (.int (2 : Int32)), .val (.int p6), .val (.int p6), .val (.int p6), .unset, .unset] [(.int p6)])) _
          refine XS.istore X22.here hx rfl (hb hby at_190) rfl (l' := #[.val (.int p1), .val (.int p2), .val (.int p3), .val (.int p4), .val (.int p5), .val (.int p6), .val (.int w1), .val (.int ((3 : Int32) * w1)), .val (.int ia), .val (.int ib), .val (.int ic), .val (.ref b5), .val (.int (0 : Int32)), .val (.int (1 : Int32)), .val (.int (2 : Int32)), .val (.int p6), .val (.int p6), .val (.int p6), .val (.int p6), .unset]) rfl ?_
          show Steps p.tables e below (T22.setTop (mkF m 192 #[.val (.int p1), .val (.int p2), .val (.int p3), .val (.int p4), .val (.int p5), .val (.int p6), .val (.int w1), .val (.int ((3 : Int32) * w1)), .val (.int ia), .val (.int ib), .val (.int ic), .val (.ref b5), .val (.int (0 : Int32)), .val (.int (1 : Int32)), .val (.int (2 : Int32)), .val (.int p6), .val (.int p6), .val (.int p6), .val (.int p6), .unset] [])) _
          refine XS.iload X22.here hx rfl (hb hby at_192) rfl ?_
          show Steps p.tables e below (T22.setTop (mkF m 194 #[.val (.int p1), .val (.int p2), .val (.int p3), .val (.int p4), .val (.int p5), .val (.int p6), .val (.int w1), .val (.int ((3 : Int32) * w1)), .val (.int ia), .val (.int ib), .val (.int ic), .val (.ref b5), .val (.int (0 : Int32)), .val (.int (1 : Int32)), .val (.int (2 : Int32)), .val (.int p6), .val (.int p6), .val (.int p6), .val (.int p6), .unset] [(.int ic)])) _
          refine XS.iload X22.here hx rfl (hb hby at_194) rfl ?_
          show Steps p.tables e below (T22.setTop (mkF m 196 #[.val (.int p1), .val (.int p2), .val (.int p3), .val (.int p4), .val (.int p5), .val (.int p6), .val (.int w1), .val (.int ((3 : Int32) * w1)), .val (.int ia), .val (.int ib), .val (.int ic), .val (.ref b5), .val (.int (0 : Int32)), .val (.int (1 : Int32)), .val (.int (2 : Int32)), .val (.int p6), .val (.int p6), .val (.int p6), .val (.int p6), .unset] [(.int ib), (.int ic)])) _
          refine XS.icmpNo X22.here hx rfl (hb hby at_196) rfl (teq c159_17).2 ?_
          show Steps p.tables e below (T22.setTop (mkF m 199 #[.val (.int p1), .val (.int p2), .val (.int p3), .val (.int p4), .val (.int p5), .val (.int p6), .val (.int w1), .val (.int ((3 : Int32) * w1)), .val (.int ia), .val (.int ib), .val (.int ic), .val (.ref b5), .val (.int (0 : Int32)), .val (.int (1 : Int32)), .val (.int (2 : Int32)), .val (.int p6), .val (.int p6), .val (.int p6), .val (.int p6), .unset] [])) _
          refine XS.iload X22.here hx rfl (hb hby at_199) rfl ?_
          show Steps p.tables e below (T22.setTop (mkF m 201 #[.val (.int p1), .val (.int p2), .val (.int p3), .val (.int p4), .val (.int p5), .val (.int p6), .val (.int w1), .val (.int ((3 : Int32) * w1)), .val (.int ia), .val (.int ib), .val (.int ic), .val (.ref b5), .val (.int (0 : Int32)), .val (.int (1 : Int32)), .val (.int (2 : Int32)), .val (.int p6), .val (.int p6), .val (.int p6), .val (.int p6), .unset] [(.int p6)])) _
          refine XS.istore X22.here hx rfl (hb hby at_201) rfl (l' := #[.val (.int p1), .val (.int p2), .val (.int p3), .val (.int p4), .val (.int p5), .val (.int p6), .val (.int w1), .val (.int ((3 : Int32) * w1)), .val (.int ia), .val (.int ib), .val (.int ic), .val (.ref b5), .val (.int (0 : Int32)), .val (.int (1 : Int32)), .val (.int (2 : Int32)), .val (.int p6), .val (.int p6), .val (.int p6), .val (.int p6), .val (.int p6)]) rfl ?_
          show Steps p.tables e below (T22.setTop (mkF m 203 #[.val (.int p1), .val (.int p2), .val (.int p3), .val (.int p4), .val (.int p5), .val (.int p6), .val (.int w1), .val (.int ((3 : Int32) * w1)), .val (.int ia), .val (.int ib), .val (.int ic), .val (.ref b5), .val (.int (0 : Int32)), .val (.int (1 : Int32)), .val (.int (2 : Int32)), .val (.int p6), .val (.int p6), .val (.int p6), .val (.int p6), .val (.int p6)] [])) _
          refine XS.goto X22.here hx rfl (pc0 := 203) (pc' := 223) rfl (hb hby at_203) (by decide) (by decide) ?_
          show Steps p.tables e below (T22.setTop (mkF m 223 #[.val (.int p1), .val (.int p2), .val (.int p3), .val (.int p4), .val (.int p5), .val (.int p6), .val (.int w1), .val (.int ((3 : Int32) * w1)), .val (.int ia), .val (.int ib), .val (.int ic), .val (.ref b5), .val (.int (0 : Int32)), .val (.int (1 : Int32)), .val (.int (2 : Int32)), .val (.int p6), .val (.int p6), .val (.int p6), .val (.int p6), .val (.int p6)] [])) _
          refine XS.iload X22.here hx rfl (hb hby at_223) rfl ?_
          show Steps p.tables e below (T22.setTop (mkF m 225 #[.val (.int p1), .val (.int p2), .val (.int p3), .val (.int p4), .val (.int p5), .val (.int p6), .val (.int w1), .val (.int ((3 : Int32) * w1)), .val (.int ia), .val (.int ib), .val (.int ic), .val (.ref b5), .val (.int (0 : Int32)), .val (.int (1 : Int32)), .val (.int (2 : Int32)), .val (.int p6), .val (.int p6), .val (.int p6), .val (.int p6), .val (.int p6)] [(.int p6)])) _
          refine XS.iload X22.here hx rfl (hb hby at_225) rfl ?_
          show Steps p.tables e below (T22.setTop (mkF m 227 #[.val (.int p1), .val (.int p2), .val (.int p3), .val (.int p4), .val (.int p5), .val (.int p6), .val (.int w1), .val (.int ((3 : Int32) * w1)), .val (.int ia), .val (.int ib), .val (.int ic), .val (.ref b5), .val (.int (0 : Int32)), .val (.int (1 : Int32)), .val (.int (2 : Int32)), .val (.int p6), .val (.int p6), .val (.int p6), .val (.int p6), .val (.int p6)] [(.int p6), (.int p6)])) _
          refine XS.icmpNo X22.here hx rfl (hb hby at_227) rfl (teq (rfl : p6 = p6)).2 ?_
          show Steps p.tables e below (T22.setTop (mkF m 230 #[.val (.int p1), .val (.int p2), .val (.int p3), .val (.int p4), .val (.int p5), .val (.int p6), .val (.int w1), .val (.int ((3 : Int32) * w1)), .val (.int ia), .val (.int ib), .val (.int ic), .val (.ref b5), .val (.int (0 : Int32)), .val (.int (1 : Int32)), .val (.int (2 : Int32)), .val (.int p6), .val (.int p6), .val (.int p6), .val (.int p6), .val (.int p6)] [])) _
          refine XS.iload X22.here hx rfl (hb hby at_230) rfl ?_
          show Steps p.tables e below (T22.setTop (mkF m 232 #[.val (.int p1), .val (.int p2), .val (.int p3), .val (.int p4), .val (.int p5), .val (.int p6), .val (.int w1), .val (.int ((3 : Int32) * w1)), .val (.int ia), .val (.int ib), .val (.int ic), .val (.ref b5), .val (.int (0 : Int32)), .val (.int (1 : Int32)), .val (.int (2 : Int32)), .val (.int p6), .val (.int p6), .val (.int p6), .val (.int p6), .val (.int p6)] [(.int p6)])) _
          refine XS.iload X22.here hx rfl (hb hby at_232) rfl ?_
          show Steps p.tables e below (T22.setTop (mkF m 234 #[.val (.int p1), .val (.int p2), .val (.int p3), .val (.int p4), .val (.int p5), .val (.int p6), .val (.int w1), .val (.int ((3 : Int32) * w1)), .val (.int ia), .val (.int ib), .val (.int ic), .val (.ref b5), .val (.int (0 : Int32)), .val (.int (1 : Int32)), .val (.int (2 : Int32)), .val (.int p6), .val (.int p6), .val (.int p6), .val (.int p6), .val (.int p6)] [(.int p6), (.int p6)])) _
          refine XS.icmpNo X22.here hx rfl (hb hby at_234) rfl (teq (rfl : p6 = p6)).2 ?_
          show Steps p.tables e below (T22.setTop (mkF m 237 #[.val (.int p1), .val (.int p2), .val (.int p3), .val (.int p4), .val (.int p5), .val (.int p6), .val (.int w1), .val (.int ((3 : Int32) * w1)), .val (.int ia), .val (.int ib), .val (.int ic), .val (.ref b5), .val (.int (0 : Int32)), .val (.int (1 : Int32)), .val (.int (2 : Int32)), .val (.int p6), .val (.int p6), .val (.int p6), .val (.int p6), .val (.int p6)] [])) _
          refine XS.iload X22.here hx rfl (hb hby at_237) rfl ?_
          show Steps p.tables e below (T22.setTop (mkF m 239 #[.val (.int p1), .val (.int p2), .val (.int p3), .val (.int p4), .val (.int p5), .val (.int p6), .val (.int w1), .val (.int ((3 : Int32) * w1)), .val (.int ia), .val (.int ib), .val (.int ic), .val (.ref b5), .val (.int (0 : Int32)), .val (.int (1 : Int32)), .val (.int (2 : Int32)), .val (.int p6), .val (.int p6), .val (.int p6), .val (.int p6), .val (.int p6)] [(.int p6)])) _
          refine XS.iload X22.here hx rfl (hb hby at_239) rfl ?_
          show Steps p.tables e below (T22.setTop (mkF m 241 #[.val (.int p1), .val (.int p2), .val (.int p3), .val (.int p4), .val (.int p5), .val (.int p6), .val (.int w1), .val (.int ((3 : Int32) * w1)), .val (.int ia), .val (.int ib), .val (.int ic), .val (.ref b5), .val (.int (0 : Int32)), .val (.int (1 : Int32)), .val (.int (2 : Int32)), .val (.int p6), .val (.int p6), .val (.int p6), .val (.int p6), .val (.int p6)] [(.int p6), (.int p6)])) _
          refine XS.icmpNo X22.here hx rfl (hb hby at_241) rfl (teq (rfl : p6 = p6)).2 ?_
          show Steps p.tables e below (T22.setTop (mkF m 244 #[.val (.int p1), .val (.int p2), .val (.int p3), .val (.int p4), .val (.int p5), .val (.int p6), .val (.int w1), .val (.int ((3 : Int32) * w1)), .val (.int ia), .val (.int ib), .val (.int ic), .val (.ref b5), .val (.int (0 : Int32)), .val (.int (1 : Int32)), .val (.int (2 : Int32)), .val (.int p6), .val (.int p6), .val (.int p6), .val (.int p6), .val (.int p6)] [])) _
          refine XS.iconst X22.here hx rfl (hb hby at_244) ?_
          show Steps p.tables e below (T22.setTop (mkF m 245 #[.val (.int p1), .val (.int p2), .val (.int p3), .val (.int p4), .val (.int p5), .val (.int p6), .val (.int w1), .val (.int ((3 : Int32) * w1)), .val (.int ia), .val (.int ib), .val (.int ic), .val (.ref b5), .val (.int (0 : Int32)), .val (.int (1 : Int32)), .val (.int (2 : Int32)), .val (.int p6), .val (.int p6), .val (.int p6), .val (.int p6), .val (.int p6)] [(.int (1 : Int32))])) _
          refine XS.goto X22.here hx rfl (pc0 := 245) (pc' := 249) rfl (hb hby at_245) (by decide) (by decide) ?_
          exact kt
        obtain ⟨fs, hr, hrun, hended, hW, hsame⟩ := X22.leave (v := some (.int (1 : Int32))) (fun h => by rw [Bd.returns] at h; cases h)
        refine ⟨_, _, pre23 _ ?_, hrun, hended, _, _, rfl, ?_, ⟨_, rfl⟩, hW, hsame.mono (by decide) (by decide)⟩
        · show Steps p.tables e below (T22.setTop (mkF m 249 #[.val (.int p1), .val (.int p2), .val (.int p3), .val (.int p4), .val (.int p5), .val (.int p6), .val (.int w1), .val (.int ((3 : Int32) * w1)), .val (.int ia), .val (.int ib), .val (.int ic), .val (.ref b5), .val (.int (0 : Int32)), .val (.int (1 : Int32)), .val (.int (2 : Int32)), .val (.int p6), .val (.int p6), .val (.int p6), .val (.int p6), .val (.int p6)] [(.int (1 : Int32))])) _
          exact retN X22 hx (t := .boolean) Bd.returns (by simp) (hb hby at_249) hr
        · show Q0 Z h0 n0 _ T22.heap _
          rw [hE22]
          exact ⟨rfl, N22⟩
    · have pre24 : ∀ tt, Steps p.tables e below (T15.setTop (mkF m 161 #[.val (.int p1), .val (.int p2), .val (.int p3), .val (.int p4), .val (.int p5), .val (.int p6), .val (.int w1), .val (.int ((3 : Int32) * w1)), .val (.int ia), .val (.int ib), .val (.int ic), .val (.ref b5), .val (.int (0 : Int32)), .val (.int (1 : Int32)), .val (.int (2 : Int32)), .val (.int p6), .val (.int p6), .unset, .unset, .unset] [(.ref b5)])) tt → Steps p.tables e below (s₁.setTop (entryFrame m #[(.int p1), (.int p2), (.int p3), (.int p4), (.int p5), (.int p6)] maxLocals)) tt := by
        intro tt kt
        refine pre16 tt ?_
        show Steps p.tables e below (T15.setTop (mkF m 159 #[.val (.int p1), .val (.int p2), .val (.int p3), .val (.int p4), .val (.int p5), .val (.int p6), .val (.int w1), .val (.int ((3 : Int32) * w1)), .val (.int ia), .val (.int ib), .val (.int ic), .val (.ref b5), .val (.int (0 : Int32)), .val (.int (1 : Int32)), .val (.int (2 : Int32)), .val (.int p6), .val (.int p6), .unset, .unset, .unset] [])) _
        refine XS.aload X15.here hx rfl (hb hby at_159) rfl rfl ?_
        exact kt
      by_cases c161_25 : ic = ia
      · obtain ⟨cq26, kq26, q26a, q26b, q26c⟩ := isOf hZ hE15 ((Ea9.keep K10).keep K11)
        obtain ⟨_, _, ⟨T26, L26, k26, n26⟩, -, X26, ⟨Lc26, hQ26, l26, y26, z26⟩, st26⟩ := X15.virtualBack hx (y := (⟨"com/example/muniment_room/munimentroom/categorizer/Columns", "get", "(II)I"⟩ : MethodName)) (z := (⟨"com/example/muniment_room/munimentroom/categorizer/Columns", "get", "(II)I"⟩ : MethodName)) hown (mvT hZ (hw _ (List.mem_of_getElem? (i := 30) rfl))) (mvT hZ (hw _ (List.mem_of_getElem? (i := 31) rfl))) (notFace_of_selects (args := #[]) (mvT hZ (hw _ (List.mem_of_getElem? (i := 33) rfl)))) (mvT hZ (hw _ (List.mem_of_getElem? (i := 33) rfl))) (mvT hZ (hw _ (List.mem_of_getElem? (i := 32) rfl))) (by decide) (backOf (W := 0) (rmG l Z a0 hw [] b5 b6 c7 kb6 kc7 w1 (ic / w1) (ic % w1) p5 ic ((ib, .int p6) :: ((ia, .int p5) :: [])) T11.heap n0 (Nat.le_trans (Nat.le_trans (Nat.le_trans (Nat.le_trans (Nat.le_trans (Nat.le_trans (Nat.le_trans Z0 E5.1) K6.1) K7.1) K8.1) K9.1) K10.1) K11.1) ((Fw9.keep K10 (ninS hne_ac nin0)).keep K11 (ninS hne_ac nin0)) ((Fb9.keep K10 (ninS hne_ac nin0)).keep K11 (ninS hne_ac nin0)) ((((Vb7.keep K8 (ninS (Ne.symm hne_ab) nin0)).keep K9 (ninS (Ne.symm hne_ab) nin0)).keep K10 (ninS hne_bc nin0)).keep K11 (ninS hne_bc nin0)) Vc11 x_ic.1 x_ic.2.1 x_ic.2.2  (getH_miss (x_ic.2.2).1 c159_17 (getH_hit (x_ic.2.2).1 c161_25))) hZ (hw _ (List.mem_of_getElem? (i := 34) rfl)) (hw _ (List.mem_of_getElem? (i := 3) rfl)) (by decide) (by decide)) q26a q26c (g := (mkF m 171 #[.val (.int p1), .val (.int p2), .val (.int p3), .val (.int p4), .val (.int p5), .val (.int p6), .val (.int w1), .val (.int ((3 : Int32) * w1)), .val (.int ia), .val (.int ib), .val (.int ic), .val (.ref b5), .val (.int (0 : Int32)), .val (.int (1 : Int32)), .val (.int (2 : Int32)), .val (.int p6), .val (.int p6), .unset, .unset, .unset] [(.int (ic % w1)), (.int (ic / w1)), (.ref b5)])) rfl (by rw [hml]; rfl) (Steps.refl _) (argsL := [(.int (ic / w1)), (.int (ic % w1))]) (rest := []) (lenOf pd_rm0_3 rfl) rfl (by show 2 * 0 + _ ≤ _; exact Nat.le_of_eq rfl) (hb hby at_171) (fun _ _ => ⟨rfl, hE15, (by decide : 3 + 0 ≤ _), (by decide : 4100 + 0 ≤ _)⟩)
        dsimp only [Pt.U, Pt.locs, Pt.cells, Pt.slots] at X26 l26 y26 z26 st26 hQ26
        subst l26 y26 z26
        obtain ⟨rfl, N26q, hE26⟩ := hQ26
        have N26 := Fr.app N15 N26q
        have pre27 : ∀ tt, Steps p.tables e below (T26.setTop (mkF m 249 #[.val (.int p1), .val (.int p2), .val (.int p3), .val (.int p4), .val (.int p5), .val (.int p6), .val (.int w1), .val (.int ((3 : Int32) * w1)), .val (.int ia), .val (.int ib), .val (.int ic), .val (.ref b5), .val (.int (0 : Int32)), .val (.int (1 : Int32)), .val (.int (2 : Int32)), .val (.int p6), .val (.int p6), .val (.int p5), .val (.int p6), .val (.int p5)] [(.int (1 : Int32))])) tt → Steps p.tables e below (s₁.setTop (entryFrame m #[(.int p1), (.int p2), (.int p3), (.int p4), (.int p5), (.int p6)] maxLocals)) tt := by
          intro tt kt
          refine pre24 tt ?_
          show Steps p.tables e below (T15.setTop (mkF m 161 #[.val (.int p1), .val (.int p2), .val (.int p3), .val (.int p4), .val (.int p5), .val (.int p6), .val (.int w1), .val (.int ((3 : Int32) * w1)), .val (.int ia), .val (.int ib), .val (.int ic), .val (.ref b5), .val (.int (0 : Int32)), .val (.int (1 : Int32)), .val (.int (2 : Int32)), .val (.int p6), .val (.int p6), .unset, .unset, .unset] [(.ref b5)])) _
          refine XS.iload X15.here hx rfl (hb hby at_161) rfl ?_
          show Steps p.tables e below (T15.setTop (mkF m 163 #[.val (.int p1), .val (.int p2), .val (.int p3), .val (.int p4), .val (.int p5), .val (.int p6), .val (.int w1), .val (.int ((3 : Int32) * w1)), .val (.int ia), .val (.int ib), .val (.int ic), .val (.ref b5), .val (.int (0 : Int32)), .val (.int (1 : Int32)), .val (.int (2 : Int32)), .val (.int p6), .val (.int p6), .unset, .unset, .unset] [(.int ic), (.ref b5)])) _
          refine XS.iload X15.here hx rfl (hb hby at_163) rfl ?_
          show Steps p.tables e below (T15.setTop (mkF m 165 #[.val (.int p1), .val (.int p2), .val (.int p3), .val (.int p4), .val (.int p5), .val (.int p6), .val (.int w1), .val (.int ((3 : Int32) * w1)), .val (.int ia), .val (.int ib), .val (.int ic), .val (.ref b5), .val (.int (0 : Int32)), .val (.int (1 : Int32)), .val (.int (2 : Int32)), .val (.int p6), .val (.int p6), .unset, .unset, .unset] [(.int w1), (.int ic), (.ref b5)])) _
          refine XS.idiv X15.here hx rfl (hb hby at_165) rfl hwne ?_
          show Steps p.tables e below (T15.setTop (mkF m 166 #[.val (.int p1), .val (.int p2), .val (.int p3), .val (.int p4), .val (.int p5), .val (.int p6), .val (.int w1), .val (.int ((3 : Int32) * w1)), .val (.int ia), .val (.int ib), .val (.int ic), .val (.ref b5), .val (.int (0 : Int32)), .val (.int (1 : Int32)), .val (.int (2 : Int32)), .val (.int p6), .val (.int p6), .unset, .unset, .unset] [(.int (ic / w1)), (.ref b5)])) _
          refine XS.iload X15.here hx rfl (hb hby at_166) rfl ?_
          show Steps p.tables e below (T15.setTop (mkF m 168 #[.val (.int p1), .val (.int p2), .val (.int p3), .val (.int p4), .val (.int p5), .val (.int p6), .val (.int w1), .val (.int ((3 : Int32) * w1)), .val (.int ia), .val (.int ib), .val (.int ic), .val (.ref b5), .val (.int (0 : Int32)), .val (.int (1 : Int32)), .val (.int (2 : Int32)), .val (.int p6), .val (.int p6), .unset, .unset, .unset] [(.int ic), (.int (ic / w1)), (.ref b5)])) _
          refine XS.iload X15.here hx rfl (hb hby at_168) rfl ?_
          show Steps p.tables e below (T15.setTop (mkF m 170 #[.val (.int p1), .val (.int p2), .val (.int p3), .val (.int p4), .val (.int p5), .val (.int p6), .val (.int w1), .val (.int ((3 : Int32) * w1)), .val (.int ia), .val (.int ib), .val (.int ic), .val (.ref b5), .val (.int (0 : Int32)), .val (.int (1 : Int32)), .val (.int (2 : Int32)), .val (.int p6), .val (.int p6), .unset, .unset, .unset] [(.int w1), (.int ic), (.int (ic / w1)), (.ref b5)])) _
          refine iremM (g := (mkF m 170 #[.val (.int p1), .val (.int p2), .val (.int p3), .val (.int p4), .val (.int p5), .val (.int p6), .val (.int w1), .val (.int ((3 : Int32) * w1)), .val (.int ia), .val (.int ib), .val (.int ic), .val (.ref b5), .val (.int (0 : Int32)), .val (.int (1 : Int32)), .val (.int (2 : Int32)), .val (.int p6), .val (.int p6), .unset, .unset, .unset] [(.int w1), (.int ic), (.int (ic / w1)), (.ref b5)])) X15 hx rfl (hb hby at_170) rfl hwne ?_
          show Steps p.tables e below (T15.setTop (mkF m 171 #[.val (.int p1), .val (.int p2), .val (.int p3), .val (.int p4), .val (.int p5), .val (.int p6), .val (.int w1), .val (.int ((3 : Int32) * w1)), .val (.int ia), .val (.int ib), .val (.int ic), .val (.ref b5), .val (.int (0 : Int32)), .val (.int (1 : Int32)), .val (.int (2 : Int32)), .val (.int p6), .val (.int p6), .unset, .unset, .unset] [(.int (ic % w1)), (.int (ic / w1)), (.ref b5)])) _
          refine st26.trans ?_
          show Steps p.tables e below (T26.setTop (mkF m 174 #[.val (.int p1), .val (.int p2), .val (.int p3), .val (.int p4), .val (.int p5), .val (.int p6), .val (.int w1), .val (.int ((3 : Int32) * w1)), .val (.int ia), .val (.int ib), .val (.int ic), .val (.ref b5), .val (.int (0 : Int32)), .val (.int (1 : Int32)), .val (.int (2 : Int32)), .val (.int p6), .val (.int p6), .unset, .unset, .unset] [(.int p5)])) _
          refine XS.istore X26.here hx rfl (hb hby at_174) rfl (l' := #[.val (.int p1), .val (.int p2), .val (.int p3), .val (.int p4), .val (.int p5), .val (.int p6), .val (.int w1), .val (.int ((3 : Int32) * w1)), .val (.int ia), .val (.int ib), .val (.int ic), .val (.ref b5), .val (.int (0 : Int32)), .val (.int (1 : Int32)), .val (.int (2 : Int32)), .val (.int p6), .val (.int p6), .val (.int p5), .unset, .unset]) rfl ?_
          show Steps p.tables e below (T26.setTop (mkF m 176 #[.val (.int p1), .val (.int p2), .val (.int p3), .val (.int p4), .val (.int p5), .val (.int p6), .val (.int w1), .val (.int ((3 : Int32) * w1)), .val (.int ia), .val (.int ib), .val (.int ic), .val (.ref b5), .val (.int (0 : Int32)), .val (.int (1 : Int32)), .val (.int (2 : Int32)), .val (.int p6), .val (.int p6), .val (.int p5), .unset, .unset] [])) _
          refine XS.iload X26.here hx rfl (hb hby at_176) rfl ?_
          show Steps p.tables e below (T26.setTop (mkF m 178 #[.val (.int p1), .val (.int p2), .val (.int p3), .val (.int p4), .val (.int p5), .val (.int p6), .val (.int w1), .val (.int ((3 : Int32) * w1)), .val (.int ia), .val (.int ib), .val (.int ic), .val (.ref b5), .val (.int (0 : Int32)), .val (.int (1 : Int32)), .val (.int (2 : Int32)), .val (.int p6), .val (.int p6), .val (.int p5), .unset, .unset] [(.int ia)])) _
          refine XS.iload X26.here hx rfl (hb hby at_178) rfl ?_
          show Steps p.tables e below (T26.setTop (mkF m 180 #[.val (.int p1), .val (.int p2), .val (.int p3), .val (.int p4), .val (.int p5), .val (.int p6), .val (.int w1), .val (.int ((3 : Int32) * w1)), .val (.int ia), .val (.int ib), .val (.int ic), .val (.ref b5), .val (.int (0 : Int32)), .val (.int (1 : Int32)), .val (.int (2 : Int32)), .val (.int p6), .val (.int p6), .val (.int p5), .unset, .unset] [(.int ib), (.int ia)])) _
          refine XS.icmpNo X26.here hx rfl (hb hby at_180) rfl (teq c125_13).2 ?_
          show Steps p.tables e below (T26.setTop (mkF m 183 #[.val (.int p1), .val (.int p2), .val (.int p3), .val (.int p4), .val (.int p5), .val (.int p6), .val (.int w1), .val (.int ((3 : Int32) * w1)), .val (.int ia), .val (.int ib), .val (.int ic), .val (.ref b5), .val (.int (0 : Int32)), .val (.int (1 : Int32)), .val (.int (2 : Int32)), .val (.int p6), .val (.int p6), .val (.int p5), .unset, .unset] [])) _
          refine XS.iload X26.here hx rfl (hb hby at_183) rfl ?_
          show Steps p.tables e below (T26.setTop (mkF m 185 #[.val (.int p1), .val (.int p2), .val (.int p3), .val (.int p4), .val (.int p5), .val (.int p6), .val (.int w1), .val (.int ((3 : Int32) * w1)), .val (.int ia), .val (.int ib), .val (.int ic), .val (.ref b5), .val (.int (0 : Int32)), .val (.int (1 : Int32)), .val (.int (2 : Int32)), .val (.int p6), .val (.int p6), .val (.int p5), .unset, .unset] [(.int p6)])) _
          refine XS.goto X26.here hx rfl (pc0 := 185) (pc' := 190) rfl (hb hby at_185) (by decide) (by decide) ?_
          show Steps p.tables e below (T26.setTop (mkF m 190 #[.val (.int p1), .val (.int p2), .val (.int p3), .val (.int p4), .val (.int p5), .val (.int p6), .val (.int w1), .val (.int ((3 : Int32) * w1)), .val (.int ia), .val (.int ib), .val (.int ic), .val (.ref b5), .val (.int (0 : Int32)), .val (.int (1 : Int32)), .val (.int (2 : Int32)), .val (.int p6), .val (.int p6), .val (.int p5), .unset, .unset] [(.int p6)])) _
          refine XS.istore X26.here hx rfl (hb hby at_190) rfl (l' := #[.val (.int p1), .val (.int p2), .val (.int p3), .val (.int p4), .val (.int p5), .val (.int p6), .val (.int w1), .val (.int ((3 : Int32) * w1)), .val (.int ia), .val (.int ib), .val (.int ic), .val (.ref b5), .val (.int (0 : Int32)), .val (.int (1 : Int32)), .val (.int (2 : Int32)), .val (.int p6), .val (.int p6), .val (.int p5), .val (.int p6), .unset]) rfl ?_
          show Steps p.tables e below (T26.setTop (mkF m 192 #[.val (.int p1), .val (.int p2), .val (.int p3), .val (.int p4), .val (.int p5), .val (.int p6), .val (.int w1), .val (.int ((3 : Int32) * w1)), .val (.int ia), .val (.int ib), .val (.int ic), .val (.ref b5), .val (.int (0 : Int32)), .val (.int (1 : Int32)), .val (.int (2 : Int32)), .val (.int p6), .val (.int p6), .val (.int p5), .val (.int p6), .unset] [])) _
          refine XS.iload X26.here hx rfl (hb hby at_192) rfl ?_
          show Steps p.tables e below (T26.setTop (mkF m 194 #[.val (.int p1), .val (.int p2), .val (.int p3), .val (.int p4), .val (.int p5), .val (.int p6), .val (.int w1), .val (.int ((3 : Int32) * w1)), .val (.int ia), .val (.int ib), .val (.int ic), .val (.ref b5), .val (.int (0 : Int32)), .val (.int (1 : Int32)), .val (.int (2 : Int32)), .val (.int p6), .val (.int p6), .val (.int p5), .val (.int p6), .unset] [(.int ic)])) _
          refine XS.iload X26.here hx rfl (hb hby at_194) rfl ?_
          show Steps p.tables e below (T26.setTop (mkF m 196 #[.val (.int p1), .val (.int p2), .val (.int p3), .val (.int p4), .val (.int p5), .val (.int p6), .val (.int w1), .val (.int ((3 : Int32) * w1)), .val (.int ia), .val (.int ib), .val (.int ic), .val (.ref b5), .val (.int (0 : Int32)), .val (.int (1 : Int32)), .val (.int (2 : Int32)), .val (.int p6), .val (.int p6), .val (.int p5), .val (.int p6), .unset] [(.int ib), (.int ic)])) _
          refine XS.icmpYes X26.here hx rfl (pc0 := 196) (pc' := 206) rfl (hb hby at_196) rfl (feq c159_17).2 (by decide) (by decide) ?_
          show Steps p.tables e below (T26.setTop (mkF m 206 #[.val (.int p1), .val (.int p2), .val (.int p3), .val (.int p4), .val (.int p5), .val (.int p6), .val (.int w1), .val (.int ((3 : Int32) * w1)), .val (.int ia), .val (.int ib), .val (.int ic), .val (.ref b5), .val (.int (0 : Int32)), .val (.int (1 : Int32)), .val (.int (2 : Int32)), .val (.int p6), .val (.int p6), .val (.int p5), .val (.int p6), .unset] [])) _
          refine XS.iload X26.here hx rfl (hb hby at_206) rfl ?_
          show Steps p.tables e below (T26.setTop (mkF m 208 #[.val (.int p1), .val (.int p2), .val (.int p3), .val (.int p4), .val (.int p5), .val (.int p6), .val (.int w1), .val (.int ((3 : Int32) * w1)), .val (.int ia), .val (.int ib), .val (.int ic), .val (.ref b5), .val (.int (0 : Int32)), .val (.int (1 : Int32)), .val (.int (2 : Int32)), .val (.int p6), .val (.int p6), .val (.int p5), .val (.int p6), .unset] [(.int ic)])) _
          refine XS.iload X26.here hx rfl (hb hby at_208) rfl ?_
          show Steps p.tables e below (T26.setTop (mkF m 210 #[.val (.int p1), .val (.int p2), .val (.int p3), .val (.int p4), .val (.int p5), .val (.int p6), .val (.int w1), .val (.int ((3 : Int32) * w1)), .val (.int ia), .val (.int ib), .val (.int ic), .val (.ref b5), .val (.int (0 : Int32)), .val (.int (1 : Int32)), .val (.int (2 : Int32)), .val (.int p6), .val (.int p6), .val (.int p5), .val (.int p6), .unset] [(.int ia), (.int ic)])) _
          refine XS.icmpNo X26.here hx rfl (hb hby at_210) rfl (teq c161_25).2 ?_
          show Steps p.tables e below (T26.setTop (mkF m 213 #[.val (.int p1), .val (.int p2), .val (.int p3), .val (.int p4), .val (.int p5), .val (.int p6), .val (.int w1), .val (.int ((3 : Int32) * w1)), .val (.int ia), .val (.int ib), .val (.int ic), .val (.ref b5), .val (.int (0 : Int32)), .val (.int (1 : Int32)), .val (.int (2 : Int32)), .val (.int p6), .val (.int p6), .val (.int p5), .val (.int p6), .unset] [])) _
          refine XS.iload X26.here hx rfl (hb hby at_213) rfl ?_
          show Steps p.tables e below (T26.setTop (mkF m 215 #[.val (.int p1), .val (.int p2), .val (.int p3), .val (.int p4), .val (.int p5), .val (.int p6), .val (.int w1), .val (.int ((3 : Int32) * w1)), .val (.int ia), .val (.int ib), .val (.int ic), .val (.ref b5), .val (.int (0 : Int32)), .val (.int (1 : Int32)), .val (.int (2 : Int32)), .val (.int p6), .val (.int p6), .val (.int p5), .val (.int p6), .unset] [(.int p5)])) _
          refine XS.istore X26.here hx rfl (hb hby at_215) rfl (l' := #[.val (.int p1), .val (.int p2), .val (.int p3), .val (.int p4), .val (.int p5), .val (.int p6), .val (.int w1), .val (.int ((3 : Int32) * w1)), .val (.int ia), .val (.int ib), .val (.int ic), .val (.ref b5), .val (.int (0 : Int32)), .val (.int (1 : Int32)), .val (.int (2 : Int32)), .val (.int p6), .val (.int p6), .val (.int p5), .val (.int p6), .val (.int p5)]) rfl ?_
          show Steps p.tables e below (T26.setTop (mkF m 217 #[.val (.int p1), .val (.int p2), .val (.int p3), .val (.int p4), .val (.int p5), .val (.int p6), .val (.int w1), .val (.int ((3 : Int32) * w1)), .val (.int ia), .val (.int ib), .val (.int ic), .val (.ref b5), .val (.int (0 : Int32)), .val (.int (1 : Int32)), .val (.int (2 : Int32)), .val (.int p6), .val (.int p6), .val (.int p5), .val (.int p6), .val (.int p5)] [])) _
          refine XS.goto X26.here hx rfl (pc0 := 217) (pc' := 223) rfl (hb hby at_217) (by decide) (by decide) ?_
          show Steps p.tables e below (T26.setTop (mkF m 223 #[.val (.int p1), .val (.int p2), .val (.int p3), .val (.int p4), .val (.int p5), .val (.int p6), .val (.int w1), .val (.int ((3 : Int32) * w1)), .val (.int ia), .val (.int ib), .val (.int ic), .val (.ref b5), .val (.int (0 : Int32)), .val (.int (1 : Int32)), .val (.int (2 : Int32)), .val (.int p6), .val (.int p6), .val (.int p5), .val (.int p6), .val (.int p5)] [])) _
          refine XS.iload X26.here hx rfl (hb hby at_223) rfl ?_
          show Steps p.tables e below (T26.setTop (mkF m 225 #[.val (.int p1), .val (.int p2), .val (.int p3), .val (.int p4), .val (.int p5), .val (.int p6), .val (.int w1), .val (.int ((3 : Int32) * w1)), .val (.int ia), .val (.int ib), .val (.int ic), .val (.ref b5), .val (.int (0 : Int32)), .val (.int (1 : Int32)), .val (.int (2 : Int32)), .val (.int p6), .val (.int p6), .val (.int p5), .val (.int p6), .val (.int p5)] [(.int p6)])) _
          refine XS.iload X26.here hx rfl (hb hby at_225) rfl ?_
          show Steps p.tables e below (T26.setTop (mkF m 227 #[.val (.int p1), .val (.int p2), .val (.int p3), .val (.int p4), .val (.int p5), .val (.int p6), .val (.int w1), .val (.int ((3 : Int32) * w1)), .val (.int ia), .val (.int ib), .val (.int ic), .val (.ref b5), .val (.int (0 : Int32)), .val (.int (1 : Int32)), .val (.int (2 : Int32)), .val (.int p6), .val (.int p6), .val (.int p5), .val (.int p6), .val (.int p5)] [(.int p6), (.int p6)])) _
          refine XS.icmpNo X26.here hx rfl (hb hby at_227) rfl (teq (rfl : p6 = p6)).2 ?_
          show Steps p.tables e below (T26.setTop (mkF m 230 #[.val (.int p1), .val (.int p2), .val (.int p3), .val (.int p4), .val (.int p5), .val (.int p6), .val (.int w1), .val (.int ((3 : Int32) * w1)), .val (.int ia), .val (.int ib), .val (.int ic), .val (.ref b5), .val (.int (0 : Int32)), .val (.int (1 : Int32)), .val (.int (2 : Int32)), .val (.int p6), .val (.int p6), .val (.int p5), .val (.int p6), .val (.int p5)] [])) _
          refine XS.iload X26.here hx rfl (hb hby at_230) rfl ?_
          show Steps p.tables e below (T26.setTop (mkF m 232 #[.val (.int p1), .val (.int p2), .val (.int p3), .val (.int p4), .val (.int p5), .val (.int p6), .val (.int w1), .val (.int ((3 : Int32) * w1)), .val (.int ia), .val (.int ib), .val (.int ic), .val (.ref b5), .val (.int (0 : Int32)), .val (.int (1 : Int32)), .val (.int (2 : Int32)), .val (.int p6), .val (.int p6), .val (.int p5), .val (.int p6), .val (.int p5)] [(.int p6)])) _
          refine XS.iload X26.here hx rfl (hb hby at_232) rfl ?_
          show Steps p.tables e below (T26.setTop (mkF m 234 #[.val (.int p1), .val (.int p2), .val (.int p3), .val (.int p4), .val (.int p5), .val (.int p6), .val (.int w1), .val (.int ((3 : Int32) * w1)), .val (.int ia), .val (.int ib), .val (.int ic), .val (.ref b5), .val (.int (0 : Int32)), .val (.int (1 : Int32)), .val (.int (2 : Int32)), .val (.int p6), .val (.int p6), .val (.int p5), .val (.int p6), .val (.int p5)] [(.int p6), (.int p6)])) _
          refine XS.icmpNo X26.here hx rfl (hb hby at_234) rfl (teq (rfl : p6 = p6)).2 ?_
          show Steps p.tables e below (T26.setTop (mkF m 237 #[.val (.int p1), .val (.int p2), .val (.int p3), .val (.int p4), .val (.int p5), .val (.int p6), .val (.int w1), .val (.int ((3 : Int32) * w1)), .val (.int ia), .val (.int ib), .val (.int ic), .val (.ref b5), .val (.int (0 : Int32)), .val (.int (1 : Int32)), .val (.int (2 : Int32)), .val (.int p6), .val (.int p6), .val (.int p5), .val (.int p6), .val (.int p5)] [])) _
          refine XS.iload X26.here hx rfl (hb hby at_237) rfl ?_
          show Steps p.tables e below (T26.setTop (mkF m 239 #[.val (.int p1), .val (.int p2), .val (.int p3), .val (.int p4), .val (.int p5), .val (.int p6), .val (.int w1), .val (.int ((3 : Int32) * w1)), .val (.int ia), .val (.int ib), .val (.int ic), .val (.ref b5), .val (.int (0 : Int32)), .val (.int (1 : Int32)), .val (.int (2 : Int32)), .val (.int p6), .val (.int p6), .val (.int p5), .val (.int p6), .val (.int p5)] [(.int p5)])) _
          refine XS.iload X26.here hx rfl (hb hby at_239) rfl ?_
          show Steps p.tables e below (T26.setTop (mkF m 241 #[.val (.int p1), .val (.int p2), .val (.int p3), .val (.int p4), .val (.int p5), .val (.int p6), .val (.int w1), .val (.int ((3 : Int32) * w1)), .val (.int ia), .val (.int ib), .val (.int ic), .val (.ref b5), .val (.int (0 : Int32)), .val (.int (1 : Int32)), .val (.int (2 : Int32)), .val (.int p6), .val (.int p6), .val (.int p5), .val (.int p6), .val (.int p5)] [(.int p5), (.int p5)])) _
          refine XS.icmpNo X26.here hx rfl (hb hby at_241) rfl (teq (rfl : p5 = p5)).2 ?_
          show Steps p.tables e below (T26.setTop (mkF m 244 #[.val (.int p1), .val (.int p2), .val (.int p3), .val (.int p4), .val (.int p5), .val (.int p6), .val (.int w1), .val (.int ((3 : Int32) * w1)), .val (.int ia), .val (.int ib), .val (.int ic), .val (.ref b5), .val (.int (0 : Int32)), .val (.int (1 : Int32)), .val (.int (2 : Int32)), .val (.int p6), .val (.int p6), .val (.int p5), .val (.int p6), .val (.int p5)] [])) _
          refine XS.iconst X26.here hx rfl (hb hby at_244) ?_
          show Steps p.tables e below (T26.setTop (mkF m 245 #[.val (.int p1), .val (.int p2), .val (.int p3), .val (.int p4), .val (.int p5), .val (.int p6), .val (.int w1), .val (.int ((3 : Int32) * w1)), .val (.int ia), .val (.int ib), .val (.int ic), .val (.ref b5), .val (.int (0 : Int32)), .val (.int (1 : Int32)), .val (.int (2 : Int32)), .val (.int p6), .val (.int p6), .val (.int p5), .val (.int p6), .val (.int p5)] [(.int (1 : Int32))])) _
          refine XS.goto X26.here hx rfl (pc0 := 245) (pc' := 249) rfl (hb hby at_245) (by decide) (by decide) ?_
          exact kt
        obtain ⟨fs, hr, hrun, hended, hW, hsame⟩ := X26.leave (v := some (.int (1 : Int32))) (fun h => by rw [Bd.returns] at h; cases h)
        refine ⟨_, _, pre27 _ ?_, hrun, hended, _, _, rfl, ?_, ⟨_, rfl⟩, hW, hsame.mono (by decide) (by decide)⟩
        · show Steps p.tables e below (T26.setTop (mkF m 249 #[.val (.int p1), .val (.int p2), .val (.int p3), .val (.int p4), .val (.int p5), .val (.int p6), .val (.int w1), .val (.int ((3 : Int32) * w1)), .val (.int ia), .val (.int ib), .val (.int ic), .val (.ref b5), .val (.int (0 : Int32)), .val (.int (1 : Int32)), .val (.int (2 : Int32)), .val (.int p6), .val (.int p6), .val (.int p5), .val (.int p6), .val (.int p5)] [(.int (1 : Int32))])) _
          exact retN X26 hx (t := .boolean) Bd.returns (by simp) (hb hby at_249) hr
        · show Q0 Z h0 n0 _ T26.heap _
          rw [hE26]
          exact ⟨rfl, N26⟩
      · obtain ⟨cq28, kq28, q28a, q28b, q28c⟩ := isOf hZ hE15 ((Ea9.keep K10).keep K11)
        obtain ⟨_, _, ⟨T28, L28, k28, n28⟩, -, X28, ⟨Lc28, hQ28, l28, y28, z28⟩, st28⟩ := X15.virtualBack hx (y := (⟨"com/example/muniment_room/munimentroom/categorizer/Columns", "get", "(II)I"⟩ : MethodName)) (z := (⟨"com/example/muniment_room/munimentroom/categorizer/Columns", "get", "(II)I"⟩ : MethodName)) hown (mvT hZ (hw _ (List.mem_of_getElem? (i := 30) rfl))) (mvT hZ (hw _ (List.mem_of_getElem? (i := 31) rfl))) (notFace_of_selects (args := #[]) (mvT hZ (hw _ (List.mem_of_getElem? (i := 33) rfl)))) (mvT hZ (hw _ (List.mem_of_getElem? (i := 33) rfl))) (mvT hZ (hw _ (List.mem_of_getElem? (i := 32) rfl))) (by decide) (backOf (W := 0) (rmG l Z a0 hw [] b5 b6 c7 kb6 kc7 w1 (ic / w1) (ic % w1) (0 : Int32) ic ((ib, .int p6) :: ((ia, .int p5) :: [])) T11.heap n0 (Nat.le_trans (Nat.le_trans (Nat.le_trans (Nat.le_trans (Nat.le_trans (Nat.le_trans (Nat.le_trans Z0 E5.1) K6.1) K7.1) K8.1) K9.1) K10.1) K11.1) ((Fw9.keep K10 (ninS hne_ac nin0)).keep K11 (ninS hne_ac nin0)) ((Fb9.keep K10 (ninS hne_ac nin0)).keep K11 (ninS hne_ac nin0)) ((((Vb7.keep K8 (ninS (Ne.symm hne_ab) nin0)).keep K9 (ninS (Ne.symm hne_ab) nin0)).keep K10 (ninS hne_bc nin0)).keep K11 (ninS hne_bc nin0)) Vc11 x_ic.1 x_ic.2.1 x_ic.2.2  (getH_miss (x_ic.2.2).1 c159_17 (getH_miss (x_ic.2.2).1 c161_25 (by simp [getH])))) hZ (hw _ (List.mem_of_getElem? (i := 34) rfl)) (hw _ (List.mem_of_getElem? (i := 3) rfl)) (by decide) (by decide)) q28a q28c (g := (mkF m 171 #[.val (.int p1), .val (.int p2), .val (.int p3), .val (.int p4), .val (.int p5), .val (.int p6), .val (.int w1), .val (.int ((3 : Int32) * w1)), .val (.int ia), .val (.int ib), .val (.int ic), .val (.ref b5), .val (.int (0 : Int32)), .val (.int (1 : Int32)), .val (.int (2 : Int32)), .val (.int p6), .val (.int p6), .unset, .unset, .unset] [(.int (ic % w1)), (.int (ic / w1)), (.ref b5)])) rfl (by rw [hml]; rfl) (Steps.refl _) (argsL := [(.int (ic / w1)), (.int (ic % w1))]) (rest := []) (lenOf pd_rm0_3 rfl) rfl (by show 2 * 0 + _ ≤ _; exact Nat.le_of_eq rfl) (hb hby at_171) (fun _ _ => ⟨rfl, hE15, (by decide : 3 + 0 ≤ _), (by decide : 4100 + 0 ≤ _)⟩)
        dsimp only [Pt.U, Pt.locs, Pt.cells, Pt.slots] at X28 l28 y28 z28 st28 hQ28
        subst l28 y28 z28
        obtain ⟨rfl, N28q, hE28⟩ := hQ28
        have N28 := Fr.app N15 N28q
        have pre29 : ∀ tt, Steps p.tables e below (T28.setTop (mkF m 249 #[.val (.int p1), .val (.int p2), .val (.int p3), .val (.int p4), .val (.int p5), .val (.int p6), .val (.int w1), .val (.int ((3 : Int32) * w1)), .val (.int ia), .val (.int ib), .val (.int ic), .val (.ref b5), .val (.int (0 : Int32)), .val (.int (1 : Int32)), .val (.int (2 : Int32)), .val (.int p6), .val (.int p6), .val (.int (0 : Int32)), .val (.int p6), .val (.int (0 : Int32))] [(.int (1 : Int32))])) tt → Steps p.tables e below (s₁.setTop (entryFrame m #[(.int p1), (.int p2), (.int p3), (.int p4), (.int p5), (.int p6)] maxLocals)) tt := by
          intro tt kt
          refine pre24 tt ?_
          show Steps p.tables e below (T15.setTop (mkF m 161 #[.val (.int p1), .val (.int p2), .val (.int p3), .val (.int p4), .val (.int p5), .val (.int p6), .val (.int w1), .val (.int ((3 : Int32) * w1)), .val (.int ia), .val (.int ib), .val (.int ic), .val (.ref b5), .val (.int (0 : Int32)), .val (.int (1 : Int32)), .val (.int (2 : Int32)), .val (.int p6), .val (.int p6), .unset, .unset, .unset] [(.ref b5)])) _
          refine XS.iload X15.here hx rfl (hb hby at_161) rfl ?_
          show Steps p.tables e below (T15.setTop (mkF m 163 #[.val (.int p1), .val (.int p2), .val (.int p3), .val (.int p4), .val (.int p5), .val (.int p6), .val (.int w1), .val (.int ((3 : Int32) * w1)), .val (.int ia), .val (.int ib), .val (.int ic), .val (.ref b5), .val (.int (0 : Int32)), .val (.int (1 : Int32)), .val (.int (2 : Int32)), .val (.int p6), .val (.int p6), .unset, .unset, .unset] [(.int ic), (.ref b5)])) _
          refine XS.iload X15.here hx rfl (hb hby at_163) rfl ?_
          show Steps p.tables e below (T15.setTop (mkF m 165 #[.val (.int p1), .val (.int p2), .val (.int p3), .val (.int p4), .val (.int p5), .val (.int p6), .val (.int w1), .val (.int ((3 : Int32) * w1)), .val (.int ia), .val (.int ib), .val (.int ic), .val (.ref b5), .val (.int (0 : Int32)), .val (.int (1 : Int32)), .val (.int (2 : Int32)), .val (.int p6), .val (.int p6), .unset, .unset, .unset] [(.int w1), (.int ic), (.ref b5)])) _
          refine XS.idiv X15.here hx rfl (hb hby at_165) rfl hwne ?_
          show Steps p.tables e below (T15.setTop (mkF m 166 #[.val (.int p1), .val (.int p2), .val (.int p3), .val (.int p4), .val (.int p5), .val (.int p6), .val (.int w1), .val (.int ((3 : Int32) * w1)), .val (.int ia), .val (.int ib), .val (.int ic), .val (.ref b5), .val (.int (0 : Int32)), .val (.int (1 : Int32)), .val (.int (2 : Int32)), .val (.int p6), .val (.int p6), .unset, .unset, .unset] [(.int (ic / w1)), (.ref b5)])) _
          refine XS.iload X15.here hx rfl (hb hby at_166) rfl ?_
          show Steps p.tables e below (T15.setTop (mkF m 168 #[.val (.int p1), .val (.int p2), .val (.int p3), .val (.int p4), .val (.int p5), .val (.int p6), .val (.int w1), .val (.int ((3 : Int32) * w1)), .val (.int ia), .val (.int ib), .val (.int ic), .val (.ref b5), .val (.int (0 : Int32)), .val (.int (1 : Int32)), .val (.int (2 : Int32)), .val (.int p6), .val (.int p6), .unset, .unset, .unset] [(.int ic), (.int (ic / w1)), (.ref b5)])) _
          refine XS.iload X15.here hx rfl (hb hby at_168) rfl ?_
          show Steps p.tables e below (T15.setTop (mkF m 170 #[.val (.int p1), .val (.int p2), .val (.int p3), .val (.int p4), .val (.int p5), .val (.int p6), .val (.int w1), .val (.int ((3 : Int32) * w1)), .val (.int ia), .val (.int ib), .val (.int ic), .val (.ref b5), .val (.int (0 : Int32)), .val (.int (1 : Int32)), .val (.int (2 : Int32)), .val (.int p6), .val (.int p6), .unset, .unset, .unset] [(.int w1), (.int ic), (.int (ic / w1)), (.ref b5)])) _
          refine iremM (g := (mkF m 170 #[.val (.int p1), .val (.int p2), .val (.int p3), .val (.int p4), .val (.int p5), .val (.int p6), .val (.int w1), .val (.int ((3 : Int32) * w1)), .val (.int ia), .val (.int ib), .val (.int ic), .val (.ref b5), .val (.int (0 : Int32)), .val (.int (1 : Int32)), .val (.int (2 : Int32)), .val (.int p6), .val (.int p6), .unset, .unset, .unset] [(.int w1), (.int ic), (.int (ic / w1)), (.ref b5)])) X15 hx rfl (hb hby at_170) rfl hwne ?_
          show Steps p.tables e below (T15.setTop (mkF m 171 #[.val (.int p1), .val (.int p2), .val (.int p3), .val (.int p4), .val (.int p5), .val (.int p6), .val (.int w1), .val (.int ((3 : Int32) * w1)), .val (.int ia), .val (.int ib), .val (.int ic), .val (.ref b5), .val (.int (0 : Int32)), .val (.int (1 : Int32)), .val (.int (2 : Int32)), .val (.int p6), .val (.int p6), .unset, .unset, .unset] [(.int (ic % w1)), (.int (ic / w1)), (.ref b5)])) _
          refine st28.trans ?_
          show Steps p.tables e below (T28.setTop (mkF m 174 #[.val (.int p1), .val (.int p2), .val (.int p3), .val (.int p4), .val (.int p5), .val (.int p6), .val (.int w1), .val (.int ((3 : Int32) * w1)), .val (.int ia), .val (.int ib), .val (.int ic), .val (.ref b5), .val (.int (0 : Int32)), .val (.int (1 : Int32)), .val (.int (2 : Int32)), .val (.int p6), .val (.int p6), .unset, .unset, .unset] [(.int (0 : Int32))])) _
          refine XS.istore X28.here hx rfl (hb hby at_174) rfl (l' := #[.val (.int p1), .val (.int p2), .val (.int p3), .val (.int p4), .val (.int p5), .val (.int p6), .val (.int w1), .val (.int ((3 : Int32) * w1)), .val (.int ia), .val (.int ib), .val (.int ic), .val (.ref b5), .val (.int (0 : Int32)), .val (.int (1 : Int32)), .val (.int (2 : Int32)), .val (.int p6), .val (.int p6), .val (.int (0 : Int32)), .unset, .unset]) rfl ?_
          show Steps p.tables e below (T28.setTop (mkF m 176 #[.val (.int p1), .val (.int p2), .val (.int p3), .val (.int p4), .val (.int p5), .val (.int p6), .val (.int w1), .val (.int ((3 : Int32) * w1)), .val (.int ia), .val (.int ib), .val (.int ic), .val (.ref b5), .val (.int (0 : Int32)), .val (.int (1 : Int32)), .val (.int (2 : Int32)), .val (.int p6), .val (.int p6), .val (.int (0 : Int32)), .unset, .unset] [])) _
          refine XS.iload X28.here hx rfl (hb hby at_176) rfl ?_
          show Steps p.tables e below (T28.setTop (mkF m 178 #[.val (.int p1), .val (.int p2), .val (.int p3), .val (.int p4), .val (.int p5), .val (.int p6), .val (.int w1), .val (.int ((3 : Int32) * w1)), .val (.int ia), .val (.int ib), .val (.int ic), .val (.ref b5), .val (.int (0 : Int32)), .val (.int (1 : Int32)), .val (.int (2 : Int32)), .val (.int p6), .val (.int p6), .val (.int (0 : Int32)), .unset, .unset] [(.int ia)])) _
          refine XS.iload X28.here hx rfl (hb hby at_178) rfl ?_
          show Steps p.tables e below (T28.setTop (mkF m 180 #[.val (.int p1), .val (.int p2), .val (.int p3), .val (.int p4), .val (.int p5), .val (.int p6), .val (.int w1), .val (.int ((3 : Int32) * w1)), .val (.int ia), .val (.int ib), .val (.int ic), .val (.ref b5), .val (.int (0 : Int32)), .val (.int (1 : Int32)), .val (.int (2 : Int32)), .val (.int p6), .val (.int p6), .val (.int (0 : Int32)), .unset, .unset] [(.int ib), (.int ia)])) _
          refine XS.icmpNo X28.here hx rfl (hb hby at_180) rfl (teq c125_13).2 ?_
          show Steps p.tables e below (T28.setTop (mkF m 183 #[.val (.int p1), .val (.int p2), .val (.int p3), .val (.int p4), .val (.int p5), .val (.int p6), .val (.int w1), .val (.int ((3 : Int32) * w1)), .val (.int ia), .val (.int ib), .val (.int ic), .val (.ref b5), .val (.int (0 : Int32)), .val (.int (1 : Int32)), .val (.int (2 : Int32)), .val (.int p6), .val (.int p6), .val (.int (0 : Int32)), .unset, .unset] [])) _
          refine XS.iload X28.here hx rfl (hb hby at_183) rfl ?_
          show Steps p.tables e below (T28.setTop (mkF m 185 #[.val (.int p1), .val (.int p2), .val (.int p3), .val (.int p4), .val (.int p5), .val (.int p6), .val (.int w1), .val (.int ((3 : Int32) * w1)), .val (.int ia), .val (.int ib), .val (.int ic), .val (.ref b5), .val (.int (0 : Int32)), .val (.int (1 : Int32)), .val (.int (2 : Int32)), .val (.int p6), .val (.int p6), .val (.int (0 : Int32)), .unset, .unset] [(.int p6)])) _
          refine XS.goto X28.here hx rfl (pc0 := 185) (pc' := 190) rfl (hb hby at_185) (by decide) (by decide) ?_
          show Steps p.tables e below (T28.setTop (mkF m 190 #[.val (.int p1), .val (.int p2), .val (.int p3), .val (.int p4), .val (.int p5), .val (.int p6), .val (.int w1), .val (.int ((3 : Int32) * w1)), .val (.int ia), .val (.int ib), .val (.int ic), .val (.ref b5), .val (.int (0 : Int32)), .val (.int (1 : Int32)), .val (.int (2 : Int32)), .val (.int p6), .val (.int p6), .val (.int (0 : Int32)), .unset, .unset] [(.int p6)])) _
          refine XS.istore X28.here hx rfl (hb hby at_190) rfl (l' := #[.val (.int p1), .val (.int p2), .val (.int p3), .val (.int p4), .val (.int p5), .val (.int p6), .val (.int w1), .val (.int ((3 : Int32) * w1)), .val (.int ia), .val (.int ib), .val (.int ic), .val (.ref b5), .val (.int (0 : Int32)), .val (.int (1 : Int32)), .val (.int (2 : Int32)), .val (.int p6), .val (.int p6), .val (.int (0 : Int32)), .val (.int p6), .unset]) rfl ?_
          show Steps p.tables e below (T28.setTop (mkF m 192 #[.val (.int p1), .val (.int p2), .val (.int p3), .val (.int p4), .val (.int p5), .val (.int p6), .val (.int w1), .val (.int ((3 : Int32) * w1)), .val (.int ia), .val (.int ib), .val (.int ic), .val (.ref b5), .val (.int (0 : Int32)), .val (.int (1 : Int32)), .val (.int (2 : Int32)), .val (.int p6), .val (.int p6), .val (.int (0 : Int32)), .val (.int p6), .unset] [])) _
          refine XS.iload X28.here hx rfl (hb hby at_192) rfl ?_
          show Steps p.tables e below (T28.setTop (mkF m 194 #[.val (.int p1), .val (.int p2), .val (.int p3), .val (.int p4), .val (.int p5), .val (.int p6), .val (.int w1), .val (.int ((3 : Int32) * w1)), .val (.int ia), .val (.int ib), .val (.int ic), .val (.ref b5), .val (.int (0 : Int32)), .val (.int (1 : Int32)), .val (.int (2 : Int32)), .val (.int p6), .val (.int p6), .val (.int (0 : Int32)), .val (.int p6), .unset] [(.int ic)])) _
          refine XS.iload X28.here hx rfl (hb hby at_194) rfl ?_
          show Steps p.tables e below (T28.setTop (mkF m 196 #[.val (.int p1), .val (.int p2), .val (.int p3), .val (.int p4), .val (.int p5), .val (.int p6), .val (.int w1), .val (.int ((3 : Int32) * w1)), .val (.int ia), .val (.int ib), .val (.int ic), .val (.ref b5), .val (.int (0 : Int32)), .val (.int (1 : Int32)), .val (.int (2 : Int32)), .val (.int p6), .val (.int p6), .val (.int (0 : Int32)), .val (.int p6), .unset] [(.int ib), (.int ic)])) _
          refine XS.icmpYes X28.here hx rfl (pc0 := 196) (pc' := 206) rfl (hb hby at_196) rfl (feq c159_17).2 (by decide) (by decide) ?_
          show Steps p.tables e below (T28.setTop (mkF m 206 #[.val (.int p1), .val (.int p2), .val (.int p3), .val (.int p4), .val (.int p5), .val (.int p6), .val (.int w1), .val (.int ((3 : Int32) * w1)), .val (.int ia), .val (.int ib), .val (.int ic), .val (.ref b5), .val (.int (0 : Int32)), .val (.int (1 : Int32)), .val (.int (2 : Int32)), .val (.int p6), .val (.int p6), .val (.int (0 : Int32)), .val (.int p6), .unset] [])) _
          refine XS.iload X28.here hx rfl (hb hby at_206) rfl ?_
          show Steps p.tables e below (T28.setTop (mkF m 208 #[.val (.int p1), .val (.int p2), .val (.int p3), .val (.int p4), .val (.int p5), .val (.int p6), .val (.int w1), .val (.int ((3 : Int32) * w1)), .val (.int ia), .val (.int ib), .val (.int ic), .val (.ref b5), .val (.int (0 : Int32)), .val (.int (1 : Int32)), .val (.int (2 : Int32)), .val (.int p6), .val (.int p6), .val (.int (0 : Int32)), .val (.int p6), .unset] [(.int ic)])) _
          refine XS.iload X28.here hx rfl (hb hby at_208) rfl ?_
          show Steps p.tables e below (T28.setTop (mkF m 210 #[.val (.int p1), .val (.int p2), .val (.int p3), .val (.int p4), .val (.int p5), .val (.int p6), .val (.int w1), .val (.int ((3 : Int32) * w1)), .val (.int ia), .val (.int ib), .val (.int ic), .val (.ref b5), .val (.int (0 : Int32)), .val (.int (1 : Int32)), .val (.int (2 : Int32)), .val (.int p6), .val (.int p6), .val (.int (0 : Int32)), .val (.int p6), .unset] [(.int ia), (.int ic)])) _
          refine XS.icmpYes X28.here hx rfl (pc0 := 210) (pc' := 220) rfl (hb hby at_210) rfl (feq c161_25).2 (by decide) (by decide) ?_
          show Steps p.tables e below (T28.setTop (mkF m 220 #[.val (.int p1), .val (.int p2), .val (.int p3), .val (.int p4), .val (.int p5), .val (.int p6), .val (.int w1), .val (.int ((3 : Int32) * w1)), .val (.int ia), .val (.int ib), .val (.int ic), .val (.ref b5), .val (.int (0 : Int32)), .val (.int (1 : Int32)), .val (.int (2 : Int32)), .val (.int p6), .val (.int p6), .val (.int (0 : Int32)), .val (.int p6), .unset] [])) _
          refine XS.iconst X28.here hx rfl (hb hby at_220) ?_
          show Steps p.tables e below (T28.setTop (mkF m 221 #[.val (.int p1), .val (.int p2), .val (.int p3), .val (.int p4), .val (.int p5), .val (.int p6), .val (.int w1), .val (.int ((3 : Int32) * w1)), .val (.int ia), .val (.int ib), .val (.int ic), .val (.ref b5), .val (.int (0 : Int32)), .val (.int (1 : Int32)), .val (.int (2 : Int32)), .val (.int p6), .val (.int p6), .val (.int (0 : Int32)), .val (.int p6), .unset] [(.int (0 : Int32))])) _
          refine XS.istore X28.here hx rfl (hb hby at_221) rfl (l' := #[.val (.int p1), .val (.int p2), .val (.int p3), .val (.int p4), .val (.int p5), .val (.int p6), .val (.int w1), .val (.int ((3 : Int32) * w1)), .val (.int ia), .val (.int ib), .val (.int ic), .val (.ref b5), .val (.int (0 : Int32)), .val (.int (1 : Int32)), .val (.int (2 : Int32)), .val (.int p6), .val (.int p6), .val (.int (0 : Int32)), .val (.int p6), .val (.int (0 : Int32))]) rfl ?_
          show Steps p.tables e below (T28.setTop (mkF m 223 #[.val (.int p1), .val (.int p2), .val (.int p3), .val (.int p4), .val (.int p5), .val (.int p6), .val (.int w1), .val (.int ((3 : Int32) * w1)), .val (.int ia), .val (.int ib), .val (.int ic), .val (.ref b5), .val (.int (0 : Int32)), .val (.int (1 : Int32)), .val (.int (2 : Int32)), .val (.int p6), .val (.int p6), .val (.int (0 : Int32)), .val (.int p6), .val (.int (0 : Int32))] [])) _
          refine XS.iload X28.here hx rfl (hb hby at_223) rfl ?_
          show Steps p.tables e below (T28.setTop (mkF m 225 #[.val (.int p1), .val (.int p2), .val (.int p3), .val (.int p4), .val (.int p5), .val (.int p6), .val (.int w1), .val (.int ((3 : Int32) * w1)), .val (.int ia), .val (.int ib), .val (.int ic), .val (.ref b5), .val (.int (0 : Int32)), .val (.int (1 : Int32)), .val (.int (2 : Int32)), .val (.int p6), .val (.int p6), .val (.int (0 : Int32)), .val (.int p6), .val (.int (0 : Int32))] [(.int p6)])) _
          refine XS.iload X28.here hx rfl (hb hby at_225) rfl ?_
          show Steps p.tables e below (T28.setTop (mkF m 227 #[.val (.int p1), .val (.int p2), .val (.int p3), .val (.int p4), .val (.int p5), .val (.int p6), .val (.int w1), .val (.int ((3 : Int32) * w1)), .val (.int ia), .val (.int ib), .val (.int ic), .val (.ref b5), .val (.int (0 : Int32)), .val (.int (1 : Int32)), .val (.int (2 : Int32)), .val (.int p6), .val (.int p6), .val (.int (0 : Int32)), .val (.int p6), .val (.int (0 : Int32))] [(.int p6), (.int p6)])) _
          refine XS.icmpNo X28.here hx rfl (hb hby at_227) rfl (teq (rfl : p6 = p6)).2 ?_
          show Steps p.tables e below (T28.setTop (mkF m 230 #[.val (.int p1), .val (.int p2), .val (.int p3), .val (.int p4), .val (.int p5), .val (.int p6), .val (.int w1), .val (.int ((3 : Int32) * w1)), .val (.int ia), .val (.int ib), .val (.int ic), .val (.ref b5), .val (.int (0 : Int32)), .val (.int (1 : Int32)), .val (.int (2 : Int32)), .val (.int p6), .val (.int p6), .val (.int (0 : Int32)), .val (.int p6), .val (.int (0 : Int32))] [])) _
          refine XS.iload X28.here hx rfl (hb hby at_230) rfl ?_
          show Steps p.tables e below (T28.setTop (mkF m 232 #[.val (.int p1), .val (.int p2), .val (.int p3), .val (.int p4), .val (.int p5), .val (.int p6), .val (.int w1), .val (.int ((3 : Int32) * w1)), .val (.int ia), .val (.int ib), .val (.int ic), .val (.ref b5), .val (.int (0 : Int32)), .val (.int (1 : Int32)), .val (.int (2 : Int32)), .val (.int p6), .val (.int p6), .val (.int (0 : Int32)), .val (.int p6), .val (.int (0 : Int32))] [(.int p6)])) _
          refine XS.iload X28.here hx rfl (hb hby at_232) rfl ?_
          show Steps p.tables e below (T28.setTop (mkF m 234 #[.val (.int p1), .val (.int p2), .val (.int p3), .val (.int p4), .val (.int p5), .val (.int p6), .val (.int w1), .val (.int ((3 : Int32) * w1)), .val (.int ia), .val (.int ib), .val (.int ic), .val (.ref b5), .val (.int (0 : Int32)), .val (.int (1 : Int32)), .val (.int (2 : Int32)), .val (.int p6), .val (.int p6), .val (.int (0 : Int32)), .val (.int p6), .val (.int (0 : Int32))] [(.int p6), (.int p6)])) _
          refine XS.icmpNo X28.here hx rfl (hb hby at_234) rfl (teq (rfl : p6 = p6)).2 ?_
          show Steps p.tables e below (T28.setTop (mkF m 237 #[.val (.int p1), .val (.int p2), .val (.int p3), .val (.int p4), .val (.int p5), .val (.int p6), .val (.int w1), .val (.int ((3 : Int32) * w1)), .val (.int ia), .val (.int ib), .val (.int ic), .val (.ref b5), .val (.int (0 : Int32)), .val (.int (1 : Int32)), .val (.int (2 : Int32)), .val (.int p6), .val (.int p6), .val (.int (0 : Int32)), .val (.int p6), .val (.int (0 : Int32))] [])) _
          refine XS.iload X28.here hx rfl (hb hby at_237) rfl ?_
          show Steps p.tables e below (T28.setTop (mkF m 239 #[.val (.int p1), .val (.int p2), .val (.int p3), .val (.int p4), .val (.int p5), .val (.int p6), .val (.int w1), .val (.int ((3 : Int32) * w1)), .val (.int ia), .val (.int ib), .val (.int ic), .val (.ref b5), .val (.int (0 : Int32)), .val (.int (1 : Int32)), .val (.int (2 : Int32)), .val (.int p6), .val (.int p6), .val (.int (0 : Int32)), .val (.int p6), .val (.int (0 : Int32))] [(.int (0 : Int32))])) _
          refine XS.iload X28.here hx rfl (hb hby at_239) rfl ?_
          show Steps p.tables e below (T28.setTop (mkF m 241 #[.val (.int p1), .val (.int p2), .val (.int p3), .val (.int p4), .val (.int p5), .val (.int p6), .val (.int w1), .val (.int ((3 : Int32) * w1)), .val (.int ia), .val (.int ib), .val (.int ic), .val (.ref b5), .val (.int (0 : Int32)), .val (.int (1 : Int32)), .val (.int (2 : Int32)), .val (.int p6), .val (.int p6), .val (.int (0 : Int32)), .val (.int p6), .val (.int (0 : Int32))] [(.int (0 : Int32)), (.int (0 : Int32))])) _
          refine XS.icmpNo X28.here hx rfl (hb hby at_241) rfl (teq (rfl : (0 : Int32) = (0 : Int32))).2 ?_
          show Steps p.tables e below (T28.setTop (mkF m 244 #[.val (.int p1), .val (.int p2), .val (.int p3), .val (.int p4), .val (.int p5), .val (.int p6), .val (.int w1), .val (.int ((3 : Int32) * w1)), .val (.int ia), .val (.int ib), .val (.int ic), .val (.ref b5), .val (.int (0 : Int32)), .val (.int (1 : Int32)), .val (.int (2 : Int32)), .val (.int p6), .val (.int p6), .val (.int (0 : Int32)), .val (.int p6), .val (.int (0 : Int32))] [])) _
          refine XS.iconst X28.here hx rfl (hb hby at_244) ?_
          show Steps p.tables e below (T28.setTop (mkF m 245 #[.val (.int p1), .val (.int p2), .val (.int p3), .val (.int p4), .val (.int p5), .val (.int p6), .val (.int w1), .val (.int ((3 : Int32) * w1)), .val (.int ia), .val (.int ib), .val (.int ic), .val (.ref b5), .val (.int (0 : Int32)), .val (.int (1 : Int32)), .val (.int (2 : Int32)), .val (.int p6), .val (.int p6), .val (.int (0 : Int32)), .val (.int p6), .val (.int (0 : Int32))] [(.int (1 : Int32))])) _
          refine XS.goto X28.here hx rfl (pc0 := 245) (pc' := 249) rfl (hb hby at_245) (by decide) (by decide) ?_
          exact kt
        obtain ⟨fs, hr, hrun, hended, hW, hsame⟩ := X28.leave (v := some (.int (1 : Int32))) (fun h => by rw [Bd.returns] at h; cases h)
        refine ⟨_, _, pre29 _ ?_, hrun, hended, _, _, rfl, ?_, ⟨_, rfl⟩, hW, hsame.mono (by decide) (by decide)⟩
        · show Steps p.tables e below (T28.setTop (mkF m 249 #[.val (.int p1), .val (.int p2), .val (.int p3), .val (.int p4), .val (.int p5), .val (.int p6), .val (.int w1), .val (.int ((3 : Int32) * w1)), .val (.int ia), .val (.int ib), .val (.int ic), .val (.ref b5), .val (.int (0 : Int32)), .val (.int (1 : Int32)), .val (.int (2 : Int32)), .val (.int p6), .val (.int p6), .val (.int (0 : Int32)), .val (.int p6), .val (.int (0 : Int32))] [(.int (1 : Int32))])) _
          exact retN X28 hx (t := .boolean) Bd.returns (by simp) (hb hby at_249) hr
        · show Q0 Z h0 n0 _ T28.heap _
          rw [hE28]
          exact ⟨rfl, N28⟩
  · obtain ⟨cq30, kq30, q30a, q30b, q30c⟩ := isOf hZ rfl ((Ea9.keep K10).keep K11)
    obtain ⟨_, _, ⟨T30, L30, k30, n30⟩, -, X30, ⟨Lc30, hQ30, l30, y30, z30⟩, st30⟩ := X11.virtualBack hx (y := (⟨"com/example/muniment_room/munimentroom/categorizer/Columns", "get", "(II)I"⟩ : MethodName)) (z := (⟨"com/example/muniment_room/munimentroom/categorizer/Columns", "get", "(II)I"⟩ : MethodName)) hown (mvT hZ (hw _ (List.mem_of_getElem? (i := 30) rfl))) (mvT hZ (hw _ (List.mem_of_getElem? (i := 31) rfl))) (notFace_of_selects (args := #[]) (mvT hZ (hw _ (List.mem_of_getElem? (i := 33) rfl)))) (mvT hZ (hw _ (List.mem_of_getElem? (i := 33) rfl))) (mvT hZ (hw _ (List.mem_of_getElem? (i := 32) rfl))) (by decide) (backOf (W := 0) (rmG l Z a0 hw [] b5 b6 c7 kb6 kc7 w1 (ia / w1) (ia % w1) p5 ia ((ib, .int p6) :: ((ia, .int p5) :: [])) T11.heap n0 (Nat.le_trans (Nat.le_trans (Nat.le_trans (Nat.le_trans (Nat.le_trans (Nat.le_trans (Nat.le_trans Z0 E5.1) K6.1) K7.1) K8.1) K9.1) K10.1) K11.1) ((Fw9.keep K10 (ninS hne_ac nin0)).keep K11 (ninS hne_ac nin0)) ((Fb9.keep K10 (ninS hne_ac nin0)).keep K11 (ninS hne_ac nin0)) ((((Vb7.keep K8 (ninS (Ne.symm hne_ab) nin0)).keep K9 (ninS (Ne.symm hne_ab) nin0)).keep K10 (ninS hne_bc nin0)).keep K11 (ninS hne_bc nin0)) Vc11 x_ia.1 x_ia.2.1 x_ia.2.2  (getH_miss (x_ia.2.2).1 c125_13 (getH_hit (x_ia.2.2).1 (rfl : ia = ia)))) hZ (hw _ (List.mem_of_getElem? (i := 34) rfl)) (hw _ (List.mem_of_getElem? (i := 3) rfl)) (by decide) (by decide)) q30a q30c (g := (mkF m 137 #[.val (.int p1), .val (.int p2), .val (.int p3), .val (.int p4), .val (.int p5), .val (.int p6), .val (.int w1), .val (.int ((3 : Int32) * w1)), .val (.int ia), .val (.int ib), .val (.int ic), .val (.ref b5), .val (.int (0 : Int32)), .val (.int (1 : Int32)), .val (.int (2 : Int32)), .unset, .unset, .unset, .unset, .unset] [(.int (ia % w1)), (.int (ia / w1)), (.ref b5)])) rfl (by rw [hml]; rfl) (Steps.refl _) (argsL := [(.int (ia / w1)), (.int (ia % w1))]) (rest := []) (lenOf pd_rm0_3 rfl) rfl (by show 2 * 0 + _ ≤ _; exact Nat.le_of_eq rfl) (hb hby at_137) (fun _ _ => ⟨rfl, rfl, (by decide : 3 + 0 ≤ _), (by decide : 4100 + 0 ≤ _)⟩)
    dsimp only [Pt.U, Pt.locs, Pt.cells, Pt.slots] at X30 l30 y30 z30 st30 hQ30
    subst l30 y30 z30
    obtain ⟨rfl, N30q, hE30⟩ := hQ30
    have N30 := Fr.app N11 N30q
    obtain ⟨cq31, kq31, q31a, q31b, q31c⟩ := isOf hZ hE30 ((Ea9.keep K10).keep K11)
    obtain ⟨_, _, ⟨T31, L31, k31, n31⟩, -, X31, ⟨Lc31, hQ31, l31, y31, z31⟩, st31⟩ := X30.virtualBack hx (y := (⟨"com/example/muniment_room/munimentroom/categorizer/Columns", "get", "(II)I"⟩ : MethodName)) (z := (⟨"com/example/muniment_room/munimentroom/categorizer/Columns", "get", "(II)I"⟩ : MethodName)) hown (mvT hZ (hw _ (List.mem_of_getElem? (i := 30) rfl))) (mvT hZ (hw _ (List.mem_of_getElem? (i := 31) rfl))) (notFace_of_selects (args := #[]) (mvT hZ (hw _ (List.mem_of_getElem? (i := 33) rfl)))) (mvT hZ (hw _ (List.mem_of_getElem? (i := 33) rfl))) (mvT hZ (hw _ (List.mem_of_getElem? (i := 32) rfl))) (by decide) (backOf (W := 0) (rmG l Z a0 hw [] b5 b6 c7 kb6 kc7 w1 (ib / w1) (ib % w1) p6 ib ((ib, .int p6) :: ((ia, .int p5) :: [])) T11.heap n0 (Nat.le_trans (Nat.le_trans (Nat.le_trans (Nat.le_trans (Nat.le_trans (Nat.le_trans (Nat.le_trans Z0 E5.1) K6.1) K7.1) K8.1) K9.1) K10.1) K11.1) ((Fw9.keep K10 (ninS hne_ac nin0)).keep K11 (ninS hne_ac nin0)) ((Fb9.keep K10 (ninS hne_ac nin0)).keep K11 (ninS hne_ac nin0)) ((((Vb7.keep K8 (ninS (Ne.symm hne_ab) nin0)).keep K9 (ninS (Ne.symm hne_ab) nin0)).keep K10 (ninS hne_bc nin0)).keep K11 (ninS hne_bc nin0)) Vc11 x_ib.1 x_ib.2.1 x_ib.2.2  (getH_hit (x_ib.2.2).1 (rfl : ib = ib))) hZ (hw _ (List.mem_of_getElem? (i := 34) rfl)) (hw _ (List.mem_of_getElem? (i := 3) rfl)) (by decide) (by decide)) q31a q31c (g := (mkF m 154 #[.val (.int p1), .val (.int p2), .val (.int p3), .val (.int p4), .val (.int p5), .val (.int p6), .val (.int w1), .val (.int ((3 : Int32) * w1)), .val (.int ia), .val (.int ib), .val (.int ic), .val (.ref b5), .val (.int (0 : Int32)), .val (.int (1 : Int32)), .val (.int (2 : Int32)), .val (.int p5), .unset, .unset, .unset, .unset] [(.int (ib % w1)), (.int (ib / w1)), (.ref b5)])) rfl (by rw [hml]; rfl) (Steps.refl _) (argsL := [(.int (ib / w1)), (.int (ib % w1))]) (rest := []) (lenOf pd_rm0_3 rfl) rfl (by show 2 * 0 + _ ≤ _; exact Nat.le_of_eq rfl) (hb hby at_154) (fun _ _ => ⟨rfl, hE30, (by decide : 3 + 0 ≤ _), (by decide : 4100 + 0 ≤ _)⟩)
    dsimp only [Pt.U, Pt.locs, Pt.cells, Pt.slots] at X31 l31 y31 z31 st31 hQ31
    subst l31 y31 z31
    obtain ⟨rfl, N31q, hE31⟩ := hQ31
    have N31 := Fr.app N30 N31q
    have pre32 : ∀ tt, Steps p.tables e below (T31.setTop (mkF m 159 #[.val (.int p1), .val (.int p2), .val (.int p3), .val (.int p4), .val (.int p5), .val (.int p6), .val (.int w1), .val (.int ((3 : Int32) * w1)), .val (.int ia), .val (.int ib), .val (.int ic), .val (.ref b5), .val (.int (0 : Int32)), .val (.int (1 : Int32)), .val (.int (2 : Int32)), .val (.int p5), .val (.int p6), .unset, .unset, .unset] [])) tt → Steps p.tables e below (s₁.setTop (entryFrame m #[(.int p1), (.int p2), (.int p3), (.int p4), (.int p5), (.int p6)] maxLocals)) tt := by
      intro tt kt
      refine pre12 tt ?_
      show Steps p.tables e below (T11.setTop (mkF m 125 #[.val (.int p1), .val (.int p2), .val (.int p3), .val (.int p4), .val (.int p5), .val (.int p6), .val (.int w1), .val (.int ((3 : Int32) * w1)), .val (.int ia), .val (.int ib), .val (.int ic), .val (.ref b5), .val (.int (0 : Int32)), .val (.int (1 : Int32)), .val (.int (2 : Int32)), .unset, .unset, .unset, .unset, .unset] [])) _
      refine XS.aload X11.here hx rfl (hb hby at_125) rfl rfl ?_
      show Steps p.tables e below (T11.setTop (mkF m 127 #[.val (.int p1), .val (.int p2), .val (.int p3), .val (.int p4), .val (.int p5), .val (.int p6), .val (.int w1), .val (.int ((3 : Int32) * w1)), .val (.int ia), .val (.int ib), .val (.int ic), .val (.ref b5), .val (.int (0 : Int32)), .val (.int (1 : Int32)), .val (.int (2 : Int32)), .unset, .unset, .unset, .unset, .unset] [(.ref b5)])) _
      refine XS.iload X11.here hx rfl (hb hby at_127) rfl ?_
      show Steps p.tables e below (T11.setTop (mkF m 129 #[.val (.int p1), .val (.int p2), .val (.int p3), .val (.int p4), .val (.int p5), .val (.int p6), .val (.int w1), .val (.int ((3 : Int32) * w1)), .val (.int ia), .val (.int ib), .val (.int ic), .val (.ref b5), .val (.int (0 : Int32)), .val (.int (1 : Int32)), .val (.int (2 : Int32)), .unset, .unset, .unset, .unset, .unset] [(.int ia), (.ref b5)])) _
      refine XS.iload X11.here hx rfl (hb hby at_129) rfl ?_
      show Steps p.tables e below (T11.setTop (mkF m 131 #[.val (.int p1), .val (.int p2), .val (.int p3), .val (.int p4), .val (.int p5), .val (.int p6), .val (.int w1), .val (.int ((3 : Int32) * w1)), .val (.int ia), .val (.int ib), .val (.int ic), .val (.ref b5), .val (.int (0 : Int32)), .val (.int (1 : Int32)), .val (.int (2 : Int32)), .unset, .unset, .unset, .unset, .unset] [(.int w1), (.int ia), (.ref b5)])) _
      refine XS.idiv X11.here hx rfl (hb hby at_131) rfl hwne ?_
      show Steps p.tables e below (T11.setTop (mkF m 132 #[.val (.int p1), .val (.int p2), .val (.int p3), .val (.int p4), .val (.int p5), .val (.int p6), .val (.int w1), .val (.int ((3 : Int32) * w1)), .val (.int ia), .val (.int ib), .val (.int ic), .val (.ref b5), .val (.int (0 : Int32)), .val (.int (1 : Int32)), .val (.int (2 : Int32)), .unset, .unset, .unset, .unset, .unset] [(.int (ia / w1)), (.ref b5)])) _
      refine XS.iload X11.here hx rfl (hb hby at_132) rfl ?_
      show Steps p.tables e below (T11.setTop (mkF m 134 #[.val (.int p1), .val (.int p2), .val (.int p3), .val (.int p4), .val (.int p5), .val (.int p6), .val (.int w1), .val (.int ((3 : Int32) * w1)), .val (.int ia), .val (.int ib), .val (.int ic), .val (.ref b5), .val (.int (0 : Int32)), .val (.int (1 : Int32)), .val (.int (2 : Int32)), .unset, .unset, .unset, .unset, .unset] [(.int ia), (.int (ia / w1)), (.ref b5)])) _
      refine XS.iload X11.here hx rfl (hb hby at_134) rfl ?_
      show Steps p.tables e below (T11.setTop (mkF m 136 #[.val (.int p1), .val (.int p2), .val (.int p3), .val (.int p4), .val (.int p5), .val (.int p6), .val (.int w1), .val (.int ((3 : Int32) * w1)), .val (.int ia), .val (.int ib), .val (.int ic), .val (.ref b5), .val (.int (0 : Int32)), .val (.int (1 : Int32)), .val (.int (2 : Int32)), .unset, .unset, .unset, .unset, .unset] [(.int w1), (.int ia), (.int (ia / w1)), (.ref b5)])) _
      refine iremM (g := (mkF m 136 #[.val (.int p1), .val (.int p2), .val (.int p3), .val (.int p4), .val (.int p5), .val (.int p6), .val (.int w1), .val (.int ((3 : Int32) * w1)), .val (.int ia), .val (.int ib), .val (.int ic), .val (.ref b5), .val (.int (0 : Int32)), .val (.int (1 : Int32)), .val (.int (2 : Int32)), .unset, .unset, .unset, .unset, .unset] [(.int w1), (.int ia), (.int (ia / w1)), (.ref b5)])) X11 hx rfl (hb hby at_136) rfl hwne ?_
      show Steps p.tables e below (T11.setTop (mkF m 137 #[.val (.int p1), .val (.int p2), .val (.int p3), .val (.int p4), .val (.int p5), .val (.int p6), .val (.int w1), .val (.int ((3 : Int32) * w1)), .val (.int ia), .val (.int ib), .val (.int ic), .val (.ref b5), .val (.int (0 : Int32)), .val (.int (1 : Int32)), .val (.int (2 : Int32)), .unset, .unset, .unset, .unset, .unset] [(.int (ia % w1)), (.int (ia / w1)), (.ref b5)])) _
      refine st30.trans ?_
      show Steps p.tables e below (T30.setTop (mkF m 140 #[.val (.int p1), .val (.int p2), .val (.int p3), .val (.int p4), .val (.int p5), .val (.int p6), .val (.int w1), .val (.int ((3 : Int32) * w1)), .val (.int ia), .val (.int ib), .val (.int ic), .val (.ref b5), .val (.int (0 : Int32)), .val (.int (1 : Int32)), .val (.int (2 : Int32)), .unset, .unset, .unset, .unset, .unset] [(.int p5)])) _
      refine XS.istore X30.here hx rfl (hb hby at_140) rfl (l' := #[.val (.int p1), .val (.int p2), .val (.int p3), .val (.int p4), .val (.int p5), .val (.int p6), .val (.int w1), .val (.int ((3 : Int32) * w1)), .val (.int ia), .val (.int ib), .val (.int ic), .val (.ref b5), .val (.int (0 : Int32)), .val (.int (1 : Int32)), .val (.int (2 : Int32)), .val (.int p5), .unset, .unset, .unset, .unset]) rfl ?_
      show Steps p.tables e below (T30.setTop (mkF m 142 #[.val (.int p1), .val (.int p2), .val (.int p3), .val (.int p4), .val (.int p5), .val (.int p6), .val (.int w1), .val (.int ((3 : Int32) * w1)), .val (.int ia), .val (.int ib), .val (.int ic), .val (.ref b5), .val (.int (0 : Int32)), .val (.int (1 : Int32)), .val (.int (2 : Int32)), .val (.int p5), .unset, .unset, .unset, .unset] [])) _
      refine XS.aload X30.here hx rfl (hb hby at_142) rfl rfl ?_
      show Steps p.tables e below (T30.setTop (mkF m 144 #[.val (.int p1), .val (.int p2), .val (.int p3), .val (.int p4), .val (.int p5), .val (.int p6), .val (.int w1), .val (.int ((3 : Int32) * w1)), .val (.int ia), .val (.int ib), .val (.int ic), .val (.ref b5), .val (.int (0 : Int32)), .val (.int (1 : Int32)), .val (.int (2 : Int32)), .val (.int p5), .unset, .unset, .unset, .unset] [(.ref b5)])) _
      refine XS.iload X30.here hx rfl (hb hby at_144) rfl ?_
      show Steps p.tables e below (T30.setTop (mkF m 146 #[.val (.int p1), .val (.int p2), .val (.int p3), .val (.int p4), .val (.int p5), .val (.int p6), .val (.int w1), .val (.int ((3 : Int32) * w1)), .val (.int ia), .val (.int ib), .val (.int ic), .val (.ref b5), .val (.int (0 : Int32)), .val (.int (1 : Int32)), .val (.int (2 : Int32)), .val (.int p5), .unset, .unset, .unset, .unset] [(.int ib), (.ref b5)])) _
      refine XS.iload X30.here hx rfl (hb hby at_146) rfl ?_
      show Steps p.tables e below (T30.setTop (mkF m 148 #[.val (.int p1), .val (.int p2), .val (.int p3), .val (.int p4), .val (.int p5), .val (.int p6), .val (.int w1), .val (.int ((3 : Int32) * w1)), .val (.int ia), .val (.int ib), .val (.int ic), .val (.ref b5), .val (.int (0 : Int32)), .val (.int (1 : Int32)), .val (.int (2 : Int32)), .val (.int p5), .unset, .unset, .unset, .unset] [(.int w1), (.int ib), (.ref b5)])) _
      refine XS.idiv X30.here hx rfl (hb hby at_148) rfl hwne ?_
      show Steps p.tables e below (T30.setTop (mkF m 149 #[.val (.int p1), .val (.int p2), .val (.int p3), .val (.int p4), .val (.int p5), .val (.int p6), .val (.int w1), .val (.int ((3 : Int32) * w1)), .val (.int ia), .val (.int ib), .val (.int ic), .val (.ref b5), .val (.int (0 : Int32)), .val (.int (1 : Int32)), .val (.int (2 : Int32)), .val (.int p5), .unset, .unset, .unset, .unset] [(.int (ib / w1)), (.ref b5)])) _
      refine XS.iload X30.here hx rfl (hb hby at_149) rfl ?_
      show Steps p.tables e below (T30.setTop (mkF m 151 #[.val (.int p1), .val (.int p2), .val (.int p3), .val (.int p4), .val (.int p5), .val (.int p6), .val (.int w1), .val (.int ((3 : Int32) * w1)), .val (.int ia), .val (.int ib), .val (.int ic), .val (.ref b5), .val (.int (0 : Int32)), .val (.int (1 : Int32)), .val (.int (2 : Int32)), .val (.int p5), .unset, .unset, .unset, .unset] [(.int ib), (.int (ib / w1)), (.ref b5)])) _
      refine XS.iload X30.here hx rfl (hb hby at_151) rfl ?_
      show Steps p.tables e below (T30.setTop (mkF m 153 #[.val (.int p1), .val (.int p2), .val (.int p3), .val (.int p4), .val (.int p5), .val (.int p6), .val (.int w1), .val (.int ((3 : Int32) * w1)), .val (.int ia), .val (.int ib), .val (.int ic), .val (.ref b5), .val (.int (0 : Int32)), .val (.int (1 : Int32)), .val (.int (2 : Int32)), .val (.int p5), .unset, .unset, .unset, .unset] [(.int w1), (.int ib), (.int (ib / w1)), (.ref b5)])) _
      refine iremM (g := (mkF m 153 #[.val (.int p1), .val (.int p2), .val (.int p3), .val (.int p4), .val (.int p5), .val (.int p6), .val (.int w1), .val (.int ((3 : Int32) * w1)), .val (.int ia), .val (.int ib), .val (.int ic), .val (.ref b5), .val (.int (0 : Int32)), .val (.int (1 : Int32)), .val (.int (2 : Int32)), .val (.int p5), .unset, .unset, .unset, .unset] [(.int w1), (.int ib), (.int (ib / w1)), (.ref b5)])) X30 hx rfl (hb hby at_153) rfl hwne ?_
      show Steps p.tables e below (T30.setTop (mkF m 154 #[.val (.int p1), .val (.int p2), .val (.int p3), .val (.int p4), .val (.int p5), .val (.int p6), .val (.int w1), .val (.int ((3 : Int32) * w1)), .val (.int ia), .val (.int ib), .val (.int ic), .val (.ref b5), .val (.int (0 : Int32)), .val (.int (1 : Int32)), .val (.int (2 : Int32)), .val (.int p5), .unset, .unset, .unset, .unset] [(.int (ib % w1)), (.int (ib / w1)), (.ref b5)])) _
      refine st31.trans ?_
      show Steps p.tables e below (T31.setTop (mkF m 157 #[.val (.int p1), .val (.int p2), .val (.int p3), .val (.int p4), .val (.int p5), .val (.int p6), .val (.int w1), .val (.int ((3 : Int32) * w1)), .val (.int ia), .val (.int ib), .val (.int ic), .val (.ref b5), .val (.int (0 : Int32)), .val (.int (1 : Int32)), .val (.int (2 : Int32)), .val (.int p5), .unset, .unset, .unset, .unset] [(.int p6)])) _
      refine XS.istore X31.here hx rfl (hb hby at_157) rfl (l' := #[.val (.int p1), .val (.int p2), .val (.int p3), .val (.int p4), .val (.int p5), .val (.int p6), .val (.int w1), .val (.int ((3 : Int32) * w1)), .val (.int ia), .val (.int ib), .val (.int ic), .val (.ref b5), .val (.int (0 : Int32)), .val (.int (1 : Int32)), .val (.int (2 : Int32)), .val (.int p5), .val (.int p6), .unset, .unset, .unset]) rfl ?_
      exact kt
    by_cases c159_33 : ic = ib
    · have pre34 : ∀ tt, Steps p.tables e below (T31.setTop (mkF m 161 #[.val (.int p1), .val (.int p2), .val (.int p3), .val (.int p4), .val (.int p5), .val (.int p6), .val (.int w1), .val (.int ((3 : Int32) * w1)), .val (.int ia), .val (.int ib), .val (.int ic), .val (.ref b5), .val (.int (0 : Int32)), .val (.int (1 : Int32)), .val (.int (2 : Int32)), .val (.int p5), .val (.int p6), .unset, .unset, .unset] [(.ref b5)])) tt → Steps p.tables e below (s₁.setTop (entryFrame m #[(.int p1), (.int p2), (.int p3), (.int p4), (.int p5), (.int p6)] maxLocals)) tt := by
        intro tt kt
        refine pre32 tt ?_
        show Steps p.tables e below (T31.setTop (mkF m 159 #[.val (.int p1), .val (.int p2), .val (.int p3), .val (.int p4), .val (.int p5), .val (.int p6), .val (.int w1), .val (.int ((3 : Int32) * w1)), .val (.int ia), .val (.int ib), .val (.int ic), .val (.ref b5), .val (.int (0 : Int32)), .val (.int (1 : Int32)), .val (.int (2 : Int32)), .val (.int p5), .val (.int p6), .unset, .unset, .unset] [])) _
        refine XS.aload X31.here hx rfl (hb hby at_159) rfl rfl ?_
        exact kt
      by_cases c161_35 : ic = ia
      · obtain ⟨cq36, kq36, q36a, q36b, q36c⟩ := isOf hZ hE31 ((Ea9.keep K10).keep K11)
        obtain ⟨_, _, ⟨T36, L36, k36, n36⟩, -, X36, ⟨Lc36, hQ36, l36, y36, z36⟩, st36⟩ := X31.virtualBack hx (y := (⟨"com/example/muniment_room/munimentroom/categorizer/Columns", "get", "(II)I"⟩ : MethodName)) (z := (⟨"com/example/muniment_room/munimentroom/categorizer/Columns", "get", "(II)I"⟩ : MethodName)) hown (mvT hZ (hw _ (List.mem_of_getElem? (i := 30) rfl))) (mvT hZ (hw _ (List.mem_of_getElem? (i := 31) rfl))) (notFace_of_selects (args := #[]) (mvT hZ (hw _ (List.mem_of_getElem? (i := 33) rfl)))) (mvT hZ (hw _ (List.mem_of_getElem? (i := 33) rfl))) (mvT hZ (hw _ (List.mem_of_getElem? (i := 32) rfl))) (by decide) (backOf (W := 0) (rmG l Z a0 hw [] b5 b6 c7 kb6 kc7 w1 (ic / w1) (ic % w1) p6 ic ((ib, .int p6) :: ((ia, .int p5) :: [])) T11.heap n0 (Nat.le_trans (Nat.le_trans (Nat.le_trans (Nat.le_trans (Nat.le_trans (Nat.le_trans (Nat.le_trans Z0 E5.1) K6.1) K7.1) K8.1) K9.1) K10.1) K11.1) ((Fw9.keep K10 (ninS hne_ac nin0)).keep K11 (ninS hne_ac nin0)) ((Fb9.keep K10 (ninS hne_ac nin0)).keep K11 (ninS hne_ac nin0)) ((((Vb7.keep K8 (ninS (Ne.symm hne_ab) nin0)).keep K9 (ninS (Ne.symm hne_ab) nin0)).keep K10 (ninS hne_bc nin0)).keep K11 (ninS hne_bc nin0)) Vc11 x_ic.1 x_ic.2.1 x_ic.2.2  (getH_hit (x_ic.2.2).1 c159_33)) hZ (hw _ (List.mem_of_getElem? (i := 34) rfl)) (hw _ (List.mem_of_getElem? (i := 3) rfl)) (by decide) (by decide)) q36a q36c (g := (mkF m 171 #[.val (.int p1), .val (.int p2), .val (.int p3), .val (.int p4), .val (.int p5), .val (.int p6), .val (.int w1), .val (.int ((3 : Int32) * w1)), .val (.int ia), .val (.int ib), .val (.int ic), .val (.ref b5), .val (.int (0 : Int32)), .val (.int (1 : Int32)), .val (.int (2 : Int32)), .val (.int p5), .val (.int p6), .unset, .unset, .unset] [(.int (ic % w1)), (.int (ic / w1)), (.ref b5)])) rfl (by rw [hml]; rfl) (Steps.refl _) (argsL := [(.int (ic / w1)), (.int (ic % w1))]) (rest := []) (lenOf pd_rm0_3 rfl) rfl (by show 2 * 0 + _ ≤ _; exact Nat.le_of_eq rfl) (hb hby at_171) (fun _ _ => ⟨rfl, hE31, (by decide : 3 + 0 ≤ _), (by decide : 4100 + 0 ≤ _)⟩)
        dsimp only [Pt.U, Pt.locs, Pt.cells, Pt.slots] at X36 l36 y36 z36 st36 hQ36
        subst l36 y36 z36
        obtain ⟨rfl, N36q, hE36⟩ := hQ36
        have N36 := Fr.app N31 N36q
        have pre37 : ∀ tt, Steps p.tables e below (T36.setTop (mkF m 249 #[.val (.int p1), .val (.int p2), .val (.int p3), .val (.int p4), .val (.int p5), .val (.int p6), .val (.int w1), .val (.int ((3 : Int32) * w1)), .val (.int ia), .val (.int ib), .val (.int ic), .val (.ref b5), .val (.int (0 : Int32)), .val (.int (1 : Int32)), .val (.int (2 : Int32)), .val (.int p5), .val (.int p6), .val (.int p6), .val (.int p5), .val (.int p6)] [(.int (1 : Int32))])) tt → Steps p.tables e below (s₁.setTop (entryFrame m #[(.int p1), (.int p2), (.int p3), (.int p4), (.int p5), (.int p6)] maxLocals)) tt := by
          intro tt kt
          refine pre34 tt ?_
          show Steps p.tables e below (T31.setTop (mkF m 161 #[.val (.int p1), .val (.int p2), .val (.int p3), .val (.int p4), .val (.int p5), .val (.int p6), .val (.int w1), .val (.int ((3 : Int32) * w1)), .val (.int ia), .val (.int ib), .val (.int ic), .val (.ref b5), .val (.int (0 : Int32)), .val (.int (1 : Int32)), .val (.int (2 : Int32)), .val (.int p5), .val (.int p6), .unset, .unset, .unset] [(.ref b5)])) _
          refine XS.iload X31.here hx rfl (hb hby at_161) rfl ?_
          show Steps p.tables e below (T31.setTop (mkF m 163 #[.val (.int p1), .val (.int p2), .val (.int p3), .val (.int p4), .val (.int p5), .val (.int p6), .val (.int w1), .val (.int ((3 : Int32) * w1)), .val (.int ia), .val (.int ib), .val (.int ic), .val (.ref b5), .val (.int (0 : Int32)), .val (.int (1 : Int32)), .val (.int (2 : Int32)), .val (.int p5), .val (.int p6), .unset, .unset, .unset] [(.int ic), (.ref b5)])) _
          refine XS.iload X31.here hx rfl (hb hby at_163) rfl ?_
          show Steps p.tables e below (T31.setTop (mkF m 165 #[.val (.int p1), .val (.int p2), .val (.int p3), .val (.int p4), .val (.int p5), .val (.int p6), .val (.int w1), .val (.int ((3 : Int32) * w1)), .val (.int ia), .val (.int ib), .val (.int ic), .val (.ref b5), .val (.int (0 : Int32)), .val (.int (1 : Int32)), .val (.int (2 : Int32)), .val (.int p5), .val (.int p6), .unset, .unset, .unset] [(.int w1), (.int ic), (.ref b5)])) _
          refine XS.idiv X31.here hx rfl (hb hby at_165) rfl hwne ?_
          show Steps p.tables e below (T31.setTop (mkF m 166 #[.val (.int p1), .val (.int p2), .val (.int p3), .val (.int p4), .val (.int p5), .val (.int p6), .val (.int w1), .val (.int ((3 : Int32) * w1)), .val (.int ia), .val (.int ib), .val (.int ic), .val (.ref b5), .val (.int (0 : Int32)), .val (.int (1 : Int32)), .val (.int (2 : Int32)), .val (.int p5), .val (.int p6), .unset, .unset, .unset] [(.int (ic / w1)), (.ref b5)])) _
          refine XS.iload X31.here hx rfl (hb hby at_166) rfl ?_
          show Steps p.tables e below (T31.setTop (mkF m 168 #[.val (.int p1), .val (.int p2), .val (.int p3), .val (.int p4), .val (.int p5), .val (.int p6), .val (.int w1), .val (.int ((3 : Int32) * w1)), .val (.int ia), .val (.int ib), .val (.int ic), .val (.ref b5), .val (.int (0 : Int32)), .val (.int (1 : Int32)), .val (.int (2 : Int32)), .val (.int p5), .val (.int p6), .unset, .unset, .unset] [(.int ic), (.int (ic / w1)), (.ref b5)])) _
          refine XS.iload X31.here hx rfl (hb hby at_168) rfl ?_
          show Steps p.tables e below (T31.setTop (mkF m 170 #[.val (.int p1), .val (.int p2), .val (.int p3), .val (.int p4), .val (.int p5), .val (.int p6), .val (.int w1), .val (.int ((3 : Int32) * w1)), .val (.int ia), .val (.int ib), .val (.int ic), .val (.ref b5), .val (.int (0 : Int32)), .val (.int (1 : Int32)), .val (.int (2 : Int32)), .val (.int p5), .val (.int p6), .unset, .unset, .unset] [(.int w1), (.int ic), (.int (ic / w1)), (.ref b5)])) _
          refine iremM (g := (mkF m 170 #[.val (.int p1), .val (.int p2), .val (.int p3), .val (.int p4), .val (.int p5), .val (.int p6), .val (.int w1), .val (.int ((3 : Int32) * w1)), .val (.int ia), .val (.int ib), .val (.int ic), .val (.ref b5), .val (.int (0 : Int32)), .val (.int (1 : Int32)), .val (.int (2 : Int32)), .val (.int p5), .val (.int p6), .unset, .unset, .unset] [(.int w1), (.int ic), (.int (ic / w1)), (.ref b5)])) X31 hx rfl (hb hby at_170) rfl hwne ?_
          show Steps p.tables e below (T31.setTop (mkF m 171 #[.val (.int p1), .val (.int p2), .val (.int p3), .val (.int p4), .val (.int p5), .val (.int p6), .val (.int w1), .val (.int ((3 : Int32) * w1)), .val (.int ia), .val (.int ib), .val (.int ic), .val (.ref b5), .val (.int (0 : Int32)), .val (.int (1 : Int32)), .val (.int (2 : Int32)), .val (.int p5), .val (.int p6), .unset, .unset, .unset] [(.int (ic % w1)), (.int (ic / w1)), (.ref b5)])) _
          refine st36.trans ?_
          show Steps p.tables e below (T36.setTop (mkF m 174 #[.val (.int p1), .val (.int p2), .val (.int p3), .val (.int p4), .val (.int p5), .val (.int p6), .val (.int w1), .val (.int ((3 : Int32) * w1)), .val (.int ia), .val (.int ib), .val (.int ic), .val (.ref b5), .val (.int (0 : Int32)), .val (.int (1 : Int32)), .val (.int (2 : Int32)), .val (.int p5), .val (.int p6), .unset, .unset, .unset] [(.int p6)])) _
          refine XS.istore X36.here hx rfl (hb hby at_174) rfl (l' := #[.val (.int p1), .val (.int p2), .val (.int p3), .val (.int p4), .val (.int p5), .val (.int p6), .val (.int w1), .val (.int ((3 : Int32) * w1)), .val (.int ia), .val (.int ib), .val (.int ic), .val (.ref b5), .val (.int (0 : Int32)), .val (.int (1 : Int32)), .val (.int (2 : Int32)), .val (.int p5), .val (.int p6), .val (.int p6), .unset, .unset]) rfl ?_
          show Steps p.tables e below (T36.setTop (mkF m 176 #[.val (.int p1), .val (.int p2), .val (.int p3), .val (.int p4), .val (.int p5), .val (.int p6), .val (.int w1), .val (.int ((3 : Int32) * w1)), .val (.int ia), .val (.int ib), .val (.int ic), .val (.ref b5), .val (.int (0 : Int32)), .val (.int (1 : Int32)), .val (.int (2 : Int32)), .val (.int p5), .val (.int p6), .val (.int p6), .unset, .unset] [])) _
          refine XS.iload X36.here hx rfl (hb hby at_176) rfl ?_
          show Steps p.tables e below (T36.setTop (mkF m 178 #[.val (.int p1), .val (.int p2), .val (.int p3), .val (.int p4), .val (.int p5), .val (.int p6), .val (.int w1), .val (.int ((3 : Int32) * w1)), .val (.int ia), .val (.int ib), .val (.int ic), .val (.ref b5), .val (.int (0 : Int32)), .val (.int (1 : Int32)), .val (.int (2 : Int32)), .val (.int p5), .val (.int p6), .val (.int p6), .unset, .unset] [(.int ia)])) _
          refine XS.iload X36.here hx rfl (hb hby at_178) rfl ?_
          show Steps p.tables e below (T36.setTop (mkF m 180 #[.val (.int p1), .val (.int p2), .val (.int p3), .val (.int p4), .val (.int p5), .val (.int p6), .val (.int w1), .val (.int ((3 : Int32) * w1)), .val (.int ia), .val (.int ib), .val (.int ic), .val (.ref b5), .val (.int (0 : Int32)), .val (.int (1 : Int32)), .val (.int (2 : Int32)), .val (.int p5), .val (.int p6), .val (.int p6), .unset, .unset] [(.int ib), (.int ia)])) _
          refine XS.icmpYes X36.here hx rfl (pc0 := 180) (pc' := 188) rfl (hb hby at_180) rfl (feq c125_13).2 (by decide) (by decide) ?_
          show Steps p.tables e below (T36.setTop (mkF m 188 #[.val (.int p1), .val (.int p2), .val (.int p3), .val (.int p4), .val (.int p5), .val (.int p6), .val (.int w1), .val (.int ((3 : Int32) * w1)), .val (.int ia), .val (.int ib), .val (.int ic), .val (.ref b5), .val (.int (0 : Int32)), .val (.int (1 : Int32)), .val (.int (2 : Int32)), .val (.int p5), .val (.int p6), .val (.int p6), .unset, .unset] [])) _
          refine XS.iload X36.here hx rfl (hb hby at_188) rfl ?_
          show Steps p.tables e below (T36.setTop (mkF m 190 #[.val (.int p1), .val (.int p2), .val (.int p3), .val (.int p4), .val (.int p5), .val (.int p6), .val (.int w1), .val (.int ((3 : Int32) * w1)), .val (.int ia), .val (.int ib), .val (.int ic), .val (.ref b5), .val (.int (0 : Int32)), .val (.int (1 : Int32)), .val (.int (2 : Int32)), .val (.int p5), .val (.int p6), .val (.int p6), .unset, .unset] [(.int p5)])) _
          refine XS.istore X36.here hx rfl (hb hby at_190) rfl (l' := #[.val (.int p1), .val (.int p2), .val (.int p3), .val (.int p4), .val (.int p5), .val (.int p6), .val (.int w1), .val (.int ((3 : Int32) * w1)), .val (.int ia), .val (.int ib), .val (.int ic), .val (.ref b5), .val (.int (0 : Int32)), .val (.int (1 : Int32)), .val (.int (2 : Int32)), .val (.int p5), .val (.int p6), .val (.int p6), .val (.int p5), .unset]) rfl ?_
          show Steps p.tables e below (T36.setTop (mkF m 192 #[.val (.int p1), .val (.int p2), .val (.int p3), .val (.int p4), .val (.int p5), .val (.int p6), .val (.int w1), .val (.int ((3 : Int32) * w1)), .val (.int ia), .val (.int ib), .val (.int ic), .val (.ref b5), .val (.int (0 : Int32)), .val (.int (1 : Int32)), .val (.int (2 : Int32)), .val (.int p5), .val (.int p6), .val (.int p6), .val (.int p5), .unset] [])) _
          refine XS.iload X36.here hx rfl (hb hby at_192) rfl ?_
          show Steps p.tables e below (T36.setTop (mkF m 194 #[.val (.int p1), .val (.int p2), .val (.int p3), .val (.int p4), .val (.int p5), .val (.int p6), .val (.int w1), .val (.int ((3 : Int32) * w1)), .val (.int ia), .val (.int ib), .val (.int ic), .val (.ref b5), .val (.int (0 : Int32)), .val (.int (1 : Int32)), .val (.int (2 : Int32)), .val (.int p5), .val (.int p6), .val (.int p6), .val (.int p5), .unset] [(.int ic)])) _
          refine XS.iload X36.here hx rfl (hb hby at_194) rfl ?_
          show Steps p.tables e below (T36.setTop (mkF m 196 #[.val (.int p1), .val (.int p2), .val (.int p3), .val (.int p4), .val (.int p5), .val (.int p6), .val (.int w1), .val (.int ((3 : Int32) * w1)), .val (.int ia), .val (.int ib), .val (.int ic), .val (.ref b5), .val (.int (0 : Int32)), .val (.int (1 : Int32)), .val (.int (2 : Int32)), .val (.int p5), .val (.int p6), .val (.int p6), .val (.int p5), .unset] [(.int ib), (.int ic)])) _
          refine XS.icmpNo X36.here hx rfl (hb hby at_196) rfl (teq c159_33).2 ?_
          show Steps p.tables e below (T36.setTop (mkF m 199 #[.val (.int p1), .val (.int p2), .val (.int p3), .val (.int p4), .val (.int p5), .val (.int p6), .val (.int w1), .val (.int ((3 : Int32) * w1)), .val (.int ia), .val (.int ib), .val (.int ic), .val (.ref b5), .val (.int (0 : Int32)), .val (.int (1 : Int32)), .val (.int (2 : Int32)), .val (.int p5), .val (.int p6), .val (.int p6), .val (.int p5), .unset] [])) _
          refine XS.iload X36.here hx rfl (hb hby at_199) rfl ?_
          show Steps p.tables e below (T36.setTop (mkF m 201 #[.val (.int p1), .val (.int p2), .val (.int p3), .val (.int p4), .val (.int p5), .val (.int p6), .val (.int w1), .val (.int ((3 : Int32) * w1)), .val (.int ia), .val (.int ib), .val (.int ic), .val (.ref b5), .val (.int (0 : Int32)), .val (.int (1 : Int32)), .val (.int (2 : Int32)), .val (.int p5), .val (.int p6), .val (.int p6), .val (.int p5), .unset] [(.int p6)])) _
          refine XS.istore X36.here hx rfl (hb hby at_201) rfl (l' := #[.val (.int p1), .val (.int p2), .val (.int p3), .val (.int p4), .val (.int p5), .val (.int p6), .val (.int w1), .val (.int ((3 : Int32) * w1)), .val (.int ia), .val (.int ib), .val (.int ic), .val (.ref b5), .val (.int (0 : Int32)), .val (.int (1 : Int32)), .val (.int (2 : Int32)), .val (.int p5), .val (.int p6), .val (.int p6), .val (.int p5), .val (.int p6)]) rfl ?_
          show Steps p.tables e below (T36.setTop (mkF m 203 #[.val (.int p1), .val (.int p2), .val (.int p3), .val (.int p4), .val (.int p5), .val (.int p6), .val (.int w1), .val (.int ((3 : Int32) * w1)), .val (.int ia), .val (.int ib), .val (.int ic), .val (.ref b5), .val (.int (0 : Int32)), .val (.int (1 : Int32)), .val (.int (2 : Int32)), .val (.int p5), .val (.int p6), .val (.int p6), .val (.int p5), .val (.int p6)] [])) _
          refine XS.goto X36.here hx rfl (pc0 := 203) (pc' := 223) rfl (hb hby at_203) (by decide) (by decide) ?_
          show Steps p.tables e below (T36.setTop (mkF m 223 #[.val (.int p1), .val (.int p2), .val (.int p3), .val (.int p4), .val (.int p5), .val (.int p6), .val (.int w1), .val (.int ((3 : Int32) * w1)), .val (.int ia), .val (.int ib), .val (.int ic), .val (.ref b5), .val (.int (0 : Int32)), .val (.int (1 : Int32)), .val (.int (2 : Int32)), .val (.int p5), .val (.int p6), .val (.int p6), .val (.int p5), .val (.int p6)] [])) _
          refine XS.iload X36.here hx rfl (hb hby at_223) rfl ?_
          show Steps p.tables e below (T36.setTop (mkF m 225 #[.val (.int p1), .val (.int p2), .val (.int p3), .val (.int p4), .val (.int p5), .val (.int p6), .val (.int w1), .val (.int ((3 : Int32) * w1)), .val (.int ia), .val (.int ib), .val (.int ic), .val (.ref b5), .val (.int (0 : Int32)), .val (.int (1 : Int32)), .val (.int (2 : Int32)), .val (.int p5), .val (.int p6), .val (.int p6), .val (.int p5), .val (.int p6)] [(.int p5)])) _
          refine XS.iload X36.here hx rfl (hb hby at_225) rfl ?_
          show Steps p.tables e below (T36.setTop (mkF m 227 #[.val (.int p1), .val (.int p2), .val (.int p3), .val (.int p4), .val (.int p5), .val (.int p6), .val (.int w1), .val (.int ((3 : Int32) * w1)), .val (.int ia), .val (.int ib), .val (.int ic), .val (.ref b5), .val (.int (0 : Int32)), .val (.int (1 : Int32)), .val (.int (2 : Int32)), .val (.int p5), .val (.int p6), .val (.int p6), .val (.int p5), .val (.int p6)] [(.int p5), (.int p5)])) _
          refine XS.icmpNo X36.here hx rfl (hb hby at_227) rfl (teq (rfl : p5 = p5)).2 ?_
          show Steps p.tables e below (T36.setTop (mkF m 230 #[.val (.int p1), .val (.int p2), .val (.int p3), .val (.int p4), .val (.int p5), .val (.int p6), .val (.int w1), .val (.int ((3 : Int32) * w1)), .val (.int ia), .val (.int ib), .val (.int ic), .val (.ref b5), .val (.int (0 : Int32)), .val (.int (1 : Int32)), .val (.int (2 : Int32)), .val (.int p5), .val (.int p6), .val (.int p6), .val (.int p5), .val (.int p6)] [])) _
          refine XS.iload X36.here hx rfl (hb hby at_230) rfl ?_
          show Steps p.tables e below (T36.setTop (mkF m 232 #[.val (.int p1), .val (.int p2), .val (.int p3), .val (.int p4), .val (.int p5), .val (.int p6), .val (.int w1), .val (.int ((3 : Int32) * w1)), .val (.int ia), .val (.int ib), .val (.int ic), .val (.ref b5), .val (.int (0 : Int32)), .val (.int (1 : Int32)), .val (.int (2 : Int32)), .val (.int p5), .val (.int p6), .val (.int p6), .val (.int p5), .val (.int p6)] [(.int p6)])) _
          refine XS.iload X36.here hx rfl (hb hby at_232) rfl ?_
          show Steps p.tables e below (T36.setTop (mkF m 234 #[.val (.int p1), .val (.int p2), .val (.int p3), .val (.int p4), .val (.int p5), .val (.int p6), .val (.int w1), .val (.int ((3 : Int32) * w1)), .val (.int ia), .val (.int ib), .val (.int ic), .val (.ref b5), .val (.int (0 : Int32)), .val (.int (1 : Int32)), .val (.int (2 : Int32)), .val (.int p5), .val (.int p6), .val (.int p6), .val (.int p5), .val (.int p6)] [(.int p6), (.int p6)])) _
          refine XS.icmpNo X36.here hx rfl (hb hby at_234) rfl (teq (rfl : p6 = p6)).2 ?_
          show Steps p.tables e below (T36.setTop (mkF m 237 #[.val (.int p1), .val (.int p2), .val (.int p3), .val (.int p4), .val (.int p5), .val (.int p6), .val (.int w1), .val (.int ((3 : Int32) * w1)), .val (.int ia), .val (.int ib), .val (.int ic), .val (.ref b5), .val (.int (0 : Int32)), .val (.int (1 : Int32)), .val (.int (2 : Int32)), .val (.int p5), .val (.int p6), .val (.int p6), .val (.int p5), .val (.int p6)] [])) _
          refine XS.iload X36.here hx rfl (hb hby at_237) rfl ?_
          show Steps p.tables e below (T36.setTop (mkF m 239 #[.val (.int p1), .val (.int p2), .val (.int p3), .val (.int p4), .val (.int p5), .val (.int p6), .val (.int w1), .val (.int ((3 : Int32) * w1)), .val (.int ia), .val (.int ib), .val (.int ic), .val (.ref b5), .val (.int (0 : Int32)), .val (.int (1 : Int32)), .val (.int (2 : Int32)), .val (.int p5), .val (.int p6), .val (.int p6), .val (.int p5), .val (.int p6)] [(.int p6)])) _
          refine XS.iload X36.here hx rfl (hb hby at_239) rfl ?_
          show Steps p.tables e below (T36.setTop (mkF m 241 #[.val (.int p1), .val (.int p2), .val (.int p3), .val (.int p4), .val (.int p5), .val (.int p6), .val (.int w1), .val (.int ((3 : Int32) * w1)), .val (.int ia), .val (.int ib), .val (.int ic), .val (.ref b5), .val (.int (0 : Int32)), .val (.int (1 : Int32)), .val (.int (2 : Int32)), .val (.int p5), .val (.int p6), .val (.int p6), .val (.int p5), .val (.int p6)] [(.int p6), (.int p6)])) _
          refine XS.icmpNo X36.here hx rfl (hb hby at_241) rfl (teq (rfl : p6 = p6)).2 ?_
          show Steps p.tables e below (T36.setTop (mkF m 244 #[.val (.int p1), .val (.int p2), .val (.int p3), .val (.int p4), .val (.int p5), .val (.int p6), .val (.int w1), .val (.int ((3 : Int32) * w1)), .val (.int ia), .val (.int ib), .val (.int ic), .val (.ref b5), .val (.int (0 : Int32)), .val (.int (1 : Int32)), .val (.int (2 : Int32)), .val (.int p5), .val (.int p6), .val (.int p6), .val (.int p5), .val (.int p6)] [])) _
          refine XS.iconst X36.here hx rfl (hb hby at_244) ?_
          show Steps p.tables e below (T36.setTop (mkF m 245 #[.val (.int p1), .val (.int p2), .val (.int p3), .val (.int p4), .val (.int p5), .val (.int p6), .val (.int w1), .val (.int ((3 : Int32) * w1)), .val (.int ia), .val (.int ib), .val (.int ic), .val (.ref b5), .val (.int (0 : Int32)), .val (.int (1 : Int32)), .val (.int (2 : Int32)), .val (.int p5), .val (.int p6), .val (.int p6), .val (.int p5), .val (.int p6)] [(.int (1 : Int32))])) _
          refine XS.goto X36.here hx rfl (pc0 := 245) (pc' := 249) rfl (hb hby at_245) (by decide) (by decide) ?_
          exact kt
        obtain ⟨fs, hr, hrun, hended, hW, hsame⟩ := X36.leave (v := some (.int (1 : Int32))) (fun h => by rw [Bd.returns] at h; cases h)
        refine ⟨_, _, pre37 _ ?_, hrun, hended, _, _, rfl, ?_, ⟨_, rfl⟩, hW, hsame.mono (by decide) (by decide)⟩
        · show Steps p.tables e below (T36.setTop (mkF m 249 #[.val (.int p1), .val (.int p2), .val (.int p3), .val (.int p4), .val (.int p5), .val (.int p6), .val (.int w1), .val (.int ((3 : Int32) * w1)), .val (.int ia), .val (.int ib), .val (.int ic), .val (.ref b5), .val (.int (0 : Int32)), .val (.int (1 : Int32)), .val (.int (2 : Int32)), .val (.int p5), .val (.int p6), .val (.int p6), .val (.int p5), .val (.int p6)] [(.int (1 : Int32))])) _
          exact retN X36 hx (t := .boolean) Bd.returns (by simp) (hb hby at_249) hr
        · show Q0 Z h0 n0 _ T36.heap _
          rw [hE36]
          exact ⟨rfl, N36⟩
      · obtain ⟨cq38, kq38, q38a, q38b, q38c⟩ := isOf hZ hE31 ((Ea9.keep K10).keep K11)
        obtain ⟨_, _, ⟨T38, L38, k38, n38⟩, -, X38, ⟨Lc38, hQ38, l38, y38, z38⟩, st38⟩ := X31.virtualBack hx (y := (⟨"com/example/muniment_room/munimentroom/categorizer/Columns", "get", "(II)I"⟩ : MethodName)) (z := (⟨"com/example/muniment_room/munimentroom/categorizer/Columns", "get", "(II)I"⟩ : MethodName)) hown (mvT hZ (hw _ (List.mem_of_getElem? (i := 30) rfl))) (mvT hZ (hw _ (List.mem_of_getElem? (i := 31) rfl))) (notFace_of_selects (args := #[]) (mvT hZ (hw _ (List.mem_of_getElem? (i := 33) rfl)))) (mvT hZ (hw _ (List.mem_of_getElem? (i := 33) rfl))) (mvT hZ (hw _ (List.mem_of_getElem? (i := 32) rfl))) (by decide) (backOf (W := 0) (rmG l Z a0 hw [] b5 b6 c7 kb6 kc7 w1 (ic / w1) (ic % w1) p6 ic ((ib, .int p6) :: ((ia, .int p5) :: [])) T11.heap n0 (Nat.le_trans (Nat.le_trans (Nat.le_trans (Nat.le_trans (Nat.le_trans (Nat.le_trans (Nat.le_trans Z0 E5.1) K6.1) K7.1) K8.1) K9.1) K10.1) K11.1) ((Fw9.keep K10 (ninS hne_ac nin0)).keep K11 (ninS hne_ac nin0)) ((Fb9.keep K10 (ninS hne_ac nin0)).keep K11 (ninS hne_ac nin0)) ((((Vb7.keep K8 (ninS (Ne.symm hne_ab) nin0)).keep K9 (ninS (Ne.symm hne_ab) nin0)).keep K10 (ninS hne_bc nin0)).keep K11 (ninS hne_bc nin0)) Vc11 x_ic.1 x_ic.2.1 x_ic.2.2  (getH_hit (x_ic.2.2).1 c159_33)) hZ (hw _ (List.mem_of_getElem? (i := 34) rfl)) (hw _ (List.mem_of_getElem? (i := 3) rfl)) (by decide) (by decide)) q38a q38c (g := (mkF m 171 #[.val (.int p1), .val (.int p2), .val (.int p3), .val (.int p4), .val (.int p5), .val (.int p6), .val (.int w1), .val (.int ((3 : Int32) * w1)), .val (.int ia), .val (.int ib), .val (.int ic), .val (.ref b5), .val (.int (0 : Int32)), .val (.int (1 : Int32)), .val (.int (2 : Int32)), .val (.int p5), .val (.int p6), .unset, .unset, .unset] [(.int (ic % w1)), (.int (ic / w1)), (.ref b5)])) rfl (by rw [hml]; rfl) (Steps.refl _) (argsL := [(.int (ic / w1)), (.int (ic % w1))]) (rest := []) (lenOf pd_rm0_3 rfl) rfl (by show 2 * 0 + _ ≤ _; exact Nat.le_of_eq rfl) (hb hby at_171) (fun _ _ => ⟨rfl, hE31, (by decide : 3 + 0 ≤ _), (by decide : 4100 + 0 ≤ _)⟩)
        dsimp only [Pt.U, Pt.locs, Pt.cells, Pt.slots] at X38 l38 y38 z38 st38 hQ38
        subst l38 y38 z38
        obtain ⟨rfl, N38q, hE38⟩ := hQ38
        have N38 := Fr.app N31 N38q
        have pre39 : ∀ tt, Steps p.tables e below (T38.setTop (mkF m 249 #[.val (.int p1), .val (.int p2), .val (.int p3), .val (.int p4), .val (.int p5), .val (.int p6), .val (.int w1), .val (.int ((3 : Int32) * w1)), .val (.int ia), .val (.int ib), .val (.int ic), .val (.ref b5), .val (.int (0 : Int32)), .val (.int (1 : Int32)), .val (.int (2 : Int32)), .val (.int p5), .val (.int p6), .val (.int p6), .val (.int p5), .val (.int p6)] [(.int (1 : Int32))])) tt → Steps p.tables e below (s₁.setTop (entryFrame m #[(.int p1), (.int p2), (.int p3), (.int p4), (.int p5), (.int p6)] maxLocals)) tt := by
          intro tt kt
          refine pre34 tt ?_
          show Steps p.tables e below (T31.setTop (mkF m 161 #[.val (.int p1), .val (.int p2), .val (.int p3), .val (.int p4), .val (.int p5), .val (.int p6), .val (.int w1), .val (.int ((3 : Int32) * w1)), .val (.int ia), .val (.int ib), .val (.int ic), .val (.ref b5), .val (.int (0 : Int32)), .val (.int (1 : Int32)), .val (.int (2 : Int32)), .val (.int p5), .val (.int p6), .unset, .unset, .unset] [(.ref b5)])) _
          refine XS.iload X31.here hx rfl (hb hby at_161) rfl ?_
          show Steps p.tables e below (T31.setTop (mkF m 163 #[.val (.int p1), .val (.int p2), .val (.int p3), .val (.int p4), .val (.int p5), .val (.int p6), .val (.int w1), .val (.int ((3 : Int32) * w1)), .val (.int ia), .val (.int ib), .val (.int ic), .val (.ref b5), .val (.int (0 : Int32)), .val (.int (1 : Int32)), .val (.int (2 : Int32)), .val (.int p5), .val (.int p6), .unset, .unset, .unset] [(.int ic), (.ref b5)])) _
          refine XS.iload X31.here hx rfl (hb hby at_163) rfl ?_
          show Steps p.tables e below (T31.setTop (mkF m 165 #[.val (.int p1), .val (.int p2), .val (.int p3), .val (.int p4), .val (.int p5), .val (.int p6), .val (.int w1), .val (.int ((3 : Int32) * w1)), .val (.int ia), .val (.int ib), .val (.int ic), .val (.ref b5), .val (.int (0 : Int32)), .val (.int (1 : Int32)), .val (.int (2 : Int32)), .val (.int p5), .val (.int p6), .unset, .unset, .unset] [(.int w1), (.int ic), (.ref b5)])) _
          refine XS.idiv X31.here hx rfl (hb hby at_165) rfl hwne ?_
          show Steps p.tables e below (T31.setTop (mkF m 166 #[.val (.int p1), .val (.int p2), .val (.int p3), .val (.int p4), .val (.int p5), .val (.int p6), .val (.int w1), .val (.int ((3 : Int32) * w1)), .val (.int ia), .val (.int ib), .val (.int ic), .val (.ref b5), .val (.int (0 : Int32)), .val (.int (1 : Int32)), .val (.int (2 : Int32)), .val (.int p5), .val (.int p6), .unset, .unset, .unset] [(.int (ic / w1)), (.ref b5)])) _
          refine XS.iload X31.here hx rfl (hb hby at_166) rfl ?_
          show Steps p.tables e below (T31.setTop (mkF m 168 #[.val (.int p1), .val (.int p2), .val (.int p3), .val (.int p4), .val (.int p5), .val (.int p6), .val (.int w1), .val (.int ((3 : Int32) * w1)), .val (.int ia), .val (.int ib), .val (.int ic), .val (.ref b5), .val (.int (0 : Int32)), .val (.int (1 : Int32)), .val (.int (2 : Int32)), .val (.int p5), .val (.int p6), .unset, .unset, .unset] [(.int ic), (.int (ic / w1)), (.ref b5)])) _
          refine XS.iload X31.here hx rfl (hb hby at_168) rfl ?_
          show Steps p.tables e below (T31.setTop (mkF m 170 #[.val (.int p1), .val (.int p2), .val (.int p3), .val (.int p4), .val (.int p5), .val (.int p6), .val (.int w1), .val (.int ((3 : Int32) * w1)), .val (.int ia), .val (.int ib), .val (.int ic), .val (.ref b5), .val (.int (0 : Int32)), .val (.int (1 : Int32)), .val (.int (2 : Int32)), .val (.int p5), .val (.int p6), .unset, .unset, .unset] [(.int w1), (.int ic), (.int (ic / w1)), (.ref b5)])) _
          refine iremM (g := (mkF m 170 #[.val (.int p1), .val (.int p2), .val (.int p3), .val (.int p4), .val (.int p5), .val (.int p6), .val (.int w1), .val (.int ((3 : Int32) * w1)), .val (.int ia), .val (.int ib), .val (.int ic), .val (.ref b5), .val (.int (0 : Int32)), .val (.int (1 : Int32)), .val (.int (2 : Int32)), .val (.int p5), .val (.int p6), .unset, .unset, .unset] [(.int w1), (.int ic), (.int (ic / w1)), (.ref b5)])) X31 hx rfl (hb hby at_170) rfl hwne ?_
          show Steps p.tables e below (T31.setTop (mkF m 171 #[.val (.int p1), .val (.int p2), .val (.int p3), .val (.int p4), .val (.int p5), .val (.int p6), .val (.int w1), .val (.int ((3 : Int32) * w1)), .val (.int ia), .val (.int ib), .val (.int ic), .val (.ref b5), .val (.int (0 : Int32)), .val (.int (1 : Int32)), .val (.int (2 : Int32)), .val (.int p5), .val (.int p6), .unset, .unset, .unset] [(.int (ic % w1)), (.int (ic / w1)), (.ref b5)])) _
          refine st38.trans ?_
          show Steps p.tables e below (T38.setTop (mkF m 174 #[.val (.int p1), .val (.int p2), .val (.int p3), .val (.int p4), .val (.int p5), .val (.int p6), .val (.int w1), .val (.int ((3 : Int32) * w1)), .val (.int ia), .val (.int ib), .val (.int ic), .val (.ref b5), .val (.int (0 : Int32)), .val (.int (1 : Int32)), .val (.int (2 : Int32)), .val (.int p5), .val (.int p6), .unset, .unset, .unset] [(.int p6)])) _
          refine XS.istore X38.here hx rfl (hb hby at_174) rfl (l' := #[.val (.int p1), .val (.int p2), .val (.int p3), .val (.int p4), .val (.int p5), .val (.int p6), .val (.int w1), .val (.int ((3 : Int32) * w1)), .val (.int ia), .val (.int ib), .val (.int ic), .val (.ref b5), .val (.int (0 : Int32)), .val (.int (1 : Int32)), .val (.int (2 : Int32)), .val (.int p5), .val (.int p6), .val (.int p6), .unset, .unset]) rfl ?_
          show Steps p.tables e below (T38.setTop (mkF m 176 #[.val (.int p1), .val (.int p2), .val (.int p3), .val (.int p4), .val (.int p5), .val (.int p6), .val (.int w1), .val (.int ((3 : Int32) * w1)), .val (.int ia), .val (.int ib), .val (.int ic), .val (.ref b5), .val (.int (0 : Int32)), .val (.int (1 : Int32)), .val (.int (2 : Int32)), .val (.int p5), .val (.int p6), .val (.int p6), .unset, .unset] [])) _
          refine XS.iload X38.here hx rfl (hb hby at_176) rfl ?_
          show Steps p.tables e below (T38.setTop (mkF m 178 #[.val (.int p1), .val (.int p2), .val (.int p3), .val (.int p4), .val (.int p5), .val (.int p6), .val (.int w1), .val (.int ((3 : Int32) * w1)), .val (.int ia), .val (.int ib), .val (.int ic), .val (.ref b5), .val (.int (0 : Int32)), .val (.int (1 : Int32)), .val (.int (2 : Int32)), .val (.int p5), .val (.int p6), .val (.int p6), .unset, .unset] [(.int ia)])) _
          refine XS.iload X38.here hx rfl (hb hby at_178) rfl ?_
          show Steps p.tables e below (T38.setTop (mkF m 180 #[.val (.int p1), .val (.int p2), .val (.int p3), .val (.int p4), .val (.int p5), .val (.int p6), .val (.int w1), .val (.int ((3 : Int32) * w1)), .val (.int ia), .val (.int ib), .val (.int ic), .val (.ref b5), .val (.int (0 : Int32)), .val (.int (1 : Int32)), .val (.int (2 : Int32)), .val (.int p5), .val (.int p6), .val (.int p6), .unset, .unset] [(.int ib), (.int ia)])) _
          refine XS.icmpYes X38.here hx rfl (pc0 := 180) (pc' := 188) rfl (hb hby at_180) rfl (feq c125_13).2 (by decide) (by decide) ?_
          show Steps p.tables e below (T38.setTop (mkF m 188 #[.val (.int p1), .val (.int p2), .val (.int p3), .val (.int p4), .val (.int p5), .val (.int p6), .val (.int w1), .val (.int ((3 : Int32) * w1)), .val (.int ia), .val (.int ib), .val (.int ic), .val (.ref b5), .val (.int (0 : Int32)), .val (.int (1 : Int32)), .val (.int (2 : Int32)), .val (.int p5), .val (.int p6), .val (.int p6), .unset, .unset] [])) _
          refine XS.iload X38.here hx rfl (hb hby at_188) rfl ?_
          show Steps p.tables e below (T38.setTop (mkF m 190 #[.val (.int p1), .val (.int p2), .val (.int p3), .val (.int p4), .val (.int p5), .val (.int p6), .val (.int w1), .val (.int ((3 : Int32) * w1)), .val (.int ia), .val (.int ib), .val (.int ic), .val (.ref b5), .val (.int (0 : Int32)), .val (.int (1 : Int32)), .val (.int (2 : Int32)), .val (.int p5), .val (.int p6), .val (.int p6), .unset, .unset] [(.int p5)])) _
          refine XS.istore X38.here hx rfl (hb hby at_190) rfl (l' := #[.val (.int p1), .val (.int p2), .val (.int p3), .val (.int p4), .val (.int p5), .val (.int p6), .val (.int w1), .val (.int ((3 : Int32) * w1)), .val (.int ia), .val (.int ib), .val (.int ic), .val (.ref b5), .val (.int (0 : Int32)), .val (.int (1 : Int32)), .val (.int (2 : Int32)), .val (.int p5), .val (.int p6), .val (.int p6), .val (.int p5), .unset]) rfl ?_
          show Steps p.tables e below (T38.setTop (mkF m 192 #[.val (.int p1), .val (.int p2), .val (.int p3), .val (.int p4), .val (.int p5), .val (.int p6), .val (.int w1), .val (.int ((3 : Int32) * w1)), .val (.int ia), .val (.int ib), .val (.int ic), .val (.ref b5), .val (.int (0 : Int32)), .val (.int (1 : Int32)), .val (.int (2 : Int32)), .val (.int p5), .val (.int p6), .val (.int p6), .val (.int p5), .unset] [])) _
          refine XS.iload X38.here hx rfl (hb hby at_192) rfl ?_
          show Steps p.tables e below (T38.setTop (mkF m 194 #[.val (.int p1), .val (.int p2), .val (.int p3), .val (.int p4), .val (.int p5), .val (.int p6), .val (.int w1), .val (.int ((3 : Int32) * w1)), .val (.int ia), .val (.int ib), .val (.int ic), .val (.ref b5), .val (.int (0 : Int32)), .val (.int (1 : Int32)), .val (.int (2 : Int32)), .val (.int p5), .val (.int p6), .val (.int p6), .val (.int p5), .unset] [(.int ic)])) _
          refine XS.iload X38.here hx rfl (hb hby at_194) rfl ?_
          show Steps p.tables e below (T38.setTop (mkF m 196 #[.val (.int p1), .val (.int p2), .val (.int p3), .val (.int p4), .val (.int p5), .val (.int p6), .val (.int w1), .val (.int ((3 : Int32) * w1)), .val (.int ia), .val (.int ib), .val (.int ic), .val (.ref b5), .val (.int (0 : Int32)), .val (.int (1 : Int32)), .val (.int (2 : Int32)), .val (.int p5), .val (.int p6), .val (.int p6), .val (.int p5), .unset] [(.int ib), (.int ic)])) _
          refine XS.icmpNo X38.here hx rfl (hb hby at_196) rfl (teq c159_33).2 ?_
          show Steps p.tables e below (T38.setTop (mkF m 199 #[.val (.int p1), .val (.int p2), .val (.int p3), .val (.int p4), .val (.int p5), .val (.int p6), .val (.int w1), .val (.int ((3 : Int32) * w1)), .val (.int ia), .val (.int ib), .val (.int ic), .val (.ref b5), .val (.int (0 : Int32)), .val (.int (1 : Int32)), .val (.int (2 : Int32)), .val (.int p5), .val (.int p6), .val (.int p6), .val (.int p5), .unset] [])) _
          refine XS.iload X38.here hx rfl (hb hby at_199) rfl ?_
          show Steps p.tables e below (T38.setTop (mkF m 201 #[.val (.int p1), .val (.int p2), .val (.int p3), .val (.int p4), .val (.int p5), .val (.int p6), .val (.int w1), .val (.int ((3 : Int32) * w1)), .val (.int ia), .val (.int ib), .val (.int ic), .val (.ref b5), .val (.int (0 : Int32)), .val (.int (1 : Int32)), .val (.int (2 : Int32)), .val (.int p5), .val (.int p6), .val (.int p6), .val (.int p5), .unset] [(.int p6)])) _
          refine XS.istore X38.here hx rfl (hb hby at_201) rfl (l' := #[.val (.int p1), .val (.int p2), .val (.int p3), .val (.int p4), .val (.int p5), .val (.int p6), .val (.int w1), .val (.int ((3 : Int32) * w1)), .val (.int ia), .val (.int ib), .val (.int ic), .val (.ref b5), .val (.int (0 : Int32)), .val (.int (1 : Int32)), .val (.int (2 : Int32)), .val (.int p5), .val (.int p6), .val (.int p6), .val (.int p5), .val (.int p6)]) rfl ?_
          show Steps p.tables e below (T38.setTop (mkF m 203 #[.val (.int p1), .val (.int p2), .val (.int p3), .val (.int p4), .val (.int p5), .val (.int p6), .val (.int w1), .val (.int ((3 : Int32) * w1)), .val (.int ia), .val (.int ib), .val (.int ic), .val (.ref b5), .val (.int (0 : Int32)), .val (.int (1 : Int32)), .val (.int (2 : Int32)), .val (.int p5), .val (.int p6), .val (.int p6), .val (.int p5), .val (.int p6)] [])) _
          refine XS.goto X38.here hx rfl (pc0 := 203) (pc' := 223) rfl (hb hby at_203) (by decide) (by decide) ?_
          show Steps p.tables e below (T38.setTop (mkF m 223 #[.val (.int p1), .val (.int p2), .val (.int p3), .val (.int p4), .val (.int p5), .val (.int p6), .val (.int w1), .val (.int ((3 : Int32) * w1)), .val (.int ia), .val (.int ib), .val (.int ic), .val (.ref b5), .val (.int (0 : Int32)), .val (.int (1 : Int32)), .val (.int (2 : Int32)), .val (.int p5), .val (.int p6), .val (.int p6), .val (.int p5), .val (.int p6)] [])) _
          refine XS.iload X38.here hx rfl (hb hby at_223) rfl ?_
          show Steps p.tables e below (T38.setTop (mkF m 225 #[.val (.int p1), .val (.int p2), .val (.int p3), .val (.int p4), .val (.int p5), .val (.int p6), .val (.int w1), .val (.int ((3 : Int32) * w1)), .val (.int ia), .val (.int ib), .val (.int ic), .val (.ref b5), .val (.int (0 : Int32)), .val (.int (1 : Int32)), .val (.int (2 : Int32)), .val (.int p5), .val (.int p6), .val (.int p6), .val (.int p5), .val (.int p6)] [(.int p5)])) _
          refine XS.iload X38.here hx rfl (hb hby at_225) rfl ?_
          show Steps p.tables e below (T38.setTop (mkF m 227 #[.val (.int p1), .val (.int p2), .val (.int p3), .val (.int p4), .val (.int p5), .val (.int p6), .val (.int w1), .val (.int ((3 : Int32) * w1)), .val (.int ia), .val (.int ib), .val (.int ic), .val (.ref b5), .val (.int (0 : Int32)), .val (.int (1 : Int32)), .val (.int (2 : Int32)), .val (.int p5), .val (.int p6), .val (.int p6), .val (.int p5), .val (.int p6)] [(.int p5), (.int p5)])) _
          refine XS.icmpNo X38.here hx rfl (hb hby at_227) rfl (teq (rfl : p5 = p5)).2 ?_
          show Steps p.tables e below (T38.setTop (mkF m 230 #[.val (.int p1), .val (.int p2), .val (.int p3), .val (.int p4), .val (.int p5), .val (.int p6), .val (.int w1), .val (.int ((3 : Int32) * w1)), .val (.int ia), .val (.int ib), .val (.int ic), .val (.ref b5), .val (.int (0 : Int32)), .val (.int (1 : Int32)), .val (.int (2 : Int32)), .val (.int p5), .val (.int p6), .val (.int p6), .val (.int p5), .val (.int p6)] [])) _
          refine XS.iload X38.here hx rfl (hb hby at_230) rfl ?_
          show Steps p.tables e below (T38.setTop (mkF m 232 #[.val (.int p1), .val (.int p2), .val (.int p3), .val (.int p4), .val (.int p5), .val (.int p6), .val (.int w1), .val (.int ((3 : Int32) * w1)), .val (.int ia), .val (.int ib), .val (.int ic), .val (.ref b5), .val (.int (0 : Int32)), .val (.int (1 : Int32)), .val (.int (2 : Int32)), .val (.int p5), .val (.int p6), .val (.int p6), .val (.int p5), .val (.int p6)] [(.int p6)])) _
          refine XS.iload X38.here hx rfl (hb hby at_232) rfl ?_
          show Steps p.tables e below (T38.setTop (mkF m 234 #[.val (.int p1), .val (.int p2), .val (.int p3), .val (.int p4), .val (.int p5), .val (.int p6), .val (.int w1), .val (.int ((3 : Int32) * w1)), .val (.int ia), .val (.int ib), .val (.int ic), .val (.ref b5), .val (.int (0 : Int32)), .val (.int (1 : Int32)), .val (.int (2 : Int32)), .val (.int p5), .val (.int p6), .val (.int p6), .val (.int p5), .val (.int p6)] [(.int p6), (.int p6)])) _
          refine XS.icmpNo X38.here hx rfl (hb hby at_234) rfl (teq (rfl : p6 = p6)).2 ?_
          show Steps p.tables e below (T38.setTop (mkF m 237 #[.val (.int p1), .val (.int p2), .val (.int p3), .val (.int p4), .val (.int p5), .val (.int p6), .val (.int w1), .val (.int ((3 : Int32) * w1)), .val (.int ia), .val (.int ib), .val (.int ic), .val (.ref b5), .val (.int (0 : Int32)), .val (.int (1 : Int32)), .val (.int (2 : Int32)), .val (.int p5), .val (.int p6), .val (.int p6), .val (.int p5), .val (.int p6)] [])) _
          refine XS.iload X38.here hx rfl (hb hby at_237) rfl ?_
          show Steps p.tables e below (T38.setTop (mkF m 239 #[.val (.int p1), .val (.int p2), .val (.int p3), .val (.int p4), .val (.int p5), .val (.int p6), .val (.int w1), .val (.int ((3 : Int32) * w1)), .val (.int ia), .val (.int ib), .val (.int ic), .val (.ref b5), .val (.int (0 : Int32)), .val (.int (1 : Int32)), .val (.int (2 : Int32)), .val (.int p5), .val (.int p6), .val (.int p6), .val (.int p5), .val (.int p6)] [(.int p6)])) _
          refine XS.iload X38.here hx rfl (hb hby at_239) rfl ?_
          show Steps p.tables e below (T38.setTop (mkF m 241 #[.val (.int p1), .val (.int p2), .val (.int p3), .val (.int p4), .val (.int p5), .val (.int p6), .val (.int w1), .val (.int ((3 : Int32) * w1)), .val (.int ia), .val (.int ib), .val (.int ic), .val (.ref b5), .val (.int (0 : Int32)), .val (.int (1 : Int32)), .val (.int (2 : Int32)), .val (.int p5), .val (.int p6), .val (.int p6), .val (.int p5), .val (.int p6)] [(.int p6), (.int p6)])) _
          refine XS.icmpNo X38.here hx rfl (hb hby at_241) rfl (teq (rfl : p6 = p6)).2 ?_
          show Steps p.tables e below (T38.setTop (mkF m 244 #[.val (.int p1), .val (.int p2), .val (.int p3), .val (.int p4), .val (.int p5), .val (.int p6), .val (.int w1), .val (.int ((3 : Int32) * w1)), .val (.int ia), .val (.int ib), .val (.int ic), .val (.ref b5), .val (.int (0 : Int32)), .val (.int (1 : Int32)), .val (.int (2 : Int32)), .val (.int p5), .val (.int p6), .val (.int p6), .val (.int p5), .val (.int p6)] [])) _
          refine XS.iconst X38.here hx rfl (hb hby at_244) ?_
          show Steps p.tables e below (T38.setTop (mkF m 245 #[.val (.int p1), .val (.int p2), .val (.int p3), .val (.int p4), .val (.int p5), .val (.int p6), .val (.int w1), .val (.int ((3 : Int32) * w1)), .val (.int ia), .val (.int ib), .val (.int ic), .val (.ref b5), .val (.int (0 : Int32)), .val (.int (1 : Int32)), .val (.int (2 : Int32)), .val (.int p5), .val (.int p6), .val (.int p6), .val (.int p5), .val (.int p6)] [(.int (1 : Int32))])) _
          refine XS.goto X38.here hx rfl (pc0 := 245) (pc' := 249) rfl (hb hby at_245) (by decide) (by decide) ?_
          exact kt
        obtain ⟨fs, hr, hrun, hended, hW, hsame⟩ := X38.leave (v := some (.int (1 : Int32))) (fun h => by rw [Bd.returns] at h; cases h)
        refine ⟨_, _, pre39 _ ?_, hrun, hended, _, _, rfl, ?_, ⟨_, rfl⟩, hW, hsame.mono (by decide) (by decide)⟩
        · show Steps p.tables e below (T38.setTop (mkF m 249 #[.val (.int p1), .val (.int p2), .val (.int p3), .val (.int p4), .val (.int p5), .val (.int p6), .val (.int w1), .val (.int ((3 : Int32) * w1)), .val (.int ia), .val (.int ib), .val (.int ic), .val (.ref b5), .val (.int (0 : Int32)), .val (.int (1 : Int32)), .val (.int (2 : Int32)), .val (.int p5), .val (.int p6), .val (.int p6), .val (.int p5), .val (.int p6)] [(.int (1 : Int32))])) _
          exact retN X38 hx (t := .boolean) Bd.returns (by simp) (hb hby at_249) hr
        · show Q0 Z h0 n0 _ T38.heap _
          rw [hE38]
          exact ⟨rfl, N38⟩
    · have pre40 : ∀ tt, Steps p.tables e below (T31.setTop (mkF m 161 #[.val (.int p1), .val (.int p2), .val (.int p3), .val (.int p4), .val (.int p5), .val (.int p6), .val (.int w1), .val (.int ((3 : Int32) * w1)), .val (.int ia), .val (.int ib), .val (.int ic), .val (.ref b5), .val (.int (0 : Int32)), .val (.int (1 : Int32)), .val (.int (2 : Int32)), .val (.int p5), .val (.int p6), .unset, .unset, .unset] [(.ref b5)])) tt → Steps p.tables e below (s₁.setTop (entryFrame m #[(.int p1), (.int p2), (.int p3), (.int p4), (.int p5), (.int p6)] maxLocals)) tt := by
        intro tt kt
        refine pre32 tt ?_
        show Steps p.tables e below (T31.setTop (mkF m 159 #[.val (.int p1), .val (.int p2), .val (.int p3), .val (.int p4), .val (.int p5), .val (.int p6), .val (.int w1), .val (.int ((3 : Int32) * w1)), .val (.int ia), .val (.int ib), .val (.int ic), .val (.ref b5), .val (.int (0 : Int32)), .val (.int (1 : Int32)), .val (.int (2 : Int32)), .val (.int p5), .val (.int p6), .unset, .unset, .unset] [])) _
        refine XS.aload X31.here hx rfl (hb hby at_159) rfl rfl ?_
        exact kt
      by_cases c161_41 : ic = ia
      · obtain ⟨cq42, kq42, q42a, q42b, q42c⟩ := isOf hZ hE31 ((Ea9.keep K10).keep K11)
        obtain ⟨_, _, ⟨T42, L42, k42, n42⟩, -, X42, ⟨Lc42, hQ42, l42, y42, z42⟩, st42⟩ := X31.virtualBack hx (y := (⟨"com/example/muniment_room/munimentroom/categorizer/Columns", "get", "(II)I"⟩ : MethodName)) (z := (⟨"com/example/muniment_room/munimentroom/categorizer/Columns", "get", "(II)I"⟩ : MethodName)) hown (mvT hZ (hw _ (List.mem_of_getElem? (i := 30) rfl))) (mvT hZ (hw _ (List.mem_of_getElem? (i := 31) rfl))) (notFace_of_selects (args := #[]) (mvT hZ (hw _ (List.mem_of_getElem? (i := 33) rfl)))) (mvT hZ (hw _ (List.mem_of_getElem? (i := 33) rfl))) (mvT hZ (hw _ (List.mem_of_getElem? (i := 32) rfl))) (by decide) (backOf (W := 0) (rmG l Z a0 hw [] b5 b6 c7 kb6 kc7 w1 (ic / w1) (ic % w1) p5 ic ((ib, .int p6) :: ((ia, .int p5) :: [])) T11.heap n0 (Nat.le_trans (Nat.le_trans (Nat.le_trans (Nat.le_trans (Nat.le_trans (Nat.le_trans (Nat.le_trans Z0 E5.1) K6.1) K7.1) K8.1) K9.1) K10.1) K11.1) ((Fw9.keep K10 (ninS hne_ac nin0)).keep K11 (ninS hne_ac nin0)) ((Fb9.keep K10 (ninS hne_ac nin0)).keep K11 (ninS hne_ac nin0)) ((((Vb7.keep K8 (ninS (Ne.symm hne_ab) nin0)).keep K9 (ninS (Ne.symm hne_ab) nin0)).keep K10 (ninS hne_bc nin0)).keep K11 (ninS hne_bc nin0)) Vc11 x_ic.1 x_ic.2.1 x_ic.2.2  (getH_miss (x_ic.2.2).1 c159_33 (getH_hit (x_ic.2.2).1 c161_41))) hZ (hw _ (List.mem_of_getElem? (i := 34) rfl)) (hw _ (List.mem_of_getElem? (i := 3) rfl)) (by decide) (by decide)) q42a q42c (g := (mkF m 171 #[.val (.int p1), .val (.int p2), .val (.int p3), .val (.int p4), .val (.int p5), .val (.int p6), .val (.int w1), .val (.int ((3 : Int32) * w1)), .val (.int ia), .val (.int ib), .val (.int ic), .val (.ref b5), .val (.int (0 : Int32)), .val (.int (1 : Int32)), .val (.int (2 : Int32)), .val (.int p5), .val (.int p6), .unset, .unset, .unset] [(.int (ic % w1)), (.int (ic / w1)), (.ref b5)])) rfl (by rw [hml]; rfl) (Steps.refl _) (argsL := [(.int (ic / w1)), (.int (ic % w1))]) (rest := []) (lenOf pd_rm0_3 rfl) rfl (by show 2 * 0 + _ ≤ _; exact Nat.le_of_eq rfl) (hb hby at_171) (fun _ _ => ⟨rfl, hE31, (by decide : 3 + 0 ≤ _), (by decide : 4100 + 0 ≤ _)⟩)
        dsimp only [Pt.U, Pt.locs, Pt.cells, Pt.slots] at X42 l42 y42 z42 st42 hQ42
        subst l42 y42 z42
        obtain ⟨rfl, N42q, hE42⟩ := hQ42
        have N42 := Fr.app N31 N42q
        have pre43 : ∀ tt, Steps p.tables e below (T42.setTop (mkF m 249 #[.val (.int p1), .val (.int p2), .val (.int p3), .val (.int p4), .val (.int p5), .val (.int p6), .val (.int w1), .val (.int ((3 : Int32) * w1)), .val (.int ia), .val (.int ib), .val (.int ic), .val (.ref b5), .val (.int (0 : Int32)), .val (.int (1 : Int32)), .val (.int (2 : Int32)), .val (.int p5), .val (.int p6), .val (.int p5), .val (.int p5), .val (.int p5)] [(.int (1 : Int32))])) tt → Steps p.tables e below (s₁.setTop (entryFrame m #[(.int p1), (.int p2), (.int p3), (.int p4), (.int p5), (.int p6)] maxLocals)) tt := by
          intro tt kt
          refine pre40 tt ?_
          show Steps p.tables e below (T31.setTop (mkF m 161 #[.val (.int p1), .val (.int p2), .val (.int p3), .val (.int p4), .val (.int p5), .val (.int p6), .val (.int w1), .val (.int ((3 : Int32) * w1)), .val (.int ia), .val (.int ib), .val (.int ic), .val (.ref b5), .val (.int (0 : Int32)), .val (.int (1 : Int32)), .val (.int (2 : Int32)), .val (.int p5), .val (.int p6), .unset, .unset, .unset] [(.ref b5)])) _
          refine XS.iload X31.here hx rfl (hb hby at_161) rfl ?_
          show Steps p.tables e below (T31.setTop (mkF m 163 #[.val (.int p1), .val (.int p2), .val (.int p3), .val (.int p4), .val (.int p5), .val (.int p6), .val (.int w1), .val (.int ((3 : Int32) * w1)), .val (.int ia), .val (.int ib), .val (.int ic), .val (.ref b5), .val (.int (0 : Int32)), .val (.int (1 : Int32)), .val (.int (2 : Int32)), .val (.int p5), .val (.int p6), .unset, .unset, .unset] [(.int ic), (.ref b5)])) _
          refine XS.iload X31.here hx rfl (hb hby at_163) rfl ?_
          show Steps p.tables e below (T31.setTop (mkF m 165 #[.val (.int p1), .val (.int p2), .val (.int p3), .val (.int p4), .val (.int p5), .val (.int p6), .val (.int w1), .val (.int ((3 : Int32) * w1)), .val (.int ia), .val (.int ib), .val (.int ic), .val (.ref b5), .val (.int (0 : Int32)), .val (.int (1 : Int32)), .val (.int (2 : Int32)), .val (.int p5), .val (.int p6), .unset, .unset, .unset] [(.int w1), (.int ic), (.ref b5)])) _
          refine XS.idiv X31.here hx rfl (hb hby at_165) rfl hwne ?_
          show Steps p.tables e below (T31.setTop (mkF m 166 #[.val (.int p1), .val (.int p2), .val (.int p3), .val (.int p4), .val (.int p5), .val (.int p6), .val (.int w1), .val (.int ((3 : Int32) * w1)), .val (.int ia), .val (.int ib), .val (.int ic), .val (.ref b5), .val (.int (0 : Int32)), .val (.int (1 : Int32)), .val (.int (2 : Int32)), .val (.int p5), .val (.int p6), .unset, .unset, .unset] [(.int (ic / w1)), (.ref b5)])) _
          refine XS.iload X31.here hx rfl (hb hby at_166) rfl ?_
          show Steps p.tables e below (T31.setTop (mkF m 168 #[.val (.int p1), .val (.int p2), .val (.int p3), .val (.int p4), .val (.int p5), .val (.int p6), .val (.int w1), .val (.int ((3 : Int32) * w1)), .val (.int ia), .val (.int ib), .val (.int ic), .val (.ref b5), .val (.int (0 : Int32)), .val (.int (1 : Int32)), .val (.int (2 : Int32)), .val (.int p5), .val (.int p6), .unset, .unset, .unset] [(.int ic), (.int (ic / w1)), (.ref b5)])) _
          refine XS.iload X31.here hx rfl (hb hby at_168) rfl ?_
          show Steps p.tables e below (T31.setTop (mkF m 170 #[.val (.int p1), .val (.int p2), .val (.int p3), .val (.int p4), .val (.int p5), .val (.int p6), .val (.int w1), .val (.int ((3 : Int32) * w1)), .val (.int ia), .val (.int ib), .val (.int ic), .val (.ref b5), .val (.int (0 : Int32)), .val (.int (1 : Int32)), .val (.int (2 : Int32)), .val (.int p5), .val (.int p6), .unset, .unset, .unset] [(.int w1), (.int ic), (.int (ic / w1)), (.ref b5)])) _
          refine iremM (g := (mkF m 170 #[.val (.int p1), .val (.int p2), .val (.int p3), .val (.int p4), .val (.int p5), .val (.int p6), .val (.int w1), .val (.int ((3 : Int32) * w1)), .val (.int ia), .val (.int ib), .val (.int ic), .val (.ref b5), .val (.int (0 : Int32)), .val (.int (1 : Int32)), .val (.int (2 : Int32)), .val (.int p5), .val (.int p6), .unset, .unset, .unset] [(.int w1), (.int ic), (.int (ic / w1)), (.ref b5)])) X31 hx rfl (hb hby at_170) rfl hwne ?_
          show Steps p.tables e below (T31.setTop (mkF m 171 #[.val (.int p1), .val (.int p2), .val (.int p3), .val (.int p4), .val (.int p5), .val (.int p6), .val (.int w1), .val (.int ((3 : Int32) * w1)), .val (.int ia), .val (.int ib), .val (.int ic), .val (.ref b5), .val (.int (0 : Int32)), .val (.int (1 : Int32)), .val (.int (2 : Int32)), .val (.int p5), .val (.int p6), .unset, .unset, .unset] [(.int (ic % w1)), (.int (ic / w1)), (.ref b5)])) _
          refine st42.trans ?_
          show Steps p.tables e below (T42.setTop (mkF m 174 #[.val (.int p1), .val (.int p2), .val (.int p3), .val (.int p4), .val (.int p5), .val (.int p6), .val (.int w1), .val (.int ((3 : Int32) * w1)), .val (.int ia), .val (.int ib), .val (.int ic), .val (.ref b5), .val (.int (0 : Int32)), .val (.int (1 : Int32)), .val (.int (2 : Int32)), .val (.int p5), .val (.int p6), .unset, .unset, .unset] [(.int p5)])) _
          refine XS.istore X42.here hx rfl (hb hby at_174) rfl (l' := #[.val (.int p1), .val (.int p2), .val (.int p3), .val (.int p4), .val (.int p5), .val (.int p6), .val (.int w1), .val (.int ((3 : Int32) * w1)), .val (.int ia), .val (.int ib), .val (.int ic), .val (.ref b5), .val (.int (0 : Int32)), .val (.int (1 : Int32)), .val (.int (2 : Int32)), .val (.int p5), .val (.int p6), .val (.int p5), .unset, .unset]) rfl ?_
          show Steps p.tables e below (T42.setTop (mkF m 176 #[.val (.int p1), .val (.int p2), .val (.int p3), .val (.int p4), .val (.int p5), .val (.int p6), .val (.int w1), .val (.int ((3 : Int32) * w1)), .val (.int ia), .val (.int ib), .val (.int ic), .val (.ref b5), .val (.int (0 : Int32)), .val (.int (1 : Int32)), .val (.int (2 : Int32)), .val (.int p5), .val (.int p6), .val (.int p5), .unset, .unset] [])) _
          refine XS.iload X42.here hx rfl (hb hby at_176) rfl ?_
          show Steps p.tables e below (T42.setTop (mkF m 178 #[.val (.int p1), .val (.int p2), .val (.int p3), .val (.int p4), .val (.int p5), .val (.int p6), .val (.int w1), .val (.int ((3 : Int32) * w1)), .val (.int ia), .val (.int ib), .val (.int ic), .val (.ref b5), .val (.int (0 : Int32)), .val (.int (1 : Int32)), .val (.int (2 : Int32)), .val (.int p5), .val (.int p6), .val (.int p5), .unset, .unset] [(.int ia)])) _
          refine XS.iload X42.here hx rfl (hb hby at_178) rfl ?_
          show Steps p.tables e below (T42.setTop (mkF m 180 #[.val (.int p1), .val (.int p2), .val (.int p3), .val (.int p4), .val (.int p5), .val (.int p6), .val (.int w1), .val (.int ((3 : Int32) * w1)), .val (.int ia), .val (.int ib), .val (.int ic), .val (.ref b5), .val (.int (0 : Int32)), .val (.int (1 : Int32)), .val (.int (2 : Int32)), .val (.int p5), .val (.int p6), .val (.int p5), .unset, .unset] [(.int ib), (.int ia)])) _
          refine XS.icmpYes X42.here hx rfl (pc0 := 180) (pc' := 188) rfl (hb hby at_180) rfl (feq c125_13).2 (by decide) (by decide) ?_
          show Steps p.tables e below (T42.setTop (mkF m 188 #[.val (.int p1), .val (.int p2), .val (.int p3), .val (.int p4), .val (.int p5), .val (.int p6), .val (.int w1), .val (.int ((3 : Int32) * w1)), .val (.int ia), .val (.int ib), .val (.int ic), .val (.ref b5), .val (.int (0 : Int32)), .val (.int (1 : Int32)), .val (.int (2 : Int32)), .val (.int p5), .val (.int p6), .val (.int p5), .unset, .unset] [])) _
          refine XS.iload X42.here hx rfl (hb hby at_188) rfl ?_
          show Steps p.tables e below (T42.setTop (mkF m 190 #[.val (.int p1), .val (.int p2), .val (.int p3), .val (.int p4), .val (.int p5), .val (.int p6), .val (.int w1), .val (.int ((3 : Int32) * w1)), .val (.int ia), .val (.int ib), .val (.int ic), .val (.ref b5), .val (.int (0 : Int32)), .val (.int (1 : Int32)), .val (.int (2 : Int32)), .val (.int p5), .val (.int p6), .val (.int p5), .unset, .unset] [(.int p5)])) _
          refine XS.istore X42.here hx rfl (hb hby at_190) rfl (l' := #[.val (.int p1), .val (.int p2), .val (.int p3), .val (.int p4), .val (.int p5), .val (.int p6), .val (.int w1), .val (.int ((3 : Int32) * w1)), .val (.int ia), .val (.int ib), .val (.int ic), .val (.ref b5), .val (.int (0 : Int32)), .val (.int (1 : Int32)), .val (.int (2 : Int32)), .val (.int p5), .val (.int p6), .val (.int p5), .val (.int p5), .unset]) rfl ?_
          show Steps p.tables e below (T42.setTop (mkF m 192 #[.val (.int p1), .val (.int p2), .val (.int p3), .val (.int p4), .val (.int p5), .val (.int p6), .val (.int w1), .val (.int ((3 : Int32) * w1)), .val (.int ia), .val (.int ib), .val (.int ic), .val (.ref b5), .val (.int (0 : Int32)), .val (.int (1 : Int32)), .val (.int (2 : Int32)), .val (.int p5), .val (.int p6), .val (.int p5), .val (.int p5), .unset] [])) _
          refine XS.iload X42.here hx rfl (hb hby at_192) rfl ?_
          show Steps p.tables e below (T42.setTop (mkF m 194 #[.val (.int p1), .val (.int p2), .val (.int p3), .val (.int p4), .val (.int p5), .val (.int p6), .val (.int w1), .val (.int ((3 : Int32) * w1)), .val (.int ia), .val (.int ib), .val (.int ic), .val (.ref b5), .val (.int (0 : Int32)), .val (.int (1 : Int32)), .val (.int (2 : Int32)), .val (.int p5), .val (.int p6), .val (.int p5), .val (.int p5), .unset] [(.int ic)])) _
          refine XS.iload X42.here hx rfl (hb hby at_194) rfl ?_
          show Steps p.tables e below (T42.setTop (mkF m 196 #[.val (.int p1), .val (.int p2), .val (.int p3), .val (.int p4), .val (.int p5), .val (.int p6), .val (.int w1), .val (.int ((3 : Int32) * w1)), .val (.int ia), .val (.int ib), .val (.int ic), .val (.ref b5), .val (.int (0 : Int32)), .val (.int (1 : Int32)), .val (.int (2 : Int32)), .val (.int p5), .val (.int p6), .val (.int p5), .val (.int p5), .unset] [(.int ib), (.int ic)])) _
          refine XS.icmpYes X42.here hx rfl (pc0 := 196) (pc' := 206) rfl (hb hby at_196) rfl (feq c159_33).2 (by decide) (by decide) ?_
          show Steps p.tables e below (T42.setTop (mkF m 206 #[.val (.int p1), .val (.int p2), .val (.int p3), .val (.int p4), .val (.int p5), .val (.int p6), .val (.int w1), .val (.int ((3 : Int32) * w1)), .val (.int ia), .val (.int ib), .val (.int ic), .val (.ref b5), .val (.int (0 : Int32)), .val (.int (1 : Int32)), .val (.int (2 : Int32)), .val (.int p5), .val (.int p6), .val (.int p5), .val (.int p5), .unset] [])) _
          refine XS.iload X42.here hx rfl (hb hby at_206) rfl ?_
          show Steps p.tables e below (T42.setTop (mkF m 208 #[.val (.int p1), .val (.int p2), .val (.int p3), .val (.int p4), .val (.int p5), .val (.int p6), .val (.int w1), .val (.int ((3 : Int32) * w1)), .val (.int ia), .val (.int ib), .val (.int ic), .val (.ref b5), .val (.int (0 : Int32)), .val (.int (1 : Int32)), .val (.int (2 : Int32)), .val (.int p5), .val (.int p6), .val (.int p5), .val (.int p5), .unset] [(.int ic)])) _
          refine XS.iload X42.here hx rfl (hb hby at_208) rfl ?_
          show Steps p.tables e below (T42.setTop (mkF m 210 #[.val (.int p1), .val (.int p2), .val (.int p3), .val (.int p4), .val (.int p5), .val (.int p6), .val (.int w1), .val (.int ((3 : Int32) * w1)), .val (.int ia), .val (.int ib), .val (.int ic), .val (.ref b5), .val (.int (0 : Int32)), .val (.int (1 : Int32)), .val (.int (2 : Int32)), .val (.int p5), .val (.int p6), .val (.int p5), .val (.int p5), .unset] [(.int ia), (.int ic)])) _
          refine XS.icmpNo X42.here hx rfl (hb hby at_210) rfl (teq c161_41).2 ?_
          show Steps p.tables e below (T42.setTop (mkF m 213 #[.val (.int p1), .val (.int p2), .val (.int p3), .val (.int p4), .val (.int p5), .val (.int p6), .val (.int w1), .val (.int ((3 : Int32) * w1)), .val (.int ia), .val (.int ib), .val (.int ic), .val (.ref b5), .val (.int (0 : Int32)), .val (.int (1 : Int32)), .val (.int (2 : Int32)), .val (.int p5), .val (.int p6), .val (.int p5), .val (.int p5), .unset] [])) _
          refine XS.iload X42.here hx rfl (hb hby at_213) rfl ?_
          show Steps p.tables e below (T42.setTop (mkF m 215 #[.val (.int p1), .val (.int p2), .val (.int p3), .val (.int p4), .val (.int p5), .val (.int p6), .val (.int w1), .val (.int ((3 : Int32) * w1)), .val (.int ia), .val (.int ib), .val (.int ic), .val (.ref b5), .val (.int (0 : Int32)), .val (.int (1 : Int32)), .val (.int (2 : Int32)), .val (.int p5), .val (.int p6), .val (.int p5), .val (.int p5), .unset] [(.int p5)])) _
          refine XS.istore X42.here hx rfl (hb hby at_215) rfl (l' := #[.val (.int p1), .val (.int p2), .val (.int p3), .val (.int p4), .val (.int p5), .val (.int p6), .val (.int w1), .val (.int ((3 : Int32) * w1)), .val (.int ia), .val (.int ib), .val (.int ic), .val (.ref b5), .val (.int (0 : Int32)), .val (.int (1 : Int32)), .val (.int (2 : Int32)), .val (.int p5), .val (.int p6), .val (.int p5), .val (.int p5), .val (.int p5)]) rfl ?_
          show Steps p.tables e below (T42.setTop (mkF m 217 #[.val (.int p1), .val (.int p2), .val (.int p3), .val (.int p4), .val (.int p5), .val (.int p6), .val (.int w1), .val (.int ((3 : Int32) * w1)), .val (.int ia), .val (.int ib), .val (.int ic), .val (.ref b5), .val (.int (0 : Int32)), .val (.int (1 : Int32)), .val (.int (2 : Int32)), .val (.int p5), .val (.int p6), .val (.int p5), .val (.int p5), .val (.int p5)] [])) _
          refine XS.goto X42.here hx rfl (pc0 := 217) (pc' := 223) rfl (hb hby at_217) (by decide) (by decide) ?_
          show Steps p.tables e below (T42.setTop (mkF m 223 #[.val (.int p1), .val (.int p2), .val (.int p3), .val (.int p4), .val (.int p5), .val (.int p6), .val (.int w1), .val (.int ((3 : Int32) * w1)), .val (.int ia), .val (.int ib), .val (.int ic), .val (.ref b5), .val (.int (0 : Int32)), .val (.int (1 : Int32)), .val (.int (2 : Int32)), .val (.int p5), .val (.int p6), .val (.int p5), .val (.int p5), .val (.int p5)] [])) _
          refine XS.iload X42.here hx rfl (hb hby at_223) rfl ?_
          show Steps p.tables e below (T42.setTop (mkF m 225 #[.val (.int p1), .val (.int p2), .val (.int p3), .val (.int p4), .val (.int p5), .val (.int p6), .val (.int w1), .val (.int ((3 : Int32) * w1)), .val (.int ia), .val (.int ib), .val (.int ic), .val (.ref b5), .val (.int (0 : Int32)), .val (.int (1 : Int32)), .val (.int (2 : Int32)), .val (.int p5), .val (.int p6), .val (.int p5), .val (.int p5), .val (.int p5)] [(.int p5)])) _
          refine XS.iload X42.here hx rfl (hb hby at_225) rfl ?_
          show Steps p.tables e below (T42.setTop (mkF m 227 #[.val (.int p1), .val (.int p2), .val (.int p3), .val (.int p4), .val (.int p5), .val (.int p6), .val (.int w1), .val (.int ((3 : Int32) * w1)), .val (.int ia), .val (.int ib), .val (.int ic), .val (.ref b5), .val (.int (0 : Int32)), .val (.int (1 : Int32)), .val (.int (2 : Int32)), .val (.int p5), .val (.int p6), .val (.int p5), .val (.int p5), .val (.int p5)] [(.int p5), (.int p5)])) _
          refine XS.icmpNo X42.here hx rfl (hb hby at_227) rfl (teq (rfl : p5 = p5)).2 ?_
          show Steps p.tables e below (T42.setTop (mkF m 230 #[.val (.int p1), .val (.int p2), .val (.int p3), .val (.int p4), .val (.int p5), .val (.int p6), .val (.int w1), .val (.int ((3 : Int32) * w1)), .val (.int ia), .val (.int ib), .val (.int ic), .val (.ref b5), .val (.int (0 : Int32)), .val (.int (1 : Int32)), .val (.int (2 : Int32)), .val (.int p5), .val (.int p6), .val (.int p5), .val (.int p5), .val (.int p5)] [])) _
          refine XS.iload X42.here hx rfl (hb hby at_230) rfl ?_
          show Steps p.tables e below (T42.setTop (mkF m 232 #[.val (.int p1), .val (.int p2), .val (.int p3), .val (.int p4), .val (.int p5), .val (.int p6), .val (.int w1), .val (.int ((3 : Int32) * w1)), .val (.int ia), .val (.int ib), .val (.int ic), .val (.ref b5), .val (.int (0 : Int32)), .val (.int (1 : Int32)), .val (.int (2 : Int32)), .val (.int p5), .val (.int p6), .val (.int p5), .val (.int p5), .val (.int p5)] [(.int p6)])) _
          refine XS.iload X42.here hx rfl (hb hby at_232) rfl ?_
          show Steps p.tables e below (T42.setTop (mkF m 234 #[.val (.int p1), .val (.int p2), .val (.int p3), .val (.int p4), .val (.int p5), .val (.int p6), .val (.int w1), .val (.int ((3 : Int32) * w1)), .val (.int ia), .val (.int ib), .val (.int ic), .val (.ref b5), .val (.int (0 : Int32)), .val (.int (1 : Int32)), .val (.int (2 : Int32)), .val (.int p5), .val (.int p6), .val (.int p5), .val (.int p5), .val (.int p5)] [(.int p6), (.int p6)])) _
          refine XS.icmpNo X42.here hx rfl (hb hby at_234) rfl (teq (rfl : p6 = p6)).2 ?_
          show Steps p.tables e below (T42.setTop (mkF m 237 #[.val (.int p1), .val (.int p2), .val (.int p3), .val (.int p4), .val (.int p5), .val (.int p6), .val (.int w1), .val (.int ((3 : Int32) * w1)), .val (.int ia), .val (.int ib), .val (.int ic), .val (.ref b5), .val (.int (0 : Int32)), .val (.int (1 : Int32)), .val (.int (2 : Int32)), .val (.int p5), .val (.int p6), .val (.int p5), .val (.int p5), .val (.int p5)] [])) _
          refine XS.iload X42.here hx rfl (hb hby at_237) rfl ?_
          show Steps p.tables e below (T42.setTop (mkF m 239 #[.val (.int p1), .val (.int p2), .val (.int p3), .val (.int p4), .val (.int p5), .val (.int p6), .val (.int w1), .val (.int ((3 : Int32) * w1)), .val (.int ia), .val (.int ib), .val (.int ic), .val (.ref b5), .val (.int (0 : Int32)), .val (.int (1 : Int32)), .val (.int (2 : Int32)), .val (.int p5), .val (.int p6), .val (.int p5), .val (.int p5), .val (.int p5)] [(.int p5)])) _
          refine XS.iload X42.here hx rfl (hb hby at_239) rfl ?_
          show Steps p.tables e below (T42.setTop (mkF m 241 #[.val (.int p1), .val (.int p2), .val (.int p3), .val (.int p4), .val (.int p5), .val (.int p6), .val (.int w1), .val (.int ((3 : Int32) * w1)), .val (.int ia), .val (.int ib), .val (.int ic), .val (.ref b5), .val (.int (0 : Int32)), .val (.int (1 : Int32)), .val (.int (2 : Int32)), .val (.int p5), .val (.int p6), .val (.int p5), .val (.int p5), .val (.int p5)] [(.int p5), (.int p5)])) _
          refine XS.icmpNo X42.here hx rfl (hb hby at_241) rfl (teq (rfl : p5 = p5)).2 ?_
          show Steps p.tables e below (T42.setTop (mkF m 244 #[.val (.int p1), .val (.int p2), .val (.int p3), .val (.int p4), .val (.int p5), .val (.int p6), .val (.int w1), .val (.int ((3 : Int32) * w1)), .val (.int ia), .val (.int ib), .val (.int ic), .val (.ref b5), .val (.int (0 : Int32)), .val (.int (1 : Int32)), .val (.int (2 : Int32)), .val (.int p5), .val (.int p6), .val (.int p5), .val (.int p5), .val (.int p5)] [])) _
          refine XS.iconst X42.here hx rfl (hb hby at_244) ?_
          show Steps p.tables e below (T42.setTop (mkF m 245 #[.val (.int p1), .val (.int p2), .val (.int p3), .val (.int p4), .val (.int p5), .val (.int p6), .val (.int w1), .val (.int ((3 : Int32) * w1)), .val (.int ia), .val (.int ib), .val (.int ic), .val (.ref b5), .val (.int (0 : Int32)), .val (.int (1 : Int32)), .val (.int (2 : Int32)), .val (.int p5), .val (.int p6), .val (.int p5), .val (.int p5), .val (.int p5)] [(.int (1 : Int32))])) _
          refine XS.goto X42.here hx rfl (pc0 := 245) (pc' := 249) rfl (hb hby at_245) (by decide) (by decide) ?_
          exact kt
        obtain ⟨fs, hr, hrun, hended, hW, hsame⟩ := X42.leave (v := some (.int (1 : Int32))) (fun h => by rw [Bd.returns] at h; cases h)
        refine ⟨_, _, pre43 _ ?_, hrun, hended, _, _, rfl, ?_, ⟨_, rfl⟩, hW, hsame.mono (by decide) (by decide)⟩
        · show Steps p.tables e below (T42.setTop (mkF m 249 #[.val (.int p1), .val (.int p2), .val (.int p3), .val (.int p4), .val (.int p5), .val (.int p6), .val (.int w1), .val (.int ((3 : Int32) * w1)), .val (.int ia), .val (.int ib), .val (.int ic), .val (.ref b5), .val (.int (0 : Int32)), .val (.int (1 : Int32)), .val (.int (2 : Int32)), .val (.int p5), .val (.int p6), .val (.int p5), .val (.int p5), .val (.int p5)] [(.int (1 : Int32))])) _
          exact retN X42 hx (t := .boolean) Bd.returns (by simp) (hb hby at_249) hr
        · show Q0 Z h0 n0 _ T42.heap _
          rw [hE42]
          exact ⟨rfl, N42⟩
      · obtain ⟨cq44, kq44, q44a, q44b, q44c⟩ := isOf hZ hE31 ((Ea9.keep K10).keep K11)
        obtain ⟨_, _, ⟨T44, L44, k44, n44⟩, -, X44, ⟨Lc44, hQ44, l44, y44, z44⟩, st44⟩ := X31.virtualBack hx (y := (⟨"com/example/muniment_room/munimentroom/categorizer/Columns", "get", "(II)I"⟩ : MethodName)) (z := (⟨"com/example/muniment_room/munimentroom/categorizer/Columns", "get", "(II)I"⟩ : MethodName)) hown (mvT hZ (hw _ (List.mem_of_getElem? (i := 30) rfl))) (mvT hZ (hw _ (List.mem_of_getElem? (i := 31) rfl))) (notFace_of_selects (args := #[]) (mvT hZ (hw _ (List.mem_of_getElem? (i := 33) rfl)))) (mvT hZ (hw _ (List.mem_of_getElem? (i := 33) rfl))) (mvT hZ (hw _ (List.mem_of_getElem? (i := 32) rfl))) (by decide) (backOf (W := 0) (rmG l Z a0 hw [] b5 b6 c7 kb6 kc7 w1 (ic / w1) (ic % w1) (0 : Int32) ic ((ib, .int p6) :: ((ia, .int p5) :: [])) T11.heap n0 (Nat.le_trans (Nat.le_trans (Nat.le_trans (Nat.le_trans (Nat.le_trans (Nat.le_trans (Nat.le_trans Z0 E5.1) K6.1) K7.1) K8.1) K9.1) K10.1) K11.1) ((Fw9.keep K10 (ninS hne_ac nin0)).keep K11 (ninS hne_ac nin0)) ((Fb9.keep K10 (ninS hne_ac nin0)).keep K11 (ninS hne_ac nin0)) ((((Vb7.keep K8 (ninS (Ne.symm hne_ab) nin0)).keep K9 (ninS (Ne.symm hne_ab) nin0)).keep K10 (ninS hne_bc nin0)).keep K11 (ninS hne_bc nin0)) Vc11 x_ic.1 x_ic.2.1 x_ic.2.2  (getH_miss (x_ic.2.2).1 c159_33 (getH_miss (x_ic.2.2).1 c161_41 (by simp [getH])))) hZ (hw _ (List.mem_of_getElem? (i := 34) rfl)) (hw _ (List.mem_of_getElem? (i := 3) rfl)) (by decide) (by decide)) q44a q44c (g := (mkF m 171 #[.val (.int p1), .val (.int p2), .val (.int p3), .val (.int p4), .val (.int p5), .val (.int p6), .val (.int w1), .val (.int ((3 : Int32) * w1)), .val (.int ia), .val (.int ib), .val (.int ic), .val (.ref b5), .val (.int (0 : Int32)), .val (.int (1 : Int32)), .val (.int (2 : Int32)), .val (.int p5), .val (.int p6), .unset, .unset, .unset] [(.int (ic % w1)), (.int (ic / w1)), (.ref b5)])) rfl (by rw [hml]; rfl) (Steps.refl _) (argsL := [(.int (ic / w1)), (.int (ic % w1))]) (rest := []) (lenOf pd_rm0_3 rfl) rfl (by show 2 * 0 + _ ≤ _; exact Nat.le_of_eq rfl) (hb hby at_171) (fun _ _ => ⟨rfl, hE31, (by decide : 3 + 0 ≤ _), (by decide : 4100 + 0 ≤ _)⟩)
        dsimp only [Pt.U, Pt.locs, Pt.cells, Pt.slots] at X44 l44 y44 z44 st44 hQ44
        subst l44 y44 z44
        obtain ⟨rfl, N44q, hE44⟩ := hQ44
        have N44 := Fr.app N31 N44q
        have pre45 : ∀ tt, Steps p.tables e below (T44.setTop (mkF m 249 #[.val (.int p1), .val (.int p2), .val (.int p3), .val (.int p4), .val (.int p5), .val (.int p6), .val (.int w1), .val (.int ((3 : Int32) * w1)), .val (.int ia), .val (.int ib), .val (.int ic), .val (.ref b5), .val (.int (0 : Int32)), .val (.int (1 : Int32)), .val (.int (2 : Int32)), .val (.int p5), .val (.int p6), .val (.int (0 : Int32)), .val (.int p5), .val (.int (0 : Int32))] [(.int (1 : Int32))])) tt → Steps p.tables e below (s₁.setTop (entryFrame m #[(.int p1), (.int p2), (.int p3), (.int p4), (.int p5), (.int p6)] maxLocals)) tt := by
          intro tt kt
          refine pre40 tt ?_
          show Steps p.tables e below (T31.setTop (mkF m 161 #[.val (.int p1), .val (.int p2), .val (.int p3), .val (.int p4), .val (.int p5), .val (.int p6), .val (.int w1), .val (.int ((3 : Int32) * w1)), .val (.int ia), .val (.int ib), .val (.int ic), .val (.ref b5), .val (.int (0 : Int32)), .val (.int (1 : Int32)), .val (.int (2 : Int32)), .val (.int p5), .val (.int p6), .unset, .unset, .unset] [(.ref b5)])) _
          refine XS.iload X31.here hx rfl (hb hby at_161) rfl ?_
          show Steps p.tables e below (T31.setTop (mkF m 163 #[.val (.int p1), .val (.int p2), .val (.int p3), .val (.int p4), .val (.int p5), .val (.int p6), .val (.int w1), .val (.int ((3 : Int32) * w1)), .val (.int ia), .val (.int ib), .val (.int ic), .val (.ref b5), .val (.int (0 : Int32)), .val (.int (1 : Int32)), .val (.int (2 : Int32)), .val (.int p5), .val (.int p6), .unset, .unset, .unset] [(.int ic), (.ref b5)])) _
          refine XS.iload X31.here hx rfl (hb hby at_163) rfl ?_
          show Steps p.tables e below (T31.setTop (mkF m 165 #[.val (.int p1), .val (.int p2), .val (.int p3), .val (.int p4), .val (.int p5), .val (.int p6), .val (.int w1), .val (.int ((3 : Int32) * w1)), .val (.int ia), .val (.int ib), .val (.int ic), .val (.ref b5), .val (.int (0 : Int32)), .val (.int (1 : Int32)), .val (.int (2 : Int32)), .val (.int p5), .val (.int p6), .unset, .unset, .unset] [(.int w1), (.int ic), (.ref b5)])) _
          refine XS.idiv X31.here hx rfl (hb hby at_165) rfl hwne ?_
          show Steps p.tables e below (T31.setTop (mkF m 166 #[.val (.int p1), .val (.int p2), .val (.int p3), .val (.int p4), .val (.int p5), .val (.int p6), .val (.int w1), .val (.int ((3 : Int32) * w1)), .val (.int ia), .val (.int ib), .val (.int ic), .val (.ref b5), .val (.int (0 : Int32)), .val (.int (1 : Int32)), .val (.int (2 : Int32)), .val (.int p5), .val (.int p6), .unset, .unset, .unset] [(.int (ic / w1)), (.ref b5)])) _
          refine XS.iload X31.here hx rfl (hb hby at_166) rfl ?_
          show Steps p.tables e below (T31.setTop (mkF m 168 #[.val (.int p1), .val (.int p2), .val (.int p3), .val (.int p4), .val (.int p5), .val (.int p6), .val (.int w1), .val (.int ((3 : Int32) * w1)), .val (.int ia), .val (.int ib), .val (.int ic), .val (.ref b5), .val (.int (0 : Int32)), .val (.int (1 : Int32)), .val (.int (2 : Int32)), .val (.int p5), .val (.int p6), .unset, .unset, .unset] [(.int ic), (.int (ic / w1)), (.ref b5)])) _
          refine XS.iload X31.here hx rfl (hb hby at_168) rfl ?_
          show Steps p.tables e below (T31.setTop (mkF m 170 #[.val (.int p1), .val (.int p2), .val (.int p3), .val (.int p4), .val (.int p5), .val (.int p6), .val (.int w1), .val (.int ((3 : Int32) * w1)), .val (.int ia), .val (.int ib), .val (.int ic), .val (.ref b5), .val (.int (0 : Int32)), .val (.int (1 : Int32)), .val (.int (2 : Int32)), .val (.int p5), .val (.int p6), .unset, .unset, .unset] [(.int w1), (.int ic), (.int (ic / w1)), (.ref b5)])) _
          refine iremM (g := (mkF m 170 #[.val (.int p1), .val (.int p2), .val (.int p3), .val (.int p4), .val (.int p5), .val (.int p6), .val (.int w1), .val (.int ((3 : Int32) * w1)), .val (.int ia), .val (.int ib), .val (.int ic), .val (.ref b5), .val (.int (0 : Int32)), .val (.int (1 : Int32)), .val (.int (2 : Int32)), .val (.int p5), .val (.int p6), .unset, .unset, .unset] [(.int w1), (.int ic), (.int (ic / w1)), (.ref b5)])) X31 hx rfl (hb hby at_170) rfl hwne ?_
          show Steps p.tables e below (T31.setTop (mkF m 171 #[.val (.int p1), .val (.int p2), .val (.int p3), .val (.int p4), .val (.int p5), .val (.int p6), .val (.int w1), .val (.int ((3 : Int32) * w1)), .val (.int ia), .val (.int ib), .val (.int ic), .val (.ref b5), .val (.int (0 : Int32)), .val (.int (1 : Int32)), .val (.int (2 : Int32)), .val (.int p5), .val (.int p6), .unset, .unset, .unset] [(.int (ic % w1)), (.int (ic / w1)), (.ref b5)])) _
          refine st44.trans ?_
          show Steps p.tables e below (T44.setTop (mkF m 174 #[.val (.int p1), .val (.int p2), .val (.int p3), .val (.int p4), .val (.int p5), .val (.int p6), .val (.int w1), .val (.int ((3 : Int32) * w1)), .val (.int ia), .val (.int ib), .val (.int ic), .val (.ref b5), .val (.int (0 : Int32)), .val (.int (1 : Int32)), .val (.int (2 : Int32)), .val (.int p5), .val (.int p6), .unset, .unset, .unset] [(.int (0 : Int32))])) _
          refine XS.istore X44.here hx rfl (hb hby at_174) rfl (l' := #[.val (.int p1), .val (.int p2), .val (.int p3), .val (.int p4), .val (.int p5), .val (.int p6), .val (.int w1), .val (.int ((3 : Int32) * w1)), .val (.int ia), .val (.int ib), .val (.int ic), .val (.ref b5), .val (.int (0 : Int32)), .val (.int (1 : Int32)), .val (.int (2 : Int32)), .val (.int p5), .val (.int p6), .val (.int (0 : Int32)), .unset, .unset]) rfl ?_
          show Steps p.tables e below (T44.setTop (mkF m 176 #[.val (.int p1), .val (.int p2), .val (.int p3), .val (.int p4), .val (.int p5), .val (.int p6), .val (.int w1), .val (.int ((3 : Int32) * w1)), .val (.int ia), .val (.int ib), .val (.int ic), .val (.ref b5), .val (.int (0 : Int32)), .val (.int (1 : Int32)), .val (.int (2 : Int32)), .val (.int p5), .val (.int p6), .val (.int (0 : Int32)), .unset, .unset] [])) _
          refine XS.iload X44.here hx rfl (hb hby at_176) rfl ?_
          show Steps p.tables e below (T44.setTop (mkF m 178 #[.val (.int p1), .val (.int p2), .val (.int p3), .val (.int p4), .val (.int p5), .val (.int p6), .val (.int w1), .val (.int ((3 : Int32) * w1)), .val (.int ia), .val (.int ib), .val (.int ic), .val (.ref b5), .val (.int (0 : Int32)), .val (.int (1 : Int32)), .val (.int (2 : Int32)), .val (.int p5), .val (.int p6), .val (.int (0 : Int32)), .unset, .unset] [(.int ia)])) _
          refine XS.iload X44.here hx rfl (hb hby at_178) rfl ?_
          show Steps p.tables e below (T44.setTop (mkF m 180 #[.val (.int p1), .val (.int p2), .val (.int p3), .val (.int p4), .val (.int p5), .val (.int p6), .val (.int w1), .val (.int ((3 : Int32) * w1)), .val (.int ia), .val (.int ib), .val (.int ic), .val (.ref b5), .val (.int (0 : Int32)), .val (.int (1 : Int32)), .val (.int (2 : Int32)), .val (.int p5), .val (.int p6), .val (.int (0 : Int32)), .unset, .unset] [(.int ib), (.int ia)])) _
          refine XS.icmpYes X44.here hx rfl (pc0 := 180) (pc' := 188) rfl (hb hby at_180) rfl (feq c125_13).2 (by decide) (by decide) ?_
          show Steps p.tables e below (T44.setTop (mkF m 188 #[.val (.int p1), .val (.int p2), .val (.int p3), .val (.int p4), .val (.int p5), .val (.int p6), .val (.int w1), .val (.int ((3 : Int32) * w1)), .val (.int ia), .val (.int ib), .val (.int ic), .val (.ref b5), .val (.int (0 : Int32)), .val (.int (1 : Int32)), .val (.int (2 : Int32)), .val (.int p5), .val (.int p6), .val (.int (0 : Int32)), .unset, .unset] [])) _
          refine XS.iload X44.here hx rfl (hb hby at_188) rfl ?_
          show Steps p.tables e below (T44.setTop (mkF m 190 #[.val (.int p1), .val (.int p2), .val (.int p3), .val (.int p4), .val (.int p5), .val (.int p6), .val (.int w1), .val (.int ((3 : Int32) * w1)), .val (.int ia), .val (.int ib), .val (.int ic), .val (.ref b5), .val (.int (0 : Int32)), .val (.int (1 : Int32)), .val (.int (2 : Int32)), .val (.int p5), .val (.int p6), .val (.int (0 : Int32)), .unset, .unset] [(.int p5)])) _
          refine XS.istore X44.here hx rfl (hb hby at_190) rfl (l' := #[.val (.int p1), .val (.int p2), .val (.int p3), .val (.int p4), .val (.int p5), .val (.int p6), .val (.int w1), .val (.int ((3 : Int32) * w1)), .val (.int ia), .val (.int ib), .val (.int ic), .val (.ref b5), .val (.int (0 : Int32)), .val (.int (1 : Int32)), .val (.int (2 : Int32)), .val (.int p5), .val (.int p6), .val (.int (0 : Int32)), .val (.int p5), .unset]) rfl ?_
          show Steps p.tables e below (T44.setTop (mkF m 192 #[.val (.int p1), .val (.int p2), .val (.int p3), .val (.int p4), .val (.int p5), .val (.int p6), .val (.int w1), .val (.int ((3 : Int32) * w1)), .val (.int ia), .val (.int ib), .val (.int ic), .val (.ref b5), .val (.int (0 : Int32)), .val (.int (1 : Int32)), .val (.int (2 : Int32)), .val (.int p5), .val (.int p6), .val (.int (0 : Int32)), .val (.int p5), .unset] [])) _
          refine XS.iload X44.here hx rfl (hb hby at_192) rfl ?_
          show Steps p.tables e below (T44.setTop (mkF m 194 #[.val (.int p1), .val (.int p2), .val (.int p3), .val (.int p4), .val (.int p5), .val (.int p6), .val (.int w1), .val (.int ((3 : Int32) * w1)), .val (.int ia), .val (.int ib), .val (.int ic), .val (.ref b5), .val (.int (0 : Int32)), .val (.int (1 : Int32)), .val (.int (2 : Int32)), .val (.int p5), .val (.int p6), .val (.int (0 : Int32)), .val (.int p5), .unset] [(.int ic)])) _
          refine XS.iload X44.here hx rfl (hb hby at_194) rfl ?_
          show Steps p.tables e below (T44.setTop (mkF m 196 #[.val (.int p1), .val (.int p2), .val (.int p3), .val (.int p4), .val (.int p5), .val (.int p6), .val (.int w1), .val (.int ((3 : Int32) * w1)), .val (.int ia), .val (.int ib), .val (.int ic), .val (.ref b5), .val (.int (0 : Int32)), .val (.int (1 : Int32)), .val (.int (2 : Int32)), .val (.int p5), .val (.int p6), .val (.int (0 : Int32)), .val (.int p5), .unset] [(.int ib), (.int ic)])) _
          refine XS.icmpYes X44.here hx rfl (pc0 := 196) (pc' := 206) rfl (hb hby at_196) rfl (feq c159_33).2 (by decide) (by decide) ?_
          show Steps p.tables e below (T44.setTop (mkF m 206 #[.val (.int p1), .val (.int p2), .val (.int p3), .val (.int p4), .val (.int p5), .val (.int p6), .val (.int w1), .val (.int ((3 : Int32) * w1)), .val (.int ia), .val (.int ib), .val (.int ic), .val (.ref b5), .val (.int (0 : Int32)), .val (.int (1 : Int32)), .val (.int (2 : Int32)), .val (.int p5), .val (.int p6), .val (.int (0 : Int32)), .val (.int p5), .unset] [])) _
          refine XS.iload X44.here hx rfl (hb hby at_206) rfl ?_
          show Steps p.tables e below (T44.setTop (mkF m 208 #[.val (.int p1), .val (.int p2), .val (.int p3), .val (.int p4), .val (.int p5), .val (.int p6), .val (.int w1), .val (.int ((3 : Int32) * w1)), .val (.int ia), .val (.int ib), .val (.int ic), .val (.ref b5), .val (.int (0 : Int32)), .val (.int (1 : Int32)), .val (.int (2 : Int32)), .val (.int p5), .val (.int p6), .val (.int (0 : Int32)), .val (.int p5), .unset] [(.int ic)])) _
          refine XS.iload X44.here hx rfl (hb hby at_208) rfl ?_
          show Steps p.tables e below (T44.setTop (mkF m 210 #[.val (.int p1), .val (.int p2), .val (.int p3), .val (.int p4), .val (.int p5), .val (.int p6), .val (.int w1), .val (.int ((3 : Int32) * w1)), .val (.int ia), .val (.int ib), .val (.int ic), .val (.ref b5), .val (.int (0 : Int32)), .val (.int (1 : Int32)), .val (.int (2 : Int32)), .val (.int p5), .val (.int p6), .val (.int (0 : Int32)), .val (.int p5), .unset] [(.int ia), (.int ic)])) _
          refine XS.icmpYes X44.here hx rfl (pc0 := 210) (pc' := 220) rfl (hb hby at_210) rfl (feq c161_41).2 (by decide) (by decide) ?_
          show Steps p.tables e below (T44.setTop (mkF m 220 #[.val (.int p1), .val (.int p2), .val (.int p3), .val (.int p4), .val (.int p5), .val (.int p6), .val (.int w1), .val (.int ((3 : Int32) * w1)), .val (.int ia), .val (.int ib), .val (.int ic), .val (.ref b5), .val (.int (0 : Int32)), .val (.int (1 : Int32)), .val (.int (2 : Int32)), .val (.int p5), .val (.int p6), .val (.int (0 : Int32)), .val (.int p5), .unset] [])) _
          refine XS.iconst X44.here hx rfl (hb hby at_220) ?_
          show Steps p.tables e below (T44.setTop (mkF m 221 #[.val (.int p1), .val (.int p2), .val (.int p3), .val (.int p4), .val (.int p5), .val (.int p6), .val (.int w1), .val (.int ((3 : Int32) * w1)), .val (.int ia), .val (.int ib), .val (.int ic), .val (.ref b5), .val (.int (0 : Int32)), .val (.int (1 : Int32)), .val (.int (2 : Int32)), .val (.int p5), .val (.int p6), .val (.int (0 : Int32)), .val (.int p5), .unset] [(.int (0 : Int32))])) _
          refine XS.istore X44.here hx rfl (hb hby at_221) rfl (l' := #[.val (.int p1), .val (.int p2), .val (.int p3), .val (.int p4), .val (.int p5), .val (.int p6), .val (.int w1), .val (.int ((3 : Int32) * w1)), .val (.int ia), .val (.int ib), .val (.int ic), .val (.ref b5), .val (.int (0 : Int32)), .val (.int (1 : Int32)), .val (.int (2 : Int32)), .val (.int p5), .val (.int p6), .val (.int (0 : Int32)), .val (.int p5), .val (.int (0 : Int32))]) rfl ?_
          show Steps p.tables e below (T44.setTop (mkF m 223 #[.val (.int p1), .val (.int p2), .val (.int p3), .val (.int p4), .val (.int p5), .val (.int p6), .val (.int w1), .val (.int ((3 : Int32) * w1)), .val (.int ia), .val (.int ib), .val (.int ic), .val (.ref b5), .val (.int (0 : Int32)), .val (.int (1 : Int32)), .val (.int (2 : Int32)), .val (.int p5), .val (.int p6), .val (.int (0 : Int32)), .val (.int p5), .val (.int (0 : Int32))] [])) _
          refine XS.iload X44.here hx rfl (hb hby at_223) rfl ?_
          show Steps p.tables e below (T44.setTop (mkF m 225 #[.val (.int p1), .val (.int p2), .val (.int p3), .val (.int p4), .val (.int p5), .val (.int p6), .val (.int w1), .val (.int ((3 : Int32) * w1)), .val (.int ia), .val (.int ib), .val (.int ic), .val (.ref b5), .val (.int (0 : Int32)), .val (.int (1 : Int32)), .val (.int (2 : Int32)), .val (.int p5), .val (.int p6), .val (.int (0 : Int32)), .val (.int p5), .val (.int (0 : Int32))] [(.int p5)])) _
          refine XS.iload X44.here hx rfl (hb hby at_225) rfl ?_
          show Steps p.tables e below (T44.setTop (mkF m 227 #[.val (.int p1), .val (.int p2), .val (.int p3), .val (.int p4), .val (.int p5), .val (.int p6), .val (.int w1), .val (.int ((3 : Int32) * w1)), .val (.int ia), .val (.int ib), .val (.int ic), .val (.ref b5), .val (.int (0 : Int32)), .val (.int (1 : Int32)), .val (.int (2 : Int32)), .val (.int p5), .val (.int p6), .val (.int (0 : Int32)), .val (.int p5), .val (.int (0 : Int32))] [(.int p5), (.int p5)])) _
          refine XS.icmpNo X44.here hx rfl (hb hby at_227) rfl (teq (rfl : p5 = p5)).2 ?_
          show Steps p.tables e below (T44.setTop (mkF m 230 #[.val (.int p1), .val (.int p2), .val (.int p3), .val (.int p4), .val (.int p5), .val (.int p6), .val (.int w1), .val (.int ((3 : Int32) * w1)), .val (.int ia), .val (.int ib), .val (.int ic), .val (.ref b5), .val (.int (0 : Int32)), .val (.int (1 : Int32)), .val (.int (2 : Int32)), .val (.int p5), .val (.int p6), .val (.int (0 : Int32)), .val (.int p5), .val (.int (0 : Int32))] [])) _
          refine XS.iload X44.here hx rfl (hb hby at_230) rfl ?_
          show Steps p.tables e below (T44.setTop (mkF m 232 #[.val (.int p1), .val (.int p2), .val (.int p3), .val (.int p4), .val (.int p5), .val (.int p6), .val (.int w1), .val (.int ((3 : Int32) * w1)), .val (.int ia), .val (.int ib), .val (.int ic), .val (.ref b5), .val (.int (0 : Int32)), .val (.int (1 : Int32)), .val (.int (2 : Int32)), .val (.int p5), .val (.int p6), .val (.int (0 : Int32)), .val (.int p5), .val (.int (0 : Int32))] [(.int p6)])) _
          refine XS.iload X44.here hx rfl (hb hby at_232) rfl ?_
          show Steps p.tables e below (T44.setTop (mkF m 234 #[.val (.int p1), .val (.int p2), .val (.int p3), .val (.int p4), .val (.int p5), .val (.int p6), .val (.int w1), .val (.int ((3 : Int32) * w1)), .val (.int ia), .val (.int ib), .val (.int ic), .val (.ref b5), .val (.int (0 : Int32)), .val (.int (1 : Int32)), .val (.int (2 : Int32)), .val (.int p5), .val (.int p6), .val (.int (0 : Int32)), .val (.int p5), .val (.int (0 : Int32))] [(.int p6), (.int p6)])) _
          refine XS.icmpNo X44.here hx rfl (hb hby at_234) rfl (teq (rfl : p6 = p6)).2 ?_
          show Steps p.tables e below (T44.setTop (mkF m 237 #[.val (.int p1), .val (.int p2), .val (.int p3), .val (.int p4), .val (.int p5), .val (.int p6), .val (.int w1), .val (.int ((3 : Int32) * w1)), .val (.int ia), .val (.int ib), .val (.int ic), .val (.ref b5), .val (.int (0 : Int32)), .val (.int (1 : Int32)), .val (.int (2 : Int32)), .val (.int p5), .val (.int p6), .val (.int (0 : Int32)), .val (.int p5), .val (.int (0 : Int32))] [])) _
          refine XS.iload X44.here hx rfl (hb hby at_237) rfl ?_
          show Steps p.tables e below (T44.setTop (mkF m 239 #[.val (.int p1), .val (.int p2), .val (.int p3), .val (.int p4), .val (.int p5), .val (.int p6), .val (.int w1), .val (.int ((3 : Int32) * w1)), .val (.int ia), .val (.int ib), .val (.int ic), .val (.ref b5), .val (.int (0 : Int32)), .val (.int (1 : Int32)), .val (.int (2 : Int32)), .val (.int p5), .val (.int p6), .val (.int (0 : Int32)), .val (.int p5), .val (.int (0 : Int32))] [(.int (0 : Int32))])) _
          refine XS.iload X44.here hx rfl (hb hby at_239) rfl ?_
          show Steps p.tables e below (T44.setTop (mkF m 241 #[.val (.int p1), .val (.int p2), .val (.int p3), .val (.int p4), .val (.int p5), .val (.int p6), .val (.int w1), .val (.int ((3 : Int32) * w1)), .val (.int ia), .val (.int ib), .val (.int ic), .val (.ref b5), .val (.int (0 : Int32)), .val (.int (1 : Int32)), .val (.int (2 : Int32)), .val (.int p5), .val (.int p6), .val (.int (0 : Int32)), .val (.int p5), .val (.int (0 : Int32))] [(.int (0 : Int32)), (.int (0 : Int32))])) _
          refine XS.icmpNo X44.here hx rfl (hb hby at_241) rfl (teq (rfl : (0 : Int32) = (0 : Int32))).2 ?_
          show Steps p.tables e below (T44.setTop (mkF m 244 #[.val (.int p1), .val (.int p2), .val (.int p3), .val (.int p4), .val (.int p5), .val (.int p6), .val (.int w1), .val (.int ((3 : Int32) * w1)), .val (.int ia), .val (.int ib), .val (.int ic), .val (.ref b5), .val (.int (0 : Int32)), .val (.int (1 : Int32)), .val (.int (2 : Int32)), .val (.int p5), .val (.int p6), .val (.int (0 : Int32)), .val (.int p5), .val (.int (0 : Int32))] [])) _
          refine XS.iconst X44.here hx rfl (hb hby at_244) ?_
          show Steps p.tables e below (T44.setTop (mkF m 245 #[.val (.int p1), .val (.int p2), .val (.int p3), .val (.int p4), .val (.int p5), .val (.int p6), .val (.int w1), .val (.int ((3 : Int32) * w1)), .val (.int ia), .val (.int ib), .val (.int ic), .val (.ref b5), .val (.int (0 : Int32)), .val (.int (1 : Int32)), .val (.int (2 : Int32)), .val (.int p5), .val (.int p6), .val (.int (0 : Int32)), .val (.int p5), .val (.int (0 : Int32))] [(.int (1 : Int32))])) _
          refine XS.goto X44.here hx rfl (pc0 := 245) (pc' := 249) rfl (hb hby at_245) (by decide) (by decide) ?_
          exact kt
        obtain ⟨fs, hr, hrun, hended, hW, hsame⟩ := X44.leave (v := some (.int (1 : Int32))) (fun h => by rw [Bd.returns] at h; cases h)
        refine ⟨_, _, pre45 _ ?_, hrun, hended, _, _, rfl, ?_, ⟨_, rfl⟩, hW, hsame.mono (by decide) (by decide)⟩
        · show Steps p.tables e below (T44.setTop (mkF m 249 #[.val (.int p1), .val (.int p2), .val (.int p3), .val (.int p4), .val (.int p5), .val (.int p6), .val (.int w1), .val (.int ((3 : Int32) * w1)), .val (.int ia), .val (.int ib), .val (.int ic), .val (.ref b5), .val (.int (0 : Int32)), .val (.int (1 : Int32)), .val (.int (2 : Int32)), .val (.int p5), .val (.int p6), .val (.int (0 : Int32)), .val (.int p5), .val (.int (0 : Int32))] [(.int (1 : Int32))])) _
          exact retN X44 hx (t := .boolean) Bd.returns (by simp) (hb hby at_249) hr
        · show Q0 Z h0 n0 _ T44.heap _
          rw [hE44]
          exact ⟨rfl, N44⟩
set_option maxRecDepth 65536 in
set_option maxHeartbeats 40000000 in
theorem comes_1 {Post : Tables → Env → Array Value → State → Outcome → State → Prop} (hpost : ∀ tb e args s v u, (limb_1_1.after args s (.returned v) u = true ∧ limb_1_2.after args s (.returned v) u = true ∧ True) → FrameEnd s (.returned v) u (Jvm.fieldLocs frame_1_writes args s ++ Jvm.arrayLocs frame_1_arrays args s ++ Jvm.staticLocs frame_1_statics s) 16 8320 → Post tb e args s (.returned v) u) :
    ArmFor flags0 classFile x code maxLocals ret World_1 tables_1 room_1 Calls_1 rest_1 Pre_1 Post := by
  intro l hfl _ _ p e ha hc hk s m args below hf hA hF happ hP
  obtain ⟨hcalls, hrest, hpre⟩ := hP
  obtain ⟨-, -, -, hnamed, -, -, -, hat⟩ := (Spec.applies_iff hf).mp happ
  obtain ⟨hg, hn⟩ := and_e (Cond.before_iff.mp (show (Jvm.Cond.and given_1 narrow_1).before args s = true from hpre))
  have hw := fun d (hd : d ∈ tables_1) => atoms_spec (ws := Jvm.Cond.code x code maxLocals ret :: tables_1) hat d (List.mem_cons_of_mem _ hd)
  obtain ⟨g1a, g1b⟩ := and_e hg
  obtain ⟨g2a, g2b⟩ := and_e g1b
  obtain ⟨g3a, g3b⟩ := and_e g2b
  obtain ⟨g4a, g4b⟩ := and_e g3b
  obtain ⟨g5a, g5b⟩ := and_e g4b
  obtain ⟨g6a, g6b⟩ := and_e g5b
  obtain ⟨w0, w1, w2, w3, w4, w5, rfl⟩ : ∃ w0 w1 w2 w3 w4 w5 : Value, args = #[w0, w1, w2, w3, w4, w5] := by
    have hs : args.size = 6 := by simpa [Cond.value, given_1] using g1a
    obtain ⟨L⟩ := args
    match L, hs with
    | [w0, w1, w2, w3, w4, w5], _ => exact ⟨w0, w1, w2, w3, w4, w5, rfl⟩
  have hfit : Fit s := fun {y c} hc i hi => by
    obtain ⟨ha, rfl⟩ := Array.getElem?_eq_some_iff.mp hc
    have q := List.all_eq_true.mp ((Array.all_eq_true_iff_forall_mem.mp hF) _ (Array.getElem_mem ha)) i (List.mem_range.mpr hi)
    simpa [Array.getElem?_eq_getElem hi] using q
  obtain ⟨i0, ei0⟩ := is_v g2a
  obtain rfl : w0 = (.int i0) := Option.some.inj ei0
  obtain ⟨i1, ei1⟩ := is_v g3a
  obtain rfl : w1 = (.int i1) := Option.some.inj ei1
  obtain ⟨i2, ei2⟩ := is_v g4a
  obtain rfl : w2 = (.int i2) := Option.some.inj ei2
  obtain ⟨i3, ei3⟩ := is_v g5a
  obtain rfl : w3 = (.int i3) := Option.some.inj ei3
  obtain ⟨i4, ei4⟩ := is_v g6a
  obtain rfl : w4 = (.int i4) := Option.some.inj ei4
  obtain ⟨i5, ei5⟩ := is_v g6b
  obtain rfl : w5 = (.int i5) := Option.some.inj ei5
  obtain ⟨n, o, h1, h2, h3, _, L, rfl, ⟨rfl, N⟩, hq⟩ := rm0 l s _ hw tables_1 i0 i1 i2 i3 i4 i5  s.heap s.heap.size (Nat.le_refl _)  p e ha hc hk s m _ below hf ((Spec.applies_iff_loose hf).mp happ).1 ⟨rfl, State.Warmed39.refl s, rfl⟩ trivial
  refine ⟨n, _, h1, h2, h3, hpost _ _ _ _ _ _ ⟨Cond.after_iff.mpr rfl, Cond.after_iff.mpr (eq_i res_at (Term.int_eval (1)) rfl), trivial⟩ ⟨hq.1, hq.2.1, (hq.2.2.sift fun y hy => Or.inr (N y hy)).mono (by decide) (by decide)⟩⟩
theorem main_1_1 : Claimed_1_1 := comes_1 fun _ _ _ _ _ _ h hF => ⟨h.1, hF⟩
theorem main_1_2 : Claimed_1_2 := comes_1 fun _ _ _ _ _ _ h hF => ⟨h.2.1, hF⟩
end Jvm.Pilot.@@N@@
namespace Jvm.Pilot.@@N@@
open Jvm Jvm.ClassFile Sem Op Lib Jvm.Free Jvm.Stand Jvm.Pilot.@@N@@.Jvm.D
/-! MADE BY PROGRAM (witnessworld.py) out of the Statement's table words and the real class files: 9 classes; the members and pool entries that the words name. The judged class is class 1, her method 1. -/
namespace start1
open Jvm.ClassFile
def u (s : String) : CpInfo := .utf8 (stringToUtf16 s)
/-- a pool by its gaps: so many unusable entries, then the entry; so many at the end -/
def gap : Nat → List CpInfo → List CpInfo
  | 0, r => r
  | n + 1, r => .unusable :: gap n r
def poolList (es : List (Nat × CpInfo)) (last : Nat) : List CpInfo := es.foldr (fun e r => gap e.1 (e.2 :: r)) (gap last [])
def pool (es : List (Nat × CpInfo)) (last : Nat) : Array CpInfo := ⟨poolList es last⟩
def fileOf (pool : Array CpInfo) (this : Nat) (attrs : Array Attribute := #[]) (ms : Array MethodInfo := #[]) (fl : Nat := 33) (sup : Nat := 0) (ifs : Array Nat := #[]) (fds : Array FieldInfo := #[]) : ClassFile where
  minorVersion := 0
  majorVersion := 65
  constantPool := pool
  accessFlags := fl
  thisClass := this
  superClass := sup
  interfaces := ifs
  fields := fds
  methods := ms
  attributes := attrs
def plain (name : String) (sup : Option ClassId) : Class where
  name := name
  kind := .ordinary
  loader := none
  accessFlags := 33
  super := sup
  interfaces := #[]
  cf := none
  fields := #[]
  methods := #[]
  instanceTypes := #[]
  staticTypes := #[]
  resolved := #[]
  callSites := []
  init := .initialized
  statics := none
  mirror := none

def pool0 : Array CpInfo := pool [(5, u "<init>"), (0, u "()V"), (1, .class_ 10), (1, u "java/lang/Object")] 113

def k0c0 : Code := { maxStack := 0, maxLocals := 1, code := object_method_1_code, exceptionTable := #[], attributes := #[] }
def k0m0 : Method := { name := "<init>", desc := "()V", sig := { parameters := [], returnType := none }, accessFlags := 1, code := some k0c0 }
/-- java/lang/Object -/
def k0 : Class := { plain "java/lang/Object" none with
  accessFlags := 33
  interfaces := #[]
  cf := some (fileOf pool0 8 #[] #[{ accessFlags := 1, nameIndex := 5, descriptorIndex := 6, attributes := #[] }] 33 0 #[] #[])
  fields := #[]
  methods := #[k0m0]
  instanceTypes := #[]
  staticTypes := #[]
  resolved := Array.replicate 124 none
  statics := none }

def pool1 : Array CpInfo := pool [(2, .class_ 4), (1, u "java/lang/Object"), (0, u "<init>"), (0, u "()V"), (0, .integer 2147483647), (0, .class_ 9), (0, u "com/example/muniment_room/munimentroom/categorizer/Columns"), (0, .methodref 8 11), (0, .nameAndType 5 12), (0, u "(I)V"), (0, .methodref 8 14), (0, .nameAndType 15 16), (0, u "add"), (0, u "()I"), (0, .methodref 8 18), (0, .nameAndType 19 20), (0, u "set"), (0, u "(III)V"), (0, .methodref 8 22), (0, .nameAndType 23 24), (0, u "get"), (0, u "(II)I"), (0, .class_ 26), (0, u "com/example/muniment_room/munimentroom/categorizer/ColumnsGetPinLaw"), (2, u "law"), (0, u "(IIIIII)Z")] 3

def k1m0 : Method := { name := "<init>", desc := "()V", sig := { parameters := [], returnType := none }, accessFlags := 1, code := none }
def k1c1 : Code := { maxStack := 4, maxLocals := 20, code := code, exceptionTable := #[], attributes := #[] }
def k1m1 : Method := { name := "law", desc := "(IIIIII)Z", sig := { parameters := [.int, .int, .int, .int, .int, .int], returnType := some .boolean }, accessFlags := 9, code := some k1c1 }
/-- com/example/muniment_room/munimentroom/categorizer/ColumnsGetPinLaw -/
def k1 : Class := { plain "com/example/muniment_room/munimentroom/categorizer/ColumnsGetPinLaw" (some 0) with
  accessFlags := 49
  interfaces := #[]
  cf := some (fileOf pool1 25 #[] #[{ accessFlags := 1, nameIndex := 5, descriptorIndex := 6, attributes := #[] }, { accessFlags := 9, nameIndex := 29, descriptorIndex := 30, attributes := #[] }] 49 2 #[] #[])
  fields := #[]
  methods := #[k1m0, k1m1]
  instanceTypes := #[]
  staticTypes := #[]
  resolved := Array.replicate 34 none
  statics := none }

def pool2 : Array CpInfo := pool [(1, .class_ 2), (0, u "com/example/muniment_room/munimentroom/categorizer/Columns"), (0, .methodref 4 5), (0, .class_ 6), (0, .nameAndType 7 8), (0, u "java/lang/Object"), (0, u "<init>"), (0, u "()V"), (0, .class_ 10), (0, u "[I"), (0, .fieldref 1 12), (0, .nameAndType 13 14), (0, u "blocks"), (0, u "[[I"), (0, .fieldref 1 16), (0, .nameAndType 17 18), (0, u "width"), (0, u "I"), (0, .fieldref 1 20), (0, .nameAndType 21 18), (0, u "rows"), (7, u "BLOCK_BITS"), (2, u "BLOCK_ROWS"), (1, u "(I)V"), (2, u "()I"), (0, u "add"), (1, u "get"), (0, u "(II)I"), (0, u "set"), (0, u "(III)V")] 2

def k2c0 : Code := { maxStack := 2, maxLocals := 2, code := prog_8_method_1_code, exceptionTable := #[], attributes := #[] }
def k2m0 : Method := { name := "<init>", desc := "(I)V", sig := { parameters := [.int], returnType := none }, accessFlags := 0, code := some k2c0 }
def k2c1 : Code := { maxStack := 4, maxLocals := 2, code := prog_8_method_3_code, exceptionTable := #[], attributes := #[] }
def k2m1 : Method := { name := "add", desc := "()I", sig := { parameters := [], returnType := some .int }, accessFlags := 0, code := some k2c1 }
def k2c2 : Code := { maxStack := 3, maxLocals := 3, code := prog_8_method_4_code, exceptionTable := #[], attributes := #[] }
def k2m2 : Method := { name := "get", desc := "(II)I", sig := { parameters := [.int, .int], returnType := some .int }, accessFlags := 0, code := some k2c2 }
def k2c3 : Code := { maxStack := 3, maxLocals := 4, code := prog_8_method_5_code, exceptionTable := #[], attributes := #[] }
def k2m3 : Method := { name := "set", desc := "(III)V", sig := { parameters := [.int, .int, .int], returnType := none }, accessFlags := 0, code := some k2c3 }
/-- com/example/muniment_room/munimentroom/categorizer/Columns -/
def k2 : Class := { plain "com/example/muniment_room/munimentroom/categorizer/Columns" (some 0) with
  accessFlags := 32
  interfaces := #[]
  cf := some (fileOf pool2 1 #[] #[{ accessFlags := 0, nameIndex := 7, descriptorIndex := 34, attributes := #[] }, { accessFlags := 0, nameIndex := 38, descriptorIndex := 37, attributes := #[] }, { accessFlags := 0, nameIndex := 40, descriptorIndex := 41, attributes := #[] }, { accessFlags := 0, nameIndex := 42, descriptorIndex := 43, attributes := #[] }] 32 4 #[] #[{ accessFlags := 26, nameIndex := 29, descriptorIndex := 18, attributes := #[] }, { accessFlags := 26, nameIndex := 32, descriptorIndex := 18, attributes := #[] }, { accessFlags := 18, nameIndex := 17, descriptorIndex := 18, attributes := #[] }, { accessFlags := 2, nameIndex := 13, descriptorIndex := 14, attributes := #[] }, { accessFlags := 2, nameIndex := 21, descriptorIndex := 18, attributes := #[] }])
  fields := #[{ name := "BLOCK_BITS", type := .int, accessFlags := 26, slot := 0, constantValue := 0 }, { name := "BLOCK_ROWS", type := .int, accessFlags := 26, slot := 1, constantValue := 0 }, { name := "width", type := .int, accessFlags := 18, slot := 0, constantValue := 0 }, { name := "blocks", type := (.array (.array .int)), accessFlags := 2, slot := 1, constantValue := 0 }, { name := "rows", type := .int, accessFlags := 2, slot := 2, constantValue := 0 }]
  methods := #[k2m0, k2m1, k2m2, k2m3]
  instanceTypes := #[.int, (.array (.array .int)), .int]
  staticTypes := #[.int, .int]
  resolved := Array.replicate 46 none
  statics := none }

def pool3 : Array CpInfo := pool [(1, u "java/lang/Cloneable"), (0, .class_ 1), (0, u "java/lang/Object"), (0, .class_ 3)] 3

/-- java/lang/Cloneable -/
def k3 : Class := { plain "java/lang/Cloneable" (some 0) with
  accessFlags := 1537
  interfaces := #[]
  cf := some (fileOf pool3 2 #[] #[] 1537 4 #[] #[])
  fields := #[]
  methods := #[]
  instanceTypes := #[]
  staticTypes := #[]
  resolved := Array.replicate 8 none
  statics := none }

def pool4 : Array CpInfo := pool [(1, u "java/io/Serializable"), (0, .class_ 1), (0, u "java/lang/Object"), (0, .class_ 3)] 3

/-- java/io/Serializable -/
def k4 : Class := { plain "java/io/Serializable" (some 0) with
  accessFlags := 1537
  interfaces := #[]
  cf := some (fileOf pool4 2 #[] #[] 1537 4 #[] #[])
  fields := #[]
  methods := #[]
  instanceTypes := #[]
  staticTypes := #[]
  resolved := Array.replicate 8 none
  statics := none }

/-- the primitive byte -/
def k5 : Class := { plain "byte" none with kind := .primitive 'B', accessFlags := 0x411 }
/-- [B -/
def k6 : Class := { plain "[B" (some 0) with kind := .array 5 .byte, interfaces := #[3, 4], accessFlags := 1041 }

/-- the primitive int -/
def k7 : Class := { plain "int" none with kind := .primitive 'I', accessFlags := 0x411 }
/-- [I -/
def k8 : Class := { plain "[I" (some 0) with kind := .array 7 .int, interfaces := #[3, 4], accessFlags := 1041 }

def k9 : Class := { plain "[[I" (some 0) with kind := .array 8 (.array .int), interfaces := #[3, 4], accessFlags := 1041 }
def heap : Heap := #[]
def classes : Array Class := #[k0, k1, k2, k3, k4, k5, k6, k7, k8, k9]
def interned : List (Array UInt16 × Addr) := []
def slotsUsed : Nat := 0
def theMethod : MethodId := ⟨1, 1⟩
def args0 : Array Value := #[.int 1, .int 2, .int 3, .int 4, .int 5, .int 6]
def aboutOver (below : List Frame) : State where
  vm := { classes := classes, interned := interned.toArray }
  heap := heap
  slotsUsed := slotsUsed
  threads := #[{ frames := .invoking theMethod args0 :: below }]
def below0 : List Frame := [.native { method := ⟨0, 0⟩, args := #[] }]
def about1 : State := aboutOver below0
def p0 : Program := .bare "" "" ""
def e0 : Env := launch0.env 0 0 0
theorem w_frames : about1.frames = Frame.invoking theMethod args0 :: below0 := rfl
set_option maxRecDepth 65536 in
theorem w_args : argsFit about1.vm theMethod args0 = true := by decide +kernel
set_option maxRecDepth 65536 in
theorem w_heap : heapFits about1 = true := by decide +kernel
set_option maxRecDepth 65536 in
theorem w_runnable : about1.curStatus? = some .runnable := by decide +kernel
set_option maxRecDepth 65536 in
theorem w_alone : about1.alone = true := by decide +kernel
set_option maxRecDepth 65536 in
theorem w_named : about1.methodNamed? x = some theMethod := by decide +kernel
set_option maxRecDepth 65536 in
theorem w_hears : about1.hears theMethod below0 = true := by decide +kernel
set_option maxRecDepth 65536 in
theorem w_ripe : about1.ripe theMethod args0 below0 = true := by decide +kernel
theorem w_running : about1.status = .running := rfl
set_option maxRecDepth 65536 in
theorem w_room : about1.hasRoom e0.platform room_1 = true :=
  launch0.hasRoom_least _ room_1 (by decide +kernel) (by decide +kernel) (by decide +kernel) (by decide +kernel) (by decide +kernel) (by decide +kernel)
theorem allAtoms_all (ts : List Jvm.Cond) (a : Array Jvm.Value) (st : Jvm.State) : (allAtoms ts).before a st = ts.all (fun c => c.before a st) := by
  induction ts with
  | nil => rfl
  | cons c t ih =>
    show (Jvm.Cond.and c (allAtoms t)).before a st = _
    rw [Jvm.Cond.before_and, ih, List.all_cons]
def words1 : List Jvm.Cond := Jvm.Cond.code x code maxLocals ret :: tables_1
/-- a 'code' word, met by the world's own term for the bytes: nothing is compared byte by byte -/
theorem code_word {y : MethodName} {bytes : ByteArray} {mx : Nat} {rt : Option FieldType} {a : Array Value} {s : State} {m : MethodId} {meth : Method} {c : Code} (h1 : s.methodNamed? y = some m) (h2 : s.vm.method? m = some meth) (h3 : meth.code = some c) (h4 : c.code = bytes)
    (h5 : (c.maxLocals == mx && c.exceptionTable.isEmpty && decide (c.maxStack ≤ mostOperands) && decide (meth.sig.returnType = rt) && !meth.locks && decide (parseMethodDescriptor y.desc = some meth.sig)) = true) : (Jvm.Cond.code y bytes mx rt).before a s = true := by
  simp only [Bool.and_eq_true, beq_iff_eq, Bool.not_eq_true', decide_eq_true_eq] at h5
  obtain ⟨⟨⟨⟨⟨g1, g2⟩, g3⟩, g4⟩, g5⟩, g6⟩ := h5
  simp [Cond.before, Cond.holds, Cond.value, h1, h2, h3, h4, g1, g2, g3, g4, g5, g6]
def isCode : Jvm.Cond → Bool
  | .code _ _ _ _ => true
  | _ => false
theorem all_split {L : List Jvm.Cond} {P : Jvm.Cond → Bool} (h1 : L.all (fun c => isCode c || P c) = true) (h2 : ∀ c ∈ L.filter isCode, P c = true) : L.all P = true := by
  refine List.all_eq_true.mpr fun c hc => ?_
  have h := List.all_eq_true.mp h1 c hc
  rcases Bool.eq_false_or_eq_true (isCode c) with hi | hi
  · exact h2 c (List.mem_filter.mpr ⟨hc, hi⟩)
  · simpa [hi] using h
set_option maxRecDepth 65536 in
theorem w_c0 : (Jvm.Cond.code x code maxLocals ret).before args0 about1 = true := code_word (m := ⟨1, 1⟩) (meth := k1m1) (c := k1c1) (by decide +kernel) rfl rfl rfl (by decide +kernel)
set_option maxRecDepth 65536 in
theorem w_c1 : (Jvm.Cond.code ({ cls := "com/example/muniment_room/munimentroom/categorizer/Columns", name := "<init>", desc := "(I)V" } : Jvm.MethodName) prog_8_method_1_code (2 : Nat) (Option.none : Option Jvm.ClassFile.FieldType)).before args0 about1 = true := code_word (m := ⟨2, 0⟩) (meth := k2m0) (c := k2c0) (by decide +kernel) rfl rfl rfl (by decide +kernel)
set_option maxRecDepth 65536 in
theorem w_c2 : (Jvm.Cond.code ({ cls := "java/lang/Object", name := "<init>", desc := "()V" } : Jvm.MethodName) object_method_1_code (1 : Nat) (Option.none : Option Jvm.ClassFile.FieldType)).before args0 about1 = true := code_word (m := ⟨0, 0⟩) (meth := k0m0) (c := k0c0) (by decide +kernel) rfl rfl rfl (by decide +kernel)
set_option maxRecDepth 65536 in
theorem w_c3 : (Jvm.Cond.code ({ cls := "com/example/muniment_room/munimentroom/categorizer/Columns", name := "add", desc := "()I" } : Jvm.MethodName) prog_8_method_3_code (2 : Nat) (Option.some Jvm.ClassFile.FieldType.int)).before args0 about1 = true := code_word (m := ⟨2, 1⟩) (meth := k2m1) (c := k2c1) (by decide +kernel) rfl rfl rfl (by decide +kernel)
set_option maxRecDepth 65536 in
theorem w_c4 : (Jvm.Cond.code ({ cls := "com/example/muniment_room/munimentroom/categorizer/Columns", name := "set", desc := "(III)V" } : Jvm.MethodName) prog_8_method_5_code (4 : Nat) (Option.none : Option Jvm.ClassFile.FieldType)).before args0 about1 = true := code_word (m := ⟨2, 3⟩) (meth := k2m3) (c := k2c3) (by decide +kernel) rfl rfl rfl (by decide +kernel)
set_option maxRecDepth 65536 in
theorem w_c5 : (Jvm.Cond.code ({ cls := "com/example/muniment_room/munimentroom/categorizer/Columns", name := "get", desc := "(II)I" } : Jvm.MethodName) prog_8_method_4_code (3 : Nat) (Option.some Jvm.ClassFile.FieldType.int)).before args0 about1 = true := code_word (m := ⟨2, 2⟩) (meth := k2m2) (c := k2c2) (by decide +kernel) rfl rfl rfl (by decide +kernel)
def codes1 : List Jvm.Cond := [Jvm.Cond.code x code maxLocals ret, Jvm.Cond.code ({ cls := "com/example/muniment_room/munimentroom/categorizer/Columns", name := "<init>", desc := "(I)V" } : Jvm.MethodName) prog_8_method_1_code (2 : Nat) (Option.none : Option Jvm.ClassFile.FieldType), Jvm.Cond.code ({ cls := "java/lang/Object", name := "<init>", desc := "()V" } : Jvm.MethodName) object_method_1_code (1 : Nat) (Option.none : Option Jvm.ClassFile.FieldType), Jvm.Cond.code ({ cls := "com/example/muniment_room/munimentroom/categorizer/Columns", name := "add", desc := "()I" } : Jvm.MethodName) prog_8_method_3_code (2 : Nat) (Option.some Jvm.ClassFile.FieldType.int), Jvm.Cond.code ({ cls := "com/example/muniment_room/munimentroom/categorizer/Columns", name := "set", desc := "(III)V" } : Jvm.MethodName) prog_8_method_5_code (4 : Nat) (Option.none : Option Jvm.ClassFile.FieldType), Jvm.Cond.code ({ cls := "com/example/muniment_room/munimentroom/categorizer/Columns", name := "get", desc := "(II)I" } : Jvm.MethodName) prog_8_method_4_code (3 : Nat) (Option.some Jvm.ClassFile.FieldType.int)]
set_option maxRecDepth 65536 in
theorem codes_eq : words1.filter isCode = codes1 := rfl
theorem w_codes : ∀ c ∈ words1.filter isCode, c.before args0 about1 = true := by
  rw [codes_eq]
  intro c hc
  simp only [codes1, List.mem_cons, List.not_mem_nil, or_false] at hc
  rcases hc with rfl | rfl | rfl | rfl | rfl | rfl
  · exact w_c0
  · exact w_c1
  · exact w_c2
  · exact w_c3
  · exact w_c4
  · exact w_c5
set_option maxRecDepth 65536 in
theorem w_t1 : (words1.take 24).all (fun c => isCode c || c.before args0 about1) = true := by decide +kernel
set_option maxRecDepth 65536 in
theorem w_t2 : (words1.drop 24).all (fun c => isCode c || c.before args0 about1) = true := by decide +kernel
theorem w_tables : (allAtoms (Jvm.Cond.code x code maxLocals ret :: tables_1)).before args0 about1 = true := by
  rw [allAtoms_all]
  show words1.all (fun c => c.before args0 about1) = true
  refine all_split ?_ w_codes
  rw [← List.take_append_drop 24 words1, List.all_append, w_t1, w_t2]
  rfl
set_option maxRecDepth 65536 in
theorem w_case : (Jvm.Cond.and given_1 narrow_1).before args0 about1 = true := by decide +kernel
theorem w_applies : (headSpec (Jvm.Cond.code x code maxLocals ret :: tables_1) room_1).applies x e0.platform about1 = true :=
  (Spec.applies_iff w_frames).mpr ⟨w_running, w_runnable, w_alone, w_named, w_hears, w_ripe, w_room, w_tables⟩
theorem atStart : AtStart classFile x code maxLocals ret World_1 tables_1 room_1 Calls_1 rest_1 Pre_1 launch0 p0 e0 about1 theMethod args0 below0 :=
  ⟨lists_1, trivial, launch0.admits_env _ _ _, launch0.least_env, fairChoices_fair.cas, fairChoices_fair.clock, w_frames, w_args, w_heap, w_applies, trivial, trivial, w_case⟩
end start1
theorem witness_1 : WitnessClaimed_1 := ⟨start1.p0, start1.e0, start1.about1, start1.theMethod, start1.args0, start1.below0, start1.atStart⟩
end Jvm.Pilot.@@N@@
