import JvmDerived
import JvmDerived.Pilot.@@N@@Statement
import JvmDerived.Pilot.@@N@@Code
set_option linter.unusedVariables false
set_option linter.unusedSimpArgs false
namespace Jvm.RoadKit
open Sem ClassFile Op Lib Jvm.Stand Jvm.Free Jvm.LawKit
section New
variable {p : Program} {l : Launch} {e : Env} {R : Room} {s : State} {m : MethodId} {args : Array Value} {below : List Frame} {meth : Method} {c : Code} {T : State} {locs : List Loc} {cells slots : Nat}
theorem retI (X : Stand p l e R s m args below meth c T locs cells slots) (hx : p.tables.exec = Jvm.exec) {pc : Nat} {Ls : Array Slot} {z : Int32} {rest : List Value} (hret : meth.sig.returnType = some .int) (hd : decode c.code pc = .ok (.ireturn, 1)) {fs : List Frame}
    (hl : ∀ (f : JFrame) (acts : List Action), f.method = m → f.locked = none → f.entered = [] → (doReturn e (T.setTop f) acts (some (.int z))).1 = T.setFrames fs) : Steps p.tables e below (T.setTop (mkF m pc Ls (.int z :: rest))) (T.setFrames fs) := by
  have hm' : T.vm.method? m = some meth := X.method'
  have hn : narrow .int (.int z) = .int z := rfl
  show Steps p.tables e below (T.setTop { method := m, pc := pc, locals := Ls, stack := _ :: rest, locked := none }) _
  jvm_step X.here [X.here.top, hx, hd, hm', hret, hn]
  first | (intro acts; rw [hl _ acts rfl rfl rfl]) | rw [hl _ _ rfl rfl rfl]
  exact Steps.refl _
end New
end Jvm.RoadKit
namespace Jvm.Pilot.@@N@@
open Jvm Jvm.ClassFile Sem Op Lib Jvm.Free Jvm.Stand Jvm.LawKit Jvm.RoadKit Bundle Jvm.Pilot.@@N@@.Jvm.D
theorem own_retb (z : Int32) (h : z = 0 ∨ z = 1) : narrow .boolean (.int z) = .int z := by rcases h with rfl | rfl <;> rfl
theorem own_rem (x n : Int32) (hn : 0 < n.toInt) : 0 ≤ ((x &&& (2147483647 : Int32)) % n).toInt ∧ ((x &&& (2147483647 : Int32)) % n).toInt < n.toInt := by
  have h1 := c_mask x (2147483647 : Int32) 31 (by decide) (by decide)
  have h2 := (c_iremV (x &&& (2147483647 : Int32)) n).1 (by omega) hn
  exact ⟨h2.1, h2.2.1⟩
theorem own_of3 {k : Int32} (h : 0 ≤ k.toInt ∧ k.toInt < 3) : k = 0 ∨ k = 1 ∨ k = 2 := by
  have h2 : k.toInt = (0 : Int32).toInt ∨ k.toInt = (1 : Int32).toInt ∨ k.toInt = (2 : Int32).toInt := by simp; omega
  simpa only [Int32.toInt_inj] using h2
theorem own_of5 {k : Int32} (h : 0 ≤ k.toInt ∧ k.toInt < 5) : k = 0 ∨ k = 1 ∨ k = 2 ∨ k = 3 ∨ k = 4 := by
  have h2 : k.toInt = (0 : Int32).toInt ∨ k.toInt = (1 : Int32).toInt ∨ k.toInt = (2 : Int32).toInt ∨ k.toInt = (3 : Int32).toInt ∨ k.toInt = (4 : Int32).toInt := by simp; omega
  simpa only [Int32.toInt_inj] using h2
theorem own_of6 {k : Int32} (h : 0 ≤ k.toInt ∧ k.toInt < 6) : k = 0 ∨ k = 1 ∨ k = 2 ∨ k = 3 ∨ k = 4 ∨ k = 5 := by
  have h2 : k.toInt = (0 : Int32).toInt ∨ k.toInt = (1 : Int32).toInt ∨ k.toInt = (2 : Int32).toInt ∨ k.toInt = (3 : Int32).toInt ∨ k.toInt = (4 : Int32).toInt ∨ k.toInt = (5 : Int32).toInt := by simp; omega
  simpa only [Int32.toInt_inj] using h2
theorem own_eqI {args : Array Value} {s : State} {t : Term} {k : Int32} (h : (Jvm.Cond.eq t (.int k)).value args s none s [] = some true) : t.eval args s none [] s = some (.int k) := by
  obtain ⟨u, v, hu, hv, k1, k2⟩ := cmp_v (Or.inl h)
  have hv2 : v = .int k := Option.some.inj (hv.symm.trans (Term.int_eval k))
  subst hv2
  cases u <;> simp [Cond.value, hu, hv] at h
  subst h; exact hu
theorem own_fld {args : Array Value} {s : State} {t : Term} {a : Addr} {C n d : String} {k : Int32} (ev : t.eval args s none [] s = some (.ref a)) (h : (Jvm.Cond.eq (.field t C n d) (.int k)).value args s none s [] = some true) : Fld s s.heap a C n d (.int k) :=
  Fld.start ((fld_at ev).symm.trans (own_eqI h))
theorem own_len {args : Array Value} {s : State} {t : Term} {a : Addr} {cl : Cell} {ty : FieldType} {k : Int32} (ev : t.eval args s none [] s = some (.ref a)) (A : Arr s s.heap a cl ty) (h : (Jvm.Cond.eq (.length t) (.int k)).value args s none s [] = some true) : cl.slots.size.toInt32 = k := by
  obtain ⟨b, c, e1, e2, e3⟩ := Term.length_spec (own_eqI h)
  cases ev.symm.trans e1
  cases (A.fin (Vm.Alike.refl _)).symm.trans e2
  exact (Value.int.inj e3).symm
theorem own_lenlt {args : Array Value} {s : State} {t : Term} {a : Addr} {cl : Cell} {ty : FieldType} {k : Int32} (ev : t.eval args s none [] s = some (.ref a)) (A : Arr s s.heap a cl ty) (h : (Jvm.Cond.eq (.length t) (.int k)).value args s none s [] = some true) : cl.slots.size < 2 ^ 31 := by
  have h1 := own_eqI h
  have h2 := A.fin (Vm.Alike.refl _)
  apply Classical.byContradiction
  intro h3
  simp [Term.eval, ev, h2, h3] at h1
theorem own_elem {args : Array Value} {s : State} {t u : Term} {a b : Addr} {cl : Cell} {ty : FieldType} {j : Int32} (ev : t.eval args s none [] s = some (.ref a)) (A : Arr s s.heap a cl ty) (hu : u.eval args s none [] s = some (.ref b)) (h : (Jvm.Cond.eq (.elem t (.int j)) u).value args s none s [] = some true) : cl.slots[j.toNatClampNeg]? = some (.ref b) := by
  obtain ⟨x, y, hx, hy, -, -⟩ := cmp_v (Or.inl h)
  cases hu.symm.trans hy
  have h2 := (elem_in hx ev (Term.int_eval j) A.1).2
  cases x <;> simp [Cond.value, hx, hy] at h
  subst h; exact h2
theorem own_fldN {args : Array Value} {s : State} {t : Term} {a : Addr} {C n d : String} (ev : t.eval args s none [] s = some (.ref a)) (h : (Jvm.Cond.eq (.field t C n d) .null).value args s none s [] = some true) : Fld s s.heap a C n d .null :=
  Fld.start ((fld_at ev).symm.trans (null_v h))
theorem own_jz {q z j : Int32} (h : q.toInt ≤ z.toInt) (e : j.toInt < q.toInt) : j < z := by rw [Int32.lt_iff_toInt_lt]; omega
def own_word (q : Int32) (v0 v1 v2 v3 : Int64) : Int64 := if q = 0 then v0 else if q = 1 then v1 else if q = 2 then v2 else v3
theorem own_w0 (v0 v1 v2 v3 : Int64) : own_word 0 v0 v1 v2 v3 = v0 := by simp [own_word]
theorem own_w1 (v0 v1 v2 v3 : Int64) : own_word 1 v0 v1 v2 v3 = v1 := by simp [own_word]
theorem own_w2 (v0 v1 v2 v3 : Int64) : own_word 2 v0 v1 v2 v3 = v2 := by simp [own_word]
theorem own_w3 (v0 v1 v2 v3 : Int64) : own_word 3 v0 v1 v2 v3 = v3 := by simp [own_word]
theorem own_fr {f n : Int32} (hn : 1 ≤ n.toInt ∧ n.toInt ≤ 256) (h : 0 ≤ f.toInt ∧ f.toInt < n.toInt) : (f < (64 : Int32) ↔ f / (64 : Int32) = 0) ∧ (f / (64 : Int32) = 0 ∨ f / (64 : Int32) = 1 ∨ f / (64 : Int32) = 2 ∨ f / (64 : Int32) = 3) ∧ (f / (64 : Int32)).toInt = f.toInt / 64 := by
  have h1 := (c_idiv f (64 : Int32) 64 (by decide) (by decide)).1 h.1
  have h2 : (f / (64 : Int32)) = 0 ∨ (f / (64 : Int32)) = 1 ∨ (f / (64 : Int32)) = 2 ∨ (f / (64 : Int32)) = 3 := by
    have e0 : (0 : Int32).toInt = 0 := by decide
    have e1 : (1 : Int32).toInt = 1 := by decide
    have e2 : (2 : Int32).toInt = 2 := by decide
    have e3 : (3 : Int32).toInt = 3 := by decide
    have h3 : (f / (64 : Int32)).toInt = (0 : Int32).toInt ∨ (f / (64 : Int32)).toInt = (1 : Int32).toInt ∨ (f / (64 : Int32)).toInt = (2 : Int32).toInt ∨ (f / (64 : Int32)).toInt = (3 : Int32).toInt := by rw [e0, e1, e2, e3]; omega
    simpa only [Int32.toInt_inj] using h3
  refine ⟨?_, h2, h1⟩
  rw [Int32.lt_iff_toInt_lt, ← Int32.toInt_inj, h1]
  have e1 : (64 : Int32).toInt = 64 := by decide
  have e2 : (0 : Int32).toInt = 0 := by decide
  omega
def QC (Z : State) (a1 : Addr) (n1 : Int32) (h0 : Heap) (n0 : Nat) (v : Option Value) (h : Heap) (L : List Loc) : Prop := v = none ∧ Fr n0 L ∧ Keep h0 h [a1] ∧ Exa Z h a1 "com/example/phase7/phase7/metadata/FieldSet" ∧ Fld Z h a1 "com/example/phase7/phase7/metadata/FieldSet" "first" "J" (.long (0 : Int64)) ∧ ∃ (b : Addr) (kb : ClassId) (z : Int32), Fld Z h a1 "com/example/phase7/phase7/metadata/FieldSet" "further" "[J" (.ref b) ∧ Arv Z h b kb .long z [(.long (0 : Int64)), (.long (0 : Int64)), (.long (0 : Int64))] (.long (0 : Int64)) ∧ a1 ≠ b ∧ z.toInt = (n1.toInt - 1) / 64 ∧ (¬ z = 0 → n0 ≤ b)
theorem own_len64 {n : Int32} (hn : 1 ≤ n.toInt ∧ n.toInt ≤ 256) (h : (64 : Int32) < n) : ((n - (1 : Int32)) / (64 : Int32)).toInt = (n.toInt - 1) / 64 ∧ ¬ ((n - (1 : Int32)) / (64 : Int32)) < 0 ∧ ((n - (1 : Int32)) / (64 : Int32)).toNatClampNeg ≤ 3 := by
  have h0 := c_isub n (1 : Int32)
  have h4 := rng32 (n - (1 : Int32))
  have e1 : (1 : Int32).toInt = 1 := by decide
  have h5 : (n - (1 : Int32)).toInt = n.toInt - 1 := by omega
  have h1 := (c_idiv (n - (1 : Int32)) (64 : Int32) 64 (by decide) (by decide)).1 (by omega)
  rw [h5] at h1
  have e2 : (0 : Int32).toInt = 0 := by decide
  refine ⟨h1, ?_, ?_⟩
  · rw [Int32.lt_iff_toInt_lt]; omega
  · simp only [Int32.toNatClampNeg]; omega
theorem own_z0 {n : Int32} (hn : 1 ≤ n.toInt ∧ n.toInt ≤ 256) (h : ¬ (64 : Int32) < n) : (0 : Int32).toInt = (n.toInt - 1) / 64 := by
  rw [Int32.lt_iff_toInt_lt] at h
  have e1 : (64 : Int32).toInt = 64 := by decide
  have e2 : (0 : Int32).toInt = 0 := by decide
  omega
theorem d1_0 : decode prog_6_method_1_code 0 = .ok (.aload_n 0, 1) := by decide +kernel
theorem d1_1 : decode prog_6_method_1_code 1 = .ok (.invokespecial 3, 3) := by decide +kernel
theorem d1_4 : decode prog_6_method_1_code 4 = .ok (.aload_n 0, 1) := by decide +kernel
theorem d1_5 : decode prog_6_method_1_code 5 = .ok (.iload_n 1, 1) := by decide +kernel
theorem d1_6 : decode prog_6_method_1_code 6 = .ok (.bipush 64, 2) := by decide +kernel
theorem d1_8 : decode prog_6_method_1_code 8 = .ok (.if_icmp .gt 9, 3) := by decide +kernel
theorem d1_11 : decode prog_6_method_1_code 11 = .ok (.getstatic 11, 3) := by decide +kernel
theorem d1_14 : decode prog_6_method_1_code 14 = .ok (.goto 11, 3) := by decide +kernel
theorem d1_17 : decode prog_6_method_1_code 17 = .ok (.iload_n 1, 1) := by decide +kernel
theorem d1_18 : decode prog_6_method_1_code 18 = .ok (.iconst 1, 1) := by decide +kernel
theorem d1_19 : decode prog_6_method_1_code 19 = .ok (.isub, 1) := by decide +kernel
theorem d1_20 : decode prog_6_method_1_code 20 = .ok (.bipush 64, 2) := by decide +kernel
theorem d1_22 : decode prog_6_method_1_code 22 = .ok (.idiv, 1) := by decide +kernel
theorem d1_23 : decode prog_6_method_1_code 23 = .ok (.newarray .long, 2) := by decide +kernel
theorem d1_25 : decode prog_6_method_1_code 25 = .ok (.putfield 15, 3) := by decide +kernel
theorem d1_28 : decode prog_6_method_1_code 28 = .ok (.return_, 1) := by decide +kernel
theorem pn_rmC : plainName "com/example/phase7/phase7/metadata/FieldSet" = true := by first | (simp [plainName, overriddenIn]; done) | decide +kernel
theorem ef_rmC (m : MethodId) (a1 : Addr) (n1 : Int32) : entryFrame m #[(.ref a1), (.int n1)] 2 = mkF m 0 #[.val (.ref a1), .val (.int n1)] [] := by first | (simp [entryFrame, mkF, argsToLocals, Value.category]; done) | rfl
set_option maxRecDepth 65536 in
set_option maxHeartbeats 40000000 in
theorem rmC (l : Launch) (Z : State) (a0 : Array Value) (hw : ∀ d ∈ tables_1, d.before a0 Z = true) (ws : List Jvm.Cond) (a1 : Addr) (n1 : Int32) (wN : Addr) (kN : ClassId) (h0 : Heap) (n0 : Nat) (Z0 : n0 ≤ h0.size) (E_a1 : Exa Z h0 a1 "com/example/phase7/phase7/metadata/FieldSet") (F_f : Fld Z h0 a1 "com/example/phase7/phase7/metadata/FieldSet" "first" "J" (.long (0 : Int64))) (F_g : Fld Z h0 a1 "com/example/phase7/phase7/metadata/FieldSet" "further" "[J" .null) (S_N : Sta Z h0 "com/example/phase7/phase7/metadata/FieldSet" "NO_WORDS" "[J" (.ref wN)) (V_N : Arv Z h0 wN kN .long (0 : Int32) [(.long (0 : Int64)), (.long (0 : Int64)), (.long (0 : Int64))] (.long (0 : Int64))) (hne : a1 ≠ wN) (g_a1 : n0 ≤ a1) (hn : 1 ≤ n1.toInt ∧ n1.toInt ≤ 256) :
    MetFree l (⟨"com/example/phase7/phase7/metadata/FieldSet", "<init>", "(I)V"⟩ : MethodName) (head1 (Jvm.Cond.code (⟨"com/example/phase7/phase7/metadata/FieldSet", "<init>", "(I)V"⟩ : MethodName) prog_6_method_1_code 2 none :: ws) ({ frames := 1, cells := 1, slots := 3, locals := 12 } : Room)) (fun a U => a = #[(.ref a1), (.int n1)] ∧ Z.Warmed39 U.vm ∧ U.heap = h0) (fun _ _ _ _ _ => True) (fun _ U o U' => ∃ v L, o = .returned v ∧ QC Z a1 n1 h0 n0 v U'.heap L ∧ FrameEnd U o U' L ({ frames := 1, cells := 1, slots := 3, locals := 12 } : Room).cells ({ frames := 1, cells := 1, slots := 3, locals := 12 } : Room).slots) := by
  refine MetFree.of_bodySF (plainFor_of_name pn_rmC) hisR ?_
  intro p e s m args below meth c s₁ Bd hml0 hP hK
  obtain ⟨rfl, hZ, hh⟩ := hP
  have hx := Bd.exec
  have hby := Bd.bytes
  have hml : c.maxLocals = 2 := hml0
  have hown : s.vm.findClass "com/example/phase7/phase7/metadata/FieldSet" = some m.cls := findClass_of_methodNamed Bd.named
  have hnm := (name_of_methodNamed Bd.named Bd.method).1
  have X0 : Stand p l e ({ frames := 1, cells := 1, slots := 3, locals := 12 } : Room) s m #[(.ref a1), (.int n1)] below meth c s₁ [] 0 0 := Stand.of_body Bd
  have e0 : s₁.heap = h0 := by rw [← hh, Bd.state]; rfl
  have N0 := Fr.nil n0
  have pre0 : ∀ tt, Steps p.tables e below (s₁.setTop (mkF m 0 #[.val (.ref a1), .val (.int n1)] [])) tt → Steps p.tables e below (s₁.setTop (entryFrame m #[(.ref a1), (.int n1)] 2)) tt := fun tt kt => castTop (ef_rmC m a1 n1) kt
  obtain ⟨T1, X1, e1, st1⟩ := initO X0 hx hZ hown (hw _ (List.mem_of_getElem? (i := 7) rfl)) (hw _ (List.mem_of_getElem? (i := 8) rfl)) (hw _ (List.mem_of_getElem? (i := 9) rfl)) e0 (g := (mkF m 1 #[.val (.ref a1), .val (.int n1)] [(.ref a1)])) rfl (by rw [hml]; rfl) rfl (hb hby d1_1) (by decide) (W := 0) (by show 2 * 0 + _ ≤ _; exact Nat.le_of_eq rfl) (by decide)
  have pre2 : ∀ tt, Steps p.tables e below (T1.setTop (mkF m 8 #[.val (.ref a1), .val (.int n1)] [(.int (64 : Int32)), (.int n1), (.ref a1)])) tt → Steps p.tables e below (s₁.setTop (entryFrame m #[(.ref a1), (.int n1)] 2)) tt := by
    intro tt kt
    refine pre0 tt ?_
    show Steps p.tables e below (s₁.setTop (mkF m 0 #[.val (.ref a1), .val (.int n1)] [])) _
    refine XS.aloadN X0.here hx rfl (hb hby d1_0) rfl rfl ?_
    show Steps p.tables e below (s₁.setTop (mkF m 1 #[.val (.ref a1), .val (.int n1)] [(.ref a1)])) _
    refine st1 _ ?_
    show Steps p.tables e below (T1.setTop (mkF m 4 #[.val (.ref a1), .val (.int n1)] [])) _
    refine XS.aloadN X1.here hx rfl (hb hby d1_4) rfl rfl ?_
    show Steps p.tables e below (T1.setTop (mkF m 5 #[.val (.ref a1), .val (.int n1)] [(.ref a1)])) _
    refine XS.iloadN X1.here hx rfl (hb hby d1_5) rfl ?_
    show Steps p.tables e below (T1.setTop (mkF m 6 #[.val (.ref a1), .val (.int n1)] [(.int n1), (.ref a1)])) _
    refine XS.bipush X1.here hx rfl (hb hby d1_6) ?_
    exact kt
  by_cases c8_3 : (64 : Int32) < n1
  · obtain ⟨T4, h4, k4, X4, e4, E4, A4, EE4, st4⟩ := newPE X1 hx hZ (hw _ (List.mem_of_getElem? (i := 43) rfl)) e1 (g := (mkF m 23 #[.val (.ref a1), .val (.int n1)] [(.int ((n1 - (1 : Int32)) / (64 : Int32))), (.ref a1)])) rfl (hb hby d1_23) rfl (own_len64 hn c8_3).2.1 (cap := 3) (own_len64 hn c8_3).2.2 (by decide) (by decide) (by decide) (ad := "[J") (by decide)
    obtain ⟨b4, g4⟩ : ∃ z, z = h0.size := ⟨_, rfl⟩
    rw [← g4] at A4 EE4 st4
    have g_b4 : n0 ≤ b4 := Nat.le_trans Z0 (Nat.le_of_eq g4.symm)
    have sz_b4 : h0.size ≤ b4 := Nat.le_trans ((Keep.refl h0 [a1])).1 (Nat.le_of_eq g4.symm)
    have K4 : Keep h0 h4 [a1] := ((Keep.refl h0 [a1])).ext E4
    have V_b4 : Arv Z h4 b4 k4 .long ((n1 - (1 : Int32)) / (64 : Int32)) [] (.long (0 : Int64)) := Arv.new A4 (own_len64 hn c8_3).2.1
    obtain ⟨T5, h5, X5, e5, W5, st5⟩ := putF X4 hx hZ hown (host := "") (Or.inl (hw _ (List.mem_of_getElem? (i := 12) rfl))) Via.refl e4 (Fld.ext E4 F_g) (Exa.ext E4 E_a1) (Or.inr ⟨(hw _ (List.mem_of_getElem? (i := 13) rfl)), rfl, hnm⟩) (hw _ (List.mem_of_getElem? (i := 2) rfl)) (ty := (.array .long)) (by decide) rfl rfl (g := (mkF m 25 #[.val (.ref a1), .val (.int n1)] [(.ref b4), (.ref a1)])) rfl rfl (hb hby d1_25)
    have Fw5 := Fld.same W5 (Fld.ext E4 F_g)
    have N5 := Fr.snoc X5 N0 g_a1
    have K5 : Keep h0 h5 [a1] := (K4).wr W5 (Or.inl (List.mem_of_getElem? (i := 0) rfl))
    have pre6 : ∀ tt, Steps p.tables e below (T5.setTop (mkF m 28 #[.val (.ref a1), .val (.int n1)] [])) tt → Steps p.tables e below (s₁.setTop (entryFrame m #[(.ref a1), (.int n1)] 2)) tt := by
      intro tt kt
      refine pre2 tt ?_
      show Steps p.tables e below (T1.setTop (mkF m 8 #[.val (.ref a1), .val (.int n1)] [(.int (64 : Int32)), (.int n1), (.ref a1)])) _
      refine XS.icmpYes X1.here hx rfl (pc0 := 8) (pc' := 17) rfl (hb hby d1_8) rfl (tlt c8_3).2.2.1 (by decide) (by decide) ?_
      show Steps p.tables e below (T1.setTop (mkF m 17 #[.val (.ref a1), .val (.int n1)] [(.ref a1)])) _
      refine XS.iloadN X1.here hx rfl (hb hby d1_17) rfl ?_
      show Steps p.tables e below (T1.setTop (mkF m 18 #[.val (.ref a1), .val (.int n1)] [(.int n1), (.ref a1)])) _
      refine XS.iconst X1.here hx rfl (hb hby d1_18) ?_
      show Steps p.tables e below (T1.setTop (mkF m 19 #[.val (.ref a1), .val (.int n1)] [(.int (1 : Int32)), (.int n1), (.ref a1)])) _
      refine XS.isub X1.here hx rfl (hb hby d1_19) rfl ?_
      show Steps p.tables e below (T1.setTop (mkF m 20 #[.val (.ref a1), .val (.int n1)] [(.int (n1 - (1 : Int32))), (.ref a1)])) _
      refine XS.bipush X1.here hx rfl (hb hby d1_20) ?_
      show Steps p.tables e below (T1.setTop (mkF m 22 #[.val (.ref a1), .val (.int n1)] [(.int (64 : Int32)), (.int (n1 - (1 : Int32))), (.ref a1)])) _
      refine XS.idiv X1.here hx rfl (hb hby d1_22) rfl (by decide : ¬ ((64 : Int32) = (0 : Int32))) ?_
      show Steps p.tables e below (T1.setTop (mkF m 23 #[.val (.ref a1), .val (.int n1)] [(.int ((n1 - (1 : Int32)) / (64 : Int32))), (.ref a1)])) _
      refine st4 _ ?_
      show Steps p.tables e below (T4.setTop (mkF m 25 #[.val (.ref a1), .val (.int n1)] [(.ref b4), (.ref a1)])) _
      refine st5 _ ?_
      exact kt
    obtain ⟨fs, hr, hrun, hended, hW, hsame⟩ := X5.leave (v := none) (fun _ => rfl)
    refine ⟨_, _, pre6 _ ?_, hrun, hended, _, _, rfl, ?_, ⟨_, rfl⟩, hW, hsame.mono (by decide) (by decide)⟩
    · show Steps p.tables e below (T5.setTop (mkF m 28 #[.val (.ref a1), .val (.int n1)] [])) _
      exact X5.returnOut hx Bd.returns (hb hby d1_28) hr
    · show QC Z a1 n1 h0 n0 _ T5.heap _
      rw [e5]
      exact ⟨rfl, N5, K5, (Exa.wr W5 (Exa.ext E4 E_a1)), (Fld.other W5 (Fld.ext E4 F_f) (Or.inr (slot_ne (Or.inl (hw _ (List.mem_of_getElem? (i := 20) rfl))) (Or.inr (hw _ (List.mem_of_getElem? (i := 13) rfl))) (by decide) (t := .long) (t' := (.array .long)) (by decide) (by decide)))), b4, k4, _, Fw5, ((V_b4.other W5 (Ne.symm (Nat.ne_of_lt (Nat.lt_of_lt_of_le (F_f).lt (Nat.le_of_eq g4.symm)))))).pad (pad_rep [] _ 3), (Nat.ne_of_lt (Nat.lt_of_lt_of_le (F_f).lt (Nat.le_of_eq g4.symm))), (own_len64 hn c8_3).1, fun _ => g_b4⟩
  · obtain ⟨T7, X7, e7, st7⟩ := getS2 X1 hx hZ hown (host := "") (Or.inl (hw _ (List.mem_of_getElem? (i := 10) rfl))) Via.refl e1 S_N (g := (mkF m 11 #[.val (.ref a1), .val (.int n1)] [(.ref a1)])) rfl (hb hby d1_11)
    obtain ⟨T8, h8, X8, e8, W8, st8⟩ := putF X7 hx hZ hown (host := "") (Or.inl (hw _ (List.mem_of_getElem? (i := 12) rfl))) Via.refl e7 F_g E_a1 (Or.inr ⟨(hw _ (List.mem_of_getElem? (i := 13) rfl)), rfl, hnm⟩) (hw _ (List.mem_of_getElem? (i := 2) rfl)) (ty := (.array .long)) (by decide) rfl rfl (g := (mkF m 25 #[.val (.ref a1), .val (.int n1)] [(.ref wN), (.ref a1)])) rfl rfl (hb hby d1_25)
    have Fw8 := Fld.same W8 F_g
    have N8 := Fr.snoc X8 N0 g_a1
    have K8 : Keep h0 h8 [a1] := ((Keep.refl h0 [a1])).wr W8 (Or.inl (List.mem_of_getElem? (i := 0) rfl))
    have pre9 : ∀ tt, Steps p.tables e below (T8.setTop (mkF m 28 #[.val (.ref a1), .val (.int n1)] [])) tt → Steps p.tables e below (s₁.setTop (entryFrame m #[(.ref a1), (.int n1)] 2)) tt := by
      intro tt kt
      refine pre2 tt ?_
      show Steps p.tables e below (T1.setTop (mkF m 8 #[.val (.ref a1), .val (.int n1)] [(.int (64 : Int32)), (.int n1), (.ref a1)])) _
      refine XS.icmpNo X1.here hx rfl (hb hby d1_8) rfl (flt c8_3).2.2.1 ?_
      show Steps p.tables e below (T1.setTop (mkF m 11 #[.val (.ref a1), .val (.int n1)] [(.ref a1)])) _
      refine st7 _ ?_
      show Steps p.tables e below (T7.setTop (mkF m 14 #[.val (.ref a1), .val (.int n1)] [(.ref wN), (.ref a1)])) _
      refine XS.goto X7.here hx rfl (pc0 := 14) (pc' := 25) rfl (hb hby d1_14) (by decide) (by decide) ?_
      show Steps p.tables e below (T7.setTop (mkF m 25 #[.val (.ref a1), .val (.int n1)] [(.ref wN), (.ref a1)])) _
      refine st8 _ ?_
      exact kt
    obtain ⟨fs, hr, hrun, hended, hW, hsame⟩ := X8.leave (v := none) (fun _ => rfl)
    refine ⟨_, _, pre9 _ ?_, hrun, hended, _, _, rfl, ?_, ⟨_, rfl⟩, hW, hsame.mono (by decide) (by decide)⟩
    · show Steps p.tables e below (T8.setTop (mkF m 28 #[.val (.ref a1), .val (.int n1)] [])) _
      exact X8.returnOut hx Bd.returns (hb hby d1_28) hr
    · show QC Z a1 n1 h0 n0 _ T8.heap _
      rw [e8]
      exact ⟨rfl, N8, K8, (Exa.wr W8 E_a1), (Fld.other W8 F_f (Or.inr (slot_ne (Or.inl (hw _ (List.mem_of_getElem? (i := 20) rfl))) (Or.inr (hw _ (List.mem_of_getElem? (i := 13) rfl))) (by decide) (t := .long) (t' := (.array .long)) (by decide) (by decide)))), wN, kN, (0 : Int32), Fw8, (V_N.other W8 (Ne.symm hne)), hne, own_z0 hn c8_3, fun q => absurd rfl q⟩
def QI (Z : State) (r : Int32) (h0 : Heap) (n0 : Nat) (v : Option Value) (h : Heap) (L : List Loc) : Prop := v = some (.int r) ∧ Fr n0 L ∧ h = h0
def QA (Z : State) (a1 b : Addr) (kb : ClassId) (z1 : Int32) (u0 u1 u2 u3 : Int64) (h0 : Heap) (n0 : Nat) (v : Option Value) (h : Heap) (L : List Loc) : Prop := v = none ∧ Fr n0 L ∧ Keep h0 h [a1, b] ∧ Exa Z h a1 "com/example/phase7/phase7/metadata/FieldSet" ∧ Fld Z h a1 "com/example/phase7/phase7/metadata/FieldSet" "first" "J" (.long u0) ∧ Fld Z h a1 "com/example/phase7/phase7/metadata/FieldSet" "further" "[J" (.ref b) ∧ Arv Z h b kb .long z1 [(.long u1), (.long u2), (.long u3)] (.long (0 : Int64))
theorem d5_0 : decode prog_6_method_3_code 0 = .ok (.iload_n 1, 1) := by decide +kernel
theorem d5_1 : decode prog_6_method_3_code 1 = .ok (.bipush 64, 2) := by decide +kernel
theorem d5_3 : decode prog_6_method_3_code 3 = .ok (.if_icmp .ge 25, 3) := by decide +kernel
theorem d5_6 : decode prog_6_method_3_code 6 = .ok (.aload_n 0, 1) := by decide +kernel
theorem d5_7 : decode prog_6_method_3_code 7 = .ok (.getfield 18, 3) := by decide +kernel
theorem d5_10 : decode prog_6_method_3_code 10 = .ok (.lconst 1, 1) := by decide +kernel
theorem d5_11 : decode prog_6_method_3_code 11 = .ok (.iload_n 1, 1) := by decide +kernel
theorem d5_12 : decode prog_6_method_3_code 12 = .ok (.lshl, 1) := by decide +kernel
theorem d5_13 : decode prog_6_method_3_code 13 = .ok (.land, 1) := by decide +kernel
theorem d5_14 : decode prog_6_method_3_code 14 = .ok (.lconst 0, 1) := by decide +kernel
theorem d5_15 : decode prog_6_method_3_code 15 = .ok (.lcmp, 1) := by decide +kernel
theorem d5_16 : decode prog_6_method_3_code 16 = .ok (.ifCond .eq 7, 3) := by decide +kernel
theorem d5_19 : decode prog_6_method_3_code 19 = .ok (.iconst 1, 1) := by decide +kernel
theorem d5_20 : decode prog_6_method_3_code 20 = .ok (.goto 4, 3) := by decide +kernel
theorem d5_23 : decode prog_6_method_3_code 23 = .ok (.iconst 0, 1) := by decide +kernel
theorem d5_24 : decode prog_6_method_3_code 24 = .ok (.istore_n 2, 1) := by decide +kernel
theorem d5_25 : decode prog_6_method_3_code 25 = .ok (.goto 29, 3) := by decide +kernel
theorem d5_28 : decode prog_6_method_3_code 28 = .ok (.aload_n 0, 1) := by decide +kernel
theorem d5_29 : decode prog_6_method_3_code 29 = .ok (.getfield 15, 3) := by decide +kernel
theorem d5_32 : decode prog_6_method_3_code 32 = .ok (.iload_n 1, 1) := by decide +kernel
theorem d5_33 : decode prog_6_method_3_code 33 = .ok (.bipush 64, 2) := by decide +kernel
theorem d5_35 : decode prog_6_method_3_code 35 = .ok (.idiv, 1) := by decide +kernel
theorem d5_36 : decode prog_6_method_3_code 36 = .ok (.iconst 1, 1) := by decide +kernel
theorem d5_37 : decode prog_6_method_3_code 37 = .ok (.isub, 1) := by decide +kernel
theorem d5_38 : decode prog_6_method_3_code 38 = .ok (.laload, 1) := by decide +kernel
theorem d5_39 : decode prog_6_method_3_code 39 = .ok (.lconst 1, 1) := by decide +kernel
theorem d5_40 : decode prog_6_method_3_code 40 = .ok (.iload_n 1, 1) := by decide +kernel
theorem d5_41 : decode prog_6_method_3_code 41 = .ok (.lshl, 1) := by decide +kernel
theorem d5_42 : decode prog_6_method_3_code 42 = .ok (.land, 1) := by decide +kernel
theorem d5_43 : decode prog_6_method_3_code 43 = .ok (.lconst 0, 1) := by decide +kernel
theorem d5_44 : decode prog_6_method_3_code 44 = .ok (.lcmp, 1) := by decide +kernel
theorem d5_45 : decode prog_6_method_3_code 45 = .ok (.ifCond .eq 7, 3) := by decide +kernel
theorem d5_48 : decode prog_6_method_3_code 48 = .ok (.iconst 1, 1) := by decide +kernel
theorem d5_49 : decode prog_6_method_3_code 49 = .ok (.goto 4, 3) := by decide +kernel
theorem d5_52 : decode prog_6_method_3_code 52 = .ok (.iconst 0, 1) := by decide +kernel
theorem d5_53 : decode prog_6_method_3_code 53 = .ok (.istore_n 2, 1) := by decide +kernel
theorem d5_54 : decode prog_6_method_3_code 54 = .ok (.iload_n 2, 1) := by decide +kernel
theorem d5_55 : decode prog_6_method_3_code 55 = .ok (.ireturn, 1) := by decide +kernel
theorem pn_rmH : plainName "com/example/phase7/phase7/metadata/FieldSet" = true := by first | (simp [plainName, overriddenIn]; done) | decide +kernel
theorem ef_rmH (m : MethodId) (a1 : Addr) (f1 : Int32) : entryFrame m #[(.ref a1), (.int f1)] 3 = mkF m 0 #[.val (.ref a1), .val (.int f1), .unset] [] := by first | (simp [entryFrame, mkF, argsToLocals, Value.category]; done) | rfl
set_option maxRecDepth 65536 in
set_option maxHeartbeats 40000000 in
theorem rmH (l : Launch) (Z : State) (a0 : Array Value) (hw : ∀ d ∈ tables_1, d.before a0 Z = true) (ws : List Jvm.Cond) (a1 b : Addr) (kb : ClassId) (f1 q1 z1 r : Int32) (v0 v1 v2 v3 : Int64) (h0 : Heap) (n0 : Nat) (Z0 : n0 ≤ h0.size) (E_a1 : Exa Z h0 a1 "com/example/phase7/phase7/metadata/FieldSet") (F_f : Fld Z h0 a1 "com/example/phase7/phase7/metadata/FieldSet" "first" "J" (.long v0)) (F_g : Fld Z h0 a1 "com/example/phase7/phase7/metadata/FieldSet" "further" "[J" (.ref b)) (V_b : Arv Z h0 b kb .long z1 [(.long v1), (.long v2), (.long v3)] (.long (0 : Int64))) (hne : a1 ≠ b) (hq : f1 < (64 : Int32) ↔ q1 = 0) (hdv : f1 / (64 : Int32) = q1) (rq : q1 = 0 ∨ q1 = 1 ∨ q1 = 2 ∨ q1 = 3) (hz : q1.toInt ≤ z1.toInt) (hr0 : r = if (own_word q1 v0 v1 v2 v3 &&& ((1 : Int64) <<< (f1 &&& 0x3f).toInt64)) = 0 then 0 else 1) :
    MetFree l (⟨"com/example/phase7/phase7/metadata/FieldSet", "contains", "(I)Z"⟩ : MethodName) (head1 (Jvm.Cond.code (⟨"com/example/phase7/phase7/metadata/FieldSet", "contains", "(I)Z"⟩ : MethodName) prog_6_method_3_code 3 (some .boolean) :: ws) ({ frames := 0, cells := 0, slots := 0, locals := 0 } : Room)) (fun a U => a = #[(.ref a1), (.int f1)] ∧ Z.Warmed39 U.vm ∧ U.heap = h0) (fun _ _ _ _ _ => True) (fun _ U o U' => ∃ v L, o = .returned v ∧ QI Z r h0 n0 v U'.heap L ∧ FrameEnd U o U' L ({ frames := 0, cells := 0, slots := 0, locals := 0 } : Room).cells ({ frames := 0, cells := 0, slots := 0, locals := 0 } : Room).slots) := by
  refine MetFree.of_bodySF (plainFor_of_name pn_rmH) hisR ?_
  intro p e s m args below meth c s₁ Bd hml0 hP hK
  obtain ⟨rfl, hZ, hh⟩ := hP
  have hx := Bd.exec
  have hby := Bd.bytes
  have hml : c.maxLocals = 3 := hml0
  have hown : s.vm.findClass "com/example/phase7/phase7/metadata/FieldSet" = some m.cls := findClass_of_methodNamed Bd.named
  have hnm := (name_of_methodNamed Bd.named Bd.method).1
  have X0 : Stand p l e ({ frames := 0, cells := 0, slots := 0, locals := 0 } : Room) s m #[(.ref a1), (.int f1)] below meth c s₁ [] 0 0 := Stand.of_body Bd
  have e0 : s₁.heap = h0 := by rw [← hh, Bd.state]; rfl
  have N0 := Fr.nil n0
  have pre0 : ∀ tt, Steps p.tables e below (s₁.setTop (mkF m 0 #[.val (.ref a1), .val (.int f1), .unset] [])) tt → Steps p.tables e below (s₁.setTop (entryFrame m #[(.ref a1), (.int f1)] 3)) tt := fun tt kt => castTop (ef_rmH m a1 f1) kt
  rcases rq with rfl | rfl | rfl | rfl
  · rw [own_w0] at hr0
    have hq0 : f1 < (64 : Int32) := hq.mpr rfl
    obtain ⟨T1, X1, e1, st1⟩ := getF X0 hx hZ hown (host := "") (Or.inl (hw _ (List.mem_of_getElem? (i := 19) rfl))) Via.refl e0 F_f (g := (mkF m 7 #[.val (.ref a1), .val (.int f1), .unset] [(.ref a1)])) rfl rfl (hb hby d5_7)
    have pre2 : ∀ tt, Steps p.tables e below (T1.setTop (mkF m 16 #[.val (.ref a1), .val (.int f1), .unset] [(.int (lcmpW (v0 &&& ((1 : Int64) <<< (f1 &&& 0x3f).toInt64)) (0 : Int64)))])) tt → Steps p.tables e below (s₁.setTop (entryFrame m #[(.ref a1), (.int f1)] 3)) tt := by
      intro tt kt
      refine pre0 tt ?_
      show Steps p.tables e below (s₁.setTop (mkF m 0 #[.val (.ref a1), .val (.int f1), .unset] [])) _
      refine XS.iloadN X0.here hx rfl (hb hby d5_0) rfl ?_
      show Steps p.tables e below (s₁.setTop (mkF m 1 #[.val (.ref a1), .val (.int f1), .unset] [(.int f1)])) _
      refine XS.bipush X0.here hx rfl (hb hby d5_1) ?_
      show Steps p.tables e below (s₁.setTop (mkF m 3 #[.val (.ref a1), .val (.int f1), .unset] [(.int (64 : Int32)), (.int f1)])) _
      refine XS.icmpNo X0.here hx rfl (hb hby d5_3) rfl (tlt (hq.mpr rfl)).2.1 ?_
      show Steps p.tables e below (s₁.setTop (mkF m 6 #[.val (.ref a1), .val (.int f1), .unset] [])) _
      refine XS.aloadN X0.here hx rfl (hb hby d5_6) rfl rfl ?_
      show Steps p.tables e below (s₁.setTop (mkF m 7 #[.val (.ref a1), .val (.int f1), .unset] [(.ref a1)])) _
      refine st1 _ ?_
      show Steps p.tables e below (T1.setTop (mkF m 10 #[.val (.ref a1), .val (.int f1), .unset] [(.long v0)])) _
      refine XS.lconst X1.here hx rfl (hb hby d5_10) ?_
      show Steps p.tables e below (T1.setTop (mkF m 11 #[.val (.ref a1), .val (.int f1), .unset] [(.long (1 : Int64)), (.long v0)])) _
      refine XS.iloadN X1.here hx rfl (hb hby d5_11) rfl ?_
      show Steps p.tables e below (T1.setTop (mkF m 12 #[.val (.ref a1), .val (.int f1), .unset] [(.int f1), (.long (1 : Int64)), (.long v0)])) _
      refine XS.lshl X1.here hx rfl (hb hby d5_12) rfl ?_
      show Steps p.tables e below (T1.setTop (mkF m 13 #[.val (.ref a1), .val (.int f1), .unset] [(.long ((1 : Int64) <<< (f1 &&& 0x3f).toInt64)), (.long v0)])) _
      refine XS.land X1.here hx rfl (hb hby d5_13) rfl ?_
      show Steps p.tables e below (T1.setTop (mkF m 14 #[.val (.ref a1), .val (.int f1), .unset] [(.long (v0 &&& ((1 : Int64) <<< (f1 &&& 0x3f).toInt64)))])) _
      refine XS.lconst X1.here hx rfl (hb hby d5_14) ?_
      show Steps p.tables e below (T1.setTop (mkF m 15 #[.val (.ref a1), .val (.int f1), .unset] [(.long (0 : Int64)), (.long (v0 &&& ((1 : Int64) <<< (f1 &&& 0x3f).toInt64)))])) _
      refine XS.lcmp X1.here hx rfl (hb hby d5_15) rfl ?_
      exact kt
    by_cases c16_3 : (lcmpW (v0 &&& ((1 : Int64) <<< (f1 &&& 0x3f).toInt64)) (0 : Int64)) = (0 : Int32)
    · have pre4 : ∀ tt, Steps p.tables e below (T1.setTop (mkF m 55 #[.val (.ref a1), .val (.int f1), .val (.int (0 : Int32))] [(.int (0 : Int32))])) tt → Steps p.tables e below (s₁.setTop (entryFrame m #[(.ref a1), (.int f1)] 3)) tt := by
        intro tt kt
        refine pre2 tt ?_
        show Steps p.tables e below (T1.setTop (mkF m 16 #[.val (.ref a1), .val (.int f1), .unset] [(.int (lcmpW (v0 &&& ((1 : Int64) <<< (f1 &&& 0x3f).toInt64)) (0 : Int64)))])) _
        refine XS.ifYes X1.here hx rfl (pc0 := 16) (pc' := 23) rfl (hb hby d5_16) rfl ((if0 _ _).trans (teq c16_3).1) (by decide) (by decide) ?_
        show Steps p.tables e below (T1.setTop (mkF m 23 #[.val (.ref a1), .val (.int f1), .unset] [])) _
        refine XS.iconst X1.here hx rfl (hb hby d5_23) ?_
        show Steps p.tables e below (T1.setTop (mkF m 24 #[.val (.ref a1), .val (.int f1), .unset] [(.int (0 : Int32))])) _
        refine XS.istoreN X1.here hx rfl (hb hby d5_24) rfl (l' := #[.val (.ref a1), .val (.int f1), .val (.int (0 : Int32))]) rfl ?_
        show Steps p.tables e below (T1.setTop (mkF m 25 #[.val (.ref a1), .val (.int f1), .val (.int (0 : Int32))] [])) _
        refine XS.goto X1.here hx rfl (pc0 := 25) (pc' := 54) rfl (hb hby d5_25) (by decide) (by decide) ?_
        show Steps p.tables e below (T1.setTop (mkF m 54 #[.val (.ref a1), .val (.int f1), .val (.int (0 : Int32))] [])) _
        refine XS.iloadN X1.here hx rfl (hb hby d5_54) rfl ?_
        exact kt
      obtain ⟨fs, hr, hrun, hended, hW, hsame⟩ := X1.leave (v := some (.int (0 : Int32))) (fun h => by rw [Bd.returns] at h; cases h)
      refine ⟨_, _, pre4 _ ?_, hrun, hended, _, _, rfl, ?_, ⟨_, rfl⟩, hW, hsame.mono (by decide) (by decide)⟩
      · show Steps p.tables e below (T1.setTop (mkF m 55 #[.val (.ref a1), .val (.int f1), .val (.int (0 : Int32))] [(.int (0 : Int32))])) _
        exact retN X1 hx (t := .boolean) Bd.returns (by simp) (hb hby d5_55) hr
      · show QI Z r h0 n0 _ T1.heap _
        rw [e1]
        exact ⟨by rw [hr0, if_pos ((lw_eq _ _).mp c16_3)], N0, rfl⟩
    · have pre5 : ∀ tt, Steps p.tables e below (T1.setTop (mkF m 55 #[.val (.ref a1), .val (.int f1), .val (.int (1 : Int32))] [(.int (1 : Int32))])) tt → Steps p.tables e below (s₁.setTop (entryFrame m #[(.ref a1), (.int f1)] 3)) tt := by
        intro tt kt
        refine pre2 tt ?_
        show Steps p.tables e below (T1.setTop (mkF m 16 #[.val (.ref a1), .val (.int f1), .unset] [(.int (lcmpW (v0 &&& ((1 : Int64) <<< (f1 &&& 0x3f).toInt64)) (0 : Int64)))])) _
        refine XS.ifNo X1.here hx rfl (hb hby d5_16) rfl ((if0 _ _).trans (feq c16_3).1) ?_
        show Steps p.tables e below (T1.setTop (mkF m 19 #[.val (.ref a1), .val (.int f1), .unset] [])) _
        refine XS.iconst X1.here hx rfl (hb hby d5_19) ?_
        show Steps p.tables e below (T1.setTop (mkF m 20 #[.val (.ref a1), .val (.int f1), .unset] [(.int (1 : Int32))])) _
        refine XS.goto X1.here hx rfl (pc0 := 20) (pc' := 24) rfl (hb hby d5_20) (by decide) (by decide) ?_
        show Steps p.tables e below (T1.setTop (mkF m 24 #[.val (.ref a1), .val (.int f1), .unset] [(.int (1 : Int32))])) _
        refine XS.istoreN X1.here hx rfl (hb hby d5_24) rfl (l' := #[.val (.ref a1), .val (.int f1), .val (.int (1 : Int32))]) rfl ?_
        show Steps p.tables e below (T1.setTop (mkF m 25 #[.val (.ref a1), .val (.int f1), .val (.int (1 : Int32))] [])) _
        refine XS.goto X1.here hx rfl (pc0 := 25) (pc' := 54) rfl (hb hby d5_25) (by decide) (by decide) ?_
        show Steps p.tables e below (T1.setTop (mkF m 54 #[.val (.ref a1), .val (.int f1), .val (.int (1 : Int32))] [])) _
        refine XS.iloadN X1.here hx rfl (hb hby d5_54) rfl ?_
        exact kt
      obtain ⟨fs, hr, hrun, hended, hW, hsame⟩ := X1.leave (v := some (.int (1 : Int32))) (fun h => by rw [Bd.returns] at h; cases h)
      refine ⟨_, _, pre5 _ ?_, hrun, hended, _, _, rfl, ?_, ⟨_, rfl⟩, hW, hsame.mono (by decide) (by decide)⟩
      · show Steps p.tables e below (T1.setTop (mkF m 55 #[.val (.ref a1), .val (.int f1), .val (.int (1 : Int32))] [(.int (1 : Int32))])) _
        exact retN X1 hx (t := .boolean) Bd.returns (by simp) (hb hby d5_55) hr
      · show QI Z r h0 n0 _ T1.heap _
        rw [e1]
        exact ⟨by rw [hr0, if_neg (fun q => c16_3 ((lw_eq _ _).mpr q))], N0, rfl⟩
  · rw [own_w1] at hr0
    have hj : ((f1 / (64 : Int32)) - (1 : Int32)) = (0 : Int32) := by rw [hdv]; decide
    have hin : ¬ (0 : Int32) < 0 ∧ (0 : Int32) < z1 := ⟨by decide, own_jz hz (by decide)⟩
    obtain ⟨T6, X6, e6, st6⟩ := getF X0 hx hZ hown (host := "") (Or.inl (hw _ (List.mem_of_getElem? (i := 12) rfl))) Via.refl e0 F_g (g := (mkF m 29 #[.val (.ref a1), .val (.int f1), .unset] [(.ref a1)])) rfl rfl (hb hby d5_29)
    have VO7 := V_b
    obtain ⟨cl7, Ar7, q7, S7, M7, H7, G7⟩ := VO7
    have hin7 : ¬ ((0 : Int32) < 0 ∨ cl7.slots.size ≤ ((0 : Int32)).toNatClampNeg) := inb_of S7 hin
    have hat7 : cl7.slots[((0 : Int32)).toNatClampNeg]? = some (.long v1) := H7.at hin7 rfl
    have pre8 : ∀ tt, Steps p.tables e below (T6.setTop (mkF m 45 #[.val (.ref a1), .val (.int f1), .unset] [(.int (lcmpW (v1 &&& ((1 : Int64) <<< (f1 &&& 0x3f).toInt64)) (0 : Int64)))])) tt → Steps p.tables e below (s₁.setTop (entryFrame m #[(.ref a1), (.int f1)] 3)) tt := by
      intro tt kt
      refine pre0 tt ?_
      show Steps p.tables e below (s₁.setTop (mkF m 0 #[.val (.ref a1), .val (.int f1), .unset] [])) _
      refine XS.iloadN X0.here hx rfl (hb hby d5_0) rfl ?_
      show Steps p.tables e below (s₁.setTop (mkF m 1 #[.val (.ref a1), .val (.int f1), .unset] [(.int f1)])) _
      refine XS.bipush X0.here hx rfl (hb hby d5_1) ?_
      show Steps p.tables e below (s₁.setTop (mkF m 3 #[.val (.ref a1), .val (.int f1), .unset] [(.int (64 : Int32)), (.int f1)])) _
      refine XS.icmpYes X0.here hx rfl (pc0 := 3) (pc' := 28) rfl (hb hby d5_3) rfl (flt (fun q => absurd (hq.mp q) (by decide))).2.1 (by decide) (by decide) ?_
      show Steps p.tables e below (s₁.setTop (mkF m 28 #[.val (.ref a1), .val (.int f1), .unset] [])) _
      refine XS.aloadN X0.here hx rfl (hb hby d5_28) rfl rfl ?_
      show Steps p.tables e below (s₁.setTop (mkF m 29 #[.val (.ref a1), .val (.int f1), .unset] [(.ref a1)])) _
      refine st6 _ ?_
      show Steps p.tables e below (T6.setTop (mkF m 32 #[.val (.ref a1), .val (.int f1), .unset] [(.ref b)])) _
      refine XS.iloadN X6.here hx rfl (hb hby d5_32) rfl ?_
      show Steps p.tables e below (T6.setTop (mkF m 33 #[.val (.ref a1), .val (.int f1), .unset] [(.int f1), (.ref b)])) _
      refine XS.bipush X6.here hx rfl (hb hby d5_33) ?_
      show Steps p.tables e below (T6.setTop (mkF m 35 #[.val (.ref a1), .val (.int f1), .unset] [(.int (64 : Int32)), (.int f1), (.ref b)])) _
      refine XS.idiv X6.here hx rfl (hb hby d5_35) rfl (by decide : ¬ ((64 : Int32) = (0 : Int32))) ?_
      show Steps p.tables e below (T6.setTop (mkF m 36 #[.val (.ref a1), .val (.int f1), .unset] [(.int (f1 / (64 : Int32))), (.ref b)])) _
      refine XS.iconst X6.here hx rfl (hb hby d5_36) ?_
      show Steps p.tables e below (T6.setTop (mkF m 37 #[.val (.ref a1), .val (.int f1), .unset] [(.int (1 : Int32)), (.int (f1 / (64 : Int32))), (.ref b)])) _
      refine XS.isub X6.here hx rfl (hb hby d5_37) rfl ?_
      show Steps p.tables e below (T6.setTop (mkF m 38 #[.val (.ref a1), .val (.int f1), .unset] [(.int ((f1 / (64 : Int32)) - (1 : Int32))), (.ref b)])) _
      rw [hj]
      show Steps p.tables e below (T6.setTop (mkF m 38 #[.val (.ref a1), .val (.int f1), .unset] [(.int (0 : Int32)), (.ref b)])) _
      refine X6.laload hx (j := (0 : Int32)) (v := (.long v1)) (by rw [e6]; exact Ar7.1) (State.isArrayOf_alike hZ.alike Ar7.2.1) Ar7.2.2 hin7 hat7 (g := (mkF m 38 #[.val (.ref a1), .val (.int f1), .unset] [(.int (0 : Int32)), (.ref b)])) rfl rfl (hb hby d5_38) _ ?_
      show Steps p.tables e below (T6.setTop (mkF m 39 #[.val (.ref a1), .val (.int f1), .unset] [(.long v1)])) _
      refine XS.lconst X6.here hx rfl (hb hby d5_39) ?_
      show Steps p.tables e below (T6.setTop (mkF m 40 #[.val (.ref a1), .val (.int f1), .unset] [(.long (1 : Int64)), (.long v1)])) _
      refine XS.iloadN X6.here hx rfl (hb hby d5_40) rfl ?_
      show Steps p.tables e below (T6.setTop (mkF m 41 #[.val (.ref a1), .val (.int f1), .unset] [(.int f1), (.long (1 : Int64)), (.long v1)])) _
      refine XS.lshl X6.here hx rfl (hb hby d5_41) rfl ?_
      show Steps p.tables e below (T6.setTop (mkF m 42 #[.val (.ref a1), .val (.int f1), .unset] [(.long ((1 : Int64) <<< (f1 &&& 0x3f).toInt64)), (.long v1)])) _
      refine XS.land X6.here hx rfl (hb hby d5_42) rfl ?_
      show Steps p.tables e below (T6.setTop (mkF m 43 #[.val (.ref a1), .val (.int f1), .unset] [(.long (v1 &&& ((1 : Int64) <<< (f1 &&& 0x3f).toInt64)))])) _
      refine XS.lconst X6.here hx rfl (hb hby d5_43) ?_
      show Steps p.tables e below (T6.setTop (mkF m 44 #[.val (.ref a1), .val (.int f1), .unset] [(.long (0 : Int64)), (.long (v1 &&& ((1 : Int64) <<< (f1 &&& 0x3f).toInt64)))])) _
      refine XS.lcmp X6.here hx rfl (hb hby d5_44) rfl ?_
      exact kt
    by_cases c45_9 : (lcmpW (v1 &&& ((1 : Int64) <<< (f1 &&& 0x3f).toInt64)) (0 : Int64)) = (0 : Int32)
    · have pre10 : ∀ tt, Steps p.tables e below (T6.setTop (mkF m 55 #[.val (.ref a1), .val (.int f1), .val (.int (0 : Int32))] [(.int (0 : Int32))])) tt → Steps p.tables e below (s₁.setTop (entryFrame m #[(.ref a1), (.int f1)] 3)) tt := by
        intro tt kt
        refine pre8 tt ?_
        show Steps p.tables e below (T6.setTop (mkF m 45 #[.val (.ref a1), .val (.int f1), .unset] [(.int (lcmpW (v1 &&& ((1 : Int64) <<< (f1 &&& 0x3f).toInt64)) (0 : Int64)))])) _
        refine XS.ifYes X6.here hx rfl (pc0 := 45) (pc' := 52) rfl (hb hby d5_45) rfl ((if0 _ _).trans (teq c45_9).1) (by decide) (by decide) ?_
        show Steps p.tables e below (T6.setTop (mkF m 52 #[.val (.ref a1), .val (.int f1), .unset] [])) _
        refine XS.iconst X6.here hx rfl (hb hby d5_52) ?_
        show Steps p.tables e below (T6.setTop (mkF m 53 #[.val (.ref a1), .val (.int f1), .unset] [(.int (0 : Int32))])) _
        refine XS.istoreN X6.here hx rfl (hb hby d5_53) rfl (l' := #[.val (.ref a1), .val (.int f1), .val (.int (0 : Int32))]) rfl ?_
        show Steps p.tables e below (T6.setTop (mkF m 54 #[.val (.ref a1), .val (.int f1), .val (.int (0 : Int32))] [])) _
        refine XS.iloadN X6.here hx rfl (hb hby d5_54) rfl ?_
        exact kt
      obtain ⟨fs, hr, hrun, hended, hW, hsame⟩ := X6.leave (v := some (.int (0 : Int32))) (fun h => by rw [Bd.returns] at h; cases h)
      refine ⟨_, _, pre10 _ ?_, hrun, hended, _, _, rfl, ?_, ⟨_, rfl⟩, hW, hsame.mono (by decide) (by decide)⟩
      · show Steps p.tables e below (T6.setTop (mkF m 55 #[.val (.ref a1), .val (.int f1), .val (.int (0 : Int32))] [(.int (0 : Int32))])) _
        exact retN X6 hx (t := .boolean) Bd.returns (by simp) (hb hby d5_55) hr
      · show QI Z r h0 n0 _ T6.heap _
        rw [e6]
        exact ⟨by rw [hr0, if_pos ((lw_eq _ _).mp c45_9)], N0, rfl⟩
    · have pre11 : ∀ tt, Steps p.tables e below (T6.setTop (mkF m 55 #[.val (.ref a1), .val (.int f1), .val (.int (1 : Int32))] [(.int (1 : Int32))])) tt → Steps p.tables e below (s₁.setTop (entryFrame m #[(.ref a1), (.int f1)] 3)) tt := by
        intro tt kt
        refine pre8 tt ?_
        show Steps p.tables e below (T6.setTop (mkF m 45 #[.val (.ref a1), .val (.int f1), .unset] [(.int (lcmpW (v1 &&& ((1 : Int64) <<< (f1 &&& 0x3f).toInt64)) (0 : Int64)))])) _
        refine XS.ifNo X6.here hx rfl (hb hby d5_45) rfl ((if0 _ _).trans (feq c45_9).1) ?_
        show Steps p.tables e below (T6.setTop (mkF m 48 #[.val (.ref a1), .val (.int f1), .unset] [])) _
        refine XS.iconst X6.here hx rfl (hb hby d5_48) ?_
        show Steps p.tables e below (T6.setTop (mkF m 49 #[.val (.ref a1), .val (.int f1), .unset] [(.int (1 : Int32))])) _
        refine XS.goto X6.here hx rfl (pc0 := 49) (pc' := 53) rfl (hb hby d5_49) (by decide) (by decide) ?_
        show Steps p.tables e below (T6.setTop (mkF m 53 #[.val (.ref a1), .val (.int f1), .unset] [(.int (1 : Int32))])) _
        refine XS.istoreN X6.here hx rfl (hb hby d5_53) rfl (l' := #[.val (.ref a1), .val (.int f1), .val (.int (1 : Int32))]) rfl ?_
        show Steps p.tables e below (T6.setTop (mkF m 54 #[.val (.ref a1), .val (.int f1), .val (.int (1 : Int32))] [])) _
        refine XS.iloadN X6.here hx rfl (hb hby d5_54) rfl ?_
        exact kt
      obtain ⟨fs, hr, hrun, hended, hW, hsame⟩ := X6.leave (v := some (.int (1 : Int32))) (fun h => by rw [Bd.returns] at h; cases h)
      refine ⟨_, _, pre11 _ ?_, hrun, hended, _, _, rfl, ?_, ⟨_, rfl⟩, hW, hsame.mono (by decide) (by decide)⟩
      · show Steps p.tables e below (T6.setTop (mkF m 55 #[.val (.ref a1), .val (.int f1), .val (.int (1 : Int32))] [(.int (1 : Int32))])) _
        exact retN X6 hx (t := .boolean) Bd.returns (by simp) (hb hby d5_55) hr
      · show QI Z r h0 n0 _ T6.heap _
        rw [e6]
        exact ⟨by rw [hr0, if_neg (fun q => c45_9 ((lw_eq _ _).mpr q))], N0, rfl⟩
  · rw [own_w2] at hr0
    have hj : ((f1 / (64 : Int32)) - (1 : Int32)) = (1 : Int32) := by rw [hdv]; decide
    have hin : ¬ (1 : Int32) < 0 ∧ (1 : Int32) < z1 := ⟨by decide, own_jz hz (by decide)⟩
    obtain ⟨T12, X12, e12, st12⟩ := getF X0 hx hZ hown (host := "") (Or.inl (hw _ (List.mem_of_getElem? (i := 12) rfl))) Via.refl e0 F_g (g := (mkF m 29 #[.val (.ref a1), .val (.int f1), .unset] [(.ref a1)])) rfl rfl (hb hby d5_29)
    have VO13 := V_b
    obtain ⟨cl13, Ar13, q13, S13, M13, H13, G13⟩ := VO13
    have hin13 : ¬ ((1 : Int32) < 0 ∨ cl13.slots.size ≤ ((1 : Int32)).toNatClampNeg) := inb_of S13 hin
    have hat13 : cl13.slots[((1 : Int32)).toNatClampNeg]? = some (.long v2) := H13.at hin13 rfl
    have pre14 : ∀ tt, Steps p.tables e below (T12.setTop (mkF m 45 #[.val (.ref a1), .val (.int f1), .unset] [(.int (lcmpW (v2 &&& ((1 : Int64) <<< (f1 &&& 0x3f).toInt64)) (0 : Int64)))])) tt → Steps p.tables e below (s₁.setTop (entryFrame m #[(.ref a1), (.int f1)] 3)) tt := by
      intro tt kt
      refine pre0 tt ?_
      show Steps p.tables e below (s₁.setTop (mkF m 0 #[.val (.ref a1), .val (.int f1), .unset] [])) _
      refine XS.iloadN X0.here hx rfl (hb hby d5_0) rfl ?_
      show Steps p.tables e below (s₁.setTop (mkF m 1 #[.val (.ref a1), .val (.int f1), .unset] [(.int f1)])) _
      refine XS.bipush X0.here hx rfl (hb hby d5_1) ?_
      show Steps p.tables e below (s₁.setTop (mkF m 3 #[.val (.ref a1), .val (.int f1), .unset] [(.int (64 : Int32)), (.int f1)])) _
      refine XS.icmpYes X0.here hx rfl (pc0 := 3) (pc' := 28) rfl (hb hby d5_3) rfl (flt (fun q => absurd (hq.mp q) (by decide))).2.1 (by decide) (by decide) ?_
      show Steps p.tables e below (s₁.setTop (mkF m 28 #[.val (.ref a1), .val (.int f1), .unset] [])) _
      refine XS.aloadN X0.here hx rfl (hb hby d5_28) rfl rfl ?_
      show Steps p.tables e below (s₁.setTop (mkF m 29 #[.val (.ref a1), .val (.int f1), .unset] [(.ref a1)])) _
      refine st12 _ ?_
      show Steps p.tables e below (T12.setTop (mkF m 32 #[.val (.ref a1), .val (.int f1), .unset] [(.ref b)])) _
      refine XS.iloadN X12.here hx rfl (hb hby d5_32) rfl ?_
      show Steps p.tables e below (T12.setTop (mkF m 33 #[.val (.ref a1), .val (.int f1), .unset] [(.int f1), (.ref b)])) _
      refine XS.bipush X12.here hx rfl (hb hby d5_33) ?_
      show Steps p.tables e below (T12.setTop (mkF m 35 #[.val (.ref a1), .val (.int f1), .unset] [(.int (64 : Int32)), (.int f1), (.ref b)])) _
      refine XS.idiv X12.here hx rfl (hb hby d5_35) rfl (by decide : ¬ ((64 : Int32) = (0 : Int32))) ?_
      show Steps p.tables e below (T12.setTop (mkF m 36 #[.val (.ref a1), .val (.int f1), .unset] [(.int (f1 / (64 : Int32))), (.ref b)])) _
      refine XS.iconst X12.here hx rfl (hb hby d5_36) ?_
      show Steps p.tables e below (T12.setTop (mkF m 37 #[.val (.ref a1), .val (.int f1), .unset] [(.int (1 : Int32)), (.int (f1 / (64 : Int32))), (.ref b)])) _
      refine XS.isub X12.here hx rfl (hb hby d5_37) rfl ?_
      show Steps p.tables e below (T12.setTop (mkF m 38 #[.val (.ref a1), .val (.int f1), .unset] [(.int ((f1 / (64 : Int32)) - (1 : Int32))), (.ref b)])) _
      rw [hj]
      show Steps p.tables e below (T12.setTop (mkF m 38 #[.val (.ref a1), .val (.int f1), .unset] [(.int (1 : Int32)), (.ref b)])) _
      refine X12.laload hx (j := (1 : Int32)) (v := (.long v2)) (by rw [e12]; exact Ar13.1) (State.isArrayOf_alike hZ.alike Ar13.2.1) Ar13.2.2 hin13 hat13 (g := (mkF m 38 #[.val (.ref a1), .val (.int f1), .unset] [(.int (1 : Int32)), (.ref b)])) rfl rfl (hb hby d5_38) _ ?_
      show Steps p.tables e below (T12.setTop (mkF m 39 #[.val (.ref a1), .val (.int f1), .unset] [(.long v2)])) _
      refine XS.lconst X12.here hx rfl (hb hby d5_39) ?_
      show Steps p.tables e below (T12.setTop (mkF m 40 #[.val (.ref a1), .val (.int f1), .unset] [(.long (1 : Int64)), (.long v2)])) _
      refine XS.iloadN X12.here hx rfl (hb hby d5_40) rfl ?_
      show Steps p.tables e below (T12.setTop (mkF m 41 #[.val (.ref a1), .val (.int f1), .unset] [(.int f1), (.long (1 : Int64)), (.long v2)])) _
      refine XS.lshl X12.here hx rfl (hb hby d5_41) rfl ?_
      show Steps p.tables e below (T12.setTop (mkF m 42 #[.val (.ref a1), .val (.int f1), .unset] [(.long ((1 : Int64) <<< (f1 &&& 0x3f).toInt64)), (.long v2)])) _
      refine XS.land X12.here hx rfl (hb hby d5_42) rfl ?_
      show Steps p.tables e below (T12.setTop (mkF m 43 #[.val (.ref a1), .val (.int f1), .unset] [(.long (v2 &&& ((1 : Int64) <<< (f1 &&& 0x3f).toInt64)))])) _
      refine XS.lconst X12.here hx rfl (hb hby d5_43) ?_
      show Steps p.tables e below (T12.setTop (mkF m 44 #[.val (.ref a1), .val (.int f1), .unset] [(.long (0 : Int64)), (.long (v2 &&& ((1 : Int64) <<< (f1 &&& 0x3f).toInt64)))])) _
      refine XS.lcmp X12.here hx rfl (hb hby d5_44) rfl ?_
      exact kt
    by_cases c45_15 : (lcmpW (v2 &&& ((1 : Int64) <<< (f1 &&& 0x3f).toInt64)) (0 : Int64)) = (0 : Int32)
    · have pre16 : ∀ tt, Steps p.tables e below (T12.setTop (mkF m 55 #[.val (.ref a1), .val (.int f1), .val (.int (0 : Int32))] [(.int (0 : Int32))])) tt → Steps p.tables e below (s₁.setTop (entryFrame m #[(.ref a1), (.int f1)] 3)) tt := by
        intro tt kt
        refine pre14 tt ?_
        show Steps p.tables e below (T12.setTop (mkF m 45 #[.val (.ref a1), .val (.int f1), .unset] [(.int (lcmpW (v2 &&& ((1 : Int64) <<< (f1 &&& 0x3f).toInt64)) (0 : Int64)))])) _
        refine XS.ifYes X12.here hx rfl (pc0 := 45) (pc' := 52) rfl (hb hby d5_45) rfl ((if0 _ _).trans (teq c45_15).1) (by decide) (by decide) ?_
        show Steps p.tables e below (T12.setTop (mkF m 52 #[.val (.ref a1), .val (.int f1), .unset] [])) _
        refine XS.iconst X12.here hx rfl (hb hby d5_52) ?_
        show Steps p.tables e below (T12.setTop (mkF m 53 #[.val (.ref a1), .val (.int f1), .unset] [(.int (0 : Int32))])) _
        refine XS.istoreN X12.here hx rfl (hb hby d5_53) rfl (l' := #[.val (.ref a1), .val (.int f1), .val (.int (0 : Int32))]) rfl ?_
        show Steps p.tables e below (T12.setTop (mkF m 54 #[.val (.ref a1), .val (.int f1), .val (.int (0 : Int32))] [])) _
        refine XS.iloadN X12.here hx rfl (hb hby d5_54) rfl ?_
        exact kt
      obtain ⟨fs, hr, hrun, hended, hW, hsame⟩ := X12.leave (v := some (.int (0 : Int32))) (fun h => by rw [Bd.returns] at h; cases h)
      refine ⟨_, _, pre16 _ ?_, hrun, hended, _, _, rfl, ?_, ⟨_, rfl⟩, hW, hsame.mono (by decide) (by decide)⟩
      · show Steps p.tables e below (T12.setTop (mkF m 55 #[.val (.ref a1), .val (.int f1), .val (.int (0 : Int32))] [(.int (0 : Int32))])) _
        exact retN X12 hx (t := .boolean) Bd.returns (by simp) (hb hby d5_55) hr
      · show QI Z r h0 n0 _ T12.heap _
        rw [e12]
        exact ⟨by rw [hr0, if_pos ((lw_eq _ _).mp c45_15)], N0, rfl⟩
    · have pre17 : ∀ tt, Steps p.tables e below (T12.setTop (mkF m 55 #[.val (.ref a1), .val (.int f1), .val (.int (1 : Int32))] [(.int (1 : Int32))])) tt → Steps p.tables e below (s₁.setTop (entryFrame m #[(.ref a1), (.int f1)] 3)) tt := by
        intro tt kt
        refine pre14 tt ?_
        show Steps p.tables e below (T12.setTop (mkF m 45 #[.val (.ref a1), .val (.int f1), .unset] [(.int (lcmpW (v2 &&& ((1 : Int64) <<< (f1 &&& 0x3f).toInt64)) (0 : Int64)))])) _
        refine XS.ifNo X12.here hx rfl (hb hby d5_45) rfl ((if0 _ _).trans (feq c45_15).1) ?_
        show Steps p.tables e below (T12.setTop (mkF m 48 #[.val (.ref a1), .val (.int f1), .unset] [])) _
        refine XS.iconst X12.here hx rfl (hb hby d5_48) ?_
        show Steps p.tables e below (T12.setTop (mkF m 49 #[.val (.ref a1), .val (.int f1), .unset] [(.int (1 : Int32))])) _
        refine XS.goto X12.here hx rfl (pc0 := 49) (pc' := 53) rfl (hb hby d5_49) (by decide) (by decide) ?_
        show Steps p.tables e below (T12.setTop (mkF m 53 #[.val (.ref a1), .val (.int f1), .unset] [(.int (1 : Int32))])) _
        refine XS.istoreN X12.here hx rfl (hb hby d5_53) rfl (l' := #[.val (.ref a1), .val (.int f1), .val (.int (1 : Int32))]) rfl ?_
        show Steps p.tables e below (T12.setTop (mkF m 54 #[.val (.ref a1), .val (.int f1), .val (.int (1 : Int32))] [])) _
        refine XS.iloadN X12.here hx rfl (hb hby d5_54) rfl ?_
        exact kt
      obtain ⟨fs, hr, hrun, hended, hW, hsame⟩ := X12.leave (v := some (.int (1 : Int32))) (fun h => by rw [Bd.returns] at h; cases h)
      refine ⟨_, _, pre17 _ ?_, hrun, hended, _, _, rfl, ?_, ⟨_, rfl⟩, hW, hsame.mono (by decide) (by decide)⟩
      · show Steps p.tables e below (T12.setTop (mkF m 55 #[.val (.ref a1), .val (.int f1), .val (.int (1 : Int32))] [(.int (1 : Int32))])) _
        exact retN X12 hx (t := .boolean) Bd.returns (by simp) (hb hby d5_55) hr
      · show QI Z r h0 n0 _ T12.heap _
        rw [e12]
        exact ⟨by rw [hr0, if_neg (fun q => c45_15 ((lw_eq _ _).mpr q))], N0, rfl⟩
  · rw [own_w3] at hr0
    have hj : ((f1 / (64 : Int32)) - (1 : Int32)) = (2 : Int32) := by rw [hdv]; decide
    have hin : ¬ (2 : Int32) < 0 ∧ (2 : Int32) < z1 := ⟨by decide, own_jz hz (by decide)⟩
    obtain ⟨T18, X18, e18, st18⟩ := getF X0 hx hZ hown (host := "") (Or.inl (hw _ (List.mem_of_getElem? (i := 12) rfl))) Via.refl e0 F_g (g := (mkF m 29 #[.val (.ref a1), .val (.int f1), .unset] [(.ref a1)])) rfl rfl (hb hby d5_29)
    have VO19 := V_b
    obtain ⟨cl19, Ar19, q19, S19, M19, H19, G19⟩ := VO19
    have hin19 : ¬ ((2 : Int32) < 0 ∨ cl19.slots.size ≤ ((2 : Int32)).toNatClampNeg) := inb_of S19 hin
    have hat19 : cl19.slots[((2 : Int32)).toNatClampNeg]? = some (.long v3) := H19.at hin19 rfl
    have pre20 : ∀ tt, Steps p.tables e below (T18.setTop (mkF m 45 #[.val (.ref a1), .val (.int f1), .unset] [(.int (lcmpW (v3 &&& ((1 : Int64) <<< (f1 &&& 0x3f).toInt64)) (0 : Int64)))])) tt → Steps p.tables e below (s₁.setTop (entryFrame m #[(.ref a1), (.int f1)] 3)) tt := by
      intro tt kt
      refine pre0 tt ?_
      show Steps p.tables e below (s₁.setTop (mkF m 0 #[.val (.ref a1), .val (.int f1), .unset] [])) _
      refine XS.iloadN X0.here hx rfl (hb hby d5_0) rfl ?_
      show Steps p.tables e below (s₁.setTop (mkF m 1 #[.val (.ref a1), .val (.int f1), .unset] [(.int f1)])) _
      refine XS.bipush X0.here hx rfl (hb hby d5_1) ?_
      show Steps p.tables e below (s₁.setTop (mkF m 3 #[.val (.ref a1), .val (.int f1), .unset] [(.int (64 : Int32)), (.int f1)])) _
      refine XS.icmpYes X0.here hx rfl (pc0 := 3) (pc' := 28) rfl (hb hby d5_3) rfl (flt (fun q => absurd (hq.mp q) (by decide))).2.1 (by decide) (by decide) ?_
      show Steps p.tables e below (s₁.setTop (mkF m 28 #[.val (.ref a1), .val (.int f1), .unset] [])) _
      refine XS.aloadN X0.here hx rfl (hb hby d5_28) rfl rfl ?_
      show Steps p.tables e below (s₁.setTop (mkF m 29 #[.val (.ref a1), .val (.int f1), .unset] [(.ref a1)])) _
      refine st18 _ ?_
      show Steps p.tables e below (T18.setTop (mkF m 32 #[.val (.ref a1), .val (.int f1), .unset] [(.ref b)])) _
      refine XS.iloadN X18.here hx rfl (hb hby d5_32) rfl ?_
      show Steps p.tables e below (T18.setTop (mkF m 33 #[.val (.ref a1), .val (.int f1), .unset] [(.int f1), (.ref b)])) _
      refine XS.bipush X18.here hx rfl (hb hby d5_33) ?_
      show Steps p.tables e below (T18.setTop (mkF m 35 #[.val (.ref a1), .val (.int f1), .unset] [(.int (64 : Int32)), (.int f1), (.ref b)])) _
      refine XS.idiv X18.here hx rfl (hb hby d5_35) rfl (by decide : ¬ ((64 : Int32) = (0 : Int32))) ?_
      show Steps p.tables e below (T18.setTop (mkF m 36 #[.val (.ref a1), .val (.int f1), .unset] [(.int (f1 / (64 : Int32))), (.ref b)])) _
      refine XS.iconst X18.here hx rfl (hb hby d5_36) ?_
      show Steps p.tables e below (T18.setTop (mkF m 37 #[.val (.ref a1), .val (.int f1), .unset] [(.int (1 : Int32)), (.int (f1 / (64 : Int32))), (.ref b)])) _
      refine XS.isub X18.here hx rfl (hb hby d5_37) rfl ?_
      show Steps p.tables e below (T18.setTop (mkF m 38 #[.val (.ref a1), .val (.int f1), .unset] [(.int ((f1 / (64 : Int32)) - (1 : Int32))), (.ref b)])) _
      rw [hj]
      show Steps p.tables e below (T18.setTop (mkF m 38 #[.val (.ref a1), .val (.int f1), .unset] [(.int (2 : Int32)), (.ref b)])) _
      refine X18.laload hx (j := (2 : Int32)) (v := (.long v3)) (by rw [e18]; exact Ar19.1) (State.isArrayOf_alike hZ.alike Ar19.2.1) Ar19.2.2 hin19 hat19 (g := (mkF m 38 #[.val (.ref a1), .val (.int f1), .unset] [(.int (2 : Int32)), (.ref b)])) rfl rfl (hb hby d5_38) _ ?_
      show Steps p.tables e below (T18.setTop (mkF m 39 #[.val (.ref a1), .val (.int f1), .unset] [(.long v3)])) _
      refine XS.lconst X18.here hx rfl (hb hby d5_39) ?_
      show Steps p.tables e below (T18.setTop (mkF m 40 #[.val (.ref a1), .val (.int f1), .unset] [(.long (1 : Int64)), (.long v3)])) _
      refine XS.iloadN X18.here hx rfl (hb hby d5_40) rfl ?_
      show Steps p.tables e below (T18.setTop (mkF m 41 #[.val (.ref a1), .val (.int f1), .unset] [(.int f1), (.long (1 : Int64)), (.long v3)])) _
      refine XS.lshl X18.here hx rfl (hb hby d5_41) rfl ?_
      show Steps p.tables e below (T18.setTop (mkF m 42 #[.val (.ref a1), .val (.int f1), .unset] [(.long ((1 : Int64) <<< (f1 &&& 0x3f).toInt64)), (.long v3)])) _
      refine XS.land X18.here hx rfl (hb hby d5_42) rfl ?_
      show Steps p.tables e below (T18.setTop (mkF m 43 #[.val (.ref a1), .val (.int f1), .unset] [(.long (v3 &&& ((1 : Int64) <<< (f1 &&& 0x3f).toInt64)))])) _
      refine XS.lconst X18.here hx rfl (hb hby d5_43) ?_
      show Steps p.tables e below (T18.setTop (mkF m 44 #[.val (.ref a1), .val (.int f1), .unset] [(.long (0 : Int64)), (.long (v3 &&& ((1 : Int64) <<< (f1 &&& 0x3f).toInt64)))])) _
      refine XS.lcmp X18.here hx rfl (hb hby d5_44) rfl ?_
      exact kt
    by_cases c45_21 : (lcmpW (v3 &&& ((1 : Int64) <<< (f1 &&& 0x3f).toInt64)) (0 : Int64)) = (0 : Int32)
    · have pre22 : ∀ tt, Steps p.tables e below (T18.setTop (mkF m 55 #[.val (.ref a1), .val (.int f1), .val (.int (0 : Int32))] [(.int (0 : Int32))])) tt → Steps p.tables e below (s₁.setTop (entryFrame m #[(.ref a1), (.int f1)] 3)) tt := by
        intro tt kt
        refine pre20 tt ?_
        show Steps p.tables e below (T18.setTop (mkF m 45 #[.val (.ref a1), .val (.int f1), .unset] [(.int (lcmpW (v3 &&& ((1 : Int64) <<< (f1 &&& 0x3f).toInt64)) (0 : Int64)))])) _
        refine XS.ifYes X18.here hx rfl (pc0 := 45) (pc' := 52) rfl (hb hby d5_45) rfl ((if0 _ _).trans (teq c45_21).1) (by decide) (by decide) ?_
        show Steps p.tables e below (T18.setTop (mkF m 52 #[.val (.ref a1), .val (.int f1), .unset] [])) _
        refine XS.iconst X18.here hx rfl (hb hby d5_52) ?_
        show Steps p.tables e below (T18.setTop (mkF m 53 #[.val (.ref a1), .val (.int f1), .unset] [(.int (0 : Int32))])) _
        refine XS.istoreN X18.here hx rfl (hb hby d5_53) rfl (l' := #[.val (.ref a1), .val (.int f1), .val (.int (0 : Int32))]) rfl ?_
        show Steps p.tables e below (T18.setTop (mkF m 54 #[.val (.ref a1), .val (.int f1), .val (.int (0 : Int32))] [])) _
        refine XS.iloadN X18.here hx rfl (hb hby d5_54) rfl ?_
        exact kt
      obtain ⟨fs, hr, hrun, hended, hW, hsame⟩ := X18.leave (v := some (.int (0 : Int32))) (fun h => by rw [Bd.returns] at h; cases h)
      refine ⟨_, _, pre22 _ ?_, hrun, hended, _, _, rfl, ?_, ⟨_, rfl⟩, hW, hsame.mono (by decide) (by decide)⟩
      · show Steps p.tables e below (T18.setTop (mkF m 55 #[.val (.ref a1), .val (.int f1), .val (.int (0 : Int32))] [(.int (0 : Int32))])) _
        exact retN X18 hx (t := .boolean) Bd.returns (by simp) (hb hby d5_55) hr
      · show QI Z r h0 n0 _ T18.heap _
        rw [e18]
        exact ⟨by rw [hr0, if_pos ((lw_eq _ _).mp c45_21)], N0, rfl⟩
    · have pre23 : ∀ tt, Steps p.tables e below (T18.setTop (mkF m 55 #[.val (.ref a1), .val (.int f1), .val (.int (1 : Int32))] [(.int (1 : Int32))])) tt → Steps p.tables e below (s₁.setTop (entryFrame m #[(.ref a1), (.int f1)] 3)) tt := by
        intro tt kt
        refine pre20 tt ?_
        show Steps p.tables e below (T18.setTop (mkF m 45 #[.val (.ref a1), .val (.int f1), .unset] [(.int (lcmpW (v3 &&& ((1 : Int64) <<< (f1 &&& 0x3f).toInt64)) (0 : Int64)))])) _
        refine XS.ifNo X18.here hx rfl (hb hby d5_45) rfl ((if0 _ _).trans (feq c45_21).1) ?_
        show Steps p.tables e below (T18.setTop (mkF m 48 #[.val (.ref a1), .val (.int f1), .unset] [])) _
        refine XS.iconst X18.here hx rfl (hb hby d5_48) ?_
        show Steps p.tables e below (T18.setTop (mkF m 49 #[.val (.ref a1), .val (.int f1), .unset] [(.int (1 : Int32))])) _
        refine XS.goto X18.here hx rfl (pc0 := 49) (pc' := 53) rfl (hb hby d5_49) (by decide) (by decide) ?_
        show Steps p.tables e below (T18.setTop (mkF m 53 #[.val (.ref a1), .val (.int f1), .unset] [(.int (1 : Int32))])) _
        refine XS.istoreN X18.here hx rfl (hb hby d5_53) rfl (l' := #[.val (.ref a1), .val (.int f1), .val (.int (1 : Int32))]) rfl ?_
        show Steps p.tables e below (T18.setTop (mkF m 54 #[.val (.ref a1), .val (.int f1), .val (.int (1 : Int32))] [])) _
        refine XS.iloadN X18.here hx rfl (hb hby d5_54) rfl ?_
        exact kt
      obtain ⟨fs, hr, hrun, hended, hW, hsame⟩ := X18.leave (v := some (.int (1 : Int32))) (fun h => by rw [Bd.returns] at h; cases h)
      refine ⟨_, _, pre23 _ ?_, hrun, hended, _, _, rfl, ?_, ⟨_, rfl⟩, hW, hsame.mono (by decide) (by decide)⟩
      · show Steps p.tables e below (T18.setTop (mkF m 55 #[.val (.ref a1), .val (.int f1), .val (.int (1 : Int32))] [(.int (1 : Int32))])) _
        exact retN X18 hx (t := .boolean) Bd.returns (by simp) (hb hby d5_55) hr
      · show QI Z r h0 n0 _ T18.heap _
        rw [e18]
        exact ⟨by rw [hr0, if_neg (fun q => c45_21 ((lw_eq _ _).mpr q))], N0, rfl⟩
theorem d3_0 : decode prog_6_method_4_code 0 = .ok (.iload_n 1, 1) := by decide +kernel
theorem d3_1 : decode prog_6_method_4_code 1 = .ok (.bipush 64, 2) := by decide +kernel
theorem d3_3 : decode prog_6_method_4_code 3 = .ok (.if_icmp .ge 18, 3) := by decide +kernel
theorem d3_6 : decode prog_6_method_4_code 6 = .ok (.aload_n 0, 1) := by decide +kernel
theorem d3_7 : decode prog_6_method_4_code 7 = .ok (.dup, 1) := by decide +kernel
theorem d3_8 : decode prog_6_method_4_code 8 = .ok (.getfield 18, 3) := by decide +kernel
theorem d3_11 : decode prog_6_method_4_code 11 = .ok (.lconst 1, 1) := by decide +kernel
theorem d3_12 : decode prog_6_method_4_code 12 = .ok (.iload_n 1, 1) := by decide +kernel
theorem d3_13 : decode prog_6_method_4_code 13 = .ok (.lshl, 1) := by decide +kernel
theorem d3_14 : decode prog_6_method_4_code 14 = .ok (.lor, 1) := by decide +kernel
theorem d3_15 : decode prog_6_method_4_code 15 = .ok (.putfield 18, 3) := by decide +kernel
theorem d3_18 : decode prog_6_method_4_code 18 = .ok (.goto 20, 3) := by decide +kernel
theorem d3_21 : decode prog_6_method_4_code 21 = .ok (.aload_n 0, 1) := by decide +kernel
theorem d3_22 : decode prog_6_method_4_code 22 = .ok (.getfield 15, 3) := by decide +kernel
theorem d3_25 : decode prog_6_method_4_code 25 = .ok (.iload_n 1, 1) := by decide +kernel
theorem d3_26 : decode prog_6_method_4_code 26 = .ok (.bipush 64, 2) := by decide +kernel
theorem d3_28 : decode prog_6_method_4_code 28 = .ok (.idiv, 1) := by decide +kernel
theorem d3_29 : decode prog_6_method_4_code 29 = .ok (.iconst 1, 1) := by decide +kernel
theorem d3_30 : decode prog_6_method_4_code 30 = .ok (.isub, 1) := by decide +kernel
theorem d3_31 : decode prog_6_method_4_code 31 = .ok (.dup2, 1) := by decide +kernel
theorem d3_32 : decode prog_6_method_4_code 32 = .ok (.laload, 1) := by decide +kernel
theorem d3_33 : decode prog_6_method_4_code 33 = .ok (.lconst 1, 1) := by decide +kernel
theorem d3_34 : decode prog_6_method_4_code 34 = .ok (.iload_n 1, 1) := by decide +kernel
theorem d3_35 : decode prog_6_method_4_code 35 = .ok (.lshl, 1) := by decide +kernel
theorem d3_36 : decode prog_6_method_4_code 36 = .ok (.lor, 1) := by decide +kernel
theorem d3_37 : decode prog_6_method_4_code 37 = .ok (.lastore, 1) := by decide +kernel
theorem d3_38 : decode prog_6_method_4_code 38 = .ok (.return_, 1) := by decide +kernel
theorem pn_rmA : plainName "com/example/phase7/phase7/metadata/FieldSet" = true := by first | (simp [plainName, overriddenIn]; done) | decide +kernel
theorem ef_rmA (m : MethodId) (a1 : Addr) (f1 : Int32) : entryFrame m #[(.ref a1), (.int f1)] 2 = mkF m 0 #[.val (.ref a1), .val (.int f1)] [] := by first | (simp [entryFrame, mkF, argsToLocals, Value.category]; done) | rfl
set_option maxRecDepth 65536 in
set_option maxHeartbeats 40000000 in
theorem rmA (l : Launch) (Z : State) (a0 : Array Value) (hw : ∀ d ∈ tables_1, d.before a0 Z = true) (ws : List Jvm.Cond) (a1 b : Addr) (kb : ClassId) (f1 q1 z1 : Int32) (v0 v1 v2 v3 u0 u1 u2 u3 : Int64) (h0 : Heap) (n0 : Nat) (Z0 : n0 ≤ h0.size) (E_a1 : Exa Z h0 a1 "com/example/phase7/phase7/metadata/FieldSet") (F_f : Fld Z h0 a1 "com/example/phase7/phase7/metadata/FieldSet" "first" "J" (.long v0)) (F_g : Fld Z h0 a1 "com/example/phase7/phase7/metadata/FieldSet" "further" "[J" (.ref b)) (V_b : Arv Z h0 b kb .long z1 [(.long v1), (.long v2), (.long v3)] (.long (0 : Int64))) (hne : a1 ≠ b) (hq : f1 < (64 : Int32) ↔ q1 = 0) (hdv : f1 / (64 : Int32) = q1) (rq : q1 = 0 ∨ q1 = 1 ∨ q1 = 2 ∨ q1 = 3) (hz : q1.toInt ≤ z1.toInt) (g_a1 : n0 ≤ a1) (gz : ¬ z1 = 0 → n0 ≤ b) (hu0 : u0 = if q1 = 0 then (v0 ||| ((1 : Int64) <<< (f1 &&& 0x3f).toInt64)) else v0) (hu1 : u1 = if q1 = 1 then (v1 ||| ((1 : Int64) <<< (f1 &&& 0x3f).toInt64)) else v1) (hu2 : u2 = if q1 = 2 then (v2 ||| ((1 : Int64) <<< (f1 &&& 0x3f).toInt64)) else v2) (hu3 : u3 = if q1 = 3 then (v3 ||| ((1 : Int64) <<< (f1 &&& 0x3f).toInt64)) else v3) :
    MetFree l (⟨"com/example/phase7/phase7/metadata/FieldSet", "add", "(I)V"⟩ : MethodName) (head1 (Jvm.Cond.code (⟨"com/example/phase7/phase7/metadata/FieldSet", "add", "(I)V"⟩ : MethodName) prog_6_method_4_code 2 none :: ws) ({ frames := 0, cells := 0, slots := 0, locals := 0 } : Room)) (fun a U => a = #[(.ref a1), (.int f1)] ∧ Z.Warmed39 U.vm ∧ U.heap = h0) (fun _ _ _ _ _ => True) (fun _ U o U' => ∃ v L, o = .returned v ∧ QA Z a1 b kb z1 u0 u1 u2 u3 h0 n0 v U'.heap L ∧ FrameEnd U o U' L ({ frames := 0, cells := 0, slots := 0, locals := 0 } : Room).cells ({ frames := 0, cells := 0, slots := 0, locals := 0 } : Room).slots) := by
  refine MetFree.of_bodySF (plainFor_of_name pn_rmA) hisR ?_
  intro p e s m args below meth c s₁ Bd hml0 hP hK
  obtain ⟨rfl, hZ, hh⟩ := hP
  have hx := Bd.exec
  have hby := Bd.bytes
  have hml : c.maxLocals = 2 := hml0
  have hown : s.vm.findClass "com/example/phase7/phase7/metadata/FieldSet" = some m.cls := findClass_of_methodNamed Bd.named
  have hnm := (name_of_methodNamed Bd.named Bd.method).1
  have X0 : Stand p l e ({ frames := 0, cells := 0, slots := 0, locals := 0 } : Room) s m #[(.ref a1), (.int f1)] below meth c s₁ [] 0 0 := Stand.of_body Bd
  have e0 : s₁.heap = h0 := by rw [← hh, Bd.state]; rfl
  have N0 := Fr.nil n0
  have pre0 : ∀ tt, Steps p.tables e below (s₁.setTop (mkF m 0 #[.val (.ref a1), .val (.int f1)] [])) tt → Steps p.tables e below (s₁.setTop (entryFrame m #[(.ref a1), (.int f1)] 2)) tt := fun tt kt => castTop (ef_rmA m a1 f1) kt
  rcases rq with rfl | rfl | rfl | rfl
  · rw [if_pos rfl] at hu0
    rw [if_neg (by decide)] at hu1
    rw [if_neg (by decide)] at hu2
    rw [if_neg (by decide)] at hu3
    have hq0 : f1 < (64 : Int32) := hq.mpr rfl
    obtain ⟨T1, X1, e1, st1⟩ := getF X0 hx hZ hown (host := "") (Or.inl (hw _ (List.mem_of_getElem? (i := 19) rfl))) Via.refl e0 F_f (g := (mkF m 8 #[.val (.ref a1), .val (.int f1)] [(.ref a1), (.ref a1)])) rfl rfl (hb hby d3_8)
    obtain ⟨T2, h2, X2, e2, W2, st2⟩ := putF X1 hx hZ hown (host := "") (Or.inl (hw _ (List.mem_of_getElem? (i := 19) rfl))) Via.refl e1 F_f E_a1 (Or.inl (hw _ (List.mem_of_getElem? (i := 20) rfl))) (hw _ (List.mem_of_getElem? (i := 2) rfl)) (ty := .long) (by decide) rfl rfl (g := (mkF m 15 #[.val (.ref a1), .val (.int f1)] [(.long (v0 ||| ((1 : Int64) <<< (f1 &&& 0x3f).toInt64))), (.ref a1)])) rfl rfl (hb hby d3_15)
    have Fw2 := Fld.same W2 F_f
    have N2 := Fr.snoc X2 N0 g_a1
    have K2 : Keep h0 h2 [a1, b] := ((Keep.refl h0 [a1, b])).wr W2 (Or.inl (List.mem_of_getElem? (i := 0) rfl))
    have pre3 : ∀ tt, Steps p.tables e below (T2.setTop (mkF m 38 #[.val (.ref a1), .val (.int f1)] [])) tt → Steps p.tables e below (s₁.setTop (entryFrame m #[(.ref a1), (.int f1)] 2)) tt := by
      intro tt kt
      refine pre0 tt ?_
      show Steps p.tables e below (s₁.setTop (mkF m 0 #[.val (.ref a1), .val (.int f1)] [])) _
      refine XS.iloadN X0.here hx rfl (hb hby d3_0) rfl ?_
      show Steps p.tables e below (s₁.setTop (mkF m 1 #[.val (.ref a1), .val (.int f1)] [(.int f1)])) _
      refine XS.bipush X0.here hx rfl (hb hby d3_1) ?_
      show Steps p.tables e below (s₁.setTop (mkF m 3 #[.val (.ref a1), .val (.int f1)] [(.int (64 : Int32)), (.int f1)])) _
      refine XS.icmpNo X0.here hx rfl (hb hby d3_3) rfl (tlt (hq.mpr rfl)).2.1 ?_
      show Steps p.tables e below (s₁.setTop (mkF m 6 #[.val (.ref a1), .val (.int f1)] [])) _
      refine XS.aloadN X0.here hx rfl (hb hby d3_6) rfl rfl ?_
      show Steps p.tables e below (s₁.setTop (mkF m 7 #[.val (.ref a1), .val (.int f1)] [(.ref a1)])) _
      refine XS.dup X0.here hx rfl (hb hby d3_7) rfl rfl ?_
      show Steps p.tables e below (s₁.setTop (mkF m 8 #[.val (.ref a1), .val (.int f1)] [(.ref a1), (.ref a1)])) _
      refine st1 _ ?_
      show Steps p.tables e below (T1.setTop (mkF m 11 #[.val (.ref a1), .val (.int f1)] [(.long v0), (.ref a1)])) _
      refine XS.lconst X1.here hx rfl (hb hby d3_11) ?_
      show Steps p.tables e below (T1.setTop (mkF m 12 #[.val (.ref a1), .val (.int f1)] [(.long (1 : Int64)), (.long v0), (.ref a1)])) _
      refine XS.iloadN X1.here hx rfl (hb hby d3_12) rfl ?_
      show Steps p.tables e below (T1.setTop (mkF m 13 #[.val (.ref a1), .val (.int f1)] [(.int f1), (.long (1 : Int64)), (.long v0), (.ref a1)])) _
      refine XS.lshl X1.here hx rfl (hb hby d3_13) rfl ?_
      show Steps p.tables e below (T1.setTop (mkF m 14 #[.val (.ref a1), .val (.int f1)] [(.long ((1 : Int64) <<< (f1 &&& 0x3f).toInt64)), (.long v0), (.ref a1)])) _
      refine XS.lor X1.here hx rfl (hb hby d3_14) rfl ?_
      show Steps p.tables e below (T1.setTop (mkF m 15 #[.val (.ref a1), .val (.int f1)] [(.long (v0 ||| ((1 : Int64) <<< (f1 &&& 0x3f).toInt64))), (.ref a1)])) _
      refine st2 _ ?_
      show Steps p.tables e below (T2.setTop (mkF m 18 #[.val (.ref a1), .val (.int f1)] [])) _
      refine XS.goto X2.here hx rfl (pc0 := 18) (pc' := 38) rfl (hb hby d3_18) (by decide) (by decide) ?_
      exact kt
    obtain ⟨fs, hr, hrun, hended, hW, hsame⟩ := X2.leave (v := none) (fun _ => rfl)
    refine ⟨_, _, pre3 _ ?_, hrun, hended, _, _, rfl, ?_, ⟨_, rfl⟩, hW, hsame.mono (by decide) (by decide)⟩
    · show Steps p.tables e below (T2.setTop (mkF m 38 #[.val (.ref a1), .val (.int f1)] [])) _
      exact X2.returnOut hx Bd.returns (hb hby d3_38) hr
    · show QA Z a1 b kb z1 u0 u1 u2 u3 h0 n0 _ T2.heap _
      rw [e2]
      rw [hu0, hu1, hu2, hu3]
      exact ⟨rfl, N2, K2, (Exa.wr W2 E_a1), Fw2, (Fld.other W2 F_g (Or.inr (slot_ne (Or.inr (hw _ (List.mem_of_getElem? (i := 13) rfl))) (Or.inl (hw _ (List.mem_of_getElem? (i := 20) rfl))) (by decide) (t := (.array .long)) (t' := .long) (by decide) (by decide)))), (V_b.other W2 (Ne.symm hne))⟩
  · rw [if_neg (by decide)] at hu0
    rw [if_pos rfl] at hu1
    rw [if_neg (by decide)] at hu2
    rw [if_neg (by decide)] at hu3
    have hj : ((f1 / (64 : Int32)) - (1 : Int32)) = (0 : Int32) := by rw [hdv]; decide
    have hin : ¬ (0 : Int32) < 0 ∧ (0 : Int32) < z1 := ⟨by decide, own_jz hz (by decide)⟩
    have g_b : n0 ≤ b := gz (fun q => by rw [q] at hz; exact absurd hz (by decide))
    obtain ⟨T4, X4, e4, st4⟩ := getF X0 hx hZ hown (host := "") (Or.inl (hw _ (List.mem_of_getElem? (i := 12) rfl))) Via.refl e0 F_g (g := (mkF m 22 #[.val (.ref a1), .val (.int f1)] [(.ref a1)])) rfl rfl (hb hby d3_22)
    have VO5 := V_b
    obtain ⟨cl5, Ar5, q5, S5, M5, H5, G5⟩ := VO5
    have hin5 : ¬ ((0 : Int32) < 0 ∨ cl5.slots.size ≤ ((0 : Int32)).toNatClampNeg) := inb_of S5 hin
    have hat5 : cl5.slots[((0 : Int32)).toNatClampNeg]? = some (.long v1) := H5.at hin5 rfl
    have VO6 := V_b
    obtain ⟨cl6, Ar6, q6, S6, M6, H6, G6⟩ := VO6
    have hin6 : ¬ ((0 : Int32) < 0 ∨ cl6.slots.size ≤ ((0 : Int32)).toNatClampNeg) := inb_of S6 hin
    obtain ⟨T7, h7, X7, e7, W7, st7⟩ := stJ X4 hx hZ e4 Ar6 (j := (0 : Int32)) hin6 (g := (mkF m 37 #[.val (.ref a1), .val (.int f1)] [(.long (v1 ||| ((1 : Int64) <<< (f1 &&& 0x3f).toInt64))), (.int (0 : Int32)), (.ref b)])) rfl rfl (hb hby d3_37)
    have N7 := Fr.snoc X7 N0 g_b
    have K7 : Keep h0 h7 [a1, b] := ((Keep.refl h0 [a1, b])).wr W7 (Or.inl (List.mem_of_getElem? (i := 1) rfl))
    have V7 : Arv Z h7 b kb .long z1 [(.long (v1 ||| ((1 : Int64) <<< (f1 &&& 0x3f).toInt64))), (.long v2), (.long v3)] (.long (0 : Int64)) := Arv.set Ar6 q6 S6 M6 H6 G6 rfl W7 0 rfl (Nat.le_of_ble_eq_true rfl)
    have pre8 : ∀ tt, Steps p.tables e below (T7.setTop (mkF m 38 #[.val (.ref a1), .val (.int f1)] [])) tt → Steps p.tables e below (s₁.setTop (entryFrame m #[(.ref a1), (.int f1)] 2)) tt := by
      intro tt kt
      refine pre0 tt ?_
      show Steps p.tables e below (s₁.setTop (mkF m 0 #[.val (.ref a1), .val (.int f1)] [])) _
      refine XS.iloadN X0.here hx rfl (hb hby d3_0) rfl ?_
      show Steps p.tables e below (s₁.setTop (mkF m 1 #[.val (.ref a1), .val (.int f1)] [(.int f1)])) _
      refine XS.bipush X0.here hx rfl (hb hby d3_1) ?_
      show Steps p.tables e below (s₁.setTop (mkF m 3 #[.val (.ref a1), .val (.int f1)] [(.int (64 : Int32)), (.int f1)])) _
      refine XS.icmpYes X0.here hx rfl (pc0 := 3) (pc' := 21) rfl (hb hby d3_3) rfl (flt (fun q => absurd (hq.mp q) (by decide))).2.1 (by decide) (by decide) ?_
      show Steps p.tables e below (s₁.setTop (mkF m 21 #[.val (.ref a1), .val (.int f1)] [])) _
      refine XS.aloadN X0.here hx rfl (hb hby d3_21) rfl rfl ?_
      show Steps p.tables e below (s₁.setTop (mkF m 22 #[.val (.ref a1), .val (.int f1)] [(.ref a1)])) _
      refine st4 _ ?_
      show Steps p.tables e below (T4.setTop (mkF m 25 #[.val (.ref a1), .val (.int f1)] [(.ref b)])) _
      refine XS.iloadN X4.here hx rfl (hb hby d3_25) rfl ?_
      show Steps p.tables e below (T4.setTop (mkF m 26 #[.val (.ref a1), .val (.int f1)] [(.int f1), (.ref b)])) _
      refine XS.bipush X4.here hx rfl (hb hby d3_26) ?_
      show Steps p.tables e below (T4.setTop (mkF m 28 #[.val (.ref a1), .val (.int f1)] [(.int (64 : Int32)), (.int f1), (.ref b)])) _
      refine XS.idiv X4.here hx rfl (hb hby d3_28) rfl (by decide : ¬ ((64 : Int32) = (0 : Int32))) ?_
      show Steps p.tables e below (T4.setTop (mkF m 29 #[.val (.ref a1), .val (.int f1)] [(.int (f1 / (64 : Int32))), (.ref b)])) _
      refine XS.iconst X4.here hx rfl (hb hby d3_29) ?_
      show Steps p.tables e below (T4.setTop (mkF m 30 #[.val (.ref a1), .val (.int f1)] [(.int (1 : Int32)), (.int (f1 / (64 : Int32))), (.ref b)])) _
      refine XS.isub X4.here hx rfl (hb hby d3_30) rfl ?_
      show Steps p.tables e below (T4.setTop (mkF m 31 #[.val (.ref a1), .val (.int f1)] [(.int ((f1 / (64 : Int32)) - (1 : Int32))), (.ref b)])) _
      rw [hj]
      show Steps p.tables e below (T4.setTop (mkF m 31 #[.val (.ref a1), .val (.int f1)] [(.int (0 : Int32)), (.ref b)])) _
      refine XT.dup2 X4.here hx rfl (hb hby d3_31) rfl rfl rfl ?_
      show Steps p.tables e below (T4.setTop (mkF m 32 #[.val (.ref a1), .val (.int f1)] [(.int (0 : Int32)), (.ref b), (.int (0 : Int32)), (.ref b)])) _
      refine X4.laload hx (j := (0 : Int32)) (v := (.long v1)) (by rw [e4]; exact Ar5.1) (State.isArrayOf_alike hZ.alike Ar5.2.1) Ar5.2.2 hin5 hat5 (g := (mkF m 32 #[.val (.ref a1), .val (.int f1)] [(.int (0 : Int32)), (.ref b), (.int (0 : Int32)), (.ref b)])) rfl rfl (hb hby d3_32) _ ?_
      show Steps p.tables e below (T4.setTop (mkF m 33 #[.val (.ref a1), .val (.int f1)] [(.long v1), (.int (0 : Int32)), (.ref b)])) _
      refine XS.lconst X4.here hx rfl (hb hby d3_33) ?_
      show Steps p.tables e below (T4.setTop (mkF m 34 #[.val (.ref a1), .val (.int f1)] [(.long (1 : Int64)), (.long v1), (.int (0 : Int32)), (.ref b)])) _
      refine XS.iloadN X4.here hx rfl (hb hby d3_34) rfl ?_
      show Steps p.tables e below (T4.setTop (mkF m 35 #[.val (.ref a1), .val (.int f1)] [(.int f1), (.long (1 : Int64)), (.long v1), (.int (0 : Int32)), (.ref b)])) _
      refine XS.lshl X4.here hx rfl (hb hby d3_35) rfl ?_
      show Steps p.tables e below (T4.setTop (mkF m 36 #[.val (.ref a1), .val (.int f1)] [(.long ((1 : Int64) <<< (f1 &&& 0x3f).toInt64)), (.long v1), (.int (0 : Int32)), (.ref b)])) _
      refine XS.lor X4.here hx rfl (hb hby d3_36) rfl ?_
      show Steps p.tables e below (T4.setTop (mkF m 37 #[.val (.ref a1), .val (.int f1)] [(.long (v1 ||| ((1 : Int64) <<< (f1 &&& 0x3f).toInt64))), (.int (0 : Int32)), (.ref b)])) _
      refine st7 _ ?_
      exact kt
    obtain ⟨fs, hr, hrun, hended, hW, hsame⟩ := X7.leave (v := none) (fun _ => rfl)
    refine ⟨_, _, pre8 _ ?_, hrun, hended, _, _, rfl, ?_, ⟨_, rfl⟩, hW, hsame.mono (by decide) (by decide)⟩
    · show Steps p.tables e below (T7.setTop (mkF m 38 #[.val (.ref a1), .val (.int f1)] [])) _
      exact X7.returnOut hx Bd.returns (hb hby d3_38) hr
    · show QA Z a1 b kb z1 u0 u1 u2 u3 h0 n0 _ T7.heap _
      rw [e7]
      rw [hu0, hu1, hu2, hu3]
      exact ⟨rfl, N7, K7, (Exa.wr W7 E_a1), (Fld.other W7 F_f (Or.inl hne)), (Fld.other W7 F_g (Or.inl hne)), V7⟩
  · rw [if_neg (by decide)] at hu0
    rw [if_neg (by decide)] at hu1
    rw [if_pos rfl] at hu2
    rw [if_neg (by decide)] at hu3
    have hj : ((f1 / (64 : Int32)) - (1 : Int32)) = (1 : Int32) := by rw [hdv]; decide
    have hin : ¬ (1 : Int32) < 0 ∧ (1 : Int32) < z1 := ⟨by decide, own_jz hz (by decide)⟩
    have g_b : n0 ≤ b := gz (fun q => by rw [q] at hz; exact absurd hz (by decide))
    obtain ⟨T9, X9, e9, st9⟩ := getF X0 hx hZ hown (host := "") (Or.inl (hw _ (List.mem_of_getElem? (i := 12) rfl))) Via.refl e0 F_g (g := (mkF m 22 #[.val (.ref a1), .val (.int f1)] [(.ref a1)])) rfl rfl (hb hby d3_22)
    have VO10 := V_b
    obtain ⟨cl10, Ar10, q10, S10, M10, H10, G10⟩ := VO10
    have hin10 : ¬ ((1 : Int32) < 0 ∨ cl10.slots.size ≤ ((1 : Int32)).toNatClampNeg) := inb_of S10 hin
    have hat10 : cl10.slots[((1 : Int32)).toNatClampNeg]? = some (.long v2) := H10.at hin10 rfl
    have VO11 := V_b
    obtain ⟨cl11, Ar11, q11, S11, M11, H11, G11⟩ := VO11
    have hin11 : ¬ ((1 : Int32) < 0 ∨ cl11.slots.size ≤ ((1 : Int32)).toNatClampNeg) := inb_of S11 hin
    obtain ⟨T12, h12, X12, e12, W12, st12⟩ := stJ X9 hx hZ e9 Ar11 (j := (1 : Int32)) hin11 (g := (mkF m 37 #[.val (.ref a1), .val (.int f1)] [(.long (v2 ||| ((1 : Int64) <<< (f1 &&& 0x3f).toInt64))), (.int (1 : Int32)), (.ref b)])) rfl rfl (hb hby d3_37)
    have N12 := Fr.snoc X12 N0 g_b
    have K12 : Keep h0 h12 [a1, b] := ((Keep.refl h0 [a1, b])).wr W12 (Or.inl (List.mem_of_getElem? (i := 1) rfl))
    have V12 : Arv Z h12 b kb .long z1 [(.long v1), (.long (v2 ||| ((1 : Int64) <<< (f1 &&& 0x3f).toInt64))), (.long v3)] (.long (0 : Int64)) := Arv.set Ar11 q11 S11 M11 H11 G11 rfl W12 1 rfl (Nat.le_of_ble_eq_true rfl)
    have pre13 : ∀ tt, Steps p.tables e below (T12.setTop (mkF m 38 #[.val (.ref a1), .val (.int f1)] [])) tt → Steps p.tables e below (s₁.setTop (entryFrame m #[(.ref a1), (.int f1)] 2)) tt := by
      intro tt kt
      refine pre0 tt ?_
      show Steps p.tables e below (s₁.setTop (mkF m 0 #[.val (.ref a1), .val (.int f1)] [])) _
      refine XS.iloadN X0.here hx rfl (hb hby d3_0) rfl ?_
      show Steps p.tables e below (s₁.setTop (mkF m 1 #[.val (.ref a1), .val (.int f1)] [(.int f1)])) _
      refine XS.bipush X0.here hx rfl (hb hby d3_1) ?_
      show Steps p.tables e below (s₁.setTop (mkF m 3 #[.val (.ref a1), .val (.int f1)] [(.int (64 : Int32)), (.int f1)])) _
      refine XS.icmpYes X0.here hx rfl (pc0 := 3) (pc' := 21) rfl (hb hby d3_3) rfl (flt (fun q => absurd (hq.mp q) (by decide))).2.1 (by decide) (by decide) ?_
      show Steps p.tables e below (s₁.setTop (mkF m 21 #[.val (.ref a1), .val (.int f1)] [])) _
      refine XS.aloadN X0.here hx rfl (hb hby d3_21) rfl rfl ?_
      show Steps p.tables e below (s₁.setTop (mkF m 22 #[.val (.ref a1), .val (.int f1)] [(.ref a1)])) _
      refine st9 _ ?_
      show Steps p.tables e below (T9.setTop (mkF m 25 #[.val (.ref a1), .val (.int f1)] [(.ref b)])) _
      refine XS.iloadN X9.here hx rfl (hb hby d3_25) rfl ?_
      show Steps p.tables e below (T9.setTop (mkF m 26 #[.val (.ref a1), .val (.int f1)] [(.int f1), (.ref b)])) _
      refine XS.bipush X9.here hx rfl (hb hby d3_26) ?_
      show Steps p.tables e below (T9.setTop (mkF m 28 #[.val (.ref a1), .val (.int f1)] [(.int (64 : Int32)), (.int f1), (.ref b)])) _
      refine XS.idiv X9.here hx rfl (hb hby d3_28) rfl (by decide : ¬ ((64 : Int32) = (0 : Int32))) ?_
      show Steps p.tables e below (T9.setTop (mkF m 29 #[.val (.ref a1), .val (.int f1)] [(.int (f1 / (64 : Int32))), (.ref b)])) _
      refine XS.iconst X9.here hx rfl (hb hby d3_29) ?_
      show Steps p.tables e below (T9.setTop (mkF m 30 #[.val (.ref a1), .val (.int f1)] [(.int (1 : Int32)), (.int (f1 / (64 : Int32))), (.ref b)])) _
      refine XS.isub X9.here hx rfl (hb hby d3_30) rfl ?_
      show Steps p.tables e below (T9.setTop (mkF m 31 #[.val (.ref a1), .val (.int f1)] [(.int ((f1 / (64 : Int32)) - (1 : Int32))), (.ref b)])) _
      rw [hj]
      show Steps p.tables e below (T9.setTop (mkF m 31 #[.val (.ref a1), .val (.int f1)] [(.int (1 : Int32)), (.ref b)])) _
      refine XT.dup2 X9.here hx rfl (hb hby d3_31) rfl rfl rfl ?_
      show Steps p.tables e below (T9.setTop (mkF m 32 #[.val (.ref a1), .val (.int f1)] [(.int (1 : Int32)), (.ref b), (.int (1 : Int32)), (.ref b)])) _
      refine X9.laload hx (j := (1 : Int32)) (v := (.long v2)) (by rw [e9]; exact Ar10.1) (State.isArrayOf_alike hZ.alike Ar10.2.1) Ar10.2.2 hin10 hat10 (g := (mkF m 32 #[.val (.ref a1), .val (.int f1)] [(.int (1 : Int32)), (.ref b), (.int (1 : Int32)), (.ref b)])) rfl rfl (hb hby d3_32) _ ?_
      show Steps p.tables e below (T9.setTop (mkF m 33 #[.val (.ref a1), .val (.int f1)] [(.long v2), (.int (1 : Int32)), (.ref b)])) _
      refine XS.lconst X9.here hx rfl (hb hby d3_33) ?_
      show Steps p.tables e below (T9.setTop (mkF m 34 #[.val (.ref a1), .val (.int f1)] [(.long (1 : Int64)), (.long v2), (.int (1 : Int32)), (.ref b)])) _
      refine XS.iloadN X9.here hx rfl (hb hby d3_34) rfl ?_
      show Steps p.tables e below (T9.setTop (mkF m 35 #[.val (.ref a1), .val (.int f1)] [(.int f1), (.long (1 : Int64)), (.long v2), (.int (1 : Int32)), (.ref b)])) _
      refine XS.lshl X9.here hx rfl (hb hby d3_35) rfl ?_
      show Steps p.tables e below (T9.setTop (mkF m 36 #[.val (.ref a1), .val (.int f1)] [(.long ((1 : Int64) <<< (f1 &&& 0x3f).toInt64)), (.long v2), (.int (1 : Int32)), (.ref b)])) _
      refine XS.lor X9.here hx rfl (hb hby d3_36) rfl ?_
      show Steps p.tables e below (T9.setTop (mkF m 37 #[.val (.ref a1), .val (.int f1)] [(.long (v2 ||| ((1 : Int64) <<< (f1 &&& 0x3f).toInt64))), (.int (1 : Int32)), (.ref b)])) _
      refine st12 _ ?_
      exact kt
    obtain ⟨fs, hr, hrun, hended, hW, hsame⟩ := X12.leave (v := none) (fun _ => rfl)
    refine ⟨_, _, pre13 _ ?_, hrun, hended, _, _, rfl, ?_, ⟨_, rfl⟩, hW, hsame.mono (by decide) (by decide)⟩
    · show Steps p.tables e below (T12.setTop (mkF m 38 #[.val (.ref a1), .val (.int f1)] [])) _
      exact X12.returnOut hx Bd.returns (hb hby d3_38) hr
    · show QA Z a1 b kb z1 u0 u1 u2 u3 h0 n0 _ T12.heap _
      rw [e12]
      rw [hu0, hu1, hu2, hu3]
      exact ⟨rfl, N12, K12, (Exa.wr W12 E_a1), (Fld.other W12 F_f (Or.inl hne)), (Fld.other W12 F_g (Or.inl hne)), V12⟩
  · rw [if_neg (by decide)] at hu0
    rw [if_neg (by decide)] at hu1
    rw [if_neg (by decide)] at hu2
    rw [if_pos rfl] at hu3
    have hj : ((f1 / (64 : Int32)) - (1 : Int32)) = (2 : Int32) := by rw [hdv]; decide
    have hin : ¬ (2 : Int32) < 0 ∧ (2 : Int32) < z1 := ⟨by decide, own_jz hz (by decide)⟩
    have g_b : n0 ≤ b := gz (fun q => by rw [q] at hz; exact absurd hz (by decide))
    obtain ⟨T14, X14, e14, st14⟩ := getF X0 hx hZ hown (host := "") (Or.inl (hw _ (List.mem_of_getElem? (i := 12) rfl))) Via.refl e0 F_g (g := (mkF m 22 #[.val (.ref a1), .val (.int f1)] [(.ref a1)])) rfl rfl (hb hby d3_22)
    have VO15 := V_b
    obtain ⟨cl15, Ar15, q15, S15, M15, H15, G15⟩ := VO15
    have hin15 : ¬ ((2 : Int32) < 0 ∨ cl15.slots.size ≤ ((2 : Int32)).toNatClampNeg) := inb_of S15 hin
    have hat15 : cl15.slots[((2 : Int32)).toNatClampNeg]? = some (.long v3) := H15.at hin15 rfl
    have VO16 := V_b
    obtain ⟨cl16, Ar16, q16, S16, M16, H16, G16⟩ := VO16
    have hin16 : ¬ ((2 : Int32) < 0 ∨ cl16.slots.size ≤ ((2 : Int32)).toNatClampNeg) := inb_of S16 hin
    obtain ⟨T17, h17, X17, e17, W17, st17⟩ := stJ X14 hx hZ e14 Ar16 (j := (2 : Int32)) hin16 (g := (mkF m 37 #[.val (.ref a1), .val (.int f1)] [(.long (v3 ||| ((1 : Int64) <<< (f1 &&& 0x3f).toInt64))), (.int (2 : Int32)), (.ref b)])) rfl rfl (hb hby d3_37)
    have N17 := Fr.snoc X17 N0 g_b
    have K17 : Keep h0 h17 [a1, b] := ((Keep.refl h0 [a1, b])).wr W17 (Or.inl (List.mem_of_getElem? (i := 1) rfl))
    have V17 : Arv Z h17 b kb .long z1 [(.long v1), (.long v2), (.long (v3 ||| ((1 : Int64) <<< (f1 &&& 0x3f).toInt64)))] (.long (0 : Int64)) := Arv.set Ar16 q16 S16 M16 H16 G16 rfl W17 2 rfl (Nat.le_of_ble_eq_true rfl)
    have pre18 : ∀ tt, Steps p.tables e below (T17.setTop (mkF m 38 #[.val (.ref a1), .val (.int f1)] [])) tt → Steps p.tables e below (s₁.setTop (entryFrame m #[(.ref a1), (.int f1)] 2)) tt := by
      intro tt kt
      refine pre0 tt ?_
      show Steps p.tables e below (s₁.setTop (mkF m 0 #[.val (.ref a1), .val (.int f1)] [])) _
      refine XS.iloadN X0.here hx rfl (hb hby d3_0) rfl ?_
      show Steps p.tables e below (s₁.setTop (mkF m 1 #[.val (.ref a1), .val (.int f1)] [(.int f1)])) _
      refine XS.bipush X0.here hx rfl (hb hby d3_1) ?_
      show Steps p.tables e below (s₁.setTop (mkF m 3 #[.val (.ref a1), .val (.int f1)] [(.int (64 : Int32)), (.int f1)])) _
      refine XS.icmpYes X0.here hx rfl (pc0 := 3) (pc' := 21) rfl (hb hby d3_3) rfl (flt (fun q => absurd (hq.mp q) (by decide))).2.1 (by decide) (by decide) ?_
      show Steps p.tables e below (s₁.setTop (mkF m 21 #[.val (.ref a1), .val (.int f1)] [])) _
      refine XS.aloadN X0.here hx rfl (hb hby d3_21) rfl rfl ?_
      show Steps p.tables e below (s₁.setTop (mkF m 22 #[.val (.ref a1), .val (.int f1)] [(.ref a1)])) _
      refine st14 _ ?_
      show Steps p.tables e below (T14.setTop (mkF m 25 #[.val (.ref a1), .val (.int f1)] [(.ref b)])) _
      refine XS.iloadN X14.here hx rfl (hb hby d3_25) rfl ?_
      show Steps p.tables e below (T14.setTop (mkF m 26 #[.val (.ref a1), .val (.int f1)] [(.int f1), (.ref b)])) _
      refine XS.bipush X14.here hx rfl (hb hby d3_26) ?_
      show Steps p.tables e below (T14.setTop (mkF m 28 #[.val (.ref a1), .val (.int f1)] [(.int (64 : Int32)), (.int f1), (.ref b)])) _
      refine XS.idiv X14.here hx rfl (hb hby d3_28) rfl (by decide : ¬ ((64 : Int32) = (0 : Int32))) ?_
      show Steps p.tables e below (T14.setTop (mkF m 29 #[.val (.ref a1), .val (.int f1)] [(.int (f1 / (64 : Int32))), (.ref b)])) _
      refine XS.iconst X14.here hx rfl (hb hby d3_29) ?_
      show Steps p.tables e below (T14.setTop (mkF m 30 #[.val (.ref a1), .val (.int f1)] [(.int (1 : Int32)), (.int (f1 / (64 : Int32))), (.ref b)])) _
      refine XS.isub X14.here hx rfl (hb hby d3_30) rfl ?_
      show Steps p.tables e below (T14.setTop (mkF m 31 #[.val (.ref a1), .val (.int f1)] [(.int ((f1 / (64 : Int32)) - (1 : Int32))), (.ref b)])) _
      rw [hj]
      show Steps p.tables e below (T14.setTop (mkF m 31 #[.val (.ref a1), .val (.int f1)] [(.int (2 : Int32)), (.ref b)])) _
      refine XT.dup2 X14.here hx rfl (hb hby d3_31) rfl rfl rfl ?_
      show Steps p.tables e below (T14.setTop (mkF m 32 #[.val (.ref a1), .val (.int f1)] [(.int (2 : Int32)), (.ref b), (.int (2 : Int32)), (.ref b)])) _
      refine X14.laload hx (j := (2 : Int32)) (v := (.long v3)) (by rw [e14]; exact Ar15.1) (State.isArrayOf_alike hZ.alike Ar15.2.1) Ar15.2.2 hin15 hat15 (g := (mkF m 32 #[.val (.ref a1), .val (.int f1)] [(.int (2 : Int32)), (.ref b), (.int (2 : Int32)), (.ref b)])) rfl rfl (hb hby d3_32) _ ?_
      show Steps p.tables e below (T14.setTop (mkF m 33 #[.val (.ref a1), .val (.int f1)] [(.long v3), (.int (2 : Int32)), (.ref b)])) _
      refine XS.lconst X14.here hx rfl (hb hby d3_33) ?_
      show Steps p.tables e below (T14.setTop (mkF m 34 #[.val (.ref a1), .val (.int f1)] [(.long (1 : Int64)), (.long v3), (.int (2 : Int32)), (.ref b)])) _
      refine XS.iloadN X14.here hx rfl (hb hby d3_34) rfl ?_
      show Steps p.tables e below (T14.setTop (mkF m 35 #[.val (.ref a1), .val (.int f1)] [(.int f1), (.long (1 : Int64)), (.long v3), (.int (2 : Int32)), (.ref b)])) _
      refine XS.lshl X14.here hx rfl (hb hby d3_35) rfl ?_
      show Steps p.tables e below (T14.setTop (mkF m 36 #[.val (.ref a1), .val (.int f1)] [(.long ((1 : Int64) <<< (f1 &&& 0x3f).toInt64)), (.long v3), (.int (2 : Int32)), (.ref b)])) _
      refine XS.lor X14.here hx rfl (hb hby d3_36) rfl ?_
      show Steps p.tables e below (T14.setTop (mkF m 37 #[.val (.ref a1), .val (.int f1)] [(.long (v3 ||| ((1 : Int64) <<< (f1 &&& 0x3f).toInt64))), (.int (2 : Int32)), (.ref b)])) _
      refine st17 _ ?_
      exact kt
    obtain ⟨fs, hr, hrun, hended, hW, hsame⟩ := X17.leave (v := none) (fun _ => rfl)
    refine ⟨_, _, pre18 _ ?_, hrun, hended, _, _, rfl, ?_, ⟨_, rfl⟩, hW, hsame.mono (by decide) (by decide)⟩
    · show Steps p.tables e below (T17.setTop (mkF m 38 #[.val (.ref a1), .val (.int f1)] [])) _
      exact X17.returnOut hx Bd.returns (hb hby d3_38) hr
    · show QA Z a1 b kb z1 u0 u1 u2 u3 h0 n0 _ T17.heap _
      rw [e17]
      rw [hu0, hu1, hu2, hu3]
      exact ⟨rfl, N17, K17, (Exa.wr W17 E_a1), (Fld.other W17 F_f (Or.inl hne)), (Fld.other W17 F_g (Or.inl hne)), V17⟩
theorem own_bv (f : Int32) : (((1 : Int64) <<< (f &&& 0x3f).toInt64)).toBitVec = BitVec.twoPow 64 (f.toBitVec.toNat % 64) := by
  obtain ⟨h1, h2⟩ := sm64 f _ rfl
  have e1 : (1 : Int64).toBitVec = 1#64 := by decide
  rw [Int64.toBitVec_shiftLeft, h1, BitVec.shiftLeft_eq', smod64 _ h2, e1]
  rfl
def own_b (v : Int64) (f : Int32) : Bool := v.toBitVec.getLsbD (f.toBitVec.toNat % 64)
theorem own_klt (f : Int32) : f.toBitVec.toNat % 64 < 64 := Nat.mod_lt _ (by decide)
theorem own_and0 (v : Int64) (f : Int32) : ((v &&& ((1 : Int64) <<< (f &&& 0x3f).toInt64)) = 0) ↔ own_b v f = false := by
  rw [← Int64.toBitVec_inj, Int64.toBitVec_and, own_bv, BitVec.and_twoPow]
  unfold own_b
  have h := own_klt f
  generalize f.toBitVec.toNat % 64 = k at *
  have h2 : BitVec.twoPow 64 k ≠ 0#64 := by
    intro q
    have := congrArg (fun x => x.getLsbD k) q
    simp [h] at this
  cases e : v.toBitVec.getLsbD k
  · simp
  · simp only [if_true]
    constructor
    · intro q; exact absurd q h2
    · intro q; cases q
theorem own_bor (v : Int64) (a f : Int32) : own_b (v ||| ((1 : Int64) <<< (a &&& 0x3f).toInt64)) f = (own_b v f || decide (a.toBitVec.toNat % 64 = f.toBitVec.toNat % 64)) := by
  unfold own_b
  have h := own_klt f
  rw [Int64.toBitVec_or, own_bv, BitVec.getLsbD_or, BitVec.getLsbD_twoPow]
  simp [h, own_klt a]
theorem own_brm (v : Int64) (a f : Int32) : own_b (v &&& (((1 : Int64) <<< (a &&& 0x3f).toInt64) ^^^ (-1 : Int64))) f = (own_b v f && !decide (a.toBitVec.toNat % 64 = f.toBitVec.toNat % 64)) := by
  unfold own_b
  have h := own_klt f
  have e : (-1 : Int64).toBitVec = BitVec.allOnes 64 := by decide
  rw [Int64.toBitVec_and, Int64.toBitVec_xor, own_bv, e, BitVec.getLsbD_and, BitVec.getLsbD_xor, BitVec.getLsbD_twoPow, BitVec.getLsbD_allOnes]
  simp [h, own_klt a]
theorem own_b0 (f : Int32) : own_b 0 f = false := by simp [own_b]
theorem own_nn {f : Int32} (h : 0 ≤ f.toInt) : (f.toBitVec.toNat : Int) = f.toInt := by
  have h1 : f.toInt = f.toBitVec.toInt := rfl
  have h2 := BitVec.toInt_eq_toNat_cond f.toBitVec
  rw [← h1] at h2
  have h3 := f.toBitVec.isLt
  split at h2 <;> omega
theorem own_same {n a f : Int32} (hn : 1 ≤ n.toInt ∧ n.toInt ≤ 256) (ra : 0 ≤ a.toInt ∧ a.toInt < n.toInt) (rf : 0 ≤ f.toInt ∧ f.toInt < n.toInt) (e : a / (64 : Int32) = f / (64 : Int32)) : (a.toBitVec.toNat % 64 = f.toBitVec.toNat % 64) ↔ f = a := by
  have q1 := (own_fr hn ra).2.2
  have q2 := (own_fr hn rf).2.2
  have q3 := own_nn ra.1
  have q4 := own_nn rf.1
  rw [e, q2] at q1
  rw [← Int32.toInt_inj]
  omega
def own_M (v0 v1 v2 v3 : Int64) (f : Int32) : Prop := own_b (own_word (f / (64 : Int32)) v0 v1 v2 v3) f = true
theorem own_M0 (f : Int32) : ¬ own_M 0 0 0 0 f := by
  have h : own_word (f / (64 : Int32)) 0 0 0 0 = 0 := by unfold own_word; simp
  unfold own_M
  rw [h, own_b0]; simp
theorem own_wup {g : Int64 → Int64} {qa qf : Int32} {v0 v1 v2 v3 u0 u1 u2 u3 : Int64} (rf : qf = 0 ∨ qf = 1 ∨ qf = 2 ∨ qf = 3) (h0 : u0 = if qa = 0 then g v0 else v0) (h1 : u1 = if qa = 1 then g v1 else v1) (h2 : u2 = if qa = 2 then g v2 else v2) (h3 : u3 = if qa = 3 then g v3 else v3) : own_word qf u0 u1 u2 u3 = if qa = qf then g (own_word qf v0 v1 v2 v3) else own_word qf v0 v1 v2 v3 := by
  rcases rf with rfl | rfl | rfl | rfl
  · simp only [own_w0]; exact h0
  · simp only [own_w1]; exact h1
  · simp only [own_w2]; exact h2
  · simp only [own_w3]; exact h3
theorem own_Madd {n a f : Int32} {v0 v1 v2 v3 u0 u1 u2 u3 : Int64} (hn : 1 ≤ n.toInt ∧ n.toInt ≤ 256) (ra : 0 ≤ a.toInt ∧ a.toInt < n.toInt) (rf : 0 ≤ f.toInt ∧ f.toInt < n.toInt) (h0 : u0 = if a / (64 : Int32) = 0 then (v0 ||| ((1 : Int64) <<< (a &&& 0x3f).toInt64)) else v0) (h1 : u1 = if a / (64 : Int32) = 1 then (v1 ||| ((1 : Int64) <<< (a &&& 0x3f).toInt64)) else v1) (h2 : u2 = if a / (64 : Int32) = 2 then (v2 ||| ((1 : Int64) <<< (a &&& 0x3f).toInt64)) else v2) (h3 : u3 = if a / (64 : Int32) = 3 then (v3 ||| ((1 : Int64) <<< (a &&& 0x3f).toInt64)) else v3) : own_M u0 u1 u2 u3 f ↔ (f = a ∨ own_M v0 v1 v2 v3 f) := by
  unfold own_M
  rw [own_wup (g := fun v => v ||| ((1 : Int64) <<< (a &&& 0x3f).toInt64)) (own_fr hn rf).2.1 h0 h1 h2 h3]
  by_cases e : a / (64 : Int32) = f / (64 : Int32)
  · rw [if_pos e, own_bor, Bool.or_eq_true, decide_eq_true_iff, own_same hn ra rf e]
    exact Or.comm
  · rw [if_neg e]
    constructor
    · intro q; exact Or.inr q
    · rintro (q | q)
      · exact absurd (by rw [q]) e
      · exact q
theorem own_Mrem {n a f : Int32} {v0 v1 v2 v3 u0 u1 u2 u3 : Int64} (hn : 1 ≤ n.toInt ∧ n.toInt ≤ 256) (ra : 0 ≤ a.toInt ∧ a.toInt < n.toInt) (rf : 0 ≤ f.toInt ∧ f.toInt < n.toInt) (h0 : u0 = if a / (64 : Int32) = 0 then (v0 &&& (((1 : Int64) <<< (a &&& 0x3f).toInt64) ^^^ (-1 : Int64))) else v0) (h1 : u1 = if a / (64 : Int32) = 1 then (v1 &&& (((1 : Int64) <<< (a &&& 0x3f).toInt64) ^^^ (-1 : Int64))) else v1) (h2 : u2 = if a / (64 : Int32) = 2 then (v2 &&& (((1 : Int64) <<< (a &&& 0x3f).toInt64) ^^^ (-1 : Int64))) else v2) (h3 : u3 = if a / (64 : Int32) = 3 then (v3 &&& (((1 : Int64) <<< (a &&& 0x3f).toInt64) ^^^ (-1 : Int64))) else v3) : own_M u0 u1 u2 u3 f ↔ (own_M v0 v1 v2 v3 f ∧ ¬ f = a) := by
  unfold own_M
  rw [own_wup (g := fun v => v &&& (((1 : Int64) <<< (a &&& 0x3f).toInt64) ^^^ (-1 : Int64))) (own_fr hn rf).2.1 h0 h1 h2 h3]
  by_cases e : a / (64 : Int32) = f / (64 : Int32)
  · rw [if_pos e, own_brm, Bool.and_eq_true, Bool.not_eq_true', decide_eq_false_iff_not, own_same hn ra rf e]
  · rw [if_neg e]
    constructor
    · intro q; exact ⟨q, fun r => e (by rw [r])⟩
    · intro q; exact q.1
theorem own_n256 (p : Int32) : 1 ≤ ((p &&& (255 : Int32)) + (1 : Int32)).toInt ∧ ((p &&& (255 : Int32)) + (1 : Int32)).toInt ≤ 256 := by
  have h1 := c_mask p (255 : Int32) 8 (by decide) (by decide)
  have h2 := c_iadd (p &&& (255 : Int32)) (1 : Int32)
  have h3 := rng32 ((p &&& (255 : Int32)) + (1 : Int32))
  have e1 : (1 : Int32).toInt = 1 := by decide
  omega
theorem own_nz {n : Int32} (h : 1 ≤ n.toInt ∧ n.toInt ≤ 256) : ¬ (n = (0 : Int32)) := by
  intro q
  rw [q] at h
  exact absurd h.1 (by decide)
def own_p_pk (f : Nat → Nat) : Nat → Nat → Nat
  | 0, _ => 0
  | w + 1, n => f (n % 256) + 256 * own_p_pk f w (n / 256)
def own_p_rep (b : Nat) : Nat → Nat
  | 0 => 0
  | w + 1 => b + 256 * own_p_rep b w
theorem own_p_land256 (x y : Nat) : x &&& y = 256 * ((x / 256) &&& (y / 256)) + ((x % 256) &&& (y % 256)) := by
  have h1 : (x &&& y) / 2 ^ 8 = (x / 2 ^ 8) &&& (y / 2 ^ 8) := Nat.and_div_two_pow
  have h2 : (x &&& y) % 2 ^ 8 = (x % 2 ^ 8) &&& (y % 2 ^ 8) := Nat.and_mod_two_pow
  have h3 := Nat.div_add_mod (x &&& y) (2 ^ 8)
  rw [h1, h2] at h3
  exact h3.symm
theorem own_p_landrep (x b w : Nat) (hb : b < 256) : x &&& own_p_rep b (w + 1) = 256 * ((x / 256) &&& own_p_rep b w) + ((x % 256) &&& b) := by
  rw [own_p_land256]
  have h1 : own_p_rep b (w + 1) / 256 = own_p_rep b w := by show (b + 256 * own_p_rep b w) / 256 = _; omega
  have h2 : own_p_rep b (w + 1) % 256 = b := by show (b + 256 * own_p_rep b w) % 256 = _; omega
  rw [h1, h2]
def own_p_t1 (y : Nat) : Nat := y - ((y / 2) &&& 0x55)
def own_p_t2 (y : Nat) : Nat := (y &&& 0x33) + ((y / 4) &&& 0x33)
def own_p_t3 (y : Nat) : Nat := y % 16 + y / 16
def own_p_T2 (y : Nat) : Nat := own_p_t2 (own_p_t1 y)
def own_p_T3 (y : Nat) : Nat := own_p_t3 (own_p_T2 y)
theorem own_p_d1 : ∀ y, y < 256 → ∀ t, t < 2 → (y / 2 + 128 * t) &&& 0x55 = (y / 2) &&& 0x55 := by decide +kernel
theorem own_p_d2 : ∀ y, y < 256 → ∀ t, t < 4 → (y / 4 + 64 * t) &&& 0x33 = (y / 4) &&& 0x33 := by decide +kernel
theorem own_p_d3 : ∀ y, y < 256 → own_p_T2 y % 16 ≤ 4 ∧ own_p_T2 y / 16 ≤ 4 ∧ own_p_T2 y < 256 ∧ own_p_t1 y < 256 ∧ own_p_T3 y ≤ 8 := by decide +kernel
theorem own_p_d4 : ∀ a, a < 5 → ∀ b, b < 5 → ∀ t, t < 5 → (a + 16 * b + b + 16 * t) &&& 0x0f = a + b := by decide +kernel
theorem own_p_s1 : ∀ (w n : Nat), n < 256 ^ w → n - ((n / 2) &&& own_p_rep 0x55 w) = own_p_pk own_p_t1 w n := by
  intro w
  induction w with
  | zero => intro n h; simp at h; subst h; simp [own_p_pk]
  | succ w ih =>
    intro n h
    have hq : n / 256 < 256 ^ w := by rw [Nat.pow_succ] at h; omega
    have e := ih (n / 256) hq
    have a1 : (n / 2) / 256 = (n / 256) / 2 := by omega
    have a2 : (n / 2) % 256 = (n % 256) / 2 + 128 * ((n / 256) % 2) := by omega
    have a3 := own_p_d1 (n % 256) (Nat.mod_lt _ (by decide)) ((n / 256) % 2) (Nat.mod_lt _ (by decide))
    have b1 : (n / 256) / 2 &&& own_p_rep 0x55 w ≤ n / 256 / 2 := Nat.and_le_left
    have b2 : (n % 256) / 2 &&& 0x55 ≤ (n % 256) / 2 := Nat.and_le_left
    rw [own_p_landrep _ _ _ (by decide), a1, a2, a3]
    show _ = own_p_t1 (n % 256) + 256 * own_p_pk own_p_t1 w (n / 256)
    rw [← e]
    unfold own_p_t1
    generalize (n / 256) / 2 &&& own_p_rep 0x55 w = P at *
    generalize (n % 256) / 2 &&& 0x55 = Q at *
    omega
theorem own_p_s2 : ∀ (w n : Nat), n < 256 ^ w → (n &&& own_p_rep 0x33 w) + ((n / 4) &&& own_p_rep 0x33 w) = own_p_pk own_p_t2 w n := by
  intro w
  induction w with
  | zero => intro n h; simp at h; subst h; simp [own_p_pk]
  | succ w ih =>
    intro n h
    have hq : n / 256 < 256 ^ w := by rw [Nat.pow_succ] at h; omega
    have e := ih (n / 256) hq
    have a1 : (n / 4) / 256 = (n / 256) / 4 := by omega
    have a2 : (n / 4) % 256 = (n % 256) / 4 + 64 * ((n / 256) % 4) := by omega
    have a3 := own_p_d2 (n % 256) (Nat.mod_lt _ (by decide)) ((n / 256) % 4) (Nat.mod_lt _ (by decide))
    rw [own_p_landrep _ _ _ (by decide), own_p_landrep _ _ _ (by decide), a1, a2, a3]
    show _ = own_p_t2 (n % 256) + 256 * own_p_pk own_p_t2 w (n / 256)
    rw [← e]
    unfold own_p_t2
    omega
theorem own_p_pklt (f : Nat → Nat) (hf : ∀ y, y < 256 → f y < 256) : ∀ (w n : Nat), own_p_pk f w n < 256 ^ w := by
  intro w
  induction w with
  | zero => intro n; simp [own_p_pk]
  | succ w ih =>
    intro n
    have h1 := hf (n % 256) (Nat.mod_lt _ (by decide))
    have h2 := ih (n / 256)
    show f (n % 256) + 256 * own_p_pk f w (n / 256) < _
    rw [Nat.pow_succ]
    omega
theorem own_p_pkpk (f g : Nat → Nat) (hf : ∀ y, y < 256 → f y < 256) : ∀ (w n : Nat), own_p_pk g w (own_p_pk f w n) = own_p_pk (fun y => g (f y)) w n := by
  intro w
  induction w with
  | zero => intro n; rfl
  | succ w ih =>
    intro n
    have h1 := hf (n % 256) (Nat.mod_lt _ (by decide))
    show g (own_p_pk f (w + 1) n % 256) + 256 * own_p_pk g w (own_p_pk f (w + 1) n / 256) = g (f (n % 256)) + 256 * own_p_pk (fun y => g (f y)) w (n / 256)
    have h2 : own_p_pk f (w + 1) n % 256 = f (n % 256) := by show (f (n % 256) + 256 * own_p_pk f w (n / 256)) % 256 = _; omega
    have h3 : own_p_pk f (w + 1) n / 256 = own_p_pk f w (n / 256) := by show (f (n % 256) + 256 * own_p_pk f w (n / 256)) / 256 = _; omega
    rw [h2, h3, ih]
theorem own_p_low4 : ∀ (w n : Nat), own_p_pk own_p_T2 w n % 16 ≤ 4 := by
  intro w n
  cases w with
  | zero => simp [own_p_pk]
  | succ w =>
    have h := (own_p_d3 (n % 256) (Nat.mod_lt _ (by decide))).1
    show (own_p_T2 (n % 256) + 256 * own_p_pk own_p_T2 w (n / 256)) % 16 ≤ 4
    omega
theorem own_p_s3 : ∀ (w n : Nat), (own_p_pk own_p_T2 w n + own_p_pk own_p_T2 w n / 16) &&& own_p_rep 0x0f w = own_p_pk own_p_T3 w n := by
  intro w
  induction w with
  | zero => intro n; simp [own_p_pk, own_p_rep]
  | succ w ih =>
    intro n
    have e := ih (n / 256)
    obtain ⟨g1, g2, g3, -, -⟩ := own_p_d3 (n % 256) (Nat.mod_lt _ (by decide))
    have g4 := own_p_low4 w (n / 256)
    have k := own_p_d4 (own_p_T2 (n % 256) % 16) (by omega) (own_p_T2 (n % 256) / 16) (by omega) (own_p_pk own_p_T2 w (n / 256) % 16) (by omega)
    show (own_p_T2 (n % 256) + 256 * own_p_pk own_p_T2 w (n / 256) + (own_p_T2 (n % 256) + 256 * own_p_pk own_p_T2 w (n / 256)) / 16) &&& own_p_rep 0x0f (w + 1) = own_p_T3 (n % 256) + 256 * own_p_pk own_p_T3 w (n / 256)
    rw [own_p_landrep _ _ _ (by decide)]
    rw [show own_p_T3 (n % 256) = own_p_T2 (n % 256) % 16 + own_p_T2 (n % 256) / 16 from rfl]
    generalize own_p_pk own_p_T2 w (n / 256) = q at *
    generalize own_p_T2 (n % 256) = y at *
    have h1 : (y + 256 * q + (y + 256 * q) / 16) / 256 = q + q / 16 := by omega
    have h2 : (y + 256 * q + (y + 256 * q) / 16) % 256 = y % 16 + 16 * (y / 16) + y / 16 + 16 * (q % 16) := by omega
    rw [h1, h2, k, e]
    omega
def own_p_cN (P : Nat → Bool) : Nat → Nat
  | 0 => 0
  | n + 1 => own_p_cN P n + (if P n then 1 else 0)
theorem own_p_cN_add (P : Nat → Bool) (a : Nat) : ∀ b, own_p_cN P (a + b) = own_p_cN P a + own_p_cN (fun k => P (a + k)) b := by
  intro b
  induction b with
  | zero => rfl
  | succ b ih => show own_p_cN P (a + b) + (if P (a + b) then 1 else 0) = own_p_cN P a + (own_p_cN (fun k => P (a + k)) b + (if P (a + b) then 1 else 0)); rw [ih]; omega
theorem own_p_cN_congr (P Q : Nat → Bool) : ∀ n, (∀ k, k < n → P k = Q k) → own_p_cN P n = own_p_cN Q n := by
  intro n
  induction n with
  | zero => intro _; rfl
  | succ n ih => intro h; show own_p_cN P n + _ = own_p_cN Q n + _; rw [ih (fun k hk => h k (by omega)), h n (by omega)]
theorem own_p_d5 : ∀ y, y < 256 → own_p_cN (fun k => y.testBit k) 8 = own_p_T3 y := by decide +kernel
def own_p_sumB : Nat → Nat → Nat
  | 0, _ => 0
  | w + 1, n => own_p_T3 (n % 256) + own_p_sumB w (n / 256)
theorem own_p_cN_bits : ∀ (w n : Nat), own_p_cN (fun k => n.testBit k) (8 * w) = own_p_sumB w n := by
  intro w
  induction w with
  | zero => intro n; rfl
  | succ w ih =>
    intro n
    rw [show 8 * (w + 1) = 8 + 8 * w by omega, own_p_cN_add]
    show _ = own_p_T3 (n % 256) + own_p_sumB w (n / 256)
    rw [← ih, ← own_p_d5 _ (Nat.mod_lt _ (by decide))]
    congr 1
    · apply own_p_cN_congr
      intro k hk
      rw [show (256 : Nat) = 2 ^ 8 by rfl, Nat.testBit_mod_two_pow]
      simp [hk]
    · apply own_p_cN_congr
      intro k _
      rw [show (256 : Nat) = 2 ^ 8 by rfl, Nat.testBit_div_two_pow]
      rw [Nat.add_comm]
theorem own_p_dvN (D x A B : Nat) (h1 : x = A + D * B) (h2 : A < D) : x / D = B := by
  rw [h1, Nat.add_mul_div_left _ _ (by omega), Nat.div_eq_of_lt h2, Nat.zero_add]
theorem own_p_f4 {c0 c1 c2 c3 c4 c5 c6 c7 : Nat} (b0 : c0 ≤ 8) : c0 + 256 * (c1 + 256 * (c2 + 256 * (c3 + 256 * (c4 + 256 * (c5 + 256 * (c6 + 256 * (c7 + 256 * 0))))))) + (c0 + 256 * (c1 + 256 * (c2 + 256 * (c3 + 256 * (c4 + 256 * (c5 + 256 * (c6 + 256 * (c7 + 256 * 0)))))))) / 256 = ((c0 + c1) + 256 * (c1 + c2)) + 65536 * ((c2 + c3) + 256 * (c3 + c4) + 65536 * (c4 + c5) + 16777216 * (c5 + c6) + 4294967296 * (c6 + c7) + 1099511627776 * c7) := by
  rw [own_p_dvN 256 _ c0 (c1 + 256 * (c2 + 256 * (c3 + 256 * (c4 + 256 * (c5 + 256 * (c6 + 256 * (c7 + 256 * 0))))))) rfl (by omega)]
  omega
theorem own_p_f5 {c0 c1 c2 c3 c4 c5 c6 c7 x : Nat} (b0 : c0 ≤ 8) (b1 : c1 ≤ 8) (b2 : c2 ≤ 8) (h : x = ((c0 + c1) + 256 * (c1 + c2)) + 65536 * ((c2 + c3) + 256 * (c3 + c4) + 65536 * (c4 + c5) + 16777216 * (c5 + c6) + 4294967296 * (c6 + c7) + 1099511627776 * c7)) : x + x / 65536 = ((c0 + c1 + c2 + c3) + 256 * (c1 + c2 + c3 + c4) + 65536 * (c2 + c3 + c4 + c5) + 16777216 * (c3 + c4 + c5 + c6)) + 4294967296 * ((c4 + c5 + c6 + c7) + 256 * (c5 + c6 + c7) + 65536 * (c6 + c7) + 16777216 * c7) := by
  rw [own_p_dvN 65536 _ _ _ h (by omega), h]
  omega
theorem own_p_f6 {c0 c1 c2 c3 c4 c5 c6 c7 x : Nat} (b0 : c0 ≤ 8) (b1 : c1 ≤ 8) (b2 : c2 ≤ 8) (b3 : c3 ≤ 8) (b4 : c4 ≤ 8) (b5 : c5 ≤ 8) (b6 : c6 ≤ 8) (h : x = ((c0 + c1 + c2 + c3) + 256 * (c1 + c2 + c3 + c4) + 65536 * (c2 + c3 + c4 + c5) + 16777216 * (c3 + c4 + c5 + c6)) + 4294967296 * ((c4 + c5 + c6 + c7) + 256 * (c5 + c6 + c7) + 65536 * (c6 + c7) + 16777216 * c7)) : x + x / 4294967296 = (c0 + (c1 + (c2 + (c3 + (c4 + (c5 + (c6 + (c7 + 0)))))))) + 128 * (2 * ((c1 + c2 + c3 + c4) + (c5 + c6 + c7) + 256 * (c2 + c3 + c4 + c5 + c6 + c7) + 65536 * (c3 + c4 + c5 + c6 + c7) + 16777216 * (c4 + c5 + c6 + c7) + 4294967296 * (c5 + c6 + c7) + 1099511627776 * (c6 + c7) + 281474976710656 * c7)) := by
  rw [own_p_dvN 4294967296 _ _ _ h (by omega), h]
  omega
theorem own_p_fin8 (n : Nat) : ∀ x4 x5 x6, x4 = own_p_pk own_p_T3 8 n + own_p_pk own_p_T3 8 n / 256 → x5 = x4 + x4 / 65536 → x6 = x5 + x5 / 4294967296 → x6 % 128 = own_p_sumB 8 n ∧ x4 < 2 ^ 64 ∧ x5 < 2 ^ 64 ∧ x6 < 2 ^ 64 := by
  intro x4 x5 x6 h4 h5 h6
  have hb : ∀ m, own_p_T3 (m % 256) ≤ 8 := fun m => (own_p_d3 (m % 256) (Nat.mod_lt _ (by decide))).2.2.2.2
  have e : own_p_pk own_p_T3 8 n = own_p_T3 (n % 256) + 256 * (own_p_T3 (n / 256 % 256) + 256 * (own_p_T3 (n / 256 / 256 % 256) + 256 * (own_p_T3 (n / 256 / 256 / 256 % 256) + 256 * (own_p_T3 (n / 256 / 256 / 256 / 256 % 256) + 256 * (own_p_T3 (n / 256 / 256 / 256 / 256 / 256 % 256) + 256 * (own_p_T3 (n / 256 / 256 / 256 / 256 / 256 / 256 % 256) + 256 * (own_p_T3 (n / 256 / 256 / 256 / 256 / 256 / 256 / 256 % 256) + 256 * 0))))))) := rfl
  have f : own_p_sumB 8 n = own_p_T3 (n % 256) + (own_p_T3 (n / 256 % 256) + (own_p_T3 (n / 256 / 256 % 256) + (own_p_T3 (n / 256 / 256 / 256 % 256) + (own_p_T3 (n / 256 / 256 / 256 / 256 % 256) + (own_p_T3 (n / 256 / 256 / 256 / 256 / 256 % 256) + (own_p_T3 (n / 256 / 256 / 256 / 256 / 256 / 256 % 256) + (own_p_T3 (n / 256 / 256 / 256 / 256 / 256 / 256 / 256 % 256) + 0))))))) := rfl
  have b0 := hb n
  have b1 := hb (n / 256)
  have b2 := hb (n / 256 / 256)
  have b3 := hb (n / 256 / 256 / 256)
  have b4 := hb (n / 256 / 256 / 256 / 256)
  have b5 := hb (n / 256 / 256 / 256 / 256 / 256)
  have b6 := hb (n / 256 / 256 / 256 / 256 / 256 / 256)
  have b7 := hb (n / 256 / 256 / 256 / 256 / 256 / 256 / 256)
  rw [e] at h4
  rw [f]
  generalize own_p_T3 (n % 256) = c0 at *
  generalize own_p_T3 (n / 256 % 256) = c1 at *
  generalize own_p_T3 (n / 256 / 256 % 256) = c2 at *
  generalize own_p_T3 (n / 256 / 256 / 256 % 256) = c3 at *
  generalize own_p_T3 (n / 256 / 256 / 256 / 256 % 256) = c4 at *
  generalize own_p_T3 (n / 256 / 256 / 256 / 256 / 256 % 256) = c5 at *
  generalize own_p_T3 (n / 256 / 256 / 256 / 256 / 256 / 256 % 256) = c6 at *
  generalize own_p_T3 (n / 256 / 256 / 256 / 256 / 256 / 256 / 256 % 256) = c7 at *
  clear e f hb
  have q4 := h4.trans (own_p_f4 (c1 := c1) (c2 := c2) (c3 := c3) (c4 := c4) (c5 := c5) (c6 := c6) (c7 := c7) b0)
  have q5 := h5.trans (own_p_f5 b0 b1 b2 q4)
  have q6 := h6.trans (own_p_f6 b0 b1 b2 b3 b4 b5 b6 q5)
  clear h4 h5 h6
  refine ⟨?_, ?_, ?_, ?_⟩
  · rw [q6, Nat.add_mul_mod_self_left, Nat.mod_eq_of_lt (by clear q4 q5 q6; omega)]
  · clear q5 q6; omega
  · clear q4 q6; omega
  · clear q4 q5; omega
abbrev own_p_N64 (v : Int64) : Nat := v.toBitVec.toNat
theorem own_p_N_lt (a : Int64) : own_p_N64 a < 2 ^ 64 := a.toBitVec.isLt
theorem own_p_N_sub {a b : Int64} (h : own_p_N64 b ≤ own_p_N64 a) : own_p_N64 (a - b) = own_p_N64 a - own_p_N64 b := by
  unfold own_p_N64
  rw [Int64.toBitVec_sub, BitVec.toNat_sub_of_le (by rw [BitVec.le_def]; exact h)]
theorem own_p_N_add {a b : Int64} (h : own_p_N64 a + own_p_N64 b < 2 ^ 64) : own_p_N64 (a + b) = own_p_N64 a + own_p_N64 b := by
  unfold own_p_N64
  rw [Int64.toBitVec_add, BitVec.toNat_add, Nat.mod_eq_of_lt h]
theorem own_p_N_and (a b : Int64) : own_p_N64 (a &&& b) = own_p_N64 a &&& own_p_N64 b := by
  unfold own_p_N64
  rw [Int64.toBitVec_and, BitVec.toNat_and]
theorem own_p_N_shr (v : Int64) (u : UInt64) (n : Nat) (h : u.toNat % 64 = n) : own_p_N64 ((v.toUInt64 >>> u).toInt64) = own_p_N64 v / 2 ^ n := by
  have h1 : own_p_N64 ((v.toUInt64 >>> u).toInt64) = (v.toUInt64 >>> u).toNat := rfl
  rw [h1, UInt64.toNat_shiftRight, h, Nat.shiftRight_eq_div_pow]
  rfl
theorem own_p_N_low (x : Int64) : (x.toInt32 &&& (127 : Int32)).toInt = ((own_p_N64 x % 128 : Nat) : Int) := by
  have h1 : (x.toInt32 &&& (127 : Int32)).toBitVec.toNat = own_p_N64 x % 128 := by
    rw [Int32.toBitVec_and, BitVec.toNat_and, Int64.toBitVec_toInt32, BitVec.signExtend_eq_setWidth_of_le _ (by decide), BitVec.toNat_setWidth]
    have e : (127 : Int32).toBitVec.toNat = 2 ^ 7 - 1 := by decide
    rw [e, Nat.and_two_pow_sub_one_eq_mod]
    show own_p_N64 x % 2 ^ 32 % 2 ^ 7 = _
    omega
  have h2 : (x.toInt32 &&& (127 : Int32)).toInt = (x.toInt32 &&& (127 : Int32)).toBitVec.toInt := rfl
  rw [h2, BitVec.toInt_eq_toNat_cond, h1]
  have := Nat.mod_lt (own_p_N64 x) (show 0 < 128 by decide)
  split <;> omega
def own_b1 (v : Int64) : Int64 := v - (((v.toUInt64 >>> ((1 : Int32) &&& 0x3f).toInt64.toUInt64).toInt64) &&& (6148914691236517205 : Int64))
def own_b2 (v : Int64) : Int64 := (v &&& (3689348814741910323 : Int64)) + (((v.toUInt64 >>> ((2 : Int32) &&& 0x3f).toInt64.toUInt64).toInt64) &&& (3689348814741910323 : Int64))
def own_b3 (v : Int64) : Int64 := (v + ((v.toUInt64 >>> ((4 : Int32) &&& 0x3f).toInt64.toUInt64).toInt64)) &&& (1085102592571150095 : Int64)
def own_b4 (k : Int32) (v : Int64) : Int64 := v + ((v.toUInt64 >>> (k &&& 0x3f).toInt64.toUInt64).toInt64)
def own_bc (v : Int64) : Int32 := (own_b4 (32 : Int32) (own_b4 (16 : Int32) (own_b4 (8 : Int32) (own_b3 (own_b2 (own_b1 v)))))).toInt32 &&& (127 : Int32)
theorem own_bcv (v : Int64) : (own_bc v).toInt = ((own_p_cN (fun k => (own_p_N64 v).testBit k) 64 : Nat) : Int) := by
  have hn : own_p_N64 v < 256 ^ 8 := own_p_N_lt v
  have m1 : own_p_N64 (6148914691236517205 : Int64) = own_p_rep 0x55 8 := by decide
  have m2 : own_p_N64 (3689348814741910323 : Int64) = own_p_rep 0x33 8 := by decide
  have m3 : own_p_N64 (1085102592571150095 : Int64) = own_p_rep 0x0f 8 := by decide
  have e1 : own_p_N64 (own_b1 v) = own_p_pk own_p_t1 8 (own_p_N64 v) := by
    have a : own_p_N64 (((v.toUInt64 >>> ((1 : Int32) &&& 0x3f).toInt64.toUInt64).toInt64) &&& (6148914691236517205 : Int64)) = (own_p_N64 v / 2) &&& own_p_rep 0x55 8 := by rw [own_p_N_and, m1, own_p_N_shr _ _ 1 (by decide)]
    have b : (own_p_N64 v / 2) &&& own_p_rep 0x55 8 ≤ own_p_N64 v / 2 := Nat.and_le_left
    unfold own_b1
    rw [own_p_N_sub (by rw [a]; omega), a, own_p_s1 8 _ hn]
  have l1 := own_p_pklt own_p_t1 (fun y h => (own_p_d3 y h).2.2.2.1) 8 (own_p_N64 v)
  have e2 : own_p_N64 (own_b2 (own_b1 v)) = own_p_pk own_p_T2 8 (own_p_N64 v) := by
    unfold own_b2
    generalize own_b1 v = x at *
    have a : own_p_N64 (((x.toUInt64 >>> ((2 : Int32) &&& 0x3f).toInt64.toUInt64).toInt64) &&& (3689348814741910323 : Int64)) = (own_p_N64 x / 4) &&& own_p_rep 0x33 8 := by rw [own_p_N_and, m2, own_p_N_shr _ _ 2 (by decide)]
    have b : own_p_N64 (x &&& (3689348814741910323 : Int64)) = own_p_N64 x &&& own_p_rep 0x33 8 := by rw [own_p_N_and, m2]
    have c1 : own_p_N64 x &&& own_p_rep 0x33 8 ≤ own_p_rep 0x33 8 := Nat.and_le_right
    have c2 : own_p_N64 x / 4 &&& own_p_rep 0x33 8 ≤ own_p_rep 0x33 8 := Nat.and_le_right
    have c3 : own_p_rep 0x33 8 + own_p_rep 0x33 8 < 2 ^ 64 := by decide
    rw [own_p_N_add (by rw [a, b]; omega), a, b, own_p_s2 8 _ (by rw [e1]; exact l1), e1, own_p_pkpk own_p_t1 own_p_t2 (fun y h => (own_p_d3 y h).2.2.2.1)]
    rfl
  have l2 := own_p_pklt own_p_T2 (fun y h => (own_p_d3 y h).2.2.1) 8 (own_p_N64 v)
  have l2' : own_p_pk own_p_T2 8 (own_p_N64 v) + own_p_pk own_p_T2 8 (own_p_N64 v) / 16 < 2 ^ 64 := by
    have hb : ∀ m, own_p_T2 (m % 256) ≤ 68 := fun m => by have := own_p_d3 (m % 256) (Nat.mod_lt _ (by decide)); omega
    have : own_p_pk own_p_T2 8 (own_p_N64 v) ≤ own_p_rep 68 8 := by
      have : ∀ w n, own_p_pk own_p_T2 w n ≤ own_p_rep 68 w := by
        intro w
        induction w with
        | zero => intro n; simp [own_p_pk]
        | succ w ih => intro n; show own_p_T2 (n % 256) + 256 * own_p_pk own_p_T2 w (n / 256) ≤ 68 + 256 * own_p_rep 68 w; have := hb n; have := ih (n / 256); omega
      exact this 8 _
    have c : own_p_rep 68 8 + own_p_rep 68 8 < 2 ^ 64 := by decide
    omega
  have e3 : own_p_N64 (own_b3 (own_b2 (own_b1 v))) = own_p_pk own_p_T3 8 (own_p_N64 v) := by
    unfold own_b3
    generalize own_b2 (own_b1 v) = x at *
    have a : own_p_N64 ((x.toUInt64 >>> ((4 : Int32) &&& 0x3f).toInt64.toUInt64).toInt64) = own_p_N64 x / 16 := own_p_N_shr _ _ 4 (by decide)
    rw [own_p_N_and, m3, own_p_N_add (by rw [a, e2]; exact l2'), a, e2, own_p_s3]
  obtain ⟨f1, f2, f3, own_p_f4⟩ := own_p_fin8 (own_p_N64 v) _ _ _ rfl rfl rfl
  have st : ∀ (k : Int32) (n : Nat) (x : Int64) (X : Nat), ((k &&& 0x3f).toInt64.toUInt64).toNat % 64 = n → own_p_N64 x = X → X + X / 2 ^ n < 2 ^ 64 → own_p_N64 (own_b4 k x) = X + X / 2 ^ n := by
    intro k n x X h1 h2 h3
    unfold own_b4
    have a := own_p_N_shr x (k &&& 0x3f).toInt64.toUInt64 n h1
    rw [own_p_N_add (by rw [a, h2]; exact h3), a, h2]
  have e4 := st (8 : Int32) 8 _ _ (by decide) e3 f2
  have e5 := st (16 : Int32) 16 _ _ (by decide) e4 f3
  have e6 := st (32 : Int32) 32 _ _ (by decide) e5 own_p_f4
  unfold own_bc
  rw [own_p_N_low, e6]
  have f1' : (own_p_pk own_p_T3 8 (own_p_N64 v) + own_p_pk own_p_T3 8 (own_p_N64 v) / 2 ^ 8 + (own_p_pk own_p_T3 8 (own_p_N64 v) + own_p_pk own_p_T3 8 (own_p_N64 v) / 2 ^ 8) / 2 ^ 16 + (own_p_pk own_p_T3 8 (own_p_N64 v) + own_p_pk own_p_T3 8 (own_p_N64 v) / 2 ^ 8 + (own_p_pk own_p_T3 8 (own_p_N64 v) + own_p_pk own_p_T3 8 (own_p_N64 v) / 2 ^ 8) / 2 ^ 16) / 2 ^ 32) % 128 = own_p_sumB 8 (own_p_N64 v) := f1
  rw [f1', ← own_p_cN_bits 8 (own_p_N64 v)]
theorem own_p_cN_set (c p q : Nat) (P : Nat → Bool) (hP : ∀ f, P f = decide (f < c ∨ f = p ∨ f = q)) : ∀ n, own_p_cN P n = min c n + (if c ≤ p ∧ p < n then 1 else 0) + (if c ≤ q ∧ q ≠ p ∧ q < n then 1 else 0) := by
  intro n
  induction n with
  | zero => simp [own_p_cN]
  | succ n ih =>
    show own_p_cN P n + (if P n then 1 else 0) = _
    rw [ih, hP]
    simp only [decide_eq_true_eq]
    repeat' split
    all_goals omega
theorem own_hasM {v0 v1 v2 v3 : Int64} {f : Int32} {P : Prop} [Decidable P] {ex : Int32} (hP : own_M v0 v1 v2 v3 f ↔ P) (he : ex = if P then (1 : Int32) else 0) : ex = if (own_word (f / (64 : Int32)) v0 v1 v2 v3 &&& ((1 : Int64) <<< (f &&& 0x3f).toInt64)) = 0 then 0 else 1 := by
  rw [he]
  by_cases h : P
  · have h2 := hP.mpr h
    rw [if_pos h, if_neg]
    rw [own_and0]
    unfold own_M at h2
    rw [h2]; simp
  · rw [if_neg h, if_pos]
    rw [own_and0]
    cases e : own_b (own_word (f / (64 : Int32)) v0 v1 v2 v3) f
    · rfl
    · exact absurd (hP.mp e) h
def own_up (d : Int32) (v : Int64) : Int64 := if d < (64 : Int32) then (if (0 : Int32) < d then (v ||| (((1 : Int64) <<< (d &&& 0x3f).toInt64) - (1 : Int64))) else v) else (-1 : Int64)
theorem own_upA {d : Int32} {v : Int64} (h1 : d < (64 : Int32)) (h2 : (0 : Int32) < d) : own_up d v = (v ||| (((1 : Int64) <<< (d &&& 0x3f).toInt64) - (1 : Int64))) := by unfold own_up; rw [if_pos h1, if_pos h2]
theorem own_upB {d : Int32} {v : Int64} (h1 : d < (64 : Int32)) (h2 : ¬ (0 : Int32) < d) : own_up d v = v := by unfold own_up; rw [if_pos h1, if_neg h2]
theorem own_upC {d : Int32} {v : Int64} (h1 : ¬ d < (64 : Int32)) : own_up d v = (-1 : Int64) := by unfold own_up; rw [if_neg h1]
theorem own_up0 {d : Int32} {v : Int64} (h0 : 0 ≤ d.toInt) (h1 : d < (64 : Int32)) : own_up d v = (v ||| (((1 : Int64) <<< (d &&& 0x3f).toInt64) - (1 : Int64))) := by
  by_cases h2 : (0 : Int32) < d
  · exact own_upA h1 h2
  · have e : d = 0 := by
      rw [Int32.lt_iff_toInt_lt] at h2
      have e2 : (0 : Int32).toInt = 0 := by decide
      rw [← Int32.toInt_inj]; omega
    rw [own_upB h1 h2, e]
    have e3 : (((1 : Int64) <<< ((0 : Int32) &&& 0x3f).toInt64) - (1 : Int64)) = 0 := by decide
    rw [e3]; simp
theorem own_upZ {d : Int32} {v : Int64} (h : d.toInt ≤ 0) : own_up d v = v := by
  apply own_upB
  · rw [Int32.lt_iff_toInt_lt]
    have e2 : (64 : Int32).toInt = 64 := by decide
    omega
  · rw [Int32.lt_iff_toInt_lt]
    have e2 : (0 : Int32).toInt = 0 := by decide
    omega
theorem own_bup (d f : Int32) (v : Int64) : own_b (own_up d v) f = (own_b v f || decide (((f.toBitVec.toNat % 64 : Nat) : Int) < d.toInt)) := by
  have hk := own_klt f
  have e64 : (64 : Int32).toInt = 64 := by decide
  have e0 : (0 : Int32).toInt = 0 := by decide
  by_cases h1 : d < (64 : Int32)
  · by_cases h2 : (0 : Int32) < d
    · rw [own_upA h1 h2]
      rw [Int32.lt_iff_toInt_lt] at h1 h2
      have hd := own_nn (f := d) (by omega)
      unfold own_b
      rw [Int64.toBitVec_or, BitVec.getLsbD_or]
      congr 1
      have e1 : (1 : Int64).toBitVec = 1#64 := by decide
      have hm : d.toBitVec.toNat % 64 = d.toBitVec.toNat := Nat.mod_eq_of_lt (by omega)
      have hp : (BitVec.twoPow 64 (d.toBitVec.toNat)).toNat = 2 ^ d.toBitVec.toNat := by
        rw [BitVec.toNat_twoPow, Nat.mod_eq_of_lt]
        exact Nat.pow_lt_pow_right (by decide) (by omega)
      have hq : 1 ≤ 2 ^ d.toBitVec.toNat := Nat.one_le_two_pow
      rw [Int64.toBitVec_sub, own_bv, hm, e1]
      show (BitVec.twoPow 64 (d.toBitVec.toNat) - 1#64).toNat.testBit _ = _
      rw [BitVec.toNat_sub_of_le (by rw [BitVec.le_def, hp]; exact hq), hp]
      show (2 ^ d.toBitVec.toNat - 1).testBit _ = _
      rw [Nat.testBit_two_pow_sub_one]
      congr 1
      apply propext
      omega
    · rw [own_upB h1 h2]
      rw [Int32.lt_iff_toInt_lt] at h2
      have : ¬ (((f.toBitVec.toNat % 64 : Nat) : Int) < d.toInt) := by omega
      rw [decide_eq_false this, Bool.or_false]
  · rw [own_upC h1]
    rw [Int32.lt_iff_toInt_lt] at h1
    have : (((f.toBitVec.toNat % 64 : Nat) : Int) < d.toInt) := by omega
    have e : (-1 : Int64).toBitVec = BitVec.allOnes 64 := by decide
    unfold own_b
    rw [e, BitVec.getLsbD_allOnes, decide_eq_true this, Bool.or_true, decide_eq_true hk]
theorem own_dsub {c k : Int32} (hc : 0 ≤ c.toInt ∧ c.toInt ≤ 256) (hk : 0 ≤ k.toInt ∧ k.toInt ≤ 256) : (c - k).toInt = c.toInt - k.toInt := by
  have h0 := c_isub c k
  have h4 := rng32 (c - k)
  omega
theorem own_dle {n c z k : Int32} {i : Int} (hn : 1 ≤ n.toInt ∧ n.toInt ≤ 256) (hz : z.toInt = (n.toInt - 1) / 64) (hc : 0 ≤ c.toInt ∧ c.toInt ≤ n.toInt) (hk : k.toInt = 64 * i) (hi : 0 ≤ i ∧ i ≤ 3) (h : z.toInt < i) : (c - k).toInt ≤ 0 := by
  rw [own_dsub ⟨hc.1, by omega⟩ (by omega)]
  omega
theorem own_Mfirst {n c f : Int32} {v0 v1 v2 v3 u0 u1 u2 u3 : Int64} (hn : 1 ≤ n.toInt ∧ n.toInt ≤ 256) (hc : 0 ≤ c.toInt ∧ c.toInt ≤ 256) (rf : 0 ≤ f.toInt ∧ f.toInt < n.toInt) (h0 : u0 = own_up c v0) (h1 : u1 = own_up (c - (64 : Int32)) v1) (h2 : u2 = own_up (c - (128 : Int32)) v2) (h3 : u3 = own_up (c - (192 : Int32)) v3) : own_M u0 u1 u2 u3 f ↔ (f.toInt < c.toInt ∨ own_M v0 v1 v2 v3 f) := by
  have q := (own_fr hn rf).2.2
  have nn := own_nn rf.1
  have x1 := own_dsub (k := (64 : Int32)) hc (by decide)
  have x2 := own_dsub (k := (128 : Int32)) hc (by decide)
  have x3 := own_dsub (k := (192 : Int32)) hc (by decide)
  have y0 : (0 : Int32).toInt = 0 := by decide
  have y1 : (1 : Int32).toInt = 1 := by decide
  have y2 : (2 : Int32).toInt = 2 := by decide
  have y3 : (3 : Int32).toInt = 3 := by decide
  have w1 : (64 : Int32).toInt = 64 := by decide
  have w2 : (128 : Int32).toInt = 128 := by decide
  have w3 : (192 : Int32).toInt = 192 := by decide
  unfold own_M
  rcases (own_fr hn rf).2.1 with e | e | e | e
  · rw [e] at q
    rw [e, own_w0, own_w0, h0, own_bup, Bool.or_eq_true, decide_eq_true_iff]
    constructor
    · rintro (r | r)
      · exact Or.inr r
      · left; omega
    · rintro (r | r)
      · right; omega
      · exact Or.inl r
  · rw [e] at q
    rw [e, own_w1, own_w1, h1, own_bup, Bool.or_eq_true, decide_eq_true_iff]
    constructor
    · rintro (r | r)
      · exact Or.inr r
      · left; omega
    · rintro (r | r)
      · right; omega
      · exact Or.inl r
  · rw [e] at q
    rw [e, own_w2, own_w2, h2, own_bup, Bool.or_eq_true, decide_eq_true_iff]
    constructor
    · rintro (r | r)
      · exact Or.inr r
      · left; omega
    · rintro (r | r)
      · right; omega
      · exact Or.inl r
  · rw [e] at q
    rw [e, own_w3, own_w3, h3, own_bup, Bool.or_eq_true, decide_eq_true_iff]
    constructor
    · rintro (r | r)
      · exact Or.inr r
      · left; omega
    · rintro (r | r)
      · right; omega
      · exact Or.inl r
theorem own_rng {n f : Int32} (hn : 1 ≤ n.toInt ∧ n.toInt ≤ 256) (r : 0 ≤ f.toInt ∧ f.toInt < n.toInt) : 0 ≤ f.toInt ∧ f.toInt < (256 : Int32).toInt := by
  have e : (256 : Int32).toInt = 256 := by decide
  omega
theorem own_at (q k : Nat) (hq : q < 4) (hk : k < 64) : ∃ f : Int32, (0 ≤ f.toInt ∧ f.toInt < (256 : Int32).toInt) ∧ f.toBitVec.toNat % 64 = k ∧ (f / (64 : Int32)).toInt = q ∧ f.toInt = ((64 * q + k : Nat) : Int) := by
  have e : (256 : Int32).toInt = 256 := by decide
  have h1 : (Int32.ofNat (64 * q + k)).toInt = ((64 * q + k : Nat) : Int) := by
    rw [Int32.toInt_ofNat_of_lt (by omega)]
  have r : 0 ≤ (Int32.ofNat (64 * q + k)).toInt ∧ (Int32.ofNat (64 * q + k)).toInt < (256 : Int32).toInt := by rw [h1, e]; omega
  refine ⟨Int32.ofNat (64 * q + k), r, ?_, ?_, h1⟩
  · have := own_nn r.1
    omega
  · have := (own_fr (n := (256 : Int32)) (by decide) r).2.2
    rw [this, h1]; omega
theorem own_bit {v0 v1 v2 v3 : Int64} {P : Nat → Bool} (hM : ∀ f : Int32, (0 ≤ f.toInt ∧ f.toInt < (256 : Int32).toInt) → (own_M v0 v1 v2 v3 f ↔ P f.toInt.toNat = true)) (q : Nat) (hq : q < 4) (Q : Int32) (hQ : Q.toInt = q) (k : Nat) (hk : k < 64) : P (64 * q + k) = (own_p_N64 (own_word Q v0 v1 v2 v3)).testBit k := by
  obtain ⟨f, r, e1, e2, e3⟩ := own_at q k hq hk
  have h1 := hM f r
  have h2 : f / (64 : Int32) = Q := by rw [← Int32.toInt_inj, e2, hQ]
  unfold own_M own_b at h1
  rw [h2, e1, e3, Int.toNat_natCast] at h1
  rw [Bool.eq_iff_iff]
  exact h1.symm
theorem own_tot {v0 v1 v2 v3 : Int64} {P : Nat → Bool} (hM : ∀ f : Int32, (0 ≤ f.toInt ∧ f.toInt < (256 : Int32).toInt) → (own_M v0 v1 v2 v3 f ↔ P f.toInt.toNat = true)) : (own_bc v0).toInt + (own_bc v1).toInt + (own_bc v2).toInt + (own_bc v3).toInt = ((own_p_cN P 256 : Nat) : Int) := by
  rw [own_bcv, own_bcv, own_bcv, own_bcv]
  have a1 := own_p_cN_add P 64 192
  have a2 := own_p_cN_add (fun k => P (64 + k)) 64 128
  have a3 := own_p_cN_add (fun k => P (64 + (64 + k))) 64 64
  have b0 := own_p_cN_congr P (fun k => (own_p_N64 v0).testBit k) 64 (fun k hk => by have := own_bit hM 0 (by decide) 0 (by decide) k hk; rw [own_w0] at this; rw [← this]; congr 1; omega)
  have b1 := own_p_cN_congr (fun k => P (64 + k)) (fun k => (own_p_N64 v1).testBit k) 64 (fun k hk => by have := own_bit hM 1 (by decide) 1 (by decide) k hk; rw [own_w1] at this; show P (64 + k) = _; rw [← this])
  have b2 := own_p_cN_congr (fun k => P (64 + (64 + k))) (fun k => (own_p_N64 v2).testBit k) 64 (fun k hk => by have := own_bit hM 2 (by decide) 2 (by decide) k hk; rw [own_w2] at this; show P (64 + (64 + k)) = _; rw [← this]; congr 1; omega)
  have b3 := own_p_cN_congr (fun k => P (64 + (64 + (64 + k)))) (fun k => (own_p_N64 v3).testBit k) 64 (fun k hk => by have := own_bit hM 3 (by decide) 3 (by decide) k hk; rw [own_w3] at this; show P (64 + (64 + (64 + k))) = _; rw [← this]; congr 1; omega)
  have a1' : own_p_cN P 256 = own_p_cN P 64 + own_p_cN (fun k => P (64 + k)) 192 := a1
  have a2' : own_p_cN (fun k => P (64 + k)) 192 = own_p_cN (fun k => P (64 + k)) 64 + own_p_cN (fun k => P (64 + (64 + k))) 128 := a2
  have a3' : own_p_cN (fun k => P (64 + (64 + k))) 128 = own_p_cN (fun k => P (64 + (64 + k))) 64 + own_p_cN (fun k => P (64 + (64 + (64 + k)))) 64 := a3
  omega
def own_exp (c p q : Int32) : Int32 := if q < c then (if p < c then c else c + (1 : Int32)) else if q = p then (if p < c then c else c + (1 : Int32)) else (if p < c then c else c + (1 : Int32)) + (1 : Int32)
theorem own_cntle (P : Nat → Bool) : ∀ n, own_p_cN P n ≤ n := by
  intro n
  induction n with
  | zero => exact Nat.le_refl 0
  | succ n ih => show own_p_cN P n + (if P n then 1 else 0) ≤ n + 1; split <;> omega
theorem own_szeq {c p q : Int32} {v0 v1 v2 v3 : Int64} (hc : 0 ≤ c.toInt ∧ c.toInt ≤ 256) (rp : 0 ≤ p.toInt ∧ p.toInt < (256 : Int32).toInt) (rq : 0 ≤ q.toInt ∧ q.toInt < (256 : Int32).toInt) (hM : ∀ f : Int32, (0 ≤ f.toInt ∧ f.toInt < (256 : Int32).toInt) → (own_M v0 v1 v2 v3 f ↔ (f.toInt < c.toInt ∨ f = p ∨ f = q))) {ex : Int32} (hex : ex = own_exp c p q) : ex = own_bc v0 + own_bc v1 + own_bc v2 + own_bc v3 := by
  have e256 : (256 : Int32).toInt = 256 := by decide
  have e1 : (1 : Int32).toInt = 1 := by decide
  have t := own_tot (P := fun j => decide (j < c.toInt.toNat ∨ j = p.toInt.toNat ∨ j = q.toInt.toNat)) (fun f r => by
    rw [hM f r, decide_eq_true_iff, ← Int32.toInt_inj, ← Int32.toInt_inj]
    omega)
  have s := own_p_cN_set c.toInt.toNat p.toInt.toNat q.toInt.toNat (fun j => decide (j < c.toInt.toNat ∨ j = p.toInt.toNat ∨ j = q.toInt.toNat)) (fun _ => rfl) 256
  rw [s] at t
  have n0 : 0 ≤ (own_bc v0).toInt ∧ (own_bc v0).toInt ≤ 64 := by rw [own_bcv]; have := own_cntle (fun k => (own_p_N64 v0).testBit k) 64; omega
  have n1 : 0 ≤ (own_bc v1).toInt ∧ (own_bc v1).toInt ≤ 64 := by rw [own_bcv]; have := own_cntle (fun k => (own_p_N64 v1).testBit k) 64; omega
  have n2 : 0 ≤ (own_bc v2).toInt ∧ (own_bc v2).toInt ≤ 64 := by rw [own_bcv]; have := own_cntle (fun k => (own_p_N64 v2).testBit k) 64; omega
  have n3 : 0 ≤ (own_bc v3).toInt ∧ (own_bc v3).toInt ≤ 64 := by rw [own_bcv]; have := own_cntle (fun k => (own_p_N64 v3).testBit k) 64; omega
  have g1 := c_iadd (own_bc v0) (own_bc v1)
  have g1r := rng32 (own_bc v0 + own_bc v1)
  have g2 := c_iadd (own_bc v0 + own_bc v1) (own_bc v2)
  have g2r := rng32 (own_bc v0 + own_bc v1 + own_bc v2)
  have g3 := c_iadd (own_bc v0 + own_bc v1 + own_bc v2) (own_bc v3)
  have g3r := rng32 (own_bc v0 + own_bc v1 + own_bc v2 + own_bc v3)
  have k1 := c_iadd c (1 : Int32)
  have k1r := rng32 (c + (1 : Int32))
  have k2 := c_iadd (c + (1 : Int32)) (1 : Int32)
  have k2r := rng32 (c + (1 : Int32) + (1 : Int32))
  have tt : (own_bc v0 + own_bc v1 + own_bc v2 + own_bc v3).toInt = (own_bc v0).toInt + (own_bc v1).toInt + (own_bc v2).toInt + (own_bc v3).toInt := by omega
  have c1 : (c + (1 : Int32)).toInt = c.toInt + 1 := by omega
  have c2 : (c + (1 : Int32) + (1 : Int32)).toInt = c.toInt + 2 := by omega
  rw [← Int32.toInt_inj, tt, t, hex]
  clear t s g1 g1r g2 g2r g3 g3r k1 k1r k2 k2r tt n0 n1 n2 n3 hM hex
  unfold own_exp
  simp only [Int32.lt_iff_toInt_lt, ← Int32.toInt_inj]
  by_cases hp : p.toInt < c.toInt
  · by_cases hq : q.toInt < c.toInt
    · rw [if_pos hq, if_pos hp, if_neg (by omega), if_neg (by omega)]; omega
    · by_cases hpq : q.toInt = p.toInt
      · omega
      · rw [if_neg hq, if_neg hpq, if_pos hp, if_neg (by omega), if_pos (by omega), c1]; omega
  · by_cases hq : q.toInt < c.toInt
    · rw [if_pos hq, if_neg hp, if_pos (by omega), if_neg (by omega), c1]; omega
    · by_cases hpq : q.toInt = p.toInt
      · rw [if_neg hq, if_pos hpq, if_neg hp, if_pos (by omega), if_neg (by omega), c1]; omega
      · rw [if_neg hq, if_neg hpq, if_neg hp, if_pos (by omega), if_pos (by omega), c2]; omega
theorem own_bey {q z I : Int32} {u v w : Int64} {i : Int} (hI : I.toInt = i) (hu : u = if q = I then w else v) (hq : q.toInt ≤ z.toInt) (hv : z.toInt < i → v = 0) : z.toInt < i → u = 0 := by
  intro h
  rw [hu, if_neg]
  · exact hv h
  · intro e
    rw [e, hI] at hq
    omega
theorem own_bey2 {d z : Int32} {u v : Int64} {i : Int} (hu : u = own_up d v) (hd : z.toInt < i → d.toInt ≤ 0) (hv : z.toInt < i → v = 0) : z.toInt < i → u = 0 := fun h => by rw [hu, own_upZ (hd h), hv h]
theorem own_z4 {n z : Int32} (hn : 1 ≤ n.toInt ∧ n.toInt ≤ 256) (h : z.toInt = (n.toInt - 1) / 64) : z = 0 ∨ z = 1 ∨ z = 2 ∨ z = 3 := by
  have h3 : z.toInt = (0 : Int32).toInt ∨ z.toInt = (1 : Int32).toInt ∨ z.toInt = (2 : Int32).toInt ∨ z.toInt = (3 : Int32).toInt := by simp; omega
  simpa only [Int32.toInt_inj] using h3
theorem own_n1 (p : Int32) : 1 ≤ ((1 : Int32) + ((p &&& (2147483647 : Int32)) % (256 : Int32))).toInt ∧ ((1 : Int32) + ((p &&& (2147483647 : Int32)) % (256 : Int32))).toInt ≤ 256 := by
  have h1 := own_rem p (256 : Int32) (by decide)
  have h2 := c_iadd (1 : Int32) ((p &&& (2147483647 : Int32)) % (256 : Int32))
  have h3 := rng32 ((1 : Int32) + ((p &&& (2147483647 : Int32)) % (256 : Int32)))
  have e1 : (1 : Int32).toInt = 1 := by decide
  have e2 : (256 : Int32).toInt = 256 := by decide
  omega
theorem own_m1 {n : Int32} (hn : 1 ≤ n.toInt ∧ n.toInt ≤ 256) : (n + (1 : Int32)).toInt = n.toInt + 1 := by
  have h2 := c_iadd n (1 : Int32)
  have h3 := rng32 (n + (1 : Int32))
  have e1 : (1 : Int32).toInt = 1 := by decide
  omega
theorem own_bc0 : own_bc 0 = 0 := by decide
theorem d7_0 : decode jdk_35_method_50_code 0 = .ok (.lload_n 0, 1) := by decide +kernel
theorem d7_1 : decode jdk_35_method_50_code 1 = .ok (.lload_n 0, 1) := by decide +kernel
theorem d7_2 : decode jdk_35_method_50_code 2 = .ok (.iconst 1, 1) := by decide +kernel
theorem d7_3 : decode jdk_35_method_50_code 3 = .ok (.lushr, 1) := by decide +kernel
theorem d7_4 : decode jdk_35_method_50_code 4 = .ok (.ldc2_w 314, 3) := by decide +kernel
theorem d7_7 : decode jdk_35_method_50_code 7 = .ok (.land, 1) := by decide +kernel
theorem d7_8 : decode jdk_35_method_50_code 8 = .ok (.lsub, 1) := by decide +kernel
theorem d7_9 : decode jdk_35_method_50_code 9 = .ok (.lstore_n 0, 1) := by decide +kernel
theorem d7_10 : decode jdk_35_method_50_code 10 = .ok (.lload_n 0, 1) := by decide +kernel
theorem d7_11 : decode jdk_35_method_50_code 11 = .ok (.ldc2_w 316, 3) := by decide +kernel
theorem d7_14 : decode jdk_35_method_50_code 14 = .ok (.land, 1) := by decide +kernel
theorem d7_15 : decode jdk_35_method_50_code 15 = .ok (.lload_n 0, 1) := by decide +kernel
theorem d7_16 : decode jdk_35_method_50_code 16 = .ok (.iconst 2, 1) := by decide +kernel
theorem d7_17 : decode jdk_35_method_50_code 17 = .ok (.lushr, 1) := by decide +kernel
theorem d7_18 : decode jdk_35_method_50_code 18 = .ok (.ldc2_w 316, 3) := by decide +kernel
theorem d7_21 : decode jdk_35_method_50_code 21 = .ok (.land, 1) := by decide +kernel
theorem d7_22 : decode jdk_35_method_50_code 22 = .ok (.ladd, 1) := by decide +kernel
theorem d7_23 : decode jdk_35_method_50_code 23 = .ok (.lstore_n 0, 1) := by decide +kernel
theorem d7_24 : decode jdk_35_method_50_code 24 = .ok (.lload_n 0, 1) := by decide +kernel
theorem d7_25 : decode jdk_35_method_50_code 25 = .ok (.lload_n 0, 1) := by decide +kernel
theorem d7_26 : decode jdk_35_method_50_code 26 = .ok (.iconst 4, 1) := by decide +kernel
theorem d7_27 : decode jdk_35_method_50_code 27 = .ok (.lushr, 1) := by decide +kernel
theorem d7_28 : decode jdk_35_method_50_code 28 = .ok (.ladd, 1) := by decide +kernel
theorem d7_29 : decode jdk_35_method_50_code 29 = .ok (.ldc2_w 318, 3) := by decide +kernel
theorem d7_32 : decode jdk_35_method_50_code 32 = .ok (.land, 1) := by decide +kernel
theorem d7_33 : decode jdk_35_method_50_code 33 = .ok (.lstore_n 0, 1) := by decide +kernel
theorem d7_34 : decode jdk_35_method_50_code 34 = .ok (.lload_n 0, 1) := by decide +kernel
theorem d7_35 : decode jdk_35_method_50_code 35 = .ok (.lload_n 0, 1) := by decide +kernel
theorem d7_36 : decode jdk_35_method_50_code 36 = .ok (.bipush 8, 2) := by decide +kernel
theorem d7_38 : decode jdk_35_method_50_code 38 = .ok (.lushr, 1) := by decide +kernel
theorem d7_39 : decode jdk_35_method_50_code 39 = .ok (.ladd, 1) := by decide +kernel
theorem d7_40 : decode jdk_35_method_50_code 40 = .ok (.lstore_n 0, 1) := by decide +kernel
theorem d7_41 : decode jdk_35_method_50_code 41 = .ok (.lload_n 0, 1) := by decide +kernel
theorem d7_42 : decode jdk_35_method_50_code 42 = .ok (.lload_n 0, 1) := by decide +kernel
theorem d7_43 : decode jdk_35_method_50_code 43 = .ok (.bipush 16, 2) := by decide +kernel
theorem d7_45 : decode jdk_35_method_50_code 45 = .ok (.lushr, 1) := by decide +kernel
theorem d7_46 : decode jdk_35_method_50_code 46 = .ok (.ladd, 1) := by decide +kernel
theorem d7_47 : decode jdk_35_method_50_code 47 = .ok (.lstore_n 0, 1) := by decide +kernel
theorem d7_48 : decode jdk_35_method_50_code 48 = .ok (.lload_n 0, 1) := by decide +kernel
theorem d7_49 : decode jdk_35_method_50_code 49 = .ok (.lload_n 0, 1) := by decide +kernel
theorem d7_50 : decode jdk_35_method_50_code 50 = .ok (.bipush 32, 2) := by decide +kernel
theorem d7_52 : decode jdk_35_method_50_code 52 = .ok (.lushr, 1) := by decide +kernel
theorem d7_53 : decode jdk_35_method_50_code 53 = .ok (.ladd, 1) := by decide +kernel
theorem d7_54 : decode jdk_35_method_50_code 54 = .ok (.lstore_n 0, 1) := by decide +kernel
theorem d7_55 : decode jdk_35_method_50_code 55 = .ok (.lload_n 0, 1) := by decide +kernel
theorem d7_56 : decode jdk_35_method_50_code 56 = .ok (.l2i, 1) := by decide +kernel
theorem d7_57 : decode jdk_35_method_50_code 57 = .ok (.bipush 127, 2) := by decide +kernel
theorem d7_59 : decode jdk_35_method_50_code 59 = .ok (.iand, 1) := by decide +kernel
theorem d7_60 : decode jdk_35_method_50_code 60 = .ok (.ireturn, 1) := by decide +kernel
theorem pn_rmB : plainName "java/lang/Long" = true := by first | (simp [plainName, overriddenIn]; done) | decide +kernel
theorem ef_rmB (m : MethodId) (v1 : Int64) : entryFrame m #[(.long v1)] 2 = mkF m 0 #[.val (.long v1), .second] [] := by first | (simp [entryFrame, mkF, argsToLocals, Value.category]; done) | rfl
set_option maxRecDepth 65536 in
set_option maxHeartbeats 40000000 in
theorem rmB (l : Launch) (Z : State) (a0 : Array Value) (hw : ∀ d ∈ tables_1, d.before a0 Z = true) (ws : List Jvm.Cond) (v1 : Int64) (r : Int32) (h0 : Heap) (n0 : Nat) (Z0 : n0 ≤ h0.size) (hr0 : r = own_bc v1) :
    MetFree l (⟨"java/lang/Long", "bitCount", "(J)I"⟩ : MethodName) (head1 (Jvm.Cond.code (⟨"java/lang/Long", "bitCount", "(J)I"⟩ : MethodName) jdk_35_method_50_code 2 (some .int) :: ws) ({ frames := 0, cells := 0, slots := 0, locals := 0 } : Room)) (fun a U => a = #[(.long v1)] ∧ Z.Warmed39 U.vm ∧ U.heap = h0) (fun _ _ _ _ _ => True) (fun _ U o U' => ∃ v L, o = .returned v ∧ QI Z r h0 n0 v U'.heap L ∧ FrameEnd U o U' L ({ frames := 0, cells := 0, slots := 0, locals := 0 } : Room).cells ({ frames := 0, cells := 0, slots := 0, locals := 0 } : Room).slots) := by
  refine MetFree.of_bodySF (plainFor_of_name pn_rmB) hisR ?_
  intro p e s m args below meth c s₁ Bd hml0 hP hK
  obtain ⟨rfl, hZ, hh⟩ := hP
  have hx := Bd.exec
  have hby := Bd.bytes
  have hml : c.maxLocals = 2 := hml0
  have hown : s.vm.findClass "java/lang/Long" = some m.cls := findClass_of_methodNamed Bd.named
  have hnm := (name_of_methodNamed Bd.named Bd.method).1
  have X0 : Stand p l e ({ frames := 0, cells := 0, slots := 0, locals := 0 } : Room) s m #[(.long v1)] below meth c s₁ [] 0 0 := Stand.of_body Bd
  have e0 : s₁.heap = h0 := by rw [← hh, Bd.state]; rfl
  have N0 := Fr.nil n0
  have pre0 : ∀ tt, Steps p.tables e below (s₁.setTop (mkF m 0 #[.val (.long v1), .second] [])) tt → Steps p.tables e below (s₁.setTop (entryFrame m #[(.long v1)] 2)) tt := fun tt kt => castTop (ef_rmB m v1) kt
  obtain ⟨x1, hx1⟩ : ∃ z : Int64, z = (v1 - (((v1.toUInt64 >>> ((1 : Int32) &&& 0x3f).toInt64.toUInt64).toInt64) &&& (6148914691236517205 : Int64))) := ⟨_, rfl⟩
  have pre1 : ∀ tt, Steps p.tables e below (s₁.setTop (mkF m 9 #[.val (.long v1), .second] [(.long x1)])) tt → Steps p.tables e below (s₁.setTop (entryFrame m #[(.long v1)] 2)) tt := by
    intro tt kt
    refine pre0 tt ?_
    show Steps p.tables e below (s₁.setTop (mkF m 0 #[.val (.long v1), .second] [])) _
    refine XS.lloadN X0.here hx rfl (hb hby d7_0) rfl ?_
    show Steps p.tables e below (s₁.setTop (mkF m 1 #[.val (.long v1), .second] [(.long v1)])) _
    refine XS.lloadN X0.here hx rfl (hb hby d7_1) rfl ?_
    show Steps p.tables e below (s₁.setTop (mkF m 2 #[.val (.long v1), .second] [(.long v1), (.long v1)])) _
    refine XS.iconst X0.here hx rfl (hb hby d7_2) ?_
    show Steps p.tables e below (s₁.setTop (mkF m 3 #[.val (.long v1), .second] [(.int (1 : Int32)), (.long v1), (.long v1)])) _
    refine XS.lushr X0.here hx rfl (hb hby d7_3) rfl ?_
    show Steps p.tables e below (s₁.setTop (mkF m 4 #[.val (.long v1), .second] [(.long ((v1.toUInt64 >>> ((1 : Int32) &&& 0x3f).toInt64.toUInt64).toInt64)), (.long v1)])) _
    refine X0.ldc2Long hx hown (mvT hZ (hw _ (List.mem_of_getElem? (i := 40) rfl))) (g := (mkF m 4 #[.val (.long v1), .second] [(.long ((v1.toUInt64 >>> ((1 : Int32) &&& 0x3f).toInt64.toUInt64).toInt64)), (.long v1)])) rfl (hb hby d7_4) _ ?_
    show Steps p.tables e below (s₁.setTop (mkF m 7 #[.val (.long v1), .second] [(.long (6148914691236517205 : Int64)), (.long ((v1.toUInt64 >>> ((1 : Int32) &&& 0x3f).toInt64.toUInt64).toInt64)), (.long v1)])) _
    refine XS.land X0.here hx rfl (hb hby d7_7) rfl ?_
    show Steps p.tables e below (s₁.setTop (mkF m 8 #[.val (.long v1), .second] [(.long (((v1.toUInt64 >>> ((1 : Int32) &&& 0x3f).toInt64.toUInt64).toInt64) &&& (6148914691236517205 : Int64))), (.long v1)])) _
    refine XS.lsub X0.here hx rfl (hb hby d7_8) rfl ?_
    show Steps p.tables e below (s₁.setTop (mkF m 9 #[.val (.long v1), .second] [(.long (v1 - (((v1.toUInt64 >>> ((1 : Int32) &&& 0x3f).toInt64.toUInt64).toInt64) &&& (6148914691236517205 : Int64))))])) _
    rw [← hx1]
    exact kt
  obtain ⟨x2, hx2⟩ : ∃ z : Int64, z = ((x1 &&& (3689348814741910323 : Int64)) + (((x1.toUInt64 >>> ((2 : Int32) &&& 0x3f).toInt64.toUInt64).toInt64) &&& (3689348814741910323 : Int64))) := ⟨_, rfl⟩
  have pre2 : ∀ tt, Steps p.tables e below (s₁.setTop (mkF m 23 #[.val (.long x1), .second] [(.long x2)])) tt → Steps p.tables e below (s₁.setTop (entryFrame m #[(.long v1)] 2)) tt := by
    intro tt kt
    refine pre1 tt ?_
    show Steps p.tables e below (s₁.setTop (mkF m 9 #[.val (.long v1), .second] [(.long x1)])) _
    refine XS.lstoreN X0.here hx rfl (hb hby d7_9) rfl (l' := #[.val (.long x1), .second]) rfl ?_
    show Steps p.tables e below (s₁.setTop (mkF m 10 #[.val (.long x1), .second] [])) _
    refine XS.lloadN X0.here hx rfl (hb hby d7_10) rfl ?_
    show Steps p.tables e below (s₁.setTop (mkF m 11 #[.val (.long x1), .second] [(.long x1)])) _
    refine X0.ldc2Long hx hown (mvT hZ (hw _ (List.mem_of_getElem? (i := 41) rfl))) (g := (mkF m 11 #[.val (.long x1), .second] [(.long x1)])) rfl (hb hby d7_11) _ ?_
    show Steps p.tables e below (s₁.setTop (mkF m 14 #[.val (.long x1), .second] [(.long (3689348814741910323 : Int64)), (.long x1)])) _
    refine XS.land X0.here hx rfl (hb hby d7_14) rfl ?_
    show Steps p.tables e below (s₁.setTop (mkF m 15 #[.val (.long x1), .second] [(.long (x1 &&& (3689348814741910323 : Int64)))])) _
    refine XS.lloadN X0.here hx rfl (hb hby d7_15) rfl ?_
    show Steps p.tables e below (s₁.setTop (mkF m 16 #[.val (.long x1), .second] [(.long x1), (.long (x1 &&& (3689348814741910323 : Int64)))])) _
    refine XS.iconst X0.here hx rfl (hb hby d7_16) ?_
    show Steps p.tables e below (s₁.setTop (mkF m 17 #[.val (.long x1), .second] [(.int (2 : Int32)), (.long x1), (.long (x1 &&& (3689348814741910323 : Int64)))])) _
    refine XS.lushr X0.here hx rfl (hb hby d7_17) rfl ?_
    show Steps p.tables e below (s₁.setTop (mkF m 18 #[.val (.long x1), .second] [(.long ((x1.toUInt64 >>> ((2 : Int32) &&& 0x3f).toInt64.toUInt64).toInt64)), (.long (x1 &&& (3689348814741910323 : Int64)))])) _
    refine X0.ldc2Long hx hown (mvT hZ (hw _ (List.mem_of_getElem? (i := 41) rfl))) (g := (mkF m 18 #[.val (.long x1), .second] [(.long ((x1.toUInt64 >>> ((2 : Int32) &&& 0x3f).toInt64.toUInt64).toInt64)), (.long (x1 &&& (3689348814741910323 : Int64)))])) rfl (hb hby d7_18) _ ?_
    show Steps p.tables e below (s₁.setTop (mkF m 21 #[.val (.long x1), .second] [(.long (3689348814741910323 : Int64)), (.long ((x1.toUInt64 >>> ((2 : Int32) &&& 0x3f).toInt64.toUInt64).toInt64)), (.long (x1 &&& (3689348814741910323 : Int64)))])) _
    refine XS.land X0.here hx rfl (hb hby d7_21) rfl ?_
    show Steps p.tables e below (s₁.setTop (mkF m 22 #[.val (.long x1), .second] [(.long (((x1.toUInt64 >>> ((2 : Int32) &&& 0x3f).toInt64.toUInt64).toInt64) &&& (3689348814741910323 : Int64))), (.long (x1 &&& (3689348814741910323 : Int64)))])) _
    refine XS.ladd X0.here hx rfl (hb hby d7_22) rfl ?_
    show Steps p.tables e below (s₁.setTop (mkF m 23 #[.val (.long x1), .second] [(.long ((x1 &&& (3689348814741910323 : Int64)) + (((x1.toUInt64 >>> ((2 : Int32) &&& 0x3f).toInt64.toUInt64).toInt64) &&& (3689348814741910323 : Int64))))])) _
    rw [← hx2]
    exact kt
  obtain ⟨x3, hx3⟩ : ∃ z : Int64, z = ((x2 + ((x2.toUInt64 >>> ((4 : Int32) &&& 0x3f).toInt64.toUInt64).toInt64)) &&& (1085102592571150095 : Int64)) := ⟨_, rfl⟩
  have pre3 : ∀ tt, Steps p.tables e below (s₁.setTop (mkF m 33 #[.val (.long x2), .second] [(.long x3)])) tt → Steps p.tables e below (s₁.setTop (entryFrame m #[(.long v1)] 2)) tt := by
    intro tt kt
    refine pre2 tt ?_
    show Steps p.tables e below (s₁.setTop (mkF m 23 #[.val (.long x1), .second] [(.long x2)])) _
    refine XS.lstoreN X0.here hx rfl (hb hby d7_23) rfl (l' := #[.val (.long x2), .second]) rfl ?_
    show Steps p.tables e below (s₁.setTop (mkF m 24 #[.val (.long x2), .second] [])) _
    refine XS.lloadN X0.here hx rfl (hb hby d7_24) rfl ?_
    show Steps p.tables e below (s₁.setTop (mkF m 25 #[.val (.long x2), .second] [(.long x2)])) _
    refine XS.lloadN X0.here hx rfl (hb hby d7_25) rfl ?_
    show Steps p.tables e below (s₁.setTop (mkF m 26 #[.val (.long x2), .second] [(.long x2), (.long x2)])) _
    refine XS.iconst X0.here hx rfl (hb hby d7_26) ?_
    show Steps p.tables e below (s₁.setTop (mkF m 27 #[.val (.long x2), .second] [(.int (4 : Int32)), (.long x2), (.long x2)])) _
    refine XS.lushr X0.here hx rfl (hb hby d7_27) rfl ?_
    show Steps p.tables e below (s₁.setTop (mkF m 28 #[.val (.long x2), .second] [(.long ((x2.toUInt64 >>> ((4 : Int32) &&& 0x3f).toInt64.toUInt64).toInt64)), (.long x2)])) _
    refine XS.ladd X0.here hx rfl (hb hby d7_28) rfl ?_
    show Steps p.tables e below (s₁.setTop (mkF m 29 #[.val (.long x2), .second] [(.long (x2 + ((x2.toUInt64 >>> ((4 : Int32) &&& 0x3f).toInt64.toUInt64).toInt64)))])) _
    refine X0.ldc2Long hx hown (mvT hZ (hw _ (List.mem_of_getElem? (i := 42) rfl))) (g := (mkF m 29 #[.val (.long x2), .second] [(.long (x2 + ((x2.toUInt64 >>> ((4 : Int32) &&& 0x3f).toInt64.toUInt64).toInt64)))])) rfl (hb hby d7_29) _ ?_
    show Steps p.tables e below (s₁.setTop (mkF m 32 #[.val (.long x2), .second] [(.long (1085102592571150095 : Int64)), (.long (x2 + ((x2.toUInt64 >>> ((4 : Int32) &&& 0x3f).toInt64.toUInt64).toInt64)))])) _
    refine XS.land X0.here hx rfl (hb hby d7_32) rfl ?_
    show Steps p.tables e below (s₁.setTop (mkF m 33 #[.val (.long x2), .second] [(.long ((x2 + ((x2.toUInt64 >>> ((4 : Int32) &&& 0x3f).toInt64.toUInt64).toInt64)) &&& (1085102592571150095 : Int64)))])) _
    rw [← hx3]
    exact kt
  obtain ⟨x4, hx4⟩ : ∃ z : Int64, z = (x3 + ((x3.toUInt64 >>> ((8 : Int32) &&& 0x3f).toInt64.toUInt64).toInt64)) := ⟨_, rfl⟩
  have pre4 : ∀ tt, Steps p.tables e below (s₁.setTop (mkF m 40 #[.val (.long x3), .second] [(.long x4)])) tt → Steps p.tables e below (s₁.setTop (entryFrame m #[(.long v1)] 2)) tt := by
    intro tt kt
    refine pre3 tt ?_
    show Steps p.tables e below (s₁.setTop (mkF m 33 #[.val (.long x2), .second] [(.long x3)])) _
    refine XS.lstoreN X0.here hx rfl (hb hby d7_33) rfl (l' := #[.val (.long x3), .second]) rfl ?_
    show Steps p.tables e below (s₁.setTop (mkF m 34 #[.val (.long x3), .second] [])) _
    refine XS.lloadN X0.here hx rfl (hb hby d7_34) rfl ?_
    show Steps p.tables e below (s₁.setTop (mkF m 35 #[.val (.long x3), .second] [(.long x3)])) _
    refine XS.lloadN X0.here hx rfl (hb hby d7_35) rfl ?_
    show Steps p.tables e below (s₁.setTop (mkF m 36 #[.val (.long x3), .second] [(.long x3), (.long x3)])) _
    refine XS.bipush X0.here hx rfl (hb hby d7_36) ?_
    show Steps p.tables e below (s₁.setTop (mkF m 38 #[.val (.long x3), .second] [(.int (8 : Int32)), (.long x3), (.long x3)])) _
    refine XS.lushr X0.here hx rfl (hb hby d7_38) rfl ?_
    show Steps p.tables e below (s₁.setTop (mkF m 39 #[.val (.long x3), .second] [(.long ((x3.toUInt64 >>> ((8 : Int32) &&& 0x3f).toInt64.toUInt64).toInt64)), (.long x3)])) _
    refine XS.ladd X0.here hx rfl (hb hby d7_39) rfl ?_
    show Steps p.tables e below (s₁.setTop (mkF m 40 #[.val (.long x3), .second] [(.long (x3 + ((x3.toUInt64 >>> ((8 : Int32) &&& 0x3f).toInt64.toUInt64).toInt64)))])) _
    rw [← hx4]
    exact kt
  obtain ⟨x5, hx5⟩ : ∃ z : Int64, z = (x4 + ((x4.toUInt64 >>> ((16 : Int32) &&& 0x3f).toInt64.toUInt64).toInt64)) := ⟨_, rfl⟩
  have pre5 : ∀ tt, Steps p.tables e below (s₁.setTop (mkF m 47 #[.val (.long x4), .second] [(.long x5)])) tt → Steps p.tables e below (s₁.setTop (entryFrame m #[(.long v1)] 2)) tt := by
    intro tt kt
    refine pre4 tt ?_
    show Steps p.tables e below (s₁.setTop (mkF m 40 #[.val (.long x3), .second] [(.long x4)])) _
    refine XS.lstoreN X0.here hx rfl (hb hby d7_40) rfl (l' := #[.val (.long x4), .second]) rfl ?_
    show Steps p.tables e below (s₁.setTop (mkF m 41 #[.val (.long x4), .second] [])) _
    refine XS.lloadN X0.here hx rfl (hb hby d7_41) rfl ?_
    show Steps p.tables e below (s₁.setTop (mkF m 42 #[.val (.long x4), .second] [(.long x4)])) _
    refine XS.lloadN X0.here hx rfl (hb hby d7_42) rfl ?_
    show Steps p.tables e below (s₁.setTop (mkF m 43 #[.val (.long x4), .second] [(.long x4), (.long x4)])) _
    refine XS.bipush X0.here hx rfl (hb hby d7_43) ?_
    show Steps p.tables e below (s₁.setTop (mkF m 45 #[.val (.long x4), .second] [(.int (16 : Int32)), (.long x4), (.long x4)])) _
    refine XS.lushr X0.here hx rfl (hb hby d7_45) rfl ?_
    show Steps p.tables e below (s₁.setTop (mkF m 46 #[.val (.long x4), .second] [(.long ((x4.toUInt64 >>> ((16 : Int32) &&& 0x3f).toInt64.toUInt64).toInt64)), (.long x4)])) _
    refine XS.ladd X0.here hx rfl (hb hby d7_46) rfl ?_
    show Steps p.tables e below (s₁.setTop (mkF m 47 #[.val (.long x4), .second] [(.long (x4 + ((x4.toUInt64 >>> ((16 : Int32) &&& 0x3f).toInt64.toUInt64).toInt64)))])) _
    rw [← hx5]
    exact kt
  obtain ⟨x6, hx6⟩ : ∃ z : Int64, z = (x5 + ((x5.toUInt64 >>> ((32 : Int32) &&& 0x3f).toInt64.toUInt64).toInt64)) := ⟨_, rfl⟩
  have pre6 : ∀ tt, Steps p.tables e below (s₁.setTop (mkF m 54 #[.val (.long x5), .second] [(.long x6)])) tt → Steps p.tables e below (s₁.setTop (entryFrame m #[(.long v1)] 2)) tt := by
    intro tt kt
    refine pre5 tt ?_
    show Steps p.tables e below (s₁.setTop (mkF m 47 #[.val (.long x4), .second] [(.long x5)])) _
    refine XS.lstoreN X0.here hx rfl (hb hby d7_47) rfl (l' := #[.val (.long x5), .second]) rfl ?_
    show Steps p.tables e below (s₁.setTop (mkF m 48 #[.val (.long x5), .second] [])) _
    refine XS.lloadN X0.here hx rfl (hb hby d7_48) rfl ?_
    show Steps p.tables e below (s₁.setTop (mkF m 49 #[.val (.long x5), .second] [(.long x5)])) _
    refine XS.lloadN X0.here hx rfl (hb hby d7_49) rfl ?_
    show Steps p.tables e below (s₁.setTop (mkF m 50 #[.val (.long x5), .second] [(.long x5), (.long x5)])) _
    refine XS.bipush X0.here hx rfl (hb hby d7_50) ?_
    show Steps p.tables e below (s₁.setTop (mkF m 52 #[.val (.long x5), .second] [(.int (32 : Int32)), (.long x5), (.long x5)])) _
    refine XS.lushr X0.here hx rfl (hb hby d7_52) rfl ?_
    show Steps p.tables e below (s₁.setTop (mkF m 53 #[.val (.long x5), .second] [(.long ((x5.toUInt64 >>> ((32 : Int32) &&& 0x3f).toInt64.toUInt64).toInt64)), (.long x5)])) _
    refine XS.ladd X0.here hx rfl (hb hby d7_53) rfl ?_
    show Steps p.tables e below (s₁.setTop (mkF m 54 #[.val (.long x5), .second] [(.long (x5 + ((x5.toUInt64 >>> ((32 : Int32) &&& 0x3f).toInt64.toUInt64).toInt64)))])) _
    rw [← hx6]
    exact kt
  have pre7 : ∀ tt, Steps p.tables e below (s₁.setTop (mkF m 60 #[.val (.long x6), .second] [(.int ((x6.toInt32) &&& (127 : Int32)))])) tt → Steps p.tables e below (s₁.setTop (entryFrame m #[(.long v1)] 2)) tt := by
    intro tt kt
    refine pre6 tt ?_
    show Steps p.tables e below (s₁.setTop (mkF m 54 #[.val (.long x5), .second] [(.long x6)])) _
    refine XS.lstoreN X0.here hx rfl (hb hby d7_54) rfl (l' := #[.val (.long x6), .second]) rfl ?_
    show Steps p.tables e below (s₁.setTop (mkF m 55 #[.val (.long x6), .second] [])) _
    refine XS.lloadN X0.here hx rfl (hb hby d7_55) rfl ?_
    show Steps p.tables e below (s₁.setTop (mkF m 56 #[.val (.long x6), .second] [(.long x6)])) _
    refine XS.l2i X0.here hx rfl (hb hby d7_56) rfl ?_
    show Steps p.tables e below (s₁.setTop (mkF m 57 #[.val (.long x6), .second] [(.int (x6.toInt32))])) _
    refine XS.bipush X0.here hx rfl (hb hby d7_57) ?_
    show Steps p.tables e below (s₁.setTop (mkF m 59 #[.val (.long x6), .second] [(.int (127 : Int32)), (.int (x6.toInt32))])) _
    refine XS.iand X0.here hx rfl (hb hby d7_59) rfl ?_
    exact kt
  obtain ⟨fs, hr, hrun, hended, hW, hsame⟩ := X0.leave (v := some (.int ((x6.toInt32) &&& (127 : Int32)))) (fun h => by rw [Bd.returns] at h; cases h)
  refine ⟨_, _, pre7 _ ?_, hrun, hended, _, _, rfl, ?_, ⟨_, rfl⟩, hW, hsame.mono (by decide) (by decide)⟩
  · show Steps p.tables e below (s₁.setTop (mkF m 60 #[.val (.long x6), .second] [(.int ((x6.toInt32) &&& (127 : Int32)))])) _
    exact retI X0 hx Bd.returns (hb hby d7_60) hr
  · show QI Z r h0 n0 _ s₁.heap _
    rw [e0]
    exact ⟨by rw [hr0, hx6, hx5, hx4, hx3, hx2, hx1]; rfl, N0, rfl⟩
theorem d6_0 : decode prog_6_method_10_code 0 = .ok (.aload_n 0, 1) := by decide +kernel
theorem d6_1 : decode prog_6_method_10_code 1 = .ok (.getfield 18, 3) := by decide +kernel
theorem d6_4 : decode prog_6_method_10_code 4 = .ok (.invokestatic 30, 3) := by decide +kernel
theorem d6_7 : decode prog_6_method_10_code 7 = .ok (.istore_n 1, 1) := by decide +kernel
theorem d6_8 : decode prog_6_method_10_code 8 = .ok (.aload_n 0, 1) := by decide +kernel
theorem d6_9 : decode prog_6_method_10_code 9 = .ok (.getfield 15, 3) := by decide +kernel
theorem d6_12 : decode prog_6_method_10_code 12 = .ok (.astore_n 2, 1) := by decide +kernel
theorem d6_13 : decode prog_6_method_10_code 13 = .ok (.aload_n 2, 1) := by decide +kernel
theorem d6_14 : decode prog_6_method_10_code 14 = .ok (.arraylength, 1) := by decide +kernel
theorem d6_15 : decode prog_6_method_10_code 15 = .ok (.istore_n 3, 1) := by decide +kernel
theorem d6_16 : decode prog_6_method_10_code 16 = .ok (.iconst 0, 1) := by decide +kernel
theorem d6_17 : decode prog_6_method_10_code 17 = .ok (.istore 4, 2) := by decide +kernel
theorem d6_19 : decode prog_6_method_10_code 19 = .ok (.iload 4, 2) := by decide +kernel
theorem d6_21 : decode prog_6_method_10_code 21 = .ok (.iload_n 3, 1) := by decide +kernel
theorem d6_22 : decode prog_6_method_10_code 22 = .ok (.if_icmp .ge 23, 3) := by decide +kernel
theorem d6_25 : decode prog_6_method_10_code 25 = .ok (.aload_n 2, 1) := by decide +kernel
theorem d6_26 : decode prog_6_method_10_code 26 = .ok (.iload 4, 2) := by decide +kernel
theorem d6_28 : decode prog_6_method_10_code 28 = .ok (.laload, 1) := by decide +kernel
theorem d6_29 : decode prog_6_method_10_code 29 = .ok (.lstore 5, 2) := by decide +kernel
theorem d6_31 : decode prog_6_method_10_code 31 = .ok (.iload_n 1, 1) := by decide +kernel
theorem d6_32 : decode prog_6_method_10_code 32 = .ok (.lload 5, 2) := by decide +kernel
theorem d6_34 : decode prog_6_method_10_code 34 = .ok (.invokestatic 30, 3) := by decide +kernel
theorem d6_37 : decode prog_6_method_10_code 37 = .ok (.iadd, 1) := by decide +kernel
theorem d6_38 : decode prog_6_method_10_code 38 = .ok (.istore_n 1, 1) := by decide +kernel
theorem d6_39 : decode prog_6_method_10_code 39 = .ok (.iinc 4 1, 3) := by decide +kernel
theorem d6_42 : decode prog_6_method_10_code 42 = .ok (.goto (-23), 3) := by decide +kernel
theorem d6_45 : decode prog_6_method_10_code 45 = .ok (.iload_n 1, 1) := by decide +kernel
theorem d6_46 : decode prog_6_method_10_code 46 = .ok (.ireturn, 1) := by decide +kernel
theorem pn_rmS : plainName "com/example/phase7/phase7/metadata/FieldSet" = true := by first | (simp [plainName, overriddenIn]; done) | decide +kernel
theorem pd_rmS_0 : parseMethodDescriptor "(J)I" = some ⟨[.long], some .int⟩ := by decide +kernel
theorem ef_rmS (m : MethodId) (a1 : Addr) : entryFrame m #[(.ref a1)] 7 = mkF m 0 #[.val (.ref a1), .unset, .unset, .unset, .unset, .unset, .unset] [] := by first | (simp [entryFrame, mkF, argsToLocals, Value.category]; done) | rfl
set_option maxRecDepth 65536 in
set_option maxHeartbeats 40000000 in
theorem rmS (l : Launch) (Z : State) (a0 : Array Value) (hw : ∀ d ∈ tables_1, d.before a0 Z = true) (ws : List Jvm.Cond) (a1 b : Addr) (kb : ClassId) (z1 r : Int32) (v0 v1 v2 v3 : Int64) (h0 : Heap) (n0 : Nat) (Z0 : n0 ≤ h0.size) (F_f : Fld Z h0 a1 "com/example/phase7/phase7/metadata/FieldSet" "first" "J" (.long v0)) (F_g : Fld Z h0 a1 "com/example/phase7/phase7/metadata/FieldSet" "further" "[J" (.ref b)) (V_b : Arv Z h0 b kb .long z1 [(.long v1), (.long v2), (.long v3)] (.long (0 : Int64))) (rz : z1 = 0 ∨ z1 = 1 ∨ z1 = 2 ∨ z1 = 3) (hbz : (z1.toInt < 1 → v1 = 0) ∧ (z1.toInt < 2 → v2 = 0) ∧ (z1.toInt < 3 → v3 = 0)) (hr0 : r = own_bc v0 + own_bc v1 + own_bc v2 + own_bc v3) :
    MetFree l (⟨"com/example/phase7/phase7/metadata/FieldSet", "size", "()I"⟩ : MethodName) (head1 (Jvm.Cond.code (⟨"com/example/phase7/phase7/metadata/FieldSet", "size", "()I"⟩ : MethodName) prog_6_method_10_code 7 (some .int) :: ws) ({ frames := 1, cells := 0, slots := 0, locals := 14 } : Room)) (fun a U => a = #[(.ref a1)] ∧ Z.Warmed39 U.vm ∧ U.heap = h0) (fun _ _ _ _ _ => True) (fun _ U o U' => ∃ v L, o = .returned v ∧ QI Z r h0 n0 v U'.heap L ∧ FrameEnd U o U' L ({ frames := 1, cells := 0, slots := 0, locals := 14 } : Room).cells ({ frames := 1, cells := 0, slots := 0, locals := 14 } : Room).slots) := by
  refine MetFree.of_bodySF (plainFor_of_name pn_rmS) hisR ?_
  intro p e s m args below meth c s₁ Bd hml0 hP hK
  obtain ⟨rfl, hZ, hh⟩ := hP
  have hx := Bd.exec
  have hby := Bd.bytes
  have hml : c.maxLocals = 7 := hml0
  have hown : s.vm.findClass "com/example/phase7/phase7/metadata/FieldSet" = some m.cls := findClass_of_methodNamed Bd.named
  have hnm := (name_of_methodNamed Bd.named Bd.method).1
  have X0 : Stand p l e ({ frames := 1, cells := 0, slots := 0, locals := 14 } : Room) s m #[(.ref a1)] below meth c s₁ [] 0 0 := Stand.of_body Bd
  have e0 : s₁.heap = h0 := by rw [← hh, Bd.state]; rfl
  have N0 := Fr.nil n0
  have pre0 : ∀ tt, Steps p.tables e below (s₁.setTop (mkF m 0 #[.val (.ref a1), .unset, .unset, .unset, .unset, .unset, .unset] [])) tt → Steps p.tables e below (s₁.setTop (entryFrame m #[(.ref a1)] 7)) tt := fun tt kt => castTop (ef_rmS m a1) kt
  rcases rz with rfl | rfl | rfl | rfl
  · have hz0 := hbz
    obtain ⟨T1, X1, e1, st1⟩ := getF X0 hx hZ hown (host := "") (Or.inl (hw _ (List.mem_of_getElem? (i := 19) rfl))) Via.refl e0 F_f (g := (mkF m 1 #[.val (.ref a1), .unset, .unset, .unset, .unset, .unset, .unset] [(.ref a1)])) rfl rfl (hb hby d6_1)
    obtain ⟨_, _, ⟨T2, L2, k2, n2⟩, -, X2, ⟨Lc2, hQ2, l2, y2, z2⟩, st2⟩ := Jvm.LawKit.callS X1 hx (y := (⟨"java/lang/Long", "bitCount", "(J)I"⟩ : MethodName)) hown (mvT hZ (hw _ (List.mem_of_getElem? (i := 36) rfl))) (mvT hZ (hw _ (List.mem_of_getElem? (i := 37) rfl))) (mvT hZ (hw _ (List.mem_of_getElem? (i := 38) rfl))) (mvT hZ (hw _ (List.mem_of_getElem? (i := 39) rfl))) (by decide) (backOf (W := 0) (rmB l Z a0 hw [] v0 (own_bc v0) h0 n0 Z0 rfl) hZ (hw _ (List.mem_of_getElem? (i := 39) rfl)) (hw _ (List.mem_of_getElem? (i := 38) rfl)) (by decide) (by decide)) (g := (mkF m 4 #[.val (.ref a1), .unset, .unset, .unset, .unset, .unset, .unset] [(.long v0)])) rfl (by rw [hml]; rfl) (argsL := [(.long v0)]) (rest := []) (lenOf pd_rmS_0 rfl) rfl (by show 2 * 0 + _ ≤ _; exact Nat.le_of_eq rfl) (hb hby d6_4) (fun _ _ => ⟨rfl, e1, (by decide : 0 + 0 ≤ _), (by decide : 0 + 0 ≤ _)⟩)
    dsimp only [Pt.U, Pt.locs, Pt.cells, Pt.slots] at X2 l2 y2 z2 st2 hQ2
    subst l2 y2 z2
    obtain ⟨rfl, N2q, hE2⟩ := hQ2
    have N2 := Fr.app N0 N2q
    obtain ⟨T3, X3, e3, st3⟩ := getF X2 hx hZ hown (host := "") (Or.inl (hw _ (List.mem_of_getElem? (i := 12) rfl))) Via.refl hE2 F_g (g := (mkF m 9 #[.val (.ref a1), .val (.int (own_bc v0)), .unset, .unset, .unset, .unset, .unset] [(.ref a1)])) rfl rfl (hb hby d6_9)
    have VO4 := V_b
    obtain ⟨cl4, Ar4, q4, S4, M4, H4, G4⟩ := VO4
    have pre5 : ∀ tt, Steps p.tables e below (T3.setTop (mkF m 46 #[.val (.ref a1), .val (.int (own_bc v0)), .val (.ref b), .val (.int (0 : Int32)), .val (.int (0 : Int32)), .unset, .unset] [(.int (own_bc v0))])) tt → Steps p.tables e below (s₁.setTop (entryFrame m #[(.ref a1)] 7)) tt := by
      intro tt kt
      refine pre0 tt ?_
      show Steps p.tables e below (s₁.setTop (mkF m 0 #[.val (.ref a1), .unset, .unset, .unset, .unset, .unset, .unset] [])) _
      refine XS.aloadN X0.here hx rfl (hb hby d6_0) rfl rfl ?_
      show Steps p.tables e below (s₁.setTop (mkF m 1 #[.val (.ref a1), .unset, .unset, .unset, .unset, .unset, .unset] [(.ref a1)])) _
      refine st1 _ ?_
      show Steps p.tables e below (T1.setTop (mkF m 4 #[.val (.ref a1), .unset, .unset, .unset, .unset, .unset, .unset] [(.long v0)])) _
      refine st2 _ ?_
      show Steps p.tables e below (T2.setTop (mkF m 7 #[.val (.ref a1), .unset, .unset, .unset, .unset, .unset, .unset] [(.int (own_bc v0))])) _
      refine XS.istoreN X2.here hx rfl (hb hby d6_7) rfl (l' := #[.val (.ref a1), .val (.int (own_bc v0)), .unset, .unset, .unset, .unset, .unset]) rfl ?_
      show Steps p.tables e below (T2.setTop (mkF m 8 #[.val (.ref a1), .val (.int (own_bc v0)), .unset, .unset, .unset, .unset, .unset] [])) _
      refine XS.aloadN X2.here hx rfl (hb hby d6_8) rfl rfl ?_
      show Steps p.tables e below (T2.setTop (mkF m 9 #[.val (.ref a1), .val (.int (own_bc v0)), .unset, .unset, .unset, .unset, .unset] [(.ref a1)])) _
      refine st3 _ ?_
      show Steps p.tables e below (T3.setTop (mkF m 12 #[.val (.ref a1), .val (.int (own_bc v0)), .unset, .unset, .unset, .unset, .unset] [(.ref b)])) _
      refine XS.astoreN X3.here hx rfl (hb hby d6_12) rfl rfl (l' := #[.val (.ref a1), .val (.int (own_bc v0)), .val (.ref b), .unset, .unset, .unset, .unset]) rfl ?_
      show Steps p.tables e below (T3.setTop (mkF m 13 #[.val (.ref a1), .val (.int (own_bc v0)), .val (.ref b), .unset, .unset, .unset, .unset] [])) _
      refine XS.aloadN X3.here hx rfl (hb hby d6_13) rfl rfl ?_
      show Steps p.tables e below (T3.setTop (mkF m 14 #[.val (.ref a1), .val (.int (own_bc v0)), .val (.ref b), .unset, .unset, .unset, .unset] [(.ref b)])) _
      refine X3.arraylength hx (by rw [e3]; exact Ar4.1) (State.isArrayOf_alike hZ.alike Ar4.2.1) (g := (mkF m 14 #[.val (.ref a1), .val (.int (own_bc v0)), .val (.ref b), .unset, .unset, .unset, .unset] [(.ref b)])) rfl rfl (hb hby d6_14) _ ?_
      rw [len_of S4 M4]
      show Steps p.tables e below (T3.setTop (mkF m 15 #[.val (.ref a1), .val (.int (own_bc v0)), .val (.ref b), .unset, .unset, .unset, .unset] [(.int (0 : Int32))])) _
      refine XS.istoreN X3.here hx rfl (hb hby d6_15) rfl (l' := #[.val (.ref a1), .val (.int (own_bc v0)), .val (.ref b), .val (.int (0 : Int32)), .unset, .unset, .unset]) rfl ?_
      show Steps p.tables e below (T3.setTop (mkF m 16 #[.val (.ref a1), .val (.int (own_bc v0)), .val (.ref b), .val (.int (0 : Int32)), .unset, .unset, .unset] [])) _
      refine XS.iconst X3.here hx rfl (hb hby d6_16) ?_
      show Steps p.tables e below (T3.setTop (mkF m 17 #[.val (.ref a1), .val (.int (own_bc v0)), .val (.ref b), .val (.int (0 : Int32)), .unset, .unset, .unset] [(.int (0 : Int32))])) _
      refine XS.istore X3.here hx rfl (hb hby d6_17) rfl (l' := #[.val (.ref a1), .val (.int (own_bc v0)), .val (.ref b), .val (.int (0 : Int32)), .val (.int (0 : Int32)), .unset, .unset]) rfl ?_
      show Steps p.tables e below (T3.setTop (mkF m 19 #[.val (.ref a1), .val (.int (own_bc v0)), .val (.ref b), .val (.int (0 : Int32)), .val (.int (0 : Int32)), .unset, .unset] [])) _
      refine XS.iload X3.here hx rfl (hb hby d6_19) rfl ?_
      show Steps p.tables e below (T3.setTop (mkF m 21 #[.val (.ref a1), .val (.int (own_bc v0)), .val (.ref b), .val (.int (0 : Int32)), .val (.int (0 : Int32)), .unset, .unset] [(.int (0 : Int32))])) _
      refine XS.iloadN X3.here hx rfl (hb hby d6_21) rfl ?_
      show Steps p.tables e below (T3.setTop (mkF m 22 #[.val (.ref a1), .val (.int (own_bc v0)), .val (.ref b), .val (.int (0 : Int32)), .val (.int (0 : Int32)), .unset, .unset] [(.int (0 : Int32)), (.int (0 : Int32))])) _
      refine XS.icmpYes X3.here hx rfl (pc0 := 22) (pc' := 45) rfl (hb hby d6_22) rfl (flt (by decide : ¬ ((0 : Int32) < (0 : Int32)))).2.1 (by decide) (by decide) ?_
      show Steps p.tables e below (T3.setTop (mkF m 45 #[.val (.ref a1), .val (.int (own_bc v0)), .val (.ref b), .val (.int (0 : Int32)), .val (.int (0 : Int32)), .unset, .unset] [])) _
      refine XS.iloadN X3.here hx rfl (hb hby d6_45) rfl ?_
      exact kt
    obtain ⟨fs, hr, hrun, hended, hW, hsame⟩ := X3.leave (v := some (.int (own_bc v0))) (fun h => by rw [Bd.returns] at h; cases h)
    refine ⟨_, _, pre5 _ ?_, hrun, hended, _, _, rfl, ?_, ⟨_, rfl⟩, hW, hsame.mono (by decide) (by decide)⟩
    · show Steps p.tables e below (T3.setTop (mkF m 46 #[.val (.ref a1), .val (.int (own_bc v0)), .val (.ref b), .val (.int (0 : Int32)), .val (.int (0 : Int32)), .unset, .unset] [(.int (own_bc v0))])) _
      exact retI X3 hx Bd.returns (hb hby d6_46) hr
    · show QI Z r h0 n0 _ T3.heap _
      rw [e3]
      exact ⟨by rw [hr0, hbz.1 (by decide), hbz.2.1 (by decide), hbz.2.2 (by decide), own_bc0]; simp only [Int32.add_zero], N2, rfl⟩
  · have hz1 := hbz
    obtain ⟨T6, X6, e6, st6⟩ := getF X0 hx hZ hown (host := "") (Or.inl (hw _ (List.mem_of_getElem? (i := 19) rfl))) Via.refl e0 F_f (g := (mkF m 1 #[.val (.ref a1), .unset, .unset, .unset, .unset, .unset, .unset] [(.ref a1)])) rfl rfl (hb hby d6_1)
    obtain ⟨_, _, ⟨T7, L7, k7, n7⟩, -, X7, ⟨Lc7, hQ7, l7, y7, z7⟩, st7⟩ := Jvm.LawKit.callS X6 hx (y := (⟨"java/lang/Long", "bitCount", "(J)I"⟩ : MethodName)) hown (mvT hZ (hw _ (List.mem_of_getElem? (i := 36) rfl))) (mvT hZ (hw _ (List.mem_of_getElem? (i := 37) rfl))) (mvT hZ (hw _ (List.mem_of_getElem? (i := 38) rfl))) (mvT hZ (hw _ (List.mem_of_getElem? (i := 39) rfl))) (by decide) (backOf (W := 0) (rmB l Z a0 hw [] v0 (own_bc v0) h0 n0 Z0 rfl) hZ (hw _ (List.mem_of_getElem? (i := 39) rfl)) (hw _ (List.mem_of_getElem? (i := 38) rfl)) (by decide) (by decide)) (g := (mkF m 4 #[.val (.ref a1), .unset, .unset, .unset, .unset, .unset, .unset] [(.long v0)])) rfl (by rw [hml]; rfl) (argsL := [(.long v0)]) (rest := []) (lenOf pd_rmS_0 rfl) rfl (by show 2 * 0 + _ ≤ _; exact Nat.le_of_eq rfl) (hb hby d6_4) (fun _ _ => ⟨rfl, e6, (by decide : 0 + 0 ≤ _), (by decide : 0 + 0 ≤ _)⟩)
    dsimp only [Pt.U, Pt.locs, Pt.cells, Pt.slots] at X7 l7 y7 z7 st7 hQ7
    subst l7 y7 z7
    obtain ⟨rfl, N7q, hE7⟩ := hQ7
    have N7 := Fr.app N0 N7q
    obtain ⟨T8, X8, e8, st8⟩ := getF X7 hx hZ hown (host := "") (Or.inl (hw _ (List.mem_of_getElem? (i := 12) rfl))) Via.refl hE7 F_g (g := (mkF m 9 #[.val (.ref a1), .val (.int (own_bc v0)), .unset, .unset, .unset, .unset, .unset] [(.ref a1)])) rfl rfl (hb hby d6_9)
    have VO9 := V_b
    obtain ⟨cl9, Ar9, q9, S9, M9, H9, G9⟩ := VO9
    have VO10 := V_b
    obtain ⟨cl10, Ar10, q10, S10, M10, H10, G10⟩ := VO10
    have hin10 : ¬ ((0 : Int32) < 0 ∨ cl10.slots.size ≤ ((0 : Int32)).toNatClampNeg) := inb_of S10 ⟨by decide, by decide⟩
    have hat10 : cl10.slots[((0 : Int32)).toNatClampNeg]? = some (.long v1) := H10.at hin10 rfl
    obtain ⟨_, _, ⟨T11, L11, k11, n11⟩, -, X11, ⟨Lc11, hQ11, l11, y11, z11⟩, st11⟩ := Jvm.LawKit.callS X8 hx (y := (⟨"java/lang/Long", "bitCount", "(J)I"⟩ : MethodName)) hown (mvT hZ (hw _ (List.mem_of_getElem? (i := 36) rfl))) (mvT hZ (hw _ (List.mem_of_getElem? (i := 37) rfl))) (mvT hZ (hw _ (List.mem_of_getElem? (i := 38) rfl))) (mvT hZ (hw _ (List.mem_of_getElem? (i := 39) rfl))) (by decide) (backOf (W := 1) (rmB l Z a0 hw [] v1 (own_bc v1) h0 n0 Z0 rfl) hZ (hw _ (List.mem_of_getElem? (i := 39) rfl)) (hw _ (List.mem_of_getElem? (i := 38) rfl)) (by decide) (by decide)) (g := (mkF m 34 #[.val (.ref a1), .val (.int (own_bc v0)), .val (.ref b), .val (.int (1 : Int32)), .val (.int (0 : Int32)), .val (.long v1), .second] [(.long v1), (.int (own_bc v0))])) rfl (by rw [hml]; rfl) (argsL := [(.long v1)]) (rest := [(.int (own_bc v0))]) (lenOf pd_rmS_0 rfl) rfl (by show 2 * 0 + _ ≤ _; exact Nat.le_of_eq rfl) (hb hby d6_34) (fun _ _ => ⟨rfl, e8, (by decide : 0 + 0 ≤ _), (by decide : 0 + 0 ≤ _)⟩)
    dsimp only [Pt.U, Pt.locs, Pt.cells, Pt.slots] at X11 l11 y11 z11 st11 hQ11
    subst l11 y11 z11
    obtain ⟨rfl, N11q, hE11⟩ := hQ11
    have N11 := Fr.app N7 N11q
    have pre12 : ∀ tt, Steps p.tables e below (T11.setTop (mkF m 46 #[.val (.ref a1), .val (.int ((own_bc v0) + (own_bc v1))), .val (.ref b), .val (.int (1 : Int32)), .val (.int (1 : Int32)), .val (.long v1), .second] [(.int ((own_bc v0) + (own_bc v1)))])) tt → Steps p.tables e below (s₁.setTop (entryFrame m #[(.ref a1)] 7)) tt := by
      intro tt kt
      refine pre0 tt ?_
      show Steps p.tables e below (s₁.setTop (mkF m 0 #[.val (.ref a1), .unset, .unset, .unset, .unset, .unset, .unset] [])) _
      refine XS.aloadN X0.here hx rfl (hb hby d6_0) rfl rfl ?_
      show Steps p.tables e below (s₁.setTop (mkF m 1 #[.val (.ref a1), .unset, .unset, .unset, .unset, .unset, .unset] [(.ref a1)])) _
      refine st6 _ ?_
      show Steps p.tables e below (T6.setTop (mkF m 4 #[.val (.ref a1), .unset, .unset, .unset, .unset, .unset, .unset] [(.long v0)])) _
      refine st7 _ ?_
      show Steps p.tables e below (T7.setTop (mkF m 7 #[.val (.ref a1), .unset, .unset, .unset, .unset, .unset, .unset] [(.int (own_bc v0))])) _
      refine XS.istoreN X7.here hx rfl (hb hby d6_7) rfl (l' := #[.val (.ref a1), .val (.int (own_bc v0)), .unset, .unset, .unset, .unset, .unset]) rfl ?_
      show Steps p.tables e below (T7.setTop (mkF m 8 #[.val (.ref a1), .val (.int (own_bc v0)), .unset, .unset, .unset, .unset, .unset] [])) _
      refine XS.aloadN X7.here hx rfl (hb hby d6_8) rfl rfl ?_
      show Steps p.tables e below (T7.setTop (mkF m 9 #[.val (.ref a1), .val (.int (own_bc v0)), .unset, .unset, .unset, .unset, .unset] [(.ref a1)])) _
      refine st8 _ ?_
      show Steps p.tables e below (T8.setTop (mkF m 12 #[.val (.ref a1), .val (.int (own_bc v0)), .unset, .unset, .unset, .unset, .unset] [(.ref b)])) _
      refine XS.astoreN X8.here hx rfl (hb hby d6_12) rfl rfl (l' := #[.val (.ref a1), .val (.int (own_bc v0)), .val (.ref b), .unset, .unset, .unset, .unset]) rfl ?_
      show Steps p.tables e below (T8.setTop (mkF m 13 #[.val (.ref a1), .val (.int (own_bc v0)), .val (.ref b), .unset, .unset, .unset, .unset] [])) _
      refine XS.aloadN X8.here hx rfl (hb hby d6_13) rfl rfl ?_
      show Steps p.tables e below (T8.setTop (mkF m 14 #[.val (.ref a1), .val (.int (own_bc v0)), .val (.ref b), .unset, .unset, .unset, .unset] [(.ref b)])) _
      refine X8.arraylength hx (by rw [e8]; exact Ar9.1) (State.isArrayOf_alike hZ.alike Ar9.2.1) (g := (mkF m 14 #[.val (.ref a1), .val (.int (own_bc v0)), .val (.ref b), .unset, .unset, .unset, .unset] [(.ref b)])) rfl rfl (hb hby d6_14) _ ?_
      rw [len_of S9 M9]
      show Steps p.tables e below (T8.setTop (mkF m 15 #[.val (.ref a1), .val (.int (own_bc v0)), .val (.ref b), .unset, .unset, .unset, .unset] [(.int (1 : Int32))])) _
      refine XS.istoreN X8.here hx rfl (hb hby d6_15) rfl (l' := #[.val (.ref a1), .val (.int (own_bc v0)), .val (.ref b), .val (.int (1 : Int32)), .unset, .unset, .unset]) rfl ?_
      show Steps p.tables e below (T8.setTop (mkF m 16 #[.val (.ref a1), .val (.int (own_bc v0)), .val (.ref b), .val (.int (1 : Int32)), .unset, .unset, .unset] [])) _
      refine XS.iconst X8.here hx rfl (hb hby d6_16) ?_
      show Steps p.tables e below (T8.setTop (mkF m 17 #[.val (.ref a1), .val (.int (own_bc v0)), .val (.ref b), .val (.int (1 : Int32)), .unset, .unset, .unset] [(.int (0 : Int32))])) _
      refine XS.istore X8.here hx rfl (hb hby d6_17) rfl (l' := #[.val (.ref a1), .val (.int (own_bc v0)), .val (.ref b), .val (.int (1 : Int32)), .val (.int (0 : Int32)), .unset, .unset]) rfl ?_
      show Steps p.tables e below (T8.setTop (mkF m 19 #[.val (.ref a1), .val (.int (own_bc v0)), .val (.ref b), .val (.int (1 : Int32)), .val (.int (0 : Int32)), .unset, .unset] [])) _
      refine XS.iload X8.here hx rfl (hb hby d6_19) rfl ?_
      show Steps p.tables e below (T8.setTop (mkF m 21 #[.val (.ref a1), .val (.int (own_bc v0)), .val (.ref b), .val (.int (1 : Int32)), .val (.int (0 : Int32)), .unset, .unset] [(.int (0 : Int32))])) _
      refine XS.iloadN X8.here hx rfl (hb hby d6_21) rfl ?_
      show Steps p.tables e below (T8.setTop (mkF m 22 #[.val (.ref a1), .val (.int (own_bc v0)), .val (.ref b), .val (.int (1 : Int32)), .val (.int (0 : Int32)), .unset, .unset] [(.int (1 : Int32)), (.int (0 : Int32))])) _
      refine XS.icmpNo X8.here hx rfl (hb hby d6_22) rfl (tlt (by decide : (0 : Int32) < (1 : Int32))).2.1 ?_
      show Steps p.tables e below (T8.setTop (mkF m 25 #[.val (.ref a1), .val (.int (own_bc v0)), .val (.ref b), .val (.int (1 : Int32)), .val (.int (0 : Int32)), .unset, .unset] [])) _
      refine XS.aloadN X8.here hx rfl (hb hby d6_25) rfl rfl ?_
      show Steps p.tables e below (T8.setTop (mkF m 26 #[.val (.ref a1), .val (.int (own_bc v0)), .val (.ref b), .val (.int (1 : Int32)), .val (.int (0 : Int32)), .unset, .unset] [(.ref b)])) _
      refine XS.iload X8.here hx rfl (hb hby d6_26) rfl ?_
      show Steps p.tables e below (T8.setTop (mkF m 28 #[.val (.ref a1), .val (.int (own_bc v0)), .val (.ref b), .val (.int (1 : Int32)), .val (.int (0 : Int32)), .unset, .unset] [(.int (0 : Int32)), (.ref b)])) _
      refine X8.laload hx (j := (0 : Int32)) (v := (.long v1)) (by rw [e8]; exact Ar10.1) (State.isArrayOf_alike hZ.alike Ar10.2.1) Ar10.2.2 hin10 hat10 (g := (mkF m 28 #[.val (.ref a1), .val (.int (own_bc v0)), .val (.ref b), .val (.int (1 : Int32)), .val (.int (0 : Int32)), .unset, .unset] [(.int (0 : Int32)), (.ref b)])) rfl rfl (hb hby d6_28) _ ?_
      show Steps p.tables e below (T8.setTop (mkF m 29 #[.val (.ref a1), .val (.int (own_bc v0)), .val (.ref b), .val (.int (1 : Int32)), .val (.int (0 : Int32)), .unset, .unset] [(.long v1)])) _
      refine XS.lstore X8.here hx rfl (hb hby d6_29) rfl (l' := #[.val (.ref a1), .val (.int (own_bc v0)), .val (.ref b), .val (.int (1 : Int32)), .val (.int (0 : Int32)), .val (.long v1), .second]) rfl ?_
      show Steps p.tables e below (T8.setTop (mkF m 31 #[.val (.ref a1), .val (.int (own_bc v0)), .val (.ref b), .val (.int (1 : Int32)), .val (.int (0 : Int32)), .val (.long v1), .second] [])) _
      refine XS.iloadN X8.here hx rfl (hb hby d6_31) rfl ?_
      show Steps p.tables e below (T8.setTop (mkF m 32 #[.val (.ref a1), .val (.int (own_bc v0)), .val (.ref b), .val (.int (1 : Int32)), .val (.int (0 : Int32)), .val (.long v1), .second] [(.int (own_bc v0))])) _
      refine XS.lload X8.here hx rfl (hb hby d6_32) rfl ?_
      show Steps p.tables e below (T8.setTop (mkF m 34 #[.val (.ref a1), .val (.int (own_bc v0)), .val (.ref b), .val (.int (1 : Int32)), .val (.int (0 : Int32)), .val (.long v1), .second] [(.long v1), (.int (own_bc v0))])) _
      refine st11 _ ?_
      show Steps p.tables e below (T11.setTop (mkF m 37 #[.val (.ref a1), .val (.int (own_bc v0)), .val (.ref b), .val (.int (1 : Int32)), .val (.int (0 : Int32)), .val (.long v1), .second] [(.int (own_bc v1)), (.int (own_bc v0))])) _
      refine XS.iadd X11.here hx rfl (hb hby d6_37) rfl ?_
      show Steps p.tables e below (T11.setTop (mkF m 38 #[.val (.ref a1), .val (.int (own_bc v0)), .val (.ref b), .val (.int (1 : Int32)), .val (.int (0 : Int32)), .val (.long v1), .second] [(.int ((own_bc v0) + (own_bc v1)))])) _
      refine XS.istoreN X11.here hx rfl (hb hby d6_38) rfl (l' := #[.val (.ref a1), .val (.int ((own_bc v0) + (own_bc v1))), .val (.ref b), .val (.int (1 : Int32)), .val (.int (0 : Int32)), .val (.long v1), .second]) rfl ?_
      show Steps p.tables e below (T11.setTop (mkF m 39 #[.val (.ref a1), .val (.int ((own_bc v0) + (own_bc v1))), .val (.ref b), .val (.int (1 : Int32)), .val (.int (0 : Int32)), .val (.long v1), .second] [])) _
      refine XS.iinc X11.here hx rfl (hb hby d6_39) rfl (l' := #[.val (.ref a1), .val (.int ((own_bc v0) + (own_bc v1))), .val (.ref b), .val (.int (1 : Int32)), .val (.int (1 : Int32)), .val (.long v1), .second]) rfl ?_
      show Steps p.tables e below (T11.setTop (mkF m 42 #[.val (.ref a1), .val (.int ((own_bc v0) + (own_bc v1))), .val (.ref b), .val (.int (1 : Int32)), .val (.int (1 : Int32)), .val (.long v1), .second] [])) _
      refine XS.goto X11.here hx rfl (pc0 := 42) (pc' := 19) rfl (hb hby d6_42) (by decide) (by decide) ?_
      show Steps p.tables e below (T11.setTop (mkF m 19 #[.val (.ref a1), .val (.int ((own_bc v0) + (own_bc v1))), .val (.ref b), .val (.int (1 : Int32)), .val (.int (1 : Int32)), .val (.long v1), .second] [])) _
      refine XS.iload X11.here hx rfl (hb hby d6_19) rfl ?_
      show Steps p.tables e below (T11.setTop (mkF m 21 #[.val (.ref a1), .val (.int ((own_bc v0) + (own_bc v1))), .val (.ref b), .val (.int (1 : Int32)), .val (.int (1 : Int32)), .val (.long v1), .second] [(.int (1 : Int32))])) _
      refine XS.iloadN X11.here hx rfl (hb hby d6_21) rfl ?_
      show Steps p.tables e below (T11.setTop (mkF m 22 #[.val (.ref a1), .val (.int ((own_bc v0) + (own_bc v1))), .val (.ref b), .val (.int (1 : Int32)), .val (.int (1 : Int32)), .val (.long v1), .second] [(.int (1 : Int32)), (.int (1 : Int32))])) _
      refine XS.icmpYes X11.here hx rfl (pc0 := 22) (pc' := 45) rfl (hb hby d6_22) rfl (flt (by decide : ¬ ((1 : Int32) < (1 : Int32)))).2.1 (by decide) (by decide) ?_
      show Steps p.tables e below (T11.setTop (mkF m 45 #[.val (.ref a1), .val (.int ((own_bc v0) + (own_bc v1))), .val (.ref b), .val (.int (1 : Int32)), .val (.int (1 : Int32)), .val (.long v1), .second] [])) _
      refine XS.iloadN X11.here hx rfl (hb hby d6_45) rfl ?_
      exact kt
    obtain ⟨fs, hr, hrun, hended, hW, hsame⟩ := X11.leave (v := some (.int ((own_bc v0) + (own_bc v1)))) (fun h => by rw [Bd.returns] at h; cases h)
    refine ⟨_, _, pre12 _ ?_, hrun, hended, _, _, rfl, ?_, ⟨_, rfl⟩, hW, hsame.mono (by decide) (by decide)⟩
    · show Steps p.tables e below (T11.setTop (mkF m 46 #[.val (.ref a1), .val (.int ((own_bc v0) + (own_bc v1))), .val (.ref b), .val (.int (1 : Int32)), .val (.int (1 : Int32)), .val (.long v1), .second] [(.int ((own_bc v0) + (own_bc v1)))])) _
      exact retI X11 hx Bd.returns (hb hby d6_46) hr
    · show QI Z r h0 n0 _ T11.heap _
      rw [hE11]
      exact ⟨by rw [hr0, hbz.2.1 (by decide), hbz.2.2 (by decide), own_bc0]; simp only [Int32.add_zero], N11, rfl⟩
  · have hz2 := hbz
    obtain ⟨T13, X13, e13, st13⟩ := getF X0 hx hZ hown (host := "") (Or.inl (hw _ (List.mem_of_getElem? (i := 19) rfl))) Via.refl e0 F_f (g := (mkF m 1 #[.val (.ref a1), .unset, .unset, .unset, .unset, .unset, .unset] [(.ref a1)])) rfl rfl (hb hby d6_1)
    obtain ⟨_, _, ⟨T14, L14, k14, n14⟩, -, X14, ⟨Lc14, hQ14, l14, y14, z14⟩, st14⟩ := Jvm.LawKit.callS X13 hx (y := (⟨"java/lang/Long", "bitCount", "(J)I"⟩ : MethodName)) hown (mvT hZ (hw _ (List.mem_of_getElem? (i := 36) rfl))) (mvT hZ (hw _ (List.mem_of_getElem? (i := 37) rfl))) (mvT hZ (hw _ (List.mem_of_getElem? (i := 38) rfl))) (mvT hZ (hw _ (List.mem_of_getElem? (i := 39) rfl))) (by decide) (backOf (W := 0) (rmB l Z a0 hw [] v0 (own_bc v0) h0 n0 Z0 rfl) hZ (hw _ (List.mem_of_getElem? (i := 39) rfl)) (hw _ (List.mem_of_getElem? (i := 38) rfl)) (by decide) (by decide)) (g := (mkF m 4 #[.val (.ref a1), .unset, .unset, .unset, .unset, .unset, .unset] [(.long v0)])) rfl (by rw [hml]; rfl) (argsL := [(.long v0)]) (rest := []) (lenOf pd_rmS_0 rfl) rfl (by show 2 * 0 + _ ≤ _; exact Nat.le_of_eq rfl) (hb hby d6_4) (fun _ _ => ⟨rfl, e13, (by decide : 0 + 0 ≤ _), (by decide : 0 + 0 ≤ _)⟩)
    dsimp only [Pt.U, Pt.locs, Pt.cells, Pt.slots] at X14 l14 y14 z14 st14 hQ14
    subst l14 y14 z14
    obtain ⟨rfl, N14q, hE14⟩ := hQ14
    have N14 := Fr.app N0 N14q
    obtain ⟨T15, X15, e15, st15⟩ := getF X14 hx hZ hown (host := "") (Or.inl (hw _ (List.mem_of_getElem? (i := 12) rfl))) Via.refl hE14 F_g (g := (mkF m 9 #[.val (.ref a1), .val (.int (own_bc v0)), .unset, .unset, .unset, .unset, .unset] [(.ref a1)])) rfl rfl (hb hby d6_9)
    have VO16 := V_b
    obtain ⟨cl16, Ar16, q16, S16, M16, H16, G16⟩ := VO16
    have VO17 := V_b
    obtain ⟨cl17, Ar17, q17, S17, M17, H17, G17⟩ := VO17
    have hin17 : ¬ ((0 : Int32) < 0 ∨ cl17.slots.size ≤ ((0 : Int32)).toNatClampNeg) := inb_of S17 ⟨by decide, by decide⟩
    have hat17 : cl17.slots[((0 : Int32)).toNatClampNeg]? = some (.long v1) := H17.at hin17 rfl
    obtain ⟨_, _, ⟨T18, L18, k18, n18⟩, -, X18, ⟨Lc18, hQ18, l18, y18, z18⟩, st18⟩ := Jvm.LawKit.callS X15 hx (y := (⟨"java/lang/Long", "bitCount", "(J)I"⟩ : MethodName)) hown (mvT hZ (hw _ (List.mem_of_getElem? (i := 36) rfl))) (mvT hZ (hw _ (List.mem_of_getElem? (i := 37) rfl))) (mvT hZ (hw _ (List.mem_of_getElem? (i := 38) rfl))) (mvT hZ (hw _ (List.mem_of_getElem? (i := 39) rfl))) (by decide) (backOf (W := 1) (rmB l Z a0 hw [] v1 (own_bc v1) h0 n0 Z0 rfl) hZ (hw _ (List.mem_of_getElem? (i := 39) rfl)) (hw _ (List.mem_of_getElem? (i := 38) rfl)) (by decide) (by decide)) (g := (mkF m 34 #[.val (.ref a1), .val (.int (own_bc v0)), .val (.ref b), .val (.int (2 : Int32)), .val (.int (0 : Int32)), .val (.long v1), .second] [(.long v1), (.int (own_bc v0))])) rfl (by rw [hml]; rfl) (argsL := [(.long v1)]) (rest := [(.int (own_bc v0))]) (lenOf pd_rmS_0 rfl) rfl (by show 2 * 0 + _ ≤ _; exact Nat.le_of_eq rfl) (hb hby d6_34) (fun _ _ => ⟨rfl, e15, (by decide : 0 + 0 ≤ _), (by decide : 0 + 0 ≤ _)⟩)
    dsimp only [Pt.U, Pt.locs, Pt.cells, Pt.slots] at X18 l18 y18 z18 st18 hQ18
    subst l18 y18 z18
    obtain ⟨rfl, N18q, hE18⟩ := hQ18
    have N18 := Fr.app N14 N18q
    have VO19 := V_b
    obtain ⟨cl19, Ar19, q19, S19, M19, H19, G19⟩ := VO19
    have hin19 : ¬ ((1 : Int32) < 0 ∨ cl19.slots.size ≤ ((1 : Int32)).toNatClampNeg) := inb_of S19 ⟨by decide, by decide⟩
    have hat19 : cl19.slots[((1 : Int32)).toNatClampNeg]? = some (.long v2) := H19.at hin19 rfl
    obtain ⟨_, _, ⟨T20, L20, k20, n20⟩, -, X20, ⟨Lc20, hQ20, l20, y20, z20⟩, st20⟩ := Jvm.LawKit.callS X18 hx (y := (⟨"java/lang/Long", "bitCount", "(J)I"⟩ : MethodName)) hown (mvT hZ (hw _ (List.mem_of_getElem? (i := 36) rfl))) (mvT hZ (hw _ (List.mem_of_getElem? (i := 37) rfl))) (mvT hZ (hw _ (List.mem_of_getElem? (i := 38) rfl))) (mvT hZ (hw _ (List.mem_of_getElem? (i := 39) rfl))) (by decide) (backOf (W := 1) (rmB l Z a0 hw [] v2 (own_bc v2) h0 n0 Z0 rfl) hZ (hw _ (List.mem_of_getElem? (i := 39) rfl)) (hw _ (List.mem_of_getElem? (i := 38) rfl)) (by decide) (by decide)) (g := (mkF m 34 #[.val (.ref a1), .val (.int ((own_bc v0) + (own_bc v1))), .val (.ref b), .val (.int (2 : Int32)), .val (.int (1 : Int32)), .val (.long v2), .second] [(.long v2), (.int ((own_bc v0) + (own_bc v1)))])) rfl (by rw [hml]; rfl) (argsL := [(.long v2)]) (rest := [(.int ((own_bc v0) + (own_bc v1)))]) (lenOf pd_rmS_0 rfl) rfl (by show 2 * 0 + _ ≤ _; exact Nat.le_of_eq rfl) (hb hby d6_34) (fun _ _ => ⟨rfl, hE18, (by decide : 0 + 0 ≤ _), (by decide : 0 + 0 ≤ _)⟩)
    dsimp only [Pt.U, Pt.locs, Pt.cells, Pt.slots] at X20 l20 y20 z20 st20 hQ20
    subst l20 y20 z20
    obtain ⟨rfl, N20q, hE20⟩ := hQ20
    have N20 := Fr.app N18 N20q
    have pre21 : ∀ tt, Steps p.tables e below (T20.setTop (mkF m 46 #[.val (.ref a1), .val (.int (((own_bc v0) + (own_bc v1)) + (own_bc v2))), .val (.ref b), .val (.int (2 : Int32)), .val (.int (2 : Int32)), .val (.long v2), .second] [(.int (((own_bc v0) + (own_bc v1)) + (own_bc v2)))])) tt → Steps p.tables e below (s₁.setTop (entryFrame m #[(.ref a1)] 7)) tt := by
      intro tt kt
      refine pre0 tt ?_
      show Steps p.tables e below (s₁.setTop (mkF m 0 #[.val (.ref a1), .unset, .unset, .unset, .unset, .unset, .unset] [])) _
      refine XS.aloadN X0.here hx rfl (hb hby d6_0) rfl rfl ?_
      show Steps p.tables e below (s₁.setTop (mkF m 1 #[.val (.ref a1), .unset, .unset, .unset, .unset, .unset, .unset] [(.ref a1)])) _
      refine st13 _ ?_
      show Steps p.tables e below (T13.setTop (mkF m 4 #[.val (.ref a1), .unset, .unset, .unset, .unset, .unset, .unset] [(.long v0)])) _
      refine st14 _ ?_
      show Steps p.tables e below (T14.setTop (mkF m 7 #[.val (.ref a1), .unset, .unset, .unset, .unset, .unset, .unset] [(.int (own_bc v0))])) _
      refine XS.istoreN X14.here hx rfl (hb hby d6_7) rfl (l' := #[.val (.ref a1), .val (.int (own_bc v0)), .unset, .unset, .unset, .unset, .unset]) rfl ?_
      show Steps p.tables e below (T14.setTop (mkF m 8 #[.val (.ref a1), .val (.int (own_bc v0)), .unset, .unset, .unset, .unset, .unset] [])) _
      refine XS.aloadN X14.here hx rfl (hb hby d6_8) rfl rfl ?_
      show Steps p.tables e below (T14.setTop (mkF m 9 #[.val (.ref a1), .val (.int (own_bc v0)), .unset, .unset, .unset, .unset, .unset] [(.ref a1)])) _
      refine st15 _ ?_
      show Steps p.tables e below (T15.setTop (mkF m 12 #[.val (.ref a1), .val (.int (own_bc v0)), .unset, .unset, .unset, .unset, .unset] [(.ref b)])) _
      refine XS.astoreN X15.here hx rfl (hb hby d6_12) rfl rfl (l' := #[.val (.ref a1), .val (.int (own_bc v0)), .val (.ref b), .unset, .unset, .unset, .unset]) rfl ?_
      show Steps p.tables e below (T15.setTop (mkF m 13 #[.val (.ref a1), .val (.int (own_bc v0)), .val (.ref b), .unset, .unset, .unset, .unset] [])) _
      refine XS.aloadN X15.here hx rfl (hb hby d6_13) rfl rfl ?_
      show Steps p.tables e below (T15.setTop (mkF m 14 #[.val (.ref a1), .val (.int (own_bc v0)), .val (.ref b), .unset, .unset, .unset, .unset] [(.ref b)])) _
      refine X15.arraylength hx (by rw [e15]; exact Ar16.1) (State.isArrayOf_alike hZ.alike Ar16.2.1) (g := (mkF m 14 #[.val (.ref a1), .val (.int (own_bc v0)), .val (.ref b), .unset, .unset, .unset, .unset] [(.ref b)])) rfl rfl (hb hby d6_14) _ ?_
      rw [len_of S16 M16]
      show Steps p.tables e below (T15.setTop (mkF m 15 #[.val (.ref a1), .val (.int (own_bc v0)), .val (.ref b), .unset, .unset, .unset, .unset] [(.int (2 : Int32))])) _
      refine XS.istoreN X15.here hx rfl (hb hby d6_15) rfl (l' := #[.val (.ref a1), .val (.int (own_bc v0)), .val (.ref b), .val (.int (2 : Int32)), .unset, .unset, .unset]) rfl ?_
      show Steps p.tables e below (T15.setTop (mkF m 16 #[.val (.ref a1), .val (.int (own_bc v0)), .val (.ref b), .val (.int (2 : Int32)), .unset, .unset, .unset] [])) _
      refine XS.iconst X15.here hx rfl (hb hby d6_16) ?_
      show Steps p.tables e below (T15.setTop (mkF m 17 #[.val (.ref a1), .val (.int (own_bc v0)), .val (.ref b), .val (.int (2 : Int32)), .unset, .unset, .unset] [(.int (0 : Int32))])) _
      refine XS.istore X15.here hx rfl (hb hby d6_17) rfl (l' := #[.val (.ref a1), .val (.int (own_bc v0)), .val (.ref b), .val (.int (2 : Int32)), .val (.int (0 : Int32)), .unset, .unset]) rfl ?_
      show Steps p.tables e below (T15.setTop (mkF m 19 #[.val (.ref a1), .val (.int (own_bc v0)), .val (.ref b), .val (.int (2 : Int32)), .val (.int (0 : Int32)), .unset, .unset] [])) _
      refine XS.iload X15.here hx rfl (hb hby d6_19) rfl ?_
      show Steps p.tables e below (T15.setTop (mkF m 21 #[.val (.ref a1), .val (.int (own_bc v0)), .val (.ref b), .val (.int (2 : Int32)), .val (.int (0 : Int32)), .unset, .unset] [(.int (0 : Int32))])) _
      refine XS.iloadN X15.here hx rfl (hb hby d6_21) rfl ?_
      show Steps p.tables e below (T15.setTop (mkF m 22 #[.val (.ref a1), .val (.int (own_bc v0)), .val (.ref b), .val (.int (2 : Int32)), .val (.int (0 : Int32)), .unset, .unset] [(.int (2 : Int32)), (.int (0 : Int32))])) _
      refine XS.icmpNo X15.here hx rfl (hb hby d6_22) rfl (tlt (by decide : (0 : Int32) < (2 : Int32))).2.1 ?_
      show Steps p.tables e below (T15.setTop (mkF m 25 #[.val (.ref a1), .val (.int (own_bc v0)), .val (.ref b), .val (.int (2 : Int32)), .val (.int (0 : Int32)), .unset, .unset] [])) _
      refine XS.aloadN X15.here hx rfl (hb hby d6_25) rfl rfl ?_
      show Steps p.tables e below (T15.setTop (mkF m 26 #[.val (.ref a1), .val (.int (own_bc v0)), .val (.ref b), .val (.int (2 : Int32)), .val (.int (0 : Int32)), .unset, .unset] [(.ref b)])) _
      refine XS.iload X15.here hx rfl (hb hby d6_26) rfl ?_
      show Steps p.tables e below (T15.setTop (mkF m 28 #[.val (.ref a1), .val (.int (own_bc v0)), .val (.ref b), .val (.int (2 : Int32)), .val (.int (0 : Int32)), .unset, .unset] [(.int (0 : Int32)), (.ref b)])) _
      refine X15.laload hx (j := (0 : Int32)) (v := (.long v1)) (by rw [e15]; exact Ar17.1) (State.isArrayOf_alike hZ.alike Ar17.2.1) Ar17.2.2 hin17 hat17 (g := (mkF m 28 #[.val (.ref a1), .val (.int (own_bc v0)), .val (.ref b), .val (.int (2 : Int32)), .val (.int (0 : Int32)), .unset, .unset] [(.int (0 : Int32)), (.ref b)])) rfl rfl (hb hby d6_28) _ ?_
      show Steps p.tables e below (T15.setTop (mkF m 29 #[.val (.ref a1), .val (.int (own_bc v0)), .val (.ref b), .val (.int (2 : Int32)), .val (.int (0 : Int32)), .unset, .unset] [(.long v1)])) _
      refine XS.lstore X15.here hx rfl (hb hby d6_29) rfl (l' := #[.val (.ref a1), .val (.int (own_bc v0)), .val (.ref b), .val (.int (2 : Int32)), .val (.int (0 : Int32)), .val (.long v1), .second]) rfl ?_
      show Steps p.tables e below (T15.setTop (mkF m 31 #[.val (.ref a1), .val (.int (own_bc v0)), .val (.ref b), .val (.int (2 : Int32)), .val (.int (0 : Int32)), .val (.long v1), .second] [])) _
      refine XS.iloadN X15.here hx rfl (hb hby d6_31) rfl ?_
      show Steps p.tables e below (T15.setTop (mkF m 32 #[.val (.ref a1), .val (.int (own_bc v0)), .val (.ref b), .val (.int (2 : Int32)), .val (.int (0 : Int32)), .val (.long v1), .second] [(.int (own_bc v0))])) _
      refine XS.lload X15.here hx rfl (hb hby d6_32) rfl ?_
      show Steps p.tables e below (T15.setTop (mkF m 34 #[.val (.ref a1), .val (.int (own_bc v0)), .val (.ref b), .val (.int (2 : Int32)), .val (.int (0 : Int32)), .val (.long v1), .second] [(.long v1), (.int (own_bc v0))])) _
      refine st18 _ ?_
      show Steps p.tables e below (T18.setTop (mkF m 37 #[.val (.ref a1), .val (.int (own_bc v0)), .val (.ref b), .val (.int (2 : Int32)), .val (.int (0 : Int32)), .val (.long v1), .second] [(.int (own_bc v1)), (.int (own_bc v0))])) _
      refine XS.iadd X18.here hx rfl (hb hby d6_37) rfl ?_
      show Steps p.tables e below (T18.setTop (mkF m 38 #[.val (.ref a1), .val (.int (own_bc v0)), .val (.ref b), .val (.int (2 : Int32)), .val (.int (0 : Int32)), .val (.long v1), .second] [(.int ((own_bc v0) + (own_bc v1)))])) _
      refine XS.istoreN X18.here hx rfl (hb hby d6_38) rfl (l' := #[.val (.ref a1), .val (.int ((own_bc v0) + (own_bc v1))), .val (.ref b), .val (.int (2 : Int32)), .val (.int (0 : Int32)), .val (.long v1), .second]) rfl ?_
      show Steps p.tables e below (T18.setTop (mkF m 39 #[.val (.ref a1), .val (.int ((own_bc v0) + (own_bc v1))), .val (.ref b), .val (.int (2 : Int32)), .val (.int (0 : Int32)), .val (.long v1), .second] [])) _
      refine XS.iinc X18.here hx rfl (hb hby d6_39) rfl (l' := #[.val (.ref a1), .val (.int ((own_bc v0) + (own_bc v1))), .val (.ref b), .val (.int (2 : Int32)), .val (.int (1 : Int32)), .val (.long v1), .second]) rfl ?_
      show Steps p.tables e below (T18.setTop (mkF m 42 #[.val (.ref a1), .val (.int ((own_bc v0) + (own_bc v1))), .val (.ref b), .val (.int (2 : Int32)), .val (.int (1 : Int32)), .val (.long v1), .second] [])) _
      refine XS.goto X18.here hx rfl (pc0 := 42) (pc' := 19) rfl (hb hby d6_42) (by decide) (by decide) ?_
      show Steps p.tables e below (T18.setTop (mkF m 19 #[.val (.ref a1), .val (.int ((own_bc v0) + (own_bc v1))), .val (.ref b), .val (.int (2 : Int32)), .val (.int (1 : Int32)), .val (.long v1), .second] [])) _
      refine XS.iload X18.here hx rfl (hb hby d6_19) rfl ?_
      show Steps p.tables e below (T18.setTop (mkF m 21 #[.val (.ref a1), .val (.int ((own_bc v0) + (own_bc v1))), .val (.ref b), .val (.int (2 : Int32)), .val (.int (1 : Int32)), .val (.long v1), .second] [(.int (1 : Int32))])) _
      refine XS.iloadN X18.here hx rfl (hb hby d6_21) rfl ?_
      show Steps p.tables e below (T18.setTop (mkF m 22 #[.val (.ref a1), .val (.int ((own_bc v0) + (own_bc v1))), .val (.ref b), .val (.int (2 : Int32)), .val (.int (1 : Int32)), .val (.long v1), .second] [(.int (2 : Int32)), (.int (1 : Int32))])) _
      refine XS.icmpNo X18.here hx rfl (hb hby d6_22) rfl (tlt (by decide : (1 : Int32) < (2 : Int32))).2.1 ?_
      show Steps p.tables e below (T18.setTop (mkF m 25 #[.val (.ref a1), .val (.int ((own_bc v0) + (own_bc v1))), .val (.ref b), .val (.int (2 : Int32)), .val (.int (1 : Int32)), .val (.long v1), .second] [])) _
      refine XS.aloadN X18.here hx rfl (hb hby d6_25) rfl rfl ?_
      show Steps p.tables e below (T18.setTop (mkF m 26 #[.val (.ref a1), .val (.int ((own_bc v0) + (own_bc v1))), .val (.ref b), .val (.int (2 : Int32)), .val (.int (1 : Int32)), .val (.long v1), .second] [(.ref b)])) _
      refine XS.iload X18.here hx rfl (hb hby d6_26) rfl ?_
      show Steps p.tables e below (T18.setTop (mkF m 28 #[.val (.ref a1), .val (.int ((own_bc v0) + (own_bc v1))), .val (.ref b), .val (.int (2 : Int32)), .val (.int (1 : Int32)), .val (.long v1), .second] [(.int (1 : Int32)), (.ref b)])) _
      refine X18.laload hx (j := (1 : Int32)) (v := (.long v2)) (by rw [hE18]; exact Ar19.1) (State.isArrayOf_alike hZ.alike Ar19.2.1) Ar19.2.2 hin19 hat19 (g := (mkF m 28 #[.val (.ref a1), .val (.int ((own_bc v0) + (own_bc v1))), .val (.ref b), .val (.int (2 : Int32)), .val (.int (1 : Int32)), .val (.long v1), .second] [(.int (1 : Int32)), (.ref b)])) rfl rfl (hb hby d6_28) _ ?_
      show Steps p.tables e below (T18.setTop (mkF m 29 #[.val (.ref a1), .val (.int ((own_bc v0) + (own_bc v1))), .val (.ref b), .val (.int (2 : Int32)), .val (.int (1 : Int32)), .val (.long v1), .second] [(.long v2)])) _
      refine XS.lstore X18.here hx rfl (hb hby d6_29) rfl (l' := #[.val (.ref a1), .val (.int ((own_bc v0) + (own_bc v1))), .val (.ref b), .val (.int (2 : Int32)), .val (.int (1 : Int32)), .val (.long v2), .second]) rfl ?_
      show Steps p.tables e below (T18.setTop (mkF m 31 #[.val (.ref a1), .val (.int ((own_bc v0) + (own_bc v1))), .val (.ref b), .val (.int (2 : Int32)), .val (.int (1 : Int32)), .val (.long v2), .second] [])) _
      refine XS.iloadN X18.here hx rfl (hb hby d6_31) rfl ?_
      show Steps p.tables e below (T18.setTop (mkF m 32 #[.val (.ref a1), .val (.int ((own_bc v0) + (own_bc v1))), .val (.ref b), .val (.int (2 : Int32)), .val (.int (1 : Int32)), .val (.long v2), .second] [(.int ((own_bc v0) + (own_bc v1)))])) _
      refine XS.lload X18.here hx rfl (hb hby d6_32) rfl ?_
      show Steps p.tables e below (T18.setTop (mkF m 34 #[.val (.ref a1), .val (.int ((own_bc v0) + (own_bc v1))), .val (.ref b), .val (.int (2 : Int32)), .val (.int (1 : Int32)), .val (.long v2), .second] [(.long v2), (.int ((own_bc v0) + (own_bc v1)))])) _
      refine st20 _ ?_
      show Steps p.tables e below (T20.setTop (mkF m 37 #[.val (.ref a1), .val (.int ((own_bc v0) + (own_bc v1))), .val (.ref b), .val (.int (2 : Int32)), .val (.int (1 : Int32)), .val (.long v2), .second] [(.int (own_bc v2)), (.int ((own_bc v0) + (own_bc v1)))])) _
      refine XS.iadd X20.here hx rfl (hb hby d6_37) rfl ?_
      show Steps p.tables e below (T20.setTop (mkF m 38 #[.val (.ref a1), .val (.int ((own_bc v0) + (own_bc v1))), .val (.ref b), .val (.int (2 : Int32)), .val (.int (1 : Int32)), .val (.long v2), .second] [(.int (((own_bc v0) + (own_bc v1)) + (own_bc v2)))])) _
      refine XS.istoreN X20.here hx rfl (hb hby d6_38) rfl (l' := #[.val (.ref a1), .val (.int (((own_bc v0) + (own_bc v1)) + (own_bc v2))), .val (.ref b), .val (.int (2 : Int32)), .val (.int (1 : Int32)), .val (.long v2), .second]) rfl ?_
      show Steps p.tables e below (T20.setTop (mkF m 39 #[.val (.ref a1), .val (.int (((own_bc v0) + (own_bc v1)) + (own_bc v2))), .val (.ref b), .val (.int (2 : Int32)), .val (.int (1 : Int32)), .val (.long v2), .second] [])) _
      refine XS.iinc X20.here hx rfl (hb hby d6_39) rfl (l' := #[.val (.ref a1), .val (.int (((own_bc v0) + (own_bc v1)) + (own_bc v2))), .val (.ref b), .val (.int (2 : Int32)), .val (.int (2 : Int32)), .val (.long v2), .second]) rfl ?_
      show Steps p.tables e below (T20.setTop (mkF m 42 #[.val (.ref a1), .val (.int (((own_bc v0) + (own_bc v1)) + (own_bc v2))), .val (.ref b), .val (.int (2 : Int32)), .val (.int (2 : Int32)), .val (.long v2), .second] [])) _
      refine XS.goto X20.here hx rfl (pc0 := 42) (pc' := 19) rfl (hb hby d6_42) (by decide) (by decide) ?_
      show Steps p.tables e below (T20.setTop (mkF m 19 #[.val (.ref a1), .val (.int (((own_bc v0) + (own_bc v1)) + (own_bc v2))), .val (.ref b), .val (.int (2 : Int32)), .val (.int (2 : Int32)), .val (.long v2), .second] [])) _
      refine XS.iload X20.here hx rfl (hb hby d6_19) rfl ?_
      show Steps p.tables e below (T20.setTop (mkF m 21 #[.val (.ref a1), .val (.int (((own_bc v0) + (own_bc v1)) + (own_bc v2))), .val (.ref b), .val (.int (2 : Int32)), .val (.int (2 : Int32)), .val (.long v2), .second] [(.int (2 : Int32))])) _
      refine XS.iloadN X20.here hx rfl (hb hby d6_21) rfl ?_
      show Steps p.tables e below (T20.setTop (mkF m 22 #[.val (.ref a1), .val (.int (((own_bc v0) + (own_bc v1)) + (own_bc v2))), .val (.ref b), .val (.int (2 : Int32)), .val (.int (2 : Int32)), .val (.long v2), .second] [(.int (2 : Int32)), (.int (2 : Int32))])) _
      refine XS.icmpYes X20.here hx rfl (pc0 := 22) (pc' := 45) rfl (hb hby d6_22) rfl (flt (by decide : ¬ ((2 : Int32) < (2 : Int32)))).2.1 (by decide) (by decide) ?_
      show Steps p.tables e below (T20.setTop (mkF m 45 #[.val (.ref a1), .val (.int (((own_bc v0) + (own_bc v1)) + (own_bc v2))), .val (.ref b), .val (.int (2 : Int32)), .val (.int (2 : Int32)), .val (.long v2), .second] [])) _
      refine XS.iloadN X20.here hx rfl (hb hby d6_45) rfl ?_
      exact kt
    obtain ⟨fs, hr, hrun, hended, hW, hsame⟩ := X20.leave (v := some (.int (((own_bc v0) + (own_bc v1)) + (own_bc v2)))) (fun h => by rw [Bd.returns] at h; cases h)
    refine ⟨_, _, pre21 _ ?_, hrun, hended, _, _, rfl, ?_, ⟨_, rfl⟩, hW, hsame.mono (by decide) (by decide)⟩
    · show Steps p.tables e below (T20.setTop (mkF m 46 #[.val (.ref a1), .val (.int (((own_bc v0) + (own_bc v1)) + (own_bc v2))), .val (.ref b), .val (.int (2 : Int32)), .val (.int (2 : Int32)), .val (.long v2), .second] [(.int (((own_bc v0) + (own_bc v1)) + (own_bc v2)))])) _
      exact retI X20 hx Bd.returns (hb hby d6_46) hr
    · show QI Z r h0 n0 _ T20.heap _
      rw [hE20]
      exact ⟨by rw [hr0, hbz.2.2 (by decide), own_bc0]; simp only [Int32.add_zero], N20, rfl⟩
  · have hz3 := hbz
    obtain ⟨T22, X22, e22, st22⟩ := getF X0 hx hZ hown (host := "") (Or.inl (hw _ (List.mem_of_getElem? (i := 19) rfl))) Via.refl e0 F_f (g := (mkF m 1 #[.val (.ref a1), .unset, .unset, .unset, .unset, .unset, .unset] [(.ref a1)])) rfl rfl (hb hby d6_1)
    obtain ⟨_, _, ⟨T23, L23, k23, n23⟩, -, X23, ⟨Lc23, hQ23, l23, y23, z23⟩, st23⟩ := Jvm.LawKit.callS X22 hx (y := (⟨"java/lang/Long", "bitCount", "(J)I"⟩ : MethodName)) hown (mvT hZ (hw _ (List.mem_of_getElem? (i := 36) rfl))) (mvT hZ (hw _ (List.mem_of_getElem? (i := 37) rfl))) (mvT hZ (hw _ (List.mem_of_getElem? (i := 38) rfl))) (mvT hZ (hw _ (List.mem_of_getElem? (i := 39) rfl))) (by decide) (backOf (W := 0) (rmB l Z a0 hw [] v0 (own_bc v0) h0 n0 Z0 rfl) hZ (hw _ (List.mem_of_getElem? (i := 39) rfl)) (hw _ (List.mem_of_getElem? (i := 38) rfl)) (by decide) (by decide)) (g := (mkF m 4 #[.val (.ref a1), .unset, .unset, .unset, .unset, .unset, .unset] [(.long v0)])) rfl (by rw [hml]; rfl) (argsL := [(.long v0)]) (rest := []) (lenOf pd_rmS_0 rfl) rfl (by show 2 * 0 + _ ≤ _; exact Nat.le_of_eq rfl) (hb hby d6_4) (fun _ _ => ⟨rfl, e22, (by decide : 0 + 0 ≤ _), (by decide : 0 + 0 ≤ _)⟩)
    dsimp only [Pt.U, Pt.locs, Pt.cells, Pt.slots] at X23 l23 y23 z23 st23 hQ23
    subst l23 y23 z23
    obtain ⟨rfl, N23q, hE23⟩ := hQ23
    have N23 := Fr.app N0 N23q
    obtain ⟨T24, X24, e24, st24⟩ := getF X23 hx hZ hown (host := "") (Or.inl (hw _ (List.mem_of_getElem? (i := 12) rfl))) Via.refl hE23 F_g (g := (mkF m 9 #[.val (.ref a1), .val (.int (own_bc v0)), .unset, .unset, .unset, .unset, .unset] [(.ref a1)])) rfl rfl (hb hby d6_9)
    have VO25 := V_b
    obtain ⟨cl25, Ar25, q25, S25, M25, H25, G25⟩ := VO25
    have VO26 := V_b
    obtain ⟨cl26, Ar26, q26, S26, M26, H26, G26⟩ := VO26
    have hin26 : ¬ ((0 : Int32) < 0 ∨ cl26.slots.size ≤ ((0 : Int32)).toNatClampNeg) := inb_of S26 ⟨by decide, by decide⟩
    have hat26 : cl26.slots[((0 : Int32)).toNatClampNeg]? = some (.long v1) := H26.at hin26 rfl
    obtain ⟨_, _, ⟨T27, L27, k27, n27⟩, -, X27, ⟨Lc27, hQ27, l27, y27, z27⟩, st27⟩ := Jvm.LawKit.callS X24 hx (y := (⟨"java/lang/Long", "bitCount", "(J)I"⟩ : MethodName)) hown (mvT hZ (hw _ (List.mem_of_getElem? (i := 36) rfl))) (mvT hZ (hw _ (List.mem_of_getElem? (i := 37) rfl))) (mvT hZ (hw _ (List.mem_of_getElem? (i := 38) rfl))) (mvT hZ (hw _ (List.mem_of_getElem? (i := 39) rfl))) (by decide) (backOf (W := 1) (rmB l Z a0 hw [] v1 (own_bc v1) h0 n0 Z0 rfl) hZ (hw _ (List.mem_of_getElem? (i := 39) rfl)) (hw _ (List.mem_of_getElem? (i := 38) rfl)) (by decide) (by decide)) (g := (mkF m 34 #[.val (.ref a1), .val (.int (own_bc v0)), .val (.ref b), .val (.int (3 : Int32)), .val (.int (0 : Int32)), .val (.long v1), .second] [(.long v1), (.int (own_bc v0))])) rfl (by rw [hml]; rfl) (argsL := [(.long v1)]) (rest := [(.int (own_bc v0))]) (lenOf pd_rmS_0 rfl) rfl (by show 2 * 0 + _ ≤ _; exact Nat.le_of_eq rfl) (hb hby d6_34) (fun _ _ => ⟨rfl, e24, (by decide : 0 + 0 ≤ _), (by decide : 0 + 0 ≤ _)⟩)
    dsimp only [Pt.U, Pt.locs, Pt.cells, Pt.slots] at X27 l27 y27 z27 st27 hQ27
    subst l27 y27 z27
    obtain ⟨rfl, N27q, hE27⟩ := hQ27
    have N27 := Fr.app N23 N27q
    have VO28 := V_b
    obtain ⟨cl28, Ar28, q28, S28, M28, H28, G28⟩ := VO28
    have hin28 : ¬ ((1 : Int32) < 0 ∨ cl28.slots.size ≤ ((1 : Int32)).toNatClampNeg) := inb_of S28 ⟨by decide, by decide⟩
    have hat28 : cl28.slots[((1 : Int32)).toNatClampNeg]? = some (.long v2) := H28.at hin28 rfl
    obtain ⟨_, _, ⟨T29, L29, k29, n29⟩, -, X29, ⟨Lc29, hQ29, l29, y29, z29⟩, st29⟩ := Jvm.LawKit.callS X27 hx (y := (⟨"java/lang/Long", "bitCount", "(J)I"⟩ : MethodName)) hown (mvT hZ (hw _ (List.mem_of_getElem? (i := 36) rfl))) (mvT hZ (hw _ (List.mem_of_getElem? (i := 37) rfl))) (mvT hZ (hw _ (List.mem_of_getElem? (i := 38) rfl))) (mvT hZ (hw _ (List.mem_of_getElem? (i := 39) rfl))) (by decide) (backOf (W := 1) (rmB l Z a0 hw [] v2 (own_bc v2) h0 n0 Z0 rfl) hZ (hw _ (List.mem_of_getElem? (i := 39) rfl)) (hw _ (List.mem_of_getElem? (i := 38) rfl)) (by decide) (by decide)) (g := (mkF m 34 #[.val (.ref a1), .val (.int ((own_bc v0) + (own_bc v1))), .val (.ref b), .val (.int (3 : Int32)), .val (.int (1 : Int32)), .val (.long v2), .second] [(.long v2), (.int ((own_bc v0) + (own_bc v1)))])) rfl (by rw [hml]; rfl) (argsL := [(.long v2)]) (rest := [(.int ((own_bc v0) + (own_bc v1)))]) (lenOf pd_rmS_0 rfl) rfl (by show 2 * 0 + _ ≤ _; exact Nat.le_of_eq rfl) (hb hby d6_34) (fun _ _ => ⟨rfl, hE27, (by decide : 0 + 0 ≤ _), (by decide : 0 + 0 ≤ _)⟩)
    dsimp only [Pt.U, Pt.locs, Pt.cells, Pt.slots] at X29 l29 y29 z29 st29 hQ29
    subst l29 y29 z29
    obtain ⟨rfl, N29q, hE29⟩ := hQ29
    have N29 := Fr.app N27 N29q
    have VO30 := V_b
    obtain ⟨cl30, Ar30, q30, S30, M30, H30, G30⟩ := VO30
    have hin30 : ¬ ((2 : Int32) < 0 ∨ cl30.slots.size ≤ ((2 : Int32)).toNatClampNeg) := inb_of S30 ⟨by decide, by decide⟩
    have hat30 : cl30.slots[((2 : Int32)).toNatClampNeg]? = some (.long v3) := H30.at hin30 rfl
    obtain ⟨_, _, ⟨T31, L31, k31, n31⟩, -, X31, ⟨Lc31, hQ31, l31, y31, z31⟩, st31⟩ := Jvm.LawKit.callS X29 hx (y := (⟨"java/lang/Long", "bitCount", "(J)I"⟩ : MethodName)) hown (mvT hZ (hw _ (List.mem_of_getElem? (i := 36) rfl))) (mvT hZ (hw _ (List.mem_of_getElem? (i := 37) rfl))) (mvT hZ (hw _ (List.mem_of_getElem? (i := 38) rfl))) (mvT hZ (hw _ (List.mem_of_getElem? (i := 39) rfl))) (by decide) (backOf (W := 1) (rmB l Z a0 hw [] v3 (own_bc v3) h0 n0 Z0 rfl) hZ (hw _ (List.mem_of_getElem? (i := 39) rfl)) (hw _ (List.mem_of_getElem? (i := 38) rfl)) (by decide) (by decide)) (g := (mkF m 34 #[.val (.ref a1), .val (.int (((own_bc v0) + (own_bc v1)) + (own_bc v2))), .val (.ref b), .val (.int (3 : Int32)), .val (.int (2 : Int32)), .val (.long v3), .second] [(.long v3), (.int (((own_bc v0) + (own_bc v1)) + (own_bc v2)))])) rfl (by rw [hml]; rfl) (argsL := [(.long v3)]) (rest := [(.int (((own_bc v0) + (own_bc v1)) + (own_bc v2)))]) (lenOf pd_rmS_0 rfl) rfl (by show 2 * 0 + _ ≤ _; exact Nat.le_of_eq rfl) (hb hby d6_34) (fun _ _ => ⟨rfl, hE29, (by decide : 0 + 0 ≤ _), (by decide : 0 + 0 ≤ _)⟩)
    dsimp only [Pt.U, Pt.locs, Pt.cells, Pt.slots] at X31 l31 y31 z31 st31 hQ31
    subst l31 y31 z31
    obtain ⟨rfl, N31q, hE31⟩ := hQ31
    have N31 := Fr.app N29 N31q
    have pre32 : ∀ tt, Steps p.tables e below (T31.setTop (mkF m 46 #[.val (.ref a1), .val (.int ((((own_bc v0) + (own_bc v1)) + (own_bc v2)) + (own_bc v3))), .val (.ref b), .val (.int (3 : Int32)), .val (.int (3 : Int32)), .val (.long v3), .second] [(.int ((((own_bc v0) + (own_bc v1)) + (own_bc v2)) + (own_bc v3)))])) tt → Steps p.tables e below (s₁.setTop (entryFrame m #[(.ref a1)] 7)) tt := by
      intro tt kt
      refine pre0 tt ?_
      show Steps p.tables e below (s₁.setTop (mkF m 0 #[.val (.ref a1), .unset, .unset, .unset, .unset, .unset, .unset] [])) _
      refine XS.aloadN X0.here hx rfl (hb hby d6_0) rfl rfl ?_
      show Steps p.tables e below (s₁.setTop (mkF m 1 #[.val (.ref a1), .unset, .unset, .unset, .unset, .unset, .unset] [(.ref a1)])) _
      refine st22 _ ?_
      show Steps p.tables e below (T22.setTop (mkF m 4 #[.val (.ref a1), .unset, .unset, .unset, .unset, .unset, .unset] [(.long v0)])) _
      refine st23 _ ?_
      show Steps p.tables e below (T23.setTop (mkF m 7 #[.val (.ref a1), .unset, .unset, .unset, .unset, .unset, .unset] [(.int (own_bc v0))])) _
      refine XS.istoreN X23.here hx rfl (hb hby d6_7) rfl (l' := #[.val (.ref a1), .val (.int (own_bc v0)), .unset, .unset, .unset, .unset, .unset]) rfl ?_
      show Steps p.tables e below (T23.setTop (mkF m 8 #[.val (.ref a1), .val (.int (own_bc v0)), .unset, .unset, .unset, .unset, .unset] [])) _
      refine XS.aloadN X23.here hx rfl (hb hby d6_8) rfl rfl ?_
      show Steps p.tables e below (T23.setTop (mkF m 9 #[.val (.ref a1), .val (.int (own_bc v0)), .unset, .unset, .unset, .unset, .unset] [(.ref a1)])) _
      refine st24 _ ?_
      show Steps p.tables e below (T24.setTop (mkF m 12 #[.val (.ref a1), .val (.int (own_bc v0)), .unset, .unset, .unset, .unset, .unset] [(.ref b)])) _
      refine XS.astoreN X24.here hx rfl (hb hby d6_12) rfl rfl (l' := #[.val (.ref a1), .val (.int (own_bc v0)), .val (.ref b), .unset, .unset, .unset, .unset]) rfl ?_
      show Steps p.tables e below (T24.setTop (mkF m 13 #[.val (.ref a1), .val (.int (own_bc v0)), .val (.ref b), .unset, .unset, .unset, .unset] [])) _
      refine XS.aloadN X24.here hx rfl (hb hby d6_13) rfl rfl ?_
      show Steps p.tables e below (T24.setTop (mkF m 14 #[.val (.ref a1), .val (.int (own_bc v0)), .val (.ref b), .unset, .unset, .unset, .unset] [(.ref b)])) _
      refine X24.arraylength hx (by rw [e24]; exact Ar25.1) (State.isArrayOf_alike hZ.alike Ar25.2.1) (g := (mkF m 14 #[.val (.ref a1), .val (.int (own_bc v0)), .val (.ref b), .unset, .unset, .unset, .unset] [(.ref b)])) rfl rfl (hb hby d6_14) _ ?_
      rw [len_of S25 M25]
      show Steps p.tables e below (T24.setTop (mkF m 15 #[.val (.ref a1), .val (.int (own_bc v0)), .val (.ref b), .unset, .unset, .unset, .unset] [(.int (3 : Int32))])) _
      refine XS.istoreN X24.here hx rfl (hb hby d6_15) rfl (l' := #[.val (.ref a1), .val (.int (own_bc v0)), .val (.ref b), .val (.int (3 : Int32)), .unset, .unset, .unset]) rfl ?_
      show Steps p.tables e below (T24.setTop (mkF m 16 #[.val (.ref a1), .val (.int (own_bc v0)), .val (.ref b), .val (.int (3 : Int32)), .unset, .unset, .unset] [])) _
      refine XS.iconst X24.here hx rfl (hb hby d6_16) ?_
      show Steps p.tables e below (T24.setTop (mkF m 17 #[.val (.ref a1), .val (.int (own_bc v0)), .val (.ref b), .val (.int (3 : Int32)), .unset, .unset, .unset] [(.int (0 : Int32))])) _
      refine XS.istore X24.here hx rfl (hb hby d6_17) rfl (l' := #[.val (.ref a1), .val (.int (own_bc v0)), .val (.ref b), .val (.int (3 : Int32)), .val (.int (0 : Int32)), .unset, .unset]) rfl ?_
      show Steps p.tables e below (T24.setTop (mkF m 19 #[.val (.ref a1), .val (.int (own_bc v0)), .val (.ref b), .val (.int (3 : Int32)), .val (.int (0 : Int32)), .unset, .unset] [])) _
      refine XS.iload X24.here hx rfl (hb hby d6_19) rfl ?_
      show Steps p.tables e below (T24.setTop (mkF m 21 #[.val (.ref a1), .val (.int (own_bc v0)), .val (.ref b), .val (.int (3 : Int32)), .val (.int (0 : Int32)), .unset, .unset] [(.int (0 : Int32))])) _
      refine XS.iloadN X24.here hx rfl (hb hby d6_21) rfl ?_
      show Steps p.tables e below (T24.setTop (mkF m 22 #[.val (.ref a1), .val (.int (own_bc v0)), .val (.ref b), .val (.int (3 : Int32)), .val (.int (0 : Int32)), .unset, .unset] [(.int (3 : Int32)), (.int (0 : Int32))])) _
      refine XS.icmpNo X24.here hx rfl (hb hby d6_22) rfl (tlt (by decide : (0 : Int32) < (3 : Int32))).2.1 ?_
      show Steps p.tables e below (T24.setTop (mkF m 25 #[.val (.ref a1), .val (.int (own_bc v0)), .val (.ref b), .val (.int (3 : Int32)), .val (.int (0 : Int32)), .unset, .unset] [])) _
      refine XS.aloadN X24.here hx rfl (hb hby d6_25) rfl rfl ?_
      show Steps p.tables e below (T24.setTop (mkF m 26 #[.val (.ref a1), .val (.int (own_bc v0)), .val (.ref b), .val (.int (3 : Int32)), .val (.int (0 : Int32)), .unset, .unset] [(.ref b)])) _
      refine XS.iload X24.here hx rfl (hb hby d6_26) rfl ?_
      show Steps p.tables e below (T24.setTop (mkF m 28 #[.val (.ref a1), .val (.int (own_bc v0)), .val (.ref b), .val (.int (3 : Int32)), .val (.int (0 : Int32)), .unset, .unset] [(.int (0 : Int32)), (.ref b)])) _
      refine X24.laload hx (j := (0 : Int32)) (v := (.long v1)) (by rw [e24]; exact Ar26.1) (State.isArrayOf_alike hZ.alike Ar26.2.1) Ar26.2.2 hin26 hat26 (g := (mkF m 28 #[.val (.ref a1), .val (.int (own_bc v0)), .val (.ref b), .val (.int (3 : Int32)), .val (.int (0 : Int32)), .unset, .unset] [(.int (0 : Int32)), (.ref b)])) rfl rfl (hb hby d6_28) _ ?_
      show Steps p.tables e below (T24.setTop (mkF m 29 #[.val (.ref a1), .val (.int (own_bc v0)), .val (.ref b), .val (.int (3 : Int32)), .val (.int (0 : Int32)), .unset, .unset] [(.long v1)])) _
      refine XS.lstore X24.here hx rfl (hb hby d6_29) rfl (l' := #[.val (.ref a1), .val (.int (own_bc v0)), .val (.ref b), .val (.int (3 : Int32)), .val (.int (0 : Int32)), .val (.long v1), .second]) rfl ?_
      show Steps p.tables e below (T24.setTop (mkF m 31 #[.val (.ref a1), .val (.int (own_bc v0)), .val (.ref b), .val (.int (3 : Int32)), .val (.int (0 : Int32)), .val (.long v1), .second] [])) _
      refine XS.iloadN X24.here hx rfl (hb hby d6_31) rfl ?_
      show Steps p.tables e below (T24.setTop (mkF m 32 #[.val (.ref a1), .val (.int (own_bc v0)), .val (.ref b), .val (.int (3 : Int32)), .val (.int (0 : Int32)), .val (.long v1), .second] [(.int (own_bc v0))])) _
      refine XS.lload X24.here hx rfl (hb hby d6_32) rfl ?_
      show Steps p.tables e below (T24.setTop (mkF m 34 #[.val (.ref a1), .val (.int (own_bc v0)), .val (.ref b), .val (.int (3 : Int32)), .val (.int (0 : Int32)), .val (.long v1), .second] [(.long v1), (.int (own_bc v0))])) _
      refine st27 _ ?_
      show Steps p.tables e below (T27.setTop (mkF m 37 #[.val (.ref a1), .val (.int (own_bc v0)), .val (.ref b), .val (.int (3 : Int32)), .val (.int (0 : Int32)), .val (.long v1), .second] [(.int (own_bc v1)), (.int (own_bc v0))])) _
      refine XS.iadd X27.here hx rfl (hb hby d6_37) rfl ?_
      show Steps p.tables e below (T27.setTop (mkF m 38 #[.val (.ref a1), .val (.int (own_bc v0)), .val (.ref b), .val (.int (3 : Int32)), .val (.int (0 : Int32)), .val (.long v1), .second] [(.int ((own_bc v0) + (own_bc v1)))])) _
      refine XS.istoreN X27.here hx rfl (hb hby d6_38) rfl (l' := #[.val (.ref a1), .val (.int ((own_bc v0) + (own_bc v1))), .val (.ref b), .val (.int (3 : Int32)), .val (.int (0 : Int32)), .val (.long v1), .second]) rfl ?_
      show Steps p.tables e below (T27.setTop (mkF m 39 #[.val (.ref a1), .val (.int ((own_bc v0) + (own_bc v1))), .val (.ref b), .val (.int (3 : Int32)), .val (.int (0 : Int32)), .val (.long v1), .second] [])) _
      refine XS.iinc X27.here hx rfl (hb hby d6_39) rfl (l' := #[.val (.ref a1), .val (.int ((own_bc v0) + (own_bc v1))), .val (.ref b), .val (.int (3 : Int32)), .val (.int (1 : Int32)), .val (.long v1), .second]) rfl ?_
      show Steps p.tables e below (T27.setTop (mkF m 42 #[.val (.ref a1), .val (.int ((own_bc v0) + (own_bc v1))), .val (.ref b), .val (.int (3 : Int32)), .val (.int (1 : Int32)), .val (.long v1), .second] [])) _
      refine XS.goto X27.here hx rfl (pc0 := 42) (pc' := 19) rfl (hb hby d6_42) (by decide) (by decide) ?_
      show Steps p.tables e below (T27.setTop (mkF m 19 #[.val (.ref a1), .val (.int ((own_bc v0) + (own_bc v1))), .val (.ref b), .val (.int (3 : Int32)), .val (.int (1 : Int32)), .val (.long v1), .second] [])) _
      refine XS.iload X27.here hx rfl (hb hby d6_19) rfl ?_
      show Steps p.tables e below (T27.setTop (mkF m 21 #[.val (.ref a1), .val (.int ((own_bc v0) + (own_bc v1))), .val (.ref b), .val (.int (3 : Int32)), .val (.int (1 : Int32)), .val (.long v1), .second] [(.int (1 : Int32))])) _
      refine XS.iloadN X27.here hx rfl (hb hby d6_21) rfl ?_
      show Steps p.tables e below (T27.setTop (mkF m 22 #[.val (.ref a1), .val (.int ((own_bc v0) + (own_bc v1))), .val (.ref b), .val (.int (3 : Int32)), .val (.int (1 : Int32)), .val (.long v1), .second] [(.int (3 : Int32)), (.int (1 : Int32))])) _
      refine XS.icmpNo X27.here hx rfl (hb hby d6_22) rfl (tlt (by decide : (1 : Int32) < (3 : Int32))).2.1 ?_
      show Steps p.tables e below (T27.setTop (mkF m 25 #[.val (.ref a1), .val (.int ((own_bc v0) + (own_bc v1))), .val (.ref b), .val (.int (3 : Int32)), .val (.int (1 : Int32)), .val (.long v1), .second] [])) _
      refine XS.aloadN X27.here hx rfl (hb hby d6_25) rfl rfl ?_
      show Steps p.tables e below (T27.setTop (mkF m 26 #[.val (.ref a1), .val (.int ((own_bc v0) + (own_bc v1))), .val (.ref b), .val (.int (3 : Int32)), .val (.int (1 : Int32)), .val (.long v1), .second] [(.ref b)])) _
      refine XS.iload X27.here hx rfl (hb hby d6_26) rfl ?_
      show Steps p.tables e below (T27.setTop (mkF m 28 #[.val (.ref a1), .val (.int ((own_bc v0) + (own_bc v1))), .val (.ref b), .val (.int (3 : Int32)), .val (.int (1 : Int32)), .val (.long v1), .second] [(.int (1 : Int32)), (.ref b)])) _
      refine X27.laload hx (j := (1 : Int32)) (v := (.long v2)) (by rw [hE27]; exact Ar28.1) (State.isArrayOf_alike hZ.alike Ar28.2.1) Ar28.2.2 hin28 hat28 (g := (mkF m 28 #[.val (.ref a1), .val (.int ((own_bc v0) + (own_bc v1))), .val (.ref b), .val (.int (3 : Int32)), .val (.int (1 : Int32)), .val (.long v1), .second] [(.int (1 : Int32)), (.ref b)])) rfl rfl (hb hby d6_28) _ ?_
      show Steps p.tables e below (T27.setTop (mkF m 29 #[.val (.ref a1), .val (.int ((own_bc v0) + (own_bc v1))), .val (.ref b), .val (.int (3 : Int32)), .val (.int (1 : Int32)), .val (.long v1), .second] [(.long v2)])) _
      refine XS.lstore X27.here hx rfl (hb hby d6_29) rfl (l' := #[.val (.ref a1), .val (.int ((own_bc v0) + (own_bc v1))), .val (.ref b), .val (.int (3 : Int32)), .val (.int (1 : Int32)), .val (.long v2), .second]) rfl ?_
      show Steps p.tables e below (T27.setTop (mkF m 31 #[.val (.ref a1), .val (.int ((own_bc v0) + (own_bc v1))), .val (.ref b), .val (.int (3 : Int32)), .val (.int (1 : Int32)), .val (.long v2), .second] [])) _
      refine XS.iloadN X27.here hx rfl (hb hby d6_31) rfl ?_
      show Steps p.tables e below (T27.setTop (mkF m 32 #[.val (.ref a1), .val (.int ((own_bc v0) + (own_bc v1))), .val (.ref b), .val (.int (3 : Int32)), .val (.int (1 : Int32)), .val (.long v2), .second] [(.int ((own_bc v0) + (own_bc v1)))])) _
      refine XS.lload X27.here hx rfl (hb hby d6_32) rfl ?_
      show Steps p.tables e below (T27.setTop (mkF m 34 #[.val (.ref a1), .val (.int ((own_bc v0) + (own_bc v1))), .val (.ref b), .val (.int (3 : Int32)), .val (.int (1 : Int32)), .val (.long v2), .second] [(.long v2), (.int ((own_bc v0) + (own_bc v1)))])) _
      refine st29 _ ?_
      show Steps p.tables e below (T29.setTop (mkF m 37 #[.val (.ref a1), .val (.int ((own_bc v0) + (own_bc v1))), .val (.ref b), .val (.int (3 : Int32)), .val (.int (1 : Int32)), .val (.long v2), .second] [(.int (own_bc v2)), (.int ((own_bc v0) + (own_bc v1)))])) _
      refine XS.iadd X29.here hx rfl (hb hby d6_37) rfl ?_
      show Steps p.tables e below (T29.setTop (mkF m 38 #[.val (.ref a1), .val (.int ((own_bc v0) + (own_bc v1))), .val (.ref b), .val (.int (3 : Int32)), .val (.int (1 : Int32)), .val (.long v2), .second] [(.int (((own_bc v0) + (own_bc v1)) + (own_bc v2)))])) _
      refine XS.istoreN X29.here hx rfl (hb hby d6_38) rfl (l' := #[.val (.ref a1), .val (.int (((own_bc v0) + (own_bc v1)) + (own_bc v2))), .val (.ref b), .val (.int (3 : Int32)), .val (.int (1 : Int32)), .val (.long v2), .second]) rfl ?_
      show Steps p.tables e below (T29.setTop (mkF m 39 #[.val (.ref a1), .val (.int (((own_bc v0) + (own_bc v1)) + (own_bc v2))), .val (.ref b), .val (.int (3 : Int32)), .val (.int (1 : Int32)), .val (.long v2), .second] [])) _
      refine XS.iinc X29.here hx rfl (hb hby d6_39) rfl (l' := #[.val (.ref a1), .val (.int (((own_bc v0) + (own_bc v1)) + (own_bc v2))), .val (.ref b), .val (.int (3 : Int32)), .val (.int (2 : Int32)), .val (.long v2), .second]) rfl ?_
      show Steps p.tables e below (T29.setTop (mkF m 42 #[.val (.ref a1), .val (.int (((own_bc v0) + (own_bc v1)) + (own_bc v2))), .val (.ref b), .val (.int (3 : Int32)), .val (.int (2 : Int32)), .val (.long v2), .second] [])) _
      refine XS.goto X29.here hx rfl (pc0 := 42) (pc' := 19) rfl (hb hby d6_42) (by decide) (by decide) ?_
      show Steps p.tables e below (T29.setTop (mkF m 19 #[.val (.ref a1), .val (.int (((own_bc v0) + (own_bc v1)) + (own_bc v2))), .val (.ref b), .val (.int (3 : Int32)), .val (.int (2 : Int32)), .val (.long v2), .second] [])) _
      refine XS.iload X29.here hx rfl (hb hby d6_19) rfl ?_
      show Steps p.tables e below (T29.setTop (mkF m 21 #[.val (.ref a1), .val (.int (((own_bc v0) + (own_bc v1)) + (own_bc v2))), .val (.ref b), .val (.int (3 : Int32)), .val (.int (2 : Int32)), .val (.long v2), .second] [(.int (2 : Int32))])) _
      refine XS.iloadN X29.here hx rfl (hb hby d6_21) rfl ?_
      show Steps p.tables e below (T29.setTop (mkF m 22 #[.val (.ref a1), .val (.int (((own_bc v0) + (own_bc v1)) + (own_bc v2))), .val (.ref b), .val (.int (3 : Int32)), .val (.int (2 : Int32)), .val (.long v2), .second] [(.int (3 : Int32)), (.int (2 : Int32))])) _
      refine XS.icmpNo X29.here hx rfl (hb hby d6_22) rfl (tlt (by decide : (2 : Int32) < (3 : Int32))).2.1 ?_
      show Steps p.tables e below (T29.setTop (mkF m 25 #[.val (.ref a1), .val (.int (((own_bc v0) + (own_bc v1)) + (own_bc v2))), .val (.ref b), .val (.int (3 : Int32)), .val (.int (2 : Int32)), .val (.long v2), .second] [])) _
      refine XS.aloadN X29.here hx rfl (hb hby d6_25) rfl rfl ?_
      show Steps p.tables e below (T29.setTop (mkF m 26 #[.val (.ref a1), .val (.int (((own_bc v0) + (own_bc v1)) + (own_bc v2))), .val (.ref b), .val (.int (3 : Int32)), .val (.int (2 : Int32)), .val (.long v2), .second] [(.ref b)])) _
      refine XS.iload X29.here hx rfl (hb hby d6_26) rfl ?_
      show Steps p.tables e below (T29.setTop (mkF m 28 #[.val (.ref a1), .val (.int (((own_bc v0) + (own_bc v1)) + (own_bc v2))), .val (.ref b), .val (.int (3 : Int32)), .val (.int (2 : Int32)), .val (.long v2), .second] [(.int (2 : Int32)), (.ref b)])) _
      refine X29.laload hx (j := (2 : Int32)) (v := (.long v3)) (by rw [hE29]; exact Ar30.1) (State.isArrayOf_alike hZ.alike Ar30.2.1) Ar30.2.2 hin30 hat30 (g := (mkF m 28 #[.val (.ref a1), .val (.int (((own_bc v0) + (own_bc v1)) + (own_bc v2))), .val (.ref b), .val (.int (3 : Int32)), .val (.int (2 : Int32)), .val (.long v2), .second] [(.int (2 : Int32)), (.ref b)])) rfl rfl (hb hby d6_28) _ ?_
      show Steps p.tables e below (T29.setTop (mkF m 29 #[.val (.ref a1), .val (.int (((own_bc v0) + (own_bc v1)) + (own_bc v2))), .val (.ref b), .val (.int (3 : Int32)), .val (.int (2 : Int32)), .val (.long v2), .second] [(.long v3)])) _
      refine XS.lstore X29.here hx rfl (hb hby d6_29) rfl (l' := #[.val (.ref a1), .val (.int (((own_bc v0) + (own_bc v1)) + (own_bc v2))), .val (.ref b), .val (.int (3 : Int32)), .val (.int (2 : Int32)), .val (.long v3), .second]) rfl ?_
      show Steps p.tables e below (T29.setTop (mkF m 31 #[.val (.ref a1), .val (.int (((own_bc v0) + (own_bc v1)) + (own_bc v2))), .val (.ref b), .val (.int (3 : Int32)), .val (.int (2 : Int32)), .val (.long v3), .second] [])) _
      refine XS.iloadN X29.here hx rfl (hb hby d6_31) rfl ?_
      show Steps p.tables e below (T29.setTop (mkF m 32 #[.val (.ref a1), .val (.int (((own_bc v0) + (own_bc v1)) + (own_bc v2))), .val (.ref b), .val (.int (3 : Int32)), .val (.int (2 : Int32)), .val (.long v3), .second] [(.int (((own_bc v0) + (own_bc v1)) + (own_bc v2)))])) _
      refine XS.lload X29.here hx rfl (hb hby d6_32) rfl ?_
      show Steps p.tables e below (T29.setTop (mkF m 34 #[.val (.ref a1), .val (.int (((own_bc v0) + (own_bc v1)) + (own_bc v2))), .val (.ref b), .val (.int (3 : Int32)), .val (.int (2 : Int32)), .val (.long v3), .second] [(.long v3), (.int (((own_bc v0) + (own_bc v1)) + (own_bc v2)))])) _
      refine st31 _ ?_
      show Steps p.tables e below (T31.setTop (mkF m 37 #[.val (.ref a1), .val (.int (((own_bc v0) + (own_bc v1)) + (own_bc v2))), .val (.ref b), .val (.int (3 : Int32)), .val (.int (2 : Int32)), .val (.long v3), .second] [(.int (own_bc v3)), (.int (((own_bc v0) + (own_bc v1)) + (own_bc v2)))])) _
      refine XS.iadd X31.here hx rfl (hb hby d6_37) rfl ?_
      show Steps p.tables e below (T31.setTop (mkF m 38 #[.val (.ref a1), .val (.int (((own_bc v0) + (own_bc v1)) + (own_bc v2))), .val (.ref b), .val (.int (3 : Int32)), .val (.int (2 : Int32)), .val (.long v3), .second] [(.int ((((own_bc v0) + (own_bc v1)) + (own_bc v2)) + (own_bc v3)))])) _
      refine XS.istoreN X31.here hx rfl (hb hby d6_38) rfl (l' := #[.val (.ref a1), .val (.int ((((own_bc v0) + (own_bc v1)) + (own_bc v2)) + (own_bc v3))), .val (.ref b), .val (.int (3 : Int32)), .val (.int (2 : Int32)), .val (.long v3), .second]) rfl ?_
      show Steps p.tables e below (T31.setTop (mkF m 39 #[.val (.ref a1), .val (.int ((((own_bc v0) + (own_bc v1)) + (own_bc v2)) + (own_bc v3))), .val (.ref b), .val (.int (3 : Int32)), .val (.int (2 : Int32)), .val (.long v3), .second] [])) _
      refine XS.iinc X31.here hx rfl (hb hby d6_39) rfl (l' := #[.val (.ref a1), .val (.int ((((own_bc v0) + (own_bc v1)) + (own_bc v2)) + (own_bc v3))), .val (.ref b), .val (.int (3 : Int32)), .val (.int (3 : Int32)), .val (.long v3), .second]) rfl ?_
      show Steps p.tables e below (T31.setTop (mkF m 42 #[.val (.ref a1), .val (.int ((((own_bc v0) + (own_bc v1)) + (own_bc v2)) + (own_bc v3))), .val (.ref b), .val (.int (3 : Int32)), .val (.int (3 : Int32)), .val (.long v3), .second] [])) _
      refine XS.goto X31.here hx rfl (pc0 := 42) (pc' := 19) rfl (hb hby d6_42) (by decide) (by decide) ?_
      show Steps p.tables e below (T31.setTop (mkF m 19 #[.val (.ref a1), .val (.int ((((own_bc v0) + (own_bc v1)) + (own_bc v2)) + (own_bc v3))), .val (.ref b), .val (.int (3 : Int32)), .val (.int (3 : Int32)), .val (.long v3), .second] [])) _
      refine XS.iload X31.here hx rfl (hb hby d6_19) rfl ?_
      show Steps p.tables e below (T31.setTop (mkF m 21 #[.val (.ref a1), .val (.int ((((own_bc v0) + (own_bc v1)) + (own_bc v2)) + (own_bc v3))), .val (.ref b), .val (.int (3 : Int32)), .val (.int (3 : Int32)), .val (.long v3), .second] [(.int (3 : Int32))])) _
      refine XS.iloadN X31.here hx rfl (hb hby d6_21) rfl ?_
      show Steps p.tables e below (T31.setTop (mkF m 22 #[.val (.ref a1), .val (.int ((((own_bc v0) + (own_bc v1)) + (own_bc v2)) + (own_bc v3))), .val (.ref b), .val (.int (3 : Int32)), .val (.int (3 : Int32)), .val (.long v3), .second] [(.int (3 : Int32)), (.int (3 : Int32))])) _
      refine XS.icmpYes X31.here hx rfl (pc0 := 22) (pc' := 45) rfl (hb hby d6_22) rfl (flt (by decide : ¬ ((3 : Int32) < (3 : Int32)))).2.1 (by decide) (by decide) ?_
      show Steps p.tables e below (T31.setTop (mkF m 45 #[.val (.ref a1), .val (.int ((((own_bc v0) + (own_bc v1)) + (own_bc v2)) + (own_bc v3))), .val (.ref b), .val (.int (3 : Int32)), .val (.int (3 : Int32)), .val (.long v3), .second] [])) _
      refine XS.iloadN X31.here hx rfl (hb hby d6_45) rfl ?_
      exact kt
    obtain ⟨fs, hr, hrun, hended, hW, hsame⟩ := X31.leave (v := some (.int ((((own_bc v0) + (own_bc v1)) + (own_bc v2)) + (own_bc v3)))) (fun h => by rw [Bd.returns] at h; cases h)
    refine ⟨_, _, pre32 _ ?_, hrun, hended, _, _, rfl, ?_, ⟨_, rfl⟩, hW, hsame.mono (by decide) (by decide)⟩
    · show Steps p.tables e below (T31.setTop (mkF m 46 #[.val (.ref a1), .val (.int ((((own_bc v0) + (own_bc v1)) + (own_bc v2)) + (own_bc v3))), .val (.ref b), .val (.int (3 : Int32)), .val (.int (3 : Int32)), .val (.long v3), .second] [(.int ((((own_bc v0) + (own_bc v1)) + (own_bc v2)) + (own_bc v3)))])) _
      exact retI X31 hx Bd.returns (hb hby d6_46) hr
    · show QI Z r h0 n0 _ T31.heap _
      rw [hE31]
      exact ⟨by rw [hr0], N31, rfl⟩
theorem d4_0 : decode prog_6_method_6_code 0 = .ok (.iload_n 1, 1) := by decide +kernel
theorem d4_1 : decode prog_6_method_6_code 1 = .ok (.bipush 64, 2) := by decide +kernel
theorem d4_3 : decode prog_6_method_6_code 3 = .ok (.if_icmp .lt 13, 3) := by decide +kernel
theorem d4_6 : decode prog_6_method_6_code 6 = .ok (.aload_n 0, 1) := by decide +kernel
theorem d4_7 : decode prog_6_method_6_code 7 = .ok (.ldc2_w 22, 3) := by decide +kernel
theorem d4_10 : decode prog_6_method_6_code 10 = .ok (.putfield 18, 3) := by decide +kernel
theorem d4_13 : decode prog_6_method_6_code 13 = .ok (.goto 17, 3) := by decide +kernel
theorem d4_16 : decode prog_6_method_6_code 16 = .ok (.aload_n 0, 1) := by decide +kernel
theorem d4_17 : decode prog_6_method_6_code 17 = .ok (.dup, 1) := by decide +kernel
theorem d4_18 : decode prog_6_method_6_code 18 = .ok (.getfield 18, 3) := by decide +kernel
theorem d4_21 : decode prog_6_method_6_code 21 = .ok (.lconst 1, 1) := by decide +kernel
theorem d4_22 : decode prog_6_method_6_code 22 = .ok (.iload_n 1, 1) := by decide +kernel
theorem d4_23 : decode prog_6_method_6_code 23 = .ok (.lshl, 1) := by decide +kernel
theorem d4_24 : decode prog_6_method_6_code 24 = .ok (.lconst 1, 1) := by decide +kernel
theorem d4_25 : decode prog_6_method_6_code 25 = .ok (.lsub, 1) := by decide +kernel
theorem d4_26 : decode prog_6_method_6_code 26 = .ok (.lor, 1) := by decide +kernel
theorem d4_27 : decode prog_6_method_6_code 27 = .ok (.putfield 18, 3) := by decide +kernel
theorem d4_30 : decode prog_6_method_6_code 30 = .ok (.iconst 0, 1) := by decide +kernel
theorem d4_31 : decode prog_6_method_6_code 31 = .ok (.istore_n 2, 1) := by decide +kernel
theorem d4_32 : decode prog_6_method_6_code 32 = .ok (.iload_n 2, 1) := by decide +kernel
theorem d4_33 : decode prog_6_method_6_code 33 = .ok (.aload_n 0, 1) := by decide +kernel
theorem d4_34 : decode prog_6_method_6_code 34 = .ok (.getfield 15, 3) := by decide +kernel
theorem d4_37 : decode prog_6_method_6_code 37 = .ok (.arraylength, 1) := by decide +kernel
theorem d4_38 : decode prog_6_method_6_code 38 = .ok (.if_icmp .ge 54, 3) := by decide +kernel
theorem d4_41 : decode prog_6_method_6_code 41 = .ok (.iload_n 1, 1) := by decide +kernel
theorem d4_42 : decode prog_6_method_6_code 42 = .ok (.iload_n 2, 1) := by decide +kernel
theorem d4_43 : decode prog_6_method_6_code 43 = .ok (.iconst 1, 1) := by decide +kernel
theorem d4_44 : decode prog_6_method_6_code 44 = .ok (.iadd, 1) := by decide +kernel
theorem d4_45 : decode prog_6_method_6_code 45 = .ok (.bipush 64, 2) := by decide +kernel
theorem d4_47 : decode prog_6_method_6_code 47 = .ok (.imul, 1) := by decide +kernel
theorem d4_48 : decode prog_6_method_6_code 48 = .ok (.isub, 1) := by decide +kernel
theorem d4_49 : decode prog_6_method_6_code 49 = .ok (.istore_n 3, 1) := by decide +kernel
theorem d4_50 : decode prog_6_method_6_code 50 = .ok (.iload_n 3, 1) := by decide +kernel
theorem d4_51 : decode prog_6_method_6_code 51 = .ok (.bipush 64, 2) := by decide +kernel
theorem d4_53 : decode prog_6_method_6_code 53 = .ok (.if_icmp .lt 15, 3) := by decide +kernel
theorem d4_56 : decode prog_6_method_6_code 56 = .ok (.aload_n 0, 1) := by decide +kernel
theorem d4_57 : decode prog_6_method_6_code 57 = .ok (.getfield 15, 3) := by decide +kernel
theorem d4_60 : decode prog_6_method_6_code 60 = .ok (.iload_n 2, 1) := by decide +kernel
theorem d4_61 : decode prog_6_method_6_code 61 = .ok (.ldc2_w 22, 3) := by decide +kernel
theorem d4_64 : decode prog_6_method_6_code 64 = .ok (.lastore, 1) := by decide +kernel
theorem d4_65 : decode prog_6_method_6_code 65 = .ok (.goto 21, 3) := by decide +kernel
theorem d4_68 : decode prog_6_method_6_code 68 = .ok (.iload_n 3, 1) := by decide +kernel
theorem d4_69 : decode prog_6_method_6_code 69 = .ok (.ifCond .le 17, 3) := by decide +kernel
theorem d4_72 : decode prog_6_method_6_code 72 = .ok (.aload_n 0, 1) := by decide +kernel
theorem d4_73 : decode prog_6_method_6_code 73 = .ok (.getfield 15, 3) := by decide +kernel
theorem d4_76 : decode prog_6_method_6_code 76 = .ok (.iload_n 2, 1) := by decide +kernel
theorem d4_77 : decode prog_6_method_6_code 77 = .ok (.dup2, 1) := by decide +kernel
theorem d4_78 : decode prog_6_method_6_code 78 = .ok (.laload, 1) := by decide +kernel
theorem d4_79 : decode prog_6_method_6_code 79 = .ok (.lconst 1, 1) := by decide +kernel
theorem d4_80 : decode prog_6_method_6_code 80 = .ok (.iload_n 3, 1) := by decide +kernel
theorem d4_81 : decode prog_6_method_6_code 81 = .ok (.lshl, 1) := by decide +kernel
theorem d4_82 : decode prog_6_method_6_code 82 = .ok (.lconst 1, 1) := by decide +kernel
theorem d4_83 : decode prog_6_method_6_code 83 = .ok (.lsub, 1) := by decide +kernel
theorem d4_84 : decode prog_6_method_6_code 84 = .ok (.lor, 1) := by decide +kernel
theorem d4_85 : decode prog_6_method_6_code 85 = .ok (.lastore, 1) := by decide +kernel
theorem d4_86 : decode prog_6_method_6_code 86 = .ok (.iinc 2 1, 3) := by decide +kernel
theorem d4_89 : decode prog_6_method_6_code 89 = .ok (.goto (-57), 3) := by decide +kernel
theorem d4_92 : decode prog_6_method_6_code 92 = .ok (.return_, 1) := by decide +kernel
theorem pn_rmF : plainName "com/example/phase7/phase7/metadata/FieldSet" = true := by first | (simp [plainName, overriddenIn]; done) | decide +kernel
theorem ef_rmF (m : MethodId) (a1 : Addr) (c1 : Int32) : entryFrame m #[(.ref a1), (.int c1)] 4 = mkF m 0 #[.val (.ref a1), .val (.int c1), .unset, .unset] [] := by first | (simp [entryFrame, mkF, argsToLocals, Value.category]; done) | rfl
set_option maxRecDepth 65536 in
set_option maxHeartbeats 40000000 in
theorem rmF (l : Launch) (Z : State) (a0 : Array Value) (hw : ∀ d ∈ tables_1, d.before a0 Z = true) (ws : List Jvm.Cond) (a1 b : Addr) (kb : ClassId) (c1 z1 : Int32) (v0 v1 v2 v3 u0 u1 u2 u3 : Int64) (h0 : Heap) (n0 : Nat) (Z0 : n0 ≤ h0.size) (E_a1 : Exa Z h0 a1 "com/example/phase7/phase7/metadata/FieldSet") (F_f : Fld Z h0 a1 "com/example/phase7/phase7/metadata/FieldSet" "first" "J" (.long v0)) (F_g : Fld Z h0 a1 "com/example/phase7/phase7/metadata/FieldSet" "further" "[J" (.ref b)) (V_b : Arv Z h0 b kb .long z1 [(.long v1), (.long v2), (.long v3)] (.long (0 : Int64))) (hne : a1 ≠ b) (rz : z1 = 0 ∨ z1 = 1 ∨ z1 = 2 ∨ z1 = 3) (hc0 : 0 ≤ c1.toInt) (hbz : (z1.toInt < 1 → (c1 - (64 : Int32)).toInt ≤ 0) ∧ (z1.toInt < 2 → (c1 - (128 : Int32)).toInt ≤ 0) ∧ (z1.toInt < 3 → (c1 - (192 : Int32)).toInt ≤ 0)) (g_a1 : n0 ≤ a1) (gz : ¬ z1 = 0 → n0 ≤ b) (hu0 : u0 = own_up c1 v0) (hu1 : u1 = own_up (c1 - (64 : Int32)) v1) (hu2 : u2 = own_up (c1 - (128 : Int32)) v2) (hu3 : u3 = own_up (c1 - (192 : Int32)) v3) :
    MetFree l (⟨"com/example/phase7/phase7/metadata/FieldSet", "addFirst", "(I)V"⟩ : MethodName) (head1 (Jvm.Cond.code (⟨"com/example/phase7/phase7/metadata/FieldSet", "addFirst", "(I)V"⟩ : MethodName) prog_6_method_6_code 4 none :: ws) ({ frames := 0, cells := 0, slots := 0, locals := 0 } : Room)) (fun a U => a = #[(.ref a1), (.int c1)] ∧ Z.Warmed39 U.vm ∧ U.heap = h0) (fun _ _ _ _ _ => True) (fun _ U o U' => ∃ v L, o = .returned v ∧ QA Z a1 b kb z1 u0 u1 u2 u3 h0 n0 v U'.heap L ∧ FrameEnd U o U' L ({ frames := 0, cells := 0, slots := 0, locals := 0 } : Room).cells ({ frames := 0, cells := 0, slots := 0, locals := 0 } : Room).slots) := by
  refine MetFree.of_bodySF (plainFor_of_name pn_rmF) hisR ?_
  intro p e s m args below meth c s₁ Bd hml0 hP hK
  obtain ⟨rfl, hZ, hh⟩ := hP
  have hx := Bd.exec
  have hby := Bd.bytes
  have hml : c.maxLocals = 4 := hml0
  have hown : s.vm.findClass "com/example/phase7/phase7/metadata/FieldSet" = some m.cls := findClass_of_methodNamed Bd.named
  have hnm := (name_of_methodNamed Bd.named Bd.method).1
  have X0 : Stand p l e ({ frames := 0, cells := 0, slots := 0, locals := 0 } : Room) s m #[(.ref a1), (.int c1)] below meth c s₁ [] 0 0 := Stand.of_body Bd
  have e0 : s₁.heap = h0 := by rw [← hh, Bd.state]; rfl
  have N0 := Fr.nil n0
  have pre0 : ∀ tt, Steps p.tables e below (s₁.setTop (mkF m 0 #[.val (.ref a1), .val (.int c1), .unset, .unset] [])) tt → Steps p.tables e below (s₁.setTop (entryFrame m #[(.ref a1), (.int c1)] 4)) tt := fun tt kt => castTop (ef_rmF m a1 c1) kt
  rcases rz with rfl | rfl | rfl | rfl
  · have hz0 := hbz
    obtain ⟨T1, L1, N1, X1, ⟨K1, Ea1, Ff1, Fg1, Vb1⟩, st1⟩ : ∃ (T' : State) (L' : List Loc), Fr n0 L' ∧ Stand p l e ({ frames := 0, cells := 0, slots := 0, locals := 0 } : Room) s m #[(.ref a1), (.int c1)] below meth c T' L' 0 0 ∧ (Keep h0 T'.heap [a1, b] ∧ Exa Z T'.heap a1 "com/example/phase7/phase7/metadata/FieldSet" ∧ Fld Z T'.heap a1 "com/example/phase7/phase7/metadata/FieldSet" "first" "J" (.long u0) ∧ Fld Z T'.heap a1 "com/example/phase7/phase7/metadata/FieldSet" "further" "[J" (.ref b) ∧ Arv Z T'.heap b kb .long (0 : Int32) [(.long v1), (.long v2), (.long v3)] (.long (0 : Int64))) ∧ ∀ tt, Steps p.tables e below (T'.setTop (mkF m 30 #[.val (.ref a1), .val (.int c1), .unset, .unset] [])) tt → Steps p.tables e below (s₁.setTop (mkF m 0 #[.val (.ref a1), .val (.int c1), .unset, .unset] [])) tt := by
      have pid1 : ∀ tt, Steps p.tables e below (s₁.setTop (mkF m 0 #[.val (.ref a1), .val (.int c1), .unset, .unset] [])) tt → Steps p.tables e below (s₁.setTop (mkF m 0 #[.val (.ref a1), .val (.int c1), .unset, .unset] [])) tt := fun tt kt => kt
      have pre2 : ∀ tt, Steps p.tables e below (s₁.setTop (mkF m 3 #[.val (.ref a1), .val (.int c1), .unset, .unset] [(.int (64 : Int32)), (.int c1)])) tt → Steps p.tables e below (s₁.setTop (mkF m 0 #[.val (.ref a1), .val (.int c1), .unset, .unset] [])) tt := by
        intro tt kt
        refine pid1 tt ?_
        show Steps p.tables e below (s₁.setTop (mkF m 0 #[.val (.ref a1), .val (.int c1), .unset, .unset] [])) _
        refine XS.iloadN X0.here hx rfl (hb hby d4_0) rfl ?_
        show Steps p.tables e below (s₁.setTop (mkF m 1 #[.val (.ref a1), .val (.int c1), .unset, .unset] [(.int c1)])) _
        refine XS.bipush X0.here hx rfl (hb hby d4_1) ?_
        exact kt
      by_cases c3_3 : c1 < (64 : Int32)
      · obtain ⟨T4, X4, e4, st4⟩ := getF X0 hx hZ hown (host := "") (Or.inl (hw _ (List.mem_of_getElem? (i := 19) rfl))) Via.refl e0 F_f (g := (mkF m 18 #[.val (.ref a1), .val (.int c1), .unset, .unset] [(.ref a1), (.ref a1)])) rfl rfl (hb hby d4_18)
        obtain ⟨T5, h5, X5, e5, W5, st5⟩ := putF X4 hx hZ hown (host := "") (Or.inl (hw _ (List.mem_of_getElem? (i := 19) rfl))) Via.refl e4 F_f E_a1 (Or.inl (hw _ (List.mem_of_getElem? (i := 20) rfl))) (hw _ (List.mem_of_getElem? (i := 2) rfl)) (ty := .long) (by decide) rfl rfl (g := (mkF m 27 #[.val (.ref a1), .val (.int c1), .unset, .unset] [(.long (v0 ||| (((1 : Int64) <<< (c1 &&& 0x3f).toInt64) - (1 : Int64)))), (.ref a1)])) rfl rfl (hb hby d4_27)
        have Fw5 := Fld.same W5 F_f
        have N5 := Fr.snoc X5 N0 g_a1
        have K5 : Keep h0 h5 [a1, b] := ((Keep.refl h0 [a1, b])).wr W5 (Or.inl (List.mem_of_getElem? (i := 0) rfl))
        have pre6 : ∀ tt, Steps p.tables e below (T5.setTop (mkF m 30 #[.val (.ref a1), .val (.int c1), .unset, .unset] [])) tt → Steps p.tables e below (s₁.setTop (mkF m 0 #[.val (.ref a1), .val (.int c1), .unset, .unset] [])) tt := by
          intro tt kt
          refine pre2 tt ?_
          show Steps p.tables e below (s₁.setTop (mkF m 3 #[.val (.ref a1), .val (.int c1), .unset, .unset] [(.int (64 : Int32)), (.int c1)])) _
          refine XS.icmpYes X0.here hx rfl (pc0 := 3) (pc' := 16) rfl (hb hby d4_3) rfl (tlt c3_3).1 (by decide) (by decide) ?_
          show Steps p.tables e below (s₁.setTop (mkF m 16 #[.val (.ref a1), .val (.int c1), .unset, .unset] [])) _
          refine XS.aloadN X0.here hx rfl (hb hby d4_16) rfl rfl ?_
          show Steps p.tables e below (s₁.setTop (mkF m 17 #[.val (.ref a1), .val (.int c1), .unset, .unset] [(.ref a1)])) _
          refine XS.dup X0.here hx rfl (hb hby d4_17) rfl rfl ?_
          show Steps p.tables e below (s₁.setTop (mkF m 18 #[.val (.ref a1), .val (.int c1), .unset, .unset] [(.ref a1), (.ref a1)])) _
          refine st4 _ ?_
          show Steps p.tables e below (T4.setTop (mkF m 21 #[.val (.ref a1), .val (.int c1), .unset, .unset] [(.long v0), (.ref a1)])) _
          refine XS.lconst X4.here hx rfl (hb hby d4_21) ?_
          show Steps p.tables e below (T4.setTop (mkF m 22 #[.val (.ref a1), .val (.int c1), .unset, .unset] [(.long (1 : Int64)), (.long v0), (.ref a1)])) _
          refine XS.iloadN X4.here hx rfl (hb hby d4_22) rfl ?_
          show Steps p.tables e below (T4.setTop (mkF m 23 #[.val (.ref a1), .val (.int c1), .unset, .unset] [(.int c1), (.long (1 : Int64)), (.long v0), (.ref a1)])) _
          refine XS.lshl X4.here hx rfl (hb hby d4_23) rfl ?_
          show Steps p.tables e below (T4.setTop (mkF m 24 #[.val (.ref a1), .val (.int c1), .unset, .unset] [(.long ((1 : Int64) <<< (c1 &&& 0x3f).toInt64)), (.long v0), (.ref a1)])) _
          refine XS.lconst X4.here hx rfl (hb hby d4_24) ?_
          show Steps p.tables e below (T4.setTop (mkF m 25 #[.val (.ref a1), .val (.int c1), .unset, .unset] [(.long (1 : Int64)), (.long ((1 : Int64) <<< (c1 &&& 0x3f).toInt64)), (.long v0), (.ref a1)])) _
          refine XS.lsub X4.here hx rfl (hb hby d4_25) rfl ?_
          show Steps p.tables e below (T4.setTop (mkF m 26 #[.val (.ref a1), .val (.int c1), .unset, .unset] [(.long (((1 : Int64) <<< (c1 &&& 0x3f).toInt64) - (1 : Int64))), (.long v0), (.ref a1)])) _
          refine XS.lor X4.here hx rfl (hb hby d4_26) rfl ?_
          show Steps p.tables e below (T4.setTop (mkF m 27 #[.val (.ref a1), .val (.int c1), .unset, .unset] [(.long (v0 ||| (((1 : Int64) <<< (c1 &&& 0x3f).toInt64) - (1 : Int64)))), (.ref a1)])) _
          refine st5 _ ?_
          exact kt
        refine ⟨T5, _, N5, X5, (by rw [e5, hu0, own_up0 hc0 c3_3]; exact ⟨K5, (Exa.wr W5 E_a1), Fw5, (Fld.other W5 F_g (Or.inr (slot_ne (Or.inr (hw _ (List.mem_of_getElem? (i := 13) rfl))) (Or.inl (hw _ (List.mem_of_getElem? (i := 20) rfl))) (by decide) (t := (.array .long)) (t' := .long) (by decide) (by decide)))), (V_b.other W5 (Ne.symm hne))⟩), fun tt kt => pre6 tt ?_⟩
        exact kt
      · obtain ⟨T7, h7, X7, e7, W7, st7⟩ := putF X0 hx hZ hown (host := "") (Or.inl (hw _ (List.mem_of_getElem? (i := 19) rfl))) Via.refl e0 F_f E_a1 (Or.inl (hw _ (List.mem_of_getElem? (i := 20) rfl))) (hw _ (List.mem_of_getElem? (i := 2) rfl)) (ty := .long) (by decide) rfl rfl (g := (mkF m 10 #[.val (.ref a1), .val (.int c1), .unset, .unset] [(.long (-1 : Int64)), (.ref a1)])) rfl rfl (hb hby d4_10)
        have Fw7 := Fld.same W7 F_f
        have N7 := Fr.snoc X7 N0 g_a1
        have K7 : Keep h0 h7 [a1, b] := ((Keep.refl h0 [a1, b])).wr W7 (Or.inl (List.mem_of_getElem? (i := 0) rfl))
        have pre8 : ∀ tt, Steps p.tables e below (T7.setTop (mkF m 30 #[.val (.ref a1), .val (.int c1), .unset, .unset] [])) tt → Steps p.tables e below (s₁.setTop (mkF m 0 #[.val (.ref a1), .val (.int c1), .unset, .unset] [])) tt := by
          intro tt kt
          refine pre2 tt ?_
          show Steps p.tables e below (s₁.setTop (mkF m 3 #[.val (.ref a1), .val (.int c1), .unset, .unset] [(.int (64 : Int32)), (.int c1)])) _
          refine XS.icmpNo X0.here hx rfl (hb hby d4_3) rfl (flt c3_3).1 ?_
          show Steps p.tables e below (s₁.setTop (mkF m 6 #[.val (.ref a1), .val (.int c1), .unset, .unset] [])) _
          refine XS.aloadN X0.here hx rfl (hb hby d4_6) rfl rfl ?_
          show Steps p.tables e below (s₁.setTop (mkF m 7 #[.val (.ref a1), .val (.int c1), .unset, .unset] [(.ref a1)])) _
          refine X0.ldc2Long hx hown (mvT hZ (hw _ (List.mem_of_getElem? (i := 44) rfl))) (g := (mkF m 7 #[.val (.ref a1), .val (.int c1), .unset, .unset] [(.ref a1)])) rfl (hb hby d4_7) _ ?_
          show Steps p.tables e below (s₁.setTop (mkF m 10 #[.val (.ref a1), .val (.int c1), .unset, .unset] [(.long (-1 : Int64)), (.ref a1)])) _
          refine st7 _ ?_
          show Steps p.tables e below (T7.setTop (mkF m 13 #[.val (.ref a1), .val (.int c1), .unset, .unset] [])) _
          refine XS.goto X7.here hx rfl (pc0 := 13) (pc' := 30) rfl (hb hby d4_13) (by decide) (by decide) ?_
          exact kt
        refine ⟨T7, _, N7, X7, (by rw [e7, hu0, own_upC c3_3]; exact ⟨K7, (Exa.wr W7 E_a1), Fw7, (Fld.other W7 F_g (Or.inr (slot_ne (Or.inr (hw _ (List.mem_of_getElem? (i := 13) rfl))) (Or.inl (hw _ (List.mem_of_getElem? (i := 20) rfl))) (by decide) (t := (.array .long)) (t' := .long) (by decide) (by decide)))), (V_b.other W7 (Ne.symm hne))⟩), fun tt kt => pre8 tt ?_⟩
        exact kt
    have pre9 : ∀ tt, Steps p.tables e below (T1.setTop (mkF m 30 #[.val (.ref a1), .val (.int c1), .unset, .unset] [])) tt → Steps p.tables e below (s₁.setTop (entryFrame m #[(.ref a1), (.int c1)] 4)) tt := by
      intro tt kt
      refine pre0 tt ?_
      show Steps p.tables e below (s₁.setTop (mkF m 0 #[.val (.ref a1), .val (.int c1), .unset, .unset] [])) _
      refine st1 _ ?_
      exact kt
    obtain ⟨T10, X10, e10, st10⟩ := getF X1 hx hZ hown (host := "") (Or.inl (hw _ (List.mem_of_getElem? (i := 12) rfl))) Via.refl rfl Fg1 (g := (mkF m 34 #[.val (.ref a1), .val (.int c1), .val (.int (0 : Int32)), .unset] [(.ref a1), (.int (0 : Int32))])) rfl rfl (hb hby d4_34)
    have VO11 := Vb1
    obtain ⟨cl11, Ar11, q11, S11, M11, H11, G11⟩ := VO11
    have pre12 : ∀ tt, Steps p.tables e below (T10.setTop (mkF m 92 #[.val (.ref a1), .val (.int c1), .val (.int (0 : Int32)), .unset] [])) tt → Steps p.tables e below (s₁.setTop (entryFrame m #[(.ref a1), (.int c1)] 4)) tt := by
      intro tt kt
      refine pre9 tt ?_
      show Steps p.tables e below (T1.setTop (mkF m 30 #[.val (.ref a1), .val (.int c1), .unset, .unset] [])) _
      refine XS.iconst X1.here hx rfl (hb hby d4_30) ?_
      show Steps p.tables e below (T1.setTop (mkF m 31 #[.val (.ref a1), .val (.int c1), .unset, .unset] [(.int (0 : Int32))])) _
      refine XS.istoreN X1.here hx rfl (hb hby d4_31) rfl (l' := #[.val (.ref a1), .val (.int c1), .val (.int (0 : Int32)), .unset]) rfl ?_
      show Steps p.tables e below (T1.setTop (mkF m 32 #[.val (.ref a1), .val (.int c1), .val (.int (0 : Int32)), .unset] [])) _
      refine XS.iloadN X1.here hx rfl (hb hby d4_32) rfl ?_
      show Steps p.tables e below (T1.setTop (mkF m 33 #[.val (.ref a1), .val (.int c1), .val (.int (0 : Int32)), .unset] [(.int (0 : Int32))])) _
      refine XS.aloadN X1.here hx rfl (hb hby d4_33) rfl rfl ?_
      show Steps p.tables e below (T1.setTop (mkF m 34 #[.val (.ref a1), .val (.int c1), .val (.int (0 : Int32)), .unset] [(.ref a1), (.int (0 : Int32))])) _
      refine st10 _ ?_
      show Steps p.tables e below (T10.setTop (mkF m 37 #[.val (.ref a1), .val (.int c1), .val (.int (0 : Int32)), .unset] [(.ref b), (.int (0 : Int32))])) _
      refine X10.arraylength hx (by rw [e10]; exact Ar11.1) (State.isArrayOf_alike hZ.alike Ar11.2.1) (g := (mkF m 37 #[.val (.ref a1), .val (.int c1), .val (.int (0 : Int32)), .unset] [(.ref b), (.int (0 : Int32))])) rfl rfl (hb hby d4_37) _ ?_
      rw [len_of S11 M11]
      show Steps p.tables e below (T10.setTop (mkF m 38 #[.val (.ref a1), .val (.int c1), .val (.int (0 : Int32)), .unset] [(.int (0 : Int32)), (.int (0 : Int32))])) _
      refine XS.icmpYes X10.here hx rfl (pc0 := 38) (pc' := 92) rfl (hb hby d4_38) rfl (flt (by decide : ¬ ((0 : Int32) < (0 : Int32)))).2.1 (by decide) (by decide) ?_
      exact kt
    obtain ⟨fs, hr, hrun, hended, hW, hsame⟩ := X10.leave (v := none) (fun _ => rfl)
    refine ⟨_, _, pre12 _ ?_, hrun, hended, _, _, rfl, ?_, ⟨_, rfl⟩, hW, hsame.mono (by decide) (by decide)⟩
    · show Steps p.tables e below (T10.setTop (mkF m 92 #[.val (.ref a1), .val (.int c1), .val (.int (0 : Int32)), .unset] [])) _
      exact X10.returnOut hx Bd.returns (hb hby d4_92) hr
    · show QA Z a1 b kb (0 : Int32) u0 u1 u2 u3 h0 n0 _ T10.heap _
      rw [e10]
      rw [hu1, own_upZ (hbz.1 (by decide)), hu2, own_upZ (hbz.2.1 (by decide)), hu3, own_upZ (hbz.2.2 (by decide))]
      exact ⟨rfl, N1, K1, Ea1, Ff1, Fg1, Vb1⟩
  · have hz1 := hbz
    have g_b : n0 ≤ b := gz (by decide)
    obtain ⟨T13, L13, N13, X13, ⟨K13, Ea13, Ff13, Fg13, Vb13⟩, st13⟩ : ∃ (T' : State) (L' : List Loc), Fr n0 L' ∧ Stand p l e ({ frames := 0, cells := 0, slots := 0, locals := 0 } : Room) s m #[(.ref a1), (.int c1)] below meth c T' L' 0 0 ∧ (Keep h0 T'.heap [a1, b] ∧ Exa Z T'.heap a1 "com/example/phase7/phase7/metadata/FieldSet" ∧ Fld Z T'.heap a1 "com/example/phase7/phase7/metadata/FieldSet" "first" "J" (.long u0) ∧ Fld Z T'.heap a1 "com/example/phase7/phase7/metadata/FieldSet" "further" "[J" (.ref b) ∧ Arv Z T'.heap b kb .long (1 : Int32) [(.long v1), (.long v2), (.long v3)] (.long (0 : Int64))) ∧ ∀ tt, Steps p.tables e below (T'.setTop (mkF m 30 #[.val (.ref a1), .val (.int c1), .unset, .unset] [])) tt → Steps p.tables e below (s₁.setTop (mkF m 0 #[.val (.ref a1), .val (.int c1), .unset, .unset] [])) tt := by
      have pid13 : ∀ tt, Steps p.tables e below (s₁.setTop (mkF m 0 #[.val (.ref a1), .val (.int c1), .unset, .unset] [])) tt → Steps p.tables e below (s₁.setTop (mkF m 0 #[.val (.ref a1), .val (.int c1), .unset, .unset] [])) tt := fun tt kt => kt
      have pre14 : ∀ tt, Steps p.tables e below (s₁.setTop (mkF m 3 #[.val (.ref a1), .val (.int c1), .unset, .unset] [(.int (64 : Int32)), (.int c1)])) tt → Steps p.tables e below (s₁.setTop (mkF m 0 #[.val (.ref a1), .val (.int c1), .unset, .unset] [])) tt := by
        intro tt kt
        refine pid13 tt ?_
        show Steps p.tables e below (s₁.setTop (mkF m 0 #[.val (.ref a1), .val (.int c1), .unset, .unset] [])) _
        refine XS.iloadN X0.here hx rfl (hb hby d4_0) rfl ?_
        show Steps p.tables e below (s₁.setTop (mkF m 1 #[.val (.ref a1), .val (.int c1), .unset, .unset] [(.int c1)])) _
        refine XS.bipush X0.here hx rfl (hb hby d4_1) ?_
        exact kt
      by_cases c3_15 : c1 < (64 : Int32)
      · obtain ⟨T16, X16, e16, st16⟩ := getF X0 hx hZ hown (host := "") (Or.inl (hw _ (List.mem_of_getElem? (i := 19) rfl))) Via.refl e0 F_f (g := (mkF m 18 #[.val (.ref a1), .val (.int c1), .unset, .unset] [(.ref a1), (.ref a1)])) rfl rfl (hb hby d4_18)
        obtain ⟨T17, h17, X17, e17, W17, st17⟩ := putF X16 hx hZ hown (host := "") (Or.inl (hw _ (List.mem_of_getElem? (i := 19) rfl))) Via.refl e16 F_f E_a1 (Or.inl (hw _ (List.mem_of_getElem? (i := 20) rfl))) (hw _ (List.mem_of_getElem? (i := 2) rfl)) (ty := .long) (by decide) rfl rfl (g := (mkF m 27 #[.val (.ref a1), .val (.int c1), .unset, .unset] [(.long (v0 ||| (((1 : Int64) <<< (c1 &&& 0x3f).toInt64) - (1 : Int64)))), (.ref a1)])) rfl rfl (hb hby d4_27)
        have Fw17 := Fld.same W17 F_f
        have N17 := Fr.snoc X17 N0 g_a1
        have K17 : Keep h0 h17 [a1, b] := ((Keep.refl h0 [a1, b])).wr W17 (Or.inl (List.mem_of_getElem? (i := 0) rfl))
        have pre18 : ∀ tt, Steps p.tables e below (T17.setTop (mkF m 30 #[.val (.ref a1), .val (.int c1), .unset, .unset] [])) tt → Steps p.tables e below (s₁.setTop (mkF m 0 #[.val (.ref a1), .val (.int c1), .unset, .unset] [])) tt := by
          intro tt kt
          refine pre14 tt ?_
          show Steps p.tables e below (s₁.setTop (mkF m 3 #[.val (.ref a1), .val (.int c1), .unset, .unset] [(.int (64 : Int32)), (.int c1)])) _
          refine XS.icmpYes X0.here hx rfl (pc0 := 3) (pc' := 16) rfl (hb hby d4_3) rfl (tlt c3_15).1 (by decide) (by decide) ?_
          show Steps p.tables e below (s₁.setTop (mkF m 16 #[.val (.ref a1), .val (.int c1), .unset, .unset] [])) _
          refine XS.aloadN X0.here hx rfl (hb hby d4_16) rfl rfl ?_
          show Steps p.tables e below (s₁.setTop (mkF m 17 #[.val (.ref a1), .val (.int c1), .unset, .unset] [(.ref a1)])) _
          refine XS.dup X0.here hx rfl (hb hby d4_17) rfl rfl ?_
          show Steps p.tables e below (s₁.setTop (mkF m 18 #[.val (.ref a1), .val (.int c1), .unset, .unset] [(.ref a1), (.ref a1)])) _
          refine st16 _ ?_
          show Steps p.tables e below (T16.setTop (mkF m 21 #[.val (.ref a1), .val (.int c1), .unset, .unset] [(.long v0), (.ref a1)])) _
          refine XS.lconst X16.here hx rfl (hb hby d4_21) ?_
          show Steps p.tables e below (T16.setTop (mkF m 22 #[.val (.ref a1), .val (.int c1), .unset, .unset] [(.long (1 : Int64)), (.long v0), (.ref a1)])) _
          refine XS.iloadN X16.here hx rfl (hb hby d4_22) rfl ?_
          show Steps p.tables e below (T16.setTop (mkF m 23 #[.val (.ref a1), .val (.int c1), .unset, .unset] [(.int c1), (.long (1 : Int64)), (.long v0), (.ref a1)])) _
          refine XS.lshl X16.here hx rfl (hb hby d4_23) rfl ?_
          show Steps p.tables e below (T16.setTop (mkF m 24 #[.val (.ref a1), .val (.int c1), .unset, .unset] [(.long ((1 : Int64) <<< (c1 &&& 0x3f).toInt64)), (.long v0), (.ref a1)])) _
          refine XS.lconst X16.here hx rfl (hb hby d4_24) ?_
          show Steps p.tables e below (T16.setTop (mkF m 25 #[.val (.ref a1), .val (.int c1), .unset, .unset] [(.long (1 : Int64)), (.long ((1 : Int64) <<< (c1 &&& 0x3f).toInt64)), (.long v0), (.ref a1)])) _
          refine XS.lsub X16.here hx rfl (hb hby d4_25) rfl ?_
          show Steps p.tables e below (T16.setTop (mkF m 26 #[.val (.ref a1), .val (.int c1), .unset, .unset] [(.long (((1 : Int64) <<< (c1 &&& 0x3f).toInt64) - (1 : Int64))), (.long v0), (.ref a1)])) _
          refine XS.lor X16.here hx rfl (hb hby d4_26) rfl ?_
          show Steps p.tables e below (T16.setTop (mkF m 27 #[.val (.ref a1), .val (.int c1), .unset, .unset] [(.long (v0 ||| (((1 : Int64) <<< (c1 &&& 0x3f).toInt64) - (1 : Int64)))), (.ref a1)])) _
          refine st17 _ ?_
          exact kt
        refine ⟨T17, _, N17, X17, (by rw [e17, hu0, own_up0 hc0 c3_15]; exact ⟨K17, (Exa.wr W17 E_a1), Fw17, (Fld.other W17 F_g (Or.inr (slot_ne (Or.inr (hw _ (List.mem_of_getElem? (i := 13) rfl))) (Or.inl (hw _ (List.mem_of_getElem? (i := 20) rfl))) (by decide) (t := (.array .long)) (t' := .long) (by decide) (by decide)))), (V_b.other W17 (Ne.symm hne))⟩), fun tt kt => pre18 tt ?_⟩
        exact kt
      · obtain ⟨T19, h19, X19, e19, W19, st19⟩ := putF X0 hx hZ hown (host := "") (Or.inl (hw _ (List.mem_of_getElem? (i := 19) rfl))) Via.refl e0 F_f E_a1 (Or.inl (hw _ (List.mem_of_getElem? (i := 20) rfl))) (hw _ (List.mem_of_getElem? (i := 2) rfl)) (ty := .long) (by decide) rfl rfl (g := (mkF m 10 #[.val (.ref a1), .val (.int c1), .unset, .unset] [(.long (-1 : Int64)), (.ref a1)])) rfl rfl (hb hby d4_10)
        have Fw19 := Fld.same W19 F_f
        have N19 := Fr.snoc X19 N0 g_a1
        have K19 : Keep h0 h19 [a1, b] := ((Keep.refl h0 [a1, b])).wr W19 (Or.inl (List.mem_of_getElem? (i := 0) rfl))
        have pre20 : ∀ tt, Steps p.tables e below (T19.setTop (mkF m 30 #[.val (.ref a1), .val (.int c1), .unset, .unset] [])) tt → Steps p.tables e below (s₁.setTop (mkF m 0 #[.val (.ref a1), .val (.int c1), .unset, .unset] [])) tt := by
          intro tt kt
          refine pre14 tt ?_
          show Steps p.tables e below (s₁.setTop (mkF m 3 #[.val (.ref a1), .val (.int c1), .unset, .unset] [(.int (64 : Int32)), (.int c1)])) _
          refine XS.icmpNo X0.here hx rfl (hb hby d4_3) rfl (flt c3_15).1 ?_
          show Steps p.tables e below (s₁.setTop (mkF m 6 #[.val (.ref a1), .val (.int c1), .unset, .unset] [])) _
          refine XS.aloadN X0.here hx rfl (hb hby d4_6) rfl rfl ?_
          show Steps p.tables e below (s₁.setTop (mkF m 7 #[.val (.ref a1), .val (.int c1), .unset, .unset] [(.ref a1)])) _
          refine X0.ldc2Long hx hown (mvT hZ (hw _ (List.mem_of_getElem? (i := 44) rfl))) (g := (mkF m 7 #[.val (.ref a1), .val (.int c1), .unset, .unset] [(.ref a1)])) rfl (hb hby d4_7) _ ?_
          show Steps p.tables e below (s₁.setTop (mkF m 10 #[.val (.ref a1), .val (.int c1), .unset, .unset] [(.long (-1 : Int64)), (.ref a1)])) _
          refine st19 _ ?_
          show Steps p.tables e below (T19.setTop (mkF m 13 #[.val (.ref a1), .val (.int c1), .unset, .unset] [])) _
          refine XS.goto X19.here hx rfl (pc0 := 13) (pc' := 30) rfl (hb hby d4_13) (by decide) (by decide) ?_
          exact kt
        refine ⟨T19, _, N19, X19, (by rw [e19, hu0, own_upC c3_15]; exact ⟨K19, (Exa.wr W19 E_a1), Fw19, (Fld.other W19 F_g (Or.inr (slot_ne (Or.inr (hw _ (List.mem_of_getElem? (i := 13) rfl))) (Or.inl (hw _ (List.mem_of_getElem? (i := 20) rfl))) (by decide) (t := (.array .long)) (t' := .long) (by decide) (by decide)))), (V_b.other W19 (Ne.symm hne))⟩), fun tt kt => pre20 tt ?_⟩
        exact kt
    have pre21 : ∀ tt, Steps p.tables e below (T13.setTop (mkF m 30 #[.val (.ref a1), .val (.int c1), .unset, .unset] [])) tt → Steps p.tables e below (s₁.setTop (entryFrame m #[(.ref a1), (.int c1)] 4)) tt := by
      intro tt kt
      refine pre0 tt ?_
      show Steps p.tables e below (s₁.setTop (mkF m 0 #[.val (.ref a1), .val (.int c1), .unset, .unset] [])) _
      refine st13 _ ?_
      exact kt
    have pre22 : ∀ tt, Steps p.tables e below (T13.setTop (mkF m 32 #[.val (.ref a1), .val (.int c1), .val (.int (0 : Int32)), .unset] [])) tt → Steps p.tables e below (s₁.setTop (entryFrame m #[(.ref a1), (.int c1)] 4)) tt := by
      intro tt kt
      refine pre21 tt ?_
      show Steps p.tables e below (T13.setTop (mkF m 30 #[.val (.ref a1), .val (.int c1), .unset, .unset] [])) _
      refine XS.iconst X13.here hx rfl (hb hby d4_30) ?_
      show Steps p.tables e below (T13.setTop (mkF m 31 #[.val (.ref a1), .val (.int c1), .unset, .unset] [(.int (0 : Int32))])) _
      refine XS.istoreN X13.here hx rfl (hb hby d4_31) rfl (l' := #[.val (.ref a1), .val (.int c1), .val (.int (0 : Int32)), .unset]) rfl ?_
      exact kt
    obtain ⟨T23, L23, N23, X23, ⟨K23, Ea23, Ff23, Fg23, Vb23⟩, st23⟩ : ∃ (T' : State) (L' : List Loc), Fr n0 L' ∧ Stand p l e ({ frames := 0, cells := 0, slots := 0, locals := 0 } : Room) s m #[(.ref a1), (.int c1)] below meth c T' L' 0 0 ∧ (Keep h0 T'.heap [a1, b] ∧ Exa Z T'.heap a1 "com/example/phase7/phase7/metadata/FieldSet" ∧ Fld Z T'.heap a1 "com/example/phase7/phase7/metadata/FieldSet" "first" "J" (.long u0) ∧ Fld Z T'.heap a1 "com/example/phase7/phase7/metadata/FieldSet" "further" "[J" (.ref b) ∧ Arv Z T'.heap b kb .long (1 : Int32) [(.long u1), (.long v2), (.long v3)] (.long (0 : Int64))) ∧ ∀ tt, Steps p.tables e below (T'.setTop (mkF m 32 #[.val (.ref a1), .val (.int c1), .val (.int (1 : Int32)), .val (.int (c1 - (64 : Int32)))] [])) tt → Steps p.tables e below (T13.setTop (mkF m 32 #[.val (.ref a1), .val (.int c1), .val (.int (0 : Int32)), .unset] [])) tt := by
      have pid23 : ∀ tt, Steps p.tables e below (T13.setTop (mkF m 32 #[.val (.ref a1), .val (.int c1), .val (.int (0 : Int32)), .unset] [])) tt → Steps p.tables e below (T13.setTop (mkF m 32 #[.val (.ref a1), .val (.int c1), .val (.int (0 : Int32)), .unset] [])) tt := fun tt kt => kt
      obtain ⟨T24, X24, e24, st24⟩ := getF X13 hx hZ hown (host := "") (Or.inl (hw _ (List.mem_of_getElem? (i := 12) rfl))) Via.refl rfl Fg13 (g := (mkF m 34 #[.val (.ref a1), .val (.int c1), .val (.int (0 : Int32)), .unset] [(.ref a1), (.int (0 : Int32))])) rfl rfl (hb hby d4_34)
      have VO25 := Vb13
      obtain ⟨cl25, Ar25, q25, S25, M25, H25, G25⟩ := VO25
      have pre26 : ∀ tt, Steps p.tables e below (T24.setTop (mkF m 53 #[.val (.ref a1), .val (.int c1), .val (.int (0 : Int32)), .val (.int (c1 - (64 : Int32)))] [(.int (64 : Int32)), (.int (c1 - (64 : Int32)))])) tt → Steps p.tables e below (T13.setTop (mkF m 32 #[.val (.ref a1), .val (.int c1), .val (.int (0 : Int32)), .unset] [])) tt := by
        intro tt kt
        refine pid23 tt ?_
        show Steps p.tables e below (T13.setTop (mkF m 32 #[.val (.ref a1), .val (.int c1), .val (.int (0 : Int32)), .unset] [])) _
        refine XS.iloadN X13.here hx rfl (hb hby d4_32) rfl ?_
        show Steps p.tables e below (T13.setTop (mkF m 33 #[.val (.ref a1), .val (.int c1), .val (.int (0 : Int32)), .unset] [(.int (0 : Int32))])) _
        refine XS.aloadN X13.here hx rfl (hb hby d4_33) rfl rfl ?_
        show Steps p.tables e below (T13.setTop (mkF m 34 #[.val (.ref a1), .val (.int c1), .val (.int (0 : Int32)), .unset] [(.ref a1), (.int (0 : Int32))])) _
        refine st24 _ ?_
        show Steps p.tables e below (T24.setTop (mkF m 37 #[.val (.ref a1), .val (.int c1), .val (.int (0 : Int32)), .unset] [(.ref b), (.int (0 : Int32))])) _
        refine X24.arraylength hx (by rw [e24]; exact Ar25.1) (State.isArrayOf_alike hZ.alike Ar25.2.1) (g := (mkF m 37 #[.val (.ref a1), .val (.int c1), .val (.int (0 : Int32)), .unset] [(.ref b), (.int (0 : Int32))])) rfl rfl (hb hby d4_37) _ ?_
        rw [len_of S25 M25]
        show Steps p.tables e below (T24.setTop (mkF m 38 #[.val (.ref a1), .val (.int c1), .val (.int (0 : Int32)), .unset] [(.int (1 : Int32)), (.int (0 : Int32))])) _
        refine XS.icmpNo X24.here hx rfl (hb hby d4_38) rfl (tlt (by decide : (0 : Int32) < (1 : Int32))).2.1 ?_
        show Steps p.tables e below (T24.setTop (mkF m 41 #[.val (.ref a1), .val (.int c1), .val (.int (0 : Int32)), .unset] [])) _
        refine XS.iloadN X24.here hx rfl (hb hby d4_41) rfl ?_
        show Steps p.tables e below (T24.setTop (mkF m 42 #[.val (.ref a1), .val (.int c1), .val (.int (0 : Int32)), .unset] [(.int c1)])) _
        refine XS.iloadN X24.here hx rfl (hb hby d4_42) rfl ?_
        show Steps p.tables e below (T24.setTop (mkF m 43 #[.val (.ref a1), .val (.int c1), .val (.int (0 : Int32)), .unset] [(.int (0 : Int32)), (.int c1)])) _
        refine XS.iconst X24.here hx rfl (hb hby d4_43) ?_
        show Steps p.tables e below (T24.setTop (mkF m 44 #[.val (.ref a1), .val (.int c1), .val (.int (0 : Int32)), .unset] [(.int (1 : Int32)), (.int (0 : Int32)), (.int c1)])) _
        refine XS.iadd X24.here hx rfl (hb hby d4_44) rfl ?_
        show Steps p.tables e below (T24.setTop (mkF m 45 #[.val (.ref a1), .val (.int c1), .val (.int (0 : Int32)), .unset] [(.int (1 : Int32)), (.int c1)])) _
        refine XS.bipush X24.here hx rfl (hb hby d4_45) ?_
        show Steps p.tables e below (T24.setTop (mkF m 47 #[.val (.ref a1), .val (.int c1), .val (.int (0 : Int32)), .unset] [(.int (64 : Int32)), (.int (1 : Int32)), (.int c1)])) _
        refine XS.imul X24.here hx rfl (hb hby d4_47) rfl ?_
        show Steps p.tables e below (T24.setTop (mkF m 48 #[.val (.ref a1), .val (.int c1), .val (.int (0 : Int32)), .unset] [(.int (64 : Int32)), (.int c1)])) _
        refine XS.isub X24.here hx rfl (hb hby d4_48) rfl ?_
        show Steps p.tables e below (T24.setTop (mkF m 49 #[.val (.ref a1), .val (.int c1), .val (.int (0 : Int32)), .unset] [(.int (c1 - (64 : Int32)))])) _
        refine XS.istoreN X24.here hx rfl (hb hby d4_49) rfl (l' := #[.val (.ref a1), .val (.int c1), .val (.int (0 : Int32)), .val (.int (c1 - (64 : Int32)))]) rfl ?_
        show Steps p.tables e below (T24.setTop (mkF m 50 #[.val (.ref a1), .val (.int c1), .val (.int (0 : Int32)), .val (.int (c1 - (64 : Int32)))] [])) _
        refine XS.iloadN X24.here hx rfl (hb hby d4_50) rfl ?_
        show Steps p.tables e below (T24.setTop (mkF m 51 #[.val (.ref a1), .val (.int c1), .val (.int (0 : Int32)), .val (.int (c1 - (64 : Int32)))] [(.int (c1 - (64 : Int32)))])) _
        refine XS.bipush X24.here hx rfl (hb hby d4_51) ?_
        exact kt
      by_cases c53_27 : (c1 - (64 : Int32)) < (64 : Int32)
      · have pre28 : ∀ tt, Steps p.tables e below (T24.setTop (mkF m 69 #[.val (.ref a1), .val (.int c1), .val (.int (0 : Int32)), .val (.int (c1 - (64 : Int32)))] [(.int (c1 - (64 : Int32)))])) tt → Steps p.tables e below (T13.setTop (mkF m 32 #[.val (.ref a1), .val (.int c1), .val (.int (0 : Int32)), .unset] [])) tt := by
          intro tt kt
          refine pre26 tt ?_
          show Steps p.tables e below (T24.setTop (mkF m 53 #[.val (.ref a1), .val (.int c1), .val (.int (0 : Int32)), .val (.int (c1 - (64 : Int32)))] [(.int (64 : Int32)), (.int (c1 - (64 : Int32)))])) _
          refine XS.icmpYes X24.here hx rfl (pc0 := 53) (pc' := 68) rfl (hb hby d4_53) rfl (tlt c53_27).1 (by decide) (by decide) ?_
          show Steps p.tables e below (T24.setTop (mkF m 68 #[.val (.ref a1), .val (.int c1), .val (.int (0 : Int32)), .val (.int (c1 - (64 : Int32)))] [])) _
          refine XS.iloadN X24.here hx rfl (hb hby d4_68) rfl ?_
          exact kt
        by_cases c69_29 : (0 : Int32) < (c1 - (64 : Int32))
        · obtain ⟨T30, X30, e30, st30⟩ := getF X24 hx hZ hown (host := "") (Or.inl (hw _ (List.mem_of_getElem? (i := 12) rfl))) Via.refl e24 Fg13 (g := (mkF m 73 #[.val (.ref a1), .val (.int c1), .val (.int (0 : Int32)), .val (.int (c1 - (64 : Int32)))] [(.ref a1)])) rfl rfl (hb hby d4_73)
          have VO31 := Vb13
          obtain ⟨cl31, Ar31, q31, S31, M31, H31, G31⟩ := VO31
          have hin31 : ¬ ((0 : Int32) < 0 ∨ cl31.slots.size ≤ ((0 : Int32)).toNatClampNeg) := inb_of S31 ⟨by decide, by decide⟩
          have hat31 : cl31.slots[((0 : Int32)).toNatClampNeg]? = some (.long v1) := H31.at hin31 rfl
          have VO32 := Vb13
          obtain ⟨cl32, Ar32, q32, S32, M32, H32, G32⟩ := VO32
          have hin32 : ¬ ((0 : Int32) < 0 ∨ cl32.slots.size ≤ ((0 : Int32)).toNatClampNeg) := inb_of S32 ⟨by decide, by decide⟩
          obtain ⟨T33, h33, X33, e33, W33, st33⟩ := stJ X30 hx hZ e30 Ar32 (j := (0 : Int32)) hin32 (g := (mkF m 85 #[.val (.ref a1), .val (.int c1), .val (.int (0 : Int32)), .val (.int (c1 - (64 : Int32)))] [(.long (v1 ||| (((1 : Int64) <<< ((c1 - (64 : Int32)) &&& 0x3f).toInt64) - (1 : Int64)))), (.int (0 : Int32)), (.ref b)])) rfl rfl (hb hby d4_85)
          have N33 := Fr.snoc X33 N13 g_b
          have K33 : Keep h0 h33 [a1, b] := (K13).wr W33 (Or.inl (List.mem_of_getElem? (i := 1) rfl))
          have V33 : Arv Z h33 b kb .long (1 : Int32) [(.long (v1 ||| (((1 : Int64) <<< ((c1 - (64 : Int32)) &&& 0x3f).toInt64) - (1 : Int64)))), (.long v2), (.long v3)] (.long (0 : Int64)) := Arv.set Ar32 q32 S32 M32 H32 G32 rfl W33 0 rfl (Nat.le_of_ble_eq_true rfl)
          have pre34 : ∀ tt, Steps p.tables e below (T33.setTop (mkF m 32 #[.val (.ref a1), .val (.int c1), .val (.int (1 : Int32)), .val (.int (c1 - (64 : Int32)))] [])) tt → Steps p.tables e below (T13.setTop (mkF m 32 #[.val (.ref a1), .val (.int c1), .val (.int (0 : Int32)), .unset] [])) tt := by
            intro tt kt
            refine pre28 tt ?_
            show Steps p.tables e below (T24.setTop (mkF m 69 #[.val (.ref a1), .val (.int c1), .val (.int (0 : Int32)), .val (.int (c1 - (64 : Int32)))] [(.int (c1 - (64 : Int32)))])) _
            refine XS.ifNo X24.here hx rfl (hb hby d4_69) rfl ((if0 _ _).trans (tlt c69_29).2.2.2) ?_
            show Steps p.tables e below (T24.setTop (mkF m 72 #[.val (.ref a1), .val (.int c1), .val (.int (0 : Int32)), .val (.int (c1 - (64 : Int32)))] [])) _
            refine XS.aloadN X24.here hx rfl (hb hby d4_72) rfl rfl ?_
            show Steps p.tables e below (T24.setTop (mkF m 73 #[.val (.ref a1), .val (.int c1), .val (.int (0 : Int32)), .val (.int (c1 - (64 : Int32)))] [(.ref a1)])) _
            refine st30 _ ?_
            show Steps p.tables e below (T30.setTop (mkF m 76 #[.val (.ref a1), .val (.int c1), .val (.int (0 : Int32)), .val (.int (c1 - (64 : Int32)))] [(.ref b)])) _
            refine XS.iloadN X30.here hx rfl (hb hby d4_76) rfl ?_
            show Steps p.tables e below (T30.setTop (mkF m 77 #[.val (.ref a1), .val (.int c1), .val (.int (0 : Int32)), .val (.int (c1 - (64 : Int32)))] [(.int (0 : Int32)), (.ref b)])) _
            refine XT.dup2 X30.here hx rfl (hb hby d4_77) rfl rfl rfl ?_
            show Steps p.tables e below (T30.setTop (mkF m 78 #[.val (.ref a1), .val (.int c1), .val (.int (0 : Int32)), .val (.int (c1 - (64 : Int32)))] [(.int (0 : Int32)), (.ref b), (.int (0 : Int32)), (.ref b)])) _
            refine X30.laload hx (j := (0 : Int32)) (v := (.long v1)) (by rw [e30]; exact Ar31.1) (State.isArrayOf_alike hZ.alike Ar31.2.1) Ar31.2.2 hin31 hat31 (g := (mkF m 78 #[.val (.ref a1), .val (.int c1), .val (.int (0 : Int32)), .val (.int (c1 - (64 : Int32)))] [(.int (0 : Int32)), (.ref b), (.int (0 : Int32)), (.ref b)])) rfl rfl (hb hby d4_78) _ ?_
            show Steps p.tables e below (T30.setTop (mkF m 79 #[.val (.ref a1), .val (.int c1), .val (.int (0 : Int32)), .val (.int (c1 - (64 : Int32)))] [(.long v1), (.int (0 : Int32)), (.ref b)])) _
            refine XS.lconst X30.here hx rfl (hb hby d4_79) ?_
            show Steps p.tables e below (T30.setTop (mkF m 80 #[.val (.ref a1), .val (.int c1), .val (.int (0 : Int32)), .val (.int (c1 - (64 : Int32)))] [(.long (1 : Int64)), (.long v1), (.int (0 : Int32)), (.ref b)])) _
            refine XS.iloadN X30.here hx rfl (hb hby d4_80) rfl ?_
            show Steps p.tables e below (T30.setTop (mkF m 81 #[.val (.ref a1), .val (.int c1), .val (.int (0 : Int32)), .val (.int (c1 - (64 : Int32)))] [(.int (c1 - (64 : Int32))), (.long (1 : Int64)), (.long v1), (.int (0 : Int32)), (.ref b)])) _
            refine XS.lshl X30.here hx rfl (hb hby d4_81) rfl ?_
            show Steps p.tables e below (T30.setTop (mkF m 82 #[.val (.ref a1), .val (.int c1), .val (.int (0 : Int32)), .val (.int (c1 - (64 : Int32)))] [(.long ((1 : Int64) <<< ((c1 - (64 : Int32)) &&& 0x3f).toInt64)), (.long v1), (.int (0 : Int32)), (.ref b)])) _
            refine XS.lconst X30.here hx rfl (hb hby d4_82) ?_
            show Steps p.tables e below (T30.setTop (mkF m 83 #[.val (.ref a1), .val (.int c1), .val (.int (0 : Int32)), .val (.int (c1 - (64 : Int32)))] [(.long (1 : Int64)), (.long ((1 : Int64) <<< ((c1 - (64 : Int32)) &&& 0x3f).toInt64)), (.long v1), (.int (0 : Int32)), (.ref b)])) _
            refine XS.lsub X30.here hx rfl (hb hby d4_83) rfl ?_
            show Steps p.tables e below (T30.setTop (mkF m 84 #[.val (.ref a1), .val (.int c1), .val (.int (0 : Int32)), .val (.int (c1 - (64 : Int32)))] [(.long (((1 : Int64) <<< ((c1 - (64 : Int32)) &&& 0x3f).toInt64) - (1 : Int64))), (.long v1), (.int (0 : Int32)), (.ref b)])) _
            refine XS.lor X30.here hx rfl (hb hby d4_84) rfl ?_
            show Steps p.tables e below (T30.setTop (mkF m 85 #[.val (.ref a1), .val (.int c1), .val (.int (0 : Int32)), .val (.int (c1 - (64 : Int32)))] [(.long (v1 ||| (((1 : Int64) <<< ((c1 - (64 : Int32)) &&& 0x3f).toInt64) - (1 : Int64)))), (.int (0 : Int32)), (.ref b)])) _
            refine st33 _ ?_
            show Steps p.tables e below (T33.setTop (mkF m 86 #[.val (.ref a1), .val (.int c1), .val (.int (0 : Int32)), .val (.int (c1 - (64 : Int32)))] [])) _
            refine XS.iinc X33.here hx rfl (hb hby d4_86) rfl (l' := #[.val (.ref a1), .val (.int c1), .val (.int (1 : Int32)), .val (.int (c1 - (64 : Int32)))]) rfl ?_
            show Steps p.tables e below (T33.setTop (mkF m 89 #[.val (.ref a1), .val (.int c1), .val (.int (1 : Int32)), .val (.int (c1 - (64 : Int32)))] [])) _
            refine XS.goto X33.here hx rfl (pc0 := 89) (pc' := 32) rfl (hb hby d4_89) (by decide) (by decide) ?_
            exact kt
          refine ⟨T33, _, N33, X33, (by rw [e33, hu1, own_upA c53_27 c69_29]; exact ⟨K33, (Exa.wr W33 Ea13), (Fld.other W33 Ff13 (Or.inl hne)), (Fld.other W33 Fg13 (Or.inl hne)), V33⟩), fun tt kt => pre34 tt ?_⟩
          exact kt
        · have pre35 : ∀ tt, Steps p.tables e below (T24.setTop (mkF m 32 #[.val (.ref a1), .val (.int c1), .val (.int (1 : Int32)), .val (.int (c1 - (64 : Int32)))] [])) tt → Steps p.tables e below (T13.setTop (mkF m 32 #[.val (.ref a1), .val (.int c1), .val (.int (0 : Int32)), .unset] [])) tt := by
            intro tt kt
            refine pre28 tt ?_
            show Steps p.tables e below (T24.setTop (mkF m 69 #[.val (.ref a1), .val (.int c1), .val (.int (0 : Int32)), .val (.int (c1 - (64 : Int32)))] [(.int (c1 - (64 : Int32)))])) _
            refine XS.ifYes X24.here hx rfl (pc0 := 69) (pc' := 86) rfl (hb hby d4_69) rfl ((if0 _ _).trans (flt c69_29).2.2.2) (by decide) (by decide) ?_
            show Steps p.tables e below (T24.setTop (mkF m 86 #[.val (.ref a1), .val (.int c1), .val (.int (0 : Int32)), .val (.int (c1 - (64 : Int32)))] [])) _
            refine XS.iinc X24.here hx rfl (hb hby d4_86) rfl (l' := #[.val (.ref a1), .val (.int c1), .val (.int (1 : Int32)), .val (.int (c1 - (64 : Int32)))]) rfl ?_
            show Steps p.tables e below (T24.setTop (mkF m 89 #[.val (.ref a1), .val (.int c1), .val (.int (1 : Int32)), .val (.int (c1 - (64 : Int32)))] [])) _
            refine XS.goto X24.here hx rfl (pc0 := 89) (pc' := 32) rfl (hb hby d4_89) (by decide) (by decide) ?_
            exact kt
          refine ⟨T24, _, N13, X24, (by rw [e24, hu1, own_upB c53_27 c69_29]; exact ⟨K13, Ea13, Ff13, Fg13, Vb13⟩), fun tt kt => pre35 tt ?_⟩
          exact kt
      · obtain ⟨T36, X36, e36, st36⟩ := getF X24 hx hZ hown (host := "") (Or.inl (hw _ (List.mem_of_getElem? (i := 12) rfl))) Via.refl e24 Fg13 (g := (mkF m 57 #[.val (.ref a1), .val (.int c1), .val (.int (0 : Int32)), .val (.int (c1 - (64 : Int32)))] [(.ref a1)])) rfl rfl (hb hby d4_57)
        have VO37 := Vb13
        obtain ⟨cl37, Ar37, q37, S37, M37, H37, G37⟩ := VO37
        have hin37 : ¬ ((0 : Int32) < 0 ∨ cl37.slots.size ≤ ((0 : Int32)).toNatClampNeg) := inb_of S37 ⟨by decide, by decide⟩
        obtain ⟨T38, h38, X38, e38, W38, st38⟩ := stJ X36 hx hZ e36 Ar37 (j := (0 : Int32)) hin37 (g := (mkF m 64 #[.val (.ref a1), .val (.int c1), .val (.int (0 : Int32)), .val (.int (c1 - (64 : Int32)))] [(.long (-1 : Int64)), (.int (0 : Int32)), (.ref b)])) rfl rfl (hb hby d4_64)
        have N38 := Fr.snoc X38 N13 g_b
        have K38 : Keep h0 h38 [a1, b] := (K13).wr W38 (Or.inl (List.mem_of_getElem? (i := 1) rfl))
        have V38 : Arv Z h38 b kb .long (1 : Int32) [(.long (-1 : Int64)), (.long v2), (.long v3)] (.long (0 : Int64)) := Arv.set Ar37 q37 S37 M37 H37 G37 rfl W38 0 rfl (Nat.le_of_ble_eq_true rfl)
        have pre39 : ∀ tt, Steps p.tables e below (T38.setTop (mkF m 32 #[.val (.ref a1), .val (.int c1), .val (.int (1 : Int32)), .val (.int (c1 - (64 : Int32)))] [])) tt → Steps p.tables e below (T13.setTop (mkF m 32 #[.val (.ref a1), .val (.int c1), .val (.int (0 : Int32)), .unset] [])) tt := by
          intro tt kt
          refine pre26 tt ?_
          show Steps p.tables e below (T24.setTop (mkF m 53 #[.val (.ref a1), .val (.int c1), .val (.int (0 : Int32)), .val (.int (c1 - (64 : Int32)))] [(.int (64 : Int32)), (.int (c1 - (64 : Int32)))])) _
          refine XS.icmpNo X24.here hx rfl (hb hby d4_53) rfl (flt c53_27).1 ?_
          show Steps p.tables e below (T24.setTop (mkF m 56 #[.val (.ref a1), .val (.int c1), .val (.int (0 : Int32)), .val (.int (c1 - (64 : Int32)))] [])) _
          refine XS.aloadN X24.here hx rfl (hb hby d4_56) rfl rfl ?_
          show Steps p.tables e below (T24.setTop (mkF m 57 #[.val (.ref a1), .val (.int c1), .val (.int (0 : Int32)), .val (.int (c1 - (64 : Int32)))] [(.ref a1)])) _
          refine st36 _ ?_
          show Steps p.tables e below (T36.setTop (mkF m 60 #[.val (.ref a1), .val (.int c1), .val (.int (0 : Int32)), .val (.int (c1 - (64 : Int32)))] [(.ref b)])) _
          refine XS.iloadN X36.here hx rfl (hb hby d4_60) rfl ?_
          show Steps p.tables e below (T36.setTop (mkF m 61 #[.val (.ref a1), .val (.int c1), .val (.int (0 : Int32)), .val (.int (c1 - (64 : Int32)))] [(.int (0 : Int32)), (.ref b)])) _
          refine X36.ldc2Long hx hown (mvT hZ (hw _ (List.mem_of_getElem? (i := 44) rfl))) (g := (mkF m 61 #[.val (.ref a1), .val (.int c1), .val (.int (0 : Int32)), .val (.int (c1 - (64 : Int32)))] [(.int (0 : Int32)), (.ref b)])) rfl (hb hby d4_61) _ ?_
          show Steps p.tables e below (T36.setTop (mkF m 64 #[.val (.ref a1), .val (.int c1), .val (.int (0 : Int32)), .val (.int (c1 - (64 : Int32)))] [(.long (-1 : Int64)), (.int (0 : Int32)), (.ref b)])) _
          refine st38 _ ?_
          show Steps p.tables e below (T38.setTop (mkF m 65 #[.val (.ref a1), .val (.int c1), .val (.int (0 : Int32)), .val (.int (c1 - (64 : Int32)))] [])) _
          refine XS.goto X38.here hx rfl (pc0 := 65) (pc' := 86) rfl (hb hby d4_65) (by decide) (by decide) ?_
          show Steps p.tables e below (T38.setTop (mkF m 86 #[.val (.ref a1), .val (.int c1), .val (.int (0 : Int32)), .val (.int (c1 - (64 : Int32)))] [])) _
          refine XS.iinc X38.here hx rfl (hb hby d4_86) rfl (l' := #[.val (.ref a1), .val (.int c1), .val (.int (1 : Int32)), .val (.int (c1 - (64 : Int32)))]) rfl ?_
          show Steps p.tables e below (T38.setTop (mkF m 89 #[.val (.ref a1), .val (.int c1), .val (.int (1 : Int32)), .val (.int (c1 - (64 : Int32)))] [])) _
          refine XS.goto X38.here hx rfl (pc0 := 89) (pc' := 32) rfl (hb hby d4_89) (by decide) (by decide) ?_
          exact kt
        refine ⟨T38, _, N38, X38, (by rw [e38, hu1, own_upC c53_27]; exact ⟨K38, (Exa.wr W38 Ea13), (Fld.other W38 Ff13 (Or.inl hne)), (Fld.other W38 Fg13 (Or.inl hne)), V38⟩), fun tt kt => pre39 tt ?_⟩
        exact kt
    have pre40 : ∀ tt, Steps p.tables e below (T23.setTop (mkF m 32 #[.val (.ref a1), .val (.int c1), .val (.int (1 : Int32)), .val (.int (c1 - (64 : Int32)))] [])) tt → Steps p.tables e below (s₁.setTop (entryFrame m #[(.ref a1), (.int c1)] 4)) tt := by
      intro tt kt
      refine pre22 tt ?_
      show Steps p.tables e below (T13.setTop (mkF m 32 #[.val (.ref a1), .val (.int c1), .val (.int (0 : Int32)), .unset] [])) _
      refine st23 _ ?_
      exact kt
    obtain ⟨T41, X41, e41, st41⟩ := getF X23 hx hZ hown (host := "") (Or.inl (hw _ (List.mem_of_getElem? (i := 12) rfl))) Via.refl rfl Fg23 (g := (mkF m 34 #[.val (.ref a1), .val (.int c1), .val (.int (1 : Int32)), .val (.int (c1 - (64 : Int32)))] [(.ref a1), (.int (1 : Int32))])) rfl rfl (hb hby d4_34)
    have VO42 := Vb23
    obtain ⟨cl42, Ar42, q42, S42, M42, H42, G42⟩ := VO42
    have pre43 : ∀ tt, Steps p.tables e below (T41.setTop (mkF m 92 #[.val (.ref a1), .val (.int c1), .val (.int (1 : Int32)), .val (.int (c1 - (64 : Int32)))] [])) tt → Steps p.tables e below (s₁.setTop (entryFrame m #[(.ref a1), (.int c1)] 4)) tt := by
      intro tt kt
      refine pre40 tt ?_
      show Steps p.tables e below (T23.setTop (mkF m 32 #[.val (.ref a1), .val (.int c1), .val (.int (1 : Int32)), .val (.int (c1 - (64 : Int32)))] [])) _
      refine XS.iloadN X23.here hx rfl (hb hby d4_32) rfl ?_
      show Steps p.tables e below (T23.setTop (mkF m 33 #[.val (.ref a1), .val (.int c1), .val (.int (1 : Int32)), .val (.int (c1 - (64 : Int32)))] [(.int (1 : Int32))])) _
      refine XS.aloadN X23.here hx rfl (hb hby d4_33) rfl rfl ?_
      show Steps p.tables e below (T23.setTop (mkF m 34 #[.val (.ref a1), .val (.int c1), .val (.int (1 : Int32)), .val (.int (c1 - (64 : Int32)))] [(.ref a1), (.int (1 : Int32))])) _
      refine st41 _ ?_
      show Steps p.tables e below (T41.setTop (mkF m 37 #[.val (.ref a1), .val (.int c1), .val (.int (1 : Int32)), .val (.int (c1 - (64 : Int32)))] [(.ref b), (.int (1 : Int32))])) _
      refine X41.arraylength hx (by rw [e41]; exact Ar42.1) (State.isArrayOf_alike hZ.alike Ar42.2.1) (g := (mkF m 37 #[.val (.ref a1), .val (.int c1), .val (.int (1 : Int32)), .val (.int (c1 - (64 : Int32)))] [(.ref b), (.int (1 : Int32))])) rfl rfl (hb hby d4_37) _ ?_
      rw [len_of S42 M42]
      show Steps p.tables e below (T41.setTop (mkF m 38 #[.val (.ref a1), .val (.int c1), .val (.int (1 : Int32)), .val (.int (c1 - (64 : Int32)))] [(.int (1 : Int32)), (.int (1 : Int32))])) _
      refine XS.icmpYes X41.here hx rfl (pc0 := 38) (pc' := 92) rfl (hb hby d4_38) rfl (flt (by decide : ¬ ((1 : Int32) < (1 : Int32)))).2.1 (by decide) (by decide) ?_
      exact kt
    obtain ⟨fs, hr, hrun, hended, hW, hsame⟩ := X41.leave (v := none) (fun _ => rfl)
    refine ⟨_, _, pre43 _ ?_, hrun, hended, _, _, rfl, ?_, ⟨_, rfl⟩, hW, hsame.mono (by decide) (by decide)⟩
    · show Steps p.tables e below (T41.setTop (mkF m 92 #[.val (.ref a1), .val (.int c1), .val (.int (1 : Int32)), .val (.int (c1 - (64 : Int32)))] [])) _
      exact X41.returnOut hx Bd.returns (hb hby d4_92) hr
    · show QA Z a1 b kb (1 : Int32) u0 u1 u2 u3 h0 n0 _ T41.heap _
      rw [e41]
      rw [hu2, own_upZ (hbz.2.1 (by decide)), hu3, own_upZ (hbz.2.2 (by decide))]
      exact ⟨rfl, N23, K23, Ea23, Ff23, Fg23, Vb23⟩
  · have hz2 := hbz
    have g_b : n0 ≤ b := gz (by decide)
    obtain ⟨T44, L44, N44, X44, ⟨K44, Ea44, Ff44, Fg44, Vb44⟩, st44⟩ : ∃ (T' : State) (L' : List Loc), Fr n0 L' ∧ Stand p l e ({ frames := 0, cells := 0, slots := 0, locals := 0 } : Room) s m #[(.ref a1), (.int c1)] below meth c T' L' 0 0 ∧ (Keep h0 T'.heap [a1, b] ∧ Exa Z T'.heap a1 "com/example/phase7/phase7/metadata/FieldSet" ∧ Fld Z T'.heap a1 "com/example/phase7/phase7/metadata/FieldSet" "first" "J" (.long u0) ∧ Fld Z T'.heap a1 "com/example/phase7/phase7/metadata/FieldSet" "further" "[J" (.ref b) ∧ Arv Z T'.heap b kb .long (2 : Int32) [(.long v1), (.long v2), (.long v3)] (.long (0 : Int64))) ∧ ∀ tt, Steps p.tables e below (T'.setTop (mkF m 30 #[.val (.ref a1), .val (.int c1), .unset, .unset] [])) tt → Steps p.tables e below (s₁.setTop (mkF m 0 #[.val (.ref a1), .val (.int c1), .unset, .unset] [])) tt := by
      have pid44 : ∀ tt, Steps p.tables e below (s₁.setTop (mkF m 0 #[.val (.ref a1), .val (.int c1), .unset, .unset] [])) tt → Steps p.tables e below (s₁.setTop (mkF m 0 #[.val (.ref a1), .val (.int c1), .unset, .unset] [])) tt := fun tt kt => kt
      have pre45 : ∀ tt, Steps p.tables e below (s₁.setTop (mkF m 3 #[.val (.ref a1), .val (.int c1), .unset, .unset] [(.int (64 : Int32)), (.int c1)])) tt → Steps p.tables e below (s₁.setTop (mkF m 0 #[.val (.ref a1), .val (.int c1), .unset, .unset] [])) tt := by
        intro tt kt
        refine pid44 tt ?_
        show Steps p.tables e below (s₁.setTop (mkF m 0 #[.val (.ref a1), .val (.int c1), .unset, .unset] [])) _
        refine XS.iloadN X0.here hx rfl (hb hby d4_0) rfl ?_
        show Steps p.tables e below (s₁.setTop (mkF m 1 #[.val (.ref a1), .val (.int c1), .unset, .unset] [(.int c1)])) _
        refine XS.bipush X0.here hx rfl (hb hby d4_1) ?_
        exact kt
      by_cases c3_46 : c1 < (64 : Int32)
      · obtain ⟨T47, X47, e47, st47⟩ := getF X0 hx hZ hown (host := "") (Or.inl (hw _ (List.mem_of_getElem? (i := 19) rfl))) Via.refl e0 F_f (g := (mkF m 18 #[.val (.ref a1), .val (.int c1), .unset, .unset] [(.ref a1), (.ref a1)])) rfl rfl (hb hby d4_18)
        obtain ⟨T48, h48, X48, e48, W48, st48⟩ := putF X47 hx hZ hown (host := "") (Or.inl (hw _ (List.mem_of_getElem? (i := 19) rfl))) Via.refl e47 F_f E_a1 (Or.inl (hw _ (List.mem_of_getElem? (i := 20) rfl))) (hw _ (List.mem_of_getElem? (i := 2) rfl)) (ty := .long) (by decide) rfl rfl (g := (mkF m 27 #[.val (.ref a1), .val (.int c1), .unset, .unset] [(.long (v0 ||| (((1 : Int64) <<< (c1 &&& 0x3f).toInt64) - (1 : Int64)))), (.ref a1)])) rfl rfl (hb hby d4_27)
        have Fw48 := Fld.same W48 F_f
        have N48 := Fr.snoc X48 N0 g_a1
        have K48 : Keep h0 h48 [a1, b] := ((Keep.refl h0 [a1, b])).wr W48 (Or.inl (List.mem_of_getElem? (i := 0) rfl))
        have pre49 : ∀ tt, Steps p.tables e below (T48.setTop (mkF m 30 #[.val (.ref a1), .val (.int c1), .unset, .unset] [])) tt → Steps p.tables e below (s₁.setTop (mkF m 0 #[.val (.ref a1), .val (.int c1), .unset, .unset] [])) tt := by
          intro tt kt
          refine pre45 tt ?_
          show Steps p.tables e below (s₁.setTop (mkF m 3 #[.val (.ref a1), .val (.int c1), .unset, .unset] [(.int (64 : Int32)), (.int c1)])) _
          refine XS.icmpYes X0.here hx rfl (pc0 := 3) (pc' := 16) rfl (hb hby d4_3) rfl (tlt c3_46).1 (by decide) (by decide) ?_
          show Steps p.tables e below (s₁.setTop (mkF m 16 #[.val (.ref a1), .val (.int c1), .unset, .unset] [])) _
          refine XS.aloadN X0.here hx rfl (hb hby d4_16) rfl rfl ?_
          show Steps p.tables e below (s₁.setTop (mkF m 17 #[.val (.ref a1), .val (.int c1), .unset, .unset] [(.ref a1)])) _
          refine XS.dup X0.here hx rfl (hb hby d4_17) rfl rfl ?_
          show Steps p.tables e below (s₁.setTop (mkF m 18 #[.val (.ref a1), .val (.int c1), .unset, .unset] [(.ref a1), (.ref a1)])) _
          refine st47 _ ?_
          show Steps p.tables e below (T47.setTop (mkF m 21 #[.val (.ref a1), .val (.int c1), .unset, .unset] [(.long v0), (.ref a1)])) _
          refine XS.lconst X47.here hx rfl (hb hby d4_21) ?_
          show Steps p.tables e below (T47.setTop (mkF m 22 #[.val (.ref a1), .val (.int c1), .unset, .unset] [(.long (1 : Int64)), (.long v0), (.ref a1)])) _
          refine XS.iloadN X47.here hx rfl (hb hby d4_22) rfl ?_
          show Steps p.tables e below (T47.setTop (mkF m 23 #[.val (.ref a1), .val (.int c1), .unset, .unset] [(.int c1), (.long (1 : Int64)), (.long v0), (.ref a1)])) _
          refine XS.lshl X47.here hx rfl (hb hby d4_23) rfl ?_
          show Steps p.tables e below (T47.setTop (mkF m 24 #[.val (.ref a1), .val (.int c1), .unset, .unset] [(.long ((1 : Int64) <<< (c1 &&& 0x3f).toInt64)), (.long v0), (.ref a1)])) _
          refine XS.lconst X47.here hx rfl (hb hby d4_24) ?_
          show Steps p.tables e below (T47.setTop (mkF m 25 #[.val (.ref a1), .val (.int c1), .unset, .unset] [(.long (1 : Int64)), (.long ((1 : Int64) <<< (c1 &&& 0x3f).toInt64)), (.long v0), (.ref a1)])) _
          refine XS.lsub X47.here hx rfl (hb hby d4_25) rfl ?_
          show Steps p.tables e below (T47.setTop (mkF m 26 #[.val (.ref a1), .val (.int c1), .unset, .unset] [(.long (((1 : Int64) <<< (c1 &&& 0x3f).toInt64) - (1 : Int64))), (.long v0), (.ref a1)])) _
          refine XS.lor X47.here hx rfl (hb hby d4_26) rfl ?_
          show Steps p.tables e below (T47.setTop (mkF m 27 #[.val (.ref a1), .val (.int c1), .unset, .unset] [(.long (v0 ||| (((1 : Int64) <<< (c1 &&& 0x3f).toInt64) - (1 : Int64)))), (.ref a1)])) _
          refine st48 _ ?_
          exact kt
        refine ⟨T48, _, N48, X48, (by rw [e48, hu0, own_up0 hc0 c3_46]; exact ⟨K48, (Exa.wr W48 E_a1), Fw48, (Fld.other W48 F_g (Or.inr (slot_ne (Or.inr (hw _ (List.mem_of_getElem? (i := 13) rfl))) (Or.inl (hw _ (List.mem_of_getElem? (i := 20) rfl))) (by decide) (t := (.array .long)) (t' := .long) (by decide) (by decide)))), (V_b.other W48 (Ne.symm hne))⟩), fun tt kt => pre49 tt ?_⟩
        exact kt
      · obtain ⟨T50, h50, X50, e50, W50, st50⟩ := putF X0 hx hZ hown (host := "") (Or.inl (hw _ (List.mem_of_getElem? (i := 19) rfl))) Via.refl e0 F_f E_a1 (Or.inl (hw _ (List.mem_of_getElem? (i := 20) rfl))) (hw _ (List.mem_of_getElem? (i := 2) rfl)) (ty := .long) (by decide) rfl rfl (g := (mkF m 10 #[.val (.ref a1), .val (.int c1), .unset, .unset] [(.long (-1 : Int64)), (.ref a1)])) rfl rfl (hb hby d4_10)
        have Fw50 := Fld.same W50 F_f
        have N50 := Fr.snoc X50 N0 g_a1
        have K50 : Keep h0 h50 [a1, b] := ((Keep.refl h0 [a1, b])).wr W50 (Or.inl (List.mem_of_getElem? (i := 0) rfl))
        have pre51 : ∀ tt, Steps p.tables e below (T50.setTop (mkF m 30 #[.val (.ref a1), .val (.int c1), .unset, .unset] [])) tt → Steps p.tables e below (s₁.setTop (mkF m 0 #[.val (.ref a1), .val (.int c1), .unset, .unset] [])) tt := by
          intro tt kt
          refine pre45 tt ?_
          show Steps p.tables e below (s₁.setTop (mkF m 3 #[.val (.ref a1), .val (.int c1), .unset, .unset] [(.int (64 : Int32)), (.int c1)])) _
          refine XS.icmpNo X0.here hx rfl (hb hby d4_3) rfl (flt c3_46).1 ?_
          show Steps p.tables e below (s₁.setTop (mkF m 6 #[.val (.ref a1), .val (.int c1), .unset, .unset] [])) _
          refine XS.aloadN X0.here hx rfl (hb hby d4_6) rfl rfl ?_
          show Steps p.tables e below (s₁.setTop (mkF m 7 #[.val (.ref a1), .val (.int c1), .unset, .unset] [(.ref a1)])) _
          refine X0.ldc2Long hx hown (mvT hZ (hw _ (List.mem_of_getElem? (i := 44) rfl))) (g := (mkF m 7 #[.val (.ref a1), .val (.int c1), .unset, .unset] [(.ref a1)])) rfl (hb hby d4_7) _ ?_
          show Steps p.tables e below (s₁.setTop (mkF m 10 #[.val (.ref a1), .val (.int c1), .unset, .unset] [(.long (-1 : Int64)), (.ref a1)])) _
          refine st50 _ ?_
          show Steps p.tables e below (T50.setTop (mkF m 13 #[.val (.ref a1), .val (.int c1), .unset, .unset] [])) _
          refine XS.goto X50.here hx rfl (pc0 := 13) (pc' := 30) rfl (hb hby d4_13) (by decide) (by decide) ?_
          exact kt
        refine ⟨T50, _, N50, X50, (by rw [e50, hu0, own_upC c3_46]; exact ⟨K50, (Exa.wr W50 E_a1), Fw50, (Fld.other W50 F_g (Or.inr (slot_ne (Or.inr (hw _ (List.mem_of_getElem? (i := 13) rfl))) (Or.inl (hw _ (List.mem_of_getElem? (i := 20) rfl))) (by decide) (t := (.array .long)) (t' := .long) (by decide) (by decide)))), (V_b.other W50 (Ne.symm hne))⟩), fun tt kt => pre51 tt ?_⟩
        exact kt
    have pre52 : ∀ tt, Steps p.tables e below (T44.setTop (mkF m 30 #[.val (.ref a1), .val (.int c1), .unset, .unset] [])) tt → Steps p.tables e below (s₁.setTop (entryFrame m #[(.ref a1), (.int c1)] 4)) tt := by
      intro tt kt
      refine pre0 tt ?_
      show Steps p.tables e below (s₁.setTop (mkF m 0 #[.val (.ref a1), .val (.int c1), .unset, .unset] [])) _
      refine st44 _ ?_
      exact kt
    have pre53 : ∀ tt, Steps p.tables e below (T44.setTop (mkF m 32 #[.val (.ref a1), .val (.int c1), .val (.int (0 : Int32)), .unset] [])) tt → Steps p.tables e below (s₁.setTop (entryFrame m #[(.ref a1), (.int c1)] 4)) tt := by
      intro tt kt
      refine pre52 tt ?_
      show Steps p.tables e below (T44.setTop (mkF m 30 #[.val (.ref a1), .val (.int c1), .unset, .unset] [])) _
      refine XS.iconst X44.here hx rfl (hb hby d4_30) ?_
      show Steps p.tables e below (T44.setTop (mkF m 31 #[.val (.ref a1), .val (.int c1), .unset, .unset] [(.int (0 : Int32))])) _
      refine XS.istoreN X44.here hx rfl (hb hby d4_31) rfl (l' := #[.val (.ref a1), .val (.int c1), .val (.int (0 : Int32)), .unset]) rfl ?_
      exact kt
    obtain ⟨T54, L54, N54, X54, ⟨K54, Ea54, Ff54, Fg54, Vb54⟩, st54⟩ : ∃ (T' : State) (L' : List Loc), Fr n0 L' ∧ Stand p l e ({ frames := 0, cells := 0, slots := 0, locals := 0 } : Room) s m #[(.ref a1), (.int c1)] below meth c T' L' 0 0 ∧ (Keep h0 T'.heap [a1, b] ∧ Exa Z T'.heap a1 "com/example/phase7/phase7/metadata/FieldSet" ∧ Fld Z T'.heap a1 "com/example/phase7/phase7/metadata/FieldSet" "first" "J" (.long u0) ∧ Fld Z T'.heap a1 "com/example/phase7/phase7/metadata/FieldSet" "further" "[J" (.ref b) ∧ Arv Z T'.heap b kb .long (2 : Int32) [(.long u1), (.long v2), (.long v3)] (.long (0 : Int64))) ∧ ∀ tt, Steps p.tables e below (T'.setTop (mkF m 32 #[.val (.ref a1), .val (.int c1), .val (.int (1 : Int32)), .val (.int (c1 - (64 : Int32)))] [])) tt → Steps p.tables e below (T44.setTop (mkF m 32 #[.val (.ref a1), .val (.int c1), .val (.int (0 : Int32)), .unset] [])) tt := by
      have pid54 : ∀ tt, Steps p.tables e below (T44.setTop (mkF m 32 #[.val (.ref a1), .val (.int c1), .val (.int (0 : Int32)), .unset] [])) tt → Steps p.tables e below (T44.setTop (mkF m 32 #[.val (.ref a1), .val (.int c1), .val (.int (0 : Int32)), .unset] [])) tt := fun tt kt => kt
      obtain ⟨T55, X55, e55, st55⟩ := getF X44 hx hZ hown (host := "") (Or.inl (hw _ (List.mem_of_getElem? (i := 12) rfl))) Via.refl rfl Fg44 (g := (mkF m 34 #[.val (.ref a1), .val (.int c1), .val (.int (0 : Int32)), .unset] [(.ref a1), (.int (0 : Int32))])) rfl rfl (hb hby d4_34)
      have VO56 := Vb44
      obtain ⟨cl56, Ar56, q56, S56, M56, H56, G56⟩ := VO56
      have pre57 : ∀ tt, Steps p.tables e below (T55.setTop (mkF m 53 #[.val (.ref a1), .val (.int c1), .val (.int (0 : Int32)), .val (.int (c1 - (64 : Int32)))] [(.int (64 : Int32)), (.int (c1 - (64 : Int32)))])) tt → Steps p.tables e below (T44.setTop (mkF m 32 #[.val (.ref a1), .val (.int c1), .val (.int (0 : Int32)), .unset] [])) tt := by
        intro tt kt
        refine pid54 tt ?_
        show Steps p.tables e below (T44.setTop (mkF m 32 #[.val (.ref a1), .val (.int c1), .val (.int (0 : Int32)), .unset] [])) _
        refine XS.iloadN X44.here hx rfl (hb hby d4_32) rfl ?_
        show Steps p.tables e below (T44.setTop (mkF m 33 #[.val (.ref a1), .val (.int c1), .val (.int (0 : Int32)), .unset] [(.int (0 : Int32))])) _
        refine XS.aloadN X44.here hx rfl (hb hby d4_33) rfl rfl ?_
        show Steps p.tables e below (T44.setTop (mkF m 34 #[.val (.ref a1), .val (.int c1), .val (.int (0 : Int32)), .unset] [(.ref a1), (.int (0 : Int32))])) _
        refine st55 _ ?_
        show Steps p.tables e below (T55.setTop (mkF m 37 #[.val (.ref a1), .val (.int c1), .val (.int (0 : Int32)), .unset] [(.ref b), (.int (0 : Int32))])) _
        refine X55.arraylength hx (by rw [e55]; exact Ar56.1) (State.isArrayOf_alike hZ.alike Ar56.2.1) (g := (mkF m 37 #[.val (.ref a1), .val (.int c1), .val (.int (0 : Int32)), .unset] [(.ref b), (.int (0 : Int32))])) rfl rfl (hb hby d4_37) _ ?_
        rw [len_of S56 M56]
        show Steps p.tables e below (T55.setTop (mkF m 38 #[.val (.ref a1), .val (.int c1), .val (.int (0 : Int32)), .unset] [(.int (2 : Int32)), (.int (0 : Int32))])) _
        refine XS.icmpNo X55.here hx rfl (hb hby d4_38) rfl (tlt (by decide : (0 : Int32) < (2 : Int32))).2.1 ?_
        show Steps p.tables e below (T55.setTop (mkF m 41 #[.val (.ref a1), .val (.int c1), .val (.int (0 : Int32)), .unset] [])) _
        refine XS.iloadN X55.here hx rfl (hb hby d4_41) rfl ?_
        show Steps p.tables e below (T55.setTop (mkF m 42 #[.val (.ref a1), .val (.int c1), .val (.int (0 : Int32)), .unset] [(.int c1)])) _
        refine XS.iloadN X55.here hx rfl (hb hby d4_42) rfl ?_
        show Steps p.tables e below (T55.setTop (mkF m 43 #[.val (.ref a1), .val (.int c1), .val (.int (0 : Int32)), .unset] [(.int (0 : Int32)), (.int c1)])) _
        refine XS.iconst X55.here hx rfl (hb hby d4_43) ?_
        show Steps p.tables e below (T55.setTop (mkF m 44 #[.val (.ref a1), .val (.int c1), .val (.int (0 : Int32)), .unset] [(.int (1 : Int32)), (.int (0 : Int32)), (.int c1)])) _
        refine XS.iadd X55.here hx rfl (hb hby d4_44) rfl ?_
        show Steps p.tables e below (T55.setTop (mkF m 45 #[.val (.ref a1), .val (.int c1), .val (.int (0 : Int32)), .unset] [(.int (1 : Int32)), (.int c1)])) _
        refine XS.bipush X55.here hx rfl (hb hby d4_45) ?_
        show Steps p.tables e below (T55.setTop (mkF m 47 #[.val (.ref a1), .val (.int c1), .val (.int (0 : Int32)), .unset] [(.int (64 : Int32)), (.int (1 : Int32)), (.int c1)])) _
        refine XS.imul X55.here hx rfl (hb hby d4_47) rfl ?_
        show Steps p.tables e below (T55.setTop (mkF m 48 #[.val (.ref a1), .val (.int c1), .val (.int (0 : Int32)), .unset] [(.int (64 : Int32)), (.int c1)])) _
        refine XS.isub X55.here hx rfl (hb hby d4_48) rfl ?_
        show Steps p.tables e below (T55.setTop (mkF m 49 #[.val (.ref a1), .val (.int c1), .val (.int (0 : Int32)), .unset] [(.int (c1 - (64 : Int32)))])) _
        refine XS.istoreN X55.here hx rfl (hb hby d4_49) rfl (l' := #[.val (.ref a1), .val (.int c1), .val (.int (0 : Int32)), .val (.int (c1 - (64 : Int32)))]) rfl ?_
        show Steps p.tables e below (T55.setTop (mkF m 50 #[.val (.ref a1), .val (.int c1), .val (.int (0 : Int32)), .val (.int (c1 - (64 : Int32)))] [])) _
        refine XS.iloadN X55.here hx rfl (hb hby d4_50) rfl ?_
        show Steps p.tables e below (T55.setTop (mkF m 51 #[.val (.ref a1), .val (.int c1), .val (.int (0 : Int32)), .val (.int (c1 - (64 : Int32)))] [(.int (c1 - (64 : Int32)))])) _
        refine XS.bipush X55.here hx rfl (hb hby d4_51) ?_
        exact kt
      by_cases c53_58 : (c1 - (64 : Int32)) < (64 : Int32)
      · have pre59 : ∀ tt, Steps p.tables e below (T55.setTop (mkF m 69 #[.val (.ref a1), .val (.int c1), .val (.int (0 : Int32)), .val (.int (c1 - (64 : Int32)))] [(.int (c1 - (64 : Int32)))])) tt → Steps p.tables e below (T44.setTop (mkF m 32 #[.val (.ref a1), .val (.int c1), .val (.int (0 : Int32)), .unset] [])) tt := by
          intro tt kt
          refine pre57 tt ?_
          show Steps p.tables e below (T55.setTop (mkF m 53 #[.val (.ref a1), .val (.int c1), .val (.int (0 : Int32)), .val (.int (c1 - (64 : Int32)))] [(.int (64 : Int32)), (.int (c1 - (64 : Int32)))])) _
          refine XS.icmpYes X55.here hx rfl (pc0 := 53) (pc' := 68) rfl (hb hby d4_53) rfl (tlt c53_58).1 (by decide) (by decide) ?_
          show Steps p.tables e below (T55.setTop (mkF m 68 #[.val (.ref a1), .val (.int c1), .val (.int (0 : Int32)), .val (.int (c1 - (64 : Int32)))] [])) _
          refine XS.iloadN X55.here hx rfl (hb hby d4_68) rfl ?_
          exact kt
        by_cases c69_60 : (0 : Int32) < (c1 - (64 : Int32))
        · obtain ⟨T61, X61, e61, st61⟩ := getF X55 hx hZ hown (host := "") (Or.inl (hw _ (List.mem_of_getElem? (i := 12) rfl))) Via.refl e55 Fg44 (g := (mkF m 73 #[.val (.ref a1), .val (.int c1), .val (.int (0 : Int32)), .val (.int (c1 - (64 : Int32)))] [(.ref a1)])) rfl rfl (hb hby d4_73)
          have VO62 := Vb44
          obtain ⟨cl62, Ar62, q62, S62, M62, H62, G62⟩ := VO62
          have hin62 : ¬ ((0 : Int32) < 0 ∨ cl62.slots.size ≤ ((0 : Int32)).toNatClampNeg) := inb_of S62 ⟨by decide, by decide⟩
          have hat62 : cl62.slots[((0 : Int32)).toNatClampNeg]? = some (.long v1) := H62.at hin62 rfl
          have VO63 := Vb44
          obtain ⟨cl63, Ar63, q63, S63, M63, H63, G63⟩ := VO63
          have hin63 : ¬ ((0 : Int32) < 0 ∨ cl63.slots.size ≤ ((0 : Int32)).toNatClampNeg) := inb_of S63 ⟨by decide, by decide⟩
          obtain ⟨T64, h64, X64, e64, W64, st64⟩ := stJ X61 hx hZ e61 Ar63 (j := (0 : Int32)) hin63 (g := (mkF m 85 #[.val (.ref a1), .val (.int c1), .val (.int (0 : Int32)), .val (.int (c1 - (64 : Int32)))] [(.long (v1 ||| (((1 : Int64) <<< ((c1 - (64 : Int32)) &&& 0x3f).toInt64) - (1 : Int64)))), (.int (0 : Int32)), (.ref b)])) rfl rfl (hb hby d4_85)
          have N64 := Fr.snoc X64 N44 g_b
          have K64 : Keep h0 h64 [a1, b] := (K44).wr W64 (Or.inl (List.mem_of_getElem? (i := 1) rfl))
          have V64 : Arv Z h64 b kb .long (2 : Int32) [(.long (v1 ||| (((1 : Int64) <<< ((c1 - (64 : Int32)) &&& 0x3f).toInt64) - (1 : Int64)))), (.long v2), (.long v3)] (.long (0 : Int64)) := Arv.set Ar63 q63 S63 M63 H63 G63 rfl W64 0 rfl (Nat.le_of_ble_eq_true rfl)
          have pre65 : ∀ tt, Steps p.tables e below (T64.setTop (mkF m 32 #[.val (.ref a1), .val (.int c1), .val (.int (1 : Int32)), .val (.int (c1 - (64 : Int32)))] [])) tt → Steps p.tables e below (T44.setTop (mkF m 32 #[.val (.ref a1), .val (.int c1), .val (.int (0 : Int32)), .unset] [])) tt := by
            intro tt kt
            refine pre59 tt ?_
            show Steps p.tables e below (T55.setTop (mkF m 69 #[.val (.ref a1), .val (.int c1), .val (.int (0 : Int32)), .val (.int (c1 - (64 : Int32)))] [(.int (c1 - (64 : Int32)))])) _
            refine XS.ifNo X55.here hx rfl (hb hby d4_69) rfl ((if0 _ _).trans (tlt c69_60).2.2.2) ?_
            show Steps p.tables e below (T55.setTop (mkF m 72 #[.val (.ref a1), .val (.int c1), .val (.int (0 : Int32)), .val (.int (c1 - (64 : Int32)))] [])) _
            refine XS.aloadN X55.here hx rfl (hb hby d4_72) rfl rfl ?_
            show Steps p.tables e below (T55.setTop (mkF m 73 #[.val (.ref a1), .val (.int c1), .val (.int (0 : Int32)), .val (.int (c1 - (64 : Int32)))] [(.ref a1)])) _
            refine st61 _ ?_
            show Steps p.tables e below (T61.setTop (mkF m 76 #[.val (.ref a1), .val (.int c1), .val (.int (0 : Int32)), .val (.int (c1 - (64 : Int32)))] [(.ref b)])) _
            refine XS.iloadN X61.here hx rfl (hb hby d4_76) rfl ?_
            show Steps p.tables e below (T61.setTop (mkF m 77 #[.val (.ref a1), .val (.int c1), .val (.int (0 : Int32)), .val (.int (c1 - (64 : Int32)))] [(.int (0 : Int32)), (.ref b)])) _
            refine XT.dup2 X61.here hx rfl (hb hby d4_77) rfl rfl rfl ?_
            show Steps p.tables e below (T61.setTop (mkF m 78 #[.val (.ref a1), .val (.int c1), .val (.int (0 : Int32)), .val (.int (c1 - (64 : Int32)))] [(.int (0 : Int32)), (.ref b), (.int (0 : Int32)), (.ref b)])) _
            refine X61.laload hx (j := (0 : Int32)) (v := (.long v1)) (by rw [e61]; exact Ar62.1) (State.isArrayOf_alike hZ.alike Ar62.2.1) Ar62.2.2 hin62 hat62 (g := (mkF m 78 #[.val (.ref a1), .val (.int c1), .val (.int (0 : Int32)), .val (.int (c1 - (64 : Int32)))] [(.int (0 : Int32)), (.ref b), (.int (0 : Int32)), (.ref b)])) rfl rfl (hb hby d4_78) _ ?_
            show Steps p.tables e below (T61.setTop (mkF m 79 #[.val (.ref a1), .val (.int c1), .val (.int (0 : Int32)), .val (.int (c1 - (64 : Int32)))] [(.long v1), (.int (0 : Int32)), (.ref b)])) _
            refine XS.lconst X61.here hx rfl (hb hby d4_79) ?_
            show Steps p.tables e below (T61.setTop (mkF m 80 #[.val (.ref a1), .val (.int c1), .val (.int (0 : Int32)), .val (.int (c1 - (64 : Int32)))] [(.long (1 : Int64)), (.long v1), (.int (0 : Int32)), (.ref b)])) _
            refine XS.iloadN X61.here hx rfl (hb hby d4_80) rfl ?_
            show Steps p.tables e below (T61.setTop (mkF m 81 #[.val (.ref a1), .val (.int c1), .val (.int (0 : Int32)), .val (.int (c1 - (64 : Int32)))] [(.int (c1 - (64 : Int32))), (.long (1 : Int64)), (.long v1), (.int (0 : Int32)), (.ref b)])) _
            refine XS.lshl X61.here hx rfl (hb hby d4_81) rfl ?_
            show Steps p.tables e below (T61.setTop (mkF m 82 #[.val (.ref a1), .val (.int c1), .val (.int (0 : Int32)), .val (.int (c1 - (64 : Int32)))] [(.long ((1 : Int64) <<< ((c1 - (64 : Int32)) &&& 0x3f).toInt64)), (.long v1), (.int (0 : Int32)), (.ref b)])) _
            refine XS.lconst X61.here hx rfl (hb hby d4_82) ?_
            show Steps p.tables e below (T61.setTop (mkF m 83 #[.val (.ref a1), .val (.int c1), .val (.int (0 : Int32)), .val (.int (c1 - (64 : Int32)))] [(.long (1 : Int64)), (.long ((1 : Int64) <<< ((c1 - (64 : Int32)) &&& 0x3f).toInt64)), (.long v1), (.int (0 : Int32)), (.ref b)])) _
            refine XS.lsub X61.here hx rfl (hb hby d4_83) rfl ?_
            show Steps p.tables e below (T61.setTop (mkF m 84 #[.val (.ref a1), .val (.int c1), .val (.int (0 : Int32)), .val (.int (c1 - (64 : Int32)))] [(.long (((1 : Int64) <<< ((c1 - (64 : Int32)) &&& 0x3f).toInt64) - (1 : Int64))), (.long v1), (.int (0 : Int32)), (.ref b)])) _
            refine XS.lor X61.here hx rfl (hb hby d4_84) rfl ?_
            show Steps p.tables e below (T61.setTop (mkF m 85 #[.val (.ref a1), .val (.int c1), .val (.int (0 : Int32)), .val (.int (c1 - (64 : Int32)))] [(.long (v1 ||| (((1 : Int64) <<< ((c1 - (64 : Int32)) &&& 0x3f).toInt64) - (1 : Int64)))), (.int (0 : Int32)), (.ref b)])) _
            refine st64 _ ?_
            show Steps p.tables e below (T64.setTop (mkF m 86 #[.val (.ref a1), .val (.int c1), .val (.int (0 : Int32)), .val (.int (c1 - (64 : Int32)))] [])) _
            refine XS.iinc X64.here hx rfl (hb hby d4_86) rfl (l' := #[.val (.ref a1), .val (.int c1), .val (.int (1 : Int32)), .val (.int (c1 - (64 : Int32)))]) rfl ?_
            show Steps p.tables e below (T64.setTop (mkF m 89 #[.val (.ref a1), .val (.int c1), .val (.int (1 : Int32)), .val (.int (c1 - (64 : Int32)))] [])) _
            refine XS.goto X64.here hx rfl (pc0 := 89) (pc' := 32) rfl (hb hby d4_89) (by decide) (by decide) ?_
            exact kt
          refine ⟨T64, _, N64, X64, (by rw [e64, hu1, own_upA c53_58 c69_60]; exact ⟨K64, (Exa.wr W64 Ea44), (Fld.other W64 Ff44 (Or.inl hne)), (Fld.other W64 Fg44 (Or.inl hne)), V64⟩), fun tt kt => pre65 tt ?_⟩
          exact kt
        · have pre66 : ∀ tt, Steps p.tables e below (T55.setTop (mkF m 32 #[.val (.ref a1), .val (.int c1), .val (.int (1 : Int32)), .val (.int (c1 - (64 : Int32)))] [])) tt → Steps p.tables e below (T44.setTop (mkF m 32 #[.val (.ref a1), .val (.int c1), .val (.int (0 : Int32)), .unset] [])) tt := by
            intro tt kt
            refine pre59 tt ?_
            show Steps p.tables e below (T55.setTop (mkF m 69 #[.val (.ref a1), .val (.int c1), .val (.int (0 : Int32)), .val (.int (c1 - (64 : Int32)))] [(.int (c1 - (64 : Int32)))])) _
            refine XS.ifYes X55.here hx rfl (pc0 := 69) (pc' := 86) rfl (hb hby d4_69) rfl ((if0 _ _).trans (flt c69_60).2.2.2) (by decide) (by decide) ?_
            show Steps p.tables e below (T55.setTop (mkF m 86 #[.val (.ref a1), .val (.int c1), .val (.int (0 : Int32)), .val (.int (c1 - (64 : Int32)))] [])) _
            refine XS.iinc X55.here hx rfl (hb hby d4_86) rfl (l' := #[.val (.ref a1), .val (.int c1), .val (.int (1 : Int32)), .val (.int (c1 - (64 : Int32)))]) rfl ?_
            show Steps p.tables e below (T55.setTop (mkF m 89 #[.val (.ref a1), .val (.int c1), .val (.int (1 : Int32)), .val (.int (c1 - (64 : Int32)))] [])) _
            refine XS.goto X55.here hx rfl (pc0 := 89) (pc' := 32) rfl (hb hby d4_89) (by decide) (by decide) ?_
            exact kt
          refine ⟨T55, _, N44, X55, (by rw [e55, hu1, own_upB c53_58 c69_60]; exact ⟨K44, Ea44, Ff44, Fg44, Vb44⟩), fun tt kt => pre66 tt ?_⟩
          exact kt
      · obtain ⟨T67, X67, e67, st67⟩ := getF X55 hx hZ hown (host := "") (Or.inl (hw _ (List.mem_of_getElem? (i := 12) rfl))) Via.refl e55 Fg44 (g := (mkF m 57 #[.val (.ref a1), .val (.int c1), .val (.int (0 : Int32)), .val (.int (c1 - (64 : Int32)))] [(.ref a1)])) rfl rfl (hb hby d4_57)
        have VO68 := Vb44
        obtain ⟨cl68, Ar68, q68, S68, M68, H68, G68⟩ := VO68
        have hin68 : ¬ ((0 : Int32) < 0 ∨ cl68.slots.size ≤ ((0 : Int32)).toNatClampNeg) := inb_of S68 ⟨by decide, by decide⟩
        obtain ⟨T69, h69, X69, e69, W69, st69⟩ := stJ X67 hx hZ e67 Ar68 (j := (0 : Int32)) hin68 (g := (mkF m 64 #[.val (.ref a1), .val (.int c1), .val (.int (0 : Int32)), .val (.int (c1 - (64 : Int32)))] [(.long (-1 : Int64)), (.int (0 : Int32)), (.ref b)])) rfl rfl (hb hby d4_64)
        have N69 := Fr.snoc X69 N44 g_b
        have K69 : Keep h0 h69 [a1, b] := (K44).wr W69 (Or.inl (List.mem_of_getElem? (i := 1) rfl))
        have V69 : Arv Z h69 b kb .long (2 : Int32) [(.long (-1 : Int64)), (.long v2), (.long v3)] (.long (0 : Int64)) := Arv.set Ar68 q68 S68 M68 H68 G68 rfl W69 0 rfl (Nat.le_of_ble_eq_true rfl)
        have pre70 : ∀ tt, Steps p.tables e below (T69.setTop (mkF m 32 #[.val (.ref a1), .val (.int c1), .val (.int (1 : Int32)), .val (.int (c1 - (64 : Int32)))] [])) tt → Steps p.tables e below (T44.setTop (mkF m 32 #[.val (.ref a1), .val (.int c1), .val (.int (0 : Int32)), .unset] [])) tt := by
          intro tt kt
          refine pre57 tt ?_
          show Steps p.tables e below (T55.setTop (mkF m 53 #[.val (.ref a1), .val (.int c1), .val (.int (0 : Int32)), .val (.int (c1 - (64 : Int32)))] [(.int (64 : Int32)), (.int (c1 - (64 : Int32)))])) _
          refine XS.icmpNo X55.here hx rfl (hb hby d4_53) rfl (flt c53_58).1 ?_
          show Steps p.tables e below (T55.setTop (mkF m 56 #[.val (.ref a1), .val (.int c1), .val (.int (0 : Int32)), .val (.int (c1 - (64 : Int32)))] [])) _
          refine XS.aloadN X55.here hx rfl (hb hby d4_56) rfl rfl ?_
          show Steps p.tables e below (T55.setTop (mkF m 57 #[.val (.ref a1), .val (.int c1), .val (.int (0 : Int32)), .val (.int (c1 - (64 : Int32)))] [(.ref a1)])) _
          refine st67 _ ?_
          show Steps p.tables e below (T67.setTop (mkF m 60 #[.val (.ref a1), .val (.int c1), .val (.int (0 : Int32)), .val (.int (c1 - (64 : Int32)))] [(.ref b)])) _
          refine XS.iloadN X67.here hx rfl (hb hby d4_60) rfl ?_
          show Steps p.tables e below (T67.setTop (mkF m 61 #[.val (.ref a1), .val (.int c1), .val (.int (0 : Int32)), .val (.int (c1 - (64 : Int32)))] [(.int (0 : Int32)), (.ref b)])) _
          refine X67.ldc2Long hx hown (mvT hZ (hw _ (List.mem_of_getElem? (i := 44) rfl))) (g := (mkF m 61 #[.val (.ref a1), .val (.int c1), .val (.int (0 : Int32)), .val (.int (c1 - (64 : Int32)))] [(.int (0 : Int32)), (.ref b)])) rfl (hb hby d4_61) _ ?_
          show Steps p.tables e below (T67.setTop (mkF m 64 #[.val (.ref a1), .val (.int c1), .val (.int (0 : Int32)), .val (.int (c1 - (64 : Int32)))] [(.long (-1 : Int64)), (.int (0 : Int32)), (.ref b)])) _
          refine st69 _ ?_
          show Steps p.tables e below (T69.setTop (mkF m 65 #[.val (.ref a1), .val (.int c1), .val (.int (0 : Int32)), .val (.int (c1 - (64 : Int32)))] [])) _
          refine XS.goto X69.here hx rfl (pc0 := 65) (pc' := 86) rfl (hb hby d4_65) (by decide) (by decide) ?_
          show Steps p.tables e below (T69.setTop (mkF m 86 #[.val (.ref a1), .val (.int c1), .val (.int (0 : Int32)), .val (.int (c1 - (64 : Int32)))] [])) _
          refine XS.iinc X69.here hx rfl (hb hby d4_86) rfl (l' := #[.val (.ref a1), .val (.int c1), .val (.int (1 : Int32)), .val (.int (c1 - (64 : Int32)))]) rfl ?_
          show Steps p.tables e below (T69.setTop (mkF m 89 #[.val (.ref a1), .val (.int c1), .val (.int (1 : Int32)), .val (.int (c1 - (64 : Int32)))] [])) _
          refine XS.goto X69.here hx rfl (pc0 := 89) (pc' := 32) rfl (hb hby d4_89) (by decide) (by decide) ?_
          exact kt
        refine ⟨T69, _, N69, X69, (by rw [e69, hu1, own_upC c53_58]; exact ⟨K69, (Exa.wr W69 Ea44), (Fld.other W69 Ff44 (Or.inl hne)), (Fld.other W69 Fg44 (Or.inl hne)), V69⟩), fun tt kt => pre70 tt ?_⟩
        exact kt
    have pre71 : ∀ tt, Steps p.tables e below (T54.setTop (mkF m 32 #[.val (.ref a1), .val (.int c1), .val (.int (1 : Int32)), .val (.int (c1 - (64 : Int32)))] [])) tt → Steps p.tables e below (s₁.setTop (entryFrame m #[(.ref a1), (.int c1)] 4)) tt := by
      intro tt kt
      refine pre53 tt ?_
      show Steps p.tables e below (T44.setTop (mkF m 32 #[.val (.ref a1), .val (.int c1), .val (.int (0 : Int32)), .unset] [])) _
      refine st54 _ ?_
      exact kt
    obtain ⟨T72, L72, N72, X72, ⟨K72, Ea72, Ff72, Fg72, Vb72⟩, st72⟩ : ∃ (T' : State) (L' : List Loc), Fr n0 L' ∧ Stand p l e ({ frames := 0, cells := 0, slots := 0, locals := 0 } : Room) s m #[(.ref a1), (.int c1)] below meth c T' L' 0 0 ∧ (Keep h0 T'.heap [a1, b] ∧ Exa Z T'.heap a1 "com/example/phase7/phase7/metadata/FieldSet" ∧ Fld Z T'.heap a1 "com/example/phase7/phase7/metadata/FieldSet" "first" "J" (.long u0) ∧ Fld Z T'.heap a1 "com/example/phase7/phase7/metadata/FieldSet" "further" "[J" (.ref b) ∧ Arv Z T'.heap b kb .long (2 : Int32) [(.long u1), (.long u2), (.long v3)] (.long (0 : Int64))) ∧ ∀ tt, Steps p.tables e below (T'.setTop (mkF m 32 #[.val (.ref a1), .val (.int c1), .val (.int (2 : Int32)), .val (.int (c1 - (128 : Int32)))] [])) tt → Steps p.tables e below (T54.setTop (mkF m 32 #[.val (.ref a1), .val (.int c1), .val (.int (1 : Int32)), .val (.int (c1 - (64 : Int32)))] [])) tt := by
      have pid72 : ∀ tt, Steps p.tables e below (T54.setTop (mkF m 32 #[.val (.ref a1), .val (.int c1), .val (.int (1 : Int32)), .val (.int (c1 - (64 : Int32)))] [])) tt → Steps p.tables e below (T54.setTop (mkF m 32 #[.val (.ref a1), .val (.int c1), .val (.int (1 : Int32)), .val (.int (c1 - (64 : Int32)))] [])) tt := fun tt kt => kt
      obtain ⟨T73, X73, e73, st73⟩ := getF X54 hx hZ hown (host := "") (Or.inl (hw _ (List.mem_of_getElem? (i := 12) rfl))) Via.refl rfl Fg54 (g := (mkF m 34 #[.val (.ref a1), .val (.int c1), .val (.int (1 : Int32)), .val (.int (c1 - (64 : Int32)))] [(.ref a1), (.int (1 : Int32))])) rfl rfl (hb hby d4_34)
      have VO74 := Vb54
      obtain ⟨cl74, Ar74, q74, S74, M74, H74, G74⟩ := VO74
      have pre75 : ∀ tt, Steps p.tables e below (T73.setTop (mkF m 53 #[.val (.ref a1), .val (.int c1), .val (.int (1 : Int32)), .val (.int (c1 - (128 : Int32)))] [(.int (64 : Int32)), (.int (c1 - (128 : Int32)))])) tt → Steps p.tables e below (T54.setTop (mkF m 32 #[.val (.ref a1), .val (.int c1), .val (.int (1 : Int32)), .val (.int (c1 - (64 : Int32)))] [])) tt := by
        intro tt kt
        refine pid72 tt ?_
        show Steps p.tables e below (T54.setTop (mkF m 32 #[.val (.ref a1), .val (.int c1), .val (.int (1 : Int32)), .val (.int (c1 - (64 : Int32)))] [])) _
        refine XS.iloadN X54.here hx rfl (hb hby d4_32) rfl ?_
        show Steps p.tables e below (T54.setTop (mkF m 33 #[.val (.ref a1), .val (.int c1), .val (.int (1 : Int32)), .val (.int (c1 - (64 : Int32)))] [(.int (1 : Int32))])) _
        refine XS.aloadN X54.here hx rfl (hb hby d4_33) rfl rfl ?_
        show Steps p.tables e below (T54.setTop (mkF m 34 #[.val (.ref a1), .val (.int c1), .val (.int (1 : Int32)), .val (.int (c1 - (64 : Int32)))] [(.ref a1), (.int (1 : Int32))])) _
        refine st73 _ ?_
        show Steps p.tables e below (T73.setTop (mkF m 37 #[.val (.ref a1), .val (.int c1), .val (.int (1 : Int32)), .val (.int (c1 - (64 : Int32)))] [(.ref b), (.int (1 : Int32))])) _
        refine X73.arraylength hx (by rw [e73]; exact Ar74.1) (State.isArrayOf_alike hZ.alike Ar74.2.1) (g := (mkF m 37 #[.val (.ref a1), .val (.int c1), .val (.int (1 : Int32)), .val (.int (c1 - (64 : Int32)))] [(.ref b), (.int (1 : Int32))])) rfl rfl (hb hby d4_37) _ ?_
        rw [len_of S74 M74]
        show Steps p.tables e below (T73.setTop (mkF m 38 #[.val (.ref a1), .val (.int c1), .val (.int (1 : Int32)), .val (.int (c1 - (64 : Int32)))] [(.int (2 : Int32)), (.int (1 : Int32))])) _
        refine XS.icmpNo X73.here hx rfl (hb hby d4_38) rfl (tlt (by decide : (1 : Int32) < (2 : Int32))).2.1 ?_
        show Steps p.tables e below (T73.setTop (mkF m 41 #[.val (.ref a1), .val (.int c1), .val (.int (1 : Int32)), .val (.int (c1 - (64 : Int32)))] [])) _
        refine XS.iloadN X73.here hx rfl (hb hby d4_41) rfl ?_
        show Steps p.tables e below (T73.setTop (mkF m 42 #[.val (.ref a1), .val (.int c1), .val (.int (1 : Int32)), .val (.int (c1 - (64 : Int32)))] [(.int c1)])) _
        refine XS.iloadN X73.here hx rfl (hb hby d4_42) rfl ?_
        show Steps p.tables e below (T73.setTop (mkF m 43 #[.val (.ref a1), .val (.int c1), .val (.int (1 : Int32)), .val (.int (c1 - (64 : Int32)))] [(.int (1 : Int32)), (.int c1)])) _
        refine XS.iconst X73.here hx rfl (hb hby d4_43) ?_
        show Steps p.tables e below (T73.setTop (mkF m 44 #[.val (.ref a1), .val (.int c1), .val (.int (1 : Int32)), .val (.int (c1 - (64 : Int32)))] [(.int (1 : Int32)), (.int (1 : Int32)), (.int c1)])) _
        refine XS.iadd X73.here hx rfl (hb hby d4_44) rfl ?_
        show Steps p.tables e below (T73.setTop (mkF m 45 #[.val (.ref a1), .val (.int c1), .val (.int (1 : Int32)), .val (.int (c1 - (64 : Int32)))] [(.int (2 : Int32)), (.int c1)])) _
        refine XS.bipush X73.here hx rfl (hb hby d4_45) ?_
        show Steps p.tables e below (T73.setTop (mkF m 47 #[.val (.ref a1), .val (.int c1), .val (.int (1 : Int32)), .val (.int (c1 - (64 : Int32)))] [(.int (64 : Int32)), (.int (2 : Int32)), (.int c1)])) _
        refine XS.imul X73.here hx rfl (hb hby d4_47) rfl ?_
        show Steps p.tables e below (T73.setTop (mkF m 48 #[.val (.ref a1), .val (.int c1), .val (.int (1 : Int32)), .val (.int (c1 - (64 : Int32)))] [(.int (128 : Int32)), (.int c1)])) _
        refine XS.isub X73.here hx rfl (hb hby d4_48) rfl ?_
        show Steps p.tables e below (T73.setTop (mkF m 49 #[.val (.ref a1), .val (.int c1), .val (.int (1 : Int32)), .val (.int (c1 - (64 : Int32)))] [(.int (c1 - (128 : Int32)))])) _
        refine XS.istoreN X73.here hx rfl (hb hby d4_49) rfl (l' := #[.val (.ref a1), .val (.int c1), .val (.int (1 : Int32)), .val (.int (c1 - (128 : Int32)))]) rfl ?_
        show Steps p.tables e below (T73.setTop (mkF m 50 #[.val (.ref a1), .val (.int c1), .val (.int (1 : Int32)), .val (.int (c1 - (128 : Int32)))] [])) _
        refine XS.iloadN X73.here hx rfl (hb hby d4_50) rfl ?_
        show Steps p.tables e below (T73.setTop (mkF m 51 #[.val (.ref a1), .val (.int c1), .val (.int (1 : Int32)), .val (.int (c1 - (128 : Int32)))] [(.int (c1 - (128 : Int32)))])) _
        refine XS.bipush X73.here hx rfl (hb hby d4_51) ?_
        exact kt
      by_cases c53_76 : (c1 - (128 : Int32)) < (64 : Int32)
      · have pre77 : ∀ tt, Steps p.tables e below (T73.setTop (mkF m 69 #[.val (.ref a1), .val (.int c1), .val (.int (1 : Int32)), .val (.int (c1 - (128 : Int32)))] [(.int (c1 - (128 : Int32)))])) tt → Steps p.tables e below (T54.setTop (mkF m 32 #[.val (.ref a1), .val (.int c1), .val (.int (1 : Int32)), .val (.int (c1 - (64 : Int32)))] [])) tt := by
          intro tt kt
          refine pre75 tt ?_
          show Steps p.tables e below (T73.setTop (mkF m 53 #[.val (.ref a1), .val (.int c1), .val (.int (1 : Int32)), .val (.int (c1 - (128 : Int32)))] [(.int (64 : Int32)), (.int (c1 - (128 : Int32)))])) _
          refine XS.icmpYes X73.here hx rfl (pc0 := 53) (pc' := 68) rfl (hb hby d4_53) rfl (tlt c53_76).1 (by decide) (by decide) ?_
          show Steps p.tables e below (T73.setTop (mkF m 68 #[.val (.ref a1), .val (.int c1), .val (.int (1 : Int32)), .val (.int (c1 - (128 : Int32)))] [])) _
          refine XS.iloadN X73.here hx rfl (hb hby d4_68) rfl ?_
          exact kt
        by_cases c69_78 : (0 : Int32) < (c1 - (128 : Int32))
        · obtain ⟨T79, X79, e79, st79⟩ := getF X73 hx hZ hown (host := "") (Or.inl (hw _ (List.mem_of_getElem? (i := 12) rfl))) Via.refl e73 Fg54 (g := (mkF m 73 #[.val (.ref a1), .val (.int c1), .val (.int (1 : Int32)), .val (.int (c1 - (128 : Int32)))] [(.ref a1)])) rfl rfl (hb hby d4_73)
          have VO80 := Vb54
          obtain ⟨cl80, Ar80, q80, S80, M80, H80, G80⟩ := VO80
          have hin80 : ¬ ((1 : Int32) < 0 ∨ cl80.slots.size ≤ ((1 : Int32)).toNatClampNeg) := inb_of S80 ⟨by decide, by decide⟩
          have hat80 : cl80.slots[((1 : Int32)).toNatClampNeg]? = some (.long v2) := H80.at hin80 rfl
          have VO81 := Vb54
          obtain ⟨cl81, Ar81, q81, S81, M81, H81, G81⟩ := VO81
          have hin81 : ¬ ((1 : Int32) < 0 ∨ cl81.slots.size ≤ ((1 : Int32)).toNatClampNeg) := inb_of S81 ⟨by decide, by decide⟩
          obtain ⟨T82, h82, X82, e82, W82, st82⟩ := stJ X79 hx hZ e79 Ar81 (j := (1 : Int32)) hin81 (g := (mkF m 85 #[.val (.ref a1), .val (.int c1), .val (.int (1 : Int32)), .val (.int (c1 - (128 : Int32)))] [(.long (v2 ||| (((1 : Int64) <<< ((c1 - (128 : Int32)) &&& 0x3f).toInt64) - (1 : Int64)))), (.int (1 : Int32)), (.ref b)])) rfl rfl (hb hby d4_85)
          have N82 := Fr.snoc X82 N54 g_b
          have K82 : Keep h0 h82 [a1, b] := (K54).wr W82 (Or.inl (List.mem_of_getElem? (i := 1) rfl))
          have V82 : Arv Z h82 b kb .long (2 : Int32) [(.long u1), (.long (v2 ||| (((1 : Int64) <<< ((c1 - (128 : Int32)) &&& 0x3f).toInt64) - (1 : Int64)))), (.long v3)] (.long (0 : Int64)) := Arv.set Ar81 q81 S81 M81 H81 G81 rfl W82 1 rfl (Nat.le_of_ble_eq_true rfl)
          have pre83 : ∀ tt, Steps p.tables e below (T82.setTop (mkF m 32 #[.val (.ref a1), .val (.int c1), .val (.int (2 : Int32)), .val (.int (c1 - (128 : Int32)))] [])) tt → Steps p.tables e below (T54.setTop (mkF m 32 #[.val (.ref a1), .val (.int c1), .val (.int (1 : Int32)), .val (.int (c1 - (64 : Int32)))] [])) tt := by
            intro tt kt
            refine pre77 tt ?_
            show Steps p.tables e below (T73.setTop (mkF m 69 #[.val (.ref a1), .val (.int c1), .val (.int (1 : Int32)), .val (.int (c1 - (128 : Int32)))] [(.int (c1 - (128 : Int32)))])) _
            refine XS.ifNo X73.here hx rfl (hb hby d4_69) rfl ((if0 _ _).trans (tlt c69_78).2.2.2) ?_
            show Steps p.tables e below (T73.setTop (mkF m 72 #[.val (.ref a1), .val (.int c1), .val (.int (1 : Int32)), .val (.int (c1 - (128 : Int32)))] [])) _
            refine XS.aloadN X73.here hx rfl (hb hby d4_72) rfl rfl ?_
            show Steps p.tables e below (T73.setTop (mkF m 73 #[.val (.ref a1), .val (.int c1), .val (.int (1 : Int32)), .val (.int (c1 - (128 : Int32)))] [(.ref a1)])) _
            refine st79 _ ?_
            show Steps p.tables e below (T79.setTop (mkF m 76 #[.val (.ref a1), .val (.int c1), .val (.int (1 : Int32)), .val (.int (c1 - (128 : Int32)))] [(.ref b)])) _
            refine XS.iloadN X79.here hx rfl (hb hby d4_76) rfl ?_
            show Steps p.tables e below (T79.setTop (mkF m 77 #[.val (.ref a1), .val (.int c1), .val (.int (1 : Int32)), .val (.int (c1 - (128 : Int32)))] [(.int (1 : Int32)), (.ref b)])) _
            refine XT.dup2 X79.here hx rfl (hb hby d4_77) rfl rfl rfl ?_
            show Steps p.tables e below (T79.setTop (mkF m 78 #[.val (.ref a1), .val (.int c1), .val (.int (1 : Int32)), .val (.int (c1 - (128 : Int32)))] [(.int (1 : Int32)), (.ref b), (.int (1 : Int32)), (.ref b)])) _
            refine X79.laload hx (j := (1 : Int32)) (v := (.long v2)) (by rw [e79]; exact Ar80.1) (State.isArrayOf_alike hZ.alike Ar80.2.1) Ar80.2.2 hin80 hat80 (g := (mkF m 78 #[.val (.ref a1), .val (.int c1), .val (.int (1 : Int32)), .val (.int (c1 - (128 : Int32)))] [(.int (1 : Int32)), (.ref b), (.int (1 : Int32)), (.ref b)])) rfl rfl (hb hby d4_78) _ ?_
            show Steps p.tables e below (T79.setTop (mkF m 79 #[.val (.ref a1), .val (.int c1), .val (.int (1 : Int32)), .val (.int (c1 - (128 : Int32)))] [(.long v2), (.int (1 : Int32)), (.ref b)])) _
            refine XS.lconst X79.here hx rfl (hb hby d4_79) ?_
            show Steps p.tables e below (T79.setTop (mkF m 80 #[.val (.ref a1), .val (.int c1), .val (.int (1 : Int32)), .val (.int (c1 - (128 : Int32)))] [(.long (1 : Int64)), (.long v2), (.int (1 : Int32)), (.ref b)])) _
            refine XS.iloadN X79.here hx rfl (hb hby d4_80) rfl ?_
            show Steps p.tables e below (T79.setTop (mkF m 81 #[.val (.ref a1), .val (.int c1), .val (.int (1 : Int32)), .val (.int (c1 - (128 : Int32)))] [(.int (c1 - (128 : Int32))), (.long (1 : Int64)), (.long v2), (.int (1 : Int32)), (.ref b)])) _
            refine XS.lshl X79.here hx rfl (hb hby d4_81) rfl ?_
            show Steps p.tables e below (T79.setTop (mkF m 82 #[.val (.ref a1), .val (.int c1), .val (.int (1 : Int32)), .val (.int (c1 - (128 : Int32)))] [(.long ((1 : Int64) <<< ((c1 - (128 : Int32)) &&& 0x3f).toInt64)), (.long v2), (.int (1 : Int32)), (.ref b)])) _
            refine XS.lconst X79.here hx rfl (hb hby d4_82) ?_
            show Steps p.tables e below (T79.setTop (mkF m 83 #[.val (.ref a1), .val (.int c1), .val (.int (1 : Int32)), .val (.int (c1 - (128 : Int32)))] [(.long (1 : Int64)), (.long ((1 : Int64) <<< ((c1 - (128 : Int32)) &&& 0x3f).toInt64)), (.long v2), (.int (1 : Int32)), (.ref b)])) _
            refine XS.lsub X79.here hx rfl (hb hby d4_83) rfl ?_
            show Steps p.tables e below (T79.setTop (mkF m 84 #[.val (.ref a1), .val (.int c1), .val (.int (1 : Int32)), .val (.int (c1 - (128 : Int32)))] [(.long (((1 : Int64) <<< ((c1 - (128 : Int32)) &&& 0x3f).toInt64) - (1 : Int64))), (.long v2), (.int (1 : Int32)), (.ref b)])) _
            refine XS.lor X79.here hx rfl (hb hby d4_84) rfl ?_
            show Steps p.tables e below (T79.setTop (mkF m 85 #[.val (.ref a1), .val (.int c1), .val (.int (1 : Int32)), .val (.int (c1 - (128 : Int32)))] [(.long (v2 ||| (((1 : Int64) <<< ((c1 - (128 : Int32)) &&& 0x3f).toInt64) - (1 : Int64)))), (.int (1 : Int32)), (.ref b)])) _
            refine st82 _ ?_
            show Steps p.tables e below (T82.setTop (mkF m 86 #[.val (.ref a1), .val (.int c1), .val (.int (1 : Int32)), .val (.int (c1 - (128 : Int32)))] [])) _
            refine XS.iinc X82.here hx rfl (hb hby d4_86) rfl (l' := #[.val (.ref a1), .val (.int c1), .val (.int (2 : Int32)), .val (.int (c1 - (128 : Int32)))]) rfl ?_
            show Steps p.tables e below (T82.setTop (mkF m 89 #[.val (.ref a1), .val (.int c1), .val (.int (2 : Int32)), .val (.int (c1 - (128 : Int32)))] [])) _
            refine XS.goto X82.here hx rfl (pc0 := 89) (pc' := 32) rfl (hb hby d4_89) (by decide) (by decide) ?_
            exact kt
          refine ⟨T82, _, N82, X82, (by rw [e82, hu2, own_upA c53_76 c69_78]; exact ⟨K82, (Exa.wr W82 Ea54), (Fld.other W82 Ff54 (Or.inl hne)), (Fld.other W82 Fg54 (Or.inl hne)), V82⟩), fun tt kt => pre83 tt ?_⟩
          exact kt
        · have pre84 : ∀ tt, Steps p.tables e below (T73.setTop (mkF m 32 #[.val (.ref a1), .val (.int c1), .val (.int (2 : Int32)), .val (.int (c1 - (128 : Int32)))] [])) tt → Steps p.tables e below (T54.setTop (mkF m 32 #[.val (.ref a1), .val (.int c1), .val (.int (1 : Int32)), .val (.int (c1 - (64 : Int32)))] [])) tt := by
            intro tt kt
            refine pre77 tt ?_
            show Steps p.tables e below (T73.setTop (mkF m 69 #[.val (.ref a1), .val (.int c1), .val (.int (1 : Int32)), .val (.int (c1 - (128 : Int32)))] [(.int (c1 - (128 : Int32)))])) _
            refine XS.ifYes X73.here hx rfl (pc0 := 69) (pc' := 86) rfl (hb hby d4_69) rfl ((if0 _ _).trans (flt c69_78).2.2.2) (by decide) (by decide) ?_
            show Steps p.tables e below (T73.setTop (mkF m 86 #[.val (.ref a1), .val (.int c1), .val (.int (1 : Int32)), .val (.int (c1 - (128 : Int32)))] [])) _
            refine XS.iinc X73.here hx rfl (hb hby d4_86) rfl (l' := #[.val (.ref a1), .val (.int c1), .val (.int (2 : Int32)), .val (.int (c1 - (128 : Int32)))]) rfl ?_
            show Steps p.tables e below (T73.setTop (mkF m 89 #[.val (.ref a1), .val (.int c1), .val (.int (2 : Int32)), .val (.int (c1 - (128 : Int32)))] [])) _
            refine XS.goto X73.here hx rfl (pc0 := 89) (pc' := 32) rfl (hb hby d4_89) (by decide) (by decide) ?_
            exact kt
          refine ⟨T73, _, N54, X73, (by rw [e73, hu2, own_upB c53_76 c69_78]; exact ⟨K54, Ea54, Ff54, Fg54, Vb54⟩), fun tt kt => pre84 tt ?_⟩
          exact kt
      · obtain ⟨T85, X85, e85, st85⟩ := getF X73 hx hZ hown (host := "") (Or.inl (hw _ (List.mem_of_getElem? (i := 12) rfl))) Via.refl e73 Fg54 (g := (mkF m 57 #[.val (.ref a1), .val (.int c1), .val (.int (1 : Int32)), .val (.int (c1 - (128 : Int32)))] [(.ref a1)])) rfl rfl (hb hby d4_57)
        have VO86 := Vb54
        obtain ⟨cl86, Ar86, q86, S86, M86, H86, G86⟩ := VO86
        have hin86 : ¬ ((1 : Int32) < 0 ∨ cl86.slots.size ≤ ((1 : Int32)).toNatClampNeg) := inb_of S86 ⟨by decide, by decide⟩
        obtain ⟨T87, h87, X87, e87, W87, st87⟩ := stJ X85 hx hZ e85 Ar86 (j := (1 : Int32)) hin86 (g := (mkF m 64 #[.val (.ref a1), .val (.int c1), .val (.int (1 : Int32)), .val (.int (c1 - (128 : Int32)))] [(.long (-1 : Int64)), (.int (1 : Int32)), (.ref b)])) rfl rfl (hb hby d4_64)
        have N87 := Fr.snoc X87 N54 g_b
        have K87 : Keep h0 h87 [a1, b] := (K54).wr W87 (Or.inl (List.mem_of_getElem? (i := 1) rfl))
        have V87 : Arv Z h87 b kb .long (2 : Int32) [(.long u1), (.long (-1 : Int64)), (.long v3)] (.long (0 : Int64)) := Arv.set Ar86 q86 S86 M86 H86 G86 rfl W87 1 rfl (Nat.le_of_ble_eq_true rfl)
        have pre88 : ∀ tt, Steps p.tables e below (T87.setTop (mkF m 32 #[.val (.ref a1), .val (.int c1), .val (.int (2 : Int32)), .val (.int (c1 - (128 : Int32)))] [])) tt → Steps p.tables e below (T54.setTop (mkF m 32 #[.val (.ref a1), .val (.int c1), .val (.int (1 : Int32)), .val (.int (c1 - (64 : Int32)))] [])) tt := by
          intro tt kt
          refine pre75 tt ?_
          show Steps p.tables e below (T73.setTop (mkF m 53 #[.val (.ref a1), .val (.int c1), .val (.int (1 : Int32)), .val (.int (c1 - (128 : Int32)))] [(.int (64 : Int32)), (.int (c1 - (128 : Int32)))])) _
          refine XS.icmpNo X73.here hx rfl (hb hby d4_53) rfl (flt c53_76).1 ?_
          show Steps p.tables e below (T73.setTop (mkF m 56 #[.val (.ref a1), .val (.int c1), .val (.int (1 : Int32)), .val (.int (c1 - (128 : Int32)))] [])) _
          refine XS.aloadN X73.here hx rfl (hb hby d4_56) rfl rfl ?_
          show Steps p.tables e below (T73.setTop (mkF m 57 #[.val (.ref a1), .val (.int c1), .val (.int (1 : Int32)), .val (.int (c1 - (128 : Int32)))] [(.ref a1)])) _
          refine st85 _ ?_
          show Steps p.tables e below (T85.setTop (mkF m 60 #[.val (.ref a1), .val (.int c1), .val (.int (1 : Int32)), .val (.int (c1 - (128 : Int32)))] [(.ref b)])) _
          refine XS.iloadN X85.here hx rfl (hb hby d4_60) rfl ?_
          show Steps p.tables e below (T85.setTop (mkF m 61 #[.val (.ref a1), .val (.int c1), .val (.int (1 : Int32)), .val (.int (c1 - (128 : Int32)))] [(.int (1 : Int32)), (.ref b)])) _
          refine X85.ldc2Long hx hown (mvT hZ (hw _ (List.mem_of_getElem? (i := 44) rfl))) (g := (mkF m 61 #[.val (.ref a1), .val (.int c1), .val (.int (1 : Int32)), .val (.int (c1 - (128 : Int32)))] [(.int (1 : Int32)), (.ref b)])) rfl (hb hby d4_61) _ ?_
          show Steps p.tables e below (T85.setTop (mkF m 64 #[.val (.ref a1), .val (.int c1), .val (.int (1 : Int32)), .val (.int (c1 - (128 : Int32)))] [(.long (-1 : Int64)), (.int (1 : Int32)), (.ref b)])) _
          refine st87 _ ?_
          show Steps p.tables e below (T87.setTop (mkF m 65 #[.val (.ref a1), .val (.int c1), .val (.int (1 : Int32)), .val (.int (c1 - (128 : Int32)))] [])) _
          refine XS.goto X87.here hx rfl (pc0 := 65) (pc' := 86) rfl (hb hby d4_65) (by decide) (by decide) ?_
          show Steps p.tables e below (T87.setTop (mkF m 86 #[.val (.ref a1), .val (.int c1), .val (.int (1 : Int32)), .val (.int (c1 - (128 : Int32)))] [])) _
          refine XS.iinc X87.here hx rfl (hb hby d4_86) rfl (l' := #[.val (.ref a1), .val (.int c1), .val (.int (2 : Int32)), .val (.int (c1 - (128 : Int32)))]) rfl ?_
          show Steps p.tables e below (T87.setTop (mkF m 89 #[.val (.ref a1), .val (.int c1), .val (.int (2 : Int32)), .val (.int (c1 - (128 : Int32)))] [])) _
          refine XS.goto X87.here hx rfl (pc0 := 89) (pc' := 32) rfl (hb hby d4_89) (by decide) (by decide) ?_
          exact kt
        refine ⟨T87, _, N87, X87, (by rw [e87, hu2, own_upC c53_76]; exact ⟨K87, (Exa.wr W87 Ea54), (Fld.other W87 Ff54 (Or.inl hne)), (Fld.other W87 Fg54 (Or.inl hne)), V87⟩), fun tt kt => pre88 tt ?_⟩
        exact kt
    have pre89 : ∀ tt, Steps p.tables e below (T72.setTop (mkF m 32 #[.val (.ref a1), .val (.int c1), .val (.int (2 : Int32)), .val (.int (c1 - (128 : Int32)))] [])) tt → Steps p.tables e below (s₁.setTop (entryFrame m #[(.ref a1), (.int c1)] 4)) tt := by
      intro tt kt
      refine pre71 tt ?_
      show Steps p.tables e below (T54.setTop (mkF m 32 #[.val (.ref a1), .val (.int c1), .val (.int (1 : Int32)), .val (.int (c1 - (64 : Int32)))] [])) _
      refine st72 _ ?_
      exact kt
    obtain ⟨T90, X90, e90, st90⟩ := getF X72 hx hZ hown (host := "") (Or.inl (hw _ (List.mem_of_getElem? (i := 12) rfl))) Via.refl rfl Fg72 (g := (mkF m 34 #[.val (.ref a1), .val (.int c1), .val (.int (2 : Int32)), .val (.int (c1 - (128 : Int32)))] [(.ref a1), (.int (2 : Int32))])) rfl rfl (hb hby d4_34)
    have VO91 := Vb72
    obtain ⟨cl91, Ar91, q91, S91, M91, H91, G91⟩ := VO91
    have pre92 : ∀ tt, Steps p.tables e below (T90.setTop (mkF m 92 #[.val (.ref a1), .val (.int c1), .val (.int (2 : Int32)), .val (.int (c1 - (128 : Int32)))] [])) tt → Steps p.tables e below (s₁.setTop (entryFrame m #[(.ref a1), (.int c1)] 4)) tt := by
      intro tt kt
      refine pre89 tt ?_
      show Steps p.tables e below (T72.setTop (mkF m 32 #[.val (.ref a1), .val (.int c1), .val (.int (2 : Int32)), .val (.int (c1 - (128 : Int32)))] [])) _
      refine XS.iloadN X72.here hx rfl (hb hby d4_32) rfl ?_
      show Steps p.tables e below (T72.setTop (mkF m 33 #[.val (.ref a1), .val (.int c1), .val (.int (2 : Int32)), .val (.int (c1 - (128 : Int32)))] [(.int (2 : Int32))])) _
      refine XS.aloadN X72.here hx rfl (hb hby d4_33) rfl rfl ?_
      show Steps p.tables e below (T72.setTop (mkF m 34 #[.val (.ref a1), .val (.int c1), .val (.int (2 : Int32)), .val (.int (c1 - (128 : Int32)))] [(.ref a1), (.int (2 : Int32))])) _
      refine st90 _ ?_
      show Steps p.tables e below (T90.setTop (mkF m 37 #[.val (.ref a1), .val (.int c1), .val (.int (2 : Int32)), .val (.int (c1 - (128 : Int32)))] [(.ref b), (.int (2 : Int32))])) _
      refine X90.arraylength hx (by rw [e90]; exact Ar91.1) (State.isArrayOf_alike hZ.alike Ar91.2.1) (g := (mkF m 37 #[.val (.ref a1), .val (.int c1), .val (.int (2 : Int32)), .val (.int (c1 - (128 : Int32)))] [(.ref b), (.int (2 : Int32))])) rfl rfl (hb hby d4_37) _ ?_
      rw [len_of S91 M91]
      show Steps p.tables e below (T90.setTop (mkF m 38 #[.val (.ref a1), .val (.int c1), .val (.int (2 : Int32)), .val (.int (c1 - (128 : Int32)))] [(.int (2 : Int32)), (.int (2 : Int32))])) _
      refine XS.icmpYes X90.here hx rfl (pc0 := 38) (pc' := 92) rfl (hb hby d4_38) rfl (flt (by decide : ¬ ((2 : Int32) < (2 : Int32)))).2.1 (by decide) (by decide) ?_
      exact kt
    obtain ⟨fs, hr, hrun, hended, hW, hsame⟩ := X90.leave (v := none) (fun _ => rfl)
    refine ⟨_, _, pre92 _ ?_, hrun, hended, _, _, rfl, ?_, ⟨_, rfl⟩, hW, hsame.mono (by decide) (by decide)⟩
    · show Steps p.tables e below (T90.setTop (mkF m 92 #[.val (.ref a1), .val (.int c1), .val (.int (2 : Int32)), .val (.int (c1 - (128 : Int32)))] [])) _
      exact X90.returnOut hx Bd.returns (hb hby d4_92) hr
    · show QA Z a1 b kb (2 : Int32) u0 u1 u2 u3 h0 n0 _ T90.heap _
      rw [e90]
      rw [hu3, own_upZ (hbz.2.2 (by decide))]
      exact ⟨rfl, N72, K72, Ea72, Ff72, Fg72, Vb72⟩
  · have hz3 := hbz
    have g_b : n0 ≤ b := gz (by decide)
    obtain ⟨T93, L93, N93, X93, ⟨K93, Ea93, Ff93, Fg93, Vb93⟩, st93⟩ : ∃ (T' : State) (L' : List Loc), Fr n0 L' ∧ Stand p l e ({ frames := 0, cells := 0, slots := 0, locals := 0 } : Room) s m #[(.ref a1), (.int c1)] below meth c T' L' 0 0 ∧ (Keep h0 T'.heap [a1, b] ∧ Exa Z T'.heap a1 "com/example/phase7/phase7/metadata/FieldSet" ∧ Fld Z T'.heap a1 "com/example/phase7/phase7/metadata/FieldSet" "first" "J" (.long u0) ∧ Fld Z T'.heap a1 "com/example/phase7/phase7/metadata/FieldSet" "further" "[J" (.ref b) ∧ Arv Z T'.heap b kb .long (3 : Int32) [(.long v1), (.long v2), (.long v3)] (.long (0 : Int64))) ∧ ∀ tt, Steps p.tables e below (T'.setTop (mkF m 30 #[.val (.ref a1), .val (.int c1), .unset, .unset] [])) tt → Steps p.tables e below (s₁.setTop (mkF m 0 #[.val (.ref a1), .val (.int c1), .unset, .unset] [])) tt := by
      have pid93 : ∀ tt, Steps p.tables e below (s₁.setTop (mkF m 0 #[.val (.ref a1), .val (.int c1), .unset, .unset] [])) tt → Steps p.tables e below (s₁.setTop (mkF m 0 #[.val (.ref a1), .val (.int c1), .unset, .unset] [])) tt := fun tt kt => kt
      have pre94 : ∀ tt, Steps p.tables e below (s₁.setTop (mkF m 3 #[.val (.ref a1), .val (.int c1), .unset, .unset] [(.int (64 : Int32)), (.int c1)])) tt → Steps p.tables e below (s₁.setTop (mkF m 0 #[.val (.ref a1), .val (.int c1), .unset, .unset] [])) tt := by
        intro tt kt
        refine pid93 tt ?_
        show Steps p.tables e below (s₁.setTop (mkF m 0 #[.val (.ref a1), .val (.int c1), .unset, .unset] [])) _
        refine XS.iloadN X0.here hx rfl (hb hby d4_0) rfl ?_
        show Steps p.tables e below (s₁.setTop (mkF m 1 #[.val (.ref a1), .val (.int c1), .unset, .unset] [(.int c1)])) _
        refine XS.bipush X0.here hx rfl (hb hby d4_1) ?_
        exact kt
      by_cases c3_95 : c1 < (64 : Int32)
      · obtain ⟨T96, X96, e96, st96⟩ := getF X0 hx hZ hown (host := "") (Or.inl (hw _ (List.mem_of_getElem? (i := 19) rfl))) Via.refl e0 F_f (g := (mkF m 18 #[.val (.ref a1), .val (.int c1), .unset, .unset] [(.ref a1), (.ref a1)])) rfl rfl (hb hby d4_18)
        obtain ⟨T97, h97, X97, e97, W97, st97⟩ := putF X96 hx hZ hown (host := "") (Or.inl (hw _ (List.mem_of_getElem? (i := 19) rfl))) Via.refl e96 F_f E_a1 (Or.inl (hw _ (List.mem_of_getElem? (i := 20) rfl))) (hw _ (List.mem_of_getElem? (i := 2) rfl)) (ty := .long) (by decide) rfl rfl (g := (mkF m 27 #[.val (.ref a1), .val (.int c1), .unset, .unset] [(.long (v0 ||| (((1 : Int64) <<< (c1 &&& 0x3f).toInt64) - (1 : Int64)))), (.ref a1)])) rfl rfl (hb hby d4_27)
        have Fw97 := Fld.same W97 F_f
        have N97 := Fr.snoc X97 N0 g_a1
        have K97 : Keep h0 h97 [a1, b] := ((Keep.refl h0 [a1, b])).wr W97 (Or.inl (List.mem_of_getElem? (i := 0) rfl))
        have pre98 : ∀ tt, Steps p.tables e below (T97.setTop (mkF m 30 #[.val (.ref a1), .val (.int c1), .unset, .unset] [])) tt → Steps p.tables e below (s₁.setTop (mkF m 0 #[.val (.ref a1), .val (.int c1), .unset, .unset] [])) tt := by
          intro tt kt
          refine pre94 tt ?_
          show Steps p.tables e below (s₁.setTop (mkF m 3 #[.val (.ref a1), .val (.int c1), .unset, .unset] [(.int (64 : Int32)), (.int c1)])) _
          refine XS.icmpYes X0.here hx rfl (pc0 := 3) (pc' := 16) rfl (hb hby d4_3) rfl (tlt c3_95).1 (by decide) (by decide) ?_
          show Steps p.tables e below (s₁.setTop (mkF m 16 #[.val (.ref a1), .val (.int c1), .unset, .unset] [])) _
          refine XS.aloadN X0.here hx rfl (hb hby d4_16) rfl rfl ?_
          show Steps p.tables e below (s₁.setTop (mkF m 17 #[.val (.ref a1), .val (.int c1), .unset, .unset] [(.ref a1)])) _
          refine XS.dup X0.here hx rfl (hb hby d4_17) rfl rfl ?_
          show Steps p.tables e below (s₁.setTop (mkF m 18 #[.val (.ref a1), .val (.int c1), .unset, .unset] [(.ref a1), (.ref a1)])) _
          refine st96 _ ?_
          show Steps p.tables e below (T96.setTop (mkF m 21 #[.val (.ref a1), .val (.int c1), .unset, .unset] [(.long v0), (.ref a1)])) _
          refine XS.lconst X96.here hx rfl (hb hby d4_21) ?_
          show Steps p.tables e below (T96.setTop (mkF m 22 #[.val (.ref a1), .val (.int c1), .unset, .unset] [(.long (1 : Int64)), (.long v0), (.ref a1)])) _
          refine XS.iloadN X96.here hx rfl (hb hby d4_22) rfl ?_
          show Steps p.tables e below (T96.setTop (mkF m 23 #[.val (.ref a1), .val (.int c1), .unset, .unset] [(.int c1), (.long (1 : Int64)), (.long v0), (.ref a1)])) _
          refine XS.lshl X96.here hx rfl (hb hby d4_23) rfl ?_
          show Steps p.tables e below (T96.setTop (mkF m 24 #[.val (.ref a1), .val (.int c1), .unset, .unset] [(.long ((1 : Int64) <<< (c1 &&& 0x3f).toInt64)), (.long v0), (.ref a1)])) _
          refine XS.lconst X96.here hx rfl (hb hby d4_24) ?_
          show Steps p.tables e below (T96.setTop (mkF m 25 #[.val (.ref a1), .val (.int c1), .unset, .unset] [(.long (1 : Int64)), (.long ((1 : Int64) <<< (c1 &&& 0x3f).toInt64)), (.long v0), (.ref a1)])) _
          refine XS.lsub X96.here hx rfl (hb hby d4_25) rfl ?_
          show Steps p.tables e below (T96.setTop (mkF m 26 #[.val (.ref a1), .val (.int c1), .unset, .unset] [(.long (((1 : Int64) <<< (c1 &&& 0x3f).toInt64) - (1 : Int64))), (.long v0), (.ref a1)])) _
          refine XS.lor X96.here hx rfl (hb hby d4_26) rfl ?_
          show Steps p.tables e below (T96.setTop (mkF m 27 #[.val (.ref a1), .val (.int c1), .unset, .unset] [(.long (v0 ||| (((1 : Int64) <<< (c1 &&& 0x3f).toInt64) - (1 : Int64)))), (.ref a1)])) _
          refine st97 _ ?_
          exact kt
        refine ⟨T97, _, N97, X97, (by rw [e97, hu0, own_up0 hc0 c3_95]; exact ⟨K97, (Exa.wr W97 E_a1), Fw97, (Fld.other W97 F_g (Or.inr (slot_ne (Or.inr (hw _ (List.mem_of_getElem? (i := 13) rfl))) (Or.inl (hw _ (List.mem_of_getElem? (i := 20) rfl))) (by decide) (t := (.array .long)) (t' := .long) (by decide) (by decide)))), (V_b.other W97 (Ne.symm hne))⟩), fun tt kt => pre98 tt ?_⟩
        exact kt
      · obtain ⟨T99, h99, X99, e99, W99, st99⟩ := putF X0 hx hZ hown (host := "") (Or.inl (hw _ (List.mem_of_getElem? (i := 19) rfl))) Via.refl e0 F_f E_a1 (Or.inl (hw _ (List.mem_of_getElem? (i := 20) rfl))) (hw _ (List.mem_of_getElem? (i := 2) rfl)) (ty := .long) (by decide) rfl rfl (g := (mkF m 10 #[.val (.ref a1), .val (.int c1), .unset, .unset] [(.long (-1 : Int64)), (.ref a1)])) rfl rfl (hb hby d4_10)
        have Fw99 := Fld.same W99 F_f
        have N99 := Fr.snoc X99 N0 g_a1
        have K99 : Keep h0 h99 [a1, b] := ((Keep.refl h0 [a1, b])).wr W99 (Or.inl (List.mem_of_getElem? (i := 0) rfl))
        have pre100 : ∀ tt, Steps p.tables e below (T99.setTop (mkF m 30 #[.val (.ref a1), .val (.int c1), .unset, .unset] [])) tt → Steps p.tables e below (s₁.setTop (mkF m 0 #[.val (.ref a1), .val (.int c1), .unset, .unset] [])) tt := by
          intro tt kt
          refine pre94 tt ?_
          show Steps p.tables e below (s₁.setTop (mkF m 3 #[.val (.ref a1), .val (.int c1), .unset, .unset] [(.int (64 : Int32)), (.int c1)])) _
          refine XS.icmpNo X0.here hx rfl (hb hby d4_3) rfl (flt c3_95).1 ?_
          show Steps p.tables e below (s₁.setTop (mkF m 6 #[.val (.ref a1), .val (.int c1), .unset, .unset] [])) _
          refine XS.aloadN X0.here hx rfl (hb hby d4_6) rfl rfl ?_
          show Steps p.tables e below (s₁.setTop (mkF m 7 #[.val (.ref a1), .val (.int c1), .unset, .unset] [(.ref a1)])) _
          refine X0.ldc2Long hx hown (mvT hZ (hw _ (List.mem_of_getElem? (i := 44) rfl))) (g := (mkF m 7 #[.val (.ref a1), .val (.int c1), .unset, .unset] [(.ref a1)])) rfl (hb hby d4_7) _ ?_
          show Steps p.tables e below (s₁.setTop (mkF m 10 #[.val (.ref a1), .val (.int c1), .unset, .unset] [(.long (-1 : Int64)), (.ref a1)])) _
          refine st99 _ ?_
          show Steps p.tables e below (T99.setTop (mkF m 13 #[.val (.ref a1), .val (.int c1), .unset, .unset] [])) _
          refine XS.goto X99.here hx rfl (pc0 := 13) (pc' := 30) rfl (hb hby d4_13) (by decide) (by decide) ?_
          exact kt
        refine ⟨T99, _, N99, X99, (by rw [e99, hu0, own_upC c3_95]; exact ⟨K99, (Exa.wr W99 E_a1), Fw99, (Fld.other W99 F_g (Or.inr (slot_ne (Or.inr (hw _ (List.mem_of_getElem? (i := 13) rfl))) (Or.inl (hw _ (List.mem_of_getElem? (i := 20) rfl))) (by decide) (t := (.array .long)) (t' := .long) (by decide) (by decide)))), (V_b.other W99 (Ne.symm hne))⟩), fun tt kt => pre100 tt ?_⟩
        exact kt
    have pre101 : ∀ tt, Steps p.tables e below (T93.setTop (mkF m 30 #[.val (.ref a1), .val (.int c1), .unset, .unset] [])) tt → Steps p.tables e below (s₁.setTop (entryFrame m #[(.ref a1), (.int c1)] 4)) tt := by
      intro tt kt
      refine pre0 tt ?_
      show Steps p.tables e below (s₁.setTop (mkF m 0 #[.val (.ref a1), .val (.int c1), .unset, .unset] [])) _
      refine st93 _ ?_
      exact kt
    have pre102 : ∀ tt, Steps p.tables e below (T93.setTop (mkF m 32 #[.val (.ref a1), .val (.int c1), .val (.int (0 : Int32)), .unset] [])) tt → Steps p.tables e below (s₁.setTop (entryFrame m #[(.ref a1), (.int c1)] 4)) tt := by
      intro tt kt
      refine pre101 tt ?_
      show Steps p.tables e below (T93.setTop (mkF m 30 #[.val (.ref a1), .val (.int c1), .unset, .unset] [])) _
      refine XS.iconst X93.here hx rfl (hb hby d4_30) ?_
      show Steps p.tables e below (T93.setTop (mkF m 31 #[.val (.ref a1), .val (.int c1), .unset, .unset] [(.int (0 : Int32))])) _
      refine XS.istoreN X93.here hx rfl (hb hby d4_31) rfl (l' := #[.val (.ref a1), .val (.int c1), .val (.int (0 : Int32)), .unset]) rfl ?_
      exact kt
    obtain ⟨T103, L103, N103, X103, ⟨K103, Ea103, Ff103, Fg103, Vb103⟩, st103⟩ : ∃ (T' : State) (L' : List Loc), Fr n0 L' ∧ Stand p l e ({ frames := 0, cells := 0, slots := 0, locals := 0 } : Room) s m #[(.ref a1), (.int c1)] below meth c T' L' 0 0 ∧ (Keep h0 T'.heap [a1, b] ∧ Exa Z T'.heap a1 "com/example/phase7/phase7/metadata/FieldSet" ∧ Fld Z T'.heap a1 "com/example/phase7/phase7/metadata/FieldSet" "first" "J" (.long u0) ∧ Fld Z T'.heap a1 "com/example/phase7/phase7/metadata/FieldSet" "further" "[J" (.ref b) ∧ Arv Z T'.heap b kb .long (3 : Int32) [(.long u1), (.long v2), (.long v3)] (.long (0 : Int64))) ∧ ∀ tt, Steps p.tables e below (T'.setTop (mkF m 32 #[.val (.ref a1), .val (.int c1), .val (.int (1 : Int32)), .val (.int (c1 - (64 : Int32)))] [])) tt → Steps p.tables e below (T93.setTop (mkF m 32 #[.val (.ref a1), .val (.int c1), .val (.int (0 : Int32)), .unset] [])) tt := by
      have pid103 : ∀ tt, Steps p.tables e below (T93.setTop (mkF m 32 #[.val (.ref a1), .val (.int c1), .val (.int (0 : Int32)), .unset] [])) tt → Steps p.tables e below (T93.setTop (mkF m 32 #[.val (.ref a1), .val (.int c1), .val (.int (0 : Int32)), .unset] [])) tt := fun tt kt => kt
      obtain ⟨T104, X104, e104, st104⟩ := getF X93 hx hZ hown (host := "") (Or.inl (hw _ (List.mem_of_getElem? (i := 12) rfl))) Via.refl rfl Fg93 (g := (mkF m 34 #[.val (.ref a1), .val (.int c1), .val (.int (0 : Int32)), .unset] [(.ref a1), (.int (0 : Int32))])) rfl rfl (hb hby d4_34)
      have VO105 := Vb93
      obtain ⟨cl105, Ar105, q105, S105, M105, H105, G105⟩ := VO105
      have pre106 : ∀ tt, Steps p.tables e below (T104.setTop (mkF m 53 #[.val (.ref a1), .val (.int c1), .val (.int (0 : Int32)), .val (.int (c1 - (64 : Int32)))] [(.int (64 : Int32)), (.int (c1 - (64 : Int32)))])) tt → Steps p.tables e below (T93.setTop (mkF m 32 #[.val (.ref a1), .val (.int c1), .val (.int (0 : Int32)), .unset] [])) tt := by
        intro tt kt
        refine pid103 tt ?_
        show Steps p.tables e below (T93.setTop (mkF m 32 #[.val (.ref a1), .val (.int c1), .val (.int (0 : Int32)), .unset] [])) _
        refine XS.iloadN X93.here hx rfl (hb hby d4_32) rfl ?_
        show Steps p.tables e below (T93.setTop (mkF m 33 #[.val (.ref a1), .val (.int c1), .val (.int (0 : Int32)), .unset] [(.int (0 : Int32))])) _
        refine XS.aloadN X93.here hx rfl (hb hby d4_33) rfl rfl ?_
        show Steps p.tables e below (T93.setTop (mkF m 34 #[.val (.ref a1), .val (.int c1), .val (.int (0 : Int32)), .unset] [(.ref a1), (.int (0 : Int32))])) _
        refine st104 _ ?_
        show Steps p.tables e below (T104.setTop (mkF m 37 #[.val (.ref a1), .val (.int c1), .val (.int (0 : Int32)), .unset] [(.ref b), (.int (0 : Int32))])) _
        refine X104.arraylength hx (by rw [e104]; exact Ar105.1) (State.isArrayOf_alike hZ.alike Ar105.2.1) (g := (mkF m 37 #[.val (.ref a1), .val (.int c1), .val (.int (0 : Int32)), .unset] [(.ref b), (.int (0 : Int32))])) rfl rfl (hb hby d4_37) _ ?_
        rw [len_of S105 M105]
        show Steps p.tables e below (T104.setTop (mkF m 38 #[.val (.ref a1), .val (.int c1), .val (.int (0 : Int32)), .unset] [(.int (3 : Int32)), (.int (0 : Int32))])) _
        refine XS.icmpNo X104.here hx rfl (hb hby d4_38) rfl (tlt (by decide : (0 : Int32) < (3 : Int32))).2.1 ?_
        show Steps p.tables e below (T104.setTop (mkF m 41 #[.val (.ref a1), .val (.int c1), .val (.int (0 : Int32)), .unset] [])) _
        refine XS.iloadN X104.here hx rfl (hb hby d4_41) rfl ?_
        show Steps p.tables e below (T104.setTop (mkF m 42 #[.val (.ref a1), .val (.int c1), .val (.int (0 : Int32)), .unset] [(.int c1)])) _
        refine XS.iloadN X104.here hx rfl (hb hby d4_42) rfl ?_
        show Steps p.tables e below (T104.setTop (mkF m 43 #[.val (.ref a1), .val (.int c1), .val (.int (0 : Int32)), .unset] [(.int (0 : Int32)), (.int c1)])) _
        refine XS.iconst X104.here hx rfl (hb hby d4_43) ?_
        show Steps p.tables e below (T104.setTop (mkF m 44 #[.val (.ref a1), .val (.int c1), .val (.int (0 : Int32)), .unset] [(.int (1 : Int32)), (.int (0 : Int32)), (.int c1)])) _
        refine XS.iadd X104.here hx rfl (hb hby d4_44) rfl ?_
        show Steps p.tables e below (T104.setTop (mkF m 45 #[.val (.ref a1), .val (.int c1), .val (.int (0 : Int32)), .unset] [(.int (1 : Int32)), (.int c1)])) _
        refine XS.bipush X104.here hx rfl (hb hby d4_45) ?_
        show Steps p.tables e below (T104.setTop (mkF m 47 #[.val (.ref a1), .val (.int c1), .val (.int (0 : Int32)), .unset] [(.int (64 : Int32)), (.int (1 : Int32)), (.int c1)])) _
        refine XS.imul X104.here hx rfl (hb hby d4_47) rfl ?_
        show Steps p.tables e below (T104.setTop (mkF m 48 #[.val (.ref a1), .val (.int c1), .val (.int (0 : Int32)), .unset] [(.int (64 : Int32)), (.int c1)])) _
        refine XS.isub X104.here hx rfl (hb hby d4_48) rfl ?_
        show Steps p.tables e below (T104.setTop (mkF m 49 #[.val (.ref a1), .val (.int c1), .val (.int (0 : Int32)), .unset] [(.int (c1 - (64 : Int32)))])) _
        refine XS.istoreN X104.here hx rfl (hb hby d4_49) rfl (l' := #[.val (.ref a1), .val (.int c1), .val (.int (0 : Int32)), .val (.int (c1 - (64 : Int32)))]) rfl ?_
        show Steps p.tables e below (T104.setTop (mkF m 50 #[.val (.ref a1), .val (.int c1), .val (.int (0 : Int32)), .val (.int (c1 - (64 : Int32)))] [])) _
        refine XS.iloadN X104.here hx rfl (hb hby d4_50) rfl ?_
        show Steps p.tables e below (T104.setTop (mkF m 51 #[.val (.ref a1), .val (.int c1), .val (.int (0 : Int32)), .val (.int (c1 - (64 : Int32)))] [(.int (c1 - (64 : Int32)))])) _
        refine XS.bipush X104.here hx rfl (hb hby d4_51) ?_
        exact kt
      by_cases c53_107 : (c1 - (64 : Int32)) < (64 : Int32)
      · have pre108 : ∀ tt, Steps p.tables e below (T104.setTop (mkF m 69 #[.val (.ref a1), .val (.int c1), .val (.int (0 : Int32)), .val (.int (c1 - (64 : Int32)))] [(.int (c1 - (64 : Int32)))])) tt → Steps p.tables e below (T93.setTop (mkF m 32 #[.val (.ref a1), .val (.int c1), .val (.int (0 : Int32)), .unset] [])) tt := by
          intro tt kt
          refine pre106 tt ?_
          show Steps p.tables e below (T104.setTop (mkF m 53 #[.val (.ref a1), .val (.int c1), .val (.int (0 : Int32)), .val (.int (c1 - (64 : Int32)))] [(.int (64 : Int32)), (.int (c1 - (64 : Int32)))])) _
          refine XS.icmpYes X104.here hx rfl (pc0 := 53) (pc' := 68) rfl (hb hby d4_53) rfl (tlt c53_107).1 (by decide) (by decide) ?_
          show Steps p.tables e below (T104.setTop (mkF m 68 #[.val (.ref a1), .val (.int c1), .val (.int (0 : Int32)), .val (.int (c1 - (64 : Int32)))] [])) _
          refine XS.iloadN X104.here hx rfl (hb hby d4_68) rfl ?_
          exact kt
        by_cases c69_109 : (0 : Int32) < (c1 - (64 : Int32))
        · obtain ⟨T110, X110, e110, st110⟩ := getF X104 hx hZ hown (host := "") (Or.inl (hw _ (List.mem_of_getElem? (i := 12) rfl))) Via.refl e104 Fg93 (g := (mkF m 73 #[.val (.ref a1), .val (.int c1), .val (.int (0 : Int32)), .val (.int (c1 - (64 : Int32)))] [(.ref a1)])) rfl rfl (hb hby d4_73)
          have VO111 := Vb93
          obtain ⟨cl111, Ar111, q111, S111, M111, H111, G111⟩ := VO111
          have hin111 : ¬ ((0 : Int32) < 0 ∨ cl111.slots.size ≤ ((0 : Int32)).toNatClampNeg) := inb_of S111 ⟨by decide, by decide⟩
          have hat111 : cl111.slots[((0 : Int32)).toNatClampNeg]? = some (.long v1) := H111.at hin111 rfl
          have VO112 := Vb93
          obtain ⟨cl112, Ar112, q112, S112, M112, H112, G112⟩ := VO112
          have hin112 : ¬ ((0 : Int32) < 0 ∨ cl112.slots.size ≤ ((0 : Int32)).toNatClampNeg) := inb_of S112 ⟨by decide, by decide⟩
          obtain ⟨T113, h113, X113, e113, W113, st113⟩ := stJ X110 hx hZ e110 Ar112 (j := (0 : Int32)) hin112 (g := (mkF m 85 #[.val (.ref a1), .val (.int c1), .val (.int (0 : Int32)), .val (.int (c1 - (64 : Int32)))] [(.long (v1 ||| (((1 : Int64) <<< ((c1 - (64 : Int32)) &&& 0x3f).toInt64) - (1 : Int64)))), (.int (0 : Int32)), (.ref b)])) rfl rfl (hb hby d4_85)
          have N113 := Fr.snoc X113 N93 g_b
          have K113 : Keep h0 h113 [a1, b] := (K93).wr W113 (Or.inl (List.mem_of_getElem? (i := 1) rfl))
          have V113 : Arv Z h113 b kb .long (3 : Int32) [(.long (v1 ||| (((1 : Int64) <<< ((c1 - (64 : Int32)) &&& 0x3f).toInt64) - (1 : Int64)))), (.long v2), (.long v3)] (.long (0 : Int64)) := Arv.set Ar112 q112 S112 M112 H112 G112 rfl W113 0 rfl (Nat.le_of_ble_eq_true rfl)
          have pre114 : ∀ tt, Steps p.tables e below (T113.setTop (mkF m 32 #[.val (.ref a1), .val (.int c1), .val (.int (1 : Int32)), .val (.int (c1 - (64 : Int32)))] [])) tt → Steps p.tables e below (T93.setTop (mkF m 32 #[.val (.ref a1), .val (.int c1), .val (.int (0 : Int32)), .unset] [])) tt := by
            intro tt kt
            refine pre108 tt ?_
            show Steps p.tables e below (T104.setTop (mkF m 69 #[.val (.ref a1), .val (.int c1), .val (.int (0 : Int32)), .val (.int (c1 - (64 : Int32)))] [(.int (c1 - (64 : Int32)))])) _
            refine XS.ifNo X104.here hx rfl (hb hby d4_69) rfl ((if0 _ _).trans (tlt c69_109).2.2.2) ?_
            show Steps p.tables e below (T104.setTop (mkF m 72 #[.val (.ref a1), .val (.int c1), .val (.int (0 : Int32)), .val (.int (c1 - (64 : Int32)))] [])) _
            refine XS.aloadN X104.here hx rfl (hb hby d4_72) rfl rfl ?_
            show Steps p.tables e below (T104.setTop (mkF m 73 #[.val (.ref a1), .val (.int c1), .val (.int (0 : Int32)), .val (.int (c1 - (64 : Int32)))] [(.ref a1)])) _
            refine st110 _ ?_
            show Steps p.tables e below (T110.setTop (mkF m 76 #[.val (.ref a1), .val (.int c1), .val (.int (0 : Int32)), .val (.int (c1 - (64 : Int32)))] [(.ref b)])) _
            refine XS.iloadN X110.here hx rfl (hb hby d4_76) rfl ?_
            show Steps p.tables e below (T110.setTop (mkF m 77 #[.val (.ref a1), .val (.int c1), .val (.int (0 : Int32)), .val (.int (c1 - (64 : Int32)))] [(.int (0 : Int32)), (.ref b)])) _
            refine XT.dup2 X110.here hx rfl (hb hby d4_77) rfl rfl rfl ?_
            show Steps p.tables e below (T110.setTop (mkF m 78 #[.val (.ref a1), .val (.int c1), .val (.int (0 : Int32)), .val (.int (c1 - (64 : Int32)))] [(.int (0 : Int32)), (.ref b), (.int (0 : Int32)), (.ref b)])) _
            refine X110.laload hx (j := (0 : Int32)) (v := (.long v1)) (by rw [e110]; exact Ar111.1) (State.isArrayOf_alike hZ.alike Ar111.2.1) Ar111.2.2 hin111 hat111 (g := (mkF m 78 #[.val (.ref a1), .val (.int c1), .val (.int (0 : Int32)), .val (.int (c1 - (64 : Int32)))] [(.int (0 : Int32)), (.ref b), (.int (0 : Int32)), (.ref b)])) rfl rfl (hb hby d4_78) _ ?_
            show Steps p.tables e below (T110.setTop (mkF m 79 #[.val (.ref a1), .val (.int c1), .val (.int (0 : Int32)), .val (.int (c1 - (64 : Int32)))] [(.long v1), (.int (0 : Int32)), (.ref b)])) _
            refine XS.lconst X110.here hx rfl (hb hby d4_79) ?_
            show Steps p.tables e below (T110.setTop (mkF m 80 #[.val (.ref a1), .val (.int c1), .val (.int (0 : Int32)), .val (.int (c1 - (64 : Int32)))] [(.long (1 : Int64)), (.long v1), (.int (0 : Int32)), (.ref b)])) _
            refine XS.iloadN X110.here hx rfl (hb hby d4_80) rfl ?_
            show Steps p.tables e below (T110.setTop (mkF m 81 #[.val (.ref a1), .val (.int c1), .val (.int (0 : Int32)), .val (.int (c1 - (64 : Int32)))] [(.int (c1 - (64 : Int32))), (.long (1 : Int64)), (.long v1), (.int (0 : Int32)), (.ref b)])) _
            refine XS.lshl X110.here hx rfl (hb hby d4_81) rfl ?_
            show Steps p.tables e below (T110.setTop (mkF m 82 #[.val (.ref a1), .val (.int c1), .val (.int (0 : Int32)), .val (.int (c1 - (64 : Int32)))] [(.long ((1 : Int64) <<< ((c1 - (64 : Int32)) &&& 0x3f).toInt64)), (.long v1), (.int (0 : Int32)), (.ref b)])) _
            refine XS.lconst X110.here hx rfl (hb hby d4_82) ?_
            show Steps p.tables e below (T110.setTop (mkF m 83 #[.val (.ref a1), .val (.int c1), .val (.int (0 : Int32)), .val (.int (c1 - (64 : Int32)))] [(.long (1 : Int64)), (.long ((1 : Int64) <<< ((c1 - (64 : Int32)) &&& 0x3f).toInt64)), (.long v1), (.int (0 : Int32)), (.ref b)])) _
            refine XS.lsub X110.here hx rfl (hb hby d4_83) rfl ?_
            show Steps p.tables e below (T110.setTop (mkF m 84 #[.val (.ref a1), .val (.int c1), .val (.int (0 : Int32)), .val (.int (c1 - (64 : Int32)))] [(.long (((1 : Int64) <<< ((c1 - (64 : Int32)) &&& 0x3f).toInt64) - (1 : Int64))), (.long v1), (.int (0 : Int32)), (.ref b)])) _
            refine XS.lor X110.here hx rfl (hb hby d4_84) rfl ?_
            show Steps p.tables e below (T110.setTop (mkF m 85 #[.val (.ref a1), .val (.int c1), .val (.int (0 : Int32)), .val (.int (c1 - (64 : Int32)))] [(.long (v1 ||| (((1 : Int64) <<< ((c1 - (64 : Int32)) &&& 0x3f).toInt64) - (1 : Int64)))), (.int (0 : Int32)), (.ref b)])) _
            refine st113 _ ?_
            show Steps p.tables e below (T113.setTop (mkF m 86 #[.val (.ref a1), .val (.int c1), .val (.int (0 : Int32)), .val (.int (c1 - (64 : Int32)))] [])) _
            refine XS.iinc X113.here hx rfl (hb hby d4_86) rfl (l' := #[.val (.ref a1), .val (.int c1), .val (.int (1 : Int32)), .val (.int (c1 - (64 : Int32)))]) rfl ?_
            show Steps p.tables e below (T113.setTop (mkF m 89 #[.val (.ref a1), .val (.int c1), .val (.int (1 : Int32)), .val (.int (c1 - (64 : Int32)))] [])) _
            refine XS.goto X113.here hx rfl (pc0 := 89) (pc' := 32) rfl (hb hby d4_89) (by decide) (by decide) ?_
            exact kt
          refine ⟨T113, _, N113, X113, (by rw [e113, hu1, own_upA c53_107 c69_109]; exact ⟨K113, (Exa.wr W113 Ea93), (Fld.other W113 Ff93 (Or.inl hne)), (Fld.other W113 Fg93 (Or.inl hne)), V113⟩), fun tt kt => pre114 tt ?_⟩
          exact kt
        · have pre115 : ∀ tt, Steps p.tables e below (T104.setTop (mkF m 32 #[.val (.ref a1), .val (.int c1), .val (.int (1 : Int32)), .val (.int (c1 - (64 : Int32)))] [])) tt → Steps p.tables e below (T93.setTop (mkF m 32 #[.val (.ref a1), .val (.int c1), .val (.int (0 : Int32)), .unset] [])) tt := by
            intro tt kt
            refine pre108 tt ?_
            show Steps p.tables e below (T104.setTop (mkF m 69 #[.val (.ref a1), .val (.int c1), .val (.int (0 : Int32)), .val (.int (c1 - (64 : Int32)))] [(.int (c1 - (64 : Int32)))])) _
            refine XS.ifYes X104.here hx rfl (pc0 := 69) (pc' := 86) rfl (hb hby d4_69) rfl ((if0 _ _).trans (flt c69_109).2.2.2) (by decide) (by decide) ?_
            show Steps p.tables e below (T104.setTop (mkF m 86 #[.val (.ref a1), .val (.int c1), .val (.int (0 : Int32)), .val (.int (c1 - (64 : Int32)))] [])) _
            refine XS.iinc X104.here hx rfl (hb hby d4_86) rfl (l' := #[.val (.ref a1), .val (.int c1), .val (.int (1 : Int32)), .val (.int (c1 - (64 : Int32)))]) rfl ?_
            show Steps p.tables e below (T104.setTop (mkF m 89 #[.val (.ref a1), .val (.int c1), .val (.int (1 : Int32)), .val (.int (c1 - (64 : Int32)))] [])) _
            refine XS.goto X104.here hx rfl (pc0 := 89) (pc' := 32) rfl (hb hby d4_89) (by decide) (by decide) ?_
            exact kt
          refine ⟨T104, _, N93, X104, (by rw [e104, hu1, own_upB c53_107 c69_109]; exact ⟨K93, Ea93, Ff93, Fg93, Vb93⟩), fun tt kt => pre115 tt ?_⟩
          exact kt
      · obtain ⟨T116, X116, e116, st116⟩ := getF X104 hx hZ hown (host := "") (Or.inl (hw _ (List.mem_of_getElem? (i := 12) rfl))) Via.refl e104 Fg93 (g := (mkF m 57 #[.val (.ref a1), .val (.int c1), .val (.int (0 : Int32)), .val (.int (c1 - (64 : Int32)))] [(.ref a1)])) rfl rfl (hb hby d4_57)
        have VO117 := Vb93
        obtain ⟨cl117, Ar117, q117, S117, M117, H117, G117⟩ := VO117
        have hin117 : ¬ ((0 : Int32) < 0 ∨ cl117.slots.size ≤ ((0 : Int32)).toNatClampNeg) := inb_of S117 ⟨by decide, by decide⟩
        obtain ⟨T118, h118, X118, e118, W118, st118⟩ := stJ X116 hx hZ e116 Ar117 (j := (0 : Int32)) hin117 (g := (mkF m 64 #[.val (.ref a1), .val (.int c1), .val (.int (0 : Int32)), .val (.int (c1 - (64 : Int32)))] [(.long (-1 : Int64)), (.int (0 : Int32)), (.ref b)])) rfl rfl (hb hby d4_64)
        have N118 := Fr.snoc X118 N93 g_b
        have K118 : Keep h0 h118 [a1, b] := (K93).wr W118 (Or.inl (List.mem_of_getElem? (i := 1) rfl))
        have V118 : Arv Z h118 b kb .long (3 : Int32) [(.long (-1 : Int64)), (.long v2), (.long v3)] (.long (0 : Int64)) := Arv.set Ar117 q117 S117 M117 H117 G117 rfl W118 0 rfl (Nat.le_of_ble_eq_true rfl)
        have pre119 : ∀ tt, Steps p.tables e below (T118.setTop (mkF m 32 #[.val (.ref a1), .val (.int c1), .val (.int (1 : Int32)), .val (.int (c1 - (64 : Int32)))] [])) tt → Steps p.tables e below (T93.setTop (mkF m 32 #[.val (.ref a1), .val (.int c1), .val (.int (0 : Int32)), .unset] [])) tt := by
          intro tt kt
          refine pre106 tt ?_
          show Steps p.tables e below (T104.setTop (mkF m 53 #[.val (.ref a1), .val (.int c1), .val (.int (0 : Int32)), .val (.int (c1 - (64 : Int32)))] [(.int (64 : Int32)), (.int (c1 - (64 : Int32)))])) _
          refine XS.icmpNo X104.here hx rfl (hb hby d4_53) rfl (flt c53_107).1 ?_
          show Steps p.tables e below (T104.setTop (mkF m 56 #[.val (.ref a1), .val (.int c1), .val (.int (0 : Int32)), .val (.int (c1 - (64 : Int32)))] [])) _
          refine XS.aloadN X104.here hx rfl (hb hby d4_56) rfl rfl ?_
          show Steps p.tables e below (T104.setTop (mkF m 57 #[.val (.ref a1), .val (.int c1), .val (.int (0 : Int32)), .val (.int (c1 - (64 : Int32)))] [(.ref a1)])) _
          refine st116 _ ?_
          show Steps p.tables e below (T116.setTop (mkF m 60 #[.val (.ref a1), .val (.int c1), .val (.int (0 : Int32)), .val (.int (c1 - (64 : Int32)))] [(.ref b)])) _
          refine XS.iloadN X116.here hx rfl (hb hby d4_60) rfl ?_
          show Steps p.tables e below (T116.setTop (mkF m 61 #[.val (.ref a1), .val (.int c1), .val (.int (0 : Int32)), .val (.int (c1 - (64 : Int32)))] [(.int (0 : Int32)), (.ref b)])) _
          refine X116.ldc2Long hx hown (mvT hZ (hw _ (List.mem_of_getElem? (i := 44) rfl))) (g := (mkF m 61 #[.val (.ref a1), .val (.int c1), .val (.int (0 : Int32)), .val (.int (c1 - (64 : Int32)))] [(.int (0 : Int32)), (.ref b)])) rfl (hb hby d4_61) _ ?_
          show Steps p.tables e below (T116.setTop (mkF m 64 #[.val (.ref a1), .val (.int c1), .val (.int (0 : Int32)), .val (.int (c1 - (64 : Int32)))] [(.long (-1 : Int64)), (.int (0 : Int32)), (.ref b)])) _
          refine st118 _ ?_
          show Steps p.tables e below (T118.setTop (mkF m 65 #[.val (.ref a1), .val (.int c1), .val (.int (0 : Int32)), .val (.int (c1 - (64 : Int32)))] [])) _
          refine XS.goto X118.here hx rfl (pc0 := 65) (pc' := 86) rfl (hb hby d4_65) (by decide) (by decide) ?_
          show Steps p.tables e below (T118.setTop (mkF m 86 #[.val (.ref a1), .val (.int c1), .val (.int (0 : Int32)), .val (.int (c1 - (64 : Int32)))] [])) _
          refine XS.iinc X118.here hx rfl (hb hby d4_86) rfl (l' := #[.val (.ref a1), .val (.int c1), .val (.int (1 : Int32)), .val (.int (c1 - (64 : Int32)))]) rfl ?_
          show Steps p.tables e below (T118.setTop (mkF m 89 #[.val (.ref a1), .val (.int c1), .val (.int (1 : Int32)), .val (.int (c1 - (64 : Int32)))] [])) _
          refine XS.goto X118.here hx rfl (pc0 := 89) (pc' := 32) rfl (hb hby d4_89) (by decide) (by decide) ?_
          exact kt
        refine ⟨T118, _, N118, X118, (by rw [e118, hu1, own_upC c53_107]; exact ⟨K118, (Exa.wr W118 Ea93), (Fld.other W118 Ff93 (Or.inl hne)), (Fld.other W118 Fg93 (Or.inl hne)), V118⟩), fun tt kt => pre119 tt ?_⟩
        exact kt
    have pre120 : ∀ tt, Steps p.tables e below (T103.setTop (mkF m 32 #[.val (.ref a1), .val (.int c1), .val (.int (1 : Int32)), .val (.int (c1 - (64 : Int32)))] [])) tt → Steps p.tables e below (s₁.setTop (entryFrame m #[(.ref a1), (.int c1)] 4)) tt := by
      intro tt kt
      refine pre102 tt ?_
      show Steps p.tables e below (T93.setTop (mkF m 32 #[.val (.ref a1), .val (.int c1), .val (.int (0 : Int32)), .unset] [])) _
      refine st103 _ ?_
      exact kt
    obtain ⟨T121, L121, N121, X121, ⟨K121, Ea121, Ff121, Fg121, Vb121⟩, st121⟩ : ∃ (T' : State) (L' : List Loc), Fr n0 L' ∧ Stand p l e ({ frames := 0, cells := 0, slots := 0, locals := 0 } : Room) s m #[(.ref a1), (.int c1)] below meth c T' L' 0 0 ∧ (Keep h0 T'.heap [a1, b] ∧ Exa Z T'.heap a1 "com/example/phase7/phase7/metadata/FieldSet" ∧ Fld Z T'.heap a1 "com/example/phase7/phase7/metadata/FieldSet" "first" "J" (.long u0) ∧ Fld Z T'.heap a1 "com/example/phase7/phase7/metadata/FieldSet" "further" "[J" (.ref b) ∧ Arv Z T'.heap b kb .long (3 : Int32) [(.long u1), (.long u2), (.long v3)] (.long (0 : Int64))) ∧ ∀ tt, Steps p.tables e below (T'.setTop (mkF m 32 #[.val (.ref a1), .val (.int c1), .val (.int (2 : Int32)), .val (.int (c1 - (128 : Int32)))] [])) tt → Steps p.tables e below (T103.setTop (mkF m 32 #[.val (.ref a1), .val (.int c1), .val (.int (1 : Int32)), .val (.int (c1 - (64 : Int32)))] [])) tt := by
      have pid121 : ∀ tt, Steps p.tables e below (T103.setTop (mkF m 32 #[.val (.ref a1), .val (.int c1), .val (.int (1 : Int32)), .val (.int (c1 - (64 : Int32)))] [])) tt → Steps p.tables e below (T103.setTop (mkF m 32 #[.val (.ref a1), .val (.int c1), .val (.int (1 : Int32)), .val (.int (c1 - (64 : Int32)))] [])) tt := fun tt kt => kt
      obtain ⟨T122, X122, e122, st122⟩ := getF X103 hx hZ hown (host := "") (Or.inl (hw _ (List.mem_of_getElem? (i := 12) rfl))) Via.refl rfl Fg103 (g := (mkF m 34 #[.val (.ref a1), .val (.int c1), .val (.int (1 : Int32)), .val (.int (c1 - (64 : Int32)))] [(.ref a1), (.int (1 : Int32))])) rfl rfl (hb hby d4_34)
      have VO123 := Vb103
      obtain ⟨cl123, Ar123, q123, S123, M123, H123, G123⟩ := VO123
      have pre124 : ∀ tt, Steps p.tables e below (T122.setTop (mkF m 53 #[.val (.ref a1), .val (.int c1), .val (.int (1 : Int32)), .val (.int (c1 - (128 : Int32)))] [(.int (64 : Int32)), (.int (c1 - (128 : Int32)))])) tt → Steps p.tables e below (T103.setTop (mkF m 32 #[.val (.ref a1), .val (.int c1), .val (.int (1 : Int32)), .val (.int (c1 - (64 : Int32)))] [])) tt := by
        intro tt kt
        refine pid121 tt ?_
        show Steps p.tables e below (T103.setTop (mkF m 32 #[.val (.ref a1), .val (.int c1), .val (.int (1 : Int32)), .val (.int (c1 - (64 : Int32)))] [])) _
        refine XS.iloadN X103.here hx rfl (hb hby d4_32) rfl ?_
        show Steps p.tables e below (T103.setTop (mkF m 33 #[.val (.ref a1), .val (.int c1), .val (.int (1 : Int32)), .val (.int (c1 - (64 : Int32)))] [(.int (1 : Int32))])) _
        refine XS.aloadN X103.here hx rfl (hb hby d4_33) rfl rfl ?_
        show Steps p.tables e below (T103.setTop (mkF m 34 #[.val (.ref a1), .val (.int c1), .val (.int (1 : Int32)), .val (.int (c1 - (64 : Int32)))] [(.ref a1), (.int (1 : Int32))])) _
        refine st122 _ ?_
        show Steps p.tables e below (T122.setTop (mkF m 37 #[.val (.ref a1), .val (.int c1), .val (.int (1 : Int32)), .val (.int (c1 - (64 : Int32)))] [(.ref b), (.int (1 : Int32))])) _
        refine X122.arraylength hx (by rw [e122]; exact Ar123.1) (State.isArrayOf_alike hZ.alike Ar123.2.1) (g := (mkF m 37 #[.val (.ref a1), .val (.int c1), .val (.int (1 : Int32)), .val (.int (c1 - (64 : Int32)))] [(.ref b), (.int (1 : Int32))])) rfl rfl (hb hby d4_37) _ ?_
        rw [len_of S123 M123]
        show Steps p.tables e below (T122.setTop (mkF m 38 #[.val (.ref a1), .val (.int c1), .val (.int (1 : Int32)), .val (.int (c1 - (64 : Int32)))] [(.int (3 : Int32)), (.int (1 : Int32))])) _
        refine XS.icmpNo X122.here hx rfl (hb hby d4_38) rfl (tlt (by decide : (1 : Int32) < (3 : Int32))).2.1 ?_
        show Steps p.tables e below (T122.setTop (mkF m 41 #[.val (.ref a1), .val (.int c1), .val (.int (1 : Int32)), .val (.int (c1 - (64 : Int32)))] [])) _
        refine XS.iloadN X122.here hx rfl (hb hby d4_41) rfl ?_
        show Steps p.tables e below (T122.setTop (mkF m 42 #[.val (.ref a1), .val (.int c1), .val (.int (1 : Int32)), .val (.int (c1 - (64 : Int32)))] [(.int c1)])) _
        refine XS.iloadN X122.here hx rfl (hb hby d4_42) rfl ?_
        show Steps p.tables e below (T122.setTop (mkF m 43 #[.val (.ref a1), .val (.int c1), .val (.int (1 : Int32)), .val (.int (c1 - (64 : Int32)))] [(.int (1 : Int32)), (.int c1)])) _
        refine XS.iconst X122.here hx rfl (hb hby d4_43) ?_
        show Steps p.tables e below (T122.setTop (mkF m 44 #[.val (.ref a1), .val (.int c1), .val (.int (1 : Int32)), .val (.int (c1 - (64 : Int32)))] [(.int (1 : Int32)), (.int (1 : Int32)), (.int c1)])) _
        refine XS.iadd X122.here hx rfl (hb hby d4_44) rfl ?_
        show Steps p.tables e below (T122.setTop (mkF m 45 #[.val (.ref a1), .val (.int c1), .val (.int (1 : Int32)), .val (.int (c1 - (64 : Int32)))] [(.int (2 : Int32)), (.int c1)])) _
        refine XS.bipush X122.here hx rfl (hb hby d4_45) ?_
        show Steps p.tables e below (T122.setTop (mkF m 47 #[.val (.ref a1), .val (.int c1), .val (.int (1 : Int32)), .val (.int (c1 - (64 : Int32)))] [(.int (64 : Int32)), (.int (2 : Int32)), (.int c1)])) _
        refine XS.imul X122.here hx rfl (hb hby d4_47) rfl ?_
        show Steps p.tables e below (T122.setTop (mkF m 48 #[.val (.ref a1), .val (.int c1), .val (.int (1 : Int32)), .val (.int (c1 - (64 : Int32)))] [(.int (128 : Int32)), (.int c1)])) _
        refine XS.isub X122.here hx rfl (hb hby d4_48) rfl ?_
        show Steps p.tables e below (T122.setTop (mkF m 49 #[.val (.ref a1), .val (.int c1), .val (.int (1 : Int32)), .val (.int (c1 - (64 : Int32)))] [(.int (c1 - (128 : Int32)))])) _
        refine XS.istoreN X122.here hx rfl (hb hby d4_49) rfl (l' := #[.val (.ref a1), .val (.int c1), .val (.int (1 : Int32)), .val (.int (c1 - (128 : Int32)))]) rfl ?_
        show Steps p.tables e below (T122.setTop (mkF m 50 #[.val (.ref a1), .val (.int c1), .val (.int (1 : Int32)), .val (.int (c1 - (128 : Int32)))] [])) _
        refine XS.iloadN X122.here hx rfl (hb hby d4_50) rfl ?_
        show Steps p.tables e below (T122.setTop (mkF m 51 #[.val (.ref a1), .val (.int c1), .val (.int (1 : Int32)), .val (.int (c1 - (128 : Int32)))] [(.int (c1 - (128 : Int32)))])) _
        refine XS.bipush X122.here hx rfl (hb hby d4_51) ?_
        exact kt
      by_cases c53_125 : (c1 - (128 : Int32)) < (64 : Int32)
      · have pre126 : ∀ tt, Steps p.tables e below (T122.setTop (mkF m 69 #[.val (.ref a1), .val (.int c1), .val (.int (1 : Int32)), .val (.int (c1 - (128 : Int32)))] [(.int (c1 - (128 : Int32)))])) tt → Steps p.tables e below (T103.setTop (mkF m 32 #[.val (.ref a1), .val (.int c1), .val (.int (1 : Int32)), .val (.int (c1 - (64 : Int32)))] [])) tt := by
          intro tt kt
          refine pre124 tt ?_
          show Steps p.tables e below (T122.setTop (mkF m 53 #[.val (.ref a1), .val (.int c1), .val (.int (1 : Int32)), .val (.int (c1 - (128 : Int32)))] [(.int (64 : Int32)), (.int (c1 - (128 : Int32)))])) _
          refine XS.icmpYes X122.here hx rfl (pc0 := 53) (pc' := 68) rfl (hb hby d4_53) rfl (tlt c53_125).1 (by decide) (by decide) ?_
          show Steps p.tables e below (T122.setTop (mkF m 68 #[.val (.ref a1), .val (.int c1), .val (.int (1 : Int32)), .val (.int (c1 - (128 : Int32)))] [])) _
          refine XS.iloadN X122.here hx rfl (hb hby d4_68) rfl ?_
          exact kt
        by_cases c69_127 : (0 : Int32) < (c1 - (128 : Int32))
        · obtain ⟨T128, X128, e128, st128⟩ := getF X122 hx hZ hown (host := "") (Or.inl (hw _ (List.mem_of_getElem? (i := 12) rfl))) Via.refl e122 Fg103 (g := (mkF m 73 #[.val (.ref a1), .val (.int c1), .val (.int (1 : Int32)), .val (.int (c1 - (128 : Int32)))] [(.ref a1)])) rfl rfl (hb hby d4_73)
          have VO129 := Vb103
          obtain ⟨cl129, Ar129, q129, S129, M129, H129, G129⟩ := VO129
          have hin129 : ¬ ((1 : Int32) < 0 ∨ cl129.slots.size ≤ ((1 : Int32)).toNatClampNeg) := inb_of S129 ⟨by decide, by decide⟩
          have hat129 : cl129.slots[((1 : Int32)).toNatClampNeg]? = some (.long v2) := H129.at hin129 rfl
          have VO130 := Vb103
          obtain ⟨cl130, Ar130, q130, S130, M130, H130, G130⟩ := VO130
          have hin130 : ¬ ((1 : Int32) < 0 ∨ cl130.slots.size ≤ ((1 : Int32)).toNatClampNeg) := inb_of S130 ⟨by decide, by decide⟩
          obtain ⟨T131, h131, X131, e131, W131, st131⟩ := stJ X128 hx hZ e128 Ar130 (j := (1 : Int32)) hin130 (g := (mkF m 85 #[.val (.ref a1), .val (.int c1), .val (.int (1 : Int32)), .val (.int (c1 - (128 : Int32)))] [(.long (v2 ||| (((1 : Int64) <<< ((c1 - (128 : Int32)) &&& 0x3f).toInt64) - (1 : Int64)))), (.int (1 : Int32)), (.ref b)])) rfl rfl (hb hby d4_85)
          have N131 := Fr.snoc X131 N103 g_b
          have K131 : Keep h0 h131 [a1, b] := (K103).wr W131 (Or.inl (List.mem_of_getElem? (i := 1) rfl))
          have V131 : Arv Z h131 b kb .long (3 : Int32) [(.long u1), (.long (v2 ||| (((1 : Int64) <<< ((c1 - (128 : Int32)) &&& 0x3f).toInt64) - (1 : Int64)))), (.long v3)] (.long (0 : Int64)) := Arv.set Ar130 q130 S130 M130 H130 G130 rfl W131 1 rfl (Nat.le_of_ble_eq_true rfl)
          have pre132 : ∀ tt, Steps p.tables e below (T131.setTop (mkF m 32 #[.val (.ref a1), .val (.int c1), .val (.int (2 : Int32)), .val (.int (c1 - (128 : Int32)))] [])) tt → Steps p.tables e below (T103.setTop (mkF m 32 #[.val (.ref a1), .val (.int c1), .val (.int (1 : Int32)), .val (.int (c1 - (64 : Int32)))] [])) tt := by
            intro tt kt
            refine pre126 tt ?_
            show Steps p.tables e below (T122.setTop (mkF m 69 #[.val (.ref a1), .val (.int c1), .val (.int (1 : Int32)), .val (.int (c1 - (128 : Int32)))] [(.int (c1 - (128 : Int32)))])) _
            refine XS.ifNo X122.here hx rfl (hb hby d4_69) rfl ((if0 _ _).trans (tlt c69_127).2.2.2) ?_
            show Steps p.tables e below (T122.setTop (mkF m 72 #[.val (.ref a1), .val (.int c1), .val (.int (1 : Int32)), .val (.int (c1 - (128 : Int32)))] [])) _
            refine XS.aloadN X122.here hx rfl (hb hby d4_72) rfl rfl ?_
            show Steps p.tables e below (T122.setTop (mkF m 73 #[.val (.ref a1), .val (.int c1), .val (.int (1 : Int32)), .val (.int (c1 - (128 : Int32)))] [(.ref a1)])) _
            refine st128 _ ?_
            show Steps p.tables e below (T128.setTop (mkF m 76 #[.val (.ref a1), .val (.int c1), .val (.int (1 : Int32)), .val (.int (c1 - (128 : Int32)))] [(.ref b)])) _
            refine XS.iloadN X128.here hx rfl (hb hby d4_76) rfl ?_
            show Steps p.tables e below (T128.setTop (mkF m 77 #[.val (.ref a1), .val (.int c1), .val (.int (1 : Int32)), .val (.int (c1 - (128 : Int32)))] [(.int (1 : Int32)), (.ref b)])) _
            refine XT.dup2 X128.here hx rfl (hb hby d4_77) rfl rfl rfl ?_
            show Steps p.tables e below (T128.setTop (mkF m 78 #[.val (.ref a1), .val (.int c1), .val (.int (1 : Int32)), .val (.int (c1 - (128 : Int32)))] [(.int (1 : Int32)), (.ref b), (.int (1 : Int32)), (.ref b)])) _
            refine X128.laload hx (j := (1 : Int32)) (v := (.long v2)) (by rw [e128]; exact Ar129.1) (State.isArrayOf_alike hZ.alike Ar129.2.1) Ar129.2.2 hin129 hat129 (g := (mkF m 78 #[.val (.ref a1), .val (.int c1), .val (.int (1 : Int32)), .val (.int (c1 - (128 : Int32)))] [(.int (1 : Int32)), (.ref b), (.int (1 : Int32)), (.ref b)])) rfl rfl (hb hby d4_78) _ ?_
            show Steps p.tables e below (T128.setTop (mkF m 79 #[.val (.ref a1), .val (.int c1), .val (.int (1 : Int32)), .val (.int (c1 - (128 : Int32)))] [(.long v2), (.int (1 : Int32)), (.ref b)])) _
            refine XS.lconst X128.here hx rfl (hb hby d4_79) ?_
            show Steps p.tables e below (T128.setTop (mkF m 80 #[.val (.ref a1), .val (.int c1), .val (.int (1 : Int32)), .val (.int (c1 - (128 : Int32)))] [(.long (1 : Int64)), (.long v2), (.int (1 : Int32)), (.ref b)])) _
            refine XS.iloadN X128.here hx rfl (hb hby d4_80) rfl ?_
            show Steps p.tables e below (T128.setTop (mkF m 81 #[.val (.ref a1), .val (.int c1), .val (.int (1 : Int32)), .val (.int (c1 - (128 : Int32)))] [(.int (c1 - (128 : Int32))), (.long (1 : Int64)), (.long v2), (.int (1 : Int32)), (.ref b)])) _
            refine XS.lshl X128.here hx rfl (hb hby d4_81) rfl ?_
            show Steps p.tables e below (T128.setTop (mkF m 82 #[.val (.ref a1), .val (.int c1), .val (.int (1 : Int32)), .val (.int (c1 - (128 : Int32)))] [(.long ((1 : Int64) <<< ((c1 - (128 : Int32)) &&& 0x3f).toInt64)), (.long v2), (.int (1 : Int32)), (.ref b)])) _
            refine XS.lconst X128.here hx rfl (hb hby d4_82) ?_
            show Steps p.tables e below (T128.setTop (mkF m 83 #[.val (.ref a1), .val (.int c1), .val (.int (1 : Int32)), .val (.int (c1 - (128 : Int32)))] [(.long (1 : Int64)), (.long ((1 : Int64) <<< ((c1 - (128 : Int32)) &&& 0x3f).toInt64)), (.long v2), (.int (1 : Int32)), (.ref b)])) _
            refine XS.lsub X128.here hx rfl (hb hby d4_83) rfl ?_
            show Steps p.tables e below (T128.setTop (mkF m 84 #[.val (.ref a1), .val (.int c1), .val (.int (1 : Int32)), .val (.int (c1 - (128 : Int32)))] [(.long (((1 : Int64) <<< ((c1 - (128 : Int32)) &&& 0x3f).toInt64) - (1 : Int64))), (.long v2), (.int (1 : Int32)), (.ref b)])) _
            refine XS.lor X128.here hx rfl (hb hby d4_84) rfl ?_
            show Steps p.tables e below (T128.setTop (mkF m 85 #[.val (.ref a1), .val (.int c1), .val (.int (1 : Int32)), .val (.int (c1 - (128 : Int32)))] [(.long (v2 ||| (((1 : Int64) <<< ((c1 - (128 : Int32)) &&& 0x3f).toInt64) - (1 : Int64)))), (.int (1 : Int32)), (.ref b)])) _
            refine st131 _ ?_
            show Steps p.tables e below (T131.setTop (mkF m 86 #[.val (.ref a1), .val (.int c1), .val (.int (1 : Int32)), .val (.int (c1 - (128 : Int32)))] [])) _
            refine XS.iinc X131.here hx rfl (hb hby d4_86) rfl (l' := #[.val (.ref a1), .val (.int c1), .val (.int (2 : Int32)), .val (.int (c1 - (128 : Int32)))]) rfl ?_
            show Steps p.tables e below (T131.setTop (mkF m 89 #[.val (.ref a1), .val (.int c1), .val (.int (2 : Int32)), .val (.int (c1 - (128 : Int32)))] [])) _
            refine XS.goto X131.here hx rfl (pc0 := 89) (pc' := 32) rfl (hb hby d4_89) (by decide) (by decide) ?_
            exact kt
          refine ⟨T131, _, N131, X131, (by rw [e131, hu2, own_upA c53_125 c69_127]; exact ⟨K131, (Exa.wr W131 Ea103), (Fld.other W131 Ff103 (Or.inl hne)), (Fld.other W131 Fg103 (Or.inl hne)), V131⟩), fun tt kt => pre132 tt ?_⟩
          exact kt
        · have pre133 : ∀ tt, Steps p.tables e below (T122.setTop (mkF m 32 #[.val (.ref a1), .val (.int c1), .val (.int (2 : Int32)), .val (.int (c1 - (128 : Int32)))] [])) tt → Steps p.tables e below (T103.setTop (mkF m 32 #[.val (.ref a1), .val (.int c1), .val (.int (1 : Int32)), .val (.int (c1 - (64 : Int32)))] [])) tt := by
            intro tt kt
            refine pre126 tt ?_
            show Steps p.tables e below (T122.setTop (mkF m 69 #[.val (.ref a1), .val (.int c1), .val (.int (1 : Int32)), .val (.int (c1 - (128 : Int32)))] [(.int (c1 - (128 : Int32)))])) _
            refine XS.ifYes X122.here hx rfl (pc0 := 69) (pc' := 86) rfl (hb hby d4_69) rfl ((if0 _ _).trans (flt c69_127).2.2.2) (by decide) (by decide) ?_
            show Steps p.tables e below (T122.setTop (mkF m 86 #[.val (.ref a1), .val (.int c1), .val (.int (1 : Int32)), .val (.int (c1 - (128 : Int32)))] [])) _
            refine XS.iinc X122.here hx rfl (hb hby d4_86) rfl (l' := #[.val (.ref a1), .val (.int c1), .val (.int (2 : Int32)), .val (.int (c1 - (128 : Int32)))]) rfl ?_
            show Steps p.tables e below (T122.setTop (mkF m 89 #[.val (.ref a1), .val (.int c1), .val (.int (2 : Int32)), .val (.int (c1 - (128 : Int32)))] [])) _
            refine XS.goto X122.here hx rfl (pc0 := 89) (pc' := 32) rfl (hb hby d4_89) (by decide) (by decide) ?_
            exact kt
          refine ⟨T122, _, N103, X122, (by rw [e122, hu2, own_upB c53_125 c69_127]; exact ⟨K103, Ea103, Ff103, Fg103, Vb103⟩), fun tt kt => pre133 tt ?_⟩
          exact kt
      · obtain ⟨T134, X134, e134, st134⟩ := getF X122 hx hZ hown (host := "") (Or.inl (hw _ (List.mem_of_getElem? (i := 12) rfl))) Via.refl e122 Fg103 (g := (mkF m 57 #[.val (.ref a1), .val (.int c1), .val (.int (1 : Int32)), .val (.int (c1 - (128 : Int32)))] [(.ref a1)])) rfl rfl (hb hby d4_57)
        have VO135 := Vb103
        obtain ⟨cl135, Ar135, q135, S135, M135, H135, G135⟩ := VO135
        have hin135 : ¬ ((1 : Int32) < 0 ∨ cl135.slots.size ≤ ((1 : Int32)).toNatClampNeg) := inb_of S135 ⟨by decide, by decide⟩
        obtain ⟨T136, h136, X136, e136, W136, st136⟩ := stJ X134 hx hZ e134 Ar135 (j := (1 : Int32)) hin135 (g := (mkF m 64 #[.val (.ref a1), .val (.int c1), .val (.int (1 : Int32)), .val (.int (c1 - (128 : Int32)))] [(.long (-1 : Int64)), (.int (1 : Int32)), (.ref b)])) rfl rfl (hb hby d4_64)
        have N136 := Fr.snoc X136 N103 g_b
        have K136 : Keep h0 h136 [a1, b] := (K103).wr W136 (Or.inl (List.mem_of_getElem? (i := 1) rfl))
        have V136 : Arv Z h136 b kb .long (3 : Int32) [(.long u1), (.long (-1 : Int64)), (.long v3)] (.long (0 : Int64)) := Arv.set Ar135 q135 S135 M135 H135 G135 rfl W136 1 rfl (Nat.le_of_ble_eq_true rfl)
        have pre137 : ∀ tt, Steps p.tables e below (T136.setTop (mkF m 32 #[.val (.ref a1), .val (.int c1), .val (.int (2 : Int32)), .val (.int (c1 - (128 : Int32)))] [])) tt → Steps p.tables e below (T103.setTop (mkF m 32 #[.val (.ref a1), .val (.int c1), .val (.int (1 : Int32)), .val (.int (c1 - (64 : Int32)))] [])) tt := by
          intro tt kt
          refine pre124 tt ?_
          show Steps p.tables e below (T122.setTop (mkF m 53 #[.val (.ref a1), .val (.int c1), .val (.int (1 : Int32)), .val (.int (c1 - (128 : Int32)))] [(.int (64 : Int32)), (.int (c1 - (128 : Int32)))])) _
          refine XS.icmpNo X122.here hx rfl (hb hby d4_53) rfl (flt c53_125).1 ?_
          show Steps p.tables e below (T122.setTop (mkF m 56 #[.val (.ref a1), .val (.int c1), .val (.int (1 : Int32)), .val (.int (c1 - (128 : Int32)))] [])) _
          refine XS.aloadN X122.here hx rfl (hb hby d4_56) rfl rfl ?_
          show Steps p.tables e below (T122.setTop (mkF m 57 #[.val (.ref a1), .val (.int c1), .val (.int (1 : Int32)), .val (.int (c1 - (128 : Int32)))] [(.ref a1)])) _
          refine st134 _ ?_
          show Steps p.tables e below (T134.setTop (mkF m 60 #[.val (.ref a1), .val (.int c1), .val (.int (1 : Int32)), .val (.int (c1 - (128 : Int32)))] [(.ref b)])) _
          refine XS.iloadN X134.here hx rfl (hb hby d4_60) rfl ?_
          show Steps p.tables e below (T134.setTop (mkF m 61 #[.val (.ref a1), .val (.int c1), .val (.int (1 : Int32)), .val (.int (c1 - (128 : Int32)))] [(.int (1 : Int32)), (.ref b)])) _
          refine X134.ldc2Long hx hown (mvT hZ (hw _ (List.mem_of_getElem? (i := 44) rfl))) (g := (mkF m 61 #[.val (.ref a1), .val (.int c1), .val (.int (1 : Int32)), .val (.int (c1 - (128 : Int32)))] [(.int (1 : Int32)), (.ref b)])) rfl (hb hby d4_61) _ ?_
          show Steps p.tables e below (T134.setTop (mkF m 64 #[.val (.ref a1), .val (.int c1), .val (.int (1 : Int32)), .val (.int (c1 - (128 : Int32)))] [(.long (-1 : Int64)), (.int (1 : Int32)), (.ref b)])) _
          refine st136 _ ?_
          show Steps p.tables e below (T136.setTop (mkF m 65 #[.val (.ref a1), .val (.int c1), .val (.int (1 : Int32)), .val (.int (c1 - (128 : Int32)))] [])) _
          refine XS.goto X136.here hx rfl (pc0 := 65) (pc' := 86) rfl (hb hby d4_65) (by decide) (by decide) ?_
          show Steps p.tables e below (T136.setTop (mkF m 86 #[.val (.ref a1), .val (.int c1), .val (.int (1 : Int32)), .val (.int (c1 - (128 : Int32)))] [])) _
          refine XS.iinc X136.here hx rfl (hb hby d4_86) rfl (l' := #[.val (.ref a1), .val (.int c1), .val (.int (2 : Int32)), .val (.int (c1 - (128 : Int32)))]) rfl ?_
          show Steps p.tables e below (T136.setTop (mkF m 89 #[.val (.ref a1), .val (.int c1), .val (.int (2 : Int32)), .val (.int (c1 - (128 : Int32)))] [])) _
          refine XS.goto X136.here hx rfl (pc0 := 89) (pc' := 32) rfl (hb hby d4_89) (by decide) (by decide) ?_
          exact kt
        refine ⟨T136, _, N136, X136, (by rw [e136, hu2, own_upC c53_125]; exact ⟨K136, (Exa.wr W136 Ea103), (Fld.other W136 Ff103 (Or.inl hne)), (Fld.other W136 Fg103 (Or.inl hne)), V136⟩), fun tt kt => pre137 tt ?_⟩
        exact kt
    have pre138 : ∀ tt, Steps p.tables e below (T121.setTop (mkF m 32 #[.val (.ref a1), .val (.int c1), .val (.int (2 : Int32)), .val (.int (c1 - (128 : Int32)))] [])) tt → Steps p.tables e below (s₁.setTop (entryFrame m #[(.ref a1), (.int c1)] 4)) tt := by
      intro tt kt
      refine pre120 tt ?_
      show Steps p.tables e below (T103.setTop (mkF m 32 #[.val (.ref a1), .val (.int c1), .val (.int (1 : Int32)), .val (.int (c1 - (64 : Int32)))] [])) _
      refine st121 _ ?_
      exact kt
    obtain ⟨T139, L139, N139, X139, ⟨K139, Ea139, Ff139, Fg139, Vb139⟩, st139⟩ : ∃ (T' : State) (L' : List Loc), Fr n0 L' ∧ Stand p l e ({ frames := 0, cells := 0, slots := 0, locals := 0 } : Room) s m #[(.ref a1), (.int c1)] below meth c T' L' 0 0 ∧ (Keep h0 T'.heap [a1, b] ∧ Exa Z T'.heap a1 "com/example/phase7/phase7/metadata/FieldSet" ∧ Fld Z T'.heap a1 "com/example/phase7/phase7/metadata/FieldSet" "first" "J" (.long u0) ∧ Fld Z T'.heap a1 "com/example/phase7/phase7/metadata/FieldSet" "further" "[J" (.ref b) ∧ Arv Z T'.heap b kb .long (3 : Int32) [(.long u1), (.long u2), (.long u3)] (.long (0 : Int64))) ∧ ∀ tt, Steps p.tables e below (T'.setTop (mkF m 32 #[.val (.ref a1), .val (.int c1), .val (.int (3 : Int32)), .val (.int (c1 - (192 : Int32)))] [])) tt → Steps p.tables e below (T121.setTop (mkF m 32 #[.val (.ref a1), .val (.int c1), .val (.int (2 : Int32)), .val (.int (c1 - (128 : Int32)))] [])) tt := by
      have pid139 : ∀ tt, Steps p.tables e below (T121.setTop (mkF m 32 #[.val (.ref a1), .val (.int c1), .val (.int (2 : Int32)), .val (.int (c1 - (128 : Int32)))] [])) tt → Steps p.tables e below (T121.setTop (mkF m 32 #[.val (.ref a1), .val (.int c1), .val (.int (2 : Int32)), .val (.int (c1 - (128 : Int32)))] [])) tt := fun tt kt => kt
      obtain ⟨T140, X140, e140, st140⟩ := getF X121 hx hZ hown (host := "") (Or.inl (hw _ (List.mem_of_getElem? (i := 12) rfl))) Via.refl rfl Fg121 (g := (mkF m 34 #[.val (.ref a1), .val (.int c1), .val (.int (2 : Int32)), .val (.int (c1 - (128 : Int32)))] [(.ref a1), (.int (2 : Int32))])) rfl rfl (hb hby d4_34)
      have VO141 := Vb121
      obtain ⟨cl141, Ar141, q141, S141, M141, H141, G141⟩ := VO141
      have pre142 : ∀ tt, Steps p.tables e below (T140.setTop (mkF m 53 #[.val (.ref a1), .val (.int c1), .val (.int (2 : Int32)), .val (.int (c1 - (192 : Int32)))] [(.int (64 : Int32)), (.int (c1 - (192 : Int32)))])) tt → Steps p.tables e below (T121.setTop (mkF m 32 #[.val (.ref a1), .val (.int c1), .val (.int (2 : Int32)), .val (.int (c1 - (128 : Int32)))] [])) tt := by
        intro tt kt
        refine pid139 tt ?_
        show Steps p.tables e below (T121.setTop (mkF m 32 #[.val (.ref a1), .val (.int c1), .val (.int (2 : Int32)), .val (.int (c1 - (128 : Int32)))] [])) _
        refine XS.iloadN X121.here hx rfl (hb hby d4_32) rfl ?_
        show Steps p.tables e below (T121.setTop (mkF m 33 #[.val (.ref a1), .val (.int c1), .val (.int (2 : Int32)), .val (.int (c1 - (128 : Int32)))] [(.int (2 : Int32))])) _
        refine XS.aloadN X121.here hx rfl (hb hby d4_33) rfl rfl ?_
        show Steps p.tables e below (T121.setTop (mkF m 34 #[.val (.ref a1), .val (.int c1), .val (.int (2 : Int32)), .val (.int (c1 - (128 : Int32)))] [(.ref a1), (.int (2 : Int32))])) _
        refine st140 _ ?_
        show Steps p.tables e below (T140.setTop (mkF m 37 #[.val (.ref a1), .val (.int c1), .val (.int (2 : Int32)), .val (.int (c1 - (128 : Int32)))] [(.ref b), (.int (2 : Int32))])) _
        refine X140.arraylength hx (by rw [e140]; exact Ar141.1) (State.isArrayOf_alike hZ.alike Ar141.2.1) (g := (mkF m 37 #[.val (.ref a1), .val (.int c1), .val (.int (2 : Int32)), .val (.int (c1 - (128 : Int32)))] [(.ref b), (.int (2 : Int32))])) rfl rfl (hb hby d4_37) _ ?_
        rw [len_of S141 M141]
        show Steps p.tables e below (T140.setTop (mkF m 38 #[.val (.ref a1), .val (.int c1), .val (.int (2 : Int32)), .val (.int (c1 - (128 : Int32)))] [(.int (3 : Int32)), (.int (2 : Int32))])) _
        refine XS.icmpNo X140.here hx rfl (hb hby d4_38) rfl (tlt (by decide : (2 : Int32) < (3 : Int32))).2.1 ?_
        show Steps p.tables e below (T140.setTop (mkF m 41 #[.val (.ref a1), .val (.int c1), .val (.int (2 : Int32)), .val (.int (c1 - (128 : Int32)))] [])) _
        refine XS.iloadN X140.here hx rfl (hb hby d4_41) rfl ?_
        show Steps p.tables e below (T140.setTop (mkF m 42 #[.val (.ref a1), .val (.int c1), .val (.int (2 : Int32)), .val (.int (c1 - (128 : Int32)))] [(.int c1)])) _
        refine XS.iloadN X140.here hx rfl (hb hby d4_42) rfl ?_
        show Steps p.tables e below (T140.setTop (mkF m 43 #[.val (.ref a1), .val (.int c1), .val (.int (2 : Int32)), .val (.int (c1 - (128 : Int32)))] [(.int (2 : Int32)), (.int c1)])) _
        refine XS.iconst X140.here hx rfl (hb hby d4_43) ?_
        show Steps p.tables e below (T140.setTop (mkF m 44 #[.val (.ref a1), .val (.int c1), .val (.int (2 : Int32)), .val (.int (c1 - (128 : Int32)))] [(.int (1 : Int32)), (.int (2 : Int32)), (.int c1)])) _
        refine XS.iadd X140.here hx rfl (hb hby d4_44) rfl ?_
        show Steps p.tables e below (T140.setTop (mkF m 45 #[.val (.ref a1), .val (.int c1), .val (.int (2 : Int32)), .val (.int (c1 - (128 : Int32)))] [(.int (3 : Int32)), (.int c1)])) _
        refine XS.bipush X140.here hx rfl (hb hby d4_45) ?_
        show Steps p.tables e below (T140.setTop (mkF m 47 #[.val (.ref a1), .val (.int c1), .val (.int (2 : Int32)), .val (.int (c1 - (128 : Int32)))] [(.int (64 : Int32)), (.int (3 : Int32)), (.int c1)])) _
        refine XS.imul X140.here hx rfl (hb hby d4_47) rfl ?_
        show Steps p.tables e below (T140.setTop (mkF m 48 #[.val (.ref a1), .val (.int c1), .val (.int (2 : Int32)), .val (.int (c1 - (128 : Int32)))] [(.int (192 : Int32)), (.int c1)])) _
        refine XS.isub X140.here hx rfl (hb hby d4_48) rfl ?_
        show Steps p.tables e below (T140.setTop (mkF m 49 #[.val (.ref a1), .val (.int c1), .val (.int (2 : Int32)), .val (.int (c1 - (128 : Int32)))] [(.int (c1 - (192 : Int32)))])) _
        refine XS.istoreN X140.here hx rfl (hb hby d4_49) rfl (l' := #[.val (.ref a1), .val (.int c1), .val (.int (2 : Int32)), .val (.int (c1 - (192 : Int32)))]) rfl ?_
        show Steps p.tables e below (T140.setTop (mkF m 50 #[.val (.ref a1), .val (.int c1), .val (.int (2 : Int32)), .val (.int (c1 - (192 : Int32)))] [])) _
        refine XS.iloadN X140.here hx rfl (hb hby d4_50) rfl ?_
        show Steps p.tables e below (T140.setTop (mkF m 51 #[.val (.ref a1), .val (.int c1), .val (.int (2 : Int32)), .val (.int (c1 - (192 : Int32)))] [(.int (c1 - (192 : Int32)))])) _
        refine XS.bipush X140.here hx rfl (hb hby d4_51) ?_
        exact kt
      by_cases c53_143 : (c1 - (192 : Int32)) < (64 : Int32)
      · have pre144 : ∀ tt, Steps p.tables e below (T140.setTop (mkF m 69 #[.val (.ref a1), .val (.int c1), .val (.int (2 : Int32)), .val (.int (c1 - (192 : Int32)))] [(.int (c1 - (192 : Int32)))])) tt → Steps p.tables e below (T121.setTop (mkF m 32 #[.val (.ref a1), .val (.int c1), .val (.int (2 : Int32)), .val (.int (c1 - (128 : Int32)))] [])) tt := by
          intro tt kt
          refine pre142 tt ?_
          show Steps p.tables e below (T140.setTop (mkF m 53 #[.val (.ref a1), .val (.int c1), .val (.int (2 : Int32)), .val (.int (c1 - (192 : Int32)))] [(.int (64 : Int32)), (.int (c1 - (192 : Int32)))])) _
          refine XS.icmpYes X140.here hx rfl (pc0 := 53) (pc' := 68) rfl (hb hby d4_53) rfl (tlt c53_143).1 (by decide) (by decide) ?_
          show Steps p.tables e below (T140.setTop (mkF m 68 #[.val (.ref a1), .val (.int c1), .val (.int (2 : Int32)), .val (.int (c1 - (192 : Int32)))] [])) _
          refine XS.iloadN X140.here hx rfl (hb hby d4_68) rfl ?_
          exact kt
        by_cases c69_145 : (0 : Int32) < (c1 - (192 : Int32))
        · obtain ⟨T146, X146, e146, st146⟩ := getF X140 hx hZ hown (host := "") (Or.inl (hw _ (List.mem_of_getElem? (i := 12) rfl))) Via.refl e140 Fg121 (g := (mkF m 73 #[.val (.ref a1), .val (.int c1), .val (.int (2 : Int32)), .val (.int (c1 - (192 : Int32)))] [(.ref a1)])) rfl rfl (hb hby d4_73)
          have VO147 := Vb121
          obtain ⟨cl147, Ar147, q147, S147, M147, H147, G147⟩ := VO147
          have hin147 : ¬ ((2 : Int32) < 0 ∨ cl147.slots.size ≤ ((2 : Int32)).toNatClampNeg) := inb_of S147 ⟨by decide, by decide⟩
          have hat147 : cl147.slots[((2 : Int32)).toNatClampNeg]? = some (.long v3) := H147.at hin147 rfl
          have VO148 := Vb121
          obtain ⟨cl148, Ar148, q148, S148, M148, H148, G148⟩ := VO148
          have hin148 : ¬ ((2 : Int32) < 0 ∨ cl148.slots.size ≤ ((2 : Int32)).toNatClampNeg) := inb_of S148 ⟨by decide, by decide⟩
          obtain ⟨T149, h149, X149, e149, W149, st149⟩ := stJ X146 hx hZ e146 Ar148 (j := (2 : Int32)) hin148 (g := (mkF m 85 #[.val (.ref a1), .val (.int c1), .val (.int (2 : Int32)), .val (.int (c1 - (192 : Int32)))] [(.long (v3 ||| (((1 : Int64) <<< ((c1 - (192 : Int32)) &&& 0x3f).toInt64) - (1 : Int64)))), (.int (2 : Int32)), (.ref b)])) rfl rfl (hb hby d4_85)
          have N149 := Fr.snoc X149 N121 g_b
          have K149 : Keep h0 h149 [a1, b] := (K121).wr W149 (Or.inl (List.mem_of_getElem? (i := 1) rfl))
          have V149 : Arv Z h149 b kb .long (3 : Int32) [(.long u1), (.long u2), (.long (v3 ||| (((1 : Int64) <<< ((c1 - (192 : Int32)) &&& 0x3f).toInt64) - (1 : Int64))))] (.long (0 : Int64)) := Arv.set Ar148 q148 S148 M148 H148 G148 rfl W149 2 rfl (Nat.le_of_ble_eq_true rfl)
          have pre150 : ∀ tt, Steps p.tables e below (T149.setTop (mkF m 32 #[.val (.ref a1), .val (.int c1), .val (.int (3 : Int32)), .val (.int (c1 - (192 : Int32)))] [])) tt → Steps p.tables e below (T121.setTop (mkF m 32 #[.val (.ref a1), .val (.int c1), .val (.int (2 : Int32)), .val (.int (c1 - (128 : Int32)))] [])) tt := by
            intro tt kt
            refine pre144 tt ?_
            show Steps p.tables e below (T140.setTop (mkF m 69 #[.val (.ref a1), .val (.int c1), .val (.int (2 : Int32)), .val (.int (c1 - (192 : Int32)))] [(.int (c1 - (192 : Int32)))])) _
            refine XS.ifNo X140.here hx rfl (hb hby d4_69) rfl ((if0 _ _).trans (tlt c69_145).2.2.2) ?_
            show Steps p.tables e below (T140.setTop (mkF m 72 #[.val (.ref a1), .val (.int c1), .val (.int (2 : Int32)), .val (.int (c1 - (192 : Int32)))] [])) _
            refine XS.aloadN X140.here hx rfl (hb hby d4_72) rfl rfl ?_
            show Steps p.tables e below (T140.setTop (mkF m 73 #[.val (.ref a1), .val (.int c1), .val (.int (2 : Int32)), .val (.int (c1 - (192 : Int32)))] [(.ref a1)])) _
            refine st146 _ ?_
            show Steps p.tables e below (T146.setTop (mkF m 76 #[.val (.ref a1), .val (.int c1), .val (.int (2 : Int32)), .val (.int (c1 - (192 : Int32)))] [(.ref b)])) _
            refine XS.iloadN X146.here hx rfl (hb hby d4_76) rfl ?_
            show Steps p.tables e below (T146.setTop (mkF m 77 #[.val (.ref a1), .val (.int c1), .val (.int (2 : Int32)), .val (.int (c1 - (192 : Int32)))] [(.int (2 : Int32)), (.ref b)])) _
            refine XT.dup2 X146.here hx rfl (hb hby d4_77) rfl rfl rfl ?_
            show Steps p.tables e below (T146.setTop (mkF m 78 #[.val (.ref a1), .val (.int c1), .val (.int (2 : Int32)), .val (.int (c1 - (192 : Int32)))] [(.int (2 : Int32)), (.ref b), (.int (2 : Int32)), (.ref b)])) _
            refine X146.laload hx (j := (2 : Int32)) (v := (.long v3)) (by rw [e146]; exact Ar147.1) (State.isArrayOf_alike hZ.alike Ar147.2.1) Ar147.2.2 hin147 hat147 (g := (mkF m 78 #[.val (.ref a1), .val (.int c1), .val (.int (2 : Int32)), .val (.int (c1 - (192 : Int32)))] [(.int (2 : Int32)), (.ref b), (.int (2 : Int32)), (.ref b)])) rfl rfl (hb hby d4_78) _ ?_
            show Steps p.tables e below (T146.setTop (mkF m 79 #[.val (.ref a1), .val (.int c1), .val (.int (2 : Int32)), .val (.int (c1 - (192 : Int32)))] [(.long v3), (.int (2 : Int32)), (.ref b)])) _
            refine XS.lconst X146.here hx rfl (hb hby d4_79) ?_
            show Steps p.tables e below (T146.setTop (mkF m 80 #[.val (.ref a1), .val (.int c1), .val (.int (2 : Int32)), .val (.int (c1 - (192 : Int32)))] [(.long (1 : Int64)), (.long v3), (.int (2 : Int32)), (.ref b)])) _
            refine XS.iloadN X146.here hx rfl (hb hby d4_80) rfl ?_
            show Steps p.tables e below (T146.setTop (mkF m 81 #[.val (.ref a1), .val (.int c1), .val (.int (2 : Int32)), .val (.int (c1 - (192 : Int32)))] [(.int (c1 - (192 : Int32))), (.long (1 : Int64)), (.long v3), (.int (2 : Int32)), (.ref b)])) _
            refine XS.lshl X146.here hx rfl (hb hby d4_81) rfl ?_
            show Steps p.tables e below (T146.setTop (mkF m 82 #[.val (.ref a1), .val (.int c1), .val (.int (2 : Int32)), .val (.int (c1 - (192 : Int32)))] [(.long ((1 : Int64) <<< ((c1 - (192 : Int32)) &&& 0x3f).toInt64)), (.long v3), (.int (2 : Int32)), (.ref b)])) _
            refine XS.lconst X146.here hx rfl (hb hby d4_82) ?_
            show Steps p.tables e below (T146.setTop (mkF m 83 #[.val (.ref a1), .val (.int c1), .val (.int (2 : Int32)), .val (.int (c1 - (192 : Int32)))] [(.long (1 : Int64)), (.long ((1 : Int64) <<< ((c1 - (192 : Int32)) &&& 0x3f).toInt64)), (.long v3), (.int (2 : Int32)), (.ref b)])) _
            refine XS.lsub X146.here hx rfl (hb hby d4_83) rfl ?_
            show Steps p.tables e below (T146.setTop (mkF m 84 #[.val (.ref a1), .val (.int c1), .val (.int (2 : Int32)), .val (.int (c1 - (192 : Int32)))] [(.long (((1 : Int64) <<< ((c1 - (192 : Int32)) &&& 0x3f).toInt64) - (1 : Int64))), (.long v3), (.int (2 : Int32)), (.ref b)])) _
            refine XS.lor X146.here hx rfl (hb hby d4_84) rfl ?_
            show Steps p.tables e below (T146.setTop (mkF m 85 #[.val (.ref a1), .val (.int c1), .val (.int (2 : Int32)), .val (.int (c1 - (192 : Int32)))] [(.long (v3 ||| (((1 : Int64) <<< ((c1 - (192 : Int32)) &&& 0x3f).toInt64) - (1 : Int64)))), (.int (2 : Int32)), (.ref b)])) _
            refine st149 _ ?_
            show Steps p.tables e below (T149.setTop (mkF m 86 #[.val (.ref a1), .val (.int c1), .val (.int (2 : Int32)), .val (.int (c1 - (192 : Int32)))] [])) _
            refine XS.iinc X149.here hx rfl (hb hby d4_86) rfl (l' := #[.val (.ref a1), .val (.int c1), .val (.int (3 : Int32)), .val (.int (c1 - (192 : Int32)))]) rfl ?_
            show Steps p.tables e below (T149.setTop (mkF m 89 #[.val (.ref a1), .val (.int c1), .val (.int (3 : Int32)), .val (.int (c1 - (192 : Int32)))] [])) _
            refine XS.goto X149.here hx rfl (pc0 := 89) (pc' := 32) rfl (hb hby d4_89) (by decide) (by decide) ?_
            exact kt
          refine ⟨T149, _, N149, X149, (by rw [e149, hu3, own_upA c53_143 c69_145]; exact ⟨K149, (Exa.wr W149 Ea121), (Fld.other W149 Ff121 (Or.inl hne)), (Fld.other W149 Fg121 (Or.inl hne)), V149⟩), fun tt kt => pre150 tt ?_⟩
          exact kt
        · have pre151 : ∀ tt, Steps p.tables e below (T140.setTop (mkF m 32 #[.val (.ref a1), .val (.int c1), .val (.int (3 : Int32)), .val (.int (c1 - (192 : Int32)))] [])) tt → Steps p.tables e below (T121.setTop (mkF m 32 #[.val (.ref a1), .val (.int c1), .val (.int (2 : Int32)), .val (.int (c1 - (128 : Int32)))] [])) tt := by
            intro tt kt
            refine pre144 tt ?_
            show Steps p.tables e below (T140.setTop (mkF m 69 #[.val (.ref a1), .val (.int c1), .val (.int (2 : Int32)), .val (.int (c1 - (192 : Int32)))] [(.int (c1 - (192 : Int32)))])) _
            refine XS.ifYes X140.here hx rfl (pc0 := 69) (pc' := 86) rfl (hb hby d4_69) rfl ((if0 _ _).trans (flt c69_145).2.2.2) (by decide) (by decide) ?_
            show Steps p.tables e below (T140.setTop (mkF m 86 #[.val (.ref a1), .val (.int c1), .val (.int (2 : Int32)), .val (.int (c1 - (192 : Int32)))] [])) _
            refine XS.iinc X140.here hx rfl (hb hby d4_86) rfl (l' := #[.val (.ref a1), .val (.int c1), .val (.int (3 : Int32)), .val (.int (c1 - (192 : Int32)))]) rfl ?_
            show Steps p.tables e below (T140.setTop (mkF m 89 #[.val (.ref a1), .val (.int c1), .val (.int (3 : Int32)), .val (.int (c1 - (192 : Int32)))] [])) _
            refine XS.goto X140.here hx rfl (pc0 := 89) (pc' := 32) rfl (hb hby d4_89) (by decide) (by decide) ?_
            exact kt
          refine ⟨T140, _, N121, X140, (by rw [e140, hu3, own_upB c53_143 c69_145]; exact ⟨K121, Ea121, Ff121, Fg121, Vb121⟩), fun tt kt => pre151 tt ?_⟩
          exact kt
      · obtain ⟨T152, X152, e152, st152⟩ := getF X140 hx hZ hown (host := "") (Or.inl (hw _ (List.mem_of_getElem? (i := 12) rfl))) Via.refl e140 Fg121 (g := (mkF m 57 #[.val (.ref a1), .val (.int c1), .val (.int (2 : Int32)), .val (.int (c1 - (192 : Int32)))] [(.ref a1)])) rfl rfl (hb hby d4_57)
        have VO153 := Vb121
        obtain ⟨cl153, Ar153, q153, S153, M153, H153, G153⟩ := VO153
        have hin153 : ¬ ((2 : Int32) < 0 ∨ cl153.slots.size ≤ ((2 : Int32)).toNatClampNeg) := inb_of S153 ⟨by decide, by decide⟩
        obtain ⟨T154, h154, X154, e154, W154, st154⟩ := stJ X152 hx hZ e152 Ar153 (j := (2 : Int32)) hin153 (g := (mkF m 64 #[.val (.ref a1), .val (.int c1), .val (.int (2 : Int32)), .val (.int (c1 - (192 : Int32)))] [(.long (-1 : Int64)), (.int (2 : Int32)), (.ref b)])) rfl rfl (hb hby d4_64)
        have N154 := Fr.snoc X154 N121 g_b
        have K154 : Keep h0 h154 [a1, b] := (K121).wr W154 (Or.inl (List.mem_of_getElem? (i := 1) rfl))
        have V154 : Arv Z h154 b kb .long (3 : Int32) [(.long u1), (.long u2), (.long (-1 : Int64))] (.long (0 : Int64)) := Arv.set Ar153 q153 S153 M153 H153 G153 rfl W154 2 rfl (Nat.le_of_ble_eq_true rfl)
        have pre155 : ∀ tt, Steps p.tables e below (T154.setTop (mkF m 32 #[.val (.ref a1), .val (.int c1), .val (.int (3 : Int32)), .val (.int (c1 - (192 : Int32)))] [])) tt → Steps p.tables e below (T121.setTop (mkF m 32 #[.val (.ref a1), .val (.int c1), .val (.int (2 : Int32)), .val (.int (c1 - (128 : Int32)))] [])) tt := by
          intro tt kt
          refine pre142 tt ?_
          show Steps p.tables e below (T140.setTop (mkF m 53 #[.val (.ref a1), .val (.int c1), .val (.int (2 : Int32)), .val (.int (c1 - (192 : Int32)))] [(.int (64 : Int32)), (.int (c1 - (192 : Int32)))])) _
          refine XS.icmpNo X140.here hx rfl (hb hby d4_53) rfl (flt c53_143).1 ?_
          show Steps p.tables e below (T140.setTop (mkF m 56 #[.val (.ref a1), .val (.int c1), .val (.int (2 : Int32)), .val (.int (c1 - (192 : Int32)))] [])) _
          refine XS.aloadN X140.here hx rfl (hb hby d4_56) rfl rfl ?_
          show Steps p.tables e below (T140.setTop (mkF m 57 #[.val (.ref a1), .val (.int c1), .val (.int (2 : Int32)), .val (.int (c1 - (192 : Int32)))] [(.ref a1)])) _
          refine st152 _ ?_
          show Steps p.tables e below (T152.setTop (mkF m 60 #[.val (.ref a1), .val (.int c1), .val (.int (2 : Int32)), .val (.int (c1 - (192 : Int32)))] [(.ref b)])) _
          refine XS.iloadN X152.here hx rfl (hb hby d4_60) rfl ?_
          show Steps p.tables e below (T152.setTop (mkF m 61 #[.val (.ref a1), .val (.int c1), .val (.int (2 : Int32)), .val (.int (c1 - (192 : Int32)))] [(.int (2 : Int32)), (.ref b)])) _
          refine X152.ldc2Long hx hown (mvT hZ (hw _ (List.mem_of_getElem? (i := 44) rfl))) (g := (mkF m 61 #[.val (.ref a1), .val (.int c1), .val (.int (2 : Int32)), .val (.int (c1 - (192 : Int32)))] [(.int (2 : Int32)), (.ref b)])) rfl (hb hby d4_61) _ ?_
          show Steps p.tables e below (T152.setTop (mkF m 64 #[.val (.ref a1), .val (.int c1), .val (.int (2 : Int32)), .val (.int (c1 - (192 : Int32)))] [(.long (-1 : Int64)), (.int (2 : Int32)), (.ref b)])) _
          refine st154 _ ?_
          show Steps p.tables e below (T154.setTop (mkF m 65 #[.val (.ref a1), .val (.int c1), .val (.int (2 : Int32)), .val (.int (c1 - (192 : Int32)))] [])) _
          refine XS.goto X154.here hx rfl (pc0 := 65) (pc' := 86) rfl (hb hby d4_65) (by decide) (by decide) ?_
          show Steps p.tables e below (T154.setTop (mkF m 86 #[.val (.ref a1), .val (.int c1), .val (.int (2 : Int32)), .val (.int (c1 - (192 : Int32)))] [])) _
          refine XS.iinc X154.here hx rfl (hb hby d4_86) rfl (l' := #[.val (.ref a1), .val (.int c1), .val (.int (3 : Int32)), .val (.int (c1 - (192 : Int32)))]) rfl ?_
          show Steps p.tables e below (T154.setTop (mkF m 89 #[.val (.ref a1), .val (.int c1), .val (.int (3 : Int32)), .val (.int (c1 - (192 : Int32)))] [])) _
          refine XS.goto X154.here hx rfl (pc0 := 89) (pc' := 32) rfl (hb hby d4_89) (by decide) (by decide) ?_
          exact kt
        refine ⟨T154, _, N154, X154, (by rw [e154, hu3, own_upC c53_143]; exact ⟨K154, (Exa.wr W154 Ea121), (Fld.other W154 Ff121 (Or.inl hne)), (Fld.other W154 Fg121 (Or.inl hne)), V154⟩), fun tt kt => pre155 tt ?_⟩
        exact kt
    have pre156 : ∀ tt, Steps p.tables e below (T139.setTop (mkF m 32 #[.val (.ref a1), .val (.int c1), .val (.int (3 : Int32)), .val (.int (c1 - (192 : Int32)))] [])) tt → Steps p.tables e below (s₁.setTop (entryFrame m #[(.ref a1), (.int c1)] 4)) tt := by
      intro tt kt
      refine pre138 tt ?_
      show Steps p.tables e below (T121.setTop (mkF m 32 #[.val (.ref a1), .val (.int c1), .val (.int (2 : Int32)), .val (.int (c1 - (128 : Int32)))] [])) _
      refine st139 _ ?_
      exact kt
    obtain ⟨T157, X157, e157, st157⟩ := getF X139 hx hZ hown (host := "") (Or.inl (hw _ (List.mem_of_getElem? (i := 12) rfl))) Via.refl rfl Fg139 (g := (mkF m 34 #[.val (.ref a1), .val (.int c1), .val (.int (3 : Int32)), .val (.int (c1 - (192 : Int32)))] [(.ref a1), (.int (3 : Int32))])) rfl rfl (hb hby d4_34)
    have VO158 := Vb139
    obtain ⟨cl158, Ar158, q158, S158, M158, H158, G158⟩ := VO158
    have pre159 : ∀ tt, Steps p.tables e below (T157.setTop (mkF m 92 #[.val (.ref a1), .val (.int c1), .val (.int (3 : Int32)), .val (.int (c1 - (192 : Int32)))] [])) tt → Steps p.tables e below (s₁.setTop (entryFrame m #[(.ref a1), (.int c1)] 4)) tt := by
      intro tt kt
      refine pre156 tt ?_
      show Steps p.tables e below (T139.setTop (mkF m 32 #[.val (.ref a1), .val (.int c1), .val (.int (3 : Int32)), .val (.int (c1 - (192 : Int32)))] [])) _
      refine XS.iloadN X139.here hx rfl (hb hby d4_32) rfl ?_
      show Steps p.tables e below (T139.setTop (mkF m 33 #[.val (.ref a1), .val (.int c1), .val (.int (3 : Int32)), .val (.int (c1 - (192 : Int32)))] [(.int (3 : Int32))])) _
      refine XS.aloadN X139.here hx rfl (hb hby d4_33) rfl rfl ?_
      show Steps p.tables e below (T139.setTop (mkF m 34 #[.val (.ref a1), .val (.int c1), .val (.int (3 : Int32)), .val (.int (c1 - (192 : Int32)))] [(.ref a1), (.int (3 : Int32))])) _
      refine st157 _ ?_
      show Steps p.tables e below (T157.setTop (mkF m 37 #[.val (.ref a1), .val (.int c1), .val (.int (3 : Int32)), .val (.int (c1 - (192 : Int32)))] [(.ref b), (.int (3 : Int32))])) _
      refine X157.arraylength hx (by rw [e157]; exact Ar158.1) (State.isArrayOf_alike hZ.alike Ar158.2.1) (g := (mkF m 37 #[.val (.ref a1), .val (.int c1), .val (.int (3 : Int32)), .val (.int (c1 - (192 : Int32)))] [(.ref b), (.int (3 : Int32))])) rfl rfl (hb hby d4_37) _ ?_
      rw [len_of S158 M158]
      show Steps p.tables e below (T157.setTop (mkF m 38 #[.val (.ref a1), .val (.int c1), .val (.int (3 : Int32)), .val (.int (c1 - (192 : Int32)))] [(.int (3 : Int32)), (.int (3 : Int32))])) _
      refine XS.icmpYes X157.here hx rfl (pc0 := 38) (pc' := 92) rfl (hb hby d4_38) rfl (flt (by decide : ¬ ((3 : Int32) < (3 : Int32)))).2.1 (by decide) (by decide) ?_
      exact kt
    obtain ⟨fs, hr, hrun, hended, hW, hsame⟩ := X157.leave (v := none) (fun _ => rfl)
    refine ⟨_, _, pre159 _ ?_, hrun, hended, _, _, rfl, ?_, ⟨_, rfl⟩, hW, hsame.mono (by decide) (by decide)⟩
    · show Steps p.tables e below (T157.setTop (mkF m 92 #[.val (.ref a1), .val (.int c1), .val (.int (3 : Int32)), .val (.int (c1 - (192 : Int32)))] [])) _
      exact X157.returnOut hx Bd.returns (hb hby d4_92) hr
    · show QA Z a1 b kb (3 : Int32) u0 u1 u2 u3 h0 n0 _ T157.heap _
      rw [e157]
      exact ⟨rfl, N139, K139, Ea139, Ff139, Fg139, Vb139⟩
def Q0 (Z : State) (h0 : Heap) (n0 : Nat) (v : Option Value) (h : Heap) (L : List Loc) : Prop := v = some (.int (1 : Int32)) ∧ Fr n0 L
theorem pn_rm0 : plainName "com/example/phase7/phase7/metadata/FieldSetAddFirstPinLaw" = true := by first | (simp [plainName, overriddenIn]; done) | decide +kernel
theorem pd_rm0_0 : parseMethodDescriptor "(I)V" = some ⟨[.int], none⟩ := by decide +kernel
theorem pd_rm0_1 : parseMethodDescriptor "(I)Z" = some ⟨[.int], some .boolean⟩ := by decide +kernel
theorem pd_rm0_2 : parseMethodDescriptor "()I" = some ⟨[], some .int⟩ := by decide +kernel
theorem ef_rm0 (m : MethodId) (p1 : Int32) (p2 : Int32) (p3 : Int32) (p4 : Int32) (p5 : Int32) (p6 : Int32) : entryFrame m #[(.int p1), (.int p2), (.int p3), (.int p4), (.int p5), (.int p6)] maxLocals = mkF m 0 #[.val (.int p1), .val (.int p2), .val (.int p3), .val (.int p4), .val (.int p5), .val (.int p6), .unset, .unset, .unset, .unset, .unset, .unset, .unset, .unset, .unset, .unset, .unset] [] := by first | (simp [entryFrame, mkF, argsToLocals, Value.category, maxLocals]; done) | rfl
set_option maxRecDepth 65536 in
set_option maxHeartbeats 40000000 in
theorem rm0 (l : Launch) (Z : State) (a0 : Array Value) (hw : ∀ d ∈ tables_1, d.before a0 Z = true) (ws : List Jvm.Cond) (p1 p2 p3 p4 p5 p6 : Int32) (wN : Addr) (kN : ClassId) (h0 : Heap) (n0 : Nat) (Z0 : n0 ≤ h0.size) (S_N : Sta Z h0 "com/example/phase7/phase7/metadata/FieldSet" "NO_WORDS" "[J" (.ref wN)) (V_N : Arv Z h0 wN kN .long (0 : Int32) [(.long (0 : Int64)), (.long (0 : Int64)), (.long (0 : Int64))] (.long (0 : Int64))) :
    MetFree l x (head1 (Jvm.Cond.code x code maxLocals ret :: ws) room_1) (fun a U => a = #[(.int p1), (.int p2), (.int p3), (.int p4), (.int p5), (.int p6)] ∧ Z.Warmed39 U.vm ∧ U.heap = h0) (fun _ _ _ _ _ => True) (fun _ U o U' => ∃ v L, o = .returned v ∧ Q0 Z h0 n0 v U'.heap L ∧ FrameEnd U o U' L room_1.cells room_1.slots) := by
  refine MetFree.of_bodySF (plainFor_of_name pn_rm0) hisR ?_
  intro p e s m args below meth c s₁ Bd hml0 hP hK
  obtain ⟨rfl, hZ, hh⟩ := hP
  have hx := Bd.exec
  have hby := Bd.bytes
  have hml : c.maxLocals = 17 := hml0
  have hown : s.vm.findClass "com/example/phase7/phase7/metadata/FieldSetAddFirstPinLaw" = some m.cls := findClass_of_methodNamed Bd.named
  have hnm := (name_of_methodNamed Bd.named Bd.method).1
  have X0 : Stand p l e room_1 s m #[(.int p1), (.int p2), (.int p3), (.int p4), (.int p5), (.int p6)] below meth c s₁ [] 0 0 := Stand.of_body Bd
  have e0 : s₁.heap = h0 := by rw [← hh, Bd.state]; rfl
  have N0 := Fr.nil n0
  have pre0 : ∀ tt, Steps p.tables e below (s₁.setTop (mkF m 0 #[.val (.int p1), .val (.int p2), .val (.int p3), .val (.int p4), .val (.int p5), .val (.int p6), .unset, .unset, .unset, .unset, .unset, .unset, .unset, .unset, .unset, .unset, .unset] [])) tt → Steps p.tables e below (s₁.setTop (entryFrame m #[(.int p1), (.int p2), (.int p3), (.int p4), (.int p5), (.int p6)] maxLocals)) tt := fun tt kt => castTop (ef_rm0 m p1 p2 p3 p4 p5 p6) kt
  obtain ⟨n1, hn1⟩ : ∃ z : Int32, z = ((1 : Int32) + ((p1 &&& (2147483647 : Int32)) % (256 : Int32))) := ⟨_, rfl⟩
  have pre1 : ∀ tt, Steps p.tables e below (s₁.setTop (mkF m 10 #[.val (.int p1), .val (.int p2), .val (.int p3), .val (.int p4), .val (.int p5), .val (.int p6), .unset, .unset, .unset, .unset, .unset, .unset, .unset, .unset, .unset, .unset, .unset] [(.int n1)])) tt → Steps p.tables e below (s₁.setTop (entryFrame m #[(.int p1), (.int p2), (.int p3), (.int p4), (.int p5), (.int p6)] maxLocals)) tt := by
    intro tt kt
    refine pre0 tt ?_
    show Steps p.tables e below (s₁.setTop (mkF m 0 #[.val (.int p1), .val (.int p2), .val (.int p3), .val (.int p4), .val (.int p5), .val (.int p6), .unset, .unset, .unset, .unset, .unset, .unset, .unset, .unset, .unset, .unset, .unset] [])) _
    refine XS.iconst X0.here hx rfl (hb hby at_0) ?_
    show Steps p.tables e below (s₁.setTop (mkF m 1 #[.val (.int p1), .val (.int p2), .val (.int p3), .val (.int p4), .val (.int p5), .val (.int p6), .unset, .unset, .unset, .unset, .unset, .unset, .unset, .unset, .unset, .unset, .unset] [(.int (1 : Int32))])) _
    refine XS.iloadN X0.here hx rfl (hb hby at_1) rfl ?_
    show Steps p.tables e below (s₁.setTop (mkF m 2 #[.val (.int p1), .val (.int p2), .val (.int p3), .val (.int p4), .val (.int p5), .val (.int p6), .unset, .unset, .unset, .unset, .unset, .unset, .unset, .unset, .unset, .unset, .unset] [(.int p1), (.int (1 : Int32))])) _
    refine X0.ldcInt hx hown (mvT hZ (hw _ (List.mem_of_getElem? (i := 0) rfl))) (g := (mkF m 2 #[.val (.int p1), .val (.int p2), .val (.int p3), .val (.int p4), .val (.int p5), .val (.int p6), .unset, .unset, .unset, .unset, .unset, .unset, .unset, .unset, .unset, .unset, .unset] [(.int p1), (.int (1 : Int32))])) rfl (hb hby at_2) _ ?_
    show Steps p.tables e below (s₁.setTop (mkF m 4 #[.val (.int p1), .val (.int p2), .val (.int p3), .val (.int p4), .val (.int p5), .val (.int p6), .unset, .unset, .unset, .unset, .unset, .unset, .unset, .unset, .unset, .unset, .unset] [(.int (2147483647 : Int32)), (.int p1), (.int (1 : Int32))])) _
    refine XS.iand X0.here hx rfl (hb hby at_4) rfl ?_
    show Steps p.tables e below (s₁.setTop (mkF m 5 #[.val (.int p1), .val (.int p2), .val (.int p3), .val (.int p4), .val (.int p5), .val (.int p6), .unset, .unset, .unset, .unset, .unset, .unset, .unset, .unset, .unset, .unset, .unset] [(.int (p1 &&& (2147483647 : Int32))), (.int (1 : Int32))])) _
    refine XS.sipush X0.here hx rfl (hb hby at_5) ?_
    show Steps p.tables e below (s₁.setTop (mkF m 8 #[.val (.int p1), .val (.int p2), .val (.int p3), .val (.int p4), .val (.int p5), .val (.int p6), .unset, .unset, .unset, .unset, .unset, .unset, .unset, .unset, .unset, .unset, .unset] [(.int (256 : Int32)), (.int (p1 &&& (2147483647 : Int32))), (.int (1 : Int32))])) _
    refine iremM (g := (mkF m 8 #[.val (.int p1), .val (.int p2), .val (.int p3), .val (.int p4), .val (.int p5), .val (.int p6), .unset, .unset, .unset, .unset, .unset, .unset, .unset, .unset, .unset, .unset, .unset] [(.int (256 : Int32)), (.int (p1 &&& (2147483647 : Int32))), (.int (1 : Int32))])) X0 hx rfl (hb hby at_8) rfl (by decide : ¬ ((256 : Int32) = (0 : Int32))) ?_
    show Steps p.tables e below (s₁.setTop (mkF m 9 #[.val (.int p1), .val (.int p2), .val (.int p3), .val (.int p4), .val (.int p5), .val (.int p6), .unset, .unset, .unset, .unset, .unset, .unset, .unset, .unset, .unset, .unset, .unset] [(.int ((p1 &&& (2147483647 : Int32)) % (256 : Int32))), (.int (1 : Int32))])) _
    refine XS.iadd X0.here hx rfl (hb hby at_9) rfl ?_
    show Steps p.tables e below (s₁.setTop (mkF m 10 #[.val (.int p1), .val (.int p2), .val (.int p3), .val (.int p4), .val (.int p5), .val (.int p6), .unset, .unset, .unset, .unset, .unset, .unset, .unset, .unset, .unset, .unset, .unset] [(.int ((1 : Int32) + ((p1 &&& (2147483647 : Int32)) % (256 : Int32))))])) _
    rw [← hn1]
    exact kt
  have hn := own_n1 p1
  rw [← hn1] at hn
  clear hn1
  have hnz := own_nz hn
  have hnp : 0 < n1.toInt := by omega
  obtain ⟨m1, hm1⟩ : ∃ z : Int32, z = (n1 + (1 : Int32)) := ⟨_, rfl⟩
  have pre2 : ∀ tt, Steps p.tables e below (s₁.setTop (mkF m 20 #[.val (.int p1), .val (.int p2), .val (.int p3), .val (.int p4), .val (.int p5), .val (.int p6), .val (.int n1), .unset, .unset, .unset, .unset, .unset, .unset, .unset, .unset, .unset, .unset] [(.int m1), (.int (p2 &&& (2147483647 : Int32)))])) tt → Steps p.tables e below (s₁.setTop (entryFrame m #[(.int p1), (.int p2), (.int p3), (.int p4), (.int p5), (.int p6)] maxLocals)) tt := by
    intro tt kt
    refine pre1 tt ?_
    show Steps p.tables e below (s₁.setTop (mkF m 10 #[.val (.int p1), .val (.int p2), .val (.int p3), .val (.int p4), .val (.int p5), .val (.int p6), .unset, .unset, .unset, .unset, .unset, .unset, .unset, .unset, .unset, .unset, .unset] [(.int n1)])) _
    refine XS.istore X0.here hx rfl (hb hby at_10) rfl (l' := #[.val (.int p1), .val (.int p2), .val (.int p3), .val (.int p4), .val (.int p5), .val (.int p6), .val (.int n1), .unset, .unset, .unset, .unset, .unset, .unset, .unset, .unset, .unset, .unset]) rfl ?_
    show Steps p.tables e below (s₁.setTop (mkF m 12 #[.val (.int p1), .val (.int p2), .val (.int p3), .val (.int p4), .val (.int p5), .val (.int p6), .val (.int n1), .unset, .unset, .unset, .unset, .unset, .unset, .unset, .unset, .unset, .unset] [])) _
    refine XS.iloadN X0.here hx rfl (hb hby at_12) rfl ?_
    show Steps p.tables e below (s₁.setTop (mkF m 13 #[.val (.int p1), .val (.int p2), .val (.int p3), .val (.int p4), .val (.int p5), .val (.int p6), .val (.int n1), .unset, .unset, .unset, .unset, .unset, .unset, .unset, .unset, .unset, .unset] [(.int p2)])) _
    refine X0.ldcInt hx hown (mvT hZ (hw _ (List.mem_of_getElem? (i := 0) rfl))) (g := (mkF m 13 #[.val (.int p1), .val (.int p2), .val (.int p3), .val (.int p4), .val (.int p5), .val (.int p6), .val (.int n1), .unset, .unset, .unset, .unset, .unset, .unset, .unset, .unset, .unset, .unset] [(.int p2)])) rfl (hb hby at_13) _ ?_
    show Steps p.tables e below (s₁.setTop (mkF m 15 #[.val (.int p1), .val (.int p2), .val (.int p3), .val (.int p4), .val (.int p5), .val (.int p6), .val (.int n1), .unset, .unset, .unset, .unset, .unset, .unset, .unset, .unset, .unset, .unset] [(.int (2147483647 : Int32)), (.int p2)])) _
    refine XS.iand X0.here hx rfl (hb hby at_15) rfl ?_
    show Steps p.tables e below (s₁.setTop (mkF m 16 #[.val (.int p1), .val (.int p2), .val (.int p3), .val (.int p4), .val (.int p5), .val (.int p6), .val (.int n1), .unset, .unset, .unset, .unset, .unset, .unset, .unset, .unset, .unset, .unset] [(.int (p2 &&& (2147483647 : Int32)))])) _
    refine XS.iload X0.here hx rfl (hb hby at_16) rfl ?_
    show Steps p.tables e below (s₁.setTop (mkF m 18 #[.val (.int p1), .val (.int p2), .val (.int p3), .val (.int p4), .val (.int p5), .val (.int p6), .val (.int n1), .unset, .unset, .unset, .unset, .unset, .unset, .unset, .unset, .unset, .unset] [(.int n1), (.int (p2 &&& (2147483647 : Int32)))])) _
    refine XS.iconst X0.here hx rfl (hb hby at_18) ?_
    show Steps p.tables e below (s₁.setTop (mkF m 19 #[.val (.int p1), .val (.int p2), .val (.int p3), .val (.int p4), .val (.int p5), .val (.int p6), .val (.int n1), .unset, .unset, .unset, .unset, .unset, .unset, .unset, .unset, .unset, .unset] [(.int (1 : Int32)), (.int n1), (.int (p2 &&& (2147483647 : Int32)))])) _
    refine XS.iadd X0.here hx rfl (hb hby at_19) rfl ?_
    show Steps p.tables e below (s₁.setTop (mkF m 20 #[.val (.int p1), .val (.int p2), .val (.int p3), .val (.int p4), .val (.int p5), .val (.int p6), .val (.int n1), .unset, .unset, .unset, .unset, .unset, .unset, .unset, .unset, .unset, .unset] [(.int (n1 + (1 : Int32))), (.int (p2 &&& (2147483647 : Int32)))])) _
    rw [← hm1]
    exact kt
  have hm := own_m1 hn
  rw [← hm1] at hm
  clear hm1
  have hmp : 0 < m1.toInt := by omega
  have hmz : ¬ (m1 = (0 : Int32)) := by
    intro q
    rw [q] at hmp
    exact absurd hmp (by decide)
  obtain ⟨cc, hcc⟩ : ∃ z : Int32, z = ((p2 &&& (2147483647 : Int32)) % m1) := ⟨_, rfl⟩
  have pre3 : ∀ tt, Steps p.tables e below (s₁.setTop (mkF m 21 #[.val (.int p1), .val (.int p2), .val (.int p3), .val (.int p4), .val (.int p5), .val (.int p6), .val (.int n1), .unset, .unset, .unset, .unset, .unset, .unset, .unset, .unset, .unset, .unset] [(.int cc)])) tt → Steps p.tables e below (s₁.setTop (entryFrame m #[(.int p1), (.int p2), (.int p3), (.int p4), (.int p5), (.int p6)] maxLocals)) tt := by
    intro tt kt
    refine pre2 tt ?_
    show Steps p.tables e below (s₁.setTop (mkF m 20 #[.val (.int p1), .val (.int p2), .val (.int p3), .val (.int p4), .val (.int p5), .val (.int p6), .val (.int n1), .unset, .unset, .unset, .unset, .unset, .unset, .unset, .unset, .unset, .unset] [(.int m1), (.int (p2 &&& (2147483647 : Int32)))])) _
    refine iremM (g := (mkF m 20 #[.val (.int p1), .val (.int p2), .val (.int p3), .val (.int p4), .val (.int p5), .val (.int p6), .val (.int n1), .unset, .unset, .unset, .unset, .unset, .unset, .unset, .unset, .unset, .unset] [(.int m1), (.int (p2 &&& (2147483647 : Int32)))])) X0 hx rfl (hb hby at_20) rfl hmz ?_
    show Steps p.tables e below (s₁.setTop (mkF m 21 #[.val (.int p1), .val (.int p2), .val (.int p3), .val (.int p4), .val (.int p5), .val (.int p6), .val (.int n1), .unset, .unset, .unset, .unset, .unset, .unset, .unset, .unset, .unset, .unset] [(.int ((p2 &&& (2147483647 : Int32)) % m1))])) _
    rw [← hcc]
    exact kt
  have r_cc := own_rem p2 m1 hmp
  rw [← hcc] at r_cc
  clear hcc
  have q_cc : 0 ≤ cc.toInt ∧ cc.toInt ≤ n1.toInt := by omega
  have q_c2 : 0 ≤ cc.toInt ∧ cc.toInt ≤ 256 := by omega
  obtain ⟨xa, hxa⟩ : ∃ z : Int32, z = ((p3 &&& (2147483647 : Int32)) % n1) := ⟨_, rfl⟩
  have pre4 : ∀ tt, Steps p.tables e below (s₁.setTop (mkF m 30 #[.val (.int p1), .val (.int p2), .val (.int p3), .val (.int p4), .val (.int p5), .val (.int p6), .val (.int n1), .val (.int cc), .unset, .unset, .unset, .unset, .unset, .unset, .unset, .unset, .unset] [(.int xa)])) tt → Steps p.tables e below (s₁.setTop (entryFrame m #[(.int p1), (.int p2), (.int p3), (.int p4), (.int p5), (.int p6)] maxLocals)) tt := by
    intro tt kt
    refine pre3 tt ?_
    show Steps p.tables e below (s₁.setTop (mkF m 21 #[.val (.int p1), .val (.int p2), .val (.int p3), .val (.int p4), .val (.int p5), .val (.int p6), .val (.int n1), .unset, .unset, .unset, .unset, .unset, .unset, .unset, .unset, .unset, .unset] [(.int cc)])) _
    refine XS.istore X0.here hx rfl (hb hby at_21) rfl (l' := #[.val (.int p1), .val (.int p2), .val (.int p3), .val (.int p4), .val (.int p5), .val (.int p6), .val (.int n1), .val (.int cc), .unset, .unset, .unset, .unset, .unset, .unset, .unset, .unset, .unset]) rfl ?_
    show Steps p.tables e below (s₁.setTop (mkF m 23 #[.val (.int p1), .val (.int p2), .val (.int p3), .val (.int p4), .val (.int p5), .val (.int p6), .val (.int n1), .val (.int cc), .unset, .unset, .unset, .unset, .unset, .unset, .unset, .unset, .unset] [])) _
    refine XS.iloadN X0.here hx rfl (hb hby at_23) rfl ?_
    show Steps p.tables e below (s₁.setTop (mkF m 24 #[.val (.int p1), .val (.int p2), .val (.int p3), .val (.int p4), .val (.int p5), .val (.int p6), .val (.int n1), .val (.int cc), .unset, .unset, .unset, .unset, .unset, .unset, .unset, .unset, .unset] [(.int p3)])) _
    refine X0.ldcInt hx hown (mvT hZ (hw _ (List.mem_of_getElem? (i := 0) rfl))) (g := (mkF m 24 #[.val (.int p1), .val (.int p2), .val (.int p3), .val (.int p4), .val (.int p5), .val (.int p6), .val (.int n1), .val (.int cc), .unset, .unset, .unset, .unset, .unset, .unset, .unset, .unset, .unset] [(.int p3)])) rfl (hb hby at_24) _ ?_
    show Steps p.tables e below (s₁.setTop (mkF m 26 #[.val (.int p1), .val (.int p2), .val (.int p3), .val (.int p4), .val (.int p5), .val (.int p6), .val (.int n1), .val (.int cc), .unset, .unset, .unset, .unset, .unset, .unset, .unset, .unset, .unset] [(.int (2147483647 : Int32)), (.int p3)])) _
    refine XS.iand X0.here hx rfl (hb hby at_26) rfl ?_
    show Steps p.tables e below (s₁.setTop (mkF m 27 #[.val (.int p1), .val (.int p2), .val (.int p3), .val (.int p4), .val (.int p5), .val (.int p6), .val (.int n1), .val (.int cc), .unset, .unset, .unset, .unset, .unset, .unset, .unset, .unset, .unset] [(.int (p3 &&& (2147483647 : Int32)))])) _
    refine XS.iload X0.here hx rfl (hb hby at_27) rfl ?_
    show Steps p.tables e below (s₁.setTop (mkF m 29 #[.val (.int p1), .val (.int p2), .val (.int p3), .val (.int p4), .val (.int p5), .val (.int p6), .val (.int n1), .val (.int cc), .unset, .unset, .unset, .unset, .unset, .unset, .unset, .unset, .unset] [(.int n1), (.int (p3 &&& (2147483647 : Int32)))])) _
    refine iremM (g := (mkF m 29 #[.val (.int p1), .val (.int p2), .val (.int p3), .val (.int p4), .val (.int p5), .val (.int p6), .val (.int n1), .val (.int cc), .unset, .unset, .unset, .unset, .unset, .unset, .unset, .unset, .unset] [(.int n1), (.int (p3 &&& (2147483647 : Int32)))])) X0 hx rfl (hb hby at_29) rfl hnz ?_
    show Steps p.tables e below (s₁.setTop (mkF m 30 #[.val (.int p1), .val (.int p2), .val (.int p3), .val (.int p4), .val (.int p5), .val (.int p6), .val (.int n1), .val (.int cc), .unset, .unset, .unset, .unset, .unset, .unset, .unset, .unset, .unset] [(.int ((p3 &&& (2147483647 : Int32)) % n1))])) _
    rw [← hxa]
    exact kt
  have r_xa := own_rem p3 n1 hnp
  rw [← hxa] at r_xa
  clear hxa
  obtain ⟨xb, hxb⟩ : ∃ z : Int32, z = ((p4 &&& (2147483647 : Int32)) % n1) := ⟨_, rfl⟩
  have pre5 : ∀ tt, Steps p.tables e below (s₁.setTop (mkF m 39 #[.val (.int p1), .val (.int p2), .val (.int p3), .val (.int p4), .val (.int p5), .val (.int p6), .val (.int n1), .val (.int cc), .val (.int xa), .unset, .unset, .unset, .unset, .unset, .unset, .unset, .unset] [(.int xb)])) tt → Steps p.tables e below (s₁.setTop (entryFrame m #[(.int p1), (.int p2), (.int p3), (.int p4), (.int p5), (.int p6)] maxLocals)) tt := by
    intro tt kt
    refine pre4 tt ?_
    show Steps p.tables e below (s₁.setTop (mkF m 30 #[.val (.int p1), .val (.int p2), .val (.int p3), .val (.int p4), .val (.int p5), .val (.int p6), .val (.int n1), .val (.int cc), .unset, .unset, .unset, .unset, .unset, .unset, .unset, .unset, .unset] [(.int xa)])) _
    refine XS.istore X0.here hx rfl (hb hby at_30) rfl (l' := #[.val (.int p1), .val (.int p2), .val (.int p3), .val (.int p4), .val (.int p5), .val (.int p6), .val (.int n1), .val (.int cc), .val (.int xa), .unset, .unset, .unset, .unset, .unset, .unset, .unset, .unset]) rfl ?_
    show Steps p.tables e below (s₁.setTop (mkF m 32 #[.val (.int p1), .val (.int p2), .val (.int p3), .val (.int p4), .val (.int p5), .val (.int p6), .val (.int n1), .val (.int cc), .val (.int xa), .unset, .unset, .unset, .unset, .unset, .unset, .unset, .unset] [])) _
    refine XS.iloadN X0.here hx rfl (hb hby at_32) rfl ?_
    show Steps p.tables e below (s₁.setTop (mkF m 33 #[.val (.int p1), .val (.int p2), .val (.int p3), .val (.int p4), .val (.int p5), .val (.int p6), .val (.int n1), .val (.int cc), .val (.int xa), .unset, .unset, .unset, .unset, .unset, .unset, .unset, .unset] [(.int p4)])) _
    refine X0.ldcInt hx hown (mvT hZ (hw _ (List.mem_of_getElem? (i := 0) rfl))) (g := (mkF m 33 #[.val (.int p1), .val (.int p2), .val (.int p3), .val (.int p4), .val (.int p5), .val (.int p6), .val (.int n1), .val (.int cc), .val (.int xa), .unset, .unset, .unset, .unset, .unset, .unset, .unset, .unset] [(.int p4)])) rfl (hb hby at_33) _ ?_
    show Steps p.tables e below (s₁.setTop (mkF m 35 #[.val (.int p1), .val (.int p2), .val (.int p3), .val (.int p4), .val (.int p5), .val (.int p6), .val (.int n1), .val (.int cc), .val (.int xa), .unset, .unset, .unset, .unset, .unset, .unset, .unset, .unset] [(.int (2147483647 : Int32)), (.int p4)])) _
    refine XS.iand X0.here hx rfl (hb hby at_35) rfl ?_
    show Steps p.tables e below (s₁.setTop (mkF m 36 #[.val (.int p1), .val (.int p2), .val (.int p3), .val (.int p4), .val (.int p5), .val (.int p6), .val (.int n1), .val (.int cc), .val (.int xa), .unset, .unset, .unset, .unset, .unset, .unset, .unset, .unset] [(.int (p4 &&& (2147483647 : Int32)))])) _
    refine XS.iload X0.here hx rfl (hb hby at_36) rfl ?_
    show Steps p.tables e below (s₁.setTop (mkF m 38 #[.val (.int p1), .val (.int p2), .val (.int p3), .val (.int p4), .val (.int p5), .val (.int p6), .val (.int n1), .val (.int cc), .val (.int xa), .unset, .unset, .unset, .unset, .unset, .unset, .unset, .unset] [(.int n1), (.int (p4 &&& (2147483647 : Int32)))])) _
    refine iremM (g := (mkF m 38 #[.val (.int p1), .val (.int p2), .val (.int p3), .val (.int p4), .val (.int p5), .val (.int p6), .val (.int n1), .val (.int cc), .val (.int xa), .unset, .unset, .unset, .unset, .unset, .unset, .unset, .unset] [(.int n1), (.int (p4 &&& (2147483647 : Int32)))])) X0 hx rfl (hb hby at_38) rfl hnz ?_
    show Steps p.tables e below (s₁.setTop (mkF m 39 #[.val (.int p1), .val (.int p2), .val (.int p3), .val (.int p4), .val (.int p5), .val (.int p6), .val (.int n1), .val (.int cc), .val (.int xa), .unset, .unset, .unset, .unset, .unset, .unset, .unset, .unset] [(.int ((p4 &&& (2147483647 : Int32)) % n1))])) _
    rw [← hxb]
    exact kt
  have r_xb := own_rem p4 n1 hnp
  rw [← hxb] at r_xb
  clear hxb
  obtain ⟨ya, hya⟩ : ∃ z : Int32, z = ((p5 &&& (2147483647 : Int32)) % n1) := ⟨_, rfl⟩
  have pre6 : ∀ tt, Steps p.tables e below (s₁.setTop (mkF m 49 #[.val (.int p1), .val (.int p2), .val (.int p3), .val (.int p4), .val (.int p5), .val (.int p6), .val (.int n1), .val (.int cc), .val (.int xa), .val (.int xb), .unset, .unset, .unset, .unset, .unset, .unset, .unset] [(.int ya)])) tt → Steps p.tables e below (s₁.setTop (entryFrame m #[(.int p1), (.int p2), (.int p3), (.int p4), (.int p5), (.int p6)] maxLocals)) tt := by
    intro tt kt
    refine pre5 tt ?_
    show Steps p.tables e below (s₁.setTop (mkF m 39 #[.val (.int p1), .val (.int p2), .val (.int p3), .val (.int p4), .val (.int p5), .val (.int p6), .val (.int n1), .val (.int cc), .val (.int xa), .unset, .unset, .unset, .unset, .unset, .unset, .unset, .unset] [(.int xb)])) _
    refine XS.istore X0.here hx rfl (hb hby at_39) rfl (l' := #[.val (.int p1), .val (.int p2), .val (.int p3), .val (.int p4), .val (.int p5), .val (.int p6), .val (.int n1), .val (.int cc), .val (.int xa), .val (.int xb), .unset, .unset, .unset, .unset, .unset, .unset, .unset]) rfl ?_
    show Steps p.tables e below (s₁.setTop (mkF m 41 #[.val (.int p1), .val (.int p2), .val (.int p3), .val (.int p4), .val (.int p5), .val (.int p6), .val (.int n1), .val (.int cc), .val (.int xa), .val (.int xb), .unset, .unset, .unset, .unset, .unset, .unset, .unset] [])) _
    refine XS.iload X0.here hx rfl (hb hby at_41) rfl ?_
    show Steps p.tables e below (s₁.setTop (mkF m 43 #[.val (.int p1), .val (.int p2), .val (.int p3), .val (.int p4), .val (.int p5), .val (.int p6), .val (.int n1), .val (.int cc), .val (.int xa), .val (.int xb), .unset, .unset, .unset, .unset, .unset, .unset, .unset] [(.int p5)])) _
    refine X0.ldcInt hx hown (mvT hZ (hw _ (List.mem_of_getElem? (i := 0) rfl))) (g := (mkF m 43 #[.val (.int p1), .val (.int p2), .val (.int p3), .val (.int p4), .val (.int p5), .val (.int p6), .val (.int n1), .val (.int cc), .val (.int xa), .val (.int xb), .unset, .unset, .unset, .unset, .unset, .unset, .unset] [(.int p5)])) rfl (hb hby at_43) _ ?_
    show Steps p.tables e below (s₁.setTop (mkF m 45 #[.val (.int p1), .val (.int p2), .val (.int p3), .val (.int p4), .val (.int p5), .val (.int p6), .val (.int n1), .val (.int cc), .val (.int xa), .val (.int xb), .unset, .unset, .unset, .unset, .unset, .unset, .unset] [(.int (2147483647 : Int32)), (.int p5)])) _
    refine XS.iand X0.here hx rfl (hb hby at_45) rfl ?_
    show Steps p.tables e below (s₁.setTop (mkF m 46 #[.val (.int p1), .val (.int p2), .val (.int p3), .val (.int p4), .val (.int p5), .val (.int p6), .val (.int n1), .val (.int cc), .val (.int xa), .val (.int xb), .unset, .unset, .unset, .unset, .unset, .unset, .unset] [(.int (p5 &&& (2147483647 : Int32)))])) _
    refine XS.iload X0.here hx rfl (hb hby at_46) rfl ?_
    show Steps p.tables e below (s₁.setTop (mkF m 48 #[.val (.int p1), .val (.int p2), .val (.int p3), .val (.int p4), .val (.int p5), .val (.int p6), .val (.int n1), .val (.int cc), .val (.int xa), .val (.int xb), .unset, .unset, .unset, .unset, .unset, .unset, .unset] [(.int n1), (.int (p5 &&& (2147483647 : Int32)))])) _
    refine iremM (g := (mkF m 48 #[.val (.int p1), .val (.int p2), .val (.int p3), .val (.int p4), .val (.int p5), .val (.int p6), .val (.int n1), .val (.int cc), .val (.int xa), .val (.int xb), .unset, .unset, .unset, .unset, .unset, .unset, .unset] [(.int n1), (.int (p5 &&& (2147483647 : Int32)))])) X0 hx rfl (hb hby at_48) rfl hnz ?_
    show Steps p.tables e below (s₁.setTop (mkF m 49 #[.val (.int p1), .val (.int p2), .val (.int p3), .val (.int p4), .val (.int p5), .val (.int p6), .val (.int n1), .val (.int cc), .val (.int xa), .val (.int xb), .unset, .unset, .unset, .unset, .unset, .unset, .unset] [(.int ((p5 &&& (2147483647 : Int32)) % n1))])) _
    rw [← hya]
    exact kt
  have r_ya := own_rem p5 n1 hnp
  rw [← hya] at r_ya
  clear hya
  obtain ⟨yb, hyb⟩ : ∃ z : Int32, z = ((p6 &&& (2147483647 : Int32)) % n1) := ⟨_, rfl⟩
  have pre7 : ∀ tt, Steps p.tables e below (s₁.setTop (mkF m 59 #[.val (.int p1), .val (.int p2), .val (.int p3), .val (.int p4), .val (.int p5), .val (.int p6), .val (.int n1), .val (.int cc), .val (.int xa), .val (.int xb), .val (.int ya), .unset, .unset, .unset, .unset, .unset, .unset] [(.int yb)])) tt → Steps p.tables e below (s₁.setTop (entryFrame m #[(.int p1), (.int p2), (.int p3), (.int p4), (.int p5), (.int p6)] maxLocals)) tt := by
    intro tt kt
    refine pre6 tt ?_
    show Steps p.tables e below (s₁.setTop (mkF m 49 #[.val (.int p1), .val (.int p2), .val (.int p3), .val (.int p4), .val (.int p5), .val (.int p6), .val (.int n1), .val (.int cc), .val (.int xa), .val (.int xb), .unset, .unset, .unset, .unset, .unset, .unset, .unset] [(.int ya)])) _
    refine XS.istore X0.here hx rfl (hb hby at_49) rfl (l' := #[.val (.int p1), .val (.int p2), .val (.int p3), .val (.int p4), .val (.int p5), .val (.int p6), .val (.int n1), .val (.int cc), .val (.int xa), .val (.int xb), .val (.int ya), .unset, .unset, .unset, .unset, .unset, .unset]) rfl ?_
    show Steps p.tables e below (s₁.setTop (mkF m 51 #[.val (.int p1), .val (.int p2), .val (.int p3), .val (.int p4), .val (.int p5), .val (.int p6), .val (.int n1), .val (.int cc), .val (.int xa), .val (.int xb), .val (.int ya), .unset, .unset, .unset, .unset, .unset, .unset] [])) _
    refine XS.iload X0.here hx rfl (hb hby at_51) rfl ?_
    show Steps p.tables e below (s₁.setTop (mkF m 53 #[.val (.int p1), .val (.int p2), .val (.int p3), .val (.int p4), .val (.int p5), .val (.int p6), .val (.int n1), .val (.int cc), .val (.int xa), .val (.int xb), .val (.int ya), .unset, .unset, .unset, .unset, .unset, .unset] [(.int p6)])) _
    refine X0.ldcInt hx hown (mvT hZ (hw _ (List.mem_of_getElem? (i := 0) rfl))) (g := (mkF m 53 #[.val (.int p1), .val (.int p2), .val (.int p3), .val (.int p4), .val (.int p5), .val (.int p6), .val (.int n1), .val (.int cc), .val (.int xa), .val (.int xb), .val (.int ya), .unset, .unset, .unset, .unset, .unset, .unset] [(.int p6)])) rfl (hb hby at_53) _ ?_
    show Steps p.tables e below (s₁.setTop (mkF m 55 #[.val (.int p1), .val (.int p2), .val (.int p3), .val (.int p4), .val (.int p5), .val (.int p6), .val (.int n1), .val (.int cc), .val (.int xa), .val (.int xb), .val (.int ya), .unset, .unset, .unset, .unset, .unset, .unset] [(.int (2147483647 : Int32)), (.int p6)])) _
    refine XS.iand X0.here hx rfl (hb hby at_55) rfl ?_
    show Steps p.tables e below (s₁.setTop (mkF m 56 #[.val (.int p1), .val (.int p2), .val (.int p3), .val (.int p4), .val (.int p5), .val (.int p6), .val (.int n1), .val (.int cc), .val (.int xa), .val (.int xb), .val (.int ya), .unset, .unset, .unset, .unset, .unset, .unset] [(.int (p6 &&& (2147483647 : Int32)))])) _
    refine XS.iload X0.here hx rfl (hb hby at_56) rfl ?_
    show Steps p.tables e below (s₁.setTop (mkF m 58 #[.val (.int p1), .val (.int p2), .val (.int p3), .val (.int p4), .val (.int p5), .val (.int p6), .val (.int n1), .val (.int cc), .val (.int xa), .val (.int xb), .val (.int ya), .unset, .unset, .unset, .unset, .unset, .unset] [(.int n1), (.int (p6 &&& (2147483647 : Int32)))])) _
    refine iremM (g := (mkF m 58 #[.val (.int p1), .val (.int p2), .val (.int p3), .val (.int p4), .val (.int p5), .val (.int p6), .val (.int n1), .val (.int cc), .val (.int xa), .val (.int xb), .val (.int ya), .unset, .unset, .unset, .unset, .unset, .unset] [(.int n1), (.int (p6 &&& (2147483647 : Int32)))])) X0 hx rfl (hb hby at_58) rfl hnz ?_
    show Steps p.tables e below (s₁.setTop (mkF m 59 #[.val (.int p1), .val (.int p2), .val (.int p3), .val (.int p4), .val (.int p5), .val (.int p6), .val (.int n1), .val (.int cc), .val (.int xa), .val (.int xb), .val (.int ya), .unset, .unset, .unset, .unset, .unset, .unset] [(.int ((p6 &&& (2147483647 : Int32)) % n1))])) _
    rw [← hyb]
    exact kt
  have r_yb := own_rem p6 n1 hnp
  rw [← hyb] at r_yb
  clear hyb
  obtain ⟨T8, h8, X8, e8, E8, A8, D8, -, st8⟩ := newO X0 hx hZ hown (hw _ (List.mem_of_getElem? (i := 1) rfl)) (hw _ (List.mem_of_getElem? (i := 2) rfl)) (hw _ (List.mem_of_getElem? (i := 3) rfl)) e0 (g := (mkF m 61 #[.val (.int p1), .val (.int p2), .val (.int p3), .val (.int p4), .val (.int p5), .val (.int p6), .val (.int n1), .val (.int cc), .val (.int xa), .val (.int xb), .val (.int ya), .val (.int yb), .unset, .unset, .unset, .unset, .unset] [])) rfl (hb hby at_61) (by decide) (by decide)
  obtain ⟨b8, g8⟩ : ∃ z, z = h0.size := ⟨_, rfl⟩
  rw [← g8] at A8 D8 st8
  have g_b8 : n0 ≤ b8 := Nat.le_trans Z0 (Nat.le_of_eq g8.symm)
  have F_further_b8 : Fld Z h8 b8 "com/example/phase7/phase7/metadata/FieldSet" "further" "[J" .null := D8 (Or.inr (hw _ (List.mem_of_getElem? (i := 13) rfl))) (ty := (.array .long)) (by decide)
  have F_first_b8 : Fld Z h8 b8 "com/example/phase7/phase7/metadata/FieldSet" "first" "J" (.long (0 : Int64)) := D8 (Or.inl (hw _ (List.mem_of_getElem? (i := 20) rfl))) (ty := .long) (by decide)
  obtain ⟨_, _, ⟨T9, L9, k9, n9⟩, -, X9, ⟨Lc9, hQ9, l9, y9, z9⟩, st9⟩ := X8.specialBack hx (y := (⟨"com/example/phase7/phase7/metadata/FieldSet", "<init>", "(I)V"⟩ : MethodName)) rfl hown (mvT hZ (hw _ (List.mem_of_getElem? (i := 4) rfl))) (mvT hZ (hw _ (List.mem_of_getElem? (i := 5) rfl))) (mvT hZ (hw _ (List.mem_of_getElem? (i := 6) rfl))) (by decide) (backOf (W := 1) (rmC l Z a0 hw [] b8 n1 wN kN h8 n0 (Nat.le_trans Z0 E8.1) A8 F_first_b8 F_further_b8 (Sta.ext E8 S_N) (V_N.ext E8) (Nat.ne_of_gt (Nat.lt_of_lt_of_le V_N.lt (Nat.le_of_eq g8.symm))) g_b8 hn) hZ (hw _ (List.mem_of_getElem? (i := 6) rfl)) (hw _ (List.mem_of_getElem? (i := 3) rfl)) (by decide) (by decide)) (g := (mkF m 67 #[.val (.int p1), .val (.int p2), .val (.int p3), .val (.int p4), .val (.int p5), .val (.int p6), .val (.int n1), .val (.int cc), .val (.int xa), .val (.int xb), .val (.int ya), .val (.int yb), .unset, .unset, .unset, .unset, .unset] [(.int n1), (.ref b8), (.ref b8)])) rfl (by rw [hml]; rfl) (Steps.refl _) (a := b8) (argsL := [(.int n1)]) (rest := [(.ref b8)]) (lenOf pd_rm0_0 rfl) rfl (by show 2 * 0 + _ ≤ _; exact Nat.le_of_eq rfl) (hb hby at_67) (fun _ _ => ⟨rfl, e8, (by decide : 1 + 1 ≤ _), (by decide : 2 + 3 ≤ _)⟩)
  dsimp only [Pt.U, Pt.locs, Pt.cells, Pt.slots] at X9 l9 y9 z9 st9 hQ9
  subst l9 y9 z9
  obtain ⟨rfl, N9q, K9, Ea9, Ff9, b9, kb9, z9, Fg9, Vb9, hne9, hz9, gz9⟩ := hQ9
  have N9 := Fr.app N0 N9q
  have z_xa : (xa / (64 : Int32)).toInt ≤ z9.toInt := by
    have q1 := (own_fr hn r_xa).2.2
    have q2 := hz9
    have q3 := r_xa
    omega
  obtain ⟨u0_10, hu0_10⟩ : ∃ z : Int64, z = if xa / (64 : Int32) = 0 then ((0 : Int64) ||| ((1 : Int64) <<< (xa &&& 0x3f).toInt64)) else (0 : Int64) := ⟨_, rfl⟩
  obtain ⟨u1_10, hu1_10⟩ : ∃ z : Int64, z = if xa / (64 : Int32) = 1 then ((0 : Int64) ||| ((1 : Int64) <<< (xa &&& 0x3f).toInt64)) else (0 : Int64) := ⟨_, rfl⟩
  obtain ⟨u2_10, hu2_10⟩ : ∃ z : Int64, z = if xa / (64 : Int32) = 2 then ((0 : Int64) ||| ((1 : Int64) <<< (xa &&& 0x3f).toInt64)) else (0 : Int64) := ⟨_, rfl⟩
  obtain ⟨u3_10, hu3_10⟩ : ∃ z : Int64, z = if xa / (64 : Int32) = 3 then ((0 : Int64) ||| ((1 : Int64) <<< (xa &&& 0x3f).toInt64)) else (0 : Int64) := ⟨_, rfl⟩
  obtain ⟨cq10, kq10, q10a, q10b, q10c⟩ := isOf hZ rfl Ea9
  obtain ⟨_, _, ⟨T10, L10, k10, n10⟩, -, X10, ⟨Lc10, hQ10, l10, y10, z10⟩, st10⟩ := X9.virtualBack hx (y := (⟨"com/example/phase7/phase7/metadata/FieldSet", "add", "(I)V"⟩ : MethodName)) (z := (⟨"com/example/phase7/phase7/metadata/FieldSet", "add", "(I)V"⟩ : MethodName)) hown (mvT hZ (hw _ (List.mem_of_getElem? (i := 14) rfl))) (mvT hZ (hw _ (List.mem_of_getElem? (i := 15) rfl))) (notFace_of_selects (args := #[]) (mvT hZ (hw _ (List.mem_of_getElem? (i := 17) rfl)))) (mvT hZ (hw _ (List.mem_of_getElem? (i := 17) rfl))) (mvT hZ (hw _ (List.mem_of_getElem? (i := 16) rfl))) (by decide) (backOf (W := 0) (rmA l Z a0 hw [] b8 b9 kb9 xa (xa / (64 : Int32)) z9 (0 : Int64) (0 : Int64) (0 : Int64) (0 : Int64) u0_10 u1_10 u2_10 u3_10 T9.heap n0 (Nat.le_trans (Nat.le_trans Z0 E8.1) K9.1) Ea9 Ff9 Fg9 Vb9 hne9 (own_fr hn r_xa).1 rfl (own_fr hn r_xa).2.1 z_xa g_b8 gz9 hu0_10 hu1_10 hu2_10 hu3_10) hZ (hw _ (List.mem_of_getElem? (i := 18) rfl)) (hw _ (List.mem_of_getElem? (i := 3) rfl)) (by decide) (by decide)) q10a q10c (g := (mkF m 76 #[.val (.int p1), .val (.int p2), .val (.int p3), .val (.int p4), .val (.int p5), .val (.int p6), .val (.int n1), .val (.int cc), .val (.int xa), .val (.int xb), .val (.int ya), .val (.int yb), .val (.ref b8), .unset, .unset, .unset, .unset] [(.int xa), (.ref b8)])) rfl (by rw [hml]; rfl) (Steps.refl _) (argsL := [(.int xa)]) (rest := []) (lenOf pd_rm0_0 rfl) rfl (by show 2 * 0 + _ ≤ _; exact Nat.le_of_eq rfl) (hb hby at_76) (fun _ _ => ⟨rfl, rfl, (by decide : 2 + 0 ≤ _), (by decide : 5 + 0 ≤ _)⟩)
  dsimp only [Pt.U, Pt.locs, Pt.cells, Pt.slots] at X10 l10 y10 z10 st10 hQ10
  subst l10 y10 z10
  obtain ⟨rfl, N10q, K10, Ea10, Ff10, Fg10, Vb10⟩ := hQ10
  have N10 := Fr.app N9 N10q
  have z_xb : (xb / (64 : Int32)).toInt ≤ z9.toInt := by
    have q1 := (own_fr hn r_xb).2.2
    have q2 := hz9
    have q3 := r_xb
    omega
  obtain ⟨u0_11, hu0_11⟩ : ∃ z : Int64, z = if xb / (64 : Int32) = 0 then (u0_10 ||| ((1 : Int64) <<< (xb &&& 0x3f).toInt64)) else u0_10 := ⟨_, rfl⟩
  obtain ⟨u1_11, hu1_11⟩ : ∃ z : Int64, z = if xb / (64 : Int32) = 1 then (u1_10 ||| ((1 : Int64) <<< (xb &&& 0x3f).toInt64)) else u1_10 := ⟨_, rfl⟩
  obtain ⟨u2_11, hu2_11⟩ : ∃ z : Int64, z = if xb / (64 : Int32) = 2 then (u2_10 ||| ((1 : Int64) <<< (xb &&& 0x3f).toInt64)) else u2_10 := ⟨_, rfl⟩
  obtain ⟨u3_11, hu3_11⟩ : ∃ z : Int64, z = if xb / (64 : Int32) = 3 then (u3_10 ||| ((1 : Int64) <<< (xb &&& 0x3f).toInt64)) else u3_10 := ⟨_, rfl⟩
  obtain ⟨cq11, kq11, q11a, q11b, q11c⟩ := isOf hZ rfl Ea10
  obtain ⟨_, _, ⟨T11, L11, k11, n11⟩, -, X11, ⟨Lc11, hQ11, l11, y11, z11⟩, st11⟩ := X10.virtualBack hx (y := (⟨"com/example/phase7/phase7/metadata/FieldSet", "add", "(I)V"⟩ : MethodName)) (z := (⟨"com/example/phase7/phase7/metadata/FieldSet", "add", "(I)V"⟩ : MethodName)) hown (mvT hZ (hw _ (List.mem_of_getElem? (i := 14) rfl))) (mvT hZ (hw _ (List.mem_of_getElem? (i := 15) rfl))) (notFace_of_selects (args := #[]) (mvT hZ (hw _ (List.mem_of_getElem? (i := 17) rfl)))) (mvT hZ (hw _ (List.mem_of_getElem? (i := 17) rfl))) (mvT hZ (hw _ (List.mem_of_getElem? (i := 16) rfl))) (by decide) (backOf (W := 0) (rmA l Z a0 hw [] b8 b9 kb9 xb (xb / (64 : Int32)) z9 u0_10 u1_10 u2_10 u3_10 u0_11 u1_11 u2_11 u3_11 T10.heap n0 (Nat.le_trans (Nat.le_trans (Nat.le_trans Z0 E8.1) K9.1) K10.1) Ea10 Ff10 Fg10 Vb10 hne9 (own_fr hn r_xb).1 rfl (own_fr hn r_xb).2.1 z_xb g_b8 gz9 hu0_11 hu1_11 hu2_11 hu3_11) hZ (hw _ (List.mem_of_getElem? (i := 18) rfl)) (hw _ (List.mem_of_getElem? (i := 3) rfl)) (by decide) (by decide)) q11a q11c (g := (mkF m 83 #[.val (.int p1), .val (.int p2), .val (.int p3), .val (.int p4), .val (.int p5), .val (.int p6), .val (.int n1), .val (.int cc), .val (.int xa), .val (.int xb), .val (.int ya), .val (.int yb), .val (.ref b8), .unset, .unset, .unset, .unset] [(.int xb), (.ref b8)])) rfl (by rw [hml]; rfl) (Steps.refl _) (argsL := [(.int xb)]) (rest := []) (lenOf pd_rm0_0 rfl) rfl (by show 2 * 0 + _ ≤ _; exact Nat.le_of_eq rfl) (hb hby at_83) (fun _ _ => ⟨rfl, rfl, (by decide : 2 + 0 ≤ _), (by decide : 5 + 0 ≤ _)⟩)
  dsimp only [Pt.U, Pt.locs, Pt.cells, Pt.slots] at X11 l11 y11 z11 st11 hQ11
  subst l11 y11 z11
  obtain ⟨rfl, N11q, K11, Ea11, Ff11, Fg11, Vb11⟩ := hQ11
  have N11 := Fr.app N10 N11q
  obtain ⟨u0_12, hu0_12⟩ : ∃ z : Int64, z = own_up cc u0_11 := ⟨_, rfl⟩
  obtain ⟨u1_12, hu1_12⟩ : ∃ z : Int64, z = own_up (cc - (64 : Int32)) u1_11 := ⟨_, rfl⟩
  obtain ⟨u2_12, hu2_12⟩ : ∃ z : Int64, z = own_up (cc - (128 : Int32)) u2_11 := ⟨_, rfl⟩
  obtain ⟨u3_12, hu3_12⟩ : ∃ z : Int64, z = own_up (cc - (192 : Int32)) u3_11 := ⟨_, rfl⟩
  have rz := own_z4 hn hz9
  have dl1 : z9.toInt < 1 → (cc - (64 : Int32)).toInt ≤ 0 := own_dle (i := 1) hn hz9 q_cc (by decide) (by decide)
  have dl2 : z9.toInt < 2 → (cc - (128 : Int32)).toInt ≤ 0 := own_dle (i := 2) hn hz9 q_cc (by decide) (by decide)
  have dl3 : z9.toInt < 3 → (cc - (192 : Int32)).toInt ≤ 0 := own_dle (i := 3) hn hz9 q_cc (by decide) (by decide)
  have by1_0 : z9.toInt < 1 → u1_10 = 0 := own_bey (i := 1) (I := (1 : Int32)) (by decide) hu1_10 z_xa (fun _ => rfl)
  have by2_0 : z9.toInt < 2 → u2_10 = 0 := own_bey (i := 2) (I := (2 : Int32)) (by decide) hu2_10 z_xa (fun _ => rfl)
  have by3_0 : z9.toInt < 3 → u3_10 = 0 := own_bey (i := 3) (I := (3 : Int32)) (by decide) hu3_10 z_xa (fun _ => rfl)
  have by1_1 : z9.toInt < 1 → u1_11 = 0 := own_bey (i := 1) (I := (1 : Int32)) (by decide) hu1_11 z_xb by1_0
  have by2_1 : z9.toInt < 2 → u2_11 = 0 := own_bey (i := 2) (I := (2 : Int32)) (by decide) hu2_11 z_xb by2_0
  have by3_1 : z9.toInt < 3 → u3_11 = 0 := own_bey (i := 3) (I := (3 : Int32)) (by decide) hu3_11 z_xb by3_0
  have byF1 : z9.toInt < 1 → u1_12 = 0 := own_bey2 hu1_12 dl1 by1_1
  have byF2 : z9.toInt < 2 → u2_12 = 0 := own_bey2 hu2_12 dl2 by2_1
  have byF3 : z9.toInt < 3 → u3_12 = 0 := own_bey2 hu3_12 dl3 by3_1
  have hM : ∀ f : Int32, (0 ≤ f.toInt ∧ f.toInt < (256 : Int32).toInt) → (own_M u0_12 u1_12 u2_12 u3_12 f ↔ (f.toInt < cc.toInt ∨ f = xa ∨ f = xb)) := by
    intro f rf
    rw [own_Mfirst (n := (256 : Int32)) (by decide) q_c2 rf hu0_12 hu1_12 hu2_12 hu3_12, own_Madd (n := (256 : Int32)) (by decide) (own_rng hn r_xb) rf hu0_11 hu1_11 hu2_11 hu3_11, own_Madd (n := (256 : Int32)) (by decide) (own_rng hn r_xa) rf hu0_10 hu1_10 hu2_10 hu3_10]
    have h9 := own_M0 f
    constructor
    · rintro (q | q | q | q)
      · exact Or.inl q
      · exact Or.inr (Or.inr q)
      · exact Or.inr (Or.inl q)
      · exact absurd q h9
    · rintro (q | q | q)
      · exact Or.inl q
      · exact Or.inr (Or.inr (Or.inl q))
      · exact Or.inr (Or.inl q)
  obtain ⟨cq12, kq12, q12a, q12b, q12c⟩ := isOf hZ rfl Ea11
  obtain ⟨_, _, ⟨T12, L12, k12, n12⟩, -, X12, ⟨Lc12, hQ12, l12, y12, z12⟩, st12⟩ := X11.virtualBack hx (y := (⟨"com/example/phase7/phase7/metadata/FieldSet", "addFirst", "(I)V"⟩ : MethodName)) (z := (⟨"com/example/phase7/phase7/metadata/FieldSet", "addFirst", "(I)V"⟩ : MethodName)) hown (mvT hZ (hw _ (List.mem_of_getElem? (i := 21) rfl))) (mvT hZ (hw _ (List.mem_of_getElem? (i := 22) rfl))) (notFace_of_selects (args := #[]) (mvT hZ (hw _ (List.mem_of_getElem? (i := 24) rfl)))) (mvT hZ (hw _ (List.mem_of_getElem? (i := 24) rfl))) (mvT hZ (hw _ (List.mem_of_getElem? (i := 23) rfl))) (by decide) (backOf (W := 0) (rmF l Z a0 hw [] b8 b9 kb9 cc z9 u0_11 u1_11 u2_11 u3_11 u0_12 u1_12 u2_12 u3_12 T11.heap n0 (Nat.le_trans (Nat.le_trans (Nat.le_trans (Nat.le_trans Z0 E8.1) K9.1) K10.1) K11.1) Ea11 Ff11 Fg11 Vb11 hne9 rz q_cc.1 ⟨dl1, dl2, dl3⟩ g_b8 gz9 hu0_12 hu1_12 hu2_12 hu3_12) hZ (hw _ (List.mem_of_getElem? (i := 25) rfl)) (hw _ (List.mem_of_getElem? (i := 3) rfl)) (by decide) (by decide)) q12a q12c (g := (mkF m 90 #[.val (.int p1), .val (.int p2), .val (.int p3), .val (.int p4), .val (.int p5), .val (.int p6), .val (.int n1), .val (.int cc), .val (.int xa), .val (.int xb), .val (.int ya), .val (.int yb), .val (.ref b8), .unset, .unset, .unset, .unset] [(.int cc), (.ref b8)])) rfl (by rw [hml]; rfl) (Steps.refl _) (argsL := [(.int cc)]) (rest := []) (lenOf pd_rm0_0 rfl) rfl (by show 2 * 0 + _ ≤ _; exact Nat.le_of_eq rfl) (hb hby at_90) (fun _ _ => ⟨rfl, rfl, (by decide : 2 + 0 ≤ _), (by decide : 5 + 0 ≤ _)⟩)
  dsimp only [Pt.U, Pt.locs, Pt.cells, Pt.slots] at X12 l12 y12 z12 st12 hQ12
  subst l12 y12 z12
  obtain ⟨rfl, N12q, K12, Ea12, Ff12, Fg12, Vb12⟩ := hQ12
  have N12 := Fr.app N11 N12q
  obtain ⟨e_ya, he_ya⟩ : ∃ z : Int32, z = if (ya.toInt < cc.toInt ∨ ya = xa ∨ ya = xb) then (1 : Int32) else 0 := ⟨_, rfl⟩
  have z_ya : (ya / (64 : Int32)).toInt ≤ z9.toInt := by
    have q1 := (own_fr hn r_ya).2.2
    have q2 := hz9
    have q3 := r_ya
    omega
  obtain ⟨cq13, kq13, q13a, q13b, q13c⟩ := isOf hZ rfl Ea12
  obtain ⟨_, _, ⟨T13, L13, k13, n13⟩, -, X13, ⟨Lc13, hQ13, l13, y13, z13⟩, st13⟩ := X12.virtualBack hx (y := (⟨"com/example/phase7/phase7/metadata/FieldSet", "contains", "(I)Z"⟩ : MethodName)) (z := (⟨"com/example/phase7/phase7/metadata/FieldSet", "contains", "(I)Z"⟩ : MethodName)) hown (mvT hZ (hw _ (List.mem_of_getElem? (i := 26) rfl))) (mvT hZ (hw _ (List.mem_of_getElem? (i := 27) rfl))) (notFace_of_selects (args := #[]) (mvT hZ (hw _ (List.mem_of_getElem? (i := 29) rfl)))) (mvT hZ (hw _ (List.mem_of_getElem? (i := 29) rfl))) (mvT hZ (hw _ (List.mem_of_getElem? (i := 28) rfl))) (by decide) (backOf (W := 0) (rmH l Z a0 hw [] b8 b9 kb9 ya (ya / (64 : Int32)) z9 e_ya u0_12 u1_12 u2_12 u3_12 T12.heap n0 (Nat.le_trans (Nat.le_trans (Nat.le_trans (Nat.le_trans (Nat.le_trans Z0 E8.1) K9.1) K10.1) K11.1) K12.1) Ea12 Ff12 Fg12 Vb12 hne9 (own_fr hn r_ya).1 rfl (own_fr hn r_ya).2.1 z_ya (own_hasM (hM ya (own_rng hn r_ya)) he_ya)) hZ (hw _ (List.mem_of_getElem? (i := 30) rfl)) (hw _ (List.mem_of_getElem? (i := 3) rfl)) (by decide) (by decide)) q13a q13c (g := (mkF m 97 #[.val (.int p1), .val (.int p2), .val (.int p3), .val (.int p4), .val (.int p5), .val (.int p6), .val (.int n1), .val (.int cc), .val (.int xa), .val (.int xb), .val (.int ya), .val (.int yb), .val (.ref b8), .unset, .unset, .unset, .unset] [(.int ya), (.ref b8)])) rfl (by rw [hml]; rfl) (Steps.refl _) (argsL := [(.int ya)]) (rest := []) (lenOf pd_rm0_1 rfl) rfl (by show 2 * 0 + _ ≤ _; exact Nat.le_of_eq rfl) (hb hby at_97) (fun _ _ => ⟨rfl, rfl, (by decide : 2 + 0 ≤ _), (by decide : 5 + 0 ≤ _)⟩)
  dsimp only [Pt.U, Pt.locs, Pt.cells, Pt.slots] at X13 l13 y13 z13 st13 hQ13
  subst l13 y13 z13
  obtain ⟨rfl, N13q, hE13⟩ := hQ13
  have N13 := Fr.app N12 N13q
  have pre14 : ∀ tt, Steps p.tables e below (T13.setTop (mkF m 100 #[.val (.int p1), .val (.int p2), .val (.int p3), .val (.int p4), .val (.int p5), .val (.int p6), .val (.int n1), .val (.int cc), .val (.int xa), .val (.int xb), .val (.int ya), .val (.int yb), .val (.ref b8), .unset, .unset, .unset, .unset] [(.int e_ya)])) tt → Steps p.tables e below (s₁.setTop (entryFrame m #[(.int p1), (.int p2), (.int p3), (.int p4), (.int p5), (.int p6)] maxLocals)) tt := by
    intro tt kt
    refine pre7 tt ?_
    show Steps p.tables e below (s₁.setTop (mkF m 59 #[.val (.int p1), .val (.int p2), .val (.int p3), .val (.int p4), .val (.int p5), .val (.int p6), .val (.int n1), .val (.int cc), .val (.int xa), .val (.int xb), .val (.int ya), .unset, .unset, .unset, .unset, .unset, .unset] [(.int yb)])) _
    refine XS.istore X0.here hx rfl (hb hby at_59) rfl (l' := #[.val (.int p1), .val (.int p2), .val (.int p3), .val (.int p4), .val (.int p5), .val (.int p6), .val (.int n1), .val (.int cc), .val (.int xa), .val (.int xb), .val (.int ya), .val (.int yb), .unset, .unset, .unset, .unset, .unset]) rfl ?_
    show Steps p.tables e below (s₁.setTop (mkF m 61 #[.val (.int p1), .val (.int p2), .val (.int p3), .val (.int p4), .val (.int p5), .val (.int p6), .val (.int n1), .val (.int cc), .val (.int xa), .val (.int xb), .val (.int ya), .val (.int yb), .unset, .unset, .unset, .unset, .unset] [])) _
    refine st8 _ ?_
    show Steps p.tables e below (T8.setTop (mkF m 64 #[.val (.int p1), .val (.int p2), .val (.int p3), .val (.int p4), .val (.int p5), .val (.int p6), .val (.int n1), .val (.int cc), .val (.int xa), .val (.int xb), .val (.int ya), .val (.int yb), .unset, .unset, .unset, .unset, .unset] [(.ref b8)])) _
    refine XS.dup X8.here hx rfl (hb hby at_64) rfl rfl ?_
    show Steps p.tables e below (T8.setTop (mkF m 65 #[.val (.int p1), .val (.int p2), .val (.int p3), .val (.int p4), .val (.int p5), .val (.int p6), .val (.int n1), .val (.int cc), .val (.int xa), .val (.int xb), .val (.int ya), .val (.int yb), .unset, .unset, .unset, .unset, .unset] [(.ref b8), (.ref b8)])) _
    refine XS.iload X8.here hx rfl (hb hby at_65) rfl ?_
    show Steps p.tables e below (T8.setTop (mkF m 67 #[.val (.int p1), .val (.int p2), .val (.int p3), .val (.int p4), .val (.int p5), .val (.int p6), .val (.int n1), .val (.int cc), .val (.int xa), .val (.int xb), .val (.int ya), .val (.int yb), .unset, .unset, .unset, .unset, .unset] [(.int n1), (.ref b8), (.ref b8)])) _
    refine st9.trans ?_
    show Steps p.tables e below (T9.setTop (mkF m 70 #[.val (.int p1), .val (.int p2), .val (.int p3), .val (.int p4), .val (.int p5), .val (.int p6), .val (.int n1), .val (.int cc), .val (.int xa), .val (.int xb), .val (.int ya), .val (.int yb), .unset, .unset, .unset, .unset, .unset] [(.ref b8)])) _
    refine XS.astore X9.here hx rfl (hb hby at_70) rfl rfl (l' := #[.val (.int p1), .val (.int p2), .val (.int p3), .val (.int p4), .val (.int p5), .val (.int p6), .val (.int n1), .val (.int cc), .val (.int xa), .val (.int xb), .val (.int ya), .val (.int yb), .val (.ref b8), .unset, .unset, .unset, .unset]) rfl ?_
    show Steps p.tables e below (T9.setTop (mkF m 72 #[.val (.int p1), .val (.int p2), .val (.int p3), .val (.int p4), .val (.int p5), .val (.int p6), .val (.int n1), .val (.int cc), .val (.int xa), .val (.int xb), .val (.int ya), .val (.int yb), .val (.ref b8), .unset, .unset, .unset, .unset] [])) _
    refine XS.aload X9.here hx rfl (hb hby at_72) rfl rfl ?_
    show Steps p.tables e below (T9.setTop (mkF m 74 #[.val (.int p1), .val (.int p2), .val (.int p3), .val (.int p4), .val (.int p5), .val (.int p6), .val (.int n1), .val (.int cc), .val (.int xa), .val (.int xb), .val (.int ya), .val (.int yb), .val (.ref b8), .unset, .unset, .unset, .unset] [(.ref b8)])) _
    refine XS.iload X9.here hx rfl (hb hby at_74) rfl ?_
    show Steps p.tables e below (T9.setTop (mkF m 76 #[.val (.int p1), .val (.int p2), .val (.int p3), .val (.int p4), .val (.int p5), .val (.int p6), .val (.int n1), .val (.int cc), .val (.int xa), .val (.int xb), .val (.int ya), .val (.int yb), .val (.ref b8), .unset, .unset, .unset, .unset] [(.int xa), (.ref b8)])) _
    refine st10.trans ?_
    show Steps p.tables e below (T10.setTop (mkF m 79 #[.val (.int p1), .val (.int p2), .val (.int p3), .val (.int p4), .val (.int p5), .val (.int p6), .val (.int n1), .val (.int cc), .val (.int xa), .val (.int xb), .val (.int ya), .val (.int yb), .val (.ref b8), .unset, .unset, .unset, .unset] [])) _
    refine XS.aload X10.here hx rfl (hb hby at_79) rfl rfl ?_
    show Steps p.tables e below (T10.setTop (mkF m 81 #[.val (.int p1), .val (.int p2), .val (.int p3), .val (.int p4), .val (.int p5), .val (.int p6), .val (.int n1), .val (.int cc), .val (.int xa), .val (.int xb), .val (.int ya), .val (.int yb), .val (.ref b8), .unset, .unset, .unset, .unset] [(.ref b8)])) _
    refine XS.iload X10.here hx rfl (hb hby at_81) rfl ?_
    show Steps p.tables e below (T10.setTop (mkF m 83 #[.val (.int p1), .val (.int p2), .val (.int p3), .val (.int p4), .val (.int p5), .val (.int p6), .val (.int n1), .val (.int cc), .val (.int xa), .val (.int xb), .val (.int ya), .val (.int yb), .val (.ref b8), .unset, .unset, .unset, .unset] [(.int xb), (.ref b8)])) _
    refine st11.trans ?_
    show Steps p.tables e below (T11.setTop (mkF m 86 #[.val (.int p1), .val (.int p2), .val (.int p3), .val (.int p4), .val (.int p5), .val (.int p6), .val (.int n1), .val (.int cc), .val (.int xa), .val (.int xb), .val (.int ya), .val (.int yb), .val (.ref b8), .unset, .unset, .unset, .unset] [])) _
    refine XS.aload X11.here hx rfl (hb hby at_86) rfl rfl ?_
    show Steps p.tables e below (T11.setTop (mkF m 88 #[.val (.int p1), .val (.int p2), .val (.int p3), .val (.int p4), .val (.int p5), .val (.int p6), .val (.int n1), .val (.int cc), .val (.int xa), .val (.int xb), .val (.int ya), .val (.int yb), .val (.ref b8), .unset, .unset, .unset, .unset] [(.ref b8)])) _
    refine XS.iload X11.here hx rfl (hb hby at_88) rfl ?_
    show Steps p.tables e below (T11.setTop (mkF m 90 #[.val (.int p1), .val (.int p2), .val (.int p3), .val (.int p4), .val (.int p5), .val (.int p6), .val (.int n1), .val (.int cc), .val (.int xa), .val (.int xb), .val (.int ya), .val (.int yb), .val (.ref b8), .unset, .unset, .unset, .unset] [(.int cc), (.ref b8)])) _
    refine st12.trans ?_
    show Steps p.tables e below (T12.setTop (mkF m 93 #[.val (.int p1), .val (.int p2), .val (.int p3), .val (.int p4), .val (.int p5), .val (.int p6), .val (.int n1), .val (.int cc), .val (.int xa), .val (.int xb), .val (.int ya), .val (.int yb), .val (.ref b8), .unset, .unset, .unset, .unset] [])) _
    refine XS.aload X12.here hx rfl (hb hby at_93) rfl rfl ?_
    show Steps p.tables e below (T12.setTop (mkF m 95 #[.val (.int p1), .val (.int p2), .val (.int p3), .val (.int p4), .val (.int p5), .val (.int p6), .val (.int n1), .val (.int cc), .val (.int xa), .val (.int xb), .val (.int ya), .val (.int yb), .val (.ref b8), .unset, .unset, .unset, .unset] [(.ref b8)])) _
    refine XS.iload X12.here hx rfl (hb hby at_95) rfl ?_
    show Steps p.tables e below (T12.setTop (mkF m 97 #[.val (.int p1), .val (.int p2), .val (.int p3), .val (.int p4), .val (.int p5), .val (.int p6), .val (.int n1), .val (.int cc), .val (.int xa), .val (.int xb), .val (.int ya), .val (.int yb), .val (.ref b8), .unset, .unset, .unset, .unset] [(.int ya), (.ref b8)])) _
    refine st13.trans ?_
    exact kt
  obtain ⟨T15, L15, N15, X15, e15, st15⟩ : ∃ (T' : State) (L' : List Loc), Fr n0 L' ∧ Stand p l e room_1 s m #[(.int p1), (.int p2), (.int p3), (.int p4), (.int p5), (.int p6)] below meth c T' L' 2 5 ∧ T'.heap = T12.heap ∧ ∀ tt, Steps p.tables e below (T'.setTop (mkF m 126 #[.val (.int p1), .val (.int p2), .val (.int p3), .val (.int p4), .val (.int p5), .val (.int p6), .val (.int n1), .val (.int cc), .val (.int xa), .val (.int xb), .val (.int ya), .val (.int yb), .val (.ref b8), .unset, .unset, .unset, .unset] [(.int e_ya), (.int e_ya)])) tt → Steps p.tables e below (T13.setTop (mkF m 100 #[.val (.int p1), .val (.int p2), .val (.int p3), .val (.int p4), .val (.int p5), .val (.int p6), .val (.int n1), .val (.int cc), .val (.int xa), .val (.int xb), .val (.int ya), .val (.int yb), .val (.ref b8), .unset, .unset, .unset, .unset] [(.int e_ya)])) tt := by
    have pid15 : ∀ tt, Steps p.tables e below (T13.setTop (mkF m 100 #[.val (.int p1), .val (.int p2), .val (.int p3), .val (.int p4), .val (.int p5), .val (.int p6), .val (.int n1), .val (.int cc), .val (.int xa), .val (.int xb), .val (.int ya), .val (.int yb), .val (.ref b8), .unset, .unset, .unset, .unset] [(.int e_ya)])) tt → Steps p.tables e below (T13.setTop (mkF m 100 #[.val (.int p1), .val (.int p2), .val (.int p3), .val (.int p4), .val (.int p5), .val (.int p6), .val (.int n1), .val (.int cc), .val (.int xa), .val (.int xb), .val (.int ya), .val (.int yb), .val (.ref b8), .unset, .unset, .unset, .unset] [(.int e_ya)])) tt := fun tt kt => kt
    have pre16 : ∀ tt, Steps p.tables e below (T13.setTop (mkF m 104 #[.val (.int p1), .val (.int p2), .val (.int p3), .val (.int p4), .val (.int p5), .val (.int p6), .val (.int n1), .val (.int cc), .val (.int xa), .val (.int xb), .val (.int ya), .val (.int yb), .val (.ref b8), .unset, .unset, .unset, .unset] [(.int xa), (.int ya), (.int e_ya)])) tt → Steps p.tables e below (T13.setTop (mkF m 100 #[.val (.int p1), .val (.int p2), .val (.int p3), .val (.int p4), .val (.int p5), .val (.int p6), .val (.int n1), .val (.int cc), .val (.int xa), .val (.int xb), .val (.int ya), .val (.int yb), .val (.ref b8), .unset, .unset, .unset, .unset] [(.int e_ya)])) tt := by
      intro tt kt
      refine pid15 tt ?_
      show Steps p.tables e below (T13.setTop (mkF m 100 #[.val (.int p1), .val (.int p2), .val (.int p3), .val (.int p4), .val (.int p5), .val (.int p6), .val (.int n1), .val (.int cc), .val (.int xa), .val (.int xb), .val (.int ya), .val (.int yb), .val (.ref b8), .unset, .unset, .unset, .unset] [(.int e_ya)])) _
      refine XS.iload X13.here hx rfl (hb hby at_100) rfl ?_
      show Steps p.tables e below (T13.setTop (mkF m 102 #[.val (.int p1), .val (.int p2), .val (.int p3), .val (.int p4), .val (.int p5), .val (.int p6), .val (.int n1), .val (.int cc), .val (.int xa), .val (.int xb), .val (.int ya), .val (.int yb), .val (.ref b8), .unset, .unset, .unset, .unset] [(.int ya), (.int e_ya)])) _
      refine XS.iload X13.here hx rfl (hb hby at_102) rfl ?_
      exact kt
    by_cases c104_17 : ya = xa
    · have pre18 : ∀ tt, Steps p.tables e below (T13.setTop (mkF m 126 #[.val (.int p1), .val (.int p2), .val (.int p3), .val (.int p4), .val (.int p5), .val (.int p6), .val (.int n1), .val (.int cc), .val (.int xa), .val (.int xb), .val (.int ya), .val (.int yb), .val (.ref b8), .unset, .unset, .unset, .unset] [(.int (1 : Int32)), (.int e_ya)])) tt → Steps p.tables e below (T13.setTop (mkF m 100 #[.val (.int p1), .val (.int p2), .val (.int p3), .val (.int p4), .val (.int p5), .val (.int p6), .val (.int n1), .val (.int cc), .val (.int xa), .val (.int xb), .val (.int ya), .val (.int yb), .val (.ref b8), .unset, .unset, .unset, .unset] [(.int e_ya)])) tt := by
        intro tt kt
        refine pre16 tt ?_
        show Steps p.tables e below (T13.setTop (mkF m 104 #[.val (.int p1), .val (.int p2), .val (.int p3), .val (.int p4), .val (.int p5), .val (.int p6), .val (.int n1), .val (.int cc), .val (.int xa), .val (.int xb), .val (.int ya), .val (.int yb), .val (.ref b8), .unset, .unset, .unset, .unset] [(.int xa), (.int ya), (.int e_ya)])) _
        refine XS.icmpYes X13.here hx rfl (pc0 := 104) (pc' := 121) rfl (hb hby at_104) rfl (teq c104_17).1 (by decide) (by decide) ?_
        show Steps p.tables e below (T13.setTop (mkF m 121 #[.val (.int p1), .val (.int p2), .val (.int p3), .val (.int p4), .val (.int p5), .val (.int p6), .val (.int n1), .val (.int cc), .val (.int xa), .val (.int xb), .val (.int ya), .val (.int yb), .val (.ref b8), .unset, .unset, .unset, .unset] [(.int e_ya)])) _
        refine XS.iconst X13.here hx rfl (hb hby at_121) ?_
        show Steps p.tables e below (T13.setTop (mkF m 122 #[.val (.int p1), .val (.int p2), .val (.int p3), .val (.int p4), .val (.int p5), .val (.int p6), .val (.int n1), .val (.int cc), .val (.int xa), .val (.int xb), .val (.int ya), .val (.int yb), .val (.ref b8), .unset, .unset, .unset, .unset] [(.int (1 : Int32)), (.int e_ya)])) _
        refine XS.goto X13.here hx rfl (pc0 := 122) (pc' := 126) rfl (hb hby at_122) (by decide) (by decide) ?_
        exact kt
      refine ⟨T13, _, N13, X13, hE13, fun tt kt => pre18 tt ?_⟩
      rw [show e_ya = (1 : Int32) from he_ya.trans (if_pos (Or.inr (Or.inl c104_17)))] at kt ⊢
      exact kt
    · have pre19 : ∀ tt, Steps p.tables e below (T13.setTop (mkF m 111 #[.val (.int p1), .val (.int p2), .val (.int p3), .val (.int p4), .val (.int p5), .val (.int p6), .val (.int n1), .val (.int cc), .val (.int xa), .val (.int xb), .val (.int ya), .val (.int yb), .val (.ref b8), .unset, .unset, .unset, .unset] [(.int xb), (.int ya), (.int e_ya)])) tt → Steps p.tables e below (T13.setTop (mkF m 100 #[.val (.int p1), .val (.int p2), .val (.int p3), .val (.int p4), .val (.int p5), .val (.int p6), .val (.int n1), .val (.int cc), .val (.int xa), .val (.int xb), .val (.int ya), .val (.int yb), .val (.ref b8), .unset, .unset, .unset, .unset] [(.int e_ya)])) tt := by
        intro tt kt
        refine pre16 tt ?_
        show Steps p.tables e below (T13.setTop (mkF m 104 #[.val (.int p1), .val (.int p2), .val (.int p3), .val (.int p4), .val (.int p5), .val (.int p6), .val (.int n1), .val (.int cc), .val (.int xa), .val (.int xb), .val (.int ya), .val (.int yb), .val (.ref b8), .unset, .unset, .unset, .unset] [(.int xa), (.int ya), (.int e_ya)])) _
        refine XS.icmpNo X13.here hx rfl (hb hby at_104) rfl (feq c104_17).1 ?_
        show Steps p.tables e below (T13.setTop (mkF m 107 #[.val (.int p1), .val (.int p2), .val (.int p3), .val (.int p4), .val (.int p5), .val (.int p6), .val (.int n1), .val (.int cc), .val (.int xa), .val (.int xb), .val (.int ya), .val (.int yb), .val (.ref b8), .unset, .unset, .unset, .unset] [(.int e_ya)])) _
        refine XS.iload X13.here hx rfl (hb hby at_107) rfl ?_
        show Steps p.tables e below (T13.setTop (mkF m 109 #[.val (.int p1), .val (.int p2), .val (.int p3), .val (.int p4), .val (.int p5), .val (.int p6), .val (.int n1), .val (.int cc), .val (.int xa), .val (.int xb), .val (.int ya), .val (.int yb), .val (.ref b8), .unset, .unset, .unset, .unset] [(.int ya), (.int e_ya)])) _
        refine XS.iload X13.here hx rfl (hb hby at_109) rfl ?_
        exact kt
      by_cases c111_20 : ya = xb
      · have pre21 : ∀ tt, Steps p.tables e below (T13.setTop (mkF m 126 #[.val (.int p1), .val (.int p2), .val (.int p3), .val (.int p4), .val (.int p5), .val (.int p6), .val (.int n1), .val (.int cc), .val (.int xa), .val (.int xb), .val (.int ya), .val (.int yb), .val (.ref b8), .unset, .unset, .unset, .unset] [(.int (1 : Int32)), (.int e_ya)])) tt → Steps p.tables e below (T13.setTop (mkF m 100 #[.val (.int p1), .val (.int p2), .val (.int p3), .val (.int p4), .val (.int p5), .val (.int p6), .val (.int n1), .val (.int cc), .val (.int xa), .val (.int xb), .val (.int ya), .val (.int yb), .val (.ref b8), .unset, .unset, .unset, .unset] [(.int e_ya)])) tt := by
          intro tt kt
          refine pre19 tt ?_
          show Steps p.tables e below (T13.setTop (mkF m 111 #[.val (.int p1), .val (.int p2), .val (.int p3), .val (.int p4), .val (.int p5), .val (.int p6), .val (.int n1), .val (.int cc), .val (.int xa), .val (.int xb), .val (.int ya), .val (.int yb), .val (.ref b8), .unset, .unset, .unset, .unset] [(.int xb), (.int ya), (.int e_ya)])) _
          refine XS.icmpYes X13.here hx rfl (pc0 := 111) (pc' := 121) rfl (hb hby at_111) rfl (teq c111_20).1 (by decide) (by decide) ?_
          show Steps p.tables e below (T13.setTop (mkF m 121 #[.val (.int p1), .val (.int p2), .val (.int p3), .val (.int p4), .val (.int p5), .val (.int p6), .val (.int n1), .val (.int cc), .val (.int xa), .val (.int xb), .val (.int ya), .val (.int yb), .val (.ref b8), .unset, .unset, .unset, .unset] [(.int e_ya)])) _
          refine XS.iconst X13.here hx rfl (hb hby at_121) ?_
          show Steps p.tables e below (T13.setTop (mkF m 122 #[.val (.int p1), .val (.int p2), .val (.int p3), .val (.int p4), .val (.int p5), .val (.int p6), .val (.int n1), .val (.int cc), .val (.int xa), .val (.int xb), .val (.int ya), .val (.int yb), .val (.ref b8), .unset, .unset, .unset, .unset] [(.int (1 : Int32)), (.int e_ya)])) _
          refine XS.goto X13.here hx rfl (pc0 := 122) (pc' := 126) rfl (hb hby at_122) (by decide) (by decide) ?_
          exact kt
        refine ⟨T13, _, N13, X13, hE13, fun tt kt => pre21 tt ?_⟩
        rw [show e_ya = (1 : Int32) from he_ya.trans (if_pos (Or.inr (Or.inr c111_20)))] at kt ⊢
        exact kt
      · have pre22 : ∀ tt, Steps p.tables e below (T13.setTop (mkF m 118 #[.val (.int p1), .val (.int p2), .val (.int p3), .val (.int p4), .val (.int p5), .val (.int p6), .val (.int n1), .val (.int cc), .val (.int xa), .val (.int xb), .val (.int ya), .val (.int yb), .val (.ref b8), .unset, .unset, .unset, .unset] [(.int cc), (.int ya), (.int e_ya)])) tt → Steps p.tables e below (T13.setTop (mkF m 100 #[.val (.int p1), .val (.int p2), .val (.int p3), .val (.int p4), .val (.int p5), .val (.int p6), .val (.int n1), .val (.int cc), .val (.int xa), .val (.int xb), .val (.int ya), .val (.int yb), .val (.ref b8), .unset, .unset, .unset, .unset] [(.int e_ya)])) tt := by
          intro tt kt
          refine pre19 tt ?_
          show Steps p.tables e below (T13.setTop (mkF m 111 #[.val (.int p1), .val (.int p2), .val (.int p3), .val (.int p4), .val (.int p5), .val (.int p6), .val (.int n1), .val (.int cc), .val (.int xa), .val (.int xb), .val (.int ya), .val (.int yb), .val (.ref b8), .unset, .unset, .unset, .unset] [(.int xb), (.int ya), (.int e_ya)])) _
          refine XS.icmpNo X13.here hx rfl (hb hby at_111) rfl (feq c111_20).1 ?_
          show Steps p.tables e below (T13.setTop (mkF m 114 #[.val (.int p1), .val (.int p2), .val (.int p3), .val (.int p4), .val (.int p5), .val (.int p6), .val (.int n1), .val (.int cc), .val (.int xa), .val (.int xb), .val (.int ya), .val (.int yb), .val (.ref b8), .unset, .unset, .unset, .unset] [(.int e_ya)])) _
          refine XS.iload X13.here hx rfl (hb hby at_114) rfl ?_
          show Steps p.tables e below (T13.setTop (mkF m 116 #[.val (.int p1), .val (.int p2), .val (.int p3), .val (.int p4), .val (.int p5), .val (.int p6), .val (.int n1), .val (.int cc), .val (.int xa), .val (.int xb), .val (.int ya), .val (.int yb), .val (.ref b8), .unset, .unset, .unset, .unset] [(.int ya), (.int e_ya)])) _
          refine XS.iload X13.here hx rfl (hb hby at_116) rfl ?_
          exact kt
        by_cases c118_23 : ya < cc
        · have pre24 : ∀ tt, Steps p.tables e below (T13.setTop (mkF m 126 #[.val (.int p1), .val (.int p2), .val (.int p3), .val (.int p4), .val (.int p5), .val (.int p6), .val (.int n1), .val (.int cc), .val (.int xa), .val (.int xb), .val (.int ya), .val (.int yb), .val (.ref b8), .unset, .unset, .unset, .unset] [(.int (1 : Int32)), (.int e_ya)])) tt → Steps p.tables e below (T13.setTop (mkF m 100 #[.val (.int p1), .val (.int p2), .val (.int p3), .val (.int p4), .val (.int p5), .val (.int p6), .val (.int n1), .val (.int cc), .val (.int xa), .val (.int xb), .val (.int ya), .val (.int yb), .val (.ref b8), .unset, .unset, .unset, .unset] [(.int e_ya)])) tt := by
            intro tt kt
            refine pre22 tt ?_
            show Steps p.tables e below (T13.setTop (mkF m 118 #[.val (.int p1), .val (.int p2), .val (.int p3), .val (.int p4), .val (.int p5), .val (.int p6), .val (.int n1), .val (.int cc), .val (.int xa), .val (.int xb), .val (.int ya), .val (.int yb), .val (.ref b8), .unset, .unset, .unset, .unset] [(.int cc), (.int ya), (.int e_ya)])) _
            refine XS.icmpNo X13.here hx rfl (hb hby at_118) rfl (tlt c118_23).2.1 ?_
            show Steps p.tables e below (T13.setTop (mkF m 121 #[.val (.int p1), .val (.int p2), .val (.int p3), .val (.int p4), .val (.int p5), .val (.int p6), .val (.int n1), .val (.int cc), .val (.int xa), .val (.int xb), .val (.int ya), .val (.int yb), .val (.ref b8), .unset, .unset, .unset, .unset] [(.int e_ya)])) _
            refine XS.iconst X13.here hx rfl (hb hby at_121) ?_
            show Steps p.tables e below (T13.setTop (mkF m 122 #[.val (.int p1), .val (.int p2), .val (.int p3), .val (.int p4), .val (.int p5), .val (.int p6), .val (.int n1), .val (.int cc), .val (.int xa), .val (.int xb), .val (.int ya), .val (.int yb), .val (.ref b8), .unset, .unset, .unset, .unset] [(.int (1 : Int32)), (.int e_ya)])) _
            refine XS.goto X13.here hx rfl (pc0 := 122) (pc' := 126) rfl (hb hby at_122) (by decide) (by decide) ?_
            exact kt
          refine ⟨T13, _, N13, X13, hE13, fun tt kt => pre24 tt ?_⟩
          rw [show e_ya = (1 : Int32) from he_ya.trans (if_pos (Or.inl (Int32.lt_iff_toInt_lt.mp c118_23)))] at kt ⊢
          exact kt
        · have pre25 : ∀ tt, Steps p.tables e below (T13.setTop (mkF m 126 #[.val (.int p1), .val (.int p2), .val (.int p3), .val (.int p4), .val (.int p5), .val (.int p6), .val (.int n1), .val (.int cc), .val (.int xa), .val (.int xb), .val (.int ya), .val (.int yb), .val (.ref b8), .unset, .unset, .unset, .unset] [(.int (0 : Int32)), (.int e_ya)])) tt → Steps p.tables e below (T13.setTop (mkF m 100 #[.val (.int p1), .val (.int p2), .val (.int p3), .val (.int p4), .val (.int p5), .val (.int p6), .val (.int n1), .val (.int cc), .val (.int xa), .val (.int xb), .val (.int ya), .val (.int yb), .val (.ref b8), .unset, .unset, .unset, .unset] [(.int e_ya)])) tt := by
            intro tt kt
            refine pre22 tt ?_
            show Steps p.tables e below (T13.setTop (mkF m 118 #[.val (.int p1), .val (.int p2), .val (.int p3), .val (.int p4), .val (.int p5), .val (.int p6), .val (.int n1), .val (.int cc), .val (.int xa), .val (.int xb), .val (.int ya), .val (.int yb), .val (.ref b8), .unset, .unset, .unset, .unset] [(.int cc), (.int ya), (.int e_ya)])) _
            refine XS.icmpYes X13.here hx rfl (pc0 := 118) (pc' := 125) rfl (hb hby at_118) rfl (flt c118_23).2.1 (by decide) (by decide) ?_
            show Steps p.tables e below (T13.setTop (mkF m 125 #[.val (.int p1), .val (.int p2), .val (.int p3), .val (.int p4), .val (.int p5), .val (.int p6), .val (.int n1), .val (.int cc), .val (.int xa), .val (.int xb), .val (.int ya), .val (.int yb), .val (.ref b8), .unset, .unset, .unset, .unset] [(.int e_ya)])) _
            refine XS.iconst X13.here hx rfl (hb hby at_125) ?_
            exact kt
          refine ⟨T13, _, N13, X13, hE13, fun tt kt => pre25 tt ?_⟩
          rw [show e_ya = (0 : Int32) from he_ya.trans (if_neg (fun q => q.elim (fun r => c118_23 (Int32.lt_iff_toInt_lt.mpr r)) (fun r => r.elim c104_17 c111_20)))] at kt ⊢
          exact kt
  have pre26 : ∀ tt, Steps p.tables e below (T15.setTop (mkF m 126 #[.val (.int p1), .val (.int p2), .val (.int p3), .val (.int p4), .val (.int p5), .val (.int p6), .val (.int n1), .val (.int cc), .val (.int xa), .val (.int xb), .val (.int ya), .val (.int yb), .val (.ref b8), .unset, .unset, .unset, .unset] [(.int e_ya), (.int e_ya)])) tt → Steps p.tables e below (s₁.setTop (entryFrame m #[(.int p1), (.int p2), (.int p3), (.int p4), (.int p5), (.int p6)] maxLocals)) tt := by
    intro tt kt
    refine pre14 tt ?_
    show Steps p.tables e below (T13.setTop (mkF m 100 #[.val (.int p1), .val (.int p2), .val (.int p3), .val (.int p4), .val (.int p5), .val (.int p6), .val (.int n1), .val (.int cc), .val (.int xa), .val (.int xb), .val (.int ya), .val (.int yb), .val (.ref b8), .unset, .unset, .unset, .unset] [(.int e_ya)])) _
    refine st15 _ ?_
    exact kt
  obtain ⟨e_yb, he_yb⟩ : ∃ z : Int32, z = if (yb.toInt < cc.toInt ∨ yb = xa ∨ yb = xb) then (1 : Int32) else 0 := ⟨_, rfl⟩
  have z_yb : (yb / (64 : Int32)).toInt ≤ z9.toInt := by
    have q1 := (own_fr hn r_yb).2.2
    have q2 := hz9
    have q3 := r_yb
    omega
  obtain ⟨cq27, kq27, q27a, q27b, q27c⟩ := isOf hZ e15 Ea12
  obtain ⟨_, _, ⟨T27, L27, k27, n27⟩, -, X27, ⟨Lc27, hQ27, l27, y27, z27⟩, st27⟩ := X15.virtualBack hx (y := (⟨"com/example/phase7/phase7/metadata/FieldSet", "contains", "(I)Z"⟩ : MethodName)) (z := (⟨"com/example/phase7/phase7/metadata/FieldSet", "contains", "(I)Z"⟩ : MethodName)) hown (mvT hZ (hw _ (List.mem_of_getElem? (i := 26) rfl))) (mvT hZ (hw _ (List.mem_of_getElem? (i := 27) rfl))) (notFace_of_selects (args := #[]) (mvT hZ (hw _ (List.mem_of_getElem? (i := 29) rfl)))) (mvT hZ (hw _ (List.mem_of_getElem? (i := 29) rfl))) (mvT hZ (hw _ (List.mem_of_getElem? (i := 28) rfl))) (by decide) (backOf (W := 0) (rmH l Z a0 hw [] b8 b9 kb9 yb (yb / (64 : Int32)) z9 e_yb u0_12 u1_12 u2_12 u3_12 T12.heap n0 (Nat.le_trans (Nat.le_trans (Nat.le_trans (Nat.le_trans (Nat.le_trans Z0 E8.1) K9.1) K10.1) K11.1) K12.1) Ea12 Ff12 Fg12 Vb12 hne9 (own_fr hn r_yb).1 rfl (own_fr hn r_yb).2.1 z_yb (own_hasM (hM yb (own_rng hn r_yb)) he_yb)) hZ (hw _ (List.mem_of_getElem? (i := 30) rfl)) (hw _ (List.mem_of_getElem? (i := 3) rfl)) (by decide) (by decide)) q27a q27c (g := (mkF m 140 #[.val (.int p1), .val (.int p2), .val (.int p3), .val (.int p4), .val (.int p5), .val (.int p6), .val (.int n1), .val (.int cc), .val (.int xa), .val (.int xb), .val (.int ya), .val (.int yb), .val (.ref b8), .val (.int (1 : Int32)), .unset, .unset, .unset] [(.int yb), (.ref b8)])) rfl (by rw [hml]; rfl) (Steps.refl _) (argsL := [(.int yb)]) (rest := []) (lenOf pd_rm0_1 rfl) rfl (by show 2 * 0 + _ ≤ _; exact Nat.le_of_eq rfl) (hb hby at_140) (fun _ _ => ⟨rfl, e15, (by decide : 2 + 0 ≤ _), (by decide : 5 + 0 ≤ _)⟩)
  dsimp only [Pt.U, Pt.locs, Pt.cells, Pt.slots] at X27 l27 y27 z27 st27 hQ27
  subst l27 y27 z27
  obtain ⟨rfl, N27q, hE27⟩ := hQ27
  have N27 := Fr.app N15 N27q
  have pre28 : ∀ tt, Steps p.tables e below (T27.setTop (mkF m 143 #[.val (.int p1), .val (.int p2), .val (.int p3), .val (.int p4), .val (.int p5), .val (.int p6), .val (.int n1), .val (.int cc), .val (.int xa), .val (.int xb), .val (.int ya), .val (.int yb), .val (.ref b8), .val (.int (1 : Int32)), .unset, .unset, .unset] [(.int e_yb)])) tt → Steps p.tables e below (s₁.setTop (entryFrame m #[(.int p1), (.int p2), (.int p3), (.int p4), (.int p5), (.int p6)] maxLocals)) tt := by
    intro tt kt
    refine pre26 tt ?_
    show Steps p.tables e below (T15.setTop (mkF m 126 #[.val (.int p1), .val (.int p2), .val (.int p3), .val (.int p4), .val (.int p5), .val (.int p6), .val (.int n1), .val (.int cc), .val (.int xa), .val (.int xb), .val (.int ya), .val (.int yb), .val (.ref b8), .unset, .unset, .unset, .unset] [(.int e_ya), (.int e_ya)])) _
    refine XS.icmpNo X15.here hx rfl (hb hby at_126) rfl (teq (rfl : e_ya = e_ya)).2 ?_
    show Steps p.tables e below (T15.setTop (mkF m 129 #[.val (.int p1), .val (.int p2), .val (.int p3), .val (.int p4), .val (.int p5), .val (.int p6), .val (.int n1), .val (.int cc), .val (.int xa), .val (.int xb), .val (.int ya), .val (.int yb), .val (.ref b8), .unset, .unset, .unset, .unset] [])) _
    refine XS.iconst X15.here hx rfl (hb hby at_129) ?_
    show Steps p.tables e below (T15.setTop (mkF m 130 #[.val (.int p1), .val (.int p2), .val (.int p3), .val (.int p4), .val (.int p5), .val (.int p6), .val (.int n1), .val (.int cc), .val (.int xa), .val (.int xb), .val (.int ya), .val (.int yb), .val (.ref b8), .unset, .unset, .unset, .unset] [(.int (1 : Int32))])) _
    refine XS.goto X15.here hx rfl (pc0 := 130) (pc' := 134) rfl (hb hby at_130) (by decide) (by decide) ?_
    show Steps p.tables e below (T15.setTop (mkF m 134 #[.val (.int p1), .val (.int p2), .val (.int p3), .val (.int p4), .val (.int p5), .val (.int p6), .val (.int n1), .val (.int cc), .val (.int xa), .val (.int xb), .val (.int ya), .val (.int yb), .val (.ref b8), .unset, .unset, .unset, .unset] [(.int (1 : Int32))])) _
    refine XS.istore X15.here hx rfl (hb hby at_134) rfl (l' := #[.val (.int p1), .val (.int p2), .val (.int p3), .val (.int p4), .val (.int p5), .val (.int p6), .val (.int n1), .val (.int cc), .val (.int xa), .val (.int xb), .val (.int ya), .val (.int yb), .val (.ref b8), .val (.int (1 : Int32)), .unset, .unset, .unset]) rfl ?_
    show Steps p.tables e below (T15.setTop (mkF m 136 #[.val (.int p1), .val (.int p2), .val (.int p3), .val (.int p4), .val (.int p5), .val (.int p6), .val (.int n1), .val (.int cc), .val (.int xa), .val (.int xb), .val (.int ya), .val (.int yb), .val (.ref b8), .val (.int (1 : Int32)), .unset, .unset, .unset] [])) _
    refine XS.aload X15.here hx rfl (hb hby at_136) rfl rfl ?_
    show Steps p.tables e below (T15.setTop (mkF m 138 #[.val (.int p1), .val (.int p2), .val (.int p3), .val (.int p4), .val (.int p5), .val (.int p6), .val (.int n1), .val (.int cc), .val (.int xa), .val (.int xb), .val (.int ya), .val (.int yb), .val (.ref b8), .val (.int (1 : Int32)), .unset, .unset, .unset] [(.ref b8)])) _
    refine XS.iload X15.here hx rfl (hb hby at_138) rfl ?_
    show Steps p.tables e below (T15.setTop (mkF m 140 #[.val (.int p1), .val (.int p2), .val (.int p3), .val (.int p4), .val (.int p5), .val (.int p6), .val (.int n1), .val (.int cc), .val (.int xa), .val (.int xb), .val (.int ya), .val (.int yb), .val (.ref b8), .val (.int (1 : Int32)), .unset, .unset, .unset] [(.int yb), (.ref b8)])) _
    refine st27.trans ?_
    exact kt
  obtain ⟨T29, L29, N29, X29, e29, st29⟩ : ∃ (T' : State) (L' : List Loc), Fr n0 L' ∧ Stand p l e room_1 s m #[(.int p1), (.int p2), (.int p3), (.int p4), (.int p5), (.int p6)] below meth c T' L' 2 5 ∧ T'.heap = T12.heap ∧ ∀ tt, Steps p.tables e below (T'.setTop (mkF m 169 #[.val (.int p1), .val (.int p2), .val (.int p3), .val (.int p4), .val (.int p5), .val (.int p6), .val (.int n1), .val (.int cc), .val (.int xa), .val (.int xb), .val (.int ya), .val (.int yb), .val (.ref b8), .val (.int (1 : Int32)), .unset, .unset, .unset] [(.int e_yb), (.int e_yb)])) tt → Steps p.tables e below (T27.setTop (mkF m 143 #[.val (.int p1), .val (.int p2), .val (.int p3), .val (.int p4), .val (.int p5), .val (.int p6), .val (.int n1), .val (.int cc), .val (.int xa), .val (.int xb), .val (.int ya), .val (.int yb), .val (.ref b8), .val (.int (1 : Int32)), .unset, .unset, .unset] [(.int e_yb)])) tt := by
    have pid29 : ∀ tt, Steps p.tables e below (T27.setTop (mkF m 143 #[.val (.int p1), .val (.int p2), .val (.int p3), .val (.int p4), .val (.int p5), .val (.int p6), .val (.int n1), .val (.int cc), .val (.int xa), .val (.int xb), .val (.int ya), .val (.int yb), .val (.ref b8), .val (.int (1 : Int32)), .unset, .unset, .unset] [(.int e_yb)])) tt → Steps p.tables e below (T27.setTop (mkF m 143 #[.val (.int p1), .val (.int p2), .val (.int p3), .val (.int p4), .val (.int p5), .val (.int p6), .val (.int n1), .val (.int cc), .val (.int xa), .val (.int xb), .val (.int ya), .val (.int yb), .val (.ref b8), .val (.int (1 : Int32)), .unset, .unset, .unset] [(.int e_yb)])) tt := fun tt kt => kt
    have pre30 : ∀ tt, Steps p.tables e below (T27.setTop (mkF m 147 #[.val (.int p1), .val (.int p2), .val (.int p3), .val (.int p4), .val (.int p5), .val (.int p6), .val (.int n1), .val (.int cc), .val (.int xa), .val (.int xb), .val (.int ya), .val (.int yb), .val (.ref b8), .val (.int (1 : Int32)), .unset, .unset, .unset] [(.int xa), (.int yb), (.int e_yb)])) tt → Steps p.tables e below (T27.setTop (mkF m 143 #[.val (.int p1), .val (.int p2), .val (.int p3), .val (.int p4), .val (.int p5), .val (.int p6), .val (.int n1), .val (.int cc), .val (.int xa), .val (.int xb), .val (.int ya), .val (.int yb), .val (.ref b8), .val (.int (1 : Int32)), .unset, .unset, .unset] [(.int e_yb)])) tt := by
      intro tt kt
      refine pid29 tt ?_
      show Steps p.tables e below (T27.setTop (mkF m 143 #[.val (.int p1), .val (.int p2), .val (.int p3), .val (.int p4), .val (.int p5), .val (.int p6), .val (.int n1), .val (.int cc), .val (.int xa), .val (.int xb), .val (.int ya), .val (.int yb), .val (.ref b8), .val (.int (1 : Int32)), .unset, .unset, .unset] [(.int e_yb)])) _
      refine XS.iload X27.here hx rfl (hb hby at_143) rfl ?_
      show Steps p.tables e below (T27.setTop (mkF m 145 #[.val (.int p1), .val (.int p2), .val (.int p3), .val (.int p4), .val (.int p5), .val (.int p6), .val (.int n1), .val (.int cc), .val (.int xa), .val (.int xb), .val (.int ya), .val (.int yb), .val (.ref b8), .val (.int (1 : Int32)), .unset, .unset, .unset] [(.int yb), (.int e_yb)])) _
      refine XS.iload X27.here hx rfl (hb hby at_145) rfl ?_
      exact kt
    by_cases c147_31 : yb = xa
    · have pre32 : ∀ tt, Steps p.tables e below (T27.setTop (mkF m 169 #[.val (.int p1), .val (.int p2), .val (.int p3), .val (.int p4), .val (.int p5), .val (.int p6), .val (.int n1), .val (.int cc), .val (.int xa), .val (.int xb), .val (.int ya), .val (.int yb), .val (.ref b8), .val (.int (1 : Int32)), .unset, .unset, .unset] [(.int (1 : Int32)), (.int e_yb)])) tt → Steps p.tables e below (T27.setTop (mkF m 143 #[.val (.int p1), .val (.int p2), .val (.int p3), .val (.int p4), .val (.int p5), .val (.int p6), .val (.int n1), .val (.int cc), .val (.int xa), .val (.int xb), .val (.int ya), .val (.int yb), .val (.ref b8), .val (.int (1 : Int32)), .unset, .unset, .unset] [(.int e_yb)])) tt := by
        intro tt kt
        refine pre30 tt ?_
        show Steps p.tables e below (T27.setTop (mkF m 147 #[.val (.int p1), .val (.int p2), .val (.int p3), .val (.int p4), .val (.int p5), .val (.int p6), .val (.int n1), .val (.int cc), .val (.int xa), .val (.int xb), .val (.int ya), .val (.int yb), .val (.ref b8), .val (.int (1 : Int32)), .unset, .unset, .unset] [(.int xa), (.int yb), (.int e_yb)])) _
        refine XS.icmpYes X27.here hx rfl (pc0 := 147) (pc' := 164) rfl (hb hby at_147) rfl (teq c147_31).1 (by decide) (by decide) ?_
        show Steps p.tables e below (T27.setTop (mkF m 164 #[.val (.int p1), .val (.int p2), .val (.int p3), .val (.int p4), .val (.int p5), .val (.int p6), .val (.int n1), .val (.int cc), .val (.int xa), .val (.int xb), .val (.int ya), .val (.int yb), .val (.ref b8), .val (.int (1 : Int32)), .unset, .unset, .unset] [(.int e_yb)])) _
        refine XS.iconst X27.here hx rfl (hb hby at_164) ?_
        show Steps p.tables e below (T27.setTop (mkF m 165 #[.val (.int p1), .val (.int p2), .val (.int p3), .val (.int p4), .val (.int p5), .val (.int p6), .val (.int n1), .val (.int cc), .val (.int xa), .val (.int xb), .val (.int ya), .val (.int yb), .val (.ref b8), .val (.int (1 : Int32)), .unset, .unset, .unset] [(.int (1 : Int32)), (.int e_yb)])) _
        refine XS.goto X27.here hx rfl (pc0 := 165) (pc' := 169) rfl (hb hby at_165) (by decide) (by decide) ?_
        exact kt
      refine ⟨T27, _, N27, X27, hE27, fun tt kt => pre32 tt ?_⟩
      rw [show e_yb = (1 : Int32) from he_yb.trans (if_pos (Or.inr (Or.inl c147_31)))] at kt ⊢
      exact kt
    · have pre33 : ∀ tt, Steps p.tables e below (T27.setTop (mkF m 154 #[.val (.int p1), .val (.int p2), .val (.int p3), .val (.int p4), .val (.int p5), .val (.int p6), .val (.int n1), .val (.int cc), .val (.int xa), .val (.int xb), .val (.int ya), .val (.int yb), .val (.ref b8), .val (.int (1 : Int32)), .unset, .unset, .unset] [(.int xb), (.int yb), (.int e_yb)])) tt → Steps p.tables e below (T27.setTop (mkF m 143 #[.val (.int p1), .val (.int p2), .val (.int p3), .val (.int p4), .val (.int p5), .val (.int p6), .val (.int n1), .val (.int cc), .val (.int xa), .val (.int xb), .val (.int ya), .val (.int yb), .val (.ref b8), .val (.int (1 : Int32)), .unset, .unset, .unset] [(.int e_yb)])) tt := by
        intro tt kt
        refine pre30 tt ?_
        show Steps p.tables e below (T27.setTop (mkF m 147 #[.val (.int p1), .val (.int p2), .val (.int p3), .val (.int p4), .val (.int p5), .val (.int p6), .val (.int n1), .val (.int cc), .val (.int xa), .val (.int xb), .val (.int ya), .val (.int yb), .val (.ref b8), .val (.int (1 : Int32)), .unset, .unset, .unset] [(.int xa), (.int yb), (.int e_yb)])) _
        refine XS.icmpNo X27.here hx rfl (hb hby at_147) rfl (feq c147_31).1 ?_
        show Steps p.tables e below (T27.setTop (mkF m 150 #[.val (.int p1), .val (.int p2), .val (.int p3), .val (.int p4), .val (.int p5), .val (.int p6), .val (.int n1), .val (.int cc), .val (.int xa), .val (.int xb), .val (.int ya), .val (.int yb), .val (.ref b8), .val (.int (1 : Int32)), .unset, .unset, .unset] [(.int e_yb)])) _
        refine XS.iload X27.here hx rfl (hb hby at_150) rfl ?_
        show Steps p.tables e below (T27.setTop (mkF m 152 #[.val (.int p1), .val (.int p2), .val (.int p3), .val (.int p4), .val (.int p5), .val (.int p6), .val (.int n1), .val (.int cc), .val (.int xa), .val (.int xb), .val (.int ya), .val (.int yb), .val (.ref b8), .val (.int (1 : Int32)), .unset, .unset, .unset] [(.int yb), (.int e_yb)])) _
        refine XS.iload X27.here hx rfl (hb hby at_152) rfl ?_
        exact kt
      by_cases c154_34 : yb = xb
      · have pre35 : ∀ tt, Steps p.tables e below (T27.setTop (mkF m 169 #[.val (.int p1), .val (.int p2), .val (.int p3), .val (.int p4), .val (.int p5), .val (.int p6), .val (.int n1), .val (.int cc), .val (.int xa), .val (.int xb), .val (.int ya), .val (.int yb), .val (.ref b8), .val (.int (1 : Int32)), .unset, .unset, .unset] [(.int (1 : Int32)), (.int e_yb)])) tt → Steps p.tables e below (T27.setTop (mkF m 143 #[.val (.int p1), .val (.int p2), .val (.int p3), .val (.int p4), .val (.int p5), .val (.int p6), .val (.int n1), .val (.int cc), .val (.int xa), .val (.int xb), .val (.int ya), .val (.int yb), .val (.ref b8), .val (.int (1 : Int32)), .unset, .unset, .unset] [(.int e_yb)])) tt := by
          intro tt kt
          refine pre33 tt ?_
          show Steps p.tables e below (T27.setTop (mkF m 154 #[.val (.int p1), .val (.int p2), .val (.int p3), .val (.int p4), .val (.int p5), .val (.int p6), .val (.int n1), .val (.int cc), .val (.int xa), .val (.int xb), .val (.int ya), .val (.int yb), .val (.ref b8), .val (.int (1 : Int32)), .unset, .unset, .unset] [(.int xb), (.int yb), (.int e_yb)])) _
          refine XS.icmpYes X27.here hx rfl (pc0 := 154) (pc' := 164) rfl (hb hby at_154) rfl (teq c154_34).1 (by decide) (by decide) ?_
          show Steps p.tables e below (T27.setTop (mkF m 164 #[.val (.int p1), .val (.int p2), .val (.int p3), .val (.int p4), .val (.int p5), .val (.int p6), .val (.int n1), .val (.int cc), .val (.int xa), .val (.int xb), .val (.int ya), .val (.int yb), .val (.ref b8), .val (.int (1 : Int32)), .unset, .unset, .unset] [(.int e_yb)])) _
          refine XS.iconst X27.here hx rfl (hb hby at_164) ?_
          show Steps p.tables e below (T27.setTop (mkF m 165 #[.val (.int p1), .val (.int p2), .val (.int p3), .val (.int p4), .val (.int p5), .val (.int p6), .val (.int n1), .val (.int cc), .val (.int xa), .val (.int xb), .val (.int ya), .val (.int yb), .val (.ref b8), .val (.int (1 : Int32)), .unset, .unset, .unset] [(.int (1 : Int32)), (.int e_yb)])) _
          refine XS.goto X27.here hx rfl (pc0 := 165) (pc' := 169) rfl (hb hby at_165) (by decide) (by decide) ?_
          exact kt
        refine ⟨T27, _, N27, X27, hE27, fun tt kt => pre35 tt ?_⟩
        rw [show e_yb = (1 : Int32) from he_yb.trans (if_pos (Or.inr (Or.inr c154_34)))] at kt ⊢
        exact kt
      · have pre36 : ∀ tt, Steps p.tables e below (T27.setTop (mkF m 161 #[.val (.int p1), .val (.int p2), .val (.int p3), .val (.int p4), .val (.int p5), .val (.int p6), .val (.int n1), .val (.int cc), .val (.int xa), .val (.int xb), .val (.int ya), .val (.int yb), .val (.ref b8), .val (.int (1 : Int32)), .unset, .unset, .unset] [(.int cc), (.int yb), (.int e_yb)])) tt → Steps p.tables e below (T27.setTop (mkF m 143 #[.val (.int p1), .val (.int p2), .val (.int p3), .val (.int p4), .val (.int p5), .val (.int p6), .val (.int n1), .val (.int cc), .val (.int xa), .val (.int xb), .val (.int ya), .val (.int yb), .val (.ref b8), .val (.int (1 : Int32)), .unset, .unset, .unset] [(.int e_yb)])) tt := by
          intro tt kt
          refine pre33 tt ?_
          show Steps p.tables e below (T27.setTop (mkF m 154 #[.val (.int p1), .val (.int p2), .val (.int p3), .val (.int p4), .val (.int p5), .val (.int p6), .val (.int n1), .val (.int cc), .val (.int xa), .val (.int xb), .val (.int ya), .val (.int yb), .val (.ref b8), .val (.int (1 : Int32)), .unset, .unset, .unset] [(.int xb), (.int yb), (.int e_yb)])) _
          refine XS.icmpNo X27.here hx rfl (hb hby at_154) rfl (feq c154_34).1 ?_
          show Steps p.tables e below (T27.setTop (mkF m 157 #[.val (.int p1), .val (.int p2), .val (.int p3), .val (.int p4), .val (.int p5), .val (.int p6), .val (.int n1), .val (.int cc), .val (.int xa), .val (.int xb), .val (.int ya), .val (.int yb), .val (.ref b8), .val (.int (1 : Int32)), .unset, .unset, .unset] [(.int e_yb)])) _
          refine XS.iload X27.here hx rfl (hb hby at_157) rfl ?_
          show Steps p.tables e below (T27.setTop (mkF m 159 #[.val (.int p1), .val (.int p2), .val (.int p3), .val (.int p4), .val (.int p5), .val (.int p6), .val (.int n1), .val (.int cc), .val (.int xa), .val (.int xb), .val (.int ya), .val (.int yb), .val (.ref b8), .val (.int (1 : Int32)), .unset, .unset, .unset] [(.int yb), (.int e_yb)])) _
          refine XS.iload X27.here hx rfl (hb hby at_159) rfl ?_
          exact kt
        by_cases c161_37 : yb < cc
        · have pre38 : ∀ tt, Steps p.tables e below (T27.setTop (mkF m 169 #[.val (.int p1), .val (.int p2), .val (.int p3), .val (.int p4), .val (.int p5), .val (.int p6), .val (.int n1), .val (.int cc), .val (.int xa), .val (.int xb), .val (.int ya), .val (.int yb), .val (.ref b8), .val (.int (1 : Int32)), .unset, .unset, .unset] [(.int (1 : Int32)), (.int e_yb)])) tt → Steps p.tables e below (T27.setTop (mkF m 143 #[.val (.int p1), .val (.int p2), .val (.int p3), .val (.int p4), .val (.int p5), .val (.int p6), .val (.int n1), .val (.int cc), .val (.int xa), .val (.int xb), .val (.int ya), .val (.int yb), .val (.ref b8), .val (.int (1 : Int32)), .unset, .unset, .unset] [(.int e_yb)])) tt := by
            intro tt kt
            refine pre36 tt ?_
            show Steps p.tables e below (T27.setTop (mkF m 161 #[.val (.int p1), .val (.int p2), .val (.int p3), .val (.int p4), .val (.int p5), .val (.int p6), .val (.int n1), .val (.int cc), .val (.int xa), .val (.int xb), .val (.int ya), .val (.int yb), .val (.ref b8), .val (.int (1 : Int32)), .unset, .unset, .unset] [(.int cc), (.int yb), (.int e_yb)])) _
            refine XS.icmpNo X27.here hx rfl (hb hby at_161) rfl (tlt c161_37).2.1 ?_
            show Steps p.tables e below (T27.setTop (mkF m 164 #[.val (.int p1), .val (.int p2), .val (.int p3), .val (.int p4), .val (.int p5), .val (.int p6), .val (.int n1), .val (.int cc), .val (.int xa), .val (.int xb), .val (.int ya), .val (.int yb), .val (.ref b8), .val (.int (1 : Int32)), .unset, .unset, .unset] [(.int e_yb)])) _
            refine XS.iconst X27.here hx rfl (hb hby at_164) ?_
            show Steps p.tables e below (T27.setTop (mkF m 165 #[.val (.int p1), .val (.int p2), .val (.int p3), .val (.int p4), .val (.int p5), .val (.int p6), .val (.int n1), .val (.int cc), .val (.int xa), .val (.int xb), .val (.int ya), .val (.int yb), .val (.ref b8), .val (.int (1 : Int32)), .unset, .unset, .unset] [(.int (1 : Int32)), (.int e_yb)])) _
            refine XS.goto X27.here hx rfl (pc0 := 165) (pc' := 169) rfl (hb hby at_165) (by decide) (by decide) ?_
            exact kt
          refine ⟨T27, _, N27, X27, hE27, fun tt kt => pre38 tt ?_⟩
          rw [show e_yb = (1 : Int32) from he_yb.trans (if_pos (Or.inl (Int32.lt_iff_toInt_lt.mp c161_37)))] at kt ⊢
          exact kt
        · have pre39 : ∀ tt, Steps p.tables e below (T27.setTop (mkF m 169 #[.val (.int p1), .val (.int p2), .val (.int p3), .val (.int p4), .val (.int p5), .val (.int p6), .val (.int n1), .val (.int cc), .val (.int xa), .val (.int xb), .val (.int ya), .val (.int yb), .val (.ref b8), .val (.int (1 : Int32)), .unset, .unset, .unset] [(.int (0 : Int32)), (.int e_yb)])) tt → Steps p.tables e below (T27.setTop (mkF m 143 #[.val (.int p1), .val (.int p2), .val (.int p3), .val (.int p4), .val (.int p5), .val (.int p6), .val (.int n1), .val (.int cc), .val (.int xa), .val (.int xb), .val (.int ya), .val (.int yb), .val (.ref b8), .val (.int (1 : Int32)), .unset, .unset, .unset] [(.int e_yb)])) tt := by
            intro tt kt
            refine pre36 tt ?_
            show Steps p.tables e below (T27.setTop (mkF m 161 #[.val (.int p1), .val (.int p2), .val (.int p3), .val (.int p4), .val (.int p5), .val (.int p6), .val (.int n1), .val (.int cc), .val (.int xa), .val (.int xb), .val (.int ya), .val (.int yb), .val (.ref b8), .val (.int (1 : Int32)), .unset, .unset, .unset] [(.int cc), (.int yb), (.int e_yb)])) _
            refine XS.icmpYes X27.here hx rfl (pc0 := 161) (pc' := 168) rfl (hb hby at_161) rfl (flt c161_37).2.1 (by decide) (by decide) ?_
            show Steps p.tables e below (T27.setTop (mkF m 168 #[.val (.int p1), .val (.int p2), .val (.int p3), .val (.int p4), .val (.int p5), .val (.int p6), .val (.int n1), .val (.int cc), .val (.int xa), .val (.int xb), .val (.int ya), .val (.int yb), .val (.ref b8), .val (.int (1 : Int32)), .unset, .unset, .unset] [(.int e_yb)])) _
            refine XS.iconst X27.here hx rfl (hb hby at_168) ?_
            exact kt
          refine ⟨T27, _, N27, X27, hE27, fun tt kt => pre39 tt ?_⟩
          rw [show e_yb = (0 : Int32) from he_yb.trans (if_neg (fun q => q.elim (fun r => c161_37 (Int32.lt_iff_toInt_lt.mpr r)) (fun r => r.elim c147_31 c154_34)))] at kt ⊢
          exact kt
  have pre40 : ∀ tt, Steps p.tables e below (T29.setTop (mkF m 169 #[.val (.int p1), .val (.int p2), .val (.int p3), .val (.int p4), .val (.int p5), .val (.int p6), .val (.int n1), .val (.int cc), .val (.int xa), .val (.int xb), .val (.int ya), .val (.int yb), .val (.ref b8), .val (.int (1 : Int32)), .unset, .unset, .unset] [(.int e_yb), (.int e_yb)])) tt → Steps p.tables e below (s₁.setTop (entryFrame m #[(.int p1), (.int p2), (.int p3), (.int p4), (.int p5), (.int p6)] maxLocals)) tt := by
    intro tt kt
    refine pre28 tt ?_
    show Steps p.tables e below (T27.setTop (mkF m 143 #[.val (.int p1), .val (.int p2), .val (.int p3), .val (.int p4), .val (.int p5), .val (.int p6), .val (.int n1), .val (.int cc), .val (.int xa), .val (.int xb), .val (.int ya), .val (.int yb), .val (.ref b8), .val (.int (1 : Int32)), .unset, .unset, .unset] [(.int e_yb)])) _
    refine st29 _ ?_
    exact kt
  obtain ⟨ex, hex⟩ : ∃ z : Int32, z = own_exp cc xa xb := ⟨_, rfl⟩
  have pre41 : ∀ tt, Steps p.tables e below (T29.setTop (mkF m 183 #[.val (.int p1), .val (.int p2), .val (.int p3), .val (.int p4), .val (.int p5), .val (.int p6), .val (.int n1), .val (.int cc), .val (.int xa), .val (.int xb), .val (.int ya), .val (.int yb), .val (.ref b8), .val (.int (1 : Int32)), .val (.int (1 : Int32)), .val (.int cc), .unset] [])) tt → Steps p.tables e below (s₁.setTop (entryFrame m #[(.int p1), (.int p2), (.int p3), (.int p4), (.int p5), (.int p6)] maxLocals)) tt := by
    intro tt kt
    refine pre40 tt ?_
    show Steps p.tables e below (T29.setTop (mkF m 169 #[.val (.int p1), .val (.int p2), .val (.int p3), .val (.int p4), .val (.int p5), .val (.int p6), .val (.int n1), .val (.int cc), .val (.int xa), .val (.int xb), .val (.int ya), .val (.int yb), .val (.ref b8), .val (.int (1 : Int32)), .unset, .unset, .unset] [(.int e_yb), (.int e_yb)])) _
    refine XS.icmpNo X29.here hx rfl (hb hby at_169) rfl (teq (rfl : e_yb = e_yb)).2 ?_
    show Steps p.tables e below (T29.setTop (mkF m 172 #[.val (.int p1), .val (.int p2), .val (.int p3), .val (.int p4), .val (.int p5), .val (.int p6), .val (.int n1), .val (.int cc), .val (.int xa), .val (.int xb), .val (.int ya), .val (.int yb), .val (.ref b8), .val (.int (1 : Int32)), .unset, .unset, .unset] [])) _
    refine XS.iconst X29.here hx rfl (hb hby at_172) ?_
    show Steps p.tables e below (T29.setTop (mkF m 173 #[.val (.int p1), .val (.int p2), .val (.int p3), .val (.int p4), .val (.int p5), .val (.int p6), .val (.int n1), .val (.int cc), .val (.int xa), .val (.int xb), .val (.int ya), .val (.int yb), .val (.ref b8), .val (.int (1 : Int32)), .unset, .unset, .unset] [(.int (1 : Int32))])) _
    refine XS.goto X29.here hx rfl (pc0 := 173) (pc' := 177) rfl (hb hby at_173) (by decide) (by decide) ?_
    show Steps p.tables e below (T29.setTop (mkF m 177 #[.val (.int p1), .val (.int p2), .val (.int p3), .val (.int p4), .val (.int p5), .val (.int p6), .val (.int n1), .val (.int cc), .val (.int xa), .val (.int xb), .val (.int ya), .val (.int yb), .val (.ref b8), .val (.int (1 : Int32)), .unset, .unset, .unset] [(.int (1 : Int32))])) _
    refine XS.istore X29.here hx rfl (hb hby at_177) rfl (l' := #[.val (.int p1), .val (.int p2), .val (.int p3), .val (.int p4), .val (.int p5), .val (.int p6), .val (.int n1), .val (.int cc), .val (.int xa), .val (.int xb), .val (.int ya), .val (.int yb), .val (.ref b8), .val (.int (1 : Int32)), .val (.int (1 : Int32)), .unset, .unset]) rfl ?_
    show Steps p.tables e below (T29.setTop (mkF m 179 #[.val (.int p1), .val (.int p2), .val (.int p3), .val (.int p4), .val (.int p5), .val (.int p6), .val (.int n1), .val (.int cc), .val (.int xa), .val (.int xb), .val (.int ya), .val (.int yb), .val (.ref b8), .val (.int (1 : Int32)), .val (.int (1 : Int32)), .unset, .unset] [])) _
    refine XS.iload X29.here hx rfl (hb hby at_179) rfl ?_
    show Steps p.tables e below (T29.setTop (mkF m 181 #[.val (.int p1), .val (.int p2), .val (.int p3), .val (.int p4), .val (.int p5), .val (.int p6), .val (.int n1), .val (.int cc), .val (.int xa), .val (.int xb), .val (.int ya), .val (.int yb), .val (.ref b8), .val (.int (1 : Int32)), .val (.int (1 : Int32)), .unset, .unset] [(.int cc)])) _
    refine XS.istore X29.here hx rfl (hb hby at_181) rfl (l' := #[.val (.int p1), .val (.int p2), .val (.int p3), .val (.int p4), .val (.int p5), .val (.int p6), .val (.int n1), .val (.int cc), .val (.int xa), .val (.int xb), .val (.int ya), .val (.int yb), .val (.ref b8), .val (.int (1 : Int32)), .val (.int (1 : Int32)), .val (.int cc), .unset]) rfl ?_
    exact kt
  obtain ⟨T42, L42, N42, X42, e42, st42⟩ : ∃ (T' : State) (L' : List Loc), Fr n0 L' ∧ Stand p l e room_1 s m #[(.int p1), (.int p2), (.int p3), (.int p4), (.int p5), (.int p6)] below meth c T' L' 2 5 ∧ T'.heap = T12.heap ∧ ∀ tt, Steps p.tables e below (T'.setTop (mkF m 216 #[.val (.int p1), .val (.int p2), .val (.int p3), .val (.int p4), .val (.int p5), .val (.int p6), .val (.int n1), .val (.int cc), .val (.int xa), .val (.int xb), .val (.int ya), .val (.int yb), .val (.ref b8), .val (.int (1 : Int32)), .val (.int (1 : Int32)), .val (.int ex), .unset] [])) tt → Steps p.tables e below (T29.setTop (mkF m 183 #[.val (.int p1), .val (.int p2), .val (.int p3), .val (.int p4), .val (.int p5), .val (.int p6), .val (.int n1), .val (.int cc), .val (.int xa), .val (.int xb), .val (.int ya), .val (.int yb), .val (.ref b8), .val (.int (1 : Int32)), .val (.int (1 : Int32)), .val (.int cc), .unset] [])) tt := by
    have pid42 : ∀ tt, Steps p.tables e below (T29.setTop (mkF m 183 #[.val (.int p1), .val (.int p2), .val (.int p3), .val (.int p4), .val (.int p5), .val (.int p6), .val (.int n1), .val (.int cc), .val (.int xa), .val (.int xb), .val (.int ya), .val (.int yb), .val (.ref b8), .val (.int (1 : Int32)), .val (.int (1 : Int32)), .val (.int cc), .unset] [])) tt → Steps p.tables e below (T29.setTop (mkF m 183 #[.val (.int p1), .val (.int p2), .val (.int p3), .val (.int p4), .val (.int p5), .val (.int p6), .val (.int n1), .val (.int cc), .val (.int xa), .val (.int xb), .val (.int ya), .val (.int yb), .val (.ref b8), .val (.int (1 : Int32)), .val (.int (1 : Int32)), .val (.int cc), .unset] [])) tt := fun tt kt => kt
    have pre43 : ∀ tt, Steps p.tables e below (T29.setTop (mkF m 187 #[.val (.int p1), .val (.int p2), .val (.int p3), .val (.int p4), .val (.int p5), .val (.int p6), .val (.int n1), .val (.int cc), .val (.int xa), .val (.int xb), .val (.int ya), .val (.int yb), .val (.ref b8), .val (.int (1 : Int32)), .val (.int (1 : Int32)), .val (.int cc), .unset] [(.int cc), (.int xa)])) tt → Steps p.tables e below (T29.setTop (mkF m 183 #[.val (.int p1), .val (.int p2), .val (.int p3), .val (.int p4), .val (.int p5), .val (.int p6), .val (.int n1), .val (.int cc), .val (.int xa), .val (.int xb), .val (.int ya), .val (.int yb), .val (.ref b8), .val (.int (1 : Int32)), .val (.int (1 : Int32)), .val (.int cc), .unset] [])) tt := by
      intro tt kt
      refine pid42 tt ?_
      show Steps p.tables e below (T29.setTop (mkF m 183 #[.val (.int p1), .val (.int p2), .val (.int p3), .val (.int p4), .val (.int p5), .val (.int p6), .val (.int n1), .val (.int cc), .val (.int xa), .val (.int xb), .val (.int ya), .val (.int yb), .val (.ref b8), .val (.int (1 : Int32)), .val (.int (1 : Int32)), .val (.int cc), .unset] [])) _
      refine XS.iload X29.here hx rfl (hb hby at_183) rfl ?_
      show Steps p.tables e below (T29.setTop (mkF m 185 #[.val (.int p1), .val (.int p2), .val (.int p3), .val (.int p4), .val (.int p5), .val (.int p6), .val (.int n1), .val (.int cc), .val (.int xa), .val (.int xb), .val (.int ya), .val (.int yb), .val (.ref b8), .val (.int (1 : Int32)), .val (.int (1 : Int32)), .val (.int cc), .unset] [(.int xa)])) _
      refine XS.iload X29.here hx rfl (hb hby at_185) rfl ?_
      exact kt
    by_cases c187_44 : xa < cc
    · have pre45 : ∀ tt, Steps p.tables e below (T29.setTop (mkF m 200 #[.val (.int p1), .val (.int p2), .val (.int p3), .val (.int p4), .val (.int p5), .val (.int p6), .val (.int n1), .val (.int cc), .val (.int xa), .val (.int xb), .val (.int ya), .val (.int yb), .val (.ref b8), .val (.int (1 : Int32)), .val (.int (1 : Int32)), .val (.int cc), .unset] [(.int cc), (.int xb)])) tt → Steps p.tables e below (T29.setTop (mkF m 183 #[.val (.int p1), .val (.int p2), .val (.int p3), .val (.int p4), .val (.int p5), .val (.int p6), .val (.int n1), .val (.int cc), .val (.int xa), .val (.int xb), .val (.int ya), .val (.int yb), .val (.ref b8), .val (.int (1 : Int32)), .val (.int (1 : Int32)), .val (.int cc), .unset] [])) tt := by
        intro tt kt
        refine pre43 tt ?_
        show Steps p.tables e below (T29.setTop (mkF m 187 #[.val (.int p1), .val (.int p2), .val (.int p3), .val (.int p4), .val (.int p5), .val (.int p6), .val (.int n1), .val (.int cc), .val (.int xa), .val (.int xb), .val (.int ya), .val (.int yb), .val (.ref b8), .val (.int (1 : Int32)), .val (.int (1 : Int32)), .val (.int cc), .unset] [(.int cc), (.int xa)])) _
        refine XS.icmpYes X29.here hx rfl (pc0 := 187) (pc' := 196) rfl (hb hby at_187) rfl (tlt c187_44).1 (by decide) (by decide) ?_
        show Steps p.tables e below (T29.setTop (mkF m 196 #[.val (.int p1), .val (.int p2), .val (.int p3), .val (.int p4), .val (.int p5), .val (.int p6), .val (.int n1), .val (.int cc), .val (.int xa), .val (.int xb), .val (.int ya), .val (.int yb), .val (.ref b8), .val (.int (1 : Int32)), .val (.int (1 : Int32)), .val (.int cc), .unset] [])) _
        refine XS.iload X29.here hx rfl (hb hby at_196) rfl ?_
        show Steps p.tables e below (T29.setTop (mkF m 198 #[.val (.int p1), .val (.int p2), .val (.int p3), .val (.int p4), .val (.int p5), .val (.int p6), .val (.int n1), .val (.int cc), .val (.int xa), .val (.int xb), .val (.int ya), .val (.int yb), .val (.ref b8), .val (.int (1 : Int32)), .val (.int (1 : Int32)), .val (.int cc), .unset] [(.int xb)])) _
        refine XS.iload X29.here hx rfl (hb hby at_198) rfl ?_
        exact kt
      by_cases c200_46 : xb < cc
      · have pre47 : ∀ tt, Steps p.tables e below (T29.setTop (mkF m 216 #[.val (.int p1), .val (.int p2), .val (.int p3), .val (.int p4), .val (.int p5), .val (.int p6), .val (.int n1), .val (.int cc), .val (.int xa), .val (.int xb), .val (.int ya), .val (.int yb), .val (.ref b8), .val (.int (1 : Int32)), .val (.int (1 : Int32)), .val (.int cc), .unset] [])) tt → Steps p.tables e below (T29.setTop (mkF m 183 #[.val (.int p1), .val (.int p2), .val (.int p3), .val (.int p4), .val (.int p5), .val (.int p6), .val (.int n1), .val (.int cc), .val (.int xa), .val (.int xb), .val (.int ya), .val (.int yb), .val (.ref b8), .val (.int (1 : Int32)), .val (.int (1 : Int32)), .val (.int cc), .unset] [])) tt := by
          intro tt kt
          refine pre45 tt ?_
          show Steps p.tables e below (T29.setTop (mkF m 200 #[.val (.int p1), .val (.int p2), .val (.int p3), .val (.int p4), .val (.int p5), .val (.int p6), .val (.int n1), .val (.int cc), .val (.int xa), .val (.int xb), .val (.int ya), .val (.int yb), .val (.ref b8), .val (.int (1 : Int32)), .val (.int (1 : Int32)), .val (.int cc), .unset] [(.int cc), (.int xb)])) _
          refine XS.icmpYes X29.here hx rfl (pc0 := 200) (pc' := 216) rfl (hb hby at_200) rfl (tlt c200_46).1 (by decide) (by decide) ?_
          exact kt
        refine ⟨T29, _, N29, X29, e29, fun tt kt => pre47 tt ?_⟩
        rw [show ex = cc from by rw [hex]; unfold own_exp; simp [c187_44, c200_46]] at kt
        exact kt
      · have pre48 : ∀ tt, Steps p.tables e below (T29.setTop (mkF m 207 #[.val (.int p1), .val (.int p2), .val (.int p3), .val (.int p4), .val (.int p5), .val (.int p6), .val (.int n1), .val (.int cc), .val (.int xa), .val (.int xb), .val (.int ya), .val (.int yb), .val (.ref b8), .val (.int (1 : Int32)), .val (.int (1 : Int32)), .val (.int cc), .unset] [(.int xa), (.int xb)])) tt → Steps p.tables e below (T29.setTop (mkF m 183 #[.val (.int p1), .val (.int p2), .val (.int p3), .val (.int p4), .val (.int p5), .val (.int p6), .val (.int n1), .val (.int cc), .val (.int xa), .val (.int xb), .val (.int ya), .val (.int yb), .val (.ref b8), .val (.int (1 : Int32)), .val (.int (1 : Int32)), .val (.int cc), .unset] [])) tt := by
          intro tt kt
          refine pre45 tt ?_
          show Steps p.tables e below (T29.setTop (mkF m 200 #[.val (.int p1), .val (.int p2), .val (.int p3), .val (.int p4), .val (.int p5), .val (.int p6), .val (.int n1), .val (.int cc), .val (.int xa), .val (.int xb), .val (.int ya), .val (.int yb), .val (.ref b8), .val (.int (1 : Int32)), .val (.int (1 : Int32)), .val (.int cc), .unset] [(.int cc), (.int xb)])) _
          refine XS.icmpNo X29.here hx rfl (hb hby at_200) rfl (flt c200_46).1 ?_
          show Steps p.tables e below (T29.setTop (mkF m 203 #[.val (.int p1), .val (.int p2), .val (.int p3), .val (.int p4), .val (.int p5), .val (.int p6), .val (.int n1), .val (.int cc), .val (.int xa), .val (.int xb), .val (.int ya), .val (.int yb), .val (.ref b8), .val (.int (1 : Int32)), .val (.int (1 : Int32)), .val (.int cc), .unset] [])) _
          refine XS.iload X29.here hx rfl (hb hby at_203) rfl ?_
          show Steps p.tables e below (T29.setTop (mkF m 205 #[.val (.int p1), .val (.int p2), .val (.int p3), .val (.int p4), .val (.int p5), .val (.int p6), .val (.int n1), .val (.int cc), .val (.int xa), .val (.int xb), .val (.int ya), .val (.int yb), .val (.ref b8), .val (.int (1 : Int32)), .val (.int (1 : Int32)), .val (.int cc), .unset] [(.int xb)])) _
          refine XS.iload X29.here hx rfl (hb hby at_205) rfl ?_
          exact kt
        by_cases c207_49 : xb = xa
        · have pre50 : ∀ tt, Steps p.tables e below (T29.setTop (mkF m 216 #[.val (.int p1), .val (.int p2), .val (.int p3), .val (.int p4), .val (.int p5), .val (.int p6), .val (.int n1), .val (.int cc), .val (.int xa), .val (.int xb), .val (.int ya), .val (.int yb), .val (.ref b8), .val (.int (1 : Int32)), .val (.int (1 : Int32)), .val (.int cc), .unset] [])) tt → Steps p.tables e below (T29.setTop (mkF m 183 #[.val (.int p1), .val (.int p2), .val (.int p3), .val (.int p4), .val (.int p5), .val (.int p6), .val (.int n1), .val (.int cc), .val (.int xa), .val (.int xb), .val (.int ya), .val (.int yb), .val (.ref b8), .val (.int (1 : Int32)), .val (.int (1 : Int32)), .val (.int cc), .unset] [])) tt := by
            intro tt kt
            refine pre48 tt ?_
            show Steps p.tables e below (T29.setTop (mkF m 207 #[.val (.int p1), .val (.int p2), .val (.int p3), .val (.int p4), .val (.int p5), .val (.int p6), .val (.int n1), .val (.int cc), .val (.int xa), .val (.int xb), .val (.int ya), .val (.int yb), .val (.ref b8), .val (.int (1 : Int32)), .val (.int (1 : Int32)), .val (.int cc), .unset] [(.int xa), (.int xb)])) _
            refine XS.icmpYes X29.here hx rfl (pc0 := 207) (pc' := 216) rfl (hb hby at_207) rfl (teq c207_49).1 (by decide) (by decide) ?_
            exact kt
          refine ⟨T29, _, N29, X29, e29, fun tt kt => pre50 tt ?_⟩
          rw [show ex = cc from by rw [hex]; unfold own_exp; simp [c187_44, c200_46, c207_49]] at kt
          exact kt
        · have pre51 : ∀ tt, Steps p.tables e below (T29.setTop (mkF m 216 #[.val (.int p1), .val (.int p2), .val (.int p3), .val (.int p4), .val (.int p5), .val (.int p6), .val (.int n1), .val (.int cc), .val (.int xa), .val (.int xb), .val (.int ya), .val (.int yb), .val (.ref b8), .val (.int (1 : Int32)), .val (.int (1 : Int32)), .val (.int (cc + (1 : Int32))), .unset] [])) tt → Steps p.tables e below (T29.setTop (mkF m 183 #[.val (.int p1), .val (.int p2), .val (.int p3), .val (.int p4), .val (.int p5), .val (.int p6), .val (.int n1), .val (.int cc), .val (.int xa), .val (.int xb), .val (.int ya), .val (.int yb), .val (.ref b8), .val (.int (1 : Int32)), .val (.int (1 : Int32)), .val (.int cc), .unset] [])) tt := by
            intro tt kt
            refine pre48 tt ?_
            show Steps p.tables e below (T29.setTop (mkF m 207 #[.val (.int p1), .val (.int p2), .val (.int p3), .val (.int p4), .val (.int p5), .val (.int p6), .val (.int n1), .val (.int cc), .val (.int xa), .val (.int xb), .val (.int ya), .val (.int yb), .val (.ref b8), .val (.int (1 : Int32)), .val (.int (1 : Int32)), .val (.int cc), .unset] [(.int xa), (.int xb)])) _
            refine XS.icmpNo X29.here hx rfl (hb hby at_207) rfl (feq c207_49).1 ?_
            show Steps p.tables e below (T29.setTop (mkF m 210 #[.val (.int p1), .val (.int p2), .val (.int p3), .val (.int p4), .val (.int p5), .val (.int p6), .val (.int n1), .val (.int cc), .val (.int xa), .val (.int xb), .val (.int ya), .val (.int yb), .val (.ref b8), .val (.int (1 : Int32)), .val (.int (1 : Int32)), .val (.int cc), .unset] [])) _
            refine XS.iload X29.here hx rfl (hb hby at_210) rfl ?_
            show Steps p.tables e below (T29.setTop (mkF m 212 #[.val (.int p1), .val (.int p2), .val (.int p3), .val (.int p4), .val (.int p5), .val (.int p6), .val (.int n1), .val (.int cc), .val (.int xa), .val (.int xb), .val (.int ya), .val (.int yb), .val (.ref b8), .val (.int (1 : Int32)), .val (.int (1 : Int32)), .val (.int cc), .unset] [(.int cc)])) _
            refine XS.iconst X29.here hx rfl (hb hby at_212) ?_
            show Steps p.tables e below (T29.setTop (mkF m 213 #[.val (.int p1), .val (.int p2), .val (.int p3), .val (.int p4), .val (.int p5), .val (.int p6), .val (.int n1), .val (.int cc), .val (.int xa), .val (.int xb), .val (.int ya), .val (.int yb), .val (.ref b8), .val (.int (1 : Int32)), .val (.int (1 : Int32)), .val (.int cc), .unset] [(.int (1 : Int32)), (.int cc)])) _
            refine XS.iadd X29.here hx rfl (hb hby at_213) rfl ?_
            show Steps p.tables e below (T29.setTop (mkF m 214 #[.val (.int p1), .val (.int p2), .val (.int p3), .val (.int p4), .val (.int p5), .val (.int p6), .val (.int n1), .val (.int cc), .val (.int xa), .val (.int xb), .val (.int ya), .val (.int yb), .val (.ref b8), .val (.int (1 : Int32)), .val (.int (1 : Int32)), .val (.int cc), .unset] [(.int (cc + (1 : Int32)))])) _
            refine XS.istore X29.here hx rfl (hb hby at_214) rfl (l' := #[.val (.int p1), .val (.int p2), .val (.int p3), .val (.int p4), .val (.int p5), .val (.int p6), .val (.int n1), .val (.int cc), .val (.int xa), .val (.int xb), .val (.int ya), .val (.int yb), .val (.ref b8), .val (.int (1 : Int32)), .val (.int (1 : Int32)), .val (.int (cc + (1 : Int32))), .unset]) rfl ?_
            exact kt
          refine ⟨T29, _, N29, X29, e29, fun tt kt => pre51 tt ?_⟩
          rw [show ex = (cc + (1 : Int32)) from by rw [hex]; unfold own_exp; simp [c187_44, c200_46, c207_49]] at kt
          exact kt
    · have pre52 : ∀ tt, Steps p.tables e below (T29.setTop (mkF m 200 #[.val (.int p1), .val (.int p2), .val (.int p3), .val (.int p4), .val (.int p5), .val (.int p6), .val (.int n1), .val (.int cc), .val (.int xa), .val (.int xb), .val (.int ya), .val (.int yb), .val (.ref b8), .val (.int (1 : Int32)), .val (.int (1 : Int32)), .val (.int (cc + (1 : Int32))), .unset] [(.int cc), (.int xb)])) tt → Steps p.tables e below (T29.setTop (mkF m 183 #[.val (.int p1), .val (.int p2), .val (.int p3), .val (.int p4), .val (.int p5), .val (.int p6), .val (.int n1), .val (.int cc), .val (.int xa), .val (.int xb), .val (.int ya), .val (.int yb), .val (.ref b8), .val (.int (1 : Int32)), .val (.int (1 : Int32)), .val (.int cc), .unset] [])) tt := by
        intro tt kt
        refine pre43 tt ?_
        show Steps p.tables e below (T29.setTop (mkF m 187 #[.val (.int p1), .val (.int p2), .val (.int p3), .val (.int p4), .val (.int p5), .val (.int p6), .val (.int n1), .val (.int cc), .val (.int xa), .val (.int xb), .val (.int ya), .val (.int yb), .val (.ref b8), .val (.int (1 : Int32)), .val (.int (1 : Int32)), .val (.int cc), .unset] [(.int cc), (.int xa)])) _
        refine XS.icmpNo X29.here hx rfl (hb hby at_187) rfl (flt c187_44).1 ?_
        show Steps p.tables e below (T29.setTop (mkF m 190 #[.val (.int p1), .val (.int p2), .val (.int p3), .val (.int p4), .val (.int p5), .val (.int p6), .val (.int n1), .val (.int cc), .val (.int xa), .val (.int xb), .val (.int ya), .val (.int yb), .val (.ref b8), .val (.int (1 : Int32)), .val (.int (1 : Int32)), .val (.int cc), .unset] [])) _
        refine XS.iload X29.here hx rfl (hb hby at_190) rfl ?_
        show Steps p.tables e below (T29.setTop (mkF m 192 #[.val (.int p1), .val (.int p2), .val (.int p3), .val (.int p4), .val (.int p5), .val (.int p6), .val (.int n1), .val (.int cc), .val (.int xa), .val (.int xb), .val (.int ya), .val (.int yb), .val (.ref b8), .val (.int (1 : Int32)), .val (.int (1 : Int32)), .val (.int cc), .unset] [(.int cc)])) _
        refine XS.iconst X29.here hx rfl (hb hby at_192) ?_
        show Steps p.tables e below (T29.setTop (mkF m 193 #[.val (.int p1), .val (.int p2), .val (.int p3), .val (.int p4), .val (.int p5), .val (.int p6), .val (.int n1), .val (.int cc), .val (.int xa), .val (.int xb), .val (.int ya), .val (.int yb), .val (.ref b8), .val (.int (1 : Int32)), .val (.int (1 : Int32)), .val (.int cc), .unset] [(.int (1 : Int32)), (.int cc)])) _
        refine XS.iadd X29.here hx rfl (hb hby at_193) rfl ?_
        show Steps p.tables e below (T29.setTop (mkF m 194 #[.val (.int p1), .val (.int p2), .val (.int p3), .val (.int p4), .val (.int p5), .val (.int p6), .val (.int n1), .val (.int cc), .val (.int xa), .val (.int xb), .val (.int ya), .val (.int yb), .val (.ref b8), .val (.int (1 : Int32)), .val (.int (1 : Int32)), .val (.int cc), .unset] [(.int (cc + (1 : Int32)))])) _
        refine XS.istore X29.here hx rfl (hb hby at_194) rfl (l' := #[.val (.int p1), .val (.int p2), .val (.int p3), .val (.int p4), .val (.int p5), .val (.int p6), .val (.int n1), .val (.int cc), .val (.int xa), .val (.int xb), .val (.int ya), .val (.int yb), .val (.ref b8), .val (.int (1 : Int32)), .val (.int (1 : Int32)), .val (.int (cc + (1 : Int32))), .unset]) rfl ?_
        show Steps p.tables e below (T29.setTop (mkF m 196 #[.val (.int p1), .val (.int p2), .val (.int p3), .val (.int p4), .val (.int p5), .val (.int p6), .val (.int n1), .val (.int cc), .val (.int xa), .val (.int xb), .val (.int ya), .val (.int yb), .val (.ref b8), .val (.int (1 : Int32)), .val (.int (1 : Int32)), .val (.int (cc + (1 : Int32))), .unset] [])) _
        refine XS.iload X29.here hx rfl (hb hby at_196) rfl ?_
        show Steps p.tables e below (T29.setTop (mkF m 198 #[.val (.int p1), .val (.int p2), .val (.int p3), .val (.int p4), .val (.int p5), .val (.int p6), .val (.int n1), .val (.int cc), .val (.int xa), .val (.int xb), .val (.int ya), .val (.int yb), .val (.ref b8), .val (.int (1 : Int32)), .val (.int (1 : Int32)), .val (.int (cc + (1 : Int32))), .unset] [(.int xb)])) _
        refine XS.iload X29.here hx rfl (hb hby at_198) rfl ?_
        exact kt
      by_cases c200_53 : xb < cc
      · have pre54 : ∀ tt, Steps p.tables e below (T29.setTop (mkF m 216 #[.val (.int p1), .val (.int p2), .val (.int p3), .val (.int p4), .val (.int p5), .val (.int p6), .val (.int n1), .val (.int cc), .val (.int xa), .val (.int xb), .val (.int ya), .val (.int yb), .val (.ref b8), .val (.int (1 : Int32)), .val (.int (1 : Int32)), .val (.int (cc + (1 : Int32))), .unset] [])) tt → Steps p.tables e below (T29.setTop (mkF m 183 #[.val (.int p1), .val (.int p2), .val (.int p3), .val (.int p4), .val (.int p5), .val (.int p6), .val (.int n1), .val (.int cc), .val (.int xa), .val (.int xb), .val (.int ya), .val (.int yb), .val (.ref b8), .val (.int (1 : Int32)), .val (.int (1 : Int32)), .val (.int cc), .unset] [])) tt := by
          intro tt kt
          refine pre52 tt ?_
          show Steps p.tables e below (T29.setTop (mkF m 200 #[.val (.int p1), .val (.int p2), .val (.int p3), .val (.int p4), .val (.int p5), .val (.int p6), .val (.int n1), .val (.int cc), .val (.int xa), .val (.int xb), .val (.int ya), .val (.int yb), .val (.ref b8), .val (.int (1 : Int32)), .val (.int (1 : Int32)), .val (.int (cc + (1 : Int32))), .unset] [(.int cc), (.int xb)])) _
          refine XS.icmpYes X29.here hx rfl (pc0 := 200) (pc' := 216) rfl (hb hby at_200) rfl (tlt c200_53).1 (by decide) (by decide) ?_
          exact kt
        refine ⟨T29, _, N29, X29, e29, fun tt kt => pre54 tt ?_⟩
        rw [show ex = (cc + (1 : Int32)) from by rw [hex]; unfold own_exp; simp [c187_44, c200_53]] at kt
        exact kt
      · have pre55 : ∀ tt, Steps p.tables e below (T29.setTop (mkF m 207 #[.val (.int p1), .val (.int p2), .val (.int p3), .val (.int p4), .val (.int p5), .val (.int p6), .val (.int n1), .val (.int cc), .val (.int xa), .val (.int xb), .val (.int ya), .val (.int yb), .val (.ref b8), .val (.int (1 : Int32)), .val (.int (1 : Int32)), .val (.int (cc + (1 : Int32))), .unset] [(.int xa), (.int xb)])) tt → Steps p.tables e below (T29.setTop (mkF m 183 #[.val (.int p1), .val (.int p2), .val (.int p3), .val (.int p4), .val (.int p5), .val (.int p6), .val (.int n1), .val (.int cc), .val (.int xa), .val (.int xb), .val (.int ya), .val (.int yb), .val (.ref b8), .val (.int (1 : Int32)), .val (.int (1 : Int32)), .val (.int cc), .unset] [])) tt := by
          intro tt kt
          refine pre52 tt ?_
          show Steps p.tables e below (T29.setTop (mkF m 200 #[.val (.int p1), .val (.int p2), .val (.int p3), .val (.int p4), .val (.int p5), .val (.int p6), .val (.int n1), .val (.int cc), .val (.int xa), .val (.int xb), .val (.int ya), .val (.int yb), .val (.ref b8), .val (.int (1 : Int32)), .val (.int (1 : Int32)), .val (.int (cc + (1 : Int32))), .unset] [(.int cc), (.int xb)])) _
          refine XS.icmpNo X29.here hx rfl (hb hby at_200) rfl (flt c200_53).1 ?_
          show Steps p.tables e below (T29.setTop (mkF m 203 #[.val (.int p1), .val (.int p2), .val (.int p3), .val (.int p4), .val (.int p5), .val (.int p6), .val (.int n1), .val (.int cc), .val (.int xa), .val (.int xb), .val (.int ya), .val (.int yb), .val (.ref b8), .val (.int (1 : Int32)), .val (.int (1 : Int32)), .val (.int (cc + (1 : Int32))), .unset] [])) _
          refine XS.iload X29.here hx rfl (hb hby at_203) rfl ?_
          show Steps p.tables e below (T29.setTop (mkF m 205 #[.val (.int p1), .val (.int p2), .val (.int p3), .val (.int p4), .val (.int p5), .val (.int p6), .val (.int n1), .val (.int cc), .val (.int xa), .val (.int xb), .val (.int ya), .val (.int yb), .val (.ref b8), .val (.int (1 : Int32)), .val (.int (1 : Int32)), .val (.int (cc + (1 : Int32))), .unset] [(.int xb)])) _
          refine XS.iload X29.here hx rfl (hb hby at_205) rfl ?_
          exact kt
        by_cases c207_56 : xb = xa
        · have pre57 : ∀ tt, Steps p.tables e below (T29.setTop (mkF m 216 #[.val (.int p1), .val (.int p2), .val (.int p3), .val (.int p4), .val (.int p5), .val (.int p6), .val (.int n1), .val (.int cc), .val (.int xa), .val (.int xb), .val (.int ya), .val (.int yb), .val (.ref b8), .val (.int (1 : Int32)), .val (.int (1 : Int32)), .val (.int (cc + (1 : Int32))), .unset] [])) tt → Steps p.tables e below (T29.setTop (mkF m 183 #[.val (.int p1), .val (.int p2), .val (.int p3), .val (.int p4), .val (.int p5), .val (.int p6), .val (.int n1), .val (.int cc), .val (.int xa), .val (.int xb), .val (.int ya), .val (.int yb), .val (.ref b8), .val (.int (1 : Int32)), .val (.int (1 : Int32)), .val (.int cc), .unset] [])) tt := by
            intro tt kt
            refine pre55 tt ?_
            show Steps p.tables e below (T29.setTop (mkF m 207 #[.val (.int p1), .val (.int p2), .val (.int p3), .val (.int p4), .val (.int p5), .val (.int p6), .val (.int n1), .val (.int cc), .val (.int xa), .val (.int xb), .val (.int ya), .val (.int yb), .val (.ref b8), .val (.int (1 : Int32)), .val (.int (1 : Int32)), .val (.int (cc + (1 : Int32))), .unset] [(.int xa), (.int xb)])) _
            refine XS.icmpYes X29.here hx rfl (pc0 := 207) (pc' := 216) rfl (hb hby at_207) rfl (teq c207_56).1 (by decide) (by decide) ?_
            exact kt
          refine ⟨T29, _, N29, X29, e29, fun tt kt => pre57 tt ?_⟩
          rw [show ex = (cc + (1 : Int32)) from by rw [hex]; unfold own_exp; simp [c187_44, c200_53, c207_56]] at kt
          exact kt
        · have pre58 : ∀ tt, Steps p.tables e below (T29.setTop (mkF m 216 #[.val (.int p1), .val (.int p2), .val (.int p3), .val (.int p4), .val (.int p5), .val (.int p6), .val (.int n1), .val (.int cc), .val (.int xa), .val (.int xb), .val (.int ya), .val (.int yb), .val (.ref b8), .val (.int (1 : Int32)), .val (.int (1 : Int32)), .val (.int ((cc + (1 : Int32)) + (1 : Int32))), .unset] [])) tt → Steps p.tables e below (T29.setTop (mkF m 183 #[.val (.int p1), .val (.int p2), .val (.int p3), .val (.int p4), .val (.int p5), .val (.int p6), .val (.int n1), .val (.int cc), .val (.int xa), .val (.int xb), .val (.int ya), .val (.int yb), .val (.ref b8), .val (.int (1 : Int32)), .val (.int (1 : Int32)), .val (.int cc), .unset] [])) tt := by
            intro tt kt
            refine pre55 tt ?_
            show Steps p.tables e below (T29.setTop (mkF m 207 #[.val (.int p1), .val (.int p2), .val (.int p3), .val (.int p4), .val (.int p5), .val (.int p6), .val (.int n1), .val (.int cc), .val (.int xa), .val (.int xb), .val (.int ya), .val (.int yb), .val (.ref b8), .val (.int (1 : Int32)), .val (.int (1 : Int32)), .val (.int (cc + (1 : Int32))), .unset] [(.int xa), (.int xb)])) _
            refine XS.icmpNo X29.here hx rfl (hb hby at_207) rfl (feq c207_56).1 ?_
            show Steps p.tables e below (T29.setTop (mkF m 210 #[.val (.int p1), .val (.int p2), .val (.int p3), .val (.int p4), .val (.int p5), .val (.int p6), .val (.int n1), .val (.int cc), .val (.int xa), .val (.int xb), .val (.int ya), .val (.int yb), .val (.ref b8), .val (.int (1 : Int32)), .val (.int (1 : Int32)), .val (.int (cc + (1 : Int32))), .unset] [])) _
            refine XS.iload X29.here hx rfl (hb hby at_210) rfl ?_
            show Steps p.tables e below (T29.setTop (mkF m 212 #[.val (.int p1), .val (.int p2), .val (.int p3), .val (.int p4), .val (.int p5), .val (.int p6), .val (.int n1), .val (.int cc), .val (.int xa), .val (.int xb), .val (.int ya), .val (.int yb), .val (.ref b8), .val (.int (1 : Int32)), .val (.int (1 : Int32)), .val (.int (cc + (1 : Int32))), .unset] [(.int (cc + (1 : Int32)))])) _
            refine XS.iconst X29.here hx rfl (hb hby at_212) ?_
            show Steps p.tables e below (T29.setTop (mkF m 213 #[.val (.int p1), .val (.int p2), .val (.int p3), .val (.int p4), .val (.int p5), .val (.int p6), .val (.int n1), .val (.int cc), .val (.int xa), .val (.int xb), .val (.int ya), .val (.int yb), .val (.ref b8), .val (.int (1 : Int32)), .val (.int (1 : Int32)), .val (.int (cc + (1 : Int32))), .unset] [(.int (1 : Int32)), (.int (cc + (1 : Int32)))])) _
            refine XS.iadd X29.here hx rfl (hb hby at_213) rfl ?_
            show Steps p.tables e below (T29.setTop (mkF m 214 #[.val (.int p1), .val (.int p2), .val (.int p3), .val (.int p4), .val (.int p5), .val (.int p6), .val (.int n1), .val (.int cc), .val (.int xa), .val (.int xb), .val (.int ya), .val (.int yb), .val (.ref b8), .val (.int (1 : Int32)), .val (.int (1 : Int32)), .val (.int (cc + (1 : Int32))), .unset] [(.int ((cc + (1 : Int32)) + (1 : Int32)))])) _
            refine XS.istore X29.here hx rfl (hb hby at_214) rfl (l' := #[.val (.int p1), .val (.int p2), .val (.int p3), .val (.int p4), .val (.int p5), .val (.int p6), .val (.int n1), .val (.int cc), .val (.int xa), .val (.int xb), .val (.int ya), .val (.int yb), .val (.ref b8), .val (.int (1 : Int32)), .val (.int (1 : Int32)), .val (.int ((cc + (1 : Int32)) + (1 : Int32))), .unset]) rfl ?_
            exact kt
          refine ⟨T29, _, N29, X29, e29, fun tt kt => pre58 tt ?_⟩
          rw [show ex = ((cc + (1 : Int32)) + (1 : Int32)) from by rw [hex]; unfold own_exp; simp [c187_44, c200_53, c207_56]] at kt
          exact kt
  have pre59 : ∀ tt, Steps p.tables e below (T42.setTop (mkF m 216 #[.val (.int p1), .val (.int p2), .val (.int p3), .val (.int p4), .val (.int p5), .val (.int p6), .val (.int n1), .val (.int cc), .val (.int xa), .val (.int xb), .val (.int ya), .val (.int yb), .val (.ref b8), .val (.int (1 : Int32)), .val (.int (1 : Int32)), .val (.int ex), .unset] [])) tt → Steps p.tables e below (s₁.setTop (entryFrame m #[(.int p1), (.int p2), (.int p3), (.int p4), (.int p5), (.int p6)] maxLocals)) tt := by
    intro tt kt
    refine pre41 tt ?_
    show Steps p.tables e below (T29.setTop (mkF m 183 #[.val (.int p1), .val (.int p2), .val (.int p3), .val (.int p4), .val (.int p5), .val (.int p6), .val (.int n1), .val (.int cc), .val (.int xa), .val (.int xb), .val (.int ya), .val (.int yb), .val (.ref b8), .val (.int (1 : Int32)), .val (.int (1 : Int32)), .val (.int cc), .unset] [])) _
    refine st42 _ ?_
    exact kt
  obtain ⟨cq60, kq60, q60a, q60b, q60c⟩ := isOf hZ e42 Ea12
  obtain ⟨_, _, ⟨T60, L60, k60, n60⟩, -, X60, ⟨Lc60, hQ60, l60, y60, z60⟩, st60⟩ := X42.virtualBack hx (y := (⟨"com/example/phase7/phase7/metadata/FieldSet", "size", "()I"⟩ : MethodName)) (z := (⟨"com/example/phase7/phase7/metadata/FieldSet", "size", "()I"⟩ : MethodName)) hown (mvT hZ (hw _ (List.mem_of_getElem? (i := 31) rfl))) (mvT hZ (hw _ (List.mem_of_getElem? (i := 32) rfl))) (notFace_of_selects (args := #[]) (mvT hZ (hw _ (List.mem_of_getElem? (i := 34) rfl)))) (mvT hZ (hw _ (List.mem_of_getElem? (i := 34) rfl))) (mvT hZ (hw _ (List.mem_of_getElem? (i := 33) rfl))) (by decide) (backOf (W := 0) (rmS l Z a0 hw [] b8 b9 kb9 z9 ex u0_12 u1_12 u2_12 u3_12 T12.heap n0 (Nat.le_trans (Nat.le_trans (Nat.le_trans (Nat.le_trans (Nat.le_trans Z0 E8.1) K9.1) K10.1) K11.1) K12.1) Ff12 Fg12 Vb12 rz ⟨byF1, byF2, byF3⟩ (own_szeq q_c2 (own_rng hn r_xa) (own_rng hn r_xb) hM hex)) hZ (hw _ (List.mem_of_getElem? (i := 35) rfl)) (hw _ (List.mem_of_getElem? (i := 3) rfl)) (by decide) (by decide)) q60a q60c (g := (mkF m 218 #[.val (.int p1), .val (.int p2), .val (.int p3), .val (.int p4), .val (.int p5), .val (.int p6), .val (.int n1), .val (.int cc), .val (.int xa), .val (.int xb), .val (.int ya), .val (.int yb), .val (.ref b8), .val (.int (1 : Int32)), .val (.int (1 : Int32)), .val (.int ex), .unset] [(.ref b8)])) rfl (by rw [hml]; rfl) (Steps.refl _) (argsL := []) (rest := []) (lenOf pd_rm0_2 rfl) rfl (by show 2 * 0 + _ ≤ _; exact Nat.le_of_eq rfl) (hb hby at_218) (fun _ _ => ⟨rfl, e42, (by decide : 2 + 0 ≤ _), (by decide : 5 + 0 ≤ _)⟩)
  dsimp only [Pt.U, Pt.locs, Pt.cells, Pt.slots] at X60 l60 y60 z60 st60 hQ60
  subst l60 y60 z60
  obtain ⟨rfl, N60q, hE60⟩ := hQ60
  have N60 := Fr.app N42 N60q
  have pre61 : ∀ tt, Steps p.tables e below (T60.setTop (mkF m 253 #[.val (.int p1), .val (.int p2), .val (.int p3), .val (.int p4), .val (.int p5), .val (.int p6), .val (.int n1), .val (.int cc), .val (.int xa), .val (.int xb), .val (.int ya), .val (.int yb), .val (.ref b8), .val (.int (1 : Int32)), .val (.int (1 : Int32)), .val (.int ex), .val (.int (1 : Int32))] [(.int (1 : Int32))])) tt → Steps p.tables e below (s₁.setTop (entryFrame m #[(.int p1), (.int p2), (.int p3), (.int p4), (.int p5), (.int p6)] maxLocals)) tt := by
    intro tt kt
    refine pre59 tt ?_
    show Steps p.tables e below (T42.setTop (mkF m 216 #[.val (.int p1), .val (.int p2), .val (.int p3), .val (.int p4), .val (.int p5), .val (.int p6), .val (.int n1), .val (.int cc), .val (.int xa), .val (.int xb), .val (.int ya), .val (.int yb), .val (.ref b8), .val (.int (1 : Int32)), .val (.int (1 : Int32)), .val (.int ex), .unset] [])) _
    refine XS.aload X42.here hx rfl (hb hby at_216) rfl rfl ?_
    show Steps p.tables e below (T42.setTop (mkF m 218 #[.val (.int p1), .val (.int p2), .val (.int p3), .val (.int p4), .val (.int p5), .val (.int p6), .val (.int n1), .val (.int cc), .val (.int xa), .val (.int xb), .val (.int ya), .val (.int yb), .val (.ref b8), .val (.int (1 : Int32)), .val (.int (1 : Int32)), .val (.int ex), .unset] [(.ref b8)])) _
    refine st60.trans ?_
    show Steps p.tables e below (T60.setTop (mkF m 221 #[.val (.int p1), .val (.int p2), .val (.int p3), .val (.int p4), .val (.int p5), .val (.int p6), .val (.int n1), .val (.int cc), .val (.int xa), .val (.int xb), .val (.int ya), .val (.int yb), .val (.ref b8), .val (.int (1 : Int32)), .val (.int (1 : Int32)), .val (.int ex), .unset] [(.int ex)])) _
    refine XS.iload X60.here hx rfl (hb hby at_221) rfl ?_
    show Steps p.tables e below (T60.setTop (mkF m 223 #[.val (.int p1), .val (.int p2), .val (.int p3), .val (.int p4), .val (.int p5), .val (.int p6), .val (.int n1), .val (.int cc), .val (.int xa), .val (.int xb), .val (.int ya), .val (.int yb), .val (.ref b8), .val (.int (1 : Int32)), .val (.int (1 : Int32)), .val (.int ex), .unset] [(.int ex), (.int ex)])) _
    refine XS.icmpNo X60.here hx rfl (hb hby at_223) rfl (teq (rfl : ex = ex)).2 ?_
    show Steps p.tables e below (T60.setTop (mkF m 226 #[.val (.int p1), .val (.int p2), .val (.int p3), .val (.int p4), .val (.int p5), .val (.int p6), .val (.int n1), .val (.int cc), .val (.int xa), .val (.int xb), .val (.int ya), .val (.int yb), .val (.ref b8), .val (.int (1 : Int32)), .val (.int (1 : Int32)), .val (.int ex), .unset] [])) _
    refine XS.iconst X60.here hx rfl (hb hby at_226) ?_
    show Steps p.tables e below (T60.setTop (mkF m 227 #[.val (.int p1), .val (.int p2), .val (.int p3), .val (.int p4), .val (.int p5), .val (.int p6), .val (.int n1), .val (.int cc), .val (.int xa), .val (.int xb), .val (.int ya), .val (.int yb), .val (.ref b8), .val (.int (1 : Int32)), .val (.int (1 : Int32)), .val (.int ex), .unset] [(.int (1 : Int32))])) _
    refine XS.goto X60.here hx rfl (pc0 := 227) (pc' := 231) rfl (hb hby at_227) (by decide) (by decide) ?_
    show Steps p.tables e below (T60.setTop (mkF m 231 #[.val (.int p1), .val (.int p2), .val (.int p3), .val (.int p4), .val (.int p5), .val (.int p6), .val (.int n1), .val (.int cc), .val (.int xa), .val (.int xb), .val (.int ya), .val (.int yb), .val (.ref b8), .val (.int (1 : Int32)), .val (.int (1 : Int32)), .val (.int ex), .unset] [(.int (1 : Int32))])) _
    refine XS.istore X60.here hx rfl (hb hby at_231) rfl (l' := #[.val (.int p1), .val (.int p2), .val (.int p3), .val (.int p4), .val (.int p5), .val (.int p6), .val (.int n1), .val (.int cc), .val (.int xa), .val (.int xb), .val (.int ya), .val (.int yb), .val (.ref b8), .val (.int (1 : Int32)), .val (.int (1 : Int32)), .val (.int ex), .val (.int (1 : Int32))]) rfl ?_
    show Steps p.tables e below (T60.setTop (mkF m 233 #[.val (.int p1), .val (.int p2), .val (.int p3), .val (.int p4), .val (.int p5), .val (.int p6), .val (.int n1), .val (.int cc), .val (.int xa), .val (.int xb), .val (.int ya), .val (.int yb), .val (.ref b8), .val (.int (1 : Int32)), .val (.int (1 : Int32)), .val (.int ex), .val (.int (1 : Int32))] [])) _
    refine XS.iload X60.here hx rfl (hb hby at_233) rfl ?_
    show Steps p.tables e below (T60.setTop (mkF m 235 #[.val (.int p1), .val (.int p2), .val (.int p3), .val (.int p4), .val (.int p5), .val (.int p6), .val (.int n1), .val (.int cc), .val (.int xa), .val (.int xb), .val (.int ya), .val (.int yb), .val (.ref b8), .val (.int (1 : Int32)), .val (.int (1 : Int32)), .val (.int ex), .val (.int (1 : Int32))] [(.int (1 : Int32))])) _
    refine XS.ifNo X60.here hx rfl (hb hby at_235) rfl ((if0 _ _).trans (feq (by decide : ¬ ((1 : Int32) = (0 : Int32)))).1) ?_
    show Steps p.tables e below (T60.setTop (mkF m 238 #[.val (.int p1), .val (.int p2), .val (.int p3), .val (.int p4), .val (.int p5), .val (.int p6), .val (.int n1), .val (.int cc), .val (.int xa), .val (.int xb), .val (.int ya), .val (.int yb), .val (.ref b8), .val (.int (1 : Int32)), .val (.int (1 : Int32)), .val (.int ex), .val (.int (1 : Int32))] [])) _
    refine XS.iload X60.here hx rfl (hb hby at_238) rfl ?_
    show Steps p.tables e below (T60.setTop (mkF m 240 #[.val (.int p1), .val (.int p2), .val (.int p3), .val (.int p4), .val (.int p5), .val (.int p6), .val (.int n1), .val (.int cc), .val (.int xa), .val (.int xb), .val (.int ya), .val (.int yb), .val (.ref b8), .val (.int (1 : Int32)), .val (.int (1 : Int32)), .val (.int ex), .val (.int (1 : Int32))] [(.int (1 : Int32))])) _
    refine XS.ifNo X60.here hx rfl (hb hby at_240) rfl ((if0 _ _).trans (feq (by decide : ¬ ((1 : Int32) = (0 : Int32)))).1) ?_
    show Steps p.tables e below (T60.setTop (mkF m 243 #[.val (.int p1), .val (.int p2), .val (.int p3), .val (.int p4), .val (.int p5), .val (.int p6), .val (.int n1), .val (.int cc), .val (.int xa), .val (.int xb), .val (.int ya), .val (.int yb), .val (.ref b8), .val (.int (1 : Int32)), .val (.int (1 : Int32)), .val (.int ex), .val (.int (1 : Int32))] [])) _
    refine XS.iload X60.here hx rfl (hb hby at_243) rfl ?_
    show Steps p.tables e below (T60.setTop (mkF m 245 #[.val (.int p1), .val (.int p2), .val (.int p3), .val (.int p4), .val (.int p5), .val (.int p6), .val (.int n1), .val (.int cc), .val (.int xa), .val (.int xb), .val (.int ya), .val (.int yb), .val (.ref b8), .val (.int (1 : Int32)), .val (.int (1 : Int32)), .val (.int ex), .val (.int (1 : Int32))] [(.int (1 : Int32))])) _
    refine XS.ifNo X60.here hx rfl (hb hby at_245) rfl ((if0 _ _).trans (feq (by decide : ¬ ((1 : Int32) = (0 : Int32)))).1) ?_
    show Steps p.tables e below (T60.setTop (mkF m 248 #[.val (.int p1), .val (.int p2), .val (.int p3), .val (.int p4), .val (.int p5), .val (.int p6), .val (.int n1), .val (.int cc), .val (.int xa), .val (.int xb), .val (.int ya), .val (.int yb), .val (.ref b8), .val (.int (1 : Int32)), .val (.int (1 : Int32)), .val (.int ex), .val (.int (1 : Int32))] [])) _
    refine XS.iconst X60.here hx rfl (hb hby at_248) ?_
    show Steps p.tables e below (T60.setTop (mkF m 249 #[.val (.int p1), .val (.int p2), .val (.int p3), .val (.int p4), .val (.int p5), .val (.int p6), .val (.int n1), .val (.int cc), .val (.int xa), .val (.int xb), .val (.int ya), .val (.int yb), .val (.ref b8), .val (.int (1 : Int32)), .val (.int (1 : Int32)), .val (.int ex), .val (.int (1 : Int32))] [(.int (1 : Int32))])) _
    refine XS.goto X60.here hx rfl (pc0 := 249) (pc' := 253) rfl (hb hby at_249) (by decide) (by decide) ?_
    exact kt
  obtain ⟨fs, hr, hrun, hended, hW, hsame⟩ := X60.leave (v := some (.int (1 : Int32))) (fun h => by rw [Bd.returns] at h; cases h)
  refine ⟨_, _, pre61 _ ?_, hrun, hended, _, _, rfl, ?_, ⟨_, rfl⟩, hW, hsame.mono (by decide) (by decide)⟩
  · show Steps p.tables e below (T60.setTop (mkF m 253 #[.val (.int p1), .val (.int p2), .val (.int p3), .val (.int p4), .val (.int p5), .val (.int p6), .val (.int n1), .val (.int cc), .val (.int xa), .val (.int xb), .val (.int ya), .val (.int yb), .val (.ref b8), .val (.int (1 : Int32)), .val (.int (1 : Int32)), .val (.int ex), .val (.int (1 : Int32))] [(.int (1 : Int32))])) _
    exact retN X60 hx (t := .boolean) Bd.returns (by simp) (hb hby at_253) hr
  · show Q0 Z h0 n0 _ T60.heap _
    rw [hE60]
    exact ⟨rfl, N60⟩
set_option maxRecDepth 65536 in
set_option maxHeartbeats 40000000 in
theorem comes_1 {Post : Tables → Env → Array Value → State → Outcome → State → Prop} (hpost : ∀ tb e args s v u, (limb_1_1.after args s (.returned v) u = true ∧ limb_1_2.after args s (.returned v) u = true ∧ True) → FrameEnd s (.returned v) u (Jvm.fieldLocs frame_1_writes args s ++ Jvm.arrayLocs frame_1_arrays args s ++ Jvm.staticLocs frame_1_statics s) 16 128 → Post tb e args s (.returned v) u) :
    ArmFor flags0 classFile x code maxLocals ret World_1 tables_1 room_1 Calls_1 rest_1 Pre_1 Post := by
  intro l hfl _ _ p e ha hc hk s m args below hf hA hF happ hP
  obtain ⟨hcalls, hrest, hpre⟩ := hP
  obtain ⟨-, -, -, hnamed, -, -, -, hat⟩ := (Spec.applies_iff hf).mp happ
  obtain ⟨hg, hn⟩ := and_e (Cond.before_iff.mp (show (Jvm.Cond.and given_1 narrow_1).before args s = true from hpre))
  have hw := fun d (hd : d ∈ tables_1) => atoms_spec (ws := Jvm.Cond.code x code maxLocals ret :: tables_1) hat d (List.mem_cons_of_mem _ hd)
  obtain ⟨g1a, g1b⟩ := and_e hg
  obtain ⟨g2a, g2b⟩ := and_e g1b
  obtain ⟨g3a, g3b⟩ := and_e g2b
  obtain ⟨g4a, g4b⟩ := and_e g3b
  obtain ⟨g5a, g5b⟩ := and_e g4b
  obtain ⟨g6a, g6b⟩ := and_e g5b
  obtain ⟨w0, w1, w2, w3, w4, w5, rfl⟩ : ∃ w0 w1 w2 w3 w4 w5 : Value, args = #[w0, w1, w2, w3, w4, w5] := by
    have hs : args.size = 6 := by simpa [Cond.value, given_1] using g1a
    obtain ⟨L⟩ := args
    match L, hs with
    | [w0, w1, w2, w3, w4, w5], _ => exact ⟨w0, w1, w2, w3, w4, w5, rfl⟩
  have hfit : Fit s := fun {y c} hc i hi => by
    obtain ⟨ha, rfl⟩ := Array.getElem?_eq_some_iff.mp hc
    have q := List.all_eq_true.mp ((Array.all_eq_true_iff_forall_mem.mp hF) _ (Array.getElem_mem ha)) i (List.mem_range.mpr hi)
    simpa [Array.getElem?_eq_getElem hi] using q
  obtain ⟨i0, ei0⟩ := is_v g2a
  obtain rfl : w0 = (.int i0) := Option.some.inj ei0
  obtain ⟨i1, ei1⟩ := is_v g3a
  obtain rfl : w1 = (.int i1) := Option.some.inj ei1
  obtain ⟨i2, ei2⟩ := is_v g4a
  obtain rfl : w2 = (.int i2) := Option.some.inj ei2
  obtain ⟨i3, ei3⟩ := is_v g5a
  obtain rfl : w3 = (.int i3) := Option.some.inj ei3
  obtain ⟨i4, ei4⟩ := is_v g6a
  obtain rfl : w4 = (.int i4) := Option.some.inj ei4
  obtain ⟨i5, ei5⟩ := is_v g6b
  obtain rfl : w5 = (.int i5) := Option.some.inj ei5
  obtain ⟨n1a, n1b⟩ := and_e hn
  obtain ⟨w_NO_WORDS, ev_NO_WORDS⟩ := arr_v n1a
  have S_NO_WORDS := Sta.start ev_NO_WORDS (Or.inr ⟨(hw _ (List.mem_of_getElem? (i := 3) rfl)), (hw _ (List.mem_of_getElem? (i := 11) rfl))⟩)
  obtain ⟨cl_NO_WORDS, A_NO_WORDS⟩ := Arr.start ev_NO_WORDS n1a
  have l_NO_WORDS := own_len ev_NO_WORDS A_NO_WORDS n1b
  have lt_NO_WORDS := own_lenlt ev_NO_WORDS A_NO_WORDS n1b
  have V_N : Arv s s.heap w_NO_WORDS cl_NO_WORDS.cls .long (0 : Int32) [(.long (0 : Int64)), (.long (0 : Int64)), (.long (0 : Int64))] (.long (0 : Int64)) := by
    have q : Arv s s.heap w_NO_WORDS cl_NO_WORDS.cls .long (0 : Int32) [] (.long (0 : Int64)) := Arv.start hfit A_NO_WORDS lt_NO_WORDS l_NO_WORDS (by decide) rfl trivial
    exact q.pad (pad_rep [] _ 3)
  obtain ⟨n, o, h1, h2, h3, _, L, rfl, ⟨rfl, N⟩, hq⟩ := rm0 l s _ hw tables_1 i0 i1 i2 i3 i4 i5 w_NO_WORDS cl_NO_WORDS.cls s.heap s.heap.size (Nat.le_refl _) S_NO_WORDS V_N p e ha hc hk s m _ below hf ((Spec.applies_iff_loose hf).mp happ).1 ⟨rfl, State.Warmed39.refl s, rfl⟩ trivial
  refine ⟨n, _, h1, h2, h3, hpost _ _ _ _ _ _ ⟨Cond.after_iff.mpr rfl, Cond.after_iff.mpr (eq_i res_at (Term.int_eval (1)) rfl), trivial⟩ ⟨hq.1, hq.2.1, (hq.2.2.sift fun y hy => Or.inr (N y hy)).mono (by decide) (by decide)⟩⟩
theorem main_1_1 : Claimed_1_1 := comes_1 fun _ _ _ _ _ _ h hF => ⟨h.1, hF⟩
theorem main_1_2 : Claimed_1_2 := comes_1 fun _ _ _ _ _ _ h hF => ⟨h.2.1, hF⟩
end Jvm.Pilot.@@N@@
namespace Jvm.Pilot.@@N@@
open Jvm Jvm.ClassFile Sem Op Lib Jvm.Free Jvm.Stand Jvm.Pilot.@@N@@.Jvm.D
/-! MADE BY PROGRAM (witnessworld.py) out of the Statement's table words and the real class files: 16 classes; the members and pool entries that the words name. The judged class is class 1, her method 1. -/
namespace start1
open Jvm.ClassFile
def u (s : String) : CpInfo := .utf8 (stringToUtf16 s)
/-- a pool by its gaps: so many unusable entries, then the entry; so many at the end -/
def gap : Nat → List CpInfo → List CpInfo
  | 0, r => r
  | n + 1, r => .unusable :: gap n r
def poolList (es : List (Nat × CpInfo)) (last : Nat) : List CpInfo := es.foldr (fun e r => gap e.1 (e.2 :: r)) (gap last [])
def pool (es : List (Nat × CpInfo)) (last : Nat) : Array CpInfo := ⟨poolList es last⟩
def fileOf (pool : Array CpInfo) (this : Nat) (attrs : Array Attribute := #[]) (ms : Array MethodInfo := #[]) (fl : Nat := 33) (sup : Nat := 0) (ifs : Array Nat := #[]) (fds : Array FieldInfo := #[]) : ClassFile where
  minorVersion := 0
  majorVersion := 65
  constantPool := pool
  accessFlags := fl
  thisClass := this
  superClass := sup
  interfaces := ifs
  fields := fds
  methods := ms
  attributes := attrs
def plain (name : String) (sup : Option ClassId) : Class where
  name := name
  kind := .ordinary
  loader := none
  accessFlags := 33
  super := sup
  interfaces := #[]
  cf := none
  fields := #[]
  methods := #[]
  instanceTypes := #[]
  staticTypes := #[]
  resolved := #[]
  callSites := []
  init := .initialized
  statics := none
  mirror := none

def pool0 : Array CpInfo := pool [(5, u "<init>"), (0, u "()V"), (1, .class_ 10), (1, u "java/lang/Object")] 113

def k0c0 : Code := { maxStack := 0, maxLocals := 1, code := object_method_1_code, exceptionTable := #[], attributes := #[] }
def k0m0 : Method := { name := "<init>", desc := "()V", sig := { parameters := [], returnType := none }, accessFlags := 1, code := some k0c0 }
/-- java/lang/Object -/
def k0 : Class := { plain "java/lang/Object" none with
  accessFlags := 33
  interfaces := #[]
  cf := some (fileOf pool0 8 #[] #[{ accessFlags := 1, nameIndex := 5, descriptorIndex := 6, attributes := #[] }] 33 0 #[] #[])
  fields := #[]
  methods := #[k0m0]
  instanceTypes := #[]
  staticTypes := #[]
  resolved := Array.replicate 124 none
  statics := none }

def pool1 : Array CpInfo := pool [(2, .class_ 4), (1, u "java/lang/Object"), (0, u "<init>"), (0, u "()V"), (0, .integer 2147483647), (0, .class_ 9), (0, u "com/example/phase7/phase7/metadata/FieldSet"), (0, .methodref 8 11), (0, .nameAndType 5 12), (0, u "(I)V"), (0, .methodref 8 14), (0, .nameAndType 15 12), (0, u "add"), (0, .methodref 8 17), (0, .nameAndType 18 12), (0, u "addFirst"), (0, .methodref 8 20), (0, .nameAndType 21 22), (0, u "contains"), (0, u "(I)Z"), (0, .methodref 8 24), (0, .nameAndType 25 26), (0, u "size"), (0, u "()I"), (0, .class_ 28), (0, u "com/example/phase7/phase7/metadata/FieldSetAddFirstPinLaw"), (2, u "law"), (0, u "(IIIIII)Z")] 3

def k1m0 : Method := { name := "<init>", desc := "()V", sig := { parameters := [], returnType := none }, accessFlags := 1, code := none }
def k1c1 : Code := { maxStack := 3, maxLocals := 17, code := code, exceptionTable := #[], attributes := #[] }
def k1m1 : Method := { name := "law", desc := "(IIIIII)Z", sig := { parameters := [.int, .int, .int, .int, .int, .int], returnType := some .boolean }, accessFlags := 9, code := some k1c1 }
/-- com/example/phase7/phase7/metadata/FieldSetAddFirstPinLaw -/
def k1 : Class := { plain "com/example/phase7/phase7/metadata/FieldSetAddFirstPinLaw" (some 0) with
  accessFlags := 49
  interfaces := #[]
  cf := some (fileOf pool1 27 #[] #[{ accessFlags := 1, nameIndex := 5, descriptorIndex := 6, attributes := #[] }, { accessFlags := 9, nameIndex := 31, descriptorIndex := 32, attributes := #[] }] 49 2 #[] #[])
  fields := #[]
  methods := #[k1m0, k1m1]
  instanceTypes := #[]
  staticTypes := #[]
  resolved := Array.replicate 36 none
  statics := none }

def pool2 : Array CpInfo := pool [(1, .class_ 2), (0, u "java/lang/Long"), (0, .methodref 4 5), (0, .class_ 6), (0, .nameAndType 7 8), (0, u "java/lang/Object"), (0, u "<init>"), (0, u "()V"), (0, .class_ 10), (0, u "com/example/phase7/phase7/metadata/FieldSet"), (0, .fieldref 9 12), (0, .nameAndType 13 14), (0, u "NO_WORDS"), (0, u "[J"), (0, .fieldref 9 16), (0, .nameAndType 17 14), (0, u "further"), (0, .fieldref 9 19), (0, .nameAndType 20 21), (0, u "first"), (0, u "J"), (0, .long 18446744073709551615), (7, .methodref 1 31), (0, .nameAndType 32 33), (0, u "bitCount"), (0, u "(J)I"), (9, u "size"), (0, u "()I"), (22, u "WORD"), (0, u "I"), (2, u "(I)V"), (3, u "contains"), (0, u "(I)Z"), (0, u "add"), (1, u "addFirst")] 15

def k2c0 : Code := { maxStack := 3, maxLocals := 2, code := prog_6_method_1_code, exceptionTable := #[], attributes := #[] }
def k2m0 : Method := { name := "<init>", desc := "(I)V", sig := { parameters := [.int], returnType := none }, accessFlags := 1, code := some k2c0 }
def k2c1 : Code := { maxStack := 5, maxLocals := 3, code := prog_6_method_3_code, exceptionTable := #[], attributes := #[] }
def k2m1 : Method := { name := "contains", desc := "(I)Z", sig := { parameters := [.int], returnType := some .boolean }, accessFlags := 1, code := some k2c1 }
def k2c2 : Code := { maxStack := 7, maxLocals := 2, code := prog_6_method_4_code, exceptionTable := #[], attributes := #[] }
def k2m2 : Method := { name := "add", desc := "(I)V", sig := { parameters := [.int], returnType := none }, accessFlags := 1, code := some k2c2 }
def k2c3 : Code := { maxStack := 8, maxLocals := 4, code := prog_6_method_6_code, exceptionTable := #[], attributes := #[] }
def k2m3 : Method := { name := "addFirst", desc := "(I)V", sig := { parameters := [.int], returnType := none }, accessFlags := 1, code := some k2c3 }
def k2c4 : Code := { maxStack := 3, maxLocals := 7, code := prog_6_method_10_code, exceptionTable := #[], attributes := #[] }
def k2m4 : Method := { name := "size", desc := "()I", sig := { parameters := [], returnType := some .int }, accessFlags := 1, code := some k2c4 }
/-- com/example/phase7/phase7/metadata/FieldSet -/
def k2 : Class := { plain "com/example/phase7/phase7/metadata/FieldSet" (some 0) with
  accessFlags := 49
  interfaces := #[]
  cf := some (fileOf pool2 9 #[] #[{ accessFlags := 1, nameIndex := 7, descriptorIndex := 71, attributes := #[] }, { accessFlags := 1, nameIndex := 75, descriptorIndex := 76, attributes := #[] }, { accessFlags := 1, nameIndex := 77, descriptorIndex := 71, attributes := #[] }, { accessFlags := 1, nameIndex := 79, descriptorIndex := 71, attributes := #[] }, { accessFlags := 1, nameIndex := 43, descriptorIndex := 44, attributes := #[] }] 49 4 #[] #[{ accessFlags := 26, nameIndex := 67, descriptorIndex := 68, attributes := #[] }, { accessFlags := 26, nameIndex := 13, descriptorIndex := 14, attributes := #[] }, { accessFlags := 2, nameIndex := 20, descriptorIndex := 21, attributes := #[] }, { accessFlags := 18, nameIndex := 17, descriptorIndex := 14, attributes := #[] }])
  fields := #[{ name := "WORD", type := .int, accessFlags := 26, slot := 0, constantValue := 0 }, { name := "NO_WORDS", type := (.array .long), accessFlags := 26, slot := 1, constantValue := 0 }, { name := "first", type := .long, accessFlags := 2, slot := 0, constantValue := 0 }, { name := "further", type := (.array .long), accessFlags := 18, slot := 1, constantValue := 0 }]
  methods := #[k2m0, k2m1, k2m2, k2m3, k2m4]
  instanceTypes := #[.long, (.array .long)]
  staticTypes := #[.int, (.array .long)]
  resolved := Array.replicate 95 none
  statics := some 0 }

def pool3 : Array CpInfo := pool [(1, .class_ 2), (0, u "java/io/Serializable"), (0, .class_ 4), (0, u "java/lang/Object")] 2

/-- java/io/Serializable -/
def k3 : Class := { plain "java/io/Serializable" (some 0) with
  accessFlags := 1537
  interfaces := #[]
  cf := some (fileOf pool3 1 #[] #[] 1537 3 #[] #[])
  fields := #[]
  methods := #[]
  instanceTypes := #[]
  staticTypes := #[]
  resolved := Array.replicate 7 none
  statics := none }

def pool4 : Array CpInfo := pool [(2, .class_ 4), (1, u "java/lang/Object"), (0, u "<init>"), (0, u "()V"), (1, .class_ 10), (1, u "java/lang/Number"), (2, .class_ 14), (0, u "java/io/Serializable"), (0, u "serialVersionUID"), (0, u "J")] 20

def k4m0 : Method := { name := "<init>", desc := "()V", sig := { parameters := [], returnType := none }, accessFlags := 1, code := none }
/-- java/lang/Number -/
def k4 : Class := { plain "java/lang/Number" (some 0) with
  accessFlags := 1057
  interfaces := #[3]
  cf := some (fileOf pool4 8 #[] #[{ accessFlags := 1, nameIndex := 5, descriptorIndex := 6, attributes := #[] }] 1057 2 #[13] #[{ accessFlags := 26, nameIndex := 15, descriptorIndex := 16, attributes := #[] }])
  fields := #[{ name := "serialVersionUID", type := .long, accessFlags := 26, slot := 0, constantValue := 0 }]
  methods := #[k4m0]
  instanceTypes := #[]
  staticTypes := #[.long]
  resolved := Array.replicate 37 none
  statics := none }

def pool5 : Array CpInfo := pool [(1, .class_ 2), (0, u "java/lang/Comparable"), (0, .class_ 4), (0, u "java/lang/Object")] 7

/-- java/lang/Comparable -/
def k5 : Class := { plain "java/lang/Comparable" (some 0) with
  accessFlags := 1537
  interfaces := #[]
  cf := some (fileOf pool5 1 #[] #[] 1537 3 #[] #[])
  fields := #[]
  methods := #[]
  instanceTypes := #[]
  staticTypes := #[]
  resolved := Array.replicate 12 none
  statics := none }

def pool6 : Array CpInfo := pool [(1, .class_ 2), (0, u "java/lang/constant/Constable"), (0, .class_ 4), (0, u "java/lang/Object")] 6

/-- java/lang/constant/Constable -/
def k6 : Class := { plain "java/lang/constant/Constable" (some 0) with
  accessFlags := 1537
  interfaces := #[]
  cf := some (fileOf pool6 1 #[] #[] 1537 3 #[] #[])
  fields := #[]
  methods := #[]
  instanceTypes := #[]
  staticTypes := #[]
  resolved := Array.replicate 11 none
  statics := none }

def pool7 : Array CpInfo := pool [(1, .class_ 2), (0, u "java/lang/constant/ConstantDesc"), (0, .class_ 4), (0, u "java/lang/Object")] 32

/-- java/lang/constant/ConstantDesc -/
def k7 : Class := { plain "java/lang/constant/ConstantDesc" (some 0) with
  accessFlags := 1537
  interfaces := #[]
  cf := some (fileOf pool7 1 #[] #[] 1537 3 #[] #[])
  fields := #[]
  methods := #[]
  instanceTypes := #[]
  staticTypes := #[]
  resolved := Array.replicate 37 none
  statics := none }

def pool8 : Array CpInfo := pool [(1, .class_ 2), (0, u "java/lang/Long"), (98, u "(J)I"), (133, .class_ 237), (1, u "java/lang/Long$LongCache"), (33, .class_ 272), (0, u "java/lang/Number"), (2, u "value"), (0, u "J"), (37, .long 6148914691236517205), (1, .long 3689348814741910323), (1, .long 1085102592571150095), (42, u "TYPE"), (0, u "Ljava/lang/Class;"), (0, .class_ 364), (0, u "java/lang/Comparable"), (0, .class_ 366), (0, u "java/lang/constant/Constable"), (0, .class_ 368), (0, u "java/lang/constant/ConstantDesc"), (0, u "MIN_VALUE"), (1, u "MAX_VALUE"), (4, u "SIZE"), (0, u "I"), (1, u "BYTES"), (1, u "serialVersionUID"), (94, u "bitCount")] 47

def k8c0 : Code := { maxStack := 6, maxLocals := 2, code := jdk_35_method_50_code, exceptionTable := #[], attributes := #[] }
def k8m0 : Method := { name := "bitCount", desc := "(J)I", sig := { parameters := [.long], returnType := some .int }, accessFlags := 9, code := some k8c0 }
/-- java/lang/Long -/
def k8 : Class := { plain "java/lang/Long" (some 4) with
  accessFlags := 49
  interfaces := #[5, 6, 7]
  cf := some (fileOf pool8 1 #[.nestMembers #[235]] #[{ accessFlags := 9, nameIndex := 476, descriptorIndex := 101, attributes := #[] }] 49 271 #[363, 365, 367] #[{ accessFlags := 25, nameIndex := 369, descriptorIndex := 276, attributes := #[] }, { accessFlags := 25, nameIndex := 371, descriptorIndex := 276, attributes := #[] }, { accessFlags := 25, nameIndex := 361, descriptorIndex := 362, attributes := #[] }, { accessFlags := 18, nameIndex := 275, descriptorIndex := 276, attributes := #[] }, { accessFlags := 25, nameIndex := 376, descriptorIndex := 377, attributes := #[] }, { accessFlags := 25, nameIndex := 379, descriptorIndex := 377, attributes := #[] }, { accessFlags := 26, nameIndex := 381, descriptorIndex := 276, attributes := #[] }])
  fields := #[{ name := "MIN_VALUE", type := .long, accessFlags := 25, slot := 0, constantValue := 0 }, { name := "MAX_VALUE", type := .long, accessFlags := 25, slot := 1, constantValue := 0 }, { name := "TYPE", type := (.object "java/lang/Class"), accessFlags := 25, slot := 2, constantValue := 0 }, { name := "value", type := .long, accessFlags := 18, slot := 0, constantValue := 0 }, { name := "SIZE", type := .int, accessFlags := 25, slot := 3, constantValue := 0 }, { name := "BYTES", type := .int, accessFlags := 25, slot := 4, constantValue := 0 }, { name := "serialVersionUID", type := .long, accessFlags := 26, slot := 5, constantValue := 0 }]
  methods := #[k8m0]
  instanceTypes := #[.long]
  staticTypes := #[.long, .long, (.object "java/lang/Class"), .int, .int, .long]
  resolved := Array.replicate 524 none
  statics := none }

def pool9 : Array CpInfo := pool [(1, u "java/lang/Cloneable"), (0, .class_ 1), (0, u "java/lang/Object"), (0, .class_ 3)] 3

/-- java/lang/Cloneable -/
def k9 : Class := { plain "java/lang/Cloneable" (some 0) with
  accessFlags := 1537
  interfaces := #[]
  cf := some (fileOf pool9 2 #[] #[] 1537 4 #[] #[])
  fields := #[]
  methods := #[]
  instanceTypes := #[]
  staticTypes := #[]
  resolved := Array.replicate 8 none
  statics := none }

/-- the primitive byte -/
def k10 : Class := { plain "byte" none with kind := .primitive 'B', accessFlags := 0x411 }
/-- [B -/
def k11 : Class := { plain "[B" (some 0) with kind := .array 10 .byte, interfaces := #[9, 3], accessFlags := 1041 }

/-- the primitive int -/
def k12 : Class := { plain "int" none with kind := .primitive 'I', accessFlags := 0x411 }
/-- [I -/
def k13 : Class := { plain "[I" (some 0) with kind := .array 12 .int, interfaces := #[9, 3], accessFlags := 1041 }

/-- the primitive long -/
def k14 : Class := { plain "long" none with kind := .primitive 'J', accessFlags := 0x411 }
/-- [J -/
def k15 : Class := { plain "[J" (some 0) with kind := .array 14 .long, interfaces := #[9, 3], accessFlags := 1041 }

def heap : Heap := #[{ cls := 2, slots := #[.int 0, .ref 1], vm := .statics 2 },
  { cls := 15, slots := #[], vm := .none }]
def classes : Array Class := #[k0, k1, k2, k3, k4, k5, k6, k7, k8, k9, k10, k11, k12, k13, k14, k15]
def interned : List (Array UInt16 × Addr) := []
def slotsUsed : Nat := 2
def theMethod : MethodId := ⟨1, 1⟩
def args0 : Array Value := #[.int 1, .int 2, .int 3, .int 4, .int 5, .int 6]
def aboutOver (below : List Frame) : State where
  vm := { classes := classes, interned := interned.toArray }
  heap := heap
  slotsUsed := slotsUsed
  threads := #[{ frames := .invoking theMethod args0 :: below }]
def below0 : List Frame := [.native { method := ⟨0, 0⟩, args := #[] }]
def about1 : State := aboutOver below0
def p0 : Program := .bare "" "" ""
def e0 : Env := launch0.env 0 0 0
theorem w_frames : about1.frames = Frame.invoking theMethod args0 :: below0 := rfl
set_option maxRecDepth 65536 in
theorem w_args : argsFit about1.vm theMethod args0 = true := by decide +kernel
set_option maxRecDepth 65536 in
theorem w_heap : heapFits about1 = true := by decide +kernel
set_option maxRecDepth 65536 in
theorem w_runnable : about1.curStatus? = some .runnable := by decide +kernel
set_option maxRecDepth 65536 in
theorem w_alone : about1.alone = true := by decide +kernel
set_option maxRecDepth 65536 in
theorem w_named : about1.methodNamed? x = some theMethod := by decide +kernel
set_option maxRecDepth 65536 in
theorem w_hears : about1.hears theMethod below0 = true := by decide +kernel
set_option maxRecDepth 65536 in
theorem w_ripe : about1.ripe theMethod args0 below0 = true := by decide +kernel
theorem w_running : about1.status = .running := rfl
set_option maxRecDepth 65536 in
theorem w_room : about1.hasRoom e0.platform room_1 = true :=
  launch0.hasRoom_least _ room_1 (by decide +kernel) (by decide +kernel) (by decide +kernel) (by decide +kernel) (by decide +kernel) (by decide +kernel)
theorem allAtoms_all (ts : List Jvm.Cond) (a : Array Jvm.Value) (st : Jvm.State) : (allAtoms ts).before a st = ts.all (fun c => c.before a st) := by
  induction ts with
  | nil => rfl
  | cons c t ih =>
    show (Jvm.Cond.and c (allAtoms t)).before a st = _
    rw [Jvm.Cond.before_and, ih, List.all_cons]
def words1 : List Jvm.Cond := Jvm.Cond.code x code maxLocals ret :: tables_1
/-- a 'code' word, met by the world's own term for the bytes: nothing is compared byte by byte -/
theorem code_word {y : MethodName} {bytes : ByteArray} {mx : Nat} {rt : Option FieldType} {a : Array Value} {s : State} {m : MethodId} {meth : Method} {c : Code} (h1 : s.methodNamed? y = some m) (h2 : s.vm.method? m = some meth) (h3 : meth.code = some c) (h4 : c.code = bytes)
    (h5 : (c.maxLocals == mx && c.exceptionTable.isEmpty && decide (c.maxStack ≤ mostOperands) && decide (meth.sig.returnType = rt) && !meth.locks && decide (parseMethodDescriptor y.desc = some meth.sig)) = true) : (Jvm.Cond.code y bytes mx rt).before a s = true := by
  simp only [Bool.and_eq_true, beq_iff_eq, Bool.not_eq_true', decide_eq_true_eq] at h5
  obtain ⟨⟨⟨⟨⟨g1, g2⟩, g3⟩, g4⟩, g5⟩, g6⟩ := h5
  simp [Cond.before, Cond.holds, Cond.value, h1, h2, h3, h4, g1, g2, g3, g4, g5, g6]
def isCode : Jvm.Cond → Bool
  | .code _ _ _ _ => true
  | _ => false
theorem all_split {L : List Jvm.Cond} {P : Jvm.Cond → Bool} (h1 : L.all (fun c => isCode c || P c) = true) (h2 : ∀ c ∈ L.filter isCode, P c = true) : L.all P = true := by
  refine List.all_eq_true.mpr fun c hc => ?_
  have h := List.all_eq_true.mp h1 c hc
  rcases Bool.eq_false_or_eq_true (isCode c) with hi | hi
  · exact h2 c (List.mem_filter.mpr ⟨hc, hi⟩)
  · simpa [hi] using h
set_option maxRecDepth 65536 in
theorem w_c0 : (Jvm.Cond.code x code maxLocals ret).before args0 about1 = true := code_word (m := ⟨1, 1⟩) (meth := k1m1) (c := k1c1) (by decide +kernel) rfl rfl rfl (by decide +kernel)
set_option maxRecDepth 65536 in
theorem w_c1 : (Jvm.Cond.code ({ cls := "com/example/phase7/phase7/metadata/FieldSet", name := "<init>", desc := "(I)V" } : Jvm.MethodName) prog_6_method_1_code (2 : Nat) (Option.none : Option Jvm.ClassFile.FieldType)).before args0 about1 = true := code_word (m := ⟨2, 0⟩) (meth := k2m0) (c := k2c0) (by decide +kernel) rfl rfl rfl (by decide +kernel)
set_option maxRecDepth 65536 in
theorem w_c2 : (Jvm.Cond.code ({ cls := "java/lang/Object", name := "<init>", desc := "()V" } : Jvm.MethodName) object_method_1_code (1 : Nat) (Option.none : Option Jvm.ClassFile.FieldType)).before args0 about1 = true := code_word (m := ⟨0, 0⟩) (meth := k0m0) (c := k0c0) (by decide +kernel) rfl rfl rfl (by decide +kernel)
set_option maxRecDepth 65536 in
theorem w_c3 : (Jvm.Cond.code ({ cls := "com/example/phase7/phase7/metadata/FieldSet", name := "add", desc := "(I)V" } : Jvm.MethodName) prog_6_method_4_code (2 : Nat) (Option.none : Option Jvm.ClassFile.FieldType)).before args0 about1 = true := code_word (m := ⟨2, 2⟩) (meth := k2m2) (c := k2c2) (by decide +kernel) rfl rfl rfl (by decide +kernel)
set_option maxRecDepth 65536 in
theorem w_c4 : (Jvm.Cond.code ({ cls := "com/example/phase7/phase7/metadata/FieldSet", name := "addFirst", desc := "(I)V" } : Jvm.MethodName) prog_6_method_6_code (4 : Nat) (Option.none : Option Jvm.ClassFile.FieldType)).before args0 about1 = true := code_word (m := ⟨2, 3⟩) (meth := k2m3) (c := k2c3) (by decide +kernel) rfl rfl rfl (by decide +kernel)
set_option maxRecDepth 65536 in
theorem w_c5 : (Jvm.Cond.code ({ cls := "com/example/phase7/phase7/metadata/FieldSet", name := "contains", desc := "(I)Z" } : Jvm.MethodName) prog_6_method_3_code (3 : Nat) (Option.some Jvm.ClassFile.FieldType.boolean)).before args0 about1 = true := code_word (m := ⟨2, 1⟩) (meth := k2m1) (c := k2c1) (by decide +kernel) rfl rfl rfl (by decide +kernel)
set_option maxRecDepth 65536 in
theorem w_c6 : (Jvm.Cond.code ({ cls := "com/example/phase7/phase7/metadata/FieldSet", name := "size", desc := "()I" } : Jvm.MethodName) prog_6_method_10_code (7 : Nat) (Option.some Jvm.ClassFile.FieldType.int)).before args0 about1 = true := code_word (m := ⟨2, 4⟩) (meth := k2m4) (c := k2c4) (by decide +kernel) rfl rfl rfl (by decide +kernel)
set_option maxRecDepth 65536 in
theorem w_c7 : (Jvm.Cond.code ({ cls := "java/lang/Long", name := "bitCount", desc := "(J)I" } : Jvm.MethodName) jdk_35_method_50_code (2 : Nat) (Option.some Jvm.ClassFile.FieldType.int)).before args0 about1 = true := code_word (m := ⟨8, 0⟩) (meth := k8m0) (c := k8c0) (by decide +kernel) rfl rfl rfl (by decide +kernel)
def codes1 : List Jvm.Cond := [Jvm.Cond.code x code maxLocals ret, Jvm.Cond.code ({ cls := "com/example/phase7/phase7/metadata/FieldSet", name := "<init>", desc := "(I)V" } : Jvm.MethodName) prog_6_method_1_code (2 : Nat) (Option.none : Option Jvm.ClassFile.FieldType), Jvm.Cond.code ({ cls := "java/lang/Object", name := "<init>", desc := "()V" } : Jvm.MethodName) object_method_1_code (1 : Nat) (Option.none : Option Jvm.ClassFile.FieldType), Jvm.Cond.code ({ cls := "com/example/phase7/phase7/metadata/FieldSet", name := "add", desc := "(I)V" } : Jvm.MethodName) prog_6_method_4_code (2 : Nat) (Option.none : Option Jvm.ClassFile.FieldType), Jvm.Cond.code ({ cls := "com/example/phase7/phase7/metadata/FieldSet", name := "addFirst", desc := "(I)V" } : Jvm.MethodName) prog_6_method_6_code (4 : Nat) (Option.none : Option Jvm.ClassFile.FieldType), Jvm.Cond.code ({ cls := "com/example/phase7/phase7/metadata/FieldSet", name := "contains", desc := "(I)Z" } : Jvm.MethodName) prog_6_method_3_code (3 : Nat) (Option.some Jvm.ClassFile.FieldType.boolean), Jvm.Cond.code ({ cls := "com/example/phase7/phase7/metadata/FieldSet", name := "size", desc := "()I" } : Jvm.MethodName) prog_6_method_10_code (7 : Nat) (Option.some Jvm.ClassFile.FieldType.int), Jvm.Cond.code ({ cls := "java/lang/Long", name := "bitCount", desc := "(J)I" } : Jvm.MethodName) jdk_35_method_50_code (2 : Nat) (Option.some Jvm.ClassFile.FieldType.int)]
set_option maxRecDepth 65536 in
theorem codes_eq : words1.filter isCode = codes1 := rfl
theorem w_codes : ∀ c ∈ words1.filter isCode, c.before args0 about1 = true := by
  rw [codes_eq]
  intro c hc
  simp only [codes1, List.mem_cons, List.not_mem_nil, or_false] at hc
  rcases hc with rfl | rfl | rfl | rfl | rfl | rfl | rfl | rfl
  · exact w_c0
  · exact w_c1
  · exact w_c2
  · exact w_c3
  · exact w_c4
  · exact w_c5
  · exact w_c6
  · exact w_c7
set_option maxRecDepth 65536 in
theorem w_t1 : (words1.take 24).all (fun c => isCode c || c.before args0 about1) = true := by decide +kernel
set_option maxRecDepth 65536 in
theorem w_t2 : (words1.drop 24).all (fun c => isCode c || c.before args0 about1) = true := by decide +kernel
theorem w_tables : (allAtoms (Jvm.Cond.code x code maxLocals ret :: tables_1)).before args0 about1 = true := by
  rw [allAtoms_all]
  show words1.all (fun c => c.before args0 about1) = true
  refine all_split ?_ w_codes
  rw [← List.take_append_drop 24 words1, List.all_append, w_t1, w_t2]
  rfl
set_option maxRecDepth 65536 in
theorem w_case : (Jvm.Cond.and given_1 narrow_1).before args0 about1 = true := by decide +kernel
theorem w_applies : (headSpec (Jvm.Cond.code x code maxLocals ret :: tables_1) room_1).applies x e0.platform about1 = true :=
  (Spec.applies_iff w_frames).mpr ⟨w_running, w_runnable, w_alone, w_named, w_hears, w_ripe, w_room, w_tables⟩
theorem atStart : AtStart classFile x code maxLocals ret World_1 tables_1 room_1 Calls_1 rest_1 Pre_1 launch0 p0 e0 about1 theMethod args0 below0 :=
  ⟨lists_1, trivial, launch0.admits_env _ _ _, launch0.least_env, fairChoices_fair.cas, fairChoices_fair.clock, w_frames, w_args, w_heap, w_applies, trivial, trivial, w_case⟩
end start1
theorem witness_1 : WitnessClaimed_1 := ⟨start1.p0, start1.e0, start1.about1, start1.theMethod, start1.args0, start1.below0, start1.atStart⟩
end Jvm.Pilot.@@N@@
