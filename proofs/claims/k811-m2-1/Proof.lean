import JvmDerived
import JvmDerived.Pilot.@@N@@Statement
import JvmDerived.Pilot.@@N@@Code
set_option linter.unusedVariables false
set_option linter.unusedSimpArgs false
namespace Jvm.RoadKit
open Sem ClassFile Op Lib Jvm.Stand Jvm.Free Jvm.LawKit
section New
variable {p : Program} {l : Launch} {e : Env} {R : Room} {s : State} {m : MethodId} {args : Array Value} {below : List Frame} {meth : Method} {c : Code} {T : State} {locs : List Loc} {cells slots : Nat}
theorem retI (X : Stand p l e R s m args below meth c T locs cells slots) (hx : p.tables.exec = Jvm.exec) {pc : Nat} {Ls : Array Slot} {z : Int32} {rest : List Value} (hret : meth.sig.returnType = some .int) (hd : decode c.code pc = .ok (.ireturn, 1)) {fs : List Frame}
    (hl : ∀ (f : JFrame) (acts : List Action), f.method = m → f.locked = none → f.entered = [] → (doReturn e (T.setTop f) acts (some (.int z))).1 = T.setFrames fs) : Steps p.tables e below (T.setTop (mkF m pc Ls (.int z :: rest))) (T.setFrames fs) := by
  have hm' : T.vm.method? m = some meth := X.method'
  have hn : narrow .int (.int z) = .int z := rfl
  show Steps p.tables e below (T.setTop { method := m, pc := pc, locals := Ls, stack := _ :: rest, locked := none }) _
  jvm_step X.here [X.here.top, hx, hd, hm', hret, hn]
  first | (intro acts; rw [hl _ acts rfl rfl rfl]) | rw [hl _ _ rfl rfl rfl]
  exact Steps.refl _
end New
end Jvm.RoadKit
namespace Jvm.Pilot.@@N@@
open Jvm Jvm.ClassFile Sem Op Lib Jvm.Free Jvm.Stand Jvm.LawKit Jvm.RoadKit Bundle Jvm.Pilot.@@N@@.Jvm.D
theorem own_retb (z : Int32) (h : z = 0 ∨ z = 1) : narrow .boolean (.int z) = .int z := by rcases h with rfl | rfl <;> rfl
theorem own_rem (x n : Int32) (hn : 0 < n.toInt) : 0 ≤ ((x &&& (2147483647 : Int32)) % n).toInt ∧ ((x &&& (2147483647 : Int32)) % n).toInt < n.toInt := by
  have h1 := c_mask x (2147483647 : Int32) 31 (by decide) (by decide)
  have h2 := (c_iremV (x &&& (2147483647 : Int32)) n).1 (by omega) hn
  exact ⟨h2.1, h2.2.1⟩
theorem own_of3 {k : Int32} (h : 0 ≤ k.toInt ∧ k.toInt < 3) : k = 0 ∨ k = 1 ∨ k = 2 := by
  have h2 : k.toInt = (0 : Int32).toInt ∨ k.toInt = (1 : Int32).toInt ∨ k.toInt = (2 : Int32).toInt := by simp; omega
  simpa only [Int32.toInt_inj] using h2
theorem own_of5 {k : Int32} (h : 0 ≤ k.toInt ∧ k.toInt < 5) : k = 0 ∨ k = 1 ∨ k = 2 ∨ k = 3 ∨ k = 4 := by
  have h2 : k.toInt = (0 : Int32).toInt ∨ k.toInt = (1 : Int32).toInt ∨ k.toInt = (2 : Int32).toInt ∨ k.toInt = (3 : Int32).toInt ∨ k.toInt = (4 : Int32).toInt := by simp; omega
  simpa only [Int32.toInt_inj] using h2
theorem own_of6 {k : Int32} (h : 0 ≤ k.toInt ∧ k.toInt < 6) : k = 0 ∨ k = 1 ∨ k = 2 ∨ k = 3 ∨ k = 4 ∨ k = 5 := by
  have h2 : k.toInt = (0 : Int32).toInt ∨ k.toInt = (1 : Int32).toInt ∨ k.toInt = (2 : Int32).toInt ∨ k.toInt = (3 : Int32).toInt ∨ k.toInt = (4 : Int32).toInt ∨ k.toInt = (5 : Int32).toInt := by simp; omega
  simpa only [Int32.toInt_inj] using h2
theorem own_eqI {args : Array Value} {s : State} {t : Term} {k : Int32} (h : (Jvm.Cond.eq t (.int k)).value args s none s [] = some true) : t.eval args s none [] s = some (.int k) := by
  obtain ⟨u, v, hu, hv, k1, k2⟩ := cmp_v (Or.inl h)
  have hv2 : v = .int k := Option.some.inj (hv.symm.trans (Term.int_eval k))
  subst hv2
  cases u <;> simp [Cond.value, hu, hv] at h
  subst h; exact hu
theorem own_fld {args : Array Value} {s : State} {t : Term} {a : Addr} {C n d : String} {k : Int32} (ev : t.eval args s none [] s = some (.ref a)) (h : (Jvm.Cond.eq (.field t C n d) (.int k)).value args s none s [] = some true) : Fld s s.heap a C n d (.int k) :=
  Fld.start ((fld_at ev).symm.trans (own_eqI h))
theorem own_len {args : Array Value} {s : State} {t : Term} {a : Addr} {cl : Cell} {ty : FieldType} {k : Int32} (ev : t.eval args s none [] s = some (.ref a)) (A : Arr s s.heap a cl ty) (h : (Jvm.Cond.eq (.length t) (.int k)).value args s none s [] = some true) : cl.slots.size.toInt32 = k := by
  obtain ⟨b, c, e1, e2, e3⟩ := Term.length_spec (own_eqI h)
  cases ev.symm.trans e1
  cases (A.fin (Vm.Alike.refl _)).symm.trans e2
  exact (Value.int.inj e3).symm
theorem own_lenlt {args : Array Value} {s : State} {t : Term} {a : Addr} {cl : Cell} {ty : FieldType} {k : Int32} (ev : t.eval args s none [] s = some (.ref a)) (A : Arr s s.heap a cl ty) (h : (Jvm.Cond.eq (.length t) (.int k)).value args s none s [] = some true) : cl.slots.size < 2 ^ 31 := by
  have h1 := own_eqI h
  have h2 := A.fin (Vm.Alike.refl _)
  apply Classical.byContradiction
  intro h3
  simp [Term.eval, ev, h2, h3] at h1
theorem own_elem {args : Array Value} {s : State} {t u : Term} {a b : Addr} {cl : Cell} {ty : FieldType} {j : Int32} (ev : t.eval args s none [] s = some (.ref a)) (A : Arr s s.heap a cl ty) (hu : u.eval args s none [] s = some (.ref b)) (h : (Jvm.Cond.eq (.elem t (.int j)) u).value args s none s [] = some true) : cl.slots[j.toNatClampNeg]? = some (.ref b) := by
  obtain ⟨x, y, hx, hy, -, -⟩ := cmp_v (Or.inl h)
  cases hu.symm.trans hy
  have h2 := (elem_in hx ev (Term.int_eval j) A.1).2
  cases x <;> simp [Cond.value, hx, hy] at h
  subst h; exact h2
theorem own_fldN {args : Array Value} {s : State} {t : Term} {a : Addr} {C n d : String} (ev : t.eval args s none [] s = some (.ref a)) (h : (Jvm.Cond.eq (.field t C n d) .null).value args s none s [] = some true) : Fld s s.heap a C n d .null :=
  Fld.start ((fld_at ev).symm.trans (null_v h))
theorem own_jz {q z j : Int32} (h : q.toInt ≤ z.toInt) (e : j.toInt < q.toInt) : j < z := by rw [Int32.lt_iff_toInt_lt]; omega
def own_word (q : Int32) (v0 v1 v2 v3 : Int64) : Int64 := if q = 0 then v0 else if q = 1 then v1 else if q = 2 then v2 else v3
theorem own_w0 (v0 v1 v2 v3 : Int64) : own_word 0 v0 v1 v2 v3 = v0 := by simp [own_word]
theorem own_w1 (v0 v1 v2 v3 : Int64) : own_word 1 v0 v1 v2 v3 = v1 := by simp [own_word]
theorem own_w2 (v0 v1 v2 v3 : Int64) : own_word 2 v0 v1 v2 v3 = v2 := by simp [own_word]
theorem own_w3 (v0 v1 v2 v3 : Int64) : own_word 3 v0 v1 v2 v3 = v3 := by simp [own_word]
theorem own_fr {f n : Int32} (hn : 1 ≤ n.toInt ∧ n.toInt ≤ 256) (h : 0 ≤ f.toInt ∧ f.toInt < n.toInt) : (f < (64 : Int32) ↔ f / (64 : Int32) = 0) ∧ (f / (64 : Int32) = 0 ∨ f / (64 : Int32) = 1 ∨ f / (64 : Int32) = 2 ∨ f / (64 : Int32) = 3) ∧ (f / (64 : Int32)).toInt = f.toInt / 64 := by
  have h1 := (c_idiv f (64 : Int32) 64 (by decide) (by decide)).1 h.1
  have h2 : (f / (64 : Int32)) = 0 ∨ (f / (64 : Int32)) = 1 ∨ (f / (64 : Int32)) = 2 ∨ (f / (64 : Int32)) = 3 := by
    have e0 : (0 : Int32).toInt = 0 := by decide
    have e1 : (1 : Int32).toInt = 1 := by decide
    have e2 : (2 : Int32).toInt = 2 := by decide
    have e3 : (3 : Int32).toInt = 3 := by decide
    have h3 : (f / (64 : Int32)).toInt = (0 : Int32).toInt ∨ (f / (64 : Int32)).toInt = (1 : Int32).toInt ∨ (f / (64 : Int32)).toInt = (2 : Int32).toInt ∨ (f / (64 : Int32)).toInt = (3 : Int32).toInt := by rw [e0, e1, e2, e3]; omega
    simpa only [Int32.toInt_inj] using h3
  refine ⟨?_, h2, h1⟩
  rw [Int32.lt_iff_toInt_lt, ← Int32.toInt_inj, h1]
  have e1 : (64 : Int32).toInt = 64 := by decide
  have e2 : (0 : Int32).toInt = 0 := by decide
  omega
def QC (Z : State) (a1 : Addr) (n1 : Int32) (h0 : Heap) (n0 : Nat) (v : Option Value) (h : Heap) (L : List Loc) : Prop := v = none ∧ Fr n0 L ∧ Keep h0 h [a1] ∧ Exa Z h a1 "com/example/phase7/phase7/metadata/FieldSet" ∧ Fld Z h a1 "com/example/phase7/phase7/metadata/FieldSet" "first" "J" (.long (0 : Int64)) ∧ ∃ (b : Addr) (kb : ClassId) (z : Int32), Fld Z h a1 "com/example/phase7/phase7/metadata/FieldSet" "further" "[J" (.ref b) ∧ Arv Z h b kb .long z [(.long (0 : Int64)), (.long (0 : Int64)), (.long (0 : Int64))] (.long (0 : Int64)) ∧ a1 ≠ b ∧ z.toInt = (n1.toInt - 1) / 64 ∧ (¬ z = 0 → n0 ≤ b)
theorem own_len64 {n : Int32} (hn : 1 ≤ n.toInt ∧ n.toInt ≤ 256) (h : (64 : Int32) < n) : ((n - (1 : Int32)) / (64 : Int32)).toInt = (n.toInt - 1) / 64 ∧ ¬ ((n - (1 : Int32)) / (64 : Int32)) < 0 ∧ ((n - (1 : Int32)) / (64 : Int32)).toNatClampNeg ≤ 3 := by
  have h0 := c_isub n (1 : Int32)
  have h4 := rng32 (n - (1 : Int32))
  have e1 : (1 : Int32).toInt = 1 := by decide
  have h5 : (n - (1 : Int32)).toInt = n.toInt - 1 := by omega
  have h1 := (c_idiv (n - (1 : Int32)) (64 : Int32) 64 (by decide) (by decide)).1 (by omega)
  rw [h5] at h1
  have e2 : (0 : Int32).toInt = 0 := by decide
  refine ⟨h1, ?_, ?_⟩
  · rw [Int32.lt_iff_toInt_lt]; omega
  · simp only [Int32.toNatClampNeg]; omega
theorem own_z0 {n : Int32} (hn : 1 ≤ n.toInt ∧ n.toInt ≤ 256) (h : ¬ (64 : Int32) < n) : (0 : Int32).toInt = (n.toInt - 1) / 64 := by
  rw [Int32.lt_iff_toInt_lt] at h
  have e1 : (64 : Int32).toInt = 64 := by decide
  have e2 : (0 : Int32).toInt = 0 := by decide
  omega
theorem d1_0 : decode prog_6_method_1_code 0 = .ok (.aload_n 0, 1) := by decide +kernel
theorem d1_1 : decode prog_6_method_1_code 1 = .ok (.invokespecial 3, 3) := by decide +kernel
theorem d1_4 : decode prog_6_method_1_code 4 = .ok (.aload_n 0, 1) := by decide +kernel
theorem d1_5 : decode prog_6_method_1_code 5 = .ok (.iload_n 1, 1) := by decide +kernel
theorem d1_6 : decode prog_6_method_1_code 6 = .ok (.bipush 64, 2) := by decide +kernel
theorem d1_8 : decode prog_6_method_1_code 8 = .ok (.if_icmp .gt 9, 3) := by decide +kernel
theorem d1_11 : decode prog_6_method_1_code 11 = .ok (.getstatic 11, 3) := by decide +kernel
theorem d1_14 : decode prog_6_method_1_code 14 = .ok (.goto 11, 3) := by decide +kernel
theorem d1_17 : decode prog_6_method_1_code 17 = .ok (.iload_n 1, 1) := by decide +kernel
theorem d1_18 : decode prog_6_method_1_code 18 = .ok (.iconst 1, 1) := by decide +kernel
theorem d1_19 : decode prog_6_method_1_code 19 = .ok (.isub, 1) := by decide +kernel
theorem d1_20 : decode prog_6_method_1_code 20 = .ok (.bipush 64, 2) := by decide +kernel
theorem d1_22 : decode prog_6_method_1_code 22 = .ok (.idiv, 1) := by decide +kernel
theorem d1_23 : decode prog_6_method_1_code 23 = .ok (.newarray .long, 2) := by decide +kernel
theorem d1_25 : decode prog_6_method_1_code 25 = .ok (.putfield 15, 3) := by decide +kernel
theorem d1_28 : decode prog_6_method_1_code 28 = .ok (.return_, 1) := by decide +kernel
theorem pn_rmC : plainName "com/example/phase7/phase7/metadata/FieldSet" = true := by first | (simp [plainName, overriddenIn]; done) | decide +kernel
theorem ef_rmC (m : MethodId) (a1 : Addr) (n1 : Int32) : entryFrame m #[(.ref a1), (.int n1)] 2 = mkF m 0 #[.val (.ref a1), .val (.int n1)] [] := by first | (simp [entryFrame, mkF, argsToLocals, Value.category]; done) | rfl
set_option maxRecDepth 65536 in
set_option maxHeartbeats 40000000 in
theorem rmC (l : Launch) (Z : State) (a0 : Array Value) (hw : ∀ d ∈ tables_1, d.before a0 Z = true) (ws : List Jvm.Cond) (a1 : Addr) (n1 : Int32) (wN : Addr) (kN : ClassId) (h0 : Heap) (n0 : Nat) (Z0 : n0 ≤ h0.size) (E_a1 : Exa Z h0 a1 "com/example/phase7/phase7/metadata/FieldSet") (F_f : Fld Z h0 a1 "com/example/phase7/phase7/metadata/FieldSet" "first" "J" (.long (0 : Int64))) (F_g : Fld Z h0 a1 "com/example/phase7/phase7/metadata/FieldSet" "further" "[J" .null) (S_N : Sta Z h0 "com/example/phase7/phase7/metadata/FieldSet" "NO_WORDS" "[J" (.ref wN)) (V_N : Arv Z h0 wN kN .long (0 : Int32) [(.long (0 : Int64)), (.long (0 : Int64)), (.long (0 : Int64))] (.long (0 : Int64))) (hne : a1 ≠ wN) (g_a1 : n0 ≤ a1) (hn : 1 ≤ n1.toInt ∧ n1.toInt ≤ 256) :
    MetFree l (⟨"com/example/phase7/phase7/metadata/FieldSet", "<init>", "(I)V"⟩ : MethodName) (head1 (Jvm.Cond.code (⟨"com/example/phase7/phase7/metadata/FieldSet", "<init>", "(I)V"⟩ : MethodName) prog_6_method_1_code 2 none :: ws) ({ frames := 1, cells := 1, slots := 3, locals := 12 } : Room)) (fun a U => a = #[(.ref a1), (.int n1)] ∧ Z.Warmed39 U.vm ∧ U.heap = h0) (fun _ _ _ _ _ => True) (fun _ U o U' => ∃ v L, o = .returned v ∧ QC Z a1 n1 h0 n0 v U'.heap L ∧ FrameEnd U o U' L ({ frames := 1, cells := 1, slots := 3, locals := 12 } : Room).cells ({ frames := 1, cells := 1, slots := 3, locals := 12 } : Room).slots) := by
  refine MetFree.of_bodySF (plainFor_of_name pn_rmC) hisR ?_
  intro p e s m args below meth c s₁ Bd hml0 hP hK
  obtain ⟨rfl, hZ, hh⟩ := hP
  have hx := Bd.exec
  have hby := Bd.bytes
  have hml : c.maxLocals = 2 := hml0
  have hown : s.vm.findClass "com/example/phase7/phase7/metadata/FieldSet" = some m.cls := findClass_of_methodNamed Bd.named
  have hnm := (name_of_methodNamed Bd.named Bd.method).1
  have X0 : Stand p l e ({ frames := 1, cells := 1, slots := 3, locals := 12 } : Room) s m #[(.ref a1), (.int n1)] below meth c s₁ [] 0 0 := Stand.of_body Bd
  have e0 : s₁.heap = h0 := by rw [← hh, Bd.state]; rfl
  have N0 := Fr.nil n0
  have pre0 : ∀ tt, Steps p.tables e below (s₁.setTop (mkF m 0 #[.val (.ref a1), .val (.int n1)] [])) tt → Steps p.tables e below (s₁.setTop (entryFrame m #[(.ref a1), (.int n1)] 2)) tt := fun tt kt => castTop (ef_rmC m a1 n1) kt
  obtain ⟨T1, X1, e1, st1⟩ := initO X0 hx hZ hown (hw _ (List.mem_of_getElem? (i := 7) rfl)) (hw _ (List.mem_of_getElem? (i := 8) rfl)) (hw _ (List.mem_of_getElem? (i := 9) rfl)) e0 (g := (mkF m 1 #[.val (.ref a1), .val (.int n1)] [(.ref a1)])) rfl (by rw [hml]; rfl) rfl (hb hby d1_1) (by decide) (W := 0) (by show 2 * 0 + _ ≤ _; exact Nat.le_of_eq rfl) (by decide)
  have pre2 : ∀ tt, Steps p.tables e below (T1.setTop (mkF m 8 #[.val (.ref a1), .val (.int n1)] [(.int (64 : Int32)), (.int n1), (.ref a1)])) tt → Steps p.tables e below (s₁.setTop (entryFrame m #[(.ref a1), (.int n1)] 2)) tt := by
    intro tt kt
    refine pre0 tt ?_
    show Steps p.tables e below (s₁.setTop (mkF m 0 #[.val (.ref a1), .val (.int n1)] [])) _
    refine XS.aloadN X0.here hx rfl (hb hby d1_0) rfl rfl ?_
    show Steps p.tables e below (s₁.setTop (mkF m 1 #[.val (.ref a1), .val (.int n1)] [(.ref a1)])) _
    refine st1 _ ?_
    show Steps p.tables e below (T1.setTop (mkF m 4 #[.val (.ref a1), .val (.int n1)] [])) _
    refine XS.aloadN X1.here hx rfl (hb hby d1_4) rfl rfl ?_
    show Steps p.tables e below (T1.setTop (mkF m 5 #[.val (.ref a1), .val (.int n1)] [(.ref a1)])) _
    refine XS.iloadN X1.here hx rfl (hb hby d1_5) rfl ?_
    show Steps p.tables e below (T1.setTop (mkF m 6 #[.val (.ref a1), .val (.int n1)] [(.int n1), (.ref a1)])) _
    refine XS.bipush X1.here hx rfl (hb hby d1_6) ?_
    exact kt
  by_cases c8_3 : (64 : Int32) < n1
  · obtain ⟨T4, h4, k4, X4, e4, E4, A4, EE4, st4⟩ := newPE X1 hx hZ (hw _ (List.mem_of_getElem? (i := 32) rfl)) e1 (g := (mkF m 23 #[.val (.ref a1), .val (.int n1)] [(.int ((n1 - (1 : Int32)) / (64 : Int32))), (.ref a1)])) rfl (hb hby d1_23) rfl (own_len64 hn c8_3).2.1 (cap := 3) (own_len64 hn c8_3).2.2 (by decide) (by decide) (by decide) (ad := "[J") (by decide)
    obtain ⟨b4, g4⟩ : ∃ z, z = h0.size := ⟨_, rfl⟩
    rw [← g4] at A4 EE4 st4
    have g_b4 : n0 ≤ b4 := Nat.le_trans Z0 (Nat.le_of_eq g4.symm)
    have sz_b4 : h0.size ≤ b4 := Nat.le_trans ((Keep.refl h0 [a1])).1 (Nat.le_of_eq g4.symm)
    have K4 : Keep h0 h4 [a1] := ((Keep.refl h0 [a1])).ext E4
    have V_b4 : Arv Z h4 b4 k4 .long ((n1 - (1 : Int32)) / (64 : Int32)) [] (.long (0 : Int64)) := Arv.new A4 (own_len64 hn c8_3).2.1
    obtain ⟨T5, h5, X5, e5, W5, st5⟩ := putF X4 hx hZ hown (host := "") (Or.inl (hw _ (List.mem_of_getElem? (i := 12) rfl))) Via.refl e4 (Fld.ext E4 F_g) (Exa.ext E4 E_a1) (Or.inr ⟨(hw _ (List.mem_of_getElem? (i := 13) rfl)), rfl, hnm⟩) (hw _ (List.mem_of_getElem? (i := 2) rfl)) (ty := (.array .long)) (by decide) rfl rfl (g := (mkF m 25 #[.val (.ref a1), .val (.int n1)] [(.ref b4), (.ref a1)])) rfl rfl (hb hby d1_25)
    have Fw5 := Fld.same W5 (Fld.ext E4 F_g)
    have N5 := Fr.snoc X5 N0 g_a1
    have K5 : Keep h0 h5 [a1] := (K4).wr W5 (Or.inl (List.mem_of_getElem? (i := 0) rfl))
    have pre6 : ∀ tt, Steps p.tables e below (T5.setTop (mkF m 28 #[.val (.ref a1), .val (.int n1)] [])) tt → Steps p.tables e below (s₁.setTop (entryFrame m #[(.ref a1), (.int n1)] 2)) tt := by
      intro tt kt
      refine pre2 tt ?_
      show Steps p.tables e below (T1.setTop (mkF m 8 #[.val (.ref a1), .val (.int n1)] [(.int (64 : Int32)), (.int n1), (.ref a1)])) _
      refine XS.icmpYes X1.here hx rfl (pc0 := 8) (pc' := 17) rfl (hb hby d1_8) rfl (tlt c8_3).2.2.1 (by decide) (by decide) ?_
      show Steps p.tables e below (T1.setTop (mkF m 17 #[.val (.ref a1), .val (.int n1)] [(.ref a1)])) _
      refine XS.iloadN X1.here hx rfl (hb hby d1_17) rfl ?_
      show Steps p.tables e below (T1.setTop (mkF m 18 #[.val (.ref a1), .val (.int n1)] [(.int n1), (.ref a1)])) _
      refine XS.iconst X1.here hx rfl (hb hby d1_18) ?_
      show Steps p.tables e below (T1.setTop (mkF m 19 #[.val (.ref a1), .val (.int n1)] [(.int (1 : Int32)), (.int n1), (.ref a1)])) _
      refine XS.isub X1.here hx rfl (hb hby d1_19) rfl ?_
      show Steps p.tables e below (T1.setTop (mkF m 20 #[.val (.ref a1), .val (.int n1)] [(.int (n1 - (1 : Int32))), (.ref a1)])) _
      refine XS.bipush X1.here hx rfl (hb hby d1_20) ?_
      show Steps p.tables e below (T1.setTop (mkF m 22 #[.val (.ref a1), .val (.int n1)] [(.int (64 : Int32)), (.int (n1 - (1 : Int32))), (.ref a1)])) _
      refine XS.idiv X1.here hx rfl (hb hby d1_22) rfl (by decide : ¬ ((64 : Int32) = (0 : Int32))) ?_
      show Steps p.tables e below (T1.setTop (mkF m 23 #[.val (.ref a1), .val (.int n1)] [(.int ((n1 - (1 : Int32)) / (64 : Int32))), (.ref a1)])) _
      refine st4 _ ?_
      show Steps p.tables e below (T4.setTop (mkF m 25 #[.val (.ref a1), .val (.int n1)] [(.ref b4), (.ref a1)])) _
      refine st5 _ ?_
      exact kt
    obtain ⟨fs, hr, hrun, hended, hW, hsame⟩ := X5.leave (v := none) (fun _ => rfl)
    refine ⟨_, _, pre6 _ ?_, hrun, hended, _, _, rfl, ?_, ⟨_, rfl⟩, hW, hsame.mono (by decide) (by decide)⟩
    · show Steps p.tables e below (T5.setTop (mkF m 28 #[.val (.ref a1), .val (.int n1)] [])) _
      exact X5.returnOut hx Bd.returns (hb hby d1_28) hr
    · show QC Z a1 n1 h0 n0 _ T5.heap _
      rw [e5]
      exact ⟨rfl, N5, K5, (Exa.wr W5 (Exa.ext E4 E_a1)), (Fld.other W5 (Fld.ext E4 F_f) (Or.inr (slot_ne (Or.inl (hw _ (List.mem_of_getElem? (i := 20) rfl))) (Or.inr (hw _ (List.mem_of_getElem? (i := 13) rfl))) (by decide) (t := .long) (t' := (.array .long)) (by decide) (by decide)))), b4, k4, _, Fw5, ((V_b4.other W5 (Ne.symm (Nat.ne_of_lt (Nat.lt_of_lt_of_le (F_f).lt (Nat.le_of_eq g4.symm)))))).pad (pad_rep [] _ 3), (Nat.ne_of_lt (Nat.lt_of_lt_of_le (F_f).lt (Nat.le_of_eq g4.symm))), (own_len64 hn c8_3).1, fun _ => g_b4⟩
  · obtain ⟨T7, X7, e7, st7⟩ := getS2 X1 hx hZ hown (host := "") (Or.inl (hw _ (List.mem_of_getElem? (i := 10) rfl))) Via.refl e1 S_N (g := (mkF m 11 #[.val (.ref a1), .val (.int n1)] [(.ref a1)])) rfl (hb hby d1_11)
    obtain ⟨T8, h8, X8, e8, W8, st8⟩ := putF X7 hx hZ hown (host := "") (Or.inl (hw _ (List.mem_of_getElem? (i := 12) rfl))) Via.refl e7 F_g E_a1 (Or.inr ⟨(hw _ (List.mem_of_getElem? (i := 13) rfl)), rfl, hnm⟩) (hw _ (List.mem_of_getElem? (i := 2) rfl)) (ty := (.array .long)) (by decide) rfl rfl (g := (mkF m 25 #[.val (.ref a1), .val (.int n1)] [(.ref wN), (.ref a1)])) rfl rfl (hb hby d1_25)
    have Fw8 := Fld.same W8 F_g
    have N8 := Fr.snoc X8 N0 g_a1
    have K8 : Keep h0 h8 [a1] := ((Keep.refl h0 [a1])).wr W8 (Or.inl (List.mem_of_getElem? (i := 0) rfl))
    have pre9 : ∀ tt, Steps p.tables e below (T8.setTop (mkF m 28 #[.val (.ref a1), .val (.int n1)] [])) tt → Steps p.tables e below (s₁.setTop (entryFrame m #[(.ref a1), (.int n1)] 2)) tt := by
      intro tt kt
      refine pre2 tt ?_
      show Steps p.tables e below (T1.setTop (mkF m 8 #[.val (.ref a1), .val (.int n1)] [(.int (64 : Int32)), (.int n1), (.ref a1)])) _
      refine XS.icmpNo X1.here hx rfl (hb hby d1_8) rfl (flt c8_3).2.2.1 ?_
      show Steps p.tables e below (T1.setTop (mkF m 11 #[.val (.ref a1), .val (.int n1)] [(.ref a1)])) _
      refine st7 _ ?_
      show Steps p.tables e below (T7.setTop (mkF m 14 #[.val (.ref a1), .val (.int n1)] [(.ref wN), (.ref a1)])) _
      refine XS.goto X7.here hx rfl (pc0 := 14) (pc' := 25) rfl (hb hby d1_14) (by decide) (by decide) ?_
      show Steps p.tables e below (T7.setTop (mkF m 25 #[.val (.ref a1), .val (.int n1)] [(.ref wN), (.ref a1)])) _
      refine st8 _ ?_
      exact kt
    obtain ⟨fs, hr, hrun, hended, hW, hsame⟩ := X8.leave (v := none) (fun _ => rfl)
    refine ⟨_, _, pre9 _ ?_, hrun, hended, _, _, rfl, ?_, ⟨_, rfl⟩, hW, hsame.mono (by decide) (by decide)⟩
    · show Steps p.tables e below (T8.setTop (mkF m 28 #[.val (.ref a1), .val (.int n1)] [])) _
      exact X8.returnOut hx Bd.returns (hb hby d1_28) hr
    · show QC Z a1 n1 h0 n0 _ T8.heap _
      rw [e8]
      exact ⟨rfl, N8, K8, (Exa.wr W8 E_a1), (Fld.other W8 F_f (Or.inr (slot_ne (Or.inl (hw _ (List.mem_of_getElem? (i := 20) rfl))) (Or.inr (hw _ (List.mem_of_getElem? (i := 13) rfl))) (by decide) (t := .long) (t' := (.array .long)) (by decide) (by decide)))), wN, kN, (0 : Int32), Fw8, (V_N.other W8 (Ne.symm hne)), hne, own_z0 hn c8_3, fun q => absurd rfl q⟩
def QI (Z : State) (r : Int32) (h0 : Heap) (n0 : Nat) (v : Option Value) (h : Heap) (L : List Loc) : Prop := v = some (.int r) ∧ Fr n0 L ∧ h = h0
def QA (Z : State) (a1 b : Addr) (kb : ClassId) (z1 : Int32) (u0 u1 u2 u3 : Int64) (h0 : Heap) (n0 : Nat) (v : Option Value) (h : Heap) (L : List Loc) : Prop := v = none ∧ Fr n0 L ∧ Keep h0 h [a1, b] ∧ Exa Z h a1 "com/example/phase7/phase7/metadata/FieldSet" ∧ Fld Z h a1 "com/example/phase7/phase7/metadata/FieldSet" "first" "J" (.long u0) ∧ Fld Z h a1 "com/example/phase7/phase7/metadata/FieldSet" "further" "[J" (.ref b) ∧ Arv Z h b kb .long z1 [(.long u1), (.long u2), (.long u3)] (.long (0 : Int64))
theorem d3_0 : decode prog_6_method_3_code 0 = .ok (.iload_n 1, 1) := by decide +kernel
theorem d3_1 : decode prog_6_method_3_code 1 = .ok (.bipush 64, 2) := by decide +kernel
theorem d3_3 : decode prog_6_method_3_code 3 = .ok (.if_icmp .ge 25, 3) := by decide +kernel
theorem d3_6 : decode prog_6_method_3_code 6 = .ok (.aload_n 0, 1) := by decide +kernel
theorem d3_7 : decode prog_6_method_3_code 7 = .ok (.getfield 18, 3) := by decide +kernel
theorem d3_10 : decode prog_6_method_3_code 10 = .ok (.lconst 1, 1) := by decide +kernel
theorem d3_11 : decode prog_6_method_3_code 11 = .ok (.iload_n 1, 1) := by decide +kernel
theorem d3_12 : decode prog_6_method_3_code 12 = .ok (.lshl, 1) := by decide +kernel
theorem d3_13 : decode prog_6_method_3_code 13 = .ok (.land, 1) := by decide +kernel
theorem d3_14 : decode prog_6_method_3_code 14 = .ok (.lconst 0, 1) := by decide +kernel
theorem d3_15 : decode prog_6_method_3_code 15 = .ok (.lcmp, 1) := by decide +kernel
theorem d3_16 : decode prog_6_method_3_code 16 = .ok (.ifCond .eq 7, 3) := by decide +kernel
theorem d3_19 : decode prog_6_method_3_code 19 = .ok (.iconst 1, 1) := by decide +kernel
theorem d3_20 : decode prog_6_method_3_code 20 = .ok (.goto 4, 3) := by decide +kernel
theorem d3_23 : decode prog_6_method_3_code 23 = .ok (.iconst 0, 1) := by decide +kernel
theorem d3_24 : decode prog_6_method_3_code 24 = .ok (.istore_n 2, 1) := by decide +kernel
theorem d3_25 : decode prog_6_method_3_code 25 = .ok (.goto 29, 3) := by decide +kernel
theorem d3_28 : decode prog_6_method_3_code 28 = .ok (.aload_n 0, 1) := by decide +kernel
theorem d3_29 : decode prog_6_method_3_code 29 = .ok (.getfield 15, 3) := by decide +kernel
theorem d3_32 : decode prog_6_method_3_code 32 = .ok (.iload_n 1, 1) := by decide +kernel
theorem d3_33 : decode prog_6_method_3_code 33 = .ok (.bipush 64, 2) := by decide +kernel
theorem d3_35 : decode prog_6_method_3_code 35 = .ok (.idiv, 1) := by decide +kernel
theorem d3_36 : decode prog_6_method_3_code 36 = .ok (.iconst 1, 1) := by decide +kernel
theorem d3_37 : decode prog_6_method_3_code 37 = .ok (.isub, 1) := by decide +kernel
theorem d3_38 : decode prog_6_method_3_code 38 = .ok (.laload, 1) := by decide +kernel
theorem d3_39 : decode prog_6_method_3_code 39 = .ok (.lconst 1, 1) := by decide +kernel
theorem d3_40 : decode prog_6_method_3_code 40 = .ok (.iload_n 1, 1) := by decide +kernel
theorem d3_41 : decode prog_6_method_3_code 41 = .ok (.lshl, 1) := by decide +kernel
theorem d3_42 : decode prog_6_method_3_code 42 = .ok (.land, 1) := by decide +kernel
theorem d3_43 : decode prog_6_method_3_code 43 = .ok (.lconst 0, 1) := by decide +kernel
theorem d3_44 : decode prog_6_method_3_code 44 = .ok (.lcmp, 1) := by decide +kernel
theorem d3_45 : decode prog_6_method_3_code 45 = .ok (.ifCond .eq 7, 3) := by decide +kernel
theorem d3_48 : decode prog_6_method_3_code 48 = .ok (.iconst 1, 1) := by decide +kernel
theorem d3_49 : decode prog_6_method_3_code 49 = .ok (.goto 4, 3) := by decide +kernel
theorem d3_52 : decode prog_6_method_3_code 52 = .ok (.iconst 0, 1) := by decide +kernel
theorem d3_53 : decode prog_6_method_3_code 53 = .ok (.istore_n 2, 1) := by decide +kernel
theorem d3_54 : decode prog_6_method_3_code 54 = .ok (.iload_n 2, 1) := by decide +kernel
theorem d3_55 : decode prog_6_method_3_code 55 = .ok (.ireturn, 1) := by decide +kernel
theorem pn_rmH : plainName "com/example/phase7/phase7/metadata/FieldSet" = true := by first | (simp [plainName, overriddenIn]; done) | decide +kernel
theorem ef_rmH (m : MethodId) (a1 : Addr) (f1 : Int32) : entryFrame m #[(.ref a1), (.int f1)] 3 = mkF m 0 #[.val (.ref a1), .val (.int f1), .unset] [] := by first | (simp [entryFrame, mkF, argsToLocals, Value.category]; done) | rfl
set_option maxRecDepth 65536 in
set_option maxHeartbeats 40000000 in
theorem rmH (l : Launch) (Z : State) (a0 : Array Value) (hw : ∀ d ∈ tables_1, d.before a0 Z = true) (ws : List Jvm.Cond) (a1 b : Addr) (kb : ClassId) (f1 q1 z1 r : Int32) (v0 v1 v2 v3 : Int64) (h0 : Heap) (n0 : Nat) (Z0 : n0 ≤ h0.size) (E_a1 : Exa Z h0 a1 "com/example/phase7/phase7/metadata/FieldSet") (F_f : Fld Z h0 a1 "com/example/phase7/phase7/metadata/FieldSet" "first" "J" (.long v0)) (F_g : Fld Z h0 a1 "com/example/phase7/phase7/metadata/FieldSet" "further" "[J" (.ref b)) (V_b : Arv Z h0 b kb .long z1 [(.long v1), (.long v2), (.long v3)] (.long (0 : Int64))) (hne : a1 ≠ b) (hq : f1 < (64 : Int32) ↔ q1 = 0) (hdv : f1 / (64 : Int32) = q1) (rq : q1 = 0 ∨ q1 = 1 ∨ q1 = 2 ∨ q1 = 3) (hz : q1.toInt ≤ z1.toInt) (hr0 : r = if (own_word q1 v0 v1 v2 v3 &&& ((1 : Int64) <<< (f1 &&& 0x3f).toInt64)) = 0 then 0 else 1) :
    MetFree l (⟨"com/example/phase7/phase7/metadata/FieldSet", "contains", "(I)Z"⟩ : MethodName) (head1 (Jvm.Cond.code (⟨"com/example/phase7/phase7/metadata/FieldSet", "contains", "(I)Z"⟩ : MethodName) prog_6_method_3_code 3 (some .boolean) :: ws) ({ frames := 0, cells := 0, slots := 0, locals := 0 } : Room)) (fun a U => a = #[(.ref a1), (.int f1)] ∧ Z.Warmed39 U.vm ∧ U.heap = h0) (fun _ _ _ _ _ => True) (fun _ U o U' => ∃ v L, o = .returned v ∧ QI Z r h0 n0 v U'.heap L ∧ FrameEnd U o U' L ({ frames := 0, cells := 0, slots := 0, locals := 0 } : Room).cells ({ frames := 0, cells := 0, slots := 0, locals := 0 } : Room).slots) := by
  refine MetFree.of_bodySF (plainFor_of_name pn_rmH) hisR ?_
  intro p e s m args below meth c s₁ Bd hml0 hP hK
  obtain ⟨rfl, hZ, hh⟩ := hP
  have hx := Bd.exec
  have hby := Bd.bytes
  have hml : c.maxLocals = 3 := hml0
  have hown : s.vm.findClass "com/example/phase7/phase7/metadata/FieldSet" = some m.cls := findClass_of_methodNamed Bd.named
  have hnm := (name_of_methodNamed Bd.named Bd.method).1
  have X0 : Stand p l e ({ frames := 0, cells := 0, slots := 0, locals := 0 } : Room) s m #[(.ref a1), (.int f1)] below meth c s₁ [] 0 0 := Stand.of_body Bd
  have e0 : s₁.heap = h0 := by rw [← hh, Bd.state]; rfl
  have N0 := Fr.nil n0
  have pre0 : ∀ tt, Steps p.tables e below (s₁.setTop (mkF m 0 #[.val (.ref a1), .val (.int f1), .unset] [])) tt → Steps p.tables e below (s₁.setTop (entryFrame m #[(.ref a1), (.int f1)] 3)) tt := fun tt kt => castTop (ef_rmH m a1 f1) kt
  rcases rq with rfl | rfl | rfl | rfl
  · rw [own_w0] at hr0
    have hq0 : f1 < (64 : Int32) := hq.mpr rfl
    obtain ⟨T1, X1, e1, st1⟩ := getF X0 hx hZ hown (host := "") (Or.inl (hw _ (List.mem_of_getElem? (i := 19) rfl))) Via.refl e0 F_f (g := (mkF m 7 #[.val (.ref a1), .val (.int f1), .unset] [(.ref a1)])) rfl rfl (hb hby d3_7)
    have pre2 : ∀ tt, Steps p.tables e below (T1.setTop (mkF m 16 #[.val (.ref a1), .val (.int f1), .unset] [(.int (lcmpW (v0 &&& ((1 : Int64) <<< (f1 &&& 0x3f).toInt64)) (0 : Int64)))])) tt → Steps p.tables e below (s₁.setTop (entryFrame m #[(.ref a1), (.int f1)] 3)) tt := by
      intro tt kt
      refine pre0 tt ?_
      show Steps p.tables e below (s₁.setTop (mkF m 0 #[.val (.ref a1), .val (.int f1), .unset] [])) _
      refine XS.iloadN X0.here hx rfl (hb hby d3_0) rfl ?_
      show Steps p.tables e below (s₁.setTop (mkF m 1 #[.val (.ref a1), .val (.int f1), .unset] [(.int f1)])) _
      refine XS.bipush X0.here hx rfl (hb hby d3_1) ?_
      show Steps p.tables e below (s₁.setTop (mkF m 3 #[.val (.ref a1), .val (.int f1), .unset] [(.int (64 : Int32)), (.int f1)])) _
      refine XS.icmpNo X0.here hx rfl (hb hby d3_3) rfl (tlt (hq.mpr rfl)).2.1 ?_
      show Steps p.tables e below (s₁.setTop (mkF m 6 #[.val (.ref a1), .val (.int f1), .unset] [])) _
      refine XS.aloadN X0.here hx rfl (hb hby d3_6) rfl rfl ?_
      show Steps p.tables e below (s₁.setTop (mkF m 7 #[.val (.ref a1), .val (.int f1), .unset] [(.ref a1)])) _
      refine st1 _ ?_
      show Steps p.tables e below (T1.setTop (mkF m 10 #[.val (.ref a1), .val (.int f1), .unset] [(.long v0)])) _
      refine XS.lconst X1.here hx rfl (hb hby d3_10) ?_
      show Steps p.tables e below (T1.setTop (mkF m 11 #[.val (.ref a1), .val (.int f1), .unset] [(.long (1 : Int64)), (.long v0)])) _
      refine XS.iloadN X1.here hx rfl (hb hby d3_11) rfl ?_
      show Steps p.tables e below (T1.setTop (mkF m 12 #[.val (.ref a1), .val (.int f1), .unset] [(.int f1), (.long (1 : Int64)), (.long v0)])) _
      refine XS.lshl X1.here hx rfl (hb hby d3_12) rfl ?_
      show Steps p.tables e below (T1.setTop (mkF m 13 #[.val (.ref a1), .val (.int f1), .unset] [(.long ((1 : Int64) <<< (f1 &&& 0x3f).toInt64)), (.long v0)])) _
      refine XS.land X1.here hx rfl (hb hby d3_13) rfl ?_
      show Steps p.tables e below (T1.setTop (mkF m 14 #[.val (.ref a1), .val (.int f1), .unset] [(.long (v0 &&& ((1 : Int64) <<< (f1 &&& 0x3f).toInt64)))])) _
      refine XS.lconst X1.here hx rfl (hb hby d3_14) ?_
      show Steps p.tables e below (T1.setTop (mkF m 15 #[.val (.ref a1), .val (.int f1), .unset] [(.long (0 : Int64)), (.long (v0 &&& ((1 : Int64) <<< (f1 &&& 0x3f).toInt64)))])) _
      refine XS.lcmp X1.here hx rfl (hb hby d3_15) rfl ?_
      exact kt
    by_cases c16_3 : (lcmpW (v0 &&& ((1 : Int64) <<< (f1 &&& 0x3f).toInt64)) (0 : Int64)) = (0 : Int32)
    · have pre4 : ∀ tt, Steps p.tables e below (T1.setTop (mkF m 55 #[.val (.ref a1), .val (.int f1), .val (.int (0 : Int32))] [(.int (0 : Int32))])) tt → Steps p.tables e below (s₁.setTop (entryFrame m #[(.ref a1), (.int f1)] 3)) tt := by
        intro tt kt
        refine pre2 tt ?_
        show Steps p.tables e below (T1.setTop (mkF m 16 #[.val (.ref a1), .val (.int f1), .unset] [(.int (lcmpW (v0 &&& ((1 : Int64) <<< (f1 &&& 0x3f).toInt64)) (0 : Int64)))])) _
        refine XS.ifYes X1.here hx rfl (pc0 := 16) (pc' := 23) rfl (hb hby d3_16) rfl ((if0 _ _).trans (teq c16_3).1) (by decide) (by decide) ?_
        show Steps p.tables e below (T1.setTop (mkF m 23 #[.val (.ref a1), .val (.int f1), .unset] [])) _
        refine XS.iconst X1.here hx rfl (hb hby d3_23) ?_
        show Steps p.tables e below (T1.setTop (mkF m 24 #[.val (.ref a1), .val (.int f1), .unset] [(.int (0 : Int32))])) _
        refine XS.istoreN X1.here hx rfl (hb hby d3_24) rfl (l' := #[.val (.ref a1), .val (.int f1), .val (.int (0 : Int32))]) rfl ?_
        show Steps p.tables e below (T1.setTop (mkF m 25 #[.val (.ref a1), .val (.int f1), .val (.int (0 : Int32))] [])) _
        refine XS.goto X1.here hx rfl (pc0 := 25) (pc' := 54) rfl (hb hby d3_25) (by decide) (by decide) ?_
        show Steps p.tables e below (T1.setTop (mkF m 54 #[.val (.ref a1), .val (.int f1), .val (.int (0 : Int32))] [])) _
        refine XS.iloadN X1.here hx rfl (hb hby d3_54) rfl ?_
        exact kt
      obtain ⟨fs, hr, hrun, hended, hW, hsame⟩ := X1.leave (v := some (.int (0 : Int32))) (fun h => by rw [Bd.returns] at h; cases h)
      refine ⟨_, _, pre4 _ ?_, hrun, hended, _, _, rfl, ?_, ⟨_, rfl⟩, hW, hsame.mono (by decide) (by decide)⟩
      · show Steps p.tables e below (T1.setTop (mkF m 55 #[.val (.ref a1), .val (.int f1), .val (.int (0 : Int32))] [(.int (0 : Int32))])) _
        exact retN X1 hx (t := .boolean) Bd.returns (by simp) (hb hby d3_55) hr
      · show QI Z r h0 n0 _ T1.heap _
        rw [e1]
        exact ⟨by rw [hr0, if_pos ((lw_eq _ _).mp c16_3)], N0, rfl⟩
    · have pre5 : ∀ tt, Steps p.tables e below (T1.setTop (mkF m 55 #[.val (.ref a1), .val (.int f1), .val (.int (1 : Int32))] [(.int (1 : Int32))])) tt → Steps p.tables e below (s₁.setTop (entryFrame m #[(.ref a1), (.int f1)] 3)) tt := by
        intro tt kt
        refine pre2 tt ?_
        show Steps p.tables e below (T1.setTop (mkF m 16 #[.val (.ref a1), .val (.int f1), .unset] [(.int (lcmpW (v0 &&& ((1 : Int64) <<< (f1 &&& 0x3f).toInt64)) (0 : Int64)))])) _
        refine XS.ifNo X1.here hx rfl (hb hby d3_16) rfl ((if0 _ _).trans (feq c16_3).1) ?_
        show Steps p.tables e below (T1.setTop (mkF m 19 #[.val (.ref a1), .val (.int f1), .unset] [])) _
        refine XS.iconst X1.here hx rfl (hb hby d3_19) ?_
        show Steps p.tables e below (T1.setTop (mkF m 20 #[.val (.ref a1), .val (.int f1), .unset] [(.int (1 : Int32))])) _
        refine XS.goto X1.here hx rfl (pc0 := 20) (pc' := 24) rfl (hb hby d3_20) (by decide) (by decide) ?_
        show Steps p.tables e below (T1.setTop (mkF m 24 #[.val (.ref a1), .val (.int f1), .unset] [(.int (1 : Int32))])) _
        refine XS.istoreN X1.here hx rfl (hb hby d3_24) rfl (l' := #[.val (.ref a1), .val (.int f1), .val (.int (1 : Int32))]) rfl ?_
        show Steps p.tables e below (T1.setTop (mkF m 25 #[.val (.ref a1), .val (.int f1), .val (.int (1 : Int32))] [])) _
        refine XS.goto X1.here hx rfl (pc0 := 25) (pc' := 54) rfl (hb hby d3_25) (by decide) (by decide) ?_
        show Steps p.tables e below (T1.setTop (mkF m 54 #[.val (.ref a1), .val (.int f1), .val (.int (1 : Int32))] [])) _
        refine XS.iloadN X1.here hx rfl (hb hby d3_54) rfl ?_
        exact kt
      obtain ⟨fs, hr, hrun, hended, hW, hsame⟩ := X1.leave (v := some (.int (1 : Int32))) (fun h => by rw [Bd.returns] at h; cases h)
      refine ⟨_, _, pre5 _ ?_, hrun, hended, _, _, rfl, ?_, ⟨_, rfl⟩, hW, hsame.mono (by decide) (by decide)⟩
      · show Steps p.tables e below (T1.setTop (mkF m 55 #[.val (.ref a1), .val (.int f1), .val (.int (1 : Int32))] [(.int (1 : Int32))])) _
        exact retN X1 hx (t := .boolean) Bd.returns (by simp) (hb hby d3_55) hr
      · show QI Z r h0 n0 _ T1.heap _
        rw [e1]
        exact ⟨by rw [hr0, if_neg (fun q => c16_3 ((lw_eq _ _).mpr q))], N0, rfl⟩
  · rw [own_w1] at hr0
    have hj : ((f1 / (64 : Int32)) - (1 : Int32)) = (0 : Int32) := by rw [hdv]; decide
    have hin : ¬ (0 : Int32) < 0 ∧ (0 : Int32) < z1 := ⟨by decide, own_jz hz (by decide)⟩
    obtain ⟨T6, X6, e6, st6⟩ := getF X0 hx hZ hown (host := "") (Or.inl (hw _ (List.mem_of_getElem? (i := 12) rfl))) Via.refl e0 F_g (g := (mkF m 29 #[.val (.ref a1), .val (.int f1), .unset] [(.ref a1)])) rfl rfl (hb hby d3_29)
    have VO7 := V_b
    obtain ⟨cl7, Ar7, q7, S7, M7, H7, G7⟩ := VO7
    have hin7 : ¬ ((0 : Int32) < 0 ∨ cl7.slots.size ≤ ((0 : Int32)).toNatClampNeg) := inb_of S7 hin
    have hat7 : cl7.slots[((0 : Int32)).toNatClampNeg]? = some (.long v1) := H7.at hin7 rfl
    have pre8 : ∀ tt, Steps p.tables e below (T6.setTop (mkF m 45 #[.val (.ref a1), .val (.int f1), .unset] [(.int (lcmpW (v1 &&& ((1 : Int64) <<< (f1 &&& 0x3f).toInt64)) (0 : Int64)))])) tt → Steps p.tables e below (s₁.setTop (entryFrame m #[(.ref a1), (.int f1)] 3)) tt := by
      intro tt kt
      refine pre0 tt ?_
      show Steps p.tables e below (s₁.setTop (mkF m 0 #[.val (.ref a1), .val (.int f1), .unset] [])) _
      refine XS.iloadN X0.here hx rfl (hb hby d3_0) rfl ?_
      show Steps p.tables e below (s₁.setTop (mkF m 1 #[.val (.ref a1), .val (.int f1), .unset] [(.int f1)])) _
      refine XS.bipush X0.here hx rfl (hb hby d3_1) ?_
      show Steps p.tables e below (s₁.setTop (mkF m 3 #[.val (.ref a1), .val (.int f1), .unset] [(.int (64 : Int32)), (.int f1)])) _
      refine XS.icmpYes X0.here hx rfl (pc0 := 3) (pc' := 28) rfl (hb hby d3_3) rfl (flt (fun q => absurd (hq.mp q) (by decide))).2.1 (by decide) (by decide) ?_
      show Steps p.tables e below (s₁.setTop (mkF m 28 #[.val (.ref a1), .val (.int f1), .unset] [])) _
      refine XS.aloadN X0.here hx rfl (hb hby d3_28) rfl rfl ?_
      show Steps p.tables e below (s₁.setTop (mkF m 29 #[.val (.ref a1), .val (.int f1), .unset] [(.ref a1)])) _
      refine st6 _ ?_
      show Steps p.tables e below (T6.setTop (mkF m 32 #[.val (.ref a1), .val (.int f1), .unset] [(.ref b)])) _
      refine XS.iloadN X6.here hx rfl (hb hby d3_32) rfl ?_
      show Steps p.tables e below (T6.setTop (mkF m 33 #[.val (.ref a1), .val (.int f1), .unset] [(.int f1), (.ref b)])) _
      refine XS.bipush X6.here hx rfl (hb hby d3_33) ?_
      show Steps p.tables e below (T6.setTop (mkF m 35 #[.val (.ref a1), .val (.int f1), .unset] [(.int (64 : Int32)), (.int f1), (.ref b)])) _
      refine XS.idiv X6.here hx rfl (hb hby d3_35) rfl (by decide : ¬ ((64 : Int32) = (0 : Int32))) ?_
      show Steps p.tables e below (T6.setTop (mkF m 36 #[.val (.ref a1), .val (.int f1), .unset] [(.int (f1 / (64 : Int32))), (.ref b)])) _
      refine XS.iconst X6.here hx rfl (hb hby d3_36) ?_
      show Steps p.tables e below (T6.setTop (mkF m 37 #[.val (.ref a1), .val (.int f1), .unset] [(.int (1 : Int32)), (.int (f1 / (64 : Int32))), (.ref b)])) _
      refine XS.isub X6.here hx rfl (hb hby d3_37) rfl ?_
      show Steps p.tables e below (T6.setTop (mkF m 38 #[.val (.ref a1), .val (.int f1), .unset] [(.int ((f1 / (64 : Int32)) - (1 : Int32))), (.ref b)])) _
      rw [hj]
      show Steps p.tables e below (T6.setTop (mkF m 38 #[.val (.ref a1), .val (.int f1), .unset] [(.int (0 : Int32)), (.ref b)])) _
      refine X6.laload hx (j := (0 : Int32)) (v := (.long v1)) (by rw [e6]; exact Ar7.1) (State.isArrayOf_alike hZ.alike Ar7.2.1) Ar7.2.2 hin7 hat7 (g := (mkF m 38 #[.val (.ref a1), .val (.int f1), .unset] [(.int (0 : Int32)), (.ref b)])) rfl rfl (hb hby d3_38) _ ?_
      show Steps p.tables e below (T6.setTop (mkF m 39 #[.val (.ref a1), .val (.int f1), .unset] [(.long v1)])) _
      refine XS.lconst X6.here hx rfl (hb hby d3_39) ?_
      show Steps p.tables e below (T6.setTop (mkF m 40 #[.val (.ref a1), .val (.int f1), .unset] [(.long (1 : Int64)), (.long v1)])) _
      refine XS.iloadN X6.here hx rfl (hb hby d3_40) rfl ?_
      show Steps p.tables e below (T6.setTop (mkF m 41 #[.val (.ref a1), .val (.int f1), .unset] [(.int f1), (.long (1 : Int64)), (.long v1)])) _
      refine XS.lshl X6.here hx rfl (hb hby d3_41) rfl ?_
      show Steps p.tables e below (T6.setTop (mkF m 42 #[.val (.ref a1), .val (.int f1), .unset] [(.long ((1 : Int64) <<< (f1 &&& 0x3f).toInt64)), (.long v1)])) _
      refine XS.land X6.here hx rfl (hb hby d3_42) rfl ?_
      show Steps p.tables e below (T6.setTop (mkF m 43 #[.val (.ref a1), .val (.int f1), .unset] [(.long (v1 &&& ((1 : Int64) <<< (f1 &&& 0x3f).toInt64)))])) _
      refine XS.lconst X6.here hx rfl (hb hby d3_43) ?_
      show Steps p.tables e below (T6.setTop (mkF m 44 #[.val (.ref a1), .val (.int f1), .unset] [(.long (0 : Int64)), (.long (v1 &&& ((1 : Int64) <<< (f1 &&& 0x3f).toInt64)))])) _
      refine XS.lcmp X6.here hx rfl (hb hby d3_44) rfl ?_
      exact kt
    by_cases c45_9 : (lcmpW (v1 &&& ((1 : Int64) <<< (f1 &&& 0x3f).toInt64)) (0 : Int64)) = (0 : Int32)
    · have pre10 : ∀ tt, Steps p.tables e below (T6.setTop (mkF m 55 #[.val (.ref a1), .val (.int f1), .val (.int (0 : Int32))] [(.int (0 : Int32))])) tt → Steps p.tables e below (s₁.setTop (entryFrame m #[(.ref a1), (.int f1)] 3)) tt := by
        intro tt kt
        refine pre8 tt ?_
        show Steps p.tables e below (T6.setTop (mkF m 45 #[.val (.ref a1), .val (.int f1), .unset] [(.int (lcmpW (v1 &&& ((1 : Int64) <<< (f1 &&& 0x3f).toInt64)) (0 : Int64)))])) _
        refine XS.ifYes X6.here hx rfl (pc0 := 45) (pc' := 52) rfl (hb hby d3_45) rfl ((if0 _ _).trans (teq c45_9).1) (by decide) (by decide) ?_
        show Steps p.tables e below (T6.setTop (mkF m 52 #[.val (.ref a1), .val (.int f1), .unset] [])) _
        refine XS.iconst X6.here hx rfl (hb hby d3_52) ?_
        show Steps p.tables e below (T6.setTop (mkF m 53 #[.val (.ref a1), .val (.int f1), .unset] [(.int (0 : Int32))])) _
        refine XS.istoreN X6.here hx rfl (hb hby d3_53) rfl (l' := #[.val (.ref a1), .val (.int f1), .val (.int (0 : Int32))]) rfl ?_
        show Steps p.tables e below (T6.setTop (mkF m 54 #[.val (.ref a1), .val (.int f1), .val (.int (0 : Int32))] [])) _
        refine XS.iloadN X6.here hx rfl (hb hby d3_54) rfl ?_
        exact kt
      obtain ⟨fs, hr, hrun, hended, hW, hsame⟩ := X6.leave (v := some (.int (0 : Int32))) (fun h => by rw [Bd.returns] at h; cases h)
      refine ⟨_, _, pre10 _ ?_, hrun, hended, _, _, rfl, ?_, ⟨_, rfl⟩, hW, hsame.mono (by decide) (by decide)⟩
      · show Steps p.tables e below (T6.setTop (mkF m 55 #[.val (.ref a1), .val (.int f1), .val (.int (0 : Int32))] [(.int (0 : Int32))])) _
        exact retN X6 hx (t := .boolean) Bd.returns (by simp) (hb hby d3_55) hr
      · show QI Z r h0 n0 _ T6.heap _
        rw [e6]
        exact ⟨by rw [hr0, if_pos ((lw_eq _ _).mp c45_9)], N0, rfl⟩
    · have pre11 : ∀ tt, Steps p.tables e below (T6.setTop (mkF m 55 #[.val (.ref a1), .val (.int f1), .val (.int (1 : Int32))] [(.int (1 : Int32))])) tt → Steps p.tables e below (s₁.setTop (entryFrame m #[(.ref a1), (.int f1)] 3)) tt := by
        intro tt kt
        refine pre8 tt ?_
        show Steps p.tables e below (T6.setTop (mkF m 45 #[.val (.ref a1), .val (.int f1), .unset] [(.int (lcmpW (v1 &&& ((1 : Int64) <<< (f1 &&& 0x3f).toInt64)) (0 : Int64)))])) _
        refine XS.ifNo X6.here hx rfl (hb hby d3_45) rfl ((if0 _ _).trans (feq c45_9).1) ?_
        show Steps p.tables e below (T6.setTop (mkF m 48 #[.val (.ref a1), .val (.int f1), .unset] [])) _
        refine XS.iconst X6.here hx rfl (hb hby d3_48) ?_
        show Steps p.tables e below (T6.setTop (mkF m 49 #[.val (.ref a1), .val (.int f1), .unset] [(.int (1 : Int32))])) _
        refine XS.goto X6.here hx rfl (pc0 := 49) (pc' := 53) rfl (hb hby d3_49) (by decide) (by decide) ?_
        show Steps p.tables e below (T6.setTop (mkF m 53 #[.val (.ref a1), .val (.int f1), .unset] [(.int (1 : Int32))])) _
        refine XS.istoreN X6.here hx rfl (hb hby d3_53) rfl (l' := #[.val (.ref a1), .val (.int f1), .val (.int (1 : Int32))]) rfl ?_
        show Steps p.tables e below (T6.setTop (mkF m 54 #[.val (.ref a1), .val (.int f1), .val (.int (1 : Int32))] [])) _
        refine XS.iloadN X6.here hx rfl (hb hby d3_54) rfl ?_
        exact kt
      obtain ⟨fs, hr, hrun, hended, hW, hsame⟩ := X6.leave (v := some (.int (1 : Int32))) (fun h => by rw [Bd.returns] at h; cases h)
      refine ⟨_, _, pre11 _ ?_, hrun, hended, _, _, rfl, ?_, ⟨_, rfl⟩, hW, hsame.mono (by decide) (by decide)⟩
      · show Steps p.tables e below (T6.setTop (mkF m 55 #[.val (.ref a1), .val (.int f1), .val (.int (1 : Int32))] [(.int (1 : Int32))])) _
        exact retN X6 hx (t := .boolean) Bd.returns (by simp) (hb hby d3_55) hr
      · show QI Z r h0 n0 _ T6.heap _
        rw [e6]
        exact ⟨by rw [hr0, if_neg (fun q => c45_9 ((lw_eq _ _).mpr q))], N0, rfl⟩
  · rw [own_w2] at hr0
    have hj : ((f1 / (64 : Int32)) - (1 : Int32)) = (1 : Int32) := by rw [hdv]; decide
    have hin : ¬ (1 : Int32) < 0 ∧ (1 : Int32) < z1 := ⟨by decide, own_jz hz (by decide)⟩
    obtain ⟨T12, X12, e12, st12⟩ := getF X0 hx hZ hown (host := "") (Or.inl (hw _ (List.mem_of_getElem? (i := 12) rfl))) Via.refl e0 F_g (g := (mkF m 29 #[.val (.ref a1), .val (.int f1), .unset] [(.ref a1)])) rfl rfl (hb hby d3_29)
    have VO13 := V_b
    obtain ⟨cl13, Ar13, q13, S13, M13, H13, G13⟩ := VO13
    have hin13 : ¬ ((1 : Int32) < 0 ∨ cl13.slots.size ≤ ((1 : Int32)).toNatClampNeg) := inb_of S13 hin
    have hat13 : cl13.slots[((1 : Int32)).toNatClampNeg]? = some (.long v2) := H13.at hin13 rfl
    have pre14 : ∀ tt, Steps p.tables e below (T12.setTop (mkF m 45 #[.val (.ref a1), .val (.int f1), .unset] [(.int (lcmpW (v2 &&& ((1 : Int64) <<< (f1 &&& 0x3f).toInt64)) (0 : Int64)))])) tt → Steps p.tables e below (s₁.setTop (entryFrame m #[(.ref a1), (.int f1)] 3)) tt := by
      intro tt kt
      refine pre0 tt ?_
      show Steps p.tables e below (s₁.setTop (mkF m 0 #[.val (.ref a1), .val (.int f1), .unset] [])) _
      refine XS.iloadN X0.here hx rfl (hb hby d3_0) rfl ?_
      show Steps p.tables e below (s₁.setTop (mkF m 1 #[.val (.ref a1), .val (.int f1), .unset] [(.int f1)])) _
      refine XS.bipush X0.here hx rfl (hb hby d3_1) ?_
      show Steps p.tables e below (s₁.setTop (mkF m 3 #[.val (.ref a1), .val (.int f1), .unset] [(.int (64 : Int32)), (.int f1)])) _
      refine XS.icmpYes X0.here hx rfl (pc0 := 3) (pc' := 28) rfl (hb hby d3_3) rfl (flt (fun q => absurd (hq.mp q) (by decide))).2.1 (by decide) (by decide) ?_
      show Steps p.tables e below (s₁.setTop (mkF m 28 #[.val (.ref a1), .val (.int f1), .unset] [])) _
      refine XS.aloadN X0.here hx rfl (hb hby d3_28) rfl rfl ?_
      show Steps p.tables e below (s₁.setTop (mkF m 29 #[.val (.ref a1), .val (.int f1), .unset] [(.ref a1)])) _
      refine st12 _ ?_
      show Steps p.tables e below (T12.setTop (mkF m 32 #[.val (.ref a1), .val (.int f1), .unset] [(.ref b)])) _
      refine XS.iloadN X12.here hx rfl (hb hby d3_32) rfl ?_
      show Steps p.tables e below (T12.setTop (mkF m 33 #[.val (.ref a1), .val (.int f1), .unset] [(.int f1), (.ref b)])) _
      refine XS.bipush X12.here hx rfl (hb hby d3_33) ?_
      show Steps p.tables e below (T12.setTop (mkF m 35 #[.val (.ref a1), .val (.int f1), .unset] [(.int (64 : Int32)), (.int f1), (.ref b)])) _
      refine XS.idiv X12.here hx rfl (hb hby d3_35) rfl (by decide : ¬ ((64 : Int32) = (0 : Int32))) ?_
      show Steps p.tables e below (T12.setTop (mkF m 36 #[.val (.ref a1), .val (.int f1), .unset] [(.int (f1 / (64 : Int32))), (.ref b)])) _
      refine XS.iconst X12.here hx rfl (hb hby d3_36) ?_
      show Steps p.tables e below (T12.setTop (mkF m 37 #[.val (.ref a1), .val (.int f1), .unset] [(.int (1 : Int32)), (.int (f1 / (64 : Int32))), (.ref b)])) _
      refine XS.isub X12.here hx rfl (hb hby d3_37) rfl ?_
      show Steps p.tables e below (T12.setTop (mkF m 38 #[.val (.ref a1), .val (.int f1), .unset] [(.int ((f1 / (64 : Int32)) - (1 : Int32))), (.ref b)])) _
      rw [hj]
      show Steps p.tables e below (T12.setTop (mkF m 38 #[.val (.ref a1), .val (.int f1), .unset] [(.int (1 : Int32)), (.ref b)])) _
      refine X12.laload hx (j := (1 : Int32)) (v := (.long v2)) (by rw [e12]; exact Ar13.1) (State.isArrayOf_alike hZ.alike Ar13.2.1) Ar13.2.2 hin13 hat13 (g := (mkF m 38 #[.val (.ref a1), .val (.int f1), .unset] [(.int (1 : Int32)), (.ref b)])) rfl rfl (hb hby d3_38) _ ?_
      show Steps p.tables e below (T12.setTop (mkF m 39 #[.val (.ref a1), .val (.int f1), .unset] [(.long v2)])) _
      refine XS.lconst X12.here hx rfl (hb hby d3_39) ?_
      show Steps p.tables e below (T12.setTop (mkF m 40 #[.val (.ref a1), .val (.int f1), .unset] [(.long (1 : Int64)), (.long v2)])) _
      refine XS.iloadN X12.here hx rfl (hb hby d3_40) rfl ?_
      show Steps p.tables e below (T12.setTop (mkF m 41 #[.val (.ref a1), .val (.int f1), .unset] [(.int f1), (.long (1 : Int64)), (.long v2)])) _
      refine XS.lshl X12.here hx rfl (hb hby d3_41) rfl ?_
      show Steps p.tables e below (T12.setTop (mkF m 42 #[.val (.ref a1), .val (.int f1), .unset] [(.long ((1 : Int64) <<< (f1 &&& 0x3f).toInt64)), (.long v2)])) _
      refine XS.land X12.here hx rfl (hb hby d3_42) rfl ?_
      show Steps p.tables e below (T12.setTop (mkF m 43 #[.val (.ref a1), .val (.int f1), .unset] [(.long (v2 &&& ((1 : Int64) <<< (f1 &&& 0x3f).toInt64)))])) _
      refine XS.lconst X12.here hx rfl (hb hby d3_43) ?_
      show Steps p.tables e below (T12.setTop (mkF m 44 #[.val (.ref a1), .val (.int f1), .unset] [(.long (0 : Int64)), (.long (v2 &&& ((1 : Int64) <<< (f1 &&& 0x3f).toInt64)))])) _
      refine XS.lcmp X12.here hx rfl (hb hby d3_44) rfl ?_
      exact kt
    by_cases c45_15 : (lcmpW (v2 &&& ((1 : Int64) <<< (f1 &&& 0x3f).toInt64)) (0 : Int64)) = (0 : Int32)
    · have pre16 : ∀ tt, Steps p.tables e below (T12.setTop (mkF m 55 #[.val (.ref a1), .val (.int f1), .val (.int (0 : Int32))] [(.int (0 : Int32))])) tt → Steps p.tables e below (s₁.setTop (entryFrame m #[(.ref a1), (.int f1)] 3)) tt := by
        intro tt kt
        refine pre14 tt ?_
        show Steps p.tables e below (T12.setTop (mkF m 45 #[.val (.ref a1), .val (.int f1), .unset] [(.int (lcmpW (v2 &&& ((1 : Int64) <<< (f1 &&& 0x3f).toInt64)) (0 : Int64)))])) _
        refine XS.ifYes X12.here hx rfl (pc0 := 45) (pc' := 52) rfl (hb hby d3_45) rfl ((if0 _ _).trans (teq c45_15).1) (by decide) (by decide) ?_
        show Steps p.tables e below (T12.setTop (mkF m 52 #[.val (.ref a1), .val (.int f1), .unset] [])) _
        refine XS.iconst X12.here hx rfl (hb hby d3_52) ?_
        show Steps p.tables e below (T12.setTop (mkF m 53 #[.val (.ref a1), .val (.int f1), .unset] [(.int (0 : Int32))])) _
        refine XS.istoreN X12.here hx rfl (hb hby d3_53) rfl (l' := #[.val (.ref a1), .val (.int f1), .val (.int (0 : Int32))]) rfl ?_
        show Steps p.tables e below (T12.setTop (mkF m 54 #[.val (.ref a1), .val (.int f1), .val (.int (0 : Int32))] [])) _
        refine XS.iloadN X12.here hx rfl (hb hby d3_54) rfl ?_
        exact kt
      obtain ⟨fs, hr, hrun, hended, hW, hsame⟩ := X12.leave (v := some (.int (0 : Int32))) (fun h => by rw [Bd.returns] at h; cases h)
      refine ⟨_, _, pre16 _ ?_, hrun, hended, _, _, rfl, ?_, ⟨_, rfl⟩, hW, hsame.mono (by decide) (by decide)⟩
      · show Steps p.tables e below (T12.setTop (mkF m 55 #[.val (.ref a1), .val (.int f1), .val (.int (0 : Int32))] [(.int (0 : Int32))])) _
        exact retN X12 hx (t := .boolean) Bd.returns (by simp) (hb hby d3_55) hr
      · show QI Z r h0 n0 _ T12.heap _
        rw [e12]
        exact ⟨by rw [hr0, if_pos ((lw_eq _ _).mp c45_15)], N0, rfl⟩
    · have pre17 : ∀ tt, Steps p.tables e below (T12.setTop (mkF m 55 #[.val (.ref a1), .val (.int f1), .val (.int (1 : Int32))] [(.int (1 : Int32))])) tt → Steps p.tables e below (s₁.setTop (entryFrame m #[(.ref a1), (.int f1)] 3)) tt := by
        intro tt kt
        refine pre14 tt ?_
        show Steps p.tables e below (T12.setTop (mkF m 45 #[.val (.ref a1), .val (.int f1), .unset] [(.int (lcmpW (v2 &&& ((1 : Int64) <<< (f1 &&& 0x3f).toInt64)) (0 : Int64)))])) _
        refine XS.ifNo X12.here hx rfl (hb hby d3_45) rfl ((if0 _ _).trans (feq c45_15).1) ?_
        show Steps p.tables e below (T12.setTop (mkF m 48 #[.val (.ref a1), .val (.int f1), .unset] [])) _
        refine XS.iconst X12.here hx rfl (hb hby d3_48) ?_
        show Steps p.tables e below (T12.setTop (mkF m 49 #[.val (.ref a1), .val (.int f1), .unset] [(.int (1 : Int32))])) _
        refine XS.goto X12.here hx rfl (pc0 := 49) (pc' := 53) rfl (hb hby d3_49) (by decide) (by decide) ?_
        show Steps p.tables e below (T12.setTop (mkF m 53 #[.val (.ref a1), .val (.int f1), .unset] [(.int (1 : Int32))])) _
        refine XS.istoreN X12.here hx rfl (hb hby d3_53) rfl (l' := #[.val (.ref a1), .val (.int f1), .val (.int (1 : Int32))]) rfl ?_
        show Steps p.tables e below (T12.setTop (mkF m 54 #[.val (.ref a1), .val (.int f1), .val (.int (1 : Int32))] [])) _
        refine XS.iloadN X12.here hx rfl (hb hby d3_54) rfl ?_
        exact kt
      obtain ⟨fs, hr, hrun, hended, hW, hsame⟩ := X12.leave (v := some (.int (1 : Int32))) (fun h => by rw [Bd.returns] at h; cases h)
      refine ⟨_, _, pre17 _ ?_, hrun, hended, _, _, rfl, ?_, ⟨_, rfl⟩, hW, hsame.mono (by decide) (by decide)⟩
      · show Steps p.tables e below (T12.setTop (mkF m 55 #[.val (.ref a1), .val (.int f1), .val (.int (1 : Int32))] [(.int (1 : Int32))])) _
        exact retN X12 hx (t := .boolean) Bd.returns (by simp) (hb hby d3_55) hr
      · show QI Z r h0 n0 _ T12.heap _
        rw [e12]
        exact ⟨by rw [hr0, if_neg (fun q => c45_15 ((lw_eq _ _).mpr q))], N0, rfl⟩
  · rw [own_w3] at hr0
    have hj : ((f1 / (64 : Int32)) - (1 : Int32)) = (2 : Int32) := by rw [hdv]; decide
    have hin : ¬ (2 : Int32) < 0 ∧ (2 : Int32) < z1 := ⟨by decide, own_jz hz (by decide)⟩
    obtain ⟨T18, X18, e18, st18⟩ := getF X0 hx hZ hown (host := "") (Or.inl (hw _ (List.mem_of_getElem? (i := 12) rfl))) Via.refl e0 F_g (g := (mkF m 29 #[.val (.ref a1), .val (.int f1), .unset] [(.ref a1)])) rfl rfl (hb hby d3_29)
    have VO19 := V_b
    obtain ⟨cl19, Ar19, q19, S19, M19, H19, G19⟩ := VO19
    have hin19 : ¬ ((2 : Int32) < 0 ∨ cl19.slots.size ≤ ((2 : Int32)).toNatClampNeg) := inb_of S19 hin
    have hat19 : cl19.slots[((2 : Int32)).toNatClampNeg]? = some (.long v3) := H19.at hin19 rfl
    have pre20 : ∀ tt, Steps p.tables e below (T18.setTop (mkF m 45 #[.val (.ref a1), .val (.int f1), .unset] [(.int (lcmpW (v3 &&& ((1 : Int64) <<< (f1 &&& 0x3f).toInt64)) (0 : Int64)))])) tt → Steps p.tables e below (s₁.setTop (entryFrame m #[(.ref a1), (.int f1)] 3)) tt := by
      intro tt kt
      refine pre0 tt ?_
      show Steps p.tables e below (s₁.setTop (mkF m 0 #[.val (.ref a1), .val (.int f1), .unset] [])) _
      refine XS.iloadN X0.here hx rfl (hb hby d3_0) rfl ?_
      show Steps p.tables e below (s₁.setTop (mkF m 1 #[.val (.ref a1), .val (.int f1), .unset] [(.int f1)])) _
      refine XS.bipush X0.here hx rfl (hb hby d3_1) ?_
      show Steps p.tables e below (s₁.setTop (mkF m 3 #[.val (.ref a1), .val (.int f1), .unset] [(.int (64 : Int32)), (.int f1)])) _
      refine XS.icmpYes X0.here hx rfl (pc0 := 3) (pc' := 28) rfl (hb hby d3_3) rfl (flt (fun q => absurd (hq.mp q) (by decide))).2.1 (by decide) (by decide) ?_
      show Steps p.tables e below (s₁.setTop (mkF m 28 #[.val (.ref a1), .val (.int f1), .unset] [])) _
      refine XS.aloadN X0.here hx rfl (hb hby d3_28) rfl rfl ?_
      show Steps p.tables e below (s₁.setTop (mkF m 29 #[.val (.ref a1), .val (.int f1), .unset] [(.ref a1)])) _
      refine st18 _ ?_
      show Steps p.tables e below (T18.setTop (mkF m 32 #[.val (.ref a1), .val (.int f1), .unset] [(.ref b)])) _
      refine XS.iloadN X18.here hx rfl (hb hby d3_32) rfl ?_
      show Steps p.tables e below (T18.setTop (mkF m 33 #[.val (.ref a1), .val (.int f1), .unset] [(.int f1), (.ref b)])) _
      refine XS.bipush X18.here hx rfl (hb hby d3_33) ?_
      show Steps p.tables e below (T18.setTop (mkF m 35 #[.val (.ref a1), .val (.int f1), .unset] [(.int (64 : Int32)), (.int f1), (.ref b)])) _
      refine XS.idiv X18.here hx rfl (hb hby d3_35) rfl (by decide : ¬ ((64 : Int32) = (0 : Int32))) ?_
      show Steps p.tables e below (T18.setTop (mkF m 36 #[.val (.ref a1), .val (.int f1), .unset] [(.int (f1 / (64 : Int32))), (.ref b)])) _
      refine XS.iconst X18.here hx rfl (hb hby d3_36) ?_
      show Steps p.tables e below (T18.setTop (mkF m 37 #[.val (.ref a1), .val (.int f1), .unset] [(.int (1 : Int32)), (.int (f1 / (64 : Int32))), (.ref b)])) _
      refine XS.isub X18.here hx rfl (hb hby d3_37) rfl ?_
      show Steps p.tables e below (T18.setTop (mkF m 38 #[.val (.ref a1), .val (.int f1), .unset] [(.int ((f1 / (64 : Int32)) - (1 : Int32))), (.ref b)])) _
      rw [hj]
      show Steps p.tables e below (T18.setTop (mkF m 38 #[.val (.ref a1), .val (.int f1), .unset] [(.int (2 : Int32)), (.ref b)])) _
      refine X18.laload hx (j := (2 : Int32)) (v := (.long v3)) (by rw [e18]; exact Ar19.1) (State.isArrayOf_alike hZ.alike Ar19.2.1) Ar19.2.2 hin19 hat19 (g := (mkF m 38 #[.val (.ref a1), .val (.int f1), .unset] [(.int (2 : Int32)), (.ref b)])) rfl rfl (hb hby d3_38) _ ?_
      show Steps p.tables e below (T18.setTop (mkF m 39 #[.val (.ref a1), .val (.int f1), .unset] [(.long v3)])) _
      refine XS.lconst X18.here hx rfl (hb hby d3_39) ?_
      show Steps p.tables e below (T18.setTop (mkF m 40 #[.val (.ref a1), .val (.int f1), .unset] [(.long (1 : Int64)), (.long v3)])) _
      refine XS.iloadN X18.here hx rfl (hb hby d3_40) rfl ?_
      show Steps p.tables e below (T18.setTop (mkF m 41 #[.val (.ref a1), .val (.int f1), .unset] [(.int f1), (.long (1 : Int64)), (.long v3)])) _
      refine XS.lshl X18.here hx rfl (hb hby d3_41) rfl ?_
      show Steps p.tables e below (T18.setTop (mkF m 42 #[.val (.ref a1), .val (.int f1), .unset] [(.long ((1 : Int64) <<< (f1 &&& 0x3f).toInt64)), (.long v3)])) _
      refine XS.land X18.here hx rfl (hb hby d3_42) rfl ?_
      show Steps p.tables e below (T18.setTop (mkF m 43 #[.val (.ref a1), .val (.int f1), .unset] [(.long (v3 &&& ((1 : Int64) <<< (f1 &&& 0x3f).toInt64)))])) _
      refine XS.lconst X18.here hx rfl (hb hby d3_43) ?_
      show Steps p.tables e below (T18.setTop (mkF m 44 #[.val (.ref a1), .val (.int f1), .unset] [(.long (0 : Int64)), (.long (v3 &&& ((1 : Int64) <<< (f1 &&& 0x3f).toInt64)))])) _
      refine XS.lcmp X18.here hx rfl (hb hby d3_44) rfl ?_
      exact kt
    by_cases c45_21 : (lcmpW (v3 &&& ((1 : Int64) <<< (f1 &&& 0x3f).toInt64)) (0 : Int64)) = (0 : Int32)
    · have pre22 : ∀ tt, Steps p.tables e below (T18.setTop (mkF m 55 #[.val (.ref a1), .val (.int f1), .val (.int (0 : Int32))] [(.int (0 : Int32))])) tt → Steps p.tables e below (s₁.setTop (entryFrame m #[(.ref a1), (.int f1)] 3)) tt := by
        intro tt kt
        refine pre20 tt ?_
        show Steps p.tables e below (T18.setTop (mkF m 45 #[.val (.ref a1), .val (.int f1), .unset] [(.int (lcmpW (v3 &&& ((1 : Int64) <<< (f1 &&& 0x3f).toInt64)) (0 : Int64)))])) _
        refine XS.ifYes X18.here hx rfl (pc0 := 45) (pc' := 52) rfl (hb hby d3_45) rfl ((if0 _ _).trans (teq c45_21).1) (by decide) (by decide) ?_
        show Steps p.tables e below (T18.setTop (mkF m 52 #[.val (.ref a1), .val (.int f1), .unset] [])) _
        refine XS.iconst X18.here hx rfl (hb hby d3_52) ?_
        show Steps p.tables e below (T18.setTop (mkF m 53 #[.val (.ref a1), .val (.int f1), .unset] [(.int (0 : Int32))])) _
        refine XS.istoreN X18.here hx rfl (hb hby d3_53) rfl (l' := #[.val (.ref a1), .val (.int f1), .val (.int (0 : Int32))]) rfl ?_
        show Steps p.tables e below (T18.setTop (mkF m 54 #[.val (.ref a1), .val (.int f1), .val (.int (0 : Int32))] [])) _
        refine XS.iloadN X18.here hx rfl (hb hby d3_54) rfl ?_
        exact kt
      obtain ⟨fs, hr, hrun, hended, hW, hsame⟩ := X18.leave (v := some (.int (0 : Int32))) (fun h => by rw [Bd.returns] at h; cases h)
      refine ⟨_, _, pre22 _ ?_, hrun, hended, _, _, rfl, ?_, ⟨_, rfl⟩, hW, hsame.mono (by decide) (by decide)⟩
      · show Steps p.tables e below (T18.setTop (mkF m 55 #[.val (.ref a1), .val (.int f1), .val (.int (0 : Int32))] [(.int (0 : Int32))])) _
        exact retN X18 hx (t := .boolean) Bd.returns (by simp) (hb hby d3_55) hr
      · show QI Z r h0 n0 _ T18.heap _
        rw [e18]
        exact ⟨by rw [hr0, if_pos ((lw_eq _ _).mp c45_21)], N0, rfl⟩
    · have pre23 : ∀ tt, Steps p.tables e below (T18.setTop (mkF m 55 #[.val (.ref a1), .val (.int f1), .val (.int (1 : Int32))] [(.int (1 : Int32))])) tt → Steps p.tables e below (s₁.setTop (entryFrame m #[(.ref a1), (.int f1)] 3)) tt := by
        intro tt kt
        refine pre20 tt ?_
        show Steps p.tables e below (T18.setTop (mkF m 45 #[.val (.ref a1), .val (.int f1), .unset] [(.int (lcmpW (v3 &&& ((1 : Int64) <<< (f1 &&& 0x3f).toInt64)) (0 : Int64)))])) _
        refine XS.ifNo X18.here hx rfl (hb hby d3_45) rfl ((if0 _ _).trans (feq c45_21).1) ?_
        show Steps p.tables e below (T18.setTop (mkF m 48 #[.val (.ref a1), .val (.int f1), .unset] [])) _
        refine XS.iconst X18.here hx rfl (hb hby d3_48) ?_
        show Steps p.tables e below (T18.setTop (mkF m 49 #[.val (.ref a1), .val (.int f1), .unset] [(.int (1 : Int32))])) _
        refine XS.goto X18.here hx rfl (pc0 := 49) (pc' := 53) rfl (hb hby d3_49) (by decide) (by decide) ?_
        show Steps p.tables e below (T18.setTop (mkF m 53 #[.val (.ref a1), .val (.int f1), .unset] [(.int (1 : Int32))])) _
        refine XS.istoreN X18.here hx rfl (hb hby d3_53) rfl (l' := #[.val (.ref a1), .val (.int f1), .val (.int (1 : Int32))]) rfl ?_
        show Steps p.tables e below (T18.setTop (mkF m 54 #[.val (.ref a1), .val (.int f1), .val (.int (1 : Int32))] [])) _
        refine XS.iloadN X18.here hx rfl (hb hby d3_54) rfl ?_
        exact kt
      obtain ⟨fs, hr, hrun, hended, hW, hsame⟩ := X18.leave (v := some (.int (1 : Int32))) (fun h => by rw [Bd.returns] at h; cases h)
      refine ⟨_, _, pre23 _ ?_, hrun, hended, _, _, rfl, ?_, ⟨_, rfl⟩, hW, hsame.mono (by decide) (by decide)⟩
      · show Steps p.tables e below (T18.setTop (mkF m 55 #[.val (.ref a1), .val (.int f1), .val (.int (1 : Int32))] [(.int (1 : Int32))])) _
        exact retN X18 hx (t := .boolean) Bd.returns (by simp) (hb hby d3_55) hr
      · show QI Z r h0 n0 _ T18.heap _
        rw [e18]
        exact ⟨by rw [hr0, if_neg (fun q => c45_21 ((lw_eq _ _).mpr q))], N0, rfl⟩
theorem d4_0 : decode prog_6_method_4_code 0 = .ok (.iload_n 1, 1) := by decide +kernel
theorem d4_1 : decode prog_6_method_4_code 1 = .ok (.bipush 64, 2) := by decide +kernel
theorem d4_3 : decode prog_6_method_4_code 3 = .ok (.if_icmp .ge 18, 3) := by decide +kernel
theorem d4_6 : decode prog_6_method_4_code 6 = .ok (.aload_n 0, 1) := by decide +kernel
theorem d4_7 : decode prog_6_method_4_code 7 = .ok (.dup, 1) := by decide +kernel
theorem d4_8 : decode prog_6_method_4_code 8 = .ok (.getfield 18, 3) := by decide +kernel
theorem d4_11 : decode prog_6_method_4_code 11 = .ok (.lconst 1, 1) := by decide +kernel
theorem d4_12 : decode prog_6_method_4_code 12 = .ok (.iload_n 1, 1) := by decide +kernel
theorem d4_13 : decode prog_6_method_4_code 13 = .ok (.lshl, 1) := by decide +kernel
theorem d4_14 : decode prog_6_method_4_code 14 = .ok (.lor, 1) := by decide +kernel
theorem d4_15 : decode prog_6_method_4_code 15 = .ok (.putfield 18, 3) := by decide +kernel
theorem d4_18 : decode prog_6_method_4_code 18 = .ok (.goto 20, 3) := by decide +kernel
theorem d4_21 : decode prog_6_method_4_code 21 = .ok (.aload_n 0, 1) := by decide +kernel
theorem d4_22 : decode prog_6_method_4_code 22 = .ok (.getfield 15, 3) := by decide +kernel
theorem d4_25 : decode prog_6_method_4_code 25 = .ok (.iload_n 1, 1) := by decide +kernel
theorem d4_26 : decode prog_6_method_4_code 26 = .ok (.bipush 64, 2) := by decide +kernel
theorem d4_28 : decode prog_6_method_4_code 28 = .ok (.idiv, 1) := by decide +kernel
theorem d4_29 : decode prog_6_method_4_code 29 = .ok (.iconst 1, 1) := by decide +kernel
theorem d4_30 : decode prog_6_method_4_code 30 = .ok (.isub, 1) := by decide +kernel
theorem d4_31 : decode prog_6_method_4_code 31 = .ok (.dup2, 1) := by decide +kernel
theorem d4_32 : decode prog_6_method_4_code 32 = .ok (.laload, 1) := by decide +kernel
theorem d4_33 : decode prog_6_method_4_code 33 = .ok (.lconst 1, 1) := by decide +kernel
theorem d4_34 : decode prog_6_method_4_code 34 = .ok (.iload_n 1, 1) := by decide +kernel
theorem d4_35 : decode prog_6_method_4_code 35 = .ok (.lshl, 1) := by decide +kernel
theorem d4_36 : decode prog_6_method_4_code 36 = .ok (.lor, 1) := by decide +kernel
theorem d4_37 : decode prog_6_method_4_code 37 = .ok (.lastore, 1) := by decide +kernel
theorem d4_38 : decode prog_6_method_4_code 38 = .ok (.return_, 1) := by decide +kernel
theorem pn_rmA : plainName "com/example/phase7/phase7/metadata/FieldSet" = true := by first | (simp [plainName, overriddenIn]; done) | decide +kernel
theorem ef_rmA (m : MethodId) (a1 : Addr) (f1 : Int32) : entryFrame m #[(.ref a1), (.int f1)] 2 = mkF m 0 #[.val (.ref a1), .val (.int f1)] [] := by first | (simp [entryFrame, mkF, argsToLocals, Value.category]; done) | rfl
set_option maxRecDepth 65536 in
set_option maxHeartbeats 40000000 in
theorem rmA (l : Launch) (Z : State) (a0 : Array Value) (hw : ∀ d ∈ tables_1, d.before a0 Z = true) (ws : List Jvm.Cond) (a1 b : Addr) (kb : ClassId) (f1 q1 z1 : Int32) (v0 v1 v2 v3 u0 u1 u2 u3 : Int64) (h0 : Heap) (n0 : Nat) (Z0 : n0 ≤ h0.size) (E_a1 : Exa Z h0 a1 "com/example/phase7/phase7/metadata/FieldSet") (F_f : Fld Z h0 a1 "com/example/phase7/phase7/metadata/FieldSet" "first" "J" (.long v0)) (F_g : Fld Z h0 a1 "com/example/phase7/phase7/metadata/FieldSet" "further" "[J" (.ref b)) (V_b : Arv Z h0 b kb .long z1 [(.long v1), (.long v2), (.long v3)] (.long (0 : Int64))) (hne : a1 ≠ b) (hq : f1 < (64 : Int32) ↔ q1 = 0) (hdv : f1 / (64 : Int32) = q1) (rq : q1 = 0 ∨ q1 = 1 ∨ q1 = 2 ∨ q1 = 3) (hz : q1.toInt ≤ z1.toInt) (g_a1 : n0 ≤ a1) (gz : ¬ z1 = 0 → n0 ≤ b) (hu0 : u0 = if q1 = 0 then (v0 ||| ((1 : Int64) <<< (f1 &&& 0x3f).toInt64)) else v0) (hu1 : u1 = if q1 = 1 then (v1 ||| ((1 : Int64) <<< (f1 &&& 0x3f).toInt64)) else v1) (hu2 : u2 = if q1 = 2 then (v2 ||| ((1 : Int64) <<< (f1 &&& 0x3f).toInt64)) else v2) (hu3 : u3 = if q1 = 3 then (v3 ||| ((1 : Int64) <<< (f1 &&& 0x3f).toInt64)) else v3) :
    MetFree l (⟨"com/example/phase7/phase7/metadata/FieldSet", "add", "(I)V"⟩ : MethodName) (head1 (Jvm.Cond.code (⟨"com/example/phase7/phase7/metadata/FieldSet", "add", "(I)V"⟩ : MethodName) prog_6_method_4_code 2 none :: ws) ({ frames := 0, cells := 0, slots := 0, locals := 0 } : Room)) (fun a U => a = #[(.ref a1), (.int f1)] ∧ Z.Warmed39 U.vm ∧ U.heap = h0) (fun _ _ _ _ _ => True) (fun _ U o U' => ∃ v L, o = .returned v ∧ QA Z a1 b kb z1 u0 u1 u2 u3 h0 n0 v U'.heap L ∧ FrameEnd U o U' L ({ frames := 0, cells := 0, slots := 0, locals := 0 } : Room).cells ({ frames := 0, cells := 0, slots := 0, locals := 0 } : Room).slots) := by
  refine MetFree.of_bodySF (plainFor_of_name pn_rmA) hisR ?_
  intro p e s m args below meth c s₁ Bd hml0 hP hK
  obtain ⟨rfl, hZ, hh⟩ := hP
  have hx := Bd.exec
  have hby := Bd.bytes
  have hml : c.maxLocals = 2 := hml0
  have hown : s.vm.findClass "com/example/phase7/phase7/metadata/FieldSet" = some m.cls := findClass_of_methodNamed Bd.named
  have hnm := (name_of_methodNamed Bd.named Bd.method).1
  have X0 : Stand p l e ({ frames := 0, cells := 0, slots := 0, locals := 0 } : Room) s m #[(.ref a1), (.int f1)] below meth c s₁ [] 0 0 := Stand.of_body Bd
  have e0 : s₁.heap = h0 := by rw [← hh, Bd.state]; rfl
  have N0 := Fr.nil n0
  have pre0 : ∀ tt, Steps p.tables e below (s₁.setTop (mkF m 0 #[.val (.ref a1), .val (.int f1)] [])) tt → Steps p.tables e below (s₁.setTop (entryFrame m #[(.ref a1), (.int f1)] 2)) tt := fun tt kt => castTop (ef_rmA m a1 f1) kt
  rcases rq with rfl | rfl | rfl | rfl
  · rw [if_pos rfl] at hu0
    rw [if_neg (by decide)] at hu1
    rw [if_neg (by decide)] at hu2
    rw [if_neg (by decide)] at hu3
    have hq0 : f1 < (64 : Int32) := hq.mpr rfl
    obtain ⟨T1, X1, e1, st1⟩ := getF X0 hx hZ hown (host := "") (Or.inl (hw _ (List.mem_of_getElem? (i := 19) rfl))) Via.refl e0 F_f (g := (mkF m 8 #[.val (.ref a1), .val (.int f1)] [(.ref a1), (.ref a1)])) rfl rfl (hb hby d4_8)
    obtain ⟨T2, h2, X2, e2, W2, st2⟩ := putF X1 hx hZ hown (host := "") (Or.inl (hw _ (List.mem_of_getElem? (i := 19) rfl))) Via.refl e1 F_f E_a1 (Or.inl (hw _ (List.mem_of_getElem? (i := 20) rfl))) (hw _ (List.mem_of_getElem? (i := 2) rfl)) (ty := .long) (by decide) rfl rfl (g := (mkF m 15 #[.val (.ref a1), .val (.int f1)] [(.long (v0 ||| ((1 : Int64) <<< (f1 &&& 0x3f).toInt64))), (.ref a1)])) rfl rfl (hb hby d4_15)
    have Fw2 := Fld.same W2 F_f
    have N2 := Fr.snoc X2 N0 g_a1
    have K2 : Keep h0 h2 [a1, b] := ((Keep.refl h0 [a1, b])).wr W2 (Or.inl (List.mem_of_getElem? (i := 0) rfl))
    have pre3 : ∀ tt, Steps p.tables e below (T2.setTop (mkF m 38 #[.val (.ref a1), .val (.int f1)] [])) tt → Steps p.tables e below (s₁.setTop (entryFrame m #[(.ref a1), (.int f1)] 2)) tt := by
      intro tt kt
      refine pre0 tt ?_
      show Steps p.tables e below (s₁.setTop (mkF m 0 #[.val (.ref a1), .val (.int f1)] [])) _
      refine XS.iloadN X0.here hx rfl (hb hby d4_0) rfl ?_
      show Steps p.tables e below (s₁.setTop (mkF m 1 #[.val (.ref a1), .val (.int f1)] [(.int f1)])) _
      refine XS.bipush X0.here hx rfl (hb hby d4_1) ?_
      show Steps p.tables e below (s₁.setTop (mkF m 3 #[.val (.ref a1), .val (.int f1)] [(.int (64 : Int32)), (.int f1)])) _
      refine XS.icmpNo X0.here hx rfl (hb hby d4_3) rfl (tlt (hq.mpr rfl)).2.1 ?_
      show Steps p.tables e below (s₁.setTop (mkF m 6 #[.val (.ref a1), .val (.int f1)] [])) _
      refine XS.aloadN X0.here hx rfl (hb hby d4_6) rfl rfl ?_
      show Steps p.tables e below (s₁.setTop (mkF m 7 #[.val (.ref a1), .val (.int f1)] [(.ref a1)])) _
      refine XS.dup X0.here hx rfl (hb hby d4_7) rfl rfl ?_
      show Steps p.tables e below (s₁.setTop (mkF m 8 #[.val (.ref a1), .val (.int f1)] [(.ref a1), (.ref a1)])) _
      refine st1 _ ?_
      show Steps p.tables e below (T1.setTop (mkF m 11 #[.val (.ref a1), .val (.int f1)] [(.long v0), (.ref a1)])) _
      refine XS.lconst X1.here hx rfl (hb hby d4_11) ?_
      show Steps p.tables e below (T1.setTop (mkF m 12 #[.val (.ref a1), .val (.int f1)] [(.long (1 : Int64)), (.long v0), (.ref a1)])) _
      refine XS.iloadN X1.here hx rfl (hb hby d4_12) rfl ?_
      show Steps p.tables e below (T1.setTop (mkF m 13 #[.val (.ref a1), .val (.int f1)] [(.int f1), (.long (1 : Int64)), (.long v0), (.ref a1)])) _
      refine XS.lshl X1.here hx rfl (hb hby d4_13) rfl ?_
      show Steps p.tables e below (T1.setTop (mkF m 14 #[.val (.ref a1), .val (.int f1)] [(.long ((1 : Int64) <<< (f1 &&& 0x3f).toInt64)), (.long v0), (.ref a1)])) _
      refine XS.lor X1.here hx rfl (hb hby d4_14) rfl ?_
      show Steps p.tables e below (T1.setTop (mkF m 15 #[.val (.ref a1), .val (.int f1)] [(.long (v0 ||| ((1 : Int64) <<< (f1 &&& 0x3f).toInt64))), (.ref a1)])) _
      refine st2 _ ?_
      show Steps p.tables e below (T2.setTop (mkF m 18 #[.val (.ref a1), .val (.int f1)] [])) _
      refine XS.goto X2.here hx rfl (pc0 := 18) (pc' := 38) rfl (hb hby d4_18) (by decide) (by decide) ?_
      exact kt
    obtain ⟨fs, hr, hrun, hended, hW, hsame⟩ := X2.leave (v := none) (fun _ => rfl)
    refine ⟨_, _, pre3 _ ?_, hrun, hended, _, _, rfl, ?_, ⟨_, rfl⟩, hW, hsame.mono (by decide) (by decide)⟩
    · show Steps p.tables e below (T2.setTop (mkF m 38 #[.val (.ref a1), .val (.int f1)] [])) _
      exact X2.returnOut hx Bd.returns (hb hby d4_38) hr
    · show QA Z a1 b kb z1 u0 u1 u2 u3 h0 n0 _ T2.heap _
      rw [e2]
      rw [hu0, hu1, hu2, hu3]
      exact ⟨rfl, N2, K2, (Exa.wr W2 E_a1), Fw2, (Fld.other W2 F_g (Or.inr (slot_ne (Or.inr (hw _ (List.mem_of_getElem? (i := 13) rfl))) (Or.inl (hw _ (List.mem_of_getElem? (i := 20) rfl))) (by decide) (t := (.array .long)) (t' := .long) (by decide) (by decide)))), (V_b.other W2 (Ne.symm hne))⟩
  · rw [if_neg (by decide)] at hu0
    rw [if_pos rfl] at hu1
    rw [if_neg (by decide)] at hu2
    rw [if_neg (by decide)] at hu3
    have hj : ((f1 / (64 : Int32)) - (1 : Int32)) = (0 : Int32) := by rw [hdv]; decide
    have hin : ¬ (0 : Int32) < 0 ∧ (0 : Int32) < z1 := ⟨by decide, own_jz hz (by decide)⟩
    have g_b : n0 ≤ b := gz (fun q => by rw [q] at hz; exact absurd hz (by decide))
    obtain ⟨T4, X4, e4, st4⟩ := getF X0 hx hZ hown (host := "") (Or.inl (hw _ (List.mem_of_getElem? (i := 12) rfl))) Via.refl e0 F_g (g := (mkF m 22 #[.val (.ref a1), .val (.int f1)] [(.ref a1)])) rfl rfl (hb hby d4_22)
    have VO5 := V_b
    obtain ⟨cl5, Ar5, q5, S5, M5, H5, G5⟩ := VO5
    have hin5 : ¬ ((0 : Int32) < 0 ∨ cl5.slots.size ≤ ((0 : Int32)).toNatClampNeg) := inb_of S5 hin
    have hat5 : cl5.slots[((0 : Int32)).toNatClampNeg]? = some (.long v1) := H5.at hin5 rfl
    have VO6 := V_b
    obtain ⟨cl6, Ar6, q6, S6, M6, H6, G6⟩ := VO6
    have hin6 : ¬ ((0 : Int32) < 0 ∨ cl6.slots.size ≤ ((0 : Int32)).toNatClampNeg) := inb_of S6 hin
    obtain ⟨T7, h7, X7, e7, W7, st7⟩ := stJ X4 hx hZ e4 Ar6 (j := (0 : Int32)) hin6 (g := (mkF m 37 #[.val (.ref a1), .val (.int f1)] [(.long (v1 ||| ((1 : Int64) <<< (f1 &&& 0x3f).toInt64))), (.int (0 : Int32)), (.ref b)])) rfl rfl (hb hby d4_37)
    have N7 := Fr.snoc X7 N0 g_b
    have K7 : Keep h0 h7 [a1, b] := ((Keep.refl h0 [a1, b])).wr W7 (Or.inl (List.mem_of_getElem? (i := 1) rfl))
    have V7 : Arv Z h7 b kb .long z1 [(.long (v1 ||| ((1 : Int64) <<< (f1 &&& 0x3f).toInt64))), (.long v2), (.long v3)] (.long (0 : Int64)) := Arv.set Ar6 q6 S6 M6 H6 G6 rfl W7 0 rfl (Nat.le_of_ble_eq_true rfl)
    have pre8 : ∀ tt, Steps p.tables e below (T7.setTop (mkF m 38 #[.val (.ref a1), .val (.int f1)] [])) tt → Steps p.tables e below (s₁.setTop (entryFrame m #[(.ref a1), (.int f1)] 2)) tt := by
      intro tt kt
      refine pre0 tt ?_
      show Steps p.tables e below (s₁.setTop (mkF m 0 #[.val (.ref a1), .val (.int f1)] [])) _
      refine XS.iloadN X0.here hx rfl (hb hby d4_0) rfl ?_
      show Steps p.tables e below (s₁.setTop (mkF m 1 #[.val (.ref a1), .val (.int f1)] [(.int f1)])) _
      refine XS.bipush X0.here hx rfl (hb hby d4_1) ?_
      show Steps p.tables e below (s₁.setTop (mkF m 3 #[.val (.ref a1), .val (.int f1)] [(.int (64 : Int32)), (.int f1)])) _
      refine XS.icmpYes X0.here hx rfl (pc0 := 3) (pc' := 21) rfl (hb hby d4_3) rfl (flt (fun q => absurd (hq.mp q) (by decide))).2.1 (by decide) (by decide) ?_
      show Steps p.tables e below (s₁.setTop (mkF m 21 #[.val (.ref a1), .val (.int f1)] [])) _
      refine XS.aloadN X0.here hx rfl (hb hby d4_21) rfl rfl ?_
      show Steps p.tables e below (s₁.setTop (mkF m 22 #[.val (.ref a1), .val (.int f1)] [(.ref a1)])) _
      refine st4 _ ?_
      show Steps p.tables e below (T4.setTop (mkF m 25 #[.val (.ref a1), .val (.int f1)] [(.ref b)])) _
      refine XS.iloadN X4.here hx rfl (hb hby d4_25) rfl ?_
      show Steps p.tables e below (T4.setTop (mkF m 26 #[.val (.ref a1), .val (.int f1)] [(.int f1), (.ref b)])) _
      refine XS.bipush X4.here hx rfl (hb hby d4_26) ?_
      show Steps p.tables e below (T4.setTop (mkF m 28 #[.val (.ref a1), .val (.int f1)] [(.int (64 : Int32)), (.int f1), (.ref b)])) _
      refine XS.idiv X4.here hx rfl (hb hby d4_28) rfl (by decide : ¬ ((64 : Int32) = (0 : Int32))) ?_
      show Steps p.tables e below (T4.setTop (mkF m 29 #[.val (.ref a1), .val (.int f1)] [(.int (f1 / (64 : Int32))), (.ref b)])) _
      refine XS.iconst X4.here hx rfl (hb hby d4_29) ?_
      show Steps p.tables e below (T4.setTop (mkF m 30 #[.val (.ref a1), .val (.int f1)] [(.int (1 : Int32)), (.int (f1 / (64 : Int32))), (.ref b)])) _
      refine XS.isub X4.here hx rfl (hb hby d4_30) rfl ?_
      show Steps p.tables e below (T4.setTop (mkF m 31 #[.val (.ref a1), .val (.int f1)] [(.int ((f1 / (64 : Int32)) - (1 : Int32))), (.ref b)])) _
      rw [hj]
      show Steps p.tables e below (T4.setTop (mkF m 31 #[.val (.ref a1), .val (.int f1)] [(.int (0 : Int32)), (.ref b)])) _
      refine XT.dup2 X4.here hx rfl (hb hby d4_31) rfl rfl rfl ?_
      show Steps p.tables e below (T4.setTop (mkF m 32 #[.val (.ref a1), .val (.int f1)] [(.int (0 : Int32)), (.ref b), (.int (0 : Int32)), (.ref b)])) _
      refine X4.laload hx (j := (0 : Int32)) (v := (.long v1)) (by rw [e4]; exact Ar5.1) (State.isArrayOf_alike hZ.alike Ar5.2.1) Ar5.2.2 hin5 hat5 (g := (mkF m 32 #[.val (.ref a1), .val (.int f1)] [(.int (0 : Int32)), (.ref b), (.int (0 : Int32)), (.ref b)])) rfl rfl (hb hby d4_32) _ ?_
      show Steps p.tables e below (T4.setTop (mkF m 33 #[.val (.ref a1), .val (.int f1)] [(.long v1), (.int (0 : Int32)), (.ref b)])) _
      refine XS.lconst X4.here hx rfl (hb hby d4_33) ?_
      show Steps p.tables e below (T4.setTop (mkF m 34 #[.val (.ref a1), .val (.int f1)] [(.long (1 : Int64)), (.long v1), (.int (0 : Int32)), (.ref b)])) _
      refine XS.iloadN X4.here hx rfl (hb hby d4_34) rfl ?_
      show Steps p.tables e below (T4.setTop (mkF m 35 #[.val (.ref a1), .val (.int f1)] [(.int f1), (.long (1 : Int64)), (.long v1), (.int (0 : Int32)), (.ref b)])) _
      refine XS.lshl X4.here hx rfl (hb hby d4_35) rfl ?_
      show Steps p.tables e below (T4.setTop (mkF m 36 #[.val (.ref a1), .val (.int f1)] [(.long ((1 : Int64) <<< (f1 &&& 0x3f).toInt64)), (.long v1), (.int (0 : Int32)), (.ref b)])) _
      refine XS.lor X4.here hx rfl (hb hby d4_36) rfl ?_
      show Steps p.tables e below (T4.setTop (mkF m 37 #[.val (.ref a1), .val (.int f1)] [(.long (v1 ||| ((1 : Int64) <<< (f1 &&& 0x3f).toInt64))), (.int (0 : Int32)), (.ref b)])) _
      refine st7 _ ?_
      exact kt
    obtain ⟨fs, hr, hrun, hended, hW, hsame⟩ := X7.leave (v := none) (fun _ => rfl)
    refine ⟨_, _, pre8 _ ?_, hrun, hended, _, _, rfl, ?_, ⟨_, rfl⟩, hW, hsame.mono (by decide) (by decide)⟩
    · show Steps p.tables e below (T7.setTop (mkF m 38 #[.val (.ref a1), .val (.int f1)] [])) _
      exact X7.returnOut hx Bd.returns (hb hby d4_38) hr
    · show QA Z a1 b kb z1 u0 u1 u2 u3 h0 n0 _ T7.heap _
      rw [e7]
      rw [hu0, hu1, hu2, hu3]
      exact ⟨rfl, N7, K7, (Exa.wr W7 E_a1), (Fld.other W7 F_f (Or.inl hne)), (Fld.other W7 F_g (Or.inl hne)), V7⟩
  · rw [if_neg (by decide)] at hu0
    rw [if_neg (by decide)] at hu1
    rw [if_pos rfl] at hu2
    rw [if_neg (by decide)] at hu3
    have hj : ((f1 / (64 : Int32)) - (1 : Int32)) = (1 : Int32) := by rw [hdv]; decide
    have hin : ¬ (1 : Int32) < 0 ∧ (1 : Int32) < z1 := ⟨by decide, own_jz hz (by decide)⟩
    have g_b : n0 ≤ b := gz (fun q => by rw [q] at hz; exact absurd hz (by decide))
    obtain ⟨T9, X9, e9, st9⟩ := getF X0 hx hZ hown (host := "") (Or.inl (hw _ (List.mem_of_getElem? (i := 12) rfl))) Via.refl e0 F_g (g := (mkF m 22 #[.val (.ref a1), .val (.int f1)] [(.ref a1)])) rfl rfl (hb hby d4_22)
    have VO10 := V_b
    obtain ⟨cl10, Ar10, q10, S10, M10, H10, G10⟩ := VO10
    have hin10 : ¬ ((1 : Int32) < 0 ∨ cl10.slots.size ≤ ((1 : Int32)).toNatClampNeg) := inb_of S10 hin
    have hat10 : cl10.slots[((1 : Int32)).toNatClampNeg]? = some (.long v2) := H10.at hin10 rfl
    have VO11 := V_b
    obtain ⟨cl11, Ar11, q11, S11, M11, H11, G11⟩ := VO11
    have hin11 : ¬ ((1 : Int32) < 0 ∨ cl11.slots.size ≤ ((1 : Int32)).toNatClampNeg) := inb_of S11 hin
    obtain ⟨T12, h12, X12, e12, W12, st12⟩ := stJ X9 hx hZ e9 Ar11 (j := (1 : Int32)) hin11 (g := (mkF m 37 #[.val (.ref a1), .val (.int f1)] [(.long (v2 ||| ((1 : Int64) <<< (f1 &&& 0x3f).toInt64))), (.int (1 : Int32)), (.ref b)])) rfl rfl (hb hby d4_37)
    have N12 := Fr.snoc X12 N0 g_b
    have K12 : Keep h0 h12 [a1, b] := ((Keep.refl h0 [a1, b])).wr W12 (Or.inl (List.mem_of_getElem? (i := 1) rfl))
    have V12 : Arv Z h12 b kb .long z1 [(.long v1), (.long (v2 ||| ((1 : Int64) <<< (f1 &&& 0x3f).toInt64))), (.long v3)] (.long (0 : Int64)) := Arv.set Ar11 q11 S11 M11 H11 G11 rfl W12 1 rfl (Nat.le_of_ble_eq_true rfl)
    have pre13 : ∀ tt, Steps p.tables e below (T12.setTop (mkF m 38 #[.val (.ref a1), .val (.int f1)] [])) tt → Steps p.tables e below (s₁.setTop (entryFrame m #[(.ref a1), (.int f1)] 2)) tt := by
      intro tt kt
      refine pre0 tt ?_
      show Steps p.tables e below (s₁.setTop (mkF m 0 #[.val (.ref a1), .val (.int f1)] [])) _
      refine XS.iloadN X0.here hx rfl (hb hby d4_0) rfl ?_
      show Steps p.tables e below (s₁.setTop (mkF m 1 #[.val (.ref a1), .val (.int f1)] [(.int f1)])) _
      refine XS.bipush X0.here hx rfl (hb hby d4_1) ?_
      show Steps p.tables e below (s₁.setTop (mkF m 3 #[.val (.ref a1), .val (.int f1)] [(.int (64 : Int32)), (.int f1)])) _
      refine XS.icmpYes X0.here hx rfl (pc0 := 3) (pc' := 21) rfl (hb hby d4_3) rfl (flt (fun q => absurd (hq.mp q) (by decide))).2.1 (by decide) (by decide) ?_
      show Steps p.tables e below (s₁.setTop (mkF m 21 #[.val (.ref a1), .val (.int f1)] [])) _
      refine XS.aloadN X0.here hx rfl (hb hby d4_21) rfl rfl ?_
      show Steps p.tables e below (s₁.setTop (mkF m 22 #[.val (.ref a1), .val (.int f1)] [(.ref a1)])) _
      refine st9 _ ?_
      show Steps p.tables e below (T9.setTop (mkF m 25 #[.val (.ref a1), .val (.int f1)] [(.ref b)])) _
      refine XS.iloadN X9.here hx rfl (hb hby d4_25) rfl ?_
      show Steps p.tables e below (T9.setTop (mkF m 26 #[.val (.ref a1), .val (.int f1)] [(.int f1), (.ref b)])) _
      refine XS.bipush X9.here hx rfl (hb hby d4_26) ?_
      show Steps p.tables e below (T9.setTop (mkF m 28 #[.val (.ref a1), .val (.int f1)] [(.int (64 : Int32)), (.int f1), (.ref b)])) _
      refine XS.idiv X9.here hx rfl (hb hby d4_28) rfl (by decide : ¬ ((64 : Int32) = (0 : Int32))) ?_
      show Steps p.tables e below (T9.setTop (mkF m 29 #[.val (.ref a1), .val (.int f1)] [(.int (f1 / (64 : Int32))), (.ref b)])) _
      refine XS.iconst X9.here hx rfl (hb hby d4_29) ?_
      show Steps p.tables e below (T9.setTop (mkF m 30 #[.val (.ref a1), .val (.int f1)] [(.int (1 : Int32)), (.int (f1 / (64 : Int32))), (.ref b)])) _
      refine XS.isub X9.here hx rfl (hb hby d4_30) rfl ?_
      show Steps p.tables e below (T9.setTop (mkF m 31 #[.val (.ref a1), .val (.int f1)] [(.int ((f1 / (64 : Int32)) - (1 : Int32))), (.ref b)])) _
      rw [hj]
      show Steps p.tables e below (T9.setTop (mkF m 31 #[.val (.ref a1), .val (.int f1)] [(.int (1 : Int32)), (.ref b)])) _
      refine XT.dup2 X9.here hx rfl (hb hby d4_31) rfl rfl rfl ?_
      show Steps p.tables e below (T9.setTop (mkF m 32 #[.val (.ref a1), .val (.int f1)] [(.int (1 : Int32)), (.ref b), (.int (1 : Int32)), (.ref b)])) _
      refine X9.laload hx (j := (1 : Int32)) (v := (.long v2)) (by rw [e9]; exact Ar10.1) (State.isArrayOf_alike hZ.alike Ar10.2.1) Ar10.2.2 hin10 hat10 (g := (mkF m 32 #[.val (.ref a1), .val (.int f1)] [(.int (1 : Int32)), (.ref b), (.int (1 : Int32)), (.ref b)])) rfl rfl (hb hby d4_32) _ ?_
      show Steps p.tables e below (T9.setTop (mkF m 33 #[.val (.ref a1), .val (.int f1)] [(.long v2), (.int (1 : Int32)), (.ref b)])) _
      refine XS.lconst X9.here hx rfl (hb hby d4_33) ?_
      show Steps p.tables e below (T9.setTop (mkF m 34 #[.val (.ref a1), .val (.int f1)] [(.long (1 : Int64)), (.long v2), (.int (1 : Int32)), (.ref b)])) _
      refine XS.iloadN X9.here hx rfl (hb hby d4_34) rfl ?_
      show Steps p.tables e below (T9.setTop (mkF m 35 #[.val (.ref a1), .val (.int f1)] [(.int f1), (.long (1 : Int64)), (.long v2), (.int (1 : Int32)), (.ref b)])) _
      refine XS.lshl X9.here hx rfl (hb hby d4_35) rfl ?_
      show Steps p.tables e below (T9.setTop (mkF m 36 #[.val (.ref a1), .val (.int f1)] [(.long ((1 : Int64) <<< (f1 &&& 0x3f).toInt64)), (.long v2), (.int (1 : Int32)), (.ref b)])) _
      refine XS.lor X9.here hx rfl (hb hby d4_36) rfl ?_
      show Steps p.tables e below (T9.setTop (mkF m 37 #[.val (.ref a1), .val (.int f1)] [(.long (v2 ||| ((1 : Int64) <<< (f1 &&& 0x3f).toInt64))), (.int (1 : Int32)), (.ref b)])) _
      refine st12 _ ?_
      exact kt
    obtain ⟨fs, hr, hrun, hended, hW, hsame⟩ := X12.leave (v := none) (fun _ => rfl)
    refine ⟨_, _, pre13 _ ?_, hrun, hended, _, _, rfl, ?_, ⟨_, rfl⟩, hW, hsame.mono (by decide) (by decide)⟩
    · show Steps p.tables e below (T12.setTop (mkF m 38 #[.val (.ref a1), .val (.int f1)] [])) _
      exact X12.returnOut hx Bd.returns (hb hby d4_38) hr
    · show QA Z a1 b kb z1 u0 u1 u2 u3 h0 n0 _ T12.heap _
      rw [e12]
      rw [hu0, hu1, hu2, hu3]
      exact ⟨rfl, N12, K12, (Exa.wr W12 E_a1), (Fld.other W12 F_f (Or.inl hne)), (Fld.other W12 F_g (Or.inl hne)), V12⟩
  · rw [if_neg (by decide)] at hu0
    rw [if_neg (by decide)] at hu1
    rw [if_neg (by decide)] at hu2
    rw [if_pos rfl] at hu3
    have hj : ((f1 / (64 : Int32)) - (1 : Int32)) = (2 : Int32) := by rw [hdv]; decide
    have hin : ¬ (2 : Int32) < 0 ∧ (2 : Int32) < z1 := ⟨by decide, own_jz hz (by decide)⟩
    have g_b : n0 ≤ b := gz (fun q => by rw [q] at hz; exact absurd hz (by decide))
    obtain ⟨T14, X14, e14, st14⟩ := getF X0 hx hZ hown (host := "") (Or.inl (hw _ (List.mem_of_getElem? (i := 12) rfl))) Via.refl e0 F_g (g := (mkF m 22 #[.val (.ref a1), .val (.int f1)] [(.ref a1)])) rfl rfl (hb hby d4_22)
    have VO15 := V_b
    obtain ⟨cl15, Ar15, q15, S15, M15, H15, G15⟩ := VO15
    have hin15 : ¬ ((2 : Int32) < 0 ∨ cl15.slots.size ≤ ((2 : Int32)).toNatClampNeg) := inb_of S15 hin
    have hat15 : cl15.slots[((2 : Int32)).toNatClampNeg]? = some (.long v3) := H15.at hin15 rfl
    have VO16 := V_b
    obtain ⟨cl16, Ar16, q16, S16, M16, H16, G16⟩ := VO16
    have hin16 : ¬ ((2 : Int32) < 0 ∨ cl16.slots.size ≤ ((2 : Int32)).toNatClampNeg) := inb_of S16 hin
    obtain ⟨T17, h17, X17, e17, W17, st17⟩ := stJ X14 hx hZ e14 Ar16 (j := (2 : Int32)) hin16 (g := (mkF m 37 #[.val (.ref a1), .val (.int f1)] [(.long (v3 ||| ((1 : Int64) <<< (f1 &&& 0x3f).toInt64))), (.int (2 : Int32)), (.ref b)])) rfl rfl (hb hby d4_37)
    have N17 := Fr.snoc X17 N0 g_b
    have K17 : Keep h0 h17 [a1, b] := ((Keep.refl h0 [a1, b])).wr W17 (Or.inl (List.mem_of_getElem? (i := 1) rfl))
    have V17 : Arv Z h17 b kb .long z1 [(.long v1), (.long v2), (.long (v3 ||| ((1 : Int64) <<< (f1 &&& 0x3f).toInt64)))] (.long (0 : Int64)) := Arv.set Ar16 q16 S16 M16 H16 G16 rfl W17 2 rfl (Nat.le_of_ble_eq_true rfl)
    have pre18 : ∀ tt, Steps p.tables e below (T17.setTop (mkF m 38 #[.val (.ref a1), .val (.int f1)] [])) tt → Steps p.tables e below (s₁.setTop (entryFrame m #[(.ref a1), (.int f1)] 2)) tt := by
      intro tt kt
      refine pre0 tt ?_
      show Steps p.tables e below (s₁.setTop (mkF m 0 #[.val (.ref a1), .val (.int f1)] [])) _
      refine XS.iloadN X0.here hx rfl (hb hby d4_0) rfl ?_
      show Steps p.tables e below (s₁.setTop (mkF m 1 #[.val (.ref a1), .val (.int f1)] [(.int f1)])) _
      refine XS.bipush X0.here hx rfl (hb hby d4_1) ?_
      show Steps p.tables e below (s₁.setTop (mkF m 3 #[.val (.ref a1), .val (.int f1)] [(.int (64 : Int32)), (.int f1)])) _
      refine XS.icmpYes X0.here hx rfl (pc0 := 3) (pc' := 21) rfl (hb hby d4_3) rfl (flt (fun q => absurd (hq.mp q) (by decide))).2.1 (by decide) (by decide) ?_
      show Steps p.tables e below (s₁.setTop (mkF m 21 #[.val (.ref a1), .val (.int f1)] [])) _
      refine XS.aloadN X0.here hx rfl (hb hby d4_21) rfl rfl ?_
      show Steps p.tables e below (s₁.setTop (mkF m 22 #[.val (.ref a1), .val (.int f1)] [(.ref a1)])) _
      refine st14 _ ?_
      show Steps p.tables e below (T14.setTop (mkF m 25 #[.val (.ref a1), .val (.int f1)] [(.ref b)])) _
      refine XS.iloadN X14.here hx rfl (hb hby d4_25) rfl ?_
      show Steps p.tables e below (T14.setTop (mkF m 26 #[.val (.ref a1), .val (.int f1)] [(.int f1), (.ref b)])) _
      refine XS.bipush X14.here hx rfl (hb hby d4_26) ?_
      show Steps p.tables e below (T14.setTop (mkF m 28 #[.val (.ref a1), .val (.int f1)] [(.int (64 : Int32)), (.int f1), (.ref b)])) _
      refine XS.idiv X14.here hx rfl (hb hby d4_28) rfl (by decide : ¬ ((64 : Int32) = (0 : Int32))) ?_
      show Steps p.tables e below (T14.setTop (mkF m 29 #[.val (.ref a1), .val (.int f1)] [(.int (f1 / (64 : Int32))), (.ref b)])) _
      refine XS.iconst X14.here hx rfl (hb hby d4_29) ?_
      show Steps p.tables e below (T14.setTop (mkF m 30 #[.val (.ref a1), .val (.int f1)] [(.int (1 : Int32)), (.int (f1 / (64 : Int32))), (.ref b)])) _
      refine XS.isub X14.here hx rfl (hb hby d4_30) rfl ?_
      show Steps p.tables e below (T14.setTop (mkF m 31 #[.val (.ref a1), .val (.int f1)] [(.int ((f1 / (64 : Int32)) - (1 : Int32))), (.ref b)])) _
      rw [hj]
      show Steps p.tables e below (T14.setTop (mkF m 31 #[.val (.ref a1), .val (.int f1)] [(.int (2 : Int32)), (.ref b)])) _
      refine XT.dup2 X14.here hx rfl (hb hby d4_31) rfl rfl rfl ?_
      show Steps p.tables e below (T14.setTop (mkF m 32 #[.val (.ref a1), .val (.int f1)] [(.int (2 : Int32)), (.ref b), (.int (2 : Int32)), (.ref b)])) _
      refine X14.laload hx (j := (2 : Int32)) (v := (.long v3)) (by rw [e14]; exact Ar15.1) (State.isArrayOf_alike hZ.alike Ar15.2.1) Ar15.2.2 hin15 hat15 (g := (mkF m 32 #[.val (.ref a1), .val (.int f1)] [(.int (2 : Int32)), (.ref b), (.int (2 : Int32)), (.ref b)])) rfl rfl (hb hby d4_32) _ ?_
      show Steps p.tables e below (T14.setTop (mkF m 33 #[.val (.ref a1), .val (.int f1)] [(.long v3), (.int (2 : Int32)), (.ref b)])) _
      refine XS.lconst X14.here hx rfl (hb hby d4_33) ?_
      show Steps p.tables e below (T14.setTop (mkF m 34 #[.val (.ref a1), .val (.int f1)] [(.long (1 : Int64)), (.long v3), (.int (2 : Int32)), (.ref b)])) _
      refine XS.iloadN X14.here hx rfl (hb hby d4_34) rfl ?_
      show Steps p.tables e below (T14.setTop (mkF m 35 #[.val (.ref a1), .val (.int f1)] [(.int f1), (.long (1 : Int64)), (.long v3), (.int (2 : Int32)), (.ref b)])) _
      refine XS.lshl X14.here hx rfl (hb hby d4_35) rfl ?_
      show Steps p.tables e below (T14.setTop (mkF m 36 #[.val (.ref a1), .val (.int f1)] [(.long ((1 : Int64) <<< (f1 &&& 0x3f).toInt64)), (.long v3), (.int (2 : Int32)), (.ref b)])) _
      refine XS.lor X14.here hx rfl (hb hby d4_36) rfl ?_
      show Steps p.tables e below (T14.setTop (mkF m 37 #[.val (.ref a1), .val (.int f1)] [(.long (v3 ||| ((1 : Int64) <<< (f1 &&& 0x3f).toInt64))), (.int (2 : Int32)), (.ref b)])) _
      refine st17 _ ?_
      exact kt
    obtain ⟨fs, hr, hrun, hended, hW, hsame⟩ := X17.leave (v := none) (fun _ => rfl)
    refine ⟨_, _, pre18 _ ?_, hrun, hended, _, _, rfl, ?_, ⟨_, rfl⟩, hW, hsame.mono (by decide) (by decide)⟩
    · show Steps p.tables e below (T17.setTop (mkF m 38 #[.val (.ref a1), .val (.int f1)] [])) _
      exact X17.returnOut hx Bd.returns (hb hby d4_38) hr
    · show QA Z a1 b kb z1 u0 u1 u2 u3 h0 n0 _ T17.heap _
      rw [e17]
      rw [hu0, hu1, hu2, hu3]
      exact ⟨rfl, N17, K17, (Exa.wr W17 E_a1), (Fld.other W17 F_f (Or.inl hne)), (Fld.other W17 F_g (Or.inl hne)), V17⟩
theorem d5_0 : decode prog_6_method_5_code 0 = .ok (.iload_n 1, 1) := by decide +kernel
theorem d5_1 : decode prog_6_method_5_code 1 = .ok (.bipush 64, 2) := by decide +kernel
theorem d5_3 : decode prog_6_method_5_code 3 = .ok (.if_icmp .ge 22, 3) := by decide +kernel
theorem d5_6 : decode prog_6_method_5_code 6 = .ok (.aload_n 0, 1) := by decide +kernel
theorem d5_7 : decode prog_6_method_5_code 7 = .ok (.dup, 1) := by decide +kernel
theorem d5_8 : decode prog_6_method_5_code 8 = .ok (.getfield 18, 3) := by decide +kernel
theorem d5_11 : decode prog_6_method_5_code 11 = .ok (.lconst 1, 1) := by decide +kernel
theorem d5_12 : decode prog_6_method_5_code 12 = .ok (.iload_n 1, 1) := by decide +kernel
theorem d5_13 : decode prog_6_method_5_code 13 = .ok (.lshl, 1) := by decide +kernel
theorem d5_14 : decode prog_6_method_5_code 14 = .ok (.ldc2_w 22, 3) := by decide +kernel
theorem d5_17 : decode prog_6_method_5_code 17 = .ok (.lxor, 1) := by decide +kernel
theorem d5_18 : decode prog_6_method_5_code 18 = .ok (.land, 1) := by decide +kernel
theorem d5_19 : decode prog_6_method_5_code 19 = .ok (.putfield 18, 3) := by decide +kernel
theorem d5_22 : decode prog_6_method_5_code 22 = .ok (.goto 24, 3) := by decide +kernel
theorem d5_25 : decode prog_6_method_5_code 25 = .ok (.aload_n 0, 1) := by decide +kernel
theorem d5_26 : decode prog_6_method_5_code 26 = .ok (.getfield 15, 3) := by decide +kernel
theorem d5_29 : decode prog_6_method_5_code 29 = .ok (.iload_n 1, 1) := by decide +kernel
theorem d5_30 : decode prog_6_method_5_code 30 = .ok (.bipush 64, 2) := by decide +kernel
theorem d5_32 : decode prog_6_method_5_code 32 = .ok (.idiv, 1) := by decide +kernel
theorem d5_33 : decode prog_6_method_5_code 33 = .ok (.iconst 1, 1) := by decide +kernel
theorem d5_34 : decode prog_6_method_5_code 34 = .ok (.isub, 1) := by decide +kernel
theorem d5_35 : decode prog_6_method_5_code 35 = .ok (.dup2, 1) := by decide +kernel
theorem d5_36 : decode prog_6_method_5_code 36 = .ok (.laload, 1) := by decide +kernel
theorem d5_37 : decode prog_6_method_5_code 37 = .ok (.lconst 1, 1) := by decide +kernel
theorem d5_38 : decode prog_6_method_5_code 38 = .ok (.iload_n 1, 1) := by decide +kernel
theorem d5_39 : decode prog_6_method_5_code 39 = .ok (.lshl, 1) := by decide +kernel
theorem d5_40 : decode prog_6_method_5_code 40 = .ok (.ldc2_w 22, 3) := by decide +kernel
theorem d5_43 : decode prog_6_method_5_code 43 = .ok (.lxor, 1) := by decide +kernel
theorem d5_44 : decode prog_6_method_5_code 44 = .ok (.land, 1) := by decide +kernel
theorem d5_45 : decode prog_6_method_5_code 45 = .ok (.lastore, 1) := by decide +kernel
theorem d5_46 : decode prog_6_method_5_code 46 = .ok (.return_, 1) := by decide +kernel
theorem pn_rmR : plainName "com/example/phase7/phase7/metadata/FieldSet" = true := by first | (simp [plainName, overriddenIn]; done) | decide +kernel
theorem ef_rmR (m : MethodId) (a1 : Addr) (f1 : Int32) : entryFrame m #[(.ref a1), (.int f1)] 2 = mkF m 0 #[.val (.ref a1), .val (.int f1)] [] := by first | (simp [entryFrame, mkF, argsToLocals, Value.category]; done) | rfl
set_option maxRecDepth 65536 in
set_option maxHeartbeats 40000000 in
theorem rmR (l : Launch) (Z : State) (a0 : Array Value) (hw : ∀ d ∈ tables_1, d.before a0 Z = true) (ws : List Jvm.Cond) (a1 b : Addr) (kb : ClassId) (f1 q1 z1 : Int32) (v0 v1 v2 v3 u0 u1 u2 u3 : Int64) (h0 : Heap) (n0 : Nat) (Z0 : n0 ≤ h0.size) (E_a1 : Exa Z h0 a1 "com/example/phase7/phase7/metadata/FieldSet") (F_f : Fld Z h0 a1 "com/example/phase7/phase7/metadata/FieldSet" "first" "J" (.long v0)) (F_g : Fld Z h0 a1 "com/example/phase7/phase7/metadata/FieldSet" "further" "[J" (.ref b)) (V_b : Arv Z h0 b kb .long z1 [(.long v1), (.long v2), (.long v3)] (.long (0 : Int64))) (hne : a1 ≠ b) (hq : f1 < (64 : Int32) ↔ q1 = 0) (hdv : f1 / (64 : Int32) = q1) (rq : q1 = 0 ∨ q1 = 1 ∨ q1 = 2 ∨ q1 = 3) (hz : q1.toInt ≤ z1.toInt) (g_a1 : n0 ≤ a1) (gz : ¬ z1 = 0 → n0 ≤ b) (hu0 : u0 = if q1 = 0 then (v0 &&& (((1 : Int64) <<< (f1 &&& 0x3f).toInt64) ^^^ (-1 : Int64))) else v0) (hu1 : u1 = if q1 = 1 then (v1 &&& (((1 : Int64) <<< (f1 &&& 0x3f).toInt64) ^^^ (-1 : Int64))) else v1) (hu2 : u2 = if q1 = 2 then (v2 &&& (((1 : Int64) <<< (f1 &&& 0x3f).toInt64) ^^^ (-1 : Int64))) else v2) (hu3 : u3 = if q1 = 3 then (v3 &&& (((1 : Int64) <<< (f1 &&& 0x3f).toInt64) ^^^ (-1 : Int64))) else v3) :
    MetFree l (⟨"com/example/phase7/phase7/metadata/FieldSet", "remove", "(I)V"⟩ : MethodName) (head1 (Jvm.Cond.code (⟨"com/example/phase7/phase7/metadata/FieldSet", "remove", "(I)V"⟩ : MethodName) prog_6_method_5_code 2 none :: ws) ({ frames := 0, cells := 0, slots := 0, locals := 0 } : Room)) (fun a U => a = #[(.ref a1), (.int f1)] ∧ Z.Warmed39 U.vm ∧ U.heap = h0) (fun _ _ _ _ _ => True) (fun _ U o U' => ∃ v L, o = .returned v ∧ QA Z a1 b kb z1 u0 u1 u2 u3 h0 n0 v U'.heap L ∧ FrameEnd U o U' L ({ frames := 0, cells := 0, slots := 0, locals := 0 } : Room).cells ({ frames := 0, cells := 0, slots := 0, locals := 0 } : Room).slots) := by
  refine MetFree.of_bodySF (plainFor_of_name pn_rmR) hisR ?_
  intro p e s m args below meth c s₁ Bd hml0 hP hK
  obtain ⟨rfl, hZ, hh⟩ := hP
  have hx := Bd.exec
  have hby := Bd.bytes
  have hml : c.maxLocals = 2 := hml0
  have hown : s.vm.findClass "com/example/phase7/phase7/metadata/FieldSet" = some m.cls := findClass_of_methodNamed Bd.named
  have hnm := (name_of_methodNamed Bd.named Bd.method).1
  have X0 : Stand p l e ({ frames := 0, cells := 0, slots := 0, locals := 0 } : Room) s m #[(.ref a1), (.int f1)] below meth c s₁ [] 0 0 := Stand.of_body Bd
  have e0 : s₁.heap = h0 := by rw [← hh, Bd.state]; rfl
  have N0 := Fr.nil n0
  have pre0 : ∀ tt, Steps p.tables e below (s₁.setTop (mkF m 0 #[.val (.ref a1), .val (.int f1)] [])) tt → Steps p.tables e below (s₁.setTop (entryFrame m #[(.ref a1), (.int f1)] 2)) tt := fun tt kt => castTop (ef_rmR m a1 f1) kt
  rcases rq with rfl | rfl | rfl | rfl
  · rw [if_pos rfl] at hu0
    rw [if_neg (by decide)] at hu1
    rw [if_neg (by decide)] at hu2
    rw [if_neg (by decide)] at hu3
    have hq0 : f1 < (64 : Int32) := hq.mpr rfl
    obtain ⟨T1, X1, e1, st1⟩ := getF X0 hx hZ hown (host := "") (Or.inl (hw _ (List.mem_of_getElem? (i := 19) rfl))) Via.refl e0 F_f (g := (mkF m 8 #[.val (.ref a1), .val (.int f1)] [(.ref a1), (.ref a1)])) rfl rfl (hb hby d5_8)
    obtain ⟨T2, h2, X2, e2, W2, st2⟩ := putF X1 hx hZ hown (host := "") (Or.inl (hw _ (List.mem_of_getElem? (i := 19) rfl))) Via.refl e1 F_f E_a1 (Or.inl (hw _ (List.mem_of_getElem? (i := 20) rfl))) (hw _ (List.mem_of_getElem? (i := 2) rfl)) (ty := .long) (by decide) rfl rfl (g := (mkF m 19 #[.val (.ref a1), .val (.int f1)] [(.long (v0 &&& (((1 : Int64) <<< (f1 &&& 0x3f).toInt64) ^^^ (-1 : Int64)))), (.ref a1)])) rfl rfl (hb hby d5_19)
    have Fw2 := Fld.same W2 F_f
    have N2 := Fr.snoc X2 N0 g_a1
    have K2 : Keep h0 h2 [a1, b] := ((Keep.refl h0 [a1, b])).wr W2 (Or.inl (List.mem_of_getElem? (i := 0) rfl))
    have pre3 : ∀ tt, Steps p.tables e below (T2.setTop (mkF m 46 #[.val (.ref a1), .val (.int f1)] [])) tt → Steps p.tables e below (s₁.setTop (entryFrame m #[(.ref a1), (.int f1)] 2)) tt := by
      intro tt kt
      refine pre0 tt ?_
      show Steps p.tables e below (s₁.setTop (mkF m 0 #[.val (.ref a1), .val (.int f1)] [])) _
      refine XS.iloadN X0.here hx rfl (hb hby d5_0) rfl ?_
      show Steps p.tables e below (s₁.setTop (mkF m 1 #[.val (.ref a1), .val (.int f1)] [(.int f1)])) _
      refine XS.bipush X0.here hx rfl (hb hby d5_1) ?_
      show Steps p.tables e below (s₁.setTop (mkF m 3 #[.val (.ref a1), .val (.int f1)] [(.int (64 : Int32)), (.int f1)])) _
      refine XS.icmpNo X0.here hx rfl (hb hby d5_3) rfl (tlt (hq.mpr rfl)).2.1 ?_
      show Steps p.tables e below (s₁.setTop (mkF m 6 #[.val (.ref a1), .val (.int f1)] [])) _
      refine XS.aloadN X0.here hx rfl (hb hby d5_6) rfl rfl ?_
      show Steps p.tables e below (s₁.setTop (mkF m 7 #[.val (.ref a1), .val (.int f1)] [(.ref a1)])) _
      refine XS.dup X0.here hx rfl (hb hby d5_7) rfl rfl ?_
      show Steps p.tables e below (s₁.setTop (mkF m 8 #[.val (.ref a1), .val (.int f1)] [(.ref a1), (.ref a1)])) _
      refine st1 _ ?_
      show Steps p.tables e below (T1.setTop (mkF m 11 #[.val (.ref a1), .val (.int f1)] [(.long v0), (.ref a1)])) _
      refine XS.lconst X1.here hx rfl (hb hby d5_11) ?_
      show Steps p.tables e below (T1.setTop (mkF m 12 #[.val (.ref a1), .val (.int f1)] [(.long (1 : Int64)), (.long v0), (.ref a1)])) _
      refine XS.iloadN X1.here hx rfl (hb hby d5_12) rfl ?_
      show Steps p.tables e below (T1.setTop (mkF m 13 #[.val (.ref a1), .val (.int f1)] [(.int f1), (.long (1 : Int64)), (.long v0), (.ref a1)])) _
      refine XS.lshl X1.here hx rfl (hb hby d5_13) rfl ?_
      show Steps p.tables e below (T1.setTop (mkF m 14 #[.val (.ref a1), .val (.int f1)] [(.long ((1 : Int64) <<< (f1 &&& 0x3f).toInt64)), (.long v0), (.ref a1)])) _
      refine X1.ldc2Long hx hown (mvT hZ (hw _ (List.mem_of_getElem? (i := 31) rfl))) (g := (mkF m 14 #[.val (.ref a1), .val (.int f1)] [(.long ((1 : Int64) <<< (f1 &&& 0x3f).toInt64)), (.long v0), (.ref a1)])) rfl (hb hby d5_14) _ ?_
      show Steps p.tables e below (T1.setTop (mkF m 17 #[.val (.ref a1), .val (.int f1)] [(.long (-1 : Int64)), (.long ((1 : Int64) <<< (f1 &&& 0x3f).toInt64)), (.long v0), (.ref a1)])) _
      refine XS.lxor X1.here hx rfl (hb hby d5_17) rfl ?_
      show Steps p.tables e below (T1.setTop (mkF m 18 #[.val (.ref a1), .val (.int f1)] [(.long (((1 : Int64) <<< (f1 &&& 0x3f).toInt64) ^^^ (-1 : Int64))), (.long v0), (.ref a1)])) _
      refine XS.land X1.here hx rfl (hb hby d5_18) rfl ?_
      show Steps p.tables e below (T1.setTop (mkF m 19 #[.val (.ref a1), .val (.int f1)] [(.long (v0 &&& (((1 : Int64) <<< (f1 &&& 0x3f).toInt64) ^^^ (-1 : Int64)))), (.ref a1)])) _
      refine st2 _ ?_
      show Steps p.tables e below (T2.setTop (mkF m 22 #[.val (.ref a1), .val (.int f1)] [])) _
      refine XS.goto X2.here hx rfl (pc0 := 22) (pc' := 46) rfl (hb hby d5_22) (by decide) (by decide) ?_
      exact kt
    obtain ⟨fs, hr, hrun, hended, hW, hsame⟩ := X2.leave (v := none) (fun _ => rfl)
    refine ⟨_, _, pre3 _ ?_, hrun, hended, _, _, rfl, ?_, ⟨_, rfl⟩, hW, hsame.mono (by decide) (by decide)⟩
    · show Steps p.tables e below (T2.setTop (mkF m 46 #[.val (.ref a1), .val (.int f1)] [])) _
      exact X2.returnOut hx Bd.returns (hb hby d5_46) hr
    · show QA Z a1 b kb z1 u0 u1 u2 u3 h0 n0 _ T2.heap _
      rw [e2]
      rw [hu0, hu1, hu2, hu3]
      exact ⟨rfl, N2, K2, (Exa.wr W2 E_a1), Fw2, (Fld.other W2 F_g (Or.inr (slot_ne (Or.inr (hw _ (List.mem_of_getElem? (i := 13) rfl))) (Or.inl (hw _ (List.mem_of_getElem? (i := 20) rfl))) (by decide) (t := (.array .long)) (t' := .long) (by decide) (by decide)))), (V_b.other W2 (Ne.symm hne))⟩
  · rw [if_neg (by decide)] at hu0
    rw [if_pos rfl] at hu1
    rw [if_neg (by decide)] at hu2
    rw [if_neg (by decide)] at hu3
    have hj : ((f1 / (64 : Int32)) - (1 : Int32)) = (0 : Int32) := by rw [hdv]; decide
    have hin : ¬ (0 : Int32) < 0 ∧ (0 : Int32) < z1 := ⟨by decide, own_jz hz (by decide)⟩
    have g_b : n0 ≤ b := gz (fun q => by rw [q] at hz; exact absurd hz (by decide))
    obtain ⟨T4, X4, e4, st4⟩ := getF X0 hx hZ hown (host := "") (Or.inl (hw _ (List.mem_of_getElem? (i := 12) rfl))) Via.refl e0 F_g (g := (mkF m 26 #[.val (.ref a1), .val (.int f1)] [(.ref a1)])) rfl rfl (hb hby d5_26)
    have VO5 := V_b
    obtain ⟨cl5, Ar5, q5, S5, M5, H5, G5⟩ := VO5
    have hin5 : ¬ ((0 : Int32) < 0 ∨ cl5.slots.size ≤ ((0 : Int32)).toNatClampNeg) := inb_of S5 hin
    have hat5 : cl5.slots[((0 : Int32)).toNatClampNeg]? = some (.long v1) := H5.at hin5 rfl
    have VO6 := V_b
    obtain ⟨cl6, Ar6, q6, S6, M6, H6, G6⟩ := VO6
    have hin6 : ¬ ((0 : Int32) < 0 ∨ cl6.slots.size ≤ ((0 : Int32)).toNatClampNeg) := inb_of S6 hin
    obtain ⟨T7, h7, X7, e7, W7, st7⟩ := stJ X4 hx hZ e4 Ar6 (j := (0 : Int32)) hin6 (g := (mkF m 45 #[.val (.ref a1), .val (.int f1)] [(.long (v1 &&& (((1 : Int64) <<< (f1 &&& 0x3f).toInt64) ^^^ (-1 : Int64)))), (.int (0 : Int32)), (.ref b)])) rfl rfl (hb hby d5_45)
    have N7 := Fr.snoc X7 N0 g_b
    have K7 : Keep h0 h7 [a1, b] := ((Keep.refl h0 [a1, b])).wr W7 (Or.inl (List.mem_of_getElem? (i := 1) rfl))
    have V7 : Arv Z h7 b kb .long z1 [(.long (v1 &&& (((1 : Int64) <<< (f1 &&& 0x3f).toInt64) ^^^ (-1 : Int64)))), (.long v2), (.long v3)] (.long (0 : Int64)) := Arv.set Ar6 q6 S6 M6 H6 G6 rfl W7 0 rfl (Nat.le_of_ble_eq_true rfl)
    have pre8 : ∀ tt, Steps p.tables e below (T7.setTop (mkF m 46 #[.val (.ref a1), .val (.int f1)] [])) tt → Steps p.tables e below (s₁.setTop (entryFrame m #[(.ref a1), (.int f1)] 2)) tt := by
      intro tt kt
      refine pre0 tt ?_
      show Steps p.tables e below (s₁.setTop (mkF m 0 #[.val (.ref a1), .val (.int f1)] [])) _
      refine XS.iloadN X0.here hx rfl (hb hby d5_0) rfl ?_
      show Steps p.tables e below (s₁.setTop (mkF m 1 #[.val (.ref a1), .val (.int f1)] [(.int f1)])) _
      refine XS.bipush X0.here hx rfl (hb hby d5_1) ?_
      show Steps p.tables e below (s₁.setTop (mkF m 3 #[.val (.ref a1), .val (.int f1)] [(.int (64 : Int32)), (.int f1)])) _
      refine XS.icmpYes X0.here hx rfl (pc0 := 3) (pc' := 25) rfl (hb hby d5_3) rfl (flt (fun q => absurd (hq.mp q) (by decide))).2.1 (by decide) (by decide) ?_
      show Steps p.tables e below (s₁.setTop (mkF m 25 #[.val (.ref a1), .val (.int f1)] [])) _
      refine XS.aloadN X0.here hx rfl (hb hby d5_25) rfl rfl ?_
      show Steps p.tables e below (s₁.setTop (mkF m 26 #[.val (.ref a1), .val (.int f1)] [(.ref a1)])) _
      refine st4 _ ?_
      show Steps p.tables e below (T4.setTop (mkF m 29 #[.val (.ref a1), .val (.int f1)] [(.ref b)])) _
      refine XS.iloadN X4.here hx rfl (hb hby d5_29) rfl ?_
      show Steps p.tables e below (T4.setTop (mkF m 30 #[.val (.ref a1), .val (.int f1)] [(.int f1), (.ref b)])) _
      refine XS.bipush X4.here hx rfl (hb hby d5_30) ?_
      show Steps p.tables e below (T4.setTop (mkF m 32 #[.val (.ref a1), .val (.int f1)] [(.int (64 : Int32)), (.int f1), (.ref b)])) _
      refine XS.idiv X4.here hx rfl (hb hby d5_32) rfl (by decide : ¬ ((64 : Int32) = (0 : Int32))) ?_
      show Steps p.tables e below (T4.setTop (mkF m 33 #[.val (.ref a1), .val (.int f1)] [(.int (f1 / (64 : Int32))), (.ref b)])) _
      refine XS.iconst X4.here hx rfl (hb hby d5_33) ?_
      show Steps p.tables e below (T4.setTop (mkF m 34 #[.val (.ref a1), .val (.int f1)] [(.int (1 : Int32)), (.int (f1 / (64 : Int32))), (.ref b)])) _
      refine XS.isub X4.here hx rfl (hb hby d5_34) rfl ?_
      show Steps p.tables e below (T4.setTop (mkF m 35 #[.val (.ref a1), .val (.int f1)] [(.int ((f1 / (64 : Int32)) - (1 : Int32))), (.ref b)])) _
      rw [hj]
      show Steps p.tables e below (T4.setTop (mkF m 35 #[.val (.ref a1), .val (.int f1)] [(.int (0 : Int32)), (.ref b)])) _
      refine XT.dup2 X4.here hx rfl (hb hby d5_35) rfl rfl rfl ?_
      show Steps p.tables e below (T4.setTop (mkF m 36 #[.val (.ref a1), .val (.int f1)] [(.int (0 : Int32)), (.ref b), (.int (0 : Int32)), (.ref b)])) _
      refine X4.laload hx (j := (0 : Int32)) (v := (.long v1)) (by rw [e4]; exact Ar5.1) (State.isArrayOf_alike hZ.alike Ar5.2.1) Ar5.2.2 hin5 hat5 (g := (mkF m 36 #[.val (.ref a1), .val (.int f1)] [(.int (0 : Int32)), (.ref b), (.int (0 : Int32)), (.ref b)])) rfl rfl (hb hby d5_36) _ ?_
      show Steps p.tables e below (T4.setTop (mkF m 37 #[.val (.ref a1), .val (.int f1)] [(.long v1), (.int (0 : Int32)), (.ref b)])) _
      refine XS.lconst X4.here hx rfl (hb hby d5_37) ?_
      show Steps p.tables e below (T4.setTop (mkF m 38 #[.val (.ref a1), .val (.int f1)] [(.long (1 : Int64)), (.long v1), (.int (0 : Int32)), (.ref b)])) _
      refine XS.iloadN X4.here hx rfl (hb hby d5_38) rfl ?_
      show Steps p.tables e below (T4.setTop (mkF m 39 #[.val (.ref a1), .val (.int f1)] [(.int f1), (.long (1 : Int64)), (.long v1), (.int (0 : Int32)), (.ref b)])) _
      refine XS.lshl X4.here hx rfl (hb hby d5_39) rfl ?_
      show Steps p.tables e below (T4.setTop (mkF m 40 #[.val (.ref a1), .val (.int f1)] [(.long ((1 : Int64) <<< (f1 &&& 0x3f).toInt64)), (.long v1), (.int (0 : Int32)), (.ref b)])) _
      refine X4.ldc2Long hx hown (mvT hZ (hw _ (List.mem_of_getElem? (i := 31) rfl))) (g := (mkF m 40 #[.val (.ref a1), .val (.int f1)] [(.long ((1 : Int64) <<< (f1 &&& 0x3f).toInt64)), (.long v1), (.int (0 : Int32)), (.ref b)])) rfl (hb hby d5_40) _ ?_
      show Steps p.tables e below (T4.setTop (mkF m 43 #[.val (.ref a1), .val (.int f1)] [(.long (-1 : Int64)), (.long ((1 : Int64) <<< (f1 &&& 0x3f).toInt64)), (.long v1), (.int (0 : Int32)), (.ref b)])) _
      refine XS.lxor X4.here hx rfl (hb hby d5_43) rfl ?_
      show Steps p.tables e below (T4.setTop (mkF m 44 #[.val (.ref a1), .val (.int f1)] [(.long (((1 : Int64) <<< (f1 &&& 0x3f).toInt64) ^^^ (-1 : Int64))), (.long v1), (.int (0 : Int32)), (.ref b)])) _
      refine XS.land X4.here hx rfl (hb hby d5_44) rfl ?_
      show Steps p.tables e below (T4.setTop (mkF m 45 #[.val (.ref a1), .val (.int f1)] [(.long (v1 &&& (((1 : Int64) <<< (f1 &&& 0x3f).toInt64) ^^^ (-1 : Int64)))), (.int (0 : Int32)), (.ref b)])) _
      refine st7 _ ?_
      exact kt
    obtain ⟨fs, hr, hrun, hended, hW, hsame⟩ := X7.leave (v := none) (fun _ => rfl)
    refine ⟨_, _, pre8 _ ?_, hrun, hended, _, _, rfl, ?_, ⟨_, rfl⟩, hW, hsame.mono (by decide) (by decide)⟩
    · show Steps p.tables e below (T7.setTop (mkF m 46 #[.val (.ref a1), .val (.int f1)] [])) _
      exact X7.returnOut hx Bd.returns (hb hby d5_46) hr
    · show QA Z a1 b kb z1 u0 u1 u2 u3 h0 n0 _ T7.heap _
      rw [e7]
      rw [hu0, hu1, hu2, hu3]
      exact ⟨rfl, N7, K7, (Exa.wr W7 E_a1), (Fld.other W7 F_f (Or.inl hne)), (Fld.other W7 F_g (Or.inl hne)), V7⟩
  · rw [if_neg (by decide)] at hu0
    rw [if_neg (by decide)] at hu1
    rw [if_pos rfl] at hu2
    rw [if_neg (by decide)] at hu3
    have hj : ((f1 / (64 : Int32)) - (1 : Int32)) = (1 : Int32) := by rw [hdv]; decide
    have hin : ¬ (1 : Int32) < 0 ∧ (1 : Int32) < z1 := ⟨by decide, own_jz hz (by decide)⟩
    have g_b : n0 ≤ b := gz (fun q => by rw [q] at hz; exact absurd hz (by decide))
    obtain ⟨T9, X9, e9, st9⟩ := getF X0 hx hZ hown (host := "") (Or.inl (hw _ (List.mem_of_getElem? (i := 12) rfl))) Via.refl e0 F_g (g := (mkF m 26 #[.val (.ref a1), .val (.int f1)] [(.ref a1)])) rfl rfl (hb hby d5_26)
    have VO10 := V_b
    obtain ⟨cl10, Ar10, q10, S10, M10, H10, G10⟩ := VO10
    have hin10 : ¬ ((1 : Int32) < 0 ∨ cl10.slots.size ≤ ((1 : Int32)).toNatClampNeg) := inb_of S10 hin
    have hat10 : cl10.slots[((1 : Int32)).toNatClampNeg]? = some (.long v2) := H10.at hin10 rfl
    have VO11 := V_b
    obtain ⟨cl11, Ar11, q11, S11, M11, H11, G11⟩ := VO11
    have hin11 : ¬ ((1 : Int32) < 0 ∨ cl11.slots.size ≤ ((1 : Int32)).toNatClampNeg) := inb_of S11 hin
    obtain ⟨T12, h12, X12, e12, W12, st12⟩ := stJ X9 hx hZ e9 Ar11 (j := (1 : Int32)) hin11 (g := (mkF m 45 #[.val (.ref a1), .val (.int f1)] [(.long (v2 &&& (((1 : Int64) <<< (f1 &&& 0x3f).toInt64) ^^^ (-1 : Int64)))), (.int (1 : Int32)), (.ref b)])) rfl rfl (hb hby d5_45)
    have N12 := Fr.snoc X12 N0 g_b
    have K12 : Keep h0 h12 [a1, b] := ((Keep.refl h0 [a1, b])).wr W12 (Or.inl (List.mem_of_getElem? (i := 1) rfl))
    have V12 : Arv Z h12 b kb .long z1 [(.long v1), (.long (v2 &&& (((1 : Int64) <<< (f1 &&& 0x3f).toInt64) ^^^ (-1 : Int64)))), (.long v3)] (.long (0 : Int64)) := Arv.set Ar11 q11 S11 M11 H11 G11 rfl W12 1 rfl (Nat.le_of_ble_eq_true rfl)
    have pre13 : ∀ tt, Steps p.tables e below (T12.setTop (mkF m 46 #[.val (.ref a1), .val (.int f1)] [])) tt → Steps p.tables e below (s₁.setTop (entryFrame m #[(.ref a1), (.int f1)] 2)) tt := by
      intro tt kt
      refine pre0 tt ?_
      show Steps p.tables e below (s₁.setTop (mkF m 0 #[.val (.ref a1), .val (.int f1)] [])) _
      refine XS.iloadN X0.here hx rfl (hb hby d5_0) rfl ?_
      show Steps p.tables e below (s₁.setTop (mkF m 1 #[.val (.ref a1), .val (.int f1)] [(.int f1)])) _
      refine XS.bipush X0.here hx rfl (hb hby d5_1) ?_
      show Steps p.tables e below (s₁.setTop (mkF m 3 #[.val (.ref a1), .val (.int f1)] [(.int (64 : Int32)), (.int f1)])) _
      refine XS.icmpYes X0.here hx rfl (pc0 := 3) (pc' := 25) rfl (hb hby d5_3) rfl (flt (fun q => absurd (hq.mp q) (by decide))).2.1 (by decide) (by decide) ?_
      show Steps p.tables e below (s₁.setTop (mkF m 25 #[.val (.ref a1), .val (.int f1)] [])) _
      refine XS.aloadN X0.here hx rfl (hb hby d5_25) rfl rfl ?_
      show Steps p.tables e below (s₁.setTop (mkF m 26 #[.val (.ref a1), .val (.int f1)] [(.ref a1)])) _
      refine st9 _ ?_
      show Steps p.tables e below (T9.setTop (mkF m 29 #[.val (.ref a1), .val (.int f1)] [(.ref b)])) _
      refine XS.iloadN X9.here hx rfl (hb hby d5_29) rfl ?_
      show Steps p.tables e below (T9.setTop (mkF m 30 #[.val (.ref a1), .val (.int f1)] [(.int f1), (.ref b)])) _
      refine XS.bipush X9.here hx rfl (hb hby d5_30) ?_
      show Steps p.tables e below (T9.setTop (mkF m 32 #[.val (.ref a1), .val (.int f1)] [(.int (64 : Int32)), (.int f1), (.ref b)])) _
      refine XS.idiv X9.here hx rfl (hb hby d5_32) rfl (by decide : ¬ ((64 : Int32) = (0 : Int32))) ?_
      show Steps p.tables e below (T9.setTop (mkF m 33 #[.val (.ref a1), .val (.int f1)] [(.int (f1 / (64 : Int32))), (.ref b)])) _
      refine XS.iconst X9.here hx rfl (hb hby d5_33) ?_
      show Steps p.tables e below (T9.setTop (mkF m 34 #[.val (.ref a1), .val (.int f1)] [(.int (1 : Int32)), (.int (f1 / (64 : Int32))), (.ref b)])) _
      refine XS.isub X9.here hx rfl (hb hby d5_34) rfl ?_
      show Steps p.tables e below (T9.setTop (mkF m 35 #[.val (.ref a1), .val (.int f1)] [(.int ((f1 / (64 : Int32)) - (1 : Int32))), (.ref b)])) _
      rw [hj]
      show Steps p.tables e below (T9.setTop (mkF m 35 #[.val (.ref a1), .val (.int f1)] [(.int (1 : Int32)), (.ref b)])) _
      refine XT.dup2 X9.here hx rfl (hb hby d5_35) rfl rfl rfl ?_
      show Steps p.tables e below (T9.setTop (mkF m 36 #[.val (.ref a1), .val (.int f1)] [(.int (1 : Int32)), (.ref b), (.int (1 : Int32)), (.ref b)])) _
      refine X9.laload hx (j := (1 : Int32)) (v := (.long v2)) (by rw [e9]; exact Ar10.1) (State.isArrayOf_alike hZ.alike Ar10.2.1) Ar10.2.2 hin10 hat10 (g := (mkF m 36 #[.val (.ref a1), .val (.int f1)] [(.int (1 : Int32)), (.ref b), (.int (1 : Int32)), (.ref b)])) rfl rfl (hb hby d5_36) _ ?_
      show Steps p.tables e below (T9.setTop (mkF m 37 #[.val (.ref a1), .val (.int f1)] [(.long v2), (.int (1 : Int32)), (.ref b)])) _
      refine XS.lconst X9.here hx rfl (hb hby d5_37) ?_
      show Steps p.tables e below (T9.setTop (mkF m 38 #[.val (.ref a1), .val (.int f1)] [(.long (1 : Int64)), (.long v2), (.int (1 : Int32)), (.ref b)])) _
      refine XS.iloadN X9.here hx rfl (hb hby d5_38) rfl ?_
      show Steps p.tables e below (T9.setTop (mkF m 39 #[.val (.ref a1), .val (.int f1)] [(.int f1), (.long (1 : Int64)), (.long v2), (.int (1 : Int32)), (.ref b)])) _
      refine XS.lshl X9.here hx rfl (hb hby d5_39) rfl ?_
      show Steps p.tables e below (T9.setTop (mkF m 40 #[.val (.ref a1), .val (.int f1)] [(.long ((1 : Int64) <<< (f1 &&& 0x3f).toInt64)), (.long v2), (.int (1 : Int32)), (.ref b)])) _
      refine X9.ldc2Long hx hown (mvT hZ (hw _ (List.mem_of_getElem? (i := 31) rfl))) (g := (mkF m 40 #[.val (.ref a1), .val (.int f1)] [(.long ((1 : Int64) <<< (f1 &&& 0x3f).toInt64)), (.long v2), (.int (1 : Int32)), (.ref b)])) rfl (hb hby d5_40) _ ?_
      show Steps p.tables e below (T9.setTop (mkF m 43 #[.val (.ref a1), .val (.int f1)] [(.long (-1 : Int64)), (.long ((1 : Int64) <<< (f1 &&& 0x3f).toInt64)), (.long v2), (.int (1 : Int32)), (.ref b)])) _
      refine XS.lxor X9.here hx rfl (hb hby d5_43) rfl ?_
      show Steps p.tables e below (T9.setTop (mkF m 44 #[.val (.ref a1), .val (.int f1)] [(.long (((1 : Int64) <<< (f1 &&& 0x3f).toInt64) ^^^ (-1 : Int64))), (.long v2), (.int (1 : Int32)), (.ref b)])) _
      refine XS.land X9.here hx rfl (hb hby d5_44) rfl ?_
      show Steps p.tables e below (T9.setTop (mkF m 45 #[.val (.ref a1), .val (.int f1)] [(.long (v2 &&& (((1 : Int64) <<< (f1 &&& 0x3f).toInt64) ^^^ (-1 : Int64)))), (.int (1 : Int32)), (.ref b)])) _
      refine st12 _ ?_
      exact kt
    obtain ⟨fs, hr, hrun, hended, hW, hsame⟩ := X12.leave (v := none) (fun _ => rfl)
    refine ⟨_, _, pre13 _ ?_, hrun, hended, _, _, rfl, ?_, ⟨_, rfl⟩, hW, hsame.mono (by decide) (by decide)⟩
    · show Steps p.tables e below (T12.setTop (mkF m 46 #[.val (.ref a1), .val (.int f1)] [])) _
      exact X12.returnOut hx Bd.returns (hb hby d5_46) hr
    · show QA Z a1 b kb z1 u0 u1 u2 u3 h0 n0 _ T12.heap _
      rw [e12]
      rw [hu0, hu1, hu2, hu3]
      exact ⟨rfl, N12, K12, (Exa.wr W12 E_a1), (Fld.other W12 F_f (Or.inl hne)), (Fld.other W12 F_g (Or.inl hne)), V12⟩
  · rw [if_neg (by decide)] at hu0
    rw [if_neg (by decide)] at hu1
    rw [if_neg (by decide)] at hu2
    rw [if_pos rfl] at hu3
    have hj : ((f1 / (64 : Int32)) - (1 : Int32)) = (2 : Int32) := by rw [hdv]; decide
    have hin : ¬ (2 : Int32) < 0 ∧ (2 : Int32) < z1 := ⟨by decide, own_jz hz (by decide)⟩
    have g_b : n0 ≤ b := gz (fun q => by rw [q] at hz; exact absurd hz (by decide))
    obtain ⟨T14, X14, e14, st14⟩ := getF X0 hx hZ hown (host := "") (Or.inl (hw _ (List.mem_of_getElem? (i := 12) rfl))) Via.refl e0 F_g (g := (mkF m 26 #[.val (.ref a1), .val (.int f1)] [(.ref a1)])) rfl rfl (hb hby d5_26)
    have VO15 := V_b
    obtain ⟨cl15, Ar15, q15, S15, M15, H15, G15⟩ := VO15
    have hin15 : ¬ ((2 : Int32) < 0 ∨ cl15.slots.size ≤ ((2 : Int32)).toNatClampNeg) := inb_of S15 hin
    have hat15 : cl15.slots[((2 : Int32)).toNatClampNeg]? = some (.long v3) := H15.at hin15 rfl
    have VO16 := V_b
    obtain ⟨cl16, Ar16, q16, S16, M16, H16, G16⟩ := VO16
    have hin16 : ¬ ((2 : Int32) < 0 ∨ cl16.slots.size ≤ ((2 : Int32)).toNatClampNeg) := inb_of S16 hin
    obtain ⟨T17, h17, X17, e17, W17, st17⟩ := stJ X14 hx hZ e14 Ar16 (j := (2 : Int32)) hin16 (g := (mkF m 45 #[.val (.ref a1), .val (.int f1)] [(.long (v3 &&& (((1 : Int64) <<< (f1 &&& 0x3f).toInt64) ^^^ (-1 : Int64)))), (.int (2 : Int32)), (.ref b)])) rfl rfl (hb hby d5_45)
    have N17 := Fr.snoc X17 N0 g_b
    have K17 : Keep h0 h17 [a1, b] := ((Keep.refl h0 [a1, b])).wr W17 (Or.inl (List.mem_of_getElem? (i := 1) rfl))
    have V17 : Arv Z h17 b kb .long z1 [(.long v1), (.long v2), (.long (v3 &&& (((1 : Int64) <<< (f1 &&& 0x3f).toInt64) ^^^ (-1 : Int64))))] (.long (0 : Int64)) := Arv.set Ar16 q16 S16 M16 H16 G16 rfl W17 2 rfl (Nat.le_of_ble_eq_true rfl)
    have pre18 : ∀ tt, Steps p.tables e below (T17.setTop (mkF m 46 #[.val (.ref a1), .val (.int f1)] [])) tt → Steps p.tables e below (s₁.setTop (entryFrame m #[(.ref a1), (.int f1)] 2)) tt := by
      intro tt kt
      refine pre0 tt ?_
      show Steps p.tables e below (s₁.setTop (mkF m 0 #[.val (.ref a1), .val (.int f1)] [])) _
      refine XS.iloadN X0.here hx rfl (hb hby d5_0) rfl ?_
      show Steps p.tables e below (s₁.setTop (mkF m 1 #[.val (.ref a1), .val (.int f1)] [(.int f1)])) _
      refine XS.bipush X0.here hx rfl (hb hby d5_1) ?_
      show Steps p.tables e below (s₁.setTop (mkF m 3 #[.val (.ref a1), .val (.int f1)] [(.int (64 : Int32)), (.int f1)])) _
      refine XS.icmpYes X0.here hx rfl (pc0 := 3) (pc' := 25) rfl (hb hby d5_3) rfl (flt (fun q => absurd (hq.mp q) (by decide))).2.1 (by decide) (by decide) ?_
      show Steps p.tables e below (s₁.setTop (mkF m 25 #[.val (.ref a1), .val (.int f1)] [])) _
      refine XS.aloadN X0.here hx rfl (hb hby d5_25) rfl rfl ?_
      show Steps p.tables e below (s₁.setTop (mkF m 26 #[.val (.ref a1), .val (.int f1)] [(.ref a1)])) _
      refine st14 _ ?_
      show Steps p.tables e below (T14.setTop (mkF m 29 #[.val (.ref a1), .val (.int f1)] [(.ref b)])) _
      refine XS.iloadN X14.here hx rfl (hb hby d5_29) rfl ?_
      show Steps p.tables e below (T14.setTop (mkF m 30 #[.val (.ref a1), .val (.int f1)] [(.int f1), (.ref b)])) _
      refine XS.bipush X14.here hx rfl (hb hby d5_30) ?_
      show Steps p.tables e below (T14.setTop (mkF m 32 #[.val (.ref a1), .val (.int f1)] [(.int (64 : Int32)), (.int f1), (.ref b)])) _
      refine XS.idiv X14.here hx rfl (hb hby d5_32) rfl (by decide : ¬ ((64 : Int32) = (0 : Int32))) ?_
      show Steps p.tables e below (T14.setTop (mkF m 33 #[.val (.ref a1), .val (.int f1)] [(.int (f1 / (64 : Int32))), (.ref b)])) _
      refine XS.iconst X14.here hx rfl (hb hby d5_33) ?_
      show Steps p.tables e below (T14.setTop (mkF m 34 #[.val (.ref a1), .val (.int f1)] [(.int (1 : Int32)), (.int (f1 / (64 : Int32))), (.ref b)])) _
      refine XS.isub X14.here hx rfl (hb hby d5_34) rfl ?_
      show Steps p.tables e below (T14.setTop (mkF m 35 #[.val (.ref a1), .val (.int f1)] [(.int ((f1 / (64 : Int32)) - (1 : Int32))), (.ref b)])) _
      rw [hj]
      show Steps p.tables e below (T14.setTop (mkF m 35 #[.val (.ref a1), .val (.int f1)] [(.int (2 : Int32)), (.ref b)])) _
      refine XT.dup2 X14.here hx rfl (hb hby d5_35) rfl rfl rfl ?_
      show Steps p.tables e below (T14.setTop (mkF m 36 #[.val (.ref a1), .val (.int f1)] [(.int (2 : Int32)), (.ref b), (.int (2 : Int32)), (.ref b)])) _
      refine X14.laload hx (j := (2 : Int32)) (v := (.long v3)) (by rw [e14]; exact Ar15.1) (State.isArrayOf_alike hZ.alike Ar15.2.1) Ar15.2.2 hin15 hat15 (g := (mkF m 36 #[.val (.ref a1), .val (.int f1)] [(.int (2 : Int32)), (.ref b), (.int (2 : Int32)), (.ref b)])) rfl rfl (hb hby d5_36) _ ?_
      show Steps p.tables e below (T14.setTop (mkF m 37 #[.val (.ref a1), .val (.int f1)] [(.long v3), (.int (2 : Int32)), (.ref b)])) _
      refine XS.lconst X14.here hx rfl (hb hby d5_37) ?_
      show Steps p.tables e below (T14.setTop (mkF m 38 #[.val (.ref a1), .val (.int f1)] [(.long (1 : Int64)), (.long v3), (.int (2 : Int32)), (.ref b)])) _
      refine XS.iloadN X14.here hx rfl (hb hby d5_38) rfl ?_
      show Steps p.tables e below (T14.setTop (mkF m 39 #[.val (.ref a1), .val (.int f1)] [(.int f1), (.long (1 : Int64)), (.long v3), (.int (2 : Int32)), (.ref b)])) _
      refine XS.lshl X14.here hx rfl (hb hby d5_39) rfl ?_
      show Steps p.tables e below (T14.setTop (mkF m 40 #[.val (.ref a1), .val (.int f1)] [(.long ((1 : Int64) <<< (f1 &&& 0x3f).toInt64)), (.long v3), (.int (2 : Int32)), (.ref b)])) _
      refine X14.ldc2Long hx hown (mvT hZ (hw _ (List.mem_of_getElem? (i := 31) rfl))) (g := (mkF m 40 #[.val (.ref a1), .val (.int f1)] [(.long ((1 : Int64) <<< (f1 &&& 0x3f).toInt64)), (.long v3), (.int (2 : Int32)), (.ref b)])) rfl (hb hby d5_40) _ ?_
      show Steps p.tables e below (T14.setTop (mkF m 43 #[.val (.ref a1), .val (.int f1)] [(.long (-1 : Int64)), (.long ((1 : Int64) <<< (f1 &&& 0x3f).toInt64)), (.long v3), (.int (2 : Int32)), (.ref b)])) _
      refine XS.lxor X14.here hx rfl (hb hby d5_43) rfl ?_
      show Steps p.tables e below (T14.setTop (mkF m 44 #[.val (.ref a1), .val (.int f1)] [(.long (((1 : Int64) <<< (f1 &&& 0x3f).toInt64) ^^^ (-1 : Int64))), (.long v3), (.int (2 : Int32)), (.ref b)])) _
      refine XS.land X14.here hx rfl (hb hby d5_44) rfl ?_
      show Steps p.tables e below (T14.setTop (mkF m 45 #[.val (.ref a1), .val (.int f1)] [(.long (v3 &&& (((1 : Int64) <<< (f1 &&& 0x3f).toInt64) ^^^ (-1 : Int64)))), (.int (2 : Int32)), (.ref b)])) _
      refine st17 _ ?_
      exact kt
    obtain ⟨fs, hr, hrun, hended, hW, hsame⟩ := X17.leave (v := none) (fun _ => rfl)
    refine ⟨_, _, pre18 _ ?_, hrun, hended, _, _, rfl, ?_, ⟨_, rfl⟩, hW, hsame.mono (by decide) (by decide)⟩
    · show Steps p.tables e below (T17.setTop (mkF m 46 #[.val (.ref a1), .val (.int f1)] [])) _
      exact X17.returnOut hx Bd.returns (hb hby d5_46) hr
    · show QA Z a1 b kb z1 u0 u1 u2 u3 h0 n0 _ T17.heap _
      rw [e17]
      rw [hu0, hu1, hu2, hu3]
      exact ⟨rfl, N17, K17, (Exa.wr W17 E_a1), (Fld.other W17 F_f (Or.inl hne)), (Fld.other W17 F_g (Or.inl hne)), V17⟩
theorem own_bv (f : Int32) : (((1 : Int64) <<< (f &&& 0x3f).toInt64)).toBitVec = BitVec.twoPow 64 (f.toBitVec.toNat % 64) := by
  obtain ⟨h1, h2⟩ := sm64 f _ rfl
  have e1 : (1 : Int64).toBitVec = 1#64 := by decide
  rw [Int64.toBitVec_shiftLeft, h1, BitVec.shiftLeft_eq', smod64 _ h2, e1]
  rfl
def own_b (v : Int64) (f : Int32) : Bool := v.toBitVec.getLsbD (f.toBitVec.toNat % 64)
theorem own_klt (f : Int32) : f.toBitVec.toNat % 64 < 64 := Nat.mod_lt _ (by decide)
theorem own_and0 (v : Int64) (f : Int32) : ((v &&& ((1 : Int64) <<< (f &&& 0x3f).toInt64)) = 0) ↔ own_b v f = false := by
  rw [← Int64.toBitVec_inj, Int64.toBitVec_and, own_bv, BitVec.and_twoPow]
  unfold own_b
  have h := own_klt f
  generalize f.toBitVec.toNat % 64 = k at *
  have h2 : BitVec.twoPow 64 k ≠ 0#64 := by
    intro q
    have := congrArg (fun x => x.getLsbD k) q
    simp [h] at this
  cases e : v.toBitVec.getLsbD k
  · simp
  · simp only [if_true]
    constructor
    · intro q; exact absurd q h2
    · intro q; cases q
theorem own_bor (v : Int64) (a f : Int32) : own_b (v ||| ((1 : Int64) <<< (a &&& 0x3f).toInt64)) f = (own_b v f || decide (a.toBitVec.toNat % 64 = f.toBitVec.toNat % 64)) := by
  unfold own_b
  have h := own_klt f
  rw [Int64.toBitVec_or, own_bv, BitVec.getLsbD_or, BitVec.getLsbD_twoPow]
  simp [h, own_klt a]
theorem own_brm (v : Int64) (a f : Int32) : own_b (v &&& (((1 : Int64) <<< (a &&& 0x3f).toInt64) ^^^ (-1 : Int64))) f = (own_b v f && !decide (a.toBitVec.toNat % 64 = f.toBitVec.toNat % 64)) := by
  unfold own_b
  have h := own_klt f
  have e : (-1 : Int64).toBitVec = BitVec.allOnes 64 := by decide
  rw [Int64.toBitVec_and, Int64.toBitVec_xor, own_bv, e, BitVec.getLsbD_and, BitVec.getLsbD_xor, BitVec.getLsbD_twoPow, BitVec.getLsbD_allOnes]
  simp [h, own_klt a]
theorem own_b0 (f : Int32) : own_b 0 f = false := by simp [own_b]
theorem own_nn {f : Int32} (h : 0 ≤ f.toInt) : (f.toBitVec.toNat : Int) = f.toInt := by
  have h1 : f.toInt = f.toBitVec.toInt := rfl
  have h2 := BitVec.toInt_eq_toNat_cond f.toBitVec
  rw [← h1] at h2
  have h3 := f.toBitVec.isLt
  split at h2 <;> omega
theorem own_same {n a f : Int32} (hn : 1 ≤ n.toInt ∧ n.toInt ≤ 256) (ra : 0 ≤ a.toInt ∧ a.toInt < n.toInt) (rf : 0 ≤ f.toInt ∧ f.toInt < n.toInt) (e : a / (64 : Int32) = f / (64 : Int32)) : (a.toBitVec.toNat % 64 = f.toBitVec.toNat % 64) ↔ f = a := by
  have q1 := (own_fr hn ra).2.2
  have q2 := (own_fr hn rf).2.2
  have q3 := own_nn ra.1
  have q4 := own_nn rf.1
  rw [e, q2] at q1
  rw [← Int32.toInt_inj]
  omega
def own_M (v0 v1 v2 v3 : Int64) (f : Int32) : Prop := own_b (own_word (f / (64 : Int32)) v0 v1 v2 v3) f = true
theorem own_M0 (f : Int32) : ¬ own_M 0 0 0 0 f := by
  have h : own_word (f / (64 : Int32)) 0 0 0 0 = 0 := by unfold own_word; simp
  unfold own_M
  rw [h, own_b0]; simp
theorem own_wup {g : Int64 → Int64} {qa qf : Int32} {v0 v1 v2 v3 u0 u1 u2 u3 : Int64} (rf : qf = 0 ∨ qf = 1 ∨ qf = 2 ∨ qf = 3) (h0 : u0 = if qa = 0 then g v0 else v0) (h1 : u1 = if qa = 1 then g v1 else v1) (h2 : u2 = if qa = 2 then g v2 else v2) (h3 : u3 = if qa = 3 then g v3 else v3) : own_word qf u0 u1 u2 u3 = if qa = qf then g (own_word qf v0 v1 v2 v3) else own_word qf v0 v1 v2 v3 := by
  rcases rf with rfl | rfl | rfl | rfl
  · simp only [own_w0]; exact h0
  · simp only [own_w1]; exact h1
  · simp only [own_w2]; exact h2
  · simp only [own_w3]; exact h3
theorem own_Madd {n a f : Int32} {v0 v1 v2 v3 u0 u1 u2 u3 : Int64} (hn : 1 ≤ n.toInt ∧ n.toInt ≤ 256) (ra : 0 ≤ a.toInt ∧ a.toInt < n.toInt) (rf : 0 ≤ f.toInt ∧ f.toInt < n.toInt) (h0 : u0 = if a / (64 : Int32) = 0 then (v0 ||| ((1 : Int64) <<< (a &&& 0x3f).toInt64)) else v0) (h1 : u1 = if a / (64 : Int32) = 1 then (v1 ||| ((1 : Int64) <<< (a &&& 0x3f).toInt64)) else v1) (h2 : u2 = if a / (64 : Int32) = 2 then (v2 ||| ((1 : Int64) <<< (a &&& 0x3f).toInt64)) else v2) (h3 : u3 = if a / (64 : Int32) = 3 then (v3 ||| ((1 : Int64) <<< (a &&& 0x3f).toInt64)) else v3) : own_M u0 u1 u2 u3 f ↔ (f = a ∨ own_M v0 v1 v2 v3 f) := by
  unfold own_M
  rw [own_wup (g := fun v => v ||| ((1 : Int64) <<< (a &&& 0x3f).toInt64)) (own_fr hn rf).2.1 h0 h1 h2 h3]
  by_cases e : a / (64 : Int32) = f / (64 : Int32)
  · rw [if_pos e, own_bor, Bool.or_eq_true, decide_eq_true_iff, own_same hn ra rf e]
    exact Or.comm
  · rw [if_neg e]
    constructor
    · intro q; exact Or.inr q
    · rintro (q | q)
      · exact absurd (by rw [q]) e
      · exact q
theorem own_Mrem {n a f : Int32} {v0 v1 v2 v3 u0 u1 u2 u3 : Int64} (hn : 1 ≤ n.toInt ∧ n.toInt ≤ 256) (ra : 0 ≤ a.toInt ∧ a.toInt < n.toInt) (rf : 0 ≤ f.toInt ∧ f.toInt < n.toInt) (h0 : u0 = if a / (64 : Int32) = 0 then (v0 &&& (((1 : Int64) <<< (a &&& 0x3f).toInt64) ^^^ (-1 : Int64))) else v0) (h1 : u1 = if a / (64 : Int32) = 1 then (v1 &&& (((1 : Int64) <<< (a &&& 0x3f).toInt64) ^^^ (-1 : Int64))) else v1) (h2 : u2 = if a / (64 : Int32) = 2 then (v2 &&& (((1 : Int64) <<< (a &&& 0x3f).toInt64) ^^^ (-1 : Int64))) else v2) (h3 : u3 = if a / (64 : Int32) = 3 then (v3 &&& (((1 : Int64) <<< (a &&& 0x3f).toInt64) ^^^ (-1 : Int64))) else v3) : own_M u0 u1 u2 u3 f ↔ (own_M v0 v1 v2 v3 f ∧ ¬ f = a) := by
  unfold own_M
  rw [own_wup (g := fun v => v &&& (((1 : Int64) <<< (a &&& 0x3f).toInt64) ^^^ (-1 : Int64))) (own_fr hn rf).2.1 h0 h1 h2 h3]
  by_cases e : a / (64 : Int32) = f / (64 : Int32)
  · rw [if_pos e, own_brm, Bool.and_eq_true, Bool.not_eq_true', decide_eq_false_iff_not, own_same hn ra rf e]
  · rw [if_neg e]
    constructor
    · intro q; exact ⟨q, fun r => e (by rw [r])⟩
    · intro q; exact q.1
theorem own_n256 (p : Int32) : 1 ≤ ((p &&& (255 : Int32)) + (1 : Int32)).toInt ∧ ((p &&& (255 : Int32)) + (1 : Int32)).toInt ≤ 256 := by
  have h1 := c_mask p (255 : Int32) 8 (by decide) (by decide)
  have h2 := c_iadd (p &&& (255 : Int32)) (1 : Int32)
  have h3 := rng32 ((p &&& (255 : Int32)) + (1 : Int32))
  have e1 : (1 : Int32).toInt = 1 := by decide
  omega
theorem own_nz {n : Int32} (h : 1 ≤ n.toInt ∧ n.toInt ≤ 256) : ¬ (n = (0 : Int32)) := by
  intro q
  rw [q] at h
  exact absurd h.1 (by decide)
theorem own_has0 (f : Int32) : (0 : Int32) = if (own_word (f / (64 : Int32)) 0 0 0 0 &&& ((1 : Int64) <<< (f &&& 0x3f).toInt64)) = 0 then 0 else 1 := by
  have h : own_word (f / (64 : Int32)) 0 0 0 0 = 0 := by unfold own_word; simp
  rw [h, if_pos (by simp)]
theorem own_hasM {v0 v1 v2 v3 : Int64} {f : Int32} {P : Prop} [Decidable P] {ex : Int32} (hP : own_M v0 v1 v2 v3 f ↔ P) (he : ex = if P then (1 : Int32) else 0) : ex = if (own_word (f / (64 : Int32)) v0 v1 v2 v3 &&& ((1 : Int64) <<< (f &&& 0x3f).toInt64)) = 0 then 0 else 1 := by
  rw [he]
  by_cases h : P
  · have h2 := hP.mpr h
    rw [if_pos h, if_neg]
    rw [own_and0]
    unfold own_M at h2
    rw [h2]; simp
  · rw [if_neg h, if_pos]
    rw [own_and0]
    cases e : own_b (own_word (f / (64 : Int32)) v0 v1 v2 v3) f
    · rfl
    · exact absurd (hP.mp e) h
theorem own_prop (A B C D E : Prop) : (((A ∨ (B ∧ C)) ∧ ¬ (D ∧ E)) ↔ ((A ∨ (B ∧ C)) ∧ (D → ¬ E))) := by
  constructor
  · rintro ⟨h1, h2⟩; exact ⟨h1, fun d e => h2 ⟨d, e⟩⟩
  · rintro ⟨h1, h2⟩; exact ⟨h1, fun q => h2 q.1 q.2⟩
def Q0 (Z : State) (h0 : Heap) (n0 : Nat) (v : Option Value) (h : Heap) (L : List Loc) : Prop := v = some (.int (1 : Int32)) ∧ Fr n0 L
theorem pn_rm0 : plainName "com/example/phase7/phase7/metadata/FieldSetContainsPinLaw" = true := by first | (simp [plainName, overriddenIn]; done) | decide +kernel
theorem pd_rm0_0 : parseMethodDescriptor "(I)V" = some ⟨[.int], none⟩ := by decide +kernel
theorem pd_rm0_1 : parseMethodDescriptor "(I)Z" = some ⟨[.int], some .boolean⟩ := by decide +kernel
theorem ef_rm0 (m : MethodId) (p1 : Int32) (p2 : Int32) (p3 : Int32) (p4 : Int32) (p5 : Int32) (p6 : Int32) : entryFrame m #[(.int p1), (.int p2), (.int p3), (.int p4), (.int p5), (.int p6)] maxLocals = mkF m 0 #[.val (.int p1), .val (.int p2), .val (.int p3), .val (.int p4), .val (.int p5), .val (.int p6), .unset, .unset, .unset, .unset, .unset, .unset, .unset, .unset, .unset, .unset, .unset, .unset] [] := by first | (simp [entryFrame, mkF, argsToLocals, Value.category, maxLocals]; done) | rfl
set_option maxRecDepth 65536 in
set_option maxHeartbeats 40000000 in
theorem rm0 (l : Launch) (Z : State) (a0 : Array Value) (hw : ∀ d ∈ tables_1, d.before a0 Z = true) (ws : List Jvm.Cond) (p1 p2 p3 p4 p5 p6 : Int32) (wN : Addr) (kN : ClassId) (h0 : Heap) (n0 : Nat) (Z0 : n0 ≤ h0.size) (S_N : Sta Z h0 "com/example/phase7/phase7/metadata/FieldSet" "NO_WORDS" "[J" (.ref wN)) (V_N : Arv Z h0 wN kN .long (0 : Int32) [(.long (0 : Int64)), (.long (0 : Int64)), (.long (0 : Int64))] (.long (0 : Int64))) :
    MetFree l x (head1 (Jvm.Cond.code x code maxLocals ret :: ws) room_1) (fun a U => a = #[(.int p1), (.int p2), (.int p3), (.int p4), (.int p5), (.int p6)] ∧ Z.Warmed39 U.vm ∧ U.heap = h0) (fun _ _ _ _ _ => True) (fun _ U o U' => ∃ v L, o = .returned v ∧ Q0 Z h0 n0 v U'.heap L ∧ FrameEnd U o U' L room_1.cells room_1.slots) := by
  refine MetFree.of_bodySF (plainFor_of_name pn_rm0) hisR ?_
  intro p e s m args below meth c s₁ Bd hml0 hP hK
  obtain ⟨rfl, hZ, hh⟩ := hP
  have hx := Bd.exec
  have hby := Bd.bytes
  have hml : c.maxLocals = 18 := hml0
  have hown : s.vm.findClass "com/example/phase7/phase7/metadata/FieldSetContainsPinLaw" = some m.cls := findClass_of_methodNamed Bd.named
  have hnm := (name_of_methodNamed Bd.named Bd.method).1
  have X0 : Stand p l e room_1 s m #[(.int p1), (.int p2), (.int p3), (.int p4), (.int p5), (.int p6)] below meth c s₁ [] 0 0 := Stand.of_body Bd
  have e0 : s₁.heap = h0 := by rw [← hh, Bd.state]; rfl
  have N0 := Fr.nil n0
  have pre0 : ∀ tt, Steps p.tables e below (s₁.setTop (mkF m 0 #[.val (.int p1), .val (.int p2), .val (.int p3), .val (.int p4), .val (.int p5), .val (.int p6), .unset, .unset, .unset, .unset, .unset, .unset, .unset, .unset, .unset, .unset, .unset, .unset] [])) tt → Steps p.tables e below (s₁.setTop (entryFrame m #[(.int p1), (.int p2), (.int p3), (.int p4), (.int p5), (.int p6)] maxLocals)) tt := fun tt kt => castTop (ef_rm0 m p1 p2 p3 p4 p5 p6) kt
  obtain ⟨n1, hn1⟩ : ∃ z : Int32, z = ((p1 &&& (255 : Int32)) + (1 : Int32)) := ⟨_, rfl⟩
  have pre1 : ∀ tt, Steps p.tables e below (s₁.setTop (mkF m 7 #[.val (.int p1), .val (.int p2), .val (.int p3), .val (.int p4), .val (.int p5), .val (.int p6), .unset, .unset, .unset, .unset, .unset, .unset, .unset, .unset, .unset, .unset, .unset, .unset] [(.int n1)])) tt → Steps p.tables e below (s₁.setTop (entryFrame m #[(.int p1), (.int p2), (.int p3), (.int p4), (.int p5), (.int p6)] maxLocals)) tt := by
    intro tt kt
    refine pre0 tt ?_
    show Steps p.tables e below (s₁.setTop (mkF m 0 #[.val (.int p1), .val (.int p2), .val (.int p3), .val (.int p4), .val (.int p5), .val (.int p6), .unset, .unset, .unset, .unset, .unset, .unset, .unset, .unset, .unset, .unset, .unset, .unset] [])) _
    refine XS.iloadN X0.here hx rfl (hb hby at_0) rfl ?_
    show Steps p.tables e below (s₁.setTop (mkF m 1 #[.val (.int p1), .val (.int p2), .val (.int p3), .val (.int p4), .val (.int p5), .val (.int p6), .unset, .unset, .unset, .unset, .unset, .unset, .unset, .unset, .unset, .unset, .unset, .unset] [(.int p1)])) _
    refine XS.sipush X0.here hx rfl (hb hby at_1) ?_
    show Steps p.tables e below (s₁.setTop (mkF m 4 #[.val (.int p1), .val (.int p2), .val (.int p3), .val (.int p4), .val (.int p5), .val (.int p6), .unset, .unset, .unset, .unset, .unset, .unset, .unset, .unset, .unset, .unset, .unset, .unset] [(.int (255 : Int32)), (.int p1)])) _
    refine XS.iand X0.here hx rfl (hb hby at_4) rfl ?_
    show Steps p.tables e below (s₁.setTop (mkF m 5 #[.val (.int p1), .val (.int p2), .val (.int p3), .val (.int p4), .val (.int p5), .val (.int p6), .unset, .unset, .unset, .unset, .unset, .unset, .unset, .unset, .unset, .unset, .unset, .unset] [(.int (p1 &&& (255 : Int32)))])) _
    refine XS.iconst X0.here hx rfl (hb hby at_5) ?_
    show Steps p.tables e below (s₁.setTop (mkF m 6 #[.val (.int p1), .val (.int p2), .val (.int p3), .val (.int p4), .val (.int p5), .val (.int p6), .unset, .unset, .unset, .unset, .unset, .unset, .unset, .unset, .unset, .unset, .unset, .unset] [(.int (1 : Int32)), (.int (p1 &&& (255 : Int32)))])) _
    refine XS.iadd X0.here hx rfl (hb hby at_6) rfl ?_
    show Steps p.tables e below (s₁.setTop (mkF m 7 #[.val (.int p1), .val (.int p2), .val (.int p3), .val (.int p4), .val (.int p5), .val (.int p6), .unset, .unset, .unset, .unset, .unset, .unset, .unset, .unset, .unset, .unset, .unset, .unset] [(.int ((p1 &&& (255 : Int32)) + (1 : Int32)))])) _
    rw [← hn1]
    exact kt
  have hn := own_n256 p1
  rw [← hn1] at hn
  clear hn1
  have hnz := own_nz hn
  have hnp : 0 < n1.toInt := by omega
  obtain ⟨fa, hfa⟩ : ∃ z : Int32, z = ((p2 &&& (2147483647 : Int32)) % n1) := ⟨_, rfl⟩
  have pre2 : ∀ tt, Steps p.tables e below (s₁.setTop (mkF m 16 #[.val (.int p1), .val (.int p2), .val (.int p3), .val (.int p4), .val (.int p5), .val (.int p6), .val (.int n1), .unset, .unset, .unset, .unset, .unset, .unset, .unset, .unset, .unset, .unset, .unset] [(.int fa)])) tt → Steps p.tables e below (s₁.setTop (entryFrame m #[(.int p1), (.int p2), (.int p3), (.int p4), (.int p5), (.int p6)] maxLocals)) tt := by
    intro tt kt
    refine pre1 tt ?_
    show Steps p.tables e below (s₁.setTop (mkF m 7 #[.val (.int p1), .val (.int p2), .val (.int p3), .val (.int p4), .val (.int p5), .val (.int p6), .unset, .unset, .unset, .unset, .unset, .unset, .unset, .unset, .unset, .unset, .unset, .unset] [(.int n1)])) _
    refine XS.istore X0.here hx rfl (hb hby at_7) rfl (l' := #[.val (.int p1), .val (.int p2), .val (.int p3), .val (.int p4), .val (.int p5), .val (.int p6), .val (.int n1), .unset, .unset, .unset, .unset, .unset, .unset, .unset, .unset, .unset, .unset, .unset]) rfl ?_
    show Steps p.tables e below (s₁.setTop (mkF m 9 #[.val (.int p1), .val (.int p2), .val (.int p3), .val (.int p4), .val (.int p5), .val (.int p6), .val (.int n1), .unset, .unset, .unset, .unset, .unset, .unset, .unset, .unset, .unset, .unset, .unset] [])) _
    refine XS.iloadN X0.here hx rfl (hb hby at_9) rfl ?_
    show Steps p.tables e below (s₁.setTop (mkF m 10 #[.val (.int p1), .val (.int p2), .val (.int p3), .val (.int p4), .val (.int p5), .val (.int p6), .val (.int n1), .unset, .unset, .unset, .unset, .unset, .unset, .unset, .unset, .unset, .unset, .unset] [(.int p2)])) _
    refine X0.ldcInt hx hown (mvT hZ (hw _ (List.mem_of_getElem? (i := 0) rfl))) (g := (mkF m 10 #[.val (.int p1), .val (.int p2), .val (.int p3), .val (.int p4), .val (.int p5), .val (.int p6), .val (.int n1), .unset, .unset, .unset, .unset, .unset, .unset, .unset, .unset, .unset, .unset, .unset] [(.int p2)])) rfl (hb hby at_10) _ ?_
    show Steps p.tables e below (s₁.setTop (mkF m 12 #[.val (.int p1), .val (.int p2), .val (.int p3), .val (.int p4), .val (.int p5), .val (.int p6), .val (.int n1), .unset, .unset, .unset, .unset, .unset, .unset, .unset, .unset, .unset, .unset, .unset] [(.int (2147483647 : Int32)), (.int p2)])) _
    refine XS.iand X0.here hx rfl (hb hby at_12) rfl ?_
    show Steps p.tables e below (s₁.setTop (mkF m 13 #[.val (.int p1), .val (.int p2), .val (.int p3), .val (.int p4), .val (.int p5), .val (.int p6), .val (.int n1), .unset, .unset, .unset, .unset, .unset, .unset, .unset, .unset, .unset, .unset, .unset] [(.int (p2 &&& (2147483647 : Int32)))])) _
    refine XS.iload X0.here hx rfl (hb hby at_13) rfl ?_
    show Steps p.tables e below (s₁.setTop (mkF m 15 #[.val (.int p1), .val (.int p2), .val (.int p3), .val (.int p4), .val (.int p5), .val (.int p6), .val (.int n1), .unset, .unset, .unset, .unset, .unset, .unset, .unset, .unset, .unset, .unset, .unset] [(.int n1), (.int (p2 &&& (2147483647 : Int32)))])) _
    refine iremM (g := (mkF m 15 #[.val (.int p1), .val (.int p2), .val (.int p3), .val (.int p4), .val (.int p5), .val (.int p6), .val (.int n1), .unset, .unset, .unset, .unset, .unset, .unset, .unset, .unset, .unset, .unset, .unset] [(.int n1), (.int (p2 &&& (2147483647 : Int32)))])) X0 hx rfl (hb hby at_15) rfl hnz ?_
    show Steps p.tables e below (s₁.setTop (mkF m 16 #[.val (.int p1), .val (.int p2), .val (.int p3), .val (.int p4), .val (.int p5), .val (.int p6), .val (.int n1), .unset, .unset, .unset, .unset, .unset, .unset, .unset, .unset, .unset, .unset, .unset] [(.int ((p2 &&& (2147483647 : Int32)) % n1))])) _
    rw [← hfa]
    exact kt
  have r_fa := own_rem p2 n1 hnp
  rw [← hfa] at r_fa
  clear hfa
  obtain ⟨fb, hfb⟩ : ∃ z : Int32, z = ((p3 &&& (2147483647 : Int32)) % n1) := ⟨_, rfl⟩
  have pre3 : ∀ tt, Steps p.tables e below (s₁.setTop (mkF m 25 #[.val (.int p1), .val (.int p2), .val (.int p3), .val (.int p4), .val (.int p5), .val (.int p6), .val (.int n1), .val (.int fa), .unset, .unset, .unset, .unset, .unset, .unset, .unset, .unset, .unset, .unset] [(.int fb)])) tt → Steps p.tables e below (s₁.setTop (entryFrame m #[(.int p1), (.int p2), (.int p3), (.int p4), (.int p5), (.int p6)] maxLocals)) tt := by
    intro tt kt
    refine pre2 tt ?_
    show Steps p.tables e below (s₁.setTop (mkF m 16 #[.val (.int p1), .val (.int p2), .val (.int p3), .val (.int p4), .val (.int p5), .val (.int p6), .val (.int n1), .unset, .unset, .unset, .unset, .unset, .unset, .unset, .unset, .unset, .unset, .unset] [(.int fa)])) _
    refine XS.istore X0.here hx rfl (hb hby at_16) rfl (l' := #[.val (.int p1), .val (.int p2), .val (.int p3), .val (.int p4), .val (.int p5), .val (.int p6), .val (.int n1), .val (.int fa), .unset, .unset, .unset, .unset, .unset, .unset, .unset, .unset, .unset, .unset]) rfl ?_
    show Steps p.tables e below (s₁.setTop (mkF m 18 #[.val (.int p1), .val (.int p2), .val (.int p3), .val (.int p4), .val (.int p5), .val (.int p6), .val (.int n1), .val (.int fa), .unset, .unset, .unset, .unset, .unset, .unset, .unset, .unset, .unset, .unset] [])) _
    refine XS.iloadN X0.here hx rfl (hb hby at_18) rfl ?_
    show Steps p.tables e below (s₁.setTop (mkF m 19 #[.val (.int p1), .val (.int p2), .val (.int p3), .val (.int p4), .val (.int p5), .val (.int p6), .val (.int n1), .val (.int fa), .unset, .unset, .unset, .unset, .unset, .unset, .unset, .unset, .unset, .unset] [(.int p3)])) _
    refine X0.ldcInt hx hown (mvT hZ (hw _ (List.mem_of_getElem? (i := 0) rfl))) (g := (mkF m 19 #[.val (.int p1), .val (.int p2), .val (.int p3), .val (.int p4), .val (.int p5), .val (.int p6), .val (.int n1), .val (.int fa), .unset, .unset, .unset, .unset, .unset, .unset, .unset, .unset, .unset, .unset] [(.int p3)])) rfl (hb hby at_19) _ ?_
    show Steps p.tables e below (s₁.setTop (mkF m 21 #[.val (.int p1), .val (.int p2), .val (.int p3), .val (.int p4), .val (.int p5), .val (.int p6), .val (.int n1), .val (.int fa), .unset, .unset, .unset, .unset, .unset, .unset, .unset, .unset, .unset, .unset] [(.int (2147483647 : Int32)), (.int p3)])) _
    refine XS.iand X0.here hx rfl (hb hby at_21) rfl ?_
    show Steps p.tables e below (s₁.setTop (mkF m 22 #[.val (.int p1), .val (.int p2), .val (.int p3), .val (.int p4), .val (.int p5), .val (.int p6), .val (.int n1), .val (.int fa), .unset, .unset, .unset, .unset, .unset, .unset, .unset, .unset, .unset, .unset] [(.int (p3 &&& (2147483647 : Int32)))])) _
    refine XS.iload X0.here hx rfl (hb hby at_22) rfl ?_
    show Steps p.tables e below (s₁.setTop (mkF m 24 #[.val (.int p1), .val (.int p2), .val (.int p3), .val (.int p4), .val (.int p5), .val (.int p6), .val (.int n1), .val (.int fa), .unset, .unset, .unset, .unset, .unset, .unset, .unset, .unset, .unset, .unset] [(.int n1), (.int (p3 &&& (2147483647 : Int32)))])) _
    refine iremM (g := (mkF m 24 #[.val (.int p1), .val (.int p2), .val (.int p3), .val (.int p4), .val (.int p5), .val (.int p6), .val (.int n1), .val (.int fa), .unset, .unset, .unset, .unset, .unset, .unset, .unset, .unset, .unset, .unset] [(.int n1), (.int (p3 &&& (2147483647 : Int32)))])) X0 hx rfl (hb hby at_24) rfl hnz ?_
    show Steps p.tables e below (s₁.setTop (mkF m 25 #[.val (.int p1), .val (.int p2), .val (.int p3), .val (.int p4), .val (.int p5), .val (.int p6), .val (.int n1), .val (.int fa), .unset, .unset, .unset, .unset, .unset, .unset, .unset, .unset, .unset, .unset] [(.int ((p3 &&& (2147483647 : Int32)) % n1))])) _
    rw [← hfb]
    exact kt
  have r_fb := own_rem p3 n1 hnp
  rw [← hfb] at r_fb
  clear hfb
  obtain ⟨fr, hfr⟩ : ∃ z : Int32, z = ((p4 &&& (2147483647 : Int32)) % n1) := ⟨_, rfl⟩
  have pre4 : ∀ tt, Steps p.tables e below (s₁.setTop (mkF m 34 #[.val (.int p1), .val (.int p2), .val (.int p3), .val (.int p4), .val (.int p5), .val (.int p6), .val (.int n1), .val (.int fa), .val (.int fb), .unset, .unset, .unset, .unset, .unset, .unset, .unset, .unset, .unset] [(.int fr)])) tt → Steps p.tables e below (s₁.setTop (entryFrame m #[(.int p1), (.int p2), (.int p3), (.int p4), (.int p5), (.int p6)] maxLocals)) tt := by
    intro tt kt
    refine pre3 tt ?_
    show Steps p.tables e below (s₁.setTop (mkF m 25 #[.val (.int p1), .val (.int p2), .val (.int p3), .val (.int p4), .val (.int p5), .val (.int p6), .val (.int n1), .val (.int fa), .unset, .unset, .unset, .unset, .unset, .unset, .unset, .unset, .unset, .unset] [(.int fb)])) _
    refine XS.istore X0.here hx rfl (hb hby at_25) rfl (l' := #[.val (.int p1), .val (.int p2), .val (.int p3), .val (.int p4), .val (.int p5), .val (.int p6), .val (.int n1), .val (.int fa), .val (.int fb), .unset, .unset, .unset, .unset, .unset, .unset, .unset, .unset, .unset]) rfl ?_
    show Steps p.tables e below (s₁.setTop (mkF m 27 #[.val (.int p1), .val (.int p2), .val (.int p3), .val (.int p4), .val (.int p5), .val (.int p6), .val (.int n1), .val (.int fa), .val (.int fb), .unset, .unset, .unset, .unset, .unset, .unset, .unset, .unset, .unset] [])) _
    refine XS.iloadN X0.here hx rfl (hb hby at_27) rfl ?_
    show Steps p.tables e below (s₁.setTop (mkF m 28 #[.val (.int p1), .val (.int p2), .val (.int p3), .val (.int p4), .val (.int p5), .val (.int p6), .val (.int n1), .val (.int fa), .val (.int fb), .unset, .unset, .unset, .unset, .unset, .unset, .unset, .unset, .unset] [(.int p4)])) _
    refine X0.ldcInt hx hown (mvT hZ (hw _ (List.mem_of_getElem? (i := 0) rfl))) (g := (mkF m 28 #[.val (.int p1), .val (.int p2), .val (.int p3), .val (.int p4), .val (.int p5), .val (.int p6), .val (.int n1), .val (.int fa), .val (.int fb), .unset, .unset, .unset, .unset, .unset, .unset, .unset, .unset, .unset] [(.int p4)])) rfl (hb hby at_28) _ ?_
    show Steps p.tables e below (s₁.setTop (mkF m 30 #[.val (.int p1), .val (.int p2), .val (.int p3), .val (.int p4), .val (.int p5), .val (.int p6), .val (.int n1), .val (.int fa), .val (.int fb), .unset, .unset, .unset, .unset, .unset, .unset, .unset, .unset, .unset] [(.int (2147483647 : Int32)), (.int p4)])) _
    refine XS.iand X0.here hx rfl (hb hby at_30) rfl ?_
    show Steps p.tables e below (s₁.setTop (mkF m 31 #[.val (.int p1), .val (.int p2), .val (.int p3), .val (.int p4), .val (.int p5), .val (.int p6), .val (.int n1), .val (.int fa), .val (.int fb), .unset, .unset, .unset, .unset, .unset, .unset, .unset, .unset, .unset] [(.int (p4 &&& (2147483647 : Int32)))])) _
    refine XS.iload X0.here hx rfl (hb hby at_31) rfl ?_
    show Steps p.tables e below (s₁.setTop (mkF m 33 #[.val (.int p1), .val (.int p2), .val (.int p3), .val (.int p4), .val (.int p5), .val (.int p6), .val (.int n1), .val (.int fa), .val (.int fb), .unset, .unset, .unset, .unset, .unset, .unset, .unset, .unset, .unset] [(.int n1), (.int (p4 &&& (2147483647 : Int32)))])) _
    refine iremM (g := (mkF m 33 #[.val (.int p1), .val (.int p2), .val (.int p3), .val (.int p4), .val (.int p5), .val (.int p6), .val (.int n1), .val (.int fa), .val (.int fb), .unset, .unset, .unset, .unset, .unset, .unset, .unset, .unset, .unset] [(.int n1), (.int (p4 &&& (2147483647 : Int32)))])) X0 hx rfl (hb hby at_33) rfl hnz ?_
    show Steps p.tables e below (s₁.setTop (mkF m 34 #[.val (.int p1), .val (.int p2), .val (.int p3), .val (.int p4), .val (.int p5), .val (.int p6), .val (.int n1), .val (.int fa), .val (.int fb), .unset, .unset, .unset, .unset, .unset, .unset, .unset, .unset, .unset] [(.int ((p4 &&& (2147483647 : Int32)) % n1))])) _
    rw [← hfr]
    exact kt
  have r_fr := own_rem p4 n1 hnp
  rw [← hfr] at r_fr
  clear hfr
  obtain ⟨fe, hfe⟩ : ∃ z : Int32, z = ((p5 &&& (2147483647 : Int32)) % n1) := ⟨_, rfl⟩
  have pre5 : ∀ tt, Steps p.tables e below (s₁.setTop (mkF m 44 #[.val (.int p1), .val (.int p2), .val (.int p3), .val (.int p4), .val (.int p5), .val (.int p6), .val (.int n1), .val (.int fa), .val (.int fb), .val (.int fr), .unset, .unset, .unset, .unset, .unset, .unset, .unset, .unset] [(.int fe)])) tt → Steps p.tables e below (s₁.setTop (entryFrame m #[(.int p1), (.int p2), (.int p3), (.int p4), (.int p5), (.int p6)] maxLocals)) tt := by
    intro tt kt
    refine pre4 tt ?_
    show Steps p.tables e below (s₁.setTop (mkF m 34 #[.val (.int p1), .val (.int p2), .val (.int p3), .val (.int p4), .val (.int p5), .val (.int p6), .val (.int n1), .val (.int fa), .val (.int fb), .unset, .unset, .unset, .unset, .unset, .unset, .unset, .unset, .unset] [(.int fr)])) _
    refine XS.istore X0.here hx rfl (hb hby at_34) rfl (l' := #[.val (.int p1), .val (.int p2), .val (.int p3), .val (.int p4), .val (.int p5), .val (.int p6), .val (.int n1), .val (.int fa), .val (.int fb), .val (.int fr), .unset, .unset, .unset, .unset, .unset, .unset, .unset, .unset]) rfl ?_
    show Steps p.tables e below (s₁.setTop (mkF m 36 #[.val (.int p1), .val (.int p2), .val (.int p3), .val (.int p4), .val (.int p5), .val (.int p6), .val (.int n1), .val (.int fa), .val (.int fb), .val (.int fr), .unset, .unset, .unset, .unset, .unset, .unset, .unset, .unset] [])) _
    refine XS.iload X0.here hx rfl (hb hby at_36) rfl ?_
    show Steps p.tables e below (s₁.setTop (mkF m 38 #[.val (.int p1), .val (.int p2), .val (.int p3), .val (.int p4), .val (.int p5), .val (.int p6), .val (.int n1), .val (.int fa), .val (.int fb), .val (.int fr), .unset, .unset, .unset, .unset, .unset, .unset, .unset, .unset] [(.int p5)])) _
    refine X0.ldcInt hx hown (mvT hZ (hw _ (List.mem_of_getElem? (i := 0) rfl))) (g := (mkF m 38 #[.val (.int p1), .val (.int p2), .val (.int p3), .val (.int p4), .val (.int p5), .val (.int p6), .val (.int n1), .val (.int fa), .val (.int fb), .val (.int fr), .unset, .unset, .unset, .unset, .unset, .unset, .unset, .unset] [(.int p5)])) rfl (hb hby at_38) _ ?_
    show Steps p.tables e below (s₁.setTop (mkF m 40 #[.val (.int p1), .val (.int p2), .val (.int p3), .val (.int p4), .val (.int p5), .val (.int p6), .val (.int n1), .val (.int fa), .val (.int fb), .val (.int fr), .unset, .unset, .unset, .unset, .unset, .unset, .unset, .unset] [(.int (2147483647 : Int32)), (.int p5)])) _
    refine XS.iand X0.here hx rfl (hb hby at_40) rfl ?_
    show Steps p.tables e below (s₁.setTop (mkF m 41 #[.val (.int p1), .val (.int p2), .val (.int p3), .val (.int p4), .val (.int p5), .val (.int p6), .val (.int n1), .val (.int fa), .val (.int fb), .val (.int fr), .unset, .unset, .unset, .unset, .unset, .unset, .unset, .unset] [(.int (p5 &&& (2147483647 : Int32)))])) _
    refine XS.iload X0.here hx rfl (hb hby at_41) rfl ?_
    show Steps p.tables e below (s₁.setTop (mkF m 43 #[.val (.int p1), .val (.int p2), .val (.int p3), .val (.int p4), .val (.int p5), .val (.int p6), .val (.int n1), .val (.int fa), .val (.int fb), .val (.int fr), .unset, .unset, .unset, .unset, .unset, .unset, .unset, .unset] [(.int n1), (.int (p5 &&& (2147483647 : Int32)))])) _
    refine iremM (g := (mkF m 43 #[.val (.int p1), .val (.int p2), .val (.int p3), .val (.int p4), .val (.int p5), .val (.int p6), .val (.int n1), .val (.int fa), .val (.int fb), .val (.int fr), .unset, .unset, .unset, .unset, .unset, .unset, .unset, .unset] [(.int n1), (.int (p5 &&& (2147483647 : Int32)))])) X0 hx rfl (hb hby at_43) rfl hnz ?_
    show Steps p.tables e below (s₁.setTop (mkF m 44 #[.val (.int p1), .val (.int p2), .val (.int p3), .val (.int p4), .val (.int p5), .val (.int p6), .val (.int n1), .val (.int fa), .val (.int fb), .val (.int fr), .unset, .unset, .unset, .unset, .unset, .unset, .unset, .unset] [(.int ((p5 &&& (2147483647 : Int32)) % n1))])) _
    rw [← hfe]
    exact kt
  have r_fe := own_rem p5 n1 hnp
  rw [← hfe] at r_fe
  clear hfe
  obtain ⟨ab, hab⟩ : ∃ z : Int32, z = if (p6 &&& (1 : Int32)) = (0 : Int32) then (0 : Int32) else 1 := ⟨_, rfl⟩
  have pre6 : ∀ tt, Steps p.tables e below (s₁.setTop (mkF m 46 #[.val (.int p1), .val (.int p2), .val (.int p3), .val (.int p4), .val (.int p5), .val (.int p6), .val (.int n1), .val (.int fa), .val (.int fb), .val (.int fr), .val (.int fe), .unset, .unset, .unset, .unset, .unset, .unset, .unset] [])) tt → Steps p.tables e below (s₁.setTop (entryFrame m #[(.int p1), (.int p2), (.int p3), (.int p4), (.int p5), (.int p6)] maxLocals)) tt := by
    intro tt kt
    refine pre5 tt ?_
    show Steps p.tables e below (s₁.setTop (mkF m 44 #[.val (.int p1), .val (.int p2), .val (.int p3), .val (.int p4), .val (.int p5), .val (.int p6), .val (.int n1), .val (.int fa), .val (.int fb), .val (.int fr), .unset, .unset, .unset, .unset, .unset, .unset, .unset, .unset] [(.int fe)])) _
    refine XS.istore X0.here hx rfl (hb hby at_44) rfl (l' := #[.val (.int p1), .val (.int p2), .val (.int p3), .val (.int p4), .val (.int p5), .val (.int p6), .val (.int n1), .val (.int fa), .val (.int fb), .val (.int fr), .val (.int fe), .unset, .unset, .unset, .unset, .unset, .unset, .unset]) rfl ?_
    exact kt
  obtain ⟨T7, L7, N7, X7, e7, st7⟩ : ∃ (T' : State) (L' : List Loc), Fr n0 L' ∧ Stand p l e room_1 s m #[(.int p1), (.int p2), (.int p3), (.int p4), (.int p5), (.int p6)] below meth c T' L' 0 0 ∧ T'.heap = h0 ∧ ∀ tt, Steps p.tables e below (T'.setTop (mkF m 60 #[.val (.int p1), .val (.int p2), .val (.int p3), .val (.int p4), .val (.int p5), .val (.int p6), .val (.int n1), .val (.int fa), .val (.int fb), .val (.int fr), .val (.int fe), .val (.int ab), .unset, .unset, .unset, .unset, .unset, .unset] [])) tt → Steps p.tables e below (s₁.setTop (mkF m 46 #[.val (.int p1), .val (.int p2), .val (.int p3), .val (.int p4), .val (.int p5), .val (.int p6), .val (.int n1), .val (.int fa), .val (.int fb), .val (.int fr), .val (.int fe), .unset, .unset, .unset, .unset, .unset, .unset, .unset] [])) tt := by
    have pid7 : ∀ tt, Steps p.tables e below (s₁.setTop (mkF m 46 #[.val (.int p1), .val (.int p2), .val (.int p3), .val (.int p4), .val (.int p5), .val (.int p6), .val (.int n1), .val (.int fa), .val (.int fb), .val (.int fr), .val (.int fe), .unset, .unset, .unset, .unset, .unset, .unset, .unset] [])) tt → Steps p.tables e below (s₁.setTop (mkF m 46 #[.val (.int p1), .val (.int p2), .val (.int p3), .val (.int p4), .val (.int p5), .val (.int p6), .val (.int n1), .val (.int fa), .val (.int fb), .val (.int fr), .val (.int fe), .unset, .unset, .unset, .unset, .unset, .unset, .unset] [])) tt := fun tt kt => kt
    have pre8 : ∀ tt, Steps p.tables e below (s₁.setTop (mkF m 50 #[.val (.int p1), .val (.int p2), .val (.int p3), .val (.int p4), .val (.int p5), .val (.int p6), .val (.int n1), .val (.int fa), .val (.int fb), .val (.int fr), .val (.int fe), .unset, .unset, .unset, .unset, .unset, .unset, .unset] [(.int (p6 &&& (1 : Int32)))])) tt → Steps p.tables e below (s₁.setTop (mkF m 46 #[.val (.int p1), .val (.int p2), .val (.int p3), .val (.int p4), .val (.int p5), .val (.int p6), .val (.int n1), .val (.int fa), .val (.int fb), .val (.int fr), .val (.int fe), .unset, .unset, .unset, .unset, .unset, .unset, .unset] [])) tt := by
      intro tt kt
      refine pid7 tt ?_
      show Steps p.tables e below (s₁.setTop (mkF m 46 #[.val (.int p1), .val (.int p2), .val (.int p3), .val (.int p4), .val (.int p5), .val (.int p6), .val (.int n1), .val (.int fa), .val (.int fb), .val (.int fr), .val (.int fe), .unset, .unset, .unset, .unset, .unset, .unset, .unset] [])) _
      refine XS.iload X0.here hx rfl (hb hby at_46) rfl ?_
      show Steps p.tables e below (s₁.setTop (mkF m 48 #[.val (.int p1), .val (.int p2), .val (.int p3), .val (.int p4), .val (.int p5), .val (.int p6), .val (.int n1), .val (.int fa), .val (.int fb), .val (.int fr), .val (.int fe), .unset, .unset, .unset, .unset, .unset, .unset, .unset] [(.int p6)])) _
      refine XS.iconst X0.here hx rfl (hb hby at_48) ?_
      show Steps p.tables e below (s₁.setTop (mkF m 49 #[.val (.int p1), .val (.int p2), .val (.int p3), .val (.int p4), .val (.int p5), .val (.int p6), .val (.int n1), .val (.int fa), .val (.int fb), .val (.int fr), .val (.int fe), .unset, .unset, .unset, .unset, .unset, .unset, .unset] [(.int (1 : Int32)), (.int p6)])) _
      refine XS.iand X0.here hx rfl (hb hby at_49) rfl ?_
      exact kt
    by_cases c50_9 : (p6 &&& (1 : Int32)) = (0 : Int32)
    · have pre10 : ∀ tt, Steps p.tables e below (s₁.setTop (mkF m 60 #[.val (.int p1), .val (.int p2), .val (.int p3), .val (.int p4), .val (.int p5), .val (.int p6), .val (.int n1), .val (.int fa), .val (.int fb), .val (.int fr), .val (.int fe), .val (.int (0 : Int32)), .unset, .unset, .unset, .unset, .unset, .unset] [])) tt → Steps p.tables e below (s₁.setTop (mkF m 46 #[.val (.int p1), .val (.int p2), .val (.int p3), .val (.int p4), .val (.int p5), .val (.int p6), .val (.int n1), .val (.int fa), .val (.int fb), .val (.int fr), .val (.int fe), .unset, .unset, .unset, .unset, .unset, .unset, .unset] [])) tt := by
        intro tt kt
        refine pre8 tt ?_
        show Steps p.tables e below (s₁.setTop (mkF m 50 #[.val (.int p1), .val (.int p2), .val (.int p3), .val (.int p4), .val (.int p5), .val (.int p6), .val (.int n1), .val (.int fa), .val (.int fb), .val (.int fr), .val (.int fe), .unset, .unset, .unset, .unset, .unset, .unset, .unset] [(.int (p6 &&& (1 : Int32)))])) _
        refine XS.ifYes X0.here hx rfl (pc0 := 50) (pc' := 57) rfl (hb hby at_50) rfl ((if0 _ _).trans (teq c50_9).1) (by decide) (by decide) ?_
        show Steps p.tables e below (s₁.setTop (mkF m 57 #[.val (.int p1), .val (.int p2), .val (.int p3), .val (.int p4), .val (.int p5), .val (.int p6), .val (.int n1), .val (.int fa), .val (.int fb), .val (.int fr), .val (.int fe), .unset, .unset, .unset, .unset, .unset, .unset, .unset] [])) _
        refine XS.iconst X0.here hx rfl (hb hby at_57) ?_
        show Steps p.tables e below (s₁.setTop (mkF m 58 #[.val (.int p1), .val (.int p2), .val (.int p3), .val (.int p4), .val (.int p5), .val (.int p6), .val (.int n1), .val (.int fa), .val (.int fb), .val (.int fr), .val (.int fe), .unset, .unset, .unset, .unset, .unset, .unset, .unset] [(.int (0 : Int32))])) _
        refine XS.istore X0.here hx rfl (hb hby at_58) rfl (l' := #[.val (.int p1), .val (.int p2), .val (.int p3), .val (.int p4), .val (.int p5), .val (.int p6), .val (.int n1), .val (.int fa), .val (.int fb), .val (.int fr), .val (.int fe), .val (.int (0 : Int32)), .unset, .unset, .unset, .unset, .unset, .unset]) rfl ?_
        exact kt
      refine ⟨s₁, _, N0, X0, e0, fun tt kt => pre10 tt ?_⟩
      rw [hab, if_pos c50_9] at kt
      exact kt
    · have pre11 : ∀ tt, Steps p.tables e below (s₁.setTop (mkF m 60 #[.val (.int p1), .val (.int p2), .val (.int p3), .val (.int p4), .val (.int p5), .val (.int p6), .val (.int n1), .val (.int fa), .val (.int fb), .val (.int fr), .val (.int fe), .val (.int (1 : Int32)), .unset, .unset, .unset, .unset, .unset, .unset] [])) tt → Steps p.tables e below (s₁.setTop (mkF m 46 #[.val (.int p1), .val (.int p2), .val (.int p3), .val (.int p4), .val (.int p5), .val (.int p6), .val (.int n1), .val (.int fa), .val (.int fb), .val (.int fr), .val (.int fe), .unset, .unset, .unset, .unset, .unset, .unset, .unset] [])) tt := by
        intro tt kt
        refine pre8 tt ?_
        show Steps p.tables e below (s₁.setTop (mkF m 50 #[.val (.int p1), .val (.int p2), .val (.int p3), .val (.int p4), .val (.int p5), .val (.int p6), .val (.int n1), .val (.int fa), .val (.int fb), .val (.int fr), .val (.int fe), .unset, .unset, .unset, .unset, .unset, .unset, .unset] [(.int (p6 &&& (1 : Int32)))])) _
        refine XS.ifNo X0.here hx rfl (hb hby at_50) rfl ((if0 _ _).trans (feq c50_9).1) ?_
        show Steps p.tables e below (s₁.setTop (mkF m 53 #[.val (.int p1), .val (.int p2), .val (.int p3), .val (.int p4), .val (.int p5), .val (.int p6), .val (.int n1), .val (.int fa), .val (.int fb), .val (.int fr), .val (.int fe), .unset, .unset, .unset, .unset, .unset, .unset, .unset] [])) _
        refine XS.iconst X0.here hx rfl (hb hby at_53) ?_
        show Steps p.tables e below (s₁.setTop (mkF m 54 #[.val (.int p1), .val (.int p2), .val (.int p3), .val (.int p4), .val (.int p5), .val (.int p6), .val (.int n1), .val (.int fa), .val (.int fb), .val (.int fr), .val (.int fe), .unset, .unset, .unset, .unset, .unset, .unset, .unset] [(.int (1 : Int32))])) _
        refine XS.goto X0.here hx rfl (pc0 := 54) (pc' := 58) rfl (hb hby at_54) (by decide) (by decide) ?_
        show Steps p.tables e below (s₁.setTop (mkF m 58 #[.val (.int p1), .val (.int p2), .val (.int p3), .val (.int p4), .val (.int p5), .val (.int p6), .val (.int n1), .val (.int fa), .val (.int fb), .val (.int fr), .val (.int fe), .unset, .unset, .unset, .unset, .unset, .unset, .unset] [(.int (1 : Int32))])) _
        refine XS.istore X0.here hx rfl (hb hby at_58) rfl (l' := #[.val (.int p1), .val (.int p2), .val (.int p3), .val (.int p4), .val (.int p5), .val (.int p6), .val (.int n1), .val (.int fa), .val (.int fb), .val (.int fr), .val (.int fe), .val (.int (1 : Int32)), .unset, .unset, .unset, .unset, .unset, .unset]) rfl ?_
        exact kt
      refine ⟨s₁, _, N0, X0, e0, fun tt kt => pre11 tt ?_⟩
      rw [hab, if_neg c50_9] at kt
      exact kt
  have pre12 : ∀ tt, Steps p.tables e below (T7.setTop (mkF m 60 #[.val (.int p1), .val (.int p2), .val (.int p3), .val (.int p4), .val (.int p5), .val (.int p6), .val (.int n1), .val (.int fa), .val (.int fb), .val (.int fr), .val (.int fe), .val (.int ab), .unset, .unset, .unset, .unset, .unset, .unset] [])) tt → Steps p.tables e below (s₁.setTop (entryFrame m #[(.int p1), (.int p2), (.int p3), (.int p4), (.int p5), (.int p6)] maxLocals)) tt := by
    intro tt kt
    refine pre6 tt ?_
    show Steps p.tables e below (s₁.setTop (mkF m 46 #[.val (.int p1), .val (.int p2), .val (.int p3), .val (.int p4), .val (.int p5), .val (.int p6), .val (.int n1), .val (.int fa), .val (.int fb), .val (.int fr), .val (.int fe), .unset, .unset, .unset, .unset, .unset, .unset, .unset] [])) _
    refine st7 _ ?_
    exact kt
  clear hab
  obtain ⟨rm, hrm⟩ : ∃ z : Int32, z = if (p6 &&& (2 : Int32)) = (0 : Int32) then (0 : Int32) else 1 := ⟨_, rfl⟩
  obtain ⟨T13, L13, N13, X13, e13, st13⟩ : ∃ (T' : State) (L' : List Loc), Fr n0 L' ∧ Stand p l e room_1 s m #[(.int p1), (.int p2), (.int p3), (.int p4), (.int p5), (.int p6)] below meth c T' L' 0 0 ∧ T'.heap = h0 ∧ ∀ tt, Steps p.tables e below (T'.setTop (mkF m 74 #[.val (.int p1), .val (.int p2), .val (.int p3), .val (.int p4), .val (.int p5), .val (.int p6), .val (.int n1), .val (.int fa), .val (.int fb), .val (.int fr), .val (.int fe), .val (.int ab), .val (.int rm), .unset, .unset, .unset, .unset, .unset] [])) tt → Steps p.tables e below (T7.setTop (mkF m 60 #[.val (.int p1), .val (.int p2), .val (.int p3), .val (.int p4), .val (.int p5), .val (.int p6), .val (.int n1), .val (.int fa), .val (.int fb), .val (.int fr), .val (.int fe), .val (.int ab), .unset, .unset, .unset, .unset, .unset, .unset] [])) tt := by
    have pid13 : ∀ tt, Steps p.tables e below (T7.setTop (mkF m 60 #[.val (.int p1), .val (.int p2), .val (.int p3), .val (.int p4), .val (.int p5), .val (.int p6), .val (.int n1), .val (.int fa), .val (.int fb), .val (.int fr), .val (.int fe), .val (.int ab), .unset, .unset, .unset, .unset, .unset, .unset] [])) tt → Steps p.tables e below (T7.setTop (mkF m 60 #[.val (.int p1), .val (.int p2), .val (.int p3), .val (.int p4), .val (.int p5), .val (.int p6), .val (.int n1), .val (.int fa), .val (.int fb), .val (.int fr), .val (.int fe), .val (.int ab), .unset, .unset, .unset, .unset, .unset, .unset] [])) tt := fun tt kt => kt
    have pre14 : ∀ tt, Steps p.tables e below (T7.setTop (mkF m 64 #[.val (.int p1), .val (.int p2), .val (.int p3), .val (.int p4), .val (.int p5), .val (.int p6), .val (.int n1), .val (.int fa), .val (.int fb), .val (.int fr), .val (.int fe), .val (.int ab), .unset, .unset, .unset, .unset, .unset, .unset] [(.int (p6 &&& (2 : Int32)))])) tt → Steps p.tables e below (T7.setTop (mkF m 60 #[.val (.int p1), .val (.int p2), .val (.int p3), .val (.int p4), .val (.int p5), .val (.int p6), .val (.int n1), .val (.int fa), .val (.int fb), .val (.int fr), .val (.int fe), .val (.int ab), .unset, .unset, .unset, .unset, .unset, .unset] [])) tt := by
      intro tt kt
      refine pid13 tt ?_
      show Steps p.tables e below (T7.setTop (mkF m 60 #[.val (.int p1), .val (.int p2), .val (.int p3), .val (.int p4), .val (.int p5), .val (.int p6), .val (.int n1), .val (.int fa), .val (.int fb), .val (.int fr), .val (.int fe), .val (.int ab), .unset, .unset, .unset, .unset, .unset, .unset] [])) _
      refine XS.iload X7.here hx rfl (hb hby at_60) rfl ?_
      show Steps p.tables e below (T7.setTop (mkF m 62 #[.val (.int p1), .val (.int p2), .val (.int p3), .val (.int p4), .val (.int p5), .val (.int p6), .val (.int n1), .val (.int fa), .val (.int fb), .val (.int fr), .val (.int fe), .val (.int ab), .unset, .unset, .unset, .unset, .unset, .unset] [(.int p6)])) _
      refine XS.iconst X7.here hx rfl (hb hby at_62) ?_
      show Steps p.tables e below (T7.setTop (mkF m 63 #[.val (.int p1), .val (.int p2), .val (.int p3), .val (.int p4), .val (.int p5), .val (.int p6), .val (.int n1), .val (.int fa), .val (.int fb), .val (.int fr), .val (.int fe), .val (.int ab), .unset, .unset, .unset, .unset, .unset, .unset] [(.int (2 : Int32)), (.int p6)])) _
      refine XS.iand X7.here hx rfl (hb hby at_63) rfl ?_
      exact kt
    by_cases c64_15 : (p6 &&& (2 : Int32)) = (0 : Int32)
    · have pre16 : ∀ tt, Steps p.tables e below (T7.setTop (mkF m 74 #[.val (.int p1), .val (.int p2), .val (.int p3), .val (.int p4), .val (.int p5), .val (.int p6), .val (.int n1), .val (.int fa), .val (.int fb), .val (.int fr), .val (.int fe), .val (.int ab), .val (.int (0 : Int32)), .unset, .unset, .unset, .unset, .unset] [])) tt → Steps p.tables e below (T7.setTop (mkF m 60 #[.val (.int p1), .val (.int p2), .val (.int p3), .val (.int p4), .val (.int p5), .val (.int p6), .val (.int n1), .val (.int fa), .val (.int fb), .val (.int fr), .val (.int fe), .val (.int ab), .unset, .unset, .unset, .unset, .unset, .unset] [])) tt := by
        intro tt kt
        refine pre14 tt ?_
        show Steps p.tables e below (T7.setTop (mkF m 64 #[.val (.int p1), .val (.int p2), .val (.int p3), .val (.int p4), .val (.int p5), .val (.int p6), .val (.int n1), .val (.int fa), .val (.int fb), .val (.int fr), .val (.int fe), .val (.int ab), .unset, .unset, .unset, .unset, .unset, .unset] [(.int (p6 &&& (2 : Int32)))])) _
        refine XS.ifYes X7.here hx rfl (pc0 := 64) (pc' := 71) rfl (hb hby at_64) rfl ((if0 _ _).trans (teq c64_15).1) (by decide) (by decide) ?_
        show Steps p.tables e below (T7.setTop (mkF m 71 #[.val (.int p1), .val (.int p2), .val (.int p3), .val (.int p4), .val (.int p5), .val (.int p6), .val (.int n1), .val (.int fa), .val (.int fb), .val (.int fr), .val (.int fe), .val (.int ab), .unset, .unset, .unset, .unset, .unset, .unset] [])) _
        refine XS.iconst X7.here hx rfl (hb hby at_71) ?_
        show Steps p.tables e below (T7.setTop (mkF m 72 #[.val (.int p1), .val (.int p2), .val (.int p3), .val (.int p4), .val (.int p5), .val (.int p6), .val (.int n1), .val (.int fa), .val (.int fb), .val (.int fr), .val (.int fe), .val (.int ab), .unset, .unset, .unset, .unset, .unset, .unset] [(.int (0 : Int32))])) _
        refine XS.istore X7.here hx rfl (hb hby at_72) rfl (l' := #[.val (.int p1), .val (.int p2), .val (.int p3), .val (.int p4), .val (.int p5), .val (.int p6), .val (.int n1), .val (.int fa), .val (.int fb), .val (.int fr), .val (.int fe), .val (.int ab), .val (.int (0 : Int32)), .unset, .unset, .unset, .unset, .unset]) rfl ?_
        exact kt
      refine ⟨T7, _, N7, X7, e7, fun tt kt => pre16 tt ?_⟩
      rw [hrm, if_pos c64_15] at kt
      exact kt
    · have pre17 : ∀ tt, Steps p.tables e below (T7.setTop (mkF m 74 #[.val (.int p1), .val (.int p2), .val (.int p3), .val (.int p4), .val (.int p5), .val (.int p6), .val (.int n1), .val (.int fa), .val (.int fb), .val (.int fr), .val (.int fe), .val (.int ab), .val (.int (1 : Int32)), .unset, .unset, .unset, .unset, .unset] [])) tt → Steps p.tables e below (T7.setTop (mkF m 60 #[.val (.int p1), .val (.int p2), .val (.int p3), .val (.int p4), .val (.int p5), .val (.int p6), .val (.int n1), .val (.int fa), .val (.int fb), .val (.int fr), .val (.int fe), .val (.int ab), .unset, .unset, .unset, .unset, .unset, .unset] [])) tt := by
        intro tt kt
        refine pre14 tt ?_
        show Steps p.tables e below (T7.setTop (mkF m 64 #[.val (.int p1), .val (.int p2), .val (.int p3), .val (.int p4), .val (.int p5), .val (.int p6), .val (.int n1), .val (.int fa), .val (.int fb), .val (.int fr), .val (.int fe), .val (.int ab), .unset, .unset, .unset, .unset, .unset, .unset] [(.int (p6 &&& (2 : Int32)))])) _
        refine XS.ifNo X7.here hx rfl (hb hby at_64) rfl ((if0 _ _).trans (feq c64_15).1) ?_
        show Steps p.tables e below (T7.setTop (mkF m 67 #[.val (.int p1), .val (.int p2), .val (.int p3), .val (.int p4), .val (.int p5), .val (.int p6), .val (.int n1), .val (.int fa), .val (.int fb), .val (.int fr), .val (.int fe), .val (.int ab), .unset, .unset, .unset, .unset, .unset, .unset] [])) _
        refine XS.iconst X7.here hx rfl (hb hby at_67) ?_
        show Steps p.tables e below (T7.setTop (mkF m 68 #[.val (.int p1), .val (.int p2), .val (.int p3), .val (.int p4), .val (.int p5), .val (.int p6), .val (.int n1), .val (.int fa), .val (.int fb), .val (.int fr), .val (.int fe), .val (.int ab), .unset, .unset, .unset, .unset, .unset, .unset] [(.int (1 : Int32))])) _
        refine XS.goto X7.here hx rfl (pc0 := 68) (pc' := 72) rfl (hb hby at_68) (by decide) (by decide) ?_
        show Steps p.tables e below (T7.setTop (mkF m 72 #[.val (.int p1), .val (.int p2), .val (.int p3), .val (.int p4), .val (.int p5), .val (.int p6), .val (.int n1), .val (.int fa), .val (.int fb), .val (.int fr), .val (.int fe), .val (.int ab), .unset, .unset, .unset, .unset, .unset, .unset] [(.int (1 : Int32))])) _
        refine XS.istore X7.here hx rfl (hb hby at_72) rfl (l' := #[.val (.int p1), .val (.int p2), .val (.int p3), .val (.int p4), .val (.int p5), .val (.int p6), .val (.int n1), .val (.int fa), .val (.int fb), .val (.int fr), .val (.int fe), .val (.int ab), .val (.int (1 : Int32)), .unset, .unset, .unset, .unset, .unset]) rfl ?_
        exact kt
      refine ⟨T7, _, N7, X7, e7, fun tt kt => pre17 tt ?_⟩
      rw [hrm, if_neg c64_15] at kt
      exact kt
  have pre18 : ∀ tt, Steps p.tables e below (T13.setTop (mkF m 74 #[.val (.int p1), .val (.int p2), .val (.int p3), .val (.int p4), .val (.int p5), .val (.int p6), .val (.int n1), .val (.int fa), .val (.int fb), .val (.int fr), .val (.int fe), .val (.int ab), .val (.int rm), .unset, .unset, .unset, .unset, .unset] [])) tt → Steps p.tables e below (s₁.setTop (entryFrame m #[(.int p1), (.int p2), (.int p3), (.int p4), (.int p5), (.int p6)] maxLocals)) tt := by
    intro tt kt
    refine pre12 tt ?_
    show Steps p.tables e below (T7.setTop (mkF m 60 #[.val (.int p1), .val (.int p2), .val (.int p3), .val (.int p4), .val (.int p5), .val (.int p6), .val (.int n1), .val (.int fa), .val (.int fb), .val (.int fr), .val (.int fe), .val (.int ab), .unset, .unset, .unset, .unset, .unset, .unset] [])) _
    refine st13 _ ?_
    exact kt
  clear hrm
  obtain ⟨sel, hsel⟩ : ∃ z : Int32, z = (((p6.toUInt32 >>> ((2 : Int32) &&& 31).toUInt32).toInt32) &&& (3 : Int32)) := ⟨_, rfl⟩
  have pre19 : ∀ tt, Steps p.tables e below (T13.setTop (mkF m 80 #[.val (.int p1), .val (.int p2), .val (.int p3), .val (.int p4), .val (.int p5), .val (.int p6), .val (.int n1), .val (.int fa), .val (.int fb), .val (.int fr), .val (.int fe), .val (.int ab), .val (.int rm), .unset, .unset, .unset, .unset, .unset] [(.int sel)])) tt → Steps p.tables e below (s₁.setTop (entryFrame m #[(.int p1), (.int p2), (.int p3), (.int p4), (.int p5), (.int p6)] maxLocals)) tt := by
    intro tt kt
    refine pre18 tt ?_
    show Steps p.tables e below (T13.setTop (mkF m 74 #[.val (.int p1), .val (.int p2), .val (.int p3), .val (.int p4), .val (.int p5), .val (.int p6), .val (.int n1), .val (.int fa), .val (.int fb), .val (.int fr), .val (.int fe), .val (.int ab), .val (.int rm), .unset, .unset, .unset, .unset, .unset] [])) _
    refine XS.iload X13.here hx rfl (hb hby at_74) rfl ?_
    show Steps p.tables e below (T13.setTop (mkF m 76 #[.val (.int p1), .val (.int p2), .val (.int p3), .val (.int p4), .val (.int p5), .val (.int p6), .val (.int n1), .val (.int fa), .val (.int fb), .val (.int fr), .val (.int fe), .val (.int ab), .val (.int rm), .unset, .unset, .unset, .unset, .unset] [(.int p6)])) _
    refine XS.iconst X13.here hx rfl (hb hby at_76) ?_
    show Steps p.tables e below (T13.setTop (mkF m 77 #[.val (.int p1), .val (.int p2), .val (.int p3), .val (.int p4), .val (.int p5), .val (.int p6), .val (.int n1), .val (.int fa), .val (.int fb), .val (.int fr), .val (.int fe), .val (.int ab), .val (.int rm), .unset, .unset, .unset, .unset, .unset] [(.int (2 : Int32)), (.int p6)])) _
    refine XS.iushr X13.here hx rfl (hb hby at_77) rfl ?_
    show Steps p.tables e below (T13.setTop (mkF m 78 #[.val (.int p1), .val (.int p2), .val (.int p3), .val (.int p4), .val (.int p5), .val (.int p6), .val (.int n1), .val (.int fa), .val (.int fb), .val (.int fr), .val (.int fe), .val (.int ab), .val (.int rm), .unset, .unset, .unset, .unset, .unset] [(.int ((p6.toUInt32 >>> ((2 : Int32) &&& 31).toUInt32).toInt32))])) _
    refine XS.iconst X13.here hx rfl (hb hby at_78) ?_
    show Steps p.tables e below (T13.setTop (mkF m 79 #[.val (.int p1), .val (.int p2), .val (.int p3), .val (.int p4), .val (.int p5), .val (.int p6), .val (.int n1), .val (.int fa), .val (.int fb), .val (.int fr), .val (.int fe), .val (.int ab), .val (.int rm), .unset, .unset, .unset, .unset, .unset] [(.int (3 : Int32)), (.int ((p6.toUInt32 >>> ((2 : Int32) &&& 31).toUInt32).toInt32))])) _
    refine XS.iand X13.here hx rfl (hb hby at_79) rfl ?_
    show Steps p.tables e below (T13.setTop (mkF m 80 #[.val (.int p1), .val (.int p2), .val (.int p3), .val (.int p4), .val (.int p5), .val (.int p6), .val (.int n1), .val (.int fa), .val (.int fb), .val (.int fr), .val (.int fe), .val (.int ab), .val (.int rm), .unset, .unset, .unset, .unset, .unset] [(.int (((p6.toUInt32 >>> ((2 : Int32) &&& 31).toUInt32).toInt32) &&& (3 : Int32)))])) _
    rw [← hsel]
    exact kt
  clear hsel
  obtain ⟨fq, hfq⟩ : ∃ z : Int32, z = if sel = (0 : Int32) then fa else if sel = (1 : Int32) then fb else if sel = (2 : Int32) then fr else fe := ⟨_, rfl⟩
  have pre20 : ∀ tt, Steps p.tables e below (T13.setTop (mkF m 82 #[.val (.int p1), .val (.int p2), .val (.int p3), .val (.int p4), .val (.int p5), .val (.int p6), .val (.int n1), .val (.int fa), .val (.int fb), .val (.int fr), .val (.int fe), .val (.int ab), .val (.int rm), .val (.int sel), .unset, .unset, .unset, .unset] [])) tt → Steps p.tables e below (s₁.setTop (entryFrame m #[(.int p1), (.int p2), (.int p3), (.int p4), (.int p5), (.int p6)] maxLocals)) tt := by
    intro tt kt
    refine pre19 tt ?_
    show Steps p.tables e below (T13.setTop (mkF m 80 #[.val (.int p1), .val (.int p2), .val (.int p3), .val (.int p4), .val (.int p5), .val (.int p6), .val (.int n1), .val (.int fa), .val (.int fb), .val (.int fr), .val (.int fe), .val (.int ab), .val (.int rm), .unset, .unset, .unset, .unset, .unset] [(.int sel)])) _
    refine XS.istore X13.here hx rfl (hb hby at_80) rfl (l' := #[.val (.int p1), .val (.int p2), .val (.int p3), .val (.int p4), .val (.int p5), .val (.int p6), .val (.int n1), .val (.int fa), .val (.int fb), .val (.int fr), .val (.int fe), .val (.int ab), .val (.int rm), .val (.int sel), .unset, .unset, .unset, .unset]) rfl ?_
    exact kt
  obtain ⟨T21, L21, N21, X21, e21, st21⟩ : ∃ (T' : State) (L' : List Loc), Fr n0 L' ∧ Stand p l e room_1 s m #[(.int p1), (.int p2), (.int p3), (.int p4), (.int p5), (.int p6)] below meth c T' L' 0 0 ∧ T'.heap = h0 ∧ ∀ tt, Steps p.tables e below (T'.setTop (mkF m 124 #[.val (.int p1), .val (.int p2), .val (.int p3), .val (.int p4), .val (.int p5), .val (.int p6), .val (.int n1), .val (.int fa), .val (.int fb), .val (.int fr), .val (.int fe), .val (.int ab), .val (.int rm), .val (.int sel), .val (.int fq), .unset, .unset, .unset] [])) tt → Steps p.tables e below (T13.setTop (mkF m 82 #[.val (.int p1), .val (.int p2), .val (.int p3), .val (.int p4), .val (.int p5), .val (.int p6), .val (.int n1), .val (.int fa), .val (.int fb), .val (.int fr), .val (.int fe), .val (.int ab), .val (.int rm), .val (.int sel), .unset, .unset, .unset, .unset] [])) tt := by
    have pid21 : ∀ tt, Steps p.tables e below (T13.setTop (mkF m 82 #[.val (.int p1), .val (.int p2), .val (.int p3), .val (.int p4), .val (.int p5), .val (.int p6), .val (.int n1), .val (.int fa), .val (.int fb), .val (.int fr), .val (.int fe), .val (.int ab), .val (.int rm), .val (.int sel), .unset, .unset, .unset, .unset] [])) tt → Steps p.tables e below (T13.setTop (mkF m 82 #[.val (.int p1), .val (.int p2), .val (.int p3), .val (.int p4), .val (.int p5), .val (.int p6), .val (.int n1), .val (.int fa), .val (.int fb), .val (.int fr), .val (.int fe), .val (.int ab), .val (.int rm), .val (.int sel), .unset, .unset, .unset, .unset] [])) tt := fun tt kt => kt
    have pre22 : ∀ tt, Steps p.tables e below (T13.setTop (mkF m 84 #[.val (.int p1), .val (.int p2), .val (.int p3), .val (.int p4), .val (.int p5), .val (.int p6), .val (.int n1), .val (.int fa), .val (.int fb), .val (.int fr), .val (.int fe), .val (.int ab), .val (.int rm), .val (.int sel), .unset, .unset, .unset, .unset] [(.int sel)])) tt → Steps p.tables e below (T13.setTop (mkF m 82 #[.val (.int p1), .val (.int p2), .val (.int p3), .val (.int p4), .val (.int p5), .val (.int p6), .val (.int n1), .val (.int fa), .val (.int fb), .val (.int fr), .val (.int fe), .val (.int ab), .val (.int rm), .val (.int sel), .unset, .unset, .unset, .unset] [])) tt := by
      intro tt kt
      refine pid21 tt ?_
      show Steps p.tables e below (T13.setTop (mkF m 82 #[.val (.int p1), .val (.int p2), .val (.int p3), .val (.int p4), .val (.int p5), .val (.int p6), .val (.int n1), .val (.int fa), .val (.int fb), .val (.int fr), .val (.int fe), .val (.int ab), .val (.int rm), .val (.int sel), .unset, .unset, .unset, .unset] [])) _
      refine XS.iload X13.here hx rfl (hb hby at_82) rfl ?_
      exact kt
    by_cases c84_23 : sel = (0 : Int32)
    · have pre24 : ∀ tt, Steps p.tables e below (T13.setTop (mkF m 124 #[.val (.int p1), .val (.int p2), .val (.int p3), .val (.int p4), .val (.int p5), .val (.int p6), .val (.int n1), .val (.int fa), .val (.int fb), .val (.int fr), .val (.int fe), .val (.int ab), .val (.int rm), .val (.int sel), .val (.int fa), .unset, .unset, .unset] [])) tt → Steps p.tables e below (T13.setTop (mkF m 82 #[.val (.int p1), .val (.int p2), .val (.int p3), .val (.int p4), .val (.int p5), .val (.int p6), .val (.int n1), .val (.int fa), .val (.int fb), .val (.int fr), .val (.int fe), .val (.int ab), .val (.int rm), .val (.int sel), .unset, .unset, .unset, .unset] [])) tt := by
        intro tt kt
        refine pre22 tt ?_
        show Steps p.tables e below (T13.setTop (mkF m 84 #[.val (.int p1), .val (.int p2), .val (.int p3), .val (.int p4), .val (.int p5), .val (.int p6), .val (.int n1), .val (.int fa), .val (.int fb), .val (.int fr), .val (.int fe), .val (.int ab), .val (.int rm), .val (.int sel), .unset, .unset, .unset, .unset] [(.int sel)])) _
        refine XS.ifNo X13.here hx rfl (hb hby at_84) rfl ((if0 _ _).trans (teq c84_23).2) ?_
        show Steps p.tables e below (T13.setTop (mkF m 87 #[.val (.int p1), .val (.int p2), .val (.int p3), .val (.int p4), .val (.int p5), .val (.int p6), .val (.int n1), .val (.int fa), .val (.int fb), .val (.int fr), .val (.int fe), .val (.int ab), .val (.int rm), .val (.int sel), .unset, .unset, .unset, .unset] [])) _
        refine XS.iload X13.here hx rfl (hb hby at_87) rfl ?_
        show Steps p.tables e below (T13.setTop (mkF m 89 #[.val (.int p1), .val (.int p2), .val (.int p3), .val (.int p4), .val (.int p5), .val (.int p6), .val (.int n1), .val (.int fa), .val (.int fb), .val (.int fr), .val (.int fe), .val (.int ab), .val (.int rm), .val (.int sel), .unset, .unset, .unset, .unset] [(.int fa)])) _
        refine XS.istore X13.here hx rfl (hb hby at_89) rfl (l' := #[.val (.int p1), .val (.int p2), .val (.int p3), .val (.int p4), .val (.int p5), .val (.int p6), .val (.int n1), .val (.int fa), .val (.int fb), .val (.int fr), .val (.int fe), .val (.int ab), .val (.int rm), .val (.int sel), .val (.int fa), .unset, .unset, .unset]) rfl ?_
        show Steps p.tables e below (T13.setTop (mkF m 91 #[.val (.int p1), .val (.int p2), .val (.int p3), .val (.int p4), .val (.int p5), .val (.int p6), .val (.int n1), .val (.int fa), .val (.int fb), .val (.int fr), .val (.int fe), .val (.int ab), .val (.int rm), .val (.int sel), .val (.int fa), .unset, .unset, .unset] [])) _
        refine XS.goto X13.here hx rfl (pc0 := 91) (pc' := 124) rfl (hb hby at_91) (by decide) (by decide) ?_
        exact kt
      refine ⟨T13, _, N13, X13, e13, fun tt kt => pre24 tt ?_⟩
      rw [hfq, if_pos c84_23] at kt
      exact kt
    · have pre25 : ∀ tt, Steps p.tables e below (T13.setTop (mkF m 97 #[.val (.int p1), .val (.int p2), .val (.int p3), .val (.int p4), .val (.int p5), .val (.int p6), .val (.int n1), .val (.int fa), .val (.int fb), .val (.int fr), .val (.int fe), .val (.int ab), .val (.int rm), .val (.int sel), .unset, .unset, .unset, .unset] [(.int (1 : Int32)), (.int sel)])) tt → Steps p.tables e below (T13.setTop (mkF m 82 #[.val (.int p1), .val (.int p2), .val (.int p3), .val (.int p4), .val (.int p5), .val (.int p6), .val (.int n1), .val (.int fa), .val (.int fb), .val (.int fr), .val (.int fe), .val (.int ab), .val (.int rm), .val (.int sel), .unset, .unset, .unset, .unset] [])) tt := by
        intro tt kt
        refine pre22 tt ?_
        show Steps p.tables e below (T13.setTop (mkF m 84 #[.val (.int p1), .val (.int p2), .val (.int p3), .val (.int p4), .val (.int p5), .val (.int p6), .val (.int n1), .val (.int fa), .val (.int fb), .val (.int fr), .val (.int fe), .val (.int ab), .val (.int rm), .val (.int sel), .unset, .unset, .unset, .unset] [(.int sel)])) _
        refine XS.ifYes X13.here hx rfl (pc0 := 84) (pc' := 94) rfl (hb hby at_84) rfl ((if0 _ _).trans (feq c84_23).2) (by decide) (by decide) ?_
        show Steps p.tables e below (T13.setTop (mkF m 94 #[.val (.int p1), .val (.int p2), .val (.int p3), .val (.int p4), .val (.int p5), .val (.int p6), .val (.int n1), .val (.int fa), .val (.int fb), .val (.int fr), .val (.int fe), .val (.int ab), .val (.int rm), .val (.int sel), .unset, .unset, .unset, .unset] [])) _
        refine XS.iload X13.here hx rfl (hb hby at_94) rfl ?_
        show Steps p.tables e below (T13.setTop (mkF m 96 #[.val (.int p1), .val (.int p2), .val (.int p3), .val (.int p4), .val (.int p5), .val (.int p6), .val (.int n1), .val (.int fa), .val (.int fb), .val (.int fr), .val (.int fe), .val (.int ab), .val (.int rm), .val (.int sel), .unset, .unset, .unset, .unset] [(.int sel)])) _
        refine XS.iconst X13.here hx rfl (hb hby at_96) ?_
        exact kt
      by_cases c97_26 : sel = (1 : Int32)
      · have pre27 : ∀ tt, Steps p.tables e below (T13.setTop (mkF m 124 #[.val (.int p1), .val (.int p2), .val (.int p3), .val (.int p4), .val (.int p5), .val (.int p6), .val (.int n1), .val (.int fa), .val (.int fb), .val (.int fr), .val (.int fe), .val (.int ab), .val (.int rm), .val (.int sel), .val (.int fb), .unset, .unset, .unset] [])) tt → Steps p.tables e below (T13.setTop (mkF m 82 #[.val (.int p1), .val (.int p2), .val (.int p3), .val (.int p4), .val (.int p5), .val (.int p6), .val (.int n1), .val (.int fa), .val (.int fb), .val (.int fr), .val (.int fe), .val (.int ab), .val (.int rm), .val (.int sel), .unset, .unset, .unset, .unset] [])) tt := by
          intro tt kt
          refine pre25 tt ?_
          show Steps p.tables e below (T13.setTop (mkF m 97 #[.val (.int p1), .val (.int p2), .val (.int p3), .val (.int p4), .val (.int p5), .val (.int p6), .val (.int n1), .val (.int fa), .val (.int fb), .val (.int fr), .val (.int fe), .val (.int ab), .val (.int rm), .val (.int sel), .unset, .unset, .unset, .unset] [(.int (1 : Int32)), (.int sel)])) _
          refine XS.icmpNo X13.here hx rfl (hb hby at_97) rfl (teq c97_26).2 ?_
          show Steps p.tables e below (T13.setTop (mkF m 100 #[.val (.int p1), .val (.int p2), .val (.int p3), .val (.int p4), .val (.int p5), .val (.int p6), .val (.int n1), .val (.int fa), .val (.int fb), .val (.int fr), .val (.int fe), .val (.int ab), .val (.int rm), .val (.int sel), .unset, .unset, .unset, .unset] [])) _
          refine XS.iload X13.here hx rfl (hb hby at_100) rfl ?_
          show Steps p.tables e below (T13.setTop (mkF m 102 #[.val (.int p1), .val (.int p2), .val (.int p3), .val (.int p4), .val (.int p5), .val (.int p6), .val (.int n1), .val (.int fa), .val (.int fb), .val (.int fr), .val (.int fe), .val (.int ab), .val (.int rm), .val (.int sel), .unset, .unset, .unset, .unset] [(.int fb)])) _
          refine XS.istore X13.here hx rfl (hb hby at_102) rfl (l' := #[.val (.int p1), .val (.int p2), .val (.int p3), .val (.int p4), .val (.int p5), .val (.int p6), .val (.int n1), .val (.int fa), .val (.int fb), .val (.int fr), .val (.int fe), .val (.int ab), .val (.int rm), .val (.int sel), .val (.int fb), .unset, .unset, .unset]) rfl ?_
          show Steps p.tables e below (T13.setTop (mkF m 104 #[.val (.int p1), .val (.int p2), .val (.int p3), .val (.int p4), .val (.int p5), .val (.int p6), .val (.int n1), .val (.int fa), .val (.int fb), .val (.int fr), .val (.int fe), .val (.int ab), .val (.int rm), .val (.int sel), .val (.int fb), .unset, .unset, .unset] [])) _
          refine XS.goto X13.here hx rfl (pc0 := 104) (pc' := 124) rfl (hb hby at_104) (by decide) (by decide) ?_
          exact kt
        refine ⟨T13, _, N13, X13, e13, fun tt kt => pre27 tt ?_⟩
        rw [hfq, if_neg c84_23, if_pos c97_26] at kt
        exact kt
      · have pre28 : ∀ tt, Steps p.tables e below (T13.setTop (mkF m 110 #[.val (.int p1), .val (.int p2), .val (.int p3), .val (.int p4), .val (.int p5), .val (.int p6), .val (.int n1), .val (.int fa), .val (.int fb), .val (.int fr), .val (.int fe), .val (.int ab), .val (.int rm), .val (.int sel), .unset, .unset, .unset, .unset] [(.int (2 : Int32)), (.int sel)])) tt → Steps p.tables e below (T13.setTop (mkF m 82 #[.val (.int p1), .val (.int p2), .val (.int p3), .val (.int p4), .val (.int p5), .val (.int p6), .val (.int n1), .val (.int fa), .val (.int fb), .val (.int fr), .val (.int fe), .val (.int ab), .val (.int rm), .val (.int sel), .unset, .unset, .unset, .unset] [])) tt := by
          intro tt kt
          refine pre25 tt ?_
          show Steps p.tables e below (T13.setTop (mkF m 97 #[.val (.int p1), .val (.int p2), .val (.int p3), .val (.int p4), .val (.int p5), .val (.int p6), .val (.int n1), .val (.int fa), .val (.int fb), .val (.int fr), .val (.int fe), .val (.int ab), .val (.int rm), .val (.int sel), .unset, .unset, .unset, .unset] [(.int (1 : Int32)), (.int sel)])) _
          refine XS.icmpYes X13.here hx rfl (pc0 := 97) (pc' := 107) rfl (hb hby at_97) rfl (feq c97_26).2 (by decide) (by decide) ?_
          show Steps p.tables e below (T13.setTop (mkF m 107 #[.val (.int p1), .val (.int p2), .val (.int p3), .val (.int p4), .val (.int p5), .val (.int p6), .val (.int n1), .val (.int fa), .val (.int fb), .val (.int fr), .val (.int fe), .val (.int ab), .val (.int rm), .val (.int sel), .unset, .unset, .unset, .unset] [])) _
          refine XS.iload X13.here hx rfl (hb hby at_107) rfl ?_
          show Steps p.tables e below (T13.setTop (mkF m 109 #[.val (.int p1), .val (.int p2), .val (.int p3), .val (.int p4), .val (.int p5), .val (.int p6), .val (.int n1), .val (.int fa), .val (.int fb), .val (.int fr), .val (.int fe), .val (.int ab), .val (.int rm), .val (.int sel), .unset, .unset, .unset, .unset] [(.int sel)])) _
          refine XS.iconst X13.here hx rfl (hb hby at_109) ?_
          exact kt
        by_cases c110_29 : sel = (2 : Int32)
        · have pre30 : ∀ tt, Steps p.tables e below (T13.setTop (mkF m 124 #[.val (.int p1), .val (.int p2), .val (.int p3), .val (.int p4), .val (.int p5), .val (.int p6), .val (.int n1), .val (.int fa), .val (.int fb), .val (.int fr), .val (.int fe), .val (.int ab), .val (.int rm), .val (.int sel), .val (.int fr), .unset, .unset, .unset] [])) tt → Steps p.tables e below (T13.setTop (mkF m 82 #[.val (.int p1), .val (.int p2), .val (.int p3), .val (.int p4), .val (.int p5), .val (.int p6), .val (.int n1), .val (.int fa), .val (.int fb), .val (.int fr), .val (.int fe), .val (.int ab), .val (.int rm), .val (.int sel), .unset, .unset, .unset, .unset] [])) tt := by
            intro tt kt
            refine pre28 tt ?_
            show Steps p.tables e below (T13.setTop (mkF m 110 #[.val (.int p1), .val (.int p2), .val (.int p3), .val (.int p4), .val (.int p5), .val (.int p6), .val (.int n1), .val (.int fa), .val (.int fb), .val (.int fr), .val (.int fe), .val (.int ab), .val (.int rm), .val (.int sel), .unset, .unset, .unset, .unset] [(.int (2 : Int32)), (.int sel)])) _
            refine XS.icmpNo X13.here hx rfl (hb hby at_110) rfl (teq c110_29).2 ?_
            show Steps p.tables e below (T13.setTop (mkF m 113 #[.val (.int p1), .val (.int p2), .val (.int p3), .val (.int p4), .val (.int p5), .val (.int p6), .val (.int n1), .val (.int fa), .val (.int fb), .val (.int fr), .val (.int fe), .val (.int ab), .val (.int rm), .val (.int sel), .unset, .unset, .unset, .unset] [])) _
            refine XS.iload X13.here hx rfl (hb hby at_113) rfl ?_
            show Steps p.tables e below (T13.setTop (mkF m 115 #[.val (.int p1), .val (.int p2), .val (.int p3), .val (.int p4), .val (.int p5), .val (.int p6), .val (.int n1), .val (.int fa), .val (.int fb), .val (.int fr), .val (.int fe), .val (.int ab), .val (.int rm), .val (.int sel), .unset, .unset, .unset, .unset] [(.int fr)])) _
            refine XS.istore X13.here hx rfl (hb hby at_115) rfl (l' := #[.val (.int p1), .val (.int p2), .val (.int p3), .val (.int p4), .val (.int p5), .val (.int p6), .val (.int n1), .val (.int fa), .val (.int fb), .val (.int fr), .val (.int fe), .val (.int ab), .val (.int rm), .val (.int sel), .val (.int fr), .unset, .unset, .unset]) rfl ?_
            show Steps p.tables e below (T13.setTop (mkF m 117 #[.val (.int p1), .val (.int p2), .val (.int p3), .val (.int p4), .val (.int p5), .val (.int p6), .val (.int n1), .val (.int fa), .val (.int fb), .val (.int fr), .val (.int fe), .val (.int ab), .val (.int rm), .val (.int sel), .val (.int fr), .unset, .unset, .unset] [])) _
            refine XS.goto X13.here hx rfl (pc0 := 117) (pc' := 124) rfl (hb hby at_117) (by decide) (by decide) ?_
            exact kt
          refine ⟨T13, _, N13, X13, e13, fun tt kt => pre30 tt ?_⟩
          rw [hfq, if_neg c84_23, if_neg c97_26, if_pos c110_29] at kt
          exact kt
        · have pre31 : ∀ tt, Steps p.tables e below (T13.setTop (mkF m 124 #[.val (.int p1), .val (.int p2), .val (.int p3), .val (.int p4), .val (.int p5), .val (.int p6), .val (.int n1), .val (.int fa), .val (.int fb), .val (.int fr), .val (.int fe), .val (.int ab), .val (.int rm), .val (.int sel), .val (.int fe), .unset, .unset, .unset] [])) tt → Steps p.tables e below (T13.setTop (mkF m 82 #[.val (.int p1), .val (.int p2), .val (.int p3), .val (.int p4), .val (.int p5), .val (.int p6), .val (.int n1), .val (.int fa), .val (.int fb), .val (.int fr), .val (.int fe), .val (.int ab), .val (.int rm), .val (.int sel), .unset, .unset, .unset, .unset] [])) tt := by
            intro tt kt
            refine pre28 tt ?_
            show Steps p.tables e below (T13.setTop (mkF m 110 #[.val (.int p1), .val (.int p2), .val (.int p3), .val (.int p4), .val (.int p5), .val (.int p6), .val (.int n1), .val (.int fa), .val (.int fb), .val (.int fr), .val (.int fe), .val (.int ab), .val (.int rm), .val (.int sel), .unset, .unset, .unset, .unset] [(.int (2 : Int32)), (.int sel)])) _
            refine XS.icmpYes X13.here hx rfl (pc0 := 110) (pc' := 120) rfl (hb hby at_110) rfl (feq c110_29).2 (by decide) (by decide) ?_
            show Steps p.tables e below (T13.setTop (mkF m 120 #[.val (.int p1), .val (.int p2), .val (.int p3), .val (.int p4), .val (.int p5), .val (.int p6), .val (.int n1), .val (.int fa), .val (.int fb), .val (.int fr), .val (.int fe), .val (.int ab), .val (.int rm), .val (.int sel), .unset, .unset, .unset, .unset] [])) _
            refine XS.iload X13.here hx rfl (hb hby at_120) rfl ?_
            show Steps p.tables e below (T13.setTop (mkF m 122 #[.val (.int p1), .val (.int p2), .val (.int p3), .val (.int p4), .val (.int p5), .val (.int p6), .val (.int n1), .val (.int fa), .val (.int fb), .val (.int fr), .val (.int fe), .val (.int ab), .val (.int rm), .val (.int sel), .unset, .unset, .unset, .unset] [(.int fe)])) _
            refine XS.istore X13.here hx rfl (hb hby at_122) rfl (l' := #[.val (.int p1), .val (.int p2), .val (.int p3), .val (.int p4), .val (.int p5), .val (.int p6), .val (.int n1), .val (.int fa), .val (.int fb), .val (.int fr), .val (.int fe), .val (.int ab), .val (.int rm), .val (.int sel), .val (.int fe), .unset, .unset, .unset]) rfl ?_
            exact kt
          refine ⟨T13, _, N13, X13, e13, fun tt kt => pre31 tt ?_⟩
          rw [hfq, if_neg c84_23, if_neg c97_26, if_neg c110_29] at kt
          exact kt
  have pre32 : ∀ tt, Steps p.tables e below (T21.setTop (mkF m 124 #[.val (.int p1), .val (.int p2), .val (.int p3), .val (.int p4), .val (.int p5), .val (.int p6), .val (.int n1), .val (.int fa), .val (.int fb), .val (.int fr), .val (.int fe), .val (.int ab), .val (.int rm), .val (.int sel), .val (.int fq), .unset, .unset, .unset] [])) tt → Steps p.tables e below (s₁.setTop (entryFrame m #[(.int p1), (.int p2), (.int p3), (.int p4), (.int p5), (.int p6)] maxLocals)) tt := by
    intro tt kt
    refine pre20 tt ?_
    show Steps p.tables e below (T13.setTop (mkF m 82 #[.val (.int p1), .val (.int p2), .val (.int p3), .val (.int p4), .val (.int p5), .val (.int p6), .val (.int n1), .val (.int fa), .val (.int fb), .val (.int fr), .val (.int fe), .val (.int ab), .val (.int rm), .val (.int sel), .unset, .unset, .unset, .unset] [])) _
    refine st21 _ ?_
    exact kt
  have r_fq : 0 ≤ fq.toInt ∧ fq.toInt < n1.toInt := by
    rw [hfq]
    split
    · exact r_fa
    · split
      · exact r_fb
      · split
        · exact r_fr
        · exact r_fe
  clear hfq
  obtain ⟨T33, h33, X33, e33, E33, A33, D33, -, st33⟩ := newO X21 hx hZ hown (hw _ (List.mem_of_getElem? (i := 1) rfl)) (hw _ (List.mem_of_getElem? (i := 2) rfl)) (hw _ (List.mem_of_getElem? (i := 3) rfl)) e21 (g := (mkF m 124 #[.val (.int p1), .val (.int p2), .val (.int p3), .val (.int p4), .val (.int p5), .val (.int p6), .val (.int n1), .val (.int fa), .val (.int fb), .val (.int fr), .val (.int fe), .val (.int ab), .val (.int rm), .val (.int sel), .val (.int fq), .unset, .unset, .unset] [])) rfl (hb hby at_124) (by decide) (by decide)
  obtain ⟨b33, g33⟩ : ∃ z, z = h0.size := ⟨_, rfl⟩
  rw [← g33] at A33 D33 st33
  have g_b33 : n0 ≤ b33 := Nat.le_trans Z0 (Nat.le_of_eq g33.symm)
  have F_further_b33 : Fld Z h33 b33 "com/example/phase7/phase7/metadata/FieldSet" "further" "[J" .null := D33 (Or.inr (hw _ (List.mem_of_getElem? (i := 13) rfl))) (ty := (.array .long)) (by decide)
  have F_first_b33 : Fld Z h33 b33 "com/example/phase7/phase7/metadata/FieldSet" "first" "J" (.long (0 : Int64)) := D33 (Or.inl (hw _ (List.mem_of_getElem? (i := 20) rfl))) (ty := .long) (by decide)
  obtain ⟨_, _, ⟨T34, L34, k34, n34⟩, -, X34, ⟨Lc34, hQ34, l34, y34, z34⟩, st34⟩ := X33.specialBack hx (y := (⟨"com/example/phase7/phase7/metadata/FieldSet", "<init>", "(I)V"⟩ : MethodName)) rfl hown (mvT hZ (hw _ (List.mem_of_getElem? (i := 4) rfl))) (mvT hZ (hw _ (List.mem_of_getElem? (i := 5) rfl))) (mvT hZ (hw _ (List.mem_of_getElem? (i := 6) rfl))) (by decide) (backOf (W := 1) (rmC l Z a0 hw [] b33 n1 wN kN h33 n0 (Nat.le_trans Z0 E33.1) A33 F_first_b33 F_further_b33 (Sta.ext E33 S_N) (V_N.ext E33) (Nat.ne_of_gt (Nat.lt_of_lt_of_le V_N.lt (Nat.le_of_eq g33.symm))) g_b33 hn) hZ (hw _ (List.mem_of_getElem? (i := 6) rfl)) (hw _ (List.mem_of_getElem? (i := 3) rfl)) (by decide) (by decide)) (g := (mkF m 130 #[.val (.int p1), .val (.int p2), .val (.int p3), .val (.int p4), .val (.int p5), .val (.int p6), .val (.int n1), .val (.int fa), .val (.int fb), .val (.int fr), .val (.int fe), .val (.int ab), .val (.int rm), .val (.int sel), .val (.int fq), .unset, .unset, .unset] [(.int n1), (.ref b33), (.ref b33)])) rfl (by rw [hml]; rfl) (Steps.refl _) (a := b33) (argsL := [(.int n1)]) (rest := [(.ref b33)]) (lenOf pd_rm0_0 rfl) rfl (by show 2 * 0 + _ ≤ _; exact Nat.le_of_eq rfl) (hb hby at_130) (fun _ _ => ⟨rfl, e33, (by decide : 1 + 1 ≤ _), (by decide : 2 + 3 ≤ _)⟩)
  dsimp only [Pt.U, Pt.locs, Pt.cells, Pt.slots] at X34 l34 y34 z34 st34 hQ34
  subst l34 y34 z34
  obtain ⟨rfl, N34q, K34, Ea34, Ff34, b34, kb34, z34, Fg34, Vb34, hne34, hz34, gz34⟩ := hQ34
  have N34 := Fr.app N21 N34q
  have z_fq : (fq / (64 : Int32)).toInt ≤ z34.toInt := by
    have q1 := (own_fr hn r_fq).2.2
    have q2 := hz34
    have q3 := r_fq
    omega
  obtain ⟨cq35, kq35, q35a, q35b, q35c⟩ := isOf hZ rfl Ea34
  obtain ⟨_, _, ⟨T35, L35, k35, n35⟩, -, X35, ⟨Lc35, hQ35, l35, y35, z35⟩, st35⟩ := X34.virtualBack hx (y := (⟨"com/example/phase7/phase7/metadata/FieldSet", "contains", "(I)Z"⟩ : MethodName)) (z := (⟨"com/example/phase7/phase7/metadata/FieldSet", "contains", "(I)Z"⟩ : MethodName)) hown (mvT hZ (hw _ (List.mem_of_getElem? (i := 14) rfl))) (mvT hZ (hw _ (List.mem_of_getElem? (i := 15) rfl))) (notFace_of_selects (args := #[]) (mvT hZ (hw _ (List.mem_of_getElem? (i := 17) rfl)))) (mvT hZ (hw _ (List.mem_of_getElem? (i := 17) rfl))) (mvT hZ (hw _ (List.mem_of_getElem? (i := 16) rfl))) (by decide) (backOf (W := 0) (rmH l Z a0 hw [] b33 b34 kb34 fq (fq / (64 : Int32)) z34 (0 : Int32) (0 : Int64) (0 : Int64) (0 : Int64) (0 : Int64) T34.heap n0 (Nat.le_trans (Nat.le_trans Z0 E33.1) K34.1) Ea34 Ff34 Fg34 Vb34 hne34 (own_fr hn r_fq).1 rfl (own_fr hn r_fq).2.1 z_fq (own_has0 fq)) hZ (hw _ (List.mem_of_getElem? (i := 18) rfl)) (hw _ (List.mem_of_getElem? (i := 3) rfl)) (by decide) (by decide)) q35a q35c (g := (mkF m 139 #[.val (.int p1), .val (.int p2), .val (.int p3), .val (.int p4), .val (.int p5), .val (.int p6), .val (.int n1), .val (.int fa), .val (.int fb), .val (.int fr), .val (.int fe), .val (.int ab), .val (.int rm), .val (.int sel), .val (.int fq), .val (.ref b33), .unset, .unset] [(.int fq), (.ref b33)])) rfl (by rw [hml]; rfl) (Steps.refl _) (argsL := [(.int fq)]) (rest := []) (lenOf pd_rm0_1 rfl) rfl (by show 2 * 0 + _ ≤ _; exact Nat.le_of_eq rfl) (hb hby at_139) (fun _ _ => ⟨rfl, rfl, (by decide : 2 + 0 ≤ _), (by decide : 5 + 0 ≤ _)⟩)
  dsimp only [Pt.U, Pt.locs, Pt.cells, Pt.slots] at X35 l35 y35 z35 st35 hQ35
  subst l35 y35 z35
  obtain ⟨rfl, N35q, hE35⟩ := hQ35
  have N35 := Fr.app N34 N35q
  have z_fa : (fa / (64 : Int32)).toInt ≤ z34.toInt := by
    have q1 := (own_fr hn r_fa).2.2
    have q2 := hz34
    have q3 := r_fa
    omega
  obtain ⟨u0_36, hu0_36⟩ : ∃ z : Int64, z = if fa / (64 : Int32) = 0 then ((0 : Int64) ||| ((1 : Int64) <<< (fa &&& 0x3f).toInt64)) else (0 : Int64) := ⟨_, rfl⟩
  obtain ⟨u1_36, hu1_36⟩ : ∃ z : Int64, z = if fa / (64 : Int32) = 1 then ((0 : Int64) ||| ((1 : Int64) <<< (fa &&& 0x3f).toInt64)) else (0 : Int64) := ⟨_, rfl⟩
  obtain ⟨u2_36, hu2_36⟩ : ∃ z : Int64, z = if fa / (64 : Int32) = 2 then ((0 : Int64) ||| ((1 : Int64) <<< (fa &&& 0x3f).toInt64)) else (0 : Int64) := ⟨_, rfl⟩
  obtain ⟨u3_36, hu3_36⟩ : ∃ z : Int64, z = if fa / (64 : Int32) = 3 then ((0 : Int64) ||| ((1 : Int64) <<< (fa &&& 0x3f).toInt64)) else (0 : Int64) := ⟨_, rfl⟩
  obtain ⟨cq36, kq36, q36a, q36b, q36c⟩ := isOf hZ hE35 Ea34
  obtain ⟨_, _, ⟨T36, L36, k36, n36⟩, -, X36, ⟨Lc36, hQ36, l36, y36, z36⟩, st36⟩ := X35.virtualBack hx (y := (⟨"com/example/phase7/phase7/metadata/FieldSet", "add", "(I)V"⟩ : MethodName)) (z := (⟨"com/example/phase7/phase7/metadata/FieldSet", "add", "(I)V"⟩ : MethodName)) hown (mvT hZ (hw _ (List.mem_of_getElem? (i := 21) rfl))) (mvT hZ (hw _ (List.mem_of_getElem? (i := 22) rfl))) (notFace_of_selects (args := #[]) (mvT hZ (hw _ (List.mem_of_getElem? (i := 24) rfl)))) (mvT hZ (hw _ (List.mem_of_getElem? (i := 24) rfl))) (mvT hZ (hw _ (List.mem_of_getElem? (i := 23) rfl))) (by decide) (backOf (W := 0) (rmA l Z a0 hw [] b33 b34 kb34 fa (fa / (64 : Int32)) z34 (0 : Int64) (0 : Int64) (0 : Int64) (0 : Int64) u0_36 u1_36 u2_36 u3_36 T34.heap n0 (Nat.le_trans (Nat.le_trans Z0 E33.1) K34.1) Ea34 Ff34 Fg34 Vb34 hne34 (own_fr hn r_fa).1 rfl (own_fr hn r_fa).2.1 z_fa g_b33 gz34 hu0_36 hu1_36 hu2_36 hu3_36) hZ (hw _ (List.mem_of_getElem? (i := 25) rfl)) (hw _ (List.mem_of_getElem? (i := 3) rfl)) (by decide) (by decide)) q36a q36c (g := (mkF m 156 #[.val (.int p1), .val (.int p2), .val (.int p3), .val (.int p4), .val (.int p5), .val (.int p6), .val (.int n1), .val (.int fa), .val (.int fb), .val (.int fr), .val (.int fe), .val (.int ab), .val (.int rm), .val (.int sel), .val (.int fq), .val (.ref b33), .val (.int (1 : Int32)), .unset] [(.int fa), (.ref b33)])) rfl (by rw [hml]; rfl) (Steps.refl _) (argsL := [(.int fa)]) (rest := []) (lenOf pd_rm0_0 rfl) rfl (by show 2 * 0 + _ ≤ _; exact Nat.le_of_eq rfl) (hb hby at_156) (fun _ _ => ⟨rfl, hE35, (by decide : 2 + 0 ≤ _), (by decide : 5 + 0 ≤ _)⟩)
  dsimp only [Pt.U, Pt.locs, Pt.cells, Pt.slots] at X36 l36 y36 z36 st36 hQ36
  subst l36 y36 z36
  obtain ⟨rfl, N36q, K36, Ea36, Ff36, Fg36, Vb36⟩ := hQ36
  have N36 := Fr.app N35 N36q
  have pre37 : ∀ tt, Steps p.tables e below (T36.setTop (mkF m 159 #[.val (.int p1), .val (.int p2), .val (.int p3), .val (.int p4), .val (.int p5), .val (.int p6), .val (.int n1), .val (.int fa), .val (.int fb), .val (.int fr), .val (.int fe), .val (.int ab), .val (.int rm), .val (.int sel), .val (.int fq), .val (.ref b33), .val (.int (1 : Int32)), .unset] [])) tt → Steps p.tables e below (s₁.setTop (entryFrame m #[(.int p1), (.int p2), (.int p3), (.int p4), (.int p5), (.int p6)] maxLocals)) tt := by
    intro tt kt
    refine pre32 tt ?_
    show Steps p.tables e below (T21.setTop (mkF m 124 #[.val (.int p1), .val (.int p2), .val (.int p3), .val (.int p4), .val (.int p5), .val (.int p6), .val (.int n1), .val (.int fa), .val (.int fb), .val (.int fr), .val (.int fe), .val (.int ab), .val (.int rm), .val (.int sel), .val (.int fq), .unset, .unset, .unset] [])) _
    refine st33 _ ?_
    show Steps p.tables e below (T33.setTop (mkF m 127 #[.val (.int p1), .val (.int p2), .val (.int p3), .val (.int p4), .val (.int p5), .val (.int p6), .val (.int n1), .val (.int fa), .val (.int fb), .val (.int fr), .val (.int fe), .val (.int ab), .val (.int rm), .val (.int sel), .val (.int fq), .unset, .unset, .unset] [(.ref b33)])) _
    refine XS.dup X33.here hx rfl (hb hby at_127) rfl rfl ?_
    show Steps p.tables e below (T33.setTop (mkF m 128 #[.val (.int p1), .val (.int p2), .val (.int p3), .val (.int p4), .val (.int p5), .val (.int p6), .val (.int n1), .val (.int fa), .val (.int fb), .val (.int fr), .val (.int fe), .val (.int ab), .val (.int rm), .val (.int sel), .val (.int fq), .unset, .unset, .unset] [(.ref b33), (.ref b33)])) _
    refine XS.iload X33.here hx rfl (hb hby at_128) rfl ?_
    show Steps p.tables e below (T33.setTop (mkF m 130 #[.val (.int p1), .val (.int p2), .val (.int p3), .val (.int p4), .val (.int p5), .val (.int p6), .val (.int n1), .val (.int fa), .val (.int fb), .val (.int fr), .val (.int fe), .val (.int ab), .val (.int rm), .val (.int sel), .val (.int fq), .unset, .unset, .unset] [(.int n1), (.ref b33), (.ref b33)])) _
    refine st34.trans ?_
    show Steps p.tables e below (T34.setTop (mkF m 133 #[.val (.int p1), .val (.int p2), .val (.int p3), .val (.int p4), .val (.int p5), .val (.int p6), .val (.int n1), .val (.int fa), .val (.int fb), .val (.int fr), .val (.int fe), .val (.int ab), .val (.int rm), .val (.int sel), .val (.int fq), .unset, .unset, .unset] [(.ref b33)])) _
    refine XS.astore X34.here hx rfl (hb hby at_133) rfl rfl (l' := #[.val (.int p1), .val (.int p2), .val (.int p3), .val (.int p4), .val (.int p5), .val (.int p6), .val (.int n1), .val (.int fa), .val (.int fb), .val (.int fr), .val (.int fe), .val (.int ab), .val (.int rm), .val (.int sel), .val (.int fq), .val (.ref b33), .unset, .unset]) rfl ?_
    show Steps p.tables e below (T34.setTop (mkF m 135 #[.val (.int p1), .val (.int p2), .val (.int p3), .val (.int p4), .val (.int p5), .val (.int p6), .val (.int n1), .val (.int fa), .val (.int fb), .val (.int fr), .val (.int fe), .val (.int ab), .val (.int rm), .val (.int sel), .val (.int fq), .val (.ref b33), .unset, .unset] [])) _
    refine XS.aload X34.here hx rfl (hb hby at_135) rfl rfl ?_
    show Steps p.tables e below (T34.setTop (mkF m 137 #[.val (.int p1), .val (.int p2), .val (.int p3), .val (.int p4), .val (.int p5), .val (.int p6), .val (.int n1), .val (.int fa), .val (.int fb), .val (.int fr), .val (.int fe), .val (.int ab), .val (.int rm), .val (.int sel), .val (.int fq), .val (.ref b33), .unset, .unset] [(.ref b33)])) _
    refine XS.iload X34.here hx rfl (hb hby at_137) rfl ?_
    show Steps p.tables e below (T34.setTop (mkF m 139 #[.val (.int p1), .val (.int p2), .val (.int p3), .val (.int p4), .val (.int p5), .val (.int p6), .val (.int n1), .val (.int fa), .val (.int fb), .val (.int fr), .val (.int fe), .val (.int ab), .val (.int rm), .val (.int sel), .val (.int fq), .val (.ref b33), .unset, .unset] [(.int fq), (.ref b33)])) _
    refine st35.trans ?_
    show Steps p.tables e below (T35.setTop (mkF m 142 #[.val (.int p1), .val (.int p2), .val (.int p3), .val (.int p4), .val (.int p5), .val (.int p6), .val (.int n1), .val (.int fa), .val (.int fb), .val (.int fr), .val (.int fe), .val (.int ab), .val (.int rm), .val (.int sel), .val (.int fq), .val (.ref b33), .unset, .unset] [(.int (0 : Int32))])) _
    refine XS.ifNo X35.here hx rfl (hb hby at_142) rfl ((if0 _ _).trans (teq (rfl : (0 : Int32) = (0 : Int32))).2) ?_
    show Steps p.tables e below (T35.setTop (mkF m 145 #[.val (.int p1), .val (.int p2), .val (.int p3), .val (.int p4), .val (.int p5), .val (.int p6), .val (.int n1), .val (.int fa), .val (.int fb), .val (.int fr), .val (.int fe), .val (.int ab), .val (.int rm), .val (.int sel), .val (.int fq), .val (.ref b33), .unset, .unset] [])) _
    refine XS.iconst X35.here hx rfl (hb hby at_145) ?_
    show Steps p.tables e below (T35.setTop (mkF m 146 #[.val (.int p1), .val (.int p2), .val (.int p3), .val (.int p4), .val (.int p5), .val (.int p6), .val (.int n1), .val (.int fa), .val (.int fb), .val (.int fr), .val (.int fe), .val (.int ab), .val (.int rm), .val (.int sel), .val (.int fq), .val (.ref b33), .unset, .unset] [(.int (1 : Int32))])) _
    refine XS.goto X35.here hx rfl (pc0 := 146) (pc' := 150) rfl (hb hby at_146) (by decide) (by decide) ?_
    show Steps p.tables e below (T35.setTop (mkF m 150 #[.val (.int p1), .val (.int p2), .val (.int p3), .val (.int p4), .val (.int p5), .val (.int p6), .val (.int n1), .val (.int fa), .val (.int fb), .val (.int fr), .val (.int fe), .val (.int ab), .val (.int rm), .val (.int sel), .val (.int fq), .val (.ref b33), .unset, .unset] [(.int (1 : Int32))])) _
    refine XS.istore X35.here hx rfl (hb hby at_150) rfl (l' := #[.val (.int p1), .val (.int p2), .val (.int p3), .val (.int p4), .val (.int p5), .val (.int p6), .val (.int n1), .val (.int fa), .val (.int fb), .val (.int fr), .val (.int fe), .val (.int ab), .val (.int rm), .val (.int sel), .val (.int fq), .val (.ref b33), .val (.int (1 : Int32)), .unset]) rfl ?_
    show Steps p.tables e below (T35.setTop (mkF m 152 #[.val (.int p1), .val (.int p2), .val (.int p3), .val (.int p4), .val (.int p5), .val (.int p6), .val (.int n1), .val (.int fa), .val (.int fb), .val (.int fr), .val (.int fe), .val (.int ab), .val (.int rm), .val (.int sel), .val (.int fq), .val (.ref b33), .val (.int (1 : Int32)), .unset] [])) _
    refine XS.aload X35.here hx rfl (hb hby at_152) rfl rfl ?_
    show Steps p.tables e below (T35.setTop (mkF m 154 #[.val (.int p1), .val (.int p2), .val (.int p3), .val (.int p4), .val (.int p5), .val (.int p6), .val (.int n1), .val (.int fa), .val (.int fb), .val (.int fr), .val (.int fe), .val (.int ab), .val (.int rm), .val (.int sel), .val (.int fq), .val (.ref b33), .val (.int (1 : Int32)), .unset] [(.ref b33)])) _
    refine XS.iload X35.here hx rfl (hb hby at_154) rfl ?_
    show Steps p.tables e below (T35.setTop (mkF m 156 #[.val (.int p1), .val (.int p2), .val (.int p3), .val (.int p4), .val (.int p5), .val (.int p6), .val (.int n1), .val (.int fa), .val (.int fb), .val (.int fr), .val (.int fe), .val (.int ab), .val (.int rm), .val (.int sel), .val (.int fq), .val (.ref b33), .val (.int (1 : Int32)), .unset] [(.int fa), (.ref b33)])) _
    refine st36.trans ?_
    exact kt
  by_cases c159_38 : ab = (0 : Int32)
  · have pre39 : ∀ tt, Steps p.tables e below (T36.setTop (mkF m 171 #[.val (.int p1), .val (.int p2), .val (.int p3), .val (.int p4), .val (.int p5), .val (.int p6), .val (.int n1), .val (.int fa), .val (.int fb), .val (.int fr), .val (.int fe), .val (.int ab), .val (.int rm), .val (.int sel), .val (.int fq), .val (.ref b33), .val (.int (1 : Int32)), .unset] [])) tt → Steps p.tables e below (s₁.setTop (entryFrame m #[(.int p1), (.int p2), (.int p3), (.int p4), (.int p5), (.int p6)] maxLocals)) tt := by
      intro tt kt
      refine pre37 tt ?_
      show Steps p.tables e below (T36.setTop (mkF m 159 #[.val (.int p1), .val (.int p2), .val (.int p3), .val (.int p4), .val (.int p5), .val (.int p6), .val (.int n1), .val (.int fa), .val (.int fb), .val (.int fr), .val (.int fe), .val (.int ab), .val (.int rm), .val (.int sel), .val (.int fq), .val (.ref b33), .val (.int (1 : Int32)), .unset] [])) _
      refine XS.iload X36.here hx rfl (hb hby at_159) rfl ?_
      show Steps p.tables e below (T36.setTop (mkF m 161 #[.val (.int p1), .val (.int p2), .val (.int p3), .val (.int p4), .val (.int p5), .val (.int p6), .val (.int n1), .val (.int fa), .val (.int fb), .val (.int fr), .val (.int fe), .val (.int ab), .val (.int rm), .val (.int sel), .val (.int fq), .val (.ref b33), .val (.int (1 : Int32)), .unset] [(.int ab)])) _
      refine XS.ifYes X36.here hx rfl (pc0 := 161) (pc' := 171) rfl (hb hby at_161) rfl ((if0 _ _).trans (teq c159_38).1) (by decide) (by decide) ?_
      exact kt
    by_cases c171_40 : rm = (0 : Int32)
    · obtain ⟨ex, hex⟩ : ∃ z : Int32, z = if ((fq = fa ∨ (¬ (ab = (0 : Int32)) ∧ fq = fb)) ∧ ¬ (¬ (rm = (0 : Int32)) ∧ fq = fr)) then (1 : Int32) else 0 := ⟨_, rfl⟩
      have pre41 : ∀ tt, Steps p.tables e below (T36.setTop (mkF m 183 #[.val (.int p1), .val (.int p2), .val (.int p3), .val (.int p4), .val (.int p5), .val (.int p6), .val (.int n1), .val (.int fa), .val (.int fb), .val (.int fr), .val (.int fe), .val (.int ab), .val (.int rm), .val (.int sel), .val (.int fq), .val (.ref b33), .val (.int (1 : Int32)), .unset] [])) tt → Steps p.tables e below (s₁.setTop (entryFrame m #[(.int p1), (.int p2), (.int p3), (.int p4), (.int p5), (.int p6)] maxLocals)) tt := by
        intro tt kt
        refine pre39 tt ?_
        show Steps p.tables e below (T36.setTop (mkF m 171 #[.val (.int p1), .val (.int p2), .val (.int p3), .val (.int p4), .val (.int p5), .val (.int p6), .val (.int n1), .val (.int fa), .val (.int fb), .val (.int fr), .val (.int fe), .val (.int ab), .val (.int rm), .val (.int sel), .val (.int fq), .val (.ref b33), .val (.int (1 : Int32)), .unset] [])) _
        refine XS.iload X36.here hx rfl (hb hby at_171) rfl ?_
        show Steps p.tables e below (T36.setTop (mkF m 173 #[.val (.int p1), .val (.int p2), .val (.int p3), .val (.int p4), .val (.int p5), .val (.int p6), .val (.int n1), .val (.int fa), .val (.int fb), .val (.int fr), .val (.int fe), .val (.int ab), .val (.int rm), .val (.int sel), .val (.int fq), .val (.ref b33), .val (.int (1 : Int32)), .unset] [(.int rm)])) _
        refine XS.ifYes X36.here hx rfl (pc0 := 173) (pc' := 183) rfl (hb hby at_173) rfl ((if0 _ _).trans (teq c171_40).1) (by decide) (by decide) ?_
        exact kt
      obtain ⟨T42, L42, N42, X42, e42, st42⟩ : ∃ (T' : State) (L' : List Loc), Fr n0 L' ∧ Stand p l e room_1 s m #[(.int p1), (.int p2), (.int p3), (.int p4), (.int p5), (.int p6)] below meth c T' L' 2 5 ∧ T'.heap = T36.heap ∧ ∀ tt, Steps p.tables e below (T'.setTop (mkF m 221 #[.val (.int p1), .val (.int p2), .val (.int p3), .val (.int p4), .val (.int p5), .val (.int p6), .val (.int n1), .val (.int fa), .val (.int fb), .val (.int fr), .val (.int fe), .val (.int ab), .val (.int rm), .val (.int sel), .val (.int fq), .val (.ref b33), .val (.int (1 : Int32)), .val (.int ex)] [])) tt → Steps p.tables e below (T36.setTop (mkF m 183 #[.val (.int p1), .val (.int p2), .val (.int p3), .val (.int p4), .val (.int p5), .val (.int p6), .val (.int n1), .val (.int fa), .val (.int fb), .val (.int fr), .val (.int fe), .val (.int ab), .val (.int rm), .val (.int sel), .val (.int fq), .val (.ref b33), .val (.int (1 : Int32)), .unset] [])) tt := by
        have pid42 : ∀ tt, Steps p.tables e below (T36.setTop (mkF m 183 #[.val (.int p1), .val (.int p2), .val (.int p3), .val (.int p4), .val (.int p5), .val (.int p6), .val (.int n1), .val (.int fa), .val (.int fb), .val (.int fr), .val (.int fe), .val (.int ab), .val (.int rm), .val (.int sel), .val (.int fq), .val (.ref b33), .val (.int (1 : Int32)), .unset] [])) tt → Steps p.tables e below (T36.setTop (mkF m 183 #[.val (.int p1), .val (.int p2), .val (.int p3), .val (.int p4), .val (.int p5), .val (.int p6), .val (.int n1), .val (.int fa), .val (.int fb), .val (.int fr), .val (.int fe), .val (.int ab), .val (.int rm), .val (.int sel), .val (.int fq), .val (.ref b33), .val (.int (1 : Int32)), .unset] [])) tt := fun tt kt => kt
        have pre43 : ∀ tt, Steps p.tables e below (T36.setTop (mkF m 187 #[.val (.int p1), .val (.int p2), .val (.int p3), .val (.int p4), .val (.int p5), .val (.int p6), .val (.int n1), .val (.int fa), .val (.int fb), .val (.int fr), .val (.int fe), .val (.int ab), .val (.int rm), .val (.int sel), .val (.int fq), .val (.ref b33), .val (.int (1 : Int32)), .unset] [(.int fa), (.int fq)])) tt → Steps p.tables e below (T36.setTop (mkF m 183 #[.val (.int p1), .val (.int p2), .val (.int p3), .val (.int p4), .val (.int p5), .val (.int p6), .val (.int n1), .val (.int fa), .val (.int fb), .val (.int fr), .val (.int fe), .val (.int ab), .val (.int rm), .val (.int sel), .val (.int fq), .val (.ref b33), .val (.int (1 : Int32)), .unset] [])) tt := by
          intro tt kt
          refine pid42 tt ?_
          show Steps p.tables e below (T36.setTop (mkF m 183 #[.val (.int p1), .val (.int p2), .val (.int p3), .val (.int p4), .val (.int p5), .val (.int p6), .val (.int n1), .val (.int fa), .val (.int fb), .val (.int fr), .val (.int fe), .val (.int ab), .val (.int rm), .val (.int sel), .val (.int fq), .val (.ref b33), .val (.int (1 : Int32)), .unset] [])) _
          refine XS.iload X36.here hx rfl (hb hby at_183) rfl ?_
          show Steps p.tables e below (T36.setTop (mkF m 185 #[.val (.int p1), .val (.int p2), .val (.int p3), .val (.int p4), .val (.int p5), .val (.int p6), .val (.int n1), .val (.int fa), .val (.int fb), .val (.int fr), .val (.int fe), .val (.int ab), .val (.int rm), .val (.int sel), .val (.int fq), .val (.ref b33), .val (.int (1 : Int32)), .unset] [(.int fq)])) _
          refine XS.iload X36.here hx rfl (hb hby at_185) rfl ?_
          exact kt
        by_cases c187_44 : fq = fa
        · have pre45 : ∀ tt, Steps p.tables e below (T36.setTop (mkF m 221 #[.val (.int p1), .val (.int p2), .val (.int p3), .val (.int p4), .val (.int p5), .val (.int p6), .val (.int n1), .val (.int fa), .val (.int fb), .val (.int fr), .val (.int fe), .val (.int ab), .val (.int rm), .val (.int sel), .val (.int fq), .val (.ref b33), .val (.int (1 : Int32)), .val (.int (1 : Int32))] [])) tt → Steps p.tables e below (T36.setTop (mkF m 183 #[.val (.int p1), .val (.int p2), .val (.int p3), .val (.int p4), .val (.int p5), .val (.int p6), .val (.int n1), .val (.int fa), .val (.int fb), .val (.int fr), .val (.int fe), .val (.int ab), .val (.int rm), .val (.int sel), .val (.int fq), .val (.ref b33), .val (.int (1 : Int32)), .unset] [])) tt := by
            intro tt kt
            refine pre43 tt ?_
            show Steps p.tables e below (T36.setTop (mkF m 187 #[.val (.int p1), .val (.int p2), .val (.int p3), .val (.int p4), .val (.int p5), .val (.int p6), .val (.int n1), .val (.int fa), .val (.int fb), .val (.int fr), .val (.int fe), .val (.int ab), .val (.int rm), .val (.int sel), .val (.int fq), .val (.ref b33), .val (.int (1 : Int32)), .unset] [(.int fa), (.int fq)])) _
            refine XS.icmpYes X36.here hx rfl (pc0 := 187) (pc' := 202) rfl (hb hby at_187) rfl (teq c187_44).1 (by decide) (by decide) ?_
            show Steps p.tables e below (T36.setTop (mkF m 202 #[.val (.int p1), .val (.int p2), .val (.int p3), .val (.int p4), .val (.int p5), .val (.int p6), .val (.int n1), .val (.int fa), .val (.int fb), .val (.int fr), .val (.int fe), .val (.int ab), .val (.int rm), .val (.int sel), .val (.int fq), .val (.ref b33), .val (.int (1 : Int32)), .unset] [])) _
            refine XS.iload X36.here hx rfl (hb hby at_202) rfl ?_
            show Steps p.tables e below (T36.setTop (mkF m 204 #[.val (.int p1), .val (.int p2), .val (.int p3), .val (.int p4), .val (.int p5), .val (.int p6), .val (.int n1), .val (.int fa), .val (.int fb), .val (.int fr), .val (.int fe), .val (.int ab), .val (.int rm), .val (.int sel), .val (.int fq), .val (.ref b33), .val (.int (1 : Int32)), .unset] [(.int rm)])) _
            refine XS.ifYes X36.here hx rfl (pc0 := 204) (pc' := 214) rfl (hb hby at_204) rfl ((if0 _ _).trans (teq c171_40).1) (by decide) (by decide) ?_
            show Steps p.tables e below (T36.setTop (mkF m 214 #[.val (.int p1), .val (.int p2), .val (.int p3), .val (.int p4), .val (.int p5), .val (.int p6), .val (.int n1), .val (.int fa), .val (.int fb), .val (.int fr), .val (.int fe), .val (.int ab), .val (.int rm), .val (.int sel), .val (.int fq), .val (.ref b33), .val (.int (1 : Int32)), .unset] [])) _
            refine XS.iconst X36.here hx rfl (hb hby at_214) ?_
            show Steps p.tables e below (T36.setTop (mkF m 215 #[.val (.int p1), .val (.int p2), .val (.int p3), .val (.int p4), .val (.int p5), .val (.int p6), .val (.int n1), .val (.int fa), .val (.int fb), .val (.int fr), .val (.int fe), .val (.int ab), .val (.int rm), .val (.int sel), .val (.int fq), .val (.ref b33), .val (.int (1 : Int32)), .unset] [(.int (1 : Int32))])) _
            refine XS.goto X36.here hx rfl (pc0 := 215) (pc' := 219) rfl (hb hby at_215) (by decide) (by decide) ?_
            show Steps p.tables e below (T36.setTop (mkF m 219 #[.val (.int p1), .val (.int p2), .val (.int p3), .val (.int p4), .val (.int p5), .val (.int p6), .val (.int n1), .val (.int fa), .val (.int fb), .val (.int fr), .val (.int fe), .val (.int ab), .val (.int rm), .val (.int sel), .val (.int fq), .val (.ref b33), .val (.int (1 : Int32)), .unset] [(.int (1 : Int32))])) _
            refine XS.istore X36.here hx rfl (hb hby at_219) rfl (l' := #[.val (.int p1), .val (.int p2), .val (.int p3), .val (.int p4), .val (.int p5), .val (.int p6), .val (.int n1), .val (.int fa), .val (.int fb), .val (.int fr), .val (.int fe), .val (.int ab), .val (.int rm), .val (.int sel), .val (.int fq), .val (.ref b33), .val (.int (1 : Int32)), .val (.int (1 : Int32))]) rfl ?_
            exact kt
          refine ⟨T36, _, N36, X36, rfl, fun tt kt => pre45 tt ?_⟩
          rw [show ex = (1 : Int32) from hex.trans (if_pos ⟨Or.inl c187_44, fun q => q.1 c171_40⟩)] at kt
          exact kt
        · have pre46 : ∀ tt, Steps p.tables e below (T36.setTop (mkF m 221 #[.val (.int p1), .val (.int p2), .val (.int p3), .val (.int p4), .val (.int p5), .val (.int p6), .val (.int n1), .val (.int fa), .val (.int fb), .val (.int fr), .val (.int fe), .val (.int ab), .val (.int rm), .val (.int sel), .val (.int fq), .val (.ref b33), .val (.int (1 : Int32)), .val (.int (0 : Int32))] [])) tt → Steps p.tables e below (T36.setTop (mkF m 183 #[.val (.int p1), .val (.int p2), .val (.int p3), .val (.int p4), .val (.int p5), .val (.int p6), .val (.int n1), .val (.int fa), .val (.int fb), .val (.int fr), .val (.int fe), .val (.int ab), .val (.int rm), .val (.int sel), .val (.int fq), .val (.ref b33), .val (.int (1 : Int32)), .unset] [])) tt := by
            intro tt kt
            refine pre43 tt ?_
            show Steps p.tables e below (T36.setTop (mkF m 187 #[.val (.int p1), .val (.int p2), .val (.int p3), .val (.int p4), .val (.int p5), .val (.int p6), .val (.int n1), .val (.int fa), .val (.int fb), .val (.int fr), .val (.int fe), .val (.int ab), .val (.int rm), .val (.int sel), .val (.int fq), .val (.ref b33), .val (.int (1 : Int32)), .unset] [(.int fa), (.int fq)])) _
            refine XS.icmpNo X36.here hx rfl (hb hby at_187) rfl (feq c187_44).1 ?_
            show Steps p.tables e below (T36.setTop (mkF m 190 #[.val (.int p1), .val (.int p2), .val (.int p3), .val (.int p4), .val (.int p5), .val (.int p6), .val (.int n1), .val (.int fa), .val (.int fb), .val (.int fr), .val (.int fe), .val (.int ab), .val (.int rm), .val (.int sel), .val (.int fq), .val (.ref b33), .val (.int (1 : Int32)), .unset] [])) _
            refine XS.iload X36.here hx rfl (hb hby at_190) rfl ?_
            show Steps p.tables e below (T36.setTop (mkF m 192 #[.val (.int p1), .val (.int p2), .val (.int p3), .val (.int p4), .val (.int p5), .val (.int p6), .val (.int n1), .val (.int fa), .val (.int fb), .val (.int fr), .val (.int fe), .val (.int ab), .val (.int rm), .val (.int sel), .val (.int fq), .val (.ref b33), .val (.int (1 : Int32)), .unset] [(.int ab)])) _
            refine XS.ifYes X36.here hx rfl (pc0 := 192) (pc' := 218) rfl (hb hby at_192) rfl ((if0 _ _).trans (teq c159_38).1) (by decide) (by decide) ?_
            show Steps p.tables e below (T36.setTop (mkF m 218 #[.val (.int p1), .val (.int p2), .val (.int p3), .val (.int p4), .val (.int p5), .val (.int p6), .val (.int n1), .val (.int fa), .val (.int fb), .val (.int fr), .val (.int fe), .val (.int ab), .val (.int rm), .val (.int sel), .val (.int fq), .val (.ref b33), .val (.int (1 : Int32)), .unset] [])) _
            refine XS.iconst X36.here hx rfl (hb hby at_218) ?_
            show Steps p.tables e below (T36.setTop (mkF m 219 #[.val (.int p1), .val (.int p2), .val (.int p3), .val (.int p4), .val (.int p5), .val (.int p6), .val (.int n1), .val (.int fa), .val (.int fb), .val (.int fr), .val (.int fe), .val (.int ab), .val (.int rm), .val (.int sel), .val (.int fq), .val (.ref b33), .val (.int (1 : Int32)), .unset] [(.int (0 : Int32))])) _
            refine XS.istore X36.here hx rfl (hb hby at_219) rfl (l' := #[.val (.int p1), .val (.int p2), .val (.int p3), .val (.int p4), .val (.int p5), .val (.int p6), .val (.int n1), .val (.int fa), .val (.int fb), .val (.int fr), .val (.int fe), .val (.int ab), .val (.int rm), .val (.int sel), .val (.int fq), .val (.ref b33), .val (.int (1 : Int32)), .val (.int (0 : Int32))]) rfl ?_
            exact kt
          refine ⟨T36, _, N36, X36, rfl, fun tt kt => pre46 tt ?_⟩
          rw [show ex = (0 : Int32) from hex.trans (if_neg (fun q => q.1.elim c187_44 (fun r => r.1 c159_38)))] at kt
          exact kt
      have pre47 : ∀ tt, Steps p.tables e below (T42.setTop (mkF m 221 #[.val (.int p1), .val (.int p2), .val (.int p3), .val (.int p4), .val (.int p5), .val (.int p6), .val (.int n1), .val (.int fa), .val (.int fb), .val (.int fr), .val (.int fe), .val (.int ab), .val (.int rm), .val (.int sel), .val (.int fq), .val (.ref b33), .val (.int (1 : Int32)), .val (.int ex)] [])) tt → Steps p.tables e below (s₁.setTop (entryFrame m #[(.int p1), (.int p2), (.int p3), (.int p4), (.int p5), (.int p6)] maxLocals)) tt := by
        intro tt kt
        refine pre41 tt ?_
        show Steps p.tables e below (T36.setTop (mkF m 183 #[.val (.int p1), .val (.int p2), .val (.int p3), .val (.int p4), .val (.int p5), .val (.int p6), .val (.int n1), .val (.int fa), .val (.int fb), .val (.int fr), .val (.int fe), .val (.int ab), .val (.int rm), .val (.int sel), .val (.int fq), .val (.ref b33), .val (.int (1 : Int32)), .unset] [])) _
        refine st42 _ ?_
        exact kt
      have hM : own_M u0_36 u1_36 u2_36 u3_36 fq ↔ ((fq = fa ∨ (¬ (ab = (0 : Int32)) ∧ fq = fb)) ∧ ¬ (¬ (rm = (0 : Int32)) ∧ fq = fr)) := by
        rw [own_Madd hn r_fa r_fq hu0_36 hu1_36 hu2_36 hu3_36]
        have key : ∀ M A B C : Prop, ¬ M → ((A ∨ M) ↔ A) := by
          intro M A B C m
          by_cases hA : A <;> by_cases hB : B <;> by_cases hC : C <;> simp [hA, hB, hC, m]
        have e2 : (((fq = fa ∨ (¬ (ab = (0 : Int32)) ∧ fq = fb)) ∧ ¬ (¬ (rm = (0 : Int32)) ∧ fq = fr))) ↔ (fq = fa) := by simp [c159_38, c171_40]
        exact (key _ (fq = fa) (fq = fb) (fq = fr) (own_M0 fq)).trans e2.symm
      obtain ⟨cq48, kq48, q48a, q48b, q48c⟩ := isOf hZ e42 Ea36
      obtain ⟨_, _, ⟨T48, L48, k48, n48⟩, -, X48, ⟨Lc48, hQ48, l48, y48, z48⟩, st48⟩ := X42.virtualBack hx (y := (⟨"com/example/phase7/phase7/metadata/FieldSet", "contains", "(I)Z"⟩ : MethodName)) (z := (⟨"com/example/phase7/phase7/metadata/FieldSet", "contains", "(I)Z"⟩ : MethodName)) hown (mvT hZ (hw _ (List.mem_of_getElem? (i := 14) rfl))) (mvT hZ (hw _ (List.mem_of_getElem? (i := 15) rfl))) (notFace_of_selects (args := #[]) (mvT hZ (hw _ (List.mem_of_getElem? (i := 17) rfl)))) (mvT hZ (hw _ (List.mem_of_getElem? (i := 17) rfl))) (mvT hZ (hw _ (List.mem_of_getElem? (i := 16) rfl))) (by decide) (backOf (W := 0) (rmH l Z a0 hw [] b33 b34 kb34 fq (fq / (64 : Int32)) z34 ex u0_36 u1_36 u2_36 u3_36 T36.heap n0 (Nat.le_trans (Nat.le_trans (Nat.le_trans Z0 E33.1) K34.1) K36.1) Ea36 Ff36 Fg36 Vb36 hne34 (own_fr hn r_fq).1 rfl (own_fr hn r_fq).2.1 z_fq (own_hasM hM hex)) hZ (hw _ (List.mem_of_getElem? (i := 18) rfl)) (hw _ (List.mem_of_getElem? (i := 3) rfl)) (by decide) (by decide)) q48a q48c (g := (mkF m 230 #[.val (.int p1), .val (.int p2), .val (.int p3), .val (.int p4), .val (.int p5), .val (.int p6), .val (.int n1), .val (.int fa), .val (.int fb), .val (.int fr), .val (.int fe), .val (.int ab), .val (.int rm), .val (.int sel), .val (.int fq), .val (.ref b33), .val (.int (1 : Int32)), .val (.int ex)] [(.int fq), (.ref b33)])) rfl (by rw [hml]; rfl) (Steps.refl _) (argsL := [(.int fq)]) (rest := []) (lenOf pd_rm0_1 rfl) rfl (by show 2 * 0 + _ ≤ _; exact Nat.le_of_eq rfl) (hb hby at_230) (fun _ _ => ⟨rfl, e42, (by decide : 2 + 0 ≤ _), (by decide : 5 + 0 ≤ _)⟩)
      dsimp only [Pt.U, Pt.locs, Pt.cells, Pt.slots] at X48 l48 y48 z48 st48 hQ48
      subst l48 y48 z48
      obtain ⟨rfl, N48q, hE48⟩ := hQ48
      have N48 := Fr.app N42 N48q
      have pre49 : ∀ tt, Steps p.tables e below (T48.setTop (mkF m 243 #[.val (.int p1), .val (.int p2), .val (.int p3), .val (.int p4), .val (.int p5), .val (.int p6), .val (.int n1), .val (.int fa), .val (.int fb), .val (.int fr), .val (.int fe), .val (.int ab), .val (.int rm), .val (.int sel), .val (.int fq), .val (.ref b33), .val (.int (1 : Int32)), .val (.int ex)] [(.int (1 : Int32))])) tt → Steps p.tables e below (s₁.setTop (entryFrame m #[(.int p1), (.int p2), (.int p3), (.int p4), (.int p5), (.int p6)] maxLocals)) tt := by
        intro tt kt
        refine pre47 tt ?_
        show Steps p.tables e below (T42.setTop (mkF m 221 #[.val (.int p1), .val (.int p2), .val (.int p3), .val (.int p4), .val (.int p5), .val (.int p6), .val (.int n1), .val (.int fa), .val (.int fb), .val (.int fr), .val (.int fe), .val (.int ab), .val (.int rm), .val (.int sel), .val (.int fq), .val (.ref b33), .val (.int (1 : Int32)), .val (.int ex)] [])) _
        refine XS.iload X42.here hx rfl (hb hby at_221) rfl ?_
        show Steps p.tables e below (T42.setTop (mkF m 223 #[.val (.int p1), .val (.int p2), .val (.int p3), .val (.int p4), .val (.int p5), .val (.int p6), .val (.int n1), .val (.int fa), .val (.int fb), .val (.int fr), .val (.int fe), .val (.int ab), .val (.int rm), .val (.int sel), .val (.int fq), .val (.ref b33), .val (.int (1 : Int32)), .val (.int ex)] [(.int (1 : Int32))])) _
        refine XS.ifNo X42.here hx rfl (hb hby at_223) rfl ((if0 _ _).trans (feq (by decide : ¬ ((1 : Int32) = (0 : Int32)))).1) ?_
        show Steps p.tables e below (T42.setTop (mkF m 226 #[.val (.int p1), .val (.int p2), .val (.int p3), .val (.int p4), .val (.int p5), .val (.int p6), .val (.int n1), .val (.int fa), .val (.int fb), .val (.int fr), .val (.int fe), .val (.int ab), .val (.int rm), .val (.int sel), .val (.int fq), .val (.ref b33), .val (.int (1 : Int32)), .val (.int ex)] [])) _
        refine XS.aload X42.here hx rfl (hb hby at_226) rfl rfl ?_
        show Steps p.tables e below (T42.setTop (mkF m 228 #[.val (.int p1), .val (.int p2), .val (.int p3), .val (.int p4), .val (.int p5), .val (.int p6), .val (.int n1), .val (.int fa), .val (.int fb), .val (.int fr), .val (.int fe), .val (.int ab), .val (.int rm), .val (.int sel), .val (.int fq), .val (.ref b33), .val (.int (1 : Int32)), .val (.int ex)] [(.ref b33)])) _
        refine XS.iload X42.here hx rfl (hb hby at_228) rfl ?_
        show Steps p.tables e below (T42.setTop (mkF m 230 #[.val (.int p1), .val (.int p2), .val (.int p3), .val (.int p4), .val (.int p5), .val (.int p6), .val (.int n1), .val (.int fa), .val (.int fb), .val (.int fr), .val (.int fe), .val (.int ab), .val (.int rm), .val (.int sel), .val (.int fq), .val (.ref b33), .val (.int (1 : Int32)), .val (.int ex)] [(.int fq), (.ref b33)])) _
        refine st48.trans ?_
        show Steps p.tables e below (T48.setTop (mkF m 233 #[.val (.int p1), .val (.int p2), .val (.int p3), .val (.int p4), .val (.int p5), .val (.int p6), .val (.int n1), .val (.int fa), .val (.int fb), .val (.int fr), .val (.int fe), .val (.int ab), .val (.int rm), .val (.int sel), .val (.int fq), .val (.ref b33), .val (.int (1 : Int32)), .val (.int ex)] [(.int ex)])) _
        refine XS.iload X48.here hx rfl (hb hby at_233) rfl ?_
        show Steps p.tables e below (T48.setTop (mkF m 235 #[.val (.int p1), .val (.int p2), .val (.int p3), .val (.int p4), .val (.int p5), .val (.int p6), .val (.int n1), .val (.int fa), .val (.int fb), .val (.int fr), .val (.int fe), .val (.int ab), .val (.int rm), .val (.int sel), .val (.int fq), .val (.ref b33), .val (.int (1 : Int32)), .val (.int ex)] [(.int ex), (.int ex)])) _
        refine XS.icmpNo X48.here hx rfl (hb hby at_235) rfl (teq (rfl : ex = ex)).2 ?_
        show Steps p.tables e below (T48.setTop (mkF m 238 #[.val (.int p1), .val (.int p2), .val (.int p3), .val (.int p4), .val (.int p5), .val (.int p6), .val (.int n1), .val (.int fa), .val (.int fb), .val (.int fr), .val (.int fe), .val (.int ab), .val (.int rm), .val (.int sel), .val (.int fq), .val (.ref b33), .val (.int (1 : Int32)), .val (.int ex)] [])) _
        refine XS.iconst X48.here hx rfl (hb hby at_238) ?_
        show Steps p.tables e below (T48.setTop (mkF m 239 #[.val (.int p1), .val (.int p2), .val (.int p3), .val (.int p4), .val (.int p5), .val (.int p6), .val (.int n1), .val (.int fa), .val (.int fb), .val (.int fr), .val (.int fe), .val (.int ab), .val (.int rm), .val (.int sel), .val (.int fq), .val (.ref b33), .val (.int (1 : Int32)), .val (.int ex)] [(.int (1 : Int32))])) _
        refine XS.goto X48.here hx rfl (pc0 := 239) (pc' := 243) rfl (hb hby at_239) (by decide) (by decide) ?_
        exact kt
      obtain ⟨fs, hr, hrun, hended, hW, hsame⟩ := X48.leave (v := some (.int (1 : Int32))) (fun h => by rw [Bd.returns] at h; cases h)
      refine ⟨_, _, pre49 _ ?_, hrun, hended, _, _, rfl, ?_, ⟨_, rfl⟩, hW, hsame.mono (by decide) (by decide)⟩
      · show Steps p.tables e below (T48.setTop (mkF m 243 #[.val (.int p1), .val (.int p2), .val (.int p3), .val (.int p4), .val (.int p5), .val (.int p6), .val (.int n1), .val (.int fa), .val (.int fb), .val (.int fr), .val (.int fe), .val (.int ab), .val (.int rm), .val (.int sel), .val (.int fq), .val (.ref b33), .val (.int (1 : Int32)), .val (.int ex)] [(.int (1 : Int32))])) _
        exact retN X48 hx (t := .boolean) Bd.returns (by simp) (hb hby at_243) hr
      · show Q0 Z h0 n0 _ T48.heap _
        rw [hE48]
        exact ⟨rfl, N48⟩
    · have z_fr : (fr / (64 : Int32)).toInt ≤ z34.toInt := by
        have q1 := (own_fr hn r_fr).2.2
        have q2 := hz34
        have q3 := r_fr
        omega
      obtain ⟨u0_50, hu0_50⟩ : ∃ z : Int64, z = if fr / (64 : Int32) = 0 then (u0_36 &&& (((1 : Int64) <<< (fr &&& 0x3f).toInt64) ^^^ (-1 : Int64))) else u0_36 := ⟨_, rfl⟩
      obtain ⟨u1_50, hu1_50⟩ : ∃ z : Int64, z = if fr / (64 : Int32) = 1 then (u1_36 &&& (((1 : Int64) <<< (fr &&& 0x3f).toInt64) ^^^ (-1 : Int64))) else u1_36 := ⟨_, rfl⟩
      obtain ⟨u2_50, hu2_50⟩ : ∃ z : Int64, z = if fr / (64 : Int32) = 2 then (u2_36 &&& (((1 : Int64) <<< (fr &&& 0x3f).toInt64) ^^^ (-1 : Int64))) else u2_36 := ⟨_, rfl⟩
      obtain ⟨u3_50, hu3_50⟩ : ∃ z : Int64, z = if fr / (64 : Int32) = 3 then (u3_36 &&& (((1 : Int64) <<< (fr &&& 0x3f).toInt64) ^^^ (-1 : Int64))) else u3_36 := ⟨_, rfl⟩
      obtain ⟨cq50, kq50, q50a, q50b, q50c⟩ := isOf hZ rfl Ea36
      obtain ⟨_, _, ⟨T50, L50, k50, n50⟩, -, X50, ⟨Lc50, hQ50, l50, y50, z50⟩, st50⟩ := X36.virtualBack hx (y := (⟨"com/example/phase7/phase7/metadata/FieldSet", "remove", "(I)V"⟩ : MethodName)) (z := (⟨"com/example/phase7/phase7/metadata/FieldSet", "remove", "(I)V"⟩ : MethodName)) hown (mvT hZ (hw _ (List.mem_of_getElem? (i := 26) rfl))) (mvT hZ (hw _ (List.mem_of_getElem? (i := 27) rfl))) (notFace_of_selects (args := #[]) (mvT hZ (hw _ (List.mem_of_getElem? (i := 29) rfl)))) (mvT hZ (hw _ (List.mem_of_getElem? (i := 29) rfl))) (mvT hZ (hw _ (List.mem_of_getElem? (i := 28) rfl))) (by decide) (backOf (W := 0) (rmR l Z a0 hw [] b33 b34 kb34 fr (fr / (64 : Int32)) z34 u0_36 u1_36 u2_36 u3_36 u0_50 u1_50 u2_50 u3_50 T36.heap n0 (Nat.le_trans (Nat.le_trans (Nat.le_trans Z0 E33.1) K34.1) K36.1) Ea36 Ff36 Fg36 Vb36 hne34 (own_fr hn r_fr).1 rfl (own_fr hn r_fr).2.1 z_fr g_b33 gz34 hu0_50 hu1_50 hu2_50 hu3_50) hZ (hw _ (List.mem_of_getElem? (i := 30) rfl)) (hw _ (List.mem_of_getElem? (i := 3) rfl)) (by decide) (by decide)) q50a q50c (g := (mkF m 180 #[.val (.int p1), .val (.int p2), .val (.int p3), .val (.int p4), .val (.int p5), .val (.int p6), .val (.int n1), .val (.int fa), .val (.int fb), .val (.int fr), .val (.int fe), .val (.int ab), .val (.int rm), .val (.int sel), .val (.int fq), .val (.ref b33), .val (.int (1 : Int32)), .unset] [(.int fr), (.ref b33)])) rfl (by rw [hml]; rfl) (Steps.refl _) (argsL := [(.int fr)]) (rest := []) (lenOf pd_rm0_0 rfl) rfl (by show 2 * 0 + _ ≤ _; exact Nat.le_of_eq rfl) (hb hby at_180) (fun _ _ => ⟨rfl, rfl, (by decide : 2 + 0 ≤ _), (by decide : 5 + 0 ≤ _)⟩)
      dsimp only [Pt.U, Pt.locs, Pt.cells, Pt.slots] at X50 l50 y50 z50 st50 hQ50
      subst l50 y50 z50
      obtain ⟨rfl, N50q, K50, Ea50, Ff50, Fg50, Vb50⟩ := hQ50
      have N50 := Fr.app N36 N50q
      obtain ⟨ex, hex⟩ : ∃ z : Int32, z = if ((fq = fa ∨ (¬ (ab = (0 : Int32)) ∧ fq = fb)) ∧ ¬ (¬ (rm = (0 : Int32)) ∧ fq = fr)) then (1 : Int32) else 0 := ⟨_, rfl⟩
      have pre51 : ∀ tt, Steps p.tables e below (T50.setTop (mkF m 183 #[.val (.int p1), .val (.int p2), .val (.int p3), .val (.int p4), .val (.int p5), .val (.int p6), .val (.int n1), .val (.int fa), .val (.int fb), .val (.int fr), .val (.int fe), .val (.int ab), .val (.int rm), .val (.int sel), .val (.int fq), .val (.ref b33), .val (.int (1 : Int32)), .unset] [])) tt → Steps p.tables e below (s₁.setTop (entryFrame m #[(.int p1), (.int p2), (.int p3), (.int p4), (.int p5), (.int p6)] maxLocals)) tt := by
        intro tt kt
        refine pre39 tt ?_
        show Steps p.tables e below (T36.setTop (mkF m 171 #[.val (.int p1), .val (.int p2), .val (.int p3), .val (.int p4), .val (.int p5), .val (.int p6), .val (.int n1), .val (.int fa), .val (.int fb), .val (.int fr), .val (.int fe), .val (.int ab), .val (.int rm), .val (.int sel), .val (.int fq), .val (.ref b33), .val (.int (1 : Int32)), .unset] [])) _
        refine XS.iload X36.here hx rfl (hb hby at_171) rfl ?_
        show Steps p.tables e below (T36.setTop (mkF m 173 #[.val (.int p1), .val (.int p2), .val (.int p3), .val (.int p4), .val (.int p5), .val (.int p6), .val (.int n1), .val (.int fa), .val (.int fb), .val (.int fr), .val (.int fe), .val (.int ab), .val (.int rm), .val (.int sel), .val (.int fq), .val (.ref b33), .val (.int (1 : Int32)), .unset] [(.int rm)])) _
        refine XS.ifNo X36.here hx rfl (hb hby at_173) rfl ((if0 _ _).trans (feq c171_40).1) ?_
        show Steps p.tables e below (T36.setTop (mkF m 176 #[.val (.int p1), .val (.int p2), .val (.int p3), .val (.int p4), .val (.int p5), .val (.int p6), .val (.int n1), .val (.int fa), .val (.int fb), .val (.int fr), .val (.int fe), .val (.int ab), .val (.int rm), .val (.int sel), .val (.int fq), .val (.ref b33), .val (.int (1 : Int32)), .unset] [])) _
        refine XS.aload X36.here hx rfl (hb hby at_176) rfl rfl ?_
        show Steps p.tables e below (T36.setTop (mkF m 178 #[.val (.int p1), .val (.int p2), .val (.int p3), .val (.int p4), .val (.int p5), .val (.int p6), .val (.int n1), .val (.int fa), .val (.int fb), .val (.int fr), .val (.int fe), .val (.int ab), .val (.int rm), .val (.int sel), .val (.int fq), .val (.ref b33), .val (.int (1 : Int32)), .unset] [(.ref b33)])) _
        refine XS.iload X36.here hx rfl (hb hby at_178) rfl ?_
        show Steps p.tables e below (T36.setTop (mkF m 180 #[.val (.int p1), .val (.int p2), .val (.int p3), .val (.int p4), .val (.int p5), .val (.int p6), .val (.int n1), .val (.int fa), .val (.int fb), .val (.int fr), .val (.int fe), .val (.int ab), .val (.int rm), .val (.int sel), .val (.int fq), .val (.ref b33), .val (.int (1 : Int32)), .unset] [(.int fr), (.ref b33)])) _
        refine st50.trans ?_
        exact kt
      obtain ⟨T52, L52, N52, X52, e52, st52⟩ : ∃ (T' : State) (L' : List Loc), Fr n0 L' ∧ Stand p l e room_1 s m #[(.int p1), (.int p2), (.int p3), (.int p4), (.int p5), (.int p6)] below meth c T' L' 2 5 ∧ T'.heap = T50.heap ∧ ∀ tt, Steps p.tables e below (T'.setTop (mkF m 221 #[.val (.int p1), .val (.int p2), .val (.int p3), .val (.int p4), .val (.int p5), .val (.int p6), .val (.int n1), .val (.int fa), .val (.int fb), .val (.int fr), .val (.int fe), .val (.int ab), .val (.int rm), .val (.int sel), .val (.int fq), .val (.ref b33), .val (.int (1 : Int32)), .val (.int ex)] [])) tt → Steps p.tables e below (T50.setTop (mkF m 183 #[.val (.int p1), .val (.int p2), .val (.int p3), .val (.int p4), .val (.int p5), .val (.int p6), .val (.int n1), .val (.int fa), .val (.int fb), .val (.int fr), .val (.int fe), .val (.int ab), .val (.int rm), .val (.int sel), .val (.int fq), .val (.ref b33), .val (.int (1 : Int32)), .unset] [])) tt := by
        have pid52 : ∀ tt, Steps p.tables e below (T50.setTop (mkF m 183 #[.val (.int p1), .val (.int p2), .val (.int p3), .val (.int p4), .val (.int p5), .val (.int p6), .val (.int n1), .val (.int fa), .val (.int fb), .val (.int fr), .val (.int fe), .val (.int ab), .val (.int rm), .val (.int sel), .val (.int fq), .val (.ref b33), .val (.int (1 : Int32)), .unset] [])) tt → Steps p.tables e below (T50.setTop (mkF m 183 #[.val (.int p1), .val (.int p2), .val (.int p3), .val (.int p4), .val (.int p5), .val (.int p6), .val (.int n1), .val (.int fa), .val (.int fb), .val (.int fr), .val (.int fe), .val (.int ab), .val (.int rm), .val (.int sel), .val (.int fq), .val (.ref b33), .val (.int (1 : Int32)), .unset] [])) tt := fun tt kt => kt
        have pre53 : ∀ tt, Steps p.tables e below (T50.setTop (mkF m 187 #[.val (.int p1), .val (.int p2), .val (.int p3), .val (.int p4), .val (.int p5), .val (.int p6), .val (.int n1), .val (.int fa), .val (.int fb), .val (.int fr), .val (.int fe), .val (.int ab), .val (.int rm), .val (.int sel), .val (.int fq), .val (.ref b33), .val (.int (1 : Int32)), .unset] [(.int fa), (.int fq)])) tt → Steps p.tables e below (T50.setTop (mkF m 183 #[.val (.int p1), .val (.int p2), .val (.int p3), .val (.int p4), .val (.int p5), .val (.int p6), .val (.int n1), .val (.int fa), .val (.int fb), .val (.int fr), .val (.int fe), .val (.int ab), .val (.int rm), .val (.int sel), .val (.int fq), .val (.ref b33), .val (.int (1 : Int32)), .unset] [])) tt := by
          intro tt kt
          refine pid52 tt ?_
          show Steps p.tables e below (T50.setTop (mkF m 183 #[.val (.int p1), .val (.int p2), .val (.int p3), .val (.int p4), .val (.int p5), .val (.int p6), .val (.int n1), .val (.int fa), .val (.int fb), .val (.int fr), .val (.int fe), .val (.int ab), .val (.int rm), .val (.int sel), .val (.int fq), .val (.ref b33), .val (.int (1 : Int32)), .unset] [])) _
          refine XS.iload X50.here hx rfl (hb hby at_183) rfl ?_
          show Steps p.tables e below (T50.setTop (mkF m 185 #[.val (.int p1), .val (.int p2), .val (.int p3), .val (.int p4), .val (.int p5), .val (.int p6), .val (.int n1), .val (.int fa), .val (.int fb), .val (.int fr), .val (.int fe), .val (.int ab), .val (.int rm), .val (.int sel), .val (.int fq), .val (.ref b33), .val (.int (1 : Int32)), .unset] [(.int fq)])) _
          refine XS.iload X50.here hx rfl (hb hby at_185) rfl ?_
          exact kt
        by_cases c187_54 : fq = fa
        · have pre55 : ∀ tt, Steps p.tables e below (T50.setTop (mkF m 211 #[.val (.int p1), .val (.int p2), .val (.int p3), .val (.int p4), .val (.int p5), .val (.int p6), .val (.int n1), .val (.int fa), .val (.int fb), .val (.int fr), .val (.int fe), .val (.int ab), .val (.int rm), .val (.int sel), .val (.int fq), .val (.ref b33), .val (.int (1 : Int32)), .unset] [(.int fr), (.int fq)])) tt → Steps p.tables e below (T50.setTop (mkF m 183 #[.val (.int p1), .val (.int p2), .val (.int p3), .val (.int p4), .val (.int p5), .val (.int p6), .val (.int n1), .val (.int fa), .val (.int fb), .val (.int fr), .val (.int fe), .val (.int ab), .val (.int rm), .val (.int sel), .val (.int fq), .val (.ref b33), .val (.int (1 : Int32)), .unset] [])) tt := by
            intro tt kt
            refine pre53 tt ?_
            show Steps p.tables e below (T50.setTop (mkF m 187 #[.val (.int p1), .val (.int p2), .val (.int p3), .val (.int p4), .val (.int p5), .val (.int p6), .val (.int n1), .val (.int fa), .val (.int fb), .val (.int fr), .val (.int fe), .val (.int ab), .val (.int rm), .val (.int sel), .val (.int fq), .val (.ref b33), .val (.int (1 : Int32)), .unset] [(.int fa), (.int fq)])) _
            refine XS.icmpYes X50.here hx rfl (pc0 := 187) (pc' := 202) rfl (hb hby at_187) rfl (teq c187_54).1 (by decide) (by decide) ?_
            show Steps p.tables e below (T50.setTop (mkF m 202 #[.val (.int p1), .val (.int p2), .val (.int p3), .val (.int p4), .val (.int p5), .val (.int p6), .val (.int n1), .val (.int fa), .val (.int fb), .val (.int fr), .val (.int fe), .val (.int ab), .val (.int rm), .val (.int sel), .val (.int fq), .val (.ref b33), .val (.int (1 : Int32)), .unset] [])) _
            refine XS.iload X50.here hx rfl (hb hby at_202) rfl ?_
            show Steps p.tables e below (T50.setTop (mkF m 204 #[.val (.int p1), .val (.int p2), .val (.int p3), .val (.int p4), .val (.int p5), .val (.int p6), .val (.int n1), .val (.int fa), .val (.int fb), .val (.int fr), .val (.int fe), .val (.int ab), .val (.int rm), .val (.int sel), .val (.int fq), .val (.ref b33), .val (.int (1 : Int32)), .unset] [(.int rm)])) _
            refine XS.ifNo X50.here hx rfl (hb hby at_204) rfl ((if0 _ _).trans (feq c171_40).1) ?_
            show Steps p.tables e below (T50.setTop (mkF m 207 #[.val (.int p1), .val (.int p2), .val (.int p3), .val (.int p4), .val (.int p5), .val (.int p6), .val (.int n1), .val (.int fa), .val (.int fb), .val (.int fr), .val (.int fe), .val (.int ab), .val (.int rm), .val (.int sel), .val (.int fq), .val (.ref b33), .val (.int (1 : Int32)), .unset] [])) _
            refine XS.iload X50.here hx rfl (hb hby at_207) rfl ?_
            show Steps p.tables e below (T50.setTop (mkF m 209 #[.val (.int p1), .val (.int p2), .val (.int p3), .val (.int p4), .val (.int p5), .val (.int p6), .val (.int n1), .val (.int fa), .val (.int fb), .val (.int fr), .val (.int fe), .val (.int ab), .val (.int rm), .val (.int sel), .val (.int fq), .val (.ref b33), .val (.int (1 : Int32)), .unset] [(.int fq)])) _
            refine XS.iload X50.here hx rfl (hb hby at_209) rfl ?_
            exact kt
          by_cases c211_56 : fq = fr
          · have pre57 : ∀ tt, Steps p.tables e below (T50.setTop (mkF m 221 #[.val (.int p1), .val (.int p2), .val (.int p3), .val (.int p4), .val (.int p5), .val (.int p6), .val (.int n1), .val (.int fa), .val (.int fb), .val (.int fr), .val (.int fe), .val (.int ab), .val (.int rm), .val (.int sel), .val (.int fq), .val (.ref b33), .val (.int (1 : Int32)), .val (.int (0 : Int32))] [])) tt → Steps p.tables e below (T50.setTop (mkF m 183 #[.val (.int p1), .val (.int p2), .val (.int p3), .val (.int p4), .val (.int p5), .val (.int p6), .val (.int n1), .val (.int fa), .val (.int fb), .val (.int fr), .val (.int fe), .val (.int ab), .val (.int rm), .val (.int sel), .val (.int fq), .val (.ref b33), .val (.int (1 : Int32)), .unset] [])) tt := by
              intro tt kt
              refine pre55 tt ?_
              show Steps p.tables e below (T50.setTop (mkF m 211 #[.val (.int p1), .val (.int p2), .val (.int p3), .val (.int p4), .val (.int p5), .val (.int p6), .val (.int n1), .val (.int fa), .val (.int fb), .val (.int fr), .val (.int fe), .val (.int ab), .val (.int rm), .val (.int sel), .val (.int fq), .val (.ref b33), .val (.int (1 : Int32)), .unset] [(.int fr), (.int fq)])) _
              refine XS.icmpYes X50.here hx rfl (pc0 := 211) (pc' := 218) rfl (hb hby at_211) rfl (teq c211_56).1 (by decide) (by decide) ?_
              show Steps p.tables e below (T50.setTop (mkF m 218 #[.val (.int p1), .val (.int p2), .val (.int p3), .val (.int p4), .val (.int p5), .val (.int p6), .val (.int n1), .val (.int fa), .val (.int fb), .val (.int fr), .val (.int fe), .val (.int ab), .val (.int rm), .val (.int sel), .val (.int fq), .val (.ref b33), .val (.int (1 : Int32)), .unset] [])) _
              refine XS.iconst X50.here hx rfl (hb hby at_218) ?_
              show Steps p.tables e below (T50.setTop (mkF m 219 #[.val (.int p1), .val (.int p2), .val (.int p3), .val (.int p4), .val (.int p5), .val (.int p6), .val (.int n1), .val (.int fa), .val (.int fb), .val (.int fr), .val (.int fe), .val (.int ab), .val (.int rm), .val (.int sel), .val (.int fq), .val (.ref b33), .val (.int (1 : Int32)), .unset] [(.int (0 : Int32))])) _
              refine XS.istore X50.here hx rfl (hb hby at_219) rfl (l' := #[.val (.int p1), .val (.int p2), .val (.int p3), .val (.int p4), .val (.int p5), .val (.int p6), .val (.int n1), .val (.int fa), .val (.int fb), .val (.int fr), .val (.int fe), .val (.int ab), .val (.int rm), .val (.int sel), .val (.int fq), .val (.ref b33), .val (.int (1 : Int32)), .val (.int (0 : Int32))]) rfl ?_
              exact kt
            refine ⟨T50, _, N50, X50, rfl, fun tt kt => pre57 tt ?_⟩
            rw [show ex = (0 : Int32) from hex.trans (if_neg (fun q => q.2 ⟨c171_40, c211_56⟩))] at kt
            exact kt
          · have pre58 : ∀ tt, Steps p.tables e below (T50.setTop (mkF m 221 #[.val (.int p1), .val (.int p2), .val (.int p3), .val (.int p4), .val (.int p5), .val (.int p6), .val (.int n1), .val (.int fa), .val (.int fb), .val (.int fr), .val (.int fe), .val (.int ab), .val (.int rm), .val (.int sel), .val (.int fq), .val (.ref b33), .val (.int (1 : Int32)), .val (.int (1 : Int32))] [])) tt → Steps p.tables e below (T50.setTop (mkF m 183 #[.val (.int p1), .val (.int p2), .val (.int p3), .val (.int p4), .val (.int p5), .val (.int p6), .val (.int n1), .val (.int fa), .val (.int fb), .val (.int fr), .val (.int fe), .val (.int ab), .val (.int rm), .val (.int sel), .val (.int fq), .val (.ref b33), .val (.int (1 : Int32)), .unset] [])) tt := by
              intro tt kt
              refine pre55 tt ?_
              show Steps p.tables e below (T50.setTop (mkF m 211 #[.val (.int p1), .val (.int p2), .val (.int p3), .val (.int p4), .val (.int p5), .val (.int p6), .val (.int n1), .val (.int fa), .val (.int fb), .val (.int fr), .val (.int fe), .val (.int ab), .val (.int rm), .val (.int sel), .val (.int fq), .val (.ref b33), .val (.int (1 : Int32)), .unset] [(.int fr), (.int fq)])) _
              refine XS.icmpNo X50.here hx rfl (hb hby at_211) rfl (feq c211_56).1 ?_
              show Steps p.tables e below (T50.setTop (mkF m 214 #[.val (.int p1), .val (.int p2), .val (.int p3), .val (.int p4), .val (.int p5), .val (.int p6), .val (.int n1), .val (.int fa), .val (.int fb), .val (.int fr), .val (.int fe), .val (.int ab), .val (.int rm), .val (.int sel), .val (.int fq), .val (.ref b33), .val (.int (1 : Int32)), .unset] [])) _
              refine XS.iconst X50.here hx rfl (hb hby at_214) ?_
              show Steps p.tables e below (T50.setTop (mkF m 215 #[.val (.int p1), .val (.int p2), .val (.int p3), .val (.int p4), .val (.int p5), .val (.int p6), .val (.int n1), .val (.int fa), .val (.int fb), .val (.int fr), .val (.int fe), .val (.int ab), .val (.int rm), .val (.int sel), .val (.int fq), .val (.ref b33), .val (.int (1 : Int32)), .unset] [(.int (1 : Int32))])) _
              refine XS.goto X50.here hx rfl (pc0 := 215) (pc' := 219) rfl (hb hby at_215) (by decide) (by decide) ?_
              show Steps p.tables e below (T50.setTop (mkF m 219 #[.val (.int p1), .val (.int p2), .val (.int p3), .val (.int p4), .val (.int p5), .val (.int p6), .val (.int n1), .val (.int fa), .val (.int fb), .val (.int fr), .val (.int fe), .val (.int ab), .val (.int rm), .val (.int sel), .val (.int fq), .val (.ref b33), .val (.int (1 : Int32)), .unset] [(.int (1 : Int32))])) _
              refine XS.istore X50.here hx rfl (hb hby at_219) rfl (l' := #[.val (.int p1), .val (.int p2), .val (.int p3), .val (.int p4), .val (.int p5), .val (.int p6), .val (.int n1), .val (.int fa), .val (.int fb), .val (.int fr), .val (.int fe), .val (.int ab), .val (.int rm), .val (.int sel), .val (.int fq), .val (.ref b33), .val (.int (1 : Int32)), .val (.int (1 : Int32))]) rfl ?_
              exact kt
            refine ⟨T50, _, N50, X50, rfl, fun tt kt => pre58 tt ?_⟩
            rw [show ex = (1 : Int32) from hex.trans (if_pos ⟨Or.inl c187_54, fun q => c211_56 q.2⟩)] at kt
            exact kt
        · have pre59 : ∀ tt, Steps p.tables e below (T50.setTop (mkF m 221 #[.val (.int p1), .val (.int p2), .val (.int p3), .val (.int p4), .val (.int p5), .val (.int p6), .val (.int n1), .val (.int fa), .val (.int fb), .val (.int fr), .val (.int fe), .val (.int ab), .val (.int rm), .val (.int sel), .val (.int fq), .val (.ref b33), .val (.int (1 : Int32)), .val (.int (0 : Int32))] [])) tt → Steps p.tables e below (T50.setTop (mkF m 183 #[.val (.int p1), .val (.int p2), .val (.int p3), .val (.int p4), .val (.int p5), .val (.int p6), .val (.int n1), .val (.int fa), .val (.int fb), .val (.int fr), .val (.int fe), .val (.int ab), .val (.int rm), .val (.int sel), .val (.int fq), .val (.ref b33), .val (.int (1 : Int32)), .unset] [])) tt := by
            intro tt kt
            refine pre53 tt ?_
            show Steps p.tables e below (T50.setTop (mkF m 187 #[.val (.int p1), .val (.int p2), .val (.int p3), .val (.int p4), .val (.int p5), .val (.int p6), .val (.int n1), .val (.int fa), .val (.int fb), .val (.int fr), .val (.int fe), .val (.int ab), .val (.int rm), .val (.int sel), .val (.int fq), .val (.ref b33), .val (.int (1 : Int32)), .unset] [(.int fa), (.int fq)])) _
            refine XS.icmpNo X50.here hx rfl (hb hby at_187) rfl (feq c187_54).1 ?_
            show Steps p.tables e below (T50.setTop (mkF m 190 #[.val (.int p1), .val (.int p2), .val (.int p3), .val (.int p4), .val (.int p5), .val (.int p6), .val (.int n1), .val (.int fa), .val (.int fb), .val (.int fr), .val (.int fe), .val (.int ab), .val (.int rm), .val (.int sel), .val (.int fq), .val (.ref b33), .val (.int (1 : Int32)), .unset] [])) _
            refine XS.iload X50.here hx rfl (hb hby at_190) rfl ?_
            show Steps p.tables e below (T50.setTop (mkF m 192 #[.val (.int p1), .val (.int p2), .val (.int p3), .val (.int p4), .val (.int p5), .val (.int p6), .val (.int n1), .val (.int fa), .val (.int fb), .val (.int fr), .val (.int fe), .val (.int ab), .val (.int rm), .val (.int sel), .val (.int fq), .val (.ref b33), .val (.int (1 : Int32)), .unset] [(.int ab)])) _
            refine XS.ifYes X50.here hx rfl (pc0 := 192) (pc' := 218) rfl (hb hby at_192) rfl ((if0 _ _).trans (teq c159_38).1) (by decide) (by decide) ?_
            show Steps p.tables e below (T50.setTop (mkF m 218 #[.val (.int p1), .val (.int p2), .val (.int p3), .val (.int p4), .val (.int p5), .val (.int p6), .val (.int n1), .val (.int fa), .val (.int fb), .val (.int fr), .val (.int fe), .val (.int ab), .val (.int rm), .val (.int sel), .val (.int fq), .val (.ref b33), .val (.int (1 : Int32)), .unset] [])) _
            refine XS.iconst X50.here hx rfl (hb hby at_218) ?_
            show Steps p.tables e below (T50.setTop (mkF m 219 #[.val (.int p1), .val (.int p2), .val (.int p3), .val (.int p4), .val (.int p5), .val (.int p6), .val (.int n1), .val (.int fa), .val (.int fb), .val (.int fr), .val (.int fe), .val (.int ab), .val (.int rm), .val (.int sel), .val (.int fq), .val (.ref b33), .val (.int (1 : Int32)), .unset] [(.int (0 : Int32))])) _
            refine XS.istore X50.here hx rfl (hb hby at_219) rfl (l' := #[.val (.int p1), .val (.int p2), .val (.int p3), .val (.int p4), .val (.int p5), .val (.int p6), .val (.int n1), .val (.int fa), .val (.int fb), .val (.int fr), .val (.int fe), .val (.int ab), .val (.int rm), .val (.int sel), .val (.int fq), .val (.ref b33), .val (.int (1 : Int32)), .val (.int (0 : Int32))]) rfl ?_
            exact kt
          refine ⟨T50, _, N50, X50, rfl, fun tt kt => pre59 tt ?_⟩
          rw [show ex = (0 : Int32) from hex.trans (if_neg (fun q => q.1.elim c187_54 (fun r => r.1 c159_38)))] at kt
          exact kt
      have pre60 : ∀ tt, Steps p.tables e below (T52.setTop (mkF m 221 #[.val (.int p1), .val (.int p2), .val (.int p3), .val (.int p4), .val (.int p5), .val (.int p6), .val (.int n1), .val (.int fa), .val (.int fb), .val (.int fr), .val (.int fe), .val (.int ab), .val (.int rm), .val (.int sel), .val (.int fq), .val (.ref b33), .val (.int (1 : Int32)), .val (.int ex)] [])) tt → Steps p.tables e below (s₁.setTop (entryFrame m #[(.int p1), (.int p2), (.int p3), (.int p4), (.int p5), (.int p6)] maxLocals)) tt := by
        intro tt kt
        refine pre51 tt ?_
        show Steps p.tables e below (T50.setTop (mkF m 183 #[.val (.int p1), .val (.int p2), .val (.int p3), .val (.int p4), .val (.int p5), .val (.int p6), .val (.int n1), .val (.int fa), .val (.int fb), .val (.int fr), .val (.int fe), .val (.int ab), .val (.int rm), .val (.int sel), .val (.int fq), .val (.ref b33), .val (.int (1 : Int32)), .unset] [])) _
        refine st52 _ ?_
        exact kt
      have hM : own_M u0_50 u1_50 u2_50 u3_50 fq ↔ ((fq = fa ∨ (¬ (ab = (0 : Int32)) ∧ fq = fb)) ∧ ¬ (¬ (rm = (0 : Int32)) ∧ fq = fr)) := by
        rw [own_Mrem hn r_fr r_fq hu0_50 hu1_50 hu2_50 hu3_50, own_Madd hn r_fa r_fq hu0_36 hu1_36 hu2_36 hu3_36]
        have key : ∀ M A B C : Prop, ¬ M → (((A ∨ M) ∧ ¬ C) ↔ (A ∧ ¬ C)) := by
          intro M A B C m
          by_cases hA : A <;> by_cases hB : B <;> by_cases hC : C <;> simp [hA, hB, hC, m]
        have e2 : (((fq = fa ∨ (¬ (ab = (0 : Int32)) ∧ fq = fb)) ∧ ¬ (¬ (rm = (0 : Int32)) ∧ fq = fr))) ↔ ((fq = fa) ∧ ¬ (fq = fr)) := by simp [c159_38, c171_40]
        exact (key _ (fq = fa) (fq = fb) (fq = fr) (own_M0 fq)).trans e2.symm
      obtain ⟨cq61, kq61, q61a, q61b, q61c⟩ := isOf hZ e52 Ea50
      obtain ⟨_, _, ⟨T61, L61, k61, n61⟩, -, X61, ⟨Lc61, hQ61, l61, y61, z61⟩, st61⟩ := X52.virtualBack hx (y := (⟨"com/example/phase7/phase7/metadata/FieldSet", "contains", "(I)Z"⟩ : MethodName)) (z := (⟨"com/example/phase7/phase7/metadata/FieldSet", "contains", "(I)Z"⟩ : MethodName)) hown (mvT hZ (hw _ (List.mem_of_getElem? (i := 14) rfl))) (mvT hZ (hw _ (List.mem_of_getElem? (i := 15) rfl))) (notFace_of_selects (args := #[]) (mvT hZ (hw _ (List.mem_of_getElem? (i := 17) rfl)))) (mvT hZ (hw _ (List.mem_of_getElem? (i := 17) rfl))) (mvT hZ (hw _ (List.mem_of_getElem? (i := 16) rfl))) (by decide) (backOf (W := 0) (rmH l Z a0 hw [] b33 b34 kb34 fq (fq / (64 : Int32)) z34 ex u0_50 u1_50 u2_50 u3_50 T50.heap n0 (Nat.le_trans (Nat.le_trans (Nat.le_trans (Nat.le_trans Z0 E33.1) K34.1) K36.1) K50.1) Ea50 Ff50 Fg50 Vb50 hne34 (own_fr hn r_fq).1 rfl (own_fr hn r_fq).2.1 z_fq (own_hasM hM hex)) hZ (hw _ (List.mem_of_getElem? (i := 18) rfl)) (hw _ (List.mem_of_getElem? (i := 3) rfl)) (by decide) (by decide)) q61a q61c (g := (mkF m 230 #[.val (.int p1), .val (.int p2), .val (.int p3), .val (.int p4), .val (.int p5), .val (.int p6), .val (.int n1), .val (.int fa), .val (.int fb), .val (.int fr), .val (.int fe), .val (.int ab), .val (.int rm), .val (.int sel), .val (.int fq), .val (.ref b33), .val (.int (1 : Int32)), .val (.int ex)] [(.int fq), (.ref b33)])) rfl (by rw [hml]; rfl) (Steps.refl _) (argsL := [(.int fq)]) (rest := []) (lenOf pd_rm0_1 rfl) rfl (by show 2 * 0 + _ ≤ _; exact Nat.le_of_eq rfl) (hb hby at_230) (fun _ _ => ⟨rfl, e52, (by decide : 2 + 0 ≤ _), (by decide : 5 + 0 ≤ _)⟩)
      dsimp only [Pt.U, Pt.locs, Pt.cells, Pt.slots] at X61 l61 y61 z61 st61 hQ61
      subst l61 y61 z61
      obtain ⟨rfl, N61q, hE61⟩ := hQ61
      have N61 := Fr.app N52 N61q
      have pre62 : ∀ tt, Steps p.tables e below (T61.setTop (mkF m 243 #[.val (.int p1), .val (.int p2), .val (.int p3), .val (.int p4), .val (.int p5), .val (.int p6), .val (.int n1), .val (.int fa), .val (.int fb), .val (.int fr), .val (.int fe), .val (.int ab), .val (.int rm), .val (.int sel), .val (.int fq), .val (.ref b33), .val (.int (1 : Int32)), .val (.int ex)] [(.int (1 : Int32))])) tt → Steps p.tables e below (s₁.setTop (entryFrame m #[(.int p1), (.int p2), (.int p3), (.int p4), (.int p5), (.int p6)] maxLocals)) tt := by
        intro tt kt
        refine pre60 tt ?_
        show Steps p.tables e below (T52.setTop (mkF m 221 #[.val (.int p1), .val (.int p2), .val (.int p3), .val (.int p4), .val (.int p5), .val (.int p6), .val (.int n1), .val (.int fa), .val (.int fb), .val (.int fr), .val (.int fe), .val (.int ab), .val (.int rm), .val (.int sel), .val (.int fq), .val (.ref b33), .val (.int (1 : Int32)), .val (.int ex)] [])) _
        refine XS.iload X52.here hx rfl (hb hby at_221) rfl ?_
        show Steps p.tables e below (T52.setTop (mkF m 223 #[.val (.int p1), .val (.int p2), .val (.int p3), .val (.int p4), .val (.int p5), .val (.int p6), .val (.int n1), .val (.int fa), .val (.int fb), .val (.int fr), .val (.int fe), .val (.int ab), .val (.int rm), .val (.int sel), .val (.int fq), .val (.ref b33), .val (.int (1 : Int32)), .val (.int ex)] [(.int (1 : Int32))])) _
        refine XS.ifNo X52.here hx rfl (hb hby at_223) rfl ((if0 _ _).trans (feq (by decide : ¬ ((1 : Int32) = (0 : Int32)))).1) ?_
        show Steps p.tables e below (T52.setTop (mkF m 226 #[.val (.int p1), .val (.int p2), .val (.int p3), .val (.int p4), .val (.int p5), .val (.int p6), .val (.int n1), .val (.int fa), .val (.int fb), .val (.int fr), .val (.int fe), .val (.int ab), .val (.int rm), .val (.int sel), .val (.int fq), .val (.ref b33), .val (.int (1 : Int32)), .val (.int ex)] [])) _
        refine XS.aload X52.here hx rfl (hb hby at_226) rfl rfl ?_
        show Steps p.tables e below (T52.setTop (mkF m 228 #[.val (.int p1), .val (.int p2), .val (.int p3), .val (.int p4), .val (.int p5), .val (.int p6), .val (.int n1), .val (.int fa), .val (.int fb), .val (.int fr), .val (.int fe), .val (.int ab), .val (.int rm), .val (.int sel), .val (.int fq), .val (.ref b33), .val (.int (1 : Int32)), .val (.int ex)] [(.ref b33)])) _
        refine XS.iload X52.here hx rfl (hb hby at_228) rfl ?_
        show Steps p.tables e below (T52.setTop (mkF m 230 #[.val (.int p1), .val (.int p2), .val (.int p3), .val (.int p4), .val (.int p5), .val (.int p6), .val (.int n1), .val (.int fa), .val (.int fb), .val (.int fr), .val (.int fe), .val (.int ab), .val (.int rm), .val (.int sel), .val (.int fq), .val (.ref b33), .val (.int (1 : Int32)), .val (.int ex)] [(.int fq), (.ref b33)])) _
        refine st61.trans ?_
        show Steps p.tables e below (T61.setTop (mkF m 233 #[.val (.int p1), .val (.int p2), .val (.int p3), .val (.int p4), .val (.int p5), .val (.int p6), .val (.int n1), .val (.int fa), .val (.int fb), .val (.int fr), .val (.int fe), .val (.int ab), .val (.int rm), .val (.int sel), .val (.int fq), .val (.ref b33), .val (.int (1 : Int32)), .val (.int ex)] [(.int ex)])) _
        refine XS.iload X61.here hx rfl (hb hby at_233) rfl ?_
        show Steps p.tables e below (T61.setTop (mkF m 235 #[.val (.int p1), .val (.int p2), .val (.int p3), .val (.int p4), .val (.int p5), .val (.int p6), .val (.int n1), .val (.int fa), .val (.int fb), .val (.int fr), .val (.int fe), .val (.int ab), .val (.int rm), .val (.int sel), .val (.int fq), .val (.ref b33), .val (.int (1 : Int32)), .val (.int ex)] [(.int ex), (.int ex)])) _
        refine XS.icmpNo X61.here hx rfl (hb hby at_235) rfl (teq (rfl : ex = ex)).2 ?_
        show Steps p.tables e below (T61.setTop (mkF m 238 #[.val (.int p1), .val (.int p2), .val (.int p3), .val (.int p4), .val (.int p5), .val (.int p6), .val (.int n1), .val (.int fa), .val (.int fb), .val (.int fr), .val (.int fe), .val (.int ab), .val (.int rm), .val (.int sel), .val (.int fq), .val (.ref b33), .val (.int (1 : Int32)), .val (.int ex)] [])) _
        refine XS.iconst X61.here hx rfl (hb hby at_238) ?_
        show Steps p.tables e below (T61.setTop (mkF m 239 #[.val (.int p1), .val (.int p2), .val (.int p3), .val (.int p4), .val (.int p5), .val (.int p6), .val (.int n1), .val (.int fa), .val (.int fb), .val (.int fr), .val (.int fe), .val (.int ab), .val (.int rm), .val (.int sel), .val (.int fq), .val (.ref b33), .val (.int (1 : Int32)), .val (.int ex)] [(.int (1 : Int32))])) _
        refine XS.goto X61.here hx rfl (pc0 := 239) (pc' := 243) rfl (hb hby at_239) (by decide) (by decide) ?_
        exact kt
      obtain ⟨fs, hr, hrun, hended, hW, hsame⟩ := X61.leave (v := some (.int (1 : Int32))) (fun h => by rw [Bd.returns] at h; cases h)
      refine ⟨_, _, pre62 _ ?_, hrun, hended, _, _, rfl, ?_, ⟨_, rfl⟩, hW, hsame.mono (by decide) (by decide)⟩
      · show Steps p.tables e below (T61.setTop (mkF m 243 #[.val (.int p1), .val (.int p2), .val (.int p3), .val (.int p4), .val (.int p5), .val (.int p6), .val (.int n1), .val (.int fa), .val (.int fb), .val (.int fr), .val (.int fe), .val (.int ab), .val (.int rm), .val (.int sel), .val (.int fq), .val (.ref b33), .val (.int (1 : Int32)), .val (.int ex)] [(.int (1 : Int32))])) _
        exact retN X61 hx (t := .boolean) Bd.returns (by simp) (hb hby at_243) hr
      · show Q0 Z h0 n0 _ T61.heap _
        rw [hE61]
        exact ⟨rfl, N61⟩
  · have z_fb : (fb / (64 : Int32)).toInt ≤ z34.toInt := by
      have q1 := (own_fr hn r_fb).2.2
      have q2 := hz34
      have q3 := r_fb
      omega
    obtain ⟨u0_63, hu0_63⟩ : ∃ z : Int64, z = if fb / (64 : Int32) = 0 then (u0_36 ||| ((1 : Int64) <<< (fb &&& 0x3f).toInt64)) else u0_36 := ⟨_, rfl⟩
    obtain ⟨u1_63, hu1_63⟩ : ∃ z : Int64, z = if fb / (64 : Int32) = 1 then (u1_36 ||| ((1 : Int64) <<< (fb &&& 0x3f).toInt64)) else u1_36 := ⟨_, rfl⟩
    obtain ⟨u2_63, hu2_63⟩ : ∃ z : Int64, z = if fb / (64 : Int32) = 2 then (u2_36 ||| ((1 : Int64) <<< (fb &&& 0x3f).toInt64)) else u2_36 := ⟨_, rfl⟩
    obtain ⟨u3_63, hu3_63⟩ : ∃ z : Int64, z = if fb / (64 : Int32) = 3 then (u3_36 ||| ((1 : Int64) <<< (fb &&& 0x3f).toInt64)) else u3_36 := ⟨_, rfl⟩
    obtain ⟨cq63, kq63, q63a, q63b, q63c⟩ := isOf hZ rfl Ea36
    obtain ⟨_, _, ⟨T63, L63, k63, n63⟩, -, X63, ⟨Lc63, hQ63, l63, y63, z63⟩, st63⟩ := X36.virtualBack hx (y := (⟨"com/example/phase7/phase7/metadata/FieldSet", "add", "(I)V"⟩ : MethodName)) (z := (⟨"com/example/phase7/phase7/metadata/FieldSet", "add", "(I)V"⟩ : MethodName)) hown (mvT hZ (hw _ (List.mem_of_getElem? (i := 21) rfl))) (mvT hZ (hw _ (List.mem_of_getElem? (i := 22) rfl))) (notFace_of_selects (args := #[]) (mvT hZ (hw _ (List.mem_of_getElem? (i := 24) rfl)))) (mvT hZ (hw _ (List.mem_of_getElem? (i := 24) rfl))) (mvT hZ (hw _ (List.mem_of_getElem? (i := 23) rfl))) (by decide) (backOf (W := 0) (rmA l Z a0 hw [] b33 b34 kb34 fb (fb / (64 : Int32)) z34 u0_36 u1_36 u2_36 u3_36 u0_63 u1_63 u2_63 u3_63 T36.heap n0 (Nat.le_trans (Nat.le_trans (Nat.le_trans Z0 E33.1) K34.1) K36.1) Ea36 Ff36 Fg36 Vb36 hne34 (own_fr hn r_fb).1 rfl (own_fr hn r_fb).2.1 z_fb g_b33 gz34 hu0_63 hu1_63 hu2_63 hu3_63) hZ (hw _ (List.mem_of_getElem? (i := 25) rfl)) (hw _ (List.mem_of_getElem? (i := 3) rfl)) (by decide) (by decide)) q63a q63c (g := (mkF m 168 #[.val (.int p1), .val (.int p2), .val (.int p3), .val (.int p4), .val (.int p5), .val (.int p6), .val (.int n1), .val (.int fa), .val (.int fb), .val (.int fr), .val (.int fe), .val (.int ab), .val (.int rm), .val (.int sel), .val (.int fq), .val (.ref b33), .val (.int (1 : Int32)), .unset] [(.int fb), (.ref b33)])) rfl (by rw [hml]; rfl) (Steps.refl _) (argsL := [(.int fb)]) (rest := []) (lenOf pd_rm0_0 rfl) rfl (by show 2 * 0 + _ ≤ _; exact Nat.le_of_eq rfl) (hb hby at_168) (fun _ _ => ⟨rfl, rfl, (by decide : 2 + 0 ≤ _), (by decide : 5 + 0 ≤ _)⟩)
    dsimp only [Pt.U, Pt.locs, Pt.cells, Pt.slots] at X63 l63 y63 z63 st63 hQ63
    subst l63 y63 z63
    obtain ⟨rfl, N63q, K63, Ea63, Ff63, Fg63, Vb63⟩ := hQ63
    have N63 := Fr.app N36 N63q
    have pre64 : ∀ tt, Steps p.tables e below (T63.setTop (mkF m 171 #[.val (.int p1), .val (.int p2), .val (.int p3), .val (.int p4), .val (.int p5), .val (.int p6), .val (.int n1), .val (.int fa), .val (.int fb), .val (.int fr), .val (.int fe), .val (.int ab), .val (.int rm), .val (.int sel), .val (.int fq), .val (.ref b33), .val (.int (1 : Int32)), .unset] [])) tt → Steps p.tables e below (s₁.setTop (entryFrame m #[(.int p1), (.int p2), (.int p3), (.int p4), (.int p5), (.int p6)] maxLocals)) tt := by
      intro tt kt
      refine pre37 tt ?_
      show Steps p.tables e below (T36.setTop (mkF m 159 #[.val (.int p1), .val (.int p2), .val (.int p3), .val (.int p4), .val (.int p5), .val (.int p6), .val (.int n1), .val (.int fa), .val (.int fb), .val (.int fr), .val (.int fe), .val (.int ab), .val (.int rm), .val (.int sel), .val (.int fq), .val (.ref b33), .val (.int (1 : Int32)), .unset] [])) _
      refine XS.iload X36.here hx rfl (hb hby at_159) rfl ?_
      show Steps p.tables e below (T36.setTop (mkF m 161 #[.val (.int p1), .val (.int p2), .val (.int p3), .val (.int p4), .val (.int p5), .val (.int p6), .val (.int n1), .val (.int fa), .val (.int fb), .val (.int fr), .val (.int fe), .val (.int ab), .val (.int rm), .val (.int sel), .val (.int fq), .val (.ref b33), .val (.int (1 : Int32)), .unset] [(.int ab)])) _
      refine XS.ifNo X36.here hx rfl (hb hby at_161) rfl ((if0 _ _).trans (feq c159_38).1) ?_
      show Steps p.tables e below (T36.setTop (mkF m 164 #[.val (.int p1), .val (.int p2), .val (.int p3), .val (.int p4), .val (.int p5), .val (.int p6), .val (.int n1), .val (.int fa), .val (.int fb), .val (.int fr), .val (.int fe), .val (.int ab), .val (.int rm), .val (.int sel), .val (.int fq), .val (.ref b33), .val (.int (1 : Int32)), .unset] [])) _
      refine XS.aload X36.here hx rfl (hb hby at_164) rfl rfl ?_
      show Steps p.tables e below (T36.setTop (mkF m 166 #[.val (.int p1), .val (.int p2), .val (.int p3), .val (.int p4), .val (.int p5), .val (.int p6), .val (.int n1), .val (.int fa), .val (.int fb), .val (.int fr), .val (.int fe), .val (.int ab), .val (.int rm), .val (.int sel), .val (.int fq), .val (.ref b33), .val (.int (1 : Int32)), .unset] [(.ref b33)])) _
      refine XS.iload X36.here hx rfl (hb hby at_166) rfl ?_
      show Steps p.tables e below (T36.setTop (mkF m 168 #[.val (.int p1), .val (.int p2), .val (.int p3), .val (.int p4), .val (.int p5), .val (.int p6), .val (.int n1), .val (.int fa), .val (.int fb), .val (.int fr), .val (.int fe), .val (.int ab), .val (.int rm), .val (.int sel), .val (.int fq), .val (.ref b33), .val (.int (1 : Int32)), .unset] [(.int fb), (.ref b33)])) _
      refine st63.trans ?_
      exact kt
    by_cases c171_65 : rm = (0 : Int32)
    · obtain ⟨ex, hex⟩ : ∃ z : Int32, z = if ((fq = fa ∨ (¬ (ab = (0 : Int32)) ∧ fq = fb)) ∧ ¬ (¬ (rm = (0 : Int32)) ∧ fq = fr)) then (1 : Int32) else 0 := ⟨_, rfl⟩
      have pre66 : ∀ tt, Steps p.tables e below (T63.setTop (mkF m 183 #[.val (.int p1), .val (.int p2), .val (.int p3), .val (.int p4), .val (.int p5), .val (.int p6), .val (.int n1), .val (.int fa), .val (.int fb), .val (.int fr), .val (.int fe), .val (.int ab), .val (.int rm), .val (.int sel), .val (.int fq), .val (.ref b33), .val (.int (1 : Int32)), .unset] [])) tt → Steps p.tables e below (s₁.setTop (entryFrame m #[(.int p1), (.int p2), (.int p3), (.int p4), (.int p5), (.int p6)] maxLocals)) tt := by
        intro tt kt
        refine pre64 tt ?_
        show Steps p.tables e below (T63.setTop (mkF m 171 #[.val (.int p1), .val (.int p2), .val (.int p3), .val (.int p4), .val (.int p5), .val (.int p6), .val (.int n1), .val (.int fa), .val (.int fb), .val (.int fr), .val (.int fe), .val (.int ab), .val (.int rm), .val (.int sel), .val (.int fq), .val (.ref b33), .val (.int (1 : Int32)), .unset] [])) _
        refine XS.iload X63.here hx rfl (hb hby at_171) rfl ?_
        show Steps p.tables e below (T63.setTop (mkF m 173 #[.val (.int p1), .val (.int p2), .val (.int p3), .val (.int p4), .val (.int p5), .val (.int p6), .val (.int n1), .val (.int fa), .val (.int fb), .val (.int fr), .val (.int fe), .val (.int ab), .val (.int rm), .val (.int sel), .val (.int fq), .val (.ref b33), .val (.int (1 : Int32)), .unset] [(.int rm)])) _
        refine XS.ifYes X63.here hx rfl (pc0 := 173) (pc' := 183) rfl (hb hby at_173) rfl ((if0 _ _).trans (teq c171_65).1) (by decide) (by decide) ?_
        exact kt
      obtain ⟨T67, L67, N67, X67, e67, st67⟩ : ∃ (T' : State) (L' : List Loc), Fr n0 L' ∧ Stand p l e room_1 s m #[(.int p1), (.int p2), (.int p3), (.int p4), (.int p5), (.int p6)] below meth c T' L' 2 5 ∧ T'.heap = T63.heap ∧ ∀ tt, Steps p.tables e below (T'.setTop (mkF m 221 #[.val (.int p1), .val (.int p2), .val (.int p3), .val (.int p4), .val (.int p5), .val (.int p6), .val (.int n1), .val (.int fa), .val (.int fb), .val (.int fr), .val (.int fe), .val (.int ab), .val (.int rm), .val (.int sel), .val (.int fq), .val (.ref b33), .val (.int (1 : Int32)), .val (.int ex)] [])) tt → Steps p.tables e below (T63.setTop (mkF m 183 #[.val (.int p1), .val (.int p2), .val (.int p3), .val (.int p4), .val (.int p5), .val (.int p6), .val (.int n1), .val (.int fa), .val (.int fb), .val (.int fr), .val (.int fe), .val (.int ab), .val (.int rm), .val (.int sel), .val (.int fq), .val (.ref b33), .val (.int (1 : Int32)), .unset] [])) tt := by
        have pid67 : ∀ tt, Steps p.tables e below (T63.setTop (mkF m 183 #[.val (.int p1), .val (.int p2), .val (.int p3), .val (.int p4), .val (.int p5), .val (.int p6), .val (.int n1), .val (.int fa), .val (.int fb), .val (.int fr), .val (.int fe), .val (.int ab), .val (.int rm), .val (.int sel), .val (.int fq), .val (.ref b33), .val (.int (1 : Int32)), .unset] [])) tt → Steps p.tables e below (T63.setTop (mkF m 183 #[.val (.int p1), .val (.int p2), .val (.int p3), .val (.int p4), .val (.int p5), .val (.int p6), .val (.int n1), .val (.int fa), .val (.int fb), .val (.int fr), .val (.int fe), .val (.int ab), .val (.int rm), .val (.int sel), .val (.int fq), .val (.ref b33), .val (.int (1 : Int32)), .unset] [])) tt := fun tt kt => kt
        have pre68 : ∀ tt, Steps p.tables e below (T63.setTop (mkF m 187 #[.val (.int p1), .val (.int p2), .val (.int p3), .val (.int p4), .val (.int p5), .val (.int p6), .val (.int n1), .val (.int fa), .val (.int fb), .val (.int fr), .val (.int fe), .val (.int ab), .val (.int rm), .val (.int sel), .val (.int fq), .val (.ref b33), .val (.int (1 : Int32)), .unset] [(.int fa), (.int fq)])) tt → Steps p.tables e below (T63.setTop (mkF m 183 #[.val (.int p1), .val (.int p2), .val (.int p3), .val (.int p4), .val (.int p5), .val (.int p6), .val (.int n1), .val (.int fa), .val (.int fb), .val (.int fr), .val (.int fe), .val (.int ab), .val (.int rm), .val (.int sel), .val (.int fq), .val (.ref b33), .val (.int (1 : Int32)), .unset] [])) tt := by
          intro tt kt
          refine pid67 tt ?_
          show Steps p.tables e below (T63.setTop (mkF m 183 #[.val (.int p1), .val (.int p2), .val (.int p3), .val (.int p4), .val (.int p5), .val (.int p6), .val (.int n1), .val (.int fa), .val (.int fb), .val (.int fr), .val (.int fe), .val (.int ab), .val (.int rm), .val (.int sel), .val (.int fq), .val (.ref b33), .val (.int (1 : Int32)), .unset] [])) _
          refine XS.iload X63.here hx rfl (hb hby at_183) rfl ?_
          show Steps p.tables e below (T63.setTop (mkF m 185 #[.val (.int p1), .val (.int p2), .val (.int p3), .val (.int p4), .val (.int p5), .val (.int p6), .val (.int n1), .val (.int fa), .val (.int fb), .val (.int fr), .val (.int fe), .val (.int ab), .val (.int rm), .val (.int sel), .val (.int fq), .val (.ref b33), .val (.int (1 : Int32)), .unset] [(.int fq)])) _
          refine XS.iload X63.here hx rfl (hb hby at_185) rfl ?_
          exact kt
        by_cases c187_69 : fq = fa
        · have pre70 : ∀ tt, Steps p.tables e below (T63.setTop (mkF m 221 #[.val (.int p1), .val (.int p2), .val (.int p3), .val (.int p4), .val (.int p5), .val (.int p6), .val (.int n1), .val (.int fa), .val (.int fb), .val (.int fr), .val (.int fe), .val (.int ab), .val (.int rm), .val (.int sel), .val (.int fq), .val (.ref b33), .val (.int (1 : Int32)), .val (.int (1 : Int32))] [])) tt → Steps p.tables e below (T63.setTop (mkF m 183 #[.val (.int p1), .val (.int p2), .val (.int p3), .val (.int p4), .val (.int p5), .val (.int p6), .val (.int n1), .val (.int fa), .val (.int fb), .val (.int fr), .val (.int fe), .val (.int ab), .val (.int rm), .val (.int sel), .val (.int fq), .val (.ref b33), .val (.int (1 : Int32)), .unset] [])) tt := by
            intro tt kt
            refine pre68 tt ?_
            show Steps p.tables e below (T63.setTop (mkF m 187 #[.val (.int p1), .val (.int p2), .val (.int p3), .val (.int p4), .val (.int p5), .val (.int p6), .val (.int n1), .val (.int fa), .val (.int fb), .val (.int fr), .val (.int fe), .val (.int ab), .val (.int rm), .val (.int sel), .val (.int fq), .val (.ref b33), .val (.int (1 : Int32)), .unset] [(.int fa), (.int fq)])) _
            refine XS.icmpYes X63.here hx rfl (pc0 := 187) (pc' := 202) rfl (hb hby at_187) rfl (teq c187_69).1 (by decide) (by decide) ?_
            show Steps p.tables e below (T63.setTop (mkF m 202 #[.val (.int p1), .val (.int p2), .val (.int p3), .val (.int p4), .val (.int p5), .val (.int p6), .val (.int n1), .val (.int fa), .val (.int fb), .val (.int fr), .val (.int fe), .val (.int ab), .val (.int rm), .val (.int sel), .val (.int fq), .val (.ref b33), .val (.int (1 : Int32)), .unset] [])) _
            refine XS.iload X63.here hx rfl (hb hby at_202) rfl ?_
            show Steps p.tables e below (T63.setTop (mkF m 204 #[.val (.int p1), .val (.int p2), .val (.int p3), .val (.int p4), .val (.int p5), .val (.int p6), .val (.int n1), .val (.int fa), .val (.int fb), .val (.int fr), .val (.int fe), .val (.int ab), .val (.int rm), .val (.int sel), .val (.int fq), .val (.ref b33), .val (.int (1 : Int32)), .unset] [(.int rm)])) _
            refine XS.ifYes X63.here hx rfl (pc0 := 204) (pc' := 214) rfl (hb hby at_204) rfl ((if0 _ _).trans (teq c171_65).1) (by decide) (by decide) ?_
            show Steps p.tables e below (T63.setTop (mkF m 214 #[.val (.int p1), .val (.int p2), .val (.int p3), .val (.int p4), .val (.int p5), .val (.int p6), .val (.int n1), .val (.int fa), .val (.int fb), .val (.int fr), .val (.int fe), .val (.int ab), .val (.int rm), .val (.int sel), .val (.int fq), .val (.ref b33), .val (.int (1 : Int32)), .unset] [])) _
            refine XS.iconst X63.here hx rfl (hb hby at_214) ?_
            show Steps p.tables e below (T63.setTop (mkF m 215 #[.val (.int p1), .val (.int p2), .val (.int p3), .val (.int p4), .val (.int p5), .val (.int p6), .val (.int n1), .val (.int fa), .val (.int fb), .val (.int fr), .val (.int fe), .val (.int ab), .val (.int rm), .val (.int sel), .val (.int fq), .val (.ref b33), .val (.int (1 : Int32)), .unset] [(.int (1 : Int32))])) _
            refine XS.goto X63.here hx rfl (pc0 := 215) (pc' := 219) rfl (hb hby at_215) (by decide) (by decide) ?_
            show Steps p.tables e below (T63.setTop (mkF m 219 #[.val (.int p1), .val (.int p2), .val (.int p3), .val (.int p4), .val (.int p5), .val (.int p6), .val (.int n1), .val (.int fa), .val (.int fb), .val (.int fr), .val (.int fe), .val (.int ab), .val (.int rm), .val (.int sel), .val (.int fq), .val (.ref b33), .val (.int (1 : Int32)), .unset] [(.int (1 : Int32))])) _
            refine XS.istore X63.here hx rfl (hb hby at_219) rfl (l' := #[.val (.int p1), .val (.int p2), .val (.int p3), .val (.int p4), .val (.int p5), .val (.int p6), .val (.int n1), .val (.int fa), .val (.int fb), .val (.int fr), .val (.int fe), .val (.int ab), .val (.int rm), .val (.int sel), .val (.int fq), .val (.ref b33), .val (.int (1 : Int32)), .val (.int (1 : Int32))]) rfl ?_
            exact kt
          refine ⟨T63, _, N63, X63, rfl, fun tt kt => pre70 tt ?_⟩
          rw [show ex = (1 : Int32) from hex.trans (if_pos ⟨Or.inl c187_69, fun q => q.1 c171_65⟩)] at kt
          exact kt
        · have pre71 : ∀ tt, Steps p.tables e below (T63.setTop (mkF m 199 #[.val (.int p1), .val (.int p2), .val (.int p3), .val (.int p4), .val (.int p5), .val (.int p6), .val (.int n1), .val (.int fa), .val (.int fb), .val (.int fr), .val (.int fe), .val (.int ab), .val (.int rm), .val (.int sel), .val (.int fq), .val (.ref b33), .val (.int (1 : Int32)), .unset] [(.int fb), (.int fq)])) tt → Steps p.tables e below (T63.setTop (mkF m 183 #[.val (.int p1), .val (.int p2), .val (.int p3), .val (.int p4), .val (.int p5), .val (.int p6), .val (.int n1), .val (.int fa), .val (.int fb), .val (.int fr), .val (.int fe), .val (.int ab), .val (.int rm), .val (.int sel), .val (.int fq), .val (.ref b33), .val (.int (1 : Int32)), .unset] [])) tt := by
            intro tt kt
            refine pre68 tt ?_
            show Steps p.tables e below (T63.setTop (mkF m 187 #[.val (.int p1), .val (.int p2), .val (.int p3), .val (.int p4), .val (.int p5), .val (.int p6), .val (.int n1), .val (.int fa), .val (.int fb), .val (.int fr), .val (.int fe), .val (.int ab), .val (.int rm), .val (.int sel), .val (.int fq), .val (.ref b33), .val (.int (1 : Int32)), .unset] [(.int fa), (.int fq)])) _
            refine XS.icmpNo X63.here hx rfl (hb hby at_187) rfl (feq c187_69).1 ?_
            show Steps p.tables e below (T63.setTop (mkF m 190 #[.val (.int p1), .val (.int p2), .val (.int p3), .val (.int p4), .val (.int p5), .val (.int p6), .val (.int n1), .val (.int fa), .val (.int fb), .val (.int fr), .val (.int fe), .val (.int ab), .val (.int rm), .val (.int sel), .val (.int fq), .val (.ref b33), .val (.int (1 : Int32)), .unset] [])) _
            refine XS.iload X63.here hx rfl (hb hby at_190) rfl ?_
            show Steps p.tables e below (T63.setTop (mkF m 192 #[.val (.int p1), .val (.int p2), .val (.int p3), .val (.int p4), .val (.int p5), .val (.int p6), .val (.int n1), .val (.int fa), .val (.int fb), .val (.int fr), .val (.int fe), .val (.int ab), .val (.int rm), .val (.int sel), .val (.int fq), .val (.ref b33), .val (.int (1 : Int32)), .unset] [(.int ab)])) _
            refine XS.ifNo X63.here hx rfl (hb hby at_192) rfl ((if0 _ _).trans (feq c159_38).1) ?_
            show Steps p.tables e below (T63.setTop (mkF m 195 #[.val (.int p1), .val (.int p2), .val (.int p3), .val (.int p4), .val (.int p5), .val (.int p6), .val (.int n1), .val (.int fa), .val (.int fb), .val (.int fr), .val (.int fe), .val (.int ab), .val (.int rm), .val (.int sel), .val (.int fq), .val (.ref b33), .val (.int (1 : Int32)), .unset] [])) _
            refine XS.iload X63.here hx rfl (hb hby at_195) rfl ?_
            show Steps p.tables e below (T63.setTop (mkF m 197 #[.val (.int p1), .val (.int p2), .val (.int p3), .val (.int p4), .val (.int p5), .val (.int p6), .val (.int n1), .val (.int fa), .val (.int fb), .val (.int fr), .val (.int fe), .val (.int ab), .val (.int rm), .val (.int sel), .val (.int fq), .val (.ref b33), .val (.int (1 : Int32)), .unset] [(.int fq)])) _
            refine XS.iload X63.here hx rfl (hb hby at_197) rfl ?_
            exact kt
          by_cases c199_72 : fq = fb
          · have pre73 : ∀ tt, Steps p.tables e below (T63.setTop (mkF m 221 #[.val (.int p1), .val (.int p2), .val (.int p3), .val (.int p4), .val (.int p5), .val (.int p6), .val (.int n1), .val (.int fa), .val (.int fb), .val (.int fr), .val (.int fe), .val (.int ab), .val (.int rm), .val (.int sel), .val (.int fq), .val (.ref b33), .val (.int (1 : Int32)), .val (.int (1 : Int32))] [])) tt → Steps p.tables e below (T63.setTop (mkF m 183 #[.val (.int p1), .val (.int p2), .val (.int p3), .val (.int p4), .val (.int p5), .val (.int p6), .val (.int n1), .val (.int fa), .val (.int fb), .val (.int fr), .val (.int fe), .val (.int ab), .val (.int rm), .val (.int sel), .val (.int fq), .val (.ref b33), .val (.int (1 : Int32)), .unset] [])) tt := by
              intro tt kt
              refine pre71 tt ?_
              show Steps p.tables e below (T63.setTop (mkF m 199 #[.val (.int p1), .val (.int p2), .val (.int p3), .val (.int p4), .val (.int p5), .val (.int p6), .val (.int n1), .val (.int fa), .val (.int fb), .val (.int fr), .val (.int fe), .val (.int ab), .val (.int rm), .val (.int sel), .val (.int fq), .val (.ref b33), .val (.int (1 : Int32)), .unset] [(.int fb), (.int fq)])) _
              refine XS.icmpNo X63.here hx rfl (hb hby at_199) rfl (teq c199_72).2 ?_
              show Steps p.tables e below (T63.setTop (mkF m 202 #[.val (.int p1), .val (.int p2), .val (.int p3), .val (.int p4), .val (.int p5), .val (.int p6), .val (.int n1), .val (.int fa), .val (.int fb), .val (.int fr), .val (.int fe), .val (.int ab), .val (.int rm), .val (.int sel), .val (.int fq), .val (.ref b33), .val (.int (1 : Int32)), .unset] [])) _
              refine XS.iload X63.here hx rfl (hb hby at_202) rfl ?_
              show Steps p.tables e below (T63.setTop (mkF m 204 #[.val (.int p1), .val (.int p2), .val (.int p3), .val (.int p4), .val (.int p5), .val (.int p6), .val (.int n1), .val (.int fa), .val (.int fb), .val (.int fr), .val (.int fe), .val (.int ab), .val (.int rm), .val (.int sel), .val (.int fq), .val (.ref b33), .val (.int (1 : Int32)), .unset] [(.int rm)])) _
              refine XS.ifYes X63.here hx rfl (pc0 := 204) (pc' := 214) rfl (hb hby at_204) rfl ((if0 _ _).trans (teq c171_65).1) (by decide) (by decide) ?_
              show Steps p.tables e below (T63.setTop (mkF m 214 #[.val (.int p1), .val (.int p2), .val (.int p3), .val (.int p4), .val (.int p5), .val (.int p6), .val (.int n1), .val (.int fa), .val (.int fb), .val (.int fr), .val (.int fe), .val (.int ab), .val (.int rm), .val (.int sel), .val (.int fq), .val (.ref b33), .val (.int (1 : Int32)), .unset] [])) _
              refine XS.iconst X63.here hx rfl (hb hby at_214) ?_
              show Steps p.tables e below (T63.setTop (mkF m 215 #[.val (.int p1), .val (.int p2), .val (.int p3), .val (.int p4), .val (.int p5), .val (.int p6), .val (.int n1), .val (.int fa), .val (.int fb), .val (.int fr), .val (.int fe), .val (.int ab), .val (.int rm), .val (.int sel), .val (.int fq), .val (.ref b33), .val (.int (1 : Int32)), .unset] [(.int (1 : Int32))])) _
              refine XS.goto X63.here hx rfl (pc0 := 215) (pc' := 219) rfl (hb hby at_215) (by decide) (by decide) ?_
              show Steps p.tables e below (T63.setTop (mkF m 219 #[.val (.int p1), .val (.int p2), .val (.int p3), .val (.int p4), .val (.int p5), .val (.int p6), .val (.int n1), .val (.int fa), .val (.int fb), .val (.int fr), .val (.int fe), .val (.int ab), .val (.int rm), .val (.int sel), .val (.int fq), .val (.ref b33), .val (.int (1 : Int32)), .unset] [(.int (1 : Int32))])) _
              refine XS.istore X63.here hx rfl (hb hby at_219) rfl (l' := #[.val (.int p1), .val (.int p2), .val (.int p3), .val (.int p4), .val (.int p5), .val (.int p6), .val (.int n1), .val (.int fa), .val (.int fb), .val (.int fr), .val (.int fe), .val (.int ab), .val (.int rm), .val (.int sel), .val (.int fq), .val (.ref b33), .val (.int (1 : Int32)), .val (.int (1 : Int32))]) rfl ?_
              exact kt
            refine ⟨T63, _, N63, X63, rfl, fun tt kt => pre73 tt ?_⟩
            rw [show ex = (1 : Int32) from hex.trans (if_pos ⟨Or.inr ⟨c159_38, c199_72⟩, fun q => q.1 c171_65⟩)] at kt
            exact kt
          · have pre74 : ∀ tt, Steps p.tables e below (T63.setTop (mkF m 221 #[.val (.int p1), .val (.int p2), .val (.int p3), .val (.int p4), .val (.int p5), .val (.int p6), .val (.int n1), .val (.int fa), .val (.int fb), .val (.int fr), .val (.int fe), .val (.int ab), .val (.int rm), .val (.int sel), .val (.int fq), .val (.ref b33), .val (.int (1 : Int32)), .val (.int (0 : Int32))] [])) tt → Steps p.tables e below (T63.setTop (mkF m 183 #[.val (.int p1), .val (.int p2), .val (.int p3), .val (.int p4), .val (.int p5), .val (.int p6), .val (.int n1), .val (.int fa), .val (.int fb), .val (.int fr), .val (.int fe), .val (.int ab), .val (.int rm), .val (.int sel), .val (.int fq), .val (.ref b33), .val (.int (1 : Int32)), .unset] [])) tt := by
              intro tt kt
              refine pre71 tt ?_
              show Steps p.tables e below (T63.setTop (mkF m 199 #[.val (.int p1), .val (.int p2), .val (.int p3), .val (.int p4), .val (.int p5), .val (.int p6), .val (.int n1), .val (.int fa), .val (.int fb), .val (.int fr), .val (.int fe), .val (.int ab), .val (.int rm), .val (.int sel), .val (.int fq), .val (.ref b33), .val (.int (1 : Int32)), .unset] [(.int fb), (.int fq)])) _
              refine XS.icmpYes X63.here hx rfl (pc0 := 199) (pc' := 218) rfl (hb hby at_199) rfl (feq c199_72).2 (by decide) (by decide) ?_
              show Steps p.tables e below (T63.setTop (mkF m 218 #[.val (.int p1), .val (.int p2), .val (.int p3), .val (.int p4), .val (.int p5), .val (.int p6), .val (.int n1), .val (.int fa), .val (.int fb), .val (.int fr), .val (.int fe), .val (.int ab), .val (.int rm), .val (.int sel), .val (.int fq), .val (.ref b33), .val (.int (1 : Int32)), .unset] [])) _
              refine XS.iconst X63.here hx rfl (hb hby at_218) ?_
              show Steps p.tables e below (T63.setTop (mkF m 219 #[.val (.int p1), .val (.int p2), .val (.int p3), .val (.int p4), .val (.int p5), .val (.int p6), .val (.int n1), .val (.int fa), .val (.int fb), .val (.int fr), .val (.int fe), .val (.int ab), .val (.int rm), .val (.int sel), .val (.int fq), .val (.ref b33), .val (.int (1 : Int32)), .unset] [(.int (0 : Int32))])) _
              refine XS.istore X63.here hx rfl (hb hby at_219) rfl (l' := #[.val (.int p1), .val (.int p2), .val (.int p3), .val (.int p4), .val (.int p5), .val (.int p6), .val (.int n1), .val (.int fa), .val (.int fb), .val (.int fr), .val (.int fe), .val (.int ab), .val (.int rm), .val (.int sel), .val (.int fq), .val (.ref b33), .val (.int (1 : Int32)), .val (.int (0 : Int32))]) rfl ?_
              exact kt
            refine ⟨T63, _, N63, X63, rfl, fun tt kt => pre74 tt ?_⟩
            rw [show ex = (0 : Int32) from hex.trans (if_neg (fun q => q.1.elim c187_69 (fun r => c199_72 r.2)))] at kt
            exact kt
      have pre75 : ∀ tt, Steps p.tables e below (T67.setTop (mkF m 221 #[.val (.int p1), .val (.int p2), .val (.int p3), .val (.int p4), .val (.int p5), .val (.int p6), .val (.int n1), .val (.int fa), .val (.int fb), .val (.int fr), .val (.int fe), .val (.int ab), .val (.int rm), .val (.int sel), .val (.int fq), .val (.ref b33), .val (.int (1 : Int32)), .val (.int ex)] [])) tt → Steps p.tables e below (s₁.setTop (entryFrame m #[(.int p1), (.int p2), (.int p3), (.int p4), (.int p5), (.int p6)] maxLocals)) tt := by
        intro tt kt
        refine pre66 tt ?_
        show Steps p.tables e below (T63.setTop (mkF m 183 #[.val (.int p1), .val (.int p2), .val (.int p3), .val (.int p4), .val (.int p5), .val (.int p6), .val (.int n1), .val (.int fa), .val (.int fb), .val (.int fr), .val (.int fe), .val (.int ab), .val (.int rm), .val (.int sel), .val (.int fq), .val (.ref b33), .val (.int (1 : Int32)), .unset] [])) _
        refine st67 _ ?_
        exact kt
      have hM : own_M u0_63 u1_63 u2_63 u3_63 fq ↔ ((fq = fa ∨ (¬ (ab = (0 : Int32)) ∧ fq = fb)) ∧ ¬ (¬ (rm = (0 : Int32)) ∧ fq = fr)) := by
        rw [own_Madd hn r_fb r_fq hu0_63 hu1_63 hu2_63 hu3_63, own_Madd hn r_fa r_fq hu0_36 hu1_36 hu2_36 hu3_36]
        have key : ∀ M A B C : Prop, ¬ M → ((B ∨ (A ∨ M)) ↔ (A ∨ B)) := by
          intro M A B C m
          by_cases hA : A <;> by_cases hB : B <;> by_cases hC : C <;> simp [hA, hB, hC, m]
        have e2 : (((fq = fa ∨ (¬ (ab = (0 : Int32)) ∧ fq = fb)) ∧ ¬ (¬ (rm = (0 : Int32)) ∧ fq = fr))) ↔ ((fq = fa) ∨ (fq = fb)) := by simp [c159_38, c171_65]
        exact (key _ (fq = fa) (fq = fb) (fq = fr) (own_M0 fq)).trans e2.symm
      obtain ⟨cq76, kq76, q76a, q76b, q76c⟩ := isOf hZ e67 Ea63
      obtain ⟨_, _, ⟨T76, L76, k76, n76⟩, -, X76, ⟨Lc76, hQ76, l76, y76, z76⟩, st76⟩ := X67.virtualBack hx (y := (⟨"com/example/phase7/phase7/metadata/FieldSet", "contains", "(I)Z"⟩ : MethodName)) (z := (⟨"com/example/phase7/phase7/metadata/FieldSet", "contains", "(I)Z"⟩ : MethodName)) hown (mvT hZ (hw _ (List.mem_of_getElem? (i := 14) rfl))) (mvT hZ (hw _ (List.mem_of_getElem? (i := 15) rfl))) (notFace_of_selects (args := #[]) (mvT hZ (hw _ (List.mem_of_getElem? (i := 17) rfl)))) (mvT hZ (hw _ (List.mem_of_getElem? (i := 17) rfl))) (mvT hZ (hw _ (List.mem_of_getElem? (i := 16) rfl))) (by decide) (backOf (W := 0) (rmH l Z a0 hw [] b33 b34 kb34 fq (fq / (64 : Int32)) z34 ex u0_63 u1_63 u2_63 u3_63 T63.heap n0 (Nat.le_trans (Nat.le_trans (Nat.le_trans (Nat.le_trans Z0 E33.1) K34.1) K36.1) K63.1) Ea63 Ff63 Fg63 Vb63 hne34 (own_fr hn r_fq).1 rfl (own_fr hn r_fq).2.1 z_fq (own_hasM hM hex)) hZ (hw _ (List.mem_of_getElem? (i := 18) rfl)) (hw _ (List.mem_of_getElem? (i := 3) rfl)) (by decide) (by decide)) q76a q76c (g := (mkF m 230 #[.val (.int p1), .val (.int p2), .val (.int p3), .val (.int p4), .val (.int p5), .val (.int p6), .val (.int n1), .val (.int fa), .val (.int fb), .val (.int fr), .val (.int fe), .val (.int ab), .val (.int rm), .val (.int sel), .val (.int fq), .val (.ref b33), .val (.int (1 : Int32)), .val (.int ex)] [(.int fq), (.ref b33)])) rfl (by rw [hml]; rfl) (Steps.refl _) (argsL := [(.int fq)]) (rest := []) (lenOf pd_rm0_1 rfl) rfl (by show 2 * 0 + _ ≤ _; exact Nat.le_of_eq rfl) (hb hby at_230) (fun _ _ => ⟨rfl, e67, (by decide : 2 + 0 ≤ _), (by decide : 5 + 0 ≤ _)⟩)
      dsimp only [Pt.U, Pt.locs, Pt.cells, Pt.slots] at X76 l76 y76 z76 st76 hQ76
      subst l76 y76 z76
      obtain ⟨rfl, N76q, hE76⟩ := hQ76
      have N76 := Fr.app N67 N76q
      have pre77 : ∀ tt, Steps p.tables e below (T76.setTop (mkF m 243 #[.val (.int p1), .val (.int p2), .val (.int p3), .val (.int p4), .val (.int p5), .val (.int p6), .val (.int n1), .val (.int fa), .val (.int fb), .val (.int fr), .val (.int fe), .val (.int ab), .val (.int rm), .val (.int sel), .val (.int fq), .val (.ref b33), .val (.int (1 : Int32)), .val (.int ex)] [(.int (1 : Int32))])) tt → Steps p.tables e below (s₁.setTop (entryFrame m #[(.int p1), (.int p2), (.int p3), (.int p4), (.int p5), (.int p6)] maxLocals)) tt := by
        intro tt kt
        refine pre75 tt ?_
        show Steps p.tables e below (T67.setTop (mkF m 221 #[.val (.int p1), .val (.int p2), .val (.int p3), .val (.int p4), .val (.int p5), .val (.int p6), .val (.int n1), .val (.int fa), .val (.int fb), .val (.int fr), .val (.int fe), .val (.int ab), .val (.int rm), .val (.int sel), .val (.int fq), .val (.ref b33), .val (.int (1 : Int32)), .val (.int ex)] [])) _
        refine XS.iload X67.here hx rfl (hb hby at_221) rfl ?_
        show Steps p.tables e below (T67.setTop (mkF m 223 #[.val (.int p1), .val (.int p2), .val (.int p3), .val (.int p4), .val (.int p5), .val (.int p6), .val (.int n1), .val (.int fa), .val (.int fb), .val (.int fr), .val (.int fe), .val (.int ab), .val (.int rm), .val (.int sel), .val (.int fq), .val (.ref b33), .val (.int (1 : Int32)), .val (.int ex)] [(.int (1 : Int32))])) _
        refine XS.ifNo X67.here hx rfl (hb hby at_223) rfl ((if0 _ _).trans (feq (by decide : ¬ ((1 : Int32) = (0 : Int32)))).1) ?_
        show Steps p.tables e below (T67.setTop (mkF m 226 #[.val (.int p1), .val (.int p2), .val (.int p3), .val (.int p4), .val (.int p5), .val (.int p6), .val (.int n1), .val (.int fa), .val (.int fb), .val (.int fr), .val (.int fe), .val (.int ab), .val (.int rm), .val (.int sel), .val (.int fq), .val (.ref b33), .val (.int (1 : Int32)), .val (.int ex)] [])) _
        refine XS.aload X67.here hx rfl (hb hby at_226) rfl rfl ?_
        show Steps p.tables e below (T67.setTop (mkF m 228 #[.val (.int p1), .val (.int p2), .val (.int p3), .val (.int p4), .val (.int p5), .val (.int p6), .val (.int n1), .val (.int fa), .val (.int fb), .val (.int fr), .val (.int fe), .val (.int ab), .val (.int rm), .val (.int sel), .val (.int fq), .val (.ref b33), .val (.int (1 : Int32)), .val (.int ex)] [(.ref b33)])) _
        refine XS.iload X67.here hx rfl (hb hby at_228) rfl ?_
        show Steps p.tables e below (T67.setTop (mkF m 230 #[.val (.int p1), .val (.int p2), .val (.int p3), .val (.int p4), .val (.int p5), .val (.int p6), .val (.int n1), .val (.int fa), .val (.int fb), .val (.int fr), .val (.int fe), .val (.int ab), .val (.int rm), .val (.int sel), .val (.int fq), .val (.ref b33), .val (.int (1 : Int32)), .val (.int ex)] [(.int fq), (.ref b33)])) _
        refine st76.trans ?_
        show Steps p.tables e below (T76.setTop (mkF m 233 #[.val (.int p1), .val (.int p2), .val (.int p3), .val (.int p4), .val (.int p5), .val (.int p6), .val (.int n1), .val (.int fa), .val (.int fb), .val (.int fr), .val (.int fe), .val (.int ab), .val (.int rm), .val (.int sel), .val (.int fq), .val (.ref b33), .val (.int (1 : Int32)), .val (.int ex)] [(.int ex)])) _
        refine XS.iload X76.here hx rfl (hb hby at_233) rfl ?_
        show Steps p.tables e below (T76.setTop (mkF m 235 #[.val (.int p1), .val (.int p2), .val (.int p3), .val (.int p4), .val (.int p5), .val (.int p6), .val (.int n1), .val (.int fa), .val (.int fb), .val (.int fr), .val (.int fe), .val (.int ab), .val (.int rm), .val (.int sel), .val (.int fq), .val (.ref b33), .val (.int (1 : Int32)), .val (.int ex)] [(.int ex), (.int ex)])) _
        refine XS.icmpNo X76.here hx rfl (hb hby at_235) rfl (teq (rfl : ex = ex)).2 ?_
        show Steps p.tables e below (T76.setTop (mkF m 238 #[.val (.int p1), .val (.int p2), .val (.int p3), .val (.int p4), .val (.int p5), .val (.int p6), .val (.int n1), .val (.int fa), .val (.int fb), .val (.int fr), .val (.int fe), .val (.int ab), .val (.int rm), .val (.int sel), .val (.int fq), .val (.ref b33), .val (.int (1 : Int32)), .val (.int ex)] [])) _
        refine XS.iconst X76.here hx rfl (hb hby at_238) ?_
        show Steps p.tables e below (T76.setTop (mkF m 239 #[.val (.int p1), .val (.int p2), .val (.int p3), .val (.int p4), .val (.int p5), .val (.int p6), .val (.int n1), .val (.int fa), .val (.int fb), .val (.int fr), .val (.int fe), .val (.int ab), .val (.int rm), .val (.int sel), .val (.int fq), .val (.ref b33), .val (.int (1 : Int32)), .val (.int ex)] [(.int (1 : Int32))])) _
        refine XS.goto X76.here hx rfl (pc0 := 239) (pc' := 243) rfl (hb hby at_239) (by decide) (by decide) ?_
        exact kt
      obtain ⟨fs, hr, hrun, hended, hW, hsame⟩ := X76.leave (v := some (.int (1 : Int32))) (fun h => by rw [Bd.returns] at h; cases h)
      refine ⟨_, _, pre77 _ ?_, hrun, hended, _, _, rfl, ?_, ⟨_, rfl⟩, hW, hsame.mono (by decide) (by decide)⟩
      · show Steps p.tables e below (T76.setTop (mkF m 243 #[.val (.int p1), .val (.int p2), .val (.int p3), .val (.int p4), .val (.int p5), .val (.int p6), .val (.int n1), .val (.int fa), .val (.int fb), .val (.int fr), .val (.int fe), .val (.int ab), .val (.int rm), .val (.int sel), .val (.int fq), .val (.ref b33), .val (.int (1 : Int32)), .val (.int ex)] [(.int (1 : Int32))])) _
        exact retN X76 hx (t := .boolean) Bd.returns (by simp) (hb hby at_243) hr
      · show Q0 Z h0 n0 _ T76.heap _
        rw [hE76]
        exact ⟨rfl, N76⟩
    · have z_fr : (fr / (64 : Int32)).toInt ≤ z34.toInt := by
        have q1 := (own_fr hn r_fr).2.2
        have q2 := hz34
        have q3 := r_fr
        omega
      obtain ⟨u0_78, hu0_78⟩ : ∃ z : Int64, z = if fr / (64 : Int32) = 0 then (u0_63 &&& (((1 : Int64) <<< (fr &&& 0x3f).toInt64) ^^^ (-1 : Int64))) else u0_63 := ⟨_, rfl⟩
      obtain ⟨u1_78, hu1_78⟩ : ∃ z : Int64, z = if fr / (64 : Int32) = 1 then (u1_63 &&& (((1 : Int64) <<< (fr &&& 0x3f).toInt64) ^^^ (-1 : Int64))) else u1_63 := ⟨_, rfl⟩
      obtain ⟨u2_78, hu2_78⟩ : ∃ z : Int64, z = if fr / (64 : Int32) = 2 then (u2_63 &&& (((1 : Int64) <<< (fr &&& 0x3f).toInt64) ^^^ (-1 : Int64))) else u2_63 := ⟨_, rfl⟩
      obtain ⟨u3_78, hu3_78⟩ : ∃ z : Int64, z = if fr / (64 : Int32) = 3 then (u3_63 &&& (((1 : Int64) <<< (fr &&& 0x3f).toInt64) ^^^ (-1 : Int64))) else u3_63 := ⟨_, rfl⟩
      obtain ⟨cq78, kq78, q78a, q78b, q78c⟩ := isOf hZ rfl Ea63
      obtain ⟨_, _, ⟨T78, L78, k78, n78⟩, -, X78, ⟨Lc78, hQ78, l78, y78, z78⟩, st78⟩ := X63.virtualBack hx (y := (⟨"com/example/phase7/phase7/metadata/FieldSet", "remove", "(I)V"⟩ : MethodName)) (z := (⟨"com/example/phase7/phase7/metadata/FieldSet", "remove", "(I)V"⟩ : MethodName)) hown (mvT hZ (hw _ (List.mem_of_getElem? (i := 26) rfl))) (mvT hZ (hw _ (List.mem_of_getElem? (i := 27) rfl))) (notFace_of_selects (args := #[]) (mvT hZ (hw _ (List.mem_of_getElem? (i := 29) rfl)))) (mvT hZ (hw _ (List.mem_of_getElem? (i := 29) rfl))) (mvT hZ (hw _ (List.mem_of_getElem? (i := 28) rfl))) (by decide) (backOf (W := 0) (rmR l Z a0 hw [] b33 b34 kb34 fr (fr / (64 : Int32)) z34 u0_63 u1_63 u2_63 u3_63 u0_78 u1_78 u2_78 u3_78 T63.heap n0 (Nat.le_trans (Nat.le_trans (Nat.le_trans (Nat.le_trans Z0 E33.1) K34.1) K36.1) K63.1) Ea63 Ff63 Fg63 Vb63 hne34 (own_fr hn r_fr).1 rfl (own_fr hn r_fr).2.1 z_fr g_b33 gz34 hu0_78 hu1_78 hu2_78 hu3_78) hZ (hw _ (List.mem_of_getElem? (i := 30) rfl)) (hw _ (List.mem_of_getElem? (i := 3) rfl)) (by decide) (by decide)) q78a q78c (g := (mkF m 180 #[.val (.int p1), .val (.int p2), .val (.int p3), .val (.int p4), .val (.int p5), .val (.int p6), .val (.int n1), .val (.int fa), .val (.int fb), .val (.int fr), .val (.int fe), .val (.int ab), .val (.int rm), .val (.int sel), .val (.int fq), .val (.ref b33), .val (.int (1 : Int32)), .unset] [(.int fr), (.ref b33)])) rfl (by rw [hml]; rfl) (Steps.refl _) (argsL := [(.int fr)]) (rest := []) (lenOf pd_rm0_0 rfl) rfl (by show 2 * 0 + _ ≤ _; exact Nat.le_of_eq rfl) (hb hby at_180) (fun _ _ => ⟨rfl, rfl, (by decide : 2 + 0 ≤ _), (by decide : 5 + 0 ≤ _)⟩)
      dsimp only [Pt.U, Pt.locs, Pt.cells, Pt.slots] at X78 l78 y78 z78 st78 hQ78
      subst l78 y78 z78
      obtain ⟨rfl, N78q, K78, Ea78, Ff78, Fg78, Vb78⟩ := hQ78
      have N78 := Fr.app N63 N78q
      obtain ⟨ex, hex⟩ : ∃ z : Int32, z = if ((fq = fa ∨ (¬ (ab = (0 : Int32)) ∧ fq = fb)) ∧ ¬ (¬ (rm = (0 : Int32)) ∧ fq = fr)) then (1 : Int32) else 0 := ⟨_, rfl⟩
      have pre79 : ∀ tt, Steps p.tables e below (T78.setTop (mkF m 183 #[.val (.int p1), .val (.int p2), .val (.int p3), .val (.int p4), .val (.int p5), .val (.int p6), .val (.int n1), .val (.int fa), .val (.int fb), .val (.int fr), .val (.int fe), .val (.int ab), .val (.int rm), .val (.int sel), .val (.int fq), .val (.ref b33), .val (.int (1 : Int32)), .unset] [])) tt → Steps p.tables e below (s₁.setTop (entryFrame m #[(.int p1), (.int p2), (.int p3), (.int p4), (.int p5), (.int p6)] maxLocals)) tt := by
        intro tt kt
        refine pre64 tt ?_
        show Steps p.tables e below (T63.setTop (mkF m 171 #[.val (.int p1), .val (.int p2), .val (.int p3), .val (.int p4), .val (.int p5), .val (.int p6), .val (.int n1), .val (.int fa), .val (.int fb), .val (.int fr), .val (.int fe), .val (.int ab), .val (.int rm), .val (.int sel), .val (.int fq), .val (.ref b33), .val (.int (1 : Int32)), .unset] [])) _
        refine XS.iload X63.here hx rfl (hb hby at_171) rfl ?_
        show Steps p.tables e below (T63.setTop (mkF m 173 #[.val (.int p1), .val (.int p2), .val (.int p3), .val (.int p4), .val (.int p5), .val (.int p6), .val (.int n1), .val (.int fa), .val (.int fb), .val (.int fr), .val (.int fe), .val (.int ab), .val (.int rm), .val (.int sel), .val (.int fq), .val (.ref b33), .val (.int (1 : Int32)), .unset] [(.int rm)])) _
        refine XS.ifNo X63.here hx rfl (hb hby at_173) rfl ((if0 _ _).trans (feq c171_65).1) ?_
        show Steps p.tables e below (T63.setTop (mkF m 176 #[.val (.int p1), .val (.int p2), .val (.int p3), .val (.int p4), .val (.int p5), .val (.int p6), .val (.int n1), .val (.int fa), .val (.int fb), .val (.int fr), .val (.int fe), .val (.int ab), .val (.int rm), .val (.int sel), .val (.int fq), .val (.ref b33), .val (.int (1 : Int32)), .unset] [])) _
        refine XS.aload X63.here hx rfl (hb hby at_176) rfl rfl ?_
        show Steps p.tables e below (T63.setTop (mkF m 178 #[.val (.int p1), .val (.int p2), .val (.int p3), .val (.int p4), .val (.int p5), .val (.int p6), .val (.int n1), .val (.int fa), .val (.int fb), .val (.int fr), .val (.int fe), .val (.int ab), .val (.int rm), .val (.int sel), .val (.int fq), .val (.ref b33), .val (.int (1 : Int32)), .unset] [(.ref b33)])) _
        refine XS.iload X63.here hx rfl (hb hby at_178) rfl ?_
        show Steps p.tables e below (T63.setTop (mkF m 180 #[.val (.int p1), .val (.int p2), .val (.int p3), .val (.int p4), .val (.int p5), .val (.int p6), .val (.int n1), .val (.int fa), .val (.int fb), .val (.int fr), .val (.int fe), .val (.int ab), .val (.int rm), .val (.int sel), .val (.int fq), .val (.ref b33), .val (.int (1 : Int32)), .unset] [(.int fr), (.ref b33)])) _
        refine st78.trans ?_
        exact kt
      obtain ⟨T80, L80, N80, X80, e80, st80⟩ : ∃ (T' : State) (L' : List Loc), Fr n0 L' ∧ Stand p l e room_1 s m #[(.int p1), (.int p2), (.int p3), (.int p4), (.int p5), (.int p6)] below meth c T' L' 2 5 ∧ T'.heap = T78.heap ∧ ∀ tt, Steps p.tables e below (T'.setTop (mkF m 221 #[.val (.int p1), .val (.int p2), .val (.int p3), .val (.int p4), .val (.int p5), .val (.int p6), .val (.int n1), .val (.int fa), .val (.int fb), .val (.int fr), .val (.int fe), .val (.int ab), .val (.int rm), .val (.int sel), .val (.int fq), .val (.ref b33), .val (.int (1 : Int32)), .val (.int ex)] [])) tt → Steps p.tables e below (T78.setTop (mkF m 183 #[.val (.int p1), .val (.int p2), .val (.int p3), .val (.int p4), .val (.int p5), .val (.int p6), .val (.int n1), .val (.int fa), .val (.int fb), .val (.int fr), .val (.int fe), .val (.int ab), .val (.int rm), .val (.int sel), .val (.int fq), .val (.ref b33), .val (.int (1 : Int32)), .unset] [])) tt := by
        have pid80 : ∀ tt, Steps p.tables e below (T78.setTop (mkF m 183 #[.val (.int p1), .val (.int p2), .val (.int p3), .val (.int p4), .val (.int p5), .val (.int p6), .val (.int n1), .val (.int fa), .val (.int fb), .val (.int fr), .val (.int fe), .val (.int ab), .val (.int rm), .val (.int sel), .val (.int fq), .val (.ref b33), .val (.int (1 : Int32)), .unset] [])) tt → Steps p.tables e below (T78.setTop (mkF m 183 #[.val (.int p1), .val (.int p2), .val (.int p3), .val (.int p4), .val (.int p5), .val (.int p6), .val (.int n1), .val (.int fa), .val (.int fb), .val (.int fr), .val (.int fe), .val (.int ab), .val (.int rm), .val (.int sel), .val (.int fq), .val (.ref b33), .val (.int (1 : Int32)), .unset] [])) tt := fun tt kt => kt
        have pre81 : ∀ tt, Steps p.tables e below (T78.setTop (mkF m 187 #[.val (.int p1), .val (.int p2), .val (.int p3), .val (.int p4), .val (.int p5), .val (.int p6), .val (.int n1), .val (.int fa), .val (.int fb), .val (.int fr), .val (.int fe), .val (.int ab), .val (.int rm), .val (.int sel), .val (.int fq), .val (.ref b33), .val (.int (1 : Int32)), .unset] [(.int fa), (.int fq)])) tt → Steps p.tables e below (T78.setTop (mkF m 183 #[.val (.int p1), .val (.int p2), .val (.int p3), .val (.int p4), .val (.int p5), .val (.int p6), .val (.int n1), .val (.int fa), .val (.int fb), .val (.int fr), .val (.int fe), .val (.int ab), .val (.int rm), .val (.int sel), .val (.int fq), .val (.ref b33), .val (.int (1 : Int32)), .unset] [])) tt := by
          intro tt kt
          refine pid80 tt ?_
          show Steps p.tables e below (T78.setTop (mkF m 183 #[.val (.int p1), .val (.int p2), .val (.int p3), .val (.int p4), .val (.int p5), .val (.int p6), .val (.int n1), .val (.int fa), .val (.int fb), .val (.int fr), .val (.int fe), .val (.int ab), .val (.int rm), .val (.int sel), .val (.int fq), .val (.ref b33), .val (.int (1 : Int32)), .unset] [])) _
          refine XS.iload X78.here hx rfl (hb hby at_183) rfl ?_
          show Steps p.tables e below (T78.setTop (mkF m 185 #[.val (.int p1), .val (.int p2), .val (.int p3), .val (.int p4), .val (.int p5), .val (.int p6), .val (.int n1), .val (.int fa), .val (.int fb), .val (.int fr), .val (.int fe), .val (.int ab), .val (.int rm), .val (.int sel), .val (.int fq), .val (.ref b33), .val (.int (1 : Int32)), .unset] [(.int fq)])) _
          refine XS.iload X78.here hx rfl (hb hby at_185) rfl ?_
          exact kt
        by_cases c187_82 : fq = fa
        · have pre83 : ∀ tt, Steps p.tables e below (T78.setTop (mkF m 211 #[.val (.int p1), .val (.int p2), .val (.int p3), .val (.int p4), .val (.int p5), .val (.int p6), .val (.int n1), .val (.int fa), .val (.int fb), .val (.int fr), .val (.int fe), .val (.int ab), .val (.int rm), .val (.int sel), .val (.int fq), .val (.ref b33), .val (.int (1 : Int32)), .unset] [(.int fr), (.int fq)])) tt → Steps p.tables e below (T78.setTop (mkF m 183 #[.val (.int p1), .val (.int p2), .val (.int p3), .val (.int p4), .val (.int p5), .val (.int p6), .val (.int n1), .val (.int fa), .val (.int fb), .val (.int fr), .val (.int fe), .val (.int ab), .val (.int rm), .val (.int sel), .val (.int fq), .val (.ref b33), .val (.int (1 : Int32)), .unset] [])) tt := by
            intro tt kt
            refine pre81 tt ?_
            show Steps p.tables e below (T78.setTop (mkF m 187 #[.val (.int p1), .val (.int p2), .val (.int p3), .val (.int p4), .val (.int p5), .val (.int p6), .val (.int n1), .val (.int fa), .val (.int fb), .val (.int fr), .val (.int fe), .val (.int ab), .val (.int rm), .val (.int sel), .val (.int fq), .val (.ref b33), .val (.int (1 : Int32)), .unset] [(.int fa), (.int fq)])) _
            refine XS.icmpYes X78.here hx rfl (pc0 := 187) (pc' := 202) rfl (hb hby at_187) rfl (teq c187_82).1 (by decide) (by decide) ?_
            show Steps p.tables e below (T78.setTop (mkF m 202 #[.val (.int p1), .val (.int p2), .val (.int p3), .val (.int p4), .val (.int p5), .val (.int p6), .val (.int n1), .val (.int fa), .val (.int fb), .val (.int fr), .val (.int fe), .val (.int ab), .val (.int rm), .val (.int sel), .val (.int fq), .val (.ref b33), .val (.int (1 : Int32)), .unset] [])) _
            refine XS.iload X78.here hx rfl (hb hby at_202) rfl ?_
            show Steps p.tables e below (T78.setTop (mkF m 204 #[.val (.int p1), .val (.int p2), .val (.int p3), .val (.int p4), .val (.int p5), .val (.int p6), .val (.int n1), .val (.int fa), .val (.int fb), .val (.int fr), .val (.int fe), .val (.int ab), .val (.int rm), .val (.int sel), .val (.int fq), .val (.ref b33), .val (.int (1 : Int32)), .unset] [(.int rm)])) _
            refine XS.ifNo X78.here hx rfl (hb hby at_204) rfl ((if0 _ _).trans (feq c171_65).1) ?_
            show Steps p.tables e below (T78.setTop (mkF m 207 #[.val (.int p1), .val (.int p2), .val (.int p3), .val (.int p4), .val (.int p5), .val (.int p6), .val (.int n1), .val (.int fa), .val (.int fb), .val (.int fr), .val (.int fe), .val (.int ab), .val (.int rm), .val (.int sel), .val (.int fq), .val (.ref b33), .val (.int (1 : Int32)), .unset] [])) _
            refine XS.iload X78.here hx rfl (hb hby at_207) rfl ?_
            show Steps p.tables e below (T78.setTop (mkF m 209 #[.val (.int p1), .val (.int p2), .val (.int p3), .val (.int p4), .val (.int p5), .val (.int p6), .val (.int n1), .val (.int fa), .val (.int fb), .val (.int fr), .val (.int fe), .val (.int ab), .val (.int rm), .val (.int sel), .val (.int fq), .val (.ref b33), .val (.int (1 : Int32)), .unset] [(.int fq)])) _
            refine XS.iload X78.here hx rfl (hb hby at_209) rfl ?_
            exact kt
          by_cases c211_84 : fq = fr
          · have pre85 : ∀ tt, Steps p.tables e below (T78.setTop (mkF m 221 #[.val (.int p1), .val (.int p2), .val (.int p3), .val (.int p4), .val (.int p5), .val (.int p6), .val (.int n1), .val (.int fa), .val (.int fb), .val (.int fr), .val (.int fe), .val (.int ab), .val (.int rm), .val (.int sel), .val (.int fq), .val (.ref b33), .val (.int (1 : Int32)), .val (.int (0 : Int32))] [])) tt → Steps p.tables e below (T78.setTop (mkF m 183 #[.val (.int p1), .val (.int p2), .val (.int p3), .val (.int p4), .val (.int p5), .val (.int p6), .val (.int n1), .val (.int fa), .val (.int fb), .val (.int fr), .val (.int fe), .val (.int ab), .val (.int rm), .val (.int sel), .val (.int fq), .val (.ref b33), .val (.int (1 : Int32)), .unset] [])) tt := by
              intro tt kt
              refine pre83 tt ?_
              show Steps p.tables e below (T78.setTop (mkF m 211 #[.val (.int p1), .val (.int p2), .val (.int p3), .val (.int p4), .val (.int p5), .val (.int p6), .val (.int n1), .val (.int fa), .val (.int fb), .val (.int fr), .val (.int fe), .val (.int ab), .val (.int rm), .val (.int sel), .val (.int fq), .val (.ref b33), .val (.int (1 : Int32)), .unset] [(.int fr), (.int fq)])) _
              refine XS.icmpYes X78.here hx rfl (pc0 := 211) (pc' := 218) rfl (hb hby at_211) rfl (teq c211_84).1 (by decide) (by decide) ?_
              show Steps p.tables e below (T78.setTop (mkF m 218 #[.val (.int p1), .val (.int p2), .val (.int p3), .val (.int p4), .val (.int p5), .val (.int p6), .val (.int n1), .val (.int fa), .val (.int fb), .val (.int fr), .val (.int fe), .val (.int ab), .val (.int rm), .val (.int sel), .val (.int fq), .val (.ref b33), .val (.int (1 : Int32)), .unset] [])) _
              refine XS.iconst X78.here hx rfl (hb hby at_218) ?_
              show Steps p.tables e below (T78.setTop (mkF m 219 #[.val (.int p1), .val (.int p2), .val (.int p3), .val (.int p4), .val (.int p5), .val (.int p6), .val (.int n1), .val (.int fa), .val (.int fb), .val (.int fr), .val (.int fe), .val (.int ab), .val (.int rm), .val (.int sel), .val (.int fq), .val (.ref b33), .val (.int (1 : Int32)), .unset] [(.int (0 : Int32))])) _
              refine XS.istore X78.here hx rfl (hb hby at_219) rfl (l' := #[.val (.int p1), .val (.int p2), .val (.int p3), .val (.int p4), .val (.int p5), .val (.int p6), .val (.int n1), .val (.int fa), .val (.int fb), .val (.int fr), .val (.int fe), .val (.int ab), .val (.int rm), .val (.int sel), .val (.int fq), .val (.ref b33), .val (.int (1 : Int32)), .val (.int (0 : Int32))]) rfl ?_
              exact kt
            refine ⟨T78, _, N78, X78, rfl, fun tt kt => pre85 tt ?_⟩
            rw [show ex = (0 : Int32) from hex.trans (if_neg (fun q => q.2 ⟨c171_65, c211_84⟩))] at kt
            exact kt
          · have pre86 : ∀ tt, Steps p.tables e below (T78.setTop (mkF m 221 #[.val (.int p1), .val (.int p2), .val (.int p3), .val (.int p4), .val (.int p5), .val (.int p6), .val (.int n1), .val (.int fa), .val (.int fb), .val (.int fr), .val (.int fe), .val (.int ab), .val (.int rm), .val (.int sel), .val (.int fq), .val (.ref b33), .val (.int (1 : Int32)), .val (.int (1 : Int32))] [])) tt → Steps p.tables e below (T78.setTop (mkF m 183 #[.val (.int p1), .val (.int p2), .val (.int p3), .val (.int p4), .val (.int p5), .val (.int p6), .val (.int n1), .val (.int fa), .val (.int fb), .val (.int fr), .val (.int fe), .val (.int ab), .val (.int rm), .val (.int sel), .val (.int fq), .val (.ref b33), .val (.int (1 : Int32)), .unset] [])) tt := by
              intro tt kt
              refine pre83 tt ?_
              show Steps p.tables e below (T78.setTop (mkF m 211 #[.val (.int p1), .val (.int p2), .val (.int p3), .val (.int p4), .val (.int p5), .val (.int p6), .val (.int n1), .val (.int fa), .val (.int fb), .val (.int fr), .val (.int fe), .val (.int ab), .val (.int rm), .val (.int sel), .val (.int fq), .val (.ref b33), .val (.int (1 : Int32)), .unset] [(.int fr), (.int fq)])) _
              refine XS.icmpNo X78.here hx rfl (hb hby at_211) rfl (feq c211_84).1 ?_
              show Steps p.tables e below (T78.setTop (mkF m 214 #[.val (.int p1), .val (.int p2), .val (.int p3), .val (.int p4), .val (.int p5), .val (.int p6), .val (.int n1), .val (.int fa), .val (.int fb), .val (.int fr), .val (.int fe), .val (.int ab), .val (.int rm), .val (.int sel), .val (.int fq), .val (.ref b33), .val (.int (1 : Int32)), .unset] [])) _
              refine XS.iconst X78.here hx rfl (hb hby at_214) ?_
              show Steps p.tables e below (T78.setTop (mkF m 215 #[.val (.int p1), .val (.int p2), .val (.int p3), .val (.int p4), .val (.int p5), .val (.int p6), .val (.int n1), .val (.int fa), .val (.int fb), .val (.int fr), .val (.int fe), .val (.int ab), .val (.int rm), .val (.int sel), .val (.int fq), .val (.ref b33), .val (.int (1 : Int32)), .unset] [(.int (1 : Int32))])) _
              refine XS.goto X78.here hx rfl (pc0 := 215) (pc' := 219) rfl (hb hby at_215) (by decide) (by decide) ?_
              show Steps p.tables e below (T78.setTop (mkF m 219 #[.val (.int p1), .val (.int p2), .val (.int p3), .val (.int p4), .val (.int p5), .val (.int p6), .val (.int n1), .val (.int fa), .val (.int fb), .val (.int fr), .val (.int fe), .val (.int ab), .val (.int rm), .val (.int sel), .val (.int fq), .val (.ref b33), .val (.int (1 : Int32)), .unset] [(.int (1 : Int32))])) _
              refine XS.istore X78.here hx rfl (hb hby at_219) rfl (l' := #[.val (.int p1), .val (.int p2), .val (.int p3), .val (.int p4), .val (.int p5), .val (.int p6), .val (.int n1), .val (.int fa), .val (.int fb), .val (.int fr), .val (.int fe), .val (.int ab), .val (.int rm), .val (.int sel), .val (.int fq), .val (.ref b33), .val (.int (1 : Int32)), .val (.int (1 : Int32))]) rfl ?_
              exact kt
            refine ⟨T78, _, N78, X78, rfl, fun tt kt => pre86 tt ?_⟩
            rw [show ex = (1 : Int32) from hex.trans (if_pos ⟨Or.inl c187_82, fun q => c211_84 q.2⟩)] at kt
            exact kt
        · have pre87 : ∀ tt, Steps p.tables e below (T78.setTop (mkF m 199 #[.val (.int p1), .val (.int p2), .val (.int p3), .val (.int p4), .val (.int p5), .val (.int p6), .val (.int n1), .val (.int fa), .val (.int fb), .val (.int fr), .val (.int fe), .val (.int ab), .val (.int rm), .val (.int sel), .val (.int fq), .val (.ref b33), .val (.int (1 : Int32)), .unset] [(.int fb), (.int fq)])) tt → Steps p.tables e below (T78.setTop (mkF m 183 #[.val (.int p1), .val (.int p2), .val (.int p3), .val (.int p4), .val (.int p5), .val (.int p6), .val (.int n1), .val (.int fa), .val (.int fb), .val (.int fr), .val (.int fe), .val (.int ab), .val (.int rm), .val (.int sel), .val (.int fq), .val (.ref b33), .val (.int (1 : Int32)), .unset] [])) tt := by
            intro tt kt
            refine pre81 tt ?_
            show Steps p.tables e below (T78.setTop (mkF m 187 #[.val (.int p1), .val (.int p2), .val (.int p3), .val (.int p4), .val (.int p5), .val (.int p6), .val (.int n1), .val (.int fa), .val (.int fb), .val (.int fr), .val (.int fe), .val (.int ab), .val (.int rm), .val (.int sel), .val (.int fq), .val (.ref b33), .val (.int (1 : Int32)), .unset] [(.int fa), (.int fq)])) _
            refine XS.icmpNo X78.here hx rfl (hb hby at_187) rfl (feq c187_82).1 ?_
            show Steps p.tables e below (T78.setTop (mkF m 190 #[.val (.int p1), .val (.int p2), .val (.int p3), .val (.int p4), .val (.int p5), .val (.int p6), .val (.int n1), .val (.int fa), .val (.int fb), .val (.int fr), .val (.int fe), .val (.int ab), .val (.int rm), .val (.int sel), .val (.int fq), .val (.ref b33), .val (.int (1 : Int32)), .unset] [])) _
            refine XS.iload X78.here hx rfl (hb hby at_190) rfl ?_
            show Steps p.tables e below (T78.setTop (mkF m 192 #[.val (.int p1), .val (.int p2), .val (.int p3), .val (.int p4), .val (.int p5), .val (.int p6), .val (.int n1), .val (.int fa), .val (.int fb), .val (.int fr), .val (.int fe), .val (.int ab), .val (.int rm), .val (.int sel), .val (.int fq), .val (.ref b33), .val (.int (1 : Int32)), .unset] [(.int ab)])) _
            refine XS.ifNo X78.here hx rfl (hb hby at_192) rfl ((if0 _ _).trans (feq c159_38).1) ?_
            show Steps p.tables e below (T78.setTop (mkF m 195 #[.val (.int p1), .val (.int p2), .val (.int p3), .val (.int p4), .val (.int p5), .val (.int p6), .val (.int n1), .val (.int fa), .val (.int fb), .val (.int fr), .val (.int fe), .val (.int ab), .val (.int rm), .val (.int sel), .val (.int fq), .val (.ref b33), .val (.int (1 : Int32)), .unset] [])) _
            refine XS.iload X78.here hx rfl (hb hby at_195) rfl ?_
            show Steps p.tables e below (T78.setTop (mkF m 197 #[.val (.int p1), .val (.int p2), .val (.int p3), .val (.int p4), .val (.int p5), .val (.int p6), .val (.int n1), .val (.int fa), .val (.int fb), .val (.int fr), .val (.int fe), .val (.int ab), .val (.int rm), .val (.int sel), .val (.int fq), .val (.ref b33), .val (.int (1 : Int32)), .unset] [(.int fq)])) _
            refine XS.iload X78.here hx rfl (hb hby at_197) rfl ?_
            exact kt
          by_cases c199_88 : fq = fb
          · have pre89 : ∀ tt, Steps p.tables e below (T78.setTop (mkF m 211 #[.val (.int p1), .val (.int p2), .val (.int p3), .val (.int p4), .val (.int p5), .val (.int p6), .val (.int n1), .val (.int fa), .val (.int fb), .val (.int fr), .val (.int fe), .val (.int ab), .val (.int rm), .val (.int sel), .val (.int fq), .val (.ref b33), .val (.int (1 : Int32)), .unset] [(.int fr), (.int fq)])) tt → Steps p.tables e below (T78.setTop (mkF m 183 #[.val (.int p1), .val (.int p2), .val (.int p3), .val (.int p4), .val (.int p5), .val (.int p6), .val (.int n1), .val (.int fa), .val (.int fb), .val (.int fr), .val (.int fe), .val (.int ab), .val (.int rm), .val (.int sel), .val (.int fq), .val (.ref b33), .val (.int (1 : Int32)), .unset] [])) tt := by
              intro tt kt
              refine pre87 tt ?_
              show Steps p.tables e below (T78.setTop (mkF m 199 #[.val (.int p1), .val (.int p2), .val (.int p3), .val (.int p4), .val (.int p5), .val (.int p6), .val (.int n1), .val (.int fa), .val (.int fb), .val (.int fr), .val (.int fe), .val (.int ab), .val (.int rm), .val (.int sel), .val (.int fq), .val (.ref b33), .val (.int (1 : Int32)), .unset] [(.int fb), (.int fq)])) _
              refine XS.icmpNo X78.here hx rfl (hb hby at_199) rfl (teq c199_88).2 ?_
              show Steps p.tables e below (T78.setTop (mkF m 202 #[.val (.int p1), .val (.int p2), .val (.int p3), .val (.int p4), .val (.int p5), .val (.int p6), .val (.int n1), .val (.int fa), .val (.int fb), .val (.int fr), .val (.int fe), .val (.int ab), .val (.int rm), .val (.int sel), .val (.int fq), .val (.ref b33), .val (.int (1 : Int32)), .unset] [])) _
              refine XS.iload X78.here hx rfl (hb hby at_202) rfl ?_
              show Steps p.tables e below (T78.setTop (mkF m 204 #[.val (.int p1), .val (.int p2), .val (.int p3), .val (.int p4), .val (.int p5), .val (.int p6), .val (.int n1), .val (.int fa), .val (.int fb), .val (.int fr), .val (.int fe), .val (.int ab), .val (.int rm), .val (.int sel), .val (.int fq), .val (.ref b33), .val (.int (1 : Int32)), .unset] [(.int rm)])) _
              refine XS.ifNo X78.here hx rfl (hb hby at_204) rfl ((if0 _ _).trans (feq c171_65).1) ?_
              show Steps p.tables e below (T78.setTop (mkF m 207 #[.val (.int p1), .val (.int p2), .val (.int p3), .val (.int p4), .val (.int p5), .val (.int p6), .val (.int n1), .val (.int fa), .val (.int fb), .val (.int fr), .val (.int fe), .val (.int ab), .val (.int rm), .val (.int sel), .val (.int fq), .val (.ref b33), .val (.int (1 : Int32)), .unset] [])) _
              refine XS.iload X78.here hx rfl (hb hby at_207) rfl ?_
              show Steps p.tables e below (T78.setTop (mkF m 209 #[.val (.int p1), .val (.int p2), .val (.int p3), .val (.int p4), .val (.int p5), .val (.int p6), .val (.int n1), .val (.int fa), .val (.int fb), .val (.int fr), .val (.int fe), .val (.int ab), .val (.int rm), .val (.int sel), .val (.int fq), .val (.ref b33), .val (.int (1 : Int32)), .unset] [(.int fq)])) _
              refine XS.iload X78.here hx rfl (hb hby at_209) rfl ?_
              exact kt
            by_cases c211_90 : fq = fr
            · have pre91 : ∀ tt, Steps p.tables e below (T78.setTop (mkF m 221 #[.val (.int p1), .val (.int p2), .val (.int p3), .val (.int p4), .val (.int p5), .val (.int p6), .val (.int n1), .val (.int fa), .val (.int fb), .val (.int fr), .val (.int fe), .val (.int ab), .val (.int rm), .val (.int sel), .val (.int fq), .val (.ref b33), .val (.int (1 : Int32)), .val (.int (0 : Int32))] [])) tt → Steps p.tables e below (T78.setTop (mkF m 183 #[.val (.int p1), .val (.int p2), .val (.int p3), .val (.int p4), .val (.int p5), .val (.int p6), .val (.int n1), .val (.int fa), .val (.int fb), .val (.int fr), .val (.int fe), .val (.int ab), .val (.int rm), .val (.int sel), .val (.int fq), .val (.ref b33), .val (.int (1 : Int32)), .unset] [])) tt := by
                intro tt kt
                refine pre89 tt ?_
                show Steps p.tables e below (T78.setTop (mkF m 211 #[.val (.int p1), .val (.int p2), .val (.int p3), .val (.int p4), .val (.int p5), .val (.int p6), .val (.int n1), .val (.int fa), .val (.int fb), .val (.int fr), .val (.int fe), .val (.int ab), .val (.int rm), .val (.int sel), .val (.int fq), .val (.ref b33), .val (.int (1 : Int32)), .unset] [(.int fr), (.int fq)])) _
                refine XS.icmpYes X78.here hx rfl (pc0 := 211) (pc' := 218) rfl (hb hby at_211) rfl (teq c211_90).1 (by decide) (by decide) ?_
                show Steps p.tables e below (T78.setTop (mkF m 218 #[.val (.int p1), .val (.int p2), .val (.int p3), .val (.int p4), .val (.int p5), .val (.int p6), .val (.int n1), .val (.int fa), .val (.int fb), .val (.int fr), .val (.int fe), .val (.int ab), .val (.int rm), .val (.int sel), .val (.int fq), .val (.ref b33), .val (.int (1 : Int32)), .unset] [])) _
                refine XS.iconst X78.here hx rfl (hb hby at_218) ?_
                show Steps p.tables e below (T78.setTop (mkF m 219 #[.val (.int p1), .val (.int p2), .val (.int p3), .val (.int p4), .val (.int p5), .val (.int p6), .val (.int n1), .val (.int fa), .val (.int fb), .val (.int fr), .val (.int fe), .val (.int ab), .val (.int rm), .val (.int sel), .val (.int fq), .val (.ref b33), .val (.int (1 : Int32)), .unset] [(.int (0 : Int32))])) _
                refine XS.istore X78.here hx rfl (hb hby at_219) rfl (l' := #[.val (.int p1), .val (.int p2), .val (.int p3), .val (.int p4), .val (.int p5), .val (.int p6), .val (.int n1), .val (.int fa), .val (.int fb), .val (.int fr), .val (.int fe), .val (.int ab), .val (.int rm), .val (.int sel), .val (.int fq), .val (.ref b33), .val (.int (1 : Int32)), .val (.int (0 : Int32))]) rfl ?_
                exact kt
              refine ⟨T78, _, N78, X78, rfl, fun tt kt => pre91 tt ?_⟩
              rw [show ex = (0 : Int32) from hex.trans (if_neg (fun q => q.2 ⟨c171_65, c211_90⟩))] at kt
              exact kt
            · have pre92 : ∀ tt, Steps p.tables e below (T78.setTop (mkF m 221 #[.val (.int p1), .val (.int p2), .val (.int p3), .val (.int p4), .val (.int p5), .val (.int p6), .val (.int n1), .val (.int fa), .val (.int fb), .val (.int fr), .val (.int fe), .val (.int ab), .val (.int rm), .val (.int sel), .val (.int fq), .val (.ref b33), .val (.int (1 : Int32)), .val (.int (1 : Int32))] [])) tt → Steps p.tables e below (T78.setTop (mkF m 183 #[.val (.int p1), .val (.int p2), .val (.int p3), .val (.int p4), .val (.int p5), .val (.int p6), .val (.int n1), .val (.int fa), .val (.int fb), .val (.int fr), .val (.int fe), .val (.int ab), .val (.int rm), .val (.int sel), .val (.int fq), .val (.ref b33), .val (.int (1 : Int32)), .unset] [])) tt := by
                intro tt kt
                refine pre89 tt ?_
                show Steps p.tables e below (T78.setTop (mkF m 211 #[.val (.int p1), .val (.int p2), .val (.int p3), .val (.int p4), .val (.int p5), .val (.int p6), .val (.int n1), .val (.int fa), .val (.int fb), .val (.int fr), .val (.int fe), .val (.int ab), .val (.int rm), .val (.int sel), .val (.int fq), .val (.ref b33), .val (.int (1 : Int32)), .unset] [(.int fr), (.int fq)])) _
                refine XS.icmpNo X78.here hx rfl (hb hby at_211) rfl (feq c211_90).1 ?_
                show Steps p.tables e below (T78.setTop (mkF m 214 #[.val (.int p1), .val (.int p2), .val (.int p3), .val (.int p4), .val (.int p5), .val (.int p6), .val (.int n1), .val (.int fa), .val (.int fb), .val (.int fr), .val (.int fe), .val (.int ab), .val (.int rm), .val (.int sel), .val (.int fq), .val (.ref b33), .val (.int (1 : Int32)), .unset] [])) _
                refine XS.iconst X78.here hx rfl (hb hby at_214) ?_
                show Steps p.tables e below (T78.setTop (mkF m 215 #[.val (.int p1), .val (.int p2), .val (.int p3), .val (.int p4), .val (.int p5), .val (.int p6), .val (.int n1), .val (.int fa), .val (.int fb), .val (.int fr), .val (.int fe), .val (.int ab), .val (.int rm), .val (.int sel), .val (.int fq), .val (.ref b33), .val (.int (1 : Int32)), .unset] [(.int (1 : Int32))])) _
                refine XS.goto X78.here hx rfl (pc0 := 215) (pc' := 219) rfl (hb hby at_215) (by decide) (by decide) ?_
                show Steps p.tables e below (T78.setTop (mkF m 219 #[.val (.int p1), .val (.int p2), .val (.int p3), .val (.int p4), .val (.int p5), .val (.int p6), .val (.int n1), .val (.int fa), .val (.int fb), .val (.int fr), .val (.int fe), .val (.int ab), .val (.int rm), .val (.int sel), .val (.int fq), .val (.ref b33), .val (.int (1 : Int32)), .unset] [(.int (1 : Int32))])) _
                refine XS.istore X78.here hx rfl (hb hby at_219) rfl (l' := #[.val (.int p1), .val (.int p2), .val (.int p3), .val (.int p4), .val (.int p5), .val (.int p6), .val (.int n1), .val (.int fa), .val (.int fb), .val (.int fr), .val (.int fe), .val (.int ab), .val (.int rm), .val (.int sel), .val (.int fq), .val (.ref b33), .val (.int (1 : Int32)), .val (.int (1 : Int32))]) rfl ?_
                exact kt
              refine ⟨T78, _, N78, X78, rfl, fun tt kt => pre92 tt ?_⟩
              rw [show ex = (1 : Int32) from hex.trans (if_pos ⟨Or.inr ⟨c159_38, c199_88⟩, fun q => c211_90 q.2⟩)] at kt
              exact kt
          · have pre93 : ∀ tt, Steps p.tables e below (T78.setTop (mkF m 221 #[.val (.int p1), .val (.int p2), .val (.int p3), .val (.int p4), .val (.int p5), .val (.int p6), .val (.int n1), .val (.int fa), .val (.int fb), .val (.int fr), .val (.int fe), .val (.int ab), .val (.int rm), .val (.int sel), .val (.int fq), .val (.ref b33), .val (.int (1 : Int32)), .val (.int (0 : Int32))] [])) tt → Steps p.tables e below (T78.setTop (mkF m 183 #[.val (.int p1), .val (.int p2), .val (.int p3), .val (.int p4), .val (.int p5), .val (.int p6), .val (.int n1), .val (.int fa), .val (.int fb), .val (.int fr), .val (.int fe), .val (.int ab), .val (.int rm), .val (.int sel), .val (.int fq), .val (.ref b33), .val (.int (1 : Int32)), .unset] [])) tt := by
              intro tt kt
              refine pre87 tt ?_
              show Steps p.tables e below (T78.setTop (mkF m 199 #[.val (.int p1), .val (.int p2), .val (.int p3), .val (.int p4), .val (.int p5), .val (.int p6), .val (.int n1), .val (.int fa), .val (.int fb), .val (.int fr), .val (.int fe), .val (.int ab), .val (.int rm), .val (.int sel), .val (.int fq), .val (.ref b33), .val (.int (1 : Int32)), .unset] [(.int fb), (.int fq)])) _
              refine XS.icmpYes X78.here hx rfl (pc0 := 199) (pc' := 218) rfl (hb hby at_199) rfl (feq c199_88).2 (by decide) (by decide) ?_
              show Steps p.tables e below (T78.setTop (mkF m 218 #[.val (.int p1), .val (.int p2), .val (.int p3), .val (.int p4), .val (.int p5), .val (.int p6), .val (.int n1), .val (.int fa), .val (.int fb), .val (.int fr), .val (.int fe), .val (.int ab), .val (.int rm), .val (.int sel), .val (.int fq), .val (.ref b33), .val (.int (1 : Int32)), .unset] [])) _
              refine XS.iconst X78.here hx rfl (hb hby at_218) ?_
              show Steps p.tables e below (T78.setTop (mkF m 219 #[.val (.int p1), .val (.int p2), .val (.int p3), .val (.int p4), .val (.int p5), .val (.int p6), .val (.int n1), .val (.int fa), .val (.int fb), .val (.int fr), .val (.int fe), .val (.int ab), .val (.int rm), .val (.int sel), .val (.int fq), .val (.ref b33), .val (.int (1 : Int32)), .unset] [(.int (0 : Int32))])) _
              refine XS.istore X78.here hx rfl (hb hby at_219) rfl (l' := #[.val (.int p1), .val (.int p2), .val (.int p3), .val (.int p4), .val (.int p5), .val (.int p6), .val (.int n1), .val (.int fa), .val (.int fb), .val (.int fr), .val (.int fe), .val (.int ab), .val (.int rm), .val (.int sel), .val (.int fq), .val (.ref b33), .val (.int (1 : Int32)), .val (.int (0 : Int32))]) rfl ?_
              exact kt
            refine ⟨T78, _, N78, X78, rfl, fun tt kt => pre93 tt ?_⟩
            rw [show ex = (0 : Int32) from hex.trans (if_neg (fun q => q.1.elim c187_82 (fun r => c199_88 r.2)))] at kt
            exact kt
      have pre94 : ∀ tt, Steps p.tables e below (T80.setTop (mkF m 221 #[.val (.int p1), .val (.int p2), .val (.int p3), .val (.int p4), .val (.int p5), .val (.int p6), .val (.int n1), .val (.int fa), .val (.int fb), .val (.int fr), .val (.int fe), .val (.int ab), .val (.int rm), .val (.int sel), .val (.int fq), .val (.ref b33), .val (.int (1 : Int32)), .val (.int ex)] [])) tt → Steps p.tables e below (s₁.setTop (entryFrame m #[(.int p1), (.int p2), (.int p3), (.int p4), (.int p5), (.int p6)] maxLocals)) tt := by
        intro tt kt
        refine pre79 tt ?_
        show Steps p.tables e below (T78.setTop (mkF m 183 #[.val (.int p1), .val (.int p2), .val (.int p3), .val (.int p4), .val (.int p5), .val (.int p6), .val (.int n1), .val (.int fa), .val (.int fb), .val (.int fr), .val (.int fe), .val (.int ab), .val (.int rm), .val (.int sel), .val (.int fq), .val (.ref b33), .val (.int (1 : Int32)), .unset] [])) _
        refine st80 _ ?_
        exact kt
      have hM : own_M u0_78 u1_78 u2_78 u3_78 fq ↔ ((fq = fa ∨ (¬ (ab = (0 : Int32)) ∧ fq = fb)) ∧ ¬ (¬ (rm = (0 : Int32)) ∧ fq = fr)) := by
        rw [own_Mrem hn r_fr r_fq hu0_78 hu1_78 hu2_78 hu3_78, own_Madd hn r_fb r_fq hu0_63 hu1_63 hu2_63 hu3_63, own_Madd hn r_fa r_fq hu0_36 hu1_36 hu2_36 hu3_36]
        have key : ∀ M A B C : Prop, ¬ M → (((B ∨ (A ∨ M)) ∧ ¬ C) ↔ ((A ∨ B) ∧ ¬ C)) := by
          intro M A B C m
          by_cases hA : A <;> by_cases hB : B <;> by_cases hC : C <;> simp [hA, hB, hC, m]
        have e2 : (((fq = fa ∨ (¬ (ab = (0 : Int32)) ∧ fq = fb)) ∧ ¬ (¬ (rm = (0 : Int32)) ∧ fq = fr))) ↔ (((fq = fa) ∨ (fq = fb)) ∧ ¬ (fq = fr)) := by simp [c159_38, c171_65]
        exact (key _ (fq = fa) (fq = fb) (fq = fr) (own_M0 fq)).trans e2.symm
      obtain ⟨cq95, kq95, q95a, q95b, q95c⟩ := isOf hZ e80 Ea78
      obtain ⟨_, _, ⟨T95, L95, k95, n95⟩, -, X95, ⟨Lc95, hQ95, l95, y95, z95⟩, st95⟩ := X80.virtualBack hx (y := (⟨"com/example/phase7/phase7/metadata/FieldSet", "contains", "(I)Z"⟩ : MethodName)) (z := (⟨"com/example/phase7/phase7/metadata/FieldSet", "contains", "(I)Z"⟩ : MethodName)) hown (mvT hZ (hw _ (List.mem_of_getElem? (i := 14) rfl))) (mvT hZ (hw _ (List.mem_of_getElem? (i := 15) rfl))) (notFace_of_selects (args := #[]) (mvT hZ (hw _ (List.mem_of_getElem? (i := 17) rfl)))) (mvT hZ (hw _ (List.mem_of_getElem? (i := 17) rfl))) (mvT hZ (hw _ (List.mem_of_getElem? (i := 16) rfl))) (by decide) (backOf (W := 0) (rmH l Z a0 hw [] b33 b34 kb34 fq (fq / (64 : Int32)) z34 ex u0_78 u1_78 u2_78 u3_78 T78.heap n0 (Nat.le_trans (Nat.le_trans (Nat.le_trans (Nat.le_trans (Nat.le_trans Z0 E33.1) K34.1) K36.1) K63.1) K78.1) Ea78 Ff78 Fg78 Vb78 hne34 (own_fr hn r_fq).1 rfl (own_fr hn r_fq).2.1 z_fq (own_hasM hM hex)) hZ (hw _ (List.mem_of_getElem? (i := 18) rfl)) (hw _ (List.mem_of_getElem? (i := 3) rfl)) (by decide) (by decide)) q95a q95c (g := (mkF m 230 #[.val (.int p1), .val (.int p2), .val (.int p3), .val (.int p4), .val (.int p5), .val (.int p6), .val (.int n1), .val (.int fa), .val (.int fb), .val (.int fr), .val (.int fe), .val (.int ab), .val (.int rm), .val (.int sel), .val (.int fq), .val (.ref b33), .val (.int (1 : Int32)), .val (.int ex)] [(.int fq), (.ref b33)])) rfl (by rw [hml]; rfl) (Steps.refl _) (argsL := [(.int fq)]) (rest := []) (lenOf pd_rm0_1 rfl) rfl (by show 2 * 0 + _ ≤ _; exact Nat.le_of_eq rfl) (hb hby at_230) (fun _ _ => ⟨rfl, e80, (by decide : 2 + 0 ≤ _), (by decide : 5 + 0 ≤ _)⟩)
      dsimp only [Pt.U, Pt.locs, Pt.cells, Pt.slots] at X95 l95 y95 z95 st95 hQ95
      subst l95 y95 z95
      obtain ⟨rfl, N95q, hE95⟩ := hQ95
      have N95 := Fr.app N80 N95q
      have pre96 : ∀ tt, Steps p.tables e below (T95.setTop (mkF m 243 #[.val (.int p1), .val (.int p2), .val (.int p3), .val (.int p4), .val (.int p5), .val (.int p6), .val (.int n1), .val (.int fa), .val (.int fb), .val (.int fr), .val (.int fe), .val (.int ab), .val (.int rm), .val (.int sel), .val (.int fq), .val (.ref b33), .val (.int (1 : Int32)), .val (.int ex)] [(.int (1 : Int32))])) tt → Steps p.tables e below (s₁.setTop (entryFrame m #[(.int p1), (.int p2), (.int p3), (.int p4), (.int p5), (.int p6)] maxLocals)) tt := by
        intro tt kt
        refine pre94 tt ?_
        show Steps p.tables e below (T80.setTop (mkF m 221 #[.val (.int p1), .val (.int p2), .val (.int p3), .val (.int p4), .val (.int p5), .val (.int p6), .val (.int n1), .val (.int fa), .val (.int fb), .val (.int fr), .val (.int fe), .val (.int ab), .val (.int rm), .val (.int sel), .val (.int fq), .val (.ref b33), .val (.int (1 : Int32)), .val (.int ex)] [])) _
        refine XS.iload X80.here hx rfl (hb hby at_221) rfl ?_
        show Steps p.tables e below (T80.setTop (mkF m 223 #[.val (.int p1), .val (.int p2), .val (.int p3), .val (.int p4), .val (.int p5), .val (.int p6), .val (.int n1), .val (.int fa), .val (.int fb), .val (.int fr), .val (.int fe), .val (.int ab), .val (.int rm), .val (.int sel), .val (.int fq), .val (.ref b33), .val (.int (1 : Int32)), .val (.int ex)] [(.int (1 : Int32))])) _
        refine XS.ifNo X80.here hx rfl (hb hby at_223) rfl ((if0 _ _).trans (feq (by decide : ¬ ((1 : Int32) = (0 : Int32)))).1) ?_
        show Steps p.tables e below (T80.setTop (mkF m 226 #[.val (.int p1), .val (.int p2), .val (.int p3), .val (.int p4), .val (.int p5), .val (.int p6), .val (.int n1), .val (.int fa), .val (.int fb), .val (.int fr), .val (.int fe), .val (.int ab), .val (.int rm), .val (.int sel), .val (.int fq), .val (.ref b33), .val (.int (1 : Int32)), .val (.int ex)] [])) _
        refine XS.aload X80.here hx rfl (hb hby at_226) rfl rfl ?_
        show Steps p.tables e below (T80.setTop (mkF m 228 #[.val (.int p1), .val (.int p2), .val (.int p3), .val (.int p4), .val (.int p5), .val (.int p6), .val (.int n1), .val (.int fa), .val (.int fb), .val (.int fr), .val (.int fe), .val (.int ab), .val (.int rm), .val (.int sel), .val (.int fq), .val (.ref b33), .val (.int (1 : Int32)), .val (.int ex)] [(.ref b33)])) _
        refine XS.iload X80.here hx rfl (hb hby at_228) rfl ?_
        show Steps p.tables e below (T80.setTop (mkF m 230 #[.val (.int p1), .val (.int p2), .val (.int p3), .val (.int p4), .val (.int p5), .val (.int p6), .val (.int n1), .val (.int fa), .val (.int fb), .val (.int fr), .val (.int fe), .val (.int ab), .val (.int rm), .val (.int sel), .val (.int fq), .val (.ref b33), .val (.int (1 : Int32)), .val (.int ex)] [(.int fq), (.ref b33)])) _
        refine st95.trans ?_
        show Steps p.tables e below (T95.setTop (mkF m 233 #[.val (.int p1), .val (.int p2), .val (.int p3), .val (.int p4), .val (.int p5), .val (.int p6), .val (.int n1), .val (.int fa), .val (.int fb), .val (.int fr), .val (.int fe), .val (.int ab), .val (.int rm), .val (.int sel), .val (.int fq), .val (.ref b33), .val (.int (1 : Int32)), .val (.int ex)] [(.int ex)])) _
        refine XS.iload X95.here hx rfl (hb hby at_233) rfl ?_
        show Steps p.tables e below (T95.setTop (mkF m 235 #[.val (.int p1), .val (.int p2), .val (.int p3), .val (.int p4), .val (.int p5), .val (.int p6), .val (.int n1), .val (.int fa), .val (.int fb), .val (.int fr), .val (.int fe), .val (.int ab), .val (.int rm), .val (.int sel), .val (.int fq), .val (.ref b33), .val (.int (1 : Int32)), .val (.int ex)] [(.int ex), (.int ex)])) _
        refine XS.icmpNo X95.here hx rfl (hb hby at_235) rfl (teq (rfl : ex = ex)).2 ?_
        show Steps p.tables e below (T95.setTop (mkF m 238 #[.val (.int p1), .val (.int p2), .val (.int p3), .val (.int p4), .val (.int p5), .val (.int p6), .val (.int n1), .val (.int fa), .val (.int fb), .val (.int fr), .val (.int fe), .val (.int ab), .val (.int rm), .val (.int sel), .val (.int fq), .val (.ref b33), .val (.int (1 : Int32)), .val (.int ex)] [])) _
        refine XS.iconst X95.here hx rfl (hb hby at_238) ?_
        show Steps p.tables e below (T95.setTop (mkF m 239 #[.val (.int p1), .val (.int p2), .val (.int p3), .val (.int p4), .val (.int p5), .val (.int p6), .val (.int n1), .val (.int fa), .val (.int fb), .val (.int fr), .val (.int fe), .val (.int ab), .val (.int rm), .val (.int sel), .val (.int fq), .val (.ref b33), .val (.int (1 : Int32)), .val (.int ex)] [(.int (1 : Int32))])) _
        refine XS.goto X95.here hx rfl (pc0 := 239) (pc' := 243) rfl (hb hby at_239) (by decide) (by decide) ?_
        exact kt
      obtain ⟨fs, hr, hrun, hended, hW, hsame⟩ := X95.leave (v := some (.int (1 : Int32))) (fun h => by rw [Bd.returns] at h; cases h)
      refine ⟨_, _, pre96 _ ?_, hrun, hended, _, _, rfl, ?_, ⟨_, rfl⟩, hW, hsame.mono (by decide) (by decide)⟩
      · show Steps p.tables e below (T95.setTop (mkF m 243 #[.val (.int p1), .val (.int p2), .val (.int p3), .val (.int p4), .val (.int p5), .val (.int p6), .val (.int n1), .val (.int fa), .val (.int fb), .val (.int fr), .val (.int fe), .val (.int ab), .val (.int rm), .val (.int sel), .val (.int fq), .val (.ref b33), .val (.int (1 : Int32)), .val (.int ex)] [(.int (1 : Int32))])) _
        exact retN X95 hx (t := .boolean) Bd.returns (by simp) (hb hby at_243) hr
      · show Q0 Z h0 n0 _ T95.heap _
        rw [hE95]
        exact ⟨rfl, N95⟩
set_option maxRecDepth 65536 in
set_option maxHeartbeats 40000000 in
theorem comes_1 {Post : Tables → Env → Array Value → State → Outcome → State → Prop} (hpost : ∀ tb e args s v u, (limb_1_1.after args s (.returned v) u = true ∧ limb_1_2.after args s (.returned v) u = true ∧ True) → FrameEnd s (.returned v) u (Jvm.fieldLocs frame_1_writes args s ++ Jvm.arrayLocs frame_1_arrays args s ++ Jvm.staticLocs frame_1_statics s) 16 128 → Post tb e args s (.returned v) u) :
    ArmFor flags0 classFile x code maxLocals ret World_1 tables_1 room_1 Calls_1 rest_1 Pre_1 Post := by
  intro l hfl _ _ p e ha hc hk s m args below hf hA hF happ hP
  obtain ⟨hcalls, hrest, hpre⟩ := hP
  obtain ⟨-, -, -, hnamed, -, -, -, hat⟩ := (Spec.applies_iff hf).mp happ
  obtain ⟨hg, hn⟩ := and_e (Cond.before_iff.mp (show (Jvm.Cond.and given_1 narrow_1).before args s = true from hpre))
  have hw := fun d (hd : d ∈ tables_1) => atoms_spec (ws := Jvm.Cond.code x code maxLocals ret :: tables_1) hat d (List.mem_cons_of_mem _ hd)
  obtain ⟨g1a, g1b⟩ := and_e hg
  obtain ⟨g2a, g2b⟩ := and_e g1b
  obtain ⟨g3a, g3b⟩ := and_e g2b
  obtain ⟨g4a, g4b⟩ := and_e g3b
  obtain ⟨g5a, g5b⟩ := and_e g4b
  obtain ⟨g6a, g6b⟩ := and_e g5b
  obtain ⟨w0, w1, w2, w3, w4, w5, rfl⟩ : ∃ w0 w1 w2 w3 w4 w5 : Value, args = #[w0, w1, w2, w3, w4, w5] := by
    have hs : args.size = 6 := by simpa [Cond.value, given_1] using g1a
    obtain ⟨L⟩ := args
    match L, hs with
    | [w0, w1, w2, w3, w4, w5], _ => exact ⟨w0, w1, w2, w3, w4, w5, rfl⟩
  have hfit : Fit s := fun {y c} hc i hi => by
    obtain ⟨ha, rfl⟩ := Array.getElem?_eq_some_iff.mp hc
    have q := List.all_eq_true.mp ((Array.all_eq_true_iff_forall_mem.mp hF) _ (Array.getElem_mem ha)) i (List.mem_range.mpr hi)
    simpa [Array.getElem?_eq_getElem hi] using q
  obtain ⟨i0, ei0⟩ := is_v g2a
  obtain rfl : w0 = (.int i0) := Option.some.inj ei0
  obtain ⟨i1, ei1⟩ := is_v g3a
  obtain rfl : w1 = (.int i1) := Option.some.inj ei1
  obtain ⟨i2, ei2⟩ := is_v g4a
  obtain rfl : w2 = (.int i2) := Option.some.inj ei2
  obtain ⟨i3, ei3⟩ := is_v g5a
  obtain rfl : w3 = (.int i3) := Option.some.inj ei3
  obtain ⟨i4, ei4⟩ := is_v g6a
  obtain rfl : w4 = (.int i4) := Option.some.inj ei4
  obtain ⟨i5, ei5⟩ := is_v g6b
  obtain rfl : w5 = (.int i5) := Option.some.inj ei5
  obtain ⟨n1a, n1b⟩ := and_e hn
  obtain ⟨w_NO_WORDS, ev_NO_WORDS⟩ := arr_v n1a
  have S_NO_WORDS := Sta.start ev_NO_WORDS (Or.inr ⟨(hw _ (List.mem_of_getElem? (i := 3) rfl)), (hw _ (List.mem_of_getElem? (i := 11) rfl))⟩)
  obtain ⟨cl_NO_WORDS, A_NO_WORDS⟩ := Arr.start ev_NO_WORDS n1a
  have l_NO_WORDS := own_len ev_NO_WORDS A_NO_WORDS n1b
  have lt_NO_WORDS := own_lenlt ev_NO_WORDS A_NO_WORDS n1b
  have V_N : Arv s s.heap w_NO_WORDS cl_NO_WORDS.cls .long (0 : Int32) [(.long (0 : Int64)), (.long (0 : Int64)), (.long (0 : Int64))] (.long (0 : Int64)) := by
    have q : Arv s s.heap w_NO_WORDS cl_NO_WORDS.cls .long (0 : Int32) [] (.long (0 : Int64)) := Arv.start hfit A_NO_WORDS lt_NO_WORDS l_NO_WORDS (by decide) rfl trivial
    exact q.pad (pad_rep [] _ 3)
  obtain ⟨n, o, h1, h2, h3, _, L, rfl, ⟨rfl, N⟩, hq⟩ := rm0 l s _ hw tables_1 i0 i1 i2 i3 i4 i5 w_NO_WORDS cl_NO_WORDS.cls s.heap s.heap.size (Nat.le_refl _) S_NO_WORDS V_N p e ha hc hk s m _ below hf ((Spec.applies_iff_loose hf).mp happ).1 ⟨rfl, State.Warmed39.refl s, rfl⟩ trivial
  refine ⟨n, _, h1, h2, h3, hpost _ _ _ _ _ _ ⟨Cond.after_iff.mpr rfl, Cond.after_iff.mpr (eq_i res_at (Term.int_eval (1)) rfl), trivial⟩ ⟨hq.1, hq.2.1, (hq.2.2.sift fun y hy => Or.inr (N y hy)).mono (by decide) (by decide)⟩⟩
theorem main_1_1 : Claimed_1_1 := comes_1 fun _ _ _ _ _ _ h hF => ⟨h.1, hF⟩
theorem main_1_2 : Claimed_1_2 := comes_1 fun _ _ _ _ _ _ h hF => ⟨h.2.1, hF⟩
end Jvm.Pilot.@@N@@
namespace Jvm.Pilot.@@N@@
open Jvm Jvm.ClassFile Sem Op Lib Jvm.Free Jvm.Stand Jvm.Pilot.@@N@@.Jvm.D
/-! MADE BY PROGRAM (witnessworld.py) out of the Statement's table words and the real class files: 11 classes; the members and pool entries that the words name. The judged class is class 1, her method 1. -/
namespace start1
open Jvm.ClassFile
def u (s : String) : CpInfo := .utf8 (stringToUtf16 s)
/-- a pool by its gaps: so many unusable entries, then the entry; so many at the end -/
def gap : Nat → List CpInfo → List CpInfo
  | 0, r => r
  | n + 1, r => .unusable :: gap n r
def poolList (es : List (Nat × CpInfo)) (last : Nat) : List CpInfo := es.foldr (fun e r => gap e.1 (e.2 :: r)) (gap last [])
def pool (es : List (Nat × CpInfo)) (last : Nat) : Array CpInfo := ⟨poolList es last⟩
def fileOf (pool : Array CpInfo) (this : Nat) (attrs : Array Attribute := #[]) (ms : Array MethodInfo := #[]) (fl : Nat := 33) (sup : Nat := 0) (ifs : Array Nat := #[]) (fds : Array FieldInfo := #[]) : ClassFile where
  minorVersion := 0
  majorVersion := 65
  constantPool := pool
  accessFlags := fl
  thisClass := this
  superClass := sup
  interfaces := ifs
  fields := fds
  methods := ms
  attributes := attrs
def plain (name : String) (sup : Option ClassId) : Class where
  name := name
  kind := .ordinary
  loader := none
  accessFlags := 33
  super := sup
  interfaces := #[]
  cf := none
  fields := #[]
  methods := #[]
  instanceTypes := #[]
  staticTypes := #[]
  resolved := #[]
  callSites := []
  init := .initialized
  statics := none
  mirror := none

def pool0 : Array CpInfo := pool [(5, u "<init>"), (0, u "()V"), (1, .class_ 10), (1, u "java/lang/Object")] 113

def k0c0 : Code := { maxStack := 0, maxLocals := 1, code := object_method_1_code, exceptionTable := #[], attributes := #[] }
def k0m0 : Method := { name := "<init>", desc := "()V", sig := { parameters := [], returnType := none }, accessFlags := 1, code := some k0c0 }
/-- java/lang/Object -/
def k0 : Class := { plain "java/lang/Object" none with
  accessFlags := 33
  interfaces := #[]
  cf := some (fileOf pool0 8 #[] #[{ accessFlags := 1, nameIndex := 5, descriptorIndex := 6, attributes := #[] }] 33 0 #[] #[])
  fields := #[]
  methods := #[k0m0]
  instanceTypes := #[]
  staticTypes := #[]
  resolved := Array.replicate 124 none
  statics := none }

def pool1 : Array CpInfo := pool [(2, .class_ 4), (1, u "java/lang/Object"), (0, u "<init>"), (0, u "()V"), (0, .integer 2147483647), (0, .class_ 9), (0, u "com/example/phase7/phase7/metadata/FieldSet"), (0, .methodref 8 11), (0, .nameAndType 5 12), (0, u "(I)V"), (0, .methodref 8 14), (0, .nameAndType 15 16), (0, u "contains"), (0, u "(I)Z"), (0, .methodref 8 18), (0, .nameAndType 19 12), (0, u "add"), (0, .methodref 8 21), (0, .nameAndType 22 12), (0, u "remove"), (0, .class_ 24), (0, u "com/example/phase7/phase7/metadata/FieldSetContainsPinLaw"), (2, u "law"), (0, u "(IIIIII)Z")] 3

def k1m0 : Method := { name := "<init>", desc := "()V", sig := { parameters := [], returnType := none }, accessFlags := 1, code := none }
def k1c1 : Code := { maxStack := 3, maxLocals := 18, code := code, exceptionTable := #[], attributes := #[] }
def k1m1 : Method := { name := "law", desc := "(IIIIII)Z", sig := { parameters := [.int, .int, .int, .int, .int, .int], returnType := some .boolean }, accessFlags := 9, code := some k1c1 }
/-- com/example/phase7/phase7/metadata/FieldSetContainsPinLaw -/
def k1 : Class := { plain "com/example/phase7/phase7/metadata/FieldSetContainsPinLaw" (some 0) with
  accessFlags := 49
  interfaces := #[]
  cf := some (fileOf pool1 23 #[] #[{ accessFlags := 1, nameIndex := 5, descriptorIndex := 6, attributes := #[] }, { accessFlags := 9, nameIndex := 27, descriptorIndex := 28, attributes := #[] }] 49 2 #[] #[])
  fields := #[]
  methods := #[k1m0, k1m1]
  instanceTypes := #[]
  staticTypes := #[]
  resolved := Array.replicate 32 none
  statics := none }

def pool2 : Array CpInfo := pool [(3, .methodref 4 5), (0, .class_ 6), (0, .nameAndType 7 8), (0, u "java/lang/Object"), (0, u "<init>"), (0, u "()V"), (0, .class_ 10), (0, u "com/example/phase7/phase7/metadata/FieldSet"), (0, .fieldref 9 12), (0, .nameAndType 13 14), (0, u "NO_WORDS"), (0, u "[J"), (0, .fieldref 9 16), (0, .nameAndType 17 14), (0, u "further"), (0, .fieldref 9 19), (0, .nameAndType 20 21), (0, u "first"), (0, u "J"), (0, .long 18446744073709551615), (44, u "WORD"), (0, u "I"), (2, u "(I)V"), (3, u "contains"), (0, u "(I)Z"), (0, u "add"), (0, u "remove")] 16

def k2c0 : Code := { maxStack := 3, maxLocals := 2, code := prog_6_method_1_code, exceptionTable := #[], attributes := #[] }
def k2m0 : Method := { name := "<init>", desc := "(I)V", sig := { parameters := [.int], returnType := none }, accessFlags := 1, code := some k2c0 }
def k2c1 : Code := { maxStack := 5, maxLocals := 3, code := prog_6_method_3_code, exceptionTable := #[], attributes := #[] }
def k2m1 : Method := { name := "contains", desc := "(I)Z", sig := { parameters := [.int], returnType := some .boolean }, accessFlags := 1, code := some k2c1 }
def k2c2 : Code := { maxStack := 7, maxLocals := 2, code := prog_6_method_4_code, exceptionTable := #[], attributes := #[] }
def k2m2 : Method := { name := "add", desc := "(I)V", sig := { parameters := [.int], returnType := none }, accessFlags := 1, code := some k2c2 }
def k2c3 : Code := { maxStack := 8, maxLocals := 2, code := prog_6_method_5_code, exceptionTable := #[], attributes := #[] }
def k2m3 : Method := { name := "remove", desc := "(I)V", sig := { parameters := [.int], returnType := none }, accessFlags := 1, code := some k2c3 }
/-- com/example/phase7/phase7/metadata/FieldSet -/
def k2 : Class := { plain "com/example/phase7/phase7/metadata/FieldSet" (some 0) with
  accessFlags := 49
  interfaces := #[]
  cf := some (fileOf pool2 9 #[] #[{ accessFlags := 1, nameIndex := 7, descriptorIndex := 71, attributes := #[] }, { accessFlags := 1, nameIndex := 75, descriptorIndex := 76, attributes := #[] }, { accessFlags := 1, nameIndex := 77, descriptorIndex := 71, attributes := #[] }, { accessFlags := 1, nameIndex := 78, descriptorIndex := 71, attributes := #[] }] 49 4 #[] #[{ accessFlags := 26, nameIndex := 67, descriptorIndex := 68, attributes := #[] }, { accessFlags := 26, nameIndex := 13, descriptorIndex := 14, attributes := #[] }, { accessFlags := 2, nameIndex := 20, descriptorIndex := 21, attributes := #[] }, { accessFlags := 18, nameIndex := 17, descriptorIndex := 14, attributes := #[] }])
  fields := #[{ name := "WORD", type := .int, accessFlags := 26, slot := 0, constantValue := 0 }, { name := "NO_WORDS", type := (.array .long), accessFlags := 26, slot := 1, constantValue := 0 }, { name := "first", type := .long, accessFlags := 2, slot := 0, constantValue := 0 }, { name := "further", type := (.array .long), accessFlags := 18, slot := 1, constantValue := 0 }]
  methods := #[k2m0, k2m1, k2m2, k2m3]
  instanceTypes := #[.long, (.array .long)]
  staticTypes := #[.int, (.array .long)]
  resolved := Array.replicate 95 none
  statics := some 0 }

def pool3 : Array CpInfo := pool [(1, u "java/lang/Cloneable"), (0, .class_ 1), (0, u "java/lang/Object"), (0, .class_ 3)] 3

/-- java/lang/Cloneable -/
def k3 : Class := { plain "java/lang/Cloneable" (some 0) with
  accessFlags := 1537
  interfaces := #[]
  cf := some (fileOf pool3 2 #[] #[] 1537 4 #[] #[])
  fields := #[]
  methods := #[]
  instanceTypes := #[]
  staticTypes := #[]
  resolved := Array.replicate 8 none
  statics := none }

def pool4 : Array CpInfo := pool [(1, u "java/io/Serializable"), (0, .class_ 1), (0, u "java/lang/Object"), (0, .class_ 3)] 3

/-- java/io/Serializable -/
def k4 : Class := { plain "java/io/Serializable" (some 0) with
  accessFlags := 1537
  interfaces := #[]
  cf := some (fileOf pool4 2 #[] #[] 1537 4 #[] #[])
  fields := #[]
  methods := #[]
  instanceTypes := #[]
  staticTypes := #[]
  resolved := Array.replicate 8 none
  statics := none }

/-- the primitive byte -/
def k5 : Class := { plain "byte" none with kind := .primitive 'B', accessFlags := 0x411 }
/-- [B -/
def k6 : Class := { plain "[B" (some 0) with kind := .array 5 .byte, interfaces := #[3, 4], accessFlags := 1041 }

/-- the primitive int -/
def k7 : Class := { plain "int" none with kind := .primitive 'I', accessFlags := 0x411 }
/-- [I -/
def k8 : Class := { plain "[I" (some 0) with kind := .array 7 .int, interfaces := #[3, 4], accessFlags := 1041 }

/-- the primitive long -/
def k9 : Class := { plain "long" none with kind := .primitive 'J', accessFlags := 0x411 }
/-- [J -/
def k10 : Class := { plain "[J" (some 0) with kind := .array 9 .long, interfaces := #[3, 4], accessFlags := 1041 }

def heap : Heap := #[{ cls := 2, slots := #[.int 0, .ref 1], vm := .statics 2 },
  { cls := 10, slots := #[], vm := .none }]
def classes : Array Class := #[k0, k1, k2, k3, k4, k5, k6, k7, k8, k9, k10]
def interned : List (Array UInt16 × Addr) := []
def slotsUsed : Nat := 2
def theMethod : MethodId := ⟨1, 1⟩
def args0 : Array Value := #[.int 1, .int 2, .int 3, .int 4, .int 5, .int 6]
def aboutOver (below : List Frame) : State where
  vm := { classes := classes, interned := interned.toArray }
  heap := heap
  slotsUsed := slotsUsed
  threads := #[{ frames := .invoking theMethod args0 :: below }]
def below0 : List Frame := [.native { method := ⟨0, 0⟩, args := #[] }]
def about1 : State := aboutOver below0
def p0 : Program := .bare "" "" ""
def e0 : Env := launch0.env 0 0 0
theorem w_frames : about1.frames = Frame.invoking theMethod args0 :: below0 := rfl
set_option maxRecDepth 65536 in
theorem w_args : argsFit about1.vm theMethod args0 = true := by decide +kernel
set_option maxRecDepth 65536 in
theorem w_heap : heapFits about1 = true := by decide +kernel
set_option maxRecDepth 65536 in
theorem w_runnable : about1.curStatus? = some .runnable := by decide +kernel
set_option maxRecDepth 65536 in
theorem w_alone : about1.alone = true := by decide +kernel
set_option maxRecDepth 65536 in
theorem w_named : about1.methodNamed? x = some theMethod := by decide +kernel
set_option maxRecDepth 65536 in
theorem w_hears : about1.hears theMethod below0 = true := by decide +kernel
set_option maxRecDepth 65536 in
theorem w_ripe : about1.ripe theMethod args0 below0 = true := by decide +kernel
theorem w_running : about1.status = .running := rfl
set_option maxRecDepth 65536 in
theorem w_room : about1.hasRoom e0.platform room_1 = true :=
  launch0.hasRoom_least _ room_1 (by decide +kernel) (by decide +kernel) (by decide +kernel) (by decide +kernel) (by decide +kernel) (by decide +kernel)
theorem allAtoms_all (ts : List Jvm.Cond) (a : Array Jvm.Value) (st : Jvm.State) : (allAtoms ts).before a st = ts.all (fun c => c.before a st) := by
  induction ts with
  | nil => rfl
  | cons c t ih =>
    show (Jvm.Cond.and c (allAtoms t)).before a st = _
    rw [Jvm.Cond.before_and, ih, List.all_cons]
def words1 : List Jvm.Cond := Jvm.Cond.code x code maxLocals ret :: tables_1
/-- a 'code' word, met by the world's own term for the bytes: nothing is compared byte by byte -/
theorem code_word {y : MethodName} {bytes : ByteArray} {mx : Nat} {rt : Option FieldType} {a : Array Value} {s : State} {m : MethodId} {meth : Method} {c : Code} (h1 : s.methodNamed? y = some m) (h2 : s.vm.method? m = some meth) (h3 : meth.code = some c) (h4 : c.code = bytes)
    (h5 : (c.maxLocals == mx && c.exceptionTable.isEmpty && decide (c.maxStack ≤ mostOperands) && decide (meth.sig.returnType = rt) && !meth.locks && decide (parseMethodDescriptor y.desc = some meth.sig)) = true) : (Jvm.Cond.code y bytes mx rt).before a s = true := by
  simp only [Bool.and_eq_true, beq_iff_eq, Bool.not_eq_true', decide_eq_true_eq] at h5
  obtain ⟨⟨⟨⟨⟨g1, g2⟩, g3⟩, g4⟩, g5⟩, g6⟩ := h5
  simp [Cond.before, Cond.holds, Cond.value, h1, h2, h3, h4, g1, g2, g3, g4, g5, g6]
def isCode : Jvm.Cond → Bool
  | .code _ _ _ _ => true
  | _ => false
theorem all_split {L : List Jvm.Cond} {P : Jvm.Cond → Bool} (h1 : L.all (fun c => isCode c || P c) = true) (h2 : ∀ c ∈ L.filter isCode, P c = true) : L.all P = true := by
  refine List.all_eq_true.mpr fun c hc => ?_
  have h := List.all_eq_true.mp h1 c hc
  rcases Bool.eq_false_or_eq_true (isCode c) with hi | hi
  · exact h2 c (List.mem_filter.mpr ⟨hc, hi⟩)
  · simpa [hi] using h
set_option maxRecDepth 65536 in
theorem w_c0 : (Jvm.Cond.code x code maxLocals ret).before args0 about1 = true := code_word (m := ⟨1, 1⟩) (meth := k1m1) (c := k1c1) (by decide +kernel) rfl rfl rfl (by decide +kernel)
set_option maxRecDepth 65536 in
theorem w_c1 : (Jvm.Cond.code ({ cls := "com/example/phase7/phase7/metadata/FieldSet", name := "<init>", desc := "(I)V" } : Jvm.MethodName) prog_6_method_1_code (2 : Nat) (Option.none : Option Jvm.ClassFile.FieldType)).before args0 about1 = true := code_word (m := ⟨2, 0⟩) (meth := k2m0) (c := k2c0) (by decide +kernel) rfl rfl rfl (by decide +kernel)
set_option maxRecDepth 65536 in
theorem w_c2 : (Jvm.Cond.code ({ cls := "java/lang/Object", name := "<init>", desc := "()V" } : Jvm.MethodName) object_method_1_code (1 : Nat) (Option.none : Option Jvm.ClassFile.FieldType)).before args0 about1 = true := code_word (m := ⟨0, 0⟩) (meth := k0m0) (c := k0c0) (by decide +kernel) rfl rfl rfl (by decide +kernel)
set_option maxRecDepth 65536 in
theorem w_c3 : (Jvm.Cond.code ({ cls := "com/example/phase7/phase7/metadata/FieldSet", name := "contains", desc := "(I)Z" } : Jvm.MethodName) prog_6_method_3_code (3 : Nat) (Option.some Jvm.ClassFile.FieldType.boolean)).before args0 about1 = true := code_word (m := ⟨2, 1⟩) (meth := k2m1) (c := k2c1) (by decide +kernel) rfl rfl rfl (by decide +kernel)
set_option maxRecDepth 65536 in
theorem w_c4 : (Jvm.Cond.code ({ cls := "com/example/phase7/phase7/metadata/FieldSet", name := "add", desc := "(I)V" } : Jvm.MethodName) prog_6_method_4_code (2 : Nat) (Option.none : Option Jvm.ClassFile.FieldType)).before args0 about1 = true := code_word (m := ⟨2, 2⟩) (meth := k2m2) (c := k2c2) (by decide +kernel) rfl rfl rfl (by decide +kernel)
set_option maxRecDepth 65536 in
theorem w_c5 : (Jvm.Cond.code ({ cls := "com/example/phase7/phase7/metadata/FieldSet", name := "remove", desc := "(I)V" } : Jvm.MethodName) prog_6_method_5_code (2 : Nat) (Option.none : Option Jvm.ClassFile.FieldType)).before args0 about1 = true := code_word (m := ⟨2, 3⟩) (meth := k2m3) (c := k2c3) (by decide +kernel) rfl rfl rfl (by decide +kernel)
def codes1 : List Jvm.Cond := [Jvm.Cond.code x code maxLocals ret, Jvm.Cond.code ({ cls := "com/example/phase7/phase7/metadata/FieldSet", name := "<init>", desc := "(I)V" } : Jvm.MethodName) prog_6_method_1_code (2 : Nat) (Option.none : Option Jvm.ClassFile.FieldType), Jvm.Cond.code ({ cls := "java/lang/Object", name := "<init>", desc := "()V" } : Jvm.MethodName) object_method_1_code (1 : Nat) (Option.none : Option Jvm.ClassFile.FieldType), Jvm.Cond.code ({ cls := "com/example/phase7/phase7/metadata/FieldSet", name := "contains", desc := "(I)Z" } : Jvm.MethodName) prog_6_method_3_code (3 : Nat) (Option.some Jvm.ClassFile.FieldType.boolean), Jvm.Cond.code ({ cls := "com/example/phase7/phase7/metadata/FieldSet", name := "add", desc := "(I)V" } : Jvm.MethodName) prog_6_method_4_code (2 : Nat) (Option.none : Option Jvm.ClassFile.FieldType), Jvm.Cond.code ({ cls := "com/example/phase7/phase7/metadata/FieldSet", name := "remove", desc := "(I)V" } : Jvm.MethodName) prog_6_method_5_code (2 : Nat) (Option.none : Option Jvm.ClassFile.FieldType)]
set_option maxRecDepth 65536 in
theorem codes_eq : words1.filter isCode = codes1 := rfl
theorem w_codes : ∀ c ∈ words1.filter isCode, c.before args0 about1 = true := by
  rw [codes_eq]
  intro c hc
  simp only [codes1, List.mem_cons, List.not_mem_nil, or_false] at hc
  rcases hc with rfl | rfl | rfl | rfl | rfl | rfl
  · exact w_c0
  · exact w_c1
  · exact w_c2
  · exact w_c3
  · exact w_c4
  · exact w_c5
set_option maxRecDepth 65536 in
theorem w_t1 : (words1.take 24).all (fun c => isCode c || c.before args0 about1) = true := by decide +kernel
set_option maxRecDepth 65536 in
theorem w_t2 : (words1.drop 24).all (fun c => isCode c || c.before args0 about1) = true := by decide +kernel
theorem w_tables : (allAtoms (Jvm.Cond.code x code maxLocals ret :: tables_1)).before args0 about1 = true := by
  rw [allAtoms_all]
  show words1.all (fun c => c.before args0 about1) = true
  refine all_split ?_ w_codes
  rw [← List.take_append_drop 24 words1, List.all_append, w_t1, w_t2]
  rfl
set_option maxRecDepth 65536 in
theorem w_case : (Jvm.Cond.and given_1 narrow_1).before args0 about1 = true := by decide +kernel
theorem w_applies : (headSpec (Jvm.Cond.code x code maxLocals ret :: tables_1) room_1).applies x e0.platform about1 = true :=
  (Spec.applies_iff w_frames).mpr ⟨w_running, w_runnable, w_alone, w_named, w_hears, w_ripe, w_room, w_tables⟩
theorem atStart : AtStart classFile x code maxLocals ret World_1 tables_1 room_1 Calls_1 rest_1 Pre_1 launch0 p0 e0 about1 theMethod args0 below0 :=
  ⟨lists_1, trivial, launch0.admits_env _ _ _, launch0.least_env, fairChoices_fair.cas, fairChoices_fair.clock, w_frames, w_args, w_heap, w_applies, trivial, trivial, w_case⟩
end start1
theorem witness_1 : WitnessClaimed_1 := ⟨start1.p0, start1.e0, start1.about1, start1.theMethod, start1.args0, start1.below0, start1.atStart⟩
end Jvm.Pilot.@@N@@
