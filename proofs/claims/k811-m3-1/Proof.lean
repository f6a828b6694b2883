import JvmDerived
import JvmDerived.Pilot.@@N@@Statement
import JvmDerived.Pilot.@@N@@Code
set_option linter.unusedVariables false
set_option linter.unusedSimpArgs false
namespace Jvm.RoadKit
open Sem ClassFile Op Lib Jvm.Stand Jvm.Free Jvm.LawKit
section New
variable {p : Program} {l : Launch} {e : Env} {R : Room} {s : State} {m : MethodId} {args : Array Value} {below : List Frame} {meth : Method} {c : Code} {T : State} {locs : List Loc} {cells slots : Nat}
theorem retI (X : Stand p l e R s m args below meth c T locs cells slots) (hx : p.tables.exec = Jvm.exec) {pc : Nat} {Ls : Array Slot} {z : Int32} {rest : List Value} (hret : meth.sig.returnType = some .int) (hd : decode c.code pc = .ok (.ireturn, 1)) {fs : List Frame}
    (hl : ∀ (f : JFrame) (acts : List Action), f.method = m → f.locked = none → f.entered = [] → (doReturn e (T.setTop f) acts (some (.int z))).1 = T.setFrames fs) : Steps p.tables e below (T.setTop (mkF m pc Ls (.int z :: rest))) (T.setFrames fs) := by
  have hm' : T.vm.method? m = some meth := X.method'
  have hn : narrow .int (.int z) = .int z := rfl
  show Steps p.tables e below (T.setTop { method := m, pc := pc, locals := Ls, stack := _ :: rest, locked := none }) _
  jvm_step X.here [X.here.top, hx, hd, hm', hret, hn]
  first | (intro acts; rw [hl _ acts rfl rfl rfl]) | rw [hl _ _ rfl rfl rfl]
  exact Steps.refl _
end New
end Jvm.RoadKit
namespace Jvm.Pilot.@@N@@
open Jvm Jvm.ClassFile Sem Op Lib Jvm.Free Jvm.Stand Jvm.LawKit Jvm.RoadKit Bundle Jvm.Pilot.@@N@@.Jvm.D
theorem own_retb (z : Int32) (h : z = 0 ∨ z = 1) : narrow .boolean (.int z) = .int z := by rcases h with rfl | rfl <;> rfl
theorem own_rem (x n : Int32) (hn : 0 < n.toInt) : 0 ≤ ((x &&& (2147483647 : Int32)) % n).toInt ∧ ((x &&& (2147483647 : Int32)) % n).toInt < n.toInt := by
  have h1 := c_mask x (2147483647 : Int32) 31 (by decide) (by decide)
  have h2 := (c_iremV (x &&& (2147483647 : Int32)) n).1 (by omega) hn
  exact ⟨h2.1, h2.2.1⟩
theorem own_of3 {k : Int32} (h : 0 ≤ k.toInt ∧ k.toInt < 3) : k = 0 ∨ k = 1 ∨ k = 2 := by
  have h2 : k.toInt = (0 : Int32).toInt ∨ k.toInt = (1 : Int32).toInt ∨ k.toInt = (2 : Int32).toInt := by simp; omega
  simpa only [Int32.toInt_inj] using h2
theorem own_of5 {k : Int32} (h : 0 ≤ k.toInt ∧ k.toInt < 5) : k = 0 ∨ k = 1 ∨ k = 2 ∨ k = 3 ∨ k = 4 := by
  have h2 : k.toInt = (0 : Int32).toInt ∨ k.toInt = (1 : Int32).toInt ∨ k.toInt = (2 : Int32).toInt ∨ k.toInt = (3 : Int32).toInt ∨ k.toInt = (4 : Int32).toInt := by simp; omega
  simpa only [Int32.toInt_inj] using h2
theorem own_of6 {k : Int32} (h : 0 ≤ k.toInt ∧ k.toInt < 6) : k = 0 ∨ k = 1 ∨ k = 2 ∨ k = 3 ∨ k = 4 ∨ k = 5 := by
  have h2 : k.toInt = (0 : Int32).toInt ∨ k.toInt = (1 : Int32).toInt ∨ k.toInt = (2 : Int32).toInt ∨ k.toInt = (3 : Int32).toInt ∨ k.toInt = (4 : Int32).toInt ∨ k.toInt = (5 : Int32).toInt := by simp; omega
  simpa only [Int32.toInt_inj] using h2
theorem own_eqI {args : Array Value} {s : State} {t : Term} {k : Int32} (h : (Jvm.Cond.eq t (.int k)).value args s none s [] = some true) : t.eval args s none [] s = some (.int k) := by
  obtain ⟨u, v, hu, hv, k1, k2⟩ := cmp_v (Or.inl h)
  have hv2 : v = .int k := Option.some.inj (hv.symm.trans (Term.int_eval k))
  subst hv2
  cases u <;> simp [Cond.value, hu, hv] at h
  subst h; exact hu
theorem own_fld {args : Array Value} {s : State} {t : Term} {a : Addr} {C n d : String} {k : Int32} (ev : t.eval args s none [] s = some (.ref a)) (h : (Jvm.Cond.eq (.field t C n d) (.int k)).value args s none s [] = some true) : Fld s s.heap a C n d (.int k) :=
  Fld.start ((fld_at ev).symm.trans (own_eqI h))
theorem own_len {args : Array Value} {s : State} {t : Term} {a : Addr} {cl : Cell} {ty : FieldType} {k : Int32} (ev : t.eval args s none [] s = some (.ref a)) (A : Arr s s.heap a cl ty) (h : (Jvm.Cond.eq (.length t) (.int k)).value args s none s [] = some true) : cl.slots.size.toInt32 = k := by
  obtain ⟨b, c, e1, e2, e3⟩ := Term.length_spec (own_eqI h)
  cases ev.symm.trans e1
  cases (A.fin (Vm.Alike.refl _)).symm.trans e2
  exact (Value.int.inj e3).symm
theorem own_lenlt {args : Array Value} {s : State} {t : Term} {a : Addr} {cl : Cell} {ty : FieldType} {k : Int32} (ev : t.eval args s none [] s = some (.ref a)) (A : Arr s s.heap a cl ty) (h : (Jvm.Cond.eq (.length t) (.int k)).value args s none s [] = some true) : cl.slots.size < 2 ^ 31 := by
  have h1 := own_eqI h
  have h2 := A.fin (Vm.Alike.refl _)
  apply Classical.byContradiction
  intro h3
  simp [Term.eval, ev, h2, h3] at h1
theorem own_elem {args : Array Value} {s : State} {t u : Term} {a b : Addr} {cl : Cell} {ty : FieldType} {j : Int32} (ev : t.eval args s none [] s = some (.ref a)) (A : Arr s s.heap a cl ty) (hu : u.eval args s none [] s = some (.ref b)) (h : (Jvm.Cond.eq (.elem t (.int j)) u).value args s none s [] = some true) : cl.slots[j.toNatClampNeg]? = some (.ref b) := by
  obtain ⟨x, y, hx, hy, -, -⟩ := cmp_v (Or.inl h)
  cases hu.symm.trans hy
  have h2 := (elem_in hx ev (Term.int_eval j) A.1).2
  cases x <;> simp [Cond.value, hx, hy] at h
  subst h; exact h2
theorem own_fldN {args : Array Value} {s : State} {t : Term} {a : Addr} {C n d : String} (ev : t.eval args s none [] s = some (.ref a)) (h : (Jvm.Cond.eq (.field t C n d) .null).value args s none s [] = some true) : Fld s s.heap a C n d .null :=
  Fld.start ((fld_at ev).symm.trans (null_v h))
theorem own_jz {q z j : Int32} (h : q.toInt ≤ z.toInt) (e : j.toInt < q.toInt) : j < z := by rw [Int32.lt_iff_toInt_lt]; omega
def own_word (q : Int32) (v0 v1 v2 v3 : Int64) : Int64 := if q = 0 then v0 else if q = 1 then v1 else if q = 2 then v2 else v3
theorem own_w0 (v0 v1 v2 v3 : Int64) : own_word 0 v0 v1 v2 v3 = v0 := by simp [own_word]
theorem own_w1 (v0 v1 v2 v3 : Int64) : own_word 1 v0 v1 v2 v3 = v1 := by simp [own_word]
theorem own_w2 (v0 v1 v2 v3 : Int64) : own_word 2 v0 v1 v2 v3 = v2 := by simp [own_word]
theorem own_w3 (v0 v1 v2 v3 : Int64) : own_word 3 v0 v1 v2 v3 = v3 := by simp [own_word]
theorem own_fr {f n : Int32} (hn : 1 ≤ n.toInt ∧ n.toInt ≤ 256) (h : 0 ≤ f.toInt ∧ f.toInt < n.toInt) : (f < (64 : Int32) ↔ f / (64 : Int32) = 0) ∧ (f / (64 : Int32) = 0 ∨ f / (64 : Int32) = 1 ∨ f / (64 : Int32) = 2 ∨ f / (64 : Int32) = 3) ∧ (f / (64 : Int32)).toInt = f.toInt / 64 := by
  have h1 := (c_idiv f (64 : Int32) 64 (by decide) (by decide)).1 h.1
  have h2 : (f / (64 : Int32)) = 0 ∨ (f / (64 : Int32)) = 1 ∨ (f / (64 : Int32)) = 2 ∨ (f / (64 : Int32)) = 3 := by
    have e0 : (0 : Int32).toInt = 0 := by decide
    have e1 : (1 : Int32).toInt = 1 := by decide
    have e2 : (2 : Int32).toInt = 2 := by decide
    have e3 : (3 : Int32).toInt = 3 := by decide
    have h3 : (f / (64 : Int32)).toInt = (0 : Int32).toInt ∨ (f / (64 : Int32)).toInt = (1 : Int32).toInt ∨ (f / (64 : Int32)).toInt = (2 : Int32).toInt ∨ (f / (64 : Int32)).toInt = (3 : Int32).toInt := by rw [e0, e1, e2, e3]; omega
    simpa only [Int32.toInt_inj] using h3
  refine ⟨?_, h2, h1⟩
  rw [Int32.lt_iff_toInt_lt, ← Int32.toInt_inj, h1]
  have e1 : (64 : Int32).toInt = 64 := by decide
  have e2 : (0 : Int32).toInt = 0 := by decide
  omega
def QC (Z : State) (a1 : Addr) (n1 : Int32) (h0 : Heap) (n0 : Nat) (v : Option Value) (h : Heap) (L : List Loc) : Prop := v = none ∧ Fr n0 L ∧ Keep h0 h [a1] ∧ Exa Z h a1 "com/example/phase7/phase7/metadata/FieldSet" ∧ Fld Z h a1 "com/example/phase7/phase7/metadata/FieldSet" "first" "J" (.long (0 : Int64)) ∧ ∃ (b : Addr) (kb : ClassId) (z : Int32), Fld Z h a1 "com/example/phase7/phase7/metadata/FieldSet" "further" "[J" (.ref b) ∧ Arv Z h b kb .long z [(.long (0 : Int64)), (.long (0 : Int64)), (.long (0 : Int64))] (.long (0 : Int64)) ∧ a1 ≠ b ∧ z.toInt = (n1.toInt - 1) / 64 ∧ (¬ z = 0 → n0 ≤ b)
theorem own_len64 {n : Int32} (hn : 1 ≤ n.toInt ∧ n.toInt ≤ 256) (h : (64 : Int32) < n) : ((n - (1 : Int32)) / (64 : Int32)).toInt = (n.toInt - 1) / 64 ∧ ¬ ((n - (1 : Int32)) / (64 : Int32)) < 0 ∧ ((n - (1 : Int32)) / (64 : Int32)).toNatClampNeg ≤ 3 := by
  have h0 := c_isub n (1 : Int32)
  have h4 := rng32 (n - (1 : Int32))
  have e1 : (1 : Int32).toInt = 1 := by decide
  have h5 : (n - (1 : Int32)).toInt = n.toInt - 1 := by omega
  have h1 := (c_idiv (n - (1 : Int32)) (64 : Int32) 64 (by decide) (by decide)).1 (by omega)
  rw [h5] at h1
  have e2 : (0 : Int32).toInt = 0 := by decide
  refine ⟨h1, ?_, ?_⟩
  · rw [Int32.lt_iff_toInt_lt]; omega
  · simp only [Int32.toNatClampNeg]; omega
theorem own_z0 {n : Int32} (hn : 1 ≤ n.toInt ∧ n.toInt ≤ 256) (h : ¬ (64 : Int32) < n) : (0 : Int32).toInt = (n.toInt - 1) / 64 := by
  rw [Int32.lt_iff_toInt_lt] at h
  have e1 : (64 : Int32).toInt = 64 := by decide
  have e2 : (0 : Int32).toInt = 0 := by decide
  omega
theorem d1_0 : decode prog_6_method_1_code 0 = .ok (.aload_n 0, 1) := by decide +kernel
theorem d1_1 : decode prog_6_method_1_code 1 = .ok (.invokespecial 3, 3) := by decide +kernel
theorem d1_4 : decode prog_6_method_1_code 4 = .ok (.aload_n 0, 1) := by decide +kernel
theorem d1_5 : decode prog_6_method_1_code 5 = .ok (.iload_n 1, 1) := by decide +kernel
theorem d1_6 : decode prog_6_method_1_code 6 = .ok (.bipush 64, 2) := by decide +kernel
theorem d1_8 : decode prog_6_method_1_code 8 = .ok (.if_icmp .gt 9, 3) := by decide +kernel
theorem d1_11 : decode prog_6_method_1_code 11 = .ok (.getstatic 11, 3) := by decide +kernel
theorem d1_14 : decode prog_6_method_1_code 14 = .ok (.goto 11, 3) := by decide +kernel
theorem d1_17 : decode prog_6_method_1_code 17 = .ok (.iload_n 1, 1) := by decide +kernel
theorem d1_18 : decode prog_6_method_1_code 18 = .ok (.iconst 1, 1) := by decide +kernel
theorem d1_19 : decode prog_6_method_1_code 19 = .ok (.isub, 1) := by decide +kernel
theorem d1_20 : decode prog_6_method_1_code 20 = .ok (.bipush 64, 2) := by decide +kernel
theorem d1_22 : decode prog_6_method_1_code 22 = .ok (.idiv, 1) := by decide +kernel
theorem d1_23 : decode prog_6_method_1_code 23 = .ok (.newarray .long, 2) := by decide +kernel
theorem d1_25 : decode prog_6_method_1_code 25 = .ok (.putfield 15, 3) := by decide +kernel
theorem d1_28 : decode prog_6_method_1_code 28 = .ok (.return_, 1) := by decide +kernel
theorem pn_rmC : plainName "com/example/phase7/phase7/metadata/FieldSet" = true := by first | (simp [plainName, overriddenIn]; done) | decide +kernel
theorem ef_rmC (m : MethodId) (a1 : Addr) (n1 : Int32) : entryFrame m #[(.ref a1), (.int n1)] 2 = mkF m 0 #[.val (.ref a1), .val (.int n1)] [] := by first | (simp [entryFrame, mkF, argsToLocals, Value.category]; done) | rfl
set_option maxRecDepth 65536 in
set_option maxHeartbeats 40000000 in
theorem rmC (l : Launch) (Z : State) (a0 : Array Value) (hw : ∀ d ∈ tables_1, d.before a0 Z = true) (ws : List Jvm.Cond) (a1 : Addr) (n1 : Int32) (wN : Addr) (kN : ClassId) (h0 : Heap) (n0 : Nat) (Z0 : n0 ≤ h0.size) (E_a1 : Exa Z h0 a1 "com/example/phase7/phase7/metadata/FieldSet") (F_f : Fld Z h0 a1 "com/example/phase7/phase7/metadata/FieldSet" "first" "J" (.long (0 : Int64))) (F_g : Fld Z h0 a1 "com/example/phase7/phase7/metadata/FieldSet" "further" "[J" .null) (S_N : Sta Z h0 "com/example/phase7/phase7/metadata/FieldSet" "NO_WORDS" "[J" (.ref wN)) (V_N : Arv Z h0 wN kN .long (0 : Int32) [(.long (0 : Int64)), (.long (0 : Int64)), (.long (0 : Int64))] (.long (0 : Int64))) (hne : a1 ≠ wN) (g_a1 : n0 ≤ a1) (hn : 1 ≤ n1.toInt ∧ n1.toInt ≤ 256) :
    MetFree l (⟨"com/example/phase7/phase7/metadata/FieldSet", "<init>", "(I)V"⟩ : MethodName) (head1 (Jvm.Cond.code (⟨"com/example/phase7/phase7/metadata/FieldSet", "<init>", "(I)V"⟩ : MethodName) prog_6_method_1_code 2 none :: ws) ({ frames := 1, cells := 1, slots := 3, locals := 12 } : Room)) (fun a U => a = #[(.ref a1), (.int n1)] ∧ Z.Warmed39 U.vm ∧ U.heap = h0) (fun _ _ _ _ _ => True) (fun _ U o U' => ∃ v L, o = .returned v ∧ QC Z a1 n1 h0 n0 v U'.heap L ∧ FrameEnd U o U' L ({ frames := 1, cells := 1, slots := 3, locals := 12 } : Room).cells ({ frames := 1, cells := 1, slots := 3, locals := 12 } : Room).slots) := by
  refine MetFree.of_bodySF (plainFor_of_name pn_rmC) hisR ?_
  intro p e s m args below meth c s₁ Bd hml0 hP hK
  obtain ⟨rfl, hZ, hh⟩ := hP
  have hx := Bd.exec
  have hby := Bd.bytes
  have hml : c.maxLocals = 2 := hml0
  have hown : s.vm.findClass "com/example/phase7/phase7/metadata/FieldSet" = some m.cls := findClass_of_methodNamed Bd.named
  have hnm := (name_of_methodNamed Bd.named Bd.method).1
  have X0 : Stand p l e ({ frames := 1, cells := 1, slots := 3, locals := 12 } : Room) s m #[(.ref a1), (.int n1)] below meth c s₁ [] 0 0 := Stand.of_body Bd
  have e0 : s₁.heap = h0 := by rw [← hh, Bd.state]; rfl
  have N0 := Fr.nil n0
  have pre0 : ∀ tt, Steps p.tables e below (s₁.setTop (mkF m 0 #[.val (.ref a1), .val (.int n1)] [])) tt → Steps p.tables e below (s₁.setTop (entryFrame m #[(.ref a1), (.int n1)] 2)) tt := fun tt kt => castTop (ef_rmC m a1 n1) kt
  obtain ⟨T1, X1, e1, st1⟩ := initO X0 hx hZ hown (hw _ (List.mem_of_getElem? (i := 7) rfl)) (hw _ (List.mem_of_getElem? (i := 8) rfl)) (hw _ (List.mem_of_getElem? (i := 9) rfl)) e0 (g := (mkF m 1 #[.val (.ref a1), .val (.int n1)] [(.ref a1)])) rfl (by rw [hml]; rfl) rfl (hb hby d1_1) (by decide) (W := 0) (by show 2 * 0 + _ ≤ _; exact Nat.le_of_eq rfl) (by decide)
  have pre2 : ∀ tt, Steps p.tables e below (T1.setTop (mkF m 8 #[.val (.ref a1), .val (.int n1)] [(.int (64 : Int32)), (.int n1), (.ref a1)])) tt → Steps p.tables e below (s₁.setTop (entryFrame m #[(.ref a1), (.int n1)] 2)) tt := by
    intro tt kt
    refine pre0 tt ?_
    show Steps p.tables e below (s₁.setTop (mkF m 0 #[.val (.ref a1), .val (.int n1)] [])) _
    refine XS.aloadN X0.here hx rfl (hb hby d1_0) rfl rfl ?_
    show Steps p.tables e below (s₁.setTop (mkF m 1 #[.val (.ref a1), .val (.int n1)] [(.ref a1)])) _
    refine st1 _ ?_
    show Steps p.tables e below (T1.setTop (mkF m 4 #[.val (.ref a1), .val (.int n1)] [])) _
    refine XS.aloadN X1.here hx rfl (hb hby d1_4) rfl rfl ?_
    show Steps p.tables e below (T1.setTop (mkF m 5 #[.val (.ref a1), .val (.int n1)] [(.ref a1)])) _
    refine XS.iloadN X1.here hx rfl (hb hby d1_5) rfl ?_
    show Steps p.tables e below (T1.setTop (mkF m 6 #[.val (.ref a1), .val (.int n1)] [(.int n1), (.ref a1)])) _
    refine XS.bipush X1.here hx rfl (hb hby d1_6) ?_
    exact kt
  by_cases c8_3 : (64 : Int32) < n1
  · obtain ⟨T4, h4, k4, X4, e4, E4, A4, EE4, st4⟩ := newPE X1 hx hZ (hw _ (List.mem_of_getElem? (i := 26) rfl)) e1 (g := (mkF m 23 #[.val (.ref a1), .val (.int n1)] [(.int ((n1 - (1 : Int32)) / (64 : Int32))), (.ref a1)])) rfl (hb hby d1_23) rfl (own_len64 hn c8_3).2.1 (cap := 3) (own_len64 hn c8_3).2.2 (by decide) (by decide) (by decide) (ad := "[J") (by decide)
    obtain ⟨b4, g4⟩ : ∃ z, z = h0.size := ⟨_, rfl⟩
    rw [← g4] at A4 EE4 st4
    have g_b4 : n0 ≤ b4 := Nat.le_trans Z0 (Nat.le_of_eq g4.symm)
    have sz_b4 : h0.size ≤ b4 := Nat.le_trans ((Keep.refl h0 [a1])).1 (Nat.le_of_eq g4.symm)
    have K4 : Keep h0 h4 [a1] := ((Keep.refl h0 [a1])).ext E4
    have V_b4 : Arv Z h4 b4 k4 .long ((n1 - (1 : Int32)) / (64 : Int32)) [] (.long (0 : Int64)) := Arv.new A4 (own_len64 hn c8_3).2.1
    obtain ⟨T5, h5, X5, e5, W5, st5⟩ := putF X4 hx hZ hown (host := "") (Or.inl (hw _ (List.mem_of_getElem? (i := 12) rfl))) Via.refl e4 (Fld.ext E4 F_g) (Exa.ext E4 E_a1) (Or.inr ⟨(hw _ (List.mem_of_getElem? (i := 13) rfl)), rfl, hnm⟩) (hw _ (List.mem_of_getElem? (i := 2) rfl)) (ty := (.array .long)) (by decide) rfl rfl (g := (mkF m 25 #[.val (.ref a1), .val (.int n1)] [(.ref b4), (.ref a1)])) rfl rfl (hb hby d1_25)
    have Fw5 := Fld.same W5 (Fld.ext E4 F_g)
    have N5 := Fr.snoc X5 N0 g_a1
    have K5 : Keep h0 h5 [a1] := (K4).wr W5 (Or.inl (List.mem_of_getElem? (i := 0) rfl))
    have pre6 : ∀ tt, Steps p.tables e below (T5.setTop (mkF m 28 #[.val (.ref a1), .val (.int n1)] [])) tt → Steps p.tables e below (s₁.setTop (entryFrame m #[(.ref a1), (.int n1)] 2)) tt := by
      intro tt kt
      refine pre2 tt ?_
      show Steps p.tables e below (T1.setTop (mkF m 8 #[.val (.ref a1), .val (.int n1)] [(.int (64 : Int32)), (.int n1), (.ref a1)])) _
      refine XS.icmpYes X1.here hx rfl (pc0 := 8) (pc' := 17) rfl (hb hby d1_8) rfl (tlt c8_3).2.2.1 (by decide) (by decide) ?_
      show Steps p.tables e below (T1.setTop (mkF m 17 #[.val (.ref a1), .val (.int n1)] [(.ref a1)])) _
      refine XS.iloadN X1.here hx rfl (hb hby d1_17) rfl ?_
      show Steps p.tables e below (T1.setTop (mkF m 18 #[.val (.ref a1), .val (.int n1)] [(.int n1), (.ref a1)])) _
      refine XS.iconst X1.here hx rfl (hb hby d1_18) ?_
      show Steps p.tables e below (T1.setTop (mkF m 19 #[.val (.ref a1), .val (.int n1)] [(.int (1 : Int32)), (.int n1), (.ref a1)])) _
      refine XS.isub X1.here hx rfl (hb hby d1_19) rfl ?_
      show Steps p.tables e below (T1.setTop (mkF m 20 #[.val (.ref a1), .val (.int n1)] [(.int (n1 - (1 : Int32))), (.ref a1)])) _
      refine XS.bipush X1.here hx rfl (hb hby d1_20) ?_
      show Steps p.tables e below (T1.setTop (mkF m 22 #[.val (.ref a1), .val (.int n1)] [(.int (64 : Int32)), (.int (n1 - (1 : Int32))), (.ref a1)])) _
      refine XS.idiv X1.here hx rfl (hb hby d1_22) rfl (by decide : ¬ ((64 : Int32) = (0 : Int32))) ?_
      show Steps p.tables e below (T1.setTop (mkF m 23 #[.val (.ref a1), .val (.int n1)] [(.int ((n1 - (1 : Int32)) / (64 : Int32))), (.ref a1)])) _
      refine st4 _ ?_
      show Steps p.tables e below (T4.setTop (mkF m 25 #[.val (.ref a1), .val (.int n1)] [(.ref b4), (.ref a1)])) _
      refine st5 _ ?_
      exact kt
    obtain ⟨fs, hr, hrun, hended, hW, hsame⟩ := X5.leave (v := none) (fun _ => rfl)
    refine ⟨_, _, pre6 _ ?_, hrun, hended, _, _, rfl, ?_, ⟨_, rfl⟩, hW, hsame.mono (by decide) (by decide)⟩
    · show Steps p.tables e below (T5.setTop (mkF m 28 #[.val (.ref a1), .val (.int n1)] [])) _
      exact X5.returnOut hx Bd.returns (hb hby d1_28) hr
    · show QC Z a1 n1 h0 n0 _ T5.heap _
      rw [e5]
      exact ⟨rfl, N5, K5, (Exa.wr W5 (Exa.ext E4 E_a1)), (Fld.other W5 (Fld.ext E4 F_f) (Or.inr (slot_ne (Or.inl (hw _ (List.mem_of_getElem? (i := 20) rfl))) (Or.inr (hw _ (List.mem_of_getElem? (i := 13) rfl))) (by decide) (t := .long) (t' := (.array .long)) (by decide) (by decide)))), b4, k4, _, Fw5, ((V_b4.other W5 (Ne.symm (Nat.ne_of_lt (Nat.lt_of_lt_of_le (F_f).lt (Nat.le_of_eq g4.symm)))))).pad (pad_rep [] _ 3), (Nat.ne_of_lt (Nat.lt_of_lt_of_le (F_f).lt (Nat.le_of_eq g4.symm))), (own_len64 hn c8_3).1, fun _ => g_b4⟩
  · obtain ⟨T7, X7, e7, st7⟩ := getS2 X1 hx hZ hown (host := "") (Or.inl (hw _ (List.mem_of_getElem? (i := 10) rfl))) Via.refl e1 S_N (g := (mkF m 11 #[.val (.ref a1), .val (.int n1)] [(.ref a1)])) rfl (hb hby d1_11)
    obtain ⟨T8, h8, X8, e8, W8, st8⟩ := putF X7 hx hZ hown (host := "") (Or.inl (hw _ (List.mem_of_getElem? (i := 12) rfl))) Via.refl e7 F_g E_a1 (Or.inr ⟨(hw _ (List.mem_of_getElem? (i := 13) rfl)), rfl, hnm⟩) (hw _ (List.mem_of_getElem? (i := 2) rfl)) (ty := (.array .long)) (by decide) rfl rfl (g := (mkF m 25 #[.val (.ref a1), .val (.int n1)] [(.ref wN), (.ref a1)])) rfl rfl (hb hby d1_25)
    have Fw8 := Fld.same W8 F_g
    have N8 := Fr.snoc X8 N0 g_a1
    have K8 : Keep h0 h8 [a1] := ((Keep.refl h0 [a1])).wr W8 (Or.inl (List.mem_of_getElem? (i := 0) rfl))
    have pre9 : ∀ tt, Steps p.tables e below (T8.setTop (mkF m 28 #[.val (.ref a1), .val (.int n1)] [])) tt → Steps p.tables e below (s₁.setTop (entryFrame m #[(.ref a1), (.int n1)] 2)) tt := by
      intro tt kt
      refine pre2 tt ?_
      show Steps p.tables e below (T1.setTop (mkF m 8 #[.val (.ref a1), .val (.int n1)] [(.int (64 : Int32)), (.int n1), (.ref a1)])) _
      refine XS.icmpNo X1.here hx rfl (hb hby d1_8) rfl (flt c8_3).2.2.1 ?_
      show Steps p.tables e below (T1.setTop (mkF m 11 #[.val (.ref a1), .val (.int n1)] [(.ref a1)])) _
      refine st7 _ ?_
      show Steps p.tables e below (T7.setTop (mkF m 14 #[.val (.ref a1), .val (.int n1)] [(.ref wN), (.ref a1)])) _
      refine XS.goto X7.here hx rfl (pc0 := 14) (pc' := 25) rfl (hb hby d1_14) (by decide) (by decide) ?_
      show Steps p.tables e below (T7.setTop (mkF m 25 #[.val (.ref a1), .val (.int n1)] [(.ref wN), (.ref a1)])) _
      refine st8 _ ?_
      exact kt
    obtain ⟨fs, hr, hrun, hended, hW, hsame⟩ := X8.leave (v := none) (fun _ => rfl)
    refine ⟨_, _, pre9 _ ?_, hrun, hended, _, _, rfl, ?_, ⟨_, rfl⟩, hW, hsame.mono (by decide) (by decide)⟩
    · show Steps p.tables e below (T8.setTop (mkF m 28 #[.val (.ref a1), .val (.int n1)] [])) _
      exact X8.returnOut hx Bd.returns (hb hby d1_28) hr
    · show QC Z a1 n1 h0 n0 _ T8.heap _
      rw [e8]
      exact ⟨rfl, N8, K8, (Exa.wr W8 E_a1), (Fld.other W8 F_f (Or.inr (slot_ne (Or.inl (hw _ (List.mem_of_getElem? (i := 20) rfl))) (Or.inr (hw _ (List.mem_of_getElem? (i := 13) rfl))) (by decide) (t := .long) (t' := (.array .long)) (by decide) (by decide)))), wN, kN, (0 : Int32), Fw8, (V_N.other W8 (Ne.symm hne)), hne, own_z0 hn c8_3, fun q => absurd rfl q⟩
def QI (Z : State) (r : Int32) (h0 : Heap) (n0 : Nat) (v : Option Value) (h : Heap) (L : List Loc) : Prop := v = some (.int r) ∧ Fr n0 L ∧ h = h0
def QA (Z : State) (a1 b : Addr) (kb : ClassId) (z1 : Int32) (u0 u1 u2 u3 : Int64) (h0 : Heap) (n0 : Nat) (v : Option Value) (h : Heap) (L : List Loc) : Prop := v = none ∧ Fr n0 L ∧ Keep h0 h [a1, b] ∧ Exa Z h a1 "com/example/phase7/phase7/metadata/FieldSet" ∧ Fld Z h a1 "com/example/phase7/phase7/metadata/FieldSet" "first" "J" (.long u0) ∧ Fld Z h a1 "com/example/phase7/phase7/metadata/FieldSet" "further" "[J" (.ref b) ∧ Arv Z h b kb .long z1 [(.long u1), (.long u2), (.long u3)] (.long (0 : Int64))
theorem d4_0 : decode prog_6_method_4_code 0 = .ok (.iload_n 1, 1) := by decide +kernel
theorem d4_1 : decode prog_6_method_4_code 1 = .ok (.bipush 64, 2) := by decide +kernel
theorem d4_3 : decode prog_6_method_4_code 3 = .ok (.if_icmp .ge 18, 3) := by decide +kernel
theorem d4_6 : decode prog_6_method_4_code 6 = .ok (.aload_n 0, 1) := by decide +kernel
theorem d4_7 : decode prog_6_method_4_code 7 = .ok (.dup, 1) := by decide +kernel
theorem d4_8 : decode prog_6_method_4_code 8 = .ok (.getfield 18, 3) := by decide +kernel
theorem d4_11 : decode prog_6_method_4_code 11 = .ok (.lconst 1, 1) := by decide +kernel
theorem d4_12 : decode prog_6_method_4_code 12 = .ok (.iload_n 1, 1) := by decide +kernel
theorem d4_13 : decode prog_6_method_4_code 13 = .ok (.lshl, 1) := by decide +kernel
theorem d4_14 : decode prog_6_method_4_code 14 = .ok (.lor, 1) := by decide +kernel
theorem d4_15 : decode prog_6_method_4_code 15 = .ok (.putfield 18, 3) := by decide +kernel
theorem d4_18 : decode prog_6_method_4_code 18 = .ok (.goto 20, 3) := by decide +kernel
theorem d4_21 : decode prog_6_method_4_code 21 = .ok (.aload_n 0, 1) := by decide +kernel
theorem d4_22 : decode prog_6_method_4_code 22 = .ok (.getfield 15, 3) := by decide +kernel
theorem d4_25 : decode prog_6_method_4_code 25 = .ok (.iload_n 1, 1) := by decide +kernel
theorem d4_26 : decode prog_6_method_4_code 26 = .ok (.bipush 64, 2) := by decide +kernel
theorem d4_28 : decode prog_6_method_4_code 28 = .ok (.idiv, 1) := by decide +kernel
theorem d4_29 : decode prog_6_method_4_code 29 = .ok (.iconst 1, 1) := by decide +kernel
theorem d4_30 : decode prog_6_method_4_code 30 = .ok (.isub, 1) := by decide +kernel
theorem d4_31 : decode prog_6_method_4_code 31 = .ok (.dup2, 1) := by decide +kernel
theorem d4_32 : decode prog_6_method_4_code 32 = .ok (.laload, 1) := by decide +kernel
theorem d4_33 : decode prog_6_method_4_code 33 = .ok (.lconst 1, 1) := by decide +kernel
theorem d4_34 : decode prog_6_method_4_code 34 = .ok (.iload_n 1, 1) := by decide +kernel
theorem d4_35 : decode prog_6_method_4_code 35 = .ok (.lshl, 1) := by decide +kernel
theorem d4_36 : decode prog_6_method_4_code 36 = .ok (.lor, 1) := by decide +kernel
theorem d4_37 : decode prog_6_method_4_code 37 = .ok (.lastore, 1) := by decide +kernel
theorem d4_38 : decode prog_6_method_4_code 38 = .ok (.return_, 1) := by decide +kernel
theorem pn_rmA : plainName "com/example/phase7/phase7/metadata/FieldSet" = true := by first | (simp [plainName, overriddenIn]; done) | decide +kernel
theorem ef_rmA (m : MethodId) (a1 : Addr) (f1 : Int32) : entryFrame m #[(.ref a1), (.int f1)] 2 = mkF m 0 #[.val (.ref a1), .val (.int f1)] [] := by first | (simp [entryFrame, mkF, argsToLocals, Value.category]; done) | rfl
set_option maxRecDepth 65536 in
set_option maxHeartbeats 40000000 in
theorem rmA (l : Launch) (Z : State) (a0 : Array Value) (hw : ∀ d ∈ tables_1, d.before a0 Z = true) (ws : List Jvm.Cond) (a1 b : Addr) (kb : ClassId) (f1 q1 z1 : Int32) (v0 v1 v2 v3 u0 u1 u2 u3 : Int64) (h0 : Heap) (n0 : Nat) (Z0 : n0 ≤ h0.size) (E_a1 : Exa Z h0 a1 "com/example/phase7/phase7/metadata/FieldSet") (F_f : Fld Z h0 a1 "com/example/phase7/phase7/metadata/FieldSet" "first" "J" (.long v0)) (F_g : Fld Z h0 a1 "com/example/phase7/phase7/metadata/FieldSet" "further" "[J" (.ref b)) (V_b : Arv Z h0 b kb .long z1 [(.long v1), (.long v2), (.long v3)] (.long (0 : Int64))) (hne : a1 ≠ b) (hq : f1 < (64 : Int32) ↔ q1 = 0) (hdv : f1 / (64 : Int32) = q1) (rq : q1 = 0 ∨ q1 = 1 ∨ q1 = 2 ∨ q1 = 3) (hz : q1.toInt ≤ z1.toInt) (g_a1 : n0 ≤ a1) (gz : ¬ z1 = 0 → n0 ≤ b) (hu0 : u0 = if q1 = 0 then (v0 ||| ((1 : Int64) <<< (f1 &&& 0x3f).toInt64)) else v0) (hu1 : u1 = if q1 = 1 then (v1 ||| ((1 : Int64) <<< (f1 &&& 0x3f).toInt64)) else v1) (hu2 : u2 = if q1 = 2 then (v2 ||| ((1 : Int64) <<< (f1 &&& 0x3f).toInt64)) else v2) (hu3 : u3 = if q1 = 3 then (v3 ||| ((1 : Int64) <<< (f1 &&& 0x3f).toInt64)) else v3) :
    MetFree l (⟨"com/example/phase7/phase7/metadata/FieldSet", "add", "(I)V"⟩ : MethodName) (head1 (Jvm.Cond.code (⟨"com/example/phase7/phase7/metadata/FieldSet", "add", "(I)V"⟩ : MethodName) prog_6_method_4_code 2 none :: ws) ({ frames := 0, cells := 0, slots := 0, locals := 0 } : Room)) (fun a U => a = #[(.ref a1), (.int f1)] ∧ Z.Warmed39 U.vm ∧ U.heap = h0) (fun _ _ _ _ _ => True) (fun _ U o U' => ∃ v L, o = .returned v ∧ QA Z a1 b kb z1 u0 u1 u2 u3 h0 n0 v U'.heap L ∧ FrameEnd U o U' L ({ frames := 0, cells := 0, slots := 0, locals := 0 } : Room).cells ({ frames := 0, cells := 0, slots := 0, locals := 0 } : Room).slots) := by
  refine MetFree.of_bodySF (plainFor_of_name pn_rmA) hisR ?_
  intro p e s m args below meth c s₁ Bd hml0 hP hK
  obtain ⟨rfl, hZ, hh⟩ := hP
  have hx := Bd.exec
  have hby := Bd.bytes
  have hml : c.maxLocals = 2 := hml0
  have hown : s.vm.findClass "com/example/phase7/phase7/metadata/FieldSet" = some m.cls := findClass_of_methodNamed Bd.named
  have hnm := (name_of_methodNamed Bd.named Bd.method).1
  have X0 : Stand p l e ({ frames := 0, cells := 0, slots := 0, locals := 0 } : Room) s m #[(.ref a1), (.int f1)] below meth c s₁ [] 0 0 := Stand.of_body Bd
  have e0 : s₁.heap = h0 := by rw [← hh, Bd.state]; rfl
  have N0 := Fr.nil n0
  have pre0 : ∀ tt, Steps p.tables e below (s₁.setTop (mkF m 0 #[.val (.ref a1), .val (.int f1)] [])) tt → Steps p.tables e below (s₁.setTop (entryFrame m #[(.ref a1), (.int f1)] 2)) tt := fun tt kt => castTop (ef_rmA m a1 f1) kt
  rcases rq with rfl | rfl | rfl | rfl
  · rw [if_pos rfl] at hu0
    rw [if_neg (by decide)] at hu1
    rw [if_neg (by decide)] at hu2
    rw [if_neg (by decide)] at hu3
    have hq0 : f1 < (64 : Int32) := hq.mpr rfl
    obtain ⟨T1, X1, e1, st1⟩ := getF X0 hx hZ hown (host := "") (Or.inl (hw _ (List.mem_of_getElem? (i := 19) rfl))) Via.refl e0 F_f (g := (mkF m 8 #[.val (.ref a1), .val (.int f1)] [(.ref a1), (.ref a1)])) rfl rfl (hb hby d4_8)
    obtain ⟨T2, h2, X2, e2, W2, st2⟩ := putF X1 hx hZ hown (host := "") (Or.inl (hw _ (List.mem_of_getElem? (i := 19) rfl))) Via.refl e1 F_f E_a1 (Or.inl (hw _ (List.mem_of_getElem? (i := 20) rfl))) (hw _ (List.mem_of_getElem? (i := 2) rfl)) (ty := .long) (by decide) rfl rfl (g := (mkF m 15 #[.val (.ref a1), .val (.int f1)] [(.long (v0 ||| ((1 : Int64) <<< (f1 &&& 0x3f).toInt64))), (.ref a1)])) rfl rfl (hb hby d4_15)
    have Fw2 := Fld.same W2 F_f
    have N2 := Fr.snoc X2 N0 g_a1
    have K2 : Keep h0 h2 [a1, b] := ((Keep.refl h0 [a1, b])).wr W2 (Or.inl (List.mem_of_getElem? (i := 0) rfl))
    have pre3 : ∀ tt, Steps p.tables e below (T2.setTop (mkF m 38 #[.val (.ref a1), .val (.int f1)] [])) tt → Steps p.tables e below (s₁.setTop (entryFrame m #[(.ref a1), (.int f1)] 2)) tt := by
      intro tt kt
      refine pre0 tt ?_
      show Steps p.tables e below (s₁.setTop (mkF m 0 #[.val (.ref a1), .val (.int f1)] [])) _
      refine XS.iloadN X0.here hx rfl (hb hby d4_0) rfl ?_
      show Steps p.tables e below (s₁.setTop (mkF m 1 #[.val (.ref a1), .val (.int f1)] [(.int f1)])) _
      refine XS.bipush X0.here hx rfl (hb hby d4_1) ?_
      show Steps p.tables e below (s₁.setTop (mkF m 3 #[.val (.ref a1), .val (.int f1)] [(.int (64 : Int32)), (.int f1)])) _
      refine XS.icmpNo X0.here hx rfl (hb hby d4_3) rfl (tlt (hq.mpr rfl)).2.1 ?_
      show Steps p.tables e below (s₁.setTop (mkF m 6 #[.val (.ref a1), .val (.int f1)] [])) _
      refine XS.aloadN X0.here hx rfl (hb hby d4_6) rfl rfl ?_
      show Steps p.tables e below (s₁.setTop (mkF m 7 #[.val (.ref a1), .val (.int f1)] [(.ref a1)])) _
      refine XS.dup X0.here hx rfl (hb hby d4_7) rfl rfl ?_
      show Steps p.tables e below (s₁.setTop (mkF m 8 #[.val (.ref a1), .val (.int f1)] [(.ref a1), (.ref a1)])) _
      refine st1 _ ?_
      show Steps p.tables e below (T1.setTop (mkF m 11 #[.val (.ref a1), .val (.int f1)] [(.long v0), (.ref a1)])) _
      refine XS.lconst X1.here hx rfl (hb hby d4_11) ?_
      show Steps p.tables e below (T1.setTop (mkF m 12 #[.val (.ref a1), .val (.int f1)] [(.long (1 : Int64)), (.long v0), (.ref a1)])) _
      refine XS.iloadN X1.here hx rfl (hb hby d4_12) rfl ?_
      show Steps p.tables e below (T1.setTop (mkF m 13 #[.val (.ref a1), .val (.int f1)] [(.int f1), (.long (1 : Int64)), (.long v0), (.ref a1)])) _
      refine XS.lshl X1.here hx rfl (hb hby d4_13) rfl ?_
      show Steps p.tables e below (T1.setTop (mkF m 14 #[.val (.ref a1), .val (.int f1)] [(.long ((1 : Int64) <<< (f1 &&& 0x3f).toInt64)), (.long v0), (.ref a1)])) _
      refine XS.lor X1.here hx rfl (hb hby d4_14) rfl ?_
      show Steps p.tables e below (T1.setTop (mkF m 15 #[.val (.ref a1), .val (.int f1)] [(.long (v0 ||| ((1 : Int64) <<< (f1 &&& 0x3f).toInt64))), (.ref a1)])) _
      refine st2 _ ?_
      show Steps p.tables e below (T2.setTop (mkF m 18 #[.val (.ref a1), .val (.int f1)] [])) _
      refine XS.goto X2.here hx rfl (pc0 := 18) (pc' := 38) rfl (hb hby d4_18) (by decide) (by decide) ?_
      exact kt
    obtain ⟨fs, hr, hrun, hended, hW, hsame⟩ := X2.leave (v := none) (fun _ => rfl)
    refine ⟨_, _, pre3 _ ?_, hrun, hended, _, _, rfl, ?_, ⟨_, rfl⟩, hW, hsame.mono (by decide) (by decide)⟩
    · show Steps p.tables e below (T2.setTop (mkF m 38 #[.val (.ref a1), .val (.int f1)] [])) _
      exact X2.returnOut hx Bd.returns (hb hby d4_38) hr
    · show QA Z a1 b kb z1 u0 u1 u2 u3 h0 n0 _ T2.heap _
      rw [e2]
      rw [hu0, hu1, hu2, hu3]
      exact ⟨rfl, N2, K2, (Exa.wr W2 E_a1), Fw2, (Fld.other W2 F_g (Or.inr (slot_ne (Or.inr (hw _ (List.mem_of_getElem? (i := 13) rfl))) (Or.inl (hw _ (List.mem_of_getElem? (i := 20) rfl))) (by decide) (t := (.array .long)) (t' := .long) (by decide) (by decide)))), (V_b.other W2 (Ne.symm hne))⟩
  · rw [if_neg (by decide)] at hu0
    rw [if_pos rfl] at hu1
    rw [if_neg (by decide)] at hu2
    rw [if_neg (by decide)] at hu3
    have hj : ((f1 / (64 : Int32)) - (1 : Int32)) = (0 : Int32) := by rw [hdv]; decide
    have hin : ¬ (0 : Int32) < 0 ∧ (0 : Int32) < z1 := ⟨by decide, own_jz hz (by decide)⟩
    have g_b : n0 ≤ b := gz (fun q => by rw [q] at hz; exact absurd hz (by decide))
    obtain ⟨T4, X4, e4, st4⟩ := getF X0 hx hZ hown (host := "") (Or.inl (hw _ (List.mem_of_getElem? (i := 12) rfl))) Via.refl e0 F_g (g := (mkF m 22 #[.val (.ref a1), .val (.int f1)] [(.ref a1)])) rfl rfl (hb hby d4_22)
    have VO5 := V_b
    obtain ⟨cl5, Ar5, q5, S5, M5, H5, G5⟩ := VO5
    have hin5 : ¬ ((0 : Int32) < 0 ∨ cl5.slots.size ≤ ((0 : Int32)).toNatClampNeg) := inb_of S5 hin
    have hat5 : cl5.slots[((0 : Int32)).toNatClampNeg]? = some (.long v1) := H5.at hin5 rfl
    have VO6 := V_b
    obtain ⟨cl6, Ar6, q6, S6, M6, H6, G6⟩ := VO6
    have hin6 : ¬ ((0 : Int32) < 0 ∨ cl6.slots.size ≤ ((0 : Int32)).toNatClampNeg) := inb_of S6 hin
    obtain ⟨T7, h7, X7, e7, W7, st7⟩ := stJ X4 hx hZ e4 Ar6 (j := (0 : Int32)) hin6 (g := (mkF m 37 #[.val (.ref a1), .val (.int f1)] [(.long (v1 ||| ((1 : Int64) <<< (f1 &&& 0x3f).toInt64))), (.int (0 : Int32)), (.ref b)])) rfl rfl (hb hby d4_37)
    have N7 := Fr.snoc X7 N0 g_b
    have K7 : Keep h0 h7 [a1, b] := ((Keep.refl h0 [a1, b])).wr W7 (Or.inl (List.mem_of_getElem? (i := 1) rfl))
    have V7 : Arv Z h7 b kb .long z1 [(.long (v1 ||| ((1 : Int64) <<< (f1 &&& 0x3f).toInt64))), (.long v2), (.long v3)] (.long (0 : Int64)) := Arv.set Ar6 q6 S6 M6 H6 G6 rfl W7 0 rfl (Nat.le_of_ble_eq_true rfl)
    have pre8 : ∀ tt, Steps p.tables e below (T7.setTop (mkF m 38 #[.val (.ref a1), .val (.int f1)] [])) tt → Steps p.tables e below (s₁.setTop (entryFrame m #[(.ref a1), (.int f1)] 2)) tt := by
      intro tt kt
      refine pre0 tt ?_
      show Steps p.tables e below (s₁.setTop (mkF m 0 #[.val (.ref a1), .val (.int f1)] [])) _
      refine XS.iloadN X0.here hx rfl (hb hby d4_0) rfl ?_
      show Steps p.tables e below (s₁.setTop (mkF m 1 #[.val (.ref a1), .val (.int f1)] [(.int f1)])) _
      refine XS.bipush X0.here hx rfl (hb hby d4_1) ?_
      show Steps p.tables e below (s₁.setTop (mkF m 3 #[.val (.ref a1), .val (.int f1)] [(.int (64 : Int32)), (.int f1)])) _
      refine XS.icmpYes X0.here hx rfl (pc0 := 3) (pc' := 21) rfl (hb hby d4_3) rfl (flt (fun q => absurd (hq.mp q) (by decide))).2.1 (by decide) (by decide) ?_
      show Steps p.tables e below (s₁.setTop (mkF m 21 #[.val (.ref a1), .val (.int f1)] [])) _
      refine XS.aloadN X0.here hx rfl (hb hby d4_21) rfl rfl ?_
      show Steps p.tables e below (s₁.setTop (mkF m 22 #[.val (.ref a1), .val (.int f1)] [(.ref a1)])) _
      refine st4 _ ?_
      show Steps p.tables e below (T4.setTop (mkF m 25 #[.val (.ref a1), .val (.int f1)] [(.ref b)])) _
      refine XS.iloadN X4.here hx rfl (hb hby d4_25) rfl ?_
      show Steps p.tables e below (T4.setTop (mkF m 26 #[.val (.ref a1), .val (.int f1)] [(.int f1), (.ref b)])) _
      refine XS.bipush X4.here hx rfl (hb hby d4_26) ?_
      show Steps p.tables e below (T4.setTop (mkF m 28 #[.val (.ref a1), .val (.int f1)] [(.int (64 : Int32)), (.int f1), (.ref b)])) _
      refine XS.idiv X4.here hx rfl (hb hby d4_28) rfl (by decide : ¬ ((64 : Int32) = (0 : Int32))) ?_
      show Steps p.tables e below (T4.setTop (mkF m 29 #[.val (.ref a1), .val (.int f1)] [(.int (f1 / (64 : Int32))), (.ref b)])) _
      refine XS.iconst X4.here hx rfl (hb hby d4_29) ?_
      show Steps p.tables e below (T4.setTop (mkF m 30 #[.val (.ref a1), .val (.int f1)] [(.int (1 : Int32)), (.int (f1 / (64 : Int32))), (.ref b)])) _
      refine XS.isub X4.here hx rfl (hb hby d4_30) rfl ?_
      show Steps p.tables e below (T4.setTop (mkF m 31 #[.val (.ref a1), .val (.int f1)] [(.int ((f1 / (64 : Int32)) - (1 : Int32))), (.ref b)])) _
      rw [hj]
      show Steps p.tables e below (T4.setTop (mkF m 31 #[.val (.ref a1), .val (.int f1)] [(.int (0 : Int32)), (.ref b)])) _
      refine XT.dup2 X4.here hx rfl (hb hby d4_31) rfl rfl rfl ?_
      show Steps p.tables e below (T4.setTop (mkF m 32 #[.val (.ref a1), .val (.int f1)] [(.int (0 : Int32)), (.ref b), (.int (0 : Int32)), (.ref b)])) _
      refine X4.laload hx (j := (0 : Int32)) (v := (.long v1)) (by rw [e4]; exact Ar5.1) (State.isArrayOf_alike hZ.alike Ar5.2.1) Ar5.2.2 hin5 hat5 (g := (mkF m 32 #[.val (.ref a1), .val (.int f1)] [(.int (0 : Int32)), (.ref b), (.int (0 : Int32)), (.ref b)])) rfl rfl (hb hby d4_32) _ ?_
      show Steps p.tables e below (T4.setTop (mkF m 33 #[.val (.ref a1), .val (.int f1)] [(.long v1), (.int (0 : Int32)), (.ref b)])) _
      refine XS.lconst X4.here hx rfl (hb hby d4_33) ?_
      show Steps p.tables e below (T4.setTop (mkF m 34 #[.val (.ref a1), .val (.int f1)] [(.long (1 : Int64)), (.long v1), (.int (0 : Int32)), (.ref b)])) _
      refine XS.iloadN X4.here hx rfl (hb hby d4_34) rfl ?_
      show Steps p.tables e below (T4.setTop (mkF m 35 #[.val (.ref a1), .val (.int f1)] [(.int f1), (.long (1 : Int64)), (.long v1), (.int (0 : Int32)), (.ref b)])) _
      refine XS.lshl X4.here hx rfl (hb hby d4_35) rfl ?_
      show Steps p.tables e below (T4.setTop (mkF m 36 #[.val (.ref a1), .val (.int f1)] [(.long ((1 : Int64) <<< (f1 &&& 0x3f).toInt64)), (.long v1), (.int (0 : Int32)), (.ref b)])) _
      refine XS.lor X4.here hx rfl (hb hby d4_36) rfl ?_
      show Steps p.tables e below (T4.setTop (mkF m 37 #[.val (.ref a1), .val (.int f1)] [(.long (v1 ||| ((1 : Int64) <<< (f1 &&& 0x3f).toInt64))), (.int (0 : Int32)), (.ref b)])) _
      refine st7 _ ?_
      exact kt
    obtain ⟨fs, hr, hrun, hended, hW, hsame⟩ := X7.leave (v := none) (fun _ => rfl)
    refine ⟨_, _, pre8 _ ?_, hrun, hended, _, _, rfl, ?_, ⟨_, rfl⟩, hW, hsame.mono (by decide) (by decide)⟩
    · show Steps p.tables e below (T7.setTop (mkF m 38 #[.val (.ref a1), .val (.int f1)] [])) _
      exact X7.returnOut hx Bd.returns (hb hby d4_38) hr
    · show QA Z a1 b kb z1 u0 u1 u2 u3 h0 n0 _ T7.heap _
      rw [e7]
      rw [hu0, hu1, hu2, hu3]
      exact ⟨rfl, N7, K7, (Exa.wr W7 E_a1), (Fld.other W7 F_f (Or.inl hne)), (Fld.other W7 F_g (Or.inl hne)), V7⟩
  · rw [if_neg (by decide)] at hu0
    rw [if_neg (by decide)] at hu1
    rw [if_pos rfl] at hu2
    rw [if_neg (by decide)] at hu3
    have hj : ((f1 / (64 : Int32)) - (1 : Int32)) = (1 : Int32) := by rw [hdv]; decide
    have hin : ¬ (1 : Int32) < 0 ∧ (1 : Int32) < z1 := ⟨by decide, own_jz hz (by decide)⟩
    have g_b : n0 ≤ b := gz (fun q => by rw [q] at hz; exact absurd hz (by decide))
    obtain ⟨T9, X9, e9, st9⟩ := getF X0 hx hZ hown (host := "") (Or.inl (hw _ (List.mem_of_getElem? (i := 12) rfl))) Via.refl e0 F_g (g := (mkF m 22 #[.val (.ref a1), .val (.int f1)] [(.ref a1)])) rfl rfl (hb hby d4_22)
    have VO10 := V_b
    obtain ⟨cl10, Ar10, q10, S10, M10, H10, G10⟩ := VO10
    have hin10 : ¬ ((1 : Int32) < 0 ∨ cl10.slots.size ≤ ((1 : Int32)).toNatClampNeg) := inb_of S10 hin
    have hat10 : cl10.slots[((1 : Int32)).toNatClampNeg]? = some (.long v2) := H10.at hin10 rfl
    have VO11 := V_b
    obtain ⟨cl11, Ar11, q11, S11, M11, H11, G11⟩ := VO11
    have hin11 : ¬ ((1 : Int32) < 0 ∨ cl11.slots.size ≤ ((1 : Int32)).toNatClampNeg) := inb_of S11 hin
    obtain ⟨T12, h12, X12, e12, W12, st12⟩ := stJ X9 hx hZ e9 Ar11 (j := (1 : Int32)) hin11 (g := (mkF m 37 #[.val (.ref a1), .val (.int f1)] [(.long (v2 ||| ((1 : Int64) <<< (f1 &&& 0x3f).toInt64))), (.int (1 : Int32)), (.ref b)])) rfl rfl (hb hby d4_37)
    have N12 := Fr.snoc X12 N0 g_b
    have K12 : Keep h0 h12 [a1, b] := ((Keep.refl h0 [a1, b])).wr W12 (Or.inl (List.mem_of_getElem? (i := 1) rfl))
    have V12 : Arv Z h12 b kb .long z1 [(.long v1), (.long (v2 ||| ((1 : Int64) <<< (f1 &&& 0x3f).toInt64))), (.long v3)] (.long (0 : Int64)) := Arv.set Ar11 q11 S11 M11 H11 G11 rfl W12 1 rfl (Nat.le_of_ble_eq_true rfl)
    have pre13 : ∀ tt, Steps p.tables e below (T12.setTop (mkF m 38 #[.val (.ref a1), .val (.int f1)] [])) tt → Steps p.tables e below (s₁.setTop (entryFrame m #[(.ref a1), (.int f1)] 2)) tt := by
      intro tt kt
      refine pre0 tt ?_
      show Steps p.tables e below (s₁.setTop (mkF m 0 #[.val (.ref a1), .val (.int f1)] [])) _
      refine XS.iloadN X0.here hx rfl (hb hby d4_0) rfl ?_
      show Steps p.tables e below (s₁.setTop (mkF m 1 #[.val (.ref a1), .val (.int f1)] [(.int f1)])) _
      refine XS.bipush X0.here hx rfl (hb hby d4_1) ?_
      show Steps p.tables e below (s₁.setTop (mkF m 3 #[.val (.ref a1), .val (.int f1)] [(.int (64 : Int32)), (.int f1)])) _
      refine XS.icmpYes X0.here hx rfl (pc0 := 3) (pc' := 21) rfl (hb hby d4_3) rfl (flt (fun q => absurd (hq.mp q) (by decide))).2.1 (by decide) (by decide) ?_
      show Steps p.tables e below (s₁.setTop (mkF m 21 #[.val (.ref a1), .val (.int f1)] [])) _
      refine XS.aloadN X0.here hx rfl (hb hby d4_21) rfl rfl ?_
      show Steps p.tables e below (s₁.setTop (mkF m 22 #[.val (.ref a1), .val (.int f1)] [(.ref a1)])) _
      refine st9 _ ?_
      show Steps p.tables e below (T9.setTop (mkF m 25 #[.val (.ref a1), .val (.int f1)] [(.ref b)])) _
      refine XS.iloadN X9.here hx rfl (hb hby d4_25) rfl ?_
      show Steps p.tables e below (T9.setTop (mkF m 26 #[.val (.ref a1), .val (.int f1)] [(.int f1), (.ref b)])) _
      refine XS.bipush X9.here hx rfl (hb hby d4_26) ?_
      show Steps p.tables e below (T9.setTop (mkF m 28 #[.val (.ref a1), .val (.int f1)] [(.int (64 : Int32)), (.int f1), (.ref b)])) _
      refine XS.idiv X9.here hx rfl (hb hby d4_28) rfl (by decide : ¬ ((64 : Int32) = (0 : Int32))) ?_
      show Steps p.tables e below (T9.setTop (mkF m 29 #[.val (.ref a1), .val (.int f1)] [(.int (f1 / (64 : Int32))), (.ref b)])) _
      refine XS.iconst X9.here hx rfl (hb hby d4_29) ?_
      show Steps p.tables e below (T9.setTop (mkF m 30 #[.val (.ref a1), .val (.int f1)] [(.int (1 : Int32)), (.int (f1 / (64 : Int32))), (.ref b)])) _
      refine XS.isub X9.here hx rfl (hb hby d4_30) rfl ?_
      show Steps p.tables e below (T9.setTop (mkF m 31 #[.val (.ref a1), .val (.int f1)] [(.int ((f1 / (64 : Int32)) - (1 : Int32))), (.ref b)])) _
      rw [hj]
      show Steps p.tables e below (T9.setTop (mkF m 31 #[.val (.ref a1), .val (.int f1)] [(.int (1 : Int32)), (.ref b)])) _
      refine XT.dup2 X9.here hx rfl (hb hby d4_31) rfl rfl rfl ?_
      show Steps p.tables e below (T9.setTop (mkF m 32 #[.val (.ref a1), .val (.int f1)] [(.int (1 : Int32)), (.ref b), (.int (1 : Int32)), (.ref b)])) _
      refine X9.laload hx (j := (1 : Int32)) (v := (.long v2)) (by rw [e9]; exact Ar10.1) (State.isArrayOf_alike hZ.alike Ar10.2.1) Ar10.2.2 hin10 hat10 (g := (mkF m 32 #[.val (.ref a1), .val (.int f1)] [(.int (1 : Int32)), (.ref b), (.int (1 : Int32)), (.ref b)])) rfl rfl (hb hby d4_32) _ ?_
      show Steps p.tables e below (T9.setTop (mkF m 33 #[.val (.ref a1), .val (.int f1)] [(.long v2), (.int (1 : Int32)), (.ref b)])) _
      refine XS.lconst X9.here hx rfl (hb hby d4_33) ?_
      show Steps p.tables e below (T9.setTop (mkF m 34 #[.val (.ref a1), .val (.int f1)] [(.long (1 : Int64)), (.long v2), (.int (1 : Int32)), (.ref b)])) _
      refine XS.iloadN X9.here hx rfl (hb hby d4_34) rfl ?_
      show Steps p.tables e below (T9.setTop (mkF m 35 #[.val (.ref a1), .val (.int f1)] [(.int f1), (.long (1 : Int64)), (.long v2), (.int (1 : Int32)), (.ref b)])) _
      refine XS.lshl X9.here hx rfl (hb hby d4_35) rfl ?_
      show Steps p.tables e below (T9.setTop (mkF m 36 #[.val (.ref a1), .val (.int f1)] [(.long ((1 : Int64) <<< (f1 &&& 0x3f).toInt64)), (.long v2), (.int (1 : Int32)), (.ref b)])) _
      refine XS.lor X9.here hx rfl (hb hby d4_36) rfl ?_
      show Steps p.tables e below (T9.setTop (mkF m 37 #[.val (.ref a1), .val (.int f1)] [(.long (v2 ||| ((1 : Int64) <<< (f1 &&& 0x3f).toInt64))), (.int (1 : Int32)), (.ref b)])) _
      refine st12 _ ?_
      exact kt
    obtain ⟨fs, hr, hrun, hended, hW, hsame⟩ := X12.leave (v := none) (fun _ => rfl)
    refine ⟨_, _, pre13 _ ?_, hrun, hended, _, _, rfl, ?_, ⟨_, rfl⟩, hW, hsame.mono (by decide) (by decide)⟩
    · show Steps p.tables e below (T12.setTop (mkF m 38 #[.val (.ref a1), .val (.int f1)] [])) _
      exact X12.returnOut hx Bd.returns (hb hby d4_38) hr
    · show QA Z a1 b kb z1 u0 u1 u2 u3 h0 n0 _ T12.heap _
      rw [e12]
      rw [hu0, hu1, hu2, hu3]
      exact ⟨rfl, N12, K12, (Exa.wr W12 E_a1), (Fld.other W12 F_f (Or.inl hne)), (Fld.other W12 F_g (Or.inl hne)), V12⟩
  · rw [if_neg (by decide)] at hu0
    rw [if_neg (by decide)] at hu1
    rw [if_neg (by decide)] at hu2
    rw [if_pos rfl] at hu3
    have hj : ((f1 / (64 : Int32)) - (1 : Int32)) = (2 : Int32) := by rw [hdv]; decide
    have hin : ¬ (2 : Int32) < 0 ∧ (2 : Int32) < z1 := ⟨by decide, own_jz hz (by decide)⟩
    have g_b : n0 ≤ b := gz (fun q => by rw [q] at hz; exact absurd hz (by decide))
    obtain ⟨T14, X14, e14, st14⟩ := getF X0 hx hZ hown (host := "") (Or.inl (hw _ (List.mem_of_getElem? (i := 12) rfl))) Via.refl e0 F_g (g := (mkF m 22 #[.val (.ref a1), .val (.int f1)] [(.ref a1)])) rfl rfl (hb hby d4_22)
    have VO15 := V_b
    obtain ⟨cl15, Ar15, q15, S15, M15, H15, G15⟩ := VO15
    have hin15 : ¬ ((2 : Int32) < 0 ∨ cl15.slots.size ≤ ((2 : Int32)).toNatClampNeg) := inb_of S15 hin
    have hat15 : cl15.slots[((2 : Int32)).toNatClampNeg]? = some (.long v3) := H15.at hin15 rfl
    have VO16 := V_b
    obtain ⟨cl16, Ar16, q16, S16, M16, H16, G16⟩ := VO16
    have hin16 : ¬ ((2 : Int32) < 0 ∨ cl16.slots.size ≤ ((2 : Int32)).toNatClampNeg) := inb_of S16 hin
    obtain ⟨T17, h17, X17, e17, W17, st17⟩ := stJ X14 hx hZ e14 Ar16 (j := (2 : Int32)) hin16 (g := (mkF m 37 #[.val (.ref a1), .val (.int f1)] [(.long (v3 ||| ((1 : Int64) <<< (f1 &&& 0x3f).toInt64))), (.int (2 : Int32)), (.ref b)])) rfl rfl (hb hby d4_37)
    have N17 := Fr.snoc X17 N0 g_b
    have K17 : Keep h0 h17 [a1, b] := ((Keep.refl h0 [a1, b])).wr W17 (Or.inl (List.mem_of_getElem? (i := 1) rfl))
    have V17 : Arv Z h17 b kb .long z1 [(.long v1), (.long v2), (.long (v3 ||| ((1 : Int64) <<< (f1 &&& 0x3f).toInt64)))] (.long (0 : Int64)) := Arv.set Ar16 q16 S16 M16 H16 G16 rfl W17 2 rfl (Nat.le_of_ble_eq_true rfl)
    have pre18 : ∀ tt, Steps p.tables e below (T17.setTop (mkF m 38 #[.val (.ref a1), .val (.int f1)] [])) tt → Steps p.tables e below (s₁.setTop (entryFrame m #[(.ref a1), (.int f1)] 2)) tt := by
      intro tt kt
      refine pre0 tt ?_
      show Steps p.tables e below (s₁.setTop (mkF m 0 #[.val (.ref a1), .val (.int f1)] [])) _
      refine XS.iloadN X0.here hx rfl (hb hby d4_0) rfl ?_
      show Steps p.tables e below (s₁.setTop (mkF m 1 #[.val (.ref a1), .val (.int f1)] [(.int f1)])) _
      refine XS.bipush X0.here hx rfl (hb hby d4_1) ?_
      show Steps p.tables e below (s₁.setTop (mkF m 3 #[.val (.ref a1), .val (.int f1)] [(.int (64 : Int32)), (.int f1)])) _
      refine XS.icmpYes X0.here hx rfl (pc0 := 3) (pc' := 21) rfl (hb hby d4_3) rfl (flt (fun q => absurd (hq.mp q) (by decide))).2.1 (by decide) (by decide) ?_
      show Steps p.tables e below (s₁.setTop (mkF m 21 #[.val (.ref a1), .val (.int f1)] [])) _
      refine XS.aloadN X0.here hx rfl (hb hby d4_21) rfl rfl ?_
      show Steps p.tables e below (s₁.setTop (mkF m 22 #[.val (.ref a1), .val (.int f1)] [(.ref a1)])) _
      refine st14 _ ?_
      show Steps p.tables e below (T14.setTop (mkF m 25 #[.val (.ref a1), .val (.int f1)] [(.ref b)])) _
      refine XS.iloadN X14.here hx rfl (hb hby d4_25) rfl ?_
      show Steps p.tables e below (T14.setTop (mkF m 26 #[.val (.ref a1), .val (.int f1)] [(.int f1), (.ref b)])) _
      refine XS.bipush X14.here hx rfl (hb hby d4_26) ?_
      show Steps p.tables e below (T14.setTop (mkF m 28 #[.val (.ref a1), .val (.int f1)] [(.int (64 : Int32)), (.int f1), (.ref b)])) _
      refine XS.idiv X14.here hx rfl (hb hby d4_28) rfl (by decide : ¬ ((64 : Int32) = (0 : Int32))) ?_
      show Steps p.tables e below (T14.setTop (mkF m 29 #[.val (.ref a1), .val (.int f1)] [(.int (f1 / (64 : Int32))), (.ref b)])) _
      refine XS.iconst X14.here hx rfl (hb hby d4_29) ?_
      show Steps p.tables e below (T14.setTop (mkF m 30 #[.val (.ref a1), .val (.int f1)] [(.int (1 : Int32)), (.int (f1 / (64 : Int32))), (.ref b)])) _
      refine XS.isub X14.here hx rfl (hb hby d4_30) rfl ?_
      show Steps p.tables e below (T14.setTop (mkF m 31 #[.val (.ref a1), .val (.int f1)] [(.int ((f1 / (64 : Int32)) - (1 : Int32))), (.ref b)])) _
      rw [hj]
      show Steps p.tables e below (T14.setTop (mkF m 31 #[.val (.ref a1), .val (.int f1)] [(.int (2 : Int32)), (.ref b)])) _
      refine XT.dup2 X14.here hx rfl (hb hby d4_31) rfl rfl rfl ?_
      show Steps p.tables e below (T14.setTop (mkF m 32 #[.val (.ref a1), .val (.int f1)] [(.int (2 : Int32)), (.ref b), (.int (2 : Int32)), (.ref b)])) _
      refine X14.laload hx (j := (2 : Int32)) (v := (.long v3)) (by rw [e14]; exact Ar15.1) (State.isArrayOf_alike hZ.alike Ar15.2.1) Ar15.2.2 hin15 hat15 (g := (mkF m 32 #[.val (.ref a1), .val (.int f1)] [(.int (2 : Int32)), (.ref b), (.int (2 : Int32)), (.ref b)])) rfl rfl (hb hby d4_32) _ ?_
      show Steps p.tables e below (T14.setTop (mkF m 33 #[.val (.ref a1), .val (.int f1)] [(.long v3), (.int (2 : Int32)), (.ref b)])) _
      refine XS.lconst X14.here hx rfl (hb hby d4_33) ?_
      show Steps p.tables e below (T14.setTop (mkF m 34 #[.val (.ref a1), .val (.int f1)] [(.long (1 : Int64)), (.long v3), (.int (2 : Int32)), (.ref b)])) _
      refine XS.iloadN X14.here hx rfl (hb hby d4_34) rfl ?_
      show Steps p.tables e below (T14.setTop (mkF m 35 #[.val (.ref a1), .val (.int f1)] [(.int f1), (.long (1 : Int64)), (.long v3), (.int (2 : Int32)), (.ref b)])) _
      refine XS.lshl X14.here hx rfl (hb hby d4_35) rfl ?_
      show Steps p.tables e below (T14.setTop (mkF m 36 #[.val (.ref a1), .val (.int f1)] [(.long ((1 : Int64) <<< (f1 &&& 0x3f).toInt64)), (.long v3), (.int (2 : Int32)), (.ref b)])) _
      refine XS.lor X14.here hx rfl (hb hby d4_36) rfl ?_
      show Steps p.tables e below (T14.setTop (mkF m 37 #[.val (.ref a1), .val (.int f1)] [(.long (v3 ||| ((1 : Int64) <<< (f1 &&& 0x3f).toInt64))), (.int (2 : Int32)), (.ref b)])) _
      refine st17 _ ?_
      exact kt
    obtain ⟨fs, hr, hrun, hended, hW, hsame⟩ := X17.leave (v := none) (fun _ => rfl)
    refine ⟨_, _, pre18 _ ?_, hrun, hended, _, _, rfl, ?_, ⟨_, rfl⟩, hW, hsame.mono (by decide) (by decide)⟩
    · show Steps p.tables e below (T17.setTop (mkF m 38 #[.val (.ref a1), .val (.int f1)] [])) _
      exact X17.returnOut hx Bd.returns (hb hby d4_38) hr
    · show QA Z a1 b kb z1 u0 u1 u2 u3 h0 n0 _ T17.heap _
      rw [e17]
      rw [hu0, hu1, hu2, hu3]
      exact ⟨rfl, N17, K17, (Exa.wr W17 E_a1), (Fld.other W17 F_f (Or.inl hne)), (Fld.other W17 F_g (Or.inl hne)), V17⟩
theorem d5_0 : decode prog_6_method_5_code 0 = .ok (.iload_n 1, 1) := by decide +kernel
theorem d5_1 : decode prog_6_method_5_code 1 = .ok (.bipush 64, 2) := by decide +kernel
theorem d5_3 : decode prog_6_method_5_code 3 = .ok (.if_icmp .ge 22, 3) := by decide +kernel
theorem d5_6 : decode prog_6_method_5_code 6 = .ok (.aload_n 0, 1) := by decide +kernel
theorem d5_7 : decode prog_6_method_5_code 7 = .ok (.dup, 1) := by decide +kernel
theorem d5_8 : decode prog_6_method_5_code 8 = .ok (.getfield 18, 3) := by decide +kernel
theorem d5_11 : decode prog_6_method_5_code 11 = .ok (.lconst 1, 1) := by decide +kernel
theorem d5_12 : decode prog_6_method_5_code 12 = .ok (.iload_n 1, 1) := by decide +kernel
theorem d5_13 : decode prog_6_method_5_code 13 = .ok (.lshl, 1) := by decide +kernel
theorem d5_14 : decode prog_6_method_5_code 14 = .ok (.ldc2_w 22, 3) := by decide +kernel
theorem d5_17 : decode prog_6_method_5_code 17 = .ok (.lxor, 1) := by decide +kernel
theorem d5_18 : decode prog_6_method_5_code 18 = .ok (.land, 1) := by decide +kernel
theorem d5_19 : decode prog_6_method_5_code 19 = .ok (.putfield 18, 3) := by decide +kernel
theorem d5_22 : decode prog_6_method_5_code 22 = .ok (.goto 24, 3) := by decide +kernel
theorem d5_25 : decode prog_6_method_5_code 25 = .ok (.aload_n 0, 1) := by decide +kernel
theorem d5_26 : decode prog_6_method_5_code 26 = .ok (.getfield 15, 3) := by decide +kernel
theorem d5_29 : decode prog_6_method_5_code 29 = .ok (.iload_n 1, 1) := by decide +kernel
theorem d5_30 : decode prog_6_method_5_code 30 = .ok (.bipush 64, 2) := by decide +kernel
theorem d5_32 : decode prog_6_method_5_code 32 = .ok (.idiv, 1) := by decide +kernel
theorem d5_33 : decode prog_6_method_5_code 33 = .ok (.iconst 1, 1) := by decide +kernel
theorem d5_34 : decode prog_6_method_5_code 34 = .ok (.isub, 1) := by decide +kernel
theorem d5_35 : decode prog_6_method_5_code 35 = .ok (.dup2, 1) := by decide +kernel
theorem d5_36 : decode prog_6_method_5_code 36 = .ok (.laload, 1) := by decide +kernel
theorem d5_37 : decode prog_6_method_5_code 37 = .ok (.lconst 1, 1) := by decide +kernel
theorem d5_38 : decode prog_6_method_5_code 38 = .ok (.iload_n 1, 1) := by decide +kernel
theorem d5_39 : decode prog_6_method_5_code 39 = .ok (.lshl, 1) := by decide +kernel
theorem d5_40 : decode prog_6_method_5_code 40 = .ok (.ldc2_w 22, 3) := by decide +kernel
theorem d5_43 : decode prog_6_method_5_code 43 = .ok (.lxor, 1) := by decide +kernel
theorem d5_44 : decode prog_6_method_5_code 44 = .ok (.land, 1) := by decide +kernel
theorem d5_45 : decode prog_6_method_5_code 45 = .ok (.lastore, 1) := by decide +kernel
theorem d5_46 : decode prog_6_method_5_code 46 = .ok (.return_, 1) := by decide +kernel
theorem pn_rmR : plainName "com/example/phase7/phase7/metadata/FieldSet" = true := by first | (simp [plainName, overriddenIn]; done) | decide +kernel
theorem ef_rmR (m : MethodId) (a1 : Addr) (f1 : Int32) : entryFrame m #[(.ref a1), (.int f1)] 2 = mkF m 0 #[.val (.ref a1), .val (.int f1)] [] := by first | (simp [entryFrame, mkF, argsToLocals, Value.category]; done) | rfl
set_option maxRecDepth 65536 in
set_option maxHeartbeats 40000000 in
theorem rmR (l : Launch) (Z : State) (a0 : Array Value) (hw : ∀ d ∈ tables_1, d.before a0 Z = true) (ws : List Jvm.Cond) (a1 b : Addr) (kb : ClassId) (f1 q1 z1 : Int32) (v0 v1 v2 v3 u0 u1 u2 u3 : Int64) (h0 : Heap) (n0 : Nat) (Z0 : n0 ≤ h0.size) (E_a1 : Exa Z h0 a1 "com/example/phase7/phase7/metadata/FieldSet") (F_f : Fld Z h0 a1 "com/example/phase7/phase7/metadata/FieldSet" "first" "J" (.long v0)) (F_g : Fld Z h0 a1 "com/example/phase7/phase7/metadata/FieldSet" "further" "[J" (.ref b)) (V_b : Arv Z h0 b kb .long z1 [(.long v1), (.long v2), (.long v3)] (.long (0 : Int64))) (hne : a1 ≠ b) (hq : f1 < (64 : Int32) ↔ q1 = 0) (hdv : f1 / (64 : Int32) = q1) (rq : q1 = 0 ∨ q1 = 1 ∨ q1 = 2 ∨ q1 = 3) (hz : q1.toInt ≤ z1.toInt) (g_a1 : n0 ≤ a1) (gz : ¬ z1 = 0 → n0 ≤ b) (hu0 : u0 = if q1 = 0 then (v0 &&& (((1 : Int64) <<< (f1 &&& 0x3f).toInt64) ^^^ (-1 : Int64))) else v0) (hu1 : u1 = if q1 = 1 then (v1 &&& (((1 : Int64) <<< (f1 &&& 0x3f).toInt64) ^^^ (-1 : Int64))) else v1) (hu2 : u2 = if q1 = 2 then (v2 &&& (((1 : Int64) <<< (f1 &&& 0x3f).toInt64) ^^^ (-1 : Int64))) else v2) (hu3 : u3 = if q1 = 3 then (v3 &&& (((1 : Int64) <<< (f1 &&& 0x3f).toInt64) ^^^ (-1 : Int64))) else v3) :
    MetFree l (⟨"com/example/phase7/phase7/metadata/FieldSet", "remove", "(I)V"⟩ : MethodName) (head1 (Jvm.Cond.code (⟨"com/example/phase7/phase7/metadata/FieldSet", "remove", "(I)V"⟩ : MethodName) prog_6_method_5_code 2 none :: ws) ({ frames := 0, cells := 0, slots := 0, locals := 0 } : Room)) (fun a U => a = #[(.ref a1), (.int f1)] ∧ Z.Warmed39 U.vm ∧ U.heap = h0) (fun _ _ _ _ _ => True) (fun _ U o U' => ∃ v L, o = .returned v ∧ QA Z a1 b kb z1 u0 u1 u2 u3 h0 n0 v U'.heap L ∧ FrameEnd U o U' L ({ frames := 0, cells := 0, slots := 0, locals := 0 } : Room).cells ({ frames := 0, cells := 0, slots := 0, locals := 0 } : Room).slots) := by
  refine MetFree.of_bodySF (plainFor_of_name pn_rmR) hisR ?_
  intro p e s m args below meth c s₁ Bd hml0 hP hK
  obtain ⟨rfl, hZ, hh⟩ := hP
  have hx := Bd.exec
  have hby := Bd.bytes
  have hml : c.maxLocals = 2 := hml0
  have hown : s.vm.findClass "com/example/phase7/phase7/metadata/FieldSet" = some m.cls := findClass_of_methodNamed Bd.named
  have hnm := (name_of_methodNamed Bd.named Bd.method).1
  have X0 : Stand p l e ({ frames := 0, cells := 0, slots := 0, locals := 0 } : Room) s m #[(.ref a1), (.int f1)] below meth c s₁ [] 0 0 := Stand.of_body Bd
  have e0 : s₁.heap = h0 := by rw [← hh, Bd.state]; rfl
  have N0 := Fr.nil n0
  have pre0 : ∀ tt, Steps p.tables e below (s₁.setTop (mkF m 0 #[.val (.ref a1), .val (.int f1)] [])) tt → Steps p.tables e below (s₁.setTop (entryFrame m #[(.ref a1), (.int f1)] 2)) tt := fun tt kt => castTop (ef_rmR m a1 f1) kt
  rcases rq with rfl | rfl | rfl | rfl
  · rw [if_pos rfl] at hu0
    rw [if_neg (by decide)] at hu1
    rw [if_neg (by decide)] at hu2
    rw [if_neg (by decide)] at hu3
    have hq0 : f1 < (64 : Int32) := hq.mpr rfl
    obtain ⟨T1, X1, e1, st1⟩ := getF X0 hx hZ hown (host := "") (Or.inl (hw _ (List.mem_of_getElem? (i := 19) rfl))) Via.refl e0 F_f (g := (mkF m 8 #[.val (.ref a1), .val (.int f1)] [(.ref a1), (.ref a1)])) rfl rfl (hb hby d5_8)
    obtain ⟨T2, h2, X2, e2, W2, st2⟩ := putF X1 hx hZ hown (host := "") (Or.inl (hw _ (List.mem_of_getElem? (i := 19) rfl))) Via.refl e1 F_f E_a1 (Or.inl (hw _ (List.mem_of_getElem? (i := 20) rfl))) (hw _ (List.mem_of_getElem? (i := 2) rfl)) (ty := .long) (by decide) rfl rfl (g := (mkF m 19 #[.val (.ref a1), .val (.int f1)] [(.long (v0 &&& (((1 : Int64) <<< (f1 &&& 0x3f).toInt64) ^^^ (-1 : Int64)))), (.ref a1)])) rfl rfl (hb hby d5_19)
    have Fw2 := Fld.same W2 F_f
    have N2 := Fr.snoc X2 N0 g_a1
    have K2 : Keep h0 h2 [a1, b] := ((Keep.refl h0 [a1, b])).wr W2 (Or.inl (List.mem_of_getElem? (i := 0) rfl))
    have pre3 : ∀ tt, Steps p.tables e below (T2.setTop (mkF m 46 #[.val (.ref a1), .val (.int f1)] [])) tt → Steps p.tables e below (s₁.setTop (entryFrame m #[(.ref a1), (.int f1)] 2)) tt := by
      intro tt kt
      refine pre0 tt ?_
      show Steps p.tables e below (s₁.setTop (mkF m 0 #[.val (.ref a1), .val (.int f1)] [])) _
      refine XS.iloadN X0.here hx rfl (hb hby d5_0) rfl ?_
      show Steps p.tables e below (s₁.setTop (mkF m 1 #[.val (.ref a1), .val (.int f1)] [(.int f1)])) _
      refine XS.bipush X0.here hx rfl (hb hby d5_1) ?_
      show Steps p.tables e below (s₁.setTop (mkF m 3 #[.val (.ref a1), .val (.int f1)] [(.int (64 : Int32)), (.int f1)])) _
      refine XS.icmpNo X0.here hx rfl (hb hby d5_3) rfl (tlt (hq.mpr rfl)).2.1 ?_
      show Steps p.tables e below (s₁.setTop (mkF m 6 #[.val (.ref a1), .val (.int f1)] [])) _
      refine XS.aloadN X0.here hx rfl (hb hby d5_6) rfl rfl ?_
      show Steps p.tables e below (s₁.setTop (mkF m 7 #[.val (.ref a1), .val (.int f1)] [(.ref a1)])) _
      refine XS.dup X0.here hx rfl (hb hby d5_7) rfl rfl ?_
      show Steps p.tables e below (s₁.setTop (mkF m 8 #[.val (.ref a1), .val (.int f1)] [(.ref a1), (.ref a1)])) _
      refine st1 _ ?_
      show Steps p.tables e below (T1.setTop (mkF m 11 #[.val (.ref a1), .val (.int f1)] [(.long v0), (.ref a1)])) _
      refine XS.lconst X1.here hx rfl (hb hby d5_11) ?_
      show Steps p.tables e below (T1.setTop (mkF m 12 #[.val (.ref a1), .val (.int f1)] [(.long (1 : Int64)), (.long v0), (.ref a1)])) _
      refine XS.iloadN X1.here hx rfl (hb hby d5_12) rfl ?_
      show Steps p.tables e below (T1.setTop (mkF m 13 #[.val (.ref a1), .val (.int f1)] [(.int f1), (.long (1 : Int64)), (.long v0), (.ref a1)])) _
      refine XS.lshl X1.here hx rfl (hb hby d5_13) rfl ?_
      show Steps p.tables e below (T1.setTop (mkF m 14 #[.val (.ref a1), .val (.int f1)] [(.long ((1 : Int64) <<< (f1 &&& 0x3f).toInt64)), (.long v0), (.ref a1)])) _
      refine X1.ldc2Long hx hown (mvT hZ (hw _ (List.mem_of_getElem? (i := 32) rfl))) (g := (mkF m 14 #[.val (.ref a1), .val (.int f1)] [(.long ((1 : Int64) <<< (f1 &&& 0x3f).toInt64)), (.long v0), (.ref a1)])) rfl (hb hby d5_14) _ ?_
      show Steps p.tables e below (T1.setTop (mkF m 17 #[.val (.ref a1), .val (.int f1)] [(.long (-1 : Int64)), (.long ((1 : Int64) <<< (f1 &&& 0x3f).toInt64)), (.long v0), (.ref a1)])) _
      refine XS.lxor X1.here hx rfl (hb hby d5_17) rfl ?_
      show Steps p.tables e below (T1.setTop (mkF m 18 #[.val (.ref a1), .val (.int f1)] [(.long (((1 : Int64) <<< (f1 &&& 0x3f).toInt64) ^^^ (-1 : Int64))), (.long v0), (.ref a1)])) _
      refine XS.land X1.here hx rfl (hb hby d5_18) rfl ?_
      show Steps p.tables e below (T1.setTop (mkF m 19 #[.val (.ref a1), .val (.int f1)] [(.long (v0 &&& (((1 : Int64) <<< (f1 &&& 0x3f).toInt64) ^^^ (-1 : Int64)))), (.ref a1)])) _
      refine st2 _ ?_
      show Steps p.tables e below (T2.setTop (mkF m 22 #[.val (.ref a1), .val (.int f1)] [])) _
      refine XS.goto X2.here hx rfl (pc0 := 22) (pc' := 46) rfl (hb hby d5_22) (by decide) (by decide) ?_
      exact kt
    obtain ⟨fs, hr, hrun, hended, hW, hsame⟩ := X2.leave (v := none) (fun _ => rfl)
    refine ⟨_, _, pre3 _ ?_, hrun, hended, _, _, rfl, ?_, ⟨_, rfl⟩, hW, hsame.mono (by decide) (by decide)⟩
    · show Steps p.tables e below (T2.setTop (mkF m 46 #[.val (.ref a1), .val (.int f1)] [])) _
      exact X2.returnOut hx Bd.returns (hb hby d5_46) hr
    · show QA Z a1 b kb z1 u0 u1 u2 u3 h0 n0 _ T2.heap _
      rw [e2]
      rw [hu0, hu1, hu2, hu3]
      exact ⟨rfl, N2, K2, (Exa.wr W2 E_a1), Fw2, (Fld.other W2 F_g (Or.inr (slot_ne (Or.inr (hw _ (List.mem_of_getElem? (i := 13) rfl))) (Or.inl (hw _ (List.mem_of_getElem? (i := 20) rfl))) (by decide) (t := (.array .long)) (t' := .long) (by decide) (by decide)))), (V_b.other W2 (Ne.symm hne))⟩
  · rw [if_neg (by decide)] at hu0
    rw [if_pos rfl] at hu1
    rw [if_neg (by decide)] at hu2
    rw [if_neg (by decide)] at hu3
    have hj : ((f1 / (64 : Int32)) - (1 : Int32)) = (0 : Int32) := by rw [hdv]; decide
    have hin : ¬ (0 : Int32) < 0 ∧ (0 : Int32) < z1 := ⟨by decide, own_jz hz (by decide)⟩
    have g_b : n0 ≤ b := gz (fun q => by rw [q] at hz; exact absurd hz (by decide))
    obtain ⟨T4, X4, e4, st4⟩ := getF X0 hx hZ hown (host := "") (Or.inl (hw _ (List.mem_of_getElem? (i := 12) rfl))) Via.refl e0 F_g (g := (mkF m 26 #[.val (.ref a1), .val (.int f1)] [(.ref a1)])) rfl rfl (hb hby d5_26)
    have VO5 := V_b
    obtain ⟨cl5, Ar5, q5, S5, M5, H5, G5⟩ := VO5
    have hin5 : ¬ ((0 : Int32) < 0 ∨ cl5.slots.size ≤ ((0 : Int32)).toNatClampNeg) := inb_of S5 hin
    have hat5 : cl5.slots[((0 : Int32)).toNatClampNeg]? = some (.long v1) := H5.at hin5 rfl
    have VO6 := V_b
    obtain ⟨cl6, Ar6, q6, S6, M6, H6, G6⟩ := VO6
    have hin6 : ¬ ((0 : Int32) < 0 ∨ cl6.slots.size ≤ ((0 : Int32)).toNatClampNeg) := inb_of S6 hin
    obtain ⟨T7, h7, X7, e7, W7, st7⟩ := stJ X4 hx hZ e4 Ar6 (j := (0 : Int32)) hin6 (g := (mkF m 45 #[.val (.ref a1), .val (.int f1)] [(.long (v1 &&& (((1 : Int64) <<< (f1 &&& 0x3f).toInt64) ^^^ (-1 : Int64)))), (.int (0 : Int32)), (.ref b)])) rfl rfl (hb hby d5_45)
    have N7 := Fr.snoc X7 N0 g_b
    have K7 : Keep h0 h7 [a1, b] := ((Keep.refl h0 [a1, b])).wr W7 (Or.inl (List.mem_of_getElem? (i := 1) rfl))
    have V7 : Arv Z h7 b kb .long z1 [(.long (v1 &&& (((1 : Int64) <<< (f1 &&& 0x3f).toInt64) ^^^ (-1 : Int64)))), (.long v2), (.long v3)] (.long (0 : Int64)) := Arv.set Ar6 q6 S6 M6 H6 G6 rfl W7 0 rfl (Nat.le_of_ble_eq_true rfl)
    have pre8 : ∀ tt, Steps p.tables e below (T7.setTop (mkF m 46 #[.val (.ref a1), .val (.int f1)] [])) tt → Steps p.tables e below (s₁.setTop (entryFrame m #[(.ref a1), (.int f1)] 2)) tt := by
      intro tt kt
      refine pre0 tt ?_
      show Steps p.tables e below (s₁.setTop (mkF m 0 #[.val (.ref a1), .val (.int f1)] [])) _
      refine XS.iloadN X0.here hx rfl (hb hby d5_0) rfl ?_
      show Steps p.tables e below (s₁.setTop (mkF m 1 #[.val (.ref a1), .val (.int f1)] [(.int f1)])) _
      refine XS.bipush X0.here hx rfl (hb hby d5_1) ?_
      show Steps p.tables e below (s₁.setTop (mkF m 3 #[.val (.ref a1), .val (.int f1)] [(.int (64 : Int32)), (.int f1)])) _
      refine XS.icmpYes X0.here hx rfl (pc0 := 3) (pc' := 25) rfl (hb hby d5_3) rfl (flt (fun q => absurd (hq.mp q) (by decide))).2.1 (by decide) (by decide) ?_
      show Steps p.tables e below (s₁.setTop (mkF m 25 #[.val (.ref a1), .val (.int f1)] [])) _
      refine XS.aloadN X0.here hx rfl (hb hby d5_25) rfl rfl ?_
      show Steps p.tables e below (s₁.setTop (mkF m 26 #[.val (.ref a1), .val (.int f1)] [(.ref a1)])) _
      refine st4 _ ?_
      show Steps p.tables e below (T4.setTop (mkF m 29 #[.val (.ref a1), .val (.int f1)] [(.ref b)])) _
      refine XS.iloadN X4.here hx rfl (hb hby d5_29) rfl ?_
      show Steps p.tables e below (T4.setTop (mkF m 30 #[.val (.ref a1), .val (.int f1)] [(.int f1), (.ref b)])) _
      refine XS.bipush X4.here hx rfl (hb hby d5_30) ?_
      show Steps p.tables e below (T4.setTop (mkF m 32 #[.val (.ref a1), .val (.int f1)] [(.int (64 : Int32)), (.int f1), (.ref b)])) _
      refine XS.idiv X4.here hx rfl (hb hby d5_32) rfl (by decide : ¬ ((64 : Int32) = (0 : Int32))) ?_
      show Steps p.tables e below (T4.setTop (mkF m 33 #[.val (.ref a1), .val (.int f1)] [(.int (f1 / (64 : Int32))), (.ref b)])) _
      refine XS.iconst X4.here hx rfl (hb hby d5_33) ?_
      show Steps p.tables e below (T4.setTop (mkF m 34 #[.val (.ref a1), .val (.int f1)] [(.int (1 : Int32)), (.int (f1 / (64 : Int32))), (.ref b)])) _
      refine XS.isub X4.here hx rfl (hb hby d5_34) rfl ?_
      show Steps p.tables e below (T4.setTop (mkF m 35 #[.val (.ref a1), .val (.int f1)] [(.int ((f1 / (64 : Int32)) - (1 : Int32))), (.ref b)])) _
      rw [hj]
      show Steps p.tables e below (T4.setTop (mkF m 35 #[.val (.ref a1), .val (.int f1)] [(.int (0 : Int32)), (.ref b)])) _
      refine XT.dup2 X4.here hx rfl (hb hby d5_35) rfl rfl rfl ?_
      show Steps p.tables e below (T4.setTop (mkF m 36 #[.val (.ref a1), .val (.int f1)] [(.int (0 : Int32)), (.ref b), (.int (0 : Int32)), (.ref b)])) _
      refine X4.laload hx (j := (0 : Int32)) (v := (.long v1)) (by rw [e4]; exact Ar5.1) (State.isArrayOf_alike hZ.alike Ar5.2.1) Ar5.2.2 hin5 hat5 (g := (mkF m 36 #[.val (.ref a1), .val (.int f1)] [(.int (0 : Int32)), (.ref b), (.int (0 : Int32)), (.ref b)])) rfl rfl (hb hby d5_36) _ ?_
      show Steps p.tables e below (T4.setTop (mkF m 37 #[.val (.ref a1), .val (.int f1)] [(.long v1), (.int (0 : Int32)), (.ref b)])) _
      refine XS.lconst X4.here hx rfl (hb hby d5_37) ?_
      show Steps p.tables e below (T4.setTop (mkF m 38 #[.val (.ref a1), .val (.int f1)] [(.long (1 : Int64)), (.long v1), (.int (0 : Int32)), (.ref b)])) _
      refine XS.iloadN X4.here hx rfl (hb hby d5_38) rfl ?_
      show Steps p.tables e below (T4.setTop (mkF m 39 #[.val (.ref a1), .val (.int f1)] [(.int f1), (.long (1 : Int64)), (.long v1), (.int (0 : Int32)), (.ref b)])) _
      refine XS.lshl X4.here hx rfl (hb hby d5_39) rfl ?_
      show Steps p.tables e below (T4.setTop (mkF m 40 #[.val (.ref a1), .val (.int f1)] [(.long ((1 : Int64) <<< (f1 &&& 0x3f).toInt64)), (.long v1), (.int (0 : Int32)), (.ref b)])) _
      refine X4.ldc2Long hx hown (mvT hZ (hw _ (List.mem_of_getElem? (i := 32) rfl))) (g := (mkF m 40 #[.val (.ref a1), .val (.int f1)] [(.long ((1 : Int64) <<< (f1 &&& 0x3f).toInt64)), (.long v1), (.int (0 : Int32)), (.ref b)])) rfl (hb hby d5_40) _ ?_
      show Steps p.tables e below (T4.setTop (mkF m 43 #[.val (.ref a1), .val (.int f1)] [(.long (-1 : Int64)), (.long ((1 : Int64) <<< (f1 &&& 0x3f).toInt64)), (.long v1), (.int (0 : Int32)), (.ref b)])) _
      refine XS.lxor X4.here hx rfl (hb hby d5_43) rfl ?_
      show Steps p.tables e below (T4.setTop (mkF m 44 #[.val (.ref a1), .val (.int f1)] [(.long (((1 : Int64) <<< (f1 &&& 0x3f).toInt64) ^^^ (-1 : Int64))), (.long v1), (.int (0 : Int32)), (.ref b)])) _
      refine XS.land X4.here hx rfl (hb hby d5_44) rfl ?_
      show Steps p.tables e below (T4.setTop (mkF m 45 #[.val (.ref a1), .val (.int f1)] [(.long (v1 &&& (((1 : Int64) <<< (f1 &&& 0x3f).toInt64) ^^^ (-1 : Int64)))), (.int (0 : Int32)), (.ref b)])) _
      refine st7 _ ?_
      exact kt
    obtain ⟨fs, hr, hrun, hended, hW, hsame⟩ := X7.leave (v := none) (fun _ => rfl)
    refine ⟨_, _, pre8 _ ?_, hrun, hended, _, _, rfl, ?_, ⟨_, rfl⟩, hW, hsame.mono (by decide) (by decide)⟩
    · show Steps p.tables e below (T7.setTop (mkF m 46 #[.val (.ref a1), .val (.int f1)] [])) _
      exact X7.returnOut hx Bd.returns (hb hby d5_46) hr
    · show QA Z a1 b kb z1 u0 u1 u2 u3 h0 n0 _ T7.heap _
      rw [e7]
      rw [hu0, hu1, hu2, hu3]
      exact ⟨rfl, N7, K7, (Exa.wr W7 E_a1), (Fld.other W7 F_f (Or.inl hne)), (Fld.other W7 F_g (Or.inl hne)), V7⟩
  · rw [if_neg (by decide)] at hu0
    rw [if_neg (by decide)] at hu1
    rw [if_pos rfl] at hu2
    rw [if_neg (by decide)] at hu3
    have hj : ((f1 / (64 : Int32)) - (1 : Int32)) = (1 : Int32) := by rw [hdv]; decide
    have hin : ¬ (1 : Int32) < 0 ∧ (1 : Int32) < z1 := ⟨by decide, own_jz hz (by decide)⟩
    have g_b : n0 ≤ b := gz (fun q => by rw [q] at hz; exact absurd hz (by decide))
    obtain ⟨T9, X9, e9, st9⟩ := getF X0 hx hZ hown (host := "") (Or.inl (hw _ (List.mem_of_getElem? (i := 12) rfl))) Via.refl e0 F_g (g := (mkF m 26 #[.val (.ref a1), .val (.int f1)] [(.ref a1)])) rfl rfl (hb hby d5_26)
    have VO10 := V_b
    obtain ⟨cl10, Ar10, q10, S10, M10, H10, G10⟩ := VO10
    have hin10 : ¬ ((1 : Int32) < 0 ∨ cl10.slots.size ≤ ((1 : Int32)).toNatClampNeg) := inb_of S10 hin
    have hat10 : cl10.slots[((1 : Int32)).toNatClampNeg]? = some (.long v2) := H10.at hin10 rfl
    have VO11 := V_b
    obtain ⟨cl11, Ar11, q11, S11, M11, H11, G11⟩ := VO11
    have hin11 : ¬ ((1 : Int32) < 0 ∨ cl11.slots.size ≤ ((1 : Int32)).toNatClampNeg) := inb_of S11 hin
    obtain ⟨T12, h12, X12, e12, W12, st12⟩ := stJ X9 hx hZ e9 Ar11 (j := (1 : Int32)) hin11 (g := (mkF m 45 #[.val (.ref a1), .val (.int f1)] [(.long (v2 &&& (((1 : Int64) <<< (f1 &&& 0x3f).toInt64) ^^^ (-1 : Int64)))), (.int (1 : Int32)), (.ref b)])) rfl rfl (hb hby d5_45)
    have N12 := Fr.snoc X12 N0 g_b
    have K12 : Keep h0 h12 [a1, b] := ((Keep.refl h0 [a1, b])).wr W12 (Or.inl (List.mem_of_getElem? (i := 1) rfl))
    have V12 : Arv Z h12 b kb .long z1 [(.long v1), (.long (v2 &&& (((1 : Int64) <<< (f1 &&& 0x3f).toInt64) ^^^ (-1 : Int64)))), (.long v3)] (.long (0 : Int64)) := Arv.set Ar11 q11 S11 M11 H11 G11 rfl W12 1 rfl (Nat.le_of_ble_eq_true rfl)
    have pre13 : ∀ tt, Steps p.tables e below (T12.setTop (mkF m 46 #[.val (.ref a1), .val (.int f1)] [])) tt → Steps p.tables e below (s₁.setTop (entryFrame m #[(.ref a1), (.int f1)] 2)) tt := by
      intro tt kt
      refine pre0 tt ?_
      show Steps p.tables e below (s₁.setTop (mkF m 0 #[.val (.ref a1), .val (.int f1)] [])) _
      refine XS.iloadN X0.here hx rfl (hb hby d5_0) rfl ?_
      show Steps p.tables e below (s₁.setTop (mkF m 1 #[.val (.ref a1), .val (.int f1)] [(.int f1)])) _
      refine XS.bipush X0.here hx rfl (hb hby d5_1) ?_
      show Steps p.tables e below (s₁.setTop (mkF m 3 #[.val (.ref a1), .val (.int f1)] [(.int (64 : Int32)), (.int f1)])) _
      refine XS.icmpYes X0.here hx rfl (pc0 := 3) (pc' := 25) rfl (hb hby d5_3) rfl (flt (fun q => absurd (hq.mp q) (by decide))).2.1 (by decide) (by decide) ?_
      show Steps p.tables e below (s₁.setTop (mkF m 25 #[.val (.ref a1), .val (.int f1)] [])) _
      refine XS.aloadN X0.here hx rfl (hb hby d5_25) rfl rfl ?_
      show Steps p.tables e below (s₁.setTop (mkF m 26 #[.val (.ref a1), .val (.int f1)] [(.ref a1)])) _
      refine st9 _ ?_
      show Steps p.tables e below (T9.setTop (mkF m 29 #[.val (.ref a1), .val (.int f1)] [(.ref b)])) _
      refine XS.iloadN X9.here hx rfl (hb hby d5_29) rfl ?_
      show Steps p.tables e below (T9.setTop (mkF m 30 #[.val (.ref a1), .val (.int f1)] [(.int f1), (.ref b)])) _
      refine XS.bipush X9.here hx rfl (hb hby d5_30) ?_
      show Steps p.tables e below (T9.setTop (mkF m 32 #[.val (.ref a1), .val (.int f1)] [(.int (64 : Int32)), (.int f1), (.ref b)])) _
      refine XS.idiv X9.here hx rfl (hb hby d5_32) rfl (by decide : ¬ ((64 : Int32) = (0 : Int32))) ?_
      show Steps p.tables e below (T9.setTop (mkF m 33 #[.val (.ref a1), .val (.int f1)] [(.int (f1 / (64 : Int32))), (.ref b)])) _
      refine XS.iconst X9.here hx rfl (hb hby d5_33) ?_
      show Steps p.tables e below (T9.setTop (mkF m 34 #[.val (.ref a1), .val (.int f1)] [(.int (1 : Int32)), (.int (f1 / (64 : Int32))), (.ref b)])) _
      refine XS.isub X9.here hx rfl (hb hby d5_34) rfl ?_
      show Steps p.tables e below (T9.setTop (mkF m 35 #[.val (.ref a1), .val (.int f1)] [(.int ((f1 / (64 : Int32)) - (1 : Int32))), (.ref b)])) _
      rw [hj]
      show Steps p.tables e below (T9.setTop (mkF m 35 #[.val (.ref a1), .val (.int f1)] [(.int (1 : Int32)), (.ref b)])) _
      refine XT.dup2 X9.here hx rfl (hb hby d5_35) rfl rfl rfl ?_
      show Steps p.tables e below (T9.setTop (mkF m 36 #[.val (.ref a1), .val (.int f1)] [(.int (1 : Int32)), (.ref b), (.int (1 : Int32)), (.ref b)])) _
      refine X9.laload hx (j := (1 : Int32)) (v := (.long v2)) (by rw [e9]; exact Ar10.1) (State.isArrayOf_alike hZ.alike Ar10.2.1) Ar10.2.2 hin10 hat10 (g := (mkF m 36 #[.val (.ref a1), .val (.int f1)] [(.int (1 : Int32)), (.ref b), (.int (1 : Int32)), (.ref b)])) rfl rfl (hb hby d5_36) _ ?_
      show Steps p.tables e below (T9.setTop (mkF m 37 #[.val (.ref a1), .val (.int f1)] [(.long v2), (.int (1 : Int32)), (.ref b)])) _
      refine XS.lconst X9.here hx rfl (hb hby d5_37) ?_
      show Steps p.tables e below (T9.setTop (mkF m 38 #[.val (.ref a1), .val (.int f1)] [(.long (1 : Int64)), (.long v2), (.int (1 : Int32)), (.ref b)])) _
      refine XS.iloadN X9.here hx rfl (hb hby d5_38) rfl ?_
      show Steps p.tables e below (T9.setTop (mkF m 39 #[.val (.ref a1), .val (.int f1)] [(.int f1), (.long (1 : Int64)), (.long v2), (.int (1 : Int32)), (.ref b)])) _
      refine XS.lshl X9.here hx rfl (hb hby d5_39) rfl ?_
      show Steps p.tables e below (T9.setTop (mkF m 40 #[.val (.ref a1), .val (.int f1)] [(.long ((1 : Int64) <<< (f1 &&& 0x3f).toInt64)), (.long v2), (.int (1 : Int32)), (.ref b)])) _
      refine X9.ldc2Long hx hown (mvT hZ (hw _ (List.mem_of_getElem? (i := 32) rfl))) (g := (mkF m 40 #[.val (.ref a1), .val (.int f1)] [(.long ((1 : Int64) <<< (f1 &&& 0x3f).toInt64)), (.long v2), (.int (1 : Int32)), (.ref b)])) rfl (hb hby d5_40) _ ?_
      show Steps p.tables e below (T9.setTop (mkF m 43 #[.val (.ref a1), .val (.int f1)] [(.long (-1 : Int64)), (.long ((1 : Int64) <<< (f1 &&& 0x3f).toInt64)), (.long v2), (.int (1 : Int32)), (.ref b)])) _
      refine XS.lxor X9.here hx rfl (hb hby d5_43) rfl ?_
      show Steps p.tables e below (T9.setTop (mkF m 44 #[.val (.ref a1), .val (.int f1)] [(.long (((1 : Int64) <<< (f1 &&& 0x3f).toInt64) ^^^ (-1 : Int64))), (.long v2), (.int (1 : Int32)), (.ref b)])) _
      refine XS.land X9.here hx rfl (hb hby d5_44) rfl ?_
      show Steps p.tables e below (T9.setTop (mkF m 45 #[.val (.ref a1), .val (.int f1)] [(.long (v2 &&& (((1 : Int64) <<< (f1 &&& 0x3f).toInt64) ^^^ (-1 : Int64)))), (.int (1 : Int32)), (.ref b)])) _
      refine st12 _ ?_
      exact kt
    obtain ⟨fs, hr, hrun, hended, hW, hsame⟩ := X12.leave (v := none) (fun _ => rfl)
    refine ⟨_, _, pre13 _ ?_, hrun, hended, _, _, rfl, ?_, ⟨_, rfl⟩, hW, hsame.mono (by decide) (by decide)⟩
    · show Steps p.tables e below (T12.setTop (mkF m 46 #[.val (.ref a1), .val (.int f1)] [])) _
      exact X12.returnOut hx Bd.returns (hb hby d5_46) hr
    · show QA Z a1 b kb z1 u0 u1 u2 u3 h0 n0 _ T12.heap _
      rw [e12]
      rw [hu0, hu1, hu2, hu3]
      exact ⟨rfl, N12, K12, (Exa.wr W12 E_a1), (Fld.other W12 F_f (Or.inl hne)), (Fld.other W12 F_g (Or.inl hne)), V12⟩
  · rw [if_neg (by decide)] at hu0
    rw [if_neg (by decide)] at hu1
    rw [if_neg (by decide)] at hu2
    rw [if_pos rfl] at hu3
    have hj : ((f1 / (64 : Int32)) - (1 : Int32)) = (2 : Int32) := by rw [hdv]; decide
    have hin : ¬ (2 : Int32) < 0 ∧ (2 : Int32) < z1 := ⟨by decide, own_jz hz (by decide)⟩
    have g_b : n0 ≤ b := gz (fun q => by rw [q] at hz; exact absurd hz (by decide))
    obtain ⟨T14, X14, e14, st14⟩ := getF X0 hx hZ hown (host := "") (Or.inl (hw _ (List.mem_of_getElem? (i := 12) rfl))) Via.refl e0 F_g (g := (mkF m 26 #[.val (.ref a1), .val (.int f1)] [(.ref a1)])) rfl rfl (hb hby d5_26)
    have VO15 := V_b
    obtain ⟨cl15, Ar15, q15, S15, M15, H15, G15⟩ := VO15
    have hin15 : ¬ ((2 : Int32) < 0 ∨ cl15.slots.size ≤ ((2 : Int32)).toNatClampNeg) := inb_of S15 hin
    have hat15 : cl15.slots[((2 : Int32)).toNatClampNeg]? = some (.long v3) := H15.at hin15 rfl
    have VO16 := V_b
    obtain ⟨cl16, Ar16, q16, S16, M16, H16, G16⟩ := VO16
    have hin16 : ¬ ((2 : Int32) < 0 ∨ cl16.slots.size ≤ ((2 : Int32)).toNatClampNeg) := inb_of S16 hin
    obtain ⟨T17, h17, X17, e17, W17, st17⟩ := stJ X14 hx hZ e14 Ar16 (j := (2 : Int32)) hin16 (g := (mkF m 45 #[.val (.ref a1), .val (.int f1)] [(.long (v3 &&& (((1 : Int64) <<< (f1 &&& 0x3f).toInt64) ^^^ (-1 : Int64)))), (.int (2 : Int32)), (.ref b)])) rfl rfl (hb hby d5_45)
    have N17 := Fr.snoc X17 N0 g_b
    have K17 : Keep h0 h17 [a1, b] := ((Keep.refl h0 [a1, b])).wr W17 (Or.inl (List.mem_of_getElem? (i := 1) rfl))
    have V17 : Arv Z h17 b kb .long z1 [(.long v1), (.long v2), (.long (v3 &&& (((1 : Int64) <<< (f1 &&& 0x3f).toInt64) ^^^ (-1 : Int64))))] (.long (0 : Int64)) := Arv.set Ar16 q16 S16 M16 H16 G16 rfl W17 2 rfl (Nat.le_of_ble_eq_true rfl)
    have pre18 : ∀ tt, Steps p.tables e below (T17.setTop (mkF m 46 #[.val (.ref a1), .val (.int f1)] [])) tt → Steps p.tables e below (s₁.setTop (entryFrame m #[(.ref a1), (.int f1)] 2)) tt := by
      intro tt kt
      refine pre0 tt ?_
      show Steps p.tables e below (s₁.setTop (mkF m 0 #[.val (.ref a1), .val (.int f1)] [])) _
      refine XS.iloadN X0.here hx rfl (hb hby d5_0) rfl ?_
      show Steps p.tables e below (s₁.setTop (mkF m 1 #[.val (.ref a1), .val (.int f1)] [(.int f1)])) _
      refine XS.bipush X0.here hx rfl (hb hby d5_1) ?_
      show Steps p.tables e below (s₁.setTop (mkF m 3 #[.val (.ref a1), .val (.int f1)] [(.int (64 : Int32)), (.int f1)])) _
      refine XS.icmpYes X0.here hx rfl (pc0 := 3) (pc' := 25) rfl (hb hby d5_3) rfl (flt (fun q => absurd (hq.mp q) (by decide))).2.1 (by decide) (by decide) ?_
      show Steps p.tables e below (s₁.setTop (mkF m 25 #[.val (.ref a1), .val (.int f1)] [])) _
      refine XS.aloadN X0.here hx rfl (hb hby d5_25) rfl rfl ?_
      show Steps p.tables e below (s₁.setTop (mkF m 26 #[.val (.ref a1), .val (.int f1)] [(.ref a1)])) _
      refine st14 _ ?_
      show Steps p.tables e below (T14.setTop (mkF m 29 #[.val (.ref a1), .val (.int f1)] [(.ref b)])) _
      refine XS.iloadN X14.here hx rfl (hb hby d5_29) rfl ?_
      show Steps p.tables e below (T14.setTop (mkF m 30 #[.val (.ref a1), .val (.int f1)] [(.int f1), (.ref b)])) _
      refine XS.bipush X14.here hx rfl (hb hby d5_30) ?_
      show Steps p.tables e below (T14.setTop (mkF m 32 #[.val (.ref a1), .val (.int f1)] [(.int (64 : Int32)), (.int f1), (.ref b)])) _
      refine XS.idiv X14.here hx rfl (hb hby d5_32) rfl (by decide : ¬ ((64 : Int32) = (0 : Int32))) ?_
      show Steps p.tables e below (T14.setTop (mkF m 33 #[.val (.ref a1), .val (.int f1)] [(.int (f1 / (64 : Int32))), (.ref b)])) _
      refine XS.iconst X14.here hx rfl (hb hby d5_33) ?_
      show Steps p.tables e below (T14.setTop (mkF m 34 #[.val (.ref a1), .val (.int f1)] [(.int (1 : Int32)), (.int (f1 / (64 : Int32))), (.ref b)])) _
      refine XS.isub X14.here hx rfl (hb hby d5_34) rfl ?_
      show Steps p.tables e below (T14.setTop (mkF m 35 #[.val (.ref a1), .val (.int f1)] [(.int ((f1 / (64 : Int32)) - (1 : Int32))), (.ref b)])) _
      rw [hj]
      show Steps p.tables e below (T14.setTop (mkF m 35 #[.val (.ref a1), .val (.int f1)] [(.int (2 : Int32)), (.ref b)])) _
      refine XT.dup2 X14.here hx rfl (hb hby d5_35) rfl rfl rfl ?_
      show Steps p.tables e below (T14.setTop (mkF m 36 #[.val (.ref a1), .val (.int f1)] [(.int (2 : Int32)), (.ref b), (.int (2 : Int32)), (.ref b)])) _
      refine X14.laload hx (j := (2 : Int32)) (v := (.long v3)) (by rw [e14]; exact Ar15.1) (State.isArrayOf_alike hZ.alike Ar15.2.1) Ar15.2.2 hin15 hat15 (g := (mkF m 36 #[.val (.ref a1), .val (.int f1)] [(.int (2 : Int32)), (.ref b), (.int (2 : Int32)), (.ref b)])) rfl rfl (hb hby d5_36) _ ?_
      show Steps p.tables e below (T14.setTop (mkF m 37 #[.val (.ref a1), .val (.int f1)] [(.long v3), (.int (2 : Int32)), (.ref b)])) _
      refine XS.lconst X14.here hx rfl (hb hby d5_37) ?_
      show Steps p.tables e below (T14.setTop (mkF m 38 #[.val (.ref a1), .val (.int f1)] [(.long (1 : Int64)), (.long v3), (.int (2 : Int32)), (.ref b)])) _
      refine XS.iloadN X14.here hx rfl (hb hby d5_38) rfl ?_
      show Steps p.tables e below (T14.setTop (mkF m 39 #[.val (.ref a1), .val (.int f1)] [(.int f1), (.long (1 : Int64)), (.long v3), (.int (2 : Int32)), (.ref b)])) _
      refine XS.lshl X14.here hx rfl (hb hby d5_39) rfl ?_
      show Steps p.tables e below (T14.setTop (mkF m 40 #[.val (.ref a1), .val (.int f1)] [(.long ((1 : Int64) <<< (f1 &&& 0x3f).toInt64)), (.long v3), (.int (2 : Int32)), (.ref b)])) _
      refine X14.ldc2Long hx hown (mvT hZ (hw _ (List.mem_of_getElem? (i := 32) rfl))) (g := (mkF m 40 #[.val (.ref a1), .val (.int f1)] [(.long ((1 : Int64) <<< (f1 &&& 0x3f).toInt64)), (.long v3), (.int (2 : Int32)), (.ref b)])) rfl (hb hby d5_40) _ ?_
      show Steps p.tables e below (T14.setTop (mkF m 43 #[.val (.ref a1), .val (.int f1)] [(.long (-1 : Int64)), (.long ((1 : Int64) <<< (f1 &&& 0x3f).toInt64)), (.long v3), (.int (2 : Int32)), (.ref b)])) _
      refine XS.lxor X14.here hx rfl (hb hby d5_43) rfl ?_
      show Steps p.tables e below (T14.setTop (mkF m 44 #[.val (.ref a1), .val (.int f1)] [(.long (((1 : Int64) <<< (f1 &&& 0x3f).toInt64) ^^^ (-1 : Int64))), (.long v3), (.int (2 : Int32)), (.ref b)])) _
      refine XS.land X14.here hx rfl (hb hby d5_44) rfl ?_
      show Steps p.tables e below (T14.setTop (mkF m 45 #[.val (.ref a1), .val (.int f1)] [(.long (v3 &&& (((1 : Int64) <<< (f1 &&& 0x3f).toInt64) ^^^ (-1 : Int64)))), (.int (2 : Int32)), (.ref b)])) _
      refine st17 _ ?_
      exact kt
    obtain ⟨fs, hr, hrun, hended, hW, hsame⟩ := X17.leave (v := none) (fun _ => rfl)
    refine ⟨_, _, pre18 _ ?_, hrun, hended, _, _, rfl, ?_, ⟨_, rfl⟩, hW, hsame.mono (by decide) (by decide)⟩
    · show Steps p.tables e below (T17.setTop (mkF m 46 #[.val (.ref a1), .val (.int f1)] [])) _
      exact X17.returnOut hx Bd.returns (hb hby d5_46) hr
    · show QA Z a1 b kb z1 u0 u1 u2 u3 h0 n0 _ T17.heap _
      rw [e17]
      rw [hu0, hu1, hu2, hu3]
      exact ⟨rfl, N17, K17, (Exa.wr W17 E_a1), (Fld.other W17 F_f (Or.inl hne)), (Fld.other W17 F_g (Or.inl hne)), V17⟩
theorem d3_0 : decode prog_6_method_9_code 0 = .ok (.aload_n 0, 1) := by decide +kernel
theorem d3_1 : decode prog_6_method_9_code 1 = .ok (.getfield 18, 3) := by decide +kernel
theorem d3_4 : decode prog_6_method_9_code 4 = .ok (.lconst 0, 1) := by decide +kernel
theorem d3_5 : decode prog_6_method_9_code 5 = .ok (.lcmp, 1) := by decide +kernel
theorem d3_6 : decode prog_6_method_9_code 6 = .ok (.ifCond .ne 7, 3) := by decide +kernel
theorem d3_9 : decode prog_6_method_9_code 9 = .ok (.iconst 1, 1) := by decide +kernel
theorem d3_10 : decode prog_6_method_9_code 10 = .ok (.goto 4, 3) := by decide +kernel
theorem d3_13 : decode prog_6_method_9_code 13 = .ok (.iconst 0, 1) := by decide +kernel
theorem d3_14 : decode prog_6_method_9_code 14 = .ok (.istore_n 1, 1) := by decide +kernel
theorem d3_15 : decode prog_6_method_9_code 15 = .ok (.iconst 0, 1) := by decide +kernel
theorem d3_16 : decode prog_6_method_9_code 16 = .ok (.istore_n 2, 1) := by decide +kernel
theorem d3_17 : decode prog_6_method_9_code 17 = .ok (.iload_n 1, 1) := by decide +kernel
theorem d3_18 : decode prog_6_method_9_code 18 = .ok (.ifCond .eq 35, 3) := by decide +kernel
theorem d3_21 : decode prog_6_method_9_code 21 = .ok (.iload_n 2, 1) := by decide +kernel
theorem d3_22 : decode prog_6_method_9_code 22 = .ok (.aload_n 0, 1) := by decide +kernel
theorem d3_23 : decode prog_6_method_9_code 23 = .ok (.getfield 15, 3) := by decide +kernel
theorem d3_26 : decode prog_6_method_9_code 26 = .ok (.arraylength, 1) := by decide +kernel
theorem d3_27 : decode prog_6_method_9_code 27 = .ok (.if_icmp .ge 26, 3) := by decide +kernel
theorem d3_30 : decode prog_6_method_9_code 30 = .ok (.aload_n 0, 1) := by decide +kernel
theorem d3_31 : decode prog_6_method_9_code 31 = .ok (.getfield 15, 3) := by decide +kernel
theorem d3_34 : decode prog_6_method_9_code 34 = .ok (.iload_n 2, 1) := by decide +kernel
theorem d3_35 : decode prog_6_method_9_code 35 = .ok (.laload, 1) := by decide +kernel
theorem d3_36 : decode prog_6_method_9_code 36 = .ok (.lconst 0, 1) := by decide +kernel
theorem d3_37 : decode prog_6_method_9_code 37 = .ok (.lcmp, 1) := by decide +kernel
theorem d3_38 : decode prog_6_method_9_code 38 = .ok (.ifCond .ne 7, 3) := by decide +kernel
theorem d3_41 : decode prog_6_method_9_code 41 = .ok (.iconst 1, 1) := by decide +kernel
theorem d3_42 : decode prog_6_method_9_code 42 = .ok (.goto 4, 3) := by decide +kernel
theorem d3_45 : decode prog_6_method_9_code 45 = .ok (.iconst 0, 1) := by decide +kernel
theorem d3_46 : decode prog_6_method_9_code 46 = .ok (.istore_n 1, 1) := by decide +kernel
theorem d3_47 : decode prog_6_method_9_code 47 = .ok (.iinc 2 1, 3) := by decide +kernel
theorem d3_50 : decode prog_6_method_9_code 50 = .ok (.goto (-33), 3) := by decide +kernel
theorem d3_53 : decode prog_6_method_9_code 53 = .ok (.iload_n 1, 1) := by decide +kernel
theorem d3_54 : decode prog_6_method_9_code 54 = .ok (.ireturn, 1) := by decide +kernel
theorem pn_rmE : plainName "com/example/phase7/phase7/metadata/FieldSet" = true := by first | (simp [plainName, overriddenIn]; done) | decide +kernel
theorem ef_rmE (m : MethodId) (a1 : Addr) : entryFrame m #[(.ref a1)] 3 = mkF m 0 #[.val (.ref a1), .unset, .unset] [] := by first | (simp [entryFrame, mkF, argsToLocals, Value.category]; done) | rfl
set_option maxRecDepth 65536 in
set_option maxHeartbeats 40000000 in
theorem rmE (l : Launch) (Z : State) (a0 : Array Value) (hw : ∀ d ∈ tables_1, d.before a0 Z = true) (ws : List Jvm.Cond) (a1 b : Addr) (kb : ClassId) (z1 r : Int32) (v0 v1 v2 v3 : Int64) (h0 : Heap) (n0 : Nat) (Z0 : n0 ≤ h0.size) (F_f : Fld Z h0 a1 "com/example/phase7/phase7/metadata/FieldSet" "first" "J" (.long v0)) (F_g : Fld Z h0 a1 "com/example/phase7/phase7/metadata/FieldSet" "further" "[J" (.ref b)) (V_b : Arv Z h0 b kb .long z1 [(.long v1), (.long v2), (.long v3)] (.long (0 : Int64))) (rz : z1 = 0 ∨ z1 = 1 ∨ z1 = 2 ∨ z1 = 3) (hbz : (z1.toInt < 1 → v1 = 0) ∧ (z1.toInt < 2 → v2 = 0) ∧ (z1.toInt < 3 → v3 = 0)) (hr0 : r = if (v0 = 0 ∧ v1 = 0 ∧ v2 = 0 ∧ v3 = 0) then (1 : Int32) else 0) :
    MetFree l (⟨"com/example/phase7/phase7/metadata/FieldSet", "isEmpty", "()Z"⟩ : MethodName) (head1 (Jvm.Cond.code (⟨"com/example/phase7/phase7/metadata/FieldSet", "isEmpty", "()Z"⟩ : MethodName) prog_6_method_9_code 3 (some .boolean) :: ws) ({ frames := 0, cells := 0, slots := 0, locals := 0 } : Room)) (fun a U => a = #[(.ref a1)] ∧ Z.Warmed39 U.vm ∧ U.heap = h0) (fun _ _ _ _ _ => True) (fun _ U o U' => ∃ v L, o = .returned v ∧ QI Z r h0 n0 v U'.heap L ∧ FrameEnd U o U' L ({ frames := 0, cells := 0, slots := 0, locals := 0 } : Room).cells ({ frames := 0, cells := 0, slots := 0, locals := 0 } : Room).slots) := by
  refine MetFree.of_bodySF (plainFor_of_name pn_rmE) hisR ?_
  intro p e s m args below meth c s₁ Bd hml0 hP hK
  obtain ⟨rfl, hZ, hh⟩ := hP
  have hx := Bd.exec
  have hby := Bd.bytes
  have hml : c.maxLocals = 3 := hml0
  have hown : s.vm.findClass "com/example/phase7/phase7/metadata/FieldSet" = some m.cls := findClass_of_methodNamed Bd.named
  have hnm := (name_of_methodNamed Bd.named Bd.method).1
  have X0 : Stand p l e ({ frames := 0, cells := 0, slots := 0, locals := 0 } : Room) s m #[(.ref a1)] below meth c s₁ [] 0 0 := Stand.of_body Bd
  have e0 : s₁.heap = h0 := by rw [← hh, Bd.state]; rfl
  have N0 := Fr.nil n0
  have pre0 : ∀ tt, Steps p.tables e below (s₁.setTop (mkF m 0 #[.val (.ref a1), .unset, .unset] [])) tt → Steps p.tables e below (s₁.setTop (entryFrame m #[(.ref a1)] 3)) tt := fun tt kt => castTop (ef_rmE m a1) kt
  rcases rz with rfl | rfl | rfl | rfl
  · have hz0 := hbz
    obtain ⟨T1, X1, e1, st1⟩ := getF X0 hx hZ hown (host := "") (Or.inl (hw _ (List.mem_of_getElem? (i := 19) rfl))) Via.refl e0 F_f (g := (mkF m 1 #[.val (.ref a1), .unset, .unset] [(.ref a1)])) rfl rfl (hb hby d3_1)
    have pre2 : ∀ tt, Steps p.tables e below (T1.setTop (mkF m 6 #[.val (.ref a1), .unset, .unset] [(.int (lcmpW v0 (0 : Int64)))])) tt → Steps p.tables e below (s₁.setTop (entryFrame m #[(.ref a1)] 3)) tt := by
      intro tt kt
      refine pre0 tt ?_
      show Steps p.tables e below (s₁.setTop (mkF m 0 #[.val (.ref a1), .unset, .unset] [])) _
      refine XS.aloadN X0.here hx rfl (hb hby d3_0) rfl rfl ?_
      show Steps p.tables e below (s₁.setTop (mkF m 1 #[.val (.ref a1), .unset, .unset] [(.ref a1)])) _
      refine st1 _ ?_
      show Steps p.tables e below (T1.setTop (mkF m 4 #[.val (.ref a1), .unset, .unset] [(.long v0)])) _
      refine XS.lconst X1.here hx rfl (hb hby d3_4) ?_
      show Steps p.tables e below (T1.setTop (mkF m 5 #[.val (.ref a1), .unset, .unset] [(.long (0 : Int64)), (.long v0)])) _
      refine XS.lcmp X1.here hx rfl (hb hby d3_5) rfl ?_
      exact kt
    by_cases c6_3 : (lcmpW v0 (0 : Int64)) = (0 : Int32)
    · obtain ⟨T4, X4, e4, st4⟩ := getF X1 hx hZ hown (host := "") (Or.inl (hw _ (List.mem_of_getElem? (i := 12) rfl))) Via.refl e1 F_g (g := (mkF m 23 #[.val (.ref a1), .val (.int (1 : Int32)), .val (.int (0 : Int32))] [(.ref a1), (.int (0 : Int32))])) rfl rfl (hb hby d3_23)
      have VO5 := V_b
      obtain ⟨cl5, Ar5, q5, S5, M5, H5, G5⟩ := VO5
      have pre6 : ∀ tt, Steps p.tables e below (T4.setTop (mkF m 54 #[.val (.ref a1), .val (.int (1 : Int32)), .val (.int (0 : Int32))] [(.int (1 : Int32))])) tt → Steps p.tables e below (s₁.setTop (entryFrame m #[(.ref a1)] 3)) tt := by
        intro tt kt
        refine pre2 tt ?_
        show Steps p.tables e below (T1.setTop (mkF m 6 #[.val (.ref a1), .unset, .unset] [(.int (lcmpW v0 (0 : Int64)))])) _
        refine XS.ifNo X1.here hx rfl (hb hby d3_6) rfl ((if0 _ _).trans (teq c6_3).2) ?_
        show Steps p.tables e below (T1.setTop (mkF m 9 #[.val (.ref a1), .unset, .unset] [])) _
        refine XS.iconst X1.here hx rfl (hb hby d3_9) ?_
        show Steps p.tables e below (T1.setTop (mkF m 10 #[.val (.ref a1), .unset, .unset] [(.int (1 : Int32))])) _
        refine XS.goto X1.here hx rfl (pc0 := 10) (pc' := 14) rfl (hb hby d3_10) (by decide) (by decide) ?_
        show Steps p.tables e below (T1.setTop (mkF m 14 #[.val (.ref a1), .unset, .unset] [(.int (1 : Int32))])) _
        refine XS.istoreN X1.here hx rfl (hb hby d3_14) rfl (l' := #[.val (.ref a1), .val (.int (1 : Int32)), .unset]) rfl ?_
        show Steps p.tables e below (T1.setTop (mkF m 15 #[.val (.ref a1), .val (.int (1 : Int32)), .unset] [])) _
        refine XS.iconst X1.here hx rfl (hb hby d3_15) ?_
        show Steps p.tables e below (T1.setTop (mkF m 16 #[.val (.ref a1), .val (.int (1 : Int32)), .unset] [(.int (0 : Int32))])) _
        refine XS.istoreN X1.here hx rfl (hb hby d3_16) rfl (l' := #[.val (.ref a1), .val (.int (1 : Int32)), .val (.int (0 : Int32))]) rfl ?_
        show Steps p.tables e below (T1.setTop (mkF m 17 #[.val (.ref a1), .val (.int (1 : Int32)), .val (.int (0 : Int32))] [])) _
        refine XS.iloadN X1.here hx rfl (hb hby d3_17) rfl ?_
        show Steps p.tables e below (T1.setTop (mkF m 18 #[.val (.ref a1), .val (.int (1 : Int32)), .val (.int (0 : Int32))] [(.int (1 : Int32))])) _
        refine XS.ifNo X1.here hx rfl (hb hby d3_18) rfl ((if0 _ _).trans (feq (by decide : ¬ ((1 : Int32) = (0 : Int32)))).1) ?_
        show Steps p.tables e below (T1.setTop (mkF m 21 #[.val (.ref a1), .val (.int (1 : Int32)), .val (.int (0 : Int32))] [])) _
        refine XS.iloadN X1.here hx rfl (hb hby d3_21) rfl ?_
        show Steps p.tables e below (T1.setTop (mkF m 22 #[.val (.ref a1), .val (.int (1 : Int32)), .val (.int (0 : Int32))] [(.int (0 : Int32))])) _
        refine XS.aloadN X1.here hx rfl (hb hby d3_22) rfl rfl ?_
        show Steps p.tables e below (T1.setTop (mkF m 23 #[.val (.ref a1), .val (.int (1 : Int32)), .val (.int (0 : Int32))] [(.ref a1), (.int (0 : Int32))])) _
        refine st4 _ ?_
        show Steps p.tables e below (T4.setTop (mkF m 26 #[.val (.ref a1), .val (.int (1 : Int32)), .val (.int (0 : Int32))] [(.ref b), (.int (0 : Int32))])) _
        refine X4.arraylength hx (by rw [e4]; exact Ar5.1) (State.isArrayOf_alike hZ.alike Ar5.2.1) (g := (mkF m 26 #[.val (.ref a1), .val (.int (1 : Int32)), .val (.int (0 : Int32))] [(.ref b), (.int (0 : Int32))])) rfl rfl (hb hby d3_26) _ ?_
        rw [len_of S5 M5]
        show Steps p.tables e below (T4.setTop (mkF m 27 #[.val (.ref a1), .val (.int (1 : Int32)), .val (.int (0 : Int32))] [(.int (0 : Int32)), (.int (0 : Int32))])) _
        refine XS.icmpYes X4.here hx rfl (pc0 := 27) (pc' := 53) rfl (hb hby d3_27) rfl (flt (by decide : ¬ ((0 : Int32) < (0 : Int32)))).2.1 (by decide) (by decide) ?_
        show Steps p.tables e below (T4.setTop (mkF m 53 #[.val (.ref a1), .val (.int (1 : Int32)), .val (.int (0 : Int32))] [])) _
        refine XS.iloadN X4.here hx rfl (hb hby d3_53) rfl ?_
        exact kt
      obtain ⟨fs, hr, hrun, hended, hW, hsame⟩ := X4.leave (v := some (.int (1 : Int32))) (fun h => by rw [Bd.returns] at h; cases h)
      refine ⟨_, _, pre6 _ ?_, hrun, hended, _, _, rfl, ?_, ⟨_, rfl⟩, hW, hsame.mono (by decide) (by decide)⟩
      · show Steps p.tables e below (T4.setTop (mkF m 54 #[.val (.ref a1), .val (.int (1 : Int32)), .val (.int (0 : Int32))] [(.int (1 : Int32))])) _
        exact retN X4 hx (t := .boolean) Bd.returns (by simp) (hb hby d3_54) hr
      · show QI Z r h0 n0 _ T4.heap _
        rw [e4]
        exact ⟨by rw [hr0]; simp [(lw_eq _ _).mp c6_3, hbz.1 (by decide), hbz.2.1 (by decide), hbz.2.2 (by decide)], N0, rfl⟩
    · have pre7 : ∀ tt, Steps p.tables e below (T1.setTop (mkF m 54 #[.val (.ref a1), .val (.int (0 : Int32)), .val (.int (0 : Int32))] [(.int (0 : Int32))])) tt → Steps p.tables e below (s₁.setTop (entryFrame m #[(.ref a1)] 3)) tt := by
        intro tt kt
        refine pre2 tt ?_
        show Steps p.tables e below (T1.setTop (mkF m 6 #[.val (.ref a1), .unset, .unset] [(.int (lcmpW v0 (0 : Int64)))])) _
        refine XS.ifYes X1.here hx rfl (pc0 := 6) (pc' := 13) rfl (hb hby d3_6) rfl ((if0 _ _).trans (feq c6_3).2) (by decide) (by decide) ?_
        show Steps p.tables e below (T1.setTop (mkF m 13 #[.val (.ref a1), .unset, .unset] [])) _
        refine XS.iconst X1.here hx rfl (hb hby d3_13) ?_
        show Steps p.tables e below (T1.setTop (mkF m 14 #[.val (.ref a1), .unset, .unset] [(.int (0 : Int32))])) _
        refine XS.istoreN X1.here hx rfl (hb hby d3_14) rfl (l' := #[.val (.ref a1), .val (.int (0 : Int32)), .unset]) rfl ?_
        show Steps p.tables e below (T1.setTop (mkF m 15 #[.val (.ref a1), .val (.int (0 : Int32)), .unset] [])) _
        refine XS.iconst X1.here hx rfl (hb hby d3_15) ?_
        show Steps p.tables e below (T1.setTop (mkF m 16 #[.val (.ref a1), .val (.int (0 : Int32)), .unset] [(.int (0 : Int32))])) _
        refine XS.istoreN X1.here hx rfl (hb hby d3_16) rfl (l' := #[.val (.ref a1), .val (.int (0 : Int32)), .val (.int (0 : Int32))]) rfl ?_
        show Steps p.tables e below (T1.setTop (mkF m 17 #[.val (.ref a1), .val (.int (0 : Int32)), .val (.int (0 : Int32))] [])) _
        refine XS.iloadN X1.here hx rfl (hb hby d3_17) rfl ?_
        show Steps p.tables e below (T1.setTop (mkF m 18 #[.val (.ref a1), .val (.int (0 : Int32)), .val (.int (0 : Int32))] [(.int (0 : Int32))])) _
        refine XS.ifYes X1.here hx rfl (pc0 := 18) (pc' := 53) rfl (hb hby d3_18) rfl ((if0 _ _).trans (teq (rfl : (0 : Int32) = (0 : Int32))).1) (by decide) (by decide) ?_
        show Steps p.tables e below (T1.setTop (mkF m 53 #[.val (.ref a1), .val (.int (0 : Int32)), .val (.int (0 : Int32))] [])) _
        refine XS.iloadN X1.here hx rfl (hb hby d3_53) rfl ?_
        exact kt
      obtain ⟨fs, hr, hrun, hended, hW, hsame⟩ := X1.leave (v := some (.int (0 : Int32))) (fun h => by rw [Bd.returns] at h; cases h)
      refine ⟨_, _, pre7 _ ?_, hrun, hended, _, _, rfl, ?_, ⟨_, rfl⟩, hW, hsame.mono (by decide) (by decide)⟩
      · show Steps p.tables e below (T1.setTop (mkF m 54 #[.val (.ref a1), .val (.int (0 : Int32)), .val (.int (0 : Int32))] [(.int (0 : Int32))])) _
        exact retN X1 hx (t := .boolean) Bd.returns (by simp) (hb hby d3_54) hr
      · show QI Z r h0 n0 _ T1.heap _
        rw [e1]
        exact ⟨by rw [hr0]; simp [(show ¬ (v0 = 0) from fun q => c6_3 ((lw_eq _ _).mpr q)), hbz.1 (by decide), hbz.2.1 (by decide), hbz.2.2 (by decide)], N0, rfl⟩
  · have hz1 := hbz
    obtain ⟨T8, X8, e8, st8⟩ := getF X0 hx hZ hown (host := "") (Or.inl (hw _ (List.mem_of_getElem? (i := 19) rfl))) Via.refl e0 F_f (g := (mkF m 1 #[.val (.ref a1), .unset, .unset] [(.ref a1)])) rfl rfl (hb hby d3_1)
    have pre9 : ∀ tt, Steps p.tables e below (T8.setTop (mkF m 6 #[.val (.ref a1), .unset, .unset] [(.int (lcmpW v0 (0 : Int64)))])) tt → Steps p.tables e below (s₁.setTop (entryFrame m #[(.ref a1)] 3)) tt := by
      intro tt kt
      refine pre0 tt ?_
      show Steps p.tables e below (s₁.setTop (mkF m 0 #[.val (.ref a1), .unset, .unset] [])) _
      refine XS.aloadN X0.here hx rfl (hb hby d3_0) rfl rfl ?_
      show Steps p.tables e below (s₁.setTop (mkF m 1 #[.val (.ref a1), .unset, .unset] [(.ref a1)])) _
      refine st8 _ ?_
      show Steps p.tables e below (T8.setTop (mkF m 4 #[.val (.ref a1), .unset, .unset] [(.long v0)])) _
      refine XS.lconst X8.here hx rfl (hb hby d3_4) ?_
      show Steps p.tables e below (T8.setTop (mkF m 5 #[.val (.ref a1), .unset, .unset] [(.long (0 : Int64)), (.long v0)])) _
      refine XS.lcmp X8.here hx rfl (hb hby d3_5) rfl ?_
      exact kt
    by_cases c6_10 : (lcmpW v0 (0 : Int64)) = (0 : Int32)
    · obtain ⟨T11, X11, e11, st11⟩ := getF X8 hx hZ hown (host := "") (Or.inl (hw _ (List.mem_of_getElem? (i := 12) rfl))) Via.refl e8 F_g (g := (mkF m 23 #[.val (.ref a1), .val (.int (1 : Int32)), .val (.int (0 : Int32))] [(.ref a1), (.int (0 : Int32))])) rfl rfl (hb hby d3_23)
      have VO12 := V_b
      obtain ⟨cl12, Ar12, q12, S12, M12, H12, G12⟩ := VO12
      obtain ⟨T13, X13, e13, st13⟩ := getF X11 hx hZ hown (host := "") (Or.inl (hw _ (List.mem_of_getElem? (i := 12) rfl))) Via.refl e11 F_g (g := (mkF m 31 #[.val (.ref a1), .val (.int (1 : Int32)), .val (.int (0 : Int32))] [(.ref a1)])) rfl rfl (hb hby d3_31)
      have VO14 := V_b
      obtain ⟨cl14, Ar14, q14, S14, M14, H14, G14⟩ := VO14
      have hin14 : ¬ ((0 : Int32) < 0 ∨ cl14.slots.size ≤ ((0 : Int32)).toNatClampNeg) := inb_of S14 ⟨by decide, by decide⟩
      have hat14 : cl14.slots[((0 : Int32)).toNatClampNeg]? = some (.long v1) := H14.at hin14 rfl
      have pre15 : ∀ tt, Steps p.tables e below (T13.setTop (mkF m 38 #[.val (.ref a1), .val (.int (1 : Int32)), .val (.int (0 : Int32))] [(.int (lcmpW v1 (0 : Int64)))])) tt → Steps p.tables e below (s₁.setTop (entryFrame m #[(.ref a1)] 3)) tt := by
        intro tt kt
        refine pre9 tt ?_
        show Steps p.tables e below (T8.setTop (mkF m 6 #[.val (.ref a1), .unset, .unset] [(.int (lcmpW v0 (0 : Int64)))])) _
        refine XS.ifNo X8.here hx rfl (hb hby d3_6) rfl ((if0 _ _).trans (teq c6_10).2) ?_
        show Steps p.tables e below (T8.setTop (mkF m 9 #[.val (.ref a1), .unset, .unset] [])) _
        refine XS.iconst X8.here hx rfl (hb hby d3_9) ?_
        show Steps p.tables e below (T8.setTop (mkF m 10 #[.val (.ref a1), .unset, .unset] [(.int (1 : Int32))])) _
        refine XS.goto X8.here hx rfl (pc0 := 10) (pc' := 14) rfl (hb hby d3_10) (by decide) (by decide) ?_
        show Steps p.tables e below (T8.setTop (mkF m 14 #[.val (.ref a1), .unset, .unset] [(.int (1 : Int32))])) _
        refine XS.istoreN X8.here hx rfl (hb hby d3_14) rfl (l' := #[.val (.ref a1), .val (.int (1 : Int32)), .unset]) rfl ?_
        show Steps p.tables e below (T8.setTop (mkF m 15 #[.val (.ref a1), .val (.int (1 : Int32)), .unset] [])) _
        refine XS.iconst X8.here hx rfl (hb hby d3_15) ?_
        show Steps p.tables e below (T8.setTop (mkF m 16 #[.val (.ref a1), .val (.int (1 : Int32)), .unset] [(.int (0 : Int32))])) _
        refine XS.istoreN X8.here hx rfl (hb hby d3_16) rfl (l' := #[.val (.ref a1), .val (.int (1 : Int32)), .val (.int (0 : Int32))]) rfl ?_
        show Steps p.tables e below (T8.setTop (mkF m 17 #[.val (.ref a1), .val (.int (1 : Int32)), .val (.int (0 : Int32))] [])) _
        refine XS.iloadN X8.here hx rfl (hb hby d3_17) rfl ?_
        show Steps p.tables e below (T8.setTop (mkF m 18 #[.val (.ref a1), .val (.int (1 : Int32)), .val (.int (0 : Int32))] [(.int (1 : Int32))])) _
        refine XS.ifNo X8.here hx rfl (hb hby d3_18) rfl ((if0 _ _).trans (feq (by decide : ¬ ((1 : Int32) = (0 : Int32)))).1) ?_
        show Steps p.tables e below (T8.setTop (mkF m 21 #[.val (.ref a1), .val (.int (1 : Int32)), .val (.int (0 : Int32))] [])) _
        refine XS.iloadN X8.here hx rfl (hb hby d3_21) rfl ?_
        show Steps p.tables e below (T8.setTop (mkF m 22 #[.val (.ref a1), .val (.int (1 : Int32)), .val (.int (0 : Int32))] [(.int (0 : Int32))])) _
        refine XS.aloadN X8.here hx rfl (hb hby d3_22) rfl rfl ?_
        show Steps p.tables e below (T8.setTop (mkF m 23 #[.val (.ref a1), .val (.int (1 : Int32)), .val (.int (0 : Int32))] [(.ref a1), (.int (0 : Int32))])) _
        refine st11 _ ?_
        show Steps p.tables e below (T11.setTop (mkF m 26 #[.val (.ref a1), .val (.int (1 : Int32)), .val (.int (0 : Int32))] [(.ref b), (.int (0 : Int32))])) _
        refine X11.arraylength hx (by rw [e11]; exact Ar12.1) (State.isArrayOf_alike hZ.alike Ar12.2.1) (g := (mkF m 26 #[.val (.ref a1), .val (.int (1 : Int32)), .val (.int (0 : Int32))] [(.ref b), (.int (0 : Int32))])) rfl rfl (hb hby d3_26) _ ?_
        rw [len_of S12 M12]
        show Steps p.tables e below (T11.setTop (mkF m 27 #[.val (.ref a1), .val (.int (1 : Int32)), .val (.int (0 : Int32))] [(.int (1 : Int32)), (.int (0 : Int32))])) _
        refine XS.icmpNo X11.here hx rfl (hb hby d3_27) rfl (tlt (by decide : (0 : Int32) < (1 : Int32))).2.1 ?_
        show Steps p.tables e below (T11.setTop (mkF m 30 #[.val (.ref a1), .val (.int (1 : Int32)), .val (.int (0 : Int32))] [])) _
        refine XS.aloadN X11.here hx rfl (hb hby d3_30) rfl rfl ?_
        show Steps p.tables e below (T11.setTop (mkF m 31 #[.val (.ref a1), .val (.int (1 : Int32)), .val (.int (0 : Int32))] [(.ref a1)])) _
        refine st13 _ ?_
        show Steps p.tables e below (T13.setTop (mkF m 34 #[.val (.ref a1), .val (.int (1 : Int32)), .val (.int (0 : Int32))] [(.ref b)])) _
        refine XS.iloadN X13.here hx rfl (hb hby d3_34) rfl ?_
        show Steps p.tables e below (T13.setTop (mkF m 35 #[.val (.ref a1), .val (.int (1 : Int32)), .val (.int (0 : Int32))] [(.int (0 : Int32)), (.ref b)])) _
        refine X13.laload hx (j := (0 : Int32)) (v := (.long v1)) (by rw [e13]; exact Ar14.1) (State.isArrayOf_alike hZ.alike Ar14.2.1) Ar14.2.2 hin14 hat14 (g := (mkF m 35 #[.val (.ref a1), .val (.int (1 : Int32)), .val (.int (0 : Int32))] [(.int (0 : Int32)), (.ref b)])) rfl rfl (hb hby d3_35) _ ?_
        show Steps p.tables e below (T13.setTop (mkF m 36 #[.val (.ref a1), .val (.int (1 : Int32)), .val (.int (0 : Int32))] [(.long v1)])) _
        refine XS.lconst X13.here hx rfl (hb hby d3_36) ?_
        show Steps p.tables e below (T13.setTop (mkF m 37 #[.val (.ref a1), .val (.int (1 : Int32)), .val (.int (0 : Int32))] [(.long (0 : Int64)), (.long v1)])) _
        refine XS.lcmp X13.here hx rfl (hb hby d3_37) rfl ?_
        exact kt
      by_cases c38_16 : (lcmpW v1 (0 : Int64)) = (0 : Int32)
      · obtain ⟨T17, X17, e17, st17⟩ := getF X13 hx hZ hown (host := "") (Or.inl (hw _ (List.mem_of_getElem? (i := 12) rfl))) Via.refl e13 F_g (g := (mkF m 23 #[.val (.ref a1), .val (.int (1 : Int32)), .val (.int (1 : Int32))] [(.ref a1), (.int (1 : Int32))])) rfl rfl (hb hby d3_23)
        have VO18 := V_b
        obtain ⟨cl18, Ar18, q18, S18, M18, H18, G18⟩ := VO18
        have pre19 : ∀ tt, Steps p.tables e below (T17.setTop (mkF m 54 #[.val (.ref a1), .val (.int (1 : Int32)), .val (.int (1 : Int32))] [(.int (1 : Int32))])) tt → Steps p.tables e below (s₁.setTop (entryFrame m #[(.ref a1)] 3)) tt := by
          intro tt kt
          refine pre15 tt ?_
          show Steps p.tables e below (T13.setTop (mkF m 38 #[.val (.ref a1), .val (.int (1 : Int32)), .val (.int (0 : Int32))] [(.int (lcmpW v1 (0 : Int64)))])) _
          refine XS.ifNo X13.here hx rfl (hb hby d3_38) rfl ((if0 _ _).trans (teq c38_16).2) ?_
          show Steps p.tables e below (T13.setTop (mkF m 41 #[.val (.ref a1), .val (.int (1 : Int32)), .val (.int (0 : Int32))] [])) _
          refine XS.iconst X13.here hx rfl (hb hby d3_41) ?_
          show Steps p.tables e below (T13.setTop (mkF m 42 #[.val (.ref a1), .val (.int (1 : Int32)), .val (.int (0 : Int32))] [(.int (1 : Int32))])) _
          refine XS.goto X13.here hx rfl (pc0 := 42) (pc' := 46) rfl (hb hby d3_42) (by decide) (by decide) ?_
          show Steps p.tables e below (T13.setTop (mkF m 46 #[.val (.ref a1), .val (.int (1 : Int32)), .val (.int (0 : Int32))] [(.int (1 : Int32))])) _
          refine XS.istoreN X13.here hx rfl (hb hby d3_46) rfl (l' := #[.val (.ref a1), .val (.int (1 : Int32)), .val (.int (0 : Int32))]) rfl ?_
          show Steps p.tables e below (T13.setTop (mkF m 47 #[.val (.ref a1), .val (.int (1 : Int32)), .val (.int (0 : Int32))] [])) _
          refine XS.iinc X13.here hx rfl (hb hby d3_47) rfl (l' := #[.val (.ref a1), .val (.int (1 : Int32)), .val (.int (1 : Int32))]) rfl ?_
          show Steps p.tables e below (T13.setTop (mkF m 50 #[.val (.ref a1), .val (.int (1 : Int32)), .val (.int (1 : Int32))] [])) _
          refine XS.goto X13.here hx rfl (pc0 := 50) (pc' := 17) rfl (hb hby d3_50) (by decide) (by decide) ?_
          show Steps p.tables e below (T13.setTop (mkF m 17 #[.val (.ref a1), .val (.int (1 : Int32)), .val (.int (1 : Int32))] [])) _
          refine XS.iloadN X13.here hx rfl (hb hby d3_17) rfl ?_
          show Steps p.tables e below (T13.setTop (mkF m 18 #[.val (.ref a1), .val (.int (1 : Int32)), .val (.int (1 : Int32))] [(.int (1 : Int32))])) _
          refine XS.ifNo X13.here hx rfl (hb hby d3_18) rfl ((if0 _ _).trans (feq (by decide : ¬ ((1 : Int32) = (0 : Int32)))).1) ?_
          show Steps p.tables e below (T13.setTop (mkF m 21 #[.val (.ref a1), .val (.int (1 : Int32)), .val (.int (1 : Int32))] [])) _
          refine XS.iloadN X13.here hx rfl (hb hby d3_21) rfl ?_
          show Steps p.tables e below (T13.setTop (mkF m 22 #[.val (.ref a1), .val (.int (1 : Int32)), .val (.int (1 : Int32))] [(.int (1 : Int32))])) _
          refine XS.aloadN X13.here hx rfl (hb hby d3_22) rfl rfl ?_
          show Steps p.tables e below (T13.setTop (mkF m 23 #[.val (.ref a1), .val (.int (1 : Int32)), .val (.int (1 : Int32))] [(.ref a1), (.int (1 : Int32))])) _
          refine st17 _ ?_
          show Steps p.tables e below (T17.setTop (mkF m 26 #[.val (.ref a1), .val (.int (1 : Int32)), .val (.int (1 : Int32))] [(.ref b), (.int (1 : Int32))])) _
          refine X17.arraylength hx (by rw [e17]; exact Ar18.1) (State.isArrayOf_alike hZ.alike Ar18.2.1) (g := (mkF m 26 #[.val (.ref a1), .val (.int (1 : Int32)), .val (.int (1 : Int32))] [(.ref b), (.int (1 : Int32))])) rfl rfl (hb hby d3_26) _ ?_
          rw [len_of S18 M18]
          show Steps p.tables e below (T17.setTop (mkF m 27 #[.val (.ref a1), .val (.int (1 : Int32)), .val (.int (1 : Int32))] [(.int (1 : Int32)), (.int (1 : Int32))])) _
          refine XS.icmpYes X17.here hx rfl (pc0 := 27) (pc' := 53) rfl (hb hby d3_27) rfl (flt (by decide : ¬ ((1 : Int32) < (1 : Int32)))).2.1 (by decide) (by decide) ?_
          show Steps p.tables e below (T17.setTop (mkF m 53 #[.val (.ref a1), .val (.int (1 : Int32)), .val (.int (1 : Int32))] [])) _
          refine XS.iloadN X17.here hx rfl (hb hby d3_53) rfl ?_
          exact kt
        obtain ⟨fs, hr, hrun, hended, hW, hsame⟩ := X17.leave (v := some (.int (1 : Int32))) (fun h => by rw [Bd.returns] at h; cases h)
        refine ⟨_, _, pre19 _ ?_, hrun, hended, _, _, rfl, ?_, ⟨_, rfl⟩, hW, hsame.mono (by decide) (by decide)⟩
        · show Steps p.tables e below (T17.setTop (mkF m 54 #[.val (.ref a1), .val (.int (1 : Int32)), .val (.int (1 : Int32))] [(.int (1 : Int32))])) _
          exact retN X17 hx (t := .boolean) Bd.returns (by simp) (hb hby d3_54) hr
        · show QI Z r h0 n0 _ T17.heap _
          rw [e17]
          exact ⟨by rw [hr0]; simp [(lw_eq _ _).mp c6_10, (lw_eq _ _).mp c38_16, hbz.2.1 (by decide), hbz.2.2 (by decide)], N0, rfl⟩
      · have pre20 : ∀ tt, Steps p.tables e below (T13.setTop (mkF m 54 #[.val (.ref a1), .val (.int (0 : Int32)), .val (.int (1 : Int32))] [(.int (0 : Int32))])) tt → Steps p.tables e below (s₁.setTop (entryFrame m #[(.ref a1)] 3)) tt := by
          intro tt kt
          refine pre15 tt ?_
          show Steps p.tables e below (T13.setTop (mkF m 38 #[.val (.ref a1), .val (.int (1 : Int32)), .val (.int (0 : Int32))] [(.int (lcmpW v1 (0 : Int64)))])) _
          refine XS.ifYes X13.here hx rfl (pc0 := 38) (pc' := 45) rfl (hb hby d3_38) rfl ((if0 _ _).trans (feq c38_16).2) (by decide) (by decide) ?_
          show Steps p.tables e below (T13.setTop (mkF m 45 #[.val (.ref a1), .val (.int (1 : Int32)), .val (.int (0 : Int32))] [])) _
          refine XS.iconst X13.here hx rfl (hb hby d3_45) ?_
          show Steps p.tables e below (T13.setTop (mkF m 46 #[.val (.ref a1), .val (.int (1 : Int32)), .val (.int (0 : Int32))] [(.int (0 : Int32))])) _
          refine XS.istoreN X13.here hx rfl (hb hby d3_46) rfl (l' := #[.val (.ref a1), .val (.int (0 : Int32)), .val (.int (0 : Int32))]) rfl ?_
          show Steps p.tables e below (T13.setTop (mkF m 47 #[.val (.ref a1), .val (.int (0 : Int32)), .val (.int (0 : Int32))] [])) _
          refine XS.iinc X13.here hx rfl (hb hby d3_47) rfl (l' := #[.val (.ref a1), .val (.int (0 : Int32)), .val (.int (1 : Int32))]) rfl ?_
          show Steps p.tables e below (T13.setTop (mkF m 50 #[.val (.ref a1), .val (.int (0 : Int32)), .val (.int (1 : Int32))] [])) _
          refine XS.goto X13.here hx rfl (pc0 := 50) (pc' := 17) rfl (hb hby d3_50) (by decide) (by decide) ?_
          show Steps p.tables e below (T13.setTop (mkF m 17 #[.val (.ref a1), .val (.int (0 : Int32)), .val (.int (1 : Int32))] [])) _
          refine XS.iloadN X13.here hx rfl (hb hby d3_17) rfl ?_
          show Steps p.tables e below (T13.setTop (mkF m 18 #[.val (.ref a1), .val (.int (0 : Int32)), .val (.int (1 : Int32))] [(.int (0 : Int32))])) _
          refine XS.ifYes X13.here hx rfl (pc0 := 18) (pc' := 53) rfl (hb hby d3_18) rfl ((if0 _ _).trans (teq (rfl : (0 : Int32) = (0 : Int32))).1) (by decide) (by decide) ?_
          show Steps p.tables e below (T13.setTop (mkF m 53 #[.val (.ref a1), .val (.int (0 : Int32)), .val (.int (1 : Int32))] [])) _
          refine XS.iloadN X13.here hx rfl (hb hby d3_53) rfl ?_
          exact kt
        obtain ⟨fs, hr, hrun, hended, hW, hsame⟩ := X13.leave (v := some (.int (0 : Int32))) (fun h => by rw [Bd.returns] at h; cases h)
        refine ⟨_, _, pre20 _ ?_, hrun, hended, _, _, rfl, ?_, ⟨_, rfl⟩, hW, hsame.mono (by decide) (by decide)⟩
        · show Steps p.tables e below (T13.setTop (mkF m 54 #[.val (.ref a1), .val (.int (0 : Int32)), .val (.int (1 : Int32))] [(.int (0 : Int32))])) _
          exact retN X13 hx (t := .boolean) Bd.returns (by simp) (hb hby d3_54) hr
        · show QI Z r h0 n0 _ T13.heap _
          rw [e13]
          exact ⟨by rw [hr0]; simp [(lw_eq _ _).mp c6_10, (show ¬ (v1 = 0) from fun q => c38_16 ((lw_eq _ _).mpr q)), hbz.2.1 (by decide), hbz.2.2 (by decide)], N0, rfl⟩
    · have pre21 : ∀ tt, Steps p.tables e below (T8.setTop (mkF m 54 #[.val (.ref a1), .val (.int (0 : Int32)), .val (.int (0 : Int32))] [(.int (0 : Int32))])) tt → Steps p.tables e below (s₁.setTop (entryFrame m #[(.ref a1)] 3)) tt := by
        intro tt kt
        refine pre9 tt ?_
        show Steps p.tables e below (T8.setTop (mkF m 6 #[.val (.ref a1), .unset, .unset] [(.int (lcmpW v0 (0 : Int64)))])) _
        refine XS.ifYes X8.here hx rfl (pc0 := 6) (pc' := 13) rfl (hb hby d3_6) rfl ((if0 _ _).trans (feq c6_10).2) (by decide) (by decide) ?_
        show Steps p.tables e below (T8.setTop (mkF m 13 #[.val (.ref a1), .unset, .unset] [])) _
        refine XS.iconst X8.here hx rfl (hb hby d3_13) ?_
        show Steps p.tables e below (T8.setTop (mkF m 14 #[.val (.ref a1), .unset, .unset] [(.int (0 : Int32))])) _
        refine XS.istoreN X8.here hx rfl (hb hby d3_14) rfl (l' := #[.val (.ref a1), .val (.int (0 : Int32)), .unset]) rfl ?_
        show Steps p.tables e below (T8.setTop (mkF m 15 #[.val (.ref a1), .val (.int (0 : Int32)), .unset] [])) _
        refine XS.iconst X8.here hx rfl (hb hby d3_15) ?_
        show Steps p.tables e below (T8.setTop (mkF m 16 #[.val (.ref a1), .val (.int (0 : Int32)), .unset] [(.int (0 : Int32))])) _
        refine XS.istoreN X8.here hx rfl (hb hby d3_16) rfl (l' := #[.val (.ref a1), .val (.int (0 : Int32)), .val (.int (0 : Int32))]) rfl ?_
        show Steps p.tables e below (T8.setTop (mkF m 17 #[.val (.ref a1), .val (.int (0 : Int32)), .val (.int (0 : Int32))] [])) _
        refine XS.iloadN X8.here hx rfl (hb hby d3_17) rfl ?_
        show Steps p.tables e below (T8.setTop (mkF m 18 #[.val (.ref a1), .val (.int (0 : Int32)), .val (.int (0 : Int32))] [(.int (0 : Int32))])) _
        refine XS.ifYes X8.here hx rfl (pc0 := 18) (pc' := 53) rfl (hb hby d3_18) rfl ((if0 _ _).trans (teq (rfl : (0 : Int32) = (0 : Int32))).1) (by decide) (by decide) ?_
        show Steps p.tables e below (T8.setTop (mkF m 53 #[.val (.ref a1), .val (.int (0 : Int32)), .val (.int (0 : Int32))] [])) _
        refine XS.iloadN X8.here hx rfl (hb hby d3_53) rfl ?_
        exact kt
      obtain ⟨fs, hr, hrun, hended, hW, hsame⟩ := X8.leave (v := some (.int (0 : Int32))) (fun h => by rw [Bd.returns] at h; cases h)
      refine ⟨_, _, pre21 _ ?_, hrun, hended, _, _, rfl, ?_, ⟨_, rfl⟩, hW, hsame.mono (by decide) (by decide)⟩
      · show Steps p.tables e below (T8.setTop (mkF m 54 #[.val (.ref a1), .val (.int (0 : Int32)), .val (.int (0 : Int32))] [(.int (0 : Int32))])) _
        exact retN X8 hx (t := .boolean) Bd.returns (by simp) (hb hby d3_54) hr
      · show QI Z r h0 n0 _ T8.heap _
        rw [e8]
        exact ⟨by rw [hr0]; simp [(show ¬ (v0 = 0) from fun q => c6_10 ((lw_eq _ _).mpr q)), hbz.2.1 (by decide), hbz.2.2 (by decide)], N0, rfl⟩
  · have hz2 := hbz
    obtain ⟨T22, X22, e22, st22⟩ := getF X0 hx hZ hown (host := "") (Or.inl (hw _ (List.mem_of_getElem? (i := 19) rfl))) Via.refl e0 F_f (g := (mkF m 1 #[.val (.ref a1), .unset, .unset] [(.ref a1)])) rfl rfl (hb hby d3_1)
    have pre23 : ∀ tt, Steps p.tables e below (T22.setTop (mkF m 6 #[.val (.ref a1), .unset, .unset] [(.int (lcmpW v0 (0 : Int64)))])) tt → Steps p.tables e below (s₁.setTop (entryFrame m #[(.ref a1)] 3)) tt := by
      intro tt kt
      refine pre0 tt ?_
      show Steps p.tables e below (s₁.setTop (mkF m 0 #[.val (.ref a1), .unset, .unset] [])) _
      refine XS.aloadN X0.here hx rfl (hb hby d3_0) rfl rfl ?_
      show Steps p.tables e below (s₁.setTop (mkF m 1 #[.val (.ref a1), .unset, .unset] [(.ref a1)])) _
      refine st22 _ ?_
      show Steps p.tables e below (T22.setTop (mkF m 4 #[.val (.ref a1), .unset, .unset] [(.long v0)])) _
      refine XS.lconst X22.here hx rfl (hb hby d3_4) ?_
      show Steps p.tables e below (T22.setTop (mkF m 5 #[.val (.ref a1), .unset, .unset] [(.long (0 : Int64)), (.long v0)])) _
      refine XS.lcmp X22.here hx rfl (hb hby d3_5) rfl ?_
      exact kt
    by_cases c6_24 : (lcmpW v0 (0 : Int64)) = (0 : Int32)
    · obtain ⟨T25, X25, e25, st25⟩ := getF X22 hx hZ hown (host := "") (Or.inl (hw _ (List.mem_of_getElem? (i := 12) rfl))) Via.refl e22 F_g (g := (mkF m 23 #[.val (.ref a1), .val (.int (1 : Int32)), .val (.int (0 : Int32))] [(.ref a1), (.int (0 : Int32))])) rfl rfl (hb hby d3_23)
      have VO26 := V_b
      obtain ⟨cl26, Ar26, q26, S26, M26, H26, G26⟩ := VO26
      obtain ⟨T27, X27, e27, st27⟩ := getF X25 hx hZ hown (host := "") (Or.inl (hw _ (List.mem_of_getElem? (i := 12) rfl))) Via.refl e25 F_g (g := (mkF m 31 #[.val (.ref a1), .val (.int (1 : Int32)), .val (.int (0 : Int32))] [(.ref a1)])) rfl rfl (hb hby d3_31)
      have VO28 := V_b
      obtain ⟨cl28, Ar28, q28, S28, M28, H28, G28⟩ := VO28
      have hin28 : ¬ ((0 : Int32) < 0 ∨ cl28.slots.size ≤ ((0 : Int32)).toNatClampNeg) := inb_of S28 ⟨by decide, by decide⟩
      have hat28 : cl28.slots[((0 : Int32)).toNatClampNeg]? = some (.long v1) := H28.at hin28 rfl
      have pre29 : ∀ tt, Steps p.tables e below (T27.setTop (mkF m 38 #[.val (.ref a1), .val (.int (1 : Int32)), .val (.int (0 : Int32))] [(.int (lcmpW v1 (0 : Int64)))])) tt → Steps p.tables e below (s₁.setTop (entryFrame m #[(.ref a1)] 3)) tt := by
        intro tt kt
        refine pre23 tt ?_
        show Steps p.tables e below (T22.setTop (mkF m 6 #[.val (.ref a1), .unset, .unset] [(.int (lcmpW v0 (0 : Int64)))])) _
        refine XS.ifNo X22.here hx rfl (hb hby d3_6) rfl ((if0 _ _).trans (teq c6_24).2) ?_
        show Steps p.tables e below (T22.setTop (mkF m 9 #[.val (.ref a1), .unset, .unset] [])) _
        refine XS.iconst X22.here hx rfl (hb hby d3_9) ?_
        show Steps p.tables e below (T22.setTop (mkF m 10 #[.val (.ref a1), .unset, .unset] [(.int (1 : Int32))])) _
        refine XS.goto X22.here hx rfl (pc0 := 10) (pc' := 14) rfl (hb hby d3_10) (by decide) (by decide) ?_
        show Steps p.tables e below (T22.setTop (mkF m 14 #[.val (.ref a1), .unset, .unset] [(.int (1 : Int32))])) _
        refine XS.istoreN X22.here hx rfl (hb hby d3_14) rfl (l' := #[.val (.ref a1), .val (.int (1 : Int32)), .unset]) rfl ?_
        show Steps p.tables e below (T22.setTop (mkF m 15 #[.val (.ref a1), .val (.int (1 : Int32)), .unset] [])) _
        refine XS.iconst X22.here hx rfl (hb hby d3_15) ?_
        show Steps p.tables e below (T22.setTop (mkF m 16 #[.val (.ref a1), .val (.int (1 : Int32)), .unset] [(.int (0 : Int32))])) _
        refine XS.istoreN X22.here hx rfl (hb hby d3_16) rfl (l' := #[.val (.ref a1), .val (.int (1 : Int32)), .val (.int (0 : Int32))]) rfl ?_
        show Steps p.tables e below (T22.setTop (mkF m 17 #[.val (.ref a1), .val (.int (1 : Int32)), .val (.int (0 : Int32))] [])) _
        refine XS.iloadN X22.here hx rfl (hb hby d3_17) rfl ?_
        show Steps p.tables e below (T22.setTop (mkF m 18 #[.val (.ref a1), .val (.int (1 : Int32)), .val (.int (0 : Int32))] [(.int (1 : Int32))])) _
        refine XS.ifNo X22.here hx rfl (hb hby d3_18) rfl ((if0 _ _).trans (feq (by decide : ¬ ((1 : Int32) = (0 : Int32)))).1) ?_
        show Steps p.tables e below (T22.setTop (mkF m 21 #[.val (.ref a1), .val (.int (1 : Int32)), .val (.int (0 : Int32))] [])) _
        refine XS.iloadN X22.here hx rfl (hb hby d3_21) rfl ?_
        show Steps p.tables e below (T22.setTop (mkF m 22 #[.val (.ref a1), .val (.int (1 : Int32)), .val (.int (0 : Int32))] [(.int (0 : Int32))])) _
        refine XS.aloadN X22.here hx rfl (hb hby d3_22) rfl rfl ?_
        show Steps p.tables e below (T22.setTop (mkF m 23 #[.val (.ref a1), .val (.int (1 : Int32)), .val (.int (0 : Int32))] [(.ref a1), (.int (0 : Int32))])) _
        refine st25 _ ?_
        show Steps p.tables e below (T25.setTop (mkF m 26 #[.val (.ref a1), .val (.int (1 : Int32)), .val (.int (0 : Int32))] [(.ref b), (.int (0 : Int32))])) _
        refine X25.arraylength hx (by rw [e25]; exact Ar26.1) (State.isArrayOf_alike hZ.alike Ar26.2.1) (g := (mkF m 26 #[.val (.ref a1), .val (.int (1 : Int32)), .val (.int (0 : Int32))] [(.ref b), (.int (0 : Int32))])) rfl rfl (hb hby d3_26) _ ?_
        rw [len_of S26 M26]
        show Steps p.tables e below (T25.setTop (mkF m 27 #[.val (.ref a1), .val (.int (1 : Int32)), .val (.int (0 : Int32))] [(.int (2 : Int32)), (.int (0 : Int32))])) _
        refine XS.icmpNo X25.here hx rfl (hb hby d3_27) rfl (tlt (by decide : (0 : Int32) < (2 : Int32))).2.1 ?_
        show Steps p.tables e below (T25.setTop (mkF m 30 #[.val (.ref a1), .val (.int (1 : Int32)), .val (.int (0 : Int32))] [])) _
        refine XS.aloadN X25.here hx rfl (hb hby d3_30) rfl rfl ?_
        show Steps p.tables e below (T25.setTop (mkF m 31 #[.val (.ref a1), .val (.int (1 : Int32)), .val (.int (0 : Int32))] [(.ref a1)])) _
        refine st27 _ ?_
        show Steps p.tables e below (T27.setTop (mkF m 34 #[.val (.ref a1), .val (.int (1 : Int32)), .val (.int (0 : Int32))] [(.ref b)])) _
        refine XS.iloadN X27.here hx rfl (hb hby d3_34) rfl ?_
        show Steps p.tables e below (T27.setTop (mkF m 35 #[.val (.ref a1), .val (.int (1 : Int32)), .val (.int (0 : Int32))] [(.int (0 : Int32)), (.ref b)])) _
        refine X27.laload hx (j := (0 : Int32)) (v := (.long v1)) (by rw [e27]; exact Ar28.1) (State.isArrayOf_alike hZ.alike Ar28.2.1) Ar28.2.2 hin28 hat28 (g := (mkF m 35 #[.val (.ref a1), .val (.int (1 : Int32)), .val (.int (0 : Int32))] [(.int (0 : Int32)), (.ref b)])) rfl rfl (hb hby d3_35) _ ?_
        show Steps p.tables e below (T27.setTop (mkF m 36 #[.val (.ref a1), .val (.int (1 : Int32)), .val (.int (0 : Int32))] [(.long v1)])) _
        refine XS.lconst X27.here hx rfl (hb hby d3_36) ?_
        show Steps p.tables e below (T27.setTop (mkF m 37 #[.val (.ref a1), .val (.int (1 : Int32)), .val (.int (0 : Int32))] [(.long (0 : Int64)), (.long v1)])) _
        refine XS.lcmp X27.here hx rfl (hb hby d3_37) rfl ?_
        exact kt
      by_cases c38_30 : (lcmpW v1 (0 : Int64)) = (0 : Int32)
      · obtain ⟨T31, X31, e31, st31⟩ := getF X27 hx hZ hown (host := "") (Or.inl (hw _ (List.mem_of_getElem? (i := 12) rfl))) Via.refl e27 F_g (g := (mkF m 23 #[.val (.ref a1), .val (.int (1 : Int32)), .val (.int (1 : Int32))] [(.ref a1), (.int (1 : Int32))])) rfl rfl (hb hby d3_23)
        have VO32 := V_b
        obtain ⟨cl32, Ar32, q32, S32, M32, H32, G32⟩ := VO32
        obtain ⟨T33, X33, e33, st33⟩ := getF X31 hx hZ hown (host := "") (Or.inl (hw _ (List.mem_of_getElem? (i := 12) rfl))) Via.refl e31 F_g (g := (mkF m 31 #[.val (.ref a1), .val (.int (1 : Int32)), .val (.int (1 : Int32))] [(.ref a1)])) rfl rfl (hb hby d3_31)
        have VO34 := V_b
        obtain ⟨cl34, Ar34, q34, S34, M34, H34, G34⟩ := VO34
        have hin34 : ¬ ((1 : Int32) < 0 ∨ cl34.slots.size ≤ ((1 : Int32)).toNatClampNeg) := inb_of S34 ⟨by decide, by decide⟩
        have hat34 : cl34.slots[((1 : Int32)).toNatClampNeg]? = some (.long v2) := H34.at hin34 rfl
        have pre35 : ∀ tt, Steps p.tables e below (T33.setTop (mkF m 38 #[.val (.ref a1), .val (.int (1 : Int32)), .val (.int (1 : Int32))] [(.int (lcmpW v2 (0 : Int64)))])) tt → Steps p.tables e below (s₁.setTop (entryFrame m #[(.ref a1)] 3)) tt := by
          intro tt kt
          refine pre29 tt ?_
          show Steps p.tables e below (T27.setTop (mkF m 38 #[.val (.ref a1), .val (.int (1 : Int32)), .val (.int (0 : Int32))] [(.int (lcmpW v1 (0 : Int64)))])) _
          refine XS.ifNo X27.here hx rfl (hb hby d3_38) rfl ((if0 _ _).trans (teq c38_30).2) ?_
          show Steps p.tables e below (T27.setTop (mkF m 41 #[.val (.ref a1), .val (.int (1 : Int32)), .val (.int (0 : Int32))] [])) _
          refine XS.iconst X27.here hx rfl (hb hby d3_41) ?_
          show Steps p.tables e below (T27.setTop (mkF m 42 #[.val (.ref a1), .val (.int (1 : Int32)), .val (.int (0 : Int32))] [(.int (1 : Int32))])) _
          refine XS.goto X27.here hx rfl (pc0 := 42) (pc' := 46) rfl (hb hby d3_42) (by decide) (by decide) ?_
          show Steps p.tables e below (T27.setTop (mkF m 46 #[.val (.ref a1), .val (.int (1 : Int32)), .val (.int (0 : Int32))] [(.int (1 : Int32))])) _
          refine XS.istoreN X27.here hx rfl (hb hby d3_46) rfl (l' := #[.val (.ref a1), .val (.int (1 : Int32)), .val (.int (0 : Int32))]) rfl ?_
          show Steps p.tables e below (T27.setTop (mkF m 47 #[.val (.ref a1), .val (.int (1 : Int32)), .val (.int (0 : Int32))] [])) _
          refine XS.iinc X27.here hx rfl (hb hby d3_47) rfl (l' := #[.val (.ref a1), .val (.int (1 : Int32)), .val (.int (1 : Int32))]) rfl ?_
          show Steps p.tables e below (T27.setTop (mkF m 50 #[.val (.ref a1), .val (.int (1 : Int32)), .val (.int (1 : Int32))] [])) _
          refine XS.goto X27.here hx rfl (pc0 := 50) (pc' := 17) rfl (hb hby d3_50) (by decide) (by decide) ?_
          show Steps p.tables e below (T27.setTop (mkF m 17 #[.val (.ref a1), .val (.int (1 : Int32)), .val (.int (1 : Int32))] [])) _
          refine XS.iloadN X27.here hx rfl (hb hby d3_17) rfl ?_
          show Steps p.tables e below (T27.setTop (mkF m 18 #[.val (.ref a1), .val (.int (1 : Int32)), .val (.int (1 : Int32))] [(.int (1 : Int32))])) _
          refine XS.ifNo X27.here hx rfl (hb hby d3_18) rfl ((if0 _ _).trans (feq (by decide : ¬ ((1 : Int32) = (0 : Int32)))).1) ?_
          show Steps p.tables e below (T27.setTop (mkF m 21 #[.val (.ref a1), .val (.int (1 : Int32)), .val (.int (1 : Int32))] [])) _
          refine XS.iloadN X27.here hx rfl (hb hby d3_21) rfl ?_
          show Steps p.tables e below (T27.setTop (mkF m 22 #[.val (.ref a1), .val (.int (1 : Int32)), .val (.int (1 : Int32))] [(.int (1 : Int32))])) _
          refine XS.aloadN X27.here hx rfl (hb hby d3_22) rfl rfl ?_
          show Steps p.tables e below (T27.setTop (mkF m 23 #[.val (.ref a1), .val (.int (1 : Int32)), .val (.int (1 : Int32))] [(.ref a1), (.int (1 : Int32))])) _
          refine st31 _ ?_
          show Steps p.tables e below (T31.setTop (mkF m 26 #[.val (.ref a1), .val (.int (1 : Int32)), .val (.int (1 : Int32))] [(.ref b), (.int (1 : Int32))])) _
          refine X31.arraylength hx (by rw [e31]; exact Ar32.1) (State.isArrayOf_alike hZ.alike Ar32.2.1) (g := (mkF m 26 #[.val (.ref a1), .val (.int (1 : Int32)), .val (.int (1 : Int32))] [(.ref b), (.int (1 : Int32))])) rfl rfl (hb hby d3_26) _ ?_
          rw [len_of S32 M32]
          show Steps p.tables e below (T31.setTop (mkF m 27 #[.val (.ref a1), .val (.int (1 : Int32)), .val (.int (1 : Int32))] [(.int (2 : Int32)), (.int (1 : Int32))])) _
          refine XS.icmpNo X31.here hx rfl (hb hby d3_27) rfl (tlt (by decide : (1 : Int32) < (2 : Int32))).2.1 ?_
          show Steps p.tables e below (T31.setTop (mkF m 30 #[.val (.ref a1), .val (.int (1 : Int32)), .val (.int (1 : Int32))] [])) _
          refine XS.aloadN X31.here hx rfl (hb hby d3_30) rfl rfl ?_
          show Steps p.tables e below (T31.setTop (mkF m 31 #[.val (.ref a1), .val (.int (1 : Int32)), .val (.int (1 : Int32))] [(.ref a1)])) _
          refine st33 _ ?_
          show Steps p.tables e below (T33.setTop (mkF m 34 #[.val (.ref a1), .val (.int (1 : Int32)), .val (.int (1 : Int32))] [(.ref b)])) _
          refine XS.iloadN X33.here hx rfl (hb hby d3_34) rfl ?_
          show Steps p.tables e below (T33.setTop (mkF m 35 #[.val (.ref a1), .val (.int (1 : Int32)), .val (.int (1 : Int32))] [(.int (1 : Int32)), (.ref b)])) _
          refine X33.laload hx (j := (1 : Int32)) (v := (.long v2)) (by rw [e33]; exact Ar34.1) (State.isArrayOf_alike hZ.alike Ar34.2.1) Ar34.2.2 hin34 hat34 (g := (mkF m 35 #[.val (.ref a1), .val (.int (1 : Int32)), .val (.int (1 : Int32))] [(.int (1 : Int32)), (.ref b)])) rfl rfl (hb hby d3_35) _ ?_
          show Steps p.tables e below (T33.setTop (mkF m 36 #[.val (.ref a1), .val (.int (1 : Int32)), .val (.int (1 : Int32))] [(.long v2)])) _
          refine XS.lconst X33.here hx rfl (hb hby d3_36) ?_
          show Steps p.tables e below (T33.setTop (mkF m 37 #[.val (.ref a1), .val (.int (1 : Int32)), .val (.int (1 : Int32))] [(.long (0 : Int64)), (.long v2)])) _
          refine XS.lcmp X33.here hx rfl (hb hby d3_37) rfl ?_
          exact kt
        by_cases c38_36 : (lcmpW v2 (0 : Int64)) = (0 : Int32)
        · obtain ⟨T37, X37, e37, st37⟩ := getF X33 hx hZ hown (host := "") (Or.inl (hw _ (List.mem_of_getElem? (i := 12) rfl))) Via.refl e33 F_g (g := (mkF m 23 #[.val (.ref a1), .val (.int (1 : Int32)), .val (.int (2 : Int32))] [(.ref a1), (.int (2 : Int32))])) rfl rfl (hb hby d3_23)
          have VO38 := V_b
          obtain ⟨cl38, Ar38, q38, S38, M38, H38, G38⟩ := VO38
          have pre39 : ∀ tt, Steps p.tables e below (T37.setTop (mkF m 54 #[.val (.ref a1), .val (.int (1 : Int32)), .val (.int (2 : Int32))] [(.int (1 : Int32))])) tt → Steps p.tables e below (s₁.setTop (entryFrame m #[(.ref a1)] 3)) tt := by
            intro tt kt
            refine pre35 tt ?_
            show Steps p.tables e below (T33.setTop (mkF m 38 #[.val (.ref a1), .val (.int (1 : Int32)), .val (.int (1 : Int32))] [(.int (lcmpW v2 (0 : Int64)))])) _
            refine XS.ifNo X33.here hx rfl (hb hby d3_38) rfl ((if0 _ _).trans (teq c38_36).2) ?_
            show Steps p.tables e below (T33.setTop (mkF m 41 #[.val (.ref a1), .val (.int (1 : Int32)), .val (.int (1 : Int32))] [])) _
            refine XS.iconst X33.here hx rfl (hb hby d3_41) ?_
            show Steps p.tables e below (T33.setTop (mkF m 42 #[.val (.ref a1), .val (.int (1 : Int32)), .val (.int (1 : Int32))] [(.int (1 : Int32))])) _
            refine XS.goto X33.here hx rfl (pc0 := 42) (pc' := 46) rfl (hb hby d3_42) (by decide) (by decide) ?_
            show Steps p.tables e below (T33.setTop (mkF m 46 #[.val (.ref a1), .val (.int (1 : Int32)), .val (.int (1 : Int32))] [(.int (1 : Int32))])) _
            refine XS.istoreN X33.here hx rfl (hb hby d3_46) rfl (l' := #[.val (.ref a1), .val (.int (1 : Int32)), .val (.int (1 : Int32))]) rfl ?_
            show Steps p.tables e below (T33.setTop (mkF m 47 #[.val (.ref a1), .val (.int (1 : Int32)), .val (.int (1 : Int32))] [])) _
            refine XS.iinc X33.here hx rfl (hb hby d3_47) rfl (l' := #[.val (.ref a1), .val (.int (1 : Int32)), .val (.int (2 : Int32))]) rfl ?_
            show Steps p.tables e below (T33.setTop (mkF m 50 #[.val (.ref a1), .val (.int (1 : Int32)), .val (.int (2 : Int32))] [])) _
            refine XS.goto X33.here hx rfl (pc0 := 50) (pc' := 17) rfl (hb hby d3_50) (by decide) (by decide) ?_
            show Steps p.tables e below (T33.setTop (mkF m 17 #[.val (.ref a1), .val (.int (1 : Int32)), .val (.int (2 : Int32))] [])) _
            refine XS.iloadN X33.here hx rfl (hb hby d3_17) rfl ?_
            show Steps p.tables e below (T33.setTop (mkF m 18 #[.val (.ref a1), .val (.int (1 : Int32)), .val (.int (2 : Int32))] [(.int (1 : Int32))])) _
            refine XS.ifNo X33.here hx rfl (hb hby d3_18) rfl ((if0 _ _).trans (feq (by decide : ¬ ((1 : Int32) = (0 : Int32)))).1) ?_
            show Steps p.tables e below (T33.setTop (mkF m 21 #[.val (.ref a1), .val (.int (1 : Int32)), .val (.int (2 : Int32))] [])) _
            refine XS.iloadN X33.here hx rfl (hb hby d3_21) rfl ?_
            show Steps p.tables e below (T33.setTop (mkF m 22 #[.val (.ref a1), .val (.int (1 : Int32)), .val (.int (2 : Int32))] [(.int (2 : Int32))])) _
            refine XS.aloadN X33.here hx rfl (hb hby d3_22) rfl rfl ?_
            show Steps p.tables e below (T33.setTop (mkF m 23 #[.val (.ref a1), .val (.int (1 : Int32)), .val (.int (2 : Int32))] [(.ref a1), (.int (2 : Int32))])) _
            refine st37 _ ?_
            show Steps p.tables e below (T37.setTop (mkF m 26 #[.val (.ref a1), .val (.int (1 : Int32)), .val (.int (2 : Int32))] [(.ref b), (.int (2 : Int32))])) _
            refine X37.arraylength hx (by rw [e37]; exact Ar38.1) (State.isArrayOf_alike hZ.alike Ar38.2.1) (g := (mkF m 26 #[.val (.ref a1), .val (.int (1 : Int32)), .val (.int (2 : Int32))] [(.ref b), (.int (2 : Int32))])) rfl rfl (hb hby d3_26) _ ?_
            rw [len_of S38 M38]
            show Steps p.tables e below (T37.setTop (mkF m 27 #[.val (.ref a1), .val (.int (1 : Int32)), .val (.int (2 : Int32))] [(.int (2 : Int32)), (.int (2 : Int32))])) _
            refine XS.icmpYes X37.here hx rfl (pc0 := 27) (pc' := 53) rfl (hb hby d3_27) rfl (flt (by decide : ¬ ((2 : Int32) < (2 : Int32)))).2.1 (by decide) (by decide) ?_
            show Steps p.tables e below (T37.setTop (mkF m 53 #[.val (.ref a1), .val (.int (1 : Int32)), .val (.int (2 : Int32))] [])) _
            refine XS.iloadN X37.here hx rfl (hb hby d3_53) rfl ?_
            exact kt
          obtain ⟨fs, hr, hrun, hended, hW, hsame⟩ := X37.leave (v := some (.int (1 : Int32))) (fun h => by rw [Bd.returns] at h; cases h)
          refine ⟨_, _, pre39 _ ?_, hrun, hended, _, _, rfl, ?_, ⟨_, rfl⟩, hW, hsame.mono (by decide) (by decide)⟩
          · show Steps p.tables e below (T37.setTop (mkF m 54 #[.val (.ref a1), .val (.int (1 : Int32)), .val (.int (2 : Int32))] [(.int (1 : Int32))])) _
            exact retN X37 hx (t := .boolean) Bd.returns (by simp) (hb hby d3_54) hr
          · show QI Z r h0 n0 _ T37.heap _
            rw [e37]
            exact ⟨by rw [hr0]; simp [(lw_eq _ _).mp c6_24, (lw_eq _ _).mp c38_30, (lw_eq _ _).mp c38_36, hbz.2.2 (by decide)], N0, rfl⟩
        · have pre40 : ∀ tt, Steps p.tables e below (T33.setTop (mkF m 54 #[.val (.ref a1), .val (.int (0 : Int32)), .val (.int (2 : Int32))] [(.int (0 : Int32))])) tt → Steps p.tables e below (s₁.setTop (entryFrame m #[(.ref a1)] 3)) tt := by
            intro tt kt
            refine pre35 tt ?_
            show Steps p.tables e below (T33.setTop (mkF m 38 #[.val (.ref a1), .val (.int (1 : Int32)), .val (.int (1 : Int32))] [(.int (lcmpW v2 (0 : Int64)))])) _
            refine XS.ifYes X33.here hx rfl (pc0 := 38) (pc' := 45) rfl (hb hby d3_38) rfl ((if0 _ _).trans (feq c38_36).2) (by decide) (by decide) ?_
            show Steps p.tables e below (T33.setTop (mkF m 45 #[.val (.ref a1), .val (.int (1 : Int32)), .val (.int (1 : Int32))] [])) _
            refine XS.iconst X33.here hx rfl (hb hby d3_45) ?_
            show Steps p.tables e below (T33.setTop (mkF m 46 #[.val (.ref a1), .val (.int (1 : Int32)), .val (.int (1 : Int32))] [(.int (0 : Int32))])) _
            refine XS.istoreN X33.here hx rfl (hb hby d3_46) rfl (l' := #[.val (.ref a1), .val (.int (0 : Int32)), .val (.int (1 : Int32))]) rfl ?_
            show Steps p.tables e below (T33.setTop (mkF m 47 #[.val (.ref a1), .val (.int (0 : Int32)), .val (.int (1 : Int32))] [])) _
            refine XS.iinc X33.here hx rfl (hb hby d3_47) rfl (l' := #[.val (.ref a1), .val (.int (0 : Int32)), .val (.int (2 : Int32))]) rfl ?_
            show Steps p.tables e below (T33.setTop (mkF m 50 #[.val (.ref a1), .val (.int (0 : Int32)), .val (.int (2 : Int32))] [])) _
            refine XS.goto X33.here hx rfl (pc0 := 50) (pc' := 17) rfl (hb hby d3_50) (by decide) (by decide) ?_
            show Steps p.tables e below (T33.setTop (mkF m 17 #[.val (.ref a1), .val (.int (0 : Int32)), .val (.int (2 : Int32))] [])) _
            refine XS.iloadN X33.here hx rfl (hb hby d3_17) rfl ?_
            show Steps p.tables e below (T33.setTop (mkF m 18 #[.val (.ref a1), .val (.int (0 : Int32)), .val (.int (2 : Int32))] [(.int (0 : Int32))])) _
            refine XS.ifYes X33.here hx rfl (pc0 := 18) (pc' := 53) rfl (hb hby d3_18) rfl ((if0 _ _).trans (teq (rfl : (0 : Int32) = (0 : Int32))).1) (by decide) (by decide) ?_
            show Steps p.tables e below (T33.setTop (mkF m 53 #[.val (.ref a1), .val (.int (0 : Int32)), .val (.int (2 : Int32))] [])) _
            refine XS.iloadN X33.here hx rfl (hb hby d3_53) rfl ?_
            exact kt
          obtain ⟨fs, hr, hrun, hended, hW, hsame⟩ := X33.leave (v := some (.int (0 : Int32))) (fun h => by rw [Bd.returns] at h; cases h)
          refine ⟨_, _, pre40 _ ?_, hrun, hended, _, _, rfl, ?_, ⟨_, rfl⟩, hW, hsame.mono (by decide) (by decide)⟩
          · show Steps p.tables e below (T33.setTop (mkF m 54 #[.val (.ref a1), .val (.int (0 : Int32)), .val (.int (2 : Int32))] [(.int (0 : Int32))])) _
            exact retN X33 hx (t := .boolean) Bd.returns (by simp) (hb hby d3_54) hr
          · show QI Z r h0 n0 _ T33.heap _
            rw [e33]
            exact ⟨by rw [hr0]; simp [(lw_eq _ _).mp c6_24, (lw_eq _ _).mp c38_30, (show ¬ (v2 = 0) from fun q => c38_36 ((lw_eq _ _).mpr q)), hbz.2.2 (by decide)], N0, rfl⟩
      · have pre41 : ∀ tt, Steps p.tables e below (T27.setTop (mkF m 54 #[.val (.ref a1), .val (.int (0 : Int32)), .val (.int (1 : Int32))] [(.int (0 : Int32))])) tt → Steps p.tables e below (s₁.setTop (entryFrame m #[(.ref a1)] 3)) tt := by
          intro tt kt
          refine pre29 tt ?_
          show Steps p.tables e below (T27.setTop (mkF m 38 #[.val (.ref a1), .val (.int (1 : Int32)), .val (.int (0 : Int32))] [(.int (lcmpW v1 (0 : Int64)))])) _
          refine XS.ifYes X27.here hx rfl (pc0 := 38) (pc' := 45) rfl (hb hby d3_38) rfl ((if0 _ _).trans (feq c38_30).2) (by decide) (by decide) ?_
          show Steps p.tables e below (T27.setTop (mkF m 45 #[.val (.ref a1), .val (.int (1 : Int32)), .val (.int (0 : Int32))] [])) _
          refine XS.iconst X27.here hx rfl (hb hby d3_45) ?_
          show Steps p.tables e below (T27.setTop (mkF m 46 #[.val (.ref a1), .val (.int (1 : Int32)), .val (.int (0 : Int32))] [(.int (0 : Int32))])) _
          refine XS.istoreN X27.here hx rfl (hb hby d3_46) rfl (l' := #[.val (.ref a1), .val (.int (0 : Int32)), .val (.int (0 : Int32))]) rfl ?_
          show Steps p.tables e below (T27.setTop (mkF m 47 #[.val (.ref a1), .val (.int (0 : Int32)), .val (.int (0 : Int32))] [])) _
          refine XS.iinc X27.here hx rfl (hb hby d3_47) rfl (l' := #[.val (.ref a1), .val (.int (0 : Int32)), .val (.int (1 : Int32))]) rfl ?_
          show Steps p.tables e below (T27.setTop (mkF m 50 #[.val (.ref a1), .val (.int (0 : Int32)), .val (.int (1 : Int32))] [])) _
          refine XS.goto X27.here hx rfl (pc0 := 50) (pc' := 17) rfl (hb hby d3_50) (by decide) (by decide) ?_
          show Steps p.tables e below (T27.setTop (mkF m 17 #[.val (.ref a1), .val (.int (0 : Int32)), .val (.int (1 : Int32))] [])) _
          refine XS.iloadN X27.here hx rfl (hb hby d3_17) rfl ?_
          show Steps p.tables e below (T27.setTop (mkF m 18 #[.val (.ref a1), .val (.int (0 : Int32)), .val (.int (1 : Int32))] [(.int (0 : Int32))])) _
          refine XS.ifYes X27.here hx rfl (pc0 := 18) (pc' := 53) rfl (hb hby d3_18) rfl ((if0 _ _).trans (teq (rfl : (0 : Int32) = (0 : Int32))).1) (by decide) (by decide) ?_
          show Steps p.tables e below (T27.setTop (mkF m 53 #[.val (.ref a1), .val (.int (0 : Int32)), .val (.int (1 : Int32))] [])) _
          refine XS.iloadN X27.here hx rfl (hb hby d3_53) rfl ?_
          exact kt
        obtain ⟨fs, hr, hrun, hended, hW, hsame⟩ := X27.leave (v := some (.int (0 : Int32))) (fun h => by rw [Bd.returns] at h; cases h)
        refine ⟨_, _, pre41 _ ?_, hrun, hended, _, _, rfl, ?_, ⟨_, rfl⟩, hW, hsame.mono (by decide) (by decide)⟩
        · show Steps p.tables e below (T27.setTop (mkF m 54 #[.val (.ref a1), .val (.int (0 : Int32)), .val (.int (1 : Int32))] [(.int (0 : Int32))])) _
          exact retN X27 hx (t := .boolean) Bd.returns (by simp) (hb hby d3_54) hr
        · show QI Z r h0 n0 _ T27.heap _
          rw [e27]
          exact ⟨by rw [hr0]; simp [(lw_eq _ _).mp c6_24, (show ¬ (v1 = 0) from fun q => c38_30 ((lw_eq _ _).mpr q)), hbz.2.2 (by decide)], N0, rfl⟩
    · have pre42 : ∀ tt, Steps p.tables e below (T22.setTop (mkF m 54 #[.val (.ref a1), .val (.int (0 : Int32)), .val (.int (0 : Int32))] [(.int (0 : Int32))])) tt → Steps p.tables e below (s₁.setTop (entryFrame m #[(.ref a1)] 3)) tt := by
        intro tt kt
        refine pre23 tt ?_
        show Steps p.tables e below (T22.setTop (mkF m 6 #[.val (.ref a1), .unset, .unset] [(.int (lcmpW v0 (0 : Int64)))])) _
        refine XS.ifYes X22.here hx rfl (pc0 := 6) (pc' := 13) rfl (hb hby d3_6) rfl ((if0 _ _).trans (feq c6_24).2) (by decide) (by decide) ?_
        show Steps p.tables e below (T22.setTop (mkF m 13 #[.val (.ref a1), .unset, .unset] [])) _
        refine XS.iconst X22.here hx rfl (hb hby d3_13) ?_
        show Steps p.tables e below (T22.setTop (mkF m 14 #[.val (.ref a1), .unset, .unset] [(.int (0 : Int32))])) _
        refine XS.istoreN X22.here hx rfl (hb hby d3_14) rfl (l' := #[.val (.ref a1), .val (.int (0 : Int32)), .unset]) rfl ?_
        show Steps p.tables e below (T22.setTop (mkF m 15 #[.val (.ref a1), .val (.int (0 : Int32)), .unset] [])) _
        refine XS.iconst X22.here hx rfl (hb hby d3_15) ?_
        show Steps p.tables e below (T22.setTop (mkF m 16 #[.val (.ref a1), .val (.int (0 : Int32)), .unset] [(.int (0 : Int32))])) _
        refine XS.istoreN X22.here hx rfl (hb hby d3_16) rfl (l' := #[.val (.ref a1), .val (.int (0 : Int32)), .val (.int (0 : Int32))]) rfl ?_
        show Steps p.tables e below (T22.setTop (mkF m 17 #[.val (.ref a1), .val (.int (0 : Int32)), .val (.int (0 : Int32))] [])) _
        refine XS.iloadN X22.here hx rfl (hb hby d3_17) rfl ?_
        show Steps p.tables e below (T22.setTop (mkF m 18 #[.val (.ref a1), .val (.int (0 : Int32)), .val (.int (0 : Int32))] [(.int (0 : Int32))])) _
        refine XS.ifYes X22.here hx rfl (pc0 := 18) (pc' := 53) rfl (hb hby d3_18) rfl ((if0 _ _).trans (teq (rfl : (0 : Int32) = (0 : Int32))).1) (by decide) (by decide) ?_
        show Steps p.tables e below (T22.setTop (mkF m 53 #[.val (.ref a1), .val (.int (0 : Int32)), .val (.int (0 : Int32))] [])) _
        refine XS.iloadN X22.here hx rfl (hb hby d3_53) rfl ?_
        exact kt
      obtain ⟨fs, hr, hrun, hended, hW, hsame⟩ := X22.leave (v := some (.int (0 : Int32))) (fun h => by rw [Bd.returns] at h; cases h)
      refine ⟨_, _, pre42 _ ?_, hrun, hended, _, _, rfl, ?_, ⟨_, rfl⟩, hW, hsame.mono (by decide) (by decide)⟩
      · show Steps p.tables e below (T22.setTop (mkF m 54 #[.val (.ref a1), .val (.int (0 : Int32)), .val (.int (0 : Int32))] [(.int (0 : Int32))])) _
        exact retN X22 hx (t := .boolean) Bd.returns (by simp) (hb hby d3_54) hr
      · show QI Z r h0 n0 _ T22.heap _
        rw [e22]
        exact ⟨by rw [hr0]; simp [(show ¬ (v0 = 0) from fun q => c6_24 ((lw_eq _ _).mpr q)), hbz.2.2 (by decide)], N0, rfl⟩
  · have hz3 := hbz
    obtain ⟨T43, X43, e43, st43⟩ := getF X0 hx hZ hown (host := "") (Or.inl (hw _ (List.mem_of_getElem? (i := 19) rfl))) Via.refl e0 F_f (g := (mkF m 1 #[.val (.ref a1), .unset, .unset] [(.ref a1)])) rfl rfl (hb hby d3_1)
    have pre44 : ∀ tt, Steps p.tables e below (T43.setTop (mkF m 6 #[.val (.ref a1), .unset, .unset] [(.int (lcmpW v0 (0 : Int64)))])) tt → Steps p.tables e below (s₁.setTop (entryFrame m #[(.ref a1)] 3)) tt := by
      intro tt kt
      refine pre0 tt ?_
      show Steps p.tables e below (s₁.setTop (mkF m 0 #[.val (.ref a1), .unset, .unset] [])) _
      refine XS.aloadN X0.here hx rfl (hb hby d3_0) rfl rfl ?_
      show Steps p.tables e below (s₁.setTop (mkF m 1 #[.val (.ref a1), .unset, .unset] [(.ref a1)])) _
      refine st43 _ ?_
      show Steps p.tables e below (T43.setTop (mkF m 4 #[.val (.ref a1), .unset, .unset] [(.long v0)])) _
      refine XS.lconst X43.here hx rfl (hb hby d3_4) ?_
      show Steps p.tables e below (T43.setTop (mkF m 5 #[.val (.ref a1), .unset, .unset] [(.long (0 : Int64)), (.long v0)])) _
      refine XS.lcmp X43.here hx rfl (hb hby d3_5) rfl ?_
      exact kt
    by_cases c6_45 : (lcmpW v0 (0 : Int64)) = (0 : Int32)
    · obtain ⟨T46, X46, e46, st46⟩ := getF X43 hx hZ hown (host := "") (Or.inl (hw _ (List.mem_of_getElem? (i := 12) rfl))) Via.refl e43 F_g (g := (mkF m 23 #[.val (.ref a1), .val (.int (1 : Int32)), .val (.int (0 : Int32))] [(.ref a1), (.int (0 : Int32))])) rfl rfl (hb hby d3_23)
      have VO47 := V_b
      obtain ⟨cl47, Ar47, q47, S47, M47, H47, G47⟩ := VO47
      obtain ⟨T48, X48, e48, st48⟩ := getF X46 hx hZ hown (host := "") (Or.inl (hw _ (List.mem_of_getElem? (i := 12) rfl))) Via.refl e46 F_g (g := (mkF m 31 #[.val (.ref a1), .val (.int (1 : Int32)), .val (.int (0 : Int32))] [(.ref a1)])) rfl rfl (hb hby d3_31)
      have VO49 := V_b
      obtain ⟨cl49, Ar49, q49, S49, M49, H49, G49⟩ := VO49
      have hin49 : ¬ ((0 : Int32) < 0 ∨ cl49.slots.size ≤ ((0 : Int32)).toNatClampNeg) := inb_of S49 ⟨by decide, by decide⟩
      have hat49 : cl49.slots[((0 : Int32)).toNatClampNeg]? = some (.long v1) := H49.at hin49 rfl
      have pre50 : ∀ tt, Steps p.tables e below (T48.setTop (mkF m 38 #[.val (.ref a1), .val (.int (1 : Int32)), .val (.int (0 : Int32))] [(.int (lcmpW v1 (0 : Int64)))])) tt → Steps p.tables e below (s₁.setTop (entryFrame m #[(.ref a1)] 3)) tt := by
        intro tt kt
        refine pre44 tt ?_
        show Steps p.tables e below (T43.setTop (mkF m 6 #[.val (.ref a1), .unset, .unset] [(.int (lcmpW v0 (0 : Int64)))])) _
        refine XS.ifNo X43.here hx rfl (hb hby d3_6) rfl ((if0 _ _).trans (teq c6_45).2) ?_
        show Steps p.tables e below (T43.setTop (mkF m 9 #[.val (.ref a1), .unset, .unset] [])) _
        refine XS.iconst X43.here hx rfl (hb hby d3_9) ?_
        show Steps p.tables e below (T43.setTop (mkF m 10 #[.val (.ref a1), .unset, .unset] [(.int (1 : Int32))])) _
        refine XS.goto X43.here hx rfl (pc0 := 10) (pc' := 14) rfl (hb hby d3_10) (by decide) (by decide) ?_
        show Steps p.tables e below (T43.setTop (mkF m 14 #[.val (.ref a1), .unset, .unset] [(.int (1 : Int32))])) _
        refine XS.istoreN X43.here hx rfl (hb hby d3_14) rfl (l' := #[.val (.ref a1), .val (.int (1 : Int32)), .unset]) rfl ?_
        show Steps p.tables e below (T43.setTop (mkF m 15 #[.val (.ref a1), .val (.int (1 : Int32)), .unset] [])) _
        refine XS.iconst X43.here hx rfl (hb hby d3_15) ?_
        show Steps p.tables e below (T43.setTop (mkF m 16 #[.val (.ref a1), .val (.int (1 : Int32)), .unset] [(.int (0 : Int32))])) _
        refine XS.istoreN X43.here hx rfl (hb hby d3_16) rfl (l' := #[.val (.ref a1), .val (.int (1 : Int32)), .val (.int (0 : Int32))]) rfl ?_
        show Steps p.tables e below (T43.setTop (mkF m 17 #[.val (.ref a1), .val (.int (1 : Int32)), .val (.int (0 : Int32))] [])) _
        refine XS.iloadN X43.here hx rfl (hb hby d3_17) rfl ?_
        show Steps p.tables e below (T43.setTop (mkF m 18 #[.val (.ref a1), .val (.int (1 : Int32)), .val (.int (0 : Int32))] [(.int (1 : Int32))])) _
        refine XS.ifNo X43.here hx rfl (hb hby d3_18) rfl ((if0 _ _).trans (feq (by decide : ¬ ((1 : Int32) = (0 : Int32)))).1) ?_
        show Steps p.tables e below (T43.setTop (mkF m 21 #[.val (.ref a1), .val (.int (1 : Int32)), .val (.int (0 : Int32))] [])) _
        refine XS.iloadN X43.here hx rfl (hb hby d3_21) rfl ?_
        show Steps p.tables e below (T43.setTop (mkF m 22 #[.val (.ref a1), .val (.int (1 : Int32)), .val (.int (0 : Int32))] [(.int (0 : Int32))])) _
        refine XS.aloadN X43.here hx rfl (hb hby d3_22) rfl rfl ?_
        show Steps p.tables e below (T43.setTop (mkF m 23 #[.val (.ref a1), .val (.int (1 : Int32)), .val (.int (0 : Int32))] [(.ref a1), (.int (0 : Int32))])) _
        refine st46 _ ?_
        show Steps p.tables e below (T46.setTop (mkF m 26 #[.val (.ref a1), .val (.int (1 : Int32)), .val (.int (0 : Int32))] [(.ref b), (.int (0 : Int32))])) _
        refine X46.arraylength hx (by rw [e46]; exact Ar47.1) (State.isArrayOf_alike hZ.alike Ar47.2.1) (g := (mkF m 26 #[.val (.ref a1), .val (.int (1 : Int32)), .val (.int (0 : Int32))] [(.ref b), (.int (0 : Int32))])) rfl rfl (hb hby d3_26) _ ?_
        rw [len_of S47 M47]
        show Steps p.tables e below (T46.setTop (mkF m 27 #[.val (.ref a1), .val (.int (1 : Int32)), .val (.int (0 : Int32))] [(.int (3 : Int32)), (.int (0 : Int32))])) _
        refine XS.icmpNo X46.here hx rfl (hb hby d3_27) rfl (tlt (by decide : (0 : Int32) < (3 : Int32))).2.1 ?_
        show Steps p.tables e below (T46.setTop (mkF m 30 #[.val (.ref a1), .val (.int (1 : Int32)), .val (.int (0 : Int32))] [])) _
        refine XS.aloadN X46.here hx rfl (hb hby d3_30) rfl rfl ?_
        show Steps p.tables e below (T46.setTop (mkF m 31 #[.val (.ref a1), .val (.int (1 : Int32)), .val (.int (0 : Int32))] [(.ref a1)])) _
        refine st48 _ ?_
        show Steps p.tables e below (T48.setTop (mkF m 34 #[.val (.ref a1), .val (.int (1 : Int32)), .val (.int (0 : Int32))] [(.ref b)])) _
        refine XS.iloadN X48.here hx rfl (hb hby d3_34) rfl ?_
        show Steps p.tables e below (T48.setTop (mkF m 35 #[.val (.ref a1), .val (.int (1 : Int32)), .val (.int (0 : Int32))] [(.int (0 : Int32)), (.ref b)])) _
        refine X48.laload hx (j := (0 : Int32)) (v := (.long v1)) (by rw [e48]; exact Ar49.1) (State.isArrayOf_alike hZ.alike Ar49.2.1) Ar49.2.2 hin49 hat49 (g := (mkF m 35 #[.val (.ref a1), .val (.int (1 : Int32)), .val (.int (0 : Int32))] [(.int (0 : Int32)), (.ref b)])) rfl rfl (hb hby d3_35) _ ?_
        show Steps p.tables e below (T48.setTop (mkF m 36 #[.val (.ref a1), .val (.int (1 : Int32)), .val (.int (0 : Int32))] [(.long v1)])) _
        refine XS.lconst X48.here hx rfl (hb hby d3_36) ?_
        show Steps p.tables e below (T48.setTop (mkF m 37 #[.val (.ref a1), .val (.int (1 : Int32)), .val (.int (0 : Int32))] [(.long (0 : Int64)), (.long v1)])) _
        refine XS.lcmp X48.here hx rfl (hb hby d3_37) rfl ?_
        exact kt
      by_cases c38_51 : (lcmpW v1 (0 : Int64)) = (0 : Int32)
      · obtain ⟨T52, X52, e52, st52⟩ := getF X48 hx hZ hown (host := "") (Or.inl (hw _ (List.mem_of_getElem? (i := 12) rfl))) Via.refl e48 F_g (g := (mkF m 23 #[.val (.ref a1), .val (.int (1 : Int32)), .val (.int (1 : Int32))] [(.ref a1), (.int (1 : Int32))])) rfl rfl (hb hby d3_23)
        have VO53 := V_b
        obtain ⟨cl53, Ar53, q53, S53, M53, H53, G53⟩ := VO53
        obtain ⟨T54, X54, e54, st54⟩ := getF X52 hx hZ hown (host := "") (Or.inl (hw _ (List.mem_of_getElem? (i := 12) rfl))) Via.refl e52 F_g (g := (mkF m 31 #[.val (.ref a1), .val (.int (1 : Int32)), .val (.int (1 : Int32))] [(.ref a1)])) rfl rfl (hb hby d3_31)
        have VO55 := V_b
        obtain ⟨cl55, Ar55, q55, S55, M55, H55, G55⟩ := VO55
        have hin55 : ¬ ((1 : Int32) < 0 ∨ cl55.slots.size ≤ ((1 : Int32)).toNatClampNeg) := inb_of S55 ⟨by decide, by decide⟩
        have hat55 : cl55.slots[((1 : Int32)).toNatClampNeg]? = some (.long v2) := H55.at hin55 rfl
        have pre56 : ∀ tt, Steps p.tables e below (T54.setTop (mkF m 38 #[.val (.ref a1), .val (.int (1 : Int32)), .val (.int (1 : Int32))] [(.int (lcmpW v2 (0 : Int64)))])) tt → Steps p.tables e below (s₁.setTop (entryFrame m #[(.ref a1)] 3)) tt := by
          intro tt kt
          refine pre50 tt ?_
          show Steps p.tables e below (T48.setTop (mkF m 38 #[.val (.ref a1), .val (.int (1 : Int32)), .val (.int (0 : Int32))] [(.int (lcmpW v1 (0 : Int64)))])) _
          refine XS.ifNo X48.here hx rfl (hb hby d3_38) rfl ((if0 _ _).trans (teq c38_51).2) ?_
          show Steps p.tables e below (T48.setTop (mkF m 41 #[.val (.ref a1), .val (.int (1 : Int32)), .val (.int (0 : Int32))] [])) _
          refine XS.iconst X48.here hx rfl (hb hby d3_41) ?_
          show Steps p.tables e below (T48.setTop (mkF m 42 #[.val (.ref a1), .val (.int (1 : Int32)), .val (.int (0 : Int32))] [(.int (1 : Int32))])) _
          refine XS.goto X48.here hx rfl (pc0 := 42) (pc' := 46) rfl (hb hby d3_42) (by decide) (by decide) ?_
          show Steps p.tables e below (T48.setTop (mkF m 46 #[.val (.ref a1), .val (.int (1 : Int32)), .val (.int (0 : Int32))] [(.int (1 : Int32))])) _
          refine XS.istoreN X48.here hx rfl (hb hby d3_46) rfl (l' := #[.val (.ref a1), .val (.int (1 : Int32)), .val (.int (0 : Int32))]) rfl ?_
          show Steps p.tables e below (T48.setTop (mkF m 47 #[.val (.ref a1), .val (.int (1 : Int32)), .val (.int (0 : Int32))] [])) _
          refine XS.iinc X48.here hx rfl (hb hby d3_47) rfl (l' := #[.val (.ref a1), .val (.int (1 : Int32)), .val (.int (1 : Int32))]) rfl ?_
          show Steps p.tables e below (T48.setTop (mkF m 50 #[.val (.ref a1), .val (.int (1 : Int32)), .val (.int (1 : Int32))] [])) _
          refine XS.goto X48.here hx rfl (pc0 := 50) (pc' := 17) rfl (hb hby d3_50) (by decide) (by decide) ?_
          show Steps p.tables e below (T48.setTop (mkF m 17 #[.val (.ref a1), .val (.int (1 : Int32)), .val (.int (1 : Int32))] [])) _
          refine XS.iloadN X48.here hx rfl (hb hby d3_17) rfl ?_
          show Steps p.tables e below (T48.setTop (mkF m 18 #[.val (.ref a1), .val (.int (1 : Int32)), .val (.int (1 : Int32))] [(.int (1 : Int32))])) _
          refine XS.ifNo X48.here hx rfl (hb hby d3_18) rfl ((if0 _ _).trans (feq (by decide : ¬ ((1 : Int32) = (0 : Int32)))).1) ?_
          show Steps p.tables e below (T48.setTop (mkF m 21 #[.val (.ref a1), .val (.int (1 : Int32)), .val (.int (1 : Int32))] [])) _
          refine XS.iloadN X48.here hx rfl (hb hby d3_21) rfl ?_
          show Steps p.tables e below (T48.setTop (mkF m 22 #[.val (.ref a1), .val (.int (1 : Int32)), .val (.int (1 : Int32))] [(.int (1 : Int32))])) _
          refine XS.aloadN X48.here hx rfl (hb hby d3_22) rfl rfl ?_
          show Steps p.tables e below (T48.setTop (mkF m 23 #[.val (.ref a1), .val (.int (1 : Int32)), .val (.int (1 : Int32))] [(.ref a1), (.int (1 : Int32))])) _
          refine st52 _ ?_
          show Steps p.tables e below (T52.setTop (mkF m 26 #[.val (.ref a1), .val (.int (1 : Int32)), .val (.int (1 : Int32))] [(.ref b), (.int (1 : Int32))])) _
          refine X52.arraylength hx (by rw [e52]; exact Ar53.1) (State.isArrayOf_alike hZ.alike Ar53.2.1) (g := (mkF m 26 #[.val (.ref a1), .val (.int (1 : Int32)), .val (.int (1 : Int32))] [(.ref b), (.int (1 : Int32))])) rfl rfl (hb hby d3_26) _ ?_
          rw [len_of S53 M53]
          show Steps p.tables e below (T52.setTop (mkF m 27 #[.val (.ref a1), .val (.int (1 : Int32)), .val (.int (1 : Int32))] [(.int (3 : Int32)), (.int (1 : Int32))])) _
          refine XS.icmpNo X52.here hx rfl (hb hby d3_27) rfl (tlt (by decide : (1 : Int32) < (3 : Int32))).2.1 ?_
          show Steps p.tables e below (T52.setTop (mkF m 30 #[.val (.ref a1), .val (.int (1 : Int32)), .val (.int (1 : Int32))] [])) _
          refine XS.aloadN X52.here hx rfl (hb hby d3_30) rfl rfl ?_
          show Steps p.tables e below (T52.setTop (mkF m 31 #[.val (.ref a1), .val (.int (1 : Int32)), .val (.int (1 : Int32))] [(.ref a1)])) _
          refine st54 _ ?_
          show Steps p.tables e below (T54.setTop (mkF m 34 #[.val (.ref a1), .val (.int (1 : Int32)), .val (.int (1 : Int32))] [(.ref b)])) _
          refine XS.iloadN X54.here hx rfl (hb hby d3_34) rfl ?_
          show Steps p.tables e below (T54.setTop (mkF m 35 #[.val (.ref a1), .val (.int (1 : Int32)), .val (.int (1 : Int32))] [(.int (1 : Int32)), (.ref b)])) _
          refine X54.laload hx (j := (1 : Int32)) (v := (.long v2)) (by rw [e54]; exact Ar55.1) (State.isArrayOf_alike hZ.alike Ar55.2.1) Ar55.2.2 hin55 hat55 (g := (mkF m 35 #[.val (.ref a1), .val (.int (1 : Int32)), .val (.int (1 : Int32))] [(.int (1 : Int32)), (.ref b)])) rfl rfl (hb hby d3_35) _ ?_
          show Steps p.tables e below (T54.setTop (mkF m 36 #[.val (.ref a1), .val (.int (1 : Int32)), .val (.int (1 : Int32))] [(.long v2)])) _
          refine XS.lconst X54.here hx rfl (hb hby d3_36) ?_
          show Steps p.tables e below (T54.setTop (mkF m 37 #[.val (.ref a1), .val (.int (1 : Int32)), .val (.int (1 : Int32))] [(.long (0 : Int64)), (.long v2)])) _
          refine XS.lcmp X54.here hx rfl (hb hby d3_37) rfl ?_
          exact kt
        by_cases c38_57 : (lcmpW v2 (0 : Int64)) = (0 : Int32)
        · obtain ⟨T58, X58, e58, st58⟩ := getF X54 hx hZ hown (host := "") (Or.inl (hw _ (List.mem_of_getElem? (i := 12) rfl))) Via.refl e54 F_g (g := (mkF m 23 #[.val (.ref a1), .val (.int (1 : Int32)), .val (.int (2 : Int32))] [(.ref a1), (.int (2 : Int32))])) rfl rfl (hb hby d3_23)
          have VO59 := V_b
          obtain ⟨cl59, Ar59, q59, S59, M59, H59, G59⟩ := VO59
          obtain ⟨T60, X60, e60, st60⟩ := getF X58 hx hZ hown (host := "") (Or.inl (hw _ (List.mem_of_getElem? (i := 12) rfl))) Via.refl e58 F_g (g := (mkF m 31 #[.val (.ref a1), .val (.int (1 : Int32)), .val (.int (2 : Int32))] [(.ref a1)])) rfl rfl (hb hby d3_31)
          have VO61 := V_b
          obtain ⟨cl61, Ar61, q61, S61, M61, H61, G61⟩ := VO61
          have hin61 : ¬ ((2 : Int32) < 0 ∨ cl61.slots.size ≤ ((2 : Int32)).toNatClampNeg) := inb_of S61 ⟨by decide, by decide⟩
          have hat61 : cl61.slots[((2 : Int32)).toNatClampNeg]? = some (.long v3) := H61.at hin61 rfl
          have pre62 : ∀ tt, Steps p.tables e below (T60.setTop (mkF m 38 #[.val (.ref a1), .val (.int (1 : Int32)), .val (.int (2 : Int32))] [(.int (lcmpW v3 (0 : Int64)))])) tt → Steps p.tables e below (s₁.setTop (entryFrame m #[(.ref a1)] 3)) tt := by
            intro tt kt
            refine pre56 tt ?_
            show Steps p.tables e below (T54.setTop (mkF m 38 #[.val (.ref a1), .val (.int (1 : Int32)), .val (.int (1 : Int32))] [(.int (lcmpW v2 (0 : Int64)))])) _
            refine XS.ifNo X54.here hx rfl (hb hby d3_38) rfl ((if0 _ _).trans (teq c38_57).2) ?_
            show Steps p.tables e below (T54.setTop (mkF m 41 #[.val (.ref a1), .val (.int (1 : Int32)), .val (.int (1 : Int32))] [])) _
            refine XS.iconst X54.here hx rfl (hb hby d3_41) ?_
            show Steps p.tables e below (T54.setTop (mkF m 42 #[.val (.ref a1), .val (.int (1 : Int32)), .val (.int (1 : Int32))] [(.int (1 : Int32))])) _
            refine XS.goto X54.here hx rfl (pc0 := 42) (pc' := 46) rfl (hb hby d3_42) (by decide) (by decide) ?_
            show Steps p.tables e below (T54.setTop (mkF m 46 #[.val (.ref a1), .val (.int (1 : Int32)), .val (.int (1 : Int32))] [(.int (1 : Int32))])) _
            refine XS.istoreN X54.here hx rfl (hb hby d3_46) rfl (l' := #[.val (.ref a1), .val (.int (1 : Int32)), .val (.int (1 : Int32))]) rfl ?_
            show Steps p.tables e below (T54.setTop (mkF m 47 #[.val (.ref a1), .val (.int (1 : Int32)), .val (.int (1 : Int32))] [])) _
            refine XS.iinc X54.here hx rfl (hb hby d3_47) rfl (l' := #[.val (.ref a1), .val (.int (1 : Int32)), .val (.int (2 : Int32))]) rfl ?_
            show Steps p.tables e below (T54.setTop (mkF m 50 #[.val (.ref a1), .val (.int (1 : Int32)), .val (.int (2 : Int32))] [])) _
            refine XS.goto X54.here hx rfl (pc0 := 50) (pc' := 17) rfl (hb hby d3_50) (by decide) (by decide) ?_
            show Steps p.tables e below (T54.setTop (mkF m 17 #[.val (.ref a1), .val (.int (1 : Int32)), .val (.int (2 : Int32))] [])) _
            refine XS.iloadN X54.here hx rfl (hb hby d3_17) rfl ?_
            show Steps p.tables e below (T54.setTop (mkF m 18 #[.val (.ref a1), .val (.int (1 : Int32)), .val (.int (2 : Int32))] [(.int (1 : Int32))])) _
            refine XS.ifNo X54.here hx rfl (hb hby d3_18) rfl ((if0 _ _).trans (feq (by decide : ¬ ((1 : Int32) = (0 : Int32)))).1) ?_
            show Steps p.tables e below (T54.setTop (mkF m 21 #[.val (.ref a1), .val (.int (1 : Int32)), .val (.int (2 : Int32))] [])) _
            refine XS.iloadN X54.here hx rfl (hb hby d3_21) rfl ?_
            show Steps p.tables e below (T54.setTop (mkF m 22 #[.val (.ref a1), .val (.int (1 : Int32)), .val (.int (2 : Int32))] [(.int (2 : Int32))])) _
            refine XS.aloadN X54.here hx rfl (hb hby d3_22) rfl rfl ?_
            show Steps p.tables e below (T54.setTop (mkF m 23 #[.val (.ref a1), .val (.int (1 : Int32)), .val (.int (2 : Int32))] [(.ref a1), (.int (2 : Int32))])) _
            refine st58 _ ?_
            show Steps p.tables e below (T58.setTop (mkF m 26 #[.val (.ref a1), .val (.int (1 : Int32)), .val (.int (2 : Int32))] [(.ref b), (.int (2 : Int32))])) _
            refine X58.arraylength hx (by rw [e58]; exact Ar59.1) (State.isArrayOf_alike hZ.alike Ar59.2.1) (g := (mkF m 26 #[.val (.ref a1), .val (.int (1 : Int32)), .val (.int (2 : Int32))] [(.ref b), (.int (2 : Int32))])) rfl rfl (hb hby d3_26) _ ?_
            rw [len_of S59 M59]
            show Steps p.tables e below (T58.setTop (mkF m 27 #[.val (.ref a1), .val (.int (1 : Int32)), .val (.int (2 : Int32))] [(.int (3 : Int32)), (.int (2 : Int32))])) _
            refine XS.icmpNo X58.here hx rfl (hb hby d3_27) rfl (tlt (by decide : (2 : Int32) < (3 : Int32))).2.1 ?_
            show Steps p.tables e below (T58.setTop (mkF m 30 #[.val (.ref a1), .val (.int (1 : Int32)), .val (.int (2 : Int32))] [])) _
            refine XS.aloadN X58.here hx rfl (hb hby d3_30) rfl rfl ?_
            show Steps p.tables e below (T58.setTop (mkF m 31 #[.val (.ref a1), .val (.int (1 : Int32)), .val (.int (2 : Int32))] [(.ref a1)])) _
            refine st60 _ ?_
            show Steps p.tables e below (T60.setTop (mkF m 34 #[.val (.ref a1), .val (.int (1 : Int32)), .val (.int (2 : Int32))] [(.ref b)])) _
            refine XS.iloadN X60.here hx rfl (hb hby d3_34) rfl ?_
            show Steps p.tables e below (T60.setTop (mkF m 35 #[.val (.ref a1), .val (.int (1 : Int32)), .val (.int (2 : Int32))] [(.int (2 : Int32)), (.ref b)])) _
            refine X60.laload hx (j := (2 : Int32)) (v := (.long v3)) (by rw [e60]; exact Ar61.1) (State.isArrayOf_alike hZ.alike Ar61.2.1) Ar61.2.2 hin61 hat61 (g := (mkF m 35 #[.val (.ref a1), .val (.int (1 : Int32)), .val (.int (2 : Int32))] [(.int (2 : Int32)), (.ref b)])) rfl rfl (hb hby d3_35) _ ?_
            show Steps p.tables e below (T60.setTop (mkF m 36 #[.val (.ref a1), .val (.int (1 : Int32)), .val (.int (2 : Int32))] [(.long v3)])) _
            refine XS.lconst X60.here hx rfl (hb hby d3_36) ?_
            show Steps p.tables e below (T60.setTop (mkF m 37 #[.val (.ref a1), .val (.int (1 : Int32)), .val (.int (2 : Int32))] [(.long (0 : Int64)), (.long v3)])) _
            refine XS.lcmp X60.here hx rfl (hb hby d3_37) rfl ?_
            exact kt
          by_cases c38_63 : (lcmpW v3 (0 : Int64)) = (0 : Int32)
          · obtain ⟨T64, X64, e64, st64⟩ := getF X60 hx hZ hown (host := "") (Or.inl (hw _ (List.mem_of_getElem? (i := 12) rfl))) Via.refl e60 F_g (g := (mkF m 23 #[.val (.ref a1), .val (.int (1 : Int32)), .val (.int (3 : Int32))] [(.ref a1), (.int (3 : Int32))])) rfl rfl (hb hby d3_23)
            have VO65 := V_b
            obtain ⟨cl65, Ar65, q65, S65, M65, H65, G65⟩ := VO65
            have pre66 : ∀ tt, Steps p.tables e below (T64.setTop (mkF m 54 #[.val (.ref a1), .val (.int (1 : Int32)), .val (.int (3 : Int32))] [(.int (1 : Int32))])) tt → Steps p.tables e below (s₁.setTop (entryFrame m #[(.ref a1)] 3)) tt := by
              intro tt kt
              refine pre62 tt ?_
              show Steps p.tables e below (T60.setTop (mkF m 38 #[.val (.ref a1), .val (.int (1 : Int32)), .val (.int (2 : Int32))] [(.int (lcmpW v3 (0 : Int64)))])) _
              refine XS.ifNo X60.here hx rfl (hb hby d3_38) rfl ((if0 _ _).trans (teq c38_63).2) ?_
              show Steps p.tables e below (T60.setTop (mkF m 41 #[.val (.ref a1), .val (.int (1 : Int32)), .val (.int (2 : Int32))] [])) _
              refine XS.iconst X60.here hx rfl (hb hby d3_41) ?_
              show Steps p.tables e below (T60.setTop (mkF m 42 #[.val (.ref a1), .val (.int (1 : Int32)), .val (.int (2 : Int32))] [(.int (1 : Int32))])) _
              refine XS.goto X60.here hx rfl (pc0 := 42) (pc' := 46) rfl (hb hby d3_42) (by decide) (by decide) ?_
              show Steps p.tables e below (T60.setTop (mkF m 46 #[.val (.ref a1), .val (.int (1 : Int32)), .val (.int (2 : Int32))] [(.int (1 : Int32))])) _
              refine XS.istoreN X60.here hx rfl (hb hby d3_46) rfl (l' := #[.val (.ref a1), .val (.int (1 : Int32)), .val (.int (2 : Int32))]) rfl ?_
              show Steps p.tables e below (T60.setTop (mkF m 47 #[.val (.ref a1), .val (.int (1 : Int32)), .val (.int (2 : Int32))] [])) _
              refine XS.iinc X60.here hx rfl (hb hby d3_47) rfl (l' := #[.val (.ref a1), .val (.int (1 : Int32)), .val (.int (3 : Int32))]) rfl ?_
              show Steps p.tables e below (T60.setTop (mkF m 50 #[.val (.ref a1), .val (.int (1 : Int32)), .val (.int (3 : Int32))] [])) _
              refine XS.goto X60.here hx rfl (pc0 := 50) (pc' := 17) rfl (hb hby d3_50) (by decide) (by decide) ?_
              show Steps p.tables e below (T60.setTop (mkF m 17 #[.val (.ref a1), .val (.int (1 : Int32)), .val (.int (3 : Int32))] [])) _
              refine XS.iloadN X60.here hx rfl (hb hby d3_17) rfl ?_
              show Steps p.tables e below (T60.setTop (mkF m 18 #[.val (.ref a1), .val (.int (1 : Int32)), .val (.int (3 : Int32))] [(.int (1 : Int32))])) _
              refine XS.ifNo X60.here hx rfl (hb hby d3_18) rfl ((if0 _ _).trans (feq (by decide : ¬ ((1 : Int32) = (0 : Int32)))).1) ?_
              show Steps p.tables e below (T60.setTop (mkF m 21 #[.val (.ref a1), .val (.int (1 : Int32)), .val (.int (3 : Int32))] [])) _
              refine XS.iloadN X60.here hx rfl (hb hby d3_21) rfl ?_
              show Steps p.tables e below (T60.setTop (mkF m 22 #[.val (.ref a1), .val (.int (1 : Int32)), .val (.int (3 : Int32))] [(.int (3 : Int32))])) _
              refine XS.aloadN X60.here hx rfl (hb hby d3_22) rfl rfl ?_
              show Steps p.tables e below (T60.setTop (mkF m 23 #[.val (.ref a1), .val (.int (1 : Int32)), .val (.int (3 : Int32))] [(.ref a1), (.int (3 : Int32))])) _
              refine st64 _ ?_
              show Steps p.tables e below (T64.setTop (mkF m 26 #[.val (.ref a1), .val (.int (1 : Int32)), .val (.int (3 : Int32))] [(.ref b), (.int (3 : Int32))])) _
              refine X64.arraylength hx (by rw [e64]; exact Ar65.1) (State.isArrayOf_alike hZ.alike Ar65.2.1) (g := (mkF m 26 #[.val (.ref a1), .val (.int (1 : Int32)), .val (.int (3 : Int32))] [(.ref b), (.int (3 : Int32))])) rfl rfl (hb hby d3_26) _ ?_
              rw [len_of S65 M65]
              show Steps p.tables e below (T64.setTop (mkF m 27 #[.val (.ref a1), .val (.int (1 : Int32)), .val (.int (3 : Int32))] [(.int (3 : Int32)), (.int (3 : Int32))])) _
              refine XS.icmpYes X64.here hx rfl (pc0 := 27) (pc' := 53) rfl (hb hby d3_27) rfl (flt (by decide : ¬ ((3 : Int32) < (3 : Int32)))).2.1 (by decide) (by decide) ?_
              show Steps p.tables e below (T64.setTop (mkF m 53 #[.val (.ref a1), .val (.int (1 : Int32)), .val (.int (3 : Int32))] [])) _
              refine XS.iloadN X64.here hx rfl (hb hby d3_53) rfl ?_
              exact kt
            obtain ⟨fs, hr, hrun, hended, hW, hsame⟩ := X64.leave (v := some (.int (1 : Int32))) (fun h => by rw [Bd.returns] at h; cases h)
            refine ⟨_, _, pre66 _ ?_, hrun, hended, _, _, rfl, ?_, ⟨_, rfl⟩, hW, hsame.mono (by decide) (by decide)⟩
            · show Steps p.tables e below (T64.setTop (mkF m 54 #[.val (.ref a1), .val (.int (1 : Int32)), .val (.int (3 : Int32))] [(.int (1 : Int32))])) _
              exact retN X64 hx (t := .boolean) Bd.returns (by simp) (hb hby d3_54) hr
            · show QI Z r h0 n0 _ T64.heap _
              rw [e64]
              exact ⟨by rw [hr0]; simp [(lw_eq _ _).mp c6_45, (lw_eq _ _).mp c38_51, (lw_eq _ _).mp c38_57, (lw_eq _ _).mp c38_63], N0, rfl⟩
          · have pre67 : ∀ tt, Steps p.tables e below (T60.setTop (mkF m 54 #[.val (.ref a1), .val (.int (0 : Int32)), .val (.int (3 : Int32))] [(.int (0 : Int32))])) tt → Steps p.tables e below (s₁.setTop (entryFrame m #[(.ref a1)] 3)) tt := by
              intro tt kt
              refine pre62 tt ?_
              show Steps p.tables e below (T60.setTop (mkF m 38 #[.val (.ref a1), .val (.int (1 : Int32)), .val (.int (2 : Int32))] [(.int (lcmpW v3 (0 : Int64)))])) _
              refine XS.ifYes X60.here hx rfl (pc0 := 38) (pc' := 45) rfl (hb hby d3_38) rfl ((if0 _ _).trans (feq c38_63).2) (by decide) (by decide) ?_
              show Steps p.tables e below (T60.setTop (mkF m 45 #[.val (.ref a1), .val (.int (1 : Int32)), .val (.int (2 : Int32))] [])) _
              refine XS.iconst X60.here hx rfl (hb hby d3_45) ?_
              show Steps p.tables e below (T60.setTop (mkF m 46 #[.val (.ref a1), .val (.int (1 : Int32)), .val (.int (2 : Int32))] [(.int (0 : Int32))])) _
              refine XS.istoreN X60.here hx rfl (hb hby d3_46) rfl (l' := #[.val (.ref a1), .val (.int (0 : Int32)), .val (.int (2 : Int32))]) rfl ?_
              show Steps p.tables e below (T60.setTop (mkF m 47 #[.val (.ref a1), .val (.int (0 : Int32)), .val (.int (2 : Int32))] [])) _
              refine XS.iinc X60.here hx rfl (hb hby d3_47) rfl (l' := #[.val (.ref a1), .val (.int (0 : Int32)), .val (.int (3 : Int32))]) rfl ?_
              show Steps p.tables e below (T60.setTop (mkF m 50 #[.val (.ref a1), .val (.int (0 : Int32)), .val (.int (3 : Int32))] [])) _
              refine XS.goto X60.here hx rfl (pc0 := 50) (pc' := 17) rfl (hb hby d3_50) (by decide) (by decide) ?_
              show Steps p.tables e below (T60.setTop (mkF m 17 #[.val (.ref a1), .val (.int (0 : Int32)), .val (.int (3 : Int32))] [])) _
              refine XS.iloadN X60.here hx rfl (hb hby d3_17) rfl ?_
              show Steps p.tables e below (T60.setTop (mkF m 18 #[.val (.ref a1), .val (.int (0 : Int32)), .val (.int (3 : Int32))] [(.int (0 : Int32))])) _
              refine XS.ifYes X60.here hx rfl (pc0 := 18) (pc' := 53) rfl (hb hby d3_18) rfl ((if0 _ _).trans (teq (rfl : (0 : Int32) = (0 : Int32))).1) (by decide) (by decide) ?_
              show Steps p.tables e below (T60.setTop (mkF m 53 #[.val (.ref a1), .val (.int (0 : Int32)), .val (.int (3 : Int32))] [])) _
              refine XS.iloadN X60.here hx rfl (hb hby d3_53) rfl ?_
              exact kt
            obtain ⟨fs, hr, hrun, hended, hW, hsame⟩ := X60.leave (v := some (.int (0 : Int32))) (fun h => by rw [Bd.returns] at h; cases h)
            refine ⟨_, _, pre67 _ ?_, hrun, hended, _, _, rfl, ?_, ⟨_, rfl⟩, hW, hsame.mono (by decide) (by decide)⟩
            · show Steps p.tables e below (T60.setTop (mkF m 54 #[.val (.ref a1), .val (.int (0 : Int32)), .val (.int (3 : Int32))] [(.int (0 : Int32))])) _
              exact retN X60 hx (t := .boolean) Bd.returns (by simp) (hb hby d3_54) hr
            · show QI Z r h0 n0 _ T60.heap _
              rw [e60]
              exact ⟨by rw [hr0]; simp [(lw_eq _ _).mp c6_45, (lw_eq _ _).mp c38_51, (lw_eq _ _).mp c38_57, (show ¬ (v3 = 0) from fun q => c38_63 ((lw_eq _ _).mpr q))], N0, rfl⟩
        · have pre68 : ∀ tt, Steps p.tables e below (T54.setTop (mkF m 54 #[.val (.ref a1), .val (.int (0 : Int32)), .val (.int (2 : Int32))] [(.int (0 : Int32))])) tt → Steps p.tables e below (s₁.setTop (entryFrame m #[(.ref a1)] 3)) tt := by
            intro tt kt
            refine pre56 tt ?_
            show Steps p.tables e below (T54.setTop (mkF m 38 #[.val (.ref a1), .val (.int (1 : Int32)), .val (.int (1 : Int32))] [(.int (lcmpW v2 (0 : Int64)))])) _
            refine XS.ifYes X54.here hx rfl (pc0 := 38) (pc' := 45) rfl (hb hby d3_38) rfl ((if0 _ _).trans (feq c38_57).2) (by decide) (by decide) ?_
            show Steps p.tables e below (T54.setTop (mkF m 45 #[.val (.ref a1), .val (.int (1 : Int32)), .val (.int (1 : Int32))] [])) _
            refine XS.iconst X54.here hx rfl (hb hby d3_45) ?_
            show Steps p.tables e below (T54.setTop (mkF m 46 #[.val (.ref a1), .val (.int (1 : Int32)), .val (.int (1 : Int32))] [(.int (0 : Int32))])) _
            refine XS.istoreN X54.here hx rfl (hb hby d3_46) rfl (l' := #[.val (.ref a1), .val (.int (0 : Int32)), .val (.int (1 : Int32))]) rfl ?_
            show Steps p.tables e below (T54.setTop (mkF m 47 #[.val (.ref a1), .val (.int (0 : Int32)), .val (.int (1 : Int32))] [])) _
            refine XS.iinc X54.here hx rfl (hb hby d3_47) rfl (l' := #[.val (.ref a1), .val (.int (0 : Int32)), .val (.int (2 : Int32))]) rfl ?_
            show Steps p.tables e below (T54.setTop (mkF m 50 #[.val (.ref a1), .val (.int (0 : Int32)), .val (.int (2 : Int32))] [])) _
            refine XS.goto X54.here hx rfl (pc0 := 50) (pc' := 17) rfl (hb hby d3_50) (by decide) (by decide) ?_
            show Steps p.tables e below (T54.setTop (mkF m 17 #[.val (.ref a1), .val (.int (0 : Int32)), .val (.int (2 : Int32))] [])) _
            refine XS.iloadN X54.here hx rfl (hb hby d3_17) rfl ?_
            show Steps p.tables e below (T54.setTop (mkF m 18 #[.val (.ref a1), .val (.int (0 : Int32)), .val (.int (2 : Int32))] [(.int (0 : Int32))])) _
            refine XS.ifYes X54.here hx rfl (pc0 := 18) (pc' := 53) rfl (hb hby d3_18) rfl ((if0 _ _).trans (teq (rfl : (0 : Int32) = (0 : Int32))).1) (by decide) (by decide) ?_
            show Steps p.tables e below (T54.setTop (mkF m 53 #[.val (.ref a1), .val (.int (0 : Int32)), .val (.int (2 : Int32))] [])) _
            refine XS.iloadN X54.here hx rfl (hb hby d3_53) rfl ?_
            exact kt
          obtain ⟨fs, hr, hrun, hended, hW, hsame⟩ := X54.leave (v := some (.int (0 : Int32))) (fun h => by rw [Bd.returns] at h; cases h)
          refine ⟨_, _, pre68 _ ?_, hrun, hended, _, _, rfl, ?_, ⟨_, rfl⟩, hW, hsame.mono (by decide) (by decide)⟩
          · show Steps p.tables e below (T54.setTop (mkF m 54 #[.val (.ref a1), .val (.int (0 : Int32)), .val (.int (2 : Int32))] [(.int (0 : Int32))])) _
            exact retN X54 hx (t := .boolean) Bd.returns (by simp) (hb hby d3_54) hr
          · show QI Z r h0 n0 _ T54.heap _
            rw [e54]
            exact ⟨by rw [hr0]; simp [(lw_eq _ _).mp c6_45, (lw_eq _ _).mp c38_51, (show ¬ (v2 = 0) from fun q => c38_57 ((lw_eq _ _).mpr q))], N0, rfl⟩
      · have pre69 : ∀ tt, Steps p.tables e below (T48.setTop (mkF m 54 #[.val (.ref a1), .val (.int (0 : Int32)), .val (.int (1 : Int32))] [(.int (0 : Int32))])) tt → Steps p.tables e below (s₁.setTop (entryFrame m #[(.ref a1)] 3)) tt := by
          intro tt kt
          refine pre50 tt ?_
          show Steps p.tables e below (T48.setTop (mkF m 38 #[.val (.ref a1), .val (.int (1 : Int32)), .val (.int (0 : Int32))] [(.int (lcmpW v1 (0 : Int64)))])) _
          refine XS.ifYes X48.here hx rfl (pc0 := 38) (pc' := 45) rfl (hb hby d3_38) rfl ((if0 _ _).trans (feq c38_51).2) (by decide) (by decide) ?_
          show Steps p.tables e below (T48.setTop (mkF m 45 #[.val (.ref a1), .val (.int (1 : Int32)), .val (.int (0 : Int32))] [])) _
          refine XS.iconst X48.here hx rfl (hb hby d3_45) ?_
          show Steps p.tables e below (T48.setTop (mkF m 46 #[.val (.ref a1), .val (.int (1 : Int32)), .val (.int (0 : Int32))] [(.int (0 : Int32))])) _
          refine XS.istoreN X48.here hx rfl (hb hby d3_46) rfl (l' := #[.val (.ref a1), .val (.int (0 : Int32)), .val (.int (0 : Int32))]) rfl ?_
          show Steps p.tables e below (T48.setTop (mkF m 47 #[.val (.ref a1), .val (.int (0 : Int32)), .val (.int (0 : Int32))] [])) _
          refine XS.iinc X48.here hx rfl (hb hby d3_47) rfl (l' := #[.val (.ref a1), .val (.int (0 : Int32)), .val (.int (1 : Int32))]) rfl ?_
          show Steps p.tables e below (T48.setTop (mkF m 50 #[.val (.ref a1), .val (.int (0 : Int32)), .val (.int (1 : Int32))] [])) _
          refine XS.goto X48.here hx rfl (pc0 := 50) (pc' := 17) rfl (hb hby d3_50) (by decide) (by decide) ?_
          show Steps p.tables e below (T48.setTop (mkF m 17 #[.val (.ref a1), .val (.int (0 : Int32)), .val (.int (1 : Int32))] [])) _
          refine XS.iloadN X48.here hx rfl (hb hby d3_17) rfl ?_
          show Steps p.tables e below (T48.setTop (mkF m 18 #[.val (.ref a1), .val (.int (0 : Int32)), .val (.int (1 : Int32))] [(.int (0 : Int32))])) _
          refine XS.ifYes X48.here hx rfl (pc0 := 18) (pc' := 53) rfl (hb hby d3_18) rfl ((if0 _ _).trans (teq (rfl : (0 : Int32) = (0 : Int32))).1) (by decide) (by decide) ?_
          show Steps p.tables e below (T48.setTop (mkF m 53 #[.val (.ref a1), .val (.int (0 : Int32)), .val (.int (1 : Int32))] [])) _
          refine XS.iloadN X48.here hx rfl (hb hby d3_53) rfl ?_
          exact kt
        obtain ⟨fs, hr, hrun, hended, hW, hsame⟩ := X48.leave (v := some (.int (0 : Int32))) (fun h => by rw [Bd.returns] at h; cases h)
        refine ⟨_, _, pre69 _ ?_, hrun, hended, _, _, rfl, ?_, ⟨_, rfl⟩, hW, hsame.mono (by decide) (by decide)⟩
        · show Steps p.tables e below (T48.setTop (mkF m 54 #[.val (.ref a1), .val (.int (0 : Int32)), .val (.int (1 : Int32))] [(.int (0 : Int32))])) _
          exact retN X48 hx (t := .boolean) Bd.returns (by simp) (hb hby d3_54) hr
        · show QI Z r h0 n0 _ T48.heap _
          rw [e48]
          exact ⟨by rw [hr0]; simp [(lw_eq _ _).mp c6_45, (show ¬ (v1 = 0) from fun q => c38_51 ((lw_eq _ _).mpr q))], N0, rfl⟩
    · have pre70 : ∀ tt, Steps p.tables e below (T43.setTop (mkF m 54 #[.val (.ref a1), .val (.int (0 : Int32)), .val (.int (0 : Int32))] [(.int (0 : Int32))])) tt → Steps p.tables e below (s₁.setTop (entryFrame m #[(.ref a1)] 3)) tt := by
        intro tt kt
        refine pre44 tt ?_
        show Steps p.tables e below (T43.setTop (mkF m 6 #[.val (.ref a1), .unset, .unset] [(.int (lcmpW v0 (0 : Int64)))])) _
        refine XS.ifYes X43.here hx rfl (pc0 := 6) (pc' := 13) rfl (hb hby d3_6) rfl ((if0 _ _).trans (feq c6_45).2) (by decide) (by decide) ?_
        show Steps p.tables e below (T43.setTop (mkF m 13 #[.val (.ref a1), .unset, .unset] [])) _
        refine XS.iconst X43.here hx rfl (hb hby d3_13) ?_
        show Steps p.tables e below (T43.setTop (mkF m 14 #[.val (.ref a1), .unset, .unset] [(.int (0 : Int32))])) _
        refine XS.istoreN X43.here hx rfl (hb hby d3_14) rfl (l' := #[.val (.ref a1), .val (.int (0 : Int32)), .unset]) rfl ?_
        show Steps p.tables e below (T43.setTop (mkF m 15 #[.val (.ref a1), .val (.int (0 : Int32)), .unset] [])) _
        refine XS.iconst X43.here hx rfl (hb hby d3_15) ?_
        show Steps p.tables e below (T43.setTop (mkF m 16 #[.val (.ref a1), .val (.int (0 : Int32)), .unset] [(.int (0 : Int32))])) _
        refine XS.istoreN X43.here hx rfl (hb hby d3_16) rfl (l' := #[.val (.ref a1), .val (.int (0 : Int32)), .val (.int (0 : Int32))]) rfl ?_
        show Steps p.tables e below (T43.setTop (mkF m 17 #[.val (.ref a1), .val (.int (0 : Int32)), .val (.int (0 : Int32))] [])) _
        refine XS.iloadN X43.here hx rfl (hb hby d3_17) rfl ?_
        show Steps p.tables e below (T43.setTop (mkF m 18 #[.val (.ref a1), .val (.int (0 : Int32)), .val (.int (0 : Int32))] [(.int (0 : Int32))])) _
        refine XS.ifYes X43.here hx rfl (pc0 := 18) (pc' := 53) rfl (hb hby d3_18) rfl ((if0 _ _).trans (teq (rfl : (0 : Int32) = (0 : Int32))).1) (by decide) (by decide) ?_
        show Steps p.tables e below (T43.setTop (mkF m 53 #[.val (.ref a1), .val (.int (0 : Int32)), .val (.int (0 : Int32))] [])) _
        refine XS.iloadN X43.here hx rfl (hb hby d3_53) rfl ?_
        exact kt
      obtain ⟨fs, hr, hrun, hended, hW, hsame⟩ := X43.leave (v := some (.int (0 : Int32))) (fun h => by rw [Bd.returns] at h; cases h)
      refine ⟨_, _, pre70 _ ?_, hrun, hended, _, _, rfl, ?_, ⟨_, rfl⟩, hW, hsame.mono (by decide) (by decide)⟩
      · show Steps p.tables e below (T43.setTop (mkF m 54 #[.val (.ref a1), .val (.int (0 : Int32)), .val (.int (0 : Int32))] [(.int (0 : Int32))])) _
        exact retN X43 hx (t := .boolean) Bd.returns (by simp) (hb hby d3_54) hr
      · show QI Z r h0 n0 _ T43.heap _
        rw [e43]
        exact ⟨by rw [hr0]; simp [(show ¬ (v0 = 0) from fun q => c6_45 ((lw_eq _ _).mpr q))], N0, rfl⟩
theorem own_bv (f : Int32) : (((1 : Int64) <<< (f &&& 0x3f).toInt64)).toBitVec = BitVec.twoPow 64 (f.toBitVec.toNat % 64) := by
  obtain ⟨h1, h2⟩ := sm64 f _ rfl
  have e1 : (1 : Int64).toBitVec = 1#64 := by decide
  rw [Int64.toBitVec_shiftLeft, h1, BitVec.shiftLeft_eq', smod64 _ h2, e1]
  rfl
def own_b (v : Int64) (f : Int32) : Bool := v.toBitVec.getLsbD (f.toBitVec.toNat % 64)
theorem own_klt (f : Int32) : f.toBitVec.toNat % 64 < 64 := Nat.mod_lt _ (by decide)
theorem own_and0 (v : Int64) (f : Int32) : ((v &&& ((1 : Int64) <<< (f &&& 0x3f).toInt64)) = 0) ↔ own_b v f = false := by
  rw [← Int64.toBitVec_inj, Int64.toBitVec_and, own_bv, BitVec.and_twoPow]
  unfold own_b
  have h := own_klt f
  generalize f.toBitVec.toNat % 64 = k at *
  have h2 : BitVec.twoPow 64 k ≠ 0#64 := by
    intro q
    have := congrArg (fun x => x.getLsbD k) q
    simp [h] at this
  cases e : v.toBitVec.getLsbD k
  · simp
  · simp only [if_true]
    constructor
    · intro q; exact absurd q h2
    · intro q; cases q
theorem own_bor (v : Int64) (a f : Int32) : own_b (v ||| ((1 : Int64) <<< (a &&& 0x3f).toInt64)) f = (own_b v f || decide (a.toBitVec.toNat % 64 = f.toBitVec.toNat % 64)) := by
  unfold own_b
  have h := own_klt f
  rw [Int64.toBitVec_or, own_bv, BitVec.getLsbD_or, BitVec.getLsbD_twoPow]
  simp [h, own_klt a]
theorem own_brm (v : Int64) (a f : Int32) : own_b (v &&& (((1 : Int64) <<< (a &&& 0x3f).toInt64) ^^^ (-1 : Int64))) f = (own_b v f && !decide (a.toBitVec.toNat % 64 = f.toBitVec.toNat % 64)) := by
  unfold own_b
  have h := own_klt f
  have e : (-1 : Int64).toBitVec = BitVec.allOnes 64 := by decide
  rw [Int64.toBitVec_and, Int64.toBitVec_xor, own_bv, e, BitVec.getLsbD_and, BitVec.getLsbD_xor, BitVec.getLsbD_twoPow, BitVec.getLsbD_allOnes]
  simp [h, own_klt a]
theorem own_b0 (f : Int32) : own_b 0 f = false := by simp [own_b]
theorem own_nn {f : Int32} (h : 0 ≤ f.toInt) : (f.toBitVec.toNat : Int) = f.toInt := by
  have h1 : f.toInt = f.toBitVec.toInt := rfl
  have h2 := BitVec.toInt_eq_toNat_cond f.toBitVec
  rw [← h1] at h2
  have h3 := f.toBitVec.isLt
  split at h2 <;> omega
theorem own_same {n a f : Int32} (hn : 1 ≤ n.toInt ∧ n.toInt ≤ 256) (ra : 0 ≤ a.toInt ∧ a.toInt < n.toInt) (rf : 0 ≤ f.toInt ∧ f.toInt < n.toInt) (e : a / (64 : Int32) = f / (64 : Int32)) : (a.toBitVec.toNat % 64 = f.toBitVec.toNat % 64) ↔ f = a := by
  have q1 := (own_fr hn ra).2.2
  have q2 := (own_fr hn rf).2.2
  have q3 := own_nn ra.1
  have q4 := own_nn rf.1
  rw [e, q2] at q1
  rw [← Int32.toInt_inj]
  omega
def own_M (v0 v1 v2 v3 : Int64) (f : Int32) : Prop := own_b (own_word (f / (64 : Int32)) v0 v1 v2 v3) f = true
theorem own_M0 (f : Int32) : ¬ own_M 0 0 0 0 f := by
  have h : own_word (f / (64 : Int32)) 0 0 0 0 = 0 := by unfold own_word; simp
  unfold own_M
  rw [h, own_b0]; simp
theorem own_wup {g : Int64 → Int64} {qa qf : Int32} {v0 v1 v2 v3 u0 u1 u2 u3 : Int64} (rf : qf = 0 ∨ qf = 1 ∨ qf = 2 ∨ qf = 3) (h0 : u0 = if qa = 0 then g v0 else v0) (h1 : u1 = if qa = 1 then g v1 else v1) (h2 : u2 = if qa = 2 then g v2 else v2) (h3 : u3 = if qa = 3 then g v3 else v3) : own_word qf u0 u1 u2 u3 = if qa = qf then g (own_word qf v0 v1 v2 v3) else own_word qf v0 v1 v2 v3 := by
  rcases rf with rfl | rfl | rfl | rfl
  · simp only [own_w0]; exact h0
  · simp only [own_w1]; exact h1
  · simp only [own_w2]; exact h2
  · simp only [own_w3]; exact h3
theorem own_Madd {n a f : Int32} {v0 v1 v2 v3 u0 u1 u2 u3 : Int64} (hn : 1 ≤ n.toInt ∧ n.toInt ≤ 256) (ra : 0 ≤ a.toInt ∧ a.toInt < n.toInt) (rf : 0 ≤ f.toInt ∧ f.toInt < n.toInt) (h0 : u0 = if a / (64 : Int32) = 0 then (v0 ||| ((1 : Int64) <<< (a &&& 0x3f).toInt64)) else v0) (h1 : u1 = if a / (64 : Int32) = 1 then (v1 ||| ((1 : Int64) <<< (a &&& 0x3f).toInt64)) else v1) (h2 : u2 = if a / (64 : Int32) = 2 then (v2 ||| ((1 : Int64) <<< (a &&& 0x3f).toInt64)) else v2) (h3 : u3 = if a / (64 : Int32) = 3 then (v3 ||| ((1 : Int64) <<< (a &&& 0x3f).toInt64)) else v3) : own_M u0 u1 u2 u3 f ↔ (f = a ∨ own_M v0 v1 v2 v3 f) := by
  unfold own_M
  rw [own_wup (g := fun v => v ||| ((1 : Int64) <<< (a &&& 0x3f).toInt64)) (own_fr hn rf).2.1 h0 h1 h2 h3]
  by_cases e : a / (64 : Int32) = f / (64 : Int32)
  · rw [if_pos e, own_bor, Bool.or_eq_true, decide_eq_true_iff, own_same hn ra rf e]
    exact Or.comm
  · rw [if_neg e]
    constructor
    · intro q; exact Or.inr q
    · rintro (q | q)
      · exact absurd (by rw [q]) e
      · exact q
theorem own_Mrem {n a f : Int32} {v0 v1 v2 v3 u0 u1 u2 u3 : Int64} (hn : 1 ≤ n.toInt ∧ n.toInt ≤ 256) (ra : 0 ≤ a.toInt ∧ a.toInt < n.toInt) (rf : 0 ≤ f.toInt ∧ f.toInt < n.toInt) (h0 : u0 = if a / (64 : Int32) = 0 then (v0 &&& (((1 : Int64) <<< (a &&& 0x3f).toInt64) ^^^ (-1 : Int64))) else v0) (h1 : u1 = if a / (64 : Int32) = 1 then (v1 &&& (((1 : Int64) <<< (a &&& 0x3f).toInt64) ^^^ (-1 : Int64))) else v1) (h2 : u2 = if a / (64 : Int32) = 2 then (v2 &&& (((1 : Int64) <<< (a &&& 0x3f).toInt64) ^^^ (-1 : Int64))) else v2) (h3 : u3 = if a / (64 : Int32) = 3 then (v3 &&& (((1 : Int64) <<< (a &&& 0x3f).toInt64) ^^^ (-1 : Int64))) else v3) : own_M u0 u1 u2 u3 f ↔ (own_M v0 v1 v2 v3 f ∧ ¬ f = a) := by
  unfold own_M
  rw [own_wup (g := fun v => v &&& (((1 : Int64) <<< (a &&& 0x3f).toInt64) ^^^ (-1 : Int64))) (own_fr hn rf).2.1 h0 h1 h2 h3]
  by_cases e : a / (64 : Int32) = f / (64 : Int32)
  · rw [if_pos e, own_brm, Bool.and_eq_true, Bool.not_eq_true', decide_eq_false_iff_not, own_same hn ra rf e]
  · rw [if_neg e]
    constructor
    · intro q; exact ⟨q, fun r => e (by rw [r])⟩
    · intro q; exact q.1
theorem own_n256 (p : Int32) : 1 ≤ ((p &&& (255 : Int32)) + (1 : Int32)).toInt ∧ ((p &&& (255 : Int32)) + (1 : Int32)).toInt ≤ 256 := by
  have h1 := c_mask p (255 : Int32) 8 (by decide) (by decide)
  have h2 := c_iadd (p &&& (255 : Int32)) (1 : Int32)
  have h3 := rng32 ((p &&& (255 : Int32)) + (1 : Int32))
  have e1 : (1 : Int32).toInt = 1 := by decide
  omega
theorem own_nz {n : Int32} (h : 1 ≤ n.toInt ∧ n.toInt ≤ 256) : ¬ (n = (0 : Int32)) := by
  intro q
  rw [q] at h
  exact absurd h.1 (by decide)
theorem own_Mca {n a f fl : Int32} {v0 v1 v2 v3 u0 u1 u2 u3 : Int64} (hn : 1 ≤ n.toInt ∧ n.toInt ≤ 256) (ra : 0 ≤ a.toInt ∧ a.toInt < n.toInt) (rf : 0 ≤ f.toInt ∧ f.toInt < n.toInt) (h0 : u0 = if fl = (0 : Int32) then v0 else (if a / (64 : Int32) = 0 then (v0 ||| ((1 : Int64) <<< (a &&& 0x3f).toInt64)) else v0)) (h1 : u1 = if fl = (0 : Int32) then v1 else (if a / (64 : Int32) = 1 then (v1 ||| ((1 : Int64) <<< (a &&& 0x3f).toInt64)) else v1)) (h2 : u2 = if fl = (0 : Int32) then v2 else (if a / (64 : Int32) = 2 then (v2 ||| ((1 : Int64) <<< (a &&& 0x3f).toInt64)) else v2)) (h3 : u3 = if fl = (0 : Int32) then v3 else (if a / (64 : Int32) = 3 then (v3 ||| ((1 : Int64) <<< (a &&& 0x3f).toInt64)) else v3)) : own_M u0 u1 u2 u3 f ↔ ((¬ fl = 0 ∧ f = a) ∨ own_M v0 v1 v2 v3 f) := by
  by_cases c : fl = 0
  · rw [if_pos c] at h0 h1 h2 h3
    rw [h0, h1, h2, h3]; simp [c]
  · rw [if_neg c] at h0 h1 h2 h3
    rw [own_Madd hn ra rf h0 h1 h2 h3]; simp [c]
theorem own_Mcr {n a f fl : Int32} {v0 v1 v2 v3 u0 u1 u2 u3 : Int64} (hn : 1 ≤ n.toInt ∧ n.toInt ≤ 256) (ra : 0 ≤ a.toInt ∧ a.toInt < n.toInt) (rf : 0 ≤ f.toInt ∧ f.toInt < n.toInt) (h0 : u0 = if fl = (0 : Int32) then v0 else (if a / (64 : Int32) = 0 then (v0 &&& (((1 : Int64) <<< (a &&& 0x3f).toInt64) ^^^ (-1 : Int64))) else v0)) (h1 : u1 = if fl = (0 : Int32) then v1 else (if a / (64 : Int32) = 1 then (v1 &&& (((1 : Int64) <<< (a &&& 0x3f).toInt64) ^^^ (-1 : Int64))) else v1)) (h2 : u2 = if fl = (0 : Int32) then v2 else (if a / (64 : Int32) = 2 then (v2 &&& (((1 : Int64) <<< (a &&& 0x3f).toInt64) ^^^ (-1 : Int64))) else v2)) (h3 : u3 = if fl = (0 : Int32) then v3 else (if a / (64 : Int32) = 3 then (v3 &&& (((1 : Int64) <<< (a &&& 0x3f).toInt64) ^^^ (-1 : Int64))) else v3)) : own_M u0 u1 u2 u3 f ↔ (own_M v0 v1 v2 v3 f ∧ ¬ (¬ fl = 0 ∧ f = a)) := by
  by_cases c : fl = 0
  · rw [if_pos c] at h0 h1 h2 h3
    rw [h0, h1, h2, h3]; simp [c]
  · rw [if_neg c] at h0 h1 h2 h3
    rw [own_Mrem hn ra rf h0 h1 h2 h3]; simp [c]
theorem own_rng {n f : Int32} (hn : 1 ≤ n.toInt ∧ n.toInt ≤ 256) (r : 0 ≤ f.toInt ∧ f.toInt < n.toInt) : 0 ≤ f.toInt ∧ f.toInt < (256 : Int32).toInt := by
  have e : (256 : Int32).toInt = 256 := by decide
  omega
theorem own_at (q k : Nat) (hq : q < 4) (hk : k < 64) : ∃ f : Int32, (0 ≤ f.toInt ∧ f.toInt < (256 : Int32).toInt) ∧ f.toBitVec.toNat % 64 = k ∧ (f / (64 : Int32)).toInt = q := by
  have e : (256 : Int32).toInt = 256 := by decide
  have h1 : (Int32.ofNat (64 * q + k)).toInt = ((64 * q + k : Nat) : Int) := by
    rw [Int32.toInt_ofNat_of_lt (by omega)]
  have r : 0 ≤ (Int32.ofNat (64 * q + k)).toInt ∧ (Int32.ofNat (64 * q + k)).toInt < (256 : Int32).toInt := by rw [h1, e]; omega
  refine ⟨Int32.ofNat (64 * q + k), r, ?_, ?_⟩
  · have := own_nn r.1
    omega
  · have := (own_fr (n := (256 : Int32)) (by decide) r).2.2
    rw [this, h1]; omega
theorem own_zw {v0 v1 v2 v3 : Int64} (h : ∀ f : Int32, (0 ≤ f.toInt ∧ f.toInt < (256 : Int32).toInt) → ¬ own_M v0 v1 v2 v3 f) (q : Nat) (hq : q < 4) (Q : Int32) (hQ : Q.toInt = q) : own_word Q v0 v1 v2 v3 = 0 := by
  rw [← Int64.toBitVec_inj]
  apply BitVec.eq_of_getLsbD_eq
  intro k hk
  obtain ⟨f, r, e1, e2⟩ := own_at q k hq hk
  have h1 := h f r
  have h2 : f / (64 : Int32) = Q := by rw [← Int32.toInt_inj, e2, hQ]
  unfold own_M own_b at h1
  rw [h2, e1] at h1
  simpa using h1
theorem own_zero {v0 v1 v2 v3 : Int64} (h : ∀ f : Int32, (0 ≤ f.toInt ∧ f.toInt < (256 : Int32).toInt) → ¬ own_M v0 v1 v2 v3 f) : v0 = 0 ∧ v1 = 0 ∧ v2 = 0 ∧ v3 = 0 := by
  have g0 := own_zw h 0 (by decide) 0 (by decide)
  have g1 := own_zw h 1 (by decide) 1 (by decide)
  have g2 := own_zw h 2 (by decide) 2 (by decide)
  have g3 := own_zw h 3 (by decide) 3 (by decide)
  rw [own_w0] at g0
  rw [own_w1] at g1
  rw [own_w2] at g2
  rw [own_w3] at g3
  exact ⟨g0, g1, g2, g3⟩
theorem own_beyond {g : Int64 → Int64} {fl q z : Int32} {u v : Int64} {i : Nat} {I : Int32} (hI : I.toInt = i) (hu : u = if fl = (0 : Int32) then v else (if q = I then g v else v)) (hq : q.toInt ≤ z.toInt) (hv : z.toInt < i → v = 0) : z.toInt < i → u = 0 := by
  intro h
  rw [hu]
  have : ¬ q = I := by
    intro e
    rw [e, hI] at hq
    omega
  rw [if_neg this]
  simp [hv h]
theorem own_z4 {n z : Int32} (hn : 1 ≤ n.toInt ∧ n.toInt ≤ 256) (h : z.toInt = (n.toInt - 1) / 64) : z = 0 ∨ z = 1 ∨ z = 2 ∨ z = 3 := by
  have h3 : z.toInt = (0 : Int32).toInt ∨ z.toInt = (1 : Int32).toInt ∨ z.toInt = (2 : Int32).toInt ∨ z.toInt = (3 : Int32).toInt := by simp; omega
  simpa only [Int32.toInt_inj] using h3
theorem own_emp {M : Int32 → Prop} {fa fb fc A B C R : Int32} {v0 v1 v2 v3 : Int64} (hM : ∀ f : Int32, (0 ≤ f.toInt ∧ f.toInt < (256 : Int32).toInt) → (own_M v0 v1 v2 v3 f ↔ (((¬ C = 0 ∧ f = fc) ∨ (¬ B = 0 ∧ f = fb) ∨ (¬ A = 0 ∧ f = fa)) ∧ ¬ (¬ R = 0 ∧ f = fa)))) (ra : 0 ≤ fa.toInt ∧ fa.toInt < (256 : Int32).toInt) (rb : 0 ≤ fb.toInt ∧ fb.toInt < (256 : Int32).toInt) (rc : 0 ≤ fc.toInt ∧ fc.toInt < (256 : Int32).toInt) {ne : Int32} (hne : ne = if (if R = 0 then (¬ A = 0 ∨ ¬ B = 0 ∨ ¬ C = 0) else ((¬ B = 0 ∧ ¬ fb = fa) ∨ (¬ C = 0 ∧ ¬ fc = fa))) then (1 : Int32) else 0) : (if ne = 0 then (1 : Int32) else 0) = if (v0 = 0 ∧ v1 = 0 ∧ v2 = 0 ∧ v3 = 0) then (1 : Int32) else 0 := by
  have key : (v0 = 0 ∧ v1 = 0 ∧ v2 = 0 ∧ v3 = 0) ↔ ¬ (if R = 0 then (¬ A = 0 ∨ ¬ B = 0 ∨ ¬ C = 0) else ((¬ B = 0 ∧ ¬ fb = fa) ∨ (¬ C = 0 ∧ ¬ fc = fa))) := by
    constructor
    · rintro ⟨rfl, rfl, rfl, rfl⟩
      have ma := fun r => (hM fa ra).mpr r
      have mb := fun r => (hM fb rb).mpr r
      have mc := fun r => (hM fc rc).mpr r
      by_cases hR : R = 0
      · rw [if_pos hR]
        rintro (q | q | q)
        · exact own_M0 _ (ma ⟨Or.inr (Or.inr ⟨q, rfl⟩), fun x => x.1 hR⟩)
        · exact own_M0 _ (mb ⟨Or.inr (Or.inl ⟨q, rfl⟩), fun x => x.1 hR⟩)
        · exact own_M0 _ (mc ⟨Or.inl ⟨q, rfl⟩, fun x => x.1 hR⟩)
      · rw [if_neg hR]
        rintro (⟨q, e⟩ | ⟨q, e⟩)
        · exact own_M0 _ (mb ⟨Or.inr (Or.inl ⟨q, rfl⟩), fun x => e x.2⟩)
        · exact own_M0 _ (mc ⟨Or.inl ⟨q, rfl⟩, fun x => e x.2⟩)
    · intro hno
      apply own_zero
      intro f rf hf
      obtain ⟨h1, h2⟩ := (hM f rf).mp hf
      apply hno
      by_cases hR : R = 0
      · rw [if_pos hR]
        rcases h1 with q | q | q
        · exact Or.inr (Or.inr q.1)
        · exact Or.inr (Or.inl q.1)
        · exact Or.inl q.1
      · rw [if_neg hR]
        rcases h1 with q | q | q
        · exact Or.inr ⟨q.1, fun e => h2 ⟨hR, q.2.trans e⟩⟩
        · exact Or.inl ⟨q.1, fun e => h2 ⟨hR, q.2.trans e⟩⟩
        · exact absurd ⟨hR, q.2⟩ h2
  by_cases h : (if R = 0 then (¬ A = 0 ∨ ¬ B = 0 ∨ ¬ C = 0) else ((¬ B = 0 ∧ ¬ fb = fa) ∨ (¬ C = 0 ∧ ¬ fc = fa)))
  · rw [if_pos h] at hne
    rw [if_neg (fun q => (key.mp q) h), hne]; decide
  · rw [if_neg h] at hne
    rw [if_pos (key.mpr h), hne]; decide
def Q0 (Z : State) (h0 : Heap) (n0 : Nat) (v : Option Value) (h : Heap) (L : List Loc) : Prop := v = some (.int (1 : Int32)) ∧ Fr n0 L
theorem pn_rm0 : plainName "com/example/phase7/phase7/metadata/FieldSetIsEmptyPinLaw" = true := by first | (simp [plainName, overriddenIn]; done) | decide +kernel
theorem pd_rm0_0 : parseMethodDescriptor "(I)V" = some ⟨[.int], none⟩ := by decide +kernel
theorem pd_rm0_1 : parseMethodDescriptor "()Z" = some ⟨[], some .boolean⟩ := by decide +kernel
theorem ef_rm0 (m : MethodId) (p1 : Int32) (p2 : Int32) (p3 : Int32) (p4 : Int32) (p5 : Int32) : entryFrame m #[(.int p1), (.int p2), (.int p3), (.int p4), (.int p5)] maxLocals = mkF m 0 #[.val (.int p1), .val (.int p2), .val (.int p3), .val (.int p4), .val (.int p5), .unset, .unset, .unset, .unset, .unset, .unset, .unset, .unset, .unset, .unset] [] := by first | (simp [entryFrame, mkF, argsToLocals, Value.category, maxLocals]; done) | rfl
set_option maxRecDepth 65536 in
set_option maxHeartbeats 40000000 in
theorem rm0 (l : Launch) (Z : State) (a0 : Array Value) (hw : ∀ d ∈ tables_1, d.before a0 Z = true) (ws : List Jvm.Cond) (p1 p2 p3 p4 p5 : Int32) (wN : Addr) (kN : ClassId) (h0 : Heap) (n0 : Nat) (Z0 : n0 ≤ h0.size) (S_N : Sta Z h0 "com/example/phase7/phase7/metadata/FieldSet" "NO_WORDS" "[J" (.ref wN)) (V_N : Arv Z h0 wN kN .long (0 : Int32) [(.long (0 : Int64)), (.long (0 : Int64)), (.long (0 : Int64))] (.long (0 : Int64))) :
    MetFree l x (head1 (Jvm.Cond.code x code maxLocals ret :: ws) room_1) (fun a U => a = #[(.int p1), (.int p2), (.int p3), (.int p4), (.int p5)] ∧ Z.Warmed39 U.vm ∧ U.heap = h0) (fun _ _ _ _ _ => True) (fun _ U o U' => ∃ v L, o = .returned v ∧ Q0 Z h0 n0 v U'.heap L ∧ FrameEnd U o U' L room_1.cells room_1.slots) := by
  refine MetFree.of_bodySF (plainFor_of_name pn_rm0) hisR ?_
  intro p e s m args below meth c s₁ Bd hml0 hP hK
  obtain ⟨rfl, hZ, hh⟩ := hP
  have hx := Bd.exec
  have hby := Bd.bytes
  have hml : c.maxLocals = 15 := hml0
  have hown : s.vm.findClass "com/example/phase7/phase7/metadata/FieldSetIsEmptyPinLaw" = some m.cls := findClass_of_methodNamed Bd.named
  have hnm := (name_of_methodNamed Bd.named Bd.method).1
  have X0 : Stand p l e room_1 s m #[(.int p1), (.int p2), (.int p3), (.int p4), (.int p5)] below meth c s₁ [] 0 0 := Stand.of_body Bd
  have e0 : s₁.heap = h0 := by rw [← hh, Bd.state]; rfl
  have N0 := Fr.nil n0
  have pre0 : ∀ tt, Steps p.tables e below (s₁.setTop (mkF m 0 #[.val (.int p1), .val (.int p2), .val (.int p3), .val (.int p4), .val (.int p5), .unset, .unset, .unset, .unset, .unset, .unset, .unset, .unset, .unset, .unset] [])) tt → Steps p.tables e below (s₁.setTop (entryFrame m #[(.int p1), (.int p2), (.int p3), (.int p4), (.int p5)] maxLocals)) tt := fun tt kt => castTop (ef_rm0 m p1 p2 p3 p4 p5) kt
  obtain ⟨n1, hn1⟩ : ∃ z : Int32, z = ((p1 &&& (255 : Int32)) + (1 : Int32)) := ⟨_, rfl⟩
  have pre1 : ∀ tt, Steps p.tables e below (s₁.setTop (mkF m 7 #[.val (.int p1), .val (.int p2), .val (.int p3), .val (.int p4), .val (.int p5), .unset, .unset, .unset, .unset, .unset, .unset, .unset, .unset, .unset, .unset] [(.int n1)])) tt → Steps p.tables e below (s₁.setTop (entryFrame m #[(.int p1), (.int p2), (.int p3), (.int p4), (.int p5)] maxLocals)) tt := by
    intro tt kt
    refine pre0 tt ?_
    show Steps p.tables e below (s₁.setTop (mkF m 0 #[.val (.int p1), .val (.int p2), .val (.int p3), .val (.int p4), .val (.int p5), .unset, .unset, .unset, .unset, .unset, .unset, .unset, .unset, .unset, .unset] [])) _
    refine XS.iloadN X0.here hx rfl (hb hby at_0) rfl ?_
    show Steps p.tables e below (s₁.setTop (mkF m 1 #[.val (.int p1), .val (.int p2), .val (.int p3), .val (.int p4), .val (.int p5), .unset, .unset, .unset, .unset, .unset, .unset, .unset, .unset, .unset, .unset] [(.int p1)])) _
    refine XS.sipush X0.here hx rfl (hb hby at_1) ?_
    show Steps p.tables e below (s₁.setTop (mkF m 4 #[.val (.int p1), .val (.int p2), .val (.int p3), .val (.int p4), .val (.int p5), .unset, .unset, .unset, .unset, .unset, .unset, .unset, .unset, .unset, .unset] [(.int (255 : Int32)), (.int p1)])) _
    refine XS.iand X0.here hx rfl (hb hby at_4) rfl ?_
    show Steps p.tables e below (s₁.setTop (mkF m 5 #[.val (.int p1), .val (.int p2), .val (.int p3), .val (.int p4), .val (.int p5), .unset, .unset, .unset, .unset, .unset, .unset, .unset, .unset, .unset, .unset] [(.int (p1 &&& (255 : Int32)))])) _
    refine XS.iconst X0.here hx rfl (hb hby at_5) ?_
    show Steps p.tables e below (s₁.setTop (mkF m 6 #[.val (.int p1), .val (.int p2), .val (.int p3), .val (.int p4), .val (.int p5), .unset, .unset, .unset, .unset, .unset, .unset, .unset, .unset, .unset, .unset] [(.int (1 : Int32)), (.int (p1 &&& (255 : Int32)))])) _
    refine XS.iadd X0.here hx rfl (hb hby at_6) rfl ?_
    show Steps p.tables e below (s₁.setTop (mkF m 7 #[.val (.int p1), .val (.int p2), .val (.int p3), .val (.int p4), .val (.int p5), .unset, .unset, .unset, .unset, .unset, .unset, .unset, .unset, .unset, .unset] [(.int ((p1 &&& (255 : Int32)) + (1 : Int32)))])) _
    rw [← hn1]
    exact kt
  have hn := own_n256 p1
  rw [← hn1] at hn
  clear hn1
  have hnz := own_nz hn
  have hnp : 0 < n1.toInt := by omega
  obtain ⟨xa, hxa⟩ : ∃ z : Int32, z = ((p2 &&& (2147483647 : Int32)) % n1) := ⟨_, rfl⟩
  have pre2 : ∀ tt, Steps p.tables e below (s₁.setTop (mkF m 16 #[.val (.int p1), .val (.int p2), .val (.int p3), .val (.int p4), .val (.int p5), .val (.int n1), .unset, .unset, .unset, .unset, .unset, .unset, .unset, .unset, .unset] [(.int xa)])) tt → Steps p.tables e below (s₁.setTop (entryFrame m #[(.int p1), (.int p2), (.int p3), (.int p4), (.int p5)] maxLocals)) tt := by
    intro tt kt
    refine pre1 tt ?_
    show Steps p.tables e below (s₁.setTop (mkF m 7 #[.val (.int p1), .val (.int p2), .val (.int p3), .val (.int p4), .val (.int p5), .unset, .unset, .unset, .unset, .unset, .unset, .unset, .unset, .unset, .unset] [(.int n1)])) _
    refine XS.istore X0.here hx rfl (hb hby at_7) rfl (l' := #[.val (.int p1), .val (.int p2), .val (.int p3), .val (.int p4), .val (.int p5), .val (.int n1), .unset, .unset, .unset, .unset, .unset, .unset, .unset, .unset, .unset]) rfl ?_
    show Steps p.tables e below (s₁.setTop (mkF m 9 #[.val (.int p1), .val (.int p2), .val (.int p3), .val (.int p4), .val (.int p5), .val (.int n1), .unset, .unset, .unset, .unset, .unset, .unset, .unset, .unset, .unset] [])) _
    refine XS.iloadN X0.here hx rfl (hb hby at_9) rfl ?_
    show Steps p.tables e below (s₁.setTop (mkF m 10 #[.val (.int p1), .val (.int p2), .val (.int p3), .val (.int p4), .val (.int p5), .val (.int n1), .unset, .unset, .unset, .unset, .unset, .unset, .unset, .unset, .unset] [(.int p2)])) _
    refine X0.ldcInt hx hown (mvT hZ (hw _ (List.mem_of_getElem? (i := 0) rfl))) (g := (mkF m 10 #[.val (.int p1), .val (.int p2), .val (.int p3), .val (.int p4), .val (.int p5), .val (.int n1), .unset, .unset, .unset, .unset, .unset, .unset, .unset, .unset, .unset] [(.int p2)])) rfl (hb hby at_10) _ ?_
    show Steps p.tables e below (s₁.setTop (mkF m 12 #[.val (.int p1), .val (.int p2), .val (.int p3), .val (.int p4), .val (.int p5), .val (.int n1), .unset, .unset, .unset, .unset, .unset, .unset, .unset, .unset, .unset] [(.int (2147483647 : Int32)), (.int p2)])) _
    refine XS.iand X0.here hx rfl (hb hby at_12) rfl ?_
    show Steps p.tables e below (s₁.setTop (mkF m 13 #[.val (.int p1), .val (.int p2), .val (.int p3), .val (.int p4), .val (.int p5), .val (.int n1), .unset, .unset, .unset, .unset, .unset, .unset, .unset, .unset, .unset] [(.int (p2 &&& (2147483647 : Int32)))])) _
    refine XS.iload X0.here hx rfl (hb hby at_13) rfl ?_
    show Steps p.tables e below (s₁.setTop (mkF m 15 #[.val (.int p1), .val (.int p2), .val (.int p3), .val (.int p4), .val (.int p5), .val (.int n1), .unset, .unset, .unset, .unset, .unset, .unset, .unset, .unset, .unset] [(.int n1), (.int (p2 &&& (2147483647 : Int32)))])) _
    refine iremM (g := (mkF m 15 #[.val (.int p1), .val (.int p2), .val (.int p3), .val (.int p4), .val (.int p5), .val (.int n1), .unset, .unset, .unset, .unset, .unset, .unset, .unset, .unset, .unset] [(.int n1), (.int (p2 &&& (2147483647 : Int32)))])) X0 hx rfl (hb hby at_15) rfl hnz ?_
    show Steps p.tables e below (s₁.setTop (mkF m 16 #[.val (.int p1), .val (.int p2), .val (.int p3), .val (.int p4), .val (.int p5), .val (.int n1), .unset, .unset, .unset, .unset, .unset, .unset, .unset, .unset, .unset] [(.int ((p2 &&& (2147483647 : Int32)) % n1))])) _
    rw [← hxa]
    exact kt
  have r_xa := own_rem p2 n1 hnp
  rw [← hxa] at r_xa
  clear hxa
  obtain ⟨xb, hxb⟩ : ∃ z : Int32, z = ((p3 &&& (2147483647 : Int32)) % n1) := ⟨_, rfl⟩
  have pre3 : ∀ tt, Steps p.tables e below (s₁.setTop (mkF m 25 #[.val (.int p1), .val (.int p2), .val (.int p3), .val (.int p4), .val (.int p5), .val (.int n1), .val (.int xa), .unset, .unset, .unset, .unset, .unset, .unset, .unset, .unset] [(.int xb)])) tt → Steps p.tables e below (s₁.setTop (entryFrame m #[(.int p1), (.int p2), (.int p3), (.int p4), (.int p5)] maxLocals)) tt := by
    intro tt kt
    refine pre2 tt ?_
    show Steps p.tables e below (s₁.setTop (mkF m 16 #[.val (.int p1), .val (.int p2), .val (.int p3), .val (.int p4), .val (.int p5), .val (.int n1), .unset, .unset, .unset, .unset, .unset, .unset, .unset, .unset, .unset] [(.int xa)])) _
    refine XS.istore X0.here hx rfl (hb hby at_16) rfl (l' := #[.val (.int p1), .val (.int p2), .val (.int p3), .val (.int p4), .val (.int p5), .val (.int n1), .val (.int xa), .unset, .unset, .unset, .unset, .unset, .unset, .unset, .unset]) rfl ?_
    show Steps p.tables e below (s₁.setTop (mkF m 18 #[.val (.int p1), .val (.int p2), .val (.int p3), .val (.int p4), .val (.int p5), .val (.int n1), .val (.int xa), .unset, .unset, .unset, .unset, .unset, .unset, .unset, .unset] [])) _
    refine XS.iloadN X0.here hx rfl (hb hby at_18) rfl ?_
    show Steps p.tables e below (s₁.setTop (mkF m 19 #[.val (.int p1), .val (.int p2), .val (.int p3), .val (.int p4), .val (.int p5), .val (.int n1), .val (.int xa), .unset, .unset, .unset, .unset, .unset, .unset, .unset, .unset] [(.int p3)])) _
    refine X0.ldcInt hx hown (mvT hZ (hw _ (List.mem_of_getElem? (i := 0) rfl))) (g := (mkF m 19 #[.val (.int p1), .val (.int p2), .val (.int p3), .val (.int p4), .val (.int p5), .val (.int n1), .val (.int xa), .unset, .unset, .unset, .unset, .unset, .unset, .unset, .unset] [(.int p3)])) rfl (hb hby at_19) _ ?_
    show Steps p.tables e below (s₁.setTop (mkF m 21 #[.val (.int p1), .val (.int p2), .val (.int p3), .val (.int p4), .val (.int p5), .val (.int n1), .val (.int xa), .unset, .unset, .unset, .unset, .unset, .unset, .unset, .unset] [(.int (2147483647 : Int32)), (.int p3)])) _
    refine XS.iand X0.here hx rfl (hb hby at_21) rfl ?_
    show Steps p.tables e below (s₁.setTop (mkF m 22 #[.val (.int p1), .val (.int p2), .val (.int p3), .val (.int p4), .val (.int p5), .val (.int n1), .val (.int xa), .unset, .unset, .unset, .unset, .unset, .unset, .unset, .unset] [(.int (p3 &&& (2147483647 : Int32)))])) _
    refine XS.iload X0.here hx rfl (hb hby at_22) rfl ?_
    show Steps p.tables e below (s₁.setTop (mkF m 24 #[.val (.int p1), .val (.int p2), .val (.int p3), .val (.int p4), .val (.int p5), .val (.int n1), .val (.int xa), .unset, .unset, .unset, .unset, .unset, .unset, .unset, .unset] [(.int n1), (.int (p3 &&& (2147483647 : Int32)))])) _
    refine iremM (g := (mkF m 24 #[.val (.int p1), .val (.int p2), .val (.int p3), .val (.int p4), .val (.int p5), .val (.int n1), .val (.int xa), .unset, .unset, .unset, .unset, .unset, .unset, .unset, .unset] [(.int n1), (.int (p3 &&& (2147483647 : Int32)))])) X0 hx rfl (hb hby at_24) rfl hnz ?_
    show Steps p.tables e below (s₁.setTop (mkF m 25 #[.val (.int p1), .val (.int p2), .val (.int p3), .val (.int p4), .val (.int p5), .val (.int n1), .val (.int xa), .unset, .unset, .unset, .unset, .unset, .unset, .unset, .unset] [(.int ((p3 &&& (2147483647 : Int32)) % n1))])) _
    rw [← hxb]
    exact kt
  have r_xb := own_rem p3 n1 hnp
  rw [← hxb] at r_xb
  clear hxb
  obtain ⟨xc, hxc⟩ : ∃ z : Int32, z = ((p4 &&& (2147483647 : Int32)) % n1) := ⟨_, rfl⟩
  have pre4 : ∀ tt, Steps p.tables e below (s₁.setTop (mkF m 34 #[.val (.int p1), .val (.int p2), .val (.int p3), .val (.int p4), .val (.int p5), .val (.int n1), .val (.int xa), .val (.int xb), .unset, .unset, .unset, .unset, .unset, .unset, .unset] [(.int xc)])) tt → Steps p.tables e below (s₁.setTop (entryFrame m #[(.int p1), (.int p2), (.int p3), (.int p4), (.int p5)] maxLocals)) tt := by
    intro tt kt
    refine pre3 tt ?_
    show Steps p.tables e below (s₁.setTop (mkF m 25 #[.val (.int p1), .val (.int p2), .val (.int p3), .val (.int p4), .val (.int p5), .val (.int n1), .val (.int xa), .unset, .unset, .unset, .unset, .unset, .unset, .unset, .unset] [(.int xb)])) _
    refine XS.istore X0.here hx rfl (hb hby at_25) rfl (l' := #[.val (.int p1), .val (.int p2), .val (.int p3), .val (.int p4), .val (.int p5), .val (.int n1), .val (.int xa), .val (.int xb), .unset, .unset, .unset, .unset, .unset, .unset, .unset]) rfl ?_
    show Steps p.tables e below (s₁.setTop (mkF m 27 #[.val (.int p1), .val (.int p2), .val (.int p3), .val (.int p4), .val (.int p5), .val (.int n1), .val (.int xa), .val (.int xb), .unset, .unset, .unset, .unset, .unset, .unset, .unset] [])) _
    refine XS.iloadN X0.here hx rfl (hb hby at_27) rfl ?_
    show Steps p.tables e below (s₁.setTop (mkF m 28 #[.val (.int p1), .val (.int p2), .val (.int p3), .val (.int p4), .val (.int p5), .val (.int n1), .val (.int xa), .val (.int xb), .unset, .unset, .unset, .unset, .unset, .unset, .unset] [(.int p4)])) _
    refine X0.ldcInt hx hown (mvT hZ (hw _ (List.mem_of_getElem? (i := 0) rfl))) (g := (mkF m 28 #[.val (.int p1), .val (.int p2), .val (.int p3), .val (.int p4), .val (.int p5), .val (.int n1), .val (.int xa), .val (.int xb), .unset, .unset, .unset, .unset, .unset, .unset, .unset] [(.int p4)])) rfl (hb hby at_28) _ ?_
    show Steps p.tables e below (s₁.setTop (mkF m 30 #[.val (.int p1), .val (.int p2), .val (.int p3), .val (.int p4), .val (.int p5), .val (.int n1), .val (.int xa), .val (.int xb), .unset, .unset, .unset, .unset, .unset, .unset, .unset] [(.int (2147483647 : Int32)), (.int p4)])) _
    refine XS.iand X0.here hx rfl (hb hby at_30) rfl ?_
    show Steps p.tables e below (s₁.setTop (mkF m 31 #[.val (.int p1), .val (.int p2), .val (.int p3), .val (.int p4), .val (.int p5), .val (.int n1), .val (.int xa), .val (.int xb), .unset, .unset, .unset, .unset, .unset, .unset, .unset] [(.int (p4 &&& (2147483647 : Int32)))])) _
    refine XS.iload X0.here hx rfl (hb hby at_31) rfl ?_
    show Steps p.tables e below (s₁.setTop (mkF m 33 #[.val (.int p1), .val (.int p2), .val (.int p3), .val (.int p4), .val (.int p5), .val (.int n1), .val (.int xa), .val (.int xb), .unset, .unset, .unset, .unset, .unset, .unset, .unset] [(.int n1), (.int (p4 &&& (2147483647 : Int32)))])) _
    refine iremM (g := (mkF m 33 #[.val (.int p1), .val (.int p2), .val (.int p3), .val (.int p4), .val (.int p5), .val (.int n1), .val (.int xa), .val (.int xb), .unset, .unset, .unset, .unset, .unset, .unset, .unset] [(.int n1), (.int (p4 &&& (2147483647 : Int32)))])) X0 hx rfl (hb hby at_33) rfl hnz ?_
    show Steps p.tables e below (s₁.setTop (mkF m 34 #[.val (.int p1), .val (.int p2), .val (.int p3), .val (.int p4), .val (.int p5), .val (.int n1), .val (.int xa), .val (.int xb), .unset, .unset, .unset, .unset, .unset, .unset, .unset] [(.int ((p4 &&& (2147483647 : Int32)) % n1))])) _
    rw [← hxc]
    exact kt
  have r_xc := own_rem p4 n1 hnp
  rw [← hxc] at r_xc
  clear hxc
  obtain ⟨fA, hfA⟩ : ∃ z : Int32, z = if (p5 &&& (1 : Int32)) = (0 : Int32) then (0 : Int32) else 1 := ⟨_, rfl⟩
  have pre5 : ∀ tt, Steps p.tables e below (s₁.setTop (mkF m 36 #[.val (.int p1), .val (.int p2), .val (.int p3), .val (.int p4), .val (.int p5), .val (.int n1), .val (.int xa), .val (.int xb), .val (.int xc), .unset, .unset, .unset, .unset, .unset, .unset] [])) tt → Steps p.tables e below (s₁.setTop (entryFrame m #[(.int p1), (.int p2), (.int p3), (.int p4), (.int p5)] maxLocals)) tt := by
    intro tt kt
    refine pre4 tt ?_
    show Steps p.tables e below (s₁.setTop (mkF m 34 #[.val (.int p1), .val (.int p2), .val (.int p3), .val (.int p4), .val (.int p5), .val (.int n1), .val (.int xa), .val (.int xb), .unset, .unset, .unset, .unset, .unset, .unset, .unset] [(.int xc)])) _
    refine XS.istore X0.here hx rfl (hb hby at_34) rfl (l' := #[.val (.int p1), .val (.int p2), .val (.int p3), .val (.int p4), .val (.int p5), .val (.int n1), .val (.int xa), .val (.int xb), .val (.int xc), .unset, .unset, .unset, .unset, .unset, .unset]) rfl ?_
    exact kt
  obtain ⟨T6, L6, N6, X6, e6, st6⟩ : ∃ (T' : State) (L' : List Loc), Fr n0 L' ∧ Stand p l e room_1 s m #[(.int p1), (.int p2), (.int p3), (.int p4), (.int p5)] below meth c T' L' 0 0 ∧ T'.heap = h0 ∧ ∀ tt, Steps p.tables e below (T'.setTop (mkF m 50 #[.val (.int p1), .val (.int p2), .val (.int p3), .val (.int p4), .val (.int p5), .val (.int n1), .val (.int xa), .val (.int xb), .val (.int xc), .val (.int fA), .unset, .unset, .unset, .unset, .unset] [])) tt → Steps p.tables e below (s₁.setTop (mkF m 36 #[.val (.int p1), .val (.int p2), .val (.int p3), .val (.int p4), .val (.int p5), .val (.int n1), .val (.int xa), .val (.int xb), .val (.int xc), .unset, .unset, .unset, .unset, .unset, .unset] [])) tt := by
    have pid6 : ∀ tt, Steps p.tables e below (s₁.setTop (mkF m 36 #[.val (.int p1), .val (.int p2), .val (.int p3), .val (.int p4), .val (.int p5), .val (.int n1), .val (.int xa), .val (.int xb), .val (.int xc), .unset, .unset, .unset, .unset, .unset, .unset] [])) tt → Steps p.tables e below (s₁.setTop (mkF m 36 #[.val (.int p1), .val (.int p2), .val (.int p3), .val (.int p4), .val (.int p5), .val (.int n1), .val (.int xa), .val (.int xb), .val (.int xc), .unset, .unset, .unset, .unset, .unset, .unset] [])) tt := fun tt kt => kt
    have pre7 : ∀ tt, Steps p.tables e below (s₁.setTop (mkF m 40 #[.val (.int p1), .val (.int p2), .val (.int p3), .val (.int p4), .val (.int p5), .val (.int n1), .val (.int xa), .val (.int xb), .val (.int xc), .unset, .unset, .unset, .unset, .unset, .unset] [(.int (p5 &&& (1 : Int32)))])) tt → Steps p.tables e below (s₁.setTop (mkF m 36 #[.val (.int p1), .val (.int p2), .val (.int p3), .val (.int p4), .val (.int p5), .val (.int n1), .val (.int xa), .val (.int xb), .val (.int xc), .unset, .unset, .unset, .unset, .unset, .unset] [])) tt := by
      intro tt kt
      refine pid6 tt ?_
      show Steps p.tables e below (s₁.setTop (mkF m 36 #[.val (.int p1), .val (.int p2), .val (.int p3), .val (.int p4), .val (.int p5), .val (.int n1), .val (.int xa), .val (.int xb), .val (.int xc), .unset, .unset, .unset, .unset, .unset, .unset] [])) _
      refine XS.iload X0.here hx rfl (hb hby at_36) rfl ?_
      show Steps p.tables e below (s₁.setTop (mkF m 38 #[.val (.int p1), .val (.int p2), .val (.int p3), .val (.int p4), .val (.int p5), .val (.int n1), .val (.int xa), .val (.int xb), .val (.int xc), .unset, .unset, .unset, .unset, .unset, .unset] [(.int p5)])) _
      refine XS.iconst X0.here hx rfl (hb hby at_38) ?_
      show Steps p.tables e below (s₁.setTop (mkF m 39 #[.val (.int p1), .val (.int p2), .val (.int p3), .val (.int p4), .val (.int p5), .val (.int n1), .val (.int xa), .val (.int xb), .val (.int xc), .unset, .unset, .unset, .unset, .unset, .unset] [(.int (1 : Int32)), (.int p5)])) _
      refine XS.iand X0.here hx rfl (hb hby at_39) rfl ?_
      exact kt
    by_cases c40_8 : (p5 &&& (1 : Int32)) = (0 : Int32)
    · have pre9 : ∀ tt, Steps p.tables e below (s₁.setTop (mkF m 50 #[.val (.int p1), .val (.int p2), .val (.int p3), .val (.int p4), .val (.int p5), .val (.int n1), .val (.int xa), .val (.int xb), .val (.int xc), .val (.int (0 : Int32)), .unset, .unset, .unset, .unset, .unset] [])) tt → Steps p.tables e below (s₁.setTop (mkF m 36 #[.val (.int p1), .val (.int p2), .val (.int p3), .val (.int p4), .val (.int p5), .val (.int n1), .val (.int xa), .val (.int xb), .val (.int xc), .unset, .unset, .unset, .unset, .unset, .unset] [])) tt := by
        intro tt kt
        refine pre7 tt ?_
        show Steps p.tables e below (s₁.setTop (mkF m 40 #[.val (.int p1), .val (.int p2), .val (.int p3), .val (.int p4), .val (.int p5), .val (.int n1), .val (.int xa), .val (.int xb), .val (.int xc), .unset, .unset, .unset, .unset, .unset, .unset] [(.int (p5 &&& (1 : Int32)))])) _
        refine XS.ifYes X0.here hx rfl (pc0 := 40) (pc' := 47) rfl (hb hby at_40) rfl ((if0 _ _).trans (teq c40_8).1) (by decide) (by decide) ?_
        show Steps p.tables e below (s₁.setTop (mkF m 47 #[.val (.int p1), .val (.int p2), .val (.int p3), .val (.int p4), .val (.int p5), .val (.int n1), .val (.int xa), .val (.int xb), .val (.int xc), .unset, .unset, .unset, .unset, .unset, .unset] [])) _
        refine XS.iconst X0.here hx rfl (hb hby at_47) ?_
        show Steps p.tables e below (s₁.setTop (mkF m 48 #[.val (.int p1), .val (.int p2), .val (.int p3), .val (.int p4), .val (.int p5), .val (.int n1), .val (.int xa), .val (.int xb), .val (.int xc), .unset, .unset, .unset, .unset, .unset, .unset] [(.int (0 : Int32))])) _
        refine XS.istore X0.here hx rfl (hb hby at_48) rfl (l' := #[.val (.int p1), .val (.int p2), .val (.int p3), .val (.int p4), .val (.int p5), .val (.int n1), .val (.int xa), .val (.int xb), .val (.int xc), .val (.int (0 : Int32)), .unset, .unset, .unset, .unset, .unset]) rfl ?_
        exact kt
      refine ⟨s₁, _, N0, X0, e0, fun tt kt => pre9 tt ?_⟩
      rw [hfA, if_pos c40_8] at kt
      exact kt
    · have pre10 : ∀ tt, Steps p.tables e below (s₁.setTop (mkF m 50 #[.val (.int p1), .val (.int p2), .val (.int p3), .val (.int p4), .val (.int p5), .val (.int n1), .val (.int xa), .val (.int xb), .val (.int xc), .val (.int (1 : Int32)), .unset, .unset, .unset, .unset, .unset] [])) tt → Steps p.tables e below (s₁.setTop (mkF m 36 #[.val (.int p1), .val (.int p2), .val (.int p3), .val (.int p4), .val (.int p5), .val (.int n1), .val (.int xa), .val (.int xb), .val (.int xc), .unset, .unset, .unset, .unset, .unset, .unset] [])) tt := by
        intro tt kt
        refine pre7 tt ?_
        show Steps p.tables e below (s₁.setTop (mkF m 40 #[.val (.int p1), .val (.int p2), .val (.int p3), .val (.int p4), .val (.int p5), .val (.int n1), .val (.int xa), .val (.int xb), .val (.int xc), .unset, .unset, .unset, .unset, .unset, .unset] [(.int (p5 &&& (1 : Int32)))])) _
        refine XS.ifNo X0.here hx rfl (hb hby at_40) rfl ((if0 _ _).trans (feq c40_8).1) ?_
        show Steps p.tables e below (s₁.setTop (mkF m 43 #[.val (.int p1), .val (.int p2), .val (.int p3), .val (.int p4), .val (.int p5), .val (.int n1), .val (.int xa), .val (.int xb), .val (.int xc), .unset, .unset, .unset, .unset, .unset, .unset] [])) _
        refine XS.iconst X0.here hx rfl (hb hby at_43) ?_
        show Steps p.tables e below (s₁.setTop (mkF m 44 #[.val (.int p1), .val (.int p2), .val (.int p3), .val (.int p4), .val (.int p5), .val (.int n1), .val (.int xa), .val (.int xb), .val (.int xc), .unset, .unset, .unset, .unset, .unset, .unset] [(.int (1 : Int32))])) _
        refine XS.goto X0.here hx rfl (pc0 := 44) (pc' := 48) rfl (hb hby at_44) (by decide) (by decide) ?_
        show Steps p.tables e below (s₁.setTop (mkF m 48 #[.val (.int p1), .val (.int p2), .val (.int p3), .val (.int p4), .val (.int p5), .val (.int n1), .val (.int xa), .val (.int xb), .val (.int xc), .unset, .unset, .unset, .unset, .unset, .unset] [(.int (1 : Int32))])) _
        refine XS.istore X0.here hx rfl (hb hby at_48) rfl (l' := #[.val (.int p1), .val (.int p2), .val (.int p3), .val (.int p4), .val (.int p5), .val (.int n1), .val (.int xa), .val (.int xb), .val (.int xc), .val (.int (1 : Int32)), .unset, .unset, .unset, .unset, .unset]) rfl ?_
        exact kt
      refine ⟨s₁, _, N0, X0, e0, fun tt kt => pre10 tt ?_⟩
      rw [hfA, if_neg c40_8] at kt
      exact kt
  have pre11 : ∀ tt, Steps p.tables e below (T6.setTop (mkF m 50 #[.val (.int p1), .val (.int p2), .val (.int p3), .val (.int p4), .val (.int p5), .val (.int n1), .val (.int xa), .val (.int xb), .val (.int xc), .val (.int fA), .unset, .unset, .unset, .unset, .unset] [])) tt → Steps p.tables e below (s₁.setTop (entryFrame m #[(.int p1), (.int p2), (.int p3), (.int p4), (.int p5)] maxLocals)) tt := by
    intro tt kt
    refine pre5 tt ?_
    show Steps p.tables e below (s₁.setTop (mkF m 36 #[.val (.int p1), .val (.int p2), .val (.int p3), .val (.int p4), .val (.int p5), .val (.int n1), .val (.int xa), .val (.int xb), .val (.int xc), .unset, .unset, .unset, .unset, .unset, .unset] [])) _
    refine st6 _ ?_
    exact kt
  clear hfA
  obtain ⟨fB, hfB⟩ : ∃ z : Int32, z = if (p5 &&& (2 : Int32)) = (0 : Int32) then (0 : Int32) else 1 := ⟨_, rfl⟩
  obtain ⟨T12, L12, N12, X12, e12, st12⟩ : ∃ (T' : State) (L' : List Loc), Fr n0 L' ∧ Stand p l e room_1 s m #[(.int p1), (.int p2), (.int p3), (.int p4), (.int p5)] below meth c T' L' 0 0 ∧ T'.heap = h0 ∧ ∀ tt, Steps p.tables e below (T'.setTop (mkF m 64 #[.val (.int p1), .val (.int p2), .val (.int p3), .val (.int p4), .val (.int p5), .val (.int n1), .val (.int xa), .val (.int xb), .val (.int xc), .val (.int fA), .val (.int fB), .unset, .unset, .unset, .unset] [])) tt → Steps p.tables e below (T6.setTop (mkF m 50 #[.val (.int p1), .val (.int p2), .val (.int p3), .val (.int p4), .val (.int p5), .val (.int n1), .val (.int xa), .val (.int xb), .val (.int xc), .val (.int fA), .unset, .unset, .unset, .unset, .unset] [])) tt := by
    have pid12 : ∀ tt, Steps p.tables e below (T6.setTop (mkF m 50 #[.val (.int p1), .val (.int p2), .val (.int p3), .val (.int p4), .val (.int p5), .val (.int n1), .val (.int xa), .val (.int xb), .val (.int xc), .val (.int fA), .unset, .unset, .unset, .unset, .unset] [])) tt → Steps p.tables e below (T6.setTop (mkF m 50 #[.val (.int p1), .val (.int p2), .val (.int p3), .val (.int p4), .val (.int p5), .val (.int n1), .val (.int xa), .val (.int xb), .val (.int xc), .val (.int fA), .unset, .unset, .unset, .unset, .unset] [])) tt := fun tt kt => kt
    have pre13 : ∀ tt, Steps p.tables e below (T6.setTop (mkF m 54 #[.val (.int p1), .val (.int p2), .val (.int p3), .val (.int p4), .val (.int p5), .val (.int n1), .val (.int xa), .val (.int xb), .val (.int xc), .val (.int fA), .unset, .unset, .unset, .unset, .unset] [(.int (p5 &&& (2 : Int32)))])) tt → Steps p.tables e below (T6.setTop (mkF m 50 #[.val (.int p1), .val (.int p2), .val (.int p3), .val (.int p4), .val (.int p5), .val (.int n1), .val (.int xa), .val (.int xb), .val (.int xc), .val (.int fA), .unset, .unset, .unset, .unset, .unset] [])) tt := by
      intro tt kt
      refine pid12 tt ?_
      show Steps p.tables e below (T6.setTop (mkF m 50 #[.val (.int p1), .val (.int p2), .val (.int p3), .val (.int p4), .val (.int p5), .val (.int n1), .val (.int xa), .val (.int xb), .val (.int xc), .val (.int fA), .unset, .unset, .unset, .unset, .unset] [])) _
      refine XS.iload X6.here hx rfl (hb hby at_50) rfl ?_
      show Steps p.tables e below (T6.setTop (mkF m 52 #[.val (.int p1), .val (.int p2), .val (.int p3), .val (.int p4), .val (.int p5), .val (.int n1), .val (.int xa), .val (.int xb), .val (.int xc), .val (.int fA), .unset, .unset, .unset, .unset, .unset] [(.int p5)])) _
      refine XS.iconst X6.here hx rfl (hb hby at_52) ?_
      show Steps p.tables e below (T6.setTop (mkF m 53 #[.val (.int p1), .val (.int p2), .val (.int p3), .val (.int p4), .val (.int p5), .val (.int n1), .val (.int xa), .val (.int xb), .val (.int xc), .val (.int fA), .unset, .unset, .unset, .unset, .unset] [(.int (2 : Int32)), (.int p5)])) _
      refine XS.iand X6.here hx rfl (hb hby at_53) rfl ?_
      exact kt
    by_cases c54_14 : (p5 &&& (2 : Int32)) = (0 : Int32)
    · have pre15 : ∀ tt, Steps p.tables e below (T6.setTop (mkF m 64 #[.val (.int p1), .val (.int p2), .val (.int p3), .val (.int p4), .val (.int p5), .val (.int n1), .val (.int xa), .val (.int xb), .val (.int xc), .val (.int fA), .val (.int (0 : Int32)), .unset, .unset, .unset, .unset] [])) tt → Steps p.tables e below (T6.setTop (mkF m 50 #[.val (.int p1), .val (.int p2), .val (.int p3), .val (.int p4), .val (.int p5), .val (.int n1), .val (.int xa), .val (.int xb), .val (.int xc), .val (.int fA), .unset, .unset, .unset, .unset, .unset] [])) tt := by
        intro tt kt
        refine pre13 tt ?_
        show Steps p.tables e below (T6.setTop (mkF m 54 #[.val (.int p1), .val (.int p2), .val (.int p3), .val (.int p4), .val (.int p5), .val (.int n1), .val (.int xa), .val (.int xb), .val (.int xc), .val (.int fA), .unset, .unset, .unset, .unset, .unset] [(.int (p5 &&& (2 : Int32)))])) _
        refine XS.ifYes X6.here hx rfl (pc0 := 54) (pc' := 61) rfl (hb hby at_54) rfl ((if0 _ _).trans (teq c54_14).1) (by decide) (by decide) ?_
        show Steps p.tables e below (T6.setTop (mkF m 61 #[.val (.int p1), .val (.int p2), .val (.int p3), .val (.int p4), .val (.int p5), .val (.int n1), .val (.int xa), .val (.int xb), .val (.int xc), .val (.int fA), .unset, .unset, .unset, .unset, .unset] [])) _
        refine XS.iconst X6.here hx rfl (hb hby at_61) ?_
        show Steps p.tables e below (T6.setTop (mkF m 62 #[.val (.int p1), .val (.int p2), .val (.int p3), .val (.int p4), .val (.int p5), .val (.int n1), .val (.int xa), .val (.int xb), .val (.int xc), .val (.int fA), .unset, .unset, .unset, .unset, .unset] [(.int (0 : Int32))])) _
        refine XS.istore X6.here hx rfl (hb hby at_62) rfl (l' := #[.val (.int p1), .val (.int p2), .val (.int p3), .val (.int p4), .val (.int p5), .val (.int n1), .val (.int xa), .val (.int xb), .val (.int xc), .val (.int fA), .val (.int (0 : Int32)), .unset, .unset, .unset, .unset]) rfl ?_
        exact kt
      refine ⟨T6, _, N6, X6, e6, fun tt kt => pre15 tt ?_⟩
      rw [hfB, if_pos c54_14] at kt
      exact kt
    · have pre16 : ∀ tt, Steps p.tables e below (T6.setTop (mkF m 64 #[.val (.int p1), .val (.int p2), .val (.int p3), .val (.int p4), .val (.int p5), .val (.int n1), .val (.int xa), .val (.int xb), .val (.int xc), .val (.int fA), .val (.int (1 : Int32)), .unset, .unset, .unset, .unset] [])) tt → Steps p.tables e below (T6.setTop (mkF m 50 #[.val (.int p1), .val (.int p2), .val (.int p3), .val (.int p4), .val (.int p5), .val (.int n1), .val (.int xa), .val (.int xb), .val (.int xc), .val (.int fA), .unset, .unset, .unset, .unset, .unset] [])) tt := by
        intro tt kt
        refine pre13 tt ?_
        show Steps p.tables e below (T6.setTop (mkF m 54 #[.val (.int p1), .val (.int p2), .val (.int p3), .val (.int p4), .val (.int p5), .val (.int n1), .val (.int xa), .val (.int xb), .val (.int xc), .val (.int fA), .unset, .unset, .unset, .unset, .unset] [(.int (p5 &&& (2 : Int32)))])) _
        refine XS.ifNo X6.here hx rfl (hb hby at_54) rfl ((if0 _ _).trans (feq c54_14).1) ?_
        show Steps p.tables e below (T6.setTop (mkF m 57 #[.val (.int p1), .val (.int p2), .val (.int p3), .val (.int p4), .val (.int p5), .val (.int n1), .val (.int xa), .val (.int xb), .val (.int xc), .val (.int fA), .unset, .unset, .unset, .unset, .unset] [])) _
        refine XS.iconst X6.here hx rfl (hb hby at_57) ?_
        show Steps p.tables e below (T6.setTop (mkF m 58 #[.val (.int p1), .val (.int p2), .val (.int p3), .val (.int p4), .val (.int p5), .val (.int n1), .val (.int xa), .val (.int xb), .val (.int xc), .val (.int fA), .unset, .unset, .unset, .unset, .unset] [(.int (1 : Int32))])) _
        refine XS.goto X6.here hx rfl (pc0 := 58) (pc' := 62) rfl (hb hby at_58) (by decide) (by decide) ?_
        show Steps p.tables e below (T6.setTop (mkF m 62 #[.val (.int p1), .val (.int p2), .val (.int p3), .val (.int p4), .val (.int p5), .val (.int n1), .val (.int xa), .val (.int xb), .val (.int xc), .val (.int fA), .unset, .unset, .unset, .unset, .unset] [(.int (1 : Int32))])) _
        refine XS.istore X6.here hx rfl (hb hby at_62) rfl (l' := #[.val (.int p1), .val (.int p2), .val (.int p3), .val (.int p4), .val (.int p5), .val (.int n1), .val (.int xa), .val (.int xb), .val (.int xc), .val (.int fA), .val (.int (1 : Int32)), .unset, .unset, .unset, .unset]) rfl ?_
        exact kt
      refine ⟨T6, _, N6, X6, e6, fun tt kt => pre16 tt ?_⟩
      rw [hfB, if_neg c54_14] at kt
      exact kt
  have pre17 : ∀ tt, Steps p.tables e below (T12.setTop (mkF m 64 #[.val (.int p1), .val (.int p2), .val (.int p3), .val (.int p4), .val (.int p5), .val (.int n1), .val (.int xa), .val (.int xb), .val (.int xc), .val (.int fA), .val (.int fB), .unset, .unset, .unset, .unset] [])) tt → Steps p.tables e below (s₁.setTop (entryFrame m #[(.int p1), (.int p2), (.int p3), (.int p4), (.int p5)] maxLocals)) tt := by
    intro tt kt
    refine pre11 tt ?_
    show Steps p.tables e below (T6.setTop (mkF m 50 #[.val (.int p1), .val (.int p2), .val (.int p3), .val (.int p4), .val (.int p5), .val (.int n1), .val (.int xa), .val (.int xb), .val (.int xc), .val (.int fA), .unset, .unset, .unset, .unset, .unset] [])) _
    refine st12 _ ?_
    exact kt
  clear hfB
  obtain ⟨fC, hfC⟩ : ∃ z : Int32, z = if (p5 &&& (4 : Int32)) = (0 : Int32) then (0 : Int32) else 1 := ⟨_, rfl⟩
  obtain ⟨T18, L18, N18, X18, e18, st18⟩ : ∃ (T' : State) (L' : List Loc), Fr n0 L' ∧ Stand p l e room_1 s m #[(.int p1), (.int p2), (.int p3), (.int p4), (.int p5)] below meth c T' L' 0 0 ∧ T'.heap = h0 ∧ ∀ tt, Steps p.tables e below (T'.setTop (mkF m 78 #[.val (.int p1), .val (.int p2), .val (.int p3), .val (.int p4), .val (.int p5), .val (.int n1), .val (.int xa), .val (.int xb), .val (.int xc), .val (.int fA), .val (.int fB), .val (.int fC), .unset, .unset, .unset] [])) tt → Steps p.tables e below (T12.setTop (mkF m 64 #[.val (.int p1), .val (.int p2), .val (.int p3), .val (.int p4), .val (.int p5), .val (.int n1), .val (.int xa), .val (.int xb), .val (.int xc), .val (.int fA), .val (.int fB), .unset, .unset, .unset, .unset] [])) tt := by
    have pid18 : ∀ tt, Steps p.tables e below (T12.setTop (mkF m 64 #[.val (.int p1), .val (.int p2), .val (.int p3), .val (.int p4), .val (.int p5), .val (.int n1), .val (.int xa), .val (.int xb), .val (.int xc), .val (.int fA), .val (.int fB), .unset, .unset, .unset, .unset] [])) tt → Steps p.tables e below (T12.setTop (mkF m 64 #[.val (.int p1), .val (.int p2), .val (.int p3), .val (.int p4), .val (.int p5), .val (.int n1), .val (.int xa), .val (.int xb), .val (.int xc), .val (.int fA), .val (.int fB), .unset, .unset, .unset, .unset] [])) tt := fun tt kt => kt
    have pre19 : ∀ tt, Steps p.tables e below (T12.setTop (mkF m 68 #[.val (.int p1), .val (.int p2), .val (.int p3), .val (.int p4), .val (.int p5), .val (.int n1), .val (.int xa), .val (.int xb), .val (.int xc), .val (.int fA), .val (.int fB), .unset, .unset, .unset, .unset] [(.int (p5 &&& (4 : Int32)))])) tt → Steps p.tables e below (T12.setTop (mkF m 64 #[.val (.int p1), .val (.int p2), .val (.int p3), .val (.int p4), .val (.int p5), .val (.int n1), .val (.int xa), .val (.int xb), .val (.int xc), .val (.int fA), .val (.int fB), .unset, .unset, .unset, .unset] [])) tt := by
      intro tt kt
      refine pid18 tt ?_
      show Steps p.tables e below (T12.setTop (mkF m 64 #[.val (.int p1), .val (.int p2), .val (.int p3), .val (.int p4), .val (.int p5), .val (.int n1), .val (.int xa), .val (.int xb), .val (.int xc), .val (.int fA), .val (.int fB), .unset, .unset, .unset, .unset] [])) _
      refine XS.iload X12.here hx rfl (hb hby at_64) rfl ?_
      show Steps p.tables e below (T12.setTop (mkF m 66 #[.val (.int p1), .val (.int p2), .val (.int p3), .val (.int p4), .val (.int p5), .val (.int n1), .val (.int xa), .val (.int xb), .val (.int xc), .val (.int fA), .val (.int fB), .unset, .unset, .unset, .unset] [(.int p5)])) _
      refine XS.iconst X12.here hx rfl (hb hby at_66) ?_
      show Steps p.tables e below (T12.setTop (mkF m 67 #[.val (.int p1), .val (.int p2), .val (.int p3), .val (.int p4), .val (.int p5), .val (.int n1), .val (.int xa), .val (.int xb), .val (.int xc), .val (.int fA), .val (.int fB), .unset, .unset, .unset, .unset] [(.int (4 : Int32)), (.int p5)])) _
      refine XS.iand X12.here hx rfl (hb hby at_67) rfl ?_
      exact kt
    by_cases c68_20 : (p5 &&& (4 : Int32)) = (0 : Int32)
    · have pre21 : ∀ tt, Steps p.tables e below (T12.setTop (mkF m 78 #[.val (.int p1), .val (.int p2), .val (.int p3), .val (.int p4), .val (.int p5), .val (.int n1), .val (.int xa), .val (.int xb), .val (.int xc), .val (.int fA), .val (.int fB), .val (.int (0 : Int32)), .unset, .unset, .unset] [])) tt → Steps p.tables e below (T12.setTop (mkF m 64 #[.val (.int p1), .val (.int p2), .val (.int p3), .val (.int p4), .val (.int p5), .val (.int n1), .val (.int xa), .val (.int xb), .val (.int xc), .val (.int fA), .val (.int fB), .unset, .unset, .unset, .unset] [])) tt := by
        intro tt kt
        refine pre19 tt ?_
        show Steps p.tables e below (T12.setTop (mkF m 68 #[.val (.int p1), .val (.int p2), .val (.int p3), .val (.int p4), .val (.int p5), .val (.int n1), .val (.int xa), .val (.int xb), .val (.int xc), .val (.int fA), .val (.int fB), .unset, .unset, .unset, .unset] [(.int (p5 &&& (4 : Int32)))])) _
        refine XS.ifYes X12.here hx rfl (pc0 := 68) (pc' := 75) rfl (hb hby at_68) rfl ((if0 _ _).trans (teq c68_20).1) (by decide) (by decide) ?_
        show Steps p.tables e below (T12.setTop (mkF m 75 #[.val (.int p1), .val (.int p2), .val (.int p3), .val (.int p4), .val (.int p5), .val (.int n1), .val (.int xa), .val (.int xb), .val (.int xc), .val (.int fA), .val (.int fB), .unset, .unset, .unset, .unset] [])) _
        refine XS.iconst X12.here hx rfl (hb hby at_75) ?_
        show Steps p.tables e below (T12.setTop (mkF m 76 #[.val (.int p1), .val (.int p2), .val (.int p3), .val (.int p4), .val (.int p5), .val (.int n1), .val (.int xa), .val (.int xb), .val (.int xc), .val (.int fA), .val (.int fB), .unset, .unset, .unset, .unset] [(.int (0 : Int32))])) _
        refine XS.istore X12.here hx rfl (hb hby at_76) rfl (l' := #[.val (.int p1), .val (.int p2), .val (.int p3), .val (.int p4), .val (.int p5), .val (.int n1), .val (.int xa), .val (.int xb), .val (.int xc), .val (.int fA), .val (.int fB), .val (.int (0 : Int32)), .unset, .unset, .unset]) rfl ?_
        exact kt
      refine ⟨T12, _, N12, X12, e12, fun tt kt => pre21 tt ?_⟩
      rw [hfC, if_pos c68_20] at kt
      exact kt
    · have pre22 : ∀ tt, Steps p.tables e below (T12.setTop (mkF m 78 #[.val (.int p1), .val (.int p2), .val (.int p3), .val (.int p4), .val (.int p5), .val (.int n1), .val (.int xa), .val (.int xb), .val (.int xc), .val (.int fA), .val (.int fB), .val (.int (1 : Int32)), .unset, .unset, .unset] [])) tt → Steps p.tables e below (T12.setTop (mkF m 64 #[.val (.int p1), .val (.int p2), .val (.int p3), .val (.int p4), .val (.int p5), .val (.int n1), .val (.int xa), .val (.int xb), .val (.int xc), .val (.int fA), .val (.int fB), .unset, .unset, .unset, .unset] [])) tt := by
        intro tt kt
        refine pre19 tt ?_
        show Steps p.tables e below (T12.setTop (mkF m 68 #[.val (.int p1), .val (.int p2), .val (.int p3), .val (.int p4), .val (.int p5), .val (.int n1), .val (.int xa), .val (.int xb), .val (.int xc), .val (.int fA), .val (.int fB), .unset, .unset, .unset, .unset] [(.int (p5 &&& (4 : Int32)))])) _
        refine XS.ifNo X12.here hx rfl (hb hby at_68) rfl ((if0 _ _).trans (feq c68_20).1) ?_
        show Steps p.tables e below (T12.setTop (mkF m 71 #[.val (.int p1), .val (.int p2), .val (.int p3), .val (.int p4), .val (.int p5), .val (.int n1), .val (.int xa), .val (.int xb), .val (.int xc), .val (.int fA), .val (.int fB), .unset, .unset, .unset, .unset] [])) _
        refine XS.iconst X12.here hx rfl (hb hby at_71) ?_
        show Steps p.tables e below (T12.setTop (mkF m 72 #[.val (.int p1), .val (.int p2), .val (.int p3), .val (.int p4), .val (.int p5), .val (.int n1), .val (.int xa), .val (.int xb), .val (.int xc), .val (.int fA), .val (.int fB), .unset, .unset, .unset, .unset] [(.int (1 : Int32))])) _
        refine XS.goto X12.here hx rfl (pc0 := 72) (pc' := 76) rfl (hb hby at_72) (by decide) (by decide) ?_
        show Steps p.tables e below (T12.setTop (mkF m 76 #[.val (.int p1), .val (.int p2), .val (.int p3), .val (.int p4), .val (.int p5), .val (.int n1), .val (.int xa), .val (.int xb), .val (.int xc), .val (.int fA), .val (.int fB), .unset, .unset, .unset, .unset] [(.int (1 : Int32))])) _
        refine XS.istore X12.here hx rfl (hb hby at_76) rfl (l' := #[.val (.int p1), .val (.int p2), .val (.int p3), .val (.int p4), .val (.int p5), .val (.int n1), .val (.int xa), .val (.int xb), .val (.int xc), .val (.int fA), .val (.int fB), .val (.int (1 : Int32)), .unset, .unset, .unset]) rfl ?_
        exact kt
      refine ⟨T12, _, N12, X12, e12, fun tt kt => pre22 tt ?_⟩
      rw [hfC, if_neg c68_20] at kt
      exact kt
  have pre23 : ∀ tt, Steps p.tables e below (T18.setTop (mkF m 78 #[.val (.int p1), .val (.int p2), .val (.int p3), .val (.int p4), .val (.int p5), .val (.int n1), .val (.int xa), .val (.int xb), .val (.int xc), .val (.int fA), .val (.int fB), .val (.int fC), .unset, .unset, .unset] [])) tt → Steps p.tables e below (s₁.setTop (entryFrame m #[(.int p1), (.int p2), (.int p3), (.int p4), (.int p5)] maxLocals)) tt := by
    intro tt kt
    refine pre17 tt ?_
    show Steps p.tables e below (T12.setTop (mkF m 64 #[.val (.int p1), .val (.int p2), .val (.int p3), .val (.int p4), .val (.int p5), .val (.int n1), .val (.int xa), .val (.int xb), .val (.int xc), .val (.int fA), .val (.int fB), .unset, .unset, .unset, .unset] [])) _
    refine st18 _ ?_
    exact kt
  clear hfC
  obtain ⟨fR, hfR⟩ : ∃ z : Int32, z = if (p5 &&& (8 : Int32)) = (0 : Int32) then (0 : Int32) else 1 := ⟨_, rfl⟩
  obtain ⟨T24, L24, N24, X24, e24, st24⟩ : ∃ (T' : State) (L' : List Loc), Fr n0 L' ∧ Stand p l e room_1 s m #[(.int p1), (.int p2), (.int p3), (.int p4), (.int p5)] below meth c T' L' 0 0 ∧ T'.heap = h0 ∧ ∀ tt, Steps p.tables e below (T'.setTop (mkF m 93 #[.val (.int p1), .val (.int p2), .val (.int p3), .val (.int p4), .val (.int p5), .val (.int n1), .val (.int xa), .val (.int xb), .val (.int xc), .val (.int fA), .val (.int fB), .val (.int fC), .val (.int fR), .unset, .unset] [])) tt → Steps p.tables e below (T18.setTop (mkF m 78 #[.val (.int p1), .val (.int p2), .val (.int p3), .val (.int p4), .val (.int p5), .val (.int n1), .val (.int xa), .val (.int xb), .val (.int xc), .val (.int fA), .val (.int fB), .val (.int fC), .unset, .unset, .unset] [])) tt := by
    have pid24 : ∀ tt, Steps p.tables e below (T18.setTop (mkF m 78 #[.val (.int p1), .val (.int p2), .val (.int p3), .val (.int p4), .val (.int p5), .val (.int n1), .val (.int xa), .val (.int xb), .val (.int xc), .val (.int fA), .val (.int fB), .val (.int fC), .unset, .unset, .unset] [])) tt → Steps p.tables e below (T18.setTop (mkF m 78 #[.val (.int p1), .val (.int p2), .val (.int p3), .val (.int p4), .val (.int p5), .val (.int n1), .val (.int xa), .val (.int xb), .val (.int xc), .val (.int fA), .val (.int fB), .val (.int fC), .unset, .unset, .unset] [])) tt := fun tt kt => kt
    have pre25 : ∀ tt, Steps p.tables e below (T18.setTop (mkF m 83 #[.val (.int p1), .val (.int p2), .val (.int p3), .val (.int p4), .val (.int p5), .val (.int n1), .val (.int xa), .val (.int xb), .val (.int xc), .val (.int fA), .val (.int fB), .val (.int fC), .unset, .unset, .unset] [(.int (p5 &&& (8 : Int32)))])) tt → Steps p.tables e below (T18.setTop (mkF m 78 #[.val (.int p1), .val (.int p2), .val (.int p3), .val (.int p4), .val (.int p5), .val (.int n1), .val (.int xa), .val (.int xb), .val (.int xc), .val (.int fA), .val (.int fB), .val (.int fC), .unset, .unset, .unset] [])) tt := by
      intro tt kt
      refine pid24 tt ?_
      show Steps p.tables e below (T18.setTop (mkF m 78 #[.val (.int p1), .val (.int p2), .val (.int p3), .val (.int p4), .val (.int p5), .val (.int n1), .val (.int xa), .val (.int xb), .val (.int xc), .val (.int fA), .val (.int fB), .val (.int fC), .unset, .unset, .unset] [])) _
      refine XS.iload X18.here hx rfl (hb hby at_78) rfl ?_
      show Steps p.tables e below (T18.setTop (mkF m 80 #[.val (.int p1), .val (.int p2), .val (.int p3), .val (.int p4), .val (.int p5), .val (.int n1), .val (.int xa), .val (.int xb), .val (.int xc), .val (.int fA), .val (.int fB), .val (.int fC), .unset, .unset, .unset] [(.int p5)])) _
      refine XS.bipush X18.here hx rfl (hb hby at_80) ?_
      show Steps p.tables e below (T18.setTop (mkF m 82 #[.val (.int p1), .val (.int p2), .val (.int p3), .val (.int p4), .val (.int p5), .val (.int n1), .val (.int xa), .val (.int xb), .val (.int xc), .val (.int fA), .val (.int fB), .val (.int fC), .unset, .unset, .unset] [(.int (8 : Int32)), (.int p5)])) _
      refine XS.iand X18.here hx rfl (hb hby at_82) rfl ?_
      exact kt
    by_cases c83_26 : (p5 &&& (8 : Int32)) = (0 : Int32)
    · have pre27 : ∀ tt, Steps p.tables e below (T18.setTop (mkF m 93 #[.val (.int p1), .val (.int p2), .val (.int p3), .val (.int p4), .val (.int p5), .val (.int n1), .val (.int xa), .val (.int xb), .val (.int xc), .val (.int fA), .val (.int fB), .val (.int fC), .val (.int (0 : Int32)), .unset, .unset] [])) tt → Steps p.tables e below (T18.setTop (mkF m 78 #[.val (.int p1), .val (.int p2), .val (.int p3), .val (.int p4), .val (.int p5), .val (.int n1), .val (.int xa), .val (.int xb), .val (.int xc), .val (.int fA), .val (.int fB), .val (.int fC), .unset, .unset, .unset] [])) tt := by
        intro tt kt
        refine pre25 tt ?_
        show Steps p.tables e below (T18.setTop (mkF m 83 #[.val (.int p1), .val (.int p2), .val (.int p3), .val (.int p4), .val (.int p5), .val (.int n1), .val (.int xa), .val (.int xb), .val (.int xc), .val (.int fA), .val (.int fB), .val (.int fC), .unset, .unset, .unset] [(.int (p5 &&& (8 : Int32)))])) _
        refine XS.ifYes X18.here hx rfl (pc0 := 83) (pc' := 90) rfl (hb hby at_83) rfl ((if0 _ _).trans (teq c83_26).1) (by decide) (by decide) ?_
        show Steps p.tables e below (T18.setTop (mkF m 90 #[.val (.int p1), .val (.int p2), .val (.int p3), .val (.int p4), .val (.int p5), .val (.int n1), .val (.int xa), .val (.int xb), .val (.int xc), .val (.int fA), .val (.int fB), .val (.int fC), .unset, .unset, .unset] [])) _
        refine XS.iconst X18.here hx rfl (hb hby at_90) ?_
        show Steps p.tables e below (T18.setTop (mkF m 91 #[.val (.int p1), .val (.int p2), .val (.int p3), .val (.int p4), .val (.int p5), .val (.int n1), .val (.int xa), .val (.int xb), .val (.int xc), .val (.int fA), .val (.int fB), .val (.int fC), .unset, .unset, .unset] [(.int (0 : Int32))])) _
        refine XS.istore X18.here hx rfl (hb hby at_91) rfl (l' := #[.val (.int p1), .val (.int p2), .val (.int p3), .val (.int p4), .val (.int p5), .val (.int n1), .val (.int xa), .val (.int xb), .val (.int xc), .val (.int fA), .val (.int fB), .val (.int fC), .val (.int (0 : Int32)), .unset, .unset]) rfl ?_
        exact kt
      refine ⟨T18, _, N18, X18, e18, fun tt kt => pre27 tt ?_⟩
      rw [hfR, if_pos c83_26] at kt
      exact kt
    · have pre28 : ∀ tt, Steps p.tables e below (T18.setTop (mkF m 93 #[.val (.int p1), .val (.int p2), .val (.int p3), .val (.int p4), .val (.int p5), .val (.int n1), .val (.int xa), .val (.int xb), .val (.int xc), .val (.int fA), .val (.int fB), .val (.int fC), .val (.int (1 : Int32)), .unset, .unset] [])) tt → Steps p.tables e below (T18.setTop (mkF m 78 #[.val (.int p1), .val (.int p2), .val (.int p3), .val (.int p4), .val (.int p5), .val (.int n1), .val (.int xa), .val (.int xb), .val (.int xc), .val (.int fA), .val (.int fB), .val (.int fC), .unset, .unset, .unset] [])) tt := by
        intro tt kt
        refine pre25 tt ?_
        show Steps p.tables e below (T18.setTop (mkF m 83 #[.val (.int p1), .val (.int p2), .val (.int p3), .val (.int p4), .val (.int p5), .val (.int n1), .val (.int xa), .val (.int xb), .val (.int xc), .val (.int fA), .val (.int fB), .val (.int fC), .unset, .unset, .unset] [(.int (p5 &&& (8 : Int32)))])) _
        refine XS.ifNo X18.here hx rfl (hb hby at_83) rfl ((if0 _ _).trans (feq c83_26).1) ?_
        show Steps p.tables e below (T18.setTop (mkF m 86 #[.val (.int p1), .val (.int p2), .val (.int p3), .val (.int p4), .val (.int p5), .val (.int n1), .val (.int xa), .val (.int xb), .val (.int xc), .val (.int fA), .val (.int fB), .val (.int fC), .unset, .unset, .unset] [])) _
        refine XS.iconst X18.here hx rfl (hb hby at_86) ?_
        show Steps p.tables e below (T18.setTop (mkF m 87 #[.val (.int p1), .val (.int p2), .val (.int p3), .val (.int p4), .val (.int p5), .val (.int n1), .val (.int xa), .val (.int xb), .val (.int xc), .val (.int fA), .val (.int fB), .val (.int fC), .unset, .unset, .unset] [(.int (1 : Int32))])) _
        refine XS.goto X18.here hx rfl (pc0 := 87) (pc' := 91) rfl (hb hby at_87) (by decide) (by decide) ?_
        show Steps p.tables e below (T18.setTop (mkF m 91 #[.val (.int p1), .val (.int p2), .val (.int p3), .val (.int p4), .val (.int p5), .val (.int n1), .val (.int xa), .val (.int xb), .val (.int xc), .val (.int fA), .val (.int fB), .val (.int fC), .unset, .unset, .unset] [(.int (1 : Int32))])) _
        refine XS.istore X18.here hx rfl (hb hby at_91) rfl (l' := #[.val (.int p1), .val (.int p2), .val (.int p3), .val (.int p4), .val (.int p5), .val (.int n1), .val (.int xa), .val (.int xb), .val (.int xc), .val (.int fA), .val (.int fB), .val (.int fC), .val (.int (1 : Int32)), .unset, .unset]) rfl ?_
        exact kt
      refine ⟨T18, _, N18, X18, e18, fun tt kt => pre28 tt ?_⟩
      rw [hfR, if_neg c83_26] at kt
      exact kt
  have pre29 : ∀ tt, Steps p.tables e below (T24.setTop (mkF m 93 #[.val (.int p1), .val (.int p2), .val (.int p3), .val (.int p4), .val (.int p5), .val (.int n1), .val (.int xa), .val (.int xb), .val (.int xc), .val (.int fA), .val (.int fB), .val (.int fC), .val (.int fR), .unset, .unset] [])) tt → Steps p.tables e below (s₁.setTop (entryFrame m #[(.int p1), (.int p2), (.int p3), (.int p4), (.int p5)] maxLocals)) tt := by
    intro tt kt
    refine pre23 tt ?_
    show Steps p.tables e below (T18.setTop (mkF m 78 #[.val (.int p1), .val (.int p2), .val (.int p3), .val (.int p4), .val (.int p5), .val (.int n1), .val (.int xa), .val (.int xb), .val (.int xc), .val (.int fA), .val (.int fB), .val (.int fC), .unset, .unset, .unset] [])) _
    refine st24 _ ?_
    exact kt
  clear hfR
  obtain ⟨T30, h30, X30, e30, E30, A30, D30, -, st30⟩ := newO X24 hx hZ hown (hw _ (List.mem_of_getElem? (i := 1) rfl)) (hw _ (List.mem_of_getElem? (i := 2) rfl)) (hw _ (List.mem_of_getElem? (i := 3) rfl)) e24 (g := (mkF m 93 #[.val (.int p1), .val (.int p2), .val (.int p3), .val (.int p4), .val (.int p5), .val (.int n1), .val (.int xa), .val (.int xb), .val (.int xc), .val (.int fA), .val (.int fB), .val (.int fC), .val (.int fR), .unset, .unset] [])) rfl (hb hby at_93) (by decide) (by decide)
  obtain ⟨b30, g30⟩ : ∃ z, z = h0.size := ⟨_, rfl⟩
  rw [← g30] at A30 D30 st30
  have g_b30 : n0 ≤ b30 := Nat.le_trans Z0 (Nat.le_of_eq g30.symm)
  have F_further_b30 : Fld Z h30 b30 "com/example/phase7/phase7/metadata/FieldSet" "further" "[J" .null := D30 (Or.inr (hw _ (List.mem_of_getElem? (i := 13) rfl))) (ty := (.array .long)) (by decide)
  have F_first_b30 : Fld Z h30 b30 "com/example/phase7/phase7/metadata/FieldSet" "first" "J" (.long (0 : Int64)) := D30 (Or.inl (hw _ (List.mem_of_getElem? (i := 20) rfl))) (ty := .long) (by decide)
  obtain ⟨_, _, ⟨T31, L31, k31, n31⟩, -, X31, ⟨Lc31, hQ31, l31, y31, z31⟩, st31⟩ := X30.specialBack hx (y := (⟨"com/example/phase7/phase7/metadata/FieldSet", "<init>", "(I)V"⟩ : MethodName)) rfl hown (mvT hZ (hw _ (List.mem_of_getElem? (i := 4) rfl))) (mvT hZ (hw _ (List.mem_of_getElem? (i := 5) rfl))) (mvT hZ (hw _ (List.mem_of_getElem? (i := 6) rfl))) (by decide) (backOf (W := 1) (rmC l Z a0 hw [] b30 n1 wN kN h30 n0 (Nat.le_trans Z0 E30.1) A30 F_first_b30 F_further_b30 (Sta.ext E30 S_N) (V_N.ext E30) (Nat.ne_of_gt (Nat.lt_of_lt_of_le V_N.lt (Nat.le_of_eq g30.symm))) g_b30 hn) hZ (hw _ (List.mem_of_getElem? (i := 6) rfl)) (hw _ (List.mem_of_getElem? (i := 3) rfl)) (by decide) (by decide)) (g := (mkF m 99 #[.val (.int p1), .val (.int p2), .val (.int p3), .val (.int p4), .val (.int p5), .val (.int n1), .val (.int xa), .val (.int xb), .val (.int xc), .val (.int fA), .val (.int fB), .val (.int fC), .val (.int fR), .unset, .unset] [(.int n1), (.ref b30), (.ref b30)])) rfl (by rw [hml]; rfl) (Steps.refl _) (a := b30) (argsL := [(.int n1)]) (rest := [(.ref b30)]) (lenOf pd_rm0_0 rfl) rfl (by show 2 * 0 + _ ≤ _; exact Nat.le_of_eq rfl) (hb hby at_99) (fun _ _ => ⟨rfl, e30, (by decide : 1 + 1 ≤ _), (by decide : 2 + 3 ≤ _)⟩)
  dsimp only [Pt.U, Pt.locs, Pt.cells, Pt.slots] at X31 l31 y31 z31 st31 hQ31
  subst l31 y31 z31
  obtain ⟨rfl, N31q, K31, Ea31, Ff31, b31, kb31, z31, Fg31, Vb31, hne31, hz31, gz31⟩ := hQ31
  have N31 := Fr.app N24 N31q
  have z_xa : (xa / (64 : Int32)).toInt ≤ z31.toInt := by
    have q1 := (own_fr hn r_xa).2.2
    have q2 := hz31
    have q3 := r_xa
    omega
  have z_xb : (xb / (64 : Int32)).toInt ≤ z31.toInt := by
    have q1 := (own_fr hn r_xb).2.2
    have q2 := hz31
    have q3 := r_xb
    omega
  have z_xc : (xc / (64 : Int32)).toInt ≤ z31.toInt := by
    have q1 := (own_fr hn r_xc).2.2
    have q2 := hz31
    have q3 := r_xc
    omega
  obtain ⟨w0_32, hw0_32⟩ : ∃ z : Int64, z = if fA = (0 : Int32) then (0 : Int64) else (if xa / (64 : Int32) = 0 then ((0 : Int64) ||| ((1 : Int64) <<< (xa &&& 0x3f).toInt64)) else (0 : Int64)) := ⟨_, rfl⟩
  obtain ⟨w1_32, hw1_32⟩ : ∃ z : Int64, z = if fA = (0 : Int32) then (0 : Int64) else (if xa / (64 : Int32) = 1 then ((0 : Int64) ||| ((1 : Int64) <<< (xa &&& 0x3f).toInt64)) else (0 : Int64)) := ⟨_, rfl⟩
  obtain ⟨w2_32, hw2_32⟩ : ∃ z : Int64, z = if fA = (0 : Int32) then (0 : Int64) else (if xa / (64 : Int32) = 2 then ((0 : Int64) ||| ((1 : Int64) <<< (xa &&& 0x3f).toInt64)) else (0 : Int64)) := ⟨_, rfl⟩
  obtain ⟨w3_32, hw3_32⟩ : ∃ z : Int64, z = if fA = (0 : Int32) then (0 : Int64) else (if xa / (64 : Int32) = 3 then ((0 : Int64) ||| ((1 : Int64) <<< (xa &&& 0x3f).toInt64)) else (0 : Int64)) := ⟨_, rfl⟩
  have pre33 : ∀ tt, Steps p.tables e below (T31.setTop (mkF m 104 #[.val (.int p1), .val (.int p2), .val (.int p3), .val (.int p4), .val (.int p5), .val (.int n1), .val (.int xa), .val (.int xb), .val (.int xc), .val (.int fA), .val (.int fB), .val (.int fC), .val (.int fR), .val (.ref b30), .unset] [])) tt → Steps p.tables e below (s₁.setTop (entryFrame m #[(.int p1), (.int p2), (.int p3), (.int p4), (.int p5)] maxLocals)) tt := by
    intro tt kt
    refine pre29 tt ?_
    show Steps p.tables e below (T24.setTop (mkF m 93 #[.val (.int p1), .val (.int p2), .val (.int p3), .val (.int p4), .val (.int p5), .val (.int n1), .val (.int xa), .val (.int xb), .val (.int xc), .val (.int fA), .val (.int fB), .val (.int fC), .val (.int fR), .unset, .unset] [])) _
    refine st30 _ ?_
    show Steps p.tables e below (T30.setTop (mkF m 96 #[.val (.int p1), .val (.int p2), .val (.int p3), .val (.int p4), .val (.int p5), .val (.int n1), .val (.int xa), .val (.int xb), .val (.int xc), .val (.int fA), .val (.int fB), .val (.int fC), .val (.int fR), .unset, .unset] [(.ref b30)])) _
    refine XS.dup X30.here hx rfl (hb hby at_96) rfl rfl ?_
    show Steps p.tables e below (T30.setTop (mkF m 97 #[.val (.int p1), .val (.int p2), .val (.int p3), .val (.int p4), .val (.int p5), .val (.int n1), .val (.int xa), .val (.int xb), .val (.int xc), .val (.int fA), .val (.int fB), .val (.int fC), .val (.int fR), .unset, .unset] [(.ref b30), (.ref b30)])) _
    refine XS.iload X30.here hx rfl (hb hby at_97) rfl ?_
    show Steps p.tables e below (T30.setTop (mkF m 99 #[.val (.int p1), .val (.int p2), .val (.int p3), .val (.int p4), .val (.int p5), .val (.int n1), .val (.int xa), .val (.int xb), .val (.int xc), .val (.int fA), .val (.int fB), .val (.int fC), .val (.int fR), .unset, .unset] [(.int n1), (.ref b30), (.ref b30)])) _
    refine st31.trans ?_
    show Steps p.tables e below (T31.setTop (mkF m 102 #[.val (.int p1), .val (.int p2), .val (.int p3), .val (.int p4), .val (.int p5), .val (.int n1), .val (.int xa), .val (.int xb), .val (.int xc), .val (.int fA), .val (.int fB), .val (.int fC), .val (.int fR), .unset, .unset] [(.ref b30)])) _
    refine XS.astore X31.here hx rfl (hb hby at_102) rfl rfl (l' := #[.val (.int p1), .val (.int p2), .val (.int p3), .val (.int p4), .val (.int p5), .val (.int n1), .val (.int xa), .val (.int xb), .val (.int xc), .val (.int fA), .val (.int fB), .val (.int fC), .val (.int fR), .val (.ref b30), .unset]) rfl ?_
    exact kt
  obtain ⟨T34, L34, N34, X34, ⟨K34, Ea34, Ff34, Fg34, Vb34⟩, st34⟩ : ∃ (T' : State) (L' : List Loc), Fr n0 L' ∧ Stand p l e room_1 s m #[(.int p1), (.int p2), (.int p3), (.int p4), (.int p5)] below meth c T' L' 2 5 ∧ (Keep T31.heap T'.heap [b30, b31] ∧ Exa Z T'.heap b30 "com/example/phase7/phase7/metadata/FieldSet" ∧ Fld Z T'.heap b30 "com/example/phase7/phase7/metadata/FieldSet" "first" "J" (.long w0_32) ∧ Fld Z T'.heap b30 "com/example/phase7/phase7/metadata/FieldSet" "further" "[J" (.ref b31) ∧ Arv Z T'.heap b31 kb31 .long z31 [(.long w1_32), (.long w2_32), (.long w3_32)] (.long (0 : Int64))) ∧ ∀ tt, Steps p.tables e below (T'.setTop (mkF m 116 #[.val (.int p1), .val (.int p2), .val (.int p3), .val (.int p4), .val (.int p5), .val (.int n1), .val (.int xa), .val (.int xb), .val (.int xc), .val (.int fA), .val (.int fB), .val (.int fC), .val (.int fR), .val (.ref b30), .unset] [])) tt → Steps p.tables e below (T31.setTop (mkF m 104 #[.val (.int p1), .val (.int p2), .val (.int p3), .val (.int p4), .val (.int p5), .val (.int n1), .val (.int xa), .val (.int xb), .val (.int xc), .val (.int fA), .val (.int fB), .val (.int fC), .val (.int fR), .val (.ref b30), .unset] [])) tt := by
    have pid34 : ∀ tt, Steps p.tables e below (T31.setTop (mkF m 104 #[.val (.int p1), .val (.int p2), .val (.int p3), .val (.int p4), .val (.int p5), .val (.int n1), .val (.int xa), .val (.int xb), .val (.int xc), .val (.int fA), .val (.int fB), .val (.int fC), .val (.int fR), .val (.ref b30), .unset] [])) tt → Steps p.tables e below (T31.setTop (mkF m 104 #[.val (.int p1), .val (.int p2), .val (.int p3), .val (.int p4), .val (.int p5), .val (.int n1), .val (.int xa), .val (.int xb), .val (.int xc), .val (.int fA), .val (.int fB), .val (.int fC), .val (.int fR), .val (.ref b30), .unset] [])) tt := fun tt kt => kt
    have pre35 : ∀ tt, Steps p.tables e below (T31.setTop (mkF m 106 #[.val (.int p1), .val (.int p2), .val (.int p3), .val (.int p4), .val (.int p5), .val (.int n1), .val (.int xa), .val (.int xb), .val (.int xc), .val (.int fA), .val (.int fB), .val (.int fC), .val (.int fR), .val (.ref b30), .unset] [(.int fA)])) tt → Steps p.tables e below (T31.setTop (mkF m 104 #[.val (.int p1), .val (.int p2), .val (.int p3), .val (.int p4), .val (.int p5), .val (.int n1), .val (.int xa), .val (.int xb), .val (.int xc), .val (.int fA), .val (.int fB), .val (.int fC), .val (.int fR), .val (.ref b30), .unset] [])) tt := by
      intro tt kt
      refine pid34 tt ?_
      show Steps p.tables e below (T31.setTop (mkF m 104 #[.val (.int p1), .val (.int p2), .val (.int p3), .val (.int p4), .val (.int p5), .val (.int n1), .val (.int xa), .val (.int xb), .val (.int xc), .val (.int fA), .val (.int fB), .val (.int fC), .val (.int fR), .val (.ref b30), .unset] [])) _
      refine XS.iload X31.here hx rfl (hb hby at_104) rfl ?_
      exact kt
    by_cases c106_36 : fA = (0 : Int32)
    · have pre37 : ∀ tt, Steps p.tables e below (T31.setTop (mkF m 116 #[.val (.int p1), .val (.int p2), .val (.int p3), .val (.int p4), .val (.int p5), .val (.int n1), .val (.int xa), .val (.int xb), .val (.int xc), .val (.int fA), .val (.int fB), .val (.int fC), .val (.int fR), .val (.ref b30), .unset] [])) tt → Steps p.tables e below (T31.setTop (mkF m 104 #[.val (.int p1), .val (.int p2), .val (.int p3), .val (.int p4), .val (.int p5), .val (.int n1), .val (.int xa), .val (.int xb), .val (.int xc), .val (.int fA), .val (.int fB), .val (.int fC), .val (.int fR), .val (.ref b30), .unset] [])) tt := by
        intro tt kt
        refine pre35 tt ?_
        show Steps p.tables e below (T31.setTop (mkF m 106 #[.val (.int p1), .val (.int p2), .val (.int p3), .val (.int p4), .val (.int p5), .val (.int n1), .val (.int xa), .val (.int xb), .val (.int xc), .val (.int fA), .val (.int fB), .val (.int fC), .val (.int fR), .val (.ref b30), .unset] [(.int fA)])) _
        refine XS.ifYes X31.here hx rfl (pc0 := 106) (pc' := 116) rfl (hb hby at_106) rfl ((if0 _ _).trans (teq c106_36).1) (by decide) (by decide) ?_
        exact kt
      refine ⟨T31, _, N31, X31, (by rw [hw0_32, if_pos c106_36, hw1_32, if_pos c106_36, hw2_32, if_pos c106_36, hw3_32, if_pos c106_36]; exact ⟨Keep.refl _ _, Ea31, Ff31, Fg31, Vb31⟩), fun tt kt => pre37 tt ?_⟩
      exact kt
    · obtain ⟨u0_38, hu0_38⟩ : ∃ z : Int64, z = if xa / (64 : Int32) = 0 then ((0 : Int64) ||| ((1 : Int64) <<< (xa &&& 0x3f).toInt64)) else (0 : Int64) := ⟨_, rfl⟩
      obtain ⟨u1_38, hu1_38⟩ : ∃ z : Int64, z = if xa / (64 : Int32) = 1 then ((0 : Int64) ||| ((1 : Int64) <<< (xa &&& 0x3f).toInt64)) else (0 : Int64) := ⟨_, rfl⟩
      obtain ⟨u2_38, hu2_38⟩ : ∃ z : Int64, z = if xa / (64 : Int32) = 2 then ((0 : Int64) ||| ((1 : Int64) <<< (xa &&& 0x3f).toInt64)) else (0 : Int64) := ⟨_, rfl⟩
      obtain ⟨u3_38, hu3_38⟩ : ∃ z : Int64, z = if xa / (64 : Int32) = 3 then ((0 : Int64) ||| ((1 : Int64) <<< (xa &&& 0x3f).toInt64)) else (0 : Int64) := ⟨_, rfl⟩
      obtain ⟨cq38, kq38, q38a, q38b, q38c⟩ := isOf hZ rfl Ea31
      obtain ⟨_, _, ⟨T38, L38, k38, n38⟩, -, X38, ⟨Lc38, hQ38, l38, y38, z38⟩, st38⟩ := X31.virtualBack hx (y := (⟨"com/example/phase7/phase7/metadata/FieldSet", "add", "(I)V"⟩ : MethodName)) (z := (⟨"com/example/phase7/phase7/metadata/FieldSet", "add", "(I)V"⟩ : MethodName)) hown (mvT hZ (hw _ (List.mem_of_getElem? (i := 21) rfl))) (mvT hZ (hw _ (List.mem_of_getElem? (i := 22) rfl))) (notFace_of_selects (args := #[]) (mvT hZ (hw _ (List.mem_of_getElem? (i := 24) rfl)))) (mvT hZ (hw _ (List.mem_of_getElem? (i := 24) rfl))) (mvT hZ (hw _ (List.mem_of_getElem? (i := 23) rfl))) (by decide) (backOf (W := 0) (rmA l Z a0 hw [] b30 b31 kb31 xa (xa / (64 : Int32)) z31 (0 : Int64) (0 : Int64) (0 : Int64) (0 : Int64) u0_38 u1_38 u2_38 u3_38 T31.heap n0 (Nat.le_trans (Nat.le_trans Z0 E30.1) K31.1) Ea31 Ff31 Fg31 Vb31 hne31 (own_fr hn r_xa).1 rfl (own_fr hn r_xa).2.1 z_xa g_b30 gz31 hu0_38 hu1_38 hu2_38 hu3_38) hZ (hw _ (List.mem_of_getElem? (i := 25) rfl)) (hw _ (List.mem_of_getElem? (i := 3) rfl)) (by decide) (by decide)) q38a q38c (g := (mkF m 113 #[.val (.int p1), .val (.int p2), .val (.int p3), .val (.int p4), .val (.int p5), .val (.int n1), .val (.int xa), .val (.int xb), .val (.int xc), .val (.int fA), .val (.int fB), .val (.int fC), .val (.int fR), .val (.ref b30), .unset] [(.int xa), (.ref b30)])) rfl (by rw [hml]; rfl) (Steps.refl _) (argsL := [(.int xa)]) (rest := []) (lenOf pd_rm0_0 rfl) rfl (by show 2 * 0 + _ ≤ _; exact Nat.le_of_eq rfl) (hb hby at_113) (fun _ _ => ⟨rfl, rfl, (by decide : 2 + 0 ≤ _), (by decide : 5 + 0 ≤ _)⟩)
      dsimp only [Pt.U, Pt.locs, Pt.cells, Pt.slots] at X38 l38 y38 z38 st38 hQ38
      subst l38 y38 z38
      obtain ⟨rfl, N38q, K38, Ea38, Ff38, Fg38, Vb38⟩ := hQ38
      have N38 := Fr.app N31 N38q
      have pre39 : ∀ tt, Steps p.tables e below (T38.setTop (mkF m 116 #[.val (.int p1), .val (.int p2), .val (.int p3), .val (.int p4), .val (.int p5), .val (.int n1), .val (.int xa), .val (.int xb), .val (.int xc), .val (.int fA), .val (.int fB), .val (.int fC), .val (.int fR), .val (.ref b30), .unset] [])) tt → Steps p.tables e below (T31.setTop (mkF m 104 #[.val (.int p1), .val (.int p2), .val (.int p3), .val (.int p4), .val (.int p5), .val (.int n1), .val (.int xa), .val (.int xb), .val (.int xc), .val (.int fA), .val (.int fB), .val (.int fC), .val (.int fR), .val (.ref b30), .unset] [])) tt := by
        intro tt kt
        refine pre35 tt ?_
        show Steps p.tables e below (T31.setTop (mkF m 106 #[.val (.int p1), .val (.int p2), .val (.int p3), .val (.int p4), .val (.int p5), .val (.int n1), .val (.int xa), .val (.int xb), .val (.int xc), .val (.int fA), .val (.int fB), .val (.int fC), .val (.int fR), .val (.ref b30), .unset] [(.int fA)])) _
        refine XS.ifNo X31.here hx rfl (hb hby at_106) rfl ((if0 _ _).trans (feq c106_36).1) ?_
        show Steps p.tables e below (T31.setTop (mkF m 109 #[.val (.int p1), .val (.int p2), .val (.int p3), .val (.int p4), .val (.int p5), .val (.int n1), .val (.int xa), .val (.int xb), .val (.int xc), .val (.int fA), .val (.int fB), .val (.int fC), .val (.int fR), .val (.ref b30), .unset] [])) _
        refine XS.aload X31.here hx rfl (hb hby at_109) rfl rfl ?_
        show Steps p.tables e below (T31.setTop (mkF m 111 #[.val (.int p1), .val (.int p2), .val (.int p3), .val (.int p4), .val (.int p5), .val (.int n1), .val (.int xa), .val (.int xb), .val (.int xc), .val (.int fA), .val (.int fB), .val (.int fC), .val (.int fR), .val (.ref b30), .unset] [(.ref b30)])) _
        refine XS.iload X31.here hx rfl (hb hby at_111) rfl ?_
        show Steps p.tables e below (T31.setTop (mkF m 113 #[.val (.int p1), .val (.int p2), .val (.int p3), .val (.int p4), .val (.int p5), .val (.int n1), .val (.int xa), .val (.int xb), .val (.int xc), .val (.int fA), .val (.int fB), .val (.int fC), .val (.int fR), .val (.ref b30), .unset] [(.int xa), (.ref b30)])) _
        refine st38.trans ?_
        exact kt
      refine ⟨T38, _, N38, X38, (by rw [hw0_32, if_neg c106_36, ← hu0_38, hw1_32, if_neg c106_36, ← hu1_38, hw2_32, if_neg c106_36, ← hu2_38, hw3_32, if_neg c106_36, ← hu3_38]; exact ⟨K38, Ea38, Ff38, Fg38, Vb38⟩), fun tt kt => pre39 tt ?_⟩
      exact kt
  have pre40 : ∀ tt, Steps p.tables e below (T34.setTop (mkF m 116 #[.val (.int p1), .val (.int p2), .val (.int p3), .val (.int p4), .val (.int p5), .val (.int n1), .val (.int xa), .val (.int xb), .val (.int xc), .val (.int fA), .val (.int fB), .val (.int fC), .val (.int fR), .val (.ref b30), .unset] [])) tt → Steps p.tables e below (s₁.setTop (entryFrame m #[(.int p1), (.int p2), (.int p3), (.int p4), (.int p5)] maxLocals)) tt := by
    intro tt kt
    refine pre33 tt ?_
    show Steps p.tables e below (T31.setTop (mkF m 104 #[.val (.int p1), .val (.int p2), .val (.int p3), .val (.int p4), .val (.int p5), .val (.int n1), .val (.int xa), .val (.int xb), .val (.int xc), .val (.int fA), .val (.int fB), .val (.int fC), .val (.int fR), .val (.ref b30), .unset] [])) _
    refine st34 _ ?_
    exact kt
  obtain ⟨w0_41, hw0_41⟩ : ∃ z : Int64, z = if fB = (0 : Int32) then w0_32 else (if xb / (64 : Int32) = 0 then (w0_32 ||| ((1 : Int64) <<< (xb &&& 0x3f).toInt64)) else w0_32) := ⟨_, rfl⟩
  obtain ⟨w1_41, hw1_41⟩ : ∃ z : Int64, z = if fB = (0 : Int32) then w1_32 else (if xb / (64 : Int32) = 1 then (w1_32 ||| ((1 : Int64) <<< (xb &&& 0x3f).toInt64)) else w1_32) := ⟨_, rfl⟩
  obtain ⟨w2_41, hw2_41⟩ : ∃ z : Int64, z = if fB = (0 : Int32) then w2_32 else (if xb / (64 : Int32) = 2 then (w2_32 ||| ((1 : Int64) <<< (xb &&& 0x3f).toInt64)) else w2_32) := ⟨_, rfl⟩
  obtain ⟨w3_41, hw3_41⟩ : ∃ z : Int64, z = if fB = (0 : Int32) then w3_32 else (if xb / (64 : Int32) = 3 then (w3_32 ||| ((1 : Int64) <<< (xb &&& 0x3f).toInt64)) else w3_32) := ⟨_, rfl⟩
  obtain ⟨T42, L42, N42, X42, ⟨K42, Ea42, Ff42, Fg42, Vb42⟩, st42⟩ : ∃ (T' : State) (L' : List Loc), Fr n0 L' ∧ Stand p l e room_1 s m #[(.int p1), (.int p2), (.int p3), (.int p4), (.int p5)] below meth c T' L' 2 5 ∧ (Keep T34.heap T'.heap [b30, b31] ∧ Exa Z T'.heap b30 "com/example/phase7/phase7/metadata/FieldSet" ∧ Fld Z T'.heap b30 "com/example/phase7/phase7/metadata/FieldSet" "first" "J" (.long w0_41) ∧ Fld Z T'.heap b30 "com/example/phase7/phase7/metadata/FieldSet" "further" "[J" (.ref b31) ∧ Arv Z T'.heap b31 kb31 .long z31 [(.long w1_41), (.long w2_41), (.long w3_41)] (.long (0 : Int64))) ∧ ∀ tt, Steps p.tables e below (T'.setTop (mkF m 128 #[.val (.int p1), .val (.int p2), .val (.int p3), .val (.int p4), .val (.int p5), .val (.int n1), .val (.int xa), .val (.int xb), .val (.int xc), .val (.int fA), .val (.int fB), .val (.int fC), .val (.int fR), .val (.ref b30), .unset] [])) tt → Steps p.tables e below (T34.setTop (mkF m 116 #[.val (.int p1), .val (.int p2), .val (.int p3), .val (.int p4), .val (.int p5), .val (.int n1), .val (.int xa), .val (.int xb), .val (.int xc), .val (.int fA), .val (.int fB), .val (.int fC), .val (.int fR), .val (.ref b30), .unset] [])) tt := by
    have pid42 : ∀ tt, Steps p.tables e below (T34.setTop (mkF m 116 #[.val (.int p1), .val (.int p2), .val (.int p3), .val (.int p4), .val (.int p5), .val (.int n1), .val (.int xa), .val (.int xb), .val (.int xc), .val (.int fA), .val (.int fB), .val (.int fC), .val (.int fR), .val (.ref b30), .unset] [])) tt → Steps p.tables e below (T34.setTop (mkF m 116 #[.val (.int p1), .val (.int p2), .val (.int p3), .val (.int p4), .val (.int p5), .val (.int n1), .val (.int xa), .val (.int xb), .val (.int xc), .val (.int fA), .val (.int fB), .val (.int fC), .val (.int fR), .val (.ref b30), .unset] [])) tt := fun tt kt => kt
    have pre43 : ∀ tt, Steps p.tables e below (T34.setTop (mkF m 118 #[.val (.int p1), .val (.int p2), .val (.int p3), .val (.int p4), .val (.int p5), .val (.int n1), .val (.int xa), .val (.int xb), .val (.int xc), .val (.int fA), .val (.int fB), .val (.int fC), .val (.int fR), .val (.ref b30), .unset] [(.int fB)])) tt → Steps p.tables e below (T34.setTop (mkF m 116 #[.val (.int p1), .val (.int p2), .val (.int p3), .val (.int p4), .val (.int p5), .val (.int n1), .val (.int xa), .val (.int xb), .val (.int xc), .val (.int fA), .val (.int fB), .val (.int fC), .val (.int fR), .val (.ref b30), .unset] [])) tt := by
      intro tt kt
      refine pid42 tt ?_
      show Steps p.tables e below (T34.setTop (mkF m 116 #[.val (.int p1), .val (.int p2), .val (.int p3), .val (.int p4), .val (.int p5), .val (.int n1), .val (.int xa), .val (.int xb), .val (.int xc), .val (.int fA), .val (.int fB), .val (.int fC), .val (.int fR), .val (.ref b30), .unset] [])) _
      refine XS.iload X34.here hx rfl (hb hby at_116) rfl ?_
      exact kt
    by_cases c118_44 : fB = (0 : Int32)
    · have pre45 : ∀ tt, Steps p.tables e below (T34.setTop (mkF m 128 #[.val (.int p1), .val (.int p2), .val (.int p3), .val (.int p4), .val (.int p5), .val (.int n1), .val (.int xa), .val (.int xb), .val (.int xc), .val (.int fA), .val (.int fB), .val (.int fC), .val (.int fR), .val (.ref b30), .unset] [])) tt → Steps p.tables e below (T34.setTop (mkF m 116 #[.val (.int p1), .val (.int p2), .val (.int p3), .val (.int p4), .val (.int p5), .val (.int n1), .val (.int xa), .val (.int xb), .val (.int xc), .val (.int fA), .val (.int fB), .val (.int fC), .val (.int fR), .val (.ref b30), .unset] [])) tt := by
        intro tt kt
        refine pre43 tt ?_
        show Steps p.tables e below (T34.setTop (mkF m 118 #[.val (.int p1), .val (.int p2), .val (.int p3), .val (.int p4), .val (.int p5), .val (.int n1), .val (.int xa), .val (.int xb), .val (.int xc), .val (.int fA), .val (.int fB), .val (.int fC), .val (.int fR), .val (.ref b30), .unset] [(.int fB)])) _
        refine XS.ifYes X34.here hx rfl (pc0 := 118) (pc' := 128) rfl (hb hby at_118) rfl ((if0 _ _).trans (teq c118_44).1) (by decide) (by decide) ?_
        exact kt
      refine ⟨T34, _, N34, X34, (by rw [hw0_41, if_pos c118_44, hw1_41, if_pos c118_44, hw2_41, if_pos c118_44, hw3_41, if_pos c118_44]; exact ⟨Keep.refl _ _, Ea34, Ff34, Fg34, Vb34⟩), fun tt kt => pre45 tt ?_⟩
      exact kt
    · obtain ⟨u0_46, hu0_46⟩ : ∃ z : Int64, z = if xb / (64 : Int32) = 0 then (w0_32 ||| ((1 : Int64) <<< (xb &&& 0x3f).toInt64)) else w0_32 := ⟨_, rfl⟩
      obtain ⟨u1_46, hu1_46⟩ : ∃ z : Int64, z = if xb / (64 : Int32) = 1 then (w1_32 ||| ((1 : Int64) <<< (xb &&& 0x3f).toInt64)) else w1_32 := ⟨_, rfl⟩
      obtain ⟨u2_46, hu2_46⟩ : ∃ z : Int64, z = if xb / (64 : Int32) = 2 then (w2_32 ||| ((1 : Int64) <<< (xb &&& 0x3f).toInt64)) else w2_32 := ⟨_, rfl⟩
      obtain ⟨u3_46, hu3_46⟩ : ∃ z : Int64, z = if xb / (64 : Int32) = 3 then (w3_32 ||| ((1 : Int64) <<< (xb &&& 0x3f).toInt64)) else w3_32 := ⟨_, rfl⟩
      obtain ⟨cq46, kq46, q46a, q46b, q46c⟩ := isOf hZ rfl Ea34
      obtain ⟨_, _, ⟨T46, L46, k46, n46⟩, -, X46, ⟨Lc46, hQ46, l46, y46, z46⟩, st46⟩ := X34.virtualBack hx (y := (⟨"com/example/phase7/phase7/metadata/FieldSet", "add", "(I)V"⟩ : MethodName)) (z := (⟨"com/example/phase7/phase7/metadata/FieldSet", "add", "(I)V"⟩ : MethodName)) hown (mvT hZ (hw _ (List.mem_of_getElem? (i := 21) rfl))) (mvT hZ (hw _ (List.mem_of_getElem? (i := 22) rfl))) (notFace_of_selects (args := #[]) (mvT hZ (hw _ (List.mem_of_getElem? (i := 24) rfl)))) (mvT hZ (hw _ (List.mem_of_getElem? (i := 24) rfl))) (mvT hZ (hw _ (List.mem_of_getElem? (i := 23) rfl))) (by decide) (backOf (W := 0) (rmA l Z a0 hw [] b30 b31 kb31 xb (xb / (64 : Int32)) z31 w0_32 w1_32 w2_32 w3_32 u0_46 u1_46 u2_46 u3_46 T34.heap n0 (Nat.le_trans (Nat.le_trans (Nat.le_trans Z0 E30.1) K31.1) K34.1) Ea34 Ff34 Fg34 Vb34 hne31 (own_fr hn r_xb).1 rfl (own_fr hn r_xb).2.1 z_xb g_b30 gz31 hu0_46 hu1_46 hu2_46 hu3_46) hZ (hw _ (List.mem_of_getElem? (i := 25) rfl)) (hw _ (List.mem_of_getElem? (i := 3) rfl)) (by decide) (by decide)) q46a q46c (g := (mkF m 125 #[.val (.int p1), .val (.int p2), .val (.int p3), .val (.int p4), .val (.int p5), .val (.int n1), .val (.int xa), .val (.int xb), .val (.int xc), .val (.int fA), .val (.int fB), .val (.int fC), .val (.int fR), .val (.ref b30), .unset] [(.int xb), (.ref b30)])) rfl (by rw [hml]; rfl) (Steps.refl _) (argsL := [(.int xb)]) (rest := []) (lenOf pd_rm0_0 rfl) rfl (by show 2 * 0 + _ ≤ _; exact Nat.le_of_eq rfl) (hb hby at_125) (fun _ _ => ⟨rfl, rfl, (by decide : 2 + 0 ≤ _), (by decide : 5 + 0 ≤ _)⟩)
      dsimp only [Pt.U, Pt.locs, Pt.cells, Pt.slots] at X46 l46 y46 z46 st46 hQ46
      subst l46 y46 z46
      obtain ⟨rfl, N46q, K46, Ea46, Ff46, Fg46, Vb46⟩ := hQ46
      have N46 := Fr.app N34 N46q
      have pre47 : ∀ tt, Steps p.tables e below (T46.setTop (mkF m 128 #[.val (.int p1), .val (.int p2), .val (.int p3), .val (.int p4), .val (.int p5), .val (.int n1), .val (.int xa), .val (.int xb), .val (.int xc), .val (.int fA), .val (.int fB), .val (.int fC), .val (.int fR), .val (.ref b30), .unset] [])) tt → Steps p.tables e below (T34.setTop (mkF m 116 #[.val (.int p1), .val (.int p2), .val (.int p3), .val (.int p4), .val (.int p5), .val (.int n1), .val (.int xa), .val (.int xb), .val (.int xc), .val (.int fA), .val (.int fB), .val (.int fC), .val (.int fR), .val (.ref b30), .unset] [])) tt := by
        intro tt kt
        refine pre43 tt ?_
        show Steps p.tables e below (T34.setTop (mkF m 118 #[.val (.int p1), .val (.int p2), .val (.int p3), .val (.int p4), .val (.int p5), .val (.int n1), .val (.int xa), .val (.int xb), .val (.int xc), .val (.int fA), .val (.int fB), .val (.int fC), .val (.int fR), .val (.ref b30), .unset] [(.int fB)])) _
        refine XS.ifNo X34.here hx rfl (hb hby at_118) rfl ((if0 _ _).trans (feq c118_44).1) ?_
        show Steps p.tables e below (T34.setTop (mkF m 121 #[.val (.int p1), .val (.int p2), .val (.int p3), .val (.int p4), .val (.int p5), .val (.int n1), .val (.int xa), .val (.int xb), .val (.int xc), .val (.int fA), .val (.int fB), .val (.int fC), .val (.int fR), .val (.ref b30), .unset] [])) _
        refine XS.aload X34.here hx rfl (hb hby at_121) rfl rfl ?_
        show Steps p.tables e below (T34.setTop (mkF m 123 #[.val (.int p1), .val (.int p2), .val (.int p3), .val (.int p4), .val (.int p5), .val (.int n1), .val (.int xa), .val (.int xb), .val (.int xc), .val (.int fA), .val (.int fB), .val (.int fC), .val (.int fR), .val (.ref b30), .unset] [(.ref b30)])) _
        refine XS.iload X34.here hx rfl (hb hby at_123) rfl ?_
        show Steps p.tables e below (T34.setTop (mkF m 125 #[.val (.int p1), .val (.int p2), .val (.int p3), .val (.int p4), .val (.int p5), .val (.int n1), .val (.int xa), .val (.int xb), .val (.int xc), .val (.int fA), .val (.int fB), .val (.int fC), .val (.int fR), .val (.ref b30), .unset] [(.int xb), (.ref b30)])) _
        refine st46.trans ?_
        exact kt
      refine ⟨T46, _, N46, X46, (by rw [hw0_41, if_neg c118_44, ← hu0_46, hw1_41, if_neg c118_44, ← hu1_46, hw2_41, if_neg c118_44, ← hu2_46, hw3_41, if_neg c118_44, ← hu3_46]; exact ⟨K46, Ea46, Ff46, Fg46, Vb46⟩), fun tt kt => pre47 tt ?_⟩
      exact kt
  have pre48 : ∀ tt, Steps p.tables e below (T42.setTop (mkF m 128 #[.val (.int p1), .val (.int p2), .val (.int p3), .val (.int p4), .val (.int p5), .val (.int n1), .val (.int xa), .val (.int xb), .val (.int xc), .val (.int fA), .val (.int fB), .val (.int fC), .val (.int fR), .val (.ref b30), .unset] [])) tt → Steps p.tables e below (s₁.setTop (entryFrame m #[(.int p1), (.int p2), (.int p3), (.int p4), (.int p5)] maxLocals)) tt := by
    intro tt kt
    refine pre40 tt ?_
    show Steps p.tables e below (T34.setTop (mkF m 116 #[.val (.int p1), .val (.int p2), .val (.int p3), .val (.int p4), .val (.int p5), .val (.int n1), .val (.int xa), .val (.int xb), .val (.int xc), .val (.int fA), .val (.int fB), .val (.int fC), .val (.int fR), .val (.ref b30), .unset] [])) _
    refine st42 _ ?_
    exact kt
  obtain ⟨w0_49, hw0_49⟩ : ∃ z : Int64, z = if fC = (0 : Int32) then w0_41 else (if xc / (64 : Int32) = 0 then (w0_41 ||| ((1 : Int64) <<< (xc &&& 0x3f).toInt64)) else w0_41) := ⟨_, rfl⟩
  obtain ⟨w1_49, hw1_49⟩ : ∃ z : Int64, z = if fC = (0 : Int32) then w1_41 else (if xc / (64 : Int32) = 1 then (w1_41 ||| ((1 : Int64) <<< (xc &&& 0x3f).toInt64)) else w1_41) := ⟨_, rfl⟩
  obtain ⟨w2_49, hw2_49⟩ : ∃ z : Int64, z = if fC = (0 : Int32) then w2_41 else (if xc / (64 : Int32) = 2 then (w2_41 ||| ((1 : Int64) <<< (xc &&& 0x3f).toInt64)) else w2_41) := ⟨_, rfl⟩
  obtain ⟨w3_49, hw3_49⟩ : ∃ z : Int64, z = if fC = (0 : Int32) then w3_41 else (if xc / (64 : Int32) = 3 then (w3_41 ||| ((1 : Int64) <<< (xc &&& 0x3f).toInt64)) else w3_41) := ⟨_, rfl⟩
  obtain ⟨T50, L50, N50, X50, ⟨K50, Ea50, Ff50, Fg50, Vb50⟩, st50⟩ : ∃ (T' : State) (L' : List Loc), Fr n0 L' ∧ Stand p l e room_1 s m #[(.int p1), (.int p2), (.int p3), (.int p4), (.int p5)] below meth c T' L' 2 5 ∧ (Keep T42.heap T'.heap [b30, b31] ∧ Exa Z T'.heap b30 "com/example/phase7/phase7/metadata/FieldSet" ∧ Fld Z T'.heap b30 "com/example/phase7/phase7/metadata/FieldSet" "first" "J" (.long w0_49) ∧ Fld Z T'.heap b30 "com/example/phase7/phase7/metadata/FieldSet" "further" "[J" (.ref b31) ∧ Arv Z T'.heap b31 kb31 .long z31 [(.long w1_49), (.long w2_49), (.long w3_49)] (.long (0 : Int64))) ∧ ∀ tt, Steps p.tables e below (T'.setTop (mkF m 140 #[.val (.int p1), .val (.int p2), .val (.int p3), .val (.int p4), .val (.int p5), .val (.int n1), .val (.int xa), .val (.int xb), .val (.int xc), .val (.int fA), .val (.int fB), .val (.int fC), .val (.int fR), .val (.ref b30), .unset] [])) tt → Steps p.tables e below (T42.setTop (mkF m 128 #[.val (.int p1), .val (.int p2), .val (.int p3), .val (.int p4), .val (.int p5), .val (.int n1), .val (.int xa), .val (.int xb), .val (.int xc), .val (.int fA), .val (.int fB), .val (.int fC), .val (.int fR), .val (.ref b30), .unset] [])) tt := by
    have pid50 : ∀ tt, Steps p.tables e below (T42.setTop (mkF m 128 #[.val (.int p1), .val (.int p2), .val (.int p3), .val (.int p4), .val (.int p5), .val (.int n1), .val (.int xa), .val (.int xb), .val (.int xc), .val (.int fA), .val (.int fB), .val (.int fC), .val (.int fR), .val (.ref b30), .unset] [])) tt → Steps p.tables e below (T42.setTop (mkF m 128 #[.val (.int p1), .val (.int p2), .val (.int p3), .val (.int p4), .val (.int p5), .val (.int n1), .val (.int xa), .val (.int xb), .val (.int xc), .val (.int fA), .val (.int fB), .val (.int fC), .val (.int fR), .val (.ref b30), .unset] [])) tt := fun tt kt => kt
    have pre51 : ∀ tt, Steps p.tables e below (T42.setTop (mkF m 130 #[.val (.int p1), .val (.int p2), .val (.int p3), .val (.int p4), .val (.int p5), .val (.int n1), .val (.int xa), .val (.int xb), .val (.int xc), .val (.int fA), .val (.int fB), .val (.int fC), .val (.int fR), .val (.ref b30), .unset] [(.int fC)])) tt → Steps p.tables e below (T42.setTop (mkF m 128 #[.val (.int p1), .val (.int p2), .val (.int p3), .val (.int p4), .val (.int p5), .val (.int n1), .val (.int xa), .val (.int xb), .val (.int xc), .val (.int fA), .val (.int fB), .val (.int fC), .val (.int fR), .val (.ref b30), .unset] [])) tt := by
      intro tt kt
      refine pid50 tt ?_
      show Steps p.tables e below (T42.setTop (mkF m 128 #[.val (.int p1), .val (.int p2), .val (.int p3), .val (.int p4), .val (.int p5), .val (.int n1), .val (.int xa), .val (.int xb), .val (.int xc), .val (.int fA), .val (.int fB), .val (.int fC), .val (.int fR), .val (.ref b30), .unset] [])) _
      refine XS.iload X42.here hx rfl (hb hby at_128) rfl ?_
      exact kt
    by_cases c130_52 : fC = (0 : Int32)
    · have pre53 : ∀ tt, Steps p.tables e below (T42.setTop (mkF m 140 #[.val (.int p1), .val (.int p2), .val (.int p3), .val (.int p4), .val (.int p5), .val (.int n1), .val (.int xa), .val (.int xb), .val (.int xc), .val (.int fA), .val (.int fB), .val (.int fC), .val (.int fR), .val (.ref b30), .unset] [])) tt → Steps p.tables e below (T42.setTop (mkF m 128 #[.val (.int p1), .val (.int p2), .val (.int p3), .val (.int p4), .val (.int p5), .val (.int n1), .val (.int xa), .val (.int xb), .val (.int xc), .val (.int fA), .val (.int fB), .val (.int fC), .val (.int fR), .val (.ref b30), .unset] [])) tt := by
        intro tt kt
        refine pre51 tt ?_
        show Steps p.tables e below (T42.setTop (mkF m 130 #[.val (.int p1), .val (.int p2), .val (.int p3), .val (.int p4), .val (.int p5), .val (.int n1), .val (.int xa), .val (.int xb), .val (.int xc), .val (.int fA), .val (.int fB), .val (.int fC), .val (.int fR), .val (.ref b30), .unset] [(.int fC)])) _
        refine XS.ifYes X42.here hx rfl (pc0 := 130) (pc' := 140) rfl (hb hby at_130) rfl ((if0 _ _).trans (teq c130_52).1) (by decide) (by decide) ?_
        exact kt
      refine ⟨T42, _, N42, X42, (by rw [hw0_49, if_pos c130_52, hw1_49, if_pos c130_52, hw2_49, if_pos c130_52, hw3_49, if_pos c130_52]; exact ⟨Keep.refl _ _, Ea42, Ff42, Fg42, Vb42⟩), fun tt kt => pre53 tt ?_⟩
      exact kt
    · obtain ⟨u0_54, hu0_54⟩ : ∃ z : Int64, z = if xc / (64 : Int32) = 0 then (w0_41 ||| ((1 : Int64) <<< (xc &&& 0x3f).toInt64)) else w0_41 := ⟨_, rfl⟩
      obtain ⟨u1_54, hu1_54⟩ : ∃ z : Int64, z = if xc / (64 : Int32) = 1 then (w1_41 ||| ((1 : Int64) <<< (xc &&& 0x3f).toInt64)) else w1_41 := ⟨_, rfl⟩
      obtain ⟨u2_54, hu2_54⟩ : ∃ z : Int64, z = if xc / (64 : Int32) = 2 then (w2_41 ||| ((1 : Int64) <<< (xc &&& 0x3f).toInt64)) else w2_41 := ⟨_, rfl⟩
      obtain ⟨u3_54, hu3_54⟩ : ∃ z : Int64, z = if xc / (64 : Int32) = 3 then (w3_41 ||| ((1 : Int64) <<< (xc &&& 0x3f).toInt64)) else w3_41 := ⟨_, rfl⟩
      obtain ⟨cq54, kq54, q54a, q54b, q54c⟩ := isOf hZ rfl Ea42
      obtain ⟨_, _, ⟨T54, L54, k54, n54⟩, -, X54, ⟨Lc54, hQ54, l54, y54, z54⟩, st54⟩ := X42.virtualBack hx (y := (⟨"com/example/phase7/phase7/metadata/FieldSet", "add", "(I)V"⟩ : MethodName)) (z := (⟨"com/example/phase7/phase7/metadata/FieldSet", "add", "(I)V"⟩ : MethodName)) hown (mvT hZ (hw _ (List.mem_of_getElem? (i := 21) rfl))) (mvT hZ (hw _ (List.mem_of_getElem? (i := 22) rfl))) (notFace_of_selects (args := #[]) (mvT hZ (hw _ (List.mem_of_getElem? (i := 24) rfl)))) (mvT hZ (hw _ (List.mem_of_getElem? (i := 24) rfl))) (mvT hZ (hw _ (List.mem_of_getElem? (i := 23) rfl))) (by decide) (backOf (W := 0) (rmA l Z a0 hw [] b30 b31 kb31 xc (xc / (64 : Int32)) z31 w0_41 w1_41 w2_41 w3_41 u0_54 u1_54 u2_54 u3_54 T42.heap n0 (Nat.le_trans (Nat.le_trans (Nat.le_trans (Nat.le_trans Z0 E30.1) K31.1) K34.1) K42.1) Ea42 Ff42 Fg42 Vb42 hne31 (own_fr hn r_xc).1 rfl (own_fr hn r_xc).2.1 z_xc g_b30 gz31 hu0_54 hu1_54 hu2_54 hu3_54) hZ (hw _ (List.mem_of_getElem? (i := 25) rfl)) (hw _ (List.mem_of_getElem? (i := 3) rfl)) (by decide) (by decide)) q54a q54c (g := (mkF m 137 #[.val (.int p1), .val (.int p2), .val (.int p3), .val (.int p4), .val (.int p5), .val (.int n1), .val (.int xa), .val (.int xb), .val (.int xc), .val (.int fA), .val (.int fB), .val (.int fC), .val (.int fR), .val (.ref b30), .unset] [(.int xc), (.ref b30)])) rfl (by rw [hml]; rfl) (Steps.refl _) (argsL := [(.int xc)]) (rest := []) (lenOf pd_rm0_0 rfl) rfl (by show 2 * 0 + _ ≤ _; exact Nat.le_of_eq rfl) (hb hby at_137) (fun _ _ => ⟨rfl, rfl, (by decide : 2 + 0 ≤ _), (by decide : 5 + 0 ≤ _)⟩)
      dsimp only [Pt.U, Pt.locs, Pt.cells, Pt.slots] at X54 l54 y54 z54 st54 hQ54
      subst l54 y54 z54
      obtain ⟨rfl, N54q, K54, Ea54, Ff54, Fg54, Vb54⟩ := hQ54
      have N54 := Fr.app N42 N54q
      have pre55 : ∀ tt, Steps p.tables e below (T54.setTop (mkF m 140 #[.val (.int p1), .val (.int p2), .val (.int p3), .val (.int p4), .val (.int p5), .val (.int n1), .val (.int xa), .val (.int xb), .val (.int xc), .val (.int fA), .val (.int fB), .val (.int fC), .val (.int fR), .val (.ref b30), .unset] [])) tt → Steps p.tables e below (T42.setTop (mkF m 128 #[.val (.int p1), .val (.int p2), .val (.int p3), .val (.int p4), .val (.int p5), .val (.int n1), .val (.int xa), .val (.int xb), .val (.int xc), .val (.int fA), .val (.int fB), .val (.int fC), .val (.int fR), .val (.ref b30), .unset] [])) tt := by
        intro tt kt
        refine pre51 tt ?_
        show Steps p.tables e below (T42.setTop (mkF m 130 #[.val (.int p1), .val (.int p2), .val (.int p3), .val (.int p4), .val (.int p5), .val (.int n1), .val (.int xa), .val (.int xb), .val (.int xc), .val (.int fA), .val (.int fB), .val (.int fC), .val (.int fR), .val (.ref b30), .unset] [(.int fC)])) _
        refine XS.ifNo X42.here hx rfl (hb hby at_130) rfl ((if0 _ _).trans (feq c130_52).1) ?_
        show Steps p.tables e below (T42.setTop (mkF m 133 #[.val (.int p1), .val (.int p2), .val (.int p3), .val (.int p4), .val (.int p5), .val (.int n1), .val (.int xa), .val (.int xb), .val (.int xc), .val (.int fA), .val (.int fB), .val (.int fC), .val (.int fR), .val (.ref b30), .unset] [])) _
        refine XS.aload X42.here hx rfl (hb hby at_133) rfl rfl ?_
        show Steps p.tables e below (T42.setTop (mkF m 135 #[.val (.int p1), .val (.int p2), .val (.int p3), .val (.int p4), .val (.int p5), .val (.int n1), .val (.int xa), .val (.int xb), .val (.int xc), .val (.int fA), .val (.int fB), .val (.int fC), .val (.int fR), .val (.ref b30), .unset] [(.ref b30)])) _
        refine XS.iload X42.here hx rfl (hb hby at_135) rfl ?_
        show Steps p.tables e below (T42.setTop (mkF m 137 #[.val (.int p1), .val (.int p2), .val (.int p3), .val (.int p4), .val (.int p5), .val (.int n1), .val (.int xa), .val (.int xb), .val (.int xc), .val (.int fA), .val (.int fB), .val (.int fC), .val (.int fR), .val (.ref b30), .unset] [(.int xc), (.ref b30)])) _
        refine st54.trans ?_
        exact kt
      refine ⟨T54, _, N54, X54, (by rw [hw0_49, if_neg c130_52, ← hu0_54, hw1_49, if_neg c130_52, ← hu1_54, hw2_49, if_neg c130_52, ← hu2_54, hw3_49, if_neg c130_52, ← hu3_54]; exact ⟨K54, Ea54, Ff54, Fg54, Vb54⟩), fun tt kt => pre55 tt ?_⟩
      exact kt
  have pre56 : ∀ tt, Steps p.tables e below (T50.setTop (mkF m 140 #[.val (.int p1), .val (.int p2), .val (.int p3), .val (.int p4), .val (.int p5), .val (.int n1), .val (.int xa), .val (.int xb), .val (.int xc), .val (.int fA), .val (.int fB), .val (.int fC), .val (.int fR), .val (.ref b30), .unset] [])) tt → Steps p.tables e below (s₁.setTop (entryFrame m #[(.int p1), (.int p2), (.int p3), (.int p4), (.int p5)] maxLocals)) tt := by
    intro tt kt
    refine pre48 tt ?_
    show Steps p.tables e below (T42.setTop (mkF m 128 #[.val (.int p1), .val (.int p2), .val (.int p3), .val (.int p4), .val (.int p5), .val (.int n1), .val (.int xa), .val (.int xb), .val (.int xc), .val (.int fA), .val (.int fB), .val (.int fC), .val (.int fR), .val (.ref b30), .unset] [])) _
    refine st50 _ ?_
    exact kt
  obtain ⟨w0_57, hw0_57⟩ : ∃ z : Int64, z = if fR = (0 : Int32) then w0_49 else (if xa / (64 : Int32) = 0 then (w0_49 &&& (((1 : Int64) <<< (xa &&& 0x3f).toInt64) ^^^ (-1 : Int64))) else w0_49) := ⟨_, rfl⟩
  obtain ⟨w1_57, hw1_57⟩ : ∃ z : Int64, z = if fR = (0 : Int32) then w1_49 else (if xa / (64 : Int32) = 1 then (w1_49 &&& (((1 : Int64) <<< (xa &&& 0x3f).toInt64) ^^^ (-1 : Int64))) else w1_49) := ⟨_, rfl⟩
  obtain ⟨w2_57, hw2_57⟩ : ∃ z : Int64, z = if fR = (0 : Int32) then w2_49 else (if xa / (64 : Int32) = 2 then (w2_49 &&& (((1 : Int64) <<< (xa &&& 0x3f).toInt64) ^^^ (-1 : Int64))) else w2_49) := ⟨_, rfl⟩
  obtain ⟨w3_57, hw3_57⟩ : ∃ z : Int64, z = if fR = (0 : Int32) then w3_49 else (if xa / (64 : Int32) = 3 then (w3_49 &&& (((1 : Int64) <<< (xa &&& 0x3f).toInt64) ^^^ (-1 : Int64))) else w3_49) := ⟨_, rfl⟩
  obtain ⟨T58, L58, N58, X58, ⟨K58, Ea58, Ff58, Fg58, Vb58⟩, st58⟩ : ∃ (T' : State) (L' : List Loc), Fr n0 L' ∧ Stand p l e room_1 s m #[(.int p1), (.int p2), (.int p3), (.int p4), (.int p5)] below meth c T' L' 2 5 ∧ (Keep T50.heap T'.heap [b30, b31] ∧ Exa Z T'.heap b30 "com/example/phase7/phase7/metadata/FieldSet" ∧ Fld Z T'.heap b30 "com/example/phase7/phase7/metadata/FieldSet" "first" "J" (.long w0_57) ∧ Fld Z T'.heap b30 "com/example/phase7/phase7/metadata/FieldSet" "further" "[J" (.ref b31) ∧ Arv Z T'.heap b31 kb31 .long z31 [(.long w1_57), (.long w2_57), (.long w3_57)] (.long (0 : Int64))) ∧ ∀ tt, Steps p.tables e below (T'.setTop (mkF m 152 #[.val (.int p1), .val (.int p2), .val (.int p3), .val (.int p4), .val (.int p5), .val (.int n1), .val (.int xa), .val (.int xb), .val (.int xc), .val (.int fA), .val (.int fB), .val (.int fC), .val (.int fR), .val (.ref b30), .unset] [])) tt → Steps p.tables e below (T50.setTop (mkF m 140 #[.val (.int p1), .val (.int p2), .val (.int p3), .val (.int p4), .val (.int p5), .val (.int n1), .val (.int xa), .val (.int xb), .val (.int xc), .val (.int fA), .val (.int fB), .val (.int fC), .val (.int fR), .val (.ref b30), .unset] [])) tt := by
    have pid58 : ∀ tt, Steps p.tables e below (T50.setTop (mkF m 140 #[.val (.int p1), .val (.int p2), .val (.int p3), .val (.int p4), .val (.int p5), .val (.int n1), .val (.int xa), .val (.int xb), .val (.int xc), .val (.int fA), .val (.int fB), .val (.int fC), .val (.int fR), .val (.ref b30), .unset] [])) tt → Steps p.tables e below (T50.setTop (mkF m 140 #[.val (.int p1), .val (.int p2), .val (.int p3), .val (.int p4), .val (.int p5), .val (.int n1), .val (.int xa), .val (.int xb), .val (.int xc), .val (.int fA), .val (.int fB), .val (.int fC), .val (.int fR), .val (.ref b30), .unset] [])) tt := fun tt kt => kt
    have pre59 : ∀ tt, Steps p.tables e below (T50.setTop (mkF m 142 #[.val (.int p1), .val (.int p2), .val (.int p3), .val (.int p4), .val (.int p5), .val (.int n1), .val (.int xa), .val (.int xb), .val (.int xc), .val (.int fA), .val (.int fB), .val (.int fC), .val (.int fR), .val (.ref b30), .unset] [(.int fR)])) tt → Steps p.tables e below (T50.setTop (mkF m 140 #[.val (.int p1), .val (.int p2), .val (.int p3), .val (.int p4), .val (.int p5), .val (.int n1), .val (.int xa), .val (.int xb), .val (.int xc), .val (.int fA), .val (.int fB), .val (.int fC), .val (.int fR), .val (.ref b30), .unset] [])) tt := by
      intro tt kt
      refine pid58 tt ?_
      show Steps p.tables e below (T50.setTop (mkF m 140 #[.val (.int p1), .val (.int p2), .val (.int p3), .val (.int p4), .val (.int p5), .val (.int n1), .val (.int xa), .val (.int xb), .val (.int xc), .val (.int fA), .val (.int fB), .val (.int fC), .val (.int fR), .val (.ref b30), .unset] [])) _
      refine XS.iload X50.here hx rfl (hb hby at_140) rfl ?_
      exact kt
    by_cases c142_60 : fR = (0 : Int32)
    · have pre61 : ∀ tt, Steps p.tables e below (T50.setTop (mkF m 152 #[.val (.int p1), .val (.int p2), .val (.int p3), .val (.int p4), .val (.int p5), .val (.int n1), .val (.int xa), .val (.int xb), .val (.int xc), .val (.int fA), .val (.int fB), .val (.int fC), .val (.int fR), .val (.ref b30), .unset] [])) tt → Steps p.tables e below (T50.setTop (mkF m 140 #[.val (.int p1), .val (.int p2), .val (.int p3), .val (.int p4), .val (.int p5), .val (.int n1), .val (.int xa), .val (.int xb), .val (.int xc), .val (.int fA), .val (.int fB), .val (.int fC), .val (.int fR), .val (.ref b30), .unset] [])) tt := by
        intro tt kt
        refine pre59 tt ?_
        show Steps p.tables e below (T50.setTop (mkF m 142 #[.val (.int p1), .val (.int p2), .val (.int p3), .val (.int p4), .val (.int p5), .val (.int n1), .val (.int xa), .val (.int xb), .val (.int xc), .val (.int fA), .val (.int fB), .val (.int fC), .val (.int fR), .val (.ref b30), .unset] [(.int fR)])) _
        refine XS.ifYes X50.here hx rfl (pc0 := 142) (pc' := 152) rfl (hb hby at_142) rfl ((if0 _ _).trans (teq c142_60).1) (by decide) (by decide) ?_
        exact kt
      refine ⟨T50, _, N50, X50, (by rw [hw0_57, if_pos c142_60, hw1_57, if_pos c142_60, hw2_57, if_pos c142_60, hw3_57, if_pos c142_60]; exact ⟨Keep.refl _ _, Ea50, Ff50, Fg50, Vb50⟩), fun tt kt => pre61 tt ?_⟩
      exact kt
    · obtain ⟨u0_62, hu0_62⟩ : ∃ z : Int64, z = if xa / (64 : Int32) = 0 then (w0_49 &&& (((1 : Int64) <<< (xa &&& 0x3f).toInt64) ^^^ (-1 : Int64))) else w0_49 := ⟨_, rfl⟩
      obtain ⟨u1_62, hu1_62⟩ : ∃ z : Int64, z = if xa / (64 : Int32) = 1 then (w1_49 &&& (((1 : Int64) <<< (xa &&& 0x3f).toInt64) ^^^ (-1 : Int64))) else w1_49 := ⟨_, rfl⟩
      obtain ⟨u2_62, hu2_62⟩ : ∃ z : Int64, z = if xa / (64 : Int32) = 2 then (w2_49 &&& (((1 : Int64) <<< (xa &&& 0x3f).toInt64) ^^^ (-1 : Int64))) else w2_49 := ⟨_, rfl⟩
      obtain ⟨u3_62, hu3_62⟩ : ∃ z : Int64, z = if xa / (64 : Int32) = 3 then (w3_49 &&& (((1 : Int64) <<< (xa &&& 0x3f).toInt64) ^^^ (-1 : Int64))) else w3_49 := ⟨_, rfl⟩
      obtain ⟨cq62, kq62, q62a, q62b, q62c⟩ := isOf hZ rfl Ea50
      obtain ⟨_, _, ⟨T62, L62, k62, n62⟩, -, X62, ⟨Lc62, hQ62, l62, y62, z62⟩, st62⟩ := X50.virtualBack hx (y := (⟨"com/example/phase7/phase7/metadata/FieldSet", "remove", "(I)V"⟩ : MethodName)) (z := (⟨"com/example/phase7/phase7/metadata/FieldSet", "remove", "(I)V"⟩ : MethodName)) hown (mvT hZ (hw _ (List.mem_of_getElem? (i := 27) rfl))) (mvT hZ (hw _ (List.mem_of_getElem? (i := 28) rfl))) (notFace_of_selects (args := #[]) (mvT hZ (hw _ (List.mem_of_getElem? (i := 30) rfl)))) (mvT hZ (hw _ (List.mem_of_getElem? (i := 30) rfl))) (mvT hZ (hw _ (List.mem_of_getElem? (i := 29) rfl))) (by decide) (backOf (W := 0) (rmR l Z a0 hw [] b30 b31 kb31 xa (xa / (64 : Int32)) z31 w0_49 w1_49 w2_49 w3_49 u0_62 u1_62 u2_62 u3_62 T50.heap n0 (Nat.le_trans (Nat.le_trans (Nat.le_trans (Nat.le_trans (Nat.le_trans Z0 E30.1) K31.1) K34.1) K42.1) K50.1) Ea50 Ff50 Fg50 Vb50 hne31 (own_fr hn r_xa).1 rfl (own_fr hn r_xa).2.1 z_xa g_b30 gz31 hu0_62 hu1_62 hu2_62 hu3_62) hZ (hw _ (List.mem_of_getElem? (i := 31) rfl)) (hw _ (List.mem_of_getElem? (i := 3) rfl)) (by decide) (by decide)) q62a q62c (g := (mkF m 149 #[.val (.int p1), .val (.int p2), .val (.int p3), .val (.int p4), .val (.int p5), .val (.int n1), .val (.int xa), .val (.int xb), .val (.int xc), .val (.int fA), .val (.int fB), .val (.int fC), .val (.int fR), .val (.ref b30), .unset] [(.int xa), (.ref b30)])) rfl (by rw [hml]; rfl) (Steps.refl _) (argsL := [(.int xa)]) (rest := []) (lenOf pd_rm0_0 rfl) rfl (by show 2 * 0 + _ ≤ _; exact Nat.le_of_eq rfl) (hb hby at_149) (fun _ _ => ⟨rfl, rfl, (by decide : 2 + 0 ≤ _), (by decide : 5 + 0 ≤ _)⟩)
      dsimp only [Pt.U, Pt.locs, Pt.cells, Pt.slots] at X62 l62 y62 z62 st62 hQ62
      subst l62 y62 z62
      obtain ⟨rfl, N62q, K62, Ea62, Ff62, Fg62, Vb62⟩ := hQ62
      have N62 := Fr.app N50 N62q
      have pre63 : ∀ tt, Steps p.tables e below (T62.setTop (mkF m 152 #[.val (.int p1), .val (.int p2), .val (.int p3), .val (.int p4), .val (.int p5), .val (.int n1), .val (.int xa), .val (.int xb), .val (.int xc), .val (.int fA), .val (.int fB), .val (.int fC), .val (.int fR), .val (.ref b30), .unset] [])) tt → Steps p.tables e below (T50.setTop (mkF m 140 #[.val (.int p1), .val (.int p2), .val (.int p3), .val (.int p4), .val (.int p5), .val (.int n1), .val (.int xa), .val (.int xb), .val (.int xc), .val (.int fA), .val (.int fB), .val (.int fC), .val (.int fR), .val (.ref b30), .unset] [])) tt := by
        intro tt kt
        refine pre59 tt ?_
        show Steps p.tables e below (T50.setTop (mkF m 142 #[.val (.int p1), .val (.int p2), .val (.int p3), .val (.int p4), .val (.int p5), .val (.int n1), .val (.int xa), .val (.int xb), .val (.int xc), .val (.int fA), .val (.int fB), .val (.int fC), .val (.int fR), .val (.ref b30), .unset] [(.int fR)])) _
        refine XS.ifNo X50.here hx rfl (hb hby at_142) rfl ((if0 _ _).trans (feq c142_60).1) ?_
        show Steps p.tables e below (T50.setTop (mkF m 145 #[.val (.int p1), .val (.int p2), .val (.int p3), .val (.int p4), .val (.int p5), .val (.int n1), .val (.int xa), .val (.int xb), .val (.int xc), .val (.int fA), .val (.int fB), .val (.int fC), .val (.int fR), .val (.ref b30), .unset] [])) _
        refine XS.aload X50.here hx rfl (hb hby at_145) rfl rfl ?_
        show Steps p.tables e below (T50.setTop (mkF m 147 #[.val (.int p1), .val (.int p2), .val (.int p3), .val (.int p4), .val (.int p5), .val (.int n1), .val (.int xa), .val (.int xb), .val (.int xc), .val (.int fA), .val (.int fB), .val (.int fC), .val (.int fR), .val (.ref b30), .unset] [(.ref b30)])) _
        refine XS.iload X50.here hx rfl (hb hby at_147) rfl ?_
        show Steps p.tables e below (T50.setTop (mkF m 149 #[.val (.int p1), .val (.int p2), .val (.int p3), .val (.int p4), .val (.int p5), .val (.int n1), .val (.int xa), .val (.int xb), .val (.int xc), .val (.int fA), .val (.int fB), .val (.int fC), .val (.int fR), .val (.ref b30), .unset] [(.int xa), (.ref b30)])) _
        refine st62.trans ?_
        exact kt
      refine ⟨T62, _, N62, X62, (by rw [hw0_57, if_neg c142_60, ← hu0_62, hw1_57, if_neg c142_60, ← hu1_62, hw2_57, if_neg c142_60, ← hu2_62, hw3_57, if_neg c142_60, ← hu3_62]; exact ⟨K62, Ea62, Ff62, Fg62, Vb62⟩), fun tt kt => pre63 tt ?_⟩
      exact kt
  have pre64 : ∀ tt, Steps p.tables e below (T58.setTop (mkF m 152 #[.val (.int p1), .val (.int p2), .val (.int p3), .val (.int p4), .val (.int p5), .val (.int n1), .val (.int xa), .val (.int xb), .val (.int xc), .val (.int fA), .val (.int fB), .val (.int fC), .val (.int fR), .val (.ref b30), .unset] [])) tt → Steps p.tables e below (s₁.setTop (entryFrame m #[(.int p1), (.int p2), (.int p3), (.int p4), (.int p5)] maxLocals)) tt := by
    intro tt kt
    refine pre56 tt ?_
    show Steps p.tables e below (T50.setTop (mkF m 140 #[.val (.int p1), .val (.int p2), .val (.int p3), .val (.int p4), .val (.int p5), .val (.int n1), .val (.int xa), .val (.int xb), .val (.int xc), .val (.int fA), .val (.int fB), .val (.int fC), .val (.int fR), .val (.ref b30), .unset] [])) _
    refine st58 _ ?_
    exact kt
  obtain ⟨ne, hne⟩ : ∃ z : Int32, z = if (if fR = 0 then (¬ fA = 0 ∨ ¬ fB = 0 ∨ ¬ fC = 0) else ((¬ fB = 0 ∧ ¬ xb = xa) ∨ (¬ fC = 0 ∧ ¬ xc = xa))) then (1 : Int32) else 0 := ⟨_, rfl⟩
  obtain ⟨T65, L65, N65, X65, e65, st65⟩ : ∃ (T' : State) (L' : List Loc), Fr n0 L' ∧ Stand p l e room_1 s m #[(.int p1), (.int p2), (.int p3), (.int p4), (.int p5)] below meth c T' L' 2 5 ∧ T'.heap = T58.heap ∧ ∀ tt, Steps p.tables e below (T'.setTop (mkF m 213 #[.val (.int p1), .val (.int p2), .val (.int p3), .val (.int p4), .val (.int p5), .val (.int n1), .val (.int xa), .val (.int xb), .val (.int xc), .val (.int fA), .val (.int fB), .val (.int fC), .val (.int fR), .val (.ref b30), .val (.int ne)] [])) tt → Steps p.tables e below (T58.setTop (mkF m 152 #[.val (.int p1), .val (.int p2), .val (.int p3), .val (.int p4), .val (.int p5), .val (.int n1), .val (.int xa), .val (.int xb), .val (.int xc), .val (.int fA), .val (.int fB), .val (.int fC), .val (.int fR), .val (.ref b30), .unset] [])) tt := by
    have pid65 : ∀ tt, Steps p.tables e below (T58.setTop (mkF m 152 #[.val (.int p1), .val (.int p2), .val (.int p3), .val (.int p4), .val (.int p5), .val (.int n1), .val (.int xa), .val (.int xb), .val (.int xc), .val (.int fA), .val (.int fB), .val (.int fC), .val (.int fR), .val (.ref b30), .unset] [])) tt → Steps p.tables e below (T58.setTop (mkF m 152 #[.val (.int p1), .val (.int p2), .val (.int p3), .val (.int p4), .val (.int p5), .val (.int n1), .val (.int xa), .val (.int xb), .val (.int xc), .val (.int fA), .val (.int fB), .val (.int fC), .val (.int fR), .val (.ref b30), .unset] [])) tt := fun tt kt => kt
    have pre66 : ∀ tt, Steps p.tables e below (T58.setTop (mkF m 154 #[.val (.int p1), .val (.int p2), .val (.int p3), .val (.int p4), .val (.int p5), .val (.int n1), .val (.int xa), .val (.int xb), .val (.int xc), .val (.int fA), .val (.int fB), .val (.int fC), .val (.int fR), .val (.ref b30), .unset] [(.int fR)])) tt → Steps p.tables e below (T58.setTop (mkF m 152 #[.val (.int p1), .val (.int p2), .val (.int p3), .val (.int p4), .val (.int p5), .val (.int n1), .val (.int xa), .val (.int xb), .val (.int xc), .val (.int fA), .val (.int fB), .val (.int fC), .val (.int fR), .val (.ref b30), .unset] [])) tt := by
      intro tt kt
      refine pid65 tt ?_
      show Steps p.tables e below (T58.setTop (mkF m 152 #[.val (.int p1), .val (.int p2), .val (.int p3), .val (.int p4), .val (.int p5), .val (.int n1), .val (.int xa), .val (.int xb), .val (.int xc), .val (.int fA), .val (.int fB), .val (.int fC), .val (.int fR), .val (.ref b30), .unset] [])) _
      refine XS.iload X58.here hx rfl (hb hby at_152) rfl ?_
      exact kt
    by_cases c154_67 : fR = (0 : Int32)
    · have pre68 : ∀ tt, Steps p.tables e below (T58.setTop (mkF m 193 #[.val (.int p1), .val (.int p2), .val (.int p3), .val (.int p4), .val (.int p5), .val (.int n1), .val (.int xa), .val (.int xb), .val (.int xc), .val (.int fA), .val (.int fB), .val (.int fC), .val (.int fR), .val (.ref b30), .unset] [(.int fA)])) tt → Steps p.tables e below (T58.setTop (mkF m 152 #[.val (.int p1), .val (.int p2), .val (.int p3), .val (.int p4), .val (.int p5), .val (.int n1), .val (.int xa), .val (.int xb), .val (.int xc), .val (.int fA), .val (.int fB), .val (.int fC), .val (.int fR), .val (.ref b30), .unset] [])) tt := by
        intro tt kt
        refine pre66 tt ?_
        show Steps p.tables e below (T58.setTop (mkF m 154 #[.val (.int p1), .val (.int p2), .val (.int p3), .val (.int p4), .val (.int p5), .val (.int n1), .val (.int xa), .val (.int xb), .val (.int xc), .val (.int fA), .val (.int fB), .val (.int fC), .val (.int fR), .val (.ref b30), .unset] [(.int fR)])) _
        refine XS.ifYes X58.here hx rfl (pc0 := 154) (pc' := 191) rfl (hb hby at_154) rfl ((if0 _ _).trans (teq c154_67).1) (by decide) (by decide) ?_
        show Steps p.tables e below (T58.setTop (mkF m 191 #[.val (.int p1), .val (.int p2), .val (.int p3), .val (.int p4), .val (.int p5), .val (.int n1), .val (.int xa), .val (.int xb), .val (.int xc), .val (.int fA), .val (.int fB), .val (.int fC), .val (.int fR), .val (.ref b30), .unset] [])) _
        refine XS.iload X58.here hx rfl (hb hby at_191) rfl ?_
        exact kt
      by_cases c193_69 : fA = (0 : Int32)
      · have pre70 : ∀ tt, Steps p.tables e below (T58.setTop (mkF m 198 #[.val (.int p1), .val (.int p2), .val (.int p3), .val (.int p4), .val (.int p5), .val (.int n1), .val (.int xa), .val (.int xb), .val (.int xc), .val (.int fA), .val (.int fB), .val (.int fC), .val (.int fR), .val (.ref b30), .unset] [(.int fB)])) tt → Steps p.tables e below (T58.setTop (mkF m 152 #[.val (.int p1), .val (.int p2), .val (.int p3), .val (.int p4), .val (.int p5), .val (.int n1), .val (.int xa), .val (.int xb), .val (.int xc), .val (.int fA), .val (.int fB), .val (.int fC), .val (.int fR), .val (.ref b30), .unset] [])) tt := by
          intro tt kt
          refine pre68 tt ?_
          show Steps p.tables e below (T58.setTop (mkF m 193 #[.val (.int p1), .val (.int p2), .val (.int p3), .val (.int p4), .val (.int p5), .val (.int n1), .val (.int xa), .val (.int xb), .val (.int xc), .val (.int fA), .val (.int fB), .val (.int fC), .val (.int fR), .val (.ref b30), .unset] [(.int fA)])) _
          refine XS.ifNo X58.here hx rfl (hb hby at_193) rfl ((if0 _ _).trans (teq c193_69).2) ?_
          show Steps p.tables e below (T58.setTop (mkF m 196 #[.val (.int p1), .val (.int p2), .val (.int p3), .val (.int p4), .val (.int p5), .val (.int n1), .val (.int xa), .val (.int xb), .val (.int xc), .val (.int fA), .val (.int fB), .val (.int fC), .val (.int fR), .val (.ref b30), .unset] [])) _
          refine XS.iload X58.here hx rfl (hb hby at_196) rfl ?_
          exact kt
        by_cases c198_71 : fB = (0 : Int32)
        · have pre72 : ∀ tt, Steps p.tables e below (T58.setTop (mkF m 203 #[.val (.int p1), .val (.int p2), .val (.int p3), .val (.int p4), .val (.int p5), .val (.int n1), .val (.int xa), .val (.int xb), .val (.int xc), .val (.int fA), .val (.int fB), .val (.int fC), .val (.int fR), .val (.ref b30), .unset] [(.int fC)])) tt → Steps p.tables e below (T58.setTop (mkF m 152 #[.val (.int p1), .val (.int p2), .val (.int p3), .val (.int p4), .val (.int p5), .val (.int n1), .val (.int xa), .val (.int xb), .val (.int xc), .val (.int fA), .val (.int fB), .val (.int fC), .val (.int fR), .val (.ref b30), .unset] [])) tt := by
            intro tt kt
            refine pre70 tt ?_
            show Steps p.tables e below (T58.setTop (mkF m 198 #[.val (.int p1), .val (.int p2), .val (.int p3), .val (.int p4), .val (.int p5), .val (.int n1), .val (.int xa), .val (.int xb), .val (.int xc), .val (.int fA), .val (.int fB), .val (.int fC), .val (.int fR), .val (.ref b30), .unset] [(.int fB)])) _
            refine XS.ifNo X58.here hx rfl (hb hby at_198) rfl ((if0 _ _).trans (teq c198_71).2) ?_
            show Steps p.tables e below (T58.setTop (mkF m 201 #[.val (.int p1), .val (.int p2), .val (.int p3), .val (.int p4), .val (.int p5), .val (.int n1), .val (.int xa), .val (.int xb), .val (.int xc), .val (.int fA), .val (.int fB), .val (.int fC), .val (.int fR), .val (.ref b30), .unset] [])) _
            refine XS.iload X58.here hx rfl (hb hby at_201) rfl ?_
            exact kt
          by_cases c203_73 : fC = (0 : Int32)
          · have pre74 : ∀ tt, Steps p.tables e below (T58.setTop (mkF m 213 #[.val (.int p1), .val (.int p2), .val (.int p3), .val (.int p4), .val (.int p5), .val (.int n1), .val (.int xa), .val (.int xb), .val (.int xc), .val (.int fA), .val (.int fB), .val (.int fC), .val (.int fR), .val (.ref b30), .val (.int (0 : Int32))] [])) tt → Steps p.tables e below (T58.setTop (mkF m 152 #[.val (.int p1), .val (.int p2), .val (.int p3), .val (.int p4), .val (.int p5), .val (.int n1), .val (.int xa), .val (.int xb), .val (.int xc), .val (.int fA), .val (.int fB), .val (.int fC), .val (.int fR), .val (.ref b30), .unset] [])) tt := by
              intro tt kt
              refine pre72 tt ?_
              show Steps p.tables e below (T58.setTop (mkF m 203 #[.val (.int p1), .val (.int p2), .val (.int p3), .val (.int p4), .val (.int p5), .val (.int n1), .val (.int xa), .val (.int xb), .val (.int xc), .val (.int fA), .val (.int fB), .val (.int fC), .val (.int fR), .val (.ref b30), .unset] [(.int fC)])) _
              refine XS.ifYes X58.here hx rfl (pc0 := 203) (pc' := 210) rfl (hb hby at_203) rfl ((if0 _ _).trans (teq c203_73).1) (by decide) (by decide) ?_
              show Steps p.tables e below (T58.setTop (mkF m 210 #[.val (.int p1), .val (.int p2), .val (.int p3), .val (.int p4), .val (.int p5), .val (.int n1), .val (.int xa), .val (.int xb), .val (.int xc), .val (.int fA), .val (.int fB), .val (.int fC), .val (.int fR), .val (.ref b30), .unset] [])) _
              refine XS.iconst X58.here hx rfl (hb hby at_210) ?_
              show Steps p.tables e below (T58.setTop (mkF m 211 #[.val (.int p1), .val (.int p2), .val (.int p3), .val (.int p4), .val (.int p5), .val (.int n1), .val (.int xa), .val (.int xb), .val (.int xc), .val (.int fA), .val (.int fB), .val (.int fC), .val (.int fR), .val (.ref b30), .unset] [(.int (0 : Int32))])) _
              refine XS.istore X58.here hx rfl (hb hby at_211) rfl (l' := #[.val (.int p1), .val (.int p2), .val (.int p3), .val (.int p4), .val (.int p5), .val (.int n1), .val (.int xa), .val (.int xb), .val (.int xc), .val (.int fA), .val (.int fB), .val (.int fC), .val (.int fR), .val (.ref b30), .val (.int (0 : Int32))]) rfl ?_
              exact kt
            refine ⟨T58, _, N58, X58, rfl, fun tt kt => pre74 tt ?_⟩
            rw [show ne = (0 : Int32) from by rw [hne]; simp [c154_67, c193_69, c198_71, c203_73]] at kt
            exact kt
          · have pre75 : ∀ tt, Steps p.tables e below (T58.setTop (mkF m 213 #[.val (.int p1), .val (.int p2), .val (.int p3), .val (.int p4), .val (.int p5), .val (.int n1), .val (.int xa), .val (.int xb), .val (.int xc), .val (.int fA), .val (.int fB), .val (.int fC), .val (.int fR), .val (.ref b30), .val (.int (1 : Int32))] [])) tt → Steps p.tables e below (T58.setTop (mkF m 152 #[.val (.int p1), .val (.int p2), .val (.int p3), .val (.int p4), .val (.int p5), .val (.int n1), .val (.int xa), .val (.int xb), .val (.int xc), .val (.int fA), .val (.int fB), .val (.int fC), .val (.int fR), .val (.ref b30), .unset] [])) tt := by
              intro tt kt
              refine pre72 tt ?_
              show Steps p.tables e below (T58.setTop (mkF m 203 #[.val (.int p1), .val (.int p2), .val (.int p3), .val (.int p4), .val (.int p5), .val (.int n1), .val (.int xa), .val (.int xb), .val (.int xc), .val (.int fA), .val (.int fB), .val (.int fC), .val (.int fR), .val (.ref b30), .unset] [(.int fC)])) _
              refine XS.ifNo X58.here hx rfl (hb hby at_203) rfl ((if0 _ _).trans (feq c203_73).1) ?_
              show Steps p.tables e below (T58.setTop (mkF m 206 #[.val (.int p1), .val (.int p2), .val (.int p3), .val (.int p4), .val (.int p5), .val (.int n1), .val (.int xa), .val (.int xb), .val (.int xc), .val (.int fA), .val (.int fB), .val (.int fC), .val (.int fR), .val (.ref b30), .unset] [])) _
              refine XS.iconst X58.here hx rfl (hb hby at_206) ?_
              show Steps p.tables e below (T58.setTop (mkF m 207 #[.val (.int p1), .val (.int p2), .val (.int p3), .val (.int p4), .val (.int p5), .val (.int n1), .val (.int xa), .val (.int xb), .val (.int xc), .val (.int fA), .val (.int fB), .val (.int fC), .val (.int fR), .val (.ref b30), .unset] [(.int (1 : Int32))])) _
              refine XS.goto X58.here hx rfl (pc0 := 207) (pc' := 211) rfl (hb hby at_207) (by decide) (by decide) ?_
              show Steps p.tables e below (T58.setTop (mkF m 211 #[.val (.int p1), .val (.int p2), .val (.int p3), .val (.int p4), .val (.int p5), .val (.int n1), .val (.int xa), .val (.int xb), .val (.int xc), .val (.int fA), .val (.int fB), .val (.int fC), .val (.int fR), .val (.ref b30), .unset] [(.int (1 : Int32))])) _
              refine XS.istore X58.here hx rfl (hb hby at_211) rfl (l' := #[.val (.int p1), .val (.int p2), .val (.int p3), .val (.int p4), .val (.int p5), .val (.int n1), .val (.int xa), .val (.int xb), .val (.int xc), .val (.int fA), .val (.int fB), .val (.int fC), .val (.int fR), .val (.ref b30), .val (.int (1 : Int32))]) rfl ?_
              exact kt
            refine ⟨T58, _, N58, X58, rfl, fun tt kt => pre75 tt ?_⟩
            rw [show ne = (1 : Int32) from by rw [hne]; simp [c154_67, c193_69, c198_71, c203_73]] at kt
            exact kt
        · have pre76 : ∀ tt, Steps p.tables e below (T58.setTop (mkF m 213 #[.val (.int p1), .val (.int p2), .val (.int p3), .val (.int p4), .val (.int p5), .val (.int n1), .val (.int xa), .val (.int xb), .val (.int xc), .val (.int fA), .val (.int fB), .val (.int fC), .val (.int fR), .val (.ref b30), .val (.int (1 : Int32))] [])) tt → Steps p.tables e below (T58.setTop (mkF m 152 #[.val (.int p1), .val (.int p2), .val (.int p3), .val (.int p4), .val (.int p5), .val (.int n1), .val (.int xa), .val (.int xb), .val (.int xc), .val (.int fA), .val (.int fB), .val (.int fC), .val (.int fR), .val (.ref b30), .unset] [])) tt := by
            intro tt kt
            refine pre70 tt ?_
            show Steps p.tables e below (T58.setTop (mkF m 198 #[.val (.int p1), .val (.int p2), .val (.int p3), .val (.int p4), .val (.int p5), .val (.int n1), .val (.int xa), .val (.int xb), .val (.int xc), .val (.int fA), .val (.int fB), .val (.int fC), .val (.int fR), .val (.ref b30), .unset] [(.int fB)])) _
            refine XS.ifYes X58.here hx rfl (pc0 := 198) (pc' := 206) rfl (hb hby at_198) rfl ((if0 _ _).trans (feq c198_71).2) (by decide) (by decide) ?_
            show Steps p.tables e below (T58.setTop (mkF m 206 #[.val (.int p1), .val (.int p2), .val (.int p3), .val (.int p4), .val (.int p5), .val (.int n1), .val (.int xa), .val (.int xb), .val (.int xc), .val (.int fA), .val (.int fB), .val (.int fC), .val (.int fR), .val (.ref b30), .unset] [])) _
            refine XS.iconst X58.here hx rfl (hb hby at_206) ?_
            show Steps p.tables e below (T58.setTop (mkF m 207 #[.val (.int p1), .val (.int p2), .val (.int p3), .val (.int p4), .val (.int p5), .val (.int n1), .val (.int xa), .val (.int xb), .val (.int xc), .val (.int fA), .val (.int fB), .val (.int fC), .val (.int fR), .val (.ref b30), .unset] [(.int (1 : Int32))])) _
            refine XS.goto X58.here hx rfl (pc0 := 207) (pc' := 211) rfl (hb hby at_207) (by decide) (by decide) ?_
            show Steps p.tables e below (T58.setTop (mkF m 211 #[.val (.int p1), .val (.int p2), .val (.int p3), .val (.int p4), .val (.int p5), .val (.int n1), .val (.int xa), .val (.int xb), .val (.int xc), .val (.int fA), .val (.int fB), .val (.int fC), .val (.int fR), .val (.ref b30), .unset] [(.int (1 : Int32))])) _
            refine XS.istore X58.here hx rfl (hb hby at_211) rfl (l' := #[.val (.int p1), .val (.int p2), .val (.int p3), .val (.int p4), .val (.int p5), .val (.int n1), .val (.int xa), .val (.int xb), .val (.int xc), .val (.int fA), .val (.int fB), .val (.int fC), .val (.int fR), .val (.ref b30), .val (.int (1 : Int32))]) rfl ?_
            exact kt
          refine ⟨T58, _, N58, X58, rfl, fun tt kt => pre76 tt ?_⟩
          rw [show ne = (1 : Int32) from by rw [hne]; simp [c154_67, c193_69, c198_71]] at kt
          exact kt
      · have pre77 : ∀ tt, Steps p.tables e below (T58.setTop (mkF m 213 #[.val (.int p1), .val (.int p2), .val (.int p3), .val (.int p4), .val (.int p5), .val (.int n1), .val (.int xa), .val (.int xb), .val (.int xc), .val (.int fA), .val (.int fB), .val (.int fC), .val (.int fR), .val (.ref b30), .val (.int (1 : Int32))] [])) tt → Steps p.tables e below (T58.setTop (mkF m 152 #[.val (.int p1), .val (.int p2), .val (.int p3), .val (.int p4), .val (.int p5), .val (.int n1), .val (.int xa), .val (.int xb), .val (.int xc), .val (.int fA), .val (.int fB), .val (.int fC), .val (.int fR), .val (.ref b30), .unset] [])) tt := by
          intro tt kt
          refine pre68 tt ?_
          show Steps p.tables e below (T58.setTop (mkF m 193 #[.val (.int p1), .val (.int p2), .val (.int p3), .val (.int p4), .val (.int p5), .val (.int n1), .val (.int xa), .val (.int xb), .val (.int xc), .val (.int fA), .val (.int fB), .val (.int fC), .val (.int fR), .val (.ref b30), .unset] [(.int fA)])) _
          refine XS.ifYes X58.here hx rfl (pc0 := 193) (pc' := 206) rfl (hb hby at_193) rfl ((if0 _ _).trans (feq c193_69).2) (by decide) (by decide) ?_
          show Steps p.tables e below (T58.setTop (mkF m 206 #[.val (.int p1), .val (.int p2), .val (.int p3), .val (.int p4), .val (.int p5), .val (.int n1), .val (.int xa), .val (.int xb), .val (.int xc), .val (.int fA), .val (.int fB), .val (.int fC), .val (.int fR), .val (.ref b30), .unset] [])) _
          refine XS.iconst X58.here hx rfl (hb hby at_206) ?_
          show Steps p.tables e below (T58.setTop (mkF m 207 #[.val (.int p1), .val (.int p2), .val (.int p3), .val (.int p4), .val (.int p5), .val (.int n1), .val (.int xa), .val (.int xb), .val (.int xc), .val (.int fA), .val (.int fB), .val (.int fC), .val (.int fR), .val (.ref b30), .unset] [(.int (1 : Int32))])) _
          refine XS.goto X58.here hx rfl (pc0 := 207) (pc' := 211) rfl (hb hby at_207) (by decide) (by decide) ?_
          show Steps p.tables e below (T58.setTop (mkF m 211 #[.val (.int p1), .val (.int p2), .val (.int p3), .val (.int p4), .val (.int p5), .val (.int n1), .val (.int xa), .val (.int xb), .val (.int xc), .val (.int fA), .val (.int fB), .val (.int fC), .val (.int fR), .val (.ref b30), .unset] [(.int (1 : Int32))])) _
          refine XS.istore X58.here hx rfl (hb hby at_211) rfl (l' := #[.val (.int p1), .val (.int p2), .val (.int p3), .val (.int p4), .val (.int p5), .val (.int n1), .val (.int xa), .val (.int xb), .val (.int xc), .val (.int fA), .val (.int fB), .val (.int fC), .val (.int fR), .val (.ref b30), .val (.int (1 : Int32))]) rfl ?_
          exact kt
        refine ⟨T58, _, N58, X58, rfl, fun tt kt => pre77 tt ?_⟩
        rw [show ne = (1 : Int32) from by rw [hne]; simp [c154_67, c193_69]] at kt
        exact kt
    · have pre78 : ∀ tt, Steps p.tables e below (T58.setTop (mkF m 159 #[.val (.int p1), .val (.int p2), .val (.int p3), .val (.int p4), .val (.int p5), .val (.int n1), .val (.int xa), .val (.int xb), .val (.int xc), .val (.int fA), .val (.int fB), .val (.int fC), .val (.int fR), .val (.ref b30), .unset] [(.int fB)])) tt → Steps p.tables e below (T58.setTop (mkF m 152 #[.val (.int p1), .val (.int p2), .val (.int p3), .val (.int p4), .val (.int p5), .val (.int n1), .val (.int xa), .val (.int xb), .val (.int xc), .val (.int fA), .val (.int fB), .val (.int fC), .val (.int fR), .val (.ref b30), .unset] [])) tt := by
        intro tt kt
        refine pre66 tt ?_
        show Steps p.tables e below (T58.setTop (mkF m 154 #[.val (.int p1), .val (.int p2), .val (.int p3), .val (.int p4), .val (.int p5), .val (.int n1), .val (.int xa), .val (.int xb), .val (.int xc), .val (.int fA), .val (.int fB), .val (.int fC), .val (.int fR), .val (.ref b30), .unset] [(.int fR)])) _
        refine XS.ifNo X58.here hx rfl (hb hby at_154) rfl ((if0 _ _).trans (feq c154_67).1) ?_
        show Steps p.tables e below (T58.setTop (mkF m 157 #[.val (.int p1), .val (.int p2), .val (.int p3), .val (.int p4), .val (.int p5), .val (.int n1), .val (.int xa), .val (.int xb), .val (.int xc), .val (.int fA), .val (.int fB), .val (.int fC), .val (.int fR), .val (.ref b30), .unset] [])) _
        refine XS.iload X58.here hx rfl (hb hby at_157) rfl ?_
        exact kt
      by_cases c159_79 : fB = (0 : Int32)
      · have pre80 : ∀ tt, Steps p.tables e below (T58.setTop (mkF m 171 #[.val (.int p1), .val (.int p2), .val (.int p3), .val (.int p4), .val (.int p5), .val (.int n1), .val (.int xa), .val (.int xb), .val (.int xc), .val (.int fA), .val (.int fB), .val (.int fC), .val (.int fR), .val (.ref b30), .unset] [(.int fC)])) tt → Steps p.tables e below (T58.setTop (mkF m 152 #[.val (.int p1), .val (.int p2), .val (.int p3), .val (.int p4), .val (.int p5), .val (.int n1), .val (.int xa), .val (.int xb), .val (.int xc), .val (.int fA), .val (.int fB), .val (.int fC), .val (.int fR), .val (.ref b30), .unset] [])) tt := by
          intro tt kt
          refine pre78 tt ?_
          show Steps p.tables e below (T58.setTop (mkF m 159 #[.val (.int p1), .val (.int p2), .val (.int p3), .val (.int p4), .val (.int p5), .val (.int n1), .val (.int xa), .val (.int xb), .val (.int xc), .val (.int fA), .val (.int fB), .val (.int fC), .val (.int fR), .val (.ref b30), .unset] [(.int fB)])) _
          refine XS.ifYes X58.here hx rfl (pc0 := 159) (pc' := 169) rfl (hb hby at_159) rfl ((if0 _ _).trans (teq c159_79).1) (by decide) (by decide) ?_
          show Steps p.tables e below (T58.setTop (mkF m 169 #[.val (.int p1), .val (.int p2), .val (.int p3), .val (.int p4), .val (.int p5), .val (.int n1), .val (.int xa), .val (.int xb), .val (.int xc), .val (.int fA), .val (.int fB), .val (.int fC), .val (.int fR), .val (.ref b30), .unset] [])) _
          refine XS.iload X58.here hx rfl (hb hby at_169) rfl ?_
          exact kt
        by_cases c171_81 : fC = (0 : Int32)
        · have pre82 : ∀ tt, Steps p.tables e below (T58.setTop (mkF m 213 #[.val (.int p1), .val (.int p2), .val (.int p3), .val (.int p4), .val (.int p5), .val (.int n1), .val (.int xa), .val (.int xb), .val (.int xc), .val (.int fA), .val (.int fB), .val (.int fC), .val (.int fR), .val (.ref b30), .val (.int (0 : Int32))] [])) tt → Steps p.tables e below (T58.setTop (mkF m 152 #[.val (.int p1), .val (.int p2), .val (.int p3), .val (.int p4), .val (.int p5), .val (.int n1), .val (.int xa), .val (.int xb), .val (.int xc), .val (.int fA), .val (.int fB), .val (.int fC), .val (.int fR), .val (.ref b30), .unset] [])) tt := by
            intro tt kt
            refine pre80 tt ?_
            show Steps p.tables e below (T58.setTop (mkF m 171 #[.val (.int p1), .val (.int p2), .val (.int p3), .val (.int p4), .val (.int p5), .val (.int n1), .val (.int xa), .val (.int xb), .val (.int xc), .val (.int fA), .val (.int fB), .val (.int fC), .val (.int fR), .val (.ref b30), .unset] [(.int fC)])) _
            refine XS.ifYes X58.here hx rfl (pc0 := 171) (pc' := 185) rfl (hb hby at_171) rfl ((if0 _ _).trans (teq c171_81).1) (by decide) (by decide) ?_
            show Steps p.tables e below (T58.setTop (mkF m 185 #[.val (.int p1), .val (.int p2), .val (.int p3), .val (.int p4), .val (.int p5), .val (.int n1), .val (.int xa), .val (.int xb), .val (.int xc), .val (.int fA), .val (.int fB), .val (.int fC), .val (.int fR), .val (.ref b30), .unset] [])) _
            refine XS.iconst X58.here hx rfl (hb hby at_185) ?_
            show Steps p.tables e below (T58.setTop (mkF m 186 #[.val (.int p1), .val (.int p2), .val (.int p3), .val (.int p4), .val (.int p5), .val (.int n1), .val (.int xa), .val (.int xb), .val (.int xc), .val (.int fA), .val (.int fB), .val (.int fC), .val (.int fR), .val (.ref b30), .unset] [(.int (0 : Int32))])) _
            refine XS.istore X58.here hx rfl (hb hby at_186) rfl (l' := #[.val (.int p1), .val (.int p2), .val (.int p3), .val (.int p4), .val (.int p5), .val (.int n1), .val (.int xa), .val (.int xb), .val (.int xc), .val (.int fA), .val (.int fB), .val (.int fC), .val (.int fR), .val (.ref b30), .val (.int (0 : Int32))]) rfl ?_
            show Steps p.tables e below (T58.setTop (mkF m 188 #[.val (.int p1), .val (.int p2), .val (.int p3), .val (.int p4), .val (.int p5), .val (.int n1), .val (.int xa), .val (.int xb), .val (.int xc), .val (.int fA), .val (.int fB), .val (.int fC), .val (.int fR), .val (.ref b30), .val (.int (0 : Int32))] [])) _
            refine XS.goto X58.here hx rfl (pc0 := 188) (pc' := 213) rfl (hb hby at_188) (by decide) (by decide) ?_
            exact kt
          refine ⟨T58, _, N58, X58, rfl, fun tt kt => pre82 tt ?_⟩
          rw [show ne = (0 : Int32) from by rw [hne]; simp [c154_67, c159_79, c171_81]] at kt
          exact kt
        · have pre83 : ∀ tt, Steps p.tables e below (T58.setTop (mkF m 178 #[.val (.int p1), .val (.int p2), .val (.int p3), .val (.int p4), .val (.int p5), .val (.int n1), .val (.int xa), .val (.int xb), .val (.int xc), .val (.int fA), .val (.int fB), .val (.int fC), .val (.int fR), .val (.ref b30), .unset] [(.int xa), (.int xc)])) tt → Steps p.tables e below (T58.setTop (mkF m 152 #[.val (.int p1), .val (.int p2), .val (.int p3), .val (.int p4), .val (.int p5), .val (.int n1), .val (.int xa), .val (.int xb), .val (.int xc), .val (.int fA), .val (.int fB), .val (.int fC), .val (.int fR), .val (.ref b30), .unset] [])) tt := by
            intro tt kt
            refine pre80 tt ?_
            show Steps p.tables e below (T58.setTop (mkF m 171 #[.val (.int p1), .val (.int p2), .val (.int p3), .val (.int p4), .val (.int p5), .val (.int n1), .val (.int xa), .val (.int xb), .val (.int xc), .val (.int fA), .val (.int fB), .val (.int fC), .val (.int fR), .val (.ref b30), .unset] [(.int fC)])) _
            refine XS.ifNo X58.here hx rfl (hb hby at_171) rfl ((if0 _ _).trans (feq c171_81).1) ?_
            show Steps p.tables e below (T58.setTop (mkF m 174 #[.val (.int p1), .val (.int p2), .val (.int p3), .val (.int p4), .val (.int p5), .val (.int n1), .val (.int xa), .val (.int xb), .val (.int xc), .val (.int fA), .val (.int fB), .val (.int fC), .val (.int fR), .val (.ref b30), .unset] [])) _
            refine XS.iload X58.here hx rfl (hb hby at_174) rfl ?_
            show Steps p.tables e below (T58.setTop (mkF m 176 #[.val (.int p1), .val (.int p2), .val (.int p3), .val (.int p4), .val (.int p5), .val (.int n1), .val (.int xa), .val (.int xb), .val (.int xc), .val (.int fA), .val (.int fB), .val (.int fC), .val (.int fR), .val (.ref b30), .unset] [(.int xc)])) _
            refine XS.iload X58.here hx rfl (hb hby at_176) rfl ?_
            exact kt
          by_cases c178_84 : xc = xa
          · have pre85 : ∀ tt, Steps p.tables e below (T58.setTop (mkF m 213 #[.val (.int p1), .val (.int p2), .val (.int p3), .val (.int p4), .val (.int p5), .val (.int n1), .val (.int xa), .val (.int xb), .val (.int xc), .val (.int fA), .val (.int fB), .val (.int fC), .val (.int fR), .val (.ref b30), .val (.int (0 : Int32))] [])) tt → Steps p.tables e below (T58.setTop (mkF m 152 #[.val (.int p1), .val (.int p2), .val (.int p3), .val (.int p4), .val (.int p5), .val (.int n1), .val (.int xa), .val (.int xb), .val (.int xc), .val (.int fA), .val (.int fB), .val (.int fC), .val (.int fR), .val (.ref b30), .unset] [])) tt := by
              intro tt kt
              refine pre83 tt ?_
              show Steps p.tables e below (T58.setTop (mkF m 178 #[.val (.int p1), .val (.int p2), .val (.int p3), .val (.int p4), .val (.int p5), .val (.int n1), .val (.int xa), .val (.int xb), .val (.int xc), .val (.int fA), .val (.int fB), .val (.int fC), .val (.int fR), .val (.ref b30), .unset] [(.int xa), (.int xc)])) _
              refine XS.icmpYes X58.here hx rfl (pc0 := 178) (pc' := 185) rfl (hb hby at_178) rfl (teq c178_84).1 (by decide) (by decide) ?_
              show Steps p.tables e below (T58.setTop (mkF m 185 #[.val (.int p1), .val (.int p2), .val (.int p3), .val (.int p4), .val (.int p5), .val (.int n1), .val (.int xa), .val (.int xb), .val (.int xc), .val (.int fA), .val (.int fB), .val (.int fC), .val (.int fR), .val (.ref b30), .unset] [])) _
              refine XS.iconst X58.here hx rfl (hb hby at_185) ?_
              show Steps p.tables e below (T58.setTop (mkF m 186 #[.val (.int p1), .val (.int p2), .val (.int p3), .val (.int p4), .val (.int p5), .val (.int n1), .val (.int xa), .val (.int xb), .val (.int xc), .val (.int fA), .val (.int fB), .val (.int fC), .val (.int fR), .val (.ref b30), .unset] [(.int (0 : Int32))])) _
              refine XS.istore X58.here hx rfl (hb hby at_186) rfl (l' := #[.val (.int p1), .val (.int p2), .val (.int p3), .val (.int p4), .val (.int p5), .val (.int n1), .val (.int xa), .val (.int xb), .val (.int xc), .val (.int fA), .val (.int fB), .val (.int fC), .val (.int fR), .val (.ref b30), .val (.int (0 : Int32))]) rfl ?_
              show Steps p.tables e below (T58.setTop (mkF m 188 #[.val (.int p1), .val (.int p2), .val (.int p3), .val (.int p4), .val (.int p5), .val (.int n1), .val (.int xa), .val (.int xb), .val (.int xc), .val (.int fA), .val (.int fB), .val (.int fC), .val (.int fR), .val (.ref b30), .val (.int (0 : Int32))] [])) _
              refine XS.goto X58.here hx rfl (pc0 := 188) (pc' := 213) rfl (hb hby at_188) (by decide) (by decide) ?_
              exact kt
            refine ⟨T58, _, N58, X58, rfl, fun tt kt => pre85 tt ?_⟩
            rw [show ne = (0 : Int32) from by rw [hne]; simp [c154_67, c159_79, c171_81, c178_84]] at kt
            exact kt
          · have pre86 : ∀ tt, Steps p.tables e below (T58.setTop (mkF m 213 #[.val (.int p1), .val (.int p2), .val (.int p3), .val (.int p4), .val (.int p5), .val (.int n1), .val (.int xa), .val (.int xb), .val (.int xc), .val (.int fA), .val (.int fB), .val (.int fC), .val (.int fR), .val (.ref b30), .val (.int (1 : Int32))] [])) tt → Steps p.tables e below (T58.setTop (mkF m 152 #[.val (.int p1), .val (.int p2), .val (.int p3), .val (.int p4), .val (.int p5), .val (.int n1), .val (.int xa), .val (.int xb), .val (.int xc), .val (.int fA), .val (.int fB), .val (.int fC), .val (.int fR), .val (.ref b30), .unset] [])) tt := by
              intro tt kt
              refine pre83 tt ?_
              show Steps p.tables e below (T58.setTop (mkF m 178 #[.val (.int p1), .val (.int p2), .val (.int p3), .val (.int p4), .val (.int p5), .val (.int n1), .val (.int xa), .val (.int xb), .val (.int xc), .val (.int fA), .val (.int fB), .val (.int fC), .val (.int fR), .val (.ref b30), .unset] [(.int xa), (.int xc)])) _
              refine XS.icmpNo X58.here hx rfl (hb hby at_178) rfl (feq c178_84).1 ?_
              show Steps p.tables e below (T58.setTop (mkF m 181 #[.val (.int p1), .val (.int p2), .val (.int p3), .val (.int p4), .val (.int p5), .val (.int n1), .val (.int xa), .val (.int xb), .val (.int xc), .val (.int fA), .val (.int fB), .val (.int fC), .val (.int fR), .val (.ref b30), .unset] [])) _
              refine XS.iconst X58.here hx rfl (hb hby at_181) ?_
              show Steps p.tables e below (T58.setTop (mkF m 182 #[.val (.int p1), .val (.int p2), .val (.int p3), .val (.int p4), .val (.int p5), .val (.int n1), .val (.int xa), .val (.int xb), .val (.int xc), .val (.int fA), .val (.int fB), .val (.int fC), .val (.int fR), .val (.ref b30), .unset] [(.int (1 : Int32))])) _
              refine XS.goto X58.here hx rfl (pc0 := 182) (pc' := 186) rfl (hb hby at_182) (by decide) (by decide) ?_
              show Steps p.tables e below (T58.setTop (mkF m 186 #[.val (.int p1), .val (.int p2), .val (.int p3), .val (.int p4), .val (.int p5), .val (.int n1), .val (.int xa), .val (.int xb), .val (.int xc), .val (.int fA), .val (.int fB), .val (.int fC), .val (.int fR), .val (.ref b30), .unset] [(.int (1 : Int32))])) _
              refine XS.istore X58.here hx rfl (hb hby at_186) rfl (l' := #[.val (.int p1), .val (.int p2), .val (.int p3), .val (.int p4), .val (.int p5), .val (.int n1), .val (.int xa), .val (.int xb), .val (.int xc), .val (.int fA), .val (.int fB), .val (.int fC), .val (.int fR), .val (.ref b30), .val (.int (1 : Int32))]) rfl ?_
              show Steps p.tables e below (T58.setTop (mkF m 188 #[.val (.int p1), .val (.int p2), .val (.int p3), .val (.int p4), .val (.int p5), .val (.int n1), .val (.int xa), .val (.int xb), .val (.int xc), .val (.int fA), .val (.int fB), .val (.int fC), .val (.int fR), .val (.ref b30), .val (.int (1 : Int32))] [])) _
              refine XS.goto X58.here hx rfl (pc0 := 188) (pc' := 213) rfl (hb hby at_188) (by decide) (by decide) ?_
              exact kt
            refine ⟨T58, _, N58, X58, rfl, fun tt kt => pre86 tt ?_⟩
            rw [show ne = (1 : Int32) from by rw [hne]; simp [c154_67, c159_79, c171_81, c178_84]] at kt
            exact kt
      · have pre87 : ∀ tt, Steps p.tables e below (T58.setTop (mkF m 166 #[.val (.int p1), .val (.int p2), .val (.int p3), .val (.int p4), .val (.int p5), .val (.int n1), .val (.int xa), .val (.int xb), .val (.int xc), .val (.int fA), .val (.int fB), .val (.int fC), .val (.int fR), .val (.ref b30), .unset] [(.int xa), (.int xb)])) tt → Steps p.tables e below (T58.setTop (mkF m 152 #[.val (.int p1), .val (.int p2), .val (.int p3), .val (.int p4), .val (.int p5), .val (.int n1), .val (.int xa), .val (.int xb), .val (.int xc), .val (.int fA), .val (.int fB), .val (.int fC), .val (.int fR), .val (.ref b30), .unset] [])) tt := by
          intro tt kt
          refine pre78 tt ?_
          show Steps p.tables e below (T58.setTop (mkF m 159 #[.val (.int p1), .val (.int p2), .val (.int p3), .val (.int p4), .val (.int p5), .val (.int n1), .val (.int xa), .val (.int xb), .val (.int xc), .val (.int fA), .val (.int fB), .val (.int fC), .val (.int fR), .val (.ref b30), .unset] [(.int fB)])) _
          refine XS.ifNo X58.here hx rfl (hb hby at_159) rfl ((if0 _ _).trans (feq c159_79).1) ?_
          show Steps p.tables e below (T58.setTop (mkF m 162 #[.val (.int p1), .val (.int p2), .val (.int p3), .val (.int p4), .val (.int p5), .val (.int n1), .val (.int xa), .val (.int xb), .val (.int xc), .val (.int fA), .val (.int fB), .val (.int fC), .val (.int fR), .val (.ref b30), .unset] [])) _
          refine XS.iload X58.here hx rfl (hb hby at_162) rfl ?_
          show Steps p.tables e below (T58.setTop (mkF m 164 #[.val (.int p1), .val (.int p2), .val (.int p3), .val (.int p4), .val (.int p5), .val (.int n1), .val (.int xa), .val (.int xb), .val (.int xc), .val (.int fA), .val (.int fB), .val (.int fC), .val (.int fR), .val (.ref b30), .unset] [(.int xb)])) _
          refine XS.iload X58.here hx rfl (hb hby at_164) rfl ?_
          exact kt
        by_cases c166_88 : xb = xa
        · have pre89 : ∀ tt, Steps p.tables e below (T58.setTop (mkF m 171 #[.val (.int p1), .val (.int p2), .val (.int p3), .val (.int p4), .val (.int p5), .val (.int n1), .val (.int xa), .val (.int xb), .val (.int xc), .val (.int fA), .val (.int fB), .val (.int fC), .val (.int fR), .val (.ref b30), .unset] [(.int fC)])) tt → Steps p.tables e below (T58.setTop (mkF m 152 #[.val (.int p1), .val (.int p2), .val (.int p3), .val (.int p4), .val (.int p5), .val (.int n1), .val (.int xa), .val (.int xb), .val (.int xc), .val (.int fA), .val (.int fB), .val (.int fC), .val (.int fR), .val (.ref b30), .unset] [])) tt := by
            intro tt kt
            refine pre87 tt ?_
            show Steps p.tables e below (T58.setTop (mkF m 166 #[.val (.int p1), .val (.int p2), .val (.int p3), .val (.int p4), .val (.int p5), .val (.int n1), .val (.int xa), .val (.int xb), .val (.int xc), .val (.int fA), .val (.int fB), .val (.int fC), .val (.int fR), .val (.ref b30), .unset] [(.int xa), (.int xb)])) _
            refine XS.icmpNo X58.here hx rfl (hb hby at_166) rfl (teq c166_88).2 ?_
            show Steps p.tables e below (T58.setTop (mkF m 169 #[.val (.int p1), .val (.int p2), .val (.int p3), .val (.int p4), .val (.int p5), .val (.int n1), .val (.int xa), .val (.int xb), .val (.int xc), .val (.int fA), .val (.int fB), .val (.int fC), .val (.int fR), .val (.ref b30), .unset] [])) _
            refine XS.iload X58.here hx rfl (hb hby at_169) rfl ?_
            exact kt
          by_cases c171_90 : fC = (0 : Int32)
          · have pre91 : ∀ tt, Steps p.tables e below (T58.setTop (mkF m 213 #[.val (.int p1), .val (.int p2), .val (.int p3), .val (.int p4), .val (.int p5), .val (.int n1), .val (.int xa), .val (.int xb), .val (.int xc), .val (.int fA), .val (.int fB), .val (.int fC), .val (.int fR), .val (.ref b30), .val (.int (0 : Int32))] [])) tt → Steps p.tables e below (T58.setTop (mkF m 152 #[.val (.int p1), .val (.int p2), .val (.int p3), .val (.int p4), .val (.int p5), .val (.int n1), .val (.int xa), .val (.int xb), .val (.int xc), .val (.int fA), .val (.int fB), .val (.int fC), .val (.int fR), .val (.ref b30), .unset] [])) tt := by
              intro tt kt
              refine pre89 tt ?_
              show Steps p.tables e below (T58.setTop (mkF m 171 #[.val (.int p1), .val (.int p2), .val (.int p3), .val (.int p4), .val (.int p5), .val (.int n1), .val (.int xa), .val (.int xb), .val (.int xc), .val (.int fA), .val (.int fB), .val (.int fC), .val (.int fR), .val (.ref b30), .unset] [(.int fC)])) _
              refine XS.ifYes X58.here hx rfl (pc0 := 171) (pc' := 185) rfl (hb hby at_171) rfl ((if0 _ _).trans (teq c171_90).1) (by decide) (by decide) ?_
              show Steps p.tables e below (T58.setTop (mkF m 185 #[.val (.int p1), .val (.int p2), .val (.int p3), .val (.int p4), .val (.int p5), .val (.int n1), .val (.int xa), .val (.int xb), .val (.int xc), .val (.int fA), .val (.int fB), .val (.int fC), .val (.int fR), .val (.ref b30), .unset] [])) _
              refine XS.iconst X58.here hx rfl (hb hby at_185) ?_
              show Steps p.tables e below (T58.setTop (mkF m 186 #[.val (.int p1), .val (.int p2), .val (.int p3), .val (.int p4), .val (.int p5), .val (.int n1), .val (.int xa), .val (.int xb), .val (.int xc), .val (.int fA), .val (.int fB), .val (.int fC), .val (.int fR), .val (.ref b30), .unset] [(.int (0 : Int32))])) _
              refine XS.istore X58.here hx rfl (hb hby at_186) rfl (l' := #[.val (.int p1), .val (.int p2), .val (.int p3), .val (.int p4), .val (.int p5), .val (.int n1), .val (.int xa), .val (.int xb), .val (.int xc), .val (.int fA), .val (.int fB), .val (.int fC), .val (.int fR), .val (.ref b30), .val (.int (0 : Int32))]) rfl ?_
              show Steps p.tables e below (T58.setTop (mkF m 188 #[.val (.int p1), .val (.int p2), .val (.int p3), .val (.int p4), .val (.int p5), .val (.int n1), .val (.int xa), .val (.int xb), .val (.int xc), .val (.int fA), .val (.int fB), .val (.int fC), .val (.int fR), .val (.ref b30), .val (.int (0 : Int32))] [])) _
              refine XS.goto X58.here hx rfl (pc0 := 188) (pc' := 213) rfl (hb hby at_188) (by decide) (by decide) ?_
              exact kt
            refine ⟨T58, _, N58, X58, rfl, fun tt kt => pre91 tt ?_⟩
            rw [show ne = (0 : Int32) from by rw [hne]; simp [c154_67, c159_79, c166_88, c171_90]] at kt
            exact kt
          · have pre92 : ∀ tt, Steps p.tables e below (T58.setTop (mkF m 178 #[.val (.int p1), .val (.int p2), .val (.int p3), .val (.int p4), .val (.int p5), .val (.int n1), .val (.int xa), .val (.int xb), .val (.int xc), .val (.int fA), .val (.int fB), .val (.int fC), .val (.int fR), .val (.ref b30), .unset] [(.int xa), (.int xc)])) tt → Steps p.tables e below (T58.setTop (mkF m 152 #[.val (.int p1), .val (.int p2), .val (.int p3), .val (.int p4), .val (.int p5), .val (.int n1), .val (.int xa), .val (.int xb), .val (.int xc), .val (.int fA), .val (.int fB), .val (.int fC), .val (.int fR), .val (.ref b30), .unset] [])) tt := by
              intro tt kt
              refine pre89 tt ?_
              show Steps p.tables e below (T58.setTop (mkF m 171 #[.val (.int p1), .val (.int p2), .val (.int p3), .val (.int p4), .val (.int p5), .val (.int n1), .val (.int xa), .val (.int xb), .val (.int xc), .val (.int fA), .val (.int fB), .val (.int fC), .val (.int fR), .val (.ref b30), .unset] [(.int fC)])) _
              refine XS.ifNo X58.here hx rfl (hb hby at_171) rfl ((if0 _ _).trans (feq c171_90).1) ?_
              show Steps p.tables e below (T58.setTop (mkF m 174 #[.val (.int p1), .val (.int p2), .val (.int p3), .val (.int p4), .val (.int p5), .val (.int n1), .val (.int xa), .val (.int xb), .val (.int xc), .val (.int fA), .val (.int fB), .val (.int fC), .val (.int fR), .val (.ref b30), .unset] [])) _
              refine XS.iload X58.here hx rfl (hb hby at_174) rfl ?_
              show Steps p.tables e below (T58.setTop (mkF m 176 #[.val (.int p1), .val (.int p2), .val (.int p3), .val (.int p4), .val (.int p5), .val (.int n1), .val (.int xa), .val (.int xb), .val (.int xc), .val (.int fA), .val (.int fB), .val (.int fC), .val (.int fR), .val (.ref b30), .unset] [(.int xc)])) _
              refine XS.iload X58.here hx rfl (hb hby at_176) rfl ?_
              exact kt
            by_cases c178_93 : xc = xa
            · have pre94 : ∀ tt, Steps p.tables e below (T58.setTop (mkF m 213 #[.val (.int p1), .val (.int p2), .val (.int p3), .val (.int p4), .val (.int p5), .val (.int n1), .val (.int xa), .val (.int xb), .val (.int xc), .val (.int fA), .val (.int fB), .val (.int fC), .val (.int fR), .val (.ref b30), .val (.int (0 : Int32))] [])) tt → Steps p.tables e below (T58.setTop (mkF m 152 #[.val (.int p1), .val (.int p2), .val (.int p3), .val (.int p4), .val (.int p5), .val (.int n1), .val (.int xa), .val (.int xb), .val (.int xc), .val (.int fA), .val (.int fB), .val (.int fC), .val (.int fR), .val (.ref b30), .unset] [])) tt := by
                intro tt kt
                refine pre92 tt ?_
                show Steps p.tables e below (T58.setTop (mkF m 178 #[.val (.int p1), .val (.int p2), .val (.int p3), .val (.int p4), .val (.int p5), .val (.int n1), .val (.int xa), .val (.int xb), .val (.int xc), .val (.int fA), .val (.int fB), .val (.int fC), .val (.int fR), .val (.ref b30), .unset] [(.int xa), (.int xc)])) _
                refine XS.icmpYes X58.here hx rfl (pc0 := 178) (pc' := 185) rfl (hb hby at_178) rfl (teq c178_93).1 (by decide) (by decide) ?_
                show Steps p.tables e below (T58.setTop (mkF m 185 #[.val (.int p1), .val (.int p2), .val (.int p3), .val (.int p4), .val (.int p5), .val (.int n1), .val (.int xa), .val (.int xb), .val (.int xc), .val (.int fA), .val (.int fB), .val (.int fC), .val (.int fR), .val (.ref b30), .unset] [])) _
                refine XS.iconst X58.here hx rfl (hb hby at_185) ?_
                show Steps p.tables e below (T58.setTop (mkF m 186 #[.val (.int p1), .val (.int p2), .val (.int p3), .val (.int p4), .val (.int p5), .val (.int n1), .val (.int xa), .val (.int xb), .val (.int xc), .val (.int fA), .val (.int fB), .val (.int fC), .val (.int fR), .val (.ref b30), .unset] [(.int (0 : Int32))])) _
                refine XS.istore X58.here hx rfl (hb hby at_186) rfl (l' := #[.val (.int p1), .val (.int p2), .val (.int p3), .val (.int p4), .val (.int p5), .val (.int n1), .val (.int xa), .val (.int xb), .val (.int xc), .val (.int fA), .val (.int fB), .val (.int fC), .val (.int fR), .val (.ref b30), .val (.int (0 : Int32))]) rfl ?_
                show Steps p.tables e below (T58.setTop (mkF m 188 #[.val (.int p1), .val (.int p2), .val (.int p3), .val (.int p4), .val (.int p5), .val (.int n1), .val (.int xa), .val (.int xb), .val (.int xc), .val (.int fA), .val (.int fB), .val (.int fC), .val (.int fR), .val (.ref b30), .val (.int (0 : Int32))] [])) _
                refine XS.goto X58.here hx rfl (pc0 := 188) (pc' := 213) rfl (hb hby at_188) (by decide) (by decide) ?_
                exact kt
              refine ⟨T58, _, N58, X58, rfl, fun tt kt => pre94 tt ?_⟩
              rw [show ne = (0 : Int32) from by rw [hne]; simp [c154_67, c159_79, c166_88, c171_90, c178_93]] at kt
              exact kt
            · have pre95 : ∀ tt, Steps p.tables e below (T58.setTop (mkF m 213 #[.val (.int p1), .val (.int p2), .val (.int p3), .val (.int p4), .val (.int p5), .val (.int n1), .val (.int xa), .val (.int xb), .val (.int xc), .val (.int fA), .val (.int fB), .val (.int fC), .val (.int fR), .val (.ref b30), .val (.int (1 : Int32))] [])) tt → Steps p.tables e below (T58.setTop (mkF m 152 #[.val (.int p1), .val (.int p2), .val (.int p3), .val (.int p4), .val (.int p5), .val (.int n1), .val (.int xa), .val (.int xb), .val (.int xc), .val (.int fA), .val (.int fB), .val (.int fC), .val (.int fR), .val (.ref b30), .unset] [])) tt := by
                intro tt kt
                refine pre92 tt ?_
                show Steps p.tables e below (T58.setTop (mkF m 178 #[.val (.int p1), .val (.int p2), .val (.int p3), .val (.int p4), .val (.int p5), .val (.int n1), .val (.int xa), .val (.int xb), .val (.int xc), .val (.int fA), .val (.int fB), .val (.int fC), .val (.int fR), .val (.ref b30), .unset] [(.int xa), (.int xc)])) _
                refine XS.icmpNo X58.here hx rfl (hb hby at_178) rfl (feq c178_93).1 ?_
                show Steps p.tables e below (T58.setTop (mkF m 181 #[.val (.int p1), .val (.int p2), .val (.int p3), .val (.int p4), .val (.int p5), .val (.int n1), .val (.int xa), .val (.int xb), .val (.int xc), .val (.int fA), .val (.int fB), .val (.int fC), .val (.int fR), .val (.ref b30), .unset] [])) _
                refine XS.iconst X58.here hx rfl (hb hby at_181) ?_
                show Steps p.tables e below (T58.setTop (mkF m 182 #[.val (.int p1), .val (.int p2), .val (.int p3), .val (.int p4), .val (.int p5), .val (.int n1), .val (.int xa), .val (.int xb), .val (.int xc), .val (.int fA), .val (.int fB), .val (.int fC), .val (.int fR), .val (.ref b30), .unset] [(.int (1 : Int32))])) _
                refine XS.goto X58.here hx rfl (pc0 := 182) (pc' := 186) rfl (hb hby at_182) (by decide) (by decide) ?_
                show Steps p.tables e below (T58.setTop (mkF m 186 #[.val (.int p1), .val (.int p2), .val (.int p3), .val (.int p4), .val (.int p5), .val (.int n1), .val (.int xa), .val (.int xb), .val (.int xc), .val (.int fA), .val (.int fB), .val (.int fC), .val (.int fR), .val (.ref b30), .unset] [(.int (1 : Int32))])) _
                refine XS.istore X58.here hx rfl (hb hby at_186) rfl (l' := #[.val (.int p1), .val (.int p2), .val (.int p3), .val (.int p4), .val (.int p5), .val (.int n1), .val (.int xa), .val (.int xb), .val (.int xc), .val (.int fA), .val (.int fB), .val (.int fC), .val (.int fR), .val (.ref b30), .val (.int (1 : Int32))]) rfl ?_
                show Steps p.tables e below (T58.setTop (mkF m 188 #[.val (.int p1), .val (.int p2), .val (.int p3), .val (.int p4), .val (.int p5), .val (.int n1), .val (.int xa), .val (.int xb), .val (.int xc), .val (.int fA), .val (.int fB), .val (.int fC), .val (.int fR), .val (.ref b30), .val (.int (1 : Int32))] [])) _
                refine XS.goto X58.here hx rfl (pc0 := 188) (pc' := 213) rfl (hb hby at_188) (by decide) (by decide) ?_
                exact kt
              refine ⟨T58, _, N58, X58, rfl, fun tt kt => pre95 tt ?_⟩
              rw [show ne = (1 : Int32) from by rw [hne]; simp [c154_67, c159_79, c166_88, c171_90, c178_93]] at kt
              exact kt
        · have pre96 : ∀ tt, Steps p.tables e below (T58.setTop (mkF m 213 #[.val (.int p1), .val (.int p2), .val (.int p3), .val (.int p4), .val (.int p5), .val (.int n1), .val (.int xa), .val (.int xb), .val (.int xc), .val (.int fA), .val (.int fB), .val (.int fC), .val (.int fR), .val (.ref b30), .val (.int (1 : Int32))] [])) tt → Steps p.tables e below (T58.setTop (mkF m 152 #[.val (.int p1), .val (.int p2), .val (.int p3), .val (.int p4), .val (.int p5), .val (.int n1), .val (.int xa), .val (.int xb), .val (.int xc), .val (.int fA), .val (.int fB), .val (.int fC), .val (.int fR), .val (.ref b30), .unset] [])) tt := by
            intro tt kt
            refine pre87 tt ?_
            show Steps p.tables e below (T58.setTop (mkF m 166 #[.val (.int p1), .val (.int p2), .val (.int p3), .val (.int p4), .val (.int p5), .val (.int n1), .val (.int xa), .val (.int xb), .val (.int xc), .val (.int fA), .val (.int fB), .val (.int fC), .val (.int fR), .val (.ref b30), .unset] [(.int xa), (.int xb)])) _
            refine XS.icmpYes X58.here hx rfl (pc0 := 166) (pc' := 181) rfl (hb hby at_166) rfl (feq c166_88).2 (by decide) (by decide) ?_
            show Steps p.tables e below (T58.setTop (mkF m 181 #[.val (.int p1), .val (.int p2), .val (.int p3), .val (.int p4), .val (.int p5), .val (.int n1), .val (.int xa), .val (.int xb), .val (.int xc), .val (.int fA), .val (.int fB), .val (.int fC), .val (.int fR), .val (.ref b30), .unset] [])) _
            refine XS.iconst X58.here hx rfl (hb hby at_181) ?_
            show Steps p.tables e below (T58.setTop (mkF m 182 #[.val (.int p1), .val (.int p2), .val (.int p3), .val (.int p4), .val (.int p5), .val (.int n1), .val (.int xa), .val (.int xb), .val (.int xc), .val (.int fA), .val (.int fB), .val (.int fC), .val (.int fR), .val (.ref b30), .unset] [(.int (1 : Int32))])) _
            refine XS.goto X58.here hx rfl (pc0 := 182) (pc' := 186) rfl (hb hby at_182) (by decide) (by decide) ?_
            show Steps p.tables e below (T58.setTop (mkF m 186 #[.val (.int p1), .val (.int p2), .val (.int p3), .val (.int p4), .val (.int p5), .val (.int n1), .val (.int xa), .val (.int xb), .val (.int xc), .val (.int fA), .val (.int fB), .val (.int fC), .val (.int fR), .val (.ref b30), .unset] [(.int (1 : Int32))])) _
            refine XS.istore X58.here hx rfl (hb hby at_186) rfl (l' := #[.val (.int p1), .val (.int p2), .val (.int p3), .val (.int p4), .val (.int p5), .val (.int n1), .val (.int xa), .val (.int xb), .val (.int xc), .val (.int fA), .val (.int fB), .val (.int fC), .val (.int fR), .val (.ref b30), .val (.int (1 : Int32))]) rfl ?_
            show Steps p.tables e below (T58.setTop (mkF m 188 #[.val (.int p1), .val (.int p2), .val (.int p3), .val (.int p4), .val (.int p5), .val (.int n1), .val (.int xa), .val (.int xb), .val (.int xc), .val (.int fA), .val (.int fB), .val (.int fC), .val (.int fR), .val (.ref b30), .val (.int (1 : Int32))] [])) _
            refine XS.goto X58.here hx rfl (pc0 := 188) (pc' := 213) rfl (hb hby at_188) (by decide) (by decide) ?_
            exact kt
          refine ⟨T58, _, N58, X58, rfl, fun tt kt => pre96 tt ?_⟩
          rw [show ne = (1 : Int32) from by rw [hne]; simp [c154_67, c159_79, c166_88]] at kt
          exact kt
  have pre97 : ∀ tt, Steps p.tables e below (T65.setTop (mkF m 213 #[.val (.int p1), .val (.int p2), .val (.int p3), .val (.int p4), .val (.int p5), .val (.int n1), .val (.int xa), .val (.int xb), .val (.int xc), .val (.int fA), .val (.int fB), .val (.int fC), .val (.int fR), .val (.ref b30), .val (.int ne)] [])) tt → Steps p.tables e below (s₁.setTop (entryFrame m #[(.int p1), (.int p2), (.int p3), (.int p4), (.int p5)] maxLocals)) tt := by
    intro tt kt
    refine pre64 tt ?_
    show Steps p.tables e below (T58.setTop (mkF m 152 #[.val (.int p1), .val (.int p2), .val (.int p3), .val (.int p4), .val (.int p5), .val (.int n1), .val (.int xa), .val (.int xb), .val (.int xc), .val (.int fA), .val (.int fB), .val (.int fC), .val (.int fR), .val (.ref b30), .unset] [])) _
    refine st65 _ ?_
    exact kt
  have rz := own_z4 hn hz31
  have by1_0 : z31.toInt < 1 → w1_32 = 0 := own_beyond (g := fun v => v ||| ((1 : Int64) <<< (xa &&& 0x3f).toInt64)) (i := 1) (I := (1 : Int32)) (by decide) hw1_32 z_xa (fun _ => rfl)
  have by2_0 : z31.toInt < 2 → w2_32 = 0 := own_beyond (g := fun v => v ||| ((1 : Int64) <<< (xa &&& 0x3f).toInt64)) (i := 2) (I := (2 : Int32)) (by decide) hw2_32 z_xa (fun _ => rfl)
  have by3_0 : z31.toInt < 3 → w3_32 = 0 := own_beyond (g := fun v => v ||| ((1 : Int64) <<< (xa &&& 0x3f).toInt64)) (i := 3) (I := (3 : Int32)) (by decide) hw3_32 z_xa (fun _ => rfl)
  have by1_1 : z31.toInt < 1 → w1_41 = 0 := own_beyond (g := fun v => v ||| ((1 : Int64) <<< (xb &&& 0x3f).toInt64)) (i := 1) (I := (1 : Int32)) (by decide) hw1_41 z_xb by1_0
  have by2_1 : z31.toInt < 2 → w2_41 = 0 := own_beyond (g := fun v => v ||| ((1 : Int64) <<< (xb &&& 0x3f).toInt64)) (i := 2) (I := (2 : Int32)) (by decide) hw2_41 z_xb by2_0
  have by3_1 : z31.toInt < 3 → w3_41 = 0 := own_beyond (g := fun v => v ||| ((1 : Int64) <<< (xb &&& 0x3f).toInt64)) (i := 3) (I := (3 : Int32)) (by decide) hw3_41 z_xb by3_0
  have by1_2 : z31.toInt < 1 → w1_49 = 0 := own_beyond (g := fun v => v ||| ((1 : Int64) <<< (xc &&& 0x3f).toInt64)) (i := 1) (I := (1 : Int32)) (by decide) hw1_49 z_xc by1_1
  have by2_2 : z31.toInt < 2 → w2_49 = 0 := own_beyond (g := fun v => v ||| ((1 : Int64) <<< (xc &&& 0x3f).toInt64)) (i := 2) (I := (2 : Int32)) (by decide) hw2_49 z_xc by2_1
  have by3_2 : z31.toInt < 3 → w3_49 = 0 := own_beyond (g := fun v => v ||| ((1 : Int64) <<< (xc &&& 0x3f).toInt64)) (i := 3) (I := (3 : Int32)) (by decide) hw3_49 z_xc by3_1
  have by1_3 : z31.toInt < 1 → w1_57 = 0 := own_beyond (g := fun v => v &&& (((1 : Int64) <<< (xa &&& 0x3f).toInt64) ^^^ (-1 : Int64))) (i := 1) (I := (1 : Int32)) (by decide) hw1_57 z_xa by1_2
  have by2_3 : z31.toInt < 2 → w2_57 = 0 := own_beyond (g := fun v => v &&& (((1 : Int64) <<< (xa &&& 0x3f).toInt64) ^^^ (-1 : Int64))) (i := 2) (I := (2 : Int32)) (by decide) hw2_57 z_xa by2_2
  have by3_3 : z31.toInt < 3 → w3_57 = 0 := own_beyond (g := fun v => v &&& (((1 : Int64) <<< (xa &&& 0x3f).toInt64) ^^^ (-1 : Int64))) (i := 3) (I := (3 : Int32)) (by decide) hw3_57 z_xa by3_2
  have hM : ∀ f : Int32, (0 ≤ f.toInt ∧ f.toInt < (256 : Int32).toInt) → (own_M w0_57 w1_57 w2_57 w3_57 f ↔ (((¬ fC = 0 ∧ f = xc) ∨ (¬ fB = 0 ∧ f = xb) ∨ (¬ fA = 0 ∧ f = xa)) ∧ ¬ (¬ fR = 0 ∧ f = xa))) := by
    intro f rf
    rw [own_Mcr (n := (256 : Int32)) (by decide) (own_rng hn r_xa) rf hw0_57 hw1_57 hw2_57 hw3_57, own_Mca (n := (256 : Int32)) (by decide) (own_rng hn r_xc) rf hw0_49 hw1_49 hw2_49 hw3_49, own_Mca (n := (256 : Int32)) (by decide) (own_rng hn r_xb) rf hw0_41 hw1_41 hw2_41 hw3_41, own_Mca (n := (256 : Int32)) (by decide) (own_rng hn r_xa) rf hw0_32 hw1_32 hw2_32 hw3_32]
    simp [own_M0]
  obtain ⟨rr, hrr⟩ : ∃ y : Int32, y = if ne = 0 then (1 : Int32) else 0 := ⟨_, rfl⟩
  obtain ⟨cq98, kq98, q98a, q98b, q98c⟩ := isOf hZ e65 Ea58
  obtain ⟨_, _, ⟨T98, L98, k98, n98⟩, -, X98, ⟨Lc98, hQ98, l98, y98, z98⟩, st98⟩ := X65.virtualBack hx (y := (⟨"com/example/phase7/phase7/metadata/FieldSet", "isEmpty", "()Z"⟩ : MethodName)) (z := (⟨"com/example/phase7/phase7/metadata/FieldSet", "isEmpty", "()Z"⟩ : MethodName)) hown (mvT hZ (hw _ (List.mem_of_getElem? (i := 14) rfl))) (mvT hZ (hw _ (List.mem_of_getElem? (i := 15) rfl))) (notFace_of_selects (args := #[]) (mvT hZ (hw _ (List.mem_of_getElem? (i := 17) rfl)))) (mvT hZ (hw _ (List.mem_of_getElem? (i := 17) rfl))) (mvT hZ (hw _ (List.mem_of_getElem? (i := 16) rfl))) (by decide) (backOf (W := 0) (rmE l Z a0 hw [] b30 b31 kb31 z31 rr w0_57 w1_57 w2_57 w3_57 T58.heap n0 (Nat.le_trans (Nat.le_trans (Nat.le_trans (Nat.le_trans (Nat.le_trans (Nat.le_trans Z0 E30.1) K31.1) K34.1) K42.1) K50.1) K58.1) Ff58 Fg58 Vb58 rz ⟨by1_3, by2_3, by3_3⟩ (hrr.trans (own_emp (M := fun _ => True) hM (own_rng hn r_xa) (own_rng hn r_xb) (own_rng hn r_xc) hne))) hZ (hw _ (List.mem_of_getElem? (i := 18) rfl)) (hw _ (List.mem_of_getElem? (i := 3) rfl)) (by decide) (by decide)) q98a q98c (g := (mkF m 215 #[.val (.int p1), .val (.int p2), .val (.int p3), .val (.int p4), .val (.int p5), .val (.int n1), .val (.int xa), .val (.int xb), .val (.int xc), .val (.int fA), .val (.int fB), .val (.int fC), .val (.int fR), .val (.ref b30), .val (.int ne)] [(.ref b30)])) rfl (by rw [hml]; rfl) (Steps.refl _) (argsL := []) (rest := []) (lenOf pd_rm0_1 rfl) rfl (by show 2 * 0 + _ ≤ _; exact Nat.le_of_eq rfl) (hb hby at_215) (fun _ _ => ⟨rfl, e65, (by decide : 2 + 0 ≤ _), (by decide : 5 + 0 ≤ _)⟩)
  dsimp only [Pt.U, Pt.locs, Pt.cells, Pt.slots] at X98 l98 y98 z98 st98 hQ98
  subst l98 y98 z98
  obtain ⟨rfl, N98q, hE98⟩ := hQ98
  have N98 := Fr.app N65 N98q
  have pre99 : ∀ tt, Steps p.tables e below (T98.setTop (mkF m 220 #[.val (.int p1), .val (.int p2), .val (.int p3), .val (.int p4), .val (.int p5), .val (.int n1), .val (.int xa), .val (.int xb), .val (.int xc), .val (.int fA), .val (.int fB), .val (.int fC), .val (.int fR), .val (.ref b30), .val (.int ne)] [(.int ne), (.int rr)])) tt → Steps p.tables e below (s₁.setTop (entryFrame m #[(.int p1), (.int p2), (.int p3), (.int p4), (.int p5)] maxLocals)) tt := by
    intro tt kt
    refine pre97 tt ?_
    show Steps p.tables e below (T65.setTop (mkF m 213 #[.val (.int p1), .val (.int p2), .val (.int p3), .val (.int p4), .val (.int p5), .val (.int n1), .val (.int xa), .val (.int xb), .val (.int xc), .val (.int fA), .val (.int fB), .val (.int fC), .val (.int fR), .val (.ref b30), .val (.int ne)] [])) _
    refine XS.aload X65.here hx rfl (hb hby at_213) rfl rfl ?_
    show Steps p.tables e below (T65.setTop (mkF m 215 #[.val (.int p1), .val (.int p2), .val (.int p3), .val (.int p4), .val (.int p5), .val (.int n1), .val (.int xa), .val (.int xb), .val (.int xc), .val (.int fA), .val (.int fB), .val (.int fC), .val (.int fR), .val (.ref b30), .val (.int ne)] [(.ref b30)])) _
    refine st98.trans ?_
    show Steps p.tables e below (T98.setTop (mkF m 218 #[.val (.int p1), .val (.int p2), .val (.int p3), .val (.int p4), .val (.int p5), .val (.int n1), .val (.int xa), .val (.int xb), .val (.int xc), .val (.int fA), .val (.int fB), .val (.int fC), .val (.int fR), .val (.ref b30), .val (.int ne)] [(.int rr)])) _
    refine XS.iload X98.here hx rfl (hb hby at_218) rfl ?_
    exact kt
  by_cases c220_100 : ne = (0 : Int32)
  · have pre101 : ∀ tt, Steps p.tables e below (T98.setTop (mkF m 236 #[.val (.int p1), .val (.int p2), .val (.int p3), .val (.int p4), .val (.int p5), .val (.int n1), .val (.int xa), .val (.int xb), .val (.int xc), .val (.int fA), .val (.int fB), .val (.int fC), .val (.int fR), .val (.ref b30), .val (.int ne)] [(.int (1 : Int32))])) tt → Steps p.tables e below (s₁.setTop (entryFrame m #[(.int p1), (.int p2), (.int p3), (.int p4), (.int p5)] maxLocals)) tt := by
      intro tt kt
      refine pre99 tt ?_
      show Steps p.tables e below (T98.setTop (mkF m 220 #[.val (.int p1), .val (.int p2), .val (.int p3), .val (.int p4), .val (.int p5), .val (.int n1), .val (.int xa), .val (.int xb), .val (.int xc), .val (.int fA), .val (.int fB), .val (.int fC), .val (.int fR), .val (.ref b30), .val (.int ne)] [(.int ne), (.int rr)])) _
      refine XS.ifNo X98.here hx rfl (hb hby at_220) rfl ((if0 _ _).trans (teq c220_100).2) ?_
      show Steps p.tables e below (T98.setTop (mkF m 223 #[.val (.int p1), .val (.int p2), .val (.int p3), .val (.int p4), .val (.int p5), .val (.int n1), .val (.int xa), .val (.int xb), .val (.int xc), .val (.int fA), .val (.int fB), .val (.int fC), .val (.int fR), .val (.ref b30), .val (.int ne)] [(.int rr)])) _
      refine XS.iconst X98.here hx rfl (hb hby at_223) ?_
      show Steps p.tables e below (T98.setTop (mkF m 224 #[.val (.int p1), .val (.int p2), .val (.int p3), .val (.int p4), .val (.int p5), .val (.int n1), .val (.int xa), .val (.int xb), .val (.int xc), .val (.int fA), .val (.int fB), .val (.int fC), .val (.int fR), .val (.ref b30), .val (.int ne)] [(.int (1 : Int32)), (.int rr)])) _
      refine XS.goto X98.here hx rfl (pc0 := 224) (pc' := 228) rfl (hb hby at_224) (by decide) (by decide) ?_
      show Steps p.tables e below (T98.setTop (mkF m 228 #[.val (.int p1), .val (.int p2), .val (.int p3), .val (.int p4), .val (.int p5), .val (.int n1), .val (.int xa), .val (.int xb), .val (.int xc), .val (.int fA), .val (.int fB), .val (.int fC), .val (.int fR), .val (.ref b30), .val (.int ne)] [(.int (1 : Int32)), (.int rr)])) _
      refine XS.icmpNo X98.here hx rfl (hb hby at_228) rfl (teq (by rw [hrr, if_pos c220_100])).2 ?_
      show Steps p.tables e below (T98.setTop (mkF m 231 #[.val (.int p1), .val (.int p2), .val (.int p3), .val (.int p4), .val (.int p5), .val (.int n1), .val (.int xa), .val (.int xb), .val (.int xc), .val (.int fA), .val (.int fB), .val (.int fC), .val (.int fR), .val (.ref b30), .val (.int ne)] [])) _
      refine XS.iconst X98.here hx rfl (hb hby at_231) ?_
      show Steps p.tables e below (T98.setTop (mkF m 232 #[.val (.int p1), .val (.int p2), .val (.int p3), .val (.int p4), .val (.int p5), .val (.int n1), .val (.int xa), .val (.int xb), .val (.int xc), .val (.int fA), .val (.int fB), .val (.int fC), .val (.int fR), .val (.ref b30), .val (.int ne)] [(.int (1 : Int32))])) _
      refine XS.goto X98.here hx rfl (pc0 := 232) (pc' := 236) rfl (hb hby at_232) (by decide) (by decide) ?_
      exact kt
    obtain ⟨fs, hr, hrun, hended, hW, hsame⟩ := X98.leave (v := some (.int (1 : Int32))) (fun h => by rw [Bd.returns] at h; cases h)
    refine ⟨_, _, pre101 _ ?_, hrun, hended, _, _, rfl, ?_, ⟨_, rfl⟩, hW, hsame.mono (by decide) (by decide)⟩
    · show Steps p.tables e below (T98.setTop (mkF m 236 #[.val (.int p1), .val (.int p2), .val (.int p3), .val (.int p4), .val (.int p5), .val (.int n1), .val (.int xa), .val (.int xb), .val (.int xc), .val (.int fA), .val (.int fB), .val (.int fC), .val (.int fR), .val (.ref b30), .val (.int ne)] [(.int (1 : Int32))])) _
      exact retN X98 hx (t := .boolean) Bd.returns (by simp) (hb hby at_236) hr
    · show Q0 Z h0 n0 _ T98.heap _
      rw [hE98]
      exact ⟨rfl, N98⟩
  · have pre102 : ∀ tt, Steps p.tables e below (T98.setTop (mkF m 236 #[.val (.int p1), .val (.int p2), .val (.int p3), .val (.int p4), .val (.int p5), .val (.int n1), .val (.int xa), .val (.int xb), .val (.int xc), .val (.int fA), .val (.int fB), .val (.int fC), .val (.int fR), .val (.ref b30), .val (.int ne)] [(.int (1 : Int32))])) tt → Steps p.tables e below (s₁.setTop (entryFrame m #[(.int p1), (.int p2), (.int p3), (.int p4), (.int p5)] maxLocals)) tt := by
      intro tt kt
      refine pre99 tt ?_
      show Steps p.tables e below (T98.setTop (mkF m 220 #[.val (.int p1), .val (.int p2), .val (.int p3), .val (.int p4), .val (.int p5), .val (.int n1), .val (.int xa), .val (.int xb), .val (.int xc), .val (.int fA), .val (.int fB), .val (.int fC), .val (.int fR), .val (.ref b30), .val (.int ne)] [(.int ne), (.int rr)])) _
      refine XS.ifYes X98.here hx rfl (pc0 := 220) (pc' := 227) rfl (hb hby at_220) rfl ((if0 _ _).trans (feq c220_100).2) (by decide) (by decide) ?_
      show Steps p.tables e below (T98.setTop (mkF m 227 #[.val (.int p1), .val (.int p2), .val (.int p3), .val (.int p4), .val (.int p5), .val (.int n1), .val (.int xa), .val (.int xb), .val (.int xc), .val (.int fA), .val (.int fB), .val (.int fC), .val (.int fR), .val (.ref b30), .val (.int ne)] [(.int rr)])) _
      refine XS.iconst X98.here hx rfl (hb hby at_227) ?_
      show Steps p.tables e below (T98.setTop (mkF m 228 #[.val (.int p1), .val (.int p2), .val (.int p3), .val (.int p4), .val (.int p5), .val (.int n1), .val (.int xa), .val (.int xb), .val (.int xc), .val (.int fA), .val (.int fB), .val (.int fC), .val (.int fR), .val (.ref b30), .val (.int ne)] [(.int (0 : Int32)), (.int rr)])) _
      refine XS.icmpNo X98.here hx rfl (hb hby at_228) rfl (teq (by rw [hrr, if_neg c220_100])).2 ?_
      show Steps p.tables e below (T98.setTop (mkF m 231 #[.val (.int p1), .val (.int p2), .val (.int p3), .val (.int p4), .val (.int p5), .val (.int n1), .val (.int xa), .val (.int xb), .val (.int xc), .val (.int fA), .val (.int fB), .val (.int fC), .val (.int fR), .val (.ref b30), .val (.int ne)] [])) _
      refine XS.iconst X98.here hx rfl (hb hby at_231) ?_
      show Steps p.tables e below (T98.setTop (mkF m 232 #[.val (.int p1), .val (.int p2), .val (.int p3), .val (.int p4), .val (.int p5), .val (.int n1), .val (.int xa), .val (.int xb), .val (.int xc), .val (.int fA), .val (.int fB), .val (.int fC), .val (.int fR), .val (.ref b30), .val (.int ne)] [(.int (1 : Int32))])) _
      refine XS.goto X98.here hx rfl (pc0 := 232) (pc' := 236) rfl (hb hby at_232) (by decide) (by decide) ?_
      exact kt
    obtain ⟨fs, hr, hrun, hended, hW, hsame⟩ := X98.leave (v := some (.int (1 : Int32))) (fun h => by rw [Bd.returns] at h; cases h)
    refine ⟨_, _, pre102 _ ?_, hrun, hended, _, _, rfl, ?_, ⟨_, rfl⟩, hW, hsame.mono (by decide) (by decide)⟩
    · show Steps p.tables e below (T98.setTop (mkF m 236 #[.val (.int p1), .val (.int p2), .val (.int p3), .val (.int p4), .val (.int p5), .val (.int n1), .val (.int xa), .val (.int xb), .val (.int xc), .val (.int fA), .val (.int fB), .val (.int fC), .val (.int fR), .val (.ref b30), .val (.int ne)] [(.int (1 : Int32))])) _
      exact retN X98 hx (t := .boolean) Bd.returns (by simp) (hb hby at_236) hr
    · show Q0 Z h0 n0 _ T98.heap _
      rw [hE98]
      exact ⟨rfl, N98⟩
set_option maxRecDepth 65536 in
set_option maxHeartbeats 40000000 in
theorem comes_1 {Post : Tables → Env → Array Value → State → Outcome → State → Prop} (hpost : ∀ tb e args s v u, (limb_1_1.after args s (.returned v) u = true ∧ limb_1_2.after args s (.returned v) u = true ∧ True) → FrameEnd s (.returned v) u (Jvm.fieldLocs frame_1_writes args s ++ Jvm.arrayLocs frame_1_arrays args s ++ Jvm.staticLocs frame_1_statics s) 16 128 → Post tb e args s (.returned v) u) :
    ArmFor flags0 classFile x code maxLocals ret World_1 tables_1 room_1 Calls_1 rest_1 Pre_1 Post := by
  intro l hfl _ _ p e ha hc hk s m args below hf hA hF happ hP
  obtain ⟨hcalls, hrest, hpre⟩ := hP
  obtain ⟨-, -, -, hnamed, -, -, -, hat⟩ := (Spec.applies_iff hf).mp happ
  obtain ⟨hg, hn⟩ := and_e (Cond.before_iff.mp (show (Jvm.Cond.and given_1 narrow_1).before args s = true from hpre))
  have hw := fun d (hd : d ∈ tables_1) => atoms_spec (ws := Jvm.Cond.code x code maxLocals ret :: tables_1) hat d (List.mem_cons_of_mem _ hd)
  obtain ⟨g1a, g1b⟩ := and_e hg
  obtain ⟨g2a, g2b⟩ := and_e g1b
  obtain ⟨g3a, g3b⟩ := and_e g2b
  obtain ⟨g4a, g4b⟩ := and_e g3b
  obtain ⟨g5a, g5b⟩ := and_e g4b
  obtain ⟨w0, w1, w2, w3, w4, rfl⟩ : ∃ w0 w1 w2 w3 w4 : Value, args = #[w0, w1, w2, w3, w4] := by
    have hs : args.size = 5 := by simpa [Cond.value, given_1] using g1a
    obtain ⟨L⟩ := args
    match L, hs with
    | [w0, w1, w2, w3, w4], _ => exact ⟨w0, w1, w2, w3, w4, rfl⟩
  have hfit : Fit s := fun {y c} hc i hi => by
    obtain ⟨ha, rfl⟩ := Array.getElem?_eq_some_iff.mp hc
    have q := List.all_eq_true.mp ((Array.all_eq_true_iff_forall_mem.mp hF) _ (Array.getElem_mem ha)) i (List.mem_range.mpr hi)
    simpa [Array.getElem?_eq_getElem hi] using q
  obtain ⟨i0, ei0⟩ := is_v g2a
  obtain rfl : w0 = (.int i0) := Option.some.inj ei0
  obtain ⟨i1, ei1⟩ := is_v g3a
  obtain rfl : w1 = (.int i1) := Option.some.inj ei1
  obtain ⟨i2, ei2⟩ := is_v g4a
  obtain rfl : w2 = (.int i2) := Option.some.inj ei2
  obtain ⟨i3, ei3⟩ := is_v g5a
  obtain rfl : w3 = (.int i3) := Option.some.inj ei3
  obtain ⟨i4, ei4⟩ := is_v g5b
  obtain rfl : w4 = (.int i4) := Option.some.inj ei4
  obtain ⟨n1a, n1b⟩ := and_e hn
  obtain ⟨w_NO_WORDS, ev_NO_WORDS⟩ := arr_v n1a
  have S_NO_WORDS := Sta.start ev_NO_WORDS (Or.inr ⟨(hw _ (List.mem_of_getElem? (i := 3) rfl)), (hw _ (List.mem_of_getElem? (i := 11) rfl))⟩)
  obtain ⟨cl_NO_WORDS, A_NO_WORDS⟩ := Arr.start ev_NO_WORDS n1a
  have l_NO_WORDS := own_len ev_NO_WORDS A_NO_WORDS n1b
  have lt_NO_WORDS := own_lenlt ev_NO_WORDS A_NO_WORDS n1b
  have V_N : Arv s s.heap w_NO_WORDS cl_NO_WORDS.cls .long (0 : Int32) [(.long (0 : Int64)), (.long (0 : Int64)), (.long (0 : Int64))] (.long (0 : Int64)) := by
    have q : Arv s s.heap w_NO_WORDS cl_NO_WORDS.cls .long (0 : Int32) [] (.long (0 : Int64)) := Arv.start hfit A_NO_WORDS lt_NO_WORDS l_NO_WORDS (by decide) rfl trivial
    exact q.pad (pad_rep [] _ 3)
  obtain ⟨n, o, h1, h2, h3, _, L, rfl, ⟨rfl, N⟩, hq⟩ := rm0 l s _ hw tables_1 i0 i1 i2 i3 i4 w_NO_WORDS cl_NO_WORDS.cls s.heap s.heap.size (Nat.le_refl _) S_NO_WORDS V_N p e ha hc hk s m _ below hf ((Spec.applies_iff_loose hf).mp happ).1 ⟨rfl, State.Warmed39.refl s, rfl⟩ trivial
  refine ⟨n, _, h1, h2, h3, hpost _ _ _ _ _ _ ⟨Cond.after_iff.mpr rfl, Cond.after_iff.mpr (eq_i res_at (Term.int_eval (1)) rfl), trivial⟩ ⟨hq.1, hq.2.1, (hq.2.2.sift fun y hy => Or.inr (N y hy)).mono (by decide) (by decide)⟩⟩
theorem main_1_1 : Claimed_1_1 := comes_1 fun _ _ _ _ _ _ h hF => ⟨h.1, hF⟩
theorem main_1_2 : Claimed_1_2 := comes_1 fun _ _ _ _ _ _ h hF => ⟨h.2.1, hF⟩
end Jvm.Pilot.@@N@@
namespace Jvm.Pilot.@@N@@
open Jvm Jvm.ClassFile Sem Op Lib Jvm.Free Jvm.Stand Jvm.Pilot.@@N@@.Jvm.D
/-! MADE BY PROGRAM (witnessworld.py) out of the Statement's table words and the real class files: 11 classes; the members and pool entries that the words name. The judged class is class 1, her method 1. -/
namespace start1
open Jvm.ClassFile
def u (s : String) : CpInfo := .utf8 (stringToUtf16 s)
/-- a pool by its gaps: so many unusable entries, then the entry; so many at the end -/
def gap : Nat → List CpInfo → List CpInfo
  | 0, r => r
  | n + 1, r => .unusable :: gap n r
def poolList (es : List (Nat × CpInfo)) (last : Nat) : List CpInfo := es.foldr (fun e r => gap e.1 (e.2 :: r)) (gap last [])
def pool (es : List (Nat × CpInfo)) (last : Nat) : Array CpInfo := ⟨poolList es last⟩
def fileOf (pool : Array CpInfo) (this : Nat) (attrs : Array Attribute := #[]) (ms : Array MethodInfo := #[]) (fl : Nat := 33) (sup : Nat := 0) (ifs : Array Nat := #[]) (fds : Array FieldInfo := #[]) : ClassFile where
  minorVersion := 0
  majorVersion := 65
  constantPool := pool
  accessFlags := fl
  thisClass := this
  superClass := sup
  interfaces := ifs
  fields := fds
  methods := ms
  attributes := attrs
def plain (name : String) (sup : Option ClassId) : Class where
  name := name
  kind := .ordinary
  loader := none
  accessFlags := 33
  super := sup
  interfaces := #[]
  cf := none
  fields := #[]
  methods := #[]
  instanceTypes := #[]
  staticTypes := #[]
  resolved := #[]
  callSites := []
  init := .initialized
  statics := none
  mirror := none

def pool0 : Array CpInfo := pool [(5, u "<init>"), (0, u "()V"), (1, .class_ 10), (1, u "java/lang/Object")] 113

def k0c0 : Code := { maxStack := 0, maxLocals := 1, code := object_method_1_code, exceptionTable := #[], attributes := #[] }
def k0m0 : Method := { name := "<init>", desc := "()V", sig := { parameters := [], returnType := none }, accessFlags := 1, code := some k0c0 }
/-- java/lang/Object -/
def k0 : Class := { plain "java/lang/Object" none with
  accessFlags := 33
  interfaces := #[]
  cf := some (fileOf pool0 8 #[] #[{ accessFlags := 1, nameIndex := 5, descriptorIndex := 6, attributes := #[] }] 33 0 #[] #[])
  fields := #[]
  methods := #[k0m0]
  instanceTypes := #[]
  staticTypes := #[]
  resolved := Array.replicate 124 none
  statics := none }

def pool1 : Array CpInfo := pool [(2, .class_ 4), (1, u "java/lang/Object"), (0, u "<init>"), (0, u "()V"), (0, .integer 2147483647), (0, .class_ 9), (0, u "com/example/phase7/phase7/metadata/FieldSet"), (0, .methodref 8 11), (0, .nameAndType 5 12), (0, u "(I)V"), (0, .methodref 8 14), (0, .nameAndType 15 12), (0, u "add"), (0, .methodref 8 17), (0, .nameAndType 18 12), (0, u "remove"), (0, .methodref 8 20), (0, .nameAndType 21 22), (0, u "isEmpty"), (0, u "()Z"), (0, .class_ 24), (0, u "com/example/phase7/phase7/metadata/FieldSetIsEmptyPinLaw"), (2, u "law"), (0, u "(IIIII)Z")] 3

def k1m0 : Method := { name := "<init>", desc := "()V", sig := { parameters := [], returnType := none }, accessFlags := 2, code := none }
def k1c1 : Code := { maxStack := 3, maxLocals := 15, code := code, exceptionTable := #[], attributes := #[] }
def k1m1 : Method := { name := "law", desc := "(IIIII)Z", sig := { parameters := [.int, .int, .int, .int, .int], returnType := some .boolean }, accessFlags := 9, code := some k1c1 }
/-- com/example/phase7/phase7/metadata/FieldSetIsEmptyPinLaw -/
def k1 : Class := { plain "com/example/phase7/phase7/metadata/FieldSetIsEmptyPinLaw" (some 0) with
  accessFlags := 49
  interfaces := #[]
  cf := some (fileOf pool1 23 #[] #[{ accessFlags := 2, nameIndex := 5, descriptorIndex := 6, attributes := #[] }, { accessFlags := 9, nameIndex := 27, descriptorIndex := 28, attributes := #[] }] 49 2 #[] #[])
  fields := #[]
  methods := #[k1m0, k1m1]
  instanceTypes := #[]
  staticTypes := #[]
  resolved := Array.replicate 32 none
  statics := none }

def pool2 : Array CpInfo := pool [(3, .methodref 4 5), (0, .class_ 6), (0, .nameAndType 7 8), (0, u "java/lang/Object"), (0, u "<init>"), (0, u "()V"), (0, .class_ 10), (0, u "com/example/phase7/phase7/metadata/FieldSet"), (0, .fieldref 9 12), (0, .nameAndType 13 14), (0, u "NO_WORDS"), (0, u "[J"), (0, .fieldref 9 16), (0, .nameAndType 17 14), (0, u "further"), (0, .fieldref 9 19), (0, .nameAndType 20 21), (0, u "first"), (0, u "J"), (0, .long 18446744073709551615), (44, u "WORD"), (0, u "I"), (2, u "(I)V"), (5, u "add"), (0, u "remove"), (4, u "isEmpty"), (0, u "()Z")] 10

def k2c0 : Code := { maxStack := 3, maxLocals := 2, code := prog_6_method_1_code, exceptionTable := #[], attributes := #[] }
def k2m0 : Method := { name := "<init>", desc := "(I)V", sig := { parameters := [.int], returnType := none }, accessFlags := 1, code := some k2c0 }
def k2c1 : Code := { maxStack := 7, maxLocals := 2, code := prog_6_method_4_code, exceptionTable := #[], attributes := #[] }
def k2m1 : Method := { name := "add", desc := "(I)V", sig := { parameters := [.int], returnType := none }, accessFlags := 1, code := some k2c1 }
def k2c2 : Code := { maxStack := 8, maxLocals := 2, code := prog_6_method_5_code, exceptionTable := #[], attributes := #[] }
def k2m2 : Method := { name := "remove", desc := "(I)V", sig := { parameters := [.int], returnType := none }, accessFlags := 1, code := some k2c2 }
def k2c3 : Code := { maxStack := 4, maxLocals := 3, code := prog_6_method_9_code, exceptionTable := #[], attributes := #[] }
def k2m3 : Method := { name := "isEmpty", desc := "()Z", sig := { parameters := [], returnType := some .boolean }, accessFlags := 1, code := some k2c3 }
/-- com/example/phase7/phase7/metadata/FieldSet -/
def k2 : Class := { plain "com/example/phase7/phase7/metadata/FieldSet" (some 0) with
  accessFlags := 49
  interfaces := #[]
  cf := some (fileOf pool2 9 #[] #[{ accessFlags := 1, nameIndex := 7, descriptorIndex := 71, attributes := #[] }, { accessFlags := 1, nameIndex := 77, descriptorIndex := 71, attributes := #[] }, { accessFlags := 1, nameIndex := 78, descriptorIndex := 71, attributes := #[] }, { accessFlags := 1, nameIndex := 83, descriptorIndex := 84, attributes := #[] }] 49 4 #[] #[{ accessFlags := 26, nameIndex := 67, descriptorIndex := 68, attributes := #[] }, { accessFlags := 26, nameIndex := 13, descriptorIndex := 14, attributes := #[] }, { accessFlags := 2, nameIndex := 20, descriptorIndex := 21, attributes := #[] }, { accessFlags := 18, nameIndex := 17, descriptorIndex := 14, attributes := #[] }])
  fields := #[{ name := "WORD", type := .int, accessFlags := 26, slot := 0, constantValue := 0 }, { name := "NO_WORDS", type := (.array .long), accessFlags := 26, slot := 1, constantValue := 0 }, { name := "first", type := .long, accessFlags := 2, slot := 0, constantValue := 0 }, { name := "further", type := (.array .long), accessFlags := 18, slot := 1, constantValue := 0 }]
  methods := #[k2m0, k2m1, k2m2, k2m3]
  instanceTypes := #[.long, (.array .long)]
  staticTypes := #[.int, (.array .long)]
  resolved := Array.replicate 95 none
  statics := some 0 }

def pool3 : Array CpInfo := pool [(1, u "java/lang/Cloneable"), (0, .class_ 1), (0, u "java/lang/Object"), (0, .class_ 3)] 3

/-- java/lang/Cloneable -/
def k3 : Class := { plain "java/lang/Cloneable" (some 0) with
  accessFlags := 1537
  interfaces := #[]
  cf := some (fileOf pool3 2 #[] #[] 1537 4 #[] #[])
  fields := #[]
  methods := #[]
  instanceTypes := #[]
  staticTypes := #[]
  resolved := Array.replicate 8 none
  statics := none }

def pool4 : Array CpInfo := pool [(1, u "java/io/Serializable"), (0, .class_ 1), (0, u "java/lang/Object"), (0, .class_ 3)] 3

/-- java/io/Serializable -/
def k4 : Class := { plain "java/io/Serializable" (some 0) with
  accessFlags := 1537
  interfaces := #[]
  cf := some (fileOf pool4 2 #[] #[] 1537 4 #[] #[])
  fields := #[]
  methods := #[]
  instanceTypes := #[]
  staticTypes := #[]
  resolved := Array.replicate 8 none
  statics := none }

/-- the primitive byte -/
def k5 : Class := { plain "byte" none with kind := .primitive 'B', accessFlags := 0x411 }
/-- [B -/
def k6 : Class := { plain "[B" (some 0) with kind := .array 5 .byte, interfaces := #[3, 4], accessFlags := 1041 }

/-- the primitive int -/
def k7 : Class := { plain "int" none with kind := .primitive 'I', accessFlags := 0x411 }
/-- [I -/
def k8 : Class := { plain "[I" (some 0) with kind := .array 7 .int, interfaces := #[3, 4], accessFlags := 1041 }

/-- the primitive long -/
def k9 : Class := { plain "long" none with kind := .primitive 'J', accessFlags := 0x411 }
/-- [J -/
def k10 : Class := { plain "[J" (some 0) with kind := .array 9 .long, interfaces := #[3, 4], accessFlags := 1041 }

def heap : Heap := #[{ cls := 2, slots := #[.int 0, .ref 1], vm := .statics 2 },
  { cls := 10, slots := #[], vm := .none }]
def classes : Array Class := #[k0, k1, k2, k3, k4, k5, k6, k7, k8, k9, k10]
def interned : List (Array UInt16 × Addr) := []
def slotsUsed : Nat := 2
def theMethod : MethodId := ⟨1, 1⟩
def args0 : Array Value := #[.int 1, .int 2, .int 3, .int 4, .int 5]
def aboutOver (below : List Frame) : State where
  vm := { classes := classes, interned := interned.toArray }
  heap := heap
  slotsUsed := slotsUsed
  threads := #[{ frames := .invoking theMethod args0 :: below }]
def below0 : List Frame := [.native { method := ⟨0, 0⟩, args := #[] }]
def about1 : State := aboutOver below0
def p0 : Program := .bare "" "" ""
def e0 : Env := launch0.env 0 0 0
theorem w_frames : about1.frames = Frame.invoking theMethod args0 :: below0 := rfl
set_option maxRecDepth 65536 in
theorem w_args : argsFit about1.vm theMethod args0 = true := by decide +kernel
set_option maxRecDepth 65536 in
theorem w_heap : heapFits about1 = true := by decide +kernel
set_option maxRecDepth 65536 in
theorem w_runnable : about1.curStatus? = some .runnable := by decide +kernel
set_option maxRecDepth 65536 in
theorem w_alone : about1.alone = true := by decide +kernel
set_option maxRecDepth 65536 in
theorem w_named : about1.methodNamed? x = some theMethod := by decide +kernel
set_option maxRecDepth 65536 in
theorem w_hears : about1.hears theMethod below0 = true := by decide +kernel
set_option maxRecDepth 65536 in
theorem w_ripe : about1.ripe theMethod args0 below0 = true := by decide +kernel
theorem w_running : about1.status = .running := rfl
set_option maxRecDepth 65536 in
theorem w_room : about1.hasRoom e0.platform room_1 = true :=
  launch0.hasRoom_least _ room_1 (by decide +kernel) (by decide +kernel) (by decide +kernel) (by decide +kernel) (by decide +kernel) (by decide +kernel)
theorem allAtoms_all (ts : List Jvm.Cond) (a : Array Jvm.Value) (st : Jvm.State) : (allAtoms ts).before a st = ts.all (fun c => c.before a st) := by
  induction ts with
  | nil => rfl
  | cons c t ih =>
    show (Jvm.Cond.and c (allAtoms t)).before a st = _
    rw [Jvm.Cond.before_and, ih, List.all_cons]
def words1 : List Jvm.Cond := Jvm.Cond.code x code maxLocals ret :: tables_1
/-- a 'code' word, met by the world's own term for the bytes: nothing is compared byte by byte -/
theorem code_word {y : MethodName} {bytes : ByteArray} {mx : Nat} {rt : Option FieldType} {a : Array Value} {s : State} {m : MethodId} {meth : Method} {c : Code} (h1 : s.methodNamed? y = some m) (h2 : s.vm.method? m = some meth) (h3 : meth.code = some c) (h4 : c.code = bytes)
    (h5 : (c.maxLocals == mx && c.exceptionTable.isEmpty && decide (c.maxStack ≤ mostOperands) && decide (meth.sig.returnType = rt) && !meth.locks && decide (parseMethodDescriptor y.desc = some meth.sig)) = true) : (Jvm.Cond.code y bytes mx rt).before a s = true := by
  simp only [Bool.and_eq_true, beq_iff_eq, Bool.not_eq_true', decide_eq_true_eq] at h5
  obtain ⟨⟨⟨⟨⟨g1, g2⟩, g3⟩, g4⟩, g5⟩, g6⟩ := h5
  simp [Cond.before, Cond.holds, Cond.value, h1, h2, h3, h4, g1, g2, g3, g4, g5, g6]
def isCode : Jvm.Cond → Bool
  | .code _ _ _ _ => true
  | _ => false
theorem all_split {L : List Jvm.Cond} {P : Jvm.Cond → Bool} (h1 : L.all (fun c => isCode c || P c) = true) (h2 : ∀ c ∈ L.filter isCode, P c = true) : L.all P = true := by
  refine List.all_eq_true.mpr fun c hc => ?_
  have h := List.all_eq_true.mp h1 c hc
  rcases Bool.eq_false_or_eq_true (isCode c) with hi | hi
  · exact h2 c (List.mem_filter.mpr ⟨hc, hi⟩)
  · simpa [hi] using h
set_option maxRecDepth 65536 in
theorem w_c0 : (Jvm.Cond.code x code maxLocals ret).before args0 about1 = true := code_word (m := ⟨1, 1⟩) (meth := k1m1) (c := k1c1) (by decide +kernel) rfl rfl rfl (by decide +kernel)
set_option maxRecDepth 65536 in
theorem w_c1 : (Jvm.Cond.code ({ cls := "com/example/phase7/phase7/metadata/FieldSet", name := "<init>", desc := "(I)V" } : Jvm.MethodName) prog_6_method_1_code (2 : Nat) (Option.none : Option Jvm.ClassFile.FieldType)).before args0 about1 = true := code_word (m := ⟨2, 0⟩) (meth := k2m0) (c := k2c0) (by decide +kernel) rfl rfl rfl (by decide +kernel)
set_option maxRecDepth 65536 in
theorem w_c2 : (Jvm.Cond.code ({ cls := "java/lang/Object", name := "<init>", desc := "()V" } : Jvm.MethodName) object_method_1_code (1 : Nat) (Option.none : Option Jvm.ClassFile.FieldType)).before args0 about1 = true := code_word (m := ⟨0, 0⟩) (meth := k0m0) (c := k0c0) (by decide +kernel) rfl rfl rfl (by decide +kernel)
set_option maxRecDepth 65536 in
theorem w_c3 : (Jvm.Cond.code ({ cls := "com/example/phase7/phase7/metadata/FieldSet", name := "isEmpty", desc := "()Z" } : Jvm.MethodName) prog_6_method_9_code (3 : Nat) (Option.some Jvm.ClassFile.FieldType.boolean)).before args0 about1 = true := code_word (m := ⟨2, 3⟩) (meth := k2m3) (c := k2c3) (by decide +kernel) rfl rfl rfl (by decide +kernel)
set_option maxRecDepth 65536 in
theorem w_c4 : (Jvm.Cond.code ({ cls := "com/example/phase7/phase7/metadata/FieldSet", name := "add", desc := "(I)V" } : Jvm.MethodName) prog_6_method_4_code (2 : Nat) (Option.none : Option Jvm.ClassFile.FieldType)).before args0 about1 = true := code_word (m := ⟨2, 1⟩) (meth := k2m1) (c := k2c1) (by decide +kernel) rfl rfl rfl (by decide +kernel)
set_option maxRecDepth 65536 in
theorem w_c5 : (Jvm.Cond.code ({ cls := "com/example/phase7/phase7/metadata/FieldSet", name := "remove", desc := "(I)V" } : Jvm.MethodName) prog_6_method_5_code (2 : Nat) (Option.none : Option Jvm.ClassFile.FieldType)).before args0 about1 = true := code_word (m := ⟨2, 2⟩) (meth := k2m2) (c := k2c2) (by decide +kernel) rfl rfl rfl (by decide +kernel)
def codes1 : List Jvm.Cond := [Jvm.Cond.code x code maxLocals ret, Jvm.Cond.code ({ cls := "com/example/phase7/phase7/metadata/FieldSet", name := "<init>", desc := "(I)V" } : Jvm.MethodName) prog_6_method_1_code (2 : Nat) (Option.none : Option Jvm.ClassFile.FieldType), Jvm.Cond.code ({ cls := "java/lang/Object", name := "<init>", desc := "()V" } : Jvm.MethodName) object_method_1_code (1 : Nat) (Option.none : Option Jvm.ClassFile.FieldType), Jvm.Cond.code ({ cls := "com/example/phase7/phase7/metadata/FieldSet", name := "isEmpty", desc := "()Z" } : Jvm.MethodName) prog_6_method_9_code (3 : Nat) (Option.some Jvm.ClassFile.FieldType.boolean), Jvm.Cond.code ({ cls := "com/example/phase7/phase7/metadata/FieldSet", name := "add", desc := "(I)V" } : Jvm.MethodName) prog_6_method_4_code (2 : Nat) (Option.none : Option Jvm.ClassFile.FieldType), Jvm.Cond.code ({ cls := "com/example/phase7/phase7/metadata/FieldSet", name := "remove", desc := "(I)V" } : Jvm.MethodName) prog_6_method_5_code (2 : Nat) (Option.none : Option Jvm.ClassFile.FieldType)]
set_option maxRecDepth 65536 in
theorem codes_eq : words1.filter isCode = codes1 := rfl
theorem w_codes : ∀ c ∈ words1.filter isCode, c.before args0 about1 = true := by
  rw [codes_eq]
  intro c hc
  simp only [codes1, List.mem_cons, List.not_mem_nil, or_false] at hc
  rcases hc with rfl | rfl | rfl | rfl | rfl | rfl
  · exact w_c0
  · exact w_c1
  · exact w_c2
  · exact w_c3
  · exact w_c4
  · exact w_c5
set_option maxRecDepth 65536 in
theorem w_t1 : (words1.take 24).all (fun c => isCode c || c.before args0 about1) = true := by decide +kernel
set_option maxRecDepth 65536 in
theorem w_t2 : (words1.drop 24).all (fun c => isCode c || c.before args0 about1) = true := by decide +kernel
theorem w_tables : (allAtoms (Jvm.Cond.code x code maxLocals ret :: tables_1)).before args0 about1 = true := by
  rw [allAtoms_all]
  show words1.all (fun c => c.before args0 about1) = true
  refine all_split ?_ w_codes
  rw [← List.take_append_drop 24 words1, List.all_append, w_t1, w_t2]
  rfl
set_option maxRecDepth 65536 in
theorem w_case : (Jvm.Cond.and given_1 narrow_1).before args0 about1 = true := by decide +kernel
theorem w_applies : (headSpec (Jvm.Cond.code x code maxLocals ret :: tables_1) room_1).applies x e0.platform about1 = true :=
  (Spec.applies_iff w_frames).mpr ⟨w_running, w_runnable, w_alone, w_named, w_hears, w_ripe, w_room, w_tables⟩
theorem atStart : AtStart classFile x code maxLocals ret World_1 tables_1 room_1 Calls_1 rest_1 Pre_1 launch0 p0 e0 about1 theMethod args0 below0 :=
  ⟨lists_1, trivial, launch0.admits_env _ _ _, launch0.least_env, fairChoices_fair.cas, fairChoices_fair.clock, w_frames, w_args, w_heap, w_applies, trivial, trivial, w_case⟩
end start1
theorem witness_1 : WitnessClaimed_1 := ⟨start1.p0, start1.e0, start1.about1, start1.theMethod, start1.args0, start1.below0, start1.atStart⟩
end Jvm.Pilot.@@N@@
