import JvmDerived
import JvmDerived.Pilot.@@N@@Statement
import JvmDerived.Pilot.@@N@@Code
set_option linter.unusedVariables false
set_option linter.unusedSimpArgs false
namespace Jvm.RoadKit
open Sem ClassFile Op Lib Jvm.Stand Jvm.Free Jvm.LawKit
section New
variable {p : Program} {l : Launch} {e : Env} {R : Room} {s : State} {m : MethodId} {args : Array Value} {below : List Frame} {meth : Method} {c : Code} {T : State} {locs : List Loc} {cells slots : Nat}
theorem retI (X : Stand p l e R s m args below meth c T locs cells slots) (hx : p.tables.exec = Jvm.exec) {pc : Nat} {Ls : Array Slot} {z : Int32} {rest : List Value} (hret : meth.sig.returnType = some .int) (hd : decode c.code pc = .ok (.ireturn, 1)) {fs : List Frame}
    (hl : ∀ (f : JFrame) (acts : List Action), f.method = m → f.locked = none → f.entered = [] → (doReturn e (T.setTop f) acts (some (.int z))).1 = T.setFrames fs) : Steps p.tables e below (T.setTop (mkF m pc Ls (.int z :: rest))) (T.setFrames fs) := by
  have hm' : T.vm.method? m = some meth := X.method'
  have hn : narrow .int (.int z) = .int z := rfl
  show Steps p.tables e below (T.setTop { method := m, pc := pc, locals := Ls, stack := _ :: rest, locked := none }) _
  jvm_step X.here [X.here.top, hx, hd, hm', hret, hn]
  first | (intro acts; rw [hl _ acts rfl rfl rfl]) | rw [hl _ _ rfl rfl rfl]
  exact Steps.refl _
end New
end Jvm.RoadKit
namespace Jvm.Pilot.@@N@@
open Jvm Jvm.ClassFile Sem Op Lib Jvm.Free Jvm.Stand Jvm.LawKit Jvm.RoadKit Bundle Jvm.Pilot.@@N@@.Jvm.D
theorem own_retb (z : Int32) (h : z = 0 ∨ z = 1) : narrow .boolean (.int z) = .int z := by rcases h with rfl | rfl <;> rfl
theorem own_rem (x n : Int32) (hn : 0 < n.toInt) : 0 ≤ ((x &&& (2147483647 : Int32)) % n).toInt ∧ ((x &&& (2147483647 : Int32)) % n).toInt < n.toInt := by
  have h1 := c_mask x (2147483647 : Int32) 31 (by decide) (by decide)
  have h2 := (c_iremV (x &&& (2147483647 : Int32)) n).1 (by omega) hn
  exact ⟨h2.1, h2.2.1⟩
theorem own_of3 {k : Int32} (h : 0 ≤ k.toInt ∧ k.toInt < 3) : k = 0 ∨ k = 1 ∨ k = 2 := by
  have h2 : k.toInt = (0 : Int32).toInt ∨ k.toInt = (1 : Int32).toInt ∨ k.toInt = (2 : Int32).toInt := by simp; omega
  simpa only [Int32.toInt_inj] using h2
theorem own_of5 {k : Int32} (h : 0 ≤ k.toInt ∧ k.toInt < 5) : k = 0 ∨ k = 1 ∨ k = 2 ∨ k = 3 ∨ k = 4 := by
  have h2 : k.toInt = (0 : Int32).toInt ∨ k.toInt = (1 : Int32).toInt ∨ k.toInt = (2 : Int32).toInt ∨ k.toInt = (3 : Int32).toInt ∨ k.toInt = (4 : Int32).toInt := by simp; omega
  simpa only [Int32.toInt_inj] using h2
theorem own_of6 {k : Int32} (h : 0 ≤ k.toInt ∧ k.toInt < 6) : k = 0 ∨ k = 1 ∨ k = 2 ∨ k = 3 ∨ k = 4 ∨ k = 5 := by
  have h2 : k.toInt = (0 : Int32).toInt ∨ k.toInt = (1 : Int32).toInt ∨ k.toInt = (2 : Int32).toInt ∨ k.toInt = (3 : Int32).toInt ∨ k.toInt = (4 : Int32).toInt ∨ k.toInt = (5 : Int32).toInt := by simp; omega
  simpa only [Int32.toInt_inj] using h2
theorem own_eqI {args : Array Value} {s : State} {t : Term} {k : Int32} (h : (Jvm.Cond.eq t (.int k)).value args s none s [] = some true) : t.eval args s none [] s = some (.int k) := by
  obtain ⟨u, v, hu, hv, k1, k2⟩ := cmp_v (Or.inl h)
  have hv2 : v = .int k := Option.some.inj (hv.symm.trans (Term.int_eval k))
  subst hv2
  cases u <;> simp [Cond.value, hu, hv] at h
  subst h; exact hu
theorem own_fld {args : Array Value} {s : State} {t : Term} {a : Addr} {C n d : String} {k : Int32} (ev : t.eval args s none [] s = some (.ref a)) (h : (Jvm.Cond.eq (.field t C n d) (.int k)).value args s none s [] = some true) : Fld s s.heap a C n d (.int k) :=
  Fld.start ((fld_at ev).symm.trans (own_eqI h))
theorem own_len {args : Array Value} {s : State} {t : Term} {a : Addr} {cl : Cell} {ty : FieldType} {k : Int32} (ev : t.eval args s none [] s = some (.ref a)) (A : Arr s s.heap a cl ty) (h : (Jvm.Cond.eq (.length t) (.int k)).value args s none s [] = some true) : cl.slots.size.toInt32 = k := by
  obtain ⟨b, c, e1, e2, e3⟩ := Term.length_spec (own_eqI h)
  cases ev.symm.trans e1
  cases (A.fin (Vm.Alike.refl _)).symm.trans e2
  exact (Value.int.inj e3).symm
theorem own_lenlt {args : Array Value} {s : State} {t : Term} {a : Addr} {cl : Cell} {ty : FieldType} {k : Int32} (ev : t.eval args s none [] s = some (.ref a)) (A : Arr s s.heap a cl ty) (h : (Jvm.Cond.eq (.length t) (.int k)).value args s none s [] = some true) : cl.slots.size < 2 ^ 31 := by
  have h1 := own_eqI h
  have h2 := A.fin (Vm.Alike.refl _)
  apply Classical.byContradiction
  intro h3
  simp [Term.eval, ev, h2, h3] at h1
theorem own_elem {args : Array Value} {s : State} {t u : Term} {a b : Addr} {cl : Cell} {ty : FieldType} {j : Int32} (ev : t.eval args s none [] s = some (.ref a)) (A : Arr s s.heap a cl ty) (hu : u.eval args s none [] s = some (.ref b)) (h : (Jvm.Cond.eq (.elem t (.int j)) u).value args s none s [] = some true) : cl.slots[j.toNatClampNeg]? = some (.ref b) := by
  obtain ⟨x, y, hx, hy, -, -⟩ := cmp_v (Or.inl h)
  cases hu.symm.trans hy
  have h2 := (elem_in hx ev (Term.int_eval j) A.1).2
  cases x <;> simp [Cond.value, hx, hy] at h
  subst h; exact h2
theorem own_fldN {args : Array Value} {s : State} {t : Term} {a : Addr} {C n d : String} (ev : t.eval args s none [] s = some (.ref a)) (h : (Jvm.Cond.eq (.field t C n d) .null).value args s none s [] = some true) : Fld s s.heap a C n d .null :=
  Fld.start ((fld_at ev).symm.trans (null_v h))
def own_IC (Z : State) (h : Heap) (wC : Addr) : Prop := ∃ cl : Cell, Arr Z h wC cl (.object "java/lang/Integer") ∧ cl.slots.size = 256 ∧ ∀ j : Int32, ¬ (j < 0 ∨ cl.slots.size ≤ j.toNatClampNeg) → ∃ b : Addr, cl.slots[j.toNatClampNeg]? = some (.ref b) ∧ Exa Z h b "java/lang/Integer"
theorem own_ICkeep {Z : State} {h h' : Heap} {wC : Addr} {ws : List Addr} (I : own_IC Z h wC) (K : Keep h h' ws) (q : wC ∉ ws) : own_IC Z h' wC := by
  obtain ⟨cl, A, S, H⟩ := I
  exact ⟨cl, ⟨K.2.1 _ _ A.1 q, A.2⟩, S, fun j hj => by obtain ⟨b, e, E⟩ := H j hj; exact ⟨b, e, E.keep K⟩⟩
theorem own_ICstart {s : State} {args : Array Value} {t : Term} {a : Addr} {cl : Cell} {X : Jvm.Cond} (et : ∀ idx, t.eval args s none idx s = some (.ref a)) (A : Arr s s.heap a cl (.object "java/lang/Integer")) (lt : cl.slots.size < 2 ^ 31) (l : cl.slots.size.toInt32 = (256 : Int32)) (h : (Jvm.Cond.all t (.and (.exactly (.elem t (.index 0)) "java/lang/Integer") X)).value args s none s [] = some true) : own_IC s s.heap a := by
  refine ⟨cl, A, ?_, fun j hj => ?_⟩
  · have h1 : cl.slots.size = (256 : Int32).toNatClampNeg := by rw [← l]; simp only [Int32.toNatClampNeg, len_toInt lt]; rfl
    exact h1
  · have nn : ¬ j < 0 := fun x => hj (Or.inl x)
    obtain ⟨u1, u2⟩ := and_e (Cond.all_elim (et []) (A.fin (Vm.Alike.refl _)) h j.toNatClampNeg (Nat.lt_of_not_le fun x => hj (Or.inr x)))
    obtain ⟨box, eb⟩ := exa_v u1
    exact ⟨box, (elem_f (et _) (idx_at nn) (A.fin (Vm.Alike.refl _)) nn).symm.trans eb, exa_at eb u1⟩
theorem own_ix128 {p : Int32} {n : Nat} (hs : n = 256) (h1 : ¬ p < (-128 : Int32)) (h2 : ¬ (127 : Int32) < p) : ¬ (p + (128 : Int32) < 0 ∨ n ≤ (p + (128 : Int32)).toNatClampNeg) := by
  rw [Int32.lt_iff_toInt_lt] at h1 h2
  have e1 : (-128 : Int32).toInt = -128 := by decide
  have e2 : (127 : Int32).toInt = 127 := by decide
  have e3 : (128 : Int32).toInt = 128 := by decide
  have h3 := c_iadd p (128 : Int32)
  have h4 := rng32 (p + (128 : Int32))
  have h5 : (0 : Int32).toInt = 0 := by decide
  rintro (h | h)
  · rw [Int32.lt_iff_toInt_lt] at h; omega
  · simp only [Int32.toNatClampNeg] at h; omega
theorem own_nsroot {Z : State} {a0 : Array Value} {O K : String} {t : ClassId} (w : (Jvm.Cond.noSuperclass O).before a0 Z = true) (g1 : Z.vm.findClass K = some t) (hn : O ≠ K) : NS Z O K := by
  obtain ⟨c, k, h1, h2, h3, -, -⟩ := Cond.noSuperclass_spec w
  have ne := ids_ne h1 g1 hn
  refine ⟨c, t, h1, g1, fun fuel => ?_⟩
  cases fuel with
  | zero => rfl
  | succ f => simp [Vm.isSubclassAux, ne, h2, h3]
theorem own_nsno {Z : State} {a0 : Array Value} {C S K : String} {m : Nat} (w : (Jvm.Cond.superclass C S).before a0 Z = true) (wk : (Jvm.Cond.instantiable K m).before a0 Z = true) (n : NS Z C K) (hn : C ≠ K) : ∃ c t, Z.vm.findClass C = some c ∧ Z.vm.findClass K = some t ∧ Z.vm.assignable c t = false := by
  obtain ⟨c, t, h0, g0, n3⟩ := n
  obtain ⟨p, k, kp, h1, h2, h3, h4, h5, -, h7⟩ := Cond.superclass_spec h0 w
  obtain ⟨t2, k', g1, g2, g5, g7, -⟩ := Cond.instantiable_spec wk
  cases g0.symm.trans g1
  have g8 : k'.isInterface = false := by
    cases q : k'.isInterface with
    | false => rfl
    | true => rw [q] at g7; simp at g7
  have ne := ids_ne h0 g0 hn
  refine ⟨c, t, h0, g0, ?_⟩
  show Z.vm.assignableAux (255 + 1) c t = false
  simp [Vm.assignableAux, ne, h2, g2, h5, g5, g8, Vm.isSubclass, n3]
theorem own_found {Z : State} {a0 : Array Value} {K : String} {m : Nat} (wk : (Jvm.Cond.instantiable K m).before a0 Z = true) : ∃ t, Z.vm.findClass K = some t := by
  obtain ⟨t, _, h, -⟩ := Cond.instantiable_spec wk
  exact ⟨t, h⟩
theorem own_staK {Z : State} {h h' : Heap} {C n d : String} {v : Value} {ws : List Addr} (S : Sta Z h C n d v) (K : Keep h h' ws) (q : ∀ x ∈ ws, ∃ C', Exa Z h x C') : Sta Z h' C n d v := by
  obtain ⟨cf, i, k, f, st, cell, h1, h2, h3, h4, h5, h6, h7⟩ := S
  refine ⟨cf, i, k, f, st, cell, h1, h2, h3, h4, K.2.1 _ _ h5 (fun m => ?_), h6, h7⟩
  obtain ⟨C', cell', k', e1, -, -, e4, -⟩ := q st m
  cases h5.symm.trans e1
  rw [h6] at e4; cases e4
def QN (Z : State) (h0 : Heap) (n0 : Nat) (v : Option Value) (h : Heap) (L : List Loc) : Prop := v = none ∧ Fr n0 L ∧ h = h0
def QI (Z : State) (r : Int32) (h0 : Heap) (n0 : Nat) (v : Option Value) (h : Heap) (L : List Loc) : Prop := v = some (.int r) ∧ Fr n0 L ∧ h = h0
def QW (Z : State) (a1 : Addr) (C : String) (h0 : Heap) (n0 : Nat) (v : Option Value) (h : Heap) (L : List Loc) : Prop := v = none ∧ Fr n0 L ∧ Keep h0 h [a1] ∧ Exa Z h a1 C
def QB (Z : State) (C : String) (h0 : Heap) (n0 : Nat) (v : Option Value) (h : Heap) (L : List Loc) : Prop := ∃ b : Addr, v = some (.ref b) ∧ Fr n0 L ∧ Keep h0 h [] ∧ Exa Z h b C
def QY (Z : State) (h0 : Heap) (n0 : Nat) (v : Option Value) (h : Heap) (L : List Loc) : Prop := ∃ b : Addr, v = some (.ref b) ∧ Fr n0 L ∧ Keep h0 h []
theorem d6_0 : decode jdk_18_method_1_code 0 = .ok (.aload_n 0, 1) := by decide +kernel
theorem d6_1 : decode jdk_18_method_1_code 1 = .ok (.invokespecial 1, 3) := by decide +kernel
theorem d6_4 : decode jdk_18_method_1_code 4 = .ok (.return_, 1) := by decide +kernel
theorem pn_rmNu : plainName "java/lang/Number" = true := by first | (simp [plainName, overriddenIn]; done) | decide +kernel
theorem ef_rmNu (m : MethodId) (a1 : Addr) : entryFrame m #[(.ref a1)] 1 = mkF m 0 #[.val (.ref a1)] [] := by first | (simp [entryFrame, mkF, argsToLocals, Value.category]; done) | rfl
set_option maxRecDepth 65536 in
set_option maxHeartbeats 40000000 in
theorem rmNu (l : Launch) (Z : State) (a0 : Array Value) (hw : ∀ d ∈ tables_1, d.before a0 Z = true) (ws : List Jvm.Cond) (a1 : Addr) (h0 : Heap) (n0 : Nat) (Z0 : n0 ≤ h0.size)  :
    MetFree l (⟨"java/lang/Number", "<init>", "()V"⟩ : MethodName) (head1 (Jvm.Cond.code (⟨"java/lang/Number", "<init>", "()V"⟩ : MethodName) jdk_18_method_1_code 1 none :: ws) ({ frames := 1, cells := 0, slots := 0, locals := 12 } : Room)) (fun a U => a = #[(.ref a1)] ∧ Z.Warmed39 U.vm ∧ U.heap = h0) (fun _ _ _ _ _ => True) (fun _ U o U' => ∃ v L, o = .returned v ∧ QN Z h0 n0 v U'.heap L ∧ FrameEnd U o U' L ({ frames := 1, cells := 0, slots := 0, locals := 12 } : Room).cells ({ frames := 1, cells := 0, slots := 0, locals := 12 } : Room).slots) := by
  refine MetFree.of_bodySF (plainFor_of_name pn_rmNu) hisR ?_
  intro p e s m args below meth c s₁ Bd hml0 hP hK
  obtain ⟨rfl, hZ, hh⟩ := hP
  have hx := Bd.exec
  have hby := Bd.bytes
  have hml : c.maxLocals = 1 := hml0
  have hown : s.vm.findClass "java/lang/Number" = some m.cls := findClass_of_methodNamed Bd.named
  have hnm := (name_of_methodNamed Bd.named Bd.method).1
  have X0 : Stand p l e ({ frames := 1, cells := 0, slots := 0, locals := 12 } : Room) s m #[(.ref a1)] below meth c s₁ [] 0 0 := Stand.of_body Bd
  have e0 : s₁.heap = h0 := by rw [← hh, Bd.state]; rfl
  have N0 := Fr.nil n0
  have pre0 : ∀ tt, Steps p.tables e below (s₁.setTop (mkF m 0 #[.val (.ref a1)] [])) tt → Steps p.tables e below (s₁.setTop (entryFrame m #[(.ref a1)] 1)) tt := fun tt kt => castTop (ef_rmNu m a1) kt
  obtain ⟨T1, X1, e1, st1⟩ := initO X0 hx hZ hown (hw _ (List.mem_of_getElem? (i := 42) rfl)) (hw _ (List.mem_of_getElem? (i := 7) rfl)) (hw _ (List.mem_of_getElem? (i := 8) rfl)) e0 (g := (mkF m 1 #[.val (.ref a1)] [(.ref a1)])) rfl (by rw [hml]; rfl) rfl (hb hby d6_1) (by decide) (W := 0) (by show 2 * 0 + _ ≤ _; exact Nat.le_of_eq rfl) (by decide)
  have pre2 : ∀ tt, Steps p.tables e below (T1.setTop (mkF m 4 #[.val (.ref a1)] [])) tt → Steps p.tables e below (s₁.setTop (entryFrame m #[(.ref a1)] 1)) tt := by
    intro tt kt
    refine pre0 tt ?_
    show Steps p.tables e below (s₁.setTop (mkF m 0 #[.val (.ref a1)] [])) _
    refine XS.aloadN X0.here hx rfl (hb hby d6_0) rfl rfl ?_
    show Steps p.tables e below (s₁.setTop (mkF m 1 #[.val (.ref a1)] [(.ref a1)])) _
    refine st1 _ ?_
    exact kt
  obtain ⟨fs, hr, hrun, hended, hW, hsame⟩ := X1.leave (v := none) (fun _ => rfl)
  refine ⟨_, _, pre2 _ ?_, hrun, hended, _, _, rfl, ?_, ⟨_, rfl⟩, hW, hsame.mono (by decide) (by decide)⟩
  · show Steps p.tables e below (T1.setTop (mkF m 4 #[.val (.ref a1)] [])) _
    exact X1.returnOut hx Bd.returns (hb hby d6_4) hr
  · show QN Z h0 n0 _ T1.heap _
    rw [e1]
    exact ⟨rfl, N0, rfl⟩
theorem d5_0 : decode jdk_33_method_23_code 0 = .ok (.aload_n 0, 1) := by decide +kernel
theorem d5_1 : decode jdk_33_method_23_code 1 = .ok (.invokespecial 202, 3) := by decide +kernel
theorem d5_4 : decode jdk_33_method_23_code 4 = .ok (.aload_n 0, 1) := by decide +kernel
theorem d5_5 : decode jdk_33_method_23_code 5 = .ok (.iload_n 1, 1) := by decide +kernel
theorem d5_6 : decode jdk_33_method_23_code 6 = .ok (.putfield 205, 3) := by decide +kernel
theorem d5_9 : decode jdk_33_method_23_code 9 = .ok (.return_, 1) := by decide +kernel
theorem pn_rmIn : plainName "java/lang/Integer" = true := by first | (simp [plainName, overriddenIn]; done) | decide +kernel
theorem pd_rmIn_0 : parseMethodDescriptor "()V" = some ⟨[], none⟩ := by decide +kernel
theorem ef_rmIn (m : MethodId) (a1 : Addr) (p1 : Int32) : entryFrame m #[(.ref a1), (.int p1)] 2 = mkF m 0 #[.val (.ref a1), .val (.int p1)] [] := by first | (simp [entryFrame, mkF, argsToLocals, Value.category]; done) | rfl
set_option maxRecDepth 65536 in
set_option maxHeartbeats 40000000 in
theorem rmIn (l : Launch) (Z : State) (a0 : Array Value) (hw : ∀ d ∈ tables_1, d.before a0 Z = true) (ws : List Jvm.Cond) (a1 : Addr) (p1 : Int32) (h0 : Heap) (n0 : Nat) (Z0 : n0 ≤ h0.size) (E_a1 : Exa Z h0 a1 "java/lang/Integer") (F_v : Fld Z h0 a1 "java/lang/Integer" "value" "I" (.int (0 : Int32))) (g_a1 : n0 ≤ a1) :
    MetFree l (⟨"java/lang/Integer", "<init>", "(I)V"⟩ : MethodName) (head1 (Jvm.Cond.code (⟨"java/lang/Integer", "<init>", "(I)V"⟩ : MethodName) jdk_33_method_23_code 2 none :: ws) ({ frames := 2, cells := 0, slots := 0, locals := 24 } : Room)) (fun a U => a = #[(.ref a1), (.int p1)] ∧ Z.Warmed39 U.vm ∧ U.heap = h0) (fun _ _ _ _ _ => True) (fun _ U o U' => ∃ v L, o = .returned v ∧ QW Z a1 "java/lang/Integer" h0 n0 v U'.heap L ∧ FrameEnd U o U' L ({ frames := 2, cells := 0, slots := 0, locals := 24 } : Room).cells ({ frames := 2, cells := 0, slots := 0, locals := 24 } : Room).slots) := by
  refine MetFree.of_bodySF (plainFor_of_name pn_rmIn) hisR ?_
  intro p e s m args below meth c s₁ Bd hml0 hP hK
  obtain ⟨rfl, hZ, hh⟩ := hP
  have hx := Bd.exec
  have hby := Bd.bytes
  have hml : c.maxLocals = 2 := hml0
  have hown : s.vm.findClass "java/lang/Integer" = some m.cls := findClass_of_methodNamed Bd.named
  have hnm := (name_of_methodNamed Bd.named Bd.method).1
  have X0 : Stand p l e ({ frames := 2, cells := 0, slots := 0, locals := 24 } : Room) s m #[(.ref a1), (.int p1)] below meth c s₁ [] 0 0 := Stand.of_body Bd
  have e0 : s₁.heap = h0 := by rw [← hh, Bd.state]; rfl
  have N0 := Fr.nil n0
  have pre0 : ∀ tt, Steps p.tables e below (s₁.setTop (mkF m 0 #[.val (.ref a1), .val (.int p1)] [])) tt → Steps p.tables e below (s₁.setTop (entryFrame m #[(.ref a1), (.int p1)] 2)) tt := fun tt kt => castTop (ef_rmIn m a1 p1) kt
  obtain ⟨_, _, ⟨T1, L1, k1, n1⟩, -, X1, ⟨Lc1, hQ1, l1, y1, z1⟩, st1⟩ := X0.specialBack hx (y := (⟨"java/lang/Number", "<init>", "()V"⟩ : MethodName)) rfl hown (mvT hZ (hw _ (List.mem_of_getElem? (i := 36) rfl))) (mvT hZ (hw _ (List.mem_of_getElem? (i := 37) rfl))) (mvT hZ (hw _ (List.mem_of_getElem? (i := 41) rfl))) (by decide) (backOf (W := 0) (rmNu l Z a0 hw [] a1 h0 n0 Z0) hZ (hw _ (List.mem_of_getElem? (i := 41) rfl)) (hw _ (List.mem_of_getElem? (i := 40) rfl)) (by decide) (by decide)) (g := (mkF m 1 #[.val (.ref a1), .val (.int p1)] [(.ref a1)])) rfl (by rw [hml]; rfl) (Steps.refl _) (a := a1) (argsL := []) (rest := []) (lenOf pd_rmIn_0 rfl) rfl (by show 2 * 0 + _ ≤ _; exact Nat.le_of_eq rfl) (hb hby d5_1) (fun _ _ => ⟨rfl, e0, (by decide : 0 + 0 ≤ _), (by decide : 0 + 0 ≤ _)⟩)
  dsimp only [Pt.U, Pt.locs, Pt.cells, Pt.slots] at X1 l1 y1 z1 st1 hQ1
  subst l1 y1 z1
  obtain ⟨rfl, N1q, hE1⟩ := hQ1
  have N1 := Fr.app N0 N1q
  obtain ⟨T2, h2, X2, e2, W2, st2⟩ := putF X1 hx hZ hown (host := "") (Or.inl (hw _ (List.mem_of_getElem? (i := 43) rfl))) Via.refl hE1 F_v E_a1 (Or.inr ⟨(hw _ (List.mem_of_getElem? (i := 44) rfl)), rfl, hnm⟩) (hw _ (List.mem_of_getElem? (i := 31) rfl)) (ty := .int) (by decide) rfl rfl (g := (mkF m 6 #[.val (.ref a1), .val (.int p1)] [(.int p1), (.ref a1)])) rfl rfl (hb hby d5_6)
  have Fw2 := Fld.same W2 F_v
  have N2 := Fr.snoc X2 N1 g_a1
  have K2 : Keep h0 h2 [a1] := ((Keep.refl h0 [a1])).wr W2 (Or.inl (List.mem_of_getElem? (i := 0) rfl))
  have pre3 : ∀ tt, Steps p.tables e below (T2.setTop (mkF m 9 #[.val (.ref a1), .val (.int p1)] [])) tt → Steps p.tables e below (s₁.setTop (entryFrame m #[(.ref a1), (.int p1)] 2)) tt := by
    intro tt kt
    refine pre0 tt ?_
    show Steps p.tables e below (s₁.setTop (mkF m 0 #[.val (.ref a1), .val (.int p1)] [])) _
    refine XS.aloadN X0.here hx rfl (hb hby d5_0) rfl rfl ?_
    show Steps p.tables e below (s₁.setTop (mkF m 1 #[.val (.ref a1), .val (.int p1)] [(.ref a1)])) _
    refine st1.trans ?_
    show Steps p.tables e below (T1.setTop (mkF m 4 #[.val (.ref a1), .val (.int p1)] [])) _
    refine XS.aloadN X1.here hx rfl (hb hby d5_4) rfl rfl ?_
    show Steps p.tables e below (T1.setTop (mkF m 5 #[.val (.ref a1), .val (.int p1)] [(.ref a1)])) _
    refine XS.iloadN X1.here hx rfl (hb hby d5_5) rfl ?_
    show Steps p.tables e below (T1.setTop (mkF m 6 #[.val (.ref a1), .val (.int p1)] [(.int p1), (.ref a1)])) _
    refine st2 _ ?_
    exact kt
  obtain ⟨fs, hr, hrun, hended, hW, hsame⟩ := X2.leave (v := none) (fun _ => rfl)
  refine ⟨_, _, pre3 _ ?_, hrun, hended, _, _, rfl, ?_, ⟨_, rfl⟩, hW, hsame.mono (by decide) (by decide)⟩
  · show Steps p.tables e below (T2.setTop (mkF m 9 #[.val (.ref a1), .val (.int p1)] [])) _
    exact X2.returnOut hx Bd.returns (hb hby d5_9) hr
  · show QW Z a1 "java/lang/Integer" h0 n0 _ T2.heap _
    rw [e2]
    exact ⟨rfl, N2, K2, (Exa.wr W2 E_a1)⟩
theorem d4_0 : decode jdk_33_method_22_code 0 = .ok (.iload_n 0, 1) := by decide +kernel
theorem d4_1 : decode jdk_33_method_22_code 1 = .ok (.bipush (-128), 2) := by decide +kernel
theorem d4_3 : decode jdk_33_method_22_code 3 = .ok (.if_icmp .lt 20, 3) := by decide +kernel
theorem d4_6 : decode jdk_33_method_22_code 6 = .ok (.iload_n 0, 1) := by decide +kernel
theorem d4_7 : decode jdk_33_method_22_code 7 = .ok (.getstatic 191, 3) := by decide +kernel
theorem d4_10 : decode jdk_33_method_22_code 10 = .ok (.if_icmp .gt 13, 3) := by decide +kernel
theorem d4_13 : decode jdk_33_method_22_code 13 = .ok (.getstatic 195, 3) := by decide +kernel
theorem d4_16 : decode jdk_33_method_22_code 16 = .ok (.iload_n 0, 1) := by decide +kernel
theorem d4_17 : decode jdk_33_method_22_code 17 = .ok (.sipush 128, 3) := by decide +kernel
theorem d4_20 : decode jdk_33_method_22_code 20 = .ok (.iadd, 1) := by decide +kernel
theorem d4_21 : decode jdk_33_method_22_code 21 = .ok (.aaload, 1) := by decide +kernel
theorem d4_22 : decode jdk_33_method_22_code 22 = .ok (.areturn, 1) := by decide +kernel
theorem d4_23 : decode jdk_33_method_22_code 23 = .ok (.new 1, 3) := by decide +kernel
theorem d4_26 : decode jdk_33_method_22_code 26 = .ok (.dup, 1) := by decide +kernel
theorem d4_27 : decode jdk_33_method_22_code 27 = .ok (.iload_n 0, 1) := by decide +kernel
theorem d4_28 : decode jdk_33_method_22_code 28 = .ok (.invokespecial 199, 3) := by decide +kernel
theorem d4_31 : decode jdk_33_method_22_code 31 = .ok (.areturn, 1) := by decide +kernel
theorem pn_rmVO : plainName "java/lang/Integer" = true := by first | (simp [plainName, overriddenIn]; done) | decide +kernel
theorem pd_rmVO_0 : parseMethodDescriptor "(I)V" = some ⟨[.int], none⟩ := by decide +kernel
theorem ef_rmVO (m : MethodId) (p1 : Int32) : entryFrame m #[(.int p1)] 1 = mkF m 0 #[.val (.int p1)] [] := by first | (simp [entryFrame, mkF, argsToLocals, Value.category]; done) | rfl
set_option maxRecDepth 65536 in
set_option maxHeartbeats 40000000 in
theorem rmVO (l : Launch) (Z : State) (a0 : Array Value) (hw : ∀ d ∈ tables_1, d.before a0 Z = true) (ws : List Jvm.Cond) (p1 : Int32) (wC : Addr) (h0 : Heap) (n0 : Nat) (Z0 : n0 ≤ h0.size) (S_high : Sta Z h0 "java/lang/Integer$IntegerCache" "high" "I" (.int (127 : Int32))) (S_cache : Sta Z h0 "java/lang/Integer$IntegerCache" "cache" "[Ljava/lang/Integer;" (.ref wC)) (I_C : own_IC Z h0 wC) :
    MetFree l (⟨"java/lang/Integer", "valueOf", "(I)Ljava/lang/Integer;"⟩ : MethodName) (head1 (Jvm.Cond.code (⟨"java/lang/Integer", "valueOf", "(I)Ljava/lang/Integer;"⟩ : MethodName) jdk_33_method_22_code 1 (some (.object "java/lang/Integer")) :: ws) ({ frames := 3, cells := 1, slots := 1, locals := 38 } : Room)) (fun a U => a = #[(.int p1)] ∧ Z.Warmed39 U.vm ∧ U.heap = h0) (fun _ _ _ _ _ => True) (fun _ U o U' => ∃ v L, o = .returned v ∧ QB Z "java/lang/Integer" h0 n0 v U'.heap L ∧ FrameEnd U o U' L ({ frames := 3, cells := 1, slots := 1, locals := 38 } : Room).cells ({ frames := 3, cells := 1, slots := 1, locals := 38 } : Room).slots) := by
  refine MetFree.of_bodySF (plainFor_of_name pn_rmVO) hisR ?_
  intro p e s m args below meth c s₁ Bd hml0 hP hK
  obtain ⟨rfl, hZ, hh⟩ := hP
  have hx := Bd.exec
  have hby := Bd.bytes
  have hml : c.maxLocals = 1 := hml0
  have hown : s.vm.findClass "java/lang/Integer" = some m.cls := findClass_of_methodNamed Bd.named
  have hnm := (name_of_methodNamed Bd.named Bd.method).1
  have X0 : Stand p l e ({ frames := 3, cells := 1, slots := 1, locals := 38 } : Room) s m #[(.int p1)] below meth c s₁ [] 0 0 := Stand.of_body Bd
  have e0 : s₁.heap = h0 := by rw [← hh, Bd.state]; rfl
  have N0 := Fr.nil n0
  have pre0 : ∀ tt, Steps p.tables e below (s₁.setTop (mkF m 0 #[.val (.int p1)] [])) tt → Steps p.tables e below (s₁.setTop (entryFrame m #[(.int p1)] 1)) tt := fun tt kt => castTop (ef_rmVO m p1) kt
  have pre1 : ∀ tt, Steps p.tables e below (s₁.setTop (mkF m 3 #[.val (.int p1)] [(.int (-128 : Int32)), (.int p1)])) tt → Steps p.tables e below (s₁.setTop (entryFrame m #[(.int p1)] 1)) tt := by
    intro tt kt
    refine pre0 tt ?_
    show Steps p.tables e below (s₁.setTop (mkF m 0 #[.val (.int p1)] [])) _
    refine XS.iloadN X0.here hx rfl (hb hby d4_0) rfl ?_
    show Steps p.tables e below (s₁.setTop (mkF m 1 #[.val (.int p1)] [(.int p1)])) _
    refine XS.bipush X0.here hx rfl (hb hby d4_1) ?_
    exact kt
  by_cases c3_2 : p1 < (-128 : Int32)
  · obtain ⟨T3, h3, X3, e3, E3, A3, D3, -, st3⟩ := newO X0 hx hZ hown (hw _ (List.mem_of_getElem? (i := 30) rfl)) (hw _ (List.mem_of_getElem? (i := 31) rfl)) (hw _ (List.mem_of_getElem? (i := 22) rfl)) e0 (g := (mkF m 23 #[.val (.int p1)] [])) rfl (hb hby d4_23) (by decide) (by decide)
    obtain ⟨b3, g3⟩ : ∃ z, z = h0.size := ⟨_, rfl⟩
    rw [← g3] at A3 D3 st3
    have g_b3 : n0 ≤ b3 := Nat.le_trans Z0 (Nat.le_of_eq g3.symm)
    have sz_b3 : h0.size ≤ b3 := Nat.le_trans ((Keep.refl h0 [])).1 (Nat.le_of_eq g3.symm)
    have K3 : Keep h0 h3 [] := ((Keep.refl h0 [])).ext E3
    have F_value_b3 : Fld Z h3 b3 "java/lang/Integer" "value" "I" (.int (0 : Int32)) := D3 (Or.inr (hw _ (List.mem_of_getElem? (i := 44) rfl))) (ty := .int) (by decide)
    obtain ⟨_, _, ⟨T4, L4, k4, n4⟩, -, X4, ⟨Lc4, hQ4, l4, y4, z4⟩, st4⟩ := X3.specialBack hx (y := (⟨"java/lang/Integer", "<init>", "(I)V"⟩ : MethodName)) rfl hown (mvT hZ (hw _ (List.mem_of_getElem? (i := 32) rfl))) (mvT hZ (hw _ (List.mem_of_getElem? (i := 33) rfl))) (mvT hZ (hw _ (List.mem_of_getElem? (i := 35) rfl))) (by decide) (backOf (W := 1) (rmIn l Z a0 hw [] b3 p1 h3 n0 (Nat.le_trans Z0 E3.1) A3 F_value_b3 g_b3) hZ (hw _ (List.mem_of_getElem? (i := 35) rfl)) (hw _ (List.mem_of_getElem? (i := 22) rfl)) (by decide) (by decide)) (g := (mkF m 28 #[.val (.int p1)] [(.int p1), (.ref b3), (.ref b3)])) rfl (by rw [hml]; rfl) (Steps.refl _) (a := b3) (argsL := [(.int p1)]) (rest := [(.ref b3)]) (lenOf pd_rmVO_0 rfl) rfl (by show 2 * 0 + _ ≤ _; exact Nat.le_of_eq rfl) (hb hby d4_28) (fun _ _ => ⟨rfl, e3, (by decide : 1 + 0 ≤ _), (by decide : 1 + 0 ≤ _)⟩)
    dsimp only [Pt.U, Pt.locs, Pt.cells, Pt.slots] at X4 l4 y4 z4 st4 hQ4
    subst l4 y4 z4
    obtain ⟨rfl, N4q, K4, Ei4⟩ := hQ4
    have N4 := Fr.app N0 N4q
    have KK4 : Keep h0 T4.heap [] := (K3).trans K4 (allS (Or.inr sz_b3) all0)
    have pre5 : ∀ tt, Steps p.tables e below (T4.setTop (mkF m 31 #[.val (.int p1)] [(.ref b3)])) tt → Steps p.tables e below (s₁.setTop (entryFrame m #[(.int p1)] 1)) tt := by
      intro tt kt
      refine pre1 tt ?_
      show Steps p.tables e below (s₁.setTop (mkF m 3 #[.val (.int p1)] [(.int (-128 : Int32)), (.int p1)])) _
      refine XS.icmpYes X0.here hx rfl (pc0 := 3) (pc' := 23) rfl (hb hby d4_3) rfl (tlt c3_2).1 (by decide) (by decide) ?_
      show Steps p.tables e below (s₁.setTop (mkF m 23 #[.val (.int p1)] [])) _
      refine st3 _ ?_
      show Steps p.tables e below (T3.setTop (mkF m 26 #[.val (.int p1)] [(.ref b3)])) _
      refine XS.dup X3.here hx rfl (hb hby d4_26) rfl rfl ?_
      show Steps p.tables e below (T3.setTop (mkF m 27 #[.val (.int p1)] [(.ref b3), (.ref b3)])) _
      refine XS.iloadN X3.here hx rfl (hb hby d4_27) rfl ?_
      show Steps p.tables e below (T3.setTop (mkF m 28 #[.val (.int p1)] [(.int p1), (.ref b3), (.ref b3)])) _
      refine st4.trans ?_
      exact kt
    obtain ⟨fs, hr, hrun, hended, hW, hsame⟩ := X4.leave (v := some (.ref b3)) (fun h => by rw [Bd.returns] at h; cases h)
    refine ⟨_, _, pre5 _ ?_, hrun, hended, _, _, rfl, ?_, ⟨_, rfl⟩, hW, hsame.mono (by decide) (by decide)⟩
    · show Steps p.tables e below (T4.setTop (mkF m 31 #[.val (.int p1)] [(.ref b3)])) _
      jvm_step X4.here [X4.here.top, hx, (hb hby d4_31), X4.method', Bd.returns, Value.isRef, FieldType.isReference]
      first | (intro acts; rw [hr _ acts rfl rfl rfl]) | rw [hr _ _ rfl rfl rfl]
      exact Steps.refl _
    · show QB Z "java/lang/Integer" h0 n0 _ T4.heap _
      exact ⟨_, rfl, N4, KK4, Ei4⟩
  · obtain ⟨T6, X6, e6, st6⟩ := getS2 X0 hx hZ hown (host := "") (Or.inl (hw _ (List.mem_of_getElem? (i := 24) rfl))) Via.refl e0 S_high (g := (mkF m 7 #[.val (.int p1)] [(.int p1)])) rfl (hb hby d4_7)
    have pre7 : ∀ tt, Steps p.tables e below (T6.setTop (mkF m 10 #[.val (.int p1)] [(.int (127 : Int32)), (.int p1)])) tt → Steps p.tables e below (s₁.setTop (entryFrame m #[(.int p1)] 1)) tt := by
      intro tt kt
      refine pre1 tt ?_
      show Steps p.tables e below (s₁.setTop (mkF m 3 #[.val (.int p1)] [(.int (-128 : Int32)), (.int p1)])) _
      refine XS.icmpNo X0.here hx rfl (hb hby d4_3) rfl (flt c3_2).1 ?_
      show Steps p.tables e below (s₁.setTop (mkF m 6 #[.val (.int p1)] [])) _
      refine XS.iloadN X0.here hx rfl (hb hby d4_6) rfl ?_
      show Steps p.tables e below (s₁.setTop (mkF m 7 #[.val (.int p1)] [(.int p1)])) _
      refine st6 _ ?_
      exact kt
    by_cases c10_8 : (127 : Int32) < p1
    · obtain ⟨T9, h9, X9, e9, E9, A9, D9, -, st9⟩ := newO X6 hx hZ hown (hw _ (List.mem_of_getElem? (i := 30) rfl)) (hw _ (List.mem_of_getElem? (i := 31) rfl)) (hw _ (List.mem_of_getElem? (i := 22) rfl)) e6 (g := (mkF m 23 #[.val (.int p1)] [])) rfl (hb hby d4_23) (by decide) (by decide)
      obtain ⟨b9, g9⟩ : ∃ z, z = h0.size := ⟨_, rfl⟩
      rw [← g9] at A9 D9 st9
      have g_b9 : n0 ≤ b9 := Nat.le_trans Z0 (Nat.le_of_eq g9.symm)
      have sz_b9 : h0.size ≤ b9 := Nat.le_trans ((Keep.refl h0 [])).1 (Nat.le_of_eq g9.symm)
      have K9 : Keep h0 h9 [] := ((Keep.refl h0 [])).ext E9
      have F_value_b9 : Fld Z h9 b9 "java/lang/Integer" "value" "I" (.int (0 : Int32)) := D9 (Or.inr (hw _ (List.mem_of_getElem? (i := 44) rfl))) (ty := .int) (by decide)
      obtain ⟨_, _, ⟨T10, L10, k10, n10⟩, -, X10, ⟨Lc10, hQ10, l10, y10, z10⟩, st10⟩ := X9.specialBack hx (y := (⟨"java/lang/Integer", "<init>", "(I)V"⟩ : MethodName)) rfl hown (mvT hZ (hw _ (List.mem_of_getElem? (i := 32) rfl))) (mvT hZ (hw _ (List.mem_of_getElem? (i := 33) rfl))) (mvT hZ (hw _ (List.mem_of_getElem? (i := 35) rfl))) (by decide) (backOf (W := 1) (rmIn l Z a0 hw [] b9 p1 h9 n0 (Nat.le_trans Z0 E9.1) A9 F_value_b9 g_b9) hZ (hw _ (List.mem_of_getElem? (i := 35) rfl)) (hw _ (List.mem_of_getElem? (i := 22) rfl)) (by decide) (by decide)) (g := (mkF m 28 #[.val (.int p1)] [(.int p1), (.ref b9), (.ref b9)])) rfl (by rw [hml]; rfl) (Steps.refl _) (a := b9) (argsL := [(.int p1)]) (rest := [(.ref b9)]) (lenOf pd_rmVO_0 rfl) rfl (by show 2 * 0 + _ ≤ _; exact Nat.le_of_eq rfl) (hb hby d4_28) (fun _ _ => ⟨rfl, e9, (by decide : 1 + 0 ≤ _), (by decide : 1 + 0 ≤ _)⟩)
      dsimp only [Pt.U, Pt.locs, Pt.cells, Pt.slots] at X10 l10 y10 z10 st10 hQ10
      subst l10 y10 z10
      obtain ⟨rfl, N10q, K10, Ei10⟩ := hQ10
      have N10 := Fr.app N0 N10q
      have KK10 : Keep h0 T10.heap [] := (K9).trans K10 (allS (Or.inr sz_b9) all0)
      have pre11 : ∀ tt, Steps p.tables e below (T10.setTop (mkF m 31 #[.val (.int p1)] [(.ref b9)])) tt → Steps p.tables e below (s₁.setTop (entryFrame m #[(.int p1)] 1)) tt := by
        intro tt kt
        refine pre7 tt ?_
        show Steps p.tables e below (T6.setTop (mkF m 10 #[.val (.int p1)] [(.int (127 : Int32)), (.int p1)])) _
        refine XS.icmpYes X6.here hx rfl (pc0 := 10) (pc' := 23) rfl (hb hby d4_10) rfl (tlt c10_8).2.2.1 (by decide) (by decide) ?_
        show Steps p.tables e below (T6.setTop (mkF m 23 #[.val (.int p1)] [])) _
        refine st9 _ ?_
        show Steps p.tables e below (T9.setTop (mkF m 26 #[.val (.int p1)] [(.ref b9)])) _
        refine XS.dup X9.here hx rfl (hb hby d4_26) rfl rfl ?_
        show Steps p.tables e below (T9.setTop (mkF m 27 #[.val (.int p1)] [(.ref b9), (.ref b9)])) _
        refine XS.iloadN X9.here hx rfl (hb hby d4_27) rfl ?_
        show Steps p.tables e below (T9.setTop (mkF m 28 #[.val (.int p1)] [(.int p1), (.ref b9), (.ref b9)])) _
        refine st10.trans ?_
        exact kt
      obtain ⟨fs, hr, hrun, hended, hW, hsame⟩ := X10.leave (v := some (.ref b9)) (fun h => by rw [Bd.returns] at h; cases h)
      refine ⟨_, _, pre11 _ ?_, hrun, hended, _, _, rfl, ?_, ⟨_, rfl⟩, hW, hsame.mono (by decide) (by decide)⟩
      · show Steps p.tables e below (T10.setTop (mkF m 31 #[.val (.int p1)] [(.ref b9)])) _
        jvm_step X10.here [X10.here.top, hx, (hb hby d4_31), X10.method', Bd.returns, Value.isRef, FieldType.isReference]
        first | (intro acts; rw [hr _ acts rfl rfl rfl]) | rw [hr _ _ rfl rfl rfl]
        exact Steps.refl _
      · show QB Z "java/lang/Integer" h0 n0 _ T10.heap _
        exact ⟨_, rfl, N10, KK10, Ei10⟩
    · obtain ⟨T12, X12, e12, st12⟩ := getS2 X6 hx hZ hown (host := "") (Or.inl (hw _ (List.mem_of_getElem? (i := 26) rfl))) Via.refl e6 S_cache (g := (mkF m 13 #[.val (.int p1)] [])) rfl (hb hby d4_13)
      obtain ⟨cl13, Ar13, S13, H13⟩ := I_C
      have hin13 := own_ix128 S13 c3_2 c10_8
      obtain ⟨b13, hat13, Eb13⟩ := H13 _ hin13
      have pre14 : ∀ tt, Steps p.tables e below (T12.setTop (mkF m 22 #[.val (.int p1)] [(.ref b13)])) tt → Steps p.tables e below (s₁.setTop (entryFrame m #[(.int p1)] 1)) tt := by
        intro tt kt
        refine pre7 tt ?_
        show Steps p.tables e below (T6.setTop (mkF m 10 #[.val (.int p1)] [(.int (127 : Int32)), (.int p1)])) _
        refine XS.icmpNo X6.here hx rfl (hb hby d4_10) rfl (flt c10_8).2.2.1 ?_
        show Steps p.tables e below (T6.setTop (mkF m 13 #[.val (.int p1)] [])) _
        refine st12 _ ?_
        show Steps p.tables e below (T12.setTop (mkF m 16 #[.val (.int p1)] [(.ref wC)])) _
        refine XS.iloadN X12.here hx rfl (hb hby d4_16) rfl ?_
        show Steps p.tables e below (T12.setTop (mkF m 17 #[.val (.int p1)] [(.int p1), (.ref wC)])) _
        refine XS.sipush X12.here hx rfl (hb hby d4_17) ?_
        show Steps p.tables e below (T12.setTop (mkF m 20 #[.val (.int p1)] [(.int (128 : Int32)), (.int p1), (.ref wC)])) _
        refine XS.iadd X12.here hx rfl (hb hby d4_20) rfl ?_
        show Steps p.tables e below (T12.setTop (mkF m 21 #[.val (.int p1)] [(.int (p1 + (128 : Int32))), (.ref wC)])) _
        refine X12.aaload hx (j := (p1 + (128 : Int32))) (v := .ref b13) (by rw [e12]; exact Ar13.1) (State.isArrayOf_alike hZ.alike Ar13.2.1) rfl Ar13.2.2 hin13 hat13 (g := (mkF m 21 #[.val (.int p1)] [(.int (p1 + (128 : Int32))), (.ref wC)])) rfl rfl (hb hby d4_21) _ ?_
        exact kt
      obtain ⟨fs, hr, hrun, hended, hW, hsame⟩ := X12.leave (v := some (.ref b13)) (fun h => by rw [Bd.returns] at h; cases h)
      refine ⟨_, _, pre14 _ ?_, hrun, hended, _, _, rfl, ?_, ⟨_, rfl⟩, hW, hsame.mono (by decide) (by decide)⟩
      · show Steps p.tables e below (T12.setTop (mkF m 22 #[.val (.int p1)] [(.ref b13)])) _
        jvm_step X12.here [X12.here.top, hx, (hb hby d4_22), X12.method', Bd.returns, Value.isRef, FieldType.isReference]
        first | (intro acts; rw [hr _ acts rfl rfl rfl]) | rw [hr _ _ rfl rfl rfl]
        exact Steps.refl _
      · show QB Z "java/lang/Integer" h0 n0 _ T12.heap _
        rw [e12]
        exact ⟨_, rfl, N0, (Keep.refl h0 []), Eb13⟩
theorem d8_0 : decode jdk_43_method_3_code 0 = .ok (.iload_n 0, 1) := by decide +kernel
theorem d8_1 : decode jdk_43_method_3_code 1 = .ok (.sipush 255, 3) := by decide +kernel
theorem d8_4 : decode jdk_43_method_3_code 4 = .ok (.if_icmp .gt 7, 3) := by decide +kernel
theorem d8_7 : decode jdk_43_method_3_code 7 = .ok (.iconst 1, 1) := by decide +kernel
theorem d8_8 : decode jdk_43_method_3_code 8 = .ok (.goto 4, 3) := by decide +kernel
theorem d8_12 : decode jdk_43_method_3_code 12 = .ok (.ireturn, 1) := by decide +kernel
theorem pn_rmCE : plainName "java/lang/StringLatin1" = true := by first | (simp [plainName, overriddenIn]; done) | decide +kernel
theorem ef_rmCE (m : MethodId) (p1 : Int32) : entryFrame m #[(.int p1)] 1 = mkF m 0 #[.val (.int p1)] [] := by first | (simp [entryFrame, mkF, argsToLocals, Value.category]; done) | rfl
set_option maxRecDepth 65536 in
set_option maxHeartbeats 40000000 in
theorem rmCE (l : Launch) (Z : State) (a0 : Array Value) (hw : ∀ d ∈ tables_1, d.before a0 Z = true) (ws : List Jvm.Cond) (p1 : Int32) (h0 : Heap) (n0 : Nat) (Z0 : n0 ≤ h0.size) (hp : ¬ (255 : Int32) < p1) :
    MetFree l (⟨"java/lang/StringLatin1", "canEncode", "(C)Z"⟩ : MethodName) (head1 (Jvm.Cond.code (⟨"java/lang/StringLatin1", "canEncode", "(C)Z"⟩ : MethodName) jdk_43_method_3_code 1 (some .boolean) :: ws) ({ frames := 0, cells := 0, slots := 0, locals := 0 } : Room)) (fun a U => a = #[(.int p1)] ∧ Z.Warmed39 U.vm ∧ U.heap = h0) (fun _ _ _ _ _ => True) (fun _ U o U' => ∃ v L, o = .returned v ∧ QI Z (1 : Int32) h0 n0 v U'.heap L ∧ FrameEnd U o U' L ({ frames := 0, cells := 0, slots := 0, locals := 0 } : Room).cells ({ frames := 0, cells := 0, slots := 0, locals := 0 } : Room).slots) := by
  refine MetFree.of_bodySF (plainFor_of_name pn_rmCE) hisR ?_
  intro p e s m args below meth c s₁ Bd hml0 hP hK
  obtain ⟨rfl, hZ, hh⟩ := hP
  have hx := Bd.exec
  have hby := Bd.bytes
  have hml : c.maxLocals = 1 := hml0
  have hown : s.vm.findClass "java/lang/StringLatin1" = some m.cls := findClass_of_methodNamed Bd.named
  have hnm := (name_of_methodNamed Bd.named Bd.method).1
  have X0 : Stand p l e ({ frames := 0, cells := 0, slots := 0, locals := 0 } : Room) s m #[(.int p1)] below meth c s₁ [] 0 0 := Stand.of_body Bd
  have e0 : s₁.heap = h0 := by rw [← hh, Bd.state]; rfl
  have N0 := Fr.nil n0
  have pre0 : ∀ tt, Steps p.tables e below (s₁.setTop (mkF m 0 #[.val (.int p1)] [])) tt → Steps p.tables e below (s₁.setTop (entryFrame m #[(.int p1)] 1)) tt := fun tt kt => castTop (ef_rmCE m p1) kt
  have pre1 : ∀ tt, Steps p.tables e below (s₁.setTop (mkF m 12 #[.val (.int p1)] [(.int (1 : Int32))])) tt → Steps p.tables e below (s₁.setTop (entryFrame m #[(.int p1)] 1)) tt := by
    intro tt kt
    refine pre0 tt ?_
    show Steps p.tables e below (s₁.setTop (mkF m 0 #[.val (.int p1)] [])) _
    refine XS.iloadN X0.here hx rfl (hb hby d8_0) rfl ?_
    show Steps p.tables e below (s₁.setTop (mkF m 1 #[.val (.int p1)] [(.int p1)])) _
    refine XS.sipush X0.here hx rfl (hb hby d8_1) ?_
    show Steps p.tables e below (s₁.setTop (mkF m 4 #[.val (.int p1)] [(.int (255 : Int32)), (.int p1)])) _
    refine XS.icmpNo X0.here hx rfl (hb hby d8_4) rfl (flt hp).2.2.1 ?_
    show Steps p.tables e below (s₁.setTop (mkF m 7 #[.val (.int p1)] [])) _
    refine XS.iconst X0.here hx rfl (hb hby d8_7) ?_
    show Steps p.tables e below (s₁.setTop (mkF m 8 #[.val (.int p1)] [(.int (1 : Int32))])) _
    refine XS.goto X0.here hx rfl (pc0 := 8) (pc' := 12) rfl (hb hby d8_8) (by decide) (by decide) ?_
    exact kt
  obtain ⟨fs, hr, hrun, hended, hW, hsame⟩ := X0.leave (v := some (.int (1 : Int32))) (fun h => by rw [Bd.returns] at h; cases h)
  refine ⟨_, _, pre1 _ ?_, hrun, hended, _, _, rfl, ?_, ⟨_, rfl⟩, hW, hsame.mono (by decide) (by decide)⟩
  · show Steps p.tables e below (s₁.setTop (mkF m 12 #[.val (.int p1)] [(.int (1 : Int32))])) _
    exact retN X0 hx (t := .boolean) Bd.returns (by simp) (hb hby d8_12) hr
  · show QI Z (1 : Int32) h0 n0 _ s₁.heap _
    rw [e0]
    exact ⟨rfl, N0, rfl⟩
theorem d9_0 : decode jdk_43_method_46_code 0 = .ok (.iconst 1, 1) := by decide +kernel
theorem d9_1 : decode jdk_43_method_46_code 1 = .ok (.newarray .byte, 2) := by decide +kernel
theorem d9_3 : decode jdk_43_method_46_code 3 = .ok (.dup, 1) := by decide +kernel
theorem d9_4 : decode jdk_43_method_46_code 4 = .ok (.iconst 0, 1) := by decide +kernel
theorem d9_5 : decode jdk_43_method_46_code 5 = .ok (.iload_n 0, 1) := by decide +kernel
theorem d9_6 : decode jdk_43_method_46_code 6 = .ok (.i2b, 1) := by decide +kernel
theorem d9_7 : decode jdk_43_method_46_code 7 = .ok (.bastore, 1) := by decide +kernel
theorem d9_8 : decode jdk_43_method_46_code 8 = .ok (.areturn, 1) := by decide +kernel
theorem pn_rmTB : plainName "java/lang/StringLatin1" = true := by first | (simp [plainName, overriddenIn]; done) | decide +kernel
theorem ef_rmTB (m : MethodId) (p1 : Int32) : entryFrame m #[(.int p1)] 1 = mkF m 0 #[.val (.int p1)] [] := by first | (simp [entryFrame, mkF, argsToLocals, Value.category]; done) | rfl
set_option maxRecDepth 65536 in
set_option maxHeartbeats 40000000 in
theorem rmTB (l : Launch) (Z : State) (a0 : Array Value) (hw : ∀ d ∈ tables_1, d.before a0 Z = true) (ws : List Jvm.Cond) (p1 : Int32) (h0 : Heap) (n0 : Nat) (Z0 : n0 ≤ h0.size)  :
    MetFree l (⟨"java/lang/StringLatin1", "toBytes", "(C)[B"⟩ : MethodName) (head1 (Jvm.Cond.code (⟨"java/lang/StringLatin1", "toBytes", "(C)[B"⟩ : MethodName) jdk_43_method_46_code 1 (some (.array .byte)) :: ws) ({ frames := 0, cells := 1, slots := 1, locals := 0 } : Room)) (fun a U => a = #[(.int p1)] ∧ Z.Warmed39 U.vm ∧ U.heap = h0) (fun _ _ _ _ _ => True) (fun _ U o U' => ∃ v L, o = .returned v ∧ QY Z h0 n0 v U'.heap L ∧ FrameEnd U o U' L ({ frames := 0, cells := 1, slots := 1, locals := 0 } : Room).cells ({ frames := 0, cells := 1, slots := 1, locals := 0 } : Room).slots) := by
  refine MetFree.of_bodySF (plainFor_of_name pn_rmTB) hisR ?_
  intro p e s m args below meth c s₁ Bd hml0 hP hK
  obtain ⟨rfl, hZ, hh⟩ := hP
  have hx := Bd.exec
  have hby := Bd.bytes
  have hml : c.maxLocals = 1 := hml0
  have hown : s.vm.findClass "java/lang/StringLatin1" = some m.cls := findClass_of_methodNamed Bd.named
  have hnm := (name_of_methodNamed Bd.named Bd.method).1
  have X0 : Stand p l e ({ frames := 0, cells := 1, slots := 1, locals := 0 } : Room) s m #[(.int p1)] below meth c s₁ [] 0 0 := Stand.of_body Bd
  have e0 : s₁.heap = h0 := by rw [← hh, Bd.state]; rfl
  have N0 := Fr.nil n0
  have pre0 : ∀ tt, Steps p.tables e below (s₁.setTop (mkF m 0 #[.val (.int p1)] [])) tt → Steps p.tables e below (s₁.setTop (entryFrame m #[(.int p1)] 1)) tt := fun tt kt => castTop (ef_rmTB m p1) kt
  obtain ⟨T1, h1, k1, X1, e1, E1, A1, EE1, st1⟩ := newPE X0 hx hZ (hw _ (List.mem_of_getElem? (i := 59) rfl)) e0 (g := (mkF m 1 #[.val (.int p1)] [(.int (1 : Int32))])) rfl (hb hby d9_1) rfl (by decide) (cap := 1) (by decide) (by decide) (by decide) (by decide) (ad := "[B") (by decide)
  obtain ⟨b1, g1⟩ : ∃ z, z = h0.size := ⟨_, rfl⟩
  rw [← g1] at A1 EE1 st1
  have g_b1 : n0 ≤ b1 := Nat.le_trans Z0 (Nat.le_of_eq g1.symm)
  have sz_b1 : h0.size ≤ b1 := Nat.le_trans ((Keep.refl h0 [])).1 (Nat.le_of_eq g1.symm)
  have K1 : Keep h0 h1 [] := ((Keep.refl h0 [])).ext E1
  have V_b1 : Arv Z h1 b1 k1 .byte (1 : Int32) [(.int (0 : Int32))] (.int (0 : Int32)) := (Arv.new A1 (by decide)).pad (pad_rep [] (.int (0 : Int32)) 1)
  have VO2 := V_b1
  obtain ⟨cl2, Ar2, q2, S2, M2, H2, G2⟩ := VO2
  have hin2 : ¬ ((0 : Int32) < 0 ∨ cl2.slots.size ≤ ((0 : Int32)).toNatClampNeg) := inb_of S2 ⟨by decide, by decide⟩
  obtain ⟨T3, h3, X3, e3, W3, st3⟩ := stB X1 hx hZ e1 Ar2 (j := (0 : Int32)) hin2 (g := (mkF m 7 #[.val (.int p1)] [(.int (p1.toInt8.toInt32)), (.int (0 : Int32)), (.ref b1), (.ref b1)])) rfl rfl (hb hby d9_7)
  have N3 := Fr.snoc X3 N0 g_b1
  have K3 : Keep h0 h3 [] := (K1).wr W3 (Or.inr sz_b1)
  have pre4 : ∀ tt, Steps p.tables e below (T3.setTop (mkF m 8 #[.val (.int p1)] [(.ref b1)])) tt → Steps p.tables e below (s₁.setTop (entryFrame m #[(.int p1)] 1)) tt := by
    intro tt kt
    refine pre0 tt ?_
    show Steps p.tables e below (s₁.setTop (mkF m 0 #[.val (.int p1)] [])) _
    refine XS.iconst X0.here hx rfl (hb hby d9_0) ?_
    show Steps p.tables e below (s₁.setTop (mkF m 1 #[.val (.int p1)] [(.int (1 : Int32))])) _
    refine st1 _ ?_
    show Steps p.tables e below (T1.setTop (mkF m 3 #[.val (.int p1)] [(.ref b1)])) _
    refine XS.dup X1.here hx rfl (hb hby d9_3) rfl rfl ?_
    show Steps p.tables e below (T1.setTop (mkF m 4 #[.val (.int p1)] [(.ref b1), (.ref b1)])) _
    refine XS.iconst X1.here hx rfl (hb hby d9_4) ?_
    show Steps p.tables e below (T1.setTop (mkF m 5 #[.val (.int p1)] [(.int (0 : Int32)), (.ref b1), (.ref b1)])) _
    refine XS.iloadN X1.here hx rfl (hb hby d9_5) rfl ?_
    show Steps p.tables e below (T1.setTop (mkF m 6 #[.val (.int p1)] [(.int p1), (.int (0 : Int32)), (.ref b1), (.ref b1)])) _
    refine XS.i2b X1.here hx rfl (hb hby d9_6) rfl ?_
    show Steps p.tables e below (T1.setTop (mkF m 7 #[.val (.int p1)] [(.int (p1.toInt8.toInt32)), (.int (0 : Int32)), (.ref b1), (.ref b1)])) _
    refine st3 _ ?_
    exact kt
  obtain ⟨fs, hr, hrun, hended, hW, hsame⟩ := X3.leave (v := some (.ref b1)) (fun h => by rw [Bd.returns] at h; cases h)
  refine ⟨_, _, pre4 _ ?_, hrun, hended, _, _, rfl, ?_, ⟨_, rfl⟩, hW, hsame.mono (by decide) (by decide)⟩
  · show Steps p.tables e below (T3.setTop (mkF m 8 #[.val (.int p1)] [(.ref b1)])) _
    jvm_step X3.here [X3.here.top, hx, (hb hby d9_8), X3.method', Bd.returns, Value.isRef, FieldType.isReference]
    first | (intro acts; rw [hr _ acts rfl rfl rfl]) | rw [hr _ _ rfl rfl rfl]
    exact Steps.refl _
  · show QY Z h0 n0 _ T3.heap _
    rw [e3]
    exact ⟨_, rfl, N3, K3⟩
theorem d10_0 : decode jdk_42_method_151_code 0 = .ok (.aload_n 0, 1) := by decide +kernel
theorem d10_1 : decode jdk_42_method_151_code 1 = .ok (.invokespecial 1, 3) := by decide +kernel
theorem d10_4 : decode jdk_42_method_151_code 4 = .ok (.aload_n 0, 1) := by decide +kernel
theorem d10_5 : decode jdk_42_method_151_code 5 = .ok (.aload_n 1, 1) := by decide +kernel
theorem d10_6 : decode jdk_42_method_151_code 6 = .ok (.putfield 9, 3) := by decide +kernel
theorem d10_9 : decode jdk_42_method_151_code 9 = .ok (.aload_n 0, 1) := by decide +kernel
theorem d10_10 : decode jdk_42_method_151_code 10 = .ok (.iload_n 2, 1) := by decide +kernel
theorem d10_11 : decode jdk_42_method_151_code 11 = .ok (.putfield 15, 3) := by decide +kernel
theorem d10_14 : decode jdk_42_method_151_code 14 = .ok (.return_, 1) := by decide +kernel
theorem pn_rmSI : plainName "java/lang/String" = true := by first | (simp [plainName, overriddenIn]; done) | decide +kernel
theorem ef_rmSI (m : MethodId) (a1 : Addr) (a2 : Addr) : entryFrame m #[(.ref a1), (.ref a2), (.int (0 : Int32))] 3 = mkF m 0 #[.val (.ref a1), .val (.ref a2), .val (.int (0 : Int32))] [] := by first | (simp [entryFrame, mkF, argsToLocals, Value.category]; done) | rfl
set_option maxRecDepth 65536 in
set_option maxHeartbeats 40000000 in
theorem rmSI (l : Launch) (Z : State) (a0 : Array Value) (hw : ∀ d ∈ tables_1, d.before a0 Z = true) (ws : List Jvm.Cond) (a1 a2 : Addr) (h0 : Heap) (n0 : Nat) (Z0 : n0 ≤ h0.size) (E_a1 : Exa Z h0 a1 "java/lang/String") (F_v : Fld Z h0 a1 "java/lang/String" "value" "[B" .null) (F_c : Fld Z h0 a1 "java/lang/String" "coder" "B" (.int (0 : Int32))) (g_a1 : n0 ≤ a1) :
    MetFree l (⟨"java/lang/String", "<init>", "([BB)V"⟩ : MethodName) (head1 (Jvm.Cond.code (⟨"java/lang/String", "<init>", "([BB)V"⟩ : MethodName) jdk_42_method_151_code 3 none :: ws) ({ frames := 1, cells := 0, slots := 0, locals := 12 } : Room)) (fun a U => a = #[(.ref a1), (.ref a2), (.int (0 : Int32))] ∧ Z.Warmed39 U.vm ∧ U.heap = h0) (fun _ _ _ _ _ => True) (fun _ U o U' => ∃ v L, o = .returned v ∧ QW Z a1 "java/lang/String" h0 n0 v U'.heap L ∧ FrameEnd U o U' L ({ frames := 1, cells := 0, slots := 0, locals := 12 } : Room).cells ({ frames := 1, cells := 0, slots := 0, locals := 12 } : Room).slots) := by
  refine MetFree.of_bodySF (plainFor_of_name pn_rmSI) hisR ?_
  intro p e s m args below meth c s₁ Bd hml0 hP hK
  obtain ⟨rfl, hZ, hh⟩ := hP
  have hx := Bd.exec
  have hby := Bd.bytes
  have hml : c.maxLocals = 3 := hml0
  have hown : s.vm.findClass "java/lang/String" = some m.cls := findClass_of_methodNamed Bd.named
  have hnm := (name_of_methodNamed Bd.named Bd.method).1
  have X0 : Stand p l e ({ frames := 1, cells := 0, slots := 0, locals := 12 } : Room) s m #[(.ref a1), (.ref a2), (.int (0 : Int32))] below meth c s₁ [] 0 0 := Stand.of_body Bd
  have e0 : s₁.heap = h0 := by rw [← hh, Bd.state]; rfl
  have N0 := Fr.nil n0
  have pre0 : ∀ tt, Steps p.tables e below (s₁.setTop (mkF m 0 #[.val (.ref a1), .val (.ref a2), .val (.int (0 : Int32))] [])) tt → Steps p.tables e below (s₁.setTop (entryFrame m #[(.ref a1), (.ref a2), (.int (0 : Int32))] 3)) tt := fun tt kt => castTop (ef_rmSI m a1 a2) kt
  obtain ⟨T1, X1, e1, st1⟩ := initO X0 hx hZ hown (hw _ (List.mem_of_getElem? (i := 64) rfl)) (hw _ (List.mem_of_getElem? (i := 7) rfl)) (hw _ (List.mem_of_getElem? (i := 8) rfl)) e0 (g := (mkF m 1 #[.val (.ref a1), .val (.ref a2), .val (.int (0 : Int32))] [(.ref a1)])) rfl (by rw [hml]; rfl) rfl (hb hby d10_1) (by decide) (W := 0) (by show 2 * 0 + _ ≤ _; exact Nat.le_of_eq rfl) (by decide)
  obtain ⟨T2, h2, X2, e2, W2, st2⟩ := putF X1 hx hZ hown (host := "") (Or.inl (hw _ (List.mem_of_getElem? (i := 65) rfl))) Via.refl e1 F_v E_a1 (Or.inr ⟨(hw _ (List.mem_of_getElem? (i := 66) rfl)), rfl, hnm⟩) (hw _ (List.mem_of_getElem? (i := 55) rfl)) (ty := (.array .byte)) (by decide) rfl rfl (g := (mkF m 6 #[.val (.ref a1), .val (.ref a2), .val (.int (0 : Int32))] [(.ref a2), (.ref a1)])) rfl rfl (hb hby d10_6)
  have Fw2 := Fld.same W2 F_v
  have N2 := Fr.snoc X2 N0 g_a1
  have K2 : Keep h0 h2 [a1] := ((Keep.refl h0 [a1])).wr W2 (Or.inl (List.mem_of_getElem? (i := 0) rfl))
  obtain ⟨T3, h3, X3, e3, W3, st3⟩ := putFN X2 hx hZ hown (hw _ (List.mem_of_getElem? (i := 67) rfl)) Via.refl e2 (Fld.other W2 F_c (Or.inr (slot_ne (Or.inr (hw _ (List.mem_of_getElem? (i := 68) rfl))) (Or.inr (hw _ (List.mem_of_getElem? (i := 66) rfl))) (by decide) (t := .byte) (t' := (.array .byte)) (by decide) (by decide)))) (Exa.wr W2 E_a1) (Or.inr ⟨(hw _ (List.mem_of_getElem? (i := 68) rfl)), rfl, hnm⟩) (hw _ (List.mem_of_getElem? (i := 55) rfl)) (ty := .byte) (v' := (.int (0 : Int32))) (by decide) rfl rfl (g := (mkF m 11 #[.val (.ref a1), .val (.ref a2), .val (.int (0 : Int32))] [(.int (0 : Int32)), (.ref a1)])) rfl rfl (hb hby d10_11)
  have Fw3 := Fld.same W3 (Fld.other W2 F_c (Or.inr (slot_ne (Or.inr (hw _ (List.mem_of_getElem? (i := 68) rfl))) (Or.inr (hw _ (List.mem_of_getElem? (i := 66) rfl))) (by decide) (t := .byte) (t' := (.array .byte)) (by decide) (by decide))))
  have N3 := Fr.snoc X3 N2 g_a1
  have K3 : Keep h0 h3 [a1] := (K2).wr W3 (Or.inl (List.mem_of_getElem? (i := 0) rfl))
  have pre4 : ∀ tt, Steps p.tables e below (T3.setTop (mkF m 14 #[.val (.ref a1), .val (.ref a2), .val (.int (0 : Int32))] [])) tt → Steps p.tables e below (s₁.setTop (entryFrame m #[(.ref a1), (.ref a2), (.int (0 : Int32))] 3)) tt := by
    intro tt kt
    refine pre0 tt ?_
    show Steps p.tables e below (s₁.setTop (mkF m 0 #[.val (.ref a1), .val (.ref a2), .val (.int (0 : Int32))] [])) _
    refine XS.aloadN X0.here hx rfl (hb hby d10_0) rfl rfl ?_
    show Steps p.tables e below (s₁.setTop (mkF m 1 #[.val (.ref a1), .val (.ref a2), .val (.int (0 : Int32))] [(.ref a1)])) _
    refine st1 _ ?_
    show Steps p.tables e below (T1.setTop (mkF m 4 #[.val (.ref a1), .val (.ref a2), .val (.int (0 : Int32))] [])) _
    refine XS.aloadN X1.here hx rfl (hb hby d10_4) rfl rfl ?_
    show Steps p.tables e below (T1.setTop (mkF m 5 #[.val (.ref a1), .val (.ref a2), .val (.int (0 : Int32))] [(.ref a1)])) _
    refine XS.aloadN X1.here hx rfl (hb hby d10_5) rfl rfl ?_
    show Steps p.tables e below (T1.setTop (mkF m 6 #[.val (.ref a1), .val (.ref a2), .val (.int (0 : Int32))] [(.ref a2), (.ref a1)])) _
    refine st2 _ ?_
    show Steps p.tables e below (T2.setTop (mkF m 9 #[.val (.ref a1), .val (.ref a2), .val (.int (0 : Int32))] [])) _
    refine XS.aloadN X2.here hx rfl (hb hby d10_9) rfl rfl ?_
    show Steps p.tables e below (T2.setTop (mkF m 10 #[.val (.ref a1), .val (.ref a2), .val (.int (0 : Int32))] [(.ref a1)])) _
    refine XS.iloadN X2.here hx rfl (hb hby d10_10) rfl ?_
    show Steps p.tables e below (T2.setTop (mkF m 11 #[.val (.ref a1), .val (.ref a2), .val (.int (0 : Int32))] [(.int (0 : Int32)), (.ref a1)])) _
    refine st3 _ ?_
    exact kt
  obtain ⟨fs, hr, hrun, hended, hW, hsame⟩ := X3.leave (v := none) (fun _ => rfl)
  refine ⟨_, _, pre4 _ ?_, hrun, hended, _, _, rfl, ?_, ⟨_, rfl⟩, hW, hsame.mono (by decide) (by decide)⟩
  · show Steps p.tables e below (T3.setTop (mkF m 14 #[.val (.ref a1), .val (.ref a2), .val (.int (0 : Int32))] [])) _
    exact X3.returnOut hx Bd.returns (hb hby d10_14) hr
  · show QW Z a1 "java/lang/String" h0 n0 _ T3.heap _
    rw [e3]
    exact ⟨rfl, N3, K3, (Exa.wr W3 (Exa.wr W2 E_a1))⟩
theorem d7_0 : decode jdk_42_method_139_code 0 = .ok (.getstatic 38, 3) := by decide +kernel
theorem d7_3 : decode jdk_42_method_139_code 3 = .ok (.ifCond .eq 23, 3) := by decide +kernel
theorem d7_6 : decode jdk_42_method_139_code 6 = .ok (.iload_n 0, 1) := by decide +kernel
theorem d7_7 : decode jdk_42_method_139_code 7 = .ok (.invokestatic 1015, 3) := by decide +kernel
theorem d7_10 : decode jdk_42_method_139_code 10 = .ok (.ifCond .eq 16, 3) := by decide +kernel
theorem d7_13 : decode jdk_42_method_139_code 13 = .ok (.new 10, 3) := by decide +kernel
theorem d7_16 : decode jdk_42_method_139_code 16 = .ok (.dup, 1) := by decide +kernel
theorem d7_17 : decode jdk_42_method_139_code 17 = .ok (.iload_n 0, 1) := by decide +kernel
theorem d7_18 : decode jdk_42_method_139_code 18 = .ok (.invokestatic 1018, 3) := by decide +kernel
theorem d7_21 : decode jdk_42_method_139_code 21 = .ok (.iconst 0, 1) := by decide +kernel
theorem d7_22 : decode jdk_42_method_139_code 22 = .ok (.invokespecial 209, 3) := by decide +kernel
theorem d7_25 : decode jdk_42_method_139_code 25 = .ok (.areturn, 1) := by decide +kernel
theorem pn_rmVC : plainName "java/lang/String" = true := by first | (simp [plainName, overriddenIn]; done) | decide +kernel
theorem pd_rmVC_0 : parseMethodDescriptor "(C)Z" = some ⟨[.char], some .boolean⟩ := by decide +kernel
theorem pd_rmVC_1 : parseMethodDescriptor "(C)[B" = some ⟨[.char], some (.array .byte)⟩ := by decide +kernel
theorem pd_rmVC_2 : parseMethodDescriptor "([BB)V" = some ⟨[(.array .byte), .byte], none⟩ := by decide +kernel
theorem ef_rmVC (m : MethodId) (p1 : Int32) : entryFrame m #[(.int p1)] 1 = mkF m 0 #[.val (.int p1)] [] := by first | (simp [entryFrame, mkF, argsToLocals, Value.category]; done) | rfl
set_option maxRecDepth 65536 in
set_option maxHeartbeats 40000000 in
theorem rmVC (l : Launch) (Z : State) (a0 : Array Value) (hw : ∀ d ∈ tables_1, d.before a0 Z = true) (ws : List Jvm.Cond) (p1 cs : Int32) (h0 : Heap) (n0 : Nat) (Z0 : n0 ≤ h0.size) (S_cs : Sta Z h0 "java/lang/String" "COMPACT_STRINGS" "Z" (.int cs)) (hcs : ¬ (cs = (0 : Int32))) (hp : ¬ (255 : Int32) < p1) :
    MetFree l (⟨"java/lang/String", "valueOf", "(C)Ljava/lang/String;"⟩ : MethodName) (head1 (Jvm.Cond.code (⟨"java/lang/String", "valueOf", "(C)Ljava/lang/String;"⟩ : MethodName) jdk_42_method_139_code 1 (some (.object "java/lang/String")) :: ws) ({ frames := 2, cells := 2, slots := 5, locals := 28 } : Room)) (fun a U => a = #[(.int p1)] ∧ Z.Warmed39 U.vm ∧ U.heap = h0) (fun _ _ _ _ _ => True) (fun _ U o U' => ∃ v L, o = .returned v ∧ QB Z "java/lang/String" h0 n0 v U'.heap L ∧ FrameEnd U o U' L ({ frames := 2, cells := 2, slots := 5, locals := 28 } : Room).cells ({ frames := 2, cells := 2, slots := 5, locals := 28 } : Room).slots) := by
  refine MetFree.of_bodySF (plainFor_of_name pn_rmVC) hisR ?_
  intro p e s m args below meth c s₁ Bd hml0 hP hK
  obtain ⟨rfl, hZ, hh⟩ := hP
  have hx := Bd.exec
  have hby := Bd.bytes
  have hml : c.maxLocals = 1 := hml0
  have hown : s.vm.findClass "java/lang/String" = some m.cls := findClass_of_methodNamed Bd.named
  have hnm := (name_of_methodNamed Bd.named Bd.method).1
  have X0 : Stand p l e ({ frames := 2, cells := 2, slots := 5, locals := 28 } : Room) s m #[(.int p1)] below meth c s₁ [] 0 0 := Stand.of_body Bd
  have e0 : s₁.heap = h0 := by rw [← hh, Bd.state]; rfl
  have N0 := Fr.nil n0
  have pre0 : ∀ tt, Steps p.tables e below (s₁.setTop (mkF m 0 #[.val (.int p1)] [])) tt → Steps p.tables e below (s₁.setTop (entryFrame m #[(.int p1)] 1)) tt := fun tt kt => castTop (ef_rmVC m p1) kt
  obtain ⟨T1, X1, e1, st1⟩ := getS2 X0 hx hZ hown (host := "") (Or.inl (hw _ (List.mem_of_getElem? (i := 49) rfl))) Via.refl e0 S_cs (g := (mkF m 0 #[.val (.int p1)] [])) rfl (hb hby d7_0)
  obtain ⟨_, _, ⟨T2, L2, k2, n2⟩, -, X2, ⟨Lc2, hQ2, l2, y2, z2⟩, st2⟩ := Jvm.LawKit.callS X1 hx (y := (⟨"java/lang/StringLatin1", "canEncode", "(C)Z"⟩ : MethodName)) hown (mvT hZ (hw _ (List.mem_of_getElem? (i := 50) rfl))) (mvT hZ (hw _ (List.mem_of_getElem? (i := 51) rfl))) (mvT hZ (hw _ (List.mem_of_getElem? (i := 52) rfl))) (mvT hZ (hw _ (List.mem_of_getElem? (i := 53) rfl))) (by decide) (backOf (W := 0) (rmCE l Z a0 hw [] p1 h0 n0 Z0 hp) hZ (hw _ (List.mem_of_getElem? (i := 53) rfl)) (hw _ (List.mem_of_getElem? (i := 52) rfl)) (by decide) (by decide)) (g := (mkF m 7 #[.val (.int p1)] [(.int p1)])) rfl (by rw [hml]; rfl) (argsL := [(.int p1)]) (rest := []) (lenOf pd_rmVC_0 rfl) rfl (by show 2 * 0 + _ ≤ _; exact Nat.le_of_eq rfl) (hb hby d7_7) (fun _ _ => ⟨rfl, e1, (by decide : 0 + 0 ≤ _), (by decide : 0 + 0 ≤ _)⟩)
  dsimp only [Pt.U, Pt.locs, Pt.cells, Pt.slots] at X2 l2 y2 z2 st2 hQ2
  subst l2 y2 z2
  obtain ⟨rfl, N2q, hE2⟩ := hQ2
  have N2 := Fr.app N0 N2q
  obtain ⟨T3, h3, X3, e3, E3, A3, D3, -, st3⟩ := newO X2 hx hZ hown (hw _ (List.mem_of_getElem? (i := 54) rfl)) (hw _ (List.mem_of_getElem? (i := 55) rfl)) (hw _ (List.mem_of_getElem? (i := 47) rfl)) hE2 (g := (mkF m 13 #[.val (.int p1)] [])) rfl (hb hby d7_13) (by decide) (by decide)
  obtain ⟨b3, g3⟩ : ∃ z, z = h0.size := ⟨_, rfl⟩
  rw [← g3] at A3 D3 st3
  have g_b3 : n0 ≤ b3 := Nat.le_trans Z0 (Nat.le_of_eq g3.symm)
  have sz_b3 : h0.size ≤ b3 := Nat.le_trans ((Keep.refl h0 [])).1 (Nat.le_of_eq g3.symm)
  have K3 : Keep h0 h3 [] := ((Keep.refl h0 [])).ext E3
  have F_value_b3 : Fld Z h3 b3 "java/lang/String" "value" "[B" .null := D3 (Or.inr (hw _ (List.mem_of_getElem? (i := 66) rfl))) (ty := (.array .byte)) (by decide)
  have F_coder_b3 : Fld Z h3 b3 "java/lang/String" "coder" "B" (.int (0 : Int32)) := D3 (Or.inr (hw _ (List.mem_of_getElem? (i := 68) rfl))) (ty := .byte) (by decide)
  obtain ⟨_, _, ⟨T4, L4, k4, n4⟩, -, X4, ⟨Lc4, hQ4, l4, y4, z4⟩, st4⟩ := Jvm.LawKit.callS X3 hx (y := (⟨"java/lang/StringLatin1", "toBytes", "(C)[B"⟩ : MethodName)) hown (mvT hZ (hw _ (List.mem_of_getElem? (i := 56) rfl))) (mvT hZ (hw _ (List.mem_of_getElem? (i := 57) rfl))) (mvT hZ (hw _ (List.mem_of_getElem? (i := 52) rfl))) (mvT hZ (hw _ (List.mem_of_getElem? (i := 58) rfl))) (by decide) (backOf (W := 2) (rmTB l Z a0 hw [] p1 h3 n0 (Nat.le_trans Z0 E3.1)) hZ (hw _ (List.mem_of_getElem? (i := 58) rfl)) (hw _ (List.mem_of_getElem? (i := 52) rfl)) (by decide) (by decide)) (g := (mkF m 18 #[.val (.int p1)] [(.int p1), (.ref b3), (.ref b3)])) rfl (by rw [hml]; rfl) (argsL := [(.int p1)]) (rest := [(.ref b3), (.ref b3)]) (lenOf pd_rmVC_1 rfl) rfl (by show 2 * 0 + _ ≤ _; exact Nat.le_of_eq rfl) (hb hby d7_18) (fun _ _ => ⟨rfl, e3, (by decide : 1 + 1 ≤ _), (by decide : 4 + 1 ≤ _)⟩)
  dsimp only [Pt.U, Pt.locs, Pt.cells, Pt.slots] at X4 l4 y4 z4 st4 hQ4
  subst l4 y4 z4
  obtain ⟨bt4, rfl, N4q, K4⟩ := hQ4
  have N4 := Fr.app N2 N4q
  have KK4 : Keep h0 T4.heap [] := (K3).trans K4 all0
  obtain ⟨_, _, ⟨T5, L5, k5, n5⟩, -, X5, ⟨Lc5, hQ5, l5, y5, z5⟩, st5⟩ := X4.specialBack hx (y := (⟨"java/lang/String", "<init>", "([BB)V"⟩ : MethodName)) rfl hown (mvT hZ (hw _ (List.mem_of_getElem? (i := 60) rfl))) (mvT hZ (hw _ (List.mem_of_getElem? (i := 61) rfl))) (mvT hZ (hw _ (List.mem_of_getElem? (i := 63) rfl))) (by decide) (backOf (W := 1) (rmSI l Z a0 hw [] b3 bt4 T4.heap n0 (Nat.le_trans (Nat.le_trans Z0 E3.1) K4.1) (A3.keep K4) (F_value_b3.keep K4 nin0) (F_coder_b3.keep K4 nin0) g_b3) hZ (hw _ (List.mem_of_getElem? (i := 63) rfl)) (hw _ (List.mem_of_getElem? (i := 47) rfl)) (by decide) (by decide)) (g := (mkF m 22 #[.val (.int p1)] [(.int (0 : Int32)), (.ref bt4), (.ref b3), (.ref b3)])) rfl (by rw [hml]; rfl) (Steps.refl _) (a := b3) (argsL := [(.ref bt4), (.int (0 : Int32))]) (rest := [(.ref b3)]) (lenOf pd_rmVC_2 rfl) rfl (by show 2 * 0 + _ ≤ _; exact Nat.le_of_eq rfl) (hb hby d7_22) (fun _ _ => ⟨rfl, rfl, (by decide : 2 + 0 ≤ _), (by decide : 5 + 0 ≤ _)⟩)
  dsimp only [Pt.U, Pt.locs, Pt.cells, Pt.slots] at X5 l5 y5 z5 st5 hQ5
  subst l5 y5 z5
  obtain ⟨rfl, N5q, K5, Ei5⟩ := hQ5
  have N5 := Fr.app N4 N5q
  have KK5 : Keep h0 T5.heap [] := (KK4).trans K5 (allS (Or.inr sz_b3) all0)
  have pre6 : ∀ tt, Steps p.tables e below (T5.setTop (mkF m 25 #[.val (.int p1)] [(.ref b3)])) tt → Steps p.tables e below (s₁.setTop (entryFrame m #[(.int p1)] 1)) tt := by
    intro tt kt
    refine pre0 tt ?_
    show Steps p.tables e below (s₁.setTop (mkF m 0 #[.val (.int p1)] [])) _
    refine st1 _ ?_
    show Steps p.tables e below (T1.setTop (mkF m 3 #[.val (.int p1)] [(.int cs)])) _
    refine XS.ifNo X1.here hx rfl (hb hby d7_3) rfl ((if0 _ _).trans (feq hcs).1) ?_
    show Steps p.tables e below (T1.setTop (mkF m 6 #[.val (.int p1)] [])) _
    refine XS.iloadN X1.here hx rfl (hb hby d7_6) rfl ?_
    show Steps p.tables e below (T1.setTop (mkF m 7 #[.val (.int p1)] [(.int p1)])) _
    refine st2 _ ?_
    show Steps p.tables e below (T2.setTop (mkF m 10 #[.val (.int p1)] [(.int (1 : Int32))])) _
    refine XS.ifNo X2.here hx rfl (hb hby d7_10) rfl ((if0 _ _).trans (feq (by decide : ¬ ((1 : Int32) = (0 : Int32)))).1) ?_
    show Steps p.tables e below (T2.setTop (mkF m 13 #[.val (.int p1)] [])) _
    refine st3 _ ?_
    show Steps p.tables e below (T3.setTop (mkF m 16 #[.val (.int p1)] [(.ref b3)])) _
    refine XS.dup X3.here hx rfl (hb hby d7_16) rfl rfl ?_
    show Steps p.tables e below (T3.setTop (mkF m 17 #[.val (.int p1)] [(.ref b3), (.ref b3)])) _
    refine XS.iloadN X3.here hx rfl (hb hby d7_17) rfl ?_
    show Steps p.tables e below (T3.setTop (mkF m 18 #[.val (.int p1)] [(.int p1), (.ref b3), (.ref b3)])) _
    refine st4 _ ?_
    show Steps p.tables e below (T4.setTop (mkF m 21 #[.val (.int p1)] [(.ref bt4), (.ref b3), (.ref b3)])) _
    refine XS.iconst X4.here hx rfl (hb hby d7_21) ?_
    show Steps p.tables e below (T4.setTop (mkF m 22 #[.val (.int p1)] [(.int (0 : Int32)), (.ref bt4), (.ref b3), (.ref b3)])) _
    refine st5.trans ?_
    exact kt
  obtain ⟨fs, hr, hrun, hended, hW, hsame⟩ := X5.leave (v := some (.ref b3)) (fun h => by rw [Bd.returns] at h; cases h)
  refine ⟨_, _, pre6 _ ?_, hrun, hended, _, _, rfl, ?_, ⟨_, rfl⟩, hW, hsame.mono (by decide) (by decide)⟩
  · show Steps p.tables e below (T5.setTop (mkF m 25 #[.val (.int p1)] [(.ref b3)])) _
    jvm_step X5.here [X5.here.top, hx, (hb hby d7_25), X5.method', Bd.returns, Value.isRef, FieldType.isReference]
    first | (intro acts; rw [hr _ acts rfl rfl rfl]) | rw [hr _ _ rfl rfl rfl]
    exact Steps.refl _
  · show QB Z "java/lang/String" h0 n0 _ T5.heap _
    exact ⟨_, rfl, N5, KK5, Ei5⟩
def QC (Z : State) (a1 : Addr) (p1 p2 : Int32) (h0 : Heap) (n0 : Nat) (v : Option Value) (h : Heap) (L : List Loc) : Prop := v = none ∧ Fr n0 L ∧ Keep h0 h [a1] ∧ Exa Z h a1 "com/example/keyturn/keyturn/signing/SdkRange" ∧ Fld Z h a1 "com/example/keyturn/keyturn/signing/SdkRange" "min" "I" (.int p1) ∧ Fld Z h a1 "com/example/keyturn/keyturn/signing/SdkRange" "max" "I" (.int p2)
theorem d1_0 : decode prog_47_method_1_code 0 = .ok (.aload_n 0, 1) := by decide +kernel
theorem d1_1 : decode prog_47_method_1_code 1 = .ok (.invokespecial 1, 3) := by decide +kernel
theorem d1_4 : decode prog_47_method_1_code 4 = .ok (.aload_n 0, 1) := by decide +kernel
theorem d1_5 : decode prog_47_method_1_code 5 = .ok (.iload_n 1, 1) := by decide +kernel
theorem d1_6 : decode prog_47_method_1_code 6 = .ok (.putfield 7, 3) := by decide +kernel
theorem d1_9 : decode prog_47_method_1_code 9 = .ok (.aload_n 0, 1) := by decide +kernel
theorem d1_10 : decode prog_47_method_1_code 10 = .ok (.iload_n 2, 1) := by decide +kernel
theorem d1_11 : decode prog_47_method_1_code 11 = .ok (.putfield 13, 3) := by decide +kernel
theorem d1_14 : decode prog_47_method_1_code 14 = .ok (.return_, 1) := by decide +kernel
theorem pn_rmC : plainName "com/example/keyturn/keyturn/signing/SdkRange" = true := by first | (simp [plainName, overriddenIn]; done) | decide +kernel
theorem ef_rmC (m : MethodId) (a1 : Addr) (p1 : Int32) (p2 : Int32) : entryFrame m #[(.ref a1), (.int p1), (.int p2)] 3 = mkF m 0 #[.val (.ref a1), .val (.int p1), .val (.int p2)] [] := by first | (simp [entryFrame, mkF, argsToLocals, Value.category]; done) | rfl
set_option maxRecDepth 65536 in
set_option maxHeartbeats 40000000 in
theorem rmC (l : Launch) (Z : State) (a0 : Array Value) (hw : ∀ d ∈ tables_1, d.before a0 Z = true) (ws : List Jvm.Cond) (a1 : Addr) (p1 p2 : Int32) (h0 : Heap) (n0 : Nat) (Z0 : n0 ≤ h0.size) (E_a1 : Exa Z h0 a1 "com/example/keyturn/keyturn/signing/SdkRange") (F_m : Fld Z h0 a1 "com/example/keyturn/keyturn/signing/SdkRange" "min" "I" (.int (0 : Int32))) (F_x : Fld Z h0 a1 "com/example/keyturn/keyturn/signing/SdkRange" "max" "I" (.int (0 : Int32))) (g_a1 : n0 ≤ a1) :
    MetFree l (⟨"com/example/keyturn/keyturn/signing/SdkRange", "<init>", "(II)V"⟩ : MethodName) (head1 (Jvm.Cond.code (⟨"com/example/keyturn/keyturn/signing/SdkRange", "<init>", "(II)V"⟩ : MethodName) prog_47_method_1_code 3 none :: ws) ({ frames := 1, cells := 0, slots := 0, locals := 12 } : Room)) (fun a U => a = #[(.ref a1), (.int p1), (.int p2)] ∧ Z.Warmed39 U.vm ∧ U.heap = h0) (fun _ _ _ _ _ => True) (fun _ U o U' => ∃ v L, o = .returned v ∧ QC Z a1 p1 p2 h0 n0 v U'.heap L ∧ FrameEnd U o U' L ({ frames := 1, cells := 0, slots := 0, locals := 12 } : Room).cells ({ frames := 1, cells := 0, slots := 0, locals := 12 } : Room).slots) := by
  refine MetFree.of_bodySF (plainFor_of_name pn_rmC) hisR ?_
  intro p e s m args below meth c s₁ Bd hml0 hP hK
  obtain ⟨rfl, hZ, hh⟩ := hP
  have hx := Bd.exec
  have hby := Bd.bytes
  have hml : c.maxLocals = 3 := hml0
  have hown : s.vm.findClass "com/example/keyturn/keyturn/signing/SdkRange" = some m.cls := findClass_of_methodNamed Bd.named
  have hnm := (name_of_methodNamed Bd.named Bd.method).1
  have X0 : Stand p l e ({ frames := 1, cells := 0, slots := 0, locals := 12 } : Room) s m #[(.ref a1), (.int p1), (.int p2)] below meth c s₁ [] 0 0 := Stand.of_body Bd
  have e0 : s₁.heap = h0 := by rw [← hh, Bd.state]; rfl
  have N0 := Fr.nil n0
  have pre0 : ∀ tt, Steps p.tables e below (s₁.setTop (mkF m 0 #[.val (.ref a1), .val (.int p1), .val (.int p2)] [])) tt → Steps p.tables e below (s₁.setTop (entryFrame m #[(.ref a1), (.int p1), (.int p2)] 3)) tt := fun tt kt => castTop (ef_rmC m a1 p1 p2) kt
  obtain ⟨T1, X1, e1, st1⟩ := initO X0 hx hZ hown (hw _ (List.mem_of_getElem? (i := 6) rfl)) (hw _ (List.mem_of_getElem? (i := 7) rfl)) (hw _ (List.mem_of_getElem? (i := 8) rfl)) e0 (g := (mkF m 1 #[.val (.ref a1), .val (.int p1), .val (.int p2)] [(.ref a1)])) rfl (by rw [hml]; rfl) rfl (hb hby d1_1) (by decide) (W := 0) (by show 2 * 0 + _ ≤ _; exact Nat.le_of_eq rfl) (by decide)
  obtain ⟨T2, h2, X2, e2, W2, st2⟩ := putF X1 hx hZ hown (host := "") (Or.inl (hw _ (List.mem_of_getElem? (i := 9) rfl))) Via.refl e1 F_m E_a1 (Or.inr ⟨(hw _ (List.mem_of_getElem? (i := 10) rfl)), rfl, hnm⟩) (hw _ (List.mem_of_getElem? (i := 1) rfl)) (ty := .int) (by decide) rfl rfl (g := (mkF m 6 #[.val (.ref a1), .val (.int p1), .val (.int p2)] [(.int p1), (.ref a1)])) rfl rfl (hb hby d1_6)
  have Fw2 := Fld.same W2 F_m
  have N2 := Fr.snoc X2 N0 g_a1
  have K2 : Keep h0 h2 [a1] := ((Keep.refl h0 [a1])).wr W2 (Or.inl (List.mem_of_getElem? (i := 0) rfl))
  obtain ⟨T3, h3, X3, e3, W3, st3⟩ := putF X2 hx hZ hown (host := "") (Or.inl (hw _ (List.mem_of_getElem? (i := 11) rfl))) Via.refl e2 (Fld.other W2 F_x (Or.inr (slot_ne (Or.inr (hw _ (List.mem_of_getElem? (i := 12) rfl))) (Or.inr (hw _ (List.mem_of_getElem? (i := 10) rfl))) (by decide) (t := .int) (t' := .int) (by decide) (by decide)))) (Exa.wr W2 E_a1) (Or.inr ⟨(hw _ (List.mem_of_getElem? (i := 12) rfl)), rfl, hnm⟩) (hw _ (List.mem_of_getElem? (i := 1) rfl)) (ty := .int) (by decide) rfl rfl (g := (mkF m 11 #[.val (.ref a1), .val (.int p1), .val (.int p2)] [(.int p2), (.ref a1)])) rfl rfl (hb hby d1_11)
  have Fw3 := Fld.same W3 (Fld.other W2 F_x (Or.inr (slot_ne (Or.inr (hw _ (List.mem_of_getElem? (i := 12) rfl))) (Or.inr (hw _ (List.mem_of_getElem? (i := 10) rfl))) (by decide) (t := .int) (t' := .int) (by decide) (by decide))))
  have N3 := Fr.snoc X3 N2 g_a1
  have K3 : Keep h0 h3 [a1] := (K2).wr W3 (Or.inl (List.mem_of_getElem? (i := 0) rfl))
  have pre4 : ∀ tt, Steps p.tables e below (T3.setTop (mkF m 14 #[.val (.ref a1), .val (.int p1), .val (.int p2)] [])) tt → Steps p.tables e below (s₁.setTop (entryFrame m #[(.ref a1), (.int p1), (.int p2)] 3)) tt := by
    intro tt kt
    refine pre0 tt ?_
    show Steps p.tables e below (s₁.setTop (mkF m 0 #[.val (.ref a1), .val (.int p1), .val (.int p2)] [])) _
    refine XS.aloadN X0.here hx rfl (hb hby d1_0) rfl rfl ?_
    show Steps p.tables e below (s₁.setTop (mkF m 1 #[.val (.ref a1), .val (.int p1), .val (.int p2)] [(.ref a1)])) _
    refine st1 _ ?_
    show Steps p.tables e below (T1.setTop (mkF m 4 #[.val (.ref a1), .val (.int p1), .val (.int p2)] [])) _
    refine XS.aloadN X1.here hx rfl (hb hby d1_4) rfl rfl ?_
    show Steps p.tables e below (T1.setTop (mkF m 5 #[.val (.ref a1), .val (.int p1), .val (.int p2)] [(.ref a1)])) _
    refine XS.iloadN X1.here hx rfl (hb hby d1_5) rfl ?_
    show Steps p.tables e below (T1.setTop (mkF m 6 #[.val (.ref a1), .val (.int p1), .val (.int p2)] [(.int p1), (.ref a1)])) _
    refine st2 _ ?_
    show Steps p.tables e below (T2.setTop (mkF m 9 #[.val (.ref a1), .val (.int p1), .val (.int p2)] [])) _
    refine XS.aloadN X2.here hx rfl (hb hby d1_9) rfl rfl ?_
    show Steps p.tables e below (T2.setTop (mkF m 10 #[.val (.ref a1), .val (.int p1), .val (.int p2)] [(.ref a1)])) _
    refine XS.iloadN X2.here hx rfl (hb hby d1_10) rfl ?_
    show Steps p.tables e below (T2.setTop (mkF m 11 #[.val (.ref a1), .val (.int p1), .val (.int p2)] [(.int p2), (.ref a1)])) _
    refine st3 _ ?_
    exact kt
  obtain ⟨fs, hr, hrun, hended, hW, hsame⟩ := X3.leave (v := none) (fun _ => rfl)
  refine ⟨_, _, pre4 _ ?_, hrun, hended, _, _, rfl, ?_, ⟨_, rfl⟩, hW, hsame.mono (by decide) (by decide)⟩
  · show Steps p.tables e below (T3.setTop (mkF m 14 #[.val (.ref a1), .val (.int p1), .val (.int p2)] [])) _
    exact X3.returnOut hx Bd.returns (hb hby d1_14) hr
  · show QC Z a1 p1 p2 h0 n0 _ T3.heap _
    rw [e3]
    exact ⟨rfl, N3, K3, (Exa.wr W3 (Exa.wr W2 E_a1)), (Fld.other W3 Fw2 (Or.inr (slot_ne (Or.inr (hw _ (List.mem_of_getElem? (i := 10) rfl))) (Or.inr (hw _ (List.mem_of_getElem? (i := 12) rfl))) (by decide) (t := .int) (t' := .int) (by decide) (by decide)))), Fw3⟩
theorem d3_0 : decode prog_47_method_7_code 0 = .ok (.aload_n 1, 1) := by decide +kernel
theorem d3_1 : decode prog_47_method_7_code 1 = .ok (.instanceof 8, 3) := by decide +kernel
theorem d3_4 : decode prog_47_method_7_code 4 = .ok (.ifCond .eq 11, 3) := by decide +kernel
theorem d3_7 : decode prog_47_method_7_code 7 = .ok (.aload_n 1, 1) := by decide +kernel
theorem d3_8 : decode prog_47_method_7_code 8 = .ok (.checkcast 8, 3) := by decide +kernel
theorem d3_11 : decode prog_47_method_7_code 11 = .ok (.astore_n 2, 1) := by decide +kernel
theorem d3_12 : decode prog_47_method_7_code 12 = .ok (.goto 5, 3) := by decide +kernel
theorem d3_17 : decode prog_47_method_7_code 17 = .ok (.aload_n 0, 1) := by decide +kernel
theorem d3_18 : decode prog_47_method_7_code 18 = .ok (.getfield 7, 3) := by decide +kernel
theorem d3_21 : decode prog_47_method_7_code 21 = .ok (.aload_n 2, 1) := by decide +kernel
theorem d3_22 : decode prog_47_method_7_code 22 = .ok (.getfield 7, 3) := by decide +kernel
theorem d3_25 : decode prog_47_method_7_code 25 = .ok (.if_icmp .ne 18, 3) := by decide +kernel
theorem d3_28 : decode prog_47_method_7_code 28 = .ok (.aload_n 0, 1) := by decide +kernel
theorem d3_29 : decode prog_47_method_7_code 29 = .ok (.getfield 13, 3) := by decide +kernel
theorem d3_32 : decode prog_47_method_7_code 32 = .ok (.aload_n 2, 1) := by decide +kernel
theorem d3_33 : decode prog_47_method_7_code 33 = .ok (.getfield 13, 3) := by decide +kernel
theorem d3_36 : decode prog_47_method_7_code 36 = .ok (.if_icmp .ne 7, 3) := by decide +kernel
theorem d3_39 : decode prog_47_method_7_code 39 = .ok (.iconst 1, 1) := by decide +kernel
theorem d3_40 : decode prog_47_method_7_code 40 = .ok (.goto 4, 3) := by decide +kernel
theorem d3_43 : decode prog_47_method_7_code 43 = .ok (.iconst 0, 1) := by decide +kernel
theorem d3_44 : decode prog_47_method_7_code 44 = .ok (.ireturn, 1) := by decide +kernel
theorem pn_rmE : plainName "com/example/keyturn/keyturn/signing/SdkRange" = true := by first | (simp [plainName, overriddenIn]; done) | decide +kernel
theorem ef_rmE (m : MethodId) (a1 : Addr) (a2 : Addr) : entryFrame m #[(.ref a1), (.ref a2)] 3 = mkF m 0 #[.val (.ref a1), .val (.ref a2), .unset] [] := by first | (simp [entryFrame, mkF, argsToLocals, Value.category]; done) | rfl
set_option maxRecDepth 65536 in
set_option maxHeartbeats 40000000 in
theorem rmE (l : Launch) (Z : State) (a0 : Array Value) (hw : ∀ d ∈ tables_1, d.before a0 Z = true) (ws : List Jvm.Cond) (a1 a2 : Addr) (x1 x2 y1 y2 r : Int32) (h0 : Heap) (n0 : Nat) (Z0 : n0 ≤ h0.size) (E_a2 : Exa Z h0 a2 "com/example/keyturn/keyturn/signing/SdkRange") (F1 : Fld Z h0 a1 "com/example/keyturn/keyturn/signing/SdkRange" "min" "I" (.int x1)) (F2 : Fld Z h0 a1 "com/example/keyturn/keyturn/signing/SdkRange" "max" "I" (.int x2)) (G1 : Fld Z h0 a2 "com/example/keyturn/keyturn/signing/SdkRange" "min" "I" (.int y1)) (G2 : Fld Z h0 a2 "com/example/keyturn/keyturn/signing/SdkRange" "max" "I" (.int y2)) (hr0 : r = if x1 = y1 then (if x2 = y2 then (1 : Int32) else 0) else 0) :
    MetFree l (⟨"com/example/keyturn/keyturn/signing/SdkRange", "equals", "(Ljava/lang/Object;)Z"⟩ : MethodName) (head1 (Jvm.Cond.code (⟨"com/example/keyturn/keyturn/signing/SdkRange", "equals", "(Ljava/lang/Object;)Z"⟩ : MethodName) prog_47_method_7_code 3 (some .boolean) :: ws) ({ frames := 0, cells := 0, slots := 0, locals := 0 } : Room)) (fun a U => a = #[(.ref a1), (.ref a2)] ∧ Z.Warmed39 U.vm ∧ U.heap = h0) (fun _ _ _ _ _ => True) (fun _ U o U' => ∃ v L, o = .returned v ∧ QI Z r h0 n0 v U'.heap L ∧ FrameEnd U o U' L ({ frames := 0, cells := 0, slots := 0, locals := 0 } : Room).cells ({ frames := 0, cells := 0, slots := 0, locals := 0 } : Room).slots) := by
  refine MetFree.of_bodySF (plainFor_of_name pn_rmE) hisR ?_
  intro p e s m args below meth c s₁ Bd hml0 hP hK
  obtain ⟨rfl, hZ, hh⟩ := hP
  have hx := Bd.exec
  have hby := Bd.bytes
  have hml : c.maxLocals = 3 := hml0
  have hown : s.vm.findClass "com/example/keyturn/keyturn/signing/SdkRange" = some m.cls := findClass_of_methodNamed Bd.named
  have hnm := (name_of_methodNamed Bd.named Bd.method).1
  have X0 : Stand p l e ({ frames := 0, cells := 0, slots := 0, locals := 0 } : Room) s m #[(.ref a1), (.ref a2)] below meth c s₁ [] 0 0 := Stand.of_body Bd
  have e0 : s₁.heap = h0 := by rw [← hh, Bd.state]; rfl
  have N0 := Fr.nil n0
  have pre0 : ∀ tt, Steps p.tables e below (s₁.setTop (mkF m 0 #[.val (.ref a1), .val (.ref a2), .unset] [])) tt → Steps p.tables e below (s₁.setTop (entryFrame m #[(.ref a1), (.ref a2)] 3)) tt := fun tt kt => castTop (ef_rmE m a1 a2) kt
  obtain ⟨T1, X1, e1, st1⟩ := instY X0 hx hZ hown (hw _ (List.mem_of_getElem? (i := 18) rfl)) e0 (Ins.self E_a2) (g := (mkF m 1 #[.val (.ref a1), .val (.ref a2), .unset] [(.ref a2)])) rfl rfl (hb hby d3_1)
  obtain ⟨T2, X2, e2, st2⟩ := castY X1 hx hZ hown (hw _ (List.mem_of_getElem? (i := 18) rfl)) e1 (Ins.self E_a2) (g := (mkF m 8 #[.val (.ref a1), .val (.ref a2), .unset] [(.ref a2)])) rfl rfl (hb hby d3_8)
  obtain ⟨T3, X3, e3, st3⟩ := getF X2 hx hZ hown (host := "") (Or.inl (hw _ (List.mem_of_getElem? (i := 9) rfl))) Via.refl e2 F1 (g := (mkF m 18 #[.val (.ref a1), .val (.ref a2), .val (.ref a2)] [(.ref a1)])) rfl rfl (hb hby d3_18)
  obtain ⟨T4, X4, e4, st4⟩ := getF X3 hx hZ hown (host := "") (Or.inl (hw _ (List.mem_of_getElem? (i := 9) rfl))) Via.refl e3 G1 (g := (mkF m 22 #[.val (.ref a1), .val (.ref a2), .val (.ref a2)] [(.ref a2), (.int x1)])) rfl rfl (hb hby d3_22)
  have pre5 : ∀ tt, Steps p.tables e below (T4.setTop (mkF m 25 #[.val (.ref a1), .val (.ref a2), .val (.ref a2)] [(.int y1), (.int x1)])) tt → Steps p.tables e below (s₁.setTop (entryFrame m #[(.ref a1), (.ref a2)] 3)) tt := by
    intro tt kt
    refine pre0 tt ?_
    show Steps p.tables e below (s₁.setTop (mkF m 0 #[.val (.ref a1), .val (.ref a2), .unset] [])) _
    refine XS.aloadN X0.here hx rfl (hb hby d3_0) rfl rfl ?_
    show Steps p.tables e below (s₁.setTop (mkF m 1 #[.val (.ref a1), .val (.ref a2), .unset] [(.ref a2)])) _
    refine st1 _ ?_
    show Steps p.tables e below (T1.setTop (mkF m 4 #[.val (.ref a1), .val (.ref a2), .unset] [(.int (1 : Int32))])) _
    refine XS.ifNo X1.here hx rfl (hb hby d3_4) rfl ((if0 _ _).trans (feq (by decide : ¬ ((1 : Int32) = (0 : Int32)))).1) ?_
    show Steps p.tables e below (T1.setTop (mkF m 7 #[.val (.ref a1), .val (.ref a2), .unset] [])) _
    refine XS.aloadN X1.here hx rfl (hb hby d3_7) rfl rfl ?_
    show Steps p.tables e below (T1.setTop (mkF m 8 #[.val (.ref a1), .val (.ref a2), .unset] [(.ref a2)])) _
    refine st2 _ ?_
    show Steps p.tables e below (T2.setTop (mkF m 11 #[.val (.ref a1), .val (.ref a2), .unset] [(.ref a2)])) _
    refine XS.astoreN X2.here hx rfl (hb hby d3_11) rfl rfl (l' := #[.val (.ref a1), .val (.ref a2), .val (.ref a2)]) rfl ?_
    show Steps p.tables e below (T2.setTop (mkF m 12 #[.val (.ref a1), .val (.ref a2), .val (.ref a2)] [])) _
    refine XS.goto X2.here hx rfl (pc0 := 12) (pc' := 17) rfl (hb hby d3_12) (by decide) (by decide) ?_
    show Steps p.tables e below (T2.setTop (mkF m 17 #[.val (.ref a1), .val (.ref a2), .val (.ref a2)] [])) _
    refine XS.aloadN X2.here hx rfl (hb hby d3_17) rfl rfl ?_
    show Steps p.tables e below (T2.setTop (mkF m 18 #[.val (.ref a1), .val (.ref a2), .val (.ref a2)] [(.ref a1)])) _
    refine st3 _ ?_
    show Steps p.tables e below (T3.setTop (mkF m 21 #[.val (.ref a1), .val (.ref a2), .val (.ref a2)] [(.int x1)])) _
    refine XS.aloadN X3.here hx rfl (hb hby d3_21) rfl rfl ?_
    show Steps p.tables e below (T3.setTop (mkF m 22 #[.val (.ref a1), .val (.ref a2), .val (.ref a2)] [(.ref a2), (.int x1)])) _
    refine st4 _ ?_
    exact kt
  by_cases c25_6 : x1 = y1
  · obtain ⟨T7, X7, e7, st7⟩ := getF X4 hx hZ hown (host := "") (Or.inl (hw _ (List.mem_of_getElem? (i := 11) rfl))) Via.refl e4 F2 (g := (mkF m 29 #[.val (.ref a1), .val (.ref a2), .val (.ref a2)] [(.ref a1)])) rfl rfl (hb hby d3_29)
    obtain ⟨T8, X8, e8, st8⟩ := getF X7 hx hZ hown (host := "") (Or.inl (hw _ (List.mem_of_getElem? (i := 11) rfl))) Via.refl e7 G2 (g := (mkF m 33 #[.val (.ref a1), .val (.ref a2), .val (.ref a2)] [(.ref a2), (.int x2)])) rfl rfl (hb hby d3_33)
    have pre9 : ∀ tt, Steps p.tables e below (T8.setTop (mkF m 36 #[.val (.ref a1), .val (.ref a2), .val (.ref a2)] [(.int y2), (.int x2)])) tt → Steps p.tables e below (s₁.setTop (entryFrame m #[(.ref a1), (.ref a2)] 3)) tt := by
      intro tt kt
      refine pre5 tt ?_
      show Steps p.tables e below (T4.setTop (mkF m 25 #[.val (.ref a1), .val (.ref a2), .val (.ref a2)] [(.int y1), (.int x1)])) _
      refine XS.icmpNo X4.here hx rfl (hb hby d3_25) rfl (teq c25_6).2 ?_
      show Steps p.tables e below (T4.setTop (mkF m 28 #[.val (.ref a1), .val (.ref a2), .val (.ref a2)] [])) _
      refine XS.aloadN X4.here hx rfl (hb hby d3_28) rfl rfl ?_
      show Steps p.tables e below (T4.setTop (mkF m 29 #[.val (.ref a1), .val (.ref a2), .val (.ref a2)] [(.ref a1)])) _
      refine st7 _ ?_
      show Steps p.tables e below (T7.setTop (mkF m 32 #[.val (.ref a1), .val (.ref a2), .val (.ref a2)] [(.int x2)])) _
      refine XS.aloadN X7.here hx rfl (hb hby d3_32) rfl rfl ?_
      show Steps p.tables e below (T7.setTop (mkF m 33 #[.val (.ref a1), .val (.ref a2), .val (.ref a2)] [(.ref a2), (.int x2)])) _
      refine st8 _ ?_
      exact kt
    by_cases c36_10 : x2 = y2
    · have pre11 : ∀ tt, Steps p.tables e below (T8.setTop (mkF m 44 #[.val (.ref a1), .val (.ref a2), .val (.ref a2)] [(.int (1 : Int32))])) tt → Steps p.tables e below (s₁.setTop (entryFrame m #[(.ref a1), (.ref a2)] 3)) tt := by
        intro tt kt
        refine pre9 tt ?_
        show Steps p.tables e below (T8.setTop (mkF m 36 #[.val (.ref a1), .val (.ref a2), .val (.ref a2)] [(.int y2), (.int x2)])) _
        refine XS.icmpNo X8.here hx rfl (hb hby d3_36) rfl (teq c36_10).2 ?_
        show Steps p.tables e below (T8.setTop (mkF m 39 #[.val (.ref a1), .val (.ref a2), .val (.ref a2)] [])) _
        refine XS.iconst X8.here hx rfl (hb hby d3_39) ?_
        show Steps p.tables e below (T8.setTop (mkF m 40 #[.val (.ref a1), .val (.ref a2), .val (.ref a2)] [(.int (1 : Int32))])) _
        refine XS.goto X8.here hx rfl (pc0 := 40) (pc' := 44) rfl (hb hby d3_40) (by decide) (by decide) ?_
        exact kt
      obtain ⟨fs, hr, hrun, hended, hW, hsame⟩ := X8.leave (v := some (.int (1 : Int32))) (fun h => by rw [Bd.returns] at h; cases h)
      refine ⟨_, _, pre11 _ ?_, hrun, hended, _, _, rfl, ?_, ⟨_, rfl⟩, hW, hsame.mono (by decide) (by decide)⟩
      · show Steps p.tables e below (T8.setTop (mkF m 44 #[.val (.ref a1), .val (.ref a2), .val (.ref a2)] [(.int (1 : Int32))])) _
        exact retN X8 hx (t := .boolean) Bd.returns (by simp) (hb hby d3_44) hr
      · show QI Z r h0 n0 _ T8.heap _
        rw [e8]
        exact ⟨by rw [hr0]; simp [c25_6, c36_10], N0, rfl⟩
    · have pre12 : ∀ tt, Steps p.tables e below (T8.setTop (mkF m 44 #[.val (.ref a1), .val (.ref a2), .val (.ref a2)] [(.int (0 : Int32))])) tt → Steps p.tables e below (s₁.setTop (entryFrame m #[(.ref a1), (.ref a2)] 3)) tt := by
        intro tt kt
        refine pre9 tt ?_
        show Steps p.tables e below (T8.setTop (mkF m 36 #[.val (.ref a1), .val (.ref a2), .val (.ref a2)] [(.int y2), (.int x2)])) _
        refine XS.icmpYes X8.here hx rfl (pc0 := 36) (pc' := 43) rfl (hb hby d3_36) rfl (feq c36_10).2 (by decide) (by decide) ?_
        show Steps p.tables e below (T8.setTop (mkF m 43 #[.val (.ref a1), .val (.ref a2), .val (.ref a2)] [])) _
        refine XS.iconst X8.here hx rfl (hb hby d3_43) ?_
        exact kt
      obtain ⟨fs, hr, hrun, hended, hW, hsame⟩ := X8.leave (v := some (.int (0 : Int32))) (fun h => by rw [Bd.returns] at h; cases h)
      refine ⟨_, _, pre12 _ ?_, hrun, hended, _, _, rfl, ?_, ⟨_, rfl⟩, hW, hsame.mono (by decide) (by decide)⟩
      · show Steps p.tables e below (T8.setTop (mkF m 44 #[.val (.ref a1), .val (.ref a2), .val (.ref a2)] [(.int (0 : Int32))])) _
        exact retN X8 hx (t := .boolean) Bd.returns (by simp) (hb hby d3_44) hr
      · show QI Z r h0 n0 _ T8.heap _
        rw [e8]
        exact ⟨by rw [hr0]; simp [c25_6, c36_10], N0, rfl⟩
  · have pre13 : ∀ tt, Steps p.tables e below (T4.setTop (mkF m 44 #[.val (.ref a1), .val (.ref a2), .val (.ref a2)] [(.int (0 : Int32))])) tt → Steps p.tables e below (s₁.setTop (entryFrame m #[(.ref a1), (.ref a2)] 3)) tt := by
      intro tt kt
      refine pre5 tt ?_
      show Steps p.tables e below (T4.setTop (mkF m 25 #[.val (.ref a1), .val (.ref a2), .val (.ref a2)] [(.int y1), (.int x1)])) _
      refine XS.icmpYes X4.here hx rfl (pc0 := 25) (pc' := 43) rfl (hb hby d3_25) rfl (feq c25_6).2 (by decide) (by decide) ?_
      show Steps p.tables e below (T4.setTop (mkF m 43 #[.val (.ref a1), .val (.ref a2), .val (.ref a2)] [])) _
      refine XS.iconst X4.here hx rfl (hb hby d3_43) ?_
      exact kt
    obtain ⟨fs, hr, hrun, hended, hW, hsame⟩ := X4.leave (v := some (.int (0 : Int32))) (fun h => by rw [Bd.returns] at h; cases h)
    refine ⟨_, _, pre13 _ ?_, hrun, hended, _, _, rfl, ?_, ⟨_, rfl⟩, hW, hsame.mono (by decide) (by decide)⟩
    · show Steps p.tables e below (T4.setTop (mkF m 44 #[.val (.ref a1), .val (.ref a2), .val (.ref a2)] [(.int (0 : Int32))])) _
      exact retN X4 hx (t := .boolean) Bd.returns (by simp) (hb hby d3_44) hr
    · show QI Z r h0 n0 _ T4.heap _
      rw [e4]
      exact ⟨by rw [hr0]; simp [c25_6], N0, rfl⟩
theorem d3_15 : decode prog_47_method_7_code 15 = .ok (.iconst 0, 1) := by decide +kernel
theorem d3_16 : decode prog_47_method_7_code 16 = .ok (.ireturn, 1) := by decide +kernel
theorem pn_rmEN : plainName "com/example/keyturn/keyturn/signing/SdkRange" = true := by first | (simp [plainName, overriddenIn]; done) | decide +kernel
theorem ef_rmEN (m : MethodId) (a1 : Addr) : entryFrame m #[(.ref a1), .null] 3 = mkF m 0 #[.val (.ref a1), .val .null, .unset] [] := by first | (simp [entryFrame, mkF, argsToLocals, Value.category]; done) | rfl
set_option maxRecDepth 65536 in
set_option maxHeartbeats 40000000 in
theorem rmEN (l : Launch) (Z : State) (a0 : Array Value) (hw : ∀ d ∈ tables_1, d.before a0 Z = true) (ws : List Jvm.Cond) (a1 : Addr) (h0 : Heap) (n0 : Nat) (Z0 : n0 ≤ h0.size)  :
    MetFree l (⟨"com/example/keyturn/keyturn/signing/SdkRange", "equals", "(Ljava/lang/Object;)Z"⟩ : MethodName) (head1 (Jvm.Cond.code (⟨"com/example/keyturn/keyturn/signing/SdkRange", "equals", "(Ljava/lang/Object;)Z"⟩ : MethodName) prog_47_method_7_code 3 (some .boolean) :: ws) ({ frames := 0, cells := 0, slots := 0, locals := 0 } : Room)) (fun a U => a = #[(.ref a1), .null] ∧ Z.Warmed39 U.vm ∧ U.heap = h0) (fun _ _ _ _ _ => True) (fun _ U o U' => ∃ v L, o = .returned v ∧ QI Z (0 : Int32) h0 n0 v U'.heap L ∧ FrameEnd U o U' L ({ frames := 0, cells := 0, slots := 0, locals := 0 } : Room).cells ({ frames := 0, cells := 0, slots := 0, locals := 0 } : Room).slots) := by
  refine MetFree.of_bodySF (plainFor_of_name pn_rmEN) hisR ?_
  intro p e s m args below meth c s₁ Bd hml0 hP hK
  obtain ⟨rfl, hZ, hh⟩ := hP
  have hx := Bd.exec
  have hby := Bd.bytes
  have hml : c.maxLocals = 3 := hml0
  have hown : s.vm.findClass "com/example/keyturn/keyturn/signing/SdkRange" = some m.cls := findClass_of_methodNamed Bd.named
  have hnm := (name_of_methodNamed Bd.named Bd.method).1
  have X0 : Stand p l e ({ frames := 0, cells := 0, slots := 0, locals := 0 } : Room) s m #[(.ref a1), .null] below meth c s₁ [] 0 0 := Stand.of_body Bd
  have e0 : s₁.heap = h0 := by rw [← hh, Bd.state]; rfl
  have N0 := Fr.nil n0
  have pre0 : ∀ tt, Steps p.tables e below (s₁.setTop (mkF m 0 #[.val (.ref a1), .val .null, .unset] [])) tt → Steps p.tables e below (s₁.setTop (entryFrame m #[(.ref a1), .null] 3)) tt := fun tt kt => castTop (ef_rmEN m a1) kt
  have pre1 : ∀ tt, Steps p.tables e below (s₁.setTop (mkF m 16 #[.val (.ref a1), .val .null, .unset] [(.int (0 : Int32))])) tt → Steps p.tables e below (s₁.setTop (entryFrame m #[(.ref a1), .null] 3)) tt := by
    intro tt kt
    refine pre0 tt ?_
    show Steps p.tables e below (s₁.setTop (mkF m 0 #[.val (.ref a1), .val .null, .unset] [])) _
    refine XS.aloadN X0.here hx rfl (hb hby d3_0) rfl rfl ?_
    show Steps p.tables e below (s₁.setTop (mkF m 1 #[.val (.ref a1), .val .null, .unset] [.null])) _
    refine X0.instanceofNull hx (g := (mkF m 1 #[.val (.ref a1), .val .null, .unset] [.null])) rfl rfl (hb hby d3_1) _ ?_
    show Steps p.tables e below (s₁.setTop (mkF m 4 #[.val (.ref a1), .val .null, .unset] [(.int (0 : Int32))])) _
    refine XS.ifYes X0.here hx rfl (pc0 := 4) (pc' := 15) rfl (hb hby d3_4) rfl ((if0 _ _).trans (teq (rfl : (0 : Int32) = (0 : Int32))).1) (by decide) (by decide) ?_
    show Steps p.tables e below (s₁.setTop (mkF m 15 #[.val (.ref a1), .val .null, .unset] [])) _
    refine XS.iconst X0.here hx rfl (hb hby d3_15) ?_
    exact kt
  obtain ⟨fs, hr, hrun, hended, hW, hsame⟩ := X0.leave (v := some (.int (0 : Int32))) (fun h => by rw [Bd.returns] at h; cases h)
  refine ⟨_, _, pre1 _ ?_, hrun, hended, _, _, rfl, ?_, ⟨_, rfl⟩, hW, hsame.mono (by decide) (by decide)⟩
  · show Steps p.tables e below (s₁.setTop (mkF m 16 #[.val (.ref a1), .val .null, .unset] [(.int (0 : Int32))])) _
    exact retN X0 hx (t := .boolean) Bd.returns (by simp) (hb hby d3_16) hr
  · show QI Z (0 : Int32) h0 n0 _ s₁.heap _
    rw [e0]
    exact ⟨rfl, N0, rfl⟩
theorem pn_rmEX : plainName "com/example/keyturn/keyturn/signing/SdkRange" = true := by first | (simp [plainName, overriddenIn]; done) | decide +kernel
theorem ef_rmEX (m : MethodId) (a1 : Addr) (a2 : Addr) : entryFrame m #[(.ref a1), (.ref a2)] 3 = mkF m 0 #[.val (.ref a1), .val (.ref a2), .unset] [] := by first | (simp [entryFrame, mkF, argsToLocals, Value.category]; done) | rfl
set_option maxRecDepth 65536 in
set_option maxHeartbeats 40000000 in
theorem rmEX (l : Launch) (Z : State) (a0 : Array Value) (hw : ∀ d ∈ tables_1, d.before a0 Z = true) (ws : List Jvm.Cond) (a1 a2 : Addr) (C : String) (h0 : Heap) (n0 : Nat) (Z0 : n0 ≤ h0.size) (E_a2 : Exa Z h0 a2 C) (hno : ∃ c t, Z.vm.findClass C = some c ∧ Z.vm.findClass "com/example/keyturn/keyturn/signing/SdkRange" = some t ∧ Z.vm.assignable c t = false) :
    MetFree l (⟨"com/example/keyturn/keyturn/signing/SdkRange", "equals", "(Ljava/lang/Object;)Z"⟩ : MethodName) (head1 (Jvm.Cond.code (⟨"com/example/keyturn/keyturn/signing/SdkRange", "equals", "(Ljava/lang/Object;)Z"⟩ : MethodName) prog_47_method_7_code 3 (some .boolean) :: ws) ({ frames := 0, cells := 0, slots := 0, locals := 0 } : Room)) (fun a U => a = #[(.ref a1), (.ref a2)] ∧ Z.Warmed39 U.vm ∧ U.heap = h0) (fun _ _ _ _ _ => True) (fun _ U o U' => ∃ v L, o = .returned v ∧ QI Z (0 : Int32) h0 n0 v U'.heap L ∧ FrameEnd U o U' L ({ frames := 0, cells := 0, slots := 0, locals := 0 } : Room).cells ({ frames := 0, cells := 0, slots := 0, locals := 0 } : Room).slots) := by
  refine MetFree.of_bodySF (plainFor_of_name pn_rmEX) hisR ?_
  intro p e s m args below meth c s₁ Bd hml0 hP hK
  obtain ⟨rfl, hZ, hh⟩ := hP
  have hx := Bd.exec
  have hby := Bd.bytes
  have hml : c.maxLocals = 3 := hml0
  have hown : s.vm.findClass "com/example/keyturn/keyturn/signing/SdkRange" = some m.cls := findClass_of_methodNamed Bd.named
  have hnm := (name_of_methodNamed Bd.named Bd.method).1
  have X0 : Stand p l e ({ frames := 0, cells := 0, slots := 0, locals := 0 } : Room) s m #[(.ref a1), (.ref a2)] below meth c s₁ [] 0 0 := Stand.of_body Bd
  have e0 : s₁.heap = h0 := by rw [← hh, Bd.state]; rfl
  have N0 := Fr.nil n0
  have pre0 : ∀ tt, Steps p.tables e below (s₁.setTop (mkF m 0 #[.val (.ref a1), .val (.ref a2), .unset] [])) tt → Steps p.tables e below (s₁.setTop (entryFrame m #[(.ref a1), (.ref a2)] 3)) tt := fun tt kt => castTop (ef_rmEX m a1 a2) kt
  obtain ⟨T1, X1, e1, st1⟩ := instNo X0 hx hZ hown (hw _ (List.mem_of_getElem? (i := 18) rfl)) e0 E_a2 hno (g := (mkF m 1 #[.val (.ref a1), .val (.ref a2), .unset] [(.ref a2)])) rfl rfl (hb hby d3_1)
  have pre2 : ∀ tt, Steps p.tables e below (T1.setTop (mkF m 16 #[.val (.ref a1), .val (.ref a2), .unset] [(.int (0 : Int32))])) tt → Steps p.tables e below (s₁.setTop (entryFrame m #[(.ref a1), (.ref a2)] 3)) tt := by
    intro tt kt
    refine pre0 tt ?_
    show Steps p.tables e below (s₁.setTop (mkF m 0 #[.val (.ref a1), .val (.ref a2), .unset] [])) _
    refine XS.aloadN X0.here hx rfl (hb hby d3_0) rfl rfl ?_
    show Steps p.tables e below (s₁.setTop (mkF m 1 #[.val (.ref a1), .val (.ref a2), .unset] [(.ref a2)])) _
    refine st1 _ ?_
    show Steps p.tables e below (T1.setTop (mkF m 4 #[.val (.ref a1), .val (.ref a2), .unset] [(.int (0 : Int32))])) _
    refine XS.ifYes X1.here hx rfl (pc0 := 4) (pc' := 15) rfl (hb hby d3_4) rfl ((if0 _ _).trans (teq (rfl : (0 : Int32) = (0 : Int32))).1) (by decide) (by decide) ?_
    show Steps p.tables e below (T1.setTop (mkF m 15 #[.val (.ref a1), .val (.ref a2), .unset] [])) _
    refine XS.iconst X1.here hx rfl (hb hby d3_15) ?_
    exact kt
  obtain ⟨fs, hr, hrun, hended, hW, hsame⟩ := X1.leave (v := some (.int (0 : Int32))) (fun h => by rw [Bd.returns] at h; cases h)
  refine ⟨_, _, pre2 _ ?_, hrun, hended, _, _, rfl, ?_, ⟨_, rfl⟩, hW, hsame.mono (by decide) (by decide)⟩
  · show Steps p.tables e below (T1.setTop (mkF m 16 #[.val (.ref a1), .val (.ref a2), .unset] [(.int (0 : Int32))])) _
    exact retN X1 hx (t := .boolean) Bd.returns (by simp) (hb hby d3_16) hr
  · show QI Z (0 : Int32) h0 n0 _ T1.heap _
    rw [e1]
    exact ⟨rfl, N0, rfl⟩
theorem own_noI {Z : State} {a0 : Array Value} (hw : ∀ d ∈ tables_1, d.before a0 Z = true) : ∃ c t, Z.vm.findClass "java/lang/Integer" = some c ∧ Z.vm.findClass "com/example/keyturn/keyturn/signing/SdkRange" = some t ∧ Z.vm.assignable c t = false := by
  obtain ⟨t, ht⟩ := own_found (hw _ (List.mem_of_getElem? (i := 1) rfl))
  exact own_nsno (hw _ (List.mem_of_getElem? (i := 27) rfl)) (hw _ (List.mem_of_getElem? (i := 1) rfl)) (NS.step (hw _ (List.mem_of_getElem? (i := 27) rfl)) (NS.step (hw _ (List.mem_of_getElem? (i := 28) rfl)) (own_nsroot (hw _ (List.mem_of_getElem? (i := 29) rfl)) ht (by decide)) (by decide)) (by decide)) (by decide)
theorem own_noS {Z : State} {a0 : Array Value} (hw : ∀ d ∈ tables_1, d.before a0 Z = true) : ∃ c t, Z.vm.findClass "java/lang/String" = some c ∧ Z.vm.findClass "com/example/keyturn/keyturn/signing/SdkRange" = some t ∧ Z.vm.assignable c t = false := by
  obtain ⟨t, ht⟩ := own_found (hw _ (List.mem_of_getElem? (i := 1) rfl))
  exact own_nsno (hw _ (List.mem_of_getElem? (i := 69) rfl)) (hw _ (List.mem_of_getElem? (i := 1) rfl)) (NS.step (hw _ (List.mem_of_getElem? (i := 69) rfl)) (own_nsroot (hw _ (List.mem_of_getElem? (i := 29) rfl)) ht (by decide)) (by decide)) (by decide)
theorem own_c255 (p : Int32) : ¬ (255 : Int32) < ((p &&& (255 : Int32)).toUInt32.toUInt16.toUInt32.toInt32) := by
  have h1 := c_mask p (255 : Int32) 8 (by decide) (by decide)
  have h2 := c_i2c (p &&& (255 : Int32))
  rw [Int32.lt_iff_toInt_lt]
  have e : (255 : Int32).toInt = 255 := by decide
  omega
def Q0 (Z : State) (h0 : Heap) (n0 : Nat) (v : Option Value) (h : Heap) (L : List Loc) : Prop := v = some (.int (1 : Int32)) ∧ Fr n0 L
theorem own_wCne {Z : State} {h0 : Heap} {wC b : Addr} (I : own_IC Z h0 wC) (q : h0.size ≤ b) : wC ≠ b := by
  obtain ⟨cl, A, -⟩ := I
  exact Nat.ne_of_lt (Nat.lt_of_lt_of_le A.lt q)
theorem pn_rm0 : plainName "com/example/keyturn/keyturn/signing/SdkRangeEqualsPinLaw" = true := by first | (simp [plainName, overriddenIn]; done) | decide +kernel
theorem pd_rm0_0 : parseMethodDescriptor "(II)V" = some ⟨[.int, .int], none⟩ := by decide +kernel
theorem pd_rm0_1 : parseMethodDescriptor "(Ljava/lang/Object;)Z" = some ⟨[(.object "java/lang/Object")], some .boolean⟩ := by decide +kernel
theorem pd_rm0_2 : parseMethodDescriptor "(I)Ljava/lang/Integer;" = some ⟨[.int], some (.object "java/lang/Integer")⟩ := by decide +kernel
theorem pd_rm0_3 : parseMethodDescriptor "(C)Ljava/lang/String;" = some ⟨[.char], some (.object "java/lang/String")⟩ := by decide +kernel
theorem ef_rm0 (m : MethodId) (p1 : Int32) (p2 : Int32) (p3 : Int32) (p4 : Int32) (p5 : Int32) : entryFrame m #[(.int p1), (.int p2), (.int p3), (.int p4), (.int p5)] maxLocals = mkF m 0 #[.val (.int p1), .val (.int p2), .val (.int p3), .val (.int p4), .val (.int p5), .unset, .unset, .unset, .unset, .unset, .unset] [] := by first | (simp [entryFrame, mkF, argsToLocals, Value.category, maxLocals]; done) | rfl
set_option maxRecDepth 65536 in
set_option maxHeartbeats 40000000 in
theorem rm0 (l : Launch) (Z : State) (a0 : Array Value) (hw : ∀ d ∈ tables_1, d.before a0 Z = true) (ws : List Jvm.Cond) (p1 p2 p3 p4 p5 : Int32) (wC : Addr) (cs : Int32) (h0 : Heap) (n0 : Nat) (Z0 : n0 ≤ h0.size) (S_high : Sta Z h0 "java/lang/Integer$IntegerCache" "high" "I" (.int (127 : Int32))) (S_cache : Sta Z h0 "java/lang/Integer$IntegerCache" "cache" "[Ljava/lang/Integer;" (.ref wC)) (I_C : own_IC Z h0 wC) (S_cs : Sta Z h0 "java/lang/String" "COMPACT_STRINGS" "Z" (.int cs)) (hcs : ¬ (cs = (0 : Int32))) :
    MetFree l x (head1 (Jvm.Cond.code x code maxLocals ret :: ws) room_1) (fun a U => a = #[(.int p1), (.int p2), (.int p3), (.int p4), (.int p5)] ∧ Z.Warmed39 U.vm ∧ U.heap = h0) (fun _ _ _ _ _ => True) (fun _ U o U' => ∃ v L, o = .returned v ∧ Q0 Z h0 n0 v U'.heap L ∧ FrameEnd U o U' L room_1.cells room_1.slots) := by
  refine MetFree.of_bodySF (plainFor_of_name pn_rm0) hisR ?_
  intro p e s m args below meth c s₁ Bd hml0 hP hK
  obtain ⟨rfl, hZ, hh⟩ := hP
  have hx := Bd.exec
  have hby := Bd.bytes
  have hml : c.maxLocals = 11 := hml0
  have hown : s.vm.findClass "com/example/keyturn/keyturn/signing/SdkRangeEqualsPinLaw" = some m.cls := findClass_of_methodNamed Bd.named
  have hnm := (name_of_methodNamed Bd.named Bd.method).1
  have X0 : Stand p l e room_1 s m #[(.int p1), (.int p2), (.int p3), (.int p4), (.int p5)] below meth c s₁ [] 0 0 := Stand.of_body Bd
  have e0 : s₁.heap = h0 := by rw [← hh, Bd.state]; rfl
  have N0 := Fr.nil n0
  have pre0 : ∀ tt, Steps p.tables e below (s₁.setTop (mkF m 0 #[.val (.int p1), .val (.int p2), .val (.int p3), .val (.int p4), .val (.int p5), .unset, .unset, .unset, .unset, .unset, .unset] [])) tt → Steps p.tables e below (s₁.setTop (entryFrame m #[(.int p1), (.int p2), (.int p3), (.int p4), (.int p5)] maxLocals)) tt := fun tt kt => castTop (ef_rm0 m p1 p2 p3 p4 p5) kt
  have pre1 : ∀ tt, Steps p.tables e below (s₁.setTop (mkF m 6 #[.val (.int p1), .val (.int p2), .val (.int p3), .val (.int p4), .val (.int p5), .unset, .unset, .unset, .unset, .unset, .unset] [(.int ((p5 >>> ((2 : Int32) &&& 31)) &&& (1 : Int32)))])) tt → Steps p.tables e below (s₁.setTop (entryFrame m #[(.int p1), (.int p2), (.int p3), (.int p4), (.int p5)] maxLocals)) tt := by
    intro tt kt
    refine pre0 tt ?_
    show Steps p.tables e below (s₁.setTop (mkF m 0 #[.val (.int p1), .val (.int p2), .val (.int p3), .val (.int p4), .val (.int p5), .unset, .unset, .unset, .unset, .unset, .unset] [])) _
    refine XS.iload X0.here hx rfl (hb hby at_0) rfl ?_
    show Steps p.tables e below (s₁.setTop (mkF m 2 #[.val (.int p1), .val (.int p2), .val (.int p3), .val (.int p4), .val (.int p5), .unset, .unset, .unset, .unset, .unset, .unset] [(.int p5)])) _
    refine XS.iconst X0.here hx rfl (hb hby at_2) ?_
    show Steps p.tables e below (s₁.setTop (mkF m 3 #[.val (.int p1), .val (.int p2), .val (.int p3), .val (.int p4), .val (.int p5), .unset, .unset, .unset, .unset, .unset, .unset] [(.int (2 : Int32)), (.int p5)])) _
    refine XS.ishr X0.here hx rfl (hb hby at_3) rfl ?_
    show Steps p.tables e below (s₁.setTop (mkF m 4 #[.val (.int p1), .val (.int p2), .val (.int p3), .val (.int p4), .val (.int p5), .unset, .unset, .unset, .unset, .unset, .unset] [(.int (p5 >>> ((2 : Int32) &&& 31)))])) _
    refine XS.iconst X0.here hx rfl (hb hby at_4) ?_
    show Steps p.tables e below (s₁.setTop (mkF m 5 #[.val (.int p1), .val (.int p2), .val (.int p3), .val (.int p4), .val (.int p5), .unset, .unset, .unset, .unset, .unset, .unset] [(.int (1 : Int32)), (.int (p5 >>> ((2 : Int32) &&& 31)))])) _
    refine XS.iand X0.here hx rfl (hb hby at_5) rfl ?_
    exact kt
  by_cases c6_2 : ((p5 >>> ((2 : Int32) &&& 31)) &&& (1 : Int32)) = (0 : Int32)
  · have pre3 : ∀ tt, Steps p.tables e below (s₁.setTop (mkF m 22 #[.val (.int p1), .val (.int p2), .val (.int p3), .val (.int p4), .val (.int p5), .val (.int p3), .unset, .unset, .unset, .unset, .unset] [(.int ((p5 >>> ((3 : Int32) &&& 31)) &&& (1 : Int32)))])) tt → Steps p.tables e below (s₁.setTop (entryFrame m #[(.int p1), (.int p2), (.int p3), (.int p4), (.int p5)] maxLocals)) tt := by
      intro tt kt
      refine pre1 tt ?_
      show Steps p.tables e below (s₁.setTop (mkF m 6 #[.val (.int p1), .val (.int p2), .val (.int p3), .val (.int p4), .val (.int p5), .unset, .unset, .unset, .unset, .unset, .unset] [(.int ((p5 >>> ((2 : Int32) &&& 31)) &&& (1 : Int32)))])) _
      refine XS.ifYes X0.here hx rfl (pc0 := 6) (pc' := 13) rfl (hb hby at_6) rfl ((if0 _ _).trans (teq c6_2).1) (by decide) (by decide) ?_
      show Steps p.tables e below (s₁.setTop (mkF m 13 #[.val (.int p1), .val (.int p2), .val (.int p3), .val (.int p4), .val (.int p5), .unset, .unset, .unset, .unset, .unset, .unset] [])) _
      refine XS.iloadN X0.here hx rfl (hb hby at_13) rfl ?_
      show Steps p.tables e below (s₁.setTop (mkF m 14 #[.val (.int p1), .val (.int p2), .val (.int p3), .val (.int p4), .val (.int p5), .unset, .unset, .unset, .unset, .unset, .unset] [(.int p3)])) _
      refine XS.istore X0.here hx rfl (hb hby at_14) rfl (l' := #[.val (.int p1), .val (.int p2), .val (.int p3), .val (.int p4), .val (.int p5), .val (.int p3), .unset, .unset, .unset, .unset, .unset]) rfl ?_
      show Steps p.tables e below (s₁.setTop (mkF m 16 #[.val (.int p1), .val (.int p2), .val (.int p3), .val (.int p4), .val (.int p5), .val (.int p3), .unset, .unset, .unset, .unset, .unset] [])) _
      refine XS.iload X0.here hx rfl (hb hby at_16) rfl ?_
      show Steps p.tables e below (s₁.setTop (mkF m 18 #[.val (.int p1), .val (.int p2), .val (.int p3), .val (.int p4), .val (.int p5), .val (.int p3), .unset, .unset, .unset, .unset, .unset] [(.int p5)])) _
      refine XS.iconst X0.here hx rfl (hb hby at_18) ?_
      show Steps p.tables e below (s₁.setTop (mkF m 19 #[.val (.int p1), .val (.int p2), .val (.int p3), .val (.int p4), .val (.int p5), .val (.int p3), .unset, .unset, .unset, .unset, .unset] [(.int (3 : Int32)), (.int p5)])) _
      refine XS.ishr X0.here hx rfl (hb hby at_19) rfl ?_
      show Steps p.tables e below (s₁.setTop (mkF m 20 #[.val (.int p1), .val (.int p2), .val (.int p3), .val (.int p4), .val (.int p5), .val (.int p3), .unset, .unset, .unset, .unset, .unset] [(.int (p5 >>> ((3 : Int32) &&& 31)))])) _
      refine XS.iconst X0.here hx rfl (hb hby at_20) ?_
      show Steps p.tables e below (s₁.setTop (mkF m 21 #[.val (.int p1), .val (.int p2), .val (.int p3), .val (.int p4), .val (.int p5), .val (.int p3), .unset, .unset, .unset, .unset, .unset] [(.int (1 : Int32)), (.int (p5 >>> ((3 : Int32) &&& 31)))])) _
      refine XS.iand X0.here hx rfl (hb hby at_21) rfl ?_
      exact kt
    by_cases c22_4 : ((p5 >>> ((3 : Int32) &&& 31)) &&& (1 : Int32)) = (0 : Int32)
    · obtain ⟨T5, h5, X5, e5, E5, A5, D5, -, st5⟩ := newO X0 hx hZ hown (hw _ (List.mem_of_getElem? (i := 0) rfl)) (hw _ (List.mem_of_getElem? (i := 1) rfl)) (hw _ (List.mem_of_getElem? (i := 2) rfl)) e0 (g := (mkF m 32 #[.val (.int p1), .val (.int p2), .val (.int p3), .val (.int p4), .val (.int p5), .val (.int p3), .val (.int p4), .unset, .unset, .unset, .unset] [])) rfl (hb hby at_32) (by decide) (by decide)
      obtain ⟨b5, g5⟩ : ∃ z, z = h0.size := ⟨_, rfl⟩
      rw [← g5] at A5 D5 st5
      have g_b5 : n0 ≤ b5 := Nat.le_trans Z0 (Nat.le_of_eq g5.symm)
      have sz_b5 : h0.size ≤ b5 := Nat.le_trans ((Keep.refl h0 [])).1 (Nat.le_of_eq g5.symm)
      have K5 : Keep h0 h5 [] := ((Keep.refl h0 [])).ext E5
      have F_min_b5 : Fld Z h5 b5 "com/example/keyturn/keyturn/signing/SdkRange" "min" "I" (.int (0 : Int32)) := D5 (Or.inr (hw _ (List.mem_of_getElem? (i := 10) rfl))) (ty := .int) (by decide)
      have F_max_b5 : Fld Z h5 b5 "com/example/keyturn/keyturn/signing/SdkRange" "max" "I" (.int (0 : Int32)) := D5 (Or.inr (hw _ (List.mem_of_getElem? (i := 12) rfl))) (ty := .int) (by decide)
      obtain ⟨_, _, ⟨T6, L6, k6, n6⟩, -, X6, ⟨Lc6, hQ6, l6, y6, z6⟩, st6⟩ := X5.specialBack hx (y := (⟨"com/example/keyturn/keyturn/signing/SdkRange", "<init>", "(II)V"⟩ : MethodName)) rfl hown (mvT hZ (hw _ (List.mem_of_getElem? (i := 3) rfl))) (mvT hZ (hw _ (List.mem_of_getElem? (i := 4) rfl))) (mvT hZ (hw _ (List.mem_of_getElem? (i := 5) rfl))) (by decide) (backOf (W := 1) (rmC l Z a0 hw [] b5 p1 p2 h5 n0 (Nat.le_trans Z0 E5.1) A5 F_min_b5 F_max_b5 g_b5) hZ (hw _ (List.mem_of_getElem? (i := 5) rfl)) (hw _ (List.mem_of_getElem? (i := 2) rfl)) (by decide) (by decide)) (g := (mkF m 38 #[.val (.int p1), .val (.int p2), .val (.int p3), .val (.int p4), .val (.int p5), .val (.int p3), .val (.int p4), .unset, .unset, .unset, .unset] [(.int p2), (.int p1), (.ref b5), (.ref b5)])) rfl (by rw [hml]; rfl) (Steps.refl _) (a := b5) (argsL := [(.int p1), (.int p2)]) (rest := [(.ref b5)]) (lenOf pd_rm0_0 rfl) rfl (by show 2 * 0 + _ ≤ _; exact Nat.le_of_eq rfl) (hb hby at_38) (fun _ _ => ⟨rfl, e5, (by decide : 1 + 0 ≤ _), (by decide : 2 + 0 ≤ _)⟩)
      dsimp only [Pt.U, Pt.locs, Pt.cells, Pt.slots] at X6 l6 y6 z6 st6 hQ6
      subst l6 y6 z6
      obtain ⟨rfl, N6q, K6, Ei6, Fm6, Fx6⟩ := hQ6
      have N6 := Fr.app N0 N6q
      have KK6 : Keep h0 T6.heap [] := (K5).trans K6 (allS (Or.inr sz_b5) all0)
      have pre7 : ∀ tt, Steps p.tables e below (T6.setTop (mkF m 52 #[.val (.int p1), .val (.int p2), .val (.int p3), .val (.int p4), .val (.int p5), .val (.int p3), .val (.int p4), .val (.ref b5), .val (.int (p5 &&& (3 : Int32))), .unset, .unset] [(.int (1 : Int32)), (.int (p5 &&& (3 : Int32)))])) tt → Steps p.tables e below (s₁.setTop (entryFrame m #[(.int p1), (.int p2), (.int p3), (.int p4), (.int p5)] maxLocals)) tt := by
        intro tt kt
        refine pre3 tt ?_
        show Steps p.tables e below (s₁.setTop (mkF m 22 #[.val (.int p1), .val (.int p2), .val (.int p3), .val (.int p4), .val (.int p5), .val (.int p3), .unset, .unset, .unset, .unset, .unset] [(.int ((p5 >>> ((3 : Int32) &&& 31)) &&& (1 : Int32)))])) _
        refine XS.ifYes X0.here hx rfl (pc0 := 22) (pc' := 29) rfl (hb hby at_22) rfl ((if0 _ _).trans (teq c22_4).1) (by decide) (by decide) ?_
        show Steps p.tables e below (s₁.setTop (mkF m 29 #[.val (.int p1), .val (.int p2), .val (.int p3), .val (.int p4), .val (.int p5), .val (.int p3), .unset, .unset, .unset, .unset, .unset] [])) _
        refine XS.iloadN X0.here hx rfl (hb hby at_29) rfl ?_
        show Steps p.tables e below (s₁.setTop (mkF m 30 #[.val (.int p1), .val (.int p2), .val (.int p3), .val (.int p4), .val (.int p5), .val (.int p3), .unset, .unset, .unset, .unset, .unset] [(.int p4)])) _
        refine XS.istore X0.here hx rfl (hb hby at_30) rfl (l' := #[.val (.int p1), .val (.int p2), .val (.int p3), .val (.int p4), .val (.int p5), .val (.int p3), .val (.int p4), .unset, .unset, .unset, .unset]) rfl ?_
        show Steps p.tables e below (s₁.setTop (mkF m 32 #[.val (.int p1), .val (.int p2), .val (.int p3), .val (.int p4), .val (.int p5), .val (.int p3), .val (.int p4), .unset, .unset, .unset, .unset] [])) _
        refine st5 _ ?_
        show Steps p.tables e below (T5.setTop (mkF m 35 #[.val (.int p1), .val (.int p2), .val (.int p3), .val (.int p4), .val (.int p5), .val (.int p3), .val (.int p4), .unset, .unset, .unset, .unset] [(.ref b5)])) _
        refine XS.dup X5.here hx rfl (hb hby at_35) rfl rfl ?_
        show Steps p.tables e below (T5.setTop (mkF m 36 #[.val (.int p1), .val (.int p2), .val (.int p3), .val (.int p4), .val (.int p5), .val (.int p3), .val (.int p4), .unset, .unset, .unset, .unset] [(.ref b5), (.ref b5)])) _
        refine XS.iloadN X5.here hx rfl (hb hby at_36) rfl ?_
        show Steps p.tables e below (T5.setTop (mkF m 37 #[.val (.int p1), .val (.int p2), .val (.int p3), .val (.int p4), .val (.int p5), .val (.int p3), .val (.int p4), .unset, .unset, .unset, .unset] [(.int p1), (.ref b5), (.ref b5)])) _
        refine XS.iloadN X5.here hx rfl (hb hby at_37) rfl ?_
        show Steps p.tables e below (T5.setTop (mkF m 38 #[.val (.int p1), .val (.int p2), .val (.int p3), .val (.int p4), .val (.int p5), .val (.int p3), .val (.int p4), .unset, .unset, .unset, .unset] [(.int p2), (.int p1), (.ref b5), (.ref b5)])) _
        refine st6.trans ?_
        show Steps p.tables e below (T6.setTop (mkF m 41 #[.val (.int p1), .val (.int p2), .val (.int p3), .val (.int p4), .val (.int p5), .val (.int p3), .val (.int p4), .unset, .unset, .unset, .unset] [(.ref b5)])) _
        refine XS.astore X6.here hx rfl (hb hby at_41) rfl rfl (l' := #[.val (.int p1), .val (.int p2), .val (.int p3), .val (.int p4), .val (.int p5), .val (.int p3), .val (.int p4), .val (.ref b5), .unset, .unset, .unset]) rfl ?_
        show Steps p.tables e below (T6.setTop (mkF m 43 #[.val (.int p1), .val (.int p2), .val (.int p3), .val (.int p4), .val (.int p5), .val (.int p3), .val (.int p4), .val (.ref b5), .unset, .unset, .unset] [])) _
        refine XS.iload X6.here hx rfl (hb hby at_43) rfl ?_
        show Steps p.tables e below (T6.setTop (mkF m 45 #[.val (.int p1), .val (.int p2), .val (.int p3), .val (.int p4), .val (.int p5), .val (.int p3), .val (.int p4), .val (.ref b5), .unset, .unset, .unset] [(.int p5)])) _
        refine XS.iconst X6.here hx rfl (hb hby at_45) ?_
        show Steps p.tables e below (T6.setTop (mkF m 46 #[.val (.int p1), .val (.int p2), .val (.int p3), .val (.int p4), .val (.int p5), .val (.int p3), .val (.int p4), .val (.ref b5), .unset, .unset, .unset] [(.int (3 : Int32)), (.int p5)])) _
        refine XS.iand X6.here hx rfl (hb hby at_46) rfl ?_
        show Steps p.tables e below (T6.setTop (mkF m 47 #[.val (.int p1), .val (.int p2), .val (.int p3), .val (.int p4), .val (.int p5), .val (.int p3), .val (.int p4), .val (.ref b5), .unset, .unset, .unset] [(.int (p5 &&& (3 : Int32)))])) _
        refine XS.istore X6.here hx rfl (hb hby at_47) rfl (l' := #[.val (.int p1), .val (.int p2), .val (.int p3), .val (.int p4), .val (.int p5), .val (.int p3), .val (.int p4), .val (.ref b5), .val (.int (p5 &&& (3 : Int32))), .unset, .unset]) rfl ?_
        show Steps p.tables e below (T6.setTop (mkF m 49 #[.val (.int p1), .val (.int p2), .val (.int p3), .val (.int p4), .val (.int p5), .val (.int p3), .val (.int p4), .val (.ref b5), .val (.int (p5 &&& (3 : Int32))), .unset, .unset] [])) _
        refine XS.iload X6.here hx rfl (hb hby at_49) rfl ?_
        show Steps p.tables e below (T6.setTop (mkF m 51 #[.val (.int p1), .val (.int p2), .val (.int p3), .val (.int p4), .val (.int p5), .val (.int p3), .val (.int p4), .val (.ref b5), .val (.int (p5 &&& (3 : Int32))), .unset, .unset] [(.int (p5 &&& (3 : Int32)))])) _
        refine XS.iconst X6.here hx rfl (hb hby at_51) ?_
        exact kt
      by_cases c52_8 : (p5 &&& (3 : Int32)) = (1 : Int32)
      · obtain ⟨cq9, kq9, q9a, q9b, q9c⟩ := isOf hZ rfl Ei6
        obtain ⟨_, _, ⟨T9, L9, k9, n9⟩, -, X9, ⟨Lc9, hQ9, l9, y9, z9⟩, st9⟩ := X6.virtualBack hx (y := (⟨"com/example/keyturn/keyturn/signing/SdkRange", "equals", "(Ljava/lang/Object;)Z"⟩ : MethodName)) (z := (⟨"com/example/keyturn/keyturn/signing/SdkRange", "equals", "(Ljava/lang/Object;)Z"⟩ : MethodName)) hown (mvT hZ (hw _ (List.mem_of_getElem? (i := 13) rfl))) (mvT hZ (hw _ (List.mem_of_getElem? (i := 14) rfl))) (notFace_of_selects (args := #[]) (mvT hZ (hw _ (List.mem_of_getElem? (i := 16) rfl)))) (mvT hZ (hw _ (List.mem_of_getElem? (i := 16) rfl))) (mvT hZ (hw _ (List.mem_of_getElem? (i := 15) rfl))) (by decide) (backOf (W := 0) (rmEN l Z a0 hw [] b5 T6.heap n0 (Nat.le_trans (Nat.le_trans Z0 E5.1) K6.1)) hZ (hw _ (List.mem_of_getElem? (i := 17) rfl)) (hw _ (List.mem_of_getElem? (i := 2) rfl)) (by decide) (by decide)) q9a q9c (g := (mkF m 58 #[.val (.int p1), .val (.int p2), .val (.int p3), .val (.int p4), .val (.int p5), .val (.int p3), .val (.int p4), .val (.ref b5), .val (.int (p5 &&& (3 : Int32))), .unset, .unset] [.null, (.ref b5)])) rfl (by rw [hml]; rfl) (Steps.refl _) (argsL := [.null]) (rest := []) (lenOf pd_rm0_1 rfl) rfl (by show 2 * 0 + _ ≤ _; exact Nat.le_of_eq rfl) (hb hby at_58) (fun _ _ => ⟨rfl, rfl, (by decide : 1 + 0 ≤ _), (by decide : 2 + 0 ≤ _)⟩)
        dsimp only [Pt.U, Pt.locs, Pt.cells, Pt.slots] at X9 l9 y9 z9 st9 hQ9
        subst l9 y9 z9
        obtain ⟨rfl, N9q, hE9⟩ := hQ9
        have N9 := Fr.app N6 N9q
        obtain ⟨cq10, kq10, q10a, q10b, q10c⟩ := isOf hZ hE9 Ei6
        obtain ⟨_, _, ⟨T10, L10, k10, n10⟩, -, X10, ⟨Lc10, hQ10, l10, y10, z10⟩, st10⟩ := X9.virtualBack hx (y := (⟨"com/example/keyturn/keyturn/signing/SdkRange", "equals", "(Ljava/lang/Object;)Z"⟩ : MethodName)) (z := (⟨"com/example/keyturn/keyturn/signing/SdkRange", "equals", "(Ljava/lang/Object;)Z"⟩ : MethodName)) hown (mvT hZ (hw _ (List.mem_of_getElem? (i := 13) rfl))) (mvT hZ (hw _ (List.mem_of_getElem? (i := 14) rfl))) (notFace_of_selects (args := #[]) (mvT hZ (hw _ (List.mem_of_getElem? (i := 16) rfl)))) (mvT hZ (hw _ (List.mem_of_getElem? (i := 16) rfl))) (mvT hZ (hw _ (List.mem_of_getElem? (i := 15) rfl))) (by decide) (backOf (W := 0) (rmE l Z a0 hw [] b5 b5 p1 p2 p1 p2 (1 : Int32) T6.heap n0 (Nat.le_trans (Nat.le_trans Z0 E5.1) K6.1) Ei6 Fm6 Fx6 Fm6 Fx6 (by rw [if_pos (rfl : p1 = p1), if_pos (rfl : p2 = p2)])) hZ (hw _ (List.mem_of_getElem? (i := 17) rfl)) (hw _ (List.mem_of_getElem? (i := 2) rfl)) (by decide) (by decide)) q10a q10c (g := (mkF m 68 #[.val (.int p1), .val (.int p2), .val (.int p3), .val (.int p4), .val (.int p5), .val (.int p3), .val (.int p4), .val (.ref b5), .val (.int (p5 &&& (3 : Int32))), .unset, .unset] [(.ref b5), (.ref b5)])) rfl (by rw [hml]; rfl) (Steps.refl _) (argsL := [(.ref b5)]) (rest := []) (lenOf pd_rm0_1 rfl) rfl (by show 2 * 0 + _ ≤ _; exact Nat.le_of_eq rfl) (hb hby at_68) (fun _ _ => ⟨rfl, hE9, (by decide : 1 + 0 ≤ _), (by decide : 2 + 0 ≤ _)⟩)
        dsimp only [Pt.U, Pt.locs, Pt.cells, Pt.slots] at X10 l10 y10 z10 st10 hQ10
        subst l10 y10 z10
        obtain ⟨rfl, N10q, hE10⟩ := hQ10
        have N10 := Fr.app N9 N10q
        have pre11 : ∀ tt, Steps p.tables e below (T10.setTop (mkF m 79 #[.val (.int p1), .val (.int p2), .val (.int p3), .val (.int p4), .val (.int p5), .val (.int p3), .val (.int p4), .val (.ref b5), .val (.int (p5 &&& (3 : Int32))), .unset, .unset] [(.int (1 : Int32))])) tt → Steps p.tables e below (s₁.setTop (entryFrame m #[(.int p1), (.int p2), (.int p3), (.int p4), (.int p5)] maxLocals)) tt := by
          intro tt kt
          refine pre7 tt ?_
          show Steps p.tables e below (T6.setTop (mkF m 52 #[.val (.int p1), .val (.int p2), .val (.int p3), .val (.int p4), .val (.int p5), .val (.int p3), .val (.int p4), .val (.ref b5), .val (.int (p5 &&& (3 : Int32))), .unset, .unset] [(.int (1 : Int32)), (.int (p5 &&& (3 : Int32)))])) _
          refine XS.icmpNo X6.here hx rfl (hb hby at_52) rfl (teq c52_8).2 ?_
          show Steps p.tables e below (T6.setTop (mkF m 55 #[.val (.int p1), .val (.int p2), .val (.int p3), .val (.int p4), .val (.int p5), .val (.int p3), .val (.int p4), .val (.ref b5), .val (.int (p5 &&& (3 : Int32))), .unset, .unset] [])) _
          refine XS.aload X6.here hx rfl (hb hby at_55) rfl rfl ?_
          show Steps p.tables e below (T6.setTop (mkF m 57 #[.val (.int p1), .val (.int p2), .val (.int p3), .val (.int p4), .val (.int p5), .val (.int p3), .val (.int p4), .val (.ref b5), .val (.int (p5 &&& (3 : Int32))), .unset, .unset] [(.ref b5)])) _
          refine XS.aconstNull X6.here hx rfl (hb hby at_57) ?_
          show Steps p.tables e below (T6.setTop (mkF m 58 #[.val (.int p1), .val (.int p2), .val (.int p3), .val (.int p4), .val (.int p5), .val (.int p3), .val (.int p4), .val (.ref b5), .val (.int (p5 &&& (3 : Int32))), .unset, .unset] [.null, (.ref b5)])) _
          refine st9.trans ?_
          show Steps p.tables e below (T9.setTop (mkF m 61 #[.val (.int p1), .val (.int p2), .val (.int p3), .val (.int p4), .val (.int p5), .val (.int p3), .val (.int p4), .val (.ref b5), .val (.int (p5 &&& (3 : Int32))), .unset, .unset] [(.int (0 : Int32))])) _
          refine XS.ifNo X9.here hx rfl (hb hby at_61) rfl ((if0 _ _).trans (teq (rfl : (0 : Int32) = (0 : Int32))).2) ?_
          show Steps p.tables e below (T9.setTop (mkF m 64 #[.val (.int p1), .val (.int p2), .val (.int p3), .val (.int p4), .val (.int p5), .val (.int p3), .val (.int p4), .val (.ref b5), .val (.int (p5 &&& (3 : Int32))), .unset, .unset] [])) _
          refine XS.aload X9.here hx rfl (hb hby at_64) rfl rfl ?_
          show Steps p.tables e below (T9.setTop (mkF m 66 #[.val (.int p1), .val (.int p2), .val (.int p3), .val (.int p4), .val (.int p5), .val (.int p3), .val (.int p4), .val (.ref b5), .val (.int (p5 &&& (3 : Int32))), .unset, .unset] [(.ref b5)])) _
          refine XS.aload X9.here hx rfl (hb hby at_66) rfl rfl ?_
          show Steps p.tables e below (T9.setTop (mkF m 68 #[.val (.int p1), .val (.int p2), .val (.int p3), .val (.int p4), .val (.int p5), .val (.int p3), .val (.int p4), .val (.ref b5), .val (.int (p5 &&& (3 : Int32))), .unset, .unset] [(.ref b5), (.ref b5)])) _
          refine st10.trans ?_
          show Steps p.tables e below (T10.setTop (mkF m 71 #[.val (.int p1), .val (.int p2), .val (.int p3), .val (.int p4), .val (.int p5), .val (.int p3), .val (.int p4), .val (.ref b5), .val (.int (p5 &&& (3 : Int32))), .unset, .unset] [(.int (1 : Int32))])) _
          refine XS.ifNo X10.here hx rfl (hb hby at_71) rfl ((if0 _ _).trans (feq (by decide : ¬ ((1 : Int32) = (0 : Int32)))).1) ?_
          show Steps p.tables e below (T10.setTop (mkF m 74 #[.val (.int p1), .val (.int p2), .val (.int p3), .val (.int p4), .val (.int p5), .val (.int p3), .val (.int p4), .val (.ref b5), .val (.int (p5 &&& (3 : Int32))), .unset, .unset] [])) _
          refine XS.iconst X10.here hx rfl (hb hby at_74) ?_
          show Steps p.tables e below (T10.setTop (mkF m 75 #[.val (.int p1), .val (.int p2), .val (.int p3), .val (.int p4), .val (.int p5), .val (.int p3), .val (.int p4), .val (.ref b5), .val (.int (p5 &&& (3 : Int32))), .unset, .unset] [(.int (1 : Int32))])) _
          refine XS.goto X10.here hx rfl (pc0 := 75) (pc' := 79) rfl (hb hby at_75) (by decide) (by decide) ?_
          exact kt
        obtain ⟨fs, hr, hrun, hended, hW, hsame⟩ := X10.leave (v := some (.int (1 : Int32))) (fun h => by rw [Bd.returns] at h; cases h)
        refine ⟨_, _, pre11 _ ?_, hrun, hended, _, _, rfl, ?_, ⟨_, rfl⟩, hW, hsame.mono (by decide) (by decide)⟩
        · show Steps p.tables e below (T10.setTop (mkF m 79 #[.val (.int p1), .val (.int p2), .val (.int p3), .val (.int p4), .val (.int p5), .val (.int p3), .val (.int p4), .val (.ref b5), .val (.int (p5 &&& (3 : Int32))), .unset, .unset] [(.int (1 : Int32))])) _
          exact retN X10 hx (t := .boolean) Bd.returns (by simp) (hb hby at_79) hr
        · show Q0 Z h0 n0 _ T10.heap _
          rw [hE10]
          exact ⟨rfl, N10⟩
      · have pre12 : ∀ tt, Steps p.tables e below (T6.setTop (mkF m 83 #[.val (.int p1), .val (.int p2), .val (.int p3), .val (.int p4), .val (.int p5), .val (.int p3), .val (.int p4), .val (.ref b5), .val (.int (p5 &&& (3 : Int32))), .unset, .unset] [(.int (2 : Int32)), (.int (p5 &&& (3 : Int32)))])) tt → Steps p.tables e below (s₁.setTop (entryFrame m #[(.int p1), (.int p2), (.int p3), (.int p4), (.int p5)] maxLocals)) tt := by
          intro tt kt
          refine pre7 tt ?_
          show Steps p.tables e below (T6.setTop (mkF m 52 #[.val (.int p1), .val (.int p2), .val (.int p3), .val (.int p4), .val (.int p5), .val (.int p3), .val (.int p4), .val (.ref b5), .val (.int (p5 &&& (3 : Int32))), .unset, .unset] [(.int (1 : Int32)), (.int (p5 &&& (3 : Int32)))])) _
          refine XS.icmpYes X6.here hx rfl (pc0 := 52) (pc' := 80) rfl (hb hby at_52) rfl (feq c52_8).2 (by decide) (by decide) ?_
          show Steps p.tables e below (T6.setTop (mkF m 80 #[.val (.int p1), .val (.int p2), .val (.int p3), .val (.int p4), .val (.int p5), .val (.int p3), .val (.int p4), .val (.ref b5), .val (.int (p5 &&& (3 : Int32))), .unset, .unset] [])) _
          refine XS.iload X6.here hx rfl (hb hby at_80) rfl ?_
          show Steps p.tables e below (T6.setTop (mkF m 82 #[.val (.int p1), .val (.int p2), .val (.int p3), .val (.int p4), .val (.int p5), .val (.int p3), .val (.int p4), .val (.ref b5), .val (.int (p5 &&& (3 : Int32))), .unset, .unset] [(.int (p5 &&& (3 : Int32)))])) _
          refine XS.iconst X6.here hx rfl (hb hby at_82) ?_
          exact kt
        by_cases c83_13 : (p5 &&& (3 : Int32)) = (2 : Int32)
        · have pre14 : ∀ tt, Steps p.tables e below (T6.setTop (mkF m 92 #[.val (.int p1), .val (.int p2), .val (.int p3), .val (.int p4), .val (.int p5), .val (.int p3), .val (.int p4), .val (.ref b5), .val (.int (p5 &&& (3 : Int32))), .unset, .unset] [(.int ((p5 >>> ((4 : Int32) &&& 31)) &&& (1 : Int32)))])) tt → Steps p.tables e below (s₁.setTop (entryFrame m #[(.int p1), (.int p2), (.int p3), (.int p4), (.int p5)] maxLocals)) tt := by
            intro tt kt
            refine pre12 tt ?_
            show Steps p.tables e below (T6.setTop (mkF m 83 #[.val (.int p1), .val (.int p2), .val (.int p3), .val (.int p4), .val (.int p5), .val (.int p3), .val (.int p4), .val (.ref b5), .val (.int (p5 &&& (3 : Int32))), .unset, .unset] [(.int (2 : Int32)), (.int (p5 &&& (3 : Int32)))])) _
            refine XS.icmpNo X6.here hx rfl (hb hby at_83) rfl (teq c83_13).2 ?_
            show Steps p.tables e below (T6.setTop (mkF m 86 #[.val (.int p1), .val (.int p2), .val (.int p3), .val (.int p4), .val (.int p5), .val (.int p3), .val (.int p4), .val (.ref b5), .val (.int (p5 &&& (3 : Int32))), .unset, .unset] [])) _
            refine XS.iload X6.here hx rfl (hb hby at_86) rfl ?_
            show Steps p.tables e below (T6.setTop (mkF m 88 #[.val (.int p1), .val (.int p2), .val (.int p3), .val (.int p4), .val (.int p5), .val (.int p3), .val (.int p4), .val (.ref b5), .val (.int (p5 &&& (3 : Int32))), .unset, .unset] [(.int p5)])) _
            refine XS.iconst X6.here hx rfl (hb hby at_88) ?_
            show Steps p.tables e below (T6.setTop (mkF m 89 #[.val (.int p1), .val (.int p2), .val (.int p3), .val (.int p4), .val (.int p5), .val (.int p3), .val (.int p4), .val (.ref b5), .val (.int (p5 &&& (3 : Int32))), .unset, .unset] [(.int (4 : Int32)), (.int p5)])) _
            refine XS.ishr X6.here hx rfl (hb hby at_89) rfl ?_
            show Steps p.tables e below (T6.setTop (mkF m 90 #[.val (.int p1), .val (.int p2), .val (.int p3), .val (.int p4), .val (.int p5), .val (.int p3), .val (.int p4), .val (.ref b5), .val (.int (p5 &&& (3 : Int32))), .unset, .unset] [(.int (p5 >>> ((4 : Int32) &&& 31)))])) _
            refine XS.iconst X6.here hx rfl (hb hby at_90) ?_
            show Steps p.tables e below (T6.setTop (mkF m 91 #[.val (.int p1), .val (.int p2), .val (.int p3), .val (.int p4), .val (.int p5), .val (.int p3), .val (.int p4), .val (.ref b5), .val (.int (p5 &&& (3 : Int32))), .unset, .unset] [(.int (1 : Int32)), (.int (p5 >>> ((4 : Int32) &&& 31)))])) _
            refine XS.iand X6.here hx rfl (hb hby at_91) rfl ?_
            exact kt
          by_cases c92_15 : ((p5 >>> ((4 : Int32) &&& 31)) &&& (1 : Int32)) = (0 : Int32)
          · obtain ⟨_, _, ⟨T16, L16, k16, n16⟩, -, X16, ⟨Lc16, hQ16, l16, y16, z16⟩, st16⟩ := Jvm.LawKit.callS X6 hx (y := (⟨"java/lang/Integer", "valueOf", "(I)Ljava/lang/Integer;"⟩ : MethodName)) hown (mvT hZ (hw _ (List.mem_of_getElem? (i := 20) rfl))) (mvT hZ (hw _ (List.mem_of_getElem? (i := 21) rfl))) (mvT hZ (hw _ (List.mem_of_getElem? (i := 22) rfl))) (mvT hZ (hw _ (List.mem_of_getElem? (i := 23) rfl))) (by decide) (backOf (W := 0) (rmVO l Z a0 hw [] p1 wC T6.heap n0 (Nat.le_trans (Nat.le_trans Z0 E5.1) K6.1) (own_staK (Sta.ext E5 S_high) K6 (allS ⟨_, A5⟩ all0)) (own_staK (Sta.ext E5 S_cache) K6 (allS ⟨_, A5⟩ all0)) (own_ICkeep (own_ICkeep I_C ((Keep.refl _ []).ext E5) nin0) K6 (ninS (own_wCne I_C sz_b5) nin0))) hZ (hw _ (List.mem_of_getElem? (i := 23) rfl)) (hw _ (List.mem_of_getElem? (i := 22) rfl)) (by decide) (by decide)) (g := (mkF m 110 #[.val (.int p1), .val (.int p2), .val (.int p3), .val (.int p4), .val (.int p5), .val (.int p3), .val (.int p4), .val (.ref b5), .val (.int (p5 &&& (3 : Int32))), .unset, .unset] [(.int p1)])) rfl (by rw [hml]; rfl) (argsL := [(.int p1)]) (rest := []) (lenOf pd_rm0_2 rfl) rfl (by show 2 * 0 + _ ≤ _; exact Nat.le_of_eq rfl) (hb hby at_110) (fun _ _ => ⟨rfl, rfl, (by decide : 1 + 1 ≤ _), (by decide : 2 + 1 ≤ _)⟩)
            dsimp only [Pt.U, Pt.locs, Pt.cells, Pt.slots] at X16 l16 y16 z16 st16 hQ16
            subst l16 y16 z16
            obtain ⟨bo16, rfl, N16q, K16, Eo16⟩ := hQ16
            have N16 := Fr.app N6 N16q
            obtain ⟨cq17, kq17, q17a, q17b, q17c⟩ := isOf hZ rfl (Ei6.keep K16)
            obtain ⟨_, _, ⟨T17, L17, k17, n17⟩, -, X17, ⟨Lc17, hQ17, l17, y17, z17⟩, st17⟩ := X16.virtualBack hx (y := (⟨"com/example/keyturn/keyturn/signing/SdkRange", "equals", "(Ljava/lang/Object;)Z"⟩ : MethodName)) (z := (⟨"com/example/keyturn/keyturn/signing/SdkRange", "equals", "(Ljava/lang/Object;)Z"⟩ : MethodName)) hown (mvT hZ (hw _ (List.mem_of_getElem? (i := 13) rfl))) (mvT hZ (hw _ (List.mem_of_getElem? (i := 14) rfl))) (notFace_of_selects (args := #[]) (mvT hZ (hw _ (List.mem_of_getElem? (i := 16) rfl)))) (mvT hZ (hw _ (List.mem_of_getElem? (i := 16) rfl))) (mvT hZ (hw _ (List.mem_of_getElem? (i := 15) rfl))) (by decide) (backOf (W := 0) (rmEX l Z a0 hw [] b5 bo16 "java/lang/Integer" T16.heap n0 (Nat.le_trans (Nat.le_trans (Nat.le_trans Z0 E5.1) K6.1) K16.1) Eo16 (own_noI hw)) hZ (hw _ (List.mem_of_getElem? (i := 17) rfl)) (hw _ (List.mem_of_getElem? (i := 2) rfl)) (by decide) (by decide)) q17a q17c (g := (mkF m 119 #[.val (.int p1), .val (.int p2), .val (.int p3), .val (.int p4), .val (.int p5), .val (.int p3), .val (.int p4), .val (.ref b5), .val (.int (p5 &&& (3 : Int32))), .val (.ref bo16), .unset] [(.ref bo16), (.ref b5)])) rfl (by rw [hml]; rfl) (Steps.refl _) (argsL := [(.ref bo16)]) (rest := []) (lenOf pd_rm0_1 rfl) rfl (by show 2 * 0 + _ ≤ _; exact Nat.le_of_eq rfl) (hb hby at_119) (fun _ _ => ⟨rfl, rfl, (by decide : 2 + 0 ≤ _), (by decide : 3 + 0 ≤ _)⟩)
            dsimp only [Pt.U, Pt.locs, Pt.cells, Pt.slots] at X17 l17 y17 z17 st17 hQ17
            subst l17 y17 z17
            obtain ⟨rfl, N17q, hE17⟩ := hQ17
            have N17 := Fr.app N16 N17q
            have pre18 : ∀ tt, Steps p.tables e below (T17.setTop (mkF m 130 #[.val (.int p1), .val (.int p2), .val (.int p3), .val (.int p4), .val (.int p5), .val (.int p3), .val (.int p4), .val (.ref b5), .val (.int (p5 &&& (3 : Int32))), .val (.ref bo16), .unset] [(.int (1 : Int32))])) tt → Steps p.tables e below (s₁.setTop (entryFrame m #[(.int p1), (.int p2), (.int p3), (.int p4), (.int p5)] maxLocals)) tt := by
              intro tt kt
              refine pre14 tt ?_
              show Steps p.tables e below (T6.setTop (mkF m 92 #[.val (.int p1), .val (.int p2), .val (.int p3), .val (.int p4), .val (.int p5), .val (.int p3), .val (.int p4), .val (.ref b5), .val (.int (p5 &&& (3 : Int32))), .unset, .unset] [(.int ((p5 >>> ((4 : Int32) &&& 31)) &&& (1 : Int32)))])) _
              refine XS.ifYes X6.here hx rfl (pc0 := 92) (pc' := 109) rfl (hb hby at_92) rfl ((if0 _ _).trans (teq c92_15).1) (by decide) (by decide) ?_
              show Steps p.tables e below (T6.setTop (mkF m 109 #[.val (.int p1), .val (.int p2), .val (.int p3), .val (.int p4), .val (.int p5), .val (.int p3), .val (.int p4), .val (.ref b5), .val (.int (p5 &&& (3 : Int32))), .unset, .unset] [])) _
              refine XS.iloadN X6.here hx rfl (hb hby at_109) rfl ?_
              show Steps p.tables e below (T6.setTop (mkF m 110 #[.val (.int p1), .val (.int p2), .val (.int p3), .val (.int p4), .val (.int p5), .val (.int p3), .val (.int p4), .val (.ref b5), .val (.int (p5 &&& (3 : Int32))), .unset, .unset] [(.int p1)])) _
              refine st16 _ ?_
              show Steps p.tables e below (T16.setTop (mkF m 113 #[.val (.int p1), .val (.int p2), .val (.int p3), .val (.int p4), .val (.int p5), .val (.int p3), .val (.int p4), .val (.ref b5), .val (.int (p5 &&& (3 : Int32))), .unset, .unset] [(.ref bo16)])) _
              refine XS.astore X16.here hx rfl (hb hby at_113) rfl rfl (l' := #[.val (.int p1), .val (.int p2), .val (.int p3), .val (.int p4), .val (.int p5), .val (.int p3), .val (.int p4), .val (.ref b5), .val (.int (p5 &&& (3 : Int32))), .val (.ref bo16), .unset]) rfl ?_
              show Steps p.tables e below (T16.setTop (mkF m 115 #[.val (.int p1), .val (.int p2), .val (.int p3), .val (.int p4), .val (.int p5), .val (.int p3), .val (.int p4), .val (.ref b5), .val (.int (p5 &&& (3 : Int32))), .val (.ref bo16), .unset] [])) _
              refine XS.aload X16.here hx rfl (hb hby at_115) rfl rfl ?_
              show Steps p.tables e below (T16.setTop (mkF m 117 #[.val (.int p1), .val (.int p2), .val (.int p3), .val (.int p4), .val (.int p5), .val (.int p3), .val (.int p4), .val (.ref b5), .val (.int (p5 &&& (3 : Int32))), .val (.ref bo16), .unset] [(.ref b5)])) _
              refine XS.aload X16.here hx rfl (hb hby at_117) rfl rfl ?_
              show Steps p.tables e below (T16.setTop (mkF m 119 #[.val (.int p1), .val (.int p2), .val (.int p3), .val (.int p4), .val (.int p5), .val (.int p3), .val (.int p4), .val (.ref b5), .val (.int (p5 &&& (3 : Int32))), .val (.ref bo16), .unset] [(.ref bo16), (.ref b5)])) _
              refine st17.trans ?_
              show Steps p.tables e below (T17.setTop (mkF m 122 #[.val (.int p1), .val (.int p2), .val (.int p3), .val (.int p4), .val (.int p5), .val (.int p3), .val (.int p4), .val (.ref b5), .val (.int (p5 &&& (3 : Int32))), .val (.ref bo16), .unset] [(.int (0 : Int32))])) _
              refine XS.ifNo X17.here hx rfl (hb hby at_122) rfl ((if0 _ _).trans (teq (rfl : (0 : Int32) = (0 : Int32))).2) ?_
              show Steps p.tables e below (T17.setTop (mkF m 125 #[.val (.int p1), .val (.int p2), .val (.int p3), .val (.int p4), .val (.int p5), .val (.int p3), .val (.int p4), .val (.ref b5), .val (.int (p5 &&& (3 : Int32))), .val (.ref bo16), .unset] [])) _
              refine XS.iconst X17.here hx rfl (hb hby at_125) ?_
              show Steps p.tables e below (T17.setTop (mkF m 126 #[.val (.int p1), .val (.int p2), .val (.int p3), .val (.int p4), .val (.int p5), .val (.int p3), .val (.int p4), .val (.ref b5), .val (.int (p5 &&& (3 : Int32))), .val (.ref bo16), .unset] [(.int (1 : Int32))])) _
              refine XS.goto X17.here hx rfl (pc0 := 126) (pc' := 130) rfl (hb hby at_126) (by decide) (by decide) ?_
              exact kt
            obtain ⟨fs, hr, hrun, hended, hW, hsame⟩ := X17.leave (v := some (.int (1 : Int32))) (fun h => by rw [Bd.returns] at h; cases h)
            refine ⟨_, _, pre18 _ ?_, hrun, hended, _, _, rfl, ?_, ⟨_, rfl⟩, hW, hsame.mono (by decide) (by decide)⟩
            · show Steps p.tables e below (T17.setTop (mkF m 130 #[.val (.int p1), .val (.int p2), .val (.int p3), .val (.int p4), .val (.int p5), .val (.int p3), .val (.int p4), .val (.ref b5), .val (.int (p5 &&& (3 : Int32))), .val (.ref bo16), .unset] [(.int (1 : Int32))])) _
              exact retN X17 hx (t := .boolean) Bd.returns (by simp) (hb hby at_130) hr
            · show Q0 Z h0 n0 _ T17.heap _
              rw [hE17]
              exact ⟨rfl, N17⟩
          · have hp19 := own_c255 p3
            obtain ⟨_, _, ⟨T19, L19, k19, n19⟩, -, X19, ⟨Lc19, hQ19, l19, y19, z19⟩, st19⟩ := Jvm.LawKit.callS X6 hx (y := (⟨"java/lang/String", "valueOf", "(C)Ljava/lang/String;"⟩ : MethodName)) hown (mvT hZ (hw _ (List.mem_of_getElem? (i := 45) rfl))) (mvT hZ (hw _ (List.mem_of_getElem? (i := 46) rfl))) (mvT hZ (hw _ (List.mem_of_getElem? (i := 47) rfl))) (mvT hZ (hw _ (List.mem_of_getElem? (i := 48) rfl))) (by decide) (backOf (W := 0) (rmVC l Z a0 hw [] ((p3 &&& (255 : Int32)).toUInt32.toUInt16.toUInt32.toInt32) cs T6.heap n0 (Nat.le_trans (Nat.le_trans Z0 E5.1) K6.1) (own_staK (Sta.ext E5 S_cs) K6 (allS ⟨_, A5⟩ all0)) hcs hp19) hZ (hw _ (List.mem_of_getElem? (i := 48) rfl)) (hw _ (List.mem_of_getElem? (i := 47) rfl)) (by decide) (by decide)) (g := (mkF m 101 #[.val (.int p1), .val (.int p2), .val (.int p3), .val (.int p4), .val (.int p5), .val (.int p3), .val (.int p4), .val (.ref b5), .val (.int (p5 &&& (3 : Int32))), .unset, .unset] [(.int ((p3 &&& (255 : Int32)).toUInt32.toUInt16.toUInt32.toInt32))])) rfl (by rw [hml]; rfl) (argsL := [(.int ((p3 &&& (255 : Int32)).toUInt32.toUInt16.toUInt32.toInt32))]) (rest := []) (lenOf pd_rm0_3 rfl) rfl (by show 2 * 0 + _ ≤ _; exact Nat.le_of_eq rfl) (hb hby at_101) (fun _ _ => ⟨rfl, rfl, (by decide : 1 + 2 ≤ _), (by decide : 2 + 5 ≤ _)⟩)
            dsimp only [Pt.U, Pt.locs, Pt.cells, Pt.slots] at X19 l19 y19 z19 st19 hQ19
            subst l19 y19 z19
            obtain ⟨bo19, rfl, N19q, K19, Eo19⟩ := hQ19
            have N19 := Fr.app N6 N19q
            obtain ⟨cq20, kq20, q20a, q20b, q20c⟩ := isOf hZ rfl (Ei6.keep K19)
            obtain ⟨_, _, ⟨T20, L20, k20, n20⟩, -, X20, ⟨Lc20, hQ20, l20, y20, z20⟩, st20⟩ := X19.virtualBack hx (y := (⟨"com/example/keyturn/keyturn/signing/SdkRange", "equals", "(Ljava/lang/Object;)Z"⟩ : MethodName)) (z := (⟨"com/example/keyturn/keyturn/signing/SdkRange", "equals", "(Ljava/lang/Object;)Z"⟩ : MethodName)) hown (mvT hZ (hw _ (List.mem_of_getElem? (i := 13) rfl))) (mvT hZ (hw _ (List.mem_of_getElem? (i := 14) rfl))) (notFace_of_selects (args := #[]) (mvT hZ (hw _ (List.mem_of_getElem? (i := 16) rfl)))) (mvT hZ (hw _ (List.mem_of_getElem? (i := 16) rfl))) (mvT hZ (hw _ (List.mem_of_getElem? (i := 15) rfl))) (by decide) (backOf (W := 0) (rmEX l Z a0 hw [] b5 bo19 "java/lang/String" T19.heap n0 (Nat.le_trans (Nat.le_trans (Nat.le_trans Z0 E5.1) K6.1) K19.1) Eo19 (own_noS hw)) hZ (hw _ (List.mem_of_getElem? (i := 17) rfl)) (hw _ (List.mem_of_getElem? (i := 2) rfl)) (by decide) (by decide)) q20a q20c (g := (mkF m 119 #[.val (.int p1), .val (.int p2), .val (.int p3), .val (.int p4), .val (.int p5), .val (.int p3), .val (.int p4), .val (.ref b5), .val (.int (p5 &&& (3 : Int32))), .val (.ref bo19), .unset] [(.ref bo19), (.ref b5)])) rfl (by rw [hml]; rfl) (Steps.refl _) (argsL := [(.ref bo19)]) (rest := []) (lenOf pd_rm0_1 rfl) rfl (by show 2 * 0 + _ ≤ _; exact Nat.le_of_eq rfl) (hb hby at_119) (fun _ _ => ⟨rfl, rfl, (by decide : 3 + 0 ≤ _), (by decide : 7 + 0 ≤ _)⟩)
            dsimp only [Pt.U, Pt.locs, Pt.cells, Pt.slots] at X20 l20 y20 z20 st20 hQ20
            subst l20 y20 z20
            obtain ⟨rfl, N20q, hE20⟩ := hQ20
            have N20 := Fr.app N19 N20q
            have pre21 : ∀ tt, Steps p.tables e below (T20.setTop (mkF m 130 #[.val (.int p1), .val (.int p2), .val (.int p3), .val (.int p4), .val (.int p5), .val (.int p3), .val (.int p4), .val (.ref b5), .val (.int (p5 &&& (3 : Int32))), .val (.ref bo19), .unset] [(.int (1 : Int32))])) tt → Steps p.tables e below (s₁.setTop (entryFrame m #[(.int p1), (.int p2), (.int p3), (.int p4), (.int p5)] maxLocals)) tt := by
              intro tt kt
              refine pre14 tt ?_
              show Steps p.tables e below (T6.setTop (mkF m 92 #[.val (.int p1), .val (.int p2), .val (.int p3), .val (.int p4), .val (.int p5), .val (.int p3), .val (.int p4), .val (.ref b5), .val (.int (p5 &&& (3 : Int32))), .unset, .unset] [(.int ((p5 >>> ((4 : Int32) &&& 31)) &&& (1 : Int32)))])) _
              refine XS.ifNo X6.here hx rfl (hb hby at_92) rfl ((if0 _ _).trans (feq c92_15).1) ?_
              show Steps p.tables e below (T6.setTop (mkF m 95 #[.val (.int p1), .val (.int p2), .val (.int p3), .val (.int p4), .val (.int p5), .val (.int p3), .val (.int p4), .val (.ref b5), .val (.int (p5 &&& (3 : Int32))), .unset, .unset] [])) _
              refine XS.iloadN X6.here hx rfl (hb hby at_95) rfl ?_
              show Steps p.tables e below (T6.setTop (mkF m 96 #[.val (.int p1), .val (.int p2), .val (.int p3), .val (.int p4), .val (.int p5), .val (.int p3), .val (.int p4), .val (.ref b5), .val (.int (p5 &&& (3 : Int32))), .unset, .unset] [(.int p3)])) _
              refine XS.sipush X6.here hx rfl (hb hby at_96) ?_
              show Steps p.tables e below (T6.setTop (mkF m 99 #[.val (.int p1), .val (.int p2), .val (.int p3), .val (.int p4), .val (.int p5), .val (.int p3), .val (.int p4), .val (.ref b5), .val (.int (p5 &&& (3 : Int32))), .unset, .unset] [(.int (255 : Int32)), (.int p3)])) _
              refine XS.iand X6.here hx rfl (hb hby at_99) rfl ?_
              show Steps p.tables e below (T6.setTop (mkF m 100 #[.val (.int p1), .val (.int p2), .val (.int p3), .val (.int p4), .val (.int p5), .val (.int p3), .val (.int p4), .val (.ref b5), .val (.int (p5 &&& (3 : Int32))), .unset, .unset] [(.int (p3 &&& (255 : Int32)))])) _
              refine XS.i2c X6.here hx rfl (hb hby at_100) rfl ?_
              show Steps p.tables e below (T6.setTop (mkF m 101 #[.val (.int p1), .val (.int p2), .val (.int p3), .val (.int p4), .val (.int p5), .val (.int p3), .val (.int p4), .val (.ref b5), .val (.int (p5 &&& (3 : Int32))), .unset, .unset] [(.int ((p3 &&& (255 : Int32)).toUInt32.toUInt16.toUInt32.toInt32))])) _
              refine st19 _ ?_
              show Steps p.tables e below (T19.setTop (mkF m 104 #[.val (.int p1), .val (.int p2), .val (.int p3), .val (.int p4), .val (.int p5), .val (.int p3), .val (.int p4), .val (.ref b5), .val (.int (p5 &&& (3 : Int32))), .unset, .unset] [(.ref bo19)])) _
              refine XS.astore X19.here hx rfl (hb hby at_104) rfl rfl (l' := #[.val (.int p1), .val (.int p2), .val (.int p3), .val (.int p4), .val (.int p5), .val (.int p3), .val (.int p4), .val (.ref b5), .val (.int (p5 &&& (3 : Int32))), .val (.ref bo19), .unset]) rfl ?_
              show Steps p.tables e below (T19.setTop (mkF m 106 #[.val (.int p1), .val (.int p2), .val (.int p3), .val (.int p4), .val (.int p5), .val (.int p3), .val (.int p4), .val (.ref b5), .val (.int (p5 &&& (3 : Int32))), .val (.ref bo19), .unset] [])) _
              refine XS.goto X19.here hx rfl (pc0 := 106) (pc' := 115) rfl (hb hby at_106) (by decide) (by decide) ?_
              show Steps p.tables e below (T19.setTop (mkF m 115 #[.val (.int p1), .val (.int p2), .val (.int p3), .val (.int p4), .val (.int p5), .val (.int p3), .val (.int p4), .val (.ref b5), .val (.int (p5 &&& (3 : Int32))), .val (.ref bo19), .unset] [])) _
              refine XS.aload X19.here hx rfl (hb hby at_115) rfl rfl ?_
              show Steps p.tables e below (T19.setTop (mkF m 117 #[.val (.int p1), .val (.int p2), .val (.int p3), .val (.int p4), .val (.int p5), .val (.int p3), .val (.int p4), .val (.ref b5), .val (.int (p5 &&& (3 : Int32))), .val (.ref bo19), .unset] [(.ref b5)])) _
              refine XS.aload X19.here hx rfl (hb hby at_117) rfl rfl ?_
              show Steps p.tables e below (T19.setTop (mkF m 119 #[.val (.int p1), .val (.int p2), .val (.int p3), .val (.int p4), .val (.int p5), .val (.int p3), .val (.int p4), .val (.ref b5), .val (.int (p5 &&& (3 : Int32))), .val (.ref bo19), .unset] [(.ref bo19), (.ref b5)])) _
              refine st20.trans ?_
              show Steps p.tables e below (T20.setTop (mkF m 122 #[.val (.int p1), .val (.int p2), .val (.int p3), .val (.int p4), .val (.int p5), .val (.int p3), .val (.int p4), .val (.ref b5), .val (.int (p5 &&& (3 : Int32))), .val (.ref bo19), .unset] [(.int (0 : Int32))])) _
              refine XS.ifNo X20.here hx rfl (hb hby at_122) rfl ((if0 _ _).trans (teq (rfl : (0 : Int32) = (0 : Int32))).2) ?_
              show Steps p.tables e below (T20.setTop (mkF m 125 #[.val (.int p1), .val (.int p2), .val (.int p3), .val (.int p4), .val (.int p5), .val (.int p3), .val (.int p4), .val (.ref b5), .val (.int (p5 &&& (3 : Int32))), .val (.ref bo19), .unset] [])) _
              refine XS.iconst X20.here hx rfl (hb hby at_125) ?_
              show Steps p.tables e below (T20.setTop (mkF m 126 #[.val (.int p1), .val (.int p2), .val (.int p3), .val (.int p4), .val (.int p5), .val (.int p3), .val (.int p4), .val (.ref b5), .val (.int (p5 &&& (3 : Int32))), .val (.ref bo19), .unset] [(.int (1 : Int32))])) _
              refine XS.goto X20.here hx rfl (pc0 := 126) (pc' := 130) rfl (hb hby at_126) (by decide) (by decide) ?_
              exact kt
            obtain ⟨fs, hr, hrun, hended, hW, hsame⟩ := X20.leave (v := some (.int (1 : Int32))) (fun h => by rw [Bd.returns] at h; cases h)
            refine ⟨_, _, pre21 _ ?_, hrun, hended, _, _, rfl, ?_, ⟨_, rfl⟩, hW, hsame.mono (by decide) (by decide)⟩
            · show Steps p.tables e below (T20.setTop (mkF m 130 #[.val (.int p1), .val (.int p2), .val (.int p3), .val (.int p4), .val (.int p5), .val (.int p3), .val (.int p4), .val (.ref b5), .val (.int (p5 &&& (3 : Int32))), .val (.ref bo19), .unset] [(.int (1 : Int32))])) _
              exact retN X20 hx (t := .boolean) Bd.returns (by simp) (hb hby at_130) hr
            · show Q0 Z h0 n0 _ T20.heap _
              rw [hE20]
              exact ⟨rfl, N20⟩
        · obtain ⟨T22, h22, X22, e22, E22, A22, D22, -, st22⟩ := newO X6 hx hZ hown (hw _ (List.mem_of_getElem? (i := 0) rfl)) (hw _ (List.mem_of_getElem? (i := 1) rfl)) (hw _ (List.mem_of_getElem? (i := 2) rfl)) rfl (g := (mkF m 131 #[.val (.int p1), .val (.int p2), .val (.int p3), .val (.int p4), .val (.int p5), .val (.int p3), .val (.int p4), .val (.ref b5), .val (.int (p5 &&& (3 : Int32))), .unset, .unset] [])) rfl (hb hby at_131) (by decide) (by decide)
          obtain ⟨b22, g22⟩ : ∃ z, z = T6.heap.size := ⟨_, rfl⟩
          rw [← g22] at A22 D22 st22
          have g_b22 : n0 ≤ b22 := Nat.le_trans (Nat.le_trans (Nat.le_trans Z0 E5.1) K6.1) (Nat.le_of_eq g22.symm)
          have sz_b22 : h0.size ≤ b22 := Nat.le_trans (KK6).1 (Nat.le_of_eq g22.symm)
          have K22 : Keep h0 h22 [] := (KK6).ext E22
          have F_min_b22 : Fld Z h22 b22 "com/example/keyturn/keyturn/signing/SdkRange" "min" "I" (.int (0 : Int32)) := D22 (Or.inr (hw _ (List.mem_of_getElem? (i := 10) rfl))) (ty := .int) (by decide)
          have F_max_b22 : Fld Z h22 b22 "com/example/keyturn/keyturn/signing/SdkRange" "max" "I" (.int (0 : Int32)) := D22 (Or.inr (hw _ (List.mem_of_getElem? (i := 12) rfl))) (ty := .int) (by decide)
          obtain ⟨_, _, ⟨T23, L23, k23, n23⟩, -, X23, ⟨Lc23, hQ23, l23, y23, z23⟩, st23⟩ := X22.specialBack hx (y := (⟨"com/example/keyturn/keyturn/signing/SdkRange", "<init>", "(II)V"⟩ : MethodName)) rfl hown (mvT hZ (hw _ (List.mem_of_getElem? (i := 3) rfl))) (mvT hZ (hw _ (List.mem_of_getElem? (i := 4) rfl))) (mvT hZ (hw _ (List.mem_of_getElem? (i := 5) rfl))) (by decide) (backOf (W := 1) (rmC l Z a0 hw [] b22 p3 p4 h22 n0 (Nat.le_trans (Nat.le_trans (Nat.le_trans Z0 E5.1) K6.1) E22.1) A22 F_min_b22 F_max_b22 g_b22) hZ (hw _ (List.mem_of_getElem? (i := 5) rfl)) (hw _ (List.mem_of_getElem? (i := 2) rfl)) (by decide) (by decide)) (g := (mkF m 139 #[.val (.int p1), .val (.int p2), .val (.int p3), .val (.int p4), .val (.int p5), .val (.int p3), .val (.int p4), .val (.ref b5), .val (.int (p5 &&& (3 : Int32))), .unset, .unset] [(.int p4), (.int p3), (.ref b22), (.ref b22)])) rfl (by rw [hml]; rfl) (Steps.refl _) (a := b22) (argsL := [(.int p3), (.int p4)]) (rest := [(.ref b22)]) (lenOf pd_rm0_0 rfl) rfl (by show 2 * 0 + _ ≤ _; exact Nat.le_of_eq rfl) (hb hby at_139) (fun _ _ => ⟨rfl, e22, (by decide : 2 + 0 ≤ _), (by decide : 4 + 0 ≤ _)⟩)
          dsimp only [Pt.U, Pt.locs, Pt.cells, Pt.slots] at X23 l23 y23 z23 st23 hQ23
          subst l23 y23 z23
          obtain ⟨rfl, N23q, K23, Ei23, Fm23, Fx23⟩ := hQ23
          have N23 := Fr.app N6 N23q
          have KK23 : Keep h0 T23.heap [] := (K22).trans K23 (allS (Or.inr sz_b22) all0)
          have pre24 : ∀ tt, Steps p.tables e below (T23.setTop (mkF m 147 #[.val (.int p1), .val (.int p2), .val (.int p3), .val (.int p4), .val (.int p5), .val (.int p3), .val (.int p4), .val (.ref b5), .val (.int (p5 &&& (3 : Int32))), .val (.ref b22), .unset] [(.int p3), (.int p1)])) tt → Steps p.tables e below (s₁.setTop (entryFrame m #[(.int p1), (.int p2), (.int p3), (.int p4), (.int p5)] maxLocals)) tt := by
            intro tt kt
            refine pre12 tt ?_
            show Steps p.tables e below (T6.setTop (mkF m 83 #[.val (.int p1), .val (.int p2), .val (.int p3), .val (.int p4), .val (.int p5), .val (.int p3), .val (.int p4), .val (.ref b5), .val (.int (p5 &&& (3 : Int32))), .unset, .unset] [(.int (2 : Int32)), (.int (p5 &&& (3 : Int32)))])) _
            refine XS.icmpYes X6.here hx rfl (pc0 := 83) (pc' := 131) rfl (hb hby at_83) rfl (feq c83_13).2 (by decide) (by decide) ?_
            show Steps p.tables e below (T6.setTop (mkF m 131 #[.val (.int p1), .val (.int p2), .val (.int p3), .val (.int p4), .val (.int p5), .val (.int p3), .val (.int p4), .val (.ref b5), .val (.int (p5 &&& (3 : Int32))), .unset, .unset] [])) _
            refine st22 _ ?_
            show Steps p.tables e below (T22.setTop (mkF m 134 #[.val (.int p1), .val (.int p2), .val (.int p3), .val (.int p4), .val (.int p5), .val (.int p3), .val (.int p4), .val (.ref b5), .val (.int (p5 &&& (3 : Int32))), .unset, .unset] [(.ref b22)])) _
            refine XS.dup X22.here hx rfl (hb hby at_134) rfl rfl ?_
            show Steps p.tables e below (T22.setTop (mkF m 135 #[.val (.int p1), .val (.int p2), .val (.int p3), .val (.int p4), .val (.int p5), .val (.int p3), .val (.int p4), .val (.ref b5), .val (.int (p5 &&& (3 : Int32))), .unset, .unset] [(.ref b22), (.ref b22)])) _
            refine XS.iload X22.here hx rfl (hb hby at_135) rfl ?_
            show Steps p.tables e below (T22.setTop (mkF m 137 #[.val (.int p1), .val (.int p2), .val (.int p3), .val (.int p4), .val (.int p5), .val (.int p3), .val (.int p4), .val (.ref b5), .val (.int (p5 &&& (3 : Int32))), .unset, .unset] [(.int p3), (.ref b22), (.ref b22)])) _
            refine XS.iload X22.here hx rfl (hb hby at_137) rfl ?_
            show Steps p.tables e below (T22.setTop (mkF m 139 #[.val (.int p1), .val (.int p2), .val (.int p3), .val (.int p4), .val (.int p5), .val (.int p3), .val (.int p4), .val (.ref b5), .val (.int (p5 &&& (3 : Int32))), .unset, .unset] [(.int p4), (.int p3), (.ref b22), (.ref b22)])) _
            refine st23.trans ?_
            show Steps p.tables e below (T23.setTop (mkF m 142 #[.val (.int p1), .val (.int p2), .val (.int p3), .val (.int p4), .val (.int p5), .val (.int p3), .val (.int p4), .val (.ref b5), .val (.int (p5 &&& (3 : Int32))), .unset, .unset] [(.ref b22)])) _
            refine XS.astore X23.here hx rfl (hb hby at_142) rfl rfl (l' := #[.val (.int p1), .val (.int p2), .val (.int p3), .val (.int p4), .val (.int p5), .val (.int p3), .val (.int p4), .val (.ref b5), .val (.int (p5 &&& (3 : Int32))), .val (.ref b22), .unset]) rfl ?_
            show Steps p.tables e below (T23.setTop (mkF m 144 #[.val (.int p1), .val (.int p2), .val (.int p3), .val (.int p4), .val (.int p5), .val (.int p3), .val (.int p4), .val (.ref b5), .val (.int (p5 &&& (3 : Int32))), .val (.ref b22), .unset] [])) _
            refine XS.iloadN X23.here hx rfl (hb hby at_144) rfl ?_
            show Steps p.tables e below (T23.setTop (mkF m 145 #[.val (.int p1), .val (.int p2), .val (.int p3), .val (.int p4), .val (.int p5), .val (.int p3), .val (.int p4), .val (.ref b5), .val (.int (p5 &&& (3 : Int32))), .val (.ref b22), .unset] [(.int p1)])) _
            refine XS.iload X23.here hx rfl (hb hby at_145) rfl ?_
            exact kt
          by_cases c147_25 : p1 = p3
          · have pre26 : ∀ tt, Steps p.tables e below (T23.setTop (mkF m 153 #[.val (.int p1), .val (.int p2), .val (.int p3), .val (.int p4), .val (.int p5), .val (.int p3), .val (.int p4), .val (.ref b5), .val (.int (p5 &&& (3 : Int32))), .val (.ref b22), .unset] [(.int p4), (.int p2)])) tt → Steps p.tables e below (s₁.setTop (entryFrame m #[(.int p1), (.int p2), (.int p3), (.int p4), (.int p5)] maxLocals)) tt := by
              intro tt kt
              refine pre24 tt ?_
              show Steps p.tables e below (T23.setTop (mkF m 147 #[.val (.int p1), .val (.int p2), .val (.int p3), .val (.int p4), .val (.int p5), .val (.int p3), .val (.int p4), .val (.ref b5), .val (.int (p5 &&& (3 : Int32))), .val (.ref b22), .unset] [(.int p3), (.int p1)])) _
              refine XS.icmpNo X23.here hx rfl (hb hby at_147) rfl (teq c147_25).2 ?_
              show Steps p.tables e below (T23.setTop (mkF m 150 #[.val (.int p1), .val (.int p2), .val (.int p3), .val (.int p4), .val (.int p5), .val (.int p3), .val (.int p4), .val (.ref b5), .val (.int (p5 &&& (3 : Int32))), .val (.ref b22), .unset] [])) _
              refine XS.iloadN X23.here hx rfl (hb hby at_150) rfl ?_
              show Steps p.tables e below (T23.setTop (mkF m 151 #[.val (.int p1), .val (.int p2), .val (.int p3), .val (.int p4), .val (.int p5), .val (.int p3), .val (.int p4), .val (.ref b5), .val (.int (p5 &&& (3 : Int32))), .val (.ref b22), .unset] [(.int p2)])) _
              refine XS.iload X23.here hx rfl (hb hby at_151) rfl ?_
              exact kt
            by_cases c153_27 : p2 = p4
            · obtain ⟨cq28, kq28, q28a, q28b, q28c⟩ := isOf hZ rfl ((Exa.ext E22 Ei6).keep K23)
              obtain ⟨_, _, ⟨T28, L28, k28, n28⟩, -, X28, ⟨Lc28, hQ28, l28, y28, z28⟩, st28⟩ := X23.virtualBack hx (y := (⟨"com/example/keyturn/keyturn/signing/SdkRange", "equals", "(Ljava/lang/Object;)Z"⟩ : MethodName)) (z := (⟨"com/example/keyturn/keyturn/signing/SdkRange", "equals", "(Ljava/lang/Object;)Z"⟩ : MethodName)) hown (mvT hZ (hw _ (List.mem_of_getElem? (i := 13) rfl))) (mvT hZ (hw _ (List.mem_of_getElem? (i := 14) rfl))) (notFace_of_selects (args := #[]) (mvT hZ (hw _ (List.mem_of_getElem? (i := 16) rfl)))) (mvT hZ (hw _ (List.mem_of_getElem? (i := 16) rfl))) (mvT hZ (hw _ (List.mem_of_getElem? (i := 15) rfl))) (by decide) (backOf (W := 0) (rmE l Z a0 hw [] b5 b22 p1 p2 p3 p4 (1 : Int32) T23.heap n0 (Nat.le_trans (Nat.le_trans (Nat.le_trans (Nat.le_trans Z0 E5.1) K6.1) E22.1) K23.1) Ei23 ((Fld.ext E22 Fm6).keep K23 (ninS (Nat.ne_of_lt (Nat.lt_of_lt_of_le (Ei6).lt (Nat.le_of_eq g22.symm))) nin0)) ((Fld.ext E22 Fx6).keep K23 (ninS (Nat.ne_of_lt (Nat.lt_of_lt_of_le (Ei6).lt (Nat.le_of_eq g22.symm))) nin0)) Fm23 Fx23 (by rw [if_pos c147_25, if_pos c153_27])) hZ (hw _ (List.mem_of_getElem? (i := 17) rfl)) (hw _ (List.mem_of_getElem? (i := 2) rfl)) (by decide) (by decide)) q28a q28c (g := (mkF m 167 #[.val (.int p1), .val (.int p2), .val (.int p3), .val (.int p4), .val (.int p5), .val (.int p3), .val (.int p4), .val (.ref b5), .val (.int (p5 &&& (3 : Int32))), .val (.ref b22), .val (.int (1 : Int32))] [(.ref b22), (.ref b5)])) rfl (by rw [hml]; rfl) (Steps.refl _) (argsL := [(.ref b22)]) (rest := []) (lenOf pd_rm0_1 rfl) rfl (by show 2 * 0 + _ ≤ _; exact Nat.le_of_eq rfl) (hb hby at_167) (fun _ _ => ⟨rfl, rfl, (by decide : 2 + 0 ≤ _), (by decide : 4 + 0 ≤ _)⟩)
              dsimp only [Pt.U, Pt.locs, Pt.cells, Pt.slots] at X28 l28 y28 z28 st28 hQ28
              subst l28 y28 z28
              obtain ⟨rfl, N28q, hE28⟩ := hQ28
              have N28 := Fr.app N23 N28q
              obtain ⟨cq29, kq29, q29a, q29b, q29c⟩ := isOf hZ hE28 Ei23
              obtain ⟨_, _, ⟨T29, L29, k29, n29⟩, -, X29, ⟨Lc29, hQ29, l29, y29, z29⟩, st29⟩ := X28.virtualBack hx (y := (⟨"com/example/keyturn/keyturn/signing/SdkRange", "equals", "(Ljava/lang/Object;)Z"⟩ : MethodName)) (z := (⟨"com/example/keyturn/keyturn/signing/SdkRange", "equals", "(Ljava/lang/Object;)Z"⟩ : MethodName)) hown (mvT hZ (hw _ (List.mem_of_getElem? (i := 13) rfl))) (mvT hZ (hw _ (List.mem_of_getElem? (i := 14) rfl))) (notFace_of_selects (args := #[]) (mvT hZ (hw _ (List.mem_of_getElem? (i := 16) rfl)))) (mvT hZ (hw _ (List.mem_of_getElem? (i := 16) rfl))) (mvT hZ (hw _ (List.mem_of_getElem? (i := 15) rfl))) (by decide) (backOf (W := 0) (rmE l Z a0 hw [] b22 b5 p3 p4 p1 p2 (1 : Int32) T23.heap n0 (Nat.le_trans (Nat.le_trans (Nat.le_trans (Nat.le_trans Z0 E5.1) K6.1) E22.1) K23.1) ((Exa.ext E22 Ei6).keep K23) Fm23 Fx23 ((Fld.ext E22 Fm6).keep K23 (ninS (Nat.ne_of_lt (Nat.lt_of_lt_of_le (Ei6).lt (Nat.le_of_eq g22.symm))) nin0)) ((Fld.ext E22 Fx6).keep K23 (ninS (Nat.ne_of_lt (Nat.lt_of_lt_of_le (Ei6).lt (Nat.le_of_eq g22.symm))) nin0)) (by rw [if_pos (c147_25).symm, if_pos (c153_27).symm])) hZ (hw _ (List.mem_of_getElem? (i := 17) rfl)) (hw _ (List.mem_of_getElem? (i := 2) rfl)) (by decide) (by decide)) q29a q29c (g := (mkF m 179 #[.val (.int p1), .val (.int p2), .val (.int p3), .val (.int p4), .val (.int p5), .val (.int p3), .val (.int p4), .val (.ref b5), .val (.int (p5 &&& (3 : Int32))), .val (.ref b22), .val (.int (1 : Int32))] [(.ref b5), (.ref b22)])) rfl (by rw [hml]; rfl) (Steps.refl _) (argsL := [(.ref b5)]) (rest := []) (lenOf pd_rm0_1 rfl) rfl (by show 2 * 0 + _ ≤ _; exact Nat.le_of_eq rfl) (hb hby at_179) (fun _ _ => ⟨rfl, hE28, (by decide : 2 + 0 ≤ _), (by decide : 4 + 0 ≤ _)⟩)
              dsimp only [Pt.U, Pt.locs, Pt.cells, Pt.slots] at X29 l29 y29 z29 st29 hQ29
              subst l29 y29 z29
              obtain ⟨rfl, N29q, hE29⟩ := hQ29
              have N29 := Fr.app N28 N29q
              have pre30 : ∀ tt, Steps p.tables e below (T29.setTop (mkF m 192 #[.val (.int p1), .val (.int p2), .val (.int p3), .val (.int p4), .val (.int p5), .val (.int p3), .val (.int p4), .val (.ref b5), .val (.int (p5 &&& (3 : Int32))), .val (.ref b22), .val (.int (1 : Int32))] [(.int (1 : Int32))])) tt → Steps p.tables e below (s₁.setTop (entryFrame m #[(.int p1), (.int p2), (.int p3), (.int p4), (.int p5)] maxLocals)) tt := by
                intro tt kt
                refine pre26 tt ?_
                show Steps p.tables e below (T23.setTop (mkF m 153 #[.val (.int p1), .val (.int p2), .val (.int p3), .val (.int p4), .val (.int p5), .val (.int p3), .val (.int p4), .val (.ref b5), .val (.int (p5 &&& (3 : Int32))), .val (.ref b22), .unset] [(.int p4), (.int p2)])) _
                refine XS.icmpNo X23.here hx rfl (hb hby at_153) rfl (teq c153_27).2 ?_
                show Steps p.tables e below (T23.setTop (mkF m 156 #[.val (.int p1), .val (.int p2), .val (.int p3), .val (.int p4), .val (.int p5), .val (.int p3), .val (.int p4), .val (.ref b5), .val (.int (p5 &&& (3 : Int32))), .val (.ref b22), .unset] [])) _
                refine XS.iconst X23.here hx rfl (hb hby at_156) ?_
                show Steps p.tables e below (T23.setTop (mkF m 157 #[.val (.int p1), .val (.int p2), .val (.int p3), .val (.int p4), .val (.int p5), .val (.int p3), .val (.int p4), .val (.ref b5), .val (.int (p5 &&& (3 : Int32))), .val (.ref b22), .unset] [(.int (1 : Int32))])) _
                refine XS.goto X23.here hx rfl (pc0 := 157) (pc' := 161) rfl (hb hby at_157) (by decide) (by decide) ?_
                show Steps p.tables e below (T23.setTop (mkF m 161 #[.val (.int p1), .val (.int p2), .val (.int p3), .val (.int p4), .val (.int p5), .val (.int p3), .val (.int p4), .val (.ref b5), .val (.int (p5 &&& (3 : Int32))), .val (.ref b22), .unset] [(.int (1 : Int32))])) _
                refine XS.istore X23.here hx rfl (hb hby at_161) rfl (l' := #[.val (.int p1), .val (.int p2), .val (.int p3), .val (.int p4), .val (.int p5), .val (.int p3), .val (.int p4), .val (.ref b5), .val (.int (p5 &&& (3 : Int32))), .val (.ref b22), .val (.int (1 : Int32))]) rfl ?_
                show Steps p.tables e below (T23.setTop (mkF m 163 #[.val (.int p1), .val (.int p2), .val (.int p3), .val (.int p4), .val (.int p5), .val (.int p3), .val (.int p4), .val (.ref b5), .val (.int (p5 &&& (3 : Int32))), .val (.ref b22), .val (.int (1 : Int32))] [])) _
                refine XS.aload X23.here hx rfl (hb hby at_163) rfl rfl ?_
                show Steps p.tables e below (T23.setTop (mkF m 165 #[.val (.int p1), .val (.int p2), .val (.int p3), .val (.int p4), .val (.int p5), .val (.int p3), .val (.int p4), .val (.ref b5), .val (.int (p5 &&& (3 : Int32))), .val (.ref b22), .val (.int (1 : Int32))] [(.ref b5)])) _
                refine XS.aload X23.here hx rfl (hb hby at_165) rfl rfl ?_
                show Steps p.tables e below (T23.setTop (mkF m 167 #[.val (.int p1), .val (.int p2), .val (.int p3), .val (.int p4), .val (.int p5), .val (.int p3), .val (.int p4), .val (.ref b5), .val (.int (p5 &&& (3 : Int32))), .val (.ref b22), .val (.int (1 : Int32))] [(.ref b22), (.ref b5)])) _
                refine st28.trans ?_
                show Steps p.tables e below (T28.setTop (mkF m 170 #[.val (.int p1), .val (.int p2), .val (.int p3), .val (.int p4), .val (.int p5), .val (.int p3), .val (.int p4), .val (.ref b5), .val (.int (p5 &&& (3 : Int32))), .val (.ref b22), .val (.int (1 : Int32))] [(.int (1 : Int32))])) _
                refine XS.iload X28.here hx rfl (hb hby at_170) rfl ?_
                show Steps p.tables e below (T28.setTop (mkF m 172 #[.val (.int p1), .val (.int p2), .val (.int p3), .val (.int p4), .val (.int p5), .val (.int p3), .val (.int p4), .val (.ref b5), .val (.int (p5 &&& (3 : Int32))), .val (.ref b22), .val (.int (1 : Int32))] [(.int (1 : Int32)), (.int (1 : Int32))])) _
                refine XS.icmpNo X28.here hx rfl (hb hby at_172) rfl (teq (rfl : (1 : Int32) = (1 : Int32))).2 ?_
                show Steps p.tables e below (T28.setTop (mkF m 175 #[.val (.int p1), .val (.int p2), .val (.int p3), .val (.int p4), .val (.int p5), .val (.int p3), .val (.int p4), .val (.ref b5), .val (.int (p5 &&& (3 : Int32))), .val (.ref b22), .val (.int (1 : Int32))] [])) _
                refine XS.aload X28.here hx rfl (hb hby at_175) rfl rfl ?_
                show Steps p.tables e below (T28.setTop (mkF m 177 #[.val (.int p1), .val (.int p2), .val (.int p3), .val (.int p4), .val (.int p5), .val (.int p3), .val (.int p4), .val (.ref b5), .val (.int (p5 &&& (3 : Int32))), .val (.ref b22), .val (.int (1 : Int32))] [(.ref b22)])) _
                refine XS.aload X28.here hx rfl (hb hby at_177) rfl rfl ?_
                show Steps p.tables e below (T28.setTop (mkF m 179 #[.val (.int p1), .val (.int p2), .val (.int p3), .val (.int p4), .val (.int p5), .val (.int p3), .val (.int p4), .val (.ref b5), .val (.int (p5 &&& (3 : Int32))), .val (.ref b22), .val (.int (1 : Int32))] [(.ref b5), (.ref b22)])) _
                refine st29.trans ?_
                show Steps p.tables e below (T29.setTop (mkF m 182 #[.val (.int p1), .val (.int p2), .val (.int p3), .val (.int p4), .val (.int p5), .val (.int p3), .val (.int p4), .val (.ref b5), .val (.int (p5 &&& (3 : Int32))), .val (.ref b22), .val (.int (1 : Int32))] [(.int (1 : Int32))])) _
                refine XS.iload X29.here hx rfl (hb hby at_182) rfl ?_
                show Steps p.tables e below (T29.setTop (mkF m 184 #[.val (.int p1), .val (.int p2), .val (.int p3), .val (.int p4), .val (.int p5), .val (.int p3), .val (.int p4), .val (.ref b5), .val (.int (p5 &&& (3 : Int32))), .val (.ref b22), .val (.int (1 : Int32))] [(.int (1 : Int32)), (.int (1 : Int32))])) _
                refine XS.icmpNo X29.here hx rfl (hb hby at_184) rfl (teq (rfl : (1 : Int32) = (1 : Int32))).2 ?_
                show Steps p.tables e below (T29.setTop (mkF m 187 #[.val (.int p1), .val (.int p2), .val (.int p3), .val (.int p4), .val (.int p5), .val (.int p3), .val (.int p4), .val (.ref b5), .val (.int (p5 &&& (3 : Int32))), .val (.ref b22), .val (.int (1 : Int32))] [])) _
                refine XS.iconst X29.here hx rfl (hb hby at_187) ?_
                show Steps p.tables e below (T29.setTop (mkF m 188 #[.val (.int p1), .val (.int p2), .val (.int p3), .val (.int p4), .val (.int p5), .val (.int p3), .val (.int p4), .val (.ref b5), .val (.int (p5 &&& (3 : Int32))), .val (.ref b22), .val (.int (1 : Int32))] [(.int (1 : Int32))])) _
                refine XS.goto X29.here hx rfl (pc0 := 188) (pc' := 192) rfl (hb hby at_188) (by decide) (by decide) ?_
                exact kt
              obtain ⟨fs, hr, hrun, hended, hW, hsame⟩ := X29.leave (v := some (.int (1 : Int32))) (fun h => by rw [Bd.returns] at h; cases h)
              refine ⟨_, _, pre30 _ ?_, hrun, hended, _, _, rfl, ?_, ⟨_, rfl⟩, hW, hsame.mono (by decide) (by decide)⟩
              · show Steps p.tables e below (T29.setTop (mkF m 192 #[.val (.int p1), .val (.int p2), .val (.int p3), .val (.int p4), .val (.int p5), .val (.int p3), .val (.int p4), .val (.ref b5), .val (.int (p5 &&& (3 : Int32))), .val (.ref b22), .val (.int (1 : Int32))] [(.int (1 : Int32))])) _
                exact retN X29 hx (t := .boolean) Bd.returns (by simp) (hb hby at_192) hr
              · show Q0 Z h0 n0 _ T29.heap _
                rw [hE29]
                exact ⟨rfl, N29⟩
            · obtain ⟨cq31, kq31, q31a, q31b, q31c⟩ := isOf hZ rfl ((Exa.ext E22 Ei6).keep K23)
              obtain ⟨_, _, ⟨T31, L31, k31, n31⟩, -, X31, ⟨Lc31, hQ31, l31, y31, z31⟩, st31⟩ := X23.virtualBack hx (y := (⟨"com/example/keyturn/keyturn/signing/SdkRange", "equals", "(Ljava/lang/Object;)Z"⟩ : MethodName)) (z := (⟨"com/example/keyturn/keyturn/signing/SdkRange", "equals", "(Ljava/lang/Object;)Z"⟩ : MethodName)) hown (mvT hZ (hw _ (List.mem_of_getElem? (i := 13) rfl))) (mvT hZ (hw _ (List.mem_of_getElem? (i := 14) rfl))) (notFace_of_selects (args := #[]) (mvT hZ (hw _ (List.mem_of_getElem? (i := 16) rfl)))) (mvT hZ (hw _ (List.mem_of_getElem? (i := 16) rfl))) (mvT hZ (hw _ (List.mem_of_getElem? (i := 15) rfl))) (by decide) (backOf (W := 0) (rmE l Z a0 hw [] b5 b22 p1 p2 p3 p4 (0 : Int32) T23.heap n0 (Nat.le_trans (Nat.le_trans (Nat.le_trans (Nat.le_trans Z0 E5.1) K6.1) E22.1) K23.1) Ei23 ((Fld.ext E22 Fm6).keep K23 (ninS (Nat.ne_of_lt (Nat.lt_of_lt_of_le (Ei6).lt (Nat.le_of_eq g22.symm))) nin0)) ((Fld.ext E22 Fx6).keep K23 (ninS (Nat.ne_of_lt (Nat.lt_of_lt_of_le (Ei6).lt (Nat.le_of_eq g22.symm))) nin0)) Fm23 Fx23 (by rw [if_pos c147_25, if_neg c153_27])) hZ (hw _ (List.mem_of_getElem? (i := 17) rfl)) (hw _ (List.mem_of_getElem? (i := 2) rfl)) (by decide) (by decide)) q31a q31c (g := (mkF m 167 #[.val (.int p1), .val (.int p2), .val (.int p3), .val (.int p4), .val (.int p5), .val (.int p3), .val (.int p4), .val (.ref b5), .val (.int (p5 &&& (3 : Int32))), .val (.ref b22), .val (.int (0 : Int32))] [(.ref b22), (.ref b5)])) rfl (by rw [hml]; rfl) (Steps.refl _) (argsL := [(.ref b22)]) (rest := []) (lenOf pd_rm0_1 rfl) rfl (by show 2 * 0 + _ ≤ _; exact Nat.le_of_eq rfl) (hb hby at_167) (fun _ _ => ⟨rfl, rfl, (by decide : 2 + 0 ≤ _), (by decide : 4 + 0 ≤ _)⟩)
              dsimp only [Pt.U, Pt.locs, Pt.cells, Pt.slots] at X31 l31 y31 z31 st31 hQ31
              subst l31 y31 z31
              obtain ⟨rfl, N31q, hE31⟩ := hQ31
              have N31 := Fr.app N23 N31q
              obtain ⟨cq32, kq32, q32a, q32b, q32c⟩ := isOf hZ hE31 Ei23
              obtain ⟨_, _, ⟨T32, L32, k32, n32⟩, -, X32, ⟨Lc32, hQ32, l32, y32, z32⟩, st32⟩ := X31.virtualBack hx (y := (⟨"com/example/keyturn/keyturn/signing/SdkRange", "equals", "(Ljava/lang/Object;)Z"⟩ : MethodName)) (z := (⟨"com/example/keyturn/keyturn/signing/SdkRange", "equals", "(Ljava/lang/Object;)Z"⟩ : MethodName)) hown (mvT hZ (hw _ (List.mem_of_getElem? (i := 13) rfl))) (mvT hZ (hw _ (List.mem_of_getElem? (i := 14) rfl))) (notFace_of_selects (args := #[]) (mvT hZ (hw _ (List.mem_of_getElem? (i := 16) rfl)))) (mvT hZ (hw _ (List.mem_of_getElem? (i := 16) rfl))) (mvT hZ (hw _ (List.mem_of_getElem? (i := 15) rfl))) (by decide) (backOf (W := 0) (rmE l Z a0 hw [] b22 b5 p3 p4 p1 p2 (0 : Int32) T23.heap n0 (Nat.le_trans (Nat.le_trans (Nat.le_trans (Nat.le_trans Z0 E5.1) K6.1) E22.1) K23.1) ((Exa.ext E22 Ei6).keep K23) Fm23 Fx23 ((Fld.ext E22 Fm6).keep K23 (ninS (Nat.ne_of_lt (Nat.lt_of_lt_of_le (Ei6).lt (Nat.le_of_eq g22.symm))) nin0)) ((Fld.ext E22 Fx6).keep K23 (ninS (Nat.ne_of_lt (Nat.lt_of_lt_of_le (Ei6).lt (Nat.le_of_eq g22.symm))) nin0)) (by rw [if_pos (c147_25).symm, if_neg (fun q => c153_27 q.symm)])) hZ (hw _ (List.mem_of_getElem? (i := 17) rfl)) (hw _ (List.mem_of_getElem? (i := 2) rfl)) (by decide) (by decide)) q32a q32c (g := (mkF m 179 #[.val (.int p1), .val (.int p2), .val (.int p3), .val (.int p4), .val (.int p5), .val (.int p3), .val (.int p4), .val (.ref b5), .val (.int (p5 &&& (3 : Int32))), .val (.ref b22), .val (.int (0 : Int32))] [(.ref b5), (.ref b22)])) rfl (by rw [hml]; rfl) (Steps.refl _) (argsL := [(.ref b5)]) (rest := []) (lenOf pd_rm0_1 rfl) rfl (by show 2 * 0 + _ ≤ _; exact Nat.le_of_eq rfl) (hb hby at_179) (fun _ _ => ⟨rfl, hE31, (by decide : 2 + 0 ≤ _), (by decide : 4 + 0 ≤ _)⟩)
              dsimp only [Pt.U, Pt.locs, Pt.cells, Pt.slots] at X32 l32 y32 z32 st32 hQ32
              subst l32 y32 z32
              obtain ⟨rfl, N32q, hE32⟩ := hQ32
              have N32 := Fr.app N31 N32q
              have pre33 : ∀ tt, Steps p.tables e below (T32.setTop (mkF m 192 #[.val (.int p1), .val (.int p2), .val (.int p3), .val (.int p4), .val (.int p5), .val (.int p3), .val (.int p4), .val (.ref b5), .val (.int (p5 &&& (3 : Int32))), .val (.ref b22), .val (.int (0 : Int32))] [(.int (1 : Int32))])) tt → Steps p.tables e below (s₁.setTop (entryFrame m #[(.int p1), (.int p2), (.int p3), (.int p4), (.int p5)] maxLocals)) tt := by
                intro tt kt
                refine pre26 tt ?_
                show Steps p.tables e below (T23.setTop (mkF m 153 #[.val (.int p1), .val (.int p2), .val (.int p3), .val (.int p4), .val (.int p5), .val (.int p3), .val (.int p4), .val (.ref b5), .val (.int (p5 &&& (3 : Int32))), .val (.ref b22), .unset] [(.int p4), (.int p2)])) _
                refine XS.icmpYes X23.here hx rfl (pc0 := 153) (pc' := 160) rfl (hb hby at_153) rfl (feq c153_27).2 (by decide) (by decide) ?_
                show Steps p.tables e below (T23.setTop (mkF m 160 #[.val (.int p1), .val (.int p2), .val (.int p3), .val (.int p4), .val (.int p5), .val (.int p3), .val (.int p4), .val (.ref b5), .val (.int (p5 &&& (3 : Int32))), .val (.ref b22), .unset] [])) _
                refine XS.iconst X23.here hx rfl (hb hby at_160) ?_
                show Steps p.tables e below (T23.setTop (mkF m 161 #[.val (.int p1), .val (.int p2), .val (.int p3), .val (.int p4), .val (.int p5), .val (.int p3), .val (.int p4), .val (.ref b5), .val (.int (p5 &&& (3 : Int32))), .val (.ref b22), .unset] [(.int (0 : Int32))])) _
                refine XS.istore X23.here hx rfl (hb hby at_161) rfl (l' := #[.val (.int p1), .val (.int p2), .val (.int p3), .val (.int p4), .val (.int p5), .val (.int p3), .val (.int p4), .val (.ref b5), .val (.int (p5 &&& (3 : Int32))), .val (.ref b22), .val (.int (0 : Int32))]) rfl ?_
                show Steps p.tables e below (T23.setTop (mkF m 163 #[.val (.int p1), .val (.int p2), .val (.int p3), .val (.int p4), .val (.int p5), .val (.int p3), .val (.int p4), .val (.ref b5), .val (.int (p5 &&& (3 : Int32))), .val (.ref b22), .val (.int (0 : Int32))] [])) _
                refine XS.aload X23.here hx rfl (hb hby at_163) rfl rfl ?_
                show Steps p.tables e below (T23.setTop (mkF m 165 #[.val (.int p1), .val (.int p2), .val (.int p3), .val (.int p4), .val (.int p5), .val (.int p3), .val (.int p4), .val (.ref b5), .val (.int (p5 &&& (3 : Int32))), .val (.ref b22), .val (.int (0 : Int32))] [(.ref b5)])) _
                refine XS.aload X23.here hx rfl (hb hby at_165) rfl rfl ?_
                show Steps p.tables e below (T23.setTop (mkF m 167 #[.val (.int p1), .val (.int p2), .val (.int p3), .val (.int p4), .val (.int p5), .val (.int p3), .val (.int p4), .val (.ref b5), .val (.int (p5 &&& (3 : Int32))), .val (.ref b22), .val (.int (0 : Int32))] [(.ref b22), (.ref b5)])) _
                refine st31.trans ?_
                show Steps p.tables e below (T31.setTop (mkF m 170 #[.val (.int p1), .val (.int p2), .val (.int p3), .val (.int p4), .val (.int p5), .val (.int p3), .val (.int p4), .val (.ref b5), .val (.int (p5 &&& (3 : Int32))), .val (.ref b22), .val (.int (0 : Int32))] [(.int (0 : Int32))])) _
                refine XS.iload X31.here hx rfl (hb hby at_170) rfl ?_
                show Steps p.tables e below (T31.setTop (mkF m 172 #[.val (.int p1), .val (.int p2), .val (.int p3), .val (.int p4), .val (.int p5), .val (.int p3), .val (.int p4), .val (.ref b5), .val (.int (p5 &&& (3 : Int32))), .val (.ref b22), .val (.int (0 : Int32))] [(.int (0 : Int32)), (.int (0 : Int32))])) _
                refine XS.icmpNo X31.here hx rfl (hb hby at_172) rfl (teq (rfl : (0 : Int32) = (0 : Int32))).2 ?_
                show Steps p.tables e below (T31.setTop (mkF m 175 #[.val (.int p1), .val (.int p2), .val (.int p3), .val (.int p4), .val (.int p5), .val (.int p3), .val (.int p4), .val (.ref b5), .val (.int (p5 &&& (3 : Int32))), .val (.ref b22), .val (.int (0 : Int32))] [])) _
                refine XS.aload X31.here hx rfl (hb hby at_175) rfl rfl ?_
                show Steps p.tables e below (T31.setTop (mkF m 177 #[.val (.int p1), .val (.int p2), .val (.int p3), .val (.int p4), .val (.int p5), .val (.int p3), .val (.int p4), .val (.ref b5), .val (.int (p5 &&& (3 : Int32))), .val (.ref b22), .val (.int (0 : Int32))] [(.ref b22)])) _
                refine XS.aload X31.here hx rfl (hb hby at_177) rfl rfl ?_
                show Steps p.tables e below (T31.setTop (mkF m 179 #[.val (.int p1), .val (.int p2), .val (.int p3), .val (.int p4), .val (.int p5), .val (.int p3), .val (.int p4), .val (.ref b5), .val (.int (p5 &&& (3 : Int32))), .val (.ref b22), .val (.int (0 : Int32))] [(.ref b5), (.ref b22)])) _
                refine st32.trans ?_
                show Steps p.tables e below (T32.setTop (mkF m 182 #[.val (.int p1), .val (.int p2), .val (.int p3), .val (.int p4), .val (.int p5), .val (.int p3), .val (.int p4), .val (.ref b5), .val (.int (p5 &&& (3 : Int32))), .val (.ref b22), .val (.int (0 : Int32))] [(.int (0 : Int32))])) _
                refine XS.iload X32.here hx rfl (hb hby at_182) rfl ?_
                show Steps p.tables e below (T32.setTop (mkF m 184 #[.val (.int p1), .val (.int p2), .val (.int p3), .val (.int p4), .val (.int p5), .val (.int p3), .val (.int p4), .val (.ref b5), .val (.int (p5 &&& (3 : Int32))), .val (.ref b22), .val (.int (0 : Int32))] [(.int (0 : Int32)), (.int (0 : Int32))])) _
                refine XS.icmpNo X32.here hx rfl (hb hby at_184) rfl (teq (rfl : (0 : Int32) = (0 : Int32))).2 ?_
                show Steps p.tables e below (T32.setTop (mkF m 187 #[.val (.int p1), .val (.int p2), .val (.int p3), .val (.int p4), .val (.int p5), .val (.int p3), .val (.int p4), .val (.ref b5), .val (.int (p5 &&& (3 : Int32))), .val (.ref b22), .val (.int (0 : Int32))] [])) _
                refine XS.iconst X32.here hx rfl (hb hby at_187) ?_
                show Steps p.tables e below (T32.setTop (mkF m 188 #[.val (.int p1), .val (.int p2), .val (.int p3), .val (.int p4), .val (.int p5), .val (.int p3), .val (.int p4), .val (.ref b5), .val (.int (p5 &&& (3 : Int32))), .val (.ref b22), .val (.int (0 : Int32))] [(.int (1 : Int32))])) _
                refine XS.goto X32.here hx rfl (pc0 := 188) (pc' := 192) rfl (hb hby at_188) (by decide) (by decide) ?_
                exact kt
              obtain ⟨fs, hr, hrun, hended, hW, hsame⟩ := X32.leave (v := some (.int (1 : Int32))) (fun h => by rw [Bd.returns] at h; cases h)
              refine ⟨_, _, pre33 _ ?_, hrun, hended, _, _, rfl, ?_, ⟨_, rfl⟩, hW, hsame.mono (by decide) (by decide)⟩
              · show Steps p.tables e below (T32.setTop (mkF m 192 #[.val (.int p1), .val (.int p2), .val (.int p3), .val (.int p4), .val (.int p5), .val (.int p3), .val (.int p4), .val (.ref b5), .val (.int (p5 &&& (3 : Int32))), .val (.ref b22), .val (.int (0 : Int32))] [(.int (1 : Int32))])) _
                exact retN X32 hx (t := .boolean) Bd.returns (by simp) (hb hby at_192) hr
              · show Q0 Z h0 n0 _ T32.heap _
                rw [hE32]
                exact ⟨rfl, N32⟩
          · obtain ⟨cq34, kq34, q34a, q34b, q34c⟩ := isOf hZ rfl ((Exa.ext E22 Ei6).keep K23)
            obtain ⟨_, _, ⟨T34, L34, k34, n34⟩, -, X34, ⟨Lc34, hQ34, l34, y34, z34⟩, st34⟩ := X23.virtualBack hx (y := (⟨"com/example/keyturn/keyturn/signing/SdkRange", "equals", "(Ljava/lang/Object;)Z"⟩ : MethodName)) (z := (⟨"com/example/keyturn/keyturn/signing/SdkRange", "equals", "(Ljava/lang/Object;)Z"⟩ : MethodName)) hown (mvT hZ (hw _ (List.mem_of_getElem? (i := 13) rfl))) (mvT hZ (hw _ (List.mem_of_getElem? (i := 14) rfl))) (notFace_of_selects (args := #[]) (mvT hZ (hw _ (List.mem_of_getElem? (i := 16) rfl)))) (mvT hZ (hw _ (List.mem_of_getElem? (i := 16) rfl))) (mvT hZ (hw _ (List.mem_of_getElem? (i := 15) rfl))) (by decide) (backOf (W := 0) (rmE l Z a0 hw [] b5 b22 p1 p2 p3 p4 (0 : Int32) T23.heap n0 (Nat.le_trans (Nat.le_trans (Nat.le_trans (Nat.le_trans Z0 E5.1) K6.1) E22.1) K23.1) Ei23 ((Fld.ext E22 Fm6).keep K23 (ninS (Nat.ne_of_lt (Nat.lt_of_lt_of_le (Ei6).lt (Nat.le_of_eq g22.symm))) nin0)) ((Fld.ext E22 Fx6).keep K23 (ninS (Nat.ne_of_lt (Nat.lt_of_lt_of_le (Ei6).lt (Nat.le_of_eq g22.symm))) nin0)) Fm23 Fx23 (if_neg c147_25).symm) hZ (hw _ (List.mem_of_getElem? (i := 17) rfl)) (hw _ (List.mem_of_getElem? (i := 2) rfl)) (by decide) (by decide)) q34a q34c (g := (mkF m 167 #[.val (.int p1), .val (.int p2), .val (.int p3), .val (.int p4), .val (.int p5), .val (.int p3), .val (.int p4), .val (.ref b5), .val (.int (p5 &&& (3 : Int32))), .val (.ref b22), .val (.int (0 : Int32))] [(.ref b22), (.ref b5)])) rfl (by rw [hml]; rfl) (Steps.refl _) (argsL := [(.ref b22)]) (rest := []) (lenOf pd_rm0_1 rfl) rfl (by show 2 * 0 + _ ≤ _; exact Nat.le_of_eq rfl) (hb hby at_167) (fun _ _ => ⟨rfl, rfl, (by decide : 2 + 0 ≤ _), (by decide : 4 + 0 ≤ _)⟩)
            dsimp only [Pt.U, Pt.locs, Pt.cells, Pt.slots] at X34 l34 y34 z34 st34 hQ34
            subst l34 y34 z34
            obtain ⟨rfl, N34q, hE34⟩ := hQ34
            have N34 := Fr.app N23 N34q
            obtain ⟨cq35, kq35, q35a, q35b, q35c⟩ := isOf hZ hE34 Ei23
            obtain ⟨_, _, ⟨T35, L35, k35, n35⟩, -, X35, ⟨Lc35, hQ35, l35, y35, z35⟩, st35⟩ := X34.virtualBack hx (y := (⟨"com/example/keyturn/keyturn/signing/SdkRange", "equals", "(Ljava/lang/Object;)Z"⟩ : MethodName)) (z := (⟨"com/example/keyturn/keyturn/signing/SdkRange", "equals", "(Ljava/lang/Object;)Z"⟩ : MethodName)) hown (mvT hZ (hw _ (List.mem_of_getElem? (i := 13) rfl))) (mvT hZ (hw _ (List.mem_of_getElem? (i := 14) rfl))) (notFace_of_selects (args := #[]) (mvT hZ (hw _ (List.mem_of_getElem? (i := 16) rfl)))) (mvT hZ (hw _ (List.mem_of_getElem? (i := 16) rfl))) (mvT hZ (hw _ (List.mem_of_getElem? (i := 15) rfl))) (by decide) (backOf (W := 0) (rmE l Z a0 hw [] b22 b5 p3 p4 p1 p2 (0 : Int32) T23.heap n0 (Nat.le_trans (Nat.le_trans (Nat.le_trans (Nat.le_trans Z0 E5.1) K6.1) E22.1) K23.1) ((Exa.ext E22 Ei6).keep K23) Fm23 Fx23 ((Fld.ext E22 Fm6).keep K23 (ninS (Nat.ne_of_lt (Nat.lt_of_lt_of_le (Ei6).lt (Nat.le_of_eq g22.symm))) nin0)) ((Fld.ext E22 Fx6).keep K23 (ninS (Nat.ne_of_lt (Nat.lt_of_lt_of_le (Ei6).lt (Nat.le_of_eq g22.symm))) nin0)) (if_neg (fun q => c147_25 q.symm)).symm) hZ (hw _ (List.mem_of_getElem? (i := 17) rfl)) (hw _ (List.mem_of_getElem? (i := 2) rfl)) (by decide) (by decide)) q35a q35c (g := (mkF m 179 #[.val (.int p1), .val (.int p2), .val (.int p3), .val (.int p4), .val (.int p5), .val (.int p3), .val (.int p4), .val (.ref b5), .val (.int (p5 &&& (3 : Int32))), .val (.ref b22), .val (.int (0 : Int32))] [(.ref b5), (.ref b22)])) rfl (by rw [hml]; rfl) (Steps.refl _) (argsL := [(.ref b5)]) (rest := []) (lenOf pd_rm0_1 rfl) rfl (by show 2 * 0 + _ ≤ _; exact Nat.le_of_eq rfl) (hb hby at_179) (fun _ _ => ⟨rfl, hE34, (by decide : 2 + 0 ≤ _), (by decide : 4 + 0 ≤ _)⟩)
            dsimp only [Pt.U, Pt.locs, Pt.cells, Pt.slots] at X35 l35 y35 z35 st35 hQ35
            subst l35 y35 z35
            obtain ⟨rfl, N35q, hE35⟩ := hQ35
            have N35 := Fr.app N34 N35q
            have pre36 : ∀ tt, Steps p.tables e below (T35.setTop (mkF m 192 #[.val (.int p1), .val (.int p2), .val (.int p3), .val (.int p4), .val (.int p5), .val (.int p3), .val (.int p4), .val (.ref b5), .val (.int (p5 &&& (3 : Int32))), .val (.ref b22), .val (.int (0 : Int32))] [(.int (1 : Int32))])) tt → Steps p.tables e below (s₁.setTop (entryFrame m #[(.int p1), (.int p2), (.int p3), (.int p4), (.int p5)] maxLocals)) tt := by
              intro tt kt
              refine pre24 tt ?_
              show Steps p.tables e below (T23.setTop (mkF m 147 #[.val (.int p1), .val (.int p2), .val (.int p3), .val (.int p4), .val (.int p5), .val (.int p3), .val (.int p4), .val (.ref b5), .val (.int (p5 &&& (3 : Int32))), .val (.ref b22), .unset] [(.int p3), (.int p1)])) _
              refine XS.icmpYes X23.here hx rfl (pc0 := 147) (pc' := 160) rfl (hb hby at_147) rfl (feq c147_25).2 (by decide) (by decide) ?_
              show Steps p.tables e below (T23.setTop (mkF m 160 #[.val (.int p1), .val (.int p2), .val (.int p3), .val (.int p4), .val (.int p5), .val (.int p3), .val (.int p4), .val (.ref b5), .val (.int (p5 &&& (3 : Int32))), .val (.ref b22), .unset] [])) _
              refine XS.iconst X23.here hx rfl (hb hby at_160) ?_
              show Steps p.tables e below (T23.setTop (mkF m 161 #[.val (.int p1), .val (.int p2), .val (.int p3), .val (.int p4), .val (.int p5), .val (.int p3), .val (.int p4), .val (.ref b5), .val (.int (p5 &&& (3 : Int32))), .val (.ref b22), .unset] [(.int (0 : Int32))])) _
              refine XS.istore X23.here hx rfl (hb hby at_161) rfl (l' := #[.val (.int p1), .val (.int p2), .val (.int p3), .val (.int p4), .val (.int p5), .val (.int p3), .val (.int p4), .val (.ref b5), .val (.int (p5 &&& (3 : Int32))), .val (.ref b22), .val (.int (0 : Int32))]) rfl ?_
              show Steps p.tables e below (T23.setTop (mkF m 163 #[.val (.int p1), .val (.int p2), .val (.int p3), .val (.int p4), .val (.int p5), .val (.int p3), .val (.int p4), .val (.ref b5), .val (.int (p5 &&& (3 : Int32))), .val (.ref b22), .val (.int (0 : Int32))] [])) _
              refine XS.aload X23.here hx rfl (hb hby at_163) rfl rfl ?_
              show Steps p.tables e below (T23.setTop (mkF m 165 #[.val (.int p1), .val (.int p2), .val (.int p3), .val (.int p4), .val (.int p5), .val (.int p3), .val (.int p4), .val (.ref b5), .val (.int (p5 &&& (3 : Int32))), .val (.ref b22), .val (.int (0 : Int32))] [(.ref b5)])) _
              refine XS.aload X23.here hx rfl (hb hby at_165) rfl rfl ?_
              show Steps p.tables e below (T23.setTop (mkF m 167 #[.val (.int p1), .val (.int p2), .val (.int p3), .val (.int p4), .val (.int p5), .val (.int p3), .val (.int p4), .val (.ref b5), .val (.int (p5 &&& (3 : Int32))), .val (.ref b22), .val (.int (0 : Int32))] [(.ref b22), (.ref b5)])) _
              refine st34.trans ?_
              show Steps p.tables e below (T34.setTop (mkF m 170 #[.val (.int p1), .val (.int p2), .val (.int p3), .val (.int p4), .val (.int p5), .val (.int p3), .val (.int p4), .val (.ref b5), .val (.int (p5 &&& (3 : Int32))), .val (.ref b22), .val (.int (0 : Int32))] [(.int (0 : Int32))])) _
              refine XS.iload X34.here hx rfl (hb hby at_170) rfl ?_
              show Steps p.tables e below (T34.setTop (mkF m 172 #[.val (.int p1), .val (.int p2), .val (.int p3), .val (.int p4), .val (.int p5), .val (.int p3), .val (.int p4), .val (.ref b5), .val (.int (p5 &&& (3 : Int32))), .val (.ref b22), .val (.int (0 : Int32))] [(.int (0 : Int32)), (.int (0 : Int32))])) _
              refine XS.icmpNo X34.here hx rfl (hb hby at_172) rfl (teq (rfl : (0 : Int32) = (0 : Int32))).2 ?_
              show Steps p.tables e below (T34.setTop (mkF m 175 #[.val (.int p1), .val (.int p2), .val (.int p3), .val (.int p4), .val (.int p5), .val (.int p3), .val (.int p4), .val (.ref b5), .val (.int (p5 &&& (3 : Int32))), .val (.ref b22), .val (.int (0 : Int32))] [])) _
              refine XS.aload X34.here hx rfl (hb hby at_175) rfl rfl ?_
              show Steps p.tables e below (T34.setTop (mkF m 177 #[.val (.int p1), .val (.int p2), .val (.int p3), .val (.int p4), .val (.int p5), .val (.int p3), .val (.int p4), .val (.ref b5), .val (.int (p5 &&& (3 : Int32))), .val (.ref b22), .val (.int (0 : Int32))] [(.ref b22)])) _
              refine XS.aload X34.here hx rfl (hb hby at_177) rfl rfl ?_
              show Steps p.tables e below (T34.setTop (mkF m 179 #[.val (.int p1), .val (.int p2), .val (.int p3), .val (.int p4), .val (.int p5), .val (.int p3), .val (.int p4), .val (.ref b5), .val (.int (p5 &&& (3 : Int32))), .val (.ref b22), .val (.int (0 : Int32))] [(.ref b5), (.ref b22)])) _
              refine st35.trans ?_
              show Steps p.tables e below (T35.setTop (mkF m 182 #[.val (.int p1), .val (.int p2), .val (.int p3), .val (.int p4), .val (.int p5), .val (.int p3), .val (.int p4), .val (.ref b5), .val (.int (p5 &&& (3 : Int32))), .val (.ref b22), .val (.int (0 : Int32))] [(.int (0 : Int32))])) _
              refine XS.iload X35.here hx rfl (hb hby at_182) rfl ?_
              show Steps p.tables e below (T35.setTop (mkF m 184 #[.val (.int p1), .val (.int p2), .val (.int p3), .val (.int p4), .val (.int p5), .val (.int p3), .val (.int p4), .val (.ref b5), .val (.int (p5 &&& (3 : Int32))), .val (.ref b22), .val (.int (0 : Int32))] [(.int (0 : Int32)), (.int (0 : Int32))])) _
              refine XS.icmpNo X35.here hx rfl (hb hby at_184) rfl (teq (rfl : (0 : Int32) = (0 : Int32))).2 ?_
              show Steps p.tables e below (T35.setTop (mkF m 187 #[.val (.int p1), .val (.int p2), .val (.int p3), .val (.int p4), .val (.int p5), .val (.int p3), .val (.int p4), .val (.ref b5), .val (.int (p5 &&& (3 : Int32))), .val (.ref b22), .val (.int (0 : Int32))] [])) _
              refine XS.iconst X35.here hx rfl (hb hby at_187) ?_
              show Steps p.tables e below (T35.setTop (mkF m 188 #[.val (.int p1), .val (.int p2), .val (.int p3), .val (.int p4), .val (.int p5), .val (.int p3), .val (.int p4), .val (.ref b5), .val (.int (p5 &&& (3 : Int32))), .val (.ref b22), .val (.int (0 : Int32))] [(.int (1 : Int32))])) _
              refine XS.goto X35.here hx rfl (pc0 := 188) (pc' := 192) rfl (hb hby at_188) (by decide) (by decide) ?_
              exact kt
            obtain ⟨fs, hr, hrun, hended, hW, hsame⟩ := X35.leave (v := some (.int (1 : Int32))) (fun h => by rw [Bd.returns] at h; cases h)
            refine ⟨_, _, pre36 _ ?_, hrun, hended, _, _, rfl, ?_, ⟨_, rfl⟩, hW, hsame.mono (by decide) (by decide)⟩
            · show Steps p.tables e below (T35.setTop (mkF m 192 #[.val (.int p1), .val (.int p2), .val (.int p3), .val (.int p4), .val (.int p5), .val (.int p3), .val (.int p4), .val (.ref b5), .val (.int (p5 &&& (3 : Int32))), .val (.ref b22), .val (.int (0 : Int32))] [(.int (1 : Int32))])) _
              exact retN X35 hx (t := .boolean) Bd.returns (by simp) (hb hby at_192) hr
            · show Q0 Z h0 n0 _ T35.heap _
              rw [hE35]
              exact ⟨rfl, N35⟩
    · obtain ⟨T37, h37, X37, e37, E37, A37, D37, -, st37⟩ := newO X0 hx hZ hown (hw _ (List.mem_of_getElem? (i := 0) rfl)) (hw _ (List.mem_of_getElem? (i := 1) rfl)) (hw _ (List.mem_of_getElem? (i := 2) rfl)) e0 (g := (mkF m 32 #[.val (.int p1), .val (.int p2), .val (.int p3), .val (.int p4), .val (.int p5), .val (.int p3), .val (.int p2), .unset, .unset, .unset, .unset] [])) rfl (hb hby at_32) (by decide) (by decide)
      obtain ⟨b37, g37⟩ : ∃ z, z = h0.size := ⟨_, rfl⟩
      rw [← g37] at A37 D37 st37
      have g_b37 : n0 ≤ b37 := Nat.le_trans Z0 (Nat.le_of_eq g37.symm)
      have sz_b37 : h0.size ≤ b37 := Nat.le_trans ((Keep.refl h0 [])).1 (Nat.le_of_eq g37.symm)
      have K37 : Keep h0 h37 [] := ((Keep.refl h0 [])).ext E37
      have F_min_b37 : Fld Z h37 b37 "com/example/keyturn/keyturn/signing/SdkRange" "min" "I" (.int (0 : Int32)) := D37 (Or.inr (hw _ (List.mem_of_getElem? (i := 10) rfl))) (ty := .int) (by decide)
      have F_max_b37 : Fld Z h37 b37 "com/example/keyturn/keyturn/signing/SdkRange" "max" "I" (.int (0 : Int32)) := D37 (Or.inr (hw _ (List.mem_of_getElem? (i := 12) rfl))) (ty := .int) (by decide)
      obtain ⟨_, _, ⟨T38, L38, k38, n38⟩, -, X38, ⟨Lc38, hQ38, l38, y38, z38⟩, st38⟩ := X37.specialBack hx (y := (⟨"com/example/keyturn/keyturn/signing/SdkRange", "<init>", "(II)V"⟩ : MethodName)) rfl hown (mvT hZ (hw _ (List.mem_of_getElem? (i := 3) rfl))) (mvT hZ (hw _ (List.mem_of_getElem? (i := 4) rfl))) (mvT hZ (hw _ (List.mem_of_getElem? (i := 5) rfl))) (by decide) (backOf (W := 1) (rmC l Z a0 hw [] b37 p1 p2 h37 n0 (Nat.le_trans Z0 E37.1) A37 F_min_b37 F_max_b37 g_b37) hZ (hw _ (List.mem_of_getElem? (i := 5) rfl)) (hw _ (List.mem_of_getElem? (i := 2) rfl)) (by decide) (by decide)) (g := (mkF m 38 #[.val (.int p1), .val (.int p2), .val (.int p3), .val (.int p4), .val (.int p5), .val (.int p3), .val (.int p2), .unset, .unset, .unset, .unset] [(.int p2), (.int p1), (.ref b37), (.ref b37)])) rfl (by rw [hml]; rfl) (Steps.refl _) (a := b37) (argsL := [(.int p1), (.int p2)]) (rest := [(.ref b37)]) (lenOf pd_rm0_0 rfl) rfl (by show 2 * 0 + _ ≤ _; exact Nat.le_of_eq rfl) (hb hby at_38) (fun _ _ => ⟨rfl, e37, (by decide : 1 + 0 ≤ _), (by decide : 2 + 0 ≤ _)⟩)
      dsimp only [Pt.U, Pt.locs, Pt.cells, Pt.slots] at X38 l38 y38 z38 st38 hQ38
      subst l38 y38 z38
      obtain ⟨rfl, N38q, K38, Ei38, Fm38, Fx38⟩ := hQ38
      have N38 := Fr.app N0 N38q
      have KK38 : Keep h0 T38.heap [] := (K37).trans K38 (allS (Or.inr sz_b37) all0)
      have pre39 : ∀ tt, Steps p.tables e below (T38.setTop (mkF m 52 #[.val (.int p1), .val (.int p2), .val (.int p3), .val (.int p4), .val (.int p5), .val (.int p3), .val (.int p2), .val (.ref b37), .val (.int (p5 &&& (3 : Int32))), .unset, .unset] [(.int (1 : Int32)), (.int (p5 &&& (3 : Int32)))])) tt → Steps p.tables e below (s₁.setTop (entryFrame m #[(.int p1), (.int p2), (.int p3), (.int p4), (.int p5)] maxLocals)) tt := by
        intro tt kt
        refine pre3 tt ?_
        show Steps p.tables e below (s₁.setTop (mkF m 22 #[.val (.int p1), .val (.int p2), .val (.int p3), .val (.int p4), .val (.int p5), .val (.int p3), .unset, .unset, .unset, .unset, .unset] [(.int ((p5 >>> ((3 : Int32) &&& 31)) &&& (1 : Int32)))])) _
        refine XS.ifNo X0.here hx rfl (hb hby at_22) rfl ((if0 _ _).trans (feq c22_4).1) ?_
        show Steps p.tables e below (s₁.setTop (mkF m 25 #[.val (.int p1), .val (.int p2), .val (.int p3), .val (.int p4), .val (.int p5), .val (.int p3), .unset, .unset, .unset, .unset, .unset] [])) _
        refine XS.iloadN X0.here hx rfl (hb hby at_25) rfl ?_
        show Steps p.tables e below (s₁.setTop (mkF m 26 #[.val (.int p1), .val (.int p2), .val (.int p3), .val (.int p4), .val (.int p5), .val (.int p3), .unset, .unset, .unset, .unset, .unset] [(.int p2)])) _
        refine XS.goto X0.here hx rfl (pc0 := 26) (pc' := 30) rfl (hb hby at_26) (by decide) (by decide) ?_
        show Steps p.tables e below (s₁.setTop (mkF m 30 #[.val (.int p1), .val (.int p2), .val (.int p3), .val (.int p4), .val (.int p5), .val (.int p3), .unset, .unset, .unset, .unset, .unset] [(.int p2)])) _
        refine XS.istore X0.here hx rfl (hb hby at_30) rfl (l' := #[.val (.int p1), .val (.int p2), .val (.int p3), .val (.int p4), .val (.int p5), .val (.int p3), .val (.int p2), .unset, .unset, .unset, .unset]) rfl ?_
        show Steps p.tables e below (s₁.setTop (mkF m 32 #[.val (.int p1), .val (.int p2), .val (.int p3), .val (.int p4), .val (.int p5), .val (.int p3), .val (.int p2), .unset, .unset, .unset, .unset] [])) _
        refine st37 _ ?_
        show Steps p.tables e below (T37.setTop (mkF m 35 #[.val (.int p1), .val (.int p2), .val (.int p3), .val (.int p4), .val (.int p5), .val (.int p3), .val (.int p2), .unset, .unset, .unset, .unset] [(.ref b37)])) _
        refine XS.dup X37.here hx rfl (hb hby at_35) rfl rfl ?_
        show Steps p.tables e below (T37.setTop (mkF m 36 #[.val (.int p1), .val (.int p2), .val (.int p3), .val (.int p4), .val (.int p5), .val (.int p3), .val (.int p2), .unset, .unset, .unset, .unset] [(.ref b37), (.ref b37)])) _
        refine XS.iloadN X37.here hx rfl (hb hby at_36) rfl ?_
        show Steps p.tables e below (T37.setTop (mkF m 37 #[.val (.int p1), .val (.int p2), .val (.int p3), .val (.int p4), .val (.int p5), .val (.int p3), .val (.int p2), .unset, .unset, .unset, .unset] [(.int p1), (.ref b37), (.ref b37)])) _
        refine XS.iloadN X37.here hx rfl (hb hby at_37) rfl ?_
        show Steps p.tables e below (T37.setTop (mkF m 38 #[.val (.int p1), .val (.int p2), .val (.int p3), .val (.int p4), .val (.int p5), .val (.int p3), .val (.int p2), .unset, .unset, .unset, .unset] [(.int p2), (.int p1), (.ref b37), (.ref b37)])) _
        refine st38.trans ?_
        show Steps p.tables e below (T38.setTop (mkF m 41 #[.val (.int p1), .val (.int p2), .val (.int p3), .val (.int p4), .val (.int p5), .val (.int p3), .val (.int p2), .unset, .unset, .unset, .unset] [(.ref b37)])) _
        refine XS.astore X38.here hx rfl (hb hby at_41) rfl rfl (l' := #[.val (.int p1), .val (.int p2), .val (.int p3), .val (.int p4), .val (.int p5), .val (.int p3), .val (.int p2), .val (.ref b37), .unset, .unset, .unset]) rfl ?_
        show Steps p.tables e below (T38.setTop (mkF m 43 #[.val (.int p1), .val (.int p2), .val (.int p3), .val (.int p4), .val (.int p5), .val (.int p3), .val (.int p2), .val (.ref b37), .unset, .unset, .unset] [])) _
        refine XS.iload X38.here hx rfl (hb hby at_43) rfl ?_
        show Steps p.tables e below (T38.setTop (mkF m 45 #[.val (.int p1), .val (.int p2), .val (.int p3), .val (.int p4), .val (.int p5), .val (.int p3), .val (.int p2), .val (.ref b37), .unset, .unset, .unset] [(.int p5)])) _
        refine XS.iconst X38.here hx rfl (hb hby at_45) ?_
        show Steps p.tables e below (T38.setTop (mkF m 46 #[.val (.int p1), .val (.int p2), .val (.int p3), .val (.int p4), .val (.int p5), .val (.int p3), .val (.int p2), .val (.ref b37), .unset, .unset, .unset] [(.int (3 : Int32)), (.int p5)])) _
        refine XS.iand X38.here hx rfl (hb hby at_46) rfl ?_
        show Steps p.tables e below (T38.setTop (mkF m 47 #[.val (.int p1), .val (.int p2), .val (.int p3), .val (.int p4), .val (.int p5), .val (.int p3), .val (.int p2), .val (.ref b37), .unset, .unset, .unset] [(.int (p5 &&& (3 : Int32)))])) _
        refine XS.istore X38.here hx rfl (hb hby at_47) rfl (l' := #[.val (.int p1), .val (.int p2), .val (.int p3), .val (.int p4), .val (.int p5), .val (.int p3), .val (.int p2), .val (.ref b37), .val (.int (p5 &&& (3 : Int32))), .unset, .unset]) rfl ?_
        show Steps p.tables e below (T38.setTop (mkF m 49 #[.val (.int p1), .val (.int p2), .val (.int p3), .val (.int p4), .val (.int p5), .val (.int p3), .val (.int p2), .val (.ref b37), .val (.int (p5 &&& (3 : Int32))), .unset, .unset] [])) _
        refine XS.iload X38.here hx rfl (hb hby at_49) rfl ?_
        show Steps p.tables e below (T38.setTop (mkF m 51 #[.val (.int p1), .val (.int p2), .val (.int p3), .val (.int p4), .val (.int p5), .val (.int p3), .val (.int p2), .val (.ref b37), .val (.int (p5 &&& (3 : Int32))), .unset, .unset] [(.int (p5 &&& (3 : Int32)))])) _
        refine XS.iconst X38.here hx rfl (hb hby at_51) ?_
        exact kt
      by_cases c52_40 : (p5 &&& (3 : Int32)) = (1 : Int32)
      · obtain ⟨cq41, kq41, q41a, q41b, q41c⟩ := isOf hZ rfl Ei38
        obtain ⟨_, _, ⟨T41, L41, k41, n41⟩, -, X41, ⟨Lc41, hQ41, l41, y41, z41⟩, st41⟩ := X38.virtualBack hx (y := (⟨"com/example/keyturn/keyturn/signing/SdkRange", "equals", "(Ljava/lang/Object;)Z"⟩ : MethodName)) (z := (⟨"com/example/keyturn/keyturn/signing/SdkRange", "equals", "(Ljava/lang/Object;)Z"⟩ : MethodName)) hown (mvT hZ (hw _ (List.mem_of_getElem? (i := 13) rfl))) (mvT hZ (hw _ (List.mem_of_getElem? (i := 14) rfl))) (notFace_of_selects (args := #[]) (mvT hZ (hw _ (List.mem_of_getElem? (i := 16) rfl)))) (mvT hZ (hw _ (List.mem_of_getElem? (i := 16) rfl))) (mvT hZ (hw _ (List.mem_of_getElem? (i := 15) rfl))) (by decide) (backOf (W := 0) (rmEN l Z a0 hw [] b37 T38.heap n0 (Nat.le_trans (Nat.le_trans Z0 E37.1) K38.1)) hZ (hw _ (List.mem_of_getElem? (i := 17) rfl)) (hw _ (List.mem_of_getElem? (i := 2) rfl)) (by decide) (by decide)) q41a q41c (g := (mkF m 58 #[.val (.int p1), .val (.int p2), .val (.int p3), .val (.int p4), .val (.int p5), .val (.int p3), .val (.int p2), .val (.ref b37), .val (.int (p5 &&& (3 : Int32))), .unset, .unset] [.null, (.ref b37)])) rfl (by rw [hml]; rfl) (Steps.refl _) (argsL := [.null]) (rest := []) (lenOf pd_rm0_1 rfl) rfl (by show 2 * 0 + _ ≤ _; exact Nat.le_of_eq rfl) (hb hby at_58) (fun _ _ => ⟨rfl, rfl, (by decide : 1 + 0 ≤ _), (by decide : 2 + 0 ≤ _)⟩)
        dsimp only [Pt.U, Pt.locs, Pt.cells, Pt.slots] at X41 l41 y41 z41 st41 hQ41
        subst l41 y41 z41
        obtain ⟨rfl, N41q, hE41⟩ := hQ41
        have N41 := Fr.app N38 N41q
        obtain ⟨cq42, kq42, q42a, q42b, q42c⟩ := isOf hZ hE41 Ei38
        obtain ⟨_, _, ⟨T42, L42, k42, n42⟩, -, X42, ⟨Lc42, hQ42, l42, y42, z42⟩, st42⟩ := X41.virtualBack hx (y := (⟨"com/example/keyturn/keyturn/signing/SdkRange", "equals", "(Ljava/lang/Object;)Z"⟩ : MethodName)) (z := (⟨"com/example/keyturn/keyturn/signing/SdkRange", "equals", "(Ljava/lang/Object;)Z"⟩ : MethodName)) hown (mvT hZ (hw _ (List.mem_of_getElem? (i := 13) rfl))) (mvT hZ (hw _ (List.mem_of_getElem? (i := 14) rfl))) (notFace_of_selects (args := #[]) (mvT hZ (hw _ (List.mem_of_getElem? (i := 16) rfl)))) (mvT hZ (hw _ (List.mem_of_getElem? (i := 16) rfl))) (mvT hZ (hw _ (List.mem_of_getElem? (i := 15) rfl))) (by decide) (backOf (W := 0) (rmE l Z a0 hw [] b37 b37 p1 p2 p1 p2 (1 : Int32) T38.heap n0 (Nat.le_trans (Nat.le_trans Z0 E37.1) K38.1) Ei38 Fm38 Fx38 Fm38 Fx38 (by rw [if_pos (rfl : p1 = p1), if_pos (rfl : p2 = p2)])) hZ (hw _ (List.mem_of_getElem? (i := 17) rfl)) (hw _ (List.mem_of_getElem? (i := 2) rfl)) (by decide) (by decide)) q42a q42c (g := (mkF m 68 #[.val (.int p1), .val (.int p2), .val (.int p3), .val (.int p4), .val (.int p5), .val (.int p3), .val (.int p2), .val (.ref b37), .val (.int (p5 &&& (3 : Int32))), .unset, .unset] [(.ref b37), (.ref b37)])) rfl (by rw [hml]; rfl) (Steps.refl _) (argsL := [(.ref b37)]) (rest := []) (lenOf pd_rm0_1 rfl) rfl (by show 2 * 0 + _ ≤ _; exact Nat.le_of_eq rfl) (hb hby at_68) (fun _ _ => ⟨rfl, hE41, (by decide : 1 + 0 ≤ _), (by decide : 2 + 0 ≤ _)⟩)
        dsimp only [Pt.U, Pt.locs, Pt.cells, Pt.slots] at X42 l42 y42 z42 st42 hQ42
        subst l42 y42 z42
        obtain ⟨rfl, N42q, hE42⟩ := hQ42
        have N42 := Fr.app N41 N42q
        have pre43 : ∀ tt, Steps p.tables e below (T42.setTop (mkF m 79 #[.val (.int p1), .val (.int p2), .val (.int p3), .val (.int p4), .val (.int p5), .val (.int p3), .val (.int p2), .val (.ref b37), .val (.int (p5 &&& (3 : Int32))), .unset, .unset] [(.int (1 : Int32))])) tt → Steps p.tables e below (s₁.setTop (entryFrame m #[(.int p1), (.int p2), (.int p3), (.int p4), (.int p5)] maxLocals)) tt := by
          intro tt kt
          refine pre39 tt ?_
          show Steps p.tables e below (T38.setTop (mkF m 52 #[.val (.int p1), .val (.int p2), .val (.int p3), .val (.int p4), .val (.int p5), .val (.int p3), .val (.int p2), .val (.ref b37), .val (.int (p5 &&& (3 : Int32))), .unset, .unset] [(.int (1 : Int32)), (.int (p5 &&& (3 : Int32)))])) _
          refine XS.icmpNo X38.here hx rfl (hb hby at_52) rfl (teq c52_40).2 ?_
          show Steps p.tables e below (T38.setTop (mkF m 55 #[.val (.int p1), .val (.int p2), .val (.int p3), .val (.int p4), .val (.int p5), .val (.int p3), .val (.int p2), .val (.ref b37), .val (.int (p5 &&& (3 : Int32))), .unset, .unset] [])) _
          refine XS.aload X38.here hx rfl (hb hby at_55) rfl rfl ?_
          show Steps p.tables e below (T38.setTop (mkF m 57 #[.val (.int p1), .val (.int p2), .val (.int p3), .val (.int p4), .val (.int p5), .val (.int p3), .val (.int p2), .val (.ref b37), .val (.int (p5 &&& (3 : Int32))), .unset, .unset] [(.ref b37)])) _
          refine XS.aconstNull X38.here hx rfl (hb hby at_57) ?_
          show Steps p.tables e below (T38.setTop (mkF m 58 #[.val (.int p1), .val (.int p2), .val (.int p3), .val (.int p4), .val (.int p5), .val (.int p3), .val (.int p2), .val (.ref b37), .val (.int (p5 &&& (3 : Int32))), .unset, .unset] [.null, (.ref b37)])) _
          refine st41.trans ?_
          show Steps p.tables e below (T41.setTop (mkF m 61 #[.val (.int p1), .val (.int p2), .val (.int p3), .val (.int p4), .val (.int p5), .val (.int p3), .val (.int p2), .val (.ref b37), .val (.int (p5 &&& (3 : Int32))), .unset, .unset] [(.int (0 : Int32))])) _
          refine XS.ifNo X41.here hx rfl (hb hby at_61) rfl ((if0 _ _).trans (teq (rfl : (0 : Int32) = (0 : Int32))).2) ?_
          show Steps p.tables e below (T41.setTop (mkF m 64 #[.val (.int p1), .val (.int p2), .val (.int p3), .val (.int p4), .val (.int p5), .val (.int p3), .val (.int p2), .val (.ref b37), .val (.int (p5 &&& (3 : Int32))), .unset, .unset] [])) _
          refine XS.aload X41.here hx rfl (hb hby at_64) rfl rfl ?_
          show Steps p.tables e below (T41.setTop (mkF m 66 #[.val (.int p1), .val (.int p2), .val (.int p3), .val (.int p4), .val (.int p5), .val (.int p3), .val (.int p2), .val (.ref b37), .val (.int (p5 &&& (3 : Int32))), .unset, .unset] [(.ref b37)])) _
          refine XS.aload X41.here hx rfl (hb hby at_66) rfl rfl ?_
          show Steps p.tables e below (T41.setTop (mkF m 68 #[.val (.int p1), .val (.int p2), .val (.int p3), .val (.int p4), .val (.int p5), .val (.int p3), .val (.int p2), .val (.ref b37), .val (.int (p5 &&& (3 : Int32))), .unset, .unset] [(.ref b37), (.ref b37)])) _
          refine st42.trans ?_
          show Steps p.tables e below (T42.setTop (mkF m 71 #[.val (.int p1), .val (.int p2), .val (.int p3), .val (.int p4), .val (.int p5), .val (.int p3), .val (.int p2), .val (.ref b37), .val (.int (p5 &&& (3 : Int32))), .unset, .unset] [(.int (1 : Int32))])) _
          refine XS.ifNo X42.here hx rfl (hb hby at_71) rfl ((if0 _ _).trans (feq (by decide : ¬ ((1 : Int32) = (0 : Int32)))).1) ?_
          show Steps p.tables e below (T42.setTop (mkF m 74 #[.val (.int p1), .val (.int p2), .val (.int p3), .val (.int p4), .val (.int p5), .val (.int p3), .val (.int p2), .val (.ref b37), .val (.int (p5 &&& (3 : Int32))), .unset, .unset] [])) _
          refine XS.iconst X42.here hx rfl (hb hby at_74) ?_
          show Steps p.tables e below (T42.setTop (mkF m 75 #[.val (.int p1), .val (.int p2), .val (.int p3), .val (.int p4), .val (.int p5), .val (.int p3), .val (.int p2), .val (.ref b37), .val (.int (p5 &&& (3 : Int32))), .unset, .unset] [(.int (1 : Int32))])) _
          refine XS.goto X42.here hx rfl (pc0 := 75) (pc' := 79) rfl (hb hby at_75) (by decide) (by decide) ?_
          exact kt
        obtain ⟨fs, hr, hrun, hended, hW, hsame⟩ := X42.leave (v := some (.int (1 : Int32))) (fun h => by rw [Bd.returns] at h; cases h)
        refine ⟨_, _, pre43 _ ?_, hrun, hended, _, _, rfl, ?_, ⟨_, rfl⟩, hW, hsame.mono (by decide) (by decide)⟩
        · show Steps p.tables e below (T42.setTop (mkF m 79 #[.val (.int p1), .val (.int p2), .val (.int p3), .val (.int p4), .val (.int p5), .val (.int p3), .val (.int p2), .val (.ref b37), .val (.int (p5 &&& (3 : Int32))), .unset, .unset] [(.int (1 : Int32))])) _
          exact retN X42 hx (t := .boolean) Bd.returns (by simp) (hb hby at_79) hr
        · show Q0 Z h0 n0 _ T42.heap _
          rw [hE42]
          exact ⟨rfl, N42⟩
      · have pre44 : ∀ tt, Steps p.tables e below (T38.setTop (mkF m 83 #[.val (.int p1), .val (.int p2), .val (.int p3), .val (.int p4), .val (.int p5), .val (.int p3), .val (.int p2), .val (.ref b37), .val (.int (p5 &&& (3 : Int32))), .unset, .unset] [(.int (2 : Int32)), (.int (p5 &&& (3 : Int32)))])) tt → Steps p.tables e below (s₁.setTop (entryFrame m #[(.int p1), (.int p2), (.int p3), (.int p4), (.int p5)] maxLocals)) tt := by
          intro tt kt
          refine pre39 tt ?_
          show Steps p.tables e below (T38.setTop (mkF m 52 #[.val (.int p1), .val (.int p2), .val (.int p3), .val (.int p4), .val (.int p5), .val (.int p3), .val (.int p2), .val (.ref b37), .val (.int (p5 &&& (3 : Int32))), .unset, .unset] [(.int (1 : Int32)), (.int (p5 &&& (3 : Int32)))])) _
          refine XS.icmpYes X38.here hx rfl (pc0 := 52) (pc' := 80) rfl (hb hby at_52) rfl (feq c52_40).2 (by decide) (by decide) ?_
          show Steps p.tables e below (T38.setTop (mkF m 80 #[.val (.int p1), .val (.int p2), .val (.int p3), .val (.int p4), .val (.int p5), .val (.int p3), .val (.int p2), .val (.ref b37), .val (.int (p5 &&& (3 : Int32))), .unset, .unset] [])) _
          refine XS.iload X38.here hx rfl (hb hby at_80) rfl ?_
          show Steps p.tables e below (T38.setTop (mkF m 82 #[.val (.int p1), .val (.int p2), .val (.int p3), .val (.int p4), .val (.int p5), .val (.int p3), .val (.int p2), .val (.ref b37), .val (.int (p5 &&& (3 : Int32))), .unset, .unset] [(.int (p5 &&& (3 : Int32)))])) _
          refine XS.iconst X38.here hx rfl (hb hby at_82) ?_
          exact kt
        by_cases c83_45 : (p5 &&& (3 : Int32)) = (2 : Int32)
        · have pre46 : ∀ tt, Steps p.tables e below (T38.setTop (mkF m 92 #[.val (.int p1), .val (.int p2), .val (.int p3), .val (.int p4), .val (.int p5), .val (.int p3), .val (.int p2), .val (.ref b37), .val (.int (p5 &&& (3 : Int32))), .unset, .unset] [(.int ((p5 >>> ((4 : Int32) &&& 31)) &&& (1 : Int32)))])) tt → Steps p.tables e below (s₁.setTop (entryFrame m #[(.int p1), (.int p2), (.int p3), (.int p4), (.int p5)] maxLocals)) tt := by
            intro tt kt
            refine pre44 tt ?_
            show Steps p.tables e below (T38.setTop (mkF m 83 #[.val (.int p1), .val (.int p2), .val (.int p3), .val (.int p4), .val (.int p5), .val (.int p3), .val (.int p2), .val (.ref b37), .val (.int (p5 &&& (3 : Int32))), .unset, .unset] [(.int (2 : Int32)), (.int (p5 &&& (3 : Int32)))])) _
            refine XS.icmpNo X38.here hx rfl (hb hby at_83) rfl (teq c83_45).2 ?_
            show Steps p.tables e below (T38.setTop (mkF m 86 #[.val (.int p1), .val (.int p2), .val (.int p3), .val (.int p4), .val (.int p5), .val (.int p3), .val (.int p2), .val (.ref b37), .val (.int (p5 &&& (3 : Int32))), .unset, .unset] [])) _
            refine XS.iload X38.here hx rfl (hb hby at_86) rfl ?_
            show Steps p.tables e below (T38.setTop (mkF m 88 #[.val (.int p1), .val (.int p2), .val (.int p3), .val (.int p4), .val (.int p5), .val (.int p3), .val (.int p2), .val (.ref b37), .val (.int (p5 &&& (3 : Int32))), .unset, .unset] [(.int p5)])) _
            refine XS.iconst X38.here hx rfl (hb hby at_88) ?_
            show Steps p.tables e below (T38.setTop (mkF m 89 #[.val (.int p1), .val (.int p2), .val (.int p3), .val (.int p4), .val (.int p5), .val (.int p3), .val (.int p2), .val (.ref b37), .val (.int (p5 &&& (3 : Int32))), .unset, .unset] [(.int (4 : Int32)), (.int p5)])) _
            refine XS.ishr X38.here hx rfl (hb hby at_89) rfl ?_
            show Steps p.tables e below (T38.setTop (mkF m 90 #[.val (.int p1), .val (.int p2), .val (.int p3), .val (.int p4), .val (.int p5), .val (.int p3), .val (.int p2), .val (.ref b37), .val (.int (p5 &&& (3 : Int32))), .unset, .unset] [(.int (p5 >>> ((4 : Int32) &&& 31)))])) _
            refine XS.iconst X38.here hx rfl (hb hby at_90) ?_
            show Steps p.tables e below (T38.setTop (mkF m 91 #[.val (.int p1), .val (.int p2), .val (.int p3), .val (.int p4), .val (.int p5), .val (.int p3), .val (.int p2), .val (.ref b37), .val (.int (p5 &&& (3 : Int32))), .unset, .unset] [(.int (1 : Int32)), (.int (p5 >>> ((4 : Int32) &&& 31)))])) _
            refine XS.iand X38.here hx rfl (hb hby at_91) rfl ?_
            exact kt
          by_cases c92_47 : ((p5 >>> ((4 : Int32) &&& 31)) &&& (1 : Int32)) = (0 : Int32)
          · obtain ⟨_, _, ⟨T48, L48, k48, n48⟩, -, X48, ⟨Lc48, hQ48, l48, y48, z48⟩, st48⟩ := Jvm.LawKit.callS X38 hx (y := (⟨"java/lang/Integer", "valueOf", "(I)Ljava/lang/Integer;"⟩ : MethodName)) hown (mvT hZ (hw _ (List.mem_of_getElem? (i := 20) rfl))) (mvT hZ (hw _ (List.mem_of_getElem? (i := 21) rfl))) (mvT hZ (hw _ (List.mem_of_getElem? (i := 22) rfl))) (mvT hZ (hw _ (List.mem_of_getElem? (i := 23) rfl))) (by decide) (backOf (W := 0) (rmVO l Z a0 hw [] p1 wC T38.heap n0 (Nat.le_trans (Nat.le_trans Z0 E37.1) K38.1) (own_staK (Sta.ext E37 S_high) K38 (allS ⟨_, A37⟩ all0)) (own_staK (Sta.ext E37 S_cache) K38 (allS ⟨_, A37⟩ all0)) (own_ICkeep (own_ICkeep I_C ((Keep.refl _ []).ext E37) nin0) K38 (ninS (own_wCne I_C sz_b37) nin0))) hZ (hw _ (List.mem_of_getElem? (i := 23) rfl)) (hw _ (List.mem_of_getElem? (i := 22) rfl)) (by decide) (by decide)) (g := (mkF m 110 #[.val (.int p1), .val (.int p2), .val (.int p3), .val (.int p4), .val (.int p5), .val (.int p3), .val (.int p2), .val (.ref b37), .val (.int (p5 &&& (3 : Int32))), .unset, .unset] [(.int p1)])) rfl (by rw [hml]; rfl) (argsL := [(.int p1)]) (rest := []) (lenOf pd_rm0_2 rfl) rfl (by show 2 * 0 + _ ≤ _; exact Nat.le_of_eq rfl) (hb hby at_110) (fun _ _ => ⟨rfl, rfl, (by decide : 1 + 1 ≤ _), (by decide : 2 + 1 ≤ _)⟩)
            dsimp only [Pt.U, Pt.locs, Pt.cells, Pt.slots] at X48 l48 y48 z48 st48 hQ48
            subst l48 y48 z48
            obtain ⟨bo48, rfl, N48q, K48, Eo48⟩ := hQ48
            have N48 := Fr.app N38 N48q
            obtain ⟨cq49, kq49, q49a, q49b, q49c⟩ := isOf hZ rfl (Ei38.keep K48)
            obtain ⟨_, _, ⟨T49, L49, k49, n49⟩, -, X49, ⟨Lc49, hQ49, l49, y49, z49⟩, st49⟩ := X48.virtualBack hx (y := (⟨"com/example/keyturn/keyturn/signing/SdkRange", "equals", "(Ljava/lang/Object;)Z"⟩ : MethodName)) (z := (⟨"com/example/keyturn/keyturn/signing/SdkRange", "equals", "(Ljava/lang/Object;)Z"⟩ : MethodName)) hown (mvT hZ (hw _ (List.mem_of_getElem? (i := 13) rfl))) (mvT hZ (hw _ (List.mem_of_getElem? (i := 14) rfl))) (notFace_of_selects (args := #[]) (mvT hZ (hw _ (List.mem_of_getElem? (i := 16) rfl)))) (mvT hZ (hw _ (List.mem_of_getElem? (i := 16) rfl))) (mvT hZ (hw _ (List.mem_of_getElem? (i := 15) rfl))) (by decide) (backOf (W := 0) (rmEX l Z a0 hw [] b37 bo48 "java/lang/Integer" T48.heap n0 (Nat.le_trans (Nat.le_trans (Nat.le_trans Z0 E37.1) K38.1) K48.1) Eo48 (own_noI hw)) hZ (hw _ (List.mem_of_getElem? (i := 17) rfl)) (hw _ (List.mem_of_getElem? (i := 2) rfl)) (by decide) (by decide)) q49a q49c (g := (mkF m 119 #[.val (.int p1), .val (.int p2), .val (.int p3), .val (.int p4), .val (.int p5), .val (.int p3), .val (.int p2), .val (.ref b37), .val (.int (p5 &&& (3 : Int32))), .val (.ref bo48), .unset] [(.ref bo48), (.ref b37)])) rfl (by rw [hml]; rfl) (Steps.refl _) (argsL := [(.ref bo48)]) (rest := []) (lenOf pd_rm0_1 rfl) rfl (by show 2 * 0 + _ ≤ _; exact Nat.le_of_eq rfl) (hb hby at_119) (fun _ _ => ⟨rfl, rfl, (by decide : 2 + 0 ≤ _), (by decide : 3 + 0 ≤ _)⟩)
            dsimp only [Pt.U, Pt.locs, Pt.cells, Pt.slots] at X49 l49 y49 z49 st49 hQ49
            subst l49 y49 z49
            obtain ⟨rfl, N49q, hE49⟩ := hQ49
            have N49 := Fr.app N48 N49q
            have pre50 : ∀ tt, Steps p.tables e below (T49.setTop (mkF m 130 #[.val (.int p1), .val (.int p2), .val (.int p3), .val (.int p4), .val (.int p5), .val (.int p3), .val (.int p2), .val (.ref b37), .val (.int (p5 &&& (3 : Int32))), .val (.ref bo48), .unset] [(.int (1 : Int32))])) tt → Steps p.tables e below (s₁.setTop (entryFrame m #[(.int p1), (.int p2), (.int p3), (.int p4), (.int p5)] maxLocals)) tt := by
              intro tt kt
              refine pre46 tt ?_
              show Steps p.tables e below (T38.setTop (mkF m 92 #[.val (.int p1), .val (.int p2), .val (.int p3), .val (.int p4), .val (.int p5), .val (.int p3), .val (.int p2), .val (.ref b37), .val (.int (p5 &&& (3 : Int32))), .unset, .unset] [(.int ((p5 >>> ((4 : Int32) &&& 31)) &&& (1 : Int32)))])) _
              refine XS.ifYes X38.here hx rfl (pc0 := 92) (pc' := 109) rfl (hb hby at_92) rfl ((if0 _ _).trans (teq c92_47).1) (by decide) (by decide) ?_
              show Steps p.tables e below (T38.setTop (mkF m 109 #[.val (.int p1), .val (.int p2), .val (.int p3), .val (.int p4), .val (.int p5), .val (.int p3), .val (.int p2), .val (.ref b37), .val (.int (p5 &&& (3 : Int32))), .unset, .unset] [])) _
              refine XS.iloadN X38.here hx rfl (hb hby at_109) rfl ?_
              show Steps p.tables e below (T38.setTop (mkF m 110 #[.val (.int p1), .val (.int p2), .val (.int p3), .val (.int p4), .val (.int p5), .val (.int p3), .val (.int p2), .val (.ref b37), .val (.int (p5 &&& (3 : Int32))), .unset, .unset] [(.int p1)])) _
              refine st48 _ ?_
              show Steps p.tables e below (T48.setTop (mkF m 113 #[.val (.int p1), .val (.int p2), .val (.int p3), .val (.int p4), .val (.int p5), .val (.int p3), .val (.int p2), .val (.ref b37), .val (.int (p5 &&& (3 : Int32))), .unset, .unset] [(.ref bo48)])) _
              refine XS.astore X48.here hx rfl (hb hby at_113) rfl rfl (l' := #[.val (.int p1), .val (.int p2), .val (.int p3), .val (.int p4), .val (.int p5), .val (.int p3), .val (.int p2), .val (.ref b37), .val (.int (p5 &&& (3 : Int32))), .val (.ref bo48), .unset]) rfl ?_
              show Steps p.tables e below (T48.setTop (mkF m 115 #[.val (.int p1), .val (.int p2), .val (.int p3), .val (.int p4), .val (.int p5), .val (.int p3), .val (.int p2), .val (.ref b37), .val (.int (p5 &&& (3 : Int32))), .val (.ref bo48), .unset] [])) _
              refine XS.aload X48.here hx rfl (hb hby at_115) rfl rfl ?_
              show Steps p.tables e below (T48.setTop (mkF m 117 #[.val (.int p1), .val (.int p2), .val (.int p3), .val (.int p4), .val (.int p5), .val (.int p3), .val (.int p2), .val (.ref b37), .val (.int (p5 &&& (3 : Int32))), .val (.ref bo48), .unset] [(.ref b37)])) _
              refine XS.aload X48.here hx rfl (hb hby at_117) rfl rfl ?_
              show Steps p.tables e below (T48.setTop (mkF m 119 #[.val (.int p1), .val (.int p2), .val (.int p3), .val (.int p4), .val (.int p5), .val (.int p3), .val (.int p2), .val (.ref b37), .val (.int (p5 &&& (3 : Int32))), .val (.ref bo48), .unset] [(.ref bo48), (.ref b37)])) _
              refine st49.trans ?_
              show Steps p.tables e below (T49.setTop (mkF m 122 #[.val (.int p1), .val (.int p2), .val (.int p3), .val (.int p4), .val (.int p5), .val (.int p3), .val (.int p2), .val (.ref b37), .val (.int (p5 &&& (3 : Int32))), .val (.ref bo48), .unset] [(.int (0 : Int32))])) _
              refine XS.ifNo X49.here hx rfl (hb hby at_122) rfl ((if0 _ _).trans (teq (rfl : (0 : Int32) = (0 : Int32))).2) ?_
              show Steps p.tables e below (T49.setTop (mkF m 125 #[.val (.int p1), .val (.int p2), .val (.int p3), .val (.int p4), .val (.int p5), .val (.int p3), .val (.int p2), .val (.ref b37), .val (.int (p5 &&& (3 : Int32))), .val (.ref bo48), .unset] [])) _
              refine XS.iconst X49.here hx rfl (hb hby at_125) ?_
              show Steps p.tables e below (T49.setTop (mkF m 126 #[.val (.int p1), .val (.int p2), .val (.int p3), .val (.int p4), .val (.int p5), .val (.int p3), .val (.int p2), .val (.ref b37), .val (.int (p5 &&& (3 : Int32))), .val (.ref bo48), .unset] [(.int (1 : Int32))])) _
              refine XS.goto X49.here hx rfl (pc0 := 126) (pc' := 130) rfl (hb hby at_126) (by decide) (by decide) ?_
              exact kt
            obtain ⟨fs, hr, hrun, hended, hW, hsame⟩ := X49.leave (v := some (.int (1 : Int32))) (fun h => by rw [Bd.returns] at h; cases h)
            refine ⟨_, _, pre50 _ ?_, hrun, hended, _, _, rfl, ?_, ⟨_, rfl⟩, hW, hsame.mono (by decide) (by decide)⟩
            · show Steps p.tables e below (T49.setTop (mkF m 130 #[.val (.int p1), .val (.int p2), .val (.int p3), .val (.int p4), .val (.int p5), .val (.int p3), .val (.int p2), .val (.ref b37), .val (.int (p5 &&& (3 : Int32))), .val (.ref bo48), .unset] [(.int (1 : Int32))])) _
              exact retN X49 hx (t := .boolean) Bd.returns (by simp) (hb hby at_130) hr
            · show Q0 Z h0 n0 _ T49.heap _
              rw [hE49]
              exact ⟨rfl, N49⟩
          · have hp51 := own_c255 p3
            obtain ⟨_, _, ⟨T51, L51, k51, n51⟩, -, X51, ⟨Lc51, hQ51, l51, y51, z51⟩, st51⟩ := Jvm.LawKit.callS X38 hx (y := (⟨"java/lang/String", "valueOf", "(C)Ljava/lang/String;"⟩ : MethodName)) hown (mvT hZ (hw _ (List.mem_of_getElem? (i := 45) rfl))) (mvT hZ (hw _ (List.mem_of_getElem? (i := 46) rfl))) (mvT hZ (hw _ (List.mem_of_getElem? (i := 47) rfl))) (mvT hZ (hw _ (List.mem_of_getElem? (i := 48) rfl))) (by decide) (backOf (W := 0) (rmVC l Z a0 hw [] ((p3 &&& (255 : Int32)).toUInt32.toUInt16.toUInt32.toInt32) cs T38.heap n0 (Nat.le_trans (Nat.le_trans Z0 E37.1) K38.1) (own_staK (Sta.ext E37 S_cs) K38 (allS ⟨_, A37⟩ all0)) hcs hp51) hZ (hw _ (List.mem_of_getElem? (i := 48) rfl)) (hw _ (List.mem_of_getElem? (i := 47) rfl)) (by decide) (by decide)) (g := (mkF m 101 #[.val (.int p1), .val (.int p2), .val (.int p3), .val (.int p4), .val (.int p5), .val (.int p3), .val (.int p2), .val (.ref b37), .val (.int (p5 &&& (3 : Int32))), .unset, .unset] [(.int ((p3 &&& (255 : Int32)).toUInt32.toUInt16.toUInt32.toInt32))])) rfl (by rw [hml]; rfl) (argsL := [(.int ((p3 &&& (255 : Int32)).toUInt32.toUInt16.toUInt32.toInt32))]) (rest := []) (lenOf pd_rm0_3 rfl) rfl (by show 2 * 0 + _ ≤ _; exact Nat.le_of_eq rfl) (hb hby at_101) (fun _ _ => ⟨rfl, rfl, (by decide : 1 + 2 ≤ _), (by decide : 2 + 5 ≤ _)⟩)
            dsimp only [Pt.U, Pt.locs, Pt.cells, Pt.slots] at X51 l51 y51 z51 st51 hQ51
            subst l51 y51 z51
            obtain ⟨bo51, rfl, N51q, K51, Eo51⟩ := hQ51
            have N51 := Fr.app N38 N51q
            obtain ⟨cq52, kq52, q52a, q52b, q52c⟩ := isOf hZ rfl (Ei38.keep K51)
            obtain ⟨_, _, ⟨T52, L52, k52, n52⟩, -, X52, ⟨Lc52, hQ52, l52, y52, z52⟩, st52⟩ := X51.virtualBack hx (y := (⟨"com/example/keyturn/keyturn/signing/SdkRange", "equals", "(Ljava/lang/Object;)Z"⟩ : MethodName)) (z := (⟨"com/example/keyturn/keyturn/signing/SdkRange", "equals", "(Ljava/lang/Object;)Z"⟩ : MethodName)) hown (mvT hZ (hw _ (List.mem_of_getElem? (i := 13) rfl))) (mvT hZ (hw _ (List.mem_of_getElem? (i := 14) rfl))) (notFace_of_selects (args := #[]) (mvT hZ (hw _ (List.mem_of_getElem? (i := 16) rfl)))) (mvT hZ (hw _ (List.mem_of_getElem? (i := 16) rfl))) (mvT hZ (hw _ (List.mem_of_getElem? (i := 15) rfl))) (by decide) (backOf (W := 0) (rmEX l Z a0 hw [] b37 bo51 "java/lang/String" T51.heap n0 (Nat.le_trans (Nat.le_trans (Nat.le_trans Z0 E37.1) K38.1) K51.1) Eo51 (own_noS hw)) hZ (hw _ (List.mem_of_getElem? (i := 17) rfl)) (hw _ (List.mem_of_getElem? (i := 2) rfl)) (by decide) (by decide)) q52a q52c (g := (mkF m 119 #[.val (.int p1), .val (.int p2), .val (.int p3), .val (.int p4), .val (.int p5), .val (.int p3), .val (.int p2), .val (.ref b37), .val (.int (p5 &&& (3 : Int32))), .val (.ref bo51), .unset] [(.ref bo51), (.ref b37)])) rfl (by rw [hml]; rfl) (Steps.refl _) (argsL := [(.ref bo51)]) (rest := []) (lenOf pd_rm0_1 rfl) rfl (by show 2 * 0 + _ ≤ _; exact Nat.le_of_eq rfl) (hb hby at_119) (fun _ _ => ⟨rfl, rfl, (by decide : 3 + 0 ≤ _), (by decide : 7 + 0 ≤ _)⟩)
            dsimp only [Pt.U, Pt.locs, Pt.cells, Pt.slots] at X52 l52 y52 z52 st52 hQ52
            subst l52 y52 z52
            obtain ⟨rfl, N52q, hE52⟩ := hQ52
            have N52 := Fr.app N51 N52q
            have pre53 : ∀ tt, Steps p.tables e below (T52.setTop (mkF m 130 #[.val (.int p1), .val (.int p2), .val (.int p3), .val (.int p4), .val (.int p5), .val (.int p3), .val (.int p2), .val (.ref b37), .val (.int (p5 &&& (3 : Int32))), .val (.ref bo51), .unset] [(.int (1 : Int32))])) tt → Steps p.tables e below (s₁.setTop (entryFrame m #[(.int p1), (.int p2), (.int p3), (.int p4), (.int p5)] maxLocals)) tt := by
              intro tt kt
              refine pre46 tt ?_
              show Steps p.tables e below (T38.setTop (mkF m 92 #[.val (.int p1), .val (.int p2), .val (.int p3), .val (.int p4), .val (.int p5), .val (.int p3), .val (.int p2), .val (.ref b37), .val (.int (p5 &&& (3 : Int32))), .unset, .unset] [(.int ((p5 >>> ((4 : Int32) &&& 31)) &&& (1 : Int32)))])) _
              refine XS.ifNo X38.here hx rfl (hb hby at_92) rfl ((if0 _ _).trans (feq c92_47).1) ?_
              show Steps p.tables e below (T38.setTop (mkF m 95 #[.val (.int p1), .val (.int p2), .val (.int p3), .val (.int p4), .val (.int p5), .val (.int p3), .val (.int p2), .val (.ref b37), .val (.int (p5 &&& (3 : Int32))), .unset, .unset] [])) _
              refine XS.iloadN X38.here hx rfl (hb hby at_95) rfl ?_
              show Steps p.tables e below (T38.setTop (mkF m 96 #[.val (.int p1), .val (.int p2), .val (.int p3), .val (.int p4), .val (.int p5), .val (.int p3), .val (.int p2), .val (.ref b37), .val (.int (p5 &&& (3 : Int32))), .unset, .unset] [(.int p3)])) _
              refine XS.sipush X38.here hx rfl (hb hby at_96) ?_
              show Steps p.tables e below (T38.setTop (mkF m 99 #[.val (.int p1), .val (.int p2), .val (.int p3), .val (.int p4), .val (.int p5), .val (.int p3), .val (.int p2), .val (.ref b37), .val (.int (p5 &&& (3 : Int32))), .unset, .unset] [(.int (255 : Int32)), (.int p3)])) _
              refine XS.iand X38.here hx rfl (hb hby at_99) rfl ?_
              show Steps p.tables e below (T38.setTop (mkF m 100 #[.val (.int p1), .val (.int p2), .val (.int p3), .val (.int p4), .val (.int p5), .val (.int p3), .val (.int p2), .val (.ref b37), .val (.int (p5 &&& (3 : Int32))), .unset, .unset] [(.int (p3 &&& (255 : Int32)))])) _
              refine XS.i2c X38.here hx rfl (hb hby at_100) rfl ?_
              show Steps p.tables e below (T38.setTop (mkF m 101 #[.val (.int p1), .val (.int p2), .val (.int p3), .val (.int p4), .val (.int p5), .val (.int p3), .val (.int p2), .val (.ref b37), .val (.int (p5 &&& (3 : Int32))), .unset, .unset] [(.int ((p3 &&& (255 : Int32)).toUInt32.toUInt16.toUInt32.toInt32))])) _
              refine st51 _ ?_
              show Steps p.tables e below (T51.setTop (mkF m 104 #[.val (.int p1), .val (.int p2), .val (.int p3), .val (.int p4), .val (.int p5), .val (.int p3), .val (.int p2), .val (.ref b37), .val (.int (p5 &&& (3 : Int32))), .unset, .unset] [(.ref bo51)])) _
              refine XS.astore X51.here hx rfl (hb hby at_104) rfl rfl (l' := #[.val (.int p1), .val (.int p2), .val (.int p3), .val (.int p4), .val (.int p5), .val (.int p3), .val (.int p2), .val (.ref b37), .val (.int (p5 &&& (3 : Int32))), .val (.ref bo51), .unset]) rfl ?_
              show Steps p.tables e below (T51.setTop (mkF m 106 #[.val (.int p1), .val (.int p2), .val (.int p3), .val (.int p4), .val (.int p5), .val (.int p3), .val (.int p2), .val (.ref b37), .val (.int (p5 &&& (3 : Int32))), .val (.ref bo51), .unset] [])) _
              refine XS.goto X51.here hx rfl (pc0 := 106) (pc' := 115) rfl (hb hby at_106) (by decide) (by decide) ?_
              show Steps p.tables e below (T51.setTop (mkF m 115 #[.val (.int p1), .val (.int p2), .val (.int p3), .val (.int p4), .val (.int p5), .val (.int p3), .val (.int p2), .val (.ref b37), .val (.int (p5 &&& (3 : Int32))), .val (.ref bo51), .unset] [])) _
              refine XS.aload X51.here hx rfl (hb hby at_115) rfl rfl ?_
              show Steps p.tables e below (T51.setTop (mkF m 117 #[.val (.int p1), .val (.int p2), .val (.int p3), .val (.int p4), .val (.int p5), .val (.int p3), .val (.int p2), .val (.ref b37), .val (.int (p5 &&& (3 : Int32))), .val (.ref bo51), .unset] [(.ref b37)])) _
              refine XS.aload X51.here hx rfl (hb hby at_117) rfl rfl ?_
              show Steps p.tables e below (T51.setTop (mkF m 119 #[.val (.int p1), .val (.int p2), .val (.int p3), .val (.int p4), .val (.int p5), .val (.int p3), .val (.int p2), .val (.ref b37), .val (.int (p5 &&& (3 : Int32))), .val (.ref bo51), .unset] [(.ref bo51), (.ref b37)])) _
              refine st52.trans ?_
              show Steps p.tables e below (T52.setTop (mkF m 122 #[.val (.int p1), .val (.int p2), .val (.int p3), .val (.int p4), .val (.int p5), .val (.int p3), .val (.int p2), .val (.ref b37), .val (.int (p5 &&& (3 : Int32))), .val (.ref bo51), .unset] [(.int (0 : Int32))])) _
              refine XS.ifNo X52.here hx rfl (hb hby at_122) rfl ((if0 _ _).trans (teq (rfl : (0 : Int32) = (0 : Int32))).2) ?_
              show Steps p.tables e below (T52.setTop (mkF m 125 #[.val (.int p1), .val (.int p2), .val (.int p3), .val (.int p4), .val (.int p5), .val (.int p3), .val (.int p2), .val (.ref b37), .val (.int (p5 &&& (3 : Int32))), .val (.ref bo51), .unset] [])) _
              refine XS.iconst X52.here hx rfl (hb hby at_125) ?_
              show Steps p.tables e below (T52.setTop (mkF m 126 #[.val (.int p1), .val (.int p2), .val (.int p3), .val (.int p4), .val (.int p5), .val (.int p3), .val (.int p2), .val (.ref b37), .val (.int (p5 &&& (3 : Int32))), .val (.ref bo51), .unset] [(.int (1 : Int32))])) _
              refine XS.goto X52.here hx rfl (pc0 := 126) (pc' := 130) rfl (hb hby at_126) (by decide) (by decide) ?_
              exact kt
            obtain ⟨fs, hr, hrun, hended, hW, hsame⟩ := X52.leave (v := some (.int (1 : Int32))) (fun h => by rw [Bd.returns] at h; cases h)
            refine ⟨_, _, pre53 _ ?_, hrun, hended, _, _, rfl, ?_, ⟨_, rfl⟩, hW, hsame.mono (by decide) (by decide)⟩
            · show Steps p.tables e below (T52.setTop (mkF m 130 #[.val (.int p1), .val (.int p2), .val (.int p3), .val (.int p4), .val (.int p5), .val (.int p3), .val (.int p2), .val (.ref b37), .val (.int (p5 &&& (3 : Int32))), .val (.ref bo51), .unset] [(.int (1 : Int32))])) _
              exact retN X52 hx (t := .boolean) Bd.returns (by simp) (hb hby at_130) hr
            · show Q0 Z h0 n0 _ T52.heap _
              rw [hE52]
              exact ⟨rfl, N52⟩
        · obtain ⟨T54, h54, X54, e54, E54, A54, D54, -, st54⟩ := newO X38 hx hZ hown (hw _ (List.mem_of_getElem? (i := 0) rfl)) (hw _ (List.mem_of_getElem? (i := 1) rfl)) (hw _ (List.mem_of_getElem? (i := 2) rfl)) rfl (g := (mkF m 131 #[.val (.int p1), .val (.int p2), .val (.int p3), .val (.int p4), .val (.int p5), .val (.int p3), .val (.int p2), .val (.ref b37), .val (.int (p5 &&& (3 : Int32))), .unset, .unset] [])) rfl (hb hby at_131) (by decide) (by decide)
          obtain ⟨b54, g54⟩ : ∃ z, z = T38.heap.size := ⟨_, rfl⟩
          rw [← g54] at A54 D54 st54
          have g_b54 : n0 ≤ b54 := Nat.le_trans (Nat.le_trans (Nat.le_trans Z0 E37.1) K38.1) (Nat.le_of_eq g54.symm)
          have sz_b54 : h0.size ≤ b54 := Nat.le_trans (KK38).1 (Nat.le_of_eq g54.symm)
          have K54 : Keep h0 h54 [] := (KK38).ext E54
          have F_min_b54 : Fld Z h54 b54 "com/example/keyturn/keyturn/signing/SdkRange" "min" "I" (.int (0 : Int32)) := D54 (Or.inr (hw _ (List.mem_of_getElem? (i := 10) rfl))) (ty := .int) (by decide)
          have F_max_b54 : Fld Z h54 b54 "com/example/keyturn/keyturn/signing/SdkRange" "max" "I" (.int (0 : Int32)) := D54 (Or.inr (hw _ (List.mem_of_getElem? (i := 12) rfl))) (ty := .int) (by decide)
          obtain ⟨_, _, ⟨T55, L55, k55, n55⟩, -, X55, ⟨Lc55, hQ55, l55, y55, z55⟩, st55⟩ := X54.specialBack hx (y := (⟨"com/example/keyturn/keyturn/signing/SdkRange", "<init>", "(II)V"⟩ : MethodName)) rfl hown (mvT hZ (hw _ (List.mem_of_getElem? (i := 3) rfl))) (mvT hZ (hw _ (List.mem_of_getElem? (i := 4) rfl))) (mvT hZ (hw _ (List.mem_of_getElem? (i := 5) rfl))) (by decide) (backOf (W := 1) (rmC l Z a0 hw [] b54 p3 p2 h54 n0 (Nat.le_trans (Nat.le_trans (Nat.le_trans Z0 E37.1) K38.1) E54.1) A54 F_min_b54 F_max_b54 g_b54) hZ (hw _ (List.mem_of_getElem? (i := 5) rfl)) (hw _ (List.mem_of_getElem? (i := 2) rfl)) (by decide) (by decide)) (g := (mkF m 139 #[.val (.int p1), .val (.int p2), .val (.int p3), .val (.int p4), .val (.int p5), .val (.int p3), .val (.int p2), .val (.ref b37), .val (.int (p5 &&& (3 : Int32))), .unset, .unset] [(.int p2), (.int p3), (.ref b54), (.ref b54)])) rfl (by rw [hml]; rfl) (Steps.refl _) (a := b54) (argsL := [(.int p3), (.int p2)]) (rest := [(.ref b54)]) (lenOf pd_rm0_0 rfl) rfl (by show 2 * 0 + _ ≤ _; exact Nat.le_of_eq rfl) (hb hby at_139) (fun _ _ => ⟨rfl, e54, (by decide : 2 + 0 ≤ _), (by decide : 4 + 0 ≤ _)⟩)
          dsimp only [Pt.U, Pt.locs, Pt.cells, Pt.slots] at X55 l55 y55 z55 st55 hQ55
          subst l55 y55 z55
          obtain ⟨rfl, N55q, K55, Ei55, Fm55, Fx55⟩ := hQ55
          have N55 := Fr.app N38 N55q
          have KK55 : Keep h0 T55.heap [] := (K54).trans K55 (allS (Or.inr sz_b54) all0)
          have pre56 : ∀ tt, Steps p.tables e below (T55.setTop (mkF m 147 #[.val (.int p1), .val (.int p2), .val (.int p3), .val (.int p4), .val (.int p5), .val (.int p3), .val (.int p2), .val (.ref b37), .val (.int (p5 &&& (3 : Int32))), .val (.ref b54), .unset] [(.int p3), (.int p1)])) tt → Steps p.tables e below (s₁.setTop (entryFrame m #[(.int p1), (.int p2), (.int p3), (.int p4), (.int p5)] maxLocals)) tt := by
            intro tt kt
            refine pre44 tt ?_
            show Steps p.tables e below (T38.setTop (mkF m 83 #[.val (.int p1), .val (.int p2), .val (.int p3), .val (.int p4), .val (.int p5), .val (.int p3), .val (.int p2), .val (.ref b37), .val (.int (p5 &&& (3 : Int32))), .unset, .unset] [(.int (2 : Int32)), (.int (p5 &&& (3 : Int32)))])) _
            refine XS.icmpYes X38.here hx rfl (pc0 := 83) (pc' := 131) rfl (hb hby at_83) rfl (feq c83_45).2 (by decide) (by decide) ?_
            show Steps p.tables e below (T38.setTop (mkF m 131 #[.val (.int p1), .val (.int p2), .val (.int p3), .val (.int p4), .val (.int p5), .val (.int p3), .val (.int p2), .val (.ref b37), .val (.int (p5 &&& (3 : Int32))), .unset, .unset] [])) _
            refine st54 _ ?_
            show Steps p.tables e below (T54.setTop (mkF m 134 #[.val (.int p1), .val (.int p2), .val (.int p3), .val (.int p4), .val (.int p5), .val (.int p3), .val (.int p2), .val (.ref b37), .val (.int (p5 &&& (3 : Int32))), .unset, .unset] [(.ref b54)])) _
            refine XS.dup X54.here hx rfl (hb hby at_134) rfl rfl ?_
            show Steps p.tables e below (T54.setTop (mkF m 135 #[.val (.int p1), .val (.int p2), .val (.int p3), .val (.int p4), .val (.int p5), .val (.int p3), .val (.int p2), .val (.ref b37), .val (.int (p5 &&& (3 : Int32))), .unset, .unset] [(.ref b54), (.ref b54)])) _
            refine XS.iload X54.here hx rfl (hb hby at_135) rfl ?_
            show Steps p.tables e below (T54.setTop (mkF m 137 #[.val (.int p1), .val (.int p2), .val (.int p3), .val (.int p4), .val (.int p5), .val (.int p3), .val (.int p2), .val (.ref b37), .val (.int (p5 &&& (3 : Int32))), .unset, .unset] [(.int p3), (.ref b54), (.ref b54)])) _
            refine XS.iload X54.here hx rfl (hb hby at_137) rfl ?_
            show Steps p.tables e below (T54.setTop (mkF m 139 #[.val (.int p1), .val (.int p2), .val (.int p3), .val (.int p4), .val (.int p5), .val (.int p3), .val (.int p2), .val (.ref b37), .val (.int (p5 &&& (3 : Int32))), .unset, .unset] [(.int p2), (.int p3), (.ref b54), (.ref b54)])) _
            refine st55.trans ?_
            show Steps p.tables e below (T55.setTop (mkF m 142 #[.val (.int p1), .val (.int p2), .val (.int p3), .val (.int p4), .val (.int p5), .val (.int p3), .val (.int p2), .val (.ref b37), .val (.int (p5 &&& (3 : Int32))), .unset, .unset] [(.ref b54)])) _
            refine XS.astore X55.here hx rfl (hb hby at_142) rfl rfl (l' := #[.val (.int p1), .val (.int p2), .val (.int p3), .val (.int p4), .val (.int p5), .val (.int p3), .val (.int p2), .val (.ref b37), .val (.int (p5 &&& (3 : Int32))), .val (.ref b54), .unset]) rfl ?_
            show Steps p.tables e below (T55.setTop (mkF m 144 #[.val (.int p1), .val (.int p2), .val (.int p3), .val (.int p4), .val (.int p5), .val (.int p3), .val (.int p2), .val (.ref b37), .val (.int (p5 &&& (3 : Int32))), .val (.ref b54), .unset] [])) _
            refine XS.iloadN X55.here hx rfl (hb hby at_144) rfl ?_
            show Steps p.tables e below (T55.setTop (mkF m 145 #[.val (.int p1), .val (.int p2), .val (.int p3), .val (.int p4), .val (.int p5), .val (.int p3), .val (.int p2), .val (.ref b37), .val (.int (p5 &&& (3 : Int32))), .val (.ref b54), .unset] [(.int p1)])) _
            refine XS.iload X55.here hx rfl (hb hby at_145) rfl ?_
            exact kt
          by_cases c147_57 : p1 = p3
          · obtain ⟨cq58, kq58, q58a, q58b, q58c⟩ := isOf hZ rfl ((Exa.ext E54 Ei38).keep K55)
            obtain ⟨_, _, ⟨T58, L58, k58, n58⟩, -, X58, ⟨Lc58, hQ58, l58, y58, z58⟩, st58⟩ := X55.virtualBack hx (y := (⟨"com/example/keyturn/keyturn/signing/SdkRange", "equals", "(Ljava/lang/Object;)Z"⟩ : MethodName)) (z := (⟨"com/example/keyturn/keyturn/signing/SdkRange", "equals", "(Ljava/lang/Object;)Z"⟩ : MethodName)) hown (mvT hZ (hw _ (List.mem_of_getElem? (i := 13) rfl))) (mvT hZ (hw _ (List.mem_of_getElem? (i := 14) rfl))) (notFace_of_selects (args := #[]) (mvT hZ (hw _ (List.mem_of_getElem? (i := 16) rfl)))) (mvT hZ (hw _ (List.mem_of_getElem? (i := 16) rfl))) (mvT hZ (hw _ (List.mem_of_getElem? (i := 15) rfl))) (by decide) (backOf (W := 0) (rmE l Z a0 hw [] b37 b54 p1 p2 p3 p2 (1 : Int32) T55.heap n0 (Nat.le_trans (Nat.le_trans (Nat.le_trans (Nat.le_trans Z0 E37.1) K38.1) E54.1) K55.1) Ei55 ((Fld.ext E54 Fm38).keep K55 (ninS (Nat.ne_of_lt (Nat.lt_of_lt_of_le (Ei38).lt (Nat.le_of_eq g54.symm))) nin0)) ((Fld.ext E54 Fx38).keep K55 (ninS (Nat.ne_of_lt (Nat.lt_of_lt_of_le (Ei38).lt (Nat.le_of_eq g54.symm))) nin0)) Fm55 Fx55 (by rw [if_pos c147_57, if_pos (rfl : p2 = p2)])) hZ (hw _ (List.mem_of_getElem? (i := 17) rfl)) (hw _ (List.mem_of_getElem? (i := 2) rfl)) (by decide) (by decide)) q58a q58c (g := (mkF m 167 #[.val (.int p1), .val (.int p2), .val (.int p3), .val (.int p4), .val (.int p5), .val (.int p3), .val (.int p2), .val (.ref b37), .val (.int (p5 &&& (3 : Int32))), .val (.ref b54), .val (.int (1 : Int32))] [(.ref b54), (.ref b37)])) rfl (by rw [hml]; rfl) (Steps.refl _) (argsL := [(.ref b54)]) (rest := []) (lenOf pd_rm0_1 rfl) rfl (by show 2 * 0 + _ ≤ _; exact Nat.le_of_eq rfl) (hb hby at_167) (fun _ _ => ⟨rfl, rfl, (by decide : 2 + 0 ≤ _), (by decide : 4 + 0 ≤ _)⟩)
            dsimp only [Pt.U, Pt.locs, Pt.cells, Pt.slots] at X58 l58 y58 z58 st58 hQ58
            subst l58 y58 z58
            obtain ⟨rfl, N58q, hE58⟩ := hQ58
            have N58 := Fr.app N55 N58q
            obtain ⟨cq59, kq59, q59a, q59b, q59c⟩ := isOf hZ hE58 Ei55
            obtain ⟨_, _, ⟨T59, L59, k59, n59⟩, -, X59, ⟨Lc59, hQ59, l59, y59, z59⟩, st59⟩ := X58.virtualBack hx (y := (⟨"com/example/keyturn/keyturn/signing/SdkRange", "equals", "(Ljava/lang/Object;)Z"⟩ : MethodName)) (z := (⟨"com/example/keyturn/keyturn/signing/SdkRange", "equals", "(Ljava/lang/Object;)Z"⟩ : MethodName)) hown (mvT hZ (hw _ (List.mem_of_getElem? (i := 13) rfl))) (mvT hZ (hw _ (List.mem_of_getElem? (i := 14) rfl))) (notFace_of_selects (args := #[]) (mvT hZ (hw _ (List.mem_of_getElem? (i := 16) rfl)))) (mvT hZ (hw _ (List.mem_of_getElem? (i := 16) rfl))) (mvT hZ (hw _ (List.mem_of_getElem? (i := 15) rfl))) (by decide) (backOf (W := 0) (rmE l Z a0 hw [] b54 b37 p3 p2 p1 p2 (1 : Int32) T55.heap n0 (Nat.le_trans (Nat.le_trans (Nat.le_trans (Nat.le_trans Z0 E37.1) K38.1) E54.1) K55.1) ((Exa.ext E54 Ei38).keep K55) Fm55 Fx55 ((Fld.ext E54 Fm38).keep K55 (ninS (Nat.ne_of_lt (Nat.lt_of_lt_of_le (Ei38).lt (Nat.le_of_eq g54.symm))) nin0)) ((Fld.ext E54 Fx38).keep K55 (ninS (Nat.ne_of_lt (Nat.lt_of_lt_of_le (Ei38).lt (Nat.le_of_eq g54.symm))) nin0)) (by rw [if_pos (c147_57).symm, if_pos (rfl : p2 = p2)])) hZ (hw _ (List.mem_of_getElem? (i := 17) rfl)) (hw _ (List.mem_of_getElem? (i := 2) rfl)) (by decide) (by decide)) q59a q59c (g := (mkF m 179 #[.val (.int p1), .val (.int p2), .val (.int p3), .val (.int p4), .val (.int p5), .val (.int p3), .val (.int p2), .val (.ref b37), .val (.int (p5 &&& (3 : Int32))), .val (.ref b54), .val (.int (1 : Int32))] [(.ref b37), (.ref b54)])) rfl (by rw [hml]; rfl) (Steps.refl _) (argsL := [(.ref b37)]) (rest := []) (lenOf pd_rm0_1 rfl) rfl (by show 2 * 0 + _ ≤ _; exact Nat.le_of_eq rfl) (hb hby at_179) (fun _ _ => ⟨rfl, hE58, (by decide : 2 + 0 ≤ _), (by decide : 4 + 0 ≤ _)⟩)
            dsimp only [Pt.U, Pt.locs, Pt.cells, Pt.slots] at X59 l59 y59 z59 st59 hQ59
            subst l59 y59 z59
            obtain ⟨rfl, N59q, hE59⟩ := hQ59
            have N59 := Fr.app N58 N59q
            have pre60 : ∀ tt, Steps p.tables e below (T59.setTop (mkF m 192 #[.val (.int p1), .val (.int p2), .val (.int p3), .val (.int p4), .val (.int p5), .val (.int p3), .val (.int p2), .val (.ref b37), .val (.int (p5 &&& (3 : Int32))), .val (.ref b54), .val (.int (1 : Int32))] [(.int (1 : Int32))])) tt → Steps p.tables e below (s₁.setTop (entryFrame m #[(.int p1), (.int p2), (.int p3), (.int p4), (.int p5)] maxLocals)) tt := by
              intro tt kt
              refine pre56 tt ?_
              show Steps p.tables e below (T55.setTop (mkF m 147 #[.val (.int p1), .val (.int p2), .val (.int p3), .val (.int p4), .val (.int p5), .val (.int p3), .val (.int p2), .val (.ref b37), .val (.int (p5 &&& (3 : Int32))), .val (.ref b54), .unset] [(.int p3), (.int p1)])) _
              refine XS.icmpNo X55.here hx rfl (hb hby at_147) rfl (teq c147_57).2 ?_
              show Steps p.tables e below (T55.setTop (mkF m 150 #[.val (.int p1), .val (.int p2), .val (.int p3), .val (.int p4), .val (.int p5), .val (.int p3), .val (.int p2), .val (.ref b37), .val (.int (p5 &&& (3 : Int32))), .val (.ref b54), .unset] [])) _
              refine XS.iloadN X55.here hx rfl (hb hby at_150) rfl ?_
              show Steps p.tables e below (T55.setTop (mkF m 151 #[.val (.int p1), .val (.int p2), .val (.int p3), .val (.int p4), .val (.int p5), .val (.int p3), .val (.int p2), .val (.ref b37), .val (.int (p5 &&& (3 : Int32))), .val (.ref b54), .unset] [(.int p2)])) _
              refine XS.iload X55.here hx rfl (hb hby at_151) rfl ?_
              show Steps p.tables e below (T55.setTop (mkF m 153 #[.val (.int p1), .val (.int p2), .val (.int p3), .val (.int p4), .val (.int p5), .val (.int p3), .val (.int p2), .val (.ref b37), .val (.int (p5 &&& (3 : Int32))), .val (.ref b54), .unset] [(.int p2), (.int p2)])) _
              refine XS.icmpNo X55.here hx rfl (hb hby at_153) rfl (teq (rfl : p2 = p2)).2 ?_
              show Steps p.tables e below (T55.setTop (mkF m 156 #[.val (.int p1), .val (.int p2), .val (.int p3), .val (.int p4), .val (.int p5), .val (.int p3), .val (.int p2), .val (.ref b37), .val (.int (p5 &&& (3 : Int32))), .val (.ref b54), .unset] [])) _
              refine XS.iconst X55.here hx rfl (hb hby at_156) ?_
              show Steps p.tables e below (T55.setTop (mkF m 157 #[.val (.int p1), .val (.int p2), .val (.int p3), .val (.int p4), .val (.int p5), .val (.int p3), .val (.int p2), .val (.ref b37), .val (.int (p5 &&& (3 : Int32))), .val (.ref b54), .unset] [(.int (1 : Int32))])) _
              refine XS.goto X55.here hx rfl (pc0 := 157) (pc' := 161) rfl (hb hby at_157) (by decide) (by decide) ?_
              show Steps p.tables e below (T55.setTop (mkF m 161 #[.val (.int p1), .val (.int p2), .val (.int p3), .val (.int p4), .val (.int p5), .val (.int p3), .val (.int p2), .val (.ref b37), .val (.int (p5 &&& (3 : Int32))), .val (.ref b54), .unset] [(.int (1 : Int32))])) _
              refine XS.istore X55.here hx rfl (hb hby at_161) rfl (l' := #[.val (.int p1), .val (.int p2), .val (.int p3), .val (.int p4), .val (.int p5), .val (.int p3), .val (.int p2), .val (.ref b37), .val (.int (p5 &&& (3 : Int32))), .val (.ref b54), .val (.int (1 : Int32))]) rfl ?_
              show Steps p.tables e below (T55.setTop (mkF m 163 #[.val (.int p1), .val (.int p2), .val (.int p3), .val (.int p4), .val (.int p5), .val (.int p3), .val (.int p2), .val (.ref b37), .val (.int (p5 &&& (3 : Int32))), .val (.ref b54), .val (.int (1 : Int32))] [])) _
              refine XS.aload X55.here hx rfl (hb hby at_163) rfl rfl ?_
              show Steps p.tables e below (T55.setTop (mkF m 165 #[.val (.int p1), .val (.int p2), .val (.int p3), .val (.int p4), .val (.int p5), .val (.int p3), .val (.int p2), .val (.ref b37), .val (.int (p5 &&& (3 : Int32))), .val (.ref b54), .val (.int (1 : Int32))] [(.ref b37)])) _
              refine XS.aload X55.here hx rfl (hb hby at_165) rfl rfl ?_
              show Steps p.tables e below (T55.setTop (mkF m 167 #[.val (.int p1), .val (.int p2), .val (.int p3), .val (.int p4), .val (.int p5), .val (.int p3), .val (.int p2), .val (.ref b37), .val (.int (p5 &&& (3 : Int32))), .val (.ref b54), .val (.int (1 : Int32))] [(.ref b54), (.ref b37)])) _
              refine st58.trans ?_
              show Steps p.tables e below (T58.setTop (mkF m 170 #[.val (.int p1), .val (.int p2), .val (.int p3), .val (.int p4), .val (.int p5), .val (.int p3), .val (.int p2), .val (.ref b37), .val (.int (p5 &&& (3 : Int32))), .val (.ref b54), .val (.int (1 : Int32))] [(.int (1 : Int32))])) _
              refine XS.iload X58.here hx rfl (hb hby at_170) rfl ?_
              show Steps p.tables e below (T58.setTop (mkF m 172 #[.val (.int p1), .val (.int p2), .val (.int p3), .val (.int p4), .val (.int p5), .val (.int p3), .val (.int p2), .val (.ref b37), .val (.int (p5 &&& (3 : Int32))), .val (.ref b54), .val (.int (1 : Int32))] [(.int (1 : Int32)), (.int (1 : Int32))])) _
              refine XS.icmpNo X58.here hx rfl (hb hby at_172) rfl (teq (rfl : (1 : Int32) = (1 : Int32))).2 ?_
              show Steps p.tables e below (T58.setTop (mkF m 175 #[.val (.int p1), .val (.int p2), .val (.int p3), .val (.int p4), .val (.int p5), .val (.int p3), .val (.int p2), .val (.ref b37), .val (.int (p5 &&& (3 : Int32))), .val (.ref b54), .val (.int (1 : Int32))] [])) _
              refine XS.aload X58.here hx rfl (hb hby at_175) rfl rfl ?_
              show Steps p.tables e below (T58.setTop (mkF m 177 #[.val (.int p1), .val (.int p2), .val (.int p3), .val (.int p4), .val (.int p5), .val (.int p3), .val (.int p2), .val (.ref b37), .val (.int (p5 &&& (3 : Int32))), .val (.ref b54), .val (.int (1 : Int32))] [(.ref b54)])) _
              refine XS.aload X58.here hx rfl (hb hby at_177) rfl rfl ?_
              show Steps p.tables e below (T58.setTop (mkF m 179 #[.val (.int p1), .val (.int p2), .val (.int p3), .val (.int p4), .val (.int p5), .val (.int p3), .val (.int p2), .val (.ref b37), .val (.int (p5 &&& (3 : Int32))), .val (.ref b54), .val (.int (1 : Int32))] [(.ref b37), (.ref b54)])) _
              refine st59.trans ?_
              show Steps p.tables e below (T59.setTop (mkF m 182 #[.val (.int p1), .val (.int p2), .val (.int p3), .val (.int p4), .val (.int p5), .val (.int p3), .val (.int p2), .val (.ref b37), .val (.int (p5 &&& (3 : Int32))), .val (.ref b54), .val (.int (1 : Int32))] [(.int (1 : Int32))])) _
              refine XS.iload X59.here hx rfl (hb hby at_182) rfl ?_
              show Steps p.tables e below (T59.setTop (mkF m 184 #[.val (.int p1), .val (.int p2), .val (.int p3), .val (.int p4), .val (.int p5), .val (.int p3), .val (.int p2), .val (.ref b37), .val (.int (p5 &&& (3 : Int32))), .val (.ref b54), .val (.int (1 : Int32))] [(.int (1 : Int32)), (.int (1 : Int32))])) _
              refine XS.icmpNo X59.here hx rfl (hb hby at_184) rfl (teq (rfl : (1 : Int32) = (1 : Int32))).2 ?_
              show Steps p.tables e below (T59.setTop (mkF m 187 #[.val (.int p1), .val (.int p2), .val (.int p3), .val (.int p4), .val (.int p5), .val (.int p3), .val (.int p2), .val (.ref b37), .val (.int (p5 &&& (3 : Int32))), .val (.ref b54), .val (.int (1 : Int32))] [])) _
              refine XS.iconst X59.here hx rfl (hb hby at_187) ?_
              show Steps p.tables e below (T59.setTop (mkF m 188 #[.val (.int p1), .val (.int p2), .val (.int p3), .val (.int p4), .val (.int p5), .val (.int p3), .val (.int p2), .val (.ref b37), .val (.int (p5 &&& (3 : Int32))), .val (.ref b54), .val (.int (1 : Int32))] [(.int (1 : Int32))])) _
              refine XS.goto X59.here hx rfl (pc0 := 188) (pc' := 192) rfl (hb hby at_188) (by decide) (by decide) ?_
              exact kt
            obtain ⟨fs, hr, hrun, hended, hW, hsame⟩ := X59.leave (v := some (.int (1 : Int32))) (fun h => by rw [Bd.returns] at h; cases h)
            refine ⟨_, _, pre60 _ ?_, hrun, hended, _, _, rfl, ?_, ⟨_, rfl⟩, hW, hsame.mono (by decide) (by decide)⟩
            · show Steps p.tables e below (T59.setTop (mkF m 192 #[.val (.int p1), .val (.int p2), .val (.int p3), .val (.int p4), .val (.int p5), .val (.int p3), .val (.int p2), .val (.ref b37), .val (.int (p5 &&& (3 : Int32))), .val (.ref b54), .val (.int (1 : Int32))] [(.int (1 : Int32))])) _
              exact retN X59 hx (t := .boolean) Bd.returns (by simp) (hb hby at_192) hr
            · show Q0 Z h0 n0 _ T59.heap _
              rw [hE59]
              exact ⟨rfl, N59⟩
          · obtain ⟨cq61, kq61, q61a, q61b, q61c⟩ := isOf hZ rfl ((Exa.ext E54 Ei38).keep K55)
            obtain ⟨_, _, ⟨T61, L61, k61, n61⟩, -, X61, ⟨Lc61, hQ61, l61, y61, z61⟩, st61⟩ := X55.virtualBack hx (y := (⟨"com/example/keyturn/keyturn/signing/SdkRange", "equals", "(Ljava/lang/Object;)Z"⟩ : MethodName)) (z := (⟨"com/example/keyturn/keyturn/signing/SdkRange", "equals", "(Ljava/lang/Object;)Z"⟩ : MethodName)) hown (mvT hZ (hw _ (List.mem_of_getElem? (i := 13) rfl))) (mvT hZ (hw _ (List.mem_of_getElem? (i := 14) rfl))) (notFace_of_selects (args := #[]) (mvT hZ (hw _ (List.mem_of_getElem? (i := 16) rfl)))) (mvT hZ (hw _ (List.mem_of_getElem? (i := 16) rfl))) (mvT hZ (hw _ (List.mem_of_getElem? (i := 15) rfl))) (by decide) (backOf (W := 0) (rmE l Z a0 hw [] b37 b54 p1 p2 p3 p2 (0 : Int32) T55.heap n0 (Nat.le_trans (Nat.le_trans (Nat.le_trans (Nat.le_trans Z0 E37.1) K38.1) E54.1) K55.1) Ei55 ((Fld.ext E54 Fm38).keep K55 (ninS (Nat.ne_of_lt (Nat.lt_of_lt_of_le (Ei38).lt (Nat.le_of_eq g54.symm))) nin0)) ((Fld.ext E54 Fx38).keep K55 (ninS (Nat.ne_of_lt (Nat.lt_of_lt_of_le (Ei38).lt (Nat.le_of_eq g54.symm))) nin0)) Fm55 Fx55 (if_neg c147_57).symm) hZ (hw _ (List.mem_of_getElem? (i := 17) rfl)) (hw _ (List.mem_of_getElem? (i := 2) rfl)) (by decide) (by decide)) q61a q61c (g := (mkF m 167 #[.val (.int p1), .val (.int p2), .val (.int p3), .val (.int p4), .val (.int p5), .val (.int p3), .val (.int p2), .val (.ref b37), .val (.int (p5 &&& (3 : Int32))), .val (.ref b54), .val (.int (0 : Int32))] [(.ref b54), (.ref b37)])) rfl (by rw [hml]; rfl) (Steps.refl _) (argsL := [(.ref b54)]) (rest := []) (lenOf pd_rm0_1 rfl) rfl (by show 2 * 0 + _ ≤ _; exact Nat.le_of_eq rfl) (hb hby at_167) (fun _ _ => ⟨rfl, rfl, (by decide : 2 + 0 ≤ _), (by decide : 4 + 0 ≤ _)⟩)
            dsimp only [Pt.U, Pt.locs, Pt.cells, Pt.slots] at X61 l61 y61 z61 st61 hQ61
            subst l61 y61 z61
            obtain ⟨rfl, N61q, hE61⟩ := hQ61
            have N61 := Fr.app N55 N61q
            obtain ⟨cq62, kq62, q62a, q62b, q62c⟩ := isOf hZ hE61 Ei55
            obtain ⟨_, _, ⟨T62, L62, k62, n62⟩, -, X62, ⟨Lc62, hQ62, l62, y62, z62⟩, st62⟩ := X61.virtualBack hx (y := (⟨"com/example/keyturn/keyturn/signing/SdkRange", "equals", "(Ljava/lang/Object;)Z"⟩ : MethodName)) (z := (⟨"com/example/keyturn/keyturn/signing/SdkRange", "equals", "(Ljava/lang/Object;)Z"⟩ : MethodName)) hown (mvT hZ (hw _ (List.mem_of_getElem? (i := 13) rfl))) (mvT hZ (hw _ (List.mem_of_getElem? (i := 14) rfl))) (notFace_of_selects (args := #[]) (mvT hZ (hw _ (List.mem_of_getElem? (i := 16) rfl)))) (mvT hZ (hw _ (List.mem_of_getElem? (i := 16) rfl))) (mvT hZ (hw _ (List.mem_of_getElem? (i := 15) rfl))) (by decide) (backOf (W := 0) (rmE l Z a0 hw [] b54 b37 p3 p2 p1 p2 (0 : Int32) T55.heap n0 (Nat.le_trans (Nat.le_trans (Nat.le_trans (Nat.le_trans Z0 E37.1) K38.1) E54.1) K55.1) ((Exa.ext E54 Ei38).keep K55) Fm55 Fx55 ((Fld.ext E54 Fm38).keep K55 (ninS (Nat.ne_of_lt (Nat.lt_of_lt_of_le (Ei38).lt (Nat.le_of_eq g54.symm))) nin0)) ((Fld.ext E54 Fx38).keep K55 (ninS (Nat.ne_of_lt (Nat.lt_of_lt_of_le (Ei38).lt (Nat.le_of_eq g54.symm))) nin0)) (if_neg (fun q => c147_57 q.symm)).symm) hZ (hw _ (List.mem_of_getElem? (i := 17) rfl)) (hw _ (List.mem_of_getElem? (i := 2) rfl)) (by decide) (by decide)) q62a q62c (g := (mkF m 179 #[.val (.int p1), .val (.int p2), .val (.int p3), .val (.int p4), .val (.int p5), .val (.int p3), .val (.int p2), .val (.ref b37), .val (.int (p5 &&& (3 : Int32))), .val (.ref b54), .val (.int (0 : Int32))] [(.ref b37), (.ref b54)])) rfl (by rw [hml]; rfl) (Steps.refl _) (argsL := [(.ref b37)]) (rest := []) (lenOf pd_rm0_1 rfl) rfl (by show 2 * 0 + _ ≤ _; exact Nat.le_of_eq rfl) (hb hby at_179) (fun _ _ => ⟨rfl, hE61, (by decide : 2 + 0 ≤ _), (by decide : 4 + 0 ≤ _)⟩)
            dsimp only [Pt.U, Pt.locs, Pt.cells, Pt.slots] at X62 l62 y62 z62 st62 hQ62
            subst l62 y62 z62
            obtain ⟨rfl, N62q, hE62⟩ := hQ62
            have N62 := Fr.app N61 N62q
            have pre63 : ∀ tt, Steps p.tables e below (T62.setTop (mkF m 192 #[.val (.int p1), .val (.int p2), .val (.int p3), .val (.int p4), .val (.int p5), .val (.int p3), .val (.int p2), .val (.ref b37), .val (.int (p5 &&& (3 : Int32))), .val (.ref b54), .val (.int (0 : Int32))] [(.int (1 : Int32))])) tt → Steps p.tables e below (s₁.setTop (entryFrame m #[(.int p1), (.int p2), (.int p3), (.int p4), (.int p5)] maxLocals)) tt := by
              intro tt kt
              refine pre56 tt ?_
              show Steps p.tables e below (T55.setTop (mkF m 147 #[.val (.int p1), .val (.int p2), .val (.int p3), .val (.int p4), .val (.int p5), .val (.int p3), .val (.int p2), .val (.ref b37), .val (.int (p5 &&& (3 : Int32))), .val (.ref b54), .unset] [(.int p3), (.int p1)])) _
              refine XS.icmpYes X55.here hx rfl (pc0 := 147) (pc' := 160) rfl (hb hby at_147) rfl (feq c147_57).2 (by decide) (by decide) ?_
              show Steps p.tables e below (T55.setTop (mkF m 160 #[.val (.int p1), .val (.int p2), .val (.int p3), .val (.int p4), .val (.int p5), .val (.int p3), .val (.int p2), .val (.ref b37), .val (.int (p5 &&& (3 : Int32))), .val (.ref b54), .unset] [])) _
              refine XS.iconst X55.here hx rfl (hb hby at_160) ?_
              show Steps p.tables e below (T55.setTop (mkF m 161 #[.val (.int p1), .val (.int p2), .val (.int p3), .val (.int p4), .val (.int p5), .val (.int p3), .val (.int p2), .val (.ref b37), .val (.int (p5 &&& (3 : Int32))), .val (.ref b54), .unset] [(.int (0 : Int32))])) _
              refine XS.istore X55.here hx rfl (hb hby at_161) rfl (l' := #[.val (.int p1), .val (.int p2), .val (.int p3), .val (.int p4), .val (.int p5), .val (.int p3), .val (.int p2), .val (.ref b37), .val (.int (p5 &&& (3 : Int32))), .val (.ref b54), .val (.int (0 : Int32))]) rfl ?_
              show Steps p.tables e below (T55.setTop (mkF m 163 #[.val (.int p1), .val (.int p2), .val (.int p3), .val (.int p4), .val (.int p5), .val (.int p3), .val (.int p2), .val (.ref b37), .val (.int (p5 &&& (3 : Int32))), .val (.ref b54), .val (.int (0 : Int32))] [])) _
              refine XS.aload X55.here hx rfl (hb hby at_163) rfl rfl ?_
              show Steps p.tables e below (T55.setTop (mkF m 165 #[.val (.int p1), .val (.int p2), .val (.int p3), .val (.int p4), .val (.int p5), .val (.int p3), .val (.int p2), .val (.ref b37), .val (.int (p5 &&& (3 : Int32))), .val (.ref b54), .val (.int (0 : Int32))] [(.ref b37)])) _
              refine XS.aload X55.here hx rfl (hb hby at_165) rfl rfl ?_
              show Steps p.tables e below (T55.setTop (mkF m 167 #[.val (.int p1), .val (.int p2), .val (.int p3), .val (.int p4), .val (.int p5), .val (.int p3), .val (.int p2), .val (.ref b37), .val (.int (p5 &&& (3 : Int32))), .val (.ref b54), .val (.int (0 : Int32))] [(.ref b54), (.ref b37)])) _
              refine st61.trans ?_
              show Steps p.tables e below (T61.setTop (mkF m 170 #[.val (.int p1), .val (.int p2), .val (.int p3), .val (.int p4), .val (.int p5), .val (.int p3), .val (.int p2), .val (.ref b37), .val (.int (p5 &&& (3 : Int32))), .val (.ref b54), .val (.int (0 : Int32))] [(.int (0 : Int32))])) _
              refine XS.iload X61.here hx rfl (hb hby at_170) rfl ?_
              show Steps p.tables e below (T61.setTop (mkF m 172 #[.val (.int p1), .val (.int p2), .val (.int p3), .val (.int p4), .val (.int p5), .val (.int p3), .val (.int p2), .val (.ref b37), .val (.int (p5 &&& (3 : Int32))), .val (.ref b54), .val (.int (0 : Int32))] [(.int (0 : Int32)), (.int (0 : Int32))])) _
              refine XS.icmpNo X61.here hx rfl (hb hby at_172) rfl (teq (rfl : (0 : Int32) = (0 : Int32))).2 ?_
              show Steps p.tables e below (T61.setTop (mkF m 175 #[.val (.int p1), .val (.int p2), .val (.int p3), .val (.int p4), .val (.int p5), .val (.int p3), .val (.int p2), .val (.ref b37), .val (.int (p5 &&& (3 : Int32))), .val (.ref b54), .val (.int (0 : Int32))] [])) _
              refine XS.aload X61.here hx rfl (hb hby at_175) rfl rfl ?_
              show Steps p.tables e below (T61.setTop (mkF m 177 #[.val (.int p1), .val (.int p2), .val (.int p3), .val (.int p4), .val (.int p5), .val (.int p3), .val (.int p2), .val (.ref b37), .val (.int (p5 &&& (3 : Int32))), .val (.ref b54), .val (.int (0 : Int32))] [(.ref b54)])) _
              refine XS.aload X61.here hx rfl (hb hby at_177) rfl rfl ?_
              show Steps p.tables e below (T61.setTop (mkF m 179 #[.val (.int p1), .val (.int p2), .val (.int p3), .val (.int p4), .val (.int p5), .val (.int p3), .val (.int p2), .val (.ref b37), .val (.int (p5 &&& (3 : Int32))), .val (.ref b54), .val (.int (0 : Int32))] [(.ref b37), (.ref b54)])) _
              refine st62.trans ?_
              show Steps p.tables e below (T62.setTop (mkF m 182 #[.val (.int p1), .val (.int p2), .val (.int p3), .val (.int p4), .val (.int p5), .val (.int p3), .val (.int p2), .val (.ref b37), .val (.int (p5 &&& (3 : Int32))), .val (.ref b54), .val (.int (0 : Int32))] [(.int (0 : Int32))])) _
              refine XS.iload X62.here hx rfl (hb hby at_182) rfl ?_
              show Steps p.tables e below (T62.setTop (mkF m 184 #[.val (.int p1), .val (.int p2), .val (.int p3), .val (.int p4), .val (.int p5), .val (.int p3), .val (.int p2), .val (.ref b37), .val (.int (p5 &&& (3 : Int32))), .val (.ref b54), .val (.int (0 : Int32))] [(.int (0 : Int32)), (.int (0 : Int32))])) _
              refine XS.icmpNo X62.here hx rfl (hb hby at_184) rfl (teq (rfl : (0 : Int32) = (0 : Int32))).2 ?_
              show Steps p.tables e below (T62.setTop (mkF m 187 #[.val (.int p1), .val (.int p2), .val (.int p3), .val (.int p4), .val (.int p5), .val (.int p3), .val (.int p2), .val (.ref b37), .val (.int (p5 &&& (3 : Int32))), .val (.ref b54), .val (.int (0 : Int32))] [])) _
              refine XS.iconst X62.here hx rfl (hb hby at_187) ?_
              show Steps p.tables e below (T62.setTop (mkF m 188 #[.val (.int p1), .val (.int p2), .val (.int p3), .val (.int p4), .val (.int p5), .val (.int p3), .val (.int p2), .val (.ref b37), .val (.int (p5 &&& (3 : Int32))), .val (.ref b54), .val (.int (0 : Int32))] [(.int (1 : Int32))])) _
              refine XS.goto X62.here hx rfl (pc0 := 188) (pc' := 192) rfl (hb hby at_188) (by decide) (by decide) ?_
              exact kt
            obtain ⟨fs, hr, hrun, hended, hW, hsame⟩ := X62.leave (v := some (.int (1 : Int32))) (fun h => by rw [Bd.returns] at h; cases h)
            refine ⟨_, _, pre63 _ ?_, hrun, hended, _, _, rfl, ?_, ⟨_, rfl⟩, hW, hsame.mono (by decide) (by decide)⟩
            · show Steps p.tables e below (T62.setTop (mkF m 192 #[.val (.int p1), .val (.int p2), .val (.int p3), .val (.int p4), .val (.int p5), .val (.int p3), .val (.int p2), .val (.ref b37), .val (.int (p5 &&& (3 : Int32))), .val (.ref b54), .val (.int (0 : Int32))] [(.int (1 : Int32))])) _
              exact retN X62 hx (t := .boolean) Bd.returns (by simp) (hb hby at_192) hr
            · show Q0 Z h0 n0 _ T62.heap _
              rw [hE62]
              exact ⟨rfl, N62⟩
  · have pre64 : ∀ tt, Steps p.tables e below (s₁.setTop (mkF m 22 #[.val (.int p1), .val (.int p2), .val (.int p3), .val (.int p4), .val (.int p5), .val (.int p1), .unset, .unset, .unset, .unset, .unset] [(.int ((p5 >>> ((3 : Int32) &&& 31)) &&& (1 : Int32)))])) tt → Steps p.tables e below (s₁.setTop (entryFrame m #[(.int p1), (.int p2), (.int p3), (.int p4), (.int p5)] maxLocals)) tt := by
      intro tt kt
      refine pre1 tt ?_
      show Steps p.tables e below (s₁.setTop (mkF m 6 #[.val (.int p1), .val (.int p2), .val (.int p3), .val (.int p4), .val (.int p5), .unset, .unset, .unset, .unset, .unset, .unset] [(.int ((p5 >>> ((2 : Int32) &&& 31)) &&& (1 : Int32)))])) _
      refine XS.ifNo X0.here hx rfl (hb hby at_6) rfl ((if0 _ _).trans (feq c6_2).1) ?_
      show Steps p.tables e below (s₁.setTop (mkF m 9 #[.val (.int p1), .val (.int p2), .val (.int p3), .val (.int p4), .val (.int p5), .unset, .unset, .unset, .unset, .unset, .unset] [])) _
      refine XS.iloadN X0.here hx rfl (hb hby at_9) rfl ?_
      show Steps p.tables e below (s₁.setTop (mkF m 10 #[.val (.int p1), .val (.int p2), .val (.int p3), .val (.int p4), .val (.int p5), .unset, .unset, .unset, .unset, .unset, .unset] [(.int p1)])) _
      refine XS.goto X0.here hx rfl (pc0 := 10) (pc' := 14) rfl (hb hby at_10) (by decide) (by decide) ?_
      show Steps p.tables e below (s₁.setTop (mkF m 14 #[.val (.int p1), .val (.int p2), .val (.int p3), .val (.int p4), .val (.int p5), .unset, .unset, .unset, .unset, .unset, .unset] [(.int p1)])) _
      refine XS.istore X0.here hx rfl (hb hby at_14) rfl (l' := #[.val (.int p1), .val (.int p2), .val (.int p3), .val (.int p4), .val (.int p5), .val (.int p1), .unset, .unset, .unset, .unset, .unset]) rfl ?_
      show Steps p.tables e below (s₁.setTop (mkF m 16 #[.val (.int p1), .val (.int p2), .val (.int p3), .val (.int p4), .val (.int p5), .val (.int p1), .unset, .unset, .unset, .unset, .unset] [])) _
      refine XS.iload X0.here hx rfl (hb hby at_16) rfl ?_
      show Steps p.tables e below (s₁.setTop (mkF m 18 #[.val (.int p1), .val (.int p2), .val (.int p3), .val (.int p4), .val (.int p5), .val (.int p1), .unset, .unset, .unset, .unset, .unset] [(.int p5)])) _
      refine XS.iconst X0.here hx rfl (hb hby at_18) ?_
      show Steps p.tables e below (s₁.setTop (mkF m 19 #[.val (.int p1), .val (.int p2), .val (.int p3), .val (.int p4), .val (.int p5), .val (.int p1), .unset, .unset, .unset, .unset, .unset] [(.int (3 : Int32)), (.int p5)])) _
      refine XS.ishr X0.here hx rfl (hb hby at_19) rfl ?_
      show Steps p.tables e below (s₁.setTop (mkF m 20 #[.val (.int p1), .val (.int p2), .val (.int p3), .val (.int p4), .val (.int p5), .val (.int p1), .unset, .unset, .unset, .unset, .unset] [(.int (p5 >>> ((3 : Int32) &&& 31)))])) _
      refine XS.iconst X0.here hx rfl (hb hby at_20) ?_
      show Steps p.tables e below (s₁.setTop (mkF m 21 #[.val (.int p1), .val (.int p2), .val (.int p3), .val (.int p4), .val (.int p5), .val (.int p1), .unset, .unset, .unset, .unset, .unset] [(.int (1 : Int32)), (.int (p5 >>> ((3 : Int32) &&& 31)))])) _
      refine XS.iand X0.here hx rfl (hb hby at_21) rfl ?_
      exact kt
    by_cases c22_65 : ((p5 >>> ((3 : Int32) &&& 31)) &&& (1 : Int32)) = (0 : Int32)
    · obtain ⟨T66, h66, X66, e66, E66, A66, D66, -, st66⟩ := newO X0 hx hZ hown (hw _ (List.mem_of_getElem? (i := 0) rfl)) (hw _ (List.mem_of_getElem? (i := 1) rfl)) (hw _ (List.mem_of_getElem? (i := 2) rfl)) e0 (g := (mkF m 32 #[.val (.int p1), .val (.int p2), .val (.int p3), .val (.int p4), .val (.int p5), .val (.int p1), .val (.int p4), .unset, .unset, .unset, .unset] [])) rfl (hb hby at_32) (by decide) (by decide)
      obtain ⟨b66, g66⟩ : ∃ z, z = h0.size := ⟨_, rfl⟩
      rw [← g66] at A66 D66 st66
      have g_b66 : n0 ≤ b66 := Nat.le_trans Z0 (Nat.le_of_eq g66.symm)
      have sz_b66 : h0.size ≤ b66 := Nat.le_trans ((Keep.refl h0 [])).1 (Nat.le_of_eq g66.symm)
      have K66 : Keep h0 h66 [] := ((Keep.refl h0 [])).ext E66
      have F_min_b66 : Fld Z h66 b66 "com/example/keyturn/keyturn/signing/SdkRange" "min" "I" (.int (0 : Int32)) := D66 (Or.inr (hw _ (List.mem_of_getElem? (i := 10) rfl))) (ty := .int) (by decide)
      have F_max_b66 : Fld Z h66 b66 "com/example/keyturn/keyturn/signing/SdkRange" "max" "I" (.int (0 : Int32)) := D66 (Or.inr (hw _ (List.mem_of_getElem? (i := 12) rfl))) (ty := .int) (by decide)
      obtain ⟨_, _, ⟨T67, L67, k67, n67⟩, -, X67, ⟨Lc67, hQ67, l67, y67, z67⟩, st67⟩ := X66.specialBack hx (y := (⟨"com/example/keyturn/keyturn/signing/SdkRange", "<init>", "(II)V"⟩ : MethodName)) rfl hown (mvT hZ (hw _ (List.mem_of_getElem? (i := 3) rfl))) (mvT hZ (hw _ (List.mem_of_getElem? (i := 4) rfl))) (mvT hZ (hw _ (List.mem_of_getElem? (i := 5) rfl))) (by decide) (backOf (W := 1) (rmC l Z a0 hw [] b66 p1 p2 h66 n0 (Nat.le_trans Z0 E66.1) A66 F_min_b66 F_max_b66 g_b66) hZ (hw _ (List.mem_of_getElem? (i := 5) rfl)) (hw _ (List.mem_of_getElem? (i := 2) rfl)) (by decide) (by decide)) (g := (mkF m 38 #[.val (.int p1), .val (.int p2), .val (.int p3), .val (.int p4), .val (.int p5), .val (.int p1), .val (.int p4), .unset, .unset, .unset, .unset] [(.int p2), (.int p1), (.ref b66), (.ref b66)])) rfl (by rw [hml]; rfl) (Steps.refl _) (a := b66) (argsL := [(.int p1), (.int p2)]) (rest := [(.ref b66)]) (lenOf pd_rm0_0 rfl) rfl (by show 2 * 0 + _ ≤ _; exact Nat.le_of_eq rfl) (hb hby at_38) (fun _ _ => ⟨rfl, e66, (by decide : 1 + 0 ≤ _), (by decide : 2 + 0 ≤ _)⟩)
      dsimp only [Pt.U, Pt.locs, Pt.cells, Pt.slots] at X67 l67 y67 z67 st67 hQ67
      subst l67 y67 z67
      obtain ⟨rfl, N67q, K67, Ei67, Fm67, Fx67⟩ := hQ67
      have N67 := Fr.app N0 N67q
      have KK67 : Keep h0 T67.heap [] := (K66).trans K67 (allS (Or.inr sz_b66) all0)
      have pre68 : ∀ tt, Steps p.tables e below (T67.setTop (mkF m 52 #[.val (.int p1), .val (.int p2), .val (.int p3), .val (.int p4), .val (.int p5), .val (.int p1), .val (.int p4), .val (.ref b66), .val (.int (p5 &&& (3 : Int32))), .unset, .unset] [(.int (1 : Int32)), (.int (p5 &&& (3 : Int32)))])) tt → Steps p.tables e below (s₁.setTop (entryFrame m #[(.int p1), (.int p2), (.int p3), (.int p4), (.int p5)] maxLocals)) tt := by
        intro tt kt
        refine pre64 tt ?_
        show Steps p.tables e below (s₁.setTop (mkF m 22 #[.val (.int p1), .val (.int p2), .val (.int p3), .val (.int p4), .val (.int p5), .val (.int p1), .unset, .unset, .unset, .unset, .unset] [(.int ((p5 >>> ((3 : Int32) &&& 31)) &&& (1 : Int32)))])) _
        refine XS.ifYes X0.here hx rfl (pc0 := 22) (pc' := 29) rfl (hb hby at_22) rfl ((if0 _ _).trans (teq c22_65).1) (by decide) (by decide) ?_
        show Steps p.tables e below (s₁.setTop (mkF m 29 #[.val (.int p1), .val (.int p2), .val (.int p3), .val (.int p4), .val (.int p5), .val (.int p1), .unset, .unset, .unset, .unset, .unset] [])) _
        refine XS.iloadN X0.here hx rfl (hb hby at_29) rfl ?_
        show Steps p.tables e below (s₁.setTop (mkF m 30 #[.val (.int p1), .val (.int p2), .val (.int p3), .val (.int p4), .val (.int p5), .val (.int p1), .unset, .unset, .unset, .unset, .unset] [(.int p4)])) _
        refine XS.istore X0.here hx rfl (hb hby at_30) rfl (l' := #[.val (.int p1), .val (.int p2), .val (.int p3), .val (.int p4), .val (.int p5), .val (.int p1), .val (.int p4), .unset, .unset, .unset, .unset]) rfl ?_
        show Steps p.tables e below (s₁.setTop (mkF m 32 #[.val (.int p1), .val (.int p2), .val (.int p3), .val (.int p4), .val (.int p5), .val (.int p1), .val (.int p4), .unset, .unset, .unset, .unset] [])) _
        refine st66 _ ?_
        show Steps p.tables e below (T66.setTop (mkF m 35 #[.val (.int p1), .val (.int p2), .val (.int p3), .val (.int p4), .val (.int p5), .val (.int p1), .val (.int p4), .unset, .unset, .unset, .unset] [(.ref b66)])) _
        refine XS.dup X66.here hx rfl (hb hby at_35) rfl rfl ?_
        show Steps p.tables e below (T66.setTop (mkF m 36 #[.val (.int p1), .val (.int p2), .val (.int p3), .val (.int p4), .val (.int p5), .val (.int p1), .val (.int p4), .unset, .unset, .unset, .unset] [(.ref b66), (.ref b66)])) _
        refine XS.iloadN X66.here hx rfl (hb hby at_36) rfl ?_
        show Steps p.tables e below (T66.setTop (mkF m 37 #[.val (.int p1), .val (.int p2), .val (.int p3), .val (.int p4), .val (.int p5), .val (.int p1), .val (.int p4), .unset, .unset, .unset, .unset] [(.int p1), (.ref b66), (.ref b66)])) _
        refine XS.iloadN X66.here hx rfl (hb hby at_37) rfl ?_
        show Steps p.tables e below (T66.setTop (mkF m 38 #[.val (.int p1), .val (.int p2), .val (.int p3), .val (.int p4), .val (.int p5), .val (.int p1), .val (.int p4), .unset, .unset, .unset, .unset] [(.int p2), (.int p1), (.ref b66), (.ref b66)])) _
        refine st67.trans ?_
        show Steps p.tables e below (T67.setTop (mkF m 41 #[.val (.int p1), .val (.int p2), .val (.int p3), .val (.int p4), .val (.int p5), .val (.int p1), .val (.int p4), .unset, .unset, .unset, .unset] [(.ref b66)])) _
        refine XS.astore X67.here hx rfl (hb hby at_41) rfl rfl (l' := #[.val (.int p1), .val (.int p2), .val (.int p3), .val (.int p4), .val (.int p5), .val (.int p1), .val (.int p4), .val (.ref b66), .unset, .unset, .unset]) rfl ?_
        show Steps p.tables e below (T67.setTop (mkF m 43 #[.val (.int p1), .val (.int p2), .val (.int p3), .val (.int p4), .val (.int p5), .val (.int p1), .val (.int p4), .val (.ref b66), .unset, .unset, .unset] [])) _
        refine XS.iload X67.here hx rfl (hb hby at_43) rfl ?_
        show Steps p.tables e below (T67.setTop (mkF m 45 #[.val (.int p1), .val (.int p2), .val (.int p3), .val (.int p4), .val (.int p5), .val (.int p1), .val (.int p4), .val (.ref b66), .unset, .unset, .unset] [(.int p5)])) _
        refine XS.iconst X67.here hx rfl (hb hby at_45) ?_
        show Steps p.tables e below (T67.setTop (mkF m 46 #[.val (.int p1), .val (.int p2), .val (.int p3), .val (.int p4), .val (.int p5), .val (.int p1), .val (.int p4), .val (.ref b66), .unset, .unset, .unset] [(.int (3 : Int32)), (.int p5)])) _
        refine XS.iand X67.here hx rfl (hb hby at_46) rfl ?_
        show Steps p.tables e below (T67.setTop (mkF m 47 #[.val (.int p1), .val (.int p2), .val (.int p3), .val (.int p4), .val (.int p5), .val (.int p1), .val (.int p4), .val (.ref b66), .unset, .unset, .unset] [(.int (p5 &&& (3 : Int32)))])) _
        refine XS.istore X67.here hx rfl (hb hby at_47) rfl (l' := #[.val (.int p1), .val (.int p2), .val (.int p3), .val (.int p4), .val (.int p5), .val (.int p1), .val (.int p4), .val (.ref b66), .val (.int (p5 &&& (3 : Int32))), .unset, .unset]) rfl ?_
        show Steps p.tables e below (T67.setTop (mkF m 49 #[.val (.int p1), .val (.int p2), .val (.int p3), .val (.int p4), .val (.int p5), .val (.int p1), .val (.int p4), .val (.ref b66), .val (.int (p5 &&& (3 : Int32))), .unset, .unset] [])) _
        refine XS.iload X67.here hx rfl (hb hby at_49) rfl ?_
        show Steps p.tables e below (T67.setTop (mkF m 51 #[.val (.int p1), .val (.int p2), .val (.int p3), .val (.int p4), .val (.int p5), .val (.int p1), .val (.int p4), .val (.ref b66), .val (.int (p5 &&& (3 : Int32))), .unset, .unset] [(.int (p5 &&& (3 : Int32)))])) _
        refine XS.iconst X67.here hx rfl (hb hby at_51) ?_
        exact kt
      by_cases c52_69 : (p5 &&& (3 : Int32)) = (1 : Int32)
      · obtain ⟨cq70, kq70, q70a, q70b, q70c⟩ := isOf hZ rfl Ei67
        obtain ⟨_, _, ⟨T70, L70, k70, n70⟩, -, X70, ⟨Lc70, hQ70, l70, y70, z70⟩, st70⟩ := X67.virtualBack hx (y := (⟨"com/example/keyturn/keyturn/signing/SdkRange", "equals", "(Ljava/lang/Object;)Z"⟩ : MethodName)) (z := (⟨"com/example/keyturn/keyturn/signing/SdkRange", "equals", "(Ljava/lang/Object;)Z"⟩ : MethodName)) hown (mvT hZ (hw _ (List.mem_of_getElem? (i := 13) rfl))) (mvT hZ (hw _ (List.mem_of_getElem? (i := 14) rfl))) (notFace_of_selects (args := #[]) (mvT hZ (hw _ (List.mem_of_getElem? (i := 16) rfl)))) (mvT hZ (hw _ (List.mem_of_getElem? (i := 16) rfl))) (mvT hZ (hw _ (List.mem_of_getElem? (i := 15) rfl))) (by decide) (backOf (W := 0) (rmEN l Z a0 hw [] b66 T67.heap n0 (Nat.le_trans (Nat.le_trans Z0 E66.1) K67.1)) hZ (hw _ (List.mem_of_getElem? (i := 17) rfl)) (hw _ (List.mem_of_getElem? (i := 2) rfl)) (by decide) (by decide)) q70a q70c (g := (mkF m 58 #[.val (.int p1), .val (.int p2), .val (.int p3), .val (.int p4), .val (.int p5), .val (.int p1), .val (.int p4), .val (.ref b66), .val (.int (p5 &&& (3 : Int32))), .unset, .unset] [.null, (.ref b66)])) rfl (by rw [hml]; rfl) (Steps.refl _) (argsL := [.null]) (rest := []) (lenOf pd_rm0_1 rfl) rfl (by show 2 * 0 + _ ≤ _; exact Nat.le_of_eq rfl) (hb hby at_58) (fun _ _ => ⟨rfl, rfl, (by decide : 1 + 0 ≤ _), (by decide : 2 + 0 ≤ _)⟩)
        dsimp only [Pt.U, Pt.locs, Pt.cells, Pt.slots] at X70 l70 y70 z70 st70 hQ70
        subst l70 y70 z70
        obtain ⟨rfl, N70q, hE70⟩ := hQ70
        have N70 := Fr.app N67 N70q
        obtain ⟨cq71, kq71, q71a, q71b, q71c⟩ := isOf hZ hE70 Ei67
        obtain ⟨_, _, ⟨T71, L71, k71, n71⟩, -, X71, ⟨Lc71, hQ71, l71, y71, z71⟩, st71⟩ := X70.virtualBack hx (y := (⟨"com/example/keyturn/keyturn/signing/SdkRange", "equals", "(Ljava/lang/Object;)Z"⟩ : MethodName)) (z := (⟨"com/example/keyturn/keyturn/signing/SdkRange", "equals", "(Ljava/lang/Object;)Z"⟩ : MethodName)) hown (mvT hZ (hw _ (List.mem_of_getElem? (i := 13) rfl))) (mvT hZ (hw _ (List.mem_of_getElem? (i := 14) rfl))) (notFace_of_selects (args := #[]) (mvT hZ (hw _ (List.mem_of_getElem? (i := 16) rfl)))) (mvT hZ (hw _ (List.mem_of_getElem? (i := 16) rfl))) (mvT hZ (hw _ (List.mem_of_getElem? (i := 15) rfl))) (by decide) (backOf (W := 0) (rmE l Z a0 hw [] b66 b66 p1 p2 p1 p2 (1 : Int32) T67.heap n0 (Nat.le_trans (Nat.le_trans Z0 E66.1) K67.1) Ei67 Fm67 Fx67 Fm67 Fx67 (by rw [if_pos (rfl : p1 = p1), if_pos (rfl : p2 = p2)])) hZ (hw _ (List.mem_of_getElem? (i := 17) rfl)) (hw _ (List.mem_of_getElem? (i := 2) rfl)) (by decide) (by decide)) q71a q71c (g := (mkF m 68 #[.val (.int p1), .val (.int p2), .val (.int p3), .val (.int p4), .val (.int p5), .val (.int p1), .val (.int p4), .val (.ref b66), .val (.int (p5 &&& (3 : Int32))), .unset, .unset] [(.ref b66), (.ref b66)])) rfl (by rw [hml]; rfl) (Steps.refl _) (argsL := [(.ref b66)]) (rest := []) (lenOf pd_rm0_1 rfl) rfl (by show 2 * 0 + _ ≤ _; exact Nat.le_of_eq rfl) (hb hby at_68) (fun _ _ => ⟨rfl, hE70, (by decide : 1 + 0 ≤ _), (by decide : 2 + 0 ≤ _)⟩)
        dsimp only [Pt.U, Pt.locs, Pt.cells, Pt.slots] at X71 l71 y71 z71 st71 hQ71
        subst l71 y71 z71
        obtain ⟨rfl, N71q, hE71⟩ := hQ71
        have N71 := Fr.app N70 N71q
        have pre72 : ∀ tt, Steps p.tables e below (T71.setTop (mkF m 79 #[.val (.int p1), .val (.int p2), .val (.int p3), .val (.int p4), .val (.int p5), .val (.int p1), .val (.int p4), .val (.ref b66), .val (.int (p5 &&& (3 : Int32))), .unset, .unset] [(.int (1 : Int32))])) tt → Steps p.tables e below (s₁.setTop (entryFrame m #[(.int p1), (.int p2), (.int p3), (.int p4), (.int p5)] maxLocals)) tt := by
          intro tt kt
          refine pre68 tt ?_
          show Steps p.tables e below (T67.setTop (mkF m 52 #[.val (.int p1), .val (.int p2), .val (.int p3), .val (.int p4), .val (.int p5), .val (.int p1), .val (.int p4), .val (.ref b66), .val (.int (p5 &&& (3 : Int32))), .unset, .unset] [(.int (1 : Int32)), (.int (p5 &&& (3 : Int32)))])) _
          refine XS.icmpNo X67.here hx rfl (hb hby at_52) rfl (teq c52_69).2 ?_
          show Steps p.tables e below (T67.setTop (mkF m 55 #[.val (.int p1), .val (.int p2), .val (.int p3), .val (.int p4), .val (.int p5), .val (.int p1), .val (.int p4), .val (.ref b66), .val (.int (p5 &&& (3 : Int32))), .unset, .unset] [])) _
          refine XS.aload X67.here hx rfl (hb hby at_55) rfl rfl ?_
          show Steps p.tables e below (T67.setTop (mkF m 57 #[.val (.int p1), .val (.int p2), .val (.int p3), .val (.int p4), .val (.int p5), .val (.int p1), .val (.int p4), .val (.ref b66), .val (.int (p5 &&& (3 : Int32))), .unset, .unset] [(.ref b66)])) _
          refine XS.aconstNull X67.here hx rfl (hb hby at_57) ?_
          show Steps p.tables e below (T67.setTop (mkF m 58 #[.val (.int p1), .val (.int p2), .val (.int p3), .val (.int p4), .val (.int p5), .val (.int p1), .val (.int p4), .val (.ref b66), .val (.int (p5 &&& (3 : Int32))), .unset, .unset] [.null, (.ref b66)])) _
          refine st70.trans ?_
          show Steps p.tables e below (T70.setTop (mkF m 61 #[.val (.int p1), .val (.int p2), .val (.int p3), .val (.int p4), .val (.int p5), .val (.int p1), .val (.int p4), .val (.ref b66), .val (.int (p5 &&& (3 : Int32))), .unset, .unset] [(.int (0 : Int32))])) _
          refine XS.ifNo X70.here hx rfl (hb hby at_61) rfl ((if0 _ _).trans (teq (rfl : (0 : Int32) = (0 : Int32))).2) ?_
          show Steps p.tables e below (T70.setTop (mkF m 64 #[.val (.int p1), .val (.int p2), .val (.int p3), .val (.int p4), .val (.int p5), .val (.int p1), .val (.int p4), .val (.ref b66), .val (.int (p5 &&& (3 : Int32))), .unset, .unset] [])) _
          refine XS.aload X70.here hx rfl (hb hby at_64) rfl rfl ?_
          show Steps p.tables e below (T70.setTop (mkF m 66 #[.val (.int p1), .val (.int p2), .val (.int p3), .val (.int p4), .val (.int p5), .val (.int p1), .val (.int p4), .val (.ref b66), .val (.int (p5 &&& (3 : Int32))), .unset, .unset] [(.ref b66)])) _
          refine XS.aload X70.here hx rfl (hb hby at_66) rfl rfl ?_
          show Steps p.tables e below (T70.setTop (mkF m 68 #[.val (.int p1), .val (.int p2), .val (.int p3), .val (.int p4), .val (.int p5), .val (.int p1), .val (.int p4), .val (.ref b66), .val (.int (p5 &&& (3 : Int32))), .unset, .unset] [(.ref b66), (.ref b66)])) _
          refine st71.trans ?_
          show Steps p.tables e below (T71.setTop (mkF m 71 #[.val (.int p1), .val (.int p2), .val (.int p3), .val (.int p4), .val (.int p5), .val (.int p1), .val (.int p4), .val (.ref b66), .val (.int (p5 &&& (3 : Int32))), .unset, .unset] [(.int (1 : Int32))])) _
          refine XS.ifNo X71.here hx rfl (hb hby at_71) rfl ((if0 _ _).trans (feq (by decide : ¬ ((1 : Int32) = (0 : Int32)))).1) ?_
          show Steps p.tables e below (T71.setTop (mkF m 74 #[.val (.int p1), .val (.int p2), .val (.int p3), .val (.int p4), .val (.int p5), .val (.int p1), .val (.int p4), .val (.ref b66), .val (.int (p5 &&& (3 : Int32))), .unset, .unset] [])) _
          refine XS.iconst X71.here hx rfl (hb hby at_74) ?_
          show Steps p.tables e below (T71.setTop (mkF m 75 #[.val (.int p1), .val (.int p2), .val (.int p3), .val (.int p4), .val (.int p5), .val (.int p1), .val (.int p4), .val (.ref b66), .val (.int (p5 &&& (3 : Int32))), .unset, .unset] [(.int (1 : Int32))])) _
          refine XS.goto X71.here hx rfl (pc0 := 75) (pc' := 79) rfl (hb hby at_75) (by decide) (by decide) ?_
          exact kt
        obtain ⟨fs, hr, hrun, hended, hW, hsame⟩ := X71.leave (v := some (.int (1 : Int32))) (fun h => by rw [Bd.returns] at h; cases h)
        refine ⟨_, _, pre72 _ ?_, hrun, hended, _, _, rfl, ?_, ⟨_, rfl⟩, hW, hsame.mono (by decide) (by decide)⟩
        · show Steps p.tables e below (T71.setTop (mkF m 79 #[.val (.int p1), .val (.int p2), .val (.int p3), .val (.int p4), .val (.int p5), .val (.int p1), .val (.int p4), .val (.ref b66), .val (.int (p5 &&& (3 : Int32))), .unset, .unset] [(.int (1 : Int32))])) _
          exact retN X71 hx (t := .boolean) Bd.returns (by simp) (hb hby at_79) hr
        · show Q0 Z h0 n0 _ T71.heap _
          rw [hE71]
          exact ⟨rfl, N71⟩
      · have pre73 : ∀ tt, Steps p.tables e below (T67.setTop (mkF m 83 #[.val (.int p1), .val (.int p2), .val (.int p3), .val (.int p4), .val (.int p5), .val (.int p1), .val (.int p4), .val (.ref b66), .val (.int (p5 &&& (3 : Int32))), .unset, .unset] [(.int (2 : Int32)), (.int (p5 &&& (3 : Int32)))])) tt → Steps p.tables e below (s₁.setTop (entryFrame m #[(.int p1), (.int p2), (.int p3), (.int p4), (.int p5)] maxLocals)) tt := by
          intro tt kt
          refine pre68 tt ?_
          show Steps p.tables e below (T67.setTop (mkF m 52 #[.val (.int p1), .val (.int p2), .val (.int p3), .val (.int p4), .val (.int p5), .val (.int p1), .val (.int p4), .val (.ref b66), .val (.int (p5 &&& (3 : Int32))), .unset, .unset] [(.int (1 : Int32)), (.int (p5 &&& (3 : Int32)))])) _
          refine XS.icmpYes X67.here hx rfl (pc0 := 52) (pc' := 80) rfl (hb hby at_52) rfl (feq c52_69).2 (by decide) (by decide) ?_
          show Steps p.tables e below (T67.setTop (mkF m 80 #[.val (.int p1), .val (.int p2), .val (.int p3), .val (.int p4), .val (.int p5), .val (.int p1), .val (.int p4), .val (.ref b66), .val (.int (p5 &&& (3 : Int32))), .unset, .unset] [])) _
          refine XS.iload X67.here hx rfl (hb hby at_80) rfl ?_
          show Steps p.tables e below (T67.setTop (mkF m 82 #[.val (.int p1), .val (.int p2), .val (.int p3), .val (.int p4), .val (.int p5), .val (.int p1), .val (.int p4), .val (.ref b66), .val (.int (p5 &&& (3 : Int32))), .unset, .unset] [(.int (p5 &&& (3 : Int32)))])) _
          refine XS.iconst X67.here hx rfl (hb hby at_82) ?_
          exact kt
        by_cases c83_74 : (p5 &&& (3 : Int32)) = (2 : Int32)
        · have pre75 : ∀ tt, Steps p.tables e below (T67.setTop (mkF m 92 #[.val (.int p1), .val (.int p2), .val (.int p3), .val (.int p4), .val (.int p5), .val (.int p1), .val (.int p4), .val (.ref b66), .val (.int (p5 &&& (3 : Int32))), .unset, .unset] [(.int ((p5 >>> ((4 : Int32) &&& 31)) &&& (1 : Int32)))])) tt → Steps p.tables e below (s₁.setTop (entryFrame m #[(.int p1), (.int p2), (.int p3), (.int p4), (.int p5)] maxLocals)) tt := by
            intro tt kt
            refine pre73 tt ?_
            show Steps p.tables e below (T67.setTop (mkF m 83 #[.val (.int p1), .val (.int p2), .val (.int p3), .val (.int p4), .val (.int p5), .val (.int p1), .val (.int p4), .val (.ref b66), .val (.int (p5 &&& (3 : Int32))), .unset, .unset] [(.int (2 : Int32)), (.int (p5 &&& (3 : Int32)))])) _
            refine XS.icmpNo X67.here hx rfl (hb hby at_83) rfl (teq c83_74).2 ?_
            show Steps p.tables e below (T67.setTop (mkF m 86 #[.val (.int p1), .val (.int p2), .val (.int p3), .val (.int p4), .val (.int p5), .val (.int p1), .val (.int p4), .val (.ref b66), .val (.int (p5 &&& (3 : Int32))), .unset, .unset] [])) _
            refine XS.iload X67.here hx rfl (hb hby at_86) rfl ?_
            show Steps p.tables e below (T67.setTop (mkF m 88 #[.val (.int p1), .val (.int p2), .val (.int p3), .val (.int p4), .val (.int p5), .val (.int p1), .val (.int p4), .val (.ref b66), .val (.int (p5 &&& (3 : Int32))), .unset, .unset] [(.int p5)])) _
            refine XS.iconst X67.here hx rfl (hb hby at_88) ?_
            show Steps p.tables e below (T67.setTop (mkF m 89 #[.val (.int p1), .val (.int p2), .val (.int p3), .val (.int p4), .val (.int p5), .val (.int p1), .val (.int p4), .val (.ref b66), .val (.int (p5 &&& (3 : Int32))), .unset, .unset] [(.int (4 : Int32)), (.int p5)])) _
            refine XS.ishr X67.here hx rfl (hb hby at_89) rfl ?_
            show Steps p.tables e below (T67.setTop (mkF m 90 #[.val (.int p1), .val (.int p2), .val (.int p3), .val (.int p4), .val (.int p5), .val (.int p1), .val (.int p4), .val (.ref b66), .val (.int (p5 &&& (3 : Int32))), .unset, .unset] [(.int (p5 >>> ((4 : Int32) &&& 31)))])) _
            refine XS.iconst X67.here hx rfl (hb hby at_90) ?_
            show Steps p.tables e below (T67.setTop (mkF m 91 #[.val (.int p1), .val (.int p2), .val (.int p3), .val (.int p4), .val (.int p5), .val (.int p1), .val (.int p4), .val (.ref b66), .val (.int (p5 &&& (3 : Int32))), .unset, .unset] [(.int (1 : Int32)), (.int (p5 >>> ((4 : Int32) &&& 31)))])) _
            refine XS.iand X67.here hx rfl (hb hby at_91) rfl ?_
            exact kt
          by_cases c92_76 : ((p5 >>> ((4 : Int32) &&& 31)) &&& (1 : Int32)) = (0 : Int32)
          · obtain ⟨_, _, ⟨T77, L77, k77, n77⟩, -, X77, ⟨Lc77, hQ77, l77, y77, z77⟩, st77⟩ := Jvm.LawKit.callS X67 hx (y := (⟨"java/lang/Integer", "valueOf", "(I)Ljava/lang/Integer;"⟩ : MethodName)) hown (mvT hZ (hw _ (List.mem_of_getElem? (i := 20) rfl))) (mvT hZ (hw _ (List.mem_of_getElem? (i := 21) rfl))) (mvT hZ (hw _ (List.mem_of_getElem? (i := 22) rfl))) (mvT hZ (hw _ (List.mem_of_getElem? (i := 23) rfl))) (by decide) (backOf (W := 0) (rmVO l Z a0 hw [] p1 wC T67.heap n0 (Nat.le_trans (Nat.le_trans Z0 E66.1) K67.1) (own_staK (Sta.ext E66 S_high) K67 (allS ⟨_, A66⟩ all0)) (own_staK (Sta.ext E66 S_cache) K67 (allS ⟨_, A66⟩ all0)) (own_ICkeep (own_ICkeep I_C ((Keep.refl _ []).ext E66) nin0) K67 (ninS (own_wCne I_C sz_b66) nin0))) hZ (hw _ (List.mem_of_getElem? (i := 23) rfl)) (hw _ (List.mem_of_getElem? (i := 22) rfl)) (by decide) (by decide)) (g := (mkF m 110 #[.val (.int p1), .val (.int p2), .val (.int p3), .val (.int p4), .val (.int p5), .val (.int p1), .val (.int p4), .val (.ref b66), .val (.int (p5 &&& (3 : Int32))), .unset, .unset] [(.int p1)])) rfl (by rw [hml]; rfl) (argsL := [(.int p1)]) (rest := []) (lenOf pd_rm0_2 rfl) rfl (by show 2 * 0 + _ ≤ _; exact Nat.le_of_eq rfl) (hb hby at_110) (fun _ _ => ⟨rfl, rfl, (by decide : 1 + 1 ≤ _), (by decide : 2 + 1 ≤ _)⟩)
            dsimp only [Pt.U, Pt.locs, Pt.cells, Pt.slots] at X77 l77 y77 z77 st77 hQ77
            subst l77 y77 z77
            obtain ⟨bo77, rfl, N77q, K77, Eo77⟩ := hQ77
            have N77 := Fr.app N67 N77q
            obtain ⟨cq78, kq78, q78a, q78b, q78c⟩ := isOf hZ rfl (Ei67.keep K77)
            obtain ⟨_, _, ⟨T78, L78, k78, n78⟩, -, X78, ⟨Lc78, hQ78, l78, y78, z78⟩, st78⟩ := X77.virtualBack hx (y := (⟨"com/example/keyturn/keyturn/signing/SdkRange", "equals", "(Ljava/lang/Object;)Z"⟩ : MethodName)) (z := (⟨"com/example/keyturn/keyturn/signing/SdkRange", "equals", "(Ljava/lang/Object;)Z"⟩ : MethodName)) hown (mvT hZ (hw _ (List.mem_of_getElem? (i := 13) rfl))) (mvT hZ (hw _ (List.mem_of_getElem? (i := 14) rfl))) (notFace_of_selects (args := #[]) (mvT hZ (hw _ (List.mem_of_getElem? (i := 16) rfl)))) (mvT hZ (hw _ (List.mem_of_getElem? (i := 16) rfl))) (mvT hZ (hw _ (List.mem_of_getElem? (i := 15) rfl))) (by decide) (backOf (W := 0) (rmEX l Z a0 hw [] b66 bo77 "java/lang/Integer" T77.heap n0 (Nat.le_trans (Nat.le_trans (Nat.le_trans Z0 E66.1) K67.1) K77.1) Eo77 (own_noI hw)) hZ (hw _ (List.mem_of_getElem? (i := 17) rfl)) (hw _ (List.mem_of_getElem? (i := 2) rfl)) (by decide) (by decide)) q78a q78c (g := (mkF m 119 #[.val (.int p1), .val (.int p2), .val (.int p3), .val (.int p4), .val (.int p5), .val (.int p1), .val (.int p4), .val (.ref b66), .val (.int (p5 &&& (3 : Int32))), .val (.ref bo77), .unset] [(.ref bo77), (.ref b66)])) rfl (by rw [hml]; rfl) (Steps.refl _) (argsL := [(.ref bo77)]) (rest := []) (lenOf pd_rm0_1 rfl) rfl (by show 2 * 0 + _ ≤ _; exact Nat.le_of_eq rfl) (hb hby at_119) (fun _ _ => ⟨rfl, rfl, (by decide : 2 + 0 ≤ _), (by decide : 3 + 0 ≤ _)⟩)
            dsimp only [Pt.U, Pt.locs, Pt.cells, Pt.slots] at X78 l78 y78 z78 st78 hQ78
            subst l78 y78 z78
            obtain ⟨rfl, N78q, hE78⟩ := hQ78
            have N78 := Fr.app N77 N78q
            have pre79 : ∀ tt, Steps p.tables e below (T78.setTop (mkF m 130 #[.val (.int p1), .val (.int p2), .val (.int p3), .val (.int p4), .val (.int p5), .val (.int p1), .val (.int p4), .val (.ref b66), .val (.int (p5 &&& (3 : Int32))), .val (.ref bo77), .unset] [(.int (1 : Int32))])) tt → Steps p.tables e below (s₁.setTop (entryFrame m #[(.int p1), (.int p2), (.int p3), (.int p4), (.int p5)] maxLocals)) tt := by
              intro tt kt
              refine pre75 tt ?_
              show Steps p.tables e below (T67.setTop (mkF m 92 #[.val (.int p1), .val (.int p2), .val (.int p3), .val (.int p4), .val (.int p5), .val (.int p1), .val (.int p4), .val (.ref b66), .val (.int (p5 &&& (3 : Int32))), .unset, .unset] [(.int ((p5 >>> ((4 : Int32) &&& 31)) &&& (1 : Int32)))])) _
              refine XS.ifYes X67.here hx rfl (pc0 := 92) (pc' := 109) rfl (hb hby at_92) rfl ((if0 _ _).trans (teq c92_76).1) (by decide) (by decide) ?_
              show Steps p.tables e below (T67.setTop (mkF m 109 #[.val (.int p1), .val (.int p2), .val (.int p3), .val (.int p4), .val (.int p5), .val (.int p1), .val (.int p4), .val (.ref b66), .val (.int (p5 &&& (3 : Int32))), .unset, .unset] [])) _
              refine XS.iloadN X67.here hx rfl (hb hby at_109) rfl ?_
              show Steps p.tables e below (T67.setTop (mkF m 110 #[.val (.int p1), .val (.int p2), .val (.int p3), .val (.int p4), .val (.int p5), .val (.int p1), .val (.int p4), .val (.ref b66), .val (.int (p5 &&& (3 : Int32))), .unset, .unset] [(.int p1)])) _
              refine st77 _ ?_
              show Steps p.tables e below (T77.setTop (mkF m 113 #[.val (.int p1), .val (.int p2), .val (.int p3), .val (.int p4), .val (.int p5), .val (.int p1), .val (.int p4), .val (.ref b66), .val (.int (p5 &&& (3 : Int32))), .unset, .unset] [(.ref bo77)])) _
              refine XS.astore X77.here hx rfl (hb hby at_113) rfl rfl (l' := #[.val (.int p1), .val (.int p2), .val (.int p3), .val (.int p4), .val (.int p5), .val (.int p1), .val (.int p4), .val (.ref b66), .val (.int (p5 &&& (3 : Int32))), .val (.ref bo77), .unset]) rfl ?_
              show Steps p.tables e below (T77.setTop (mkF m 115 #[.val (.int p1), .val (.int p2), .val (.int p3), .val (.int p4), .val (.int p5), .val (.int p1), .val (.int p4), .val (.ref b66), .val (.int (p5 &&& (3 : Int32))), .val (.ref bo77), .unset] [])) _
              refine XS.aload X77.here hx rfl (hb hby at_115) rfl rfl ?_
              show Steps p.tables e below (T77.setTop (mkF m 117 #[.val (.int p1), .val (.int p2), .val (.int p3), .val (.int p4), .val (.int p5), .val (.int p1), .val (.int p4), .val (.ref b66), .val (.int (p5 &&& (3 : Int32))), .val (.ref bo77), .unset] [(.ref b66)])) _
              refine XS.aload X77.here hx rfl (hb hby at_117) rfl rfl ?_
              show Steps p.tables e below (T77.setTop (mkF m 119 #[.val (.int p1), .val (.int p2), .val (.int p3), .val (.int p4), .val (.int p5), .val (.int p1), .val (.int p4), .val (.ref b66), .val (.int (p5 &&& (3 : Int32))), .val (.ref bo77), .unset] [(.ref bo77), (.ref b66)])) _
              refine st78.trans ?_
              show Steps p.tables e below (T78.setTop (mkF m 122 #[.val (.int p1), .val (.int p2), .val (.int p3), .val (.int p4), .val (.int p5), .val (.int p1), .val (.int p4), .val (.ref b66), .val (.int (p5 &&& (3 : Int32))), .val (.ref bo77), .unset] [(.int (0 : Int32))])) _
              refine XS.ifNo X78.here hx rfl (hb hby at_122) rfl ((if0 _ _).trans (teq (rfl : (0 : Int32) = (0 : Int32))).2) ?_
              show Steps p.tables e below (T78.setTop (mkF m 125 #[.val (.int p1), .val (.int p2), .val (.int p3), .val (.int p4), .val (.int p5), .val (.int p1), .val (.int p4), .val (.ref b66), .val (.int (p5 &&& (3 : Int32))), .val (.ref bo77), .unset] [])) _
              refine XS.iconst X78.here hx rfl (hb hby at_125) ?_
              show Steps p.tables e below (T78.setTop (mkF m 126 #[.val (.int p1), .val (.int p2), .val (.int p3), .val (.int p4), .val (.int p5), .val (.int p1), .val (.int p4), .val (.ref b66), .val (.int (p5 &&& (3 : Int32))), .val (.ref bo77), .unset] [(.int (1 : Int32))])) _
              refine XS.goto X78.here hx rfl (pc0 := 126) (pc' := 130) rfl (hb hby at_126) (by decide) (by decide) ?_
              exact kt
            obtain ⟨fs, hr, hrun, hended, hW, hsame⟩ := X78.leave (v := some (.int (1 : Int32))) (fun h => by rw [Bd.returns] at h; cases h)
            refine ⟨_, _, pre79 _ ?_, hrun, hended, _, _, rfl, ?_, ⟨_, rfl⟩, hW, hsame.mono (by decide) (by decide)⟩
            · show Steps p.tables e below (T78.setTop (mkF m 130 #[.val (.int p1), .val (.int p2), .val (.int p3), .val (.int p4), .val (.int p5), .val (.int p1), .val (.int p4), .val (.ref b66), .val (.int (p5 &&& (3 : Int32))), .val (.ref bo77), .unset] [(.int (1 : Int32))])) _
              exact retN X78 hx (t := .boolean) Bd.returns (by simp) (hb hby at_130) hr
            · show Q0 Z h0 n0 _ T78.heap _
              rw [hE78]
              exact ⟨rfl, N78⟩
          · have hp80 := own_c255 p3
            obtain ⟨_, _, ⟨T80, L80, k80, n80⟩, -, X80, ⟨Lc80, hQ80, l80, y80, z80⟩, st80⟩ := Jvm.LawKit.callS X67 hx (y := (⟨"java/lang/String", "valueOf", "(C)Ljava/lang/String;"⟩ : MethodName)) hown (mvT hZ (hw _ (List.mem_of_getElem? (i := 45) rfl))) (mvT hZ (hw _ (List.mem_of_getElem? (i := 46) rfl))) (mvT hZ (hw _ (List.mem_of_getElem? (i := 47) rfl))) (mvT hZ (hw _ (List.mem_of_getElem? (i := 48) rfl))) (by decide) (backOf (W := 0) (rmVC l Z a0 hw [] ((p3 &&& (255 : Int32)).toUInt32.toUInt16.toUInt32.toInt32) cs T67.heap n0 (Nat.le_trans (Nat.le_trans Z0 E66.1) K67.1) (own_staK (Sta.ext E66 S_cs) K67 (allS ⟨_, A66⟩ all0)) hcs hp80) hZ (hw _ (List.mem_of_getElem? (i := 48) rfl)) (hw _ (List.mem_of_getElem? (i := 47) rfl)) (by decide) (by decide)) (g := (mkF m 101 #[.val (.int p1), .val (.int p2), .val (.int p3), .val (.int p4), .val (.int p5), .val (.int p1), .val (.int p4), .val (.ref b66), .val (.int (p5 &&& (3 : Int32))), .unset, .unset] [(.int ((p3 &&& (255 : Int32)).toUInt32.toUInt16.toUInt32.toInt32))])) rfl (by rw [hml]; rfl) (argsL := [(.int ((p3 &&& (255 : Int32)).toUInt32.toUInt16.toUInt32.toInt32))]) (rest := []) (lenOf pd_rm0_3 rfl) rfl (by show 2 * 0 + _ ≤ _; exact Nat.le_of_eq rfl) (hb hby at_101) (fun _ _ => ⟨rfl, rfl, (by decide : 1 + 2 ≤ _), (by decide : 2 + 5 ≤ _)⟩)
            dsimp only [Pt.U, Pt.locs, Pt.cells, Pt.slots] at X80 l80 y80 z80 st80 hQ80
            subst l80 y80 z80
            obtain ⟨bo80, rfl, N80q, K80, Eo80⟩ := hQ80
            have N80 := Fr.app N67 N80q
            obtain ⟨cq81, kq81, q81a, q81b, q81c⟩ := isOf hZ rfl (Ei67.keep K80)
            obtain ⟨_, _, ⟨T81, L81, k81, n81⟩, -, X81, ⟨Lc81, hQ81, l81, y81, z81⟩, st81⟩ := X80.virtualBack hx (y := (⟨"com/example/keyturn/keyturn/signing/SdkRange", "equals", "(Ljava/lang/Object;)Z"⟩ : MethodName)) (z := (⟨"com/example/keyturn/keyturn/signing/SdkRange", "equals", "(Ljava/lang/Object;)Z"⟩ : MethodName)) hown (mvT hZ (hw _ (List.mem_of_getElem? (i := 13) rfl))) (mvT hZ (hw _ (List.mem_of_getElem? (i := 14) rfl))) (notFace_of_selects (args := #[]) (mvT hZ (hw _ (List.mem_of_getElem? (i := 16) rfl)))) (mvT hZ (hw _ (List.mem_of_getElem? (i := 16) rfl))) (mvT hZ (hw _ (List.mem_of_getElem? (i := 15) rfl))) (by decide) (backOf (W := 0) (rmEX l Z a0 hw [] b66 bo80 "java/lang/String" T80.heap n0 (Nat.le_trans (Nat.le_trans (Nat.le_trans Z0 E66.1) K67.1) K80.1) Eo80 (own_noS hw)) hZ (hw _ (List.mem_of_getElem? (i := 17) rfl)) (hw _ (List.mem_of_getElem? (i := 2) rfl)) (by decide) (by decide)) q81a q81c (g := (mkF m 119 #[.val (.int p1), .val (.int p2), .val (.int p3), .val (.int p4), .val (.int p5), .val (.int p1), .val (.int p4), .val (.ref b66), .val (.int (p5 &&& (3 : Int32))), .val (.ref bo80), .unset] [(.ref bo80), (.ref b66)])) rfl (by rw [hml]; rfl) (Steps.refl _) (argsL := [(.ref bo80)]) (rest := []) (lenOf pd_rm0_1 rfl) rfl (by show 2 * 0 + _ ≤ _; exact Nat.le_of_eq rfl) (hb hby at_119) (fun _ _ => ⟨rfl, rfl, (by decide : 3 + 0 ≤ _), (by decide : 7 + 0 ≤ _)⟩)
            dsimp only [Pt.U, Pt.locs, Pt.cells, Pt.slots] at X81 l81 y81 z81 st81 hQ81
            subst l81 y81 z81
            obtain ⟨rfl, N81q, hE81⟩ := hQ81
            have N81 := Fr.app N80 N81q
            have pre82 : ∀ tt, Steps p.tables e below (T81.setTop (mkF m 130 #[.val (.int p1), .val (.int p2), .val (.int p3), .val (.int p4), .val (.int p5), .val (.int p1), .val (.int p4), .val (.ref b66), .val (.int (p5 &&& (3 : Int32))), .val (.ref bo80), .unset] [(.int (1 : Int32))])) tt → Steps p.tables e below (s₁.setTop (entryFrame m #[(.int p1), (.int p2), (.int p3), (.int p4), (.int p5)] maxLocals)) tt := by
              intro tt kt
              refine pre75 tt ?_
              show Steps p.tables e below (T67.setTop (mkF m 92 #[.val (.int p1), .val (.int p2), .val (.int p3), .val (.int p4), .val (.int p5), .val (.int p1), .val (.int p4), .val (.ref b66), .val (.int (p5 &&& (3 : Int32))), .unset, .unset] [(.int ((p5 >>> ((4 : Int32) &&& 31)) &&& (1 : Int32)))])) _
              refine XS.ifNo X67.here hx rfl (hb hby at_92) rfl ((if0 _ _).trans (feq c92_76).1) ?_
              show Steps p.tables e below (T67.setTop (mkF m 95 #[.val (.int p1), .val (.int p2), .val (.int p3), .val (.int p4), .val (.int p5), .val (.int p1), .val (.int p4), .val (.ref b66), .val (.int (p5 &&& (3 : Int32))), .unset, .unset] [])) _
              refine XS.iloadN X67.here hx rfl (hb hby at_95) rfl ?_
              show Steps p.tables e below (T67.setTop (mkF m 96 #[.val (.int p1), .val (.int p2), .val (.int p3), .val (.int p4), .val (.int p5), .val (.int p1), .val (.int p4), .val (.ref b66), .val (.int (p5 &&& (3 : Int32))), .unset, .unset] [(.int p3)])) _
              refine XS.sipush X67.here hx rfl (hb hby at_96) ?_
              show Steps p.tables e below (T67.setTop (mkF m 99 #[.val (.int p1), .val (.int p2), .val (.int p3), .val (.int p4), .val (.int p5), .val (.int p1), .val (.int p4), .val (.ref b66), .val (.int (p5 &&& (3 : Int32))), .unset, .unset] [(.int (255 : Int32)), (.int p3)])) _
              refine XS.iand X67.here hx rfl (hb hby at_99) rfl ?_
              show Steps p.tables e below (T67.setTop (mkF m 100 #[.val (.int p1), .val (.int p2), .val (.int p3), .val (.int p4), .val (.int p5), .val (.int p1), .val (.int p4), .val (.ref b66), .val (.int (p5 &&& (3 : Int32))), .unset, .unset] [(.int (p3 &&& (255 : Int32)))])) _
              refine XS.i2c X67.here hx rfl (hb hby at_100) rfl ?_
              show Steps p.tables e below (T67.setTop (mkF m 101 #[.val (.int p1), .val (.int p2), .val (.int p3), .val (.int p4), .val (.int p5), .val (.int p1), .val (.int p4), .val (.ref b66), .val (.int (p5 &&& (3 : Int32))), .unset, .unset] [(.int ((p3 &&& (255 : Int32)).toUInt32.toUInt16.toUInt32.toInt32))])) _
              refine st80 _ ?_
              show Steps p.tables e below (T80.setTop (mkF m 104 #[.val (.int p1), .val (.int p2), .val (.int p3), .val (.int p4), .val (.int p5), .val (.int p1), .val (.int p4), .val (.ref b66), .val (.int (p5 &&& (3 : Int32))), .unset, .unset] [(.ref bo80)])) _
              refine XS.astore X80.here hx rfl (hb hby at_104) rfl rfl (l' := #[.val (.int p1), .val (.int p2), .val (.int p3), .val (.int p4), .val (.int p5), .val (.int p1), .val (.int p4), .val (.ref b66), .val (.int (p5 &&& (3 : Int32))), .val (.ref bo80), .unset]) rfl ?_
              show Steps p.tables e below (T80.setTop (mkF m 106 #[.val (.int p1), .val (.int p2), .val (.int p3), .val (.int p4), .val (.int p5), .val (.int p1), .val (.int p4), .val (.ref b66), .val (.int (p5 &&& (3 : Int32))), .val (.ref bo80), .unset] [])) _
              refine XS.goto X80.here hx rfl (pc0 := 106) (pc' := 115) rfl (hb hby at_106) (by decide) (by decide) ?_
              show Steps p.tables e below (T80.setTop (mkF m 115 #[.val (.int p1), .val (.int p2), .val (.int p3), .val (.int p4), .val (.int p5), .val (.int p1), .val (.int p4), .val (.ref b66), .val (.int (p5 &&& (3 : Int32))), .val (.ref bo80), .unset] [])) _
              refine XS.aload X80.here hx rfl (hb hby at_115) rfl rfl ?_
              show Steps p.tables e below (T80.setTop (mkF m 117 #[.val (.int p1), .val (.int p2), .val (.int p3), .val (.int p4), .val (.int p5), .val (.int p1), .val (.int p4), .val (.ref b66), .val (.int (p5 &&& (3 : Int32))), .val (.ref bo80), .unset] [(.ref b66)])) _
              refine XS.aload X80.here hx rfl (hb hby at_117) rfl rfl ?_
              show Steps p.tables e below (T80.setTop (mkF m 119 #[.val (.int p1), .val (.int p2), .val (.int p3), .val (.int p4), .val (.int p5), .val (.int p1), .val (.int p4), .val (.ref b66), .val (.int (p5 &&& (3 : Int32))), .val (.ref bo80), .unset] [(.ref bo80), (.ref b66)])) _
              refine st81.trans ?_
              show Steps p.tables e below (T81.setTop (mkF m 122 #[.val (.int p1), .val (.int p2), .val (.int p3), .val (.int p4), .val (.int p5), .val (.int p1), .val (.int p4), .val (.ref b66), .val (.int (p5 &&& (3 : Int32))), .val (.ref bo80), .unset] [(.int (0 : Int32))])) _
              refine XS.ifNo X81.here hx rfl (hb hby at_122) rfl ((if0 _ _).trans (teq (rfl : (0 : Int32) = (0 : Int32))).2) ?_
              show Steps p.tables e below (T81.setTop (mkF m 125 #[.val (.int p1), .val (.int p2), .val (.int p3), .val (.int p4), .val (.int p5), .val (.int p1), .val (.int p4), .val (.ref b66), .val (.int (p5 &&& (3 : Int32))), .val (.ref bo80), .unset] [])) _
              refine XS.iconst X81.here hx rfl (hb hby at_125) ?_
              show Steps p.tables e below (T81.setTop (mkF m 126 #[.val (.int p1), .val (.int p2), .val (.int p3), .val (.int p4), .val (.int p5), .val (.int p1), .val (.int p4), .val (.ref b66), .val (.int (p5 &&& (3 : Int32))), .val (.ref bo80), .unset] [(.int (1 : Int32))])) _
              refine XS.goto X81.here hx rfl (pc0 := 126) (pc' := 130) rfl (hb hby at_126) (by decide) (by decide) ?_
              exact kt
            obtain ⟨fs, hr, hrun, hended, hW, hsame⟩ := X81.leave (v := some (.int (1 : Int32))) (fun h => by rw [Bd.returns] at h; cases h)
            refine ⟨_, _, pre82 _ ?_, hrun, hended, _, _, rfl, ?_, ⟨_, rfl⟩, hW, hsame.mono (by decide) (by decide)⟩
            · show Steps p.tables e below (T81.setTop (mkF m 130 #[.val (.int p1), .val (.int p2), .val (.int p3), .val (.int p4), .val (.int p5), .val (.int p1), .val (.int p4), .val (.ref b66), .val (.int (p5 &&& (3 : Int32))), .val (.ref bo80), .unset] [(.int (1 : Int32))])) _
              exact retN X81 hx (t := .boolean) Bd.returns (by simp) (hb hby at_130) hr
            · show Q0 Z h0 n0 _ T81.heap _
              rw [hE81]
              exact ⟨rfl, N81⟩
        · obtain ⟨T83, h83, X83, e83, E83, A83, D83, -, st83⟩ := newO X67 hx hZ hown (hw _ (List.mem_of_getElem? (i := 0) rfl)) (hw _ (List.mem_of_getElem? (i := 1) rfl)) (hw _ (List.mem_of_getElem? (i := 2) rfl)) rfl (g := (mkF m 131 #[.val (.int p1), .val (.int p2), .val (.int p3), .val (.int p4), .val (.int p5), .val (.int p1), .val (.int p4), .val (.ref b66), .val (.int (p5 &&& (3 : Int32))), .unset, .unset] [])) rfl (hb hby at_131) (by decide) (by decide)
          obtain ⟨b83, g83⟩ : ∃ z, z = T67.heap.size := ⟨_, rfl⟩
          rw [← g83] at A83 D83 st83
          have g_b83 : n0 ≤ b83 := Nat.le_trans (Nat.le_trans (Nat.le_trans Z0 E66.1) K67.1) (Nat.le_of_eq g83.symm)
          have sz_b83 : h0.size ≤ b83 := Nat.le_trans (KK67).1 (Nat.le_of_eq g83.symm)
          have K83 : Keep h0 h83 [] := (KK67).ext E83
          have F_min_b83 : Fld Z h83 b83 "com/example/keyturn/keyturn/signing/SdkRange" "min" "I" (.int (0 : Int32)) := D83 (Or.inr (hw _ (List.mem_of_getElem? (i := 10) rfl))) (ty := .int) (by decide)
          have F_max_b83 : Fld Z h83 b83 "com/example/keyturn/keyturn/signing/SdkRange" "max" "I" (.int (0 : Int32)) := D83 (Or.inr (hw _ (List.mem_of_getElem? (i := 12) rfl))) (ty := .int) (by decide)
          obtain ⟨_, _, ⟨T84, L84, k84, n84⟩, -, X84, ⟨Lc84, hQ84, l84, y84, z84⟩, st84⟩ := X83.specialBack hx (y := (⟨"com/example/keyturn/keyturn/signing/SdkRange", "<init>", "(II)V"⟩ : MethodName)) rfl hown (mvT hZ (hw _ (List.mem_of_getElem? (i := 3) rfl))) (mvT hZ (hw _ (List.mem_of_getElem? (i := 4) rfl))) (mvT hZ (hw _ (List.mem_of_getElem? (i := 5) rfl))) (by decide) (backOf (W := 1) (rmC l Z a0 hw [] b83 p1 p4 h83 n0 (Nat.le_trans (Nat.le_trans (Nat.le_trans Z0 E66.1) K67.1) E83.1) A83 F_min_b83 F_max_b83 g_b83) hZ (hw _ (List.mem_of_getElem? (i := 5) rfl)) (hw _ (List.mem_of_getElem? (i := 2) rfl)) (by decide) (by decide)) (g := (mkF m 139 #[.val (.int p1), .val (.int p2), .val (.int p3), .val (.int p4), .val (.int p5), .val (.int p1), .val (.int p4), .val (.ref b66), .val (.int (p5 &&& (3 : Int32))), .unset, .unset] [(.int p4), (.int p1), (.ref b83), (.ref b83)])) rfl (by rw [hml]; rfl) (Steps.refl _) (a := b83) (argsL := [(.int p1), (.int p4)]) (rest := [(.ref b83)]) (lenOf pd_rm0_0 rfl) rfl (by show 2 * 0 + _ ≤ _; exact Nat.le_of_eq rfl) (hb hby at_139) (fun _ _ => ⟨rfl, e83, (by decide : 2 + 0 ≤ _), (by decide : 4 + 0 ≤ _)⟩)
          dsimp only [Pt.U, Pt.locs, Pt.cells, Pt.slots] at X84 l84 y84 z84 st84 hQ84
          subst l84 y84 z84
          obtain ⟨rfl, N84q, K84, Ei84, Fm84, Fx84⟩ := hQ84
          have N84 := Fr.app N67 N84q
          have KK84 : Keep h0 T84.heap [] := (K83).trans K84 (allS (Or.inr sz_b83) all0)
          have pre85 : ∀ tt, Steps p.tables e below (T84.setTop (mkF m 153 #[.val (.int p1), .val (.int p2), .val (.int p3), .val (.int p4), .val (.int p5), .val (.int p1), .val (.int p4), .val (.ref b66), .val (.int (p5 &&& (3 : Int32))), .val (.ref b83), .unset] [(.int p4), (.int p2)])) tt → Steps p.tables e below (s₁.setTop (entryFrame m #[(.int p1), (.int p2), (.int p3), (.int p4), (.int p5)] maxLocals)) tt := by
            intro tt kt
            refine pre73 tt ?_
            show Steps p.tables e below (T67.setTop (mkF m 83 #[.val (.int p1), .val (.int p2), .val (.int p3), .val (.int p4), .val (.int p5), .val (.int p1), .val (.int p4), .val (.ref b66), .val (.int (p5 &&& (3 : Int32))), .unset, .unset] [(.int (2 : Int32)), (.int (p5 &&& (3 : Int32)))])) _
            refine XS.icmpYes X67.here hx rfl (pc0 := 83) (pc' := 131) rfl (hb hby at_83) rfl (feq c83_74).2 (by decide) (by decide) ?_
            show Steps p.tables e below (T67.setTop (mkF m 131 #[.val (.int p1), .val (.int p2), .val (.int p3), .val (.int p4), .val (.int p5), .val (.int p1), .val (.int p4), .val (.ref b66), .val (.int (p5 &&& (3 : Int32))), .unset, .unset] [])) _
            refine st83 _ ?_
            show Steps p.tables e below (T83.setTop (mkF m 134 #[.val (.int p1), .val (.int p2), .val (.int p3), .val (.int p4), .val (.int p5), .val (.int p1), .val (.int p4), .val (.ref b66), .val (.int (p5 &&& (3 : Int32))), .unset, .unset] [(.ref b83)])) _
            refine XS.dup X83.here hx rfl (hb hby at_134) rfl rfl ?_
            show Steps p.tables e below (T83.setTop (mkF m 135 #[.val (.int p1), .val (.int p2), .val (.int p3), .val (.int p4), .val (.int p5), .val (.int p1), .val (.int p4), .val (.ref b66), .val (.int (p5 &&& (3 : Int32))), .unset, .unset] [(.ref b83), (.ref b83)])) _
            refine XS.iload X83.here hx rfl (hb hby at_135) rfl ?_
            show Steps p.tables e below (T83.setTop (mkF m 137 #[.val (.int p1), .val (.int p2), .val (.int p3), .val (.int p4), .val (.int p5), .val (.int p1), .val (.int p4), .val (.ref b66), .val (.int (p5 &&& (3 : Int32))), .unset, .unset] [(.int p1), (.ref b83), (.ref b83)])) _
            refine XS.iload X83.here hx rfl (hb hby at_137) rfl ?_
            show Steps p.tables e below (T83.setTop (mkF m 139 #[.val (.int p1), .val (.int p2), .val (.int p3), .val (.int p4), .val (.int p5), .val (.int p1), .val (.int p4), .val (.ref b66), .val (.int (p5 &&& (3 : Int32))), .unset, .unset] [(.int p4), (.int p1), (.ref b83), (.ref b83)])) _
            refine st84.trans ?_
            show Steps p.tables e below (T84.setTop (mkF m 142 #[.val (.int p1), .val (.int p2), .val (.int p3), .val (.int p4), .val (.int p5), .val (.int p1), .val (.int p4), .val (.ref b66), .val (.int (p5 &&& (3 : Int32))), .unset, .unset] [(.ref b83)])) _
            refine XS.astore X84.here hx rfl (hb hby at_142) rfl rfl (l' := #[.val (.int p1), .val (.int p2), .val (.int p3), .val (.int p4), .val (.int p5), .val (.int p1), .val (.int p4), .val (.ref b66), .val (.int (p5 &&& (3 : Int32))), .val (.ref b83), .unset]) rfl ?_
            show Steps p.tables e below (T84.setTop (mkF m 144 #[.val (.int p1), .val (.int p2), .val (.int p3), .val (.int p4), .val (.int p5), .val (.int p1), .val (.int p4), .val (.ref b66), .val (.int (p5 &&& (3 : Int32))), .val (.ref b83), .unset] [])) _
            refine XS.iloadN X84.here hx rfl (hb hby at_144) rfl ?_
            show Steps p.tables e below (T84.setTop (mkF m 145 #[.val (.int p1), .val (.int p2), .val (.int p3), .val (.int p4), .val (.int p5), .val (.int p1), .val (.int p4), .val (.ref b66), .val (.int (p5 &&& (3 : Int32))), .val (.ref b83), .unset] [(.int p1)])) _
            refine XS.iload X84.here hx rfl (hb hby at_145) rfl ?_
            show Steps p.tables e below (T84.setTop (mkF m 147 #[.val (.int p1), .val (.int p2), .val (.int p3), .val (.int p4), .val (.int p5), .val (.int p1), .val (.int p4), .val (.ref b66), .val (.int (p5 &&& (3 : Int32))), .val (.ref b83), .unset] [(.int p1), (.int p1)])) _
            refine XS.icmpNo X84.here hx rfl (hb hby at_147) rfl (teq (rfl : p1 = p1)).2 ?_
            show Steps p.tables e below (T84.setTop (mkF m 150 #[.val (.int p1), .val (.int p2), .val (.int p3), .val (.int p4), .val (.int p5), .val (.int p1), .val (.int p4), .val (.ref b66), .val (.int (p5 &&& (3 : Int32))), .val (.ref b83), .unset] [])) _
            refine XS.iloadN X84.here hx rfl (hb hby at_150) rfl ?_
            show Steps p.tables e below (T84.setTop (mkF m 151 #[.val (.int p1), .val (.int p2), .val (.int p3), .val (.int p4), .val (.int p5), .val (.int p1), .val (.int p4), .val (.ref b66), .val (.int (p5 &&& (3 : Int32))), .val (.ref b83), .unset] [(.int p2)])) _
            refine XS.iload X84.here hx rfl (hb hby at_151) rfl ?_
            exact kt
          by_cases c153_86 : p2 = p4
          · obtain ⟨cq87, kq87, q87a, q87b, q87c⟩ := isOf hZ rfl ((Exa.ext E83 Ei67).keep K84)
            obtain ⟨_, _, ⟨T87, L87, k87, n87⟩, -, X87, ⟨Lc87, hQ87, l87, y87, z87⟩, st87⟩ := X84.virtualBack hx (y := (⟨"com/example/keyturn/keyturn/signing/SdkRange", "equals", "(Ljava/lang/Object;)Z"⟩ : MethodName)) (z := (⟨"com/example/keyturn/keyturn/signing/SdkRange", "equals", "(Ljava/lang/Object;)Z"⟩ : MethodName)) hown (mvT hZ (hw _ (List.mem_of_getElem? (i := 13) rfl))) (mvT hZ (hw _ (List.mem_of_getElem? (i := 14) rfl))) (notFace_of_selects (args := #[]) (mvT hZ (hw _ (List.mem_of_getElem? (i := 16) rfl)))) (mvT hZ (hw _ (List.mem_of_getElem? (i := 16) rfl))) (mvT hZ (hw _ (List.mem_of_getElem? (i := 15) rfl))) (by decide) (backOf (W := 0) (rmE l Z a0 hw [] b66 b83 p1 p2 p1 p4 (1 : Int32) T84.heap n0 (Nat.le_trans (Nat.le_trans (Nat.le_trans (Nat.le_trans Z0 E66.1) K67.1) E83.1) K84.1) Ei84 ((Fld.ext E83 Fm67).keep K84 (ninS (Nat.ne_of_lt (Nat.lt_of_lt_of_le (Ei67).lt (Nat.le_of_eq g83.symm))) nin0)) ((Fld.ext E83 Fx67).keep K84 (ninS (Nat.ne_of_lt (Nat.lt_of_lt_of_le (Ei67).lt (Nat.le_of_eq g83.symm))) nin0)) Fm84 Fx84 (by rw [if_pos (rfl : p1 = p1), if_pos c153_86])) hZ (hw _ (List.mem_of_getElem? (i := 17) rfl)) (hw _ (List.mem_of_getElem? (i := 2) rfl)) (by decide) (by decide)) q87a q87c (g := (mkF m 167 #[.val (.int p1), .val (.int p2), .val (.int p3), .val (.int p4), .val (.int p5), .val (.int p1), .val (.int p4), .val (.ref b66), .val (.int (p5 &&& (3 : Int32))), .val (.ref b83), .val (.int (1 : Int32))] [(.ref b83), (.ref b66)])) rfl (by rw [hml]; rfl) (Steps.refl _) (argsL := [(.ref b83)]) (rest := []) (lenOf pd_rm0_1 rfl) rfl (by show 2 * 0 + _ ≤ _; exact Nat.le_of_eq rfl) (hb hby at_167) (fun _ _ => ⟨rfl, rfl, (by decide : 2 + 0 ≤ _), (by decide : 4 + 0 ≤ _)⟩)
            dsimp only [Pt.U, Pt.locs, Pt.cells, Pt.slots] at X87 l87 y87 z87 st87 hQ87
            subst l87 y87 z87
            obtain ⟨rfl, N87q, hE87⟩ := hQ87
            have N87 := Fr.app N84 N87q
            obtain ⟨cq88, kq88, q88a, q88b, q88c⟩ := isOf hZ hE87 Ei84
            obtain ⟨_, _, ⟨T88, L88, k88, n88⟩, -, X88, ⟨Lc88, hQ88, l88, y88, z88⟩, st88⟩ := X87.virtualBack hx (y := (⟨"com/example/keyturn/keyturn/signing/SdkRange", "equals", "(Ljava/lang/Object;)Z"⟩ : MethodName)) (z := (⟨"com/example/keyturn/keyturn/signing/SdkRange", "equals", "(Ljava/lang/Object;)Z"⟩ : MethodName)) hown (mvT hZ (hw _ (List.mem_of_getElem? (i := 13) rfl))) (mvT hZ (hw _ (List.mem_of_getElem? (i := 14) rfl))) (notFace_of_selects (args := #[]) (mvT hZ (hw _ (List.mem_of_getElem? (i := 16) rfl)))) (mvT hZ (hw _ (List.mem_of_getElem? (i := 16) rfl))) (mvT hZ (hw _ (List.mem_of_getElem? (i := 15) rfl))) (by decide) (backOf (W := 0) (rmE l Z a0 hw [] b83 b66 p1 p4 p1 p2 (1 : Int32) T84.heap n0 (Nat.le_trans (Nat.le_trans (Nat.le_trans (Nat.le_trans Z0 E66.1) K67.1) E83.1) K84.1) ((Exa.ext E83 Ei67).keep K84) Fm84 Fx84 ((Fld.ext E83 Fm67).keep K84 (ninS (Nat.ne_of_lt (Nat.lt_of_lt_of_le (Ei67).lt (Nat.le_of_eq g83.symm))) nin0)) ((Fld.ext E83 Fx67).keep K84 (ninS (Nat.ne_of_lt (Nat.lt_of_lt_of_le (Ei67).lt (Nat.le_of_eq g83.symm))) nin0)) (by rw [if_pos (rfl : p1 = p1), if_pos (c153_86).symm])) hZ (hw _ (List.mem_of_getElem? (i := 17) rfl)) (hw _ (List.mem_of_getElem? (i := 2) rfl)) (by decide) (by decide)) q88a q88c (g := (mkF m 179 #[.val (.int p1), .val (.int p2), .val (.int p3), .val (.int p4), .val (.int p5), .val (.int p1), .val (.int p4), .val (.ref b66), .val (.int (p5 &&& (3 : Int32))), .val (.ref b83), .val (.int (1 : Int32))] [(.ref b66), (.ref b83)])) rfl (by rw [hml]; rfl) (Steps.refl _) (argsL := [(.ref b66)]) (rest := []) (lenOf pd_rm0_1 rfl) rfl (by show 2 * 0 + _ ≤ _; exact Nat.le_of_eq rfl) (hb hby at_179) (fun _ _ => ⟨rfl, hE87, (by decide : 2 + 0 ≤ _), (by decide : 4 + 0 ≤ _)⟩)
            dsimp only [Pt.U, Pt.locs, Pt.cells, Pt.slots] at X88 l88 y88 z88 st88 hQ88
            subst l88 y88 z88
            obtain ⟨rfl, N88q, hE88⟩ := hQ88
            have N88 := Fr.app N87 N88q
            have pre89 : ∀ tt, Steps p.tables e below (T88.setTop (mkF m 192 #[.val (.int p1), .val (.int p2), .val (.int p3), .val (.int p4), .val (.int p5), .val (.int p1), .val (.int p4), .val (.ref b66), .val (.int (p5 &&& (3 : Int32))), .val (.ref b83), .val (.int (1 : Int32))] [(.int (1 : Int32))])) tt → Steps p.tables e below (s₁.setTop (entryFrame m #[(.int p1), (.int p2), (.int p3), (.int p4), (.int p5)] maxLocals)) tt := by
              intro tt kt
              refine pre85 tt ?_
              show Steps p.tables e below (T84.setTop (mkF m 153 #[.val (.int p1), .val (.int p2), .val (.int p3), .val (.int p4), .val (.int p5), .val (.int p1), .val (.int p4), .val (.ref b66), .val (.int (p5 &&& (3 : Int32))), .val (.ref b83), .unset] [(.int p4), (.int p2)])) _
              refine XS.icmpNo X84.here hx rfl (hb hby at_153) rfl (teq c153_86).2 ?_
              show Steps p.tables e below (T84.setTop (mkF m 156 #[.val (.int p1), .val (.int p2), .val (.int p3), .val (.int p4), .val (.int p5), .val (.int p1), .val (.int p4), .val (.ref b66), .val (.int (p5 &&& (3 : Int32))), .val (.ref b83), .unset] [])) _
              refine XS.iconst X84.here hx rfl (hb hby at_156) ?_
              show Steps p.tables e below (T84.setTop (mkF m 157 #[.val (.int p1), .val (.int p2), .val (.int p3), .val (.int p4), .val (.int p5), .val (.int p1), .val (.int p4), .val (.ref b66), .val (.int (p5 &&& (3 : Int32))), .val (.ref b83), .unset] [(.int (1 : Int32))])) _
              refine XS.goto X84.here hx rfl (pc0 := 157) (pc' := 161) rfl (hb hby at_157) (by decide) (by decide) ?_
              show Steps p.tables e below (T84.setTop (mkF m 161 #[.val (.int p1), .val (.int p2), .val (.int p3), .val (.int p4), .val (.int p5), .val (.int p1), .val (.int p4), .val (.ref b66), .val (.int (p5 &&& (3 : Int32))), .val (.ref b83), .unset] [(.int (1 : Int32))])) _
              refine XS.istore X84.here hx rfl (hb hby at_161) rfl (l' := #[.val (.int p1), .val (.int p2), .val (.int p3), .val (.int p4), .val (.int p5), .val (.int p1), .val (.int p4), .val (.ref b66), .val (.int (p5 &&& (3 : Int32))), .val (.ref b83), .val (.int (1 : Int32))]) rfl ?_
              show Steps p.tables e below (T84.setTop (mkF m 163 #[.val (.int p1), .val (.int p2), .val (.int p3), .val (.int p4), .val (.int p5), .val (.int p1), .val (.int p4), .val (.ref b66), .val (.int (p5 &&& (3 : Int32))), .val (.ref b83), .val (.int (1 : Int32))] [])) _
              refine XS.aload X84.here hx rfl (hb hby at_163) rfl rfl ?_
              show Steps p.tables e below (T84.setTop (mkF m 165 #[.val (.int p1), .val (.int p2), .val (.int p3), .val (.int p4), .val (.int p5), .val (.int p1), .val (.int p4), .val (.ref b66), .val (.int (p5 &&& (3 : Int32))), .val (.ref b83), .val (.int (1 : Int32))] [(.ref b66)])) _
              refine XS.aload X84.here hx rfl (hb hby at_165) rfl rfl ?_
              show Steps p.tables e below (T84.setTop (mkF m 167 #[.val (.int p1), .val (.int p2), .val (.int p3), .val (.int p4), .val (.int p5), .val (.int p1), .val (.int p4), .val (.ref b66), .val (.int (p5 &&& (3 : Int32))), .val (.ref b83), .val (.int (1 : Int32))] [(.ref b83), (.ref b66)])) _
              refine st87.trans ?_
              show Steps p.tables e below (T87.setTop (mkF m 170 #[.val (.int p1), .val (.int p2), .val (.int p3), .val (.int p4), .val (.int p5), .val (.int p1), .val (.int p4), .val (.ref b66), .val (.int (p5 &&& (3 : Int32))), .val (.ref b83), .val (.int (1 : Int32))] [(.int (1 : Int32))])) _
              refine XS.iload X87.here hx rfl (hb hby at_170) rfl ?_
              show Steps p.tables e below (T87.setTop (mkF m 172 #[.val (.int p1), .val (.int p2), .val (.int p3), .val (.int p4), .val (.int p5), .val (.int p1), .val (.int p4), .val (.ref b66), .val (.int (p5 &&& (3 : Int32))), .val (.ref b83), .val (.int (1 : Int32))] [(.int (1 : Int32)), (.int (1 : Int32))])) _
              refine XS.icmpNo X87.here hx rfl (hb hby at_172) rfl (teq (rfl : (1 : Int32) = (1 : Int32))).2 ?_
              show Steps p.tables e below (T87.setTop (mkF m 175 #[.val (.int p1), .val (.int p2), .val (.int p3), .val (.int p4), .val (.int p5), .val (.int p1), .val (.int p4), .val (.ref b66), .val (.int (p5 &&& (3 : Int32))), .val (.ref b83), .val (.int (1 : Int32))] [])) _
              refine XS.aload X87.here hx rfl (hb hby at_175) rfl rfl ?_
              show Steps p.tables e below (T87.setTop (mkF m 177 #[.val (.int p1), .val (.int p2), .val (.int p3), .val (.int p4), .val (.int p5), .val (.int p1), .val (.int p4), .val (.ref b66), .val (.int (p5 &&& (3 : Int32))), .val (.ref b83), .val (.int (1 : Int32))] [(.ref b83)])) _
              refine XS.aload X87.here hx rfl (hb hby at_177) rfl rfl ?_
              show Steps p.tables e below (T87.setTop (mkF m 179 #[.val (.int p1), .val (.int p2), .val (.int p3), .val (.int p4), .val (.int p5), .val (.int p1), .val (.int p4), .val (.ref b66), .val (.int (p5 &&& (3 : Int32))), .val (.ref b83), .val (.int (1 : Int32))] [(.ref b66), (.ref b83)])) _
              refine st88.trans ?_
              show Steps p.tables e below (T88.setTop (mkF m 182 #[.val (.int p1), .val (.int p2), .val (.int p3), .val (.int p4), .val (.int p5), .val (.int p1), .val (.int p4), .val (.ref b66), .val (.int (p5 &&& (3 : Int32))), .val (.ref b83), .val (.int (1 : Int32))] [(.int (1 : Int32))])) _
              refine XS.iload X88.here hx rfl (hb hby at_182) rfl ?_
              show Steps p.tables e below (T88.setTop (mkF m 184 #[.val (.int p1), .val (.int p2), .val (.int p3), .val (.int p4), .val (.int p5), .val (.int p1), .val (.int p4), .val (.ref b66), .val (.int (p5 &&& (3 : Int32))), .val (.ref b83), .val (.int (1 : Int32))] [(.int (1 : Int32)), (.int (1 : Int32))])) _
              refine XS.icmpNo X88.here hx rfl (hb hby at_184) rfl (teq (rfl : (1 : Int32) = (1 : Int32))).2 ?_
              show Steps p.tables e below (T88.setTop (mkF m 187 #[.val (.int p1), .val (.int p2), .val (.int p3), .val (.int p4), .val (.int p5), .val (.int p1), .val (.int p4), .val (.ref b66), .val (.int (p5 &&& (3 : Int32))), .val (.ref b83), .val (.int (1 : Int32))] [])) _
              refine XS.iconst X88.here hx rfl (hb hby at_187) ?_
              show Steps p.tables e below (T88.setTop (mkF m 188 #[.val (.int p1), .val (.int p2), .val (.int p3), .val (.int p4), .val (.int p5), .val (.int p1), .val (.int p4), .val (.ref b66), .val (.int (p5 &&& (3 : Int32))), .val (.ref b83), .val (.int (1 : Int32))] [(.int (1 : Int32))])) _
              refine XS.goto X88.here hx rfl (pc0 := 188) (pc' := 192) rfl (hb hby at_188) (by decide) (by decide) ?_
              exact kt
            obtain ⟨fs, hr, hrun, hended, hW, hsame⟩ := X88.leave (v := some (.int (1 : Int32))) (fun h => by rw [Bd.returns] at h; cases h)
            refine ⟨_, _, pre89 _ ?_, hrun, hended, _, _, rfl, ?_, ⟨_, rfl⟩, hW, hsame.mono (by decide) (by decide)⟩
            · show Steps p.tables e below (T88.setTop (mkF m 192 #[.val (.int p1), .val (.int p2), .val (.int p3), .val (.int p4), .val (.int p5), .val (.int p1), .val (.int p4), .val (.ref b66), .val (.int (p5 &&& (3 : Int32))), .val (.ref b83), .val (.int (1 : Int32))] [(.int (1 : Int32))])) _
              exact retN X88 hx (t := .boolean) Bd.returns (by simp) (hb hby at_192) hr
            · show Q0 Z h0 n0 _ T88.heap _
              rw [hE88]
              exact ⟨rfl, N88⟩
          · obtain ⟨cq90, kq90, q90a, q90b, q90c⟩ := isOf hZ rfl ((Exa.ext E83 Ei67).keep K84)
            obtain ⟨_, _, ⟨T90, L90, k90, n90⟩, -, X90, ⟨Lc90, hQ90, l90, y90, z90⟩, st90⟩ := X84.virtualBack hx (y := (⟨"com/example/keyturn/keyturn/signing/SdkRange", "equals", "(Ljava/lang/Object;)Z"⟩ : MethodName)) (z := (⟨"com/example/keyturn/keyturn/signing/SdkRange", "equals", "(Ljava/lang/Object;)Z"⟩ : MethodName)) hown (mvT hZ (hw _ (List.mem_of_getElem? (i := 13) rfl))) (mvT hZ (hw _ (List.mem_of_getElem? (i := 14) rfl))) (notFace_of_selects (args := #[]) (mvT hZ (hw _ (List.mem_of_getElem? (i := 16) rfl)))) (mvT hZ (hw _ (List.mem_of_getElem? (i := 16) rfl))) (mvT hZ (hw _ (List.mem_of_getElem? (i := 15) rfl))) (by decide) (backOf (W := 0) (rmE l Z a0 hw [] b66 b83 p1 p2 p1 p4 (0 : Int32) T84.heap n0 (Nat.le_trans (Nat.le_trans (Nat.le_trans (Nat.le_trans Z0 E66.1) K67.1) E83.1) K84.1) Ei84 ((Fld.ext E83 Fm67).keep K84 (ninS (Nat.ne_of_lt (Nat.lt_of_lt_of_le (Ei67).lt (Nat.le_of_eq g83.symm))) nin0)) ((Fld.ext E83 Fx67).keep K84 (ninS (Nat.ne_of_lt (Nat.lt_of_lt_of_le (Ei67).lt (Nat.le_of_eq g83.symm))) nin0)) Fm84 Fx84 (by rw [if_pos (rfl : p1 = p1), if_neg c153_86])) hZ (hw _ (List.mem_of_getElem? (i := 17) rfl)) (hw _ (List.mem_of_getElem? (i := 2) rfl)) (by decide) (by decide)) q90a q90c (g := (mkF m 167 #[.val (.int p1), .val (.int p2), .val (.int p3), .val (.int p4), .val (.int p5), .val (.int p1), .val (.int p4), .val (.ref b66), .val (.int (p5 &&& (3 : Int32))), .val (.ref b83), .val (.int (0 : Int32))] [(.ref b83), (.ref b66)])) rfl (by rw [hml]; rfl) (Steps.refl _) (argsL := [(.ref b83)]) (rest := []) (lenOf pd_rm0_1 rfl) rfl (by show 2 * 0 + _ ≤ _; exact Nat.le_of_eq rfl) (hb hby at_167) (fun _ _ => ⟨rfl, rfl, (by decide : 2 + 0 ≤ _), (by decide : 4 + 0 ≤ _)⟩)
            dsimp only [Pt.U, Pt.locs, Pt.cells, Pt.slots] at X90 l90 y90 z90 st90 hQ90
            subst l90 y90 z90
            obtain ⟨rfl, N90q, hE90⟩ := hQ90
            have N90 := Fr.app N84 N90q
            obtain ⟨cq91, kq91, q91a, q91b, q91c⟩ := isOf hZ hE90 Ei84
            obtain ⟨_, _, ⟨T91, L91, k91, n91⟩, -, X91, ⟨Lc91, hQ91, l91, y91, z91⟩, st91⟩ := X90.virtualBack hx (y := (⟨"com/example/keyturn/keyturn/signing/SdkRange", "equals", "(Ljava/lang/Object;)Z"⟩ : MethodName)) (z := (⟨"com/example/keyturn/keyturn/signing/SdkRange", "equals", "(Ljava/lang/Object;)Z"⟩ : MethodName)) hown (mvT hZ (hw _ (List.mem_of_getElem? (i := 13) rfl))) (mvT hZ (hw _ (List.mem_of_getElem? (i := 14) rfl))) (notFace_of_selects (args := #[]) (mvT hZ (hw _ (List.mem_of_getElem? (i := 16) rfl)))) (mvT hZ (hw _ (List.mem_of_getElem? (i := 16) rfl))) (mvT hZ (hw _ (List.mem_of_getElem? (i := 15) rfl))) (by decide) (backOf (W := 0) (rmE l Z a0 hw [] b83 b66 p1 p4 p1 p2 (0 : Int32) T84.heap n0 (Nat.le_trans (Nat.le_trans (Nat.le_trans (Nat.le_trans Z0 E66.1) K67.1) E83.1) K84.1) ((Exa.ext E83 Ei67).keep K84) Fm84 Fx84 ((Fld.ext E83 Fm67).keep K84 (ninS (Nat.ne_of_lt (Nat.lt_of_lt_of_le (Ei67).lt (Nat.le_of_eq g83.symm))) nin0)) ((Fld.ext E83 Fx67).keep K84 (ninS (Nat.ne_of_lt (Nat.lt_of_lt_of_le (Ei67).lt (Nat.le_of_eq g83.symm))) nin0)) (by rw [if_pos (rfl : p1 = p1), if_neg (fun q => c153_86 q.symm)])) hZ (hw _ (List.mem_of_getElem? (i := 17) rfl)) (hw _ (List.mem_of_getElem? (i := 2) rfl)) (by decide) (by decide)) q91a q91c (g := (mkF m 179 #[.val (.int p1), .val (.int p2), .val (.int p3), .val (.int p4), .val (.int p5), .val (.int p1), .val (.int p4), .val (.ref b66), .val (.int (p5 &&& (3 : Int32))), .val (.ref b83), .val (.int (0 : Int32))] [(.ref b66), (.ref b83)])) rfl (by rw [hml]; rfl) (Steps.refl _) (argsL := [(.ref b66)]) (rest := []) (lenOf pd_rm0_1 rfl) rfl (by show 2 * 0 + _ ≤ _; exact Nat.le_of_eq rfl) (hb hby at_179) (fun _ _ => ⟨rfl, hE90, (by decide : 2 + 0 ≤ _), (by decide : 4 + 0 ≤ _)⟩)
            dsimp only [Pt.U, Pt.locs, Pt.cells, Pt.slots] at X91 l91 y91 z91 st91 hQ91
            subst l91 y91 z91
            obtain ⟨rfl, N91q, hE91⟩ := hQ91
            have N91 := Fr.app N90 N91q
            have pre92 : ∀ tt, Steps p.tables e below (T91.setTop (mkF m 192 #[.val (.int p1), .val (.int p2), .val (.int p3), .val (.int p4), .val (.int p5), .val (.int p1), .val (.int p4), .val (.ref b66), .val (.int (p5 &&& (3 : Int32))), .val (.ref b83), .val (.int (0 : Int32))] [(.int (1 : Int32))])) tt → Steps p.tables e below (s₁.setTop (entryFrame m #[(.int p1), (.int p2), (.int p3), (.int p4), (.int p5)] maxLocals)) tt := by
              intro tt kt
              refine pre85 tt ?_
              show Steps p.tables e below (T84.setTop (mkF m 153 #[.val (.int p1), .val (.int p2), .val (.int p3), .val (.int p4), .val (.int p5), .val (.int p1), .val (.int p4), .val (.ref b66), .val (.int (p5 &&& (3 : Int32))), .val (.ref b83), .unset] [(.int p4), (.int p2)])) _
              refine XS.icmpYes X84.here hx rfl (pc0 := 153) (pc' := 160) rfl (hb hby at_153) rfl (feq c153_86).2 (by decide) (by decide) ?_
              show Steps p.tables e below (T84.setTop (mkF m 160 #[.val (.int p1), .val (.int p2), .val (.int p3), .val (.int p4), .val (.int p5), .val (.int p1), .val (.int p4), .val (.ref b66), .val (.int (p5 &&& (3 : Int32))), .val (.ref b83), .unset] [])) _
              refine XS.iconst X84.here hx rfl (hb hby at_160) ?_
              show Steps p.tables e below (T84.setTop (mkF m 161 #[.val (.int p1), .val (.int p2), .val (.int p3), .val (.int p4), .val (.int p5), .val (.int p1), .val (.int p4), .val (.ref b66), .val (.int (p5 &&& (3 : Int32))), .val (.ref b83), .unset] [(.int (0 : Int32))])) _
              refine XS.istore X84.here hx rfl (hb hby at_161) rfl (l' := #[.val (.int p1), .val (.int p2), .val (.int p3), .val (.int p4), .val (.int p5), .val (.int p1), .val (.int p4), .val (.ref b66), .val (.int (p5 &&& (3 : Int32))), .val (.ref b83), .val (.int (0 : Int32))]) rfl ?_
              show Steps p.tables e below (T84.setTop (mkF m 163 #[.val (.int p1), .val (.int p2), .val (.int p3), .val (.int p4), .val (.int p5), .val (.int p1), .val (.int p4), .val (.ref b66), .val (.int (p5 &&& (3 : Int32))), .val (.ref b83), .val (.int (0 : Int32))] [])) _
              refine XS.aload X84.here hx rfl (hb hby at_163) rfl rfl ?_
              show Steps p.tables e below (T84.setTop (mkF m 165 #[.val (.int p1), .val (.int p2), .val (.int p3), .val (.int p4), .val (.int p5), .val (.int p1), .val (.int p4), .val (.ref b66), .val (.int (p5 &&& (3 : Int32))), .val (.ref b83), .val (.int (0 : Int32))] [(.ref b66)])) _
              refine XS.aload X84.here hx rfl (hb hby at_165) rfl rfl ?_
              show Steps p.tables e below (T84.setTop (mkF m 167 #[.val (.int p1), .val (.int p2), .val (.int p3), .val (.int p4), .val (.int p5), .val (.int p1), .val (.int p4), .val (.ref b66), .val (.int (p5 &&& (3 : Int32))), .val (.ref b83), .val (.int (0 : Int32))] [(.ref b83), (.ref b66)])) _
              refine st90.trans ?_
              show Steps p.tables e below (T90.setTop (mkF m 170 #[.val (.int p1), .val (.int p2), .val (.int p3), .val (.int p4), .val (.int p5), .val (.int p1), .val (.int p4), .val (.ref b66), .val (.int (p5 &&& (3 : Int32))), .val (.ref b83), .val (.int (0 : Int32))] [(.int (0 : Int32))])) _
              refine XS.iload X90.here hx rfl (hb hby at_170) rfl ?_
              show Steps p.tables e below (T90.setTop (mkF m 172 #[.val (.int p1), .val (.int p2), .val (.int p3), .val (.int p4), .val (.int p5), .val (.int p1), .val (.int p4), .val (.ref b66), .val (.int (p5 &&& (3 : Int32))), .val (.ref b83), .val (.int (0 : Int32))] [(.int (0 : Int32)), (.int (0 : Int32))])) _
              refine XS.icmpNo X90.here hx rfl (hb hby at_172) rfl (teq (rfl : (0 : Int32) = (0 : Int32))).2 ?_
              show Steps p.tables e below (T90.setTop (mkF m 175 #[.val (.int p1), .val (.int p2), .val (.int p3), .val (.int p4), .val (.int p5), .val (.int p1), .val (.int p4), .val (.ref b66), .val (.int (p5 &&& (3 : Int32))), .val (.ref b83), .val (.int (0 : Int32))] [])) _
              refine XS.aload X90.here hx rfl (hb hby at_175) rfl rfl ?_
              show Steps p.tables e below (T90.setTop (mkF m 177 #[.val (.int p1), .val (.int p2), .val (.int p3), .val (.int p4), .val (.int p5), .val (.int p1), .val (.int p4), .val (.ref b66), .val (.int (p5 &&& (3 : Int32))), .val (.ref b83), .val (.int (0 : Int32))] [(.ref b83)])) _
              refine XS.aload X90.here hx rfl (hb hby at_177) rfl rfl ?_
              show Steps p.tables e below (T90.setTop (mkF m 179 #[.val (.int p1), .val (.int p2), .val (.int p3), .val (.int p4), .val (.int p5), .val (.int p1), .val (.int p4), .val (.ref b66), .val (.int (p5 &&& (3 : Int32))), .val (.ref b83), .val (.int (0 : Int32))] [(.ref b66), (.ref b83)])) _
              refine st91.trans ?_
              show Steps p.tables e below (T91.setTop (mkF m 182 #[.val (.int p1), .val (.int p2), .val (.int p3), .val (.int p4), .val (.int p5), .val (.int p1), .val (.int p4), .val (.ref b66), .val (.int (p5 &&& (3 : Int32))), .val (.ref b83), .val (.int (0 : Int32))] [(.int (0 : Int32))])) _
              refine XS.iload X91.here hx rfl (hb hby at_182) rfl ?_
              show Steps p.tables e below (T91.setTop (mkF m 184 #[.val (.int p1), .val (.int p2), .val (.int p3), .val (.int p4), .val (.int p5), .val (.int p1), .val (.int p4), .val (.ref b66), .val (.int (p5 &&& (3 : Int32))), .val (.ref b83), .val (.int (0 : Int32))] [(.int (0 : Int32)), (.int (0 : Int32))])) _
              refine XS.icmpNo X91.here hx rfl (hb hby at_184) rfl (teq (rfl : (0 : Int32) = (0 : Int32))).2 ?_
              show Steps p.tables e below (T91.setTop (mkF m 187 #[.val (.int p1), .val (.int p2), .val (.int p3), .val (.int p4), .val (.int p5), .val (.int p1), .val (.int p4), .val (.ref b66), .val (.int (p5 &&& (3 : Int32))), .val (.ref b83), .val (.int (0 : Int32))] [])) _
              refine XS.iconst X91.here hx rfl (hb hby at_187) ?_
              show Steps p.tables e below (T91.setTop (mkF m 188 #[.val (.int p1), .val (.int p2), .val (.int p3), .val (.int p4), .val (.int p5), .val (.int p1), .val (.int p4), .val (.ref b66), .val (.int (p5 &&& (3 : Int32))), .val (.ref b83), .val (.int (0 : Int32))] [(.int (1 : Int32))])) _
              refine XS.goto X91.here hx rfl (pc0 := 188) (pc' := 192) rfl (hb hby at_188) (by decide) (by decide) ?_
              exact kt
            obtain ⟨fs, hr, hrun, hended, hW, hsame⟩ := X91.leave (v := some (.int (1 : Int32))) (fun h => by rw [Bd.returns] at h; cases h)
            refine ⟨_, _, pre92 _ ?_, hrun, hended, _, _, rfl, ?_, ⟨_, rfl⟩, hW, hsame.mono (by decide) (by decide)⟩
            · show Steps p.tables e below (T91.setTop (mkF m 192 #[.val (.int p1), .val (.int p2), .val (.int p3), .val (.int p4), .val (.int p5), .val (.int p1), .val (.int p4), .val (.ref b66), .val (.int (p5 &&& (3 : Int32))), .val (.ref b83), .val (.int (0 : Int32))] [(.int (1 : Int32))])) _
              exact retN X91 hx (t := .boolean) Bd.returns (by simp) (hb hby at_192) hr
            · show Q0 Z h0 n0 _ T91.heap _
              rw [hE91]
              exact ⟨rfl, N91⟩
    · obtain ⟨T93, h93, X93, e93, E93, A93, D93, -, st93⟩ := newO X0 hx hZ hown (hw _ (List.mem_of_getElem? (i := 0) rfl)) (hw _ (List.mem_of_getElem? (i := 1) rfl)) (hw _ (List.mem_of_getElem? (i := 2) rfl)) e0 (g := (mkF m 32 #[.val (.int p1), .val (.int p2), .val (.int p3), .val (.int p4), .val (.int p5), .val (.int p1), .val (.int p2), .unset, .unset, .unset, .unset] [])) rfl (hb hby at_32) (by decide) (by decide)
      obtain ⟨b93, g93⟩ : ∃ z, z = h0.size := ⟨_, rfl⟩
      rw [← g93] at A93 D93 st93
      have g_b93 : n0 ≤ b93 := Nat.le_trans Z0 (Nat.le_of_eq g93.symm)
      have sz_b93 : h0.size ≤ b93 := Nat.le_trans ((Keep.refl h0 [])).1 (Nat.le_of_eq g93.symm)
      have K93 : Keep h0 h93 [] := ((Keep.refl h0 [])).ext E93
      have F_min_b93 : Fld Z h93 b93 "com/example/keyturn/keyturn/signing/SdkRange" "min" "I" (.int (0 : Int32)) := D93 (Or.inr (hw _ (List.mem_of_getElem? (i := 10) rfl))) (ty := .int) (by decide)
      have F_max_b93 : Fld Z h93 b93 "com/example/keyturn/keyturn/signing/SdkRange" "max" "I" (.int (0 : Int32)) := D93 (Or.inr (hw _ (List.mem_of_getElem? (i := 12) rfl))) (ty := .int) (by decide)
      obtain ⟨_, _, ⟨T94, L94, k94, n94⟩, -, X94, ⟨Lc94, hQ94, l94, y94, z94⟩, st94⟩ := X93.specialBack hx (y := (⟨"com/example/keyturn/keyturn/signing/SdkRange", "<init>", "(II)V"⟩ : MethodName)) rfl hown (mvT hZ (hw _ (List.mem_of_getElem? (i := 3) rfl))) (mvT hZ (hw _ (List.mem_of_getElem? (i := 4) rfl))) (mvT hZ (hw _ (List.mem_of_getElem? (i := 5) rfl))) (by decide) (backOf (W := 1) (rmC l Z a0 hw [] b93 p1 p2 h93 n0 (Nat.le_trans Z0 E93.1) A93 F_min_b93 F_max_b93 g_b93) hZ (hw _ (List.mem_of_getElem? (i := 5) rfl)) (hw _ (List.mem_of_getElem? (i := 2) rfl)) (by decide) (by decide)) (g := (mkF m 38 #[.val (.int p1), .val (.int p2), .val (.int p3), .val (.int p4), .val (.int p5), .val (.int p1), .val (.int p2), .unset, .unset, .unset, .unset] [(.int p2), (.int p1), (.ref b93), (.ref b93)])) rfl (by rw [hml]; rfl) (Steps.refl _) (a := b93) (argsL := [(.int p1), (.int p2)]) (rest := [(.ref b93)]) (lenOf pd_rm0_0 rfl) rfl (by show 2 * 0 + _ ≤ _; exact Nat.le_of_eq rfl) (hb hby at_38) (fun _ _ => ⟨rfl, e93, (by decide : 1 + 0 ≤ _), (by decide : 2 + 0 ≤ _)⟩)
      dsimp only [Pt.U, Pt.locs, Pt.cells, Pt.slots] at X94 l94 y94 z94 st94 hQ94
      subst l94 y94 z94
      obtain ⟨rfl, N94q, K94, Ei94, Fm94, Fx94⟩ := hQ94
      have N94 := Fr.app N0 N94q
      have KK94 : Keep h0 T94.heap [] := (K93).trans K94 (allS (Or.inr sz_b93) all0)
      have pre95 : ∀ tt, Steps p.tables e below (T94.setTop (mkF m 52 #[.val (.int p1), .val (.int p2), .val (.int p3), .val (.int p4), .val (.int p5), .val (.int p1), .val (.int p2), .val (.ref b93), .val (.int (p5 &&& (3 : Int32))), .unset, .unset] [(.int (1 : Int32)), (.int (p5 &&& (3 : Int32)))])) tt → Steps p.tables e below (s₁.setTop (entryFrame m #[(.int p1), (.int p2), (.int p3), (.int p4), (.int p5)] maxLocals)) tt := by
        intro tt kt
        refine pre64 tt ?_
        show Steps p.tables e below (s₁.setTop (mkF m 22 #[.val (.int p1), .val (.int p2), .val (.int p3), .val (.int p4), .val (.int p5), .val (.int p1), .unset, .unset, .unset, .unset, .unset] [(.int ((p5 >>> ((3 : Int32) &&& 31)) &&& (1 : Int32)))])) _
        refine XS.ifNo X0.here hx rfl (hb hby at_22) rfl ((if0 _ _).trans (feq c22_65).1) ?_
        show Steps p.tables e below (s₁.setTop (mkF m 25 #[.val (.int p1), .val (.int p2), .val (.int p3), .val (.int p4), .val (.int p5), .val (.int p1), .unset, .unset, .unset, .unset, .unset] [])) _
        refine XS.iloadN X0.here hx rfl (hb hby at_25) rfl ?_
        show Steps p.tables e below (s₁.setTop (mkF m 26 #[.val (.int p1), .val (.int p2), .val (.int p3), .val (.int p4), .val (.int p5), .val (.int p1), .unset, .unset, .unset, .unset, .unset] [(.int p2)])) _
        refine XS.goto X0.here hx rfl (pc0 := 26) (pc' := 30) rfl (hb hby at_26) (by decide) (by decide) ?_
        show Steps p.tables e below (s₁.setTop (mkF m 30 #[.val (.int p1), .val (.int p2), .val (.int p3), .val (.int p4), .val (.int p5), .val (.int p1), .unset, .unset, .unset, .unset, .unset] [(.int p2)])) _
        refine XS.istore X0.here hx rfl (hb hby at_30) rfl (l' := #[.val (.int p1), .val (.int p2), .val (.int p3), .val (.int p4), .val (.int p5), .val (.int p1), .val (.int p2), .unset, .unset, .unset, .unset]) rfl ?_
        show Steps p.tables e below (s₁.setTop (mkF m 32 #[.val (.int p1), .val (.int p2), .val (.int p3), .val (.int p4), .val (.int p5), .val (.int p1), .val (.int p2), .unset, .unset, .unset, .unset] [])) _
        refine st93 _ ?_
        show Steps p.tables e below (T93.setTop (mkF m 35 #[.val (.int p1), .val (.int p2), .val (.int p3), .val (.int p4), .val (.int p5), .val (.int p1), .val (.int p2), .unset, .unset, .unset, .unset] [(.ref b93)])) _
        refine XS.dup X93.here hx rfl (hb hby at_35) rfl rfl ?_
        show Steps p.tables e below (T93.setTop (mkF m 36 #[.val (.int p1), .val (.int p2), .val (.int p3), .val (.int p4), .val (.int p5), .val (.int p1), .val (.int p2), .unset, .unset, .unset, .unset] [(.ref b93), (.ref b93)])) _
        refine XS.iloadN X93.here hx rfl (hb hby at_36) rfl ?_
        show Steps p.tables e below (T93.setTop (mkF m 37 #[.val (.int p1), .val (.int p2), .val (.int p3), .val (.int p4), .val (.int p5), .val (.int p1), .val (.int p2), .unset, .unset, .unset, .unset] [(.int p1), (.ref b93), (.ref b93)])) _
        refine XS.iloadN X93.here hx rfl (hb hby at_37) rfl ?_
        show Steps p.tables e below (T93.setTop (mkF m 38 #[.val (.int p1), .val (.int p2), .val (.int p3), .val (.int p4), .val (.int p5), .val (.int p1), .val (.int p2), .unset, .unset, .unset, .unset] [(.int p2), (.int p1), (.ref b93), (.ref b93)])) _
        refine st94.trans ?_
        show Steps p.tables e below (T94.setTop (mkF m 41 #[.val (.int p1), .val (.int p2), .val (.int p3), .val (.int p4), .val (.int p5), .val (.int p1), .val (.int p2), .unset, .unset, .unset, .unset] [(.ref b93)])) _
        refine XS.astore X94.here hx rfl (hb hby at_41) rfl rfl (l' := #[.val (.int p1), .val (.int p2), .val (.int p3), .val (.int p4), .val (.int p5), .val (.int p1), .val (.int p2), .val (.ref b93), .unset, .unset, .unset]) rfl ?_
        show Steps p.tables e below (T94.setTop (mkF m 43 #[.val (.int p1), .val (.int p2), .val (.int p3), .val (.int p4), .val (.int p5), .val (.int p1), .val (.int p2), .val (.ref b93), .unset, .unset, .unset] [])) _
        refine XS.iload X94.here hx rfl (hb hby at_43) rfl ?_
        show Steps p.tables e below (T94.setTop (mkF m 45 #[.val (.int p1), .val (.int p2), .val (.int p3), .val (.int p4), .val (.int p5), .val (.int p1), .val (.int p2), .val (.ref b93), .unset, .unset, .unset] [(.int p5)])) _
        refine XS.iconst X94.here hx rfl (hb hby at_45) ?_
        show Steps p.tables e below (T94.setTop (mkF m 46 #[.val (.int p1), .val (.int p2), .val (.int p3), .val (.int p4), .val (.int p5), .val (.int p1), .val (.int p2), .val (.ref b93), .unset, .unset, .unset] [(.int (3 : Int32)), (.int p5)])) _
        refine XS.iand X94.here hx rfl (hb hby at_46) rfl ?_
        show Steps p.tables e below (T94.setTop (mkF m 47 #[.val (.int p1), .val (.int p2), .val (.int p3), .val (.int p4), .val (.int p5), .val (.int p1), .val (.int p2), .val (.ref b93), .unset, .unset, .unset] [(.int (p5 &&& (3 : Int32)))])) _
        refine XS.istore X94.here hx rfl (hb hby at_47) rfl (l' := #[.val (.int p1), .val (.int p2), .val (.int p3), .val (.int p4), .val (.int p5), .val (.int p1), .val (.int p2), .val (.ref b93), .val (.int (p5 &&& (3 : Int32))), .unset, .unset]) rfl ?_
        show Steps p.tables e below (T94.setTop (mkF m 49 #[.val (.int p1), .val (.int p2), .val (.int p3), .val (.int p4), .val (.int p5), .val (.int p1), .val (.int p2), .val (.ref b93), .val (.int (p5 &&& (3 : Int32))), .unset, .unset] [])) _
        refine XS.iload X94.here hx rfl (hb hby at_49) rfl ?_
        show Steps p.tables e below (T94.setTop (mkF m 51 #[.val (.int p1), .val (.int p2), .val (.int p3), .val (.int p4), .val (.int p5), .val (.int p1), .val (.int p2), .val (.ref b93), .val (.int (p5 &&& (3 : Int32))), .unset, .unset] [(.int (p5 &&& (3 : Int32)))])) _
        refine XS.iconst X94.here hx rfl (hb hby at_51) ?_
        exact kt
      by_cases c52_96 : (p5 &&& (3 : Int32)) = (1 : Int32)
      · obtain ⟨cq97, kq97, q97a, q97b, q97c⟩ := isOf hZ rfl Ei94
        obtain ⟨_, _, ⟨T97, L97, k97, n97⟩, -, X97, ⟨Lc97, hQ97, l97, y97, z97⟩, st97⟩ := X94.virtualBack hx (y := (⟨"com/example/keyturn/keyturn/signing/SdkRange", "equals", "(Ljava/lang/Object;)Z"⟩ : MethodName)) (z := (⟨"com/example/keyturn/keyturn/signing/SdkRange", "equals", "(Ljava/lang/Object;)Z"⟩ : MethodName)) hown (mvT hZ (hw _ (List.mem_of_getElem? (i := 13) rfl))) (mvT hZ (hw _ (List.mem_of_getElem? (i := 14) rfl))) (notFace_of_selects (args := #[]) (mvT hZ (hw _ (List.mem_of_getElem? (i := 16) rfl)))) (mvT hZ (hw _ (List.mem_of_getElem? (i := 16) rfl))) (mvT hZ (hw _ (List.mem_of_getElem? (i := 15) rfl))) (by decide) (backOf (W := 0) (rmEN l Z a0 hw [] b93 T94.heap n0 (Nat.le_trans (Nat.le_trans Z0 E93.1) K94.1)) hZ (hw _ (List.mem_of_getElem? (i := 17) rfl)) (hw _ (List.mem_of_getElem? (i := 2) rfl)) (by decide) (by decide)) q97a q97c (g := (mkF m 58 #[.val (.int p1), .val (.int p2), .val (.int p3), .val (.int p4), .val (.int p5), .val (.int p1), .val (.int p2), .val (.ref b93), .val (.int (p5 &&& (3 : Int32))), .unset, .unset] [.null, (.ref b93)])) rfl (by rw [hml]; rfl) (Steps.refl _) (argsL := [.null]) (rest := []) (lenOf pd_rm0_1 rfl) rfl (by show 2 * 0 + _ ≤ _; exact Nat.le_of_eq rfl) (hb hby at_58) (fun _ _ => ⟨rfl, rfl, (by decide : 1 + 0 ≤ _), (by decide : 2 + 0 ≤ _)⟩)
        dsimp only [Pt.U, Pt.locs, Pt.cells, Pt.slots] at X97 l97 y97 z97 st97 hQ97
        subst l97 y97 z97
        obtain ⟨rfl, N97q, hE97⟩ := hQ97
        have N97 := Fr.app N94 N97q
        obtain ⟨cq98, kq98, q98a, q98b, q98c⟩ := isOf hZ hE97 Ei94
        obtain ⟨_, _, ⟨T98, L98, k98, n98⟩, -, X98, ⟨Lc98, hQ98, l98, y98, z98⟩, st98⟩ := X97.virtualBack hx (y := (⟨"com/example/keyturn/keyturn/signing/SdkRange", "equals", "(Ljava/lang/Object;)Z"⟩ : MethodName)) (z := (⟨"com/example/keyturn/keyturn/signing/SdkRange", "equals", "(Ljava/lang/Object;)Z"⟩ : MethodName)) hown (mvT hZ (hw _ (List.mem_of_getElem? (i := 13) rfl))) (mvT hZ (hw _ (List.mem_of_getElem? (i := 14) rfl))) (notFace_of_selects (args := #[]) (mvT hZ (hw _ (List.mem_of_getElem? (i := 16) rfl)))) (mvT hZ (hw _ (List.mem_of_getElem? (i := 16) rfl))) (mvT hZ (hw _ (List.mem_of_getElem? (i := 15) rfl))) (by decide) (backOf (W := 0) (rmE l Z a0 hw [] b93 b93 p1 p2 p1 p2 (1 : Int32) T94.heap n0 (Nat.le_trans (Nat.le_trans Z0 E93.1) K94.1) Ei94 Fm94 Fx94 Fm94 Fx94 (by rw [if_pos (rfl : p1 = p1), if_pos (rfl : p2 = p2)])) hZ (hw _ (List.mem_of_getElem? (i := 17) rfl)) (hw _ (List.mem_of_getElem? (i := 2) rfl)) (by decide) (by decide)) q98a q98c (g := (mkF m 68 #[.val (.int p1), .val (.int p2), .val (.int p3), .val (.int p4), .val (.int p5), .val (.int p1), .val (.int p2), .val (.ref b93), .val (.int (p5 &&& (3 : Int32))), .unset, .unset] [(.ref b93), (.ref b93)])) rfl (by rw [hml]; rfl) (Steps.refl _) (argsL := [(.ref b93)]) (rest := []) (lenOf pd_rm0_1 rfl) rfl (by show 2 * 0 + _ ≤ _; exact Nat.le_of_eq rfl) (hb hby at_68) (fun _ _ => ⟨rfl, hE97, (by decide : 1 + 0 ≤ _), (by decide : 2 + 0 ≤ _)⟩)
        dsimp only [Pt.U, Pt.locs, Pt.cells, Pt.slots] at X98 l98 y98 z98 st98 hQ98
        subst l98 y98 z98
        obtain ⟨rfl, N98q, hE98⟩ := hQ98
        have N98 := Fr.app N97 N98q
        have pre99 : ∀ tt, Steps p.tables e below (T98.setTop (mkF m 79 #[.val (.int p1), .val (.int p2), .val (.int p3), .val (.int p4), .val (.int p5), .val (.int p1), .val (.int p2), .val (.ref b93), .val (.int (p5 &&& (3 : Int32))), .unset, .unset] [(.int (1 : Int32))])) tt → Steps p.tables e below (s₁.setTop (entryFrame m #[(.int p1), (.int p2), (.int p3), (.int p4), (.int p5)] maxLocals)) tt := by
          intro tt kt
          refine pre95 tt ?_
          show Steps p.tables e below (T94.setTop (mkF m 52 #[.val (.int p1), .val (.int p2), .val (.int p3), .val (.int p4), .val (.int p5), .val (.int p1), .val (.int p2), .val (.ref b93), .val (.int (p5 &&& (3 : Int32))), .unset, .unset] [(.int (1 : Int32)), (.int (p5 &&& (3 : Int32)))])) _
          refine XS.icmpNo X94.here hx rfl (hb hby at_52) rfl (teq c52_96).2 ?_
          show Steps p.tables e below (T94.setTop (mkF m 55 #[.val (.int p1), .val (.int p2), .val (.int p3), .val (.int p4), .val (.int p5), .val (.int p1), .val (.int p2), .val (.ref b93), .val (.int (p5 &&& (3 : Int32))), .unset, .unset] [])) _
          refine XS.aload X94.here hx rfl (hb hby at_55) rfl rfl ?_
          show Steps p.tables e below (T94.setTop (mkF m 57 #[.val (.int p1), .val (.int p2), .val (.int p3), .val (.int p4), .val (.int p5), .val (.int p1), .val (.int p2), .val (.ref b93), .val (.int (p5 &&& (3 : Int32))), .unset, .unset] [(.ref b93)])) _
          refine XS.aconstNull X94.here hx rfl (hb hby at_57) ?_
          show Steps p.tables e below (T94.setTop (mkF m 58 #[.val (.int p1), .val (.int p2), .val (.int p3), .val (.int p4), .val (.int p5), .val (.int p1), .val (.int p2), .val (.ref b93), .val (.int (p5 &&& (3 : Int32))), .unset, .unset] [.null, (.ref b93)])) _
          refine st97.trans ?_
          show Steps p.tables e below (T97.setTop (mkF m 61 #[.val (.int p1), .val (.int p2), .val (.int p3), .val (.int p4), .val (.int p5), .val (.int p1), .val (.int p2), .val (.ref b93), .val (.int (p5 &&& (3 : Int32))), .unset, .unset] [(.int (0 : Int32))])) _
          refine XS.ifNo X97.here hx rfl (hb hby at_61) rfl ((if0 _ _).trans (teq (rfl : (0 : Int32) = (0 : Int32))).2) ?_
          show Steps p.tables e below (T97.setTop (mkF m 64 #[.val (.int p1), .val (.int p2), .val (.int p3), .val (.int p4), .val (.int p5), .val (.int p1), .val (.int p2), .val (.ref b93), .val (.int (p5 &&& (3 : Int32))), .unset, .unset] [])) _
          refine XS.aload X97.here hx rfl (hb hby at_64) rfl rfl ?_
          show Steps p.tables e below (T97.setTop (mkF m 66 #[.val (.int p1), .val (.int p2), .val (.int p3), .val (.int p4), .val (.int p5), .val (.int p1), .val (.int p2), .val (.ref b93), .val (.int (p5 &&& (3 : Int32))), .unset, .unset] [(.ref b93)])) _
          refine XS.aload X97.here hx rfl (hb hby at_66) rfl rfl ?_
          show Steps p.tables e below (T97.setTop (mkF m 68 #[.val (.int p1), .val (.int p2), .val (.int p3), .val (.int p4), .val (.int p5), .val (.int p1), .val (.int p2), .val (.ref b93), .val (.int (p5 &&& (3 : Int32))), .unset, .unset] [(.ref b93), (.ref b93)])) _
          refine st98.trans ?_
          show Steps p.tables e below (T98.setTop (mkF m 71 #[.val (.int p1), .val (.int p2), .val (.int p3), .val (.int p4), .val (.int p5), .val (.int p1), .val (.int p2), .val (.ref b93), .val (.int (p5 &&& (3 : Int32))), .unset, .unset] [(.int (1 : Int32))])) _
          refine XS.ifNo X98.here hx rfl (hb hby at_71) rfl ((if0 _ _).trans (feq (by decide : ¬ ((1 : Int32) = (0 : Int32)))).1) ?_
          show Steps p.tables e below (T98.setTop (mkF m 74 #[.val (.int p1), .val (.int p2), .val (.int p3), .val (.int p4), .val (.int p5), .val (.int p1), .val (.int p2), .val (.ref b93), .val (.int (p5 &&& (3 : Int32))), .unset, .unset] [])) _
          refine XS.iconst X98.here hx rfl (hb hby at_74) ?_
          show Steps p.tables e below (T98.setTop (mkF m 75 #[.val (.int p1), .val (.int p2), .val (.int p3), .val (.int p4), .val (.int p5), .val (.int p1), .val (.int p2), .val (.ref b93), .val (.int (p5 &&& (3 : Int32))), .unset, .unset] [(.int (1 : Int32))])) _
          refine XS.goto X98.here hx rfl (pc0 := 75) (pc' := 79) rfl (hb hby at_75) (by decide) (by decide) ?_
          exact kt
        obtain ⟨fs, hr, hrun, hended, hW, hsame⟩ := X98.leave (v := some (.int (1 : Int32))) (fun h => by rw [Bd.returns] at h; cases h)
        refine ⟨_, _, pre99 _ ?_, hrun, hended, _, _, rfl, ?_, ⟨_, rfl⟩, hW, hsame.mono (by decide) (by decide)⟩
        · show Steps p.tables e below (T98.setTop (mkF m 79 #[.val (.int p1), .val (.int p2), .val (.int p3), .val (.int p4), .val (.int p5), .val (.int p1), .val (.int p2), .val (.ref b93), .val (.int (p5 &&& (3 : Int32))), .unset, .unset] [(.int (1 : Int32))])) _
          exact retN X98 hx (t := .boolean) Bd.returns (by simp) (hb hby at_79) hr
        · show Q0 Z h0 n0 _ T98.heap _
          rw [hE98]
          exact ⟨rfl, N98⟩
      · have pre100 : ∀ tt, Steps p.tables e below (T94.setTop (mkF m 83 #[.val (.int p1), .val (.int p2), .val (.int p3), .val (.int p4), .val (.int p5), .val (.int p1), .val (.int p2), .val (.ref b93), .val (.int (p5 &&& (3 : Int32))), .unset, .unset] [(.int (2 : Int32)), (.int (p5 &&& (3 : Int32)))])) tt → Steps p.tables e below (s₁.setTop (entryFrame m #[(.int p1), (.int p2), (.int p3), (.int p4), (.int p5)] maxLocals)) tt := by
          intro tt kt
          refine pre95 tt ?_
          show Steps p.tables e below (T94.setTop (mkF m 52 #[.val (.int p1), .val (.int p2), .val (.int p3), .val (.int p4), .val (.int p5), .val (.int p1), .val (.int p2), .val (.ref b93), .val (.int (p5 &&& (3 : Int32))), .unset, .unset] [(.int (1 : Int32)), (.int (p5 &&& (3 : Int32)))])) _
          refine XS.icmpYes X94.here hx rfl (pc0 := 52) (pc' := 80) rfl (hb hby at_52) rfl (feq c52_96).2 (by decide) (by decide) ?_
          show Steps p.tables e below (T94.setTop (mkF m 80 #[.val (.int p1), .val (.int p2), .val (.int p3), .val (.int p4), .val (.int p5), .val (.int p1), .val (.int p2), .val (.ref b93), .val (.int (p5 &&& (3 : Int32))), .unset, .unset] [])) _
          refine XS.iload X94.here hx rfl (hb hby at_80) rfl ?_
          show Steps p.tables e below (T94.setTop (mkF m 82 #[.val (.int p1), .val (.int p2), .val (.int p3), .val (.int p4), .val (.int p5), .val (.int p1), .val (.int p2), .val (.ref b93), .val (.int (p5 &&& (3 : Int32))), .unset, .unset] [(.int (p5 &&& (3 : Int32)))])) _
          refine XS.iconst X94.here hx rfl (hb hby at_82) ?_
          exact kt
        by_cases c83_101 : (p5 &&& (3 : Int32)) = (2 : Int32)
        · have pre102 : ∀ tt, Steps p.tables e below (T94.setTop (mkF m 92 #[.val (.int p1), .val (.int p2), .val (.int p3), .val (.int p4), .val (.int p5), .val (.int p1), .val (.int p2), .val (.ref b93), .val (.int (p5 &&& (3 : Int32))), .unset, .unset] [(.int ((p5 >>> ((4 : Int32) &&& 31)) &&& (1 : Int32)))])) tt → Steps p.tables e below (s₁.setTop (entryFrame m #[(.int p1), (.int p2), (.int p3), (.int p4), (.int p5)] maxLocals)) tt := by
            intro tt kt
            refine pre100 tt ?_
            show Steps p.tables e below (T94.setTop (mkF m 83 #[.val (.int p1), .val (.int p2), .val (.int p3), .val (.int p4), .val (.int p5), .val (.int p1), .val (.int p2), .val (.ref b93), .val (.int (p5 &&& (3 : Int32))), .unset, .unset] [(.int (2 : Int32)), (.int (p5 &&& (3 : Int32)))])) _
            refine XS.icmpNo X94.here hx rfl (hb hby at_83) rfl (teq c83_101).2 ?_
            show Steps p.tables e below (T94.setTop (mkF m 86 #[.val (.int p1), .val (.int p2), .val (.int p3), .val (.int p4), .val (.int p5), .val (.int p1), .val (.int p2), .val (.ref b93), .val (.int (p5 &&& (3 : Int32))), .unset, .unset] [])) _
            refine XS.iload X94.here hx rfl (hb hby at_86) rfl ?_
            show Steps p.tables e below (T94.setTop (mkF m 88 #[.val (.int p1), .val (.int p2), .val (.int p3), .val (.int p4), .val (.int p5), .val (.int p1), .val (.int p2), .val (.ref b93), .val (.int (p5 &&& (3 : Int32))), .unset, .unset] [(.int p5)])) _
            refine XS.iconst X94.here hx rfl (hb hby at_88) ?_
            show Steps p.tables e below (T94.setTop (mkF m 89 #[.val (.int p1), .val (.int p2), .val (.int p3), .val (.int p4), .val (.int p5), .val (.int p1), .val (.int p2), .val (.ref b93), .val (.int (p5 &&& (3 : Int32))), .unset, .unset] [(.int (4 : Int32)), (.int p5)])) _
            refine XS.ishr X94.here hx rfl (hb hby at_89) rfl ?_
            show Steps p.tables e below (T94.setTop (mkF m 90 #[.val (.int p1), .val (.int p2), .val (.int p3), .val (.int p4), .val (.int p5), .val (.int p1), .val (.int p2), .val (.ref b93), .val (.int (p5 &&& (3 : Int32))), .unset, .unset] [(.int (p5 >>> ((4 : Int32) &&& 31)))])) _
            refine XS.iconst X94.here hx rfl (hb hby at_90) ?_
            show Steps p.tables e below (T94.setTop (mkF m 91 #[.val (.int p1), .val (.int p2), .val (.int p3), .val (.int p4), .val (.int p5), .val (.int p1), .val (.int p2), .val (.ref b93), .val (.int (p5 &&& (3 : Int32))), .unset, .unset] [(.int (1 : Int32)), (.int (p5 >>> ((4 : Int32) &&& 31)))])) _
            refine XS.iand X94.here hx rfl (hb hby at_91) rfl ?_
            exact kt
          by_cases c92_103 : ((p5 >>> ((4 : Int32) &&& 31)) &&& (1 : Int32)) = (0 : Int32)
          · obtain ⟨_, _, ⟨T104, L104, k104, n104⟩, -, X104, ⟨Lc104, hQ104, l104, y104, z104⟩, st104⟩ := Jvm.LawKit.callS X94 hx (y := (⟨"java/lang/Integer", "valueOf", "(I)Ljava/lang/Integer;"⟩ : MethodName)) hown (mvT hZ (hw _ (List.mem_of_getElem? (i := 20) rfl))) (mvT hZ (hw _ (List.mem_of_getElem? (i := 21) rfl))) (mvT hZ (hw _ (List.mem_of_getElem? (i := 22) rfl))) (mvT hZ (hw _ (List.mem_of_getElem? (i := 23) rfl))) (by decide) (backOf (W := 0) (rmVO l Z a0 hw [] p1 wC T94.heap n0 (Nat.le_trans (Nat.le_trans Z0 E93.1) K94.1) (own_staK (Sta.ext E93 S_high) K94 (allS ⟨_, A93⟩ all0)) (own_staK (Sta.ext E93 S_cache) K94 (allS ⟨_, A93⟩ all0)) (own_ICkeep (own_ICkeep I_C ((Keep.refl _ []).ext E93) nin0) K94 (ninS (own_wCne I_C sz_b93) nin0))) hZ (hw _ (List.mem_of_getElem? (i := 23) rfl)) (hw _ (List.mem_of_getElem? (i := 22) rfl)) (by decide) (by decide)) (g := (mkF m 110 #[.val (.int p1), .val (.int p2), .val (.int p3), .val (.int p4), .val (.int p5), .val (.int p1), .val (.int p2), .val (.ref b93), .val (.int (p5 &&& (3 : Int32))), .unset, .unset] [(.int p1)])) rfl (by rw [hml]; rfl) (argsL := [(.int p1)]) (rest := []) (lenOf pd_rm0_2 rfl) rfl (by show 2 * 0 + _ ≤ _; exact Nat.le_of_eq rfl) (hb hby at_110) (fun _ _ => ⟨rfl, rfl, (by decide : 1 + 1 ≤ _), (by decide : 2 + 1 ≤ _)⟩)
            dsimp only [Pt.U, Pt.locs, Pt.cells, Pt.slots] at X104 l104 y104 z104 st104 hQ104
            subst l104 y104 z104
            obtain ⟨bo104, rfl, N104q, K104, Eo104⟩ := hQ104
            have N104 := Fr.app N94 N104q
            obtain ⟨cq105, kq105, q105a, q105b, q105c⟩ := isOf hZ rfl (Ei94.keep K104)
            obtain ⟨_, _, ⟨T105, L105, k105, n105⟩, -, X105, ⟨Lc105, hQ105, l105, y105, z105⟩, st105⟩ := X104.virtualBack hx (y := (⟨"com/example/keyturn/keyturn/signing/SdkRange", "equals", "(Ljava/lang/Object;)Z"⟩ : MethodName)) (z := (⟨"com/example/keyturn/keyturn/signing/SdkRange", "equals", "(Ljava/lang/Object;)Z"⟩ : MethodName)) hown (mvT hZ (hw _ (List.mem_of_getElem? (i := 13) rfl))) (mvT hZ (hw _ (List.mem_of_getElem? (i := 14) rfl))) (notFace_of_selects (args := #[]) (mvT hZ (hw _ (List.mem_of_getElem? (i := 16) rfl)))) (mvT hZ (hw _ (List.mem_of_getElem? (i := 16) rfl))) (mvT hZ (hw _ (List.mem_of_getElem? (i := 15) rfl))) (by decide) (backOf (W := 0) (rmEX l Z a0 hw [] b93 bo104 "java/lang/Integer" T104.heap n0 (Nat.le_trans (Nat.le_trans (Nat.le_trans Z0 E93.1) K94.1) K104.1) Eo104 (own_noI hw)) hZ (hw _ (List.mem_of_getElem? (i := 17) rfl)) (hw _ (List.mem_of_getElem? (i := 2) rfl)) (by decide) (by decide)) q105a q105c (g := (mkF m 119 #[.val (.int p1), .val (.int p2), .val (.int p3), .val (.int p4), .val (.int p5), .val (.int p1), .val (.int p2), .val (.ref b93), .val (.int (p5 &&& (3 : Int32))), .val (.ref bo104), .unset] [(.ref bo104), (.ref b93)])) rfl (by rw [hml]; rfl) (Steps.refl _) (argsL := [(.ref bo104)]) (rest := []) (lenOf pd_rm0_1 rfl) rfl (by show 2 * 0 + _ ≤ _; exact Nat.le_of_eq rfl) (hb hby at_119) (fun _ _ => ⟨rfl, rfl, (by decide : 2 + 0 ≤ _), (by decide : 3 + 0 ≤ _)⟩)
            dsimp only [Pt.U, Pt.locs, Pt.cells, Pt.slots] at X105 l105 y105 z105 st105 hQ105
            subst l105 y105 z105
            obtain ⟨rfl, N105q, hE105⟩ := hQ105
            have N105 := Fr.app N104 N105q
            have pre106 : ∀ tt, Steps p.tables e below (T105.setTop (mkF m 130 #[.val (.int p1), .val (.int p2), .val (.int p3), .val (.int p4), .val (.int p5), .val (.int p1), .val (.int p2), .val (.ref b93), .val (.int (p5 &&& (3 : Int32))), .val (.ref bo104), .unset] [(.int (1 : Int32))])) tt → Steps p.tables e below (s₁.setTop (entryFrame m #[(.int p1), (.int p2), (.int p3), (.int p4), (.int p5)] maxLocals)) tt := by
              intro tt kt
              refine pre102 tt ?_
              show Steps p.tables e below (T94.setTop (mkF m 92 #[.val (.int p1), .val (.int p2), .val (.int p3), .val (.int p4), .val (.int p5), .val (.int p1), .val (.int p2), .val (.ref b93), .val (.int (p5 &&& (3 : Int32))), .unset, .unset] [(.int ((p5 >>> ((4 : Int32) &&& 31)) &&& (1 : Int32)))])) _
              refine XS.ifYes X94.here hx rfl (pc0 := 92) (pc' := 109) rfl (hb hby at_92) rfl ((if0 _ _).trans (teq c92_103).1) (by decide) (by decide) ?_
              show Steps p.tables e below (T94.setTop (mkF m 109 #[.val (.int p1), .val (.int p2), .val (.int p3), .val (.int p4), .val (.int p5), .val (.int p1), .val (.int p2), .val (.ref b93), .val (.int (p5 &&& (3 : Int32))), .unset, .unset] [])) _
              refine XS.iloadN X94.here hx rfl (hb hby at_109) rfl ?_
              show Steps p.tables e below (T94.setTop (mkF m 110 #[.val (.int p1), .val (.int p2), .val (.int p3), .val (.int p4), .val (.int p5), .val (.int p1), .val (.int p2), .val (.ref b93), .val (.int (p5 &&& (3 : Int32))), .unset, .unset] [(.int p1)])) _
              refine st104 _ ?_
              show Steps p.tables e below (T104.setTop (mkF m 113 #[.val (.int p1), .val (.int p2), .val (.int p3), .val (.int p4), .val (.int p5), .val (.int p1), .val (.int p2), .val (.ref b93), .val (.int (p5 &&& (3 : Int32))), .unset, .unset] [(.ref bo104)])) _
              refine XS.astore X104.here hx rfl (hb hby at_113) rfl rfl (l' := #[.val (.int p1), .val (.int p2), .val (.int p3), .val (.int p4), .val (.int p5), .val (.int p1), .val (.int p2), .val (.ref b93), .val (.int (p5 &&& (3 : Int32))), .val (.ref bo104), .unset]) rfl ?_
              show Steps p.tables e below (T104.setTop (mkF m 115 #[.val (.int p1), .val (.int p2), .val (.int p3), .val (.int p4), .val (.int p5), .val (.int p1), .val (.int p2), .val (.ref b93), .val (.int (p5 &&& (3 : Int32))), .val (.ref bo104), .unset] [])) _
              refine XS.aload X104.here hx rfl (hb hby at_115) rfl rfl ?_
              show Steps p.tables e below (T104.setTop (mkF m 117 #[.val (.int p1), .val (.int p2), .val (.int p3), .val (.int p4), .val (.int p5), .val (.int p1), .val (.int p2), .val (.ref b93), .val (.int (p5 &&& (3 : Int32))), .val (.ref bo104), .unset] [(.ref b93)])) _
              refine XS.aload X104.here hx rfl (hb hby at_117) rfl rfl ?_
              show Steps p.tables e below (T104.setTop (mkF m 119 #[.val (.int p1), .val (.int p2), .val (.int p3), .val (.int p4), .val (.int p5), .val (.int p1), .val (.int p2), .val (.ref b93), .val (.int (p5 &&& (3 : Int32))), .val (.ref bo104), .unset] [(.ref bo104), (.ref b93)])) _
              refine st105.trans ?_
              show Steps p.tables e below (T105.setTop (mkF m 122 #[.val (.int p1), .val (.int p2), .val (.int p3), .val (.int p4), .val (.int p5), .val (.int p1), .val (.int p2), .val (.ref b93), .val (.int (p5 &&& (3 : Int32))), .val (.ref bo104), .unset] [(.int (0 : Int32))])) _
              refine XS.ifNo X105.here hx rfl (hb hby at_122) rfl ((if0 _ _).trans (teq (rfl : (0 : Int32) = (0 : Int32))).2) ?_
              show Steps p.tables e below (T105.setTop (mkF m 125 #[.val (.int p1), .val (.int p2), .val (.int p3), .val (.int p4), .val (.int p5), .val (.int p1), .val (.int p2), .val (.ref b93), .val (.int (p5 &&& (3 : Int32))), .val (.ref bo104), .unset] [])) _
              refine XS.iconst X105.here hx rfl (hb hby at_125) ?_
              show Steps p.tables e below (T105.setTop (mkF m 126 #[.val (.int p1), .val (.int p2), .val (.int p3), .val (.int p4), .val (.int p5), .val (.int p1), .val (.int p2), .val (.ref b93), .val (.int (p5 &&& (3 : Int32))), .val (.ref bo104), .unset] [(.int (1 : Int32))])) _
              refine XS.goto X105.here hx rfl (pc0 := 126) (pc' := 130) rfl (hb hby at_126) (by decide) (by decide) ?_
              exact kt
            obtain ⟨fs, hr, hrun, hended, hW, hsame⟩ := X105.leave (v := some (.int (1 : Int32))) (fun h => by rw [Bd.returns] at h; cases h)
            refine ⟨_, _, pre106 _ ?_, hrun, hended, _, _, rfl, ?_, ⟨_, rfl⟩, hW, hsame.mono (by decide) (by decide)⟩
            · show Steps p.tables e below (T105.setTop (mkF m 130 #[.val (.int p1), .val (.int p2), .val (.int p3), .val (.int p4), .val (.int p5), .val (.int p1), .val (.int p2), .val (.ref b93), .val (.int (p5 &&& (3 : Int32))), .val (.ref bo104), .unset] [(.int (1 : Int32))])) _
              exact retN X105 hx (t := .boolean) Bd.returns (by simp) (hb hby at_130) hr
            · show Q0 Z h0 n0 _ T105.heap _
              rw [hE105]
              exact ⟨rfl, N105⟩
          · have hp107 := own_c255 p3
            obtain ⟨_, _, ⟨T107, L107, k107, n107⟩, -, X107, ⟨Lc107, hQ107, l107, y107, z107⟩, st107⟩ := Jvm.LawKit.callS X94 hx (y := (⟨"java/lang/String", "valueOf", "(C)Ljava/lang/String;"⟩ : MethodName)) hown (mvT hZ (hw _ (List.mem_of_getElem? (i := 45) rfl))) (mvT hZ (hw _ (List.mem_of_getElem? (i := 46) rfl))) (mvT hZ (hw _ (List.mem_of_getElem? (i := 47) rfl))) (mvT hZ (hw _ (List.mem_of_getElem? (i := 48) rfl))) (by decide) (backOf (W := 0) (rmVC l Z a0 hw [] ((p3 &&& (255 : Int32)).toUInt32.toUInt16.toUInt32.toInt32) cs T94.heap n0 (Nat.le_trans (Nat.le_trans Z0 E93.1) K94.1) (own_staK (Sta.ext E93 S_cs) K94 (allS ⟨_, A93⟩ all0)) hcs hp107) hZ (hw _ (List.mem_of_getElem? (i := 48) rfl)) (hw _ (List.mem_of_getElem? (i := 47) rfl)) (by decide) (by decide)) (g := (mkF m 101 #[.val (.int p1), .val (.int p2), .val (.int p3), .val (.int p4), .val (.int p5), .val (.int p1), .val (.int p2), .val (.ref b93), .val (.int (p5 &&& (3 : Int32))), .unset, .unset] [(.int ((p3 &&& (255 : Int32)).toUInt32.toUInt16.toUInt32.toInt32))])) rfl (by rw [hml]; rfl) (argsL := [(.int ((p3 &&& (255 : Int32)).toUInt32.toUInt16.toUInt32.toInt32))]) (rest := []) (lenOf pd_rm0_3 rfl) rfl (by show 2 * 0 + _ ≤ _; exact Nat.le_of_eq rfl) (hb hby at_101) (fun _ _ => ⟨rfl, rfl, (by decide : 1 + 2 ≤ _), (by decide : 2 + 5 ≤ _)⟩)
            dsimp only [Pt.U, Pt.locs, Pt.cells, Pt.slots] at X107 l107 y107 z107 st107 hQ107
            subst l107 y107 z107
            obtain ⟨bo107, rfl, N107q, K107, Eo107⟩ := hQ107
            have N107 := Fr.app N94 N107q
            obtain ⟨cq108, kq108, q108a, q108b, q108c⟩ := isOf hZ rfl (Ei94.keep K107)
            obtain ⟨_, _, ⟨T108, L108, k108, n108⟩, -, X108, ⟨Lc108, hQ108, l108, y108, z108⟩, st108⟩ := X107.virtualBack hx (y := (⟨"com/example/keyturn/keyturn/signing/SdkRange", "equals", "(Ljava/lang/Object;)Z"⟩ : MethodName)) (z := (⟨"com/example/keyturn/keyturn/signing/SdkRange", "equals", "(Ljava/lang/Object;)Z"⟩ : MethodName)) hown (mvT hZ (hw _ (List.mem_of_getElem? (i := 13) rfl))) (mvT hZ (hw _ (List.mem_of_getElem? (i := 14) rfl))) (notFace_of_selects (args := #[]) (mvT hZ (hw _ (List.mem_of_getElem? (i := 16) rfl)))) (mvT hZ (hw _ (List.mem_of_getElem? (i := 16) rfl))) (mvT hZ (hw _ (List.mem_of_getElem? (i := 15) rfl))) (by decide) (backOf (W := 0) (rmEX l Z a0 hw [] b93 bo107 "java/lang/String" T107.heap n0 (Nat.le_trans (Nat.le_trans (Nat.le_trans Z0 E93.1) K94.1) K107.1) Eo107 (own_noS hw)) hZ (hw _ (List.mem_of_getElem? (i := 17) rfl)) (hw _ (List.mem_of_getElem? (i := 2) rfl)) (by decide) (by decide)) q108a q108c (g := (mkF m 119 #[.val (.int p1), .val (.int p2), .val (.int p3), .val (.int p4), .val (.int p5), .val (.int p1), .val (.int p2), .val (.ref b93), .val (.int (p5 &&& (3 : Int32))), .val (.ref bo107), .unset] [(.ref bo107), (.ref b93)])) rfl (by rw [hml]; rfl) (Steps.refl _) (argsL := [(.ref bo107)]) (rest := []) (lenOf pd_rm0_1 rfl) rfl (by show 2 * 0 + _ ≤ _; exact Nat.le_of_eq rfl) (hb hby at_119) (fun _ _ => ⟨rfl, rfl, (by decide : 3 + 0 ≤ _), (by decide : 7 + 0 ≤ _)⟩)
            dsimp only [Pt.U, Pt.locs, Pt.cells, Pt.slots] at X108 l108 y108 z108 st108 hQ108
            subst l108 y108 z108
            obtain ⟨rfl, N108q, hE108⟩ := hQ108
            have N108 := Fr.app N107 N108q
            have pre109 : ∀ tt, Steps p.tables e below (T108.setTop (mkF m 130 #[.val (.int p1), .val (.int p2), .val (.int p3), .val (.int p4), .val (.int p5), .val (.int p1), .val (.int p2), .val (.ref b93), .val (.int (p5 &&& (3 : Int32))), .val (.ref bo107), .unset] [(.int (1 : Int32))])) tt → Steps p.tables e below (s₁.setTop (entryFrame m #[(.int p1), (.int p2), (.int p3), (.int p4), (.int p5)] maxLocals)) tt := by
              intro tt kt
              refine pre102 tt ?_
              show Steps p.tables e below (T94.setTop (mkF m 92 #[.val (.int p1), .val (.int p2), .val (.int p3), .val (.int p4), .val (.int p5), .val (.int p1), .val (.int p2), .val (.ref b93), .val (.int (p5 &&& (3 : Int32))), .unset, .unset] [(.int ((p5 >>> ((4 : Int32) &&& 31)) &&& (1 : Int32)))])) _
              refine XS.ifNo X94.here hx rfl (hb hby at_92) rfl ((if0 _ _).trans (feq c92_103).1) ?_
              show Steps p.tables e below (T94.setTop (mkF m 95 #[.val (.int p1), .val (.int p2), .val (.int p3), .val (.int p4), .val (.int p5), .val (.int p1), .val (.int p2), .val (.ref b93), .val (.int (p5 &&& (3 : Int32))), .unset, .unset] [])) _
              refine XS.iloadN X94.here hx rfl (hb hby at_95) rfl ?_
              show Steps p.tables e below (T94.setTop (mkF m 96 #[.val (.int p1), .val (.int p2), .val (.int p3), .val (.int p4), .val (.int p5), .val (.int p1), .val (.int p2), .val (.ref b93), .val (.int (p5 &&& (3 : Int32))), .unset, .unset] [(.int p3)])) _
              refine XS.sipush X94.here hx rfl (hb hby at_96) ?_
              show Steps p.tables e below (T94.setTop (mkF m 99 #[.val (.int p1), .val (.int p2), .val (.int p3), .val (.int p4), .val (.int p5), .val (.int p1), .val (.int p2), .val (.ref b93), .val (.int (p5 &&& (3 : Int32))), .unset, .unset] [(.int (255 : Int32)), (.int p3)])) _
              refine XS.iand X94.here hx rfl (hb hby at_99) rfl ?_
              show Steps p.tables e below (T94.setTop (mkF m 100 #[.val (.int p1), .val (.int p2), .val (.int p3), .val (.int p4), .val (.int p5), .val (.int p1), .val (.int p2), .val (.ref b93), .val (.int (p5 &&& (3 : Int32))), .unset, .unset] [(.int (p3 &&& (255 : Int32)))])) _
              refine XS.i2c X94.here hx rfl (hb hby at_100) rfl ?_
              show Steps p.tables e below (T94.setTop (mkF m 101 #[.val (.int p1), .val (.int p2), .val (.int p3), .val (.int p4), .val (.int p5), .val (.int p1), .val (.int p2), .val (.ref b93), .val (.int (p5 &&& (3 : Int32))), .unset, .unset] [(.int ((p3 &&& (255 : Int32)).toUInt32.toUInt16.toUInt32.toInt32))])) _
              refine st107 _ ?_
              show Steps p.tables e below (T107.setTop (mkF m 104 #[.val (.int p1), .val (.int p2), .val (.int p3), .val (.int p4), .val (.int p5), .val (.int p1), .val (.int p2), .val (.ref b93), .val (.int (p5 &&& (3 : Int32))), .unset, .unset] [(.ref bo107)])) _
              refine XS.astore X107.here hx rfl (hb hby at_104) rfl rfl (l' := #[.val (.int p1), .val (.int p2), .val (.int p3), .val (.int p4), .val (.int p5), .val (.int p1), .val (.int p2), .val (.ref b93), .val (.int (p5 &&& (3 : Int32))), .val (.ref bo107), .unset]) rfl ?_
              show Steps p.tables e below (T107.setTop (mkF m 106 #[.val (.int p1), .val (.int p2), .val (.int p3), .val (.int p4), .val (.int p5), .val (.int p1), .val (.int p2), .val (.ref b93), .val (.int (p5 &&& (3 : Int32))), .val (.ref bo107), .unset] [])) _
              refine XS.goto X107.here hx rfl (pc0 := 106) (pc' := 115) rfl (hb hby at_106) (by decide) (by decide) ?_
              show Steps p.tables e below (T107.setTop (mkF m 115 #[.val (.int p1), .val (.int p2), .val (.int p3), .val (.int p4), .val (.int p5), .val (.int p1), .val (.int p2), .val (.ref b93), .val (.int (p5 &&& (3 : Int32))), .val (.ref bo107), .unset] [])) _
              refine XS.aload X107.here hx rfl (hb hby at_115) rfl rfl ?_
              show Steps p.tables e below (T107.setTop (mkF m 117 #[.val (.int p1), .val (.int p2), .val (.int p3), .val (.int p4), .val (.int p5), .val (.int p1), .val (.int p2), .val (.ref b93), .val (.int (p5 &&& (3 : Int32))), .val (.ref bo107), .unset] [(.ref b93)])) _
              refine XS.aload X107.here hx rfl (hb hby at_117) rfl rfl ?_
              show Steps p.tables e below (T107.setTop (mkF m 119 #[.val (.int p1), .val (.int p2), .val (.int p3), .val (.int p4), .val (.int p5), .val (.int p1), .val (.int p2), .val (.ref b93), .val (.int (p5 &&& (3 : Int32))), .val (.ref bo107), .unset] [(.ref bo107), (.ref b93)])) _
              refine st108.trans ?_
              show Steps p.tables e below (T108.setTop (mkF m 122 #[.val (.int p1), .val (.int p2), .val (.int p3), .val (.int p4), .val (.int p5), .val (.int p1), .val (.int p2), .val (.ref b93), .val (.int (p5 &&& (3 : Int32))), .val (.ref bo107), .unset] [(.int (0 : Int32))])) _
              refine XS.ifNo X108.here hx rfl (hb hby at_122) rfl ((if0 _ _).trans (teq (rfl : (0 : Int32) = (0 : Int32))).2) ?_
              show Steps p.tables e below (T108.setTop (mkF m 125 #[.val (.int p1), .val (.int p2), .val (.int p3), .val (.int p4), .val (.int p5), .val (.int p1), .val (.int p2), .val (.ref b93), .val (.int (p5 &&& (3 : Int32))), .val (.ref bo107), .unset] [])) _
              refine XS.iconst X108.here hx rfl (hb hby at_125) ?_
              show Steps p.tables e below (T108.setTop (mkF m 126 #[.val (.int p1), .val (.int p2), .val (.int p3), .val (.int p4), .val (.int p5), .val (.int p1), .val (.int p2), .val (.ref b93), .val (.int (p5 &&& (3 : Int32))), .val (.ref bo107), .unset] [(.int (1 : Int32))])) _
              refine XS.goto X108.here hx rfl (pc0 := 126) (pc' := 130) rfl (hb hby at_126) (by decide) (by decide) ?_
              exact kt
            obtain ⟨fs, hr, hrun, hended, hW, hsame⟩ := X108.leave (v := some (.int (1 : Int32))) (fun h => by rw [Bd.returns] at h; cases h)
            refine ⟨_, _, pre109 _ ?_, hrun, hended, _, _, rfl, ?_, ⟨_, rfl⟩, hW, hsame.mono (by decide) (by decide)⟩
            · show Steps p.tables e below (T108.setTop (mkF m 130 #[.val (.int p1), .val (.int p2), .val (.int p3), .val (.int p4), .val (.int p5), .val (.int p1), .val (.int p2), .val (.ref b93), .val (.int (p5 &&& (3 : Int32))), .val (.ref bo107), .unset] [(.int (1 : Int32))])) _
              exact retN X108 hx (t := .boolean) Bd.returns (by simp) (hb hby at_130) hr
            · show Q0 Z h0 n0 _ T108.heap _
              rw [hE108]
              exact ⟨rfl, N108⟩
        · obtain ⟨T110, h110, X110, e110, E110, A110, D110, -, st110⟩ := newO X94 hx hZ hown (hw _ (List.mem_of_getElem? (i := 0) rfl)) (hw _ (List.mem_of_getElem? (i := 1) rfl)) (hw _ (List.mem_of_getElem? (i := 2) rfl)) rfl (g := (mkF m 131 #[.val (.int p1), .val (.int p2), .val (.int p3), .val (.int p4), .val (.int p5), .val (.int p1), .val (.int p2), .val (.ref b93), .val (.int (p5 &&& (3 : Int32))), .unset, .unset] [])) rfl (hb hby at_131) (by decide) (by decide)
          obtain ⟨b110, g110⟩ : ∃ z, z = T94.heap.size := ⟨_, rfl⟩
          rw [← g110] at A110 D110 st110
          have g_b110 : n0 ≤ b110 := Nat.le_trans (Nat.le_trans (Nat.le_trans Z0 E93.1) K94.1) (Nat.le_of_eq g110.symm)
          have sz_b110 : h0.size ≤ b110 := Nat.le_trans (KK94).1 (Nat.le_of_eq g110.symm)
          have K110 : Keep h0 h110 [] := (KK94).ext E110
          have F_min_b110 : Fld Z h110 b110 "com/example/keyturn/keyturn/signing/SdkRange" "min" "I" (.int (0 : Int32)) := D110 (Or.inr (hw _ (List.mem_of_getElem? (i := 10) rfl))) (ty := .int) (by decide)
          have F_max_b110 : Fld Z h110 b110 "com/example/keyturn/keyturn/signing/SdkRange" "max" "I" (.int (0 : Int32)) := D110 (Or.inr (hw _ (List.mem_of_getElem? (i := 12) rfl))) (ty := .int) (by decide)
          obtain ⟨_, _, ⟨T111, L111, k111, n111⟩, -, X111, ⟨Lc111, hQ111, l111, y111, z111⟩, st111⟩ := X110.specialBack hx (y := (⟨"com/example/keyturn/keyturn/signing/SdkRange", "<init>", "(II)V"⟩ : MethodName)) rfl hown (mvT hZ (hw _ (List.mem_of_getElem? (i := 3) rfl))) (mvT hZ (hw _ (List.mem_of_getElem? (i := 4) rfl))) (mvT hZ (hw _ (List.mem_of_getElem? (i := 5) rfl))) (by decide) (backOf (W := 1) (rmC l Z a0 hw [] b110 p1 p2 h110 n0 (Nat.le_trans (Nat.le_trans (Nat.le_trans Z0 E93.1) K94.1) E110.1) A110 F_min_b110 F_max_b110 g_b110) hZ (hw _ (List.mem_of_getElem? (i := 5) rfl)) (hw _ (List.mem_of_getElem? (i := 2) rfl)) (by decide) (by decide)) (g := (mkF m 139 #[.val (.int p1), .val (.int p2), .val (.int p3), .val (.int p4), .val (.int p5), .val (.int p1), .val (.int p2), .val (.ref b93), .val (.int (p5 &&& (3 : Int32))), .unset, .unset] [(.int p2), (.int p1), (.ref b110), (.ref b110)])) rfl (by rw [hml]; rfl) (Steps.refl _) (a := b110) (argsL := [(.int p1), (.int p2)]) (rest := [(.ref b110)]) (lenOf pd_rm0_0 rfl) rfl (by show 2 * 0 + _ ≤ _; exact Nat.le_of_eq rfl) (hb hby at_139) (fun _ _ => ⟨rfl, e110, (by decide : 2 + 0 ≤ _), (by decide : 4 + 0 ≤ _)⟩)
          dsimp only [Pt.U, Pt.locs, Pt.cells, Pt.slots] at X111 l111 y111 z111 st111 hQ111
          subst l111 y111 z111
          obtain ⟨rfl, N111q, K111, Ei111, Fm111, Fx111⟩ := hQ111
          have N111 := Fr.app N94 N111q
          have KK111 : Keep h0 T111.heap [] := (K110).trans K111 (allS (Or.inr sz_b110) all0)
          obtain ⟨cq112, kq112, q112a, q112b, q112c⟩ := isOf hZ rfl ((Exa.ext E110 Ei94).keep K111)
          obtain ⟨_, _, ⟨T112, L112, k112, n112⟩, -, X112, ⟨Lc112, hQ112, l112, y112, z112⟩, st112⟩ := X111.virtualBack hx (y := (⟨"com/example/keyturn/keyturn/signing/SdkRange", "equals", "(Ljava/lang/Object;)Z"⟩ : MethodName)) (z := (⟨"com/example/keyturn/keyturn/signing/SdkRange", "equals", "(Ljava/lang/Object;)Z"⟩ : MethodName)) hown (mvT hZ (hw _ (List.mem_of_getElem? (i := 13) rfl))) (mvT hZ (hw _ (List.mem_of_getElem? (i := 14) rfl))) (notFace_of_selects (args := #[]) (mvT hZ (hw _ (List.mem_of_getElem? (i := 16) rfl)))) (mvT hZ (hw _ (List.mem_of_getElem? (i := 16) rfl))) (mvT hZ (hw _ (List.mem_of_getElem? (i := 15) rfl))) (by decide) (backOf (W := 0) (rmE l Z a0 hw [] b93 b110 p1 p2 p1 p2 (1 : Int32) T111.heap n0 (Nat.le_trans (Nat.le_trans (Nat.le_trans (Nat.le_trans Z0 E93.1) K94.1) E110.1) K111.1) Ei111 ((Fld.ext E110 Fm94).keep K111 (ninS (Nat.ne_of_lt (Nat.lt_of_lt_of_le (Ei94).lt (Nat.le_of_eq g110.symm))) nin0)) ((Fld.ext E110 Fx94).keep K111 (ninS (Nat.ne_of_lt (Nat.lt_of_lt_of_le (Ei94).lt (Nat.le_of_eq g110.symm))) nin0)) Fm111 Fx111 (by rw [if_pos (rfl : p1 = p1), if_pos (rfl : p2 = p2)])) hZ (hw _ (List.mem_of_getElem? (i := 17) rfl)) (hw _ (List.mem_of_getElem? (i := 2) rfl)) (by decide) (by decide)) q112a q112c (g := (mkF m 167 #[.val (.int p1), .val (.int p2), .val (.int p3), .val (.int p4), .val (.int p5), .val (.int p1), .val (.int p2), .val (.ref b93), .val (.int (p5 &&& (3 : Int32))), .val (.ref b110), .val (.int (1 : Int32))] [(.ref b110), (.ref b93)])) rfl (by rw [hml]; rfl) (Steps.refl _) (argsL := [(.ref b110)]) (rest := []) (lenOf pd_rm0_1 rfl) rfl (by show 2 * 0 + _ ≤ _; exact Nat.le_of_eq rfl) (hb hby at_167) (fun _ _ => ⟨rfl, rfl, (by decide : 2 + 0 ≤ _), (by decide : 4 + 0 ≤ _)⟩)
          dsimp only [Pt.U, Pt.locs, Pt.cells, Pt.slots] at X112 l112 y112 z112 st112 hQ112
          subst l112 y112 z112
          obtain ⟨rfl, N112q, hE112⟩ := hQ112
          have N112 := Fr.app N111 N112q
          obtain ⟨cq113, kq113, q113a, q113b, q113c⟩ := isOf hZ hE112 Ei111
          obtain ⟨_, _, ⟨T113, L113, k113, n113⟩, -, X113, ⟨Lc113, hQ113, l113, y113, z113⟩, st113⟩ := X112.virtualBack hx (y := (⟨"com/example/keyturn/keyturn/signing/SdkRange", "equals", "(Ljava/lang/Object;)Z"⟩ : MethodName)) (z := (⟨"com/example/keyturn/keyturn/signing/SdkRange", "equals", "(Ljava/lang/Object;)Z"⟩ : MethodName)) hown (mvT hZ (hw _ (List.mem_of_getElem? (i := 13) rfl))) (mvT hZ (hw _ (List.mem_of_getElem? (i := 14) rfl))) (notFace_of_selects (args := #[]) (mvT hZ (hw _ (List.mem_of_getElem? (i := 16) rfl)))) (mvT hZ (hw _ (List.mem_of_getElem? (i := 16) rfl))) (mvT hZ (hw _ (List.mem_of_getElem? (i := 15) rfl))) (by decide) (backOf (W := 0) (rmE l Z a0 hw [] b110 b93 p1 p2 p1 p2 (1 : Int32) T111.heap n0 (Nat.le_trans (Nat.le_trans (Nat.le_trans (Nat.le_trans Z0 E93.1) K94.1) E110.1) K111.1) ((Exa.ext E110 Ei94).keep K111) Fm111 Fx111 ((Fld.ext E110 Fm94).keep K111 (ninS (Nat.ne_of_lt (Nat.lt_of_lt_of_le (Ei94).lt (Nat.le_of_eq g110.symm))) nin0)) ((Fld.ext E110 Fx94).keep K111 (ninS (Nat.ne_of_lt (Nat.lt_of_lt_of_le (Ei94).lt (Nat.le_of_eq g110.symm))) nin0)) (by rw [if_pos (rfl : p1 = p1), if_pos (rfl : p2 = p2)])) hZ (hw _ (List.mem_of_getElem? (i := 17) rfl)) (hw _ (List.mem_of_getElem? (i := 2) rfl)) (by decide) (by decide)) q113a q113c (g := (mkF m 179 #[.val (.int p1), .val (.int p2), .val (.int p3), .val (.int p4), .val (.int p5), .val (.int p1), .val (.int p2), .val (.ref b93), .val (.int (p5 &&& (3 : Int32))), .val (.ref b110), .val (.int (1 : Int32))] [(.ref b93), (.ref b110)])) rfl (by rw [hml]; rfl) (Steps.refl _) (argsL := [(.ref b93)]) (rest := []) (lenOf pd_rm0_1 rfl) rfl (by show 2 * 0 + _ ≤ _; exact Nat.le_of_eq rfl) (hb hby at_179) (fun _ _ => ⟨rfl, hE112, (by decide : 2 + 0 ≤ _), (by decide : 4 + 0 ≤ _)⟩)
          dsimp only [Pt.U, Pt.locs, Pt.cells, Pt.slots] at X113 l113 y113 z113 st113 hQ113
          subst l113 y113 z113
          obtain ⟨rfl, N113q, hE113⟩ := hQ113
          have N113 := Fr.app N112 N113q
          have pre114 : ∀ tt, Steps p.tables e below (T113.setTop (mkF m 192 #[.val (.int p1), .val (.int p2), .val (.int p3), .val (.int p4), .val (.int p5), .val (.int p1), .val (.int p2), .val (.ref b93), .val (.int (p5 &&& (3 : Int32))), .val (.ref b110), .val (.int (1 : Int32))] [(.int (1 : Int32))])) tt → Steps p.tables e below (s₁.setTop (entryFrame m #[(.int p1), (.int p2), (.int p3), (.int p4), (.int p5)] maxLocals)) tt := by
            intro tt kt
            refine pre100 tt ?_
            show Steps p.tables e below (T94.setTop (mkF m 83 #[.val (.int p1), .val (.int p2), .val (.int p3), .val (.int p4), .val (.int p5), .val (.int p1), .val (.int p2), .val (.ref b93), .val (.int (p5 &&& (3 : Int32))), .unset, .unset] [(.int (2 : Int32)), (.int (p5 &&& (3 : Int32)))])) _
            refine XS.icmpYes X94.here hx rfl (pc0 := 83) (pc' := 131) rfl (hb hby at_83) rfl (feq c83_101).2 (by decide) (by decide) ?_
            show Steps p.tables e below (T94.setTop (mkF m 131 #[.val (.int p1), .val (.int p2), .val (.int p3), .val (.int p4), .val (.int p5), .val (.int p1), .val (.int p2), .val (.ref b93), .val (.int (p5 &&& (3 : Int32))), .unset, .unset] [])) _
            refine st110 _ ?_
            show Steps p.tables e below (T110.setTop (mkF m 134 #[.val (.int p1), .val (.int p2), .val (.int p3), .val (.int p4), .val (.int p5), .val (.int p1), .val (.int p2), .val (.ref b93), .val (.int (p5 &&& (3 : Int32))), .unset, .unset] [(.ref b110)])) _
            refine XS.dup X110.here hx rfl (hb hby at_134) rfl rfl ?_
            show Steps p.tables e below (T110.setTop (mkF m 135 #[.val (.int p1), .val (.int p2), .val (.int p3), .val (.int p4), .val (.int p5), .val (.int p1), .val (.int p2), .val (.ref b93), .val (.int (p5 &&& (3 : Int32))), .unset, .unset] [(.ref b110), (.ref b110)])) _
            refine XS.iload X110.here hx rfl (hb hby at_135) rfl ?_
            show Steps p.tables e below (T110.setTop (mkF m 137 #[.val (.int p1), .val (.int p2), .val (.int p3), .val (.int p4), .val (.int p5), .val (.int p1), .val (.int p2), .val (.ref b93), .val (.int (p5 &&& (3 : Int32))), .unset, .unset] [(.int p1), (.ref b110), (.ref b110)])) _
            refine XS.iload X110.here hx rfl (hb hby at_137) rfl ?_
            show Steps p.tables e below (T110.setTop (mkF m 139 #[.val (.int p1), .val (.int p2), .val (.int p3), .val (.int p4), .val (.int p5), .val (.int p1), .val (.int p2), .val (.ref b93), .val (.int (p5 &&& (3 : Int32))), .unset, .unset] [(.int p2), (.int p1), (.ref b110), (.ref b110)])) _
            refine st111.trans ?_
            show Steps p.tables e below (T111.setTop (mkF m 142 #[.val (.int p1), .val (.int p2), .val (.int p3), .val (.int p4), .val (.int p5), .val (.int p1), .val (.int p2), .val (.ref b93), .val (.int (p5 &&& (3 : Int32))), .unset, .unset] [(.ref b110)])) _
            refine XS.astore X111.here hx rfl (hb hby at_142) rfl rfl (l' := #[.val (.int p1), .val (.int p2), .val (.int p3), .val (.int p4), .val (.int p5), .val (.int p1), .val (.int p2), .val (.ref b93), .val (.int (p5 &&& (3 : Int32))), .val (.ref b110), .unset]) rfl ?_
            show Steps p.tables e below (T111.setTop (mkF m 144 #[.val (.int p1), .val (.int p2), .val (.int p3), .val (.int p4), .val (.int p5), .val (.int p1), .val (.int p2), .val (.ref b93), .val (.int (p5 &&& (3 : Int32))), .val (.ref b110), .unset] [])) _
            refine XS.iloadN X111.here hx rfl (hb hby at_144) rfl ?_
            show Steps p.tables e below (T111.setTop (mkF m 145 #[.val (.int p1), .val (.int p2), .val (.int p3), .val (.int p4), .val (.int p5), .val (.int p1), .val (.int p2), .val (.ref b93), .val (.int (p5 &&& (3 : Int32))), .val (.ref b110), .unset] [(.int p1)])) _
            refine XS.iload X111.here hx rfl (hb hby at_145) rfl ?_
            show Steps p.tables e below (T111.setTop (mkF m 147 #[.val (.int p1), .val (.int p2), .val (.int p3), .val (.int p4), .val (.int p5), .val (.int p1), .val (.int p2), .val (.ref b93), .val (.int (p5 &&& (3 : Int32))), .val (.ref b110), .unset] [(.int p1), (.int p1)])) _
            refine XS.icmpNo X111.here hx rfl (hb hby at_147) rfl (teq (rfl : p1 = p1)).2 ?_
            show Steps p.tables e below (T111.setTop (mkF m 150 #[.val (.int p1), .val (.int p2), .val (.int p3), .val (.int p4), .val (.int p5), .val (.int p1), .val (.int p2), .val (.ref b93), .val (.int (p5 &&& (3 : Int32))), .val (.ref b110), .unset] [])) _
            refine XS.iloadN X111.here hx rfl (hb hby at_150) rfl ?_
            show Steps p.tables e below (T111.setTop (mkF m 151 #[.val (.int p1), .val (.int p2), .val (.int p3), .val (.int p4), .val (.int p5), .val (.int p1), .val (.int p2), .val (.ref b93), .val (.int (p5 &&& (3 : Int32))), .val (.ref b110), .unset] [(.int p2)])) _
            refine XS.iload X111.here hx rfl (hb hby at_151) rfl ?_
            show Steps p.tables e below (T111.setTop (mkF m 153 #[.val (.int p1), .val (.int p2), .val (.int p3), .val (.int p4), .val (.int p5), .val (.int p1), .val (.int p2), .val (.ref b93), .val (.int (p5 &&& (3 : Int32))), .val (.ref b110), .unset] [(.int p2), (.int p2)])) _
            refine XS.icmpNo X111.here hx rfl (hb hby at_153) rfl (teq (rfl : p2 = p2)).2 ?_
            show Steps p.tables e below (T111.setTop (mkF m 156 #[.val (.int p1), .val (.int p2), .val (.int p3), .val (.int p4), .val (.int p5), .val (.int p1), .val (.int p2), .val (.ref b93), .val (.int (p5 &&& (3 : Int32))), .val (.ref b110), .unset] [])) _
            refine XS.iconst X111.here hx rfl (hb hby at_156) ?_
            show Steps p.tables e below (T111.setTop (mkF m 157 #[.val (.int p1), .val (.int p2), .val (.int p3), .val (.int p4), .val (.int p5), .val (.int p1), .val (.int p2), .val (.ref b93), .val (.int (p5 &&& (3 : Int32))), .val (.ref b110), .unset] [(.int (1 : Int32))])) _
            refine XS.goto X111.here hx rfl (pc0 := 157) (pc' := 161) rfl (hb hby at_157) (by decide) (by decide) ?_
            show Steps p.tables e below (T111.setTop (mkF m 161 #[.val (.int p1), .val (.int p2), .val (.int p3), .val (.int p4), .val (.int p5), .val (.int p1), .val (.int p2), .val (.ref b93), .val (.int (p5 &&& (3 : Int32))), .val (.ref b110), .unset] [(.int (1 : Int32))])) _
            refine XS.istore X111.here hx rfl (hb hby at_161) rfl (l' := #[.val (.int p1), .val (.int p2), .val (.int p3), .val (.int p4), .val (.int p5), .val (.int p1), .val (.int p2), .val (.ref b93), .val (.int (p5 &&& (3 : Int32))), .val (.ref b110), .val (.int (1 : Int32))]) rfl ?_
            show Steps p.tables e below (T111.setTop (mkF m 163 #[.val (.int p1), .val (.int p2), .val (.int p3), .val (.int p4), .val (.int p5), .val (.int p1), .val (.int p2), .val (.ref b93), .val (.int (p5 &&& (3 : Int32))), .val (.ref b110), .val (.int (1 : Int32))] [])) _
            refine XS.aload X111.here hx rfl (hb hby at_163) rfl rfl ?_
            show Steps p.tables e below (T111.setTop (mkF m 165 #[.val (.int p1), .val (.int p2), .val (.int p3), .val (.int p4), .val (.int p5), .val (.int p1), .val (.int p2), .val (.ref b93), .val (.int (p5 &&& (3 : Int32))), .val (.ref b110), .val (.int (1 : Int32))] [(.ref b93)])) _
            refine XS.aload X111.here hx rfl (hb hby at_165) rfl rfl ?_
            show Steps p.tables e below (T111.setTop (mkF m 167 #[.val (.int p1), .val (.int p2), .val (.int p3), .val (.int p4), .val (.int p5), .val (.int p1), .val (.int p2), .val (.ref b93), .val (.int (p5 &&& (3 : Int32))), .val (.ref b110), .val (.int (1 : Int32))] [(.ref b110), (.ref b93)])) _
            refine st112.trans ?_
            show Steps p.tables e below (T112.setTop (mkF m 170 #[.val (.int p1), .val (.int p2), .val (.int p3), .val (.int p4), .val (.int p5), .val (.int p1), .val (.int p2), .val (.ref b93), .val (.int (p5 &&& (3 : Int32))), .val (.ref b110), .val (.int (1 : Int32))] [(.int (1 : Int32))])) _
            refine XS.iload X112.here hx rfl (hb hby at_170) rfl ?_
            show Steps p.tables e below (T112.setTop (mkF m 172 #[.val (.int p1), .val (.int p2), .val (.int p3), .val (.int p4), .val (.int p5), .val (.int p1), .val (.int p2), .val (.ref b93), .val (.int (p5 &&& (3 : Int32))), .val (.ref b110), .val (.int (1 : Int32))] [(.int (1 : Int32)), (.int (1 : Int32))])) _
            refine XS.icmpNo X112.here hx rfl (hb hby at_172) rfl (teq (rfl : (1 : Int32) = (1 : Int32))).2 ?_
            show Steps p.tables e below (T112.setTop (mkF m 175 #[.val (.int p1), .val (.int p2), .val (.int p3), .val (.int p4), .val (.int p5), .val (.int p1), .val (.int p2), .val (.ref b93), .val (.int (p5 &&& (3 : Int32))), .val (.ref b110), .val (.int (1 : Int32))] [])) _
            refine XS.aload X112.here hx rfl (hb hby at_175) rfl rfl ?_
            show Steps p.tables e below (T112.setTop (mkF m 177 #[.val (.int p1), .val (.int p2), .val (.int p3), .val (.int p4), .val (.int p5), .val (.int p1), .val (.int p2), .val (.ref b93), .val (.int (p5 &&& (3 : Int32))), .val (.ref b110), .val (.int (1 : Int32))] [(.ref b110)])) _
            refine XS.aload X112.here hx rfl (hb hby at_177) rfl rfl ?_
            show Steps p.tables e below (T112.setTop (mkF m 179 #[.val (.int p1), .val (.int p2), .val (.int p3), .val (.int p4), .val (.int p5), .val (.int p1), .val (.int p2), .val (.ref b93), .val (.int (p5 &&& (3 : Int32))), .val (.ref b110), .val (.int (1 : Int32))] [(.ref b93), (.ref b110)])) _
            refine st113.trans ?_
            show Steps p.tables e below (T113.setTop (mkF m 182 #[.val (.int p1), .val (.int p2), .val (.int p3), .val (.int p4), .val (.int p5), .val (.int p1), .val (.int p2), .val (.ref b93), .val (.int (p5 &&& (3 : Int32))), .val (.ref b110), .val (.int (1 : Int32))] [(.int (1 : Int32))])) _
            refine XS.iload X113.here hx rfl (hb hby at_182) rfl ?_
            show Steps p.tables e below (T113.setTop (mkF m 184 #[.val (.int p1), .val (.int p2), .val (.int p3), .val (.int p4), .val (.int p5), .val (.int p1), .val (.int p2), .val (.ref b93), .val (.int (p5 &&& (3 : Int32))), .val (.ref b110), .val (.int (1 : Int32))] [(.int (1 : Int32)), (.int (1 : Int32))])) _
            refine XS.icmpNo X113.here hx rfl (hb hby at_184) rfl (teq (rfl : (1 : Int32) = (1 : Int32))).2 ?_
            show Steps p.tables e below (T113.setTop (mkF m 187 #[.val (.int p1), .val (.int p2), .val (.int p3), .val (.int p4), .val (.int p5), .val (.int p1), .val (.int p2), .val (.ref b93), .val (.int (p5 &&& (3 : Int32))), .val (.ref b110), .val (.int (1 : Int32))] [])) _
            refine XS.iconst X113.here hx rfl (hb hby at_187) ?_
            show Steps p.tables e below (T113.setTop (mkF m 188 #[.val (.int p1), .val (.int p2), .val (.int p3), .val (.int p4), .val (.int p5), .val (.int p1), .val (.int p2), .val (.ref b93), .val (.int (p5 &&& (3 : Int32))), .val (.ref b110), .val (.int (1 : Int32))] [(.int (1 : Int32))])) _
            refine XS.goto X113.here hx rfl (pc0 := 188) (pc' := 192) rfl (hb hby at_188) (by decide) (by decide) ?_
            exact kt
          obtain ⟨fs, hr, hrun, hended, hW, hsame⟩ := X113.leave (v := some (.int (1 : Int32))) (fun h => by rw [Bd.returns] at h; cases h)
          refine ⟨_, _, pre114 _ ?_, hrun, hended, _, _, rfl, ?_, ⟨_, rfl⟩, hW, hsame.mono (by decide) (by decide)⟩
          · show Steps p.tables e below (T113.setTop (mkF m 192 #[.val (.int p1), .val (.int p2), .val (.int p3), .val (.int p4), .val (.int p5), .val (.int p1), .val (.int p2), .val (.ref b93), .val (.int (p5 &&& (3 : Int32))), .val (.ref b110), .val (.int (1 : Int32))] [(.int (1 : Int32))])) _
            exact retN X113 hx (t := .boolean) Bd.returns (by simp) (hb hby at_192) hr
          · show Q0 Z h0 n0 _ T113.heap _
            rw [hE113]
            exact ⟨rfl, N113⟩
set_option maxRecDepth 65536 in
set_option maxHeartbeats 40000000 in
theorem comes_1 {Post : Tables → Env → Array Value → State → Outcome → State → Prop} (hpost : ∀ tb e args s v u, (limb_1_1.after args s (.returned v) u = true ∧ limb_1_2.after args s (.returned v) u = true ∧ True) → FrameEnd s (.returned v) u (Jvm.fieldLocs frame_1_writes args s ++ Jvm.arrayLocs frame_1_arrays args s ++ Jvm.staticLocs frame_1_statics s) 16 128 → Post tb e args s (.returned v) u) :
    ArmFor flags0 classFile x code maxLocals ret World_1 tables_1 room_1 Calls_1 rest_1 Pre_1 Post := by
  intro l hfl _ _ p e ha hc hk s m args below hf hA hF happ hP
  obtain ⟨hcalls, hrest, hpre⟩ := hP
  obtain ⟨-, -, -, hnamed, -, -, -, hat⟩ := (Spec.applies_iff hf).mp happ
  obtain ⟨hg, hn⟩ := and_e (Cond.before_iff.mp (show (Jvm.Cond.and given_1 narrow_1).before args s = true from hpre))
  have hw := fun d (hd : d ∈ tables_1) => atoms_spec (ws := Jvm.Cond.code x code maxLocals ret :: tables_1) hat d (List.mem_cons_of_mem _ hd)
  obtain ⟨g1a, g1b⟩ := and_e hg
  obtain ⟨g2a, g2b⟩ := and_e g1b
  obtain ⟨g3a, g3b⟩ := and_e g2b
  obtain ⟨g4a, g4b⟩ := and_e g3b
  obtain ⟨g5a, g5b⟩ := and_e g4b
  obtain ⟨w0, w1, w2, w3, w4, rfl⟩ : ∃ w0 w1 w2 w3 w4 : Value, args = #[w0, w1, w2, w3, w4] := by
    have hs : args.size = 5 := by simpa [Cond.value, given_1] using g1a
    obtain ⟨L⟩ := args
    match L, hs with
    | [w0, w1, w2, w3, w4], _ => exact ⟨w0, w1, w2, w3, w4, rfl⟩
  have hfit : Fit s := fun {y c} hc i hi => by
    obtain ⟨ha, rfl⟩ := Array.getElem?_eq_some_iff.mp hc
    have q := List.all_eq_true.mp ((Array.all_eq_true_iff_forall_mem.mp hF) _ (Array.getElem_mem ha)) i (List.mem_range.mpr hi)
    simpa [Array.getElem?_eq_getElem hi] using q
  obtain ⟨hsets, hown0⟩ := atoms_of _ (rest_1_c_eq ▸ (show rest_1_c.before _ s = true from hrest))
  have hr0 := Cond.before_iff.mp hown0
  obtain ⟨i0, ei0⟩ := is_v g2a
  obtain rfl : w0 = (.int i0) := Option.some.inj ei0
  obtain ⟨i1, ei1⟩ := is_v g3a
  obtain rfl : w1 = (.int i1) := Option.some.inj ei1
  obtain ⟨i2, ei2⟩ := is_v g4a
  obtain rfl : w2 = (.int i2) := Option.some.inj ei2
  obtain ⟨i3, ei3⟩ := is_v g5a
  obtain rfl : w3 = (.int i3) := Option.some.inj ei3
  obtain ⟨i4, ei4⟩ := is_v g5b
  obtain rfl : w4 = (.int i4) := Option.some.inj ei4
  have b3 := Cond.before_iff.mp (hsets _ (List.mem_of_getElem? (i := 3) rfl))
  have b4 := Cond.before_iff.mp (hsets _ (List.mem_of_getElem? (i := 4) rfl))
  have b6 := Cond.before_iff.mp (hsets _ (List.mem_of_getElem? (i := 6) rfl))
  have b7 := Cond.before_iff.mp (hsets _ (List.mem_of_getElem? (i := 7) rfl))
  have b9 := Cond.before_iff.mp (hsets _ (List.mem_of_getElem? (i := 9) rfl))
  have b10 := Cond.before_iff.mp (hsets _ (List.mem_of_getElem? (i := 10) rfl))
  have S_high := Sta.start (own_eqI b3) (Or.inl (hsets _ (List.mem_of_getElem? (i := 1) rfl)))
  obtain ⟨wC, evC⟩ := arr_v b4
  obtain ⟨clC, A_C⟩ := Arr.start evC b4
  have S_cache := Sta.start evC (Or.inr ⟨(hw _ (List.mem_of_getElem? (i := 25) rfl)), (hsets _ (List.mem_of_getElem? (i := 2) rfl))⟩)
  have I_C := own_ICstart (fun _ => evC) A_C (own_lenlt evC A_C b6) (own_len evC A_C b6) b7
  obtain ⟨cs, evcs⟩ := is_v b9
  have S_cs := Sta.start evcs (Or.inl (hsets _ (List.mem_of_getElem? (i := 8) rfl)))
  have hcs : ¬ (cs = (0 : Int32)) := by
    intro q
    have h5 := not_v b10
    rw [eq_i evcs (Term.int_eval 0) (by rw [q])] at h5
    simp at h5
  obtain ⟨n, o, h1, h2, h3, _, L, rfl, ⟨rfl, N⟩, hq⟩ := rm0 l s _ hw tables_1 i0 i1 i2 i3 i4 wC cs s.heap s.heap.size (Nat.le_refl _) S_high S_cache I_C S_cs hcs p e ha hc hk s m _ below hf ((Spec.applies_iff_loose hf).mp happ).1 ⟨rfl, State.Warmed39.refl s, rfl⟩ trivial
  refine ⟨n, _, h1, h2, h3, hpost _ _ _ _ _ _ ⟨Cond.after_iff.mpr rfl, Cond.after_iff.mpr (eq_i res_at (Term.int_eval (1)) rfl), trivial⟩ ⟨hq.1, hq.2.1, (hq.2.2.sift fun y hy => Or.inr (N y hy)).mono (by decide) (by decide)⟩⟩
theorem main_1_1 : Claimed_1_1 := comes_1 fun _ _ _ _ _ _ h hF => ⟨h.1, hF⟩
theorem main_1_2 : Claimed_1_2 := comes_1 fun _ _ _ _ _ _ h hF => ⟨h.2.1, hF⟩
end Jvm.Pilot.@@N@@
namespace Jvm.Pilot.@@N@@
open Jvm Jvm.ClassFile Sem Op Lib Jvm.Free Jvm.Stand Jvm.Pilot.@@N@@.Jvm.D
/-! MADE BY PROGRAM (witnessworld.py) out of the Statement's table words and the real class files: 21 classes; the members and pool entries that the words name. The judged class is class 1, her method 1. -/
namespace start1
open Jvm.ClassFile
def u (s : String) : CpInfo := .utf8 (stringToUtf16 s)
/-- a pool by its gaps: so many unusable entries, then the entry; so many at the end -/
def gap : Nat → List CpInfo → List CpInfo
  | 0, r => r
  | n + 1, r => .unusable :: gap n r
def poolList (es : List (Nat × CpInfo)) (last : Nat) : List CpInfo := es.foldr (fun e r => gap e.1 (e.2 :: r)) (gap last [])
def pool (es : List (Nat × CpInfo)) (last : Nat) : Array CpInfo := ⟨poolList es last⟩
def fileOf (pool : Array CpInfo) (this : Nat) (attrs : Array Attribute := #[]) (ms : Array MethodInfo := #[]) (fl : Nat := 33) (sup : Nat := 0) (ifs : Array Nat := #[]) (fds : Array FieldInfo := #[]) : ClassFile where
  minorVersion := 0
  majorVersion := 65
  constantPool := pool
  accessFlags := fl
  thisClass := this
  superClass := sup
  interfaces := ifs
  fields := fds
  methods := ms
  attributes := attrs
def plain (name : String) (sup : Option ClassId) : Class where
  name := name
  kind := .ordinary
  loader := none
  accessFlags := 33
  super := sup
  interfaces := #[]
  cf := none
  fields := #[]
  methods := #[]
  instanceTypes := #[]
  staticTypes := #[]
  resolved := #[]
  callSites := []
  init := .initialized
  statics := none
  mirror := none

def pool0 : Array CpInfo := pool [(5, u "<init>"), (0, u "()V"), (1, .class_ 10), (1, u "java/lang/Object")] 113

def k0c0 : Code := { maxStack := 0, maxLocals := 1, code := object_method_1_code, exceptionTable := #[], attributes := #[] }
def k0m0 : Method := { name := "<init>", desc := "()V", sig := { parameters := [], returnType := none }, accessFlags := 1, code := some k0c0 }
/-- java/lang/Object -/
def k0 : Class := { plain "java/lang/Object" none with
  accessFlags := 33
  interfaces := #[]
  cf := some (fileOf pool0 8 #[] #[{ accessFlags := 1, nameIndex := 5, descriptorIndex := 6, attributes := #[] }] 33 0 #[] #[])
  fields := #[]
  methods := #[k0m0]
  instanceTypes := #[]
  staticTypes := #[]
  resolved := Array.replicate 124 none
  statics := none }

def pool1 : Array CpInfo := pool [(2, .class_ 4), (1, u "java/lang/Object"), (0, u "<init>"), (0, u "()V"), (0, .class_ 8), (0, u "com/example/keyturn/keyturn/signing/SdkRange"), (0, .methodref 7 10), (0, .nameAndType 5 11), (0, u "(II)V"), (0, .methodref 7 13), (0, .nameAndType 14 15), (0, u "equals"), (0, u "(Ljava/lang/Object;)Z"), (0, .methodref 17 18), (0, .class_ 19), (0, .nameAndType 20 21), (0, u "java/lang/String"), (0, u "valueOf"), (0, u "(C)Ljava/lang/String;"), (0, .methodref 23 24), (0, .class_ 25), (0, .nameAndType 20 26), (0, u "java/lang/Integer"), (0, u "(I)Ljava/lang/Integer;"), (0, .class_ 28), (0, u "com/example/keyturn/keyturn/signing/SdkRangeEqualsPinLaw"), (2, u "law"), (0, u "(IIIII)Z")] 3

def k1m0 : Method := { name := "<init>", desc := "()V", sig := { parameters := [], returnType := none }, accessFlags := 1, code := none }
def k1c1 : Code := { maxStack := 4, maxLocals := 11, code := code, exceptionTable := #[], attributes := #[] }
def k1m1 : Method := { name := "law", desc := "(IIIII)Z", sig := { parameters := [.int, .int, .int, .int, .int], returnType := some .boolean }, accessFlags := 9, code := some k1c1 }
/-- com/example/keyturn/keyturn/signing/SdkRangeEqualsPinLaw -/
def k1 : Class := { plain "com/example/keyturn/keyturn/signing/SdkRangeEqualsPinLaw" (some 0) with
  accessFlags := 49
  interfaces := #[]
  cf := some (fileOf pool1 27 #[] #[{ accessFlags := 1, nameIndex := 5, descriptorIndex := 6, attributes := #[] }, { accessFlags := 9, nameIndex := 31, descriptorIndex := 32, attributes := #[] }] 49 2 #[] #[])
  fields := #[]
  methods := #[k1m0, k1m1]
  instanceTypes := #[]
  staticTypes := #[]
  resolved := Array.replicate 36 none
  statics := none }

def pool2 : Array CpInfo := pool [(1, .methodref 2 3), (0, .class_ 4), (0, .nameAndType 5 6), (0, u "java/lang/Object"), (0, u "<init>"), (0, u "()V"), (0, .fieldref 8 9), (0, .class_ 10), (0, .nameAndType 11 12), (0, u "com/example/keyturn/keyturn/signing/SdkRange"), (0, u "min"), (0, u "I"), (0, .fieldref 8 14), (0, .nameAndType 15 12), (0, u "max"), (12, u "(II)V"), (54, u "equals"), (0, u "(Ljava/lang/Object;)Z")] 4

def k2c0 : Code := { maxStack := 2, maxLocals := 3, code := prog_47_method_1_code, exceptionTable := #[], attributes := #[] }
def k2m0 : Method := { name := "<init>", desc := "(II)V", sig := { parameters := [.int, .int], returnType := none }, accessFlags := 1, code := some k2c0 }
def k2c1 : Code := { maxStack := 2, maxLocals := 3, code := prog_47_method_7_code, exceptionTable := #[], attributes := #[] }
def k2m1 : Method := { name := "equals", desc := "(Ljava/lang/Object;)Z", sig := { parameters := [(.object "java/lang/Object")], returnType := some .boolean }, accessFlags := 1, code := some k2c1 }
/-- com/example/keyturn/keyturn/signing/SdkRange -/
def k2 : Class := { plain "com/example/keyturn/keyturn/signing/SdkRange" (some 0) with
  accessFlags := 33
  interfaces := #[]
  cf := some (fileOf pool2 8 #[] #[{ accessFlags := 1, nameIndex := 5, descriptorIndex := 28, attributes := #[] }, { accessFlags := 1, nameIndex := 83, descriptorIndex := 84, attributes := #[] }] 33 2 #[] #[{ accessFlags := 18, nameIndex := 11, descriptorIndex := 12, attributes := #[] }, { accessFlags := 18, nameIndex := 15, descriptorIndex := 12, attributes := #[] }])
  fields := #[{ name := "min", type := .int, accessFlags := 18, slot := 0, constantValue := 0 }, { name := "max", type := .int, accessFlags := 18, slot := 1, constantValue := 0 }]
  methods := #[k2m0, k2m1]
  instanceTypes := #[.int, .int]
  staticTypes := #[]
  resolved := Array.replicate 89 none
  statics := none }

def pool3 : Array CpInfo := pool [(1, .class_ 2), (0, u "java/io/Serializable"), (0, .class_ 4), (0, u "java/lang/Object")] 2

/-- java/io/Serializable -/
def k3 : Class := { plain "java/io/Serializable" (some 0) with
  accessFlags := 1537
  interfaces := #[]
  cf := some (fileOf pool3 1 #[] #[] 1537 3 #[] #[])
  fields := #[]
  methods := #[]
  instanceTypes := #[]
  staticTypes := #[]
  resolved := Array.replicate 7 none
  statics := none }

def pool4 : Array CpInfo := pool [(1, .methodref 2 3), (0, .class_ 4), (0, .nameAndType 5 6), (0, u "java/lang/Object"), (0, u "<init>"), (0, u "()V"), (1, .class_ 10), (1, u "java/lang/Number"), (2, .class_ 14), (0, u "java/io/Serializable"), (0, u "serialVersionUID"), (0, u "J")] 20

def k4c0 : Code := { maxStack := 1, maxLocals := 1, code := jdk_18_method_1_code, exceptionTable := #[], attributes := #[] }
def k4m0 : Method := { name := "<init>", desc := "()V", sig := { parameters := [], returnType := none }, accessFlags := 1, code := some k4c0 }
/-- java/lang/Number -/
def k4 : Class := { plain "java/lang/Number" (some 0) with
  accessFlags := 1057
  interfaces := #[3]
  cf := some (fileOf pool4 8 #[] #[{ accessFlags := 1, nameIndex := 5, descriptorIndex := 6, attributes := #[] }] 1057 2 #[13] #[{ accessFlags := 26, nameIndex := 15, descriptorIndex := 16, attributes := #[] }])
  fields := #[{ name := "serialVersionUID", type := .long, accessFlags := 26, slot := 0, constantValue := 0 }]
  methods := #[k4m0]
  instanceTypes := #[]
  staticTypes := #[.long]
  resolved := Array.replicate 37 none
  statics := none }

def pool5 : Array CpInfo := pool [(1, .class_ 2), (0, u "java/lang/Comparable"), (0, .class_ 4), (0, u "java/lang/Object")] 7

/-- java/lang/Comparable -/
def k5 : Class := { plain "java/lang/Comparable" (some 0) with
  accessFlags := 1537
  interfaces := #[]
  cf := some (fileOf pool5 1 #[] #[] 1537 3 #[] #[])
  fields := #[]
  methods := #[]
  instanceTypes := #[]
  staticTypes := #[]
  resolved := Array.replicate 12 none
  statics := none }

def pool6 : Array CpInfo := pool [(1, .class_ 2), (0, u "java/lang/constant/Constable"), (0, .class_ 4), (0, u "java/lang/Object")] 6

/-- java/lang/constant/Constable -/
def k6 : Class := { plain "java/lang/constant/Constable" (some 0) with
  accessFlags := 1537
  interfaces := #[]
  cf := some (fileOf pool6 1 #[] #[] 1537 3 #[] #[])
  fields := #[]
  methods := #[]
  instanceTypes := #[]
  staticTypes := #[]
  resolved := Array.replicate 11 none
  statics := none }

def pool7 : Array CpInfo := pool [(1, .class_ 2), (0, u "java/lang/constant/ConstantDesc"), (0, .class_ 4), (0, u "java/lang/Object")] 32

/-- java/lang/constant/ConstantDesc -/
def k7 : Class := { plain "java/lang/constant/ConstantDesc" (some 0) with
  accessFlags := 1537
  interfaces := #[]
  cf := some (fileOf pool7 1 #[] #[] 1537 3 #[] #[])
  fields := #[]
  methods := #[]
  instanceTypes := #[]
  staticTypes := #[]
  resolved := Array.replicate 37 none
  statics := none }

def pool8 : Array CpInfo := pool [(1, .class_ 2), (0, u "java/lang/Integer"), (16, u "digits"), (0, u "[C"), (46, u "<init>"), (17, u "DigitOnes"), (0, u "[B"), (2, u "DigitTens"), (10, .nameAndType 67 101), (0, u "()V"), (85, u "valueOf"), (0, u "(I)Ljava/lang/Integer;"), (0, .class_ 190), (0, u "java/lang/Integer$IntegerCache"), (0, .fieldref 189 192), (0, .nameAndType 193 194), (0, u "high"), (0, u "I"), (0, .fieldref 189 196), (0, .nameAndType 197 198), (0, u "cache"), (0, u "[Ljava/lang/Integer;"), (0, .methodref 1 200), (0, .nameAndType 67 201), (0, u "(I)V"), (0, .methodref 203 100), (0, .class_ 204), (0, u "java/lang/Number"), (0, .fieldref 1 206), (0, .nameAndType 207 194), (0, u "value"), (94, u "TYPE"), (0, u "Ljava/lang/Class;"), (0, .class_ 305), (0, u "java/lang/Comparable"), (0, .class_ 307), (0, u "java/lang/constant/Constable"), (0, .class_ 309), (0, u "java/lang/constant/ConstantDesc"), (0, u "MIN_VALUE"), (1, u "MAX_VALUE"), (3, u "SIZE"), (1, u "BYTES"), (1, u "serialVersionUID"), (0, u "J")] 131

def k8c0 : Code := { maxStack := 3, maxLocals := 1, code := jdk_33_method_22_code, exceptionTable := #[], attributes := #[] }
def k8m0 : Method := { name := "valueOf", desc := "(I)Ljava/lang/Integer;", sig := { parameters := [.int], returnType := some (.object "java/lang/Integer") }, accessFlags := 9, code := some k8c0 }
def k8c1 : Code := { maxStack := 2, maxLocals := 2, code := jdk_33_method_23_code, exceptionTable := #[], attributes := #[] }
def k8m1 : Method := { name := "<init>", desc := "(I)V", sig := { parameters := [.int], returnType := none }, accessFlags := 1, code := some k8c1 }
/-- java/lang/Integer -/
def k8 : Class := { plain "java/lang/Integer" (some 4) with
  accessFlags := 49
  interfaces := #[5, 6, 7]
  cf := some (fileOf pool8 1 #[.nestMembers #[189]] #[{ accessFlags := 9, nameIndex := 187, descriptorIndex := 188, attributes := #[] }, { accessFlags := 1, nameIndex := 67, descriptorIndex := 201, attributes := #[] }] 49 203 #[304, 306, 308] #[{ accessFlags := 25, nameIndex := 310, descriptorIndex := 194, attributes := #[] }, { accessFlags := 25, nameIndex := 312, descriptorIndex := 194, attributes := #[] }, { accessFlags := 25, nameIndex := 302, descriptorIndex := 303, attributes := #[] }, { accessFlags := 24, nameIndex := 19, descriptorIndex := 20, attributes := #[] }, { accessFlags := 24, nameIndex := 89, descriptorIndex := 86, attributes := #[] }, { accessFlags := 24, nameIndex := 85, descriptorIndex := 86, attributes := #[] }, { accessFlags := 18, nameIndex := 207, descriptorIndex := 194, attributes := #[] }, { accessFlags := 25, nameIndex := 316, descriptorIndex := 194, attributes := #[] }, { accessFlags := 25, nameIndex := 318, descriptorIndex := 194, attributes := #[] }, { accessFlags := 26, nameIndex := 320, descriptorIndex := 321, attributes := #[] }])
  fields := #[{ name := "MIN_VALUE", type := .int, accessFlags := 25, slot := 0, constantValue := 0 }, { name := "MAX_VALUE", type := .int, accessFlags := 25, slot := 1, constantValue := 0 }, { name := "TYPE", type := (.object "java/lang/Class"), accessFlags := 25, slot := 2, constantValue := 0 }, { name := "digits", type := (.array .char), accessFlags := 24, slot := 3, constantValue := 0 }, { name := "DigitTens", type := (.array .byte), accessFlags := 24, slot := 4, constantValue := 0 }, { name := "DigitOnes", type := (.array .byte), accessFlags := 24, slot := 5, constantValue := 0 }, { name := "value", type := .int, accessFlags := 18, slot := 0, constantValue := 0 }, { name := "SIZE", type := .int, accessFlags := 25, slot := 6, constantValue := 0 }, { name := "BYTES", type := .int, accessFlags := 25, slot := 7, constantValue := 0 }, { name := "serialVersionUID", type := .long, accessFlags := 26, slot := 8, constantValue := 0 }]
  methods := #[k8m0, k8m1]
  instanceTypes := #[.int]
  staticTypes := #[.int, .int, (.object "java/lang/Class"), (.array .char), (.array .byte), (.array .byte), .int, .int, .long]
  resolved := Array.replicate 453 none
  statics := none }

def pool9 : Array CpInfo := pool [(2, .class_ 4), (1, u "java/lang/Object"), (0, u "<init>"), (0, u "()V"), (0, .class_ 8), (0, u "java/lang/Integer"), (7, .class_ 18), (1, u "java/lang/Integer$IntegerCache"), (0, u "$assertionsDisabled"), (0, u "Z"), (26, u "high"), (0, u "I"), (8, u "archivedCache"), (0, u "[Ljava/lang/Integer;"), (12, u "cache"), (0, u "low")] 27

def k9m0 : Method := { name := "<init>", desc := "()V", sig := { parameters := [], returnType := none }, accessFlags := 2, code := none }
/-- java/lang/Integer$IntegerCache -/
def k9 : Class := { plain "java/lang/Integer$IntegerCache" (some 0) with
  accessFlags := 48
  interfaces := #[]
  cf := some (fileOf pool9 16 #[.nestHost 7] #[{ accessFlags := 2, nameIndex := 5, descriptorIndex := 6, attributes := #[] }] 48 2 #[] #[{ accessFlags := 24, nameIndex := 72, descriptorIndex := 48, attributes := #[] }, { accessFlags := 24, nameIndex := 47, descriptorIndex := 48, attributes := #[] }, { accessFlags := 24, nameIndex := 71, descriptorIndex := 58, attributes := #[] }, { accessFlags := 8, nameIndex := 57, descriptorIndex := 58, attributes := #[] }, { accessFlags := 4120, nameIndex := 19, descriptorIndex := 20, attributes := #[] }])
  fields := #[{ name := "low", type := .int, accessFlags := 24, slot := 0, constantValue := 0 }, { name := "high", type := .int, accessFlags := 24, slot := 1, constantValue := 0 }, { name := "cache", type := (.array (.object "java/lang/Integer")), accessFlags := 24, slot := 2, constantValue := 0 }, { name := "archivedCache", type := (.array (.object "java/lang/Integer")), accessFlags := 8, slot := 3, constantValue := 0 }, { name := "$assertionsDisabled", type := .boolean, accessFlags := 4120, slot := 4, constantValue := 0 }]
  methods := #[k9m0]
  instanceTypes := #[]
  staticTypes := #[.int, .int, (.array (.object "java/lang/Integer")), (.array (.object "java/lang/Integer")), .boolean]
  resolved := Array.replicate 100 none
  statics := some 0 }

def pool10 : Array CpInfo := pool [(2, .class_ 4), (1, u "java/lang/CharSequence"), (42, .class_ 48), (0, u "java/lang/CharSequence$1CodePointIterator"), (10, .class_ 60), (0, u "java/lang/CharSequence$1CharIterator"), (5, .class_ 67), (0, u "java/lang/Object")] 63

/-- java/lang/CharSequence -/
def k10 : Class := { plain "java/lang/CharSequence" (some 0) with
  accessFlags := 1537
  interfaces := #[]
  cf := some (fileOf pool10 2 #[.nestMembers #[47, 59]] #[] 1537 66 #[] #[])
  fields := #[]
  methods := #[]
  instanceTypes := #[]
  staticTypes := #[]
  resolved := Array.replicate 131 none
  statics := none }

def pool11 : Array CpInfo := pool [(1, .methodref 2 3), (0, .class_ 4), (0, .nameAndType 5 6), (0, u "java/lang/Object"), (0, u "<init>"), (0, u "()V"), (2, .fieldref 10 11), (0, .class_ 12), (0, .nameAndType 13 14), (0, u "java/lang/String"), (0, u "value"), (0, u "[B"), (0, .fieldref 10 16), (0, .nameAndType 17 18), (0, u "coder"), (0, u "B"), (2, u "hash"), (0, u "I"), (2, u "hashIsZero"), (0, u "Z"), (11, .fieldref 10 39), (0, .nameAndType 40 26), (0, u "COMPACT_STRINGS"), (12, u "toBytes"), (53, .class_ 109), (1, u "java/lang/StringLatin1"), (99, .methodref 10 210), (0, .nameAndType 5 211), (0, u "([BB)V"), (157, u "(C)Z"), (205, .class_ 576), (0, u "java/lang/CharSequence"), (22, u "CASE_INSENSITIVE_ORDER"), (0, u "Ljava/util/Comparator;"), (181, u "valueOf"), (0, u "(C)Ljava/lang/String;"), (231, .methodref 107 1016), (0, .nameAndType 1017 369), (0, u "canEncode"), (0, .methodref 107 1019), (0, .nameAndType 53 1020), (0, u "(C)[B"), (80, u "serialPersistentFields"), (0, u "[Ljava/io/ObjectStreamField;"), (0, .class_ 1104), (0, u "java/lang/String$CaseInsensitiveComparator"), (1, .class_ 1107), (0, u "java/io/Serializable"), (0, .class_ 1109), (0, u "java/lang/Comparable"), (0, .class_ 1111), (0, u "java/lang/constant/Constable"), (0, .class_ 1113), (0, u "java/lang/constant/ConstantDesc"), (2, u "serialVersionUID"), (0, u "J"), (3, u "REPL"), (0, u "C"), (2, u "LATIN1"), (1, u "UTF16")] 323

def k11m0 : Method := { name := "<init>", desc := "()V", sig := { parameters := [], returnType := none }, accessFlags := 1, code := none }
def k11c1 : Code := { maxStack := 4, maxLocals := 1, code := jdk_42_method_139_code, exceptionTable := #[], attributes := #[] }
def k11m1 : Method := { name := "valueOf", desc := "(C)Ljava/lang/String;", sig := { parameters := [.char], returnType := some (.object "java/lang/String") }, accessFlags := 9, code := some k11c1 }
def k11c2 : Code := { maxStack := 2, maxLocals := 3, code := jdk_42_method_151_code, exceptionTable := #[], attributes := #[] }
def k11m2 : Method := { name := "<init>", desc := "([BB)V", sig := { parameters := [(.array .byte), .byte], returnType := none }, accessFlags := 0, code := some k11c2 }
/-- java/lang/String -/
def k11 : Class := { plain "java/lang/String" (some 0) with
  accessFlags := 49
  interfaces := #[3, 5, 10, 6, 7]
  cf := some (fileOf pool11 10 #[.nestMembers #[1103]] #[{ accessFlags := 1, nameIndex := 5, descriptorIndex := 6, attributes := #[] }, { accessFlags := 9, nameIndex := 782, descriptorIndex := 783, attributes := #[] }, { accessFlags := 0, nameIndex := 5, descriptorIndex := 211, attributes := #[] }] 49 2 #[1106, 1108, 575, 1110, 1112] #[{ accessFlags := 18, nameIndex := 13, descriptorIndex := 14, attributes := #[] }, { accessFlags := 18, nameIndex := 17, descriptorIndex := 18, attributes := #[] }, { accessFlags := 2, nameIndex := 21, descriptorIndex := 22, attributes := #[] }, { accessFlags := 2, nameIndex := 25, descriptorIndex := 26, attributes := #[] }, { accessFlags := 26, nameIndex := 1116, descriptorIndex := 1117, attributes := #[] }, { accessFlags := 24, nameIndex := 40, descriptorIndex := 26, attributes := #[] }, { accessFlags := 26, nameIndex := 1101, descriptorIndex := 1102, attributes := #[] }, { accessFlags := 26, nameIndex := 1121, descriptorIndex := 1122, attributes := #[] }, { accessFlags := 25, nameIndex := 599, descriptorIndex := 600, attributes := #[] }, { accessFlags := 24, nameIndex := 1125, descriptorIndex := 18, attributes := #[] }, { accessFlags := 24, nameIndex := 1127, descriptorIndex := 18, attributes := #[] }])
  fields := #[{ name := "value", type := (.array .byte), accessFlags := 18, slot := 0, constantValue := 0 }, { name := "coder", type := .byte, accessFlags := 18, slot := 1, constantValue := 0 }, { name := "hash", type := .int, accessFlags := 2, slot := 2, constantValue := 0 }, { name := "hashIsZero", type := .boolean, accessFlags := 2, slot := 3, constantValue := 0 }, { name := "serialVersionUID", type := .long, accessFlags := 26, slot := 0, constantValue := 0 }, { name := "COMPACT_STRINGS", type := .boolean, accessFlags := 24, slot := 1, constantValue := 0 }, { name := "serialPersistentFields", type := (.array (.object "java/io/ObjectStreamField")), accessFlags := 26, slot := 2, constantValue := 0 }, { name := "REPL", type := .char, accessFlags := 26, slot := 3, constantValue := 0 }, { name := "CASE_INSENSITIVE_ORDER", type := (.object "java/util/Comparator"), accessFlags := 25, slot := 4, constantValue := 0 }, { name := "LATIN1", type := .byte, accessFlags := 24, slot := 5, constantValue := 0 }, { name := "UTF16", type := .byte, accessFlags := 24, slot := 6, constantValue := 0 }]
  methods := #[k11m0, k11m1, k11m2]
  instanceTypes := #[(.array .byte), .byte, .int, .boolean]
  staticTypes := #[.long, .boolean, (.array (.object "java/io/ObjectStreamField")), .char, (.object "java/util/Comparator"), .byte, .byte]
  resolved := Array.replicate 1451 none
  statics := some 1 }

def pool12 : Array CpInfo := pool [(4, .class_ 6), (1, u "java/lang/Object"), (0, u "<init>"), (0, u "()V"), (5, .class_ 16), (1, u "java/lang/StringLatin1"), (73, u "canEncode"), (14, u "(C)Z"), (15, u "$assertionsDisabled"), (0, u "Z"), (98, .class_ 223), (1, u "java/lang/StringLatin1$LinesSpliterator"), (156, u "toBytes"), (1, u "(C)[B"), (7, .class_ 391), (0, u "java/lang/StringLatin1$CharsSpliterator")] 3

def k12m0 : Method := { name := "<init>", desc := "()V", sig := { parameters := [], returnType := none }, accessFlags := 0, code := none }
def k12c1 : Code := { maxStack := 2, maxLocals := 1, code := jdk_43_method_3_code, exceptionTable := #[], attributes := #[] }
def k12m1 : Method := { name := "canEncode", desc := "(C)Z", sig := { parameters := [.char], returnType := some .boolean }, accessFlags := 9, code := some k12c1 }
def k12c2 : Code := { maxStack := 4, maxLocals := 1, code := jdk_43_method_46_code, exceptionTable := #[], attributes := #[] }
def k12m2 : Method := { name := "toBytes", desc := "(C)[B", sig := { parameters := [.char], returnType := some (.array .byte) }, accessFlags := 9, code := some k12c2 }
/-- java/lang/StringLatin1 -/
def k12 : Class := { plain "java/lang/StringLatin1" (some 0) with
  accessFlags := 48
  interfaces := #[]
  cf := some (fileOf pool12 14 #[.nestMembers #[390, 221]] #[{ accessFlags := 0, nameIndex := 7, descriptorIndex := 8, attributes := #[] }, { accessFlags := 9, nameIndex := 90, descriptorIndex := 105, attributes := #[] }, { accessFlags := 9, nameIndex := 380, descriptorIndex := 382, attributes := #[] }] 48 4 #[] #[{ accessFlags := 4120, nameIndex := 121, descriptorIndex := 122, attributes := #[] }])
  fields := #[{ name := "$assertionsDisabled", type := .boolean, accessFlags := 4120, slot := 0, constantValue := 0 }]
  methods := #[k12m0, k12m1, k12m2]
  instanceTypes := #[]
  staticTypes := #[.boolean]
  resolved := Array.replicate 395 none
  statics := none }

def pool13 : Array CpInfo := pool [(2, .class_ 4), (1, u "java/lang/Object"), (0, u "<init>"), (0, u "()V"), (17, .class_ 26), (1, u "jdk/internal/util/Preconditions"), (28, .class_ 56), (0, u "jdk/internal/util/Preconditions$4"), (57, .class_ 115), (0, u "jdk/internal/util/Preconditions$1"), (7, u "SIOOBE_FORMATTER"), (0, u "Ljava/util/function/BiFunction;"), (0, .class_ 126), (0, u "jdk/internal/util/Preconditions$2"), (3, u "AIOOBE_FORMATTER"), (0, .class_ 132), (0, u "jdk/internal/util/Preconditions$3"), (3, u "IOOBE_FORMATTER")] 57

def k13m0 : Method := { name := "<init>", desc := "()V", sig := { parameters := [], returnType := none }, accessFlags := 1, code := none }
/-- jdk/internal/util/Preconditions -/
def k13 : Class := { plain "jdk/internal/util/Preconditions" (some 0) with
  accessFlags := 33
  interfaces := #[]
  cf := some (fileOf pool13 24 #[.nestMembers #[55, 131, 125, 114]] #[{ accessFlags := 1, nameIndex := 5, descriptorIndex := 6, attributes := #[] }] 33 2 #[] #[{ accessFlags := 25, nameIndex := 123, descriptorIndex := 124, attributes := #[] }, { accessFlags := 25, nameIndex := 130, descriptorIndex := 124, attributes := #[] }, { accessFlags := 25, nameIndex := 136, descriptorIndex := 124, attributes := #[] }])
  fields := #[{ name := "SIOOBE_FORMATTER", type := (.object "java/util/function/BiFunction"), accessFlags := 25, slot := 0, constantValue := 0 }, { name := "AIOOBE_FORMATTER", type := (.object "java/util/function/BiFunction"), accessFlags := 25, slot := 1, constantValue := 0 }, { name := "IOOBE_FORMATTER", type := (.object "java/util/function/BiFunction"), accessFlags := 25, slot := 2, constantValue := 0 }]
  methods := #[k13m0]
  instanceTypes := #[]
  staticTypes := #[(.object "java/util/function/BiFunction"), (.object "java/util/function/BiFunction"), (.object "java/util/function/BiFunction")]
  resolved := Array.replicate 194 none
  statics := some 2 }

def pool14 : Array CpInfo := pool [(9, u "<init>"), (6, .class_ 18), (1, u "java/lang/Object"), (0, u "()V"), (1, .class_ 23), (1, u "jdk/internal/util/ArraysSupport"), (0, u "LOG2_ARRAY_LONG_INDEX_SCALE"), (0, u "I"), (2, u "U"), (0, u "Ljdk/internal/misc/Unsafe;"), (8, u "BIG_ENDIAN"), (0, u "Z"), (8, u "LOG2_BYTE_BIT_SIZE"), (4, u "LOG2_ARRAY_INT_INDEX_SCALE"), (54, u "JLA"), (0, u "Ljdk/internal/access/JavaLangAccess;"), (11, u "LOG2_ARRAY_BOOLEAN_INDEX_SCALE"), (9, u "LOG2_ARRAY_BYTE_INDEX_SCALE"), (5, u "LOG2_ARRAY_CHAR_INDEX_SCALE"), (5, u "LOG2_ARRAY_SHORT_INDEX_SCALE"), (18, u "LOG2_ARRAY_FLOAT_INDEX_SCALE"), (24, u "LOG2_ARRAY_DOUBLE_INDEX_SCALE"), (89, u "T_BOOLEAN"), (2, u "T_CHAR"), (1, u "T_FLOAT"), (1, u "T_DOUBLE"), (1, u "T_BYTE"), (1, u "T_SHORT"), (1, u "T_INT"), (1, u "T_LONG"), (1, u "SOFT_MAX_ARRAY_LENGTH")] 83

def k14m0 : Method := { name := "<init>", desc := "()V", sig := { parameters := [], returnType := none }, accessFlags := 2, code := none }
/-- jdk/internal/util/ArraysSupport -/
def k14 : Class := { plain "jdk/internal/util/ArraysSupport" (some 0) with
  accessFlags := 33
  interfaces := #[]
  cf := some (fileOf pool14 21 #[] #[{ accessFlags := 2, nameIndex := 9, descriptorIndex := 19, attributes := #[] }] 33 16 #[] #[{ accessFlags := 24, nameIndex := 28, descriptorIndex := 29, attributes := #[] }, { accessFlags := 26, nameIndex := 38, descriptorIndex := 39, attributes := #[] }, { accessFlags := 25, nameIndex := 121, descriptorIndex := 25, attributes := #[] }, { accessFlags := 25, nameIndex := 131, descriptorIndex := 25, attributes := #[] }, { accessFlags := 25, nameIndex := 137, descriptorIndex := 25, attributes := #[] }, { accessFlags := 25, nameIndex := 143, descriptorIndex := 25, attributes := #[] }, { accessFlags := 25, nameIndex := 53, descriptorIndex := 25, attributes := #[] }, { accessFlags := 25, nameIndex := 24, descriptorIndex := 25, attributes := #[] }, { accessFlags := 25, nameIndex := 162, descriptorIndex := 25, attributes := #[] }, { accessFlags := 25, nameIndex := 187, descriptorIndex := 25, attributes := #[] }, { accessFlags := 26, nameIndex := 48, descriptorIndex := 25, attributes := #[] }, { accessFlags := 25, nameIndex := 277, descriptorIndex := 25, attributes := #[] }, { accessFlags := 25, nameIndex := 280, descriptorIndex := 25, attributes := #[] }, { accessFlags := 25, nameIndex := 282, descriptorIndex := 25, attributes := #[] }, { accessFlags := 25, nameIndex := 284, descriptorIndex := 25, attributes := #[] }, { accessFlags := 25, nameIndex := 286, descriptorIndex := 25, attributes := #[] }, { accessFlags := 25, nameIndex := 288, descriptorIndex := 25, attributes := #[] }, { accessFlags := 25, nameIndex := 290, descriptorIndex := 25, attributes := #[] }, { accessFlags := 25, nameIndex := 292, descriptorIndex := 25, attributes := #[] }, { accessFlags := 26, nameIndex := 108, descriptorIndex := 109, attributes := #[] }, { accessFlags := 25, nameIndex := 294, descriptorIndex := 25, attributes := #[] }])
  fields := #[{ name := "U", type := (.object "jdk/internal/misc/Unsafe"), accessFlags := 24, slot := 0, constantValue := 0 }, { name := "BIG_ENDIAN", type := .boolean, accessFlags := 26, slot := 1, constantValue := 0 }, { name := "LOG2_ARRAY_BOOLEAN_INDEX_SCALE", type := .int, accessFlags := 25, slot := 2, constantValue := 0 }, { name := "LOG2_ARRAY_BYTE_INDEX_SCALE", type := .int, accessFlags := 25, slot := 3, constantValue := 0 }, { name := "LOG2_ARRAY_CHAR_INDEX_SCALE", type := .int, accessFlags := 25, slot := 4, constantValue := 0 }, { name := "LOG2_ARRAY_SHORT_INDEX_SCALE", type := .int, accessFlags := 25, slot := 5, constantValue := 0 }, { name := "LOG2_ARRAY_INT_INDEX_SCALE", type := .int, accessFlags := 25, slot := 6, constantValue := 0 }, { name := "LOG2_ARRAY_LONG_INDEX_SCALE", type := .int, accessFlags := 25, slot := 7, constantValue := 0 }, { name := "LOG2_ARRAY_FLOAT_INDEX_SCALE", type := .int, accessFlags := 25, slot := 8, constantValue := 0 }, { name := "LOG2_ARRAY_DOUBLE_INDEX_SCALE", type := .int, accessFlags := 25, slot := 9, constantValue := 0 }, { name := "LOG2_BYTE_BIT_SIZE", type := .int, accessFlags := 26, slot := 10, constantValue := 0 }, { name := "T_BOOLEAN", type := .int, accessFlags := 25, slot := 11, constantValue := 0 }, { name := "T_CHAR", type := .int, accessFlags := 25, slot := 12, constantValue := 0 }, { name := "T_FLOAT", type := .int, accessFlags := 25, slot := 13, constantValue := 0 }, { name := "T_DOUBLE", type := .int, accessFlags := 25, slot := 14, constantValue := 0 }, { name := "T_BYTE", type := .int, accessFlags := 25, slot := 15, constantValue := 0 }, { name := "T_SHORT", type := .int, accessFlags := 25, slot := 16, constantValue := 0 }, { name := "T_INT", type := .int, accessFlags := 25, slot := 17, constantValue := 0 }, { name := "T_LONG", type := .int, accessFlags := 25, slot := 18, constantValue := 0 }, { name := "JLA", type := (.object "jdk/internal/access/JavaLangAccess"), accessFlags := 26, slot := 19, constantValue := 0 }, { name := "SOFT_MAX_ARRAY_LENGTH", type := .int, accessFlags := 25, slot := 20, constantValue := 0 }]
  methods := #[k14m0]
  instanceTypes := #[]
  staticTypes := #[(.object "jdk/internal/misc/Unsafe"), .boolean, .int, .int, .int, .int, .int, .int, .int, .int, .int, .int, .int, .int, .int, .int, .int, .int, .int, (.object "jdk/internal/access/JavaLangAccess"), .int]
  resolved := Array.replicate 378 none
  statics := none }

def pool15 : Array CpInfo := pool [(1, u "java/lang/Cloneable"), (0, .class_ 1), (0, u "java/lang/Object"), (0, .class_ 3)] 3

/-- java/lang/Cloneable -/
def k15 : Class := { plain "java/lang/Cloneable" (some 0) with
  accessFlags := 1537
  interfaces := #[]
  cf := some (fileOf pool15 2 #[] #[] 1537 4 #[] #[])
  fields := #[]
  methods := #[]
  instanceTypes := #[]
  staticTypes := #[]
  resolved := Array.replicate 8 none
  statics := none }

/-- the primitive byte -/
def k16 : Class := { plain "byte" none with kind := .primitive 'B', accessFlags := 0x411 }
/-- [B -/
def k17 : Class := { plain "[B" (some 0) with kind := .array 16 .byte, interfaces := #[15, 3], accessFlags := 1041 }

/-- the primitive int -/
def k18 : Class := { plain "int" none with kind := .primitive 'I', accessFlags := 0x411 }
/-- [I -/
def k19 : Class := { plain "[I" (some 0) with kind := .array 18 .int, interfaces := #[15, 3], accessFlags := 1041 }

/-- [Ljava/lang/Integer; -/
def k20 : Class := { plain "[Ljava/lang/Integer;" (some 0) with kind := .array 8 (.object "java/lang/Integer"), interfaces := #[15, 3], accessFlags := 1041 }

def heap : Heap := #[{ cls := 9, slots := #[.int 0, .int 127, .ref 3, .null, .int 0], vm := .statics 9 },
  { cls := 11, slots := #[.long 0, .int 1, .null, .int 0, .null, .int 0, .int 0], vm := .statics 11 },
  { cls := 13, slots := #[.null, .null, .null], vm := .statics 13 },
  { cls := 20, slots := #[.ref 4, .ref 5, .ref 6, .ref 7, .ref 8, .ref 9, .ref 10, .ref 11, .ref 12, .ref 13, .ref 14, .ref 15, .ref 16, .ref 17, .ref 18, .ref 19, .ref 20, .ref 21, .ref 22, .ref 23, .ref 24, .ref 25, .ref 26, .ref 27, .ref 28, .ref 29, .ref 30, .ref 31, .ref 32, .ref 33, .ref 34, .ref 35, .ref 36, .ref 37, .ref 38, .ref 39, .ref 40, .ref 41, .ref 42, .ref 43, .ref 44, .ref 45, .ref 46, .ref 47, .ref 48, .ref 49, .ref 50, .ref 51, .ref 52, .ref 53, .ref 54, .ref 55, .ref 56, .ref 57, .ref 58, .ref 59, .ref 60, .ref 61, .ref 62, .ref 63, .ref 64, .ref 65, .ref 66, .ref 67, .ref 68, .ref 69, .ref 70, .ref 71, .ref 72, .ref 73, .ref 74, .ref 75, .ref 76, .ref 77, .ref 78, .ref 79, .ref 80, .ref 81, .ref 82, .ref 83, .ref 84, .ref 85, .ref 86, .ref 87, .ref 88, .ref 89, .ref 90, .ref 91, .ref 92, .ref 93, .ref 94, .ref 95, .ref 96, .ref 97, .ref 98, .ref 99, .ref 100, .ref 101, .ref 102, .ref 103, .ref 104, .ref 105, .ref 106, .ref 107, .ref 108, .ref 109, .ref 110, .ref 111, .ref 112, .ref 113, .ref 114, .ref 115, .ref 116, .ref 117, .ref 118, .ref 119, .ref 120, .ref 121, .ref 122, .ref 123, .ref 124, .ref 125, .ref 126, .ref 127, .ref 128, .ref 129, .ref 130, .ref 131, .ref 132, .ref 133, .ref 134, .ref 135, .ref 136, .ref 137, .ref 138, .ref 139, .ref 140, .ref 141, .ref 142, .ref 143, .ref 144, .ref 145, .ref 146, .ref 147, .ref 148, .ref 149, .ref 150, .ref 151, .ref 152, .ref 153, .ref 154, .ref 155, .ref 156, .ref 157, .ref 158, .ref 159, .ref 160, .ref 161, .ref 162, .ref 163, .ref 164, .ref 165, .ref 166, .ref 167, .ref 168, .ref 169, .ref 170, .ref 171, .ref 172, .ref 173, .ref 174, .ref 175, .ref 176, .ref 177, .ref 178, .ref 179, .ref 180, .ref 181, .ref 182, .ref 183, .ref 184, .ref 185, .ref 186, .ref 187, .ref 188, .ref 189, .ref 190, .ref 191, .ref 192, .ref 193, .ref 194, .ref 195, .ref 196, .ref 197, .ref 198, .ref 199, .ref 200, .ref 201, .ref 202, .ref 203, .ref 204, .ref 205, .ref 206, .ref 207, .ref 208, .ref 209, .ref 210, .ref 211, .ref 212, .ref 213, .ref 214, .ref 215, .ref 216, .ref 217, .ref 218, .ref 219, .ref 220, .ref 221, .ref 222, .ref 223, .ref 224, .ref 225, .ref 226, .ref 227, .ref 228, .ref 229, .ref 230, .ref 231, .ref 232, .ref 233, .ref 234, .ref 235, .ref 236, .ref 237, .ref 238, .ref 239, .ref 240, .ref 241, .ref 242, .ref 243, .ref 244, .ref 245, .ref 246, .ref 247, .ref 248, .ref 249, .ref 250, .ref 251, .ref 252, .ref 253, .ref 254, .ref 255, .ref 256, .ref 257, .ref 258, .ref 259], vm := .none },
  { cls := 8, slots := #[.int (-128)], vm := .none },
  { cls := 8, slots := #[.int (-127)], vm := .none },
  { cls := 8, slots := #[.int (-126)], vm := .none },
  { cls := 8, slots := #[.int (-125)], vm := .none },
  { cls := 8, slots := #[.int (-124)], vm := .none },
  { cls := 8, slots := #[.int (-123)], vm := .none },
  { cls := 8, slots := #[.int (-122)], vm := .none },
  { cls := 8, slots := #[.int (-121)], vm := .none },
  { cls := 8, slots := #[.int (-120)], vm := .none },
  { cls := 8, slots := #[.int (-119)], vm := .none },
  { cls := 8, slots := #[.int (-118)], vm := .none },
  { cls := 8, slots := #[.int (-117)], vm := .none },
  { cls := 8, slots := #[.int (-116)], vm := .none },
  { cls := 8, slots := #[.int (-115)], vm := .none },
  { cls := 8, slots := #[.int (-114)], vm := .none },
  { cls := 8, slots := #[.int (-113)], vm := .none },
  { cls := 8, slots := #[.int (-112)], vm := .none },
  { cls := 8, slots := #[.int (-111)], vm := .none },
  { cls := 8, slots := #[.int (-110)], vm := .none },
  { cls := 8, slots := #[.int (-109)], vm := .none },
  { cls := 8, slots := #[.int (-108)], vm := .none },
  { cls := 8, slots := #[.int (-107)], vm := .none },
  { cls := 8, slots := #[.int (-106)], vm := .none },
  { cls := 8, slots := #[.int (-105)], vm := .none },
  { cls := 8, slots := #[.int (-104)], vm := .none },
  { cls := 8, slots := #[.int (-103)], vm := .none },
  { cls := 8, slots := #[.int (-102)], vm := .none },
  { cls := 8, slots := #[.int (-101)], vm := .none },
  { cls := 8, slots := #[.int (-100)], vm := .none },
  { cls := 8, slots := #[.int (-99)], vm := .none },
  { cls := 8, slots := #[.int (-98)], vm := .none },
  { cls := 8, slots := #[.int (-97)], vm := .none },
  { cls := 8, slots := #[.int (-96)], vm := .none },
  { cls := 8, slots := #[.int (-95)], vm := .none },
  { cls := 8, slots := #[.int (-94)], vm := .none },
  { cls := 8, slots := #[.int (-93)], vm := .none },
  { cls := 8, slots := #[.int (-92)], vm := .none },
  { cls := 8, slots := #[.int (-91)], vm := .none },
  { cls := 8, slots := #[.int (-90)], vm := .none },
  { cls := 8, slots := #[.int (-89)], vm := .none },
  { cls := 8, slots := #[.int (-88)], vm := .none },
  { cls := 8, slots := #[.int (-87)], vm := .none },
  { cls := 8, slots := #[.int (-86)], vm := .none },
  { cls := 8, slots := #[.int (-85)], vm := .none },
  { cls := 8, slots := #[.int (-84)], vm := .none },
  { cls := 8, slots := #[.int (-83)], vm := .none },
  { cls := 8, slots := #[.int (-82)], vm := .none },
  { cls := 8, slots := #[.int (-81)], vm := .none },
  { cls := 8, slots := #[.int (-80)], vm := .none },
  { cls := 8, slots := #[.int (-79)], vm := .none },
  { cls := 8, slots := #[.int (-78)], vm := .none },
  { cls := 8, slots := #[.int (-77)], vm := .none },
  { cls := 8, slots := #[.int (-76)], vm := .none },
  { cls := 8, slots := #[.int (-75)], vm := .none },
  { cls := 8, slots := #[.int (-74)], vm := .none },
  { cls := 8, slots := #[.int (-73)], vm := .none },
  { cls := 8, slots := #[.int (-72)], vm := .none },
  { cls := 8, slots := #[.int (-71)], vm := .none },
  { cls := 8, slots := #[.int (-70)], vm := .none },
  { cls := 8, slots := #[.int (-69)], vm := .none },
  { cls := 8, slots := #[.int (-68)], vm := .none },
  { cls := 8, slots := #[.int (-67)], vm := .none },
  { cls := 8, slots := #[.int (-66)], vm := .none },
  { cls := 8, slots := #[.int (-65)], vm := .none },
  { cls := 8, slots := #[.int (-64)], vm := .none },
  { cls := 8, slots := #[.int (-63)], vm := .none },
  { cls := 8, slots := #[.int (-62)], vm := .none },
  { cls := 8, slots := #[.int (-61)], vm := .none },
  { cls := 8, slots := #[.int (-60)], vm := .none },
  { cls := 8, slots := #[.int (-59)], vm := .none },
  { cls := 8, slots := #[.int (-58)], vm := .none },
  { cls := 8, slots := #[.int (-57)], vm := .none },
  { cls := 8, slots := #[.int (-56)], vm := .none },
  { cls := 8, slots := #[.int (-55)], vm := .none },
  { cls := 8, slots := #[.int (-54)], vm := .none },
  { cls := 8, slots := #[.int (-53)], vm := .none },
  { cls := 8, slots := #[.int (-52)], vm := .none },
  { cls := 8, slots := #[.int (-51)], vm := .none },
  { cls := 8, slots := #[.int (-50)], vm := .none },
  { cls := 8, slots := #[.int (-49)], vm := .none },
  { cls := 8, slots := #[.int (-48)], vm := .none },
  { cls := 8, slots := #[.int (-47)], vm := .none },
  { cls := 8, slots := #[.int (-46)], vm := .none },
  { cls := 8, slots := #[.int (-45)], vm := .none },
  { cls := 8, slots := #[.int (-44)], vm := .none },
  { cls := 8, slots := #[.int (-43)], vm := .none },
  { cls := 8, slots := #[.int (-42)], vm := .none },
  { cls := 8, slots := #[.int (-41)], vm := .none },
  { cls := 8, slots := #[.int (-40)], vm := .none },
  { cls := 8, slots := #[.int (-39)], vm := .none },
  { cls := 8, slots := #[.int (-38)], vm := .none },
  { cls := 8, slots := #[.int (-37)], vm := .none },
  { cls := 8, slots := #[.int (-36)], vm := .none },
  { cls := 8, slots := #[.int (-35)], vm := .none },
  { cls := 8, slots := #[.int (-34)], vm := .none },
  { cls := 8, slots := #[.int (-33)], vm := .none },
  { cls := 8, slots := #[.int (-32)], vm := .none },
  { cls := 8, slots := #[.int (-31)], vm := .none },
  { cls := 8, slots := #[.int (-30)], vm := .none },
  { cls := 8, slots := #[.int (-29)], vm := .none },
  { cls := 8, slots := #[.int (-28)], vm := .none },
  { cls := 8, slots := #[.int (-27)], vm := .none },
  { cls := 8, slots := #[.int (-26)], vm := .none },
  { cls := 8, slots := #[.int (-25)], vm := .none },
  { cls := 8, slots := #[.int (-24)], vm := .none },
  { cls := 8, slots := #[.int (-23)], vm := .none },
  { cls := 8, slots := #[.int (-22)], vm := .none },
  { cls := 8, slots := #[.int (-21)], vm := .none },
  { cls := 8, slots := #[.int (-20)], vm := .none },
  { cls := 8, slots := #[.int (-19)], vm := .none },
  { cls := 8, slots := #[.int (-18)], vm := .none },
  { cls := 8, slots := #[.int (-17)], vm := .none },
  { cls := 8, slots := #[.int (-16)], vm := .none },
  { cls := 8, slots := #[.int (-15)], vm := .none },
  { cls := 8, slots := #[.int (-14)], vm := .none },
  { cls := 8, slots := #[.int (-13)], vm := .none },
  { cls := 8, slots := #[.int (-12)], vm := .none },
  { cls := 8, slots := #[.int (-11)], vm := .none },
  { cls := 8, slots := #[.int (-10)], vm := .none },
  { cls := 8, slots := #[.int (-9)], vm := .none },
  { cls := 8, slots := #[.int (-8)], vm := .none },
  { cls := 8, slots := #[.int (-7)], vm := .none },
  { cls := 8, slots := #[.int (-6)], vm := .none },
  { cls := 8, slots := #[.int (-5)], vm := .none },
  { cls := 8, slots := #[.int (-4)], vm := .none },
  { cls := 8, slots := #[.int (-3)], vm := .none },
  { cls := 8, slots := #[.int (-2)], vm := .none },
  { cls := 8, slots := #[.int (-1)], vm := .none },
  { cls := 8, slots := #[.int (0)], vm := .none },
  { cls := 8, slots := #[.int (1)], vm := .none },
  { cls := 8, slots := #[.int (2)], vm := .none },
  { cls := 8, slots := #[.int (3)], vm := .none },
  { cls := 8, slots := #[.int (4)], vm := .none },
  { cls := 8, slots := #[.int (5)], vm := .none },
  { cls := 8, slots := #[.int (6)], vm := .none },
  { cls := 8, slots := #[.int (7)], vm := .none },
  { cls := 8, slots := #[.int (8)], vm := .none },
  { cls := 8, slots := #[.int (9)], vm := .none },
  { cls := 8, slots := #[.int (10)], vm := .none },
  { cls := 8, slots := #[.int (11)], vm := .none },
  { cls := 8, slots := #[.int (12)], vm := .none },
  { cls := 8, slots := #[.int (13)], vm := .none },
  { cls := 8, slots := #[.int (14)], vm := .none },
  { cls := 8, slots := #[.int (15)], vm := .none },
  { cls := 8, slots := #[.int (16)], vm := .none },
  { cls := 8, slots := #[.int (17)], vm := .none },
  { cls := 8, slots := #[.int (18)], vm := .none },
  { cls := 8, slots := #[.int (19)], vm := .none },
  { cls := 8, slots := #[.int (20)], vm := .none },
  { cls := 8, slots := #[.int (21)], vm := .none },
  { cls := 8, slots := #[.int (22)], vm := .none },
  { cls := 8, slots := #[.int (23)], vm := .none },
  { cls := 8, slots := #[.int (24)], vm := .none },
  { cls := 8, slots := #[.int (25)], vm := .none },
  { cls := 8, slots := #[.int (26)], vm := .none },
  { cls := 8, slots := #[.int (27)], vm := .none },
  { cls := 8, slots := #[.int (28)], vm := .none },
  { cls := 8, slots := #[.int (29)], vm := .none },
  { cls := 8, slots := #[.int (30)], vm := .none },
  { cls := 8, slots := #[.int (31)], vm := .none },
  { cls := 8, slots := #[.int (32)], vm := .none },
  { cls := 8, slots := #[.int (33)], vm := .none },
  { cls := 8, slots := #[.int (34)], vm := .none },
  { cls := 8, slots := #[.int (35)], vm := .none },
  { cls := 8, slots := #[.int (36)], vm := .none },
  { cls := 8, slots := #[.int (37)], vm := .none },
  { cls := 8, slots := #[.int (38)], vm := .none },
  { cls := 8, slots := #[.int (39)], vm := .none },
  { cls := 8, slots := #[.int (40)], vm := .none },
  { cls := 8, slots := #[.int (41)], vm := .none },
  { cls := 8, slots := #[.int (42)], vm := .none },
  { cls := 8, slots := #[.int (43)], vm := .none },
  { cls := 8, slots := #[.int (44)], vm := .none },
  { cls := 8, slots := #[.int (45)], vm := .none },
  { cls := 8, slots := #[.int (46)], vm := .none },
  { cls := 8, slots := #[.int (47)], vm := .none },
  { cls := 8, slots := #[.int (48)], vm := .none },
  { cls := 8, slots := #[.int (49)], vm := .none },
  { cls := 8, slots := #[.int (50)], vm := .none },
  { cls := 8, slots := #[.int (51)], vm := .none },
  { cls := 8, slots := #[.int (52)], vm := .none },
  { cls := 8, slots := #[.int (53)], vm := .none },
  { cls := 8, slots := #[.int (54)], vm := .none },
  { cls := 8, slots := #[.int (55)], vm := .none },
  { cls := 8, slots := #[.int (56)], vm := .none },
  { cls := 8, slots := #[.int (57)], vm := .none },
  { cls := 8, slots := #[.int (58)], vm := .none },
  { cls := 8, slots := #[.int (59)], vm := .none },
  { cls := 8, slots := #[.int (60)], vm := .none },
  { cls := 8, slots := #[.int (61)], vm := .none },
  { cls := 8, slots := #[.int (62)], vm := .none },
  { cls := 8, slots := #[.int (63)], vm := .none },
  { cls := 8, slots := #[.int (64)], vm := .none },
  { cls := 8, slots := #[.int (65)], vm := .none },
  { cls := 8, slots := #[.int (66)], vm := .none },
  { cls := 8, slots := #[.int (67)], vm := .none },
  { cls := 8, slots := #[.int (68)], vm := .none },
  { cls := 8, slots := #[.int (69)], vm := .none },
  { cls := 8, slots := #[.int (70)], vm := .none },
  { cls := 8, slots := #[.int (71)], vm := .none },
  { cls := 8, slots := #[.int (72)], vm := .none },
  { cls := 8, slots := #[.int (73)], vm := .none },
  { cls := 8, slots := #[.int (74)], vm := .none },
  { cls := 8, slots := #[.int (75)], vm := .none },
  { cls := 8, slots := #[.int (76)], vm := .none },
  { cls := 8, slots := #[.int (77)], vm := .none },
  { cls := 8, slots := #[.int (78)], vm := .none },
  { cls := 8, slots := #[.int (79)], vm := .none },
  { cls := 8, slots := #[.int (80)], vm := .none },
  { cls := 8, slots := #[.int (81)], vm := .none },
  { cls := 8, slots := #[.int (82)], vm := .none },
  { cls := 8, slots := #[.int (83)], vm := .none },
  { cls := 8, slots := #[.int (84)], vm := .none },
  { cls := 8, slots := #[.int (85)], vm := .none },
  { cls := 8, slots := #[.int (86)], vm := .none },
  { cls := 8, slots := #[.int (87)], vm := .none },
  { cls := 8, slots := #[.int (88)], vm := .none },
  { cls := 8, slots := #[.int (89)], vm := .none },
  { cls := 8, slots := #[.int (90)], vm := .none },
  { cls := 8, slots := #[.int (91)], vm := .none },
  { cls := 8, slots := #[.int (92)], vm := .none },
  { cls := 8, slots := #[.int (93)], vm := .none },
  { cls := 8, slots := #[.int (94)], vm := .none },
  { cls := 8, slots := #[.int (95)], vm := .none },
  { cls := 8, slots := #[.int (96)], vm := .none },
  { cls := 8, slots := #[.int (97)], vm := .none },
  { cls := 8, slots := #[.int (98)], vm := .none },
  { cls := 8, slots := #[.int (99)], vm := .none },
  { cls := 8, slots := #[.int (100)], vm := .none },
  { cls := 8, slots := #[.int (101)], vm := .none },
  { cls := 8, slots := #[.int (102)], vm := .none },
  { cls := 8, slots := #[.int (103)], vm := .none },
  { cls := 8, slots := #[.int (104)], vm := .none },
  { cls := 8, slots := #[.int (105)], vm := .none },
  { cls := 8, slots := #[.int (106)], vm := .none },
  { cls := 8, slots := #[.int (107)], vm := .none },
  { cls := 8, slots := #[.int (108)], vm := .none },
  { cls := 8, slots := #[.int (109)], vm := .none },
  { cls := 8, slots := #[.int (110)], vm := .none },
  { cls := 8, slots := #[.int (111)], vm := .none },
  { cls := 8, slots := #[.int (112)], vm := .none },
  { cls := 8, slots := #[.int (113)], vm := .none },
  { cls := 8, slots := #[.int (114)], vm := .none },
  { cls := 8, slots := #[.int (115)], vm := .none },
  { cls := 8, slots := #[.int (116)], vm := .none },
  { cls := 8, slots := #[.int (117)], vm := .none },
  { cls := 8, slots := #[.int (118)], vm := .none },
  { cls := 8, slots := #[.int (119)], vm := .none },
  { cls := 8, slots := #[.int (120)], vm := .none },
  { cls := 8, slots := #[.int (121)], vm := .none },
  { cls := 8, slots := #[.int (122)], vm := .none },
  { cls := 8, slots := #[.int (123)], vm := .none },
  { cls := 8, slots := #[.int (124)], vm := .none },
  { cls := 8, slots := #[.int (125)], vm := .none },
  { cls := 8, slots := #[.int (126)], vm := .none },
  { cls := 8, slots := #[.int (127)], vm := .none }]
def classes : Array Class := #[k0, k1, k2, k3, k4, k5, k6, k7, k8, k9, k10, k11, k12, k13, k14, k15, k16, k17, k18, k19, k20]
def interned : List (Array UInt16 × Addr) := []
def slotsUsed : Nat := 527
def theMethod : MethodId := ⟨1, 1⟩
def args0 : Array Value := #[.int 1, .int 2, .int 3, .int 4, .int 5]
def aboutOver (below : List Frame) : State where
  vm := { classes := classes, interned := interned.toArray }
  heap := heap
  slotsUsed := slotsUsed
  threads := #[{ frames := .invoking theMethod args0 :: below }]
def below0 : List Frame := [.native { method := ⟨0, 0⟩, args := #[] }]
def about1 : State := aboutOver below0
def p0 : Program := .bare "" "" ""
def e0 : Env := launch0.env 0 0 0
theorem w_frames : about1.frames = Frame.invoking theMethod args0 :: below0 := rfl
set_option maxRecDepth 65536 in
theorem w_args : argsFit about1.vm theMethod args0 = true := by decide +kernel
set_option maxRecDepth 65536 in
theorem w_heap : heapFits about1 = true := by decide +kernel
set_option maxRecDepth 65536 in
theorem w_runnable : about1.curStatus? = some .runnable := by decide +kernel
set_option maxRecDepth 65536 in
theorem w_alone : about1.alone = true := by decide +kernel
set_option maxRecDepth 65536 in
theorem w_named : about1.methodNamed? x = some theMethod := by decide +kernel
set_option maxRecDepth 65536 in
theorem w_hears : about1.hears theMethod below0 = true := by decide +kernel
set_option maxRecDepth 65536 in
theorem w_ripe : about1.ripe theMethod args0 below0 = true := by decide +kernel
theorem w_running : about1.status = .running := rfl
set_option maxRecDepth 65536 in
theorem w_room : about1.hasRoom e0.platform room_1 = true :=
  launch0.hasRoom_least _ room_1 (by decide +kernel) (by decide +kernel) (by decide +kernel) (by decide +kernel) (by decide +kernel) (by decide +kernel)
theorem allAtoms_all (ts : List Jvm.Cond) (a : Array Jvm.Value) (st : Jvm.State) : (allAtoms ts).before a st = ts.all (fun c => c.before a st) := by
  induction ts with
  | nil => rfl
  | cons c t ih =>
    show (Jvm.Cond.and c (allAtoms t)).before a st = _
    rw [Jvm.Cond.before_and, ih, List.all_cons]
def words1 : List Jvm.Cond := Jvm.Cond.code x code maxLocals ret :: tables_1
/-- a 'code' word, met by the world's own term for the bytes: nothing is compared byte by byte -/
theorem code_word {y : MethodName} {bytes : ByteArray} {mx : Nat} {rt : Option FieldType} {a : Array Value} {s : State} {m : MethodId} {meth : Method} {c : Code} (h1 : s.methodNamed? y = some m) (h2 : s.vm.method? m = some meth) (h3 : meth.code = some c) (h4 : c.code = bytes)
    (h5 : (c.maxLocals == mx && c.exceptionTable.isEmpty && decide (c.maxStack ≤ mostOperands) && decide (meth.sig.returnType = rt) && !meth.locks && decide (parseMethodDescriptor y.desc = some meth.sig)) = true) : (Jvm.Cond.code y bytes mx rt).before a s = true := by
  simp only [Bool.and_eq_true, beq_iff_eq, Bool.not_eq_true', decide_eq_true_eq] at h5
  obtain ⟨⟨⟨⟨⟨g1, g2⟩, g3⟩, g4⟩, g5⟩, g6⟩ := h5
  simp [Cond.before, Cond.holds, Cond.value, h1, h2, h3, h4, g1, g2, g3, g4, g5, g6]
def isCode : Jvm.Cond → Bool
  | .code _ _ _ _ => true
  | _ => false
theorem all_split {L : List Jvm.Cond} {P : Jvm.Cond → Bool} (h1 : L.all (fun c => isCode c || P c) = true) (h2 : ∀ c ∈ L.filter isCode, P c = true) : L.all P = true := by
  refine List.all_eq_true.mpr fun c hc => ?_
  have h := List.all_eq_true.mp h1 c hc
  rcases Bool.eq_false_or_eq_true (isCode c) with hi | hi
  · exact h2 c (List.mem_filter.mpr ⟨hc, hi⟩)
  · simpa [hi] using h
set_option maxRecDepth 65536 in
theorem w_c0 : (Jvm.Cond.code x code maxLocals ret).before args0 about1 = true := code_word (m := ⟨1, 1⟩) (meth := k1m1) (c := k1c1) (by decide +kernel) rfl rfl rfl (by decide +kernel)
set_option maxRecDepth 65536 in
theorem w_c1 : (Jvm.Cond.code ({ cls := "com/example/keyturn/keyturn/signing/SdkRange", name := "<init>", desc := "(II)V" } : Jvm.MethodName) prog_47_method_1_code (3 : Nat) (Option.none : Option Jvm.ClassFile.FieldType)).before args0 about1 = true := code_word (m := ⟨2, 0⟩) (meth := k2m0) (c := k2c0) (by decide +kernel) rfl rfl rfl (by decide +kernel)
set_option maxRecDepth 65536 in
theorem w_c2 : (Jvm.Cond.code ({ cls := "java/lang/Object", name := "<init>", desc := "()V" } : Jvm.MethodName) object_method_1_code (1 : Nat) (Option.none : Option Jvm.ClassFile.FieldType)).before args0 about1 = true := code_word (m := ⟨0, 0⟩) (meth := k0m0) (c := k0c0) (by decide +kernel) rfl rfl rfl (by decide +kernel)
set_option maxRecDepth 65536 in
theorem w_c3 : (Jvm.Cond.code ({ cls := "com/example/keyturn/keyturn/signing/SdkRange", name := "equals", desc := "(Ljava/lang/Object;)Z" } : Jvm.MethodName) prog_47_method_7_code (3 : Nat) (Option.some Jvm.ClassFile.FieldType.boolean)).before args0 about1 = true := code_word (m := ⟨2, 1⟩) (meth := k2m1) (c := k2c1) (by decide +kernel) rfl rfl rfl (by decide +kernel)
set_option maxRecDepth 65536 in
theorem w_c4 : (Jvm.Cond.code ({ cls := "java/lang/Integer", name := "valueOf", desc := "(I)Ljava/lang/Integer;" } : Jvm.MethodName) jdk_33_method_22_code (1 : Nat) (Option.some (Jvm.ClassFile.FieldType.object "java/lang/Integer"))).before args0 about1 = true := code_word (m := ⟨8, 0⟩) (meth := k8m0) (c := k8c0) (by decide +kernel) rfl rfl rfl (by decide +kernel)
set_option maxRecDepth 65536 in
theorem w_c5 : (Jvm.Cond.code ({ cls := "java/lang/Integer", name := "<init>", desc := "(I)V" } : Jvm.MethodName) jdk_33_method_23_code (2 : Nat) (Option.none : Option Jvm.ClassFile.FieldType)).before args0 about1 = true := code_word (m := ⟨8, 1⟩) (meth := k8m1) (c := k8c1) (by decide +kernel) rfl rfl rfl (by decide +kernel)
set_option maxRecDepth 65536 in
theorem w_c6 : (Jvm.Cond.code ({ cls := "java/lang/Number", name := "<init>", desc := "()V" } : Jvm.MethodName) jdk_18_method_1_code (1 : Nat) (Option.none : Option Jvm.ClassFile.FieldType)).before args0 about1 = true := code_word (m := ⟨4, 0⟩) (meth := k4m0) (c := k4c0) (by decide +kernel) rfl rfl rfl (by decide +kernel)
set_option maxRecDepth 65536 in
theorem w_c7 : (Jvm.Cond.code ({ cls := "java/lang/String", name := "valueOf", desc := "(C)Ljava/lang/String;" } : Jvm.MethodName) jdk_42_method_139_code (1 : Nat) (Option.some (Jvm.ClassFile.FieldType.object "java/lang/String"))).before args0 about1 = true := code_word (m := ⟨11, 1⟩) (meth := k11m1) (c := k11c1) (by decide +kernel) rfl rfl rfl (by decide +kernel)
set_option maxRecDepth 65536 in
theorem w_c8 : (Jvm.Cond.code ({ cls := "java/lang/StringLatin1", name := "canEncode", desc := "(C)Z" } : Jvm.MethodName) jdk_43_method_3_code (1 : Nat) (Option.some Jvm.ClassFile.FieldType.boolean)).before args0 about1 = true := code_word (m := ⟨12, 1⟩) (meth := k12m1) (c := k12c1) (by decide +kernel) rfl rfl rfl (by decide +kernel)
set_option maxRecDepth 65536 in
theorem w_c9 : (Jvm.Cond.code ({ cls := "java/lang/StringLatin1", name := "toBytes", desc := "(C)[B" } : Jvm.MethodName) jdk_43_method_46_code (1 : Nat) (Option.some (Jvm.ClassFile.FieldType.array Jvm.ClassFile.FieldType.byte))).before args0 about1 = true := code_word (m := ⟨12, 2⟩) (meth := k12m2) (c := k12c2) (by decide +kernel) rfl rfl rfl (by decide +kernel)
set_option maxRecDepth 65536 in
theorem w_c10 : (Jvm.Cond.code ({ cls := "java/lang/String", name := "<init>", desc := "([BB)V" } : Jvm.MethodName) jdk_42_method_151_code (3 : Nat) (Option.none : Option Jvm.ClassFile.FieldType)).before args0 about1 = true := code_word (m := ⟨11, 2⟩) (meth := k11m2) (c := k11c2) (by decide +kernel) rfl rfl rfl (by decide +kernel)
def codes1 : List Jvm.Cond := [Jvm.Cond.code x code maxLocals ret, Jvm.Cond.code ({ cls := "com/example/keyturn/keyturn/signing/SdkRange", name := "<init>", desc := "(II)V" } : Jvm.MethodName) prog_47_method_1_code (3 : Nat) (Option.none : Option Jvm.ClassFile.FieldType), Jvm.Cond.code ({ cls := "java/lang/Object", name := "<init>", desc := "()V" } : Jvm.MethodName) object_method_1_code (1 : Nat) (Option.none : Option Jvm.ClassFile.FieldType), Jvm.Cond.code ({ cls := "com/example/keyturn/keyturn/signing/SdkRange", name := "equals", desc := "(Ljava/lang/Object;)Z" } : Jvm.MethodName) prog_47_method_7_code (3 : Nat) (Option.some Jvm.ClassFile.FieldType.boolean), Jvm.Cond.code ({ cls := "java/lang/Integer", name := "valueOf", desc := "(I)Ljava/lang/Integer;" } : Jvm.MethodName) jdk_33_method_22_code (1 : Nat) (Option.some (Jvm.ClassFile.FieldType.object "java/lang/Integer")), Jvm.Cond.code ({ cls := "java/lang/Integer", name := "<init>", desc := "(I)V" } : Jvm.MethodName) jdk_33_method_23_code (2 : Nat) (Option.none : Option Jvm.ClassFile.FieldType), Jvm.Cond.code ({ cls := "java/lang/Number", name := "<init>", desc := "()V" } : Jvm.MethodName) jdk_18_method_1_code (1 : Nat) (Option.none : Option Jvm.ClassFile.FieldType), Jvm.Cond.code ({ cls := "java/lang/String", name := "valueOf", desc := "(C)Ljava/lang/String;" } : Jvm.MethodName) jdk_42_method_139_code (1 : Nat) (Option.some (Jvm.ClassFile.FieldType.object "java/lang/String")), Jvm.Cond.code ({ cls := "java/lang/StringLatin1", name := "canEncode", desc := "(C)Z" } : Jvm.MethodName) jdk_43_method_3_code (1 : Nat) (Option.some Jvm.ClassFile.FieldType.boolean), Jvm.Cond.code ({ cls := "java/lang/StringLatin1", name := "toBytes", desc := "(C)[B" } : Jvm.MethodName) jdk_43_method_46_code (1 : Nat) (Option.some (Jvm.ClassFile.FieldType.array Jvm.ClassFile.FieldType.byte)), Jvm.Cond.code ({ cls := "java/lang/String", name := "<init>", desc := "([BB)V" } : Jvm.MethodName) jdk_42_method_151_code (3 : Nat) (Option.none : Option Jvm.ClassFile.FieldType)]
set_option maxRecDepth 65536 in
theorem codes_eq : words1.filter isCode = codes1 := rfl
theorem w_codes : ∀ c ∈ words1.filter isCode, c.before args0 about1 = true := by
  rw [codes_eq]
  intro c hc
  simp only [codes1, List.mem_cons, List.not_mem_nil, or_false] at hc
  rcases hc with rfl | rfl | rfl | rfl | rfl | rfl | rfl | rfl | rfl | rfl | rfl
  · exact w_c0
  · exact w_c1
  · exact w_c2
  · exact w_c3
  · exact w_c4
  · exact w_c5
  · exact w_c6
  · exact w_c7
  · exact w_c8
  · exact w_c9
  · exact w_c10
set_option maxRecDepth 65536 in
theorem w_t1 : (words1.take 24).all (fun c => isCode c || c.before args0 about1) = true := by decide +kernel
set_option maxRecDepth 65536 in
theorem w_t2 : ((words1.drop 24).take 24).all (fun c => isCode c || c.before args0 about1) = true := by decide +kernel
set_option maxRecDepth 65536 in
theorem w_t3 : ((words1.drop 24).drop 24).all (fun c => isCode c || c.before args0 about1) = true := by decide +kernel
theorem w_tables : (allAtoms (Jvm.Cond.code x code maxLocals ret :: tables_1)).before args0 about1 = true := by
  rw [allAtoms_all]
  show words1.all (fun c => c.before args0 about1) = true
  refine all_split ?_ w_codes
  rw [← List.take_append_drop 24 words1, List.all_append, w_t1, ← List.take_append_drop 24 (words1.drop 24), List.all_append, w_t2, w_t3]
  rfl
set_option maxRecDepth 65536 in
theorem w_rest : rest_1_c.before args0 about1 = true := by decide +kernel
set_option maxRecDepth 65536 in
theorem w_case : (Jvm.Cond.and given_1 narrow_1).before args0 about1 = true := by decide +kernel
theorem w_applies : (headSpec (Jvm.Cond.code x code maxLocals ret :: tables_1) room_1).applies x e0.platform about1 = true :=
  (Spec.applies_iff w_frames).mpr ⟨w_running, w_runnable, w_alone, w_named, w_hears, w_ripe, w_room, w_tables⟩
theorem atStart : AtStart classFile x code maxLocals ret World_1 tables_1 room_1 Calls_1 rest_1 Pre_1 launch0 p0 e0 about1 theMethod args0 below0 :=
  ⟨lists_1, trivial, launch0.admits_env _ _ _, launch0.least_env, fairChoices_fair.cas, fairChoices_fair.clock, w_frames, w_args, w_heap, w_applies, trivial, w_rest, w_case⟩
end start1
theorem witness_1 : WitnessClaimed_1 := ⟨start1.p0, start1.e0, start1.about1, start1.theMethod, start1.args0, start1.below0, start1.atStart⟩
end Jvm.Pilot.@@N@@
