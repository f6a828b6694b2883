import JvmDerived
import JvmDerived.Pilot.@@N@@Statement
import JvmDerived.Pilot.@@N@@Code
set_option linter.unusedVariables false
set_option linter.unusedSimpArgs false
namespace Jvm.RoadKit
open Sem ClassFile Op Lib Jvm.Stand Jvm.Free Jvm.LawKit
section New
variable {p : Program} {l : Launch} {e : Env} {R : Room} {s : State} {m : MethodId} {args : Array Value} {below : List Frame} {meth : Method} {c : Code} {T : State} {locs : List Loc} {cells slots : Nat}
theorem retI (X : Stand p l e R s m args below meth c T locs cells slots) (hx : p.tables.exec = Jvm.exec) {pc : Nat} {Ls : Array Slot} {z : Int32} {rest : List Value} (hret : meth.sig.returnType = some .int) (hd : decode c.code pc = .ok (.ireturn, 1)) {fs : List Frame}
    (hl : ∀ (f : JFrame) (acts : List Action), f.method = m → f.locked = none → f.entered = [] → (doReturn e (T.setTop f) acts (some (.int z))).1 = T.setFrames fs) : Steps p.tables e below (T.setTop (mkF m pc Ls (.int z :: rest))) (T.setFrames fs) := by
  have hm' : T.vm.method? m = some meth := X.method'
  have hn : narrow .int (.int z) = .int z := rfl
  show Steps p.tables e below (T.setTop { method := m, pc := pc, locals := Ls, stack := _ :: rest, locked := none }) _
  jvm_step X.here [X.here.top, hx, hd, hm', hret, hn]
  first | (intro acts; rw [hl _ acts rfl rfl rfl]) | rw [hl _ _ rfl rfl rfl]
  exact Steps.refl _
end New
end Jvm.RoadKit
namespace Jvm.Pilot.@@N@@
open Jvm Jvm.ClassFile Sem Op Lib Jvm.Free Jvm.Stand Jvm.LawKit Jvm.RoadKit Bundle Jvm.Pilot.@@N@@.Jvm.D
theorem own_retb (z : Int32) (h : z = 0 ∨ z = 1) : narrow .boolean (.int z) = .int z := by rcases h with rfl | rfl <;> rfl
theorem own_rem (x n : Int32) (hn : 0 < n.toInt) : 0 ≤ ((x &&& (2147483647 : Int32)) % n).toInt ∧ ((x &&& (2147483647 : Int32)) % n).toInt < n.toInt := by
  have h1 := c_mask x (2147483647 : Int32) 31 (by decide) (by decide)
  have h2 := (c_iremV (x &&& (2147483647 : Int32)) n).1 (by omega) hn
  exact ⟨h2.1, h2.2.1⟩
theorem own_of3 {k : Int32} (h : 0 ≤ k.toInt ∧ k.toInt < 3) : k = 0 ∨ k = 1 ∨ k = 2 := by
  have h2 : k.toInt = (0 : Int32).toInt ∨ k.toInt = (1 : Int32).toInt ∨ k.toInt = (2 : Int32).toInt := by simp; omega
  simpa only [Int32.toInt_inj] using h2
theorem own_of5 {k : Int32} (h : 0 ≤ k.toInt ∧ k.toInt < 5) : k = 0 ∨ k = 1 ∨ k = 2 ∨ k = 3 ∨ k = 4 := by
  have h2 : k.toInt = (0 : Int32).toInt ∨ k.toInt = (1 : Int32).toInt ∨ k.toInt = (2 : Int32).toInt ∨ k.toInt = (3 : Int32).toInt ∨ k.toInt = (4 : Int32).toInt := by simp; omega
  simpa only [Int32.toInt_inj] using h2
theorem own_of6 {k : Int32} (h : 0 ≤ k.toInt ∧ k.toInt < 6) : k = 0 ∨ k = 1 ∨ k = 2 ∨ k = 3 ∨ k = 4 ∨ k = 5 := by
  have h2 : k.toInt = (0 : Int32).toInt ∨ k.toInt = (1 : Int32).toInt ∨ k.toInt = (2 : Int32).toInt ∨ k.toInt = (3 : Int32).toInt ∨ k.toInt = (4 : Int32).toInt ∨ k.toInt = (5 : Int32).toInt := by simp; omega
  simpa only [Int32.toInt_inj] using h2
theorem own_eqI {args : Array Value} {s : State} {t : Term} {k : Int32} (h : (Jvm.Cond.eq t (.int k)).value args s none s [] = some true) : t.eval args s none [] s = some (.int k) := by
  obtain ⟨u, v, hu, hv, k1, k2⟩ := cmp_v (Or.inl h)
  have hv2 : v = .int k := Option.some.inj (hv.symm.trans (Term.int_eval k))
  subst hv2
  cases u <;> simp [Cond.value, hu, hv] at h
  subst h; exact hu
theorem own_fld {args : Array Value} {s : State} {t : Term} {a : Addr} {C n d : String} {k : Int32} (ev : t.eval args s none [] s = some (.ref a)) (h : (Jvm.Cond.eq (.field t C n d) (.int k)).value args s none s [] = some true) : Fld s s.heap a C n d (.int k) :=
  Fld.start ((fld_at ev).symm.trans (own_eqI h))
theorem own_len {args : Array Value} {s : State} {t : Term} {a : Addr} {cl : Cell} {ty : FieldType} {k : Int32} (ev : t.eval args s none [] s = some (.ref a)) (A : Arr s s.heap a cl ty) (h : (Jvm.Cond.eq (.length t) (.int k)).value args s none s [] = some true) : cl.slots.size.toInt32 = k := by
  obtain ⟨b, c, e1, e2, e3⟩ := Term.length_spec (own_eqI h)
  cases ev.symm.trans e1
  cases (A.fin (Vm.Alike.refl _)).symm.trans e2
  exact (Value.int.inj e3).symm
theorem own_lenlt {args : Array Value} {s : State} {t : Term} {a : Addr} {cl : Cell} {ty : FieldType} {k : Int32} (ev : t.eval args s none [] s = some (.ref a)) (A : Arr s s.heap a cl ty) (h : (Jvm.Cond.eq (.length t) (.int k)).value args s none s [] = some true) : cl.slots.size < 2 ^ 31 := by
  have h1 := own_eqI h
  have h2 := A.fin (Vm.Alike.refl _)
  apply Classical.byContradiction
  intro h3
  simp [Term.eval, ev, h2, h3] at h1
theorem own_elem {args : Array Value} {s : State} {t u : Term} {a b : Addr} {cl : Cell} {ty : FieldType} {j : Int32} (ev : t.eval args s none [] s = some (.ref a)) (A : Arr s s.heap a cl ty) (hu : u.eval args s none [] s = some (.ref b)) (h : (Jvm.Cond.eq (.elem t (.int j)) u).value args s none s [] = some true) : cl.slots[j.toNatClampNeg]? = some (.ref b) := by
  obtain ⟨x, y, hx, hy, -, -⟩ := cmp_v (Or.inl h)
  cases hu.symm.trans hy
  have h2 := (elem_in hx ev (Term.int_eval j) A.1).2
  cases x <;> simp [Cond.value, hx, hy] at h
  subst h; exact h2
theorem own_fldN {args : Array Value} {s : State} {t : Term} {a : Addr} {C n d : String} (ev : t.eval args s none [] s = some (.ref a)) (h : (Jvm.Cond.eq (.field t C n d) .null).value args s none s [] = some true) : Fld s s.heap a C n d .null :=
  Fld.start ((fld_at ev).symm.trans (null_v h))
def own_IC (Z : State) (h : Heap) (wC : Addr) : Prop := ∃ cl : Cell, Arr Z h wC cl (.object "java/lang/Integer") ∧ cl.slots.size = 256 ∧ ∀ j : Int32, ¬ (j < 0 ∨ cl.slots.size ≤ j.toNatClampNeg) → ∃ b : Addr, cl.slots[j.toNatClampNeg]? = some (.ref b) ∧ Exa Z h b "java/lang/Integer"
theorem own_ICkeep {Z : State} {h h' : Heap} {wC : Addr} {ws : List Addr} (I : own_IC Z h wC) (K : Keep h h' ws) (q : wC ∉ ws) : own_IC Z h' wC := by
  obtain ⟨cl, A, S, H⟩ := I
  exact ⟨cl, ⟨K.2.1 _ _ A.1 q, A.2⟩, S, fun j hj => by obtain ⟨b, e, E⟩ := H j hj; exact ⟨b, e, E.keep K⟩⟩
theorem own_ICstart {s : State} {args : Array Value} {t : Term} {a : Addr} {cl : Cell} {X : Jvm.Cond} (et : ∀ idx, t.eval args s none idx s = some (.ref a)) (A : Arr s s.heap a cl (.object "java/lang/Integer")) (lt : cl.slots.size < 2 ^ 31) (l : cl.slots.size.toInt32 = (256 : Int32)) (h : (Jvm.Cond.all t (.and (.exactly (.elem t (.index 0)) "java/lang/Integer") X)).value args s none s [] = some true) : own_IC s s.heap a := by
  refine ⟨cl, A, ?_, fun j hj => ?_⟩
  · have h1 : cl.slots.size = (256 : Int32).toNatClampNeg := by rw [← l]; simp only [Int32.toNatClampNeg, len_toInt lt]; rfl
    exact h1
  · have nn : ¬ j < 0 := fun x => hj (Or.inl x)
    obtain ⟨u1, u2⟩ := and_e (Cond.all_elim (et []) (A.fin (Vm.Alike.refl _)) h j.toNatClampNeg (Nat.lt_of_not_le fun x => hj (Or.inr x)))
    obtain ⟨box, eb⟩ := exa_v u1
    exact ⟨box, (elem_f (et _) (idx_at nn) (A.fin (Vm.Alike.refl _)) nn).symm.trans eb, exa_at eb u1⟩
theorem own_ix128 {p : Int32} {n : Nat} (hs : n = 256) (h1 : ¬ p < (-128 : Int32)) (h2 : ¬ (127 : Int32) < p) : ¬ (p + (128 : Int32) < 0 ∨ n ≤ (p + (128 : Int32)).toNatClampNeg) := by
  rw [Int32.lt_iff_toInt_lt] at h1 h2
  have e1 : (-128 : Int32).toInt = -128 := by decide
  have e2 : (127 : Int32).toInt = 127 := by decide
  have e3 : (128 : Int32).toInt = 128 := by decide
  have h3 := c_iadd p (128 : Int32)
  have h4 := rng32 (p + (128 : Int32))
  have h5 : (0 : Int32).toInt = 0 := by decide
  rintro (h | h)
  · rw [Int32.lt_iff_toInt_lt] at h; omega
  · simp only [Int32.toNatClampNeg] at h; omega
theorem own_nsroot {Z : State} {a0 : Array Value} {O K : String} {t : ClassId} (w : (Jvm.Cond.noSuperclass O).before a0 Z = true) (g1 : Z.vm.findClass K = some t) (hn : O ≠ K) : NS Z O K := by
  obtain ⟨c, k, h1, h2, h3, -, -⟩ := Cond.noSuperclass_spec w
  have ne := ids_ne h1 g1 hn
  refine ⟨c, t, h1, g1, fun fuel => ?_⟩
  cases fuel with
  | zero => rfl
  | succ f => simp [Vm.isSubclassAux, ne, h2, h3]
theorem own_nsno {Z : State} {a0 : Array Value} {C S K : String} {m : Nat} (w : (Jvm.Cond.superclass C S).before a0 Z = true) (wk : (Jvm.Cond.instantiable K m).before a0 Z = true) (n : NS Z C K) (hn : C ≠ K) : ∃ c t, Z.vm.findClass C = some c ∧ Z.vm.findClass K = some t ∧ Z.vm.assignable c t = false := by
  obtain ⟨c, t, h0, g0, n3⟩ := n
  obtain ⟨p, k, kp, h1, h2, h3, h4, h5, -, h7⟩ := Cond.superclass_spec h0 w
  obtain ⟨t2, k', g1, g2, g5, g7, -⟩ := Cond.instantiable_spec wk
  cases g0.symm.trans g1
  have g8 : k'.isInterface = false := by
    cases q : k'.isInterface with
    | false => rfl
    | true => rw [q] at g7; simp at g7
  have ne := ids_ne h0 g0 hn
  refine ⟨c, t, h0, g0, ?_⟩
  show Z.vm.assignableAux (255 + 1) c t = false
  simp [Vm.assignableAux, ne, h2, g2, h5, g5, g8, Vm.isSubclass, n3]
theorem own_found {Z : State} {a0 : Array Value} {K : String} {m : Nat} (wk : (Jvm.Cond.instantiable K m).before a0 Z = true) : ∃ t, Z.vm.findClass K = some t := by
  obtain ⟨t, _, h, -⟩ := Cond.instantiable_spec wk
  exact ⟨t, h⟩
theorem own_staK {Z : State} {h h' : Heap} {C n d : String} {v : Value} {ws : List Addr} (S : Sta Z h C n d v) (K : Keep h h' ws) (q : ∀ x ∈ ws, ∃ C', Exa Z h x C') : Sta Z h' C n d v := by
  obtain ⟨cf, i, k, f, st, cell, h1, h2, h3, h4, h5, h6, h7⟩ := S
  refine ⟨cf, i, k, f, st, cell, h1, h2, h3, h4, K.2.1 _ _ h5 (fun m => ?_), h6, h7⟩
  obtain ⟨C', cell', k', e1, -, -, e4, -⟩ := q st m
  cases h5.symm.trans e1
  rw [h6] at e4; cases e4
def QN (Z : State) (h0 : Heap) (n0 : Nat) (v : Option Value) (h : Heap) (L : List Loc) : Prop := v = none ∧ Fr n0 L ∧ h = h0
def QI (Z : State) (r : Int32) (h0 : Heap) (n0 : Nat) (v : Option Value) (h : Heap) (L : List Loc) : Prop := v = some (.int r) ∧ Fr n0 L ∧ h = h0
def QW (Z : State) (a1 : Addr) (C : String) (h0 : Heap) (n0 : Nat) (v : Option Value) (h : Heap) (L : List Loc) : Prop := v = none ∧ Fr n0 L ∧ Keep h0 h [a1] ∧ Exa Z h a1 C
def QB (Z : State) (C : String) (h0 : Heap) (n0 : Nat) (v : Option Value) (h : Heap) (L : List Loc) : Prop := ∃ b : Addr, v = some (.ref b) ∧ Fr n0 L ∧ Keep h0 h [] ∧ Exa Z h b C
def QY (Z : State) (h0 : Heap) (n0 : Nat) (v : Option Value) (h : Heap) (L : List Loc) : Prop := ∃ b : Addr, v = some (.ref b) ∧ Fr n0 L ∧ Keep h0 h []
theorem d6_0 : decode jdk_18_method_1_code 0 = .ok (.aload_n 0, 1) := by decide +kernel
theorem d6_1 : decode jdk_18_method_1_code 1 = .ok (.invokespecial 1, 3) := by decide +kernel
theorem d6_4 : decode jdk_18_method_1_code 4 = .ok (.return_, 1) := by decide +kernel
theorem pn_rmNu : plainName "java/lang/Number" = true := by first | (simp [plainName, overriddenIn]; done) | decide +kernel
theorem ef_rmNu (m : MethodId) (a1 : Addr) : entryFrame m #[(.ref a1)] 1 = mkF m 0 #[.val (.ref a1)] [] := by first | (simp [entryFrame, mkF, argsToLocals, Value.category]; done) | rfl
set_option maxRecDepth 65536 in
set_option maxHeartbeats 40000000 in
theorem rmNu (l : Launch) (Z : State) (a0 : Array Value) (hw : ∀ d ∈ tables_1, d.before a0 Z = true) (ws : List Jvm.Cond) (a1 : Addr) (h0 : Heap) (n0 : Nat) (Z0 : n0 ≤ h0.size)  :
    MetFree l (⟨"java/lang/Number", "<init>", "()V"⟩ : MethodName) (head1 (Jvm.Cond.code (⟨"java/lang/Number", "<init>", "()V"⟩ : MethodName) jdk_18_method_1_code 1 none :: ws) ({ frames := 1, cells := 0, slots := 0, locals := 12 } : Room)) (fun a U => a = #[(.ref a1)] ∧ Z.Warmed39 U.vm ∧ U.heap = h0) (fun _ _ _ _ _ => True) (fun _ U o U' => ∃ v L, o = .returned v ∧ QN Z h0 n0 v U'.heap L ∧ FrameEnd U o U' L ({ frames := 1, cells := 0, slots := 0, locals := 12 } : Room).cells ({ frames := 1, cells := 0, slots := 0, locals := 12 } : Room).slots) := by
  refine MetFree.of_bodySF (plainFor_of_name pn_rmNu) hisR ?_
  intro p e s m args below meth c s₁ Bd hml0 hP hK
  obtain ⟨rfl, hZ, hh⟩ := hP
  have hx := Bd.exec
  have hby := Bd.bytes
  have hml : c.maxLocals = 1 := hml0
  have hown : s.vm.findClass "java/lang/Number" = some m.cls := findClass_of_methodNamed Bd.named
  have hnm := (name_of_methodNamed Bd.named Bd.method).1
  have X0 : Stand p l e ({ frames := 1, cells := 0, slots := 0, locals := 12 } : Room) s m #[(.ref a1)] below meth c s₁ [] 0 0 := Stand.of_body Bd
  have e0 : s₁.heap = h0 := by rw [← hh, Bd.state]; rfl
  have N0 := Fr.nil n0
  have pre0 : ∀ tt, Steps p.tables e below (s₁.setTop (mkF m 0 #[.val (.ref a1)] [])) tt → Steps p.tables e below (s₁.setTop (entryFrame m #[(.ref a1)] 1)) tt := fun tt kt => castTop (ef_rmNu m a1) kt
  obtain ⟨T1, X1, e1, st1⟩ := initO X0 hx hZ hown (hw _ (List.mem_of_getElem? (i := 49) rfl)) (hw _ (List.mem_of_getElem? (i := 8) rfl)) (hw _ (List.mem_of_getElem? (i := 9) rfl)) e0 (g := (mkF m 1 #[.val (.ref a1)] [(.ref a1)])) rfl (by rw [hml]; rfl) rfl (hb hby d6_1) (by decide) (W := 0) (by show 2 * 0 + _ ≤ _; exact Nat.le_of_eq rfl) (by decide)
  have pre2 : ∀ tt, Steps p.tables e below (T1.setTop (mkF m 4 #[.val (.ref a1)] [])) tt → Steps p.tables e below (s₁.setTop (entryFrame m #[(.ref a1)] 1)) tt := by
    intro tt kt
    refine pre0 tt ?_
    show Steps p.tables e below (s₁.setTop (mkF m 0 #[.val (.ref a1)] [])) _
    refine XS.aloadN X0.here hx rfl (hb hby d6_0) rfl rfl ?_
    show Steps p.tables e below (s₁.setTop (mkF m 1 #[.val (.ref a1)] [(.ref a1)])) _
    refine st1 _ ?_
    exact kt
  obtain ⟨fs, hr, hrun, hended, hW, hsame⟩ := X1.leave (v := none) (fun _ => rfl)
  refine ⟨_, _, pre2 _ ?_, hrun, hended, _, _, rfl, ?_, ⟨_, rfl⟩, hW, hsame.mono (by decide) (by decide)⟩
  · show Steps p.tables e below (T1.setTop (mkF m 4 #[.val (.ref a1)] [])) _
    exact X1.returnOut hx Bd.returns (hb hby d6_4) hr
  · show QN Z h0 n0 _ T1.heap _
    rw [e1]
    exact ⟨rfl, N0, rfl⟩
theorem d5_0 : decode jdk_33_method_23_code 0 = .ok (.aload_n 0, 1) := by decide +kernel
theorem d5_1 : decode jdk_33_method_23_code 1 = .ok (.invokespecial 202, 3) := by decide +kernel
theorem d5_4 : decode jdk_33_method_23_code 4 = .ok (.aload_n 0, 1) := by decide +kernel
theorem d5_5 : decode jdk_33_method_23_code 5 = .ok (.iload_n 1, 1) := by decide +kernel
theorem d5_6 : decode jdk_33_method_23_code 6 = .ok (.putfield 205, 3) := by decide +kernel
theorem d5_9 : decode jdk_33_method_23_code 9 = .ok (.return_, 1) := by decide +kernel
theorem pn_rmIn : plainName "java/lang/Integer" = true := by first | (simp [plainName, overriddenIn]; done) | decide +kernel
theorem pd_rmIn_0 : parseMethodDescriptor "()V" = some ⟨[], none⟩ := by decide +kernel
theorem ef_rmIn (m : MethodId) (a1 : Addr) (p1 : Int32) : entryFrame m #[(.ref a1), (.int p1)] 2 = mkF m 0 #[.val (.ref a1), .val (.int p1)] [] := by first | (simp [entryFrame, mkF, argsToLocals, Value.category]; done) | rfl
set_option maxRecDepth 65536 in
set_option maxHeartbeats 40000000 in
theorem rmIn (l : Launch) (Z : State) (a0 : Array Value) (hw : ∀ d ∈ tables_1, d.before a0 Z = true) (ws : List Jvm.Cond) (a1 : Addr) (p1 : Int32) (h0 : Heap) (n0 : Nat) (Z0 : n0 ≤ h0.size) (E_a1 : Exa Z h0 a1 "java/lang/Integer") (F_v : Fld Z h0 a1 "java/lang/Integer" "value" "I" (.int (0 : Int32))) (g_a1 : n0 ≤ a1) :
    MetFree l (⟨"java/lang/Integer", "<init>", "(I)V"⟩ : MethodName) (head1 (Jvm.Cond.code (⟨"java/lang/Integer", "<init>", "(I)V"⟩ : MethodName) jdk_33_method_23_code 2 none :: ws) ({ frames := 2, cells := 0, slots := 0, locals := 24 } : Room)) (fun a U => a = #[(.ref a1), (.int p1)] ∧ Z.Warmed39 U.vm ∧ U.heap = h0) (fun _ _ _ _ _ => True) (fun _ U o U' => ∃ v L, o = .returned v ∧ QW Z a1 "java/lang/Integer" h0 n0 v U'.heap L ∧ FrameEnd U o U' L ({ frames := 2, cells := 0, slots := 0, locals := 24 } : Room).cells ({ frames := 2, cells := 0, slots := 0, locals := 24 } : Room).slots) := by
  refine MetFree.of_bodySF (plainFor_of_name pn_rmIn) hisR ?_
  intro p e s m args below meth c s₁ Bd hml0 hP hK
  obtain ⟨rfl, hZ, hh⟩ := hP
  have hx := Bd.exec
  have hby := Bd.bytes
  have hml : c.maxLocals = 2 := hml0
  have hown : s.vm.findClass "java/lang/Integer" = some m.cls := findClass_of_methodNamed Bd.named
  have hnm := (name_of_methodNamed Bd.named Bd.method).1
  have X0 : Stand p l e ({ frames := 2, cells := 0, slots := 0, locals := 24 } : Room) s m #[(.ref a1), (.int p1)] below meth c s₁ [] 0 0 := Stand.of_body Bd
  have e0 : s₁.heap = h0 := by rw [← hh, Bd.state]; rfl
  have N0 := Fr.nil n0
  have pre0 : ∀ tt, Steps p.tables e below (s₁.setTop (mkF m 0 #[.val (.ref a1), .val (.int p1)] [])) tt → Steps p.tables e below (s₁.setTop (entryFrame m #[(.ref a1), (.int p1)] 2)) tt := fun tt kt => castTop (ef_rmIn m a1 p1) kt
  obtain ⟨_, _, ⟨T1, L1, k1, n1⟩, -, X1, ⟨Lc1, hQ1, l1, y1, z1⟩, st1⟩ := X0.specialBack hx (y := (⟨"java/lang/Number", "<init>", "()V"⟩ : MethodName)) rfl hown (mvT hZ (hw _ (List.mem_of_getElem? (i := 43) rfl))) (mvT hZ (hw _ (List.mem_of_getElem? (i := 44) rfl))) (mvT hZ (hw _ (List.mem_of_getElem? (i := 48) rfl))) (by decide) (backOf (W := 0) (rmNu l Z a0 hw [] a1 h0 n0 Z0) hZ (hw _ (List.mem_of_getElem? (i := 48) rfl)) (hw _ (List.mem_of_getElem? (i := 47) rfl)) (by decide) (by decide)) (g := (mkF m 1 #[.val (.ref a1), .val (.int p1)] [(.ref a1)])) rfl (by rw [hml]; rfl) (Steps.refl _) (a := a1) (argsL := []) (rest := []) (lenOf pd_rmIn_0 rfl) rfl (by show 2 * 0 + _ ≤ _; exact Nat.le_of_eq rfl) (hb hby d5_1) (fun _ _ => ⟨rfl, e0, (by decide : 0 + 0 ≤ _), (by decide : 0 + 0 ≤ _)⟩)
  dsimp only [Pt.U, Pt.locs, Pt.cells, Pt.slots] at X1 l1 y1 z1 st1 hQ1
  subst l1 y1 z1
  obtain ⟨rfl, N1q, hE1⟩ := hQ1
  have N1 := Fr.app N0 N1q
  obtain ⟨T2, h2, X2, e2, W2, st2⟩ := putF X1 hx hZ hown (host := "") (Or.inl (hw _ (List.mem_of_getElem? (i := 50) rfl))) Via.refl hE1 F_v E_a1 (Or.inr ⟨(hw _ (List.mem_of_getElem? (i := 51) rfl)), rfl, hnm⟩) (hw _ (List.mem_of_getElem? (i := 38) rfl)) (ty := .int) (by decide) rfl rfl (g := (mkF m 6 #[.val (.ref a1), .val (.int p1)] [(.int p1), (.ref a1)])) rfl rfl (hb hby d5_6)
  have Fw2 := Fld.same W2 F_v
  have N2 := Fr.snoc X2 N1 g_a1
  have K2 : Keep h0 h2 [a1] := ((Keep.refl h0 [a1])).wr W2 (Or.inl (List.mem_of_getElem? (i := 0) rfl))
  have pre3 : ∀ tt, Steps p.tables e below (T2.setTop (mkF m 9 #[.val (.ref a1), .val (.int p1)] [])) tt → Steps p.tables e below (s₁.setTop (entryFrame m #[(.ref a1), (.int p1)] 2)) tt := by
    intro tt kt
    refine pre0 tt ?_
    show Steps p.tables e below (s₁.setTop (mkF m 0 #[.val (.ref a1), .val (.int p1)] [])) _
    refine XS.aloadN X0.here hx rfl (hb hby d5_0) rfl rfl ?_
    show Steps p.tables e below (s₁.setTop (mkF m 1 #[.val (.ref a1), .val (.int p1)] [(.ref a1)])) _
    refine st1.trans ?_
    show Steps p.tables e below (T1.setTop (mkF m 4 #[.val (.ref a1), .val (.int p1)] [])) _
    refine XS.aloadN X1.here hx rfl (hb hby d5_4) rfl rfl ?_
    show Steps p.tables e below (T1.setTop (mkF m 5 #[.val (.ref a1), .val (.int p1)] [(.ref a1)])) _
    refine XS.iloadN X1.here hx rfl (hb hby d5_5) rfl ?_
    show Steps p.tables e below (T1.setTop (mkF m 6 #[.val (.ref a1), .val (.int p1)] [(.int p1), (.ref a1)])) _
    refine st2 _ ?_
    exact kt
  obtain ⟨fs, hr, hrun, hended, hW, hsame⟩ := X2.leave (v := none) (fun _ => rfl)
  refine ⟨_, _, pre3 _ ?_, hrun, hended, _, _, rfl, ?_, ⟨_, rfl⟩, hW, hsame.mono (by decide) (by decide)⟩
  · show Steps p.tables e below (T2.setTop (mkF m 9 #[.val (.ref a1), .val (.int p1)] [])) _
    exact X2.returnOut hx Bd.returns (hb hby d5_9) hr
  · show QW Z a1 "java/lang/Integer" h0 n0 _ T2.heap _
    rw [e2]
    exact ⟨rfl, N2, K2, (Exa.wr W2 E_a1)⟩
theorem d4_0 : decode jdk_33_method_22_code 0 = .ok (.iload_n 0, 1) := by decide +kernel
theorem d4_1 : decode jdk_33_method_22_code 1 = .ok (.bipush (-128), 2) := by decide +kernel
theorem d4_3 : decode jdk_33_method_22_code 3 = .ok (.if_icmp .lt 20, 3) := by decide +kernel
theorem d4_6 : decode jdk_33_method_22_code 6 = .ok (.iload_n 0, 1) := by decide +kernel
theorem d4_7 : decode jdk_33_method_22_code 7 = .ok (.getstatic 191, 3) := by decide +kernel
theorem d4_10 : decode jdk_33_method_22_code 10 = .ok (.if_icmp .gt 13, 3) := by decide +kernel
theorem d4_13 : decode jdk_33_method_22_code 13 = .ok (.getstatic 195, 3) := by decide +kernel
theorem d4_16 : decode jdk_33_method_22_code 16 = .ok (.iload_n 0, 1) := by decide +kernel
theorem d4_17 : decode jdk_33_method_22_code 17 = .ok (.sipush 128, 3) := by decide +kernel
theorem d4_20 : decode jdk_33_method_22_code 20 = .ok (.iadd, 1) := by decide +kernel
theorem d4_21 : decode jdk_33_method_22_code 21 = .ok (.aaload, 1) := by decide +kernel
theorem d4_22 : decode jdk_33_method_22_code 22 = .ok (.areturn, 1) := by decide +kernel
theorem d4_23 : decode jdk_33_method_22_code 23 = .ok (.new 1, 3) := by decide +kernel
theorem d4_26 : decode jdk_33_method_22_code 26 = .ok (.dup, 1) := by decide +kernel
theorem d4_27 : decode jdk_33_method_22_code 27 = .ok (.iload_n 0, 1) := by decide +kernel
theorem d4_28 : decode jdk_33_method_22_code 28 = .ok (.invokespecial 199, 3) := by decide +kernel
theorem d4_31 : decode jdk_33_method_22_code 31 = .ok (.areturn, 1) := by decide +kernel
theorem pn_rmVO : plainName "java/lang/Integer" = true := by first | (simp [plainName, overriddenIn]; done) | decide +kernel
theorem pd_rmVO_0 : parseMethodDescriptor "(I)V" = some ⟨[.int], none⟩ := by decide +kernel
theorem ef_rmVO (m : MethodId) (p1 : Int32) : entryFrame m #[(.int p1)] 1 = mkF m 0 #[.val (.int p1)] [] := by first | (simp [entryFrame, mkF, argsToLocals, Value.category]; done) | rfl
set_option maxRecDepth 65536 in
set_option maxHeartbeats 40000000 in
theorem rmVO (l : Launch) (Z : State) (a0 : Array Value) (hw : ∀ d ∈ tables_1, d.before a0 Z = true) (ws : List Jvm.Cond) (p1 : Int32) (wC : Addr) (h0 : Heap) (n0 : Nat) (Z0 : n0 ≤ h0.size) (S_high : Sta Z h0 "java/lang/Integer$IntegerCache" "high" "I" (.int (127 : Int32))) (S_cache : Sta Z h0 "java/lang/Integer$IntegerCache" "cache" "[Ljava/lang/Integer;" (.ref wC)) (I_C : own_IC Z h0 wC) :
    MetFree l (⟨"java/lang/Integer", "valueOf", "(I)Ljava/lang/Integer;"⟩ : MethodName) (head1 (Jvm.Cond.code (⟨"java/lang/Integer", "valueOf", "(I)Ljava/lang/Integer;"⟩ : MethodName) jdk_33_method_22_code 1 (some (.object "java/lang/Integer")) :: ws) ({ frames := 3, cells := 1, slots := 1, locals := 38 } : Room)) (fun a U => a = #[(.int p1)] ∧ Z.Warmed39 U.vm ∧ U.heap = h0) (fun _ _ _ _ _ => True) (fun _ U o U' => ∃ v L, o = .returned v ∧ QB Z "java/lang/Integer" h0 n0 v U'.heap L ∧ FrameEnd U o U' L ({ frames := 3, cells := 1, slots := 1, locals := 38 } : Room).cells ({ frames := 3, cells := 1, slots := 1, locals := 38 } : Room).slots) := by
  refine MetFree.of_bodySF (plainFor_of_name pn_rmVO) hisR ?_
  intro p e s m args below meth c s₁ Bd hml0 hP hK
  obtain ⟨rfl, hZ, hh⟩ := hP
  have hx := Bd.exec
  have hby := Bd.bytes
  have hml : c.maxLocals = 1 := hml0
  have hown : s.vm.findClass "java/lang/Integer" = some m.cls := findClass_of_methodNamed Bd.named
  have hnm := (name_of_methodNamed Bd.named Bd.method).1
  have X0 : Stand p l e ({ frames := 3, cells := 1, slots := 1, locals := 38 } : Room) s m #[(.int p1)] below meth c s₁ [] 0 0 := Stand.of_body Bd
  have e0 : s₁.heap = h0 := by rw [← hh, Bd.state]; rfl
  have N0 := Fr.nil n0
  have pre0 : ∀ tt, Steps p.tables e below (s₁.setTop (mkF m 0 #[.val (.int p1)] [])) tt → Steps p.tables e below (s₁.setTop (entryFrame m #[(.int p1)] 1)) tt := fun tt kt => castTop (ef_rmVO m p1) kt
  have pre1 : ∀ tt, Steps p.tables e below (s₁.setTop (mkF m 3 #[.val (.int p1)] [(.int (-128 : Int32)), (.int p1)])) tt → Steps p.tables e below (s₁.setTop (entryFrame m #[(.int p1)] 1)) tt := by
    intro tt kt
    refine pre0 tt ?_
    show Steps p.tables e below (s₁.setTop (mkF m 0 #[.val (.int p1)] [])) _
    refine XS.iloadN X0.here hx rfl (hb hby d4_0) rfl ?_
    show Steps p.tables e below (s₁.setTop (mkF m 1 #[.val (.int p1)] [(.int p1)])) _
    refine XS.bipush X0.here hx rfl (hb hby d4_1) ?_
    exact kt
  by_cases c3_2 : p1 < (-128 : Int32)
  · obtain ⟨T3, h3, X3, e3, E3, A3, D3, -, st3⟩ := newO X0 hx hZ hown (hw _ (List.mem_of_getElem? (i := 37) rfl)) (hw _ (List.mem_of_getElem? (i := 38) rfl)) (hw _ (List.mem_of_getElem? (i := 29) rfl)) e0 (g := (mkF m 23 #[.val (.int p1)] [])) rfl (hb hby d4_23) (by decide) (by decide)
    obtain ⟨b3, g3⟩ : ∃ z, z = h0.size := ⟨_, rfl⟩
    rw [← g3] at A3 D3 st3
    have g_b3 : n0 ≤ b3 := Nat.le_trans Z0 (Nat.le_of_eq g3.symm)
    have sz_b3 : h0.size ≤ b3 := Nat.le_trans ((Keep.refl h0 [])).1 (Nat.le_of_eq g3.symm)
    have K3 : Keep h0 h3 [] := ((Keep.refl h0 [])).ext E3
    have F_value_b3 : Fld Z h3 b3 "java/lang/Integer" "value" "I" (.int (0 : Int32)) := D3 (Or.inr (hw _ (List.mem_of_getElem? (i := 51) rfl))) (ty := .int) (by decide)
    obtain ⟨_, _, ⟨T4, L4, k4, n4⟩, -, X4, ⟨Lc4, hQ4, l4, y4, z4⟩, st4⟩ := X3.specialBack hx (y := (⟨"java/lang/Integer", "<init>", "(I)V"⟩ : MethodName)) rfl hown (mvT hZ (hw _ (List.mem_of_getElem? (i := 39) rfl))) (mvT hZ (hw _ (List.mem_of_getElem? (i := 40) rfl))) (mvT hZ (hw _ (List.mem_of_getElem? (i := 42) rfl))) (by decide) (backOf (W := 1) (rmIn l Z a0 hw [] b3 p1 h3 n0 (Nat.le_trans Z0 E3.1) A3 F_value_b3 g_b3) hZ (hw _ (List.mem_of_getElem? (i := 42) rfl)) (hw _ (List.mem_of_getElem? (i := 29) rfl)) (by decide) (by decide)) (g := (mkF m 28 #[.val (.int p1)] [(.int p1), (.ref b3), (.ref b3)])) rfl (by rw [hml]; rfl) (Steps.refl _) (a := b3) (argsL := [(.int p1)]) (rest := [(.ref b3)]) (lenOf pd_rmVO_0 rfl) rfl (by show 2 * 0 + _ ≤ _; exact Nat.le_of_eq rfl) (hb hby d4_28) (fun _ _ => ⟨rfl, e3, (by decide : 1 + 0 ≤ _), (by decide : 1 + 0 ≤ _)⟩)
    dsimp only [Pt.U, Pt.locs, Pt.cells, Pt.slots] at X4 l4 y4 z4 st4 hQ4
    subst l4 y4 z4
    obtain ⟨rfl, N4q, K4, Ei4⟩ := hQ4
    have N4 := Fr.app N0 N4q
    have KK4 : Keep h0 T4.heap [] := (K3).trans K4 (allS (Or.inr sz_b3) all0)
    have pre5 : ∀ tt, Steps p.tables e below (T4.setTop (mkF m 31 #[.val (.int p1)] [(.ref b3)])) tt → Steps p.tables e below (s₁.setTop (entryFrame m #[(.int p1)] 1)) tt := by
      intro tt kt
      refine pre1 tt ?_
      show Steps p.tables e below (s₁.setTop (mkF m 3 #[.val (.int p1)] [(.int (-128 : Int32)), (.int p1)])) _
      refine XS.icmpYes X0.here hx rfl (pc0 := 3) (pc' := 23) rfl (hb hby d4_3) rfl (tlt c3_2).1 (by decide) (by decide) ?_
      show Steps p.tables e below (s₁.setTop (mkF m 23 #[.val (.int p1)] [])) _
      refine st3 _ ?_
      show Steps p.tables e below (T3.setTop (mkF m 26 #[.val (.int p1)] [(.ref b3)])) _
      refine XS.dup X3.here hx rfl (hb hby d4_26) rfl rfl ?_
      show Steps p.tables e below (T3.setTop (mkF m 27 #[.val (.int p1)] [(.ref b3), (.ref b3)])) _
      refine XS.iloadN X3.here hx rfl (hb hby d4_27) rfl ?_
      show Steps p.tables e below (T3.setTop (mkF m 28 #[.val (.int p1)] [(.int p1), (.ref b3), (.ref b3)])) _
      refine st4.trans ?_
      exact kt
    obtain ⟨fs, hr, hrun, hended, hW, hsame⟩ := X4.leave (v := some (.ref b3)) (fun h => by rw [Bd.returns] at h; cases h)
    refine ⟨_, _, pre5 _ ?_, hrun, hended, _, _, rfl, ?_, ⟨_, rfl⟩, hW, hsame.mono (by decide) (by decide)⟩
    · show Steps p.tables e below (T4.setTop (mkF m 31 #[.val (.int p1)] [(.ref b3)])) _
      jvm_step X4.here [X4.here.top, hx, (hb hby d4_31), X4.method', Bd.returns, Value.isRef, FieldType.isReference]
      first | (intro acts; rw [hr _ acts rfl rfl rfl]) | rw [hr _ _ rfl rfl rfl]
      exact Steps.refl _
    · show QB Z "java/lang/Integer" h0 n0 _ T4.heap _
      exact ⟨_, rfl, N4, KK4, Ei4⟩
  · obtain ⟨T6, X6, e6, st6⟩ := getS2 X0 hx hZ hown (host := "") (Or.inl (hw _ (List.mem_of_getElem? (i := 31) rfl))) Via.refl e0 S_high (g := (mkF m 7 #[.val (.int p1)] [(.int p1)])) rfl (hb hby d4_7)
    have pre7 : ∀ tt, Steps p.tables e below (T6.setTop (mkF m 10 #[.val (.int p1)] [(.int (127 : Int32)), (.int p1)])) tt → Steps p.tables e below (s₁.setTop (entryFrame m #[(.int p1)] 1)) tt := by
      intro tt kt
      refine pre1 tt ?_
      show Steps p.tables e below (s₁.setTop (mkF m 3 #[.val (.int p1)] [(.int (-128 : Int32)), (.int p1)])) _
      refine XS.icmpNo X0.here hx rfl (hb hby d4_3) rfl (flt c3_2).1 ?_
      show Steps p.tables e below (s₁.setTop (mkF m 6 #[.val (.int p1)] [])) _
      refine XS.iloadN X0.here hx rfl (hb hby d4_6) rfl ?_
      show Steps p.tables e below (s₁.setTop (mkF m 7 #[.val (.int p1)] [(.int p1)])) _
      refine st6 _ ?_
      exact kt
    by_cases c10_8 : (127 : Int32) < p1
    · obtain ⟨T9, h9, X9, e9, E9, A9, D9, -, st9⟩ := newO X6 hx hZ hown (hw _ (List.mem_of_getElem? (i := 37) rfl)) (hw _ (List.mem_of_getElem? (i := 38) rfl)) (hw _ (List.mem_of_getElem? (i := 29) rfl)) e6 (g := (mkF m 23 #[.val (.int p1)] [])) rfl (hb hby d4_23) (by decide) (by decide)
      obtain ⟨b9, g9⟩ : ∃ z, z = h0.size := ⟨_, rfl⟩
      rw [← g9] at A9 D9 st9
      have g_b9 : n0 ≤ b9 := Nat.le_trans Z0 (Nat.le_of_eq g9.symm)
      have sz_b9 : h0.size ≤ b9 := Nat.le_trans ((Keep.refl h0 [])).1 (Nat.le_of_eq g9.symm)
      have K9 : Keep h0 h9 [] := ((Keep.refl h0 [])).ext E9
      have F_value_b9 : Fld Z h9 b9 "java/lang/Integer" "value" "I" (.int (0 : Int32)) := D9 (Or.inr (hw _ (List.mem_of_getElem? (i := 51) rfl))) (ty := .int) (by decide)
      obtain ⟨_, _, ⟨T10, L10, k10, n10⟩, -, X10, ⟨Lc10, hQ10, l10, y10, z10⟩, st10⟩ := X9.specialBack hx (y := (⟨"java/lang/Integer", "<init>", "(I)V"⟩ : MethodName)) rfl hown (mvT hZ (hw _ (List.mem_of_getElem? (i := 39) rfl))) (mvT hZ (hw _ (List.mem_of_getElem? (i := 40) rfl))) (mvT hZ (hw _ (List.mem_of_getElem? (i := 42) rfl))) (by decide) (backOf (W := 1) (rmIn l Z a0 hw [] b9 p1 h9 n0 (Nat.le_trans Z0 E9.1) A9 F_value_b9 g_b9) hZ (hw _ (List.mem_of_getElem? (i := 42) rfl)) (hw _ (List.mem_of_getElem? (i := 29) rfl)) (by decide) (by decide)) (g := (mkF m 28 #[.val (.int p1)] [(.int p1), (.ref b9), (.ref b9)])) rfl (by rw [hml]; rfl) (Steps.refl _) (a := b9) (argsL := [(.int p1)]) (rest := [(.ref b9)]) (lenOf pd_rmVO_0 rfl) rfl (by show 2 * 0 + _ ≤ _; exact Nat.le_of_eq rfl) (hb hby d4_28) (fun _ _ => ⟨rfl, e9, (by decide : 1 + 0 ≤ _), (by decide : 1 + 0 ≤ _)⟩)
      dsimp only [Pt.U, Pt.locs, Pt.cells, Pt.slots] at X10 l10 y10 z10 st10 hQ10
      subst l10 y10 z10
      obtain ⟨rfl, N10q, K10, Ei10⟩ := hQ10
      have N10 := Fr.app N0 N10q
      have KK10 : Keep h0 T10.heap [] := (K9).trans K10 (allS (Or.inr sz_b9) all0)
      have pre11 : ∀ tt, Steps p.tables e below (T10.setTop (mkF m 31 #[.val (.int p1)] [(.ref b9)])) tt → Steps p.tables e below (s₁.setTop (entryFrame m #[(.int p1)] 1)) tt := by
        intro tt kt
        refine pre7 tt ?_
        show Steps p.tables e below (T6.setTop (mkF m 10 #[.val (.int p1)] [(.int (127 : Int32)), (.int p1)])) _
        refine XS.icmpYes X6.here hx rfl (pc0 := 10) (pc' := 23) rfl (hb hby d4_10) rfl (tlt c10_8).2.2.1 (by decide) (by decide) ?_
        show Steps p.tables e below (T6.setTop (mkF m 23 #[.val (.int p1)] [])) _
        refine st9 _ ?_
        show Steps p.tables e below (T9.setTop (mkF m 26 #[.val (.int p1)] [(.ref b9)])) _
        refine XS.dup X9.here hx rfl (hb hby d4_26) rfl rfl ?_
        show Steps p.tables e below (T9.setTop (mkF m 27 #[.val (.int p1)] [(.ref b9), (.ref b9)])) _
        refine XS.iloadN X9.here hx rfl (hb hby d4_27) rfl ?_
        show Steps p.tables e below (T9.setTop (mkF m 28 #[.val (.int p1)] [(.int p1), (.ref b9), (.ref b9)])) _
        refine st10.trans ?_
        exact kt
      obtain ⟨fs, hr, hrun, hended, hW, hsame⟩ := X10.leave (v := some (.ref b9)) (fun h => by rw [Bd.returns] at h; cases h)
      refine ⟨_, _, pre11 _ ?_, hrun, hended, _, _, rfl, ?_, ⟨_, rfl⟩, hW, hsame.mono (by decide) (by decide)⟩
      · show Steps p.tables e below (T10.setTop (mkF m 31 #[.val (.int p1)] [(.ref b9)])) _
        jvm_step X10.here [X10.here.top, hx, (hb hby d4_31), X10.method', Bd.returns, Value.isRef, FieldType.isReference]
        first | (intro acts; rw [hr _ acts rfl rfl rfl]) | rw [hr _ _ rfl rfl rfl]
        exact Steps.refl _
      · show QB Z "java/lang/Integer" h0 n0 _ T10.heap _
        exact ⟨_, rfl, N10, KK10, Ei10⟩
    · obtain ⟨T12, X12, e12, st12⟩ := getS2 X6 hx hZ hown (host := "") (Or.inl (hw _ (List.mem_of_getElem? (i := 33) rfl))) Via.refl e6 S_cache (g := (mkF m 13 #[.val (.int p1)] [])) rfl (hb hby d4_13)
      obtain ⟨cl13, Ar13, S13, H13⟩ := I_C
      have hin13 := own_ix128 S13 c3_2 c10_8
      obtain ⟨b13, hat13, Eb13⟩ := H13 _ hin13
      have pre14 : ∀ tt, Steps p.tables e below (T12.setTop (mkF m 22 #[.val (.int p1)] [(.ref b13)])) tt → Steps p.tables e below (s₁.setTop (entryFrame m #[(.int p1)] 1)) tt := by
        intro tt kt
        refine pre7 tt ?_
        show Steps p.tables e below (T6.setTop (mkF m 10 #[.val (.int p1)] [(.int (127 : Int32)), (.int p1)])) _
        refine XS.icmpNo X6.here hx rfl (hb hby d4_10) rfl (flt c10_8).2.2.1 ?_
        show Steps p.tables e below (T6.setTop (mkF m 13 #[.val (.int p1)] [])) _
        refine st12 _ ?_
        show Steps p.tables e below (T12.setTop (mkF m 16 #[.val (.int p1)] [(.ref wC)])) _
        refine XS.iloadN X12.here hx rfl (hb hby d4_16) rfl ?_
        show Steps p.tables e below (T12.setTop (mkF m 17 #[.val (.int p1)] [(.int p1), (.ref wC)])) _
        refine XS.sipush X12.here hx rfl (hb hby d4_17) ?_
        show Steps p.tables e below (T12.setTop (mkF m 20 #[.val (.int p1)] [(.int (128 : Int32)), (.int p1), (.ref wC)])) _
        refine XS.iadd X12.here hx rfl (hb hby d4_20) rfl ?_
        show Steps p.tables e below (T12.setTop (mkF m 21 #[.val (.int p1)] [(.int (p1 + (128 : Int32))), (.ref wC)])) _
        refine X12.aaload hx (j := (p1 + (128 : Int32))) (v := .ref b13) (by rw [e12]; exact Ar13.1) (State.isArrayOf_alike hZ.alike Ar13.2.1) rfl Ar13.2.2 hin13 hat13 (g := (mkF m 21 #[.val (.int p1)] [(.int (p1 + (128 : Int32))), (.ref wC)])) rfl rfl (hb hby d4_21) _ ?_
        exact kt
      obtain ⟨fs, hr, hrun, hended, hW, hsame⟩ := X12.leave (v := some (.ref b13)) (fun h => by rw [Bd.returns] at h; cases h)
      refine ⟨_, _, pre14 _ ?_, hrun, hended, _, _, rfl, ?_, ⟨_, rfl⟩, hW, hsame.mono (by decide) (by decide)⟩
      · show Steps p.tables e below (T12.setTop (mkF m 22 #[.val (.int p1)] [(.ref b13)])) _
        jvm_step X12.here [X12.here.top, hx, (hb hby d4_22), X12.method', Bd.returns, Value.isRef, FieldType.isReference]
        first | (intro acts; rw [hr _ acts rfl rfl rfl]) | rw [hr _ _ rfl rfl rfl]
        exact Steps.refl _
      · show QB Z "java/lang/Integer" h0 n0 _ T12.heap _
        rw [e12]
        exact ⟨_, rfl, N0, (Keep.refl h0 []), Eb13⟩
def QC (Z : State) (a1 : Addr) (x1 : Int64) (x2 : Int32) (x3 x4 : Int64) (x5 : Int32) (h0 : Heap) (n0 : Nat) (v : Option Value) (h : Heap) (L : List Loc) : Prop := v = none ∧ Fr n0 L ∧ Keep h0 h [a1] ∧ Exa Z h a1 "com/example/keyturn/keyturn/format/EndOfCentralDirectory" ∧ Fld Z h a1 "com/example/keyturn/keyturn/format/EndOfCentralDirectory" "offset" "J" (.long x1) ∧ Fld Z h a1 "com/example/keyturn/keyturn/format/EndOfCentralDirectory" "commentLength" "I" (.int x2) ∧ Fld Z h a1 "com/example/keyturn/keyturn/format/EndOfCentralDirectory" "centralDirectoryOffset" "J" (.long x3) ∧ Fld Z h a1 "com/example/keyturn/keyturn/format/EndOfCentralDirectory" "centralDirectorySize" "J" (.long x4) ∧ Fld Z h a1 "com/example/keyturn/keyturn/format/EndOfCentralDirectory" "entryCount" "I" (.int x5)
theorem d1_0 : decode prog_18_method_1_code 0 = .ok (.aload_n 0, 1) := by decide +kernel
theorem d1_1 : decode prog_18_method_1_code 1 = .ok (.invokespecial 1, 3) := by decide +kernel
theorem d1_4 : decode prog_18_method_1_code 4 = .ok (.aload_n 0, 1) := by decide +kernel
theorem d1_5 : decode prog_18_method_1_code 5 = .ok (.lload_n 1, 1) := by decide +kernel
theorem d1_6 : decode prog_18_method_1_code 6 = .ok (.putfield 7, 3) := by decide +kernel
theorem d1_9 : decode prog_18_method_1_code 9 = .ok (.aload_n 0, 1) := by decide +kernel
theorem d1_10 : decode prog_18_method_1_code 10 = .ok (.iload_n 3, 1) := by decide +kernel
theorem d1_11 : decode prog_18_method_1_code 11 = .ok (.putfield 13, 3) := by decide +kernel
theorem d1_14 : decode prog_18_method_1_code 14 = .ok (.aload_n 0, 1) := by decide +kernel
theorem d1_15 : decode prog_18_method_1_code 15 = .ok (.lload 4, 2) := by decide +kernel
theorem d1_17 : decode prog_18_method_1_code 17 = .ok (.putfield 17, 3) := by decide +kernel
theorem d1_20 : decode prog_18_method_1_code 20 = .ok (.aload_n 0, 1) := by decide +kernel
theorem d1_21 : decode prog_18_method_1_code 21 = .ok (.lload 6, 2) := by decide +kernel
theorem d1_23 : decode prog_18_method_1_code 23 = .ok (.putfield 20, 3) := by decide +kernel
theorem d1_26 : decode prog_18_method_1_code 26 = .ok (.aload_n 0, 1) := by decide +kernel
theorem d1_27 : decode prog_18_method_1_code 27 = .ok (.iload 8, 2) := by decide +kernel
theorem d1_29 : decode prog_18_method_1_code 29 = .ok (.putfield 23, 3) := by decide +kernel
theorem d1_32 : decode prog_18_method_1_code 32 = .ok (.return_, 1) := by decide +kernel
theorem pn_rmC : plainName "com/example/keyturn/keyturn/format/EndOfCentralDirectory" = true := by first | (simp [plainName, overriddenIn]; done) | decide +kernel
theorem ef_rmC (m : MethodId) (a1 : Addr) (x1 : Int64) (x2 : Int32) (x3 : Int64) (x4 : Int64) (x5 : Int32) : entryFrame m #[(.ref a1), (.long x1), (.int x2), (.long x3), (.long x4), (.int x5)] 9 = mkF m 0 #[.val (.ref a1), .val (.long x1), .second, .val (.int x2), .val (.long x3), .second, .val (.long x4), .second, .val (.int x5)] [] := by first | (simp [entryFrame, mkF, argsToLocals, Value.category]; done) | rfl
set_option maxRecDepth 65536 in
set_option maxHeartbeats 40000000 in
theorem rmC (l : Launch) (Z : State) (a0 : Array Value) (hw : ∀ d ∈ tables_1, d.before a0 Z = true) (ws : List Jvm.Cond) (a1 : Addr) (x1 : Int64) (x2 : Int32) (x3 x4 : Int64) (x5 : Int32) (h0 : Heap) (n0 : Nat) (Z0 : n0 ≤ h0.size) (E_a1 : Exa Z h0 a1 "com/example/keyturn/keyturn/format/EndOfCentralDirectory") (F0 : Fld Z h0 a1 "com/example/keyturn/keyturn/format/EndOfCentralDirectory" "offset" "J" (.long (0 : Int64))) (F1 : Fld Z h0 a1 "com/example/keyturn/keyturn/format/EndOfCentralDirectory" "commentLength" "I" (.int (0 : Int32))) (F2 : Fld Z h0 a1 "com/example/keyturn/keyturn/format/EndOfCentralDirectory" "centralDirectoryOffset" "J" (.long (0 : Int64))) (F3 : Fld Z h0 a1 "com/example/keyturn/keyturn/format/EndOfCentralDirectory" "centralDirectorySize" "J" (.long (0 : Int64))) (F4 : Fld Z h0 a1 "com/example/keyturn/keyturn/format/EndOfCentralDirectory" "entryCount" "I" (.int (0 : Int32))) (g_a1 : n0 ≤ a1) :
    MetFree l (⟨"com/example/keyturn/keyturn/format/EndOfCentralDirectory", "<init>", "(JIJJI)V"⟩ : MethodName) (head1 (Jvm.Cond.code (⟨"com/example/keyturn/keyturn/format/EndOfCentralDirectory", "<init>", "(JIJJI)V"⟩ : MethodName) prog_18_method_1_code 9 none :: ws) ({ frames := 1, cells := 0, slots := 0, locals := 12 } : Room)) (fun a U => a = #[(.ref a1), (.long x1), (.int x2), (.long x3), (.long x4), (.int x5)] ∧ Z.Warmed39 U.vm ∧ U.heap = h0) (fun _ _ _ _ _ => True) (fun _ U o U' => ∃ v L, o = .returned v ∧ QC Z a1 x1 x2 x3 x4 x5 h0 n0 v U'.heap L ∧ FrameEnd U o U' L ({ frames := 1, cells := 0, slots := 0, locals := 12 } : Room).cells ({ frames := 1, cells := 0, slots := 0, locals := 12 } : Room).slots) := by
  refine MetFree.of_bodySF (plainFor_of_name pn_rmC) hisR ?_
  intro p e s m args below meth c s₁ Bd hml0 hP hK
  obtain ⟨rfl, hZ, hh⟩ := hP
  have hx := Bd.exec
  have hby := Bd.bytes
  have hml : c.maxLocals = 9 := hml0
  have hown : s.vm.findClass "com/example/keyturn/keyturn/format/EndOfCentralDirectory" = some m.cls := findClass_of_methodNamed Bd.named
  have hnm := (name_of_methodNamed Bd.named Bd.method).1
  have X0 : Stand p l e ({ frames := 1, cells := 0, slots := 0, locals := 12 } : Room) s m #[(.ref a1), (.long x1), (.int x2), (.long x3), (.long x4), (.int x5)] below meth c s₁ [] 0 0 := Stand.of_body Bd
  have e0 : s₁.heap = h0 := by rw [← hh, Bd.state]; rfl
  have N0 := Fr.nil n0
  have pre0 : ∀ tt, Steps p.tables e below (s₁.setTop (mkF m 0 #[.val (.ref a1), .val (.long x1), .second, .val (.int x2), .val (.long x3), .second, .val (.long x4), .second, .val (.int x5)] [])) tt → Steps p.tables e below (s₁.setTop (entryFrame m #[(.ref a1), (.long x1), (.int x2), (.long x3), (.long x4), (.int x5)] 9)) tt := fun tt kt => castTop (ef_rmC m a1 x1 x2 x3 x4 x5) kt
  obtain ⟨T1, X1, e1, st1⟩ := initO X0 hx hZ hown (hw _ (List.mem_of_getElem? (i := 7) rfl)) (hw _ (List.mem_of_getElem? (i := 8) rfl)) (hw _ (List.mem_of_getElem? (i := 9) rfl)) e0 (g := (mkF m 1 #[.val (.ref a1), .val (.long x1), .second, .val (.int x2), .val (.long x3), .second, .val (.long x4), .second, .val (.int x5)] [(.ref a1)])) rfl (by rw [hml]; rfl) rfl (hb hby d1_1) (by decide) (W := 0) (by show 2 * 0 + _ ≤ _; exact Nat.le_of_eq rfl) (by decide)
  obtain ⟨T2, h2, X2, e2, W2, st2⟩ := putF X1 hx hZ hown (host := "") (Or.inl (hw _ (List.mem_of_getElem? (i := 10) rfl))) Via.refl e1 F0 E_a1 (Or.inr ⟨(hw _ (List.mem_of_getElem? (i := 11) rfl)), rfl, hnm⟩) (hw _ (List.mem_of_getElem? (i := 2) rfl)) (ty := .long) (by decide) rfl rfl (g := (mkF m 6 #[.val (.ref a1), .val (.long x1), .second, .val (.int x2), .val (.long x3), .second, .val (.long x4), .second, .val (.int x5)] [(.long x1), (.ref a1)])) rfl rfl (hb hby d1_6)
  have Fw2 := Fld.same W2 F0
  have N2 := Fr.snoc X2 N0 g_a1
  have K2 : Keep h0 h2 [a1] := ((Keep.refl h0 [a1])).wr W2 (Or.inl (List.mem_of_getElem? (i := 0) rfl))
  obtain ⟨T3, h3, X3, e3, W3, st3⟩ := putF X2 hx hZ hown (host := "") (Or.inl (hw _ (List.mem_of_getElem? (i := 12) rfl))) Via.refl e2 (Fld.other W2 F1 (Or.inr (slot_ne (Or.inr (hw _ (List.mem_of_getElem? (i := 13) rfl))) (Or.inr (hw _ (List.mem_of_getElem? (i := 11) rfl))) (by decide) (t := .int) (t' := .long) (by decide) (by decide)))) (Exa.wr W2 E_a1) (Or.inr ⟨(hw _ (List.mem_of_getElem? (i := 13) rfl)), rfl, hnm⟩) (hw _ (List.mem_of_getElem? (i := 2) rfl)) (ty := .int) (by decide) rfl rfl (g := (mkF m 11 #[.val (.ref a1), .val (.long x1), .second, .val (.int x2), .val (.long x3), .second, .val (.long x4), .second, .val (.int x5)] [(.int x2), (.ref a1)])) rfl rfl (hb hby d1_11)
  have Fw3 := Fld.same W3 (Fld.other W2 F1 (Or.inr (slot_ne (Or.inr (hw _ (List.mem_of_getElem? (i := 13) rfl))) (Or.inr (hw _ (List.mem_of_getElem? (i := 11) rfl))) (by decide) (t := .int) (t' := .long) (by decide) (by decide))))
  have N3 := Fr.snoc X3 N2 g_a1
  have K3 : Keep h0 h3 [a1] := (K2).wr W3 (Or.inl (List.mem_of_getElem? (i := 0) rfl))
  obtain ⟨T4, h4, X4, e4, W4, st4⟩ := putF X3 hx hZ hown (host := "") (Or.inl (hw _ (List.mem_of_getElem? (i := 14) rfl))) Via.refl e3 (Fld.other W3 (Fld.other W2 F2 (Or.inr (slot_ne (Or.inr (hw _ (List.mem_of_getElem? (i := 15) rfl))) (Or.inr (hw _ (List.mem_of_getElem? (i := 11) rfl))) (by decide) (t := .long) (t' := .long) (by decide) (by decide)))) (Or.inr (slot_ne (Or.inr (hw _ (List.mem_of_getElem? (i := 15) rfl))) (Or.inr (hw _ (List.mem_of_getElem? (i := 13) rfl))) (by decide) (t := .long) (t' := .int) (by decide) (by decide)))) (Exa.wr W3 (Exa.wr W2 E_a1)) (Or.inr ⟨(hw _ (List.mem_of_getElem? (i := 15) rfl)), rfl, hnm⟩) (hw _ (List.mem_of_getElem? (i := 2) rfl)) (ty := .long) (by decide) rfl rfl (g := (mkF m 17 #[.val (.ref a1), .val (.long x1), .second, .val (.int x2), .val (.long x3), .second, .val (.long x4), .second, .val (.int x5)] [(.long x3), (.ref a1)])) rfl rfl (hb hby d1_17)
  have Fw4 := Fld.same W4 (Fld.other W3 (Fld.other W2 F2 (Or.inr (slot_ne (Or.inr (hw _ (List.mem_of_getElem? (i := 15) rfl))) (Or.inr (hw _ (List.mem_of_getElem? (i := 11) rfl))) (by decide) (t := .long) (t' := .long) (by decide) (by decide)))) (Or.inr (slot_ne (Or.inr (hw _ (List.mem_of_getElem? (i := 15) rfl))) (Or.inr (hw _ (List.mem_of_getElem? (i := 13) rfl))) (by decide) (t := .long) (t' := .int) (by decide) (by decide))))
  have N4 := Fr.snoc X4 N3 g_a1
  have K4 : Keep h0 h4 [a1] := (K3).wr W4 (Or.inl (List.mem_of_getElem? (i := 0) rfl))
  obtain ⟨T5, h5, X5, e5, W5, st5⟩ := putF X4 hx hZ hown (host := "") (Or.inl (hw _ (List.mem_of_getElem? (i := 16) rfl))) Via.refl e4 (Fld.other W4 (Fld.other W3 (Fld.other W2 F3 (Or.inr (slot_ne (Or.inr (hw _ (List.mem_of_getElem? (i := 17) rfl))) (Or.inr (hw _ (List.mem_of_getElem? (i := 11) rfl))) (by decide) (t := .long) (t' := .long) (by decide) (by decide)))) (Or.inr (slot_ne (Or.inr (hw _ (List.mem_of_getElem? (i := 17) rfl))) (Or.inr (hw _ (List.mem_of_getElem? (i := 13) rfl))) (by decide) (t := .long) (t' := .int) (by decide) (by decide)))) (Or.inr (slot_ne (Or.inr (hw _ (List.mem_of_getElem? (i := 17) rfl))) (Or.inr (hw _ (List.mem_of_getElem? (i := 15) rfl))) (by decide) (t := .long) (t' := .long) (by decide) (by decide)))) (Exa.wr W4 (Exa.wr W3 (Exa.wr W2 E_a1))) (Or.inr ⟨(hw _ (List.mem_of_getElem? (i := 17) rfl)), rfl, hnm⟩) (hw _ (List.mem_of_getElem? (i := 2) rfl)) (ty := .long) (by decide) rfl rfl (g := (mkF m 23 #[.val (.ref a1), .val (.long x1), .second, .val (.int x2), .val (.long x3), .second, .val (.long x4), .second, .val (.int x5)] [(.long x4), (.ref a1)])) rfl rfl (hb hby d1_23)
  have Fw5 := Fld.same W5 (Fld.other W4 (Fld.other W3 (Fld.other W2 F3 (Or.inr (slot_ne (Or.inr (hw _ (List.mem_of_getElem? (i := 17) rfl))) (Or.inr (hw _ (List.mem_of_getElem? (i := 11) rfl))) (by decide) (t := .long) (t' := .long) (by decide) (by decide)))) (Or.inr (slot_ne (Or.inr (hw _ (List.mem_of_getElem? (i := 17) rfl))) (Or.inr (hw _ (List.mem_of_getElem? (i := 13) rfl))) (by decide) (t := .long) (t' := .int) (by decide) (by decide)))) (Or.inr (slot_ne (Or.inr (hw _ (List.mem_of_getElem? (i := 17) rfl))) (Or.inr (hw _ (List.mem_of_getElem? (i := 15) rfl))) (by decide) (t := .long) (t' := .long) (by decide) (by decide))))
  have N5 := Fr.snoc X5 N4 g_a1
  have K5 : Keep h0 h5 [a1] := (K4).wr W5 (Or.inl (List.mem_of_getElem? (i := 0) rfl))
  obtain ⟨T6, h6, X6, e6, W6, st6⟩ := putF X5 hx hZ hown (host := "") (Or.inl (hw _ (List.mem_of_getElem? (i := 18) rfl))) Via.refl e5 (Fld.other W5 (Fld.other W4 (Fld.other W3 (Fld.other W2 F4 (Or.inr (slot_ne (Or.inr (hw _ (List.mem_of_getElem? (i := 19) rfl))) (Or.inr (hw _ (List.mem_of_getElem? (i := 11) rfl))) (by decide) (t := .int) (t' := .long) (by decide) (by decide)))) (Or.inr (slot_ne (Or.inr (hw _ (List.mem_of_getElem? (i := 19) rfl))) (Or.inr (hw _ (List.mem_of_getElem? (i := 13) rfl))) (by decide) (t := .int) (t' := .int) (by decide) (by decide)))) (Or.inr (slot_ne (Or.inr (hw _ (List.mem_of_getElem? (i := 19) rfl))) (Or.inr (hw _ (List.mem_of_getElem? (i := 15) rfl))) (by decide) (t := .int) (t' := .long) (by decide) (by decide)))) (Or.inr (slot_ne (Or.inr (hw _ (List.mem_of_getElem? (i := 19) rfl))) (Or.inr (hw _ (List.mem_of_getElem? (i := 17) rfl))) (by decide) (t := .int) (t' := .long) (by decide) (by decide)))) (Exa.wr W5 (Exa.wr W4 (Exa.wr W3 (Exa.wr W2 E_a1)))) (Or.inr ⟨(hw _ (List.mem_of_getElem? (i := 19) rfl)), rfl, hnm⟩) (hw _ (List.mem_of_getElem? (i := 2) rfl)) (ty := .int) (by decide) rfl rfl (g := (mkF m 29 #[.val (.ref a1), .val (.long x1), .second, .val (.int x2), .val (.long x3), .second, .val (.long x4), .second, .val (.int x5)] [(.int x5), (.ref a1)])) rfl rfl (hb hby d1_29)
  have Fw6 := Fld.same W6 (Fld.other W5 (Fld.other W4 (Fld.other W3 (Fld.other W2 F4 (Or.inr (slot_ne (Or.inr (hw _ (List.mem_of_getElem? (i := 19) rfl))) (Or.inr (hw _ (List.mem_of_getElem? (i := 11) rfl))) (by decide) (t := .int) (t' := .long) (by decide) (by decide)))) (Or.inr (slot_ne (Or.inr (hw _ (List.mem_of_getElem? (i := 19) rfl))) (Or.inr (hw _ (List.mem_of_getElem? (i := 13) rfl))) (by decide) (t := .int) (t' := .int) (by decide) (by decide)))) (Or.inr (slot_ne (Or.inr (hw _ (List.mem_of_getElem? (i := 19) rfl))) (Or.inr (hw _ (List.mem_of_getElem? (i := 15) rfl))) (by decide) (t := .int) (t' := .long) (by decide) (by decide)))) (Or.inr (slot_ne (Or.inr (hw _ (List.mem_of_getElem? (i := 19) rfl))) (Or.inr (hw _ (List.mem_of_getElem? (i := 17) rfl))) (by decide) (t := .int) (t' := .long) (by decide) (by decide))))
  have N6 := Fr.snoc X6 N5 g_a1
  have K6 : Keep h0 h6 [a1] := (K5).wr W6 (Or.inl (List.mem_of_getElem? (i := 0) rfl))
  have pre7 : ∀ tt, Steps p.tables e below (T6.setTop (mkF m 32 #[.val (.ref a1), .val (.long x1), .second, .val (.int x2), .val (.long x3), .second, .val (.long x4), .second, .val (.int x5)] [])) tt → Steps p.tables e below (s₁.setTop (entryFrame m #[(.ref a1), (.long x1), (.int x2), (.long x3), (.long x4), (.int x5)] 9)) tt := by
    intro tt kt
    refine pre0 tt ?_
    show Steps p.tables e below (s₁.setTop (mkF m 0 #[.val (.ref a1), .val (.long x1), .second, .val (.int x2), .val (.long x3), .second, .val (.long x4), .second, .val (.int x5)] [])) _
    refine XS.aloadN X0.here hx rfl (hb hby d1_0) rfl rfl ?_
    show Steps p.tables e below (s₁.setTop (mkF m 1 #[.val (.ref a1), .val (.long x1), .second, .val (.int x2), .val (.long x3), .second, .val (.long x4), .second, .val (.int x5)] [(.ref a1)])) _
    refine st1 _ ?_
    show Steps p.tables e below (T1.setTop (mkF m 4 #[.val (.ref a1), .val (.long x1), .second, .val (.int x2), .val (.long x3), .second, .val (.long x4), .second, .val (.int x5)] [])) _
    refine XS.aloadN X1.here hx rfl (hb hby d1_4) rfl rfl ?_
    show Steps p.tables e below (T1.setTop (mkF m 5 #[.val (.ref a1), .val (.long x1), .second, .val (.int x2), .val (.long x3), .second, .val (.long x4), .second, .val (.int x5)] [(.ref a1)])) _
    refine XS.lloadN X1.here hx rfl (hb hby d1_5) rfl ?_
    show Steps p.tables e below (T1.setTop (mkF m 6 #[.val (.ref a1), .val (.long x1), .second, .val (.int x2), .val (.long x3), .second, .val (.long x4), .second, .val (.int x5)] [(.long x1), (.ref a1)])) _
    refine st2 _ ?_
    show Steps p.tables e below (T2.setTop (mkF m 9 #[.val (.ref a1), .val (.long x1), .second, .val (.int x2), .val (.long x3), .second, .val (.long x4), .second, .val (.int x5)] [])) _
    refine XS.aloadN X2.here hx rfl (hb hby d1_9) rfl rfl ?_
    show Steps p.tables e below (T2.setTop (mkF m 10 #[.val (.ref a1), .val (.long x1), .second, .val (.int x2), .val (.long x3), .second, .val (.long x4), .second, .val (.int x5)] [(.ref a1)])) _
    refine XS.iloadN X2.here hx rfl (hb hby d1_10) rfl ?_
    show Steps p.tables e below (T2.setTop (mkF m 11 #[.val (.ref a1), .val (.long x1), .second, .val (.int x2), .val (.long x3), .second, .val (.long x4), .second, .val (.int x5)] [(.int x2), (.ref a1)])) _
    refine st3 _ ?_
    show Steps p.tables e below (T3.setTop (mkF m 14 #[.val (.ref a1), .val (.long x1), .second, .val (.int x2), .val (.long x3), .second, .val (.long x4), .second, .val (.int x5)] [])) _
    refine XS.aloadN X3.here hx rfl (hb hby d1_14) rfl rfl ?_
    show Steps p.tables e below (T3.setTop (mkF m 15 #[.val (.ref a1), .val (.long x1), .second, .val (.int x2), .val (.long x3), .second, .val (.long x4), .second, .val (.int x5)] [(.ref a1)])) _
    refine XS.lload X3.here hx rfl (hb hby d1_15) rfl ?_
    show Steps p.tables e below (T3.setTop (mkF m 17 #[.val (.ref a1), .val (.long x1), .second, .val (.int x2), .val (.long x3), .second, .val (.long x4), .second, .val (.int x5)] [(.long x3), (.ref a1)])) _
    refine st4 _ ?_
    show Steps p.tables e below (T4.setTop (mkF m 20 #[.val (.ref a1), .val (.long x1), .second, .val (.int x2), .val (.long x3), .second, .val (.long x4), .second, .val (.int x5)] [])) _
    refine XS.aloadN X4.here hx rfl (hb hby d1_20) rfl rfl ?_
    show Steps p.tables e below (T4.setTop (mkF m 21 #[.val (.ref a1), .val (.long x1), .second, .val (.int x2), .val (.long x3), .second, .val (.long x4), .second, .val (.int x5)] [(.ref a1)])) _
    refine XS.lload X4.here hx rfl (hb hby d1_21) rfl ?_
    show Steps p.tables e below (T4.setTop (mkF m 23 #[.val (.ref a1), .val (.long x1), .second, .val (.int x2), .val (.long x3), .second, .val (.long x4), .second, .val (.int x5)] [(.long x4), (.ref a1)])) _
    refine st5 _ ?_
    show Steps p.tables e below (T5.setTop (mkF m 26 #[.val (.ref a1), .val (.long x1), .second, .val (.int x2), .val (.long x3), .second, .val (.long x4), .second, .val (.int x5)] [])) _
    refine XS.aloadN X5.here hx rfl (hb hby d1_26) rfl rfl ?_
    show Steps p.tables e below (T5.setTop (mkF m 27 #[.val (.ref a1), .val (.long x1), .second, .val (.int x2), .val (.long x3), .second, .val (.long x4), .second, .val (.int x5)] [(.ref a1)])) _
    refine XS.iload X5.here hx rfl (hb hby d1_27) rfl ?_
    show Steps p.tables e below (T5.setTop (mkF m 29 #[.val (.ref a1), .val (.long x1), .second, .val (.int x2), .val (.long x3), .second, .val (.long x4), .second, .val (.int x5)] [(.int x5), (.ref a1)])) _
    refine st6 _ ?_
    exact kt
  obtain ⟨fs, hr, hrun, hended, hW, hsame⟩ := X6.leave (v := none) (fun _ => rfl)
  refine ⟨_, _, pre7 _ ?_, hrun, hended, _, _, rfl, ?_, ⟨_, rfl⟩, hW, hsame.mono (by decide) (by decide)⟩
  · show Steps p.tables e below (T6.setTop (mkF m 32 #[.val (.ref a1), .val (.long x1), .second, .val (.int x2), .val (.long x3), .second, .val (.long x4), .second, .val (.int x5)] [])) _
    exact X6.returnOut hx Bd.returns (hb hby d1_32) hr
  · show QC Z a1 x1 x2 x3 x4 x5 h0 n0 _ T6.heap _
    rw [e6]
    exact ⟨rfl, N6, K6, (Exa.wr W6 (Exa.wr W5 (Exa.wr W4 (Exa.wr W3 (Exa.wr W2 E_a1))))), (Fld.other W6 (Fld.other W5 (Fld.other W4 (Fld.other W3 Fw2 (Or.inr (slot_ne (Or.inr (hw _ (List.mem_of_getElem? (i := 11) rfl))) (Or.inr (hw _ (List.mem_of_getElem? (i := 13) rfl))) (by decide) (t := .long) (t' := .int) (by decide) (by decide)))) (Or.inr (slot_ne (Or.inr (hw _ (List.mem_of_getElem? (i := 11) rfl))) (Or.inr (hw _ (List.mem_of_getElem? (i := 15) rfl))) (by decide) (t := .long) (t' := .long) (by decide) (by decide)))) (Or.inr (slot_ne (Or.inr (hw _ (List.mem_of_getElem? (i := 11) rfl))) (Or.inr (hw _ (List.mem_of_getElem? (i := 17) rfl))) (by decide) (t := .long) (t' := .long) (by decide) (by decide)))) (Or.inr (slot_ne (Or.inr (hw _ (List.mem_of_getElem? (i := 11) rfl))) (Or.inr (hw _ (List.mem_of_getElem? (i := 19) rfl))) (by decide) (t := .long) (t' := .int) (by decide) (by decide)))), (Fld.other W6 (Fld.other W5 (Fld.other W4 Fw3 (Or.inr (slot_ne (Or.inr (hw _ (List.mem_of_getElem? (i := 13) rfl))) (Or.inr (hw _ (List.mem_of_getElem? (i := 15) rfl))) (by decide) (t := .int) (t' := .long) (by decide) (by decide)))) (Or.inr (slot_ne (Or.inr (hw _ (List.mem_of_getElem? (i := 13) rfl))) (Or.inr (hw _ (List.mem_of_getElem? (i := 17) rfl))) (by decide) (t := .int) (t' := .long) (by decide) (by decide)))) (Or.inr (slot_ne (Or.inr (hw _ (List.mem_of_getElem? (i := 13) rfl))) (Or.inr (hw _ (List.mem_of_getElem? (i := 19) rfl))) (by decide) (t := .int) (t' := .int) (by decide) (by decide)))), (Fld.other W6 (Fld.other W5 Fw4 (Or.inr (slot_ne (Or.inr (hw _ (List.mem_of_getElem? (i := 15) rfl))) (Or.inr (hw _ (List.mem_of_getElem? (i := 17) rfl))) (by decide) (t := .long) (t' := .long) (by decide) (by decide)))) (Or.inr (slot_ne (Or.inr (hw _ (List.mem_of_getElem? (i := 15) rfl))) (Or.inr (hw _ (List.mem_of_getElem? (i := 19) rfl))) (by decide) (t := .long) (t' := .int) (by decide) (by decide)))), (Fld.other W6 Fw5 (Or.inr (slot_ne (Or.inr (hw _ (List.mem_of_getElem? (i := 17) rfl))) (Or.inr (hw _ (List.mem_of_getElem? (i := 19) rfl))) (by decide) (t := .long) (t' := .int) (by decide) (by decide)))), Fw6⟩
theorem own_lw {x y : Int64} : (lcmpW x y = (0 : Int32)) ↔ x = y := lw_eq x y
theorem d3_0 : decode prog_18_method_12_code 0 = .ok (.aload_n 1, 1) := by decide +kernel
theorem d3_1 : decode prog_18_method_12_code 1 = .ok (.instanceof 8, 3) := by decide +kernel
theorem d3_4 : decode prog_18_method_12_code 4 = .ok (.ifCond .eq 11, 3) := by decide +kernel
theorem d3_7 : decode prog_18_method_12_code 7 = .ok (.aload_n 1, 1) := by decide +kernel
theorem d3_8 : decode prog_18_method_12_code 8 = .ok (.checkcast 8, 3) := by decide +kernel
theorem d3_11 : decode prog_18_method_12_code 11 = .ok (.astore_n 2, 1) := by decide +kernel
theorem d3_12 : decode prog_18_method_12_code 12 = .ok (.goto 5, 3) := by decide +kernel
theorem d3_17 : decode prog_18_method_12_code 17 = .ok (.aload_n 0, 1) := by decide +kernel
theorem d3_18 : decode prog_18_method_12_code 18 = .ok (.getfield 7, 3) := by decide +kernel
theorem d3_21 : decode prog_18_method_12_code 21 = .ok (.aload_n 2, 1) := by decide +kernel
theorem d3_22 : decode prog_18_method_12_code 22 = .ok (.getfield 7, 3) := by decide +kernel
theorem d3_25 : decode prog_18_method_12_code 25 = .ok (.lcmp, 1) := by decide +kernel
theorem d3_26 : decode prog_18_method_12_code 26 = .ok (.ifCond .ne 53, 3) := by decide +kernel
theorem d3_29 : decode prog_18_method_12_code 29 = .ok (.aload_n 0, 1) := by decide +kernel
theorem d3_30 : decode prog_18_method_12_code 30 = .ok (.getfield 13, 3) := by decide +kernel
theorem d3_33 : decode prog_18_method_12_code 33 = .ok (.aload_n 2, 1) := by decide +kernel
theorem d3_34 : decode prog_18_method_12_code 34 = .ok (.getfield 13, 3) := by decide +kernel
theorem d3_37 : decode prog_18_method_12_code 37 = .ok (.if_icmp .ne 42, 3) := by decide +kernel
theorem d3_40 : decode prog_18_method_12_code 40 = .ok (.aload_n 0, 1) := by decide +kernel
theorem d3_41 : decode prog_18_method_12_code 41 = .ok (.getfield 17, 3) := by decide +kernel
theorem d3_44 : decode prog_18_method_12_code 44 = .ok (.aload_n 2, 1) := by decide +kernel
theorem d3_45 : decode prog_18_method_12_code 45 = .ok (.getfield 17, 3) := by decide +kernel
theorem d3_48 : decode prog_18_method_12_code 48 = .ok (.lcmp, 1) := by decide +kernel
theorem d3_49 : decode prog_18_method_12_code 49 = .ok (.ifCond .ne 30, 3) := by decide +kernel
theorem d3_52 : decode prog_18_method_12_code 52 = .ok (.aload_n 0, 1) := by decide +kernel
theorem d3_53 : decode prog_18_method_12_code 53 = .ok (.getfield 20, 3) := by decide +kernel
theorem d3_56 : decode prog_18_method_12_code 56 = .ok (.aload_n 2, 1) := by decide +kernel
theorem d3_57 : decode prog_18_method_12_code 57 = .ok (.getfield 20, 3) := by decide +kernel
theorem d3_60 : decode prog_18_method_12_code 60 = .ok (.lcmp, 1) := by decide +kernel
theorem d3_61 : decode prog_18_method_12_code 61 = .ok (.ifCond .ne 18, 3) := by decide +kernel
theorem d3_64 : decode prog_18_method_12_code 64 = .ok (.aload_n 0, 1) := by decide +kernel
theorem d3_65 : decode prog_18_method_12_code 65 = .ok (.getfield 23, 3) := by decide +kernel
theorem d3_68 : decode prog_18_method_12_code 68 = .ok (.aload_n 2, 1) := by decide +kernel
theorem d3_69 : decode prog_18_method_12_code 69 = .ok (.getfield 23, 3) := by decide +kernel
theorem d3_72 : decode prog_18_method_12_code 72 = .ok (.if_icmp .ne 7, 3) := by decide +kernel
theorem d3_75 : decode prog_18_method_12_code 75 = .ok (.iconst 1, 1) := by decide +kernel
theorem d3_76 : decode prog_18_method_12_code 76 = .ok (.goto 4, 3) := by decide +kernel
theorem d3_79 : decode prog_18_method_12_code 79 = .ok (.iconst 0, 1) := by decide +kernel
theorem d3_80 : decode prog_18_method_12_code 80 = .ok (.ireturn, 1) := by decide +kernel
theorem pn_rmE : plainName "com/example/keyturn/keyturn/format/EndOfCentralDirectory" = true := by first | (simp [plainName, overriddenIn]; done) | decide +kernel
theorem ef_rmE (m : MethodId) (a1 : Addr) (a2 : Addr) : entryFrame m #[(.ref a1), (.ref a2)] 3 = mkF m 0 #[.val (.ref a1), .val (.ref a2), .unset] [] := by first | (simp [entryFrame, mkF, argsToLocals, Value.category]; done) | rfl
set_option maxRecDepth 65536 in
set_option maxHeartbeats 40000000 in
theorem rmE (l : Launch) (Z : State) (a0 : Array Value) (hw : ∀ d ∈ tables_1, d.before a0 Z = true) (ws : List Jvm.Cond) (a1 a2 : Addr) (x1 : Int64) (x2 : Int32) (x3 x4 : Int64) (x5 : Int32) (y1 : Int64) (y2 : Int32) (y3 y4 : Int64) (y5 : Int32) (r : Int32) (h0 : Heap) (n0 : Nat) (Z0 : n0 ≤ h0.size) (E_a2 : Exa Z h0 a2 "com/example/keyturn/keyturn/format/EndOfCentralDirectory") (F0 : Fld Z h0 a1 "com/example/keyturn/keyturn/format/EndOfCentralDirectory" "offset" "J" (.long x1)) (F1 : Fld Z h0 a1 "com/example/keyturn/keyturn/format/EndOfCentralDirectory" "commentLength" "I" (.int x2)) (F2 : Fld Z h0 a1 "com/example/keyturn/keyturn/format/EndOfCentralDirectory" "centralDirectoryOffset" "J" (.long x3)) (F3 : Fld Z h0 a1 "com/example/keyturn/keyturn/format/EndOfCentralDirectory" "centralDirectorySize" "J" (.long x4)) (F4 : Fld Z h0 a1 "com/example/keyturn/keyturn/format/EndOfCentralDirectory" "entryCount" "I" (.int x5)) (G0 : Fld Z h0 a2 "com/example/keyturn/keyturn/format/EndOfCentralDirectory" "offset" "J" (.long y1)) (G1 : Fld Z h0 a2 "com/example/keyturn/keyturn/format/EndOfCentralDirectory" "commentLength" "I" (.int y2)) (G2 : Fld Z h0 a2 "com/example/keyturn/keyturn/format/EndOfCentralDirectory" "centralDirectoryOffset" "J" (.long y3)) (G3 : Fld Z h0 a2 "com/example/keyturn/keyturn/format/EndOfCentralDirectory" "centralDirectorySize" "J" (.long y4)) (G4 : Fld Z h0 a2 "com/example/keyturn/keyturn/format/EndOfCentralDirectory" "entryCount" "I" (.int y5)) (hr0 : r = (if x1 = y1 then (if x2 = y2 then (if x3 = y3 then (if x4 = y4 then (if x5 = y5 then (1 : Int32) else 0) else 0) else 0) else 0) else 0)) :
    MetFree l (⟨"com/example/keyturn/keyturn/format/EndOfCentralDirectory", "equals", "(Ljava/lang/Object;)Z"⟩ : MethodName) (head1 (Jvm.Cond.code (⟨"com/example/keyturn/keyturn/format/EndOfCentralDirectory", "equals", "(Ljava/lang/Object;)Z"⟩ : MethodName) prog_18_method_12_code 3 (some .boolean) :: ws) ({ frames := 0, cells := 0, slots := 0, locals := 0 } : Room)) (fun a U => a = #[(.ref a1), (.ref a2)] ∧ Z.Warmed39 U.vm ∧ U.heap = h0) (fun _ _ _ _ _ => True) (fun _ U o U' => ∃ v L, o = .returned v ∧ QI Z r h0 n0 v U'.heap L ∧ FrameEnd U o U' L ({ frames := 0, cells := 0, slots := 0, locals := 0 } : Room).cells ({ frames := 0, cells := 0, slots := 0, locals := 0 } : Room).slots) := by
  refine MetFree.of_bodySF (plainFor_of_name pn_rmE) hisR ?_
  intro p e s m args below meth c s₁ Bd hml0 hP hK
  obtain ⟨rfl, hZ, hh⟩ := hP
  have hx := Bd.exec
  have hby := Bd.bytes
  have hml : c.maxLocals = 3 := hml0
  have hown : s.vm.findClass "com/example/keyturn/keyturn/format/EndOfCentralDirectory" = some m.cls := findClass_of_methodNamed Bd.named
  have hnm := (name_of_methodNamed Bd.named Bd.method).1
  have X0 : Stand p l e ({ frames := 0, cells := 0, slots := 0, locals := 0 } : Room) s m #[(.ref a1), (.ref a2)] below meth c s₁ [] 0 0 := Stand.of_body Bd
  have e0 : s₁.heap = h0 := by rw [← hh, Bd.state]; rfl
  have N0 := Fr.nil n0
  have pre0 : ∀ tt, Steps p.tables e below (s₁.setTop (mkF m 0 #[.val (.ref a1), .val (.ref a2), .unset] [])) tt → Steps p.tables e below (s₁.setTop (entryFrame m #[(.ref a1), (.ref a2)] 3)) tt := fun tt kt => castTop (ef_rmE m a1 a2) kt
  obtain ⟨T1, X1, e1, st1⟩ := instY X0 hx hZ hown (hw _ (List.mem_of_getElem? (i := 25) rfl)) e0 (Ins.self E_a2) (g := (mkF m 1 #[.val (.ref a1), .val (.ref a2), .unset] [(.ref a2)])) rfl rfl (hb hby d3_1)
  obtain ⟨T2, X2, e2, st2⟩ := castY X1 hx hZ hown (hw _ (List.mem_of_getElem? (i := 25) rfl)) e1 (Ins.self E_a2) (g := (mkF m 8 #[.val (.ref a1), .val (.ref a2), .unset] [(.ref a2)])) rfl rfl (hb hby d3_8)
  obtain ⟨T3, X3, e3, st3⟩ := getF X2 hx hZ hown (host := "") (Or.inl (hw _ (List.mem_of_getElem? (i := 10) rfl))) Via.refl e2 F0 (g := (mkF m 18 #[.val (.ref a1), .val (.ref a2), .val (.ref a2)] [(.ref a1)])) rfl rfl (hb hby d3_18)
  obtain ⟨T4, X4, e4, st4⟩ := getF X3 hx hZ hown (host := "") (Or.inl (hw _ (List.mem_of_getElem? (i := 10) rfl))) Via.refl e3 G0 (g := (mkF m 22 #[.val (.ref a1), .val (.ref a2), .val (.ref a2)] [(.ref a2), (.long x1)])) rfl rfl (hb hby d3_22)
  have pre5 : ∀ tt, Steps p.tables e below (T4.setTop (mkF m 26 #[.val (.ref a1), .val (.ref a2), .val (.ref a2)] [(.int (lcmpW x1 y1))])) tt → Steps p.tables e below (s₁.setTop (entryFrame m #[(.ref a1), (.ref a2)] 3)) tt := by
    intro tt kt
    refine pre0 tt ?_
    show Steps p.tables e below (s₁.setTop (mkF m 0 #[.val (.ref a1), .val (.ref a2), .unset] [])) _
    refine XS.aloadN X0.here hx rfl (hb hby d3_0) rfl rfl ?_
    show Steps p.tables e below (s₁.setTop (mkF m 1 #[.val (.ref a1), .val (.ref a2), .unset] [(.ref a2)])) _
    refine st1 _ ?_
    show Steps p.tables e below (T1.setTop (mkF m 4 #[.val (.ref a1), .val (.ref a2), .unset] [(.int (1 : Int32))])) _
    refine XS.ifNo X1.here hx rfl (hb hby d3_4) rfl ((if0 _ _).trans (feq (by decide : ¬ ((1 : Int32) = (0 : Int32)))).1) ?_
    show Steps p.tables e below (T1.setTop (mkF m 7 #[.val (.ref a1), .val (.ref a2), .unset] [])) _
    refine XS.aloadN X1.here hx rfl (hb hby d3_7) rfl rfl ?_
    show Steps p.tables e below (T1.setTop (mkF m 8 #[.val (.ref a1), .val (.ref a2), .unset] [(.ref a2)])) _
    refine st2 _ ?_
    show Steps p.tables e below (T2.setTop (mkF m 11 #[.val (.ref a1), .val (.ref a2), .unset] [(.ref a2)])) _
    refine XS.astoreN X2.here hx rfl (hb hby d3_11) rfl rfl (l' := #[.val (.ref a1), .val (.ref a2), .val (.ref a2)]) rfl ?_
    show Steps p.tables e below (T2.setTop (mkF m 12 #[.val (.ref a1), .val (.ref a2), .val (.ref a2)] [])) _
    refine XS.goto X2.here hx rfl (pc0 := 12) (pc' := 17) rfl (hb hby d3_12) (by decide) (by decide) ?_
    show Steps p.tables e below (T2.setTop (mkF m 17 #[.val (.ref a1), .val (.ref a2), .val (.ref a2)] [])) _
    refine XS.aloadN X2.here hx rfl (hb hby d3_17) rfl rfl ?_
    show Steps p.tables e below (T2.setTop (mkF m 18 #[.val (.ref a1), .val (.ref a2), .val (.ref a2)] [(.ref a1)])) _
    refine st3 _ ?_
    show Steps p.tables e below (T3.setTop (mkF m 21 #[.val (.ref a1), .val (.ref a2), .val (.ref a2)] [(.long x1)])) _
    refine XS.aloadN X3.here hx rfl (hb hby d3_21) rfl rfl ?_
    show Steps p.tables e below (T3.setTop (mkF m 22 #[.val (.ref a1), .val (.ref a2), .val (.ref a2)] [(.ref a2), (.long x1)])) _
    refine st4 _ ?_
    show Steps p.tables e below (T4.setTop (mkF m 25 #[.val (.ref a1), .val (.ref a2), .val (.ref a2)] [(.long y1), (.long x1)])) _
    refine XS.lcmp X4.here hx rfl (hb hby d3_25) rfl ?_
    exact kt
  by_cases c26_6 : (lcmpW x1 y1) = (0 : Int32)
  · obtain ⟨T7, X7, e7, st7⟩ := getF X4 hx hZ hown (host := "") (Or.inl (hw _ (List.mem_of_getElem? (i := 12) rfl))) Via.refl e4 F1 (g := (mkF m 30 #[.val (.ref a1), .val (.ref a2), .val (.ref a2)] [(.ref a1)])) rfl rfl (hb hby d3_30)
    obtain ⟨T8, X8, e8, st8⟩ := getF X7 hx hZ hown (host := "") (Or.inl (hw _ (List.mem_of_getElem? (i := 12) rfl))) Via.refl e7 G1 (g := (mkF m 34 #[.val (.ref a1), .val (.ref a2), .val (.ref a2)] [(.ref a2), (.int x2)])) rfl rfl (hb hby d3_34)
    have pre9 : ∀ tt, Steps p.tables e below (T8.setTop (mkF m 37 #[.val (.ref a1), .val (.ref a2), .val (.ref a2)] [(.int y2), (.int x2)])) tt → Steps p.tables e below (s₁.setTop (entryFrame m #[(.ref a1), (.ref a2)] 3)) tt := by
      intro tt kt
      refine pre5 tt ?_
      show Steps p.tables e below (T4.setTop (mkF m 26 #[.val (.ref a1), .val (.ref a2), .val (.ref a2)] [(.int (lcmpW x1 y1))])) _
      refine XS.ifNo X4.here hx rfl (hb hby d3_26) rfl ((if0 _ _).trans (teq c26_6).2) ?_
      show Steps p.tables e below (T4.setTop (mkF m 29 #[.val (.ref a1), .val (.ref a2), .val (.ref a2)] [])) _
      refine XS.aloadN X4.here hx rfl (hb hby d3_29) rfl rfl ?_
      show Steps p.tables e below (T4.setTop (mkF m 30 #[.val (.ref a1), .val (.ref a2), .val (.ref a2)] [(.ref a1)])) _
      refine st7 _ ?_
      show Steps p.tables e below (T7.setTop (mkF m 33 #[.val (.ref a1), .val (.ref a2), .val (.ref a2)] [(.int x2)])) _
      refine XS.aloadN X7.here hx rfl (hb hby d3_33) rfl rfl ?_
      show Steps p.tables e below (T7.setTop (mkF m 34 #[.val (.ref a1), .val (.ref a2), .val (.ref a2)] [(.ref a2), (.int x2)])) _
      refine st8 _ ?_
      exact kt
    by_cases c37_10 : x2 = y2
    · obtain ⟨T11, X11, e11, st11⟩ := getF X8 hx hZ hown (host := "") (Or.inl (hw _ (List.mem_of_getElem? (i := 14) rfl))) Via.refl e8 F2 (g := (mkF m 41 #[.val (.ref a1), .val (.ref a2), .val (.ref a2)] [(.ref a1)])) rfl rfl (hb hby d3_41)
      obtain ⟨T12, X12, e12, st12⟩ := getF X11 hx hZ hown (host := "") (Or.inl (hw _ (List.mem_of_getElem? (i := 14) rfl))) Via.refl e11 G2 (g := (mkF m 45 #[.val (.ref a1), .val (.ref a2), .val (.ref a2)] [(.ref a2), (.long x3)])) rfl rfl (hb hby d3_45)
      have pre13 : ∀ tt, Steps p.tables e below (T12.setTop (mkF m 49 #[.val (.ref a1), .val (.ref a2), .val (.ref a2)] [(.int (lcmpW x3 y3))])) tt → Steps p.tables e below (s₁.setTop (entryFrame m #[(.ref a1), (.ref a2)] 3)) tt := by
        intro tt kt
        refine pre9 tt ?_
        show Steps p.tables e below (T8.setTop (mkF m 37 #[.val (.ref a1), .val (.ref a2), .val (.ref a2)] [(.int y2), (.int x2)])) _
        refine XS.icmpNo X8.here hx rfl (hb hby d3_37) rfl (teq c37_10).2 ?_
        show Steps p.tables e below (T8.setTop (mkF m 40 #[.val (.ref a1), .val (.ref a2), .val (.ref a2)] [])) _
        refine XS.aloadN X8.here hx rfl (hb hby d3_40) rfl rfl ?_
        show Steps p.tables e below (T8.setTop (mkF m 41 #[.val (.ref a1), .val (.ref a2), .val (.ref a2)] [(.ref a1)])) _
        refine st11 _ ?_
        show Steps p.tables e below (T11.setTop (mkF m 44 #[.val (.ref a1), .val (.ref a2), .val (.ref a2)] [(.long x3)])) _
        refine XS.aloadN X11.here hx rfl (hb hby d3_44) rfl rfl ?_
        show Steps p.tables e below (T11.setTop (mkF m 45 #[.val (.ref a1), .val (.ref a2), .val (.ref a2)] [(.ref a2), (.long x3)])) _
        refine st12 _ ?_
        show Steps p.tables e below (T12.setTop (mkF m 48 #[.val (.ref a1), .val (.ref a2), .val (.ref a2)] [(.long y3), (.long x3)])) _
        refine XS.lcmp X12.here hx rfl (hb hby d3_48) rfl ?_
        exact kt
      by_cases c49_14 : (lcmpW x3 y3) = (0 : Int32)
      · obtain ⟨T15, X15, e15, st15⟩ := getF X12 hx hZ hown (host := "") (Or.inl (hw _ (List.mem_of_getElem? (i := 16) rfl))) Via.refl e12 F3 (g := (mkF m 53 #[.val (.ref a1), .val (.ref a2), .val (.ref a2)] [(.ref a1)])) rfl rfl (hb hby d3_53)
        obtain ⟨T16, X16, e16, st16⟩ := getF X15 hx hZ hown (host := "") (Or.inl (hw _ (List.mem_of_getElem? (i := 16) rfl))) Via.refl e15 G3 (g := (mkF m 57 #[.val (.ref a1), .val (.ref a2), .val (.ref a2)] [(.ref a2), (.long x4)])) rfl rfl (hb hby d3_57)
        have pre17 : ∀ tt, Steps p.tables e below (T16.setTop (mkF m 61 #[.val (.ref a1), .val (.ref a2), .val (.ref a2)] [(.int (lcmpW x4 y4))])) tt → Steps p.tables e below (s₁.setTop (entryFrame m #[(.ref a1), (.ref a2)] 3)) tt := by
          intro tt kt
          refine pre13 tt ?_
          show Steps p.tables e below (T12.setTop (mkF m 49 #[.val (.ref a1), .val (.ref a2), .val (.ref a2)] [(.int (lcmpW x3 y3))])) _
          refine XS.ifNo X12.here hx rfl (hb hby d3_49) rfl ((if0 _ _).trans (teq c49_14).2) ?_
          show Steps p.tables e below (T12.setTop (mkF m 52 #[.val (.ref a1), .val (.ref a2), .val (.ref a2)] [])) _
          refine XS.aloadN X12.here hx rfl (hb hby d3_52) rfl rfl ?_
          show Steps p.tables e below (T12.setTop (mkF m 53 #[.val (.ref a1), .val (.ref a2), .val (.ref a2)] [(.ref a1)])) _
          refine st15 _ ?_
          show Steps p.tables e below (T15.setTop (mkF m 56 #[.val (.ref a1), .val (.ref a2), .val (.ref a2)] [(.long x4)])) _
          refine XS.aloadN X15.here hx rfl (hb hby d3_56) rfl rfl ?_
          show Steps p.tables e below (T15.setTop (mkF m 57 #[.val (.ref a1), .val (.ref a2), .val (.ref a2)] [(.ref a2), (.long x4)])) _
          refine st16 _ ?_
          show Steps p.tables e below (T16.setTop (mkF m 60 #[.val (.ref a1), .val (.ref a2), .val (.ref a2)] [(.long y4), (.long x4)])) _
          refine XS.lcmp X16.here hx rfl (hb hby d3_60) rfl ?_
          exact kt
        by_cases c61_18 : (lcmpW x4 y4) = (0 : Int32)
        · obtain ⟨T19, X19, e19, st19⟩ := getF X16 hx hZ hown (host := "") (Or.inl (hw _ (List.mem_of_getElem? (i := 18) rfl))) Via.refl e16 F4 (g := (mkF m 65 #[.val (.ref a1), .val (.ref a2), .val (.ref a2)] [(.ref a1)])) rfl rfl (hb hby d3_65)
          obtain ⟨T20, X20, e20, st20⟩ := getF X19 hx hZ hown (host := "") (Or.inl (hw _ (List.mem_of_getElem? (i := 18) rfl))) Via.refl e19 G4 (g := (mkF m 69 #[.val (.ref a1), .val (.ref a2), .val (.ref a2)] [(.ref a2), (.int x5)])) rfl rfl (hb hby d3_69)
          have pre21 : ∀ tt, Steps p.tables e below (T20.setTop (mkF m 72 #[.val (.ref a1), .val (.ref a2), .val (.ref a2)] [(.int y5), (.int x5)])) tt → Steps p.tables e below (s₁.setTop (entryFrame m #[(.ref a1), (.ref a2)] 3)) tt := by
            intro tt kt
            refine pre17 tt ?_
            show Steps p.tables e below (T16.setTop (mkF m 61 #[.val (.ref a1), .val (.ref a2), .val (.ref a2)] [(.int (lcmpW x4 y4))])) _
            refine XS.ifNo X16.here hx rfl (hb hby d3_61) rfl ((if0 _ _).trans (teq c61_18).2) ?_
            show Steps p.tables e below (T16.setTop (mkF m 64 #[.val (.ref a1), .val (.ref a2), .val (.ref a2)] [])) _
            refine XS.aloadN X16.here hx rfl (hb hby d3_64) rfl rfl ?_
            show Steps p.tables e below (T16.setTop (mkF m 65 #[.val (.ref a1), .val (.ref a2), .val (.ref a2)] [(.ref a1)])) _
            refine st19 _ ?_
            show Steps p.tables e below (T19.setTop (mkF m 68 #[.val (.ref a1), .val (.ref a2), .val (.ref a2)] [(.int x5)])) _
            refine XS.aloadN X19.here hx rfl (hb hby d3_68) rfl rfl ?_
            show Steps p.tables e below (T19.setTop (mkF m 69 #[.val (.ref a1), .val (.ref a2), .val (.ref a2)] [(.ref a2), (.int x5)])) _
            refine st20 _ ?_
            exact kt
          by_cases c72_22 : x5 = y5
          · have pre23 : ∀ tt, Steps p.tables e below (T20.setTop (mkF m 80 #[.val (.ref a1), .val (.ref a2), .val (.ref a2)] [(.int (1 : Int32))])) tt → Steps p.tables e below (s₁.setTop (entryFrame m #[(.ref a1), (.ref a2)] 3)) tt := by
              intro tt kt
              refine pre21 tt ?_
              show Steps p.tables e below (T20.setTop (mkF m 72 #[.val (.ref a1), .val (.ref a2), .val (.ref a2)] [(.int y5), (.int x5)])) _
              refine XS.icmpNo X20.here hx rfl (hb hby d3_72) rfl (teq c72_22).2 ?_
              show Steps p.tables e below (T20.setTop (mkF m 75 #[.val (.ref a1), .val (.ref a2), .val (.ref a2)] [])) _
              refine XS.iconst X20.here hx rfl (hb hby d3_75) ?_
              show Steps p.tables e below (T20.setTop (mkF m 76 #[.val (.ref a1), .val (.ref a2), .val (.ref a2)] [(.int (1 : Int32))])) _
              refine XS.goto X20.here hx rfl (pc0 := 76) (pc' := 80) rfl (hb hby d3_76) (by decide) (by decide) ?_
              exact kt
            obtain ⟨fs, hr, hrun, hended, hW, hsame⟩ := X20.leave (v := some (.int (1 : Int32))) (fun h => by rw [Bd.returns] at h; cases h)
            refine ⟨_, _, pre23 _ ?_, hrun, hended, _, _, rfl, ?_, ⟨_, rfl⟩, hW, hsame.mono (by decide) (by decide)⟩
            · show Steps p.tables e below (T20.setTop (mkF m 80 #[.val (.ref a1), .val (.ref a2), .val (.ref a2)] [(.int (1 : Int32))])) _
              exact retN X20 hx (t := .boolean) Bd.returns (by simp) (hb hby d3_80) hr
            · show QI Z r h0 n0 _ T20.heap _
              rw [e20]
              exact ⟨by rw [hr0, if_pos (own_lw.mp c26_6), if_pos c37_10, if_pos (own_lw.mp c49_14), if_pos (own_lw.mp c61_18), if_pos c72_22], N0, rfl⟩
          · have pre24 : ∀ tt, Steps p.tables e below (T20.setTop (mkF m 80 #[.val (.ref a1), .val (.ref a2), .val (.ref a2)] [(.int (0 : Int32))])) tt → Steps p.tables e below (s₁.setTop (entryFrame m #[(.ref a1), (.ref a2)] 3)) tt := by
              intro tt kt
              refine pre21 tt ?_
              show Steps p.tables e below (T20.setTop (mkF m 72 #[.val (.ref a1), .val (.ref a2), .val (.ref a2)] [(.int y5), (.int x5)])) _
              refine XS.icmpYes X20.here hx rfl (pc0 := 72) (pc' := 79) rfl (hb hby d3_72) rfl (feq c72_22).2 (by decide) (by decide) ?_
              show Steps p.tables e below (T20.setTop (mkF m 79 #[.val (.ref a1), .val (.ref a2), .val (.ref a2)] [])) _
              refine XS.iconst X20.here hx rfl (hb hby d3_79) ?_
              exact kt
            obtain ⟨fs, hr, hrun, hended, hW, hsame⟩ := X20.leave (v := some (.int (0 : Int32))) (fun h => by rw [Bd.returns] at h; cases h)
            refine ⟨_, _, pre24 _ ?_, hrun, hended, _, _, rfl, ?_, ⟨_, rfl⟩, hW, hsame.mono (by decide) (by decide)⟩
            · show Steps p.tables e below (T20.setTop (mkF m 80 #[.val (.ref a1), .val (.ref a2), .val (.ref a2)] [(.int (0 : Int32))])) _
              exact retN X20 hx (t := .boolean) Bd.returns (by simp) (hb hby d3_80) hr
            · show QI Z r h0 n0 _ T20.heap _
              rw [e20]
              exact ⟨by rw [hr0, if_pos (own_lw.mp c26_6), if_pos c37_10, if_pos (own_lw.mp c49_14), if_pos (own_lw.mp c61_18), if_neg c72_22], N0, rfl⟩
        · have pre25 : ∀ tt, Steps p.tables e below (T16.setTop (mkF m 80 #[.val (.ref a1), .val (.ref a2), .val (.ref a2)] [(.int (0 : Int32))])) tt → Steps p.tables e below (s₁.setTop (entryFrame m #[(.ref a1), (.ref a2)] 3)) tt := by
            intro tt kt
            refine pre17 tt ?_
            show Steps p.tables e below (T16.setTop (mkF m 61 #[.val (.ref a1), .val (.ref a2), .val (.ref a2)] [(.int (lcmpW x4 y4))])) _
            refine XS.ifYes X16.here hx rfl (pc0 := 61) (pc' := 79) rfl (hb hby d3_61) rfl ((if0 _ _).trans (feq c61_18).2) (by decide) (by decide) ?_
            show Steps p.tables e below (T16.setTop (mkF m 79 #[.val (.ref a1), .val (.ref a2), .val (.ref a2)] [])) _
            refine XS.iconst X16.here hx rfl (hb hby d3_79) ?_
            exact kt
          obtain ⟨fs, hr, hrun, hended, hW, hsame⟩ := X16.leave (v := some (.int (0 : Int32))) (fun h => by rw [Bd.returns] at h; cases h)
          refine ⟨_, _, pre25 _ ?_, hrun, hended, _, _, rfl, ?_, ⟨_, rfl⟩, hW, hsame.mono (by decide) (by decide)⟩
          · show Steps p.tables e below (T16.setTop (mkF m 80 #[.val (.ref a1), .val (.ref a2), .val (.ref a2)] [(.int (0 : Int32))])) _
            exact retN X16 hx (t := .boolean) Bd.returns (by simp) (hb hby d3_80) hr
          · show QI Z r h0 n0 _ T16.heap _
            rw [e16]
            exact ⟨by rw [hr0, if_pos (own_lw.mp c26_6), if_pos c37_10, if_pos (own_lw.mp c49_14), if_neg (fun q => c61_18 (own_lw.mpr q))], N0, rfl⟩
      · have pre26 : ∀ tt, Steps p.tables e below (T12.setTop (mkF m 80 #[.val (.ref a1), .val (.ref a2), .val (.ref a2)] [(.int (0 : Int32))])) tt → Steps p.tables e below (s₁.setTop (entryFrame m #[(.ref a1), (.ref a2)] 3)) tt := by
          intro tt kt
          refine pre13 tt ?_
          show Steps p.tables e below (T12.setTop (mkF m 49 #[.val (.ref a1), .val (.ref a2), .val (.ref a2)] [(.int (lcmpW x3 y3))])) _
          refine XS.ifYes X12.here hx rfl (pc0 := 49) (pc' := 79) rfl (hb hby d3_49) rfl ((if0 _ _).trans (feq c49_14).2) (by decide) (by decide) ?_
          show Steps p.tables e below (T12.setTop (mkF m 79 #[.val (.ref a1), .val (.ref a2), .val (.ref a2)] [])) _
          refine XS.iconst X12.here hx rfl (hb hby d3_79) ?_
          exact kt
        obtain ⟨fs, hr, hrun, hended, hW, hsame⟩ := X12.leave (v := some (.int (0 : Int32))) (fun h => by rw [Bd.returns] at h; cases h)
        refine ⟨_, _, pre26 _ ?_, hrun, hended, _, _, rfl, ?_, ⟨_, rfl⟩, hW, hsame.mono (by decide) (by decide)⟩
        · show Steps p.tables e below (T12.setTop (mkF m 80 #[.val (.ref a1), .val (.ref a2), .val (.ref a2)] [(.int (0 : Int32))])) _
          exact retN X12 hx (t := .boolean) Bd.returns (by simp) (hb hby d3_80) hr
        · show QI Z r h0 n0 _ T12.heap _
          rw [e12]
          exact ⟨by rw [hr0, if_pos (own_lw.mp c26_6), if_pos c37_10, if_neg (fun q => c49_14 (own_lw.mpr q))], N0, rfl⟩
    · have pre27 : ∀ tt, Steps p.tables e below (T8.setTop (mkF m 80 #[.val (.ref a1), .val (.ref a2), .val (.ref a2)] [(.int (0 : Int32))])) tt → Steps p.tables e below (s₁.setTop (entryFrame m #[(.ref a1), (.ref a2)] 3)) tt := by
        intro tt kt
        refine pre9 tt ?_
        show Steps p.tables e below (T8.setTop (mkF m 37 #[.val (.ref a1), .val (.ref a2), .val (.ref a2)] [(.int y2), (.int x2)])) _
        refine XS.icmpYes X8.here hx rfl (pc0 := 37) (pc' := 79) rfl (hb hby d3_37) rfl (feq c37_10).2 (by decide) (by decide) ?_
        show Steps p.tables e below (T8.setTop (mkF m 79 #[.val (.ref a1), .val (.ref a2), .val (.ref a2)] [])) _
        refine XS.iconst X8.here hx rfl (hb hby d3_79) ?_
        exact kt
      obtain ⟨fs, hr, hrun, hended, hW, hsame⟩ := X8.leave (v := some (.int (0 : Int32))) (fun h => by rw [Bd.returns] at h; cases h)
      refine ⟨_, _, pre27 _ ?_, hrun, hended, _, _, rfl, ?_, ⟨_, rfl⟩, hW, hsame.mono (by decide) (by decide)⟩
      · show Steps p.tables e below (T8.setTop (mkF m 80 #[.val (.ref a1), .val (.ref a2), .val (.ref a2)] [(.int (0 : Int32))])) _
        exact retN X8 hx (t := .boolean) Bd.returns (by simp) (hb hby d3_80) hr
      · show QI Z r h0 n0 _ T8.heap _
        rw [e8]
        exact ⟨by rw [hr0, if_pos (own_lw.mp c26_6), if_neg c37_10], N0, rfl⟩
  · have pre28 : ∀ tt, Steps p.tables e below (T4.setTop (mkF m 80 #[.val (.ref a1), .val (.ref a2), .val (.ref a2)] [(.int (0 : Int32))])) tt → Steps p.tables e below (s₁.setTop (entryFrame m #[(.ref a1), (.ref a2)] 3)) tt := by
      intro tt kt
      refine pre5 tt ?_
      show Steps p.tables e below (T4.setTop (mkF m 26 #[.val (.ref a1), .val (.ref a2), .val (.ref a2)] [(.int (lcmpW x1 y1))])) _
      refine XS.ifYes X4.here hx rfl (pc0 := 26) (pc' := 79) rfl (hb hby d3_26) rfl ((if0 _ _).trans (feq c26_6).2) (by decide) (by decide) ?_
      show Steps p.tables e below (T4.setTop (mkF m 79 #[.val (.ref a1), .val (.ref a2), .val (.ref a2)] [])) _
      refine XS.iconst X4.here hx rfl (hb hby d3_79) ?_
      exact kt
    obtain ⟨fs, hr, hrun, hended, hW, hsame⟩ := X4.leave (v := some (.int (0 : Int32))) (fun h => by rw [Bd.returns] at h; cases h)
    refine ⟨_, _, pre28 _ ?_, hrun, hended, _, _, rfl, ?_, ⟨_, rfl⟩, hW, hsame.mono (by decide) (by decide)⟩
    · show Steps p.tables e below (T4.setTop (mkF m 80 #[.val (.ref a1), .val (.ref a2), .val (.ref a2)] [(.int (0 : Int32))])) _
      exact retN X4 hx (t := .boolean) Bd.returns (by simp) (hb hby d3_80) hr
    · show QI Z r h0 n0 _ T4.heap _
      rw [e4]
      exact ⟨by rw [hr0, if_neg (fun q => c26_6 (own_lw.mpr q))], N0, rfl⟩
theorem d3_15 : decode prog_18_method_12_code 15 = .ok (.iconst 0, 1) := by decide +kernel
theorem d3_16 : decode prog_18_method_12_code 16 = .ok (.ireturn, 1) := by decide +kernel
theorem pn_rmEN : plainName "com/example/keyturn/keyturn/format/EndOfCentralDirectory" = true := by first | (simp [plainName, overriddenIn]; done) | decide +kernel
theorem ef_rmEN (m : MethodId) (a1 : Addr) : entryFrame m #[(.ref a1), .null] 3 = mkF m 0 #[.val (.ref a1), .val .null, .unset] [] := by first | (simp [entryFrame, mkF, argsToLocals, Value.category]; done) | rfl
set_option maxRecDepth 65536 in
set_option maxHeartbeats 40000000 in
theorem rmEN (l : Launch) (Z : State) (a0 : Array Value) (hw : ∀ d ∈ tables_1, d.before a0 Z = true) (ws : List Jvm.Cond) (a1 : Addr) (h0 : Heap) (n0 : Nat) (Z0 : n0 ≤ h0.size)  :
    MetFree l (⟨"com/example/keyturn/keyturn/format/EndOfCentralDirectory", "equals", "(Ljava/lang/Object;)Z"⟩ : MethodName) (head1 (Jvm.Cond.code (⟨"com/example/keyturn/keyturn/format/EndOfCentralDirectory", "equals", "(Ljava/lang/Object;)Z"⟩ : MethodName) prog_18_method_12_code 3 (some .boolean) :: ws) ({ frames := 0, cells := 0, slots := 0, locals := 0 } : Room)) (fun a U => a = #[(.ref a1), .null] ∧ Z.Warmed39 U.vm ∧ U.heap = h0) (fun _ _ _ _ _ => True) (fun _ U o U' => ∃ v L, o = .returned v ∧ QI Z (0 : Int32) h0 n0 v U'.heap L ∧ FrameEnd U o U' L ({ frames := 0, cells := 0, slots := 0, locals := 0 } : Room).cells ({ frames := 0, cells := 0, slots := 0, locals := 0 } : Room).slots) := by
  refine MetFree.of_bodySF (plainFor_of_name pn_rmEN) hisR ?_
  intro p e s m args below meth c s₁ Bd hml0 hP hK
  obtain ⟨rfl, hZ, hh⟩ := hP
  have hx := Bd.exec
  have hby := Bd.bytes
  have hml : c.maxLocals = 3 := hml0
  have hown : s.vm.findClass "com/example/keyturn/keyturn/format/EndOfCentralDirectory" = some m.cls := findClass_of_methodNamed Bd.named
  have hnm := (name_of_methodNamed Bd.named Bd.method).1
  have X0 : Stand p l e ({ frames := 0, cells := 0, slots := 0, locals := 0 } : Room) s m #[(.ref a1), .null] below meth c s₁ [] 0 0 := Stand.of_body Bd
  have e0 : s₁.heap = h0 := by rw [← hh, Bd.state]; rfl
  have N0 := Fr.nil n0
  have pre0 : ∀ tt, Steps p.tables e below (s₁.setTop (mkF m 0 #[.val (.ref a1), .val .null, .unset] [])) tt → Steps p.tables e below (s₁.setTop (entryFrame m #[(.ref a1), .null] 3)) tt := fun tt kt => castTop (ef_rmEN m a1) kt
  have pre1 : ∀ tt, Steps p.tables e below (s₁.setTop (mkF m 16 #[.val (.ref a1), .val .null, .unset] [(.int (0 : Int32))])) tt → Steps p.tables e below (s₁.setTop (entryFrame m #[(.ref a1), .null] 3)) tt := by
    intro tt kt
    refine pre0 tt ?_
    show Steps p.tables e below (s₁.setTop (mkF m 0 #[.val (.ref a1), .val .null, .unset] [])) _
    refine XS.aloadN X0.here hx rfl (hb hby d3_0) rfl rfl ?_
    show Steps p.tables e below (s₁.setTop (mkF m 1 #[.val (.ref a1), .val .null, .unset] [.null])) _
    refine X0.instanceofNull hx (g := (mkF m 1 #[.val (.ref a1), .val .null, .unset] [.null])) rfl rfl (hb hby d3_1) _ ?_
    show Steps p.tables e below (s₁.setTop (mkF m 4 #[.val (.ref a1), .val .null, .unset] [(.int (0 : Int32))])) _
    refine XS.ifYes X0.here hx rfl (pc0 := 4) (pc' := 15) rfl (hb hby d3_4) rfl ((if0 _ _).trans (teq (rfl : (0 : Int32) = (0 : Int32))).1) (by decide) (by decide) ?_
    show Steps p.tables e below (s₁.setTop (mkF m 15 #[.val (.ref a1), .val .null, .unset] [])) _
    refine XS.iconst X0.here hx rfl (hb hby d3_15) ?_
    exact kt
  obtain ⟨fs, hr, hrun, hended, hW, hsame⟩ := X0.leave (v := some (.int (0 : Int32))) (fun h => by rw [Bd.returns] at h; cases h)
  refine ⟨_, _, pre1 _ ?_, hrun, hended, _, _, rfl, ?_, ⟨_, rfl⟩, hW, hsame.mono (by decide) (by decide)⟩
  · show Steps p.tables e below (s₁.setTop (mkF m 16 #[.val (.ref a1), .val .null, .unset] [(.int (0 : Int32))])) _
    exact retN X0 hx (t := .boolean) Bd.returns (by simp) (hb hby d3_16) hr
  · show QI Z (0 : Int32) h0 n0 _ s₁.heap _
    rw [e0]
    exact ⟨rfl, N0, rfl⟩
theorem pn_rmEX : plainName "com/example/keyturn/keyturn/format/EndOfCentralDirectory" = true := by first | (simp [plainName, overriddenIn]; done) | decide +kernel
theorem ef_rmEX (m : MethodId) (a1 : Addr) (a2 : Addr) : entryFrame m #[(.ref a1), (.ref a2)] 3 = mkF m 0 #[.val (.ref a1), .val (.ref a2), .unset] [] := by first | (simp [entryFrame, mkF, argsToLocals, Value.category]; done) | rfl
set_option maxRecDepth 65536 in
set_option maxHeartbeats 40000000 in
theorem rmEX (l : Launch) (Z : State) (a0 : Array Value) (hw : ∀ d ∈ tables_1, d.before a0 Z = true) (ws : List Jvm.Cond) (a1 a2 : Addr) (C : String) (h0 : Heap) (n0 : Nat) (Z0 : n0 ≤ h0.size) (E_a2 : Exa Z h0 a2 C) (hno : ∃ c t, Z.vm.findClass C = some c ∧ Z.vm.findClass "com/example/keyturn/keyturn/format/EndOfCentralDirectory" = some t ∧ Z.vm.assignable c t = false) :
    MetFree l (⟨"com/example/keyturn/keyturn/format/EndOfCentralDirectory", "equals", "(Ljava/lang/Object;)Z"⟩ : MethodName) (head1 (Jvm.Cond.code (⟨"com/example/keyturn/keyturn/format/EndOfCentralDirectory", "equals", "(Ljava/lang/Object;)Z"⟩ : MethodName) prog_18_method_12_code 3 (some .boolean) :: ws) ({ frames := 0, cells := 0, slots := 0, locals := 0 } : Room)) (fun a U => a = #[(.ref a1), (.ref a2)] ∧ Z.Warmed39 U.vm ∧ U.heap = h0) (fun _ _ _ _ _ => True) (fun _ U o U' => ∃ v L, o = .returned v ∧ QI Z (0 : Int32) h0 n0 v U'.heap L ∧ FrameEnd U o U' L ({ frames := 0, cells := 0, slots := 0, locals := 0 } : Room).cells ({ frames := 0, cells := 0, slots := 0, locals := 0 } : Room).slots) := by
  refine MetFree.of_bodySF (plainFor_of_name pn_rmEX) hisR ?_
  intro p e s m args below meth c s₁ Bd hml0 hP hK
  obtain ⟨rfl, hZ, hh⟩ := hP
  have hx := Bd.exec
  have hby := Bd.bytes
  have hml : c.maxLocals = 3 := hml0
  have hown : s.vm.findClass "com/example/keyturn/keyturn/format/EndOfCentralDirectory" = some m.cls := findClass_of_methodNamed Bd.named
  have hnm := (name_of_methodNamed Bd.named Bd.method).1
  have X0 : Stand p l e ({ frames := 0, cells := 0, slots := 0, locals := 0 } : Room) s m #[(.ref a1), (.ref a2)] below meth c s₁ [] 0 0 := Stand.of_body Bd
  have e0 : s₁.heap = h0 := by rw [← hh, Bd.state]; rfl
  have N0 := Fr.nil n0
  have pre0 : ∀ tt, Steps p.tables e below (s₁.setTop (mkF m 0 #[.val (.ref a1), .val (.ref a2), .unset] [])) tt → Steps p.tables e below (s₁.setTop (entryFrame m #[(.ref a1), (.ref a2)] 3)) tt := fun tt kt => castTop (ef_rmEX m a1 a2) kt
  obtain ⟨T1, X1, e1, st1⟩ := instNo X0 hx hZ hown (hw _ (List.mem_of_getElem? (i := 25) rfl)) e0 E_a2 hno (g := (mkF m 1 #[.val (.ref a1), .val (.ref a2), .unset] [(.ref a2)])) rfl rfl (hb hby d3_1)
  have pre2 : ∀ tt, Steps p.tables e below (T1.setTop (mkF m 16 #[.val (.ref a1), .val (.ref a2), .unset] [(.int (0 : Int32))])) tt → Steps p.tables e below (s₁.setTop (entryFrame m #[(.ref a1), (.ref a2)] 3)) tt := by
    intro tt kt
    refine pre0 tt ?_
    show Steps p.tables e below (s₁.setTop (mkF m 0 #[.val (.ref a1), .val (.ref a2), .unset] [])) _
    refine XS.aloadN X0.here hx rfl (hb hby d3_0) rfl rfl ?_
    show Steps p.tables e below (s₁.setTop (mkF m 1 #[.val (.ref a1), .val (.ref a2), .unset] [(.ref a2)])) _
    refine st1 _ ?_
    show Steps p.tables e below (T1.setTop (mkF m 4 #[.val (.ref a1), .val (.ref a2), .unset] [(.int (0 : Int32))])) _
    refine XS.ifYes X1.here hx rfl (pc0 := 4) (pc' := 15) rfl (hb hby d3_4) rfl ((if0 _ _).trans (teq (rfl : (0 : Int32) = (0 : Int32))).1) (by decide) (by decide) ?_
    show Steps p.tables e below (T1.setTop (mkF m 15 #[.val (.ref a1), .val (.ref a2), .unset] [])) _
    refine XS.iconst X1.here hx rfl (hb hby d3_15) ?_
    exact kt
  obtain ⟨fs, hr, hrun, hended, hW, hsame⟩ := X1.leave (v := some (.int (0 : Int32))) (fun h => by rw [Bd.returns] at h; cases h)
  refine ⟨_, _, pre2 _ ?_, hrun, hended, _, _, rfl, ?_, ⟨_, rfl⟩, hW, hsame.mono (by decide) (by decide)⟩
  · show Steps p.tables e below (T1.setTop (mkF m 16 #[.val (.ref a1), .val (.ref a2), .unset] [(.int (0 : Int32))])) _
    exact retN X1 hx (t := .boolean) Bd.returns (by simp) (hb hby d3_16) hr
  · show QI Z (0 : Int32) h0 n0 _ T1.heap _
    rw [e1]
    exact ⟨rfl, N0, rfl⟩
theorem own_noI {Z : State} {a0 : Array Value} (hw : ∀ d ∈ tables_1, d.before a0 Z = true) : ∃ c t, Z.vm.findClass "java/lang/Integer" = some c ∧ Z.vm.findClass "com/example/keyturn/keyturn/format/EndOfCentralDirectory" = some t ∧ Z.vm.assignable c t = false := by
  obtain ⟨t, ht⟩ := own_found (hw _ (List.mem_of_getElem? (i := 2) rfl))
  exact own_nsno (hw _ (List.mem_of_getElem? (i := 34) rfl)) (hw _ (List.mem_of_getElem? (i := 2) rfl)) (NS.step (hw _ (List.mem_of_getElem? (i := 34) rfl)) (NS.step (hw _ (List.mem_of_getElem? (i := 35) rfl)) (own_nsroot (hw _ (List.mem_of_getElem? (i := 36) rfl)) ht (by decide)) (by decide)) (by decide)) (by decide)
theorem own_wCne {Z : State} {h0 : Heap} {wC b : Addr} (I : own_IC Z h0 wC) (q : h0.size ≤ b) : wC ≠ b := by
  obtain ⟨cl, A, -⟩ := I
  exact Nat.ne_of_lt (Nat.lt_of_lt_of_le A.lt q)
theorem own_lf (b : Int32) : ¬ ((1 : Int64) <<< (b &&& 0x3f).toInt64) = 0 := by
  intro q
  have h1 := c_lshl (1 : Int64) b _ rfl
  rw [q] at h1
  have h2 : b.toBitVec.toNat % 64 < 64 := Nat.mod_lt _ (by decide)
  generalize b.toBitVec.toNat % 64 = k at *
  have h3 : (0 : Int64).toInt = 0 := by decide
  have h4 : (1 : Int64).toInt = 1 := by decide
  have h5 : 2 ^ k < 2 ^ 64 := Nat.pow_lt_pow_right (by decide) h2
  have h6 : 0 < 2 ^ k := Nat.pow_pos (by decide)
  have h7 : (2 : Nat) ^ 64 = 18446744073709551616 := by decide
  rw [h3, h4] at h1
  generalize 2 ^ k = z at *
  omega
theorem own_if (b : Int32) : ¬ ((1 : Int32) <<< (b &&& 31)) = 0 := by
  intro q
  have h1 := c_ishl (1 : Int32) b _ rfl
  rw [q] at h1
  have h2 : b.toBitVec.toNat % 32 < 32 := Nat.mod_lt _ (by decide)
  generalize b.toBitVec.toNat % 32 = k at *
  have h3 : (0 : Int32).toInt = 0 := by decide
  have h4 : (1 : Int32).toInt = 1 := by decide
  have h5 : 2 ^ k < 2 ^ 32 := Nat.pow_lt_pow_right (by decide) h2
  have h6 : 0 < 2 ^ k := Nat.pow_pos (by decide)
  have h7 : (2 : Nat) ^ 32 = 4294967296 := by decide
  rw [h3, h4] at h1
  generalize 2 ^ k = z at *
  omega
theorem own_xL {a f : Int64} (hf : ¬ f = 0) : ¬ a = (a ^^^ f) := by
  intro q
  apply hf
  have h : a ^^^ a = a ^^^ (a ^^^ f) := by rw [← q]
  rw [← Int64.xor_assoc, Int64.xor_self, Int64.zero_xor] at h
  exact h.symm
theorem own_xI {a f : Int32} (hf : ¬ f = 0) : ¬ a = (a ^^^ f) := by
  intro q
  apply hf
  have h : a ^^^ a = a ^^^ (a ^^^ f) := by rw [← q]
  rw [← Int32.xor_assoc, Int32.xor_self, Int32.zero_xor] at h
  exact h.symm
theorem own_of7 {k : Int32} (h : 0 ≤ k.toInt ∧ k.toInt < 7) : k = 0 ∨ k = 1 ∨ k = 2 ∨ k = 3 ∨ k = 4 ∨ k = 5 ∨ k = 6 := by
  have h2 : k.toInt = (0 : Int32).toInt ∨ k.toInt = (1 : Int32).toInt ∨ k.toInt = (2 : Int32).toInt ∨ k.toInt = (3 : Int32).toInt ∨ k.toInt = (4 : Int32).toInt ∨ k.toInt = (5 : Int32).toInt ∨ k.toInt = (6 : Int32).toInt := by simp; omega
  simpa only [Int32.toInt_inj] using h2
theorem own_eq0 {k : Int32} {lf : Int64} {il : Int32} {x1 : Int64} {x2 : Int32} {x3 x4 : Int64} {x5 : Int32} {y1 : Int64} {y2 : Int32} {y3 y4 : Int64} {y5 : Int32} (e1 : y1 = if k = (1 : Int32) then (x1 ^^^ lf) else x1) (e2 : y2 = if k = (2 : Int32) then (x2 ^^^ il) else x2) (e3 : y3 = if k = (3 : Int32) then (x3 ^^^ lf) else x3) (e4 : y4 = if k = (4 : Int32) then (x4 ^^^ lf) else x4) (e5 : y5 = if k = (5 : Int32) then (x5 ^^^ il) else x5) (hk : k = 0) : (1 : Int32) = (if x1 = y1 then (if x2 = y2 then (if x3 = y3 then (if x4 = y4 then (if x5 = y5 then (1 : Int32) else 0) else 0) else 0) else 0) else 0) := by
  subst hk
  simp at e1 e2 e3 e4 e5
  subst e1 e2 e3 e4 e5
  simp
theorem own_eq0n {k : Int32} {lf : Int64} {il : Int32} {x1 : Int64} {x2 : Int32} {x3 x4 : Int64} {x5 : Int32} {y1 : Int64} {y2 : Int32} {y3 y4 : Int64} {y5 : Int32} (e1 : y1 = if k = (1 : Int32) then (x1 ^^^ lf) else x1) (e2 : y2 = if k = (2 : Int32) then (x2 ^^^ il) else x2) (e3 : y3 = if k = (3 : Int32) then (x3 ^^^ lf) else x3) (e4 : y4 = if k = (4 : Int32) then (x4 ^^^ lf) else x4) (e5 : y5 = if k = (5 : Int32) then (x5 ^^^ il) else x5) (hl : ¬ lf = 0) (hi : ¬ il = 0) (rk : k = 0 ∨ k = 1 ∨ k = 2 ∨ k = 3 ∨ k = 4 ∨ k = 5 ∨ k = 6) (h0 : ¬ k = 0) (h6 : ¬ k = 6) : (0 : Int32) = (if x1 = y1 then (if x2 = y2 then (if x3 = y3 then (if x4 = y4 then (if x5 = y5 then (1 : Int32) else 0) else 0) else 0) else 0) else 0) := by
  rcases rk with rfl | rfl | rfl | rfl | rfl | rfl | rfl
  · exact absurd rfl h0
  · rw [if_pos rfl] at e1
    subst e1
    simp [(own_xL hl : ¬ x1 = (x1 ^^^ lf))]
  · rw [if_pos rfl] at e2
    subst e2
    simp [(own_xI hi : ¬ x2 = (x2 ^^^ il))]
  · rw [if_pos rfl] at e3
    subst e3
    simp [(own_xL hl : ¬ x3 = (x3 ^^^ lf))]
  · rw [if_pos rfl] at e4
    subst e4
    simp [(own_xL hl : ¬ x4 = (x4 ^^^ lf))]
  · rw [if_pos rfl] at e5
    subst e5
    simp [(own_xI hi : ¬ x5 = (x5 ^^^ il))]
  · exact absurd rfl h6
theorem own_eq0s {k : Int32} {lf : Int64} {il : Int32} {x1 : Int64} {x2 : Int32} {x3 x4 : Int64} {x5 : Int32} {y1 : Int64} {y2 : Int32} {y3 y4 : Int64} {y5 : Int32} (e1 : y1 = if k = (1 : Int32) then (x1 ^^^ lf) else x1) (e2 : y2 = if k = (2 : Int32) then (x2 ^^^ il) else x2) (e3 : y3 = if k = (3 : Int32) then (x3 ^^^ lf) else x3) (e4 : y4 = if k = (4 : Int32) then (x4 ^^^ lf) else x4) (e5 : y5 = if k = (5 : Int32) then (x5 ^^^ il) else x5) (hk : k = 0) : (1 : Int32) = (if y1 = x1 then (if y2 = x2 then (if y3 = x3 then (if y4 = x4 then (if y5 = x5 then (1 : Int32) else 0) else 0) else 0) else 0) else 0) := by
  subst hk
  simp at e1 e2 e3 e4 e5
  subst e1 e2 e3 e4 e5
  simp
theorem own_eq0sn {k : Int32} {lf : Int64} {il : Int32} {x1 : Int64} {x2 : Int32} {x3 x4 : Int64} {x5 : Int32} {y1 : Int64} {y2 : Int32} {y3 y4 : Int64} {y5 : Int32} (e1 : y1 = if k = (1 : Int32) then (x1 ^^^ lf) else x1) (e2 : y2 = if k = (2 : Int32) then (x2 ^^^ il) else x2) (e3 : y3 = if k = (3 : Int32) then (x3 ^^^ lf) else x3) (e4 : y4 = if k = (4 : Int32) then (x4 ^^^ lf) else x4) (e5 : y5 = if k = (5 : Int32) then (x5 ^^^ il) else x5) (hl : ¬ lf = 0) (hi : ¬ il = 0) (rk : k = 0 ∨ k = 1 ∨ k = 2 ∨ k = 3 ∨ k = 4 ∨ k = 5 ∨ k = 6) (h0 : ¬ k = 0) (h6 : ¬ k = 6) : (0 : Int32) = (if y1 = x1 then (if y2 = x2 then (if y3 = x3 then (if y4 = x4 then (if y5 = x5 then (1 : Int32) else 0) else 0) else 0) else 0) else 0) := by
  rcases rk with rfl | rfl | rfl | rfl | rfl | rfl | rfl
  · exact absurd rfl h0
  · rw [if_pos rfl] at e1
    subst e1
    simp [(show ¬ (x1 ^^^ lf) = x1 from fun q => own_xL hl q.symm)]
  · rw [if_pos rfl] at e2
    subst e2
    simp [(show ¬ (x2 ^^^ il) = x2 from fun q => own_xI hi q.symm)]
  · rw [if_pos rfl] at e3
    subst e3
    simp [(show ¬ (x3 ^^^ lf) = x3 from fun q => own_xL hl q.symm)]
  · rw [if_pos rfl] at e4
    subst e4
    simp [(show ¬ (x4 ^^^ lf) = x4 from fun q => own_xL hl q.symm)]
  · rw [if_pos rfl] at e5
    subst e5
    simp [(show ¬ (x5 ^^^ il) = x5 from fun q => own_xI hi q.symm)]
  · exact absurd rfl h6
def Q0 (Z : State) (h0 : Heap) (n0 : Nat) (v : Option Value) (h : Heap) (L : List Loc) : Prop := v = some (.int (1 : Int32)) ∧ Fr n0 L
theorem pn_rm0 : plainName "com/example/keyturn/keyturn/format/EndOfCentralDirectoryEqualsPinLaw" = true := by first | (simp [plainName, overriddenIn]; done) | decide +kernel
theorem pd_rm0_0 : parseMethodDescriptor "(JIJJI)V" = some ⟨[.long, .int, .long, .long, .int], none⟩ := by decide +kernel
theorem pd_rm0_1 : parseMethodDescriptor "(Ljava/lang/Object;)Z" = some ⟨[(.object "java/lang/Object")], some .boolean⟩ := by decide +kernel
theorem pd_rm0_2 : parseMethodDescriptor "(I)Ljava/lang/Integer;" = some ⟨[.int], some (.object "java/lang/Integer")⟩ := by decide +kernel
theorem ef_rm0 (m : MethodId) (x1 : Int64) (x2 : Int32) (x3 : Int64) (x4 : Int64) (x5 : Int32) (x6 : Int32) : entryFrame m #[(.long x1), (.int x2), (.long x3), (.long x4), (.int x5), (.int x6)] maxLocals = mkF m 0 #[.val (.long x1), .second, .val (.int x2), .val (.long x3), .second, .val (.long x4), .second, .val (.int x5), .val (.int x6), .unset, .unset, .unset, .unset, .unset, .unset, .unset, .unset, .unset, .unset, .unset, .unset, .unset, .unset, .unset, .unset] [] := by first | (simp [entryFrame, mkF, argsToLocals, Value.category, maxLocals]; done) | rfl
set_option maxRecDepth 65536 in
set_option maxHeartbeats 40000000 in
theorem rm0 (l : Launch) (Z : State) (a0 : Array Value) (hw : ∀ d ∈ tables_1, d.before a0 Z = true) (ws : List Jvm.Cond) (x1 : Int64) (x2 : Int32) (x3 x4 : Int64) (x5 x6 : Int32) (wC : Addr) (h0 : Heap) (n0 : Nat) (Z0 : n0 ≤ h0.size) (S_high : Sta Z h0 "java/lang/Integer$IntegerCache" "high" "I" (.int (127 : Int32))) (S_cache : Sta Z h0 "java/lang/Integer$IntegerCache" "cache" "[Ljava/lang/Integer;" (.ref wC)) (I_C : own_IC Z h0 wC) :
    MetFree l x (head1 (Jvm.Cond.code x code maxLocals ret :: ws) room_1) (fun a U => a = #[(.long x1), (.int x2), (.long x3), (.long x4), (.int x5), (.int x6)] ∧ Z.Warmed39 U.vm ∧ U.heap = h0) (fun _ _ _ _ _ => True) (fun _ U o U' => ∃ v L, o = .returned v ∧ Q0 Z h0 n0 v U'.heap L ∧ FrameEnd U o U' L room_1.cells room_1.slots) := by
  refine MetFree.of_bodySF (plainFor_of_name pn_rm0) hisR ?_
  intro p e s m args below meth c s₁ Bd hml0 hP hK
  obtain ⟨rfl, hZ, hh⟩ := hP
  have hx := Bd.exec
  have hby := Bd.bytes
  have hml : c.maxLocals = 25 := hml0
  have hown : s.vm.findClass "com/example/keyturn/keyturn/format/EndOfCentralDirectoryEqualsPinLaw" = some m.cls := findClass_of_methodNamed Bd.named
  have hnm := (name_of_methodNamed Bd.named Bd.method).1
  have X0 : Stand p l e room_1 s m #[(.long x1), (.int x2), (.long x3), (.long x4), (.int x5), (.int x6)] below meth c s₁ [] 0 0 := Stand.of_body Bd
  have e0 : s₁.heap = h0 := by rw [← hh, Bd.state]; rfl
  have N0 := Fr.nil n0
  have pre0 : ∀ tt, Steps p.tables e below (s₁.setTop (mkF m 0 #[.val (.long x1), .second, .val (.int x2), .val (.long x3), .second, .val (.long x4), .second, .val (.int x5), .val (.int x6), .unset, .unset, .unset, .unset, .unset, .unset, .unset, .unset, .unset, .unset, .unset, .unset, .unset, .unset, .unset, .unset] [])) tt → Steps p.tables e below (s₁.setTop (entryFrame m #[(.long x1), (.int x2), (.long x3), (.long x4), (.int x5), (.int x6)] maxLocals)) tt := fun tt kt => castTop (ef_rm0 m x1 x2 x3 x4 x5 x6) kt
  obtain ⟨k, hk⟩ : ∃ z : Int32, z = ((x6 &&& (2147483647 : Int32)) % (7 : Int32)) := ⟨_, rfl⟩
  have pre1 : ∀ tt, Steps p.tables e below (s₁.setTop (mkF m 8 #[.val (.long x1), .second, .val (.int x2), .val (.long x3), .second, .val (.long x4), .second, .val (.int x5), .val (.int x6), .unset, .unset, .unset, .unset, .unset, .unset, .unset, .unset, .unset, .unset, .unset, .unset, .unset, .unset, .unset, .unset] [(.int k)])) tt → Steps p.tables e below (s₁.setTop (entryFrame m #[(.long x1), (.int x2), (.long x3), (.long x4), (.int x5), (.int x6)] maxLocals)) tt := by
    intro tt kt
    refine pre0 tt ?_
    show Steps p.tables e below (s₁.setTop (mkF m 0 #[.val (.long x1), .second, .val (.int x2), .val (.long x3), .second, .val (.long x4), .second, .val (.int x5), .val (.int x6), .unset, .unset, .unset, .unset, .unset, .unset, .unset, .unset, .unset, .unset, .unset, .unset, .unset, .unset, .unset, .unset] [])) _
    refine XS.iload X0.here hx rfl (hb hby at_0) rfl ?_
    show Steps p.tables e below (s₁.setTop (mkF m 2 #[.val (.long x1), .second, .val (.int x2), .val (.long x3), .second, .val (.long x4), .second, .val (.int x5), .val (.int x6), .unset, .unset, .unset, .unset, .unset, .unset, .unset, .unset, .unset, .unset, .unset, .unset, .unset, .unset, .unset, .unset] [(.int x6)])) _
    refine X0.ldcInt hx hown (mvT hZ (hw _ (List.mem_of_getElem? (i := 0) rfl))) (g := (mkF m 2 #[.val (.long x1), .second, .val (.int x2), .val (.long x3), .second, .val (.long x4), .second, .val (.int x5), .val (.int x6), .unset, .unset, .unset, .unset, .unset, .unset, .unset, .unset, .unset, .unset, .unset, .unset, .unset, .unset, .unset, .unset] [(.int x6)])) rfl (hb hby at_2) _ ?_
    show Steps p.tables e below (s₁.setTop (mkF m 4 #[.val (.long x1), .second, .val (.int x2), .val (.long x3), .second, .val (.long x4), .second, .val (.int x5), .val (.int x6), .unset, .unset, .unset, .unset, .unset, .unset, .unset, .unset, .unset, .unset, .unset, .unset, .unset, .unset, .unset, .unset] [(.int (2147483647 : Int32)), (.int x6)])) _
    refine XS.iand X0.here hx rfl (hb hby at_4) rfl ?_
    show Steps p.tables e below (s₁.setTop (mkF m 5 #[.val (.long x1), .second, .val (.int x2), .val (.long x3), .second, .val (.long x4), .second, .val (.int x5), .val (.int x6), .unset, .unset, .unset, .unset, .unset, .unset, .unset, .unset, .unset, .unset, .unset, .unset, .unset, .unset, .unset, .unset] [(.int (x6 &&& (2147483647 : Int32)))])) _
    refine XS.bipush X0.here hx rfl (hb hby at_5) ?_
    show Steps p.tables e below (s₁.setTop (mkF m 7 #[.val (.long x1), .second, .val (.int x2), .val (.long x3), .second, .val (.long x4), .second, .val (.int x5), .val (.int x6), .unset, .unset, .unset, .unset, .unset, .unset, .unset, .unset, .unset, .unset, .unset, .unset, .unset, .unset, .unset, .unset] [(.int (7 : Int32)), (.int (x6 &&& (2147483647 : Int32)))])) _
    refine iremM (g := (mkF m 7 #[.val (.long x1), .second, .val (.int x2), .val (.long x3), .second, .val (.long x4), .second, .val (.int x5), .val (.int x6), .unset, .unset, .unset, .unset, .unset, .unset, .unset, .unset, .unset, .unset, .unset, .unset, .unset, .unset, .unset, .unset] [(.int (7 : Int32)), (.int (x6 &&& (2147483647 : Int32)))])) X0 hx rfl (hb hby at_7) rfl (by decide : ¬ ((7 : Int32) = (0 : Int32))) ?_
    show Steps p.tables e below (s₁.setTop (mkF m 8 #[.val (.long x1), .second, .val (.int x2), .val (.long x3), .second, .val (.long x4), .second, .val (.int x5), .val (.int x6), .unset, .unset, .unset, .unset, .unset, .unset, .unset, .unset, .unset, .unset, .unset, .unset, .unset, .unset, .unset, .unset] [(.int ((x6 &&& (2147483647 : Int32)) % (7 : Int32)))])) _
    rw [← hk]
    exact kt
  have rk := own_of7 (own_rem x6 (7 : Int32) (by decide))
  rw [← hk] at rk
  clear hk
  obtain ⟨bit, hbit⟩ : ∃ z : Int32, z = (((x6.toUInt32 >>> ((3 : Int32) &&& 31).toUInt32).toInt32) &&& (63 : Int32)) := ⟨_, rfl⟩
  have pre2 : ∀ tt, Steps p.tables e below (s₁.setTop (mkF m 17 #[.val (.long x1), .second, .val (.int x2), .val (.long x3), .second, .val (.long x4), .second, .val (.int x5), .val (.int x6), .val (.int k), .unset, .unset, .unset, .unset, .unset, .unset, .unset, .unset, .unset, .unset, .unset, .unset, .unset, .unset, .unset] [(.int bit)])) tt → Steps p.tables e below (s₁.setTop (entryFrame m #[(.long x1), (.int x2), (.long x3), (.long x4), (.int x5), (.int x6)] maxLocals)) tt := by
    intro tt kt
    refine pre1 tt ?_
    show Steps p.tables e below (s₁.setTop (mkF m 8 #[.val (.long x1), .second, .val (.int x2), .val (.long x3), .second, .val (.long x4), .second, .val (.int x5), .val (.int x6), .unset, .unset, .unset, .unset, .unset, .unset, .unset, .unset, .unset, .unset, .unset, .unset, .unset, .unset, .unset, .unset] [(.int k)])) _
    refine XS.istore X0.here hx rfl (hb hby at_8) rfl (l' := #[.val (.long x1), .second, .val (.int x2), .val (.long x3), .second, .val (.long x4), .second, .val (.int x5), .val (.int x6), .val (.int k), .unset, .unset, .unset, .unset, .unset, .unset, .unset, .unset, .unset, .unset, .unset, .unset, .unset, .unset, .unset]) rfl ?_
    show Steps p.tables e below (s₁.setTop (mkF m 10 #[.val (.long x1), .second, .val (.int x2), .val (.long x3), .second, .val (.long x4), .second, .val (.int x5), .val (.int x6), .val (.int k), .unset, .unset, .unset, .unset, .unset, .unset, .unset, .unset, .unset, .unset, .unset, .unset, .unset, .unset, .unset] [])) _
    refine XS.iload X0.here hx rfl (hb hby at_10) rfl ?_
    show Steps p.tables e below (s₁.setTop (mkF m 12 #[.val (.long x1), .second, .val (.int x2), .val (.long x3), .second, .val (.long x4), .second, .val (.int x5), .val (.int x6), .val (.int k), .unset, .unset, .unset, .unset, .unset, .unset, .unset, .unset, .unset, .unset, .unset, .unset, .unset, .unset, .unset] [(.int x6)])) _
    refine XS.iconst X0.here hx rfl (hb hby at_12) ?_
    show Steps p.tables e below (s₁.setTop (mkF m 13 #[.val (.long x1), .second, .val (.int x2), .val (.long x3), .second, .val (.long x4), .second, .val (.int x5), .val (.int x6), .val (.int k), .unset, .unset, .unset, .unset, .unset, .unset, .unset, .unset, .unset, .unset, .unset, .unset, .unset, .unset, .unset] [(.int (3 : Int32)), (.int x6)])) _
    refine XS.iushr X0.here hx rfl (hb hby at_13) rfl ?_
    show Steps p.tables e below (s₁.setTop (mkF m 14 #[.val (.long x1), .second, .val (.int x2), .val (.long x3), .second, .val (.long x4), .second, .val (.int x5), .val (.int x6), .val (.int k), .unset, .unset, .unset, .unset, .unset, .unset, .unset, .unset, .unset, .unset, .unset, .unset, .unset, .unset, .unset] [(.int ((x6.toUInt32 >>> ((3 : Int32) &&& 31).toUInt32).toInt32))])) _
    refine XS.bipush X0.here hx rfl (hb hby at_14) ?_
    show Steps p.tables e below (s₁.setTop (mkF m 16 #[.val (.long x1), .second, .val (.int x2), .val (.long x3), .second, .val (.long x4), .second, .val (.int x5), .val (.int x6), .val (.int k), .unset, .unset, .unset, .unset, .unset, .unset, .unset, .unset, .unset, .unset, .unset, .unset, .unset, .unset, .unset] [(.int (63 : Int32)), (.int ((x6.toUInt32 >>> ((3 : Int32) &&& 31).toUInt32).toInt32))])) _
    refine XS.iand X0.here hx rfl (hb hby at_16) rfl ?_
    show Steps p.tables e below (s₁.setTop (mkF m 17 #[.val (.long x1), .second, .val (.int x2), .val (.long x3), .second, .val (.long x4), .second, .val (.int x5), .val (.int x6), .val (.int k), .unset, .unset, .unset, .unset, .unset, .unset, .unset, .unset, .unset, .unset, .unset, .unset, .unset, .unset, .unset] [(.int (((x6.toUInt32 >>> ((3 : Int32) &&& 31).toUInt32).toInt32) &&& (63 : Int32)))])) _
    rw [← hbit]
    exact kt
  clear hbit
  obtain ⟨lf, elf⟩ : ∃ z : Int64, z = ((1 : Int64) <<< (bit &&& 0x3f).toInt64) := ⟨_, rfl⟩
  have pre3 : ∀ tt, Steps p.tables e below (s₁.setTop (mkF m 23 #[.val (.long x1), .second, .val (.int x2), .val (.long x3), .second, .val (.long x4), .second, .val (.int x5), .val (.int x6), .val (.int k), .val (.int bit), .unset, .unset, .unset, .unset, .unset, .unset, .unset, .unset, .unset, .unset, .unset, .unset, .unset, .unset] [(.long lf)])) tt → Steps p.tables e below (s₁.setTop (entryFrame m #[(.long x1), (.int x2), (.long x3), (.long x4), (.int x5), (.int x6)] maxLocals)) tt := by
    intro tt kt
    refine pre2 tt ?_
    show Steps p.tables e below (s₁.setTop (mkF m 17 #[.val (.long x1), .second, .val (.int x2), .val (.long x3), .second, .val (.long x4), .second, .val (.int x5), .val (.int x6), .val (.int k), .unset, .unset, .unset, .unset, .unset, .unset, .unset, .unset, .unset, .unset, .unset, .unset, .unset, .unset, .unset] [(.int bit)])) _
    refine XS.istore X0.here hx rfl (hb hby at_17) rfl (l' := #[.val (.long x1), .second, .val (.int x2), .val (.long x3), .second, .val (.long x4), .second, .val (.int x5), .val (.int x6), .val (.int k), .val (.int bit), .unset, .unset, .unset, .unset, .unset, .unset, .unset, .unset, .unset, .unset, .unset, .unset, .unset, .unset]) rfl ?_
    show Steps p.tables e below (s₁.setTop (mkF m 19 #[.val (.long x1), .second, .val (.int x2), .val (.long x3), .second, .val (.long x4), .second, .val (.int x5), .val (.int x6), .val (.int k), .val (.int bit), .unset, .unset, .unset, .unset, .unset, .unset, .unset, .unset, .unset, .unset, .unset, .unset, .unset, .unset] [])) _
    refine XS.lconst X0.here hx rfl (hb hby at_19) ?_
    show Steps p.tables e below (s₁.setTop (mkF m 20 #[.val (.long x1), .second, .val (.int x2), .val (.long x3), .second, .val (.long x4), .second, .val (.int x5), .val (.int x6), .val (.int k), .val (.int bit), .unset, .unset, .unset, .unset, .unset, .unset, .unset, .unset, .unset, .unset, .unset, .unset, .unset, .unset] [(.long (1 : Int64))])) _
    refine XS.iload X0.here hx rfl (hb hby at_20) rfl ?_
    show Steps p.tables e below (s₁.setTop (mkF m 22 #[.val (.long x1), .second, .val (.int x2), .val (.long x3), .second, .val (.long x4), .second, .val (.int x5), .val (.int x6), .val (.int k), .val (.int bit), .unset, .unset, .unset, .unset, .unset, .unset, .unset, .unset, .unset, .unset, .unset, .unset, .unset, .unset] [(.int bit), (.long (1 : Int64))])) _
    refine XS.lshl X0.here hx rfl (hb hby at_22) rfl ?_
    show Steps p.tables e below (s₁.setTop (mkF m 23 #[.val (.long x1), .second, .val (.int x2), .val (.long x3), .second, .val (.long x4), .second, .val (.int x5), .val (.int x6), .val (.int k), .val (.int bit), .unset, .unset, .unset, .unset, .unset, .unset, .unset, .unset, .unset, .unset, .unset, .unset, .unset, .unset] [(.long ((1 : Int64) <<< (bit &&& 0x3f).toInt64))])) _
    rw [← elf]
    exact kt
  have hlf := own_lf bit
  rw [← elf] at hlf
  clear elf
  obtain ⟨il, eil⟩ : ∃ z : Int32, z = ((1 : Int32) <<< ((bit &&& (31 : Int32)) &&& 31)) := ⟨_, rfl⟩
  have pre4 : ∀ tt, Steps p.tables e below (s₁.setTop (mkF m 32 #[.val (.long x1), .second, .val (.int x2), .val (.long x3), .second, .val (.long x4), .second, .val (.int x5), .val (.int x6), .val (.int k), .val (.int bit), .val (.long lf), .second, .unset, .unset, .unset, .unset, .unset, .unset, .unset, .unset, .unset, .unset, .unset, .unset] [(.int il)])) tt → Steps p.tables e below (s₁.setTop (entryFrame m #[(.long x1), (.int x2), (.long x3), (.long x4), (.int x5), (.int x6)] maxLocals)) tt := by
    intro tt kt
    refine pre3 tt ?_
    show Steps p.tables e below (s₁.setTop (mkF m 23 #[.val (.long x1), .second, .val (.int x2), .val (.long x3), .second, .val (.long x4), .second, .val (.int x5), .val (.int x6), .val (.int k), .val (.int bit), .unset, .unset, .unset, .unset, .unset, .unset, .unset, .unset, .unset, .unset, .unset, .unset, .unset, .unset] [(.long lf)])) _
    refine XS.lstore X0.here hx rfl (hb hby at_23) rfl (l' := #[.val (.long x1), .second, .val (.int x2), .val (.long x3), .second, .val (.long x4), .second, .val (.int x5), .val (.int x6), .val (.int k), .val (.int bit), .val (.long lf), .second, .unset, .unset, .unset, .unset, .unset, .unset, .unset, .unset, .unset, .unset, .unset, .unset]) rfl ?_
    show Steps p.tables e below (s₁.setTop (mkF m 25 #[.val (.long x1), .second, .val (.int x2), .val (.long x3), .second, .val (.long x4), .second, .val (.int x5), .val (.int x6), .val (.int k), .val (.int bit), .val (.long lf), .second, .unset, .unset, .unset, .unset, .unset, .unset, .unset, .unset, .unset, .unset, .unset, .unset] [])) _
    refine XS.iconst X0.here hx rfl (hb hby at_25) ?_
    show Steps p.tables e below (s₁.setTop (mkF m 26 #[.val (.long x1), .second, .val (.int x2), .val (.long x3), .second, .val (.long x4), .second, .val (.int x5), .val (.int x6), .val (.int k), .val (.int bit), .val (.long lf), .second, .unset, .unset, .unset, .unset, .unset, .unset, .unset, .unset, .unset, .unset, .unset, .unset] [(.int (1 : Int32))])) _
    refine XS.iload X0.here hx rfl (hb hby at_26) rfl ?_
    show Steps p.tables e below (s₁.setTop (mkF m 28 #[.val (.long x1), .second, .val (.int x2), .val (.long x3), .second, .val (.long x4), .second, .val (.int x5), .val (.int x6), .val (.int k), .val (.int bit), .val (.long lf), .second, .unset, .unset, .unset, .unset, .unset, .unset, .unset, .unset, .unset, .unset, .unset, .unset] [(.int bit), (.int (1 : Int32))])) _
    refine XS.bipush X0.here hx rfl (hb hby at_28) ?_
    show Steps p.tables e below (s₁.setTop (mkF m 30 #[.val (.long x1), .second, .val (.int x2), .val (.long x3), .second, .val (.long x4), .second, .val (.int x5), .val (.int x6), .val (.int k), .val (.int bit), .val (.long lf), .second, .unset, .unset, .unset, .unset, .unset, .unset, .unset, .unset, .unset, .unset, .unset, .unset] [(.int (31 : Int32)), (.int bit), (.int (1 : Int32))])) _
    refine XS.iand X0.here hx rfl (hb hby at_30) rfl ?_
    show Steps p.tables e below (s₁.setTop (mkF m 31 #[.val (.long x1), .second, .val (.int x2), .val (.long x3), .second, .val (.long x4), .second, .val (.int x5), .val (.int x6), .val (.int k), .val (.int bit), .val (.long lf), .second, .unset, .unset, .unset, .unset, .unset, .unset, .unset, .unset, .unset, .unset, .unset, .unset] [(.int (bit &&& (31 : Int32))), (.int (1 : Int32))])) _
    refine XS.ishl X0.here hx rfl (hb hby at_31) rfl ?_
    show Steps p.tables e below (s₁.setTop (mkF m 32 #[.val (.long x1), .second, .val (.int x2), .val (.long x3), .second, .val (.long x4), .second, .val (.int x5), .val (.int x6), .val (.int k), .val (.int bit), .val (.long lf), .second, .unset, .unset, .unset, .unset, .unset, .unset, .unset, .unset, .unset, .unset, .unset, .unset] [(.int ((1 : Int32) <<< ((bit &&& (31 : Int32)) &&& 31)))])) _
    rw [← eil]
    exact kt
  have hil := own_if (bit &&& (31 : Int32))
  rw [← eil] at hil
  clear eil
  obtain ⟨y1, ey1⟩ : ∃ z : Int64, z = if k = (1 : Int32) then (x1 ^^^ lf) else x1 := ⟨_, rfl⟩
  have pre5 : ∀ tt, Steps p.tables e below (s₁.setTop (mkF m 34 #[.val (.long x1), .second, .val (.int x2), .val (.long x3), .second, .val (.long x4), .second, .val (.int x5), .val (.int x6), .val (.int k), .val (.int bit), .val (.long lf), .second, .val (.int il), .unset, .unset, .unset, .unset, .unset, .unset, .unset, .unset, .unset, .unset, .unset] [])) tt → Steps p.tables e below (s₁.setTop (entryFrame m #[(.long x1), (.int x2), (.long x3), (.long x4), (.int x5), (.int x6)] maxLocals)) tt := by
    intro tt kt
    refine pre4 tt ?_
    show Steps p.tables e below (s₁.setTop (mkF m 32 #[.val (.long x1), .second, .val (.int x2), .val (.long x3), .second, .val (.long x4), .second, .val (.int x5), .val (.int x6), .val (.int k), .val (.int bit), .val (.long lf), .second, .unset, .unset, .unset, .unset, .unset, .unset, .unset, .unset, .unset, .unset, .unset, .unset] [(.int il)])) _
    refine XS.istore X0.here hx rfl (hb hby at_32) rfl (l' := #[.val (.long x1), .second, .val (.int x2), .val (.long x3), .second, .val (.long x4), .second, .val (.int x5), .val (.int x6), .val (.int k), .val (.int bit), .val (.long lf), .second, .val (.int il), .unset, .unset, .unset, .unset, .unset, .unset, .unset, .unset, .unset, .unset, .unset]) rfl ?_
    exact kt
  obtain ⟨T6, L6, N6, X6, e6, st6⟩ : ∃ (T' : State) (L' : List Loc), Fr n0 L' ∧ Stand p l e room_1 s m #[(.long x1), (.int x2), (.long x3), (.long x4), (.int x5), (.int x6)] below meth c T' L' 0 0 ∧ T'.heap = h0 ∧ ∀ tt, Steps p.tables e below (T'.setTop (mkF m 48 #[.val (.long x1), .second, .val (.int x2), .val (.long x3), .second, .val (.long x4), .second, .val (.int x5), .val (.int x6), .val (.int k), .val (.int bit), .val (.long lf), .second, .val (.int il), .unset, .unset, .unset, .unset, .unset, .unset, .unset, .unset, .unset, .unset, .unset] [(.long y1)])) tt → Steps p.tables e below (s₁.setTop (mkF m 34 #[.val (.long x1), .second, .val (.int x2), .val (.long x3), .second, .val (.long x4), .second, .val (.int x5), .val (.int x6), .val (.int k), .val (.int bit), .val (.long lf), .second, .val (.int il), .unset, .unset, .unset, .unset, .unset, .unset, .unset, .unset, .unset, .unset, .unset] [])) tt := by
    have pid6 : ∀ tt, Steps p.tables e below (s₁.setTop (mkF m 34 #[.val (.long x1), .second, .val (.int x2), .val (.long x3), .second, .val (.long x4), .second, .val (.int x5), .val (.int x6), .val (.int k), .val (.int bit), .val (.long lf), .second, .val (.int il), .unset, .unset, .unset, .unset, .unset, .unset, .unset, .unset, .unset, .unset, .unset] [])) tt → Steps p.tables e below (s₁.setTop (mkF m 34 #[.val (.long x1), .second, .val (.int x2), .val (.long x3), .second, .val (.long x4), .second, .val (.int x5), .val (.int x6), .val (.int k), .val (.int bit), .val (.long lf), .second, .val (.int il), .unset, .unset, .unset, .unset, .unset, .unset, .unset, .unset, .unset, .unset, .unset] [])) tt := fun tt kt => kt
    have pre7 : ∀ tt, Steps p.tables e below (s₁.setTop (mkF m 37 #[.val (.long x1), .second, .val (.int x2), .val (.long x3), .second, .val (.long x4), .second, .val (.int x5), .val (.int x6), .val (.int k), .val (.int bit), .val (.long lf), .second, .val (.int il), .unset, .unset, .unset, .unset, .unset, .unset, .unset, .unset, .unset, .unset, .unset] [(.int (1 : Int32)), (.int k)])) tt → Steps p.tables e below (s₁.setTop (mkF m 34 #[.val (.long x1), .second, .val (.int x2), .val (.long x3), .second, .val (.long x4), .second, .val (.int x5), .val (.int x6), .val (.int k), .val (.int bit), .val (.long lf), .second, .val (.int il), .unset, .unset, .unset, .unset, .unset, .unset, .unset, .unset, .unset, .unset, .unset] [])) tt := by
      intro tt kt
      refine pid6 tt ?_
      show Steps p.tables e below (s₁.setTop (mkF m 34 #[.val (.long x1), .second, .val (.int x2), .val (.long x3), .second, .val (.long x4), .second, .val (.int x5), .val (.int x6), .val (.int k), .val (.int bit), .val (.long lf), .second, .val (.int il), .unset, .unset, .unset, .unset, .unset, .unset, .unset, .unset, .unset, .unset, .unset] [])) _
      refine XS.iload X0.here hx rfl (hb hby at_34) rfl ?_
      show Steps p.tables e below (s₁.setTop (mkF m 36 #[.val (.long x1), .second, .val (.int x2), .val (.long x3), .second, .val (.long x4), .second, .val (.int x5), .val (.int x6), .val (.int k), .val (.int bit), .val (.long lf), .second, .val (.int il), .unset, .unset, .unset, .unset, .unset, .unset, .unset, .unset, .unset, .unset, .unset] [(.int k)])) _
      refine XS.iconst X0.here hx rfl (hb hby at_36) ?_
      exact kt
    by_cases c37_8 : k = (1 : Int32)
    · have pre9 : ∀ tt, Steps p.tables e below (s₁.setTop (mkF m 48 #[.val (.long x1), .second, .val (.int x2), .val (.long x3), .second, .val (.long x4), .second, .val (.int x5), .val (.int x6), .val (.int k), .val (.int bit), .val (.long lf), .second, .val (.int il), .unset, .unset, .unset, .unset, .unset, .unset, .unset, .unset, .unset, .unset, .unset] [(.long (x1 ^^^ lf))])) tt → Steps p.tables e below (s₁.setTop (mkF m 34 #[.val (.long x1), .second, .val (.int x2), .val (.long x3), .second, .val (.long x4), .second, .val (.int x5), .val (.int x6), .val (.int k), .val (.int bit), .val (.long lf), .second, .val (.int il), .unset, .unset, .unset, .unset, .unset, .unset, .unset, .unset, .unset, .unset, .unset] [])) tt := by
        intro tt kt
        refine pre7 tt ?_
        show Steps p.tables e below (s₁.setTop (mkF m 37 #[.val (.long x1), .second, .val (.int x2), .val (.long x3), .second, .val (.long x4), .second, .val (.int x5), .val (.int x6), .val (.int k), .val (.int bit), .val (.long lf), .second, .val (.int il), .unset, .unset, .unset, .unset, .unset, .unset, .unset, .unset, .unset, .unset, .unset] [(.int (1 : Int32)), (.int k)])) _
        refine XS.icmpNo X0.here hx rfl (hb hby at_37) rfl (teq c37_8).2 ?_
        show Steps p.tables e below (s₁.setTop (mkF m 40 #[.val (.long x1), .second, .val (.int x2), .val (.long x3), .second, .val (.long x4), .second, .val (.int x5), .val (.int x6), .val (.int k), .val (.int bit), .val (.long lf), .second, .val (.int il), .unset, .unset, .unset, .unset, .unset, .unset, .unset, .unset, .unset, .unset, .unset] [])) _
        refine XS.lloadN X0.here hx rfl (hb hby at_40) rfl ?_
        show Steps p.tables e below (s₁.setTop (mkF m 41 #[.val (.long x1), .second, .val (.int x2), .val (.long x3), .second, .val (.long x4), .second, .val (.int x5), .val (.int x6), .val (.int k), .val (.int bit), .val (.long lf), .second, .val (.int il), .unset, .unset, .unset, .unset, .unset, .unset, .unset, .unset, .unset, .unset, .unset] [(.long x1)])) _
        refine XS.lload X0.here hx rfl (hb hby at_41) rfl ?_
        show Steps p.tables e below (s₁.setTop (mkF m 43 #[.val (.long x1), .second, .val (.int x2), .val (.long x3), .second, .val (.long x4), .second, .val (.int x5), .val (.int x6), .val (.int k), .val (.int bit), .val (.long lf), .second, .val (.int il), .unset, .unset, .unset, .unset, .unset, .unset, .unset, .unset, .unset, .unset, .unset] [(.long lf), (.long x1)])) _
        refine XS.lxor X0.here hx rfl (hb hby at_43) rfl ?_
        show Steps p.tables e below (s₁.setTop (mkF m 44 #[.val (.long x1), .second, .val (.int x2), .val (.long x3), .second, .val (.long x4), .second, .val (.int x5), .val (.int x6), .val (.int k), .val (.int bit), .val (.long lf), .second, .val (.int il), .unset, .unset, .unset, .unset, .unset, .unset, .unset, .unset, .unset, .unset, .unset] [(.long (x1 ^^^ lf))])) _
        refine XS.goto X0.here hx rfl (pc0 := 44) (pc' := 48) rfl (hb hby at_44) (by decide) (by decide) ?_
        exact kt
      refine ⟨s₁, _, N0, X0, e0, fun tt kt => pre9 tt ?_⟩
      rw [ey1, if_pos c37_8] at kt
      exact kt
    · have pre10 : ∀ tt, Steps p.tables e below (s₁.setTop (mkF m 48 #[.val (.long x1), .second, .val (.int x2), .val (.long x3), .second, .val (.long x4), .second, .val (.int x5), .val (.int x6), .val (.int k), .val (.int bit), .val (.long lf), .second, .val (.int il), .unset, .unset, .unset, .unset, .unset, .unset, .unset, .unset, .unset, .unset, .unset] [(.long x1)])) tt → Steps p.tables e below (s₁.setTop (mkF m 34 #[.val (.long x1), .second, .val (.int x2), .val (.long x3), .second, .val (.long x4), .second, .val (.int x5), .val (.int x6), .val (.int k), .val (.int bit), .val (.long lf), .second, .val (.int il), .unset, .unset, .unset, .unset, .unset, .unset, .unset, .unset, .unset, .unset, .unset] [])) tt := by
        intro tt kt
        refine pre7 tt ?_
        show Steps p.tables e below (s₁.setTop (mkF m 37 #[.val (.long x1), .second, .val (.int x2), .val (.long x3), .second, .val (.long x4), .second, .val (.int x5), .val (.int x6), .val (.int k), .val (.int bit), .val (.long lf), .second, .val (.int il), .unset, .unset, .unset, .unset, .unset, .unset, .unset, .unset, .unset, .unset, .unset] [(.int (1 : Int32)), (.int k)])) _
        refine XS.icmpYes X0.here hx rfl (pc0 := 37) (pc' := 47) rfl (hb hby at_37) rfl (feq c37_8).2 (by decide) (by decide) ?_
        show Steps p.tables e below (s₁.setTop (mkF m 47 #[.val (.long x1), .second, .val (.int x2), .val (.long x3), .second, .val (.long x4), .second, .val (.int x5), .val (.int x6), .val (.int k), .val (.int bit), .val (.long lf), .second, .val (.int il), .unset, .unset, .unset, .unset, .unset, .unset, .unset, .unset, .unset, .unset, .unset] [])) _
        refine XS.lloadN X0.here hx rfl (hb hby at_47) rfl ?_
        exact kt
      refine ⟨s₁, _, N0, X0, e0, fun tt kt => pre10 tt ?_⟩
      rw [ey1, if_neg c37_8] at kt
      exact kt
  have pre11 : ∀ tt, Steps p.tables e below (T6.setTop (mkF m 48 #[.val (.long x1), .second, .val (.int x2), .val (.long x3), .second, .val (.long x4), .second, .val (.int x5), .val (.int x6), .val (.int k), .val (.int bit), .val (.long lf), .second, .val (.int il), .unset, .unset, .unset, .unset, .unset, .unset, .unset, .unset, .unset, .unset, .unset] [(.long y1)])) tt → Steps p.tables e below (s₁.setTop (entryFrame m #[(.long x1), (.int x2), (.long x3), (.long x4), (.int x5), (.int x6)] maxLocals)) tt := by
    intro tt kt
    refine pre5 tt ?_
    show Steps p.tables e below (s₁.setTop (mkF m 34 #[.val (.long x1), .second, .val (.int x2), .val (.long x3), .second, .val (.long x4), .second, .val (.int x5), .val (.int x6), .val (.int k), .val (.int bit), .val (.long lf), .second, .val (.int il), .unset, .unset, .unset, .unset, .unset, .unset, .unset, .unset, .unset, .unset, .unset] [])) _
    refine st6 _ ?_
    exact kt
  obtain ⟨y2, ey2⟩ : ∃ z : Int32, z = if k = (2 : Int32) then (x2 ^^^ il) else x2 := ⟨_, rfl⟩
  have pre12 : ∀ tt, Steps p.tables e below (T6.setTop (mkF m 50 #[.val (.long x1), .second, .val (.int x2), .val (.long x3), .second, .val (.long x4), .second, .val (.int x5), .val (.int x6), .val (.int k), .val (.int bit), .val (.long lf), .second, .val (.int il), .val (.long y1), .second, .unset, .unset, .unset, .unset, .unset, .unset, .unset, .unset, .unset] [])) tt → Steps p.tables e below (s₁.setTop (entryFrame m #[(.long x1), (.int x2), (.long x3), (.long x4), (.int x5), (.int x6)] maxLocals)) tt := by
    intro tt kt
    refine pre11 tt ?_
    show Steps p.tables e below (T6.setTop (mkF m 48 #[.val (.long x1), .second, .val (.int x2), .val (.long x3), .second, .val (.long x4), .second, .val (.int x5), .val (.int x6), .val (.int k), .val (.int bit), .val (.long lf), .second, .val (.int il), .unset, .unset, .unset, .unset, .unset, .unset, .unset, .unset, .unset, .unset, .unset] [(.long y1)])) _
    refine XS.lstore X6.here hx rfl (hb hby at_48) rfl (l' := #[.val (.long x1), .second, .val (.int x2), .val (.long x3), .second, .val (.long x4), .second, .val (.int x5), .val (.int x6), .val (.int k), .val (.int bit), .val (.long lf), .second, .val (.int il), .val (.long y1), .second, .unset, .unset, .unset, .unset, .unset, .unset, .unset, .unset, .unset]) rfl ?_
    exact kt
  obtain ⟨T13, L13, N13, X13, e13, st13⟩ : ∃ (T' : State) (L' : List Loc), Fr n0 L' ∧ Stand p l e room_1 s m #[(.long x1), (.int x2), (.long x3), (.long x4), (.int x5), (.int x6)] below meth c T' L' 0 0 ∧ T'.heap = h0 ∧ ∀ tt, Steps p.tables e below (T'.setTop (mkF m 64 #[.val (.long x1), .second, .val (.int x2), .val (.long x3), .second, .val (.long x4), .second, .val (.int x5), .val (.int x6), .val (.int k), .val (.int bit), .val (.long lf), .second, .val (.int il), .val (.long y1), .second, .unset, .unset, .unset, .unset, .unset, .unset, .unset, .unset, .unset] [(.int y2)])) tt → Steps p.tables e below (T6.setTop (mkF m 50 #[.val (.long x1), .second, .val (.int x2), .val (.long x3), .second, .val (.long x4), .second, .val (.int x5), .val (.int x6), .val (.int k), .val (.int bit), .val (.long lf), .second, .val (.int il), .val (.long y1), .second, .unset, .unset, .unset, .unset, .unset, .unset, .unset, .unset, .unset] [])) tt := by
    have pid13 : ∀ tt, Steps p.tables e below (T6.setTop (mkF m 50 #[.val (.long x1), .second, .val (.int x2), .val (.long x3), .second, .val (.long x4), .second, .val (.int x5), .val (.int x6), .val (.int k), .val (.int bit), .val (.long lf), .second, .val (.int il), .val (.long y1), .second, .unset, .unset, .unset, .unset, .unset, .unset, .unset, .unset, .unset] [])) tt → Steps p.tables e below (T6.setTop (mkF m 50 #[.val (.long x1), .second, .val (.int x2), .val (.long x3), .second, .val (.long x4), .second, .val (.int x5), .val (.int x6), .val (.int k), .val (.int bit), .val (.long lf), .second, .val (.int il), .val (.long y1), .second, .unset, .unset, .unset, .unset, .unset, .unset, .unset, .unset, .unset] [])) tt := fun tt kt => kt
    have pre14 : ∀ tt, Steps p.tables e below (T6.setTop (mkF m 53 #[.val (.long x1), .second, .val (.int x2), .val (.long x3), .second, .val (.long x4), .second, .val (.int x5), .val (.int x6), .val (.int k), .val (.int bit), .val (.long lf), .second, .val (.int il), .val (.long y1), .second, .unset, .unset, .unset, .unset, .unset, .unset, .unset, .unset, .unset] [(.int (2 : Int32)), (.int k)])) tt → Steps p.tables e below (T6.setTop (mkF m 50 #[.val (.long x1), .second, .val (.int x2), .val (.long x3), .second, .val (.long x4), .second, .val (.int x5), .val (.int x6), .val (.int k), .val (.int bit), .val (.long lf), .second, .val (.int il), .val (.long y1), .second, .unset, .unset, .unset, .unset, .unset, .unset, .unset, .unset, .unset] [])) tt := by
      intro tt kt
      refine pid13 tt ?_
      show Steps p.tables e below (T6.setTop (mkF m 50 #[.val (.long x1), .second, .val (.int x2), .val (.long x3), .second, .val (.long x4), .second, .val (.int x5), .val (.int x6), .val (.int k), .val (.int bit), .val (.long lf), .second, .val (.int il), .val (.long y1), .second, .unset, .unset, .unset, .unset, .unset, .unset, .unset, .unset, .unset] [])) _
      refine XS.iload X6.here hx rfl (hb hby at_50) rfl ?_
      show Steps p.tables e below (T6.setTop (mkF m 52 #[.val (.long x1), .second, .val (.int x2), .val (.long x3), .second, .val (.long x4), .second, .val (.int x5), .val (.int x6), .val (.int k), .val (.int bit), .val (.long lf), .second, .val (.int il), .val (.long y1), .second, .unset, .unset, .unset, .unset, .unset, .unset, .unset, .unset, .unset] [(.int k)])) _
      refine XS.iconst X6.here hx rfl (hb hby at_52) ?_
      exact kt
    by_cases c53_15 : k = (2 : Int32)
    · have pre16 : ∀ tt, Steps p.tables e below (T6.setTop (mkF m 64 #[.val (.long x1), .second, .val (.int x2), .val (.long x3), .second, .val (.long x4), .second, .val (.int x5), .val (.int x6), .val (.int k), .val (.int bit), .val (.long lf), .second, .val (.int il), .val (.long y1), .second, .unset, .unset, .unset, .unset, .unset, .unset, .unset, .unset, .unset] [(.int (x2 ^^^ il))])) tt → Steps p.tables e below (T6.setTop (mkF m 50 #[.val (.long x1), .second, .val (.int x2), .val (.long x3), .second, .val (.long x4), .second, .val (.int x5), .val (.int x6), .val (.int k), .val (.int bit), .val (.long lf), .second, .val (.int il), .val (.long y1), .second, .unset, .unset, .unset, .unset, .unset, .unset, .unset, .unset, .unset] [])) tt := by
        intro tt kt
        refine pre14 tt ?_
        show Steps p.tables e below (T6.setTop (mkF m 53 #[.val (.long x1), .second, .val (.int x2), .val (.long x3), .second, .val (.long x4), .second, .val (.int x5), .val (.int x6), .val (.int k), .val (.int bit), .val (.long lf), .second, .val (.int il), .val (.long y1), .second, .unset, .unset, .unset, .unset, .unset, .unset, .unset, .unset, .unset] [(.int (2 : Int32)), (.int k)])) _
        refine XS.icmpNo X6.here hx rfl (hb hby at_53) rfl (teq c53_15).2 ?_
        show Steps p.tables e below (T6.setTop (mkF m 56 #[.val (.long x1), .second, .val (.int x2), .val (.long x3), .second, .val (.long x4), .second, .val (.int x5), .val (.int x6), .val (.int k), .val (.int bit), .val (.long lf), .second, .val (.int il), .val (.long y1), .second, .unset, .unset, .unset, .unset, .unset, .unset, .unset, .unset, .unset] [])) _
        refine XS.iloadN X6.here hx rfl (hb hby at_56) rfl ?_
        show Steps p.tables e below (T6.setTop (mkF m 57 #[.val (.long x1), .second, .val (.int x2), .val (.long x3), .second, .val (.long x4), .second, .val (.int x5), .val (.int x6), .val (.int k), .val (.int bit), .val (.long lf), .second, .val (.int il), .val (.long y1), .second, .unset, .unset, .unset, .unset, .unset, .unset, .unset, .unset, .unset] [(.int x2)])) _
        refine XS.iload X6.here hx rfl (hb hby at_57) rfl ?_
        show Steps p.tables e below (T6.setTop (mkF m 59 #[.val (.long x1), .second, .val (.int x2), .val (.long x3), .second, .val (.long x4), .second, .val (.int x5), .val (.int x6), .val (.int k), .val (.int bit), .val (.long lf), .second, .val (.int il), .val (.long y1), .second, .unset, .unset, .unset, .unset, .unset, .unset, .unset, .unset, .unset] [(.int il), (.int x2)])) _
        refine XS.ixor X6.here hx rfl (hb hby at_59) rfl ?_
        show Steps p.tables e below (T6.setTop (mkF m 60 #[.val (.long x1), .second, .val (.int x2), .val (.long x3), .second, .val (.long x4), .second, .val (.int x5), .val (.int x6), .val (.int k), .val (.int bit), .val (.long lf), .second, .val (.int il), .val (.long y1), .second, .unset, .unset, .unset, .unset, .unset, .unset, .unset, .unset, .unset] [(.int (x2 ^^^ il))])) _
        refine XS.goto X6.here hx rfl (pc0 := 60) (pc' := 64) rfl (hb hby at_60) (by decide) (by decide) ?_
        exact kt
      refine ⟨T6, _, N6, X6, e6, fun tt kt => pre16 tt ?_⟩
      rw [ey2, if_pos c53_15] at kt
      exact kt
    · have pre17 : ∀ tt, Steps p.tables e below (T6.setTop (mkF m 64 #[.val (.long x1), .second, .val (.int x2), .val (.long x3), .second, .val (.long x4), .second, .val (.int x5), .val (.int x6), .val (.int k), .val (.int bit), .val (.long lf), .second, .val (.int il), .val (.long y1), .second, .unset, .unset, .unset, .unset, .unset, .unset, .unset, .unset, .unset] [(.int x2)])) tt → Steps p.tables e below (T6.setTop (mkF m 50 #[.val (.long x1), .second, .val (.int x2), .val (.long x3), .second, .val (.long x4), .second, .val (.int x5), .val (.int x6), .val (.int k), .val (.int bit), .val (.long lf), .second, .val (.int il), .val (.long y1), .second, .unset, .unset, .unset, .unset, .unset, .unset, .unset, .unset, .unset] [])) tt := by
        intro tt kt
        refine pre14 tt ?_
        show Steps p.tables e below (T6.setTop (mkF m 53 #[.val (.long x1), .second, .val (.int x2), .val (.long x3), .second, .val (.long x4), .second, .val (.int x5), .val (.int x6), .val (.int k), .val (.int bit), .val (.long lf), .second, .val (.int il), .val (.long y1), .second, .unset, .unset, .unset, .unset, .unset, .unset, .unset, .unset, .unset] [(.int (2 : Int32)), (.int k)])) _
        refine XS.icmpYes X6.here hx rfl (pc0 := 53) (pc' := 63) rfl (hb hby at_53) rfl (feq c53_15).2 (by decide) (by decide) ?_
        show Steps p.tables e below (T6.setTop (mkF m 63 #[.val (.long x1), .second, .val (.int x2), .val (.long x3), .second, .val (.long x4), .second, .val (.int x5), .val (.int x6), .val (.int k), .val (.int bit), .val (.long lf), .second, .val (.int il), .val (.long y1), .second, .unset, .unset, .unset, .unset, .unset, .unset, .unset, .unset, .unset] [])) _
        refine XS.iloadN X6.here hx rfl (hb hby at_63) rfl ?_
        exact kt
      refine ⟨T6, _, N6, X6, e6, fun tt kt => pre17 tt ?_⟩
      rw [ey2, if_neg c53_15] at kt
      exact kt
  have pre18 : ∀ tt, Steps p.tables e below (T13.setTop (mkF m 64 #[.val (.long x1), .second, .val (.int x2), .val (.long x3), .second, .val (.long x4), .second, .val (.int x5), .val (.int x6), .val (.int k), .val (.int bit), .val (.long lf), .second, .val (.int il), .val (.long y1), .second, .unset, .unset, .unset, .unset, .unset, .unset, .unset, .unset, .unset] [(.int y2)])) tt → Steps p.tables e below (s₁.setTop (entryFrame m #[(.long x1), (.int x2), (.long x3), (.long x4), (.int x5), (.int x6)] maxLocals)) tt := by
    intro tt kt
    refine pre12 tt ?_
    show Steps p.tables e below (T6.setTop (mkF m 50 #[.val (.long x1), .second, .val (.int x2), .val (.long x3), .second, .val (.long x4), .second, .val (.int x5), .val (.int x6), .val (.int k), .val (.int bit), .val (.long lf), .second, .val (.int il), .val (.long y1), .second, .unset, .unset, .unset, .unset, .unset, .unset, .unset, .unset, .unset] [])) _
    refine st13 _ ?_
    exact kt
  obtain ⟨y3, ey3⟩ : ∃ z : Int64, z = if k = (3 : Int32) then (x3 ^^^ lf) else x3 := ⟨_, rfl⟩
  have pre19 : ∀ tt, Steps p.tables e below (T13.setTop (mkF m 66 #[.val (.long x1), .second, .val (.int x2), .val (.long x3), .second, .val (.long x4), .second, .val (.int x5), .val (.int x6), .val (.int k), .val (.int bit), .val (.long lf), .second, .val (.int il), .val (.long y1), .second, .val (.int y2), .unset, .unset, .unset, .unset, .unset, .unset, .unset, .unset] [])) tt → Steps p.tables e below (s₁.setTop (entryFrame m #[(.long x1), (.int x2), (.long x3), (.long x4), (.int x5), (.int x6)] maxLocals)) tt := by
    intro tt kt
    refine pre18 tt ?_
    show Steps p.tables e below (T13.setTop (mkF m 64 #[.val (.long x1), .second, .val (.int x2), .val (.long x3), .second, .val (.long x4), .second, .val (.int x5), .val (.int x6), .val (.int k), .val (.int bit), .val (.long lf), .second, .val (.int il), .val (.long y1), .second, .unset, .unset, .unset, .unset, .unset, .unset, .unset, .unset, .unset] [(.int y2)])) _
    refine XS.istore X13.here hx rfl (hb hby at_64) rfl (l' := #[.val (.long x1), .second, .val (.int x2), .val (.long x3), .second, .val (.long x4), .second, .val (.int x5), .val (.int x6), .val (.int k), .val (.int bit), .val (.long lf), .second, .val (.int il), .val (.long y1), .second, .val (.int y2), .unset, .unset, .unset, .unset, .unset, .unset, .unset, .unset]) rfl ?_
    exact kt
  obtain ⟨T20, L20, N20, X20, e20, st20⟩ : ∃ (T' : State) (L' : List Loc), Fr n0 L' ∧ Stand p l e room_1 s m #[(.long x1), (.int x2), (.long x3), (.long x4), (.int x5), (.int x6)] below meth c T' L' 0 0 ∧ T'.heap = h0 ∧ ∀ tt, Steps p.tables e below (T'.setTop (mkF m 80 #[.val (.long x1), .second, .val (.int x2), .val (.long x3), .second, .val (.long x4), .second, .val (.int x5), .val (.int x6), .val (.int k), .val (.int bit), .val (.long lf), .second, .val (.int il), .val (.long y1), .second, .val (.int y2), .unset, .unset, .unset, .unset, .unset, .unset, .unset, .unset] [(.long y3)])) tt → Steps p.tables e below (T13.setTop (mkF m 66 #[.val (.long x1), .second, .val (.int x2), .val (.long x3), .second, .val (.long x4), .second, .val (.int x5), .val (.int x6), .val (.int k), .val (.int bit), .val (.long lf), .second, .val (.int il), .val (.long y1), .second, .val (.int y2), .unset, .unset, .unset, .unset, .unset, .unset, .unset, .unset] [])) tt := by
    have pid20 : ∀ tt, Steps p.tables e below (T13.setTop (mkF m 66 #[.val (.long x1), .second, .val (.int x2), .val (.long x3), .second, .val (.long x4), .second, .val (.int x5), .val (.int x6), .val (.int k), .val (.int bit), .val (.long lf), .second, .val (.int il), .val (.long y1), .second, .val (.int y2), .unset, .unset, .unset, .unset, .unset, .unset, .unset, .unset] [])) tt → Steps p.tables e below (T13.setTop (mkF m 66 #[.val (.long x1), .second, .val (.int x2), .val (.long x3), .second, .val (.long x4), .second, .val (.int x5), .val (.int x6), .val (.int k), .val (.int bit), .val (.long lf), .second, .val (.int il), .val (.long y1), .second, .val (.int y2), .unset, .unset, .unset, .unset, .unset, .unset, .unset, .unset] [])) tt := fun tt kt => kt
    have pre21 : ∀ tt, Steps p.tables e below (T13.setTop (mkF m 69 #[.val (.long x1), .second, .val (.int x2), .val (.long x3), .second, .val (.long x4), .second, .val (.int x5), .val (.int x6), .val (.int k), .val (.int bit), .val (.long lf), .second, .val (.int il), .val (.long y1), .second, .val (.int y2), .unset, .unset, .unset, .unset, .unset, .unset, .unset, .unset] [(.int (3 : Int32)), (.int k)])) tt → Steps p.tables e below (T13.setTop (mkF m 66 #[.val (.long x1), .second, .val (.int x2), .val (.long x3), .second, .val (.long x4), .second, .val (.int x5), .val (.int x6), .val (.int k), .val (.int bit), .val (.long lf), .second, .val (.int il), .val (.long y1), .second, .val (.int y2), .unset, .unset, .unset, .unset, .unset, .unset, .unset, .unset] [])) tt := by
      intro tt kt
      refine pid20 tt ?_
      show Steps p.tables e below (T13.setTop (mkF m 66 #[.val (.long x1), .second, .val (.int x2), .val (.long x3), .second, .val (.long x4), .second, .val (.int x5), .val (.int x6), .val (.int k), .val (.int bit), .val (.long lf), .second, .val (.int il), .val (.long y1), .second, .val (.int y2), .unset, .unset, .unset, .unset, .unset, .unset, .unset, .unset] [])) _
      refine XS.iload X13.here hx rfl (hb hby at_66) rfl ?_
      show Steps p.tables e below (T13.setTop (mkF m 68 #[.val (.long x1), .second, .val (.int x2), .val (.long x3), .second, .val (.long x4), .second, .val (.int x5), .val (.int x6), .val (.int k), .val (.int bit), .val (.long lf), .second, .val (.int il), .val (.long y1), .second, .val (.int y2), .unset, .unset, .unset, .unset, .unset, .unset, .unset, .unset] [(.int k)])) _
      refine XS.iconst X13.here hx rfl (hb hby at_68) ?_
      exact kt
    by_cases c69_22 : k = (3 : Int32)
    · have pre23 : ∀ tt, Steps p.tables e below (T13.setTop (mkF m 80 #[.val (.long x1), .second, .val (.int x2), .val (.long x3), .second, .val (.long x4), .second, .val (.int x5), .val (.int x6), .val (.int k), .val (.int bit), .val (.long lf), .second, .val (.int il), .val (.long y1), .second, .val (.int y2), .unset, .unset, .unset, .unset, .unset, .unset, .unset, .unset] [(.long (x3 ^^^ lf))])) tt → Steps p.tables e below (T13.setTop (mkF m 66 #[.val (.long x1), .second, .val (.int x2), .val (.long x3), .second, .val (.long x4), .second, .val (.int x5), .val (.int x6), .val (.int k), .val (.int bit), .val (.long lf), .second, .val (.int il), .val (.long y1), .second, .val (.int y2), .unset, .unset, .unset, .unset, .unset, .unset, .unset, .unset] [])) tt := by
        intro tt kt
        refine pre21 tt ?_
        show Steps p.tables e below (T13.setTop (mkF m 69 #[.val (.long x1), .second, .val (.int x2), .val (.long x3), .second, .val (.long x4), .second, .val (.int x5), .val (.int x6), .val (.int k), .val (.int bit), .val (.long lf), .second, .val (.int il), .val (.long y1), .second, .val (.int y2), .unset, .unset, .unset, .unset, .unset, .unset, .unset, .unset] [(.int (3 : Int32)), (.int k)])) _
        refine XS.icmpNo X13.here hx rfl (hb hby at_69) rfl (teq c69_22).2 ?_
        show Steps p.tables e below (T13.setTop (mkF m 72 #[.val (.long x1), .second, .val (.int x2), .val (.long x3), .second, .val (.long x4), .second, .val (.int x5), .val (.int x6), .val (.int k), .val (.int bit), .val (.long lf), .second, .val (.int il), .val (.long y1), .second, .val (.int y2), .unset, .unset, .unset, .unset, .unset, .unset, .unset, .unset] [])) _
        refine XS.lloadN X13.here hx rfl (hb hby at_72) rfl ?_
        show Steps p.tables e below (T13.setTop (mkF m 73 #[.val (.long x1), .second, .val (.int x2), .val (.long x3), .second, .val (.long x4), .second, .val (.int x5), .val (.int x6), .val (.int k), .val (.int bit), .val (.long lf), .second, .val (.int il), .val (.long y1), .second, .val (.int y2), .unset, .unset, .unset, .unset, .unset, .unset, .unset, .unset] [(.long x3)])) _
        refine XS.lload X13.here hx rfl (hb hby at_73) rfl ?_
        show Steps p.tables e below (T13.setTop (mkF m 75 #[.val (.long x1), .second, .val (.int x2), .val (.long x3), .second, .val (.long x4), .second, .val (.int x5), .val (.int x6), .val (.int k), .val (.int bit), .val (.long lf), .second, .val (.int il), .val (.long y1), .second, .val (.int y2), .unset, .unset, .unset, .unset, .unset, .unset, .unset, .unset] [(.long lf), (.long x3)])) _
        refine XS.lxor X13.here hx rfl (hb hby at_75) rfl ?_
        show Steps p.tables e below (T13.setTop (mkF m 76 #[.val (.long x1), .second, .val (.int x2), .val (.long x3), .second, .val (.long x4), .second, .val (.int x5), .val (.int x6), .val (.int k), .val (.int bit), .val (.long lf), .second, .val (.int il), .val (.long y1), .second, .val (.int y2), .unset, .unset, .unset, .unset, .unset, .unset, .unset, .unset] [(.long (x3 ^^^ lf))])) _
        refine XS.goto X13.here hx rfl (pc0 := 76) (pc' := 80) rfl (hb hby at_76) (by decide) (by decide) ?_
        exact kt
      refine ⟨T13, _, N13, X13, e13, fun tt kt => pre23 tt ?_⟩
      rw [ey3, if_pos c69_22] at kt
      exact kt
    · have pre24 : ∀ tt, Steps p.tables e below (T13.setTop (mkF m 80 #[.val (.long x1), .second, .val (.int x2), .val (.long x3), .second, .val (.long x4), .second, .val (.int x5), .val (.int x6), .val (.int k), .val (.int bit), .val (.long lf), .second, .val (.int il), .val (.long y1), .second, .val (.int y2), .unset, .unset, .unset, .unset, .unset, .unset, .unset, .unset] [(.long x3)])) tt → Steps p.tables e below (T13.setTop (mkF m 66 #[.val (.long x1), .second, .val (.int x2), .val (.long x3), .second, .val (.long x4), .second, .val (.int x5), .val (.int x6), .val (.int k), .val (.int bit), .val (.long lf), .second, .val (.int il), .val (.long y1), .second, .val (.int y2), .unset, .unset, .unset, .unset, .unset, .unset, .unset, .unset] [])) tt := by
        intro tt kt
        refine pre21 tt ?_
        show Steps p.tables e below (T13.setTop (mkF m 69 #[.val (.long x1), .second, .val (.int x2), .val (.long x3), .second, .val (.long x4), .second, .val (.int x5), .val (.int x6), .val (.int k), .val (.int bit), .val (.long lf), .second, .val (.int il), .val (.long y1), .second, .val (.int y2), .unset, .unset, .unset, .unset, .unset, .unset, .unset, .unset] [(.int (3 : Int32)), (.int k)])) _
        refine XS.icmpYes X13.here hx rfl (pc0 := 69) (pc' := 79) rfl (hb hby at_69) rfl (feq c69_22).2 (by decide) (by decide) ?_
        show Steps p.tables e below (T13.setTop (mkF m 79 #[.val (.long x1), .second, .val (.int x2), .val (.long x3), .second, .val (.long x4), .second, .val (.int x5), .val (.int x6), .val (.int k), .val (.int bit), .val (.long lf), .second, .val (.int il), .val (.long y1), .second, .val (.int y2), .unset, .unset, .unset, .unset, .unset, .unset, .unset, .unset] [])) _
        refine XS.lloadN X13.here hx rfl (hb hby at_79) rfl ?_
        exact kt
      refine ⟨T13, _, N13, X13, e13, fun tt kt => pre24 tt ?_⟩
      rw [ey3, if_neg c69_22] at kt
      exact kt
  have pre25 : ∀ tt, Steps p.tables e below (T20.setTop (mkF m 80 #[.val (.long x1), .second, .val (.int x2), .val (.long x3), .second, .val (.long x4), .second, .val (.int x5), .val (.int x6), .val (.int k), .val (.int bit), .val (.long lf), .second, .val (.int il), .val (.long y1), .second, .val (.int y2), .unset, .unset, .unset, .unset, .unset, .unset, .unset, .unset] [(.long y3)])) tt → Steps p.tables e below (s₁.setTop (entryFrame m #[(.long x1), (.int x2), (.long x3), (.long x4), (.int x5), (.int x6)] maxLocals)) tt := by
    intro tt kt
    refine pre19 tt ?_
    show Steps p.tables e below (T13.setTop (mkF m 66 #[.val (.long x1), .second, .val (.int x2), .val (.long x3), .second, .val (.long x4), .second, .val (.int x5), .val (.int x6), .val (.int k), .val (.int bit), .val (.long lf), .second, .val (.int il), .val (.long y1), .second, .val (.int y2), .unset, .unset, .unset, .unset, .unset, .unset, .unset, .unset] [])) _
    refine st20 _ ?_
    exact kt
  obtain ⟨y4, ey4⟩ : ∃ z : Int64, z = if k = (4 : Int32) then (x4 ^^^ lf) else x4 := ⟨_, rfl⟩
  have pre26 : ∀ tt, Steps p.tables e below (T20.setTop (mkF m 82 #[.val (.long x1), .second, .val (.int x2), .val (.long x3), .second, .val (.long x4), .second, .val (.int x5), .val (.int x6), .val (.int k), .val (.int bit), .val (.long lf), .second, .val (.int il), .val (.long y1), .second, .val (.int y2), .val (.long y3), .second, .unset, .unset, .unset, .unset, .unset, .unset] [])) tt → Steps p.tables e below (s₁.setTop (entryFrame m #[(.long x1), (.int x2), (.long x3), (.long x4), (.int x5), (.int x6)] maxLocals)) tt := by
    intro tt kt
    refine pre25 tt ?_
    show Steps p.tables e below (T20.setTop (mkF m 80 #[.val (.long x1), .second, .val (.int x2), .val (.long x3), .second, .val (.long x4), .second, .val (.int x5), .val (.int x6), .val (.int k), .val (.int bit), .val (.long lf), .second, .val (.int il), .val (.long y1), .second, .val (.int y2), .unset, .unset, .unset, .unset, .unset, .unset, .unset, .unset] [(.long y3)])) _
    refine XS.lstore X20.here hx rfl (hb hby at_80) rfl (l' := #[.val (.long x1), .second, .val (.int x2), .val (.long x3), .second, .val (.long x4), .second, .val (.int x5), .val (.int x6), .val (.int k), .val (.int bit), .val (.long lf), .second, .val (.int il), .val (.long y1), .second, .val (.int y2), .val (.long y3), .second, .unset, .unset, .unset, .unset, .unset, .unset]) rfl ?_
    exact kt
  obtain ⟨T27, L27, N27, X27, e27, st27⟩ : ∃ (T' : State) (L' : List Loc), Fr n0 L' ∧ Stand p l e room_1 s m #[(.long x1), (.int x2), (.long x3), (.long x4), (.int x5), (.int x6)] below meth c T' L' 0 0 ∧ T'.heap = h0 ∧ ∀ tt, Steps p.tables e below (T'.setTop (mkF m 98 #[.val (.long x1), .second, .val (.int x2), .val (.long x3), .second, .val (.long x4), .second, .val (.int x5), .val (.int x6), .val (.int k), .val (.int bit), .val (.long lf), .second, .val (.int il), .val (.long y1), .second, .val (.int y2), .val (.long y3), .second, .unset, .unset, .unset, .unset, .unset, .unset] [(.long y4)])) tt → Steps p.tables e below (T20.setTop (mkF m 82 #[.val (.long x1), .second, .val (.int x2), .val (.long x3), .second, .val (.long x4), .second, .val (.int x5), .val (.int x6), .val (.int k), .val (.int bit), .val (.long lf), .second, .val (.int il), .val (.long y1), .second, .val (.int y2), .val (.long y3), .second, .unset, .unset, .unset, .unset, .unset, .unset] [])) tt := by
    have pid27 : ∀ tt, Steps p.tables e below (T20.setTop (mkF m 82 #[.val (.long x1), .second, .val (.int x2), .val (.long x3), .second, .val (.long x4), .second, .val (.int x5), .val (.int x6), .val (.int k), .val (.int bit), .val (.long lf), .second, .val (.int il), .val (.long y1), .second, .val (.int y2), .val (.long y3), .second, .unset, .unset, .unset, .unset, .unset, .unset] [])) tt → Steps p.tables e below (T20.setTop (mkF m 82 #[.val (.long x1), .second, .val (.int x2), .val (.long x3), .second, .val (.long x4), .second, .val (.int x5), .val (.int x6), .val (.int k), .val (.int bit), .val (.long lf), .second, .val (.int il), .val (.long y1), .second, .val (.int y2), .val (.long y3), .second, .unset, .unset, .unset, .unset, .unset, .unset] [])) tt := fun tt kt => kt
    have pre28 : ∀ tt, Steps p.tables e below (T20.setTop (mkF m 85 #[.val (.long x1), .second, .val (.int x2), .val (.long x3), .second, .val (.long x4), .second, .val (.int x5), .val (.int x6), .val (.int k), .val (.int bit), .val (.long lf), .second, .val (.int il), .val (.long y1), .second, .val (.int y2), .val (.long y3), .second, .unset, .unset, .unset, .unset, .unset, .unset] [(.int (4 : Int32)), (.int k)])) tt → Steps p.tables e below (T20.setTop (mkF m 82 #[.val (.long x1), .second, .val (.int x2), .val (.long x3), .second, .val (.long x4), .second, .val (.int x5), .val (.int x6), .val (.int k), .val (.int bit), .val (.long lf), .second, .val (.int il), .val (.long y1), .second, .val (.int y2), .val (.long y3), .second, .unset, .unset, .unset, .unset, .unset, .unset] [])) tt := by
      intro tt kt
      refine pid27 tt ?_
      show Steps p.tables e below (T20.setTop (mkF m 82 #[.val (.long x1), .second, .val (.int x2), .val (.long x3), .second, .val (.long x4), .second, .val (.int x5), .val (.int x6), .val (.int k), .val (.int bit), .val (.long lf), .second, .val (.int il), .val (.long y1), .second, .val (.int y2), .val (.long y3), .second, .unset, .unset, .unset, .unset, .unset, .unset] [])) _
      refine XS.iload X20.here hx rfl (hb hby at_82) rfl ?_
      show Steps p.tables e below (T20.setTop (mkF m 84 #[.val (.long x1), .second, .val (.int x2), .val (.long x3), .second, .val (.long x4), .second, .val (.int x5), .val (.int x6), .val (.int k), .val (.int bit), .val (.long lf), .second, .val (.int il), .val (.long y1), .second, .val (.int y2), .val (.long y3), .second, .unset, .unset, .unset, .unset, .unset, .unset] [(.int k)])) _
      refine XS.iconst X20.here hx rfl (hb hby at_84) ?_
      exact kt
    by_cases c85_29 : k = (4 : Int32)
    · have pre30 : ∀ tt, Steps p.tables e below (T20.setTop (mkF m 98 #[.val (.long x1), .second, .val (.int x2), .val (.long x3), .second, .val (.long x4), .second, .val (.int x5), .val (.int x6), .val (.int k), .val (.int bit), .val (.long lf), .second, .val (.int il), .val (.long y1), .second, .val (.int y2), .val (.long y3), .second, .unset, .unset, .unset, .unset, .unset, .unset] [(.long (x4 ^^^ lf))])) tt → Steps p.tables e below (T20.setTop (mkF m 82 #[.val (.long x1), .second, .val (.int x2), .val (.long x3), .second, .val (.long x4), .second, .val (.int x5), .val (.int x6), .val (.int k), .val (.int bit), .val (.long lf), .second, .val (.int il), .val (.long y1), .second, .val (.int y2), .val (.long y3), .second, .unset, .unset, .unset, .unset, .unset, .unset] [])) tt := by
        intro tt kt
        refine pre28 tt ?_
        show Steps p.tables e below (T20.setTop (mkF m 85 #[.val (.long x1), .second, .val (.int x2), .val (.long x3), .second, .val (.long x4), .second, .val (.int x5), .val (.int x6), .val (.int k), .val (.int bit), .val (.long lf), .second, .val (.int il), .val (.long y1), .second, .val (.int y2), .val (.long y3), .second, .unset, .unset, .unset, .unset, .unset, .unset] [(.int (4 : Int32)), (.int k)])) _
        refine XS.icmpNo X20.here hx rfl (hb hby at_85) rfl (teq c85_29).2 ?_
        show Steps p.tables e below (T20.setTop (mkF m 88 #[.val (.long x1), .second, .val (.int x2), .val (.long x3), .second, .val (.long x4), .second, .val (.int x5), .val (.int x6), .val (.int k), .val (.int bit), .val (.long lf), .second, .val (.int il), .val (.long y1), .second, .val (.int y2), .val (.long y3), .second, .unset, .unset, .unset, .unset, .unset, .unset] [])) _
        refine XS.lload X20.here hx rfl (hb hby at_88) rfl ?_
        show Steps p.tables e below (T20.setTop (mkF m 90 #[.val (.long x1), .second, .val (.int x2), .val (.long x3), .second, .val (.long x4), .second, .val (.int x5), .val (.int x6), .val (.int k), .val (.int bit), .val (.long lf), .second, .val (.int il), .val (.long y1), .second, .val (.int y2), .val (.long y3), .second, .unset, .unset, .unset, .unset, .unset, .unset] [(.long x4)])) _
        refine XS.lload X20.here hx rfl (hb hby at_90) rfl ?_
        show Steps p.tables e below (T20.setTop (mkF m 92 #[.val (.long x1), .second, .val (.int x2), .val (.long x3), .second, .val (.long x4), .second, .val (.int x5), .val (.int x6), .val (.int k), .val (.int bit), .val (.long lf), .second, .val (.int il), .val (.long y1), .second, .val (.int y2), .val (.long y3), .second, .unset, .unset, .unset, .unset, .unset, .unset] [(.long lf), (.long x4)])) _
        refine XS.lxor X20.here hx rfl (hb hby at_92) rfl ?_
        show Steps p.tables e below (T20.setTop (mkF m 93 #[.val (.long x1), .second, .val (.int x2), .val (.long x3), .second, .val (.long x4), .second, .val (.int x5), .val (.int x6), .val (.int k), .val (.int bit), .val (.long lf), .second, .val (.int il), .val (.long y1), .second, .val (.int y2), .val (.long y3), .second, .unset, .unset, .unset, .unset, .unset, .unset] [(.long (x4 ^^^ lf))])) _
        refine XS.goto X20.here hx rfl (pc0 := 93) (pc' := 98) rfl (hb hby at_93) (by decide) (by decide) ?_
        exact kt
      refine ⟨T20, _, N20, X20, e20, fun tt kt => pre30 tt ?_⟩
      rw [ey4, if_pos c85_29] at kt
      exact kt
    · have pre31 : ∀ tt, Steps p.tables e below (T20.setTop (mkF m 98 #[.val (.long x1), .second, .val (.int x2), .val (.long x3), .second, .val (.long x4), .second, .val (.int x5), .val (.int x6), .val (.int k), .val (.int bit), .val (.long lf), .second, .val (.int il), .val (.long y1), .second, .val (.int y2), .val (.long y3), .second, .unset, .unset, .unset, .unset, .unset, .unset] [(.long x4)])) tt → Steps p.tables e below (T20.setTop (mkF m 82 #[.val (.long x1), .second, .val (.int x2), .val (.long x3), .second, .val (.long x4), .second, .val (.int x5), .val (.int x6), .val (.int k), .val (.int bit), .val (.long lf), .second, .val (.int il), .val (.long y1), .second, .val (.int y2), .val (.long y3), .second, .unset, .unset, .unset, .unset, .unset, .unset] [])) tt := by
        intro tt kt
        refine pre28 tt ?_
        show Steps p.tables e below (T20.setTop (mkF m 85 #[.val (.long x1), .second, .val (.int x2), .val (.long x3), .second, .val (.long x4), .second, .val (.int x5), .val (.int x6), .val (.int k), .val (.int bit), .val (.long lf), .second, .val (.int il), .val (.long y1), .second, .val (.int y2), .val (.long y3), .second, .unset, .unset, .unset, .unset, .unset, .unset] [(.int (4 : Int32)), (.int k)])) _
        refine XS.icmpYes X20.here hx rfl (pc0 := 85) (pc' := 96) rfl (hb hby at_85) rfl (feq c85_29).2 (by decide) (by decide) ?_
        show Steps p.tables e below (T20.setTop (mkF m 96 #[.val (.long x1), .second, .val (.int x2), .val (.long x3), .second, .val (.long x4), .second, .val (.int x5), .val (.int x6), .val (.int k), .val (.int bit), .val (.long lf), .second, .val (.int il), .val (.long y1), .second, .val (.int y2), .val (.long y3), .second, .unset, .unset, .unset, .unset, .unset, .unset] [])) _
        refine XS.lload X20.here hx rfl (hb hby at_96) rfl ?_
        exact kt
      refine ⟨T20, _, N20, X20, e20, fun tt kt => pre31 tt ?_⟩
      rw [ey4, if_neg c85_29] at kt
      exact kt
  have pre32 : ∀ tt, Steps p.tables e below (T27.setTop (mkF m 98 #[.val (.long x1), .second, .val (.int x2), .val (.long x3), .second, .val (.long x4), .second, .val (.int x5), .val (.int x6), .val (.int k), .val (.int bit), .val (.long lf), .second, .val (.int il), .val (.long y1), .second, .val (.int y2), .val (.long y3), .second, .unset, .unset, .unset, .unset, .unset, .unset] [(.long y4)])) tt → Steps p.tables e below (s₁.setTop (entryFrame m #[(.long x1), (.int x2), (.long x3), (.long x4), (.int x5), (.int x6)] maxLocals)) tt := by
    intro tt kt
    refine pre26 tt ?_
    show Steps p.tables e below (T20.setTop (mkF m 82 #[.val (.long x1), .second, .val (.int x2), .val (.long x3), .second, .val (.long x4), .second, .val (.int x5), .val (.int x6), .val (.int k), .val (.int bit), .val (.long lf), .second, .val (.int il), .val (.long y1), .second, .val (.int y2), .val (.long y3), .second, .unset, .unset, .unset, .unset, .unset, .unset] [])) _
    refine st27 _ ?_
    exact kt
  obtain ⟨y5, ey5⟩ : ∃ z : Int32, z = if k = (5 : Int32) then (x5 ^^^ il) else x5 := ⟨_, rfl⟩
  have pre33 : ∀ tt, Steps p.tables e below (T27.setTop (mkF m 100 #[.val (.long x1), .second, .val (.int x2), .val (.long x3), .second, .val (.long x4), .second, .val (.int x5), .val (.int x6), .val (.int k), .val (.int bit), .val (.long lf), .second, .val (.int il), .val (.long y1), .second, .val (.int y2), .val (.long y3), .second, .val (.long y4), .second, .unset, .unset, .unset, .unset] [])) tt → Steps p.tables e below (s₁.setTop (entryFrame m #[(.long x1), (.int x2), (.long x3), (.long x4), (.int x5), (.int x6)] maxLocals)) tt := by
    intro tt kt
    refine pre32 tt ?_
    show Steps p.tables e below (T27.setTop (mkF m 98 #[.val (.long x1), .second, .val (.int x2), .val (.long x3), .second, .val (.long x4), .second, .val (.int x5), .val (.int x6), .val (.int k), .val (.int bit), .val (.long lf), .second, .val (.int il), .val (.long y1), .second, .val (.int y2), .val (.long y3), .second, .unset, .unset, .unset, .unset, .unset, .unset] [(.long y4)])) _
    refine XS.lstore X27.here hx rfl (hb hby at_98) rfl (l' := #[.val (.long x1), .second, .val (.int x2), .val (.long x3), .second, .val (.long x4), .second, .val (.int x5), .val (.int x6), .val (.int k), .val (.int bit), .val (.long lf), .second, .val (.int il), .val (.long y1), .second, .val (.int y2), .val (.long y3), .second, .val (.long y4), .second, .unset, .unset, .unset, .unset]) rfl ?_
    exact kt
  obtain ⟨T34, L34, N34, X34, e34, st34⟩ : ∃ (T' : State) (L' : List Loc), Fr n0 L' ∧ Stand p l e room_1 s m #[(.long x1), (.int x2), (.long x3), (.long x4), (.int x5), (.int x6)] below meth c T' L' 0 0 ∧ T'.heap = h0 ∧ ∀ tt, Steps p.tables e below (T'.setTop (mkF m 116 #[.val (.long x1), .second, .val (.int x2), .val (.long x3), .second, .val (.long x4), .second, .val (.int x5), .val (.int x6), .val (.int k), .val (.int bit), .val (.long lf), .second, .val (.int il), .val (.long y1), .second, .val (.int y2), .val (.long y3), .second, .val (.long y4), .second, .unset, .unset, .unset, .unset] [(.int y5)])) tt → Steps p.tables e below (T27.setTop (mkF m 100 #[.val (.long x1), .second, .val (.int x2), .val (.long x3), .second, .val (.long x4), .second, .val (.int x5), .val (.int x6), .val (.int k), .val (.int bit), .val (.long lf), .second, .val (.int il), .val (.long y1), .second, .val (.int y2), .val (.long y3), .second, .val (.long y4), .second, .unset, .unset, .unset, .unset] [])) tt := by
    have pid34 : ∀ tt, Steps p.tables e below (T27.setTop (mkF m 100 #[.val (.long x1), .second, .val (.int x2), .val (.long x3), .second, .val (.long x4), .second, .val (.int x5), .val (.int x6), .val (.int k), .val (.int bit), .val (.long lf), .second, .val (.int il), .val (.long y1), .second, .val (.int y2), .val (.long y3), .second, .val (.long y4), .second, .unset, .unset, .unset, .unset] [])) tt → Steps p.tables e below (T27.setTop (mkF m 100 #[.val (.long x1), .second, .val (.int x2), .val (.long x3), .second, .val (.long x4), .second, .val (.int x5), .val (.int x6), .val (.int k), .val (.int bit), .val (.long lf), .second, .val (.int il), .val (.long y1), .second, .val (.int y2), .val (.long y3), .second, .val (.long y4), .second, .unset, .unset, .unset, .unset] [])) tt := fun tt kt => kt
    have pre35 : ∀ tt, Steps p.tables e below (T27.setTop (mkF m 103 #[.val (.long x1), .second, .val (.int x2), .val (.long x3), .second, .val (.long x4), .second, .val (.int x5), .val (.int x6), .val (.int k), .val (.int bit), .val (.long lf), .second, .val (.int il), .val (.long y1), .second, .val (.int y2), .val (.long y3), .second, .val (.long y4), .second, .unset, .unset, .unset, .unset] [(.int (5 : Int32)), (.int k)])) tt → Steps p.tables e below (T27.setTop (mkF m 100 #[.val (.long x1), .second, .val (.int x2), .val (.long x3), .second, .val (.long x4), .second, .val (.int x5), .val (.int x6), .val (.int k), .val (.int bit), .val (.long lf), .second, .val (.int il), .val (.long y1), .second, .val (.int y2), .val (.long y3), .second, .val (.long y4), .second, .unset, .unset, .unset, .unset] [])) tt := by
      intro tt kt
      refine pid34 tt ?_
      show Steps p.tables e below (T27.setTop (mkF m 100 #[.val (.long x1), .second, .val (.int x2), .val (.long x3), .second, .val (.long x4), .second, .val (.int x5), .val (.int x6), .val (.int k), .val (.int bit), .val (.long lf), .second, .val (.int il), .val (.long y1), .second, .val (.int y2), .val (.long y3), .second, .val (.long y4), .second, .unset, .unset, .unset, .unset] [])) _
      refine XS.iload X27.here hx rfl (hb hby at_100) rfl ?_
      show Steps p.tables e below (T27.setTop (mkF m 102 #[.val (.long x1), .second, .val (.int x2), .val (.long x3), .second, .val (.long x4), .second, .val (.int x5), .val (.int x6), .val (.int k), .val (.int bit), .val (.long lf), .second, .val (.int il), .val (.long y1), .second, .val (.int y2), .val (.long y3), .second, .val (.long y4), .second, .unset, .unset, .unset, .unset] [(.int k)])) _
      refine XS.iconst X27.here hx rfl (hb hby at_102) ?_
      exact kt
    by_cases c103_36 : k = (5 : Int32)
    · have pre37 : ∀ tt, Steps p.tables e below (T27.setTop (mkF m 116 #[.val (.long x1), .second, .val (.int x2), .val (.long x3), .second, .val (.long x4), .second, .val (.int x5), .val (.int x6), .val (.int k), .val (.int bit), .val (.long lf), .second, .val (.int il), .val (.long y1), .second, .val (.int y2), .val (.long y3), .second, .val (.long y4), .second, .unset, .unset, .unset, .unset] [(.int (x5 ^^^ il))])) tt → Steps p.tables e below (T27.setTop (mkF m 100 #[.val (.long x1), .second, .val (.int x2), .val (.long x3), .second, .val (.long x4), .second, .val (.int x5), .val (.int x6), .val (.int k), .val (.int bit), .val (.long lf), .second, .val (.int il), .val (.long y1), .second, .val (.int y2), .val (.long y3), .second, .val (.long y4), .second, .unset, .unset, .unset, .unset] [])) tt := by
        intro tt kt
        refine pre35 tt ?_
        show Steps p.tables e below (T27.setTop (mkF m 103 #[.val (.long x1), .second, .val (.int x2), .val (.long x3), .second, .val (.long x4), .second, .val (.int x5), .val (.int x6), .val (.int k), .val (.int bit), .val (.long lf), .second, .val (.int il), .val (.long y1), .second, .val (.int y2), .val (.long y3), .second, .val (.long y4), .second, .unset, .unset, .unset, .unset] [(.int (5 : Int32)), (.int k)])) _
        refine XS.icmpNo X27.here hx rfl (hb hby at_103) rfl (teq c103_36).2 ?_
        show Steps p.tables e below (T27.setTop (mkF m 106 #[.val (.long x1), .second, .val (.int x2), .val (.long x3), .second, .val (.long x4), .second, .val (.int x5), .val (.int x6), .val (.int k), .val (.int bit), .val (.long lf), .second, .val (.int il), .val (.long y1), .second, .val (.int y2), .val (.long y3), .second, .val (.long y4), .second, .unset, .unset, .unset, .unset] [])) _
        refine XS.iload X27.here hx rfl (hb hby at_106) rfl ?_
        show Steps p.tables e below (T27.setTop (mkF m 108 #[.val (.long x1), .second, .val (.int x2), .val (.long x3), .second, .val (.long x4), .second, .val (.int x5), .val (.int x6), .val (.int k), .val (.int bit), .val (.long lf), .second, .val (.int il), .val (.long y1), .second, .val (.int y2), .val (.long y3), .second, .val (.long y4), .second, .unset, .unset, .unset, .unset] [(.int x5)])) _
        refine XS.iload X27.here hx rfl (hb hby at_108) rfl ?_
        show Steps p.tables e below (T27.setTop (mkF m 110 #[.val (.long x1), .second, .val (.int x2), .val (.long x3), .second, .val (.long x4), .second, .val (.int x5), .val (.int x6), .val (.int k), .val (.int bit), .val (.long lf), .second, .val (.int il), .val (.long y1), .second, .val (.int y2), .val (.long y3), .second, .val (.long y4), .second, .unset, .unset, .unset, .unset] [(.int il), (.int x5)])) _
        refine XS.ixor X27.here hx rfl (hb hby at_110) rfl ?_
        show Steps p.tables e below (T27.setTop (mkF m 111 #[.val (.long x1), .second, .val (.int x2), .val (.long x3), .second, .val (.long x4), .second, .val (.int x5), .val (.int x6), .val (.int k), .val (.int bit), .val (.long lf), .second, .val (.int il), .val (.long y1), .second, .val (.int y2), .val (.long y3), .second, .val (.long y4), .second, .unset, .unset, .unset, .unset] [(.int (x5 ^^^ il))])) _
        refine XS.goto X27.here hx rfl (pc0 := 111) (pc' := 116) rfl (hb hby at_111) (by decide) (by decide) ?_
        exact kt
      refine ⟨T27, _, N27, X27, e27, fun tt kt => pre37 tt ?_⟩
      rw [ey5, if_pos c103_36] at kt
      exact kt
    · have pre38 : ∀ tt, Steps p.tables e below (T27.setTop (mkF m 116 #[.val (.long x1), .second, .val (.int x2), .val (.long x3), .second, .val (.long x4), .second, .val (.int x5), .val (.int x6), .val (.int k), .val (.int bit), .val (.long lf), .second, .val (.int il), .val (.long y1), .second, .val (.int y2), .val (.long y3), .second, .val (.long y4), .second, .unset, .unset, .unset, .unset] [(.int x5)])) tt → Steps p.tables e below (T27.setTop (mkF m 100 #[.val (.long x1), .second, .val (.int x2), .val (.long x3), .second, .val (.long x4), .second, .val (.int x5), .val (.int x6), .val (.int k), .val (.int bit), .val (.long lf), .second, .val (.int il), .val (.long y1), .second, .val (.int y2), .val (.long y3), .second, .val (.long y4), .second, .unset, .unset, .unset, .unset] [])) tt := by
        intro tt kt
        refine pre35 tt ?_
        show Steps p.tables e below (T27.setTop (mkF m 103 #[.val (.long x1), .second, .val (.int x2), .val (.long x3), .second, .val (.long x4), .second, .val (.int x5), .val (.int x6), .val (.int k), .val (.int bit), .val (.long lf), .second, .val (.int il), .val (.long y1), .second, .val (.int y2), .val (.long y3), .second, .val (.long y4), .second, .unset, .unset, .unset, .unset] [(.int (5 : Int32)), (.int k)])) _
        refine XS.icmpYes X27.here hx rfl (pc0 := 103) (pc' := 114) rfl (hb hby at_103) rfl (feq c103_36).2 (by decide) (by decide) ?_
        show Steps p.tables e below (T27.setTop (mkF m 114 #[.val (.long x1), .second, .val (.int x2), .val (.long x3), .second, .val (.long x4), .second, .val (.int x5), .val (.int x6), .val (.int k), .val (.int bit), .val (.long lf), .second, .val (.int il), .val (.long y1), .second, .val (.int y2), .val (.long y3), .second, .val (.long y4), .second, .unset, .unset, .unset, .unset] [])) _
        refine XS.iload X27.here hx rfl (hb hby at_114) rfl ?_
        exact kt
      refine ⟨T27, _, N27, X27, e27, fun tt kt => pre38 tt ?_⟩
      rw [ey5, if_neg c103_36] at kt
      exact kt
  have pre39 : ∀ tt, Steps p.tables e below (T34.setTop (mkF m 116 #[.val (.long x1), .second, .val (.int x2), .val (.long x3), .second, .val (.long x4), .second, .val (.int x5), .val (.int x6), .val (.int k), .val (.int bit), .val (.long lf), .second, .val (.int il), .val (.long y1), .second, .val (.int y2), .val (.long y3), .second, .val (.long y4), .second, .unset, .unset, .unset, .unset] [(.int y5)])) tt → Steps p.tables e below (s₁.setTop (entryFrame m #[(.long x1), (.int x2), (.long x3), (.long x4), (.int x5), (.int x6)] maxLocals)) tt := by
    intro tt kt
    refine pre33 tt ?_
    show Steps p.tables e below (T27.setTop (mkF m 100 #[.val (.long x1), .second, .val (.int x2), .val (.long x3), .second, .val (.long x4), .second, .val (.int x5), .val (.int x6), .val (.int k), .val (.int bit), .val (.long lf), .second, .val (.int il), .val (.long y1), .second, .val (.int y2), .val (.long y3), .second, .val (.long y4), .second, .unset, .unset, .unset, .unset] [])) _
    refine st34 _ ?_
    exact kt
  obtain ⟨T40, h40, X40, e40, E40, A40, D40, -, st40⟩ := newO X34 hx hZ hown (hw _ (List.mem_of_getElem? (i := 1) rfl)) (hw _ (List.mem_of_getElem? (i := 2) rfl)) (hw _ (List.mem_of_getElem? (i := 3) rfl)) e34 (g := (mkF m 118 #[.val (.long x1), .second, .val (.int x2), .val (.long x3), .second, .val (.long x4), .second, .val (.int x5), .val (.int x6), .val (.int k), .val (.int bit), .val (.long lf), .second, .val (.int il), .val (.long y1), .second, .val (.int y2), .val (.long y3), .second, .val (.long y4), .second, .val (.int y5), .unset, .unset, .unset] [])) rfl (hb hby at_118) (by decide) (by decide)
  obtain ⟨b40, g40⟩ : ∃ z, z = h0.size := ⟨_, rfl⟩
  rw [← g40] at A40 D40 st40
  have g_b40 : n0 ≤ b40 := Nat.le_trans Z0 (Nat.le_of_eq g40.symm)
  have sz_b40 : h0.size ≤ b40 := Nat.le_trans ((Keep.refl h0 [])).1 (Nat.le_of_eq g40.symm)
  have K40 : Keep h0 h40 [] := ((Keep.refl h0 [])).ext E40
  have F_offset_b40 : Fld Z h40 b40 "com/example/keyturn/keyturn/format/EndOfCentralDirectory" "offset" "J" (.long (0 : Int64)) := D40 (Or.inr (hw _ (List.mem_of_getElem? (i := 11) rfl))) (ty := .long) (by decide)
  have F_commentLength_b40 : Fld Z h40 b40 "com/example/keyturn/keyturn/format/EndOfCentralDirectory" "commentLength" "I" (.int (0 : Int32)) := D40 (Or.inr (hw _ (List.mem_of_getElem? (i := 13) rfl))) (ty := .int) (by decide)
  have F_centralDirectoryOffset_b40 : Fld Z h40 b40 "com/example/keyturn/keyturn/format/EndOfCentralDirectory" "centralDirectoryOffset" "J" (.long (0 : Int64)) := D40 (Or.inr (hw _ (List.mem_of_getElem? (i := 15) rfl))) (ty := .long) (by decide)
  have F_centralDirectorySize_b40 : Fld Z h40 b40 "com/example/keyturn/keyturn/format/EndOfCentralDirectory" "centralDirectorySize" "J" (.long (0 : Int64)) := D40 (Or.inr (hw _ (List.mem_of_getElem? (i := 17) rfl))) (ty := .long) (by decide)
  have F_entryCount_b40 : Fld Z h40 b40 "com/example/keyturn/keyturn/format/EndOfCentralDirectory" "entryCount" "I" (.int (0 : Int32)) := D40 (Or.inr (hw _ (List.mem_of_getElem? (i := 19) rfl))) (ty := .int) (by decide)
  obtain ⟨_, _, ⟨T41, L41, k41, n41⟩, -, X41, ⟨Lc41, hQ41, l41, y41, z41⟩, st41⟩ := X40.specialBack hx (y := (⟨"com/example/keyturn/keyturn/format/EndOfCentralDirectory", "<init>", "(JIJJI)V"⟩ : MethodName)) rfl hown (mvT hZ (hw _ (List.mem_of_getElem? (i := 4) rfl))) (mvT hZ (hw _ (List.mem_of_getElem? (i := 5) rfl))) (mvT hZ (hw _ (List.mem_of_getElem? (i := 6) rfl))) (by decide) (backOf (W := 1) (rmC l Z a0 hw [] b40 x1 x2 x3 x4 x5 h40 n0 (Nat.le_trans Z0 E40.1) A40 F_offset_b40 F_commentLength_b40 F_centralDirectoryOffset_b40 F_centralDirectorySize_b40 F_entryCount_b40 g_b40) hZ (hw _ (List.mem_of_getElem? (i := 6) rfl)) (hw _ (List.mem_of_getElem? (i := 3) rfl)) (by decide) (by decide)) (g := (mkF m 129 #[.val (.long x1), .second, .val (.int x2), .val (.long x3), .second, .val (.long x4), .second, .val (.int x5), .val (.int x6), .val (.int k), .val (.int bit), .val (.long lf), .second, .val (.int il), .val (.long y1), .second, .val (.int y2), .val (.long y3), .second, .val (.long y4), .second, .val (.int y5), .unset, .unset, .unset] [(.int x5), (.long x4), (.long x3), (.int x2), (.long x1), (.ref b40), (.ref b40)])) rfl (by rw [hml]; rfl) (Steps.refl _) (a := b40) (argsL := [(.long x1), (.int x2), (.long x3), (.long x4), (.int x5)]) (rest := [(.ref b40)]) (lenOf pd_rm0_0 rfl) rfl (by show 2 * 0 + _ ≤ _; exact Nat.le_of_eq rfl) (hb hby at_129) (fun _ _ => ⟨rfl, e40, (by decide : 1 + 0 ≤ _), (by decide : 5 + 0 ≤ _)⟩)
  dsimp only [Pt.U, Pt.locs, Pt.cells, Pt.slots] at X41 l41 y41 z41 st41 hQ41
  subst l41 y41 z41
  obtain ⟨rfl, N41q, K41, Ei41, Ff0_41, Ff1_41, Ff2_41, Ff3_41, Ff4_41⟩ := hQ41
  have N41 := Fr.app N34 N41q
  have KK41 : Keep h0 T41.heap [] := (K40).trans K41 (allS (Or.inr sz_b40) all0)
  obtain ⟨T42, h42, X42, e42, E42, A42, D42, -, st42⟩ := newO X41 hx hZ hown (hw _ (List.mem_of_getElem? (i := 1) rfl)) (hw _ (List.mem_of_getElem? (i := 2) rfl)) (hw _ (List.mem_of_getElem? (i := 3) rfl)) rfl (g := (mkF m 134 #[.val (.long x1), .second, .val (.int x2), .val (.long x3), .second, .val (.long x4), .second, .val (.int x5), .val (.int x6), .val (.int k), .val (.int bit), .val (.long lf), .second, .val (.int il), .val (.long y1), .second, .val (.int y2), .val (.long y3), .second, .val (.long y4), .second, .val (.int y5), .val (.ref b40), .unset, .unset] [])) rfl (hb hby at_134) (by decide) (by decide)
  obtain ⟨b42, g42⟩ : ∃ z, z = T41.heap.size := ⟨_, rfl⟩
  rw [← g42] at A42 D42 st42
  have g_b42 : n0 ≤ b42 := Nat.le_trans (Nat.le_trans (Nat.le_trans Z0 E40.1) K41.1) (Nat.le_of_eq g42.symm)
  have sz_b42 : h0.size ≤ b42 := Nat.le_trans (KK41).1 (Nat.le_of_eq g42.symm)
  have K42 : Keep h0 h42 [] := (KK41).ext E42
  have F_offset_b42 : Fld Z h42 b42 "com/example/keyturn/keyturn/format/EndOfCentralDirectory" "offset" "J" (.long (0 : Int64)) := D42 (Or.inr (hw _ (List.mem_of_getElem? (i := 11) rfl))) (ty := .long) (by decide)
  have F_commentLength_b42 : Fld Z h42 b42 "com/example/keyturn/keyturn/format/EndOfCentralDirectory" "commentLength" "I" (.int (0 : Int32)) := D42 (Or.inr (hw _ (List.mem_of_getElem? (i := 13) rfl))) (ty := .int) (by decide)
  have F_centralDirectoryOffset_b42 : Fld Z h42 b42 "com/example/keyturn/keyturn/format/EndOfCentralDirectory" "centralDirectoryOffset" "J" (.long (0 : Int64)) := D42 (Or.inr (hw _ (List.mem_of_getElem? (i := 15) rfl))) (ty := .long) (by decide)
  have F_centralDirectorySize_b42 : Fld Z h42 b42 "com/example/keyturn/keyturn/format/EndOfCentralDirectory" "centralDirectorySize" "J" (.long (0 : Int64)) := D42 (Or.inr (hw _ (List.mem_of_getElem? (i := 17) rfl))) (ty := .long) (by decide)
  have F_entryCount_b42 : Fld Z h42 b42 "com/example/keyturn/keyturn/format/EndOfCentralDirectory" "entryCount" "I" (.int (0 : Int32)) := D42 (Or.inr (hw _ (List.mem_of_getElem? (i := 19) rfl))) (ty := .int) (by decide)
  obtain ⟨_, _, ⟨T43, L43, k43, n43⟩, -, X43, ⟨Lc43, hQ43, l43, y43, z43⟩, st43⟩ := X42.specialBack hx (y := (⟨"com/example/keyturn/keyturn/format/EndOfCentralDirectory", "<init>", "(JIJJI)V"⟩ : MethodName)) rfl hown (mvT hZ (hw _ (List.mem_of_getElem? (i := 4) rfl))) (mvT hZ (hw _ (List.mem_of_getElem? (i := 5) rfl))) (mvT hZ (hw _ (List.mem_of_getElem? (i := 6) rfl))) (by decide) (backOf (W := 1) (rmC l Z a0 hw [] b42 y1 y2 y3 y4 y5 h42 n0 (Nat.le_trans (Nat.le_trans (Nat.le_trans Z0 E40.1) K41.1) E42.1) A42 F_offset_b42 F_commentLength_b42 F_centralDirectoryOffset_b42 F_centralDirectorySize_b42 F_entryCount_b42 g_b42) hZ (hw _ (List.mem_of_getElem? (i := 6) rfl)) (hw _ (List.mem_of_getElem? (i := 3) rfl)) (by decide) (by decide)) (g := (mkF m 148 #[.val (.long x1), .second, .val (.int x2), .val (.long x3), .second, .val (.long x4), .second, .val (.int x5), .val (.int x6), .val (.int k), .val (.int bit), .val (.long lf), .second, .val (.int il), .val (.long y1), .second, .val (.int y2), .val (.long y3), .second, .val (.long y4), .second, .val (.int y5), .val (.ref b40), .unset, .unset] [(.int y5), (.long y4), (.long y3), (.int y2), (.long y1), (.ref b42), (.ref b42)])) rfl (by rw [hml]; rfl) (Steps.refl _) (a := b42) (argsL := [(.long y1), (.int y2), (.long y3), (.long y4), (.int y5)]) (rest := [(.ref b42)]) (lenOf pd_rm0_0 rfl) rfl (by show 2 * 0 + _ ≤ _; exact Nat.le_of_eq rfl) (hb hby at_148) (fun _ _ => ⟨rfl, e42, (by decide : 2 + 0 ≤ _), (by decide : 10 + 0 ≤ _)⟩)
  dsimp only [Pt.U, Pt.locs, Pt.cells, Pt.slots] at X43 l43 y43 z43 st43 hQ43
  subst l43 y43 z43
  obtain ⟨rfl, N43q, K43, Ei43, Ff0_43, Ff1_43, Ff2_43, Ff3_43, Ff4_43⟩ := hQ43
  have N43 := Fr.app N41 N43q
  have KK43 : Keep h0 T43.heap [] := (K42).trans K43 (allS (Or.inr sz_b42) all0)
  have pre44 : ∀ tt, Steps p.tables e below (T43.setTop (mkF m 157 #[.val (.long x1), .second, .val (.int x2), .val (.long x3), .second, .val (.long x4), .second, .val (.int x5), .val (.int x6), .val (.int k), .val (.int bit), .val (.long lf), .second, .val (.int il), .val (.long y1), .second, .val (.int y2), .val (.long y3), .second, .val (.long y4), .second, .val (.int y5), .val (.ref b40), .val (.ref b42), .unset] [(.int (6 : Int32)), (.int k)])) tt → Steps p.tables e below (s₁.setTop (entryFrame m #[(.long x1), (.int x2), (.long x3), (.long x4), (.int x5), (.int x6)] maxLocals)) tt := by
    intro tt kt
    refine pre39 tt ?_
    show Steps p.tables e below (T34.setTop (mkF m 116 #[.val (.long x1), .second, .val (.int x2), .val (.long x3), .second, .val (.long x4), .second, .val (.int x5), .val (.int x6), .val (.int k), .val (.int bit), .val (.long lf), .second, .val (.int il), .val (.long y1), .second, .val (.int y2), .val (.long y3), .second, .val (.long y4), .second, .unset, .unset, .unset, .unset] [(.int y5)])) _
    refine XS.istore X34.here hx rfl (hb hby at_116) rfl (l' := #[.val (.long x1), .second, .val (.int x2), .val (.long x3), .second, .val (.long x4), .second, .val (.int x5), .val (.int x6), .val (.int k), .val (.int bit), .val (.long lf), .second, .val (.int il), .val (.long y1), .second, .val (.int y2), .val (.long y3), .second, .val (.long y4), .second, .val (.int y5), .unset, .unset, .unset]) rfl ?_
    show Steps p.tables e below (T34.setTop (mkF m 118 #[.val (.long x1), .second, .val (.int x2), .val (.long x3), .second, .val (.long x4), .second, .val (.int x5), .val (.int x6), .val (.int k), .val (.int bit), .val (.long lf), .second, .val (.int il), .val (.long y1), .second, .val (.int y2), .val (.long y3), .second, .val (.long y4), .second, .val (.int y5), .unset, .unset, .unset] [])) _
    refine st40 _ ?_
    show Steps p.tables e below (T40.setTop (mkF m 121 #[.val (.long x1), .second, .val (.int x2), .val (.long x3), .second, .val (.long x4), .second, .val (.int x5), .val (.int x6), .val (.int k), .val (.int bit), .val (.long lf), .second, .val (.int il), .val (.long y1), .second, .val (.int y2), .val (.long y3), .second, .val (.long y4), .second, .val (.int y5), .unset, .unset, .unset] [(.ref b40)])) _
    refine XS.dup X40.here hx rfl (hb hby at_121) rfl rfl ?_
    show Steps p.tables e below (T40.setTop (mkF m 122 #[.val (.long x1), .second, .val (.int x2), .val (.long x3), .second, .val (.long x4), .second, .val (.int x5), .val (.int x6), .val (.int k), .val (.int bit), .val (.long lf), .second, .val (.int il), .val (.long y1), .second, .val (.int y2), .val (.long y3), .second, .val (.long y4), .second, .val (.int y5), .unset, .unset, .unset] [(.ref b40), (.ref b40)])) _
    refine XS.lloadN X40.here hx rfl (hb hby at_122) rfl ?_
    show Steps p.tables e below (T40.setTop (mkF m 123 #[.val (.long x1), .second, .val (.int x2), .val (.long x3), .second, .val (.long x4), .second, .val (.int x5), .val (.int x6), .val (.int k), .val (.int bit), .val (.long lf), .second, .val (.int il), .val (.long y1), .second, .val (.int y2), .val (.long y3), .second, .val (.long y4), .second, .val (.int y5), .unset, .unset, .unset] [(.long x1), (.ref b40), (.ref b40)])) _
    refine XS.iloadN X40.here hx rfl (hb hby at_123) rfl ?_
    show Steps p.tables e below (T40.setTop (mkF m 124 #[.val (.long x1), .second, .val (.int x2), .val (.long x3), .second, .val (.long x4), .second, .val (.int x5), .val (.int x6), .val (.int k), .val (.int bit), .val (.long lf), .second, .val (.int il), .val (.long y1), .second, .val (.int y2), .val (.long y3), .second, .val (.long y4), .second, .val (.int y5), .unset, .unset, .unset] [(.int x2), (.long x1), (.ref b40), (.ref b40)])) _
    refine XS.lloadN X40.here hx rfl (hb hby at_124) rfl ?_
    show Steps p.tables e below (T40.setTop (mkF m 125 #[.val (.long x1), .second, .val (.int x2), .val (.long x3), .second, .val (.long x4), .second, .val (.int x5), .val (.int x6), .val (.int k), .val (.int bit), .val (.long lf), .second, .val (.int il), .val (.long y1), .second, .val (.int y2), .val (.long y3), .second, .val (.long y4), .second, .val (.int y5), .unset, .unset, .unset] [(.long x3), (.int x2), (.long x1), (.ref b40), (.ref b40)])) _
    refine XS.lload X40.here hx rfl (hb hby at_125) rfl ?_
    show Steps p.tables e below (T40.setTop (mkF m 127 #[.val (.long x1), .second, .val (.int x2), .val (.long x3), .second, .val (.long x4), .second, .val (.int x5), .val (.int x6), .val (.int k), .val (.int bit), .val (.long lf), .second, .val (.int il), .val (.long y1), .second, .val (.int y2), .val (.long y3), .second, .val (.long y4), .second, .val (.int y5), .unset, .unset, .unset] [(.long x4), (.long x3), (.int x2), (.long x1), (.ref b40), (.ref b40)])) _
    refine XS.iload X40.here hx rfl (hb hby at_127) rfl ?_
    show Steps p.tables e below (T40.setTop (mkF m 129 #[.val (.long x1), .second, .val (.int x2), .val (.long x3), .second, .val (.long x4), .second, .val (.int x5), .val (.int x6), .val (.int k), .val (.int bit), .val (.long lf), .second, .val (.int il), .val (.long y1), .second, .val (.int y2), .val (.long y3), .second, .val (.long y4), .second, .val (.int y5), .unset, .unset, .unset] [(.int x5), (.long x4), (.long x3), (.int x2), (.long x1), (.ref b40), (.ref b40)])) _
    refine st41.trans ?_
    show Steps p.tables e below (T41.setTop (mkF m 132 #[.val (.long x1), .second, .val (.int x2), .val (.long x3), .second, .val (.long x4), .second, .val (.int x5), .val (.int x6), .val (.int k), .val (.int bit), .val (.long lf), .second, .val (.int il), .val (.long y1), .second, .val (.int y2), .val (.long y3), .second, .val (.long y4), .second, .val (.int y5), .unset, .unset, .unset] [(.ref b40)])) _
    refine XS.astore X41.here hx rfl (hb hby at_132) rfl rfl (l' := #[.val (.long x1), .second, .val (.int x2), .val (.long x3), .second, .val (.long x4), .second, .val (.int x5), .val (.int x6), .val (.int k), .val (.int bit), .val (.long lf), .second, .val (.int il), .val (.long y1), .second, .val (.int y2), .val (.long y3), .second, .val (.long y4), .second, .val (.int y5), .val (.ref b40), .unset, .unset]) rfl ?_
    show Steps p.tables e below (T41.setTop (mkF m 134 #[.val (.long x1), .second, .val (.int x2), .val (.long x3), .second, .val (.long x4), .second, .val (.int x5), .val (.int x6), .val (.int k), .val (.int bit), .val (.long lf), .second, .val (.int il), .val (.long y1), .second, .val (.int y2), .val (.long y3), .second, .val (.long y4), .second, .val (.int y5), .val (.ref b40), .unset, .unset] [])) _
    refine st42 _ ?_
    show Steps p.tables e below (T42.setTop (mkF m 137 #[.val (.long x1), .second, .val (.int x2), .val (.long x3), .second, .val (.long x4), .second, .val (.int x5), .val (.int x6), .val (.int k), .val (.int bit), .val (.long lf), .second, .val (.int il), .val (.long y1), .second, .val (.int y2), .val (.long y3), .second, .val (.long y4), .second, .val (.int y5), .val (.ref b40), .unset, .unset] [(.ref b42)])) _
    refine XS.dup X42.here hx rfl (hb hby at_137) rfl rfl ?_
    show Steps p.tables e below (T42.setTop (mkF m 138 #[.val (.long x1), .second, .val (.int x2), .val (.long x3), .second, .val (.long x4), .second, .val (.int x5), .val (.int x6), .val (.int k), .val (.int bit), .val (.long lf), .second, .val (.int il), .val (.long y1), .second, .val (.int y2), .val (.long y3), .second, .val (.long y4), .second, .val (.int y5), .val (.ref b40), .unset, .unset] [(.ref b42), (.ref b42)])) _
    refine XS.lload X42.here hx rfl (hb hby at_138) rfl ?_
    show Steps p.tables e below (T42.setTop (mkF m 140 #[.val (.long x1), .second, .val (.int x2), .val (.long x3), .second, .val (.long x4), .second, .val (.int x5), .val (.int x6), .val (.int k), .val (.int bit), .val (.long lf), .second, .val (.int il), .val (.long y1), .second, .val (.int y2), .val (.long y3), .second, .val (.long y4), .second, .val (.int y5), .val (.ref b40), .unset, .unset] [(.long y1), (.ref b42), (.ref b42)])) _
    refine XS.iload X42.here hx rfl (hb hby at_140) rfl ?_
    show Steps p.tables e below (T42.setTop (mkF m 142 #[.val (.long x1), .second, .val (.int x2), .val (.long x3), .second, .val (.long x4), .second, .val (.int x5), .val (.int x6), .val (.int k), .val (.int bit), .val (.long lf), .second, .val (.int il), .val (.long y1), .second, .val (.int y2), .val (.long y3), .second, .val (.long y4), .second, .val (.int y5), .val (.ref b40), .unset, .unset] [(.int y2), (.long y1), (.ref b42), (.ref b42)])) _
    refine XS.lload X42.here hx rfl (hb hby at_142) rfl ?_
    show Steps p.tables e below (T42.setTop (mkF m 144 #[.val (.long x1), .second, .val (.int x2), .val (.long x3), .second, .val (.long x4), .second, .val (.int x5), .val (.int x6), .val (.int k), .val (.int bit), .val (.long lf), .second, .val (.int il), .val (.long y1), .second, .val (.int y2), .val (.long y3), .second, .val (.long y4), .second, .val (.int y5), .val (.ref b40), .unset, .unset] [(.long y3), (.int y2), (.long y1), (.ref b42), (.ref b42)])) _
    refine XS.lload X42.here hx rfl (hb hby at_144) rfl ?_
    show Steps p.tables e below (T42.setTop (mkF m 146 #[.val (.long x1), .second, .val (.int x2), .val (.long x3), .second, .val (.long x4), .second, .val (.int x5), .val (.int x6), .val (.int k), .val (.int bit), .val (.long lf), .second, .val (.int il), .val (.long y1), .second, .val (.int y2), .val (.long y3), .second, .val (.long y4), .second, .val (.int y5), .val (.ref b40), .unset, .unset] [(.long y4), (.long y3), (.int y2), (.long y1), (.ref b42), (.ref b42)])) _
    refine XS.iload X42.here hx rfl (hb hby at_146) rfl ?_
    show Steps p.tables e below (T42.setTop (mkF m 148 #[.val (.long x1), .second, .val (.int x2), .val (.long x3), .second, .val (.long x4), .second, .val (.int x5), .val (.int x6), .val (.int k), .val (.int bit), .val (.long lf), .second, .val (.int il), .val (.long y1), .second, .val (.int y2), .val (.long y3), .second, .val (.long y4), .second, .val (.int y5), .val (.ref b40), .unset, .unset] [(.int y5), (.long y4), (.long y3), (.int y2), (.long y1), (.ref b42), (.ref b42)])) _
    refine st43.trans ?_
    show Steps p.tables e below (T43.setTop (mkF m 151 #[.val (.long x1), .second, .val (.int x2), .val (.long x3), .second, .val (.long x4), .second, .val (.int x5), .val (.int x6), .val (.int k), .val (.int bit), .val (.long lf), .second, .val (.int il), .val (.long y1), .second, .val (.int y2), .val (.long y3), .second, .val (.long y4), .second, .val (.int y5), .val (.ref b40), .unset, .unset] [(.ref b42)])) _
    refine XS.astore X43.here hx rfl (hb hby at_151) rfl rfl (l' := #[.val (.long x1), .second, .val (.int x2), .val (.long x3), .second, .val (.long x4), .second, .val (.int x5), .val (.int x6), .val (.int k), .val (.int bit), .val (.long lf), .second, .val (.int il), .val (.long y1), .second, .val (.int y2), .val (.long y3), .second, .val (.long y4), .second, .val (.int y5), .val (.ref b40), .val (.ref b42), .unset]) rfl ?_
    show Steps p.tables e below (T43.setTop (mkF m 153 #[.val (.long x1), .second, .val (.int x2), .val (.long x3), .second, .val (.long x4), .second, .val (.int x5), .val (.int x6), .val (.int k), .val (.int bit), .val (.long lf), .second, .val (.int il), .val (.long y1), .second, .val (.int y2), .val (.long y3), .second, .val (.long y4), .second, .val (.int y5), .val (.ref b40), .val (.ref b42), .unset] [])) _
    refine XS.iload X43.here hx rfl (hb hby at_153) rfl ?_
    show Steps p.tables e below (T43.setTop (mkF m 155 #[.val (.long x1), .second, .val (.int x2), .val (.long x3), .second, .val (.long x4), .second, .val (.int x5), .val (.int x6), .val (.int k), .val (.int bit), .val (.long lf), .second, .val (.int il), .val (.long y1), .second, .val (.int y2), .val (.long y3), .second, .val (.long y4), .second, .val (.int y5), .val (.ref b40), .val (.ref b42), .unset] [(.int k)])) _
    refine XS.bipush X43.here hx rfl (hb hby at_155) ?_
    exact kt
  by_cases c157_45 : k = (6 : Int32)
  · have pre46 : ∀ tt, Steps p.tables e below (T43.setTop (mkF m 167 #[.val (.long x1), .second, .val (.int x2), .val (.long x3), .second, .val (.long x4), .second, .val (.int x5), .val (.int x6), .val (.int k), .val (.int bit), .val (.long lf), .second, .val (.int il), .val (.long y1), .second, .val (.int y2), .val (.long y3), .second, .val (.long y4), .second, .val (.int y5), .val (.ref b40), .val (.ref b42), .unset] [(.int (((x6.toUInt32 >>> ((9 : Int32) &&& 31).toUInt32).toInt32) &&& (1 : Int32)))])) tt → Steps p.tables e below (s₁.setTop (entryFrame m #[(.long x1), (.int x2), (.long x3), (.long x4), (.int x5), (.int x6)] maxLocals)) tt := by
      intro tt kt
      refine pre44 tt ?_
      show Steps p.tables e below (T43.setTop (mkF m 157 #[.val (.long x1), .second, .val (.int x2), .val (.long x3), .second, .val (.long x4), .second, .val (.int x5), .val (.int x6), .val (.int k), .val (.int bit), .val (.long lf), .second, .val (.int il), .val (.long y1), .second, .val (.int y2), .val (.long y3), .second, .val (.long y4), .second, .val (.int y5), .val (.ref b40), .val (.ref b42), .unset] [(.int (6 : Int32)), (.int k)])) _
      refine XS.icmpNo X43.here hx rfl (hb hby at_157) rfl (teq c157_45).2 ?_
      show Steps p.tables e below (T43.setTop (mkF m 160 #[.val (.long x1), .second, .val (.int x2), .val (.long x3), .second, .val (.long x4), .second, .val (.int x5), .val (.int x6), .val (.int k), .val (.int bit), .val (.long lf), .second, .val (.int il), .val (.long y1), .second, .val (.int y2), .val (.long y3), .second, .val (.long y4), .second, .val (.int y5), .val (.ref b40), .val (.ref b42), .unset] [])) _
      refine XS.iload X43.here hx rfl (hb hby at_160) rfl ?_
      show Steps p.tables e below (T43.setTop (mkF m 162 #[.val (.long x1), .second, .val (.int x2), .val (.long x3), .second, .val (.long x4), .second, .val (.int x5), .val (.int x6), .val (.int k), .val (.int bit), .val (.long lf), .second, .val (.int il), .val (.long y1), .second, .val (.int y2), .val (.long y3), .second, .val (.long y4), .second, .val (.int y5), .val (.ref b40), .val (.ref b42), .unset] [(.int x6)])) _
      refine XS.bipush X43.here hx rfl (hb hby at_162) ?_
      show Steps p.tables e below (T43.setTop (mkF m 164 #[.val (.long x1), .second, .val (.int x2), .val (.long x3), .second, .val (.long x4), .second, .val (.int x5), .val (.int x6), .val (.int k), .val (.int bit), .val (.long lf), .second, .val (.int il), .val (.long y1), .second, .val (.int y2), .val (.long y3), .second, .val (.long y4), .second, .val (.int y5), .val (.ref b40), .val (.ref b42), .unset] [(.int (9 : Int32)), (.int x6)])) _
      refine XS.iushr X43.here hx rfl (hb hby at_164) rfl ?_
      show Steps p.tables e below (T43.setTop (mkF m 165 #[.val (.long x1), .second, .val (.int x2), .val (.long x3), .second, .val (.long x4), .second, .val (.int x5), .val (.int x6), .val (.int k), .val (.int bit), .val (.long lf), .second, .val (.int il), .val (.long y1), .second, .val (.int y2), .val (.long y3), .second, .val (.long y4), .second, .val (.int y5), .val (.ref b40), .val (.ref b42), .unset] [(.int ((x6.toUInt32 >>> ((9 : Int32) &&& 31).toUInt32).toInt32))])) _
      refine XS.iconst X43.here hx rfl (hb hby at_165) ?_
      show Steps p.tables e below (T43.setTop (mkF m 166 #[.val (.long x1), .second, .val (.int x2), .val (.long x3), .second, .val (.long x4), .second, .val (.int x5), .val (.int x6), .val (.int k), .val (.int bit), .val (.long lf), .second, .val (.int il), .val (.long y1), .second, .val (.int y2), .val (.long y3), .second, .val (.long y4), .second, .val (.int y5), .val (.ref b40), .val (.ref b42), .unset] [(.int (1 : Int32)), (.int ((x6.toUInt32 >>> ((9 : Int32) &&& 31).toUInt32).toInt32))])) _
      refine XS.iand X43.here hx rfl (hb hby at_166) rfl ?_
      exact kt
    by_cases c167_47 : (((x6.toUInt32 >>> ((9 : Int32) &&& 31).toUInt32).toInt32) &&& (1 : Int32)) = (0 : Int32)
    · obtain ⟨cq48, kq48, q48a, q48b, q48c⟩ := isOf hZ rfl ((Exa.ext E42 Ei41).keep K43)
      obtain ⟨_, _, ⟨T48, L48, k48, n48⟩, -, X48, ⟨Lc48, hQ48, l48, y48, z48⟩, st48⟩ := X43.virtualBack hx (y := (⟨"com/example/keyturn/keyturn/format/EndOfCentralDirectory", "equals", "(Ljava/lang/Object;)Z"⟩ : MethodName)) (z := (⟨"com/example/keyturn/keyturn/format/EndOfCentralDirectory", "equals", "(Ljava/lang/Object;)Z"⟩ : MethodName)) hown (mvT hZ (hw _ (List.mem_of_getElem? (i := 20) rfl))) (mvT hZ (hw _ (List.mem_of_getElem? (i := 21) rfl))) (notFace_of_selects (args := #[]) (mvT hZ (hw _ (List.mem_of_getElem? (i := 23) rfl)))) (mvT hZ (hw _ (List.mem_of_getElem? (i := 23) rfl))) (mvT hZ (hw _ (List.mem_of_getElem? (i := 22) rfl))) (by decide) (backOf (W := 0) (rmEN l Z a0 hw [] b40 T43.heap n0 (Nat.le_trans (Nat.le_trans (Nat.le_trans (Nat.le_trans Z0 E40.1) K41.1) E42.1) K43.1)) hZ (hw _ (List.mem_of_getElem? (i := 24) rfl)) (hw _ (List.mem_of_getElem? (i := 3) rfl)) (by decide) (by decide)) q48a q48c (g := (mkF m 184 #[.val (.long x1), .second, .val (.int x2), .val (.long x3), .second, .val (.long x4), .second, .val (.int x5), .val (.int x6), .val (.int k), .val (.int bit), .val (.long lf), .second, .val (.int il), .val (.long y1), .second, .val (.int y2), .val (.long y3), .second, .val (.long y4), .second, .val (.int y5), .val (.ref b40), .val (.ref b42), .val .null] [.null, (.ref b40)])) rfl (by rw [hml]; rfl) (Steps.refl _) (argsL := [.null]) (rest := []) (lenOf pd_rm0_1 rfl) rfl (by show 2 * 0 + _ ≤ _; exact Nat.le_of_eq rfl) (hb hby at_184) (fun _ _ => ⟨rfl, rfl, (by decide : 2 + 0 ≤ _), (by decide : 10 + 0 ≤ _)⟩)
      dsimp only [Pt.U, Pt.locs, Pt.cells, Pt.slots] at X48 l48 y48 z48 st48 hQ48
      subst l48 y48 z48
      obtain ⟨rfl, N48q, hE48⟩ := hQ48
      have N48 := Fr.app N43 N48q
      obtain ⟨cq49, kq49, q49a, q49b, q49c⟩ := isOf hZ hE48 ((Exa.ext E42 Ei41).keep K43)
      obtain ⟨_, _, ⟨T49, L49, k49, n49⟩, -, X49, ⟨Lc49, hQ49, l49, y49, z49⟩, st49⟩ := X48.virtualBack hx (y := (⟨"com/example/keyturn/keyturn/format/EndOfCentralDirectory", "equals", "(Ljava/lang/Object;)Z"⟩ : MethodName)) (z := (⟨"com/example/keyturn/keyturn/format/EndOfCentralDirectory", "equals", "(Ljava/lang/Object;)Z"⟩ : MethodName)) hown (mvT hZ (hw _ (List.mem_of_getElem? (i := 20) rfl))) (mvT hZ (hw _ (List.mem_of_getElem? (i := 21) rfl))) (notFace_of_selects (args := #[]) (mvT hZ (hw _ (List.mem_of_getElem? (i := 23) rfl)))) (mvT hZ (hw _ (List.mem_of_getElem? (i := 23) rfl))) (mvT hZ (hw _ (List.mem_of_getElem? (i := 22) rfl))) (by decide) (backOf (W := 0) (rmE l Z a0 hw [] b40 b40 x1 x2 x3 x4 x5 x1 x2 x3 x4 x5 (1 : Int32) T43.heap n0 (Nat.le_trans (Nat.le_trans (Nat.le_trans (Nat.le_trans Z0 E40.1) K41.1) E42.1) K43.1) ((Exa.ext E42 Ei41).keep K43) ((Fld.ext E42 Ff0_41).keep K43 (ninS (Nat.ne_of_lt (Nat.lt_of_lt_of_le (Ei41).lt (Nat.le_of_eq g42.symm))) nin0)) ((Fld.ext E42 Ff1_41).keep K43 (ninS (Nat.ne_of_lt (Nat.lt_of_lt_of_le (Ei41).lt (Nat.le_of_eq g42.symm))) nin0)) ((Fld.ext E42 Ff2_41).keep K43 (ninS (Nat.ne_of_lt (Nat.lt_of_lt_of_le (Ei41).lt (Nat.le_of_eq g42.symm))) nin0)) ((Fld.ext E42 Ff3_41).keep K43 (ninS (Nat.ne_of_lt (Nat.lt_of_lt_of_le (Ei41).lt (Nat.le_of_eq g42.symm))) nin0)) ((Fld.ext E42 Ff4_41).keep K43 (ninS (Nat.ne_of_lt (Nat.lt_of_lt_of_le (Ei41).lt (Nat.le_of_eq g42.symm))) nin0)) ((Fld.ext E42 Ff0_41).keep K43 (ninS (Nat.ne_of_lt (Nat.lt_of_lt_of_le (Ei41).lt (Nat.le_of_eq g42.symm))) nin0)) ((Fld.ext E42 Ff1_41).keep K43 (ninS (Nat.ne_of_lt (Nat.lt_of_lt_of_le (Ei41).lt (Nat.le_of_eq g42.symm))) nin0)) ((Fld.ext E42 Ff2_41).keep K43 (ninS (Nat.ne_of_lt (Nat.lt_of_lt_of_le (Ei41).lt (Nat.le_of_eq g42.symm))) nin0)) ((Fld.ext E42 Ff3_41).keep K43 (ninS (Nat.ne_of_lt (Nat.lt_of_lt_of_le (Ei41).lt (Nat.le_of_eq g42.symm))) nin0)) ((Fld.ext E42 Ff4_41).keep K43 (ninS (Nat.ne_of_lt (Nat.lt_of_lt_of_le (Ei41).lt (Nat.le_of_eq g42.symm))) nin0)) (by simp)) hZ (hw _ (List.mem_of_getElem? (i := 24) rfl)) (hw _ (List.mem_of_getElem? (i := 3) rfl)) (by decide) (by decide)) q49a q49c (g := (mkF m 194 #[.val (.long x1), .second, .val (.int x2), .val (.long x3), .second, .val (.long x4), .second, .val (.int x5), .val (.int x6), .val (.int k), .val (.int bit), .val (.long lf), .second, .val (.int il), .val (.long y1), .second, .val (.int y2), .val (.long y3), .second, .val (.long y4), .second, .val (.int y5), .val (.ref b40), .val (.ref b42), .val .null] [(.ref b40), (.ref b40)])) rfl (by rw [hml]; rfl) (Steps.refl _) (argsL := [(.ref b40)]) (rest := []) (lenOf pd_rm0_1 rfl) rfl (by show 2 * 0 + _ ≤ _; exact Nat.le_of_eq rfl) (hb hby at_194) (fun _ _ => ⟨rfl, hE48, (by decide : 2 + 0 ≤ _), (by decide : 10 + 0 ≤ _)⟩)
      dsimp only [Pt.U, Pt.locs, Pt.cells, Pt.slots] at X49 l49 y49 z49 st49 hQ49
      subst l49 y49 z49
      obtain ⟨rfl, N49q, hE49⟩ := hQ49
      have N49 := Fr.app N48 N49q
      have pre50 : ∀ tt, Steps p.tables e below (T49.setTop (mkF m 205 #[.val (.long x1), .second, .val (.int x2), .val (.long x3), .second, .val (.long x4), .second, .val (.int x5), .val (.int x6), .val (.int k), .val (.int bit), .val (.long lf), .second, .val (.int il), .val (.long y1), .second, .val (.int y2), .val (.long y3), .second, .val (.long y4), .second, .val (.int y5), .val (.ref b40), .val (.ref b42), .val .null] [(.int (1 : Int32))])) tt → Steps p.tables e below (s₁.setTop (entryFrame m #[(.long x1), (.int x2), (.long x3), (.long x4), (.int x5), (.int x6)] maxLocals)) tt := by
        intro tt kt
        refine pre46 tt ?_
        show Steps p.tables e below (T43.setTop (mkF m 167 #[.val (.long x1), .second, .val (.int x2), .val (.long x3), .second, .val (.long x4), .second, .val (.int x5), .val (.int x6), .val (.int k), .val (.int bit), .val (.long lf), .second, .val (.int il), .val (.long y1), .second, .val (.int y2), .val (.long y3), .second, .val (.long y4), .second, .val (.int y5), .val (.ref b40), .val (.ref b42), .unset] [(.int (((x6.toUInt32 >>> ((9 : Int32) &&& 31).toUInt32).toInt32) &&& (1 : Int32)))])) _
        refine XS.ifNo X43.here hx rfl (hb hby at_167) rfl ((if0 _ _).trans (teq c167_47).2) ?_
        show Steps p.tables e below (T43.setTop (mkF m 170 #[.val (.long x1), .second, .val (.int x2), .val (.long x3), .second, .val (.long x4), .second, .val (.int x5), .val (.int x6), .val (.int k), .val (.int bit), .val (.long lf), .second, .val (.int il), .val (.long y1), .second, .val (.int y2), .val (.long y3), .second, .val (.long y4), .second, .val (.int y5), .val (.ref b40), .val (.ref b42), .unset] [])) _
        refine XS.aconstNull X43.here hx rfl (hb hby at_170) ?_
        show Steps p.tables e below (T43.setTop (mkF m 171 #[.val (.long x1), .second, .val (.int x2), .val (.long x3), .second, .val (.long x4), .second, .val (.int x5), .val (.int x6), .val (.int k), .val (.int bit), .val (.long lf), .second, .val (.int il), .val (.long y1), .second, .val (.int y2), .val (.long y3), .second, .val (.long y4), .second, .val (.int y5), .val (.ref b40), .val (.ref b42), .unset] [.null])) _
        refine XS.goto X43.here hx rfl (pc0 := 171) (pc' := 178) rfl (hb hby at_171) (by decide) (by decide) ?_
        show Steps p.tables e below (T43.setTop (mkF m 178 #[.val (.long x1), .second, .val (.int x2), .val (.long x3), .second, .val (.long x4), .second, .val (.int x5), .val (.int x6), .val (.int k), .val (.int bit), .val (.long lf), .second, .val (.int il), .val (.long y1), .second, .val (.int y2), .val (.long y3), .second, .val (.long y4), .second, .val (.int y5), .val (.ref b40), .val (.ref b42), .unset] [.null])) _
        refine XS.astore X43.here hx rfl (hb hby at_178) rfl rfl (l' := #[.val (.long x1), .second, .val (.int x2), .val (.long x3), .second, .val (.long x4), .second, .val (.int x5), .val (.int x6), .val (.int k), .val (.int bit), .val (.long lf), .second, .val (.int il), .val (.long y1), .second, .val (.int y2), .val (.long y3), .second, .val (.long y4), .second, .val (.int y5), .val (.ref b40), .val (.ref b42), .val .null]) rfl ?_
        show Steps p.tables e below (T43.setTop (mkF m 180 #[.val (.long x1), .second, .val (.int x2), .val (.long x3), .second, .val (.long x4), .second, .val (.int x5), .val (.int x6), .val (.int k), .val (.int bit), .val (.long lf), .second, .val (.int il), .val (.long y1), .second, .val (.int y2), .val (.long y3), .second, .val (.long y4), .second, .val (.int y5), .val (.ref b40), .val (.ref b42), .val .null] [])) _
        refine XS.aload X43.here hx rfl (hb hby at_180) rfl rfl ?_
        show Steps p.tables e below (T43.setTop (mkF m 182 #[.val (.long x1), .second, .val (.int x2), .val (.long x3), .second, .val (.long x4), .second, .val (.int x5), .val (.int x6), .val (.int k), .val (.int bit), .val (.long lf), .second, .val (.int il), .val (.long y1), .second, .val (.int y2), .val (.long y3), .second, .val (.long y4), .second, .val (.int y5), .val (.ref b40), .val (.ref b42), .val .null] [(.ref b40)])) _
        refine XS.aload X43.here hx rfl (hb hby at_182) rfl rfl ?_
        show Steps p.tables e below (T43.setTop (mkF m 184 #[.val (.long x1), .second, .val (.int x2), .val (.long x3), .second, .val (.long x4), .second, .val (.int x5), .val (.int x6), .val (.int k), .val (.int bit), .val (.long lf), .second, .val (.int il), .val (.long y1), .second, .val (.int y2), .val (.long y3), .second, .val (.long y4), .second, .val (.int y5), .val (.ref b40), .val (.ref b42), .val .null] [.null, (.ref b40)])) _
        refine st48.trans ?_
        show Steps p.tables e below (T48.setTop (mkF m 187 #[.val (.long x1), .second, .val (.int x2), .val (.long x3), .second, .val (.long x4), .second, .val (.int x5), .val (.int x6), .val (.int k), .val (.int bit), .val (.long lf), .second, .val (.int il), .val (.long y1), .second, .val (.int y2), .val (.long y3), .second, .val (.long y4), .second, .val (.int y5), .val (.ref b40), .val (.ref b42), .val .null] [(.int (0 : Int32))])) _
        refine XS.ifNo X48.here hx rfl (hb hby at_187) rfl ((if0 _ _).trans (teq (rfl : (0 : Int32) = (0 : Int32))).2) ?_
        show Steps p.tables e below (T48.setTop (mkF m 190 #[.val (.long x1), .second, .val (.int x2), .val (.long x3), .second, .val (.long x4), .second, .val (.int x5), .val (.int x6), .val (.int k), .val (.int bit), .val (.long lf), .second, .val (.int il), .val (.long y1), .second, .val (.int y2), .val (.long y3), .second, .val (.long y4), .second, .val (.int y5), .val (.ref b40), .val (.ref b42), .val .null] [])) _
        refine XS.aload X48.here hx rfl (hb hby at_190) rfl rfl ?_
        show Steps p.tables e below (T48.setTop (mkF m 192 #[.val (.long x1), .second, .val (.int x2), .val (.long x3), .second, .val (.long x4), .second, .val (.int x5), .val (.int x6), .val (.int k), .val (.int bit), .val (.long lf), .second, .val (.int il), .val (.long y1), .second, .val (.int y2), .val (.long y3), .second, .val (.long y4), .second, .val (.int y5), .val (.ref b40), .val (.ref b42), .val .null] [(.ref b40)])) _
        refine XS.aload X48.here hx rfl (hb hby at_192) rfl rfl ?_
        show Steps p.tables e below (T48.setTop (mkF m 194 #[.val (.long x1), .second, .val (.int x2), .val (.long x3), .second, .val (.long x4), .second, .val (.int x5), .val (.int x6), .val (.int k), .val (.int bit), .val (.long lf), .second, .val (.int il), .val (.long y1), .second, .val (.int y2), .val (.long y3), .second, .val (.long y4), .second, .val (.int y5), .val (.ref b40), .val (.ref b42), .val .null] [(.ref b40), (.ref b40)])) _
        refine st49.trans ?_
        show Steps p.tables e below (T49.setTop (mkF m 197 #[.val (.long x1), .second, .val (.int x2), .val (.long x3), .second, .val (.long x4), .second, .val (.int x5), .val (.int x6), .val (.int k), .val (.int bit), .val (.long lf), .second, .val (.int il), .val (.long y1), .second, .val (.int y2), .val (.long y3), .second, .val (.long y4), .second, .val (.int y5), .val (.ref b40), .val (.ref b42), .val .null] [(.int (1 : Int32))])) _
        refine XS.ifNo X49.here hx rfl (hb hby at_197) rfl ((if0 _ _).trans (feq (by decide : ¬ ((1 : Int32) = (0 : Int32)))).1) ?_
        show Steps p.tables e below (T49.setTop (mkF m 200 #[.val (.long x1), .second, .val (.int x2), .val (.long x3), .second, .val (.long x4), .second, .val (.int x5), .val (.int x6), .val (.int k), .val (.int bit), .val (.long lf), .second, .val (.int il), .val (.long y1), .second, .val (.int y2), .val (.long y3), .second, .val (.long y4), .second, .val (.int y5), .val (.ref b40), .val (.ref b42), .val .null] [])) _
        refine XS.iconst X49.here hx rfl (hb hby at_200) ?_
        show Steps p.tables e below (T49.setTop (mkF m 201 #[.val (.long x1), .second, .val (.int x2), .val (.long x3), .second, .val (.long x4), .second, .val (.int x5), .val (.int x6), .val (.int k), .val (.int bit), .val (.long lf), .second, .val (.int il), .val (.long y1), .second, .val (.int y2), .val (.long y3), .second, .val (.long y4), .second, .val (.int y5), .val (.ref b40), .val (.ref b42), .val .null] [(.int (1 : Int32))])) _
        refine XS.goto X49.here hx rfl (pc0 := 201) (pc' := 205) rfl (hb hby at_201) (by decide) (by decide) ?_
        exact kt
      obtain ⟨fs, hr, hrun, hended, hW, hsame⟩ := X49.leave (v := some (.int (1 : Int32))) (fun h => by rw [Bd.returns] at h; cases h)
      refine ⟨_, _, pre50 _ ?_, hrun, hended, _, _, rfl, ?_, ⟨_, rfl⟩, hW, hsame.mono (by decide) (by decide)⟩
      · show Steps p.tables e below (T49.setTop (mkF m 205 #[.val (.long x1), .second, .val (.int x2), .val (.long x3), .second, .val (.long x4), .second, .val (.int x5), .val (.int x6), .val (.int k), .val (.int bit), .val (.long lf), .second, .val (.int il), .val (.long y1), .second, .val (.int y2), .val (.long y3), .second, .val (.long y4), .second, .val (.int y5), .val (.ref b40), .val (.ref b42), .val .null] [(.int (1 : Int32))])) _
        exact retN X49 hx (t := .boolean) Bd.returns (by simp) (hb hby at_205) hr
      · show Q0 Z h0 n0 _ T49.heap _
        rw [hE49]
        exact ⟨rfl, N49⟩
    · obtain ⟨_, _, ⟨T51, L51, k51, n51⟩, -, X51, ⟨Lc51, hQ51, l51, y51, z51⟩, st51⟩ := Jvm.LawKit.callS X43 hx (y := (⟨"java/lang/Integer", "valueOf", "(I)Ljava/lang/Integer;"⟩ : MethodName)) hown (mvT hZ (hw _ (List.mem_of_getElem? (i := 27) rfl))) (mvT hZ (hw _ (List.mem_of_getElem? (i := 28) rfl))) (mvT hZ (hw _ (List.mem_of_getElem? (i := 29) rfl))) (mvT hZ (hw _ (List.mem_of_getElem? (i := 30) rfl))) (by decide) (backOf (W := 0) (rmVO l Z a0 hw [] x2 wC T43.heap n0 (Nat.le_trans (Nat.le_trans (Nat.le_trans (Nat.le_trans Z0 E40.1) K41.1) E42.1) K43.1) (own_staK (Sta.ext E42 (own_staK (Sta.ext E40 S_high) K41 (allS ⟨_, A40⟩ all0))) K43 (allS ⟨_, A42⟩ all0)) (own_staK (Sta.ext E42 (own_staK (Sta.ext E40 S_cache) K41 (allS ⟨_, A40⟩ all0))) K43 (allS ⟨_, A42⟩ all0)) (own_ICkeep (own_ICkeep (own_ICkeep (own_ICkeep I_C ((Keep.refl _ []).ext E40) nin0) K41 (ninS (own_wCne I_C sz_b40) nin0)) ((Keep.refl _ []).ext E42) nin0) K43 (ninS (own_wCne I_C sz_b42) nin0))) hZ (hw _ (List.mem_of_getElem? (i := 30) rfl)) (hw _ (List.mem_of_getElem? (i := 29) rfl)) (by decide) (by decide)) (g := (mkF m 175 #[.val (.long x1), .second, .val (.int x2), .val (.long x3), .second, .val (.long x4), .second, .val (.int x5), .val (.int x6), .val (.int k), .val (.int bit), .val (.long lf), .second, .val (.int il), .val (.long y1), .second, .val (.int y2), .val (.long y3), .second, .val (.long y4), .second, .val (.int y5), .val (.ref b40), .val (.ref b42), .unset] [(.int x2)])) rfl (by rw [hml]; rfl) (argsL := [(.int x2)]) (rest := []) (lenOf pd_rm0_2 rfl) rfl (by show 2 * 0 + _ ≤ _; exact Nat.le_of_eq rfl) (hb hby at_175) (fun _ _ => ⟨rfl, rfl, (by decide : 2 + 1 ≤ _), (by decide : 10 + 1 ≤ _)⟩)
      dsimp only [Pt.U, Pt.locs, Pt.cells, Pt.slots] at X51 l51 y51 z51 st51 hQ51
      subst l51 y51 z51
      obtain ⟨bo51, rfl, N51q, K51, Eo51⟩ := hQ51
      have N51 := Fr.app N43 N51q
      obtain ⟨cq52, kq52, q52a, q52b, q52c⟩ := isOf hZ rfl (((Exa.ext E42 Ei41).keep K43).keep K51)
      obtain ⟨_, _, ⟨T52, L52, k52, n52⟩, -, X52, ⟨Lc52, hQ52, l52, y52, z52⟩, st52⟩ := X51.virtualBack hx (y := (⟨"com/example/keyturn/keyturn/format/EndOfCentralDirectory", "equals", "(Ljava/lang/Object;)Z"⟩ : MethodName)) (z := (⟨"com/example/keyturn/keyturn/format/EndOfCentralDirectory", "equals", "(Ljava/lang/Object;)Z"⟩ : MethodName)) hown (mvT hZ (hw _ (List.mem_of_getElem? (i := 20) rfl))) (mvT hZ (hw _ (List.mem_of_getElem? (i := 21) rfl))) (notFace_of_selects (args := #[]) (mvT hZ (hw _ (List.mem_of_getElem? (i := 23) rfl)))) (mvT hZ (hw _ (List.mem_of_getElem? (i := 23) rfl))) (mvT hZ (hw _ (List.mem_of_getElem? (i := 22) rfl))) (by decide) (backOf (W := 0) (rmEX l Z a0 hw [] b40 bo51 "java/lang/Integer" T51.heap n0 (Nat.le_trans (Nat.le_trans (Nat.le_trans (Nat.le_trans (Nat.le_trans Z0 E40.1) K41.1) E42.1) K43.1) K51.1) Eo51 (own_noI hw)) hZ (hw _ (List.mem_of_getElem? (i := 24) rfl)) (hw _ (List.mem_of_getElem? (i := 3) rfl)) (by decide) (by decide)) q52a q52c (g := (mkF m 184 #[.val (.long x1), .second, .val (.int x2), .val (.long x3), .second, .val (.long x4), .second, .val (.int x5), .val (.int x6), .val (.int k), .val (.int bit), .val (.long lf), .second, .val (.int il), .val (.long y1), .second, .val (.int y2), .val (.long y3), .second, .val (.long y4), .second, .val (.int y5), .val (.ref b40), .val (.ref b42), .val (.ref bo51)] [(.ref bo51), (.ref b40)])) rfl (by rw [hml]; rfl) (Steps.refl _) (argsL := [(.ref bo51)]) (rest := []) (lenOf pd_rm0_1 rfl) rfl (by show 2 * 0 + _ ≤ _; exact Nat.le_of_eq rfl) (hb hby at_184) (fun _ _ => ⟨rfl, rfl, (by decide : 3 + 0 ≤ _), (by decide : 11 + 0 ≤ _)⟩)
      dsimp only [Pt.U, Pt.locs, Pt.cells, Pt.slots] at X52 l52 y52 z52 st52 hQ52
      subst l52 y52 z52
      obtain ⟨rfl, N52q, hE52⟩ := hQ52
      have N52 := Fr.app N51 N52q
      obtain ⟨cq53, kq53, q53a, q53b, q53c⟩ := isOf hZ hE52 (((Exa.ext E42 Ei41).keep K43).keep K51)
      obtain ⟨_, _, ⟨T53, L53, k53, n53⟩, -, X53, ⟨Lc53, hQ53, l53, y53, z53⟩, st53⟩ := X52.virtualBack hx (y := (⟨"com/example/keyturn/keyturn/format/EndOfCentralDirectory", "equals", "(Ljava/lang/Object;)Z"⟩ : MethodName)) (z := (⟨"com/example/keyturn/keyturn/format/EndOfCentralDirectory", "equals", "(Ljava/lang/Object;)Z"⟩ : MethodName)) hown (mvT hZ (hw _ (List.mem_of_getElem? (i := 20) rfl))) (mvT hZ (hw _ (List.mem_of_getElem? (i := 21) rfl))) (notFace_of_selects (args := #[]) (mvT hZ (hw _ (List.mem_of_getElem? (i := 23) rfl)))) (mvT hZ (hw _ (List.mem_of_getElem? (i := 23) rfl))) (mvT hZ (hw _ (List.mem_of_getElem? (i := 22) rfl))) (by decide) (backOf (W := 0) (rmE l Z a0 hw [] b40 b40 x1 x2 x3 x4 x5 x1 x2 x3 x4 x5 (1 : Int32) T51.heap n0 (Nat.le_trans (Nat.le_trans (Nat.le_trans (Nat.le_trans (Nat.le_trans Z0 E40.1) K41.1) E42.1) K43.1) K51.1) (((Exa.ext E42 Ei41).keep K43).keep K51) (((Fld.ext E42 Ff0_41).keep K43 (ninS (Nat.ne_of_lt (Nat.lt_of_lt_of_le (Ei41).lt (Nat.le_of_eq g42.symm))) nin0)).keep K51 nin0) (((Fld.ext E42 Ff1_41).keep K43 (ninS (Nat.ne_of_lt (Nat.lt_of_lt_of_le (Ei41).lt (Nat.le_of_eq g42.symm))) nin0)).keep K51 nin0) (((Fld.ext E42 Ff2_41).keep K43 (ninS (Nat.ne_of_lt (Nat.lt_of_lt_of_le (Ei41).lt (Nat.le_of_eq g42.symm))) nin0)).keep K51 nin0) (((Fld.ext E42 Ff3_41).keep K43 (ninS (Nat.ne_of_lt (Nat.lt_of_lt_of_le (Ei41).lt (Nat.le_of_eq g42.symm))) nin0)).keep K51 nin0) (((Fld.ext E42 Ff4_41).keep K43 (ninS (Nat.ne_of_lt (Nat.lt_of_lt_of_le (Ei41).lt (Nat.le_of_eq g42.symm))) nin0)).keep K51 nin0) (((Fld.ext E42 Ff0_41).keep K43 (ninS (Nat.ne_of_lt (Nat.lt_of_lt_of_le (Ei41).lt (Nat.le_of_eq g42.symm))) nin0)).keep K51 nin0) (((Fld.ext E42 Ff1_41).keep K43 (ninS (Nat.ne_of_lt (Nat.lt_of_lt_of_le (Ei41).lt (Nat.le_of_eq g42.symm))) nin0)).keep K51 nin0) (((Fld.ext E42 Ff2_41).keep K43 (ninS (Nat.ne_of_lt (Nat.lt_of_lt_of_le (Ei41).lt (Nat.le_of_eq g42.symm))) nin0)).keep K51 nin0) (((Fld.ext E42 Ff3_41).keep K43 (ninS (Nat.ne_of_lt (Nat.lt_of_lt_of_le (Ei41).lt (Nat.le_of_eq g42.symm))) nin0)).keep K51 nin0) (((Fld.ext E42 Ff4_41).keep K43 (ninS (Nat.ne_of_lt (Nat.lt_of_lt_of_le (Ei41).lt (Nat.le_of_eq g42.symm))) nin0)).keep K51 nin0) (by simp)) hZ (hw _ (List.mem_of_getElem? (i := 24) rfl)) (hw _ (List.mem_of_getElem? (i := 3) rfl)) (by decide) (by decide)) q53a q53c (g := (mkF m 194 #[.val (.long x1), .second, .val (.int x2), .val (.long x3), .second, .val (.long x4), .second, .val (.int x5), .val (.int x6), .val (.int k), .val (.int bit), .val (.long lf), .second, .val (.int il), .val (.long y1), .second, .val (.int y2), .val (.long y3), .second, .val (.long y4), .second, .val (.int y5), .val (.ref b40), .val (.ref b42), .val (.ref bo51)] [(.ref b40), (.ref b40)])) rfl (by rw [hml]; rfl) (Steps.refl _) (argsL := [(.ref b40)]) (rest := []) (lenOf pd_rm0_1 rfl) rfl (by show 2 * 0 + _ ≤ _; exact Nat.le_of_eq rfl) (hb hby at_194) (fun _ _ => ⟨rfl, hE52, (by decide : 3 + 0 ≤ _), (by decide : 11 + 0 ≤ _)⟩)
      dsimp only [Pt.U, Pt.locs, Pt.cells, Pt.slots] at X53 l53 y53 z53 st53 hQ53
      subst l53 y53 z53
      obtain ⟨rfl, N53q, hE53⟩ := hQ53
      have N53 := Fr.app N52 N53q
      have pre54 : ∀ tt, Steps p.tables e below (T53.setTop (mkF m 205 #[.val (.long x1), .second, .val (.int x2), .val (.long x3), .second, .val (.long x4), .second, .val (.int x5), .val (.int x6), .val (.int k), .val (.int bit), .val (.long lf), .second, .val (.int il), .val (.long y1), .second, .val (.int y2), .val (.long y3), .second, .val (.long y4), .second, .val (.int y5), .val (.ref b40), .val (.ref b42), .val (.ref bo51)] [(.int (1 : Int32))])) tt → Steps p.tables e below (s₁.setTop (entryFrame m #[(.long x1), (.int x2), (.long x3), (.long x4), (.int x5), (.int x6)] maxLocals)) tt := by
        intro tt kt
        refine pre46 tt ?_
        show Steps p.tables e below (T43.setTop (mkF m 167 #[.val (.long x1), .second, .val (.int x2), .val (.long x3), .second, .val (.long x4), .second, .val (.int x5), .val (.int x6), .val (.int k), .val (.int bit), .val (.long lf), .second, .val (.int il), .val (.long y1), .second, .val (.int y2), .val (.long y3), .second, .val (.long y4), .second, .val (.int y5), .val (.ref b40), .val (.ref b42), .unset] [(.int (((x6.toUInt32 >>> ((9 : Int32) &&& 31).toUInt32).toInt32) &&& (1 : Int32)))])) _
        refine XS.ifYes X43.here hx rfl (pc0 := 167) (pc' := 174) rfl (hb hby at_167) rfl ((if0 _ _).trans (feq c167_47).2) (by decide) (by decide) ?_
        show Steps p.tables e below (T43.setTop (mkF m 174 #[.val (.long x1), .second, .val (.int x2), .val (.long x3), .second, .val (.long x4), .second, .val (.int x5), .val (.int x6), .val (.int k), .val (.int bit), .val (.long lf), .second, .val (.int il), .val (.long y1), .second, .val (.int y2), .val (.long y3), .second, .val (.long y4), .second, .val (.int y5), .val (.ref b40), .val (.ref b42), .unset] [])) _
        refine XS.iloadN X43.here hx rfl (hb hby at_174) rfl ?_
        show Steps p.tables e below (T43.setTop (mkF m 175 #[.val (.long x1), .second, .val (.int x2), .val (.long x3), .second, .val (.long x4), .second, .val (.int x5), .val (.int x6), .val (.int k), .val (.int bit), .val (.long lf), .second, .val (.int il), .val (.long y1), .second, .val (.int y2), .val (.long y3), .second, .val (.long y4), .second, .val (.int y5), .val (.ref b40), .val (.ref b42), .unset] [(.int x2)])) _
        refine st51 _ ?_
        show Steps p.tables e below (T51.setTop (mkF m 178 #[.val (.long x1), .second, .val (.int x2), .val (.long x3), .second, .val (.long x4), .second, .val (.int x5), .val (.int x6), .val (.int k), .val (.int bit), .val (.long lf), .second, .val (.int il), .val (.long y1), .second, .val (.int y2), .val (.long y3), .second, .val (.long y4), .second, .val (.int y5), .val (.ref b40), .val (.ref b42), .unset] [(.ref bo51)])) _
        refine XS.astore X51.here hx rfl (hb hby at_178) rfl rfl (l' := #[.val (.long x1), .second, .val (.int x2), .val (.long x3), .second, .val (.long x4), .second, .val (.int x5), .val (.int x6), .val (.int k), .val (.int bit), .val (.long lf), .second, .val (.int il), .val (.long y1), .second, .val (.int y2), .val (.long y3), .second, .val (.long y4), .second, .val (.int y5), .val (.ref b40), .val (.ref b42), .val (.ref bo51)]) rfl ?_
        show Steps p.tables e below (T51.setTop (mkF m 180 #[.val (.long x1), .second, .val (.int x2), .val (.long x3), .second, .val (.long x4), .second, .val (.int x5), .val (.int x6), .val (.int k), .val (.int bit), .val (.long lf), .second, .val (.int il), .val (.long y1), .second, .val (.int y2), .val (.long y3), .second, .val (.long y4), .second, .val (.int y5), .val (.ref b40), .val (.ref b42), .val (.ref bo51)] [])) _
        refine XS.aload X51.here hx rfl (hb hby at_180) rfl rfl ?_
        show Steps p.tables e below (T51.setTop (mkF m 182 #[.val (.long x1), .second, .val (.int x2), .val (.long x3), .second, .val (.long x4), .second, .val (.int x5), .val (.int x6), .val (.int k), .val (.int bit), .val (.long lf), .second, .val (.int il), .val (.long y1), .second, .val (.int y2), .val (.long y3), .second, .val (.long y4), .second, .val (.int y5), .val (.ref b40), .val (.ref b42), .val (.ref bo51)] [(.ref b40)])) _
        refine XS.aload X51.here hx rfl (hb hby at_182) rfl rfl ?_
        show Steps p.tables e below (T51.setTop (mkF m 184 #[.val (.long x1), .second, .val (.int x2), .val (.long x3), .second, .val (.long x4), .second, .val (.int x5), .val (.int x6), .val (.int k), .val (.int bit), .val (.long lf), .second, .val (.int il), .val (.long y1), .second, .val (.int y2), .val (.long y3), .second, .val (.long y4), .second, .val (.int y5), .val (.ref b40), .val (.ref b42), .val (.ref bo51)] [(.ref bo51), (.ref b40)])) _
        refine st52.trans ?_
        show Steps p.tables e below (T52.setTop (mkF m 187 #[.val (.long x1), .second, .val (.int x2), .val (.long x3), .second, .val (.long x4), .second, .val (.int x5), .val (.int x6), .val (.int k), .val (.int bit), .val (.long lf), .second, .val (.int il), .val (.long y1), .second, .val (.int y2), .val (.long y3), .second, .val (.long y4), .second, .val (.int y5), .val (.ref b40), .val (.ref b42), .val (.ref bo51)] [(.int (0 : Int32))])) _
        refine XS.ifNo X52.here hx rfl (hb hby at_187) rfl ((if0 _ _).trans (teq (rfl : (0 : Int32) = (0 : Int32))).2) ?_
        show Steps p.tables e below (T52.setTop (mkF m 190 #[.val (.long x1), .second, .val (.int x2), .val (.long x3), .second, .val (.long x4), .second, .val (.int x5), .val (.int x6), .val (.int k), .val (.int bit), .val (.long lf), .second, .val (.int il), .val (.long y1), .second, .val (.int y2), .val (.long y3), .second, .val (.long y4), .second, .val (.int y5), .val (.ref b40), .val (.ref b42), .val (.ref bo51)] [])) _
        refine XS.aload X52.here hx rfl (hb hby at_190) rfl rfl ?_
        show Steps p.tables e below (T52.setTop (mkF m 192 #[.val (.long x1), .second, .val (.int x2), .val (.long x3), .second, .val (.long x4), .second, .val (.int x5), .val (.int x6), .val (.int k), .val (.int bit), .val (.long lf), .second, .val (.int il), .val (.long y1), .second, .val (.int y2), .val (.long y3), .second, .val (.long y4), .second, .val (.int y5), .val (.ref b40), .val (.ref b42), .val (.ref bo51)] [(.ref b40)])) _
        refine XS.aload X52.here hx rfl (hb hby at_192) rfl rfl ?_
        show Steps p.tables e below (T52.setTop (mkF m 194 #[.val (.long x1), .second, .val (.int x2), .val (.long x3), .second, .val (.long x4), .second, .val (.int x5), .val (.int x6), .val (.int k), .val (.int bit), .val (.long lf), .second, .val (.int il), .val (.long y1), .second, .val (.int y2), .val (.long y3), .second, .val (.long y4), .second, .val (.int y5), .val (.ref b40), .val (.ref b42), .val (.ref bo51)] [(.ref b40), (.ref b40)])) _
        refine st53.trans ?_
        show Steps p.tables e below (T53.setTop (mkF m 197 #[.val (.long x1), .second, .val (.int x2), .val (.long x3), .second, .val (.long x4), .second, .val (.int x5), .val (.int x6), .val (.int k), .val (.int bit), .val (.long lf), .second, .val (.int il), .val (.long y1), .second, .val (.int y2), .val (.long y3), .second, .val (.long y4), .second, .val (.int y5), .val (.ref b40), .val (.ref b42), .val (.ref bo51)] [(.int (1 : Int32))])) _
        refine XS.ifNo X53.here hx rfl (hb hby at_197) rfl ((if0 _ _).trans (feq (by decide : ¬ ((1 : Int32) = (0 : Int32)))).1) ?_
        show Steps p.tables e below (T53.setTop (mkF m 200 #[.val (.long x1), .second, .val (.int x2), .val (.long x3), .second, .val (.long x4), .second, .val (.int x5), .val (.int x6), .val (.int k), .val (.int bit), .val (.long lf), .second, .val (.int il), .val (.long y1), .second, .val (.int y2), .val (.long y3), .second, .val (.long y4), .second, .val (.int y5), .val (.ref b40), .val (.ref b42), .val (.ref bo51)] [])) _
        refine XS.iconst X53.here hx rfl (hb hby at_200) ?_
        show Steps p.tables e below (T53.setTop (mkF m 201 #[.val (.long x1), .second, .val (.int x2), .val (.long x3), .second, .val (.long x4), .second, .val (.int x5), .val (.int x6), .val (.int k), .val (.int bit), .val (.long lf), .second, .val (.int il), .val (.long y1), .second, .val (.int y2), .val (.long y3), .second, .val (.long y4), .second, .val (.int y5), .val (.ref b40), .val (.ref b42), .val (.ref bo51)] [(.int (1 : Int32))])) _
        refine XS.goto X53.here hx rfl (pc0 := 201) (pc' := 205) rfl (hb hby at_201) (by decide) (by decide) ?_
        exact kt
      obtain ⟨fs, hr, hrun, hended, hW, hsame⟩ := X53.leave (v := some (.int (1 : Int32))) (fun h => by rw [Bd.returns] at h; cases h)
      refine ⟨_, _, pre54 _ ?_, hrun, hended, _, _, rfl, ?_, ⟨_, rfl⟩, hW, hsame.mono (by decide) (by decide)⟩
      · show Steps p.tables e below (T53.setTop (mkF m 205 #[.val (.long x1), .second, .val (.int x2), .val (.long x3), .second, .val (.long x4), .second, .val (.int x5), .val (.int x6), .val (.int k), .val (.int bit), .val (.long lf), .second, .val (.int il), .val (.long y1), .second, .val (.int y2), .val (.long y3), .second, .val (.long y4), .second, .val (.int y5), .val (.ref b40), .val (.ref b42), .val (.ref bo51)] [(.int (1 : Int32))])) _
        exact retN X53 hx (t := .boolean) Bd.returns (by simp) (hb hby at_205) hr
      · show Q0 Z h0 n0 _ T53.heap _
        rw [hE53]
        exact ⟨rfl, N53⟩
  · have pre55 : ∀ tt, Steps p.tables e below (T43.setTop (mkF m 208 #[.val (.long x1), .second, .val (.int x2), .val (.long x3), .second, .val (.long x4), .second, .val (.int x5), .val (.int x6), .val (.int k), .val (.int bit), .val (.long lf), .second, .val (.int il), .val (.long y1), .second, .val (.int y2), .val (.long y3), .second, .val (.long y4), .second, .val (.int y5), .val (.ref b40), .val (.ref b42), .unset] [(.int k)])) tt → Steps p.tables e below (s₁.setTop (entryFrame m #[(.long x1), (.int x2), (.long x3), (.long x4), (.int x5), (.int x6)] maxLocals)) tt := by
      intro tt kt
      refine pre44 tt ?_
      show Steps p.tables e below (T43.setTop (mkF m 157 #[.val (.long x1), .second, .val (.int x2), .val (.long x3), .second, .val (.long x4), .second, .val (.int x5), .val (.int x6), .val (.int k), .val (.int bit), .val (.long lf), .second, .val (.int il), .val (.long y1), .second, .val (.int y2), .val (.long y3), .second, .val (.long y4), .second, .val (.int y5), .val (.ref b40), .val (.ref b42), .unset] [(.int (6 : Int32)), (.int k)])) _
      refine XS.icmpYes X43.here hx rfl (pc0 := 157) (pc' := 206) rfl (hb hby at_157) rfl (feq c157_45).2 (by decide) (by decide) ?_
      show Steps p.tables e below (T43.setTop (mkF m 206 #[.val (.long x1), .second, .val (.int x2), .val (.long x3), .second, .val (.long x4), .second, .val (.int x5), .val (.int x6), .val (.int k), .val (.int bit), .val (.long lf), .second, .val (.int il), .val (.long y1), .second, .val (.int y2), .val (.long y3), .second, .val (.long y4), .second, .val (.int y5), .val (.ref b40), .val (.ref b42), .unset] [])) _
      refine XS.iload X43.here hx rfl (hb hby at_206) rfl ?_
      exact kt
    by_cases c208_56 : k = (0 : Int32)
    · obtain ⟨cq57, kq57, q57a, q57b, q57c⟩ := isOf hZ rfl ((Exa.ext E42 Ei41).keep K43)
      obtain ⟨_, _, ⟨T57, L57, k57, n57⟩, -, X57, ⟨Lc57, hQ57, l57, y57, z57⟩, st57⟩ := X43.virtualBack hx (y := (⟨"com/example/keyturn/keyturn/format/EndOfCentralDirectory", "equals", "(Ljava/lang/Object;)Z"⟩ : MethodName)) (z := (⟨"com/example/keyturn/keyturn/format/EndOfCentralDirectory", "equals", "(Ljava/lang/Object;)Z"⟩ : MethodName)) hown (mvT hZ (hw _ (List.mem_of_getElem? (i := 20) rfl))) (mvT hZ (hw _ (List.mem_of_getElem? (i := 21) rfl))) (notFace_of_selects (args := #[]) (mvT hZ (hw _ (List.mem_of_getElem? (i := 23) rfl)))) (mvT hZ (hw _ (List.mem_of_getElem? (i := 23) rfl))) (mvT hZ (hw _ (List.mem_of_getElem? (i := 22) rfl))) (by decide) (backOf (W := 0) (rmE l Z a0 hw [] b40 b42 x1 x2 x3 x4 x5 y1 y2 y3 y4 y5 (1 : Int32) T43.heap n0 (Nat.le_trans (Nat.le_trans (Nat.le_trans (Nat.le_trans Z0 E40.1) K41.1) E42.1) K43.1) Ei43 ((Fld.ext E42 Ff0_41).keep K43 (ninS (Nat.ne_of_lt (Nat.lt_of_lt_of_le (Ei41).lt (Nat.le_of_eq g42.symm))) nin0)) ((Fld.ext E42 Ff1_41).keep K43 (ninS (Nat.ne_of_lt (Nat.lt_of_lt_of_le (Ei41).lt (Nat.le_of_eq g42.symm))) nin0)) ((Fld.ext E42 Ff2_41).keep K43 (ninS (Nat.ne_of_lt (Nat.lt_of_lt_of_le (Ei41).lt (Nat.le_of_eq g42.symm))) nin0)) ((Fld.ext E42 Ff3_41).keep K43 (ninS (Nat.ne_of_lt (Nat.lt_of_lt_of_le (Ei41).lt (Nat.le_of_eq g42.symm))) nin0)) ((Fld.ext E42 Ff4_41).keep K43 (ninS (Nat.ne_of_lt (Nat.lt_of_lt_of_le (Ei41).lt (Nat.le_of_eq g42.symm))) nin0)) Ff0_43 Ff1_43 Ff2_43 Ff3_43 Ff4_43 (own_eq0 ey1 ey2 ey3 ey4 ey5 c208_56)) hZ (hw _ (List.mem_of_getElem? (i := 24) rfl)) (hw _ (List.mem_of_getElem? (i := 3) rfl)) (by decide) (by decide)) q57a q57c (g := (mkF m 222 #[.val (.long x1), .second, .val (.int x2), .val (.long x3), .second, .val (.long x4), .second, .val (.int x5), .val (.int x6), .val (.int k), .val (.int bit), .val (.long lf), .second, .val (.int il), .val (.long y1), .second, .val (.int y2), .val (.long y3), .second, .val (.long y4), .second, .val (.int y5), .val (.ref b40), .val (.ref b42), .val (.int (1 : Int32))] [(.ref b42), (.ref b40)])) rfl (by rw [hml]; rfl) (Steps.refl _) (argsL := [(.ref b42)]) (rest := []) (lenOf pd_rm0_1 rfl) rfl (by show 2 * 0 + _ ≤ _; exact Nat.le_of_eq rfl) (hb hby at_222) (fun _ _ => ⟨rfl, rfl, (by decide : 2 + 0 ≤ _), (by decide : 10 + 0 ≤ _)⟩)
      dsimp only [Pt.U, Pt.locs, Pt.cells, Pt.slots] at X57 l57 y57 z57 st57 hQ57
      subst l57 y57 z57
      obtain ⟨rfl, N57q, hE57⟩ := hQ57
      have N57 := Fr.app N43 N57q
      obtain ⟨cq58, kq58, q58a, q58b, q58c⟩ := isOf hZ hE57 Ei43
      obtain ⟨_, _, ⟨T58, L58, k58, n58⟩, -, X58, ⟨Lc58, hQ58, l58, y58, z58⟩, st58⟩ := X57.virtualBack hx (y := (⟨"com/example/keyturn/keyturn/format/EndOfCentralDirectory", "equals", "(Ljava/lang/Object;)Z"⟩ : MethodName)) (z := (⟨"com/example/keyturn/keyturn/format/EndOfCentralDirectory", "equals", "(Ljava/lang/Object;)Z"⟩ : MethodName)) hown (mvT hZ (hw _ (List.mem_of_getElem? (i := 20) rfl))) (mvT hZ (hw _ (List.mem_of_getElem? (i := 21) rfl))) (notFace_of_selects (args := #[]) (mvT hZ (hw _ (List.mem_of_getElem? (i := 23) rfl)))) (mvT hZ (hw _ (List.mem_of_getElem? (i := 23) rfl))) (mvT hZ (hw _ (List.mem_of_getElem? (i := 22) rfl))) (by decide) (backOf (W := 0) (rmE l Z a0 hw [] b42 b40 y1 y2 y3 y4 y5 x1 x2 x3 x4 x5 (1 : Int32) T43.heap n0 (Nat.le_trans (Nat.le_trans (Nat.le_trans (Nat.le_trans Z0 E40.1) K41.1) E42.1) K43.1) ((Exa.ext E42 Ei41).keep K43) Ff0_43 Ff1_43 Ff2_43 Ff3_43 Ff4_43 ((Fld.ext E42 Ff0_41).keep K43 (ninS (Nat.ne_of_lt (Nat.lt_of_lt_of_le (Ei41).lt (Nat.le_of_eq g42.symm))) nin0)) ((Fld.ext E42 Ff1_41).keep K43 (ninS (Nat.ne_of_lt (Nat.lt_of_lt_of_le (Ei41).lt (Nat.le_of_eq g42.symm))) nin0)) ((Fld.ext E42 Ff2_41).keep K43 (ninS (Nat.ne_of_lt (Nat.lt_of_lt_of_le (Ei41).lt (Nat.le_of_eq g42.symm))) nin0)) ((Fld.ext E42 Ff3_41).keep K43 (ninS (Nat.ne_of_lt (Nat.lt_of_lt_of_le (Ei41).lt (Nat.le_of_eq g42.symm))) nin0)) ((Fld.ext E42 Ff4_41).keep K43 (ninS (Nat.ne_of_lt (Nat.lt_of_lt_of_le (Ei41).lt (Nat.le_of_eq g42.symm))) nin0)) (own_eq0s ey1 ey2 ey3 ey4 ey5 c208_56)) hZ (hw _ (List.mem_of_getElem? (i := 24) rfl)) (hw _ (List.mem_of_getElem? (i := 3) rfl)) (by decide) (by decide)) q58a q58c (g := (mkF m 234 #[.val (.long x1), .second, .val (.int x2), .val (.long x3), .second, .val (.long x4), .second, .val (.int x5), .val (.int x6), .val (.int k), .val (.int bit), .val (.long lf), .second, .val (.int il), .val (.long y1), .second, .val (.int y2), .val (.long y3), .second, .val (.long y4), .second, .val (.int y5), .val (.ref b40), .val (.ref b42), .val (.int (1 : Int32))] [(.ref b40), (.ref b42)])) rfl (by rw [hml]; rfl) (Steps.refl _) (argsL := [(.ref b40)]) (rest := []) (lenOf pd_rm0_1 rfl) rfl (by show 2 * 0 + _ ≤ _; exact Nat.le_of_eq rfl) (hb hby at_234) (fun _ _ => ⟨rfl, hE57, (by decide : 2 + 0 ≤ _), (by decide : 10 + 0 ≤ _)⟩)
      dsimp only [Pt.U, Pt.locs, Pt.cells, Pt.slots] at X58 l58 y58 z58 st58 hQ58
      subst l58 y58 z58
      obtain ⟨rfl, N58q, hE58⟩ := hQ58
      have N58 := Fr.app N57 N58q
      obtain ⟨cq59, kq59, q59a, q59b, q59c⟩ := isOf hZ hE58 ((Exa.ext E42 Ei41).keep K43)
      obtain ⟨_, _, ⟨T59, L59, k59, n59⟩, -, X59, ⟨Lc59, hQ59, l59, y59, z59⟩, st59⟩ := X58.virtualBack hx (y := (⟨"com/example/keyturn/keyturn/format/EndOfCentralDirectory", "equals", "(Ljava/lang/Object;)Z"⟩ : MethodName)) (z := (⟨"com/example/keyturn/keyturn/format/EndOfCentralDirectory", "equals", "(Ljava/lang/Object;)Z"⟩ : MethodName)) hown (mvT hZ (hw _ (List.mem_of_getElem? (i := 20) rfl))) (mvT hZ (hw _ (List.mem_of_getElem? (i := 21) rfl))) (notFace_of_selects (args := #[]) (mvT hZ (hw _ (List.mem_of_getElem? (i := 23) rfl)))) (mvT hZ (hw _ (List.mem_of_getElem? (i := 23) rfl))) (mvT hZ (hw _ (List.mem_of_getElem? (i := 22) rfl))) (by decide) (backOf (W := 0) (rmE l Z a0 hw [] b40 b40 x1 x2 x3 x4 x5 x1 x2 x3 x4 x5 (1 : Int32) T43.heap n0 (Nat.le_trans (Nat.le_trans (Nat.le_trans (Nat.le_trans Z0 E40.1) K41.1) E42.1) K43.1) ((Exa.ext E42 Ei41).keep K43) ((Fld.ext E42 Ff0_41).keep K43 (ninS (Nat.ne_of_lt (Nat.lt_of_lt_of_le (Ei41).lt (Nat.le_of_eq g42.symm))) nin0)) ((Fld.ext E42 Ff1_41).keep K43 (ninS (Nat.ne_of_lt (Nat.lt_of_lt_of_le (Ei41).lt (Nat.le_of_eq g42.symm))) nin0)) ((Fld.ext E42 Ff2_41).keep K43 (ninS (Nat.ne_of_lt (Nat.lt_of_lt_of_le (Ei41).lt (Nat.le_of_eq g42.symm))) nin0)) ((Fld.ext E42 Ff3_41).keep K43 (ninS (Nat.ne_of_lt (Nat.lt_of_lt_of_le (Ei41).lt (Nat.le_of_eq g42.symm))) nin0)) ((Fld.ext E42 Ff4_41).keep K43 (ninS (Nat.ne_of_lt (Nat.lt_of_lt_of_le (Ei41).lt (Nat.le_of_eq g42.symm))) nin0)) ((Fld.ext E42 Ff0_41).keep K43 (ninS (Nat.ne_of_lt (Nat.lt_of_lt_of_le (Ei41).lt (Nat.le_of_eq g42.symm))) nin0)) ((Fld.ext E42 Ff1_41).keep K43 (ninS (Nat.ne_of_lt (Nat.lt_of_lt_of_le (Ei41).lt (Nat.le_of_eq g42.symm))) nin0)) ((Fld.ext E42 Ff2_41).keep K43 (ninS (Nat.ne_of_lt (Nat.lt_of_lt_of_le (Ei41).lt (Nat.le_of_eq g42.symm))) nin0)) ((Fld.ext E42 Ff3_41).keep K43 (ninS (Nat.ne_of_lt (Nat.lt_of_lt_of_le (Ei41).lt (Nat.le_of_eq g42.symm))) nin0)) ((Fld.ext E42 Ff4_41).keep K43 (ninS (Nat.ne_of_lt (Nat.lt_of_lt_of_le (Ei41).lt (Nat.le_of_eq g42.symm))) nin0)) (by simp)) hZ (hw _ (List.mem_of_getElem? (i := 24) rfl)) (hw _ (List.mem_of_getElem? (i := 3) rfl)) (by decide) (by decide)) q59a q59c (g := (mkF m 246 #[.val (.long x1), .second, .val (.int x2), .val (.long x3), .second, .val (.long x4), .second, .val (.int x5), .val (.int x6), .val (.int k), .val (.int bit), .val (.long lf), .second, .val (.int il), .val (.long y1), .second, .val (.int y2), .val (.long y3), .second, .val (.long y4), .second, .val (.int y5), .val (.ref b40), .val (.ref b42), .val (.int (1 : Int32))] [(.ref b40), (.ref b40)])) rfl (by rw [hml]; rfl) (Steps.refl _) (argsL := [(.ref b40)]) (rest := []) (lenOf pd_rm0_1 rfl) rfl (by show 2 * 0 + _ ≤ _; exact Nat.le_of_eq rfl) (hb hby at_246) (fun _ _ => ⟨rfl, hE58, (by decide : 2 + 0 ≤ _), (by decide : 10 + 0 ≤ _)⟩)
      dsimp only [Pt.U, Pt.locs, Pt.cells, Pt.slots] at X59 l59 y59 z59 st59 hQ59
      subst l59 y59 z59
      obtain ⟨rfl, N59q, hE59⟩ := hQ59
      have N59 := Fr.app N58 N59q
      have pre60 : ∀ tt, Steps p.tables e below (T59.setTop (mkF m 257 #[.val (.long x1), .second, .val (.int x2), .val (.long x3), .second, .val (.long x4), .second, .val (.int x5), .val (.int x6), .val (.int k), .val (.int bit), .val (.long lf), .second, .val (.int il), .val (.long y1), .second, .val (.int y2), .val (.long y3), .second, .val (.long y4), .second, .val (.int y5), .val (.ref b40), .val (.ref b42), .val (.int (1 : Int32))] [(.int (1 : Int32))])) tt → Steps p.tables e below (s₁.setTop (entryFrame m #[(.long x1), (.int x2), (.long x3), (.long x4), (.int x5), (.int x6)] maxLocals)) tt := by
        intro tt kt
        refine pre55 tt ?_
        show Steps p.tables e below (T43.setTop (mkF m 208 #[.val (.long x1), .second, .val (.int x2), .val (.long x3), .second, .val (.long x4), .second, .val (.int x5), .val (.int x6), .val (.int k), .val (.int bit), .val (.long lf), .second, .val (.int il), .val (.long y1), .second, .val (.int y2), .val (.long y3), .second, .val (.long y4), .second, .val (.int y5), .val (.ref b40), .val (.ref b42), .unset] [(.int k)])) _
        refine XS.ifNo X43.here hx rfl (hb hby at_208) rfl ((if0 _ _).trans (teq c208_56).2) ?_
        show Steps p.tables e below (T43.setTop (mkF m 211 #[.val (.long x1), .second, .val (.int x2), .val (.long x3), .second, .val (.long x4), .second, .val (.int x5), .val (.int x6), .val (.int k), .val (.int bit), .val (.long lf), .second, .val (.int il), .val (.long y1), .second, .val (.int y2), .val (.long y3), .second, .val (.long y4), .second, .val (.int y5), .val (.ref b40), .val (.ref b42), .unset] [])) _
        refine XS.iconst X43.here hx rfl (hb hby at_211) ?_
        show Steps p.tables e below (T43.setTop (mkF m 212 #[.val (.long x1), .second, .val (.int x2), .val (.long x3), .second, .val (.long x4), .second, .val (.int x5), .val (.int x6), .val (.int k), .val (.int bit), .val (.long lf), .second, .val (.int il), .val (.long y1), .second, .val (.int y2), .val (.long y3), .second, .val (.long y4), .second, .val (.int y5), .val (.ref b40), .val (.ref b42), .unset] [(.int (1 : Int32))])) _
        refine XS.goto X43.here hx rfl (pc0 := 212) (pc' := 216) rfl (hb hby at_212) (by decide) (by decide) ?_
        show Steps p.tables e below (T43.setTop (mkF m 216 #[.val (.long x1), .second, .val (.int x2), .val (.long x3), .second, .val (.long x4), .second, .val (.int x5), .val (.int x6), .val (.int k), .val (.int bit), .val (.long lf), .second, .val (.int il), .val (.long y1), .second, .val (.int y2), .val (.long y3), .second, .val (.long y4), .second, .val (.int y5), .val (.ref b40), .val (.ref b42), .unset] [(.int (1 : Int32))])) _
        refine XS.istore X43.here hx rfl (hb hby at_216) rfl (l' := #[.val (.long x1), .second, .val (.int x2), .val (.long x3), .second, .val (.long x4), .second, .val (.int x5), .val (.int x6), .val (.int k), .val (.int bit), .val (.long lf), .second, .val (.int il), .val (.long y1), .second, .val (.int y2), .val (.long y3), .second, .val (.long y4), .second, .val (.int y5), .val (.ref b40), .val (.ref b42), .val (.int (1 : Int32))]) rfl ?_
        show Steps p.tables e below (T43.setTop (mkF m 218 #[.val (.long x1), .second, .val (.int x2), .val (.long x3), .second, .val (.long x4), .second, .val (.int x5), .val (.int x6), .val (.int k), .val (.int bit), .val (.long lf), .second, .val (.int il), .val (.long y1), .second, .val (.int y2), .val (.long y3), .second, .val (.long y4), .second, .val (.int y5), .val (.ref b40), .val (.ref b42), .val (.int (1 : Int32))] [])) _
        refine XS.aload X43.here hx rfl (hb hby at_218) rfl rfl ?_
        show Steps p.tables e below (T43.setTop (mkF m 220 #[.val (.long x1), .second, .val (.int x2), .val (.long x3), .second, .val (.long x4), .second, .val (.int x5), .val (.int x6), .val (.int k), .val (.int bit), .val (.long lf), .second, .val (.int il), .val (.long y1), .second, .val (.int y2), .val (.long y3), .second, .val (.long y4), .second, .val (.int y5), .val (.ref b40), .val (.ref b42), .val (.int (1 : Int32))] [(.ref b40)])) _
        refine XS.aload X43.here hx rfl (hb hby at_220) rfl rfl ?_
        show Steps p.tables e below (T43.setTop (mkF m 222 #[.val (.long x1), .second, .val (.int x2), .val (.long x3), .second, .val (.long x4), .second, .val (.int x5), .val (.int x6), .val (.int k), .val (.int bit), .val (.long lf), .second, .val (.int il), .val (.long y1), .second, .val (.int y2), .val (.long y3), .second, .val (.long y4), .second, .val (.int y5), .val (.ref b40), .val (.ref b42), .val (.int (1 : Int32))] [(.ref b42), (.ref b40)])) _
        refine st57.trans ?_
        show Steps p.tables e below (T57.setTop (mkF m 225 #[.val (.long x1), .second, .val (.int x2), .val (.long x3), .second, .val (.long x4), .second, .val (.int x5), .val (.int x6), .val (.int k), .val (.int bit), .val (.long lf), .second, .val (.int il), .val (.long y1), .second, .val (.int y2), .val (.long y3), .second, .val (.long y4), .second, .val (.int y5), .val (.ref b40), .val (.ref b42), .val (.int (1 : Int32))] [(.int (1 : Int32))])) _
        refine XS.iload X57.here hx rfl (hb hby at_225) rfl ?_
        show Steps p.tables e below (T57.setTop (mkF m 227 #[.val (.long x1), .second, .val (.int x2), .val (.long x3), .second, .val (.long x4), .second, .val (.int x5), .val (.int x6), .val (.int k), .val (.int bit), .val (.long lf), .second, .val (.int il), .val (.long y1), .second, .val (.int y2), .val (.long y3), .second, .val (.long y4), .second, .val (.int y5), .val (.ref b40), .val (.ref b42), .val (.int (1 : Int32))] [(.int (1 : Int32)), (.int (1 : Int32))])) _
        refine XS.icmpNo X57.here hx rfl (hb hby at_227) rfl (teq (rfl : (1 : Int32) = (1 : Int32))).2 ?_
        show Steps p.tables e below (T57.setTop (mkF m 230 #[.val (.long x1), .second, .val (.int x2), .val (.long x3), .second, .val (.long x4), .second, .val (.int x5), .val (.int x6), .val (.int k), .val (.int bit), .val (.long lf), .second, .val (.int il), .val (.long y1), .second, .val (.int y2), .val (.long y3), .second, .val (.long y4), .second, .val (.int y5), .val (.ref b40), .val (.ref b42), .val (.int (1 : Int32))] [])) _
        refine XS.aload X57.here hx rfl (hb hby at_230) rfl rfl ?_
        show Steps p.tables e below (T57.setTop (mkF m 232 #[.val (.long x1), .second, .val (.int x2), .val (.long x3), .second, .val (.long x4), .second, .val (.int x5), .val (.int x6), .val (.int k), .val (.int bit), .val (.long lf), .second, .val (.int il), .val (.long y1), .second, .val (.int y2), .val (.long y3), .second, .val (.long y4), .second, .val (.int y5), .val (.ref b40), .val (.ref b42), .val (.int (1 : Int32))] [(.ref b42)])) _
        refine XS.aload X57.here hx rfl (hb hby at_232) rfl rfl ?_
        show Steps p.tables e below (T57.setTop (mkF m 234 #[.val (.long x1), .second, .val (.int x2), .val (.long x3), .second, .val (.long x4), .second, .val (.int x5), .val (.int x6), .val (.int k), .val (.int bit), .val (.long lf), .second, .val (.int il), .val (.long y1), .second, .val (.int y2), .val (.long y3), .second, .val (.long y4), .second, .val (.int y5), .val (.ref b40), .val (.ref b42), .val (.int (1 : Int32))] [(.ref b40), (.ref b42)])) _
        refine st58.trans ?_
        show Steps p.tables e below (T58.setTop (mkF m 237 #[.val (.long x1), .second, .val (.int x2), .val (.long x3), .second, .val (.long x4), .second, .val (.int x5), .val (.int x6), .val (.int k), .val (.int bit), .val (.long lf), .second, .val (.int il), .val (.long y1), .second, .val (.int y2), .val (.long y3), .second, .val (.long y4), .second, .val (.int y5), .val (.ref b40), .val (.ref b42), .val (.int (1 : Int32))] [(.int (1 : Int32))])) _
        refine XS.iload X58.here hx rfl (hb hby at_237) rfl ?_
        show Steps p.tables e below (T58.setTop (mkF m 239 #[.val (.long x1), .second, .val (.int x2), .val (.long x3), .second, .val (.long x4), .second, .val (.int x5), .val (.int x6), .val (.int k), .val (.int bit), .val (.long lf), .second, .val (.int il), .val (.long y1), .second, .val (.int y2), .val (.long y3), .second, .val (.long y4), .second, .val (.int y5), .val (.ref b40), .val (.ref b42), .val (.int (1 : Int32))] [(.int (1 : Int32)), (.int (1 : Int32))])) _
        refine XS.icmpNo X58.here hx rfl (hb hby at_239) rfl (teq (rfl : (1 : Int32) = (1 : Int32))).2 ?_
        show Steps p.tables e below (T58.setTop (mkF m 242 #[.val (.long x1), .second, .val (.int x2), .val (.long x3), .second, .val (.long x4), .second, .val (.int x5), .val (.int x6), .val (.int k), .val (.int bit), .val (.long lf), .second, .val (.int il), .val (.long y1), .second, .val (.int y2), .val (.long y3), .second, .val (.long y4), .second, .val (.int y5), .val (.ref b40), .val (.ref b42), .val (.int (1 : Int32))] [])) _
        refine XS.aload X58.here hx rfl (hb hby at_242) rfl rfl ?_
        show Steps p.tables e below (T58.setTop (mkF m 244 #[.val (.long x1), .second, .val (.int x2), .val (.long x3), .second, .val (.long x4), .second, .val (.int x5), .val (.int x6), .val (.int k), .val (.int bit), .val (.long lf), .second, .val (.int il), .val (.long y1), .second, .val (.int y2), .val (.long y3), .second, .val (.long y4), .second, .val (.int y5), .val (.ref b40), .val (.ref b42), .val (.int (1 : Int32))] [(.ref b40)])) _
        refine XS.aload X58.here hx rfl (hb hby at_244) rfl rfl ?_
        show Steps p.tables e below (T58.setTop (mkF m 246 #[.val (.long x1), .second, .val (.int x2), .val (.long x3), .second, .val (.long x4), .second, .val (.int x5), .val (.int x6), .val (.int k), .val (.int bit), .val (.long lf), .second, .val (.int il), .val (.long y1), .second, .val (.int y2), .val (.long y3), .second, .val (.long y4), .second, .val (.int y5), .val (.ref b40), .val (.ref b42), .val (.int (1 : Int32))] [(.ref b40), (.ref b40)])) _
        refine st59.trans ?_
        show Steps p.tables e below (T59.setTop (mkF m 249 #[.val (.long x1), .second, .val (.int x2), .val (.long x3), .second, .val (.long x4), .second, .val (.int x5), .val (.int x6), .val (.int k), .val (.int bit), .val (.long lf), .second, .val (.int il), .val (.long y1), .second, .val (.int y2), .val (.long y3), .second, .val (.long y4), .second, .val (.int y5), .val (.ref b40), .val (.ref b42), .val (.int (1 : Int32))] [(.int (1 : Int32))])) _
        refine XS.ifNo X59.here hx rfl (hb hby at_249) rfl ((if0 _ _).trans (feq (by decide : ¬ ((1 : Int32) = (0 : Int32)))).1) ?_
        show Steps p.tables e below (T59.setTop (mkF m 252 #[.val (.long x1), .second, .val (.int x2), .val (.long x3), .second, .val (.long x4), .second, .val (.int x5), .val (.int x6), .val (.int k), .val (.int bit), .val (.long lf), .second, .val (.int il), .val (.long y1), .second, .val (.int y2), .val (.long y3), .second, .val (.long y4), .second, .val (.int y5), .val (.ref b40), .val (.ref b42), .val (.int (1 : Int32))] [])) _
        refine XS.iconst X59.here hx rfl (hb hby at_252) ?_
        show Steps p.tables e below (T59.setTop (mkF m 253 #[.val (.long x1), .second, .val (.int x2), .val (.long x3), .second, .val (.long x4), .second, .val (.int x5), .val (.int x6), .val (.int k), .val (.int bit), .val (.long lf), .second, .val (.int il), .val (.long y1), .second, .val (.int y2), .val (.long y3), .second, .val (.long y4), .second, .val (.int y5), .val (.ref b40), .val (.ref b42), .val (.int (1 : Int32))] [(.int (1 : Int32))])) _
        refine XS.goto X59.here hx rfl (pc0 := 253) (pc' := 257) rfl (hb hby at_253) (by decide) (by decide) ?_
        exact kt
      obtain ⟨fs, hr, hrun, hended, hW, hsame⟩ := X59.leave (v := some (.int (1 : Int32))) (fun h => by rw [Bd.returns] at h; cases h)
      refine ⟨_, _, pre60 _ ?_, hrun, hended, _, _, rfl, ?_, ⟨_, rfl⟩, hW, hsame.mono (by decide) (by decide)⟩
      · show Steps p.tables e below (T59.setTop (mkF m 257 #[.val (.long x1), .second, .val (.int x2), .val (.long x3), .second, .val (.long x4), .second, .val (.int x5), .val (.int x6), .val (.int k), .val (.int bit), .val (.long lf), .second, .val (.int il), .val (.long y1), .second, .val (.int y2), .val (.long y3), .second, .val (.long y4), .second, .val (.int y5), .val (.ref b40), .val (.ref b42), .val (.int (1 : Int32))] [(.int (1 : Int32))])) _
        exact retN X59 hx (t := .boolean) Bd.returns (by simp) (hb hby at_257) hr
      · show Q0 Z h0 n0 _ T59.heap _
        rw [hE59]
        exact ⟨rfl, N59⟩
    · obtain ⟨cq61, kq61, q61a, q61b, q61c⟩ := isOf hZ rfl ((Exa.ext E42 Ei41).keep K43)
      obtain ⟨_, _, ⟨T61, L61, k61, n61⟩, -, X61, ⟨Lc61, hQ61, l61, y61, z61⟩, st61⟩ := X43.virtualBack hx (y := (⟨"com/example/keyturn/keyturn/format/EndOfCentralDirectory", "equals", "(Ljava/lang/Object;)Z"⟩ : MethodName)) (z := (⟨"com/example/keyturn/keyturn/format/EndOfCentralDirectory", "equals", "(Ljava/lang/Object;)Z"⟩ : MethodName)) hown (mvT hZ (hw _ (List.mem_of_getElem? (i := 20) rfl))) (mvT hZ (hw _ (List.mem_of_getElem? (i := 21) rfl))) (notFace_of_selects (args := #[]) (mvT hZ (hw _ (List.mem_of_getElem? (i := 23) rfl)))) (mvT hZ (hw _ (List.mem_of_getElem? (i := 23) rfl))) (mvT hZ (hw _ (List.mem_of_getElem? (i := 22) rfl))) (by decide) (backOf (W := 0) (rmE l Z a0 hw [] b40 b42 x1 x2 x3 x4 x5 y1 y2 y3 y4 y5 (0 : Int32) T43.heap n0 (Nat.le_trans (Nat.le_trans (Nat.le_trans (Nat.le_trans Z0 E40.1) K41.1) E42.1) K43.1) Ei43 ((Fld.ext E42 Ff0_41).keep K43 (ninS (Nat.ne_of_lt (Nat.lt_of_lt_of_le (Ei41).lt (Nat.le_of_eq g42.symm))) nin0)) ((Fld.ext E42 Ff1_41).keep K43 (ninS (Nat.ne_of_lt (Nat.lt_of_lt_of_le (Ei41).lt (Nat.le_of_eq g42.symm))) nin0)) ((Fld.ext E42 Ff2_41).keep K43 (ninS (Nat.ne_of_lt (Nat.lt_of_lt_of_le (Ei41).lt (Nat.le_of_eq g42.symm))) nin0)) ((Fld.ext E42 Ff3_41).keep K43 (ninS (Nat.ne_of_lt (Nat.lt_of_lt_of_le (Ei41).lt (Nat.le_of_eq g42.symm))) nin0)) ((Fld.ext E42 Ff4_41).keep K43 (ninS (Nat.ne_of_lt (Nat.lt_of_lt_of_le (Ei41).lt (Nat.le_of_eq g42.symm))) nin0)) Ff0_43 Ff1_43 Ff2_43 Ff3_43 Ff4_43 (own_eq0n ey1 ey2 ey3 ey4 ey5 hlf hil rk c208_56 c157_45)) hZ (hw _ (List.mem_of_getElem? (i := 24) rfl)) (hw _ (List.mem_of_getElem? (i := 3) rfl)) (by decide) (by decide)) q61a q61c (g := (mkF m 222 #[.val (.long x1), .second, .val (.int x2), .val (.long x3), .second, .val (.long x4), .second, .val (.int x5), .val (.int x6), .val (.int k), .val (.int bit), .val (.long lf), .second, .val (.int il), .val (.long y1), .second, .val (.int y2), .val (.long y3), .second, .val (.long y4), .second, .val (.int y5), .val (.ref b40), .val (.ref b42), .val (.int (0 : Int32))] [(.ref b42), (.ref b40)])) rfl (by rw [hml]; rfl) (Steps.refl _) (argsL := [(.ref b42)]) (rest := []) (lenOf pd_rm0_1 rfl) rfl (by show 2 * 0 + _ ≤ _; exact Nat.le_of_eq rfl) (hb hby at_222) (fun _ _ => ⟨rfl, rfl, (by decide : 2 + 0 ≤ _), (by decide : 10 + 0 ≤ _)⟩)
      dsimp only [Pt.U, Pt.locs, Pt.cells, Pt.slots] at X61 l61 y61 z61 st61 hQ61
      subst l61 y61 z61
      obtain ⟨rfl, N61q, hE61⟩ := hQ61
      have N61 := Fr.app N43 N61q
      obtain ⟨cq62, kq62, q62a, q62b, q62c⟩ := isOf hZ hE61 Ei43
      obtain ⟨_, _, ⟨T62, L62, k62, n62⟩, -, X62, ⟨Lc62, hQ62, l62, y62, z62⟩, st62⟩ := X61.virtualBack hx (y := (⟨"com/example/keyturn/keyturn/format/EndOfCentralDirectory", "equals", "(Ljava/lang/Object;)Z"⟩ : MethodName)) (z := (⟨"com/example/keyturn/keyturn/format/EndOfCentralDirectory", "equals", "(Ljava/lang/Object;)Z"⟩ : MethodName)) hown (mvT hZ (hw _ (List.mem_of_getElem? (i := 20) rfl))) (mvT hZ (hw _ (List.mem_of_getElem? (i := 21) rfl))) (notFace_of_selects (args := #[]) (mvT hZ (hw _ (List.mem_of_getElem? (i := 23) rfl)))) (mvT hZ (hw _ (List.mem_of_getElem? (i := 23) rfl))) (mvT hZ (hw _ (List.mem_of_getElem? (i := 22) rfl))) (by decide) (backOf (W := 0) (rmE l Z a0 hw [] b42 b40 y1 y2 y3 y4 y5 x1 x2 x3 x4 x5 (0 : Int32) T43.heap n0 (Nat.le_trans (Nat.le_trans (Nat.le_trans (Nat.le_trans Z0 E40.1) K41.1) E42.1) K43.1) ((Exa.ext E42 Ei41).keep K43) Ff0_43 Ff1_43 Ff2_43 Ff3_43 Ff4_43 ((Fld.ext E42 Ff0_41).keep K43 (ninS (Nat.ne_of_lt (Nat.lt_of_lt_of_le (Ei41).lt (Nat.le_of_eq g42.symm))) nin0)) ((Fld.ext E42 Ff1_41).keep K43 (ninS (Nat.ne_of_lt (Nat.lt_of_lt_of_le (Ei41).lt (Nat.le_of_eq g42.symm))) nin0)) ((Fld.ext E42 Ff2_41).keep K43 (ninS (Nat.ne_of_lt (Nat.lt_of_lt_of_le (Ei41).lt (Nat.le_of_eq g42.symm))) nin0)) ((Fld.ext E42 Ff3_41).keep K43 (ninS (Nat.ne_of_lt (Nat.lt_of_lt_of_le (Ei41).lt (Nat.le_of_eq g42.symm))) nin0)) ((Fld.ext E42 Ff4_41).keep K43 (ninS (Nat.ne_of_lt (Nat.lt_of_lt_of_le (Ei41).lt (Nat.le_of_eq g42.symm))) nin0)) (own_eq0sn ey1 ey2 ey3 ey4 ey5 hlf hil rk c208_56 c157_45)) hZ (hw _ (List.mem_of_getElem? (i := 24) rfl)) (hw _ (List.mem_of_getElem? (i := 3) rfl)) (by decide) (by decide)) q62a q62c (g := (mkF m 234 #[.val (.long x1), .second, .val (.int x2), .val (.long x3), .second, .val (.long x4), .second, .val (.int x5), .val (.int x6), .val (.int k), .val (.int bit), .val (.long lf), .second, .val (.int il), .val (.long y1), .second, .val (.int y2), .val (.long y3), .second, .val (.long y4), .second, .val (.int y5), .val (.ref b40), .val (.ref b42), .val (.int (0 : Int32))] [(.ref b40), (.ref b42)])) rfl (by rw [hml]; rfl) (Steps.refl _) (argsL := [(.ref b40)]) (rest := []) (lenOf pd_rm0_1 rfl) rfl (by show 2 * 0 + _ ≤ _; exact Nat.le_of_eq rfl) (hb hby at_234) (fun _ _ => ⟨rfl, hE61, (by decide : 2 + 0 ≤ _), (by decide : 10 + 0 ≤ _)⟩)
      dsimp only [Pt.U, Pt.locs, Pt.cells, Pt.slots] at X62 l62 y62 z62 st62 hQ62
      subst l62 y62 z62
      obtain ⟨rfl, N62q, hE62⟩ := hQ62
      have N62 := Fr.app N61 N62q
      obtain ⟨cq63, kq63, q63a, q63b, q63c⟩ := isOf hZ hE62 ((Exa.ext E42 Ei41).keep K43)
      obtain ⟨_, _, ⟨T63, L63, k63, n63⟩, -, X63, ⟨Lc63, hQ63, l63, y63, z63⟩, st63⟩ := X62.virtualBack hx (y := (⟨"com/example/keyturn/keyturn/format/EndOfCentralDirectory", "equals", "(Ljava/lang/Object;)Z"⟩ : MethodName)) (z := (⟨"com/example/keyturn/keyturn/format/EndOfCentralDirectory", "equals", "(Ljava/lang/Object;)Z"⟩ : MethodName)) hown (mvT hZ (hw _ (List.mem_of_getElem? (i := 20) rfl))) (mvT hZ (hw _ (List.mem_of_getElem? (i := 21) rfl))) (notFace_of_selects (args := #[]) (mvT hZ (hw _ (List.mem_of_getElem? (i := 23) rfl)))) (mvT hZ (hw _ (List.mem_of_getElem? (i := 23) rfl))) (mvT hZ (hw _ (List.mem_of_getElem? (i := 22) rfl))) (by decide) (backOf (W := 0) (rmE l Z a0 hw [] b40 b40 x1 x2 x3 x4 x5 x1 x2 x3 x4 x5 (1 : Int32) T43.heap n0 (Nat.le_trans (Nat.le_trans (Nat.le_trans (Nat.le_trans Z0 E40.1) K41.1) E42.1) K43.1) ((Exa.ext E42 Ei41).keep K43) ((Fld.ext E42 Ff0_41).keep K43 (ninS (Nat.ne_of_lt (Nat.lt_of_lt_of_le (Ei41).lt (Nat.le_of_eq g42.symm))) nin0)) ((Fld.ext E42 Ff1_41).keep K43 (ninS (Nat.ne_of_lt (Nat.lt_of_lt_of_le (Ei41).lt (Nat.le_of_eq g42.symm))) nin0)) ((Fld.ext E42 Ff2_41).keep K43 (ninS (Nat.ne_of_lt (Nat.lt_of_lt_of_le (Ei41).lt (Nat.le_of_eq g42.symm))) nin0)) ((Fld.ext E42 Ff3_41).keep K43 (ninS (Nat.ne_of_lt (Nat.lt_of_lt_of_le (Ei41).lt (Nat.le_of_eq g42.symm))) nin0)) ((Fld.ext E42 Ff4_41).keep K43 (ninS (Nat.ne_of_lt (Nat.lt_of_lt_of_le (Ei41).lt (Nat.le_of_eq g42.symm))) nin0)) ((Fld.ext E42 Ff0_41).keep K43 (ninS (Nat.ne_of_lt (Nat.lt_of_lt_of_le (Ei41).lt (Nat.le_of_eq g42.symm))) nin0)) ((Fld.ext E42 Ff1_41).keep K43 (ninS (Nat.ne_of_lt (Nat.lt_of_lt_of_le (Ei41).lt (Nat.le_of_eq g42.symm))) nin0)) ((Fld.ext E42 Ff2_41).keep K43 (ninS (Nat.ne_of_lt (Nat.lt_of_lt_of_le (Ei41).lt (Nat.le_of_eq g42.symm))) nin0)) ((Fld.ext E42 Ff3_41).keep K43 (ninS (Nat.ne_of_lt (Nat.lt_of_lt_of_le (Ei41).lt (Nat.le_of_eq g42.symm))) nin0)) ((Fld.ext E42 Ff4_41).keep K43 (ninS (Nat.ne_of_lt (Nat.lt_of_lt_of_le (Ei41).lt (Nat.le_of_eq g42.symm))) nin0)) (by simp)) hZ (hw _ (List.mem_of_getElem? (i := 24) rfl)) (hw _ (List.mem_of_getElem? (i := 3) rfl)) (by decide) (by decide)) q63a q63c (g := (mkF m 246 #[.val (.long x1), .second, .val (.int x2), .val (.long x3), .second, .val (.long x4), .second, .val (.int x5), .val (.int x6), .val (.int k), .val (.int bit), .val (.long lf), .second, .val (.int il), .val (.long y1), .second, .val (.int y2), .val (.long y3), .second, .val (.long y4), .second, .val (.int y5), .val (.ref b40), .val (.ref b42), .val (.int (0 : Int32))] [(.ref b40), (.ref b40)])) rfl (by rw [hml]; rfl) (Steps.refl _) (argsL := [(.ref b40)]) (rest := []) (lenOf pd_rm0_1 rfl) rfl (by show 2 * 0 + _ ≤ _; exact Nat.le_of_eq rfl) (hb hby at_246) (fun _ _ => ⟨rfl, hE62, (by decide : 2 + 0 ≤ _), (by decide : 10 + 0 ≤ _)⟩)
      dsimp only [Pt.U, Pt.locs, Pt.cells, Pt.slots] at X63 l63 y63 z63 st63 hQ63
      subst l63 y63 z63
      obtain ⟨rfl, N63q, hE63⟩ := hQ63
      have N63 := Fr.app N62 N63q
      have pre64 : ∀ tt, Steps p.tables e below (T63.setTop (mkF m 257 #[.val (.long x1), .second, .val (.int x2), .val (.long x3), .second, .val (.long x4), .second, .val (.int x5), .val (.int x6), .val (.int k), .val (.int bit), .val (.long lf), .second, .val (.int il), .val (.long y1), .second, .val (.int y2), .val (.long y3), .second, .val (.long y4), .second, .val (.int y5), .val (.ref b40), .val (.ref b42), .val (.int (0 : Int32))] [(.int (1 : Int32))])) tt → Steps p.tables e below (s₁.setTop (entryFrame m #[(.long x1), (.int x2), (.long x3), (.long x4), (.int x5), (.int x6)] maxLocals)) tt := by
        intro tt kt
        refine pre55 tt ?_
        show Steps p.tables e below (T43.setTop (mkF m 208 #[.val (.long x1), .second, .val (.int x2), .val (.long x3), .second, .val (.long x4), .second, .val (.int x5), .val (.int x6), .val (.int k), .val (.int bit), .val (.long lf), .second, .val (.int il), .val (.long y1), .second, .val (.int y2), .val (.long y3), .second, .val (.long y4), .second, .val (.int y5), .val (.ref b40), .val (.ref b42), .unset] [(.int k)])) _
        refine XS.ifYes X43.here hx rfl (pc0 := 208) (pc' := 215) rfl (hb hby at_208) rfl ((if0 _ _).trans (feq c208_56).2) (by decide) (by decide) ?_
        show Steps p.tables e below (T43.setTop (mkF m 215 #[.val (.long x1), .second, .val (.int x2), .val (.long x3), .second, .val (.long x4), .second, .val (.int x5), .val (.int x6), .val (.int k), .val (.int bit), .val (.long lf), .second, .val (.int il), .val (.long y1), .second, .val (.int y2), .val (.long y3), .second, .val (.long y4), .second, .val (.int y5), .val (.ref b40), .val (.ref b42), .unset] [])) _
        refine XS.iconst X43.here hx rfl (hb hby at_215) ?_
        show Steps p.tables e below (T43.setTop (mkF m 216 #[.val (.long x1), .second, .val (.int x2), .val (.long x3), .second, .val (.long x4), .second, .val (.int x5), .val (.int x6), .val (.int k), .val (.int bit), .val (.long lf), .second, .val (.int il), .val (.long y1), .second, .val (.int y2), .val (.long y3), .second, .val (.long y4), .second, .val (.int y5), .val (.ref b40), .val (.ref b42), .unset] [(.int (0 : Int32))])) _
        refine XS.istore X43.here hx rfl (hb hby at_216) rfl (l' := #[.val (.long x1), .second, .val (.int x2), .val (.long x3), .second, .val (.long x4), .second, .val (.int x5), .val (.int x6), .val (.int k), .val (.int bit), .val (.long lf), .second, .val (.int il), .val (.long y1), .second, .val (.int y2), .val (.long y3), .second, .val (.long y4), .second, .val (.int y5), .val (.ref b40), .val (.ref b42), .val (.int (0 : Int32))]) rfl ?_
        show Steps p.tables e below (T43.setTop (mkF m 218 #[.val (.long x1), .second, .val (.int x2), .val (.long x3), .second, .val (.long x4), .second, .val (.int x5), .val (.int x6), .val (.int k), .val (.int bit), .val (.long lf), .second, .val (.int il), .val (.long y1), .second, .val (.int y2), .val (.long y3), .second, .val (.long y4), .second, .val (.int y5), .val (.ref b40), .val (.ref b42), .val (.int (0 : Int32))] [])) _
        refine XS.aload X43.here hx rfl (hb hby at_218) rfl rfl ?_
        show Steps p.tables e below (T43.setTop (mkF m 220 #[.val (.long x1), .second, .val (.int x2), .val (.long x3), .second, .val (.long x4), .second, .val (.int x5), .val (.int x6), .val (.int k), .val (.int bit), .val (.long lf), .second, .val (.int il), .val (.long y1), .second, .val (.int y2), .val (.long y3), .second, .val (.long y4), .second, .val (.int y5), .val (.ref b40), .val (.ref b42), .val (.int (0 : Int32))] [(.ref b40)])) _
        refine XS.aload X43.here hx rfl (hb hby at_220) rfl rfl ?_
        show Steps p.tables e below (T43.setTop (mkF m 222 #[.val (.long x1), .second, .val (.int x2), .val (.long x3), .second, .val (.long x4), .second, .val (.int x5), .val (.int x6), .val (.int k), .val (.int bit), .val (.long lf), .second, .val (.int il), .val (.long y1), .second, .val (.int y2), .val (.long y3), .second, .val (.long y4), .second, .val (.int y5), .val (.ref b40), .val (.ref b42), .val (.int (0 : Int32))] [(.ref b42), (.ref b40)])) _
        refine st61.trans ?_
        show Steps p.tables e below (T61.setTop (mkF m 225 #[.val (.long x1), .second, .val (.int x2), .val (.long x3), .second, .val (.long x4), .second, .val (.int x5), .val (.int x6), .val (.int k), .val (.int bit), .val (.long lf), .second, .val (.int il), .val (.long y1), .second, .val (.int y2), .val (.long y3), .second, .val (.long y4), .second, .val (.int y5), .val (.ref b40), .val (.ref b42), .val (.int (0 : Int32))] [(.int (0 : Int32))])) _
        refine XS.iload X61.here hx rfl (hb hby at_225) rfl ?_
        show Steps p.tables e below (T61.setTop (mkF m 227 #[.val (.long x1), .second, .val (.int x2), .val (.long x3), .second, .val (.long x4), .second, .val (.int x5), .val (.int x6), .val (.int k), .val (.int bit), .val (.long lf), .second, .val (.int il), .val (.long y1), .second, .val (.int y2), .val (.long y3), .second, .val (.long y4), .second, .val (.int y5), .val (.ref b40), .val (.ref b42), .val (.int (0 : Int32))] [(.int (0 : Int32)), (.int (0 : Int32))])) _
        refine XS.icmpNo X61.here hx rfl (hb hby at_227) rfl (teq (rfl : (0 : Int32) = (0 : Int32))).2 ?_
        show Steps p.tables e below (T61.setTop (mkF m 230 #[.val (.long x1), .second, .val (.int x2), .val (.long x3), .second, .val (.long x4), .second, .val (.int x5), .val (.int x6), .val (.int k), .val (.int bit), .val (.long lf), .second, .val (.int il), .val (.long y1), .second, .val (.int y2), .val (.long y3), .second, .val (.long y4), .second, .val (.int y5), .val (.ref b40), .val (.ref b42), .val (.int (0 : Int32))] [])) _
        refine XS.aload X61.here hx rfl (hb hby at_230) rfl rfl ?_
        show Steps p.tables e below (T61.setTop (mkF m 232 #[.val (.long x1), .second, .val (.int x2), .val (.long x3), .second, .val (.long x4), .second, .val (.int x5), .val (.int x6), .val (.int k), .val (.int bit), .val (.long lf), .second, .val (.int il), .val (.long y1), .second, .val (.int y2), .val (.long y3), .second, .val (.long y4), .second, .val (.int y5), .val (.ref b40), .val (.ref b42), .val (.int (0 : Int32))] [(.ref b42)])) _
        refine XS.aload X61.here hx rfl (hb hby at_232) rfl rfl ?_
        show Steps p.tables e below (T61.setTop (mkF m 234 #[.val (.long x1), .second, .val (.int x2), .val (.long x3), .second, .val (.long x4), .second, .val (.int x5), .val (.int x6), .val (.int k), .val (.int bit), .val (.long lf), .second, .val (.int il), .val (.long y1), .second, .val (.int y2), .val (.long y3), .second, .val (.long y4), .second, .val (.int y5), .val (.ref b40), .val (.ref b42), .val (.int (0 : Int32))] [(.ref b40), (.ref b42)])) _
        refine st62.trans ?_
        show Steps p.tables e below (T62.setTop (mkF m 237 #[.val (.long x1), .second, .val (.int x2), .val (.long x3), .second, .val (.long x4), .second, .val (.int x5), .val (.int x6), .val (.int k), .val (.int bit), .val (.long lf), .second, .val (.int il), .val (.long y1), .second, .val (.int y2), .val (.long y3), .second, .val (.long y4), .second, .val (.int y5), .val (.ref b40), .val (.ref b42), .val (.int (0 : Int32))] [(.int (0 : Int32))])) _
        refine XS.iload X62.here hx rfl (hb hby at_237) rfl ?_
        show Steps p.tables e below (T62.setTop (mkF m 239 #[.val (.long x1), .second, .val (.int x2), .val (.long x3), .second, .val (.long x4), .second, .val (.int x5), .val (.int x6), .val (.int k), .val (.int bit), .val (.long lf), .second, .val (.int il), .val (.long y1), .second, .val (.int y2), .val (.long y3), .second, .val (.long y4), .second, .val (.int y5), .val (.ref b40), .val (.ref b42), .val (.int (0 : Int32))] [(.int (0 : Int32)), (.int (0 : Int32))])) _
        refine XS.icmpNo X62.here hx rfl (hb hby at_239) rfl (teq (rfl : (0 : Int32) = (0 : Int32))).2 ?_
        show Steps p.tables e below (T62.setTop (mkF m 242 #[.val (.long x1), .second, .val (.int x2), .val (.long x3), .second, .val (.long x4), .second, .val (.int x5), .val (.int x6), .val (.int k), .val (.int bit), .val (.long lf), .second, .val (.int il), .val (.long y1), .second, .val (.int y2), .val (.long y3), .second, .val (.long y4), .second, .val (.int y5), .val (.ref b40), .val (.ref b42), .val (.int (0 : Int32))] [])) _
        refine XS.aload X62.here hx rfl (hb hby at_242) rfl rfl ?_
        show Steps p.tables e below (T62.setTop (mkF m 244 #[.val (.long x1), .second, .val (.int x2), .val (.long x3), .second, .val (.long x4), .second, .val (.int x5), .val (.int x6), .val (.int k), .val (.int bit), .val (.long lf), .second, .val (.int il), .val (.long y1), .second, .val (.int y2), .val (.long y3), .second, .val (.long y4), .second, .val (.int y5), .val (.ref b40), .val (.ref b42), .val (.int (0 : Int32))] [(.ref b40)])) _
        refine XS.aload X62.here hx rfl (hb hby at_244) rfl rfl ?_
        show Steps p.tables e below (T62.setTop (mkF m 246 #[.val (.long x1), .second, .val (.int x2), .val (.long x3), .second, .val (.long x4), .second, .val (.int x5), .val (.int x6), .val (.int k), .val (.int bit), .val (.long lf), .second, .val (.int il), .val (.long y1), .second, .val (.int y2), .val (.long y3), .second, .val (.long y4), .second, .val (.int y5), .val (.ref b40), .val (.ref b42), .val (.int (0 : Int32))] [(.ref b40), (.ref b40)])) _
        refine st63.trans ?_
        show Steps p.tables e below (T63.setTop (mkF m 249 #[.val (.long x1), .second, .val (.int x2), .val (.long x3), .second, .val (.long x4), .second, .val (.int x5), .val (.int x6), .val (.int k), .val (.int bit), .val (.long lf), .second, .val (.int il), .val (.long y1), .second, .val (.int y2), .val (.long y3), .second, .val (.long y4), .second, .val (.int y5), .val (.ref b40), .val (.ref b42), .val (.int (0 : Int32))] [(.int (1 : Int32))])) _
        refine XS.ifNo X63.here hx rfl (hb hby at_249) rfl ((if0 _ _).trans (feq (by decide : ¬ ((1 : Int32) = (0 : Int32)))).1) ?_
        show Steps p.tables e below (T63.setTop (mkF m 252 #[.val (.long x1), .second, .val (.int x2), .val (.long x3), .second, .val (.long x4), .second, .val (.int x5), .val (.int x6), .val (.int k), .val (.int bit), .val (.long lf), .second, .val (.int il), .val (.long y1), .second, .val (.int y2), .val (.long y3), .second, .val (.long y4), .second, .val (.int y5), .val (.ref b40), .val (.ref b42), .val (.int (0 : Int32))] [])) _
        refine XS.iconst X63.here hx rfl (hb hby at_252) ?_
        show Steps p.tables e below (T63.setTop (mkF m 253 #[.val (.long x1), .second, .val (.int x2), .val (.long x3), .second, .val (.long x4), .second, .val (.int x5), .val (.int x6), .val (.int k), .val (.int bit), .val (.long lf), .second, .val (.int il), .val (.long y1), .second, .val (.int y2), .val (.long y3), .second, .val (.long y4), .second, .val (.int y5), .val (.ref b40), .val (.ref b42), .val (.int (0 : Int32))] [(.int (1 : Int32))])) _
        refine XS.goto X63.here hx rfl (pc0 := 253) (pc' := 257) rfl (hb hby at_253) (by decide) (by decide) ?_
        exact kt
      obtain ⟨fs, hr, hrun, hended, hW, hsame⟩ := X63.leave (v := some (.int (1 : Int32))) (fun h => by rw [Bd.returns] at h; cases h)
      refine ⟨_, _, pre64 _ ?_, hrun, hended, _, _, rfl, ?_, ⟨_, rfl⟩, hW, hsame.mono (by decide) (by decide)⟩
      · show Steps p.tables e below (T63.setTop (mkF m 257 #[.val (.long x1), .second, .val (.int x2), .val (.long x3), .second, .val (.long x4), .second, .val (.int x5), .val (.int x6), .val (.int k), .val (.int bit), .val (.long lf), .second, .val (.int il), .val (.long y1), .second, .val (.int y2), .val (.long y3), .second, .val (.long y4), .second, .val (.int y5), .val (.ref b40), .val (.ref b42), .val (.int (0 : Int32))] [(.int (1 : Int32))])) _
        exact retN X63 hx (t := .boolean) Bd.returns (by simp) (hb hby at_257) hr
      · show Q0 Z h0 n0 _ T63.heap _
        rw [hE63]
        exact ⟨rfl, N63⟩
set_option maxRecDepth 65536 in
set_option maxHeartbeats 40000000 in
theorem comes_1 {Post : Tables → Env → Array Value → State → Outcome → State → Prop} (hpost : ∀ tb e args s v u, (limb_1_1.after args s (.returned v) u = true ∧ limb_1_2.after args s (.returned v) u = true ∧ True) → FrameEnd s (.returned v) u (Jvm.fieldLocs frame_1_writes args s ++ Jvm.arrayLocs frame_1_arrays args s ++ Jvm.staticLocs frame_1_statics s) 16 128 → Post tb e args s (.returned v) u) :
    ArmFor flags0 classFile x code maxLocals ret World_1 tables_1 room_1 Calls_1 rest_1 Pre_1 Post := by
  intro l hfl _ _ p e ha hc hk s m args below hf hA hF happ hP
  obtain ⟨hcalls, hrest, hpre⟩ := hP
  obtain ⟨-, -, -, hnamed, -, -, -, hat⟩ := (Spec.applies_iff hf).mp happ
  obtain ⟨hg, hn⟩ := and_e (Cond.before_iff.mp (show (Jvm.Cond.and given_1 narrow_1).before args s = true from hpre))
  have hw := fun d (hd : d ∈ tables_1) => atoms_spec (ws := Jvm.Cond.code x code maxLocals ret :: tables_1) hat d (List.mem_cons_of_mem _ hd)
  obtain ⟨g1a, g1b⟩ := and_e hg
  obtain ⟨g2a, g2b⟩ := and_e g1b
  obtain ⟨g3a, g3b⟩ := and_e g2b
  obtain ⟨g4a, g4b⟩ := and_e g3b
  obtain ⟨g5a, g5b⟩ := and_e g4b
  obtain ⟨g6a, g6b⟩ := and_e g5b
  obtain ⟨w0, w1, w2, w3, w4, w5, rfl⟩ : ∃ w0 w1 w2 w3 w4 w5 : Value, args = #[w0, w1, w2, w3, w4, w5] := by
    have hs : args.size = 6 := by simpa [Cond.value, given_1] using g1a
    obtain ⟨L⟩ := args
    match L, hs with
    | [w0, w1, w2, w3, w4, w5], _ => exact ⟨w0, w1, w2, w3, w4, w5, rfl⟩
  have hfit : Fit s := fun {y c} hc i hi => by
    obtain ⟨ha, rfl⟩ := Array.getElem?_eq_some_iff.mp hc
    have q := List.all_eq_true.mp ((Array.all_eq_true_iff_forall_mem.mp hF) _ (Array.getElem_mem ha)) i (List.mem_range.mpr hi)
    simpa [Array.getElem?_eq_getElem hi] using q
  obtain ⟨hsets, hown0⟩ := atoms_of _ (rest_1_c_eq ▸ (show rest_1_c.before _ s = true from hrest))
  have hr0 := Cond.before_iff.mp hown0
  obtain ⟨i0, ei0⟩ := isL_v g2a
  obtain rfl : w0 = (.long i0) := Option.some.inj ei0
  obtain ⟨i1, ei1⟩ := is_v g3a
  obtain rfl : w1 = (.int i1) := Option.some.inj ei1
  obtain ⟨i2, ei2⟩ := isL_v g4a
  obtain rfl : w2 = (.long i2) := Option.some.inj ei2
  obtain ⟨i3, ei3⟩ := isL_v g5a
  obtain rfl : w3 = (.long i3) := Option.some.inj ei3
  obtain ⟨i4, ei4⟩ := is_v g6a
  obtain rfl : w4 = (.int i4) := Option.some.inj ei4
  obtain ⟨i5, ei5⟩ := is_v g6b
  obtain rfl : w5 = (.int i5) := Option.some.inj ei5
  have b3 := Cond.before_iff.mp (hsets _ (List.mem_of_getElem? (i := 3) rfl))
  have b4 := Cond.before_iff.mp (hsets _ (List.mem_of_getElem? (i := 4) rfl))
  have b6 := Cond.before_iff.mp (hsets _ (List.mem_of_getElem? (i := 6) rfl))
  have b7 := Cond.before_iff.mp (hsets _ (List.mem_of_getElem? (i := 7) rfl))
  have S_high := Sta.start (own_eqI b3) (Or.inl (hsets _ (List.mem_of_getElem? (i := 1) rfl)))
  obtain ⟨wC, evC⟩ := arr_v b4
  obtain ⟨clC, A_C⟩ := Arr.start evC b4
  have S_cache := Sta.start evC (Or.inr ⟨(hw _ (List.mem_of_getElem? (i := 32) rfl)), (hsets _ (List.mem_of_getElem? (i := 2) rfl))⟩)
  have I_C := own_ICstart (fun _ => evC) A_C (own_lenlt evC A_C b6) (own_len evC A_C b6) b7
  obtain ⟨n, o, h1, h2, h3, _, L, rfl, ⟨rfl, N⟩, hq⟩ := rm0 l s _ hw tables_1 i0 i1 i2 i3 i4 i5 wC s.heap s.heap.size (Nat.le_refl _) S_high S_cache I_C p e ha hc hk s m _ below hf ((Spec.applies_iff_loose hf).mp happ).1 ⟨rfl, State.Warmed39.refl s, rfl⟩ trivial
  refine ⟨n, _, h1, h2, h3, hpost _ _ _ _ _ _ ⟨Cond.after_iff.mpr rfl, Cond.after_iff.mpr (eq_i res_at (Term.int_eval (1)) rfl), trivial⟩ ⟨hq.1, hq.2.1, (hq.2.2.sift fun y hy => Or.inr (N y hy)).mono (by decide) (by decide)⟩⟩
theorem main_1_1 : Claimed_1_1 := comes_1 fun _ _ _ _ _ _ h hF => ⟨h.1, hF⟩
theorem main_1_2 : Claimed_1_2 := comes_1 fun _ _ _ _ _ _ h hF => ⟨h.2.1, hF⟩
end Jvm.Pilot.@@N@@
namespace Jvm.Pilot.@@N@@
open Jvm Jvm.ClassFile Sem Op Lib Jvm.Free Jvm.Stand Jvm.Pilot.@@N@@.Jvm.D
/-! MADE BY PROGRAM (witnessworld.py) out of the Statement's table words and the real class files: 16 classes; the members and pool entries that the words name. The judged class is class 1, her method 1. -/
namespace start1
open Jvm.ClassFile
def u (s : String) : CpInfo := .utf8 (stringToUtf16 s)
/-- a pool by its gaps: so many unusable entries, then the entry; so many at the end -/
def gap : Nat → List CpInfo → List CpInfo
  | 0, r => r
  | n + 1, r => .unusable :: gap n r
def poolList (es : List (Nat × CpInfo)) (last : Nat) : List CpInfo := es.foldr (fun e r => gap e.1 (e.2 :: r)) (gap last [])
def pool (es : List (Nat × CpInfo)) (last : Nat) : Array CpInfo := ⟨poolList es last⟩
def fileOf (pool : Array CpInfo) (this : Nat) (attrs : Array Attribute := #[]) (ms : Array MethodInfo := #[]) (fl : Nat := 33) (sup : Nat := 0) (ifs : Array Nat := #[]) (fds : Array FieldInfo := #[]) : ClassFile where
  minorVersion := 0
  majorVersion := 65
  constantPool := pool
  accessFlags := fl
  thisClass := this
  superClass := sup
  interfaces := ifs
  fields := fds
  methods := ms
  attributes := attrs
def plain (name : String) (sup : Option ClassId) : Class where
  name := name
  kind := .ordinary
  loader := none
  accessFlags := 33
  super := sup
  interfaces := #[]
  cf := none
  fields := #[]
  methods := #[]
  instanceTypes := #[]
  staticTypes := #[]
  resolved := #[]
  callSites := []
  init := .initialized
  statics := none
  mirror := none

def pool0 : Array CpInfo := pool [(5, u "<init>"), (0, u "()V"), (1, .class_ 10), (1, u "java/lang/Object")] 113

def k0c0 : Code := { maxStack := 0, maxLocals := 1, code := object_method_1_code, exceptionTable := #[], attributes := #[] }
def k0m0 : Method := { name := "<init>", desc := "()V", sig := { parameters := [], returnType := none }, accessFlags := 1, code := some k0c0 }
/-- java/lang/Object -/
def k0 : Class := { plain "java/lang/Object" none with
  accessFlags := 33
  interfaces := #[]
  cf := some (fileOf pool0 8 #[] #[{ accessFlags := 1, nameIndex := 5, descriptorIndex := 6, attributes := #[] }] 33 0 #[] #[])
  fields := #[]
  methods := #[k0m0]
  instanceTypes := #[]
  staticTypes := #[]
  resolved := Array.replicate 124 none
  statics := none }

def pool1 : Array CpInfo := pool [(2, .class_ 4), (1, u "java/lang/Object"), (0, u "<init>"), (0, u "()V"), (0, .integer 2147483647), (0, .class_ 9), (0, u "com/example/keyturn/keyturn/format/EndOfCentralDirectory"), (0, .methodref 8 11), (0, .nameAndType 5 12), (0, u "(JIJJI)V"), (0, .methodref 14 15), (0, .class_ 16), (0, .nameAndType 17 18), (0, u "java/lang/Integer"), (0, u "valueOf"), (0, u "(I)Ljava/lang/Integer;"), (0, .methodref 8 20), (0, .nameAndType 21 22), (0, u "equals"), (0, u "(Ljava/lang/Object;)Z"), (0, .class_ 24), (0, u "com/example/keyturn/keyturn/format/EndOfCentralDirectoryEqualsPinLaw"), (2, u "law"), (0, u "(JIJJII)Z")] 3

def k1m0 : Method := { name := "<init>", desc := "()V", sig := { parameters := [], returnType := none }, accessFlags := 1, code := none }
def k1c1 : Code := { maxStack := 10, maxLocals := 25, code := code, exceptionTable := #[], attributes := #[] }
def k1m1 : Method := { name := "law", desc := "(JIJJII)Z", sig := { parameters := [.long, .int, .long, .long, .int, .int], returnType := some .boolean }, accessFlags := 9, code := some k1c1 }
/-- com/example/keyturn/keyturn/format/EndOfCentralDirectoryEqualsPinLaw -/
def k1 : Class := { plain "com/example/keyturn/keyturn/format/EndOfCentralDirectoryEqualsPinLaw" (some 0) with
  accessFlags := 49
  interfaces := #[]
  cf := some (fileOf pool1 23 #[] #[{ accessFlags := 1, nameIndex := 5, descriptorIndex := 6, attributes := #[] }, { accessFlags := 9, nameIndex := 27, descriptorIndex := 28, attributes := #[] }] 49 2 #[] #[])
  fields := #[]
  methods := #[k1m0, k1m1]
  instanceTypes := #[]
  staticTypes := #[]
  resolved := Array.replicate 32 none
  statics := none }

def pool2 : Array CpInfo := pool [(1, .methodref 2 3), (0, .class_ 4), (0, .nameAndType 5 6), (0, u "java/lang/Object"), (0, u "<init>"), (0, u "()V"), (0, .fieldref 8 9), (0, .class_ 10), (0, .nameAndType 11 12), (0, u "com/example/keyturn/keyturn/format/EndOfCentralDirectory"), (0, u "offset"), (0, u "J"), (0, .fieldref 8 14), (0, .nameAndType 15 16), (0, u "commentLength"), (0, u "I"), (0, .fieldref 8 18), (0, .nameAndType 19 12), (0, u "centralDirectoryOffset"), (0, .fieldref 8 21), (0, .nameAndType 22 12), (0, u "centralDirectorySize"), (0, .fieldref 8 24), (0, .nameAndType 25 16), (0, u "entryCount"), (107, u "(JIJJI)V"), (57, u "RECORD_SIZE"), (2, u "MAX_COMMENT_LENGTH"), (0, u "SIGNATURE"), (0, u "ZIP64_LOCATOR_SIGNATURE"), (0, u "ZIP64_LOCATOR_SIZE"), (18, u "equals"), (0, u "(Ljava/lang/Object;)Z")] 22

def k2c0 : Code := { maxStack := 3, maxLocals := 9, code := prog_18_method_1_code, exceptionTable := #[], attributes := #[] }
def k2m0 : Method := { name := "<init>", desc := "(JIJJI)V", sig := { parameters := [.long, .int, .long, .long, .int], returnType := none }, accessFlags := 0, code := some k2c0 }
def k2c1 : Code := { maxStack := 4, maxLocals := 3, code := prog_18_method_12_code, exceptionTable := #[], attributes := #[] }
def k2m1 : Method := { name := "equals", desc := "(Ljava/lang/Object;)Z", sig := { parameters := [(.object "java/lang/Object")], returnType := some .boolean }, accessFlags := 1, code := some k2c1 }
/-- com/example/keyturn/keyturn/format/EndOfCentralDirectory -/
def k2 : Class := { plain "com/example/keyturn/keyturn/format/EndOfCentralDirectory" (some 0) with
  accessFlags := 33
  interfaces := #[]
  cf := some (fileOf pool2 8 #[] #[{ accessFlags := 0, nameIndex := 5, descriptorIndex := 133, attributes := #[] }, { accessFlags := 1, nameIndex := 216, descriptorIndex := 217, attributes := #[] }] 33 2 #[] #[{ accessFlags := 25, nameIndex := 191, descriptorIndex := 16, attributes := #[] }, { accessFlags := 25, nameIndex := 194, descriptorIndex := 16, attributes := #[] }, { accessFlags := 26, nameIndex := 195, descriptorIndex := 16, attributes := #[] }, { accessFlags := 26, nameIndex := 196, descriptorIndex := 16, attributes := #[] }, { accessFlags := 26, nameIndex := 197, descriptorIndex := 16, attributes := #[] }, { accessFlags := 18, nameIndex := 11, descriptorIndex := 12, attributes := #[] }, { accessFlags := 18, nameIndex := 15, descriptorIndex := 16, attributes := #[] }, { accessFlags := 18, nameIndex := 19, descriptorIndex := 12, attributes := #[] }, { accessFlags := 18, nameIndex := 22, descriptorIndex := 12, attributes := #[] }, { accessFlags := 18, nameIndex := 25, descriptorIndex := 16, attributes := #[] }])
  fields := #[{ name := "RECORD_SIZE", type := .int, accessFlags := 25, slot := 0, constantValue := 0 }, { name := "MAX_COMMENT_LENGTH", type := .int, accessFlags := 25, slot := 1, constantValue := 0 }, { name := "SIGNATURE", type := .int, accessFlags := 26, slot := 2, constantValue := 0 }, { name := "ZIP64_LOCATOR_SIGNATURE", type := .int, accessFlags := 26, slot := 3, constantValue := 0 }, { name := "ZIP64_LOCATOR_SIZE", type := .int, accessFlags := 26, slot := 4, constantValue := 0 }, { name := "offset", type := .long, accessFlags := 18, slot := 0, constantValue := 0 }, { name := "commentLength", type := .int, accessFlags := 18, slot := 1, constantValue := 0 }, { name := "centralDirectoryOffset", type := .long, accessFlags := 18, slot := 2, constantValue := 0 }, { name := "centralDirectorySize", type := .long, accessFlags := 18, slot := 3, constantValue := 0 }, { name := "entryCount", type := .int, accessFlags := 18, slot := 4, constantValue := 0 }]
  methods := #[k2m0, k2m1]
  instanceTypes := #[.long, .int, .long, .long, .int]
  staticTypes := #[.int, .int, .int, .int, .int]
  resolved := Array.replicate 240 none
  statics := none }

def pool3 : Array CpInfo := pool [(1, .class_ 2), (0, u "java/io/Serializable"), (0, .class_ 4), (0, u "java/lang/Object")] 2

/-- java/io/Serializable -/
def k3 : Class := { plain "java/io/Serializable" (some 0) with
  accessFlags := 1537
  interfaces := #[]
  cf := some (fileOf pool3 1 #[] #[] 1537 3 #[] #[])
  fields := #[]
  methods := #[]
  instanceTypes := #[]
  staticTypes := #[]
  resolved := Array.replicate 7 none
  statics := none }

def pool4 : Array CpInfo := pool [(1, .methodref 2 3), (0, .class_ 4), (0, .nameAndType 5 6), (0, u "java/lang/Object"), (0, u "<init>"), (0, u "()V"), (1, .class_ 10), (1, u "java/lang/Number"), (2, .class_ 14), (0, u "java/io/Serializable"), (0, u "serialVersionUID"), (0, u "J")] 20

def k4c0 : Code := { maxStack := 1, maxLocals := 1, code := jdk_18_method_1_code, exceptionTable := #[], attributes := #[] }
def k4m0 : Method := { name := "<init>", desc := "()V", sig := { parameters := [], returnType := none }, accessFlags := 1, code := some k4c0 }
/-- java/lang/Number -/
def k4 : Class := { plain "java/lang/Number" (some 0) with
  accessFlags := 1057
  interfaces := #[3]
  cf := some (fileOf pool4 8 #[] #[{ accessFlags := 1, nameIndex := 5, descriptorIndex := 6, attributes := #[] }] 1057 2 #[13] #[{ accessFlags := 26, nameIndex := 15, descriptorIndex := 16, attributes := #[] }])
  fields := #[{ name := "serialVersionUID", type := .long, accessFlags := 26, slot := 0, constantValue := 0 }]
  methods := #[k4m0]
  instanceTypes := #[]
  staticTypes := #[.long]
  resolved := Array.replicate 37 none
  statics := none }

def pool5 : Array CpInfo := pool [(1, .class_ 2), (0, u "java/lang/Comparable"), (0, .class_ 4), (0, u "java/lang/Object")] 7

/-- java/lang/Comparable -/
def k5 : Class := { plain "java/lang/Comparable" (some 0) with
  accessFlags := 1537
  interfaces := #[]
  cf := some (fileOf pool5 1 #[] #[] 1537 3 #[] #[])
  fields := #[]
  methods := #[]
  instanceTypes := #[]
  staticTypes := #[]
  resolved := Array.replicate 12 none
  statics := none }

def pool6 : Array CpInfo := pool [(1, .class_ 2), (0, u "java/lang/constant/Constable"), (0, .class_ 4), (0, u "java/lang/Object")] 6

/-- java/lang/constant/Constable -/
def k6 : Class := { plain "java/lang/constant/Constable" (some 0) with
  accessFlags := 1537
  interfaces := #[]
  cf := some (fileOf pool6 1 #[] #[] 1537 3 #[] #[])
  fields := #[]
  methods := #[]
  instanceTypes := #[]
  staticTypes := #[]
  resolved := Array.replicate 11 none
  statics := none }

def pool7 : Array CpInfo := pool [(1, .class_ 2), (0, u "java/lang/constant/ConstantDesc"), (0, .class_ 4), (0, u "java/lang/Object")] 32

/-- java/lang/constant/ConstantDesc -/
def k7 : Class := { plain "java/lang/constant/ConstantDesc" (some 0) with
  accessFlags := 1537
  interfaces := #[]
  cf := some (fileOf pool7 1 #[] #[] 1537 3 #[] #[])
  fields := #[]
  methods := #[]
  instanceTypes := #[]
  staticTypes := #[]
  resolved := Array.replicate 37 none
  statics := none }

def pool8 : Array CpInfo := pool [(1, .class_ 2), (0, u "java/lang/Integer"), (16, u "digits"), (0, u "[C"), (46, u "<init>"), (17, u "DigitOnes"), (0, u "[B"), (2, u "DigitTens"), (10, .nameAndType 67 101), (0, u "()V"), (85, u "valueOf"), (0, u "(I)Ljava/lang/Integer;"), (0, .class_ 190), (0, u "java/lang/Integer$IntegerCache"), (0, .fieldref 189 192), (0, .nameAndType 193 194), (0, u "high"), (0, u "I"), (0, .fieldref 189 196), (0, .nameAndType 197 198), (0, u "cache"), (0, u "[Ljava/lang/Integer;"), (0, .methodref 1 200), (0, .nameAndType 67 201), (0, u "(I)V"), (0, .methodref 203 100), (0, .class_ 204), (0, u "java/lang/Number"), (0, .fieldref 1 206), (0, .nameAndType 207 194), (0, u "value"), (94, u "TYPE"), (0, u "Ljava/lang/Class;"), (0, .class_ 305), (0, u "java/lang/Comparable"), (0, .class_ 307), (0, u "java/lang/constant/Constable"), (0, .class_ 309), (0, u "java/lang/constant/ConstantDesc"), (0, u "MIN_VALUE"), (1, u "MAX_VALUE"), (3, u "SIZE"), (1, u "BYTES"), (1, u "serialVersionUID"), (0, u "J")] 131

def k8c0 : Code := { maxStack := 3, maxLocals := 1, code := jdk_33_method_22_code, exceptionTable := #[], attributes := #[] }
def k8m0 : Method := { name := "valueOf", desc := "(I)Ljava/lang/Integer;", sig := { parameters := [.int], returnType := some (.object "java/lang/Integer") }, accessFlags := 9, code := some k8c0 }
def k8c1 : Code := { maxStack := 2, maxLocals := 2, code := jdk_33_method_23_code, exceptionTable := #[], attributes := #[] }
def k8m1 : Method := { name := "<init>", desc := "(I)V", sig := { parameters := [.int], returnType := none }, accessFlags := 1, code := some k8c1 }
/-- java/lang/Integer -/
def k8 : Class := { plain "java/lang/Integer" (some 4) with
  accessFlags := 49
  interfaces := #[5, 6, 7]
  cf := some (fileOf pool8 1 #[.nestMembers #[189]] #[{ accessFlags := 9, nameIndex := 187, descriptorIndex := 188, attributes := #[] }, { accessFlags := 1, nameIndex := 67, descriptorIndex := 201, attributes := #[] }] 49 203 #[304, 306, 308] #[{ accessFlags := 25, nameIndex := 310, descriptorIndex := 194, attributes := #[] }, { accessFlags := 25, nameIndex := 312, descriptorIndex := 194, attributes := #[] }, { accessFlags := 25, nameIndex := 302, descriptorIndex := 303, attributes := #[] }, { accessFlags := 24, nameIndex := 19, descriptorIndex := 20, attributes := #[] }, { accessFlags := 24, nameIndex := 89, descriptorIndex := 86, attributes := #[] }, { accessFlags := 24, nameIndex := 85, descriptorIndex := 86, attributes := #[] }, { accessFlags := 18, nameIndex := 207, descriptorIndex := 194, attributes := #[] }, { accessFlags := 25, nameIndex := 316, descriptorIndex := 194, attributes := #[] }, { accessFlags := 25, nameIndex := 318, descriptorIndex := 194, attributes := #[] }, { accessFlags := 26, nameIndex := 320, descriptorIndex := 321, attributes := #[] }])
  fields := #[{ name := "MIN_VALUE", type := .int, accessFlags := 25, slot := 0, constantValue := 0 }, { name := "MAX_VALUE", type := .int, accessFlags := 25, slot := 1, constantValue := 0 }, { name := "TYPE", type := (.object "java/lang/Class"), accessFlags := 25, slot := 2, constantValue := 0 }, { name := "digits", type := (.array .char), accessFlags := 24, slot := 3, constantValue := 0 }, { name := "DigitTens", type := (.array .byte), accessFlags := 24, slot := 4, constantValue := 0 }, { name := "DigitOnes", type := (.array .byte), accessFlags := 24, slot := 5, constantValue := 0 }, { name := "value", type := .int, accessFlags := 18, slot := 0, constantValue := 0 }, { name := "SIZE", type := .int, accessFlags := 25, slot := 6, constantValue := 0 }, { name := "BYTES", type := .int, accessFlags := 25, slot := 7, constantValue := 0 }, { name := "serialVersionUID", type := .long, accessFlags := 26, slot := 8, constantValue := 0 }]
  methods := #[k8m0, k8m1]
  instanceTypes := #[.int]
  staticTypes := #[.int, .int, (.object "java/lang/Class"), (.array .char), (.array .byte), (.array .byte), .int, .int, .long]
  resolved := Array.replicate 453 none
  statics := none }

def pool9 : Array CpInfo := pool [(2, .class_ 4), (1, u "java/lang/Object"), (0, u "<init>"), (0, u "()V"), (0, .class_ 8), (0, u "java/lang/Integer"), (7, .class_ 18), (1, u "java/lang/Integer$IntegerCache"), (0, u "$assertionsDisabled"), (0, u "Z"), (26, u "high"), (0, u "I"), (8, u "archivedCache"), (0, u "[Ljava/lang/Integer;"), (12, u "cache"), (0, u "low")] 27

def k9m0 : Method := { name := "<init>", desc := "()V", sig := { parameters := [], returnType := none }, accessFlags := 2, code := none }
/-- java/lang/Integer$IntegerCache -/
def k9 : Class := { plain "java/lang/Integer$IntegerCache" (some 0) with
  accessFlags := 48
  interfaces := #[]
  cf := some (fileOf pool9 16 #[.nestHost 7] #[{ accessFlags := 2, nameIndex := 5, descriptorIndex := 6, attributes := #[] }] 48 2 #[] #[{ accessFlags := 24, nameIndex := 72, descriptorIndex := 48, attributes := #[] }, { accessFlags := 24, nameIndex := 47, descriptorIndex := 48, attributes := #[] }, { accessFlags := 24, nameIndex := 71, descriptorIndex := 58, attributes := #[] }, { accessFlags := 8, nameIndex := 57, descriptorIndex := 58, attributes := #[] }, { accessFlags := 4120, nameIndex := 19, descriptorIndex := 20, attributes := #[] }])
  fields := #[{ name := "low", type := .int, accessFlags := 24, slot := 0, constantValue := 0 }, { name := "high", type := .int, accessFlags := 24, slot := 1, constantValue := 0 }, { name := "cache", type := (.array (.object "java/lang/Integer")), accessFlags := 24, slot := 2, constantValue := 0 }, { name := "archivedCache", type := (.array (.object "java/lang/Integer")), accessFlags := 8, slot := 3, constantValue := 0 }, { name := "$assertionsDisabled", type := .boolean, accessFlags := 4120, slot := 4, constantValue := 0 }]
  methods := #[k9m0]
  instanceTypes := #[]
  staticTypes := #[.int, .int, (.array (.object "java/lang/Integer")), (.array (.object "java/lang/Integer")), .boolean]
  resolved := Array.replicate 100 none
  statics := some 0 }

def pool10 : Array CpInfo := pool [(1, u "java/lang/Cloneable"), (0, .class_ 1), (0, u "java/lang/Object"), (0, .class_ 3)] 3

/-- java/lang/Cloneable -/
def k10 : Class := { plain "java/lang/Cloneable" (some 0) with
  accessFlags := 1537
  interfaces := #[]
  cf := some (fileOf pool10 2 #[] #[] 1537 4 #[] #[])
  fields := #[]
  methods := #[]
  instanceTypes := #[]
  staticTypes := #[]
  resolved := Array.replicate 8 none
  statics := none }

/-- the primitive byte -/
def k11 : Class := { plain "byte" none with kind := .primitive 'B', accessFlags := 0x411 }
/-- [B -/
def k12 : Class := { plain "[B" (some 0) with kind := .array 11 .byte, interfaces := #[10, 3], accessFlags := 1041 }

/-- the primitive int -/
def k13 : Class := { plain "int" none with kind := .primitive 'I', accessFlags := 0x411 }
/-- [I -/
def k14 : Class := { plain "[I" (some 0) with kind := .array 13 .int, interfaces := #[10, 3], accessFlags := 1041 }

/-- [Ljava/lang/Integer; -/
def k15 : Class := { plain "[Ljava/lang/Integer;" (some 0) with kind := .array 8 (.object "java/lang/Integer"), interfaces := #[10, 3], accessFlags := 1041 }

def heap : Heap := #[{ cls := 9, slots := #[.int 0, .int 127, .ref 1, .null, .int 0], vm := .statics 9 },
  { cls := 15, slots := #[.ref 2, .ref 3, .ref 4, .ref 5, .ref 6, .ref 7, .ref 8, .ref 9, .ref 10, .ref 11, .ref 12, .ref 13, .ref 14, .ref 15, .ref 16, .ref 17, .ref 18, .ref 19, .ref 20, .ref 21, .ref 22, .ref 23, .ref 24, .ref 25, .ref 26, .ref 27, .ref 28, .ref 29, .ref 30, .ref 31, .ref 32, .ref 33, .ref 34, .ref 35, .ref 36, .ref 37, .ref 38, .ref 39, .ref 40, .ref 41, .ref 42, .ref 43, .ref 44, .ref 45, .ref 46, .ref 47, .ref 48, .ref 49, .ref 50, .ref 51, .ref 52, .ref 53, .ref 54, .ref 55, .ref 56, .ref 57, .ref 58, .ref 59, .ref 60, .ref 61, .ref 62, .ref 63, .ref 64, .ref 65, .ref 66, .ref 67, .ref 68, .ref 69, .ref 70, .ref 71, .ref 72, .ref 73, .ref 74, .ref 75, .ref 76, .ref 77, .ref 78, .ref 79, .ref 80, .ref 81, .ref 82, .ref 83, .ref 84, .ref 85, .ref 86, .ref 87, .ref 88, .ref 89, .ref 90, .ref 91, .ref 92, .ref 93, .ref 94, .ref 95, .ref 96, .ref 97, .ref 98, .ref 99, .ref 100, .ref 101, .ref 102, .ref 103, .ref 104, .ref 105, .ref 106, .ref 107, .ref 108, .ref 109, .ref 110, .ref 111, .ref 112, .ref 113, .ref 114, .ref 115, .ref 116, .ref 117, .ref 118, .ref 119, .ref 120, .ref 121, .ref 122, .ref 123, .ref 124, .ref 125, .ref 126, .ref 127, .ref 128, .ref 129, .ref 130, .ref 131, .ref 132, .ref 133, .ref 134, .ref 135, .ref 136, .ref 137, .ref 138, .ref 139, .ref 140, .ref 141, .ref 142, .ref 143, .ref 144, .ref 145, .ref 146, .ref 147, .ref 148, .ref 149, .ref 150, .ref 151, .ref 152, .ref 153, .ref 154, .ref 155, .ref 156, .ref 157, .ref 158, .ref 159, .ref 160, .ref 161, .ref 162, .ref 163, .ref 164, .ref 165, .ref 166, .ref 167, .ref 168, .ref 169, .ref 170, .ref 171, .ref 172, .ref 173, .ref 174, .ref 175, .ref 176, .ref 177, .ref 178, .ref 179, .ref 180, .ref 181, .ref 182, .ref 183, .ref 184, .ref 185, .ref 186, .ref 187, .ref 188, .ref 189, .ref 190, .ref 191, .ref 192, .ref 193, .ref 194, .ref 195, .ref 196, .ref 197, .ref 198, .ref 199, .ref 200, .ref 201, .ref 202, .ref 203, .ref 204, .ref 205, .ref 206, .ref 207, .ref 208, .ref 209, .ref 210, .ref 211, .ref 212, .ref 213, .ref 214, .ref 215, .ref 216, .ref 217, .ref 218, .ref 219, .ref 220, .ref 221, .ref 222, .ref 223, .ref 224, .ref 225, .ref 226, .ref 227, .ref 228, .ref 229, .ref 230, .ref 231, .ref 232, .ref 233, .ref 234, .ref 235, .ref 236, .ref 237, .ref 238, .ref 239, .ref 240, .ref 241, .ref 242, .ref 243, .ref 244, .ref 245, .ref 246, .ref 247, .ref 248, .ref 249, .ref 250, .ref 251, .ref 252, .ref 253, .ref 254, .ref 255, .ref 256, .ref 257], vm := .none },
  { cls := 8, slots := #[.int (-128)], vm := .none },
  { cls := 8, slots := #[.int (-127)], vm := .none },
  { cls := 8, slots := #[.int (-126)], vm := .none },
  { cls := 8, slots := #[.int (-125)], vm := .none },
  { cls := 8, slots := #[.int (-124)], vm := .none },
  { cls := 8, slots := #[.int (-123)], vm := .none },
  { cls := 8, slots := #[.int (-122)], vm := .none },
  { cls := 8, slots := #[.int (-121)], vm := .none },
  { cls := 8, slots := #[.int (-120)], vm := .none },
  { cls := 8, slots := #[.int (-119)], vm := .none },
  { cls := 8, slots := #[.int (-118)], vm := .none },
  { cls := 8, slots := #[.int (-117)], vm := .none },
  { cls := 8, slots := #[.int (-116)], vm := .none },
  { cls := 8, slots := #[.int (-115)], vm := .none },
  { cls := 8, slots := #[.int (-114)], vm := .none },
  { cls := 8, slots := #[.int (-113)], vm := .none },
  { cls := 8, slots := #[.int (-112)], vm := .none },
  { cls := 8, slots := #[.int (-111)], vm := .none },
  { cls := 8, slots := #[.int (-110)], vm := .none },
  { cls := 8, slots := #[.int (-109)], vm := .none },
  { cls := 8, slots := #[.int (-108)], vm := .none },
  { cls := 8, slots := #[.int (-107)], vm := .none },
  { cls := 8, slots := #[.int (-106)], vm := .none },
  { cls := 8, slots := #[.int (-105)], vm := .none },
  { cls := 8, slots := #[.int (-104)], vm := .none },
  { cls := 8, slots := #[.int (-103)], vm := .none },
  { cls := 8, slots := #[.int (-102)], vm := .none },
  { cls := 8, slots := #[.int (-101)], vm := .none },
  { cls := 8, slots := #[.int (-100)], vm := .none },
  { cls := 8, slots := #[.int (-99)], vm := .none },
  { cls := 8, slots := #[.int (-98)], vm := .none },
  { cls := 8, slots := #[.int (-97)], vm := .none },
  { cls := 8, slots := #[.int (-96)], vm := .none },
  { cls := 8, slots := #[.int (-95)], vm := .none },
  { cls := 8, slots := #[.int (-94)], vm := .none },
  { cls := 8, slots := #[.int (-93)], vm := .none },
  { cls := 8, slots := #[.int (-92)], vm := .none },
  { cls := 8, slots := #[.int (-91)], vm := .none },
  { cls := 8, slots := #[.int (-90)], vm := .none },
  { cls := 8, slots := #[.int (-89)], vm := .none },
  { cls := 8, slots := #[.int (-88)], vm := .none },
  { cls := 8, slots := #[.int (-87)], vm := .none },
  { cls := 8, slots := #[.int (-86)], vm := .none },
  { cls := 8, slots := #[.int (-85)], vm := .none },
  { cls := 8, slots := #[.int (-84)], vm := .none },
  { cls := 8, slots := #[.int (-83)], vm := .none },
  { cls := 8, slots := #[.int (-82)], vm := .none },
  { cls := 8, slots := #[.int (-81)], vm := .none },
  { cls := 8, slots := #[.int (-80)], vm := .none },
  { cls := 8, slots := #[.int (-79)], vm := .none },
  { cls := 8, slots := #[.int (-78)], vm := .none },
  { cls := 8, slots := #[.int (-77)], vm := .none },
  { cls := 8, slots := #[.int (-76)], vm := .none },
  { cls := 8, slots := #[.int (-75)], vm := .none },
  { cls := 8, slots := #[.int (-74)], vm := .none },
  { cls := 8, slots := #[.int (-73)], vm := .none },
  { cls := 8, slots := #[.int (-72)], vm := .none },
  { cls := 8, slots := #[.int (-71)], vm := .none },
  { cls := 8, slots := #[.int (-70)], vm := .none },
  { cls := 8, slots := #[.int (-69)], vm := .none },
  { cls := 8, slots := #[.int (-68)], vm := .none },
  { cls := 8, slots := #[.int (-67)], vm := .none },
  { cls := 8, slots := #[.int (-66)], vm := .none },
  { cls := 8, slots := #[.int (-65)], vm := .none },
  { cls := 8, slots := #[.int (-64)], vm := .none },
  { cls := 8, slots := #[.int (-63)], vm := .none },
  { cls := 8, slots := #[.int (-62)], vm := .none },
  { cls := 8, slots := #[.int (-61)], vm := .none },
  { cls := 8, slots := #[.int (-60)], vm := .none },
  { cls := 8, slots := #[.int (-59)], vm := .none },
  { cls := 8, slots := #[.int (-58)], vm := .none },
  { cls := 8, slots := #[.int (-57)], vm := .none },
  { cls := 8, slots := #[.int (-56)], vm := .none },
  { cls := 8, slots := #[.int (-55)], vm := .none },
  { cls := 8, slots := #[.int (-54)], vm := .none },
  { cls := 8, slots := #[.int (-53)], vm := .none },
  { cls := 8, slots := #[.int (-52)], vm := .none },
  { cls := 8, slots := #[.int (-51)], vm := .none },
  { cls := 8, slots := #[.int (-50)], vm := .none },
  { cls := 8, slots := #[.int (-49)], vm := .none },
  { cls := 8, slots := #[.int (-48)], vm := .none },
  { cls := 8, slots := #[.int (-47)], vm := .none },
  { cls := 8, slots := #[.int (-46)], vm := .none },
  { cls := 8, slots := #[.int (-45)], vm := .none },
  { cls := 8, slots := #[.int (-44)], vm := .none },
  { cls := 8, slots := #[.int (-43)], vm := .none },
  { cls := 8, slots := #[.int (-42)], vm := .none },
  { cls := 8, slots := #[.int (-41)], vm := .none },
  { cls := 8, slots := #[.int (-40)], vm := .none },
  { cls := 8, slots := #[.int (-39)], vm := .none },
  { cls := 8, slots := #[.int (-38)], vm := .none },
  { cls := 8, slots := #[.int (-37)], vm := .none },
  { cls := 8, slots := #[.int (-36)], vm := .none },
  { cls := 8, slots := #[.int (-35)], vm := .none },
  { cls := 8, slots := #[.int (-34)], vm := .none },
  { cls := 8, slots := #[.int (-33)], vm := .none },
  { cls := 8, slots := #[.int (-32)], vm := .none },
  { cls := 8, slots := #[.int (-31)], vm := .none },
  { cls := 8, slots := #[.int (-30)], vm := .none },
  { cls := 8, slots := #[.int (-29)], vm := .none },
  { cls := 8, slots := #[.int (-28)], vm := .none },
  { cls := 8, slots := #[.int (-27)], vm := .none },
  { cls := 8, slots := #[.int (-26)], vm := .none },
  { cls := 8, slots := #[.int (-25)], vm := .none },
  { cls := 8, slots := #[.int (-24)], vm := .none },
  { cls := 8, slots := #[.int (-23)], vm := .none },
  { cls := 8, slots := #[.int (-22)], vm := .none },
  { cls := 8, slots := #[.int (-21)], vm := .none },
  { cls := 8, slots := #[.int (-20)], vm := .none },
  { cls := 8, slots := #[.int (-19)], vm := .none },
  { cls := 8, slots := #[.int (-18)], vm := .none },
  { cls := 8, slots := #[.int (-17)], vm := .none },
  { cls := 8, slots := #[.int (-16)], vm := .none },
  { cls := 8, slots := #[.int (-15)], vm := .none },
  { cls := 8, slots := #[.int (-14)], vm := .none },
  { cls := 8, slots := #[.int (-13)], vm := .none },
  { cls := 8, slots := #[.int (-12)], vm := .none },
  { cls := 8, slots := #[.int (-11)], vm := .none },
  { cls := 8, slots := #[.int (-10)], vm := .none },
  { cls := 8, slots := #[.int (-9)], vm := .none },
  { cls := 8, slots := #[.int (-8)], vm := .none },
  { cls := 8, slots := #[.int (-7)], vm := .none },
  { cls := 8, slots := #[.int (-6)], vm := .none },
  { cls := 8, slots := #[.int (-5)], vm := .none },
  { cls := 8, slots := #[.int (-4)], vm := .none },
  { cls := 8, slots := #[.int (-3)], vm := .none },
  { cls := 8, slots := #[.int (-2)], vm := .none },
  { cls := 8, slots := #[.int (-1)], vm := .none },
  { cls := 8, slots := #[.int (0)], vm := .none },
  { cls := 8, slots := #[.int (1)], vm := .none },
  { cls := 8, slots := #[.int (2)], vm := .none },
  { cls := 8, slots := #[.int (3)], vm := .none },
  { cls := 8, slots := #[.int (4)], vm := .none },
  { cls := 8, slots := #[.int (5)], vm := .none },
  { cls := 8, slots := #[.int (6)], vm := .none },
  { cls := 8, slots := #[.int (7)], vm := .none },
  { cls := 8, slots := #[.int (8)], vm := .none },
  { cls := 8, slots := #[.int (9)], vm := .none },
  { cls := 8, slots := #[.int (10)], vm := .none },
  { cls := 8, slots := #[.int (11)], vm := .none },
  { cls := 8, slots := #[.int (12)], vm := .none },
  { cls := 8, slots := #[.int (13)], vm := .none },
  { cls := 8, slots := #[.int (14)], vm := .none },
  { cls := 8, slots := #[.int (15)], vm := .none },
  { cls := 8, slots := #[.int (16)], vm := .none },
  { cls := 8, slots := #[.int (17)], vm := .none },
  { cls := 8, slots := #[.int (18)], vm := .none },
  { cls := 8, slots := #[.int (19)], vm := .none },
  { cls := 8, slots := #[.int (20)], vm := .none },
  { cls := 8, slots := #[.int (21)], vm := .none },
  { cls := 8, slots := #[.int (22)], vm := .none },
  { cls := 8, slots := #[.int (23)], vm := .none },
  { cls := 8, slots := #[.int (24)], vm := .none },
  { cls := 8, slots := #[.int (25)], vm := .none },
  { cls := 8, slots := #[.int (26)], vm := .none },
  { cls := 8, slots := #[.int (27)], vm := .none },
  { cls := 8, slots := #[.int (28)], vm := .none },
  { cls := 8, slots := #[.int (29)], vm := .none },
  { cls := 8, slots := #[.int (30)], vm := .none },
  { cls := 8, slots := #[.int (31)], vm := .none },
  { cls := 8, slots := #[.int (32)], vm := .none },
  { cls := 8, slots := #[.int (33)], vm := .none },
  { cls := 8, slots := #[.int (34)], vm := .none },
  { cls := 8, slots := #[.int (35)], vm := .none },
  { cls := 8, slots := #[.int (36)], vm := .none },
  { cls := 8, slots := #[.int (37)], vm := .none },
  { cls := 8, slots := #[.int (38)], vm := .none },
  { cls := 8, slots := #[.int (39)], vm := .none },
  { cls := 8, slots := #[.int (40)], vm := .none },
  { cls := 8, slots := #[.int (41)], vm := .none },
  { cls := 8, slots := #[.int (42)], vm := .none },
  { cls := 8, slots := #[.int (43)], vm := .none },
  { cls := 8, slots := #[.int (44)], vm := .none },
  { cls := 8, slots := #[.int (45)], vm := .none },
  { cls := 8, slots := #[.int (46)], vm := .none },
  { cls := 8, slots := #[.int (47)], vm := .none },
  { cls := 8, slots := #[.int (48)], vm := .none },
  { cls := 8, slots := #[.int (49)], vm := .none },
  { cls := 8, slots := #[.int (50)], vm := .none },
  { cls := 8, slots := #[.int (51)], vm := .none },
  { cls := 8, slots := #[.int (52)], vm := .none },
  { cls := 8, slots := #[.int (53)], vm := .none },
  { cls := 8, slots := #[.int (54)], vm := .none },
  { cls := 8, slots := #[.int (55)], vm := .none },
  { cls := 8, slots := #[.int (56)], vm := .none },
  { cls := 8, slots := #[.int (57)], vm := .none },
  { cls := 8, slots := #[.int (58)], vm := .none },
  { cls := 8, slots := #[.int (59)], vm := .none },
  { cls := 8, slots := #[.int (60)], vm := .none },
  { cls := 8, slots := #[.int (61)], vm := .none },
  { cls := 8, slots := #[.int (62)], vm := .none },
  { cls := 8, slots := #[.int (63)], vm := .none },
  { cls := 8, slots := #[.int (64)], vm := .none },
  { cls := 8, slots := #[.int (65)], vm := .none },
  { cls := 8, slots := #[.int (66)], vm := .none },
  { cls := 8, slots := #[.int (67)], vm := .none },
  { cls := 8, slots := #[.int (68)], vm := .none },
  { cls := 8, slots := #[.int (69)], vm := .none },
  { cls := 8, slots := #[.int (70)], vm := .none },
  { cls := 8, slots := #[.int (71)], vm := .none },
  { cls := 8, slots := #[.int (72)], vm := .none },
  { cls := 8, slots := #[.int (73)], vm := .none },
  { cls := 8, slots := #[.int (74)], vm := .none },
  { cls := 8, slots := #[.int (75)], vm := .none },
  { cls := 8, slots := #[.int (76)], vm := .none },
  { cls := 8, slots := #[.int (77)], vm := .none },
  { cls := 8, slots := #[.int (78)], vm := .none },
  { cls := 8, slots := #[.int (79)], vm := .none },
  { cls := 8, slots := #[.int (80)], vm := .none },
  { cls := 8, slots := #[.int (81)], vm := .none },
  { cls := 8, slots := #[.int (82)], vm := .none },
  { cls := 8, slots := #[.int (83)], vm := .none },
  { cls := 8, slots := #[.int (84)], vm := .none },
  { cls := 8, slots := #[.int (85)], vm := .none },
  { cls := 8, slots := #[.int (86)], vm := .none },
  { cls := 8, slots := #[.int (87)], vm := .none },
  { cls := 8, slots := #[.int (88)], vm := .none },
  { cls := 8, slots := #[.int (89)], vm := .none },
  { cls := 8, slots := #[.int (90)], vm := .none },
  { cls := 8, slots := #[.int (91)], vm := .none },
  { cls := 8, slots := #[.int (92)], vm := .none },
  { cls := 8, slots := #[.int (93)], vm := .none },
  { cls := 8, slots := #[.int (94)], vm := .none },
  { cls := 8, slots := #[.int (95)], vm := .none },
  { cls := 8, slots := #[.int (96)], vm := .none },
  { cls := 8, slots := #[.int (97)], vm := .none },
  { cls := 8, slots := #[.int (98)], vm := .none },
  { cls := 8, slots := #[.int (99)], vm := .none },
  { cls := 8, slots := #[.int (100)], vm := .none },
  { cls := 8, slots := #[.int (101)], vm := .none },
  { cls := 8, slots := #[.int (102)], vm := .none },
  { cls := 8, slots := #[.int (103)], vm := .none },
  { cls := 8, slots := #[.int (104)], vm := .none },
  { cls := 8, slots := #[.int (105)], vm := .none },
  { cls := 8, slots := #[.int (106)], vm := .none },
  { cls := 8, slots := #[.int (107)], vm := .none },
  { cls := 8, slots := #[.int (108)], vm := .none },
  { cls := 8, slots := #[.int (109)], vm := .none },
  { cls := 8, slots := #[.int (110)], vm := .none },
  { cls := 8, slots := #[.int (111)], vm := .none },
  { cls := 8, slots := #[.int (112)], vm := .none },
  { cls := 8, slots := #[.int (113)], vm := .none },
  { cls := 8, slots := #[.int (114)], vm := .none },
  { cls := 8, slots := #[.int (115)], vm := .none },
  { cls := 8, slots := #[.int (116)], vm := .none },
  { cls := 8, slots := #[.int (117)], vm := .none },
  { cls := 8, slots := #[.int (118)], vm := .none },
  { cls := 8, slots := #[.int (119)], vm := .none },
  { cls := 8, slots := #[.int (120)], vm := .none },
  { cls := 8, slots := #[.int (121)], vm := .none },
  { cls := 8, slots := #[.int (122)], vm := .none },
  { cls := 8, slots := #[.int (123)], vm := .none },
  { cls := 8, slots := #[.int (124)], vm := .none },
  { cls := 8, slots := #[.int (125)], vm := .none },
  { cls := 8, slots := #[.int (126)], vm := .none },
  { cls := 8, slots := #[.int (127)], vm := .none }]
def classes : Array Class := #[k0, k1, k2, k3, k4, k5, k6, k7, k8, k9, k10, k11, k12, k13, k14, k15]
def interned : List (Array UInt16 × Addr) := []
def slotsUsed : Nat := 517
def theMethod : MethodId := ⟨1, 1⟩
def args0 : Array Value := #[.long 1, .int 2, .long 3, .long 4, .int 5, .int 6]
def aboutOver (below : List Frame) : State where
  vm := { classes := classes, interned := interned.toArray }
  heap := heap
  slotsUsed := slotsUsed
  threads := #[{ frames := .invoking theMethod args0 :: below }]
def below0 : List Frame := [.native { method := ⟨0, 0⟩, args := #[] }]
def about1 : State := aboutOver below0
def p0 : Program := .bare "" "" ""
def e0 : Env := launch0.env 0 0 0
theorem w_frames : about1.frames = Frame.invoking theMethod args0 :: below0 := rfl
set_option maxRecDepth 65536 in
theorem w_args : argsFit about1.vm theMethod args0 = true := by decide +kernel
set_option maxRecDepth 65536 in
theorem w_heap : heapFits about1 = true := by decide +kernel
set_option maxRecDepth 65536 in
theorem w_runnable : about1.curStatus? = some .runnable := by decide +kernel
set_option maxRecDepth 65536 in
theorem w_alone : about1.alone = true := by decide +kernel
set_option maxRecDepth 65536 in
theorem w_named : about1.methodNamed? x = some theMethod := by decide +kernel
set_option maxRecDepth 65536 in
theorem w_hears : about1.hears theMethod below0 = true := by decide +kernel
set_option maxRecDepth 65536 in
theorem w_ripe : about1.ripe theMethod args0 below0 = true := by decide +kernel
theorem w_running : about1.status = .running := rfl
set_option maxRecDepth 65536 in
theorem w_room : about1.hasRoom e0.platform room_1 = true :=
  launch0.hasRoom_least _ room_1 (by decide +kernel) (by decide +kernel) (by decide +kernel) (by decide +kernel) (by decide +kernel) (by decide +kernel)
theorem allAtoms_all (ts : List Jvm.Cond) (a : Array Jvm.Value) (st : Jvm.State) : (allAtoms ts).before a st = ts.all (fun c => c.before a st) := by
  induction ts with
  | nil => rfl
  | cons c t ih =>
    show (Jvm.Cond.and c (allAtoms t)).before a st = _
    rw [Jvm.Cond.before_and, ih, List.all_cons]
def words1 : List Jvm.Cond := Jvm.Cond.code x code maxLocals ret :: tables_1
/-- a 'code' word, met by the world's own term for the bytes: nothing is compared byte by byte -/
theorem code_word {y : MethodName} {bytes : ByteArray} {mx : Nat} {rt : Option FieldType} {a : Array Value} {s : State} {m : MethodId} {meth : Method} {c : Code} (h1 : s.methodNamed? y = some m) (h2 : s.vm.method? m = some meth) (h3 : meth.code = some c) (h4 : c.code = bytes)
    (h5 : (c.maxLocals == mx && c.exceptionTable.isEmpty && decide (c.maxStack ≤ mostOperands) && decide (meth.sig.returnType = rt) && !meth.locks && decide (parseMethodDescriptor y.desc = some meth.sig)) = true) : (Jvm.Cond.code y bytes mx rt).before a s = true := by
  simp only [Bool.and_eq_true, beq_iff_eq, Bool.not_eq_true', decide_eq_true_eq] at h5
  obtain ⟨⟨⟨⟨⟨g1, g2⟩, g3⟩, g4⟩, g5⟩, g6⟩ := h5
  simp [Cond.before, Cond.holds, Cond.value, h1, h2, h3, h4, g1, g2, g3, g4, g5, g6]
def isCode : Jvm.Cond → Bool
  | .code _ _ _ _ => true
  | _ => false
theorem all_split {L : List Jvm.Cond} {P : Jvm.Cond → Bool} (h1 : L.all (fun c => isCode c || P c) = true) (h2 : ∀ c ∈ L.filter isCode, P c = true) : L.all P = true := by
  refine List.all_eq_true.mpr fun c hc => ?_
  have h := List.all_eq_true.mp h1 c hc
  rcases Bool.eq_false_or_eq_true (isCode c) with hi | hi
  · exact h2 c (List.mem_filter.mpr ⟨hc, hi⟩)
  · simpa [hi] using h
set_option maxRecDepth 65536 in
theorem w_c0 : (Jvm.Cond.code x code maxLocals ret).before args0 about1 = true := code_word (m := ⟨1, 1⟩) (meth := k1m1) (c := k1c1) (by decide +kernel) rfl rfl rfl (by decide +kernel)
set_option maxRecDepth 65536 in
theorem w_c1 : (Jvm.Cond.code ({ cls := "com/example/keyturn/keyturn/format/EndOfCentralDirectory", name := "<init>", desc := "(JIJJI)V" } : Jvm.MethodName) prog_18_method_1_code (9 : Nat) (Option.none : Option Jvm.ClassFile.FieldType)).before args0 about1 = true := code_word (m := ⟨2, 0⟩) (meth := k2m0) (c := k2c0) (by decide +kernel) rfl rfl rfl (by decide +kernel)
set_option maxRecDepth 65536 in
theorem w_c2 : (Jvm.Cond.code ({ cls := "java/lang/Object", name := "<init>", desc := "()V" } : Jvm.MethodName) object_method_1_code (1 : Nat) (Option.none : Option Jvm.ClassFile.FieldType)).before args0 about1 = true := code_word (m := ⟨0, 0⟩) (meth := k0m0) (c := k0c0) (by decide +kernel) rfl rfl rfl (by decide +kernel)
set_option maxRecDepth 65536 in
theorem w_c3 : (Jvm.Cond.code ({ cls := "com/example/keyturn/keyturn/format/EndOfCentralDirectory", name := "equals", desc := "(Ljava/lang/Object;)Z" } : Jvm.MethodName) prog_18_method_12_code (3 : Nat) (Option.some Jvm.ClassFile.FieldType.boolean)).before args0 about1 = true := code_word (m := ⟨2, 1⟩) (meth := k2m1) (c := k2c1) (by decide +kernel) rfl rfl rfl (by decide +kernel)
set_option maxRecDepth 65536 in
theorem w_c4 : (Jvm.Cond.code ({ cls := "java/lang/Integer", name := "valueOf", desc := "(I)Ljava/lang/Integer;" } : Jvm.MethodName) jdk_33_method_22_code (1 : Nat) (Option.some (Jvm.ClassFile.FieldType.object "java/lang/Integer"))).before args0 about1 = true := code_word (m := ⟨8, 0⟩) (meth := k8m0) (c := k8c0) (by decide +kernel) rfl rfl rfl (by decide +kernel)
set_option maxRecDepth 65536 in
theorem w_c5 : (Jvm.Cond.code ({ cls := "java/lang/Integer", name := "<init>", desc := "(I)V" } : Jvm.MethodName) jdk_33_method_23_code (2 : Nat) (Option.none : Option Jvm.ClassFile.FieldType)).before args0 about1 = true := code_word (m := ⟨8, 1⟩) (meth := k8m1) (c := k8c1) (by decide +kernel) rfl rfl rfl (by decide +kernel)
set_option maxRecDepth 65536 in
theorem w_c6 : (Jvm.Cond.code ({ cls := "java/lang/Number", name := "<init>", desc := "()V" } : Jvm.MethodName) jdk_18_method_1_code (1 : Nat) (Option.none : Option Jvm.ClassFile.FieldType)).before args0 about1 = true := code_word (m := ⟨4, 0⟩) (meth := k4m0) (c := k4c0) (by decide +kernel) rfl rfl rfl (by decide +kernel)
def codes1 : List Jvm.Cond := [Jvm.Cond.code x code maxLocals ret, Jvm.Cond.code ({ cls := "com/example/keyturn/keyturn/format/EndOfCentralDirectory", name := "<init>", desc := "(JIJJI)V" } : Jvm.MethodName) prog_18_method_1_code (9 : Nat) (Option.none : Option Jvm.ClassFile.FieldType), Jvm.Cond.code ({ cls := "java/lang/Object", name := "<init>", desc := "()V" } : Jvm.MethodName) object_method_1_code (1 : Nat) (Option.none : Option Jvm.ClassFile.FieldType), Jvm.Cond.code ({ cls := "com/example/keyturn/keyturn/format/EndOfCentralDirectory", name := "equals", desc := "(Ljava/lang/Object;)Z" } : Jvm.MethodName) prog_18_method_12_code (3 : Nat) (Option.some Jvm.ClassFile.FieldType.boolean), Jvm.Cond.code ({ cls := "java/lang/Integer", name := "valueOf", desc := "(I)Ljava/lang/Integer;" } : Jvm.MethodName) jdk_33_method_22_code (1 : Nat) (Option.some (Jvm.ClassFile.FieldType.object "java/lang/Integer")), Jvm.Cond.code ({ cls := "java/lang/Integer", name := "<init>", desc := "(I)V" } : Jvm.MethodName) jdk_33_method_23_code (2 : Nat) (Option.none : Option Jvm.ClassFile.FieldType), Jvm.Cond.code ({ cls := "java/lang/Number", name := "<init>", desc := "()V" } : Jvm.MethodName) jdk_18_method_1_code (1 : Nat) (Option.none : Option Jvm.ClassFile.FieldType)]
set_option maxRecDepth 65536 in
theorem codes_eq : words1.filter isCode = codes1 := rfl
theorem w_codes : ∀ c ∈ words1.filter isCode, c.before args0 about1 = true := by
  rw [codes_eq]
  intro c hc
  simp only [codes1, List.mem_cons, List.not_mem_nil, or_false] at hc
  rcases hc with rfl | rfl | rfl | rfl | rfl | rfl | rfl
  · exact w_c0
  · exact w_c1
  · exact w_c2
  · exact w_c3
  · exact w_c4
  · exact w_c5
  · exact w_c6
set_option maxRecDepth 65536 in
theorem w_t1 : (words1.take 24).all (fun c => isCode c || c.before args0 about1) = true := by decide +kernel
set_option maxRecDepth 65536 in
theorem w_t2 : ((words1.drop 24).take 24).all (fun c => isCode c || c.before args0 about1) = true := by decide +kernel
set_option maxRecDepth 65536 in
theorem w_t3 : ((words1.drop 24).drop 24).all (fun c => isCode c || c.before args0 about1) = true := by decide +kernel
theorem w_tables : (allAtoms (Jvm.Cond.code x code maxLocals ret :: tables_1)).before args0 about1 = true := by
  rw [allAtoms_all]
  show words1.all (fun c => c.before args0 about1) = true
  refine all_split ?_ w_codes
  rw [← List.take_append_drop 24 words1, List.all_append, w_t1, ← List.take_append_drop 24 (words1.drop 24), List.all_append, w_t2, w_t3]
  rfl
set_option maxRecDepth 65536 in
theorem w_rest : rest_1_c.before args0 about1 = true := by decide +kernel
set_option maxRecDepth 65536 in
theorem w_case : (Jvm.Cond.and given_1 narrow_1).before args0 about1 = true := by decide +kernel
theorem w_applies : (headSpec (Jvm.Cond.code x code maxLocals ret :: tables_1) room_1).applies x e0.platform about1 = true :=
  (Spec.applies_iff w_frames).mpr ⟨w_running, w_runnable, w_alone, w_named, w_hears, w_ripe, w_room, w_tables⟩
theorem atStart : AtStart classFile x code maxLocals ret World_1 tables_1 room_1 Calls_1 rest_1 Pre_1 launch0 p0 e0 about1 theMethod args0 below0 :=
  ⟨lists_1, trivial, launch0.admits_env _ _ _, launch0.least_env, fairChoices_fair.cas, fairChoices_fair.clock, w_frames, w_args, w_heap, w_applies, trivial, w_rest, w_case⟩
end start1
theorem witness_1 : WitnessClaimed_1 := ⟨start1.p0, start1.e0, start1.about1, start1.theMethod, start1.args0, start1.below0, start1.atStart⟩
end Jvm.Pilot.@@N@@
