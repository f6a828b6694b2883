import JvmDerived
import JvmDerived.Pilot.@@N@@Statement
import JvmDerived.Pilot.@@N@@Code
set_option linter.unusedVariables false
set_option linter.unusedSimpArgs false
namespace Jvm.RoadKit
open Sem ClassFile Op Lib Jvm.Stand Jvm.Free Jvm.LawKit
section New
variable {p : Program} {l : Launch} {e : Env} {R : Room} {s : State} {m : MethodId} {args : Array Value} {below : List Frame} {meth : Method} {c : Code} {T : State} {locs : List Loc} {cells slots : Nat}
theorem retI (X : Stand p l e R s m args below meth c T locs cells slots) (hx : p.tables.exec = Jvm.exec) {pc : Nat} {Ls : Array Slot} {z : Int32} {rest : List Value} (hret : meth.sig.returnType = some .int) (hd : decode c.code pc = .ok (.ireturn, 1)) {fs : List Frame}
    (hl : ∀ (f : JFrame) (acts : List Action), f.method = m → f.locked = none → f.entered = [] → (doReturn e (T.setTop f) acts (some (.int z))).1 = T.setFrames fs) : Steps p.tables e below (T.setTop (mkF m pc Ls (.int z :: rest))) (T.setFrames fs) := by
  have hm' : T.vm.method? m = some meth := X.method'
  have hn : narrow .int (.int z) = .int z := rfl
  show Steps p.tables e below (T.setTop { method := m, pc := pc, locals := Ls, stack := _ :: rest, locked := none }) _
  jvm_step X.here [X.here.top, hx, hd, hm', hret, hn]
  first | (intro acts; rw [hl _ acts rfl rfl rfl]) | rw [hl _ _ rfl rfl rfl]
  exact Steps.refl _
end New
end Jvm.RoadKit
namespace Jvm.Pilot.@@N@@
open Jvm Jvm.ClassFile Sem Op Lib Jvm.Free Jvm.Stand Jvm.LawKit Jvm.RoadKit Bundle Jvm.Pilot.@@N@@.Jvm.D
theorem own_retb (z : Int32) (h : z = 0 ∨ z = 1) : narrow .boolean (.int z) = .int z := by rcases h with rfl | rfl <;> rfl
theorem own_rem (x n : Int32) (hn : 0 < n.toInt) : 0 ≤ ((x &&& (2147483647 : Int32)) % n).toInt ∧ ((x &&& (2147483647 : Int32)) % n).toInt < n.toInt := by
  have h1 := c_mask x (2147483647 : Int32) 31 (by decide) (by decide)
  have h2 := (c_iremV (x &&& (2147483647 : Int32)) n).1 (by omega) hn
  exact ⟨h2.1, h2.2.1⟩
theorem own_of3 {k : Int32} (h : 0 ≤ k.toInt ∧ k.toInt < 3) : k = 0 ∨ k = 1 ∨ k = 2 := by
  have h2 : k.toInt = (0 : Int32).toInt ∨ k.toInt = (1 : Int32).toInt ∨ k.toInt = (2 : Int32).toInt := by simp; omega
  simpa only [Int32.toInt_inj] using h2
theorem own_of5 {k : Int32} (h : 0 ≤ k.toInt ∧ k.toInt < 5) : k = 0 ∨ k = 1 ∨ k = 2 ∨ k = 3 ∨ k = 4 := by
  have h2 : k.toInt = (0 : Int32).toInt ∨ k.toInt = (1 : Int32).toInt ∨ k.toInt = (2 : Int32).toInt ∨ k.toInt = (3 : Int32).toInt ∨ k.toInt = (4 : Int32).toInt := by simp; omega
  simpa only [Int32.toInt_inj] using h2
theorem own_of6 {k : Int32} (h : 0 ≤ k.toInt ∧ k.toInt < 6) : k = 0 ∨ k = 1 ∨ k = 2 ∨ k = 3 ∨ k = 4 ∨ k = 5 := by
  have h2 : k.toInt = (0 : Int32).toInt ∨ k.toInt = (1 : Int32).toInt ∨ k.toInt = (2 : Int32).toInt ∨ k.toInt = (3 : Int32).toInt ∨ k.toInt = (4 : Int32).toInt ∨ k.toInt = (5 : Int32).toInt := by simp; omega
  simpa only [Int32.toInt_inj] using h2
theorem own_eqI {args : Array Value} {s : State} {t : Term} {k : Int32} (h : (Jvm.Cond.eq t (.int k)).value args s none s [] = some true) : t.eval args s none [] s = some (.int k) := by
  obtain ⟨u, v, hu, hv, k1, k2⟩ := cmp_v (Or.inl h)
  have hv2 : v = .int k := Option.some.inj (hv.symm.trans (Term.int_eval k))
  subst hv2
  cases u <;> simp [Cond.value, hu, hv] at h
  subst h; exact hu
theorem own_fld {args : Array Value} {s : State} {t : Term} {a : Addr} {C n d : String} {k : Int32} (ev : t.eval args s none [] s = some (.ref a)) (h : (Jvm.Cond.eq (.field t C n d) (.int k)).value args s none s [] = some true) : Fld s s.heap a C n d (.int k) :=
  Fld.start ((fld_at ev).symm.trans (own_eqI h))
theorem own_len {args : Array Value} {s : State} {t : Term} {a : Addr} {cl : Cell} {ty : FieldType} {k : Int32} (ev : t.eval args s none [] s = some (.ref a)) (A : Arr s s.heap a cl ty) (h : (Jvm.Cond.eq (.length t) (.int k)).value args s none s [] = some true) : cl.slots.size.toInt32 = k := by
  obtain ⟨b, c, e1, e2, e3⟩ := Term.length_spec (own_eqI h)
  cases ev.symm.trans e1
  cases (A.fin (Vm.Alike.refl _)).symm.trans e2
  exact (Value.int.inj e3).symm
theorem own_lenlt {args : Array Value} {s : State} {t : Term} {a : Addr} {cl : Cell} {ty : FieldType} {k : Int32} (ev : t.eval args s none [] s = some (.ref a)) (A : Arr s s.heap a cl ty) (h : (Jvm.Cond.eq (.length t) (.int k)).value args s none s [] = some true) : cl.slots.size < 2 ^ 31 := by
  have h1 := own_eqI h
  have h2 := A.fin (Vm.Alike.refl _)
  apply Classical.byContradiction
  intro h3
  simp [Term.eval, ev, h2, h3] at h1
theorem own_elem {args : Array Value} {s : State} {t u : Term} {a b : Addr} {cl : Cell} {ty : FieldType} {j : Int32} (ev : t.eval args s none [] s = some (.ref a)) (A : Arr s s.heap a cl ty) (hu : u.eval args s none [] s = some (.ref b)) (h : (Jvm.Cond.eq (.elem t (.int j)) u).value args s none s [] = some true) : cl.slots[j.toNatClampNeg]? = some (.ref b) := by
  obtain ⟨x, y, hx, hy, -, -⟩ := cmp_v (Or.inl h)
  cases hu.symm.trans hy
  have h2 := (elem_in hx ev (Term.int_eval j) A.1).2
  cases x <;> simp [Cond.value, hx, hy] at h
  subst h; exact h2
theorem own_fldN {args : Array Value} {s : State} {t : Term} {a : Addr} {C n d : String} (ev : t.eval args s none [] s = some (.ref a)) (h : (Jvm.Cond.eq (.field t C n d) .null).value args s none s [] = some true) : Fld s s.heap a C n d .null :=
  Fld.start ((fld_at ev).symm.trans (null_v h))
def QR (Z : State) (r : Addr) (h0 : Heap) (n0 : Nat) (v : Option Value) (h : Heap) (L : List Loc) : Prop := v = some (.ref r) ∧ Fr n0 L ∧ h = h0
def QI (Z : State) (r : Int32) (h0 : Heap) (n0 : Nat) (v : Option Value) (h : Heap) (L : List Loc) : Prop := v = some (.int r) ∧ Fr n0 L ∧ h = h0
def own_pick (i : Int32) (b0 b1 b2 b3 b4 : Addr) : Addr := if i = 0 then b0 else if i = 1 then b1 else if i = 2 then b2 else if i = 3 then b3 else b4
def own_hf (o s : Int32) : Int32 := if o = 0 then (if s < 0 then 1 else 0) else if o = 1 then (if 0 < s then 0 else 1) else if o = 2 then (if s = 0 then 1 else 0) else if o = 3 then (if s < 0 then 0 else 1) else (if 0 < s then 1 else 0)
theorem d2_0 : decode jdk_37_method_2_code 0 = .ok (.aload_n 0, 1) := by decide +kernel
theorem d2_1 : decode jdk_37_method_2_code 1 = .ok (.getfield 7, 3) := by decide +kernel
theorem d2_4 : decode jdk_37_method_2_code 4 = .ok (.ireturn, 1) := by decide +kernel
theorem pn_rmO : plainName "java/lang/Enum" = true := by first | (simp [plainName, overriddenIn]; done) | decide +kernel
theorem ef_rmO (m : MethodId) (a1 : Addr) : entryFrame m #[(.ref a1)] 1 = mkF m 0 #[.val (.ref a1)] [] := by first | (simp [entryFrame, mkF, argsToLocals, Value.category]; done) | rfl
set_option maxRecDepth 65536 in
set_option maxHeartbeats 40000000 in
theorem rmO (l : Launch) (Z : State) (a0 : Array Value) (hw : ∀ d ∈ tables_1, d.before a0 Z = true) (ws : List Jvm.Cond) (a1 : Addr) (od : Int32) (h0 : Heap) (n0 : Nat) (Z0 : n0 ≤ h0.size) (F_a1 : Fld Z h0 a1 "java/lang/Enum" "ordinal" "I" (.int od)) :
    MetFree l (⟨"java/lang/Enum", "ordinal", "()I"⟩ : MethodName) (head1 (Jvm.Cond.code (⟨"java/lang/Enum", "ordinal", "()I"⟩ : MethodName) jdk_37_method_2_code 1 (some .int) :: ws) ({ frames := 0, cells := 0, slots := 0, locals := 0 } : Room)) (fun a U => a = #[(.ref a1)] ∧ Z.Warmed39 U.vm ∧ U.heap = h0) (fun _ _ _ _ _ => True) (fun _ U o U' => ∃ v L, o = .returned v ∧ QI Z od h0 n0 v U'.heap L ∧ FrameEnd U o U' L ({ frames := 0, cells := 0, slots := 0, locals := 0 } : Room).cells ({ frames := 0, cells := 0, slots := 0, locals := 0 } : Room).slots) := by
  refine MetFree.of_bodySF (plainFor_of_name pn_rmO) hisR ?_
  intro p e s m args below meth c s₁ Bd hml0 hP hK
  obtain ⟨rfl, hZ, hh⟩ := hP
  have hx := Bd.exec
  have hby := Bd.bytes
  have hml : c.maxLocals = 1 := hml0
  have hown : s.vm.findClass "java/lang/Enum" = some m.cls := findClass_of_methodNamed Bd.named
  have hnm := (name_of_methodNamed Bd.named Bd.method).1
  have X0 : Stand p l e ({ frames := 0, cells := 0, slots := 0, locals := 0 } : Room) s m #[(.ref a1)] below meth c s₁ [] 0 0 := Stand.of_body Bd
  have e0 : s₁.heap = h0 := by rw [← hh, Bd.state]; rfl
  have N0 := Fr.nil n0
  have pre0 : ∀ tt, Steps p.tables e below (s₁.setTop (mkF m 0 #[.val (.ref a1)] [])) tt → Steps p.tables e below (s₁.setTop (entryFrame m #[(.ref a1)] 1)) tt := fun tt kt => castTop (ef_rmO m a1) kt
  obtain ⟨T1, X1, e1, st1⟩ := getF X0 hx hZ hown (host := "") (Or.inl (hw _ (List.mem_of_getElem? (i := 28) rfl))) Via.refl e0 F_a1 (g := (mkF m 1 #[.val (.ref a1)] [(.ref a1)])) rfl rfl (hb hby d2_1)
  have pre2 : ∀ tt, Steps p.tables e below (T1.setTop (mkF m 4 #[.val (.ref a1)] [(.int od)])) tt → Steps p.tables e below (s₁.setTop (entryFrame m #[(.ref a1)] 1)) tt := by
    intro tt kt
    refine pre0 tt ?_
    show Steps p.tables e below (s₁.setTop (mkF m 0 #[.val (.ref a1)] [])) _
    refine XS.aloadN X0.here hx rfl (hb hby d2_0) rfl rfl ?_
    show Steps p.tables e below (s₁.setTop (mkF m 1 #[.val (.ref a1)] [(.ref a1)])) _
    refine st1 _ ?_
    exact kt
  obtain ⟨fs, hr, hrun, hended, hW, hsame⟩ := X1.leave (v := some (.int od)) (fun h => by rw [Bd.returns] at h; cases h)
  refine ⟨_, _, pre2 _ ?_, hrun, hended, _, _, rfl, ?_, ⟨_, rfl⟩, hW, hsame.mono (by decide) (by decide)⟩
  · show Steps p.tables e below (T1.setTop (mkF m 4 #[.val (.ref a1)] [(.int od)])) _
    exact retI X1 hx Bd.returns (hb hby d2_4) hr
  · show QI Z od h0 n0 _ T1.heap _
    rw [e1]
    exact ⟨rfl, N0, rfl⟩
theorem d1_0 : decode prog_36_method_5_code 0 = .ok (.aload_n 0, 1) := by decide +kernel
theorem d1_1 : decode prog_36_method_5_code 1 = .ok (.invokevirtual 42, 3) := by decide +kernel
theorem d1_4 : decode prog_36_method_5_code 4 = .ok (.tableswitch 36 0 4 #[46, 58, 70, 82, 94], 36) := by decide +kernel
theorem d1_50 : decode prog_36_method_5_code 50 = .ok (.iload_n 1, 1) := by decide +kernel
theorem d1_51 : decode prog_36_method_5_code 51 = .ok (.ifCond .ge 7, 3) := by decide +kernel
theorem d1_54 : decode prog_36_method_5_code 54 = .ok (.iconst 1, 1) := by decide +kernel
theorem d1_55 : decode prog_36_method_5_code 55 = .ok (.goto 52, 3) := by decide +kernel
theorem d1_58 : decode prog_36_method_5_code 58 = .ok (.iconst 0, 1) := by decide +kernel
theorem d1_59 : decode prog_36_method_5_code 59 = .ok (.goto 48, 3) := by decide +kernel
theorem d1_62 : decode prog_36_method_5_code 62 = .ok (.iload_n 1, 1) := by decide +kernel
theorem d1_63 : decode prog_36_method_5_code 63 = .ok (.ifCond .gt 7, 3) := by decide +kernel
theorem d1_66 : decode prog_36_method_5_code 66 = .ok (.iconst 1, 1) := by decide +kernel
theorem d1_67 : decode prog_36_method_5_code 67 = .ok (.goto 40, 3) := by decide +kernel
theorem d1_70 : decode prog_36_method_5_code 70 = .ok (.iconst 0, 1) := by decide +kernel
theorem d1_71 : decode prog_36_method_5_code 71 = .ok (.goto 36, 3) := by decide +kernel
theorem d1_74 : decode prog_36_method_5_code 74 = .ok (.iload_n 1, 1) := by decide +kernel
theorem d1_75 : decode prog_36_method_5_code 75 = .ok (.ifCond .ne 7, 3) := by decide +kernel
theorem d1_78 : decode prog_36_method_5_code 78 = .ok (.iconst 1, 1) := by decide +kernel
theorem d1_79 : decode prog_36_method_5_code 79 = .ok (.goto 28, 3) := by decide +kernel
theorem d1_82 : decode prog_36_method_5_code 82 = .ok (.iconst 0, 1) := by decide +kernel
theorem d1_83 : decode prog_36_method_5_code 83 = .ok (.goto 24, 3) := by decide +kernel
theorem d1_86 : decode prog_36_method_5_code 86 = .ok (.iload_n 1, 1) := by decide +kernel
theorem d1_87 : decode prog_36_method_5_code 87 = .ok (.ifCond .lt 7, 3) := by decide +kernel
theorem d1_90 : decode prog_36_method_5_code 90 = .ok (.iconst 1, 1) := by decide +kernel
theorem d1_91 : decode prog_36_method_5_code 91 = .ok (.goto 16, 3) := by decide +kernel
theorem d1_94 : decode prog_36_method_5_code 94 = .ok (.iconst 0, 1) := by decide +kernel
theorem d1_95 : decode prog_36_method_5_code 95 = .ok (.goto 12, 3) := by decide +kernel
theorem d1_98 : decode prog_36_method_5_code 98 = .ok (.iload_n 1, 1) := by decide +kernel
theorem d1_99 : decode prog_36_method_5_code 99 = .ok (.ifCond .le 7, 3) := by decide +kernel
theorem d1_102 : decode prog_36_method_5_code 102 = .ok (.iconst 1, 1) := by decide +kernel
theorem d1_103 : decode prog_36_method_5_code 103 = .ok (.goto 4, 3) := by decide +kernel
theorem d1_106 : decode prog_36_method_5_code 106 = .ok (.iconst 0, 1) := by decide +kernel
theorem d1_107 : decode prog_36_method_5_code 107 = .ok (.ireturn, 1) := by decide +kernel
theorem pn_rmH : plainName "com/example/prudent_stability/prudentstability/Relation" = true := by first | (simp [plainName, overriddenIn]; done) | decide +kernel
theorem pd_rmH_0 : parseMethodDescriptor "()I" = some ⟨[], some .int⟩ := by decide +kernel
theorem ef_rmH (m : MethodId) (a1 : Addr) (s1 : Int32) : entryFrame m #[(.ref a1), (.int s1)] 2 = mkF m 0 #[.val (.ref a1), .val (.int s1)] [] := by first | (simp [entryFrame, mkF, argsToLocals, Value.category]; done) | rfl
set_option maxRecDepth 65536 in
set_option maxHeartbeats 40000000 in
theorem rmH (l : Launch) (Z : State) (a0 : Array Value) (hw : ∀ d ∈ tables_1, d.before a0 Z = true) (ws : List Jvm.Cond) (a1 : Addr) (s1 od r : Int32) (h0 : Heap) (n0 : Nat) (Z0 : n0 ≤ h0.size) (F_a1 : Fld Z h0 a1 "java/lang/Enum" "ordinal" "I" (.int od)) (E_a1 : Exa Z h0 a1 "com/example/prudent_stability/prudentstability/Relation") (ro : od = 0 ∨ od = 1 ∨ od = 2 ∨ od = 3 ∨ od = 4) (hr0 : r = own_hf od s1) :
    MetFree l (⟨"com/example/prudent_stability/prudentstability/Relation", "holdsFor", "(I)Z"⟩ : MethodName) (head1 (Jvm.Cond.code (⟨"com/example/prudent_stability/prudentstability/Relation", "holdsFor", "(I)Z"⟩ : MethodName) prog_36_method_5_code 2 (some .boolean) :: ws) ({ frames := 1, cells := 0, slots := 0, locals := 12 } : Room)) (fun a U => a = #[(.ref a1), (.int s1)] ∧ Z.Warmed39 U.vm ∧ U.heap = h0) (fun _ _ _ _ _ => True) (fun _ U o U' => ∃ v L, o = .returned v ∧ QI Z r h0 n0 v U'.heap L ∧ FrameEnd U o U' L ({ frames := 1, cells := 0, slots := 0, locals := 12 } : Room).cells ({ frames := 1, cells := 0, slots := 0, locals := 12 } : Room).slots) := by
  refine MetFree.of_bodySF (plainFor_of_name pn_rmH) hisR ?_
  intro p e s m args below meth c s₁ Bd hml0 hP hK
  obtain ⟨rfl, hZ, hh⟩ := hP
  have hx := Bd.exec
  have hby := Bd.bytes
  have hml : c.maxLocals = 2 := hml0
  have hown : s.vm.findClass "com/example/prudent_stability/prudentstability/Relation" = some m.cls := findClass_of_methodNamed Bd.named
  have hnm := (name_of_methodNamed Bd.named Bd.method).1
  have X0 : Stand p l e ({ frames := 1, cells := 0, slots := 0, locals := 12 } : Room) s m #[(.ref a1), (.int s1)] below meth c s₁ [] 0 0 := Stand.of_body Bd
  have e0 : s₁.heap = h0 := by rw [← hh, Bd.state]; rfl
  have N0 := Fr.nil n0
  have pre0 : ∀ tt, Steps p.tables e below (s₁.setTop (mkF m 0 #[.val (.ref a1), .val (.int s1)] [])) tt → Steps p.tables e below (s₁.setTop (entryFrame m #[(.ref a1), (.int s1)] 2)) tt := fun tt kt => castTop (ef_rmH m a1 s1) kt
  obtain ⟨cq1, kq1, q1a, q1b, q1c⟩ := isOf hZ e0 E_a1
  obtain ⟨_, _, ⟨T1, L1, k1, n1⟩, -, X1, ⟨Lc1, hQ1, l1, y1, z1⟩, st1⟩ := X0.virtualBackUp hx (x := (⟨"com/example/prudent_stability/prudentstability/Relation", "ordinal", "()I"⟩ : MethodName)) (y := (⟨"java/lang/Enum", "ordinal", "()I"⟩ : MethodName)) (owner := "java/lang/Enum") hown (mvT hZ (hw _ (List.mem_of_getElem? (i := 21) rfl))) (mvT hZ (hw _ (List.mem_of_getElem? (i := 22) rfl))) (mvT hZ (hw _ (List.mem_of_getElem? (i := 23) rfl))) (by decide) (mvT hZ (hw _ (List.mem_of_getElem? (i := 25) rfl))) (mvT hZ (hw _ (List.mem_of_getElem? (i := 24) rfl))) (backOf (W := 0) (rmO l Z a0 hw [] a1 od h0 n0 Z0 F_a1) hZ (hw _ (List.mem_of_getElem? (i := 27) rfl)) (hw _ (List.mem_of_getElem? (i := 26) rfl)) (by decide) (by decide)) q1a q1c (g := (mkF m 1 #[.val (.ref a1), .val (.int s1)] [(.ref a1)])) rfl (by rw [hml]; rfl) (Steps.refl _) (argsL := []) (rest := []) (lenOf pd_rmH_0 rfl) rfl (by show 2 * 0 + _ ≤ _; exact Nat.le_of_eq rfl) (hb hby d1_1) (fun _ _ => ⟨rfl, e0, (by decide : 0 + 0 ≤ _), (by decide : 0 + 0 ≤ _)⟩)
  dsimp only [Pt.U, Pt.locs, Pt.cells, Pt.slots] at X1 l1 y1 z1 st1 hQ1
  subst l1 y1 z1
  obtain ⟨rfl, N1q, hE1⟩ := hQ1
  have N1 := Fr.app N0 N1q
  have pre2 : ∀ tt, Steps p.tables e below (T1.setTop (mkF m 4 #[.val (.ref a1), .val (.int s1)] [(.int od)])) tt → Steps p.tables e below (s₁.setTop (entryFrame m #[(.ref a1), (.int s1)] 2)) tt := by
    intro tt kt
    refine pre0 tt ?_
    show Steps p.tables e below (s₁.setTop (mkF m 0 #[.val (.ref a1), .val (.int s1)] [])) _
    refine XS.aloadN X0.here hx rfl (hb hby d1_0) rfl rfl ?_
    show Steps p.tables e below (s₁.setTop (mkF m 1 #[.val (.ref a1), .val (.int s1)] [(.ref a1)])) _
    refine st1.trans ?_
    exact kt
  rcases ro with rfl | rfl | rfl | rfl | rfl
  · have pre3 : ∀ tt, Steps p.tables e below (T1.setTop (mkF m 51 #[.val (.ref a1), .val (.int s1)] [(.int s1)])) tt → Steps p.tables e below (s₁.setTop (entryFrame m #[(.ref a1), (.int s1)] 2)) tt := by
      intro tt kt
      refine pre2 tt ?_
      show Steps p.tables e below (T1.setTop (mkF m 4 #[.val (.ref a1), .val (.int s1)] [(.int (0 : Int32))])) _
      refine XS.tswIn X1.here hx rfl (pc0 := 4) (pc' := 50) rfl (hb hby d1_4) rfl (by decide) (o := 46) (by decide) (by decide) (by decide) ?_
      show Steps p.tables e below (T1.setTop (mkF m 50 #[.val (.ref a1), .val (.int s1)] [])) _
      refine XS.iloadN X1.here hx rfl (hb hby d1_50) rfl ?_
      exact kt
    by_cases c51_4 : s1 < (0 : Int32)
    · have pre5 : ∀ tt, Steps p.tables e below (T1.setTop (mkF m 107 #[.val (.ref a1), .val (.int s1)] [(.int (1 : Int32))])) tt → Steps p.tables e below (s₁.setTop (entryFrame m #[(.ref a1), (.int s1)] 2)) tt := by
        intro tt kt
        refine pre3 tt ?_
        show Steps p.tables e below (T1.setTop (mkF m 51 #[.val (.ref a1), .val (.int s1)] [(.int s1)])) _
        refine XS.ifNo X1.here hx rfl (hb hby d1_51) rfl ((if0 _ _).trans (tlt c51_4).2.1) ?_
        show Steps p.tables e below (T1.setTop (mkF m 54 #[.val (.ref a1), .val (.int s1)] [])) _
        refine XS.iconst X1.here hx rfl (hb hby d1_54) ?_
        show Steps p.tables e below (T1.setTop (mkF m 55 #[.val (.ref a1), .val (.int s1)] [(.int (1 : Int32))])) _
        refine XS.goto X1.here hx rfl (pc0 := 55) (pc' := 107) rfl (hb hby d1_55) (by decide) (by decide) ?_
        exact kt
      obtain ⟨fs, hr, hrun, hended, hW, hsame⟩ := X1.leave (v := some (.int (1 : Int32))) (fun h => by rw [Bd.returns] at h; cases h)
      refine ⟨_, _, pre5 _ ?_, hrun, hended, _, _, rfl, ?_, ⟨_, rfl⟩, hW, hsame.mono (by decide) (by decide)⟩
      · show Steps p.tables e below (T1.setTop (mkF m 107 #[.val (.ref a1), .val (.int s1)] [(.int (1 : Int32))])) _
        exact retN X1 hx (t := .boolean) Bd.returns (by simp) (hb hby d1_107) hr
      · show QI Z r h0 n0 _ T1.heap _
        rw [hE1]
        exact ⟨by rw [hr0]; simp [own_hf, c51_4], N1, rfl⟩
    · have pre6 : ∀ tt, Steps p.tables e below (T1.setTop (mkF m 107 #[.val (.ref a1), .val (.int s1)] [(.int (0 : Int32))])) tt → Steps p.tables e below (s₁.setTop (entryFrame m #[(.ref a1), (.int s1)] 2)) tt := by
        intro tt kt
        refine pre3 tt ?_
        show Steps p.tables e below (T1.setTop (mkF m 51 #[.val (.ref a1), .val (.int s1)] [(.int s1)])) _
        refine XS.ifYes X1.here hx rfl (pc0 := 51) (pc' := 58) rfl (hb hby d1_51) rfl ((if0 _ _).trans (flt c51_4).2.1) (by decide) (by decide) ?_
        show Steps p.tables e below (T1.setTop (mkF m 58 #[.val (.ref a1), .val (.int s1)] [])) _
        refine XS.iconst X1.here hx rfl (hb hby d1_58) ?_
        show Steps p.tables e below (T1.setTop (mkF m 59 #[.val (.ref a1), .val (.int s1)] [(.int (0 : Int32))])) _
        refine XS.goto X1.here hx rfl (pc0 := 59) (pc' := 107) rfl (hb hby d1_59) (by decide) (by decide) ?_
        exact kt
      obtain ⟨fs, hr, hrun, hended, hW, hsame⟩ := X1.leave (v := some (.int (0 : Int32))) (fun h => by rw [Bd.returns] at h; cases h)
      refine ⟨_, _, pre6 _ ?_, hrun, hended, _, _, rfl, ?_, ⟨_, rfl⟩, hW, hsame.mono (by decide) (by decide)⟩
      · show Steps p.tables e below (T1.setTop (mkF m 107 #[.val (.ref a1), .val (.int s1)] [(.int (0 : Int32))])) _
        exact retN X1 hx (t := .boolean) Bd.returns (by simp) (hb hby d1_107) hr
      · show QI Z r h0 n0 _ T1.heap _
        rw [hE1]
        exact ⟨by rw [hr0]; simp [own_hf, c51_4], N1, rfl⟩
  · have pre7 : ∀ tt, Steps p.tables e below (T1.setTop (mkF m 63 #[.val (.ref a1), .val (.int s1)] [(.int s1)])) tt → Steps p.tables e below (s₁.setTop (entryFrame m #[(.ref a1), (.int s1)] 2)) tt := by
      intro tt kt
      refine pre2 tt ?_
      show Steps p.tables e below (T1.setTop (mkF m 4 #[.val (.ref a1), .val (.int s1)] [(.int (1 : Int32))])) _
      refine XS.tswIn X1.here hx rfl (pc0 := 4) (pc' := 62) rfl (hb hby d1_4) rfl (by decide) (o := 58) (by decide) (by decide) (by decide) ?_
      show Steps p.tables e below (T1.setTop (mkF m 62 #[.val (.ref a1), .val (.int s1)] [])) _
      refine XS.iloadN X1.here hx rfl (hb hby d1_62) rfl ?_
      exact kt
    by_cases c63_8 : (0 : Int32) < s1
    · have pre9 : ∀ tt, Steps p.tables e below (T1.setTop (mkF m 107 #[.val (.ref a1), .val (.int s1)] [(.int (0 : Int32))])) tt → Steps p.tables e below (s₁.setTop (entryFrame m #[(.ref a1), (.int s1)] 2)) tt := by
        intro tt kt
        refine pre7 tt ?_
        show Steps p.tables e below (T1.setTop (mkF m 63 #[.val (.ref a1), .val (.int s1)] [(.int s1)])) _
        refine XS.ifYes X1.here hx rfl (pc0 := 63) (pc' := 70) rfl (hb hby d1_63) rfl ((if0 _ _).trans (tlt c63_8).2.2.1) (by decide) (by decide) ?_
        show Steps p.tables e below (T1.setTop (mkF m 70 #[.val (.ref a1), .val (.int s1)] [])) _
        refine XS.iconst X1.here hx rfl (hb hby d1_70) ?_
        show Steps p.tables e below (T1.setTop (mkF m 71 #[.val (.ref a1), .val (.int s1)] [(.int (0 : Int32))])) _
        refine XS.goto X1.here hx rfl (pc0 := 71) (pc' := 107) rfl (hb hby d1_71) (by decide) (by decide) ?_
        exact kt
      obtain ⟨fs, hr, hrun, hended, hW, hsame⟩ := X1.leave (v := some (.int (0 : Int32))) (fun h => by rw [Bd.returns] at h; cases h)
      refine ⟨_, _, pre9 _ ?_, hrun, hended, _, _, rfl, ?_, ⟨_, rfl⟩, hW, hsame.mono (by decide) (by decide)⟩
      · show Steps p.tables e below (T1.setTop (mkF m 107 #[.val (.ref a1), .val (.int s1)] [(.int (0 : Int32))])) _
        exact retN X1 hx (t := .boolean) Bd.returns (by simp) (hb hby d1_107) hr
      · show QI Z r h0 n0 _ T1.heap _
        rw [hE1]
        exact ⟨by rw [hr0]; simp [own_hf, c63_8], N1, rfl⟩
    · have pre10 : ∀ tt, Steps p.tables e below (T1.setTop (mkF m 107 #[.val (.ref a1), .val (.int s1)] [(.int (1 : Int32))])) tt → Steps p.tables e below (s₁.setTop (entryFrame m #[(.ref a1), (.int s1)] 2)) tt := by
        intro tt kt
        refine pre7 tt ?_
        show Steps p.tables e below (T1.setTop (mkF m 63 #[.val (.ref a1), .val (.int s1)] [(.int s1)])) _
        refine XS.ifNo X1.here hx rfl (hb hby d1_63) rfl ((if0 _ _).trans (flt c63_8).2.2.1) ?_
        show Steps p.tables e below (T1.setTop (mkF m 66 #[.val (.ref a1), .val (.int s1)] [])) _
        refine XS.iconst X1.here hx rfl (hb hby d1_66) ?_
        show Steps p.tables e below (T1.setTop (mkF m 67 #[.val (.ref a1), .val (.int s1)] [(.int (1 : Int32))])) _
        refine XS.goto X1.here hx rfl (pc0 := 67) (pc' := 107) rfl (hb hby d1_67) (by decide) (by decide) ?_
        exact kt
      obtain ⟨fs, hr, hrun, hended, hW, hsame⟩ := X1.leave (v := some (.int (1 : Int32))) (fun h => by rw [Bd.returns] at h; cases h)
      refine ⟨_, _, pre10 _ ?_, hrun, hended, _, _, rfl, ?_, ⟨_, rfl⟩, hW, hsame.mono (by decide) (by decide)⟩
      · show Steps p.tables e below (T1.setTop (mkF m 107 #[.val (.ref a1), .val (.int s1)] [(.int (1 : Int32))])) _
        exact retN X1 hx (t := .boolean) Bd.returns (by simp) (hb hby d1_107) hr
      · show QI Z r h0 n0 _ T1.heap _
        rw [hE1]
        exact ⟨by rw [hr0]; simp [own_hf, c63_8], N1, rfl⟩
  · have pre11 : ∀ tt, Steps p.tables e below (T1.setTop (mkF m 75 #[.val (.ref a1), .val (.int s1)] [(.int s1)])) tt → Steps p.tables e below (s₁.setTop (entryFrame m #[(.ref a1), (.int s1)] 2)) tt := by
      intro tt kt
      refine pre2 tt ?_
      show Steps p.tables e below (T1.setTop (mkF m 4 #[.val (.ref a1), .val (.int s1)] [(.int (2 : Int32))])) _
      refine XS.tswIn X1.here hx rfl (pc0 := 4) (pc' := 74) rfl (hb hby d1_4) rfl (by decide) (o := 70) (by decide) (by decide) (by decide) ?_
      show Steps p.tables e below (T1.setTop (mkF m 74 #[.val (.ref a1), .val (.int s1)] [])) _
      refine XS.iloadN X1.here hx rfl (hb hby d1_74) rfl ?_
      exact kt
    by_cases c75_12 : s1 = (0 : Int32)
    · have pre13 : ∀ tt, Steps p.tables e below (T1.setTop (mkF m 107 #[.val (.ref a1), .val (.int s1)] [(.int (1 : Int32))])) tt → Steps p.tables e below (s₁.setTop (entryFrame m #[(.ref a1), (.int s1)] 2)) tt := by
        intro tt kt
        refine pre11 tt ?_
        show Steps p.tables e below (T1.setTop (mkF m 75 #[.val (.ref a1), .val (.int s1)] [(.int s1)])) _
        refine XS.ifNo X1.here hx rfl (hb hby d1_75) rfl ((if0 _ _).trans (teq c75_12).2) ?_
        show Steps p.tables e below (T1.setTop (mkF m 78 #[.val (.ref a1), .val (.int s1)] [])) _
        refine XS.iconst X1.here hx rfl (hb hby d1_78) ?_
        show Steps p.tables e below (T1.setTop (mkF m 79 #[.val (.ref a1), .val (.int s1)] [(.int (1 : Int32))])) _
        refine XS.goto X1.here hx rfl (pc0 := 79) (pc' := 107) rfl (hb hby d1_79) (by decide) (by decide) ?_
        exact kt
      obtain ⟨fs, hr, hrun, hended, hW, hsame⟩ := X1.leave (v := some (.int (1 : Int32))) (fun h => by rw [Bd.returns] at h; cases h)
      refine ⟨_, _, pre13 _ ?_, hrun, hended, _, _, rfl, ?_, ⟨_, rfl⟩, hW, hsame.mono (by decide) (by decide)⟩
      · show Steps p.tables e below (T1.setTop (mkF m 107 #[.val (.ref a1), .val (.int s1)] [(.int (1 : Int32))])) _
        exact retN X1 hx (t := .boolean) Bd.returns (by simp) (hb hby d1_107) hr
      · show QI Z r h0 n0 _ T1.heap _
        rw [hE1]
        exact ⟨by rw [hr0]; simp [own_hf, c75_12], N1, rfl⟩
    · have pre14 : ∀ tt, Steps p.tables e below (T1.setTop (mkF m 107 #[.val (.ref a1), .val (.int s1)] [(.int (0 : Int32))])) tt → Steps p.tables e below (s₁.setTop (entryFrame m #[(.ref a1), (.int s1)] 2)) tt := by
        intro tt kt
        refine pre11 tt ?_
        show Steps p.tables e below (T1.setTop (mkF m 75 #[.val (.ref a1), .val (.int s1)] [(.int s1)])) _
        refine XS.ifYes X1.here hx rfl (pc0 := 75) (pc' := 82) rfl (hb hby d1_75) rfl ((if0 _ _).trans (feq c75_12).2) (by decide) (by decide) ?_
        show Steps p.tables e below (T1.setTop (mkF m 82 #[.val (.ref a1), .val (.int s1)] [])) _
        refine XS.iconst X1.here hx rfl (hb hby d1_82) ?_
        show Steps p.tables e below (T1.setTop (mkF m 83 #[.val (.ref a1), .val (.int s1)] [(.int (0 : Int32))])) _
        refine XS.goto X1.here hx rfl (pc0 := 83) (pc' := 107) rfl (hb hby d1_83) (by decide) (by decide) ?_
        exact kt
      obtain ⟨fs, hr, hrun, hended, hW, hsame⟩ := X1.leave (v := some (.int (0 : Int32))) (fun h => by rw [Bd.returns] at h; cases h)
      refine ⟨_, _, pre14 _ ?_, hrun, hended, _, _, rfl, ?_, ⟨_, rfl⟩, hW, hsame.mono (by decide) (by decide)⟩
      · show Steps p.tables e below (T1.setTop (mkF m 107 #[.val (.ref a1), .val (.int s1)] [(.int (0 : Int32))])) _
        exact retN X1 hx (t := .boolean) Bd.returns (by simp) (hb hby d1_107) hr
      · show QI Z r h0 n0 _ T1.heap _
        rw [hE1]
        exact ⟨by rw [hr0]; simp [own_hf, c75_12], N1, rfl⟩
  · have pre15 : ∀ tt, Steps p.tables e below (T1.setTop (mkF m 87 #[.val (.ref a1), .val (.int s1)] [(.int s1)])) tt → Steps p.tables e below (s₁.setTop (entryFrame m #[(.ref a1), (.int s1)] 2)) tt := by
      intro tt kt
      refine pre2 tt ?_
      show Steps p.tables e below (T1.setTop (mkF m 4 #[.val (.ref a1), .val (.int s1)] [(.int (3 : Int32))])) _
      refine XS.tswIn X1.here hx rfl (pc0 := 4) (pc' := 86) rfl (hb hby d1_4) rfl (by decide) (o := 82) (by decide) (by decide) (by decide) ?_
      show Steps p.tables e below (T1.setTop (mkF m 86 #[.val (.ref a1), .val (.int s1)] [])) _
      refine XS.iloadN X1.here hx rfl (hb hby d1_86) rfl ?_
      exact kt
    by_cases c87_16 : s1 < (0 : Int32)
    · have pre17 : ∀ tt, Steps p.tables e below (T1.setTop (mkF m 107 #[.val (.ref a1), .val (.int s1)] [(.int (0 : Int32))])) tt → Steps p.tables e below (s₁.setTop (entryFrame m #[(.ref a1), (.int s1)] 2)) tt := by
        intro tt kt
        refine pre15 tt ?_
        show Steps p.tables e below (T1.setTop (mkF m 87 #[.val (.ref a1), .val (.int s1)] [(.int s1)])) _
        refine XS.ifYes X1.here hx rfl (pc0 := 87) (pc' := 94) rfl (hb hby d1_87) rfl ((if0 _ _).trans (tlt c87_16).1) (by decide) (by decide) ?_
        show Steps p.tables e below (T1.setTop (mkF m 94 #[.val (.ref a1), .val (.int s1)] [])) _
        refine XS.iconst X1.here hx rfl (hb hby d1_94) ?_
        show Steps p.tables e below (T1.setTop (mkF m 95 #[.val (.ref a1), .val (.int s1)] [(.int (0 : Int32))])) _
        refine XS.goto X1.here hx rfl (pc0 := 95) (pc' := 107) rfl (hb hby d1_95) (by decide) (by decide) ?_
        exact kt
      obtain ⟨fs, hr, hrun, hended, hW, hsame⟩ := X1.leave (v := some (.int (0 : Int32))) (fun h => by rw [Bd.returns] at h; cases h)
      refine ⟨_, _, pre17 _ ?_, hrun, hended, _, _, rfl, ?_, ⟨_, rfl⟩, hW, hsame.mono (by decide) (by decide)⟩
      · show Steps p.tables e below (T1.setTop (mkF m 107 #[.val (.ref a1), .val (.int s1)] [(.int (0 : Int32))])) _
        exact retN X1 hx (t := .boolean) Bd.returns (by simp) (hb hby d1_107) hr
      · show QI Z r h0 n0 _ T1.heap _
        rw [hE1]
        exact ⟨by rw [hr0]; simp [own_hf, c87_16], N1, rfl⟩
    · have pre18 : ∀ tt, Steps p.tables e below (T1.setTop (mkF m 107 #[.val (.ref a1), .val (.int s1)] [(.int (1 : Int32))])) tt → Steps p.tables e below (s₁.setTop (entryFrame m #[(.ref a1), (.int s1)] 2)) tt := by
        intro tt kt
        refine pre15 tt ?_
        show Steps p.tables e below (T1.setTop (mkF m 87 #[.val (.ref a1), .val (.int s1)] [(.int s1)])) _
        refine XS.ifNo X1.here hx rfl (hb hby d1_87) rfl ((if0 _ _).trans (flt c87_16).1) ?_
        show Steps p.tables e below (T1.setTop (mkF m 90 #[.val (.ref a1), .val (.int s1)] [])) _
        refine XS.iconst X1.here hx rfl (hb hby d1_90) ?_
        show Steps p.tables e below (T1.setTop (mkF m 91 #[.val (.ref a1), .val (.int s1)] [(.int (1 : Int32))])) _
        refine XS.goto X1.here hx rfl (pc0 := 91) (pc' := 107) rfl (hb hby d1_91) (by decide) (by decide) ?_
        exact kt
      obtain ⟨fs, hr, hrun, hended, hW, hsame⟩ := X1.leave (v := some (.int (1 : Int32))) (fun h => by rw [Bd.returns] at h; cases h)
      refine ⟨_, _, pre18 _ ?_, hrun, hended, _, _, rfl, ?_, ⟨_, rfl⟩, hW, hsame.mono (by decide) (by decide)⟩
      · show Steps p.tables e below (T1.setTop (mkF m 107 #[.val (.ref a1), .val (.int s1)] [(.int (1 : Int32))])) _
        exact retN X1 hx (t := .boolean) Bd.returns (by simp) (hb hby d1_107) hr
      · show QI Z r h0 n0 _ T1.heap _
        rw [hE1]
        exact ⟨by rw [hr0]; simp [own_hf, c87_16], N1, rfl⟩
  · have pre19 : ∀ tt, Steps p.tables e below (T1.setTop (mkF m 99 #[.val (.ref a1), .val (.int s1)] [(.int s1)])) tt → Steps p.tables e below (s₁.setTop (entryFrame m #[(.ref a1), (.int s1)] 2)) tt := by
      intro tt kt
      refine pre2 tt ?_
      show Steps p.tables e below (T1.setTop (mkF m 4 #[.val (.ref a1), .val (.int s1)] [(.int (4 : Int32))])) _
      refine XS.tswIn X1.here hx rfl (pc0 := 4) (pc' := 98) rfl (hb hby d1_4) rfl (by decide) (o := 94) (by decide) (by decide) (by decide) ?_
      show Steps p.tables e below (T1.setTop (mkF m 98 #[.val (.ref a1), .val (.int s1)] [])) _
      refine XS.iloadN X1.here hx rfl (hb hby d1_98) rfl ?_
      exact kt
    by_cases c99_20 : (0 : Int32) < s1
    · have pre21 : ∀ tt, Steps p.tables e below (T1.setTop (mkF m 107 #[.val (.ref a1), .val (.int s1)] [(.int (1 : Int32))])) tt → Steps p.tables e below (s₁.setTop (entryFrame m #[(.ref a1), (.int s1)] 2)) tt := by
        intro tt kt
        refine pre19 tt ?_
        show Steps p.tables e below (T1.setTop (mkF m 99 #[.val (.ref a1), .val (.int s1)] [(.int s1)])) _
        refine XS.ifNo X1.here hx rfl (hb hby d1_99) rfl ((if0 _ _).trans (tlt c99_20).2.2.2) ?_
        show Steps p.tables e below (T1.setTop (mkF m 102 #[.val (.ref a1), .val (.int s1)] [])) _
        refine XS.iconst X1.here hx rfl (hb hby d1_102) ?_
        show Steps p.tables e below (T1.setTop (mkF m 103 #[.val (.ref a1), .val (.int s1)] [(.int (1 : Int32))])) _
        refine XS.goto X1.here hx rfl (pc0 := 103) (pc' := 107) rfl (hb hby d1_103) (by decide) (by decide) ?_
        exact kt
      obtain ⟨fs, hr, hrun, hended, hW, hsame⟩ := X1.leave (v := some (.int (1 : Int32))) (fun h => by rw [Bd.returns] at h; cases h)
      refine ⟨_, _, pre21 _ ?_, hrun, hended, _, _, rfl, ?_, ⟨_, rfl⟩, hW, hsame.mono (by decide) (by decide)⟩
      · show Steps p.tables e below (T1.setTop (mkF m 107 #[.val (.ref a1), .val (.int s1)] [(.int (1 : Int32))])) _
        exact retN X1 hx (t := .boolean) Bd.returns (by simp) (hb hby d1_107) hr
      · show QI Z r h0 n0 _ T1.heap _
        rw [hE1]
        exact ⟨by rw [hr0]; simp [own_hf, c99_20], N1, rfl⟩
    · have pre22 : ∀ tt, Steps p.tables e below (T1.setTop (mkF m 107 #[.val (.ref a1), .val (.int s1)] [(.int (0 : Int32))])) tt → Steps p.tables e below (s₁.setTop (entryFrame m #[(.ref a1), (.int s1)] 2)) tt := by
        intro tt kt
        refine pre19 tt ?_
        show Steps p.tables e below (T1.setTop (mkF m 99 #[.val (.ref a1), .val (.int s1)] [(.int s1)])) _
        refine XS.ifYes X1.here hx rfl (pc0 := 99) (pc' := 106) rfl (hb hby d1_99) rfl ((if0 _ _).trans (flt c99_20).2.2.2) (by decide) (by decide) ?_
        show Steps p.tables e below (T1.setTop (mkF m 106 #[.val (.ref a1), .val (.int s1)] [])) _
        refine XS.iconst X1.here hx rfl (hb hby d1_106) ?_
        exact kt
      obtain ⟨fs, hr, hrun, hended, hW, hsame⟩ := X1.leave (v := some (.int (0 : Int32))) (fun h => by rw [Bd.returns] at h; cases h)
      refine ⟨_, _, pre22 _ ?_, hrun, hended, _, _, rfl, ?_, ⟨_, rfl⟩, hW, hsame.mono (by decide) (by decide)⟩
      · show Steps p.tables e below (T1.setTop (mkF m 107 #[.val (.ref a1), .val (.int s1)] [(.int (0 : Int32))])) _
        exact retN X1 hx (t := .boolean) Bd.returns (by simp) (hb hby d1_107) hr
      · show QI Z r h0 n0 _ T1.heap _
        rw [hE1]
        exact ⟨by rw [hr0]; simp [own_hf, c99_20], N1, rfl⟩
theorem own_adm1 (o d s : Int32) (h : o = 0 ∧ d = 1 ∨ o = 1 ∧ d = 3 ∨ o = 2 ∧ d = 2 ∨ o = 3 ∧ d = 6 ∨ o = 4 ∧ d = 4) (rs : s = -1 ∨ s = 0 ∨ s = 1) (c : ¬ ((d >>> ((s + (1 : Int32)) &&& 31)) &&& (1 : Int32)) = (0 : Int32)) : (1 : Int32) = own_hf o s := by
  rcases h with ⟨rfl, rfl⟩ | ⟨rfl, rfl⟩ | ⟨rfl, rfl⟩ | ⟨rfl, rfl⟩ | ⟨rfl, rfl⟩ <;> rcases rs with rfl | rfl | rfl <;> first | decide | exact absurd (by decide) c
theorem own_adm0 (o d s : Int32) (h : o = 0 ∧ d = 1 ∨ o = 1 ∧ d = 3 ∨ o = 2 ∧ d = 2 ∨ o = 3 ∧ d = 6 ∨ o = 4 ∧ d = 4) (rs : s = -1 ∨ s = 0 ∨ s = 1) (c : ((d >>> ((s + (1 : Int32)) &&& 31)) &&& (1 : Int32)) = (0 : Int32)) : (0 : Int32) = own_hf o s := by
  rcases h with ⟨rfl, rfl⟩ | ⟨rfl, rfl⟩ | ⟨rfl, rfl⟩ | ⟨rfl, rfl⟩ | ⟨rfl, rfl⟩ <;> rcases rs with rfl | rfl | rfl <;> first | decide | exact absurd c (by decide)
def Q0 (Z : State) (h0 : Heap) (n0 : Nat) (v : Option Value) (h : Heap) (L : List Loc) : Prop := v = some (.int (1 : Int32)) ∧ Fr n0 L
theorem pn_rm0 : plainName "com/example/prudent_stability/prudentstability/RelationHoldsForPinLaw" = true := by first | (simp [plainName, overriddenIn]; done) | decide +kernel
theorem pd_rm0_0 : parseMethodDescriptor "(I)Z" = some ⟨[.int], some .boolean⟩ := by decide +kernel
theorem ef_rm0 (m : MethodId) (p1 : Int32) (p2 : Int32) : entryFrame m #[(.int p1), (.int p2)] maxLocals = mkF m 0 #[.val (.int p1), .val (.int p2), .unset, .unset, .unset, .unset, .unset] [] := by first | (simp [entryFrame, mkF, argsToLocals, Value.category, maxLocals]; done) | rfl
set_option maxRecDepth 65536 in
set_option maxHeartbeats 40000000 in
theorem rm0 (l : Launch) (Z : State) (a0 : Array Value) (hw : ∀ d ∈ tables_1, d.before a0 Z = true) (ws : List Jvm.Cond) (p1 p2 : Int32) (w_LESS w_LESS_OR_EQUAL w_EQUAL w_GREATER_OR_EQUAL w_GREATER : Addr) (h0 : Heap) (n0 : Nat) (Z0 : n0 ≤ h0.size) (S_LESS : Sta Z h0 "com/example/prudent_stability/prudentstability/Relation" "LESS" "Lcom/example/prudent_stability/prudentstability/Relation;" (.ref w_LESS)) (S_LESS_OR_EQUAL : Sta Z h0 "com/example/prudent_stability/prudentstability/Relation" "LESS_OR_EQUAL" "Lcom/example/prudent_stability/prudentstability/Relation;" (.ref w_LESS_OR_EQUAL)) (S_EQUAL : Sta Z h0 "com/example/prudent_stability/prudentstability/Relation" "EQUAL" "Lcom/example/prudent_stability/prudentstability/Relation;" (.ref w_EQUAL)) (S_GREATER_OR_EQUAL : Sta Z h0 "com/example/prudent_stability/prudentstability/Relation" "GREATER_OR_EQUAL" "Lcom/example/prudent_stability/prudentstability/Relation;" (.ref w_GREATER_OR_EQUAL)) (S_GREATER : Sta Z h0 "com/example/prudent_stability/prudentstability/Relation" "GREATER" "Lcom/example/prudent_stability/prudentstability/Relation;" (.ref w_GREATER)) (E_LESS : Exa Z h0 w_LESS "com/example/prudent_stability/prudentstability/Relation") (E_LESS_OR_EQUAL : Exa Z h0 w_LESS_OR_EQUAL "com/example/prudent_stability/prudentstability/Relation") (E_EQUAL : Exa Z h0 w_EQUAL "com/example/prudent_stability/prudentstability/Relation") (E_GREATER_OR_EQUAL : Exa Z h0 w_GREATER_OR_EQUAL "com/example/prudent_stability/prudentstability/Relation") (E_GREATER : Exa Z h0 w_GREATER "com/example/prudent_stability/prudentstability/Relation") (F_LESS_ordinal : Fld Z h0 w_LESS "java/lang/Enum" "ordinal" "I" (.int (0 : Int32))) (F_LESS_OR_EQUAL_ordinal : Fld Z h0 w_LESS_OR_EQUAL "java/lang/Enum" "ordinal" "I" (.int (1 : Int32))) (F_EQUAL_ordinal : Fld Z h0 w_EQUAL "java/lang/Enum" "ordinal" "I" (.int (2 : Int32))) (F_GREATER_OR_EQUAL_ordinal : Fld Z h0 w_GREATER_OR_EQUAL "java/lang/Enum" "ordinal" "I" (.int (3 : Int32))) (F_GREATER_ordinal : Fld Z h0 w_GREATER "java/lang/Enum" "ordinal" "I" (.int (4 : Int32))) :
    MetFree l x (head1 (Jvm.Cond.code x code maxLocals ret :: ws) room_1) (fun a U => a = #[(.int p1), (.int p2)] ∧ Z.Warmed39 U.vm ∧ U.heap = h0) (fun _ _ _ _ _ => True) (fun _ U o U' => ∃ v L, o = .returned v ∧ Q0 Z h0 n0 v U'.heap L ∧ FrameEnd U o U' L room_1.cells room_1.slots) := by
  refine MetFree.of_bodySF (plainFor_of_name pn_rm0) hisR ?_
  intro p e s m args below meth c s₁ Bd hml0 hP hK
  obtain ⟨rfl, hZ, hh⟩ := hP
  have hx := Bd.exec
  have hby := Bd.bytes
  have hml : c.maxLocals = 7 := hml0
  have hown : s.vm.findClass "com/example/prudent_stability/prudentstability/RelationHoldsForPinLaw" = some m.cls := findClass_of_methodNamed Bd.named
  have hnm := (name_of_methodNamed Bd.named Bd.method).1
  have X0 : Stand p l e room_1 s m #[(.int p1), (.int p2)] below meth c s₁ [] 0 0 := Stand.of_body Bd
  have e0 : s₁.heap = h0 := by rw [← hh, Bd.state]; rfl
  have N0 := Fr.nil n0
  have pre0 : ∀ tt, Steps p.tables e below (s₁.setTop (mkF m 0 #[.val (.int p1), .val (.int p2), .unset, .unset, .unset, .unset, .unset] [])) tt → Steps p.tables e below (s₁.setTop (entryFrame m #[(.int p1), (.int p2)] maxLocals)) tt := fun tt kt => castTop (ef_rm0 m p1 p2) kt
  obtain ⟨T1, h1, k1, X1, e1, E1, A1, O1, st1⟩ := newR X0 hx hZ hown (hw _ (List.mem_of_getElem? (i := 0) rfl)) (hw _ (List.mem_of_getElem? (i := 1) rfl)) e0 (g := (mkF m 1 #[.val (.int p1), .val (.int p2), .unset, .unset, .unset, .unset, .unset] [(.int (5 : Int32))])) rfl (hb hby at_1) rfl (by decide) (cap := 5) (by decide) (by decide) (by decide) (by decide)
  obtain ⟨b1, g1⟩ : ∃ z, z = h0.size := ⟨_, rfl⟩
  rw [← g1] at A1 st1
  have g_b1 : n0 ≤ b1 := Nat.le_trans Z0 (Nat.le_of_eq g1.symm)
  have hh0_b1 : h0.size ≤ b1 := Nat.le_trans (Nat.le_refl h0.size) (Nat.le_of_eq g1.symm)
  have V_b1 : Arv Z h1 b1 k1 (.object "com/example/prudent_stability/prudentstability/Relation") (5 : Int32) [.null, .null, .null, .null, .null] .null := (Arv.new A1 (by decide)).pad (pad_rep [] .null 5)
  obtain ⟨T2, X2, e2, st2⟩ := getS2 X1 hx hZ hown (host := "") (Or.inl (hw _ (List.mem_of_getElem? (i := 2) rfl))) Via.refl e1 (Sta.ext E1 S_LESS) (g := (mkF m 6 #[.val (.int p1), .val (.int p2), .unset, .unset, .unset, .unset, .unset] [(.int (0 : Int32)), (.ref b1), (.ref b1)])) rfl (hb hby at_6)
  obtain ⟨cl3, Ar3, q3, S3, M3, H3, G3⟩ := V_b1
  have hin3 : ¬ ((0 : Int32) < 0 ∨ cl3.slots.size ≤ ((0 : Int32)).toNatClampNeg) := inb_of S3 ⟨by decide, by decide⟩
  obtain ⟨T4, h4, X4, e4, W4, st4⟩ := stR X2 hx hZ e2 Ar3 (j := (0 : Int32)) hin3 rfl (Sto.ofV Ar3 q3 O1 (Ins.self (Exa.ext E1 E_LESS))) (g := (mkF m 9 #[.val (.int p1), .val (.int p2), .unset, .unset, .unset, .unset, .unset] [(.ref w_LESS), (.int (0 : Int32)), (.ref b1), (.ref b1)])) rfl rfl (hb hby at_9)
  have N4 := Fr.snoc X4 N0 g_b1
  have V4 : Arv Z h4 b1 k1 (.object "com/example/prudent_stability/prudentstability/Relation") (5 : Int32) [(.ref w_LESS), .null, .null, .null, .null] .null := Arv.set Ar3 q3 S3 M3 H3 G3 rfl W4 0 rfl (Nat.le_of_ble_eq_true rfl)
  obtain ⟨T5, X5, e5, st5⟩ := getS2 X4 hx hZ hown (host := "") (Or.inl (hw _ (List.mem_of_getElem? (i := 6) rfl))) Via.refl e4 (Sta.wr W4 (Sta.ext E1 S_LESS_OR_EQUAL)) (g := (mkF m 12 #[.val (.int p1), .val (.int p2), .unset, .unset, .unset, .unset, .unset] [(.int (1 : Int32)), (.ref b1), (.ref b1)])) rfl (hb hby at_12)
  obtain ⟨cl6, Ar6, q6, S6, M6, H6, G6⟩ := V4
  have hin6 : ¬ ((1 : Int32) < 0 ∨ cl6.slots.size ≤ ((1 : Int32)).toNatClampNeg) := inb_of S6 ⟨by decide, by decide⟩
  obtain ⟨T7, h7, X7, e7, W7, st7⟩ := stR X5 hx hZ e5 Ar6 (j := (1 : Int32)) hin6 rfl (Sto.ofV Ar6 q6 O1 (Ins.self (Exa.wr W4 (Exa.ext E1 E_LESS_OR_EQUAL)))) (g := (mkF m 15 #[.val (.int p1), .val (.int p2), .unset, .unset, .unset, .unset, .unset] [(.ref w_LESS_OR_EQUAL), (.int (1 : Int32)), (.ref b1), (.ref b1)])) rfl rfl (hb hby at_15)
  have N7 := Fr.snoc X7 N4 g_b1
  have V7 : Arv Z h7 b1 k1 (.object "com/example/prudent_stability/prudentstability/Relation") (5 : Int32) [(.ref w_LESS), (.ref w_LESS_OR_EQUAL), .null, .null, .null] .null := Arv.set Ar6 q6 S6 M6 H6 G6 rfl W7 1 rfl (Nat.le_of_ble_eq_true rfl)
  obtain ⟨T8, X8, e8, st8⟩ := getS2 X7 hx hZ hown (host := "") (Or.inl (hw _ (List.mem_of_getElem? (i := 8) rfl))) Via.refl e7 (Sta.wr W7 (Sta.wr W4 (Sta.ext E1 S_EQUAL))) (g := (mkF m 18 #[.val (.int p1), .val (.int p2), .unset, .unset, .unset, .unset, .unset] [(.int (2 : Int32)), (.ref b1), (.ref b1)])) rfl (hb hby at_18)
  obtain ⟨cl9, Ar9, q9, S9, M9, H9, G9⟩ := V7
  have hin9 : ¬ ((2 : Int32) < 0 ∨ cl9.slots.size ≤ ((2 : Int32)).toNatClampNeg) := inb_of S9 ⟨by decide, by decide⟩
  obtain ⟨T10, h10, X10, e10, W10, st10⟩ := stR X8 hx hZ e8 Ar9 (j := (2 : Int32)) hin9 rfl (Sto.ofV Ar9 q9 O1 (Ins.self (Exa.wr W7 (Exa.wr W4 (Exa.ext E1 E_EQUAL))))) (g := (mkF m 21 #[.val (.int p1), .val (.int p2), .unset, .unset, .unset, .unset, .unset] [(.ref w_EQUAL), (.int (2 : Int32)), (.ref b1), (.ref b1)])) rfl rfl (hb hby at_21)
  have N10 := Fr.snoc X10 N7 g_b1
  have V10 : Arv Z h10 b1 k1 (.object "com/example/prudent_stability/prudentstability/Relation") (5 : Int32) [(.ref w_LESS), (.ref w_LESS_OR_EQUAL), (.ref w_EQUAL), .null, .null] .null := Arv.set Ar9 q9 S9 M9 H9 G9 rfl W10 2 rfl (Nat.le_of_ble_eq_true rfl)
  obtain ⟨T11, X11, e11, st11⟩ := getS2 X10 hx hZ hown (host := "") (Or.inl (hw _ (List.mem_of_getElem? (i := 10) rfl))) Via.refl e10 (Sta.wr W10 (Sta.wr W7 (Sta.wr W4 (Sta.ext E1 S_GREATER_OR_EQUAL)))) (g := (mkF m 24 #[.val (.int p1), .val (.int p2), .unset, .unset, .unset, .unset, .unset] [(.int (3 : Int32)), (.ref b1), (.ref b1)])) rfl (hb hby at_24)
  obtain ⟨cl12, Ar12, q12, S12, M12, H12, G12⟩ := V10
  have hin12 : ¬ ((3 : Int32) < 0 ∨ cl12.slots.size ≤ ((3 : Int32)).toNatClampNeg) := inb_of S12 ⟨by decide, by decide⟩
  obtain ⟨T13, h13, X13, e13, W13, st13⟩ := stR X11 hx hZ e11 Ar12 (j := (3 : Int32)) hin12 rfl (Sto.ofV Ar12 q12 O1 (Ins.self (Exa.wr W10 (Exa.wr W7 (Exa.wr W4 (Exa.ext E1 E_GREATER_OR_EQUAL)))))) (g := (mkF m 27 #[.val (.int p1), .val (.int p2), .unset, .unset, .unset, .unset, .unset] [(.ref w_GREATER_OR_EQUAL), (.int (3 : Int32)), (.ref b1), (.ref b1)])) rfl rfl (hb hby at_27)
  have N13 := Fr.snoc X13 N10 g_b1
  have V13 : Arv Z h13 b1 k1 (.object "com/example/prudent_stability/prudentstability/Relation") (5 : Int32) [(.ref w_LESS), (.ref w_LESS_OR_EQUAL), (.ref w_EQUAL), (.ref w_GREATER_OR_EQUAL), .null] .null := Arv.set Ar12 q12 S12 M12 H12 G12 rfl W13 3 rfl (Nat.le_of_ble_eq_true rfl)
  obtain ⟨T14, X14, e14, st14⟩ := getS2 X13 hx hZ hown (host := "") (Or.inl (hw _ (List.mem_of_getElem? (i := 12) rfl))) Via.refl e13 (Sta.wr W13 (Sta.wr W10 (Sta.wr W7 (Sta.wr W4 (Sta.ext E1 S_GREATER))))) (g := (mkF m 30 #[.val (.int p1), .val (.int p2), .unset, .unset, .unset, .unset, .unset] [(.int (4 : Int32)), (.ref b1), (.ref b1)])) rfl (hb hby at_30)
  obtain ⟨cl15, Ar15, q15, S15, M15, H15, G15⟩ := V13
  have hin15 : ¬ ((4 : Int32) < 0 ∨ cl15.slots.size ≤ ((4 : Int32)).toNatClampNeg) := inb_of S15 ⟨by decide, by decide⟩
  obtain ⟨T16, h16, X16, e16, W16, st16⟩ := stR X14 hx hZ e14 Ar15 (j := (4 : Int32)) hin15 rfl (Sto.ofV Ar15 q15 O1 (Ins.self (Exa.wr W13 (Exa.wr W10 (Exa.wr W7 (Exa.wr W4 (Exa.ext E1 E_GREATER))))))) (g := (mkF m 33 #[.val (.int p1), .val (.int p2), .unset, .unset, .unset, .unset, .unset] [(.ref w_GREATER), (.int (4 : Int32)), (.ref b1), (.ref b1)])) rfl rfl (hb hby at_33)
  have N16 := Fr.snoc X16 N13 g_b1
  have V16 : Arv Z h16 b1 k1 (.object "com/example/prudent_stability/prudentstability/Relation") (5 : Int32) [(.ref w_LESS), (.ref w_LESS_OR_EQUAL), (.ref w_EQUAL), (.ref w_GREATER_OR_EQUAL), (.ref w_GREATER)] .null := Arv.set Ar15 q15 S15 M15 H15 G15 rfl W16 4 rfl (Nat.le_of_ble_eq_true rfl)
  obtain ⟨T17, h17, k17, X17, e17, E17, A17, EE17, st17⟩ := newPE X16 hx hZ (hw _ (List.mem_of_getElem? (i := 14) rfl)) e16 (g := (mkF m 36 #[.val (.int p1), .val (.int p2), .val (.ref b1), .unset, .unset, .unset, .unset] [(.int (5 : Int32))])) rfl (hb hby at_36) rfl (by decide) (cap := 5) (by decide) (by decide) (by decide) (by decide) (ad := "[I") (by decide)
  obtain ⟨b17, g17⟩ : ∃ z, z = h16.size := ⟨_, rfl⟩
  rw [← g17] at A17 EE17 st17
  have g_b17 : n0 ≤ b17 := Nat.le_trans (Nat.le_trans (Nat.le_trans (Nat.le_trans (Nat.le_trans (Nat.le_trans (Nat.le_trans Z0 E1.1) (Keep.of_wr W4).1) (Keep.of_wr W7).1) (Keep.of_wr W10).1) (Keep.of_wr W13).1) (Keep.of_wr W16).1) (Nat.le_of_eq g17.symm)
  have hh0_b17 : h0.size ≤ b17 := Nat.le_trans (Nat.le_trans (Nat.le_trans (Nat.le_trans (Nat.le_trans (Nat.le_trans (Nat.le_trans (Nat.le_refl h0.size) E1.1) (Keep.of_wr W4).1) (Keep.of_wr W7).1) (Keep.of_wr W10).1) (Keep.of_wr W13).1) (Keep.of_wr W16).1) (Nat.le_of_eq g17.symm)
  have V_b17 : Arv Z h17 b17 k17 .int (5 : Int32) [(.int (0 : Int32)), (.int (0 : Int32)), (.int (0 : Int32)), (.int (0 : Int32)), (.int (0 : Int32))] (.int (0 : Int32)) := (Arv.new A17 (by decide)).pad (pad_rep [] (.int (0 : Int32)) 5)
  obtain ⟨cl18, Ar18, q18, S18, M18, H18, G18⟩ := V_b17
  have hin18 : ¬ ((0 : Int32) < 0 ∨ cl18.slots.size ≤ ((0 : Int32)).toNatClampNeg) := inb_of S18 ⟨by decide, by decide⟩
  obtain ⟨T19, h19, X19, e19, W19, st19⟩ := stI X17 hx hZ e17 Ar18 (j := (0 : Int32)) hin18 (g := (mkF m 41 #[.val (.int p1), .val (.int p2), .val (.ref b1), .unset, .unset, .unset, .unset] [(.int (1 : Int32)), (.int (0 : Int32)), (.ref b17), (.ref b17)])) rfl rfl (hb hby at_41)
  have N19 := Fr.snoc X19 N16 g_b17
  have V19 : Arv Z h19 b17 k17 .int (5 : Int32) [(.int (1 : Int32)), (.int (0 : Int32)), (.int (0 : Int32)), (.int (0 : Int32)), (.int (0 : Int32))] (.int (0 : Int32)) := Arv.set Ar18 q18 S18 M18 H18 G18 rfl W19 0 rfl (Nat.le_of_ble_eq_true rfl)
  obtain ⟨cl20, Ar20, q20, S20, M20, H20, G20⟩ := V19
  have hin20 : ¬ ((1 : Int32) < 0 ∨ cl20.slots.size ≤ ((1 : Int32)).toNatClampNeg) := inb_of S20 ⟨by decide, by decide⟩
  obtain ⟨T21, h21, X21, e21, W21, st21⟩ := stI X19 hx hZ e19 Ar20 (j := (1 : Int32)) hin20 (g := (mkF m 45 #[.val (.int p1), .val (.int p2), .val (.ref b1), .unset, .unset, .unset, .unset] [(.int (3 : Int32)), (.int (1 : Int32)), (.ref b17), (.ref b17)])) rfl rfl (hb hby at_45)
  have N21 := Fr.snoc X21 N19 g_b17
  have V21 : Arv Z h21 b17 k17 .int (5 : Int32) [(.int (1 : Int32)), (.int (3 : Int32)), (.int (0 : Int32)), (.int (0 : Int32)), (.int (0 : Int32))] (.int (0 : Int32)) := Arv.set Ar20 q20 S20 M20 H20 G20 rfl W21 1 rfl (Nat.le_of_ble_eq_true rfl)
  obtain ⟨cl22, Ar22, q22, S22, M22, H22, G22⟩ := V21
  have hin22 : ¬ ((2 : Int32) < 0 ∨ cl22.slots.size ≤ ((2 : Int32)).toNatClampNeg) := inb_of S22 ⟨by decide, by decide⟩
  obtain ⟨T23, h23, X23, e23, W23, st23⟩ := stI X21 hx hZ e21 Ar22 (j := (2 : Int32)) hin22 (g := (mkF m 49 #[.val (.int p1), .val (.int p2), .val (.ref b1), .unset, .unset, .unset, .unset] [(.int (2 : Int32)), (.int (2 : Int32)), (.ref b17), (.ref b17)])) rfl rfl (hb hby at_49)
  have N23 := Fr.snoc X23 N21 g_b17
  have V23 : Arv Z h23 b17 k17 .int (5 : Int32) [(.int (1 : Int32)), (.int (3 : Int32)), (.int (2 : Int32)), (.int (0 : Int32)), (.int (0 : Int32))] (.int (0 : Int32)) := Arv.set Ar22 q22 S22 M22 H22 G22 rfl W23 2 rfl (Nat.le_of_ble_eq_true rfl)
  obtain ⟨cl24, Ar24, q24, S24, M24, H24, G24⟩ := V23
  have hin24 : ¬ ((3 : Int32) < 0 ∨ cl24.slots.size ≤ ((3 : Int32)).toNatClampNeg) := inb_of S24 ⟨by decide, by decide⟩
  obtain ⟨T25, h25, X25, e25, W25, st25⟩ := stI X23 hx hZ e23 Ar24 (j := (3 : Int32)) hin24 (g := (mkF m 54 #[.val (.int p1), .val (.int p2), .val (.ref b1), .unset, .unset, .unset, .unset] [(.int (6 : Int32)), (.int (3 : Int32)), (.ref b17), (.ref b17)])) rfl rfl (hb hby at_54)
  have N25 := Fr.snoc X25 N23 g_b17
  have V25 : Arv Z h25 b17 k17 .int (5 : Int32) [(.int (1 : Int32)), (.int (3 : Int32)), (.int (2 : Int32)), (.int (6 : Int32)), (.int (0 : Int32))] (.int (0 : Int32)) := Arv.set Ar24 q24 S24 M24 H24 G24 rfl W25 3 rfl (Nat.le_of_ble_eq_true rfl)
  obtain ⟨cl26, Ar26, q26, S26, M26, H26, G26⟩ := V25
  have hin26 : ¬ ((4 : Int32) < 0 ∨ cl26.slots.size ≤ ((4 : Int32)).toNatClampNeg) := inb_of S26 ⟨by decide, by decide⟩
  obtain ⟨T27, h27, X27, e27, W27, st27⟩ := stI X25 hx hZ e25 Ar26 (j := (4 : Int32)) hin26 (g := (mkF m 58 #[.val (.int p1), .val (.int p2), .val (.ref b1), .unset, .unset, .unset, .unset] [(.int (4 : Int32)), (.int (4 : Int32)), (.ref b17), (.ref b17)])) rfl rfl (hb hby at_58)
  have N27 := Fr.snoc X27 N25 g_b17
  have V27 : Arv Z h27 b17 k17 .int (5 : Int32) [(.int (1 : Int32)), (.int (3 : Int32)), (.int (2 : Int32)), (.int (6 : Int32)), (.int (4 : Int32))] (.int (0 : Int32)) := Arv.set Ar26 q26 S26 M26 H26 G26 rfl W27 4 rfl (Nat.le_of_ble_eq_true rfl)
  obtain ⟨k, hk⟩ : ∃ z : Int32, z = ((p1 &&& (2147483647 : Int32)) % (5 : Int32)) := ⟨_, rfl⟩
  have pre28 : ∀ tt, Steps p.tables e below (T27.setTop (mkF m 66 #[.val (.int p1), .val (.int p2), .val (.ref b1), .val (.ref b17), .unset, .unset, .unset] [(.int k)])) tt → Steps p.tables e below (s₁.setTop (entryFrame m #[(.int p1), (.int p2)] maxLocals)) tt := by
    intro tt kt
    refine pre0 tt ?_
    show Steps p.tables e below (s₁.setTop (mkF m 0 #[.val (.int p1), .val (.int p2), .unset, .unset, .unset, .unset, .unset] [])) _
    refine XS.iconst X0.here hx rfl (hb hby at_0) ?_
    show Steps p.tables e below (s₁.setTop (mkF m 1 #[.val (.int p1), .val (.int p2), .unset, .unset, .unset, .unset, .unset] [(.int (5 : Int32))])) _
    refine st1 _ ?_
    show Steps p.tables e below (T1.setTop (mkF m 4 #[.val (.int p1), .val (.int p2), .unset, .unset, .unset, .unset, .unset] [(.ref b1)])) _
    refine XS.dup X1.here hx rfl (hb hby at_4) rfl rfl ?_
    show Steps p.tables e below (T1.setTop (mkF m 5 #[.val (.int p1), .val (.int p2), .unset, .unset, .unset, .unset, .unset] [(.ref b1), (.ref b1)])) _
    refine XS.iconst X1.here hx rfl (hb hby at_5) ?_
    show Steps p.tables e below (T1.setTop (mkF m 6 #[.val (.int p1), .val (.int p2), .unset, .unset, .unset, .unset, .unset] [(.int (0 : Int32)), (.ref b1), (.ref b1)])) _
    refine st2 _ ?_
    show Steps p.tables e below (T2.setTop (mkF m 9 #[.val (.int p1), .val (.int p2), .unset, .unset, .unset, .unset, .unset] [(.ref w_LESS), (.int (0 : Int32)), (.ref b1), (.ref b1)])) _
    refine st4 _ ?_
    show Steps p.tables e below (T4.setTop (mkF m 10 #[.val (.int p1), .val (.int p2), .unset, .unset, .unset, .unset, .unset] [(.ref b1)])) _
    refine XS.dup X4.here hx rfl (hb hby at_10) rfl rfl ?_
    show Steps p.tables e below (T4.setTop (mkF m 11 #[.val (.int p1), .val (.int p2), .unset, .unset, .unset, .unset, .unset] [(.ref b1), (.ref b1)])) _
    refine XS.iconst X4.here hx rfl (hb hby at_11) ?_
    show Steps p.tables e below (T4.setTop (mkF m 12 #[.val (.int p1), .val (.int p2), .unset, .unset, .unset, .unset, .unset] [(.int (1 : Int32)), (.ref b1), (.ref b1)])) _
    refine st5 _ ?_
    show Steps p.tables e below (T5.setTop (mkF m 15 #[.val (.int p1), .val (.int p2), .unset, .unset, .unset, .unset, .unset] [(.ref w_LESS_OR_EQUAL), (.int (1 : Int32)), (.ref b1), (.ref b1)])) _
    refine st7 _ ?_
    show Steps p.tables e below (T7.setTop (mkF m 16 #[.val (.int p1), .val (.int p2), .unset, .unset, .unset, .unset, .unset] [(.ref b1)])) _
    refine XS.dup X7.here hx rfl (hb hby at_16) rfl rfl ?_
    show Steps p.tables e below (T7.setTop (mkF m 17 #[.val (.int p1), .val (.int p2), .unset, .unset, .unset, .unset, .unset] [(.ref b1), (.ref b1)])) _
    refine XS.iconst X7.here hx rfl (hb hby at_17) ?_
    show Steps p.tables e below (T7.setTop (mkF m 18 #[.val (.int p1), .val (.int p2), .unset, .unset, .unset, .unset, .unset] [(.int (2 : Int32)), (.ref b1), (.ref b1)])) _
    refine st8 _ ?_
    show Steps p.tables e below (T8.setTop (mkF m 21 #[.val (.int p1), .val (.int p2), .unset, .unset, .unset, .unset, .unset] [(.ref w_EQUAL), (.int (2 : Int32)), (.ref b1), (.ref b1)])) _
    refine st10 _ ?_
    show Steps p.tables e below (T10.setTop (mkF m 22 #[.val (.int p1), .val (.int p2), .unset, .unset, .unset, .unset, .unset] [(.ref b1)])) _
    refine XS.dup X10.here hx rfl (hb hby at_22) rfl rfl ?_
    show Steps p.tables e below (T10.setTop (mkF m 23 #[.val (.int p1), .val (.int p2), .unset, .unset, .unset, .unset, .unset] [(.ref b1), (.ref b1)])) _
    refine XS.iconst X10.here hx rfl (hb hby at_23) ?_
    show Steps p.tables e below (T10.setTop (mkF m 24 #[.val (.int p1), .val (.int p2), .unset, .unset, .unset, .unset, .unset] [(.int (3 : Int32)), (.ref b1), (.ref b1)])) _
    refine st11 _ ?_
    show Steps p.tables e below (T11.setTop (mkF m 27 #[.val (.int p1), .val (.int p2), .unset, .unset, .unset, .unset, .unset] [(.ref w_GREATER_OR_EQUAL), (.int (3 : Int32)), (.ref b1), (.ref b1)])) _
    refine st13 _ ?_
    show Steps p.tables e below (T13.setTop (mkF m 28 #[.val (.int p1), .val (.int p2), .unset, .unset, .unset, .unset, .unset] [(.ref b1)])) _
    refine XS.dup X13.here hx rfl (hb hby at_28) rfl rfl ?_
    show Steps p.tables e below (T13.setTop (mkF m 29 #[.val (.int p1), .val (.int p2), .unset, .unset, .unset, .unset, .unset] [(.ref b1), (.ref b1)])) _
    refine XS.iconst X13.here hx rfl (hb hby at_29) ?_
    show Steps p.tables e below (T13.setTop (mkF m 30 #[.val (.int p1), .val (.int p2), .unset, .unset, .unset, .unset, .unset] [(.int (4 : Int32)), (.ref b1), (.ref b1)])) _
    refine st14 _ ?_
    show Steps p.tables e below (T14.setTop (mkF m 33 #[.val (.int p1), .val (.int p2), .unset, .unset, .unset, .unset, .unset] [(.ref w_GREATER), (.int (4 : Int32)), (.ref b1), (.ref b1)])) _
    refine st16 _ ?_
    show Steps p.tables e below (T16.setTop (mkF m 34 #[.val (.int p1), .val (.int p2), .unset, .unset, .unset, .unset, .unset] [(.ref b1)])) _
    refine XS.astoreN X16.here hx rfl (hb hby at_34) rfl rfl (l' := #[.val (.int p1), .val (.int p2), .val (.ref b1), .unset, .unset, .unset, .unset]) rfl ?_
    show Steps p.tables e below (T16.setTop (mkF m 35 #[.val (.int p1), .val (.int p2), .val (.ref b1), .unset, .unset, .unset, .unset] [])) _
    refine XS.iconst X16.here hx rfl (hb hby at_35) ?_
    show Steps p.tables e below (T16.setTop (mkF m 36 #[.val (.int p1), .val (.int p2), .val (.ref b1), .unset, .unset, .unset, .unset] [(.int (5 : Int32))])) _
    refine st17 _ ?_
    show Steps p.tables e below (T17.setTop (mkF m 38 #[.val (.int p1), .val (.int p2), .val (.ref b1), .unset, .unset, .unset, .unset] [(.ref b17)])) _
    refine XS.dup X17.here hx rfl (hb hby at_38) rfl rfl ?_
    show Steps p.tables e below (T17.setTop (mkF m 39 #[.val (.int p1), .val (.int p2), .val (.ref b1), .unset, .unset, .unset, .unset] [(.ref b17), (.ref b17)])) _
    refine XS.iconst X17.here hx rfl (hb hby at_39) ?_
    show Steps p.tables e below (T17.setTop (mkF m 40 #[.val (.int p1), .val (.int p2), .val (.ref b1), .unset, .unset, .unset, .unset] [(.int (0 : Int32)), (.ref b17), (.ref b17)])) _
    refine XS.iconst X17.here hx rfl (hb hby at_40) ?_
    show Steps p.tables e below (T17.setTop (mkF m 41 #[.val (.int p1), .val (.int p2), .val (.ref b1), .unset, .unset, .unset, .unset] [(.int (1 : Int32)), (.int (0 : Int32)), (.ref b17), (.ref b17)])) _
    refine st19 _ ?_
    show Steps p.tables e below (T19.setTop (mkF m 42 #[.val (.int p1), .val (.int p2), .val (.ref b1), .unset, .unset, .unset, .unset] [(.ref b17)])) _
    refine XS.dup X19.here hx rfl (hb hby at_42) rfl rfl ?_
    show Steps p.tables e below (T19.setTop (mkF m 43 #[.val (.int p1), .val (.int p2), .val (.ref b1), .unset, .unset, .unset, .unset] [(.ref b17), (.ref b17)])) _
    refine XS.iconst X19.here hx rfl (hb hby at_43) ?_
    show Steps p.tables e below (T19.setTop (mkF m 44 #[.val (.int p1), .val (.int p2), .val (.ref b1), .unset, .unset, .unset, .unset] [(.int (1 : Int32)), (.ref b17), (.ref b17)])) _
    refine XS.iconst X19.here hx rfl (hb hby at_44) ?_
    show Steps p.tables e below (T19.setTop (mkF m 45 #[.val (.int p1), .val (.int p2), .val (.ref b1), .unset, .unset, .unset, .unset] [(.int (3 : Int32)), (.int (1 : Int32)), (.ref b17), (.ref b17)])) _
    refine st21 _ ?_
    show Steps p.tables e below (T21.setTop (mkF m 46 #[.val (.int p1), .val (.int p2), .val (.ref b1), .unset, .unset, .unset, .unset] [(.ref b17)])) _
    refine XS.dup X21.here hx rfl (hb hby at_46) rfl rfl ?_
    show Steps p.tables e below (T21.setTop (mkF m 47 #[.val (.int p1), .val (.int p2), .val (.ref b1), .unset, .unset, .unset, .unset] [(.ref b17), (.ref b17)])) _
    refine XS.iconst X21.here hx rfl (hb hby at_47) ?_
    show Steps p.tables e below (T21.setTop (mkF m 48 #[.val (.int p1), .val (.int p2), .val (.ref b1), .unset, .unset, .unset, .unset] [(.int (2 : Int32)), (.ref b17), (.ref b17)])) _
    refine XS.iconst X21.here hx rfl (hb hby at_48) ?_
    show Steps p.tables e below (T21.setTop (mkF m 49 #[.val (.int p1), .val (.int p2), .val (.ref b1), .unset, .unset, .unset, .unset] [(.int (2 : Int32)), (.int (2 : Int32)), (.ref b17), (.ref b17)])) _
    refine st23 _ ?_
    show Steps p.tables e below (T23.setTop (mkF m 50 #[.val (.int p1), .val (.int p2), .val (.ref b1), .unset, .unset, .unset, .unset] [(.ref b17)])) _
    refine XS.dup X23.here hx rfl (hb hby at_50) rfl rfl ?_
    show Steps p.tables e below (T23.setTop (mkF m 51 #[.val (.int p1), .val (.int p2), .val (.ref b1), .unset, .unset, .unset, .unset] [(.ref b17), (.ref b17)])) _
    refine XS.iconst X23.here hx rfl (hb hby at_51) ?_
    show Steps p.tables e below (T23.setTop (mkF m 52 #[.val (.int p1), .val (.int p2), .val (.ref b1), .unset, .unset, .unset, .unset] [(.int (3 : Int32)), (.ref b17), (.ref b17)])) _
    refine XS.bipush X23.here hx rfl (hb hby at_52) ?_
    show Steps p.tables e below (T23.setTop (mkF m 54 #[.val (.int p1), .val (.int p2), .val (.ref b1), .unset, .unset, .unset, .unset] [(.int (6 : Int32)), (.int (3 : Int32)), (.ref b17), (.ref b17)])) _
    refine st25 _ ?_
    show Steps p.tables e below (T25.setTop (mkF m 55 #[.val (.int p1), .val (.int p2), .val (.ref b1), .unset, .unset, .unset, .unset] [(.ref b17)])) _
    refine XS.dup X25.here hx rfl (hb hby at_55) rfl rfl ?_
    show Steps p.tables e below (T25.setTop (mkF m 56 #[.val (.int p1), .val (.int p2), .val (.ref b1), .unset, .unset, .unset, .unset] [(.ref b17), (.ref b17)])) _
    refine XS.iconst X25.here hx rfl (hb hby at_56) ?_
    show Steps p.tables e below (T25.setTop (mkF m 57 #[.val (.int p1), .val (.int p2), .val (.ref b1), .unset, .unset, .unset, .unset] [(.int (4 : Int32)), (.ref b17), (.ref b17)])) _
    refine XS.iconst X25.here hx rfl (hb hby at_57) ?_
    show Steps p.tables e below (T25.setTop (mkF m 58 #[.val (.int p1), .val (.int p2), .val (.ref b1), .unset, .unset, .unset, .unset] [(.int (4 : Int32)), (.int (4 : Int32)), (.ref b17), (.ref b17)])) _
    refine st27 _ ?_
    show Steps p.tables e below (T27.setTop (mkF m 59 #[.val (.int p1), .val (.int p2), .val (.ref b1), .unset, .unset, .unset, .unset] [(.ref b17)])) _
    refine XS.astoreN X27.here hx rfl (hb hby at_59) rfl rfl (l' := #[.val (.int p1), .val (.int p2), .val (.ref b1), .val (.ref b17), .unset, .unset, .unset]) rfl ?_
    show Steps p.tables e below (T27.setTop (mkF m 60 #[.val (.int p1), .val (.int p2), .val (.ref b1), .val (.ref b17), .unset, .unset, .unset] [])) _
    refine XS.iloadN X27.here hx rfl (hb hby at_60) rfl ?_
    show Steps p.tables e below (T27.setTop (mkF m 61 #[.val (.int p1), .val (.int p2), .val (.ref b1), .val (.ref b17), .unset, .unset, .unset] [(.int p1)])) _
    refine X27.ldcInt hx hown (mvT hZ (hw _ (List.mem_of_getElem? (i := 15) rfl))) (g := (mkF m 61 #[.val (.int p1), .val (.int p2), .val (.ref b1), .val (.ref b17), .unset, .unset, .unset] [(.int p1)])) rfl (hb hby at_61) _ ?_
    show Steps p.tables e below (T27.setTop (mkF m 63 #[.val (.int p1), .val (.int p2), .val (.ref b1), .val (.ref b17), .unset, .unset, .unset] [(.int (2147483647 : Int32)), (.int p1)])) _
    refine XS.iand X27.here hx rfl (hb hby at_63) rfl ?_
    show Steps p.tables e below (T27.setTop (mkF m 64 #[.val (.int p1), .val (.int p2), .val (.ref b1), .val (.ref b17), .unset, .unset, .unset] [(.int (p1 &&& (2147483647 : Int32)))])) _
    refine XS.iconst X27.here hx rfl (hb hby at_64) ?_
    show Steps p.tables e below (T27.setTop (mkF m 65 #[.val (.int p1), .val (.int p2), .val (.ref b1), .val (.ref b17), .unset, .unset, .unset] [(.int (5 : Int32)), (.int (p1 &&& (2147483647 : Int32)))])) _
    refine iremM (g := (mkF m 65 #[.val (.int p1), .val (.int p2), .val (.ref b1), .val (.ref b17), .unset, .unset, .unset] [(.int (5 : Int32)), (.int (p1 &&& (2147483647 : Int32)))])) X27 hx rfl (hb hby at_65) rfl (by decide : ¬ ((5 : Int32) = (0 : Int32))) ?_
    show Steps p.tables e below (T27.setTop (mkF m 66 #[.val (.int p1), .val (.int p2), .val (.ref b1), .val (.ref b17), .unset, .unset, .unset] [(.int ((p1 &&& (2147483647 : Int32)) % (5 : Int32)))])) _
    rw [← hk]
    exact kt
  have rk := own_of5 (own_rem p1 (5 : Int32) (by decide))
  rw [← hk] at rk
  clear hk
  have hsz : n0 ≤ h27.size := (Nat.le_trans (Nat.le_trans (Nat.le_trans (Nat.le_trans (Nat.le_trans (Nat.le_trans (Nat.le_trans (Nat.le_trans (Nat.le_trans (Nat.le_trans (Nat.le_trans (Nat.le_trans Z0 E1.1) (Keep.of_wr W4).1) (Keep.of_wr W7).1) (Keep.of_wr W10).1) (Keep.of_wr W13).1) (Keep.of_wr W16).1) E17.1) (Keep.of_wr W19).1) (Keep.of_wr W21).1) (Keep.of_wr W23).1) (Keep.of_wr W25).1) (Keep.of_wr W27).1)
  have EE_LESS := (Exa.wr W27 (Exa.wr W25 (Exa.wr W23 (Exa.wr W21 (Exa.wr W19 (Exa.ext E17 (Exa.wr W16 (Exa.wr W13 (Exa.wr W10 (Exa.wr W7 (Exa.wr W4 (Exa.ext E1 E_LESS))))))))))))
  have FF_LESS := (Fld.other W27 (Fld.other W25 (Fld.other W23 (Fld.other W21 (Fld.other W19 (Fld.ext E17 (Fld.other W16 (Fld.other W13 (Fld.other W10 (Fld.other W7 (Fld.other W4 (Fld.ext E1 F_LESS_ordinal) (Or.inl (Nat.ne_of_lt (Nat.lt_of_lt_of_le E_LESS.lt (Nat.le_trans hh0_b1 (Nat.le_refl _)))))) (Or.inl (Nat.ne_of_lt (Nat.lt_of_lt_of_le E_LESS.lt (Nat.le_trans hh0_b1 (Nat.le_refl _)))))) (Or.inl (Nat.ne_of_lt (Nat.lt_of_lt_of_le E_LESS.lt (Nat.le_trans hh0_b1 (Nat.le_refl _)))))) (Or.inl (Nat.ne_of_lt (Nat.lt_of_lt_of_le E_LESS.lt (Nat.le_trans hh0_b1 (Nat.le_refl _)))))) (Or.inl (Nat.ne_of_lt (Nat.lt_of_lt_of_le E_LESS.lt (Nat.le_trans hh0_b1 (Nat.le_refl _))))))) (Or.inl (Nat.ne_of_lt (Nat.lt_of_lt_of_le E_LESS.lt (Nat.le_trans hh0_b17 (Nat.le_refl _)))))) (Or.inl (Nat.ne_of_lt (Nat.lt_of_lt_of_le E_LESS.lt (Nat.le_trans hh0_b17 (Nat.le_refl _)))))) (Or.inl (Nat.ne_of_lt (Nat.lt_of_lt_of_le E_LESS.lt (Nat.le_trans hh0_b17 (Nat.le_refl _)))))) (Or.inl (Nat.ne_of_lt (Nat.lt_of_lt_of_le E_LESS.lt (Nat.le_trans hh0_b17 (Nat.le_refl _)))))) (Or.inl (Nat.ne_of_lt (Nat.lt_of_lt_of_le E_LESS.lt (Nat.le_trans hh0_b17 (Nat.le_refl _))))))
  have EE_LESS_OR_EQUAL := (Exa.wr W27 (Exa.wr W25 (Exa.wr W23 (Exa.wr W21 (Exa.wr W19 (Exa.ext E17 (Exa.wr W16 (Exa.wr W13 (Exa.wr W10 (Exa.wr W7 (Exa.wr W4 (Exa.ext E1 E_LESS_OR_EQUAL))))))))))))
  have FF_LESS_OR_EQUAL := (Fld.other W27 (Fld.other W25 (Fld.other W23 (Fld.other W21 (Fld.other W19 (Fld.ext E17 (Fld.other W16 (Fld.other W13 (Fld.other W10 (Fld.other W7 (Fld.other W4 (Fld.ext E1 F_LESS_OR_EQUAL_ordinal) (Or.inl (Nat.ne_of_lt (Nat.lt_of_lt_of_le E_LESS_OR_EQUAL.lt (Nat.le_trans hh0_b1 (Nat.le_refl _)))))) (Or.inl (Nat.ne_of_lt (Nat.lt_of_lt_of_le E_LESS_OR_EQUAL.lt (Nat.le_trans hh0_b1 (Nat.le_refl _)))))) (Or.inl (Nat.ne_of_lt (Nat.lt_of_lt_of_le E_LESS_OR_EQUAL.lt (Nat.le_trans hh0_b1 (Nat.le_refl _)))))) (Or.inl (Nat.ne_of_lt (Nat.lt_of_lt_of_le E_LESS_OR_EQUAL.lt (Nat.le_trans hh0_b1 (Nat.le_refl _)))))) (Or.inl (Nat.ne_of_lt (Nat.lt_of_lt_of_le E_LESS_OR_EQUAL.lt (Nat.le_trans hh0_b1 (Nat.le_refl _))))))) (Or.inl (Nat.ne_of_lt (Nat.lt_of_lt_of_le E_LESS_OR_EQUAL.lt (Nat.le_trans hh0_b17 (Nat.le_refl _)))))) (Or.inl (Nat.ne_of_lt (Nat.lt_of_lt_of_le E_LESS_OR_EQUAL.lt (Nat.le_trans hh0_b17 (Nat.le_refl _)))))) (Or.inl (Nat.ne_of_lt (Nat.lt_of_lt_of_le E_LESS_OR_EQUAL.lt (Nat.le_trans hh0_b17 (Nat.le_refl _)))))) (Or.inl (Nat.ne_of_lt (Nat.lt_of_lt_of_le E_LESS_OR_EQUAL.lt (Nat.le_trans hh0_b17 (Nat.le_refl _)))))) (Or.inl (Nat.ne_of_lt (Nat.lt_of_lt_of_le E_LESS_OR_EQUAL.lt (Nat.le_trans hh0_b17 (Nat.le_refl _))))))
  have EE_EQUAL := (Exa.wr W27 (Exa.wr W25 (Exa.wr W23 (Exa.wr W21 (Exa.wr W19 (Exa.ext E17 (Exa.wr W16 (Exa.wr W13 (Exa.wr W10 (Exa.wr W7 (Exa.wr W4 (Exa.ext E1 E_EQUAL))))))))))))
  have FF_EQUAL := (Fld.other W27 (Fld.other W25 (Fld.other W23 (Fld.other W21 (Fld.other W19 (Fld.ext E17 (Fld.other W16 (Fld.other W13 (Fld.other W10 (Fld.other W7 (Fld.other W4 (Fld.ext E1 F_EQUAL_ordinal) (Or.inl (Nat.ne_of_lt (Nat.lt_of_lt_of_le E_EQUAL.lt (Nat.le_trans hh0_b1 (Nat.le_refl _)))))) (Or.inl (Nat.ne_of_lt (Nat.lt_of_lt_of_le E_EQUAL.lt (Nat.le_trans hh0_b1 (Nat.le_refl _)))))) (Or.inl (Nat.ne_of_lt (Nat.lt_of_lt_of_le E_EQUAL.lt (Nat.le_trans hh0_b1 (Nat.le_refl _)))))) (Or.inl (Nat.ne_of_lt (Nat.lt_of_lt_of_le E_EQUAL.lt (Nat.le_trans hh0_b1 (Nat.le_refl _)))))) (Or.inl (Nat.ne_of_lt (Nat.lt_of_lt_of_le E_EQUAL.lt (Nat.le_trans hh0_b1 (Nat.le_refl _))))))) (Or.inl (Nat.ne_of_lt (Nat.lt_of_lt_of_le E_EQUAL.lt (Nat.le_trans hh0_b17 (Nat.le_refl _)))))) (Or.inl (Nat.ne_of_lt (Nat.lt_of_lt_of_le E_EQUAL.lt (Nat.le_trans hh0_b17 (Nat.le_refl _)))))) (Or.inl (Nat.ne_of_lt (Nat.lt_of_lt_of_le E_EQUAL.lt (Nat.le_trans hh0_b17 (Nat.le_refl _)))))) (Or.inl (Nat.ne_of_lt (Nat.lt_of_lt_of_le E_EQUAL.lt (Nat.le_trans hh0_b17 (Nat.le_refl _)))))) (Or.inl (Nat.ne_of_lt (Nat.lt_of_lt_of_le E_EQUAL.lt (Nat.le_trans hh0_b17 (Nat.le_refl _))))))
  have EE_GREATER_OR_EQUAL := (Exa.wr W27 (Exa.wr W25 (Exa.wr W23 (Exa.wr W21 (Exa.wr W19 (Exa.ext E17 (Exa.wr W16 (Exa.wr W13 (Exa.wr W10 (Exa.wr W7 (Exa.wr W4 (Exa.ext E1 E_GREATER_OR_EQUAL))))))))))))
  have FF_GREATER_OR_EQUAL := (Fld.other W27 (Fld.other W25 (Fld.other W23 (Fld.other W21 (Fld.other W19 (Fld.ext E17 (Fld.other W16 (Fld.other W13 (Fld.other W10 (Fld.other W7 (Fld.other W4 (Fld.ext E1 F_GREATER_OR_EQUAL_ordinal) (Or.inl (Nat.ne_of_lt (Nat.lt_of_lt_of_le E_GREATER_OR_EQUAL.lt (Nat.le_trans hh0_b1 (Nat.le_refl _)))))) (Or.inl (Nat.ne_of_lt (Nat.lt_of_lt_of_le E_GREATER_OR_EQUAL.lt (Nat.le_trans hh0_b1 (Nat.le_refl _)))))) (Or.inl (Nat.ne_of_lt (Nat.lt_of_lt_of_le E_GREATER_OR_EQUAL.lt (Nat.le_trans hh0_b1 (Nat.le_refl _)))))) (Or.inl (Nat.ne_of_lt (Nat.lt_of_lt_of_le E_GREATER_OR_EQUAL.lt (Nat.le_trans hh0_b1 (Nat.le_refl _)))))) (Or.inl (Nat.ne_of_lt (Nat.lt_of_lt_of_le E_GREATER_OR_EQUAL.lt (Nat.le_trans hh0_b1 (Nat.le_refl _))))))) (Or.inl (Nat.ne_of_lt (Nat.lt_of_lt_of_le E_GREATER_OR_EQUAL.lt (Nat.le_trans hh0_b17 (Nat.le_refl _)))))) (Or.inl (Nat.ne_of_lt (Nat.lt_of_lt_of_le E_GREATER_OR_EQUAL.lt (Nat.le_trans hh0_b17 (Nat.le_refl _)))))) (Or.inl (Nat.ne_of_lt (Nat.lt_of_lt_of_le E_GREATER_OR_EQUAL.lt (Nat.le_trans hh0_b17 (Nat.le_refl _)))))) (Or.inl (Nat.ne_of_lt (Nat.lt_of_lt_of_le E_GREATER_OR_EQUAL.lt (Nat.le_trans hh0_b17 (Nat.le_refl _)))))) (Or.inl (Nat.ne_of_lt (Nat.lt_of_lt_of_le E_GREATER_OR_EQUAL.lt (Nat.le_trans hh0_b17 (Nat.le_refl _))))))
  have EE_GREATER := (Exa.wr W27 (Exa.wr W25 (Exa.wr W23 (Exa.wr W21 (Exa.wr W19 (Exa.ext E17 (Exa.wr W16 (Exa.wr W13 (Exa.wr W10 (Exa.wr W7 (Exa.wr W4 (Exa.ext E1 E_GREATER))))))))))))
  have FF_GREATER := (Fld.other W27 (Fld.other W25 (Fld.other W23 (Fld.other W21 (Fld.other W19 (Fld.ext E17 (Fld.other W16 (Fld.other W13 (Fld.other W10 (Fld.other W7 (Fld.other W4 (Fld.ext E1 F_GREATER_ordinal) (Or.inl (Nat.ne_of_lt (Nat.lt_of_lt_of_le E_GREATER.lt (Nat.le_trans hh0_b1 (Nat.le_refl _)))))) (Or.inl (Nat.ne_of_lt (Nat.lt_of_lt_of_le E_GREATER.lt (Nat.le_trans hh0_b1 (Nat.le_refl _)))))) (Or.inl (Nat.ne_of_lt (Nat.lt_of_lt_of_le E_GREATER.lt (Nat.le_trans hh0_b1 (Nat.le_refl _)))))) (Or.inl (Nat.ne_of_lt (Nat.lt_of_lt_of_le E_GREATER.lt (Nat.le_trans hh0_b1 (Nat.le_refl _)))))) (Or.inl (Nat.ne_of_lt (Nat.lt_of_lt_of_le E_GREATER.lt (Nat.le_trans hh0_b1 (Nat.le_refl _))))))) (Or.inl (Nat.ne_of_lt (Nat.lt_of_lt_of_le E_GREATER.lt (Nat.le_trans hh0_b17 (Nat.le_refl _)))))) (Or.inl (Nat.ne_of_lt (Nat.lt_of_lt_of_le E_GREATER.lt (Nat.le_trans hh0_b17 (Nat.le_refl _)))))) (Or.inl (Nat.ne_of_lt (Nat.lt_of_lt_of_le E_GREATER.lt (Nat.le_trans hh0_b17 (Nat.le_refl _)))))) (Or.inl (Nat.ne_of_lt (Nat.lt_of_lt_of_le E_GREATER.lt (Nat.le_trans hh0_b17 (Nat.le_refl _)))))) (Or.inl (Nat.ne_of_lt (Nat.lt_of_lt_of_le E_GREATER.lt (Nat.le_trans hh0_b17 (Nat.le_refl _))))))
  rcases rk with rfl | rfl | rfl | rfl | rfl
  · have rt := own_of3 (own_rem p2 (3 : Int32) (by decide))
    obtain ⟨s1, hs1⟩ : ∃ z : Int32, z = (((p2 &&& (2147483647 : Int32)) % (3 : Int32)) - (1 : Int32)) := ⟨_, rfl⟩
    have pre29 : ∀ tt, Steps p.tables e below (T27.setTop (mkF m 76 #[.val (.int p1), .val (.int p2), .val (.ref b1), .val (.ref b17), .val (.int (0 : Int32)), .unset, .unset] [(.int s1)])) tt → Steps p.tables e below (s₁.setTop (entryFrame m #[(.int p1), (.int p2)] maxLocals)) tt := by
      intro tt kt
      refine pre28 tt ?_
      show Steps p.tables e below (T27.setTop (mkF m 66 #[.val (.int p1), .val (.int p2), .val (.ref b1), .val (.ref b17), .unset, .unset, .unset] [(.int (0 : Int32))])) _
      refine XS.istore X27.here hx rfl (hb hby at_66) rfl (l' := #[.val (.int p1), .val (.int p2), .val (.ref b1), .val (.ref b17), .val (.int (0 : Int32)), .unset, .unset]) rfl ?_
      show Steps p.tables e below (T27.setTop (mkF m 68 #[.val (.int p1), .val (.int p2), .val (.ref b1), .val (.ref b17), .val (.int (0 : Int32)), .unset, .unset] [])) _
      refine XS.iloadN X27.here hx rfl (hb hby at_68) rfl ?_
      show Steps p.tables e below (T27.setTop (mkF m 69 #[.val (.int p1), .val (.int p2), .val (.ref b1), .val (.ref b17), .val (.int (0 : Int32)), .unset, .unset] [(.int p2)])) _
      refine X27.ldcInt hx hown (mvT hZ (hw _ (List.mem_of_getElem? (i := 15) rfl))) (g := (mkF m 69 #[.val (.int p1), .val (.int p2), .val (.ref b1), .val (.ref b17), .val (.int (0 : Int32)), .unset, .unset] [(.int p2)])) rfl (hb hby at_69) _ ?_
      show Steps p.tables e below (T27.setTop (mkF m 71 #[.val (.int p1), .val (.int p2), .val (.ref b1), .val (.ref b17), .val (.int (0 : Int32)), .unset, .unset] [(.int (2147483647 : Int32)), (.int p2)])) _
      refine XS.iand X27.here hx rfl (hb hby at_71) rfl ?_
      show Steps p.tables e below (T27.setTop (mkF m 72 #[.val (.int p1), .val (.int p2), .val (.ref b1), .val (.ref b17), .val (.int (0 : Int32)), .unset, .unset] [(.int (p2 &&& (2147483647 : Int32)))])) _
      refine XS.iconst X27.here hx rfl (hb hby at_72) ?_
      show Steps p.tables e below (T27.setTop (mkF m 73 #[.val (.int p1), .val (.int p2), .val (.ref b1), .val (.ref b17), .val (.int (0 : Int32)), .unset, .unset] [(.int (3 : Int32)), (.int (p2 &&& (2147483647 : Int32)))])) _
      refine iremM (g := (mkF m 73 #[.val (.int p1), .val (.int p2), .val (.ref b1), .val (.ref b17), .val (.int (0 : Int32)), .unset, .unset] [(.int (3 : Int32)), (.int (p2 &&& (2147483647 : Int32)))])) X27 hx rfl (hb hby at_73) rfl (by decide : ¬ ((3 : Int32) = (0 : Int32))) ?_
      show Steps p.tables e below (T27.setTop (mkF m 74 #[.val (.int p1), .val (.int p2), .val (.ref b1), .val (.ref b17), .val (.int (0 : Int32)), .unset, .unset] [(.int ((p2 &&& (2147483647 : Int32)) % (3 : Int32)))])) _
      refine XS.iconst X27.here hx rfl (hb hby at_74) ?_
      show Steps p.tables e below (T27.setTop (mkF m 75 #[.val (.int p1), .val (.int p2), .val (.ref b1), .val (.ref b17), .val (.int (0 : Int32)), .unset, .unset] [(.int (1 : Int32)), (.int ((p2 &&& (2147483647 : Int32)) % (3 : Int32)))])) _
      refine XS.isub X27.here hx rfl (hb hby at_75) rfl ?_
      show Steps p.tables e below (T27.setTop (mkF m 76 #[.val (.int p1), .val (.int p2), .val (.ref b1), .val (.ref b17), .val (.int (0 : Int32)), .unset, .unset] [(.int (((p2 &&& (2147483647 : Int32)) % (3 : Int32)) - (1 : Int32)))])) _
      rw [← hs1]
      exact kt
    have rs : s1 = -1 ∨ s1 = 0 ∨ s1 = 1 := by
      rw [hs1]; rcases rt with q | q | q <;> rw [q] <;> decide
    clear hs1 rt
    obtain ⟨cl30, Ar30, q30, S30, M30, H30, G30⟩ := V27
    have hin30 : ¬ ((0 : Int32) < 0 ∨ cl30.slots.size ≤ ((0 : Int32)).toNatClampNeg) := inb_of S30 ⟨by decide, by decide⟩
    have hat30 : cl30.slots[((0 : Int32)).toNatClampNeg]? = some (.int (1 : Int32)) := H30.at hin30 rfl
    have pre31 : ∀ tt, Steps p.tables e below (T27.setTop (mkF m 89 #[.val (.int p1), .val (.int p2), .val (.ref b1), .val (.ref b17), .val (.int (0 : Int32)), .val (.int s1), .unset] [(.int (((1 : Int32) >>> ((s1 + (1 : Int32)) &&& 31)) &&& (1 : Int32)))])) tt → Steps p.tables e below (s₁.setTop (entryFrame m #[(.int p1), (.int p2)] maxLocals)) tt := by
      intro tt kt
      refine pre29 tt ?_
      show Steps p.tables e below (T27.setTop (mkF m 76 #[.val (.int p1), .val (.int p2), .val (.ref b1), .val (.ref b17), .val (.int (0 : Int32)), .unset, .unset] [(.int s1)])) _
      refine XS.istore X27.here hx rfl (hb hby at_76) rfl (l' := #[.val (.int p1), .val (.int p2), .val (.ref b1), .val (.ref b17), .val (.int (0 : Int32)), .val (.int s1), .unset]) rfl ?_
      show Steps p.tables e below (T27.setTop (mkF m 78 #[.val (.int p1), .val (.int p2), .val (.ref b1), .val (.ref b17), .val (.int (0 : Int32)), .val (.int s1), .unset] [])) _
      refine XS.aloadN X27.here hx rfl (hb hby at_78) rfl rfl ?_
      show Steps p.tables e below (T27.setTop (mkF m 79 #[.val (.int p1), .val (.int p2), .val (.ref b1), .val (.ref b17), .val (.int (0 : Int32)), .val (.int s1), .unset] [(.ref b17)])) _
      refine XS.iload X27.here hx rfl (hb hby at_79) rfl ?_
      show Steps p.tables e below (T27.setTop (mkF m 81 #[.val (.int p1), .val (.int p2), .val (.ref b1), .val (.ref b17), .val (.int (0 : Int32)), .val (.int s1), .unset] [(.int (0 : Int32)), (.ref b17)])) _
      refine X27.iaload hx (j := (0 : Int32)) (v := (.int (1 : Int32))) (by rw [e27]; exact Ar30.1) (State.isArrayOf_alike hZ.alike Ar30.2.1) Ar30.2.2 hin30 hat30 (g := (mkF m 81 #[.val (.int p1), .val (.int p2), .val (.ref b1), .val (.ref b17), .val (.int (0 : Int32)), .val (.int s1), .unset] [(.int (0 : Int32)), (.ref b17)])) rfl rfl (hb hby at_81) _ ?_
      show Steps p.tables e below (T27.setTop (mkF m 82 #[.val (.int p1), .val (.int p2), .val (.ref b1), .val (.ref b17), .val (.int (0 : Int32)), .val (.int s1), .unset] [(.int (1 : Int32))])) _
      refine XS.iload X27.here hx rfl (hb hby at_82) rfl ?_
      show Steps p.tables e below (T27.setTop (mkF m 84 #[.val (.int p1), .val (.int p2), .val (.ref b1), .val (.ref b17), .val (.int (0 : Int32)), .val (.int s1), .unset] [(.int s1), (.int (1 : Int32))])) _
      refine XS.iconst X27.here hx rfl (hb hby at_84) ?_
      show Steps p.tables e below (T27.setTop (mkF m 85 #[.val (.int p1), .val (.int p2), .val (.ref b1), .val (.ref b17), .val (.int (0 : Int32)), .val (.int s1), .unset] [(.int (1 : Int32)), (.int s1), (.int (1 : Int32))])) _
      refine XS.iadd X27.here hx rfl (hb hby at_85) rfl ?_
      show Steps p.tables e below (T27.setTop (mkF m 86 #[.val (.int p1), .val (.int p2), .val (.ref b1), .val (.ref b17), .val (.int (0 : Int32)), .val (.int s1), .unset] [(.int (s1 + (1 : Int32))), (.int (1 : Int32))])) _
      refine XS.ishr X27.here hx rfl (hb hby at_86) rfl ?_
      show Steps p.tables e below (T27.setTop (mkF m 87 #[.val (.int p1), .val (.int p2), .val (.ref b1), .val (.ref b17), .val (.int (0 : Int32)), .val (.int s1), .unset] [(.int ((1 : Int32) >>> ((s1 + (1 : Int32)) &&& 31)))])) _
      refine XS.iconst X27.here hx rfl (hb hby at_87) ?_
      show Steps p.tables e below (T27.setTop (mkF m 88 #[.val (.int p1), .val (.int p2), .val (.ref b1), .val (.ref b17), .val (.int (0 : Int32)), .val (.int s1), .unset] [(.int (1 : Int32)), (.int ((1 : Int32) >>> ((s1 + (1 : Int32)) &&& 31)))])) _
      refine XS.iand X27.here hx rfl (hb hby at_88) rfl ?_
      exact kt
    by_cases c89_32 : (((1 : Int32) >>> ((s1 + (1 : Int32)) &&& 31)) &&& (1 : Int32)) = (0 : Int32)
    · obtain ⟨cl33, Ar33, q33, S33, M33, H33, G33⟩ := ((((((V16.ext E17).other W19 (Nat.ne_of_lt (Nat.lt_of_lt_of_le (V16).lt (Nat.le_of_eq g17.symm)))).other W21 (Nat.ne_of_lt (Nat.lt_of_lt_of_le (V16).lt (Nat.le_of_eq g17.symm)))).other W23 (Nat.ne_of_lt (Nat.lt_of_lt_of_le (V16).lt (Nat.le_of_eq g17.symm)))).other W25 (Nat.ne_of_lt (Nat.lt_of_lt_of_le (V16).lt (Nat.le_of_eq g17.symm)))).other W27 (Nat.ne_of_lt (Nat.lt_of_lt_of_le (V16).lt (Nat.le_of_eq g17.symm))))
      have hin33 : ¬ ((0 : Int32) < 0 ∨ cl33.slots.size ≤ ((0 : Int32)).toNatClampNeg) := inb_of S33 ⟨by decide, by decide⟩
      have hat33 : cl33.slots[((0 : Int32)).toNatClampNeg]? = some (.ref w_LESS) := H33.at hin33 rfl
      obtain ⟨cq34, kq34, q34a, q34b, q34c⟩ := isOf hZ e27 EE_LESS
      obtain ⟨_, _, ⟨T34, L34, k34, n34⟩, -, X34, ⟨Lc34, hQ34, l34, y34, z34⟩, st34⟩ := X27.virtualBack hx (y := (⟨"com/example/prudent_stability/prudentstability/Relation", "holdsFor", "(I)Z"⟩ : MethodName)) (z := (⟨"com/example/prudent_stability/prudentstability/Relation", "holdsFor", "(I)Z"⟩ : MethodName)) hown (mvT hZ (hw _ (List.mem_of_getElem? (i := 16) rfl))) (mvT hZ (hw _ (List.mem_of_getElem? (i := 17) rfl))) (notFace_of_selects (args := #[]) (mvT hZ (hw _ (List.mem_of_getElem? (i := 19) rfl)))) (mvT hZ (hw _ (List.mem_of_getElem? (i := 19) rfl))) (mvT hZ (hw _ (List.mem_of_getElem? (i := 18) rfl))) (by decide) (backOf (W := 0) (rmH l Z a0 hw [] w_LESS s1 (0 : Int32) (0 : Int32) h27 n0 hsz FF_LESS EE_LESS (by decide) (own_adm0 (0 : Int32) (1 : Int32) s1 (by decide) rs c89_32)) hZ (hw _ (List.mem_of_getElem? (i := 20) rfl)) (hw _ (List.mem_of_getElem? (i := 3) rfl)) (by decide) (by decide)) q34a q34c (g := (mkF m 105 #[.val (.int p1), .val (.int p2), .val (.ref b1), .val (.ref b17), .val (.int (0 : Int32)), .val (.int s1), .val (.int (0 : Int32))] [(.int s1), (.ref w_LESS)])) rfl (by rw [hml]; rfl) (Steps.refl _) (argsL := [(.int s1)]) (rest := []) (lenOf pd_rm0_0 rfl) rfl (by show 2 * 0 + _ ≤ _; exact Nat.le_of_eq rfl) (hb hby at_105) (fun _ _ => ⟨rfl, e27, (by decide : 2 + 0 ≤ _), (by decide : 10 + 0 ≤ _)⟩)
      dsimp only [Pt.U, Pt.locs, Pt.cells, Pt.slots] at X34 l34 y34 z34 st34 hQ34
      subst l34 y34 z34
      obtain ⟨rfl, N34q, hE34⟩ := hQ34
      have N34 := Fr.app N27 N34q
      have pre35 : ∀ tt, Steps p.tables e below (T34.setTop (mkF m 118 #[.val (.int p1), .val (.int p2), .val (.ref b1), .val (.ref b17), .val (.int (0 : Int32)), .val (.int s1), .val (.int (0 : Int32))] [(.int (1 : Int32))])) tt → Steps p.tables e below (s₁.setTop (entryFrame m #[(.int p1), (.int p2)] maxLocals)) tt := by
        intro tt kt
        refine pre31 tt ?_
        show Steps p.tables e below (T27.setTop (mkF m 89 #[.val (.int p1), .val (.int p2), .val (.ref b1), .val (.ref b17), .val (.int (0 : Int32)), .val (.int s1), .unset] [(.int (((1 : Int32) >>> ((s1 + (1 : Int32)) &&& 31)) &&& (1 : Int32)))])) _
        refine XS.ifYes X27.here hx rfl (pc0 := 89) (pc' := 96) rfl (hb hby at_89) rfl ((if0 _ _).trans (teq c89_32).1) (by decide) (by decide) ?_
        show Steps p.tables e below (T27.setTop (mkF m 96 #[.val (.int p1), .val (.int p2), .val (.ref b1), .val (.ref b17), .val (.int (0 : Int32)), .val (.int s1), .unset] [])) _
        refine XS.iconst X27.here hx rfl (hb hby at_96) ?_
        show Steps p.tables e below (T27.setTop (mkF m 97 #[.val (.int p1), .val (.int p2), .val (.ref b1), .val (.ref b17), .val (.int (0 : Int32)), .val (.int s1), .unset] [(.int (0 : Int32))])) _
        refine XS.istore X27.here hx rfl (hb hby at_97) rfl (l' := #[.val (.int p1), .val (.int p2), .val (.ref b1), .val (.ref b17), .val (.int (0 : Int32)), .val (.int s1), .val (.int (0 : Int32))]) rfl ?_
        show Steps p.tables e below (T27.setTop (mkF m 99 #[.val (.int p1), .val (.int p2), .val (.ref b1), .val (.ref b17), .val (.int (0 : Int32)), .val (.int s1), .val (.int (0 : Int32))] [])) _
        refine XS.aloadN X27.here hx rfl (hb hby at_99) rfl rfl ?_
        show Steps p.tables e below (T27.setTop (mkF m 100 #[.val (.int p1), .val (.int p2), .val (.ref b1), .val (.ref b17), .val (.int (0 : Int32)), .val (.int s1), .val (.int (0 : Int32))] [(.ref b1)])) _
        refine XS.iload X27.here hx rfl (hb hby at_100) rfl ?_
        show Steps p.tables e below (T27.setTop (mkF m 102 #[.val (.int p1), .val (.int p2), .val (.ref b1), .val (.ref b17), .val (.int (0 : Int32)), .val (.int s1), .val (.int (0 : Int32))] [(.int (0 : Int32)), (.ref b1)])) _
        refine X27.aaload hx (j := (0 : Int32)) (v := (.ref w_LESS)) (by rw [e27]; exact Ar33.1) (State.isArrayOf_alike hZ.alike Ar33.2.1) rfl Ar33.2.2 hin33 hat33 (g := (mkF m 102 #[.val (.int p1), .val (.int p2), .val (.ref b1), .val (.ref b17), .val (.int (0 : Int32)), .val (.int s1), .val (.int (0 : Int32))] [(.int (0 : Int32)), (.ref b1)])) rfl rfl (hb hby at_102) _ ?_
        show Steps p.tables e below (T27.setTop (mkF m 103 #[.val (.int p1), .val (.int p2), .val (.ref b1), .val (.ref b17), .val (.int (0 : Int32)), .val (.int s1), .val (.int (0 : Int32))] [(.ref w_LESS)])) _
        refine XS.iload X27.here hx rfl (hb hby at_103) rfl ?_
        show Steps p.tables e below (T27.setTop (mkF m 105 #[.val (.int p1), .val (.int p2), .val (.ref b1), .val (.ref b17), .val (.int (0 : Int32)), .val (.int s1), .val (.int (0 : Int32))] [(.int s1), (.ref w_LESS)])) _
        refine st34.trans ?_
        show Steps p.tables e below (T34.setTop (mkF m 108 #[.val (.int p1), .val (.int p2), .val (.ref b1), .val (.ref b17), .val (.int (0 : Int32)), .val (.int s1), .val (.int (0 : Int32))] [(.int (0 : Int32))])) _
        refine XS.iload X34.here hx rfl (hb hby at_108) rfl ?_
        show Steps p.tables e below (T34.setTop (mkF m 110 #[.val (.int p1), .val (.int p2), .val (.ref b1), .val (.ref b17), .val (.int (0 : Int32)), .val (.int s1), .val (.int (0 : Int32))] [(.int (0 : Int32)), (.int (0 : Int32))])) _
        refine XS.icmpNo X34.here hx rfl (hb hby at_110) rfl (teq (rfl : (0 : Int32) = (0 : Int32))).2 ?_
        show Steps p.tables e below (T34.setTop (mkF m 113 #[.val (.int p1), .val (.int p2), .val (.ref b1), .val (.ref b17), .val (.int (0 : Int32)), .val (.int s1), .val (.int (0 : Int32))] [])) _
        refine XS.iconst X34.here hx rfl (hb hby at_113) ?_
        show Steps p.tables e below (T34.setTop (mkF m 114 #[.val (.int p1), .val (.int p2), .val (.ref b1), .val (.ref b17), .val (.int (0 : Int32)), .val (.int s1), .val (.int (0 : Int32))] [(.int (1 : Int32))])) _
        refine XS.goto X34.here hx rfl (pc0 := 114) (pc' := 118) rfl (hb hby at_114) (by decide) (by decide) ?_
        exact kt
      obtain ⟨fs, hr, hrun, hended, hW, hsame⟩ := X34.leave (v := some (.int (1 : Int32))) (fun h => by rw [Bd.returns] at h; cases h)
      refine ⟨_, _, pre35 _ ?_, hrun, hended, _, _, rfl, ?_, ⟨_, rfl⟩, hW, hsame.mono (by decide) (by decide)⟩
      · show Steps p.tables e below (T34.setTop (mkF m 118 #[.val (.int p1), .val (.int p2), .val (.ref b1), .val (.ref b17), .val (.int (0 : Int32)), .val (.int s1), .val (.int (0 : Int32))] [(.int (1 : Int32))])) _
        exact retN X34 hx (t := .boolean) Bd.returns (by simp) (hb hby at_118) hr
      · show Q0 Z h0 n0 _ T34.heap _
        rw [hE34]
        exact ⟨rfl, N34⟩
    · obtain ⟨cl36, Ar36, q36, S36, M36, H36, G36⟩ := ((((((V16.ext E17).other W19 (Nat.ne_of_lt (Nat.lt_of_lt_of_le (V16).lt (Nat.le_of_eq g17.symm)))).other W21 (Nat.ne_of_lt (Nat.lt_of_lt_of_le (V16).lt (Nat.le_of_eq g17.symm)))).other W23 (Nat.ne_of_lt (Nat.lt_of_lt_of_le (V16).lt (Nat.le_of_eq g17.symm)))).other W25 (Nat.ne_of_lt (Nat.lt_of_lt_of_le (V16).lt (Nat.le_of_eq g17.symm)))).other W27 (Nat.ne_of_lt (Nat.lt_of_lt_of_le (V16).lt (Nat.le_of_eq g17.symm))))
      have hin36 : ¬ ((0 : Int32) < 0 ∨ cl36.slots.size ≤ ((0 : Int32)).toNatClampNeg) := inb_of S36 ⟨by decide, by decide⟩
      have hat36 : cl36.slots[((0 : Int32)).toNatClampNeg]? = some (.ref w_LESS) := H36.at hin36 rfl
      obtain ⟨cq37, kq37, q37a, q37b, q37c⟩ := isOf hZ e27 EE_LESS
      obtain ⟨_, _, ⟨T37, L37, k37, n37⟩, -, X37, ⟨Lc37, hQ37, l37, y37, z37⟩, st37⟩ := X27.virtualBack hx (y := (⟨"com/example/prudent_stability/prudentstability/Relation", "holdsFor", "(I)Z"⟩ : MethodName)) (z := (⟨"com/example/prudent_stability/prudentstability/Relation", "holdsFor", "(I)Z"⟩ : MethodName)) hown (mvT hZ (hw _ (List.mem_of_getElem? (i := 16) rfl))) (mvT hZ (hw _ (List.mem_of_getElem? (i := 17) rfl))) (notFace_of_selects (args := #[]) (mvT hZ (hw _ (List.mem_of_getElem? (i := 19) rfl)))) (mvT hZ (hw _ (List.mem_of_getElem? (i := 19) rfl))) (mvT hZ (hw _ (List.mem_of_getElem? (i := 18) rfl))) (by decide) (backOf (W := 0) (rmH l Z a0 hw [] w_LESS s1 (0 : Int32) (1 : Int32) h27 n0 hsz FF_LESS EE_LESS (by decide) (own_adm1 (0 : Int32) (1 : Int32) s1 (by decide) rs c89_32)) hZ (hw _ (List.mem_of_getElem? (i := 20) rfl)) (hw _ (List.mem_of_getElem? (i := 3) rfl)) (by decide) (by decide)) q37a q37c (g := (mkF m 105 #[.val (.int p1), .val (.int p2), .val (.ref b1), .val (.ref b17), .val (.int (0 : Int32)), .val (.int s1), .val (.int (1 : Int32))] [(.int s1), (.ref w_LESS)])) rfl (by rw [hml]; rfl) (Steps.refl _) (argsL := [(.int s1)]) (rest := []) (lenOf pd_rm0_0 rfl) rfl (by show 2 * 0 + _ ≤ _; exact Nat.le_of_eq rfl) (hb hby at_105) (fun _ _ => ⟨rfl, e27, (by decide : 2 + 0 ≤ _), (by decide : 10 + 0 ≤ _)⟩)
      dsimp only [Pt.U, Pt.locs, Pt.cells, Pt.slots] at X37 l37 y37 z37 st37 hQ37
      subst l37 y37 z37
      obtain ⟨rfl, N37q, hE37⟩ := hQ37
      have N37 := Fr.app N27 N37q
      have pre38 : ∀ tt, Steps p.tables e below (T37.setTop (mkF m 118 #[.val (.int p1), .val (.int p2), .val (.ref b1), .val (.ref b17), .val (.int (0 : Int32)), .val (.int s1), .val (.int (1 : Int32))] [(.int (1 : Int32))])) tt → Steps p.tables e below (s₁.setTop (entryFrame m #[(.int p1), (.int p2)] maxLocals)) tt := by
        intro tt kt
        refine pre31 tt ?_
        show Steps p.tables e below (T27.setTop (mkF m 89 #[.val (.int p1), .val (.int p2), .val (.ref b1), .val (.ref b17), .val (.int (0 : Int32)), .val (.int s1), .unset] [(.int (((1 : Int32) >>> ((s1 + (1 : Int32)) &&& 31)) &&& (1 : Int32)))])) _
        refine XS.ifNo X27.here hx rfl (hb hby at_89) rfl ((if0 _ _).trans (feq c89_32).1) ?_
        show Steps p.tables e below (T27.setTop (mkF m 92 #[.val (.int p1), .val (.int p2), .val (.ref b1), .val (.ref b17), .val (.int (0 : Int32)), .val (.int s1), .unset] [])) _
        refine XS.iconst X27.here hx rfl (hb hby at_92) ?_
        show Steps p.tables e below (T27.setTop (mkF m 93 #[.val (.int p1), .val (.int p2), .val (.ref b1), .val (.ref b17), .val (.int (0 : Int32)), .val (.int s1), .unset] [(.int (1 : Int32))])) _
        refine XS.goto X27.here hx rfl (pc0 := 93) (pc' := 97) rfl (hb hby at_93) (by decide) (by decide) ?_
        show Steps p.tables e below (T27.setTop (mkF m 97 #[.val (.int p1), .val (.int p2), .val (.ref b1), .val (.ref b17), .val (.int (0 : Int32)), .val (.int s1), .unset] [(.int (1 : Int32))])) _
        refine XS.istore X27.here hx rfl (hb hby at_97) rfl (l' := #[.val (.int p1), .val (.int p2), .val (.ref b1), .val (.ref b17), .val (.int (0 : Int32)), .val (.int s1), .val (.int (1 : Int32))]) rfl ?_
        show Steps p.tables e below (T27.setTop (mkF m 99 #[.val (.int p1), .val (.int p2), .val (.ref b1), .val (.ref b17), .val (.int (0 : Int32)), .val (.int s1), .val (.int (1 : Int32))] [])) _
        refine XS.aloadN X27.here hx rfl (hb hby at_99) rfl rfl ?_
        show Steps p.tables e below (T27.setTop (mkF m 100 #[.val (.int p1), .val (.int p2), .val (.ref b1), .val (.ref b17), .val (.int (0 : Int32)), .val (.int s1), .val (.int (1 : Int32))] [(.ref b1)])) _
        refine XS.iload X27.here hx rfl (hb hby at_100) rfl ?_
        show Steps p.tables e below (T27.setTop (mkF m 102 #[.val (.int p1), .val (.int p2), .val (.ref b1), .val (.ref b17), .val (.int (0 : Int32)), .val (.int s1), .val (.int (1 : Int32))] [(.int (0 : Int32)), (.ref b1)])) _
        refine X27.aaload hx (j := (0 : Int32)) (v := (.ref w_LESS)) (by rw [e27]; exact Ar36.1) (State.isArrayOf_alike hZ.alike Ar36.2.1) rfl Ar36.2.2 hin36 hat36 (g := (mkF m 102 #[.val (.int p1), .val (.int p2), .val (.ref b1), .val (.ref b17), .val (.int (0 : Int32)), .val (.int s1), .val (.int (1 : Int32))] [(.int (0 : Int32)), (.ref b1)])) rfl rfl (hb hby at_102) _ ?_
        show Steps p.tables e below (T27.setTop (mkF m 103 #[.val (.int p1), .val (.int p2), .val (.ref b1), .val (.ref b17), .val (.int (0 : Int32)), .val (.int s1), .val (.int (1 : Int32))] [(.ref w_LESS)])) _
        refine XS.iload X27.here hx rfl (hb hby at_103) rfl ?_
        show Steps p.tables e below (T27.setTop (mkF m 105 #[.val (.int p1), .val (.int p2), .val (.ref b1), .val (.ref b17), .val (.int (0 : Int32)), .val (.int s1), .val (.int (1 : Int32))] [(.int s1), (.ref w_LESS)])) _
        refine st37.trans ?_
        show Steps p.tables e below (T37.setTop (mkF m 108 #[.val (.int p1), .val (.int p2), .val (.ref b1), .val (.ref b17), .val (.int (0 : Int32)), .val (.int s1), .val (.int (1 : Int32))] [(.int (1 : Int32))])) _
        refine XS.iload X37.here hx rfl (hb hby at_108) rfl ?_
        show Steps p.tables e below (T37.setTop (mkF m 110 #[.val (.int p1), .val (.int p2), .val (.ref b1), .val (.ref b17), .val (.int (0 : Int32)), .val (.int s1), .val (.int (1 : Int32))] [(.int (1 : Int32)), (.int (1 : Int32))])) _
        refine XS.icmpNo X37.here hx rfl (hb hby at_110) rfl (teq (rfl : (1 : Int32) = (1 : Int32))).2 ?_
        show Steps p.tables e below (T37.setTop (mkF m 113 #[.val (.int p1), .val (.int p2), .val (.ref b1), .val (.ref b17), .val (.int (0 : Int32)), .val (.int s1), .val (.int (1 : Int32))] [])) _
        refine XS.iconst X37.here hx rfl (hb hby at_113) ?_
        show Steps p.tables e below (T37.setTop (mkF m 114 #[.val (.int p1), .val (.int p2), .val (.ref b1), .val (.ref b17), .val (.int (0 : Int32)), .val (.int s1), .val (.int (1 : Int32))] [(.int (1 : Int32))])) _
        refine XS.goto X37.here hx rfl (pc0 := 114) (pc' := 118) rfl (hb hby at_114) (by decide) (by decide) ?_
        exact kt
      obtain ⟨fs, hr, hrun, hended, hW, hsame⟩ := X37.leave (v := some (.int (1 : Int32))) (fun h => by rw [Bd.returns] at h; cases h)
      refine ⟨_, _, pre38 _ ?_, hrun, hended, _, _, rfl, ?_, ⟨_, rfl⟩, hW, hsame.mono (by decide) (by decide)⟩
      · show Steps p.tables e below (T37.setTop (mkF m 118 #[.val (.int p1), .val (.int p2), .val (.ref b1), .val (.ref b17), .val (.int (0 : Int32)), .val (.int s1), .val (.int (1 : Int32))] [(.int (1 : Int32))])) _
        exact retN X37 hx (t := .boolean) Bd.returns (by simp) (hb hby at_118) hr
      · show Q0 Z h0 n0 _ T37.heap _
        rw [hE37]
        exact ⟨rfl, N37⟩
  · have rt := own_of3 (own_rem p2 (3 : Int32) (by decide))
    obtain ⟨s1, hs1⟩ : ∃ z : Int32, z = (((p2 &&& (2147483647 : Int32)) % (3 : Int32)) - (1 : Int32)) := ⟨_, rfl⟩
    have pre39 : ∀ tt, Steps p.tables e below (T27.setTop (mkF m 76 #[.val (.int p1), .val (.int p2), .val (.ref b1), .val (.ref b17), .val (.int (1 : Int32)), .unset, .unset] [(.int s1)])) tt → Steps p.tables e below (s₁.setTop (entryFrame m #[(.int p1), (.int p2)] maxLocals)) tt := by
      intro tt kt
      refine pre28 tt ?_
      show Steps p.tables e below (T27.setTop (mkF m 66 #[.val (.int p1), .val (.int p2), .val (.ref b1), .val (.ref b17), .unset, .unset, .unset] [(.int (1 : Int32))])) _
      refine XS.istore X27.here hx rfl (hb hby at_66) rfl (l' := #[.val (.int p1), .val (.int p2), .val (.ref b1), .val (.ref b17), .val (.int (1 : Int32)), .unset, .unset]) rfl ?_
      show Steps p.tables e below (T27.setTop (mkF m 68 #[.val (.int p1), .val (.int p2), .val (.ref b1), .val (.ref b17), .val (.int (1 : Int32)), .unset, .unset] [])) _
      refine XS.iloadN X27.here hx rfl (hb hby at_68) rfl ?_
      show Steps p.tables e below (T27.setTop (mkF m 69 #[.val (.int p1), .val (.int p2), .val (.ref b1), .val (.ref b17), .val (.int (1 : Int32)), .unset, .unset] [(.int p2)])) _
      refine X27.ldcInt hx hown (mvT hZ (hw _ (List.mem_of_getElem? (i := 15) rfl))) (g := (mkF m 69 #[.val (.int p1), .val (.int p2), .val (.ref b1), .val (.ref b17), .val (.int (1 : Int32)), .unset, .unset] [(.int p2)])) rfl (hb hby at_69) _ ?_
      show Steps p.tables e below (T27.setTop (mkF m 71 #[.val (.int p1), .val (.int p2), .val (.ref b1), .val (.ref b17), .val (.int (1 : Int32)), .unset, .unset] [(.int (2147483647 : Int32)), (.int p2)])) _
      refine XS.iand X27.here hx rfl (hb hby at_71) rfl ?_
      show Steps p.tables e below (T27.setTop (mkF m 72 #[.val (.int p1), .val (.int p2), .val (.ref b1), .val (.ref b17), .val (.int (1 : Int32)), .unset, .unset] [(.int (p2 &&& (2147483647 : Int32)))])) _
      refine XS.iconst X27.here hx rfl (hb hby at_72) ?_
      show Steps p.tables e below (T27.setTop (mkF m 73 #[.val (.int p1), .val (.int p2), .val (.ref b1), .val (.ref b17), .val (.int (1 : Int32)), .unset, .unset] [(.int (3 : Int32)), (.int (p2 &&& (2147483647 : Int32)))])) _
      refine iremM (g := (mkF m 73 #[.val (.int p1), .val (.int p2), .val (.ref b1), .val (.ref b17), .val (.int (1 : Int32)), .unset, .unset] [(.int (3 : Int32)), (.int (p2 &&& (2147483647 : Int32)))])) X27 hx rfl (hb hby at_73) rfl (by decide : ¬ ((3 : Int32) = (0 : Int32))) ?_
      show Steps p.tables e below (T27.setTop (mkF m 74 #[.val (.int p1), .val (.int p2), .val (.ref b1), .val (.ref b17), .val (.int (1 : Int32)), .unset, .unset] [(.int ((p2 &&& (2147483647 : Int32)) % (3 : Int32)))])) _
      refine XS.iconst X27.here hx rfl (hb hby at_74) ?_
      show Steps p.tables e below (T27.setTop (mkF m 75 #[.val (.int p1), .val (.int p2), .val (.ref b1), .val (.ref b17), .val (.int (1 : Int32)), .unset, .unset] [(.int (1 : Int32)), (.int ((p2 &&& (2147483647 : Int32)) % (3 : Int32)))])) _
      refine XS.isub X27.here hx rfl (hb hby at_75) rfl ?_
      show Steps p.tables e below (T27.setTop (mkF m 76 #[.val (.int p1), .val (.int p2), .val (.ref b1), .val (.ref b17), .val (.int (1 : Int32)), .unset, .unset] [(.int (((p2 &&& (2147483647 : Int32)) % (3 : Int32)) - (1 : Int32)))])) _
      rw [← hs1]
      exact kt
    have rs : s1 = -1 ∨ s1 = 0 ∨ s1 = 1 := by
      rw [hs1]; rcases rt with q | q | q <;> rw [q] <;> decide
    clear hs1 rt
    obtain ⟨cl40, Ar40, q40, S40, M40, H40, G40⟩ := V27
    have hin40 : ¬ ((1 : Int32) < 0 ∨ cl40.slots.size ≤ ((1 : Int32)).toNatClampNeg) := inb_of S40 ⟨by decide, by decide⟩
    have hat40 : cl40.slots[((1 : Int32)).toNatClampNeg]? = some (.int (3 : Int32)) := H40.at hin40 rfl
    have pre41 : ∀ tt, Steps p.tables e below (T27.setTop (mkF m 89 #[.val (.int p1), .val (.int p2), .val (.ref b1), .val (.ref b17), .val (.int (1 : Int32)), .val (.int s1), .unset] [(.int (((3 : Int32) >>> ((s1 + (1 : Int32)) &&& 31)) &&& (1 : Int32)))])) tt → Steps p.tables e below (s₁.setTop (entryFrame m #[(.int p1), (.int p2)] maxLocals)) tt := by
      intro tt kt
      refine pre39 tt ?_
      show Steps p.tables e below (T27.setTop (mkF m 76 #[.val (.int p1), .val (.int p2), .val (.ref b1), .val (.ref b17), .val (.int (1 : Int32)), .unset, .unset] [(.int s1)])) _
      refine XS.istore X27.here hx rfl (hb hby at_76) rfl (l' := #[.val (.int p1), .val (.int p2), .val (.ref b1), .val (.ref b17), .val (.int (1 : Int32)), .val (.int s1), .unset]) rfl ?_
      show Steps p.tables e below (T27.setTop (mkF m 78 #[.val (.int p1), .val (.int p2), .val (.ref b1), .val (.ref b17), .val (.int (1 : Int32)), .val (.int s1), .unset] [])) _
      refine XS.aloadN X27.here hx rfl (hb hby at_78) rfl rfl ?_
      show Steps p.tables e below (T27.setTop (mkF m 79 #[.val (.int p1), .val (.int p2), .val (.ref b1), .val (.ref b17), .val (.int (1 : Int32)), .val (.int s1), .unset] [(.ref b17)])) _
      refine XS.iload X27.here hx rfl (hb hby at_79) rfl ?_
      show Steps p.tables e below (T27.setTop (mkF m 81 #[.val (.int p1), .val (.int p2), .val (.ref b1), .val (.ref b17), .val (.int (1 : Int32)), .val (.int s1), .unset] [(.int (1 : Int32)), (.ref b17)])) _
      refine X27.iaload hx (j := (1 : Int32)) (v := (.int (3 : Int32))) (by rw [e27]; exact Ar40.1) (State.isArrayOf_alike hZ.alike Ar40.2.1) Ar40.2.2 hin40 hat40 (g := (mkF m 81 #[.val (.int p1), .val (.int p2), .val (.ref b1), .val (.ref b17), .val (.int (1 : Int32)), .val (.int s1), .unset] [(.int (1 : Int32)), (.ref b17)])) rfl rfl (hb hby at_81) _ ?_
      show Steps p.tables e below (T27.setTop (mkF m 82 #[.val (.int p1), .val (.int p2), .val (.ref b1), .val (.ref b17), .val (.int (1 : Int32)), .val (.int s1), .unset] [(.int (3 : Int32))])) _
      refine XS.iload X27.here hx rfl (hb hby at_82) rfl ?_
      show Steps p.tables e below (T27.setTop (mkF m 84 #[.val (.int p1), .val (.int p2), .val (.ref b1), .val (.ref b17), .val (.int (1 : Int32)), .val (.int s1), .unset] [(.int s1), (.int (3 : Int32))])) _
      refine XS.iconst X27.here hx rfl (hb hby at_84) ?_
      show Steps p.tables e below (T27.setTop (mkF m 85 #[.val (.int p1), .val (.int p2), .val (.ref b1), .val (.ref b17), .val (.int (1 : Int32)), .val (.int s1), .unset] [(.int (1 : Int32)), (.int s1), (.int (3 : Int32))])) _
      refine XS.iadd X27.here hx rfl (hb hby at_85) rfl ?_
      show Steps p.tables e below (T27.setTop (mkF m 86 #[.val (.int p1), .val (.int p2), .val (.ref b1), .val (.ref b17), .val (.int (1 : Int32)), .val (.int s1), .unset] [(.int (s1 + (1 : Int32))), (.int (3 : Int32))])) _
      refine XS.ishr X27.here hx rfl (hb hby at_86) rfl ?_
      show Steps p.tables e below (T27.setTop (mkF m 87 #[.val (.int p1), .val (.int p2), .val (.ref b1), .val (.ref b17), .val (.int (1 : Int32)), .val (.int s1), .unset] [(.int ((3 : Int32) >>> ((s1 + (1 : Int32)) &&& 31)))])) _
      refine XS.iconst X27.here hx rfl (hb hby at_87) ?_
      show Steps p.tables e below (T27.setTop (mkF m 88 #[.val (.int p1), .val (.int p2), .val (.ref b1), .val (.ref b17), .val (.int (1 : Int32)), .val (.int s1), .unset] [(.int (1 : Int32)), (.int ((3 : Int32) >>> ((s1 + (1 : Int32)) &&& 31)))])) _
      refine XS.iand X27.here hx rfl (hb hby at_88) rfl ?_
      exact kt
    by_cases c89_42 : (((3 : Int32) >>> ((s1 + (1 : Int32)) &&& 31)) &&& (1 : Int32)) = (0 : Int32)
    · obtain ⟨cl43, Ar43, q43, S43, M43, H43, G43⟩ := ((((((V16.ext E17).other W19 (Nat.ne_of_lt (Nat.lt_of_lt_of_le (V16).lt (Nat.le_of_eq g17.symm)))).other W21 (Nat.ne_of_lt (Nat.lt_of_lt_of_le (V16).lt (Nat.le_of_eq g17.symm)))).other W23 (Nat.ne_of_lt (Nat.lt_of_lt_of_le (V16).lt (Nat.le_of_eq g17.symm)))).other W25 (Nat.ne_of_lt (Nat.lt_of_lt_of_le (V16).lt (Nat.le_of_eq g17.symm)))).other W27 (Nat.ne_of_lt (Nat.lt_of_lt_of_le (V16).lt (Nat.le_of_eq g17.symm))))
      have hin43 : ¬ ((1 : Int32) < 0 ∨ cl43.slots.size ≤ ((1 : Int32)).toNatClampNeg) := inb_of S43 ⟨by decide, by decide⟩
      have hat43 : cl43.slots[((1 : Int32)).toNatClampNeg]? = some (.ref w_LESS_OR_EQUAL) := H43.at hin43 rfl
      obtain ⟨cq44, kq44, q44a, q44b, q44c⟩ := isOf hZ e27 EE_LESS_OR_EQUAL
      obtain ⟨_, _, ⟨T44, L44, k44, n44⟩, -, X44, ⟨Lc44, hQ44, l44, y44, z44⟩, st44⟩ := X27.virtualBack hx (y := (⟨"com/example/prudent_stability/prudentstability/Relation", "holdsFor", "(I)Z"⟩ : MethodName)) (z := (⟨"com/example/prudent_stability/prudentstability/Relation", "holdsFor", "(I)Z"⟩ : MethodName)) hown (mvT hZ (hw _ (List.mem_of_getElem? (i := 16) rfl))) (mvT hZ (hw _ (List.mem_of_getElem? (i := 17) rfl))) (notFace_of_selects (args := #[]) (mvT hZ (hw _ (List.mem_of_getElem? (i := 19) rfl)))) (mvT hZ (hw _ (List.mem_of_getElem? (i := 19) rfl))) (mvT hZ (hw _ (List.mem_of_getElem? (i := 18) rfl))) (by decide) (backOf (W := 0) (rmH l Z a0 hw [] w_LESS_OR_EQUAL s1 (1 : Int32) (0 : Int32) h27 n0 hsz FF_LESS_OR_EQUAL EE_LESS_OR_EQUAL (by decide) (own_adm0 (1 : Int32) (3 : Int32) s1 (by decide) rs c89_42)) hZ (hw _ (List.mem_of_getElem? (i := 20) rfl)) (hw _ (List.mem_of_getElem? (i := 3) rfl)) (by decide) (by decide)) q44a q44c (g := (mkF m 105 #[.val (.int p1), .val (.int p2), .val (.ref b1), .val (.ref b17), .val (.int (1 : Int32)), .val (.int s1), .val (.int (0 : Int32))] [(.int s1), (.ref w_LESS_OR_EQUAL)])) rfl (by rw [hml]; rfl) (Steps.refl _) (argsL := [(.int s1)]) (rest := []) (lenOf pd_rm0_0 rfl) rfl (by show 2 * 0 + _ ≤ _; exact Nat.le_of_eq rfl) (hb hby at_105) (fun _ _ => ⟨rfl, e27, (by decide : 2 + 0 ≤ _), (by decide : 10 + 0 ≤ _)⟩)
      dsimp only [Pt.U, Pt.locs, Pt.cells, Pt.slots] at X44 l44 y44 z44 st44 hQ44
      subst l44 y44 z44
      obtain ⟨rfl, N44q, hE44⟩ := hQ44
      have N44 := Fr.app N27 N44q
      have pre45 : ∀ tt, Steps p.tables e below (T44.setTop (mkF m 118 #[.val (.int p1), .val (.int p2), .val (.ref b1), .val (.ref b17), .val (.int (1 : Int32)), .val (.int s1), .val (.int (0 : Int32))] [(.int (1 : Int32))])) tt → Steps p.tables e below (s₁.setTop (entryFrame m #[(.int p1), (.int p2)] maxLocals)) tt := by
        intro tt kt
        refine pre41 tt ?_
        show Steps p.tables e below (T27.setTop (mkF m 89 #[.val (.int p1), .val (.int p2), .val (.ref b1), .val (.ref b17), .val (.int (1 : Int32)), .val (.int s1), .unset] [(.int (((3 : Int32) >>> ((s1 + (1 : Int32)) &&& 31)) &&& (1 : Int32)))])) _
        refine XS.ifYes X27.here hx rfl (pc0 := 89) (pc' := 96) rfl (hb hby at_89) rfl ((if0 _ _).trans (teq c89_42).1) (by decide) (by decide) ?_
        show Steps p.tables e below (T27.setTop (mkF m 96 #[.val (.int p1), .val (.int p2), .val (.ref b1), .val (.ref b17), .val (.int (1 : Int32)), .val (.int s1), .unset] [])) _
        refine XS.iconst X27.here hx rfl (hb hby at_96) ?_
        show Steps p.tables e below (T27.setTop (mkF m 97 #[.val (.int p1), .val (.int p2), .val (.ref b1), .val (.ref b17), .val (.int (1 : Int32)), .val (.int s1), .unset] [(.int (0 : Int32))])) _
        refine XS.istore X27.here hx rfl (hb hby at_97) rfl (l' := #[.val (.int p1), .val (.int p2), .val (.ref b1), .val (.ref b17), .val (.int (1 : Int32)), .val (.int s1), .val (.int (0 : Int32))]) rfl ?_
        show Steps p.tables e below (T27.setTop (mkF m 99 #[.val (.int p1), .val (.int p2), .val (.ref b1), .val (.ref b17), .val (.int (1 : Int32)), .val (.int s1), .val (.int (0 : Int32))] [])) _
        refine XS.aloadN X27.here hx rfl (hb hby at_99) rfl rfl ?_
        show Steps p.tables e below (T27.setTop (mkF m 100 #[.val (.int p1), .val (.int p2), .val (.ref b1), .val (.ref b17), .val (.int (1 : Int32)), .val (.int s1), .val (.int (0 : Int32))] [(.ref b1)])) _
        refine XS.iload X27.here hx rfl (hb hby at_100) rfl ?_
        show Steps p.tables e below (T27.setTop (mkF m 102 #[.val (.int p1), .val (.int p2), .val (.ref b1), .val (.ref b17), .val (.int (1 : Int32)), .val (.int s1), .val (.int (0 : Int32))] [(.int (1 : Int32)), (.ref b1)])) _
        refine X27.aaload hx (j := (1 : Int32)) (v := (.ref w_LESS_OR_EQUAL)) (by rw [e27]; exact Ar43.1) (State.isArrayOf_alike hZ.alike Ar43.2.1) rfl Ar43.2.2 hin43 hat43 (g := (mkF m 102 #[.val (.int p1), .val (.int p2), .val (.ref b1), .val (.ref b17), .val (.int (1 : Int32)), .val (.int s1), .val (.int (0 : Int32))] [(.int (1 : Int32)), (.ref b1)])) rfl rfl (hb hby at_102) _ ?_
        show Steps p.tables e below (T27.setTop (mkF m 103 #[.val (.int p1), .val (.int p2), .val (.ref b1), .val (.ref b17), .val (.int (1 : Int32)), .val (.int s1), .val (.int (0 : Int32))] [(.ref w_LESS_OR_EQUAL)])) _
        refine XS.iload X27.here hx rfl (hb hby at_103) rfl ?_
        show Steps p.tables e below (T27.setTop (mkF m 105 #[.val (.int p1), .val (.int p2), .val (.ref b1), .val (.ref b17), .val (.int (1 : Int32)), .val (.int s1), .val (.int (0 : Int32))] [(.int s1), (.ref w_LESS_OR_EQUAL)])) _
        refine st44.trans ?_
        show Steps p.tables e below (T44.setTop (mkF m 108 #[.val (.int p1), .val (.int p2), .val (.ref b1), .val (.ref b17), .val (.int (1 : Int32)), .val (.int s1), .val (.int (0 : Int32))] [(.int (0 : Int32))])) _
        refine XS.iload X44.here hx rfl (hb hby at_108) rfl ?_
        show Steps p.tables e below (T44.setTop (mkF m 110 #[.val (.int p1), .val (.int p2), .val (.ref b1), .val (.ref b17), .val (.int (1 : Int32)), .val (.int s1), .val (.int (0 : Int32))] [(.int (0 : Int32)), (.int (0 : Int32))])) _
        refine XS.icmpNo X44.here hx rfl (hb hby at_110) rfl (teq (rfl : (0 : Int32) = (0 : Int32))).2 ?_
        show Steps p.tables e below (T44.setTop (mkF m 113 #[.val (.int p1), .val (.int p2), .val (.ref b1), .val (.ref b17), .val (.int (1 : Int32)), .val (.int s1), .val (.int (0 : Int32))] [])) _
        refine XS.iconst X44.here hx rfl (hb hby at_113) ?_
        show Steps p.tables e below (T44.setTop (mkF m 114 #[.val (.int p1), .val (.int p2), .val (.ref b1), .val (.ref b17), .val (.int (1 : Int32)), .val (.int s1), .val (.int (0 : Int32))] [(.int (1 : Int32))])) _
        refine XS.goto X44.here hx rfl (pc0 := 114) (pc' := 118) rfl (hb hby at_114) (by decide) (by decide) ?_
        exact kt
      obtain ⟨fs, hr, hrun, hended, hW, hsame⟩ := X44.leave (v := some (.int (1 : Int32))) (fun h => by rw [Bd.returns] at h; cases h)
      refine ⟨_, _, pre45 _ ?_, hrun, hended, _, _, rfl, ?_, ⟨_, rfl⟩, hW, hsame.mono (by decide) (by decide)⟩
      · show Steps p.tables e below (T44.setTop (mkF m 118 #[.val (.int p1), .val (.int p2), .val (.ref b1), .val (.ref b17), .val (.int (1 : Int32)), .val (.int s1), .val (.int (0 : Int32))] [(.int (1 : Int32))])) _
        exact retN X44 hx (t := .boolean) Bd.returns (by simp) (hb hby at_118) hr
      · show Q0 Z h0 n0 _ T44.heap _
        rw [hE44]
        exact ⟨rfl, N44⟩
    · obtain ⟨cl46, Ar46, q46, S46, M46, H46, G46⟩ := ((((((V16.ext E17).other W19 (Nat.ne_of_lt (Nat.lt_of_lt_of_le (V16).lt (Nat.le_of_eq g17.symm)))).other W21 (Nat.ne_of_lt (Nat.lt_of_lt_of_le (V16).lt (Nat.le_of_eq g17.symm)))).other W23 (Nat.ne_of_lt (Nat.lt_of_lt_of_le (V16).lt (Nat.le_of_eq g17.symm)))).other W25 (Nat.ne_of_lt (Nat.lt_of_lt_of_le (V16).lt (Nat.le_of_eq g17.symm)))).other W27 (Nat.ne_of_lt (Nat.lt_of_lt_of_le (V16).lt (Nat.le_of_eq g17.symm))))
      have hin46 : ¬ ((1 : Int32) < 0 ∨ cl46.slots.size ≤ ((1 : Int32)).toNatClampNeg) := inb_of S46 ⟨by decide, by decide⟩
      have hat46 : cl46.slots[((1 : Int32)).toNatClampNeg]? = some (.ref w_LESS_OR_EQUAL) := H46.at hin46 rfl
      obtain ⟨cq47, kq47, q47a, q47b, q47c⟩ := isOf hZ e27 EE_LESS_OR_EQUAL
      obtain ⟨_, _, ⟨T47, L47, k47, n47⟩, -, X47, ⟨Lc47, hQ47, l47, y47, z47⟩, st47⟩ := X27.virtualBack hx (y := (⟨"com/example/prudent_stability/prudentstability/Relation", "holdsFor", "(I)Z"⟩ : MethodName)) (z := (⟨"com/example/prudent_stability/prudentstability/Relation", "holdsFor", "(I)Z"⟩ : MethodName)) hown (mvT hZ (hw _ (List.mem_of_getElem? (i := 16) rfl))) (mvT hZ (hw _ (List.mem_of_getElem? (i := 17) rfl))) (notFace_of_selects (args := #[]) (mvT hZ (hw _ (List.mem_of_getElem? (i := 19) rfl)))) (mvT hZ (hw _ (List.mem_of_getElem? (i := 19) rfl))) (mvT hZ (hw _ (List.mem_of_getElem? (i := 18) rfl))) (by decide) (backOf (W := 0) (rmH l Z a0 hw [] w_LESS_OR_EQUAL s1 (1 : Int32) (1 : Int32) h27 n0 hsz FF_LESS_OR_EQUAL EE_LESS_OR_EQUAL (by decide) (own_adm1 (1 : Int32) (3 : Int32) s1 (by decide) rs c89_42)) hZ (hw _ (List.mem_of_getElem? (i := 20) rfl)) (hw _ (List.mem_of_getElem? (i := 3) rfl)) (by decide) (by decide)) q47a q47c (g := (mkF m 105 #[.val (.int p1), .val (.int p2), .val (.ref b1), .val (.ref b17), .val (.int (1 : Int32)), .val (.int s1), .val (.int (1 : Int32))] [(.int s1), (.ref w_LESS_OR_EQUAL)])) rfl (by rw [hml]; rfl) (Steps.refl _) (argsL := [(.int s1)]) (rest := []) (lenOf pd_rm0_0 rfl) rfl (by show 2 * 0 + _ ≤ _; exact Nat.le_of_eq rfl) (hb hby at_105) (fun _ _ => ⟨rfl, e27, (by decide : 2 + 0 ≤ _), (by decide : 10 + 0 ≤ _)⟩)
      dsimp only [Pt.U, Pt.locs, Pt.cells, Pt.slots] at X47 l47 y47 z47 st47 hQ47
      subst l47 y47 z47
      obtain ⟨rfl, N47q, hE47⟩ := hQ47
      have N47 := Fr.app N27 N47q
      have pre48 : ∀ tt, Steps p.tables e below (T47.setTop (mkF m 118 #[.val (.int p1), .val (.int p2), .val (.ref b1), .val (.ref b17), .val (.int (1 : Int32)), .val (.int s1), .val (.int (1 : Int32))] [(.int (1 : Int32))])) tt → Steps p.tables e below (s₁.setTop (entryFrame m #[(.int p1), (.int p2)] maxLocals)) tt := by
        intro tt kt
        refine pre41 tt ?_
        show Steps p.tables e below (T27.setTop (mkF m 89 #[.val (.int p1), .val (.int p2), .val (.ref b1), .val (.ref b17), .val (.int (1 : Int32)), .val (.int s1), .unset] [(.int (((3 : Int32) >>> ((s1 + (1 : Int32)) &&& 31)) &&& (1 : Int32)))])) _
        refine XS.ifNo X27.here hx rfl (hb hby at_89) rfl ((if0 _ _).trans (feq c89_42).1) ?_
        show Steps p.tables e below (T27.setTop (mkF m 92 #[.val (.int p1), .val (.int p2), .val (.ref b1), .val (.ref b17), .val (.int (1 : Int32)), .val (.int s1), .unset] [])) _
        refine XS.iconst X27.here hx rfl (hb hby at_92) ?_
        show Steps p.tables e below (T27.setTop (mkF m 93 #[.val (.int p1), .val (.int p2), .val (.ref b1), .val (.ref b17), .val (.int (1 : Int32)), .val (.int s1), .unset] [(.int (1 : Int32))])) _
        refine XS.goto X27.here hx rfl (pc0 := 93) (pc' := 97) rfl (hb hby at_93) (by decide) (by decide) ?_
        show Steps p.tables e below (T27.setTop (mkF m 97 #[.val (.int p1), .val (.int p2), .val (.ref b1), .val (.ref b17), .val (.int (1 : Int32)), .val (.int s1), .unset] [(.int (1 : Int32))])) _
        refine XS.istore X27.here hx rfl (hb hby at_97) rfl (l' := #[.val (.int p1), .val (.int p2), .val (.ref b1), .val (.ref b17), .val (.int (1 : Int32)), .val (.int s1), .val (.int (1 : Int32))]) rfl ?_
        show Steps p.tables e below (T27.setTop (mkF m 99 #[.val (.int p1), .val (.int p2), .val (.ref b1), .val (.ref b17), .val (.int (1 : Int32)), .val (.int s1), .val (.int (1 : Int32))] [])) _
        refine XS.aloadN X27.here hx rfl (hb hby at_99) rfl rfl ?_
        show Steps p.tables e below (T27.setTop (mkF m 100 #[.val (.int p1), .val (.int p2), .val (.ref b1), .val (.ref b17), .val (.int (1 : Int32)), .val (.int s1), .val (.int (1 : Int32))] [(.ref b1)])) _
        refine XS.iload X27.here hx rfl (hb hby at_100) rfl ?_
        show Steps p.tables e below (T27.setTop (mkF m 102 #[.val (.int p1), .val (.int p2), .val (.ref b1), .val (.ref b17), .val (.int (1 : Int32)), .val (.int s1), .val (.int (1 : Int32))] [(.int (1 : Int32)), (.ref b1)])) _
        refine X27.aaload hx (j := (1 : Int32)) (v := (.ref w_LESS_OR_EQUAL)) (by rw [e27]; exact Ar46.1) (State.isArrayOf_alike hZ.alike Ar46.2.1) rfl Ar46.2.2 hin46 hat46 (g := (mkF m 102 #[.val (.int p1), .val (.int p2), .val (.ref b1), .val (.ref b17), .val (.int (1 : Int32)), .val (.int s1), .val (.int (1 : Int32))] [(.int (1 : Int32)), (.ref b1)])) rfl rfl (hb hby at_102) _ ?_
        show Steps p.tables e below (T27.setTop (mkF m 103 #[.val (.int p1), .val (.int p2), .val (.ref b1), .val (.ref b17), .val (.int (1 : Int32)), .val (.int s1), .val (.int (1 : Int32))] [(.ref w_LESS_OR_EQUAL)])) _
        refine XS.iload X27.here hx rfl (hb hby at_103) rfl ?_
        show Steps p.tables e below (T27.setTop (mkF m 105 #[.val (.int p1), .val (.int p2), .val (.ref b1), .val (.ref b17), .val (.int (1 : Int32)), .val (.int s1), .val (.int (1 : Int32))] [(.int s1), (.ref w_LESS_OR_EQUAL)])) _
        refine st47.trans ?_
        show Steps p.tables e below (T47.setTop (mkF m 108 #[.val (.int p1), .val (.int p2), .val (.ref b1), .val (.ref b17), .val (.int (1 : Int32)), .val (.int s1), .val (.int (1 : Int32))] [(.int (1 : Int32))])) _
        refine XS.iload X47.here hx rfl (hb hby at_108) rfl ?_
        show Steps p.tables e below (T47.setTop (mkF m 110 #[.val (.int p1), .val (.int p2), .val (.ref b1), .val (.ref b17), .val (.int (1 : Int32)), .val (.int s1), .val (.int (1 : Int32))] [(.int (1 : Int32)), (.int (1 : Int32))])) _
        refine XS.icmpNo X47.here hx rfl (hb hby at_110) rfl (teq (rfl : (1 : Int32) = (1 : Int32))).2 ?_
        show Steps p.tables e below (T47.setTop (mkF m 113 #[.val (.int p1), .val (.int p2), .val (.ref b1), .val (.ref b17), .val (.int (1 : Int32)), .val (.int s1), .val (.int (1 : Int32))] [])) _
        refine XS.iconst X47.here hx rfl (hb hby at_113) ?_
        show Steps p.tables e below (T47.setTop (mkF m 114 #[.val (.int p1), .val (.int p2), .val (.ref b1), .val (.ref b17), .val (.int (1 : Int32)), .val (.int s1), .val (.int (1 : Int32))] [(.int (1 : Int32))])) _
        refine XS.goto X47.here hx rfl (pc0 := 114) (pc' := 118) rfl (hb hby at_114) (by decide) (by decide) ?_
        exact kt
      obtain ⟨fs, hr, hrun, hended, hW, hsame⟩ := X47.leave (v := some (.int (1 : Int32))) (fun h => by rw [Bd.returns] at h; cases h)
      refine ⟨_, _, pre48 _ ?_, hrun, hended, _, _, rfl, ?_, ⟨_, rfl⟩, hW, hsame.mono (by decide) (by decide)⟩
      · show Steps p.tables e below (T47.setTop (mkF m 118 #[.val (.int p1), .val (.int p2), .val (.ref b1), .val (.ref b17), .val (.int (1 : Int32)), .val (.int s1), .val (.int (1 : Int32))] [(.int (1 : Int32))])) _
        exact retN X47 hx (t := .boolean) Bd.returns (by simp) (hb hby at_118) hr
      · show Q0 Z h0 n0 _ T47.heap _
        rw [hE47]
        exact ⟨rfl, N47⟩
  · have rt := own_of3 (own_rem p2 (3 : Int32) (by decide))
    obtain ⟨s1, hs1⟩ : ∃ z : Int32, z = (((p2 &&& (2147483647 : Int32)) % (3 : Int32)) - (1 : Int32)) := ⟨_, rfl⟩
    have pre49 : ∀ tt, Steps p.tables e below (T27.setTop (mkF m 76 #[.val (.int p1), .val (.int p2), .val (.ref b1), .val (.ref b17), .val (.int (2 : Int32)), .unset, .unset] [(.int s1)])) tt → Steps p.tables e below (s₁.setTop (entryFrame m #[(.int p1), (.int p2)] maxLocals)) tt := by
      intro tt kt
      refine pre28 tt ?_
      show Steps p.tables e below (T27.setTop (mkF m 66 #[.val (.int p1), .val (.int p2), .val (.ref b1), .val (.ref b17), .unset, .unset, .unset] [(.int (2 : Int32))])) _
      refine XS.istore X27.here hx rfl (hb hby at_66) rfl (l' := #[.val (.int p1), .val (.int p2), .val (.ref b1), .val (.ref b17), .val (.int (2 : Int32)), .unset, .unset]) rfl ?_
      show Steps p.tables e below (T27.setTop (mkF m 68 #[.val (.int p1), .val (.int p2), .val (.ref b1), .val (.ref b17), .val (.int (2 : Int32)), .unset, .unset] [])) _
      refine XS.iloadN X27.here hx rfl (hb hby at_68) rfl ?_
      show Steps p.tables e below (T27.setTop (mkF m 69 #[.val (.int p1), .val (.int p2), .val (.ref b1), .val (.ref b17), .val (.int (2 : Int32)), .unset, .unset] [(.int p2)])) _
      refine X27.ldcInt hx hown (mvT hZ (hw _ (List.mem_of_getElem? (i := 15) rfl))) (g := (mkF m 69 #[.val (.int p1), .val (.int p2), .val (.ref b1), .val (.ref b17), .val (.int (2 : Int32)), .unset, .unset] [(.int p2)])) rfl (hb hby at_69) _ ?_
      show Steps p.tables e below (T27.setTop (mkF m 71 #[.val (.int p1), .val (.int p2), .val (.ref b1), .val (.ref b17), .val (.int (2 : Int32)), .unset, .unset] [(.int (2147483647 : Int32)), (.int p2)])) _
      refine XS.iand X27.here hx rfl (hb hby at_71) rfl ?_
      show Steps p.tables e below (T27.setTop (mkF m 72 #[.val (.int p1), .val (.int p2), .val (.ref b1), .val (.ref b17), .val (.int (2 : Int32)), .unset, .unset] [(.int (p2 &&& (2147483647 : Int32)))])) _
      refine XS.iconst X27.here hx rfl (hb hby at_72) ?_
      show Steps p.tables e below (T27.setTop (mkF m 73 #[.val (.int p1), .val (.int p2), .val (.ref b1), .val (.ref b17), .val (.int (2 : Int32)), .unset, .unset] [(.int (3 : Int32)), (.int (p2 &&& (2147483647 : Int32)))])) _
      refine iremM (g := (mkF m 73 #[.val (.int p1), .val (.int p2), .val (.ref b1), .val (.ref b17), .val (.int (2 : Int32)), .unset, .unset] [(.int (3 : Int32)), (.int (p2 &&& (2147483647 : Int32)))])) X27 hx rfl (hb hby at_73) rfl (by decide : ¬ ((3 : Int32) = (0 : Int32))) ?_
      show Steps p.tables e below (T27.setTop (mkF m 74 #[.val (.int p1), .val (.int p2), .val (.ref b1), .val (.ref b17), .val (.int (2 : Int32)), .unset, .unset] [(.int ((p2 &&& (2147483647 : Int32)) % (3 : Int32)))])) _
      refine XS.iconst X27.here hx rfl (hb hby at_74) ?_
      show Steps p.tables e below (T27.setTop (mkF m 75 #[.val (.int p1), .val (.int p2), .val (.ref b1), .val (.ref b17), .val (.int (2 : Int32)), .unset, .unset] [(.int (1 : Int32)), (.int ((p2 &&& (2147483647 : Int32)) % (3 : Int32)))])) _
      refine XS.isub X27.here hx rfl (hb hby at_75) rfl ?_
      show Steps p.tables e below (T27.setTop (mkF m 76 #[.val (.int p1), .val (.int p2), .val (.ref b1), .val (.ref b17), .val (.int (2 : Int32)), .unset, .unset] [(.int (((p2 &&& (2147483647 : Int32)) % (3 : Int32)) - (1 : Int32)))])) _
      rw [← hs1]
      exact kt
    have rs : s1 = -1 ∨ s1 = 0 ∨ s1 = 1 := by
      rw [hs1]; rcases rt with q | q | q <;> rw [q] <;> decide
    clear hs1 rt
    obtain ⟨cl50, Ar50, q50, S50, M50, H50, G50⟩ := V27
    have hin50 : ¬ ((2 : Int32) < 0 ∨ cl50.slots.size ≤ ((2 : Int32)).toNatClampNeg) := inb_of S50 ⟨by decide, by decide⟩
    have hat50 : cl50.slots[((2 : Int32)).toNatClampNeg]? = some (.int (2 : Int32)) := H50.at hin50 rfl
    have pre51 : ∀ tt, Steps p.tables e below (T27.setTop (mkF m 89 #[.val (.int p1), .val (.int p2), .val (.ref b1), .val (.ref b17), .val (.int (2 : Int32)), .val (.int s1), .unset] [(.int (((2 : Int32) >>> ((s1 + (1 : Int32)) &&& 31)) &&& (1 : Int32)))])) tt → Steps p.tables e below (s₁.setTop (entryFrame m #[(.int p1), (.int p2)] maxLocals)) tt := by
      intro tt kt
      refine pre49 tt ?_
      show Steps p.tables e below (T27.setTop (mkF m 76 #[.val (.int p1), .val (.int p2), .val (.ref b1), .val (.ref b17), .val (.int (2 : Int32)), .unset, .unset] [(.int s1)])) _
      refine XS.istore X27.here hx rfl (hb hby at_76) rfl (l' := #[.val (.int p1), .val (.int p2), .val (.ref b1), .val (.ref b17), .val (.int (2 : Int32)), .val (.int s1), .unset]) rfl ?_
      show Steps p.tables e below (T27.setTop (mkF m 78 #[.val (.int p1), .val (.int p2), .val (.ref b1), .val (.ref b17), .val (.int (2 : Int32)), .val (.int s1), .unset] [])) _
      refine XS.aloadN X27.here hx rfl (hb hby at_78) rfl rfl ?_
      show Steps p.tables e below (T27.setTop (mkF m 79 #[.val (.int p1), .val (.int p2), .val (.ref b1), .val (.ref b17), .val (.int (2 : Int32)), .val (.int s1), .unset] [(.ref b17)])) _
      refine XS.iload X27.here hx rfl (hb hby at_79) rfl ?_
      show Steps p.tables e below (T27.setTop (mkF m 81 #[.val (.int p1), .val (.int p2), .val (.ref b1), .val (.ref b17), .val (.int (2 : Int32)), .val (.int s1), .unset] [(.int (2 : Int32)), (.ref b17)])) _
      refine X27.iaload hx (j := (2 : Int32)) (v := (.int (2 : Int32))) (by rw [e27]; exact Ar50.1) (State.isArrayOf_alike hZ.alike Ar50.2.1) Ar50.2.2 hin50 hat50 (g := (mkF m 81 #[.val (.int p1), .val (.int p2), .val (.ref b1), .val (.ref b17), .val (.int (2 : Int32)), .val (.int s1), .unset] [(.int (2 : Int32)), (.ref b17)])) rfl rfl (hb hby at_81) _ ?_
      show Steps p.tables e below (T27.setTop (mkF m 82 #[.val (.int p1), .val (.int p2), .val (.ref b1), .val (.ref b17), .val (.int (2 : Int32)), .val (.int s1), .unset] [(.int (2 : Int32))])) _
      refine XS.iload X27.here hx rfl (hb hby at_82) rfl ?_
      show Steps p.tables e below (T27.setTop (mkF m 84 #[.val (.int p1), .val (.int p2), .val (.ref b1), .val (.ref b17), .val (.int (2 : Int32)), .val (.int s1), .unset] [(.int s1), (.int (2 : Int32))])) _
      refine XS.iconst X27.here hx rfl (hb hby at_84) ?_
      show Steps p.tables e below (T27.setTop (mkF m 85 #[.val (.int p1), .val (.int p2), .val (.ref b1), .val (.ref b17), .val (.int (2 : Int32)), .val (.int s1), .unset] [(.int (1 : Int32)), (.int s1), (.int (2 : Int32))])) _
      refine XS.iadd X27.here hx rfl (hb hby at_85) rfl ?_
      show Steps p.tables e below (T27.setTop (mkF m 86 #[.val (.int p1), .val (.int p2), .val (.ref b1), .val (.ref b17), .val (.int (2 : Int32)), .val (.int s1), .unset] [(.int (s1 + (1 : Int32))), (.int (2 : Int32))])) _
      refine XS.ishr X27.here hx rfl (hb hby at_86) rfl ?_
      show Steps p.tables e below (T27.setTop (mkF m 87 #[.val (.int p1), .val (.int p2), .val (.ref b1), .val (.ref b17), .val (.int (2 : Int32)), .val (.int s1), .unset] [(.int ((2 : Int32) >>> ((s1 + (1 : Int32)) &&& 31)))])) _
      refine XS.iconst X27.here hx rfl (hb hby at_87) ?_
      show Steps p.tables e below (T27.setTop (mkF m 88 #[.val (.int p1), .val (.int p2), .val (.ref b1), .val (.ref b17), .val (.int (2 : Int32)), .val (.int s1), .unset] [(.int (1 : Int32)), (.int ((2 : Int32) >>> ((s1 + (1 : Int32)) &&& 31)))])) _
      refine XS.iand X27.here hx rfl (hb hby at_88) rfl ?_
      exact kt
    by_cases c89_52 : (((2 : Int32) >>> ((s1 + (1 : Int32)) &&& 31)) &&& (1 : Int32)) = (0 : Int32)
    · obtain ⟨cl53, Ar53, q53, S53, M53, H53, G53⟩ := ((((((V16.ext E17).other W19 (Nat.ne_of_lt (Nat.lt_of_lt_of_le (V16).lt (Nat.le_of_eq g17.symm)))).other W21 (Nat.ne_of_lt (Nat.lt_of_lt_of_le (V16).lt (Nat.le_of_eq g17.symm)))).other W23 (Nat.ne_of_lt (Nat.lt_of_lt_of_le (V16).lt (Nat.le_of_eq g17.symm)))).other W25 (Nat.ne_of_lt (Nat.lt_of_lt_of_le (V16).lt (Nat.le_of_eq g17.symm)))).other W27 (Nat.ne_of_lt (Nat.lt_of_lt_of_le (V16).lt (Nat.le_of_eq g17.symm))))
      have hin53 : ¬ ((2 : Int32) < 0 ∨ cl53.slots.size ≤ ((2 : Int32)).toNatClampNeg) := inb_of S53 ⟨by decide, by decide⟩
      have hat53 : cl53.slots[((2 : Int32)).toNatClampNeg]? = some (.ref w_EQUAL) := H53.at hin53 rfl
      obtain ⟨cq54, kq54, q54a, q54b, q54c⟩ := isOf hZ e27 EE_EQUAL
      obtain ⟨_, _, ⟨T54, L54, k54, n54⟩, -, X54, ⟨Lc54, hQ54, l54, y54, z54⟩, st54⟩ := X27.virtualBack hx (y := (⟨"com/example/prudent_stability/prudentstability/Relation", "holdsFor", "(I)Z"⟩ : MethodName)) (z := (⟨"com/example/prudent_stability/prudentstability/Relation", "holdsFor", "(I)Z"⟩ : MethodName)) hown (mvT hZ (hw _ (List.mem_of_getElem? (i := 16) rfl))) (mvT hZ (hw _ (List.mem_of_getElem? (i := 17) rfl))) (notFace_of_selects (args := #[]) (mvT hZ (hw _ (List.mem_of_getElem? (i := 19) rfl)))) (mvT hZ (hw _ (List.mem_of_getElem? (i := 19) rfl))) (mvT hZ (hw _ (List.mem_of_getElem? (i := 18) rfl))) (by decide) (backOf (W := 0) (rmH l Z a0 hw [] w_EQUAL s1 (2 : Int32) (0 : Int32) h27 n0 hsz FF_EQUAL EE_EQUAL (by decide) (own_adm0 (2 : Int32) (2 : Int32) s1 (by decide) rs c89_52)) hZ (hw _ (List.mem_of_getElem? (i := 20) rfl)) (hw _ (List.mem_of_getElem? (i := 3) rfl)) (by decide) (by decide)) q54a q54c (g := (mkF m 105 #[.val (.int p1), .val (.int p2), .val (.ref b1), .val (.ref b17), .val (.int (2 : Int32)), .val (.int s1), .val (.int (0 : Int32))] [(.int s1), (.ref w_EQUAL)])) rfl (by rw [hml]; rfl) (Steps.refl _) (argsL := [(.int s1)]) (rest := []) (lenOf pd_rm0_0 rfl) rfl (by show 2 * 0 + _ ≤ _; exact Nat.le_of_eq rfl) (hb hby at_105) (fun _ _ => ⟨rfl, e27, (by decide : 2 + 0 ≤ _), (by decide : 10 + 0 ≤ _)⟩)
      dsimp only [Pt.U, Pt.locs, Pt.cells, Pt.slots] at X54 l54 y54 z54 st54 hQ54
      subst l54 y54 z54
      obtain ⟨rfl, N54q, hE54⟩ := hQ54
      have N54 := Fr.app N27 N54q
      have pre55 : ∀ tt, Steps p.tables e below (T54.setTop (mkF m 118 #[.val (.int p1), .val (.int p2), .val (.ref b1), .val (.ref b17), .val (.int (2 : Int32)), .val (.int s1), .val (.int (0 : Int32))] [(.int (1 : Int32))])) tt → Steps p.tables e below (s₁.setTop (entryFrame m #[(.int p1), (.int p2)] maxLocals)) tt := by
        intro tt kt
        refine pre51 tt ?_
        show Steps p.tables e below (T27.setTop (mkF m 89 #[.val (.int p1), .val (.int p2), .val (.ref b1), .val (.ref b17), .val (.int (2 : Int32)), .val (.int s1), .unset] [(.int (((2 : Int32) >>> ((s1 + (1 : Int32)) &&& 31)) &&& (1 : Int32)))])) _
        refine XS.ifYes X27.here hx rfl (pc0 := 89) (pc' := 96) rfl (hb hby at_89) rfl ((if0 _ _).trans (teq c89_52).1) (by decide) (by decide) ?_
        show Steps p.tables e below (T27.setTop (mkF m 96 #[.val (.int p1), .val (.int p2), .val (.ref b1), .val (.ref b17), .val (.int (2 : Int32)), .val (.int s1), .unset] [])) _
        refine XS.iconst X27.here hx rfl (hb hby at_96) ?_
        show Steps p.tables e below (T27.setTop (mkF m 97 #[.val (.int p1), .val (.int p2), .val (.ref b1), .val (.ref b17), .val (.int (2 : Int32)), .val (.int s1), .unset] [(.int (0 : Int32))])) _
        refine XS.istore X27.here hx rfl (hb hby at_97) rfl (l' := #[.val (.int p1), .val (.int p2), .val (.ref b1), .val (.ref b17), .val (.int (2 : Int32)), .val (.int s1), .val (.int (0 : Int32))]) rfl ?_
        show Steps p.tables e below (T27.setTop (mkF m 99 #[.val (.int p1), .val (.int p2), .val (.ref b1), .val (.ref b17), .val (.int (2 : Int32)), .val (.int s1), .val (.int (0 : Int32))] [])) _
        refine XS.aloadN X27.here hx rfl (hb hby at_99) rfl rfl ?_
        show Steps p.tables e below (T27.setTop (mkF m 100 #[.val (.int p1), .val (.int p2), .val (.ref b1), .val (.ref b17), .val (.int (2 : Int32)), .val (.int s1), .val (.int (0 : Int32))] [(.ref b1)])) _
        refine XS.iload X27.here hx rfl (hb hby at_100) rfl ?_
        show Steps p.tables e below (T27.setTop (mkF m 102 #[.val (.int p1), .val (.int p2), .val (.ref b1), .val (.ref b17), .val (.int (2 : Int32)), .val (.int s1), .val (.int (0 : Int32))] [(.int (2 : Int32)), (.ref b1)])) _
        refine X27.aaload hx (j := (2 : Int32)) (v := (.ref w_EQUAL)) (by rw [e27]; exact Ar53.1) (State.isArrayOf_alike hZ.alike Ar53.2.1) rfl Ar53.2.2 hin53 hat53 (g := (mkF m 102 #[.val (.int p1), .val (.int p2), .val (.ref b1), .val (.ref b17), .val (.int (2 : Int32)), .val (.int s1), .val (.int (0 : Int32))] [(.int (2 : Int32)), (.ref b1)])) rfl rfl (hb hby at_102) _ ?_
        show Steps p.tables e below (T27.setTop (mkF m 103 #[.val (.int p1), .val (.int p2), .val (.ref b1), .val (.ref b17), .val (.int (2 : Int32)), .val (.int s1), .val (.int (0 : Int32))] [(.ref w_EQUAL)])) _
        refine XS.iload X27.here hx rfl (hb hby at_103) rfl ?_
        show Steps p.tables e below (T27.setTop (mkF m 105 #[.val (.int p1), .val (.int p2), .val (.ref b1), .val (.ref b17), .val (.int (2 : Int32)), .val (.int s1), .val (.int (0 : Int32))] [(.int s1), (.ref w_EQUAL)])) _
        refine st54.trans ?_
        show Steps p.tables e below (T54.setTop (mkF m 108 #[.val (.int p1), .val (.int p2), .val (.ref b1), .val (.ref b17), .val (.int (2 : Int32)), .val (.int s1), .val (.int (0 : Int32))] [(.int (0 : Int32))])) _
        refine XS.iload X54.here hx rfl (hb hby at_108) rfl ?_
        show Steps p.tables e below (T54.setTop (mkF m 110 #[.val (.int p1), .val (.int p2), .val (.ref b1), .val (.ref b17), .val (.int (2 : Int32)), .val (.int s1), .val (.int (0 : Int32))] [(.int (0 : Int32)), (.int (0 : Int32))])) _
        refine XS.icmpNo X54.here hx rfl (hb hby at_110) rfl (teq (rfl : (0 : Int32) = (0 : Int32))).2 ?_
        show Steps p.tables e below (T54.setTop (mkF m 113 #[.val (.int p1), .val (.int p2), .val (.ref b1), .val (.ref b17), .val (.int (2 : Int32)), .val (.int s1), .val (.int (0 : Int32))] [])) _
        refine XS.iconst X54.here hx rfl (hb hby at_113) ?_
        show Steps p.tables e below (T54.setTop (mkF m 114 #[.val (.int p1), .val (.int p2), .val (.ref b1), .val (.ref b17), .val (.int (2 : Int32)), .val (.int s1), .val (.int (0 : Int32))] [(.int (1 : Int32))])) _
        refine XS.goto X54.here hx rfl (pc0 := 114) (pc' := 118) rfl (hb hby at_114) (by decide) (by decide) ?_
        exact kt
      obtain ⟨fs, hr, hrun, hended, hW, hsame⟩ := X54.leave (v := some (.int (1 : Int32))) (fun h => by rw [Bd.returns] at h; cases h)
      refine ⟨_, _, pre55 _ ?_, hrun, hended, _, _, rfl, ?_, ⟨_, rfl⟩, hW, hsame.mono (by decide) (by decide)⟩
      · show Steps p.tables e below (T54.setTop (mkF m 118 #[.val (.int p1), .val (.int p2), .val (.ref b1), .val (.ref b17), .val (.int (2 : Int32)), .val (.int s1), .val (.int (0 : Int32))] [(.int (1 : Int32))])) _
        exact retN X54 hx (t := .boolean) Bd.returns (by simp) (hb hby at_118) hr
      · show Q0 Z h0 n0 _ T54.heap _
        rw [hE54]
        exact ⟨rfl, N54⟩
    · obtain ⟨cl56, Ar56, q56, S56, M56, H56, G56⟩ := ((((((V16.ext E17).other W19 (Nat.ne_of_lt (Nat.lt_of_lt_of_le (V16).lt (Nat.le_of_eq g17.symm)))).other W21 (Nat.ne_of_lt (Nat.lt_of_lt_of_le (V16).lt (Nat.le_of_eq g17.symm)))).other W23 (Nat.ne_of_lt (Nat.lt_of_lt_of_le (V16).lt (Nat.le_of_eq g17.symm)))).other W25 (Nat.ne_of_lt (Nat.lt_of_lt_of_le (V16).lt (Nat.le_of_eq g17.symm)))).other W27 (Nat.ne_of_lt (Nat.lt_of_lt_of_le (V16).lt (Nat.le_of_eq g17.symm))))
      have hin56 : ¬ ((2 : Int32) < 0 ∨ cl56.slots.size ≤ ((2 : Int32)).toNatClampNeg) := inb_of S56 ⟨by decide, by decide⟩
      have hat56 : cl56.slots[((2 : Int32)).toNatClampNeg]? = some (.ref w_EQUAL) := H56.at hin56 rfl
      obtain ⟨cq57, kq57, q57a, q57b, q57c⟩ := isOf hZ e27 EE_EQUAL
      obtain ⟨_, _, ⟨T57, L57, k57, n57⟩, -, X57, ⟨Lc57, hQ57, l57, y57, z57⟩, st57⟩ := X27.virtualBack hx (y := (⟨"com/example/prudent_stability/prudentstability/Relation", "holdsFor", "(I)Z"⟩ : MethodName)) (z := (⟨"com/example/prudent_stability/prudentstability/Relation", "holdsFor", "(I)Z"⟩ : MethodName)) hown (mvT hZ (hw _ (List.mem_of_getElem? (i := 16) rfl))) (mvT hZ (hw _ (List.mem_of_getElem? (i := 17) rfl))) (notFace_of_selects (args := #[]) (mvT hZ (hw _ (List.mem_of_getElem? (i := 19) rfl)))) (mvT hZ (hw _ (List.mem_of_getElem? (i := 19) rfl))) (mvT hZ (hw _ (List.mem_of_getElem? (i := 18) rfl))) (by decide) (backOf (W := 0) (rmH l Z a0 hw [] w_EQUAL s1 (2 : Int32) (1 : Int32) h27 n0 hsz FF_EQUAL EE_EQUAL (by decide) (own_adm1 (2 : Int32) (2 : Int32) s1 (by decide) rs c89_52)) hZ (hw _ (List.mem_of_getElem? (i := 20) rfl)) (hw _ (List.mem_of_getElem? (i := 3) rfl)) (by decide) (by decide)) q57a q57c (g := (mkF m 105 #[.val (.int p1), .val (.int p2), .val (.ref b1), .val (.ref b17), .val (.int (2 : Int32)), .val (.int s1), .val (.int (1 : Int32))] [(.int s1), (.ref w_EQUAL)])) rfl (by rw [hml]; rfl) (Steps.refl _) (argsL := [(.int s1)]) (rest := []) (lenOf pd_rm0_0 rfl) rfl (by show 2 * 0 + _ ≤ _; exact Nat.le_of_eq rfl) (hb hby at_105) (fun _ _ => ⟨rfl, e27, (by decide : 2 + 0 ≤ _), (by decide : 10 + 0 ≤ _)⟩)
      dsimp only [Pt.U, Pt.locs, Pt.cells, Pt.slots] at X57 l57 y57 z57 st57 hQ57
      subst l57 y57 z57
      obtain ⟨rfl, N57q, hE57⟩ := hQ57
      have N57 := Fr.app N27 N57q
      have pre58 : ∀ tt, Steps p.tables e below (T57.setTop (mkF m 118 #[.val (.int p1), .val (.int p2), .val (.ref b1), .val (.ref b17), .val (.int (2 : Int32)), .val (.int s1), .val (.int (1 : Int32))] [(.int (1 : Int32))])) tt → Steps p.tables e below (s₁.setTop (entryFrame m #[(.int p1), (.int p2)] maxLocals)) tt := by
        intro tt kt
        refine pre51 tt ?_
        show Steps p.tables e below (T27.setTop (mkF m 89 #[.val (.int p1), .val (.int p2), .val (.ref b1), .val (.ref b17), .val (.int (2 : Int32)), .val (.int s1), .unset] [(.int (((2 : Int32) >>> ((s1 + (1 : Int32)) &&& 31)) &&& (1 : Int32)))])) _
        refine XS.ifNo X27.here hx rfl (hb hby at_89) rfl ((if0 _ _).trans (feq c89_52).1) ?_
        show Steps p.tables e below (T27.setTop (mkF m 92 #[.val (.int p1), .val (.int p2), .val (.ref b1), .val (.ref b17), .val (.int (2 : Int32)), .val (.int s1), .unset] [])) _
        refine XS.iconst X27.here hx rfl (hb hby at_92) ?_
        show Steps p.tables e below (T27.setTop (mkF m 93 #[.val (.int p1), .val (.int p2), .val (.ref b1), .val (.ref b17), .val (.int (2 : Int32)), .val (.int s1), .unset] [(.int (1 : Int32))])) _
        refine XS.goto X27.here hx rfl (pc0 := 93) (pc' := 97) rfl (hb hby at_93) (by decide) (by decide) ?_
        show Steps p.tables e below (T27.setTop (mkF m 97 #[.val (.int p1), .val (.int p2), .val (.ref b1), .val (.ref b17), .val (.int (2 : Int32)), .val (.int s1), .unset] [(.int (1 : Int32))])) _
        refine XS.istore X27.here hx rfl (hb hby at_97) rfl (l' := #[.val (.int p1), .val (.int p2), .val (.ref b1), .val (.ref b17), .val (.int (2 : Int32)), .val (.int s1), .val (.int (1 : Int32))]) rfl ?_
        show Steps p.tables e below (T27.setTop (mkF m 99 #[.val (.int p1), .val (.int p2), .val (.ref b1), .val (.ref b17), .val (.int (2 : Int32)), .val (.int s1), .val (.int (1 : Int32))] [])) _
        refine XS.aloadN X27.here hx rfl (hb hby at_99) rfl rfl ?_
        show Steps p.tables e below (T27.setTop (mkF m 100 #[.val (.int p1), .val (.int p2), .val (.ref b1), .val (.ref b17), .val (.int (2 : Int32)), .val (.int s1), .val (.int (1 : Int32))] [(.ref b1)])) _
        refine XS.iload X27.here hx rfl (hb hby at_100) rfl ?_
        show Steps p.tables e below (T27.setTop (mkF m 102 #[.val (.int p1), .val (.int p2), .val (.ref b1), .val (.ref b17), .val (.int (2 : Int32)), .val (.int s1), .val (.int (1 : Int32))] [(.int (2 : Int32)), (.ref b1)])) _
        refine X27.aaload hx (j := (2 : Int32)) (v := (.ref w_EQUAL)) (by rw [e27]; exact Ar56.1) (State.isArrayOf_alike hZ.alike Ar56.2.1) rfl Ar56.2.2 hin56 hat56 (g := (mkF m 102 #[.val (.int p1), .val (.int p2), .val (.ref b1), .val (.ref b17), .val (.int (2 : Int32)), .val (.int s1), .val (.int (1 : Int32))] [(.int (2 : Int32)), (.ref b1)])) rfl rfl (hb hby at_102) _ ?_
        show Steps p.tables e below (T27.setTop (mkF m 103 #[.val (.int p1), .val (.int p2), .val (.ref b1), .val (.ref b17), .val (.int (2 : Int32)), .val (.int s1), .val (.int (1 : Int32))] [(.ref w_EQUAL)])) _
        refine XS.iload X27.here hx rfl (hb hby at_103) rfl ?_
        show Steps p.tables e below (T27.setTop (mkF m 105 #[.val (.int p1), .val (.int p2), .val (.ref b1), .val (.ref b17), .val (.int (2 : Int32)), .val (.int s1), .val (.int (1 : Int32))] [(.int s1), (.ref w_EQUAL)])) _
        refine st57.trans ?_
        show Steps p.tables e below (T57.setTop (mkF m 108 #[.val (.int p1), .val (.int p2), .val (.ref b1), .val (.ref b17), .val (.int (2 : Int32)), .val (.int s1), .val (.int (1 : Int32))] [(.int (1 : Int32))])) _
        refine XS.iload X57.here hx rfl (hb hby at_108) rfl ?_
        show Steps p.tables e below (T57.setTop (mkF m 110 #[.val (.int p1), .val (.int p2), .val (.ref b1), .val (.ref b17), .val (.int (2 : Int32)), .val (.int s1), .val (.int (1 : Int32))] [(.int (1 : Int32)), (.int (1 : Int32))])) _
        refine XS.icmpNo X57.here hx rfl (hb hby at_110) rfl (teq (rfl : (1 : Int32) = (1 : Int32))).2 ?_
        show Steps p.tables e below (T57.setTop (mkF m 113 #[.val (.int p1), .val (.int p2), .val (.ref b1), .val (.ref b17), .val (.int (2 : Int32)), .val (.int s1), .val (.int (1 : Int32))] [])) _
        refine XS.iconst X57.here hx rfl (hb hby at_113) ?_
        show Steps p.tables e below (T57.setTop (mkF m 114 #[.val (.int p1), .val (.int p2), .val (.ref b1), .val (.ref b17), .val (.int (2 : Int32)), .val (.int s1), .val (.int (1 : Int32))] [(.int (1 : Int32))])) _
        refine XS.goto X57.here hx rfl (pc0 := 114) (pc' := 118) rfl (hb hby at_114) (by decide) (by decide) ?_
        exact kt
      obtain ⟨fs, hr, hrun, hended, hW, hsame⟩ := X57.leave (v := some (.int (1 : Int32))) (fun h => by rw [Bd.returns] at h; cases h)
      refine ⟨_, _, pre58 _ ?_, hrun, hended, _, _, rfl, ?_, ⟨_, rfl⟩, hW, hsame.mono (by decide) (by decide)⟩
      · show Steps p.tables e below (T57.setTop (mkF m 118 #[.val (.int p1), .val (.int p2), .val (.ref b1), .val (.ref b17), .val (.int (2 : Int32)), .val (.int s1), .val (.int (1 : Int32))] [(.int (1 : Int32))])) _
        exact retN X57 hx (t := .boolean) Bd.returns (by simp) (hb hby at_118) hr
      · show Q0 Z h0 n0 _ T57.heap _
        rw [hE57]
        exact ⟨rfl, N57⟩
  · have rt := own_of3 (own_rem p2 (3 : Int32) (by decide))
    obtain ⟨s1, hs1⟩ : ∃ z : Int32, z = (((p2 &&& (2147483647 : Int32)) % (3 : Int32)) - (1 : Int32)) := ⟨_, rfl⟩
    have pre59 : ∀ tt, Steps p.tables e below (T27.setTop (mkF m 76 #[.val (.int p1), .val (.int p2), .val (.ref b1), .val (.ref b17), .val (.int (3 : Int32)), .unset, .unset] [(.int s1)])) tt → Steps p.tables e below (s₁.setTop (entryFrame m #[(.int p1), (.int p2)] maxLocals)) tt := by
      intro tt kt
      refine pre28 tt ?_
      show Steps p.tables e below (T27.setTop (mkF m 66 #[.val (.int p1), .val (.int p2), .val (.ref b1), .val (.ref b17), .unset, .unset, .unset] [(.int (3 : Int32))])) _
      refine XS.istore X27.here hx rfl (hb hby at_66) rfl (l' := #[.val (.int p1), .val (.int p2), .val (.ref b1), .val (.ref b17), .val (.int (3 : Int32)), .unset, .unset]) rfl ?_
      show Steps p.tables e below (T27.setTop (mkF m 68 #[.val (.int p1), .val (.int p2), .val (.ref b1), .val (.ref b17), .val (.int (3 : Int32)), .unset, .unset] [])) _
      refine XS.iloadN X27.here hx rfl (hb hby at_68) rfl ?_
      show Steps p.tables e below (T27.setTop (mkF m 69 #[.val (.int p1), .val (.int p2), .val (.ref b1), .val (.ref b17), .val (.int (3 : Int32)), .unset, .unset] [(.int p2)])) _
      refine X27.ldcInt hx hown (mvT hZ (hw _ (List.mem_of_getElem? (i := 15) rfl))) (g := (mkF m 69 #[.val (.int p1), .val (.int p2), .val (.ref b1), .val (.ref b17), .val (.int (3 : Int32)), .unset, .unset] [(.int p2)])) rfl (hb hby at_69) _ ?_
      show Steps p.tables e below (T27.setTop (mkF m 71 #[.val (.int p1), .val (.int p2), .val (.ref b1), .val (.ref b17), .val (.int (3 : Int32)), .unset, .unset] [(.int (2147483647 : Int32)), (.int p2)])) _
      refine XS.iand X27.here hx rfl (hb hby at_71) rfl ?_
      show Steps p.tables e below (T27.setTop (mkF m 72 #[.val (.int p1), .val (.int p2), .val (.ref b1), .val (.ref b17), .val (.int (3 : Int32)), .unset, .unset] [(.int (p2 &&& (2147483647 : Int32)))])) _
      refine XS.iconst X27.here hx rfl (hb hby at_72) ?_
      show Steps p.tables e below (T27.setTop (mkF m 73 #[.val (.int p1), .val (.int p2), .val (.ref b1), .val (.ref b17), .val (.int (3 : Int32)), .unset, .unset] [(.int (3 : Int32)), (.int (p2 &&& (2147483647 : Int32)))])) _
      refine iremM (g := (mkF m 73 #[.val (.int p1), .val (.int p2), .val (.ref b1), .val (.ref b17), .val (.int (3 : Int32)), .unset, .unset] [(.int (3 : Int32)), (.int (p2 &&& (2147483647 : Int32)))])) X27 hx rfl (hb hby at_73) rfl (by decide : ¬ ((3 : Int32) = (0 : Int32))) ?_
      show Steps p.tables e below (T27.setTop (mkF m 74 #[.val (.int p1), .val (.int p2), .val (.ref b1), .val (.ref b17), .val (.int (3 : Int32)), .unset, .unset] [(.int ((p2 &&& (2147483647 : Int32)) % (3 : Int32)))])) _
      refine XS.iconst X27.here hx rfl (hb hby at_74) ?_
      show Steps p.tables e below (T27.setTop (mkF m 75 #[.val (.int p1), .val (.int p2), .val (.ref b1), .val (.ref b17), .val (.int (3 : Int32)), .unset, .unset] [(.int (1 : Int32)), (.int ((p2 &&& (2147483647 : Int32)) % (3 : Int32)))])) _
      refine XS.isub X27.here hx rfl (hb hby at_75) rfl ?_
      show Steps p.tables e below (T27.setTop (mkF m 76 #[.val (.int p1), .val (.int p2), .val (.ref b1), .val (.ref b17), .val (.int (3 : Int32)), .unset, .unset] [(.int (((p2 &&& (2147483647 : Int32)) % (3 : Int32)) - (1 : Int32)))])) _
      rw [← hs1]
      exact kt
    have rs : s1 = -1 ∨ s1 = 0 ∨ s1 = 1 := by
      rw [hs1]; rcases rt with q | q | q <;> rw [q] <;> decide
    clear hs1 rt
    obtain ⟨cl60, Ar60, q60, S60, M60, H60, G60⟩ := V27
    have hin60 : ¬ ((3 : Int32) < 0 ∨ cl60.slots.size ≤ ((3 : Int32)).toNatClampNeg) := inb_of S60 ⟨by decide, by decide⟩
    have hat60 : cl60.slots[((3 : Int32)).toNatClampNeg]? = some (.int (6 : Int32)) := H60.at hin60 rfl
    have pre61 : ∀ tt, Steps p.tables e below (T27.setTop (mkF m 89 #[.val (.int p1), .val (.int p2), .val (.ref b1), .val (.ref b17), .val (.int (3 : Int32)), .val (.int s1), .unset] [(.int (((6 : Int32) >>> ((s1 + (1 : Int32)) &&& 31)) &&& (1 : Int32)))])) tt → Steps p.tables e below (s₁.setTop (entryFrame m #[(.int p1), (.int p2)] maxLocals)) tt := by
      intro tt kt
      refine pre59 tt ?_
      show Steps p.tables e below (T27.setTop (mkF m 76 #[.val (.int p1), .val (.int p2), .val (.ref b1), .val (.ref b17), .val (.int (3 : Int32)), .unset, .unset] [(.int s1)])) _
      refine XS.istore X27.here hx rfl (hb hby at_76) rfl (l' := #[.val (.int p1), .val (.int p2), .val (.ref b1), .val (.ref b17), .val (.int (3 : Int32)), .val (.int s1), .unset]) rfl ?_
      show Steps p.tables e below (T27.setTop (mkF m 78 #[.val (.int p1), .val (.int p2), .val (.ref b1), .val (.ref b17), .val (.int (3 : Int32)), .val (.int s1), .unset] [])) _
      refine XS.aloadN X27.here hx rfl (hb hby at_78) rfl rfl ?_
      show Steps p.tables e below (T27.setTop (mkF m 79 #[.val (.int p1), .val (.int p2), .val (.ref b1), .val (.ref b17), .val (.int (3 : Int32)), .val (.int s1), .unset] [(.ref b17)])) _
      refine XS.iload X27.here hx rfl (hb hby at_79) rfl ?_
      show Steps p.tables e below (T27.setTop (mkF m 81 #[.val (.int p1), .val (.int p2), .val (.ref b1), .val (.ref b17), .val (.int (3 : Int32)), .val (.int s1), .unset] [(.int (3 : Int32)), (.ref b17)])) _
      refine X27.iaload hx (j := (3 : Int32)) (v := (.int (6 : Int32))) (by rw [e27]; exact Ar60.1) (State.isArrayOf_alike hZ.alike Ar60.2.1) Ar60.2.2 hin60 hat60 (g := (mkF m 81 #[.val (.int p1), .val (.int p2), .val (.ref b1), .val (.ref b17), .val (.int (3 : Int32)), .val (.int s1), .unset] [(.int (3 : Int32)), (.ref b17)])) rfl rfl (hb hby at_81) _ ?_
      show Steps p.tables e below (T27.setTop (mkF m 82 #[.val (.int p1), .val (.int p2), .val (.ref b1), .val (.ref b17), .val (.int (3 : Int32)), .val (.int s1), .unset] [(.int (6 : Int32))])) _
      refine XS.iload X27.here hx rfl (hb hby at_82) rfl ?_
      show Steps p.tables e below (T27.setTop (mkF m 84 #[.val (.int p1), .val (.int p2), .val (.ref b1), .val (.ref b17), .val (.int (3 : Int32)), .val (.int s1), .unset] [(.int s1), (.int (6 : Int32))])) _
      refine XS.iconst X27.here hx rfl (hb hby at_84) ?_
      show Steps p.tables e below (T27.setTop (mkF m 85 #[.val (.int p1), .val (.int p2), .val (.ref b1), .val (.ref b17), .val (.int (3 : Int32)), .val (.int s1), .unset] [(.int (1 : Int32)), (.int s1), (.int (6 : Int32))])) _
      refine XS.iadd X27.here hx rfl (hb hby at_85) rfl ?_
      show Steps p.tables e below (T27.setTop (mkF m 86 #[.val (.int p1), .val (.int p2), .val (.ref b1), .val (.ref b17), .val (.int (3 : Int32)), .val (.int s1), .unset] [(.int (s1 + (1 : Int32))), (.int (6 : Int32))])) _
      refine XS.ishr X27.here hx rfl (hb hby at_86) rfl ?_
      show Steps p.tables e below (T27.setTop (mkF m 87 #[.val (.int p1), .val (.int p2), .val (.ref b1), .val (.ref b17), .val (.int (3 : Int32)), .val (.int s1), .unset] [(.int ((6 : Int32) >>> ((s1 + (1 : Int32)) &&& 31)))])) _
      refine XS.iconst X27.here hx rfl (hb hby at_87) ?_
      show Steps p.tables e below (T27.setTop (mkF m 88 #[.val (.int p1), .val (.int p2), .val (.ref b1), .val (.ref b17), .val (.int (3 : Int32)), .val (.int s1), .unset] [(.int (1 : Int32)), (.int ((6 : Int32) >>> ((s1 + (1 : Int32)) &&& 31)))])) _
      refine XS.iand X27.here hx rfl (hb hby at_88) rfl ?_
      exact kt
    by_cases c89_62 : (((6 : Int32) >>> ((s1 + (1 : Int32)) &&& 31)) &&& (1 : Int32)) = (0 : Int32)
    · obtain ⟨cl63, Ar63, q63, S63, M63, H63, G63⟩ := ((((((V16.ext E17).other W19 (Nat.ne_of_lt (Nat.lt_of_lt_of_le (V16).lt (Nat.le_of_eq g17.symm)))).other W21 (Nat.ne_of_lt (Nat.lt_of_lt_of_le (V16).lt (Nat.le_of_eq g17.symm)))).other W23 (Nat.ne_of_lt (Nat.lt_of_lt_of_le (V16).lt (Nat.le_of_eq g17.symm)))).other W25 (Nat.ne_of_lt (Nat.lt_of_lt_of_le (V16).lt (Nat.le_of_eq g17.symm)))).other W27 (Nat.ne_of_lt (Nat.lt_of_lt_of_le (V16).lt (Nat.le_of_eq g17.symm))))
      have hin63 : ¬ ((3 : Int32) < 0 ∨ cl63.slots.size ≤ ((3 : Int32)).toNatClampNeg) := inb_of S63 ⟨by decide, by decide⟩
      have hat63 : cl63.slots[((3 : Int32)).toNatClampNeg]? = some (.ref w_GREATER_OR_EQUAL) := H63.at hin63 rfl
      obtain ⟨cq64, kq64, q64a, q64b, q64c⟩ := isOf hZ e27 EE_GREATER_OR_EQUAL
      obtain ⟨_, _, ⟨T64, L64, k64, n64⟩, -, X64, ⟨Lc64, hQ64, l64, y64, z64⟩, st64⟩ := X27.virtualBack hx (y := (⟨"com/example/prudent_stability/prudentstability/Relation", "holdsFor", "(I)Z"⟩ : MethodName)) (z := (⟨"com/example/prudent_stability/prudentstability/Relation", "holdsFor", "(I)Z"⟩ : MethodName)) hown (mvT hZ (hw _ (List.mem_of_getElem? (i := 16) rfl))) (mvT hZ (hw _ (List.mem_of_getElem? (i := 17) rfl))) (notFace_of_selects (args := #[]) (mvT hZ (hw _ (List.mem_of_getElem? (i := 19) rfl)))) (mvT hZ (hw _ (List.mem_of_getElem? (i := 19) rfl))) (mvT hZ (hw _ (List.mem_of_getElem? (i := 18) rfl))) (by decide) (backOf (W := 0) (rmH l Z a0 hw [] w_GREATER_OR_EQUAL s1 (3 : Int32) (0 : Int32) h27 n0 hsz FF_GREATER_OR_EQUAL EE_GREATER_OR_EQUAL (by decide) (own_adm0 (3 : Int32) (6 : Int32) s1 (by decide) rs c89_62)) hZ (hw _ (List.mem_of_getElem? (i := 20) rfl)) (hw _ (List.mem_of_getElem? (i := 3) rfl)) (by decide) (by decide)) q64a q64c (g := (mkF m 105 #[.val (.int p1), .val (.int p2), .val (.ref b1), .val (.ref b17), .val (.int (3 : Int32)), .val (.int s1), .val (.int (0 : Int32))] [(.int s1), (.ref w_GREATER_OR_EQUAL)])) rfl (by rw [hml]; rfl) (Steps.refl _) (argsL := [(.int s1)]) (rest := []) (lenOf pd_rm0_0 rfl) rfl (by show 2 * 0 + _ ≤ _; exact Nat.le_of_eq rfl) (hb hby at_105) (fun _ _ => ⟨rfl, e27, (by decide : 2 + 0 ≤ _), (by decide : 10 + 0 ≤ _)⟩)
      dsimp only [Pt.U, Pt.locs, Pt.cells, Pt.slots] at X64 l64 y64 z64 st64 hQ64
      subst l64 y64 z64
      obtain ⟨rfl, N64q, hE64⟩ := hQ64
      have N64 := Fr.app N27 N64q
      have pre65 : ∀ tt, Steps p.tables e below (T64.setTop (mkF m 118 #[.val (.int p1), .val (.int p2), .val (.ref b1), .val (.ref b17), .val (.int (3 : Int32)), .val (.int s1), .val (.int (0 : Int32))] [(.int (1 : Int32))])) tt → Steps p.tables e below (s₁.setTop (entryFrame m #[(.int p1), (.int p2)] maxLocals)) tt := by
        intro tt kt
        refine pre61 tt ?_
        show Steps p.tables e below (T27.setTop (mkF m 89 #[.val (.int p1), .val (.int p2), .val (.ref b1), .val (.ref b17), .val (.int (3 : Int32)), .val (.int s1), .unset] [(.int (((6 : Int32) >>> ((s1 + (1 : Int32)) &&& 31)) &&& (1 : Int32)))])) _
        refine XS.ifYes X27.here hx rfl (pc0 := 89) (pc' := 96) rfl (hb hby at_89) rfl ((if0 _ _).trans (teq c89_62).1) (by decide) (by decide) ?_
        show Steps p.tables e below (T27.setTop (mkF m 96 #[.val (.int p1), .val (.int p2), .val (.ref b1), .val (.ref b17), .val (.int (3 : Int32)), .val (.int s1), .unset] [])) _
        refine XS.iconst X27.here hx rfl (hb hby at_96) ?_
        show Steps p.tables e below (T27.setTop (mkF m 97 #[.val (.int p1), .val (.int p2), .val (.ref b1), .val (.ref b17), .val (.int (3 : Int32)), .val (.int s1), .unset] [(.int (0 : Int32))])) _
        refine XS.istore X27.here hx rfl (hb hby at_97) rfl (l' := #[.val (.int p1), .val (.int p2), .val (.ref b1), .val (.ref b17), .val (.int (3 : Int32)), .val (.int s1), .val (.int (0 : Int32))]) rfl ?_
        show Steps p.tables e below (T27.setTop (mkF m 99 #[.val (.int p1), .val (.int p2), .val (.ref b1), .val (.ref b17), .val (.int (3 : Int32)), .val (.int s1), .val (.int (0 : Int32))] [])) _
        refine XS.aloadN X27.here hx rfl (hb hby at_99) rfl rfl ?_
        show Steps p.tables e below (T27.setTop (mkF m 100 #[.val (.int p1), .val (.int p2), .val (.ref b1), .val (.ref b17), .val (.int (3 : Int32)), .val (.int s1), .val (.int (0 : Int32))] [(.ref b1)])) _
        refine XS.iload X27.here hx rfl (hb hby at_100) rfl ?_
        show Steps p.tables e below (T27.setTop (mkF m 102 #[.val (.int p1), .val (.int p2), .val (.ref b1), .val (.ref b17), .val (.int (3 : Int32)), .val (.int s1), .val (.int (0 : Int32))] [(.int (3 : Int32)), (.ref b1)])) _
        refine X27.aaload hx (j := (3 : Int32)) (v := (.ref w_GREATER_OR_EQUAL)) (by rw [e27]; exact Ar63.1) (State.isArrayOf_alike hZ.alike Ar63.2.1) rfl Ar63.2.2 hin63 hat63 (g := (mkF m 102 #[.val (.int p1), .val (.int p2), .val (.ref b1), .val (.ref b17), .val (.int (3 : Int32)), .val (.int s1), .val (.int (0 : Int32))] [(.int (3 : Int32)), (.ref b1)])) rfl rfl (hb hby at_102) _ ?_
        show Steps p.tables e below (T27.setTop (mkF m 103 #[.val (.int p1), .val (.int p2), .val (.ref b1), .val (.ref b17), .val (.int (3 : Int32)), .val (.int s1), .val (.int (0 : Int32))] [(.ref w_GREATER_OR_EQUAL)])) _
        refine XS.iload X27.here hx rfl (hb hby at_103) rfl ?_
        show Steps p.tables e below (T27.setTop (mkF m 105 #[.val (.int p1), .val (.int p2), .val (.ref b1), .val (.ref b17), .val (.int (3 : Int32)), .val (.int s1), .val (.int (0 : Int32))] [(.int s1), (.ref w_GREATER_OR_EQUAL)])) _
        refine st64.trans ?_
        show Steps p.tables e below (T64.setTop (mkF m 108 #[.val (.int p1), .val (.int p2), .val (.ref b1), .val (.ref b17), .val (.int (3 : Int32)), .val (.int s1), .val (.int (0 : Int32))] [(.int (0 : Int32))])) _
        refine XS.iload X64.here hx rfl (hb hby at_108) rfl ?_
        show Steps p.tables e below (T64.setTop (mkF m 110 #[.val (.int p1), .val (.int p2), .val (.ref b1), .val (.ref b17), .val (.int (3 : Int32)), .val (.int s1), .val (.int (0 : Int32))] [(.int (0 : Int32)), (.int (0 : Int32))])) _
        refine XS.icmpNo X64.here hx rfl (hb hby at_110) rfl (teq (rfl : (0 : Int32) = (0 : Int32))).2 ?_
        show Steps p.tables e below (T64.setTop (mkF m 113 #[.val (.int p1), .val (.int p2), .val (.ref b1), .val (.ref b17), .val (.int (3 : Int32)), .val (.int s1), .val (.int (0 : Int32))] [])) _
        refine XS.iconst X64.here hx rfl (hb hby at_113) ?_
        show Steps p.tables e below (T64.setTop (mkF m 114 #[.val (.int p1), .val (.int p2), .val (.ref b1), .val (.ref b17), .val (.int (3 : Int32)), .val (.int s1), .val (.int (0 : Int32))] [(.int (1 : Int32))])) _
        refine XS.goto X64.here hx rfl (pc0 := 114) (pc' := 118) rfl (hb hby at_114) (by decide) (by decide) ?_
        exact kt
      obtain ⟨fs, hr, hrun, hended, hW, hsame⟩ := X64.leave (v := some (.int (1 : Int32))) (fun h => by rw [Bd.returns] at h; cases h)
      refine ⟨_, _, pre65 _ ?_, hrun, hended, _, _, rfl, ?_, ⟨_, rfl⟩, hW, hsame.mono (by decide) (by decide)⟩
      · show Steps p.tables e below (T64.setTop (mkF m 118 #[.val (.int p1), .val (.int p2), .val (.ref b1), .val (.ref b17), .val (.int (3 : Int32)), .val (.int s1), .val (.int (0 : Int32))] [(.int (1 : Int32))])) _
        exact retN X64 hx (t := .boolean) Bd.returns (by simp) (hb hby at_118) hr
      · show Q0 Z h0 n0 _ T64.heap _
        rw [hE64]
        exact ⟨rfl, N64⟩
    · obtain ⟨cl66, Ar66, q66, S66, M66, H66, G66⟩ := ((((((V16.ext E17).other W19 (Nat.ne_of_lt (Nat.lt_of_lt_of_le (V16).lt (Nat.le_of_eq g17.symm)))).other W21 (Nat.ne_of_lt (Nat.lt_of_lt_of_le (V16).lt (Nat.le_of_eq g17.symm)))).other W23 (Nat.ne_of_lt (Nat.lt_of_lt_of_le (V16).lt (Nat.le_of_eq g17.symm)))).other W25 (Nat.ne_of_lt (Nat.lt_of_lt_of_le (V16).lt (Nat.le_of_eq g17.symm)))).other W27 (Nat.ne_of_lt (Nat.lt_of_lt_of_le (V16).lt (Nat.le_of_eq g17.symm))))
      have hin66 : ¬ ((3 : Int32) < 0 ∨ cl66.slots.size ≤ ((3 : Int32)).toNatClampNeg) := inb_of S66 ⟨by decide, by decide⟩
      have hat66 : cl66.slots[((3 : Int32)).toNatClampNeg]? = some (.ref w_GREATER_OR_EQUAL) := H66.at hin66 rfl
      obtain ⟨cq67, kq67, q67a, q67b, q67c⟩ := isOf hZ e27 EE_GREATER_OR_EQUAL
      obtain ⟨_, _, ⟨T67, L67, k67, n67⟩, -, X67, ⟨Lc67, hQ67, l67, y67, z67⟩, st67⟩ := X27.virtualBack hx (y := (⟨"com/example/prudent_stability/prudentstability/Relation", "holdsFor", "(I)Z"⟩ : MethodName)) (z := (⟨"com/example/prudent_stability/prudentstability/Relation", "holdsFor", "(I)Z"⟩ : MethodName)) hown (mvT hZ (hw _ (List.mem_of_getElem? (i := 16) rfl))) (mvT hZ (hw _ (List.mem_of_getElem? (i := 17) rfl))) (notFace_of_selects (args := #[]) (mvT hZ (hw _ (List.mem_of_getElem? (i := 19) rfl)))) (mvT hZ (hw _ (List.mem_of_getElem? (i := 19) rfl))) (mvT hZ (hw _ (List.mem_of_getElem? (i := 18) rfl))) (by decide) (backOf (W := 0) (rmH l Z a0 hw [] w_GREATER_OR_EQUAL s1 (3 : Int32) (1 : Int32) h27 n0 hsz FF_GREATER_OR_EQUAL EE_GREATER_OR_EQUAL (by decide) (own_adm1 (3 : Int32) (6 : Int32) s1 (by decide) rs c89_62)) hZ (hw _ (List.mem_of_getElem? (i := 20) rfl)) (hw _ (List.mem_of_getElem? (i := 3) rfl)) (by decide) (by decide)) q67a q67c (g := (mkF m 105 #[.val (.int p1), .val (.int p2), .val (.ref b1), .val (.ref b17), .val (.int (3 : Int32)), .val (.int s1), .val (.int (1 : Int32))] [(.int s1), (.ref w_GREATER_OR_EQUAL)])) rfl (by rw [hml]; rfl) (Steps.refl _) (argsL := [(.int s1)]) (rest := []) (lenOf pd_rm0_0 rfl) rfl (by show 2 * 0 + _ ≤ _; exact Nat.le_of_eq rfl) (hb hby at_105) (fun _ _ => ⟨rfl, e27, (by decide : 2 + 0 ≤ _), (by decide : 10 + 0 ≤ _)⟩)
      dsimp only [Pt.U, Pt.locs, Pt.cells, Pt.slots] at X67 l67 y67 z67 st67 hQ67
      subst l67 y67 z67
      obtain ⟨rfl, N67q, hE67⟩ := hQ67
      have N67 := Fr.app N27 N67q
      have pre68 : ∀ tt, Steps p.tables e below (T67.setTop (mkF m 118 #[.val (.int p1), .val (.int p2), .val (.ref b1), .val (.ref b17), .val (.int (3 : Int32)), .val (.int s1), .val (.int (1 : Int32))] [(.int (1 : Int32))])) tt → Steps p.tables e below (s₁.setTop (entryFrame m #[(.int p1), (.int p2)] maxLocals)) tt := by
        intro tt kt
        refine pre61 tt ?_
        show Steps p.tables e below (T27.setTop (mkF m 89 #[.val (.int p1), .val (.int p2), .val (.ref b1), .val (.ref b17), .val (.int (3 : Int32)), .val (.int s1), .unset] [(.int (((6 : Int32) >>> ((s1 + (1 : Int32)) &&& 31)) &&& (1 : Int32)))])) _
        refine XS.ifNo X27.here hx rfl (hb hby at_89) rfl ((if0 _ _).trans (feq c89_62).1) ?_
        show Steps p.tables e below (T27.setTop (mkF m 92 #[.val (.int p1), .val (.int p2), .val (.ref b1), .val (.ref b17), .val (.int (3 : Int32)), .val (.int s1), .unset] [])) _
        refine XS.iconst X27.here hx rfl (hb hby at_92) ?_
        show Steps p.tables e below (T27.setTop (mkF m 93 #[.val (.int p1), .val (.int p2), .val (.ref b1), .val (.ref b17), .val (.int (3 : Int32)), .val (.int s1), .unset] [(.int (1 : Int32))])) _
        refine XS.goto X27.here hx rfl (pc0 := 93) (pc' := 97) rfl (hb hby at_93) (by decide) (by decide) ?_
        show Steps p.tables e below (T27.setTop (mkF m 97 #[.val (.int p1), .val (.int p2), .val (.ref b1), .val (.ref b17), .val (.int (3 : Int32)), .val (.int s1), .unset] [(.int (1 : Int32))])) _
        refine XS.istore X27.here hx rfl (hb hby at_97) rfl (l' := #[.val (.int p1), .val (.int p2), .val (.ref b1), .val (.ref b17), .val (.int (3 : Int32)), .val (.int s1), .val (.int (1 : Int32))]) rfl ?_
        show Steps p.tables e below (T27.setTop (mkF m 99 #[.val (.int p1), .val (.int p2), .val (.ref b1), .val (.ref b17), .val (.int (3 : Int32)), .val (.int s1), .val (.int (1 : Int32))] [])) _
        refine XS.aloadN X27.here hx rfl (hb hby at_99) rfl rfl ?_
        show Steps p.tables e below (T27.setTop (mkF m 100 #[.val (.int p1), .val (.int p2), .val (.ref b1), .val (.ref b17), .val (.int (3 : Int32)), .val (.int s1), .val (.int (1 : Int32))] [(.ref b1)])) _
        refine XS.iload X27.here hx rfl (hb hby at_100) rfl ?_
        show Steps p.tables e below (T27.setTop (mkF m 102 #[.val (.int p1), .val (.int p2), .val (.ref b1), .val (.ref b17), .val (.int (3 : Int32)), .val (.int s1), .val (.int (1 : Int32))] [(.int (3 : Int32)), (.ref b1)])) _
        refine X27.aaload hx (j := (3 : Int32)) (v := (.ref w_GREATER_OR_EQUAL)) (by rw [e27]; exact Ar66.1) (State.isArrayOf_alike hZ.alike Ar66.2.1) rfl Ar66.2.2 hin66 hat66 (g := (mkF m 102 #[.val (.int p1), .val (.int p2), .val (.ref b1), .val (.ref b17), .val (.int (3 : Int32)), .val (.int s1), .val (.int (1 : Int32))] [(.int (3 : Int32)), (.ref b1)])) rfl rfl (hb hby at_102) _ ?_
        show Steps p.tables e below (T27.setTop (mkF m 103 #[.val (.int p1), .val (.int p2), .val (.ref b1), .val (.ref b17), .val (.int (3 : Int32)), .val (.int s1), .val (.int (1 : Int32))] [(.ref w_GREATER_OR_EQUAL)])) _
        refine XS.iload X27.here hx rfl (hb hby at_103) rfl ?_
        show Steps p.tables e below (T27.setTop (mkF m 105 #[.val (.int p1), .val (.int p2), .val (.ref b1), .val (.ref b17), .val (.int (3 : Int32)), .val (.int s1), .val (.int (1 : Int32))] [(.int s1), (.ref w_GREATER_OR_EQUAL)])) _
        refine st67.trans ?_
        show Steps p.tables e below (T67.setTop (mkF m 108 #[.val (.int p1), .val (.int p2), .val (.ref b1), .val (.ref b17), .val (.int (3 : Int32)), .val (.int s1), .val (.int (1 : Int32))] [(.int (1 : Int32))])) _
        refine XS.iload X67.here hx rfl (hb hby at_108) rfl ?_
        show Steps p.tables e below (T67.setTop (mkF m 110 #[.val (.int p1), .val (.int p2), .val (.ref b1), .val (.ref b17), .val (.int (3 : Int32)), .val (.int s1), .val (.int (1 : Int32))] [(.int (1 : Int32)), (.int (1 : Int32))])) _
        refine XS.icmpNo X67.here hx rfl (hb hby at_110) rfl (teq (rfl : (1 : Int32) = (1 : Int32))).2 ?_
        show Steps p.tables e below (T67.setTop (mkF m 113 #[.val (.int p1), .val (.int p2), .val (.ref b1), .val (.ref b17), .val (.int (3 : Int32)), .val (.int s1), .val (.int (1 : Int32))] [])) _
        refine XS.iconst X67.here hx rfl (hb hby at_113) ?_
        show Steps p.tables e below (T67.setTop (mkF m 114 #[.val (.int p1), .val (.int p2), .val (.ref b1), .val (.ref b17), .val (.int (3 : Int32)), .val (.int s1), .val (.int (1 : Int32))] [(.int (1 : Int32))])) _
        refine XS.goto X67.here hx rfl (pc0 := 114) (pc' := 118) rfl (hb hby at_114) (by decide) (by decide) ?_
        exact kt
      obtain ⟨fs, hr, hrun, hended, hW, hsame⟩ := X67.leave (v := some (.int (1 : Int32))) (fun h => by rw [Bd.returns] at h; cases h)
      refine ⟨_, _, pre68 _ ?_, hrun, hended, _, _, rfl, ?_, ⟨_, rfl⟩, hW, hsame.mono (by decide) (by decide)⟩
      · show Steps p.tables e below (T67.setTop (mkF m 118 #[.val (.int p1), .val (.int p2), .val (.ref b1), .val (.ref b17), .val (.int (3 : Int32)), .val (.int s1), .val (.int (1 : Int32))] [(.int (1 : Int32))])) _
        exact retN X67 hx (t := .boolean) Bd.returns (by simp) (hb hby at_118) hr
      · show Q0 Z h0 n0 _ T67.heap _
        rw [hE67]
        exact ⟨rfl, N67⟩
  · have rt := own_of3 (own_rem p2 (3 : Int32) (by decide))
    obtain ⟨s1, hs1⟩ : ∃ z : Int32, z = (((p2 &&& (2147483647 : Int32)) % (3 : Int32)) - (1 : Int32)) := ⟨_, rfl⟩
    have pre69 : ∀ tt, Steps p.tables e below (T27.setTop (mkF m 76 #[.val (.int p1), .val (.int p2), .val (.ref b1), .val (.ref b17), .val (.int (4 : Int32)), .unset, .unset] [(.int s1)])) tt → Steps p.tables e below (s₁.setTop (entryFrame m #[(.int p1), (.int p2)] maxLocals)) tt := by
      intro tt kt
      refine pre28 tt ?_
      show Steps p.tables e below (T27.setTop (mkF m 66 #[.val (.int p1), .val (.int p2), .val (.ref b1), .val (.ref b17), .unset, .unset, .unset] [(.int (4 : Int32))])) _
      refine XS.istore X27.here hx rfl (hb hby at_66) rfl (l' := #[.val (.int p1), .val (.int p2), .val (.ref b1), .val (.ref b17), .val (.int (4 : Int32)), .unset, .unset]) rfl ?_
      show Steps p.tables e below (T27.setTop (mkF m 68 #[.val (.int p1), .val (.int p2), .val (.ref b1), .val (.ref b17), .val (.int (4 : Int32)), .unset, .unset] [])) _
      refine XS.iloadN X27.here hx rfl (hb hby at_68) rfl ?_
      show Steps p.tables e below (T27.setTop (mkF m 69 #[.val (.int p1), .val (.int p2), .val (.ref b1), .val (.ref b17), .val (.int (4 : Int32)), .unset, .unset] [(.int p2)])) _
      refine X27.ldcInt hx hown (mvT hZ (hw _ (List.mem_of_getElem? (i := 15) rfl))) (g := (mkF m 69 #[.val (.int p1), .val (.int p2), .val (.ref b1), .val (.ref b17), .val (.int (4 : Int32)), .unset, .unset] [(.int p2)])) rfl (hb hby at_69) _ ?_
      show Steps p.tables e below (T27.setTop (mkF m 71 #[.val (.int p1), .val (.int p2), .val (.ref b1), .val (.ref b17), .val (.int (4 : Int32)), .unset, .unset] [(.int (2147483647 : Int32)), (.int p2)])) _
      refine XS.iand X27.here hx rfl (hb hby at_71) rfl ?_
      show Steps p.tables e below (T27.setTop (mkF m 72 #[.val (.int p1), .val (.int p2), .val (.ref b1), .val (.ref b17), .val (.int (4 : Int32)), .unset, .unset] [(.int (p2 &&& (2147483647 : Int32)))])) _
      refine XS.iconst X27.here hx rfl (hb hby at_72) ?_
      show Steps p.tables e below (T27.setTop (mkF m 73 #[.val (.int p1), .val (.int p2), .val (.ref b1), .val (.ref b17), .val (.int (4 : Int32)), .unset, .unset] [(.int (3 : Int32)), (.int (p2 &&& (2147483647 : Int32)))])) _
      refine iremM (g := (mkF m 73 #[.val (.int p1), .val (.int p2), .val (.ref b1), .val (.ref b17), .val (.int (4 : Int32)), .unset, .unset] [(.int (3 : Int32)), (.int (p2 &&& (2147483647 : Int32)))])) X27 hx rfl (hb hby at_73) rfl (by decide : ¬ ((3 : Int32) = (0 : Int32))) ?_
      show Steps p.tables e below (T27.setTop (mkF m 74 #[.val (.int p1), .val (.int p2), .val (.ref b1), .val (.ref b17), .val (.int (4 : Int32)), .unset, .unset] [(.int ((p2 &&& (2147483647 : Int32)) % (3 : Int32)))])) _
      refine XS.iconst X27.here hx rfl (hb hby at_74) ?_
      show Steps p.tables e below (T27.setTop (mkF m 75 #[.val (.int p1), .val (.int p2), .val (.ref b1), .val (.ref b17), .val (.int (4 : Int32)), .unset, .unset] [(.int (1 : Int32)), (.int ((p2 &&& (2147483647 : Int32)) % (3 : Int32)))])) _
      refine XS.isub X27.here hx rfl (hb hby at_75) rfl ?_
      show Steps p.tables e below (T27.setTop (mkF m 76 #[.val (.int p1), .val (.int p2), .val (.ref b1), .val (.ref b17), .val (.int (4 : Int32)), .unset, .unset] [(.int (((p2 &&& (2147483647 : Int32)) % (3 : Int32)) - (1 : Int32)))])) _
      rw [← hs1]
      exact kt
    have rs : s1 = -1 ∨ s1 = 0 ∨ s1 = 1 := by
      rw [hs1]; rcases rt with q | q | q <;> rw [q] <;> decide
    clear hs1 rt
    obtain ⟨cl70, Ar70, q70, S70, M70, H70, G70⟩ := V27
    have hin70 : ¬ ((4 : Int32) < 0 ∨ cl70.slots.size ≤ ((4 : Int32)).toNatClampNeg) := inb_of S70 ⟨by decide, by decide⟩
    have hat70 : cl70.slots[((4 : Int32)).toNatClampNeg]? = some (.int (4 : Int32)) := H70.at hin70 rfl
    have pre71 : ∀ tt, Steps p.tables e below (T27.setTop (mkF m 89 #[.val (.int p1), .val (.int p2), .val (.ref b1), .val (.ref b17), .val (.int (4 : Int32)), .val (.int s1), .unset] [(.int (((4 : Int32) >>> ((s1 + (1 : Int32)) &&& 31)) &&& (1 : Int32)))])) tt → Steps p.tables e below (s₁.setTop (entryFrame m #[(.int p1), (.int p2)] maxLocals)) tt := by
      intro tt kt
      refine pre69 tt ?_
      show Steps p.tables e below (T27.setTop (mkF m 76 #[.val (.int p1), .val (.int p2), .val (.ref b1), .val (.ref b17), .val (.int (4 : Int32)), .unset, .unset] [(.int s1)])) _
      refine XS.istore X27.here hx rfl (hb hby at_76) rfl (l' := #[.val (.int p1), .val (.int p2), .val (.ref b1), .val (.ref b17), .val (.int (4 : Int32)), .val (.int s1), .unset]) rfl ?_
      show Steps p.tables e below (T27.setTop (mkF m 78 #[.val (.int p1), .val (.int p2), .val (.ref b1), .val (.ref b17), .val (.int (4 : Int32)), .val (.int s1), .unset] [])) _
      refine XS.aloadN X27.here hx rfl (hb hby at_78) rfl rfl ?_
      show Steps p.tables e below (T27.setTop (mkF m 79 #[.val (.int p1), .val (.int p2), .val (.ref b1), .val (.ref b17), .val (.int (4 : Int32)), .val (.int s1), .unset] [(.ref b17)])) _
      refine XS.iload X27.here hx rfl (hb hby at_79) rfl ?_
      show Steps p.tables e below (T27.setTop (mkF m 81 #[.val (.int p1), .val (.int p2), .val (.ref b1), .val (.ref b17), .val (.int (4 : Int32)), .val (.int s1), .unset] [(.int (4 : Int32)), (.ref b17)])) _
      refine X27.iaload hx (j := (4 : Int32)) (v := (.int (4 : Int32))) (by rw [e27]; exact Ar70.1) (State.isArrayOf_alike hZ.alike Ar70.2.1) Ar70.2.2 hin70 hat70 (g := (mkF m 81 #[.val (.int p1), .val (.int p2), .val (.ref b1), .val (.ref b17), .val (.int (4 : Int32)), .val (.int s1), .unset] [(.int (4 : Int32)), (.ref b17)])) rfl rfl (hb hby at_81) _ ?_
      show Steps p.tables e below (T27.setTop (mkF m 82 #[.val (.int p1), .val (.int p2), .val (.ref b1), .val (.ref b17), .val (.int (4 : Int32)), .val (.int s1), .unset] [(.int (4 : Int32))])) _
      refine XS.iload X27.here hx rfl (hb hby at_82) rfl ?_
      show Steps p.tables e below (T27.setTop (mkF m 84 #[.val (.int p1), .val (.int p2), .val (.ref b1), .val (.ref b17), .val (.int (4 : Int32)), .val (.int s1), .unset] [(.int s1), (.int (4 : Int32))])) _
      refine XS.iconst X27.here hx rfl (hb hby at_84) ?_
      show Steps p.tables e below (T27.setTop (mkF m 85 #[.val (.int p1), .val (.int p2), .val (.ref b1), .val (.ref b17), .val (.int (4 : Int32)), .val (.int s1), .unset] [(.int (1 : Int32)), (.int s1), (.int (4 : Int32))])) _
      refine XS.iadd X27.here hx rfl (hb hby at_85) rfl ?_
      show Steps p.tables e below (T27.setTop (mkF m 86 #[.val (.int p1), .val (.int p2), .val (.ref b1), .val (.ref b17), .val (.int (4 : Int32)), .val (.int s1), .unset] [(.int (s1 + (1 : Int32))), (.int (4 : Int32))])) _
      refine XS.ishr X27.here hx rfl (hb hby at_86) rfl ?_
      show Steps p.tables e below (T27.setTop (mkF m 87 #[.val (.int p1), .val (.int p2), .val (.ref b1), .val (.ref b17), .val (.int (4 : Int32)), .val (.int s1), .unset] [(.int ((4 : Int32) >>> ((s1 + (1 : Int32)) &&& 31)))])) _
      refine XS.iconst X27.here hx rfl (hb hby at_87) ?_
      show Steps p.tables e below (T27.setTop (mkF m 88 #[.val (.int p1), .val (.int p2), .val (.ref b1), .val (.ref b17), .val (.int (4 : Int32)), .val (.int s1), .unset] [(.int (1 : Int32)), (.int ((4 : Int32) >>> ((s1 + (1 : Int32)) &&& 31)))])) _
      refine XS.iand X27.here hx rfl (hb hby at_88) rfl ?_
      exact kt
    by_cases c89_72 : (((4 : Int32) >>> ((s1 + (1 : Int32)) &&& 31)) &&& (1 : Int32)) = (0 : Int32)
    · obtain ⟨cl73, Ar73, q73, S73, M73, H73, G73⟩ := ((((((V16.ext E17).other W19 (Nat.ne_of_lt (Nat.lt_of_lt_of_le (V16).lt (Nat.le_of_eq g17.symm)))).other W21 (Nat.ne_of_lt (Nat.lt_of_lt_of_le (V16).lt (Nat.le_of_eq g17.symm)))).other W23 (Nat.ne_of_lt (Nat.lt_of_lt_of_le (V16).lt (Nat.le_of_eq g17.symm)))).other W25 (Nat.ne_of_lt (Nat.lt_of_lt_of_le (V16).lt (Nat.le_of_eq g17.symm)))).other W27 (Nat.ne_of_lt (Nat.lt_of_lt_of_le (V16).lt (Nat.le_of_eq g17.symm))))
      have hin73 : ¬ ((4 : Int32) < 0 ∨ cl73.slots.size ≤ ((4 : Int32)).toNatClampNeg) := inb_of S73 ⟨by decide, by decide⟩
      have hat73 : cl73.slots[((4 : Int32)).toNatClampNeg]? = some (.ref w_GREATER) := H73.at hin73 rfl
      obtain ⟨cq74, kq74, q74a, q74b, q74c⟩ := isOf hZ e27 EE_GREATER
      obtain ⟨_, _, ⟨T74, L74, k74, n74⟩, -, X74, ⟨Lc74, hQ74, l74, y74, z74⟩, st74⟩ := X27.virtualBack hx (y := (⟨"com/example/prudent_stability/prudentstability/Relation", "holdsFor", "(I)Z"⟩ : MethodName)) (z := (⟨"com/example/prudent_stability/prudentstability/Relation", "holdsFor", "(I)Z"⟩ : MethodName)) hown (mvT hZ (hw _ (List.mem_of_getElem? (i := 16) rfl))) (mvT hZ (hw _ (List.mem_of_getElem? (i := 17) rfl))) (notFace_of_selects (args := #[]) (mvT hZ (hw _ (List.mem_of_getElem? (i := 19) rfl)))) (mvT hZ (hw _ (List.mem_of_getElem? (i := 19) rfl))) (mvT hZ (hw _ (List.mem_of_getElem? (i := 18) rfl))) (by decide) (backOf (W := 0) (rmH l Z a0 hw [] w_GREATER s1 (4 : Int32) (0 : Int32) h27 n0 hsz FF_GREATER EE_GREATER (by decide) (own_adm0 (4 : Int32) (4 : Int32) s1 (by decide) rs c89_72)) hZ (hw _ (List.mem_of_getElem? (i := 20) rfl)) (hw _ (List.mem_of_getElem? (i := 3) rfl)) (by decide) (by decide)) q74a q74c (g := (mkF m 105 #[.val (.int p1), .val (.int p2), .val (.ref b1), .val (.ref b17), .val (.int (4 : Int32)), .val (.int s1), .val (.int (0 : Int32))] [(.int s1), (.ref w_GREATER)])) rfl (by rw [hml]; rfl) (Steps.refl _) (argsL := [(.int s1)]) (rest := []) (lenOf pd_rm0_0 rfl) rfl (by show 2 * 0 + _ ≤ _; exact Nat.le_of_eq rfl) (hb hby at_105) (fun _ _ => ⟨rfl, e27, (by decide : 2 + 0 ≤ _), (by decide : 10 + 0 ≤ _)⟩)
      dsimp only [Pt.U, Pt.locs, Pt.cells, Pt.slots] at X74 l74 y74 z74 st74 hQ74
      subst l74 y74 z74
      obtain ⟨rfl, N74q, hE74⟩ := hQ74
      have N74 := Fr.app N27 N74q
      have pre75 : ∀ tt, Steps p.tables e below (T74.setTop (mkF m 118 #[.val (.int p1), .val (.int p2), .val (.ref b1), .val (.ref b17), .val (.int (4 : Int32)), .val (.int s1), .val (.int (0 : Int32))] [(.int (1 : Int32))])) tt → Steps p.tables e below (s₁.setTop (entryFrame m #[(.int p1), (.int p2)] maxLocals)) tt := by
        intro tt kt
        refine pre71 tt ?_
        show Steps p.tables e below (T27.setTop (mkF m 89 #[.val (.int p1), .val (.int p2), .val (.ref b1), .val (.ref b17), .val (.int (4 : Int32)), .val (.int s1), .unset] [(.int (((4 : Int32) >>> ((s1 + (1 : Int32)) &&& 31)) &&& (1 : Int32)))])) _
        refine XS.ifYes X27.here hx rfl (pc0 := 89) (pc' := 96) rfl (hb hby at_89) rfl ((if0 _ _).trans (teq c89_72).1) (by decide) (by decide) ?_
        show Steps p.tables e below (T27.setTop (mkF m 96 #[.val (.int p1), .val (.int p2), .val (.ref b1), .val (.ref b17), .val (.int (4 : Int32)), .val (.int s1), .unset] [])) _
        refine XS.iconst X27.here hx rfl (hb hby at_96) ?_
        show Steps p.tables e below (T27.setTop (mkF m 97 #[.val (.int p1), .val (.int p2), .val (.ref b1), .val (.ref b17), .val (.int (4 : Int32)), .val (.int s1), .unset] [(.int (0 : Int32))])) _
        refine XS.istore X27.here hx rfl (hb hby at_97) rfl (l' := #[.val (.int p1), .val (.int p2), .val (.ref b1), .val (.ref b17), .val (.int (4 : Int32)), .val (.int s1), .val (.int (0 : Int32))]) rfl ?_
        show Steps p.tables e below (T27.setTop (mkF m 99 #[.val (.int p1), .val (.int p2), .val (.ref b1), .val (.ref b17), .val (.int (4 : Int32)), .val (.int s1), .val (.int (0 : Int32))] [])) _
        refine XS.aloadN X27.here hx rfl (hb hby at_99) rfl rfl ?_
        show Steps p.tables e below (T27.setTop (mkF m 100 #[.val (.int p1), .val (.int p2), .val (.ref b1), .val (.ref b17), .val (.int (4 : Int32)), .val (.int s1), .val (.int (0 : Int32))] [(.ref b1)])) _
        refine XS.iload X27.here hx rfl (hb hby at_100) rfl ?_
        show Steps p.tables e below (T27.setTop (mkF m 102 #[.val (.int p1), .val (.int p2), .val (.ref b1), .val (.ref b17), .val (.int (4 : Int32)), .val (.int s1), .val (.int (0 : Int32))] [(.int (4 : Int32)), (.ref b1)])) _
        refine X27.aaload hx (j := (4 : Int32)) (v := (.ref w_GREATER)) (by rw [e27]; exact Ar73.1) (State.isArrayOf_alike hZ.alike Ar73.2.1) rfl Ar73.2.2 hin73 hat73 (g := (mkF m 102 #[.val (.int p1), .val (.int p2), .val (.ref b1), .val (.ref b17), .val (.int (4 : Int32)), .val (.int s1), .val (.int (0 : Int32))] [(.int (4 : Int32)), (.ref b1)])) rfl rfl (hb hby at_102) _ ?_
        show Steps p.tables e below (T27.setTop (mkF m 103 #[.val (.int p1), .val (.int p2), .val (.ref b1), .val (.ref b17), .val (.int (4 : Int32)), .val (.int s1), .val (.int (0 : Int32))] [(.ref w_GREATER)])) _
        refine XS.iload X27.here hx rfl (hb hby at_103) rfl ?_
        show Steps p.tables e below (T27.setTop (mkF m 105 #[.val (.int p1), .val (.int p2), .val (.ref b1), .val (.ref b17), .val (.int (4 : Int32)), .val (.int s1), .val (.int (0 : Int32))] [(.int s1), (.ref w_GREATER)])) _
        refine st74.trans ?_
        show Steps p.tables e below (T74.setTop (mkF m 108 #[.val (.int p1), .val (.int p2), .val (.ref b1), .val (.ref b17), .val (.int (4 : Int32)), .val (.int s1), .val (.int (0 : Int32))] [(.int (0 : Int32))])) _
        refine XS.iload X74.here hx rfl (hb hby at_108) rfl ?_
        show Steps p.tables e below (T74.setTop (mkF m 110 #[.val (.int p1), .val (.int p2), .val (.ref b1), .val (.ref b17), .val (.int (4 : Int32)), .val (.int s1), .val (.int (0 : Int32))] [(.int (0 : Int32)), (.int (0 : Int32))])) _
        refine XS.icmpNo X74.here hx rfl (hb hby at_110) rfl (teq (rfl : (0 : Int32) = (0 : Int32))).2 ?_
        show Steps p.tables e below (T74.setTop (mkF m 113 #[.val (.int p1), .val (.int p2), .val (.ref b1), .val (.ref b17), .val (.int (4 : Int32)), .val (.int s1), .val (.int (0 : Int32))] [])) _
        refine XS.iconst X74.here hx rfl (hb hby at_113) ?_
        show Steps p.tables e below (T74.setTop (mkF m 114 #[.val (.int p1), .val (.int p2), .val (.ref b1), .val (.ref b17), .val (.int (4 : Int32)), .val (.int s1), .val (.int (0 : Int32))] [(.int (1 : Int32))])) _
        refine XS.goto X74.here hx rfl (pc0 := 114) (pc' := 118) rfl (hb hby at_114) (by decide) (by decide) ?_
        exact kt
      obtain ⟨fs, hr, hrun, hended, hW, hsame⟩ := X74.leave (v := some (.int (1 : Int32))) (fun h => by rw [Bd.returns] at h; cases h)
      refine ⟨_, _, pre75 _ ?_, hrun, hended, _, _, rfl, ?_, ⟨_, rfl⟩, hW, hsame.mono (by decide) (by decide)⟩
      · show Steps p.tables e below (T74.setTop (mkF m 118 #[.val (.int p1), .val (.int p2), .val (.ref b1), .val (.ref b17), .val (.int (4 : Int32)), .val (.int s1), .val (.int (0 : Int32))] [(.int (1 : Int32))])) _
        exact retN X74 hx (t := .boolean) Bd.returns (by simp) (hb hby at_118) hr
      · show Q0 Z h0 n0 _ T74.heap _
        rw [hE74]
        exact ⟨rfl, N74⟩
    · obtain ⟨cl76, Ar76, q76, S76, M76, H76, G76⟩ := ((((((V16.ext E17).other W19 (Nat.ne_of_lt (Nat.lt_of_lt_of_le (V16).lt (Nat.le_of_eq g17.symm)))).other W21 (Nat.ne_of_lt (Nat.lt_of_lt_of_le (V16).lt (Nat.le_of_eq g17.symm)))).other W23 (Nat.ne_of_lt (Nat.lt_of_lt_of_le (V16).lt (Nat.le_of_eq g17.symm)))).other W25 (Nat.ne_of_lt (Nat.lt_of_lt_of_le (V16).lt (Nat.le_of_eq g17.symm)))).other W27 (Nat.ne_of_lt (Nat.lt_of_lt_of_le (V16).lt (Nat.le_of_eq g17.symm))))
      have hin76 : ¬ ((4 : Int32) < 0 ∨ cl76.slots.size ≤ ((4 : Int32)).toNatClampNeg) := inb_of S76 ⟨by decide, by decide⟩
      have hat76 : cl76.slots[((4 : Int32)).toNatClampNeg]? = some (.ref w_GREATER) := H76.at hin76 rfl
      obtain ⟨cq77, kq77, q77a, q77b, q77c⟩ := isOf hZ e27 EE_GREATER
      obtain ⟨_, _, ⟨T77, L77, k77, n77⟩, -, X77, ⟨Lc77, hQ77, l77, y77, z77⟩, st77⟩ := X27.virtualBack hx (y := (⟨"com/example/prudent_stability/prudentstability/Relation", "holdsFor", "(I)Z"⟩ : MethodName)) (z := (⟨"com/example/prudent_stability/prudentstability/Relation", "holdsFor", "(I)Z"⟩ : MethodName)) hown (mvT hZ (hw _ (List.mem_of_getElem? (i := 16) rfl))) (mvT hZ (hw _ (List.mem_of_getElem? (i := 17) rfl))) (notFace_of_selects (args := #[]) (mvT hZ (hw _ (List.mem_of_getElem? (i := 19) rfl)))) (mvT hZ (hw _ (List.mem_of_getElem? (i := 19) rfl))) (mvT hZ (hw _ (List.mem_of_getElem? (i := 18) rfl))) (by decide) (backOf (W := 0) (rmH l Z a0 hw [] w_GREATER s1 (4 : Int32) (1 : Int32) h27 n0 hsz FF_GREATER EE_GREATER (by decide) (own_adm1 (4 : Int32) (4 : Int32) s1 (by decide) rs c89_72)) hZ (hw _ (List.mem_of_getElem? (i := 20) rfl)) (hw _ (List.mem_of_getElem? (i := 3) rfl)) (by decide) (by decide)) q77a q77c (g := (mkF m 105 #[.val (.int p1), .val (.int p2), .val (.ref b1), .val (.ref b17), .val (.int (4 : Int32)), .val (.int s1), .val (.int (1 : Int32))] [(.int s1), (.ref w_GREATER)])) rfl (by rw [hml]; rfl) (Steps.refl _) (argsL := [(.int s1)]) (rest := []) (lenOf pd_rm0_0 rfl) rfl (by show 2 * 0 + _ ≤ _; exact Nat.le_of_eq rfl) (hb hby at_105) (fun _ _ => ⟨rfl, e27, (by decide : 2 + 0 ≤ _), (by decide : 10 + 0 ≤ _)⟩)
      dsimp only [Pt.U, Pt.locs, Pt.cells, Pt.slots] at X77 l77 y77 z77 st77 hQ77
      subst l77 y77 z77
      obtain ⟨rfl, N77q, hE77⟩ := hQ77
      have N77 := Fr.app N27 N77q
      have pre78 : ∀ tt, Steps p.tables e below (T77.setTop (mkF m 118 #[.val (.int p1), .val (.int p2), .val (.ref b1), .val (.ref b17), .val (.int (4 : Int32)), .val (.int s1), .val (.int (1 : Int32))] [(.int (1 : Int32))])) tt → Steps p.tables e below (s₁.setTop (entryFrame m #[(.int p1), (.int p2)] maxLocals)) tt := by
        intro tt kt
        refine pre71 tt ?_
        show Steps p.tables e below (T27.setTop (mkF m 89 #[.val (.int p1), .val (.int p2), .val (.ref b1), .val (.ref b17), .val (.int (4 : Int32)), .val (.int s1), .unset] [(.int (((4 : Int32) >>> ((s1 + (1 : Int32)) &&& 31)) &&& (1 : Int32)))])) _
        refine XS.ifNo X27.here hx rfl (hb hby at_89) rfl ((if0 _ _).trans (feq c89_72).1) ?_
        show Steps p.tables e below (T27.setTop (mkF m 92 #[.val (.int p1), .val (.int p2), .val (.ref b1), .val (.ref b17), .val (.int (4 : Int32)), .val (.int s1), .unset] [])) _
        refine XS.iconst X27.here hx rfl (hb hby at_92) ?_
        show Steps p.tables e below (T27.setTop (mkF m 93 #[.val (.int p1), .val (.int p2), .val (.ref b1), .val (.ref b17), .val (.int (4 : Int32)), .val (.int s1), .unset] [(.int (1 : Int32))])) _
        refine XS.goto X27.here hx rfl (pc0 := 93) (pc' := 97) rfl (hb hby at_93) (by decide) (by decide) ?_
        show Steps p.tables e below (T27.setTop (mkF m 97 #[.val (.int p1), .val (.int p2), .val (.ref b1), .val (.ref b17), .val (.int (4 : Int32)), .val (.int s1), .unset] [(.int (1 : Int32))])) _
        refine XS.istore X27.here hx rfl (hb hby at_97) rfl (l' := #[.val (.int p1), .val (.int p2), .val (.ref b1), .val (.ref b17), .val (.int (4 : Int32)), .val (.int s1), .val (.int (1 : Int32))]) rfl ?_
        show Steps p.tables e below (T27.setTop (mkF m 99 #[.val (.int p1), .val (.int p2), .val (.ref b1), .val (.ref b17), .val (.int (4 : Int32)), .val (.int s1), .val (.int (1 : Int32))] [])) _
        refine XS.aloadN X27.here hx rfl (hb hby at_99) rfl rfl ?_
        show Steps p.tables e below (T27.setTop (mkF m 100 #[.val (.int p1), .val (.int p2), .val (.ref b1), .val (.ref b17), .val (.int (4 : Int32)), .val (.int s1), .val (.int (1 : Int32))] [(.ref b1)])) _
        refine XS.iload X27.here hx rfl (hb hby at_100) rfl ?_
        show Steps p.tables e below (T27.setTop (mkF m 102 #[.val (.int p1), .val (.int p2), .val (.ref b1), .val (.ref b17), .val (.int (4 : Int32)), .val (.int s1), .val (.int (1 : Int32))] [(.int (4 : Int32)), (.ref b1)])) _
        refine X27.aaload hx (j := (4 : Int32)) (v := (.ref w_GREATER)) (by rw [e27]; exact Ar76.1) (State.isArrayOf_alike hZ.alike Ar76.2.1) rfl Ar76.2.2 hin76 hat76 (g := (mkF m 102 #[.val (.int p1), .val (.int p2), .val (.ref b1), .val (.ref b17), .val (.int (4 : Int32)), .val (.int s1), .val (.int (1 : Int32))] [(.int (4 : Int32)), (.ref b1)])) rfl rfl (hb hby at_102) _ ?_
        show Steps p.tables e below (T27.setTop (mkF m 103 #[.val (.int p1), .val (.int p2), .val (.ref b1), .val (.ref b17), .val (.int (4 : Int32)), .val (.int s1), .val (.int (1 : Int32))] [(.ref w_GREATER)])) _
        refine XS.iload X27.here hx rfl (hb hby at_103) rfl ?_
        show Steps p.tables e below (T27.setTop (mkF m 105 #[.val (.int p1), .val (.int p2), .val (.ref b1), .val (.ref b17), .val (.int (4 : Int32)), .val (.int s1), .val (.int (1 : Int32))] [(.int s1), (.ref w_GREATER)])) _
        refine st77.trans ?_
        show Steps p.tables e below (T77.setTop (mkF m 108 #[.val (.int p1), .val (.int p2), .val (.ref b1), .val (.ref b17), .val (.int (4 : Int32)), .val (.int s1), .val (.int (1 : Int32))] [(.int (1 : Int32))])) _
        refine XS.iload X77.here hx rfl (hb hby at_108) rfl ?_
        show Steps p.tables e below (T77.setTop (mkF m 110 #[.val (.int p1), .val (.int p2), .val (.ref b1), .val (.ref b17), .val (.int (4 : Int32)), .val (.int s1), .val (.int (1 : Int32))] [(.int (1 : Int32)), (.int (1 : Int32))])) _
        refine XS.icmpNo X77.here hx rfl (hb hby at_110) rfl (teq (rfl : (1 : Int32) = (1 : Int32))).2 ?_
        show Steps p.tables e below (T77.setTop (mkF m 113 #[.val (.int p1), .val (.int p2), .val (.ref b1), .val (.ref b17), .val (.int (4 : Int32)), .val (.int s1), .val (.int (1 : Int32))] [])) _
        refine XS.iconst X77.here hx rfl (hb hby at_113) ?_
        show Steps p.tables e below (T77.setTop (mkF m 114 #[.val (.int p1), .val (.int p2), .val (.ref b1), .val (.ref b17), .val (.int (4 : Int32)), .val (.int s1), .val (.int (1 : Int32))] [(.int (1 : Int32))])) _
        refine XS.goto X77.here hx rfl (pc0 := 114) (pc' := 118) rfl (hb hby at_114) (by decide) (by decide) ?_
        exact kt
      obtain ⟨fs, hr, hrun, hended, hW, hsame⟩ := X77.leave (v := some (.int (1 : Int32))) (fun h => by rw [Bd.returns] at h; cases h)
      refine ⟨_, _, pre78 _ ?_, hrun, hended, _, _, rfl, ?_, ⟨_, rfl⟩, hW, hsame.mono (by decide) (by decide)⟩
      · show Steps p.tables e below (T77.setTop (mkF m 118 #[.val (.int p1), .val (.int p2), .val (.ref b1), .val (.ref b17), .val (.int (4 : Int32)), .val (.int s1), .val (.int (1 : Int32))] [(.int (1 : Int32))])) _
        exact retN X77 hx (t := .boolean) Bd.returns (by simp) (hb hby at_118) hr
      · show Q0 Z h0 n0 _ T77.heap _
        rw [hE77]
        exact ⟨rfl, N77⟩
set_option maxRecDepth 65536 in
set_option maxHeartbeats 40000000 in
theorem comes_1 {Post : Tables → Env → Array Value → State → Outcome → State → Prop} (hpost : ∀ tb e args s v u, (limb_1_1.after args s (.returned v) u = true ∧ limb_1_2.after args s (.returned v) u = true ∧ True) → FrameEnd s (.returned v) u (Jvm.fieldLocs frame_1_writes args s ++ Jvm.arrayLocs frame_1_arrays args s ++ Jvm.staticLocs frame_1_statics s) 16 128 → Post tb e args s (.returned v) u) :
    ArmFor flags0 classFile x code maxLocals ret World_1 tables_1 room_1 Calls_1 rest_1 Pre_1 Post := by
  intro l hfl _ _ p e ha hc hk s m args below hf hA hF happ hP
  obtain ⟨hcalls, hrest, hpre⟩ := hP
  obtain ⟨-, -, -, hnamed, -, -, -, hat⟩ := (Spec.applies_iff hf).mp happ
  obtain ⟨hg, hn⟩ := and_e (Cond.before_iff.mp (show (Jvm.Cond.and given_1 narrow_1).before args s = true from hpre))
  have hw := fun d (hd : d ∈ tables_1) => atoms_spec (ws := Jvm.Cond.code x code maxLocals ret :: tables_1) hat d (List.mem_cons_of_mem _ hd)
  obtain ⟨g1a, g1b⟩ := and_e hg
  obtain ⟨g2a, g2b⟩ := and_e g1b
  obtain ⟨w0, w1, rfl⟩ : ∃ w0 w1 : Value, args = #[w0, w1] := by
    have hs : args.size = 2 := by simpa [Cond.value, given_1] using g1a
    obtain ⟨L⟩ := args
    match L, hs with
    | [w0, w1], _ => exact ⟨w0, w1, rfl⟩
  have hfit : Fit s := fun {y c} hc i hi => by
    obtain ⟨ha, rfl⟩ := Array.getElem?_eq_some_iff.mp hc
    have q := List.all_eq_true.mp ((Array.all_eq_true_iff_forall_mem.mp hF) _ (Array.getElem_mem ha)) i (List.mem_range.mpr hi)
    simpa [Array.getElem?_eq_getElem hi] using q
  obtain ⟨i0, ei0⟩ := is_v g2a
  obtain rfl : w0 = (.int i0) := Option.some.inj ei0
  obtain ⟨i1, ei1⟩ := is_v g2b
  obtain rfl : w1 = (.int i1) := Option.some.inj ei1
  obtain ⟨n1a, n1b⟩ := and_e hn
  obtain ⟨w_LESS, ev_LESS⟩ := exa_v n1a
  have S_LESS := Sta.start ev_LESS (Or.inr ⟨(hw _ (List.mem_of_getElem? (i := 3) rfl)), (hw _ (List.mem_of_getElem? (i := 4) rfl))⟩)
  have E_LESS := Exa.start ev_LESS n1a
  obtain ⟨n2a, n2b⟩ := and_e n1b
  obtain ⟨w_LESS_OR_EQUAL, ev_LESS_OR_EQUAL⟩ := exa_v n2a
  have S_LESS_OR_EQUAL := Sta.start ev_LESS_OR_EQUAL (Or.inr ⟨(hw _ (List.mem_of_getElem? (i := 3) rfl)), (hw _ (List.mem_of_getElem? (i := 7) rfl))⟩)
  have E_LESS_OR_EQUAL := Exa.start ev_LESS_OR_EQUAL n2a
  obtain ⟨n3a, n3b⟩ := and_e n2b
  obtain ⟨w_EQUAL, ev_EQUAL⟩ := exa_v n3a
  have S_EQUAL := Sta.start ev_EQUAL (Or.inr ⟨(hw _ (List.mem_of_getElem? (i := 3) rfl)), (hw _ (List.mem_of_getElem? (i := 9) rfl))⟩)
  have E_EQUAL := Exa.start ev_EQUAL n3a
  obtain ⟨n4a, n4b⟩ := and_e n3b
  obtain ⟨w_GREATER_OR_EQUAL, ev_GREATER_OR_EQUAL⟩ := exa_v n4a
  have S_GREATER_OR_EQUAL := Sta.start ev_GREATER_OR_EQUAL (Or.inr ⟨(hw _ (List.mem_of_getElem? (i := 3) rfl)), (hw _ (List.mem_of_getElem? (i := 11) rfl))⟩)
  have E_GREATER_OR_EQUAL := Exa.start ev_GREATER_OR_EQUAL n4a
  obtain ⟨n5a, n5b⟩ := and_e n4b
  obtain ⟨w_GREATER, ev_GREATER⟩ := exa_v n5a
  have S_GREATER := Sta.start ev_GREATER (Or.inr ⟨(hw _ (List.mem_of_getElem? (i := 3) rfl)), (hw _ (List.mem_of_getElem? (i := 13) rfl))⟩)
  have E_GREATER := Exa.start ev_GREATER n5a
  obtain ⟨n6a, n6b⟩ := and_e n5b
  have F_LESS_ordinal := own_fld ev_LESS n6a
  obtain ⟨n7a, n7b⟩ := and_e n6b
  have F_GREATER_ordinal := own_fld ev_GREATER n7a
  obtain ⟨n8a, n8b⟩ := and_e n7b
  have F_GREATER_OR_EQUAL_ordinal := own_fld ev_GREATER_OR_EQUAL n8a
  obtain ⟨n9a, n9b⟩ := and_e n8b
  have F_LESS_OR_EQUAL_ordinal := own_fld ev_LESS_OR_EQUAL n9a
  have F_EQUAL_ordinal := own_fld ev_EQUAL n9b
  obtain ⟨n, o, h1, h2, h3, _, L, rfl, ⟨rfl, N⟩, hq⟩ := rm0 l s _ hw tables_1 i0 i1 w_LESS w_LESS_OR_EQUAL w_EQUAL w_GREATER_OR_EQUAL w_GREATER s.heap s.heap.size (Nat.le_refl _) S_LESS S_LESS_OR_EQUAL S_EQUAL S_GREATER_OR_EQUAL S_GREATER E_LESS E_LESS_OR_EQUAL E_EQUAL E_GREATER_OR_EQUAL E_GREATER F_LESS_ordinal F_LESS_OR_EQUAL_ordinal F_EQUAL_ordinal F_GREATER_OR_EQUAL_ordinal F_GREATER_ordinal p e ha hc hk s m _ below hf ((Spec.applies_iff_loose hf).mp happ).1 ⟨rfl, State.Warmed39.refl s, rfl⟩ trivial
  refine ⟨n, _, h1, h2, h3, hpost _ _ _ _ _ _ ⟨Cond.after_iff.mpr rfl, Cond.after_iff.mpr (eq_i res_at (Term.int_eval (1)) rfl), trivial⟩ ⟨hq.1, hq.2.1, (hq.2.2.sift fun y hy => Or.inr (N y hy)).mono (by decide) (by decide)⟩⟩
theorem main_1_1 : Claimed_1_1 := comes_1 fun _ _ _ _ _ _ h hF => ⟨h.1, hF⟩
theorem main_1_2 : Claimed_1_2 := comes_1 fun _ _ _ _ _ _ h hF => ⟨h.2.1, hF⟩
end Jvm.Pilot.@@N@@
namespace Jvm.Pilot.@@N@@
open Jvm Jvm.ClassFile Sem Op Lib Jvm.Free Jvm.Stand Jvm.Pilot.@@N@@.Jvm.D
/-! MADE BY PROGRAM (witnessworld.py) out of the Statement's table words and the real class files: 13 classes; the members and pool entries that the words name. The judged class is class 1, her method 1. -/
namespace start1
open Jvm.ClassFile
def u (s : String) : CpInfo := .utf8 (stringToUtf16 s)
/-- a pool by its gaps: so many unusable entries, then the entry; so many at the end -/
def gap : Nat → List CpInfo → List CpInfo
  | 0, r => r
  | n + 1, r => .unusable :: gap n r
def poolList (es : List (Nat × CpInfo)) (last : Nat) : List CpInfo := es.foldr (fun e r => gap e.1 (e.2 :: r)) (gap last [])
def pool (es : List (Nat × CpInfo)) (last : Nat) : Array CpInfo := ⟨poolList es last⟩
def fileOf (pool : Array CpInfo) (this : Nat) (attrs : Array Attribute := #[]) (ms : Array MethodInfo := #[]) (fl : Nat := 33) (sup : Nat := 0) (ifs : Array Nat := #[]) (fds : Array FieldInfo := #[]) : ClassFile where
  minorVersion := 0
  majorVersion := 65
  constantPool := pool
  accessFlags := fl
  thisClass := this
  superClass := sup
  interfaces := ifs
  fields := fds
  methods := ms
  attributes := attrs
def plain (name : String) (sup : Option ClassId) : Class where
  name := name
  kind := .ordinary
  loader := none
  accessFlags := 33
  super := sup
  interfaces := #[]
  cf := none
  fields := #[]
  methods := #[]
  instanceTypes := #[]
  staticTypes := #[]
  resolved := #[]
  callSites := []
  init := .initialized
  statics := none
  mirror := none

def pool0 : Array CpInfo := pool [(5, u "<init>"), (0, u "()V"), (1, .class_ 10), (1, u "java/lang/Object")] 113

def k0m0 : Method := { name := "<init>", desc := "()V", sig := { parameters := [], returnType := none }, accessFlags := 1, code := none }
/-- java/lang/Object -/
def k0 : Class := { plain "java/lang/Object" none with
  accessFlags := 33
  interfaces := #[]
  cf := some (fileOf pool0 8 #[] #[{ accessFlags := 1, nameIndex := 5, descriptorIndex := 6, attributes := #[] }] 33 0 #[] #[])
  fields := #[]
  methods := #[k0m0]
  instanceTypes := #[]
  staticTypes := #[]
  resolved := Array.replicate 124 none
  statics := none }

def pool1 : Array CpInfo := pool [(2, .class_ 4), (1, u "java/lang/Object"), (0, u "<init>"), (0, u "()V"), (0, .class_ 8), (0, u "com/example/prudent_stability/prudentstability/Relation"), (0, .fieldref 7 10), (0, .nameAndType 11 12), (0, u "LESS"), (0, u "Lcom/example/prudent_stability/prudentstability/Relation;"), (0, .fieldref 7 14), (0, .nameAndType 15 12), (0, u "LESS_OR_EQUAL"), (0, .fieldref 7 17), (0, .nameAndType 18 12), (0, u "EQUAL"), (0, .fieldref 7 20), (0, .nameAndType 21 12), (0, u "GREATER_OR_EQUAL"), (0, .fieldref 7 23), (0, .nameAndType 24 12), (0, u "GREATER"), (0, .integer 2147483647), (0, .methodref 7 27), (0, .nameAndType 28 29), (0, u "holdsFor"), (0, u "(I)Z"), (0, .class_ 31), (0, u "com/example/prudent_stability/prudentstability/RelationHoldsForPinLaw"), (2, u "law"), (0, u "(II)Z")] 7

def k1m0 : Method := { name := "<init>", desc := "()V", sig := { parameters := [], returnType := none }, accessFlags := 1, code := none }
def k1c1 : Code := { maxStack := 4, maxLocals := 7, code := code, exceptionTable := #[], attributes := #[] }
def k1m1 : Method := { name := "law", desc := "(II)Z", sig := { parameters := [.int, .int], returnType := some .boolean }, accessFlags := 9, code := some k1c1 }
/-- com/example/prudent_stability/prudentstability/RelationHoldsForPinLaw -/
def k1 : Class := { plain "com/example/prudent_stability/prudentstability/RelationHoldsForPinLaw" (some 0) with
  accessFlags := 49
  interfaces := #[]
  cf := some (fileOf pool1 30 #[] #[{ accessFlags := 1, nameIndex := 5, descriptorIndex := 6, attributes := #[] }, { accessFlags := 9, nameIndex := 34, descriptorIndex := 35, attributes := #[] }] 49 2 #[] #[])
  fields := #[]
  methods := #[k1m0, k1m1]
  instanceTypes := #[]
  staticTypes := #[]
  resolved := Array.replicate 43 none
  statics := none }

def pool2 : Array CpInfo := pool [(1, .class_ 2), (0, u "java/lang/constant/Constable"), (0, .class_ 4), (0, u "java/lang/Object")] 6

/-- java/lang/constant/Constable -/
def k2 : Class := { plain "java/lang/constant/Constable" (some 0) with
  accessFlags := 1537
  interfaces := #[]
  cf := some (fileOf pool2 1 #[] #[] 1537 3 #[] #[])
  fields := #[]
  methods := #[]
  instanceTypes := #[]
  staticTypes := #[]
  resolved := Array.replicate 11 none
  statics := none }

def pool3 : Array CpInfo := pool [(1, .class_ 2), (0, u "java/lang/Comparable"), (0, .class_ 4), (0, u "java/lang/Object")] 7

/-- java/lang/Comparable -/
def k3 : Class := { plain "java/lang/Comparable" (some 0) with
  accessFlags := 1537
  interfaces := #[]
  cf := some (fileOf pool3 1 #[] #[] 1537 3 #[] #[])
  fields := #[]
  methods := #[]
  instanceTypes := #[]
  staticTypes := #[]
  resolved := Array.replicate 12 none
  statics := none }

def pool4 : Array CpInfo := pool [(1, .class_ 2), (0, u "java/io/Serializable"), (0, .class_ 4), (0, u "java/lang/Object")] 2

/-- java/io/Serializable -/
def k4 : Class := { plain "java/io/Serializable" (some 0) with
  accessFlags := 1537
  interfaces := #[]
  cf := some (fileOf pool4 1 #[] #[] 1537 3 #[] #[])
  fields := #[]
  methods := #[]
  instanceTypes := #[]
  staticTypes := #[]
  resolved := Array.replicate 7 none
  statics := none }

def pool5 : Array CpInfo := pool [(2, .class_ 4), (1, u "java/lang/Enum"), (0, u "name"), (0, u "Ljava/lang/String;"), (0, .fieldref 2 8), (0, .nameAndType 9 10), (0, u "ordinal"), (0, u "I"), (1, .class_ 14), (1, u "java/lang/Object"), (4, u "hash"), (86, .class_ 108), (1, u "java/lang/Enum$EnumDesc"), (2, .class_ 112), (0, u "java/lang/constant/Constable"), (0, .class_ 114), (0, u "java/lang/Comparable"), (0, .class_ 116), (0, u "java/io/Serializable"), (9, u "()I")] 77

def k5c0 : Code := { maxStack := 1, maxLocals := 1, code := jdk_37_method_2_code, exceptionTable := #[], attributes := #[] }
def k5m0 : Method := { name := "ordinal", desc := "()I", sig := { parameters := [], returnType := some .int }, accessFlags := 17, code := some k5c0 }
/-- java/lang/Enum -/
def k5 : Class := { plain "java/lang/Enum" (some 0) with
  accessFlags := 1057
  interfaces := #[2, 3, 4]
  cf := some (fileOf pool5 2 #[.nestMembers #[106]] #[{ accessFlags := 17, nameIndex := 9, descriptorIndex := 126, attributes := #[] }] 1057 12 #[111, 113, 115] #[{ accessFlags := 18, nameIndex := 5, descriptorIndex := 6, attributes := #[] }, { accessFlags := 18, nameIndex := 9, descriptorIndex := 10, attributes := #[] }, { accessFlags := 2, nameIndex := 19, descriptorIndex := 10, attributes := #[] }])
  fields := #[{ name := "name", type := (.object "java/lang/String"), accessFlags := 18, slot := 0, constantValue := 0 }, { name := "ordinal", type := .int, accessFlags := 18, slot := 1, constantValue := 0 }, { name := "hash", type := .int, accessFlags := 2, slot := 2, constantValue := 0 }]
  methods := #[k5m0]
  instanceTypes := #[(.object "java/lang/String"), .int, .int]
  staticTypes := #[]
  resolved := Array.replicate 204 none
  statics := none }

def pool6 : Array CpInfo := pool [(1, .class_ 2), (0, u "com/example/prudent_stability/prudentstability/Relation"), (2, u "LESS"), (0, u "Lcom/example/prudent_stability/prudentstability/Relation;"), (2, u "LESS_OR_EQUAL"), (2, u "EQUAL"), (2, u "GREATER_OR_EQUAL"), (2, u "GREATER"), (2, u "$VALUES"), (0, u "[Lcom/example/prudent_stability/prudentstability/Relation;"), (6, .class_ 31), (1, u "java/lang/Enum"), (8, u "symbol"), (0, u "Ljava/lang/String;"), (0, .methodref 1 43), (0, .nameAndType 44 45), (0, u "ordinal"), (0, u "()I"), (35, u "holdsFor"), (0, u "(I)Z")] 9

def k6c0 : Code := { maxStack := 4, maxLocals := 2, code := prog_36_method_5_code, exceptionTable := #[], attributes := #[] }
def k6m0 : Method := { name := "holdsFor", desc := "(I)Z", sig := { parameters := [.int], returnType := some .boolean }, accessFlags := 1, code := some k6c0 }
/-- com/example/prudent_stability/prudentstability/Relation -/
def k6 : Class := { plain "com/example/prudent_stability/prudentstability/Relation" (some 5) with
  accessFlags := 16433
  interfaces := #[]
  cf := some (fileOf pool6 1 #[] #[{ accessFlags := 1, nameIndex := 81, descriptorIndex := 82, attributes := #[] }] 16433 29 #[] #[{ accessFlags := 16409, nameIndex := 5, descriptorIndex := 6, attributes := #[] }, { accessFlags := 16409, nameIndex := 9, descriptorIndex := 6, attributes := #[] }, { accessFlags := 16409, nameIndex := 12, descriptorIndex := 6, attributes := #[] }, { accessFlags := 16409, nameIndex := 15, descriptorIndex := 6, attributes := #[] }, { accessFlags := 16409, nameIndex := 18, descriptorIndex := 6, attributes := #[] }, { accessFlags := 18, nameIndex := 40, descriptorIndex := 41, attributes := #[] }, { accessFlags := 4122, nameIndex := 21, descriptorIndex := 22, attributes := #[] }])
  fields := #[{ name := "LESS", type := (.object "com/example/prudent_stability/prudentstability/Relation"), accessFlags := 16409, slot := 0, constantValue := 0 }, { name := "LESS_OR_EQUAL", type := (.object "com/example/prudent_stability/prudentstability/Relation"), accessFlags := 16409, slot := 1, constantValue := 0 }, { name := "EQUAL", type := (.object "com/example/prudent_stability/prudentstability/Relation"), accessFlags := 16409, slot := 2, constantValue := 0 }, { name := "GREATER_OR_EQUAL", type := (.object "com/example/prudent_stability/prudentstability/Relation"), accessFlags := 16409, slot := 3, constantValue := 0 }, { name := "GREATER", type := (.object "com/example/prudent_stability/prudentstability/Relation"), accessFlags := 16409, slot := 4, constantValue := 0 }, { name := "symbol", type := (.object "java/lang/String"), accessFlags := 18, slot := 3, constantValue := 0 }, { name := "$VALUES", type := (.array (.object "com/example/prudent_stability/prudentstability/Relation")), accessFlags := 4122, slot := 5, constantValue := 0 }]
  methods := #[k6m0]
  instanceTypes := #[(.object "java/lang/String"), .int, .int, (.object "java/lang/String")]
  staticTypes := #[(.object "com/example/prudent_stability/prudentstability/Relation"), (.object "com/example/prudent_stability/prudentstability/Relation"), (.object "com/example/prudent_stability/prudentstability/Relation"), (.object "com/example/prudent_stability/prudentstability/Relation"), (.object "com/example/prudent_stability/prudentstability/Relation"), (.array (.object "com/example/prudent_stability/prudentstability/Relation"))]
  resolved := Array.replicate 92 none
  statics := some 0 }

def pool7 : Array CpInfo := pool [(1, u "java/lang/Cloneable"), (0, .class_ 1), (0, u "java/lang/Object"), (0, .class_ 3)] 3

/-- java/lang/Cloneable -/
def k7 : Class := { plain "java/lang/Cloneable" (some 0) with
  accessFlags := 1537
  interfaces := #[]
  cf := some (fileOf pool7 2 #[] #[] 1537 4 #[] #[])
  fields := #[]
  methods := #[]
  instanceTypes := #[]
  staticTypes := #[]
  resolved := Array.replicate 8 none
  statics := none }

/-- the primitive byte -/
def k8 : Class := { plain "byte" none with kind := .primitive 'B', accessFlags := 0x411 }
/-- [B -/
def k9 : Class := { plain "[B" (some 0) with kind := .array 8 .byte, interfaces := #[7, 4], accessFlags := 1041 }

/-- the primitive int -/
def k10 : Class := { plain "int" none with kind := .primitive 'I', accessFlags := 0x411 }
/-- [I -/
def k11 : Class := { plain "[I" (some 0) with kind := .array 10 .int, interfaces := #[7, 4], accessFlags := 1041 }

/-- [Lcom/example/prudent_stability/prudentstability/Relation; -/
def k12 : Class := { plain "[Lcom/example/prudent_stability/prudentstability/Relation;" (some 0) with kind := .array 6 (.object "com/example/prudent_stability/prudentstability/Relation"), interfaces := #[7, 4], accessFlags := 1041 }

def heap : Heap := #[{ cls := 6, slots := #[.ref 1, .ref 2, .ref 3, .ref 4, .ref 5, .null], vm := .statics 6 },
  { cls := 6, slots := #[.null, .int 0, .int 0, .null], vm := .none },
  { cls := 6, slots := #[.null, .int 1, .int 0, .null], vm := .none },
  { cls := 6, slots := #[.null, .int 2, .int 0, .null], vm := .none },
  { cls := 6, slots := #[.null, .int 3, .int 0, .null], vm := .none },
  { cls := 6, slots := #[.null, .int 4, .int 0, .null], vm := .none }]
def classes : Array Class := #[k0, k1, k2, k3, k4, k5, k6, k7, k8, k9, k10, k11, k12]
def interned : List (Array UInt16 × Addr) := []
def slotsUsed : Nat := 26
def theMethod : MethodId := ⟨1, 1⟩
def args0 : Array Value := #[.int 5, .int 4]
def aboutOver (below : List Frame) : State where
  vm := { classes := classes, interned := interned.toArray }
  heap := heap
  slotsUsed := slotsUsed
  threads := #[{ frames := .invoking theMethod args0 :: below }]
def below0 : List Frame := [.native { method := ⟨0, 0⟩, args := #[] }]
def about1 : State := aboutOver below0
def p0 : Program := .bare "" "" ""
def e0 : Env := launch0.env 0 0 0
theorem w_frames : about1.frames = Frame.invoking theMethod args0 :: below0 := rfl
set_option maxRecDepth 65536 in
theorem w_args : argsFit about1.vm theMethod args0 = true := by decide +kernel
set_option maxRecDepth 65536 in
theorem w_heap : heapFits about1 = true := by decide +kernel
set_option maxRecDepth 65536 in
theorem w_runnable : about1.curStatus? = some .runnable := by decide +kernel
set_option maxRecDepth 65536 in
theorem w_alone : about1.alone = true := by decide +kernel
set_option maxRecDepth 65536 in
theorem w_named : about1.methodNamed? x = some theMethod := by decide +kernel
set_option maxRecDepth 65536 in
theorem w_hears : about1.hears theMethod below0 = true := by decide +kernel
set_option maxRecDepth 65536 in
theorem w_ripe : about1.ripe theMethod args0 below0 = true := by decide +kernel
theorem w_running : about1.status = .running := rfl
set_option maxRecDepth 65536 in
theorem w_room : about1.hasRoom e0.platform room_1 = true :=
  launch0.hasRoom_least _ room_1 (by decide +kernel) (by decide +kernel) (by decide +kernel) (by decide +kernel) (by decide +kernel) (by decide +kernel)
theorem allAtoms_all (ts : List Jvm.Cond) (a : Array Jvm.Value) (st : Jvm.State) : (allAtoms ts).before a st = ts.all (fun c => c.before a st) := by
  induction ts with
  | nil => rfl
  | cons c t ih =>
    show (Jvm.Cond.and c (allAtoms t)).before a st = _
    rw [Jvm.Cond.before_and, ih, List.all_cons]
def words1 : List Jvm.Cond := Jvm.Cond.code x code maxLocals ret :: tables_1
/-- a 'code' word, met by the world's own term for the bytes: nothing is compared byte by byte -/
theorem code_word {y : MethodName} {bytes : ByteArray} {mx : Nat} {rt : Option FieldType} {a : Array Value} {s : State} {m : MethodId} {meth : Method} {c : Code} (h1 : s.methodNamed? y = some m) (h2 : s.vm.method? m = some meth) (h3 : meth.code = some c) (h4 : c.code = bytes)
    (h5 : (c.maxLocals == mx && c.exceptionTable.isEmpty && decide (c.maxStack ≤ mostOperands) && decide (meth.sig.returnType = rt) && !meth.locks && decide (parseMethodDescriptor y.desc = some meth.sig)) = true) : (Jvm.Cond.code y bytes mx rt).before a s = true := by
  simp only [Bool.and_eq_true, beq_iff_eq, Bool.not_eq_true', decide_eq_true_eq] at h5
  obtain ⟨⟨⟨⟨⟨g1, g2⟩, g3⟩, g4⟩, g5⟩, g6⟩ := h5
  simp [Cond.before, Cond.holds, Cond.value, h1, h2, h3, h4, g1, g2, g3, g4, g5, g6]
def isCode : Jvm.Cond → Bool
  | .code _ _ _ _ => true
  | _ => false
theorem all_split {L : List Jvm.Cond} {P : Jvm.Cond → Bool} (h1 : L.all (fun c => isCode c || P c) = true) (h2 : ∀ c ∈ L.filter isCode, P c = true) : L.all P = true := by
  refine List.all_eq_true.mpr fun c hc => ?_
  have h := List.all_eq_true.mp h1 c hc
  rcases Bool.eq_false_or_eq_true (isCode c) with hi | hi
  · exact h2 c (List.mem_filter.mpr ⟨hc, hi⟩)
  · simpa [hi] using h
set_option maxRecDepth 65536 in
theorem w_c0 : (Jvm.Cond.code x code maxLocals ret).before args0 about1 = true := code_word (m := ⟨1, 1⟩) (meth := k1m1) (c := k1c1) (by decide +kernel) rfl rfl rfl (by decide +kernel)
set_option maxRecDepth 65536 in
theorem w_c1 : (Jvm.Cond.code ({ cls := "com/example/prudent_stability/prudentstability/Relation", name := "holdsFor", desc := "(I)Z" } : Jvm.MethodName) prog_36_method_5_code (2 : Nat) (Option.some Jvm.ClassFile.FieldType.boolean)).before args0 about1 = true := code_word (m := ⟨6, 0⟩) (meth := k6m0) (c := k6c0) (by decide +kernel) rfl rfl rfl (by decide +kernel)
set_option maxRecDepth 65536 in
theorem w_c2 : (Jvm.Cond.code ({ cls := "java/lang/Enum", name := "ordinal", desc := "()I" } : Jvm.MethodName) jdk_37_method_2_code (1 : Nat) (Option.some Jvm.ClassFile.FieldType.int)).before args0 about1 = true := code_word (m := ⟨5, 0⟩) (meth := k5m0) (c := k5c0) (by decide +kernel) rfl rfl rfl (by decide +kernel)
def codes1 : List Jvm.Cond := [Jvm.Cond.code x code maxLocals ret, Jvm.Cond.code ({ cls := "com/example/prudent_stability/prudentstability/Relation", name := "holdsFor", desc := "(I)Z" } : Jvm.MethodName) prog_36_method_5_code (2 : Nat) (Option.some Jvm.ClassFile.FieldType.boolean), Jvm.Cond.code ({ cls := "java/lang/Enum", name := "ordinal", desc := "()I" } : Jvm.MethodName) jdk_37_method_2_code (1 : Nat) (Option.some Jvm.ClassFile.FieldType.int)]
set_option maxRecDepth 65536 in
theorem codes_eq : words1.filter isCode = codes1 := rfl
theorem w_codes : ∀ c ∈ words1.filter isCode, c.before args0 about1 = true := by
  rw [codes_eq]
  intro c hc
  simp only [codes1, List.mem_cons, List.not_mem_nil, or_false] at hc
  rcases hc with rfl | rfl | rfl
  · exact w_c0
  · exact w_c1
  · exact w_c2
set_option maxRecDepth 65536 in
theorem w_t1 : (words1.take 24).all (fun c => isCode c || c.before args0 about1) = true := by decide +kernel
set_option maxRecDepth 65536 in
theorem w_t2 : (words1.drop 24).all (fun c => isCode c || c.before args0 about1) = true := by decide +kernel
theorem w_tables : (allAtoms (Jvm.Cond.code x code maxLocals ret :: tables_1)).before args0 about1 = true := by
  rw [allAtoms_all]
  show words1.all (fun c => c.before args0 about1) = true
  refine all_split ?_ w_codes
  rw [← List.take_append_drop 24 words1, List.all_append, w_t1, w_t2]
  rfl
set_option maxRecDepth 65536 in
theorem w_case : (Jvm.Cond.and given_1 narrow_1).before args0 about1 = true := by decide +kernel
theorem w_applies : (headSpec (Jvm.Cond.code x code maxLocals ret :: tables_1) room_1).applies x e0.platform about1 = true :=
  (Spec.applies_iff w_frames).mpr ⟨w_running, w_runnable, w_alone, w_named, w_hears, w_ripe, w_room, w_tables⟩
theorem atStart : AtStart classFile x code maxLocals ret World_1 tables_1 room_1 Calls_1 rest_1 Pre_1 launch0 p0 e0 about1 theMethod args0 below0 :=
  ⟨lists_1, trivial, launch0.admits_env _ _ _, launch0.least_env, fairChoices_fair.cas, fairChoices_fair.clock, w_frames, w_args, w_heap, w_applies, trivial, trivial, w_case⟩
end start1
theorem witness_1 : WitnessClaimed_1 := ⟨start1.p0, start1.e0, start1.about1, start1.theMethod, start1.args0, start1.below0, start1.atStart⟩
end Jvm.Pilot.@@N@@
