import JvmDerived
import JvmDerived.Pilot.@@N@@Statement
import JvmDerived.Pilot.@@N@@Code
set_option linter.unusedVariables false
set_option linter.unusedSimpArgs false
namespace Jvm.RoadKit
open Sem ClassFile Op Lib Jvm.Stand Jvm.Free Jvm.LawKit
section New
variable {p : Program} {l : Launch} {e : Env} {R : Room} {s : State} {m : MethodId} {args : Array Value} {below : List Frame} {meth : Method} {c : Code} {T : State} {locs : List Loc} {cells slots : Nat}
theorem retI (X : Stand p l e R s m args below meth c T locs cells slots) (hx : p.tables.exec = Jvm.exec) {pc : Nat} {Ls : Array Slot} {z : Int32} {rest : List Value} (hret : meth.sig.returnType = some .int) (hd : decode c.code pc = .ok (.ireturn, 1)) {fs : List Frame}
    (hl : ∀ (f : JFrame) (acts : List Action), f.method = m → f.locked = none → f.entered = [] → (doReturn e (T.setTop f) acts (some (.int z))).1 = T.setFrames fs) : Steps p.tables e below (T.setTop (mkF m pc Ls (.int z :: rest))) (T.setFrames fs) := by
  have hm' : T.vm.method? m = some meth := X.method'
  have hn : narrow .int (.int z) = .int z := rfl
  show Steps p.tables e below (T.setTop { method := m, pc := pc, locals := Ls, stack := _ :: rest, locked := none }) _
  jvm_step X.here [X.here.top, hx, hd, hm', hret, hn]
  first | (intro acts; rw [hl _ acts rfl rfl rfl]) | rw [hl _ _ rfl rfl rfl]
  exact Steps.refl _
end New
end Jvm.RoadKit
namespace Jvm.Pilot.@@N@@
open Jvm Jvm.ClassFile Sem Op Lib Jvm.Free Jvm.Stand Jvm.LawKit Jvm.RoadKit Bundle Jvm.Pilot.@@N@@.Jvm.D
theorem own_retb (z : Int32) (h : z = 0 ∨ z = 1) : narrow .boolean (.int z) = .int z := by rcases h with rfl | rfl <;> rfl
theorem own_rem (x n : Int32) (hn : 0 < n.toInt) : 0 ≤ ((x &&& (2147483647 : Int32)) % n).toInt ∧ ((x &&& (2147483647 : Int32)) % n).toInt < n.toInt := by
  have h1 := c_mask x (2147483647 : Int32) 31 (by decide) (by decide)
  have h2 := (c_iremV (x &&& (2147483647 : Int32)) n).1 (by omega) hn
  exact ⟨h2.1, h2.2.1⟩
theorem own_of3 {k : Int32} (h : 0 ≤ k.toInt ∧ k.toInt < 3) : k = 0 ∨ k = 1 ∨ k = 2 := by
  have h2 : k.toInt = (0 : Int32).toInt ∨ k.toInt = (1 : Int32).toInt ∨ k.toInt = (2 : Int32).toInt := by simp; omega
  simpa only [Int32.toInt_inj] using h2
theorem own_of5 {k : Int32} (h : 0 ≤ k.toInt ∧ k.toInt < 5) : k = 0 ∨ k = 1 ∨ k = 2 ∨ k = 3 ∨ k = 4 := by
  have h2 : k.toInt = (0 : Int32).toInt ∨ k.toInt = (1 : Int32).toInt ∨ k.toInt = (2 : Int32).toInt ∨ k.toInt = (3 : Int32).toInt ∨ k.toInt = (4 : Int32).toInt := by simp; omega
  simpa only [Int32.toInt_inj] using h2
theorem own_of6 {k : Int32} (h : 0 ≤ k.toInt ∧ k.toInt < 6) : k = 0 ∨ k = 1 ∨ k = 2 ∨ k = 3 ∨ k = 4 ∨ k = 5 := by
  have h2 : k.toInt = (0 : Int32).toInt ∨ k.toInt = (1 : Int32).toInt ∨ k.toInt = (2 : Int32).toInt ∨ k.toInt = (3 : Int32).toInt ∨ k.toInt = (4 : Int32).toInt ∨ k.toInt = (5 : Int32).toInt := by simp; omega
  simpa only [Int32.toInt_inj] using h2
theorem own_eqI {args : Array Value} {s : State} {t : Term} {k : Int32} (h : (Jvm.Cond.eq t (.int k)).value args s none s [] = some true) : t.eval args s none [] s = some (.int k) := by
  obtain ⟨u, v, hu, hv, k1, k2⟩ := cmp_v (Or.inl h)
  have hv2 : v = .int k := Option.some.inj (hv.symm.trans (Term.int_eval k))
  subst hv2
  cases u <;> simp [Cond.value, hu, hv] at h
  subst h; exact hu
theorem own_fld {args : Array Value} {s : State} {t : Term} {a : Addr} {C n d : String} {k : Int32} (ev : t.eval args s none [] s = some (.ref a)) (h : (Jvm.Cond.eq (.field t C n d) (.int k)).value args s none s [] = some true) : Fld s s.heap a C n d (.int k) :=
  Fld.start ((fld_at ev).symm.trans (own_eqI h))
theorem own_len {args : Array Value} {s : State} {t : Term} {a : Addr} {cl : Cell} {ty : FieldType} {k : Int32} (ev : t.eval args s none [] s = some (.ref a)) (A : Arr s s.heap a cl ty) (h : (Jvm.Cond.eq (.length t) (.int k)).value args s none s [] = some true) : cl.slots.size.toInt32 = k := by
  obtain ⟨b, c, e1, e2, e3⟩ := Term.length_spec (own_eqI h)
  cases ev.symm.trans e1
  cases (A.fin (Vm.Alike.refl _)).symm.trans e2
  exact (Value.int.inj e3).symm
theorem own_lenlt {args : Array Value} {s : State} {t : Term} {a : Addr} {cl : Cell} {ty : FieldType} {k : Int32} (ev : t.eval args s none [] s = some (.ref a)) (A : Arr s s.heap a cl ty) (h : (Jvm.Cond.eq (.length t) (.int k)).value args s none s [] = some true) : cl.slots.size < 2 ^ 31 := by
  have h1 := own_eqI h
  have h2 := A.fin (Vm.Alike.refl _)
  apply Classical.byContradiction
  intro h3
  simp [Term.eval, ev, h2, h3] at h1
theorem own_elem {args : Array Value} {s : State} {t u : Term} {a b : Addr} {cl : Cell} {ty : FieldType} {j : Int32} (ev : t.eval args s none [] s = some (.ref a)) (A : Arr s s.heap a cl ty) (hu : u.eval args s none [] s = some (.ref b)) (h : (Jvm.Cond.eq (.elem t (.int j)) u).value args s none s [] = some true) : cl.slots[j.toNatClampNeg]? = some (.ref b) := by
  obtain ⟨x, y, hx, hy, -, -⟩ := cmp_v (Or.inl h)
  cases hu.symm.trans hy
  have h2 := (elem_in hx ev (Term.int_eval j) A.1).2
  cases x <;> simp [Cond.value, hx, hy] at h
  subst h; exact h2
theorem own_fldN {args : Array Value} {s : State} {t : Term} {a : Addr} {C n d : String} (ev : t.eval args s none [] s = some (.ref a)) (h : (Jvm.Cond.eq (.field t C n d) .null).value args s none s [] = some true) : Fld s s.heap a C n d .null :=
  Fld.start ((fld_at ev).symm.trans (null_v h))
def QR (Z : State) (r : Addr) (h0 : Heap) (n0 : Nat) (v : Option Value) (h : Heap) (L : List Loc) : Prop := v = some (.ref r) ∧ Fr n0 L ∧ h = h0
def QI (Z : State) (r : Int32) (h0 : Heap) (n0 : Nat) (v : Option Value) (h : Heap) (L : List Loc) : Prop := v = some (.int r) ∧ Fr n0 L ∧ h = h0
def own_pick (i : Int32) (b0 b1 b2 b3 b4 : Addr) : Addr := if i = 0 then b0 else if i = 1 then b1 else if i = 2 then b2 else if i = 3 then b3 else b4
def own_hf (o s : Int32) : Int32 := if o = 0 then (if s < 0 then 1 else 0) else if o = 1 then (if 0 < s then 0 else 1) else if o = 2 then (if s = 0 then 1 else 0) else if o = 3 then (if s < 0 then 0 else 1) else (if 0 < s then 1 else 0)
theorem d3_0 : decode jdk_37_method_2_code 0 = .ok (.aload_n 0, 1) := by decide +kernel
theorem d3_1 : decode jdk_37_method_2_code 1 = .ok (.getfield 7, 3) := by decide +kernel
theorem d3_4 : decode jdk_37_method_2_code 4 = .ok (.ireturn, 1) := by decide +kernel
theorem pn_rmO : plainName "java/lang/Enum" = true := by first | (simp [plainName, overriddenIn]; done) | decide +kernel
theorem ef_rmO (m : MethodId) (a1 : Addr) : entryFrame m #[(.ref a1)] 1 = mkF m 0 #[.val (.ref a1)] [] := by first | (simp [entryFrame, mkF, argsToLocals, Value.category]; done) | rfl
set_option maxRecDepth 65536 in
set_option maxHeartbeats 40000000 in
theorem rmO (l : Launch) (Z : State) (a0 : Array Value) (hw : ∀ d ∈ tables_1, d.before a0 Z = true) (ws : List Jvm.Cond) (a1 : Addr) (od : Int32) (h0 : Heap) (n0 : Nat) (Z0 : n0 ≤ h0.size) (F_a1 : Fld Z h0 a1 "java/lang/Enum" "ordinal" "I" (.int od)) :
    MetFree l (⟨"java/lang/Enum", "ordinal", "()I"⟩ : MethodName) (head1 (Jvm.Cond.code (⟨"java/lang/Enum", "ordinal", "()I"⟩ : MethodName) jdk_37_method_2_code 1 (some .int) :: ws) ({ frames := 0, cells := 0, slots := 0, locals := 0 } : Room)) (fun a U => a = #[(.ref a1)] ∧ Z.Warmed39 U.vm ∧ U.heap = h0) (fun _ _ _ _ _ => True) (fun _ U o U' => ∃ v L, o = .returned v ∧ QI Z od h0 n0 v U'.heap L ∧ FrameEnd U o U' L ({ frames := 0, cells := 0, slots := 0, locals := 0 } : Room).cells ({ frames := 0, cells := 0, slots := 0, locals := 0 } : Room).slots) := by
  refine MetFree.of_bodySF (plainFor_of_name pn_rmO) hisR ?_
  intro p e s m args below meth c s₁ Bd hml0 hP hK
  obtain ⟨rfl, hZ, hh⟩ := hP
  have hx := Bd.exec
  have hby := Bd.bytes
  have hml : c.maxLocals = 1 := hml0
  have hown : s.vm.findClass "java/lang/Enum" = some m.cls := findClass_of_methodNamed Bd.named
  have hnm := (name_of_methodNamed Bd.named Bd.method).1
  have X0 : Stand p l e ({ frames := 0, cells := 0, slots := 0, locals := 0 } : Room) s m #[(.ref a1)] below meth c s₁ [] 0 0 := Stand.of_body Bd
  have e0 : s₁.heap = h0 := by rw [← hh, Bd.state]; rfl
  have N0 := Fr.nil n0
  have pre0 : ∀ tt, Steps p.tables e below (s₁.setTop (mkF m 0 #[.val (.ref a1)] [])) tt → Steps p.tables e below (s₁.setTop (entryFrame m #[(.ref a1)] 1)) tt := fun tt kt => castTop (ef_rmO m a1) kt
  obtain ⟨T1, X1, e1, st1⟩ := getF X0 hx hZ hown (host := "") (Or.inl (hw _ (List.mem_of_getElem? (i := 20) rfl))) Via.refl e0 F_a1 (g := (mkF m 1 #[.val (.ref a1)] [(.ref a1)])) rfl rfl (hb hby d3_1)
  have pre2 : ∀ tt, Steps p.tables e below (T1.setTop (mkF m 4 #[.val (.ref a1)] [(.int od)])) tt → Steps p.tables e below (s₁.setTop (entryFrame m #[(.ref a1)] 1)) tt := by
    intro tt kt
    refine pre0 tt ?_
    show Steps p.tables e below (s₁.setTop (mkF m 0 #[.val (.ref a1)] [])) _
    refine XS.aloadN X0.here hx rfl (hb hby d3_0) rfl rfl ?_
    show Steps p.tables e below (s₁.setTop (mkF m 1 #[.val (.ref a1)] [(.ref a1)])) _
    refine st1 _ ?_
    exact kt
  obtain ⟨fs, hr, hrun, hended, hW, hsame⟩ := X1.leave (v := some (.int od)) (fun h => by rw [Bd.returns] at h; cases h)
  refine ⟨_, _, pre2 _ ?_, hrun, hended, _, _, rfl, ?_, ⟨_, rfl⟩, hW, hsame.mono (by decide) (by decide)⟩
  · show Steps p.tables e below (T1.setTop (mkF m 4 #[.val (.ref a1)] [(.int od)])) _
    exact retI X1 hx Bd.returns (hb hby d3_4) hr
  · show QI Z od h0 n0 _ T1.heap _
    rw [e1]
    exact ⟨rfl, N0, rfl⟩
theorem d4_0 : decode prog_36_method_5_code 0 = .ok (.aload_n 0, 1) := by decide +kernel
theorem d4_1 : decode prog_36_method_5_code 1 = .ok (.invokevirtual 42, 3) := by decide +kernel
theorem d4_4 : decode prog_36_method_5_code 4 = .ok (.tableswitch 36 0 4 #[46, 58, 70, 82, 94], 36) := by decide +kernel
theorem d4_50 : decode prog_36_method_5_code 50 = .ok (.iload_n 1, 1) := by decide +kernel
theorem d4_51 : decode prog_36_method_5_code 51 = .ok (.ifCond .ge 7, 3) := by decide +kernel
theorem d4_54 : decode prog_36_method_5_code 54 = .ok (.iconst 1, 1) := by decide +kernel
theorem d4_55 : decode prog_36_method_5_code 55 = .ok (.goto 52, 3) := by decide +kernel
theorem d4_58 : decode prog_36_method_5_code 58 = .ok (.iconst 0, 1) := by decide +kernel
theorem d4_59 : decode prog_36_method_5_code 59 = .ok (.goto 48, 3) := by decide +kernel
theorem d4_62 : decode prog_36_method_5_code 62 = .ok (.iload_n 1, 1) := by decide +kernel
theorem d4_63 : decode prog_36_method_5_code 63 = .ok (.ifCond .gt 7, 3) := by decide +kernel
theorem d4_66 : decode prog_36_method_5_code 66 = .ok (.iconst 1, 1) := by decide +kernel
theorem d4_67 : decode prog_36_method_5_code 67 = .ok (.goto 40, 3) := by decide +kernel
theorem d4_70 : decode prog_36_method_5_code 70 = .ok (.iconst 0, 1) := by decide +kernel
theorem d4_71 : decode prog_36_method_5_code 71 = .ok (.goto 36, 3) := by decide +kernel
theorem d4_74 : decode prog_36_method_5_code 74 = .ok (.iload_n 1, 1) := by decide +kernel
theorem d4_75 : decode prog_36_method_5_code 75 = .ok (.ifCond .ne 7, 3) := by decide +kernel
theorem d4_78 : decode prog_36_method_5_code 78 = .ok (.iconst 1, 1) := by decide +kernel
theorem d4_79 : decode prog_36_method_5_code 79 = .ok (.goto 28, 3) := by decide +kernel
theorem d4_82 : decode prog_36_method_5_code 82 = .ok (.iconst 0, 1) := by decide +kernel
theorem d4_83 : decode prog_36_method_5_code 83 = .ok (.goto 24, 3) := by decide +kernel
theorem d4_86 : decode prog_36_method_5_code 86 = .ok (.iload_n 1, 1) := by decide +kernel
theorem d4_87 : decode prog_36_method_5_code 87 = .ok (.ifCond .lt 7, 3) := by decide +kernel
theorem d4_90 : decode prog_36_method_5_code 90 = .ok (.iconst 1, 1) := by decide +kernel
theorem d4_91 : decode prog_36_method_5_code 91 = .ok (.goto 16, 3) := by decide +kernel
theorem d4_94 : decode prog_36_method_5_code 94 = .ok (.iconst 0, 1) := by decide +kernel
theorem d4_95 : decode prog_36_method_5_code 95 = .ok (.goto 12, 3) := by decide +kernel
theorem d4_98 : decode prog_36_method_5_code 98 = .ok (.iload_n 1, 1) := by decide +kernel
theorem d4_99 : decode prog_36_method_5_code 99 = .ok (.ifCond .le 7, 3) := by decide +kernel
theorem d4_102 : decode prog_36_method_5_code 102 = .ok (.iconst 1, 1) := by decide +kernel
theorem d4_103 : decode prog_36_method_5_code 103 = .ok (.goto 4, 3) := by decide +kernel
theorem d4_106 : decode prog_36_method_5_code 106 = .ok (.iconst 0, 1) := by decide +kernel
theorem d4_107 : decode prog_36_method_5_code 107 = .ok (.ireturn, 1) := by decide +kernel
theorem pn_rmH : plainName "com/example/prudent_stability/prudentstability/Relation" = true := by first | (simp [plainName, overriddenIn]; done) | decide +kernel
theorem pd_rmH_0 : parseMethodDescriptor "()I" = some ⟨[], some .int⟩ := by decide +kernel
theorem ef_rmH (m : MethodId) (a1 : Addr) (s1 : Int32) : entryFrame m #[(.ref a1), (.int s1)] 2 = mkF m 0 #[.val (.ref a1), .val (.int s1)] [] := by first | (simp [entryFrame, mkF, argsToLocals, Value.category]; done) | rfl
set_option maxRecDepth 65536 in
set_option maxHeartbeats 40000000 in
theorem rmH (l : Launch) (Z : State) (a0 : Array Value) (hw : ∀ d ∈ tables_1, d.before a0 Z = true) (ws : List Jvm.Cond) (a1 : Addr) (s1 od r : Int32) (h0 : Heap) (n0 : Nat) (Z0 : n0 ≤ h0.size) (F_a1 : Fld Z h0 a1 "java/lang/Enum" "ordinal" "I" (.int od)) (E_a1 : Exa Z h0 a1 "com/example/prudent_stability/prudentstability/Relation") (ro : od = 0 ∨ od = 1 ∨ od = 2 ∨ od = 3 ∨ od = 4) (hr0 : r = own_hf od s1) :
    MetFree l (⟨"com/example/prudent_stability/prudentstability/Relation", "holdsFor", "(I)Z"⟩ : MethodName) (head1 (Jvm.Cond.code (⟨"com/example/prudent_stability/prudentstability/Relation", "holdsFor", "(I)Z"⟩ : MethodName) prog_36_method_5_code 2 (some .boolean) :: ws) ({ frames := 1, cells := 0, slots := 0, locals := 12 } : Room)) (fun a U => a = #[(.ref a1), (.int s1)] ∧ Z.Warmed39 U.vm ∧ U.heap = h0) (fun _ _ _ _ _ => True) (fun _ U o U' => ∃ v L, o = .returned v ∧ QI Z r h0 n0 v U'.heap L ∧ FrameEnd U o U' L ({ frames := 1, cells := 0, slots := 0, locals := 12 } : Room).cells ({ frames := 1, cells := 0, slots := 0, locals := 12 } : Room).slots) := by
  refine MetFree.of_bodySF (plainFor_of_name pn_rmH) hisR ?_
  intro p e s m args below meth c s₁ Bd hml0 hP hK
  obtain ⟨rfl, hZ, hh⟩ := hP
  have hx := Bd.exec
  have hby := Bd.bytes
  have hml : c.maxLocals = 2 := hml0
  have hown : s.vm.findClass "com/example/prudent_stability/prudentstability/Relation" = some m.cls := findClass_of_methodNamed Bd.named
  have hnm := (name_of_methodNamed Bd.named Bd.method).1
  have X0 : Stand p l e ({ frames := 1, cells := 0, slots := 0, locals := 12 } : Room) s m #[(.ref a1), (.int s1)] below meth c s₁ [] 0 0 := Stand.of_body Bd
  have e0 : s₁.heap = h0 := by rw [← hh, Bd.state]; rfl
  have N0 := Fr.nil n0
  have pre0 : ∀ tt, Steps p.tables e below (s₁.setTop (mkF m 0 #[.val (.ref a1), .val (.int s1)] [])) tt → Steps p.tables e below (s₁.setTop (entryFrame m #[(.ref a1), (.int s1)] 2)) tt := fun tt kt => castTop (ef_rmH m a1 s1) kt
  obtain ⟨cq1, kq1, q1a, q1b, q1c⟩ := isOf hZ e0 E_a1
  obtain ⟨_, _, ⟨T1, L1, k1, n1⟩, -, X1, ⟨Lc1, hQ1, l1, y1, z1⟩, st1⟩ := X0.virtualBackUp hx (x := (⟨"com/example/prudent_stability/prudentstability/Relation", "ordinal", "()I"⟩ : MethodName)) (y := (⟨"java/lang/Enum", "ordinal", "()I"⟩ : MethodName)) (owner := "java/lang/Enum") hown (mvT hZ (hw _ (List.mem_of_getElem? (i := 13) rfl))) (mvT hZ (hw _ (List.mem_of_getElem? (i := 14) rfl))) (mvT hZ (hw _ (List.mem_of_getElem? (i := 15) rfl))) (by decide) (mvT hZ (hw _ (List.mem_of_getElem? (i := 17) rfl))) (mvT hZ (hw _ (List.mem_of_getElem? (i := 16) rfl))) (backOf (W := 0) (rmO l Z a0 hw [] a1 od h0 n0 Z0 F_a1) hZ (hw _ (List.mem_of_getElem? (i := 19) rfl)) (hw _ (List.mem_of_getElem? (i := 18) rfl)) (by decide) (by decide)) q1a q1c (g := (mkF m 1 #[.val (.ref a1), .val (.int s1)] [(.ref a1)])) rfl (by rw [hml]; rfl) (Steps.refl _) (argsL := []) (rest := []) (lenOf pd_rmH_0 rfl) rfl (by show 2 * 0 + _ ≤ _; exact Nat.le_of_eq rfl) (hb hby d4_1) (fun _ _ => ⟨rfl, e0, (by decide : 0 + 0 ≤ _), (by decide : 0 + 0 ≤ _)⟩)
  dsimp only [Pt.U, Pt.locs, Pt.cells, Pt.slots] at X1 l1 y1 z1 st1 hQ1
  subst l1 y1 z1
  obtain ⟨rfl, N1q, hE1⟩ := hQ1
  have N1 := Fr.app N0 N1q
  have pre2 : ∀ tt, Steps p.tables e below (T1.setTop (mkF m 4 #[.val (.ref a1), .val (.int s1)] [(.int od)])) tt → Steps p.tables e below (s₁.setTop (entryFrame m #[(.ref a1), (.int s1)] 2)) tt := by
    intro tt kt
    refine pre0 tt ?_
    show Steps p.tables e below (s₁.setTop (mkF m 0 #[.val (.ref a1), .val (.int s1)] [])) _
    refine XS.aloadN X0.here hx rfl (hb hby d4_0) rfl rfl ?_
    show Steps p.tables e below (s₁.setTop (mkF m 1 #[.val (.ref a1), .val (.int s1)] [(.ref a1)])) _
    refine st1.trans ?_
    exact kt
  rcases ro with rfl | rfl | rfl | rfl | rfl
  · have pre3 : ∀ tt, Steps p.tables e below (T1.setTop (mkF m 51 #[.val (.ref a1), .val (.int s1)] [(.int s1)])) tt → Steps p.tables e below (s₁.setTop (entryFrame m #[(.ref a1), (.int s1)] 2)) tt := by
      intro tt kt
      refine pre2 tt ?_
      show Steps p.tables e below (T1.setTop (mkF m 4 #[.val (.ref a1), .val (.int s1)] [(.int (0 : Int32))])) _
      refine XS.tswIn X1.here hx rfl (pc0 := 4) (pc' := 50) rfl (hb hby d4_4) rfl (by decide) (o := 46) (by decide) (by decide) (by decide) ?_
      show Steps p.tables e below (T1.setTop (mkF m 50 #[.val (.ref a1), .val (.int s1)] [])) _
      refine XS.iloadN X1.here hx rfl (hb hby d4_50) rfl ?_
      exact kt
    by_cases c51_4 : s1 < (0 : Int32)
    · have pre5 : ∀ tt, Steps p.tables e below (T1.setTop (mkF m 107 #[.val (.ref a1), .val (.int s1)] [(.int (1 : Int32))])) tt → Steps p.tables e below (s₁.setTop (entryFrame m #[(.ref a1), (.int s1)] 2)) tt := by
        intro tt kt
        refine pre3 tt ?_
        show Steps p.tables e below (T1.setTop (mkF m 51 #[.val (.ref a1), .val (.int s1)] [(.int s1)])) _
        refine XS.ifNo X1.here hx rfl (hb hby d4_51) rfl ((if0 _ _).trans (tlt c51_4).2.1) ?_
        show Steps p.tables e below (T1.setTop (mkF m 54 #[.val (.ref a1), .val (.int s1)] [])) _
        refine XS.iconst X1.here hx rfl (hb hby d4_54) ?_
        show Steps p.tables e below (T1.setTop (mkF m 55 #[.val (.ref a1), .val (.int s1)] [(.int (1 : Int32))])) _
        refine XS.goto X1.here hx rfl (pc0 := 55) (pc' := 107) rfl (hb hby d4_55) (by decide) (by decide) ?_
        exact kt
      obtain ⟨fs, hr, hrun, hended, hW, hsame⟩ := X1.leave (v := some (.int (1 : Int32))) (fun h => by rw [Bd.returns] at h; cases h)
      refine ⟨_, _, pre5 _ ?_, hrun, hended, _, _, rfl, ?_, ⟨_, rfl⟩, hW, hsame.mono (by decide) (by decide)⟩
      · show Steps p.tables e below (T1.setTop (mkF m 107 #[.val (.ref a1), .val (.int s1)] [(.int (1 : Int32))])) _
        exact retN X1 hx (t := .boolean) Bd.returns (by simp) (hb hby d4_107) hr
      · show QI Z r h0 n0 _ T1.heap _
        rw [hE1]
        exact ⟨by rw [hr0]; simp [own_hf, c51_4], N1, rfl⟩
    · have pre6 : ∀ tt, Steps p.tables e below (T1.setTop (mkF m 107 #[.val (.ref a1), .val (.int s1)] [(.int (0 : Int32))])) tt → Steps p.tables e below (s₁.setTop (entryFrame m #[(.ref a1), (.int s1)] 2)) tt := by
        intro tt kt
        refine pre3 tt ?_
        show Steps p.tables e below (T1.setTop (mkF m 51 #[.val (.ref a1), .val (.int s1)] [(.int s1)])) _
        refine XS.ifYes X1.here hx rfl (pc0 := 51) (pc' := 58) rfl (hb hby d4_51) rfl ((if0 _ _).trans (flt c51_4).2.1) (by decide) (by decide) ?_
        show Steps p.tables e below (T1.setTop (mkF m 58 #[.val (.ref a1), .val (.int s1)] [])) _
        refine XS.iconst X1.here hx rfl (hb hby d4_58) ?_
        show Steps p.tables e below (T1.setTop (mkF m 59 #[.val (.ref a1), .val (.int s1)] [(.int (0 : Int32))])) _
        refine XS.goto X1.here hx rfl (pc0 := 59) (pc' := 107) rfl (hb hby d4_59) (by decide) (by decide) ?_
        exact kt
      obtain ⟨fs, hr, hrun, hended, hW, hsame⟩ := X1.leave (v := some (.int (0 : Int32))) (fun h => by rw [Bd.returns] at h; cases h)
      refine ⟨_, _, pre6 _ ?_, hrun, hended, _, _, rfl, ?_, ⟨_, rfl⟩, hW, hsame.mono (by decide) (by decide)⟩
      · show Steps p.tables e below (T1.setTop (mkF m 107 #[.val (.ref a1), .val (.int s1)] [(.int (0 : Int32))])) _
        exact retN X1 hx (t := .boolean) Bd.returns (by simp) (hb hby d4_107) hr
      · show QI Z r h0 n0 _ T1.heap _
        rw [hE1]
        exact ⟨by rw [hr0]; simp [own_hf, c51_4], N1, rfl⟩
  · have pre7 : ∀ tt, Steps p.tables e below (T1.setTop (mkF m 63 #[.val (.ref a1), .val (.int s1)] [(.int s1)])) tt → Steps p.tables e below (s₁.setTop (entryFrame m #[(.ref a1), (.int s1)] 2)) tt := by
      intro tt kt
      refine pre2 tt ?_
      show Steps p.tables e below (T1.setTop (mkF m 4 #[.val (.ref a1), .val (.int s1)] [(.int (1 : Int32))])) _
      refine XS.tswIn X1.here hx rfl (pc0 := 4) (pc' := 62) rfl (hb hby d4_4) rfl (by decide) (o := 58) (by decide) (by decide) (by decide) ?_
      show Steps p.tables e below (T1.setTop (mkF m 62 #[.val (.ref a1), .val (.int s1)] [])) _
      refine XS.iloadN X1.here hx rfl (hb hby d4_62) rfl ?_
      exact kt
    by_cases c63_8 : (0 : Int32) < s1
    · have pre9 : ∀ tt, Steps p.tables e below (T1.setTop (mkF m 107 #[.val (.ref a1), .val (.int s1)] [(.int (0 : Int32))])) tt → Steps p.tables e below (s₁.setTop (entryFrame m #[(.ref a1), (.int s1)] 2)) tt := by
        intro tt kt
        refine pre7 tt ?_
        show Steps p.tables e below (T1.setTop (mkF m 63 #[.val (.ref a1), .val (.int s1)] [(.int s1)])) _
        refine XS.ifYes X1.here hx rfl (pc0 := 63) (pc' := 70) rfl (hb hby d4_63) rfl ((if0 _ _).trans (tlt c63_8).2.2.1) (by decide) (by decide) ?_
        show Steps p.tables e below (T1.setTop (mkF m 70 #[.val (.ref a1), .val (.int s1)] [])) _
        refine XS.iconst X1.here hx rfl (hb hby d4_70) ?_
        show Steps p.tables e below (T1.setTop (mkF m 71 #[.val (.ref a1), .val (.int s1)] [(.int (0 : Int32))])) _
        refine XS.goto X1.here hx rfl (pc0 := 71) (pc' := 107) rfl (hb hby d4_71) (by decide) (by decide) ?_
        exact kt
      obtain ⟨fs, hr, hrun, hended, hW, hsame⟩ := X1.leave (v := some (.int (0 : Int32))) (fun h => by rw [Bd.returns] at h; cases h)
      refine ⟨_, _, pre9 _ ?_, hrun, hended, _, _, rfl, ?_, ⟨_, rfl⟩, hW, hsame.mono (by decide) (by decide)⟩
      · show Steps p.tables e below (T1.setTop (mkF m 107 #[.val (.ref a1), .val (.int s1)] [(.int (0 : Int32))])) _
        exact retN X1 hx (t := .boolean) Bd.returns (by simp) (hb hby d4_107) hr
      · show QI Z r h0 n0 _ T1.heap _
        rw [hE1]
        exact ⟨by rw [hr0]; simp [own_hf, c63_8], N1, rfl⟩
    · have pre10 : ∀ tt, Steps p.tables e below (T1.setTop (mkF m 107 #[.val (.ref a1), .val (.int s1)] [(.int (1 : Int32))])) tt → Steps p.tables e below (s₁.setTop (entryFrame m #[(.ref a1), (.int s1)] 2)) tt := by
        intro tt kt
        refine pre7 tt ?_
        show Steps p.tables e below (T1.setTop (mkF m 63 #[.val (.ref a1), .val (.int s1)] [(.int s1)])) _
        refine XS.ifNo X1.here hx rfl (hb hby d4_63) rfl ((if0 _ _).trans (flt c63_8).2.2.1) ?_
        show Steps p.tables e below (T1.setTop (mkF m 66 #[.val (.ref a1), .val (.int s1)] [])) _
        refine XS.iconst X1.here hx rfl (hb hby d4_66) ?_
        show Steps p.tables e below (T1.setTop (mkF m 67 #[.val (.ref a1), .val (.int s1)] [(.int (1 : Int32))])) _
        refine XS.goto X1.here hx rfl (pc0 := 67) (pc' := 107) rfl (hb hby d4_67) (by decide) (by decide) ?_
        exact kt
      obtain ⟨fs, hr, hrun, hended, hW, hsame⟩ := X1.leave (v := some (.int (1 : Int32))) (fun h => by rw [Bd.returns] at h; cases h)
      refine ⟨_, _, pre10 _ ?_, hrun, hended, _, _, rfl, ?_, ⟨_, rfl⟩, hW, hsame.mono (by decide) (by decide)⟩
      · show Steps p.tables e below (T1.setTop (mkF m 107 #[.val (.ref a1), .val (.int s1)] [(.int (1 : Int32))])) _
        exact retN X1 hx (t := .boolean) Bd.returns (by simp) (hb hby d4_107) hr
      · show QI Z r h0 n0 _ T1.heap _
        rw [hE1]
        exact ⟨by rw [hr0]; simp [own_hf, c63_8], N1, rfl⟩
  · have pre11 : ∀ tt, Steps p.tables e below (T1.setTop (mkF m 75 #[.val (.ref a1), .val (.int s1)] [(.int s1)])) tt → Steps p.tables e below (s₁.setTop (entryFrame m #[(.ref a1), (.int s1)] 2)) tt := by
      intro tt kt
      refine pre2 tt ?_
      show Steps p.tables e below (T1.setTop (mkF m 4 #[.val (.ref a1), .val (.int s1)] [(.int (2 : Int32))])) _
      refine XS.tswIn X1.here hx rfl (pc0 := 4) (pc' := 74) rfl (hb hby d4_4) rfl (by decide) (o := 70) (by decide) (by decide) (by decide) ?_
      show Steps p.tables e below (T1.setTop (mkF m 74 #[.val (.ref a1), .val (.int s1)] [])) _
      refine XS.iloadN X1.here hx rfl (hb hby d4_74) rfl ?_
      exact kt
    by_cases c75_12 : s1 = (0 : Int32)
    · have pre13 : ∀ tt, Steps p.tables e below (T1.setTop (mkF m 107 #[.val (.ref a1), .val (.int s1)] [(.int (1 : Int32))])) tt → Steps p.tables e below (s₁.setTop (entryFrame m #[(.ref a1), (.int s1)] 2)) tt := by
        intro tt kt
        refine pre11 tt ?_
        show Steps p.tables e below (T1.setTop (mkF m 75 #[.val (.ref a1), .val (.int s1)] [(.int s1)])) _
        refine XS.ifNo X1.here hx rfl (hb hby d4_75) rfl ((if0 _ _).trans (teq c75_12).2) ?_
        show Steps p.tables e below (T1.setTop (mkF m 78 #[.val (.ref a1), .val (.int s1)] [])) _
        refine XS.iconst X1.here hx rfl (hb hby d4_78) ?_
        show Steps p.tables e below (T1.setTop (mkF m 79 #[.val (.ref a1), .val (.int s1)] [(.int (1 : Int32))])) _
        refine XS.goto X1.here hx rfl (pc0 := 79) (pc' := 107) rfl (hb hby d4_79) (by decide) (by decide) ?_
        exact kt
      obtain ⟨fs, hr, hrun, hended, hW, hsame⟩ := X1.leave (v := some (.int (1 : Int32))) (fun h => by rw [Bd.returns] at h; cases h)
      refine ⟨_, _, pre13 _ ?_, hrun, hended, _, _, rfl, ?_, ⟨_, rfl⟩, hW, hsame.mono (by decide) (by decide)⟩
      · show Steps p.tables e below (T1.setTop (mkF m 107 #[.val (.ref a1), .val (.int s1)] [(.int (1 : Int32))])) _
        exact retN X1 hx (t := .boolean) Bd.returns (by simp) (hb hby d4_107) hr
      · show QI Z r h0 n0 _ T1.heap _
        rw [hE1]
        exact ⟨by rw [hr0]; simp [own_hf, c75_12], N1, rfl⟩
    · have pre14 : ∀ tt, Steps p.tables e below (T1.setTop (mkF m 107 #[.val (.ref a1), .val (.int s1)] [(.int (0 : Int32))])) tt → Steps p.tables e below (s₁.setTop (entryFrame m #[(.ref a1), (.int s1)] 2)) tt := by
        intro tt kt
        refine pre11 tt ?_
        show Steps p.tables e below (T1.setTop (mkF m 75 #[.val (.ref a1), .val (.int s1)] [(.int s1)])) _
        refine XS.ifYes X1.here hx rfl (pc0 := 75) (pc' := 82) rfl (hb hby d4_75) rfl ((if0 _ _).trans (feq c75_12).2) (by decide) (by decide) ?_
        show Steps p.tables e below (T1.setTop (mkF m 82 #[.val (.ref a1), .val (.int s1)] [])) _
        refine XS.iconst X1.here hx rfl (hb hby d4_82) ?_
        show Steps p.tables e below (T1.setTop (mkF m 83 #[.val (.ref a1), .val (.int s1)] [(.int (0 : Int32))])) _
        refine XS.goto X1.here hx rfl (pc0 := 83) (pc' := 107) rfl (hb hby d4_83) (by decide) (by decide) ?_
        exact kt
      obtain ⟨fs, hr, hrun, hended, hW, hsame⟩ := X1.leave (v := some (.int (0 : Int32))) (fun h => by rw [Bd.returns] at h; cases h)
      refine ⟨_, _, pre14 _ ?_, hrun, hended, _, _, rfl, ?_, ⟨_, rfl⟩, hW, hsame.mono (by decide) (by decide)⟩
      · show Steps p.tables e below (T1.setTop (mkF m 107 #[.val (.ref a1), .val (.int s1)] [(.int (0 : Int32))])) _
        exact retN X1 hx (t := .boolean) Bd.returns (by simp) (hb hby d4_107) hr
      · show QI Z r h0 n0 _ T1.heap _
        rw [hE1]
        exact ⟨by rw [hr0]; simp [own_hf, c75_12], N1, rfl⟩
  · have pre15 : ∀ tt, Steps p.tables e below (T1.setTop (mkF m 87 #[.val (.ref a1), .val (.int s1)] [(.int s1)])) tt → Steps p.tables e below (s₁.setTop (entryFrame m #[(.ref a1), (.int s1)] 2)) tt := by
      intro tt kt
      refine pre2 tt ?_
      show Steps p.tables e below (T1.setTop (mkF m 4 #[.val (.ref a1), .val (.int s1)] [(.int (3 : Int32))])) _
      refine XS.tswIn X1.here hx rfl (pc0 := 4) (pc' := 86) rfl (hb hby d4_4) rfl (by decide) (o := 82) (by decide) (by decide) (by decide) ?_
      show Steps p.tables e below (T1.setTop (mkF m 86 #[.val (.ref a1), .val (.int s1)] [])) _
      refine XS.iloadN X1.here hx rfl (hb hby d4_86) rfl ?_
      exact kt
    by_cases c87_16 : s1 < (0 : Int32)
    · have pre17 : ∀ tt, Steps p.tables e below (T1.setTop (mkF m 107 #[.val (.ref a1), .val (.int s1)] [(.int (0 : Int32))])) tt → Steps p.tables e below (s₁.setTop (entryFrame m #[(.ref a1), (.int s1)] 2)) tt := by
        intro tt kt
        refine pre15 tt ?_
        show Steps p.tables e below (T1.setTop (mkF m 87 #[.val (.ref a1), .val (.int s1)] [(.int s1)])) _
        refine XS.ifYes X1.here hx rfl (pc0 := 87) (pc' := 94) rfl (hb hby d4_87) rfl ((if0 _ _).trans (tlt c87_16).1) (by decide) (by decide) ?_
        show Steps p.tables e below (T1.setTop (mkF m 94 #[.val (.ref a1), .val (.int s1)] [])) _
        refine XS.iconst X1.here hx rfl (hb hby d4_94) ?_
        show Steps p.tables e below (T1.setTop (mkF m 95 #[.val (.ref a1), .val (.int s1)] [(.int (0 : Int32))])) _
        refine XS.goto X1.here hx rfl (pc0 := 95) (pc' := 107) rfl (hb hby d4_95) (by decide) (by decide) ?_
        exact kt
      obtain ⟨fs, hr, hrun, hended, hW, hsame⟩ := X1.leave (v := some (.int (0 : Int32))) (fun h => by rw [Bd.returns] at h; cases h)
      refine ⟨_, _, pre17 _ ?_, hrun, hended, _, _, rfl, ?_, ⟨_, rfl⟩, hW, hsame.mono (by decide) (by decide)⟩
      · show Steps p.tables e below (T1.setTop (mkF m 107 #[.val (.ref a1), .val (.int s1)] [(.int (0 : Int32))])) _
        exact retN X1 hx (t := .boolean) Bd.returns (by simp) (hb hby d4_107) hr
      · show QI Z r h0 n0 _ T1.heap _
        rw [hE1]
        exact ⟨by rw [hr0]; simp [own_hf, c87_16], N1, rfl⟩
    · have pre18 : ∀ tt, Steps p.tables e below (T1.setTop (mkF m 107 #[.val (.ref a1), .val (.int s1)] [(.int (1 : Int32))])) tt → Steps p.tables e below (s₁.setTop (entryFrame m #[(.ref a1), (.int s1)] 2)) tt := by
        intro tt kt
        refine pre15 tt ?_
        show Steps p.tables e below (T1.setTop (mkF m 87 #[.val (.ref a1), .val (.int s1)] [(.int s1)])) _
        refine XS.ifNo X1.here hx rfl (hb hby d4_87) rfl ((if0 _ _).trans (flt c87_16).1) ?_
        show Steps p.tables e below (T1.setTop (mkF m 90 #[.val (.ref a1), .val (.int s1)] [])) _
        refine XS.iconst X1.here hx rfl (hb hby d4_90) ?_
        show Steps p.tables e below (T1.setTop (mkF m 91 #[.val (.ref a1), .val (.int s1)] [(.int (1 : Int32))])) _
        refine XS.goto X1.here hx rfl (pc0 := 91) (pc' := 107) rfl (hb hby d4_91) (by decide) (by decide) ?_
        exact kt
      obtain ⟨fs, hr, hrun, hended, hW, hsame⟩ := X1.leave (v := some (.int (1 : Int32))) (fun h => by rw [Bd.returns] at h; cases h)
      refine ⟨_, _, pre18 _ ?_, hrun, hended, _, _, rfl, ?_, ⟨_, rfl⟩, hW, hsame.mono (by decide) (by decide)⟩
      · show Steps p.tables e below (T1.setTop (mkF m 107 #[.val (.ref a1), .val (.int s1)] [(.int (1 : Int32))])) _
        exact retN X1 hx (t := .boolean) Bd.returns (by simp) (hb hby d4_107) hr
      · show QI Z r h0 n0 _ T1.heap _
        rw [hE1]
        exact ⟨by rw [hr0]; simp [own_hf, c87_16], N1, rfl⟩
  · have pre19 : ∀ tt, Steps p.tables e below (T1.setTop (mkF m 99 #[.val (.ref a1), .val (.int s1)] [(.int s1)])) tt → Steps p.tables e below (s₁.setTop (entryFrame m #[(.ref a1), (.int s1)] 2)) tt := by
      intro tt kt
      refine pre2 tt ?_
      show Steps p.tables e below (T1.setTop (mkF m 4 #[.val (.ref a1), .val (.int s1)] [(.int (4 : Int32))])) _
      refine XS.tswIn X1.here hx rfl (pc0 := 4) (pc' := 98) rfl (hb hby d4_4) rfl (by decide) (o := 94) (by decide) (by decide) (by decide) ?_
      show Steps p.tables e below (T1.setTop (mkF m 98 #[.val (.ref a1), .val (.int s1)] [])) _
      refine XS.iloadN X1.here hx rfl (hb hby d4_98) rfl ?_
      exact kt
    by_cases c99_20 : (0 : Int32) < s1
    · have pre21 : ∀ tt, Steps p.tables e below (T1.setTop (mkF m 107 #[.val (.ref a1), .val (.int s1)] [(.int (1 : Int32))])) tt → Steps p.tables e below (s₁.setTop (entryFrame m #[(.ref a1), (.int s1)] 2)) tt := by
        intro tt kt
        refine pre19 tt ?_
        show Steps p.tables e below (T1.setTop (mkF m 99 #[.val (.ref a1), .val (.int s1)] [(.int s1)])) _
        refine XS.ifNo X1.here hx rfl (hb hby d4_99) rfl ((if0 _ _).trans (tlt c99_20).2.2.2) ?_
        show Steps p.tables e below (T1.setTop (mkF m 102 #[.val (.ref a1), .val (.int s1)] [])) _
        refine XS.iconst X1.here hx rfl (hb hby d4_102) ?_
        show Steps p.tables e below (T1.setTop (mkF m 103 #[.val (.ref a1), .val (.int s1)] [(.int (1 : Int32))])) _
        refine XS.goto X1.here hx rfl (pc0 := 103) (pc' := 107) rfl (hb hby d4_103) (by decide) (by decide) ?_
        exact kt
      obtain ⟨fs, hr, hrun, hended, hW, hsame⟩ := X1.leave (v := some (.int (1 : Int32))) (fun h => by rw [Bd.returns] at h; cases h)
      refine ⟨_, _, pre21 _ ?_, hrun, hended, _, _, rfl, ?_, ⟨_, rfl⟩, hW, hsame.mono (by decide) (by decide)⟩
      · show Steps p.tables e below (T1.setTop (mkF m 107 #[.val (.ref a1), .val (.int s1)] [(.int (1 : Int32))])) _
        exact retN X1 hx (t := .boolean) Bd.returns (by simp) (hb hby d4_107) hr
      · show QI Z r h0 n0 _ T1.heap _
        rw [hE1]
        exact ⟨by rw [hr0]; simp [own_hf, c99_20], N1, rfl⟩
    · have pre22 : ∀ tt, Steps p.tables e below (T1.setTop (mkF m 107 #[.val (.ref a1), .val (.int s1)] [(.int (0 : Int32))])) tt → Steps p.tables e below (s₁.setTop (entryFrame m #[(.ref a1), (.int s1)] 2)) tt := by
        intro tt kt
        refine pre19 tt ?_
        show Steps p.tables e below (T1.setTop (mkF m 99 #[.val (.ref a1), .val (.int s1)] [(.int s1)])) _
        refine XS.ifYes X1.here hx rfl (pc0 := 99) (pc' := 106) rfl (hb hby d4_99) rfl ((if0 _ _).trans (flt c99_20).2.2.2) (by decide) (by decide) ?_
        show Steps p.tables e below (T1.setTop (mkF m 106 #[.val (.ref a1), .val (.int s1)] [])) _
        refine XS.iconst X1.here hx rfl (hb hby d4_106) ?_
        exact kt
      obtain ⟨fs, hr, hrun, hended, hW, hsame⟩ := X1.leave (v := some (.int (0 : Int32))) (fun h => by rw [Bd.returns] at h; cases h)
      refine ⟨_, _, pre22 _ ?_, hrun, hended, _, _, rfl, ?_, ⟨_, rfl⟩, hW, hsame.mono (by decide) (by decide)⟩
      · show Steps p.tables e below (T1.setTop (mkF m 107 #[.val (.ref a1), .val (.int s1)] [(.int (0 : Int32))])) _
        exact retN X1 hx (t := .boolean) Bd.returns (by simp) (hb hby d4_107) hr
      · show QI Z r h0 n0 _ T1.heap _
        rw [hE1]
        exact ⟨by rw [hr0]; simp [own_hf, c99_20], N1, rfl⟩
theorem own_hfr (o o' s : Int32) (h : o = 0 ∧ o' = 1 ∨ o = 1 ∧ o' = 1 ∨ o = 2 ∧ o' = 2 ∨ o = 3 ∧ o' = 3 ∨ o = 4 ∧ o' = 3) (rs : s = -1 ∨ s = 0 ∨ s = 1) (c : ¬ s = 0) : own_hf o' s = own_hf o s := by
  rcases h with ⟨rfl, rfl⟩ | ⟨rfl, rfl⟩ | ⟨rfl, rfl⟩ | ⟨rfl, rfl⟩ | ⟨rfl, rfl⟩ <;> rcases rs with rfl | rfl | rfl <;> first | decide | exact absurd rfl c
theorem d1_0 : decode method_2_code 0 = .ok (.iload_n 0, 1) := by decide +kernel
theorem d1_1 : decode method_2_code 1 = .ok (.ifCond .ne 7, 3) := by decide +kernel
theorem d1_4 : decode method_2_code 4 = .ok (.getstatic 7, 3) := by decide +kernel
theorem d1_7 : decode method_2_code 7 = .ok (.areturn, 1) := by decide +kernel
theorem d1_8 : decode method_2_code 8 = .ok (.iload_n 0, 1) := by decide +kernel
theorem d1_9 : decode method_2_code 9 = .ok (.iconst 1, 1) := by decide +kernel
theorem d1_10 : decode method_2_code 10 = .ok (.if_icmp .ne 7, 3) := by decide +kernel
theorem d1_13 : decode method_2_code 13 = .ok (.getstatic 13, 3) := by decide +kernel
theorem d1_16 : decode method_2_code 16 = .ok (.areturn, 1) := by decide +kernel
theorem d1_17 : decode method_2_code 17 = .ok (.iload_n 0, 1) := by decide +kernel
theorem d1_18 : decode method_2_code 18 = .ok (.iconst 2, 1) := by decide +kernel
theorem d1_19 : decode method_2_code 19 = .ok (.if_icmp .ne 7, 3) := by decide +kernel
theorem d1_22 : decode method_2_code 22 = .ok (.getstatic 16, 3) := by decide +kernel
theorem d1_25 : decode method_2_code 25 = .ok (.areturn, 1) := by decide +kernel
theorem d1_26 : decode method_2_code 26 = .ok (.iload_n 0, 1) := by decide +kernel
theorem d1_27 : decode method_2_code 27 = .ok (.iconst 3, 1) := by decide +kernel
theorem d1_28 : decode method_2_code 28 = .ok (.if_icmp .ne 7, 3) := by decide +kernel
theorem d1_31 : decode method_2_code 31 = .ok (.getstatic 19, 3) := by decide +kernel
theorem d1_34 : decode method_2_code 34 = .ok (.areturn, 1) := by decide +kernel
theorem d1_35 : decode method_2_code 35 = .ok (.getstatic 22, 3) := by decide +kernel
theorem d1_38 : decode method_2_code 38 = .ok (.areturn, 1) := by decide +kernel
theorem pn_rmP : plainName "com/example/prudent_stability/prudentstability/RelationRelaxedPinLaw" = true := by first | (simp [plainName, overriddenIn]; done) | decide +kernel
theorem ef_rmP (m : MethodId) (p1 : Int32) : entryFrame m #[(.int p1)] 1 = mkF m 0 #[.val (.int p1)] [] := by first | (simp [entryFrame, mkF, argsToLocals, Value.category]; done) | rfl
set_option maxRecDepth 65536 in
set_option maxHeartbeats 40000000 in
theorem rmP (l : Launch) (Z : State) (a0 : Array Value) (hw : ∀ d ∈ tables_1, d.before a0 Z = true) (ws : List Jvm.Cond) (p1 : Int32) (w_LESS w_LESS_OR_EQUAL w_EQUAL w_GREATER_OR_EQUAL w_GREATER r : Addr) (h0 : Heap) (n0 : Nat) (Z0 : n0 ≤ h0.size) (S_LESS : Sta Z h0 "com/example/prudent_stability/prudentstability/Relation" "LESS" "Lcom/example/prudent_stability/prudentstability/Relation;" (.ref w_LESS)) (S_LESS_OR_EQUAL : Sta Z h0 "com/example/prudent_stability/prudentstability/Relation" "LESS_OR_EQUAL" "Lcom/example/prudent_stability/prudentstability/Relation;" (.ref w_LESS_OR_EQUAL)) (S_EQUAL : Sta Z h0 "com/example/prudent_stability/prudentstability/Relation" "EQUAL" "Lcom/example/prudent_stability/prudentstability/Relation;" (.ref w_EQUAL)) (S_GREATER_OR_EQUAL : Sta Z h0 "com/example/prudent_stability/prudentstability/Relation" "GREATER_OR_EQUAL" "Lcom/example/prudent_stability/prudentstability/Relation;" (.ref w_GREATER_OR_EQUAL)) (S_GREATER : Sta Z h0 "com/example/prudent_stability/prudentstability/Relation" "GREATER" "Lcom/example/prudent_stability/prudentstability/Relation;" (.ref w_GREATER)) (hr0 : r = own_pick p1 w_LESS w_LESS_OR_EQUAL w_EQUAL w_GREATER_OR_EQUAL w_GREATER) :
    MetFree l (⟨"com/example/prudent_stability/prudentstability/RelationRelaxedPinLaw", "pick", "(I)Lcom/example/prudent_stability/prudentstability/Relation;"⟩ : MethodName) (head1 (Jvm.Cond.code (⟨"com/example/prudent_stability/prudentstability/RelationRelaxedPinLaw", "pick", "(I)Lcom/example/prudent_stability/prudentstability/Relation;"⟩ : MethodName) method_2_code 1 (some (.object "com/example/prudent_stability/prudentstability/Relation")) :: ws) ({ frames := 0, cells := 0, slots := 0, locals := 0 } : Room)) (fun a U => a = #[(.int p1)] ∧ Z.Warmed39 U.vm ∧ U.heap = h0) (fun _ _ _ _ _ => True) (fun _ U o U' => ∃ v L, o = .returned v ∧ QR Z r h0 n0 v U'.heap L ∧ FrameEnd U o U' L ({ frames := 0, cells := 0, slots := 0, locals := 0 } : Room).cells ({ frames := 0, cells := 0, slots := 0, locals := 0 } : Room).slots) := by
  refine MetFree.of_bodySF (plainFor_of_name pn_rmP) hisR ?_
  intro p e s m args below meth c s₁ Bd hml0 hP hK
  obtain ⟨rfl, hZ, hh⟩ := hP
  have hx := Bd.exec
  have hby := Bd.bytes
  have hml : c.maxLocals = 1 := hml0
  have hown : s.vm.findClass "com/example/prudent_stability/prudentstability/RelationRelaxedPinLaw" = some m.cls := findClass_of_methodNamed Bd.named
  have hnm := (name_of_methodNamed Bd.named Bd.method).1
  have X0 : Stand p l e ({ frames := 0, cells := 0, slots := 0, locals := 0 } : Room) s m #[(.int p1)] below meth c s₁ [] 0 0 := Stand.of_body Bd
  have e0 : s₁.heap = h0 := by rw [← hh, Bd.state]; rfl
  have N0 := Fr.nil n0
  have pre0 : ∀ tt, Steps p.tables e below (s₁.setTop (mkF m 0 #[.val (.int p1)] [])) tt → Steps p.tables e below (s₁.setTop (entryFrame m #[(.int p1)] 1)) tt := fun tt kt => castTop (ef_rmP m p1) kt
  have pre1 : ∀ tt, Steps p.tables e below (s₁.setTop (mkF m 1 #[.val (.int p1)] [(.int p1)])) tt → Steps p.tables e below (s₁.setTop (entryFrame m #[(.int p1)] 1)) tt := by
    intro tt kt
    refine pre0 tt ?_
    show Steps p.tables e below (s₁.setTop (mkF m 0 #[.val (.int p1)] [])) _
    refine XS.iloadN X0.here hx rfl (hb hby d1_0) rfl ?_
    exact kt
  by_cases c1_2 : p1 = (0 : Int32)
  · obtain ⟨T3, X3, e3, st3⟩ := getS2 X0 hx hZ hown (host := "") (Or.inl (hw _ (List.mem_of_getElem? (i := 5) rfl))) Via.refl e0 S_LESS (g := (mkF m 4 #[.val (.int p1)] [])) rfl (hb hby d1_4)
    have pre4 : ∀ tt, Steps p.tables e below (T3.setTop (mkF m 7 #[.val (.int p1)] [(.ref w_LESS)])) tt → Steps p.tables e below (s₁.setTop (entryFrame m #[(.int p1)] 1)) tt := by
      intro tt kt
      refine pre1 tt ?_
      show Steps p.tables e below (s₁.setTop (mkF m 1 #[.val (.int p1)] [(.int p1)])) _
      refine XS.ifNo X0.here hx rfl (hb hby d1_1) rfl ((if0 _ _).trans (teq c1_2).2) ?_
      show Steps p.tables e below (s₁.setTop (mkF m 4 #[.val (.int p1)] [])) _
      refine st3 _ ?_
      exact kt
    obtain ⟨fs, hr, hrun, hended, hW, hsame⟩ := X3.leave (v := some (.ref w_LESS)) (fun h => by rw [Bd.returns] at h; cases h)
    refine ⟨_, _, pre4 _ ?_, hrun, hended, _, _, rfl, ?_, ⟨_, rfl⟩, hW, hsame.mono (by decide) (by decide)⟩
    · show Steps p.tables e below (T3.setTop (mkF m 7 #[.val (.int p1)] [(.ref w_LESS)])) _
      jvm_step X3.here [X3.here.top, hx, (hb hby d1_7), X3.method', Bd.returns, Value.isRef, FieldType.isReference]
      first | (intro acts; rw [hr _ acts rfl rfl rfl]) | rw [hr _ _ rfl rfl rfl]
      exact Steps.refl _
    · show QR Z r h0 n0 _ T3.heap _
      rw [e3]
      exact ⟨by rw [hr0]; simp [own_pick, c1_2], N0, rfl⟩
  · have pre5 : ∀ tt, Steps p.tables e below (s₁.setTop (mkF m 10 #[.val (.int p1)] [(.int (1 : Int32)), (.int p1)])) tt → Steps p.tables e below (s₁.setTop (entryFrame m #[(.int p1)] 1)) tt := by
      intro tt kt
      refine pre1 tt ?_
      show Steps p.tables e below (s₁.setTop (mkF m 1 #[.val (.int p1)] [(.int p1)])) _
      refine XS.ifYes X0.here hx rfl (pc0 := 1) (pc' := 8) rfl (hb hby d1_1) rfl ((if0 _ _).trans (feq c1_2).2) (by decide) (by decide) ?_
      show Steps p.tables e below (s₁.setTop (mkF m 8 #[.val (.int p1)] [])) _
      refine XS.iloadN X0.here hx rfl (hb hby d1_8) rfl ?_
      show Steps p.tables e below (s₁.setTop (mkF m 9 #[.val (.int p1)] [(.int p1)])) _
      refine XS.iconst X0.here hx rfl (hb hby d1_9) ?_
      exact kt
    by_cases c10_6 : p1 = (1 : Int32)
    · obtain ⟨T7, X7, e7, st7⟩ := getS2 X0 hx hZ hown (host := "") (Or.inl (hw _ (List.mem_of_getElem? (i := 34) rfl))) Via.refl e0 S_LESS_OR_EQUAL (g := (mkF m 13 #[.val (.int p1)] [])) rfl (hb hby d1_13)
      have pre8 : ∀ tt, Steps p.tables e below (T7.setTop (mkF m 16 #[.val (.int p1)] [(.ref w_LESS_OR_EQUAL)])) tt → Steps p.tables e below (s₁.setTop (entryFrame m #[(.int p1)] 1)) tt := by
        intro tt kt
        refine pre5 tt ?_
        show Steps p.tables e below (s₁.setTop (mkF m 10 #[.val (.int p1)] [(.int (1 : Int32)), (.int p1)])) _
        refine XS.icmpNo X0.here hx rfl (hb hby d1_10) rfl (teq c10_6).2 ?_
        show Steps p.tables e below (s₁.setTop (mkF m 13 #[.val (.int p1)] [])) _
        refine st7 _ ?_
        exact kt
      obtain ⟨fs, hr, hrun, hended, hW, hsame⟩ := X7.leave (v := some (.ref w_LESS_OR_EQUAL)) (fun h => by rw [Bd.returns] at h; cases h)
      refine ⟨_, _, pre8 _ ?_, hrun, hended, _, _, rfl, ?_, ⟨_, rfl⟩, hW, hsame.mono (by decide) (by decide)⟩
      · show Steps p.tables e below (T7.setTop (mkF m 16 #[.val (.int p1)] [(.ref w_LESS_OR_EQUAL)])) _
        jvm_step X7.here [X7.here.top, hx, (hb hby d1_16), X7.method', Bd.returns, Value.isRef, FieldType.isReference]
        first | (intro acts; rw [hr _ acts rfl rfl rfl]) | rw [hr _ _ rfl rfl rfl]
        exact Steps.refl _
      · show QR Z r h0 n0 _ T7.heap _
        rw [e7]
        exact ⟨by rw [hr0]; simp [own_pick, c1_2, c10_6], N0, rfl⟩
    · have pre9 : ∀ tt, Steps p.tables e below (s₁.setTop (mkF m 19 #[.val (.int p1)] [(.int (2 : Int32)), (.int p1)])) tt → Steps p.tables e below (s₁.setTop (entryFrame m #[(.int p1)] 1)) tt := by
        intro tt kt
        refine pre5 tt ?_
        show Steps p.tables e below (s₁.setTop (mkF m 10 #[.val (.int p1)] [(.int (1 : Int32)), (.int p1)])) _
        refine XS.icmpYes X0.here hx rfl (pc0 := 10) (pc' := 17) rfl (hb hby d1_10) rfl (feq c10_6).2 (by decide) (by decide) ?_
        show Steps p.tables e below (s₁.setTop (mkF m 17 #[.val (.int p1)] [])) _
        refine XS.iloadN X0.here hx rfl (hb hby d1_17) rfl ?_
        show Steps p.tables e below (s₁.setTop (mkF m 18 #[.val (.int p1)] [(.int p1)])) _
        refine XS.iconst X0.here hx rfl (hb hby d1_18) ?_
        exact kt
      by_cases c19_10 : p1 = (2 : Int32)
      · obtain ⟨T11, X11, e11, st11⟩ := getS2 X0 hx hZ hown (host := "") (Or.inl (hw _ (List.mem_of_getElem? (i := 35) rfl))) Via.refl e0 S_EQUAL (g := (mkF m 22 #[.val (.int p1)] [])) rfl (hb hby d1_22)
        have pre12 : ∀ tt, Steps p.tables e below (T11.setTop (mkF m 25 #[.val (.int p1)] [(.ref w_EQUAL)])) tt → Steps p.tables e below (s₁.setTop (entryFrame m #[(.int p1)] 1)) tt := by
          intro tt kt
          refine pre9 tt ?_
          show Steps p.tables e below (s₁.setTop (mkF m 19 #[.val (.int p1)] [(.int (2 : Int32)), (.int p1)])) _
          refine XS.icmpNo X0.here hx rfl (hb hby d1_19) rfl (teq c19_10).2 ?_
          show Steps p.tables e below (s₁.setTop (mkF m 22 #[.val (.int p1)] [])) _
          refine st11 _ ?_
          exact kt
        obtain ⟨fs, hr, hrun, hended, hW, hsame⟩ := X11.leave (v := some (.ref w_EQUAL)) (fun h => by rw [Bd.returns] at h; cases h)
        refine ⟨_, _, pre12 _ ?_, hrun, hended, _, _, rfl, ?_, ⟨_, rfl⟩, hW, hsame.mono (by decide) (by decide)⟩
        · show Steps p.tables e below (T11.setTop (mkF m 25 #[.val (.int p1)] [(.ref w_EQUAL)])) _
          jvm_step X11.here [X11.here.top, hx, (hb hby d1_25), X11.method', Bd.returns, Value.isRef, FieldType.isReference]
          first | (intro acts; rw [hr _ acts rfl rfl rfl]) | rw [hr _ _ rfl rfl rfl]
          exact Steps.refl _
        · show QR Z r h0 n0 _ T11.heap _
          rw [e11]
          exact ⟨by rw [hr0]; simp [own_pick, c1_2, c10_6, c19_10], N0, rfl⟩
      · have pre13 : ∀ tt, Steps p.tables e below (s₁.setTop (mkF m 28 #[.val (.int p1)] [(.int (3 : Int32)), (.int p1)])) tt → Steps p.tables e below (s₁.setTop (entryFrame m #[(.int p1)] 1)) tt := by
          intro tt kt
          refine pre9 tt ?_
          show Steps p.tables e below (s₁.setTop (mkF m 19 #[.val (.int p1)] [(.int (2 : Int32)), (.int p1)])) _
          refine XS.icmpYes X0.here hx rfl (pc0 := 19) (pc' := 26) rfl (hb hby d1_19) rfl (feq c19_10).2 (by decide) (by decide) ?_
          show Steps p.tables e below (s₁.setTop (mkF m 26 #[.val (.int p1)] [])) _
          refine XS.iloadN X0.here hx rfl (hb hby d1_26) rfl ?_
          show Steps p.tables e below (s₁.setTop (mkF m 27 #[.val (.int p1)] [(.int p1)])) _
          refine XS.iconst X0.here hx rfl (hb hby d1_27) ?_
          exact kt
        by_cases c28_14 : p1 = (3 : Int32)
        · obtain ⟨T15, X15, e15, st15⟩ := getS2 X0 hx hZ hown (host := "") (Or.inl (hw _ (List.mem_of_getElem? (i := 33) rfl))) Via.refl e0 S_GREATER_OR_EQUAL (g := (mkF m 31 #[.val (.int p1)] [])) rfl (hb hby d1_31)
          have pre16 : ∀ tt, Steps p.tables e below (T15.setTop (mkF m 34 #[.val (.int p1)] [(.ref w_GREATER_OR_EQUAL)])) tt → Steps p.tables e below (s₁.setTop (entryFrame m #[(.int p1)] 1)) tt := by
            intro tt kt
            refine pre13 tt ?_
            show Steps p.tables e below (s₁.setTop (mkF m 28 #[.val (.int p1)] [(.int (3 : Int32)), (.int p1)])) _
            refine XS.icmpNo X0.here hx rfl (hb hby d1_28) rfl (teq c28_14).2 ?_
            show Steps p.tables e below (s₁.setTop (mkF m 31 #[.val (.int p1)] [])) _
            refine st15 _ ?_
            exact kt
          obtain ⟨fs, hr, hrun, hended, hW, hsame⟩ := X15.leave (v := some (.ref w_GREATER_OR_EQUAL)) (fun h => by rw [Bd.returns] at h; cases h)
          refine ⟨_, _, pre16 _ ?_, hrun, hended, _, _, rfl, ?_, ⟨_, rfl⟩, hW, hsame.mono (by decide) (by decide)⟩
          · show Steps p.tables e below (T15.setTop (mkF m 34 #[.val (.int p1)] [(.ref w_GREATER_OR_EQUAL)])) _
            jvm_step X15.here [X15.here.top, hx, (hb hby d1_34), X15.method', Bd.returns, Value.isRef, FieldType.isReference]
            first | (intro acts; rw [hr _ acts rfl rfl rfl]) | rw [hr _ _ rfl rfl rfl]
            exact Steps.refl _
          · show QR Z r h0 n0 _ T15.heap _
            rw [e15]
            exact ⟨by rw [hr0]; simp [own_pick, c1_2, c10_6, c19_10, c28_14], N0, rfl⟩
        · obtain ⟨T17, X17, e17, st17⟩ := getS2 X0 hx hZ hown (host := "") (Or.inl (hw _ (List.mem_of_getElem? (i := 29) rfl))) Via.refl e0 S_GREATER (g := (mkF m 35 #[.val (.int p1)] [])) rfl (hb hby d1_35)
          have pre18 : ∀ tt, Steps p.tables e below (T17.setTop (mkF m 38 #[.val (.int p1)] [(.ref w_GREATER)])) tt → Steps p.tables e below (s₁.setTop (entryFrame m #[(.int p1)] 1)) tt := by
            intro tt kt
            refine pre13 tt ?_
            show Steps p.tables e below (s₁.setTop (mkF m 28 #[.val (.int p1)] [(.int (3 : Int32)), (.int p1)])) _
            refine XS.icmpYes X0.here hx rfl (pc0 := 28) (pc' := 35) rfl (hb hby d1_28) rfl (feq c28_14).2 (by decide) (by decide) ?_
            show Steps p.tables e below (s₁.setTop (mkF m 35 #[.val (.int p1)] [])) _
            refine st17 _ ?_
            exact kt
          obtain ⟨fs, hr, hrun, hended, hW, hsame⟩ := X17.leave (v := some (.ref w_GREATER)) (fun h => by rw [Bd.returns] at h; cases h)
          refine ⟨_, _, pre18 _ ?_, hrun, hended, _, _, rfl, ?_, ⟨_, rfl⟩, hW, hsame.mono (by decide) (by decide)⟩
          · show Steps p.tables e below (T17.setTop (mkF m 38 #[.val (.int p1)] [(.ref w_GREATER)])) _
            jvm_step X17.here [X17.here.top, hx, (hb hby d1_38), X17.method', Bd.returns, Value.isRef, FieldType.isReference]
            first | (intro acts; rw [hr _ acts rfl rfl rfl]) | rw [hr _ _ rfl rfl rfl]
            exact Steps.refl _
          · show QR Z r h0 n0 _ T17.heap _
            rw [e17]
            exact ⟨by rw [hr0]; simp [own_pick, c1_2, c10_6, c19_10, c28_14], N0, rfl⟩
theorem d2_0 : decode prog_36_method_7_code 0 = .ok (.aload_n 0, 1) := by decide +kernel
theorem d2_1 : decode prog_36_method_7_code 1 = .ok (.invokevirtual 42, 3) := by decide +kernel
theorem d2_4 : decode prog_36_method_7_code 4 = .ok (.tableswitch 36 0 4 #[46, 58, 58, 58, 52], 36) := by decide +kernel
theorem d2_50 : decode prog_36_method_7_code 50 = .ok (.getstatic 7, 3) := by decide +kernel
theorem d2_53 : decode prog_36_method_7_code 53 = .ok (.goto 10, 3) := by decide +kernel
theorem d2_56 : decode prog_36_method_7_code 56 = .ok (.getstatic 13, 3) := by decide +kernel
theorem d2_59 : decode prog_36_method_7_code 59 = .ok (.goto 4, 3) := by decide +kernel
theorem d2_62 : decode prog_36_method_7_code 62 = .ok (.aload_n 0, 1) := by decide +kernel
theorem d2_63 : decode prog_36_method_7_code 63 = .ok (.areturn, 1) := by decide +kernel
theorem pn_rmM : plainName "com/example/prudent_stability/prudentstability/Relation" = true := by first | (simp [plainName, overriddenIn]; done) | decide +kernel
theorem pd_rmM_0 : parseMethodDescriptor "()I" = some ⟨[], some .int⟩ := by decide +kernel
theorem ef_rmM (m : MethodId) (a1 : Addr) : entryFrame m #[(.ref a1)] 1 = mkF m 0 #[.val (.ref a1)] [] := by first | (simp [entryFrame, mkF, argsToLocals, Value.category]; done) | rfl
set_option maxRecDepth 65536 in
set_option maxHeartbeats 40000000 in
theorem rmM (l : Launch) (Z : State) (a0 : Array Value) (hw : ∀ d ∈ tables_1, d.before a0 Z = true) (ws : List Jvm.Cond) (a1 : Addr) (od : Int32) (w_LESS_OR_EQUAL w_GREATER_OR_EQUAL r : Addr) (h0 : Heap) (n0 : Nat) (Z0 : n0 ≤ h0.size) (S_LESS_OR_EQUAL : Sta Z h0 "com/example/prudent_stability/prudentstability/Relation" "LESS_OR_EQUAL" "Lcom/example/prudent_stability/prudentstability/Relation;" (.ref w_LESS_OR_EQUAL)) (S_GREATER_OR_EQUAL : Sta Z h0 "com/example/prudent_stability/prudentstability/Relation" "GREATER_OR_EQUAL" "Lcom/example/prudent_stability/prudentstability/Relation;" (.ref w_GREATER_OR_EQUAL)) (F_a1 : Fld Z h0 a1 "java/lang/Enum" "ordinal" "I" (.int od)) (E_a1 : Exa Z h0 a1 "com/example/prudent_stability/prudentstability/Relation") (ro : od = 0 ∨ od = 1 ∨ od = 2 ∨ od = 3 ∨ od = 4) (hr0 : r = own_pick od w_LESS_OR_EQUAL a1 a1 a1 w_GREATER_OR_EQUAL) :
    MetFree l (⟨"com/example/prudent_stability/prudentstability/Relation", "relaxed", "()Lcom/example/prudent_stability/prudentstability/Relation;"⟩ : MethodName) (head1 (Jvm.Cond.code (⟨"com/example/prudent_stability/prudentstability/Relation", "relaxed", "()Lcom/example/prudent_stability/prudentstability/Relation;"⟩ : MethodName) prog_36_method_7_code 1 (some (.object "com/example/prudent_stability/prudentstability/Relation")) :: ws) ({ frames := 1, cells := 0, slots := 0, locals := 12 } : Room)) (fun a U => a = #[(.ref a1)] ∧ Z.Warmed39 U.vm ∧ U.heap = h0) (fun _ _ _ _ _ => True) (fun _ U o U' => ∃ v L, o = .returned v ∧ QR Z r h0 n0 v U'.heap L ∧ FrameEnd U o U' L ({ frames := 1, cells := 0, slots := 0, locals := 12 } : Room).cells ({ frames := 1, cells := 0, slots := 0, locals := 12 } : Room).slots) := by
  refine MetFree.of_bodySF (plainFor_of_name pn_rmM) hisR ?_
  intro p e s m args below meth c s₁ Bd hml0 hP hK
  obtain ⟨rfl, hZ, hh⟩ := hP
  have hx := Bd.exec
  have hby := Bd.bytes
  have hml : c.maxLocals = 1 := hml0
  have hown : s.vm.findClass "com/example/prudent_stability/prudentstability/Relation" = some m.cls := findClass_of_methodNamed Bd.named
  have hnm := (name_of_methodNamed Bd.named Bd.method).1
  have X0 : Stand p l e ({ frames := 1, cells := 0, slots := 0, locals := 12 } : Room) s m #[(.ref a1)] below meth c s₁ [] 0 0 := Stand.of_body Bd
  have e0 : s₁.heap = h0 := by rw [← hh, Bd.state]; rfl
  have N0 := Fr.nil n0
  have pre0 : ∀ tt, Steps p.tables e below (s₁.setTop (mkF m 0 #[.val (.ref a1)] [])) tt → Steps p.tables e below (s₁.setTop (entryFrame m #[(.ref a1)] 1)) tt := fun tt kt => castTop (ef_rmM m a1) kt
  obtain ⟨cq1, kq1, q1a, q1b, q1c⟩ := isOf hZ e0 E_a1
  obtain ⟨_, _, ⟨T1, L1, k1, n1⟩, -, X1, ⟨Lc1, hQ1, l1, y1, z1⟩, st1⟩ := X0.virtualBackUp hx (x := (⟨"com/example/prudent_stability/prudentstability/Relation", "ordinal", "()I"⟩ : MethodName)) (y := (⟨"java/lang/Enum", "ordinal", "()I"⟩ : MethodName)) (owner := "java/lang/Enum") hown (mvT hZ (hw _ (List.mem_of_getElem? (i := 13) rfl))) (mvT hZ (hw _ (List.mem_of_getElem? (i := 14) rfl))) (mvT hZ (hw _ (List.mem_of_getElem? (i := 15) rfl))) (by decide) (mvT hZ (hw _ (List.mem_of_getElem? (i := 17) rfl))) (mvT hZ (hw _ (List.mem_of_getElem? (i := 16) rfl))) (backOf (W := 0) (rmO l Z a0 hw [] a1 od h0 n0 Z0 F_a1) hZ (hw _ (List.mem_of_getElem? (i := 19) rfl)) (hw _ (List.mem_of_getElem? (i := 18) rfl)) (by decide) (by decide)) q1a q1c (g := (mkF m 1 #[.val (.ref a1)] [(.ref a1)])) rfl (by rw [hml]; rfl) (Steps.refl _) (argsL := []) (rest := []) (lenOf pd_rmM_0 rfl) rfl (by show 2 * 0 + _ ≤ _; exact Nat.le_of_eq rfl) (hb hby d2_1) (fun _ _ => ⟨rfl, e0, (by decide : 0 + 0 ≤ _), (by decide : 0 + 0 ≤ _)⟩)
  dsimp only [Pt.U, Pt.locs, Pt.cells, Pt.slots] at X1 l1 y1 z1 st1 hQ1
  subst l1 y1 z1
  obtain ⟨rfl, N1q, hE1⟩ := hQ1
  have N1 := Fr.app N0 N1q
  have pre2 : ∀ tt, Steps p.tables e below (T1.setTop (mkF m 4 #[.val (.ref a1)] [(.int od)])) tt → Steps p.tables e below (s₁.setTop (entryFrame m #[(.ref a1)] 1)) tt := by
    intro tt kt
    refine pre0 tt ?_
    show Steps p.tables e below (s₁.setTop (mkF m 0 #[.val (.ref a1)] [])) _
    refine XS.aloadN X0.here hx rfl (hb hby d2_0) rfl rfl ?_
    show Steps p.tables e below (s₁.setTop (mkF m 1 #[.val (.ref a1)] [(.ref a1)])) _
    refine st1.trans ?_
    exact kt
  rcases ro with rfl | rfl | rfl | rfl | rfl
  · obtain ⟨T3, X3, e3, st3⟩ := getS2 X1 hx hZ hown (host := "") (Or.inl (hw _ (List.mem_of_getElem? (i := 22) rfl))) Via.refl hE1 S_LESS_OR_EQUAL (g := (mkF m 50 #[.val (.ref a1)] [])) rfl (hb hby d2_50)
    have pre4 : ∀ tt, Steps p.tables e below (T3.setTop (mkF m 63 #[.val (.ref a1)] [(.ref w_LESS_OR_EQUAL)])) tt → Steps p.tables e below (s₁.setTop (entryFrame m #[(.ref a1)] 1)) tt := by
      intro tt kt
      refine pre2 tt ?_
      show Steps p.tables e below (T1.setTop (mkF m 4 #[.val (.ref a1)] [(.int (0 : Int32))])) _
      refine XS.tswIn X1.here hx rfl (pc0 := 4) (pc' := 50) rfl (hb hby d2_4) rfl (by decide) (o := 46) (by decide) (by decide) (by decide) ?_
      show Steps p.tables e below (T1.setTop (mkF m 50 #[.val (.ref a1)] [])) _
      refine st3 _ ?_
      show Steps p.tables e below (T3.setTop (mkF m 53 #[.val (.ref a1)] [(.ref w_LESS_OR_EQUAL)])) _
      refine XS.goto X3.here hx rfl (pc0 := 53) (pc' := 63) rfl (hb hby d2_53) (by decide) (by decide) ?_
      exact kt
    obtain ⟨fs, hr, hrun, hended, hW, hsame⟩ := X3.leave (v := some (.ref w_LESS_OR_EQUAL)) (fun h => by rw [Bd.returns] at h; cases h)
    refine ⟨_, _, pre4 _ ?_, hrun, hended, _, _, rfl, ?_, ⟨_, rfl⟩, hW, hsame.mono (by decide) (by decide)⟩
    · show Steps p.tables e below (T3.setTop (mkF m 63 #[.val (.ref a1)] [(.ref w_LESS_OR_EQUAL)])) _
      jvm_step X3.here [X3.here.top, hx, (hb hby d2_63), X3.method', Bd.returns, Value.isRef, FieldType.isReference]
      first | (intro acts; rw [hr _ acts rfl rfl rfl]) | rw [hr _ _ rfl rfl rfl]
      exact Steps.refl _
    · show QR Z r h0 n0 _ T3.heap _
      rw [e3]
      exact ⟨by rw [hr0]; simp [own_pick], N1, rfl⟩
  · have pre5 : ∀ tt, Steps p.tables e below (T1.setTop (mkF m 63 #[.val (.ref a1)] [(.ref a1)])) tt → Steps p.tables e below (s₁.setTop (entryFrame m #[(.ref a1)] 1)) tt := by
      intro tt kt
      refine pre2 tt ?_
      show Steps p.tables e below (T1.setTop (mkF m 4 #[.val (.ref a1)] [(.int (1 : Int32))])) _
      refine XS.tswIn X1.here hx rfl (pc0 := 4) (pc' := 62) rfl (hb hby d2_4) rfl (by decide) (o := 58) (by decide) (by decide) (by decide) ?_
      show Steps p.tables e below (T1.setTop (mkF m 62 #[.val (.ref a1)] [])) _
      refine XS.aloadN X1.here hx rfl (hb hby d2_62) rfl rfl ?_
      exact kt
    obtain ⟨fs, hr, hrun, hended, hW, hsame⟩ := X1.leave (v := some (.ref a1)) (fun h => by rw [Bd.returns] at h; cases h)
    refine ⟨_, _, pre5 _ ?_, hrun, hended, _, _, rfl, ?_, ⟨_, rfl⟩, hW, hsame.mono (by decide) (by decide)⟩
    · show Steps p.tables e below (T1.setTop (mkF m 63 #[.val (.ref a1)] [(.ref a1)])) _
      jvm_step X1.here [X1.here.top, hx, (hb hby d2_63), X1.method', Bd.returns, Value.isRef, FieldType.isReference]
      first | (intro acts; rw [hr _ acts rfl rfl rfl]) | rw [hr _ _ rfl rfl rfl]
      exact Steps.refl _
    · show QR Z r h0 n0 _ T1.heap _
      rw [hE1]
      exact ⟨by rw [hr0]; simp [own_pick], N1, rfl⟩
  · have pre6 : ∀ tt, Steps p.tables e below (T1.setTop (mkF m 63 #[.val (.ref a1)] [(.ref a1)])) tt → Steps p.tables e below (s₁.setTop (entryFrame m #[(.ref a1)] 1)) tt := by
      intro tt kt
      refine pre2 tt ?_
      show Steps p.tables e below (T1.setTop (mkF m 4 #[.val (.ref a1)] [(.int (2 : Int32))])) _
      refine XS.tswIn X1.here hx rfl (pc0 := 4) (pc' := 62) rfl (hb hby d2_4) rfl (by decide) (o := 58) (by decide) (by decide) (by decide) ?_
      show Steps p.tables e below (T1.setTop (mkF m 62 #[.val (.ref a1)] [])) _
      refine XS.aloadN X1.here hx rfl (hb hby d2_62) rfl rfl ?_
      exact kt
    obtain ⟨fs, hr, hrun, hended, hW, hsame⟩ := X1.leave (v := some (.ref a1)) (fun h => by rw [Bd.returns] at h; cases h)
    refine ⟨_, _, pre6 _ ?_, hrun, hended, _, _, rfl, ?_, ⟨_, rfl⟩, hW, hsame.mono (by decide) (by decide)⟩
    · show Steps p.tables e below (T1.setTop (mkF m 63 #[.val (.ref a1)] [(.ref a1)])) _
      jvm_step X1.here [X1.here.top, hx, (hb hby d2_63), X1.method', Bd.returns, Value.isRef, FieldType.isReference]
      first | (intro acts; rw [hr _ acts rfl rfl rfl]) | rw [hr _ _ rfl rfl rfl]
      exact Steps.refl _
    · show QR Z r h0 n0 _ T1.heap _
      rw [hE1]
      exact ⟨by rw [hr0]; simp [own_pick], N1, rfl⟩
  · have pre7 : ∀ tt, Steps p.tables e below (T1.setTop (mkF m 63 #[.val (.ref a1)] [(.ref a1)])) tt → Steps p.tables e below (s₁.setTop (entryFrame m #[(.ref a1)] 1)) tt := by
      intro tt kt
      refine pre2 tt ?_
      show Steps p.tables e below (T1.setTop (mkF m 4 #[.val (.ref a1)] [(.int (3 : Int32))])) _
      refine XS.tswIn X1.here hx rfl (pc0 := 4) (pc' := 62) rfl (hb hby d2_4) rfl (by decide) (o := 58) (by decide) (by decide) (by decide) ?_
      show Steps p.tables e below (T1.setTop (mkF m 62 #[.val (.ref a1)] [])) _
      refine XS.aloadN X1.here hx rfl (hb hby d2_62) rfl rfl ?_
      exact kt
    obtain ⟨fs, hr, hrun, hended, hW, hsame⟩ := X1.leave (v := some (.ref a1)) (fun h => by rw [Bd.returns] at h; cases h)
    refine ⟨_, _, pre7 _ ?_, hrun, hended, _, _, rfl, ?_, ⟨_, rfl⟩, hW, hsame.mono (by decide) (by decide)⟩
    · show Steps p.tables e below (T1.setTop (mkF m 63 #[.val (.ref a1)] [(.ref a1)])) _
      jvm_step X1.here [X1.here.top, hx, (hb hby d2_63), X1.method', Bd.returns, Value.isRef, FieldType.isReference]
      first | (intro acts; rw [hr _ acts rfl rfl rfl]) | rw [hr _ _ rfl rfl rfl]
      exact Steps.refl _
    · show QR Z r h0 n0 _ T1.heap _
      rw [hE1]
      exact ⟨by rw [hr0]; simp [own_pick], N1, rfl⟩
  · obtain ⟨T8, X8, e8, st8⟩ := getS2 X1 hx hZ hown (host := "") (Or.inl (hw _ (List.mem_of_getElem? (i := 31) rfl))) Via.refl hE1 S_GREATER_OR_EQUAL (g := (mkF m 56 #[.val (.ref a1)] [])) rfl (hb hby d2_56)
    have pre9 : ∀ tt, Steps p.tables e below (T8.setTop (mkF m 63 #[.val (.ref a1)] [(.ref w_GREATER_OR_EQUAL)])) tt → Steps p.tables e below (s₁.setTop (entryFrame m #[(.ref a1)] 1)) tt := by
      intro tt kt
      refine pre2 tt ?_
      show Steps p.tables e below (T1.setTop (mkF m 4 #[.val (.ref a1)] [(.int (4 : Int32))])) _
      refine XS.tswIn X1.here hx rfl (pc0 := 4) (pc' := 56) rfl (hb hby d2_4) rfl (by decide) (o := 52) (by decide) (by decide) (by decide) ?_
      show Steps p.tables e below (T1.setTop (mkF m 56 #[.val (.ref a1)] [])) _
      refine st8 _ ?_
      show Steps p.tables e below (T8.setTop (mkF m 59 #[.val (.ref a1)] [(.ref w_GREATER_OR_EQUAL)])) _
      refine XS.goto X8.here hx rfl (pc0 := 59) (pc' := 63) rfl (hb hby d2_59) (by decide) (by decide) ?_
      exact kt
    obtain ⟨fs, hr, hrun, hended, hW, hsame⟩ := X8.leave (v := some (.ref w_GREATER_OR_EQUAL)) (fun h => by rw [Bd.returns] at h; cases h)
    refine ⟨_, _, pre9 _ ?_, hrun, hended, _, _, rfl, ?_, ⟨_, rfl⟩, hW, hsame.mono (by decide) (by decide)⟩
    · show Steps p.tables e below (T8.setTop (mkF m 63 #[.val (.ref a1)] [(.ref w_GREATER_OR_EQUAL)])) _
      jvm_step X8.here [X8.here.top, hx, (hb hby d2_63), X8.method', Bd.returns, Value.isRef, FieldType.isReference]
      first | (intro acts; rw [hr _ acts rfl rfl rfl]) | rw [hr _ _ rfl rfl rfl]
      exact Steps.refl _
    · show QR Z r h0 n0 _ T8.heap _
      rw [e8]
      exact ⟨by rw [hr0]; simp [own_pick], N1, rfl⟩
def Q0 (Z : State) (h0 : Heap) (n0 : Nat) (v : Option Value) (h : Heap) (L : List Loc) : Prop := v = some (.int (1 : Int32)) ∧ Fr n0 L
theorem pn_rm0 : plainName "com/example/prudent_stability/prudentstability/RelationRelaxedPinLaw" = true := by first | (simp [plainName, overriddenIn]; done) | decide +kernel
theorem pd_rm0_0 : parseMethodDescriptor "(I)Lcom/example/prudent_stability/prudentstability/Relation;" = some ⟨[.int], some (.object "com/example/prudent_stability/prudentstability/Relation")⟩ := by decide +kernel
theorem pd_rm0_1 : parseMethodDescriptor "()Lcom/example/prudent_stability/prudentstability/Relation;" = some ⟨[], some (.object "com/example/prudent_stability/prudentstability/Relation")⟩ := by decide +kernel
theorem pd_rm0_2 : parseMethodDescriptor "(I)Z" = some ⟨[.int], some .boolean⟩ := by decide +kernel
theorem ef_rm0 (m : MethodId) (p1 : Int32) (p2 : Int32) : entryFrame m #[(.int p1), (.int p2)] maxLocals = mkF m 0 #[.val (.int p1), .val (.int p2), .unset, .unset, .unset, .unset] [] := by first | (simp [entryFrame, mkF, argsToLocals, Value.category, maxLocals]; done) | rfl
set_option maxRecDepth 65536 in
set_option maxHeartbeats 40000000 in
theorem rm0 (l : Launch) (Z : State) (a0 : Array Value) (hw : ∀ d ∈ tables_1, d.before a0 Z = true) (ws : List Jvm.Cond) (p1 p2 : Int32) (w_LESS w_LESS_OR_EQUAL w_EQUAL w_GREATER_OR_EQUAL w_GREATER : Addr) (h0 : Heap) (n0 : Nat) (Z0 : n0 ≤ h0.size) (S_LESS : Sta Z h0 "com/example/prudent_stability/prudentstability/Relation" "LESS" "Lcom/example/prudent_stability/prudentstability/Relation;" (.ref w_LESS)) (S_LESS_OR_EQUAL : Sta Z h0 "com/example/prudent_stability/prudentstability/Relation" "LESS_OR_EQUAL" "Lcom/example/prudent_stability/prudentstability/Relation;" (.ref w_LESS_OR_EQUAL)) (S_EQUAL : Sta Z h0 "com/example/prudent_stability/prudentstability/Relation" "EQUAL" "Lcom/example/prudent_stability/prudentstability/Relation;" (.ref w_EQUAL)) (S_GREATER_OR_EQUAL : Sta Z h0 "com/example/prudent_stability/prudentstability/Relation" "GREATER_OR_EQUAL" "Lcom/example/prudent_stability/prudentstability/Relation;" (.ref w_GREATER_OR_EQUAL)) (S_GREATER : Sta Z h0 "com/example/prudent_stability/prudentstability/Relation" "GREATER" "Lcom/example/prudent_stability/prudentstability/Relation;" (.ref w_GREATER)) (E_LESS : Exa Z h0 w_LESS "com/example/prudent_stability/prudentstability/Relation") (E_LESS_OR_EQUAL : Exa Z h0 w_LESS_OR_EQUAL "com/example/prudent_stability/prudentstability/Relation") (E_EQUAL : Exa Z h0 w_EQUAL "com/example/prudent_stability/prudentstability/Relation") (E_GREATER_OR_EQUAL : Exa Z h0 w_GREATER_OR_EQUAL "com/example/prudent_stability/prudentstability/Relation") (E_GREATER : Exa Z h0 w_GREATER "com/example/prudent_stability/prudentstability/Relation") (F_LESS_ordinal : Fld Z h0 w_LESS "java/lang/Enum" "ordinal" "I" (.int (0 : Int32))) (F_LESS_OR_EQUAL_ordinal : Fld Z h0 w_LESS_OR_EQUAL "java/lang/Enum" "ordinal" "I" (.int (1 : Int32))) (F_EQUAL_ordinal : Fld Z h0 w_EQUAL "java/lang/Enum" "ordinal" "I" (.int (2 : Int32))) (F_GREATER_OR_EQUAL_ordinal : Fld Z h0 w_GREATER_OR_EQUAL "java/lang/Enum" "ordinal" "I" (.int (3 : Int32))) (F_GREATER_ordinal : Fld Z h0 w_GREATER "java/lang/Enum" "ordinal" "I" (.int (4 : Int32))) :
    MetFree l x (head1 (Jvm.Cond.code x code maxLocals ret :: ws) room_1) (fun a U => a = #[(.int p1), (.int p2)] ∧ Z.Warmed39 U.vm ∧ U.heap = h0) (fun _ _ _ _ _ => True) (fun _ U o U' => ∃ v L, o = .returned v ∧ Q0 Z h0 n0 v U'.heap L ∧ FrameEnd U o U' L room_1.cells room_1.slots) := by
  refine MetFree.of_bodySF (plainFor_of_name pn_rm0) hisR ?_
  intro p e s m args below meth c s₁ Bd hml0 hP hK
  obtain ⟨rfl, hZ, hh⟩ := hP
  have hx := Bd.exec
  have hby := Bd.bytes
  have hml : c.maxLocals = 6 := hml0
  have hown : s.vm.findClass "com/example/prudent_stability/prudentstability/RelationRelaxedPinLaw" = some m.cls := findClass_of_methodNamed Bd.named
  have hnm := (name_of_methodNamed Bd.named Bd.method).1
  have X0 : Stand p l e room_1 s m #[(.int p1), (.int p2)] below meth c s₁ [] 0 0 := Stand.of_body Bd
  have e0 : s₁.heap = h0 := by rw [← hh, Bd.state]; rfl
  have N0 := Fr.nil n0
  have pre0 : ∀ tt, Steps p.tables e below (s₁.setTop (mkF m 0 #[.val (.int p1), .val (.int p2), .unset, .unset, .unset, .unset] [])) tt → Steps p.tables e below (s₁.setTop (entryFrame m #[(.int p1), (.int p2)] maxLocals)) tt := fun tt kt => castTop (ef_rm0 m p1 p2) kt
  obtain ⟨k, hk⟩ : ∃ z : Int32, z = ((p1 &&& (2147483647 : Int32)) % (5 : Int32)) := ⟨_, rfl⟩
  have pre1 : ∀ tt, Steps p.tables e below (s₁.setTop (mkF m 6 #[.val (.int p1), .val (.int p2), .unset, .unset, .unset, .unset] [(.int k)])) tt → Steps p.tables e below (s₁.setTop (entryFrame m #[(.int p1), (.int p2)] maxLocals)) tt := by
    intro tt kt
    refine pre0 tt ?_
    show Steps p.tables e below (s₁.setTop (mkF m 0 #[.val (.int p1), .val (.int p2), .unset, .unset, .unset, .unset] [])) _
    refine XS.iloadN X0.here hx rfl (hb hby at_0) rfl ?_
    show Steps p.tables e below (s₁.setTop (mkF m 1 #[.val (.int p1), .val (.int p2), .unset, .unset, .unset, .unset] [(.int p1)])) _
    refine X0.ldcInt hx hown (mvT hZ (hw _ (List.mem_of_getElem? (i := 0) rfl))) (g := (mkF m 1 #[.val (.int p1), .val (.int p2), .unset, .unset, .unset, .unset] [(.int p1)])) rfl (hb hby at_1) _ ?_
    show Steps p.tables e below (s₁.setTop (mkF m 3 #[.val (.int p1), .val (.int p2), .unset, .unset, .unset, .unset] [(.int (2147483647 : Int32)), (.int p1)])) _
    refine XS.iand X0.here hx rfl (hb hby at_3) rfl ?_
    show Steps p.tables e below (s₁.setTop (mkF m 4 #[.val (.int p1), .val (.int p2), .unset, .unset, .unset, .unset] [(.int (p1 &&& (2147483647 : Int32)))])) _
    refine XS.iconst X0.here hx rfl (hb hby at_4) ?_
    show Steps p.tables e below (s₁.setTop (mkF m 5 #[.val (.int p1), .val (.int p2), .unset, .unset, .unset, .unset] [(.int (5 : Int32)), (.int (p1 &&& (2147483647 : Int32)))])) _
    refine iremM (g := (mkF m 5 #[.val (.int p1), .val (.int p2), .unset, .unset, .unset, .unset] [(.int (5 : Int32)), (.int (p1 &&& (2147483647 : Int32)))])) X0 hx rfl (hb hby at_5) rfl (by decide : ¬ ((5 : Int32) = (0 : Int32))) ?_
    show Steps p.tables e below (s₁.setTop (mkF m 6 #[.val (.int p1), .val (.int p2), .unset, .unset, .unset, .unset] [(.int ((p1 &&& (2147483647 : Int32)) % (5 : Int32)))])) _
    rw [← hk]
    exact kt
  have rk := own_of5 (own_rem p1 (5 : Int32) (by decide))
  rw [← hk] at rk
  clear hk
  rcases rk with rfl | rfl | rfl | rfl | rfl
  · obtain ⟨_, _, ⟨T2, L2, k2, n2⟩, -, X2, ⟨Lc2, hQ2, l2, y2, z2⟩, st2⟩ := Jvm.LawKit.callS X0 hx (y := (⟨"com/example/prudent_stability/prudentstability/RelationRelaxedPinLaw", "pick", "(I)Lcom/example/prudent_stability/prudentstability/Relation;"⟩ : MethodName)) hown (mvT hZ (hw _ (List.mem_of_getElem? (i := 1) rfl))) (mvT hZ (hw _ (List.mem_of_getElem? (i := 2) rfl))) (mvT hZ (hw _ (List.mem_of_getElem? (i := 3) rfl))) (mvT hZ (hw _ (List.mem_of_getElem? (i := 4) rfl))) (by decide) (backOf (W := 0) (rmP l Z a0 hw [] (0 : Int32) w_LESS w_LESS_OR_EQUAL w_EQUAL w_GREATER_OR_EQUAL w_GREATER w_LESS h0 n0 Z0 S_LESS S_LESS_OR_EQUAL S_EQUAL S_GREATER_OR_EQUAL S_GREATER (by simp [own_pick])) hZ (hw _ (List.mem_of_getElem? (i := 4) rfl)) (hw _ (List.mem_of_getElem? (i := 3) rfl)) (by decide) (by decide)) (g := (mkF m 6 #[.val (.int p1), .val (.int p2), .unset, .unset, .unset, .unset] [(.int (0 : Int32))])) rfl (by rw [hml]; rfl) (argsL := [(.int (0 : Int32))]) (rest := []) (lenOf pd_rm0_0 rfl) rfl (by show 2 * 0 + _ ≤ _; exact Nat.le_of_eq rfl) (hb hby at_6) (fun _ _ => ⟨rfl, e0, (by decide : 0 + 0 ≤ _), (by decide : 0 + 0 ≤ _)⟩)
    dsimp only [Pt.U, Pt.locs, Pt.cells, Pt.slots] at X2 l2 y2 z2 st2 hQ2
    subst l2 y2 z2
    obtain ⟨rfl, N2q, hE2⟩ := hQ2
    have N2 := Fr.app N0 N2q
    have rt := own_of3 (own_rem p2 (3 : Int32) (by decide))
    obtain ⟨s1, hs1⟩ : ∃ z : Int32, z = (((p2 &&& (2147483647 : Int32)) % (3 : Int32)) - (1 : Int32)) := ⟨_, rfl⟩
    have pre3 : ∀ tt, Steps p.tables e below (T2.setTop (mkF m 18 #[.val (.int p1), .val (.int p2), .val (.ref w_LESS), .unset, .unset, .unset] [(.int s1)])) tt → Steps p.tables e below (s₁.setTop (entryFrame m #[(.int p1), (.int p2)] maxLocals)) tt := by
      intro tt kt
      refine pre1 tt ?_
      show Steps p.tables e below (s₁.setTop (mkF m 6 #[.val (.int p1), .val (.int p2), .unset, .unset, .unset, .unset] [(.int (0 : Int32))])) _
      refine st2 _ ?_
      show Steps p.tables e below (T2.setTop (mkF m 9 #[.val (.int p1), .val (.int p2), .unset, .unset, .unset, .unset] [(.ref w_LESS)])) _
      refine XS.astoreN X2.here hx rfl (hb hby at_9) rfl rfl (l' := #[.val (.int p1), .val (.int p2), .val (.ref w_LESS), .unset, .unset, .unset]) rfl ?_
      show Steps p.tables e below (T2.setTop (mkF m 10 #[.val (.int p1), .val (.int p2), .val (.ref w_LESS), .unset, .unset, .unset] [])) _
      refine XS.iloadN X2.here hx rfl (hb hby at_10) rfl ?_
      show Steps p.tables e below (T2.setTop (mkF m 11 #[.val (.int p1), .val (.int p2), .val (.ref w_LESS), .unset, .unset, .unset] [(.int p2)])) _
      refine X2.ldcInt hx hown (mvT hZ (hw _ (List.mem_of_getElem? (i := 0) rfl))) (g := (mkF m 11 #[.val (.int p1), .val (.int p2), .val (.ref w_LESS), .unset, .unset, .unset] [(.int p2)])) rfl (hb hby at_11) _ ?_
      show Steps p.tables e below (T2.setTop (mkF m 13 #[.val (.int p1), .val (.int p2), .val (.ref w_LESS), .unset, .unset, .unset] [(.int (2147483647 : Int32)), (.int p2)])) _
      refine XS.iand X2.here hx rfl (hb hby at_13) rfl ?_
      show Steps p.tables e below (T2.setTop (mkF m 14 #[.val (.int p1), .val (.int p2), .val (.ref w_LESS), .unset, .unset, .unset] [(.int (p2 &&& (2147483647 : Int32)))])) _
      refine XS.iconst X2.here hx rfl (hb hby at_14) ?_
      show Steps p.tables e below (T2.setTop (mkF m 15 #[.val (.int p1), .val (.int p2), .val (.ref w_LESS), .unset, .unset, .unset] [(.int (3 : Int32)), (.int (p2 &&& (2147483647 : Int32)))])) _
      refine iremM (g := (mkF m 15 #[.val (.int p1), .val (.int p2), .val (.ref w_LESS), .unset, .unset, .unset] [(.int (3 : Int32)), (.int (p2 &&& (2147483647 : Int32)))])) X2 hx rfl (hb hby at_15) rfl (by decide : ¬ ((3 : Int32) = (0 : Int32))) ?_
      show Steps p.tables e below (T2.setTop (mkF m 16 #[.val (.int p1), .val (.int p2), .val (.ref w_LESS), .unset, .unset, .unset] [(.int ((p2 &&& (2147483647 : Int32)) % (3 : Int32)))])) _
      refine XS.iconst X2.here hx rfl (hb hby at_16) ?_
      show Steps p.tables e below (T2.setTop (mkF m 17 #[.val (.int p1), .val (.int p2), .val (.ref w_LESS), .unset, .unset, .unset] [(.int (1 : Int32)), (.int ((p2 &&& (2147483647 : Int32)) % (3 : Int32)))])) _
      refine XS.isub X2.here hx rfl (hb hby at_17) rfl ?_
      show Steps p.tables e below (T2.setTop (mkF m 18 #[.val (.int p1), .val (.int p2), .val (.ref w_LESS), .unset, .unset, .unset] [(.int (((p2 &&& (2147483647 : Int32)) % (3 : Int32)) - (1 : Int32)))])) _
      rw [← hs1]
      exact kt
    have rs : s1 = -1 ∨ s1 = 0 ∨ s1 = 1 := by
      rw [hs1]; rcases rt with q | q | q <;> rw [q] <;> decide
    clear hs1 rt
    obtain ⟨cq4, kq4, q4a, q4b, q4c⟩ := isOf hZ hE2 E_LESS
    obtain ⟨_, _, ⟨T4, L4, k4, n4⟩, -, X4, ⟨Lc4, hQ4, l4, y4, z4⟩, st4⟩ := X2.virtualBack hx (y := (⟨"com/example/prudent_stability/prudentstability/Relation", "relaxed", "()Lcom/example/prudent_stability/prudentstability/Relation;"⟩ : MethodName)) (z := (⟨"com/example/prudent_stability/prudentstability/Relation", "relaxed", "()Lcom/example/prudent_stability/prudentstability/Relation;"⟩ : MethodName)) hown (mvT hZ (hw _ (List.mem_of_getElem? (i := 8) rfl))) (mvT hZ (hw _ (List.mem_of_getElem? (i := 9) rfl))) (notFace_of_selects (args := #[]) (mvT hZ (hw _ (List.mem_of_getElem? (i := 11) rfl)))) (mvT hZ (hw _ (List.mem_of_getElem? (i := 11) rfl))) (mvT hZ (hw _ (List.mem_of_getElem? (i := 10) rfl))) (by decide) (backOf (W := 0) (rmM l Z a0 hw [] w_LESS (0 : Int32) w_LESS_OR_EQUAL w_GREATER_OR_EQUAL w_LESS_OR_EQUAL h0 n0 Z0 S_LESS_OR_EQUAL S_GREATER_OR_EQUAL F_LESS_ordinal E_LESS (by decide) (by simp [own_pick])) hZ (hw _ (List.mem_of_getElem? (i := 12) rfl)) (hw _ (List.mem_of_getElem? (i := 6) rfl)) (by decide) (by decide)) q4a q4c (g := (mkF m 20 #[.val (.int p1), .val (.int p2), .val (.ref w_LESS), .val (.int s1), .unset, .unset] [(.ref w_LESS)])) rfl (by rw [hml]; rfl) (Steps.refl _) (argsL := []) (rest := []) (lenOf pd_rm0_1 rfl) rfl (by show 2 * 0 + _ ≤ _; exact Nat.le_of_eq rfl) (hb hby at_20) (fun _ _ => ⟨rfl, hE2, (by decide : 0 + 0 ≤ _), (by decide : 0 + 0 ≤ _)⟩)
    dsimp only [Pt.U, Pt.locs, Pt.cells, Pt.slots] at X4 l4 y4 z4 st4 hQ4
    subst l4 y4 z4
    obtain ⟨rfl, N4q, hE4⟩ := hQ4
    have N4 := Fr.app N2 N4q
    have pre5 : ∀ tt, Steps p.tables e below (T4.setTop (mkF m 33 #[.val (.int p1), .val (.int p2), .val (.ref w_LESS), .val (.int s1), .val (.ref w_LESS_OR_EQUAL), .unset] [(.int s1)])) tt → Steps p.tables e below (s₁.setTop (entryFrame m #[(.int p1), (.int p2)] maxLocals)) tt := by
      intro tt kt
      refine pre3 tt ?_
      show Steps p.tables e below (T2.setTop (mkF m 18 #[.val (.int p1), .val (.int p2), .val (.ref w_LESS), .unset, .unset, .unset] [(.int s1)])) _
      refine XS.istoreN X2.here hx rfl (hb hby at_18) rfl (l' := #[.val (.int p1), .val (.int p2), .val (.ref w_LESS), .val (.int s1), .unset, .unset]) rfl ?_
      show Steps p.tables e below (T2.setTop (mkF m 19 #[.val (.int p1), .val (.int p2), .val (.ref w_LESS), .val (.int s1), .unset, .unset] [])) _
      refine XS.aloadN X2.here hx rfl (hb hby at_19) rfl rfl ?_
      show Steps p.tables e below (T2.setTop (mkF m 20 #[.val (.int p1), .val (.int p2), .val (.ref w_LESS), .val (.int s1), .unset, .unset] [(.ref w_LESS)])) _
      refine st4.trans ?_
      show Steps p.tables e below (T4.setTop (mkF m 23 #[.val (.int p1), .val (.int p2), .val (.ref w_LESS), .val (.int s1), .unset, .unset] [(.ref w_LESS_OR_EQUAL)])) _
      refine XS.astore X4.here hx rfl (hb hby at_23) rfl rfl (l' := #[.val (.int p1), .val (.int p2), .val (.ref w_LESS), .val (.int s1), .val (.ref w_LESS_OR_EQUAL), .unset]) rfl ?_
      show Steps p.tables e below (T4.setTop (mkF m 25 #[.val (.int p1), .val (.int p2), .val (.ref w_LESS), .val (.int s1), .val (.ref w_LESS_OR_EQUAL), .unset] [])) _
      refine XS.aload X4.here hx rfl (hb hby at_25) rfl rfl ?_
      show Steps p.tables e below (T4.setTop (mkF m 27 #[.val (.int p1), .val (.int p2), .val (.ref w_LESS), .val (.int s1), .val (.ref w_LESS_OR_EQUAL), .unset] [(.ref w_LESS_OR_EQUAL)])) _
      refine XS.ifnonnullYes X4.here hx rfl (pc0 := 27) (pc' := 32) rfl (hb hby at_27) rfl (by decide) (by decide) ?_
      show Steps p.tables e below (T4.setTop (mkF m 32 #[.val (.int p1), .val (.int p2), .val (.ref w_LESS), .val (.int s1), .val (.ref w_LESS_OR_EQUAL), .unset] [])) _
      refine XS.iloadN X4.here hx rfl (hb hby at_32) rfl ?_
      exact kt
    by_cases c33_6 : s1 = (0 : Int32)
    · obtain ⟨cq7, kq7, q7a, q7b, q7c⟩ := isOf hZ hE4 E_LESS
      obtain ⟨_, _, ⟨T7, L7, k7, n7⟩, -, X7, ⟨Lc7, hQ7, l7, y7, z7⟩, st7⟩ := X4.virtualBack hx (y := (⟨"com/example/prudent_stability/prudentstability/Relation", "holdsFor", "(I)Z"⟩ : MethodName)) (z := (⟨"com/example/prudent_stability/prudentstability/Relation", "holdsFor", "(I)Z"⟩ : MethodName)) hown (mvT hZ (hw _ (List.mem_of_getElem? (i := 24) rfl))) (mvT hZ (hw _ (List.mem_of_getElem? (i := 25) rfl))) (notFace_of_selects (args := #[]) (mvT hZ (hw _ (List.mem_of_getElem? (i := 27) rfl)))) (mvT hZ (hw _ (List.mem_of_getElem? (i := 27) rfl))) (mvT hZ (hw _ (List.mem_of_getElem? (i := 26) rfl))) (by decide) (backOf (W := 0) (rmH l Z a0 hw [] w_LESS (-1 : Int32) (0 : Int32) (1 : Int32) h0 n0 Z0 F_LESS_ordinal E_LESS (by decide) (by decide)) hZ (hw _ (List.mem_of_getElem? (i := 28) rfl)) (hw _ (List.mem_of_getElem? (i := 6) rfl)) (by decide) (by decide)) q7a q7c (g := (mkF m 48 #[.val (.int p1), .val (.int p2), .val (.ref w_LESS), .val (.int s1), .val (.ref w_LESS_OR_EQUAL), .unset] [(.int (-1 : Int32)), (.ref w_LESS)])) rfl (by rw [hml]; rfl) (Steps.refl _) (argsL := [(.int (-1 : Int32))]) (rest := []) (lenOf pd_rm0_2 rfl) rfl (by show 2 * 0 + _ ≤ _; exact Nat.le_of_eq rfl) (hb hby at_48) (fun _ _ => ⟨rfl, hE4, (by decide : 0 + 0 ≤ _), (by decide : 0 + 0 ≤ _)⟩)
      dsimp only [Pt.U, Pt.locs, Pt.cells, Pt.slots] at X7 l7 y7 z7 st7 hQ7
      subst l7 y7 z7
      obtain ⟨rfl, N7q, hE7⟩ := hQ7
      have N7 := Fr.app N4 N7q
      obtain ⟨cq8, kq8, q8a, q8b, q8c⟩ := isOf hZ hE7 E_LESS_OR_EQUAL
      obtain ⟨_, _, ⟨T8, L8, k8, n8⟩, -, X8, ⟨Lc8, hQ8, l8, y8, z8⟩, st8⟩ := X7.virtualBack hx (y := (⟨"com/example/prudent_stability/prudentstability/Relation", "holdsFor", "(I)Z"⟩ : MethodName)) (z := (⟨"com/example/prudent_stability/prudentstability/Relation", "holdsFor", "(I)Z"⟩ : MethodName)) hown (mvT hZ (hw _ (List.mem_of_getElem? (i := 24) rfl))) (mvT hZ (hw _ (List.mem_of_getElem? (i := 25) rfl))) (notFace_of_selects (args := #[]) (mvT hZ (hw _ (List.mem_of_getElem? (i := 27) rfl)))) (mvT hZ (hw _ (List.mem_of_getElem? (i := 27) rfl))) (mvT hZ (hw _ (List.mem_of_getElem? (i := 26) rfl))) (by decide) (backOf (W := 0) (rmH l Z a0 hw [] w_LESS_OR_EQUAL s1 (1 : Int32) (1 : Int32) h0 n0 Z0 F_LESS_OR_EQUAL_ordinal E_LESS_OR_EQUAL (by decide) (by rw [c33_6]; decide)) hZ (hw _ (List.mem_of_getElem? (i := 28) rfl)) (hw _ (List.mem_of_getElem? (i := 6) rfl)) (by decide) (by decide)) q8a q8c (g := (mkF m 80 #[.val (.int p1), .val (.int p2), .val (.ref w_LESS), .val (.int s1), .val (.ref w_LESS_OR_EQUAL), .val (.int (1 : Int32))] [(.int s1), (.ref w_LESS_OR_EQUAL)])) rfl (by rw [hml]; rfl) (Steps.refl _) (argsL := [(.int s1)]) (rest := []) (lenOf pd_rm0_2 rfl) rfl (by show 2 * 0 + _ ≤ _; exact Nat.le_of_eq rfl) (hb hby at_80) (fun _ _ => ⟨rfl, hE7, (by decide : 0 + 0 ≤ _), (by decide : 0 + 0 ≤ _)⟩)
      dsimp only [Pt.U, Pt.locs, Pt.cells, Pt.slots] at X8 l8 y8 z8 st8 hQ8
      subst l8 y8 z8
      obtain ⟨rfl, N8q, hE8⟩ := hQ8
      have N8 := Fr.app N7 N8q
      obtain ⟨cq9, kq9, q9a, q9b, q9c⟩ := isOf hZ hE8 E_LESS_OR_EQUAL
      obtain ⟨_, _, ⟨T9, L9, k9, n9⟩, -, X9, ⟨Lc9, hQ9, l9, y9, z9⟩, st9⟩ := X8.virtualBack hx (y := (⟨"com/example/prudent_stability/prudentstability/Relation", "relaxed", "()Lcom/example/prudent_stability/prudentstability/Relation;"⟩ : MethodName)) (z := (⟨"com/example/prudent_stability/prudentstability/Relation", "relaxed", "()Lcom/example/prudent_stability/prudentstability/Relation;"⟩ : MethodName)) hown (mvT hZ (hw _ (List.mem_of_getElem? (i := 8) rfl))) (mvT hZ (hw _ (List.mem_of_getElem? (i := 9) rfl))) (notFace_of_selects (args := #[]) (mvT hZ (hw _ (List.mem_of_getElem? (i := 11) rfl)))) (mvT hZ (hw _ (List.mem_of_getElem? (i := 11) rfl))) (mvT hZ (hw _ (List.mem_of_getElem? (i := 10) rfl))) (by decide) (backOf (W := 0) (rmM l Z a0 hw [] w_LESS_OR_EQUAL (1 : Int32) w_LESS_OR_EQUAL w_GREATER_OR_EQUAL w_LESS_OR_EQUAL h0 n0 Z0 S_LESS_OR_EQUAL S_GREATER_OR_EQUAL F_LESS_OR_EQUAL_ordinal E_LESS_OR_EQUAL (by decide) (by simp [own_pick])) hZ (hw _ (List.mem_of_getElem? (i := 12) rfl)) (hw _ (List.mem_of_getElem? (i := 6) rfl)) (by decide) (by decide)) q9a q9c (g := (mkF m 90 #[.val (.int p1), .val (.int p2), .val (.ref w_LESS), .val (.int s1), .val (.ref w_LESS_OR_EQUAL), .val (.int (1 : Int32))] [(.ref w_LESS_OR_EQUAL)])) rfl (by rw [hml]; rfl) (Steps.refl _) (argsL := []) (rest := []) (lenOf pd_rm0_1 rfl) rfl (by show 2 * 0 + _ ≤ _; exact Nat.le_of_eq rfl) (hb hby at_90) (fun _ _ => ⟨rfl, hE8, (by decide : 0 + 0 ≤ _), (by decide : 0 + 0 ≤ _)⟩)
      dsimp only [Pt.U, Pt.locs, Pt.cells, Pt.slots] at X9 l9 y9 z9 st9 hQ9
      subst l9 y9 z9
      obtain ⟨rfl, N9q, hE9⟩ := hQ9
      have N9 := Fr.app N8 N9q
      have pre10 : ∀ tt, Steps p.tables e below (T9.setTop (mkF m 103 #[.val (.int p1), .val (.int p2), .val (.ref w_LESS), .val (.int s1), .val (.ref w_LESS_OR_EQUAL), .val (.int (1 : Int32))] [(.int (1 : Int32))])) tt → Steps p.tables e below (s₁.setTop (entryFrame m #[(.int p1), (.int p2)] maxLocals)) tt := by
        intro tt kt
        refine pre5 tt ?_
        show Steps p.tables e below (T4.setTop (mkF m 33 #[.val (.int p1), .val (.int p2), .val (.ref w_LESS), .val (.int s1), .val (.ref w_LESS_OR_EQUAL), .unset] [(.int s1)])) _
        refine XS.ifYes X4.here hx rfl (pc0 := 33) (pc' := 46) rfl (hb hby at_33) rfl ((if0 _ _).trans (teq c33_6).1) (by decide) (by decide) ?_
        show Steps p.tables e below (T4.setTop (mkF m 46 #[.val (.int p1), .val (.int p2), .val (.ref w_LESS), .val (.int s1), .val (.ref w_LESS_OR_EQUAL), .unset] [])) _
        refine XS.aloadN X4.here hx rfl (hb hby at_46) rfl rfl ?_
        show Steps p.tables e below (T4.setTop (mkF m 47 #[.val (.int p1), .val (.int p2), .val (.ref w_LESS), .val (.int s1), .val (.ref w_LESS_OR_EQUAL), .unset] [(.ref w_LESS)])) _
        refine XS.iconst X4.here hx rfl (hb hby at_47) ?_
        show Steps p.tables e below (T4.setTop (mkF m 48 #[.val (.int p1), .val (.int p2), .val (.ref w_LESS), .val (.int s1), .val (.ref w_LESS_OR_EQUAL), .unset] [(.int (-1 : Int32)), (.ref w_LESS)])) _
        refine st7.trans ?_
        show Steps p.tables e below (T7.setTop (mkF m 51 #[.val (.int p1), .val (.int p2), .val (.ref w_LESS), .val (.int s1), .val (.ref w_LESS_OR_EQUAL), .unset] [(.int (1 : Int32))])) _
        refine XS.ifYes X7.here hx rfl (pc0 := 51) (pc' := 70) rfl (hb hby at_51) rfl ((if0 _ _).trans (feq (by decide : ¬ ((1 : Int32) = (0 : Int32)))).2) (by decide) (by decide) ?_
        show Steps p.tables e below (T7.setTop (mkF m 70 #[.val (.int p1), .val (.int p2), .val (.ref w_LESS), .val (.int s1), .val (.ref w_LESS_OR_EQUAL), .unset] [])) _
        refine XS.iconst X7.here hx rfl (hb hby at_70) ?_
        show Steps p.tables e below (T7.setTop (mkF m 71 #[.val (.int p1), .val (.int p2), .val (.ref w_LESS), .val (.int s1), .val (.ref w_LESS_OR_EQUAL), .unset] [(.int (1 : Int32))])) _
        refine XS.goto X7.here hx rfl (pc0 := 71) (pc' := 75) rfl (hb hby at_71) (by decide) (by decide) ?_
        show Steps p.tables e below (T7.setTop (mkF m 75 #[.val (.int p1), .val (.int p2), .val (.ref w_LESS), .val (.int s1), .val (.ref w_LESS_OR_EQUAL), .unset] [(.int (1 : Int32))])) _
        refine XS.istore X7.here hx rfl (hb hby at_75) rfl (l' := #[.val (.int p1), .val (.int p2), .val (.ref w_LESS), .val (.int s1), .val (.ref w_LESS_OR_EQUAL), .val (.int (1 : Int32))]) rfl ?_
        show Steps p.tables e below (T7.setTop (mkF m 77 #[.val (.int p1), .val (.int p2), .val (.ref w_LESS), .val (.int s1), .val (.ref w_LESS_OR_EQUAL), .val (.int (1 : Int32))] [])) _
        refine XS.aload X7.here hx rfl (hb hby at_77) rfl rfl ?_
        show Steps p.tables e below (T7.setTop (mkF m 79 #[.val (.int p1), .val (.int p2), .val (.ref w_LESS), .val (.int s1), .val (.ref w_LESS_OR_EQUAL), .val (.int (1 : Int32))] [(.ref w_LESS_OR_EQUAL)])) _
        refine XS.iloadN X7.here hx rfl (hb hby at_79) rfl ?_
        show Steps p.tables e below (T7.setTop (mkF m 80 #[.val (.int p1), .val (.int p2), .val (.ref w_LESS), .val (.int s1), .val (.ref w_LESS_OR_EQUAL), .val (.int (1 : Int32))] [(.int s1), (.ref w_LESS_OR_EQUAL)])) _
        refine st8.trans ?_
        show Steps p.tables e below (T8.setTop (mkF m 83 #[.val (.int p1), .val (.int p2), .val (.ref w_LESS), .val (.int s1), .val (.ref w_LESS_OR_EQUAL), .val (.int (1 : Int32))] [(.int (1 : Int32))])) _
        refine XS.iload X8.here hx rfl (hb hby at_83) rfl ?_
        show Steps p.tables e below (T8.setTop (mkF m 85 #[.val (.int p1), .val (.int p2), .val (.ref w_LESS), .val (.int s1), .val (.ref w_LESS_OR_EQUAL), .val (.int (1 : Int32))] [(.int (1 : Int32)), (.int (1 : Int32))])) _
        refine XS.icmpNo X8.here hx rfl (hb hby at_85) rfl (teq (rfl : (1 : Int32) = (1 : Int32))).2 ?_
        show Steps p.tables e below (T8.setTop (mkF m 88 #[.val (.int p1), .val (.int p2), .val (.ref w_LESS), .val (.int s1), .val (.ref w_LESS_OR_EQUAL), .val (.int (1 : Int32))] [])) _
        refine XS.aload X8.here hx rfl (hb hby at_88) rfl rfl ?_
        show Steps p.tables e below (T8.setTop (mkF m 90 #[.val (.int p1), .val (.int p2), .val (.ref w_LESS), .val (.int s1), .val (.ref w_LESS_OR_EQUAL), .val (.int (1 : Int32))] [(.ref w_LESS_OR_EQUAL)])) _
        refine st9.trans ?_
        show Steps p.tables e below (T9.setTop (mkF m 93 #[.val (.int p1), .val (.int p2), .val (.ref w_LESS), .val (.int s1), .val (.ref w_LESS_OR_EQUAL), .val (.int (1 : Int32))] [(.ref w_LESS_OR_EQUAL)])) _
        refine XS.aload X9.here hx rfl (hb hby at_93) rfl rfl ?_
        show Steps p.tables e below (T9.setTop (mkF m 95 #[.val (.int p1), .val (.int p2), .val (.ref w_LESS), .val (.int s1), .val (.ref w_LESS_OR_EQUAL), .val (.int (1 : Int32))] [(.ref w_LESS_OR_EQUAL), (.ref w_LESS_OR_EQUAL)])) _
        refine Jvm.RoadKit.acmp (g := (mkF m 95 #[.val (.int p1), .val (.int p2), .val (.ref w_LESS), .val (.int s1), .val (.ref w_LESS_OR_EQUAL), .val (.int (1 : Int32))] [(.ref w_LESS_OR_EQUAL), (.ref w_LESS_OR_EQUAL)])) X9 hx rfl rfl rfl (pc0 := 95) (pc' := 98) (same := true) rfl (hb hby at_95) rfl (decide_eq_true rfl) (by decide) (by decide) ?_
        show Steps p.tables e below (T9.setTop (mkF m 98 #[.val (.int p1), .val (.int p2), .val (.ref w_LESS), .val (.int s1), .val (.ref w_LESS_OR_EQUAL), .val (.int (1 : Int32))] [])) _
        refine XS.iconst X9.here hx rfl (hb hby at_98) ?_
        show Steps p.tables e below (T9.setTop (mkF m 99 #[.val (.int p1), .val (.int p2), .val (.ref w_LESS), .val (.int s1), .val (.ref w_LESS_OR_EQUAL), .val (.int (1 : Int32))] [(.int (1 : Int32))])) _
        refine XS.goto X9.here hx rfl (pc0 := 99) (pc' := 103) rfl (hb hby at_99) (by decide) (by decide) ?_
        exact kt
      obtain ⟨fs, hr, hrun, hended, hW, hsame⟩ := X9.leave (v := some (.int (1 : Int32))) (fun h => by rw [Bd.returns] at h; cases h)
      refine ⟨_, _, pre10 _ ?_, hrun, hended, _, _, rfl, ?_, ⟨_, rfl⟩, hW, hsame.mono (by decide) (by decide)⟩
      · show Steps p.tables e below (T9.setTop (mkF m 103 #[.val (.int p1), .val (.int p2), .val (.ref w_LESS), .val (.int s1), .val (.ref w_LESS_OR_EQUAL), .val (.int (1 : Int32))] [(.int (1 : Int32))])) _
        exact retN X9 hx (t := .boolean) Bd.returns (by simp) (hb hby at_103) hr
      · show Q0 Z h0 n0 _ T9.heap _
        rw [hE9]
        exact ⟨rfl, N9⟩
    · obtain ⟨cq11, kq11, q11a, q11b, q11c⟩ := isOf hZ hE4 E_LESS
      obtain ⟨_, _, ⟨T11, L11, k11, n11⟩, -, X11, ⟨Lc11, hQ11, l11, y11, z11⟩, st11⟩ := X4.virtualBack hx (y := (⟨"com/example/prudent_stability/prudentstability/Relation", "holdsFor", "(I)Z"⟩ : MethodName)) (z := (⟨"com/example/prudent_stability/prudentstability/Relation", "holdsFor", "(I)Z"⟩ : MethodName)) hown (mvT hZ (hw _ (List.mem_of_getElem? (i := 24) rfl))) (mvT hZ (hw _ (List.mem_of_getElem? (i := 25) rfl))) (notFace_of_selects (args := #[]) (mvT hZ (hw _ (List.mem_of_getElem? (i := 27) rfl)))) (mvT hZ (hw _ (List.mem_of_getElem? (i := 27) rfl))) (mvT hZ (hw _ (List.mem_of_getElem? (i := 26) rfl))) (by decide) (backOf (W := 0) (rmH l Z a0 hw [] w_LESS s1 (0 : Int32) (own_hf (0 : Int32) s1) h0 n0 Z0 F_LESS_ordinal E_LESS (by decide) rfl) hZ (hw _ (List.mem_of_getElem? (i := 28) rfl)) (hw _ (List.mem_of_getElem? (i := 6) rfl)) (by decide) (by decide)) q11a q11c (g := (mkF m 38 #[.val (.int p1), .val (.int p2), .val (.ref w_LESS), .val (.int s1), .val (.ref w_LESS_OR_EQUAL), .unset] [(.int s1), (.ref w_LESS)])) rfl (by rw [hml]; rfl) (Steps.refl _) (argsL := [(.int s1)]) (rest := []) (lenOf pd_rm0_2 rfl) rfl (by show 2 * 0 + _ ≤ _; exact Nat.le_of_eq rfl) (hb hby at_38) (fun _ _ => ⟨rfl, hE4, (by decide : 0 + 0 ≤ _), (by decide : 0 + 0 ≤ _)⟩)
      dsimp only [Pt.U, Pt.locs, Pt.cells, Pt.slots] at X11 l11 y11 z11 st11 hQ11
      subst l11 y11 z11
      obtain ⟨rfl, N11q, hE11⟩ := hQ11
      have N11 := Fr.app N4 N11q
      obtain ⟨cq12, kq12, q12a, q12b, q12c⟩ := isOf hZ hE11 E_LESS_OR_EQUAL
      obtain ⟨_, _, ⟨T12, L12, k12, n12⟩, -, X12, ⟨Lc12, hQ12, l12, y12, z12⟩, st12⟩ := X11.virtualBack hx (y := (⟨"com/example/prudent_stability/prudentstability/Relation", "holdsFor", "(I)Z"⟩ : MethodName)) (z := (⟨"com/example/prudent_stability/prudentstability/Relation", "holdsFor", "(I)Z"⟩ : MethodName)) hown (mvT hZ (hw _ (List.mem_of_getElem? (i := 24) rfl))) (mvT hZ (hw _ (List.mem_of_getElem? (i := 25) rfl))) (notFace_of_selects (args := #[]) (mvT hZ (hw _ (List.mem_of_getElem? (i := 27) rfl)))) (mvT hZ (hw _ (List.mem_of_getElem? (i := 27) rfl))) (mvT hZ (hw _ (List.mem_of_getElem? (i := 26) rfl))) (by decide) (backOf (W := 0) (rmH l Z a0 hw [] w_LESS_OR_EQUAL s1 (1 : Int32) (own_hf (1 : Int32) s1) h0 n0 Z0 F_LESS_OR_EQUAL_ordinal E_LESS_OR_EQUAL (by decide) rfl) hZ (hw _ (List.mem_of_getElem? (i := 28) rfl)) (hw _ (List.mem_of_getElem? (i := 6) rfl)) (by decide) (by decide)) q12a q12c (g := (mkF m 80 #[.val (.int p1), .val (.int p2), .val (.ref w_LESS), .val (.int s1), .val (.ref w_LESS_OR_EQUAL), .val (.int (own_hf (0 : Int32) s1))] [(.int s1), (.ref w_LESS_OR_EQUAL)])) rfl (by rw [hml]; rfl) (Steps.refl _) (argsL := [(.int s1)]) (rest := []) (lenOf pd_rm0_2 rfl) rfl (by show 2 * 0 + _ ≤ _; exact Nat.le_of_eq rfl) (hb hby at_80) (fun _ _ => ⟨rfl, hE11, (by decide : 0 + 0 ≤ _), (by decide : 0 + 0 ≤ _)⟩)
      dsimp only [Pt.U, Pt.locs, Pt.cells, Pt.slots] at X12 l12 y12 z12 st12 hQ12
      subst l12 y12 z12
      obtain ⟨rfl, N12q, hE12⟩ := hQ12
      have N12 := Fr.app N11 N12q
      obtain ⟨cq13, kq13, q13a, q13b, q13c⟩ := isOf hZ hE12 E_LESS_OR_EQUAL
      obtain ⟨_, _, ⟨T13, L13, k13, n13⟩, -, X13, ⟨Lc13, hQ13, l13, y13, z13⟩, st13⟩ := X12.virtualBack hx (y := (⟨"com/example/prudent_stability/prudentstability/Relation", "relaxed", "()Lcom/example/prudent_stability/prudentstability/Relation;"⟩ : MethodName)) (z := (⟨"com/example/prudent_stability/prudentstability/Relation", "relaxed", "()Lcom/example/prudent_stability/prudentstability/Relation;"⟩ : MethodName)) hown (mvT hZ (hw _ (List.mem_of_getElem? (i := 8) rfl))) (mvT hZ (hw _ (List.mem_of_getElem? (i := 9) rfl))) (notFace_of_selects (args := #[]) (mvT hZ (hw _ (List.mem_of_getElem? (i := 11) rfl)))) (mvT hZ (hw _ (List.mem_of_getElem? (i := 11) rfl))) (mvT hZ (hw _ (List.mem_of_getElem? (i := 10) rfl))) (by decide) (backOf (W := 0) (rmM l Z a0 hw [] w_LESS_OR_EQUAL (1 : Int32) w_LESS_OR_EQUAL w_GREATER_OR_EQUAL w_LESS_OR_EQUAL h0 n0 Z0 S_LESS_OR_EQUAL S_GREATER_OR_EQUAL F_LESS_OR_EQUAL_ordinal E_LESS_OR_EQUAL (by decide) (by simp [own_pick])) hZ (hw _ (List.mem_of_getElem? (i := 12) rfl)) (hw _ (List.mem_of_getElem? (i := 6) rfl)) (by decide) (by decide)) q13a q13c (g := (mkF m 90 #[.val (.int p1), .val (.int p2), .val (.ref w_LESS), .val (.int s1), .val (.ref w_LESS_OR_EQUAL), .val (.int (own_hf (0 : Int32) s1))] [(.ref w_LESS_OR_EQUAL)])) rfl (by rw [hml]; rfl) (Steps.refl _) (argsL := []) (rest := []) (lenOf pd_rm0_1 rfl) rfl (by show 2 * 0 + _ ≤ _; exact Nat.le_of_eq rfl) (hb hby at_90) (fun _ _ => ⟨rfl, hE12, (by decide : 0 + 0 ≤ _), (by decide : 0 + 0 ≤ _)⟩)
      dsimp only [Pt.U, Pt.locs, Pt.cells, Pt.slots] at X13 l13 y13 z13 st13 hQ13
      subst l13 y13 z13
      obtain ⟨rfl, N13q, hE13⟩ := hQ13
      have N13 := Fr.app N12 N13q
      have pre14 : ∀ tt, Steps p.tables e below (T13.setTop (mkF m 103 #[.val (.int p1), .val (.int p2), .val (.ref w_LESS), .val (.int s1), .val (.ref w_LESS_OR_EQUAL), .val (.int (own_hf (0 : Int32) s1))] [(.int (1 : Int32))])) tt → Steps p.tables e below (s₁.setTop (entryFrame m #[(.int p1), (.int p2)] maxLocals)) tt := by
        intro tt kt
        refine pre5 tt ?_
        show Steps p.tables e below (T4.setTop (mkF m 33 #[.val (.int p1), .val (.int p2), .val (.ref w_LESS), .val (.int s1), .val (.ref w_LESS_OR_EQUAL), .unset] [(.int s1)])) _
        refine XS.ifNo X4.here hx rfl (hb hby at_33) rfl ((if0 _ _).trans (feq c33_6).1) ?_
        show Steps p.tables e below (T4.setTop (mkF m 36 #[.val (.int p1), .val (.int p2), .val (.ref w_LESS), .val (.int s1), .val (.ref w_LESS_OR_EQUAL), .unset] [])) _
        refine XS.aloadN X4.here hx rfl (hb hby at_36) rfl rfl ?_
        show Steps p.tables e below (T4.setTop (mkF m 37 #[.val (.int p1), .val (.int p2), .val (.ref w_LESS), .val (.int s1), .val (.ref w_LESS_OR_EQUAL), .unset] [(.ref w_LESS)])) _
        refine XS.iloadN X4.here hx rfl (hb hby at_37) rfl ?_
        show Steps p.tables e below (T4.setTop (mkF m 38 #[.val (.int p1), .val (.int p2), .val (.ref w_LESS), .val (.int s1), .val (.ref w_LESS_OR_EQUAL), .unset] [(.int s1), (.ref w_LESS)])) _
        refine st11.trans ?_
        show Steps p.tables e below (T11.setTop (mkF m 41 #[.val (.int p1), .val (.int p2), .val (.ref w_LESS), .val (.int s1), .val (.ref w_LESS_OR_EQUAL), .unset] [(.int (own_hf (0 : Int32) s1))])) _
        refine XS.istore X11.here hx rfl (hb hby at_41) rfl (l' := #[.val (.int p1), .val (.int p2), .val (.ref w_LESS), .val (.int s1), .val (.ref w_LESS_OR_EQUAL), .val (.int (own_hf (0 : Int32) s1))]) rfl ?_
        show Steps p.tables e below (T11.setTop (mkF m 43 #[.val (.int p1), .val (.int p2), .val (.ref w_LESS), .val (.int s1), .val (.ref w_LESS_OR_EQUAL), .val (.int (own_hf (0 : Int32) s1))] [])) _
        refine XS.goto X11.here hx rfl (pc0 := 43) (pc' := 77) rfl (hb hby at_43) (by decide) (by decide) ?_
        show Steps p.tables e below (T11.setTop (mkF m 77 #[.val (.int p1), .val (.int p2), .val (.ref w_LESS), .val (.int s1), .val (.ref w_LESS_OR_EQUAL), .val (.int (own_hf (0 : Int32) s1))] [])) _
        refine XS.aload X11.here hx rfl (hb hby at_77) rfl rfl ?_
        show Steps p.tables e below (T11.setTop (mkF m 79 #[.val (.int p1), .val (.int p2), .val (.ref w_LESS), .val (.int s1), .val (.ref w_LESS_OR_EQUAL), .val (.int (own_hf (0 : Int32) s1))] [(.ref w_LESS_OR_EQUAL)])) _
        refine XS.iloadN X11.here hx rfl (hb hby at_79) rfl ?_
        show Steps p.tables e below (T11.setTop (mkF m 80 #[.val (.int p1), .val (.int p2), .val (.ref w_LESS), .val (.int s1), .val (.ref w_LESS_OR_EQUAL), .val (.int (own_hf (0 : Int32) s1))] [(.int s1), (.ref w_LESS_OR_EQUAL)])) _
        refine st12.trans ?_
        show Steps p.tables e below (T12.setTop (mkF m 83 #[.val (.int p1), .val (.int p2), .val (.ref w_LESS), .val (.int s1), .val (.ref w_LESS_OR_EQUAL), .val (.int (own_hf (0 : Int32) s1))] [(.int (own_hf (1 : Int32) s1))])) _
        refine XS.iload X12.here hx rfl (hb hby at_83) rfl ?_
        show Steps p.tables e below (T12.setTop (mkF m 85 #[.val (.int p1), .val (.int p2), .val (.ref w_LESS), .val (.int s1), .val (.ref w_LESS_OR_EQUAL), .val (.int (own_hf (0 : Int32) s1))] [(.int (own_hf (0 : Int32) s1)), (.int (own_hf (1 : Int32) s1))])) _
        refine XS.icmpNo X12.here hx rfl (hb hby at_85) rfl (teq (own_hfr (0 : Int32) (1 : Int32) s1 (by decide) rs c33_6)).2 ?_
        show Steps p.tables e below (T12.setTop (mkF m 88 #[.val (.int p1), .val (.int p2), .val (.ref w_LESS), .val (.int s1), .val (.ref w_LESS_OR_EQUAL), .val (.int (own_hf (0 : Int32) s1))] [])) _
        refine XS.aload X12.here hx rfl (hb hby at_88) rfl rfl ?_
        show Steps p.tables e below (T12.setTop (mkF m 90 #[.val (.int p1), .val (.int p2), .val (.ref w_LESS), .val (.int s1), .val (.ref w_LESS_OR_EQUAL), .val (.int (own_hf (0 : Int32) s1))] [(.ref w_LESS_OR_EQUAL)])) _
        refine st13.trans ?_
        show Steps p.tables e below (T13.setTop (mkF m 93 #[.val (.int p1), .val (.int p2), .val (.ref w_LESS), .val (.int s1), .val (.ref w_LESS_OR_EQUAL), .val (.int (own_hf (0 : Int32) s1))] [(.ref w_LESS_OR_EQUAL)])) _
        refine XS.aload X13.here hx rfl (hb hby at_93) rfl rfl ?_
        show Steps p.tables e below (T13.setTop (mkF m 95 #[.val (.int p1), .val (.int p2), .val (.ref w_LESS), .val (.int s1), .val (.ref w_LESS_OR_EQUAL), .val (.int (own_hf (0 : Int32) s1))] [(.ref w_LESS_OR_EQUAL), (.ref w_LESS_OR_EQUAL)])) _
        refine Jvm.RoadKit.acmp (g := (mkF m 95 #[.val (.int p1), .val (.int p2), .val (.ref w_LESS), .val (.int s1), .val (.ref w_LESS_OR_EQUAL), .val (.int (own_hf (0 : Int32) s1))] [(.ref w_LESS_OR_EQUAL), (.ref w_LESS_OR_EQUAL)])) X13 hx rfl rfl rfl (pc0 := 95) (pc' := 98) (same := true) rfl (hb hby at_95) rfl (decide_eq_true rfl) (by decide) (by decide) ?_
        show Steps p.tables e below (T13.setTop (mkF m 98 #[.val (.int p1), .val (.int p2), .val (.ref w_LESS), .val (.int s1), .val (.ref w_LESS_OR_EQUAL), .val (.int (own_hf (0 : Int32) s1))] [])) _
        refine XS.iconst X13.here hx rfl (hb hby at_98) ?_
        show Steps p.tables e below (T13.setTop (mkF m 99 #[.val (.int p1), .val (.int p2), .val (.ref w_LESS), .val (.int s1), .val (.ref w_LESS_OR_EQUAL), .val (.int (own_hf (0 : Int32) s1))] [(.int (1 : Int32))])) _
        refine XS.goto X13.here hx rfl (pc0 := 99) (pc' := 103) rfl (hb hby at_99) (by decide) (by decide) ?_
        exact kt
      obtain ⟨fs, hr, hrun, hended, hW, hsame⟩ := X13.leave (v := some (.int (1 : Int32))) (fun h => by rw [Bd.returns] at h; cases h)
      refine ⟨_, _, pre14 _ ?_, hrun, hended, _, _, rfl, ?_, ⟨_, rfl⟩, hW, hsame.mono (by decide) (by decide)⟩
      · show Steps p.tables e below (T13.setTop (mkF m 103 #[.val (.int p1), .val (.int p2), .val (.ref w_LESS), .val (.int s1), .val (.ref w_LESS_OR_EQUAL), .val (.int (own_hf (0 : Int32) s1))] [(.int (1 : Int32))])) _
        exact retN X13 hx (t := .boolean) Bd.returns (by simp) (hb hby at_103) hr
      · show Q0 Z h0 n0 _ T13.heap _
        rw [hE13]
        exact ⟨rfl, N13⟩
  · obtain ⟨_, _, ⟨T15, L15, k15, n15⟩, -, X15, ⟨Lc15, hQ15, l15, y15, z15⟩, st15⟩ := Jvm.LawKit.callS X0 hx (y := (⟨"com/example/prudent_stability/prudentstability/RelationRelaxedPinLaw", "pick", "(I)Lcom/example/prudent_stability/prudentstability/Relation;"⟩ : MethodName)) hown (mvT hZ (hw _ (List.mem_of_getElem? (i := 1) rfl))) (mvT hZ (hw _ (List.mem_of_getElem? (i := 2) rfl))) (mvT hZ (hw _ (List.mem_of_getElem? (i := 3) rfl))) (mvT hZ (hw _ (List.mem_of_getElem? (i := 4) rfl))) (by decide) (backOf (W := 0) (rmP l Z a0 hw [] (1 : Int32) w_LESS w_LESS_OR_EQUAL w_EQUAL w_GREATER_OR_EQUAL w_GREATER w_LESS_OR_EQUAL h0 n0 Z0 S_LESS S_LESS_OR_EQUAL S_EQUAL S_GREATER_OR_EQUAL S_GREATER (by simp [own_pick])) hZ (hw _ (List.mem_of_getElem? (i := 4) rfl)) (hw _ (List.mem_of_getElem? (i := 3) rfl)) (by decide) (by decide)) (g := (mkF m 6 #[.val (.int p1), .val (.int p2), .unset, .unset, .unset, .unset] [(.int (1 : Int32))])) rfl (by rw [hml]; rfl) (argsL := [(.int (1 : Int32))]) (rest := []) (lenOf pd_rm0_0 rfl) rfl (by show 2 * 0 + _ ≤ _; exact Nat.le_of_eq rfl) (hb hby at_6) (fun _ _ => ⟨rfl, e0, (by decide : 0 + 0 ≤ _), (by decide : 0 + 0 ≤ _)⟩)
    dsimp only [Pt.U, Pt.locs, Pt.cells, Pt.slots] at X15 l15 y15 z15 st15 hQ15
    subst l15 y15 z15
    obtain ⟨rfl, N15q, hE15⟩ := hQ15
    have N15 := Fr.app N0 N15q
    have rt := own_of3 (own_rem p2 (3 : Int32) (by decide))
    obtain ⟨s1, hs1⟩ : ∃ z : Int32, z = (((p2 &&& (2147483647 : Int32)) % (3 : Int32)) - (1 : Int32)) := ⟨_, rfl⟩
    have pre16 : ∀ tt, Steps p.tables e below (T15.setTop (mkF m 18 #[.val (.int p1), .val (.int p2), .val (.ref w_LESS_OR_EQUAL), .unset, .unset, .unset] [(.int s1)])) tt → Steps p.tables e below (s₁.setTop (entryFrame m #[(.int p1), (.int p2)] maxLocals)) tt := by
      intro tt kt
      refine pre1 tt ?_
      show Steps p.tables e below (s₁.setTop (mkF m 6 #[.val (.int p1), .val (.int p2), .unset, .unset, .unset, .unset] [(.int (1 : Int32))])) _
      refine st15 _ ?_
      show Steps p.tables e below (T15.setTop (mkF m 9 #[.val (.int p1), .val (.int p2), .unset, .unset, .unset, .unset] [(.ref w_LESS_OR_EQUAL)])) _
      refine XS.astoreN X15.here hx rfl (hb hby at_9) rfl rfl (l' := #[.val (.int p1), .val (.int p2), .val (.ref w_LESS_OR_EQUAL), .unset, .unset, .unset]) rfl ?_
      show Steps p.tables e below (T15.setTop (mkF m 10 #[.val (.int p1), .val (.int p2), .val (.ref w_LESS_OR_EQUAL), .unset, .unset, .unset] [])) _
      refine XS.iloadN X15.here hx rfl (hb hby at_10) rfl ?_
      show Steps p.tables e below (T15.setTop (mkF m 11 #[.val (.int p1), .val (.int p2), .val (.ref w_LESS_OR_EQUAL), .unset, .unset, .unset] [(.int p2)])) _
      refine X15.ldcInt hx hown (mvT hZ (hw _ (List.mem_of_getElem? (i := 0) rfl))) (g := (mkF m 11 #[.val (.int p1), .val (.int p2), .val (.ref w_LESS_OR_EQUAL), .unset, .unset, .unset] [(.int p2)])) rfl (hb hby at_11) _ ?_
      show Steps p.tables e below (T15.setTop (mkF m 13 #[.val (.int p1), .val (.int p2), .val (.ref w_LESS_OR_EQUAL), .unset, .unset, .unset] [(.int (2147483647 : Int32)), (.int p2)])) _
      refine XS.iand X15.here hx rfl (hb hby at_13) rfl ?_
      show Steps p.tables e below (T15.setTop (mkF m 14 #[.val (.int p1), .val (.int p2), .val (.ref w_LESS_OR_EQUAL), .unset, .unset, .unset] [(.int (p2 &&& (2147483647 : Int32)))])) _
      refine XS.iconst X15.here hx rfl (hb hby at_14) ?_
      show Steps p.tables e below (T15.setTop (mkF m 15 #[.val (.int p1), .val (.int p2), .val (.ref w_LESS_OR_EQUAL), .unset, .unset, .unset] [(.int (3 : Int32)), (.int (p2 &&& (2147483647 : Int32)))])) _
      refine iremM (g := (mkF m 15 #[.val (.int p1), .val (.int p2), .val (.ref w_LESS_OR_EQUAL), .unset, .unset, .unset] [(.int (3 : Int32)), (.int (p2 &&& (2147483647 : Int32)))])) X15 hx rfl (hb hby at_15) rfl (by decide : ¬ ((3 : Int32) = (0 : Int32))) ?_
      show Steps p.tables e below (T15.setTop (mkF m 16 #[.val (.int p1), .val (.int p2), .val (.ref w_LESS_OR_EQUAL), .unset, .unset, .unset] [(.int ((p2 &&& (2147483647 : Int32)) % (3 : Int32)))])) _
      refine XS.iconst X15.here hx rfl (hb hby at_16) ?_
      show Steps p.tables e below (T15.setTop (mkF m 17 #[.val (.int p1), .val (.int p2), .val (.ref w_LESS_OR_EQUAL), .unset, .unset, .unset] [(.int (1 : Int32)), (.int ((p2 &&& (2147483647 : Int32)) % (3 : Int32)))])) _
      refine XS.isub X15.here hx rfl (hb hby at_17) rfl ?_
      show Steps p.tables e below (T15.setTop (mkF m 18 #[.val (.int p1), .val (.int p2), .val (.ref w_LESS_OR_EQUAL), .unset, .unset, .unset] [(.int (((p2 &&& (2147483647 : Int32)) % (3 : Int32)) - (1 : Int32)))])) _
      rw [← hs1]
      exact kt
    have rs : s1 = -1 ∨ s1 = 0 ∨ s1 = 1 := by
      rw [hs1]; rcases rt with q | q | q <;> rw [q] <;> decide
    clear hs1 rt
    obtain ⟨cq17, kq17, q17a, q17b, q17c⟩ := isOf hZ hE15 E_LESS_OR_EQUAL
    obtain ⟨_, _, ⟨T17, L17, k17, n17⟩, -, X17, ⟨Lc17, hQ17, l17, y17, z17⟩, st17⟩ := X15.virtualBack hx (y := (⟨"com/example/prudent_stability/prudentstability/Relation", "relaxed", "()Lcom/example/prudent_stability/prudentstability/Relation;"⟩ : MethodName)) (z := (⟨"com/example/prudent_stability/prudentstability/Relation", "relaxed", "()Lcom/example/prudent_stability/prudentstability/Relation;"⟩ : MethodName)) hown (mvT hZ (hw _ (List.mem_of_getElem? (i := 8) rfl))) (mvT hZ (hw _ (List.mem_of_getElem? (i := 9) rfl))) (notFace_of_selects (args := #[]) (mvT hZ (hw _ (List.mem_of_getElem? (i := 11) rfl)))) (mvT hZ (hw _ (List.mem_of_getElem? (i := 11) rfl))) (mvT hZ (hw _ (List.mem_of_getElem? (i := 10) rfl))) (by decide) (backOf (W := 0) (rmM l Z a0 hw [] w_LESS_OR_EQUAL (1 : Int32) w_LESS_OR_EQUAL w_GREATER_OR_EQUAL w_LESS_OR_EQUAL h0 n0 Z0 S_LESS_OR_EQUAL S_GREATER_OR_EQUAL F_LESS_OR_EQUAL_ordinal E_LESS_OR_EQUAL (by decide) (by simp [own_pick])) hZ (hw _ (List.mem_of_getElem? (i := 12) rfl)) (hw _ (List.mem_of_getElem? (i := 6) rfl)) (by decide) (by decide)) q17a q17c (g := (mkF m 20 #[.val (.int p1), .val (.int p2), .val (.ref w_LESS_OR_EQUAL), .val (.int s1), .unset, .unset] [(.ref w_LESS_OR_EQUAL)])) rfl (by rw [hml]; rfl) (Steps.refl _) (argsL := []) (rest := []) (lenOf pd_rm0_1 rfl) rfl (by show 2 * 0 + _ ≤ _; exact Nat.le_of_eq rfl) (hb hby at_20) (fun _ _ => ⟨rfl, hE15, (by decide : 0 + 0 ≤ _), (by decide : 0 + 0 ≤ _)⟩)
    dsimp only [Pt.U, Pt.locs, Pt.cells, Pt.slots] at X17 l17 y17 z17 st17 hQ17
    subst l17 y17 z17
    obtain ⟨rfl, N17q, hE17⟩ := hQ17
    have N17 := Fr.app N15 N17q
    have pre18 : ∀ tt, Steps p.tables e below (T17.setTop (mkF m 33 #[.val (.int p1), .val (.int p2), .val (.ref w_LESS_OR_EQUAL), .val (.int s1), .val (.ref w_LESS_OR_EQUAL), .unset] [(.int s1)])) tt → Steps p.tables e below (s₁.setTop (entryFrame m #[(.int p1), (.int p2)] maxLocals)) tt := by
      intro tt kt
      refine pre16 tt ?_
      show Steps p.tables e below (T15.setTop (mkF m 18 #[.val (.int p1), .val (.int p2), .val (.ref w_LESS_OR_EQUAL), .unset, .unset, .unset] [(.int s1)])) _
      refine XS.istoreN X15.here hx rfl (hb hby at_18) rfl (l' := #[.val (.int p1), .val (.int p2), .val (.ref w_LESS_OR_EQUAL), .val (.int s1), .unset, .unset]) rfl ?_
      show Steps p.tables e below (T15.setTop (mkF m 19 #[.val (.int p1), .val (.int p2), .val (.ref w_LESS_OR_EQUAL), .val (.int s1), .unset, .unset] [])) _
      refine XS.aloadN X15.here hx rfl (hb hby at_19) rfl rfl ?_
      show Steps p.tables e below (T15.setTop (mkF m 20 #[.val (.int p1), .val (.int p2), .val (.ref w_LESS_OR_EQUAL), .val (.int s1), .unset, .unset] [(.ref w_LESS_OR_EQUAL)])) _
      refine st17.trans ?_
      show Steps p.tables e below (T17.setTop (mkF m 23 #[.val (.int p1), .val (.int p2), .val (.ref w_LESS_OR_EQUAL), .val (.int s1), .unset, .unset] [(.ref w_LESS_OR_EQUAL)])) _
      refine XS.astore X17.here hx rfl (hb hby at_23) rfl rfl (l' := #[.val (.int p1), .val (.int p2), .val (.ref w_LESS_OR_EQUAL), .val (.int s1), .val (.ref w_LESS_OR_EQUAL), .unset]) rfl ?_
      show Steps p.tables e below (T17.setTop (mkF m 25 #[.val (.int p1), .val (.int p2), .val (.ref w_LESS_OR_EQUAL), .val (.int s1), .val (.ref w_LESS_OR_EQUAL), .unset] [])) _
      refine XS.aload X17.here hx rfl (hb hby at_25) rfl rfl ?_
      show Steps p.tables e below (T17.setTop (mkF m 27 #[.val (.int p1), .val (.int p2), .val (.ref w_LESS_OR_EQUAL), .val (.int s1), .val (.ref w_LESS_OR_EQUAL), .unset] [(.ref w_LESS_OR_EQUAL)])) _
      refine XS.ifnonnullYes X17.here hx rfl (pc0 := 27) (pc' := 32) rfl (hb hby at_27) rfl (by decide) (by decide) ?_
      show Steps p.tables e below (T17.setTop (mkF m 32 #[.val (.int p1), .val (.int p2), .val (.ref w_LESS_OR_EQUAL), .val (.int s1), .val (.ref w_LESS_OR_EQUAL), .unset] [])) _
      refine XS.iloadN X17.here hx rfl (hb hby at_32) rfl ?_
      exact kt
    by_cases c33_19 : s1 = (0 : Int32)
    · obtain ⟨cq20, kq20, q20a, q20b, q20c⟩ := isOf hZ hE17 E_LESS_OR_EQUAL
      obtain ⟨_, _, ⟨T20, L20, k20, n20⟩, -, X20, ⟨Lc20, hQ20, l20, y20, z20⟩, st20⟩ := X17.virtualBack hx (y := (⟨"com/example/prudent_stability/prudentstability/Relation", "holdsFor", "(I)Z"⟩ : MethodName)) (z := (⟨"com/example/prudent_stability/prudentstability/Relation", "holdsFor", "(I)Z"⟩ : MethodName)) hown (mvT hZ (hw _ (List.mem_of_getElem? (i := 24) rfl))) (mvT hZ (hw _ (List.mem_of_getElem? (i := 25) rfl))) (notFace_of_selects (args := #[]) (mvT hZ (hw _ (List.mem_of_getElem? (i := 27) rfl)))) (mvT hZ (hw _ (List.mem_of_getElem? (i := 27) rfl))) (mvT hZ (hw _ (List.mem_of_getElem? (i := 26) rfl))) (by decide) (backOf (W := 0) (rmH l Z a0 hw [] w_LESS_OR_EQUAL (-1 : Int32) (1 : Int32) (1 : Int32) h0 n0 Z0 F_LESS_OR_EQUAL_ordinal E_LESS_OR_EQUAL (by decide) (by decide)) hZ (hw _ (List.mem_of_getElem? (i := 28) rfl)) (hw _ (List.mem_of_getElem? (i := 6) rfl)) (by decide) (by decide)) q20a q20c (g := (mkF m 48 #[.val (.int p1), .val (.int p2), .val (.ref w_LESS_OR_EQUAL), .val (.int s1), .val (.ref w_LESS_OR_EQUAL), .unset] [(.int (-1 : Int32)), (.ref w_LESS_OR_EQUAL)])) rfl (by rw [hml]; rfl) (Steps.refl _) (argsL := [(.int (-1 : Int32))]) (rest := []) (lenOf pd_rm0_2 rfl) rfl (by show 2 * 0 + _ ≤ _; exact Nat.le_of_eq rfl) (hb hby at_48) (fun _ _ => ⟨rfl, hE17, (by decide : 0 + 0 ≤ _), (by decide : 0 + 0 ≤ _)⟩)
      dsimp only [Pt.U, Pt.locs, Pt.cells, Pt.slots] at X20 l20 y20 z20 st20 hQ20
      subst l20 y20 z20
      obtain ⟨rfl, N20q, hE20⟩ := hQ20
      have N20 := Fr.app N17 N20q
      obtain ⟨cq21, kq21, q21a, q21b, q21c⟩ := isOf hZ hE20 E_LESS_OR_EQUAL
      obtain ⟨_, _, ⟨T21, L21, k21, n21⟩, -, X21, ⟨Lc21, hQ21, l21, y21, z21⟩, st21⟩ := X20.virtualBack hx (y := (⟨"com/example/prudent_stability/prudentstability/Relation", "holdsFor", "(I)Z"⟩ : MethodName)) (z := (⟨"com/example/prudent_stability/prudentstability/Relation", "holdsFor", "(I)Z"⟩ : MethodName)) hown (mvT hZ (hw _ (List.mem_of_getElem? (i := 24) rfl))) (mvT hZ (hw _ (List.mem_of_getElem? (i := 25) rfl))) (notFace_of_selects (args := #[]) (mvT hZ (hw _ (List.mem_of_getElem? (i := 27) rfl)))) (mvT hZ (hw _ (List.mem_of_getElem? (i := 27) rfl))) (mvT hZ (hw _ (List.mem_of_getElem? (i := 26) rfl))) (by decide) (backOf (W := 0) (rmH l Z a0 hw [] w_LESS_OR_EQUAL s1 (1 : Int32) (1 : Int32) h0 n0 Z0 F_LESS_OR_EQUAL_ordinal E_LESS_OR_EQUAL (by decide) (by rw [c33_19]; decide)) hZ (hw _ (List.mem_of_getElem? (i := 28) rfl)) (hw _ (List.mem_of_getElem? (i := 6) rfl)) (by decide) (by decide)) q21a q21c (g := (mkF m 80 #[.val (.int p1), .val (.int p2), .val (.ref w_LESS_OR_EQUAL), .val (.int s1), .val (.ref w_LESS_OR_EQUAL), .val (.int (1 : Int32))] [(.int s1), (.ref w_LESS_OR_EQUAL)])) rfl (by rw [hml]; rfl) (Steps.refl _) (argsL := [(.int s1)]) (rest := []) (lenOf pd_rm0_2 rfl) rfl (by show 2 * 0 + _ ≤ _; exact Nat.le_of_eq rfl) (hb hby at_80) (fun _ _ => ⟨rfl, hE20, (by decide : 0 + 0 ≤ _), (by decide : 0 + 0 ≤ _)⟩)
      dsimp only [Pt.U, Pt.locs, Pt.cells, Pt.slots] at X21 l21 y21 z21 st21 hQ21
      subst l21 y21 z21
      obtain ⟨rfl, N21q, hE21⟩ := hQ21
      have N21 := Fr.app N20 N21q
      obtain ⟨cq22, kq22, q22a, q22b, q22c⟩ := isOf hZ hE21 E_LESS_OR_EQUAL
      obtain ⟨_, _, ⟨T22, L22, k22, n22⟩, -, X22, ⟨Lc22, hQ22, l22, y22, z22⟩, st22⟩ := X21.virtualBack hx (y := (⟨"com/example/prudent_stability/prudentstability/Relation", "relaxed", "()Lcom/example/prudent_stability/prudentstability/Relation;"⟩ : MethodName)) (z := (⟨"com/example/prudent_stability/prudentstability/Relation", "relaxed", "()Lcom/example/prudent_stability/prudentstability/Relation;"⟩ : MethodName)) hown (mvT hZ (hw _ (List.mem_of_getElem? (i := 8) rfl))) (mvT hZ (hw _ (List.mem_of_getElem? (i := 9) rfl))) (notFace_of_selects (args := #[]) (mvT hZ (hw _ (List.mem_of_getElem? (i := 11) rfl)))) (mvT hZ (hw _ (List.mem_of_getElem? (i := 11) rfl))) (mvT hZ (hw _ (List.mem_of_getElem? (i := 10) rfl))) (by decide) (backOf (W := 0) (rmM l Z a0 hw [] w_LESS_OR_EQUAL (1 : Int32) w_LESS_OR_EQUAL w_GREATER_OR_EQUAL w_LESS_OR_EQUAL h0 n0 Z0 S_LESS_OR_EQUAL S_GREATER_OR_EQUAL F_LESS_OR_EQUAL_ordinal E_LESS_OR_EQUAL (by decide) (by simp [own_pick])) hZ (hw _ (List.mem_of_getElem? (i := 12) rfl)) (hw _ (List.mem_of_getElem? (i := 6) rfl)) (by decide) (by decide)) q22a q22c (g := (mkF m 90 #[.val (.int p1), .val (.int p2), .val (.ref w_LESS_OR_EQUAL), .val (.int s1), .val (.ref w_LESS_OR_EQUAL), .val (.int (1 : Int32))] [(.ref w_LESS_OR_EQUAL)])) rfl (by rw [hml]; rfl) (Steps.refl _) (argsL := []) (rest := []) (lenOf pd_rm0_1 rfl) rfl (by show 2 * 0 + _ ≤ _; exact Nat.le_of_eq rfl) (hb hby at_90) (fun _ _ => ⟨rfl, hE21, (by decide : 0 + 0 ≤ _), (by decide : 0 + 0 ≤ _)⟩)
      dsimp only [Pt.U, Pt.locs, Pt.cells, Pt.slots] at X22 l22 y22 z22 st22 hQ22
      subst l22 y22 z22
      obtain ⟨rfl, N22q, hE22⟩ := hQ22
      have N22 := Fr.app N21 N22q
      have pre23 : ∀ tt, Steps p.tables e below (T22.setTop (mkF m 103 #[.val (.int p1), .val (.int p2), .val (.ref w_LESS_OR_EQUAL), .val (.int s1), .val (.ref w_LESS_OR_EQUAL), .val (.int (1 : Int32))] [(.int (1 : Int32))])) tt → Steps p.tables e below (s₁.setTop (entryFrame m #[(.int p1), (.int p2)] maxLocals)) tt := by
        intro tt kt
        refine pre18 tt ?_
        show Steps p.tables e below (T17.setTop (mkF m 33 #[.val (.int p1), .val (.int p2), .val (.ref w_LESS_OR_EQUAL), .val (.int s1), .val (.ref w_LESS_OR_EQUAL), .unset] [(.int s1)])) _
        refine XS.ifYes X17.here hx rfl (pc0 := 33) (pc' := 46) rfl (hb hby at_33) rfl ((if0 _ _).trans (teq c33_19).1) (by decide) (by decide) ?_
        show Steps p.tables e below (T17.setTop (mkF m 46 #[.val (.int p1), .val (.int p2), .val (.ref w_LESS_OR_EQUAL), .val (.int s1), .val (.ref w_LESS_OR_EQUAL), .unset] [])) _
        refine XS.aloadN X17.here hx rfl (hb hby at_46) rfl rfl ?_
        show Steps p.tables e below (T17.setTop (mkF m 47 #[.val (.int p1), .val (.int p2), .val (.ref w_LESS_OR_EQUAL), .val (.int s1), .val (.ref w_LESS_OR_EQUAL), .unset] [(.ref w_LESS_OR_EQUAL)])) _
        refine XS.iconst X17.here hx rfl (hb hby at_47) ?_
        show Steps p.tables e below (T17.setTop (mkF m 48 #[.val (.int p1), .val (.int p2), .val (.ref w_LESS_OR_EQUAL), .val (.int s1), .val (.ref w_LESS_OR_EQUAL), .unset] [(.int (-1 : Int32)), (.ref w_LESS_OR_EQUAL)])) _
        refine st20.trans ?_
        show Steps p.tables e below (T20.setTop (mkF m 51 #[.val (.int p1), .val (.int p2), .val (.ref w_LESS_OR_EQUAL), .val (.int s1), .val (.ref w_LESS_OR_EQUAL), .unset] [(.int (1 : Int32))])) _
        refine XS.ifYes X20.here hx rfl (pc0 := 51) (pc' := 70) rfl (hb hby at_51) rfl ((if0 _ _).trans (feq (by decide : ¬ ((1 : Int32) = (0 : Int32)))).2) (by decide) (by decide) ?_
        show Steps p.tables e below (T20.setTop (mkF m 70 #[.val (.int p1), .val (.int p2), .val (.ref w_LESS_OR_EQUAL), .val (.int s1), .val (.ref w_LESS_OR_EQUAL), .unset] [])) _
        refine XS.iconst X20.here hx rfl (hb hby at_70) ?_
        show Steps p.tables e below (T20.setTop (mkF m 71 #[.val (.int p1), .val (.int p2), .val (.ref w_LESS_OR_EQUAL), .val (.int s1), .val (.ref w_LESS_OR_EQUAL), .unset] [(.int (1 : Int32))])) _
        refine XS.goto X20.here hx rfl (pc0 := 71) (pc' := 75) rfl (hb hby at_71) (by decide) (by decide) ?_
        show Steps p.tables e below (T20.setTop (mkF m 75 #[.val (.int p1), .val (.int p2), .val (.ref w_LESS_OR_EQUAL), .val (.int s1), .val (.ref w_LESS_OR_EQUAL), .unset] [(.int (1 : Int32))])) _
        refine XS.istore X20.here hx rfl (hb hby at_75) rfl (l' := #[.val (.int p1), .val (.int p2), .val (.ref w_LESS_OR_EQUAL), .val (.int s1), .val (.ref w_LESS_OR_EQUAL), .val (.int (1 : Int32))]) rfl ?_
        show Steps p.tables e below (T20.setTop (mkF m 77 #[.val (.int p1), .val (.int p2), .val (.ref w_LESS_OR_EQUAL), .val (.int s1), .val (.ref w_LESS_OR_EQUAL), .val (.int (1 : Int32))] [])) _
        refine XS.aload X20.here hx rfl (hb hby at_77) rfl rfl ?_
        show Steps p.tables e below (T20.setTop (mkF m 79 #[.val (.int p1), .val (.int p2), .val (.ref w_LESS_OR_EQUAL), .val (.int s1), .val (.ref w_LESS_OR_EQUAL), .val (.int (1 : Int32))] [(.ref w_LESS_OR_EQUAL)])) _
        refine XS.iloadN X20.here hx rfl (hb hby at_79) rfl ?_
        show Steps p.tables e below (T20.setTop (mkF m 80 #[.val (.int p1), .val (.int p2), .val (.ref w_LESS_OR_EQUAL), .val (.int s1), .val (.ref w_LESS_OR_EQUAL), .val (.int (1 : Int32))] [(.int s1), (.ref w_LESS_OR_EQUAL)])) _
        refine st21.trans ?_
        show Steps p.tables e below (T21.setTop (mkF m 83 #[.val (.int p1), .val (.int p2), .val (.ref w_LESS_OR_EQUAL), .val (.int s1), .val (.ref w_LESS_OR_EQUAL), .val (.int (1 : Int32))] [(.int (1 : Int32))])) _
        refine XS.iload X21.here hx rfl (hb hby at_83) rfl ?_
        show Steps p.tables e below (T21.setTop (mkF m 85 #[.val (.int p1), .val (.int p2), .val (.ref w_LESS_OR_EQUAL), .val (.int s1), .val (.ref w_LESS_OR_EQUAL), .val (.int (1 : Int32))] [(.int (1 : Int32)), (.int (1 : Int32))])) _
        refine XS.icmpNo X21.here hx rfl (hb hby at_85) rfl (teq (rfl : (1 : Int32) = (1 : Int32))).2 ?_
        show Steps p.tables e below (T21.setTop (mkF m 88 #[.val (.int p1), .val (.int p2), .val (.ref w_LESS_OR_EQUAL), .val (.int s1), .val (.ref w_LESS_OR_EQUAL), .val (.int (1 : Int32))] [])) _
        refine XS.aload X21.here hx rfl (hb hby at_88) rfl rfl ?_
        show Steps p.tables e below (T21.setTop (mkF m 90 #[.val (.int p1), .val (.int p2), .val (.ref w_LESS_OR_EQUAL), .val (.int s1), .val (.ref w_LESS_OR_EQUAL), .val (.int (1 : Int32))] [(.ref w_LESS_OR_EQUAL)])) _
        refine st22.trans ?_
        show Steps p.tables e below (T22.setTop (mkF m 93 #[.val (.int p1), .val (.int p2), .val (.ref w_LESS_OR_EQUAL), .val (.int s1), .val (.ref w_LESS_OR_EQUAL), .val (.int (1 : Int32))] [(.ref w_LESS_OR_EQUAL)])) _
        refine XS.aload X22.here hx rfl (hb hby at_93) rfl rfl ?_
        show Steps p.tables e below (T22.setTop (mkF m 95 #[.val (.int p1), .val (.int p2), .val (.ref w_LESS_OR_EQUAL), .val (.int s1), .val (.ref w_LESS_OR_EQUAL), .val (.int (1 : Int32))] [(.ref w_LESS_OR_EQUAL), (.ref w_LESS_OR_EQUAL)])) _
        refine Jvm.RoadKit.acmp (g := (mkF m 95 #[.val (.int p1), .val (.int p2), .val (.ref w_LESS_OR_EQUAL), .val (.int s1), .val (.ref w_LESS_OR_EQUAL), .val (.int (1 : Int32))] [(.ref w_LESS_OR_EQUAL), (.ref w_LESS_OR_EQUAL)])) X22 hx rfl rfl rfl (pc0 := 95) (pc' := 98) (same := true) rfl (hb hby at_95) rfl (decide_eq_true rfl) (by decide) (by decide) ?_
        show Steps p.tables e below (T22.setTop (mkF m 98 #[.val (.int p1), .val (.int p2), .val (.ref w_LESS_OR_EQUAL), .val (.int s1), .val (.ref w_LESS_OR_EQUAL), .val (.int (1 : Int32))] [])) _
        refine XS.iconst X22.here hx rfl (hb hby at_98) ?_
        show Steps p.tables e below (T22.setTop (mkF m 99 #[.val (.int p1), .val (.int p2), .val (.ref w_LESS_OR_EQUAL), .val (.int s1), .val (.ref w_LESS_OR_EQUAL), .val (.int (1 : Int32))] [(.int (1 : Int32))])) _
        refine XS.goto X22.here hx rfl (pc0 := 99) (pc' := 103) rfl (hb hby at_99) (by decide) (by decide) ?_
        exact kt
      obtain ⟨fs, hr, hrun, hended, hW, hsame⟩ := X22.leave (v := some (.int (1 : Int32))) (fun h => by rw [Bd.returns] at h; cases h)
      refine ⟨_, _, pre23 _ ?_, hrun, hended, _, _, rfl, ?_, ⟨_, rfl⟩, hW, hsame.mono (by decide) (by decide)⟩
      · show Steps p.tables e below (T22.setTop (mkF m 103 #[.val (.int p1), .val (.int p2), .val (.ref w_LESS_OR_EQUAL), .val (.int s1), .val (.ref w_LESS_OR_EQUAL), .val (.int (1 : Int32))] [(.int (1 : Int32))])) _
        exact retN X22 hx (t := .boolean) Bd.returns (by simp) (hb hby at_103) hr
      · show Q0 Z h0 n0 _ T22.heap _
        rw [hE22]
        exact ⟨rfl, N22⟩
    · obtain ⟨cq24, kq24, q24a, q24b, q24c⟩ := isOf hZ hE17 E_LESS_OR_EQUAL
      obtain ⟨_, _, ⟨T24, L24, k24, n24⟩, -, X24, ⟨Lc24, hQ24, l24, y24, z24⟩, st24⟩ := X17.virtualBack hx (y := (⟨"com/example/prudent_stability/prudentstability/Relation", "holdsFor", "(I)Z"⟩ : MethodName)) (z := (⟨"com/example/prudent_stability/prudentstability/Relation", "holdsFor", "(I)Z"⟩ : MethodName)) hown (mvT hZ (hw _ (List.mem_of_getElem? (i := 24) rfl))) (mvT hZ (hw _ (List.mem_of_getElem? (i := 25) rfl))) (notFace_of_selects (args := #[]) (mvT hZ (hw _ (List.mem_of_getElem? (i := 27) rfl)))) (mvT hZ (hw _ (List.mem_of_getElem? (i := 27) rfl))) (mvT hZ (hw _ (List.mem_of_getElem? (i := 26) rfl))) (by decide) (backOf (W := 0) (rmH l Z a0 hw [] w_LESS_OR_EQUAL s1 (1 : Int32) (own_hf (1 : Int32) s1) h0 n0 Z0 F_LESS_OR_EQUAL_ordinal E_LESS_OR_EQUAL (by decide) rfl) hZ (hw _ (List.mem_of_getElem? (i := 28) rfl)) (hw _ (List.mem_of_getElem? (i := 6) rfl)) (by decide) (by decide)) q24a q24c (g := (mkF m 38 #[.val (.int p1), .val (.int p2), .val (.ref w_LESS_OR_EQUAL), .val (.int s1), .val (.ref w_LESS_OR_EQUAL), .unset] [(.int s1), (.ref w_LESS_OR_EQUAL)])) rfl (by rw [hml]; rfl) (Steps.refl _) (argsL := [(.int s1)]) (rest := []) (lenOf pd_rm0_2 rfl) rfl (by show 2 * 0 + _ ≤ _; exact Nat.le_of_eq rfl) (hb hby at_38) (fun _ _ => ⟨rfl, hE17, (by decide : 0 + 0 ≤ _), (by decide : 0 + 0 ≤ _)⟩)
      dsimp only [Pt.U, Pt.locs, Pt.cells, Pt.slots] at X24 l24 y24 z24 st24 hQ24
      subst l24 y24 z24
      obtain ⟨rfl, N24q, hE24⟩ := hQ24
      have N24 := Fr.app N17 N24q
      obtain ⟨cq25, kq25, q25a, q25b, q25c⟩ := isOf hZ hE24 E_LESS_OR_EQUAL
      obtain ⟨_, _, ⟨T25, L25, k25, n25⟩, -, X25, ⟨Lc25, hQ25, l25, y25, z25⟩, st25⟩ := X24.virtualBack hx (y := (⟨"com/example/prudent_stability/prudentstability/Relation", "holdsFor", "(I)Z"⟩ : MethodName)) (z := (⟨"com/example/prudent_stability/prudentstability/Relation", "holdsFor", "(I)Z"⟩ : MethodName)) hown (mvT hZ (hw _ (List.mem_of_getElem? (i := 24) rfl))) (mvT hZ (hw _ (List.mem_of_getElem? (i := 25) rfl))) (notFace_of_selects (args := #[]) (mvT hZ (hw _ (List.mem_of_getElem? (i := 27) rfl)))) (mvT hZ (hw _ (List.mem_of_getElem? (i := 27) rfl))) (mvT hZ (hw _ (List.mem_of_getElem? (i := 26) rfl))) (by decide) (backOf (W := 0) (rmH l Z a0 hw [] w_LESS_OR_EQUAL s1 (1 : Int32) (own_hf (1 : Int32) s1) h0 n0 Z0 F_LESS_OR_EQUAL_ordinal E_LESS_OR_EQUAL (by decide) rfl) hZ (hw _ (List.mem_of_getElem? (i := 28) rfl)) (hw _ (List.mem_of_getElem? (i := 6) rfl)) (by decide) (by decide)) q25a q25c (g := (mkF m 80 #[.val (.int p1), .val (.int p2), .val (.ref w_LESS_OR_EQUAL), .val (.int s1), .val (.ref w_LESS_OR_EQUAL), .val (.int (own_hf (1 : Int32) s1))] [(.int s1), (.ref w_LESS_OR_EQUAL)])) rfl (by rw [hml]; rfl) (Steps.refl _) (argsL := [(.int s1)]) (rest := []) (lenOf pd_rm0_2 rfl) rfl (by show 2 * 0 + _ ≤ _; exact Nat.le_of_eq rfl) (hb hby at_80) (fun _ _ => ⟨rfl, hE24, (by decide : 0 + 0 ≤ _), (by decide : 0 + 0 ≤ _)⟩)
      dsimp only [Pt.U, Pt.locs, Pt.cells, Pt.slots] at X25 l25 y25 z25 st25 hQ25
      subst l25 y25 z25
      obtain ⟨rfl, N25q, hE25⟩ := hQ25
      have N25 := Fr.app N24 N25q
      obtain ⟨cq26, kq26, q26a, q26b, q26c⟩ := isOf hZ hE25 E_LESS_OR_EQUAL
      obtain ⟨_, _, ⟨T26, L26, k26, n26⟩, -, X26, ⟨Lc26, hQ26, l26, y26, z26⟩, st26⟩ := X25.virtualBack hx (y := (⟨"com/example/prudent_stability/prudentstability/Relation", "relaxed", "()Lcom/example/prudent_stability/prudentstability/Relation;"⟩ : MethodName)) (z := (⟨"com/example/prudent_stability/prudentstability/Relation", "relaxed", "()Lcom/example/prudent_stability/prudentstability/Relation;"⟩ : MethodName)) hown (mvT hZ (hw _ (List.mem_of_getElem? (i := 8) rfl))) (mvT hZ (hw _ (List.mem_of_getElem? (i := 9) rfl))) (notFace_of_selects (args := #[]) (mvT hZ (hw _ (List.mem_of_getElem? (i := 11) rfl)))) (mvT hZ (hw _ (List.mem_of_getElem? (i := 11) rfl))) (mvT hZ (hw _ (List.mem_of_getElem? (i := 10) rfl))) (by decide) (backOf (W := 0) (rmM l Z a0 hw [] w_LESS_OR_EQUAL (1 : Int32) w_LESS_OR_EQUAL w_GREATER_OR_EQUAL w_LESS_OR_EQUAL h0 n0 Z0 S_LESS_OR_EQUAL S_GREATER_OR_EQUAL F_LESS_OR_EQUAL_ordinal E_LESS_OR_EQUAL (by decide) (by simp [own_pick])) hZ (hw _ (List.mem_of_getElem? (i := 12) rfl)) (hw _ (List.mem_of_getElem? (i := 6) rfl)) (by decide) (by decide)) q26a q26c (g := (mkF m 90 #[.val (.int p1), .val (.int p2), .val (.ref w_LESS_OR_EQUAL), .val (.int s1), .val (.ref w_LESS_OR_EQUAL), .val (.int (own_hf (1 : Int32) s1))] [(.ref w_LESS_OR_EQUAL)])) rfl (by rw [hml]; rfl) (Steps.refl _) (argsL := []) (rest := []) (lenOf pd_rm0_1 rfl) rfl (by show 2 * 0 + _ ≤ _; exact Nat.le_of_eq rfl) (hb hby at_90) (fun _ _ => ⟨rfl, hE25, (by decide : 0 + 0 ≤ _), (by decide : 0 + 0 ≤ _)⟩)
      dsimp only [Pt.U, Pt.locs, Pt.cells, Pt.slots] at X26 l26 y26 z26 st26 hQ26
      subst l26 y26 z26
      obtain ⟨rfl, N26q, hE26⟩ := hQ26
      have N26 := Fr.app N25 N26q
      have pre27 : ∀ tt, Steps p.tables e below (T26.setTop (mkF m 103 #[.val (.int p1), .val (.int p2), .val (.ref w_LESS_OR_EQUAL), .val (.int s1), .val (.ref w_LESS_OR_EQUAL), .val (.int (own_hf (1 : Int32) s1))] [(.int (1 : Int32))])) tt → Steps p.tables e below (s₁.setTop (entryFrame m #[(.int p1), (.int p2)] maxLocals)) tt := by
        intro tt kt
        refine pre18 tt ?_
        show Steps p.tables e below (T17.setTop (mkF m 33 #[.val (.int p1), .val (.int p2), .val (.ref w_LESS_OR_EQUAL), .val (.int s1), .val (.ref w_LESS_OR_EQUAL), .unset] [(.int s1)])) _
        refine XS.ifNo X17.here hx rfl (hb hby at_33) rfl ((if0 _ _).trans (feq c33_19).1) ?_
        show Steps p.tables e below (T17.setTop (mkF m 36 #[.val (.int p1), .val (.int p2), .val (.ref w_LESS_OR_EQUAL), .val (.int s1), .val (.ref w_LESS_OR_EQUAL), .unset] [])) _
        refine XS.aloadN X17.here hx rfl (hb hby at_36) rfl rfl ?_
        show Steps p.tables e below (T17.setTop (mkF m 37 #[.val (.int p1), .val (.int p2), .val (.ref w_LESS_OR_EQUAL), .val (.int s1), .val (.ref w_LESS_OR_EQUAL), .unset] [(.ref w_LESS_OR_EQUAL)])) _
        refine XS.iloadN X17.here hx rfl (hb hby at_37) rfl ?_
        show Steps p.tables e below (T17.setTop (mkF m 38 #[.val (.int p1), .val (.int p2), .val (.ref w_LESS_OR_EQUAL), .val (.int s1), .val (.ref w_LESS_OR_EQUAL), .unset] [(.int s1), (.ref w_LESS_OR_EQUAL)])) _
        refine st24.trans ?_
        show Steps p.tables e below (T24.setTop (mkF m 41 #[.val (.int p1), .val (.int p2), .val (.ref w_LESS_OR_EQUAL), .val (.int s1), .val (.ref w_LESS_OR_EQUAL), .unset] [(.int (own_hf (1 : Int32) s1))])) _
        refine XS.istore X24.here hx rfl (hb hby at_41) rfl (l' := #[.val (.int p1), .val (.int p2), .val (.ref w_LESS_OR_EQUAL), .val (.int s1), .val (.ref w_LESS_OR_EQUAL), .val (.int (own_hf (1 : Int32) s1))]) rfl ?_
        show Steps p.tables e below (T24.setTop (mkF m 43 #[.val (.int p1), .val (.int p2), .val (.ref w_LESS_OR_EQUAL), .val (.int s1), .val (.ref w_LESS_OR_EQUAL), .val (.int (own_hf (1 : Int32) s1))] [])) _
        refine XS.goto X24.here hx rfl (pc0 := 43) (pc' := 77) rfl (hb hby at_43) (by decide) (by decide) ?_
        show Steps p.tables e below (T24.setTop (mkF m 77 #[.val (.int p1), .val (.int p2), .val (.ref w_LESS_OR_EQUAL), .val (.int s1), .val (.ref w_LESS_OR_EQUAL), .val (.int (own_hf (1 : Int32) s1))] [])) _
        refine XS.aload X24.here hx rfl (hb hby at_77) rfl rfl ?_
        show Steps p.tables e below (T24.setTop (mkF m 79 #[.val (.int p1), .val (.int p2), .val (.ref w_LESS_OR_EQUAL), .val (.int s1), .val (.ref w_LESS_OR_EQUAL), .val (.int (own_hf (1 : Int32) s1))] [(.ref w_LESS_OR_EQUAL)])) _
        refine XS.iloadN X24.here hx rfl (hb hby at_79) rfl ?_
        show Steps p.tables e below (T24.setTop (mkF m 80 #[.val (.int p1), .val (.int p2), .val (.ref w_LESS_OR_EQUAL), .val (.int s1), .val (.ref w_LESS_OR_EQUAL), .val (.int (own_hf (1 : Int32) s1))] [(.int s1), (.ref w_LESS_OR_EQUAL)])) _
        refine st25.trans ?_
        show Steps p.tables e below (T25.setTop (mkF m 83 #[.val (.int p1), .val (.int p2), .val (.ref w_LESS_OR_EQUAL), .val (.int s1), .val (.ref w_LESS_OR_EQUAL), .val (.int (own_hf (1 : Int32) s1))] [(.int (own_hf (1 : Int32) s1))])) _
        refine XS.iload X25.here hx rfl (hb hby at_83) rfl ?_
        show Steps p.tables e below (T25.setTop (mkF m 85 #[.val (.int p1), .val (.int p2), .val (.ref w_LESS_OR_EQUAL), .val (.int s1), .val (.ref w_LESS_OR_EQUAL), .val (.int (own_hf (1 : Int32) s1))] [(.int (own_hf (1 : Int32) s1)), (.int (own_hf (1 : Int32) s1))])) _
        refine XS.icmpNo X25.here hx rfl (hb hby at_85) rfl (teq (own_hfr (1 : Int32) (1 : Int32) s1 (by decide) rs c33_19)).2 ?_
        show Steps p.tables e below (T25.setTop (mkF m 88 #[.val (.int p1), .val (.int p2), .val (.ref w_LESS_OR_EQUAL), .val (.int s1), .val (.ref w_LESS_OR_EQUAL), .val (.int (own_hf (1 : Int32) s1))] [])) _
        refine XS.aload X25.here hx rfl (hb hby at_88) rfl rfl ?_
        show Steps p.tables e below (T25.setTop (mkF m 90 #[.val (.int p1), .val (.int p2), .val (.ref w_LESS_OR_EQUAL), .val (.int s1), .val (.ref w_LESS_OR_EQUAL), .val (.int (own_hf (1 : Int32) s1))] [(.ref w_LESS_OR_EQUAL)])) _
        refine st26.trans ?_
        show Steps p.tables e below (T26.setTop (mkF m 93 #[.val (.int p1), .val (.int p2), .val (.ref w_LESS_OR_EQUAL), .val (.int s1), .val (.ref w_LESS_OR_EQUAL), .val (.int (own_hf (1 : Int32) s1))] [(.ref w_LESS_OR_EQUAL)])) _
        refine XS.aload X26.here hx rfl (hb hby at_93) rfl rfl ?_
        show Steps p.tables e below (T26.setTop (mkF m 95 #[.val (.int p1), .val (.int p2), .val (.ref w_LESS_OR_EQUAL), .val (.int s1), .val (.ref w_LESS_OR_EQUAL), .val (.int (own_hf (1 : Int32) s1))] [(.ref w_LESS_OR_EQUAL), (.ref w_LESS_OR_EQUAL)])) _
        refine Jvm.RoadKit.acmp (g := (mkF m 95 #[.val (.int p1), .val (.int p2), .val (.ref w_LESS_OR_EQUAL), .val (.int s1), .val (.ref w_LESS_OR_EQUAL), .val (.int (own_hf (1 : Int32) s1))] [(.ref w_LESS_OR_EQUAL), (.ref w_LESS_OR_EQUAL)])) X26 hx rfl rfl rfl (pc0 := 95) (pc' := 98) (same := true) rfl (hb hby at_95) rfl (decide_eq_true rfl) (by decide) (by decide) ?_
        show Steps p.tables e below (T26.setTop (mkF m 98 #[.val (.int p1), .val (.int p2), .val (.ref w_LESS_OR_EQUAL), .val (.int s1), .val (.ref w_LESS_OR_EQUAL), .val (.int (own_hf (1 : Int32) s1))] [])) _
        refine XS.iconst X26.here hx rfl (hb hby at_98) ?_
        show Steps p.tables e below (T26.setTop (mkF m 99 #[.val (.int p1), .val (.int p2), .val (.ref w_LESS_OR_EQUAL), .val (.int s1), .val (.ref w_LESS_OR_EQUAL), .val (.int (own_hf (1 : Int32) s1))] [(.int (1 : Int32))])) _
        refine XS.goto X26.here hx rfl (pc0 := 99) (pc' := 103) rfl (hb hby at_99) (by decide) (by decide) ?_
        exact kt
      obtain ⟨fs, hr, hrun, hended, hW, hsame⟩ := X26.leave (v := some (.int (1 : Int32))) (fun h => by rw [Bd.returns] at h; cases h)
      refine ⟨_, _, pre27 _ ?_, hrun, hended, _, _, rfl, ?_, ⟨_, rfl⟩, hW, hsame.mono (by decide) (by decide)⟩
      · show Steps p.tables e below (T26.setTop (mkF m 103 #[.val (.int p1), .val (.int p2), .val (.ref w_LESS_OR_EQUAL), .val (.int s1), .val (.ref w_LESS_OR_EQUAL), .val (.int (own_hf (1 : Int32) s1))] [(.int (1 : Int32))])) _
        exact retN X26 hx (t := .boolean) Bd.returns (by simp) (hb hby at_103) hr
      · show Q0 Z h0 n0 _ T26.heap _
        rw [hE26]
        exact ⟨rfl, N26⟩
  · obtain ⟨_, _, ⟨T28, L28, k28, n28⟩, -, X28, ⟨Lc28, hQ28, l28, y28, z28⟩, st28⟩ := Jvm.LawKit.callS X0 hx (y := (⟨"com/example/prudent_stability/prudentstability/RelationRelaxedPinLaw", "pick", "(I)Lcom/example/prudent_stability/prudentstability/Relation;"⟩ : MethodName)) hown (mvT hZ (hw _ (List.mem_of_getElem? (i := 1) rfl))) (mvT hZ (hw _ (List.mem_of_getElem? (i := 2) rfl))) (mvT hZ (hw _ (List.mem_of_getElem? (i := 3) rfl))) (mvT hZ (hw _ (List.mem_of_getElem? (i := 4) rfl))) (by decide) (backOf (W := 0) (rmP l Z a0 hw [] (2 : Int32) w_LESS w_LESS_OR_EQUAL w_EQUAL w_GREATER_OR_EQUAL w_GREATER w_EQUAL h0 n0 Z0 S_LESS S_LESS_OR_EQUAL S_EQUAL S_GREATER_OR_EQUAL S_GREATER (by simp [own_pick])) hZ (hw _ (List.mem_of_getElem? (i := 4) rfl)) (hw _ (List.mem_of_getElem? (i := 3) rfl)) (by decide) (by decide)) (g := (mkF m 6 #[.val (.int p1), .val (.int p2), .unset, .unset, .unset, .unset] [(.int (2 : Int32))])) rfl (by rw [hml]; rfl) (argsL := [(.int (2 : Int32))]) (rest := []) (lenOf pd_rm0_0 rfl) rfl (by show 2 * 0 + _ ≤ _; exact Nat.le_of_eq rfl) (hb hby at_6) (fun _ _ => ⟨rfl, e0, (by decide : 0 + 0 ≤ _), (by decide : 0 + 0 ≤ _)⟩)
    dsimp only [Pt.U, Pt.locs, Pt.cells, Pt.slots] at X28 l28 y28 z28 st28 hQ28
    subst l28 y28 z28
    obtain ⟨rfl, N28q, hE28⟩ := hQ28
    have N28 := Fr.app N0 N28q
    have rt := own_of3 (own_rem p2 (3 : Int32) (by decide))
    obtain ⟨s1, hs1⟩ : ∃ z : Int32, z = (((p2 &&& (2147483647 : Int32)) % (3 : Int32)) - (1 : Int32)) := ⟨_, rfl⟩
    have pre29 : ∀ tt, Steps p.tables e below (T28.setTop (mkF m 18 #[.val (.int p1), .val (.int p2), .val (.ref w_EQUAL), .unset, .unset, .unset] [(.int s1)])) tt → Steps p.tables e below (s₁.setTop (entryFrame m #[(.int p1), (.int p2)] maxLocals)) tt := by
      intro tt kt
      refine pre1 tt ?_
      show Steps p.tables e below (s₁.setTop (mkF m 6 #[.val (.int p1), .val (.int p2), .unset, .unset, .unset, .unset] [(.int (2 : Int32))])) _
      refine st28 _ ?_
      show Steps p.tables e below (T28.setTop (mkF m 9 #[.val (.int p1), .val (.int p2), .unset, .unset, .unset, .unset] [(.ref w_EQUAL)])) _
      refine XS.astoreN X28.here hx rfl (hb hby at_9) rfl rfl (l' := #[.val (.int p1), .val (.int p2), .val (.ref w_EQUAL), .unset, .unset, .unset]) rfl ?_
      show Steps p.tables e below (T28.setTop (mkF m 10 #[.val (.int p1), .val (.int p2), .val (.ref w_EQUAL), .unset, .unset, .unset] [])) _
      refine XS.iloadN X28.here hx rfl (hb hby at_10) rfl ?_
      show Steps p.tables e below (T28.setTop (mkF m 11 #[.val (.int p1), .val (.int p2), .val (.ref w_EQUAL), .unset, .unset, .unset] [(.int p2)])) _
      refine X28.ldcInt hx hown (mvT hZ (hw _ (List.mem_of_getElem? (i := 0) rfl))) (g := (mkF m 11 #[.val (.int p1), .val (.int p2), .val (.ref w_EQUAL), .unset, .unset, .unset] [(.int p2)])) rfl (hb hby at_11) _ ?_
      show Steps p.tables e below (T28.setTop (mkF m 13 #[.val (.int p1), .val (.int p2), .val (.ref w_EQUAL), .unset, .unset, .unset] [(.int (2147483647 : Int32)), (.int p2)])) _
      refine XS.iand X28.here hx rfl (hb hby at_13) rfl ?_
      show Steps p.tables e below (T28.setTop (mkF m 14 #[.val (.int p1), .val (.int p2), .val (.ref w_EQUAL), .unset, .unset, .unset] [(.int (p2 &&& (2147483647 : Int32)))])) _
      refine XS.iconst X28.here hx rfl (hb hby at_14) ?_
      show Steps p.tables e below (T28.setTop (mkF m 15 #[.val (.int p1), .val (.int p2), .val (.ref w_EQUAL), .unset, .unset, .unset] [(.int (3 : Int32)), (.int (p2 &&& (2147483647 : Int32)))])) _
      refine iremM (g := (mkF m 15 #[.val (.int p1), .val (.int p2), .val (.ref w_EQUAL), .unset, .unset, .unset] [(.int (3 : Int32)), (.int (p2 &&& (2147483647 : Int32)))])) X28 hx rfl (hb hby at_15) rfl (by decide : ¬ ((3 : Int32) = (0 : Int32))) ?_
      show Steps p.tables e below (T28.setTop (mkF m 16 #[.val (.int p1), .val (.int p2), .val (.ref w_EQUAL), .unset, .unset, .unset] [(.int ((p2 &&& (2147483647 : Int32)) % (3 : Int32)))])) _
      refine XS.iconst X28.here hx rfl (hb hby at_16) ?_
      show Steps p.tables e below (T28.setTop (mkF m 17 #[.val (.int p1), .val (.int p2), .val (.ref w_EQUAL), .unset, .unset, .unset] [(.int (1 : Int32)), (.int ((p2 &&& (2147483647 : Int32)) % (3 : Int32)))])) _
      refine XS.isub X28.here hx rfl (hb hby at_17) rfl ?_
      show Steps p.tables e below (T28.setTop (mkF m 18 #[.val (.int p1), .val (.int p2), .val (.ref w_EQUAL), .unset, .unset, .unset] [(.int (((p2 &&& (2147483647 : Int32)) % (3 : Int32)) - (1 : Int32)))])) _
      rw [← hs1]
      exact kt
    have rs : s1 = -1 ∨ s1 = 0 ∨ s1 = 1 := by
      rw [hs1]; rcases rt with q | q | q <;> rw [q] <;> decide
    clear hs1 rt
    obtain ⟨cq30, kq30, q30a, q30b, q30c⟩ := isOf hZ hE28 E_EQUAL
    obtain ⟨_, _, ⟨T30, L30, k30, n30⟩, -, X30, ⟨Lc30, hQ30, l30, y30, z30⟩, st30⟩ := X28.virtualBack hx (y := (⟨"com/example/prudent_stability/prudentstability/Relation", "relaxed", "()Lcom/example/prudent_stability/prudentstability/Relation;"⟩ : MethodName)) (z := (⟨"com/example/prudent_stability/prudentstability/Relation", "relaxed", "()Lcom/example/prudent_stability/prudentstability/Relation;"⟩ : MethodName)) hown (mvT hZ (hw _ (List.mem_of_getElem? (i := 8) rfl))) (mvT hZ (hw _ (List.mem_of_getElem? (i := 9) rfl))) (notFace_of_selects (args := #[]) (mvT hZ (hw _ (List.mem_of_getElem? (i := 11) rfl)))) (mvT hZ (hw _ (List.mem_of_getElem? (i := 11) rfl))) (mvT hZ (hw _ (List.mem_of_getElem? (i := 10) rfl))) (by decide) (backOf (W := 0) (rmM l Z a0 hw [] w_EQUAL (2 : Int32) w_LESS_OR_EQUAL w_GREATER_OR_EQUAL w_EQUAL h0 n0 Z0 S_LESS_OR_EQUAL S_GREATER_OR_EQUAL F_EQUAL_ordinal E_EQUAL (by decide) (by simp [own_pick])) hZ (hw _ (List.mem_of_getElem? (i := 12) rfl)) (hw _ (List.mem_of_getElem? (i := 6) rfl)) (by decide) (by decide)) q30a q30c (g := (mkF m 20 #[.val (.int p1), .val (.int p2), .val (.ref w_EQUAL), .val (.int s1), .unset, .unset] [(.ref w_EQUAL)])) rfl (by rw [hml]; rfl) (Steps.refl _) (argsL := []) (rest := []) (lenOf pd_rm0_1 rfl) rfl (by show 2 * 0 + _ ≤ _; exact Nat.le_of_eq rfl) (hb hby at_20) (fun _ _ => ⟨rfl, hE28, (by decide : 0 + 0 ≤ _), (by decide : 0 + 0 ≤ _)⟩)
    dsimp only [Pt.U, Pt.locs, Pt.cells, Pt.slots] at X30 l30 y30 z30 st30 hQ30
    subst l30 y30 z30
    obtain ⟨rfl, N30q, hE30⟩ := hQ30
    have N30 := Fr.app N28 N30q
    have pre31 : ∀ tt, Steps p.tables e below (T30.setTop (mkF m 33 #[.val (.int p1), .val (.int p2), .val (.ref w_EQUAL), .val (.int s1), .val (.ref w_EQUAL), .unset] [(.int s1)])) tt → Steps p.tables e below (s₁.setTop (entryFrame m #[(.int p1), (.int p2)] maxLocals)) tt := by
      intro tt kt
      refine pre29 tt ?_
      show Steps p.tables e below (T28.setTop (mkF m 18 #[.val (.int p1), .val (.int p2), .val (.ref w_EQUAL), .unset, .unset, .unset] [(.int s1)])) _
      refine XS.istoreN X28.here hx rfl (hb hby at_18) rfl (l' := #[.val (.int p1), .val (.int p2), .val (.ref w_EQUAL), .val (.int s1), .unset, .unset]) rfl ?_
      show Steps p.tables e below (T28.setTop (mkF m 19 #[.val (.int p1), .val (.int p2), .val (.ref w_EQUAL), .val (.int s1), .unset, .unset] [])) _
      refine XS.aloadN X28.here hx rfl (hb hby at_19) rfl rfl ?_
      show Steps p.tables e below (T28.setTop (mkF m 20 #[.val (.int p1), .val (.int p2), .val (.ref w_EQUAL), .val (.int s1), .unset, .unset] [(.ref w_EQUAL)])) _
      refine st30.trans ?_
      show Steps p.tables e below (T30.setTop (mkF m 23 #[.val (.int p1), .val (.int p2), .val (.ref w_EQUAL), .val (.int s1), .unset, .unset] [(.ref w_EQUAL)])) _
      refine XS.astore X30.here hx rfl (hb hby at_23) rfl rfl (l' := #[.val (.int p1), .val (.int p2), .val (.ref w_EQUAL), .val (.int s1), .val (.ref w_EQUAL), .unset]) rfl ?_
      show Steps p.tables e below (T30.setTop (mkF m 25 #[.val (.int p1), .val (.int p2), .val (.ref w_EQUAL), .val (.int s1), .val (.ref w_EQUAL), .unset] [])) _
      refine XS.aload X30.here hx rfl (hb hby at_25) rfl rfl ?_
      show Steps p.tables e below (T30.setTop (mkF m 27 #[.val (.int p1), .val (.int p2), .val (.ref w_EQUAL), .val (.int s1), .val (.ref w_EQUAL), .unset] [(.ref w_EQUAL)])) _
      refine XS.ifnonnullYes X30.here hx rfl (pc0 := 27) (pc' := 32) rfl (hb hby at_27) rfl (by decide) (by decide) ?_
      show Steps p.tables e below (T30.setTop (mkF m 32 #[.val (.int p1), .val (.int p2), .val (.ref w_EQUAL), .val (.int s1), .val (.ref w_EQUAL), .unset] [])) _
      refine XS.iloadN X30.here hx rfl (hb hby at_32) rfl ?_
      exact kt
    by_cases c33_32 : s1 = (0 : Int32)
    · obtain ⟨cq33, kq33, q33a, q33b, q33c⟩ := isOf hZ hE30 E_EQUAL
      obtain ⟨_, _, ⟨T33, L33, k33, n33⟩, -, X33, ⟨Lc33, hQ33, l33, y33, z33⟩, st33⟩ := X30.virtualBack hx (y := (⟨"com/example/prudent_stability/prudentstability/Relation", "holdsFor", "(I)Z"⟩ : MethodName)) (z := (⟨"com/example/prudent_stability/prudentstability/Relation", "holdsFor", "(I)Z"⟩ : MethodName)) hown (mvT hZ (hw _ (List.mem_of_getElem? (i := 24) rfl))) (mvT hZ (hw _ (List.mem_of_getElem? (i := 25) rfl))) (notFace_of_selects (args := #[]) (mvT hZ (hw _ (List.mem_of_getElem? (i := 27) rfl)))) (mvT hZ (hw _ (List.mem_of_getElem? (i := 27) rfl))) (mvT hZ (hw _ (List.mem_of_getElem? (i := 26) rfl))) (by decide) (backOf (W := 0) (rmH l Z a0 hw [] w_EQUAL (-1 : Int32) (2 : Int32) (0 : Int32) h0 n0 Z0 F_EQUAL_ordinal E_EQUAL (by decide) (by decide)) hZ (hw _ (List.mem_of_getElem? (i := 28) rfl)) (hw _ (List.mem_of_getElem? (i := 6) rfl)) (by decide) (by decide)) q33a q33c (g := (mkF m 48 #[.val (.int p1), .val (.int p2), .val (.ref w_EQUAL), .val (.int s1), .val (.ref w_EQUAL), .unset] [(.int (-1 : Int32)), (.ref w_EQUAL)])) rfl (by rw [hml]; rfl) (Steps.refl _) (argsL := [(.int (-1 : Int32))]) (rest := []) (lenOf pd_rm0_2 rfl) rfl (by show 2 * 0 + _ ≤ _; exact Nat.le_of_eq rfl) (hb hby at_48) (fun _ _ => ⟨rfl, hE30, (by decide : 0 + 0 ≤ _), (by decide : 0 + 0 ≤ _)⟩)
      dsimp only [Pt.U, Pt.locs, Pt.cells, Pt.slots] at X33 l33 y33 z33 st33 hQ33
      subst l33 y33 z33
      obtain ⟨rfl, N33q, hE33⟩ := hQ33
      have N33 := Fr.app N30 N33q
      obtain ⟨cq34, kq34, q34a, q34b, q34c⟩ := isOf hZ hE33 E_EQUAL
      obtain ⟨_, _, ⟨T34, L34, k34, n34⟩, -, X34, ⟨Lc34, hQ34, l34, y34, z34⟩, st34⟩ := X33.virtualBack hx (y := (⟨"com/example/prudent_stability/prudentstability/Relation", "holdsFor", "(I)Z"⟩ : MethodName)) (z := (⟨"com/example/prudent_stability/prudentstability/Relation", "holdsFor", "(I)Z"⟩ : MethodName)) hown (mvT hZ (hw _ (List.mem_of_getElem? (i := 24) rfl))) (mvT hZ (hw _ (List.mem_of_getElem? (i := 25) rfl))) (notFace_of_selects (args := #[]) (mvT hZ (hw _ (List.mem_of_getElem? (i := 27) rfl)))) (mvT hZ (hw _ (List.mem_of_getElem? (i := 27) rfl))) (mvT hZ (hw _ (List.mem_of_getElem? (i := 26) rfl))) (by decide) (backOf (W := 0) (rmH l Z a0 hw [] w_EQUAL (0 : Int32) (2 : Int32) (1 : Int32) h0 n0 Z0 F_EQUAL_ordinal E_EQUAL (by decide) (by decide)) hZ (hw _ (List.mem_of_getElem? (i := 28) rfl)) (hw _ (List.mem_of_getElem? (i := 6) rfl)) (by decide) (by decide)) q34a q34c (g := (mkF m 56 #[.val (.int p1), .val (.int p2), .val (.ref w_EQUAL), .val (.int s1), .val (.ref w_EQUAL), .unset] [(.int (0 : Int32)), (.ref w_EQUAL)])) rfl (by rw [hml]; rfl) (Steps.refl _) (argsL := [(.int (0 : Int32))]) (rest := []) (lenOf pd_rm0_2 rfl) rfl (by show 2 * 0 + _ ≤ _; exact Nat.le_of_eq rfl) (hb hby at_56) (fun _ _ => ⟨rfl, hE33, (by decide : 0 + 0 ≤ _), (by decide : 0 + 0 ≤ _)⟩)
      dsimp only [Pt.U, Pt.locs, Pt.cells, Pt.slots] at X34 l34 y34 z34 st34 hQ34
      subst l34 y34 z34
      obtain ⟨rfl, N34q, hE34⟩ := hQ34
      have N34 := Fr.app N33 N34q
      obtain ⟨cq35, kq35, q35a, q35b, q35c⟩ := isOf hZ hE34 E_EQUAL
      obtain ⟨_, _, ⟨T35, L35, k35, n35⟩, -, X35, ⟨Lc35, hQ35, l35, y35, z35⟩, st35⟩ := X34.virtualBack hx (y := (⟨"com/example/prudent_stability/prudentstability/Relation", "holdsFor", "(I)Z"⟩ : MethodName)) (z := (⟨"com/example/prudent_stability/prudentstability/Relation", "holdsFor", "(I)Z"⟩ : MethodName)) hown (mvT hZ (hw _ (List.mem_of_getElem? (i := 24) rfl))) (mvT hZ (hw _ (List.mem_of_getElem? (i := 25) rfl))) (notFace_of_selects (args := #[]) (mvT hZ (hw _ (List.mem_of_getElem? (i := 27) rfl)))) (mvT hZ (hw _ (List.mem_of_getElem? (i := 27) rfl))) (mvT hZ (hw _ (List.mem_of_getElem? (i := 26) rfl))) (by decide) (backOf (W := 0) (rmH l Z a0 hw [] w_EQUAL s1 (2 : Int32) (1 : Int32) h0 n0 Z0 F_EQUAL_ordinal E_EQUAL (by decide) (by rw [c33_32]; decide)) hZ (hw _ (List.mem_of_getElem? (i := 28) rfl)) (hw _ (List.mem_of_getElem? (i := 6) rfl)) (by decide) (by decide)) q35a q35c (g := (mkF m 80 #[.val (.int p1), .val (.int p2), .val (.ref w_EQUAL), .val (.int s1), .val (.ref w_EQUAL), .val (.int (1 : Int32))] [(.int s1), (.ref w_EQUAL)])) rfl (by rw [hml]; rfl) (Steps.refl _) (argsL := [(.int s1)]) (rest := []) (lenOf pd_rm0_2 rfl) rfl (by show 2 * 0 + _ ≤ _; exact Nat.le_of_eq rfl) (hb hby at_80) (fun _ _ => ⟨rfl, hE34, (by decide : 0 + 0 ≤ _), (by decide : 0 + 0 ≤ _)⟩)
      dsimp only [Pt.U, Pt.locs, Pt.cells, Pt.slots] at X35 l35 y35 z35 st35 hQ35
      subst l35 y35 z35
      obtain ⟨rfl, N35q, hE35⟩ := hQ35
      have N35 := Fr.app N34 N35q
      obtain ⟨cq36, kq36, q36a, q36b, q36c⟩ := isOf hZ hE35 E_EQUAL
      obtain ⟨_, _, ⟨T36, L36, k36, n36⟩, -, X36, ⟨Lc36, hQ36, l36, y36, z36⟩, st36⟩ := X35.virtualBack hx (y := (⟨"com/example/prudent_stability/prudentstability/Relation", "relaxed", "()Lcom/example/prudent_stability/prudentstability/Relation;"⟩ : MethodName)) (z := (⟨"com/example/prudent_stability/prudentstability/Relation", "relaxed", "()Lcom/example/prudent_stability/prudentstability/Relation;"⟩ : MethodName)) hown (mvT hZ (hw _ (List.mem_of_getElem? (i := 8) rfl))) (mvT hZ (hw _ (List.mem_of_getElem? (i := 9) rfl))) (notFace_of_selects (args := #[]) (mvT hZ (hw _ (List.mem_of_getElem? (i := 11) rfl)))) (mvT hZ (hw _ (List.mem_of_getElem? (i := 11) rfl))) (mvT hZ (hw _ (List.mem_of_getElem? (i := 10) rfl))) (by decide) (backOf (W := 0) (rmM l Z a0 hw [] w_EQUAL (2 : Int32) w_LESS_OR_EQUAL w_GREATER_OR_EQUAL w_EQUAL h0 n0 Z0 S_LESS_OR_EQUAL S_GREATER_OR_EQUAL F_EQUAL_ordinal E_EQUAL (by decide) (by simp [own_pick])) hZ (hw _ (List.mem_of_getElem? (i := 12) rfl)) (hw _ (List.mem_of_getElem? (i := 6) rfl)) (by decide) (by decide)) q36a q36c (g := (mkF m 90 #[.val (.int p1), .val (.int p2), .val (.ref w_EQUAL), .val (.int s1), .val (.ref w_EQUAL), .val (.int (1 : Int32))] [(.ref w_EQUAL)])) rfl (by rw [hml]; rfl) (Steps.refl _) (argsL := []) (rest := []) (lenOf pd_rm0_1 rfl) rfl (by show 2 * 0 + _ ≤ _; exact Nat.le_of_eq rfl) (hb hby at_90) (fun _ _ => ⟨rfl, hE35, (by decide : 0 + 0 ≤ _), (by decide : 0 + 0 ≤ _)⟩)
      dsimp only [Pt.U, Pt.locs, Pt.cells, Pt.slots] at X36 l36 y36 z36 st36 hQ36
      subst l36 y36 z36
      obtain ⟨rfl, N36q, hE36⟩ := hQ36
      have N36 := Fr.app N35 N36q
      have pre37 : ∀ tt, Steps p.tables e below (T36.setTop (mkF m 103 #[.val (.int p1), .val (.int p2), .val (.ref w_EQUAL), .val (.int s1), .val (.ref w_EQUAL), .val (.int (1 : Int32))] [(.int (1 : Int32))])) tt → Steps p.tables e below (s₁.setTop (entryFrame m #[(.int p1), (.int p2)] maxLocals)) tt := by
        intro tt kt
        refine pre31 tt ?_
        show Steps p.tables e below (T30.setTop (mkF m 33 #[.val (.int p1), .val (.int p2), .val (.ref w_EQUAL), .val (.int s1), .val (.ref w_EQUAL), .unset] [(.int s1)])) _
        refine XS.ifYes X30.here hx rfl (pc0 := 33) (pc' := 46) rfl (hb hby at_33) rfl ((if0 _ _).trans (teq c33_32).1) (by decide) (by decide) ?_
        show Steps p.tables e below (T30.setTop (mkF m 46 #[.val (.int p1), .val (.int p2), .val (.ref w_EQUAL), .val (.int s1), .val (.ref w_EQUAL), .unset] [])) _
        refine XS.aloadN X30.here hx rfl (hb hby at_46) rfl rfl ?_
        show Steps p.tables e below (T30.setTop (mkF m 47 #[.val (.int p1), .val (.int p2), .val (.ref w_EQUAL), .val (.int s1), .val (.ref w_EQUAL), .unset] [(.ref w_EQUAL)])) _
        refine XS.iconst X30.here hx rfl (hb hby at_47) ?_
        show Steps p.tables e below (T30.setTop (mkF m 48 #[.val (.int p1), .val (.int p2), .val (.ref w_EQUAL), .val (.int s1), .val (.ref w_EQUAL), .unset] [(.int (-1 : Int32)), (.ref w_EQUAL)])) _
        refine st33.trans ?_
        show Steps p.tables e below (T33.setTop (mkF m 51 #[.val (.int p1), .val (.int p2), .val (.ref w_EQUAL), .val (.int s1), .val (.ref w_EQUAL), .unset] [(.int (0 : Int32))])) _
        refine XS.ifNo X33.here hx rfl (hb hby at_51) rfl ((if0 _ _).trans (teq (rfl : (0 : Int32) = (0 : Int32))).2) ?_
        show Steps p.tables e below (T33.setTop (mkF m 54 #[.val (.int p1), .val (.int p2), .val (.ref w_EQUAL), .val (.int s1), .val (.ref w_EQUAL), .unset] [])) _
        refine XS.aloadN X33.here hx rfl (hb hby at_54) rfl rfl ?_
        show Steps p.tables e below (T33.setTop (mkF m 55 #[.val (.int p1), .val (.int p2), .val (.ref w_EQUAL), .val (.int s1), .val (.ref w_EQUAL), .unset] [(.ref w_EQUAL)])) _
        refine XS.iconst X33.here hx rfl (hb hby at_55) ?_
        show Steps p.tables e below (T33.setTop (mkF m 56 #[.val (.int p1), .val (.int p2), .val (.ref w_EQUAL), .val (.int s1), .val (.ref w_EQUAL), .unset] [(.int (0 : Int32)), (.ref w_EQUAL)])) _
        refine st34.trans ?_
        show Steps p.tables e below (T34.setTop (mkF m 59 #[.val (.int p1), .val (.int p2), .val (.ref w_EQUAL), .val (.int s1), .val (.ref w_EQUAL), .unset] [(.int (1 : Int32))])) _
        refine XS.ifYes X34.here hx rfl (pc0 := 59) (pc' := 70) rfl (hb hby at_59) rfl ((if0 _ _).trans (feq (by decide : ¬ ((1 : Int32) = (0 : Int32)))).2) (by decide) (by decide) ?_
        show Steps p.tables e below (T34.setTop (mkF m 70 #[.val (.int p1), .val (.int p2), .val (.ref w_EQUAL), .val (.int s1), .val (.ref w_EQUAL), .unset] [])) _
        refine XS.iconst X34.here hx rfl (hb hby at_70) ?_
        show Steps p.tables e below (T34.setTop (mkF m 71 #[.val (.int p1), .val (.int p2), .val (.ref w_EQUAL), .val (.int s1), .val (.ref w_EQUAL), .unset] [(.int (1 : Int32))])) _
        refine XS.goto X34.here hx rfl (pc0 := 71) (pc' := 75) rfl (hb hby at_71) (by decide) (by decide) ?_
        show Steps p.tables e below (T34.setTop (mkF m 75 #[.val (.int p1), .val (.int p2), .val (.ref w_EQUAL), .val (.int s1), .val (.ref w_EQUAL), .unset] [(.int (1 : Int32))])) _
        refine XS.istore X34.here hx rfl (hb hby at_75) rfl (l' := #[.val (.int p1), .val (.int p2), .val (.ref w_EQUAL), .val (.int s1), .val (.ref w_EQUAL), .val (.int (1 : Int32))]) rfl ?_
        show Steps p.tables e below (T34.setTop (mkF m 77 #[.val (.int p1), .val (.int p2), .val (.ref w_EQUAL), .val (.int s1), .val (.ref w_EQUAL), .val (.int (1 : Int32))] [])) _
        refine XS.aload X34.here hx rfl (hb hby at_77) rfl rfl ?_
        show Steps p.tables e below (T34.setTop (mkF m 79 #[.val (.int p1), .val (.int p2), .val (.ref w_EQUAL), .val (.int s1), .val (.ref w_EQUAL), .val (.int (1 : Int32))] [(.ref w_EQUAL)])) _
        refine XS.iloadN X34.here hx rfl (hb hby at_79) rfl ?_
        show Steps p.tables e below (T34.setTop (mkF m 80 #[.val (.int p1), .val (.int p2), .val (.ref w_EQUAL), .val (.int s1), .val (.ref w_EQUAL), .val (.int (1 : Int32))] [(.int s1), (.ref w_EQUAL)])) _
        refine st35.trans ?_
        show Steps p.tables e below (T35.setTop (mkF m 83 #[.val (.int p1), .val (.int p2), .val (.ref w_EQUAL), .val (.int s1), .val (.ref w_EQUAL), .val (.int (1 : Int32))] [(.int (1 : Int32))])) _
        refine XS.iload X35.here hx rfl (hb hby at_83) rfl ?_
        show Steps p.tables e below (T35.setTop (mkF m 85 #[.val (.int p1), .val (.int p2), .val (.ref w_EQUAL), .val (.int s1), .val (.ref w_EQUAL), .val (.int (1 : Int32))] [(.int (1 : Int32)), (.int (1 : Int32))])) _
        refine XS.icmpNo X35.here hx rfl (hb hby at_85) rfl (teq (rfl : (1 : Int32) = (1 : Int32))).2 ?_
        show Steps p.tables e below (T35.setTop (mkF m 88 #[.val (.int p1), .val (.int p2), .val (.ref w_EQUAL), .val (.int s1), .val (.ref w_EQUAL), .val (.int (1 : Int32))] [])) _
        refine XS.aload X35.here hx rfl (hb hby at_88) rfl rfl ?_
        show Steps p.tables e below (T35.setTop (mkF m 90 #[.val (.int p1), .val (.int p2), .val (.ref w_EQUAL), .val (.int s1), .val (.ref w_EQUAL), .val (.int (1 : Int32))] [(.ref w_EQUAL)])) _
        refine st36.trans ?_
        show Steps p.tables e below (T36.setTop (mkF m 93 #[.val (.int p1), .val (.int p2), .val (.ref w_EQUAL), .val (.int s1), .val (.ref w_EQUAL), .val (.int (1 : Int32))] [(.ref w_EQUAL)])) _
        refine XS.aload X36.here hx rfl (hb hby at_93) rfl rfl ?_
        show Steps p.tables e below (T36.setTop (mkF m 95 #[.val (.int p1), .val (.int p2), .val (.ref w_EQUAL), .val (.int s1), .val (.ref w_EQUAL), .val (.int (1 : Int32))] [(.ref w_EQUAL), (.ref w_EQUAL)])) _
        refine Jvm.RoadKit.acmp (g := (mkF m 95 #[.val (.int p1), .val (.int p2), .val (.ref w_EQUAL), .val (.int s1), .val (.ref w_EQUAL), .val (.int (1 : Int32))] [(.ref w_EQUAL), (.ref w_EQUAL)])) X36 hx rfl rfl rfl (pc0 := 95) (pc' := 98) (same := true) rfl (hb hby at_95) rfl (decide_eq_true rfl) (by decide) (by decide) ?_
        show Steps p.tables e below (T36.setTop (mkF m 98 #[.val (.int p1), .val (.int p2), .val (.ref w_EQUAL), .val (.int s1), .val (.ref w_EQUAL), .val (.int (1 : Int32))] [])) _
        refine XS.iconst X36.here hx rfl (hb hby at_98) ?_
        show Steps p.tables e below (T36.setTop (mkF m 99 #[.val (.int p1), .val (.int p2), .val (.ref w_EQUAL), .val (.int s1), .val (.ref w_EQUAL), .val (.int (1 : Int32))] [(.int (1 : Int32))])) _
        refine XS.goto X36.here hx rfl (pc0 := 99) (pc' := 103) rfl (hb hby at_99) (by decide) (by decide) ?_
        exact kt
      obtain ⟨fs, hr, hrun, hended, hW, hsame⟩ := X36.leave (v := some (.int (1 : Int32))) (fun h => by rw [Bd.returns] at h; cases h)
      refine ⟨_, _, pre37 _ ?_, hrun, hended, _, _, rfl, ?_, ⟨_, rfl⟩, hW, hsame.mono (by decide) (by decide)⟩
      · show Steps p.tables e below (T36.setTop (mkF m 103 #[.val (.int p1), .val (.int p2), .val (.ref w_EQUAL), .val (.int s1), .val (.ref w_EQUAL), .val (.int (1 : Int32))] [(.int (1 : Int32))])) _
        exact retN X36 hx (t := .boolean) Bd.returns (by simp) (hb hby at_103) hr
      · show Q0 Z h0 n0 _ T36.heap _
        rw [hE36]
        exact ⟨rfl, N36⟩
    · obtain ⟨cq38, kq38, q38a, q38b, q38c⟩ := isOf hZ hE30 E_EQUAL
      obtain ⟨_, _, ⟨T38, L38, k38, n38⟩, -, X38, ⟨Lc38, hQ38, l38, y38, z38⟩, st38⟩ := X30.virtualBack hx (y := (⟨"com/example/prudent_stability/prudentstability/Relation", "holdsFor", "(I)Z"⟩ : MethodName)) (z := (⟨"com/example/prudent_stability/prudentstability/Relation", "holdsFor", "(I)Z"⟩ : MethodName)) hown (mvT hZ (hw _ (List.mem_of_getElem? (i := 24) rfl))) (mvT hZ (hw _ (List.mem_of_getElem? (i := 25) rfl))) (notFace_of_selects (args := #[]) (mvT hZ (hw _ (List.mem_of_getElem? (i := 27) rfl)))) (mvT hZ (hw _ (List.mem_of_getElem? (i := 27) rfl))) (mvT hZ (hw _ (List.mem_of_getElem? (i := 26) rfl))) (by decide) (backOf (W := 0) (rmH l Z a0 hw [] w_EQUAL s1 (2 : Int32) (own_hf (2 : Int32) s1) h0 n0 Z0 F_EQUAL_ordinal E_EQUAL (by decide) rfl) hZ (hw _ (List.mem_of_getElem? (i := 28) rfl)) (hw _ (List.mem_of_getElem? (i := 6) rfl)) (by decide) (by decide)) q38a q38c (g := (mkF m 38 #[.val (.int p1), .val (.int p2), .val (.ref w_EQUAL), .val (.int s1), .val (.ref w_EQUAL), .unset] [(.int s1), (.ref w_EQUAL)])) rfl (by rw [hml]; rfl) (Steps.refl _) (argsL := [(.int s1)]) (rest := []) (lenOf pd_rm0_2 rfl) rfl (by show 2 * 0 + _ ≤ _; exact Nat.le_of_eq rfl) (hb hby at_38) (fun _ _ => ⟨rfl, hE30, (by decide : 0 + 0 ≤ _), (by decide : 0 + 0 ≤ _)⟩)
      dsimp only [Pt.U, Pt.locs, Pt.cells, Pt.slots] at X38 l38 y38 z38 st38 hQ38
      subst l38 y38 z38
      obtain ⟨rfl, N38q, hE38⟩ := hQ38
      have N38 := Fr.app N30 N38q
      obtain ⟨cq39, kq39, q39a, q39b, q39c⟩ := isOf hZ hE38 E_EQUAL
      obtain ⟨_, _, ⟨T39, L39, k39, n39⟩, -, X39, ⟨Lc39, hQ39, l39, y39, z39⟩, st39⟩ := X38.virtualBack hx (y := (⟨"com/example/prudent_stability/prudentstability/Relation", "holdsFor", "(I)Z"⟩ : MethodName)) (z := (⟨"com/example/prudent_stability/prudentstability/Relation", "holdsFor", "(I)Z"⟩ : MethodName)) hown (mvT hZ (hw _ (List.mem_of_getElem? (i := 24) rfl))) (mvT hZ (hw _ (List.mem_of_getElem? (i := 25) rfl))) (notFace_of_selects (args := #[]) (mvT hZ (hw _ (List.mem_of_getElem? (i := 27) rfl)))) (mvT hZ (hw _ (List.mem_of_getElem? (i := 27) rfl))) (mvT hZ (hw _ (List.mem_of_getElem? (i := 26) rfl))) (by decide) (backOf (W := 0) (rmH l Z a0 hw [] w_EQUAL s1 (2 : Int32) (own_hf (2 : Int32) s1) h0 n0 Z0 F_EQUAL_ordinal E_EQUAL (by decide) rfl) hZ (hw _ (List.mem_of_getElem? (i := 28) rfl)) (hw _ (List.mem_of_getElem? (i := 6) rfl)) (by decide) (by decide)) q39a q39c (g := (mkF m 80 #[.val (.int p1), .val (.int p2), .val (.ref w_EQUAL), .val (.int s1), .val (.ref w_EQUAL), .val (.int (own_hf (2 : Int32) s1))] [(.int s1), (.ref w_EQUAL)])) rfl (by rw [hml]; rfl) (Steps.refl _) (argsL := [(.int s1)]) (rest := []) (lenOf pd_rm0_2 rfl) rfl (by show 2 * 0 + _ ≤ _; exact Nat.le_of_eq rfl) (hb hby at_80) (fun _ _ => ⟨rfl, hE38, (by decide : 0 + 0 ≤ _), (by decide : 0 + 0 ≤ _)⟩)
      dsimp only [Pt.U, Pt.locs, Pt.cells, Pt.slots] at X39 l39 y39 z39 st39 hQ39
      subst l39 y39 z39
      obtain ⟨rfl, N39q, hE39⟩ := hQ39
      have N39 := Fr.app N38 N39q
      obtain ⟨cq40, kq40, q40a, q40b, q40c⟩ := isOf hZ hE39 E_EQUAL
      obtain ⟨_, _, ⟨T40, L40, k40, n40⟩, -, X40, ⟨Lc40, hQ40, l40, y40, z40⟩, st40⟩ := X39.virtualBack hx (y := (⟨"com/example/prudent_stability/prudentstability/Relation", "relaxed", "()Lcom/example/prudent_stability/prudentstability/Relation;"⟩ : MethodName)) (z := (⟨"com/example/prudent_stability/prudentstability/Relation", "relaxed", "()Lcom/example/prudent_stability/prudentstability/Relation;"⟩ : MethodName)) hown (mvT hZ (hw _ (List.mem_of_getElem? (i := 8) rfl))) (mvT hZ (hw _ (List.mem_of_getElem? (i := 9) rfl))) (notFace_of_selects (args := #[]) (mvT hZ (hw _ (List.mem_of_getElem? (i := 11) rfl)))) (mvT hZ (hw _ (List.mem_of_getElem? (i := 11) rfl))) (mvT hZ (hw _ (List.mem_of_getElem? (i := 10) rfl))) (by decide) (backOf (W := 0) (rmM l Z a0 hw [] w_EQUAL (2 : Int32) w_LESS_OR_EQUAL w_GREATER_OR_EQUAL w_EQUAL h0 n0 Z0 S_LESS_OR_EQUAL S_GREATER_OR_EQUAL F_EQUAL_ordinal E_EQUAL (by decide) (by simp [own_pick])) hZ (hw _ (List.mem_of_getElem? (i := 12) rfl)) (hw _ (List.mem_of_getElem? (i := 6) rfl)) (by decide) (by decide)) q40a q40c (g := (mkF m 90 #[.val (.int p1), .val (.int p2), .val (.ref w_EQUAL), .val (.int s1), .val (.ref w_EQUAL), .val (.int (own_hf (2 : Int32) s1))] [(.ref w_EQUAL)])) rfl (by rw [hml]; rfl) (Steps.refl _) (argsL := []) (rest := []) (lenOf pd_rm0_1 rfl) rfl (by show 2 * 0 + _ ≤ _; exact Nat.le_of_eq rfl) (hb hby at_90) (fun _ _ => ⟨rfl, hE39, (by decide : 0 + 0 ≤ _), (by decide : 0 + 0 ≤ _)⟩)
      dsimp only [Pt.U, Pt.locs, Pt.cells, Pt.slots] at X40 l40 y40 z40 st40 hQ40
      subst l40 y40 z40
      obtain ⟨rfl, N40q, hE40⟩ := hQ40
      have N40 := Fr.app N39 N40q
      have pre41 : ∀ tt, Steps p.tables e below (T40.setTop (mkF m 103 #[.val (.int p1), .val (.int p2), .val (.ref w_EQUAL), .val (.int s1), .val (.ref w_EQUAL), .val (.int (own_hf (2 : Int32) s1))] [(.int (1 : Int32))])) tt → Steps p.tables e below (s₁.setTop (entryFrame m #[(.int p1), (.int p2)] maxLocals)) tt := by
        intro tt kt
        refine pre31 tt ?_
        show Steps p.tables e below (T30.setTop (mkF m 33 #[.val (.int p1), .val (.int p2), .val (.ref w_EQUAL), .val (.int s1), .val (.ref w_EQUAL), .unset] [(.int s1)])) _
        refine XS.ifNo X30.here hx rfl (hb hby at_33) rfl ((if0 _ _).trans (feq c33_32).1) ?_
        show Steps p.tables e below (T30.setTop (mkF m 36 #[.val (.int p1), .val (.int p2), .val (.ref w_EQUAL), .val (.int s1), .val (.ref w_EQUAL), .unset] [])) _
        refine XS.aloadN X30.here hx rfl (hb hby at_36) rfl rfl ?_
        show Steps p.tables e below (T30.setTop (mkF m 37 #[.val (.int p1), .val (.int p2), .val (.ref w_EQUAL), .val (.int s1), .val (.ref w_EQUAL), .unset] [(.ref w_EQUAL)])) _
        refine XS.iloadN X30.here hx rfl (hb hby at_37) rfl ?_
        show Steps p.tables e below (T30.setTop (mkF m 38 #[.val (.int p1), .val (.int p2), .val (.ref w_EQUAL), .val (.int s1), .val (.ref w_EQUAL), .unset] [(.int s1), (.ref w_EQUAL)])) _
        refine st38.trans ?_
        show Steps p.tables e below (T38.setTop (mkF m 41 #[.val (.int p1), .val (.int p2), .val (.ref w_EQUAL), .val (.int s1), .val (.ref w_EQUAL), .unset] [(.int (own_hf (2 : Int32) s1))])) _
        refine XS.istore X38.here hx rfl (hb hby at_41) rfl (l' := #[.val (.int p1), .val (.int p2), .val (.ref w_EQUAL), .val (.int s1), .val (.ref w_EQUAL), .val (.int (own_hf (2 : Int32) s1))]) rfl ?_
        show Steps p.tables e below (T38.setTop (mkF m 43 #[.val (.int p1), .val (.int p2), .val (.ref w_EQUAL), .val (.int s1), .val (.ref w_EQUAL), .val (.int (own_hf (2 : Int32) s1))] [])) _
        refine XS.goto X38.here hx rfl (pc0 := 43) (pc' := 77) rfl (hb hby at_43) (by decide) (by decide) ?_
        show Steps p.tables e below (T38.setTop (mkF m 77 #[.val (.int p1), .val (.int p2), .val (.ref w_EQUAL), .val (.int s1), .val (.ref w_EQUAL), .val (.int (own_hf (2 : Int32) s1))] [])) _
        refine XS.aload X38.here hx rfl (hb hby at_77) rfl rfl ?_
        show Steps p.tables e below (T38.setTop (mkF m 79 #[.val (.int p1), .val (.int p2), .val (.ref w_EQUAL), .val (.int s1), .val (.ref w_EQUAL), .val (.int (own_hf (2 : Int32) s1))] [(.ref w_EQUAL)])) _
        refine XS.iloadN X38.here hx rfl (hb hby at_79) rfl ?_
        show Steps p.tables e below (T38.setTop (mkF m 80 #[.val (.int p1), .val (.int p2), .val (.ref w_EQUAL), .val (.int s1), .val (.ref w_EQUAL), .val (.int (own_hf (2 : Int32) s1))] [(.int s1), (.ref w_EQUAL)])) _
        refine st39.trans ?_
        show Steps p.tables e below (T39.setTop (mkF m 83 #[.val (.int p1), .val (.int p2), .val (.ref w_EQUAL), .val (.int s1), .val (.ref w_EQUAL), .val (.int (own_hf (2 : Int32) s1))] [(.int (own_hf (2 : Int32) s1))])) _
        refine XS.iload X39.here hx rfl (hb hby at_83) rfl ?_
        show Steps p.tables e below (T39.setTop (mkF m 85 #[.val (.int p1), .val (.int p2), .val (.ref w_EQUAL), .val (.int s1), .val (.ref w_EQUAL), .val (.int (own_hf (2 : Int32) s1))] [(.int (own_hf (2 : Int32) s1)), (.int (own_hf (2 : Int32) s1))])) _
        refine XS.icmpNo X39.here hx rfl (hb hby at_85) rfl (teq (own_hfr (2 : Int32) (2 : Int32) s1 (by decide) rs c33_32)).2 ?_
        show Steps p.tables e below (T39.setTop (mkF m 88 #[.val (.int p1), .val (.int p2), .val (.ref w_EQUAL), .val (.int s1), .val (.ref w_EQUAL), .val (.int (own_hf (2 : Int32) s1))] [])) _
        refine XS.aload X39.here hx rfl (hb hby at_88) rfl rfl ?_
        show Steps p.tables e below (T39.setTop (mkF m 90 #[.val (.int p1), .val (.int p2), .val (.ref w_EQUAL), .val (.int s1), .val (.ref w_EQUAL), .val (.int (own_hf (2 : Int32) s1))] [(.ref w_EQUAL)])) _
        refine st40.trans ?_
        show Steps p.tables e below (T40.setTop (mkF m 93 #[.val (.int p1), .val (.int p2), .val (.ref w_EQUAL), .val (.int s1), .val (.ref w_EQUAL), .val (.int (own_hf (2 : Int32) s1))] [(.ref w_EQUAL)])) _
        refine XS.aload X40.here hx rfl (hb hby at_93) rfl rfl ?_
        show Steps p.tables e below (T40.setTop (mkF m 95 #[.val (.int p1), .val (.int p2), .val (.ref w_EQUAL), .val (.int s1), .val (.ref w_EQUAL), .val (.int (own_hf (2 : Int32) s1))] [(.ref w_EQUAL), (.ref w_EQUAL)])) _
        refine Jvm.RoadKit.acmp (g := (mkF m 95 #[.val (.int p1), .val (.int p2), .val (.ref w_EQUAL), .val (.int s1), .val (.ref w_EQUAL), .val (.int (own_hf (2 : Int32) s1))] [(.ref w_EQUAL), (.ref w_EQUAL)])) X40 hx rfl rfl rfl (pc0 := 95) (pc' := 98) (same := true) rfl (hb hby at_95) rfl (decide_eq_true rfl) (by decide) (by decide) ?_
        show Steps p.tables e below (T40.setTop (mkF m 98 #[.val (.int p1), .val (.int p2), .val (.ref w_EQUAL), .val (.int s1), .val (.ref w_EQUAL), .val (.int (own_hf (2 : Int32) s1))] [])) _
        refine XS.iconst X40.here hx rfl (hb hby at_98) ?_
        show Steps p.tables e below (T40.setTop (mkF m 99 #[.val (.int p1), .val (.int p2), .val (.ref w_EQUAL), .val (.int s1), .val (.ref w_EQUAL), .val (.int (own_hf (2 : Int32) s1))] [(.int (1 : Int32))])) _
        refine XS.goto X40.here hx rfl (pc0 := 99) (pc' := 103) rfl (hb hby at_99) (by decide) (by decide) ?_
        exact kt
      obtain ⟨fs, hr, hrun, hended, hW, hsame⟩ := X40.leave (v := some (.int (1 : Int32))) (fun h => by rw [Bd.returns] at h; cases h)
      refine ⟨_, _, pre41 _ ?_, hrun, hended, _, _, rfl, ?_, ⟨_, rfl⟩, hW, hsame.mono (by decide) (by decide)⟩
      · show Steps p.tables e below (T40.setTop (mkF m 103 #[.val (.int p1), .val (.int p2), .val (.ref w_EQUAL), .val (.int s1), .val (.ref w_EQUAL), .val (.int (own_hf (2 : Int32) s1))] [(.int (1 : Int32))])) _
        exact retN X40 hx (t := .boolean) Bd.returns (by simp) (hb hby at_103) hr
      · show Q0 Z h0 n0 _ T40.heap _
        rw [hE40]
        exact ⟨rfl, N40⟩
  · obtain ⟨_, _, ⟨T42, L42, k42, n42⟩, -, X42, ⟨Lc42, hQ42, l42, y42, z42⟩, st42⟩ := Jvm.LawKit.callS X0 hx (y := (⟨"com/example/prudent_stability/prudentstability/RelationRelaxedPinLaw", "pick", "(I)Lcom/example/prudent_stability/prudentstability/Relation;"⟩ : MethodName)) hown (mvT hZ (hw _ (List.mem_of_getElem? (i := 1) rfl))) (mvT hZ (hw _ (List.mem_of_getElem? (i := 2) rfl))) (mvT hZ (hw _ (List.mem_of_getElem? (i := 3) rfl))) (mvT hZ (hw _ (List.mem_of_getElem? (i := 4) rfl))) (by decide) (backOf (W := 0) (rmP l Z a0 hw [] (3 : Int32) w_LESS w_LESS_OR_EQUAL w_EQUAL w_GREATER_OR_EQUAL w_GREATER w_GREATER_OR_EQUAL h0 n0 Z0 S_LESS S_LESS_OR_EQUAL S_EQUAL S_GREATER_OR_EQUAL S_GREATER (by simp [own_pick])) hZ (hw _ (List.mem_of_getElem? (i := 4) rfl)) (hw _ (List.mem_of_getElem? (i := 3) rfl)) (by decide) (by decide)) (g := (mkF m 6 #[.val (.int p1), .val (.int p2), .unset, .unset, .unset, .unset] [(.int (3 : Int32))])) rfl (by rw [hml]; rfl) (argsL := [(.int (3 : Int32))]) (rest := []) (lenOf pd_rm0_0 rfl) rfl (by show 2 * 0 + _ ≤ _; exact Nat.le_of_eq rfl) (hb hby at_6) (fun _ _ => ⟨rfl, e0, (by decide : 0 + 0 ≤ _), (by decide : 0 + 0 ≤ _)⟩)
    dsimp only [Pt.U, Pt.locs, Pt.cells, Pt.slots] at X42 l42 y42 z42 st42 hQ42
    subst l42 y42 z42
    obtain ⟨rfl, N42q, hE42⟩ := hQ42
    have N42 := Fr.app N0 N42q
    have rt := own_of3 (own_rem p2 (3 : Int32) (by decide))
    obtain ⟨s1, hs1⟩ : ∃ z : Int32, z = (((p2 &&& (2147483647 : Int32)) % (3 : Int32)) - (1 : Int32)) := ⟨_, rfl⟩
    have pre43 : ∀ tt, Steps p.tables e below (T42.setTop (mkF m 18 #[.val (.int p1), .val (.int p2), .val (.ref w_GREATER_OR_EQUAL), .unset, .unset, .unset] [(.int s1)])) tt → Steps p.tables e below (s₁.setTop (entryFrame m #[(.int p1), (.int p2)] maxLocals)) tt := by
      intro tt kt
      refine pre1 tt ?_
      show Steps p.tables e below (s₁.setTop (mkF m 6 #[.val (.int p1), .val (.int p2), .unset, .unset, .unset, .unset] [(.int (3 : Int32))])) _
      refine st42 _ ?_
      show Steps p.tables e below (T42.setTop (mkF m 9 #[.val (.int p1), .val (.int p2), .unset, .unset, .unset, .unset] [(.ref w_GREATER_OR_EQUAL)])) _
      refine XS.astoreN X42.here hx rfl (hb hby at_9) rfl rfl (l' := #[.val (.int p1), .val (.int p2), .val (.ref w_GREATER_OR_EQUAL), .unset, .unset, .unset]) rfl ?_
      show Steps p.tables e below (T42.setTop (mkF m 10 #[.val (.int p1), .val (.int p2), .val (.ref w_GREATER_OR_EQUAL), .unset, .unset, .unset] [])) _
      refine XS.iloadN X42.here hx rfl (hb hby at_10) rfl ?_
      show Steps p.tables e below (T42.setTop (mkF m 11 #[.val (.int p1), .val (.int p2), .val (.ref w_GREATER_OR_EQUAL), .unset, .unset, .unset] [(.int p2)])) _
      refine X42.ldcInt hx hown (mvT hZ (hw _ (List.mem_of_getElem? (i := 0) rfl))) (g := (mkF m 11 #[.val (.int p1), .val (.int p2), .val (.ref w_GREATER_OR_EQUAL), .unset, .unset, .unset] [(.int p2)])) rfl (hb hby at_11) _ ?_
      show Steps p.tables e below (T42.setTop (mkF m 13 #[.val (.int p1), .val (.int p2), .val (.ref w_GREATER_OR_EQUAL), .unset, .unset, .unset] [(.int (2147483647 : Int32)), (.int p2)])) _
      refine XS.iand X42.here hx rfl (hb hby at_13) rfl ?_
      show Steps p.tables e below (T42.setTop (mkF m 14 #[.val (.int p1), .val (.int p2), .val (.ref w_GREATER_OR_EQUAL), .unset, .unset, .unset] [(.int (p2 &&& (2147483647 : Int32)))])) _
      refine XS.iconst X42.here hx rfl (hb hby at_14) ?_
      show Steps p.tables e below (T42.setTop (mkF m 15 #[.val (.int p1), .val (.int p2), .val (.ref w_GREATER_OR_EQUAL), .unset, .unset, .unset] [(.int (3 : Int32)), (.int (p2 &&& (2147483647 : Int32)))])) _
      refine iremM (g := (mkF m 15 #[.val (.int p1), .val (.int p2), .val (.ref w_GREATER_OR_EQUAL), .unset, .unset, .unset] [(.int (3 : Int32)), (.int (p2 &&& (2147483647 : Int32)))])) X42 hx rfl (hb hby at_15) rfl (by decide : ¬ ((3 : Int32) = (0 : Int32))) ?_
      show Steps p.tables e below (T42.setTop (mkF m 16 #[.val (.int p1), .val (.int p2), .val (.ref w_GREATER_OR_EQUAL), .unset, .unset, .unset] [(.int ((p2 &&& (2147483647 : Int32)) % (3 : Int32)))])) _
      refine XS.iconst X42.here hx rfl (hb hby at_16) ?_
      show Steps p.tables e below (T42.setTop (mkF m 17 #[.val (.int p1), .val (.int p2), .val (.ref w_GREATER_OR_EQUAL), .unset, .unset, .unset] [(.int (1 : Int32)), (.int ((p2 &&& (2147483647 : Int32)) % (3 : Int32)))])) _
      refine XS.isub X42.here hx rfl (hb hby at_17) rfl ?_
      show Steps p.tables e below (T42.setTop (mkF m 18 #[.val (.int p1), .val (.int p2), .val (.ref w_GREATER_OR_EQUAL), .unset, .unset, .unset] [(.int (((p2 &&& (2147483647 : Int32)) % (3 : Int32)) - (1 : Int32)))])) _
      rw [← hs1]
      exact kt
    have rs : s1 = -1 ∨ s1 = 0 ∨ s1 = 1 := by
      rw [hs1]; rcases rt with q | q | q <;> rw [q] <;> decide
    clear hs1 rt
    obtain ⟨cq44, kq44, q44a, q44b, q44c⟩ := isOf hZ hE42 E_GREATER_OR_EQUAL
    obtain ⟨_, _, ⟨T44, L44, k44, n44⟩, -, X44, ⟨Lc44, hQ44, l44, y44, z44⟩, st44⟩ := X42.virtualBack hx (y := (⟨"com/example/prudent_stability/prudentstability/Relation", "relaxed", "()Lcom/example/prudent_stability/prudentstability/Relation;"⟩ : MethodName)) (z := (⟨"com/example/prudent_stability/prudentstability/Relation", "relaxed", "()Lcom/example/prudent_stability/prudentstability/Relation;"⟩ : MethodName)) hown (mvT hZ (hw _ (List.mem_of_getElem? (i := 8) rfl))) (mvT hZ (hw _ (List.mem_of_getElem? (i := 9) rfl))) (notFace_of_selects (args := #[]) (mvT hZ (hw _ (List.mem_of_getElem? (i := 11) rfl)))) (mvT hZ (hw _ (List.mem_of_getElem? (i := 11) rfl))) (mvT hZ (hw _ (List.mem_of_getElem? (i := 10) rfl))) (by decide) (backOf (W := 0) (rmM l Z a0 hw [] w_GREATER_OR_EQUAL (3 : Int32) w_LESS_OR_EQUAL w_GREATER_OR_EQUAL w_GREATER_OR_EQUAL h0 n0 Z0 S_LESS_OR_EQUAL S_GREATER_OR_EQUAL F_GREATER_OR_EQUAL_ordinal E_GREATER_OR_EQUAL (by decide) (by simp [own_pick])) hZ (hw _ (List.mem_of_getElem? (i := 12) rfl)) (hw _ (List.mem_of_getElem? (i := 6) rfl)) (by decide) (by decide)) q44a q44c (g := (mkF m 20 #[.val (.int p1), .val (.int p2), .val (.ref w_GREATER_OR_EQUAL), .val (.int s1), .unset, .unset] [(.ref w_GREATER_OR_EQUAL)])) rfl (by rw [hml]; rfl) (Steps.refl _) (argsL := []) (rest := []) (lenOf pd_rm0_1 rfl) rfl (by show 2 * 0 + _ ≤ _; exact Nat.le_of_eq rfl) (hb hby at_20) (fun _ _ => ⟨rfl, hE42, (by decide : 0 + 0 ≤ _), (by decide : 0 + 0 ≤ _)⟩)
    dsimp only [Pt.U, Pt.locs, Pt.cells, Pt.slots] at X44 l44 y44 z44 st44 hQ44
    subst l44 y44 z44
    obtain ⟨rfl, N44q, hE44⟩ := hQ44
    have N44 := Fr.app N42 N44q
    have pre45 : ∀ tt, Steps p.tables e below (T44.setTop (mkF m 33 #[.val (.int p1), .val (.int p2), .val (.ref w_GREATER_OR_EQUAL), .val (.int s1), .val (.ref w_GREATER_OR_EQUAL), .unset] [(.int s1)])) tt → Steps p.tables e below (s₁.setTop (entryFrame m #[(.int p1), (.int p2)] maxLocals)) tt := by
      intro tt kt
      refine pre43 tt ?_
      show Steps p.tables e below (T42.setTop (mkF m 18 #[.val (.int p1), .val (.int p2), .val (.ref w_GREATER_OR_EQUAL), .unset, .unset, .unset] [(.int s1)])) _
      refine XS.istoreN X42.here hx rfl (hb hby at_18) rfl (l' := #[.val (.int p1), .val (.int p2), .val (.ref w_GREATER_OR_EQUAL), .val (.int s1), .unset, .unset]) rfl ?_
      show Steps p.tables e below (T42.setTop (mkF m 19 #[.val (.int p1), .val (.int p2), .val (.ref w_GREATER_OR_EQUAL), .val (.int s1), .unset, .unset] [])) _
      refine XS.aloadN X42.here hx rfl (hb hby at_19) rfl rfl ?_
      show Steps p.tables e below (T42.setTop (mkF m 20 #[.val (.int p1), .val (.int p2), .val (.ref w_GREATER_OR_EQUAL), .val (.int s1), .unset, .unset] [(.ref w_GREATER_OR_EQUAL)])) _
      refine st44.trans ?_
      show Steps p.tables e below (T44.setTop (mkF m 23 #[.val (.int p1), .val (.int p2), .val (.ref w_GREATER_OR_EQUAL), .val (.int s1), .unset, .unset] [(.ref w_GREATER_OR_EQUAL)])) _
      refine XS.astore X44.here hx rfl (hb hby at_23) rfl rfl (l' := #[.val (.int p1), .val (.int p2), .val (.ref w_GREATER_OR_EQUAL), .val (.int s1), .val (.ref w_GREATER_OR_EQUAL), .unset]) rfl ?_
      show Steps p.tables e below (T44.setTop (mkF m 25 #[.val (.int p1), .val (.int p2), .val (.ref w_GREATER_OR_EQUAL), .val (.int s1), .val (.ref w_GREATER_OR_EQUAL), .unset] [])) _
      refine XS.aload X44.here hx rfl (hb hby at_25) rfl rfl ?_
      show Steps p.tables e below (T44.setTop (mkF m 27 #[.val (.int p1), .val (.int p2), .val (.ref w_GREATER_OR_EQUAL), .val (.int s1), .val (.ref w_GREATER_OR_EQUAL), .unset] [(.ref w_GREATER_OR_EQUAL)])) _
      refine XS.ifnonnullYes X44.here hx rfl (pc0 := 27) (pc' := 32) rfl (hb hby at_27) rfl (by decide) (by decide) ?_
      show Steps p.tables e below (T44.setTop (mkF m 32 #[.val (.int p1), .val (.int p2), .val (.ref w_GREATER_OR_EQUAL), .val (.int s1), .val (.ref w_GREATER_OR_EQUAL), .unset] [])) _
      refine XS.iloadN X44.here hx rfl (hb hby at_32) rfl ?_
      exact kt
    by_cases c33_46 : s1 = (0 : Int32)
    · obtain ⟨cq47, kq47, q47a, q47b, q47c⟩ := isOf hZ hE44 E_GREATER_OR_EQUAL
      obtain ⟨_, _, ⟨T47, L47, k47, n47⟩, -, X47, ⟨Lc47, hQ47, l47, y47, z47⟩, st47⟩ := X44.virtualBack hx (y := (⟨"com/example/prudent_stability/prudentstability/Relation", "holdsFor", "(I)Z"⟩ : MethodName)) (z := (⟨"com/example/prudent_stability/prudentstability/Relation", "holdsFor", "(I)Z"⟩ : MethodName)) hown (mvT hZ (hw _ (List.mem_of_getElem? (i := 24) rfl))) (mvT hZ (hw _ (List.mem_of_getElem? (i := 25) rfl))) (notFace_of_selects (args := #[]) (mvT hZ (hw _ (List.mem_of_getElem? (i := 27) rfl)))) (mvT hZ (hw _ (List.mem_of_getElem? (i := 27) rfl))) (mvT hZ (hw _ (List.mem_of_getElem? (i := 26) rfl))) (by decide) (backOf (W := 0) (rmH l Z a0 hw [] w_GREATER_OR_EQUAL (-1 : Int32) (3 : Int32) (0 : Int32) h0 n0 Z0 F_GREATER_OR_EQUAL_ordinal E_GREATER_OR_EQUAL (by decide) (by decide)) hZ (hw _ (List.mem_of_getElem? (i := 28) rfl)) (hw _ (List.mem_of_getElem? (i := 6) rfl)) (by decide) (by decide)) q47a q47c (g := (mkF m 48 #[.val (.int p1), .val (.int p2), .val (.ref w_GREATER_OR_EQUAL), .val (.int s1), .val (.ref w_GREATER_OR_EQUAL), .unset] [(.int (-1 : Int32)), (.ref w_GREATER_OR_EQUAL)])) rfl (by rw [hml]; rfl) (Steps.refl _) (argsL := [(.int (-1 : Int32))]) (rest := []) (lenOf pd_rm0_2 rfl) rfl (by show 2 * 0 + _ ≤ _; exact Nat.le_of_eq rfl) (hb hby at_48) (fun _ _ => ⟨rfl, hE44, (by decide : 0 + 0 ≤ _), (by decide : 0 + 0 ≤ _)⟩)
      dsimp only [Pt.U, Pt.locs, Pt.cells, Pt.slots] at X47 l47 y47 z47 st47 hQ47
      subst l47 y47 z47
      obtain ⟨rfl, N47q, hE47⟩ := hQ47
      have N47 := Fr.app N44 N47q
      obtain ⟨cq48, kq48, q48a, q48b, q48c⟩ := isOf hZ hE47 E_GREATER_OR_EQUAL
      obtain ⟨_, _, ⟨T48, L48, k48, n48⟩, -, X48, ⟨Lc48, hQ48, l48, y48, z48⟩, st48⟩ := X47.virtualBack hx (y := (⟨"com/example/prudent_stability/prudentstability/Relation", "holdsFor", "(I)Z"⟩ : MethodName)) (z := (⟨"com/example/prudent_stability/prudentstability/Relation", "holdsFor", "(I)Z"⟩ : MethodName)) hown (mvT hZ (hw _ (List.mem_of_getElem? (i := 24) rfl))) (mvT hZ (hw _ (List.mem_of_getElem? (i := 25) rfl))) (notFace_of_selects (args := #[]) (mvT hZ (hw _ (List.mem_of_getElem? (i := 27) rfl)))) (mvT hZ (hw _ (List.mem_of_getElem? (i := 27) rfl))) (mvT hZ (hw _ (List.mem_of_getElem? (i := 26) rfl))) (by decide) (backOf (W := 0) (rmH l Z a0 hw [] w_GREATER_OR_EQUAL (0 : Int32) (3 : Int32) (1 : Int32) h0 n0 Z0 F_GREATER_OR_EQUAL_ordinal E_GREATER_OR_EQUAL (by decide) (by decide)) hZ (hw _ (List.mem_of_getElem? (i := 28) rfl)) (hw _ (List.mem_of_getElem? (i := 6) rfl)) (by decide) (by decide)) q48a q48c (g := (mkF m 56 #[.val (.int p1), .val (.int p2), .val (.ref w_GREATER_OR_EQUAL), .val (.int s1), .val (.ref w_GREATER_OR_EQUAL), .unset] [(.int (0 : Int32)), (.ref w_GREATER_OR_EQUAL)])) rfl (by rw [hml]; rfl) (Steps.refl _) (argsL := [(.int (0 : Int32))]) (rest := []) (lenOf pd_rm0_2 rfl) rfl (by show 2 * 0 + _ ≤ _; exact Nat.le_of_eq rfl) (hb hby at_56) (fun _ _ => ⟨rfl, hE47, (by decide : 0 + 0 ≤ _), (by decide : 0 + 0 ≤ _)⟩)
      dsimp only [Pt.U, Pt.locs, Pt.cells, Pt.slots] at X48 l48 y48 z48 st48 hQ48
      subst l48 y48 z48
      obtain ⟨rfl, N48q, hE48⟩ := hQ48
      have N48 := Fr.app N47 N48q
      obtain ⟨cq49, kq49, q49a, q49b, q49c⟩ := isOf hZ hE48 E_GREATER_OR_EQUAL
      obtain ⟨_, _, ⟨T49, L49, k49, n49⟩, -, X49, ⟨Lc49, hQ49, l49, y49, z49⟩, st49⟩ := X48.virtualBack hx (y := (⟨"com/example/prudent_stability/prudentstability/Relation", "holdsFor", "(I)Z"⟩ : MethodName)) (z := (⟨"com/example/prudent_stability/prudentstability/Relation", "holdsFor", "(I)Z"⟩ : MethodName)) hown (mvT hZ (hw _ (List.mem_of_getElem? (i := 24) rfl))) (mvT hZ (hw _ (List.mem_of_getElem? (i := 25) rfl))) (notFace_of_selects (args := #[]) (mvT hZ (hw _ (List.mem_of_getElem? (i := 27) rfl)))) (mvT hZ (hw _ (List.mem_of_getElem? (i := 27) rfl))) (mvT hZ (hw _ (List.mem_of_getElem? (i := 26) rfl))) (by decide) (backOf (W := 0) (rmH l Z a0 hw [] w_GREATER_OR_EQUAL s1 (3 : Int32) (1 : Int32) h0 n0 Z0 F_GREATER_OR_EQUAL_ordinal E_GREATER_OR_EQUAL (by decide) (by rw [c33_46]; decide)) hZ (hw _ (List.mem_of_getElem? (i := 28) rfl)) (hw _ (List.mem_of_getElem? (i := 6) rfl)) (by decide) (by decide)) q49a q49c (g := (mkF m 80 #[.val (.int p1), .val (.int p2), .val (.ref w_GREATER_OR_EQUAL), .val (.int s1), .val (.ref w_GREATER_OR_EQUAL), .val (.int (1 : Int32))] [(.int s1), (.ref w_GREATER_OR_EQUAL)])) rfl (by rw [hml]; rfl) (Steps.refl _) (argsL := [(.int s1)]) (rest := []) (lenOf pd_rm0_2 rfl) rfl (by show 2 * 0 + _ ≤ _; exact Nat.le_of_eq rfl) (hb hby at_80) (fun _ _ => ⟨rfl, hE48, (by decide : 0 + 0 ≤ _), (by decide : 0 + 0 ≤ _)⟩)
      dsimp only [Pt.U, Pt.locs, Pt.cells, Pt.slots] at X49 l49 y49 z49 st49 hQ49
      subst l49 y49 z49
      obtain ⟨rfl, N49q, hE49⟩ := hQ49
      have N49 := Fr.app N48 N49q
      obtain ⟨cq50, kq50, q50a, q50b, q50c⟩ := isOf hZ hE49 E_GREATER_OR_EQUAL
      obtain ⟨_, _, ⟨T50, L50, k50, n50⟩, -, X50, ⟨Lc50, hQ50, l50, y50, z50⟩, st50⟩ := X49.virtualBack hx (y := (⟨"com/example/prudent_stability/prudentstability/Relation", "relaxed", "()Lcom/example/prudent_stability/prudentstability/Relation;"⟩ : MethodName)) (z := (⟨"com/example/prudent_stability/prudentstability/Relation", "relaxed", "()Lcom/example/prudent_stability/prudentstability/Relation;"⟩ : MethodName)) hown (mvT hZ (hw _ (List.mem_of_getElem? (i := 8) rfl))) (mvT hZ (hw _ (List.mem_of_getElem? (i := 9) rfl))) (notFace_of_selects (args := #[]) (mvT hZ (hw _ (List.mem_of_getElem? (i := 11) rfl)))) (mvT hZ (hw _ (List.mem_of_getElem? (i := 11) rfl))) (mvT hZ (hw _ (List.mem_of_getElem? (i := 10) rfl))) (by decide) (backOf (W := 0) (rmM l Z a0 hw [] w_GREATER_OR_EQUAL (3 : Int32) w_LESS_OR_EQUAL w_GREATER_OR_EQUAL w_GREATER_OR_EQUAL h0 n0 Z0 S_LESS_OR_EQUAL S_GREATER_OR_EQUAL F_GREATER_OR_EQUAL_ordinal E_GREATER_OR_EQUAL (by decide) (by simp [own_pick])) hZ (hw _ (List.mem_of_getElem? (i := 12) rfl)) (hw _ (List.mem_of_getElem? (i := 6) rfl)) (by decide) (by decide)) q50a q50c (g := (mkF m 90 #[.val (.int p1), .val (.int p2), .val (.ref w_GREATER_OR_EQUAL), .val (.int s1), .val (.ref w_GREATER_OR_EQUAL), .val (.int (1 : Int32))] [(.ref w_GREATER_OR_EQUAL)])) rfl (by rw [hml]; rfl) (Steps.refl _) (argsL := []) (rest := []) (lenOf pd_rm0_1 rfl) rfl (by show 2 * 0 + _ ≤ _; exact Nat.le_of_eq rfl) (hb hby at_90) (fun _ _ => ⟨rfl, hE49, (by decide : 0 + 0 ≤ _), (by decide : 0 + 0 ≤ _)⟩)
      dsimp only [Pt.U, Pt.locs, Pt.cells, Pt.slots] at X50 l50 y50 z50 st50 hQ50
      subst l50 y50 z50
      obtain ⟨rfl, N50q, hE50⟩ := hQ50
      have N50 := Fr.app N49 N50q
      have pre51 : ∀ tt, Steps p.tables e below (T50.setTop (mkF m 103 #[.val (.int p1), .val (.int p2), .val (.ref w_GREATER_OR_EQUAL), .val (.int s1), .val (.ref w_GREATER_OR_EQUAL), .val (.int (1 : Int32))] [(.int (1 : Int32))])) tt → Steps p.tables e below (s₁.setTop (entryFrame m #[(.int p1), (.int p2)] maxLocals)) tt := by
        intro tt kt
        refine pre45 tt ?_
        show Steps p.tables e below (T44.setTop (mkF m 33 #[.val (.int p1), .val (.int p2), .val (.ref w_GREATER_OR_EQUAL), .val (.int s1), .val (.ref w_GREATER_OR_EQUAL), .unset] [(.int s1)])) _
        refine XS.ifYes X44.here hx rfl (pc0 := 33) (pc' := 46) rfl (hb hby at_33) rfl ((if0 _ _).trans (teq c33_46).1) (by decide) (by decide) ?_
        show Steps p.tables e below (T44.setTop (mkF m 46 #[.val (.int p1), .val (.int p2), .val (.ref w_GREATER_OR_EQUAL), .val (.int s1), .val (.ref w_GREATER_OR_EQUAL), .unset] [])) _
        refine XS.aloadN X44.here hx rfl (hb hby at_46) rfl rfl ?_
        show Steps p.tables e below (T44.setTop (mkF m 47 #[.val (.int p1), .val (.int p2), .val (.ref w_GREATER_OR_EQUAL), .val (.int s1), .val (.ref w_GREATER_OR_EQUAL), .unset] [(.ref w_GREATER_OR_EQUAL)])) _
        refine XS.iconst X44.here hx rfl (hb hby at_47) ?_
        show Steps p.tables e below (T44.setTop (mkF m 48 #[.val (.int p1), .val (.int p2), .val (.ref w_GREATER_OR_EQUAL), .val (.int s1), .val (.ref w_GREATER_OR_EQUAL), .unset] [(.int (-1 : Int32)), (.ref w_GREATER_OR_EQUAL)])) _
        refine st47.trans ?_
        show Steps p.tables e below (T47.setTop (mkF m 51 #[.val (.int p1), .val (.int p2), .val (.ref w_GREATER_OR_EQUAL), .val (.int s1), .val (.ref w_GREATER_OR_EQUAL), .unset] [(.int (0 : Int32))])) _
        refine XS.ifNo X47.here hx rfl (hb hby at_51) rfl ((if0 _ _).trans (teq (rfl : (0 : Int32) = (0 : Int32))).2) ?_
        show Steps p.tables e below (T47.setTop (mkF m 54 #[.val (.int p1), .val (.int p2), .val (.ref w_GREATER_OR_EQUAL), .val (.int s1), .val (.ref w_GREATER_OR_EQUAL), .unset] [])) _
        refine XS.aloadN X47.here hx rfl (hb hby at_54) rfl rfl ?_
        show Steps p.tables e below (T47.setTop (mkF m 55 #[.val (.int p1), .val (.int p2), .val (.ref w_GREATER_OR_EQUAL), .val (.int s1), .val (.ref w_GREATER_OR_EQUAL), .unset] [(.ref w_GREATER_OR_EQUAL)])) _
        refine XS.iconst X47.here hx rfl (hb hby at_55) ?_
        show Steps p.tables e below (T47.setTop (mkF m 56 #[.val (.int p1), .val (.int p2), .val (.ref w_GREATER_OR_EQUAL), .val (.int s1), .val (.ref w_GREATER_OR_EQUAL), .unset] [(.int (0 : Int32)), (.ref w_GREATER_OR_EQUAL)])) _
        refine st48.trans ?_
        show Steps p.tables e below (T48.setTop (mkF m 59 #[.val (.int p1), .val (.int p2), .val (.ref w_GREATER_OR_EQUAL), .val (.int s1), .val (.ref w_GREATER_OR_EQUAL), .unset] [(.int (1 : Int32))])) _
        refine XS.ifYes X48.here hx rfl (pc0 := 59) (pc' := 70) rfl (hb hby at_59) rfl ((if0 _ _).trans (feq (by decide : ¬ ((1 : Int32) = (0 : Int32)))).2) (by decide) (by decide) ?_
        show Steps p.tables e below (T48.setTop (mkF m 70 #[.val (.int p1), .val (.int p2), .val (.ref w_GREATER_OR_EQUAL), .val (.int s1), .val (.ref w_GREATER_OR_EQUAL), .unset] [])) _
        refine XS.iconst X48.here hx rfl (hb hby at_70) ?_
        show Steps p.tables e below (T48.setTop (mkF m 71 #[.val (.int p1), .val (.int p2), .val (.ref w_GREATER_OR_EQUAL), .val (.int s1), .val (.ref w_GREATER_OR_EQUAL), .unset] [(.int (1 : Int32))])) _
        refine XS.goto X48.here hx rfl (pc0 := 71) (pc' := 75) rfl (hb hby at_71) (by decide) (by decide) ?_
        show Steps p.tables e below (T48.setTop (mkF m 75 #[.val (.int p1), .val (.int p2), .val (.ref w_GREATER_OR_EQUAL), .val (.int s1), .val (.ref w_GREATER_OR_EQUAL), .unset] [(.int (1 : Int32))])) _
        refine XS.istore X48.here hx rfl (hb hby at_75) rfl (l' := #[.val (.int p1), .val (.int p2), .val (.ref w_GREATER_OR_EQUAL), .val (.int s1), .val (.ref w_GREATER_OR_EQUAL), .val (.int (1 : Int32))]) rfl ?_
        show Steps p.tables e below (T48.setTop (mkF m 77 #[.val (.int p1), .val (.int p2), .val (.ref w_GREATER_OR_EQUAL), .val (.int s1), .val (.ref w_GREATER_OR_EQUAL), .val (.int (1 : Int32))] [])) _
        refine XS.aload X48.here hx rfl (hb hby at_77) rfl rfl ?_
        show Steps p.tables e below (T48.setTop (mkF m 79 #[.val (.int p1), .val (.int p2), .val (.ref w_GREATER_OR_EQUAL), .val (.int s1), .val (.ref w_GREATER_OR_EQUAL), .val (.int (1 : Int32))] [(.ref w_GREATER_OR_EQUAL)])) _
        refine XS.iloadN X48.here hx rfl (hb hby at_79) rfl ?_
        show Steps p.tables e below (T48.setTop (mkF m 80 #[.val (.int p1), .val (.int p2), .val (.ref w_GREATER_OR_EQUAL), .val (.int s1), .val (.ref w_GREATER_OR_EQUAL), .val (.int (1 : Int32))] [(.int s1), (.ref w_GREATER_OR_EQUAL)])) _
        refine st49.trans ?_
        show Steps p.tables e below (T49.setTop (mkF m 83 #[.val (.int p1), .val (.int p2), .val (.ref w_GREATER_OR_EQUAL), .val (.int s1), .val (.ref w_GREATER_OR_EQUAL), .val (.int (1 : Int32))] [(.int (1 : Int32))])) _
        refine XS.iload X49.here hx rfl (hb hby at_83) rfl ?_
        show Steps p.tables e below (T49.setTop (mkF m 85 #[.val (.int p1), .val (.int p2), .val (.ref w_GREATER_OR_EQUAL), .val (.int s1), .val (.ref w_GREATER_OR_EQUAL), .val (.int (1 : Int32))] [(.int (1 : Int32)), (.int (1 : Int32))])) _
        refine XS.icmpNo X49.here hx rfl (hb hby at_85) rfl (teq (rfl : (1 : Int32) = (1 : Int32))).2 ?_
        show Steps p.tables e below (T49.setTop (mkF m 88 #[.val (.int p1), .val (.int p2), .val (.ref w_GREATER_OR_EQUAL), .val (.int s1), .val (.ref w_GREATER_OR_EQUAL), .val (.int (1 : Int32))] [])) _
        refine XS.aload X49.here hx rfl (hb hby at_88) rfl rfl ?_
        show Steps p.tables e below (T49.setTop (mkF m 90 #[.val (.int p1), .val (.int p2), .val (.ref w_GREATER_OR_EQUAL), .val (.int s1), .val (.ref w_GREATER_OR_EQUAL), .val (.int (1 : Int32))] [(.ref w_GREATER_OR_EQUAL)])) _
        refine st50.trans ?_
        show Steps p.tables e below (T50.setTop (mkF m 93 #[.val (.int p1), .val (.int p2), .val (.ref w_GREATER_OR_EQUAL), .val (.int s1), .val (.ref w_GREATER_OR_EQUAL), .val (.int (1 : Int32))] [(.ref w_GREATER_OR_EQUAL)])) _
        refine XS.aload X50.here hx rfl (hb hby at_93) rfl rfl ?_
        show Steps p.tables e below (T50.setTop (mkF m 95 #[.val (.int p1), .val (.int p2), .val (.ref w_GREATER_OR_EQUAL), .val (.int s1), .val (.ref w_GREATER_OR_EQUAL), .val (.int (1 : Int32))] [(.ref w_GREATER_OR_EQUAL), (.ref w_GREATER_OR_EQUAL)])) _
        refine Jvm.RoadKit.acmp (g := (mkF m 95 #[.val (.int p1), .val (.int p2), .val (.ref w_GREATER_OR_EQUAL), .val (.int s1), .val (.ref w_GREATER_OR_EQUAL), .val (.int (1 : Int32))] [(.ref w_GREATER_OR_EQUAL), (.ref w_GREATER_OR_EQUAL)])) X50 hx rfl rfl rfl (pc0 := 95) (pc' := 98) (same := true) rfl (hb hby at_95) rfl (decide_eq_true rfl) (by decide) (by decide) ?_
        show Steps p.tables e below (T50.setTop (mkF m 98 #[.val (.int p1), .val (.int p2), .val (.ref w_GREATER_OR_EQUAL), .val (.int s1), .val (.ref w_GREATER_OR_EQUAL), .val (.int (1 : Int32))] [])) _
        refine XS.iconst X50.here hx rfl (hb hby at_98) ?_
        show Steps p.tables e below (T50.setTop (mkF m 99 #[.val (.int p1), .val (.int p2), .val (.ref w_GREATER_OR_EQUAL), .val (.int s1), .val (.ref w_GREATER_OR_EQUAL), .val (.int (1 : Int32))] [(.int (1 : Int32))])) _
        refine XS.goto X50.here hx rfl (pc0 := 99) (pc' := 103) rfl (hb hby at_99) (by decide) (by decide) ?_
        exact kt
      obtain ⟨fs, hr, hrun, hended, hW, hsame⟩ := X50.leave (v := some (.int (1 : Int32))) (fun h => by rw [Bd.returns] at h; cases h)
      refine ⟨_, _, pre51 _ ?_, hrun, hended, _, _, rfl, ?_, ⟨_, rfl⟩, hW, hsame.mono (by decide) (by decide)⟩
      · show Steps p.tables e below (T50.setTop (mkF m 103 #[.val (.int p1), .val (.int p2), .val (.ref w_GREATER_OR_EQUAL), .val (.int s1), .val (.ref w_GREATER_OR_EQUAL), .val (.int (1 : Int32))] [(.int (1 : Int32))])) _
        exact retN X50 hx (t := .boolean) Bd.returns (by simp) (hb hby at_103) hr
      · show Q0 Z h0 n0 _ T50.heap _
        rw [hE50]
        exact ⟨rfl, N50⟩
    · obtain ⟨cq52, kq52, q52a, q52b, q52c⟩ := isOf hZ hE44 E_GREATER_OR_EQUAL
      obtain ⟨_, _, ⟨T52, L52, k52, n52⟩, -, X52, ⟨Lc52, hQ52, l52, y52, z52⟩, st52⟩ := X44.virtualBack hx (y := (⟨"com/example/prudent_stability/prudentstability/Relation", "holdsFor", "(I)Z"⟩ : MethodName)) (z := (⟨"com/example/prudent_stability/prudentstability/Relation", "holdsFor", "(I)Z"⟩ : MethodName)) hown (mvT hZ (hw _ (List.mem_of_getElem? (i := 24) rfl))) (mvT hZ (hw _ (List.mem_of_getElem? (i := 25) rfl))) (notFace_of_selects (args := #[]) (mvT hZ (hw _ (List.mem_of_getElem? (i := 27) rfl)))) (mvT hZ (hw _ (List.mem_of_getElem? (i := 27) rfl))) (mvT hZ (hw _ (List.mem_of_getElem? (i := 26) rfl))) (by decide) (backOf (W := 0) (rmH l Z a0 hw [] w_GREATER_OR_EQUAL s1 (3 : Int32) (own_hf (3 : Int32) s1) h0 n0 Z0 F_GREATER_OR_EQUAL_ordinal E_GREATER_OR_EQUAL (by decide) rfl) hZ (hw _ (List.mem_of_getElem? (i := 28) rfl)) (hw _ (List.mem_of_getElem? (i := 6) rfl)) (by decide) (by decide)) q52a q52c (g := (mkF m 38 #[.val (.int p1), .val (.int p2), .val (.ref w_GREATER_OR_EQUAL), .val (.int s1), .val (.ref w_GREATER_OR_EQUAL), .unset] [(.int s1), (.ref w_GREATER_OR_EQUAL)])) rfl (by rw [hml]; rfl) (Steps.refl _) (argsL := [(.int s1)]) (rest := []) (lenOf pd_rm0_2 rfl) rfl (by show 2 * 0 + _ ≤ _; exact Nat.le_of_eq rfl) (hb hby at_38) (fun _ _ => ⟨rfl, hE44, (by decide : 0 + 0 ≤ _), (by decide : 0 + 0 ≤ _)⟩)
      dsimp only [Pt.U, Pt.locs, Pt.cells, Pt.slots] at X52 l52 y52 z52 st52 hQ52
      subst l52 y52 z52
      obtain ⟨rfl, N52q, hE52⟩ := hQ52
      have N52 := Fr.app N44 N52q
      obtain ⟨cq53, kq53, q53a, q53b, q53c⟩ := isOf hZ hE52 E_GREATER_OR_EQUAL
      obtain ⟨_, _, ⟨T53, L53, k53, n53⟩, -, X53, ⟨Lc53, hQ53, l53, y53, z53⟩, st53⟩ := X52.virtualBack hx (y := (⟨"com/example/prudent_stability/prudentstability/Relation", "holdsFor", "(I)Z"⟩ : MethodName)) (z := (⟨"com/example/prudent_stability/prudentstability/Relation", "holdsFor", "(I)Z"⟩ : MethodName)) hown (mvT hZ (hw _ (List.mem_of_getElem? (i := 24) rfl))) (mvT hZ (hw _ (List.mem_of_getElem? (i := 25) rfl))) (notFace_of_selects (args := #[]) (mvT hZ (hw _ (List.mem_of_getElem? (i := 27) rfl)))) (mvT hZ (hw _ (List.mem_of_getElem? (i := 27) rfl))) (mvT hZ (hw _ (List.mem_of_getElem? (i := 26) rfl))) (by decide) (backOf (W := 0) (rmH l Z a0 hw [] w_GREATER_OR_EQUAL s1 (3 : Int32) (own_hf (3 : Int32) s1) h0 n0 Z0 F_GREATER_OR_EQUAL_ordinal E_GREATER_OR_EQUAL (by decide) rfl) hZ (hw _ (List.mem_of_getElem? (i := 28) rfl)) (hw _ (List.mem_of_getElem? (i := 6) rfl)) (by decide) (by decide)) q53a q53c (g := (mkF m 80 #[.val (.int p1), .val (.int p2), .val (.ref w_GREATER_OR_EQUAL), .val (.int s1), .val (.ref w_GREATER_OR_EQUAL), .val (.int (own_hf (3 : Int32) s1))] [(.int s1), (.ref w_GREATER_OR_EQUAL)])) rfl (by rw [hml]; rfl) (Steps.refl _) (argsL := [(.int s1)]) (rest := []) (lenOf pd_rm0_2 rfl) rfl (by show 2 * 0 + _ ≤ _; exact Nat.le_of_eq rfl) (hb hby at_80) (fun _ _ => ⟨rfl, hE52, (by decide : 0 + 0 ≤ _), (by decide : 0 + 0 ≤ _)⟩)
      dsimp only [Pt.U, Pt.locs, Pt.cells, Pt.slots] at X53 l53 y53 z53 st53 hQ53
      subst l53 y53 z53
      obtain ⟨rfl, N53q, hE53⟩ := hQ53
      have N53 := Fr.app N52 N53q
      obtain ⟨cq54, kq54, q54a, q54b, q54c⟩ := isOf hZ hE53 E_GREATER_OR_EQUAL
      obtain ⟨_, _, ⟨T54, L54, k54, n54⟩, -, X54, ⟨Lc54, hQ54, l54, y54, z54⟩, st54⟩ := X53.virtualBack hx (y := (⟨"com/example/prudent_stability/prudentstability/Relation", "relaxed", "()Lcom/example/prudent_stability/prudentstability/Relation;"⟩ : MethodName)) (z := (⟨"com/example/prudent_stability/prudentstability/Relation", "relaxed", "()Lcom/example/prudent_stability/prudentstability/Relation;"⟩ : MethodName)) hown (mvT hZ (hw _ (List.mem_of_getElem? (i := 8) rfl))) (mvT hZ (hw _ (List.mem_of_getElem? (i := 9) rfl))) (notFace_of_selects (args := #[]) (mvT hZ (hw _ (List.mem_of_getElem? (i := 11) rfl)))) (mvT hZ (hw _ (List.mem_of_getElem? (i := 11) rfl))) (mvT hZ (hw _ (List.mem_of_getElem? (i := 10) rfl))) (by decide) (backOf (W := 0) (rmM l Z a0 hw [] w_GREATER_OR_EQUAL (3 : Int32) w_LESS_OR_EQUAL w_GREATER_OR_EQUAL w_GREATER_OR_EQUAL h0 n0 Z0 S_LESS_OR_EQUAL S_GREATER_OR_EQUAL F_GREATER_OR_EQUAL_ordinal E_GREATER_OR_EQUAL (by decide) (by simp [own_pick])) hZ (hw _ (List.mem_of_getElem? (i := 12) rfl)) (hw _ (List.mem_of_getElem? (i := 6) rfl)) (by decide) (by decide)) q54a q54c (g := (mkF m 90 #[.val (.int p1), .val (.int p2), .val (.ref w_GREATER_OR_EQUAL), .val (.int s1), .val (.ref w_GREATER_OR_EQUAL), .val (.int (own_hf (3 : Int32) s1))] [(.ref w_GREATER_OR_EQUAL)])) rfl (by rw [hml]; rfl) (Steps.refl _) (argsL := []) (rest := []) (lenOf pd_rm0_1 rfl) rfl (by show 2 * 0 + _ ≤ _; exact Nat.le_of_eq rfl) (hb hby at_90) (fun _ _ => ⟨rfl, hE53, (by decide : 0 + 0 ≤ _), (by decide : 0 + 0 ≤ _)⟩)
      dsimp only [Pt.U, Pt.locs, Pt.cells, Pt.slots] at X54 l54 y54 z54 st54 hQ54
      subst l54 y54 z54
      obtain ⟨rfl, N54q, hE54⟩ := hQ54
      have N54 := Fr.app N53 N54q
      have pre55 : ∀ tt, Steps p.tables e below (T54.setTop (mkF m 103 #[.val (.int p1), .val (.int p2), .val (.ref w_GREATER_OR_EQUAL), .val (.int s1), .val (.ref w_GREATER_OR_EQUAL), .val (.int (own_hf (3 : Int32) s1))] [(.int (1 : Int32))])) tt → Steps p.tables e below (s₁.setTop (entryFrame m #[(.int p1), (.int p2)] maxLocals)) tt := by
        intro tt kt
        refine pre45 tt ?_
        show Steps p.tables e below (T44.setTop (mkF m 33 #[.val (.int p1), .val (.int p2), .val (.ref w_GREATER_OR_EQUAL), .val (.int s1), .val (.ref w_GREATER_OR_EQUAL), .unset] [(.int s1)])) _
        refine XS.ifNo X44.here hx rfl (hb hby at_33) rfl ((if0 _ _).trans (feq c33_46).1) ?_
        show Steps p.tables e below (T44.setTop (mkF m 36 #[.val (.int p1), .val (.int p2), .val (.ref w_GREATER_OR_EQUAL), .val (.int s1), .val (.ref w_GREATER_OR_EQUAL), .unset] [])) _
        refine XS.aloadN X44.here hx rfl (hb hby at_36) rfl rfl ?_
        show Steps p.tables e below (T44.setTop (mkF m 37 #[.val (.int p1), .val (.int p2), .val (.ref w_GREATER_OR_EQUAL), .val (.int s1), .val (.ref w_GREATER_OR_EQUAL), .unset] [(.ref w_GREATER_OR_EQUAL)])) _
        refine XS.iloadN X44.here hx rfl (hb hby at_37) rfl ?_
        show Steps p.tables e below (T44.setTop (mkF m 38 #[.val (.int p1), .val (.int p2), .val (.ref w_GREATER_OR_EQUAL), .val (.int s1), .val (.ref w_GREATER_OR_EQUAL), .unset] [(.int s1), (.ref w_GREATER_OR_EQUAL)])) _
        refine st52.trans ?_
        show Steps p.tables e below (T52.setTop (mkF m 41 #[.val (.int p1), .val (.int p2), .val (.ref w_GREATER_OR_EQUAL), .val (.int s1), .val (.ref w_GREATER_OR_EQUAL), .unset] [(.int (own_hf (3 : Int32) s1))])) _
        refine XS.istore X52.here hx rfl (hb hby at_41) rfl (l' := #[.val (.int p1), .val (.int p2), .val (.ref w_GREATER_OR_EQUAL), .val (.int s1), .val (.ref w_GREATER_OR_EQUAL), .val (.int (own_hf (3 : Int32) s1))]) rfl ?_
        show Steps p.tables e below (T52.setTop (mkF m 43 #[.val (.int p1), .val (.int p2), .val (.ref w_GREATER_OR_EQUAL), .val (.int s1), .val (.ref w_GREATER_OR_EQUAL), .val (.int (own_hf (3 : Int32) s1))] [])) _
        refine XS.goto X52.here hx rfl (pc0 := 43) (pc' := 77) rfl (hb hby at_43) (by decide) (by decide) ?_
        show Steps p.tables e below (T52.setTop (mkF m 77 #[.val (.int p1), .val (.int p2), .val (.ref w_GREATER_OR_EQUAL), .val (.int s1), .val (.ref w_GREATER_OR_EQUAL), .val (.int (own_hf (3 : Int32) s1))] [])) _
        refine XS.aload X52.here hx rfl (hb hby at_77) rfl rfl ?_
        show Steps p.tables e below (T52.setTop (mkF m 79 #[.val (.int p1), .val (.int p2), .val (.ref w_GREATER_OR_EQUAL), .val (.int s1), .val (.ref w_GREATER_OR_EQUAL), .val (.int (own_hf (3 : Int32) s1))] [(.ref w_GREATER_OR_EQUAL)])) _
        refine XS.iloadN X52.here hx rfl (hb hby at_79) rfl ?_
        show Steps p.tables e below (T52.setTop (mkF m 80 #[.val (.int p1), .val (.int p2), .val (.ref w_GREATER_OR_EQUAL), .val (.int s1), .val (.ref w_GREATER_OR_EQUAL), .val (.int (own_hf (3 : Int32) s1))] [(.int s1), (.ref w_GREATER_OR_EQUAL)])) _
        refine st53.trans ?_
        show Steps p.tables e below (T53.setTop (mkF m 83 #[.val (.int p1), .val (.int p2), .val (.ref w_GREATER_OR_EQUAL), .val (.int s1), .val (.ref w_GREATER_OR_EQUAL), .val (.int (own_hf (3 : Int32) s1))] [(.int (own_hf (3 : Int32) s1))])) _
        refine XS.iload X53.here hx rfl (hb hby at_83) rfl ?_
        show Steps p.tables e below (T53.setTop (mkF m 85 #[.val (.int p1), .val (.int p2), .val (.ref w_GREATER_OR_EQUAL), .val (.int s1), .val (.ref w_GREATER_OR_EQUAL), .val (.int (own_hf (3 : Int32) s1))] [(.int (own_hf (3 : Int32) s1)), (.int (own_hf (3 : Int32) s1))])) _
        refine XS.icmpNo X53.here hx rfl (hb hby at_85) rfl (teq (own_hfr (3 : Int32) (3 : Int32) s1 (by decide) rs c33_46)).2 ?_
        show Steps p.tables e below (T53.setTop (mkF m 88 #[.val (.int p1), .val (.int p2), .val (.ref w_GREATER_OR_EQUAL), .val (.int s1), .val (.ref w_GREATER_OR_EQUAL), .val (.int (own_hf (3 : Int32) s1))] [])) _
        refine XS.aload X53.here hx rfl (hb hby at_88) rfl rfl ?_
        show Steps p.tables e below (T53.setTop (mkF m 90 #[.val (.int p1), .val (.int p2), .val (.ref w_GREATER_OR_EQUAL), .val (.int s1), .val (.ref w_GREATER_OR_EQUAL), .val (.int (own_hf (3 : Int32) s1))] [(.ref w_GREATER_OR_EQUAL)])) _
        refine st54.trans ?_
        show Steps p.tables e below (T54.setTop (mkF m 93 #[.val (.int p1), .val (.int p2), .val (.ref w_GREATER_OR_EQUAL), .val (.int s1), .val (.ref w_GREATER_OR_EQUAL), .val (.int (own_hf (3 : Int32) s1))] [(.ref w_GREATER_OR_EQUAL)])) _
        refine XS.aload X54.here hx rfl (hb hby at_93) rfl rfl ?_
        show Steps p.tables e below (T54.setTop (mkF m 95 #[.val (.int p1), .val (.int p2), .val (.ref w_GREATER_OR_EQUAL), .val (.int s1), .val (.ref w_GREATER_OR_EQUAL), .val (.int (own_hf (3 : Int32) s1))] [(.ref w_GREATER_OR_EQUAL), (.ref w_GREATER_OR_EQUAL)])) _
        refine Jvm.RoadKit.acmp (g := (mkF m 95 #[.val (.int p1), .val (.int p2), .val (.ref w_GREATER_OR_EQUAL), .val (.int s1), .val (.ref w_GREATER_OR_EQUAL), .val (.int (own_hf (3 : Int32) s1))] [(.ref w_GREATER_OR_EQUAL), (.ref w_GREATER_OR_EQUAL)])) X54 hx rfl rfl rfl (pc0 := 95) (pc' := 98) (same := true) rfl (hb hby at_95) rfl (decide_eq_true rfl) (by decide) (by decide) ?_
        show Steps p.tables e below (T54.setTop (mkF m 98 #[.val (.int p1), .val (.int p2), .val (.ref w_GREATER_OR_EQUAL), .val (.int s1), .val (.ref w_GREATER_OR_EQUAL), .val (.int (own_hf (3 : Int32) s1))] [])) _
        refine XS.iconst X54.here hx rfl (hb hby at_98) ?_
        show Steps p.tables e below (T54.setTop (mkF m 99 #[.val (.int p1), .val (.int p2), .val (.ref w_GREATER_OR_EQUAL), .val (.int s1), .val (.ref w_GREATER_OR_EQUAL), .val (.int (own_hf (3 : Int32) s1))] [(.int (1 : Int32))])) _
        refine XS.goto X54.here hx rfl (pc0 := 99) (pc' := 103) rfl (hb hby at_99) (by decide) (by decide) ?_
        exact kt
      obtain ⟨fs, hr, hrun, hended, hW, hsame⟩ := X54.leave (v := some (.int (1 : Int32))) (fun h => by rw [Bd.returns] at h; cases h)
      refine ⟨_, _, pre55 _ ?_, hrun, hended, _, _, rfl, ?_, ⟨_, rfl⟩, hW, hsame.mono (by decide) (by decide)⟩
      · show Steps p.tables e below (T54.setTop (mkF m 103 #[.val (.int p1), .val (.int p2), .val (.ref w_GREATER_OR_EQUAL), .val (.int s1), .val (.ref w_GREATER_OR_EQUAL), .val (.int (own_hf (3 : Int32) s1))] [(.int (1 : Int32))])) _
        exact retN X54 hx (t := .boolean) Bd.returns (by simp) (hb hby at_103) hr
      · show Q0 Z h0 n0 _ T54.heap _
        rw [hE54]
        exact ⟨rfl, N54⟩
  · obtain ⟨_, _, ⟨T56, L56, k56, n56⟩, -, X56, ⟨Lc56, hQ56, l56, y56, z56⟩, st56⟩ := Jvm.LawKit.callS X0 hx (y := (⟨"com/example/prudent_stability/prudentstability/RelationRelaxedPinLaw", "pick", "(I)Lcom/example/prudent_stability/prudentstability/Relation;"⟩ : MethodName)) hown (mvT hZ (hw _ (List.mem_of_getElem? (i := 1) rfl))) (mvT hZ (hw _ (List.mem_of_getElem? (i := 2) rfl))) (mvT hZ (hw _ (List.mem_of_getElem? (i := 3) rfl))) (mvT hZ (hw _ (List.mem_of_getElem? (i := 4) rfl))) (by decide) (backOf (W := 0) (rmP l Z a0 hw [] (4 : Int32) w_LESS w_LESS_OR_EQUAL w_EQUAL w_GREATER_OR_EQUAL w_GREATER w_GREATER h0 n0 Z0 S_LESS S_LESS_OR_EQUAL S_EQUAL S_GREATER_OR_EQUAL S_GREATER (by simp [own_pick])) hZ (hw _ (List.mem_of_getElem? (i := 4) rfl)) (hw _ (List.mem_of_getElem? (i := 3) rfl)) (by decide) (by decide)) (g := (mkF m 6 #[.val (.int p1), .val (.int p2), .unset, .unset, .unset, .unset] [(.int (4 : Int32))])) rfl (by rw [hml]; rfl) (argsL := [(.int (4 : Int32))]) (rest := []) (lenOf pd_rm0_0 rfl) rfl (by show 2 * 0 + _ ≤ _; exact Nat.le_of_eq rfl) (hb hby at_6) (fun _ _ => ⟨rfl, e0, (by decide : 0 + 0 ≤ _), (by decide : 0 + 0 ≤ _)⟩)
    dsimp only [Pt.U, Pt.locs, Pt.cells, Pt.slots] at X56 l56 y56 z56 st56 hQ56
    subst l56 y56 z56
    obtain ⟨rfl, N56q, hE56⟩ := hQ56
    have N56 := Fr.app N0 N56q
    have rt := own_of3 (own_rem p2 (3 : Int32) (by decide))
    obtain ⟨s1, hs1⟩ : ∃ z : Int32, z = (((p2 &&& (2147483647 : Int32)) % (3 : Int32)) - (1 : Int32)) := ⟨_, rfl⟩
    have pre57 : ∀ tt, Steps p.tables e below (T56.setTop (mkF m 18 #[.val (.int p1), .val (.int p2), .val (.ref w_GREATER), .unset, .unset, .unset] [(.int s1)])) tt → Steps p.tables e below (s₁.setTop (entryFrame m #[(.int p1), (.int p2)] maxLocals)) tt := by
      intro tt kt
      refine pre1 tt ?_
      show Steps p.tables e below (s₁.setTop (mkF m 6 #[.val (.int p1), .val (.int p2), .unset, .unset, .unset, .unset] [(.int (4 : Int32))])) _
      refine st56 _ ?_
      show Steps p.tables e below (T56.setTop (mkF m 9 #[.val (.int p1), .val (.int p2), .unset, .unset, .unset, .unset] [(.ref w_GREATER)])) _
      refine XS.astoreN X56.here hx rfl (hb hby at_9) rfl rfl (l' := #[.val (.int p1), .val (.int p2), .val (.ref w_GREATER), .unset, .unset, .unset]) rfl ?_
      show Steps p.tables e below (T56.setTop (mkF m 10 #[.val (.int p1), .val (.int p2), .val (.ref w_GREATER), .unset, .unset, .unset] [])) _
      refine XS.iloadN X56.here hx rfl (hb hby at_10) rfl ?_
      show Steps p.tables e below (T56.setTop (mkF m 11 #[.val (.int p1), .val (.int p2), .val (.ref w_GREATER), .unset, .unset, .unset] [(.int p2)])) _
      refine X56.ldcInt hx hown (mvT hZ (hw _ (List.mem_of_getElem? (i := 0) rfl))) (g := (mkF m 11 #[.val (.int p1), .val (.int p2), .val (.ref w_GREATER), .unset, .unset, .unset] [(.int p2)])) rfl (hb hby at_11) _ ?_
      show Steps p.tables e below (T56.setTop (mkF m 13 #[.val (.int p1), .val (.int p2), .val (.ref w_GREATER), .unset, .unset, .unset] [(.int (2147483647 : Int32)), (.int p2)])) _
      refine XS.iand X56.here hx rfl (hb hby at_13) rfl ?_
      show Steps p.tables e below (T56.setTop (mkF m 14 #[.val (.int p1), .val (.int p2), .val (.ref w_GREATER), .unset, .unset, .unset] [(.int (p2 &&& (2147483647 : Int32)))])) _
      refine XS.iconst X56.here hx rfl (hb hby at_14) ?_
      show Steps p.tables e below (T56.setTop (mkF m 15 #[.val (.int p1), .val (.int p2), .val (.ref w_GREATER), .unset, .unset, .unset] [(.int (3 : Int32)), (.int (p2 &&& (2147483647 : Int32)))])) _
      refine iremM (g := (mkF m 15 #[.val (.int p1), .val (.int p2), .val (.ref w_GREATER), .unset, .unset, .unset] [(.int (3 : Int32)), (.int (p2 &&& (2147483647 : Int32)))])) X56 hx rfl (hb hby at_15) rfl (by decide : ¬ ((3 : Int32) = (0 : Int32))) ?_
      show Steps p.tables e below (T56.setTop (mkF m 16 #[.val (.int p1), .val (.int p2), .val (.ref w_GREATER), .unset, .unset, .unset] [(.int ((p2 &&& (2147483647 : Int32)) % (3 : Int32)))])) _
      refine XS.iconst X56.here hx rfl (hb hby at_16) ?_
      show Steps p.tables e below (T56.setTop (mkF m 17 #[.val (.int p1), .val (.int p2), .val (.ref w_GREATER), .unset, .unset, .unset] [(.int (1 : Int32)), (.int ((p2 &&& (2147483647 : Int32)) % (3 : Int32)))])) _
      refine XS.isub X56.here hx rfl (hb hby at_17) rfl ?_
      show Steps p.tables e below (T56.setTop (mkF m 18 #[.val (.int p1), .val (.int p2), .val (.ref w_GREATER), .unset, .unset, .unset] [(.int (((p2 &&& (2147483647 : Int32)) % (3 : Int32)) - (1 : Int32)))])) _
      rw [← hs1]
      exact kt
    have rs : s1 = -1 ∨ s1 = 0 ∨ s1 = 1 := by
      rw [hs1]; rcases rt with q | q | q <;> rw [q] <;> decide
    clear hs1 rt
    obtain ⟨cq58, kq58, q58a, q58b, q58c⟩ := isOf hZ hE56 E_GREATER
    obtain ⟨_, _, ⟨T58, L58, k58, n58⟩, -, X58, ⟨Lc58, hQ58, l58, y58, z58⟩, st58⟩ := X56.virtualBack hx (y := (⟨"com/example/prudent_stability/prudentstability/Relation", "relaxed", "()Lcom/example/prudent_stability/prudentstability/Relation;"⟩ : MethodName)) (z := (⟨"com/example/prudent_stability/prudentstability/Relation", "relaxed", "()Lcom/example/prudent_stability/prudentstability/Relation;"⟩ : MethodName)) hown (mvT hZ (hw _ (List.mem_of_getElem? (i := 8) rfl))) (mvT hZ (hw _ (List.mem_of_getElem? (i := 9) rfl))) (notFace_of_selects (args := #[]) (mvT hZ (hw _ (List.mem_of_getElem? (i := 11) rfl)))) (mvT hZ (hw _ (List.mem_of_getElem? (i := 11) rfl))) (mvT hZ (hw _ (List.mem_of_getElem? (i := 10) rfl))) (by decide) (backOf (W := 0) (rmM l Z a0 hw [] w_GREATER (4 : Int32) w_LESS_OR_EQUAL w_GREATER_OR_EQUAL w_GREATER_OR_EQUAL h0 n0 Z0 S_LESS_OR_EQUAL S_GREATER_OR_EQUAL F_GREATER_ordinal E_GREATER (by decide) (by simp [own_pick])) hZ (hw _ (List.mem_of_getElem? (i := 12) rfl)) (hw _ (List.mem_of_getElem? (i := 6) rfl)) (by decide) (by decide)) q58a q58c (g := (mkF m 20 #[.val (.int p1), .val (.int p2), .val (.ref w_GREATER), .val (.int s1), .unset, .unset] [(.ref w_GREATER)])) rfl (by rw [hml]; rfl) (Steps.refl _) (argsL := []) (rest := []) (lenOf pd_rm0_1 rfl) rfl (by show 2 * 0 + _ ≤ _; exact Nat.le_of_eq rfl) (hb hby at_20) (fun _ _ => ⟨rfl, hE56, (by decide : 0 + 0 ≤ _), (by decide : 0 + 0 ≤ _)⟩)
    dsimp only [Pt.U, Pt.locs, Pt.cells, Pt.slots] at X58 l58 y58 z58 st58 hQ58
    subst l58 y58 z58
    obtain ⟨rfl, N58q, hE58⟩ := hQ58
    have N58 := Fr.app N56 N58q
    have pre59 : ∀ tt, Steps p.tables e below (T58.setTop (mkF m 33 #[.val (.int p1), .val (.int p2), .val (.ref w_GREATER), .val (.int s1), .val (.ref w_GREATER_OR_EQUAL), .unset] [(.int s1)])) tt → Steps p.tables e below (s₁.setTop (entryFrame m #[(.int p1), (.int p2)] maxLocals)) tt := by
      intro tt kt
      refine pre57 tt ?_
      show Steps p.tables e below (T56.setTop (mkF m 18 #[.val (.int p1), .val (.int p2), .val (.ref w_GREATER), .unset, .unset, .unset] [(.int s1)])) _
      refine XS.istoreN X56.here hx rfl (hb hby at_18) rfl (l' := #[.val (.int p1), .val (.int p2), .val (.ref w_GREATER), .val (.int s1), .unset, .unset]) rfl ?_
      show Steps p.tables e below (T56.setTop (mkF m 19 #[.val (.int p1), .val (.int p2), .val (.ref w_GREATER), .val (.int s1), .unset, .unset] [])) _
      refine XS.aloadN X56.here hx rfl (hb hby at_19) rfl rfl ?_
      show Steps p.tables e below (T56.setTop (mkF m 20 #[.val (.int p1), .val (.int p2), .val (.ref w_GREATER), .val (.int s1), .unset, .unset] [(.ref w_GREATER)])) _
      refine st58.trans ?_
      show Steps p.tables e below (T58.setTop (mkF m 23 #[.val (.int p1), .val (.int p2), .val (.ref w_GREATER), .val (.int s1), .unset, .unset] [(.ref w_GREATER_OR_EQUAL)])) _
      refine XS.astore X58.here hx rfl (hb hby at_23) rfl rfl (l' := #[.val (.int p1), .val (.int p2), .val (.ref w_GREATER), .val (.int s1), .val (.ref w_GREATER_OR_EQUAL), .unset]) rfl ?_
      show Steps p.tables e below (T58.setTop (mkF m 25 #[.val (.int p1), .val (.int p2), .val (.ref w_GREATER), .val (.int s1), .val (.ref w_GREATER_OR_EQUAL), .unset] [])) _
      refine XS.aload X58.here hx rfl (hb hby at_25) rfl rfl ?_
      show Steps p.tables e below (T58.setTop (mkF m 27 #[.val (.int p1), .val (.int p2), .val (.ref w_GREATER), .val (.int s1), .val (.ref w_GREATER_OR_EQUAL), .unset] [(.ref w_GREATER_OR_EQUAL)])) _
      refine XS.ifnonnullYes X58.here hx rfl (pc0 := 27) (pc' := 32) rfl (hb hby at_27) rfl (by decide) (by decide) ?_
      show Steps p.tables e below (T58.setTop (mkF m 32 #[.val (.int p1), .val (.int p2), .val (.ref w_GREATER), .val (.int s1), .val (.ref w_GREATER_OR_EQUAL), .unset] [])) _
      refine XS.iloadN X58.here hx rfl (hb hby at_32) rfl ?_
      exact kt
    by_cases c33_60 : s1 = (0 : Int32)
    · obtain ⟨cq61, kq61, q61a, q61b, q61c⟩ := isOf hZ hE58 E_GREATER
      obtain ⟨_, _, ⟨T61, L61, k61, n61⟩, -, X61, ⟨Lc61, hQ61, l61, y61, z61⟩, st61⟩ := X58.virtualBack hx (y := (⟨"com/example/prudent_stability/prudentstability/Relation", "holdsFor", "(I)Z"⟩ : MethodName)) (z := (⟨"com/example/prudent_stability/prudentstability/Relation", "holdsFor", "(I)Z"⟩ : MethodName)) hown (mvT hZ (hw _ (List.mem_of_getElem? (i := 24) rfl))) (mvT hZ (hw _ (List.mem_of_getElem? (i := 25) rfl))) (notFace_of_selects (args := #[]) (mvT hZ (hw _ (List.mem_of_getElem? (i := 27) rfl)))) (mvT hZ (hw _ (List.mem_of_getElem? (i := 27) rfl))) (mvT hZ (hw _ (List.mem_of_getElem? (i := 26) rfl))) (by decide) (backOf (W := 0) (rmH l Z a0 hw [] w_GREATER (-1 : Int32) (4 : Int32) (0 : Int32) h0 n0 Z0 F_GREATER_ordinal E_GREATER (by decide) (by decide)) hZ (hw _ (List.mem_of_getElem? (i := 28) rfl)) (hw _ (List.mem_of_getElem? (i := 6) rfl)) (by decide) (by decide)) q61a q61c (g := (mkF m 48 #[.val (.int p1), .val (.int p2), .val (.ref w_GREATER), .val (.int s1), .val (.ref w_GREATER_OR_EQUAL), .unset] [(.int (-1 : Int32)), (.ref w_GREATER)])) rfl (by rw [hml]; rfl) (Steps.refl _) (argsL := [(.int (-1 : Int32))]) (rest := []) (lenOf pd_rm0_2 rfl) rfl (by show 2 * 0 + _ ≤ _; exact Nat.le_of_eq rfl) (hb hby at_48) (fun _ _ => ⟨rfl, hE58, (by decide : 0 + 0 ≤ _), (by decide : 0 + 0 ≤ _)⟩)
      dsimp only [Pt.U, Pt.locs, Pt.cells, Pt.slots] at X61 l61 y61 z61 st61 hQ61
      subst l61 y61 z61
      obtain ⟨rfl, N61q, hE61⟩ := hQ61
      have N61 := Fr.app N58 N61q
      obtain ⟨cq62, kq62, q62a, q62b, q62c⟩ := isOf hZ hE61 E_GREATER
      obtain ⟨_, _, ⟨T62, L62, k62, n62⟩, -, X62, ⟨Lc62, hQ62, l62, y62, z62⟩, st62⟩ := X61.virtualBack hx (y := (⟨"com/example/prudent_stability/prudentstability/Relation", "holdsFor", "(I)Z"⟩ : MethodName)) (z := (⟨"com/example/prudent_stability/prudentstability/Relation", "holdsFor", "(I)Z"⟩ : MethodName)) hown (mvT hZ (hw _ (List.mem_of_getElem? (i := 24) rfl))) (mvT hZ (hw _ (List.mem_of_getElem? (i := 25) rfl))) (notFace_of_selects (args := #[]) (mvT hZ (hw _ (List.mem_of_getElem? (i := 27) rfl)))) (mvT hZ (hw _ (List.mem_of_getElem? (i := 27) rfl))) (mvT hZ (hw _ (List.mem_of_getElem? (i := 26) rfl))) (by decide) (backOf (W := 0) (rmH l Z a0 hw [] w_GREATER (0 : Int32) (4 : Int32) (0 : Int32) h0 n0 Z0 F_GREATER_ordinal E_GREATER (by decide) (by decide)) hZ (hw _ (List.mem_of_getElem? (i := 28) rfl)) (hw _ (List.mem_of_getElem? (i := 6) rfl)) (by decide) (by decide)) q62a q62c (g := (mkF m 56 #[.val (.int p1), .val (.int p2), .val (.ref w_GREATER), .val (.int s1), .val (.ref w_GREATER_OR_EQUAL), .unset] [(.int (0 : Int32)), (.ref w_GREATER)])) rfl (by rw [hml]; rfl) (Steps.refl _) (argsL := [(.int (0 : Int32))]) (rest := []) (lenOf pd_rm0_2 rfl) rfl (by show 2 * 0 + _ ≤ _; exact Nat.le_of_eq rfl) (hb hby at_56) (fun _ _ => ⟨rfl, hE61, (by decide : 0 + 0 ≤ _), (by decide : 0 + 0 ≤ _)⟩)
      dsimp only [Pt.U, Pt.locs, Pt.cells, Pt.slots] at X62 l62 y62 z62 st62 hQ62
      subst l62 y62 z62
      obtain ⟨rfl, N62q, hE62⟩ := hQ62
      have N62 := Fr.app N61 N62q
      obtain ⟨cq63, kq63, q63a, q63b, q63c⟩ := isOf hZ hE62 E_GREATER
      obtain ⟨_, _, ⟨T63, L63, k63, n63⟩, -, X63, ⟨Lc63, hQ63, l63, y63, z63⟩, st63⟩ := X62.virtualBack hx (y := (⟨"com/example/prudent_stability/prudentstability/Relation", "holdsFor", "(I)Z"⟩ : MethodName)) (z := (⟨"com/example/prudent_stability/prudentstability/Relation", "holdsFor", "(I)Z"⟩ : MethodName)) hown (mvT hZ (hw _ (List.mem_of_getElem? (i := 24) rfl))) (mvT hZ (hw _ (List.mem_of_getElem? (i := 25) rfl))) (notFace_of_selects (args := #[]) (mvT hZ (hw _ (List.mem_of_getElem? (i := 27) rfl)))) (mvT hZ (hw _ (List.mem_of_getElem? (i := 27) rfl))) (mvT hZ (hw _ (List.mem_of_getElem? (i := 26) rfl))) (by decide) (backOf (W := 0) (rmH l Z a0 hw [] w_GREATER (1 : Int32) (4 : Int32) (1 : Int32) h0 n0 Z0 F_GREATER_ordinal E_GREATER (by decide) (by decide)) hZ (hw _ (List.mem_of_getElem? (i := 28) rfl)) (hw _ (List.mem_of_getElem? (i := 6) rfl)) (by decide) (by decide)) q63a q63c (g := (mkF m 64 #[.val (.int p1), .val (.int p2), .val (.ref w_GREATER), .val (.int s1), .val (.ref w_GREATER_OR_EQUAL), .unset] [(.int (1 : Int32)), (.ref w_GREATER)])) rfl (by rw [hml]; rfl) (Steps.refl _) (argsL := [(.int (1 : Int32))]) (rest := []) (lenOf pd_rm0_2 rfl) rfl (by show 2 * 0 + _ ≤ _; exact Nat.le_of_eq rfl) (hb hby at_64) (fun _ _ => ⟨rfl, hE62, (by decide : 0 + 0 ≤ _), (by decide : 0 + 0 ≤ _)⟩)
      dsimp only [Pt.U, Pt.locs, Pt.cells, Pt.slots] at X63 l63 y63 z63 st63 hQ63
      subst l63 y63 z63
      obtain ⟨rfl, N63q, hE63⟩ := hQ63
      have N63 := Fr.app N62 N63q
      obtain ⟨cq64, kq64, q64a, q64b, q64c⟩ := isOf hZ hE63 E_GREATER_OR_EQUAL
      obtain ⟨_, _, ⟨T64, L64, k64, n64⟩, -, X64, ⟨Lc64, hQ64, l64, y64, z64⟩, st64⟩ := X63.virtualBack hx (y := (⟨"com/example/prudent_stability/prudentstability/Relation", "holdsFor", "(I)Z"⟩ : MethodName)) (z := (⟨"com/example/prudent_stability/prudentstability/Relation", "holdsFor", "(I)Z"⟩ : MethodName)) hown (mvT hZ (hw _ (List.mem_of_getElem? (i := 24) rfl))) (mvT hZ (hw _ (List.mem_of_getElem? (i := 25) rfl))) (notFace_of_selects (args := #[]) (mvT hZ (hw _ (List.mem_of_getElem? (i := 27) rfl)))) (mvT hZ (hw _ (List.mem_of_getElem? (i := 27) rfl))) (mvT hZ (hw _ (List.mem_of_getElem? (i := 26) rfl))) (by decide) (backOf (W := 0) (rmH l Z a0 hw [] w_GREATER_OR_EQUAL s1 (3 : Int32) (1 : Int32) h0 n0 Z0 F_GREATER_OR_EQUAL_ordinal E_GREATER_OR_EQUAL (by decide) (by rw [c33_60]; decide)) hZ (hw _ (List.mem_of_getElem? (i := 28) rfl)) (hw _ (List.mem_of_getElem? (i := 6) rfl)) (by decide) (by decide)) q64a q64c (g := (mkF m 80 #[.val (.int p1), .val (.int p2), .val (.ref w_GREATER), .val (.int s1), .val (.ref w_GREATER_OR_EQUAL), .val (.int (1 : Int32))] [(.int s1), (.ref w_GREATER_OR_EQUAL)])) rfl (by rw [hml]; rfl) (Steps.refl _) (argsL := [(.int s1)]) (rest := []) (lenOf pd_rm0_2 rfl) rfl (by show 2 * 0 + _ ≤ _; exact Nat.le_of_eq rfl) (hb hby at_80) (fun _ _ => ⟨rfl, hE63, (by decide : 0 + 0 ≤ _), (by decide : 0 + 0 ≤ _)⟩)
      dsimp only [Pt.U, Pt.locs, Pt.cells, Pt.slots] at X64 l64 y64 z64 st64 hQ64
      subst l64 y64 z64
      obtain ⟨rfl, N64q, hE64⟩ := hQ64
      have N64 := Fr.app N63 N64q
      obtain ⟨cq65, kq65, q65a, q65b, q65c⟩ := isOf hZ hE64 E_GREATER_OR_EQUAL
      obtain ⟨_, _, ⟨T65, L65, k65, n65⟩, -, X65, ⟨Lc65, hQ65, l65, y65, z65⟩, st65⟩ := X64.virtualBack hx (y := (⟨"com/example/prudent_stability/prudentstability/Relation", "relaxed", "()Lcom/example/prudent_stability/prudentstability/Relation;"⟩ : MethodName)) (z := (⟨"com/example/prudent_stability/prudentstability/Relation", "relaxed", "()Lcom/example/prudent_stability/prudentstability/Relation;"⟩ : MethodName)) hown (mvT hZ (hw _ (List.mem_of_getElem? (i := 8) rfl))) (mvT hZ (hw _ (List.mem_of_getElem? (i := 9) rfl))) (notFace_of_selects (args := #[]) (mvT hZ (hw _ (List.mem_of_getElem? (i := 11) rfl)))) (mvT hZ (hw _ (List.mem_of_getElem? (i := 11) rfl))) (mvT hZ (hw _ (List.mem_of_getElem? (i := 10) rfl))) (by decide) (backOf (W := 0) (rmM l Z a0 hw [] w_GREATER_OR_EQUAL (3 : Int32) w_LESS_OR_EQUAL w_GREATER_OR_EQUAL w_GREATER_OR_EQUAL h0 n0 Z0 S_LESS_OR_EQUAL S_GREATER_OR_EQUAL F_GREATER_OR_EQUAL_ordinal E_GREATER_OR_EQUAL (by decide) (by simp [own_pick])) hZ (hw _ (List.mem_of_getElem? (i := 12) rfl)) (hw _ (List.mem_of_getElem? (i := 6) rfl)) (by decide) (by decide)) q65a q65c (g := (mkF m 90 #[.val (.int p1), .val (.int p2), .val (.ref w_GREATER), .val (.int s1), .val (.ref w_GREATER_OR_EQUAL), .val (.int (1 : Int32))] [(.ref w_GREATER_OR_EQUAL)])) rfl (by rw [hml]; rfl) (Steps.refl _) (argsL := []) (rest := []) (lenOf pd_rm0_1 rfl) rfl (by show 2 * 0 + _ ≤ _; exact Nat.le_of_eq rfl) (hb hby at_90) (fun _ _ => ⟨rfl, hE64, (by decide : 0 + 0 ≤ _), (by decide : 0 + 0 ≤ _)⟩)
      dsimp only [Pt.U, Pt.locs, Pt.cells, Pt.slots] at X65 l65 y65 z65 st65 hQ65
      subst l65 y65 z65
      obtain ⟨rfl, N65q, hE65⟩ := hQ65
      have N65 := Fr.app N64 N65q
      have pre66 : ∀ tt, Steps p.tables e below (T65.setTop (mkF m 103 #[.val (.int p1), .val (.int p2), .val (.ref w_GREATER), .val (.int s1), .val (.ref w_GREATER_OR_EQUAL), .val (.int (1 : Int32))] [(.int (1 : Int32))])) tt → Steps p.tables e below (s₁.setTop (entryFrame m #[(.int p1), (.int p2)] maxLocals)) tt := by
        intro tt kt
        refine pre59 tt ?_
        show Steps p.tables e below (T58.setTop (mkF m 33 #[.val (.int p1), .val (.int p2), .val (.ref w_GREATER), .val (.int s1), .val (.ref w_GREATER_OR_EQUAL), .unset] [(.int s1)])) _
        refine XS.ifYes X58.here hx rfl (pc0 := 33) (pc' := 46) rfl (hb hby at_33) rfl ((if0 _ _).trans (teq c33_60).1) (by decide) (by decide) ?_
        show Steps p.tables e below (T58.setTop (mkF m 46 #[.val (.int p1), .val (.int p2), .val (.ref w_GREATER), .val (.int s1), .val (.ref w_GREATER_OR_EQUAL), .unset] [])) _
        refine XS.aloadN X58.here hx rfl (hb hby at_46) rfl rfl ?_
        show Steps p.tables e below (T58.setTop (mkF m 47 #[.val (.int p1), .val (.int p2), .val (.ref w_GREATER), .val (.int s1), .val (.ref w_GREATER_OR_EQUAL), .unset] [(.ref w_GREATER)])) _
        refine XS.iconst X58.here hx rfl (hb hby at_47) ?_
        show Steps p.tables e below (T58.setTop (mkF m 48 #[.val (.int p1), .val (.int p2), .val (.ref w_GREATER), .val (.int s1), .val (.ref w_GREATER_OR_EQUAL), .unset] [(.int (-1 : Int32)), (.ref w_GREATER)])) _
        refine st61.trans ?_
        show Steps p.tables e below (T61.setTop (mkF m 51 #[.val (.int p1), .val (.int p2), .val (.ref w_GREATER), .val (.int s1), .val (.ref w_GREATER_OR_EQUAL), .unset] [(.int (0 : Int32))])) _
        refine XS.ifNo X61.here hx rfl (hb hby at_51) rfl ((if0 _ _).trans (teq (rfl : (0 : Int32) = (0 : Int32))).2) ?_
        show Steps p.tables e below (T61.setTop (mkF m 54 #[.val (.int p1), .val (.int p2), .val (.ref w_GREATER), .val (.int s1), .val (.ref w_GREATER_OR_EQUAL), .unset] [])) _
        refine XS.aloadN X61.here hx rfl (hb hby at_54) rfl rfl ?_
        show Steps p.tables e below (T61.setTop (mkF m 55 #[.val (.int p1), .val (.int p2), .val (.ref w_GREATER), .val (.int s1), .val (.ref w_GREATER_OR_EQUAL), .unset] [(.ref w_GREATER)])) _
        refine XS.iconst X61.here hx rfl (hb hby at_55) ?_
        show Steps p.tables e below (T61.setTop (mkF m 56 #[.val (.int p1), .val (.int p2), .val (.ref w_GREATER), .val (.int s1), .val (.ref w_GREATER_OR_EQUAL), .unset] [(.int (0 : Int32)), (.ref w_GREATER)])) _
        refine st62.trans ?_
        show Steps p.tables e below (T62.setTop (mkF m 59 #[.val (.int p1), .val (.int p2), .val (.ref w_GREATER), .val (.int s1), .val (.ref w_GREATER_OR_EQUAL), .unset] [(.int (0 : Int32))])) _
        refine XS.ifNo X62.here hx rfl (hb hby at_59) rfl ((if0 _ _).trans (teq (rfl : (0 : Int32) = (0 : Int32))).2) ?_
        show Steps p.tables e below (T62.setTop (mkF m 62 #[.val (.int p1), .val (.int p2), .val (.ref w_GREATER), .val (.int s1), .val (.ref w_GREATER_OR_EQUAL), .unset] [])) _
        refine XS.aloadN X62.here hx rfl (hb hby at_62) rfl rfl ?_
        show Steps p.tables e below (T62.setTop (mkF m 63 #[.val (.int p1), .val (.int p2), .val (.ref w_GREATER), .val (.int s1), .val (.ref w_GREATER_OR_EQUAL), .unset] [(.ref w_GREATER)])) _
        refine XS.iconst X62.here hx rfl (hb hby at_63) ?_
        show Steps p.tables e below (T62.setTop (mkF m 64 #[.val (.int p1), .val (.int p2), .val (.ref w_GREATER), .val (.int s1), .val (.ref w_GREATER_OR_EQUAL), .unset] [(.int (1 : Int32)), (.ref w_GREATER)])) _
        refine st63.trans ?_
        show Steps p.tables e below (T63.setTop (mkF m 67 #[.val (.int p1), .val (.int p2), .val (.ref w_GREATER), .val (.int s1), .val (.ref w_GREATER_OR_EQUAL), .unset] [(.int (1 : Int32))])) _
        refine XS.ifNo X63.here hx rfl (hb hby at_67) rfl ((if0 _ _).trans (feq (by decide : ¬ ((1 : Int32) = (0 : Int32)))).1) ?_
        show Steps p.tables e below (T63.setTop (mkF m 70 #[.val (.int p1), .val (.int p2), .val (.ref w_GREATER), .val (.int s1), .val (.ref w_GREATER_OR_EQUAL), .unset] [])) _
        refine XS.iconst X63.here hx rfl (hb hby at_70) ?_
        show Steps p.tables e below (T63.setTop (mkF m 71 #[.val (.int p1), .val (.int p2), .val (.ref w_GREATER), .val (.int s1), .val (.ref w_GREATER_OR_EQUAL), .unset] [(.int (1 : Int32))])) _
        refine XS.goto X63.here hx rfl (pc0 := 71) (pc' := 75) rfl (hb hby at_71) (by decide) (by decide) ?_
        show Steps p.tables e below (T63.setTop (mkF m 75 #[.val (.int p1), .val (.int p2), .val (.ref w_GREATER), .val (.int s1), .val (.ref w_GREATER_OR_EQUAL), .unset] [(.int (1 : Int32))])) _
        refine XS.istore X63.here hx rfl (hb hby at_75) rfl (l' := #[.val (.int p1), .val (.int p2), .val (.ref w_GREATER), .val (.int s1), .val (.ref w_GREATER_OR_EQUAL), .val (.int (1 : Int32))]) rfl ?_
        show Steps p.tables e below (T63.setTop (mkF m 77 #[.val (.int p1), .val (.int p2), .val (.ref w_GREATER), .val (.int s1), .val (.ref w_GREATER_OR_EQUAL), .val (.int (1 : Int32))] [])) _
        refine XS.aload X63.here hx rfl (hb hby at_77) rfl rfl ?_
        show Steps p.tables e below (T63.setTop (mkF m 79 #[.val (.int p1), .val (.int p2), .val (.ref w_GREATER), .val (.int s1), .val (.ref w_GREATER_OR_EQUAL), .val (.int (1 : Int32))] [(.ref w_GREATER_OR_EQUAL)])) _
        refine XS.iloadN X63.here hx rfl (hb hby at_79) rfl ?_
        show Steps p.tables e below (T63.setTop (mkF m 80 #[.val (.int p1), .val (.int p2), .val (.ref w_GREATER), .val (.int s1), .val (.ref w_GREATER_OR_EQUAL), .val (.int (1 : Int32))] [(.int s1), (.ref w_GREATER_OR_EQUAL)])) _
        refine st64.trans ?_
        show Steps p.tables e below (T64.setTop (mkF m 83 #[.val (.int p1), .val (.int p2), .val (.ref w_GREATER), .val (.int s1), .val (.ref w_GREATER_OR_EQUAL), .val (.int (1 : Int32))] [(.int (1 : Int32))])) _
        refine XS.iload X64.here hx rfl (hb hby at_83) rfl ?_
        show Steps p.tables e below (T64.setTop (mkF m 85 #[.val (.int p1), .val (.int p2), .val (.ref w_GREATER), .val (.int s1), .val (.ref w_GREATER_OR_EQUAL), .val (.int (1 : Int32))] [(.int (1 : Int32)), (.int (1 : Int32))])) _
        refine XS.icmpNo X64.here hx rfl (hb hby at_85) rfl (teq (rfl : (1 : Int32) = (1 : Int32))).2 ?_
        show Steps p.tables e below (T64.setTop (mkF m 88 #[.val (.int p1), .val (.int p2), .val (.ref w_GREATER), .val (.int s1), .val (.ref w_GREATER_OR_EQUAL), .val (.int (1 : Int32))] [])) _
        refine XS.aload X64.here hx rfl (hb hby at_88) rfl rfl ?_
        show Steps p.tables e below (T64.setTop (mkF m 90 #[.val (.int p1), .val (.int p2), .val (.ref w_GREATER), .val (.int s1), .val (.ref w_GREATER_OR_EQUAL), .val (.int (1 : Int32))] [(.ref w_GREATER_OR_EQUAL)])) _
        refine st65.trans ?_
        show Steps p.tables e below (T65.setTop (mkF m 93 #[.val (.int p1), .val (.int p2), .val (.ref w_GREATER), .val (.int s1), .val (.ref w_GREATER_OR_EQUAL), .val (.int (1 : Int32))] [(.ref w_GREATER_OR_EQUAL)])) _
        refine XS.aload X65.here hx rfl (hb hby at_93) rfl rfl ?_
        show Steps p.tables e below (T65.setTop (mkF m 95 #[.val (.int p1), .val (.int p2), .val (.ref w_GREATER), .val (.int s1), .val (.ref w_GREATER_OR_EQUAL), .val (.int (1 : Int32))] [(.ref w_GREATER_OR_EQUAL), (.ref w_GREATER_OR_EQUAL)])) _
        refine Jvm.RoadKit.acmp (g := (mkF m 95 #[.val (.int p1), .val (.int p2), .val (.ref w_GREATER), .val (.int s1), .val (.ref w_GREATER_OR_EQUAL), .val (.int (1 : Int32))] [(.ref w_GREATER_OR_EQUAL), (.ref w_GREATER_OR_EQUAL)])) X65 hx rfl rfl rfl (pc0 := 95) (pc' := 98) (same := true) rfl (hb hby at_95) rfl (decide_eq_true rfl) (by decide) (by decide) ?_
        show Steps p.tables e below (T65.setTop (mkF m 98 #[.val (.int p1), .val (.int p2), .val (.ref w_GREATER), .val (.int s1), .val (.ref w_GREATER_OR_EQUAL), .val (.int (1 : Int32))] [])) _
        refine XS.iconst X65.here hx rfl (hb hby at_98) ?_
        show Steps p.tables e below (T65.setTop (mkF m 99 #[.val (.int p1), .val (.int p2), .val (.ref w_GREATER), .val (.int s1), .val (.ref w_GREATER_OR_EQUAL), .val (.int (1 : Int32))] [(.int (1 : Int32))])) _
        refine XS.goto X65.here hx rfl (pc0 := 99) (pc' := 103) rfl (hb hby at_99) (by decide) (by decide) ?_
        exact kt
      obtain ⟨fs, hr, hrun, hended, hW, hsame⟩ := X65.leave (v := some (.int (1 : Int32))) (fun h => by rw [Bd.returns] at h; cases h)
      refine ⟨_, _, pre66 _ ?_, hrun, hended, _, _, rfl, ?_, ⟨_, rfl⟩, hW, hsame.mono (by decide) (by decide)⟩
      · show Steps p.tables e below (T65.setTop (mkF m 103 #[.val (.int p1), .val (.int p2), .val (.ref w_GREATER), .val (.int s1), .val (.ref w_GREATER_OR_EQUAL), .val (.int (1 : Int32))] [(.int (1 : Int32))])) _
        exact retN X65 hx (t := .boolean) Bd.returns (by simp) (hb hby at_103) hr
      · show Q0 Z h0 n0 _ T65.heap _
        rw [hE65]
        exact ⟨rfl, N65⟩
    · obtain ⟨cq67, kq67, q67a, q67b, q67c⟩ := isOf hZ hE58 E_GREATER
      obtain ⟨_, _, ⟨T67, L67, k67, n67⟩, -, X67, ⟨Lc67, hQ67, l67, y67, z67⟩, st67⟩ := X58.virtualBack hx (y := (⟨"com/example/prudent_stability/prudentstability/Relation", "holdsFor", "(I)Z"⟩ : MethodName)) (z := (⟨"com/example/prudent_stability/prudentstability/Relation", "holdsFor", "(I)Z"⟩ : MethodName)) hown (mvT hZ (hw _ (List.mem_of_getElem? (i := 24) rfl))) (mvT hZ (hw _ (List.mem_of_getElem? (i := 25) rfl))) (notFace_of_selects (args := #[]) (mvT hZ (hw _ (List.mem_of_getElem? (i := 27) rfl)))) (mvT hZ (hw _ (List.mem_of_getElem? (i := 27) rfl))) (mvT hZ (hw _ (List.mem_of_getElem? (i := 26) rfl))) (by decide) (backOf (W := 0) (rmH l Z a0 hw [] w_GREATER s1 (4 : Int32) (own_hf (4 : Int32) s1) h0 n0 Z0 F_GREATER_ordinal E_GREATER (by decide) rfl) hZ (hw _ (List.mem_of_getElem? (i := 28) rfl)) (hw _ (List.mem_of_getElem? (i := 6) rfl)) (by decide) (by decide)) q67a q67c (g := (mkF m 38 #[.val (.int p1), .val (.int p2), .val (.ref w_GREATER), .val (.int s1), .val (.ref w_GREATER_OR_EQUAL), .unset] [(.int s1), (.ref w_GREATER)])) rfl (by rw [hml]; rfl) (Steps.refl _) (argsL := [(.int s1)]) (rest := []) (lenOf pd_rm0_2 rfl) rfl (by show 2 * 0 + _ ≤ _; exact Nat.le_of_eq rfl) (hb hby at_38) (fun _ _ => ⟨rfl, hE58, (by decide : 0 + 0 ≤ _), (by decide : 0 + 0 ≤ _)⟩)
      dsimp only [Pt.U, Pt.locs, Pt.cells, Pt.slots] at X67 l67 y67 z67 st67 hQ67
      subst l67 y67 z67
      obtain ⟨rfl, N67q, hE67⟩ := hQ67
      have N67 := Fr.app N58 N67q
      obtain ⟨cq68, kq68, q68a, q68b, q68c⟩ := isOf hZ hE67 E_GREATER_OR_EQUAL
      obtain ⟨_, _, ⟨T68, L68, k68, n68⟩, -, X68, ⟨Lc68, hQ68, l68, y68, z68⟩, st68⟩ := X67.virtualBack hx (y := (⟨"com/example/prudent_stability/prudentstability/Relation", "holdsFor", "(I)Z"⟩ : MethodName)) (z := (⟨"com/example/prudent_stability/prudentstability/Relation", "holdsFor", "(I)Z"⟩ : MethodName)) hown (mvT hZ (hw _ (List.mem_of_getElem? (i := 24) rfl))) (mvT hZ (hw _ (List.mem_of_getElem? (i := 25) rfl))) (notFace_of_selects (args := #[]) (mvT hZ (hw _ (List.mem_of_getElem? (i := 27) rfl)))) (mvT hZ (hw _ (List.mem_of_getElem? (i := 27) rfl))) (mvT hZ (hw _ (List.mem_of_getElem? (i := 26) rfl))) (by decide) (backOf (W := 0) (rmH l Z a0 hw [] w_GREATER_OR_EQUAL s1 (3 : Int32) (own_hf (3 : Int32) s1) h0 n0 Z0 F_GREATER_OR_EQUAL_ordinal E_GREATER_OR_EQUAL (by decide) rfl) hZ (hw _ (List.mem_of_getElem? (i := 28) rfl)) (hw _ (List.mem_of_getElem? (i := 6) rfl)) (by decide) (by decide)) q68a q68c (g := (mkF m 80 #[.val (.int p1), .val (.int p2), .val (.ref w_GREATER), .val (.int s1), .val (.ref w_GREATER_OR_EQUAL), .val (.int (own_hf (4 : Int32) s1))] [(.int s1), (.ref w_GREATER_OR_EQUAL)])) rfl (by rw [hml]; rfl) (Steps.refl _) (argsL := [(.int s1)]) (rest := []) (lenOf pd_rm0_2 rfl) rfl (by show 2 * 0 + _ ≤ _; exact Nat.le_of_eq rfl) (hb hby at_80) (fun _ _ => ⟨rfl, hE67, (by decide : 0 + 0 ≤ _), (by decide : 0 + 0 ≤ _)⟩)
      dsimp only [Pt.U, Pt.locs, Pt.cells, Pt.slots] at X68 l68 y68 z68 st68 hQ68
      subst l68 y68 z68
      obtain ⟨rfl, N68q, hE68⟩ := hQ68
      have N68 := Fr.app N67 N68q
      obtain ⟨cq69, kq69, q69a, q69b, q69c⟩ := isOf hZ hE68 E_GREATER_OR_EQUAL
      obtain ⟨_, _, ⟨T69, L69, k69, n69⟩, -, X69, ⟨Lc69, hQ69, l69, y69, z69⟩, st69⟩ := X68.virtualBack hx (y := (⟨"com/example/prudent_stability/prudentstability/Relation", "relaxed", "()Lcom/example/prudent_stability/prudentstability/Relation;"⟩ : MethodName)) (z := (⟨"com/example/prudent_stability/prudentstability/Relation", "relaxed", "()Lcom/example/prudent_stability/prudentstability/Relation;"⟩ : MethodName)) hown (mvT hZ (hw _ (List.mem_of_getElem? (i := 8) rfl))) (mvT hZ (hw _ (List.mem_of_getElem? (i := 9) rfl))) (notFace_of_selects (args := #[]) (mvT hZ (hw _ (List.mem_of_getElem? (i := 11) rfl)))) (mvT hZ (hw _ (List.mem_of_getElem? (i := 11) rfl))) (mvT hZ (hw _ (List.mem_of_getElem? (i := 10) rfl))) (by decide) (backOf (W := 0) (rmM l Z a0 hw [] w_GREATER_OR_EQUAL (3 : Int32) w_LESS_OR_EQUAL w_GREATER_OR_EQUAL w_GREATER_OR_EQUAL h0 n0 Z0 S_LESS_OR_EQUAL S_GREATER_OR_EQUAL F_GREATER_OR_EQUAL_ordinal E_GREATER_OR_EQUAL (by decide) (by simp [own_pick])) hZ (hw _ (List.mem_of_getElem? (i := 12) rfl)) (hw _ (List.mem_of_getElem? (i := 6) rfl)) (by decide) (by decide)) q69a q69c (g := (mkF m 90 #[.val (.int p1), .val (.int p2), .val (.ref w_GREATER), .val (.int s1), .val (.ref w_GREATER_OR_EQUAL), .val (.int (own_hf (4 : Int32) s1))] [(.ref w_GREATER_OR_EQUAL)])) rfl (by rw [hml]; rfl) (Steps.refl _) (argsL := []) (rest := []) (lenOf pd_rm0_1 rfl) rfl (by show 2 * 0 + _ ≤ _; exact Nat.le_of_eq rfl) (hb hby at_90) (fun _ _ => ⟨rfl, hE68, (by decide : 0 + 0 ≤ _), (by decide : 0 + 0 ≤ _)⟩)
      dsimp only [Pt.U, Pt.locs, Pt.cells, Pt.slots] at X69 l69 y69 z69 st69 hQ69
      subst l69 y69 z69
      obtain ⟨rfl, N69q, hE69⟩ := hQ69
      have N69 := Fr.app N68 N69q
      have pre70 : ∀ tt, Steps p.tables e below (T69.setTop (mkF m 103 #[.val (.int p1), .val (.int p2), .val (.ref w_GREATER), .val (.int s1), .val (.ref w_GREATER_OR_EQUAL), .val (.int (own_hf (4 : Int32) s1))] [(.int (1 : Int32))])) tt → Steps p.tables e below (s₁.setTop (entryFrame m #[(.int p1), (.int p2)] maxLocals)) tt := by
        intro tt kt
        refine pre59 tt ?_
        show Steps p.tables e below (T58.setTop (mkF m 33 #[.val (.int p1), .val (.int p2), .val (.ref w_GREATER), .val (.int s1), .val (.ref w_GREATER_OR_EQUAL), .unset] [(.int s1)])) _
        refine XS.ifNo X58.here hx rfl (hb hby at_33) rfl ((if0 _ _).trans (feq c33_60).1) ?_
        show Steps p.tables e below (T58.setTop (mkF m 36 #[.val (.int p1), .val (.int p2), .val (.ref w_GREATER), .val (.int s1), .val (.ref w_GREATER_OR_EQUAL), .unset] [])) _
        refine XS.aloadN X58.here hx rfl (hb hby at_36) rfl rfl ?_
        show Steps p.tables e below (T58.setTop (mkF m 37 #[.val (.int p1), .val (.int p2), .val (.ref w_GREATER), .val (.int s1), .val (.ref w_GREATER_OR_EQUAL), .unset] [(.ref w_GREATER)])) _
        refine XS.iloadN X58.here hx rfl (hb hby at_37) rfl ?_
        show Steps p.tables e below (T58.setTop (mkF m 38 #[.val (.int p1), .val (.int p2), .val (.ref w_GREATER), .val (.int s1), .val (.ref w_GREATER_OR_EQUAL), .unset] [(.int s1), (.ref w_GREATER)])) _
        refine st67.trans ?_
        show Steps p.tables e below (T67.setTop (mkF m 41 #[.val (.int p1), .val (.int p2), .val (.ref w_GREATER), .val (.int s1), .val (.ref w_GREATER_OR_EQUAL), .unset] [(.int (own_hf (4 : Int32) s1))])) _
        refine XS.istore X67.here hx rfl (hb hby at_41) rfl (l' := #[.val (.int p1), .val (.int p2), .val (.ref w_GREATER), .val (.int s1), .val (.ref w_GREATER_OR_EQUAL), .val (.int (own_hf (4 : Int32) s1))]) rfl ?_
        show Steps p.tables e below (T67.setTop (mkF m 43 #[.val (.int p1), .val (.int p2), .val (.ref w_GREATER), .val (.int s1), .val (.ref w_GREATER_OR_EQUAL), .val (.int (own_hf (4 : Int32) s1))] [])) _
        refine XS.goto X67.here hx rfl (pc0 := 43) (pc' := 77) rfl (hb hby at_43) (by decide) (by decide) ?_
        show Steps p.tables e below (T67.setTop (mkF m 77 #[.val (.int p1), .val (.int p2), .val (.ref w_GREATER), .val (.int s1), .val (.ref w_GREATER_OR_EQUAL), .val (.int (own_hf (4 : Int32) s1))] [])) _
        refine XS.aload X67.here hx rfl (hb hby at_77) rfl rfl ?_
        show Steps p.tables e below (T67.setTop (mkF m 79 #[.val (.int p1), .val (.int p2), .val (.ref w_GREATER), .val (.int s1), .val (.ref w_GREATER_OR_EQUAL), .val (.int (own_hf (4 : Int32) s1))] [(.ref w_GREATER_OR_EQUAL)])) _
        refine XS.iloadN X67.here hx rfl (hb hby at_79) rfl ?_
        show Steps p.tables e below (T67.setTop (mkF m 80 #[.val (.int p1), .val (.int p2), .val (.ref w_GREATER), .val (.int s1), .val (.ref w_GREATER_OR_EQUAL), .val (.int (own_hf (4 : Int32) s1))] [(.int s1), (.ref w_GREATER_OR_EQUAL)])) _
        refine st68.trans ?_
        show Steps p.tables e below (T68.setTop (mkF m 83 #[.val (.int p1), .val (.int p2), .val (.ref w_GREATER), .val (.int s1), .val (.ref w_GREATER_OR_EQUAL), .val (.int (own_hf (4 : Int32) s1))] [(.int (own_hf (3 : Int32) s1))])) _
        refine XS.iload X68.here hx rfl (hb hby at_83) rfl ?_
        show Steps p.tables e below (T68.setTop (mkF m 85 #[.val (.int p1), .val (.int p2), .val (.ref w_GREATER), .val (.int s1), .val (.ref w_GREATER_OR_EQUAL), .val (.int (own_hf (4 : Int32) s1))] [(.int (own_hf (4 : Int32) s1)), (.int (own_hf (3 : Int32) s1))])) _
        refine XS.icmpNo X68.here hx rfl (hb hby at_85) rfl (teq (own_hfr (4 : Int32) (3 : Int32) s1 (by decide) rs c33_60)).2 ?_
        show Steps p.tables e below (T68.setTop (mkF m 88 #[.val (.int p1), .val (.int p2), .val (.ref w_GREATER), .val (.int s1), .val (.ref w_GREATER_OR_EQUAL), .val (.int (own_hf (4 : Int32) s1))] [])) _
        refine XS.aload X68.here hx rfl (hb hby at_88) rfl rfl ?_
        show Steps p.tables e below (T68.setTop (mkF m 90 #[.val (.int p1), .val (.int p2), .val (.ref w_GREATER), .val (.int s1), .val (.ref w_GREATER_OR_EQUAL), .val (.int (own_hf (4 : Int32) s1))] [(.ref w_GREATER_OR_EQUAL)])) _
        refine st69.trans ?_
        show Steps p.tables e below (T69.setTop (mkF m 93 #[.val (.int p1), .val (.int p2), .val (.ref w_GREATER), .val (.int s1), .val (.ref w_GREATER_OR_EQUAL), .val (.int (own_hf (4 : Int32) s1))] [(.ref w_GREATER_OR_EQUAL)])) _
        refine XS.aload X69.here hx rfl (hb hby at_93) rfl rfl ?_
        show Steps p.tables e below (T69.setTop (mkF m 95 #[.val (.int p1), .val (.int p2), .val (.ref w_GREATER), .val (.int s1), .val (.ref w_GREATER_OR_EQUAL), .val (.int (own_hf (4 : Int32) s1))] [(.ref w_GREATER_OR_EQUAL), (.ref w_GREATER_OR_EQUAL)])) _
        refine Jvm.RoadKit.acmp (g := (mkF m 95 #[.val (.int p1), .val (.int p2), .val (.ref w_GREATER), .val (.int s1), .val (.ref w_GREATER_OR_EQUAL), .val (.int (own_hf (4 : Int32) s1))] [(.ref w_GREATER_OR_EQUAL), (.ref w_GREATER_OR_EQUAL)])) X69 hx rfl rfl rfl (pc0 := 95) (pc' := 98) (same := true) rfl (hb hby at_95) rfl (decide_eq_true rfl) (by decide) (by decide) ?_
        show Steps p.tables e below (T69.setTop (mkF m 98 #[.val (.int p1), .val (.int p2), .val (.ref w_GREATER), .val (.int s1), .val (.ref w_GREATER_OR_EQUAL), .val (.int (own_hf (4 : Int32) s1))] [])) _
        refine XS.iconst X69.here hx rfl (hb hby at_98) ?_
        show Steps p.tables e below (T69.setTop (mkF m 99 #[.val (.int p1), .val (.int p2), .val (.ref w_GREATER), .val (.int s1), .val (.ref w_GREATER_OR_EQUAL), .val (.int (own_hf (4 : Int32) s1))] [(.int (1 : Int32))])) _
        refine XS.goto X69.here hx rfl (pc0 := 99) (pc' := 103) rfl (hb hby at_99) (by decide) (by decide) ?_
        exact kt
      obtain ⟨fs, hr, hrun, hended, hW, hsame⟩ := X69.leave (v := some (.int (1 : Int32))) (fun h => by rw [Bd.returns] at h; cases h)
      refine ⟨_, _, pre70 _ ?_, hrun, hended, _, _, rfl, ?_, ⟨_, rfl⟩, hW, hsame.mono (by decide) (by decide)⟩
      · show Steps p.tables e below (T69.setTop (mkF m 103 #[.val (.int p1), .val (.int p2), .val (.ref w_GREATER), .val (.int s1), .val (.ref w_GREATER_OR_EQUAL), .val (.int (own_hf (4 : Int32) s1))] [(.int (1 : Int32))])) _
        exact retN X69 hx (t := .boolean) Bd.returns (by simp) (hb hby at_103) hr
      · show Q0 Z h0 n0 _ T69.heap _
        rw [hE69]
        exact ⟨rfl, N69⟩
set_option maxRecDepth 65536 in
set_option maxHeartbeats 40000000 in
theorem comes_1 {Post : Tables → Env → Array Value → State → Outcome → State → Prop} (hpost : ∀ tb e args s v u, (limb_1_1.after args s (.returned v) u = true ∧ limb_1_2.after args s (.returned v) u = true ∧ True) → FrameEnd s (.returned v) u (Jvm.fieldLocs frame_1_writes args s ++ Jvm.arrayLocs frame_1_arrays args s ++ Jvm.staticLocs frame_1_statics s) 0 0 → Post tb e args s (.returned v) u) :
    ArmFor flags0 classFile x code maxLocals ret World_1 tables_1 room_1 Calls_1 rest_1 Pre_1 Post := by
  intro l hfl _ _ p e ha hc hk s m args below hf hA hF happ hP
  obtain ⟨hcalls, hrest, hpre⟩ := hP
  obtain ⟨-, -, -, hnamed, -, -, -, hat⟩ := (Spec.applies_iff hf).mp happ
  obtain ⟨hg, hn⟩ := and_e (Cond.before_iff.mp (show (Jvm.Cond.and given_1 narrow_1).before args s = true from hpre))
  have hw := fun d (hd : d ∈ tables_1) => atoms_spec (ws := Jvm.Cond.code x code maxLocals ret :: tables_1) hat d (List.mem_cons_of_mem _ hd)
  obtain ⟨g1a, g1b⟩ := and_e hg
  obtain ⟨g2a, g2b⟩ := and_e g1b
  obtain ⟨w0, w1, rfl⟩ : ∃ w0 w1 : Value, args = #[w0, w1] := by
    have hs : args.size = 2 := by simpa [Cond.value, given_1] using g1a
    obtain ⟨L⟩ := args
    match L, hs with
    | [w0, w1], _ => exact ⟨w0, w1, rfl⟩
  have hfit : Fit s := fun {y c} hc i hi => by
    obtain ⟨ha, rfl⟩ := Array.getElem?_eq_some_iff.mp hc
    have q := List.all_eq_true.mp ((Array.all_eq_true_iff_forall_mem.mp hF) _ (Array.getElem_mem ha)) i (List.mem_range.mpr hi)
    simpa [Array.getElem?_eq_getElem hi] using q
  obtain ⟨i0, ei0⟩ := is_v g2a
  obtain rfl : w0 = (.int i0) := Option.some.inj ei0
  obtain ⟨i1, ei1⟩ := is_v g2b
  obtain rfl : w1 = (.int i1) := Option.some.inj ei1
  obtain ⟨n1a, n1b⟩ := and_e hn
  obtain ⟨w_LESS, ev_LESS⟩ := exa_v n1a
  have S_LESS := Sta.start ev_LESS (Or.inr ⟨(hw _ (List.mem_of_getElem? (i := 6) rfl)), (hw _ (List.mem_of_getElem? (i := 7) rfl))⟩)
  have E_LESS := Exa.start ev_LESS n1a
  obtain ⟨n2a, n2b⟩ := and_e n1b
  have F_LESS_ordinal := own_fld ev_LESS n2a
  obtain ⟨n3a, n3b⟩ := and_e n2b
  obtain ⟨w_LESS_OR_EQUAL, ev_LESS_OR_EQUAL⟩ := exa_v n3a
  have S_LESS_OR_EQUAL := Sta.start ev_LESS_OR_EQUAL (Or.inr ⟨(hw _ (List.mem_of_getElem? (i := 6) rfl)), (hw _ (List.mem_of_getElem? (i := 23) rfl))⟩)
  have E_LESS_OR_EQUAL := Exa.start ev_LESS_OR_EQUAL n3a
  obtain ⟨n4a, n4b⟩ := and_e n3b
  have F_LESS_OR_EQUAL_ordinal := own_fld ev_LESS_OR_EQUAL n4a
  obtain ⟨n5a, n5b⟩ := and_e n4b
  obtain ⟨w_GREATER, ev_GREATER⟩ := exa_v n5a
  have S_GREATER := Sta.start ev_GREATER (Or.inr ⟨(hw _ (List.mem_of_getElem? (i := 6) rfl)), (hw _ (List.mem_of_getElem? (i := 30) rfl))⟩)
  have E_GREATER := Exa.start ev_GREATER n5a
  obtain ⟨n6a, n6b⟩ := and_e n5b
  have F_GREATER_ordinal := own_fld ev_GREATER n6a
  obtain ⟨n7a, n7b⟩ := and_e n6b
  obtain ⟨w_GREATER_OR_EQUAL, ev_GREATER_OR_EQUAL⟩ := exa_v n7a
  have S_GREATER_OR_EQUAL := Sta.start ev_GREATER_OR_EQUAL (Or.inr ⟨(hw _ (List.mem_of_getElem? (i := 6) rfl)), (hw _ (List.mem_of_getElem? (i := 32) rfl))⟩)
  have E_GREATER_OR_EQUAL := Exa.start ev_GREATER_OR_EQUAL n7a
  obtain ⟨n8a, n8b⟩ := and_e n7b
  have F_GREATER_OR_EQUAL_ordinal := own_fld ev_GREATER_OR_EQUAL n8a
  obtain ⟨n9a, n9b⟩ := and_e n8b
  obtain ⟨w_EQUAL, ev_EQUAL⟩ := exa_v n9a
  have S_EQUAL := Sta.start ev_EQUAL (Or.inr ⟨(hw _ (List.mem_of_getElem? (i := 6) rfl)), (hw _ (List.mem_of_getElem? (i := 36) rfl))⟩)
  have E_EQUAL := Exa.start ev_EQUAL n9a
  have F_EQUAL_ordinal := own_fld ev_EQUAL n9b
  obtain ⟨n, o, h1, h2, h3, _, L, rfl, ⟨rfl, N⟩, hq⟩ := rm0 l s _ hw tables_1 i0 i1 w_LESS w_LESS_OR_EQUAL w_EQUAL w_GREATER_OR_EQUAL w_GREATER s.heap s.heap.size (Nat.le_refl _) S_LESS S_LESS_OR_EQUAL S_EQUAL S_GREATER_OR_EQUAL S_GREATER E_LESS E_LESS_OR_EQUAL E_EQUAL E_GREATER_OR_EQUAL E_GREATER F_LESS_ordinal F_LESS_OR_EQUAL_ordinal F_EQUAL_ordinal F_GREATER_OR_EQUAL_ordinal F_GREATER_ordinal p e ha hc hk s m _ below hf ((Spec.applies_iff_loose hf).mp happ).1 ⟨rfl, State.Warmed39.refl s, rfl⟩ trivial
  refine ⟨n, _, h1, h2, h3, hpost _ _ _ _ _ _ ⟨Cond.after_iff.mpr rfl, Cond.after_iff.mpr (eq_i res_at (Term.int_eval (1)) rfl), trivial⟩ ⟨hq.1, hq.2.1, (hq.2.2.sift fun y hy => Or.inr (N y hy)).mono (by decide) (by decide)⟩⟩
theorem main_1_1 : Claimed_1_1 := comes_1 fun _ _ _ _ _ _ h hF => ⟨h.1, hF⟩
theorem main_1_2 : Claimed_1_2 := comes_1 fun _ _ _ _ _ _ h hF => ⟨h.2.1, hF⟩
end Jvm.Pilot.@@N@@
namespace Jvm.Pilot.@@N@@
open Jvm Jvm.ClassFile Sem Op Lib Jvm.Free Jvm.Stand Jvm.Pilot.@@N@@.Jvm.D
/-! MADE BY PROGRAM (witnessworld.py) out of the Statement's table words and the real class files: 12 classes; the members and pool entries that the words name. The judged class is class 1, her method 2. -/
namespace start1
open Jvm.ClassFile
def u (s : String) : CpInfo := .utf8 (stringToUtf16 s)
/-- a pool by its gaps: so many unusable entries, then the entry; so many at the end -/
def gap : Nat → List CpInfo → List CpInfo
  | 0, r => r
  | n + 1, r => .unusable :: gap n r
def poolList (es : List (Nat × CpInfo)) (last : Nat) : List CpInfo := es.foldr (fun e r => gap e.1 (e.2 :: r)) (gap last [])
def pool (es : List (Nat × CpInfo)) (last : Nat) : Array CpInfo := ⟨poolList es last⟩
def fileOf (pool : Array CpInfo) (this : Nat) (attrs : Array Attribute := #[]) (ms : Array MethodInfo := #[]) (fl : Nat := 33) (sup : Nat := 0) (ifs : Array Nat := #[]) (fds : Array FieldInfo := #[]) : ClassFile where
  minorVersion := 0
  majorVersion := 65
  constantPool := pool
  accessFlags := fl
  thisClass := this
  superClass := sup
  interfaces := ifs
  fields := fds
  methods := ms
  attributes := attrs
def plain (name : String) (sup : Option ClassId) : Class where
  name := name
  kind := .ordinary
  loader := none
  accessFlags := 33
  super := sup
  interfaces := #[]
  cf := none
  fields := #[]
  methods := #[]
  instanceTypes := #[]
  staticTypes := #[]
  resolved := #[]
  callSites := []
  init := .initialized
  statics := none
  mirror := none

def pool0 : Array CpInfo := pool [(5, u "<init>"), (0, u "()V"), (1, .class_ 10), (1, u "java/lang/Object")] 113

def k0m0 : Method := { name := "<init>", desc := "()V", sig := { parameters := [], returnType := none }, accessFlags := 1, code := none }
/-- java/lang/Object -/
def k0 : Class := { plain "java/lang/Object" none with
  accessFlags := 33
  interfaces := #[]
  cf := some (fileOf pool0 8 #[] #[{ accessFlags := 1, nameIndex := 5, descriptorIndex := 6, attributes := #[] }] 33 0 #[] #[])
  fields := #[]
  methods := #[k0m0]
  instanceTypes := #[]
  staticTypes := #[]
  resolved := Array.replicate 124 none
  statics := none }

def pool1 : Array CpInfo := pool [(2, .class_ 4), (1, u "java/lang/Object"), (0, u "<init>"), (0, u "()V"), (0, .fieldref 8 9), (0, .class_ 10), (0, .nameAndType 11 12), (0, u "com/example/prudent_stability/prudentstability/Relation"), (0, u "LESS"), (0, u "Lcom/example/prudent_stability/prudentstability/Relation;"), (0, .fieldref 8 14), (0, .nameAndType 15 12), (0, u "LESS_OR_EQUAL"), (0, .fieldref 8 17), (0, .nameAndType 18 12), (0, u "EQUAL"), (0, .fieldref 8 20), (0, .nameAndType 21 12), (0, u "GREATER_OR_EQUAL"), (0, .fieldref 8 23), (0, .nameAndType 24 12), (0, u "GREATER"), (0, .integer 2147483647), (0, .methodref 27 28), (0, .class_ 29), (0, .nameAndType 30 31), (0, u "com/example/prudent_stability/prudentstability/RelationRelaxedPinLaw"), (0, u "pick"), (0, u "(I)Lcom/example/prudent_stability/prudentstability/Relation;"), (0, .methodref 8 33), (0, .nameAndType 34 35), (0, u "relaxed"), (0, u "()Lcom/example/prudent_stability/prudentstability/Relation;"), (0, .methodref 8 37), (0, .nameAndType 38 39), (0, u "holdsFor"), (0, u "(I)Z"), (3, u "law"), (0, u "(II)Z")] 2

def k1m0 : Method := { name := "<init>", desc := "()V", sig := { parameters := [], returnType := none }, accessFlags := 1, code := none }
def k1c1 : Code := { maxStack := 2, maxLocals := 1, code := method_2_code, exceptionTable := #[], attributes := #[] }
def k1m1 : Method := { name := "pick", desc := "(I)Lcom/example/prudent_stability/prudentstability/Relation;", sig := { parameters := [.int], returnType := some (.object "com/example/prudent_stability/prudentstability/Relation") }, accessFlags := 10, code := some k1c1 }
def k1c2 : Code := { maxStack := 2, maxLocals := 6, code := code, exceptionTable := #[], attributes := #[] }
def k1m2 : Method := { name := "law", desc := "(II)Z", sig := { parameters := [.int, .int], returnType := some .boolean }, accessFlags := 9, code := some k1c2 }
/-- com/example/prudent_stability/prudentstability/RelationRelaxedPinLaw -/
def k1 : Class := { plain "com/example/prudent_stability/prudentstability/RelationRelaxedPinLaw" (some 0) with
  accessFlags := 49
  interfaces := #[]
  cf := some (fileOf pool1 27 #[] #[{ accessFlags := 1, nameIndex := 5, descriptorIndex := 6, attributes := #[] }, { accessFlags := 10, nameIndex := 30, descriptorIndex := 31, attributes := #[] }, { accessFlags := 9, nameIndex := 43, descriptorIndex := 44, attributes := #[] }] 49 2 #[] #[])
  fields := #[]
  methods := #[k1m0, k1m1, k1m2]
  instanceTypes := #[]
  staticTypes := #[]
  resolved := Array.replicate 47 none
  statics := none }

def pool2 : Array CpInfo := pool [(1, .class_ 2), (0, u "java/lang/constant/Constable"), (0, .class_ 4), (0, u "java/lang/Object")] 6

/-- java/lang/constant/Constable -/
def k2 : Class := { plain "java/lang/constant/Constable" (some 0) with
  accessFlags := 1537
  interfaces := #[]
  cf := some (fileOf pool2 1 #[] #[] 1537 3 #[] #[])
  fields := #[]
  methods := #[]
  instanceTypes := #[]
  staticTypes := #[]
  resolved := Array.replicate 11 none
  statics := none }

def pool3 : Array CpInfo := pool [(1, .class_ 2), (0, u "java/lang/Comparable"), (0, .class_ 4), (0, u "java/lang/Object")] 7

/-- java/lang/Comparable -/
def k3 : Class := { plain "java/lang/Comparable" (some 0) with
  accessFlags := 1537
  interfaces := #[]
  cf := some (fileOf pool3 1 #[] #[] 1537 3 #[] #[])
  fields := #[]
  methods := #[]
  instanceTypes := #[]
  staticTypes := #[]
  resolved := Array.replicate 12 none
  statics := none }

def pool4 : Array CpInfo := pool [(1, .class_ 2), (0, u "java/io/Serializable"), (0, .class_ 4), (0, u "java/lang/Object")] 2

/-- java/io/Serializable -/
def k4 : Class := { plain "java/io/Serializable" (some 0) with
  accessFlags := 1537
  interfaces := #[]
  cf := some (fileOf pool4 1 #[] #[] 1537 3 #[] #[])
  fields := #[]
  methods := #[]
  instanceTypes := #[]
  staticTypes := #[]
  resolved := Array.replicate 7 none
  statics := none }

def pool5 : Array CpInfo := pool [(2, .class_ 4), (1, u "java/lang/Enum"), (0, u "name"), (0, u "Ljava/lang/String;"), (0, .fieldref 2 8), (0, .nameAndType 9 10), (0, u "ordinal"), (0, u "I"), (1, .class_ 14), (1, u "java/lang/Object"), (4, u "hash"), (86, .class_ 108), (1, u "java/lang/Enum$EnumDesc"), (2, .class_ 112), (0, u "java/lang/constant/Constable"), (0, .class_ 114), (0, u "java/lang/Comparable"), (0, .class_ 116), (0, u "java/io/Serializable"), (9, u "()I")] 77

def k5c0 : Code := { maxStack := 1, maxLocals := 1, code := jdk_37_method_2_code, exceptionTable := #[], attributes := #[] }
def k5m0 : Method := { name := "ordinal", desc := "()I", sig := { parameters := [], returnType := some .int }, accessFlags := 17, code := some k5c0 }
/-- java/lang/Enum -/
def k5 : Class := { plain "java/lang/Enum" (some 0) with
  accessFlags := 1057
  interfaces := #[2, 3, 4]
  cf := some (fileOf pool5 2 #[.nestMembers #[106]] #[{ accessFlags := 17, nameIndex := 9, descriptorIndex := 126, attributes := #[] }] 1057 12 #[111, 113, 115] #[{ accessFlags := 18, nameIndex := 5, descriptorIndex := 6, attributes := #[] }, { accessFlags := 18, nameIndex := 9, descriptorIndex := 10, attributes := #[] }, { accessFlags := 2, nameIndex := 19, descriptorIndex := 10, attributes := #[] }])
  fields := #[{ name := "name", type := (.object "java/lang/String"), accessFlags := 18, slot := 0, constantValue := 0 }, { name := "ordinal", type := .int, accessFlags := 18, slot := 1, constantValue := 0 }, { name := "hash", type := .int, accessFlags := 2, slot := 2, constantValue := 0 }]
  methods := #[k5m0]
  instanceTypes := #[(.object "java/lang/String"), .int, .int]
  staticTypes := #[]
  resolved := Array.replicate 204 none
  statics := none }

def pool6 : Array CpInfo := pool [(1, .class_ 2), (0, u "com/example/prudent_stability/prudentstability/Relation"), (2, u "LESS"), (0, u "Lcom/example/prudent_stability/prudentstability/Relation;"), (0, .fieldref 1 8), (0, .nameAndType 9 6), (0, u "LESS_OR_EQUAL"), (2, u "EQUAL"), (0, .fieldref 1 14), (0, .nameAndType 15 6), (0, u "GREATER_OR_EQUAL"), (2, u "GREATER"), (2, u "$VALUES"), (0, u "[Lcom/example/prudent_stability/prudentstability/Relation;"), (6, .class_ 31), (1, u "java/lang/Enum"), (8, u "symbol"), (0, u "Ljava/lang/String;"), (0, .methodref 1 43), (0, .nameAndType 44 45), (0, u "ordinal"), (0, u "()I"), (35, u "holdsFor"), (0, u "(I)Z"), (2, u "()Lcom/example/prudent_stability/prudentstability/Relation;"), (0, u "relaxed")] 5

def k6c0 : Code := { maxStack := 4, maxLocals := 2, code := prog_36_method_5_code, exceptionTable := #[], attributes := #[] }
def k6m0 : Method := { name := "holdsFor", desc := "(I)Z", sig := { parameters := [.int], returnType := some .boolean }, accessFlags := 1, code := some k6c0 }
def k6c1 : Code := { maxStack := 4, maxLocals := 1, code := prog_36_method_7_code, exceptionTable := #[], attributes := #[] }
def k6m1 : Method := { name := "relaxed", desc := "()Lcom/example/prudent_stability/prudentstability/Relation;", sig := { parameters := [], returnType := some (.object "com/example/prudent_stability/prudentstability/Relation") }, accessFlags := 1, code := some k6c1 }
/-- com/example/prudent_stability/prudentstability/Relation -/
def k6 : Class := { plain "com/example/prudent_stability/prudentstability/Relation" (some 5) with
  accessFlags := 16433
  interfaces := #[]
  cf := some (fileOf pool6 1 #[] #[{ accessFlags := 1, nameIndex := 81, descriptorIndex := 82, attributes := #[] }, { accessFlags := 1, nameIndex := 86, descriptorIndex := 85, attributes := #[] }] 16433 29 #[] #[{ accessFlags := 16409, nameIndex := 5, descriptorIndex := 6, attributes := #[] }, { accessFlags := 16409, nameIndex := 9, descriptorIndex := 6, attributes := #[] }, { accessFlags := 16409, nameIndex := 12, descriptorIndex := 6, attributes := #[] }, { accessFlags := 16409, nameIndex := 15, descriptorIndex := 6, attributes := #[] }, { accessFlags := 16409, nameIndex := 18, descriptorIndex := 6, attributes := #[] }, { accessFlags := 18, nameIndex := 40, descriptorIndex := 41, attributes := #[] }, { accessFlags := 4122, nameIndex := 21, descriptorIndex := 22, attributes := #[] }])
  fields := #[{ name := "LESS", type := (.object "com/example/prudent_stability/prudentstability/Relation"), accessFlags := 16409, slot := 0, constantValue := 0 }, { name := "LESS_OR_EQUAL", type := (.object "com/example/prudent_stability/prudentstability/Relation"), accessFlags := 16409, slot := 1, constantValue := 0 }, { name := "EQUAL", type := (.object "com/example/prudent_stability/prudentstability/Relation"), accessFlags := 16409, slot := 2, constantValue := 0 }, { name := "GREATER_OR_EQUAL", type := (.object "com/example/prudent_stability/prudentstability/Relation"), accessFlags := 16409, slot := 3, constantValue := 0 }, { name := "GREATER", type := (.object "com/example/prudent_stability/prudentstability/Relation"), accessFlags := 16409, slot := 4, constantValue := 0 }, { name := "symbol", type := (.object "java/lang/String"), accessFlags := 18, slot := 3, constantValue := 0 }, { name := "$VALUES", type := (.array (.object "com/example/prudent_stability/prudentstability/Relation")), accessFlags := 4122, slot := 5, constantValue := 0 }]
  methods := #[k6m0, k6m1]
  instanceTypes := #[(.object "java/lang/String"), .int, .int, (.object "java/lang/String")]
  staticTypes := #[(.object "com/example/prudent_stability/prudentstability/Relation"), (.object "com/example/prudent_stability/prudentstability/Relation"), (.object "com/example/prudent_stability/prudentstability/Relation"), (.object "com/example/prudent_stability/prudentstability/Relation"), (.object "com/example/prudent_stability/prudentstability/Relation"), (.array (.object "com/example/prudent_stability/prudentstability/Relation"))]
  resolved := Array.replicate 92 none
  statics := some 0 }

def pool7 : Array CpInfo := pool [(1, u "java/lang/Cloneable"), (0, .class_ 1), (0, u "java/lang/Object"), (0, .class_ 3)] 3

/-- java/lang/Cloneable -/
def k7 : Class := { plain "java/lang/Cloneable" (some 0) with
  accessFlags := 1537
  interfaces := #[]
  cf := some (fileOf pool7 2 #[] #[] 1537 4 #[] #[])
  fields := #[]
  methods := #[]
  instanceTypes := #[]
  staticTypes := #[]
  resolved := Array.replicate 8 none
  statics := none }

/-- the primitive byte -/
def k8 : Class := { plain "byte" none with kind := .primitive 'B', accessFlags := 0x411 }
/-- [B -/
def k9 : Class := { plain "[B" (some 0) with kind := .array 8 .byte, interfaces := #[7, 4], accessFlags := 1041 }

/-- the primitive int -/
def k10 : Class := { plain "int" none with kind := .primitive 'I', accessFlags := 0x411 }
/-- [I -/
def k11 : Class := { plain "[I" (some 0) with kind := .array 10 .int, interfaces := #[7, 4], accessFlags := 1041 }

def heap : Heap := #[{ cls := 6, slots := #[.ref 1, .ref 2, .ref 5, .ref 4, .ref 3, .null], vm := .statics 6 },
  { cls := 6, slots := #[.null, .int 0, .int 0, .null], vm := .none },
  { cls := 6, slots := #[.null, .int 1, .int 0, .null], vm := .none },
  { cls := 6, slots := #[.null, .int 4, .int 0, .null], vm := .none },
  { cls := 6, slots := #[.null, .int 3, .int 0, .null], vm := .none },
  { cls := 6, slots := #[.null, .int 2, .int 0, .null], vm := .none }]
def classes : Array Class := #[k0, k1, k2, k3, k4, k5, k6, k7, k8, k9, k10, k11]
def interned : List (Array UInt16 × Addr) := []
def slotsUsed : Nat := 26
def theMethod : MethodId := ⟨1, 2⟩
def args0 : Array Value := #[.int 5, .int 4]
def aboutOver (below : List Frame) : State where
  vm := { classes := classes, interned := interned.toArray }
  heap := heap
  slotsUsed := slotsUsed
  threads := #[{ frames := .invoking theMethod args0 :: below }]
def below0 : List Frame := [.native { method := ⟨0, 0⟩, args := #[] }]
def about1 : State := aboutOver below0
def p0 : Program := .bare "" "" ""
def e0 : Env := launch0.env 0 0 0
theorem w_frames : about1.frames = Frame.invoking theMethod args0 :: below0 := rfl
set_option maxRecDepth 65536 in
theorem w_args : argsFit about1.vm theMethod args0 = true := by decide +kernel
set_option maxRecDepth 65536 in
theorem w_heap : heapFits about1 = true := by decide +kernel
set_option maxRecDepth 65536 in
theorem w_runnable : about1.curStatus? = some .runnable := by decide +kernel
set_option maxRecDepth 65536 in
theorem w_alone : about1.alone = true := by decide +kernel
set_option maxRecDepth 65536 in
theorem w_named : about1.methodNamed? x = some theMethod := by decide +kernel
set_option maxRecDepth 65536 in
theorem w_hears : about1.hears theMethod below0 = true := by decide +kernel
set_option maxRecDepth 65536 in
theorem w_ripe : about1.ripe theMethod args0 below0 = true := by decide +kernel
theorem w_running : about1.status = .running := rfl
set_option maxRecDepth 65536 in
theorem w_room : about1.hasRoom e0.platform room_1 = true :=
  launch0.hasRoom_least _ room_1 (by decide +kernel) (by decide +kernel) (by decide +kernel) (by decide +kernel) (by decide +kernel) (by decide +kernel)
theorem allAtoms_all (ts : List Jvm.Cond) (a : Array Jvm.Value) (st : Jvm.State) : (allAtoms ts).before a st = ts.all (fun c => c.before a st) := by
  induction ts with
  | nil => rfl
  | cons c t ih =>
    show (Jvm.Cond.and c (allAtoms t)).before a st = _
    rw [Jvm.Cond.before_and, ih, List.all_cons]
def words1 : List Jvm.Cond := Jvm.Cond.code x code maxLocals ret :: tables_1
/-- a 'code' word, met by the world's own term for the bytes: nothing is compared byte by byte -/
theorem code_word {y : MethodName} {bytes : ByteArray} {mx : Nat} {rt : Option FieldType} {a : Array Value} {s : State} {m : MethodId} {meth : Method} {c : Code} (h1 : s.methodNamed? y = some m) (h2 : s.vm.method? m = some meth) (h3 : meth.code = some c) (h4 : c.code = bytes)
    (h5 : (c.maxLocals == mx && c.exceptionTable.isEmpty && decide (c.maxStack ≤ mostOperands) && decide (meth.sig.returnType = rt) && !meth.locks && decide (parseMethodDescriptor y.desc = some meth.sig)) = true) : (Jvm.Cond.code y bytes mx rt).before a s = true := by
  simp only [Bool.and_eq_true, beq_iff_eq, Bool.not_eq_true', decide_eq_true_eq] at h5
  obtain ⟨⟨⟨⟨⟨g1, g2⟩, g3⟩, g4⟩, g5⟩, g6⟩ := h5
  simp [Cond.before, Cond.holds, Cond.value, h1, h2, h3, h4, g1, g2, g3, g4, g5, g6]
def isCode : Jvm.Cond → Bool
  | .code _ _ _ _ => true
  | _ => false
theorem all_split {L : List Jvm.Cond} {P : Jvm.Cond → Bool} (h1 : L.all (fun c => isCode c || P c) = true) (h2 : ∀ c ∈ L.filter isCode, P c = true) : L.all P = true := by
  refine List.all_eq_true.mpr fun c hc => ?_
  have h := List.all_eq_true.mp h1 c hc
  rcases Bool.eq_false_or_eq_true (isCode c) with hi | hi
  · exact h2 c (List.mem_filter.mpr ⟨hc, hi⟩)
  · simpa [hi] using h
set_option maxRecDepth 65536 in
theorem w_c0 : (Jvm.Cond.code x code maxLocals ret).before args0 about1 = true := code_word (m := ⟨1, 2⟩) (meth := k1m2) (c := k1c2) (by decide +kernel) rfl rfl rfl (by decide +kernel)
set_option maxRecDepth 65536 in
theorem w_c1 : (Jvm.Cond.code ({ cls := "com/example/prudent_stability/prudentstability/RelationRelaxedPinLaw", name := "pick", desc := "(I)Lcom/example/prudent_stability/prudentstability/Relation;" } : Jvm.MethodName) method_2_code (1 : Nat) (Option.some (Jvm.ClassFile.FieldType.object "com/example/prudent_stability/prudentstability/Relation"))).before args0 about1 = true := code_word (m := ⟨1, 1⟩) (meth := k1m1) (c := k1c1) (by decide +kernel) rfl rfl rfl (by decide +kernel)
set_option maxRecDepth 65536 in
theorem w_c2 : (Jvm.Cond.code ({ cls := "com/example/prudent_stability/prudentstability/Relation", name := "relaxed", desc := "()Lcom/example/prudent_stability/prudentstability/Relation;" } : Jvm.MethodName) prog_36_method_7_code (1 : Nat) (Option.some (Jvm.ClassFile.FieldType.object "com/example/prudent_stability/prudentstability/Relation"))).before args0 about1 = true := code_word (m := ⟨6, 1⟩) (meth := k6m1) (c := k6c1) (by decide +kernel) rfl rfl rfl (by decide +kernel)
set_option maxRecDepth 65536 in
theorem w_c3 : (Jvm.Cond.code ({ cls := "java/lang/Enum", name := "ordinal", desc := "()I" } : Jvm.MethodName) jdk_37_method_2_code (1 : Nat) (Option.some Jvm.ClassFile.FieldType.int)).before args0 about1 = true := code_word (m := ⟨5, 0⟩) (meth := k5m0) (c := k5c0) (by decide +kernel) rfl rfl rfl (by decide +kernel)
set_option maxRecDepth 65536 in
theorem w_c4 : (Jvm.Cond.code ({ cls := "com/example/prudent_stability/prudentstability/Relation", name := "holdsFor", desc := "(I)Z" } : Jvm.MethodName) prog_36_method_5_code (2 : Nat) (Option.some Jvm.ClassFile.FieldType.boolean)).before args0 about1 = true := code_word (m := ⟨6, 0⟩) (meth := k6m0) (c := k6c0) (by decide +kernel) rfl rfl rfl (by decide +kernel)
def codes1 : List Jvm.Cond := [Jvm.Cond.code x code maxLocals ret, Jvm.Cond.code ({ cls := "com/example/prudent_stability/prudentstability/RelationRelaxedPinLaw", name := "pick", desc := "(I)Lcom/example/prudent_stability/prudentstability/Relation;" } : Jvm.MethodName) method_2_code (1 : Nat) (Option.some (Jvm.ClassFile.FieldType.object "com/example/prudent_stability/prudentstability/Relation")), Jvm.Cond.code ({ cls := "com/example/prudent_stability/prudentstability/Relation", name := "relaxed", desc := "()Lcom/example/prudent_stability/prudentstability/Relation;" } : Jvm.MethodName) prog_36_method_7_code (1 : Nat) (Option.some (Jvm.ClassFile.FieldType.object "com/example/prudent_stability/prudentstability/Relation")), Jvm.Cond.code ({ cls := "java/lang/Enum", name := "ordinal", desc := "()I" } : Jvm.MethodName) jdk_37_method_2_code (1 : Nat) (Option.some Jvm.ClassFile.FieldType.int), Jvm.Cond.code ({ cls := "com/example/prudent_stability/prudentstability/Relation", name := "holdsFor", desc := "(I)Z" } : Jvm.MethodName) prog_36_method_5_code (2 : Nat) (Option.some Jvm.ClassFile.FieldType.boolean)]
set_option maxRecDepth 65536 in
theorem codes_eq : words1.filter isCode = codes1 := rfl
theorem w_codes : ∀ c ∈ words1.filter isCode, c.before args0 about1 = true := by
  rw [codes_eq]
  intro c hc
  simp only [codes1, List.mem_cons, List.not_mem_nil, or_false] at hc
  rcases hc with rfl | rfl | rfl | rfl | rfl
  · exact w_c0
  · exact w_c1
  · exact w_c2
  · exact w_c3
  · exact w_c4
set_option maxRecDepth 65536 in
theorem w_t1 : (words1.take 24).all (fun c => isCode c || c.before args0 about1) = true := by decide +kernel
set_option maxRecDepth 65536 in
theorem w_t2 : (words1.drop 24).all (fun c => isCode c || c.before args0 about1) = true := by decide +kernel
theorem w_tables : (allAtoms (Jvm.Cond.code x code maxLocals ret :: tables_1)).before args0 about1 = true := by
  rw [allAtoms_all]
  show words1.all (fun c => c.before args0 about1) = true
  refine all_split ?_ w_codes
  rw [← List.take_append_drop 24 words1, List.all_append, w_t1, w_t2]
  rfl
set_option maxRecDepth 65536 in
theorem w_case : (Jvm.Cond.and given_1 narrow_1).before args0 about1 = true := by decide +kernel
theorem w_applies : (headSpec (Jvm.Cond.code x code maxLocals ret :: tables_1) room_1).applies x e0.platform about1 = true :=
  (Spec.applies_iff w_frames).mpr ⟨w_running, w_runnable, w_alone, w_named, w_hears, w_ripe, w_room, w_tables⟩
theorem atStart : AtStart classFile x code maxLocals ret World_1 tables_1 room_1 Calls_1 rest_1 Pre_1 launch0 p0 e0 about1 theMethod args0 below0 :=
  ⟨lists_1, trivial, launch0.admits_env _ _ _, launch0.least_env, fairChoices_fair.cas, fairChoices_fair.clock, w_frames, w_args, w_heap, w_applies, trivial, trivial, w_case⟩
end start1
theorem witness_1 : WitnessClaimed_1 := ⟨start1.p0, start1.e0, start1.about1, start1.theMethod, start1.args0, start1.below0, start1.atStart⟩
end Jvm.Pilot.@@N@@
