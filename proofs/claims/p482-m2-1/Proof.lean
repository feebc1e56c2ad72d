import JvmDerived
import JvmDerived.Pilot.@@N@@Statement
import JvmDerived.Pilot.@@N@@Code
set_option linter.unusedVariables false
set_option linter.unusedSimpArgs false
namespace Jvm.Pilot.@@N@@
open Jvm Jvm.ClassFile Sem Op Lib Jvm.Free Jvm.Stand Jvm.LawKit Jvm.RoadKit Bundle Jvm.Pilot.@@N@@.Jvm.D
theorem own_sta {s : State} {args : Array Value} {C n d K : String} (hx : (Jvm.Cond.exactly (Term.static C n d) K).value args s none s [] = some true) (wi : (Jvm.Cond.initialized C).before args s = true) (wl : (Jvm.Cond.laysStatic C n d).before args s = true) :
    ∃ w : Addr, (Term.static C n d).eval args s none [] s = some (.ref w) ∧ Sta s s.heap C n d (.ref w) ∧ Exa s s.heap w K := by
  obtain ⟨w, ew⟩ := exa_v hx
  exact ⟨w, ew, Sta.start ew (Or.inr ⟨wi, wl⟩), Exa.start ew hx⟩
theorem own_fld {s : State} {args : Array Value} {t : Term} {w : Addr} {C n d : String} {k : Int32} (ev : t.eval args s none [] s = some (.ref w)) (hx : (Jvm.Cond.eq (Term.field t C n d) (Term.int k)).value args s none s [] = some true) : Fld s s.heap w C n d (.int k) := by
  have e1 := fld_at (C := C) (n := n) (dd := d) ev
  refine Fld.start ?_
  cases hv : s.fieldOf? w C n d with
  | none => rw [hv] at e1; simp [Cond.value, e1] at hx
  | some v =>
    rw [hv] at e1
    have e2 : (Term.int k).eval args s none [] s = some (.int k) := Term.int_eval k
    cases v <;> simp [Cond.value, e1, e2] at hx ⊢
    exact hx
theorem own_fldR {s : State} {args : Array Value} {t u : Term} {w z : Addr} {C n d : String} (ev : t.eval args s none [] s = some (.ref w)) (eu : u.eval args s none [] s = some (.ref z)) (hx : (Jvm.Cond.eq (Term.field t C n d) u).value args s none s [] = some true) : Fld s s.heap w C n d (.ref z) := by
  have e1 := fld_at (C := C) (n := n) (dd := d) ev
  refine Fld.start ?_
  cases hv : s.fieldOf? w C n d with
  | none => rw [hv] at e1; simp [Cond.value, e1] at hx
  | some v =>
    rw [hv] at e1
    cases v <;> simp [Cond.value, e1, eu] at hx ⊢
    exact hx
theorem own_nsR {Z : State} {a0 : Array Value} {O K : String} {n : Nat} (w : (Jvm.Cond.noSuperclass O).before a0 Z = true) (wi : (Jvm.Cond.instantiable K n).before a0 Z = true) (hn : O ≠ K) : NS Z O K := by
  obtain ⟨c, k, h1, h2, h3, -⟩ := Cond.noSuperclass_spec w
  obtain ⟨t, kt, g1, -⟩ := Cond.instantiable_spec wi
  exact ⟨c, t, h1, g1, fun fuel => by cases fuel <;> simp [Vm.isSubclassAux, ids_ne h1 g1 hn, h2, h3]⟩
theorem own_nsN {Z : State} {a0 : Array Value} {C S K : String} {n : Nat} (w : (Jvm.Cond.superclass C S).before a0 Z = true) (wi : (Jvm.Cond.instantiable K n).before a0 Z = true) (nn : NS Z C K) (hn : C ≠ K) : ∃ c t, Z.vm.findClass C = some c ∧ Z.vm.findClass K = some t ∧ Z.vm.assignable c t = false := by
  obtain ⟨c, t, h0, g0, n3⟩ := nn
  obtain ⟨_, k, _, -, h2, -, -, h5, -⟩ := Cond.superclass_spec h0 w
  obtain ⟨t', kt, g1, g2, g3, g4, -⟩ := Cond.instantiable_spec wi
  cases g0.symm.trans g1
  have g5 : kt.isInterface = false := (Bool.or_eq_false_iff.mp g4).1
  exact ⟨c, t, h0, g0, by show Z.vm.assignableAux (255 + 1) c t = false; simp [Vm.assignableAux, ids_ne h0 g0 hn, h2, g2, h5, g3, g5, Vm.isSubclass, n3]⟩
theorem own_elem {s : State} {args : Array Value} {t u : Term} {a z : Addr} {cl : Cell} {j : Int32} (ev : t.eval args s none [] s = some (.ref a)) (eu : u.eval args s none [] s = some (.ref z)) (ha : s.arrayAt? a = some cl) (hn : ¬ j < 0) (hx : (Jvm.Cond.eq (Term.elem t (Term.int j)) u).value args s none s [] = some true) : cl.slots[j.toNatClampNeg]? = some (.ref z) := by
  have e1 := elem_f ev (Term.int_eval j) ha hn
  cases hv : cl.slots[j.toNatClampNeg]? with
  | none => rw [hv] at e1; simp [Cond.value, e1] at hx
  | some v =>
    rw [hv] at e1
    cases v <;> simp [Cond.value, e1, eu] at hx ⊢
    exact hx
theorem own_fldN {s : State} {args : Array Value} {t : Term} {w : Addr} {C n d : String} (ev : t.eval args s none [] s = some (.ref w)) (hx : (Jvm.Cond.eq (Term.field t C n d) Term.null).value args s none s [] = some true) : Fld s s.heap w C n d .null := by
  have e1 := fld_at (C := C) (n := n) (dd := d) ev
  have e2 := null_v hx
  rw [e1] at e2
  exact Fld.start e2
theorem refCat {v : Value} (h : v.isRef = true) : v.category = 1 := by rcases ref_cases h with rfl | ⟨a, rfl⟩ <;> rfl
theorem refNar {v : Value} {C : String} (h : v.isRef = true) : narrow (.object C) v = v := by rcases ref_cases h with rfl | ⟨a, rfl⟩ <;> rfl
theorem refFit {v : Value} {C : String} (h : v.isRef = true) : fits (.object C) v = true := by rcases ref_cases h with rfl | ⟨a, rfl⟩ <;> rfl
theorem d2_0 : decode jdk_37_method_2_code 0 = .ok (.aload_n 0, 1) := by decide +kernel
theorem d2_1 : decode jdk_37_method_2_code 1 = .ok (.getfield 7, 3) := by decide +kernel
theorem d2_4 : decode jdk_37_method_2_code 4 = .ok (.ireturn, 1) := by decide +kernel
theorem pn_java_lang_Enum : plainName "java/lang/Enum" = true := by first | (simp [plainName, overriddenIn]; done) | decide +kernel
theorem ef_ord (m : MethodId) (a : Addr) (z : Int32) : entryFrame m #[(.ref a)] 1 = mkF m 0 #[.val (.ref a)] [] := by first | (simp [entryFrame, mkF, argsToLocals, Value.category]; done) | rfl
def Q_ord (Z : State) (w1 : Addr) (w2 : Addr) (w3 : Addr) (w4 : Addr) (a : Addr) (z : Int32) (h0 : Heap) (n0 : Nat) (vv_ : Option Value) (hh_ : Heap) (LL_ : List Loc) : Prop := vv_ = some (.int z) ∧ (Fr n0 LL_) ∧ (hh_ = h0)
set_option maxRecDepth 65536 in
set_option maxHeartbeats 40000000 in
theorem ord (l : Launch) (Z : State) (a0 : Array Value) (hw : ∀ d ∈ tables_1, d.before a0 Z = true) (ws : List Jvm.Cond) (w1 : Addr) (w2 : Addr) (w3 : Addr) (w4 : Addr) (a : Addr) (z : Int32) (h0 : Heap) (n0 : Nat) (O0 : Old Z n0 h0) (S_w1 : Sta Z Z.heap "com/example/demarcate/demarcate/Isolation" "READ_UNCOMMITTED" "Lcom/example/demarcate/demarcate/Isolation;" (.ref w1)) (S_w2 : Sta Z Z.heap "com/example/demarcate/demarcate/Isolation" "READ_COMMITTED" "Lcom/example/demarcate/demarcate/Isolation;" (.ref w2)) (S_w3 : Sta Z Z.heap "com/example/demarcate/demarcate/Isolation" "REPEATABLE_READ" "Lcom/example/demarcate/demarcate/Isolation;" (.ref w3)) (S_w4 : Sta Z Z.heap "com/example/demarcate/demarcate/Isolation" "SERIALIZABLE" "Lcom/example/demarcate/demarcate/Isolation;" (.ref w4)) (E_w1 : Exa Z Z.heap w1 "com/example/demarcate/demarcate/Isolation") (E_w2 : Exa Z Z.heap w2 "com/example/demarcate/demarcate/Isolation") (E_w3 : Exa Z Z.heap w3 "com/example/demarcate/demarcate/Isolation") (E_w4 : Exa Z Z.heap w4 "com/example/demarcate/demarcate/Isolation") (F_w1 : Fld Z Z.heap w1 "java/lang/Enum" "ordinal" "I" (.int (1 : Int32))) (F_w2 : Fld Z Z.heap w2 "java/lang/Enum" "ordinal" "I" (.int (2 : Int32))) (F_w3 : Fld Z Z.heap w3 "java/lang/Enum" "ordinal" "I" (.int (3 : Int32))) (F_w4 : Fld Z Z.heap w4 "java/lang/Enum" "ordinal" "I" (.int (4 : Int32))) (Fa : Fld Z h0 a "java/lang/Enum" "ordinal" "I" (.int z)) :
    MetFree l (⟨"java/lang/Enum", "ordinal", "()I"⟩ : MethodName) (head1 (Jvm.Cond.code (⟨"java/lang/Enum", "ordinal", "()I"⟩ : MethodName) jdk_37_method_2_code 1 (some .int) :: ws) ({ frames := 0, cells := 0, slots := 0, locals := 0 } : Room)) (fun aa_ U_ => aa_ = #[(.ref a)] ∧ Z.Warmed39 U_.vm ∧ U_.heap = h0) (fun _ _ _ _ _ => True) (fun _ U_ oo_ V_ => ∃ vv_ LL_, oo_ = .returned vv_ ∧ Q_ord Z w1 w2 w3 w4 a z h0 n0 vv_ V_.heap LL_ ∧ FrameEnd U_ oo_ V_ LL_ ({ frames := 0, cells := 0, slots := 0, locals := 0 } : Room).cells ({ frames := 0, cells := 0, slots := 0, locals := 0 } : Room).slots) := by
  refine MetFree.of_bodySF (plainFor_of_name pn_java_lang_Enum) hisR ?_
  intro p e s m args below meth c s₁ Bd hml0 hP hK
  obtain ⟨rfl, hZ, hh⟩ := hP
  have hx := Bd.exec
  have hby := Bd.bytes
  have hml : c.maxLocals = 1 := hml0
  have hown : s.vm.findClass "java/lang/Enum" = some m.cls := findClass_of_methodNamed Bd.named
  have hnm := (name_of_methodNamed Bd.named Bd.method).1
  have X0 : Stand p l e ({ frames := 0, cells := 0, slots := 0, locals := 0 } : Room) s m #[(.ref a)] below meth c s₁ [] 0 0 := Stand.of_body Bd
  have e0 : s₁.heap = h0 := by rw [← hh, Bd.state]; rfl
  have N0 := Fr.nil n0
  have Z0 : n0 ≤ h0.size := O0.1 ▸ O0.2.1
  have hk0 := Nat.zero_le h0.size
  have K0 : Keep h0 h0 [] := Keep.refl _ _
  have R0 : ∀ t, Steps p.tables e below (s₁.setTop (mkF m 0 #[.val (.ref a)] [])) t → Steps p.tables e below (s₁.setTop (entryFrame m #[(.ref a)] 1)) t := fun t k => castTop (ef_ord m a z) k
  obtain ⟨T1, X1, e1, st1⟩ := getF X0 hx hZ hown (host := "") (Or.inl (hw _ (List.mem_of_getElem? (i := 15) rfl))) Via.refl e0 Fa (g := (mkF m 1 #[.val (.ref a)] [(.ref a)])) rfl rfl (hb hby d2_1)
  have R2 : ∀ t, Steps p.tables e below (T1.setTop (mkF m 4 #[.val (.ref a)] [(.int z)])) t → Steps p.tables e below (s₁.setTop (entryFrame m #[(.ref a)] 1)) t := by
    intro t k
    refine R0 t ?_
    show Steps p.tables e below (s₁.setTop (mkF m 0 #[.val (.ref a)] [])) t
    refine XS.aloadN X0.here hx rfl (hb hby d2_0) rfl rfl ?_
    show Steps p.tables e below (s₁.setTop (mkF m 1 #[.val (.ref a)] [(.ref a)])) t
    refine st1 _ ?_
    exact k
  obtain ⟨fs, hr, hrun, hended, hW, hsame⟩ := X1.leave (v := some (.int z)) (fun h => by rw [Bd.returns] at h; cases h)
  refine ⟨_, _, R2 _ ?_, hrun, hended, _, _, rfl, ?_, ⟨_, rfl⟩, hW, hsame.mono (by decide) (by decide)⟩
  · show Steps p.tables e below (T1.setTop (mkF m 4 #[.val (.ref a)] [(.int z)])) _
    exact retOut X1 hx Bd.returns rfl (Or.inl ⟨rfl, Or.inl rfl, _, rfl⟩) (hb hby d2_4) hr
  · show Q_ord Z w1 w2 w3 w4 a z h0 n0 _ T1.heap _
    rw [e1]
    exact ⟨rfl, N0, rfl⟩
theorem d1_0 : decode prog_11_method_4_code 0 = .ok (.aload_n 0, 1) := by decide +kernel
theorem pd_0 : parseMethodDescriptor "()I" = some ⟨[], some .int⟩ := by decide +kernel
theorem d1_1 : decode prog_11_method_4_code 1 = .ok (.invokevirtual 38, 3) := by decide +kernel
theorem d1_4 : decode prog_11_method_4_code 4 = .ok (.tableswitch 36 0 4 #[63, 46, 50, 54, 58], 36) := by decide +kernel
theorem d1_50 : decode prog_11_method_4_code 50 = .ok (.iconst 1, 1) := by decide +kernel
theorem d1_51 : decode prog_11_method_4_code 51 = .ok (.goto 26, 3) := by decide +kernel
theorem d1_77 : decode prog_11_method_4_code 77 = .ok (.ireturn, 1) := by decide +kernel
theorem pn_com_example_demarcate_demarcate_Isolation : plainName "com/example/demarcate/demarcate/Isolation" = true := by first | (simp [plainName, overriddenIn]; done) | decide +kernel
theorem ef_jl1 (m : MethodId) (a : Addr) : entryFrame m #[(.ref a)] 1 = mkF m 0 #[.val (.ref a)] [] := by first | (simp [entryFrame, mkF, argsToLocals, Value.category]; done) | rfl
def Q_jl1 (Z : State) (w1 : Addr) (w2 : Addr) (w3 : Addr) (w4 : Addr) (a : Addr) (h0 : Heap) (n0 : Nat) (vv_ : Option Value) (hh_ : Heap) (LL_ : List Loc) : Prop := vv_ = some (.int (1 : Int32)) ∧ (Fr n0 LL_) ∧ (hh_ = h0)
set_option maxRecDepth 65536 in
set_option maxHeartbeats 40000000 in
theorem jl1 (l : Launch) (Z : State) (a0 : Array Value) (hw : ∀ d ∈ tables_1, d.before a0 Z = true) (ws : List Jvm.Cond) (w1 : Addr) (w2 : Addr) (w3 : Addr) (w4 : Addr) (a : Addr) (h0 : Heap) (n0 : Nat) (O0 : Old Z n0 h0) (S_w1 : Sta Z Z.heap "com/example/demarcate/demarcate/Isolation" "READ_UNCOMMITTED" "Lcom/example/demarcate/demarcate/Isolation;" (.ref w1)) (S_w2 : Sta Z Z.heap "com/example/demarcate/demarcate/Isolation" "READ_COMMITTED" "Lcom/example/demarcate/demarcate/Isolation;" (.ref w2)) (S_w3 : Sta Z Z.heap "com/example/demarcate/demarcate/Isolation" "REPEATABLE_READ" "Lcom/example/demarcate/demarcate/Isolation;" (.ref w3)) (S_w4 : Sta Z Z.heap "com/example/demarcate/demarcate/Isolation" "SERIALIZABLE" "Lcom/example/demarcate/demarcate/Isolation;" (.ref w4)) (E_w1 : Exa Z Z.heap w1 "com/example/demarcate/demarcate/Isolation") (E_w2 : Exa Z Z.heap w2 "com/example/demarcate/demarcate/Isolation") (E_w3 : Exa Z Z.heap w3 "com/example/demarcate/demarcate/Isolation") (E_w4 : Exa Z Z.heap w4 "com/example/demarcate/demarcate/Isolation") (F_w1 : Fld Z Z.heap w1 "java/lang/Enum" "ordinal" "I" (.int (1 : Int32))) (F_w2 : Fld Z Z.heap w2 "java/lang/Enum" "ordinal" "I" (.int (2 : Int32))) (F_w3 : Fld Z Z.heap w3 "java/lang/Enum" "ordinal" "I" (.int (3 : Int32))) (F_w4 : Fld Z Z.heap w4 "java/lang/Enum" "ordinal" "I" (.int (4 : Int32))) (Ea : Exa Z h0 a "com/example/demarcate/demarcate/Isolation") (Fa : Fld Z h0 a "java/lang/Enum" "ordinal" "I" (.int (1 : Int32))) :
    MetFree l (⟨"com/example/demarcate/demarcate/Isolation", "jdbcLevel", "()I"⟩ : MethodName) (head1 (Jvm.Cond.code (⟨"com/example/demarcate/demarcate/Isolation", "jdbcLevel", "()I"⟩ : MethodName) prog_11_method_4_code 1 (some .int) :: ws) ({ frames := 1, cells := 0, slots := 0, locals := 12 } : Room)) (fun aa_ U_ => aa_ = #[(.ref a)] ∧ Z.Warmed39 U_.vm ∧ U_.heap = h0) (fun _ _ _ _ _ => True) (fun _ U_ oo_ V_ => ∃ vv_ LL_, oo_ = .returned vv_ ∧ Q_jl1 Z w1 w2 w3 w4 a h0 n0 vv_ V_.heap LL_ ∧ FrameEnd U_ oo_ V_ LL_ ({ frames := 1, cells := 0, slots := 0, locals := 12 } : Room).cells ({ frames := 1, cells := 0, slots := 0, locals := 12 } : Room).slots) := by
  refine MetFree.of_bodySF (plainFor_of_name pn_com_example_demarcate_demarcate_Isolation) hisR ?_
  intro p e s m args below meth c s₁ Bd hml0 hP hK
  obtain ⟨rfl, hZ, hh⟩ := hP
  have hx := Bd.exec
  have hby := Bd.bytes
  have hml : c.maxLocals = 1 := hml0
  have hown : s.vm.findClass "com/example/demarcate/demarcate/Isolation" = some m.cls := findClass_of_methodNamed Bd.named
  have hnm := (name_of_methodNamed Bd.named Bd.method).1
  have X0 : Stand p l e ({ frames := 1, cells := 0, slots := 0, locals := 12 } : Room) s m #[(.ref a)] below meth c s₁ [] 0 0 := Stand.of_body Bd
  have e0 : s₁.heap = h0 := by rw [← hh, Bd.state]; rfl
  have N0 := Fr.nil n0
  have Z0 : n0 ≤ h0.size := O0.1 ▸ O0.2.1
  have hk0 := Nat.zero_le h0.size
  have K0 : Keep h0 h0 [] := Keep.refl _ _
  have R0 : ∀ t, Steps p.tables e below (s₁.setTop (mkF m 0 #[.val (.ref a)] [])) t → Steps p.tables e below (s₁.setTop (entryFrame m #[(.ref a)] 1)) t := fun t k => castTop (ef_jl1 m a) k
  obtain ⟨cq1, kq1, q1a, q1b, q1c⟩ := isOf hZ e0 Ea
  obtain ⟨_, _, ⟨T1, L1, k1, n1⟩, -, X1, ⟨Lc1, hQ1, l1, y1, z1⟩, st1⟩ := X0.virtualBackUp hx (owner := "java/lang/Enum") (x := (⟨"com/example/demarcate/demarcate/Isolation", "ordinal", "()I"⟩ : MethodName)) (y := (⟨"java/lang/Enum", "ordinal", "()I"⟩ : MethodName)) hown (mvT hZ (hw _ (List.mem_of_getElem? (i := 8) rfl))) (mvT hZ (hw _ (List.mem_of_getElem? (i := 9) rfl))) (mvT hZ (hw _ (List.mem_of_getElem? (i := 10) rfl))) (by decide) (mvT hZ (hw _ (List.mem_of_getElem? (i := 12) rfl))) (mvT hZ (hw _ (List.mem_of_getElem? (i := 11) rfl))) (backOf (W := 0) (ord l Z a0 hw [] w1 w2 w3 w4 a (1 : Int32) h0 n0 O0 S_w1 S_w2 S_w3 S_w4 E_w1 E_w2 E_w3 E_w4 F_w1 F_w2 F_w3 F_w4   Fa) hZ (hw _ (List.mem_of_getElem? (i := 14) rfl)) (hw _ (List.mem_of_getElem? (i := 13) rfl)) (by decide) (by decide)) q1a q1c (g := (mkF m 1 #[.val (.ref a)] [(.ref a)])) rfl (by rw [hml]; rfl) (Steps.refl _) (argsL := []) (rest := []) (lenOf pd_0 rfl) rfl (by show 2 * 0 + _ ≤ _; exact Nat.le_of_eq rfl) (hb hby d1_1) (fun _ _ => ⟨rfl, e0, (by decide : 0 + 0 ≤ _), (by decide : 0 + 0 ≤ _)⟩)
  dsimp only [Pt.U, Pt.locs, Pt.cells, Pt.slots] at X1 l1 y1 z1 st1 hQ1
  subst l1 y1 z1
  obtain ⟨rfl, N1q, e1⟩ := hQ1
  have N1 := Fr.app N0 N1q
  have R2 : ∀ t, Steps p.tables e below (T1.setTop (mkF m 77 #[.val (.ref a)] [(.int (1 : Int32))])) t → Steps p.tables e below (s₁.setTop (entryFrame m #[(.ref a)] 1)) t := by
    intro t k
    refine R0 t ?_
    show Steps p.tables e below (s₁.setTop (mkF m 0 #[.val (.ref a)] [])) t
    refine XS.aloadN X0.here hx rfl (hb hby d1_0) rfl rfl ?_
    show Steps p.tables e below (s₁.setTop (mkF m 1 #[.val (.ref a)] [(.ref a)])) t
    refine st1.trans ?_
    show Steps p.tables e below (T1.setTop (mkF m 4 #[.val (.ref a)] [(.int (1 : Int32))])) t
    refine XS.tswIn X1.here hx rfl (pc0 := 4) (pc' := 50) rfl (hb hby d1_4) rfl (by decide) (o := 46) rfl (by decide) (by decide) ?_
    show Steps p.tables e below (T1.setTop (mkF m 50 #[.val (.ref a)] [])) t
    refine XS.iconst X1.here hx rfl (hb hby d1_50) ?_
    show Steps p.tables e below (T1.setTop (mkF m 51 #[.val (.ref a)] [(.int (1 : Int32))])) t
    refine XS.goto X1.here hx rfl (pc0 := 51) (pc' := 77) rfl (hb hby d1_51) (by decide) (by decide) ?_
    exact k
  obtain ⟨fs, hr, hrun, hended, hW, hsame⟩ := X1.leave (v := some (.int (1 : Int32))) (fun h => by rw [Bd.returns] at h; cases h)
  refine ⟨_, _, R2 _ ?_, hrun, hended, _, _, rfl, ?_, ⟨_, rfl⟩, hW, hsame.mono (by decide) (by decide)⟩
  · show Steps p.tables e below (T1.setTop (mkF m 77 #[.val (.ref a)] [(.int (1 : Int32))])) _
    exact retOut X1 hx Bd.returns rfl (Or.inl ⟨rfl, Or.inl rfl, _, rfl⟩) (hb hby d1_77) hr
  · show Q_jl1 Z w1 w2 w3 w4 a h0 n0 _ T1.heap _
    rw [e1]
    exact ⟨rfl, N1, rfl⟩
theorem d1_54 : decode prog_11_method_4_code 54 = .ok (.iconst 2, 1) := by decide +kernel
theorem d1_55 : decode prog_11_method_4_code 55 = .ok (.goto 22, 3) := by decide +kernel
theorem ef_jl2 (m : MethodId) (a : Addr) : entryFrame m #[(.ref a)] 1 = mkF m 0 #[.val (.ref a)] [] := by first | (simp [entryFrame, mkF, argsToLocals, Value.category]; done) | rfl
def Q_jl2 (Z : State) (w1 : Addr) (w2 : Addr) (w3 : Addr) (w4 : Addr) (a : Addr) (h0 : Heap) (n0 : Nat) (vv_ : Option Value) (hh_ : Heap) (LL_ : List Loc) : Prop := vv_ = some (.int (2 : Int32)) ∧ (Fr n0 LL_) ∧ (hh_ = h0)
set_option maxRecDepth 65536 in
set_option maxHeartbeats 40000000 in
theorem jl2 (l : Launch) (Z : State) (a0 : Array Value) (hw : ∀ d ∈ tables_1, d.before a0 Z = true) (ws : List Jvm.Cond) (w1 : Addr) (w2 : Addr) (w3 : Addr) (w4 : Addr) (a : Addr) (h0 : Heap) (n0 : Nat) (O0 : Old Z n0 h0) (S_w1 : Sta Z Z.heap "com/example/demarcate/demarcate/Isolation" "READ_UNCOMMITTED" "Lcom/example/demarcate/demarcate/Isolation;" (.ref w1)) (S_w2 : Sta Z Z.heap "com/example/demarcate/demarcate/Isolation" "READ_COMMITTED" "Lcom/example/demarcate/demarcate/Isolation;" (.ref w2)) (S_w3 : Sta Z Z.heap "com/example/demarcate/demarcate/Isolation" "REPEATABLE_READ" "Lcom/example/demarcate/demarcate/Isolation;" (.ref w3)) (S_w4 : Sta Z Z.heap "com/example/demarcate/demarcate/Isolation" "SERIALIZABLE" "Lcom/example/demarcate/demarcate/Isolation;" (.ref w4)) (E_w1 : Exa Z Z.heap w1 "com/example/demarcate/demarcate/Isolation") (E_w2 : Exa Z Z.heap w2 "com/example/demarcate/demarcate/Isolation") (E_w3 : Exa Z Z.heap w3 "com/example/demarcate/demarcate/Isolation") (E_w4 : Exa Z Z.heap w4 "com/example/demarcate/demarcate/Isolation") (F_w1 : Fld Z Z.heap w1 "java/lang/Enum" "ordinal" "I" (.int (1 : Int32))) (F_w2 : Fld Z Z.heap w2 "java/lang/Enum" "ordinal" "I" (.int (2 : Int32))) (F_w3 : Fld Z Z.heap w3 "java/lang/Enum" "ordinal" "I" (.int (3 : Int32))) (F_w4 : Fld Z Z.heap w4 "java/lang/Enum" "ordinal" "I" (.int (4 : Int32))) (Ea : Exa Z h0 a "com/example/demarcate/demarcate/Isolation") (Fa : Fld Z h0 a "java/lang/Enum" "ordinal" "I" (.int (2 : Int32))) :
    MetFree l (⟨"com/example/demarcate/demarcate/Isolation", "jdbcLevel", "()I"⟩ : MethodName) (head1 (Jvm.Cond.code (⟨"com/example/demarcate/demarcate/Isolation", "jdbcLevel", "()I"⟩ : MethodName) prog_11_method_4_code 1 (some .int) :: ws) ({ frames := 1, cells := 0, slots := 0, locals := 12 } : Room)) (fun aa_ U_ => aa_ = #[(.ref a)] ∧ Z.Warmed39 U_.vm ∧ U_.heap = h0) (fun _ _ _ _ _ => True) (fun _ U_ oo_ V_ => ∃ vv_ LL_, oo_ = .returned vv_ ∧ Q_jl2 Z w1 w2 w3 w4 a h0 n0 vv_ V_.heap LL_ ∧ FrameEnd U_ oo_ V_ LL_ ({ frames := 1, cells := 0, slots := 0, locals := 12 } : Room).cells ({ frames := 1, cells := 0, slots := 0, locals := 12 } : Room).slots) := by
  refine MetFree.of_bodySF (plainFor_of_name pn_com_example_demarcate_demarcate_Isolation) hisR ?_
  intro p e s m args below meth c s₁ Bd hml0 hP hK
  obtain ⟨rfl, hZ, hh⟩ := hP
  have hx := Bd.exec
  have hby := Bd.bytes
  have hml : c.maxLocals = 1 := hml0
  have hown : s.vm.findClass "com/example/demarcate/demarcate/Isolation" = some m.cls := findClass_of_methodNamed Bd.named
  have hnm := (name_of_methodNamed Bd.named Bd.method).1
  have X0 : Stand p l e ({ frames := 1, cells := 0, slots := 0, locals := 12 } : Room) s m #[(.ref a)] below meth c s₁ [] 0 0 := Stand.of_body Bd
  have e0 : s₁.heap = h0 := by rw [← hh, Bd.state]; rfl
  have N0 := Fr.nil n0
  have Z0 : n0 ≤ h0.size := O0.1 ▸ O0.2.1
  have hk0 := Nat.zero_le h0.size
  have K0 : Keep h0 h0 [] := Keep.refl _ _
  have R0 : ∀ t, Steps p.tables e below (s₁.setTop (mkF m 0 #[.val (.ref a)] [])) t → Steps p.tables e below (s₁.setTop (entryFrame m #[(.ref a)] 1)) t := fun t k => castTop (ef_jl2 m a) k
  obtain ⟨cq1, kq1, q1a, q1b, q1c⟩ := isOf hZ e0 Ea
  obtain ⟨_, _, ⟨T1, L1, k1, n1⟩, -, X1, ⟨Lc1, hQ1, l1, y1, z1⟩, st1⟩ := X0.virtualBackUp hx (owner := "java/lang/Enum") (x := (⟨"com/example/demarcate/demarcate/Isolation", "ordinal", "()I"⟩ : MethodName)) (y := (⟨"java/lang/Enum", "ordinal", "()I"⟩ : MethodName)) hown (mvT hZ (hw _ (List.mem_of_getElem? (i := 8) rfl))) (mvT hZ (hw _ (List.mem_of_getElem? (i := 9) rfl))) (mvT hZ (hw _ (List.mem_of_getElem? (i := 10) rfl))) (by decide) (mvT hZ (hw _ (List.mem_of_getElem? (i := 12) rfl))) (mvT hZ (hw _ (List.mem_of_getElem? (i := 11) rfl))) (backOf (W := 0) (ord l Z a0 hw [] w1 w2 w3 w4 a (2 : Int32) h0 n0 O0 S_w1 S_w2 S_w3 S_w4 E_w1 E_w2 E_w3 E_w4 F_w1 F_w2 F_w3 F_w4   Fa) hZ (hw _ (List.mem_of_getElem? (i := 14) rfl)) (hw _ (List.mem_of_getElem? (i := 13) rfl)) (by decide) (by decide)) q1a q1c (g := (mkF m 1 #[.val (.ref a)] [(.ref a)])) rfl (by rw [hml]; rfl) (Steps.refl _) (argsL := []) (rest := []) (lenOf pd_0 rfl) rfl (by show 2 * 0 + _ ≤ _; exact Nat.le_of_eq rfl) (hb hby d1_1) (fun _ _ => ⟨rfl, e0, (by decide : 0 + 0 ≤ _), (by decide : 0 + 0 ≤ _)⟩)
  dsimp only [Pt.U, Pt.locs, Pt.cells, Pt.slots] at X1 l1 y1 z1 st1 hQ1
  subst l1 y1 z1
  obtain ⟨rfl, N1q, e1⟩ := hQ1
  have N1 := Fr.app N0 N1q
  have R2 : ∀ t, Steps p.tables e below (T1.setTop (mkF m 77 #[.val (.ref a)] [(.int (2 : Int32))])) t → Steps p.tables e below (s₁.setTop (entryFrame m #[(.ref a)] 1)) t := by
    intro t k
    refine R0 t ?_
    show Steps p.tables e below (s₁.setTop (mkF m 0 #[.val (.ref a)] [])) t
    refine XS.aloadN X0.here hx rfl (hb hby d1_0) rfl rfl ?_
    show Steps p.tables e below (s₁.setTop (mkF m 1 #[.val (.ref a)] [(.ref a)])) t
    refine st1.trans ?_
    show Steps p.tables e below (T1.setTop (mkF m 4 #[.val (.ref a)] [(.int (2 : Int32))])) t
    refine XS.tswIn X1.here hx rfl (pc0 := 4) (pc' := 54) rfl (hb hby d1_4) rfl (by decide) (o := 50) rfl (by decide) (by decide) ?_
    show Steps p.tables e below (T1.setTop (mkF m 54 #[.val (.ref a)] [])) t
    refine XS.iconst X1.here hx rfl (hb hby d1_54) ?_
    show Steps p.tables e below (T1.setTop (mkF m 55 #[.val (.ref a)] [(.int (2 : Int32))])) t
    refine XS.goto X1.here hx rfl (pc0 := 55) (pc' := 77) rfl (hb hby d1_55) (by decide) (by decide) ?_
    exact k
  obtain ⟨fs, hr, hrun, hended, hW, hsame⟩ := X1.leave (v := some (.int (2 : Int32))) (fun h => by rw [Bd.returns] at h; cases h)
  refine ⟨_, _, R2 _ ?_, hrun, hended, _, _, rfl, ?_, ⟨_, rfl⟩, hW, hsame.mono (by decide) (by decide)⟩
  · show Steps p.tables e below (T1.setTop (mkF m 77 #[.val (.ref a)] [(.int (2 : Int32))])) _
    exact retOut X1 hx Bd.returns rfl (Or.inl ⟨rfl, Or.inl rfl, _, rfl⟩) (hb hby d1_77) hr
  · show Q_jl2 Z w1 w2 w3 w4 a h0 n0 _ T1.heap _
    rw [e1]
    exact ⟨rfl, N1, rfl⟩
theorem d1_58 : decode prog_11_method_4_code 58 = .ok (.iconst 4, 1) := by decide +kernel
theorem d1_59 : decode prog_11_method_4_code 59 = .ok (.goto 18, 3) := by decide +kernel
theorem ef_jl3 (m : MethodId) (a : Addr) : entryFrame m #[(.ref a)] 1 = mkF m 0 #[.val (.ref a)] [] := by first | (simp [entryFrame, mkF, argsToLocals, Value.category]; done) | rfl
def Q_jl3 (Z : State) (w1 : Addr) (w2 : Addr) (w3 : Addr) (w4 : Addr) (a : Addr) (h0 : Heap) (n0 : Nat) (vv_ : Option Value) (hh_ : Heap) (LL_ : List Loc) : Prop := vv_ = some (.int (4 : Int32)) ∧ (Fr n0 LL_) ∧ (hh_ = h0)
set_option maxRecDepth 65536 in
set_option maxHeartbeats 40000000 in
theorem jl3 (l : Launch) (Z : State) (a0 : Array Value) (hw : ∀ d ∈ tables_1, d.before a0 Z = true) (ws : List Jvm.Cond) (w1 : Addr) (w2 : Addr) (w3 : Addr) (w4 : Addr) (a : Addr) (h0 : Heap) (n0 : Nat) (O0 : Old Z n0 h0) (S_w1 : Sta Z Z.heap "com/example/demarcate/demarcate/Isolation" "READ_UNCOMMITTED" "Lcom/example/demarcate/demarcate/Isolation;" (.ref w1)) (S_w2 : Sta Z Z.heap "com/example/demarcate/demarcate/Isolation" "READ_COMMITTED" "Lcom/example/demarcate/demarcate/Isolation;" (.ref w2)) (S_w3 : Sta Z Z.heap "com/example/demarcate/demarcate/Isolation" "REPEATABLE_READ" "Lcom/example/demarcate/demarcate/Isolation;" (.ref w3)) (S_w4 : Sta Z Z.heap "com/example/demarcate/demarcate/Isolation" "SERIALIZABLE" "Lcom/example/demarcate/demarcate/Isolation;" (.ref w4)) (E_w1 : Exa Z Z.heap w1 "com/example/demarcate/demarcate/Isolation") (E_w2 : Exa Z Z.heap w2 "com/example/demarcate/demarcate/Isolation") (E_w3 : Exa Z Z.heap w3 "com/example/demarcate/demarcate/Isolation") (E_w4 : Exa Z Z.heap w4 "com/example/demarcate/demarcate/Isolation") (F_w1 : Fld Z Z.heap w1 "java/lang/Enum" "ordinal" "I" (.int (1 : Int32))) (F_w2 : Fld Z Z.heap w2 "java/lang/Enum" "ordinal" "I" (.int (2 : Int32))) (F_w3 : Fld Z Z.heap w3 "java/lang/Enum" "ordinal" "I" (.int (3 : Int32))) (F_w4 : Fld Z Z.heap w4 "java/lang/Enum" "ordinal" "I" (.int (4 : Int32))) (Ea : Exa Z h0 a "com/example/demarcate/demarcate/Isolation") (Fa : Fld Z h0 a "java/lang/Enum" "ordinal" "I" (.int (3 : Int32))) :
    MetFree l (⟨"com/example/demarcate/demarcate/Isolation", "jdbcLevel", "()I"⟩ : MethodName) (head1 (Jvm.Cond.code (⟨"com/example/demarcate/demarcate/Isolation", "jdbcLevel", "()I"⟩ : MethodName) prog_11_method_4_code 1 (some .int) :: ws) ({ frames := 1, cells := 0, slots := 0, locals := 12 } : Room)) (fun aa_ U_ => aa_ = #[(.ref a)] ∧ Z.Warmed39 U_.vm ∧ U_.heap = h0) (fun _ _ _ _ _ => True) (fun _ U_ oo_ V_ => ∃ vv_ LL_, oo_ = .returned vv_ ∧ Q_jl3 Z w1 w2 w3 w4 a h0 n0 vv_ V_.heap LL_ ∧ FrameEnd U_ oo_ V_ LL_ ({ frames := 1, cells := 0, slots := 0, locals := 12 } : Room).cells ({ frames := 1, cells := 0, slots := 0, locals := 12 } : Room).slots) := by
  refine MetFree.of_bodySF (plainFor_of_name pn_com_example_demarcate_demarcate_Isolation) hisR ?_
  intro p e s m args below meth c s₁ Bd hml0 hP hK
  obtain ⟨rfl, hZ, hh⟩ := hP
  have hx := Bd.exec
  have hby := Bd.bytes
  have hml : c.maxLocals = 1 := hml0
  have hown : s.vm.findClass "com/example/demarcate/demarcate/Isolation" = some m.cls := findClass_of_methodNamed Bd.named
  have hnm := (name_of_methodNamed Bd.named Bd.method).1
  have X0 : Stand p l e ({ frames := 1, cells := 0, slots := 0, locals := 12 } : Room) s m #[(.ref a)] below meth c s₁ [] 0 0 := Stand.of_body Bd
  have e0 : s₁.heap = h0 := by rw [← hh, Bd.state]; rfl
  have N0 := Fr.nil n0
  have Z0 : n0 ≤ h0.size := O0.1 ▸ O0.2.1
  have hk0 := Nat.zero_le h0.size
  have K0 : Keep h0 h0 [] := Keep.refl _ _
  have R0 : ∀ t, Steps p.tables e below (s₁.setTop (mkF m 0 #[.val (.ref a)] [])) t → Steps p.tables e below (s₁.setTop (entryFrame m #[(.ref a)] 1)) t := fun t k => castTop (ef_jl3 m a) k
  obtain ⟨cq1, kq1, q1a, q1b, q1c⟩ := isOf hZ e0 Ea
  obtain ⟨_, _, ⟨T1, L1, k1, n1⟩, -, X1, ⟨Lc1, hQ1, l1, y1, z1⟩, st1⟩ := X0.virtualBackUp hx (owner := "java/lang/Enum") (x := (⟨"com/example/demarcate/demarcate/Isolation", "ordinal", "()I"⟩ : MethodName)) (y := (⟨"java/lang/Enum", "ordinal", "()I"⟩ : MethodName)) hown (mvT hZ (hw _ (List.mem_of_getElem? (i := 8) rfl))) (mvT hZ (hw _ (List.mem_of_getElem? (i := 9) rfl))) (mvT hZ (hw _ (List.mem_of_getElem? (i := 10) rfl))) (by decide) (mvT hZ (hw _ (List.mem_of_getElem? (i := 12) rfl))) (mvT hZ (hw _ (List.mem_of_getElem? (i := 11) rfl))) (backOf (W := 0) (ord l Z a0 hw [] w1 w2 w3 w4 a (3 : Int32) h0 n0 O0 S_w1 S_w2 S_w3 S_w4 E_w1 E_w2 E_w3 E_w4 F_w1 F_w2 F_w3 F_w4   Fa) hZ (hw _ (List.mem_of_getElem? (i := 14) rfl)) (hw _ (List.mem_of_getElem? (i := 13) rfl)) (by decide) (by decide)) q1a q1c (g := (mkF m 1 #[.val (.ref a)] [(.ref a)])) rfl (by rw [hml]; rfl) (Steps.refl _) (argsL := []) (rest := []) (lenOf pd_0 rfl) rfl (by show 2 * 0 + _ ≤ _; exact Nat.le_of_eq rfl) (hb hby d1_1) (fun _ _ => ⟨rfl, e0, (by decide : 0 + 0 ≤ _), (by decide : 0 + 0 ≤ _)⟩)
  dsimp only [Pt.U, Pt.locs, Pt.cells, Pt.slots] at X1 l1 y1 z1 st1 hQ1
  subst l1 y1 z1
  obtain ⟨rfl, N1q, e1⟩ := hQ1
  have N1 := Fr.app N0 N1q
  have R2 : ∀ t, Steps p.tables e below (T1.setTop (mkF m 77 #[.val (.ref a)] [(.int (4 : Int32))])) t → Steps p.tables e below (s₁.setTop (entryFrame m #[(.ref a)] 1)) t := by
    intro t k
    refine R0 t ?_
    show Steps p.tables e below (s₁.setTop (mkF m 0 #[.val (.ref a)] [])) t
    refine XS.aloadN X0.here hx rfl (hb hby d1_0) rfl rfl ?_
    show Steps p.tables e below (s₁.setTop (mkF m 1 #[.val (.ref a)] [(.ref a)])) t
    refine st1.trans ?_
    show Steps p.tables e below (T1.setTop (mkF m 4 #[.val (.ref a)] [(.int (3 : Int32))])) t
    refine XS.tswIn X1.here hx rfl (pc0 := 4) (pc' := 58) rfl (hb hby d1_4) rfl (by decide) (o := 54) rfl (by decide) (by decide) ?_
    show Steps p.tables e below (T1.setTop (mkF m 58 #[.val (.ref a)] [])) t
    refine XS.iconst X1.here hx rfl (hb hby d1_58) ?_
    show Steps p.tables e below (T1.setTop (mkF m 59 #[.val (.ref a)] [(.int (4 : Int32))])) t
    refine XS.goto X1.here hx rfl (pc0 := 59) (pc' := 77) rfl (hb hby d1_59) (by decide) (by decide) ?_
    exact k
  obtain ⟨fs, hr, hrun, hended, hW, hsame⟩ := X1.leave (v := some (.int (4 : Int32))) (fun h => by rw [Bd.returns] at h; cases h)
  refine ⟨_, _, R2 _ ?_, hrun, hended, _, _, rfl, ?_, ⟨_, rfl⟩, hW, hsame.mono (by decide) (by decide)⟩
  · show Steps p.tables e below (T1.setTop (mkF m 77 #[.val (.ref a)] [(.int (4 : Int32))])) _
    exact retOut X1 hx Bd.returns rfl (Or.inl ⟨rfl, Or.inl rfl, _, rfl⟩) (hb hby d1_77) hr
  · show Q_jl3 Z w1 w2 w3 w4 a h0 n0 _ T1.heap _
    rw [e1]
    exact ⟨rfl, N1, rfl⟩
theorem d1_62 : decode prog_11_method_4_code 62 = .ok (.bipush 8, 2) := by decide +kernel
theorem d1_64 : decode prog_11_method_4_code 64 = .ok (.goto 13, 3) := by decide +kernel
theorem ef_jl4 (m : MethodId) (a : Addr) : entryFrame m #[(.ref a)] 1 = mkF m 0 #[.val (.ref a)] [] := by first | (simp [entryFrame, mkF, argsToLocals, Value.category]; done) | rfl
def Q_jl4 (Z : State) (w1 : Addr) (w2 : Addr) (w3 : Addr) (w4 : Addr) (a : Addr) (h0 : Heap) (n0 : Nat) (vv_ : Option Value) (hh_ : Heap) (LL_ : List Loc) : Prop := vv_ = some (.int (8 : Int32)) ∧ (Fr n0 LL_) ∧ (hh_ = h0)
set_option maxRecDepth 65536 in
set_option maxHeartbeats 40000000 in
theorem jl4 (l : Launch) (Z : State) (a0 : Array Value) (hw : ∀ d ∈ tables_1, d.before a0 Z = true) (ws : List Jvm.Cond) (w1 : Addr) (w2 : Addr) (w3 : Addr) (w4 : Addr) (a : Addr) (h0 : Heap) (n0 : Nat) (O0 : Old Z n0 h0) (S_w1 : Sta Z Z.heap "com/example/demarcate/demarcate/Isolation" "READ_UNCOMMITTED" "Lcom/example/demarcate/demarcate/Isolation;" (.ref w1)) (S_w2 : Sta Z Z.heap "com/example/demarcate/demarcate/Isolation" "READ_COMMITTED" "Lcom/example/demarcate/demarcate/Isolation;" (.ref w2)) (S_w3 : Sta Z Z.heap "com/example/demarcate/demarcate/Isolation" "REPEATABLE_READ" "Lcom/example/demarcate/demarcate/Isolation;" (.ref w3)) (S_w4 : Sta Z Z.heap "com/example/demarcate/demarcate/Isolation" "SERIALIZABLE" "Lcom/example/demarcate/demarcate/Isolation;" (.ref w4)) (E_w1 : Exa Z Z.heap w1 "com/example/demarcate/demarcate/Isolation") (E_w2 : Exa Z Z.heap w2 "com/example/demarcate/demarcate/Isolation") (E_w3 : Exa Z Z.heap w3 "com/example/demarcate/demarcate/Isolation") (E_w4 : Exa Z Z.heap w4 "com/example/demarcate/demarcate/Isolation") (F_w1 : Fld Z Z.heap w1 "java/lang/Enum" "ordinal" "I" (.int (1 : Int32))) (F_w2 : Fld Z Z.heap w2 "java/lang/Enum" "ordinal" "I" (.int (2 : Int32))) (F_w3 : Fld Z Z.heap w3 "java/lang/Enum" "ordinal" "I" (.int (3 : Int32))) (F_w4 : Fld Z Z.heap w4 "java/lang/Enum" "ordinal" "I" (.int (4 : Int32))) (Ea : Exa Z h0 a "com/example/demarcate/demarcate/Isolation") (Fa : Fld Z h0 a "java/lang/Enum" "ordinal" "I" (.int (4 : Int32))) :
    MetFree l (⟨"com/example/demarcate/demarcate/Isolation", "jdbcLevel", "()I"⟩ : MethodName) (head1 (Jvm.Cond.code (⟨"com/example/demarcate/demarcate/Isolation", "jdbcLevel", "()I"⟩ : MethodName) prog_11_method_4_code 1 (some .int) :: ws) ({ frames := 1, cells := 0, slots := 0, locals := 12 } : Room)) (fun aa_ U_ => aa_ = #[(.ref a)] ∧ Z.Warmed39 U_.vm ∧ U_.heap = h0) (fun _ _ _ _ _ => True) (fun _ U_ oo_ V_ => ∃ vv_ LL_, oo_ = .returned vv_ ∧ Q_jl4 Z w1 w2 w3 w4 a h0 n0 vv_ V_.heap LL_ ∧ FrameEnd U_ oo_ V_ LL_ ({ frames := 1, cells := 0, slots := 0, locals := 12 } : Room).cells ({ frames := 1, cells := 0, slots := 0, locals := 12 } : Room).slots) := by
  refine MetFree.of_bodySF (plainFor_of_name pn_com_example_demarcate_demarcate_Isolation) hisR ?_
  intro p e s m args below meth c s₁ Bd hml0 hP hK
  obtain ⟨rfl, hZ, hh⟩ := hP
  have hx := Bd.exec
  have hby := Bd.bytes
  have hml : c.maxLocals = 1 := hml0
  have hown : s.vm.findClass "com/example/demarcate/demarcate/Isolation" = some m.cls := findClass_of_methodNamed Bd.named
  have hnm := (name_of_methodNamed Bd.named Bd.method).1
  have X0 : Stand p l e ({ frames := 1, cells := 0, slots := 0, locals := 12 } : Room) s m #[(.ref a)] below meth c s₁ [] 0 0 := Stand.of_body Bd
  have e0 : s₁.heap = h0 := by rw [← hh, Bd.state]; rfl
  have N0 := Fr.nil n0
  have Z0 : n0 ≤ h0.size := O0.1 ▸ O0.2.1
  have hk0 := Nat.zero_le h0.size
  have K0 : Keep h0 h0 [] := Keep.refl _ _
  have R0 : ∀ t, Steps p.tables e below (s₁.setTop (mkF m 0 #[.val (.ref a)] [])) t → Steps p.tables e below (s₁.setTop (entryFrame m #[(.ref a)] 1)) t := fun t k => castTop (ef_jl4 m a) k
  obtain ⟨cq1, kq1, q1a, q1b, q1c⟩ := isOf hZ e0 Ea
  obtain ⟨_, _, ⟨T1, L1, k1, n1⟩, -, X1, ⟨Lc1, hQ1, l1, y1, z1⟩, st1⟩ := X0.virtualBackUp hx (owner := "java/lang/Enum") (x := (⟨"com/example/demarcate/demarcate/Isolation", "ordinal", "()I"⟩ : MethodName)) (y := (⟨"java/lang/Enum", "ordinal", "()I"⟩ : MethodName)) hown (mvT hZ (hw _ (List.mem_of_getElem? (i := 8) rfl))) (mvT hZ (hw _ (List.mem_of_getElem? (i := 9) rfl))) (mvT hZ (hw _ (List.mem_of_getElem? (i := 10) rfl))) (by decide) (mvT hZ (hw _ (List.mem_of_getElem? (i := 12) rfl))) (mvT hZ (hw _ (List.mem_of_getElem? (i := 11) rfl))) (backOf (W := 0) (ord l Z a0 hw [] w1 w2 w3 w4 a (4 : Int32) h0 n0 O0 S_w1 S_w2 S_w3 S_w4 E_w1 E_w2 E_w3 E_w4 F_w1 F_w2 F_w3 F_w4   Fa) hZ (hw _ (List.mem_of_getElem? (i := 14) rfl)) (hw _ (List.mem_of_getElem? (i := 13) rfl)) (by decide) (by decide)) q1a q1c (g := (mkF m 1 #[.val (.ref a)] [(.ref a)])) rfl (by rw [hml]; rfl) (Steps.refl _) (argsL := []) (rest := []) (lenOf pd_0 rfl) rfl (by show 2 * 0 + _ ≤ _; exact Nat.le_of_eq rfl) (hb hby d1_1) (fun _ _ => ⟨rfl, e0, (by decide : 0 + 0 ≤ _), (by decide : 0 + 0 ≤ _)⟩)
  dsimp only [Pt.U, Pt.locs, Pt.cells, Pt.slots] at X1 l1 y1 z1 st1 hQ1
  subst l1 y1 z1
  obtain ⟨rfl, N1q, e1⟩ := hQ1
  have N1 := Fr.app N0 N1q
  have R2 : ∀ t, Steps p.tables e below (T1.setTop (mkF m 77 #[.val (.ref a)] [(.int (8 : Int32))])) t → Steps p.tables e below (s₁.setTop (entryFrame m #[(.ref a)] 1)) t := by
    intro t k
    refine R0 t ?_
    show Steps p.tables e below (s₁.setTop (mkF m 0 #[.val (.ref a)] [])) t
    refine XS.aloadN X0.here hx rfl (hb hby d1_0) rfl rfl ?_
    show Steps p.tables e below (s₁.setTop (mkF m 1 #[.val (.ref a)] [(.ref a)])) t
    refine st1.trans ?_
    show Steps p.tables e below (T1.setTop (mkF m 4 #[.val (.ref a)] [(.int (4 : Int32))])) t
    refine XS.tswIn X1.here hx rfl (pc0 := 4) (pc' := 62) rfl (hb hby d1_4) rfl (by decide) (o := 58) rfl (by decide) (by decide) ?_
    show Steps p.tables e below (T1.setTop (mkF m 62 #[.val (.ref a)] [])) t
    refine XS.bipush X1.here hx rfl (hb hby d1_62) ?_
    show Steps p.tables e below (T1.setTop (mkF m 64 #[.val (.ref a)] [(.int (8 : Int32))])) t
    refine XS.goto X1.here hx rfl (pc0 := 64) (pc' := 77) rfl (hb hby d1_64) (by decide) (by decide) ?_
    exact k
  obtain ⟨fs, hr, hrun, hended, hW, hsame⟩ := X1.leave (v := some (.int (8 : Int32))) (fun h => by rw [Bd.returns] at h; cases h)
  refine ⟨_, _, R2 _ ?_, hrun, hended, _, _, rfl, ?_, ⟨_, rfl⟩, hW, hsame.mono (by decide) (by decide)⟩
  · show Steps p.tables e below (T1.setTop (mkF m 77 #[.val (.ref a)] [(.int (8 : Int32))])) _
    exact retOut X1 hx Bd.returns rfl (Or.inl ⟨rfl, Or.inl rfl, _, rfl⟩) (hb hby d1_77) hr
  · show Q_jl4 Z w1 w2 w3 w4 a h0 n0 _ T1.heap _
    rw [e1]
    exact ⟨rfl, N1, rfl⟩
theorem pn_com_example_demarcate_demarcate_IsolationJdbcLevelPinLaw : plainName "com/example/demarcate/demarcate/IsolationJdbcLevelPinLaw" = true := by first | (simp [plainName, overriddenIn]; done) | decide +kernel
theorem ef_rm0 (m : MethodId) (y : Int32) : entryFrame m #[(.int y)] maxLocals = mkF m 0 #[.val (.int y), .unset, .unset, .unset] [] := by first | (simp [entryFrame, mkF, argsToLocals, Value.category, maxLocals]; done) | rfl
def Q_rm0 (Z : State) (w1 : Addr) (w2 : Addr) (w3 : Addr) (w4 : Addr) (y : Int32) (h0 : Heap) (n0 : Nat) (vv_ : Option Value) (hh_ : Heap) (LL_ : List Loc) : Prop := vv_ = some (.int (1 : Int32)) ∧ (Fr n0 LL_)
set_option maxRecDepth 65536 in
set_option maxHeartbeats 40000000 in
theorem rm0 (l : Launch) (Z : State) (a0 : Array Value) (hw : ∀ d ∈ tables_1, d.before a0 Z = true) (ws : List Jvm.Cond) (w1 : Addr) (w2 : Addr) (w3 : Addr) (w4 : Addr) (y : Int32) (h0 : Heap) (n0 : Nat) (O0 : Old Z n0 h0) (S_w1 : Sta Z Z.heap "com/example/demarcate/demarcate/Isolation" "READ_UNCOMMITTED" "Lcom/example/demarcate/demarcate/Isolation;" (.ref w1)) (S_w2 : Sta Z Z.heap "com/example/demarcate/demarcate/Isolation" "READ_COMMITTED" "Lcom/example/demarcate/demarcate/Isolation;" (.ref w2)) (S_w3 : Sta Z Z.heap "com/example/demarcate/demarcate/Isolation" "REPEATABLE_READ" "Lcom/example/demarcate/demarcate/Isolation;" (.ref w3)) (S_w4 : Sta Z Z.heap "com/example/demarcate/demarcate/Isolation" "SERIALIZABLE" "Lcom/example/demarcate/demarcate/Isolation;" (.ref w4)) (E_w1 : Exa Z Z.heap w1 "com/example/demarcate/demarcate/Isolation") (E_w2 : Exa Z Z.heap w2 "com/example/demarcate/demarcate/Isolation") (E_w3 : Exa Z Z.heap w3 "com/example/demarcate/demarcate/Isolation") (E_w4 : Exa Z Z.heap w4 "com/example/demarcate/demarcate/Isolation") (F_w1 : Fld Z Z.heap w1 "java/lang/Enum" "ordinal" "I" (.int (1 : Int32))) (F_w2 : Fld Z Z.heap w2 "java/lang/Enum" "ordinal" "I" (.int (2 : Int32))) (F_w3 : Fld Z Z.heap w3 "java/lang/Enum" "ordinal" "I" (.int (3 : Int32))) (F_w4 : Fld Z Z.heap w4 "java/lang/Enum" "ordinal" "I" (.int (4 : Int32))) :
    MetFree l x (head1 (Jvm.Cond.code x code maxLocals ret :: ws) room_1) (fun aa_ U_ => aa_ = #[(.int y)] ∧ Z.Warmed39 U_.vm ∧ U_.heap = h0) (fun _ _ _ _ _ => True) (fun _ U_ oo_ V_ => ∃ vv_ LL_, oo_ = .returned vv_ ∧ Q_rm0 Z w1 w2 w3 w4 y h0 n0 vv_ V_.heap LL_ ∧ FrameEnd U_ oo_ V_ LL_ room_1.cells room_1.slots) := by
  refine MetFree.of_bodySF (plainFor_of_name pn_com_example_demarcate_demarcate_IsolationJdbcLevelPinLaw) hisR ?_
  intro p e s m args below meth c s₁ Bd hml0 hP hK
  obtain ⟨rfl, hZ, hh⟩ := hP
  have hx := Bd.exec
  have hby := Bd.bytes
  have hml : c.maxLocals = 4 := hml0
  have hown : s.vm.findClass "com/example/demarcate/demarcate/IsolationJdbcLevelPinLaw" = some m.cls := findClass_of_methodNamed Bd.named
  have hnm := (name_of_methodNamed Bd.named Bd.method).1
  have X0 : Stand p l e room_1 s m #[(.int y)] below meth c s₁ [] 0 0 := Stand.of_body Bd
  have e0 : s₁.heap = h0 := by rw [← hh, Bd.state]; rfl
  have N0 := Fr.nil n0
  have Z0 : n0 ≤ h0.size := O0.1 ▸ O0.2.1
  have hk0 := Nat.zero_le h0.size
  have K0 : Keep h0 h0 [] := Keep.refl _ _
  have R0 : ∀ t, Steps p.tables e below (s₁.setTop (mkF m 0 #[.val (.int y), .unset, .unset, .unset] [])) t → Steps p.tables e below (s₁.setTop (entryFrame m #[(.int y)] maxLocals)) t := fun t k => castTop (ef_rm0 m y) k
  have R1 : ∀ t, Steps p.tables e below (s₁.setTop (mkF m 5 #[.val (.int y), .val (.int (y &&& (3 : Int32))), .unset, .unset] [(.int (y &&& (3 : Int32)))])) t → Steps p.tables e below (s₁.setTop (entryFrame m #[(.int y)] maxLocals)) t := by
    intro t k
    refine R0 t ?_
    show Steps p.tables e below (s₁.setTop (mkF m 0 #[.val (.int y), .unset, .unset, .unset] [])) t
    refine XS.iloadN X0.here hx rfl (hb hby at_0) rfl ?_
    show Steps p.tables e below (s₁.setTop (mkF m 1 #[.val (.int y), .unset, .unset, .unset] [(.int y)])) t
    refine XS.iconst X0.here hx rfl (hb hby at_1) ?_
    show Steps p.tables e below (s₁.setTop (mkF m 2 #[.val (.int y), .unset, .unset, .unset] [(.int (3 : Int32)), (.int y)])) t
    refine XS.iand X0.here hx rfl (hb hby at_2) rfl ?_
    show Steps p.tables e below (s₁.setTop (mkF m 3 #[.val (.int y), .unset, .unset, .unset] [(.int (y &&& (3 : Int32)))])) t
    refine XS.istoreN X0.here hx rfl (hb hby at_3) rfl (l' := #[.val (.int y), .val (.int (y &&& (3 : Int32))), .unset, .unset]) rfl ?_
    show Steps p.tables e below (s₁.setTop (mkF m 4 #[.val (.int y), .val (.int (y &&& (3 : Int32))), .unset, .unset] [])) t
    refine XS.iloadN X0.here hx rfl (hb hby at_4) rfl ?_
    exact k
  by_cases c2 : (y &&& (3 : Int32)) = (0 : Int32)
  · obtain ⟨T3, X3, e3, st3⟩ := getS2 X0 hx hZ hown (host := "") (Or.inl (hw _ (List.mem_of_getElem? (i := 0) rfl))) Via.refl e0 (S_w1.ext O0.2) (g := (mkF m 8 #[.val (.int y), .val (.int (y &&& (3 : Int32))), .unset, .unset] [])) rfl (hb hby at_8)
    obtain ⟨cq4, kq4, q4a, q4b, q4c⟩ := isOf hZ e3 (E_w1.ext O0.2)
    obtain ⟨_, _, ⟨T4, L4, k4, n4⟩, -, X4, ⟨Lc4, hQ4, l4, y4, z4⟩, st4⟩ := X3.virtualBack hx (y := (⟨"com/example/demarcate/demarcate/Isolation", "jdbcLevel", "()I"⟩ : MethodName)) (z := (⟨"com/example/demarcate/demarcate/Isolation", "jdbcLevel", "()I"⟩ : MethodName)) hown (mvT hZ (hw _ (List.mem_of_getElem? (i := 3) rfl))) (mvT hZ (hw _ (List.mem_of_getElem? (i := 4) rfl))) (notFace_of_selects (args := #[]) (mvT hZ (hw _ (List.mem_of_getElem? (i := 6) rfl)))) (mvT hZ (hw _ (List.mem_of_getElem? (i := 6) rfl))) (mvT hZ (hw _ (List.mem_of_getElem? (i := 5) rfl))) (by decide) (backOf (W := 0) (jl1 l Z a0 hw [] w1 w2 w3 w4 w1 h0 n0 O0 S_w1 S_w2 S_w3 S_w4 E_w1 E_w2 E_w3 E_w4 F_w1 F_w2 F_w3 F_w4   (E_w1.ext O0.2) (F_w1.ext O0.2)) hZ (hw _ (List.mem_of_getElem? (i := 7) rfl)) (hw _ (List.mem_of_getElem? (i := 1) rfl)) (by decide) (by decide)) q4a q4c (g := (mkF m 53 #[.val (.int y), .val (.int (y &&& (3 : Int32))), .val (.ref w1), .val (.int (1 : Int32))] [(.ref w1)])) rfl (by rw [hml]; rfl) (Steps.refl _) (argsL := []) (rest := []) (lenOf pd_0 rfl) rfl (by show 2 * 0 + _ ≤ _; exact Nat.le_of_eq rfl) (hb hby at_53) (fun _ _ => ⟨rfl, e3, (by decide : 0 + 0 ≤ _), (by decide : 0 + 0 ≤ _)⟩)
    dsimp only [Pt.U, Pt.locs, Pt.cells, Pt.slots] at X4 l4 y4 z4 st4 hQ4
    subst l4 y4 z4
    obtain ⟨rfl, N4q, e4⟩ := hQ4
    have N4 := Fr.app N0 N4q
    have R5 : ∀ t, Steps p.tables e below (T4.setTop (mkF m 65 #[.val (.int y), .val (.int (y &&& (3 : Int32))), .val (.ref w1), .val (.int (1 : Int32))] [(.int (1 : Int32))])) t → Steps p.tables e below (s₁.setTop (entryFrame m #[(.int y)] maxLocals)) t := by
      intro t k
      refine R1 t ?_
      show Steps p.tables e below (s₁.setTop (mkF m 5 #[.val (.int y), .val (.int (y &&& (3 : Int32))), .unset, .unset] [(.int (y &&& (3 : Int32)))])) t
      refine XS.ifNo X0.here hx rfl (hb hby at_5) rfl ((if0 _ _).trans (teq (c2 : (y &&& (3 : Int32)) = (0 : Int32))).2) ?_
      show Steps p.tables e below (s₁.setTop (mkF m 8 #[.val (.int y), .val (.int (y &&& (3 : Int32))), .unset, .unset] [])) t
      refine st3 _ ?_
      show Steps p.tables e below (T3.setTop (mkF m 11 #[.val (.int y), .val (.int (y &&& (3 : Int32))), .unset, .unset] [(.ref w1)])) t
      refine XS.astoreN X3.here hx rfl (hb hby at_11) rfl rfl (l' := #[.val (.int y), .val (.int (y &&& (3 : Int32))), .val (.ref w1), .unset]) rfl ?_
      show Steps p.tables e below (T3.setTop (mkF m 12 #[.val (.int y), .val (.int (y &&& (3 : Int32))), .val (.ref w1), .unset] [])) t
      refine XS.iconst X3.here hx rfl (hb hby at_12) ?_
      show Steps p.tables e below (T3.setTop (mkF m 13 #[.val (.int y), .val (.int (y &&& (3 : Int32))), .val (.ref w1), .unset] [(.int (1 : Int32))])) t
      refine XS.istoreN X3.here hx rfl (hb hby at_13) rfl (l' := #[.val (.int y), .val (.int (y &&& (3 : Int32))), .val (.ref w1), .val (.int (1 : Int32))]) rfl ?_
      show Steps p.tables e below (T3.setTop (mkF m 14 #[.val (.int y), .val (.int (y &&& (3 : Int32))), .val (.ref w1), .val (.int (1 : Int32))] [])) t
      refine XS.goto X3.here hx rfl (pc0 := 14) (pc' := 52) rfl (hb hby at_14) (by decide) (by decide) ?_
      show Steps p.tables e below (T3.setTop (mkF m 52 #[.val (.int y), .val (.int (y &&& (3 : Int32))), .val (.ref w1), .val (.int (1 : Int32))] [])) t
      refine XS.aloadN X3.here hx rfl (hb hby at_52) rfl rfl ?_
      show Steps p.tables e below (T3.setTop (mkF m 53 #[.val (.int y), .val (.int (y &&& (3 : Int32))), .val (.ref w1), .val (.int (1 : Int32))] [(.ref w1)])) t
      refine st4.trans ?_
      show Steps p.tables e below (T4.setTop (mkF m 56 #[.val (.int y), .val (.int (y &&& (3 : Int32))), .val (.ref w1), .val (.int (1 : Int32))] [(.int (1 : Int32))])) t
      refine XS.iloadN X4.here hx rfl (hb hby at_56) rfl ?_
      show Steps p.tables e below (T4.setTop (mkF m 57 #[.val (.int y), .val (.int (y &&& (3 : Int32))), .val (.ref w1), .val (.int (1 : Int32))] [(.int (1 : Int32)), (.int (1 : Int32))])) t
      refine XS.icmpNo X4.here hx rfl (hb hby at_57) rfl (teq ((by decide) : (1 : Int32) = (1 : Int32))).2 ?_
      show Steps p.tables e below (T4.setTop (mkF m 60 #[.val (.int y), .val (.int (y &&& (3 : Int32))), .val (.ref w1), .val (.int (1 : Int32))] [])) t
      refine XS.iconst X4.here hx rfl (hb hby at_60) ?_
      show Steps p.tables e below (T4.setTop (mkF m 61 #[.val (.int y), .val (.int (y &&& (3 : Int32))), .val (.ref w1), .val (.int (1 : Int32))] [(.int (1 : Int32))])) t
      refine XS.goto X4.here hx rfl (pc0 := 61) (pc' := 65) rfl (hb hby at_61) (by decide) (by decide) ?_
      exact k
    obtain ⟨fs, hr, hrun, hended, hW, hsame⟩ := X4.leave (v := some (.int (1 : Int32))) (fun h => by rw [Bd.returns] at h; cases h)
    refine ⟨_, _, R5 _ ?_, hrun, hended, _, _, rfl, ?_, ⟨_, rfl⟩, hW, hsame.mono (by decide) (by decide)⟩
    · show Steps p.tables e below (T4.setTop (mkF m 65 #[.val (.int y), .val (.int (y &&& (3 : Int32))), .val (.ref w1), .val (.int (1 : Int32))] [(.int (1 : Int32))])) _
      exact retN X4 hx (t := .boolean) Bd.returns (by simp) (hb hby at_65) hr
    · show Q_rm0 Z w1 w2 w3 w4 y h0 n0 _ T4.heap _
      rw [e4]
      exact ⟨rfl, N4⟩
  · have R6 : ∀ t, Steps p.tables e below (s₁.setTop (mkF m 19 #[.val (.int y), .val (.int (y &&& (3 : Int32))), .unset, .unset] [(.int (1 : Int32)), (.int (y &&& (3 : Int32)))])) t → Steps p.tables e below (s₁.setTop (entryFrame m #[(.int y)] maxLocals)) t := by
      intro t k
      refine R1 t ?_
      show Steps p.tables e below (s₁.setTop (mkF m 5 #[.val (.int y), .val (.int (y &&& (3 : Int32))), .unset, .unset] [(.int (y &&& (3 : Int32)))])) t
      refine XS.ifYes X0.here hx rfl (pc0 := 5) (pc' := 17) rfl (hb hby at_5) rfl ((if0 _ _).trans (feq (c2 : ¬ ((y &&& (3 : Int32)) = (0 : Int32)))).2) (by decide) (by decide) ?_
      show Steps p.tables e below (s₁.setTop (mkF m 17 #[.val (.int y), .val (.int (y &&& (3 : Int32))), .unset, .unset] [])) t
      refine XS.iloadN X0.here hx rfl (hb hby at_17) rfl ?_
      show Steps p.tables e below (s₁.setTop (mkF m 18 #[.val (.int y), .val (.int (y &&& (3 : Int32))), .unset, .unset] [(.int (y &&& (3 : Int32)))])) t
      refine XS.iconst X0.here hx rfl (hb hby at_18) ?_
      exact k
    by_cases c7 : (y &&& (3 : Int32)) = (1 : Int32)
    · obtain ⟨T8, X8, e8, st8⟩ := getS2 X0 hx hZ hown (host := "") (Or.inl (hw _ (List.mem_of_getElem? (i := 21) rfl))) Via.refl e0 (S_w2.ext O0.2) (g := (mkF m 22 #[.val (.int y), .val (.int (y &&& (3 : Int32))), .unset, .unset] [])) rfl (hb hby at_22)
      obtain ⟨cq9, kq9, q9a, q9b, q9c⟩ := isOf hZ e8 (E_w2.ext O0.2)
      obtain ⟨_, _, ⟨T9, L9, k9, n9⟩, -, X9, ⟨Lc9, hQ9, l9, y9, z9⟩, st9⟩ := X8.virtualBack hx (y := (⟨"com/example/demarcate/demarcate/Isolation", "jdbcLevel", "()I"⟩ : MethodName)) (z := (⟨"com/example/demarcate/demarcate/Isolation", "jdbcLevel", "()I"⟩ : MethodName)) hown (mvT hZ (hw _ (List.mem_of_getElem? (i := 3) rfl))) (mvT hZ (hw _ (List.mem_of_getElem? (i := 4) rfl))) (notFace_of_selects (args := #[]) (mvT hZ (hw _ (List.mem_of_getElem? (i := 6) rfl)))) (mvT hZ (hw _ (List.mem_of_getElem? (i := 6) rfl))) (mvT hZ (hw _ (List.mem_of_getElem? (i := 5) rfl))) (by decide) (backOf (W := 0) (jl2 l Z a0 hw [] w1 w2 w3 w4 w2 h0 n0 O0 S_w1 S_w2 S_w3 S_w4 E_w1 E_w2 E_w3 E_w4 F_w1 F_w2 F_w3 F_w4   (E_w2.ext O0.2) (F_w2.ext O0.2)) hZ (hw _ (List.mem_of_getElem? (i := 7) rfl)) (hw _ (List.mem_of_getElem? (i := 1) rfl)) (by decide) (by decide)) q9a q9c (g := (mkF m 53 #[.val (.int y), .val (.int (y &&& (3 : Int32))), .val (.ref w2), .val (.int (2 : Int32))] [(.ref w2)])) rfl (by rw [hml]; rfl) (Steps.refl _) (argsL := []) (rest := []) (lenOf pd_0 rfl) rfl (by show 2 * 0 + _ ≤ _; exact Nat.le_of_eq rfl) (hb hby at_53) (fun _ _ => ⟨rfl, e8, (by decide : 0 + 0 ≤ _), (by decide : 0 + 0 ≤ _)⟩)
      dsimp only [Pt.U, Pt.locs, Pt.cells, Pt.slots] at X9 l9 y9 z9 st9 hQ9
      subst l9 y9 z9
      obtain ⟨rfl, N9q, e9⟩ := hQ9
      have N9 := Fr.app N0 N9q
      have R10 : ∀ t, Steps p.tables e below (T9.setTop (mkF m 65 #[.val (.int y), .val (.int (y &&& (3 : Int32))), .val (.ref w2), .val (.int (2 : Int32))] [(.int (1 : Int32))])) t → Steps p.tables e below (s₁.setTop (entryFrame m #[(.int y)] maxLocals)) t := by
        intro t k
        refine R6 t ?_
        show Steps p.tables e below (s₁.setTop (mkF m 19 #[.val (.int y), .val (.int (y &&& (3 : Int32))), .unset, .unset] [(.int (1 : Int32)), (.int (y &&& (3 : Int32)))])) t
        refine XS.icmpNo X0.here hx rfl (hb hby at_19) rfl (teq (c7 : (y &&& (3 : Int32)) = (1 : Int32))).2 ?_
        show Steps p.tables e below (s₁.setTop (mkF m 22 #[.val (.int y), .val (.int (y &&& (3 : Int32))), .unset, .unset] [])) t
        refine st8 _ ?_
        show Steps p.tables e below (T8.setTop (mkF m 25 #[.val (.int y), .val (.int (y &&& (3 : Int32))), .unset, .unset] [(.ref w2)])) t
        refine XS.astoreN X8.here hx rfl (hb hby at_25) rfl rfl (l' := #[.val (.int y), .val (.int (y &&& (3 : Int32))), .val (.ref w2), .unset]) rfl ?_
        show Steps p.tables e below (T8.setTop (mkF m 26 #[.val (.int y), .val (.int (y &&& (3 : Int32))), .val (.ref w2), .unset] [])) t
        refine XS.iconst X8.here hx rfl (hb hby at_26) ?_
        show Steps p.tables e below (T8.setTop (mkF m 27 #[.val (.int y), .val (.int (y &&& (3 : Int32))), .val (.ref w2), .unset] [(.int (2 : Int32))])) t
        refine XS.istoreN X8.here hx rfl (hb hby at_27) rfl (l' := #[.val (.int y), .val (.int (y &&& (3 : Int32))), .val (.ref w2), .val (.int (2 : Int32))]) rfl ?_
        show Steps p.tables e below (T8.setTop (mkF m 28 #[.val (.int y), .val (.int (y &&& (3 : Int32))), .val (.ref w2), .val (.int (2 : Int32))] [])) t
        refine XS.goto X8.here hx rfl (pc0 := 28) (pc' := 52) rfl (hb hby at_28) (by decide) (by decide) ?_
        show Steps p.tables e below (T8.setTop (mkF m 52 #[.val (.int y), .val (.int (y &&& (3 : Int32))), .val (.ref w2), .val (.int (2 : Int32))] [])) t
        refine XS.aloadN X8.here hx rfl (hb hby at_52) rfl rfl ?_
        show Steps p.tables e below (T8.setTop (mkF m 53 #[.val (.int y), .val (.int (y &&& (3 : Int32))), .val (.ref w2), .val (.int (2 : Int32))] [(.ref w2)])) t
        refine st9.trans ?_
        show Steps p.tables e below (T9.setTop (mkF m 56 #[.val (.int y), .val (.int (y &&& (3 : Int32))), .val (.ref w2), .val (.int (2 : Int32))] [(.int (2 : Int32))])) t
        refine XS.iloadN X9.here hx rfl (hb hby at_56) rfl ?_
        show Steps p.tables e below (T9.setTop (mkF m 57 #[.val (.int y), .val (.int (y &&& (3 : Int32))), .val (.ref w2), .val (.int (2 : Int32))] [(.int (2 : Int32)), (.int (2 : Int32))])) t
        refine XS.icmpNo X9.here hx rfl (hb hby at_57) rfl (teq ((by decide) : (2 : Int32) = (2 : Int32))).2 ?_
        show Steps p.tables e below (T9.setTop (mkF m 60 #[.val (.int y), .val (.int (y &&& (3 : Int32))), .val (.ref w2), .val (.int (2 : Int32))] [])) t
        refine XS.iconst X9.here hx rfl (hb hby at_60) ?_
        show Steps p.tables e below (T9.setTop (mkF m 61 #[.val (.int y), .val (.int (y &&& (3 : Int32))), .val (.ref w2), .val (.int (2 : Int32))] [(.int (1 : Int32))])) t
        refine XS.goto X9.here hx rfl (pc0 := 61) (pc' := 65) rfl (hb hby at_61) (by decide) (by decide) ?_
        exact k
      obtain ⟨fs, hr, hrun, hended, hW, hsame⟩ := X9.leave (v := some (.int (1 : Int32))) (fun h => by rw [Bd.returns] at h; cases h)
      refine ⟨_, _, R10 _ ?_, hrun, hended, _, _, rfl, ?_, ⟨_, rfl⟩, hW, hsame.mono (by decide) (by decide)⟩
      · show Steps p.tables e below (T9.setTop (mkF m 65 #[.val (.int y), .val (.int (y &&& (3 : Int32))), .val (.ref w2), .val (.int (2 : Int32))] [(.int (1 : Int32))])) _
        exact retN X9 hx (t := .boolean) Bd.returns (by simp) (hb hby at_65) hr
      · show Q_rm0 Z w1 w2 w3 w4 y h0 n0 _ T9.heap _
        rw [e9]
        exact ⟨rfl, N9⟩
    · have R11 : ∀ t, Steps p.tables e below (s₁.setTop (mkF m 33 #[.val (.int y), .val (.int (y &&& (3 : Int32))), .unset, .unset] [(.int (2 : Int32)), (.int (y &&& (3 : Int32)))])) t → Steps p.tables e below (s₁.setTop (entryFrame m #[(.int y)] maxLocals)) t := by
        intro t k
        refine R6 t ?_
        show Steps p.tables e below (s₁.setTop (mkF m 19 #[.val (.int y), .val (.int (y &&& (3 : Int32))), .unset, .unset] [(.int (1 : Int32)), (.int (y &&& (3 : Int32)))])) t
        refine XS.icmpYes X0.here hx rfl (pc0 := 19) (pc' := 31) rfl (hb hby at_19) rfl (feq (c7 : ¬ ((y &&& (3 : Int32)) = (1 : Int32)))).2 (by decide) (by decide) ?_
        show Steps p.tables e below (s₁.setTop (mkF m 31 #[.val (.int y), .val (.int (y &&& (3 : Int32))), .unset, .unset] [])) t
        refine XS.iloadN X0.here hx rfl (hb hby at_31) rfl ?_
        show Steps p.tables e below (s₁.setTop (mkF m 32 #[.val (.int y), .val (.int (y &&& (3 : Int32))), .unset, .unset] [(.int (y &&& (3 : Int32)))])) t
        refine XS.iconst X0.here hx rfl (hb hby at_32) ?_
        exact k
      by_cases c12 : (y &&& (3 : Int32)) = (2 : Int32)
      · obtain ⟨T13, X13, e13, st13⟩ := getS2 X0 hx hZ hown (host := "") (Or.inl (hw _ (List.mem_of_getElem? (i := 19) rfl))) Via.refl e0 (S_w3.ext O0.2) (g := (mkF m 36 #[.val (.int y), .val (.int (y &&& (3 : Int32))), .unset, .unset] [])) rfl (hb hby at_36)
        obtain ⟨cq14, kq14, q14a, q14b, q14c⟩ := isOf hZ e13 (E_w3.ext O0.2)
        obtain ⟨_, _, ⟨T14, L14, k14, n14⟩, -, X14, ⟨Lc14, hQ14, l14, y14, z14⟩, st14⟩ := X13.virtualBack hx (y := (⟨"com/example/demarcate/demarcate/Isolation", "jdbcLevel", "()I"⟩ : MethodName)) (z := (⟨"com/example/demarcate/demarcate/Isolation", "jdbcLevel", "()I"⟩ : MethodName)) hown (mvT hZ (hw _ (List.mem_of_getElem? (i := 3) rfl))) (mvT hZ (hw _ (List.mem_of_getElem? (i := 4) rfl))) (notFace_of_selects (args := #[]) (mvT hZ (hw _ (List.mem_of_getElem? (i := 6) rfl)))) (mvT hZ (hw _ (List.mem_of_getElem? (i := 6) rfl))) (mvT hZ (hw _ (List.mem_of_getElem? (i := 5) rfl))) (by decide) (backOf (W := 0) (jl3 l Z a0 hw [] w1 w2 w3 w4 w3 h0 n0 O0 S_w1 S_w2 S_w3 S_w4 E_w1 E_w2 E_w3 E_w4 F_w1 F_w2 F_w3 F_w4   (E_w3.ext O0.2) (F_w3.ext O0.2)) hZ (hw _ (List.mem_of_getElem? (i := 7) rfl)) (hw _ (List.mem_of_getElem? (i := 1) rfl)) (by decide) (by decide)) q14a q14c (g := (mkF m 53 #[.val (.int y), .val (.int (y &&& (3 : Int32))), .val (.ref w3), .val (.int (4 : Int32))] [(.ref w3)])) rfl (by rw [hml]; rfl) (Steps.refl _) (argsL := []) (rest := []) (lenOf pd_0 rfl) rfl (by show 2 * 0 + _ ≤ _; exact Nat.le_of_eq rfl) (hb hby at_53) (fun _ _ => ⟨rfl, e13, (by decide : 0 + 0 ≤ _), (by decide : 0 + 0 ≤ _)⟩)
        dsimp only [Pt.U, Pt.locs, Pt.cells, Pt.slots] at X14 l14 y14 z14 st14 hQ14
        subst l14 y14 z14
        obtain ⟨rfl, N14q, e14⟩ := hQ14
        have N14 := Fr.app N0 N14q
        have R15 : ∀ t, Steps p.tables e below (T14.setTop (mkF m 65 #[.val (.int y), .val (.int (y &&& (3 : Int32))), .val (.ref w3), .val (.int (4 : Int32))] [(.int (1 : Int32))])) t → Steps p.tables e below (s₁.setTop (entryFrame m #[(.int y)] maxLocals)) t := by
          intro t k
          refine R11 t ?_
          show Steps p.tables e below (s₁.setTop (mkF m 33 #[.val (.int y), .val (.int (y &&& (3 : Int32))), .unset, .unset] [(.int (2 : Int32)), (.int (y &&& (3 : Int32)))])) t
          refine XS.icmpNo X0.here hx rfl (hb hby at_33) rfl (teq (c12 : (y &&& (3 : Int32)) = (2 : Int32))).2 ?_
          show Steps p.tables e below (s₁.setTop (mkF m 36 #[.val (.int y), .val (.int (y &&& (3 : Int32))), .unset, .unset] [])) t
          refine st13 _ ?_
          show Steps p.tables e below (T13.setTop (mkF m 39 #[.val (.int y), .val (.int (y &&& (3 : Int32))), .unset, .unset] [(.ref w3)])) t
          refine XS.astoreN X13.here hx rfl (hb hby at_39) rfl rfl (l' := #[.val (.int y), .val (.int (y &&& (3 : Int32))), .val (.ref w3), .unset]) rfl ?_
          show Steps p.tables e below (T13.setTop (mkF m 40 #[.val (.int y), .val (.int (y &&& (3 : Int32))), .val (.ref w3), .unset] [])) t
          refine XS.iconst X13.here hx rfl (hb hby at_40) ?_
          show Steps p.tables e below (T13.setTop (mkF m 41 #[.val (.int y), .val (.int (y &&& (3 : Int32))), .val (.ref w3), .unset] [(.int (4 : Int32))])) t
          refine XS.istoreN X13.here hx rfl (hb hby at_41) rfl (l' := #[.val (.int y), .val (.int (y &&& (3 : Int32))), .val (.ref w3), .val (.int (4 : Int32))]) rfl ?_
          show Steps p.tables e below (T13.setTop (mkF m 42 #[.val (.int y), .val (.int (y &&& (3 : Int32))), .val (.ref w3), .val (.int (4 : Int32))] [])) t
          refine XS.goto X13.here hx rfl (pc0 := 42) (pc' := 52) rfl (hb hby at_42) (by decide) (by decide) ?_
          show Steps p.tables e below (T13.setTop (mkF m 52 #[.val (.int y), .val (.int (y &&& (3 : Int32))), .val (.ref w3), .val (.int (4 : Int32))] [])) t
          refine XS.aloadN X13.here hx rfl (hb hby at_52) rfl rfl ?_
          show Steps p.tables e below (T13.setTop (mkF m 53 #[.val (.int y), .val (.int (y &&& (3 : Int32))), .val (.ref w3), .val (.int (4 : Int32))] [(.ref w3)])) t
          refine st14.trans ?_
          show Steps p.tables e below (T14.setTop (mkF m 56 #[.val (.int y), .val (.int (y &&& (3 : Int32))), .val (.ref w3), .val (.int (4 : Int32))] [(.int (4 : Int32))])) t
          refine XS.iloadN X14.here hx rfl (hb hby at_56) rfl ?_
          show Steps p.tables e below (T14.setTop (mkF m 57 #[.val (.int y), .val (.int (y &&& (3 : Int32))), .val (.ref w3), .val (.int (4 : Int32))] [(.int (4 : Int32)), (.int (4 : Int32))])) t
          refine XS.icmpNo X14.here hx rfl (hb hby at_57) rfl (teq ((by decide) : (4 : Int32) = (4 : Int32))).2 ?_
          show Steps p.tables e below (T14.setTop (mkF m 60 #[.val (.int y), .val (.int (y &&& (3 : Int32))), .val (.ref w3), .val (.int (4 : Int32))] [])) t
          refine XS.iconst X14.here hx rfl (hb hby at_60) ?_
          show Steps p.tables e below (T14.setTop (mkF m 61 #[.val (.int y), .val (.int (y &&& (3 : Int32))), .val (.ref w3), .val (.int (4 : Int32))] [(.int (1 : Int32))])) t
          refine XS.goto X14.here hx rfl (pc0 := 61) (pc' := 65) rfl (hb hby at_61) (by decide) (by decide) ?_
          exact k
        obtain ⟨fs, hr, hrun, hended, hW, hsame⟩ := X14.leave (v := some (.int (1 : Int32))) (fun h => by rw [Bd.returns] at h; cases h)
        refine ⟨_, _, R15 _ ?_, hrun, hended, _, _, rfl, ?_, ⟨_, rfl⟩, hW, hsame.mono (by decide) (by decide)⟩
        · show Steps p.tables e below (T14.setTop (mkF m 65 #[.val (.int y), .val (.int (y &&& (3 : Int32))), .val (.ref w3), .val (.int (4 : Int32))] [(.int (1 : Int32))])) _
          exact retN X14 hx (t := .boolean) Bd.returns (by simp) (hb hby at_65) hr
        · show Q_rm0 Z w1 w2 w3 w4 y h0 n0 _ T14.heap _
          rw [e14]
          exact ⟨rfl, N14⟩
      · obtain ⟨T16, X16, e16, st16⟩ := getS2 X0 hx hZ hown (host := "") (Or.inl (hw _ (List.mem_of_getElem? (i := 17) rfl))) Via.refl e0 (S_w4.ext O0.2) (g := (mkF m 45 #[.val (.int y), .val (.int (y &&& (3 : Int32))), .unset, .unset] [])) rfl (hb hby at_45)
        obtain ⟨cq17, kq17, q17a, q17b, q17c⟩ := isOf hZ e16 (E_w4.ext O0.2)
        obtain ⟨_, _, ⟨T17, L17, k17, n17⟩, -, X17, ⟨Lc17, hQ17, l17, y17, z17⟩, st17⟩ := X16.virtualBack hx (y := (⟨"com/example/demarcate/demarcate/Isolation", "jdbcLevel", "()I"⟩ : MethodName)) (z := (⟨"com/example/demarcate/demarcate/Isolation", "jdbcLevel", "()I"⟩ : MethodName)) hown (mvT hZ (hw _ (List.mem_of_getElem? (i := 3) rfl))) (mvT hZ (hw _ (List.mem_of_getElem? (i := 4) rfl))) (notFace_of_selects (args := #[]) (mvT hZ (hw _ (List.mem_of_getElem? (i := 6) rfl)))) (mvT hZ (hw _ (List.mem_of_getElem? (i := 6) rfl))) (mvT hZ (hw _ (List.mem_of_getElem? (i := 5) rfl))) (by decide) (backOf (W := 0) (jl4 l Z a0 hw [] w1 w2 w3 w4 w4 h0 n0 O0 S_w1 S_w2 S_w3 S_w4 E_w1 E_w2 E_w3 E_w4 F_w1 F_w2 F_w3 F_w4   (E_w4.ext O0.2) (F_w4.ext O0.2)) hZ (hw _ (List.mem_of_getElem? (i := 7) rfl)) (hw _ (List.mem_of_getElem? (i := 1) rfl)) (by decide) (by decide)) q17a q17c (g := (mkF m 53 #[.val (.int y), .val (.int (y &&& (3 : Int32))), .val (.ref w4), .val (.int (8 : Int32))] [(.ref w4)])) rfl (by rw [hml]; rfl) (Steps.refl _) (argsL := []) (rest := []) (lenOf pd_0 rfl) rfl (by show 2 * 0 + _ ≤ _; exact Nat.le_of_eq rfl) (hb hby at_53) (fun _ _ => ⟨rfl, e16, (by decide : 0 + 0 ≤ _), (by decide : 0 + 0 ≤ _)⟩)
        dsimp only [Pt.U, Pt.locs, Pt.cells, Pt.slots] at X17 l17 y17 z17 st17 hQ17
        subst l17 y17 z17
        obtain ⟨rfl, N17q, e17⟩ := hQ17
        have N17 := Fr.app N0 N17q
        have R18 : ∀ t, Steps p.tables e below (T17.setTop (mkF m 65 #[.val (.int y), .val (.int (y &&& (3 : Int32))), .val (.ref w4), .val (.int (8 : Int32))] [(.int (1 : Int32))])) t → Steps p.tables e below (s₁.setTop (entryFrame m #[(.int y)] maxLocals)) t := by
          intro t k
          refine R11 t ?_
          show Steps p.tables e below (s₁.setTop (mkF m 33 #[.val (.int y), .val (.int (y &&& (3 : Int32))), .unset, .unset] [(.int (2 : Int32)), (.int (y &&& (3 : Int32)))])) t
          refine XS.icmpYes X0.here hx rfl (pc0 := 33) (pc' := 45) rfl (hb hby at_33) rfl (feq (c12 : ¬ ((y &&& (3 : Int32)) = (2 : Int32)))).2 (by decide) (by decide) ?_
          show Steps p.tables e below (s₁.setTop (mkF m 45 #[.val (.int y), .val (.int (y &&& (3 : Int32))), .unset, .unset] [])) t
          refine st16 _ ?_
          show Steps p.tables e below (T16.setTop (mkF m 48 #[.val (.int y), .val (.int (y &&& (3 : Int32))), .unset, .unset] [(.ref w4)])) t
          refine XS.astoreN X16.here hx rfl (hb hby at_48) rfl rfl (l' := #[.val (.int y), .val (.int (y &&& (3 : Int32))), .val (.ref w4), .unset]) rfl ?_
          show Steps p.tables e below (T16.setTop (mkF m 49 #[.val (.int y), .val (.int (y &&& (3 : Int32))), .val (.ref w4), .unset] [])) t
          refine XS.bipush X16.here hx rfl (hb hby at_49) ?_
          show Steps p.tables e below (T16.setTop (mkF m 51 #[.val (.int y), .val (.int (y &&& (3 : Int32))), .val (.ref w4), .unset] [(.int (8 : Int32))])) t
          refine XS.istoreN X16.here hx rfl (hb hby at_51) rfl (l' := #[.val (.int y), .val (.int (y &&& (3 : Int32))), .val (.ref w4), .val (.int (8 : Int32))]) rfl ?_
          show Steps p.tables e below (T16.setTop (mkF m 52 #[.val (.int y), .val (.int (y &&& (3 : Int32))), .val (.ref w4), .val (.int (8 : Int32))] [])) t
          refine XS.aloadN X16.here hx rfl (hb hby at_52) rfl rfl ?_
          show Steps p.tables e below (T16.setTop (mkF m 53 #[.val (.int y), .val (.int (y &&& (3 : Int32))), .val (.ref w4), .val (.int (8 : Int32))] [(.ref w4)])) t
          refine st17.trans ?_
          show Steps p.tables e below (T17.setTop (mkF m 56 #[.val (.int y), .val (.int (y &&& (3 : Int32))), .val (.ref w4), .val (.int (8 : Int32))] [(.int (8 : Int32))])) t
          refine XS.iloadN X17.here hx rfl (hb hby at_56) rfl ?_
          show Steps p.tables e below (T17.setTop (mkF m 57 #[.val (.int y), .val (.int (y &&& (3 : Int32))), .val (.ref w4), .val (.int (8 : Int32))] [(.int (8 : Int32)), (.int (8 : Int32))])) t
          refine XS.icmpNo X17.here hx rfl (hb hby at_57) rfl (teq ((by decide) : (8 : Int32) = (8 : Int32))).2 ?_
          show Steps p.tables e below (T17.setTop (mkF m 60 #[.val (.int y), .val (.int (y &&& (3 : Int32))), .val (.ref w4), .val (.int (8 : Int32))] [])) t
          refine XS.iconst X17.here hx rfl (hb hby at_60) ?_
          show Steps p.tables e below (T17.setTop (mkF m 61 #[.val (.int y), .val (.int (y &&& (3 : Int32))), .val (.ref w4), .val (.int (8 : Int32))] [(.int (1 : Int32))])) t
          refine XS.goto X17.here hx rfl (pc0 := 61) (pc' := 65) rfl (hb hby at_61) (by decide) (by decide) ?_
          exact k
        obtain ⟨fs, hr, hrun, hended, hW, hsame⟩ := X17.leave (v := some (.int (1 : Int32))) (fun h => by rw [Bd.returns] at h; cases h)
        refine ⟨_, _, R18 _ ?_, hrun, hended, _, _, rfl, ?_, ⟨_, rfl⟩, hW, hsame.mono (by decide) (by decide)⟩
        · show Steps p.tables e below (T17.setTop (mkF m 65 #[.val (.int y), .val (.int (y &&& (3 : Int32))), .val (.ref w4), .val (.int (8 : Int32))] [(.int (1 : Int32))])) _
          exact retN X17 hx (t := .boolean) Bd.returns (by simp) (hb hby at_65) hr
        · show Q_rm0 Z w1 w2 w3 w4 y h0 n0 _ T17.heap _
          rw [e17]
          exact ⟨rfl, N17⟩
set_option maxRecDepth 65536 in
set_option maxHeartbeats 40000000 in
theorem comes_1 {Post : Tables → Env → Array Value → State → Outcome → State → Prop} (hpost : ∀ tb e args s v u, (limb_1_1.after args s (.returned v) u = true ∧ limb_1_2.after args s (.returned v) u = true ∧ True) → FrameEnd s (.returned v) u (Jvm.fieldLocs frame_1_writes args s ++ Jvm.arrayLocs frame_1_arrays args s ++ Jvm.staticLocs frame_1_statics s) 0 0 → Post tb e args s (.returned v) u) :
    ArmFor flags0 classFile x code maxLocals ret World_1 tables_1 room_1 Calls_1 rest_1 Pre_1 Post := by
  intro l hfl _ _ p e ha hc hk s m args below hf hA hF happ hP
  obtain ⟨hcalls, hrest, hpre⟩ := hP
  obtain ⟨-, -, -, hnamed, -, -, -, hat⟩ := (Spec.applies_iff hf).mp happ
  obtain ⟨hg, hn⟩ := and_e (Cond.before_iff.mp (show (Jvm.Cond.and given_1 narrow_1).before args s = true from hpre))
  obtain ⟨g1, g2⟩ := and_e hg
  obtain ⟨g3, g4⟩ := and_e hn
  obtain ⟨g5, g6⟩ := and_e g4
  obtain ⟨g7, g8⟩ := and_e g6
  obtain ⟨g9, g10⟩ := and_e g8
  obtain ⟨g11, g12⟩ := and_e g10
  obtain ⟨g13, g14⟩ := and_e g12
  obtain ⟨g15, g16⟩ := and_e g14
  obtain ⟨w0, rfl⟩ : ∃ w0 : Value, args = #[w0] := by
    have hs : args.size = 1 := by simpa [Cond.value, given_1] using g1
    obtain ⟨L⟩ := args
    match L, hs with
    | [w0], _ => exact ⟨w0, rfl⟩
  have hw := fun d (hd : d ∈ tables_1) => atoms_spec (ws := Jvm.Cond.code x code maxLocals ret :: tables_1) hat d (List.mem_cons_of_mem _ hd)
  have hfit : Fit s := fun {y c} hc i hi => by
    obtain ⟨ha, rfl⟩ := Array.getElem?_eq_some_iff.mp hc
    have q := List.all_eq_true.mp ((Array.all_eq_true_iff_forall_mem.mp hF) _ (Array.getElem_mem ha)) i (List.mem_range.mpr hi)
    simpa [Array.getElem?_eq_getElem hi] using q
  obtain ⟨i0, ei0⟩ := is_v g2
  obtain rfl : w0 = (.int i0) := Option.some.inj ei0
  obtain ⟨w1, ev_w1, S_w1, E_w1⟩ := own_sta g3 (hw _ (List.mem_of_getElem? (i := 1) rfl)) (hw _ (List.mem_of_getElem? (i := 2) rfl))
  obtain ⟨w4, ev_w4, S_w4, E_w4⟩ := own_sta g7 (hw _ (List.mem_of_getElem? (i := 1) rfl)) (hw _ (List.mem_of_getElem? (i := 18) rfl))
  obtain ⟨w3, ev_w3, S_w3, E_w3⟩ := own_sta g11 (hw _ (List.mem_of_getElem? (i := 1) rfl)) (hw _ (List.mem_of_getElem? (i := 20) rfl))
  obtain ⟨w2, ev_w2, S_w2, E_w2⟩ := own_sta g15 (hw _ (List.mem_of_getElem? (i := 1) rfl)) (hw _ (List.mem_of_getElem? (i := 22) rfl))
  have F_w1 := own_fld ev_w1 g5
  have F_w4 := own_fld ev_w4 g9
  have F_w3 := own_fld ev_w3 g13
  have F_w2 := own_fld ev_w2 g16
  obtain ⟨n, o, h1, h2, h3, _, L, rfl, ⟨rfl, N⟩, hq⟩ := rm0 l s _ hw tables_1 w1 w2 w3 w4 i0 s.heap s.heap.size (Old.start s) S_w1 S_w2 S_w3 S_w4 E_w1 E_w2 E_w3 E_w4 F_w1 F_w2 F_w3 F_w4 p e ha hc hk s m _ below hf ((Spec.applies_iff_loose hf).mp happ).1 ⟨rfl, State.Warmed39.refl s, rfl⟩ trivial
  refine ⟨n, _, h1, h2, h3, hpost _ _ _ _ _ _ ⟨Cond.after_iff.mpr rfl, Cond.after_iff.mpr (eq_i res_at (Term.int_eval (1)) rfl), trivial⟩ ⟨hq.1, hq.2.1, (hq.2.2.sift fun y hy => Or.inr (N y hy)).mono (by decide) (by decide)⟩⟩
theorem main_1_1 : Claimed_1_1 := comes_1 fun _ _ _ _ _ _ h hF => ⟨h.1, hF⟩
theorem main_1_2 : Claimed_1_2 := comes_1 fun _ _ _ _ _ _ h hF => ⟨h.2.1, hF⟩
end Jvm.Pilot.@@N@@
namespace Jvm.Pilot.@@N@@
open Jvm Jvm.ClassFile Sem Op Lib Jvm.Free Jvm.Stand Jvm.Pilot.@@N@@.Jvm.D
/-! MADE BY PROGRAM (witnessworld.py) out of the Statement's table words and the real class files: 12 classes; the members and pool entries that the words name. The judged class is class 1, her method 1. -/
namespace start1
open Jvm.ClassFile
def u (s : String) : CpInfo := .utf8 (stringToUtf16 s)
/-- a pool by its gaps: so many unusable entries, then the entry; so many at the end -/
def gap : Nat → List CpInfo → List CpInfo
  | 0, r => r
  | n + 1, r => .unusable :: gap n r
def poolList (es : List (Nat × CpInfo)) (last : Nat) : List CpInfo := es.foldr (fun e r => gap e.1 (e.2 :: r)) (gap last [])
def pool (es : List (Nat × CpInfo)) (last : Nat) : Array CpInfo := ⟨poolList es last⟩
def fileOf (pool : Array CpInfo) (this : Nat) (attrs : Array Attribute := #[]) (ms : Array MethodInfo := #[]) (fl : Nat := 33) (sup : Nat := 0) (ifs : Array Nat := #[]) (fds : Array FieldInfo := #[]) : ClassFile where
  minorVersion := 0
  majorVersion := 65
  constantPool := pool
  accessFlags := fl
  thisClass := this
  superClass := sup
  interfaces := ifs
  fields := fds
  methods := ms
  attributes := attrs
def plain (name : String) (sup : Option ClassId) : Class where
  name := name
  kind := .ordinary
  loader := none
  accessFlags := 33
  super := sup
  interfaces := #[]
  cf := none
  fields := #[]
  methods := #[]
  instanceTypes := #[]
  staticTypes := #[]
  resolved := #[]
  callSites := []
  init := .initialized
  statics := none
  mirror := none

def pool0 : Array CpInfo := pool [(5, u "<init>"), (0, u "()V"), (1, .class_ 10), (1, u "java/lang/Object")] 113

def k0m0 : Method := { name := "<init>", desc := "()V", sig := { parameters := [], returnType := none }, accessFlags := 1, code := none }
/-- java/lang/Object -/
def k0 : Class := { plain "java/lang/Object" none with
  accessFlags := 33
  interfaces := #[]
  cf := some (fileOf pool0 8 #[] #[{ accessFlags := 1, nameIndex := 5, descriptorIndex := 6, attributes := #[] }] 33 0 #[] #[])
  fields := #[]
  methods := #[k0m0]
  instanceTypes := #[]
  staticTypes := #[]
  resolved := Array.replicate 124 none
  statics := none }

def pool1 : Array CpInfo := pool [(2, .class_ 4), (1, u "java/lang/Object"), (0, u "<init>"), (0, u "()V"), (0, .fieldref 8 9), (0, .class_ 10), (0, .nameAndType 11 12), (0, u "com/example/demarcate/demarcate/Isolation"), (0, u "READ_UNCOMMITTED"), (0, u "Lcom/example/demarcate/demarcate/Isolation;"), (0, .fieldref 8 14), (0, .nameAndType 15 12), (0, u "READ_COMMITTED"), (0, .fieldref 8 17), (0, .nameAndType 18 12), (0, u "REPEATABLE_READ"), (0, .fieldref 8 20), (0, .nameAndType 21 12), (0, u "SERIALIZABLE"), (0, .methodref 8 23), (0, .nameAndType 24 25), (0, u "jdbcLevel"), (0, u "()I"), (0, .class_ 27), (0, u "com/example/demarcate/demarcate/IsolationJdbcLevelPinLaw"), (2, u "law"), (0, u "(I)Z")] 3

def k1m0 : Method := { name := "<init>", desc := "()V", sig := { parameters := [], returnType := none }, accessFlags := 2, code := none }
def k1c1 : Code := { maxStack := 2, maxLocals := 4, code := code, exceptionTable := #[], attributes := #[] }
def k1m1 : Method := { name := "law", desc := "(I)Z", sig := { parameters := [.int], returnType := some .boolean }, accessFlags := 9, code := some k1c1 }
/-- com/example/demarcate/demarcate/IsolationJdbcLevelPinLaw -/
def k1 : Class := { plain "com/example/demarcate/demarcate/IsolationJdbcLevelPinLaw" (some 0) with
  accessFlags := 49
  interfaces := #[]
  cf := some (fileOf pool1 26 #[] #[{ accessFlags := 2, nameIndex := 5, descriptorIndex := 6, attributes := #[] }, { accessFlags := 9, nameIndex := 30, descriptorIndex := 31, attributes := #[] }] 49 2 #[] #[])
  fields := #[]
  methods := #[k1m0, k1m1]
  instanceTypes := #[]
  staticTypes := #[]
  resolved := Array.replicate 35 none
  statics := none }

def pool2 : Array CpInfo := pool [(1, .class_ 2), (0, u "java/lang/constant/Constable"), (0, .class_ 4), (0, u "java/lang/Object")] 6

/-- java/lang/constant/Constable -/
def k2 : Class := { plain "java/lang/constant/Constable" (some 0) with
  accessFlags := 1537
  interfaces := #[]
  cf := some (fileOf pool2 1 #[] #[] 1537 3 #[] #[])
  fields := #[]
  methods := #[]
  instanceTypes := #[]
  staticTypes := #[]
  resolved := Array.replicate 11 none
  statics := none }

def pool3 : Array CpInfo := pool [(1, .class_ 2), (0, u "java/lang/Comparable"), (0, .class_ 4), (0, u "java/lang/Object")] 7

/-- java/lang/Comparable -/
def k3 : Class := { plain "java/lang/Comparable" (some 0) with
  accessFlags := 1537
  interfaces := #[]
  cf := some (fileOf pool3 1 #[] #[] 1537 3 #[] #[])
  fields := #[]
  methods := #[]
  instanceTypes := #[]
  staticTypes := #[]
  resolved := Array.replicate 12 none
  statics := none }

def pool4 : Array CpInfo := pool [(1, .class_ 2), (0, u "java/io/Serializable"), (0, .class_ 4), (0, u "java/lang/Object")] 2

/-- java/io/Serializable -/
def k4 : Class := { plain "java/io/Serializable" (some 0) with
  accessFlags := 1537
  interfaces := #[]
  cf := some (fileOf pool4 1 #[] #[] 1537 3 #[] #[])
  fields := #[]
  methods := #[]
  instanceTypes := #[]
  staticTypes := #[]
  resolved := Array.replicate 7 none
  statics := none }

def pool5 : Array CpInfo := pool [(2, .class_ 4), (1, u "java/lang/Enum"), (0, u "name"), (0, u "Ljava/lang/String;"), (0, .fieldref 2 8), (0, .nameAndType 9 10), (0, u "ordinal"), (0, u "I"), (1, .class_ 14), (1, u "java/lang/Object"), (4, u "hash"), (86, .class_ 108), (1, u "java/lang/Enum$EnumDesc"), (2, .class_ 112), (0, u "java/lang/constant/Constable"), (0, .class_ 114), (0, u "java/lang/Comparable"), (0, .class_ 116), (0, u "java/io/Serializable"), (9, u "()I")] 77

def k5c0 : Code := { maxStack := 1, maxLocals := 1, code := jdk_37_method_2_code, exceptionTable := #[], attributes := #[] }
def k5m0 : Method := { name := "ordinal", desc := "()I", sig := { parameters := [], returnType := some .int }, accessFlags := 17, code := some k5c0 }
/-- java/lang/Enum -/
def k5 : Class := { plain "java/lang/Enum" (some 0) with
  accessFlags := 1057
  interfaces := #[2, 3, 4]
  cf := some (fileOf pool5 2 #[.nestMembers #[106]] #[{ accessFlags := 17, nameIndex := 9, descriptorIndex := 126, attributes := #[] }] 1057 12 #[111, 113, 115] #[{ accessFlags := 18, nameIndex := 5, descriptorIndex := 6, attributes := #[] }, { accessFlags := 18, nameIndex := 9, descriptorIndex := 10, attributes := #[] }, { accessFlags := 2, nameIndex := 19, descriptorIndex := 10, attributes := #[] }])
  fields := #[{ name := "name", type := (.object "java/lang/String"), accessFlags := 18, slot := 0, constantValue := 0 }, { name := "ordinal", type := .int, accessFlags := 18, slot := 1, constantValue := 0 }, { name := "hash", type := .int, accessFlags := 2, slot := 2, constantValue := 0 }]
  methods := #[k5m0]
  instanceTypes := #[(.object "java/lang/String"), .int, .int]
  staticTypes := #[]
  resolved := Array.replicate 204 none
  statics := none }

def pool6 : Array CpInfo := pool [(1, .class_ 2), (0, u "com/example/demarcate/demarcate/Isolation"), (2, u "DEFAULT"), (0, u "Lcom/example/demarcate/demarcate/Isolation;"), (2, u "READ_UNCOMMITTED"), (2, u "READ_COMMITTED"), (2, u "REPEATABLE_READ"), (2, u "SERIALIZABLE"), (2, u "$VALUES"), (0, u "[Lcom/example/demarcate/demarcate/Isolation;"), (6, .class_ 31), (1, u "java/lang/Enum"), (6, .methodref 1 39), (0, .nameAndType 40 41), (0, u "ordinal"), (0, u "()I"), (20, u "jdbcLevel")] 91

def k6c0 : Code := { maxStack := 4, maxLocals := 1, code := prog_11_method_4_code, exceptionTable := #[], attributes := #[] }
def k6m0 : Method := { name := "jdbcLevel", desc := "()I", sig := { parameters := [], returnType := some .int }, accessFlags := 0, code := some k6c0 }
/-- com/example/demarcate/demarcate/Isolation -/
def k6 : Class := { plain "com/example/demarcate/demarcate/Isolation" (some 5) with
  accessFlags := 16433
  interfaces := #[]
  cf := some (fileOf pool6 1 #[] #[{ accessFlags := 0, nameIndex := 62, descriptorIndex := 41, attributes := #[] }] 16433 29 #[] #[{ accessFlags := 16409, nameIndex := 5, descriptorIndex := 6, attributes := #[] }, { accessFlags := 16409, nameIndex := 9, descriptorIndex := 6, attributes := #[] }, { accessFlags := 16409, nameIndex := 12, descriptorIndex := 6, attributes := #[] }, { accessFlags := 16409, nameIndex := 15, descriptorIndex := 6, attributes := #[] }, { accessFlags := 16409, nameIndex := 18, descriptorIndex := 6, attributes := #[] }, { accessFlags := 4122, nameIndex := 21, descriptorIndex := 22, attributes := #[] }])
  fields := #[{ name := "DEFAULT", type := (.object "com/example/demarcate/demarcate/Isolation"), accessFlags := 16409, slot := 0, constantValue := 0 }, { name := "READ_UNCOMMITTED", type := (.object "com/example/demarcate/demarcate/Isolation"), accessFlags := 16409, slot := 1, constantValue := 0 }, { name := "READ_COMMITTED", type := (.object "com/example/demarcate/demarcate/Isolation"), accessFlags := 16409, slot := 2, constantValue := 0 }, { name := "REPEATABLE_READ", type := (.object "com/example/demarcate/demarcate/Isolation"), accessFlags := 16409, slot := 3, constantValue := 0 }, { name := "SERIALIZABLE", type := (.object "com/example/demarcate/demarcate/Isolation"), accessFlags := 16409, slot := 4, constantValue := 0 }, { name := "$VALUES", type := (.array (.object "com/example/demarcate/demarcate/Isolation")), accessFlags := 4122, slot := 5, constantValue := 0 }]
  methods := #[k6m0]
  instanceTypes := #[(.object "java/lang/String"), .int, .int]
  staticTypes := #[(.object "com/example/demarcate/demarcate/Isolation"), (.object "com/example/demarcate/demarcate/Isolation"), (.object "com/example/demarcate/demarcate/Isolation"), (.object "com/example/demarcate/demarcate/Isolation"), (.object "com/example/demarcate/demarcate/Isolation"), (.array (.object "com/example/demarcate/demarcate/Isolation"))]
  resolved := Array.replicate 154 none
  statics := some 0 }

def pool7 : Array CpInfo := pool [(1, u "java/lang/Cloneable"), (0, .class_ 1), (0, u "java/lang/Object"), (0, .class_ 3)] 3

/-- java/lang/Cloneable -/
def k7 : Class := { plain "java/lang/Cloneable" (some 0) with
  accessFlags := 1537
  interfaces := #[]
  cf := some (fileOf pool7 2 #[] #[] 1537 4 #[] #[])
  fields := #[]
  methods := #[]
  instanceTypes := #[]
  staticTypes := #[]
  resolved := Array.replicate 8 none
  statics := none }

/-- the primitive byte -/
def k8 : Class := { plain "byte" none with kind := .primitive 'B', accessFlags := 0x411 }
/-- [B -/
def k9 : Class := { plain "[B" (some 0) with kind := .array 8 .byte, interfaces := #[7, 4], accessFlags := 1041 }

/-- the primitive int -/
def k10 : Class := { plain "int" none with kind := .primitive 'I', accessFlags := 0x411 }
/-- [I -/
def k11 : Class := { plain "[I" (some 0) with kind := .array 10 .int, interfaces := #[7, 4], accessFlags := 1041 }

def heap : Heap := #[{ cls := 6, slots := #[.null, .ref 1, .ref 2, .ref 3, .ref 4, .null], vm := .statics 6 },
  { cls := 6, slots := #[.null, .int 1, .int 0], vm := .none },
  { cls := 6, slots := #[.null, .int 2, .int 0], vm := .none },
  { cls := 6, slots := #[.null, .int 3, .int 0], vm := .none },
  { cls := 6, slots := #[.null, .int 4, .int 0], vm := .none }]
def classes : Array Class := #[k0, k1, k2, k3, k4, k5, k6, k7, k8, k9, k10, k11]
def interned : List (Array UInt16 × Addr) := []
def slotsUsed : Nat := 18
def theMethod : MethodId := ⟨1, 1⟩
def args0 : Array Value := #[.int 5]
def aboutOver (below : List Frame) : State where
  vm := { classes := classes, interned := interned.toArray }
  heap := heap
  slotsUsed := slotsUsed
  threads := #[{ frames := .invoking theMethod args0 :: below }]
def below0 : List Frame := [.native { method := ⟨0, 0⟩, args := #[] }]
def about1 : State := aboutOver below0
def p0 : Program := .bare "" "" ""
def e0 : Env := launch0.env 0 0 0
theorem w_frames : about1.frames = Frame.invoking theMethod args0 :: below0 := rfl
set_option maxRecDepth 65536 in
theorem w_args : argsFit about1.vm theMethod args0 = true := by decide +kernel
set_option maxRecDepth 65536 in
theorem w_heap : heapFits about1 = true := by decide +kernel
set_option maxRecDepth 65536 in
theorem w_runnable : about1.curStatus? = some .runnable := by decide +kernel
set_option maxRecDepth 65536 in
theorem w_alone : about1.alone = true := by decide +kernel
set_option maxRecDepth 65536 in
theorem w_named : about1.methodNamed? x = some theMethod := by decide +kernel
set_option maxRecDepth 65536 in
theorem w_hears : about1.hears theMethod below0 = true := by decide +kernel
set_option maxRecDepth 65536 in
theorem w_ripe : about1.ripe theMethod args0 below0 = true := by decide +kernel
theorem w_running : about1.status = .running := rfl
set_option maxRecDepth 65536 in
theorem w_room : about1.hasRoom e0.platform room_1 = true :=
  launch0.hasRoom_least _ room_1 (by decide +kernel) (by decide +kernel) (by decide +kernel) (by decide +kernel) (by decide +kernel) (by decide +kernel)
theorem allAtoms_all (ts : List Jvm.Cond) (a : Array Jvm.Value) (st : Jvm.State) : (allAtoms ts).before a st = ts.all (fun c => c.before a st) := by
  induction ts with
  | nil => rfl
  | cons c t ih =>
    show (Jvm.Cond.and c (allAtoms t)).before a st = _
    rw [Jvm.Cond.before_and, ih, List.all_cons]
def words1 : List Jvm.Cond := Jvm.Cond.code x code maxLocals ret :: tables_1
/-- a 'code' word, met by the world's own term for the bytes: nothing is compared byte by byte -/
theorem code_word {y : MethodName} {bytes : ByteArray} {mx : Nat} {rt : Option FieldType} {a : Array Value} {s : State} {m : MethodId} {meth : Method} {c : Code} (h1 : s.methodNamed? y = some m) (h2 : s.vm.method? m = some meth) (h3 : meth.code = some c) (h4 : c.code = bytes)
    (h5 : (c.maxLocals == mx && c.exceptionTable.isEmpty && decide (c.maxStack ≤ mostOperands) && decide (meth.sig.returnType = rt) && !meth.locks && decide (parseMethodDescriptor y.desc = some meth.sig)) = true) : (Jvm.Cond.code y bytes mx rt).before a s = true := by
  simp only [Bool.and_eq_true, beq_iff_eq, Bool.not_eq_true', decide_eq_true_eq] at h5
  obtain ⟨⟨⟨⟨⟨g1, g2⟩, g3⟩, g4⟩, g5⟩, g6⟩ := h5
  simp [Cond.before, Cond.holds, Cond.value, h1, h2, h3, h4, g1, g2, g3, g4, g5, g6]
def isCode : Jvm.Cond → Bool
  | .code _ _ _ _ => true
  | _ => false
theorem all_split {L : List Jvm.Cond} {P : Jvm.Cond → Bool} (h1 : L.all (fun c => isCode c || P c) = true) (h2 : ∀ c ∈ L.filter isCode, P c = true) : L.all P = true := by
  refine List.all_eq_true.mpr fun c hc => ?_
  have h := List.all_eq_true.mp h1 c hc
  rcases Bool.eq_false_or_eq_true (isCode c) with hi | hi
  · exact h2 c (List.mem_filter.mpr ⟨hc, hi⟩)
  · simpa [hi] using h
set_option maxRecDepth 65536 in
theorem w_c0 : (Jvm.Cond.code x code maxLocals ret).before args0 about1 = true := code_word (m := ⟨1, 1⟩) (meth := k1m1) (c := k1c1) (by decide +kernel) rfl rfl rfl (by decide +kernel)
set_option maxRecDepth 65536 in
theorem w_c1 : (Jvm.Cond.code ({ cls := "com/example/demarcate/demarcate/Isolation", name := "jdbcLevel", desc := "()I" } : Jvm.MethodName) prog_11_method_4_code (1 : Nat) (Option.some Jvm.ClassFile.FieldType.int)).before args0 about1 = true := code_word (m := ⟨6, 0⟩) (meth := k6m0) (c := k6c0) (by decide +kernel) rfl rfl rfl (by decide +kernel)
set_option maxRecDepth 65536 in
theorem w_c2 : (Jvm.Cond.code ({ cls := "java/lang/Enum", name := "ordinal", desc := "()I" } : Jvm.MethodName) jdk_37_method_2_code (1 : Nat) (Option.some Jvm.ClassFile.FieldType.int)).before args0 about1 = true := code_word (m := ⟨5, 0⟩) (meth := k5m0) (c := k5c0) (by decide +kernel) rfl rfl rfl (by decide +kernel)
def codes1 : List Jvm.Cond := [Jvm.Cond.code x code maxLocals ret, Jvm.Cond.code ({ cls := "com/example/demarcate/demarcate/Isolation", name := "jdbcLevel", desc := "()I" } : Jvm.MethodName) prog_11_method_4_code (1 : Nat) (Option.some Jvm.ClassFile.FieldType.int), Jvm.Cond.code ({ cls := "java/lang/Enum", name := "ordinal", desc := "()I" } : Jvm.MethodName) jdk_37_method_2_code (1 : Nat) (Option.some Jvm.ClassFile.FieldType.int)]
set_option maxRecDepth 65536 in
theorem codes_eq : words1.filter isCode = codes1 := rfl
theorem w_codes : ∀ c ∈ words1.filter isCode, c.before args0 about1 = true := by
  rw [codes_eq]
  intro c hc
  simp only [codes1, List.mem_cons, List.not_mem_nil, or_false] at hc
  rcases hc with rfl | rfl | rfl
  · exact w_c0
  · exact w_c1
  · exact w_c2
set_option maxRecDepth 65536 in
theorem w_t1 : words1.all (fun c => isCode c || c.before args0 about1) = true := by decide +kernel
theorem w_tables : (allAtoms (Jvm.Cond.code x code maxLocals ret :: tables_1)).before args0 about1 = true := by
  rw [allAtoms_all]
  show words1.all (fun c => c.before args0 about1) = true
  refine all_split ?_ w_codes
  rw [w_t1]
set_option maxRecDepth 65536 in
theorem w_case : (Jvm.Cond.and given_1 narrow_1).before args0 about1 = true := by decide +kernel
theorem w_applies : (headSpec (Jvm.Cond.code x code maxLocals ret :: tables_1) room_1).applies x e0.platform about1 = true :=
  (Spec.applies_iff w_frames).mpr ⟨w_running, w_runnable, w_alone, w_named, w_hears, w_ripe, w_room, w_tables⟩
theorem atStart : AtStart classFile x code maxLocals ret World_1 tables_1 room_1 Calls_1 rest_1 Pre_1 launch0 p0 e0 about1 theMethod args0 below0 :=
  ⟨lists_1, trivial, launch0.admits_env _ _ _, launch0.least_env, fairChoices_fair.cas, fairChoices_fair.clock, w_frames, w_args, w_heap, w_applies, trivial, trivial, w_case⟩
end start1
theorem witness_1 : WitnessClaimed_1 := ⟨start1.p0, start1.e0, start1.about1, start1.theMethod, start1.args0, start1.below0, start1.atStart⟩
end Jvm.Pilot.@@N@@
