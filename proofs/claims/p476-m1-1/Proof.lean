import JvmDerived
import JvmDerived.Pilot.@@N@@Statement
import JvmDerived.Pilot.@@N@@Code
set_option linter.unusedVariables false
set_option linter.unusedSimpArgs false
namespace Jvm.Pilot.@@N@@
open Jvm Jvm.ClassFile Sem Op Lib Jvm.Free Jvm.Stand Jvm.LawKit Jvm.RoadKit Bundle Jvm.Pilot.@@N@@.Jvm.D
theorem own_sta {s : State} {args : Array Value} {C n d K : String} (hx : (Jvm.Cond.exactly (Term.static C n d) K).value args s none s [] = some true) (wi : (Jvm.Cond.initialized C).before args s = true) (wl : (Jvm.Cond.laysStatic C n d).before args s = true) :
    ∃ w : Addr, (Term.static C n d).eval args s none [] s = some (.ref w) ∧ Sta s s.heap C n d (.ref w) ∧ Exa s s.heap w K := by
  obtain ⟨w, ew⟩ := exa_v hx
  exact ⟨w, ew, Sta.start ew (Or.inr ⟨wi, wl⟩), Exa.start ew hx⟩
theorem own_fld {s : State} {args : Array Value} {t : Term} {w : Addr} {C n d : String} {k : Int32} (ev : t.eval args s none [] s = some (.ref w)) (hx : (Jvm.Cond.eq (Term.field t C n d) (Term.int k)).value args s none s [] = some true) : Fld s s.heap w C n d (.int k) := by
  have e1 := fld_at (C := C) (n := n) (dd := d) ev
  refine Fld.start ?_
  cases hv : s.fieldOf? w C n d with
  | none => rw [hv] at e1; simp [Cond.value, e1] at hx
  | some v =>
    rw [hv] at e1
    have e2 : (Term.int k).eval args s none [] s = some (.int k) := Term.int_eval k
    cases v <;> simp [Cond.value, e1, e2] at hx ⊢
    exact hx
theorem own_fldR {s : State} {args : Array Value} {t u : Term} {w z : Addr} {C n d : String} (ev : t.eval args s none [] s = some (.ref w)) (eu : u.eval args s none [] s = some (.ref z)) (hx : (Jvm.Cond.eq (Term.field t C n d) u).value args s none s [] = some true) : Fld s s.heap w C n d (.ref z) := by
  have e1 := fld_at (C := C) (n := n) (dd := d) ev
  refine Fld.start ?_
  cases hv : s.fieldOf? w C n d with
  | none => rw [hv] at e1; simp [Cond.value, e1] at hx
  | some v =>
    rw [hv] at e1
    cases v <;> simp [Cond.value, e1, eu] at hx ⊢
    exact hx
theorem own_nsR {Z : State} {a0 : Array Value} {O K : String} {n : Nat} (w : (Jvm.Cond.noSuperclass O).before a0 Z = true) (wi : (Jvm.Cond.instantiable K n).before a0 Z = true) (hn : O ≠ K) : NS Z O K := by
  obtain ⟨c, k, h1, h2, h3, -⟩ := Cond.noSuperclass_spec w
  obtain ⟨t, kt, g1, -⟩ := Cond.instantiable_spec wi
  exact ⟨c, t, h1, g1, fun fuel => by cases fuel <;> simp [Vm.isSubclassAux, ids_ne h1 g1 hn, h2, h3]⟩
theorem own_nsN {Z : State} {a0 : Array Value} {C S K : String} {n : Nat} (w : (Jvm.Cond.superclass C S).before a0 Z = true) (wi : (Jvm.Cond.instantiable K n).before a0 Z = true) (nn : NS Z C K) (hn : C ≠ K) : ∃ c t, Z.vm.findClass C = some c ∧ Z.vm.findClass K = some t ∧ Z.vm.assignable c t = false := by
  obtain ⟨c, t, h0, g0, n3⟩ := nn
  obtain ⟨_, k, _, -, h2, -, -, h5, -⟩ := Cond.superclass_spec h0 w
  obtain ⟨t', kt, g1, g2, g3, g4, -⟩ := Cond.instantiable_spec wi
  cases g0.symm.trans g1
  have g5 : kt.isInterface = false := (Bool.or_eq_false_iff.mp g4).1
  exact ⟨c, t, h0, g0, by show Z.vm.assignableAux (255 + 1) c t = false; simp [Vm.assignableAux, ids_ne h0 g0 hn, h2, g2, h5, g3, g5, Vm.isSubclass, n3]⟩
theorem own_elem {s : State} {args : Array Value} {t u : Term} {a z : Addr} {cl : Cell} {j : Int32} (ev : t.eval args s none [] s = some (.ref a)) (eu : u.eval args s none [] s = some (.ref z)) (ha : s.arrayAt? a = some cl) (hn : ¬ j < 0) (hx : (Jvm.Cond.eq (Term.elem t (Term.int j)) u).value args s none s [] = some true) : cl.slots[j.toNatClampNeg]? = some (.ref z) := by
  have e1 := elem_f ev (Term.int_eval j) ha hn
  cases hv : cl.slots[j.toNatClampNeg]? with
  | none => rw [hv] at e1; simp [Cond.value, e1] at hx
  | some v =>
    rw [hv] at e1
    cases v <;> simp [Cond.value, e1, eu] at hx ⊢
    exact hx
theorem own_fldN {s : State} {args : Array Value} {t : Term} {w : Addr} {C n d : String} (ev : t.eval args s none [] s = some (.ref w)) (hx : (Jvm.Cond.eq (Term.field t C n d) Term.null).value args s none s [] = some true) : Fld s s.heap w C n d .null := by
  have e1 := fld_at (C := C) (n := n) (dd := d) ev
  have e2 := null_v hx
  rw [e1] at e2
  exact Fld.start e2
theorem refCat {v : Value} (h : v.isRef = true) : v.category = 1 := by rcases ref_cases h with rfl | ⟨a, rfl⟩ <;> rfl
theorem refNar {v : Value} {C : String} (h : v.isRef = true) : narrow (.object C) v = v := by rcases ref_cases h with rfl | ⟨a, rfl⟩ <;> rfl
theorem refFit {v : Value} {C : String} (h : v.isRef = true) : fits (.object C) v = true := by rcases ref_cases h with rfl | ⟨a, rfl⟩ <;> rfl
theorem own_len {s : State} {args : Array Value} {t : Term} {a : Addr} {cl : Cell} {z : Int32} (ht : t.eval args s none [] s = some (.ref a)) (ha : s.arrayAt? a = some cl) (h : (Term.length t).eval args s none [] s = some (.int z)) : cl.slots.size < 2 ^ 31 ∧ cl.slots.size.toInt32 = z := by
  simp only [Term.eval, ht, ha, Option.bind_eq_bind, Option.bind_some] at h
  split at h
  · rename_i q; exact ⟨q, by simpa using h⟩
  · cases h
theorem own_idx {x : Int32} (h1 : ¬ (x < (-128 : Int32))) (h2 : ¬ ((127 : Int32) < x)) : ¬ (x + (128 : Int32)) < 0 ∧ (x + (128 : Int32)) < (256 : Int32) := by
  have a1 := c_iadd x 128
  have a2 := rng32 (x + 128)
  simp only [Int32.lt_iff_toInt_lt, show (-128 : Int32).toInt = -128 from by decide, show (127 : Int32).toInt = 127 from by decide, show (128 : Int32).toInt = 128 from by decide, show (256 : Int32).toInt = 256 from by decide, show (0 : Int32).toInt = 0 from by decide] at *
  omega
theorem d8_0 : decode jdk_18_method_1_code 0 = .ok (.aload_n 0, 1) := by decide +kernel
theorem d8_1 : decode jdk_18_method_1_code 1 = .ok (.invokespecial 1, 3) := by decide +kernel
theorem d8_4 : decode jdk_18_method_1_code 4 = .ok (.return_, 1) := by decide +kernel
theorem pn_java_lang_Number : plainName "java/lang/Number" = true := by first | (simp [plainName, overriddenIn]; done) | decide +kernel
theorem ef_numinit (m : MethodId) (a : Addr) : entryFrame m #[(.ref a)] 1 = mkF m 0 #[.val (.ref a)] [] := by first | (simp [entryFrame, mkF, argsToLocals, Value.category]; done) | rfl
def Q_numinit (Z : State) (wL : Addr) (wF : Addr) (wE : Addr) (wcI : Addr) (ccI : Cell) (a : Addr) (h0 : Heap) (n0 : Nat) (vv_ : Option Value) (hh_ : Heap) (LL_ : List Loc) : Prop := vv_ = none ∧ (Fr n0 LL_) ∧ (hh_ = h0)
set_option maxRecDepth 65536 in
set_option maxHeartbeats 40000000 in
theorem numinit (l : Launch) (Z : State) (a0 : Array Value) (hw : ∀ d ∈ tables_1, d.before a0 Z = true) (ws : List Jvm.Cond) (wL : Addr) (wF : Addr) (wE : Addr) (wcI : Addr) (ccI : Cell) (a : Addr) (h0 : Heap) (n0 : Nat) (O0 : Old Z n0 h0) (S_wL : Sta Z Z.heap "com/example/ballot/ballot/model/Role" "LEADER" "Lcom/example/ballot/ballot/model/Role;" (.ref wL)) (S_wF : Sta Z Z.heap "com/example/ballot/ballot/model/Role" "FOLLOWER" "Lcom/example/ballot/ballot/model/Role;" (.ref wF)) (S_wE : Sta Z Z.heap "com/example/ballot/ballot/model/Role" "ELECTING" "Lcom/example/ballot/ballot/model/Role;" (.ref wE)) (E_wL : Exa Z Z.heap wL "com/example/ballot/ballot/model/Role") (E_wF : Exa Z Z.heap wF "com/example/ballot/ballot/model/Role") (E_wE : Exa Z Z.heap wE "com/example/ballot/ballot/model/Role") (nLF : wL ≠ wF) (nLE : wL ≠ wE) (nFE : wF ≠ wE) (S_cI : Sta Z Z.heap "java/lang/Integer$IntegerCache" "cache" "[Ljava/lang/Integer;" (.ref wcI)) (B_cI : Bxs Z wcI ccI "java/lang/Integer" "I" 256 (fun j => .int (j - 128))) (S_hi : Sta Z Z.heap "java/lang/Integer$IntegerCache" "high" "I" (.int (127 : Int32))) :
    MetFree l (⟨"java/lang/Number", "<init>", "()V"⟩ : MethodName) (head1 (Jvm.Cond.code (⟨"java/lang/Number", "<init>", "()V"⟩ : MethodName) jdk_18_method_1_code 1 none :: ws) ({ frames := 1, cells := 0, slots := 0, locals := 12 } : Room)) (fun aa_ U_ => aa_ = #[(.ref a)] ∧ Z.Warmed39 U_.vm ∧ U_.heap = h0) (fun _ _ _ _ _ => True) (fun _ U_ oo_ V_ => ∃ vv_ LL_, oo_ = .returned vv_ ∧ Q_numinit Z wL wF wE wcI ccI a h0 n0 vv_ V_.heap LL_ ∧ FrameEnd U_ oo_ V_ LL_ ({ frames := 1, cells := 0, slots := 0, locals := 12 } : Room).cells ({ frames := 1, cells := 0, slots := 0, locals := 12 } : Room).slots) := by
  refine MetFree.of_bodySF (plainFor_of_name pn_java_lang_Number) hisR ?_
  intro p e s m args below meth c s₁ Bd hml0 hP hK
  obtain ⟨rfl, hZ, hh⟩ := hP
  have hx := Bd.exec
  have hby := Bd.bytes
  have hml : c.maxLocals = 1 := hml0
  have hown : s.vm.findClass "java/lang/Number" = some m.cls := findClass_of_methodNamed Bd.named
  have hnm := (name_of_methodNamed Bd.named Bd.method).1
  have X0 : Stand p l e ({ frames := 1, cells := 0, slots := 0, locals := 12 } : Room) s m #[(.ref a)] below meth c s₁ [] 0 0 := Stand.of_body Bd
  have e0 : s₁.heap = h0 := by rw [← hh, Bd.state]; rfl
  have N0 := Fr.nil n0
  have Z0 : n0 ≤ h0.size := O0.1 ▸ O0.2.1
  have hk0 := Nat.zero_le h0.size
  have K0 : Keep h0 h0 [] := Keep.refl _ _
  have R0 : ∀ t, Steps p.tables e below (s₁.setTop (mkF m 0 #[.val (.ref a)] [])) t → Steps p.tables e below (s₁.setTop (entryFrame m #[(.ref a)] 1)) t := fun t k => castTop (ef_numinit m a) k
  obtain ⟨T1, X1, e1, st1⟩ := initO X0 hx hZ hown (hw _ (List.mem_of_getElem? (i := 71) rfl)) (hw _ (List.mem_of_getElem? (i := 14) rfl)) (hw _ (List.mem_of_getElem? (i := 15) rfl)) e0 (g := (mkF m 1 #[.val (.ref a)] [(.ref a)])) rfl (by rw [hml]; rfl) rfl (hb hby d8_1) (by decide) (W := 0) (by show 2 * 0 + _ ≤ _; exact Nat.le_of_eq rfl) (by decide)
  have R2 : ∀ t, Steps p.tables e below (T1.setTop (mkF m 4 #[.val (.ref a)] [])) t → Steps p.tables e below (s₁.setTop (entryFrame m #[(.ref a)] 1)) t := by
    intro t k
    refine R0 t ?_
    show Steps p.tables e below (s₁.setTop (mkF m 0 #[.val (.ref a)] [])) t
    refine XS.aloadN X0.here hx rfl (hb hby d8_0) rfl rfl ?_
    show Steps p.tables e below (s₁.setTop (mkF m 1 #[.val (.ref a)] [(.ref a)])) t
    refine st1 _ ?_
    exact k
  obtain ⟨fs, hr, hrun, hended, hW, hsame⟩ := X1.leave (v := none) (fun _ => rfl)
  refine ⟨_, _, R2 _ ?_, hrun, hended, _, _, rfl, ?_, ⟨_, rfl⟩, hW, hsame.mono (by decide) (by decide)⟩
  · show Steps p.tables e below (T1.setTop (mkF m 4 #[.val (.ref a)] [])) _
    exact X1.returnOut hx Bd.returns (hb hby d8_4) hr
  · show Q_numinit Z wL wF wE wcI ccI a h0 n0 _ T1.heap _
    rw [e1]
    exact ⟨rfl, N0, rfl⟩
theorem d7_0 : decode jdk_33_method_23_code 0 = .ok (.aload_n 0, 1) := by decide +kernel
theorem pd_0 : parseMethodDescriptor "()V" = some ⟨[], none⟩ := by decide +kernel
theorem d7_1 : decode jdk_33_method_23_code 1 = .ok (.invokespecial 202, 3) := by decide +kernel
theorem d7_4 : decode jdk_33_method_23_code 4 = .ok (.aload_n 0, 1) := by decide +kernel
theorem d7_5 : decode jdk_33_method_23_code 5 = .ok (.iload_n 1, 1) := by decide +kernel
theorem d7_6 : decode jdk_33_method_23_code 6 = .ok (.putfield 205, 3) := by decide +kernel
theorem d7_9 : decode jdk_33_method_23_code 9 = .ok (.return_, 1) := by decide +kernel
theorem pn_java_lang_Integer : plainName "java/lang/Integer" = true := by first | (simp [plainName, overriddenIn]; done) | decide +kernel
theorem ef_boxinitI (m : MethodId) (a : Addr) (x : Int32) (u1 : Value) : entryFrame m #[(.ref a), (.int x)] 2 = mkF m 0 #[.val (.ref a), .val (.int x)] [] := by first | (simp [entryFrame, mkF, argsToLocals, Value.category]; done) | rfl
def Q_boxinitI (Z : State) (wL : Addr) (wF : Addr) (wE : Addr) (wcI : Addr) (ccI : Cell) (a : Addr) (x : Int32) (u1 : Value) (h0 : Heap) (n0 : Nat) (vv_ : Option Value) (hh_ : Heap) (LL_ : List Loc) : Prop := vv_ = none ∧ (Fr n0 LL_) ∧ (Keep h0 hh_ [a]) ∧ (Exa Z hh_ a "java/lang/Integer") ∧ (Fld Z hh_ a "java/lang/Integer" "value" "I" (.int x))
set_option maxRecDepth 65536 in
set_option maxHeartbeats 40000000 in
theorem boxinitI (l : Launch) (Z : State) (a0 : Array Value) (hw : ∀ d ∈ tables_1, d.before a0 Z = true) (ws : List Jvm.Cond) (wL : Addr) (wF : Addr) (wE : Addr) (wcI : Addr) (ccI : Cell) (a : Addr) (x : Int32) (u1 : Value) (h0 : Heap) (n0 : Nat) (O0 : Old Z n0 h0) (S_wL : Sta Z Z.heap "com/example/ballot/ballot/model/Role" "LEADER" "Lcom/example/ballot/ballot/model/Role;" (.ref wL)) (S_wF : Sta Z Z.heap "com/example/ballot/ballot/model/Role" "FOLLOWER" "Lcom/example/ballot/ballot/model/Role;" (.ref wF)) (S_wE : Sta Z Z.heap "com/example/ballot/ballot/model/Role" "ELECTING" "Lcom/example/ballot/ballot/model/Role;" (.ref wE)) (E_wL : Exa Z Z.heap wL "com/example/ballot/ballot/model/Role") (E_wF : Exa Z Z.heap wF "com/example/ballot/ballot/model/Role") (E_wE : Exa Z Z.heap wE "com/example/ballot/ballot/model/Role") (nLF : wL ≠ wF) (nLE : wL ≠ wE) (nFE : wF ≠ wE) (S_cI : Sta Z Z.heap "java/lang/Integer$IntegerCache" "cache" "[Ljava/lang/Integer;" (.ref wcI)) (B_cI : Bxs Z wcI ccI "java/lang/Integer" "I" 256 (fun j => .int (j - 128))) (S_hi : Sta Z Z.heap "java/lang/Integer$IntegerCache" "high" "I" (.int (127 : Int32))) (g_a : n0 ≤ a) (Ea : Exa Z h0 a "java/lang/Integer") (Fa : Fld Z h0 a "java/lang/Integer" "value" "I" u1) :
    MetFree l (⟨"java/lang/Integer", "<init>", "(I)V"⟩ : MethodName) (head1 (Jvm.Cond.code (⟨"java/lang/Integer", "<init>", "(I)V"⟩ : MethodName) jdk_33_method_23_code 2 none :: ws) ({ frames := 2, cells := 0, slots := 0, locals := 24 } : Room)) (fun aa_ U_ => aa_ = #[(.ref a), (.int x)] ∧ Z.Warmed39 U_.vm ∧ U_.heap = h0) (fun _ _ _ _ _ => True) (fun _ U_ oo_ V_ => ∃ vv_ LL_, oo_ = .returned vv_ ∧ Q_boxinitI Z wL wF wE wcI ccI a x u1 h0 n0 vv_ V_.heap LL_ ∧ FrameEnd U_ oo_ V_ LL_ ({ frames := 2, cells := 0, slots := 0, locals := 24 } : Room).cells ({ frames := 2, cells := 0, slots := 0, locals := 24 } : Room).slots) := by
  refine MetFree.of_bodySF (plainFor_of_name pn_java_lang_Integer) hisR ?_
  intro p e s m args below meth c s₁ Bd hml0 hP hK
  obtain ⟨rfl, hZ, hh⟩ := hP
  have hx := Bd.exec
  have hby := Bd.bytes
  have hml : c.maxLocals = 2 := hml0
  have hown : s.vm.findClass "java/lang/Integer" = some m.cls := findClass_of_methodNamed Bd.named
  have hnm := (name_of_methodNamed Bd.named Bd.method).1
  have X0 : Stand p l e ({ frames := 2, cells := 0, slots := 0, locals := 24 } : Room) s m #[(.ref a), (.int x)] below meth c s₁ [] 0 0 := Stand.of_body Bd
  have e0 : s₁.heap = h0 := by rw [← hh, Bd.state]; rfl
  have N0 := Fr.nil n0
  have Z0 : n0 ≤ h0.size := O0.1 ▸ O0.2.1
  have hk0 := Nat.zero_le h0.size
  have K0 : Keep h0 h0 [a] := Keep.refl _ _
  have R0 : ∀ t, Steps p.tables e below (s₁.setTop (mkF m 0 #[.val (.ref a), .val (.int x)] [])) t → Steps p.tables e below (s₁.setTop (entryFrame m #[(.ref a), (.int x)] 2)) t := fun t k => castTop (ef_boxinitI m a x u1) k
  obtain ⟨_, _, ⟨T1, L1, k1, n1⟩, -, X1, ⟨Lc1, hQ1, l1, y1, z1⟩, st1⟩ := X0.specialBack hx (y := (⟨"java/lang/Number", "<init>", "()V"⟩ : MethodName)) rfl hown (mvT hZ (hw _ (List.mem_of_getElem? (i := 65) rfl))) (mvT hZ (hw _ (List.mem_of_getElem? (i := 66) rfl))) (mvT hZ (hw _ (List.mem_of_getElem? (i := 70) rfl))) (by decide) (backOf (W := 0) (numinit l Z a0 hw [] wL wF wE wcI ccI a h0 n0 O0 S_wL S_wF S_wE E_wL E_wF E_wE nLF nLE nFE S_cI B_cI S_hi   ) hZ (hw _ (List.mem_of_getElem? (i := 70) rfl)) (hw _ (List.mem_of_getElem? (i := 69) rfl)) (by decide) (by decide)) (g := (mkF m 1 #[.val (.ref a), .val (.int x)] [(.ref a)])) rfl (by rw [hml]; rfl) (Steps.refl _) (a := a) (argsL := []) (rest := []) (lenOf pd_0 rfl) rfl (by show 2 * 0 + _ ≤ _; exact Nat.le_of_eq rfl) (hb hby d7_1) (fun _ _ => ⟨rfl, e0, (by decide : 0 + 0 ≤ _), (by decide : 0 + 0 ≤ _)⟩)
  dsimp only [Pt.U, Pt.locs, Pt.cells, Pt.slots] at X1 l1 y1 z1 st1 hQ1
  subst l1 y1 z1
  obtain ⟨rfl, N1q, e1⟩ := hQ1
  have N1 := Fr.app N0 N1q
  obtain ⟨T2, h2, X2, e2, W2, st2⟩ := putF X1 hx hZ hown (host := "") (Or.inl (hw _ (List.mem_of_getElem? (i := 72) rfl))) Via.refl e1 Fa Ea (Or.inr ⟨(hw _ (List.mem_of_getElem? (i := 73) rfl)), rfl, hnm⟩) (hw _ (List.mem_of_getElem? (i := 60) rfl)) (ty := .int) (by decide) rfl rfl (g := (mkF m 6 #[.val (.ref a), .val (.int x)] [(.int x), (.ref a)])) rfl rfl (hb hby d7_6)
  have Z2 : n0 ≤ h2.size := Nat.le_trans Z0 (Keep.of_wr W2).1
  have K2 : Keep h0 h2 [a] := K0.wr W2 (Or.inl (List.mem_of_getElem? (i := 0) rfl))
  have O2 : Old Z n0 h2 := O0.wr W2 g_a
  have N2 := Fr.snoc X2 N1 g_a
  have fw2 : Fld Z h2 a "java/lang/Integer" "value" "I" (.int x) := Fa.same W2
  have R3 : ∀ t, Steps p.tables e below (T2.setTop (mkF m 9 #[.val (.ref a), .val (.int x)] [])) t → Steps p.tables e below (s₁.setTop (entryFrame m #[(.ref a), (.int x)] 2)) t := by
    intro t k
    refine R0 t ?_
    show Steps p.tables e below (s₁.setTop (mkF m 0 #[.val (.ref a), .val (.int x)] [])) t
    refine XS.aloadN X0.here hx rfl (hb hby d7_0) rfl rfl ?_
    show Steps p.tables e below (s₁.setTop (mkF m 1 #[.val (.ref a), .val (.int x)] [(.ref a)])) t
    refine st1.trans ?_
    show Steps p.tables e below (T1.setTop (mkF m 4 #[.val (.ref a), .val (.int x)] [])) t
    refine XS.aloadN X1.here hx rfl (hb hby d7_4) rfl rfl ?_
    show Steps p.tables e below (T1.setTop (mkF m 5 #[.val (.ref a), .val (.int x)] [(.ref a)])) t
    refine XS.iloadN X1.here hx rfl (hb hby d7_5) rfl ?_
    show Steps p.tables e below (T1.setTop (mkF m 6 #[.val (.ref a), .val (.int x)] [(.int x), (.ref a)])) t
    refine st2 _ ?_
    exact k
  have f4 : Exa Z h2 a "java/lang/Integer" := (Ea.wr W2)
  obtain ⟨fs, hr, hrun, hended, hW, hsame⟩ := X2.leave (v := none) (fun _ => rfl)
  refine ⟨_, _, R3 _ ?_, hrun, hended, _, _, rfl, ?_, ⟨_, rfl⟩, hW, hsame.mono (by decide) (by decide)⟩
  · show Steps p.tables e below (T2.setTop (mkF m 9 #[.val (.ref a), .val (.int x)] [])) _
    exact X2.returnOut hx Bd.returns (hb hby d7_9) hr
  · show Q_boxinitI Z wL wF wE wcI ccI a x u1 h0 n0 _ T2.heap _
    rw [e2]
    exact ⟨rfl, N2, K2, f4, fw2⟩
theorem d6_0 : decode jdk_33_method_22_code 0 = .ok (.iload_n 0, 1) := by decide +kernel
theorem d6_1 : decode jdk_33_method_22_code 1 = .ok (.bipush (-128), 2) := by decide +kernel
theorem d6_3 : decode jdk_33_method_22_code 3 = .ok (.if_icmp .lt 20, 3) := by decide +kernel
theorem d6_23 : decode jdk_33_method_22_code 23 = .ok (.new 1, 3) := by decide +kernel
theorem d6_26 : decode jdk_33_method_22_code 26 = .ok (.dup, 1) := by decide +kernel
theorem d6_27 : decode jdk_33_method_22_code 27 = .ok (.iload_n 0, 1) := by decide +kernel
theorem pd_1 : parseMethodDescriptor "(I)V" = some ⟨[.int], none⟩ := by decide +kernel
theorem d6_28 : decode jdk_33_method_22_code 28 = .ok (.invokespecial 199, 3) := by decide +kernel
theorem d6_31 : decode jdk_33_method_22_code 31 = .ok (.areturn, 1) := by decide +kernel
theorem d6_6 : decode jdk_33_method_22_code 6 = .ok (.iload_n 0, 1) := by decide +kernel
theorem d6_7 : decode jdk_33_method_22_code 7 = .ok (.getstatic 191, 3) := by decide +kernel
theorem d6_10 : decode jdk_33_method_22_code 10 = .ok (.if_icmp .gt 13, 3) := by decide +kernel
theorem d6_13 : decode jdk_33_method_22_code 13 = .ok (.getstatic 195, 3) := by decide +kernel
theorem d6_16 : decode jdk_33_method_22_code 16 = .ok (.iload_n 0, 1) := by decide +kernel
theorem d6_17 : decode jdk_33_method_22_code 17 = .ok (.sipush 128, 3) := by decide +kernel
theorem d6_20 : decode jdk_33_method_22_code 20 = .ok (.iadd, 1) := by decide +kernel
theorem d6_21 : decode jdk_33_method_22_code 21 = .ok (.aaload, 1) := by decide +kernel
theorem d6_22 : decode jdk_33_method_22_code 22 = .ok (.areturn, 1) := by decide +kernel
theorem ef_valueOfI (m : MethodId) (x : Int32) : entryFrame m #[(.int x)] 1 = mkF m 0 #[.val (.int x)] [] := by first | (simp [entryFrame, mkF, argsToLocals, Value.category]; done) | rfl
def Q_valueOfI (Z : State) (wL : Addr) (wF : Addr) (wE : Addr) (wcI : Addr) (ccI : Cell) (x : Int32) (h0 : Heap) (n0 : Nat) (vv_ : Option Value) (hh_ : Heap) (LL_ : List Loc) : Prop := ∃ (b : Addr), vv_ = some (.ref b) ∧ (Fr n0 LL_) ∧ (Keep h0 hh_ []) ∧ (Exa Z hh_ b "java/lang/Integer")
set_option maxRecDepth 65536 in
set_option maxHeartbeats 40000000 in
theorem valueOfI (l : Launch) (Z : State) (a0 : Array Value) (hw : ∀ d ∈ tables_1, d.before a0 Z = true) (ws : List Jvm.Cond) (wL : Addr) (wF : Addr) (wE : Addr) (wcI : Addr) (ccI : Cell) (x : Int32) (h0 : Heap) (n0 : Nat) (O0 : Old Z n0 h0) (S_wL : Sta Z Z.heap "com/example/ballot/ballot/model/Role" "LEADER" "Lcom/example/ballot/ballot/model/Role;" (.ref wL)) (S_wF : Sta Z Z.heap "com/example/ballot/ballot/model/Role" "FOLLOWER" "Lcom/example/ballot/ballot/model/Role;" (.ref wF)) (S_wE : Sta Z Z.heap "com/example/ballot/ballot/model/Role" "ELECTING" "Lcom/example/ballot/ballot/model/Role;" (.ref wE)) (E_wL : Exa Z Z.heap wL "com/example/ballot/ballot/model/Role") (E_wF : Exa Z Z.heap wF "com/example/ballot/ballot/model/Role") (E_wE : Exa Z Z.heap wE "com/example/ballot/ballot/model/Role") (nLF : wL ≠ wF) (nLE : wL ≠ wE) (nFE : wF ≠ wE) (S_cI : Sta Z Z.heap "java/lang/Integer$IntegerCache" "cache" "[Ljava/lang/Integer;" (.ref wcI)) (B_cI : Bxs Z wcI ccI "java/lang/Integer" "I" 256 (fun j => .int (j - 128))) (S_hi : Sta Z Z.heap "java/lang/Integer$IntegerCache" "high" "I" (.int (127 : Int32))) :
    MetFree l (⟨"java/lang/Integer", "valueOf", "(I)Ljava/lang/Integer;"⟩ : MethodName) (head1 (Jvm.Cond.code (⟨"java/lang/Integer", "valueOf", "(I)Ljava/lang/Integer;"⟩ : MethodName) jdk_33_method_22_code 1 (some (.object "java/lang/Integer")) :: ws) ({ frames := 3, cells := 1, slots := 1, locals := 38 } : Room)) (fun aa_ U_ => aa_ = #[(.int x)] ∧ Z.Warmed39 U_.vm ∧ U_.heap = h0) (fun _ _ _ _ _ => True) (fun _ U_ oo_ V_ => ∃ vv_ LL_, oo_ = .returned vv_ ∧ Q_valueOfI Z wL wF wE wcI ccI x h0 n0 vv_ V_.heap LL_ ∧ FrameEnd U_ oo_ V_ LL_ ({ frames := 3, cells := 1, slots := 1, locals := 38 } : Room).cells ({ frames := 3, cells := 1, slots := 1, locals := 38 } : Room).slots) := by
  refine MetFree.of_bodySF (plainFor_of_name pn_java_lang_Integer) hisR ?_
  intro p e s m args below meth c s₁ Bd hml0 hP hK
  obtain ⟨rfl, hZ, hh⟩ := hP
  have hx := Bd.exec
  have hby := Bd.bytes
  have hml : c.maxLocals = 1 := hml0
  have hown : s.vm.findClass "java/lang/Integer" = some m.cls := findClass_of_methodNamed Bd.named
  have hnm := (name_of_methodNamed Bd.named Bd.method).1
  have X0 : Stand p l e ({ frames := 3, cells := 1, slots := 1, locals := 38 } : Room) s m #[(.int x)] below meth c s₁ [] 0 0 := Stand.of_body Bd
  have e0 : s₁.heap = h0 := by rw [← hh, Bd.state]; rfl
  have N0 := Fr.nil n0
  have Z0 : n0 ≤ h0.size := O0.1 ▸ O0.2.1
  have hk0 := Nat.zero_le h0.size
  have K0 : Keep h0 h0 [] := Keep.refl _ _
  have R0 : ∀ t, Steps p.tables e below (s₁.setTop (mkF m 0 #[.val (.int x)] [])) t → Steps p.tables e below (s₁.setTop (entryFrame m #[(.int x)] 1)) t := fun t k => castTop (ef_valueOfI m x) k
  have R1 : ∀ t, Steps p.tables e below (s₁.setTop (mkF m 3 #[.val (.int x)] [(.int (-128 : Int32)), (.int x)])) t → Steps p.tables e below (s₁.setTop (entryFrame m #[(.int x)] 1)) t := by
    intro t k
    refine R0 t ?_
    show Steps p.tables e below (s₁.setTop (mkF m 0 #[.val (.int x)] [])) t
    refine XS.iloadN X0.here hx rfl (hb hby d6_0) rfl ?_
    show Steps p.tables e below (s₁.setTop (mkF m 1 #[.val (.int x)] [(.int x)])) t
    refine XS.bipush X0.here hx rfl (hb hby d6_1) ?_
    exact k
  by_cases hlo : x < (-128 : Int32)
  · obtain ⟨T2, h2, X2, e2, E2, A2, D2, -, st2⟩ := newO X0 hx hZ hown (hw _ (List.mem_of_getElem? (i := 59) rfl)) (hw _ (List.mem_of_getElem? (i := 60) rfl)) (hw _ (List.mem_of_getElem? (i := 49) rfl)) e0 (g := (mkF m 23 #[.val (.int x)] [])) rfl (hb hby d6_23) (by decide) (by decide)
    obtain ⟨b2, gg2⟩ : ∃ z, z = h0.size := ⟨_, rfl⟩
    rw [← gg2] at A2 D2 st2
    have g_b2 : n0 ≤ b2 := Nat.le_trans Z0 (Nat.le_of_eq gg2.symm)
    have sz_b2 : h0.size ≤ b2 := Nat.le_trans K0.1 (Nat.le_of_eq gg2.symm)
    have Z2 : n0 ≤ h2.size := Nat.le_trans Z0 E2.1
    have K2 : Keep h0 h2 [] := K0.ext E2
    have O2 : Old Z n0 h2 := O0.ext E2
    have F2_value : Fld Z h2 b2 "java/lang/Integer" "value" "I" (.int (0 : Int32)) := D2 (Or.inr (hw _ (List.mem_of_getElem? (i := 73) rfl))) (ty := .int) (by decide)
    obtain ⟨_, _, ⟨T3, L3, k3, n3⟩, -, X3, ⟨Lc3, hQ3, l3, y3, z3⟩, st3⟩ := X2.specialBack hx (y := (⟨"java/lang/Integer", "<init>", "(I)V"⟩ : MethodName)) rfl hown (mvT hZ (hw _ (List.mem_of_getElem? (i := 61) rfl))) (mvT hZ (hw _ (List.mem_of_getElem? (i := 62) rfl))) (mvT hZ (hw _ (List.mem_of_getElem? (i := 64) rfl))) (by decide) (backOf (W := 1) (boxinitI l Z a0 hw [] wL wF wE wcI ccI b2 x (.int (0 : Int32)) h2 n0 O2 S_wL S_wF S_wE E_wL E_wF E_wE nLF nLE nFE S_cI B_cI S_hi g_b2  A2 F2_value) hZ (hw _ (List.mem_of_getElem? (i := 64) rfl)) (hw _ (List.mem_of_getElem? (i := 49) rfl)) (by decide) (by decide)) (g := (mkF m 28 #[.val (.int x)] [(.int x), (.ref b2), (.ref b2)])) rfl (by rw [hml]; rfl) (Steps.refl _) (a := b2) (argsL := [(.int x)]) (rest := [(.ref b2)]) (lenOf pd_1 rfl) rfl (by show 2 * 0 + _ ≤ _; exact Nat.le_of_eq rfl) (hb hby d6_28) (fun _ _ => ⟨rfl, e2, (by decide : 1 + 0 ≤ _), (by decide : 1 + 0 ≤ _)⟩)
    dsimp only [Pt.U, Pt.locs, Pt.cells, Pt.slots] at X3 l3 y3 z3 st3 hQ3
    subst l3 y3 z3
    obtain ⟨rfl, N3q, K3q, y3_0, y3_1⟩ := hQ3
    have N3 := Fr.app N0 N3q
    have Z3 : n0 ≤ T3.heap.size := Nat.le_trans Z2 K3q.1
    have K3 : Keep h0 T3.heap [] := K2.trans K3q (allS (Or.inr sz_b2) all0)
    have O3 : Old Z n0 T3.heap := O2.keep K3q (allS g_b2 all0)
    have R4 : ∀ t, Steps p.tables e below (T3.setTop (mkF m 31 #[.val (.int x)] [(.ref b2)])) t → Steps p.tables e below (s₁.setTop (entryFrame m #[(.int x)] 1)) t := by
      intro t k
      refine R1 t ?_
      show Steps p.tables e below (s₁.setTop (mkF m 3 #[.val (.int x)] [(.int (-128 : Int32)), (.int x)])) t
      refine XS.icmpYes X0.here hx rfl (pc0 := 3) (pc' := 23) rfl (hb hby d6_3) rfl (tlt (hlo : x < (-128 : Int32))).1 (by decide) (by decide) ?_
      show Steps p.tables e below (s₁.setTop (mkF m 23 #[.val (.int x)] [])) t
      refine st2 _ ?_
      show Steps p.tables e below (T2.setTop (mkF m 26 #[.val (.int x)] [(.ref b2)])) t
      refine XS.dup X2.here hx rfl (hb hby d6_26) rfl rfl ?_
      show Steps p.tables e below (T2.setTop (mkF m 27 #[.val (.int x)] [(.ref b2), (.ref b2)])) t
      refine XS.iloadN X2.here hx rfl (hb hby d6_27) rfl ?_
      show Steps p.tables e below (T2.setTop (mkF m 28 #[.val (.int x)] [(.int x), (.ref b2), (.ref b2)])) t
      refine st3.trans ?_
      exact k
    obtain ⟨fs, hr, hrun, hended, hW, hsame⟩ := X3.leave (v := some (.ref b2)) (fun h => by rw [Bd.returns] at h; cases h)
    refine ⟨_, _, R4 _ ?_, hrun, hended, _, _, rfl, ?_, ⟨_, rfl⟩, hW, hsame.mono (by decide) (by decide)⟩
    · show Steps p.tables e below (T3.setTop (mkF m 31 #[.val (.int x)] [(.ref b2)])) _
      exact retOut X3 hx Bd.returns rfl (Or.inr (Or.inr (Or.inr (Or.inr ⟨rfl, rfl, rfl⟩)))) (hb hby d6_31) hr
    · show Q_valueOfI Z wL wF wE wcI ccI x h0 n0 _ T3.heap _
      exact ⟨b2, rfl, N3, K3, y3_0⟩
  · obtain ⟨T5, X5, e5, st5⟩ := getS2 X0 hx hZ hown (host := "") (Or.inl (hw _ (List.mem_of_getElem? (i := 51) rfl))) Via.refl e0 (S_hi.ext O0.2) (g := (mkF m 7 #[.val (.int x)] [(.int x)])) rfl (hb hby d6_7)
    have R6 : ∀ t, Steps p.tables e below (T5.setTop (mkF m 10 #[.val (.int x)] [(.int (127 : Int32)), (.int x)])) t → Steps p.tables e below (s₁.setTop (entryFrame m #[(.int x)] 1)) t := by
      intro t k
      refine R1 t ?_
      show Steps p.tables e below (s₁.setTop (mkF m 3 #[.val (.int x)] [(.int (-128 : Int32)), (.int x)])) t
      refine XS.icmpNo X0.here hx rfl (hb hby d6_3) rfl (flt (hlo : ¬ (x < (-128 : Int32)))).1 ?_
      show Steps p.tables e below (s₁.setTop (mkF m 6 #[.val (.int x)] [])) t
      refine XS.iloadN X0.here hx rfl (hb hby d6_6) rfl ?_
      show Steps p.tables e below (s₁.setTop (mkF m 7 #[.val (.int x)] [(.int x)])) t
      refine st5 _ ?_
      exact k
    by_cases hhi : (127 : Int32) < x
    · obtain ⟨T7, h7, X7, e7, E7, A7, D7, -, st7⟩ := newO X5 hx hZ hown (hw _ (List.mem_of_getElem? (i := 59) rfl)) (hw _ (List.mem_of_getElem? (i := 60) rfl)) (hw _ (List.mem_of_getElem? (i := 49) rfl)) e5 (g := (mkF m 23 #[.val (.int x)] [])) rfl (hb hby d6_23) (by decide) (by decide)
      obtain ⟨b7, gg7⟩ : ∃ z, z = h0.size := ⟨_, rfl⟩
      rw [← gg7] at A7 D7 st7
      have g_b7 : n0 ≤ b7 := Nat.le_trans Z0 (Nat.le_of_eq gg7.symm)
      have sz_b7 : h0.size ≤ b7 := Nat.le_trans K0.1 (Nat.le_of_eq gg7.symm)
      have Z7 : n0 ≤ h7.size := Nat.le_trans Z0 E7.1
      have K7 : Keep h0 h7 [] := K0.ext E7
      have O7 : Old Z n0 h7 := O0.ext E7
      have F7_value : Fld Z h7 b7 "java/lang/Integer" "value" "I" (.int (0 : Int32)) := D7 (Or.inr (hw _ (List.mem_of_getElem? (i := 73) rfl))) (ty := .int) (by decide)
      obtain ⟨_, _, ⟨T8, L8, k8, n8⟩, -, X8, ⟨Lc8, hQ8, l8, y8, z8⟩, st8⟩ := X7.specialBack hx (y := (⟨"java/lang/Integer", "<init>", "(I)V"⟩ : MethodName)) rfl hown (mvT hZ (hw _ (List.mem_of_getElem? (i := 61) rfl))) (mvT hZ (hw _ (List.mem_of_getElem? (i := 62) rfl))) (mvT hZ (hw _ (List.mem_of_getElem? (i := 64) rfl))) (by decide) (backOf (W := 1) (boxinitI l Z a0 hw [] wL wF wE wcI ccI b7 x (.int (0 : Int32)) h7 n0 O7 S_wL S_wF S_wE E_wL E_wF E_wE nLF nLE nFE S_cI B_cI S_hi g_b7  A7 F7_value) hZ (hw _ (List.mem_of_getElem? (i := 64) rfl)) (hw _ (List.mem_of_getElem? (i := 49) rfl)) (by decide) (by decide)) (g := (mkF m 28 #[.val (.int x)] [(.int x), (.ref b7), (.ref b7)])) rfl (by rw [hml]; rfl) (Steps.refl _) (a := b7) (argsL := [(.int x)]) (rest := [(.ref b7)]) (lenOf pd_1 rfl) rfl (by show 2 * 0 + _ ≤ _; exact Nat.le_of_eq rfl) (hb hby d6_28) (fun _ _ => ⟨rfl, e7, (by decide : 1 + 0 ≤ _), (by decide : 1 + 0 ≤ _)⟩)
      dsimp only [Pt.U, Pt.locs, Pt.cells, Pt.slots] at X8 l8 y8 z8 st8 hQ8
      subst l8 y8 z8
      obtain ⟨rfl, N8q, K8q, y8_0, y8_1⟩ := hQ8
      have N8 := Fr.app N0 N8q
      have Z8 : n0 ≤ T8.heap.size := Nat.le_trans Z7 K8q.1
      have K8 : Keep h0 T8.heap [] := K7.trans K8q (allS (Or.inr sz_b7) all0)
      have O8 : Old Z n0 T8.heap := O7.keep K8q (allS g_b7 all0)
      have R9 : ∀ t, Steps p.tables e below (T8.setTop (mkF m 31 #[.val (.int x)] [(.ref b7)])) t → Steps p.tables e below (s₁.setTop (entryFrame m #[(.int x)] 1)) t := by
        intro t k
        refine R6 t ?_
        show Steps p.tables e below (T5.setTop (mkF m 10 #[.val (.int x)] [(.int (127 : Int32)), (.int x)])) t
        refine XS.icmpYes X5.here hx rfl (pc0 := 10) (pc' := 23) rfl (hb hby d6_10) rfl (tlt (hhi : (127 : Int32) < x)).2.2.1 (by decide) (by decide) ?_
        show Steps p.tables e below (T5.setTop (mkF m 23 #[.val (.int x)] [])) t
        refine st7 _ ?_
        show Steps p.tables e below (T7.setTop (mkF m 26 #[.val (.int x)] [(.ref b7)])) t
        refine XS.dup X7.here hx rfl (hb hby d6_26) rfl rfl ?_
        show Steps p.tables e below (T7.setTop (mkF m 27 #[.val (.int x)] [(.ref b7), (.ref b7)])) t
        refine XS.iloadN X7.here hx rfl (hb hby d6_27) rfl ?_
        show Steps p.tables e below (T7.setTop (mkF m 28 #[.val (.int x)] [(.int x), (.ref b7), (.ref b7)])) t
        refine st8.trans ?_
        exact k
      obtain ⟨fs, hr, hrun, hended, hW, hsame⟩ := X8.leave (v := some (.ref b7)) (fun h => by rw [Bd.returns] at h; cases h)
      refine ⟨_, _, R9 _ ?_, hrun, hended, _, _, rfl, ?_, ⟨_, rfl⟩, hW, hsame.mono (by decide) (by decide)⟩
      · show Steps p.tables e below (T8.setTop (mkF m 31 #[.val (.int x)] [(.ref b7)])) _
        exact retOut X8 hx Bd.returns rfl (Or.inr (Or.inr (Or.inr (Or.inr ⟨rfl, rfl, rfl⟩)))) (hb hby d6_31) hr
      · show Q_valueOfI Z wL wF wE wcI ccI x h0 n0 _ T8.heap _
        exact ⟨b7, rfl, N8, K8, y8_0⟩
    · have hix := own_idx hlo hhi
      obtain ⟨T10, X10, e10, st10⟩ := getS2 X5 hx hZ hown (host := "") (Or.inl (hw _ (List.mem_of_getElem? (i := 53) rfl))) Via.refl e5 (S_cI.ext O0.2) (g := (mkF m 13 #[.val (.int x)] [])) rfl (hb hby d6_13)
      obtain ⟨Ar11, S11, M11⟩ := B_cI.ext O0.2
      have in11 : ¬ ((x + (128 : Int32)) < 0 ∨ ccI.slots.size ≤ ((x + (128 : Int32))).toNatClampNeg) := inb_of S11 hix
      obtain ⟨b11, at11, Eb11, -⟩ := B_cI.2.2.2 _ in11
      have R12 : ∀ t, Steps p.tables e below (T10.setTop (mkF m 22 #[.val (.int x)] [(.ref b11)])) t → Steps p.tables e below (s₁.setTop (entryFrame m #[(.int x)] 1)) t := by
        intro t k
        refine R6 t ?_
        show Steps p.tables e below (T5.setTop (mkF m 10 #[.val (.int x)] [(.int (127 : Int32)), (.int x)])) t
        refine XS.icmpNo X5.here hx rfl (hb hby d6_10) rfl (flt (hhi : ¬ ((127 : Int32) < x))).2.2.1 ?_
        show Steps p.tables e below (T5.setTop (mkF m 13 #[.val (.int x)] [])) t
        refine st10 _ ?_
        show Steps p.tables e below (T10.setTop (mkF m 16 #[.val (.int x)] [(.ref wcI)])) t
        refine XS.iloadN X10.here hx rfl (hb hby d6_16) rfl ?_
        show Steps p.tables e below (T10.setTop (mkF m 17 #[.val (.int x)] [(.int x), (.ref wcI)])) t
        refine XS.sipush X10.here hx rfl (hb hby d6_17) ?_
        show Steps p.tables e below (T10.setTop (mkF m 20 #[.val (.int x)] [(.int (128 : Int32)), (.int x), (.ref wcI)])) t
        refine XS.iadd X10.here hx rfl (hb hby d6_20) rfl ?_
        show Steps p.tables e below (T10.setTop (mkF m 21 #[.val (.int x)] [(.int (x + (128 : Int32))), (.ref wcI)])) t
        refine X10.aaload hx (j := (x + (128 : Int32))) (v := (.ref b11)) (by rw [e10]; exact Ar11.1) (State.isArrayOf_alike hZ.alike Ar11.2.1) rfl Ar11.2.2 in11 at11 (g := (mkF m 21 #[.val (.int x)] [(.int (x + (128 : Int32))), (.ref wcI)])) rfl rfl (hb hby d6_21) _ ?_
        exact k
      obtain ⟨fs, hr, hrun, hended, hW, hsame⟩ := X10.leave (v := some (.ref b11)) (fun h => by rw [Bd.returns] at h; cases h)
      refine ⟨_, _, R12 _ ?_, hrun, hended, _, _, rfl, ?_, ⟨_, rfl⟩, hW, hsame.mono (by decide) (by decide)⟩
      · show Steps p.tables e below (T10.setTop (mkF m 22 #[.val (.int x)] [(.ref b11)])) _
        exact retOut X10 hx Bd.returns rfl (Or.inr (Or.inr (Or.inr (Or.inr ⟨rfl, rfl, rfl⟩)))) (hb hby d6_22) hr
      · show Q_valueOfI Z wL wF wE wcI ccI x h0 n0 _ T10.heap _
        rw [e10]
        exact ⟨b11, rfl, N0, K0, (Eb11.ext O0.2)⟩
def OwnRole (k : Int32) (w wL wF wE : Addr) : Prop := (¬ ((k &&& (3 : Int32)) = (0 : Int32)) ∧ (k &&& (3 : Int32)) = (1 : Int32) ∧ w = wF) ∨ (¬ ((k &&& (3 : Int32)) = (0 : Int32)) ∧ ¬ ((k &&& (3 : Int32)) = (1 : Int32)) ∧ (k &&& (3 : Int32)) = (2 : Int32) ∧ w = wE) ∨ (((k &&& (3 : Int32)) = (0 : Int32) ∨ (¬ ((k &&& (3 : Int32)) = (1 : Int32)) ∧ ¬ ((k &&& (3 : Int32)) = (2 : Int32)))) ∧ w = wL)
theorem own_m3 (x : Int32) : ((x &&& (3 : Int32)) &&& (3 : Int32)) = (x &&& (3 : Int32)) ∧ ((x &&& (3 : Int32)) = 0 ∨ (x &&& (3 : Int32)) = 1 ∨ (x &&& (3 : Int32)) = 2 ∨ (x &&& (3 : Int32)) = 3) := by
  have h1 := c_mask x 3 2 (by decide) (by decide)
  have h2 := c_mask (x &&& 3) 3 2 (by decide) (by decide)
  simp only [← Int32.toInt_inj, show (0 : Int32).toInt = 0 from by decide, show (1 : Int32).toInt = 1 from by decide, show (2 : Int32).toInt = 2 from by decide, show (3 : Int32).toInt = 3 from by decide]
  omega
theorem own_roles {x y r1 r2 : Int32} {w1 w2 wL wF wE : Addr} (h1 : r1 = (x &&& (3 : Int32))) (h2 : r2 = (y &&& (3 : Int32))) (q1 : OwnRole r1 w1 wL wF wE) (q2 : OwnRole r2 w2 wL wF wE) (nLF : wL ≠ wF) (nLE : wL ≠ wE) (nFE : wF ≠ wE) :
    ((r1 % (3 : Int32)) = (r2 % (3 : Int32))) ↔ w1 = w2 := by
  obtain ⟨a1, a2⟩ := own_m3 x
  obtain ⟨b1, b2⟩ := own_m3 y
  unfold OwnRole at q1 q2
  rw [h1] at q1 ⊢; rw [h2] at q2 ⊢
  rw [a1] at q1; rw [b1] at q2
  rcases a2 with a | a | a | a <;> rcases b2 with b | b | b | b <;> rw [a] at q1 ⊢ <;> rw [b] at q2 ⊢ <;> simp +decide at q1 q2 ⊢ <;> simp [q1, q2, nLF, nLE, nFE, nLF.symm, nLE.symm, nFE.symm]
theorem d1_0 : decode method_2_code 0 = .ok (.iload_n 0, 1) := by decide +kernel
theorem d1_1 : decode method_2_code 1 = .ok (.iconst 3, 1) := by decide +kernel
theorem d1_2 : decode method_2_code 2 = .ok (.iand, 1) := by decide +kernel
theorem d1_3 : decode method_2_code 3 = .ok (.istore_n 1, 1) := by decide +kernel
theorem d1_4 : decode method_2_code 4 = .ok (.iload_n 1, 1) := by decide +kernel
theorem d1_5 : decode method_2_code 5 = .ok (.ifCond .ne 7, 3) := by decide +kernel
theorem d1_8 : decode method_2_code 8 = .ok (.getstatic 7, 3) := by decide +kernel
theorem d1_11 : decode method_2_code 11 = .ok (.areturn, 1) := by decide +kernel
theorem d1_12 : decode method_2_code 12 = .ok (.iload_n 1, 1) := by decide +kernel
theorem d1_13 : decode method_2_code 13 = .ok (.iconst 1, 1) := by decide +kernel
theorem d1_14 : decode method_2_code 14 = .ok (.if_icmp .ne 7, 3) := by decide +kernel
theorem d1_17 : decode method_2_code 17 = .ok (.getstatic 13, 3) := by decide +kernel
theorem d1_20 : decode method_2_code 20 = .ok (.areturn, 1) := by decide +kernel
theorem d1_21 : decode method_2_code 21 = .ok (.iload_n 1, 1) := by decide +kernel
theorem d1_22 : decode method_2_code 22 = .ok (.iconst 2, 1) := by decide +kernel
theorem d1_23 : decode method_2_code 23 = .ok (.if_icmp .ne 7, 3) := by decide +kernel
theorem d1_26 : decode method_2_code 26 = .ok (.getstatic 16, 3) := by decide +kernel
theorem d1_29 : decode method_2_code 29 = .ok (.areturn, 1) := by decide +kernel
theorem d1_30 : decode method_2_code 30 = .ok (.getstatic 7, 3) := by decide +kernel
theorem d1_33 : decode method_2_code 33 = .ok (.areturn, 1) := by decide +kernel
theorem pn_com_example_ballot_ballot_model_StatusEqualsPinLaw : plainName "com/example/ballot/ballot/model/StatusEqualsPinLaw" = true := by first | (simp [plainName, overriddenIn]; done) | decide +kernel
theorem ef_role (m : MethodId) (kk : Int32) : entryFrame m #[(.int kk)] 2 = mkF m 0 #[.val (.int kk), .unset] [] := by first | (simp [entryFrame, mkF, argsToLocals, Value.category]; done) | rfl
def Q_role (Z : State) (wL : Addr) (wF : Addr) (wE : Addr) (wcI : Addr) (ccI : Cell) (kk : Int32) (h0 : Heap) (n0 : Nat) (vv_ : Option Value) (hh_ : Heap) (LL_ : List Loc) : Prop := ∃ (w : Addr), vv_ = some (.ref w) ∧ (Fr n0 LL_) ∧ (hh_ = h0) ∧ (OwnRole kk w wL wF wE) ∧ (Exa Z hh_ w "com/example/ballot/ballot/model/Role")
set_option maxRecDepth 65536 in
set_option maxHeartbeats 40000000 in
theorem role (l : Launch) (Z : State) (a0 : Array Value) (hw : ∀ d ∈ tables_1, d.before a0 Z = true) (ws : List Jvm.Cond) (wL : Addr) (wF : Addr) (wE : Addr) (wcI : Addr) (ccI : Cell) (kk : Int32) (h0 : Heap) (n0 : Nat) (O0 : Old Z n0 h0) (S_wL : Sta Z Z.heap "com/example/ballot/ballot/model/Role" "LEADER" "Lcom/example/ballot/ballot/model/Role;" (.ref wL)) (S_wF : Sta Z Z.heap "com/example/ballot/ballot/model/Role" "FOLLOWER" "Lcom/example/ballot/ballot/model/Role;" (.ref wF)) (S_wE : Sta Z Z.heap "com/example/ballot/ballot/model/Role" "ELECTING" "Lcom/example/ballot/ballot/model/Role;" (.ref wE)) (E_wL : Exa Z Z.heap wL "com/example/ballot/ballot/model/Role") (E_wF : Exa Z Z.heap wF "com/example/ballot/ballot/model/Role") (E_wE : Exa Z Z.heap wE "com/example/ballot/ballot/model/Role") (nLF : wL ≠ wF) (nLE : wL ≠ wE) (nFE : wF ≠ wE) (S_cI : Sta Z Z.heap "java/lang/Integer$IntegerCache" "cache" "[Ljava/lang/Integer;" (.ref wcI)) (B_cI : Bxs Z wcI ccI "java/lang/Integer" "I" 256 (fun j => .int (j - 128))) (S_hi : Sta Z Z.heap "java/lang/Integer$IntegerCache" "high" "I" (.int (127 : Int32))) :
    MetFree l (⟨"com/example/ballot/ballot/model/StatusEqualsPinLaw", "role", "(I)Lcom/example/ballot/ballot/model/Role;"⟩ : MethodName) (head1 (Jvm.Cond.code (⟨"com/example/ballot/ballot/model/StatusEqualsPinLaw", "role", "(I)Lcom/example/ballot/ballot/model/Role;"⟩ : MethodName) method_2_code 2 (some (.object "com/example/ballot/ballot/model/Role")) :: ws) ({ frames := 0, cells := 0, slots := 0, locals := 0 } : Room)) (fun aa_ U_ => aa_ = #[(.int kk)] ∧ Z.Warmed39 U_.vm ∧ U_.heap = h0) (fun _ _ _ _ _ => True) (fun _ U_ oo_ V_ => ∃ vv_ LL_, oo_ = .returned vv_ ∧ Q_role Z wL wF wE wcI ccI kk h0 n0 vv_ V_.heap LL_ ∧ FrameEnd U_ oo_ V_ LL_ ({ frames := 0, cells := 0, slots := 0, locals := 0 } : Room).cells ({ frames := 0, cells := 0, slots := 0, locals := 0 } : Room).slots) := by
  refine MetFree.of_bodySF (plainFor_of_name pn_com_example_ballot_ballot_model_StatusEqualsPinLaw) hisR ?_
  intro p e s m args below meth c s₁ Bd hml0 hP hK
  obtain ⟨rfl, hZ, hh⟩ := hP
  have hx := Bd.exec
  have hby := Bd.bytes
  have hml : c.maxLocals = 2 := hml0
  have hown : s.vm.findClass "com/example/ballot/ballot/model/StatusEqualsPinLaw" = some m.cls := findClass_of_methodNamed Bd.named
  have hnm := (name_of_methodNamed Bd.named Bd.method).1
  have X0 : Stand p l e ({ frames := 0, cells := 0, slots := 0, locals := 0 } : Room) s m #[(.int kk)] below meth c s₁ [] 0 0 := Stand.of_body Bd
  have e0 : s₁.heap = h0 := by rw [← hh, Bd.state]; rfl
  have N0 := Fr.nil n0
  have Z0 : n0 ≤ h0.size := O0.1 ▸ O0.2.1
  have hk0 := Nat.zero_le h0.size
  have K0 : Keep h0 h0 [] := Keep.refl _ _
  have R0 : ∀ t, Steps p.tables e below (s₁.setTop (mkF m 0 #[.val (.int kk), .unset] [])) t → Steps p.tables e below (s₁.setTop (entryFrame m #[(.int kk)] 2)) t := fun t k => castTop (ef_role m kk) k
  have R1 : ∀ t, Steps p.tables e below (s₁.setTop (mkF m 5 #[.val (.int kk), .val (.int (kk &&& (3 : Int32)))] [(.int (kk &&& (3 : Int32)))])) t → Steps p.tables e below (s₁.setTop (entryFrame m #[(.int kk)] 2)) t := by
    intro t k
    refine R0 t ?_
    show Steps p.tables e below (s₁.setTop (mkF m 0 #[.val (.int kk), .unset] [])) t
    refine XS.iloadN X0.here hx rfl (hb hby d1_0) rfl ?_
    show Steps p.tables e below (s₁.setTop (mkF m 1 #[.val (.int kk), .unset] [(.int kk)])) t
    refine XS.iconst X0.here hx rfl (hb hby d1_1) ?_
    show Steps p.tables e below (s₁.setTop (mkF m 2 #[.val (.int kk), .unset] [(.int (3 : Int32)), (.int kk)])) t
    refine XS.iand X0.here hx rfl (hb hby d1_2) rfl ?_
    show Steps p.tables e below (s₁.setTop (mkF m 3 #[.val (.int kk), .unset] [(.int (kk &&& (3 : Int32)))])) t
    refine XS.istoreN X0.here hx rfl (hb hby d1_3) rfl (l' := #[.val (.int kk), .val (.int (kk &&& (3 : Int32)))]) rfl ?_
    show Steps p.tables e below (s₁.setTop (mkF m 4 #[.val (.int kk), .val (.int (kk &&& (3 : Int32)))] [])) t
    refine XS.iloadN X0.here hx rfl (hb hby d1_4) rfl ?_
    exact k
  by_cases k0 : (kk &&& (3 : Int32)) = (0 : Int32)
  · obtain ⟨T2, X2, e2, st2⟩ := getS2 X0 hx hZ hown (host := "") (Or.inl (hw _ (List.mem_of_getElem? (i := 4) rfl))) Via.refl e0 (S_wL.ext O0.2) (g := (mkF m 8 #[.val (.int kk), .val (.int (kk &&& (3 : Int32)))] [])) rfl (hb hby d1_8)
    have R3 : ∀ t, Steps p.tables e below (T2.setTop (mkF m 11 #[.val (.int kk), .val (.int (kk &&& (3 : Int32)))] [(.ref wL)])) t → Steps p.tables e below (s₁.setTop (entryFrame m #[(.int kk)] 2)) t := by
      intro t k
      refine R1 t ?_
      show Steps p.tables e below (s₁.setTop (mkF m 5 #[.val (.int kk), .val (.int (kk &&& (3 : Int32)))] [(.int (kk &&& (3 : Int32)))])) t
      refine XS.ifNo X0.here hx rfl (hb hby d1_5) rfl ((if0 _ _).trans (teq (k0 : (kk &&& (3 : Int32)) = (0 : Int32))).2) ?_
      show Steps p.tables e below (s₁.setTop (mkF m 8 #[.val (.int kk), .val (.int (kk &&& (3 : Int32)))] [])) t
      refine st2 _ ?_
      exact k
    obtain ⟨fs, hr, hrun, hended, hW, hsame⟩ := X2.leave (v := some (.ref wL)) (fun h => by rw [Bd.returns] at h; cases h)
    refine ⟨_, _, R3 _ ?_, hrun, hended, _, _, rfl, ?_, ⟨_, rfl⟩, hW, hsame.mono (by decide) (by decide)⟩
    · show Steps p.tables e below (T2.setTop (mkF m 11 #[.val (.int kk), .val (.int (kk &&& (3 : Int32)))] [(.ref wL)])) _
      exact retOut X2 hx Bd.returns rfl (Or.inr (Or.inr (Or.inr (Or.inr ⟨rfl, rfl, rfl⟩)))) (hb hby d1_11) hr
    · show Q_role Z wL wF wE wcI ccI kk h0 n0 _ T2.heap _
      rw [e2]
      exact ⟨wL, rfl, N0, rfl, Or.inr (Or.inr ⟨Or.inl k0, rfl⟩), (E_wL.ext O0.2)⟩
  · have R4 : ∀ t, Steps p.tables e below (s₁.setTop (mkF m 14 #[.val (.int kk), .val (.int (kk &&& (3 : Int32)))] [(.int (1 : Int32)), (.int (kk &&& (3 : Int32)))])) t → Steps p.tables e below (s₁.setTop (entryFrame m #[(.int kk)] 2)) t := by
      intro t k
      refine R1 t ?_
      show Steps p.tables e below (s₁.setTop (mkF m 5 #[.val (.int kk), .val (.int (kk &&& (3 : Int32)))] [(.int (kk &&& (3 : Int32)))])) t
      refine XS.ifYes X0.here hx rfl (pc0 := 5) (pc' := 12) rfl (hb hby d1_5) rfl ((if0 _ _).trans (feq (k0 : ¬ ((kk &&& (3 : Int32)) = (0 : Int32)))).2) (by decide) (by decide) ?_
      show Steps p.tables e below (s₁.setTop (mkF m 12 #[.val (.int kk), .val (.int (kk &&& (3 : Int32)))] [])) t
      refine XS.iloadN X0.here hx rfl (hb hby d1_12) rfl ?_
      show Steps p.tables e below (s₁.setTop (mkF m 13 #[.val (.int kk), .val (.int (kk &&& (3 : Int32)))] [(.int (kk &&& (3 : Int32)))])) t
      refine XS.iconst X0.here hx rfl (hb hby d1_13) ?_
      exact k
    by_cases k1 : (kk &&& (3 : Int32)) = (1 : Int32)
    · obtain ⟨T5, X5, e5, st5⟩ := getS2 X0 hx hZ hown (host := "") (Or.inl (hw _ (List.mem_of_getElem? (i := 45) rfl))) Via.refl e0 (S_wF.ext O0.2) (g := (mkF m 17 #[.val (.int kk), .val (.int (kk &&& (3 : Int32)))] [])) rfl (hb hby d1_17)
      have R6 : ∀ t, Steps p.tables e below (T5.setTop (mkF m 20 #[.val (.int kk), .val (.int (kk &&& (3 : Int32)))] [(.ref wF)])) t → Steps p.tables e below (s₁.setTop (entryFrame m #[(.int kk)] 2)) t := by
        intro t k
        refine R4 t ?_
        show Steps p.tables e below (s₁.setTop (mkF m 14 #[.val (.int kk), .val (.int (kk &&& (3 : Int32)))] [(.int (1 : Int32)), (.int (kk &&& (3 : Int32)))])) t
        refine XS.icmpNo X0.here hx rfl (hb hby d1_14) rfl (teq (k1 : (kk &&& (3 : Int32)) = (1 : Int32))).2 ?_
        show Steps p.tables e below (s₁.setTop (mkF m 17 #[.val (.int kk), .val (.int (kk &&& (3 : Int32)))] [])) t
        refine st5 _ ?_
        exact k
      obtain ⟨fs, hr, hrun, hended, hW, hsame⟩ := X5.leave (v := some (.ref wF)) (fun h => by rw [Bd.returns] at h; cases h)
      refine ⟨_, _, R6 _ ?_, hrun, hended, _, _, rfl, ?_, ⟨_, rfl⟩, hW, hsame.mono (by decide) (by decide)⟩
      · show Steps p.tables e below (T5.setTop (mkF m 20 #[.val (.int kk), .val (.int (kk &&& (3 : Int32)))] [(.ref wF)])) _
        exact retOut X5 hx Bd.returns rfl (Or.inr (Or.inr (Or.inr (Or.inr ⟨rfl, rfl, rfl⟩)))) (hb hby d1_20) hr
      · show Q_role Z wL wF wE wcI ccI kk h0 n0 _ T5.heap _
        rw [e5]
        exact ⟨wF, rfl, N0, rfl, Or.inl ⟨k0, k1, rfl⟩, (E_wF.ext O0.2)⟩
    · have R7 : ∀ t, Steps p.tables e below (s₁.setTop (mkF m 23 #[.val (.int kk), .val (.int (kk &&& (3 : Int32)))] [(.int (2 : Int32)), (.int (kk &&& (3 : Int32)))])) t → Steps p.tables e below (s₁.setTop (entryFrame m #[(.int kk)] 2)) t := by
        intro t k
        refine R4 t ?_
        show Steps p.tables e below (s₁.setTop (mkF m 14 #[.val (.int kk), .val (.int (kk &&& (3 : Int32)))] [(.int (1 : Int32)), (.int (kk &&& (3 : Int32)))])) t
        refine XS.icmpYes X0.here hx rfl (pc0 := 14) (pc' := 21) rfl (hb hby d1_14) rfl (feq (k1 : ¬ ((kk &&& (3 : Int32)) = (1 : Int32)))).2 (by decide) (by decide) ?_
        show Steps p.tables e below (s₁.setTop (mkF m 21 #[.val (.int kk), .val (.int (kk &&& (3 : Int32)))] [])) t
        refine XS.iloadN X0.here hx rfl (hb hby d1_21) rfl ?_
        show Steps p.tables e below (s₁.setTop (mkF m 22 #[.val (.int kk), .val (.int (kk &&& (3 : Int32)))] [(.int (kk &&& (3 : Int32)))])) t
        refine XS.iconst X0.here hx rfl (hb hby d1_22) ?_
        exact k
      by_cases k2 : (kk &&& (3 : Int32)) = (2 : Int32)
      · obtain ⟨T8, X8, e8, st8⟩ := getS2 X0 hx hZ hown (host := "") (Or.inl (hw _ (List.mem_of_getElem? (i := 57) rfl))) Via.refl e0 (S_wE.ext O0.2) (g := (mkF m 26 #[.val (.int kk), .val (.int (kk &&& (3 : Int32)))] [])) rfl (hb hby d1_26)
        have R9 : ∀ t, Steps p.tables e below (T8.setTop (mkF m 29 #[.val (.int kk), .val (.int (kk &&& (3 : Int32)))] [(.ref wE)])) t → Steps p.tables e below (s₁.setTop (entryFrame m #[(.int kk)] 2)) t := by
          intro t k
          refine R7 t ?_
          show Steps p.tables e below (s₁.setTop (mkF m 23 #[.val (.int kk), .val (.int (kk &&& (3 : Int32)))] [(.int (2 : Int32)), (.int (kk &&& (3 : Int32)))])) t
          refine XS.icmpNo X0.here hx rfl (hb hby d1_23) rfl (teq (k2 : (kk &&& (3 : Int32)) = (2 : Int32))).2 ?_
          show Steps p.tables e below (s₁.setTop (mkF m 26 #[.val (.int kk), .val (.int (kk &&& (3 : Int32)))] [])) t
          refine st8 _ ?_
          exact k
        obtain ⟨fs, hr, hrun, hended, hW, hsame⟩ := X8.leave (v := some (.ref wE)) (fun h => by rw [Bd.returns] at h; cases h)
        refine ⟨_, _, R9 _ ?_, hrun, hended, _, _, rfl, ?_, ⟨_, rfl⟩, hW, hsame.mono (by decide) (by decide)⟩
        · show Steps p.tables e below (T8.setTop (mkF m 29 #[.val (.int kk), .val (.int (kk &&& (3 : Int32)))] [(.ref wE)])) _
          exact retOut X8 hx Bd.returns rfl (Or.inr (Or.inr (Or.inr (Or.inr ⟨rfl, rfl, rfl⟩)))) (hb hby d1_29) hr
        · show Q_role Z wL wF wE wcI ccI kk h0 n0 _ T8.heap _
          rw [e8]
          exact ⟨wE, rfl, N0, rfl, Or.inr (Or.inl ⟨k0, k1, k2, rfl⟩), (E_wE.ext O0.2)⟩
      · obtain ⟨T10, X10, e10, st10⟩ := getS2 X0 hx hZ hown (host := "") (Or.inl (hw _ (List.mem_of_getElem? (i := 4) rfl))) Via.refl e0 (S_wL.ext O0.2) (g := (mkF m 30 #[.val (.int kk), .val (.int (kk &&& (3 : Int32)))] [])) rfl (hb hby d1_30)
        have R11 : ∀ t, Steps p.tables e below (T10.setTop (mkF m 33 #[.val (.int kk), .val (.int (kk &&& (3 : Int32)))] [(.ref wL)])) t → Steps p.tables e below (s₁.setTop (entryFrame m #[(.int kk)] 2)) t := by
          intro t k
          refine R7 t ?_
          show Steps p.tables e below (s₁.setTop (mkF m 23 #[.val (.int kk), .val (.int (kk &&& (3 : Int32)))] [(.int (2 : Int32)), (.int (kk &&& (3 : Int32)))])) t
          refine XS.icmpYes X0.here hx rfl (pc0 := 23) (pc' := 30) rfl (hb hby d1_23) rfl (feq (k2 : ¬ ((kk &&& (3 : Int32)) = (2 : Int32)))).2 (by decide) (by decide) ?_
          show Steps p.tables e below (s₁.setTop (mkF m 30 #[.val (.int kk), .val (.int (kk &&& (3 : Int32)))] [])) t
          refine st10 _ ?_
          exact k
        obtain ⟨fs, hr, hrun, hended, hW, hsame⟩ := X10.leave (v := some (.ref wL)) (fun h => by rw [Bd.returns] at h; cases h)
        refine ⟨_, _, R11 _ ?_, hrun, hended, _, _, rfl, ?_, ⟨_, rfl⟩, hW, hsame.mono (by decide) (by decide)⟩
        · show Steps p.tables e below (T10.setTop (mkF m 33 #[.val (.int kk), .val (.int (kk &&& (3 : Int32)))] [(.ref wL)])) _
          exact retOut X10 hx Bd.returns rfl (Or.inr (Or.inr (Or.inr (Or.inr ⟨rfl, rfl, rfl⟩)))) (hb hby d1_33) hr
        · show Q_role Z wL wF wE wcI ccI kk h0 n0 _ T10.heap _
          rw [e10]
          exact ⟨wL, rfl, N0, rfl, Or.inr (Or.inr ⟨Or.inr ⟨k1, k2⟩, rfl⟩), (E_wL.ext O0.2)⟩
theorem d4_0 : decode jdk_31_method_11_code 0 = .ok (.aload_n 0, 1) := by decide +kernel
theorem d4_1 : decode jdk_31_method_11_code 1 = .ok (.ifnonnull 12, 3) := by decide +kernel
theorem d4_13 : decode jdk_31_method_11_code 13 = .ok (.aload_n 0, 1) := by decide +kernel
theorem d4_14 : decode jdk_31_method_11_code 14 = .ok (.areturn, 1) := by decide +kernel
theorem pn_java_util_Objects : plainName "java/util/Objects" = true := by first | (simp [plainName, overriddenIn]; done) | decide +kernel
theorem ef_rnn (m : MethodId) (a : Addr) (mm : Addr) : entryFrame m #[(.ref a), (.ref mm)] 2 = mkF m 0 #[.val (.ref a), .val (.ref mm)] [] := by first | (simp [entryFrame, mkF, argsToLocals, Value.category]; done) | rfl
def Q_rnn (Z : State) (wL : Addr) (wF : Addr) (wE : Addr) (wcI : Addr) (ccI : Cell) (a : Addr) (mm : Addr) (h0 : Heap) (n0 : Nat) (vv_ : Option Value) (hh_ : Heap) (LL_ : List Loc) : Prop := vv_ = some (.ref a) ∧ (Fr n0 LL_) ∧ (hh_ = h0)
set_option maxRecDepth 65536 in
set_option maxHeartbeats 40000000 in
theorem rnn (l : Launch) (Z : State) (a0 : Array Value) (hw : ∀ d ∈ tables_1, d.before a0 Z = true) (ws : List Jvm.Cond) (wL : Addr) (wF : Addr) (wE : Addr) (wcI : Addr) (ccI : Cell) (a : Addr) (mm : Addr) (h0 : Heap) (n0 : Nat) (O0 : Old Z n0 h0) (S_wL : Sta Z Z.heap "com/example/ballot/ballot/model/Role" "LEADER" "Lcom/example/ballot/ballot/model/Role;" (.ref wL)) (S_wF : Sta Z Z.heap "com/example/ballot/ballot/model/Role" "FOLLOWER" "Lcom/example/ballot/ballot/model/Role;" (.ref wF)) (S_wE : Sta Z Z.heap "com/example/ballot/ballot/model/Role" "ELECTING" "Lcom/example/ballot/ballot/model/Role;" (.ref wE)) (E_wL : Exa Z Z.heap wL "com/example/ballot/ballot/model/Role") (E_wF : Exa Z Z.heap wF "com/example/ballot/ballot/model/Role") (E_wE : Exa Z Z.heap wE "com/example/ballot/ballot/model/Role") (nLF : wL ≠ wF) (nLE : wL ≠ wE) (nFE : wF ≠ wE) (S_cI : Sta Z Z.heap "java/lang/Integer$IntegerCache" "cache" "[Ljava/lang/Integer;" (.ref wcI)) (B_cI : Bxs Z wcI ccI "java/lang/Integer" "I" 256 (fun j => .int (j - 128))) (S_hi : Sta Z Z.heap "java/lang/Integer$IntegerCache" "high" "I" (.int (127 : Int32))) :
    MetFree l (⟨"java/util/Objects", "requireNonNull", "(Ljava/lang/Object;Ljava/lang/String;)Ljava/lang/Object;"⟩ : MethodName) (head1 (Jvm.Cond.code (⟨"java/util/Objects", "requireNonNull", "(Ljava/lang/Object;Ljava/lang/String;)Ljava/lang/Object;"⟩ : MethodName) jdk_31_method_11_code 2 (some (.object "java/lang/Object")) :: ws) ({ frames := 0, cells := 0, slots := 0, locals := 0 } : Room)) (fun aa_ U_ => aa_ = #[(.ref a), (.ref mm)] ∧ Z.Warmed39 U_.vm ∧ U_.heap = h0) (fun _ _ _ _ _ => True) (fun _ U_ oo_ V_ => ∃ vv_ LL_, oo_ = .returned vv_ ∧ Q_rnn Z wL wF wE wcI ccI a mm h0 n0 vv_ V_.heap LL_ ∧ FrameEnd U_ oo_ V_ LL_ ({ frames := 0, cells := 0, slots := 0, locals := 0 } : Room).cells ({ frames := 0, cells := 0, slots := 0, locals := 0 } : Room).slots) := by
  refine MetFree.of_bodySF (plainFor_of_name pn_java_util_Objects) hisR ?_
  intro p e s m args below meth c s₁ Bd hml0 hP hK
  obtain ⟨rfl, hZ, hh⟩ := hP
  have hx := Bd.exec
  have hby := Bd.bytes
  have hml : c.maxLocals = 2 := hml0
  have hown : s.vm.findClass "java/util/Objects" = some m.cls := findClass_of_methodNamed Bd.named
  have hnm := (name_of_methodNamed Bd.named Bd.method).1
  have X0 : Stand p l e ({ frames := 0, cells := 0, slots := 0, locals := 0 } : Room) s m #[(.ref a), (.ref mm)] below meth c s₁ [] 0 0 := Stand.of_body Bd
  have e0 : s₁.heap = h0 := by rw [← hh, Bd.state]; rfl
  have N0 := Fr.nil n0
  have Z0 : n0 ≤ h0.size := O0.1 ▸ O0.2.1
  have hk0 := Nat.zero_le h0.size
  have K0 : Keep h0 h0 [] := Keep.refl _ _
  have R0 : ∀ t, Steps p.tables e below (s₁.setTop (mkF m 0 #[.val (.ref a), .val (.ref mm)] [])) t → Steps p.tables e below (s₁.setTop (entryFrame m #[(.ref a), (.ref mm)] 2)) t := fun t k => castTop (ef_rnn m a mm) k
  have R1 : ∀ t, Steps p.tables e below (s₁.setTop (mkF m 14 #[.val (.ref a), .val (.ref mm)] [(.ref a)])) t → Steps p.tables e below (s₁.setTop (entryFrame m #[(.ref a), (.ref mm)] 2)) t := by
    intro t k
    refine R0 t ?_
    show Steps p.tables e below (s₁.setTop (mkF m 0 #[.val (.ref a), .val (.ref mm)] [])) t
    refine XS.aloadN X0.here hx rfl (hb hby d4_0) rfl rfl ?_
    show Steps p.tables e below (s₁.setTop (mkF m 1 #[.val (.ref a), .val (.ref mm)] [(.ref a)])) t
    refine XS.ifnonnullYes X0.here hx rfl (pc0 := 1) (pc' := 13) rfl (hb hby d4_1) rfl (by decide) (by decide) ?_
    show Steps p.tables e below (s₁.setTop (mkF m 13 #[.val (.ref a), .val (.ref mm)] [])) t
    refine XS.aloadN X0.here hx rfl (hb hby d4_13) rfl rfl ?_
    exact k
  obtain ⟨fs, hr, hrun, hended, hW, hsame⟩ := X0.leave (v := some (.ref a)) (fun h => by rw [Bd.returns] at h; cases h)
  refine ⟨_, _, R1 _ ?_, hrun, hended, _, _, rfl, ?_, ⟨_, rfl⟩, hW, hsame.mono (by decide) (by decide)⟩
  · show Steps p.tables e below (s₁.setTop (mkF m 14 #[.val (.ref a), .val (.ref mm)] [(.ref a)])) _
    exact retOut X0 hx Bd.returns rfl (Or.inr (Or.inr (Or.inr (Or.inr ⟨rfl, rfl, rfl⟩)))) (hb hby d4_14) hr
  · show Q_rnn Z wL wF wE wcI ccI a mm h0 n0 _ s₁.heap _
    rw [e0]
    exact ⟨rfl, N0, rfl⟩
theorem d2_0 : decode prog_21_method_1_code 0 = .ok (.aload_n 0, 1) := by decide +kernel
theorem d2_1 : decode prog_21_method_1_code 1 = .ok (.invokespecial 1, 3) := by decide +kernel
theorem d2_4 : decode prog_21_method_1_code 4 = .ok (.aload_n 0, 1) := by decide +kernel
theorem d2_5 : decode prog_21_method_1_code 5 = .ok (.iload_n 1, 1) := by decide +kernel
theorem d2_6 : decode prog_21_method_1_code 6 = .ok (.putfield 7, 3) := by decide +kernel
theorem d2_9 : decode prog_21_method_1_code 9 = .ok (.aload_n 0, 1) := by decide +kernel
theorem d2_10 : decode prog_21_method_1_code 10 = .ok (.aload_n 2, 1) := by decide +kernel
theorem own_sat {Z : State} {a0 : Array Value} (hw : ∀ d ∈ tables_1, d.before a0 Z = true) : ∀ d ∈ Bundle.stringAtoms, d.before a0 Z = true := fun d hd => hw d ((by decide +kernel : ∀ d ∈ Bundle.stringAtoms, d ∈ tables_1) d hd)
theorem d2_11 : decode prog_21_method_1_code 11 = .ok (.ldc 13, 2) := by decide +kernel
theorem pd_2 : parseMethodDescriptor "(Ljava/lang/Object;Ljava/lang/String;)Ljava/lang/Object;" = some ⟨[(.object "java/lang/Object"), (.object "java/lang/String")], some (.object "java/lang/Object")⟩ := by decide +kernel
theorem d2_13 : decode prog_21_method_1_code 13 = .ok (.invokestatic 15, 3) := by decide +kernel
theorem d2_16 : decode prog_21_method_1_code 16 = .ok (.checkcast 21, 3) := by decide +kernel
theorem d2_19 : decode prog_21_method_1_code 19 = .ok (.putfield 23, 3) := by decide +kernel
theorem d2_22 : decode prog_21_method_1_code 22 = .ok (.aload_n 0, 1) := by decide +kernel
theorem d2_23 : decode prog_21_method_1_code 23 = .ok (.iload_n 3, 1) := by decide +kernel
theorem d2_24 : decode prog_21_method_1_code 24 = .ok (.putfield 26, 3) := by decide +kernel
theorem d2_27 : decode prog_21_method_1_code 27 = .ok (.aload_n 0, 1) := by decide +kernel
theorem d2_28 : decode prog_21_method_1_code 28 = .ok (.lload 4, 2) := by decide +kernel
theorem d2_30 : decode prog_21_method_1_code 30 = .ok (.putfield 29, 3) := by decide +kernel
theorem d2_33 : decode prog_21_method_1_code 33 = .ok (.return_, 1) := by decide +kernel
theorem pn_com_example_ballot_ballot_model_Status : plainName "com/example/ballot/ballot/model/Status" = true := by first | (simp [plainName, overriddenIn]; done) | decide +kernel
theorem ef_sinit (m : MethodId) (a : Addr) (i : Int32) (r : Addr) (ld : Int32) (q : Int64) (u1 : Value) (u2 : Value) (u3 : Value) (u4 : Value) : entryFrame m #[(.ref a), (.int i), (.ref r), (.int ld), (.long q)] 6 = mkF m 0 #[.val (.ref a), .val (.int i), .val (.ref r), .val (.int ld), .val (.long q), .second] [] := by first | (simp [entryFrame, mkF, argsToLocals, Value.category]; done) | rfl
def Q_sinit (Z : State) (wL : Addr) (wF : Addr) (wE : Addr) (wcI : Addr) (ccI : Cell) (a : Addr) (i : Int32) (r : Addr) (ld : Int32) (q : Int64) (u1 : Value) (u2 : Value) (u3 : Value) (u4 : Value) (h0 : Heap) (n0 : Nat) (vv_ : Option Value) (hh_ : Heap) (LL_ : List Loc) : Prop := vv_ = none ∧ (Fr n0 LL_) ∧ (Keep h0 hh_ [a]) ∧ (Exa Z hh_ a "com/example/ballot/ballot/model/Status") ∧ (Fld Z hh_ a "com/example/ballot/ballot/model/Status" "id" "I" (.int i)) ∧ (Fld Z hh_ a "com/example/ballot/ballot/model/Status" "role" "Lcom/example/ballot/ballot/model/Role;" (.ref r)) ∧ (Fld Z hh_ a "com/example/ballot/ballot/model/Status" "leader" "I" (.int ld)) ∧ (Fld Z hh_ a "com/example/ballot/ballot/model/Status" "epoch" "J" (.long q))
set_option maxRecDepth 65536 in
set_option maxHeartbeats 40000000 in
theorem sinit (l : Launch) (Z : State) (a0 : Array Value) (hw : ∀ d ∈ tables_1, d.before a0 Z = true) (ws : List Jvm.Cond) (wL : Addr) (wF : Addr) (wE : Addr) (wcI : Addr) (ccI : Cell) (a : Addr) (i : Int32) (r : Addr) (ld : Int32) (q : Int64) (u1 : Value) (u2 : Value) (u3 : Value) (u4 : Value) (h0 : Heap) (n0 : Nat) (O0 : Old Z n0 h0) (S_wL : Sta Z Z.heap "com/example/ballot/ballot/model/Role" "LEADER" "Lcom/example/ballot/ballot/model/Role;" (.ref wL)) (S_wF : Sta Z Z.heap "com/example/ballot/ballot/model/Role" "FOLLOWER" "Lcom/example/ballot/ballot/model/Role;" (.ref wF)) (S_wE : Sta Z Z.heap "com/example/ballot/ballot/model/Role" "ELECTING" "Lcom/example/ballot/ballot/model/Role;" (.ref wE)) (E_wL : Exa Z Z.heap wL "com/example/ballot/ballot/model/Role") (E_wF : Exa Z Z.heap wF "com/example/ballot/ballot/model/Role") (E_wE : Exa Z Z.heap wE "com/example/ballot/ballot/model/Role") (nLF : wL ≠ wF) (nLE : wL ≠ wE) (nFE : wF ≠ wE) (S_cI : Sta Z Z.heap "java/lang/Integer$IntegerCache" "cache" "[Ljava/lang/Integer;" (.ref wcI)) (B_cI : Bxs Z wcI ccI "java/lang/Integer" "I" 256 (fun j => .int (j - 128))) (S_hi : Sta Z Z.heap "java/lang/Integer$IntegerCache" "high" "I" (.int (127 : Int32))) (g_a : n0 ≤ a) (Ea : Exa Z h0 a "com/example/ballot/ballot/model/Status") (Er : Exa Z h0 r "com/example/ballot/ballot/model/Role") (F0 : Fld Z h0 a "com/example/ballot/ballot/model/Status" "id" "I" u1) (F1 : Fld Z h0 a "com/example/ballot/ballot/model/Status" "role" "Lcom/example/ballot/ballot/model/Role;" u2) (F2 : Fld Z h0 a "com/example/ballot/ballot/model/Status" "leader" "I" u3) (F3 : Fld Z h0 a "com/example/ballot/ballot/model/Status" "epoch" "J" u4) :
    MetFree l (⟨"com/example/ballot/ballot/model/Status", "<init>", "(ILcom/example/ballot/ballot/model/Role;IJ)V"⟩ : MethodName) (head1 (Jvm.Cond.code (⟨"com/example/ballot/ballot/model/Status", "<init>", "(ILcom/example/ballot/ballot/model/Role;IJ)V"⟩ : MethodName) prog_21_method_1_code 6 none :: ws) ({ frames := 1, cells := 2, slots := 20, locals := 14 } : Room)) (fun aa_ U_ => aa_ = #[(.ref a), (.int i), (.ref r), (.int ld), (.long q)] ∧ Z.Warmed39 U_.vm ∧ U_.heap = h0) (fun _ _ _ _ _ => True) (fun _ U_ oo_ V_ => ∃ vv_ LL_, oo_ = .returned vv_ ∧ Q_sinit Z wL wF wE wcI ccI a i r ld q u1 u2 u3 u4 h0 n0 vv_ V_.heap LL_ ∧ ReturnedEndW U_ oo_ V_ LL_ ({ frames := 1, cells := 2, slots := 20, locals := 14 } : Room).cells ({ frames := 1, cells := 2, slots := 20, locals := 14 } : Room).slots) := by
  refine MetFree.of_bodySF (plainFor_of_name pn_com_example_ballot_ballot_model_Status) hisR ?_
  intro p e s m args below meth c s₁ Bd hml0 hP hK
  obtain ⟨rfl, hZ, hh⟩ := hP
  have hx := Bd.exec
  have hby := Bd.bytes
  have hml : c.maxLocals = 6 := hml0
  have hown : s.vm.findClass "com/example/ballot/ballot/model/Status" = some m.cls := findClass_of_methodNamed Bd.named
  have hnm := (name_of_methodNamed Bd.named Bd.method).1
  have hZ0 : Z.Warmed39 (s.setVm s.vm).vm := hZ
  have hown0 : (s.setVm s.vm).vm.findClass "com/example/ballot/ballot/model/Status" = some m.cls := hown
  have hS0 : s.Since s.vm 0 := ⟨State.Warmed39.refl s, fun j p h1 h2 => absurd (Array.getElem?_eq_some_iff.mp h2).1 (Nat.not_lt.mpr h1)⟩
  have X0 : Stand p l e ({ frames := 1, cells := 2, slots := 20, locals := 14 } : Room) (s.setVm s.vm) m #[(.ref a), (.int i), (.ref r), (.int ld), (.long q)] below meth c s₁ [] 0 0 := Stand.of_body Bd
  have e0 : s₁.heap = h0 := by rw [← hh, Bd.state]; rfl
  have N0 := Fr.nil n0
  have Z0 : n0 ≤ h0.size := O0.1 ▸ O0.2.1
  have hk0 := Nat.zero_le h0.size
  have K0 : Keep h0 h0 [a] := Keep.refl _ _
  have R0 : ∀ t, Steps p.tables e below (s₁.setTop (mkF m 0 #[.val (.ref a), .val (.int i), .val (.ref r), .val (.int ld), .val (.long q), .second] [])) t → Steps p.tables e below (s₁.setTop (entryFrame m #[(.ref a), (.int i), (.ref r), (.int ld), (.long q)] 6)) t := fun t k => castTop (ef_sinit m a i r ld q u1 u2 u3 u4) k
  obtain ⟨T1, X1, e1, st1⟩ := initO X0 hx hZ0 hown0 (hw _ (List.mem_of_getElem? (i := 13) rfl)) (hw _ (List.mem_of_getElem? (i := 14) rfl)) (hw _ (List.mem_of_getElem? (i := 15) rfl)) e0 (g := (mkF m 1 #[.val (.ref a), .val (.int i), .val (.ref r), .val (.int ld), .val (.long q), .second] [(.ref a)])) rfl (by rw [hml]; rfl) rfl (hb hby d2_1) (by decide) (W := 0) (by show 2 * 0 + _ ≤ _; exact Nat.le_of_eq rfl) (by decide)
  obtain ⟨T2, h2, X2, e2, W2, st2⟩ := putF X1 hx hZ0 hown0 (host := "") (Or.inl (hw _ (List.mem_of_getElem? (i := 16) rfl))) Via.refl e1 F0 Ea (Or.inr ⟨(hw _ (List.mem_of_getElem? (i := 17) rfl)), rfl, hnm⟩) (hw _ (List.mem_of_getElem? (i := 8) rfl)) (ty := .int) (by decide) rfl rfl (g := (mkF m 6 #[.val (.ref a), .val (.int i), .val (.ref r), .val (.int ld), .val (.long q), .second] [(.int i), (.ref a)])) rfl rfl (hb hby d2_6)
  have Z2 : n0 ≤ h2.size := Nat.le_trans Z0 (Keep.of_wr W2).1
  have K2 : Keep h0 h2 [a] := K0.wr W2 (Or.inl (List.mem_of_getElem? (i := 0) rfl))
  have O2 : Old Z n0 h2 := O0.wr W2 g_a
  have N2 := Fr.snoc X2 N0 g_a
  have hk2 := Nat.le_trans hk0 (Keep.of_wr W2).1
  have fw2 : Fld Z h2 a "com/example/ballot/ballot/model/Status" "id" "I" (.int i) := F0.same W2
  obtain ⟨a3, T3, h3, k3, X3, e3, E3, hS3, hk3, hZ3, hown3, st3⟩ := ldcS X2 hx hZ0 hown0 (hw _ (List.mem_of_getElem? (i := 18) rfl)) (own_sat hw) e2 hS0 hk2 (g := (mkF m 11 #[.val (.ref a), .val (.int i), .val (.ref r), .val (.int ld), .val (.long q), .second] [(.ref r), (.ref a)])) rfl (hb hby d2_11) (n := 16) (by decide) (by decide) (by decide) (by decide)
  have Z3 : n0 ≤ h3.size := Nat.le_trans Z2 E3.1
  have K3 : Keep h0 h3 [a] := K2.ext E3
  have O3 : Old Z n0 h3 := O2.ext E3
  obtain ⟨_, _, ⟨T4, L4, k4, n4⟩, -, X4, ⟨Lc4, hQ4, l4, y4, z4⟩, st4⟩ := Jvm.LawKit.callS X3 hx (y := (⟨"java/util/Objects", "requireNonNull", "(Ljava/lang/Object;Ljava/lang/String;)Ljava/lang/Object;"⟩ : MethodName)) hown3 (mvT hZ3 (hw _ (List.mem_of_getElem? (i := 26) rfl))) (mvT hZ3 (hw _ (List.mem_of_getElem? (i := 27) rfl))) (mvT hZ3 (hw _ (List.mem_of_getElem? (i := 28) rfl))) (mvT hZ3 (hw _ (List.mem_of_getElem? (i := 29) rfl))) (by decide) (backOf (W := 1) (rnn l Z a0 hw [] wL wF wE wcI ccI r a3 h3 n0 O3 S_wL S_wF S_wE E_wL E_wF E_wE nLF nLE nFE S_cI B_cI S_hi   ) hZ3 (hw _ (List.mem_of_getElem? (i := 29) rfl)) (hw _ (List.mem_of_getElem? (i := 28) rfl)) (by decide) (by decide)) (g := (mkF m 13 #[.val (.ref a), .val (.int i), .val (.ref r), .val (.int ld), .val (.long q), .second] [(.ref a3), (.ref r), (.ref a)])) rfl (by rw [hml]; rfl) (argsL := [(.ref r), (.ref a3)]) (rest := [(.ref a)]) (lenOf pd_2 rfl) rfl (by show 2 * 0 + _ ≤ _; exact Nat.le_of_eq rfl) (hb hby d2_13) (fun _ _ => ⟨rfl, e3, (by decide : 2 + 0 ≤ _), (by decide : 20 + 0 ≤ _)⟩)
  dsimp only [Pt.U, Pt.locs, Pt.cells, Pt.slots] at X4 l4 y4 z4 st4 hQ4
  subst l4 y4 z4
  obtain ⟨rfl, N4q, e4⟩ := hQ4
  have N4 := Fr.app N2 N4q
  have f6 : Exa Z h3 r "com/example/ballot/ballot/model/Role" := ((Er.wr W2).ext E3)
  obtain ⟨T5, X5, e5, st5⟩ := castY X4 hx hZ3 hown3 (hw _ (List.mem_of_getElem? (i := 30) rfl)) e4 (Ins.self f6) (g := (mkF m 16 #[.val (.ref a), .val (.int i), .val (.ref r), .val (.int ld), .val (.long q), .second] [(.ref r), (.ref a)])) rfl rfl (hb hby d2_16)
  have f8 : Exa Z h3 a "com/example/ballot/ballot/model/Status" := ((Ea.wr W2).ext E3)
  have f9 : Fld Z h3 a "com/example/ballot/ballot/model/Status" "role" "Lcom/example/ballot/ballot/model/Role;" u2 := ((F1.other W2 (Or.inr (slot_ne (Or.inr (hw _ (List.mem_of_getElem? (i := 33) rfl))) (Or.inr (hw _ (List.mem_of_getElem? (i := 17) rfl))) (by decide) (t := (.object "com/example/ballot/ballot/model/Role")) (t' := .int) (by decide) (by decide)))).ext E3)
  obtain ⟨T7, h7, X7, e7, W7, st7⟩ := putF X5 hx hZ3 hown3 (host := "") (Or.inl (hw _ (List.mem_of_getElem? (i := 32) rfl))) Via.refl e5 f9 f8 (Or.inr ⟨(hw _ (List.mem_of_getElem? (i := 33) rfl)), rfl, hnm⟩) (hw _ (List.mem_of_getElem? (i := 8) rfl)) (ty := (.object "com/example/ballot/ballot/model/Role")) (by decide) rfl rfl (g := (mkF m 19 #[.val (.ref a), .val (.int i), .val (.ref r), .val (.int ld), .val (.long q), .second] [(.ref r), (.ref a)])) rfl rfl (hb hby d2_19)
  have Z7 : n0 ≤ h7.size := Nat.le_trans Z3 (Keep.of_wr W7).1
  have K7 : Keep h0 h7 [a] := K3.wr W7 (Or.inl (List.mem_of_getElem? (i := 0) rfl))
  have O7 : Old Z n0 h7 := O3.wr W7 g_a
  have N7 := Fr.snoc X7 N4 g_a
  have hk7 := Nat.le_trans hk3 (Keep.of_wr W7).1
  have fw7 : Fld Z h7 a "com/example/ballot/ballot/model/Status" "role" "Lcom/example/ballot/ballot/model/Role;" (.ref r) := f9.same W7
  have f11 : Exa Z h7 a "com/example/ballot/ballot/model/Status" := (f8.wr W7)
  have f12 : Fld Z h7 a "com/example/ballot/ballot/model/Status" "leader" "I" u3 := (((F2.other W2 (Or.inr (slot_ne (Or.inr (hw _ (List.mem_of_getElem? (i := 35) rfl))) (Or.inr (hw _ (List.mem_of_getElem? (i := 17) rfl))) (by decide) (t := .int) (t' := .int) (by decide) (by decide)))).ext E3).other W7 (Or.inr (slot_ne (Or.inr (hw _ (List.mem_of_getElem? (i := 35) rfl))) (Or.inr (hw _ (List.mem_of_getElem? (i := 33) rfl))) (by decide) (t := .int) (t' := (.object "com/example/ballot/ballot/model/Role")) (by decide) (by decide))))
  obtain ⟨T10, h10, X10, e10, W10, st10⟩ := putF X7 hx hZ3 hown3 (host := "") (Or.inl (hw _ (List.mem_of_getElem? (i := 34) rfl))) Via.refl e7 f12 f11 (Or.inr ⟨(hw _ (List.mem_of_getElem? (i := 35) rfl)), rfl, hnm⟩) (hw _ (List.mem_of_getElem? (i := 8) rfl)) (ty := .int) (by decide) rfl rfl (g := (mkF m 24 #[.val (.ref a), .val (.int i), .val (.ref r), .val (.int ld), .val (.long q), .second] [(.int ld), (.ref a)])) rfl rfl (hb hby d2_24)
  have Z10 : n0 ≤ h10.size := Nat.le_trans Z7 (Keep.of_wr W10).1
  have K10 : Keep h0 h10 [a] := K7.wr W10 (Or.inl (List.mem_of_getElem? (i := 0) rfl))
  have O10 : Old Z n0 h10 := O7.wr W10 g_a
  have N10 := Fr.snoc X10 N7 g_a
  have hk10 := Nat.le_trans hk7 (Keep.of_wr W10).1
  have fw10 : Fld Z h10 a "com/example/ballot/ballot/model/Status" "leader" "I" (.int ld) := f12.same W10
  have f14 : Exa Z h10 a "com/example/ballot/ballot/model/Status" := (f11.wr W10)
  have f15 : Fld Z h10 a "com/example/ballot/ballot/model/Status" "epoch" "J" u4 := ((((F3.other W2 (Or.inr (slot_ne (Or.inr (hw _ (List.mem_of_getElem? (i := 37) rfl))) (Or.inr (hw _ (List.mem_of_getElem? (i := 17) rfl))) (by decide) (t := .long) (t' := .int) (by decide) (by decide)))).ext E3).other W7 (Or.inr (slot_ne (Or.inr (hw _ (List.mem_of_getElem? (i := 37) rfl))) (Or.inr (hw _ (List.mem_of_getElem? (i := 33) rfl))) (by decide) (t := .long) (t' := (.object "com/example/ballot/ballot/model/Role")) (by decide) (by decide)))).other W10 (Or.inr (slot_ne (Or.inr (hw _ (List.mem_of_getElem? (i := 37) rfl))) (Or.inr (hw _ (List.mem_of_getElem? (i := 35) rfl))) (by decide) (t := .long) (t' := .int) (by decide) (by decide))))
  obtain ⟨T13, h13, X13, e13, W13, st13⟩ := putF X10 hx hZ3 hown3 (host := "") (Or.inl (hw _ (List.mem_of_getElem? (i := 36) rfl))) Via.refl e10 f15 f14 (Or.inr ⟨(hw _ (List.mem_of_getElem? (i := 37) rfl)), rfl, hnm⟩) (hw _ (List.mem_of_getElem? (i := 8) rfl)) (ty := .long) (by decide) rfl rfl (g := (mkF m 30 #[.val (.ref a), .val (.int i), .val (.ref r), .val (.int ld), .val (.long q), .second] [(.long q), (.ref a)])) rfl rfl (hb hby d2_30)
  have Z13 : n0 ≤ h13.size := Nat.le_trans Z10 (Keep.of_wr W13).1
  have K13 : Keep h0 h13 [a] := K10.wr W13 (Or.inl (List.mem_of_getElem? (i := 0) rfl))
  have O13 : Old Z n0 h13 := O10.wr W13 g_a
  have N13 := Fr.snoc X13 N10 g_a
  have hk13 := Nat.le_trans hk10 (Keep.of_wr W13).1
  have fw13 : Fld Z h13 a "com/example/ballot/ballot/model/Status" "epoch" "J" (.long q) := f15.same W13
  have R16 : ∀ t, Steps p.tables e below (T13.setTop (mkF m 33 #[.val (.ref a), .val (.int i), .val (.ref r), .val (.int ld), .val (.long q), .second] [])) t → Steps p.tables e below (s₁.setTop (entryFrame m #[(.ref a), (.int i), (.ref r), (.int ld), (.long q)] 6)) t := by
    intro t k
    refine R0 t ?_
    show Steps p.tables e below (s₁.setTop (mkF m 0 #[.val (.ref a), .val (.int i), .val (.ref r), .val (.int ld), .val (.long q), .second] [])) t
    refine XS.aloadN X0.here hx rfl (hb hby d2_0) rfl rfl ?_
    show Steps p.tables e below (s₁.setTop (mkF m 1 #[.val (.ref a), .val (.int i), .val (.ref r), .val (.int ld), .val (.long q), .second] [(.ref a)])) t
    refine st1 _ ?_
    show Steps p.tables e below (T1.setTop (mkF m 4 #[.val (.ref a), .val (.int i), .val (.ref r), .val (.int ld), .val (.long q), .second] [])) t
    refine XS.aloadN X1.here hx rfl (hb hby d2_4) rfl rfl ?_
    show Steps p.tables e below (T1.setTop (mkF m 5 #[.val (.ref a), .val (.int i), .val (.ref r), .val (.int ld), .val (.long q), .second] [(.ref a)])) t
    refine XS.iloadN X1.here hx rfl (hb hby d2_5) rfl ?_
    show Steps p.tables e below (T1.setTop (mkF m 6 #[.val (.ref a), .val (.int i), .val (.ref r), .val (.int ld), .val (.long q), .second] [(.int i), (.ref a)])) t
    refine st2 _ ?_
    show Steps p.tables e below (T2.setTop (mkF m 9 #[.val (.ref a), .val (.int i), .val (.ref r), .val (.int ld), .val (.long q), .second] [])) t
    refine XS.aloadN X2.here hx rfl (hb hby d2_9) rfl rfl ?_
    show Steps p.tables e below (T2.setTop (mkF m 10 #[.val (.ref a), .val (.int i), .val (.ref r), .val (.int ld), .val (.long q), .second] [(.ref a)])) t
    refine XS.aloadN X2.here hx rfl (hb hby d2_10) rfl rfl ?_
    show Steps p.tables e below (T2.setTop (mkF m 11 #[.val (.ref a), .val (.int i), .val (.ref r), .val (.int ld), .val (.long q), .second] [(.ref r), (.ref a)])) t
    refine st3 _ ?_
    show Steps p.tables e below (T3.setTop (mkF m 13 #[.val (.ref a), .val (.int i), .val (.ref r), .val (.int ld), .val (.long q), .second] [(.ref a3), (.ref r), (.ref a)])) t
    refine st4 _ ?_
    show Steps p.tables e below (T4.setTop (mkF m 16 #[.val (.ref a), .val (.int i), .val (.ref r), .val (.int ld), .val (.long q), .second] [(.ref r), (.ref a)])) t
    refine st5 _ ?_
    show Steps p.tables e below (T5.setTop (mkF m 19 #[.val (.ref a), .val (.int i), .val (.ref r), .val (.int ld), .val (.long q), .second] [(.ref r), (.ref a)])) t
    refine st7 _ ?_
    show Steps p.tables e below (T7.setTop (mkF m 22 #[.val (.ref a), .val (.int i), .val (.ref r), .val (.int ld), .val (.long q), .second] [])) t
    refine XS.aloadN X7.here hx rfl (hb hby d2_22) rfl rfl ?_
    show Steps p.tables e below (T7.setTop (mkF m 23 #[.val (.ref a), .val (.int i), .val (.ref r), .val (.int ld), .val (.long q), .second] [(.ref a)])) t
    refine XS.iloadN X7.here hx rfl (hb hby d2_23) rfl ?_
    show Steps p.tables e below (T7.setTop (mkF m 24 #[.val (.ref a), .val (.int i), .val (.ref r), .val (.int ld), .val (.long q), .second] [(.int ld), (.ref a)])) t
    refine st10 _ ?_
    show Steps p.tables e below (T10.setTop (mkF m 27 #[.val (.ref a), .val (.int i), .val (.ref r), .val (.int ld), .val (.long q), .second] [])) t
    refine XS.aloadN X10.here hx rfl (hb hby d2_27) rfl rfl ?_
    show Steps p.tables e below (T10.setTop (mkF m 28 #[.val (.ref a), .val (.int i), .val (.ref r), .val (.int ld), .val (.long q), .second] [(.ref a)])) t
    refine XS.lload X10.here hx rfl (hb hby d2_28) rfl ?_
    show Steps p.tables e below (T10.setTop (mkF m 30 #[.val (.ref a), .val (.int i), .val (.ref r), .val (.int ld), .val (.long q), .second] [(.long q), (.ref a)])) t
    refine st13 _ ?_
    exact k
  have f17 : Exa Z h13 a "com/example/ballot/ballot/model/Status" := (f14.wr W13)
  have f18 : Fld Z h13 a "com/example/ballot/ballot/model/Status" "id" "I" (.int i) := ((((fw2.ext E3).other W7 (Or.inr (slot_ne (Or.inr (hw _ (List.mem_of_getElem? (i := 17) rfl))) (Or.inr (hw _ (List.mem_of_getElem? (i := 33) rfl))) (by decide) (t := .int) (t' := (.object "com/example/ballot/ballot/model/Role")) (by decide) (by decide)))).other W10 (Or.inr (slot_ne (Or.inr (hw _ (List.mem_of_getElem? (i := 17) rfl))) (Or.inr (hw _ (List.mem_of_getElem? (i := 35) rfl))) (by decide) (t := .int) (t' := .int) (by decide) (by decide)))).other W13 (Or.inr (slot_ne (Or.inr (hw _ (List.mem_of_getElem? (i := 17) rfl))) (Or.inr (hw _ (List.mem_of_getElem? (i := 37) rfl))) (by decide) (t := .int) (t' := .long) (by decide) (by decide))))
  have f19 : Fld Z h13 a "com/example/ballot/ballot/model/Status" "role" "Lcom/example/ballot/ballot/model/Role;" (.ref r) := ((fw7.other W10 (Or.inr (slot_ne (Or.inr (hw _ (List.mem_of_getElem? (i := 33) rfl))) (Or.inr (hw _ (List.mem_of_getElem? (i := 35) rfl))) (by decide) (t := (.object "com/example/ballot/ballot/model/Role")) (t' := .int) (by decide) (by decide)))).other W13 (Or.inr (slot_ne (Or.inr (hw _ (List.mem_of_getElem? (i := 33) rfl))) (Or.inr (hw _ (List.mem_of_getElem? (i := 37) rfl))) (by decide) (t := (.object "com/example/ballot/ballot/model/Role")) (t' := .long) (by decide) (by decide))))
  have f20 : Fld Z h13 a "com/example/ballot/ballot/model/Status" "leader" "I" (.int ld) := (fw10.other W13 (Or.inr (slot_ne (Or.inr (hw _ (List.mem_of_getElem? (i := 35) rfl))) (Or.inr (hw _ (List.mem_of_getElem? (i := 37) rfl))) (by decide) (t := .int) (t' := .long) (by decide) (by decide))))
  obtain ⟨fs, hr, hrun, hended, hRW⟩ := X13.leaveW hS3 (by rw [e13]; exact hk13) (v := none) (fun _ => rfl)
  refine ⟨_, _, R16 _ ?_, hrun, hended, _, _, rfl, ?_, hRW.1, hRW.2.1, hRW.2.2.1, hRW.2.2.2.mono (by decide) (by decide)⟩
  · show Steps p.tables e below (T13.setTop (mkF m 33 #[.val (.ref a), .val (.int i), .val (.ref r), .val (.int ld), .val (.long q), .second] [])) _
    exact X13.returnOut hx Bd.returns (hb hby d2_33) hr
  · show Q_sinit Z wL wF wE wcI ccI a i r ld q u1 u2 u3 u4 h0 n0 _ T13.heap _
    rw [e13]
    exact ⟨rfl, N13, K13, f17, f18, f19, f20, fw13⟩
theorem d5_0 : decode prog_21_method_6_code 0 = .ok (.aload_n 1, 1) := by decide +kernel
theorem d5_1 : decode prog_21_method_6_code 1 = .ok (.instanceof 8, 3) := by decide +kernel
theorem d5_4 : decode prog_21_method_6_code 4 = .ok (.ifCond .ne 5, 3) := by decide +kernel
theorem d5_9 : decode prog_21_method_6_code 9 = .ok (.aload_n 1, 1) := by decide +kernel
theorem d5_10 : decode prog_21_method_6_code 10 = .ok (.checkcast 8, 3) := by decide +kernel
theorem d5_13 : decode prog_21_method_6_code 13 = .ok (.astore_n 2, 1) := by decide +kernel
theorem d5_14 : decode prog_21_method_6_code 14 = .ok (.aload_n 0, 1) := by decide +kernel
theorem d5_15 : decode prog_21_method_6_code 15 = .ok (.getfield 7, 3) := by decide +kernel
theorem d5_18 : decode prog_21_method_6_code 18 = .ok (.aload_n 2, 1) := by decide +kernel
theorem d5_19 : decode prog_21_method_6_code 19 = .ok (.getfield 7, 3) := by decide +kernel
theorem d5_22 : decode prog_21_method_6_code 22 = .ok (.if_icmp .ne 41, 3) := by decide +kernel
theorem d5_63 : decode prog_21_method_6_code 63 = .ok (.iconst 0, 1) := by decide +kernel
theorem d5_64 : decode prog_21_method_6_code 64 = .ok (.ireturn, 1) := by decide +kernel
theorem ef_eq0 (m : MethodId) (a : Addr) (b : Addr) (i1 : Int32) (i2 : Int32) (r1 : Addr) (r2 : Addr) (l1 : Int32) (l2 : Int32) (q1 : Int64) (q2 : Int64) : entryFrame m #[(.ref a), (.ref b)] 3 = mkF m 0 #[.val (.ref a), .val (.ref b), .unset] [] := by first | (simp [entryFrame, mkF, argsToLocals, Value.category]; done) | rfl
def Q_eq0 (Z : State) (wL : Addr) (wF : Addr) (wE : Addr) (wcI : Addr) (ccI : Cell) (a : Addr) (b : Addr) (i1 : Int32) (i2 : Int32) (r1 : Addr) (r2 : Addr) (l1 : Int32) (l2 : Int32) (q1 : Int64) (q2 : Int64) (h0 : Heap) (n0 : Nat) (vv_ : Option Value) (hh_ : Heap) (LL_ : List Loc) : Prop := vv_ = some (.int (0 : Int32)) ∧ (Fr n0 LL_) ∧ (hh_ = h0)
set_option maxRecDepth 65536 in
set_option maxHeartbeats 40000000 in
theorem eq0 (l : Launch) (Z : State) (a0 : Array Value) (hw : ∀ d ∈ tables_1, d.before a0 Z = true) (ws : List Jvm.Cond) (wL : Addr) (wF : Addr) (wE : Addr) (wcI : Addr) (ccI : Cell) (a : Addr) (b : Addr) (i1 : Int32) (i2 : Int32) (r1 : Addr) (r2 : Addr) (l1 : Int32) (l2 : Int32) (q1 : Int64) (q2 : Int64) (h0 : Heap) (n0 : Nat) (O0 : Old Z n0 h0) (S_wL : Sta Z Z.heap "com/example/ballot/ballot/model/Role" "LEADER" "Lcom/example/ballot/ballot/model/Role;" (.ref wL)) (S_wF : Sta Z Z.heap "com/example/ballot/ballot/model/Role" "FOLLOWER" "Lcom/example/ballot/ballot/model/Role;" (.ref wF)) (S_wE : Sta Z Z.heap "com/example/ballot/ballot/model/Role" "ELECTING" "Lcom/example/ballot/ballot/model/Role;" (.ref wE)) (E_wL : Exa Z Z.heap wL "com/example/ballot/ballot/model/Role") (E_wF : Exa Z Z.heap wF "com/example/ballot/ballot/model/Role") (E_wE : Exa Z Z.heap wE "com/example/ballot/ballot/model/Role") (nLF : wL ≠ wF) (nLE : wL ≠ wE) (nFE : wF ≠ wE) (S_cI : Sta Z Z.heap "java/lang/Integer$IntegerCache" "cache" "[Ljava/lang/Integer;" (.ref wcI)) (B_cI : Bxs Z wcI ccI "java/lang/Integer" "I" 256 (fun j => .int (j - 128))) (S_hi : Sta Z Z.heap "java/lang/Integer$IntegerCache" "high" "I" (.int (127 : Int32))) (Ea : Exa Z h0 a "com/example/ballot/ballot/model/Status") (Eb : Exa Z h0 b "com/example/ballot/ballot/model/Status") (Faid : Fld Z h0 a "com/example/ballot/ballot/model/Status" "id" "I" (.int i1)) (Farole : Fld Z h0 a "com/example/ballot/ballot/model/Status" "role" "Lcom/example/ballot/ballot/model/Role;" (.ref r1)) (Faleader : Fld Z h0 a "com/example/ballot/ballot/model/Status" "leader" "I" (.int l1)) (Faepoch : Fld Z h0 a "com/example/ballot/ballot/model/Status" "epoch" "J" (.long q1)) (Fbid : Fld Z h0 b "com/example/ballot/ballot/model/Status" "id" "I" (.int i2)) (Fbrole : Fld Z h0 b "com/example/ballot/ballot/model/Status" "role" "Lcom/example/ballot/ballot/model/Role;" (.ref r2)) (Fbleader : Fld Z h0 b "com/example/ballot/ballot/model/Status" "leader" "I" (.int l2)) (Fbepoch : Fld Z h0 b "com/example/ballot/ballot/model/Status" "epoch" "J" (.long q2)) (hq0 : ¬ (i1 = i2)) :
    MetFree l (⟨"com/example/ballot/ballot/model/Status", "equals", "(Ljava/lang/Object;)Z"⟩ : MethodName) (head1 (Jvm.Cond.code (⟨"com/example/ballot/ballot/model/Status", "equals", "(Ljava/lang/Object;)Z"⟩ : MethodName) prog_21_method_6_code 3 (some .boolean) :: ws) ({ frames := 0, cells := 0, slots := 0, locals := 0 } : Room)) (fun aa_ U_ => aa_ = #[(.ref a), (.ref b)] ∧ Z.Warmed39 U_.vm ∧ U_.heap = h0) (fun _ _ _ _ _ => True) (fun _ U_ oo_ V_ => ∃ vv_ LL_, oo_ = .returned vv_ ∧ Q_eq0 Z wL wF wE wcI ccI a b i1 i2 r1 r2 l1 l2 q1 q2 h0 n0 vv_ V_.heap LL_ ∧ FrameEnd U_ oo_ V_ LL_ ({ frames := 0, cells := 0, slots := 0, locals := 0 } : Room).cells ({ frames := 0, cells := 0, slots := 0, locals := 0 } : Room).slots) := by
  refine MetFree.of_bodySF (plainFor_of_name pn_com_example_ballot_ballot_model_Status) hisR ?_
  intro p e s m args below meth c s₁ Bd hml0 hP hK
  obtain ⟨rfl, hZ, hh⟩ := hP
  have hx := Bd.exec
  have hby := Bd.bytes
  have hml : c.maxLocals = 3 := hml0
  have hown : s.vm.findClass "com/example/ballot/ballot/model/Status" = some m.cls := findClass_of_methodNamed Bd.named
  have hnm := (name_of_methodNamed Bd.named Bd.method).1
  have X0 : Stand p l e ({ frames := 0, cells := 0, slots := 0, locals := 0 } : Room) s m #[(.ref a), (.ref b)] below meth c s₁ [] 0 0 := Stand.of_body Bd
  have e0 : s₁.heap = h0 := by rw [← hh, Bd.state]; rfl
  have N0 := Fr.nil n0
  have Z0 : n0 ≤ h0.size := O0.1 ▸ O0.2.1
  have hk0 := Nat.zero_le h0.size
  have K0 : Keep h0 h0 [] := Keep.refl _ _
  have R0 : ∀ t, Steps p.tables e below (s₁.setTop (mkF m 0 #[.val (.ref a), .val (.ref b), .unset] [])) t → Steps p.tables e below (s₁.setTop (entryFrame m #[(.ref a), (.ref b)] 3)) t := fun t k => castTop (ef_eq0 m a b i1 i2 r1 r2 l1 l2 q1 q2) k
  obtain ⟨T1, X1, e1, st1⟩ := instY X0 hx hZ hown (hw _ (List.mem_of_getElem? (i := 43) rfl)) e0 (Ins.self Eb) (g := (mkF m 1 #[.val (.ref a), .val (.ref b), .unset] [(.ref b)])) rfl rfl (hb hby d5_1)
  obtain ⟨T2, X2, e2, st2⟩ := castY X1 hx hZ hown (hw _ (List.mem_of_getElem? (i := 43) rfl)) e1 (Ins.self Eb) (g := (mkF m 10 #[.val (.ref a), .val (.ref b), .unset] [(.ref b)])) rfl rfl (hb hby d5_10)
  obtain ⟨T3, X3, e3, st3⟩ := getF X2 hx hZ hown (host := "") (Or.inl (hw _ (List.mem_of_getElem? (i := 16) rfl))) Via.refl e2 Faid (g := (mkF m 15 #[.val (.ref a), .val (.ref b), .val (.ref b)] [(.ref a)])) rfl rfl (hb hby d5_15)
  obtain ⟨T4, X4, e4, st4⟩ := getF X3 hx hZ hown (host := "") (Or.inl (hw _ (List.mem_of_getElem? (i := 16) rfl))) Via.refl e3 Fbid (g := (mkF m 19 #[.val (.ref a), .val (.ref b), .val (.ref b)] [(.ref b), (.int i1)])) rfl rfl (hb hby d5_19)
  have R5 : ∀ t, Steps p.tables e below (T4.setTop (mkF m 64 #[.val (.ref a), .val (.ref b), .val (.ref b)] [(.int (0 : Int32))])) t → Steps p.tables e below (s₁.setTop (entryFrame m #[(.ref a), (.ref b)] 3)) t := by
    intro t k
    refine R0 t ?_
    show Steps p.tables e below (s₁.setTop (mkF m 0 #[.val (.ref a), .val (.ref b), .unset] [])) t
    refine XS.aloadN X0.here hx rfl (hb hby d5_0) rfl rfl ?_
    show Steps p.tables e below (s₁.setTop (mkF m 1 #[.val (.ref a), .val (.ref b), .unset] [(.ref b)])) t
    refine st1 _ ?_
    show Steps p.tables e below (T1.setTop (mkF m 4 #[.val (.ref a), .val (.ref b), .unset] [(.int (1 : Int32))])) t
    refine XS.ifYes X1.here hx rfl (pc0 := 4) (pc' := 9) rfl (hb hby d5_4) rfl ((if0 _ _).trans (feq ((by decide) : ¬ ((1 : Int32) = (0 : Int32)))).2) (by decide) (by decide) ?_
    show Steps p.tables e below (T1.setTop (mkF m 9 #[.val (.ref a), .val (.ref b), .unset] [])) t
    refine XS.aloadN X1.here hx rfl (hb hby d5_9) rfl rfl ?_
    show Steps p.tables e below (T1.setTop (mkF m 10 #[.val (.ref a), .val (.ref b), .unset] [(.ref b)])) t
    refine st2 _ ?_
    show Steps p.tables e below (T2.setTop (mkF m 13 #[.val (.ref a), .val (.ref b), .unset] [(.ref b)])) t
    refine XS.astoreN X2.here hx rfl (hb hby d5_13) rfl rfl (l' := #[.val (.ref a), .val (.ref b), .val (.ref b)]) rfl ?_
    show Steps p.tables e below (T2.setTop (mkF m 14 #[.val (.ref a), .val (.ref b), .val (.ref b)] [])) t
    refine XS.aloadN X2.here hx rfl (hb hby d5_14) rfl rfl ?_
    show Steps p.tables e below (T2.setTop (mkF m 15 #[.val (.ref a), .val (.ref b), .val (.ref b)] [(.ref a)])) t
    refine st3 _ ?_
    show Steps p.tables e below (T3.setTop (mkF m 18 #[.val (.ref a), .val (.ref b), .val (.ref b)] [(.int i1)])) t
    refine XS.aloadN X3.here hx rfl (hb hby d5_18) rfl rfl ?_
    show Steps p.tables e below (T3.setTop (mkF m 19 #[.val (.ref a), .val (.ref b), .val (.ref b)] [(.ref b), (.int i1)])) t
    refine st4 _ ?_
    show Steps p.tables e below (T4.setTop (mkF m 22 #[.val (.ref a), .val (.ref b), .val (.ref b)] [(.int i2), (.int i1)])) t
    refine XS.icmpYes X4.here hx rfl (pc0 := 22) (pc' := 63) rfl (hb hby d5_22) rfl (feq (hq0 : ¬ (i1 = i2))).2 (by decide) (by decide) ?_
    show Steps p.tables e below (T4.setTop (mkF m 63 #[.val (.ref a), .val (.ref b), .val (.ref b)] [])) t
    refine XS.iconst X4.here hx rfl (hb hby d5_63) ?_
    exact k
  obtain ⟨fs, hr, hrun, hended, hW, hsame⟩ := X4.leave (v := some (.int (0 : Int32))) (fun h => by rw [Bd.returns] at h; cases h)
  refine ⟨_, _, R5 _ ?_, hrun, hended, _, _, rfl, ?_, ⟨_, rfl⟩, hW, hsame.mono (by decide) (by decide)⟩
  · show Steps p.tables e below (T4.setTop (mkF m 64 #[.val (.ref a), .val (.ref b), .val (.ref b)] [(.int (0 : Int32))])) _
    exact retN X4 hx (t := .boolean) Bd.returns (by simp) (hb hby d5_64) hr
  · show Q_eq0 Z wL wF wE wcI ccI a b i1 i2 r1 r2 l1 l2 q1 q2 h0 n0 _ T4.heap _
    rw [e4]
    exact ⟨rfl, N0, rfl⟩
theorem d5_25 : decode prog_21_method_6_code 25 = .ok (.aload_n 0, 1) := by decide +kernel
theorem d5_26 : decode prog_21_method_6_code 26 = .ok (.getfield 23, 3) := by decide +kernel
theorem d5_29 : decode prog_21_method_6_code 29 = .ok (.aload_n 2, 1) := by decide +kernel
theorem d5_30 : decode prog_21_method_6_code 30 = .ok (.getfield 23, 3) := by decide +kernel
theorem d5_33 : decode prog_21_method_6_code 33 = .ok (.if_acmp .ne 30, 3) := by decide +kernel
theorem ef_eq1 (m : MethodId) (a : Addr) (b : Addr) (i1 : Int32) (i2 : Int32) (r1 : Addr) (r2 : Addr) (l1 : Int32) (l2 : Int32) (q1 : Int64) (q2 : Int64) : entryFrame m #[(.ref a), (.ref b)] 3 = mkF m 0 #[.val (.ref a), .val (.ref b), .unset] [] := by first | (simp [entryFrame, mkF, argsToLocals, Value.category]; done) | rfl
def Q_eq1 (Z : State) (wL : Addr) (wF : Addr) (wE : Addr) (wcI : Addr) (ccI : Cell) (a : Addr) (b : Addr) (i1 : Int32) (i2 : Int32) (r1 : Addr) (r2 : Addr) (l1 : Int32) (l2 : Int32) (q1 : Int64) (q2 : Int64) (h0 : Heap) (n0 : Nat) (vv_ : Option Value) (hh_ : Heap) (LL_ : List Loc) : Prop := vv_ = some (.int (0 : Int32)) ∧ (Fr n0 LL_) ∧ (hh_ = h0)
set_option maxRecDepth 65536 in
set_option maxHeartbeats 40000000 in
theorem eq1 (l : Launch) (Z : State) (a0 : Array Value) (hw : ∀ d ∈ tables_1, d.before a0 Z = true) (ws : List Jvm.Cond) (wL : Addr) (wF : Addr) (wE : Addr) (wcI : Addr) (ccI : Cell) (a : Addr) (b : Addr) (i1 : Int32) (i2 : Int32) (r1 : Addr) (r2 : Addr) (l1 : Int32) (l2 : Int32) (q1 : Int64) (q2 : Int64) (h0 : Heap) (n0 : Nat) (O0 : Old Z n0 h0) (S_wL : Sta Z Z.heap "com/example/ballot/ballot/model/Role" "LEADER" "Lcom/example/ballot/ballot/model/Role;" (.ref wL)) (S_wF : Sta Z Z.heap "com/example/ballot/ballot/model/Role" "FOLLOWER" "Lcom/example/ballot/ballot/model/Role;" (.ref wF)) (S_wE : Sta Z Z.heap "com/example/ballot/ballot/model/Role" "ELECTING" "Lcom/example/ballot/ballot/model/Role;" (.ref wE)) (E_wL : Exa Z Z.heap wL "com/example/ballot/ballot/model/Role") (E_wF : Exa Z Z.heap wF "com/example/ballot/ballot/model/Role") (E_wE : Exa Z Z.heap wE "com/example/ballot/ballot/model/Role") (nLF : wL ≠ wF) (nLE : wL ≠ wE) (nFE : wF ≠ wE) (S_cI : Sta Z Z.heap "java/lang/Integer$IntegerCache" "cache" "[Ljava/lang/Integer;" (.ref wcI)) (B_cI : Bxs Z wcI ccI "java/lang/Integer" "I" 256 (fun j => .int (j - 128))) (S_hi : Sta Z Z.heap "java/lang/Integer$IntegerCache" "high" "I" (.int (127 : Int32))) (Ea : Exa Z h0 a "com/example/ballot/ballot/model/Status") (Eb : Exa Z h0 b "com/example/ballot/ballot/model/Status") (Faid : Fld Z h0 a "com/example/ballot/ballot/model/Status" "id" "I" (.int i1)) (Farole : Fld Z h0 a "com/example/ballot/ballot/model/Status" "role" "Lcom/example/ballot/ballot/model/Role;" (.ref r1)) (Faleader : Fld Z h0 a "com/example/ballot/ballot/model/Status" "leader" "I" (.int l1)) (Faepoch : Fld Z h0 a "com/example/ballot/ballot/model/Status" "epoch" "J" (.long q1)) (Fbid : Fld Z h0 b "com/example/ballot/ballot/model/Status" "id" "I" (.int i2)) (Fbrole : Fld Z h0 b "com/example/ballot/ballot/model/Status" "role" "Lcom/example/ballot/ballot/model/Role;" (.ref r2)) (Fbleader : Fld Z h0 b "com/example/ballot/ballot/model/Status" "leader" "I" (.int l2)) (Fbepoch : Fld Z h0 b "com/example/ballot/ballot/model/Status" "epoch" "J" (.long q2)) (hq0 : i1 = i2) (hq1 : ¬ (r1 = r2)) :
    MetFree l (⟨"com/example/ballot/ballot/model/Status", "equals", "(Ljava/lang/Object;)Z"⟩ : MethodName) (head1 (Jvm.Cond.code (⟨"com/example/ballot/ballot/model/Status", "equals", "(Ljava/lang/Object;)Z"⟩ : MethodName) prog_21_method_6_code 3 (some .boolean) :: ws) ({ frames := 0, cells := 0, slots := 0, locals := 0 } : Room)) (fun aa_ U_ => aa_ = #[(.ref a), (.ref b)] ∧ Z.Warmed39 U_.vm ∧ U_.heap = h0) (fun _ _ _ _ _ => True) (fun _ U_ oo_ V_ => ∃ vv_ LL_, oo_ = .returned vv_ ∧ Q_eq1 Z wL wF wE wcI ccI a b i1 i2 r1 r2 l1 l2 q1 q2 h0 n0 vv_ V_.heap LL_ ∧ FrameEnd U_ oo_ V_ LL_ ({ frames := 0, cells := 0, slots := 0, locals := 0 } : Room).cells ({ frames := 0, cells := 0, slots := 0, locals := 0 } : Room).slots) := by
  refine MetFree.of_bodySF (plainFor_of_name pn_com_example_ballot_ballot_model_Status) hisR ?_
  intro p e s m args below meth c s₁ Bd hml0 hP hK
  obtain ⟨rfl, hZ, hh⟩ := hP
  have hx := Bd.exec
  have hby := Bd.bytes
  have hml : c.maxLocals = 3 := hml0
  have hown : s.vm.findClass "com/example/ballot/ballot/model/Status" = some m.cls := findClass_of_methodNamed Bd.named
  have hnm := (name_of_methodNamed Bd.named Bd.method).1
  have X0 : Stand p l e ({ frames := 0, cells := 0, slots := 0, locals := 0 } : Room) s m #[(.ref a), (.ref b)] below meth c s₁ [] 0 0 := Stand.of_body Bd
  have e0 : s₁.heap = h0 := by rw [← hh, Bd.state]; rfl
  have N0 := Fr.nil n0
  have Z0 : n0 ≤ h0.size := O0.1 ▸ O0.2.1
  have hk0 := Nat.zero_le h0.size
  have K0 : Keep h0 h0 [] := Keep.refl _ _
  have R0 : ∀ t, Steps p.tables e below (s₁.setTop (mkF m 0 #[.val (.ref a), .val (.ref b), .unset] [])) t → Steps p.tables e below (s₁.setTop (entryFrame m #[(.ref a), (.ref b)] 3)) t := fun t k => castTop (ef_eq1 m a b i1 i2 r1 r2 l1 l2 q1 q2) k
  obtain ⟨T1, X1, e1, st1⟩ := instY X0 hx hZ hown (hw _ (List.mem_of_getElem? (i := 43) rfl)) e0 (Ins.self Eb) (g := (mkF m 1 #[.val (.ref a), .val (.ref b), .unset] [(.ref b)])) rfl rfl (hb hby d5_1)
  obtain ⟨T2, X2, e2, st2⟩ := castY X1 hx hZ hown (hw _ (List.mem_of_getElem? (i := 43) rfl)) e1 (Ins.self Eb) (g := (mkF m 10 #[.val (.ref a), .val (.ref b), .unset] [(.ref b)])) rfl rfl (hb hby d5_10)
  obtain ⟨T3, X3, e3, st3⟩ := getF X2 hx hZ hown (host := "") (Or.inl (hw _ (List.mem_of_getElem? (i := 16) rfl))) Via.refl e2 Faid (g := (mkF m 15 #[.val (.ref a), .val (.ref b), .val (.ref b)] [(.ref a)])) rfl rfl (hb hby d5_15)
  obtain ⟨T4, X4, e4, st4⟩ := getF X3 hx hZ hown (host := "") (Or.inl (hw _ (List.mem_of_getElem? (i := 16) rfl))) Via.refl e3 Fbid (g := (mkF m 19 #[.val (.ref a), .val (.ref b), .val (.ref b)] [(.ref b), (.int i1)])) rfl rfl (hb hby d5_19)
  obtain ⟨T5, X5, e5, st5⟩ := getF X4 hx hZ hown (host := "") (Or.inl (hw _ (List.mem_of_getElem? (i := 32) rfl))) Via.refl e4 Farole (g := (mkF m 26 #[.val (.ref a), .val (.ref b), .val (.ref b)] [(.ref a)])) rfl rfl (hb hby d5_26)
  obtain ⟨T6, X6, e6, st6⟩ := getF X5 hx hZ hown (host := "") (Or.inl (hw _ (List.mem_of_getElem? (i := 32) rfl))) Via.refl e5 Fbrole (g := (mkF m 30 #[.val (.ref a), .val (.ref b), .val (.ref b)] [(.ref b), (.ref r1)])) rfl rfl (hb hby d5_30)
  have R7 : ∀ t, Steps p.tables e below (T6.setTop (mkF m 64 #[.val (.ref a), .val (.ref b), .val (.ref b)] [(.int (0 : Int32))])) t → Steps p.tables e below (s₁.setTop (entryFrame m #[(.ref a), (.ref b)] 3)) t := by
    intro t k
    refine R0 t ?_
    show Steps p.tables e below (s₁.setTop (mkF m 0 #[.val (.ref a), .val (.ref b), .unset] [])) t
    refine XS.aloadN X0.here hx rfl (hb hby d5_0) rfl rfl ?_
    show Steps p.tables e below (s₁.setTop (mkF m 1 #[.val (.ref a), .val (.ref b), .unset] [(.ref b)])) t
    refine st1 _ ?_
    show Steps p.tables e below (T1.setTop (mkF m 4 #[.val (.ref a), .val (.ref b), .unset] [(.int (1 : Int32))])) t
    refine XS.ifYes X1.here hx rfl (pc0 := 4) (pc' := 9) rfl (hb hby d5_4) rfl ((if0 _ _).trans (feq ((by decide) : ¬ ((1 : Int32) = (0 : Int32)))).2) (by decide) (by decide) ?_
    show Steps p.tables e below (T1.setTop (mkF m 9 #[.val (.ref a), .val (.ref b), .unset] [])) t
    refine XS.aloadN X1.here hx rfl (hb hby d5_9) rfl rfl ?_
    show Steps p.tables e below (T1.setTop (mkF m 10 #[.val (.ref a), .val (.ref b), .unset] [(.ref b)])) t
    refine st2 _ ?_
    show Steps p.tables e below (T2.setTop (mkF m 13 #[.val (.ref a), .val (.ref b), .unset] [(.ref b)])) t
    refine XS.astoreN X2.here hx rfl (hb hby d5_13) rfl rfl (l' := #[.val (.ref a), .val (.ref b), .val (.ref b)]) rfl ?_
    show Steps p.tables e below (T2.setTop (mkF m 14 #[.val (.ref a), .val (.ref b), .val (.ref b)] [])) t
    refine XS.aloadN X2.here hx rfl (hb hby d5_14) rfl rfl ?_
    show Steps p.tables e below (T2.setTop (mkF m 15 #[.val (.ref a), .val (.ref b), .val (.ref b)] [(.ref a)])) t
    refine st3 _ ?_
    show Steps p.tables e below (T3.setTop (mkF m 18 #[.val (.ref a), .val (.ref b), .val (.ref b)] [(.int i1)])) t
    refine XS.aloadN X3.here hx rfl (hb hby d5_18) rfl rfl ?_
    show Steps p.tables e below (T3.setTop (mkF m 19 #[.val (.ref a), .val (.ref b), .val (.ref b)] [(.ref b), (.int i1)])) t
    refine st4 _ ?_
    show Steps p.tables e below (T4.setTop (mkF m 22 #[.val (.ref a), .val (.ref b), .val (.ref b)] [(.int i2), (.int i1)])) t
    refine XS.icmpNo X4.here hx rfl (hb hby d5_22) rfl (teq (hq0 : i1 = i2)).2 ?_
    show Steps p.tables e below (T4.setTop (mkF m 25 #[.val (.ref a), .val (.ref b), .val (.ref b)] [])) t
    refine XS.aloadN X4.here hx rfl (hb hby d5_25) rfl rfl ?_
    show Steps p.tables e below (T4.setTop (mkF m 26 #[.val (.ref a), .val (.ref b), .val (.ref b)] [(.ref a)])) t
    refine st5 _ ?_
    show Steps p.tables e below (T5.setTop (mkF m 29 #[.val (.ref a), .val (.ref b), .val (.ref b)] [(.ref r1)])) t
    refine XS.aloadN X5.here hx rfl (hb hby d5_29) rfl rfl ?_
    show Steps p.tables e below (T5.setTop (mkF m 30 #[.val (.ref a), .val (.ref b), .val (.ref b)] [(.ref b), (.ref r1)])) t
    refine st6 _ ?_
    show Steps p.tables e below (T6.setTop (mkF m 33 #[.val (.ref a), .val (.ref b), .val (.ref b)] [(.ref r2), (.ref r1)])) t
    refine Jvm.RoadKit.acmp (g := (mkF m 33 #[.val (.ref a), .val (.ref b), .val (.ref b)] [(.ref r2), (.ref r1)])) X6 hx rfl rfl rfl (pc0 := 33) (pc' := 63) (same := false) rfl (hb hby d5_33) rfl (decide_eq_false (fun q => hq1 (Value.ref.inj q))) (by decide) (by decide) ?_
    show Steps p.tables e below (T6.setTop (mkF m 63 #[.val (.ref a), .val (.ref b), .val (.ref b)] [])) t
    refine XS.iconst X6.here hx rfl (hb hby d5_63) ?_
    exact k
  obtain ⟨fs, hr, hrun, hended, hW, hsame⟩ := X6.leave (v := some (.int (0 : Int32))) (fun h => by rw [Bd.returns] at h; cases h)
  refine ⟨_, _, R7 _ ?_, hrun, hended, _, _, rfl, ?_, ⟨_, rfl⟩, hW, hsame.mono (by decide) (by decide)⟩
  · show Steps p.tables e below (T6.setTop (mkF m 64 #[.val (.ref a), .val (.ref b), .val (.ref b)] [(.int (0 : Int32))])) _
    exact retN X6 hx (t := .boolean) Bd.returns (by simp) (hb hby d5_64) hr
  · show Q_eq1 Z wL wF wE wcI ccI a b i1 i2 r1 r2 l1 l2 q1 q2 h0 n0 _ T6.heap _
    rw [e6]
    exact ⟨rfl, N0, rfl⟩
theorem d5_36 : decode prog_21_method_6_code 36 = .ok (.aload_n 0, 1) := by decide +kernel
theorem d5_37 : decode prog_21_method_6_code 37 = .ok (.getfield 26, 3) := by decide +kernel
theorem d5_40 : decode prog_21_method_6_code 40 = .ok (.aload_n 2, 1) := by decide +kernel
theorem d5_41 : decode prog_21_method_6_code 41 = .ok (.getfield 26, 3) := by decide +kernel
theorem d5_44 : decode prog_21_method_6_code 44 = .ok (.if_icmp .ne 19, 3) := by decide +kernel
theorem ef_eq2 (m : MethodId) (a : Addr) (b : Addr) (i1 : Int32) (i2 : Int32) (r1 : Addr) (r2 : Addr) (l1 : Int32) (l2 : Int32) (q1 : Int64) (q2 : Int64) : entryFrame m #[(.ref a), (.ref b)] 3 = mkF m 0 #[.val (.ref a), .val (.ref b), .unset] [] := by first | (simp [entryFrame, mkF, argsToLocals, Value.category]; done) | rfl
def Q_eq2 (Z : State) (wL : Addr) (wF : Addr) (wE : Addr) (wcI : Addr) (ccI : Cell) (a : Addr) (b : Addr) (i1 : Int32) (i2 : Int32) (r1 : Addr) (r2 : Addr) (l1 : Int32) (l2 : Int32) (q1 : Int64) (q2 : Int64) (h0 : Heap) (n0 : Nat) (vv_ : Option Value) (hh_ : Heap) (LL_ : List Loc) : Prop := vv_ = some (.int (0 : Int32)) ∧ (Fr n0 LL_) ∧ (hh_ = h0)
set_option maxRecDepth 65536 in
set_option maxHeartbeats 40000000 in
theorem eq2 (l : Launch) (Z : State) (a0 : Array Value) (hw : ∀ d ∈ tables_1, d.before a0 Z = true) (ws : List Jvm.Cond) (wL : Addr) (wF : Addr) (wE : Addr) (wcI : Addr) (ccI : Cell) (a : Addr) (b : Addr) (i1 : Int32) (i2 : Int32) (r1 : Addr) (r2 : Addr) (l1 : Int32) (l2 : Int32) (q1 : Int64) (q2 : Int64) (h0 : Heap) (n0 : Nat) (O0 : Old Z n0 h0) (S_wL : Sta Z Z.heap "com/example/ballot/ballot/model/Role" "LEADER" "Lcom/example/ballot/ballot/model/Role;" (.ref wL)) (S_wF : Sta Z Z.heap "com/example/ballot/ballot/model/Role" "FOLLOWER" "Lcom/example/ballot/ballot/model/Role;" (.ref wF)) (S_wE : Sta Z Z.heap "com/example/ballot/ballot/model/Role" "ELECTING" "Lcom/example/ballot/ballot/model/Role;" (.ref wE)) (E_wL : Exa Z Z.heap wL "com/example/ballot/ballot/model/Role") (E_wF : Exa Z Z.heap wF "com/example/ballot/ballot/model/Role") (E_wE : Exa Z Z.heap wE "com/example/ballot/ballot/model/Role") (nLF : wL ≠ wF) (nLE : wL ≠ wE) (nFE : wF ≠ wE) (S_cI : Sta Z Z.heap "java/lang/Integer$IntegerCache" "cache" "[Ljava/lang/Integer;" (.ref wcI)) (B_cI : Bxs Z wcI ccI "java/lang/Integer" "I" 256 (fun j => .int (j - 128))) (S_hi : Sta Z Z.heap "java/lang/Integer$IntegerCache" "high" "I" (.int (127 : Int32))) (Ea : Exa Z h0 a "com/example/ballot/ballot/model/Status") (Eb : Exa Z h0 b "com/example/ballot/ballot/model/Status") (Faid : Fld Z h0 a "com/example/ballot/ballot/model/Status" "id" "I" (.int i1)) (Farole : Fld Z h0 a "com/example/ballot/ballot/model/Status" "role" "Lcom/example/ballot/ballot/model/Role;" (.ref r1)) (Faleader : Fld Z h0 a "com/example/ballot/ballot/model/Status" "leader" "I" (.int l1)) (Faepoch : Fld Z h0 a "com/example/ballot/ballot/model/Status" "epoch" "J" (.long q1)) (Fbid : Fld Z h0 b "com/example/ballot/ballot/model/Status" "id" "I" (.int i2)) (Fbrole : Fld Z h0 b "com/example/ballot/ballot/model/Status" "role" "Lcom/example/ballot/ballot/model/Role;" (.ref r2)) (Fbleader : Fld Z h0 b "com/example/ballot/ballot/model/Status" "leader" "I" (.int l2)) (Fbepoch : Fld Z h0 b "com/example/ballot/ballot/model/Status" "epoch" "J" (.long q2)) (hq0 : i1 = i2) (hq1 : r1 = r2) (hq2 : ¬ (l1 = l2)) :
    MetFree l (⟨"com/example/ballot/ballot/model/Status", "equals", "(Ljava/lang/Object;)Z"⟩ : MethodName) (head1 (Jvm.Cond.code (⟨"com/example/ballot/ballot/model/Status", "equals", "(Ljava/lang/Object;)Z"⟩ : MethodName) prog_21_method_6_code 3 (some .boolean) :: ws) ({ frames := 0, cells := 0, slots := 0, locals := 0 } : Room)) (fun aa_ U_ => aa_ = #[(.ref a), (.ref b)] ∧ Z.Warmed39 U_.vm ∧ U_.heap = h0) (fun _ _ _ _ _ => True) (fun _ U_ oo_ V_ => ∃ vv_ LL_, oo_ = .returned vv_ ∧ Q_eq2 Z wL wF wE wcI ccI a b i1 i2 r1 r2 l1 l2 q1 q2 h0 n0 vv_ V_.heap LL_ ∧ FrameEnd U_ oo_ V_ LL_ ({ frames := 0, cells := 0, slots := 0, locals := 0 } : Room).cells ({ frames := 0, cells := 0, slots := 0, locals := 0 } : Room).slots) := by
  refine MetFree.of_bodySF (plainFor_of_name pn_com_example_ballot_ballot_model_Status) hisR ?_
  intro p e s m args below meth c s₁ Bd hml0 hP hK
  obtain ⟨rfl, hZ, hh⟩ := hP
  have hx := Bd.exec
  have hby := Bd.bytes
  have hml : c.maxLocals = 3 := hml0
  have hown : s.vm.findClass "com/example/ballot/ballot/model/Status" = some m.cls := findClass_of_methodNamed Bd.named
  have hnm := (name_of_methodNamed Bd.named Bd.method).1
  have X0 : Stand p l e ({ frames := 0, cells := 0, slots := 0, locals := 0 } : Room) s m #[(.ref a), (.ref b)] below meth c s₁ [] 0 0 := Stand.of_body Bd
  have e0 : s₁.heap = h0 := by rw [← hh, Bd.state]; rfl
  have N0 := Fr.nil n0
  have Z0 : n0 ≤ h0.size := O0.1 ▸ O0.2.1
  have hk0 := Nat.zero_le h0.size
  have K0 : Keep h0 h0 [] := Keep.refl _ _
  have R0 : ∀ t, Steps p.tables e below (s₁.setTop (mkF m 0 #[.val (.ref a), .val (.ref b), .unset] [])) t → Steps p.tables e below (s₁.setTop (entryFrame m #[(.ref a), (.ref b)] 3)) t := fun t k => castTop (ef_eq2 m a b i1 i2 r1 r2 l1 l2 q1 q2) k
  obtain ⟨T1, X1, e1, st1⟩ := instY X0 hx hZ hown (hw _ (List.mem_of_getElem? (i := 43) rfl)) e0 (Ins.self Eb) (g := (mkF m 1 #[.val (.ref a), .val (.ref b), .unset] [(.ref b)])) rfl rfl (hb hby d5_1)
  obtain ⟨T2, X2, e2, st2⟩ := castY X1 hx hZ hown (hw _ (List.mem_of_getElem? (i := 43) rfl)) e1 (Ins.self Eb) (g := (mkF m 10 #[.val (.ref a), .val (.ref b), .unset] [(.ref b)])) rfl rfl (hb hby d5_10)
  obtain ⟨T3, X3, e3, st3⟩ := getF X2 hx hZ hown (host := "") (Or.inl (hw _ (List.mem_of_getElem? (i := 16) rfl))) Via.refl e2 Faid (g := (mkF m 15 #[.val (.ref a), .val (.ref b), .val (.ref b)] [(.ref a)])) rfl rfl (hb hby d5_15)
  obtain ⟨T4, X4, e4, st4⟩ := getF X3 hx hZ hown (host := "") (Or.inl (hw _ (List.mem_of_getElem? (i := 16) rfl))) Via.refl e3 Fbid (g := (mkF m 19 #[.val (.ref a), .val (.ref b), .val (.ref b)] [(.ref b), (.int i1)])) rfl rfl (hb hby d5_19)
  obtain ⟨T5, X5, e5, st5⟩ := getF X4 hx hZ hown (host := "") (Or.inl (hw _ (List.mem_of_getElem? (i := 32) rfl))) Via.refl e4 Farole (g := (mkF m 26 #[.val (.ref a), .val (.ref b), .val (.ref b)] [(.ref a)])) rfl rfl (hb hby d5_26)
  obtain ⟨T6, X6, e6, st6⟩ := getF X5 hx hZ hown (host := "") (Or.inl (hw _ (List.mem_of_getElem? (i := 32) rfl))) Via.refl e5 Fbrole (g := (mkF m 30 #[.val (.ref a), .val (.ref b), .val (.ref b)] [(.ref b), (.ref r1)])) rfl rfl (hb hby d5_30)
  obtain ⟨T7, X7, e7, st7⟩ := getF X6 hx hZ hown (host := "") (Or.inl (hw _ (List.mem_of_getElem? (i := 34) rfl))) Via.refl e6 Faleader (g := (mkF m 37 #[.val (.ref a), .val (.ref b), .val (.ref b)] [(.ref a)])) rfl rfl (hb hby d5_37)
  obtain ⟨T8, X8, e8, st8⟩ := getF X7 hx hZ hown (host := "") (Or.inl (hw _ (List.mem_of_getElem? (i := 34) rfl))) Via.refl e7 Fbleader (g := (mkF m 41 #[.val (.ref a), .val (.ref b), .val (.ref b)] [(.ref b), (.int l1)])) rfl rfl (hb hby d5_41)
  have R9 : ∀ t, Steps p.tables e below (T8.setTop (mkF m 64 #[.val (.ref a), .val (.ref b), .val (.ref b)] [(.int (0 : Int32))])) t → Steps p.tables e below (s₁.setTop (entryFrame m #[(.ref a), (.ref b)] 3)) t := by
    intro t k
    refine R0 t ?_
    show Steps p.tables e below (s₁.setTop (mkF m 0 #[.val (.ref a), .val (.ref b), .unset] [])) t
    refine XS.aloadN X0.here hx rfl (hb hby d5_0) rfl rfl ?_
    show Steps p.tables e below (s₁.setTop (mkF m 1 #[.val (.ref a), .val (.ref b), .unset] [(.ref b)])) t
    refine st1 _ ?_
    show Steps p.tables e below (T1.setTop (mkF m 4 #[.val (.ref a), .val (.ref b), .unset] [(.int (1 : Int32))])) t
    refine XS.ifYes X1.here hx rfl (pc0 := 4) (pc' := 9) rfl (hb hby d5_4) rfl ((if0 _ _).trans (feq ((by decide) : ¬ ((1 : Int32) = (0 : Int32)))).2) (by decide) (by decide) ?_
    show Steps p.tables e below (T1.setTop (mkF m 9 #[.val (.ref a), .val (.ref b), .unset] [])) t
    refine XS.aloadN X1.here hx rfl (hb hby d5_9) rfl rfl ?_
    show Steps p.tables e below (T1.setTop (mkF m 10 #[.val (.ref a), .val (.ref b), .unset] [(.ref b)])) t
    refine st2 _ ?_
    show Steps p.tables e below (T2.setTop (mkF m 13 #[.val (.ref a), .val (.ref b), .unset] [(.ref b)])) t
    refine XS.astoreN X2.here hx rfl (hb hby d5_13) rfl rfl (l' := #[.val (.ref a), .val (.ref b), .val (.ref b)]) rfl ?_
    show Steps p.tables e below (T2.setTop (mkF m 14 #[.val (.ref a), .val (.ref b), .val (.ref b)] [])) t
    refine XS.aloadN X2.here hx rfl (hb hby d5_14) rfl rfl ?_
    show Steps p.tables e below (T2.setTop (mkF m 15 #[.val (.ref a), .val (.ref b), .val (.ref b)] [(.ref a)])) t
    refine st3 _ ?_
    show Steps p.tables e below (T3.setTop (mkF m 18 #[.val (.ref a), .val (.ref b), .val (.ref b)] [(.int i1)])) t
    refine XS.aloadN X3.here hx rfl (hb hby d5_18) rfl rfl ?_
    show Steps p.tables e below (T3.setTop (mkF m 19 #[.val (.ref a), .val (.ref b), .val (.ref b)] [(.ref b), (.int i1)])) t
    refine st4 _ ?_
    show Steps p.tables e below (T4.setTop (mkF m 22 #[.val (.ref a), .val (.ref b), .val (.ref b)] [(.int i2), (.int i1)])) t
    refine XS.icmpNo X4.here hx rfl (hb hby d5_22) rfl (teq (hq0 : i1 = i2)).2 ?_
    show Steps p.tables e below (T4.setTop (mkF m 25 #[.val (.ref a), .val (.ref b), .val (.ref b)] [])) t
    refine XS.aloadN X4.here hx rfl (hb hby d5_25) rfl rfl ?_
    show Steps p.tables e below (T4.setTop (mkF m 26 #[.val (.ref a), .val (.ref b), .val (.ref b)] [(.ref a)])) t
    refine st5 _ ?_
    show Steps p.tables e below (T5.setTop (mkF m 29 #[.val (.ref a), .val (.ref b), .val (.ref b)] [(.ref r1)])) t
    refine XS.aloadN X5.here hx rfl (hb hby d5_29) rfl rfl ?_
    show Steps p.tables e below (T5.setTop (mkF m 30 #[.val (.ref a), .val (.ref b), .val (.ref b)] [(.ref b), (.ref r1)])) t
    refine st6 _ ?_
    show Steps p.tables e below (T6.setTop (mkF m 33 #[.val (.ref a), .val (.ref b), .val (.ref b)] [(.ref r2), (.ref r1)])) t
    refine Jvm.RoadKit.acmp (g := (mkF m 33 #[.val (.ref a), .val (.ref b), .val (.ref b)] [(.ref r2), (.ref r1)])) X6 hx rfl rfl rfl (pc0 := 33) (pc' := 36) (same := true) rfl (hb hby d5_33) rfl (decide_eq_true (congrArg Value.ref hq1)) (by decide) (by decide) ?_
    show Steps p.tables e below (T6.setTop (mkF m 36 #[.val (.ref a), .val (.ref b), .val (.ref b)] [])) t
    refine XS.aloadN X6.here hx rfl (hb hby d5_36) rfl rfl ?_
    show Steps p.tables e below (T6.setTop (mkF m 37 #[.val (.ref a), .val (.ref b), .val (.ref b)] [(.ref a)])) t
    refine st7 _ ?_
    show Steps p.tables e below (T7.setTop (mkF m 40 #[.val (.ref a), .val (.ref b), .val (.ref b)] [(.int l1)])) t
    refine XS.aloadN X7.here hx rfl (hb hby d5_40) rfl rfl ?_
    show Steps p.tables e below (T7.setTop (mkF m 41 #[.val (.ref a), .val (.ref b), .val (.ref b)] [(.ref b), (.int l1)])) t
    refine st8 _ ?_
    show Steps p.tables e below (T8.setTop (mkF m 44 #[.val (.ref a), .val (.ref b), .val (.ref b)] [(.int l2), (.int l1)])) t
    refine XS.icmpYes X8.here hx rfl (pc0 := 44) (pc' := 63) rfl (hb hby d5_44) rfl (feq (hq2 : ¬ (l1 = l2))).2 (by decide) (by decide) ?_
    show Steps p.tables e below (T8.setTop (mkF m 63 #[.val (.ref a), .val (.ref b), .val (.ref b)] [])) t
    refine XS.iconst X8.here hx rfl (hb hby d5_63) ?_
    exact k
  obtain ⟨fs, hr, hrun, hended, hW, hsame⟩ := X8.leave (v := some (.int (0 : Int32))) (fun h => by rw [Bd.returns] at h; cases h)
  refine ⟨_, _, R9 _ ?_, hrun, hended, _, _, rfl, ?_, ⟨_, rfl⟩, hW, hsame.mono (by decide) (by decide)⟩
  · show Steps p.tables e below (T8.setTop (mkF m 64 #[.val (.ref a), .val (.ref b), .val (.ref b)] [(.int (0 : Int32))])) _
    exact retN X8 hx (t := .boolean) Bd.returns (by simp) (hb hby d5_64) hr
  · show Q_eq2 Z wL wF wE wcI ccI a b i1 i2 r1 r2 l1 l2 q1 q2 h0 n0 _ T8.heap _
    rw [e8]
    exact ⟨rfl, N0, rfl⟩
theorem d5_47 : decode prog_21_method_6_code 47 = .ok (.aload_n 0, 1) := by decide +kernel
theorem d5_48 : decode prog_21_method_6_code 48 = .ok (.getfield 29, 3) := by decide +kernel
theorem d5_51 : decode prog_21_method_6_code 51 = .ok (.aload_n 2, 1) := by decide +kernel
theorem d5_52 : decode prog_21_method_6_code 52 = .ok (.getfield 29, 3) := by decide +kernel
theorem d5_55 : decode prog_21_method_6_code 55 = .ok (.lcmp, 1) := by decide +kernel
theorem d5_56 : decode prog_21_method_6_code 56 = .ok (.ifCond .ne 7, 3) := by decide +kernel
theorem ef_eq3 (m : MethodId) (a : Addr) (b : Addr) (i1 : Int32) (i2 : Int32) (r1 : Addr) (r2 : Addr) (l1 : Int32) (l2 : Int32) (q1 : Int64) (q2 : Int64) : entryFrame m #[(.ref a), (.ref b)] 3 = mkF m 0 #[.val (.ref a), .val (.ref b), .unset] [] := by first | (simp [entryFrame, mkF, argsToLocals, Value.category]; done) | rfl
def Q_eq3 (Z : State) (wL : Addr) (wF : Addr) (wE : Addr) (wcI : Addr) (ccI : Cell) (a : Addr) (b : Addr) (i1 : Int32) (i2 : Int32) (r1 : Addr) (r2 : Addr) (l1 : Int32) (l2 : Int32) (q1 : Int64) (q2 : Int64) (h0 : Heap) (n0 : Nat) (vv_ : Option Value) (hh_ : Heap) (LL_ : List Loc) : Prop := vv_ = some (.int (0 : Int32)) ∧ (Fr n0 LL_) ∧ (hh_ = h0)
set_option maxRecDepth 65536 in
set_option maxHeartbeats 40000000 in
theorem eq3 (l : Launch) (Z : State) (a0 : Array Value) (hw : ∀ d ∈ tables_1, d.before a0 Z = true) (ws : List Jvm.Cond) (wL : Addr) (wF : Addr) (wE : Addr) (wcI : Addr) (ccI : Cell) (a : Addr) (b : Addr) (i1 : Int32) (i2 : Int32) (r1 : Addr) (r2 : Addr) (l1 : Int32) (l2 : Int32) (q1 : Int64) (q2 : Int64) (h0 : Heap) (n0 : Nat) (O0 : Old Z n0 h0) (S_wL : Sta Z Z.heap "com/example/ballot/ballot/model/Role" "LEADER" "Lcom/example/ballot/ballot/model/Role;" (.ref wL)) (S_wF : Sta Z Z.heap "com/example/ballot/ballot/model/Role" "FOLLOWER" "Lcom/example/ballot/ballot/model/Role;" (.ref wF)) (S_wE : Sta Z Z.heap "com/example/ballot/ballot/model/Role" "ELECTING" "Lcom/example/ballot/ballot/model/Role;" (.ref wE)) (E_wL : Exa Z Z.heap wL "com/example/ballot/ballot/model/Role") (E_wF : Exa Z Z.heap wF "com/example/ballot/ballot/model/Role") (E_wE : Exa Z Z.heap wE "com/example/ballot/ballot/model/Role") (nLF : wL ≠ wF) (nLE : wL ≠ wE) (nFE : wF ≠ wE) (S_cI : Sta Z Z.heap "java/lang/Integer$IntegerCache" "cache" "[Ljava/lang/Integer;" (.ref wcI)) (B_cI : Bxs Z wcI ccI "java/lang/Integer" "I" 256 (fun j => .int (j - 128))) (S_hi : Sta Z Z.heap "java/lang/Integer$IntegerCache" "high" "I" (.int (127 : Int32))) (Ea : Exa Z h0 a "com/example/ballot/ballot/model/Status") (Eb : Exa Z h0 b "com/example/ballot/ballot/model/Status") (Faid : Fld Z h0 a "com/example/ballot/ballot/model/Status" "id" "I" (.int i1)) (Farole : Fld Z h0 a "com/example/ballot/ballot/model/Status" "role" "Lcom/example/ballot/ballot/model/Role;" (.ref r1)) (Faleader : Fld Z h0 a "com/example/ballot/ballot/model/Status" "leader" "I" (.int l1)) (Faepoch : Fld Z h0 a "com/example/ballot/ballot/model/Status" "epoch" "J" (.long q1)) (Fbid : Fld Z h0 b "com/example/ballot/ballot/model/Status" "id" "I" (.int i2)) (Fbrole : Fld Z h0 b "com/example/ballot/ballot/model/Status" "role" "Lcom/example/ballot/ballot/model/Role;" (.ref r2)) (Fbleader : Fld Z h0 b "com/example/ballot/ballot/model/Status" "leader" "I" (.int l2)) (Fbepoch : Fld Z h0 b "com/example/ballot/ballot/model/Status" "epoch" "J" (.long q2)) (hq0 : i1 = i2) (hq1 : r1 = r2) (hq2 : l1 = l2) (hq3 : ¬ ((lcmpW q1 q2) = (0 : Int32))) :
    MetFree l (⟨"com/example/ballot/ballot/model/Status", "equals", "(Ljava/lang/Object;)Z"⟩ : MethodName) (head1 (Jvm.Cond.code (⟨"com/example/ballot/ballot/model/Status", "equals", "(Ljava/lang/Object;)Z"⟩ : MethodName) prog_21_method_6_code 3 (some .boolean) :: ws) ({ frames := 0, cells := 0, slots := 0, locals := 0 } : Room)) (fun aa_ U_ => aa_ = #[(.ref a), (.ref b)] ∧ Z.Warmed39 U_.vm ∧ U_.heap = h0) (fun _ _ _ _ _ => True) (fun _ U_ oo_ V_ => ∃ vv_ LL_, oo_ = .returned vv_ ∧ Q_eq3 Z wL wF wE wcI ccI a b i1 i2 r1 r2 l1 l2 q1 q2 h0 n0 vv_ V_.heap LL_ ∧ FrameEnd U_ oo_ V_ LL_ ({ frames := 0, cells := 0, slots := 0, locals := 0 } : Room).cells ({ frames := 0, cells := 0, slots := 0, locals := 0 } : Room).slots) := by
  refine MetFree.of_bodySF (plainFor_of_name pn_com_example_ballot_ballot_model_Status) hisR ?_
  intro p e s m args below meth c s₁ Bd hml0 hP hK
  obtain ⟨rfl, hZ, hh⟩ := hP
  have hx := Bd.exec
  have hby := Bd.bytes
  have hml : c.maxLocals = 3 := hml0
  have hown : s.vm.findClass "com/example/ballot/ballot/model/Status" = some m.cls := findClass_of_methodNamed Bd.named
  have hnm := (name_of_methodNamed Bd.named Bd.method).1
  have X0 : Stand p l e ({ frames := 0, cells := 0, slots := 0, locals := 0 } : Room) s m #[(.ref a), (.ref b)] below meth c s₁ [] 0 0 := Stand.of_body Bd
  have e0 : s₁.heap = h0 := by rw [← hh, Bd.state]; rfl
  have N0 := Fr.nil n0
  have Z0 : n0 ≤ h0.size := O0.1 ▸ O0.2.1
  have hk0 := Nat.zero_le h0.size
  have K0 : Keep h0 h0 [] := Keep.refl _ _
  have R0 : ∀ t, Steps p.tables e below (s₁.setTop (mkF m 0 #[.val (.ref a), .val (.ref b), .unset] [])) t → Steps p.tables e below (s₁.setTop (entryFrame m #[(.ref a), (.ref b)] 3)) t := fun t k => castTop (ef_eq3 m a b i1 i2 r1 r2 l1 l2 q1 q2) k
  obtain ⟨T1, X1, e1, st1⟩ := instY X0 hx hZ hown (hw _ (List.mem_of_getElem? (i := 43) rfl)) e0 (Ins.self Eb) (g := (mkF m 1 #[.val (.ref a), .val (.ref b), .unset] [(.ref b)])) rfl rfl (hb hby d5_1)
  obtain ⟨T2, X2, e2, st2⟩ := castY X1 hx hZ hown (hw _ (List.mem_of_getElem? (i := 43) rfl)) e1 (Ins.self Eb) (g := (mkF m 10 #[.val (.ref a), .val (.ref b), .unset] [(.ref b)])) rfl rfl (hb hby d5_10)
  obtain ⟨T3, X3, e3, st3⟩ := getF X2 hx hZ hown (host := "") (Or.inl (hw _ (List.mem_of_getElem? (i := 16) rfl))) Via.refl e2 Faid (g := (mkF m 15 #[.val (.ref a), .val (.ref b), .val (.ref b)] [(.ref a)])) rfl rfl (hb hby d5_15)
  obtain ⟨T4, X4, e4, st4⟩ := getF X3 hx hZ hown (host := "") (Or.inl (hw _ (List.mem_of_getElem? (i := 16) rfl))) Via.refl e3 Fbid (g := (mkF m 19 #[.val (.ref a), .val (.ref b), .val (.ref b)] [(.ref b), (.int i1)])) rfl rfl (hb hby d5_19)
  obtain ⟨T5, X5, e5, st5⟩ := getF X4 hx hZ hown (host := "") (Or.inl (hw _ (List.mem_of_getElem? (i := 32) rfl))) Via.refl e4 Farole (g := (mkF m 26 #[.val (.ref a), .val (.ref b), .val (.ref b)] [(.ref a)])) rfl rfl (hb hby d5_26)
  obtain ⟨T6, X6, e6, st6⟩ := getF X5 hx hZ hown (host := "") (Or.inl (hw _ (List.mem_of_getElem? (i := 32) rfl))) Via.refl e5 Fbrole (g := (mkF m 30 #[.val (.ref a), .val (.ref b), .val (.ref b)] [(.ref b), (.ref r1)])) rfl rfl (hb hby d5_30)
  obtain ⟨T7, X7, e7, st7⟩ := getF X6 hx hZ hown (host := "") (Or.inl (hw _ (List.mem_of_getElem? (i := 34) rfl))) Via.refl e6 Faleader (g := (mkF m 37 #[.val (.ref a), .val (.ref b), .val (.ref b)] [(.ref a)])) rfl rfl (hb hby d5_37)
  obtain ⟨T8, X8, e8, st8⟩ := getF X7 hx hZ hown (host := "") (Or.inl (hw _ (List.mem_of_getElem? (i := 34) rfl))) Via.refl e7 Fbleader (g := (mkF m 41 #[.val (.ref a), .val (.ref b), .val (.ref b)] [(.ref b), (.int l1)])) rfl rfl (hb hby d5_41)
  obtain ⟨T9, X9, e9, st9⟩ := getF X8 hx hZ hown (host := "") (Or.inl (hw _ (List.mem_of_getElem? (i := 36) rfl))) Via.refl e8 Faepoch (g := (mkF m 48 #[.val (.ref a), .val (.ref b), .val (.ref b)] [(.ref a)])) rfl rfl (hb hby d5_48)
  obtain ⟨T10, X10, e10, st10⟩ := getF X9 hx hZ hown (host := "") (Or.inl (hw _ (List.mem_of_getElem? (i := 36) rfl))) Via.refl e9 Fbepoch (g := (mkF m 52 #[.val (.ref a), .val (.ref b), .val (.ref b)] [(.ref b), (.long q1)])) rfl rfl (hb hby d5_52)
  have R11 : ∀ t, Steps p.tables e below (T10.setTop (mkF m 64 #[.val (.ref a), .val (.ref b), .val (.ref b)] [(.int (0 : Int32))])) t → Steps p.tables e below (s₁.setTop (entryFrame m #[(.ref a), (.ref b)] 3)) t := by
    intro t k
    refine R0 t ?_
    show Steps p.tables e below (s₁.setTop (mkF m 0 #[.val (.ref a), .val (.ref b), .unset] [])) t
    refine XS.aloadN X0.here hx rfl (hb hby d5_0) rfl rfl ?_
    show Steps p.tables e below (s₁.setTop (mkF m 1 #[.val (.ref a), .val (.ref b), .unset] [(.ref b)])) t
    refine st1 _ ?_
    show Steps p.tables e below (T1.setTop (mkF m 4 #[.val (.ref a), .val (.ref b), .unset] [(.int (1 : Int32))])) t
    refine XS.ifYes X1.here hx rfl (pc0 := 4) (pc' := 9) rfl (hb hby d5_4) rfl ((if0 _ _).trans (feq ((by decide) : ¬ ((1 : Int32) = (0 : Int32)))).2) (by decide) (by decide) ?_
    show Steps p.tables e below (T1.setTop (mkF m 9 #[.val (.ref a), .val (.ref b), .unset] [])) t
    refine XS.aloadN X1.here hx rfl (hb hby d5_9) rfl rfl ?_
    show Steps p.tables e below (T1.setTop (mkF m 10 #[.val (.ref a), .val (.ref b), .unset] [(.ref b)])) t
    refine st2 _ ?_
    show Steps p.tables e below (T2.setTop (mkF m 13 #[.val (.ref a), .val (.ref b), .unset] [(.ref b)])) t
    refine XS.astoreN X2.here hx rfl (hb hby d5_13) rfl rfl (l' := #[.val (.ref a), .val (.ref b), .val (.ref b)]) rfl ?_
    show Steps p.tables e below (T2.setTop (mkF m 14 #[.val (.ref a), .val (.ref b), .val (.ref b)] [])) t
    refine XS.aloadN X2.here hx rfl (hb hby d5_14) rfl rfl ?_
    show Steps p.tables e below (T2.setTop (mkF m 15 #[.val (.ref a), .val (.ref b), .val (.ref b)] [(.ref a)])) t
    refine st3 _ ?_
    show Steps p.tables e below (T3.setTop (mkF m 18 #[.val (.ref a), .val (.ref b), .val (.ref b)] [(.int i1)])) t
    refine XS.aloadN X3.here hx rfl (hb hby d5_18) rfl rfl ?_
    show Steps p.tables e below (T3.setTop (mkF m 19 #[.val (.ref a), .val (.ref b), .val (.ref b)] [(.ref b), (.int i1)])) t
    refine st4 _ ?_
    show Steps p.tables e below (T4.setTop (mkF m 22 #[.val (.ref a), .val (.ref b), .val (.ref b)] [(.int i2), (.int i1)])) t
    refine XS.icmpNo X4.here hx rfl (hb hby d5_22) rfl (teq (hq0 : i1 = i2)).2 ?_
    show Steps p.tables e below (T4.setTop (mkF m 25 #[.val (.ref a), .val (.ref b), .val (.ref b)] [])) t
    refine XS.aloadN X4.here hx rfl (hb hby d5_25) rfl rfl ?_
    show Steps p.tables e below (T4.setTop (mkF m 26 #[.val (.ref a), .val (.ref b), .val (.ref b)] [(.ref a)])) t
    refine st5 _ ?_
    show Steps p.tables e below (T5.setTop (mkF m 29 #[.val (.ref a), .val (.ref b), .val (.ref b)] [(.ref r1)])) t
    refine XS.aloadN X5.here hx rfl (hb hby d5_29) rfl rfl ?_
    show Steps p.tables e below (T5.setTop (mkF m 30 #[.val (.ref a), .val (.ref b), .val (.ref b)] [(.ref b), (.ref r1)])) t
    refine st6 _ ?_
    show Steps p.tables e below (T6.setTop (mkF m 33 #[.val (.ref a), .val (.ref b), .val (.ref b)] [(.ref r2), (.ref r1)])) t
    refine Jvm.RoadKit.acmp (g := (mkF m 33 #[.val (.ref a), .val (.ref b), .val (.ref b)] [(.ref r2), (.ref r1)])) X6 hx rfl rfl rfl (pc0 := 33) (pc' := 36) (same := true) rfl (hb hby d5_33) rfl (decide_eq_true (congrArg Value.ref hq1)) (by decide) (by decide) ?_
    show Steps p.tables e below (T6.setTop (mkF m 36 #[.val (.ref a), .val (.ref b), .val (.ref b)] [])) t
    refine XS.aloadN X6.here hx rfl (hb hby d5_36) rfl rfl ?_
    show Steps p.tables e below (T6.setTop (mkF m 37 #[.val (.ref a), .val (.ref b), .val (.ref b)] [(.ref a)])) t
    refine st7 _ ?_
    show Steps p.tables e below (T7.setTop (mkF m 40 #[.val (.ref a), .val (.ref b), .val (.ref b)] [(.int l1)])) t
    refine XS.aloadN X7.here hx rfl (hb hby d5_40) rfl rfl ?_
    show Steps p.tables e below (T7.setTop (mkF m 41 #[.val (.ref a), .val (.ref b), .val (.ref b)] [(.ref b), (.int l1)])) t
    refine st8 _ ?_
    show Steps p.tables e below (T8.setTop (mkF m 44 #[.val (.ref a), .val (.ref b), .val (.ref b)] [(.int l2), (.int l1)])) t
    refine XS.icmpNo X8.here hx rfl (hb hby d5_44) rfl (teq (hq2 : l1 = l2)).2 ?_
    show Steps p.tables e below (T8.setTop (mkF m 47 #[.val (.ref a), .val (.ref b), .val (.ref b)] [])) t
    refine XS.aloadN X8.here hx rfl (hb hby d5_47) rfl rfl ?_
    show Steps p.tables e below (T8.setTop (mkF m 48 #[.val (.ref a), .val (.ref b), .val (.ref b)] [(.ref a)])) t
    refine st9 _ ?_
    show Steps p.tables e below (T9.setTop (mkF m 51 #[.val (.ref a), .val (.ref b), .val (.ref b)] [(.long q1)])) t
    refine XS.aloadN X9.here hx rfl (hb hby d5_51) rfl rfl ?_
    show Steps p.tables e below (T9.setTop (mkF m 52 #[.val (.ref a), .val (.ref b), .val (.ref b)] [(.ref b), (.long q1)])) t
    refine st10 _ ?_
    show Steps p.tables e below (T10.setTop (mkF m 55 #[.val (.ref a), .val (.ref b), .val (.ref b)] [(.long q2), (.long q1)])) t
    refine XS.lcmp X10.here hx rfl (hb hby d5_55) rfl ?_
    show Steps p.tables e below (T10.setTop (mkF m 56 #[.val (.ref a), .val (.ref b), .val (.ref b)] [(.int (lcmpW q1 q2))])) t
    refine XS.ifYes X10.here hx rfl (pc0 := 56) (pc' := 63) rfl (hb hby d5_56) rfl ((if0 _ _).trans (feq (hq3 : ¬ ((lcmpW q1 q2) = (0 : Int32)))).2) (by decide) (by decide) ?_
    show Steps p.tables e below (T10.setTop (mkF m 63 #[.val (.ref a), .val (.ref b), .val (.ref b)] [])) t
    refine XS.iconst X10.here hx rfl (hb hby d5_63) ?_
    exact k
  obtain ⟨fs, hr, hrun, hended, hW, hsame⟩ := X10.leave (v := some (.int (0 : Int32))) (fun h => by rw [Bd.returns] at h; cases h)
  refine ⟨_, _, R11 _ ?_, hrun, hended, _, _, rfl, ?_, ⟨_, rfl⟩, hW, hsame.mono (by decide) (by decide)⟩
  · show Steps p.tables e below (T10.setTop (mkF m 64 #[.val (.ref a), .val (.ref b), .val (.ref b)] [(.int (0 : Int32))])) _
    exact retN X10 hx (t := .boolean) Bd.returns (by simp) (hb hby d5_64) hr
  · show Q_eq3 Z wL wF wE wcI ccI a b i1 i2 r1 r2 l1 l2 q1 q2 h0 n0 _ T10.heap _
    rw [e10]
    exact ⟨rfl, N0, rfl⟩
theorem d5_59 : decode prog_21_method_6_code 59 = .ok (.iconst 1, 1) := by decide +kernel
theorem d5_60 : decode prog_21_method_6_code 60 = .ok (.goto 4, 3) := by decide +kernel
theorem ef_eq4 (m : MethodId) (a : Addr) (b : Addr) (i1 : Int32) (i2 : Int32) (r1 : Addr) (r2 : Addr) (l1 : Int32) (l2 : Int32) (q1 : Int64) (q2 : Int64) : entryFrame m #[(.ref a), (.ref b)] 3 = mkF m 0 #[.val (.ref a), .val (.ref b), .unset] [] := by first | (simp [entryFrame, mkF, argsToLocals, Value.category]; done) | rfl
def Q_eq4 (Z : State) (wL : Addr) (wF : Addr) (wE : Addr) (wcI : Addr) (ccI : Cell) (a : Addr) (b : Addr) (i1 : Int32) (i2 : Int32) (r1 : Addr) (r2 : Addr) (l1 : Int32) (l2 : Int32) (q1 : Int64) (q2 : Int64) (h0 : Heap) (n0 : Nat) (vv_ : Option Value) (hh_ : Heap) (LL_ : List Loc) : Prop := vv_ = some (.int (1 : Int32)) ∧ (Fr n0 LL_) ∧ (hh_ = h0)
set_option maxRecDepth 65536 in
set_option maxHeartbeats 40000000 in
theorem eq4 (l : Launch) (Z : State) (a0 : Array Value) (hw : ∀ d ∈ tables_1, d.before a0 Z = true) (ws : List Jvm.Cond) (wL : Addr) (wF : Addr) (wE : Addr) (wcI : Addr) (ccI : Cell) (a : Addr) (b : Addr) (i1 : Int32) (i2 : Int32) (r1 : Addr) (r2 : Addr) (l1 : Int32) (l2 : Int32) (q1 : Int64) (q2 : Int64) (h0 : Heap) (n0 : Nat) (O0 : Old Z n0 h0) (S_wL : Sta Z Z.heap "com/example/ballot/ballot/model/Role" "LEADER" "Lcom/example/ballot/ballot/model/Role;" (.ref wL)) (S_wF : Sta Z Z.heap "com/example/ballot/ballot/model/Role" "FOLLOWER" "Lcom/example/ballot/ballot/model/Role;" (.ref wF)) (S_wE : Sta Z Z.heap "com/example/ballot/ballot/model/Role" "ELECTING" "Lcom/example/ballot/ballot/model/Role;" (.ref wE)) (E_wL : Exa Z Z.heap wL "com/example/ballot/ballot/model/Role") (E_wF : Exa Z Z.heap wF "com/example/ballot/ballot/model/Role") (E_wE : Exa Z Z.heap wE "com/example/ballot/ballot/model/Role") (nLF : wL ≠ wF) (nLE : wL ≠ wE) (nFE : wF ≠ wE) (S_cI : Sta Z Z.heap "java/lang/Integer$IntegerCache" "cache" "[Ljava/lang/Integer;" (.ref wcI)) (B_cI : Bxs Z wcI ccI "java/lang/Integer" "I" 256 (fun j => .int (j - 128))) (S_hi : Sta Z Z.heap "java/lang/Integer$IntegerCache" "high" "I" (.int (127 : Int32))) (Ea : Exa Z h0 a "com/example/ballot/ballot/model/Status") (Eb : Exa Z h0 b "com/example/ballot/ballot/model/Status") (Faid : Fld Z h0 a "com/example/ballot/ballot/model/Status" "id" "I" (.int i1)) (Farole : Fld Z h0 a "com/example/ballot/ballot/model/Status" "role" "Lcom/example/ballot/ballot/model/Role;" (.ref r1)) (Faleader : Fld Z h0 a "com/example/ballot/ballot/model/Status" "leader" "I" (.int l1)) (Faepoch : Fld Z h0 a "com/example/ballot/ballot/model/Status" "epoch" "J" (.long q1)) (Fbid : Fld Z h0 b "com/example/ballot/ballot/model/Status" "id" "I" (.int i2)) (Fbrole : Fld Z h0 b "com/example/ballot/ballot/model/Status" "role" "Lcom/example/ballot/ballot/model/Role;" (.ref r2)) (Fbleader : Fld Z h0 b "com/example/ballot/ballot/model/Status" "leader" "I" (.int l2)) (Fbepoch : Fld Z h0 b "com/example/ballot/ballot/model/Status" "epoch" "J" (.long q2)) (hq0 : i1 = i2) (hq1 : r1 = r2) (hq2 : l1 = l2) (hq3 : (lcmpW q1 q2) = (0 : Int32)) :
    MetFree l (⟨"com/example/ballot/ballot/model/Status", "equals", "(Ljava/lang/Object;)Z"⟩ : MethodName) (head1 (Jvm.Cond.code (⟨"com/example/ballot/ballot/model/Status", "equals", "(Ljava/lang/Object;)Z"⟩ : MethodName) prog_21_method_6_code 3 (some .boolean) :: ws) ({ frames := 0, cells := 0, slots := 0, locals := 0 } : Room)) (fun aa_ U_ => aa_ = #[(.ref a), (.ref b)] ∧ Z.Warmed39 U_.vm ∧ U_.heap = h0) (fun _ _ _ _ _ => True) (fun _ U_ oo_ V_ => ∃ vv_ LL_, oo_ = .returned vv_ ∧ Q_eq4 Z wL wF wE wcI ccI a b i1 i2 r1 r2 l1 l2 q1 q2 h0 n0 vv_ V_.heap LL_ ∧ FrameEnd U_ oo_ V_ LL_ ({ frames := 0, cells := 0, slots := 0, locals := 0 } : Room).cells ({ frames := 0, cells := 0, slots := 0, locals := 0 } : Room).slots) := by
  refine MetFree.of_bodySF (plainFor_of_name pn_com_example_ballot_ballot_model_Status) hisR ?_
  intro p e s m args below meth c s₁ Bd hml0 hP hK
  obtain ⟨rfl, hZ, hh⟩ := hP
  have hx := Bd.exec
  have hby := Bd.bytes
  have hml : c.maxLocals = 3 := hml0
  have hown : s.vm.findClass "com/example/ballot/ballot/model/Status" = some m.cls := findClass_of_methodNamed Bd.named
  have hnm := (name_of_methodNamed Bd.named Bd.method).1
  have X0 : Stand p l e ({ frames := 0, cells := 0, slots := 0, locals := 0 } : Room) s m #[(.ref a), (.ref b)] below meth c s₁ [] 0 0 := Stand.of_body Bd
  have e0 : s₁.heap = h0 := by rw [← hh, Bd.state]; rfl
  have N0 := Fr.nil n0
  have Z0 : n0 ≤ h0.size := O0.1 ▸ O0.2.1
  have hk0 := Nat.zero_le h0.size
  have K0 : Keep h0 h0 [] := Keep.refl _ _
  have R0 : ∀ t, Steps p.tables e below (s₁.setTop (mkF m 0 #[.val (.ref a), .val (.ref b), .unset] [])) t → Steps p.tables e below (s₁.setTop (entryFrame m #[(.ref a), (.ref b)] 3)) t := fun t k => castTop (ef_eq4 m a b i1 i2 r1 r2 l1 l2 q1 q2) k
  obtain ⟨T1, X1, e1, st1⟩ := instY X0 hx hZ hown (hw _ (List.mem_of_getElem? (i := 43) rfl)) e0 (Ins.self Eb) (g := (mkF m 1 #[.val (.ref a), .val (.ref b), .unset] [(.ref b)])) rfl rfl (hb hby d5_1)
  obtain ⟨T2, X2, e2, st2⟩ := castY X1 hx hZ hown (hw _ (List.mem_of_getElem? (i := 43) rfl)) e1 (Ins.self Eb) (g := (mkF m 10 #[.val (.ref a), .val (.ref b), .unset] [(.ref b)])) rfl rfl (hb hby d5_10)
  obtain ⟨T3, X3, e3, st3⟩ := getF X2 hx hZ hown (host := "") (Or.inl (hw _ (List.mem_of_getElem? (i := 16) rfl))) Via.refl e2 Faid (g := (mkF m 15 #[.val (.ref a), .val (.ref b), .val (.ref b)] [(.ref a)])) rfl rfl (hb hby d5_15)
  obtain ⟨T4, X4, e4, st4⟩ := getF X3 hx hZ hown (host := "") (Or.inl (hw _ (List.mem_of_getElem? (i := 16) rfl))) Via.refl e3 Fbid (g := (mkF m 19 #[.val (.ref a), .val (.ref b), .val (.ref b)] [(.ref b), (.int i1)])) rfl rfl (hb hby d5_19)
  obtain ⟨T5, X5, e5, st5⟩ := getF X4 hx hZ hown (host := "") (Or.inl (hw _ (List.mem_of_getElem? (i := 32) rfl))) Via.refl e4 Farole (g := (mkF m 26 #[.val (.ref a), .val (.ref b), .val (.ref b)] [(.ref a)])) rfl rfl (hb hby d5_26)
  obtain ⟨T6, X6, e6, st6⟩ := getF X5 hx hZ hown (host := "") (Or.inl (hw _ (List.mem_of_getElem? (i := 32) rfl))) Via.refl e5 Fbrole (g := (mkF m 30 #[.val (.ref a), .val (.ref b), .val (.ref b)] [(.ref b), (.ref r1)])) rfl rfl (hb hby d5_30)
  obtain ⟨T7, X7, e7, st7⟩ := getF X6 hx hZ hown (host := "") (Or.inl (hw _ (List.mem_of_getElem? (i := 34) rfl))) Via.refl e6 Faleader (g := (mkF m 37 #[.val (.ref a), .val (.ref b), .val (.ref b)] [(.ref a)])) rfl rfl (hb hby d5_37)
  obtain ⟨T8, X8, e8, st8⟩ := getF X7 hx hZ hown (host := "") (Or.inl (hw _ (List.mem_of_getElem? (i := 34) rfl))) Via.refl e7 Fbleader (g := (mkF m 41 #[.val (.ref a), .val (.ref b), .val (.ref b)] [(.ref b), (.int l1)])) rfl rfl (hb hby d5_41)
  obtain ⟨T9, X9, e9, st9⟩ := getF X8 hx hZ hown (host := "") (Or.inl (hw _ (List.mem_of_getElem? (i := 36) rfl))) Via.refl e8 Faepoch (g := (mkF m 48 #[.val (.ref a), .val (.ref b), .val (.ref b)] [(.ref a)])) rfl rfl (hb hby d5_48)
  obtain ⟨T10, X10, e10, st10⟩ := getF X9 hx hZ hown (host := "") (Or.inl (hw _ (List.mem_of_getElem? (i := 36) rfl))) Via.refl e9 Fbepoch (g := (mkF m 52 #[.val (.ref a), .val (.ref b), .val (.ref b)] [(.ref b), (.long q1)])) rfl rfl (hb hby d5_52)
  have R11 : ∀ t, Steps p.tables e below (T10.setTop (mkF m 64 #[.val (.ref a), .val (.ref b), .val (.ref b)] [(.int (1 : Int32))])) t → Steps p.tables e below (s₁.setTop (entryFrame m #[(.ref a), (.ref b)] 3)) t := by
    intro t k
    refine R0 t ?_
    show Steps p.tables e below (s₁.setTop (mkF m 0 #[.val (.ref a), .val (.ref b), .unset] [])) t
    refine XS.aloadN X0.here hx rfl (hb hby d5_0) rfl rfl ?_
    show Steps p.tables e below (s₁.setTop (mkF m 1 #[.val (.ref a), .val (.ref b), .unset] [(.ref b)])) t
    refine st1 _ ?_
    show Steps p.tables e below (T1.setTop (mkF m 4 #[.val (.ref a), .val (.ref b), .unset] [(.int (1 : Int32))])) t
    refine XS.ifYes X1.here hx rfl (pc0 := 4) (pc' := 9) rfl (hb hby d5_4) rfl ((if0 _ _).trans (feq ((by decide) : ¬ ((1 : Int32) = (0 : Int32)))).2) (by decide) (by decide) ?_
    show Steps p.tables e below (T1.setTop (mkF m 9 #[.val (.ref a), .val (.ref b), .unset] [])) t
    refine XS.aloadN X1.here hx rfl (hb hby d5_9) rfl rfl ?_
    show Steps p.tables e below (T1.setTop (mkF m 10 #[.val (.ref a), .val (.ref b), .unset] [(.ref b)])) t
    refine st2 _ ?_
    show Steps p.tables e below (T2.setTop (mkF m 13 #[.val (.ref a), .val (.ref b), .unset] [(.ref b)])) t
    refine XS.astoreN X2.here hx rfl (hb hby d5_13) rfl rfl (l' := #[.val (.ref a), .val (.ref b), .val (.ref b)]) rfl ?_
    show Steps p.tables e below (T2.setTop (mkF m 14 #[.val (.ref a), .val (.ref b), .val (.ref b)] [])) t
    refine XS.aloadN X2.here hx rfl (hb hby d5_14) rfl rfl ?_
    show Steps p.tables e below (T2.setTop (mkF m 15 #[.val (.ref a), .val (.ref b), .val (.ref b)] [(.ref a)])) t
    refine st3 _ ?_
    show Steps p.tables e below (T3.setTop (mkF m 18 #[.val (.ref a), .val (.ref b), .val (.ref b)] [(.int i1)])) t
    refine XS.aloadN X3.here hx rfl (hb hby d5_18) rfl rfl ?_
    show Steps p.tables e below (T3.setTop (mkF m 19 #[.val (.ref a), .val (.ref b), .val (.ref b)] [(.ref b), (.int i1)])) t
    refine st4 _ ?_
    show Steps p.tables e below (T4.setTop (mkF m 22 #[.val (.ref a), .val (.ref b), .val (.ref b)] [(.int i2), (.int i1)])) t
    refine XS.icmpNo X4.here hx rfl (hb hby d5_22) rfl (teq (hq0 : i1 = i2)).2 ?_
    show Steps p.tables e below (T4.setTop (mkF m 25 #[.val (.ref a), .val (.ref b), .val (.ref b)] [])) t
    refine XS.aloadN X4.here hx rfl (hb hby d5_25) rfl rfl ?_
    show Steps p.tables e below (T4.setTop (mkF m 26 #[.val (.ref a), .val (.ref b), .val (.ref b)] [(.ref a)])) t
    refine st5 _ ?_
    show Steps p.tables e below (T5.setTop (mkF m 29 #[.val (.ref a), .val (.ref b), .val (.ref b)] [(.ref r1)])) t
    refine XS.aloadN X5.here hx rfl (hb hby d5_29) rfl rfl ?_
    show Steps p.tables e below (T5.setTop (mkF m 30 #[.val (.ref a), .val (.ref b), .val (.ref b)] [(.ref b), (.ref r1)])) t
    refine st6 _ ?_
    show Steps p.tables e below (T6.setTop (mkF m 33 #[.val (.ref a), .val (.ref b), .val (.ref b)] [(.ref r2), (.ref r1)])) t
    refine Jvm.RoadKit.acmp (g := (mkF m 33 #[.val (.ref a), .val (.ref b), .val (.ref b)] [(.ref r2), (.ref r1)])) X6 hx rfl rfl rfl (pc0 := 33) (pc' := 36) (same := true) rfl (hb hby d5_33) rfl (decide_eq_true (congrArg Value.ref hq1)) (by decide) (by decide) ?_
    show Steps p.tables e below (T6.setTop (mkF m 36 #[.val (.ref a), .val (.ref b), .val (.ref b)] [])) t
    refine XS.aloadN X6.here hx rfl (hb hby d5_36) rfl rfl ?_
    show Steps p.tables e below (T6.setTop (mkF m 37 #[.val (.ref a), .val (.ref b), .val (.ref b)] [(.ref a)])) t
    refine st7 _ ?_
    show Steps p.tables e below (T7.setTop (mkF m 40 #[.val (.ref a), .val (.ref b), .val (.ref b)] [(.int l1)])) t
    refine XS.aloadN X7.here hx rfl (hb hby d5_40) rfl rfl ?_
    show Steps p.tables e below (T7.setTop (mkF m 41 #[.val (.ref a), .val (.ref b), .val (.ref b)] [(.ref b), (.int l1)])) t
    refine st8 _ ?_
    show Steps p.tables e below (T8.setTop (mkF m 44 #[.val (.ref a), .val (.ref b), .val (.ref b)] [(.int l2), (.int l1)])) t
    refine XS.icmpNo X8.here hx rfl (hb hby d5_44) rfl (teq (hq2 : l1 = l2)).2 ?_
    show Steps p.tables e below (T8.setTop (mkF m 47 #[.val (.ref a), .val (.ref b), .val (.ref b)] [])) t
    refine XS.aloadN X8.here hx rfl (hb hby d5_47) rfl rfl ?_
    show Steps p.tables e below (T8.setTop (mkF m 48 #[.val (.ref a), .val (.ref b), .val (.ref b)] [(.ref a)])) t
    refine st9 _ ?_
    show Steps p.tables e below (T9.setTop (mkF m 51 #[.val (.ref a), .val (.ref b), .val (.ref b)] [(.long q1)])) t
    refine XS.aloadN X9.here hx rfl (hb hby d5_51) rfl rfl ?_
    show Steps p.tables e below (T9.setTop (mkF m 52 #[.val (.ref a), .val (.ref b), .val (.ref b)] [(.ref b), (.long q1)])) t
    refine st10 _ ?_
    show Steps p.tables e below (T10.setTop (mkF m 55 #[.val (.ref a), .val (.ref b), .val (.ref b)] [(.long q2), (.long q1)])) t
    refine XS.lcmp X10.here hx rfl (hb hby d5_55) rfl ?_
    show Steps p.tables e below (T10.setTop (mkF m 56 #[.val (.ref a), .val (.ref b), .val (.ref b)] [(.int (lcmpW q1 q2))])) t
    refine XS.ifNo X10.here hx rfl (hb hby d5_56) rfl ((if0 _ _).trans (teq (hq3 : (lcmpW q1 q2) = (0 : Int32))).2) ?_
    show Steps p.tables e below (T10.setTop (mkF m 59 #[.val (.ref a), .val (.ref b), .val (.ref b)] [])) t
    refine XS.iconst X10.here hx rfl (hb hby d5_59) ?_
    show Steps p.tables e below (T10.setTop (mkF m 60 #[.val (.ref a), .val (.ref b), .val (.ref b)] [(.int (1 : Int32))])) t
    refine XS.goto X10.here hx rfl (pc0 := 60) (pc' := 64) rfl (hb hby d5_60) (by decide) (by decide) ?_
    exact k
  obtain ⟨fs, hr, hrun, hended, hW, hsame⟩ := X10.leave (v := some (.int (1 : Int32))) (fun h => by rw [Bd.returns] at h; cases h)
  refine ⟨_, _, R11 _ ?_, hrun, hended, _, _, rfl, ?_, ⟨_, rfl⟩, hW, hsame.mono (by decide) (by decide)⟩
  · show Steps p.tables e below (T10.setTop (mkF m 64 #[.val (.ref a), .val (.ref b), .val (.ref b)] [(.int (1 : Int32))])) _
    exact retN X10 hx (t := .boolean) Bd.returns (by simp) (hb hby d5_64) hr
  · show Q_eq4 Z wL wF wE wcI ccI a b i1 i2 r1 r2 l1 l2 q1 q2 h0 n0 _ T10.heap _
    rw [e10]
    exact ⟨rfl, N0, rfl⟩
theorem d5_7 : decode prog_21_method_6_code 7 = .ok (.iconst 0, 1) := by decide +kernel
theorem d5_8 : decode prog_21_method_6_code 8 = .ok (.ireturn, 1) := by decide +kernel
theorem ef_eqN (m : MethodId) (a : Addr) : entryFrame m #[(.ref a), .null] 3 = mkF m 0 #[.val (.ref a), .val .null, .unset] [] := by first | (simp [entryFrame, mkF, argsToLocals, Value.category]; done) | rfl
def Q_eqN (Z : State) (wL : Addr) (wF : Addr) (wE : Addr) (wcI : Addr) (ccI : Cell) (a : Addr) (h0 : Heap) (n0 : Nat) (vv_ : Option Value) (hh_ : Heap) (LL_ : List Loc) : Prop := vv_ = some (.int (0 : Int32)) ∧ (Fr n0 LL_) ∧ (hh_ = h0)
set_option maxRecDepth 65536 in
set_option maxHeartbeats 40000000 in
theorem eqN (l : Launch) (Z : State) (a0 : Array Value) (hw : ∀ d ∈ tables_1, d.before a0 Z = true) (ws : List Jvm.Cond) (wL : Addr) (wF : Addr) (wE : Addr) (wcI : Addr) (ccI : Cell) (a : Addr) (h0 : Heap) (n0 : Nat) (O0 : Old Z n0 h0) (S_wL : Sta Z Z.heap "com/example/ballot/ballot/model/Role" "LEADER" "Lcom/example/ballot/ballot/model/Role;" (.ref wL)) (S_wF : Sta Z Z.heap "com/example/ballot/ballot/model/Role" "FOLLOWER" "Lcom/example/ballot/ballot/model/Role;" (.ref wF)) (S_wE : Sta Z Z.heap "com/example/ballot/ballot/model/Role" "ELECTING" "Lcom/example/ballot/ballot/model/Role;" (.ref wE)) (E_wL : Exa Z Z.heap wL "com/example/ballot/ballot/model/Role") (E_wF : Exa Z Z.heap wF "com/example/ballot/ballot/model/Role") (E_wE : Exa Z Z.heap wE "com/example/ballot/ballot/model/Role") (nLF : wL ≠ wF) (nLE : wL ≠ wE) (nFE : wF ≠ wE) (S_cI : Sta Z Z.heap "java/lang/Integer$IntegerCache" "cache" "[Ljava/lang/Integer;" (.ref wcI)) (B_cI : Bxs Z wcI ccI "java/lang/Integer" "I" 256 (fun j => .int (j - 128))) (S_hi : Sta Z Z.heap "java/lang/Integer$IntegerCache" "high" "I" (.int (127 : Int32))) :
    MetFree l (⟨"com/example/ballot/ballot/model/Status", "equals", "(Ljava/lang/Object;)Z"⟩ : MethodName) (head1 (Jvm.Cond.code (⟨"com/example/ballot/ballot/model/Status", "equals", "(Ljava/lang/Object;)Z"⟩ : MethodName) prog_21_method_6_code 3 (some .boolean) :: ws) ({ frames := 0, cells := 0, slots := 0, locals := 0 } : Room)) (fun aa_ U_ => aa_ = #[(.ref a), .null] ∧ Z.Warmed39 U_.vm ∧ U_.heap = h0) (fun _ _ _ _ _ => True) (fun _ U_ oo_ V_ => ∃ vv_ LL_, oo_ = .returned vv_ ∧ Q_eqN Z wL wF wE wcI ccI a h0 n0 vv_ V_.heap LL_ ∧ FrameEnd U_ oo_ V_ LL_ ({ frames := 0, cells := 0, slots := 0, locals := 0 } : Room).cells ({ frames := 0, cells := 0, slots := 0, locals := 0 } : Room).slots) := by
  refine MetFree.of_bodySF (plainFor_of_name pn_com_example_ballot_ballot_model_Status) hisR ?_
  intro p e s m args below meth c s₁ Bd hml0 hP hK
  obtain ⟨rfl, hZ, hh⟩ := hP
  have hx := Bd.exec
  have hby := Bd.bytes
  have hml : c.maxLocals = 3 := hml0
  have hown : s.vm.findClass "com/example/ballot/ballot/model/Status" = some m.cls := findClass_of_methodNamed Bd.named
  have hnm := (name_of_methodNamed Bd.named Bd.method).1
  have X0 : Stand p l e ({ frames := 0, cells := 0, slots := 0, locals := 0 } : Room) s m #[(.ref a), .null] below meth c s₁ [] 0 0 := Stand.of_body Bd
  have e0 : s₁.heap = h0 := by rw [← hh, Bd.state]; rfl
  have N0 := Fr.nil n0
  have Z0 : n0 ≤ h0.size := O0.1 ▸ O0.2.1
  have hk0 := Nat.zero_le h0.size
  have K0 : Keep h0 h0 [] := Keep.refl _ _
  have R0 : ∀ t, Steps p.tables e below (s₁.setTop (mkF m 0 #[.val (.ref a), .val .null, .unset] [])) t → Steps p.tables e below (s₁.setTop (entryFrame m #[(.ref a), .null] 3)) t := fun t k => castTop (ef_eqN m a) k
  have R1 : ∀ t, Steps p.tables e below (s₁.setTop (mkF m 8 #[.val (.ref a), .val .null, .unset] [(.int (0 : Int32))])) t → Steps p.tables e below (s₁.setTop (entryFrame m #[(.ref a), .null] 3)) t := by
    intro t k
    refine R0 t ?_
    show Steps p.tables e below (s₁.setTop (mkF m 0 #[.val (.ref a), .val .null, .unset] [])) t
    refine XS.aloadN X0.here hx rfl (hb hby d5_0) rfl rfl ?_
    show Steps p.tables e below (s₁.setTop (mkF m 1 #[.val (.ref a), .val .null, .unset] [.null])) t
    refine X0.instanceofNull hx (g := (mkF m 1 #[.val (.ref a), .val .null, .unset] [.null])) rfl rfl (hb hby d5_1) _ ?_
    show Steps p.tables e below (s₁.setTop (mkF m 4 #[.val (.ref a), .val .null, .unset] [(.int (0 : Int32))])) t
    refine XS.ifNo X0.here hx rfl (hb hby d5_4) rfl ((if0 _ _).trans (teq ((by decide) : (0 : Int32) = (0 : Int32))).2) ?_
    show Steps p.tables e below (s₁.setTop (mkF m 7 #[.val (.ref a), .val .null, .unset] [])) t
    refine XS.iconst X0.here hx rfl (hb hby d5_7) ?_
    exact k
  obtain ⟨fs, hr, hrun, hended, hW, hsame⟩ := X0.leave (v := some (.int (0 : Int32))) (fun h => by rw [Bd.returns] at h; cases h)
  refine ⟨_, _, R1 _ ?_, hrun, hended, _, _, rfl, ?_, ⟨_, rfl⟩, hW, hsame.mono (by decide) (by decide)⟩
  · show Steps p.tables e below (s₁.setTop (mkF m 8 #[.val (.ref a), .val .null, .unset] [(.int (0 : Int32))])) _
    exact retN X0 hx (t := .boolean) Bd.returns (by simp) (hb hby d5_8) hr
  · show Q_eqN Z wL wF wE wcI ccI a h0 n0 _ s₁.heap _
    rw [e0]
    exact ⟨rfl, N0, rfl⟩
theorem ef_eqO (m : MethodId) (a : Addr) (b : Addr) : entryFrame m #[(.ref a), (.ref b)] 3 = mkF m 0 #[.val (.ref a), .val (.ref b), .unset] [] := by first | (simp [entryFrame, mkF, argsToLocals, Value.category]; done) | rfl
def Q_eqO (Z : State) (wL : Addr) (wF : Addr) (wE : Addr) (wcI : Addr) (ccI : Cell) (a : Addr) (b : Addr) (h0 : Heap) (n0 : Nat) (vv_ : Option Value) (hh_ : Heap) (LL_ : List Loc) : Prop := vv_ = some (.int (0 : Int32)) ∧ (Fr n0 LL_) ∧ (hh_ = h0)
set_option maxRecDepth 65536 in
set_option maxHeartbeats 40000000 in
theorem eqO (l : Launch) (Z : State) (a0 : Array Value) (hw : ∀ d ∈ tables_1, d.before a0 Z = true) (ws : List Jvm.Cond) (wL : Addr) (wF : Addr) (wE : Addr) (wcI : Addr) (ccI : Cell) (a : Addr) (b : Addr) (h0 : Heap) (n0 : Nat) (O0 : Old Z n0 h0) (S_wL : Sta Z Z.heap "com/example/ballot/ballot/model/Role" "LEADER" "Lcom/example/ballot/ballot/model/Role;" (.ref wL)) (S_wF : Sta Z Z.heap "com/example/ballot/ballot/model/Role" "FOLLOWER" "Lcom/example/ballot/ballot/model/Role;" (.ref wF)) (S_wE : Sta Z Z.heap "com/example/ballot/ballot/model/Role" "ELECTING" "Lcom/example/ballot/ballot/model/Role;" (.ref wE)) (E_wL : Exa Z Z.heap wL "com/example/ballot/ballot/model/Role") (E_wF : Exa Z Z.heap wF "com/example/ballot/ballot/model/Role") (E_wE : Exa Z Z.heap wE "com/example/ballot/ballot/model/Role") (nLF : wL ≠ wF) (nLE : wL ≠ wE) (nFE : wF ≠ wE) (S_cI : Sta Z Z.heap "java/lang/Integer$IntegerCache" "cache" "[Ljava/lang/Integer;" (.ref wcI)) (B_cI : Bxs Z wcI ccI "java/lang/Integer" "I" 256 (fun j => .int (j - 128))) (S_hi : Sta Z Z.heap "java/lang/Integer$IntegerCache" "high" "I" (.int (127 : Int32))) (Eb : Exa Z h0 b "java/lang/Integer") :
    MetFree l (⟨"com/example/ballot/ballot/model/Status", "equals", "(Ljava/lang/Object;)Z"⟩ : MethodName) (head1 (Jvm.Cond.code (⟨"com/example/ballot/ballot/model/Status", "equals", "(Ljava/lang/Object;)Z"⟩ : MethodName) prog_21_method_6_code 3 (some .boolean) :: ws) ({ frames := 0, cells := 0, slots := 0, locals := 0 } : Room)) (fun aa_ U_ => aa_ = #[(.ref a), (.ref b)] ∧ Z.Warmed39 U_.vm ∧ U_.heap = h0) (fun _ _ _ _ _ => True) (fun _ U_ oo_ V_ => ∃ vv_ LL_, oo_ = .returned vv_ ∧ Q_eqO Z wL wF wE wcI ccI a b h0 n0 vv_ V_.heap LL_ ∧ FrameEnd U_ oo_ V_ LL_ ({ frames := 0, cells := 0, slots := 0, locals := 0 } : Room).cells ({ frames := 0, cells := 0, slots := 0, locals := 0 } : Room).slots) := by
  refine MetFree.of_bodySF (plainFor_of_name pn_com_example_ballot_ballot_model_Status) hisR ?_
  intro p e s m args below meth c s₁ Bd hml0 hP hK
  obtain ⟨rfl, hZ, hh⟩ := hP
  have hx := Bd.exec
  have hby := Bd.bytes
  have hml : c.maxLocals = 3 := hml0
  have hown : s.vm.findClass "com/example/ballot/ballot/model/Status" = some m.cls := findClass_of_methodNamed Bd.named
  have hnm := (name_of_methodNamed Bd.named Bd.method).1
  have X0 : Stand p l e ({ frames := 0, cells := 0, slots := 0, locals := 0 } : Room) s m #[(.ref a), (.ref b)] below meth c s₁ [] 0 0 := Stand.of_body Bd
  have e0 : s₁.heap = h0 := by rw [← hh, Bd.state]; rfl
  have N0 := Fr.nil n0
  have Z0 : n0 ≤ h0.size := O0.1 ▸ O0.2.1
  have hk0 := Nat.zero_le h0.size
  have K0 : Keep h0 h0 [] := Keep.refl _ _
  have R0 : ∀ t, Steps p.tables e below (s₁.setTop (mkF m 0 #[.val (.ref a), .val (.ref b), .unset] [])) t → Steps p.tables e below (s₁.setTop (entryFrame m #[(.ref a), (.ref b)] 3)) t := fun t k => castTop (ef_eqO m a b) k
  obtain ⟨T1, X1, e1, st1⟩ := instNo X0 hx hZ hown (hw _ (List.mem_of_getElem? (i := 43) rfl)) e0 Eb (own_nsN (hw _ (List.mem_of_getElem? (i := 54) rfl)) (hw _ (List.mem_of_getElem? (i := 8) rfl)) (NS.step (hw _ (List.mem_of_getElem? (i := 54) rfl)) (NS.step (hw _ (List.mem_of_getElem? (i := 55) rfl)) (own_nsR (hw _ (List.mem_of_getElem? (i := 56) rfl)) (hw _ (List.mem_of_getElem? (i := 8) rfl)) (by decide)) (by decide)) (by decide)) (by decide)) (g := (mkF m 1 #[.val (.ref a), .val (.ref b), .unset] [(.ref b)])) rfl rfl (hb hby d5_1)
  have R2 : ∀ t, Steps p.tables e below (T1.setTop (mkF m 8 #[.val (.ref a), .val (.ref b), .unset] [(.int (0 : Int32))])) t → Steps p.tables e below (s₁.setTop (entryFrame m #[(.ref a), (.ref b)] 3)) t := by
    intro t k
    refine R0 t ?_
    show Steps p.tables e below (s₁.setTop (mkF m 0 #[.val (.ref a), .val (.ref b), .unset] [])) t
    refine XS.aloadN X0.here hx rfl (hb hby d5_0) rfl rfl ?_
    show Steps p.tables e below (s₁.setTop (mkF m 1 #[.val (.ref a), .val (.ref b), .unset] [(.ref b)])) t
    refine st1 _ ?_
    show Steps p.tables e below (T1.setTop (mkF m 4 #[.val (.ref a), .val (.ref b), .unset] [(.int (0 : Int32))])) t
    refine XS.ifNo X1.here hx rfl (hb hby d5_4) rfl ((if0 _ _).trans (teq ((by decide) : (0 : Int32) = (0 : Int32))).2) ?_
    show Steps p.tables e below (T1.setTop (mkF m 7 #[.val (.ref a), .val (.ref b), .unset] [])) t
    refine XS.iconst X1.here hx rfl (hb hby d5_7) ?_
    exact k
  obtain ⟨fs, hr, hrun, hended, hW, hsame⟩ := X1.leave (v := some (.int (0 : Int32))) (fun h => by rw [Bd.returns] at h; cases h)
  refine ⟨_, _, R2 _ ?_, hrun, hended, _, _, rfl, ?_, ⟨_, rfl⟩, hW, hsame.mono (by decide) (by decide)⟩
  · show Steps p.tables e below (T1.setTop (mkF m 8 #[.val (.ref a), .val (.ref b), .unset] [(.int (0 : Int32))])) _
    exact retN X1 hx (t := .boolean) Bd.returns (by simp) (hb hby d5_8) hr
  · show Q_eqO Z wL wF wE wcI ccI a b h0 n0 _ T1.heap _
    rw [e1]
    exact ⟨rfl, N0, rfl⟩
theorem pd_3 : parseMethodDescriptor "(I)Lcom/example/ballot/ballot/model/Role;" = some ⟨[.int], some (.object "com/example/ballot/ballot/model/Role")⟩ := by decide +kernel
theorem pd_4 : parseMethodDescriptor "(ILcom/example/ballot/ballot/model/Role;IJ)V" = some ⟨[.int, (.object "com/example/ballot/ballot/model/Role"), .int, .long], none⟩ := by decide +kernel
theorem pd_5 : parseMethodDescriptor "(Ljava/lang/Object;)Z" = some ⟨[(.object "java/lang/Object")], some .boolean⟩ := by decide +kernel
theorem pd_6 : parseMethodDescriptor "(I)Ljava/lang/Integer;" = some ⟨[.int], some (.object "java/lang/Integer")⟩ := by decide +kernel
theorem ef_rm0 (m : MethodId) (id1 : Int32) (ld1 : Int32) (ep1 : Int64) (ot : Int32) (oe : Int64) (sel : Int32) : entryFrame m #[(.int id1), (.int ld1), (.long ep1), (.int ot), (.long oe), (.int sel)] maxLocals = mkF m 0 #[.val (.int id1), .val (.int ld1), .val (.long ep1), .second, .val (.int ot), .val (.long oe), .second, .val (.int sel), .unset, .unset, .unset, .unset, .unset, .unset, .unset, .unset, .unset, .unset, .unset, .unset] [] := by first | (simp [entryFrame, mkF, argsToLocals, Value.category, maxLocals]; done) | rfl
def Q_rm0 (Z : State) (wL : Addr) (wF : Addr) (wE : Addr) (wcI : Addr) (ccI : Cell) (id1 : Int32) (ld1 : Int32) (ep1 : Int64) (ot : Int32) (oe : Int64) (sel : Int32) (h0 : Heap) (n0 : Nat) (vv_ : Option Value) (hh_ : Heap) (LL_ : List Loc) : Prop := vv_ = some (.int (1 : Int32)) ∧ (Fr n0 LL_)
set_option maxRecDepth 65536 in
set_option maxHeartbeats 40000000 in
theorem rm0 (l : Launch) (Z : State) (a0 : Array Value) (hw : ∀ d ∈ tables_1, d.before a0 Z = true) (ws : List Jvm.Cond) (wL : Addr) (wF : Addr) (wE : Addr) (wcI : Addr) (ccI : Cell) (id1 : Int32) (ld1 : Int32) (ep1 : Int64) (ot : Int32) (oe : Int64) (sel : Int32) (h0 : Heap) (n0 : Nat) (O0 : Old Z n0 h0) (S_wL : Sta Z Z.heap "com/example/ballot/ballot/model/Role" "LEADER" "Lcom/example/ballot/ballot/model/Role;" (.ref wL)) (S_wF : Sta Z Z.heap "com/example/ballot/ballot/model/Role" "FOLLOWER" "Lcom/example/ballot/ballot/model/Role;" (.ref wF)) (S_wE : Sta Z Z.heap "com/example/ballot/ballot/model/Role" "ELECTING" "Lcom/example/ballot/ballot/model/Role;" (.ref wE)) (E_wL : Exa Z Z.heap wL "com/example/ballot/ballot/model/Role") (E_wF : Exa Z Z.heap wF "com/example/ballot/ballot/model/Role") (E_wE : Exa Z Z.heap wE "com/example/ballot/ballot/model/Role") (nLF : wL ≠ wF) (nLE : wL ≠ wE) (nFE : wF ≠ wE) (S_cI : Sta Z Z.heap "java/lang/Integer$IntegerCache" "cache" "[Ljava/lang/Integer;" (.ref wcI)) (B_cI : Bxs Z wcI ccI "java/lang/Integer" "I" 256 (fun j => .int (j - 128))) (S_hi : Sta Z Z.heap "java/lang/Integer$IntegerCache" "high" "I" (.int (127 : Int32))) :
    MetFree l x (head1 (Jvm.Cond.code x code maxLocals ret :: ws) room_1) (fun aa_ U_ => aa_ = #[(.int id1), (.int ld1), (.long ep1), (.int ot), (.long oe), (.int sel)] ∧ Z.Warmed39 U_.vm ∧ U_.heap = h0) (fun _ _ _ _ _ => True) (fun _ U_ oo_ V_ => ∃ vv_ LL_, oo_ = .returned vv_ ∧ Q_rm0 Z wL wF wE wcI ccI id1 ld1 ep1 ot oe sel h0 n0 vv_ V_.heap LL_ ∧ ReturnedEndW U_ oo_ V_ LL_ room_1.cells room_1.slots) := by
  refine MetFree.of_bodySF (plainFor_of_name pn_com_example_ballot_ballot_model_StatusEqualsPinLaw) hisR ?_
  intro p e s m args below meth c s₁ Bd hml0 hP hK
  obtain ⟨rfl, hZ, hh⟩ := hP
  have hx := Bd.exec
  have hby := Bd.bytes
  have hml : c.maxLocals = 20 := hml0
  have hown : s.vm.findClass "com/example/ballot/ballot/model/StatusEqualsPinLaw" = some m.cls := findClass_of_methodNamed Bd.named
  have hnm := (name_of_methodNamed Bd.named Bd.method).1
  have hZ0 : Z.Warmed39 (s.setVm s.vm).vm := hZ
  have hown0 : (s.setVm s.vm).vm.findClass "com/example/ballot/ballot/model/StatusEqualsPinLaw" = some m.cls := hown
  have hS0 : s.Since s.vm 0 := ⟨State.Warmed39.refl s, fun j p h1 h2 => absurd (Array.getElem?_eq_some_iff.mp h2).1 (Nat.not_lt.mpr h1)⟩
  have X0 : Stand p l e room_1 (s.setVm s.vm) m #[(.int id1), (.int ld1), (.long ep1), (.int ot), (.long oe), (.int sel)] below meth c s₁ [] 0 0 := Stand.of_body Bd
  have e0 : s₁.heap = h0 := by rw [← hh, Bd.state]; rfl
  have N0 := Fr.nil n0
  have Z0 : n0 ≤ h0.size := O0.1 ▸ O0.2.1
  have hk0 := Nat.zero_le h0.size
  have K0 : Keep h0 h0 [] := Keep.refl _ _
  have R0 : ∀ t, Steps p.tables e below (s₁.setTop (mkF m 0 #[.val (.int id1), .val (.int ld1), .val (.long ep1), .second, .val (.int ot), .val (.long oe), .second, .val (.int sel), .unset, .unset, .unset, .unset, .unset, .unset, .unset, .unset, .unset, .unset, .unset, .unset] [])) t → Steps p.tables e below (s₁.setTop (entryFrame m #[(.int id1), (.int ld1), (.long ep1), (.int ot), (.long oe), (.int sel)] maxLocals)) t := fun t k => castTop (ef_rm0 m id1 ld1 ep1 ot oe sel) k
  have R1 : ∀ t, Steps p.tables e below (s₁.setTop (mkF m 4 #[.val (.int id1), .val (.int ld1), .val (.long ep1), .second, .val (.int ot), .val (.long oe), .second, .val (.int sel), .unset, .unset, .unset, .unset, .unset, .unset, .unset, .unset, .unset, .unset, .unset, .unset] [(.int (sel &&& (1 : Int32)))])) t → Steps p.tables e below (s₁.setTop (entryFrame m #[(.int id1), (.int ld1), (.long ep1), (.int ot), (.long oe), (.int sel)] maxLocals)) t := by
    intro t k
    refine R0 t ?_
    show Steps p.tables e below (s₁.setTop (mkF m 0 #[.val (.int id1), .val (.int ld1), .val (.long ep1), .second, .val (.int ot), .val (.long oe), .second, .val (.int sel), .unset, .unset, .unset, .unset, .unset, .unset, .unset, .unset, .unset, .unset, .unset, .unset] [])) t
    refine XS.iload X0.here hx rfl (hb hby at_0) rfl ?_
    show Steps p.tables e below (s₁.setTop (mkF m 2 #[.val (.int id1), .val (.int ld1), .val (.long ep1), .second, .val (.int ot), .val (.long oe), .second, .val (.int sel), .unset, .unset, .unset, .unset, .unset, .unset, .unset, .unset, .unset, .unset, .unset, .unset] [(.int sel)])) t
    refine XS.iconst X0.here hx rfl (hb hby at_2) ?_
    show Steps p.tables e below (s₁.setTop (mkF m 3 #[.val (.int id1), .val (.int ld1), .val (.long ep1), .second, .val (.int ot), .val (.long oe), .second, .val (.int sel), .unset, .unset, .unset, .unset, .unset, .unset, .unset, .unset, .unset, .unset, .unset, .unset] [(.int (1 : Int32)), (.int sel)])) t
    refine XS.iand X0.here hx rfl (hb hby at_3) rfl ?_
    exact k
  have R2 : ∀ t, Steps p.tables e below (s₁.setTop (mkF m 13 #[.val (.int id1), .val (.int ld1), .val (.long ep1), .second, .val (.int ot), .val (.long oe), .second, .val (.int sel), .unset, .unset, .unset, .unset, .unset, .unset, .unset, .unset, .unset, .unset, .unset, .unset] [(.int (if (sel &&& (1 : Int32)) = (0 : Int32) then id1 else ot))])) t → Steps p.tables e below (s₁.setTop (entryFrame m #[(.int id1), (.int ld1), (.long ep1), (.int ot), (.long oe), (.int sel)] maxLocals)) t := by
    by_cases hc_2 : (sel &&& (1 : Int32)) = (0 : Int32)
    · have R3 : ∀ t, Steps p.tables e below (s₁.setTop (mkF m 13 #[.val (.int id1), .val (.int ld1), .val (.long ep1), .second, .val (.int ot), .val (.long oe), .second, .val (.int sel), .unset, .unset, .unset, .unset, .unset, .unset, .unset, .unset, .unset, .unset, .unset, .unset] [(.int id1)])) t → Steps p.tables e below (s₁.setTop (entryFrame m #[(.int id1), (.int ld1), (.long ep1), (.int ot), (.long oe), (.int sel)] maxLocals)) t := by
        intro t k
        refine R1 t ?_
        show Steps p.tables e below (s₁.setTop (mkF m 4 #[.val (.int id1), .val (.int ld1), .val (.long ep1), .second, .val (.int ot), .val (.long oe), .second, .val (.int sel), .unset, .unset, .unset, .unset, .unset, .unset, .unset, .unset, .unset, .unset, .unset, .unset] [(.int (sel &&& (1 : Int32)))])) t
        refine XS.ifYes X0.here hx rfl (pc0 := 4) (pc' := 12) rfl (hb hby at_4) rfl ((if0 _ _).trans (teq (hc_2 : (sel &&& (1 : Int32)) = (0 : Int32))).1) (by decide) (by decide) ?_
        show Steps p.tables e below (s₁.setTop (mkF m 12 #[.val (.int id1), .val (.int ld1), .val (.long ep1), .second, .val (.int ot), .val (.long oe), .second, .val (.int sel), .unset, .unset, .unset, .unset, .unset, .unset, .unset, .unset, .unset, .unset, .unset, .unset] [])) t
        refine XS.iloadN X0.here hx rfl (hb hby at_12) rfl ?_
        exact k
      simp only [if_pos hc_2]
      exact R3
    · have R4 : ∀ t, Steps p.tables e below (s₁.setTop (mkF m 13 #[.val (.int id1), .val (.int ld1), .val (.long ep1), .second, .val (.int ot), .val (.long oe), .second, .val (.int sel), .unset, .unset, .unset, .unset, .unset, .unset, .unset, .unset, .unset, .unset, .unset, .unset] [(.int ot)])) t → Steps p.tables e below (s₁.setTop (entryFrame m #[(.int id1), (.int ld1), (.long ep1), (.int ot), (.long oe), (.int sel)] maxLocals)) t := by
        intro t k
        refine R1 t ?_
        show Steps p.tables e below (s₁.setTop (mkF m 4 #[.val (.int id1), .val (.int ld1), .val (.long ep1), .second, .val (.int ot), .val (.long oe), .second, .val (.int sel), .unset, .unset, .unset, .unset, .unset, .unset, .unset, .unset, .unset, .unset, .unset, .unset] [(.int (sel &&& (1 : Int32)))])) t
        refine XS.ifNo X0.here hx rfl (hb hby at_4) rfl ((if0 _ _).trans (feq (hc_2 : ¬ ((sel &&& (1 : Int32)) = (0 : Int32)))).1) ?_
        show Steps p.tables e below (s₁.setTop (mkF m 7 #[.val (.int id1), .val (.int ld1), .val (.long ep1), .second, .val (.int ot), .val (.long oe), .second, .val (.int sel), .unset, .unset, .unset, .unset, .unset, .unset, .unset, .unset, .unset, .unset, .unset, .unset] [])) t
        refine XS.iload X0.here hx rfl (hb hby at_7) rfl ?_
        show Steps p.tables e below (s₁.setTop (mkF m 9 #[.val (.int id1), .val (.int ld1), .val (.long ep1), .second, .val (.int ot), .val (.long oe), .second, .val (.int sel), .unset, .unset, .unset, .unset, .unset, .unset, .unset, .unset, .unset, .unset, .unset, .unset] [(.int ot)])) t
        refine XS.goto X0.here hx rfl (pc0 := 9) (pc' := 13) rfl (hb hby at_9) (by decide) (by decide) ?_
        exact k
      simp only [if_neg hc_2]
      exact R4
  obtain ⟨id2, h_id2⟩ : ∃ z, z = (if (sel &&& (1 : Int32)) = (0 : Int32) then id1 else ot) := ⟨_, rfl⟩
  rw [← h_id2] at R2
  have R5 : ∀ t, Steps p.tables e below (s₁.setTop (mkF m 19 #[.val (.int id1), .val (.int ld1), .val (.long ep1), .second, .val (.int ot), .val (.long oe), .second, .val (.int sel), .val (.int id2), .unset, .unset, .unset, .unset, .unset, .unset, .unset, .unset, .unset, .unset, .unset] [(.int (sel &&& (2 : Int32)))])) t → Steps p.tables e below (s₁.setTop (entryFrame m #[(.int id1), (.int ld1), (.long ep1), (.int ot), (.long oe), (.int sel)] maxLocals)) t := by
    intro t k
    refine R2 t ?_
    show Steps p.tables e below (s₁.setTop (mkF m 13 #[.val (.int id1), .val (.int ld1), .val (.long ep1), .second, .val (.int ot), .val (.long oe), .second, .val (.int sel), .unset, .unset, .unset, .unset, .unset, .unset, .unset, .unset, .unset, .unset, .unset, .unset] [(.int id2)])) t
    refine XS.istore X0.here hx rfl (hb hby at_13) rfl (l' := #[.val (.int id1), .val (.int ld1), .val (.long ep1), .second, .val (.int ot), .val (.long oe), .second, .val (.int sel), .val (.int id2), .unset, .unset, .unset, .unset, .unset, .unset, .unset, .unset, .unset, .unset, .unset]) rfl ?_
    show Steps p.tables e below (s₁.setTop (mkF m 15 #[.val (.int id1), .val (.int ld1), .val (.long ep1), .second, .val (.int ot), .val (.long oe), .second, .val (.int sel), .val (.int id2), .unset, .unset, .unset, .unset, .unset, .unset, .unset, .unset, .unset, .unset, .unset] [])) t
    refine XS.iload X0.here hx rfl (hb hby at_15) rfl ?_
    show Steps p.tables e below (s₁.setTop (mkF m 17 #[.val (.int id1), .val (.int ld1), .val (.long ep1), .second, .val (.int ot), .val (.long oe), .second, .val (.int sel), .val (.int id2), .unset, .unset, .unset, .unset, .unset, .unset, .unset, .unset, .unset, .unset, .unset] [(.int sel)])) t
    refine XS.iconst X0.here hx rfl (hb hby at_17) ?_
    show Steps p.tables e below (s₁.setTop (mkF m 18 #[.val (.int id1), .val (.int ld1), .val (.long ep1), .second, .val (.int ot), .val (.long oe), .second, .val (.int sel), .val (.int id2), .unset, .unset, .unset, .unset, .unset, .unset, .unset, .unset, .unset, .unset, .unset] [(.int (2 : Int32)), (.int sel)])) t
    refine XS.iand X0.here hx rfl (hb hby at_18) rfl ?_
    exact k
  have R6 : ∀ t, Steps p.tables e below (s₁.setTop (mkF m 28 #[.val (.int id1), .val (.int ld1), .val (.long ep1), .second, .val (.int ot), .val (.long oe), .second, .val (.int sel), .val (.int id2), .unset, .unset, .unset, .unset, .unset, .unset, .unset, .unset, .unset, .unset, .unset] [(.int (if (sel &&& (2 : Int32)) = (0 : Int32) then ld1 else ot))])) t → Steps p.tables e below (s₁.setTop (entryFrame m #[(.int id1), (.int ld1), (.long ep1), (.int ot), (.long oe), (.int sel)] maxLocals)) t := by
    by_cases hc_6 : (sel &&& (2 : Int32)) = (0 : Int32)
    · have R7 : ∀ t, Steps p.tables e below (s₁.setTop (mkF m 28 #[.val (.int id1), .val (.int ld1), .val (.long ep1), .second, .val (.int ot), .val (.long oe), .second, .val (.int sel), .val (.int id2), .unset, .unset, .unset, .unset, .unset, .unset, .unset, .unset, .unset, .unset, .unset] [(.int ld1)])) t → Steps p.tables e below (s₁.setTop (entryFrame m #[(.int id1), (.int ld1), (.long ep1), (.int ot), (.long oe), (.int sel)] maxLocals)) t := by
        intro t k
        refine R5 t ?_
        show Steps p.tables e below (s₁.setTop (mkF m 19 #[.val (.int id1), .val (.int ld1), .val (.long ep1), .second, .val (.int ot), .val (.long oe), .second, .val (.int sel), .val (.int id2), .unset, .unset, .unset, .unset, .unset, .unset, .unset, .unset, .unset, .unset, .unset] [(.int (sel &&& (2 : Int32)))])) t
        refine XS.ifYes X0.here hx rfl (pc0 := 19) (pc' := 27) rfl (hb hby at_19) rfl ((if0 _ _).trans (teq (hc_6 : (sel &&& (2 : Int32)) = (0 : Int32))).1) (by decide) (by decide) ?_
        show Steps p.tables e below (s₁.setTop (mkF m 27 #[.val (.int id1), .val (.int ld1), .val (.long ep1), .second, .val (.int ot), .val (.long oe), .second, .val (.int sel), .val (.int id2), .unset, .unset, .unset, .unset, .unset, .unset, .unset, .unset, .unset, .unset, .unset] [])) t
        refine XS.iloadN X0.here hx rfl (hb hby at_27) rfl ?_
        exact k
      simp only [if_pos hc_6]
      exact R7
    · have R8 : ∀ t, Steps p.tables e below (s₁.setTop (mkF m 28 #[.val (.int id1), .val (.int ld1), .val (.long ep1), .second, .val (.int ot), .val (.long oe), .second, .val (.int sel), .val (.int id2), .unset, .unset, .unset, .unset, .unset, .unset, .unset, .unset, .unset, .unset, .unset] [(.int ot)])) t → Steps p.tables e below (s₁.setTop (entryFrame m #[(.int id1), (.int ld1), (.long ep1), (.int ot), (.long oe), (.int sel)] maxLocals)) t := by
        intro t k
        refine R5 t ?_
        show Steps p.tables e below (s₁.setTop (mkF m 19 #[.val (.int id1), .val (.int ld1), .val (.long ep1), .second, .val (.int ot), .val (.long oe), .second, .val (.int sel), .val (.int id2), .unset, .unset, .unset, .unset, .unset, .unset, .unset, .unset, .unset, .unset, .unset] [(.int (sel &&& (2 : Int32)))])) t
        refine XS.ifNo X0.here hx rfl (hb hby at_19) rfl ((if0 _ _).trans (feq (hc_6 : ¬ ((sel &&& (2 : Int32)) = (0 : Int32)))).1) ?_
        show Steps p.tables e below (s₁.setTop (mkF m 22 #[.val (.int id1), .val (.int ld1), .val (.long ep1), .second, .val (.int ot), .val (.long oe), .second, .val (.int sel), .val (.int id2), .unset, .unset, .unset, .unset, .unset, .unset, .unset, .unset, .unset, .unset, .unset] [])) t
        refine XS.iload X0.here hx rfl (hb hby at_22) rfl ?_
        show Steps p.tables e below (s₁.setTop (mkF m 24 #[.val (.int id1), .val (.int ld1), .val (.long ep1), .second, .val (.int ot), .val (.long oe), .second, .val (.int sel), .val (.int id2), .unset, .unset, .unset, .unset, .unset, .unset, .unset, .unset, .unset, .unset, .unset] [(.int ot)])) t
        refine XS.goto X0.here hx rfl (pc0 := 24) (pc' := 28) rfl (hb hby at_24) (by decide) (by decide) ?_
        exact k
      simp only [if_neg hc_6]
      exact R8
  obtain ⟨ld2, h_ld2⟩ : ∃ z, z = (if (sel &&& (2 : Int32)) = (0 : Int32) then ld1 else ot) := ⟨_, rfl⟩
  rw [← h_ld2] at R6
  have R9 : ∀ t, Steps p.tables e below (s₁.setTop (mkF m 34 #[.val (.int id1), .val (.int ld1), .val (.long ep1), .second, .val (.int ot), .val (.long oe), .second, .val (.int sel), .val (.int id2), .val (.int ld2), .unset, .unset, .unset, .unset, .unset, .unset, .unset, .unset, .unset, .unset] [(.int (sel &&& (4 : Int32)))])) t → Steps p.tables e below (s₁.setTop (entryFrame m #[(.int id1), (.int ld1), (.long ep1), (.int ot), (.long oe), (.int sel)] maxLocals)) t := by
    intro t k
    refine R6 t ?_
    show Steps p.tables e below (s₁.setTop (mkF m 28 #[.val (.int id1), .val (.int ld1), .val (.long ep1), .second, .val (.int ot), .val (.long oe), .second, .val (.int sel), .val (.int id2), .unset, .unset, .unset, .unset, .unset, .unset, .unset, .unset, .unset, .unset, .unset] [(.int ld2)])) t
    refine XS.istore X0.here hx rfl (hb hby at_28) rfl (l' := #[.val (.int id1), .val (.int ld1), .val (.long ep1), .second, .val (.int ot), .val (.long oe), .second, .val (.int sel), .val (.int id2), .val (.int ld2), .unset, .unset, .unset, .unset, .unset, .unset, .unset, .unset, .unset, .unset]) rfl ?_
    show Steps p.tables e below (s₁.setTop (mkF m 30 #[.val (.int id1), .val (.int ld1), .val (.long ep1), .second, .val (.int ot), .val (.long oe), .second, .val (.int sel), .val (.int id2), .val (.int ld2), .unset, .unset, .unset, .unset, .unset, .unset, .unset, .unset, .unset, .unset] [])) t
    refine XS.iload X0.here hx rfl (hb hby at_30) rfl ?_
    show Steps p.tables e below (s₁.setTop (mkF m 32 #[.val (.int id1), .val (.int ld1), .val (.long ep1), .second, .val (.int ot), .val (.long oe), .second, .val (.int sel), .val (.int id2), .val (.int ld2), .unset, .unset, .unset, .unset, .unset, .unset, .unset, .unset, .unset, .unset] [(.int sel)])) t
    refine XS.iconst X0.here hx rfl (hb hby at_32) ?_
    show Steps p.tables e below (s₁.setTop (mkF m 33 #[.val (.int id1), .val (.int ld1), .val (.long ep1), .second, .val (.int ot), .val (.long oe), .second, .val (.int sel), .val (.int id2), .val (.int ld2), .unset, .unset, .unset, .unset, .unset, .unset, .unset, .unset, .unset, .unset] [(.int (4 : Int32)), (.int sel)])) t
    refine XS.iand X0.here hx rfl (hb hby at_33) rfl ?_
    exact k
  have R10 : ∀ t, Steps p.tables e below (s₁.setTop (mkF m 43 #[.val (.int id1), .val (.int ld1), .val (.long ep1), .second, .val (.int ot), .val (.long oe), .second, .val (.int sel), .val (.int id2), .val (.int ld2), .unset, .unset, .unset, .unset, .unset, .unset, .unset, .unset, .unset, .unset] [(.long (if (sel &&& (4 : Int32)) = (0 : Int32) then ep1 else oe))])) t → Steps p.tables e below (s₁.setTop (entryFrame m #[(.int id1), (.int ld1), (.long ep1), (.int ot), (.long oe), (.int sel)] maxLocals)) t := by
    by_cases hc_10 : (sel &&& (4 : Int32)) = (0 : Int32)
    · have R11 : ∀ t, Steps p.tables e below (s₁.setTop (mkF m 43 #[.val (.int id1), .val (.int ld1), .val (.long ep1), .second, .val (.int ot), .val (.long oe), .second, .val (.int sel), .val (.int id2), .val (.int ld2), .unset, .unset, .unset, .unset, .unset, .unset, .unset, .unset, .unset, .unset] [(.long ep1)])) t → Steps p.tables e below (s₁.setTop (entryFrame m #[(.int id1), (.int ld1), (.long ep1), (.int ot), (.long oe), (.int sel)] maxLocals)) t := by
        intro t k
        refine R9 t ?_
        show Steps p.tables e below (s₁.setTop (mkF m 34 #[.val (.int id1), .val (.int ld1), .val (.long ep1), .second, .val (.int ot), .val (.long oe), .second, .val (.int sel), .val (.int id2), .val (.int ld2), .unset, .unset, .unset, .unset, .unset, .unset, .unset, .unset, .unset, .unset] [(.int (sel &&& (4 : Int32)))])) t
        refine XS.ifYes X0.here hx rfl (pc0 := 34) (pc' := 42) rfl (hb hby at_34) rfl ((if0 _ _).trans (teq (hc_10 : (sel &&& (4 : Int32)) = (0 : Int32))).1) (by decide) (by decide) ?_
        show Steps p.tables e below (s₁.setTop (mkF m 42 #[.val (.int id1), .val (.int ld1), .val (.long ep1), .second, .val (.int ot), .val (.long oe), .second, .val (.int sel), .val (.int id2), .val (.int ld2), .unset, .unset, .unset, .unset, .unset, .unset, .unset, .unset, .unset, .unset] [])) t
        refine XS.lloadN X0.here hx rfl (hb hby at_42) rfl ?_
        exact k
      simp only [if_pos hc_10]
      exact R11
    · have R12 : ∀ t, Steps p.tables e below (s₁.setTop (mkF m 43 #[.val (.int id1), .val (.int ld1), .val (.long ep1), .second, .val (.int ot), .val (.long oe), .second, .val (.int sel), .val (.int id2), .val (.int ld2), .unset, .unset, .unset, .unset, .unset, .unset, .unset, .unset, .unset, .unset] [(.long oe)])) t → Steps p.tables e below (s₁.setTop (entryFrame m #[(.int id1), (.int ld1), (.long ep1), (.int ot), (.long oe), (.int sel)] maxLocals)) t := by
        intro t k
        refine R9 t ?_
        show Steps p.tables e below (s₁.setTop (mkF m 34 #[.val (.int id1), .val (.int ld1), .val (.long ep1), .second, .val (.int ot), .val (.long oe), .second, .val (.int sel), .val (.int id2), .val (.int ld2), .unset, .unset, .unset, .unset, .unset, .unset, .unset, .unset, .unset, .unset] [(.int (sel &&& (4 : Int32)))])) t
        refine XS.ifNo X0.here hx rfl (hb hby at_34) rfl ((if0 _ _).trans (feq (hc_10 : ¬ ((sel &&& (4 : Int32)) = (0 : Int32)))).1) ?_
        show Steps p.tables e below (s₁.setTop (mkF m 37 #[.val (.int id1), .val (.int ld1), .val (.long ep1), .second, .val (.int ot), .val (.long oe), .second, .val (.int sel), .val (.int id2), .val (.int ld2), .unset, .unset, .unset, .unset, .unset, .unset, .unset, .unset, .unset, .unset] [])) t
        refine XS.lload X0.here hx rfl (hb hby at_37) rfl ?_
        show Steps p.tables e below (s₁.setTop (mkF m 39 #[.val (.int id1), .val (.int ld1), .val (.long ep1), .second, .val (.int ot), .val (.long oe), .second, .val (.int sel), .val (.int id2), .val (.int ld2), .unset, .unset, .unset, .unset, .unset, .unset, .unset, .unset, .unset, .unset] [(.long oe)])) t
        refine XS.goto X0.here hx rfl (pc0 := 39) (pc' := 43) rfl (hb hby at_39) (by decide) (by decide) ?_
        exact k
      simp only [if_neg hc_10]
      exact R12
  obtain ⟨ep2, h_ep2⟩ : ∃ z, z = (if (sel &&& (4 : Int32)) = (0 : Int32) then ep1 else oe) := ⟨_, rfl⟩
  rw [← h_ep2] at R10
  have R13 : ∀ t, Steps p.tables e below (s₁.setTop (mkF m 63 #[.val (.int id1), .val (.int ld1), .val (.long ep1), .second, .val (.int ot), .val (.long oe), .second, .val (.int sel), .val (.int id2), .val (.int ld2), .val (.long ep2), .second, .val (.int (((sel.toUInt32 >>> ((3 : Int32) &&& 31).toUInt32).toInt32) &&& (3 : Int32))), .val (.int (((sel.toUInt32 >>> ((5 : Int32) &&& 31).toUInt32).toInt32) &&& (3 : Int32))), .unset, .unset, .unset, .unset, .unset, .unset] [(.int (((sel.toUInt32 >>> ((3 : Int32) &&& 31).toUInt32).toInt32) &&& (3 : Int32)))])) t → Steps p.tables e below (s₁.setTop (entryFrame m #[(.int id1), (.int ld1), (.long ep1), (.int ot), (.long oe), (.int sel)] maxLocals)) t := by
    intro t k
    refine R10 t ?_
    show Steps p.tables e below (s₁.setTop (mkF m 43 #[.val (.int id1), .val (.int ld1), .val (.long ep1), .second, .val (.int ot), .val (.long oe), .second, .val (.int sel), .val (.int id2), .val (.int ld2), .unset, .unset, .unset, .unset, .unset, .unset, .unset, .unset, .unset, .unset] [(.long ep2)])) t
    refine XS.lstore X0.here hx rfl (hb hby at_43) rfl (l' := #[.val (.int id1), .val (.int ld1), .val (.long ep1), .second, .val (.int ot), .val (.long oe), .second, .val (.int sel), .val (.int id2), .val (.int ld2), .val (.long ep2), .second, .unset, .unset, .unset, .unset, .unset, .unset, .unset, .unset]) rfl ?_
    show Steps p.tables e below (s₁.setTop (mkF m 45 #[.val (.int id1), .val (.int ld1), .val (.long ep1), .second, .val (.int ot), .val (.long oe), .second, .val (.int sel), .val (.int id2), .val (.int ld2), .val (.long ep2), .second, .unset, .unset, .unset, .unset, .unset, .unset, .unset, .unset] [])) t
    refine XS.iload X0.here hx rfl (hb hby at_45) rfl ?_
    show Steps p.tables e below (s₁.setTop (mkF m 47 #[.val (.int id1), .val (.int ld1), .val (.long ep1), .second, .val (.int ot), .val (.long oe), .second, .val (.int sel), .val (.int id2), .val (.int ld2), .val (.long ep2), .second, .unset, .unset, .unset, .unset, .unset, .unset, .unset, .unset] [(.int sel)])) t
    refine XS.iconst X0.here hx rfl (hb hby at_47) ?_
    show Steps p.tables e below (s₁.setTop (mkF m 48 #[.val (.int id1), .val (.int ld1), .val (.long ep1), .second, .val (.int ot), .val (.long oe), .second, .val (.int sel), .val (.int id2), .val (.int ld2), .val (.long ep2), .second, .unset, .unset, .unset, .unset, .unset, .unset, .unset, .unset] [(.int (3 : Int32)), (.int sel)])) t
    refine XS.iushr X0.here hx rfl (hb hby at_48) rfl ?_
    show Steps p.tables e below (s₁.setTop (mkF m 49 #[.val (.int id1), .val (.int ld1), .val (.long ep1), .second, .val (.int ot), .val (.long oe), .second, .val (.int sel), .val (.int id2), .val (.int ld2), .val (.long ep2), .second, .unset, .unset, .unset, .unset, .unset, .unset, .unset, .unset] [(.int ((sel.toUInt32 >>> ((3 : Int32) &&& 31).toUInt32).toInt32))])) t
    refine XS.iconst X0.here hx rfl (hb hby at_49) ?_
    show Steps p.tables e below (s₁.setTop (mkF m 50 #[.val (.int id1), .val (.int ld1), .val (.long ep1), .second, .val (.int ot), .val (.long oe), .second, .val (.int sel), .val (.int id2), .val (.int ld2), .val (.long ep2), .second, .unset, .unset, .unset, .unset, .unset, .unset, .unset, .unset] [(.int (3 : Int32)), (.int ((sel.toUInt32 >>> ((3 : Int32) &&& 31).toUInt32).toInt32))])) t
    refine XS.iand X0.here hx rfl (hb hby at_50) rfl ?_
    show Steps p.tables e below (s₁.setTop (mkF m 51 #[.val (.int id1), .val (.int ld1), .val (.long ep1), .second, .val (.int ot), .val (.long oe), .second, .val (.int sel), .val (.int id2), .val (.int ld2), .val (.long ep2), .second, .unset, .unset, .unset, .unset, .unset, .unset, .unset, .unset] [(.int (((sel.toUInt32 >>> ((3 : Int32) &&& 31).toUInt32).toInt32) &&& (3 : Int32)))])) t
    refine XS.istore X0.here hx rfl (hb hby at_51) rfl (l' := #[.val (.int id1), .val (.int ld1), .val (.long ep1), .second, .val (.int ot), .val (.long oe), .second, .val (.int sel), .val (.int id2), .val (.int ld2), .val (.long ep2), .second, .val (.int (((sel.toUInt32 >>> ((3 : Int32) &&& 31).toUInt32).toInt32) &&& (3 : Int32))), .unset, .unset, .unset, .unset, .unset, .unset, .unset]) rfl ?_
    show Steps p.tables e below (s₁.setTop (mkF m 53 #[.val (.int id1), .val (.int ld1), .val (.long ep1), .second, .val (.int ot), .val (.long oe), .second, .val (.int sel), .val (.int id2), .val (.int ld2), .val (.long ep2), .second, .val (.int (((sel.toUInt32 >>> ((3 : Int32) &&& 31).toUInt32).toInt32) &&& (3 : Int32))), .unset, .unset, .unset, .unset, .unset, .unset, .unset] [])) t
    refine XS.iload X0.here hx rfl (hb hby at_53) rfl ?_
    show Steps p.tables e below (s₁.setTop (mkF m 55 #[.val (.int id1), .val (.int ld1), .val (.long ep1), .second, .val (.int ot), .val (.long oe), .second, .val (.int sel), .val (.int id2), .val (.int ld2), .val (.long ep2), .second, .val (.int (((sel.toUInt32 >>> ((3 : Int32) &&& 31).toUInt32).toInt32) &&& (3 : Int32))), .unset, .unset, .unset, .unset, .unset, .unset, .unset] [(.int sel)])) t
    refine XS.iconst X0.here hx rfl (hb hby at_55) ?_
    show Steps p.tables e below (s₁.setTop (mkF m 56 #[.val (.int id1), .val (.int ld1), .val (.long ep1), .second, .val (.int ot), .val (.long oe), .second, .val (.int sel), .val (.int id2), .val (.int ld2), .val (.long ep2), .second, .val (.int (((sel.toUInt32 >>> ((3 : Int32) &&& 31).toUInt32).toInt32) &&& (3 : Int32))), .unset, .unset, .unset, .unset, .unset, .unset, .unset] [(.int (5 : Int32)), (.int sel)])) t
    refine XS.iushr X0.here hx rfl (hb hby at_56) rfl ?_
    show Steps p.tables e below (s₁.setTop (mkF m 57 #[.val (.int id1), .val (.int ld1), .val (.long ep1), .second, .val (.int ot), .val (.long oe), .second, .val (.int sel), .val (.int id2), .val (.int ld2), .val (.long ep2), .second, .val (.int (((sel.toUInt32 >>> ((3 : Int32) &&& 31).toUInt32).toInt32) &&& (3 : Int32))), .unset, .unset, .unset, .unset, .unset, .unset, .unset] [(.int ((sel.toUInt32 >>> ((5 : Int32) &&& 31).toUInt32).toInt32))])) t
    refine XS.iconst X0.here hx rfl (hb hby at_57) ?_
    show Steps p.tables e below (s₁.setTop (mkF m 58 #[.val (.int id1), .val (.int ld1), .val (.long ep1), .second, .val (.int ot), .val (.long oe), .second, .val (.int sel), .val (.int id2), .val (.int ld2), .val (.long ep2), .second, .val (.int (((sel.toUInt32 >>> ((3 : Int32) &&& 31).toUInt32).toInt32) &&& (3 : Int32))), .unset, .unset, .unset, .unset, .unset, .unset, .unset] [(.int (3 : Int32)), (.int ((sel.toUInt32 >>> ((5 : Int32) &&& 31).toUInt32).toInt32))])) t
    refine XS.iand X0.here hx rfl (hb hby at_58) rfl ?_
    show Steps p.tables e below (s₁.setTop (mkF m 59 #[.val (.int id1), .val (.int ld1), .val (.long ep1), .second, .val (.int ot), .val (.long oe), .second, .val (.int sel), .val (.int id2), .val (.int ld2), .val (.long ep2), .second, .val (.int (((sel.toUInt32 >>> ((3 : Int32) &&& 31).toUInt32).toInt32) &&& (3 : Int32))), .unset, .unset, .unset, .unset, .unset, .unset, .unset] [(.int (((sel.toUInt32 >>> ((5 : Int32) &&& 31).toUInt32).toInt32) &&& (3 : Int32)))])) t
    refine XS.istore X0.here hx rfl (hb hby at_59) rfl (l' := #[.val (.int id1), .val (.int ld1), .val (.long ep1), .second, .val (.int ot), .val (.long oe), .second, .val (.int sel), .val (.int id2), .val (.int ld2), .val (.long ep2), .second, .val (.int (((sel.toUInt32 >>> ((3 : Int32) &&& 31).toUInt32).toInt32) &&& (3 : Int32))), .val (.int (((sel.toUInt32 >>> ((5 : Int32) &&& 31).toUInt32).toInt32) &&& (3 : Int32))), .unset, .unset, .unset, .unset, .unset, .unset]) rfl ?_
    show Steps p.tables e below (s₁.setTop (mkF m 61 #[.val (.int id1), .val (.int ld1), .val (.long ep1), .second, .val (.int ot), .val (.long oe), .second, .val (.int sel), .val (.int id2), .val (.int ld2), .val (.long ep2), .second, .val (.int (((sel.toUInt32 >>> ((3 : Int32) &&& 31).toUInt32).toInt32) &&& (3 : Int32))), .val (.int (((sel.toUInt32 >>> ((5 : Int32) &&& 31).toUInt32).toInt32) &&& (3 : Int32))), .unset, .unset, .unset, .unset, .unset, .unset] [])) t
    refine XS.iload X0.here hx rfl (hb hby at_61) rfl ?_
    exact k
  obtain ⟨rr1, h_rr1⟩ : ∃ z, z = (((sel.toUInt32 >>> ((3 : Int32) &&& 31).toUInt32).toInt32) &&& (3 : Int32)) := ⟨_, rfl⟩
  have R14 := R13
  rw [← h_rr1] at R14
  obtain ⟨rr2, h_rr2⟩ : ∃ z, z = (((sel.toUInt32 >>> ((5 : Int32) &&& 31).toUInt32).toInt32) &&& (3 : Int32)) := ⟨_, rfl⟩
  have R15 := R14
  rw [← h_rr2] at R15
  obtain ⟨_, _, ⟨T16, L16, k16, n16⟩, -, X16, ⟨Lc16, hQ16, l16, y16, z16⟩, st16⟩ := Jvm.LawKit.callS X0 hx (y := (⟨"com/example/ballot/ballot/model/StatusEqualsPinLaw", "role", "(I)Lcom/example/ballot/ballot/model/Role;"⟩ : MethodName)) hown0 (mvT hZ0 (hw _ (List.mem_of_getElem? (i := 0) rfl))) (mvT hZ0 (hw _ (List.mem_of_getElem? (i := 1) rfl))) (mvT hZ0 (hw _ (List.mem_of_getElem? (i := 2) rfl))) (mvT hZ0 (hw _ (List.mem_of_getElem? (i := 3) rfl))) (by decide) (backOf (W := 0) (role l Z a0 hw [] wL wF wE wcI ccI rr1 h0 n0 O0 S_wL S_wF S_wE E_wL E_wF E_wE nLF nLE nFE S_cI B_cI S_hi   ) hZ0 (hw _ (List.mem_of_getElem? (i := 3) rfl)) (hw _ (List.mem_of_getElem? (i := 2) rfl)) (by decide) (by decide)) (g := (mkF m 63 #[.val (.int id1), .val (.int ld1), .val (.long ep1), .second, .val (.int ot), .val (.long oe), .second, .val (.int sel), .val (.int id2), .val (.int ld2), .val (.long ep2), .second, .val (.int rr1), .val (.int rr2), .unset, .unset, .unset, .unset, .unset, .unset] [(.int rr1)])) rfl (by rw [hml]; rfl) (argsL := [(.int rr1)]) (rest := []) (lenOf pd_3 rfl) rfl (by show 2 * 0 + _ ≤ _; exact Nat.le_of_eq rfl) (hb hby at_63) (fun _ _ => ⟨rfl, e0, (by decide : 0 + 0 ≤ _), (by decide : 0 + 0 ≤ _)⟩)
  dsimp only [Pt.U, Pt.locs, Pt.cells, Pt.slots] at X16 l16 y16 z16 st16 hQ16
  subst l16 y16 z16
  obtain ⟨w1, rfl, N16q, e16, y16_0, y16_1⟩ := hQ16
  have N16 := Fr.app N0 N16q
  rw [e16] at y16_1
  obtain ⟨_, _, ⟨T17, L17, k17, n17⟩, -, X17, ⟨Lc17, hQ17, l17, y17, z17⟩, st17⟩ := Jvm.LawKit.callS X16 hx (y := (⟨"com/example/ballot/ballot/model/StatusEqualsPinLaw", "role", "(I)Lcom/example/ballot/ballot/model/Role;"⟩ : MethodName)) hown0 (mvT hZ0 (hw _ (List.mem_of_getElem? (i := 0) rfl))) (mvT hZ0 (hw _ (List.mem_of_getElem? (i := 1) rfl))) (mvT hZ0 (hw _ (List.mem_of_getElem? (i := 2) rfl))) (mvT hZ0 (hw _ (List.mem_of_getElem? (i := 3) rfl))) (by decide) (backOf (W := 0) (role l Z a0 hw [] wL wF wE wcI ccI rr2 h0 n0 O0 S_wL S_wF S_wE E_wL E_wF E_wE nLF nLE nFE S_cI B_cI S_hi   ) hZ0 (hw _ (List.mem_of_getElem? (i := 3) rfl)) (hw _ (List.mem_of_getElem? (i := 2) rfl)) (by decide) (by decide)) (g := (mkF m 70 #[.val (.int id1), .val (.int ld1), .val (.long ep1), .second, .val (.int ot), .val (.long oe), .second, .val (.int sel), .val (.int id2), .val (.int ld2), .val (.long ep2), .second, .val (.int rr1), .val (.int rr2), .val (.ref w1), .unset, .unset, .unset, .unset, .unset] [(.int rr2)])) rfl (by rw [hml]; rfl) (argsL := [(.int rr2)]) (rest := []) (lenOf pd_3 rfl) rfl (by show 2 * 0 + _ ≤ _; exact Nat.le_of_eq rfl) (hb hby at_70) (fun _ _ => ⟨rfl, e16, (by decide : 0 + 0 ≤ _), (by decide : 0 + 0 ≤ _)⟩)
  dsimp only [Pt.U, Pt.locs, Pt.cells, Pt.slots] at X17 l17 y17 z17 st17 hQ17
  subst l17 y17 z17
  obtain ⟨w2, rfl, N17q, e17, y17_0, y17_1⟩ := hQ17
  have N17 := Fr.app N16 N17q
  rw [e17] at y17_1
  obtain ⟨T18, h18, X18, e18, E18, A18, D18, -, st18⟩ := newO X17 hx hZ0 hown0 (hw _ (List.mem_of_getElem? (i := 7) rfl)) (hw _ (List.mem_of_getElem? (i := 8) rfl)) (hw _ (List.mem_of_getElem? (i := 9) rfl)) e17 (g := (mkF m 75 #[.val (.int id1), .val (.int ld1), .val (.long ep1), .second, .val (.int ot), .val (.long oe), .second, .val (.int sel), .val (.int id2), .val (.int ld2), .val (.long ep2), .second, .val (.int rr1), .val (.int rr2), .val (.ref w1), .val (.ref w2), .unset, .unset, .unset, .unset] [])) rfl (hb hby at_75) (by decide) (by decide)
  obtain ⟨b18, gg18⟩ : ∃ z, z = h0.size := ⟨_, rfl⟩
  rw [← gg18] at A18 D18 st18
  have g_b18 : n0 ≤ b18 := Nat.le_trans Z0 (Nat.le_of_eq gg18.symm)
  have sz_b18 : h0.size ≤ b18 := Nat.le_trans K0.1 (Nat.le_of_eq gg18.symm)
  have Z18 : n0 ≤ h18.size := Nat.le_trans Z0 E18.1
  have K18 : Keep h0 h18 [] := K0.ext E18
  have O18 : Old Z n0 h18 := O0.ext E18
  have hk18 := Nat.le_trans hk0 E18.1
  have F18_id : Fld Z h18 b18 "com/example/ballot/ballot/model/Status" "id" "I" (.int (0 : Int32)) := D18 (Or.inr (hw _ (List.mem_of_getElem? (i := 17) rfl))) (ty := .int) (by decide)
  have F18_role : Fld Z h18 b18 "com/example/ballot/ballot/model/Status" "role" "Lcom/example/ballot/ballot/model/Role;" .null := D18 (Or.inr (hw _ (List.mem_of_getElem? (i := 33) rfl))) (ty := (.object "com/example/ballot/ballot/model/Role")) (by decide)
  have F18_leader : Fld Z h18 b18 "com/example/ballot/ballot/model/Status" "leader" "I" (.int (0 : Int32)) := D18 (Or.inr (hw _ (List.mem_of_getElem? (i := 35) rfl))) (ty := .int) (by decide)
  have F18_epoch : Fld Z h18 b18 "com/example/ballot/ballot/model/Status" "epoch" "J" (.long (0 : Int64)) := D18 (Or.inr (hw _ (List.mem_of_getElem? (i := 37) rfl))) (ty := .long) (by decide)
  have f20 : Exa Z h18 w1 "com/example/ballot/ballot/model/Role" := (y16_1.ext E18)
  obtain ⟨_, _, ⟨T19, L19, k19, n19⟩, -, X19q, hS19q, hg19q, ⟨Lc19, hQ19, l19, y19, z19⟩, st19⟩ := X18.specialBackS hx (y := (⟨"com/example/ballot/ballot/model/Status", "<init>", "(ILcom/example/ballot/ballot/model/Role;IJ)V"⟩ : MethodName)) rfl hown0 (mvT hZ0 (hw _ (List.mem_of_getElem? (i := 10) rfl))) (mvT hZ0 (hw _ (List.mem_of_getElem? (i := 11) rfl))) (mvT hZ0 (hw _ (List.mem_of_getElem? (i := 12) rfl))) (by decide) (backOfS (W := 1) (sinit l Z a0 hw [] wL wF wE wcI ccI b18 id1 w1 ld1 ep1 (.int (0 : Int32)) .null (.int (0 : Int32)) (.long (0 : Int64)) h18 n0 O18 S_wL S_wF S_wE E_wL E_wF E_wE nLF nLE nFE S_cI B_cI S_hi g_b18  A18 f20 F18_id F18_role F18_leader F18_epoch) hZ0 (hw _ (List.mem_of_getElem? (i := 12) rfl)) (hw _ (List.mem_of_getElem? (i := 9) rfl)) (by decide) (by decide)) (g := (mkF m 84 #[.val (.int id1), .val (.int ld1), .val (.long ep1), .second, .val (.int ot), .val (.long oe), .second, .val (.int sel), .val (.int id2), .val (.int ld2), .val (.long ep2), .second, .val (.int rr1), .val (.int rr2), .val (.ref w1), .val (.ref w2), .unset, .unset, .unset, .unset] [(.long ep1), (.int ld1), (.ref w1), (.int id1), (.ref b18), (.ref b18)])) rfl (by rw [hml]; rfl) (Steps.refl _) (a := b18) (argsL := [(.int id1), (.ref w1), (.int ld1), (.long ep1)]) (rest := [(.ref b18)]) (lenOf pd_4 rfl) rfl (by show 2 * 0 + _ ≤ _; exact Nat.le_of_eq rfl) (hb hby at_84) (fun _ _ => ⟨rfl, e18, (by decide : 1 + 2 ≤ _), (by decide : 4 + 20 ≤ _)⟩)
  dsimp only [Pt.U, Pt.locs, Pt.cells, Pt.slots] at X19q l19 y19 z19 st19 hQ19 hS19q hg19q
  subst l19 y19 z19
  obtain ⟨X19, hS19, hZ19, hown19⟩ := rebS hS0 (by rw [e18]; exact hk18) X19q hS19q hg19q hZ0 hown0
  have hk19 := Nat.le_refl T19.heap.size
  obtain ⟨rfl, N19q, K19q, y19_0, y19_1, y19_2, y19_3, y19_4⟩ := hQ19
  have N19 := Fr.app N17 N19q
  have Z19 : n0 ≤ T19.heap.size := Nat.le_trans Z18 K19q.1
  have K19 : Keep h0 T19.heap [] := K18.trans K19q (allS (Or.inr sz_b18) all0)
  have O19 : Old Z n0 T19.heap := O18.keep K19q (allS g_b18 all0)
  have R21 : ∀ t, Steps p.tables e below (T19.setTop (mkF m 100 #[.val (.int id1), .val (.int ld1), .val (.long ep1), .second, .val (.int ot), .val (.long oe), .second, .val (.int sel), .val (.int id2), .val (.int ld2), .val (.long ep2), .second, .val (.int rr1), .val (.int rr2), .val (.ref w1), .val (.ref w2), .val (.ref b18), .val (.int (((sel.toUInt32 >>> ((7 : Int32) &&& 31).toUInt32).toInt32) &&& (3 : Int32))), .unset, .unset] [(.int (((sel.toUInt32 >>> ((7 : Int32) &&& 31).toUInt32).toInt32) &&& (3 : Int32)))])) t → Steps p.tables e below (s₁.setTop (entryFrame m #[(.int id1), (.int ld1), (.long ep1), (.int ot), (.long oe), (.int sel)] maxLocals)) t := by
    intro t k
    refine R15 t ?_
    show Steps p.tables e below (s₁.setTop (mkF m 63 #[.val (.int id1), .val (.int ld1), .val (.long ep1), .second, .val (.int ot), .val (.long oe), .second, .val (.int sel), .val (.int id2), .val (.int ld2), .val (.long ep2), .second, .val (.int rr1), .val (.int rr2), .unset, .unset, .unset, .unset, .unset, .unset] [(.int rr1)])) t
    refine st16 _ ?_
    show Steps p.tables e below (T16.setTop (mkF m 66 #[.val (.int id1), .val (.int ld1), .val (.long ep1), .second, .val (.int ot), .val (.long oe), .second, .val (.int sel), .val (.int id2), .val (.int ld2), .val (.long ep2), .second, .val (.int rr1), .val (.int rr2), .unset, .unset, .unset, .unset, .unset, .unset] [(.ref w1)])) t
    refine XS.astore X16.here hx rfl (hb hby at_66) rfl rfl (l' := #[.val (.int id1), .val (.int ld1), .val (.long ep1), .second, .val (.int ot), .val (.long oe), .second, .val (.int sel), .val (.int id2), .val (.int ld2), .val (.long ep2), .second, .val (.int rr1), .val (.int rr2), .val (.ref w1), .unset, .unset, .unset, .unset, .unset]) rfl ?_
    show Steps p.tables e below (T16.setTop (mkF m 68 #[.val (.int id1), .val (.int ld1), .val (.long ep1), .second, .val (.int ot), .val (.long oe), .second, .val (.int sel), .val (.int id2), .val (.int ld2), .val (.long ep2), .second, .val (.int rr1), .val (.int rr2), .val (.ref w1), .unset, .unset, .unset, .unset, .unset] [])) t
    refine XS.iload X16.here hx rfl (hb hby at_68) rfl ?_
    show Steps p.tables e below (T16.setTop (mkF m 70 #[.val (.int id1), .val (.int ld1), .val (.long ep1), .second, .val (.int ot), .val (.long oe), .second, .val (.int sel), .val (.int id2), .val (.int ld2), .val (.long ep2), .second, .val (.int rr1), .val (.int rr2), .val (.ref w1), .unset, .unset, .unset, .unset, .unset] [(.int rr2)])) t
    refine st17 _ ?_
    show Steps p.tables e below (T17.setTop (mkF m 73 #[.val (.int id1), .val (.int ld1), .val (.long ep1), .second, .val (.int ot), .val (.long oe), .second, .val (.int sel), .val (.int id2), .val (.int ld2), .val (.long ep2), .second, .val (.int rr1), .val (.int rr2), .val (.ref w1), .unset, .unset, .unset, .unset, .unset] [(.ref w2)])) t
    refine XS.astore X17.here hx rfl (hb hby at_73) rfl rfl (l' := #[.val (.int id1), .val (.int ld1), .val (.long ep1), .second, .val (.int ot), .val (.long oe), .second, .val (.int sel), .val (.int id2), .val (.int ld2), .val (.long ep2), .second, .val (.int rr1), .val (.int rr2), .val (.ref w1), .val (.ref w2), .unset, .unset, .unset, .unset]) rfl ?_
    show Steps p.tables e below (T17.setTop (mkF m 75 #[.val (.int id1), .val (.int ld1), .val (.long ep1), .second, .val (.int ot), .val (.long oe), .second, .val (.int sel), .val (.int id2), .val (.int ld2), .val (.long ep2), .second, .val (.int rr1), .val (.int rr2), .val (.ref w1), .val (.ref w2), .unset, .unset, .unset, .unset] [])) t
    refine st18 _ ?_
    show Steps p.tables e below (T18.setTop (mkF m 78 #[.val (.int id1), .val (.int ld1), .val (.long ep1), .second, .val (.int ot), .val (.long oe), .second, .val (.int sel), .val (.int id2), .val (.int ld2), .val (.long ep2), .second, .val (.int rr1), .val (.int rr2), .val (.ref w1), .val (.ref w2), .unset, .unset, .unset, .unset] [(.ref b18)])) t
    refine XS.dup X18.here hx rfl (hb hby at_78) rfl rfl ?_
    show Steps p.tables e below (T18.setTop (mkF m 79 #[.val (.int id1), .val (.int ld1), .val (.long ep1), .second, .val (.int ot), .val (.long oe), .second, .val (.int sel), .val (.int id2), .val (.int ld2), .val (.long ep2), .second, .val (.int rr1), .val (.int rr2), .val (.ref w1), .val (.ref w2), .unset, .unset, .unset, .unset] [(.ref b18), (.ref b18)])) t
    refine XS.iloadN X18.here hx rfl (hb hby at_79) rfl ?_
    show Steps p.tables e below (T18.setTop (mkF m 80 #[.val (.int id1), .val (.int ld1), .val (.long ep1), .second, .val (.int ot), .val (.long oe), .second, .val (.int sel), .val (.int id2), .val (.int ld2), .val (.long ep2), .second, .val (.int rr1), .val (.int rr2), .val (.ref w1), .val (.ref w2), .unset, .unset, .unset, .unset] [(.int id1), (.ref b18), (.ref b18)])) t
    refine XS.aload X18.here hx rfl (hb hby at_80) rfl rfl ?_
    show Steps p.tables e below (T18.setTop (mkF m 82 #[.val (.int id1), .val (.int ld1), .val (.long ep1), .second, .val (.int ot), .val (.long oe), .second, .val (.int sel), .val (.int id2), .val (.int ld2), .val (.long ep2), .second, .val (.int rr1), .val (.int rr2), .val (.ref w1), .val (.ref w2), .unset, .unset, .unset, .unset] [(.ref w1), (.int id1), (.ref b18), (.ref b18)])) t
    refine XS.iloadN X18.here hx rfl (hb hby at_82) rfl ?_
    show Steps p.tables e below (T18.setTop (mkF m 83 #[.val (.int id1), .val (.int ld1), .val (.long ep1), .second, .val (.int ot), .val (.long oe), .second, .val (.int sel), .val (.int id2), .val (.int ld2), .val (.long ep2), .second, .val (.int rr1), .val (.int rr2), .val (.ref w1), .val (.ref w2), .unset, .unset, .unset, .unset] [(.int ld1), (.ref w1), (.int id1), (.ref b18), (.ref b18)])) t
    refine XS.lloadN X18.here hx rfl (hb hby at_83) rfl ?_
    show Steps p.tables e below (T18.setTop (mkF m 84 #[.val (.int id1), .val (.int ld1), .val (.long ep1), .second, .val (.int ot), .val (.long oe), .second, .val (.int sel), .val (.int id2), .val (.int ld2), .val (.long ep2), .second, .val (.int rr1), .val (.int rr2), .val (.ref w1), .val (.ref w2), .unset, .unset, .unset, .unset] [(.long ep1), (.int ld1), (.ref w1), (.int id1), (.ref b18), (.ref b18)])) t
    refine st19.trans ?_
    show Steps p.tables e below (T19.setTop (mkF m 87 #[.val (.int id1), .val (.int ld1), .val (.long ep1), .second, .val (.int ot), .val (.long oe), .second, .val (.int sel), .val (.int id2), .val (.int ld2), .val (.long ep2), .second, .val (.int rr1), .val (.int rr2), .val (.ref w1), .val (.ref w2), .unset, .unset, .unset, .unset] [(.ref b18)])) t
    refine XS.astore X19.here hx rfl (hb hby at_87) rfl rfl (l' := #[.val (.int id1), .val (.int ld1), .val (.long ep1), .second, .val (.int ot), .val (.long oe), .second, .val (.int sel), .val (.int id2), .val (.int ld2), .val (.long ep2), .second, .val (.int rr1), .val (.int rr2), .val (.ref w1), .val (.ref w2), .val (.ref b18), .unset, .unset, .unset]) rfl ?_
    show Steps p.tables e below (T19.setTop (mkF m 89 #[.val (.int id1), .val (.int ld1), .val (.long ep1), .second, .val (.int ot), .val (.long oe), .second, .val (.int sel), .val (.int id2), .val (.int ld2), .val (.long ep2), .second, .val (.int rr1), .val (.int rr2), .val (.ref w1), .val (.ref w2), .val (.ref b18), .unset, .unset, .unset] [])) t
    refine XS.iload X19.here hx rfl (hb hby at_89) rfl ?_
    show Steps p.tables e below (T19.setTop (mkF m 91 #[.val (.int id1), .val (.int ld1), .val (.long ep1), .second, .val (.int ot), .val (.long oe), .second, .val (.int sel), .val (.int id2), .val (.int ld2), .val (.long ep2), .second, .val (.int rr1), .val (.int rr2), .val (.ref w1), .val (.ref w2), .val (.ref b18), .unset, .unset, .unset] [(.int sel)])) t
    refine XS.bipush X19.here hx rfl (hb hby at_91) ?_
    show Steps p.tables e below (T19.setTop (mkF m 93 #[.val (.int id1), .val (.int ld1), .val (.long ep1), .second, .val (.int ot), .val (.long oe), .second, .val (.int sel), .val (.int id2), .val (.int ld2), .val (.long ep2), .second, .val (.int rr1), .val (.int rr2), .val (.ref w1), .val (.ref w2), .val (.ref b18), .unset, .unset, .unset] [(.int (7 : Int32)), (.int sel)])) t
    refine XS.iushr X19.here hx rfl (hb hby at_93) rfl ?_
    show Steps p.tables e below (T19.setTop (mkF m 94 #[.val (.int id1), .val (.int ld1), .val (.long ep1), .second, .val (.int ot), .val (.long oe), .second, .val (.int sel), .val (.int id2), .val (.int ld2), .val (.long ep2), .second, .val (.int rr1), .val (.int rr2), .val (.ref w1), .val (.ref w2), .val (.ref b18), .unset, .unset, .unset] [(.int ((sel.toUInt32 >>> ((7 : Int32) &&& 31).toUInt32).toInt32))])) t
    refine XS.iconst X19.here hx rfl (hb hby at_94) ?_
    show Steps p.tables e below (T19.setTop (mkF m 95 #[.val (.int id1), .val (.int ld1), .val (.long ep1), .second, .val (.int ot), .val (.long oe), .second, .val (.int sel), .val (.int id2), .val (.int ld2), .val (.long ep2), .second, .val (.int rr1), .val (.int rr2), .val (.ref w1), .val (.ref w2), .val (.ref b18), .unset, .unset, .unset] [(.int (3 : Int32)), (.int ((sel.toUInt32 >>> ((7 : Int32) &&& 31).toUInt32).toInt32))])) t
    refine XS.iand X19.here hx rfl (hb hby at_95) rfl ?_
    show Steps p.tables e below (T19.setTop (mkF m 96 #[.val (.int id1), .val (.int ld1), .val (.long ep1), .second, .val (.int ot), .val (.long oe), .second, .val (.int sel), .val (.int id2), .val (.int ld2), .val (.long ep2), .second, .val (.int rr1), .val (.int rr2), .val (.ref w1), .val (.ref w2), .val (.ref b18), .unset, .unset, .unset] [(.int (((sel.toUInt32 >>> ((7 : Int32) &&& 31).toUInt32).toInt32) &&& (3 : Int32)))])) t
    refine XS.istore X19.here hx rfl (hb hby at_96) rfl (l' := #[.val (.int id1), .val (.int ld1), .val (.long ep1), .second, .val (.int ot), .val (.long oe), .second, .val (.int sel), .val (.int id2), .val (.int ld2), .val (.long ep2), .second, .val (.int rr1), .val (.int rr2), .val (.ref w1), .val (.ref w2), .val (.ref b18), .val (.int (((sel.toUInt32 >>> ((7 : Int32) &&& 31).toUInt32).toInt32) &&& (3 : Int32))), .unset, .unset]) rfl ?_
    show Steps p.tables e below (T19.setTop (mkF m 98 #[.val (.int id1), .val (.int ld1), .val (.long ep1), .second, .val (.int ot), .val (.long oe), .second, .val (.int sel), .val (.int id2), .val (.int ld2), .val (.long ep2), .second, .val (.int rr1), .val (.int rr2), .val (.ref w1), .val (.ref w2), .val (.ref b18), .val (.int (((sel.toUInt32 >>> ((7 : Int32) &&& 31).toUInt32).toInt32) &&& (3 : Int32))), .unset, .unset] [])) t
    refine XS.iload X19.here hx rfl (hb hby at_98) rfl ?_
    exact k
  by_cases hk0 : (((sel.toUInt32 >>> ((7 : Int32) &&& 31).toUInt32).toInt32) &&& (3 : Int32)) = (0 : Int32)
  · obtain ⟨cq22, kq22, q22a, q22b, q22c⟩ := isOf hZ19 rfl y19_0
    obtain ⟨_, _, ⟨T22, L22, k22, n22⟩, -, X22, ⟨Lc22, hQ22, l22, y22, z22⟩, st22⟩ := X19.virtualBack hx (y := (⟨"com/example/ballot/ballot/model/Status", "equals", "(Ljava/lang/Object;)Z"⟩ : MethodName)) (z := (⟨"com/example/ballot/ballot/model/Status", "equals", "(Ljava/lang/Object;)Z"⟩ : MethodName)) hown19 (mvT hZ19 (hw _ (List.mem_of_getElem? (i := 38) rfl))) (mvT hZ19 (hw _ (List.mem_of_getElem? (i := 39) rfl))) (notFace_of_selects (args := #[]) (mvT hZ19 (hw _ (List.mem_of_getElem? (i := 41) rfl)))) (mvT hZ19 (hw _ (List.mem_of_getElem? (i := 41) rfl))) (mvT hZ19 (hw _ (List.mem_of_getElem? (i := 40) rfl))) (by decide) (backOf (W := 0) (eqN l Z a0 hw [] wL wF wE wcI ccI b18 T19.heap n0 O19 S_wL S_wF S_wE E_wL E_wF E_wE nLF nLE nFE S_cI B_cI S_hi   ) hZ19 (hw _ (List.mem_of_getElem? (i := 42) rfl)) (hw _ (List.mem_of_getElem? (i := 9) rfl)) (by decide) (by decide)) q22a q22c (g := (mkF m 106 #[.val (.int id1), .val (.int ld1), .val (.long ep1), .second, .val (.int ot), .val (.long oe), .second, .val (.int sel), .val (.int id2), .val (.int ld2), .val (.long ep2), .second, .val (.int rr1), .val (.int rr2), .val (.ref w1), .val (.ref w2), .val (.ref b18), .val (.int (((sel.toUInt32 >>> ((7 : Int32) &&& 31).toUInt32).toInt32) &&& (3 : Int32))), .unset, .unset] [.null, (.ref b18)])) rfl (by rw [hml]; rfl) (Steps.refl _) (argsL := [.null]) (rest := []) (lenOf pd_5 rfl) rfl (by show 2 * 0 + _ ≤ _; exact Nat.le_of_eq rfl) (hb hby at_106) (fun _ _ => ⟨rfl, rfl, (by decide : 3 + 0 ≤ _), (by decide : 24 + 0 ≤ _)⟩)
    dsimp only [Pt.U, Pt.locs, Pt.cells, Pt.slots] at X22 l22 y22 z22 st22 hQ22
    subst l22 y22 z22
    obtain ⟨rfl, N22q, e22⟩ := hQ22
    have N22 := Fr.app N19 N22q
    obtain ⟨cq23, kq23, q23a, q23b, q23c⟩ := isOf hZ19 e22 y19_0
    obtain ⟨_, _, ⟨T23, L23, k23, n23⟩, -, X23, ⟨Lc23, hQ23, l23, y23, z23⟩, st23⟩ := X22.virtualBack hx (y := (⟨"com/example/ballot/ballot/model/Status", "equals", "(Ljava/lang/Object;)Z"⟩ : MethodName)) (z := (⟨"com/example/ballot/ballot/model/Status", "equals", "(Ljava/lang/Object;)Z"⟩ : MethodName)) hown19 (mvT hZ19 (hw _ (List.mem_of_getElem? (i := 38) rfl))) (mvT hZ19 (hw _ (List.mem_of_getElem? (i := 39) rfl))) (notFace_of_selects (args := #[]) (mvT hZ19 (hw _ (List.mem_of_getElem? (i := 41) rfl)))) (mvT hZ19 (hw _ (List.mem_of_getElem? (i := 41) rfl))) (mvT hZ19 (hw _ (List.mem_of_getElem? (i := 40) rfl))) (by decide) (backOf (W := 0) (eq4 l Z a0 hw [] wL wF wE wcI ccI b18 b18 id1 id1 w1 w1 ld1 ld1 ep1 ep1 T19.heap n0 O19 S_wL S_wF S_wE E_wL E_wF E_wE nLF nLE nFE S_cI B_cI S_hi   y19_0 y19_0 y19_1 y19_2 y19_3 y19_4 y19_1 y19_2 y19_3 y19_4 rfl rfl rfl ((lw_eq _ _).2 rfl)) hZ19 (hw _ (List.mem_of_getElem? (i := 42) rfl)) (hw _ (List.mem_of_getElem? (i := 9) rfl)) (by decide) (by decide)) q23a q23c (g := (mkF m 116 #[.val (.int id1), .val (.int ld1), .val (.long ep1), .second, .val (.int ot), .val (.long oe), .second, .val (.int sel), .val (.int id2), .val (.int ld2), .val (.long ep2), .second, .val (.int rr1), .val (.int rr2), .val (.ref w1), .val (.ref w2), .val (.ref b18), .val (.int (((sel.toUInt32 >>> ((7 : Int32) &&& 31).toUInt32).toInt32) &&& (3 : Int32))), .unset, .unset] [(.ref b18), (.ref b18)])) rfl (by rw [hml]; rfl) (Steps.refl _) (argsL := [(.ref b18)]) (rest := []) (lenOf pd_5 rfl) rfl (by show 2 * 0 + _ ≤ _; exact Nat.le_of_eq rfl) (hb hby at_116) (fun _ _ => ⟨rfl, e22, (by decide : 3 + 0 ≤ _), (by decide : 24 + 0 ≤ _)⟩)
    dsimp only [Pt.U, Pt.locs, Pt.cells, Pt.slots] at X23 l23 y23 z23 st23 hQ23
    subst l23 y23 z23
    obtain ⟨rfl, N23q, e23⟩ := hQ23
    have N23 := Fr.app N22 N23q
    have R24 : ∀ t, Steps p.tables e below (T23.setTop (mkF m 127 #[.val (.int id1), .val (.int ld1), .val (.long ep1), .second, .val (.int ot), .val (.long oe), .second, .val (.int sel), .val (.int id2), .val (.int ld2), .val (.long ep2), .second, .val (.int rr1), .val (.int rr2), .val (.ref w1), .val (.ref w2), .val (.ref b18), .val (.int (((sel.toUInt32 >>> ((7 : Int32) &&& 31).toUInt32).toInt32) &&& (3 : Int32))), .unset, .unset] [(.int (1 : Int32))])) t → Steps p.tables e below (s₁.setTop (entryFrame m #[(.int id1), (.int ld1), (.long ep1), (.int ot), (.long oe), (.int sel)] maxLocals)) t := by
      intro t k
      refine R21 t ?_
      show Steps p.tables e below (T19.setTop (mkF m 100 #[.val (.int id1), .val (.int ld1), .val (.long ep1), .second, .val (.int ot), .val (.long oe), .second, .val (.int sel), .val (.int id2), .val (.int ld2), .val (.long ep2), .second, .val (.int rr1), .val (.int rr2), .val (.ref w1), .val (.ref w2), .val (.ref b18), .val (.int (((sel.toUInt32 >>> ((7 : Int32) &&& 31).toUInt32).toInt32) &&& (3 : Int32))), .unset, .unset] [(.int (((sel.toUInt32 >>> ((7 : Int32) &&& 31).toUInt32).toInt32) &&& (3 : Int32)))])) t
      refine XS.ifNo X19.here hx rfl (hb hby at_100) rfl ((if0 _ _).trans (teq (hk0 : (((sel.toUInt32 >>> ((7 : Int32) &&& 31).toUInt32).toInt32) &&& (3 : Int32)) = (0 : Int32))).2) ?_
      show Steps p.tables e below (T19.setTop (mkF m 103 #[.val (.int id1), .val (.int ld1), .val (.long ep1), .second, .val (.int ot), .val (.long oe), .second, .val (.int sel), .val (.int id2), .val (.int ld2), .val (.long ep2), .second, .val (.int rr1), .val (.int rr2), .val (.ref w1), .val (.ref w2), .val (.ref b18), .val (.int (((sel.toUInt32 >>> ((7 : Int32) &&& 31).toUInt32).toInt32) &&& (3 : Int32))), .unset, .unset] [])) t
      refine XS.aload X19.here hx rfl (hb hby at_103) rfl rfl ?_
      show Steps p.tables e below (T19.setTop (mkF m 105 #[.val (.int id1), .val (.int ld1), .val (.long ep1), .second, .val (.int ot), .val (.long oe), .second, .val (.int sel), .val (.int id2), .val (.int ld2), .val (.long ep2), .second, .val (.int rr1), .val (.int rr2), .val (.ref w1), .val (.ref w2), .val (.ref b18), .val (.int (((sel.toUInt32 >>> ((7 : Int32) &&& 31).toUInt32).toInt32) &&& (3 : Int32))), .unset, .unset] [(.ref b18)])) t
      refine XS.aconstNull X19.here hx rfl (hb hby at_105) ?_
      show Steps p.tables e below (T19.setTop (mkF m 106 #[.val (.int id1), .val (.int ld1), .val (.long ep1), .second, .val (.int ot), .val (.long oe), .second, .val (.int sel), .val (.int id2), .val (.int ld2), .val (.long ep2), .second, .val (.int rr1), .val (.int rr2), .val (.ref w1), .val (.ref w2), .val (.ref b18), .val (.int (((sel.toUInt32 >>> ((7 : Int32) &&& 31).toUInt32).toInt32) &&& (3 : Int32))), .unset, .unset] [.null, (.ref b18)])) t
      refine st22.trans ?_
      show Steps p.tables e below (T22.setTop (mkF m 109 #[.val (.int id1), .val (.int ld1), .val (.long ep1), .second, .val (.int ot), .val (.long oe), .second, .val (.int sel), .val (.int id2), .val (.int ld2), .val (.long ep2), .second, .val (.int rr1), .val (.int rr2), .val (.ref w1), .val (.ref w2), .val (.ref b18), .val (.int (((sel.toUInt32 >>> ((7 : Int32) &&& 31).toUInt32).toInt32) &&& (3 : Int32))), .unset, .unset] [(.int (0 : Int32))])) t
      refine XS.ifNo X22.here hx rfl (hb hby at_109) rfl ((if0 _ _).trans (teq ((by decide) : (0 : Int32) = (0 : Int32))).2) ?_
      show Steps p.tables e below (T22.setTop (mkF m 112 #[.val (.int id1), .val (.int ld1), .val (.long ep1), .second, .val (.int ot), .val (.long oe), .second, .val (.int sel), .val (.int id2), .val (.int ld2), .val (.long ep2), .second, .val (.int rr1), .val (.int rr2), .val (.ref w1), .val (.ref w2), .val (.ref b18), .val (.int (((sel.toUInt32 >>> ((7 : Int32) &&& 31).toUInt32).toInt32) &&& (3 : Int32))), .unset, .unset] [])) t
      refine XS.aload X22.here hx rfl (hb hby at_112) rfl rfl ?_
      show Steps p.tables e below (T22.setTop (mkF m 114 #[.val (.int id1), .val (.int ld1), .val (.long ep1), .second, .val (.int ot), .val (.long oe), .second, .val (.int sel), .val (.int id2), .val (.int ld2), .val (.long ep2), .second, .val (.int rr1), .val (.int rr2), .val (.ref w1), .val (.ref w2), .val (.ref b18), .val (.int (((sel.toUInt32 >>> ((7 : Int32) &&& 31).toUInt32).toInt32) &&& (3 : Int32))), .unset, .unset] [(.ref b18)])) t
      refine XS.aload X22.here hx rfl (hb hby at_114) rfl rfl ?_
      show Steps p.tables e below (T22.setTop (mkF m 116 #[.val (.int id1), .val (.int ld1), .val (.long ep1), .second, .val (.int ot), .val (.long oe), .second, .val (.int sel), .val (.int id2), .val (.int ld2), .val (.long ep2), .second, .val (.int rr1), .val (.int rr2), .val (.ref w1), .val (.ref w2), .val (.ref b18), .val (.int (((sel.toUInt32 >>> ((7 : Int32) &&& 31).toUInt32).toInt32) &&& (3 : Int32))), .unset, .unset] [(.ref b18), (.ref b18)])) t
      refine st23.trans ?_
      show Steps p.tables e below (T23.setTop (mkF m 119 #[.val (.int id1), .val (.int ld1), .val (.long ep1), .second, .val (.int ot), .val (.long oe), .second, .val (.int sel), .val (.int id2), .val (.int ld2), .val (.long ep2), .second, .val (.int rr1), .val (.int rr2), .val (.ref w1), .val (.ref w2), .val (.ref b18), .val (.int (((sel.toUInt32 >>> ((7 : Int32) &&& 31).toUInt32).toInt32) &&& (3 : Int32))), .unset, .unset] [(.int (1 : Int32))])) t
      refine XS.ifNo X23.here hx rfl (hb hby at_119) rfl ((if0 _ _).trans (feq ((by decide) : ¬ ((1 : Int32) = (0 : Int32)))).1) ?_
      show Steps p.tables e below (T23.setTop (mkF m 122 #[.val (.int id1), .val (.int ld1), .val (.long ep1), .second, .val (.int ot), .val (.long oe), .second, .val (.int sel), .val (.int id2), .val (.int ld2), .val (.long ep2), .second, .val (.int rr1), .val (.int rr2), .val (.ref w1), .val (.ref w2), .val (.ref b18), .val (.int (((sel.toUInt32 >>> ((7 : Int32) &&& 31).toUInt32).toInt32) &&& (3 : Int32))), .unset, .unset] [])) t
      refine XS.iconst X23.here hx rfl (hb hby at_122) ?_
      show Steps p.tables e below (T23.setTop (mkF m 123 #[.val (.int id1), .val (.int ld1), .val (.long ep1), .second, .val (.int ot), .val (.long oe), .second, .val (.int sel), .val (.int id2), .val (.int ld2), .val (.long ep2), .second, .val (.int rr1), .val (.int rr2), .val (.ref w1), .val (.ref w2), .val (.ref b18), .val (.int (((sel.toUInt32 >>> ((7 : Int32) &&& 31).toUInt32).toInt32) &&& (3 : Int32))), .unset, .unset] [(.int (1 : Int32))])) t
      refine XS.goto X23.here hx rfl (pc0 := 123) (pc' := 127) rfl (hb hby at_123) (by decide) (by decide) ?_
      exact k
    obtain ⟨fs, hr, hrun, hended, hRW⟩ := X23.leaveW hS19 (by rw [e23]; exact hk19) (v := some (.int (1 : Int32))) (fun h => by rw [Bd.returns] at h; cases h)
    refine ⟨_, _, R24 _ ?_, hrun, hended, _, _, rfl, ?_, hRW.1, hRW.2.1, hRW.2.2.1, hRW.2.2.2.mono (by decide) (by decide)⟩
    · show Steps p.tables e below (T23.setTop (mkF m 127 #[.val (.int id1), .val (.int ld1), .val (.long ep1), .second, .val (.int ot), .val (.long oe), .second, .val (.int sel), .val (.int id2), .val (.int ld2), .val (.long ep2), .second, .val (.int rr1), .val (.int rr2), .val (.ref w1), .val (.ref w2), .val (.ref b18), .val (.int (((sel.toUInt32 >>> ((7 : Int32) &&& 31).toUInt32).toInt32) &&& (3 : Int32))), .unset, .unset] [(.int (1 : Int32))])) _
      exact retN X23 hx (t := .boolean) Bd.returns (by simp) (hb hby at_127) hr
    · show Q_rm0 Z wL wF wE wcI ccI id1 ld1 ep1 ot oe sel h0 n0 _ T23.heap _
      rw [e23]
      exact ⟨rfl, N23⟩
  · have R25 : ∀ t, Steps p.tables e below (T19.setTop (mkF m 131 #[.val (.int id1), .val (.int ld1), .val (.long ep1), .second, .val (.int ot), .val (.long oe), .second, .val (.int sel), .val (.int id2), .val (.int ld2), .val (.long ep2), .second, .val (.int rr1), .val (.int rr2), .val (.ref w1), .val (.ref w2), .val (.ref b18), .val (.int (((sel.toUInt32 >>> ((7 : Int32) &&& 31).toUInt32).toInt32) &&& (3 : Int32))), .unset, .unset] [(.int (1 : Int32)), (.int (((sel.toUInt32 >>> ((7 : Int32) &&& 31).toUInt32).toInt32) &&& (3 : Int32)))])) t → Steps p.tables e below (s₁.setTop (entryFrame m #[(.int id1), (.int ld1), (.long ep1), (.int ot), (.long oe), (.int sel)] maxLocals)) t := by
      intro t k
      refine R21 t ?_
      show Steps p.tables e below (T19.setTop (mkF m 100 #[.val (.int id1), .val (.int ld1), .val (.long ep1), .second, .val (.int ot), .val (.long oe), .second, .val (.int sel), .val (.int id2), .val (.int ld2), .val (.long ep2), .second, .val (.int rr1), .val (.int rr2), .val (.ref w1), .val (.ref w2), .val (.ref b18), .val (.int (((sel.toUInt32 >>> ((7 : Int32) &&& 31).toUInt32).toInt32) &&& (3 : Int32))), .unset, .unset] [(.int (((sel.toUInt32 >>> ((7 : Int32) &&& 31).toUInt32).toInt32) &&& (3 : Int32)))])) t
      refine XS.ifYes X19.here hx rfl (pc0 := 100) (pc' := 128) rfl (hb hby at_100) rfl ((if0 _ _).trans (feq (hk0 : ¬ ((((sel.toUInt32 >>> ((7 : Int32) &&& 31).toUInt32).toInt32) &&& (3 : Int32)) = (0 : Int32)))).2) (by decide) (by decide) ?_
      show Steps p.tables e below (T19.setTop (mkF m 128 #[.val (.int id1), .val (.int ld1), .val (.long ep1), .second, .val (.int ot), .val (.long oe), .second, .val (.int sel), .val (.int id2), .val (.int ld2), .val (.long ep2), .second, .val (.int rr1), .val (.int rr2), .val (.ref w1), .val (.ref w2), .val (.ref b18), .val (.int (((sel.toUInt32 >>> ((7 : Int32) &&& 31).toUInt32).toInt32) &&& (3 : Int32))), .unset, .unset] [])) t
      refine XS.iload X19.here hx rfl (hb hby at_128) rfl ?_
      show Steps p.tables e below (T19.setTop (mkF m 130 #[.val (.int id1), .val (.int ld1), .val (.long ep1), .second, .val (.int ot), .val (.long oe), .second, .val (.int sel), .val (.int id2), .val (.int ld2), .val (.long ep2), .second, .val (.int rr1), .val (.int rr2), .val (.ref w1), .val (.ref w2), .val (.ref b18), .val (.int (((sel.toUInt32 >>> ((7 : Int32) &&& 31).toUInt32).toInt32) &&& (3 : Int32))), .unset, .unset] [(.int (((sel.toUInt32 >>> ((7 : Int32) &&& 31).toUInt32).toInt32) &&& (3 : Int32)))])) t
      refine XS.iconst X19.here hx rfl (hb hby at_130) ?_
      exact k
    by_cases hk1 : (((sel.toUInt32 >>> ((7 : Int32) &&& 31).toUInt32).toInt32) &&& (3 : Int32)) = (1 : Int32)
    · obtain ⟨_, _, ⟨T26, L26, k26, n26⟩, -, X26, ⟨Lc26, hQ26, l26, y26, z26⟩, st26⟩ := Jvm.LawKit.callS X19 hx (y := (⟨"java/lang/Integer", "valueOf", "(I)Ljava/lang/Integer;"⟩ : MethodName)) hown19 (mvT hZ19 (hw _ (List.mem_of_getElem? (i := 47) rfl))) (mvT hZ19 (hw _ (List.mem_of_getElem? (i := 48) rfl))) (mvT hZ19 (hw _ (List.mem_of_getElem? (i := 49) rfl))) (mvT hZ19 (hw _ (List.mem_of_getElem? (i := 50) rfl))) (by decide) (backOf (W := 1) (valueOfI l Z a0 hw [] wL wF wE wcI ccI id1 T19.heap n0 O19 S_wL S_wF S_wE E_wL E_wF E_wE nLF nLE nFE S_cI B_cI S_hi   ) hZ19 (hw _ (List.mem_of_getElem? (i := 50) rfl)) (hw _ (List.mem_of_getElem? (i := 49) rfl)) (by decide) (by decide)) (g := (mkF m 137 #[.val (.int id1), .val (.int ld1), .val (.long ep1), .second, .val (.int ot), .val (.long oe), .second, .val (.int sel), .val (.int id2), .val (.int ld2), .val (.long ep2), .second, .val (.int rr1), .val (.int rr2), .val (.ref w1), .val (.ref w2), .val (.ref b18), .val (.int (((sel.toUInt32 >>> ((7 : Int32) &&& 31).toUInt32).toInt32) &&& (3 : Int32))), .unset, .unset] [(.int id1), (.ref b18)])) rfl (by rw [hml]; rfl) (argsL := [(.int id1)]) (rest := [(.ref b18)]) (lenOf pd_6 rfl) rfl (by show 2 * 0 + _ ≤ _; exact Nat.le_of_eq rfl) (hb hby at_137) (fun _ _ => ⟨rfl, rfl, (by decide : 3 + 1 ≤ _), (by decide : 24 + 1 ≤ _)⟩)
      dsimp only [Pt.U, Pt.locs, Pt.cells, Pt.slots] at X26 l26 y26 z26 st26 hQ26
      subst l26 y26 z26
      obtain ⟨b26, rfl, N26q, K26q, y26_0⟩ := hQ26
      have N26 := Fr.app N19 N26q
      have Z26 : n0 ≤ T26.heap.size := Nat.le_trans Z19 K26q.1
      have K26 : Keep h0 T26.heap [] := K19.trans K26q all0
      have O26 : Old Z n0 T26.heap := O19.keep K26q all0
      have hk26 := Nat.le_trans hk19 K26q.1
      have f28 : Exa Z T26.heap b18 "com/example/ballot/ballot/model/Status" := (y19_0.keep K26q)
      obtain ⟨cq27, kq27, q27a, q27b, q27c⟩ := isOf hZ19 rfl f28
      obtain ⟨_, _, ⟨T27, L27, k27, n27⟩, -, X27, ⟨Lc27, hQ27, l27, y27, z27⟩, st27⟩ := X26.virtualBack hx (y := (⟨"com/example/ballot/ballot/model/Status", "equals", "(Ljava/lang/Object;)Z"⟩ : MethodName)) (z := (⟨"com/example/ballot/ballot/model/Status", "equals", "(Ljava/lang/Object;)Z"⟩ : MethodName)) hown19 (mvT hZ19 (hw _ (List.mem_of_getElem? (i := 38) rfl))) (mvT hZ19 (hw _ (List.mem_of_getElem? (i := 39) rfl))) (notFace_of_selects (args := #[]) (mvT hZ19 (hw _ (List.mem_of_getElem? (i := 41) rfl)))) (mvT hZ19 (hw _ (List.mem_of_getElem? (i := 41) rfl))) (mvT hZ19 (hw _ (List.mem_of_getElem? (i := 40) rfl))) (by decide) (backOf (W := 0) (eqO l Z a0 hw [] wL wF wE wcI ccI b18 b26 T26.heap n0 O26 S_wL S_wF S_wE E_wL E_wF E_wE nLF nLE nFE S_cI B_cI S_hi   y26_0) hZ19 (hw _ (List.mem_of_getElem? (i := 42) rfl)) (hw _ (List.mem_of_getElem? (i := 9) rfl)) (by decide) (by decide)) q27a q27c (g := (mkF m 140 #[.val (.int id1), .val (.int ld1), .val (.long ep1), .second, .val (.int ot), .val (.long oe), .second, .val (.int sel), .val (.int id2), .val (.int ld2), .val (.long ep2), .second, .val (.int rr1), .val (.int rr2), .val (.ref w1), .val (.ref w2), .val (.ref b18), .val (.int (((sel.toUInt32 >>> ((7 : Int32) &&& 31).toUInt32).toInt32) &&& (3 : Int32))), .unset, .unset] [(.ref b26), (.ref b18)])) rfl (by rw [hml]; rfl) (Steps.refl _) (argsL := [(.ref b26)]) (rest := []) (lenOf pd_5 rfl) rfl (by show 2 * 0 + _ ≤ _; exact Nat.le_of_eq rfl) (hb hby at_140) (fun _ _ => ⟨rfl, rfl, (by decide : 4 + 0 ≤ _), (by decide : 25 + 0 ≤ _)⟩)
      dsimp only [Pt.U, Pt.locs, Pt.cells, Pt.slots] at X27 l27 y27 z27 st27 hQ27
      subst l27 y27 z27
      obtain ⟨rfl, N27q, e27⟩ := hQ27
      have N27 := Fr.app N26 N27q
      have R29 : ∀ t, Steps p.tables e below (T27.setTop (mkF m 151 #[.val (.int id1), .val (.int ld1), .val (.long ep1), .second, .val (.int ot), .val (.long oe), .second, .val (.int sel), .val (.int id2), .val (.int ld2), .val (.long ep2), .second, .val (.int rr1), .val (.int rr2), .val (.ref w1), .val (.ref w2), .val (.ref b18), .val (.int (((sel.toUInt32 >>> ((7 : Int32) &&& 31).toUInt32).toInt32) &&& (3 : Int32))), .unset, .unset] [(.int (1 : Int32))])) t → Steps p.tables e below (s₁.setTop (entryFrame m #[(.int id1), (.int ld1), (.long ep1), (.int ot), (.long oe), (.int sel)] maxLocals)) t := by
        intro t k
        refine R25 t ?_
        show Steps p.tables e below (T19.setTop (mkF m 131 #[.val (.int id1), .val (.int ld1), .val (.long ep1), .second, .val (.int ot), .val (.long oe), .second, .val (.int sel), .val (.int id2), .val (.int ld2), .val (.long ep2), .second, .val (.int rr1), .val (.int rr2), .val (.ref w1), .val (.ref w2), .val (.ref b18), .val (.int (((sel.toUInt32 >>> ((7 : Int32) &&& 31).toUInt32).toInt32) &&& (3 : Int32))), .unset, .unset] [(.int (1 : Int32)), (.int (((sel.toUInt32 >>> ((7 : Int32) &&& 31).toUInt32).toInt32) &&& (3 : Int32)))])) t
        refine XS.icmpNo X19.here hx rfl (hb hby at_131) rfl (teq (hk1 : (((sel.toUInt32 >>> ((7 : Int32) &&& 31).toUInt32).toInt32) &&& (3 : Int32)) = (1 : Int32))).2 ?_
        show Steps p.tables e below (T19.setTop (mkF m 134 #[.val (.int id1), .val (.int ld1), .val (.long ep1), .second, .val (.int ot), .val (.long oe), .second, .val (.int sel), .val (.int id2), .val (.int ld2), .val (.long ep2), .second, .val (.int rr1), .val (.int rr2), .val (.ref w1), .val (.ref w2), .val (.ref b18), .val (.int (((sel.toUInt32 >>> ((7 : Int32) &&& 31).toUInt32).toInt32) &&& (3 : Int32))), .unset, .unset] [])) t
        refine XS.aload X19.here hx rfl (hb hby at_134) rfl rfl ?_
        show Steps p.tables e below (T19.setTop (mkF m 136 #[.val (.int id1), .val (.int ld1), .val (.long ep1), .second, .val (.int ot), .val (.long oe), .second, .val (.int sel), .val (.int id2), .val (.int ld2), .val (.long ep2), .second, .val (.int rr1), .val (.int rr2), .val (.ref w1), .val (.ref w2), .val (.ref b18), .val (.int (((sel.toUInt32 >>> ((7 : Int32) &&& 31).toUInt32).toInt32) &&& (3 : Int32))), .unset, .unset] [(.ref b18)])) t
        refine XS.iloadN X19.here hx rfl (hb hby at_136) rfl ?_
        show Steps p.tables e below (T19.setTop (mkF m 137 #[.val (.int id1), .val (.int ld1), .val (.long ep1), .second, .val (.int ot), .val (.long oe), .second, .val (.int sel), .val (.int id2), .val (.int ld2), .val (.long ep2), .second, .val (.int rr1), .val (.int rr2), .val (.ref w1), .val (.ref w2), .val (.ref b18), .val (.int (((sel.toUInt32 >>> ((7 : Int32) &&& 31).toUInt32).toInt32) &&& (3 : Int32))), .unset, .unset] [(.int id1), (.ref b18)])) t
        refine st26 _ ?_
        show Steps p.tables e below (T26.setTop (mkF m 140 #[.val (.int id1), .val (.int ld1), .val (.long ep1), .second, .val (.int ot), .val (.long oe), .second, .val (.int sel), .val (.int id2), .val (.int ld2), .val (.long ep2), .second, .val (.int rr1), .val (.int rr2), .val (.ref w1), .val (.ref w2), .val (.ref b18), .val (.int (((sel.toUInt32 >>> ((7 : Int32) &&& 31).toUInt32).toInt32) &&& (3 : Int32))), .unset, .unset] [(.ref b26), (.ref b18)])) t
        refine st27.trans ?_
        show Steps p.tables e below (T27.setTop (mkF m 143 #[.val (.int id1), .val (.int ld1), .val (.long ep1), .second, .val (.int ot), .val (.long oe), .second, .val (.int sel), .val (.int id2), .val (.int ld2), .val (.long ep2), .second, .val (.int rr1), .val (.int rr2), .val (.ref w1), .val (.ref w2), .val (.ref b18), .val (.int (((sel.toUInt32 >>> ((7 : Int32) &&& 31).toUInt32).toInt32) &&& (3 : Int32))), .unset, .unset] [(.int (0 : Int32))])) t
        refine XS.ifNo X27.here hx rfl (hb hby at_143) rfl ((if0 _ _).trans (teq ((by decide) : (0 : Int32) = (0 : Int32))).2) ?_
        show Steps p.tables e below (T27.setTop (mkF m 146 #[.val (.int id1), .val (.int ld1), .val (.long ep1), .second, .val (.int ot), .val (.long oe), .second, .val (.int sel), .val (.int id2), .val (.int ld2), .val (.long ep2), .second, .val (.int rr1), .val (.int rr2), .val (.ref w1), .val (.ref w2), .val (.ref b18), .val (.int (((sel.toUInt32 >>> ((7 : Int32) &&& 31).toUInt32).toInt32) &&& (3 : Int32))), .unset, .unset] [])) t
        refine XS.iconst X27.here hx rfl (hb hby at_146) ?_
        show Steps p.tables e below (T27.setTop (mkF m 147 #[.val (.int id1), .val (.int ld1), .val (.long ep1), .second, .val (.int ot), .val (.long oe), .second, .val (.int sel), .val (.int id2), .val (.int ld2), .val (.long ep2), .second, .val (.int rr1), .val (.int rr2), .val (.ref w1), .val (.ref w2), .val (.ref b18), .val (.int (((sel.toUInt32 >>> ((7 : Int32) &&& 31).toUInt32).toInt32) &&& (3 : Int32))), .unset, .unset] [(.int (1 : Int32))])) t
        refine XS.goto X27.here hx rfl (pc0 := 147) (pc' := 151) rfl (hb hby at_147) (by decide) (by decide) ?_
        exact k
      obtain ⟨fs, hr, hrun, hended, hRW⟩ := X27.leaveW hS19 (by rw [e27]; exact hk26) (v := some (.int (1 : Int32))) (fun h => by rw [Bd.returns] at h; cases h)
      refine ⟨_, _, R29 _ ?_, hrun, hended, _, _, rfl, ?_, hRW.1, hRW.2.1, hRW.2.2.1, hRW.2.2.2.mono (by decide) (by decide)⟩
      · show Steps p.tables e below (T27.setTop (mkF m 151 #[.val (.int id1), .val (.int ld1), .val (.long ep1), .second, .val (.int ot), .val (.long oe), .second, .val (.int sel), .val (.int id2), .val (.int ld2), .val (.long ep2), .second, .val (.int rr1), .val (.int rr2), .val (.ref w1), .val (.ref w2), .val (.ref b18), .val (.int (((sel.toUInt32 >>> ((7 : Int32) &&& 31).toUInt32).toInt32) &&& (3 : Int32))), .unset, .unset] [(.int (1 : Int32))])) _
        exact retN X27 hx (t := .boolean) Bd.returns (by simp) (hb hby at_151) hr
      · show Q_rm0 Z wL wF wE wcI ccI id1 ld1 ep1 ot oe sel h0 n0 _ T27.heap _
        rw [e27]
        exact ⟨rfl, N27⟩
    · obtain ⟨T30, h30, X30, e30, E30, A30, D30, -, st30⟩ := newO X19 hx hZ19 hown19 (hw _ (List.mem_of_getElem? (i := 7) rfl)) (hw _ (List.mem_of_getElem? (i := 8) rfl)) (hw _ (List.mem_of_getElem? (i := 9) rfl)) rfl (g := (mkF m 152 #[.val (.int id1), .val (.int ld1), .val (.long ep1), .second, .val (.int ot), .val (.long oe), .second, .val (.int sel), .val (.int id2), .val (.int ld2), .val (.long ep2), .second, .val (.int rr1), .val (.int rr2), .val (.ref w1), .val (.ref w2), .val (.ref b18), .val (.int (((sel.toUInt32 >>> ((7 : Int32) &&& 31).toUInt32).toInt32) &&& (3 : Int32))), .unset, .unset] [])) rfl (hb hby at_152) (by decide) (by decide)
      obtain ⟨b30, gg30⟩ : ∃ z, z = T19.heap.size := ⟨_, rfl⟩
      rw [← gg30] at A30 D30 st30
      have ne_b18_b30 : b18 ≠ b30 := Nat.ne_of_lt (Nat.lt_of_lt_of_le y19_0.lt (Nat.le_of_eq gg30.symm))
      have g_b30 : n0 ≤ b30 := Nat.le_trans Z19 (Nat.le_of_eq gg30.symm)
      have sz_b30 : h0.size ≤ b30 := Nat.le_trans K19.1 (Nat.le_of_eq gg30.symm)
      have Z30 : n0 ≤ h30.size := Nat.le_trans Z19 E30.1
      have K30 : Keep h0 h30 [] := K19.ext E30
      have O30 : Old Z n0 h30 := O19.ext E30
      have hk30 := Nat.le_trans hk19 E30.1
      have F30_id : Fld Z h30 b30 "com/example/ballot/ballot/model/Status" "id" "I" (.int (0 : Int32)) := D30 (Or.inr (hw _ (List.mem_of_getElem? (i := 17) rfl))) (ty := .int) (by decide)
      have F30_role : Fld Z h30 b30 "com/example/ballot/ballot/model/Status" "role" "Lcom/example/ballot/ballot/model/Role;" .null := D30 (Or.inr (hw _ (List.mem_of_getElem? (i := 33) rfl))) (ty := (.object "com/example/ballot/ballot/model/Role")) (by decide)
      have F30_leader : Fld Z h30 b30 "com/example/ballot/ballot/model/Status" "leader" "I" (.int (0 : Int32)) := D30 (Or.inr (hw _ (List.mem_of_getElem? (i := 35) rfl))) (ty := .int) (by decide)
      have F30_epoch : Fld Z h30 b30 "com/example/ballot/ballot/model/Status" "epoch" "J" (.long (0 : Int64)) := D30 (Or.inr (hw _ (List.mem_of_getElem? (i := 37) rfl))) (ty := .long) (by decide)
      have f32 : Exa Z h30 w2 "com/example/ballot/ballot/model/Role" := (((y17_1.ext E18).keep K19q).ext E30)
      obtain ⟨_, _, ⟨T31, L31, k31, n31⟩, -, X31q, hS31q, hg31q, ⟨Lc31, hQ31, l31, y31, z31⟩, st31⟩ := X30.specialBackS hx (y := (⟨"com/example/ballot/ballot/model/Status", "<init>", "(ILcom/example/ballot/ballot/model/Role;IJ)V"⟩ : MethodName)) rfl hown19 (mvT hZ19 (hw _ (List.mem_of_getElem? (i := 10) rfl))) (mvT hZ19 (hw _ (List.mem_of_getElem? (i := 11) rfl))) (mvT hZ19 (hw _ (List.mem_of_getElem? (i := 12) rfl))) (by decide) (backOfS (W := 1) (sinit l Z a0 hw [] wL wF wE wcI ccI b30 id2 w2 ld2 ep2 (.int (0 : Int32)) .null (.int (0 : Int32)) (.long (0 : Int64)) h30 n0 O30 S_wL S_wF S_wE E_wL E_wF E_wE nLF nLE nFE S_cI B_cI S_hi g_b30  A30 f32 F30_id F30_role F30_leader F30_epoch) hZ19 (hw _ (List.mem_of_getElem? (i := 12) rfl)) (hw _ (List.mem_of_getElem? (i := 9) rfl)) (by decide) (by decide)) (g := (mkF m 164 #[.val (.int id1), .val (.int ld1), .val (.long ep1), .second, .val (.int ot), .val (.long oe), .second, .val (.int sel), .val (.int id2), .val (.int ld2), .val (.long ep2), .second, .val (.int rr1), .val (.int rr2), .val (.ref w1), .val (.ref w2), .val (.ref b18), .val (.int (((sel.toUInt32 >>> ((7 : Int32) &&& 31).toUInt32).toInt32) &&& (3 : Int32))), .unset, .unset] [(.long ep2), (.int ld2), (.ref w2), (.int id2), (.ref b30), (.ref b30)])) rfl (by rw [hml]; rfl) (Steps.refl _) (a := b30) (argsL := [(.int id2), (.ref w2), (.int ld2), (.long ep2)]) (rest := [(.ref b30)]) (lenOf pd_4 rfl) rfl (by show 2 * 0 + _ ≤ _; exact Nat.le_of_eq rfl) (hb hby at_164) (fun _ _ => ⟨rfl, e30, (by decide : 4 + 2 ≤ _), (by decide : 28 + 20 ≤ _)⟩)
      dsimp only [Pt.U, Pt.locs, Pt.cells, Pt.slots] at X31q l31 y31 z31 st31 hQ31 hS31q hg31q
      subst l31 y31 z31
      obtain ⟨X31, hS31, hZ31, hown31⟩ := rebS hS19 (by rw [e30]; exact hk30) X31q hS31q hg31q hZ19 hown19
      have hk31 := Nat.le_refl T31.heap.size
      obtain ⟨rfl, N31q, K31q, y31_0, y31_1, y31_2, y31_3, y31_4⟩ := hQ31
      have N31 := Fr.app N19 N31q
      have Z31 : n0 ≤ T31.heap.size := Nat.le_trans Z30 K31q.1
      have K31 : Keep h0 T31.heap [] := K30.trans K31q (allS (Or.inr sz_b30) all0)
      have O31 : Old Z n0 T31.heap := O30.keep K31q (allS g_b30 all0)
      have R33 : ∀ t, Steps p.tables e below (T31.setTop (mkF m 172 #[.val (.int id1), .val (.int ld1), .val (.long ep1), .second, .val (.int ot), .val (.long oe), .second, .val (.int sel), .val (.int id2), .val (.int ld2), .val (.long ep2), .second, .val (.int rr1), .val (.int rr2), .val (.ref w1), .val (.ref w2), .val (.ref b18), .val (.int (((sel.toUInt32 >>> ((7 : Int32) &&& 31).toUInt32).toInt32) &&& (3 : Int32))), .val (.ref b30), .unset] [(.int id2), (.int id1)])) t → Steps p.tables e below (s₁.setTop (entryFrame m #[(.int id1), (.int ld1), (.long ep1), (.int ot), (.long oe), (.int sel)] maxLocals)) t := by
        intro t k
        refine R25 t ?_
        show Steps p.tables e below (T19.setTop (mkF m 131 #[.val (.int id1), .val (.int ld1), .val (.long ep1), .second, .val (.int ot), .val (.long oe), .second, .val (.int sel), .val (.int id2), .val (.int ld2), .val (.long ep2), .second, .val (.int rr1), .val (.int rr2), .val (.ref w1), .val (.ref w2), .val (.ref b18), .val (.int (((sel.toUInt32 >>> ((7 : Int32) &&& 31).toUInt32).toInt32) &&& (3 : Int32))), .unset, .unset] [(.int (1 : Int32)), (.int (((sel.toUInt32 >>> ((7 : Int32) &&& 31).toUInt32).toInt32) &&& (3 : Int32)))])) t
        refine XS.icmpYes X19.here hx rfl (pc0 := 131) (pc' := 152) rfl (hb hby at_131) rfl (feq (hk1 : ¬ ((((sel.toUInt32 >>> ((7 : Int32) &&& 31).toUInt32).toInt32) &&& (3 : Int32)) = (1 : Int32)))).2 (by decide) (by decide) ?_
        show Steps p.tables e below (T19.setTop (mkF m 152 #[.val (.int id1), .val (.int ld1), .val (.long ep1), .second, .val (.int ot), .val (.long oe), .second, .val (.int sel), .val (.int id2), .val (.int ld2), .val (.long ep2), .second, .val (.int rr1), .val (.int rr2), .val (.ref w1), .val (.ref w2), .val (.ref b18), .val (.int (((sel.toUInt32 >>> ((7 : Int32) &&& 31).toUInt32).toInt32) &&& (3 : Int32))), .unset, .unset] [])) t
        refine st30 _ ?_
        show Steps p.tables e below (T30.setTop (mkF m 155 #[.val (.int id1), .val (.int ld1), .val (.long ep1), .second, .val (.int ot), .val (.long oe), .second, .val (.int sel), .val (.int id2), .val (.int ld2), .val (.long ep2), .second, .val (.int rr1), .val (.int rr2), .val (.ref w1), .val (.ref w2), .val (.ref b18), .val (.int (((sel.toUInt32 >>> ((7 : Int32) &&& 31).toUInt32).toInt32) &&& (3 : Int32))), .unset, .unset] [(.ref b30)])) t
        refine XS.dup X30.here hx rfl (hb hby at_155) rfl rfl ?_
        show Steps p.tables e below (T30.setTop (mkF m 156 #[.val (.int id1), .val (.int ld1), .val (.long ep1), .second, .val (.int ot), .val (.long oe), .second, .val (.int sel), .val (.int id2), .val (.int ld2), .val (.long ep2), .second, .val (.int rr1), .val (.int rr2), .val (.ref w1), .val (.ref w2), .val (.ref b18), .val (.int (((sel.toUInt32 >>> ((7 : Int32) &&& 31).toUInt32).toInt32) &&& (3 : Int32))), .unset, .unset] [(.ref b30), (.ref b30)])) t
        refine XS.iload X30.here hx rfl (hb hby at_156) rfl ?_
        show Steps p.tables e below (T30.setTop (mkF m 158 #[.val (.int id1), .val (.int ld1), .val (.long ep1), .second, .val (.int ot), .val (.long oe), .second, .val (.int sel), .val (.int id2), .val (.int ld2), .val (.long ep2), .second, .val (.int rr1), .val (.int rr2), .val (.ref w1), .val (.ref w2), .val (.ref b18), .val (.int (((sel.toUInt32 >>> ((7 : Int32) &&& 31).toUInt32).toInt32) &&& (3 : Int32))), .unset, .unset] [(.int id2), (.ref b30), (.ref b30)])) t
        refine XS.aload X30.here hx rfl (hb hby at_158) rfl rfl ?_
        show Steps p.tables e below (T30.setTop (mkF m 160 #[.val (.int id1), .val (.int ld1), .val (.long ep1), .second, .val (.int ot), .val (.long oe), .second, .val (.int sel), .val (.int id2), .val (.int ld2), .val (.long ep2), .second, .val (.int rr1), .val (.int rr2), .val (.ref w1), .val (.ref w2), .val (.ref b18), .val (.int (((sel.toUInt32 >>> ((7 : Int32) &&& 31).toUInt32).toInt32) &&& (3 : Int32))), .unset, .unset] [(.ref w2), (.int id2), (.ref b30), (.ref b30)])) t
        refine XS.iload X30.here hx rfl (hb hby at_160) rfl ?_
        show Steps p.tables e below (T30.setTop (mkF m 162 #[.val (.int id1), .val (.int ld1), .val (.long ep1), .second, .val (.int ot), .val (.long oe), .second, .val (.int sel), .val (.int id2), .val (.int ld2), .val (.long ep2), .second, .val (.int rr1), .val (.int rr2), .val (.ref w1), .val (.ref w2), .val (.ref b18), .val (.int (((sel.toUInt32 >>> ((7 : Int32) &&& 31).toUInt32).toInt32) &&& (3 : Int32))), .unset, .unset] [(.int ld2), (.ref w2), (.int id2), (.ref b30), (.ref b30)])) t
        refine XS.lload X30.here hx rfl (hb hby at_162) rfl ?_
        show Steps p.tables e below (T30.setTop (mkF m 164 #[.val (.int id1), .val (.int ld1), .val (.long ep1), .second, .val (.int ot), .val (.long oe), .second, .val (.int sel), .val (.int id2), .val (.int ld2), .val (.long ep2), .second, .val (.int rr1), .val (.int rr2), .val (.ref w1), .val (.ref w2), .val (.ref b18), .val (.int (((sel.toUInt32 >>> ((7 : Int32) &&& 31).toUInt32).toInt32) &&& (3 : Int32))), .unset, .unset] [(.long ep2), (.int ld2), (.ref w2), (.int id2), (.ref b30), (.ref b30)])) t
        refine st31.trans ?_
        show Steps p.tables e below (T31.setTop (mkF m 167 #[.val (.int id1), .val (.int ld1), .val (.long ep1), .second, .val (.int ot), .val (.long oe), .second, .val (.int sel), .val (.int id2), .val (.int ld2), .val (.long ep2), .second, .val (.int rr1), .val (.int rr2), .val (.ref w1), .val (.ref w2), .val (.ref b18), .val (.int (((sel.toUInt32 >>> ((7 : Int32) &&& 31).toUInt32).toInt32) &&& (3 : Int32))), .unset, .unset] [(.ref b30)])) t
        refine XS.astore X31.here hx rfl (hb hby at_167) rfl rfl (l' := #[.val (.int id1), .val (.int ld1), .val (.long ep1), .second, .val (.int ot), .val (.long oe), .second, .val (.int sel), .val (.int id2), .val (.int ld2), .val (.long ep2), .second, .val (.int rr1), .val (.int rr2), .val (.ref w1), .val (.ref w2), .val (.ref b18), .val (.int (((sel.toUInt32 >>> ((7 : Int32) &&& 31).toUInt32).toInt32) &&& (3 : Int32))), .val (.ref b30), .unset]) rfl ?_
        show Steps p.tables e below (T31.setTop (mkF m 169 #[.val (.int id1), .val (.int ld1), .val (.long ep1), .second, .val (.int ot), .val (.long oe), .second, .val (.int sel), .val (.int id2), .val (.int ld2), .val (.long ep2), .second, .val (.int rr1), .val (.int rr2), .val (.ref w1), .val (.ref w2), .val (.ref b18), .val (.int (((sel.toUInt32 >>> ((7 : Int32) &&& 31).toUInt32).toInt32) &&& (3 : Int32))), .val (.ref b30), .unset] [])) t
        refine XS.iloadN X31.here hx rfl (hb hby at_169) rfl ?_
        show Steps p.tables e below (T31.setTop (mkF m 170 #[.val (.int id1), .val (.int ld1), .val (.long ep1), .second, .val (.int ot), .val (.long oe), .second, .val (.int sel), .val (.int id2), .val (.int ld2), .val (.long ep2), .second, .val (.int rr1), .val (.int rr2), .val (.ref w1), .val (.ref w2), .val (.ref b18), .val (.int (((sel.toUInt32 >>> ((7 : Int32) &&& 31).toUInt32).toInt32) &&& (3 : Int32))), .val (.ref b30), .unset] [(.int id1)])) t
        refine XS.iload X31.here hx rfl (hb hby at_170) rfl ?_
        exact k
      have hrr := own_roles h_rr1 h_rr2 y16_0 y17_0 nLF nLE nFE
      by_cases cq0 : id1 = id2
      · have R34 : ∀ t, Steps p.tables e below (T31.setTop (mkF m 183 #[.val (.int id1), .val (.int ld1), .val (.long ep1), .second, .val (.int ot), .val (.long oe), .second, .val (.int sel), .val (.int id2), .val (.int ld2), .val (.long ep2), .second, .val (.int rr1), .val (.int rr2), .val (.ref w1), .val (.ref w2), .val (.ref b18), .val (.int (((sel.toUInt32 >>> ((7 : Int32) &&& 31).toUInt32).toInt32) &&& (3 : Int32))), .val (.ref b30), .unset] [(.int (rr2 % (3 : Int32))), (.int (rr1 % (3 : Int32)))])) t → Steps p.tables e below (s₁.setTop (entryFrame m #[(.int id1), (.int ld1), (.long ep1), (.int ot), (.long oe), (.int sel)] maxLocals)) t := by
          intro t k
          refine R33 t ?_
          show Steps p.tables e below (T31.setTop (mkF m 172 #[.val (.int id1), .val (.int ld1), .val (.long ep1), .second, .val (.int ot), .val (.long oe), .second, .val (.int sel), .val (.int id2), .val (.int ld2), .val (.long ep2), .second, .val (.int rr1), .val (.int rr2), .val (.ref w1), .val (.ref w2), .val (.ref b18), .val (.int (((sel.toUInt32 >>> ((7 : Int32) &&& 31).toUInt32).toInt32) &&& (3 : Int32))), .val (.ref b30), .unset] [(.int id2), (.int id1)])) t
          refine XS.icmpNo X31.here hx rfl (hb hby at_172) rfl (teq (cq0 : id1 = id2)).2 ?_
          show Steps p.tables e below (T31.setTop (mkF m 175 #[.val (.int id1), .val (.int ld1), .val (.long ep1), .second, .val (.int ot), .val (.long oe), .second, .val (.int sel), .val (.int id2), .val (.int ld2), .val (.long ep2), .second, .val (.int rr1), .val (.int rr2), .val (.ref w1), .val (.ref w2), .val (.ref b18), .val (.int (((sel.toUInt32 >>> ((7 : Int32) &&& 31).toUInt32).toInt32) &&& (3 : Int32))), .val (.ref b30), .unset] [])) t
          refine XS.iload X31.here hx rfl (hb hby at_175) rfl ?_
          show Steps p.tables e below (T31.setTop (mkF m 177 #[.val (.int id1), .val (.int ld1), .val (.long ep1), .second, .val (.int ot), .val (.long oe), .second, .val (.int sel), .val (.int id2), .val (.int ld2), .val (.long ep2), .second, .val (.int rr1), .val (.int rr2), .val (.ref w1), .val (.ref w2), .val (.ref b18), .val (.int (((sel.toUInt32 >>> ((7 : Int32) &&& 31).toUInt32).toInt32) &&& (3 : Int32))), .val (.ref b30), .unset] [(.int rr1)])) t
          refine XS.iconst X31.here hx rfl (hb hby at_177) ?_
          show Steps p.tables e below (T31.setTop (mkF m 178 #[.val (.int id1), .val (.int ld1), .val (.long ep1), .second, .val (.int ot), .val (.long oe), .second, .val (.int sel), .val (.int id2), .val (.int ld2), .val (.long ep2), .second, .val (.int rr1), .val (.int rr2), .val (.ref w1), .val (.ref w2), .val (.ref b18), .val (.int (((sel.toUInt32 >>> ((7 : Int32) &&& 31).toUInt32).toInt32) &&& (3 : Int32))), .val (.ref b30), .unset] [(.int (3 : Int32)), (.int rr1)])) t
          refine iremM (g := (mkF m 178 #[.val (.int id1), .val (.int ld1), .val (.long ep1), .second, .val (.int ot), .val (.long oe), .second, .val (.int sel), .val (.int id2), .val (.int ld2), .val (.long ep2), .second, .val (.int rr1), .val (.int rr2), .val (.ref w1), .val (.ref w2), .val (.ref b18), .val (.int (((sel.toUInt32 >>> ((7 : Int32) &&& 31).toUInt32).toInt32) &&& (3 : Int32))), .val (.ref b30), .unset] [(.int (3 : Int32)), (.int rr1)])) X31 hx rfl (hb hby at_178) rfl (by decide) ?_
          show Steps p.tables e below (T31.setTop (mkF m 179 #[.val (.int id1), .val (.int ld1), .val (.long ep1), .second, .val (.int ot), .val (.long oe), .second, .val (.int sel), .val (.int id2), .val (.int ld2), .val (.long ep2), .second, .val (.int rr1), .val (.int rr2), .val (.ref w1), .val (.ref w2), .val (.ref b18), .val (.int (((sel.toUInt32 >>> ((7 : Int32) &&& 31).toUInt32).toInt32) &&& (3 : Int32))), .val (.ref b30), .unset] [(.int (rr1 % (3 : Int32)))])) t
          refine XS.iload X31.here hx rfl (hb hby at_179) rfl ?_
          show Steps p.tables e below (T31.setTop (mkF m 181 #[.val (.int id1), .val (.int ld1), .val (.long ep1), .second, .val (.int ot), .val (.long oe), .second, .val (.int sel), .val (.int id2), .val (.int ld2), .val (.long ep2), .second, .val (.int rr1), .val (.int rr2), .val (.ref w1), .val (.ref w2), .val (.ref b18), .val (.int (((sel.toUInt32 >>> ((7 : Int32) &&& 31).toUInt32).toInt32) &&& (3 : Int32))), .val (.ref b30), .unset] [(.int rr2), (.int (rr1 % (3 : Int32)))])) t
          refine XS.iconst X31.here hx rfl (hb hby at_181) ?_
          show Steps p.tables e below (T31.setTop (mkF m 182 #[.val (.int id1), .val (.int ld1), .val (.long ep1), .second, .val (.int ot), .val (.long oe), .second, .val (.int sel), .val (.int id2), .val (.int ld2), .val (.long ep2), .second, .val (.int rr1), .val (.int rr2), .val (.ref w1), .val (.ref w2), .val (.ref b18), .val (.int (((sel.toUInt32 >>> ((7 : Int32) &&& 31).toUInt32).toInt32) &&& (3 : Int32))), .val (.ref b30), .unset] [(.int (3 : Int32)), (.int rr2), (.int (rr1 % (3 : Int32)))])) t
          refine iremM (g := (mkF m 182 #[.val (.int id1), .val (.int ld1), .val (.long ep1), .second, .val (.int ot), .val (.long oe), .second, .val (.int sel), .val (.int id2), .val (.int ld2), .val (.long ep2), .second, .val (.int rr1), .val (.int rr2), .val (.ref w1), .val (.ref w2), .val (.ref b18), .val (.int (((sel.toUInt32 >>> ((7 : Int32) &&& 31).toUInt32).toInt32) &&& (3 : Int32))), .val (.ref b30), .unset] [(.int (3 : Int32)), (.int rr2), (.int (rr1 % (3 : Int32)))])) X31 hx rfl (hb hby at_182) rfl (by decide) ?_
          exact k
        by_cases cq1 : (rr1 % (3 : Int32)) = (rr2 % (3 : Int32))
        · have R35 : ∀ t, Steps p.tables e below (T31.setTop (mkF m 189 #[.val (.int id1), .val (.int ld1), .val (.long ep1), .second, .val (.int ot), .val (.long oe), .second, .val (.int sel), .val (.int id2), .val (.int ld2), .val (.long ep2), .second, .val (.int rr1), .val (.int rr2), .val (.ref w1), .val (.ref w2), .val (.ref b18), .val (.int (((sel.toUInt32 >>> ((7 : Int32) &&& 31).toUInt32).toInt32) &&& (3 : Int32))), .val (.ref b30), .unset] [(.int ld2), (.int ld1)])) t → Steps p.tables e below (s₁.setTop (entryFrame m #[(.int id1), (.int ld1), (.long ep1), (.int ot), (.long oe), (.int sel)] maxLocals)) t := by
            intro t k
            refine R34 t ?_
            show Steps p.tables e below (T31.setTop (mkF m 183 #[.val (.int id1), .val (.int ld1), .val (.long ep1), .second, .val (.int ot), .val (.long oe), .second, .val (.int sel), .val (.int id2), .val (.int ld2), .val (.long ep2), .second, .val (.int rr1), .val (.int rr2), .val (.ref w1), .val (.ref w2), .val (.ref b18), .val (.int (((sel.toUInt32 >>> ((7 : Int32) &&& 31).toUInt32).toInt32) &&& (3 : Int32))), .val (.ref b30), .unset] [(.int (rr2 % (3 : Int32))), (.int (rr1 % (3 : Int32)))])) t
            refine XS.icmpNo X31.here hx rfl (hb hby at_183) rfl (teq (cq1 : (rr1 % (3 : Int32)) = (rr2 % (3 : Int32)))).2 ?_
            show Steps p.tables e below (T31.setTop (mkF m 186 #[.val (.int id1), .val (.int ld1), .val (.long ep1), .second, .val (.int ot), .val (.long oe), .second, .val (.int sel), .val (.int id2), .val (.int ld2), .val (.long ep2), .second, .val (.int rr1), .val (.int rr2), .val (.ref w1), .val (.ref w2), .val (.ref b18), .val (.int (((sel.toUInt32 >>> ((7 : Int32) &&& 31).toUInt32).toInt32) &&& (3 : Int32))), .val (.ref b30), .unset] [])) t
            refine XS.iloadN X31.here hx rfl (hb hby at_186) rfl ?_
            show Steps p.tables e below (T31.setTop (mkF m 187 #[.val (.int id1), .val (.int ld1), .val (.long ep1), .second, .val (.int ot), .val (.long oe), .second, .val (.int sel), .val (.int id2), .val (.int ld2), .val (.long ep2), .second, .val (.int rr1), .val (.int rr2), .val (.ref w1), .val (.ref w2), .val (.ref b18), .val (.int (((sel.toUInt32 >>> ((7 : Int32) &&& 31).toUInt32).toInt32) &&& (3 : Int32))), .val (.ref b30), .unset] [(.int ld1)])) t
            refine XS.iload X31.here hx rfl (hb hby at_187) rfl ?_
            exact k
          by_cases cq2 : ld1 = ld2
          · have R36 : ∀ t, Steps p.tables e below (T31.setTop (mkF m 196 #[.val (.int id1), .val (.int ld1), .val (.long ep1), .second, .val (.int ot), .val (.long oe), .second, .val (.int sel), .val (.int id2), .val (.int ld2), .val (.long ep2), .second, .val (.int rr1), .val (.int rr2), .val (.ref w1), .val (.ref w2), .val (.ref b18), .val (.int (((sel.toUInt32 >>> ((7 : Int32) &&& 31).toUInt32).toInt32) &&& (3 : Int32))), .val (.ref b30), .unset] [(.int (lcmpW ep1 ep2))])) t → Steps p.tables e below (s₁.setTop (entryFrame m #[(.int id1), (.int ld1), (.long ep1), (.int ot), (.long oe), (.int sel)] maxLocals)) t := by
              intro t k
              refine R35 t ?_
              show Steps p.tables e below (T31.setTop (mkF m 189 #[.val (.int id1), .val (.int ld1), .val (.long ep1), .second, .val (.int ot), .val (.long oe), .second, .val (.int sel), .val (.int id2), .val (.int ld2), .val (.long ep2), .second, .val (.int rr1), .val (.int rr2), .val (.ref w1), .val (.ref w2), .val (.ref b18), .val (.int (((sel.toUInt32 >>> ((7 : Int32) &&& 31).toUInt32).toInt32) &&& (3 : Int32))), .val (.ref b30), .unset] [(.int ld2), (.int ld1)])) t
              refine XS.icmpNo X31.here hx rfl (hb hby at_189) rfl (teq (cq2 : ld1 = ld2)).2 ?_
              show Steps p.tables e below (T31.setTop (mkF m 192 #[.val (.int id1), .val (.int ld1), .val (.long ep1), .second, .val (.int ot), .val (.long oe), .second, .val (.int sel), .val (.int id2), .val (.int ld2), .val (.long ep2), .second, .val (.int rr1), .val (.int rr2), .val (.ref w1), .val (.ref w2), .val (.ref b18), .val (.int (((sel.toUInt32 >>> ((7 : Int32) &&& 31).toUInt32).toInt32) &&& (3 : Int32))), .val (.ref b30), .unset] [])) t
              refine XS.lloadN X31.here hx rfl (hb hby at_192) rfl ?_
              show Steps p.tables e below (T31.setTop (mkF m 193 #[.val (.int id1), .val (.int ld1), .val (.long ep1), .second, .val (.int ot), .val (.long oe), .second, .val (.int sel), .val (.int id2), .val (.int ld2), .val (.long ep2), .second, .val (.int rr1), .val (.int rr2), .val (.ref w1), .val (.ref w2), .val (.ref b18), .val (.int (((sel.toUInt32 >>> ((7 : Int32) &&& 31).toUInt32).toInt32) &&& (3 : Int32))), .val (.ref b30), .unset] [(.long ep1)])) t
              refine XS.lload X31.here hx rfl (hb hby at_193) rfl ?_
              show Steps p.tables e below (T31.setTop (mkF m 195 #[.val (.int id1), .val (.int ld1), .val (.long ep1), .second, .val (.int ot), .val (.long oe), .second, .val (.int sel), .val (.int id2), .val (.int ld2), .val (.long ep2), .second, .val (.int rr1), .val (.int rr2), .val (.ref w1), .val (.ref w2), .val (.ref b18), .val (.int (((sel.toUInt32 >>> ((7 : Int32) &&& 31).toUInt32).toInt32) &&& (3 : Int32))), .val (.ref b30), .unset] [(.long ep2), (.long ep1)])) t
              refine XS.lcmp X31.here hx rfl (hb hby at_195) rfl ?_
              exact k
            by_cases cq3 : (lcmpW ep1 ep2) = (0 : Int32)
            · have f38 : Exa Z T31.heap b18 "com/example/ballot/ballot/model/Status" := ((y19_0.ext E30).keep K31q)
              have f39 : Fld Z T31.heap b18 "com/example/ballot/ballot/model/Status" "id" "I" (.int id1) := ((y19_1.ext E30).keep K31q (ninS ne_b18_b30 nin0))
              have f40 : Fld Z T31.heap b18 "com/example/ballot/ballot/model/Status" "role" "Lcom/example/ballot/ballot/model/Role;" (.ref w1) := ((y19_2.ext E30).keep K31q (ninS ne_b18_b30 nin0))
              have f41 : Fld Z T31.heap b18 "com/example/ballot/ballot/model/Status" "leader" "I" (.int ld1) := ((y19_3.ext E30).keep K31q (ninS ne_b18_b30 nin0))
              have f42 : Fld Z T31.heap b18 "com/example/ballot/ballot/model/Status" "epoch" "J" (.long ep1) := ((y19_4.ext E30).keep K31q (ninS ne_b18_b30 nin0))
              obtain ⟨cq37, kq37, q37a, q37b, q37c⟩ := isOf hZ31 rfl f38
              obtain ⟨_, _, ⟨T37, L37, k37, n37⟩, -, X37, ⟨Lc37, hQ37, l37, y37, z37⟩, st37⟩ := X31.virtualBack hx (y := (⟨"com/example/ballot/ballot/model/Status", "equals", "(Ljava/lang/Object;)Z"⟩ : MethodName)) (z := (⟨"com/example/ballot/ballot/model/Status", "equals", "(Ljava/lang/Object;)Z"⟩ : MethodName)) hown31 (mvT hZ31 (hw _ (List.mem_of_getElem? (i := 38) rfl))) (mvT hZ31 (hw _ (List.mem_of_getElem? (i := 39) rfl))) (notFace_of_selects (args := #[]) (mvT hZ31 (hw _ (List.mem_of_getElem? (i := 41) rfl)))) (mvT hZ31 (hw _ (List.mem_of_getElem? (i := 41) rfl))) (mvT hZ31 (hw _ (List.mem_of_getElem? (i := 40) rfl))) (by decide) (backOf (W := 0) (eq4 l Z a0 hw [] wL wF wE wcI ccI b18 b30 id1 id2 w1 w2 ld1 ld2 ep1 ep2 T31.heap n0 O31 S_wL S_wF S_wE E_wL E_wF E_wE nLF nLE nFE S_cI B_cI S_hi   f38 y31_0 f39 f40 f41 f42 y31_1 y31_2 y31_3 y31_4 cq0 (hrr.1 cq1) cq2 cq3) hZ31 (hw _ (List.mem_of_getElem? (i := 42) rfl)) (hw _ (List.mem_of_getElem? (i := 9) rfl)) (by decide) (by decide)) q37a q37c (g := (mkF m 210 #[.val (.int id1), .val (.int ld1), .val (.long ep1), .second, .val (.int ot), .val (.long oe), .second, .val (.int sel), .val (.int id2), .val (.int ld2), .val (.long ep2), .second, .val (.int rr1), .val (.int rr2), .val (.ref w1), .val (.ref w2), .val (.ref b18), .val (.int (((sel.toUInt32 >>> ((7 : Int32) &&& 31).toUInt32).toInt32) &&& (3 : Int32))), .val (.ref b30), .val (.int (1 : Int32))] [(.ref b30), (.ref b18)])) rfl (by rw [hml]; rfl) (Steps.refl _) (argsL := [(.ref b30)]) (rest := []) (lenOf pd_5 rfl) rfl (by show 2 * 0 + _ ≤ _; exact Nat.le_of_eq rfl) (hb hby at_210) (fun _ _ => ⟨rfl, rfl, (by decide : 6 + 0 ≤ _), (by decide : 48 + 0 ≤ _)⟩)
              dsimp only [Pt.U, Pt.locs, Pt.cells, Pt.slots] at X37 l37 y37 z37 st37 hQ37
              subst l37 y37 z37
              obtain ⟨rfl, N37q, e37⟩ := hQ37
              have N37 := Fr.app N31 N37q
              obtain ⟨cq43, kq43, q43a, q43b, q43c⟩ := isOf hZ31 e37 y31_0
              obtain ⟨_, _, ⟨T43, L43, k43, n43⟩, -, X43, ⟨Lc43, hQ43, l43, y43, z43⟩, st43⟩ := X37.virtualBack hx (y := (⟨"com/example/ballot/ballot/model/Status", "equals", "(Ljava/lang/Object;)Z"⟩ : MethodName)) (z := (⟨"com/example/ballot/ballot/model/Status", "equals", "(Ljava/lang/Object;)Z"⟩ : MethodName)) hown31 (mvT hZ31 (hw _ (List.mem_of_getElem? (i := 38) rfl))) (mvT hZ31 (hw _ (List.mem_of_getElem? (i := 39) rfl))) (notFace_of_selects (args := #[]) (mvT hZ31 (hw _ (List.mem_of_getElem? (i := 41) rfl)))) (mvT hZ31 (hw _ (List.mem_of_getElem? (i := 41) rfl))) (mvT hZ31 (hw _ (List.mem_of_getElem? (i := 40) rfl))) (by decide) (backOf (W := 0) (eq4 l Z a0 hw [] wL wF wE wcI ccI b30 b18 id2 id1 w2 w1 ld2 ld1 ep2 ep1 T31.heap n0 O31 S_wL S_wF S_wE E_wL E_wF E_wE nLF nLE nFE S_cI B_cI S_hi   y31_0 f38 y31_1 y31_2 y31_3 y31_4 f39 f40 f41 f42 cq0.symm (hrr.1 cq1).symm cq2.symm ((lw_eq _ _).2 ((lw_eq _ _).1 cq3).symm)) hZ31 (hw _ (List.mem_of_getElem? (i := 42) rfl)) (hw _ (List.mem_of_getElem? (i := 9) rfl)) (by decide) (by decide)) q43a q43c (g := (mkF m 222 #[.val (.int id1), .val (.int ld1), .val (.long ep1), .second, .val (.int ot), .val (.long oe), .second, .val (.int sel), .val (.int id2), .val (.int ld2), .val (.long ep2), .second, .val (.int rr1), .val (.int rr2), .val (.ref w1), .val (.ref w2), .val (.ref b18), .val (.int (((sel.toUInt32 >>> ((7 : Int32) &&& 31).toUInt32).toInt32) &&& (3 : Int32))), .val (.ref b30), .val (.int (1 : Int32))] [(.ref b18), (.ref b30)])) rfl (by rw [hml]; rfl) (Steps.refl _) (argsL := [(.ref b18)]) (rest := []) (lenOf pd_5 rfl) rfl (by show 2 * 0 + _ ≤ _; exact Nat.le_of_eq rfl) (hb hby at_222) (fun _ _ => ⟨rfl, e37, (by decide : 6 + 0 ≤ _), (by decide : 48 + 0 ≤ _)⟩)
              dsimp only [Pt.U, Pt.locs, Pt.cells, Pt.slots] at X43 l43 y43 z43 st43 hQ43
              subst l43 y43 z43
              obtain ⟨rfl, N43q, e43⟩ := hQ43
              have N43 := Fr.app N37 N43q
              have R44 : ∀ t, Steps p.tables e below (T43.setTop (mkF m 235 #[.val (.int id1), .val (.int ld1), .val (.long ep1), .second, .val (.int ot), .val (.long oe), .second, .val (.int sel), .val (.int id2), .val (.int ld2), .val (.long ep2), .second, .val (.int rr1), .val (.int rr2), .val (.ref w1), .val (.ref w2), .val (.ref b18), .val (.int (((sel.toUInt32 >>> ((7 : Int32) &&& 31).toUInt32).toInt32) &&& (3 : Int32))), .val (.ref b30), .val (.int (1 : Int32))] [(.int (1 : Int32))])) t → Steps p.tables e below (s₁.setTop (entryFrame m #[(.int id1), (.int ld1), (.long ep1), (.int ot), (.long oe), (.int sel)] maxLocals)) t := by
                intro t k
                refine R36 t ?_
                show Steps p.tables e below (T31.setTop (mkF m 196 #[.val (.int id1), .val (.int ld1), .val (.long ep1), .second, .val (.int ot), .val (.long oe), .second, .val (.int sel), .val (.int id2), .val (.int ld2), .val (.long ep2), .second, .val (.int rr1), .val (.int rr2), .val (.ref w1), .val (.ref w2), .val (.ref b18), .val (.int (((sel.toUInt32 >>> ((7 : Int32) &&& 31).toUInt32).toInt32) &&& (3 : Int32))), .val (.ref b30), .unset] [(.int (lcmpW ep1 ep2))])) t
                refine XS.ifNo X31.here hx rfl (hb hby at_196) rfl ((if0 _ _).trans (teq (cq3 : (lcmpW ep1 ep2) = (0 : Int32))).2) ?_
                show Steps p.tables e below (T31.setTop (mkF m 199 #[.val (.int id1), .val (.int ld1), .val (.long ep1), .second, .val (.int ot), .val (.long oe), .second, .val (.int sel), .val (.int id2), .val (.int ld2), .val (.long ep2), .second, .val (.int rr1), .val (.int rr2), .val (.ref w1), .val (.ref w2), .val (.ref b18), .val (.int (((sel.toUInt32 >>> ((7 : Int32) &&& 31).toUInt32).toInt32) &&& (3 : Int32))), .val (.ref b30), .unset] [])) t
                refine XS.iconst X31.here hx rfl (hb hby at_199) ?_
                show Steps p.tables e below (T31.setTop (mkF m 200 #[.val (.int id1), .val (.int ld1), .val (.long ep1), .second, .val (.int ot), .val (.long oe), .second, .val (.int sel), .val (.int id2), .val (.int ld2), .val (.long ep2), .second, .val (.int rr1), .val (.int rr2), .val (.ref w1), .val (.ref w2), .val (.ref b18), .val (.int (((sel.toUInt32 >>> ((7 : Int32) &&& 31).toUInt32).toInt32) &&& (3 : Int32))), .val (.ref b30), .unset] [(.int (1 : Int32))])) t
                refine XS.goto X31.here hx rfl (pc0 := 200) (pc' := 204) rfl (hb hby at_200) (by decide) (by decide) ?_
                show Steps p.tables e below (T31.setTop (mkF m 204 #[.val (.int id1), .val (.int ld1), .val (.long ep1), .second, .val (.int ot), .val (.long oe), .second, .val (.int sel), .val (.int id2), .val (.int ld2), .val (.long ep2), .second, .val (.int rr1), .val (.int rr2), .val (.ref w1), .val (.ref w2), .val (.ref b18), .val (.int (((sel.toUInt32 >>> ((7 : Int32) &&& 31).toUInt32).toInt32) &&& (3 : Int32))), .val (.ref b30), .unset] [(.int (1 : Int32))])) t
                refine XS.istore X31.here hx rfl (hb hby at_204) rfl (l' := #[.val (.int id1), .val (.int ld1), .val (.long ep1), .second, .val (.int ot), .val (.long oe), .second, .val (.int sel), .val (.int id2), .val (.int ld2), .val (.long ep2), .second, .val (.int rr1), .val (.int rr2), .val (.ref w1), .val (.ref w2), .val (.ref b18), .val (.int (((sel.toUInt32 >>> ((7 : Int32) &&& 31).toUInt32).toInt32) &&& (3 : Int32))), .val (.ref b30), .val (.int (1 : Int32))]) rfl ?_
                show Steps p.tables e below (T31.setTop (mkF m 206 #[.val (.int id1), .val (.int ld1), .val (.long ep1), .second, .val (.int ot), .val (.long oe), .second, .val (.int sel), .val (.int id2), .val (.int ld2), .val (.long ep2), .second, .val (.int rr1), .val (.int rr2), .val (.ref w1), .val (.ref w2), .val (.ref b18), .val (.int (((sel.toUInt32 >>> ((7 : Int32) &&& 31).toUInt32).toInt32) &&& (3 : Int32))), .val (.ref b30), .val (.int (1 : Int32))] [])) t
                refine XS.aload X31.here hx rfl (hb hby at_206) rfl rfl ?_
                show Steps p.tables e below (T31.setTop (mkF m 208 #[.val (.int id1), .val (.int ld1), .val (.long ep1), .second, .val (.int ot), .val (.long oe), .second, .val (.int sel), .val (.int id2), .val (.int ld2), .val (.long ep2), .second, .val (.int rr1), .val (.int rr2), .val (.ref w1), .val (.ref w2), .val (.ref b18), .val (.int (((sel.toUInt32 >>> ((7 : Int32) &&& 31).toUInt32).toInt32) &&& (3 : Int32))), .val (.ref b30), .val (.int (1 : Int32))] [(.ref b18)])) t
                refine XS.aload X31.here hx rfl (hb hby at_208) rfl rfl ?_
                show Steps p.tables e below (T31.setTop (mkF m 210 #[.val (.int id1), .val (.int ld1), .val (.long ep1), .second, .val (.int ot), .val (.long oe), .second, .val (.int sel), .val (.int id2), .val (.int ld2), .val (.long ep2), .second, .val (.int rr1), .val (.int rr2), .val (.ref w1), .val (.ref w2), .val (.ref b18), .val (.int (((sel.toUInt32 >>> ((7 : Int32) &&& 31).toUInt32).toInt32) &&& (3 : Int32))), .val (.ref b30), .val (.int (1 : Int32))] [(.ref b30), (.ref b18)])) t
                refine st37.trans ?_
                show Steps p.tables e below (T37.setTop (mkF m 213 #[.val (.int id1), .val (.int ld1), .val (.long ep1), .second, .val (.int ot), .val (.long oe), .second, .val (.int sel), .val (.int id2), .val (.int ld2), .val (.long ep2), .second, .val (.int rr1), .val (.int rr2), .val (.ref w1), .val (.ref w2), .val (.ref b18), .val (.int (((sel.toUInt32 >>> ((7 : Int32) &&& 31).toUInt32).toInt32) &&& (3 : Int32))), .val (.ref b30), .val (.int (1 : Int32))] [(.int (1 : Int32))])) t
                refine XS.iload X37.here hx rfl (hb hby at_213) rfl ?_
                show Steps p.tables e below (T37.setTop (mkF m 215 #[.val (.int id1), .val (.int ld1), .val (.long ep1), .second, .val (.int ot), .val (.long oe), .second, .val (.int sel), .val (.int id2), .val (.int ld2), .val (.long ep2), .second, .val (.int rr1), .val (.int rr2), .val (.ref w1), .val (.ref w2), .val (.ref b18), .val (.int (((sel.toUInt32 >>> ((7 : Int32) &&& 31).toUInt32).toInt32) &&& (3 : Int32))), .val (.ref b30), .val (.int (1 : Int32))] [(.int (1 : Int32)), (.int (1 : Int32))])) t
                refine XS.icmpNo X37.here hx rfl (hb hby at_215) rfl (teq ((by decide) : (1 : Int32) = (1 : Int32))).2 ?_
                show Steps p.tables e below (T37.setTop (mkF m 218 #[.val (.int id1), .val (.int ld1), .val (.long ep1), .second, .val (.int ot), .val (.long oe), .second, .val (.int sel), .val (.int id2), .val (.int ld2), .val (.long ep2), .second, .val (.int rr1), .val (.int rr2), .val (.ref w1), .val (.ref w2), .val (.ref b18), .val (.int (((sel.toUInt32 >>> ((7 : Int32) &&& 31).toUInt32).toInt32) &&& (3 : Int32))), .val (.ref b30), .val (.int (1 : Int32))] [])) t
                refine XS.aload X37.here hx rfl (hb hby at_218) rfl rfl ?_
                show Steps p.tables e below (T37.setTop (mkF m 220 #[.val (.int id1), .val (.int ld1), .val (.long ep1), .second, .val (.int ot), .val (.long oe), .second, .val (.int sel), .val (.int id2), .val (.int ld2), .val (.long ep2), .second, .val (.int rr1), .val (.int rr2), .val (.ref w1), .val (.ref w2), .val (.ref b18), .val (.int (((sel.toUInt32 >>> ((7 : Int32) &&& 31).toUInt32).toInt32) &&& (3 : Int32))), .val (.ref b30), .val (.int (1 : Int32))] [(.ref b30)])) t
                refine XS.aload X37.here hx rfl (hb hby at_220) rfl rfl ?_
                show Steps p.tables e below (T37.setTop (mkF m 222 #[.val (.int id1), .val (.int ld1), .val (.long ep1), .second, .val (.int ot), .val (.long oe), .second, .val (.int sel), .val (.int id2), .val (.int ld2), .val (.long ep2), .second, .val (.int rr1), .val (.int rr2), .val (.ref w1), .val (.ref w2), .val (.ref b18), .val (.int (((sel.toUInt32 >>> ((7 : Int32) &&& 31).toUInt32).toInt32) &&& (3 : Int32))), .val (.ref b30), .val (.int (1 : Int32))] [(.ref b18), (.ref b30)])) t
                refine st43.trans ?_
                show Steps p.tables e below (T43.setTop (mkF m 225 #[.val (.int id1), .val (.int ld1), .val (.long ep1), .second, .val (.int ot), .val (.long oe), .second, .val (.int sel), .val (.int id2), .val (.int ld2), .val (.long ep2), .second, .val (.int rr1), .val (.int rr2), .val (.ref w1), .val (.ref w2), .val (.ref b18), .val (.int (((sel.toUInt32 >>> ((7 : Int32) &&& 31).toUInt32).toInt32) &&& (3 : Int32))), .val (.ref b30), .val (.int (1 : Int32))] [(.int (1 : Int32))])) t
                refine XS.iload X43.here hx rfl (hb hby at_225) rfl ?_
                show Steps p.tables e below (T43.setTop (mkF m 227 #[.val (.int id1), .val (.int ld1), .val (.long ep1), .second, .val (.int ot), .val (.long oe), .second, .val (.int sel), .val (.int id2), .val (.int ld2), .val (.long ep2), .second, .val (.int rr1), .val (.int rr2), .val (.ref w1), .val (.ref w2), .val (.ref b18), .val (.int (((sel.toUInt32 >>> ((7 : Int32) &&& 31).toUInt32).toInt32) &&& (3 : Int32))), .val (.ref b30), .val (.int (1 : Int32))] [(.int (1 : Int32)), (.int (1 : Int32))])) t
                refine XS.icmpNo X43.here hx rfl (hb hby at_227) rfl (teq ((by decide) : (1 : Int32) = (1 : Int32))).2 ?_
                show Steps p.tables e below (T43.setTop (mkF m 230 #[.val (.int id1), .val (.int ld1), .val (.long ep1), .second, .val (.int ot), .val (.long oe), .second, .val (.int sel), .val (.int id2), .val (.int ld2), .val (.long ep2), .second, .val (.int rr1), .val (.int rr2), .val (.ref w1), .val (.ref w2), .val (.ref b18), .val (.int (((sel.toUInt32 >>> ((7 : Int32) &&& 31).toUInt32).toInt32) &&& (3 : Int32))), .val (.ref b30), .val (.int (1 : Int32))] [])) t
                refine XS.iconst X43.here hx rfl (hb hby at_230) ?_
                show Steps p.tables e below (T43.setTop (mkF m 231 #[.val (.int id1), .val (.int ld1), .val (.long ep1), .second, .val (.int ot), .val (.long oe), .second, .val (.int sel), .val (.int id2), .val (.int ld2), .val (.long ep2), .second, .val (.int rr1), .val (.int rr2), .val (.ref w1), .val (.ref w2), .val (.ref b18), .val (.int (((sel.toUInt32 >>> ((7 : Int32) &&& 31).toUInt32).toInt32) &&& (3 : Int32))), .val (.ref b30), .val (.int (1 : Int32))] [(.int (1 : Int32))])) t
                refine XS.goto X43.here hx rfl (pc0 := 231) (pc' := 235) rfl (hb hby at_231) (by decide) (by decide) ?_
                exact k
              obtain ⟨fs, hr, hrun, hended, hRW⟩ := X43.leaveW hS31 (by rw [e43]; exact hk31) (v := some (.int (1 : Int32))) (fun h => by rw [Bd.returns] at h; cases h)
              refine ⟨_, _, R44 _ ?_, hrun, hended, _, _, rfl, ?_, hRW.1, hRW.2.1, hRW.2.2.1, hRW.2.2.2.mono (by decide) (by decide)⟩
              · show Steps p.tables e below (T43.setTop (mkF m 235 #[.val (.int id1), .val (.int ld1), .val (.long ep1), .second, .val (.int ot), .val (.long oe), .second, .val (.int sel), .val (.int id2), .val (.int ld2), .val (.long ep2), .second, .val (.int rr1), .val (.int rr2), .val (.ref w1), .val (.ref w2), .val (.ref b18), .val (.int (((sel.toUInt32 >>> ((7 : Int32) &&& 31).toUInt32).toInt32) &&& (3 : Int32))), .val (.ref b30), .val (.int (1 : Int32))] [(.int (1 : Int32))])) _
                exact retN X43 hx (t := .boolean) Bd.returns (by simp) (hb hby at_235) hr
              · show Q_rm0 Z wL wF wE wcI ccI id1 ld1 ep1 ot oe sel h0 n0 _ T43.heap _
                rw [e43]
                exact ⟨rfl, N43⟩
            · have f46 : Exa Z T31.heap b18 "com/example/ballot/ballot/model/Status" := ((y19_0.ext E30).keep K31q)
              have f47 : Fld Z T31.heap b18 "com/example/ballot/ballot/model/Status" "id" "I" (.int id1) := ((y19_1.ext E30).keep K31q (ninS ne_b18_b30 nin0))
              have f48 : Fld Z T31.heap b18 "com/example/ballot/ballot/model/Status" "role" "Lcom/example/ballot/ballot/model/Role;" (.ref w1) := ((y19_2.ext E30).keep K31q (ninS ne_b18_b30 nin0))
              have f49 : Fld Z T31.heap b18 "com/example/ballot/ballot/model/Status" "leader" "I" (.int ld1) := ((y19_3.ext E30).keep K31q (ninS ne_b18_b30 nin0))
              have f50 : Fld Z T31.heap b18 "com/example/ballot/ballot/model/Status" "epoch" "J" (.long ep1) := ((y19_4.ext E30).keep K31q (ninS ne_b18_b30 nin0))
              obtain ⟨cq45, kq45, q45a, q45b, q45c⟩ := isOf hZ31 rfl f46
              obtain ⟨_, _, ⟨T45, L45, k45, n45⟩, -, X45, ⟨Lc45, hQ45, l45, y45, z45⟩, st45⟩ := X31.virtualBack hx (y := (⟨"com/example/ballot/ballot/model/Status", "equals", "(Ljava/lang/Object;)Z"⟩ : MethodName)) (z := (⟨"com/example/ballot/ballot/model/Status", "equals", "(Ljava/lang/Object;)Z"⟩ : MethodName)) hown31 (mvT hZ31 (hw _ (List.mem_of_getElem? (i := 38) rfl))) (mvT hZ31 (hw _ (List.mem_of_getElem? (i := 39) rfl))) (notFace_of_selects (args := #[]) (mvT hZ31 (hw _ (List.mem_of_getElem? (i := 41) rfl)))) (mvT hZ31 (hw _ (List.mem_of_getElem? (i := 41) rfl))) (mvT hZ31 (hw _ (List.mem_of_getElem? (i := 40) rfl))) (by decide) (backOf (W := 0) (eq3 l Z a0 hw [] wL wF wE wcI ccI b18 b30 id1 id2 w1 w2 ld1 ld2 ep1 ep2 T31.heap n0 O31 S_wL S_wF S_wE E_wL E_wF E_wE nLF nLE nFE S_cI B_cI S_hi   f46 y31_0 f47 f48 f49 f50 y31_1 y31_2 y31_3 y31_4 cq0 (hrr.1 cq1) cq2 cq3) hZ31 (hw _ (List.mem_of_getElem? (i := 42) rfl)) (hw _ (List.mem_of_getElem? (i := 9) rfl)) (by decide) (by decide)) q45a q45c (g := (mkF m 210 #[.val (.int id1), .val (.int ld1), .val (.long ep1), .second, .val (.int ot), .val (.long oe), .second, .val (.int sel), .val (.int id2), .val (.int ld2), .val (.long ep2), .second, .val (.int rr1), .val (.int rr2), .val (.ref w1), .val (.ref w2), .val (.ref b18), .val (.int (((sel.toUInt32 >>> ((7 : Int32) &&& 31).toUInt32).toInt32) &&& (3 : Int32))), .val (.ref b30), .val (.int (0 : Int32))] [(.ref b30), (.ref b18)])) rfl (by rw [hml]; rfl) (Steps.refl _) (argsL := [(.ref b30)]) (rest := []) (lenOf pd_5 rfl) rfl (by show 2 * 0 + _ ≤ _; exact Nat.le_of_eq rfl) (hb hby at_210) (fun _ _ => ⟨rfl, rfl, (by decide : 6 + 0 ≤ _), (by decide : 48 + 0 ≤ _)⟩)
              dsimp only [Pt.U, Pt.locs, Pt.cells, Pt.slots] at X45 l45 y45 z45 st45 hQ45
              subst l45 y45 z45
              obtain ⟨rfl, N45q, e45⟩ := hQ45
              have N45 := Fr.app N31 N45q
              obtain ⟨cq51, kq51, q51a, q51b, q51c⟩ := isOf hZ31 e45 y31_0
              obtain ⟨_, _, ⟨T51, L51, k51, n51⟩, -, X51, ⟨Lc51, hQ51, l51, y51, z51⟩, st51⟩ := X45.virtualBack hx (y := (⟨"com/example/ballot/ballot/model/Status", "equals", "(Ljava/lang/Object;)Z"⟩ : MethodName)) (z := (⟨"com/example/ballot/ballot/model/Status", "equals", "(Ljava/lang/Object;)Z"⟩ : MethodName)) hown31 (mvT hZ31 (hw _ (List.mem_of_getElem? (i := 38) rfl))) (mvT hZ31 (hw _ (List.mem_of_getElem? (i := 39) rfl))) (notFace_of_selects (args := #[]) (mvT hZ31 (hw _ (List.mem_of_getElem? (i := 41) rfl)))) (mvT hZ31 (hw _ (List.mem_of_getElem? (i := 41) rfl))) (mvT hZ31 (hw _ (List.mem_of_getElem? (i := 40) rfl))) (by decide) (backOf (W := 0) (eq3 l Z a0 hw [] wL wF wE wcI ccI b30 b18 id2 id1 w2 w1 ld2 ld1 ep2 ep1 T31.heap n0 O31 S_wL S_wF S_wE E_wL E_wF E_wE nLF nLE nFE S_cI B_cI S_hi   y31_0 f46 y31_1 y31_2 y31_3 y31_4 f47 f48 f49 f50 cq0.symm (hrr.1 cq1).symm cq2.symm (fun q => cq3 ((lw_eq _ _).2 ((lw_eq _ _).1 q).symm))) hZ31 (hw _ (List.mem_of_getElem? (i := 42) rfl)) (hw _ (List.mem_of_getElem? (i := 9) rfl)) (by decide) (by decide)) q51a q51c (g := (mkF m 222 #[.val (.int id1), .val (.int ld1), .val (.long ep1), .second, .val (.int ot), .val (.long oe), .second, .val (.int sel), .val (.int id2), .val (.int ld2), .val (.long ep2), .second, .val (.int rr1), .val (.int rr2), .val (.ref w1), .val (.ref w2), .val (.ref b18), .val (.int (((sel.toUInt32 >>> ((7 : Int32) &&& 31).toUInt32).toInt32) &&& (3 : Int32))), .val (.ref b30), .val (.int (0 : Int32))] [(.ref b18), (.ref b30)])) rfl (by rw [hml]; rfl) (Steps.refl _) (argsL := [(.ref b18)]) (rest := []) (lenOf pd_5 rfl) rfl (by show 2 * 0 + _ ≤ _; exact Nat.le_of_eq rfl) (hb hby at_222) (fun _ _ => ⟨rfl, e45, (by decide : 6 + 0 ≤ _), (by decide : 48 + 0 ≤ _)⟩)
              dsimp only [Pt.U, Pt.locs, Pt.cells, Pt.slots] at X51 l51 y51 z51 st51 hQ51
              subst l51 y51 z51
              obtain ⟨rfl, N51q, e51⟩ := hQ51
              have N51 := Fr.app N45 N51q
              have R52 : ∀ t, Steps p.tables e below (T51.setTop (mkF m 235 #[.val (.int id1), .val (.int ld1), .val (.long ep1), .second, .val (.int ot), .val (.long oe), .second, .val (.int sel), .val (.int id2), .val (.int ld2), .val (.long ep2), .second, .val (.int rr1), .val (.int rr2), .val (.ref w1), .val (.ref w2), .val (.ref b18), .val (.int (((sel.toUInt32 >>> ((7 : Int32) &&& 31).toUInt32).toInt32) &&& (3 : Int32))), .val (.ref b30), .val (.int (0 : Int32))] [(.int (1 : Int32))])) t → Steps p.tables e below (s₁.setTop (entryFrame m #[(.int id1), (.int ld1), (.long ep1), (.int ot), (.long oe), (.int sel)] maxLocals)) t := by
                intro t k
                refine R36 t ?_
                show Steps p.tables e below (T31.setTop (mkF m 196 #[.val (.int id1), .val (.int ld1), .val (.long ep1), .second, .val (.int ot), .val (.long oe), .second, .val (.int sel), .val (.int id2), .val (.int ld2), .val (.long ep2), .second, .val (.int rr1), .val (.int rr2), .val (.ref w1), .val (.ref w2), .val (.ref b18), .val (.int (((sel.toUInt32 >>> ((7 : Int32) &&& 31).toUInt32).toInt32) &&& (3 : Int32))), .val (.ref b30), .unset] [(.int (lcmpW ep1 ep2))])) t
                refine XS.ifYes X31.here hx rfl (pc0 := 196) (pc' := 203) rfl (hb hby at_196) rfl ((if0 _ _).trans (feq (cq3 : ¬ ((lcmpW ep1 ep2) = (0 : Int32)))).2) (by decide) (by decide) ?_
                show Steps p.tables e below (T31.setTop (mkF m 203 #[.val (.int id1), .val (.int ld1), .val (.long ep1), .second, .val (.int ot), .val (.long oe), .second, .val (.int sel), .val (.int id2), .val (.int ld2), .val (.long ep2), .second, .val (.int rr1), .val (.int rr2), .val (.ref w1), .val (.ref w2), .val (.ref b18), .val (.int (((sel.toUInt32 >>> ((7 : Int32) &&& 31).toUInt32).toInt32) &&& (3 : Int32))), .val (.ref b30), .unset] [])) t
                refine XS.iconst X31.here hx rfl (hb hby at_203) ?_
                show Steps p.tables e below (T31.setTop (mkF m 204 #[.val (.int id1), .val (.int ld1), .val (.long ep1), .second, .val (.int ot), .val (.long oe), .second, .val (.int sel), .val (.int id2), .val (.int ld2), .val (.long ep2), .second, .val (.int rr1), .val (.int rr2), .val (.ref w1), .val (.ref w2), .val (.ref b18), .val (.int (((sel.toUInt32 >>> ((7 : Int32) &&& 31).toUInt32).toInt32) &&& (3 : Int32))), .val (.ref b30), .unset] [(.int (0 : Int32))])) t
                refine XS.istore X31.here hx rfl (hb hby at_204) rfl (l' := #[.val (.int id1), .val (.int ld1), .val (.long ep1), .second, .val (.int ot), .val (.long oe), .second, .val (.int sel), .val (.int id2), .val (.int ld2), .val (.long ep2), .second, .val (.int rr1), .val (.int rr2), .val (.ref w1), .val (.ref w2), .val (.ref b18), .val (.int (((sel.toUInt32 >>> ((7 : Int32) &&& 31).toUInt32).toInt32) &&& (3 : Int32))), .val (.ref b30), .val (.int (0 : Int32))]) rfl ?_
                show Steps p.tables e below (T31.setTop (mkF m 206 #[.val (.int id1), .val (.int ld1), .val (.long ep1), .second, .val (.int ot), .val (.long oe), .second, .val (.int sel), .val (.int id2), .val (.int ld2), .val (.long ep2), .second, .val (.int rr1), .val (.int rr2), .val (.ref w1), .val (.ref w2), .val (.ref b18), .val (.int (((sel.toUInt32 >>> ((7 : Int32) &&& 31).toUInt32).toInt32) &&& (3 : Int32))), .val (.ref b30), .val (.int (0 : Int32))] [])) t
                refine XS.aload X31.here hx rfl (hb hby at_206) rfl rfl ?_
                show Steps p.tables e below (T31.setTop (mkF m 208 #[.val (.int id1), .val (.int ld1), .val (.long ep1), .second, .val (.int ot), .val (.long oe), .second, .val (.int sel), .val (.int id2), .val (.int ld2), .val (.long ep2), .second, .val (.int rr1), .val (.int rr2), .val (.ref w1), .val (.ref w2), .val (.ref b18), .val (.int (((sel.toUInt32 >>> ((7 : Int32) &&& 31).toUInt32).toInt32) &&& (3 : Int32))), .val (.ref b30), .val (.int (0 : Int32))] [(.ref b18)])) t
                refine XS.aload X31.here hx rfl (hb hby at_208) rfl rfl ?_
                show Steps p.tables e below (T31.setTop (mkF m 210 #[.val (.int id1), .val (.int ld1), .val (.long ep1), .second, .val (.int ot), .val (.long oe), .second, .val (.int sel), .val (.int id2), .val (.int ld2), .val (.long ep2), .second, .val (.int rr1), .val (.int rr2), .val (.ref w1), .val (.ref w2), .val (.ref b18), .val (.int (((sel.toUInt32 >>> ((7 : Int32) &&& 31).toUInt32).toInt32) &&& (3 : Int32))), .val (.ref b30), .val (.int (0 : Int32))] [(.ref b30), (.ref b18)])) t
                refine st45.trans ?_
                show Steps p.tables e below (T45.setTop (mkF m 213 #[.val (.int id1), .val (.int ld1), .val (.long ep1), .second, .val (.int ot), .val (.long oe), .second, .val (.int sel), .val (.int id2), .val (.int ld2), .val (.long ep2), .second, .val (.int rr1), .val (.int rr2), .val (.ref w1), .val (.ref w2), .val (.ref b18), .val (.int (((sel.toUInt32 >>> ((7 : Int32) &&& 31).toUInt32).toInt32) &&& (3 : Int32))), .val (.ref b30), .val (.int (0 : Int32))] [(.int (0 : Int32))])) t
                refine XS.iload X45.here hx rfl (hb hby at_213) rfl ?_
                show Steps p.tables e below (T45.setTop (mkF m 215 #[.val (.int id1), .val (.int ld1), .val (.long ep1), .second, .val (.int ot), .val (.long oe), .second, .val (.int sel), .val (.int id2), .val (.int ld2), .val (.long ep2), .second, .val (.int rr1), .val (.int rr2), .val (.ref w1), .val (.ref w2), .val (.ref b18), .val (.int (((sel.toUInt32 >>> ((7 : Int32) &&& 31).toUInt32).toInt32) &&& (3 : Int32))), .val (.ref b30), .val (.int (0 : Int32))] [(.int (0 : Int32)), (.int (0 : Int32))])) t
                refine XS.icmpNo X45.here hx rfl (hb hby at_215) rfl (teq ((by decide) : (0 : Int32) = (0 : Int32))).2 ?_
                show Steps p.tables e below (T45.setTop (mkF m 218 #[.val (.int id1), .val (.int ld1), .val (.long ep1), .second, .val (.int ot), .val (.long oe), .second, .val (.int sel), .val (.int id2), .val (.int ld2), .val (.long ep2), .second, .val (.int rr1), .val (.int rr2), .val (.ref w1), .val (.ref w2), .val (.ref b18), .val (.int (((sel.toUInt32 >>> ((7 : Int32) &&& 31).toUInt32).toInt32) &&& (3 : Int32))), .val (.ref b30), .val (.int (0 : Int32))] [])) t
                refine XS.aload X45.here hx rfl (hb hby at_218) rfl rfl ?_
                show Steps p.tables e below (T45.setTop (mkF m 220 #[.val (.int id1), .val (.int ld1), .val (.long ep1), .second, .val (.int ot), .val (.long oe), .second, .val (.int sel), .val (.int id2), .val (.int ld2), .val (.long ep2), .second, .val (.int rr1), .val (.int rr2), .val (.ref w1), .val (.ref w2), .val (.ref b18), .val (.int (((sel.toUInt32 >>> ((7 : Int32) &&& 31).toUInt32).toInt32) &&& (3 : Int32))), .val (.ref b30), .val (.int (0 : Int32))] [(.ref b30)])) t
                refine XS.aload X45.here hx rfl (hb hby at_220) rfl rfl ?_
                show Steps p.tables e below (T45.setTop (mkF m 222 #[.val (.int id1), .val (.int ld1), .val (.long ep1), .second, .val (.int ot), .val (.long oe), .second, .val (.int sel), .val (.int id2), .val (.int ld2), .val (.long ep2), .second, .val (.int rr1), .val (.int rr2), .val (.ref w1), .val (.ref w2), .val (.ref b18), .val (.int (((sel.toUInt32 >>> ((7 : Int32) &&& 31).toUInt32).toInt32) &&& (3 : Int32))), .val (.ref b30), .val (.int (0 : Int32))] [(.ref b18), (.ref b30)])) t
                refine st51.trans ?_
                show Steps p.tables e below (T51.setTop (mkF m 225 #[.val (.int id1), .val (.int ld1), .val (.long ep1), .second, .val (.int ot), .val (.long oe), .second, .val (.int sel), .val (.int id2), .val (.int ld2), .val (.long ep2), .second, .val (.int rr1), .val (.int rr2), .val (.ref w1), .val (.ref w2), .val (.ref b18), .val (.int (((sel.toUInt32 >>> ((7 : Int32) &&& 31).toUInt32).toInt32) &&& (3 : Int32))), .val (.ref b30), .val (.int (0 : Int32))] [(.int (0 : Int32))])) t
                refine XS.iload X51.here hx rfl (hb hby at_225) rfl ?_
                show Steps p.tables e below (T51.setTop (mkF m 227 #[.val (.int id1), .val (.int ld1), .val (.long ep1), .second, .val (.int ot), .val (.long oe), .second, .val (.int sel), .val (.int id2), .val (.int ld2), .val (.long ep2), .second, .val (.int rr1), .val (.int rr2), .val (.ref w1), .val (.ref w2), .val (.ref b18), .val (.int (((sel.toUInt32 >>> ((7 : Int32) &&& 31).toUInt32).toInt32) &&& (3 : Int32))), .val (.ref b30), .val (.int (0 : Int32))] [(.int (0 : Int32)), (.int (0 : Int32))])) t
                refine XS.icmpNo X51.here hx rfl (hb hby at_227) rfl (teq ((by decide) : (0 : Int32) = (0 : Int32))).2 ?_
                show Steps p.tables e below (T51.setTop (mkF m 230 #[.val (.int id1), .val (.int ld1), .val (.long ep1), .second, .val (.int ot), .val (.long oe), .second, .val (.int sel), .val (.int id2), .val (.int ld2), .val (.long ep2), .second, .val (.int rr1), .val (.int rr2), .val (.ref w1), .val (.ref w2), .val (.ref b18), .val (.int (((sel.toUInt32 >>> ((7 : Int32) &&& 31).toUInt32).toInt32) &&& (3 : Int32))), .val (.ref b30), .val (.int (0 : Int32))] [])) t
                refine XS.iconst X51.here hx rfl (hb hby at_230) ?_
                show Steps p.tables e below (T51.setTop (mkF m 231 #[.val (.int id1), .val (.int ld1), .val (.long ep1), .second, .val (.int ot), .val (.long oe), .second, .val (.int sel), .val (.int id2), .val (.int ld2), .val (.long ep2), .second, .val (.int rr1), .val (.int rr2), .val (.ref w1), .val (.ref w2), .val (.ref b18), .val (.int (((sel.toUInt32 >>> ((7 : Int32) &&& 31).toUInt32).toInt32) &&& (3 : Int32))), .val (.ref b30), .val (.int (0 : Int32))] [(.int (1 : Int32))])) t
                refine XS.goto X51.here hx rfl (pc0 := 231) (pc' := 235) rfl (hb hby at_231) (by decide) (by decide) ?_
                exact k
              obtain ⟨fs, hr, hrun, hended, hRW⟩ := X51.leaveW hS31 (by rw [e51]; exact hk31) (v := some (.int (1 : Int32))) (fun h => by rw [Bd.returns] at h; cases h)
              refine ⟨_, _, R52 _ ?_, hrun, hended, _, _, rfl, ?_, hRW.1, hRW.2.1, hRW.2.2.1, hRW.2.2.2.mono (by decide) (by decide)⟩
              · show Steps p.tables e below (T51.setTop (mkF m 235 #[.val (.int id1), .val (.int ld1), .val (.long ep1), .second, .val (.int ot), .val (.long oe), .second, .val (.int sel), .val (.int id2), .val (.int ld2), .val (.long ep2), .second, .val (.int rr1), .val (.int rr2), .val (.ref w1), .val (.ref w2), .val (.ref b18), .val (.int (((sel.toUInt32 >>> ((7 : Int32) &&& 31).toUInt32).toInt32) &&& (3 : Int32))), .val (.ref b30), .val (.int (0 : Int32))] [(.int (1 : Int32))])) _
                exact retN X51 hx (t := .boolean) Bd.returns (by simp) (hb hby at_235) hr
              · show Q_rm0 Z wL wF wE wcI ccI id1 ld1 ep1 ot oe sel h0 n0 _ T51.heap _
                rw [e51]
                exact ⟨rfl, N51⟩
          · have f54 : Exa Z T31.heap b18 "com/example/ballot/ballot/model/Status" := ((y19_0.ext E30).keep K31q)
            have f55 : Fld Z T31.heap b18 "com/example/ballot/ballot/model/Status" "id" "I" (.int id1) := ((y19_1.ext E30).keep K31q (ninS ne_b18_b30 nin0))
            have f56 : Fld Z T31.heap b18 "com/example/ballot/ballot/model/Status" "role" "Lcom/example/ballot/ballot/model/Role;" (.ref w1) := ((y19_2.ext E30).keep K31q (ninS ne_b18_b30 nin0))
            have f57 : Fld Z T31.heap b18 "com/example/ballot/ballot/model/Status" "leader" "I" (.int ld1) := ((y19_3.ext E30).keep K31q (ninS ne_b18_b30 nin0))
            have f58 : Fld Z T31.heap b18 "com/example/ballot/ballot/model/Status" "epoch" "J" (.long ep1) := ((y19_4.ext E30).keep K31q (ninS ne_b18_b30 nin0))
            obtain ⟨cq53, kq53, q53a, q53b, q53c⟩ := isOf hZ31 rfl f54
            obtain ⟨_, _, ⟨T53, L53, k53, n53⟩, -, X53, ⟨Lc53, hQ53, l53, y53, z53⟩, st53⟩ := X31.virtualBack hx (y := (⟨"com/example/ballot/ballot/model/Status", "equals", "(Ljava/lang/Object;)Z"⟩ : MethodName)) (z := (⟨"com/example/ballot/ballot/model/Status", "equals", "(Ljava/lang/Object;)Z"⟩ : MethodName)) hown31 (mvT hZ31 (hw _ (List.mem_of_getElem? (i := 38) rfl))) (mvT hZ31 (hw _ (List.mem_of_getElem? (i := 39) rfl))) (notFace_of_selects (args := #[]) (mvT hZ31 (hw _ (List.mem_of_getElem? (i := 41) rfl)))) (mvT hZ31 (hw _ (List.mem_of_getElem? (i := 41) rfl))) (mvT hZ31 (hw _ (List.mem_of_getElem? (i := 40) rfl))) (by decide) (backOf (W := 0) (eq2 l Z a0 hw [] wL wF wE wcI ccI b18 b30 id1 id2 w1 w2 ld1 ld2 ep1 ep2 T31.heap n0 O31 S_wL S_wF S_wE E_wL E_wF E_wE nLF nLE nFE S_cI B_cI S_hi   f54 y31_0 f55 f56 f57 f58 y31_1 y31_2 y31_3 y31_4 cq0 (hrr.1 cq1) cq2) hZ31 (hw _ (List.mem_of_getElem? (i := 42) rfl)) (hw _ (List.mem_of_getElem? (i := 9) rfl)) (by decide) (by decide)) q53a q53c (g := (mkF m 210 #[.val (.int id1), .val (.int ld1), .val (.long ep1), .second, .val (.int ot), .val (.long oe), .second, .val (.int sel), .val (.int id2), .val (.int ld2), .val (.long ep2), .second, .val (.int rr1), .val (.int rr2), .val (.ref w1), .val (.ref w2), .val (.ref b18), .val (.int (((sel.toUInt32 >>> ((7 : Int32) &&& 31).toUInt32).toInt32) &&& (3 : Int32))), .val (.ref b30), .val (.int (0 : Int32))] [(.ref b30), (.ref b18)])) rfl (by rw [hml]; rfl) (Steps.refl _) (argsL := [(.ref b30)]) (rest := []) (lenOf pd_5 rfl) rfl (by show 2 * 0 + _ ≤ _; exact Nat.le_of_eq rfl) (hb hby at_210) (fun _ _ => ⟨rfl, rfl, (by decide : 6 + 0 ≤ _), (by decide : 48 + 0 ≤ _)⟩)
            dsimp only [Pt.U, Pt.locs, Pt.cells, Pt.slots] at X53 l53 y53 z53 st53 hQ53
            subst l53 y53 z53
            obtain ⟨rfl, N53q, e53⟩ := hQ53
            have N53 := Fr.app N31 N53q
            obtain ⟨cq59, kq59, q59a, q59b, q59c⟩ := isOf hZ31 e53 y31_0
            obtain ⟨_, _, ⟨T59, L59, k59, n59⟩, -, X59, ⟨Lc59, hQ59, l59, y59, z59⟩, st59⟩ := X53.virtualBack hx (y := (⟨"com/example/ballot/ballot/model/Status", "equals", "(Ljava/lang/Object;)Z"⟩ : MethodName)) (z := (⟨"com/example/ballot/ballot/model/Status", "equals", "(Ljava/lang/Object;)Z"⟩ : MethodName)) hown31 (mvT hZ31 (hw _ (List.mem_of_getElem? (i := 38) rfl))) (mvT hZ31 (hw _ (List.mem_of_getElem? (i := 39) rfl))) (notFace_of_selects (args := #[]) (mvT hZ31 (hw _ (List.mem_of_getElem? (i := 41) rfl)))) (mvT hZ31 (hw _ (List.mem_of_getElem? (i := 41) rfl))) (mvT hZ31 (hw _ (List.mem_of_getElem? (i := 40) rfl))) (by decide) (backOf (W := 0) (eq2 l Z a0 hw [] wL wF wE wcI ccI b30 b18 id2 id1 w2 w1 ld2 ld1 ep2 ep1 T31.heap n0 O31 S_wL S_wF S_wE E_wL E_wF E_wE nLF nLE nFE S_cI B_cI S_hi   y31_0 f54 y31_1 y31_2 y31_3 y31_4 f55 f56 f57 f58 cq0.symm (hrr.1 cq1).symm (fun q => cq2 q.symm)) hZ31 (hw _ (List.mem_of_getElem? (i := 42) rfl)) (hw _ (List.mem_of_getElem? (i := 9) rfl)) (by decide) (by decide)) q59a q59c (g := (mkF m 222 #[.val (.int id1), .val (.int ld1), .val (.long ep1), .second, .val (.int ot), .val (.long oe), .second, .val (.int sel), .val (.int id2), .val (.int ld2), .val (.long ep2), .second, .val (.int rr1), .val (.int rr2), .val (.ref w1), .val (.ref w2), .val (.ref b18), .val (.int (((sel.toUInt32 >>> ((7 : Int32) &&& 31).toUInt32).toInt32) &&& (3 : Int32))), .val (.ref b30), .val (.int (0 : Int32))] [(.ref b18), (.ref b30)])) rfl (by rw [hml]; rfl) (Steps.refl _) (argsL := [(.ref b18)]) (rest := []) (lenOf pd_5 rfl) rfl (by show 2 * 0 + _ ≤ _; exact Nat.le_of_eq rfl) (hb hby at_222) (fun _ _ => ⟨rfl, e53, (by decide : 6 + 0 ≤ _), (by decide : 48 + 0 ≤ _)⟩)
            dsimp only [Pt.U, Pt.locs, Pt.cells, Pt.slots] at X59 l59 y59 z59 st59 hQ59
            subst l59 y59 z59
            obtain ⟨rfl, N59q, e59⟩ := hQ59
            have N59 := Fr.app N53 N59q
            have R60 : ∀ t, Steps p.tables e below (T59.setTop (mkF m 235 #[.val (.int id1), .val (.int ld1), .val (.long ep1), .second, .val (.int ot), .val (.long oe), .second, .val (.int sel), .val (.int id2), .val (.int ld2), .val (.long ep2), .second, .val (.int rr1), .val (.int rr2), .val (.ref w1), .val (.ref w2), .val (.ref b18), .val (.int (((sel.toUInt32 >>> ((7 : Int32) &&& 31).toUInt32).toInt32) &&& (3 : Int32))), .val (.ref b30), .val (.int (0 : Int32))] [(.int (1 : Int32))])) t → Steps p.tables e below (s₁.setTop (entryFrame m #[(.int id1), (.int ld1), (.long ep1), (.int ot), (.long oe), (.int sel)] maxLocals)) t := by
              intro t k
              refine R35 t ?_
              show Steps p.tables e below (T31.setTop (mkF m 189 #[.val (.int id1), .val (.int ld1), .val (.long ep1), .second, .val (.int ot), .val (.long oe), .second, .val (.int sel), .val (.int id2), .val (.int ld2), .val (.long ep2), .second, .val (.int rr1), .val (.int rr2), .val (.ref w1), .val (.ref w2), .val (.ref b18), .val (.int (((sel.toUInt32 >>> ((7 : Int32) &&& 31).toUInt32).toInt32) &&& (3 : Int32))), .val (.ref b30), .unset] [(.int ld2), (.int ld1)])) t
              refine XS.icmpYes X31.here hx rfl (pc0 := 189) (pc' := 203) rfl (hb hby at_189) rfl (feq (cq2 : ¬ (ld1 = ld2))).2 (by decide) (by decide) ?_
              show Steps p.tables e below (T31.setTop (mkF m 203 #[.val (.int id1), .val (.int ld1), .val (.long ep1), .second, .val (.int ot), .val (.long oe), .second, .val (.int sel), .val (.int id2), .val (.int ld2), .val (.long ep2), .second, .val (.int rr1), .val (.int rr2), .val (.ref w1), .val (.ref w2), .val (.ref b18), .val (.int (((sel.toUInt32 >>> ((7 : Int32) &&& 31).toUInt32).toInt32) &&& (3 : Int32))), .val (.ref b30), .unset] [])) t
              refine XS.iconst X31.here hx rfl (hb hby at_203) ?_
              show Steps p.tables e below (T31.setTop (mkF m 204 #[.val (.int id1), .val (.int ld1), .val (.long ep1), .second, .val (.int ot), .val (.long oe), .second, .val (.int sel), .val (.int id2), .val (.int ld2), .val (.long ep2), .second, .val (.int rr1), .val (.int rr2), .val (.ref w1), .val (.ref w2), .val (.ref b18), .val (.int (((sel.toUInt32 >>> ((7 : Int32) &&& 31).toUInt32).toInt32) &&& (3 : Int32))), .val (.ref b30), .unset] [(.int (0 : Int32))])) t
              refine XS.istore X31.here hx rfl (hb hby at_204) rfl (l' := #[.val (.int id1), .val (.int ld1), .val (.long ep1), .second, .val (.int ot), .val (.long oe), .second, .val (.int sel), .val (.int id2), .val (.int ld2), .val (.long ep2), .second, .val (.int rr1), .val (.int rr2), .val (.ref w1), .val (.ref w2), .val (.ref b18), .val (.int (((sel.toUInt32 >>> ((7 : Int32) &&& 31).toUInt32).toInt32) &&& (3 : Int32))), .val (.ref b30), .val (.int (0 : Int32))]) rfl ?_
              show Steps p.tables e below (T31.setTop (mkF m 206 #[.val (.int id1), .val (.int ld1), .val (.long ep1), .second, .val (.int ot), .val (.long oe), .second, .val (.int sel), .val (.int id2), .val (.int ld2), .val (.long ep2), .second, .val (.int rr1), .val (.int rr2), .val (.ref w1), .val (.ref w2), .val (.ref b18), .val (.int (((sel.toUInt32 >>> ((7 : Int32) &&& 31).toUInt32).toInt32) &&& (3 : Int32))), .val (.ref b30), .val (.int (0 : Int32))] [])) t
              refine XS.aload X31.here hx rfl (hb hby at_206) rfl rfl ?_
              show Steps p.tables e below (T31.setTop (mkF m 208 #[.val (.int id1), .val (.int ld1), .val (.long ep1), .second, .val (.int ot), .val (.long oe), .second, .val (.int sel), .val (.int id2), .val (.int ld2), .val (.long ep2), .second, .val (.int rr1), .val (.int rr2), .val (.ref w1), .val (.ref w2), .val (.ref b18), .val (.int (((sel.toUInt32 >>> ((7 : Int32) &&& 31).toUInt32).toInt32) &&& (3 : Int32))), .val (.ref b30), .val (.int (0 : Int32))] [(.ref b18)])) t
              refine XS.aload X31.here hx rfl (hb hby at_208) rfl rfl ?_
              show Steps p.tables e below (T31.setTop (mkF m 210 #[.val (.int id1), .val (.int ld1), .val (.long ep1), .second, .val (.int ot), .val (.long oe), .second, .val (.int sel), .val (.int id2), .val (.int ld2), .val (.long ep2), .second, .val (.int rr1), .val (.int rr2), .val (.ref w1), .val (.ref w2), .val (.ref b18), .val (.int (((sel.toUInt32 >>> ((7 : Int32) &&& 31).toUInt32).toInt32) &&& (3 : Int32))), .val (.ref b30), .val (.int (0 : Int32))] [(.ref b30), (.ref b18)])) t
              refine st53.trans ?_
              show Steps p.tables e below (T53.setTop (mkF m 213 #[.val (.int id1), .val (.int ld1), .val (.long ep1), .second, .val (.int ot), .val (.long oe), .second, .val (.int sel), .val (.int id2), .val (.int ld2), .val (.long ep2), .second, .val (.int rr1), .val (.int rr2), .val (.ref w1), .val (.ref w2), .val (.ref b18), .val (.int (((sel.toUInt32 >>> ((7 : Int32) &&& 31).toUInt32).toInt32) &&& (3 : Int32))), .val (.ref b30), .val (.int (0 : Int32))] [(.int (0 : Int32))])) t
              refine XS.iload X53.here hx rfl (hb hby at_213) rfl ?_
              show Steps p.tables e below (T53.setTop (mkF m 215 #[.val (.int id1), .val (.int ld1), .val (.long ep1), .second, .val (.int ot), .val (.long oe), .second, .val (.int sel), .val (.int id2), .val (.int ld2), .val (.long ep2), .second, .val (.int rr1), .val (.int rr2), .val (.ref w1), .val (.ref w2), .val (.ref b18), .val (.int (((sel.toUInt32 >>> ((7 : Int32) &&& 31).toUInt32).toInt32) &&& (3 : Int32))), .val (.ref b30), .val (.int (0 : Int32))] [(.int (0 : Int32)), (.int (0 : Int32))])) t
              refine XS.icmpNo X53.here hx rfl (hb hby at_215) rfl (teq ((by decide) : (0 : Int32) = (0 : Int32))).2 ?_
              show Steps p.tables e below (T53.setTop (mkF m 218 #[.val (.int id1), .val (.int ld1), .val (.long ep1), .second, .val (.int ot), .val (.long oe), .second, .val (.int sel), .val (.int id2), .val (.int ld2), .val (.long ep2), .second, .val (.int rr1), .val (.int rr2), .val (.ref w1), .val (.ref w2), .val (.ref b18), .val (.int (((sel.toUInt32 >>> ((7 : Int32) &&& 31).toUInt32).toInt32) &&& (3 : Int32))), .val (.ref b30), .val (.int (0 : Int32))] [])) t
              refine XS.aload X53.here hx rfl (hb hby at_218) rfl rfl ?_
              show Steps p.tables e below (T53.setTop (mkF m 220 #[.val (.int id1), .val (.int ld1), .val (.long ep1), .second, .val (.int ot), .val (.long oe), .second, .val (.int sel), .val (.int id2), .val (.int ld2), .val (.long ep2), .second, .val (.int rr1), .val (.int rr2), .val (.ref w1), .val (.ref w2), .val (.ref b18), .val (.int (((sel.toUInt32 >>> ((7 : Int32) &&& 31).toUInt32).toInt32) &&& (3 : Int32))), .val (.ref b30), .val (.int (0 : Int32))] [(.ref b30)])) t
              refine XS.aload X53.here hx rfl (hb hby at_220) rfl rfl ?_
              show Steps p.tables e below (T53.setTop (mkF m 222 #[.val (.int id1), .val (.int ld1), .val (.long ep1), .second, .val (.int ot), .val (.long oe), .second, .val (.int sel), .val (.int id2), .val (.int ld2), .val (.long ep2), .second, .val (.int rr1), .val (.int rr2), .val (.ref w1), .val (.ref w2), .val (.ref b18), .val (.int (((sel.toUInt32 >>> ((7 : Int32) &&& 31).toUInt32).toInt32) &&& (3 : Int32))), .val (.ref b30), .val (.int (0 : Int32))] [(.ref b18), (.ref b30)])) t
              refine st59.trans ?_
              show Steps p.tables e below (T59.setTop (mkF m 225 #[.val (.int id1), .val (.int ld1), .val (.long ep1), .second, .val (.int ot), .val (.long oe), .second, .val (.int sel), .val (.int id2), .val (.int ld2), .val (.long ep2), .second, .val (.int rr1), .val (.int rr2), .val (.ref w1), .val (.ref w2), .val (.ref b18), .val (.int (((sel.toUInt32 >>> ((7 : Int32) &&& 31).toUInt32).toInt32) &&& (3 : Int32))), .val (.ref b30), .val (.int (0 : Int32))] [(.int (0 : Int32))])) t
              refine XS.iload X59.here hx rfl (hb hby at_225) rfl ?_
              show Steps p.tables e below (T59.setTop (mkF m 227 #[.val (.int id1), .val (.int ld1), .val (.long ep1), .second, .val (.int ot), .val (.long oe), .second, .val (.int sel), .val (.int id2), .val (.int ld2), .val (.long ep2), .second, .val (.int rr1), .val (.int rr2), .val (.ref w1), .val (.ref w2), .val (.ref b18), .val (.int (((sel.toUInt32 >>> ((7 : Int32) &&& 31).toUInt32).toInt32) &&& (3 : Int32))), .val (.ref b30), .val (.int (0 : Int32))] [(.int (0 : Int32)), (.int (0 : Int32))])) t
              refine XS.icmpNo X59.here hx rfl (hb hby at_227) rfl (teq ((by decide) : (0 : Int32) = (0 : Int32))).2 ?_
              show Steps p.tables e below (T59.setTop (mkF m 230 #[.val (.int id1), .val (.int ld1), .val (.long ep1), .second, .val (.int ot), .val (.long oe), .second, .val (.int sel), .val (.int id2), .val (.int ld2), .val (.long ep2), .second, .val (.int rr1), .val (.int rr2), .val (.ref w1), .val (.ref w2), .val (.ref b18), .val (.int (((sel.toUInt32 >>> ((7 : Int32) &&& 31).toUInt32).toInt32) &&& (3 : Int32))), .val (.ref b30), .val (.int (0 : Int32))] [])) t
              refine XS.iconst X59.here hx rfl (hb hby at_230) ?_
              show Steps p.tables e below (T59.setTop (mkF m 231 #[.val (.int id1), .val (.int ld1), .val (.long ep1), .second, .val (.int ot), .val (.long oe), .second, .val (.int sel), .val (.int id2), .val (.int ld2), .val (.long ep2), .second, .val (.int rr1), .val (.int rr2), .val (.ref w1), .val (.ref w2), .val (.ref b18), .val (.int (((sel.toUInt32 >>> ((7 : Int32) &&& 31).toUInt32).toInt32) &&& (3 : Int32))), .val (.ref b30), .val (.int (0 : Int32))] [(.int (1 : Int32))])) t
              refine XS.goto X59.here hx rfl (pc0 := 231) (pc' := 235) rfl (hb hby at_231) (by decide) (by decide) ?_
              exact k
            obtain ⟨fs, hr, hrun, hended, hRW⟩ := X59.leaveW hS31 (by rw [e59]; exact hk31) (v := some (.int (1 : Int32))) (fun h => by rw [Bd.returns] at h; cases h)
            refine ⟨_, _, R60 _ ?_, hrun, hended, _, _, rfl, ?_, hRW.1, hRW.2.1, hRW.2.2.1, hRW.2.2.2.mono (by decide) (by decide)⟩
            · show Steps p.tables e below (T59.setTop (mkF m 235 #[.val (.int id1), .val (.int ld1), .val (.long ep1), .second, .val (.int ot), .val (.long oe), .second, .val (.int sel), .val (.int id2), .val (.int ld2), .val (.long ep2), .second, .val (.int rr1), .val (.int rr2), .val (.ref w1), .val (.ref w2), .val (.ref b18), .val (.int (((sel.toUInt32 >>> ((7 : Int32) &&& 31).toUInt32).toInt32) &&& (3 : Int32))), .val (.ref b30), .val (.int (0 : Int32))] [(.int (1 : Int32))])) _
              exact retN X59 hx (t := .boolean) Bd.returns (by simp) (hb hby at_235) hr
            · show Q_rm0 Z wL wF wE wcI ccI id1 ld1 ep1 ot oe sel h0 n0 _ T59.heap _
              rw [e59]
              exact ⟨rfl, N59⟩
        · have f62 : Exa Z T31.heap b18 "com/example/ballot/ballot/model/Status" := ((y19_0.ext E30).keep K31q)
          have f63 : Fld Z T31.heap b18 "com/example/ballot/ballot/model/Status" "id" "I" (.int id1) := ((y19_1.ext E30).keep K31q (ninS ne_b18_b30 nin0))
          have f64 : Fld Z T31.heap b18 "com/example/ballot/ballot/model/Status" "role" "Lcom/example/ballot/ballot/model/Role;" (.ref w1) := ((y19_2.ext E30).keep K31q (ninS ne_b18_b30 nin0))
          have f65 : Fld Z T31.heap b18 "com/example/ballot/ballot/model/Status" "leader" "I" (.int ld1) := ((y19_3.ext E30).keep K31q (ninS ne_b18_b30 nin0))
          have f66 : Fld Z T31.heap b18 "com/example/ballot/ballot/model/Status" "epoch" "J" (.long ep1) := ((y19_4.ext E30).keep K31q (ninS ne_b18_b30 nin0))
          obtain ⟨cq61, kq61, q61a, q61b, q61c⟩ := isOf hZ31 rfl f62
          obtain ⟨_, _, ⟨T61, L61, k61, n61⟩, -, X61, ⟨Lc61, hQ61, l61, y61, z61⟩, st61⟩ := X31.virtualBack hx (y := (⟨"com/example/ballot/ballot/model/Status", "equals", "(Ljava/lang/Object;)Z"⟩ : MethodName)) (z := (⟨"com/example/ballot/ballot/model/Status", "equals", "(Ljava/lang/Object;)Z"⟩ : MethodName)) hown31 (mvT hZ31 (hw _ (List.mem_of_getElem? (i := 38) rfl))) (mvT hZ31 (hw _ (List.mem_of_getElem? (i := 39) rfl))) (notFace_of_selects (args := #[]) (mvT hZ31 (hw _ (List.mem_of_getElem? (i := 41) rfl)))) (mvT hZ31 (hw _ (List.mem_of_getElem? (i := 41) rfl))) (mvT hZ31 (hw _ (List.mem_of_getElem? (i := 40) rfl))) (by decide) (backOf (W := 0) (eq1 l Z a0 hw [] wL wF wE wcI ccI b18 b30 id1 id2 w1 w2 ld1 ld2 ep1 ep2 T31.heap n0 O31 S_wL S_wF S_wE E_wL E_wF E_wE nLF nLE nFE S_cI B_cI S_hi   f62 y31_0 f63 f64 f65 f66 y31_1 y31_2 y31_3 y31_4 cq0 (fun q => cq1 (hrr.2 q))) hZ31 (hw _ (List.mem_of_getElem? (i := 42) rfl)) (hw _ (List.mem_of_getElem? (i := 9) rfl)) (by decide) (by decide)) q61a q61c (g := (mkF m 210 #[.val (.int id1), .val (.int ld1), .val (.long ep1), .second, .val (.int ot), .val (.long oe), .second, .val (.int sel), .val (.int id2), .val (.int ld2), .val (.long ep2), .second, .val (.int rr1), .val (.int rr2), .val (.ref w1), .val (.ref w2), .val (.ref b18), .val (.int (((sel.toUInt32 >>> ((7 : Int32) &&& 31).toUInt32).toInt32) &&& (3 : Int32))), .val (.ref b30), .val (.int (0 : Int32))] [(.ref b30), (.ref b18)])) rfl (by rw [hml]; rfl) (Steps.refl _) (argsL := [(.ref b30)]) (rest := []) (lenOf pd_5 rfl) rfl (by show 2 * 0 + _ ≤ _; exact Nat.le_of_eq rfl) (hb hby at_210) (fun _ _ => ⟨rfl, rfl, (by decide : 6 + 0 ≤ _), (by decide : 48 + 0 ≤ _)⟩)
          dsimp only [Pt.U, Pt.locs, Pt.cells, Pt.slots] at X61 l61 y61 z61 st61 hQ61
          subst l61 y61 z61
          obtain ⟨rfl, N61q, e61⟩ := hQ61
          have N61 := Fr.app N31 N61q
          obtain ⟨cq67, kq67, q67a, q67b, q67c⟩ := isOf hZ31 e61 y31_0
          obtain ⟨_, _, ⟨T67, L67, k67, n67⟩, -, X67, ⟨Lc67, hQ67, l67, y67, z67⟩, st67⟩ := X61.virtualBack hx (y := (⟨"com/example/ballot/ballot/model/Status", "equals", "(Ljava/lang/Object;)Z"⟩ : MethodName)) (z := (⟨"com/example/ballot/ballot/model/Status", "equals", "(Ljava/lang/Object;)Z"⟩ : MethodName)) hown31 (mvT hZ31 (hw _ (List.mem_of_getElem? (i := 38) rfl))) (mvT hZ31 (hw _ (List.mem_of_getElem? (i := 39) rfl))) (notFace_of_selects (args := #[]) (mvT hZ31 (hw _ (List.mem_of_getElem? (i := 41) rfl)))) (mvT hZ31 (hw _ (List.mem_of_getElem? (i := 41) rfl))) (mvT hZ31 (hw _ (List.mem_of_getElem? (i := 40) rfl))) (by decide) (backOf (W := 0) (eq1 l Z a0 hw [] wL wF wE wcI ccI b30 b18 id2 id1 w2 w1 ld2 ld1 ep2 ep1 T31.heap n0 O31 S_wL S_wF S_wE E_wL E_wF E_wE nLF nLE nFE S_cI B_cI S_hi   y31_0 f62 y31_1 y31_2 y31_3 y31_4 f63 f64 f65 f66 cq0.symm (fun q => cq1 (hrr.2 q.symm))) hZ31 (hw _ (List.mem_of_getElem? (i := 42) rfl)) (hw _ (List.mem_of_getElem? (i := 9) rfl)) (by decide) (by decide)) q67a q67c (g := (mkF m 222 #[.val (.int id1), .val (.int ld1), .val (.long ep1), .second, .val (.int ot), .val (.long oe), .second, .val (.int sel), .val (.int id2), .val (.int ld2), .val (.long ep2), .second, .val (.int rr1), .val (.int rr2), .val (.ref w1), .val (.ref w2), .val (.ref b18), .val (.int (((sel.toUInt32 >>> ((7 : Int32) &&& 31).toUInt32).toInt32) &&& (3 : Int32))), .val (.ref b30), .val (.int (0 : Int32))] [(.ref b18), (.ref b30)])) rfl (by rw [hml]; rfl) (Steps.refl _) (argsL := [(.ref b18)]) (rest := []) (lenOf pd_5 rfl) rfl (by show 2 * 0 + _ ≤ _; exact Nat.le_of_eq rfl) (hb hby at_222) (fun _ _ => ⟨rfl, e61, (by decide : 6 + 0 ≤ _), (by decide : 48 + 0 ≤ _)⟩)
          dsimp only [Pt.U, Pt.locs, Pt.cells, Pt.slots] at X67 l67 y67 z67 st67 hQ67
          subst l67 y67 z67
          obtain ⟨rfl, N67q, e67⟩ := hQ67
          have N67 := Fr.app N61 N67q
          have R68 : ∀ t, Steps p.tables e below (T67.setTop (mkF m 235 #[.val (.int id1), .val (.int ld1), .val (.long ep1), .second, .val (.int ot), .val (.long oe), .second, .val (.int sel), .val (.int id2), .val (.int ld2), .val (.long ep2), .second, .val (.int rr1), .val (.int rr2), .val (.ref w1), .val (.ref w2), .val (.ref b18), .val (.int (((sel.toUInt32 >>> ((7 : Int32) &&& 31).toUInt32).toInt32) &&& (3 : Int32))), .val (.ref b30), .val (.int (0 : Int32))] [(.int (1 : Int32))])) t → Steps p.tables e below (s₁.setTop (entryFrame m #[(.int id1), (.int ld1), (.long ep1), (.int ot), (.long oe), (.int sel)] maxLocals)) t := by
            intro t k
            refine R34 t ?_
            show Steps p.tables e below (T31.setTop (mkF m 183 #[.val (.int id1), .val (.int ld1), .val (.long ep1), .second, .val (.int ot), .val (.long oe), .second, .val (.int sel), .val (.int id2), .val (.int ld2), .val (.long ep2), .second, .val (.int rr1), .val (.int rr2), .val (.ref w1), .val (.ref w2), .val (.ref b18), .val (.int (((sel.toUInt32 >>> ((7 : Int32) &&& 31).toUInt32).toInt32) &&& (3 : Int32))), .val (.ref b30), .unset] [(.int (rr2 % (3 : Int32))), (.int (rr1 % (3 : Int32)))])) t
            refine XS.icmpYes X31.here hx rfl (pc0 := 183) (pc' := 203) rfl (hb hby at_183) rfl (feq (cq1 : ¬ ((rr1 % (3 : Int32)) = (rr2 % (3 : Int32))))).2 (by decide) (by decide) ?_
            show Steps p.tables e below (T31.setTop (mkF m 203 #[.val (.int id1), .val (.int ld1), .val (.long ep1), .second, .val (.int ot), .val (.long oe), .second, .val (.int sel), .val (.int id2), .val (.int ld2), .val (.long ep2), .second, .val (.int rr1), .val (.int rr2), .val (.ref w1), .val (.ref w2), .val (.ref b18), .val (.int (((sel.toUInt32 >>> ((7 : Int32) &&& 31).toUInt32).toInt32) &&& (3 : Int32))), .val (.ref b30), .unset] [])) t
            refine XS.iconst X31.here hx rfl (hb hby at_203) ?_
            show Steps p.tables e below (T31.setTop (mkF m 204 #[.val (.int id1), .val (.int ld1), .val (.long ep1), .second, .val (.int ot), .val (.long oe), .second, .val (.int sel), .val (.int id2), .val (.int ld2), .val (.long ep2), .second, .val (.int rr1), .val (.int rr2), .val (.ref w1), .val (.ref w2), .val (.ref b18), .val (.int (((sel.toUInt32 >>> ((7 : Int32) &&& 31).toUInt32).toInt32) &&& (3 : Int32))), .val (.ref b30), .unset] [(.int (0 : Int32))])) t
            refine XS.istore X31.here hx rfl (hb hby at_204) rfl (l' := #[.val (.int id1), .val (.int ld1), .val (.long ep1), .second, .val (.int ot), .val (.long oe), .second, .val (.int sel), .val (.int id2), .val (.int ld2), .val (.long ep2), .second, .val (.int rr1), .val (.int rr2), .val (.ref w1), .val (.ref w2), .val (.ref b18), .val (.int (((sel.toUInt32 >>> ((7 : Int32) &&& 31).toUInt32).toInt32) &&& (3 : Int32))), .val (.ref b30), .val (.int (0 : Int32))]) rfl ?_
            show Steps p.tables e below (T31.setTop (mkF m 206 #[.val (.int id1), .val (.int ld1), .val (.long ep1), .second, .val (.int ot), .val (.long oe), .second, .val (.int sel), .val (.int id2), .val (.int ld2), .val (.long ep2), .second, .val (.int rr1), .val (.int rr2), .val (.ref w1), .val (.ref w2), .val (.ref b18), .val (.int (((sel.toUInt32 >>> ((7 : Int32) &&& 31).toUInt32).toInt32) &&& (3 : Int32))), .val (.ref b30), .val (.int (0 : Int32))] [])) t
            refine XS.aload X31.here hx rfl (hb hby at_206) rfl rfl ?_
            show Steps p.tables e below (T31.setTop (mkF m 208 #[.val (.int id1), .val (.int ld1), .val (.long ep1), .second, .val (.int ot), .val (.long oe), .second, .val (.int sel), .val (.int id2), .val (.int ld2), .val (.long ep2), .second, .val (.int rr1), .val (.int rr2), .val (.ref w1), .val (.ref w2), .val (.ref b18), .val (.int (((sel.toUInt32 >>> ((7 : Int32) &&& 31).toUInt32).toInt32) &&& (3 : Int32))), .val (.ref b30), .val (.int (0 : Int32))] [(.ref b18)])) t
            refine XS.aload X31.here hx rfl (hb hby at_208) rfl rfl ?_
            show Steps p.tables e below (T31.setTop (mkF m 210 #[.val (.int id1), .val (.int ld1), .val (.long ep1), .second, .val (.int ot), .val (.long oe), .second, .val (.int sel), .val (.int id2), .val (.int ld2), .val (.long ep2), .second, .val (.int rr1), .val (.int rr2), .val (.ref w1), .val (.ref w2), .val (.ref b18), .val (.int (((sel.toUInt32 >>> ((7 : Int32) &&& 31).toUInt32).toInt32) &&& (3 : Int32))), .val (.ref b30), .val (.int (0 : Int32))] [(.ref b30), (.ref b18)])) t
            refine st61.trans ?_
            show Steps p.tables e below (T61.setTop (mkF m 213 #[.val (.int id1), .val (.int ld1), .val (.long ep1), .second, .val (.int ot), .val (.long oe), .second, .val (.int sel), .val (.int id2), .val (.int ld2), .val (.long ep2), .second, .val (.int rr1), .val (.int rr2), .val (.ref w1), .val (.ref w2), .val (.ref b18), .val (.int (((sel.toUInt32 >>> ((7 : Int32) &&& 31).toUInt32).toInt32) &&& (3 : Int32))), .val (.ref b30), .val (.int (0 : Int32))] [(.int (0 : Int32))])) t
            refine XS.iload X61.here hx rfl (hb hby at_213) rfl ?_
            show Steps p.tables e below (T61.setTop (mkF m 215 #[.val (.int id1), .val (.int ld1), .val (.long ep1), .second, .val (.int ot), .val (.long oe), .second, .val (.int sel), .val (.int id2), .val (.int ld2), .val (.long ep2), .second, .val (.int rr1), .val (.int rr2), .val (.ref w1), .val (.ref w2), .val (.ref b18), .val (.int (((sel.toUInt32 >>> ((7 : Int32) &&& 31).toUInt32).toInt32) &&& (3 : Int32))), .val (.ref b30), .val (.int (0 : Int32))] [(.int (0 : Int32)), (.int (0 : Int32))])) t
            refine XS.icmpNo X61.here hx rfl (hb hby at_215) rfl (teq ((by decide) : (0 : Int32) = (0 : Int32))).2 ?_
            show Steps p.tables e below (T61.setTop (mkF m 218 #[.val (.int id1), .val (.int ld1), .val (.long ep1), .second, .val (.int ot), .val (.long oe), .second, .val (.int sel), .val (.int id2), .val (.int ld2), .val (.long ep2), .second, .val (.int rr1), .val (.int rr2), .val (.ref w1), .val (.ref w2), .val (.ref b18), .val (.int (((sel.toUInt32 >>> ((7 : Int32) &&& 31).toUInt32).toInt32) &&& (3 : Int32))), .val (.ref b30), .val (.int (0 : Int32))] [])) t
            refine XS.aload X61.here hx rfl (hb hby at_218) rfl rfl ?_
            show Steps p.tables e below (T61.setTop (mkF m 220 #[.val (.int id1), .val (.int ld1), .val (.long ep1), .second, .val (.int ot), .val (.long oe), .second, .val (.int sel), .val (.int id2), .val (.int ld2), .val (.long ep2), .second, .val (.int rr1), .val (.int rr2), .val (.ref w1), .val (.ref w2), .val (.ref b18), .val (.int (((sel.toUInt32 >>> ((7 : Int32) &&& 31).toUInt32).toInt32) &&& (3 : Int32))), .val (.ref b30), .val (.int (0 : Int32))] [(.ref b30)])) t
            refine XS.aload X61.here hx rfl (hb hby at_220) rfl rfl ?_
            show Steps p.tables e below (T61.setTop (mkF m 222 #[.val (.int id1), .val (.int ld1), .val (.long ep1), .second, .val (.int ot), .val (.long oe), .second, .val (.int sel), .val (.int id2), .val (.int ld2), .val (.long ep2), .second, .val (.int rr1), .val (.int rr2), .val (.ref w1), .val (.ref w2), .val (.ref b18), .val (.int (((sel.toUInt32 >>> ((7 : Int32) &&& 31).toUInt32).toInt32) &&& (3 : Int32))), .val (.ref b30), .val (.int (0 : Int32))] [(.ref b18), (.ref b30)])) t
            refine st67.trans ?_
            show Steps p.tables e below (T67.setTop (mkF m 225 #[.val (.int id1), .val (.int ld1), .val (.long ep1), .second, .val (.int ot), .val (.long oe), .second, .val (.int sel), .val (.int id2), .val (.int ld2), .val (.long ep2), .second, .val (.int rr1), .val (.int rr2), .val (.ref w1), .val (.ref w2), .val (.ref b18), .val (.int (((sel.toUInt32 >>> ((7 : Int32) &&& 31).toUInt32).toInt32) &&& (3 : Int32))), .val (.ref b30), .val (.int (0 : Int32))] [(.int (0 : Int32))])) t
            refine XS.iload X67.here hx rfl (hb hby at_225) rfl ?_
            show Steps p.tables e below (T67.setTop (mkF m 227 #[.val (.int id1), .val (.int ld1), .val (.long ep1), .second, .val (.int ot), .val (.long oe), .second, .val (.int sel), .val (.int id2), .val (.int ld2), .val (.long ep2), .second, .val (.int rr1), .val (.int rr2), .val (.ref w1), .val (.ref w2), .val (.ref b18), .val (.int (((sel.toUInt32 >>> ((7 : Int32) &&& 31).toUInt32).toInt32) &&& (3 : Int32))), .val (.ref b30), .val (.int (0 : Int32))] [(.int (0 : Int32)), (.int (0 : Int32))])) t
            refine XS.icmpNo X67.here hx rfl (hb hby at_227) rfl (teq ((by decide) : (0 : Int32) = (0 : Int32))).2 ?_
            show Steps p.tables e below (T67.setTop (mkF m 230 #[.val (.int id1), .val (.int ld1), .val (.long ep1), .second, .val (.int ot), .val (.long oe), .second, .val (.int sel), .val (.int id2), .val (.int ld2), .val (.long ep2), .second, .val (.int rr1), .val (.int rr2), .val (.ref w1), .val (.ref w2), .val (.ref b18), .val (.int (((sel.toUInt32 >>> ((7 : Int32) &&& 31).toUInt32).toInt32) &&& (3 : Int32))), .val (.ref b30), .val (.int (0 : Int32))] [])) t
            refine XS.iconst X67.here hx rfl (hb hby at_230) ?_
            show Steps p.tables e below (T67.setTop (mkF m 231 #[.val (.int id1), .val (.int ld1), .val (.long ep1), .second, .val (.int ot), .val (.long oe), .second, .val (.int sel), .val (.int id2), .val (.int ld2), .val (.long ep2), .second, .val (.int rr1), .val (.int rr2), .val (.ref w1), .val (.ref w2), .val (.ref b18), .val (.int (((sel.toUInt32 >>> ((7 : Int32) &&& 31).toUInt32).toInt32) &&& (3 : Int32))), .val (.ref b30), .val (.int (0 : Int32))] [(.int (1 : Int32))])) t
            refine XS.goto X67.here hx rfl (pc0 := 231) (pc' := 235) rfl (hb hby at_231) (by decide) (by decide) ?_
            exact k
          obtain ⟨fs, hr, hrun, hended, hRW⟩ := X67.leaveW hS31 (by rw [e67]; exact hk31) (v := some (.int (1 : Int32))) (fun h => by rw [Bd.returns] at h; cases h)
          refine ⟨_, _, R68 _ ?_, hrun, hended, _, _, rfl, ?_, hRW.1, hRW.2.1, hRW.2.2.1, hRW.2.2.2.mono (by decide) (by decide)⟩
          · show Steps p.tables e below (T67.setTop (mkF m 235 #[.val (.int id1), .val (.int ld1), .val (.long ep1), .second, .val (.int ot), .val (.long oe), .second, .val (.int sel), .val (.int id2), .val (.int ld2), .val (.long ep2), .second, .val (.int rr1), .val (.int rr2), .val (.ref w1), .val (.ref w2), .val (.ref b18), .val (.int (((sel.toUInt32 >>> ((7 : Int32) &&& 31).toUInt32).toInt32) &&& (3 : Int32))), .val (.ref b30), .val (.int (0 : Int32))] [(.int (1 : Int32))])) _
            exact retN X67 hx (t := .boolean) Bd.returns (by simp) (hb hby at_235) hr
          · show Q_rm0 Z wL wF wE wcI ccI id1 ld1 ep1 ot oe sel h0 n0 _ T67.heap _
            rw [e67]
            exact ⟨rfl, N67⟩
      · have f70 : Exa Z T31.heap b18 "com/example/ballot/ballot/model/Status" := ((y19_0.ext E30).keep K31q)
        have f71 : Fld Z T31.heap b18 "com/example/ballot/ballot/model/Status" "id" "I" (.int id1) := ((y19_1.ext E30).keep K31q (ninS ne_b18_b30 nin0))
        have f72 : Fld Z T31.heap b18 "com/example/ballot/ballot/model/Status" "role" "Lcom/example/ballot/ballot/model/Role;" (.ref w1) := ((y19_2.ext E30).keep K31q (ninS ne_b18_b30 nin0))
        have f73 : Fld Z T31.heap b18 "com/example/ballot/ballot/model/Status" "leader" "I" (.int ld1) := ((y19_3.ext E30).keep K31q (ninS ne_b18_b30 nin0))
        have f74 : Fld Z T31.heap b18 "com/example/ballot/ballot/model/Status" "epoch" "J" (.long ep1) := ((y19_4.ext E30).keep K31q (ninS ne_b18_b30 nin0))
        obtain ⟨cq69, kq69, q69a, q69b, q69c⟩ := isOf hZ31 rfl f70
        obtain ⟨_, _, ⟨T69, L69, k69, n69⟩, -, X69, ⟨Lc69, hQ69, l69, y69, z69⟩, st69⟩ := X31.virtualBack hx (y := (⟨"com/example/ballot/ballot/model/Status", "equals", "(Ljava/lang/Object;)Z"⟩ : MethodName)) (z := (⟨"com/example/ballot/ballot/model/Status", "equals", "(Ljava/lang/Object;)Z"⟩ : MethodName)) hown31 (mvT hZ31 (hw _ (List.mem_of_getElem? (i := 38) rfl))) (mvT hZ31 (hw _ (List.mem_of_getElem? (i := 39) rfl))) (notFace_of_selects (args := #[]) (mvT hZ31 (hw _ (List.mem_of_getElem? (i := 41) rfl)))) (mvT hZ31 (hw _ (List.mem_of_getElem? (i := 41) rfl))) (mvT hZ31 (hw _ (List.mem_of_getElem? (i := 40) rfl))) (by decide) (backOf (W := 0) (eq0 l Z a0 hw [] wL wF wE wcI ccI b18 b30 id1 id2 w1 w2 ld1 ld2 ep1 ep2 T31.heap n0 O31 S_wL S_wF S_wE E_wL E_wF E_wE nLF nLE nFE S_cI B_cI S_hi   f70 y31_0 f71 f72 f73 f74 y31_1 y31_2 y31_3 y31_4 cq0) hZ31 (hw _ (List.mem_of_getElem? (i := 42) rfl)) (hw _ (List.mem_of_getElem? (i := 9) rfl)) (by decide) (by decide)) q69a q69c (g := (mkF m 210 #[.val (.int id1), .val (.int ld1), .val (.long ep1), .second, .val (.int ot), .val (.long oe), .second, .val (.int sel), .val (.int id2), .val (.int ld2), .val (.long ep2), .second, .val (.int rr1), .val (.int rr2), .val (.ref w1), .val (.ref w2), .val (.ref b18), .val (.int (((sel.toUInt32 >>> ((7 : Int32) &&& 31).toUInt32).toInt32) &&& (3 : Int32))), .val (.ref b30), .val (.int (0 : Int32))] [(.ref b30), (.ref b18)])) rfl (by rw [hml]; rfl) (Steps.refl _) (argsL := [(.ref b30)]) (rest := []) (lenOf pd_5 rfl) rfl (by show 2 * 0 + _ ≤ _; exact Nat.le_of_eq rfl) (hb hby at_210) (fun _ _ => ⟨rfl, rfl, (by decide : 6 + 0 ≤ _), (by decide : 48 + 0 ≤ _)⟩)
        dsimp only [Pt.U, Pt.locs, Pt.cells, Pt.slots] at X69 l69 y69 z69 st69 hQ69
        subst l69 y69 z69
        obtain ⟨rfl, N69q, e69⟩ := hQ69
        have N69 := Fr.app N31 N69q
        obtain ⟨cq75, kq75, q75a, q75b, q75c⟩ := isOf hZ31 e69 y31_0
        obtain ⟨_, _, ⟨T75, L75, k75, n75⟩, -, X75, ⟨Lc75, hQ75, l75, y75, z75⟩, st75⟩ := X69.virtualBack hx (y := (⟨"com/example/ballot/ballot/model/Status", "equals", "(Ljava/lang/Object;)Z"⟩ : MethodName)) (z := (⟨"com/example/ballot/ballot/model/Status", "equals", "(Ljava/lang/Object;)Z"⟩ : MethodName)) hown31 (mvT hZ31 (hw _ (List.mem_of_getElem? (i := 38) rfl))) (mvT hZ31 (hw _ (List.mem_of_getElem? (i := 39) rfl))) (notFace_of_selects (args := #[]) (mvT hZ31 (hw _ (List.mem_of_getElem? (i := 41) rfl)))) (mvT hZ31 (hw _ (List.mem_of_getElem? (i := 41) rfl))) (mvT hZ31 (hw _ (List.mem_of_getElem? (i := 40) rfl))) (by decide) (backOf (W := 0) (eq0 l Z a0 hw [] wL wF wE wcI ccI b30 b18 id2 id1 w2 w1 ld2 ld1 ep2 ep1 T31.heap n0 O31 S_wL S_wF S_wE E_wL E_wF E_wE nLF nLE nFE S_cI B_cI S_hi   y31_0 f70 y31_1 y31_2 y31_3 y31_4 f71 f72 f73 f74 (fun q => cq0 q.symm)) hZ31 (hw _ (List.mem_of_getElem? (i := 42) rfl)) (hw _ (List.mem_of_getElem? (i := 9) rfl)) (by decide) (by decide)) q75a q75c (g := (mkF m 222 #[.val (.int id1), .val (.int ld1), .val (.long ep1), .second, .val (.int ot), .val (.long oe), .second, .val (.int sel), .val (.int id2), .val (.int ld2), .val (.long ep2), .second, .val (.int rr1), .val (.int rr2), .val (.ref w1), .val (.ref w2), .val (.ref b18), .val (.int (((sel.toUInt32 >>> ((7 : Int32) &&& 31).toUInt32).toInt32) &&& (3 : Int32))), .val (.ref b30), .val (.int (0 : Int32))] [(.ref b18), (.ref b30)])) rfl (by rw [hml]; rfl) (Steps.refl _) (argsL := [(.ref b18)]) (rest := []) (lenOf pd_5 rfl) rfl (by show 2 * 0 + _ ≤ _; exact Nat.le_of_eq rfl) (hb hby at_222) (fun _ _ => ⟨rfl, e69, (by decide : 6 + 0 ≤ _), (by decide : 48 + 0 ≤ _)⟩)
        dsimp only [Pt.U, Pt.locs, Pt.cells, Pt.slots] at X75 l75 y75 z75 st75 hQ75
        subst l75 y75 z75
        obtain ⟨rfl, N75q, e75⟩ := hQ75
        have N75 := Fr.app N69 N75q
        have R76 : ∀ t, Steps p.tables e below (T75.setTop (mkF m 235 #[.val (.int id1), .val (.int ld1), .val (.long ep1), .second, .val (.int ot), .val (.long oe), .second, .val (.int sel), .val (.int id2), .val (.int ld2), .val (.long ep2), .second, .val (.int rr1), .val (.int rr2), .val (.ref w1), .val (.ref w2), .val (.ref b18), .val (.int (((sel.toUInt32 >>> ((7 : Int32) &&& 31).toUInt32).toInt32) &&& (3 : Int32))), .val (.ref b30), .val (.int (0 : Int32))] [(.int (1 : Int32))])) t → Steps p.tables e below (s₁.setTop (entryFrame m #[(.int id1), (.int ld1), (.long ep1), (.int ot), (.long oe), (.int sel)] maxLocals)) t := by
          intro t k
          refine R33 t ?_
          show Steps p.tables e below (T31.setTop (mkF m 172 #[.val (.int id1), .val (.int ld1), .val (.long ep1), .second, .val (.int ot), .val (.long oe), .second, .val (.int sel), .val (.int id2), .val (.int ld2), .val (.long ep2), .second, .val (.int rr1), .val (.int rr2), .val (.ref w1), .val (.ref w2), .val (.ref b18), .val (.int (((sel.toUInt32 >>> ((7 : Int32) &&& 31).toUInt32).toInt32) &&& (3 : Int32))), .val (.ref b30), .unset] [(.int id2), (.int id1)])) t
          refine XS.icmpYes X31.here hx rfl (pc0 := 172) (pc' := 203) rfl (hb hby at_172) rfl (feq (cq0 : ¬ (id1 = id2))).2 (by decide) (by decide) ?_
          show Steps p.tables e below (T31.setTop (mkF m 203 #[.val (.int id1), .val (.int ld1), .val (.long ep1), .second, .val (.int ot), .val (.long oe), .second, .val (.int sel), .val (.int id2), .val (.int ld2), .val (.long ep2), .second, .val (.int rr1), .val (.int rr2), .val (.ref w1), .val (.ref w2), .val (.ref b18), .val (.int (((sel.toUInt32 >>> ((7 : Int32) &&& 31).toUInt32).toInt32) &&& (3 : Int32))), .val (.ref b30), .unset] [])) t
          refine XS.iconst X31.here hx rfl (hb hby at_203) ?_
          show Steps p.tables e below (T31.setTop (mkF m 204 #[.val (.int id1), .val (.int ld1), .val (.long ep1), .second, .val (.int ot), .val (.long oe), .second, .val (.int sel), .val (.int id2), .val (.int ld2), .val (.long ep2), .second, .val (.int rr1), .val (.int rr2), .val (.ref w1), .val (.ref w2), .val (.ref b18), .val (.int (((sel.toUInt32 >>> ((7 : Int32) &&& 31).toUInt32).toInt32) &&& (3 : Int32))), .val (.ref b30), .unset] [(.int (0 : Int32))])) t
          refine XS.istore X31.here hx rfl (hb hby at_204) rfl (l' := #[.val (.int id1), .val (.int ld1), .val (.long ep1), .second, .val (.int ot), .val (.long oe), .second, .val (.int sel), .val (.int id2), .val (.int ld2), .val (.long ep2), .second, .val (.int rr1), .val (.int rr2), .val (.ref w1), .val (.ref w2), .val (.ref b18), .val (.int (((sel.toUInt32 >>> ((7 : Int32) &&& 31).toUInt32).toInt32) &&& (3 : Int32))), .val (.ref b30), .val (.int (0 : Int32))]) rfl ?_
          show Steps p.tables e below (T31.setTop (mkF m 206 #[.val (.int id1), .val (.int ld1), .val (.long ep1), .second, .val (.int ot), .val (.long oe), .second, .val (.int sel), .val (.int id2), .val (.int ld2), .val (.long ep2), .second, .val (.int rr1), .val (.int rr2), .val (.ref w1), .val (.ref w2), .val (.ref b18), .val (.int (((sel.toUInt32 >>> ((7 : Int32) &&& 31).toUInt32).toInt32) &&& (3 : Int32))), .val (.ref b30), .val (.int (0 : Int32))] [])) t
          refine XS.aload X31.here hx rfl (hb hby at_206) rfl rfl ?_
          show Steps p.tables e below (T31.setTop (mkF m 208 #[.val (.int id1), .val (.int ld1), .val (.long ep1), .second, .val (.int ot), .val (.long oe), .second, .val (.int sel), .val (.int id2), .val (.int ld2), .val (.long ep2), .second, .val (.int rr1), .val (.int rr2), .val (.ref w1), .val (.ref w2), .val (.ref b18), .val (.int (((sel.toUInt32 >>> ((7 : Int32) &&& 31).toUInt32).toInt32) &&& (3 : Int32))), .val (.ref b30), .val (.int (0 : Int32))] [(.ref b18)])) t
          refine XS.aload X31.here hx rfl (hb hby at_208) rfl rfl ?_
          show Steps p.tables e below (T31.setTop (mkF m 210 #[.val (.int id1), .val (.int ld1), .val (.long ep1), .second, .val (.int ot), .val (.long oe), .second, .val (.int sel), .val (.int id2), .val (.int ld2), .val (.long ep2), .second, .val (.int rr1), .val (.int rr2), .val (.ref w1), .val (.ref w2), .val (.ref b18), .val (.int (((sel.toUInt32 >>> ((7 : Int32) &&& 31).toUInt32).toInt32) &&& (3 : Int32))), .val (.ref b30), .val (.int (0 : Int32))] [(.ref b30), (.ref b18)])) t
          refine st69.trans ?_
          show Steps p.tables e below (T69.setTop (mkF m 213 #[.val (.int id1), .val (.int ld1), .val (.long ep1), .second, .val (.int ot), .val (.long oe), .second, .val (.int sel), .val (.int id2), .val (.int ld2), .val (.long ep2), .second, .val (.int rr1), .val (.int rr2), .val (.ref w1), .val (.ref w2), .val (.ref b18), .val (.int (((sel.toUInt32 >>> ((7 : Int32) &&& 31).toUInt32).toInt32) &&& (3 : Int32))), .val (.ref b30), .val (.int (0 : Int32))] [(.int (0 : Int32))])) t
          refine XS.iload X69.here hx rfl (hb hby at_213) rfl ?_
          show Steps p.tables e below (T69.setTop (mkF m 215 #[.val (.int id1), .val (.int ld1), .val (.long ep1), .second, .val (.int ot), .val (.long oe), .second, .val (.int sel), .val (.int id2), .val (.int ld2), .val (.long ep2), .second, .val (.int rr1), .val (.int rr2), .val (.ref w1), .val (.ref w2), .val (.ref b18), .val (.int (((sel.toUInt32 >>> ((7 : Int32) &&& 31).toUInt32).toInt32) &&& (3 : Int32))), .val (.ref b30), .val (.int (0 : Int32))] [(.int (0 : Int32)), (.int (0 : Int32))])) t
          refine XS.icmpNo X69.here hx rfl (hb hby at_215) rfl (teq ((by decide) : (0 : Int32) = (0 : Int32))).2 ?_
          show Steps p.tables e below (T69.setTop (mkF m 218 #[.val (.int id1), .val (.int ld1), .val (.long ep1), .second, .val (.int ot), .val (.long oe), .second, .val (.int sel), .val (.int id2), .val (.int ld2), .val (.long ep2), .second, .val (.int rr1), .val (.int rr2), .val (.ref w1), .val (.ref w2), .val (.ref b18), .val (.int (((sel.toUInt32 >>> ((7 : Int32) &&& 31).toUInt32).toInt32) &&& (3 : Int32))), .val (.ref b30), .val (.int (0 : Int32))] [])) t
          refine XS.aload X69.here hx rfl (hb hby at_218) rfl rfl ?_
          show Steps p.tables e below (T69.setTop (mkF m 220 #[.val (.int id1), .val (.int ld1), .val (.long ep1), .second, .val (.int ot), .val (.long oe), .second, .val (.int sel), .val (.int id2), .val (.int ld2), .val (.long ep2), .second, .val (.int rr1), .val (.int rr2), .val (.ref w1), .val (.ref w2), .val (.ref b18), .val (.int (((sel.toUInt32 >>> ((7 : Int32) &&& 31).toUInt32).toInt32) &&& (3 : Int32))), .val (.ref b30), .val (.int (0 : Int32))] [(.ref b30)])) t
          refine XS.aload X69.here hx rfl (hb hby at_220) rfl rfl ?_
          show Steps p.tables e below (T69.setTop (mkF m 222 #[.val (.int id1), .val (.int ld1), .val (.long ep1), .second, .val (.int ot), .val (.long oe), .second, .val (.int sel), .val (.int id2), .val (.int ld2), .val (.long ep2), .second, .val (.int rr1), .val (.int rr2), .val (.ref w1), .val (.ref w2), .val (.ref b18), .val (.int (((sel.toUInt32 >>> ((7 : Int32) &&& 31).toUInt32).toInt32) &&& (3 : Int32))), .val (.ref b30), .val (.int (0 : Int32))] [(.ref b18), (.ref b30)])) t
          refine st75.trans ?_
          show Steps p.tables e below (T75.setTop (mkF m 225 #[.val (.int id1), .val (.int ld1), .val (.long ep1), .second, .val (.int ot), .val (.long oe), .second, .val (.int sel), .val (.int id2), .val (.int ld2), .val (.long ep2), .second, .val (.int rr1), .val (.int rr2), .val (.ref w1), .val (.ref w2), .val (.ref b18), .val (.int (((sel.toUInt32 >>> ((7 : Int32) &&& 31).toUInt32).toInt32) &&& (3 : Int32))), .val (.ref b30), .val (.int (0 : Int32))] [(.int (0 : Int32))])) t
          refine XS.iload X75.here hx rfl (hb hby at_225) rfl ?_
          show Steps p.tables e below (T75.setTop (mkF m 227 #[.val (.int id1), .val (.int ld1), .val (.long ep1), .second, .val (.int ot), .val (.long oe), .second, .val (.int sel), .val (.int id2), .val (.int ld2), .val (.long ep2), .second, .val (.int rr1), .val (.int rr2), .val (.ref w1), .val (.ref w2), .val (.ref b18), .val (.int (((sel.toUInt32 >>> ((7 : Int32) &&& 31).toUInt32).toInt32) &&& (3 : Int32))), .val (.ref b30), .val (.int (0 : Int32))] [(.int (0 : Int32)), (.int (0 : Int32))])) t
          refine XS.icmpNo X75.here hx rfl (hb hby at_227) rfl (teq ((by decide) : (0 : Int32) = (0 : Int32))).2 ?_
          show Steps p.tables e below (T75.setTop (mkF m 230 #[.val (.int id1), .val (.int ld1), .val (.long ep1), .second, .val (.int ot), .val (.long oe), .second, .val (.int sel), .val (.int id2), .val (.int ld2), .val (.long ep2), .second, .val (.int rr1), .val (.int rr2), .val (.ref w1), .val (.ref w2), .val (.ref b18), .val (.int (((sel.toUInt32 >>> ((7 : Int32) &&& 31).toUInt32).toInt32) &&& (3 : Int32))), .val (.ref b30), .val (.int (0 : Int32))] [])) t
          refine XS.iconst X75.here hx rfl (hb hby at_230) ?_
          show Steps p.tables e below (T75.setTop (mkF m 231 #[.val (.int id1), .val (.int ld1), .val (.long ep1), .second, .val (.int ot), .val (.long oe), .second, .val (.int sel), .val (.int id2), .val (.int ld2), .val (.long ep2), .second, .val (.int rr1), .val (.int rr2), .val (.ref w1), .val (.ref w2), .val (.ref b18), .val (.int (((sel.toUInt32 >>> ((7 : Int32) &&& 31).toUInt32).toInt32) &&& (3 : Int32))), .val (.ref b30), .val (.int (0 : Int32))] [(.int (1 : Int32))])) t
          refine XS.goto X75.here hx rfl (pc0 := 231) (pc' := 235) rfl (hb hby at_231) (by decide) (by decide) ?_
          exact k
        obtain ⟨fs, hr, hrun, hended, hRW⟩ := X75.leaveW hS31 (by rw [e75]; exact hk31) (v := some (.int (1 : Int32))) (fun h => by rw [Bd.returns] at h; cases h)
        refine ⟨_, _, R76 _ ?_, hrun, hended, _, _, rfl, ?_, hRW.1, hRW.2.1, hRW.2.2.1, hRW.2.2.2.mono (by decide) (by decide)⟩
        · show Steps p.tables e below (T75.setTop (mkF m 235 #[.val (.int id1), .val (.int ld1), .val (.long ep1), .second, .val (.int ot), .val (.long oe), .second, .val (.int sel), .val (.int id2), .val (.int ld2), .val (.long ep2), .second, .val (.int rr1), .val (.int rr2), .val (.ref w1), .val (.ref w2), .val (.ref b18), .val (.int (((sel.toUInt32 >>> ((7 : Int32) &&& 31).toUInt32).toInt32) &&& (3 : Int32))), .val (.ref b30), .val (.int (0 : Int32))] [(.int (1 : Int32))])) _
          exact retN X75 hx (t := .boolean) Bd.returns (by simp) (hb hby at_235) hr
        · show Q_rm0 Z wL wF wE wcI ccI id1 ld1 ep1 ot oe sel h0 n0 _ T75.heap _
          rw [e75]
          exact ⟨rfl, N75⟩
set_option maxRecDepth 65536 in
set_option maxHeartbeats 40000000 in
theorem comes_1 {Post : Tables → Env → Array Value → State → Outcome → State → Prop} (hpost : ∀ tb e args s v u, (limb_1_1.after args s (.returned v) u = true ∧ limb_1_2.after args s (.returned v) u = true ∧ True) → ReturnedEndW s (.returned v) u (Jvm.fieldLocs frame_1_writes args s ++ Jvm.arrayLocs frame_1_arrays args s ++ Jvm.staticLocs frame_1_statics s) 16 1152 → Post tb e args s (.returned v) u) :
    ArmFor flags0 classFile x code maxLocals ret World_1 tables_1 room_1 Calls_1 rest_1 Pre_1 Post := by
  intro l hfl _ _ p e ha hc hk s m args below hf hA hF happ hP
  obtain ⟨hcalls, hrest, hpre⟩ := hP
  obtain ⟨-, -, -, hnamed, -, -, -, hat⟩ := (Spec.applies_iff hf).mp happ
  obtain ⟨hg, hn⟩ := and_e (Cond.before_iff.mp (show (Jvm.Cond.and given_1 narrow_1).before args s = true from hpre))
  obtain ⟨g1, g2⟩ := and_e hg
  obtain ⟨g3, g4⟩ := and_e g2
  obtain ⟨g5, g6⟩ := and_e g4
  obtain ⟨g7, g8⟩ := and_e g6
  obtain ⟨g9, g10⟩ := and_e g8
  obtain ⟨g11, g12⟩ := and_e g10
  obtain ⟨g13, g14⟩ := and_e hn
  obtain ⟨g15, g16⟩ := and_e g14
  obtain ⟨g17, g18⟩ := and_e g16
  obtain ⟨g19, g20⟩ := and_e g18
  obtain ⟨g21, g22⟩ := and_e g20
  obtain ⟨w0, w1, w2, w3, w4, w5, rfl⟩ : ∃ w0 w1 w2 w3 w4 w5 : Value, args = #[w0, w1, w2, w3, w4, w5] := by
    have hs : args.size = 6 := by simpa [Cond.value, given_1] using g1
    obtain ⟨L⟩ := args
    match L, hs with
    | [w0, w1, w2, w3, w4, w5], _ => exact ⟨w0, w1, w2, w3, w4, w5, rfl⟩
  have hw := fun d (hd : d ∈ tables_1) => atoms_spec (ws := Jvm.Cond.code x code maxLocals ret :: tables_1) hat d (List.mem_cons_of_mem _ hd)
  have hfit : Fit s := fun {y c} hc i hi => by
    obtain ⟨ha, rfl⟩ := Array.getElem?_eq_some_iff.mp hc
    have q := List.all_eq_true.mp ((Array.all_eq_true_iff_forall_mem.mp hF) _ (Array.getElem_mem ha)) i (List.mem_range.mpr hi)
    simpa [Array.getElem?_eq_getElem hi] using q
  obtain ⟨hsets, hown0⟩ := atoms_of _ (rest_1_c_eq ▸ (show rest_1_c.before _ s = true from hrest))
  have hr0 := Cond.before_iff.mp hown0
  obtain ⟨i0, ei0⟩ := is_v g3
  obtain rfl : w0 = (.int i0) := Option.some.inj ei0
  obtain ⟨i1, ei1⟩ := is_v g5
  obtain rfl : w1 = (.int i1) := Option.some.inj ei1
  obtain ⟨i2, ei2⟩ := isL_v g7
  obtain rfl : w2 = (.long i2) := Option.some.inj ei2
  obtain ⟨i3, ei3⟩ := is_v g9
  obtain rfl : w3 = (.int i3) := Option.some.inj ei3
  obtain ⟨i4, ei4⟩ := isL_v g11
  obtain rfl : w4 = (.long i4) := Option.some.inj ei4
  obtain ⟨i5, ei5⟩ := is_v g12
  obtain rfl : w5 = (.int i5) := Option.some.inj ei5
  obtain ⟨wL, ev_wL, S_wL, E_wL⟩ := own_sta g13 (hw _ (List.mem_of_getElem? (i := 5) rfl)) (hw _ (List.mem_of_getElem? (i := 6) rfl))
  obtain ⟨wF, ev_wF, S_wF, E_wF⟩ := own_sta g15 (hw _ (List.mem_of_getElem? (i := 5) rfl)) (hw _ (List.mem_of_getElem? (i := 46) rfl))
  obtain ⟨wE, ev_wE, S_wE, E_wE⟩ := own_sta g21 (hw _ (List.mem_of_getElem? (i := 5) rfl)) (hw _ (List.mem_of_getElem? (i := 58) rfl))
  have F_wL := own_fld ev_wL g17
  have F_wF := own_fld ev_wF g19
  have F_wE := own_fld ev_wE g22
  have nLF : wL ≠ wF := F_wL.ne F_wF (by decide)
  have nLE : wL ≠ wE := F_wL.ne F_wE (by decide)
  have nFE : wF ≠ wE := F_wF.ne F_wE (by decide)
  have evh := eqv_i (Term.int_eval (127)) (Cond.before_iff.mp (hsets _ (List.mem_of_getElem? (i := 3) rfl)))
  have S_hi := Sta.start evh (Or.inl (hsets _ (List.mem_of_getElem? (i := 1) rfl)))
  obtain ⟨wcI, evcI⟩ := arr_v (Cond.before_iff.mp (hsets _ (List.mem_of_getElem? (i := 4) rfl)))
  have S_cI := Sta.start evcI (Or.inr ⟨(hw _ (List.mem_of_getElem? (i := 52) rfl)), (hsets _ (List.mem_of_getElem? (i := 2) rfl))⟩)
  obtain ⟨ccI, ArcI⟩ := Arr.start evcI (Cond.before_iff.mp (hsets _ (List.mem_of_getElem? (i := 4) rfl)))
  have lnI := own_len evcI (ArcI.fin (Vm.Alike.refl _)) (eqv_i (Term.int_eval (256)) (Cond.before_iff.mp (hsets _ (List.mem_of_getElem? (i := 6) rfl))))
  have B_cI : Bxs s wcI ccI "java/lang/Integer" "I" 256 (fun j => .int (j - 128)) := Bxs.start (fun _ => evcI) ArcI lnI.1 lnI.2 (by decide) (Cond.before_iff.mp (hsets _ (List.mem_of_getElem? (i := 7) rfl))) (fun X j nn h => eqv_i (by simp [Term.eval, (back32 nn).1]) h)
  obtain ⟨n, o, h1, h2, h3, _, L, rfl, ⟨rfl, N⟩, hq⟩ := rm0 l s _ hw tables_1 wL wF wE wcI ccI i0 i1 i2 i3 i4 i5 s.heap s.heap.size (Old.start s) S_wL S_wF S_wE E_wL E_wF E_wE nLF nLE nFE S_cI B_cI S_hi p e ha hc hk s m _ below hf ((Spec.applies_iff_loose hf).mp happ).1 ⟨rfl, State.Warmed39.refl s, rfl⟩ trivial
  refine ⟨n, _, h1, h2, h3, hpost _ _ _ _ _ _ ⟨Cond.after_iff.mpr rfl, Cond.after_iff.mpr (eq_i res_at (Term.int_eval (1)) rfl), trivial⟩ ⟨hq.1, hq.2.1, hq.2.2.1, (hq.2.2.2.sift fun y hy => Or.inr (N y hy)).mono (by decide) (by decide)⟩⟩
theorem main_1_1 : Claimed_1_1 := comes_1 fun _ _ _ _ _ _ h hF => ⟨h.1, hF⟩
theorem main_1_2 : Claimed_1_2 := comes_1 fun _ _ _ _ _ _ h hF => ⟨h.2.1, hF⟩
end Jvm.Pilot.@@N@@
namespace Jvm.Pilot.@@N@@
open Jvm Jvm.ClassFile Sem Op Lib Jvm.Free Jvm.Stand Jvm.Pilot.@@N@@.Jvm.D
/-! MADE BY PROGRAM (witnessworld.py) out of the Statement's table words and the real class files: 21 classes; the members and pool entries that the words name. The judged class is class 1, her method 2. -/
namespace start1
open Jvm.ClassFile
def u (s : String) : CpInfo := .utf8 (stringToUtf16 s)
/-- a pool by its gaps: so many unusable entries, then the entry; so many at the end -/
def gap : Nat → List CpInfo → List CpInfo
  | 0, r => r
  | n + 1, r => .unusable :: gap n r
def poolList (es : List (Nat × CpInfo)) (last : Nat) : List CpInfo := es.foldr (fun e r => gap e.1 (e.2 :: r)) (gap last [])
def pool (es : List (Nat × CpInfo)) (last : Nat) : Array CpInfo := ⟨poolList es last⟩
def fileOf (pool : Array CpInfo) (this : Nat) (attrs : Array Attribute := #[]) (ms : Array MethodInfo := #[]) (fl : Nat := 33) (sup : Nat := 0) (ifs : Array Nat := #[]) (fds : Array FieldInfo := #[]) : ClassFile where
  minorVersion := 0
  majorVersion := 65
  constantPool := pool
  accessFlags := fl
  thisClass := this
  superClass := sup
  interfaces := ifs
  fields := fds
  methods := ms
  attributes := attrs
def plain (name : String) (sup : Option ClassId) : Class where
  name := name
  kind := .ordinary
  loader := none
  accessFlags := 33
  super := sup
  interfaces := #[]
  cf := none
  fields := #[]
  methods := #[]
  instanceTypes := #[]
  staticTypes := #[]
  resolved := #[]
  callSites := []
  init := .initialized
  statics := none
  mirror := none

def pool0 : Array CpInfo := pool [(5, u "<init>"), (0, u "()V"), (1, .class_ 10), (1, u "java/lang/Object")] 113

def k0c0 : Code := { maxStack := 0, maxLocals := 1, code := object_method_1_code, exceptionTable := #[], attributes := #[] }
def k0m0 : Method := { name := "<init>", desc := "()V", sig := { parameters := [], returnType := none }, accessFlags := 1, code := some k0c0 }
/-- java/lang/Object -/
def k0 : Class := { plain "java/lang/Object" none with
  accessFlags := 33
  interfaces := #[]
  cf := some (fileOf pool0 8 #[] #[{ accessFlags := 1, nameIndex := 5, descriptorIndex := 6, attributes := #[] }] 33 0 #[] #[])
  fields := #[]
  methods := #[k0m0]
  instanceTypes := #[]
  staticTypes := #[]
  resolved := Array.replicate 124 none
  statics := none }

def pool1 : Array CpInfo := pool [(2, .class_ 4), (1, u "java/lang/Object"), (0, u "<init>"), (0, u "()V"), (0, .fieldref 8 9), (0, .class_ 10), (0, .nameAndType 11 12), (0, u "com/example/ballot/ballot/model/Role"), (0, u "LEADER"), (0, u "Lcom/example/ballot/ballot/model/Role;"), (0, .fieldref 8 14), (0, .nameAndType 15 12), (0, u "FOLLOWER"), (0, .fieldref 8 17), (0, .nameAndType 18 12), (0, u "ELECTING"), (0, .methodref 20 21), (0, .class_ 22), (0, .nameAndType 23 24), (0, u "com/example/ballot/ballot/model/StatusEqualsPinLaw"), (0, u "role"), (0, u "(I)Lcom/example/ballot/ballot/model/Role;"), (0, .class_ 26), (0, u "com/example/ballot/ballot/model/Status"), (0, .methodref 25 28), (0, .nameAndType 5 29), (0, u "(ILcom/example/ballot/ballot/model/Role;IJ)V"), (0, .methodref 25 31), (0, .nameAndType 32 33), (0, u "equals"), (0, u "(Ljava/lang/Object;)Z"), (0, .methodref 35 36), (0, .class_ 37), (0, .nameAndType 38 39), (0, u "java/lang/Integer"), (0, u "valueOf"), (0, u "(I)Ljava/lang/Integer;"), (3, u "law"), (0, u "(IIJIJI)Z")] 2

def k1m0 : Method := { name := "<init>", desc := "()V", sig := { parameters := [], returnType := none }, accessFlags := 1, code := none }
def k1c1 : Code := { maxStack := 2, maxLocals := 2, code := method_2_code, exceptionTable := #[], attributes := #[] }
def k1m1 : Method := { name := "role", desc := "(I)Lcom/example/ballot/ballot/model/Role;", sig := { parameters := [.int], returnType := some (.object "com/example/ballot/ballot/model/Role") }, accessFlags := 10, code := some k1c1 }
def k1c2 : Code := { maxStack := 7, maxLocals := 20, code := code, exceptionTable := #[], attributes := #[] }
def k1m2 : Method := { name := "law", desc := "(IIJIJI)Z", sig := { parameters := [.int, .int, .long, .int, .long, .int], returnType := some .boolean }, accessFlags := 9, code := some k1c2 }
/-- com/example/ballot/ballot/model/StatusEqualsPinLaw -/
def k1 : Class := { plain "com/example/ballot/ballot/model/StatusEqualsPinLaw" (some 0) with
  accessFlags := 49
  interfaces := #[]
  cf := some (fileOf pool1 20 #[] #[{ accessFlags := 1, nameIndex := 5, descriptorIndex := 6, attributes := #[] }, { accessFlags := 10, nameIndex := 23, descriptorIndex := 24, attributes := #[] }, { accessFlags := 9, nameIndex := 43, descriptorIndex := 44, attributes := #[] }] 49 2 #[] #[])
  fields := #[]
  methods := #[k1m0, k1m1, k1m2]
  instanceTypes := #[]
  staticTypes := #[]
  resolved := Array.replicate 47 none
  statics := none }

def pool2 : Array CpInfo := pool [(1, .class_ 2), (0, u "java/lang/constant/Constable"), (0, .class_ 4), (0, u "java/lang/Object")] 6

/-- java/lang/constant/Constable -/
def k2 : Class := { plain "java/lang/constant/Constable" (some 0) with
  accessFlags := 1537
  interfaces := #[]
  cf := some (fileOf pool2 1 #[] #[] 1537 3 #[] #[])
  fields := #[]
  methods := #[]
  instanceTypes := #[]
  staticTypes := #[]
  resolved := Array.replicate 11 none
  statics := none }

def pool3 : Array CpInfo := pool [(1, .class_ 2), (0, u "java/lang/Comparable"), (0, .class_ 4), (0, u "java/lang/Object")] 7

/-- java/lang/Comparable -/
def k3 : Class := { plain "java/lang/Comparable" (some 0) with
  accessFlags := 1537
  interfaces := #[]
  cf := some (fileOf pool3 1 #[] #[] 1537 3 #[] #[])
  fields := #[]
  methods := #[]
  instanceTypes := #[]
  staticTypes := #[]
  resolved := Array.replicate 12 none
  statics := none }

def pool4 : Array CpInfo := pool [(1, .class_ 2), (0, u "java/io/Serializable"), (0, .class_ 4), (0, u "java/lang/Object")] 2

/-- java/io/Serializable -/
def k4 : Class := { plain "java/io/Serializable" (some 0) with
  accessFlags := 1537
  interfaces := #[]
  cf := some (fileOf pool4 1 #[] #[] 1537 3 #[] #[])
  fields := #[]
  methods := #[]
  instanceTypes := #[]
  staticTypes := #[]
  resolved := Array.replicate 7 none
  statics := none }

def pool5 : Array CpInfo := pool [(2, .class_ 4), (1, u "java/lang/Enum"), (0, u "name"), (0, u "Ljava/lang/String;"), (2, u "ordinal"), (0, u "I"), (1, .class_ 14), (1, u "java/lang/Object"), (4, u "hash"), (86, .class_ 108), (1, u "java/lang/Enum$EnumDesc"), (2, .class_ 112), (0, u "java/lang/constant/Constable"), (0, .class_ 114), (0, u "java/lang/Comparable"), (0, .class_ 116), (0, u "java/io/Serializable")] 87

/-- java/lang/Enum -/
def k5 : Class := { plain "java/lang/Enum" (some 0) with
  accessFlags := 1057
  interfaces := #[2, 3, 4]
  cf := some (fileOf pool5 2 #[.nestMembers #[106]] #[] 1057 12 #[111, 113, 115] #[{ accessFlags := 18, nameIndex := 5, descriptorIndex := 6, attributes := #[] }, { accessFlags := 18, nameIndex := 9, descriptorIndex := 10, attributes := #[] }, { accessFlags := 2, nameIndex := 19, descriptorIndex := 10, attributes := #[] }])
  fields := #[{ name := "name", type := (.object "java/lang/String"), accessFlags := 18, slot := 0, constantValue := 0 }, { name := "ordinal", type := .int, accessFlags := 18, slot := 1, constantValue := 0 }, { name := "hash", type := .int, accessFlags := 2, slot := 2, constantValue := 0 }]
  methods := #[]
  instanceTypes := #[(.object "java/lang/String"), .int, .int]
  staticTypes := #[]
  resolved := Array.replicate 204 none
  statics := none }

def pool6 : Array CpInfo := pool [(1, .class_ 2), (0, u "com/example/ballot/ballot/model/Role"), (2, u "LEADER"), (0, u "Lcom/example/ballot/ballot/model/Role;"), (2, u "FOLLOWER"), (2, u "ELECTING"), (2, u "$VALUES"), (0, u "[Lcom/example/ballot/ballot/model/Role;"), (6, .class_ 25), (1, u "java/lang/Enum"), (8, u "label"), (0, u "Ljava/lang/String;")] 62

/-- com/example/ballot/ballot/model/Role -/
def k6 : Class := { plain "com/example/ballot/ballot/model/Role" (some 5) with
  accessFlags := 16433
  interfaces := #[]
  cf := some (fileOf pool6 1 #[] #[] 16433 23 #[] #[{ accessFlags := 16409, nameIndex := 5, descriptorIndex := 6, attributes := #[] }, { accessFlags := 16409, nameIndex := 9, descriptorIndex := 6, attributes := #[] }, { accessFlags := 16409, nameIndex := 12, descriptorIndex := 6, attributes := #[] }, { accessFlags := 18, nameIndex := 34, descriptorIndex := 35, attributes := #[] }, { accessFlags := 4122, nameIndex := 15, descriptorIndex := 16, attributes := #[] }])
  fields := #[{ name := "LEADER", type := (.object "com/example/ballot/ballot/model/Role"), accessFlags := 16409, slot := 0, constantValue := 0 }, { name := "FOLLOWER", type := (.object "com/example/ballot/ballot/model/Role"), accessFlags := 16409, slot := 1, constantValue := 0 }, { name := "ELECTING", type := (.object "com/example/ballot/ballot/model/Role"), accessFlags := 16409, slot := 2, constantValue := 0 }, { name := "label", type := (.object "java/lang/String"), accessFlags := 18, slot := 3, constantValue := 0 }, { name := "$VALUES", type := (.array (.object "com/example/ballot/ballot/model/Role")), accessFlags := 4122, slot := 3, constantValue := 0 }]
  methods := #[]
  instanceTypes := #[(.object "java/lang/String"), .int, .int, (.object "java/lang/String")]
  staticTypes := #[(.object "com/example/ballot/ballot/model/Role"), (.object "com/example/ballot/ballot/model/Role"), (.object "com/example/ballot/ballot/model/Role"), (.array (.object "com/example/ballot/ballot/model/Role"))]
  resolved := Array.replicate 98 none
  statics := some 0 }

def pool7 : Array CpInfo := pool [(1, .methodref 2 3), (0, .class_ 4), (0, .nameAndType 5 6), (0, u "java/lang/Object"), (0, u "<init>"), (0, u "()V"), (0, .fieldref 8 9), (0, .class_ 10), (0, .nameAndType 11 12), (0, u "com/example/ballot/ballot/model/Status"), (0, u "id"), (0, u "I"), (0, .string 14), (0, u "role"), (0, .methodref 16 17), (0, .class_ 18), (0, .nameAndType 19 20), (0, u "java/util/Objects"), (0, u "requireNonNull"), (0, u "(Ljava/lang/Object;Ljava/lang/String;)Ljava/lang/Object;"), (0, .class_ 22), (0, u "com/example/ballot/ballot/model/Role"), (0, .fieldref 8 24), (0, .nameAndType 14 25), (0, u "Lcom/example/ballot/ballot/model/Role;"), (0, .fieldref 8 27), (0, .nameAndType 28 12), (0, u "leader"), (0, .fieldref 8 30), (0, .nameAndType 31 32), (0, u "epoch"), (0, u "J"), (28, u "NO_LEADER"), (2, u "(ILcom/example/ballot/ballot/model/Role;IJ)V"), (5, u "equals"), (0, u "(Ljava/lang/Object;)Z")] 24

def k7c0 : Code := { maxStack := 3, maxLocals := 6, code := prog_21_method_1_code, exceptionTable := #[], attributes := #[] }
def k7m0 : Method := { name := "<init>", desc := "(ILcom/example/ballot/ballot/model/Role;IJ)V", sig := { parameters := [.int, (.object "com/example/ballot/ballot/model/Role"), .int, .long], returnType := none }, accessFlags := 1, code := some k7c0 }
def k7c1 : Code := { maxStack := 4, maxLocals := 3, code := prog_21_method_6_code, exceptionTable := #[], attributes := #[] }
def k7m1 : Method := { name := "equals", desc := "(Ljava/lang/Object;)Z", sig := { parameters := [(.object "java/lang/Object")], returnType := some .boolean }, accessFlags := 1, code := some k7c1 }
/-- com/example/ballot/ballot/model/Status -/
def k7 : Class := { plain "com/example/ballot/ballot/model/Status" (some 0) with
  accessFlags := 33
  interfaces := #[]
  cf := some (fileOf pool7 8 #[] #[{ accessFlags := 1, nameIndex := 5, descriptorIndex := 64, attributes := #[] }, { accessFlags := 1, nameIndex := 70, descriptorIndex := 71, attributes := #[] }] 33 2 #[] #[{ accessFlags := 25, nameIndex := 61, descriptorIndex := 12, attributes := #[] }, { accessFlags := 18, nameIndex := 11, descriptorIndex := 12, attributes := #[] }, { accessFlags := 18, nameIndex := 14, descriptorIndex := 25, attributes := #[] }, { accessFlags := 18, nameIndex := 28, descriptorIndex := 12, attributes := #[] }, { accessFlags := 18, nameIndex := 31, descriptorIndex := 32, attributes := #[] }])
  fields := #[{ name := "NO_LEADER", type := .int, accessFlags := 25, slot := 0, constantValue := 0 }, { name := "id", type := .int, accessFlags := 18, slot := 0, constantValue := 0 }, { name := "role", type := (.object "com/example/ballot/ballot/model/Role"), accessFlags := 18, slot := 1, constantValue := 0 }, { name := "leader", type := .int, accessFlags := 18, slot := 2, constantValue := 0 }, { name := "epoch", type := .long, accessFlags := 18, slot := 3, constantValue := 0 }]
  methods := #[k7m0, k7m1]
  instanceTypes := #[.int, (.object "com/example/ballot/ballot/model/Role"), .int, .long]
  staticTypes := #[.int]
  resolved := Array.replicate 96 none
  statics := none }

def pool8 : Array CpInfo := pool [(2, .class_ 4), (1, u "java/lang/CharSequence"), (42, .class_ 48), (0, u "java/lang/CharSequence$1CodePointIterator"), (10, .class_ 60), (0, u "java/lang/CharSequence$1CharIterator"), (5, .class_ 67), (0, u "java/lang/Object")] 63

/-- java/lang/CharSequence -/
def k8 : Class := { plain "java/lang/CharSequence" (some 0) with
  accessFlags := 1537
  interfaces := #[]
  cf := some (fileOf pool8 2 #[.nestMembers #[47, 59]] #[] 1537 66 #[] #[])
  fields := #[]
  methods := #[]
  instanceTypes := #[]
  staticTypes := #[]
  resolved := Array.replicate 131 none
  statics := none }

def pool9 : Array CpInfo := pool [(1, .class_ 2), (0, u "java/lang/constant/ConstantDesc"), (0, .class_ 4), (0, u "java/lang/Object")] 32

/-- java/lang/constant/ConstantDesc -/
def k9 : Class := { plain "java/lang/constant/ConstantDesc" (some 0) with
  accessFlags := 1537
  interfaces := #[]
  cf := some (fileOf pool9 1 #[] #[] 1537 3 #[] #[])
  fields := #[]
  methods := #[]
  instanceTypes := #[]
  staticTypes := #[]
  resolved := Array.replicate 37 none
  statics := none }

def pool10 : Array CpInfo := pool [(2, .class_ 4), (1, u "java/lang/Object"), (0, u "<init>"), (0, u "()V"), (3, .class_ 12), (1, u "java/lang/String"), (0, u "value"), (0, u "[B"), (2, u "coder"), (0, u "B"), (2, u "hash"), (0, u "I"), (2, u "hashIsZero"), (0, u "Z"), (13, u "COMPACT_STRINGS"), (534, .class_ 576), (0, u "java/lang/CharSequence"), (22, u "CASE_INSENSITIVE_ORDER"), (0, u "Ljava/util/Comparator;"), (500, u "serialPersistentFields"), (0, u "[Ljava/io/ObjectStreamField;"), (0, .class_ 1104), (0, u "java/lang/String$CaseInsensitiveComparator"), (1, .class_ 1107), (0, u "java/io/Serializable"), (0, .class_ 1109), (0, u "java/lang/Comparable"), (0, .class_ 1111), (0, u "java/lang/constant/Constable"), (0, .class_ 1113), (0, u "java/lang/constant/ConstantDesc"), (2, u "serialVersionUID"), (0, u "J"), (3, u "REPL"), (0, u "C"), (2, u "LATIN1"), (1, u "UTF16")] 323

def k10m0 : Method := { name := "<init>", desc := "()V", sig := { parameters := [], returnType := none }, accessFlags := 1, code := none }
/-- java/lang/String -/
def k10 : Class := { plain "java/lang/String" (some 0) with
  accessFlags := 49
  interfaces := #[4, 3, 8, 2, 9]
  cf := some (fileOf pool10 10 #[.nestMembers #[1103]] #[{ accessFlags := 1, nameIndex := 5, descriptorIndex := 6, attributes := #[] }] 49 2 #[1106, 1108, 575, 1110, 1112] #[{ accessFlags := 18, nameIndex := 13, descriptorIndex := 14, attributes := #[] }, { accessFlags := 18, nameIndex := 17, descriptorIndex := 18, attributes := #[] }, { accessFlags := 2, nameIndex := 21, descriptorIndex := 22, attributes := #[] }, { accessFlags := 2, nameIndex := 25, descriptorIndex := 26, attributes := #[] }, { accessFlags := 26, nameIndex := 1116, descriptorIndex := 1117, attributes := #[] }, { accessFlags := 24, nameIndex := 40, descriptorIndex := 26, attributes := #[] }, { accessFlags := 26, nameIndex := 1101, descriptorIndex := 1102, attributes := #[] }, { accessFlags := 26, nameIndex := 1121, descriptorIndex := 1122, attributes := #[] }, { accessFlags := 25, nameIndex := 599, descriptorIndex := 600, attributes := #[] }, { accessFlags := 24, nameIndex := 1125, descriptorIndex := 18, attributes := #[] }, { accessFlags := 24, nameIndex := 1127, descriptorIndex := 18, attributes := #[] }])
  fields := #[{ name := "value", type := (.array .byte), accessFlags := 18, slot := 0, constantValue := 0 }, { name := "coder", type := .byte, accessFlags := 18, slot := 1, constantValue := 0 }, { name := "hash", type := .int, accessFlags := 2, slot := 2, constantValue := 0 }, { name := "hashIsZero", type := .boolean, accessFlags := 2, slot := 3, constantValue := 0 }, { name := "serialVersionUID", type := .long, accessFlags := 26, slot := 0, constantValue := 0 }, { name := "COMPACT_STRINGS", type := .boolean, accessFlags := 24, slot := 1, constantValue := 0 }, { name := "serialPersistentFields", type := (.array (.object "java/io/ObjectStreamField")), accessFlags := 26, slot := 2, constantValue := 0 }, { name := "REPL", type := .char, accessFlags := 26, slot := 3, constantValue := 0 }, { name := "CASE_INSENSITIVE_ORDER", type := (.object "java/util/Comparator"), accessFlags := 25, slot := 4, constantValue := 0 }, { name := "LATIN1", type := .byte, accessFlags := 24, slot := 5, constantValue := 0 }, { name := "UTF16", type := .byte, accessFlags := 24, slot := 6, constantValue := 0 }]
  methods := #[k10m0]
  instanceTypes := #[(.array .byte), .byte, .int, .boolean]
  staticTypes := #[.long, .boolean, (.array (.object "java/io/ObjectStreamField")), .char, (.object "java/util/Comparator"), .byte, .byte]
  resolved := Array.replicate 1451 none
  statics := none }

def pool11 : Array CpInfo := pool [(2, .class_ 4), (1, u "java/lang/Object"), (0, u "<init>"), (0, u "()V"), (35, .class_ 44), (1, u "java/util/Objects"), (0, u "requireNonNull"), (48, u "(Ljava/lang/Object;Ljava/lang/String;)Ljava/lang/Object;")] 89

def k11m0 : Method := { name := "<init>", desc := "()V", sig := { parameters := [], returnType := none }, accessFlags := 2, code := none }
def k11c1 : Code := { maxStack := 3, maxLocals := 2, code := jdk_31_method_11_code, exceptionTable := #[], attributes := #[] }
def k11m1 : Method := { name := "requireNonNull", desc := "(Ljava/lang/Object;Ljava/lang/String;)Ljava/lang/Object;", sig := { parameters := [(.object "java/lang/Object"), (.object "java/lang/String")], returnType := some (.object "java/lang/Object") }, accessFlags := 9, code := some k11c1 }
/-- java/util/Objects -/
def k11 : Class := { plain "java/util/Objects" (some 0) with
  accessFlags := 49
  interfaces := #[]
  cf := some (fileOf pool11 42 #[] #[{ accessFlags := 2, nameIndex := 5, descriptorIndex := 6, attributes := #[] }, { accessFlags := 9, nameIndex := 45, descriptorIndex := 94, attributes := #[] }] 49 2 #[] #[])
  fields := #[]
  methods := #[k11m0, k11m1]
  instanceTypes := #[]
  staticTypes := #[]
  resolved := Array.replicate 184 none
  statics := none }

def pool12 : Array CpInfo := pool [(1, .methodref 2 3), (0, .class_ 4), (0, .nameAndType 5 6), (0, u "java/lang/Object"), (0, u "<init>"), (0, u "()V"), (1, .class_ 10), (1, u "java/lang/Number"), (2, .class_ 14), (0, u "java/io/Serializable"), (0, u "serialVersionUID"), (0, u "J")] 20

def k12c0 : Code := { maxStack := 1, maxLocals := 1, code := jdk_18_method_1_code, exceptionTable := #[], attributes := #[] }
def k12m0 : Method := { name := "<init>", desc := "()V", sig := { parameters := [], returnType := none }, accessFlags := 1, code := some k12c0 }
/-- java/lang/Number -/
def k12 : Class := { plain "java/lang/Number" (some 0) with
  accessFlags := 1057
  interfaces := #[4]
  cf := some (fileOf pool12 8 #[] #[{ accessFlags := 1, nameIndex := 5, descriptorIndex := 6, attributes := #[] }] 1057 2 #[13] #[{ accessFlags := 26, nameIndex := 15, descriptorIndex := 16, attributes := #[] }])
  fields := #[{ name := "serialVersionUID", type := .long, accessFlags := 26, slot := 0, constantValue := 0 }]
  methods := #[k12m0]
  instanceTypes := #[]
  staticTypes := #[.long]
  resolved := Array.replicate 37 none
  statics := none }

def pool13 : Array CpInfo := pool [(1, .class_ 2), (0, u "java/lang/Integer"), (16, u "digits"), (0, u "[C"), (46, u "<init>"), (17, u "DigitOnes"), (0, u "[B"), (2, u "DigitTens"), (10, .nameAndType 67 101), (0, u "()V"), (85, u "valueOf"), (0, u "(I)Ljava/lang/Integer;"), (0, .class_ 190), (0, u "java/lang/Integer$IntegerCache"), (0, .fieldref 189 192), (0, .nameAndType 193 194), (0, u "high"), (0, u "I"), (0, .fieldref 189 196), (0, .nameAndType 197 198), (0, u "cache"), (0, u "[Ljava/lang/Integer;"), (0, .methodref 1 200), (0, .nameAndType 67 201), (0, u "(I)V"), (0, .methodref 203 100), (0, .class_ 204), (0, u "java/lang/Number"), (0, .fieldref 1 206), (0, .nameAndType 207 194), (0, u "value"), (94, u "TYPE"), (0, u "Ljava/lang/Class;"), (0, .class_ 305), (0, u "java/lang/Comparable"), (0, .class_ 307), (0, u "java/lang/constant/Constable"), (0, .class_ 309), (0, u "java/lang/constant/ConstantDesc"), (0, u "MIN_VALUE"), (1, u "MAX_VALUE"), (3, u "SIZE"), (1, u "BYTES"), (1, u "serialVersionUID"), (0, u "J")] 131

def k13c0 : Code := { maxStack := 3, maxLocals := 1, code := jdk_33_method_22_code, exceptionTable := #[], attributes := #[] }
def k13m0 : Method := { name := "valueOf", desc := "(I)Ljava/lang/Integer;", sig := { parameters := [.int], returnType := some (.object "java/lang/Integer") }, accessFlags := 9, code := some k13c0 }
def k13c1 : Code := { maxStack := 2, maxLocals := 2, code := jdk_33_method_23_code, exceptionTable := #[], attributes := #[] }
def k13m1 : Method := { name := "<init>", desc := "(I)V", sig := { parameters := [.int], returnType := none }, accessFlags := 1, code := some k13c1 }
/-- java/lang/Integer -/
def k13 : Class := { plain "java/lang/Integer" (some 12) with
  accessFlags := 49
  interfaces := #[3, 2, 9]
  cf := some (fileOf pool13 1 #[.nestMembers #[189]] #[{ accessFlags := 9, nameIndex := 187, descriptorIndex := 188, attributes := #[] }, { accessFlags := 1, nameIndex := 67, descriptorIndex := 201, attributes := #[] }] 49 203 #[304, 306, 308] #[{ accessFlags := 25, nameIndex := 310, descriptorIndex := 194, attributes := #[] }, { accessFlags := 25, nameIndex := 312, descriptorIndex := 194, attributes := #[] }, { accessFlags := 25, nameIndex := 302, descriptorIndex := 303, attributes := #[] }, { accessFlags := 24, nameIndex := 19, descriptorIndex := 20, attributes := #[] }, { accessFlags := 24, nameIndex := 89, descriptorIndex := 86, attributes := #[] }, { accessFlags := 24, nameIndex := 85, descriptorIndex := 86, attributes := #[] }, { accessFlags := 18, nameIndex := 207, descriptorIndex := 194, attributes := #[] }, { accessFlags := 25, nameIndex := 316, descriptorIndex := 194, attributes := #[] }, { accessFlags := 25, nameIndex := 318, descriptorIndex := 194, attributes := #[] }, { accessFlags := 26, nameIndex := 320, descriptorIndex := 321, attributes := #[] }])
  fields := #[{ name := "MIN_VALUE", type := .int, accessFlags := 25, slot := 0, constantValue := 0 }, { name := "MAX_VALUE", type := .int, accessFlags := 25, slot := 1, constantValue := 0 }, { name := "TYPE", type := (.object "java/lang/Class"), accessFlags := 25, slot := 2, constantValue := 0 }, { name := "digits", type := (.array .char), accessFlags := 24, slot := 3, constantValue := 0 }, { name := "DigitTens", type := (.array .byte), accessFlags := 24, slot := 4, constantValue := 0 }, { name := "DigitOnes", type := (.array .byte), accessFlags := 24, slot := 5, constantValue := 0 }, { name := "value", type := .int, accessFlags := 18, slot := 0, constantValue := 0 }, { name := "SIZE", type := .int, accessFlags := 25, slot := 6, constantValue := 0 }, { name := "BYTES", type := .int, accessFlags := 25, slot := 7, constantValue := 0 }, { name := "serialVersionUID", type := .long, accessFlags := 26, slot := 8, constantValue := 0 }]
  methods := #[k13m0, k13m1]
  instanceTypes := #[.int]
  staticTypes := #[.int, .int, (.object "java/lang/Class"), (.array .char), (.array .byte), (.array .byte), .int, .int, .long]
  resolved := Array.replicate 453 none
  statics := none }

def pool14 : Array CpInfo := pool [(2, .class_ 4), (1, u "java/lang/Object"), (0, u "<init>"), (0, u "()V"), (0, .class_ 8), (0, u "java/lang/Integer"), (7, .class_ 18), (1, u "java/lang/Integer$IntegerCache"), (0, u "$assertionsDisabled"), (0, u "Z"), (26, u "high"), (0, u "I"), (8, u "archivedCache"), (0, u "[Ljava/lang/Integer;"), (12, u "cache"), (0, u "low")] 27

def k14m0 : Method := { name := "<init>", desc := "()V", sig := { parameters := [], returnType := none }, accessFlags := 2, code := none }
/-- java/lang/Integer$IntegerCache -/
def k14 : Class := { plain "java/lang/Integer$IntegerCache" (some 0) with
  accessFlags := 48
  interfaces := #[]
  cf := some (fileOf pool14 16 #[.nestHost 7] #[{ accessFlags := 2, nameIndex := 5, descriptorIndex := 6, attributes := #[] }] 48 2 #[] #[{ accessFlags := 24, nameIndex := 72, descriptorIndex := 48, attributes := #[] }, { accessFlags := 24, nameIndex := 47, descriptorIndex := 48, attributes := #[] }, { accessFlags := 24, nameIndex := 71, descriptorIndex := 58, attributes := #[] }, { accessFlags := 8, nameIndex := 57, descriptorIndex := 58, attributes := #[] }, { accessFlags := 4120, nameIndex := 19, descriptorIndex := 20, attributes := #[] }])
  fields := #[{ name := "low", type := .int, accessFlags := 24, slot := 0, constantValue := 0 }, { name := "high", type := .int, accessFlags := 24, slot := 1, constantValue := 0 }, { name := "cache", type := (.array (.object "java/lang/Integer")), accessFlags := 24, slot := 2, constantValue := 0 }, { name := "archivedCache", type := (.array (.object "java/lang/Integer")), accessFlags := 8, slot := 3, constantValue := 0 }, { name := "$assertionsDisabled", type := .boolean, accessFlags := 4120, slot := 4, constantValue := 0 }]
  methods := #[k14m0]
  instanceTypes := #[]
  staticTypes := #[.int, .int, (.array (.object "java/lang/Integer")), (.array (.object "java/lang/Integer")), .boolean]
  resolved := Array.replicate 100 none
  statics := some 1 }

def pool15 : Array CpInfo := pool [(1, u "java/lang/Cloneable"), (0, .class_ 1), (0, u "java/lang/Object"), (0, .class_ 3)] 3

/-- java/lang/Cloneable -/
def k15 : Class := { plain "java/lang/Cloneable" (some 0) with
  accessFlags := 1537
  interfaces := #[]
  cf := some (fileOf pool15 2 #[] #[] 1537 4 #[] #[])
  fields := #[]
  methods := #[]
  instanceTypes := #[]
  staticTypes := #[]
  resolved := Array.replicate 8 none
  statics := none }

/-- the primitive byte -/
def k16 : Class := { plain "byte" none with kind := .primitive 'B', accessFlags := 0x411 }
/-- [B -/
def k17 : Class := { plain "[B" (some 0) with kind := .array 16 .byte, interfaces := #[15, 4], accessFlags := 1041 }

/-- the primitive int -/
def k18 : Class := { plain "int" none with kind := .primitive 'I', accessFlags := 0x411 }
/-- [I -/
def k19 : Class := { plain "[I" (some 0) with kind := .array 18 .int, interfaces := #[15, 4], accessFlags := 1041 }

/-- [Ljava/lang/Integer; -/
def k20 : Class := { plain "[Ljava/lang/Integer;" (some 0) with kind := .array 13 (.object "java/lang/Integer"), interfaces := #[15, 4], accessFlags := 1041 }

def heap : Heap := #[{ cls := 6, slots := #[.ref 3, .ref 4, .ref 5, .null], vm := .statics 6 },
  { cls := 14, slots := #[.int 0, .int 127, .ref 2, .null, .int 0], vm := .statics 14 },
  { cls := 20, slots := #[.ref 6, .ref 7, .ref 8, .ref 9, .ref 10, .ref 11, .ref 12, .ref 13, .ref 14, .ref 15, .ref 16, .ref 17, .ref 18, .ref 19, .ref 20, .ref 21, .ref 22, .ref 23, .ref 24, .ref 25, .ref 26, .ref 27, .ref 28, .ref 29, .ref 30, .ref 31, .ref 32, .ref 33, .ref 34, .ref 35, .ref 36, .ref 37, .ref 38, .ref 39, .ref 40, .ref 41, .ref 42, .ref 43, .ref 44, .ref 45, .ref 46, .ref 47, .ref 48, .ref 49, .ref 50, .ref 51, .ref 52, .ref 53, .ref 54, .ref 55, .ref 56, .ref 57, .ref 58, .ref 59, .ref 60, .ref 61, .ref 62, .ref 63, .ref 64, .ref 65, .ref 66, .ref 67, .ref 68, .ref 69, .ref 70, .ref 71, .ref 72, .ref 73, .ref 74, .ref 75, .ref 76, .ref 77, .ref 78, .ref 79, .ref 80, .ref 81, .ref 82, .ref 83, .ref 84, .ref 85, .ref 86, .ref 87, .ref 88, .ref 89, .ref 90, .ref 91, .ref 92, .ref 93, .ref 94, .ref 95, .ref 96, .ref 97, .ref 98, .ref 99, .ref 100, .ref 101, .ref 102, .ref 103, .ref 104, .ref 105, .ref 106, .ref 107, .ref 108, .ref 109, .ref 110, .ref 111, .ref 112, .ref 113, .ref 114, .ref 115, .ref 116, .ref 117, .ref 118, .ref 119, .ref 120, .ref 121, .ref 122, .ref 123, .ref 124, .ref 125, .ref 126, .ref 127, .ref 128, .ref 129, .ref 130, .ref 131, .ref 132, .ref 133, .ref 134, .ref 135, .ref 136, .ref 137, .ref 138, .ref 139, .ref 140, .ref 141, .ref 142, .ref 143, .ref 144, .ref 145, .ref 146, .ref 147, .ref 148, .ref 149, .ref 150, .ref 151, .ref 152, .ref 153, .ref 154, .ref 155, .ref 156, .ref 157, .ref 158, .ref 159, .ref 160, .ref 161, .ref 162, .ref 163, .ref 164, .ref 165, .ref 166, .ref 167, .ref 168, .ref 169, .ref 170, .ref 171, .ref 172, .ref 173, .ref 174, .ref 175, .ref 176, .ref 177, .ref 178, .ref 179, .ref 180, .ref 181, .ref 182, .ref 183, .ref 184, .ref 185, .ref 186, .ref 187, .ref 188, .ref 189, .ref 190, .ref 191, .ref 192, .ref 193, .ref 194, .ref 195, .ref 196, .ref 197, .ref 198, .ref 199, .ref 200, .ref 201, .ref 202, .ref 203, .ref 204, .ref 205, .ref 206, .ref 207, .ref 208, .ref 209, .ref 210, .ref 211, .ref 212, .ref 213, .ref 214, .ref 215, .ref 216, .ref 217, .ref 218, .ref 219, .ref 220, .ref 221, .ref 222, .ref 223, .ref 224, .ref 225, .ref 226, .ref 227, .ref 228, .ref 229, .ref 230, .ref 231, .ref 232, .ref 233, .ref 234, .ref 235, .ref 236, .ref 237, .ref 238, .ref 239, .ref 240, .ref 241, .ref 242, .ref 243, .ref 244, .ref 245, .ref 246, .ref 247, .ref 248, .ref 249, .ref 250, .ref 251, .ref 252, .ref 253, .ref 254, .ref 255, .ref 256, .ref 257, .ref 258, .ref 259, .ref 260, .ref 261], vm := .none },
  { cls := 6, slots := #[.null, .int 0, .int 0, .null], vm := .none },
  { cls := 6, slots := #[.null, .int 1, .int 0, .null], vm := .none },
  { cls := 6, slots := #[.null, .int 2, .int 0, .null], vm := .none },
  { cls := 13, slots := #[.int (-128)], vm := .none },
  { cls := 13, slots := #[.int (-127)], vm := .none },
  { cls := 13, slots := #[.int (-126)], vm := .none },
  { cls := 13, slots := #[.int (-125)], vm := .none },
  { cls := 13, slots := #[.int (-124)], vm := .none },
  { cls := 13, slots := #[.int (-123)], vm := .none },
  { cls := 13, slots := #[.int (-122)], vm := .none },
  { cls := 13, slots := #[.int (-121)], vm := .none },
  { cls := 13, slots := #[.int (-120)], vm := .none },
  { cls := 13, slots := #[.int (-119)], vm := .none },
  { cls := 13, slots := #[.int (-118)], vm := .none },
  { cls := 13, slots := #[.int (-117)], vm := .none },
  { cls := 13, slots := #[.int (-116)], vm := .none },
  { cls := 13, slots := #[.int (-115)], vm := .none },
  { cls := 13, slots := #[.int (-114)], vm := .none },
  { cls := 13, slots := #[.int (-113)], vm := .none },
  { cls := 13, slots := #[.int (-112)], vm := .none },
  { cls := 13, slots := #[.int (-111)], vm := .none },
  { cls := 13, slots := #[.int (-110)], vm := .none },
  { cls := 13, slots := #[.int (-109)], vm := .none },
  { cls := 13, slots := #[.int (-108)], vm := .none },
  { cls := 13, slots := #[.int (-107)], vm := .none },
  { cls := 13, slots := #[.int (-106)], vm := .none },
  { cls := 13, slots := #[.int (-105)], vm := .none },
  { cls := 13, slots := #[.int (-104)], vm := .none },
  { cls := 13, slots := #[.int (-103)], vm := .none },
  { cls := 13, slots := #[.int (-102)], vm := .none },
  { cls := 13, slots := #[.int (-101)], vm := .none },
  { cls := 13, slots := #[.int (-100)], vm := .none },
  { cls := 13, slots := #[.int (-99)], vm := .none },
  { cls := 13, slots := #[.int (-98)], vm := .none },
  { cls := 13, slots := #[.int (-97)], vm := .none },
  { cls := 13, slots := #[.int (-96)], vm := .none },
  { cls := 13, slots := #[.int (-95)], vm := .none },
  { cls := 13, slots := #[.int (-94)], vm := .none },
  { cls := 13, slots := #[.int (-93)], vm := .none },
  { cls := 13, slots := #[.int (-92)], vm := .none },
  { cls := 13, slots := #[.int (-91)], vm := .none },
  { cls := 13, slots := #[.int (-90)], vm := .none },
  { cls := 13, slots := #[.int (-89)], vm := .none },
  { cls := 13, slots := #[.int (-88)], vm := .none },
  { cls := 13, slots := #[.int (-87)], vm := .none },
  { cls := 13, slots := #[.int (-86)], vm := .none },
  { cls := 13, slots := #[.int (-85)], vm := .none },
  { cls := 13, slots := #[.int (-84)], vm := .none },
  { cls := 13, slots := #[.int (-83)], vm := .none },
  { cls := 13, slots := #[.int (-82)], vm := .none },
  { cls := 13, slots := #[.int (-81)], vm := .none },
  { cls := 13, slots := #[.int (-80)], vm := .none },
  { cls := 13, slots := #[.int (-79)], vm := .none },
  { cls := 13, slots := #[.int (-78)], vm := .none },
  { cls := 13, slots := #[.int (-77)], vm := .none },
  { cls := 13, slots := #[.int (-76)], vm := .none },
  { cls := 13, slots := #[.int (-75)], vm := .none },
  { cls := 13, slots := #[.int (-74)], vm := .none },
  { cls := 13, slots := #[.int (-73)], vm := .none },
  { cls := 13, slots := #[.int (-72)], vm := .none },
  { cls := 13, slots := #[.int (-71)], vm := .none },
  { cls := 13, slots := #[.int (-70)], vm := .none },
  { cls := 13, slots := #[.int (-69)], vm := .none },
  { cls := 13, slots := #[.int (-68)], vm := .none },
  { cls := 13, slots := #[.int (-67)], vm := .none },
  { cls := 13, slots := #[.int (-66)], vm := .none },
  { cls := 13, slots := #[.int (-65)], vm := .none },
  { cls := 13, slots := #[.int (-64)], vm := .none },
  { cls := 13, slots := #[.int (-63)], vm := .none },
  { cls := 13, slots := #[.int (-62)], vm := .none },
  { cls := 13, slots := #[.int (-61)], vm := .none },
  { cls := 13, slots := #[.int (-60)], vm := .none },
  { cls := 13, slots := #[.int (-59)], vm := .none },
  { cls := 13, slots := #[.int (-58)], vm := .none },
  { cls := 13, slots := #[.int (-57)], vm := .none },
  { cls := 13, slots := #[.int (-56)], vm := .none },
  { cls := 13, slots := #[.int (-55)], vm := .none },
  { cls := 13, slots := #[.int (-54)], vm := .none },
  { cls := 13, slots := #[.int (-53)], vm := .none },
  { cls := 13, slots := #[.int (-52)], vm := .none },
  { cls := 13, slots := #[.int (-51)], vm := .none },
  { cls := 13, slots := #[.int (-50)], vm := .none },
  { cls := 13, slots := #[.int (-49)], vm := .none },
  { cls := 13, slots := #[.int (-48)], vm := .none },
  { cls := 13, slots := #[.int (-47)], vm := .none },
  { cls := 13, slots := #[.int (-46)], vm := .none },
  { cls := 13, slots := #[.int (-45)], vm := .none },
  { cls := 13, slots := #[.int (-44)], vm := .none },
  { cls := 13, slots := #[.int (-43)], vm := .none },
  { cls := 13, slots := #[.int (-42)], vm := .none },
  { cls := 13, slots := #[.int (-41)], vm := .none },
  { cls := 13, slots := #[.int (-40)], vm := .none },
  { cls := 13, slots := #[.int (-39)], vm := .none },
  { cls := 13, slots := #[.int (-38)], vm := .none },
  { cls := 13, slots := #[.int (-37)], vm := .none },
  { cls := 13, slots := #[.int (-36)], vm := .none },
  { cls := 13, slots := #[.int (-35)], vm := .none },
  { cls := 13, slots := #[.int (-34)], vm := .none },
  { cls := 13, slots := #[.int (-33)], vm := .none },
  { cls := 13, slots := #[.int (-32)], vm := .none },
  { cls := 13, slots := #[.int (-31)], vm := .none },
  { cls := 13, slots := #[.int (-30)], vm := .none },
  { cls := 13, slots := #[.int (-29)], vm := .none },
  { cls := 13, slots := #[.int (-28)], vm := .none },
  { cls := 13, slots := #[.int (-27)], vm := .none },
  { cls := 13, slots := #[.int (-26)], vm := .none },
  { cls := 13, slots := #[.int (-25)], vm := .none },
  { cls := 13, slots := #[.int (-24)], vm := .none },
  { cls := 13, slots := #[.int (-23)], vm := .none },
  { cls := 13, slots := #[.int (-22)], vm := .none },
  { cls := 13, slots := #[.int (-21)], vm := .none },
  { cls := 13, slots := #[.int (-20)], vm := .none },
  { cls := 13, slots := #[.int (-19)], vm := .none },
  { cls := 13, slots := #[.int (-18)], vm := .none },
  { cls := 13, slots := #[.int (-17)], vm := .none },
  { cls := 13, slots := #[.int (-16)], vm := .none },
  { cls := 13, slots := #[.int (-15)], vm := .none },
  { cls := 13, slots := #[.int (-14)], vm := .none },
  { cls := 13, slots := #[.int (-13)], vm := .none },
  { cls := 13, slots := #[.int (-12)], vm := .none },
  { cls := 13, slots := #[.int (-11)], vm := .none },
  { cls := 13, slots := #[.int (-10)], vm := .none },
  { cls := 13, slots := #[.int (-9)], vm := .none },
  { cls := 13, slots := #[.int (-8)], vm := .none },
  { cls := 13, slots := #[.int (-7)], vm := .none },
  { cls := 13, slots := #[.int (-6)], vm := .none },
  { cls := 13, slots := #[.int (-5)], vm := .none },
  { cls := 13, slots := #[.int (-4)], vm := .none },
  { cls := 13, slots := #[.int (-3)], vm := .none },
  { cls := 13, slots := #[.int (-2)], vm := .none },
  { cls := 13, slots := #[.int (-1)], vm := .none },
  { cls := 13, slots := #[.int (0)], vm := .none },
  { cls := 13, slots := #[.int (1)], vm := .none },
  { cls := 13, slots := #[.int (2)], vm := .none },
  { cls := 13, slots := #[.int (3)], vm := .none },
  { cls := 13, slots := #[.int (4)], vm := .none },
  { cls := 13, slots := #[.int (5)], vm := .none },
  { cls := 13, slots := #[.int (6)], vm := .none },
  { cls := 13, slots := #[.int (7)], vm := .none },
  { cls := 13, slots := #[.int (8)], vm := .none },
  { cls := 13, slots := #[.int (9)], vm := .none },
  { cls := 13, slots := #[.int (10)], vm := .none },
  { cls := 13, slots := #[.int (11)], vm := .none },
  { cls := 13, slots := #[.int (12)], vm := .none },
  { cls := 13, slots := #[.int (13)], vm := .none },
  { cls := 13, slots := #[.int (14)], vm := .none },
  { cls := 13, slots := #[.int (15)], vm := .none },
  { cls := 13, slots := #[.int (16)], vm := .none },
  { cls := 13, slots := #[.int (17)], vm := .none },
  { cls := 13, slots := #[.int (18)], vm := .none },
  { cls := 13, slots := #[.int (19)], vm := .none },
  { cls := 13, slots := #[.int (20)], vm := .none },
  { cls := 13, slots := #[.int (21)], vm := .none },
  { cls := 13, slots := #[.int (22)], vm := .none },
  { cls := 13, slots := #[.int (23)], vm := .none },
  { cls := 13, slots := #[.int (24)], vm := .none },
  { cls := 13, slots := #[.int (25)], vm := .none },
  { cls := 13, slots := #[.int (26)], vm := .none },
  { cls := 13, slots := #[.int (27)], vm := .none },
  { cls := 13, slots := #[.int (28)], vm := .none },
  { cls := 13, slots := #[.int (29)], vm := .none },
  { cls := 13, slots := #[.int (30)], vm := .none },
  { cls := 13, slots := #[.int (31)], vm := .none },
  { cls := 13, slots := #[.int (32)], vm := .none },
  { cls := 13, slots := #[.int (33)], vm := .none },
  { cls := 13, slots := #[.int (34)], vm := .none },
  { cls := 13, slots := #[.int (35)], vm := .none },
  { cls := 13, slots := #[.int (36)], vm := .none },
  { cls := 13, slots := #[.int (37)], vm := .none },
  { cls := 13, slots := #[.int (38)], vm := .none },
  { cls := 13, slots := #[.int (39)], vm := .none },
  { cls := 13, slots := #[.int (40)], vm := .none },
  { cls := 13, slots := #[.int (41)], vm := .none },
  { cls := 13, slots := #[.int (42)], vm := .none },
  { cls := 13, slots := #[.int (43)], vm := .none },
  { cls := 13, slots := #[.int (44)], vm := .none },
  { cls := 13, slots := #[.int (45)], vm := .none },
  { cls := 13, slots := #[.int (46)], vm := .none },
  { cls := 13, slots := #[.int (47)], vm := .none },
  { cls := 13, slots := #[.int (48)], vm := .none },
  { cls := 13, slots := #[.int (49)], vm := .none },
  { cls := 13, slots := #[.int (50)], vm := .none },
  { cls := 13, slots := #[.int (51)], vm := .none },
  { cls := 13, slots := #[.int (52)], vm := .none },
  { cls := 13, slots := #[.int (53)], vm := .none },
  { cls := 13, slots := #[.int (54)], vm := .none },
  { cls := 13, slots := #[.int (55)], vm := .none },
  { cls := 13, slots := #[.int (56)], vm := .none },
  { cls := 13, slots := #[.int (57)], vm := .none },
  { cls := 13, slots := #[.int (58)], vm := .none },
  { cls := 13, slots := #[.int (59)], vm := .none },
  { cls := 13, slots := #[.int (60)], vm := .none },
  { cls := 13, slots := #[.int (61)], vm := .none },
  { cls := 13, slots := #[.int (62)], vm := .none },
  { cls := 13, slots := #[.int (63)], vm := .none },
  { cls := 13, slots := #[.int (64)], vm := .none },
  { cls := 13, slots := #[.int (65)], vm := .none },
  { cls := 13, slots := #[.int (66)], vm := .none },
  { cls := 13, slots := #[.int (67)], vm := .none },
  { cls := 13, slots := #[.int (68)], vm := .none },
  { cls := 13, slots := #[.int (69)], vm := .none },
  { cls := 13, slots := #[.int (70)], vm := .none },
  { cls := 13, slots := #[.int (71)], vm := .none },
  { cls := 13, slots := #[.int (72)], vm := .none },
  { cls := 13, slots := #[.int (73)], vm := .none },
  { cls := 13, slots := #[.int (74)], vm := .none },
  { cls := 13, slots := #[.int (75)], vm := .none },
  { cls := 13, slots := #[.int (76)], vm := .none },
  { cls := 13, slots := #[.int (77)], vm := .none },
  { cls := 13, slots := #[.int (78)], vm := .none },
  { cls := 13, slots := #[.int (79)], vm := .none },
  { cls := 13, slots := #[.int (80)], vm := .none },
  { cls := 13, slots := #[.int (81)], vm := .none },
  { cls := 13, slots := #[.int (82)], vm := .none },
  { cls := 13, slots := #[.int (83)], vm := .none },
  { cls := 13, slots := #[.int (84)], vm := .none },
  { cls := 13, slots := #[.int (85)], vm := .none },
  { cls := 13, slots := #[.int (86)], vm := .none },
  { cls := 13, slots := #[.int (87)], vm := .none },
  { cls := 13, slots := #[.int (88)], vm := .none },
  { cls := 13, slots := #[.int (89)], vm := .none },
  { cls := 13, slots := #[.int (90)], vm := .none },
  { cls := 13, slots := #[.int (91)], vm := .none },
  { cls := 13, slots := #[.int (92)], vm := .none },
  { cls := 13, slots := #[.int (93)], vm := .none },
  { cls := 13, slots := #[.int (94)], vm := .none },
  { cls := 13, slots := #[.int (95)], vm := .none },
  { cls := 13, slots := #[.int (96)], vm := .none },
  { cls := 13, slots := #[.int (97)], vm := .none },
  { cls := 13, slots := #[.int (98)], vm := .none },
  { cls := 13, slots := #[.int (99)], vm := .none },
  { cls := 13, slots := #[.int (100)], vm := .none },
  { cls := 13, slots := #[.int (101)], vm := .none },
  { cls := 13, slots := #[.int (102)], vm := .none },
  { cls := 13, slots := #[.int (103)], vm := .none },
  { cls := 13, slots := #[.int (104)], vm := .none },
  { cls := 13, slots := #[.int (105)], vm := .none },
  { cls := 13, slots := #[.int (106)], vm := .none },
  { cls := 13, slots := #[.int (107)], vm := .none },
  { cls := 13, slots := #[.int (108)], vm := .none },
  { cls := 13, slots := #[.int (109)], vm := .none },
  { cls := 13, slots := #[.int (110)], vm := .none },
  { cls := 13, slots := #[.int (111)], vm := .none },
  { cls := 13, slots := #[.int (112)], vm := .none },
  { cls := 13, slots := #[.int (113)], vm := .none },
  { cls := 13, slots := #[.int (114)], vm := .none },
  { cls := 13, slots := #[.int (115)], vm := .none },
  { cls := 13, slots := #[.int (116)], vm := .none },
  { cls := 13, slots := #[.int (117)], vm := .none },
  { cls := 13, slots := #[.int (118)], vm := .none },
  { cls := 13, slots := #[.int (119)], vm := .none },
  { cls := 13, slots := #[.int (120)], vm := .none },
  { cls := 13, slots := #[.int (121)], vm := .none },
  { cls := 13, slots := #[.int (122)], vm := .none },
  { cls := 13, slots := #[.int (123)], vm := .none },
  { cls := 13, slots := #[.int (124)], vm := .none },
  { cls := 13, slots := #[.int (125)], vm := .none },
  { cls := 13, slots := #[.int (126)], vm := .none },
  { cls := 13, slots := #[.int (127)], vm := .none }]
def classes : Array Class := #[k0, k1, k2, k3, k4, k5, k6, k7, k8, k9, k10, k11, k12, k13, k14, k15, k16, k17, k18, k19, k20]
def interned : List (Array UInt16 × Addr) := []
def slotsUsed : Nat := 533
def theMethod : MethodId := ⟨1, 2⟩
def args0 : Array Value := #[.int 5, .int 7, .long 5, .int 8, .long 6, .int 3]
def aboutOver (below : List Frame) : State where
  vm := { classes := classes, interned := interned.toArray }
  heap := heap
  slotsUsed := slotsUsed
  threads := #[{ frames := .invoking theMethod args0 :: below }]
def below0 : List Frame := [.native { method := ⟨0, 0⟩, args := #[] }]
def about1 : State := aboutOver below0
def p0 : Program := .bare "" "" ""
def e0 : Env := launch0.env 0 0 0
theorem w_frames : about1.frames = Frame.invoking theMethod args0 :: below0 := rfl
set_option maxRecDepth 65536 in
theorem w_args : argsFit about1.vm theMethod args0 = true := by decide +kernel
set_option maxRecDepth 65536 in
theorem w_heap : heapFits about1 = true := by decide +kernel
set_option maxRecDepth 65536 in
theorem w_runnable : about1.curStatus? = some .runnable := by decide +kernel
set_option maxRecDepth 65536 in
theorem w_alone : about1.alone = true := by decide +kernel
set_option maxRecDepth 65536 in
theorem w_named : about1.methodNamed? x = some theMethod := by decide +kernel
set_option maxRecDepth 65536 in
theorem w_hears : about1.hears theMethod below0 = true := by decide +kernel
set_option maxRecDepth 65536 in
theorem w_ripe : about1.ripe theMethod args0 below0 = true := by decide +kernel
theorem w_running : about1.status = .running := rfl
set_option maxRecDepth 65536 in
theorem w_room : about1.hasRoom e0.platform room_1 = true :=
  launch0.hasRoom_least _ room_1 (by decide +kernel) (by decide +kernel) (by decide +kernel) (by decide +kernel) (by decide +kernel) (by decide +kernel)
theorem allAtoms_all (ts : List Jvm.Cond) (a : Array Jvm.Value) (st : Jvm.State) : (allAtoms ts).before a st = ts.all (fun c => c.before a st) := by
  induction ts with
  | nil => rfl
  | cons c t ih =>
    show (Jvm.Cond.and c (allAtoms t)).before a st = _
    rw [Jvm.Cond.before_and, ih, List.all_cons]
def words1 : List Jvm.Cond := Jvm.Cond.code x code maxLocals ret :: tables_1
/-- a 'code' word, met by the world's own term for the bytes: nothing is compared byte by byte -/
theorem code_word {y : MethodName} {bytes : ByteArray} {mx : Nat} {rt : Option FieldType} {a : Array Value} {s : State} {m : MethodId} {meth : Method} {c : Code} (h1 : s.methodNamed? y = some m) (h2 : s.vm.method? m = some meth) (h3 : meth.code = some c) (h4 : c.code = bytes)
    (h5 : (c.maxLocals == mx && c.exceptionTable.isEmpty && decide (c.maxStack ≤ mostOperands) && decide (meth.sig.returnType = rt) && !meth.locks && decide (parseMethodDescriptor y.desc = some meth.sig)) = true) : (Jvm.Cond.code y bytes mx rt).before a s = true := by
  simp only [Bool.and_eq_true, beq_iff_eq, Bool.not_eq_true', decide_eq_true_eq] at h5
  obtain ⟨⟨⟨⟨⟨g1, g2⟩, g3⟩, g4⟩, g5⟩, g6⟩ := h5
  simp [Cond.before, Cond.holds, Cond.value, h1, h2, h3, h4, g1, g2, g3, g4, g5, g6]
def isCode : Jvm.Cond → Bool
  | .code _ _ _ _ => true
  | _ => false
theorem all_split {L : List Jvm.Cond} {P : Jvm.Cond → Bool} (h1 : L.all (fun c => isCode c || P c) = true) (h2 : ∀ c ∈ L.filter isCode, P c = true) : L.all P = true := by
  refine List.all_eq_true.mpr fun c hc => ?_
  have h := List.all_eq_true.mp h1 c hc
  rcases Bool.eq_false_or_eq_true (isCode c) with hi | hi
  · exact h2 c (List.mem_filter.mpr ⟨hc, hi⟩)
  · simpa [hi] using h
set_option maxRecDepth 65536 in
theorem w_c0 : (Jvm.Cond.code x code maxLocals ret).before args0 about1 = true := code_word (m := ⟨1, 2⟩) (meth := k1m2) (c := k1c2) (by decide +kernel) rfl rfl rfl (by decide +kernel)
set_option maxRecDepth 65536 in
theorem w_c1 : (Jvm.Cond.code ({ cls := "com/example/ballot/ballot/model/StatusEqualsPinLaw", name := "role", desc := "(I)Lcom/example/ballot/ballot/model/Role;" } : Jvm.MethodName) method_2_code (2 : Nat) (Option.some (Jvm.ClassFile.FieldType.object "com/example/ballot/ballot/model/Role"))).before args0 about1 = true := code_word (m := ⟨1, 1⟩) (meth := k1m1) (c := k1c1) (by decide +kernel) rfl rfl rfl (by decide +kernel)
set_option maxRecDepth 65536 in
theorem w_c2 : (Jvm.Cond.code ({ cls := "com/example/ballot/ballot/model/Status", name := "<init>", desc := "(ILcom/example/ballot/ballot/model/Role;IJ)V" } : Jvm.MethodName) prog_21_method_1_code (6 : Nat) (Option.none : Option Jvm.ClassFile.FieldType)).before args0 about1 = true := code_word (m := ⟨7, 0⟩) (meth := k7m0) (c := k7c0) (by decide +kernel) rfl rfl rfl (by decide +kernel)
set_option maxRecDepth 65536 in
theorem w_c3 : (Jvm.Cond.code ({ cls := "java/lang/Object", name := "<init>", desc := "()V" } : Jvm.MethodName) object_method_1_code (1 : Nat) (Option.none : Option Jvm.ClassFile.FieldType)).before args0 about1 = true := code_word (m := ⟨0, 0⟩) (meth := k0m0) (c := k0c0) (by decide +kernel) rfl rfl rfl (by decide +kernel)
set_option maxRecDepth 65536 in
theorem w_c4 : (Jvm.Cond.code ({ cls := "java/util/Objects", name := "requireNonNull", desc := "(Ljava/lang/Object;Ljava/lang/String;)Ljava/lang/Object;" } : Jvm.MethodName) jdk_31_method_11_code (2 : Nat) (Option.some (Jvm.ClassFile.FieldType.object "java/lang/Object"))).before args0 about1 = true := code_word (m := ⟨11, 1⟩) (meth := k11m1) (c := k11c1) (by decide +kernel) rfl rfl rfl (by decide +kernel)
set_option maxRecDepth 65536 in
theorem w_c5 : (Jvm.Cond.code ({ cls := "com/example/ballot/ballot/model/Status", name := "equals", desc := "(Ljava/lang/Object;)Z" } : Jvm.MethodName) prog_21_method_6_code (3 : Nat) (Option.some Jvm.ClassFile.FieldType.boolean)).before args0 about1 = true := code_word (m := ⟨7, 1⟩) (meth := k7m1) (c := k7c1) (by decide +kernel) rfl rfl rfl (by decide +kernel)
set_option maxRecDepth 65536 in
theorem w_c6 : (Jvm.Cond.code ({ cls := "java/lang/Integer", name := "valueOf", desc := "(I)Ljava/lang/Integer;" } : Jvm.MethodName) jdk_33_method_22_code (1 : Nat) (Option.some (Jvm.ClassFile.FieldType.object "java/lang/Integer"))).before args0 about1 = true := code_word (m := ⟨13, 0⟩) (meth := k13m0) (c := k13c0) (by decide +kernel) rfl rfl rfl (by decide +kernel)
set_option maxRecDepth 65536 in
theorem w_c7 : (Jvm.Cond.code ({ cls := "java/lang/Integer", name := "<init>", desc := "(I)V" } : Jvm.MethodName) jdk_33_method_23_code (2 : Nat) (Option.none : Option Jvm.ClassFile.FieldType)).before args0 about1 = true := code_word (m := ⟨13, 1⟩) (meth := k13m1) (c := k13c1) (by decide +kernel) rfl rfl rfl (by decide +kernel)
set_option maxRecDepth 65536 in
theorem w_c8 : (Jvm.Cond.code ({ cls := "java/lang/Number", name := "<init>", desc := "()V" } : Jvm.MethodName) jdk_18_method_1_code (1 : Nat) (Option.none : Option Jvm.ClassFile.FieldType)).before args0 about1 = true := code_word (m := ⟨12, 0⟩) (meth := k12m0) (c := k12c0) (by decide +kernel) rfl rfl rfl (by decide +kernel)
def codes1 : List Jvm.Cond := [Jvm.Cond.code x code maxLocals ret, Jvm.Cond.code ({ cls := "com/example/ballot/ballot/model/StatusEqualsPinLaw", name := "role", desc := "(I)Lcom/example/ballot/ballot/model/Role;" } : Jvm.MethodName) method_2_code (2 : Nat) (Option.some (Jvm.ClassFile.FieldType.object "com/example/ballot/ballot/model/Role")), Jvm.Cond.code ({ cls := "com/example/ballot/ballot/model/Status", name := "<init>", desc := "(ILcom/example/ballot/ballot/model/Role;IJ)V" } : Jvm.MethodName) prog_21_method_1_code (6 : Nat) (Option.none : Option Jvm.ClassFile.FieldType), Jvm.Cond.code ({ cls := "java/lang/Object", name := "<init>", desc := "()V" } : Jvm.MethodName) object_method_1_code (1 : Nat) (Option.none : Option Jvm.ClassFile.FieldType), Jvm.Cond.code ({ cls := "java/util/Objects", name := "requireNonNull", desc := "(Ljava/lang/Object;Ljava/lang/String;)Ljava/lang/Object;" } : Jvm.MethodName) jdk_31_method_11_code (2 : Nat) (Option.some (Jvm.ClassFile.FieldType.object "java/lang/Object")), Jvm.Cond.code ({ cls := "com/example/ballot/ballot/model/Status", name := "equals", desc := "(Ljava/lang/Object;)Z" } : Jvm.MethodName) prog_21_method_6_code (3 : Nat) (Option.some Jvm.ClassFile.FieldType.boolean), Jvm.Cond.code ({ cls := "java/lang/Integer", name := "valueOf", desc := "(I)Ljava/lang/Integer;" } : Jvm.MethodName) jdk_33_method_22_code (1 : Nat) (Option.some (Jvm.ClassFile.FieldType.object "java/lang/Integer")), Jvm.Cond.code ({ cls := "java/lang/Integer", name := "<init>", desc := "(I)V" } : Jvm.MethodName) jdk_33_method_23_code (2 : Nat) (Option.none : Option Jvm.ClassFile.FieldType), Jvm.Cond.code ({ cls := "java/lang/Number", name := "<init>", desc := "()V" } : Jvm.MethodName) jdk_18_method_1_code (1 : Nat) (Option.none : Option Jvm.ClassFile.FieldType)]
set_option maxRecDepth 65536 in
theorem codes_eq : words1.filter isCode = codes1 := rfl
theorem w_codes : ∀ c ∈ words1.filter isCode, c.before args0 about1 = true := by
  rw [codes_eq]
  intro c hc
  simp only [codes1, List.mem_cons, List.not_mem_nil, or_false] at hc
  rcases hc with rfl | rfl | rfl | rfl | rfl | rfl | rfl | rfl | rfl
  · exact w_c0
  · exact w_c1
  · exact w_c2
  · exact w_c3
  · exact w_c4
  · exact w_c5
  · exact w_c6
  · exact w_c7
  · exact w_c8
set_option maxRecDepth 65536 in
theorem w_t1 : (words1.take 24).all (fun c => isCode c || c.before args0 about1) = true := by decide +kernel
set_option maxRecDepth 65536 in
theorem w_t2 : ((words1.drop 24).take 24).all (fun c => isCode c || c.before args0 about1) = true := by decide +kernel
set_option maxRecDepth 65536 in
theorem w_t3 : (((words1.drop 24).drop 24).take 24).all (fun c => isCode c || c.before args0 about1) = true := by decide +kernel
set_option maxRecDepth 65536 in
theorem w_t4 : (((words1.drop 24).drop 24).drop 24).all (fun c => isCode c || c.before args0 about1) = true := by decide +kernel
theorem w_tables : (allAtoms (Jvm.Cond.code x code maxLocals ret :: tables_1)).before args0 about1 = true := by
  rw [allAtoms_all]
  show words1.all (fun c => c.before args0 about1) = true
  refine all_split ?_ w_codes
  rw [← List.take_append_drop 24 words1, List.all_append, w_t1, ← List.take_append_drop 24 (words1.drop 24), List.all_append, w_t2, ← List.take_append_drop 24 ((words1.drop 24).drop 24), List.all_append, w_t3, w_t4]
  rfl
set_option maxRecDepth 65536 in
theorem w_rest : rest_1_c.before args0 about1 = true := by decide +kernel
set_option maxRecDepth 65536 in
theorem w_case : (Jvm.Cond.and given_1 narrow_1).before args0 about1 = true := by decide +kernel
theorem w_applies : (headSpec (Jvm.Cond.code x code maxLocals ret :: tables_1) room_1).applies x e0.platform about1 = true :=
  (Spec.applies_iff w_frames).mpr ⟨w_running, w_runnable, w_alone, w_named, w_hears, w_ripe, w_room, w_tables⟩
theorem atStart : AtStart classFile x code maxLocals ret World_1 tables_1 room_1 Calls_1 rest_1 Pre_1 launch0 p0 e0 about1 theMethod args0 below0 :=
  ⟨lists_1, trivial, launch0.admits_env _ _ _, launch0.least_env, fairChoices_fair.cas, fairChoices_fair.clock, w_frames, w_args, w_heap, w_applies, trivial, w_rest, w_case⟩
end start1
theorem witness_1 : WitnessClaimed_1 := ⟨start1.p0, start1.e0, start1.about1, start1.theMethod, start1.args0, start1.below0, start1.atStart⟩
end Jvm.Pilot.@@N@@
